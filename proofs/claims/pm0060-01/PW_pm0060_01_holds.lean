import PyProof.Rows.All
import Wide.All
import OpenK.AllK
import Wide.FinOn
import PySem.Challenge.RW_pm0060_01
open PySem PySem.W PyProof.Rows PySem.Calls PySem.Spec
set_option Elab.async false
set_option maxRecDepth 100000
set_option maxHeartbeats 400000000
set_option rowWalk.seconds 0
set_option compiler.extract_closed false
namespace Mine
open_top hd for PySem.Challenge.rw_pm0060_01
theorem kfill_all : PySem.Challenge.rw_pm0060_01.name = PySem.Challenge.rw_pm0060_01.name ∧ hd.heap_39 = hd.heap_39 := by w_top off; k_fill; exact ⟨rfl, rfl⟩
variable {w : World} {p : Program} {loose : List Str} {mean : ExcName → Option Value} {mg mb : Str → Option Value} {dp un : Nat} {gd : Option (List Code)} {cn : Str} {cs : Scope} {a : Addr} {ccd : Value} {cl : List (Str × Addr)} {outer : List Env} {A₀ : Around} {base h₀ : Heap} {L : Addr} {m : Str → Option Value} {s : Shared} {Q E : Value → Shared → Prop} {news : List (Addr × Obj)}
noncomputable abbrev HW {α : Type} {M : Model} {A : Around} {Q : α → Shared → Prop} {E : Value → Shared → Prop} {s : Shared} (t : Sem α) : Prop := wpAny M A t Q E s
noncomputable abbrev H1 {M A Q E s x1} := wpAny M A (call (Value.builtin "len") [Value.ref x1]) Q E s
noncomputable abbrev H2 {M A Q E s x1 x2 x3 x4} := wpAny M A (subscriptTail x1 (PySem.Expr.Slice none none none x2) (Value.ref x3) (Value.ref x4)) Q E s
noncomputable abbrev H3 {M A Q E s x1 x2 x3} := wpAny M A (call (Value.builtin x1) [Value.ref x2, x3]) Q E s
noncomputable abbrev H4 {M A Q E s x1 x2 x3 x4 x5 x6 x7 x8} := wpAny M A (eval (PySem.Expr.ListComp x1 [PySem.Comprehension.mk (PySem.Expr.Name x2 x3) x4 [] x5] x6 x7) x8) Q E s
noncomputable abbrev H5 {M A Q E s x1 x2 x3 x4 x5 x6 x7 x8 x9 x10} := wpAny M A (exec (Stmt.Assign x1 (PySem.Expr.ListComp x2 [PySem.Comprehension.mk (PySem.Expr.Name x3 x4) x5 [] x6] x7 x8) x9) x10) Q E s
noncomputable abbrev H6 {M A Q E s x1 x2 x3 x4 x5 x6 x7 x8 x9} := wpAny M A (eval (PySem.Expr.ListComp x1 [PySem.Comprehension.mk (PySem.Expr.Name x2 x3) x4 [x5] x6] x7 x8) x9) Q E s
noncomputable abbrev H7 {M A Q E s x1 x2 x3 x4 x5 x6 x7 x8 x9 x10 x11} := wpAny M A (exec (Stmt.Assign x1 (PySem.Expr.ListComp x2 [PySem.Comprehension.mk (PySem.Expr.Name x3 x4) x5 [x6] x7] x8 x9) x10) x11) Q E s
noncomputable abbrev H8 {M A Q E s x1 x2 x3 x4 x5 x6 x7 x8 x9} := wpAny M A (eval (PySem.Expr.ListComp x1 [PySem.Comprehension.mk (PySem.Expr.Tuple x2 x3 x4) x5 [] x6] x7 x8) x9) Q E s
noncomputable abbrev H9 {M A Q E s x1 x2 x3 x4 x5 x6 x7 x8 x9 x10 x11} := wpAny M A (exec (Stmt.Assign x1 (PySem.Expr.ListComp x2 [PySem.Comprehension.mk (PySem.Expr.Tuple x3 x4 x5) x6 [] x7] x8 x9) x10) x11) Q E s
noncomputable abbrev H10 {M A Q E s x1 x2 x3} := wpAny M A (setItem (Value.ref x1) (Value.ref x2) (Value.ref x3)) Q E s
noncomputable abbrev H11 {M A Q E s x1 x2 x3 x4 x5} := wpAny M A (exec (Stmt.While x1 x2 x3 x4) x5) Q E s
noncomputable abbrev H12 {M A Q E s x1 x2} := wpAny M A (getMethod (Value.ref x1) (Str.ofString "search") x2) Q E s
noncomputable abbrev H13 {M A Q E s x1 x2} := wpAny M A (call (Value.builtin x1) [Value.ref 48, x2]) Q E s
noncomputable abbrev H14 {M A Q E s x1 x2} := wpAny M A (call (Value.builtin x1) [Value.ref 53, x2]) Q E s
noncomputable abbrev H15 {M A Q E s x1 x2} := wpAny M A (call (Value.ref 83) x1 x2) Q E s
noncomputable abbrev H16 {M A Q E s x1} := wpAny M A (call (Value.type "list") [Value.ref x1]) Q E s
noncomputable abbrev H17 {M A Q E s x1 x2 x3 x4 x5 x6} := wpAny M A (exec (Stmt.For x1 x2 x3 x4 x5) x6) Q E s
noncomputable abbrev H18 {M A Q E s x1} := wpAny M A (pyIter x1) Q E s
noncomputable abbrev H19 {x1 x2 x3 x4 x5 x6 x7 x8 x9 x10 x11 x12 x13 x14} := LCg.CompSrc x1 x2 x3 x4 x5 x6 x7 x8 x9 x10 x11 x12 x13 x14
noncomputable abbrev H20 {x1 x2 x3 x4 x5 x6 x7 x8 x9 x10 x11 x12 x13 x14 x15} := LCt.CompSrcT x1 x2 x3 x4 x5 x6 x7 x8 x9 x10 x11 x12 x13 x14 x15
noncomputable abbrev H21 {x1 x2 x3 x4 x5 x6 x7 x8 x9 x10 x11 x12 x13 x14 x15} := LCp.SrcLP x1 x2 x3 x4 x5 x6 x7 x8 x9 x10 x11 x12 x13 x14 x15
noncomputable abbrev H22 {M A Q E s x1 x2 x3} := wpAny M A (call (Value.builtin "str.join") [Value.str x1 x2, Value.ref x3]) Q E s
noncomputable abbrev H23 {M A Q E s x1} := wpAny M A (call (Value.ref 225) x1) Q E s
noncomputable abbrev H24 {M A Q E s x1 x2 x3 x4 x5} := wpAny M A (subscriptTail x1 x2 (Value.ref x3) (Value.int x4 x5)) Q E s
noncomputable abbrev H25 {M A Q E s x1 x2 x3} := wpAny M A (call (Value.ref x1) x2 x3) Q E s
noncomputable abbrev H26 {M A Q E s x1} := wpAny M A (call (Value.builtin "list.insert") x1) Q E s
noncomputable abbrev H27 {M A Q E s x1 x2} := wpAny M A (call (Value.type "int") [Value.float x1 x2]) Q E s
noncomputable abbrev H28 {M A Q E s x1 x2} := wpAny M A (binaryOp Operator.Div x1 x2) Q E s
noncomputable abbrev H29 {M A Q E s x1 x2 x3 x4 x5 x6} := wpAny M A (call (Value.builtin "max") [Value.float x1 x2, Value.float x3 x4, Value.float x5 x6]) Q E s
noncomputable abbrev H30 {M A Q E s x1 x2 x3 x4 x5 x6} := wpAny M A (call (Value.builtin "min") [Value.float x1 x2, Value.float x3 x4, Value.float x5 x6]) Q E s
noncomputable abbrev H31 {M A Q E s x1 x2} := wpAny M A (binaryOp Operator.Add (Value.ref x1) (Value.ref x2)) Q E s
noncomputable abbrev H32 {M A Q E s x1 x2 x3 x4} := wpAny M A (compareOp x1 (Value.int x2 x3) (Value.ref x4)) Q E s
noncomputable abbrev H33 {M A Q E s x1 x2 x3 x4} := wpAny M A (subscriptTail x1 x2 (Value.ref x3) (Value.int (-1) x4)) Q E s
noncomputable abbrev H34 {M A Q E s x1 x2 x3} := wpAny M A (compareOp x1 (Value.ref x2) (Value.ref x3)) Q E s
noncomputable abbrev H35 {M A Q E s x1 x2 x3 x4} := wpAny M A (call (Value.builtin "min") [Value.int x1 x2, Value.int x3 x4]) Q E s
noncomputable abbrev H36 {M A Q E s x1 x2 x3 x4} := wpAny M A (subscriptTail x1 x2 (Value.ref x3) (Value.ref x4)) Q E s
noncomputable abbrev H37 {M A Q E s x1} := wpAny M A (call (Value.ref 218) x1) Q E s
noncomputable abbrev H38 {M A Q E s x1} := wpAny M A (call (Value.ref 211) x1) Q E s
noncomputable abbrev H39 {M A Q E s x1} := wpAny M A (call (Value.ref 179) x1) Q E s
noncomputable abbrev H40 {M A Q E s x1 x2 x3} := wpAny M A (compareOp x1 x2 x3) Q E s
noncomputable abbrev H41 {M A Q E s x1 x2} := wpAny M A (compareOp CmpOp.NotEq (Value.ref x1) (Value.ref x2)) Q E s
noncomputable abbrev H42 {M A Q E s x1} := wpAny M A (call (Value.ref 204) x1) Q E s
noncomputable abbrev H43 {M A Q E s x1} := wpAny M A (call (Value.ref 129) x1) Q E s
noncomputable abbrev H44 {M A Q E s x1} := wpAny M A (call (Value.ref 121) x1) Q E s
noncomputable abbrev H45 {M A Q E s x1} := wpAny M A (call (Value.ref 230) x1) Q E s
noncomputable abbrev H46 {M A Q E s x1 x2 x3 x4 x5 x6 x7 x8} := wpAny M A (eval (PySem.Expr.ListComp (PySem.Expr.Call x1 x2 x3 x4) x5 x6 x7) x8) Q E s
noncomputable abbrev H47 {M A Q E s x1} := wpAny M A (call (Value.builtin "min") [Value.ref x1]) Q E s
noncomputable abbrev H48 {M A Q E s x1 x2} := wpAny M A (call (Value.ref 195) x1 x2) Q E s
noncomputable abbrev H49 {M A Q E s x1} := wpAny M A (call (Value.ref 102) x1) Q E s
noncomputable abbrev H50 {M A Q E s x1} := wpAny M A (call (Value.ref 139) x1) Q E s
noncomputable abbrev H51 {M A Q E s x1} := wpAny M A (call (Value.ref 134) x1) Q E s
noncomputable abbrev H52 {M A Q E s x1} := wpAny M A (call (Value.ref 146) x1) Q E s
noncomputable abbrev H53 {M A Q E s x1} := wpAny M A (call (Value.builtin "sorted") x1) Q E s
noncomputable abbrev H54 {M A Q E s x1} := wpAny M A (call (Value.builtin "list.pop") x1) Q E s
noncomputable abbrev H55 {M A Q E s x1 x2} := wpAny M A (delItem x1 x2) Q E s
noncomputable abbrev H56 {M A Q E s x1 x2 x3 x4} := wpAny M A (compareOp CmpOp.Eq (Value.str x1 x2) (Value.str x3 x4)) Q E s
noncomputable abbrev H57 {M A Q E s x1 x2 x3 x4 x5 x6 x7 x8 x9} := wpAny M A (execs (Stmt.Assign x1 x2 x3 :: Stmt.If x4 x5 x6 x7 :: x8) x9) Q E s
noncomputable abbrev H58 {M A Q E s x1} := wpAny M A (call (Value.type "str") x1) Q E s
noncomputable abbrev H59 {M A Q E s x1} := wpAny M A (call (Value.builtin "max") [Value.ref x1]) Q E s
noncomputable abbrev H60 {M A Q E s x1 x2 x3 x4 x5 x6 x7 x8 x9 x10 x11 x12} := wpAny M A (exec (Stmt.Assign [PySem.Expr.Name x1 x2] (PySem.Expr.ListComp (PySem.Expr.Call (PySem.Expr.Name x3 x4) x5 x6 x7) x8 x9 x10) x11) x12) Q E s
section S_A1
theorem mid {lo hi n len : Nat} (h : (lo : Int) < hi) (hn : n = hi - lo) (hl : hi ≤ len) : (lo + hi) / 2 - lo < n ∧ lo ≤ (lo + hi) / 2 ∧ (lo + hi) / 2 ≤ len ∧ (lo + hi) / 2 < len ∧ hi - ((lo + hi) / 2 + 1) < n ∧ (lo + hi) / 2 + 1 ≤ hi := by
  refine ⟨?_, ?_, ?_, ?_, ?_, ?_⟩ <;> omega
theorem midE {lo hi : Nat} : ((lo : Int) + (hi : Int)).fdiv 2 = (((lo + hi) / 2 : Nat) : Int) := by
  rw [Int.fdiv_eq_ediv_of_nonneg _ (by decide)]; omega
theorem maxT (n : Nat) : (max (0 : Int) (n : Int)).toNat = n := by omega
theorem ch0 {a b : Prop} (h : a ∧ b) : a := h.1
theorem ch1 {x0 a b : Prop} (h : x0 ∧ a ∧ b) : a := h.2.1
theorem ch2 {x0 x1 a b : Prop} (h : x0 ∧ x1 ∧ a ∧ b) : a := h.2.2.1
theorem ch3 {x0 x1 x2 a b : Prop} (h : x0 ∧ x1 ∧ x2 ∧ a ∧ b) : a := h.2.2.2.1
theorem ch4 {x0 x1 x2 x3 a b : Prop} (h : x0 ∧ x1 ∧ x2 ∧ x3 ∧ a ∧ b) : a := h.2.2.2.2.1
theorem ch5 {x0 x1 x2 x3 x4 a b : Prop} (h : x0 ∧ x1 ∧ x2 ∧ x3 ∧ x4 ∧ a ∧ b) : a := h.2.2.2.2.2.1
theorem ch6 {x0 x1 x2 x3 x4 x5 a b : Prop} (h : x0 ∧ x1 ∧ x2 ∧ x3 ∧ x4 ∧ x5 ∧ a ∧ b) : a := h.2.2.2.2.2.2.1
theorem ch7 {x0 x1 x2 x3 x4 x5 x6 a b : Prop} (h : x0 ∧ x1 ∧ x2 ∧ x3 ∧ x4 ∧ x5 ∧ x6 ∧ a ∧ b) : a := h.2.2.2.2.2.2.2.1
theorem ch8 {x0 x1 x2 x3 x4 x5 x6 x7 a b : Prop} (h : x0 ∧ x1 ∧ x2 ∧ x3 ∧ x4 ∧ x5 ∧ x6 ∧ x7 ∧ a ∧ b) : a := h.2.2.2.2.2.2.2.2.1
theorem ce1 {x0 a : Prop} (h : x0 ∧ a) : a := h.2
theorem ce2 {x0 x1 a : Prop} (h : x0 ∧ x1 ∧ a) : a := h.2.2
theorem ce3 {x0 x1 x2 a : Prop} (h : x0 ∧ x1 ∧ x2 ∧ a) : a := h.2.2.2
theorem ce4 {x0 x1 x2 x3 a : Prop} (h : x0 ∧ x1 ∧ x2 ∧ x3 ∧ a) : a := h.2.2.2.2
theorem ce5 {x0 x1 x2 x3 x4 a : Prop} (h : x0 ∧ x1 ∧ x2 ∧ x3 ∧ x4 ∧ a) : a := h.2.2.2.2.2
theorem ce6 {x0 x1 x2 x3 x4 x5 a : Prop} (h : x0 ∧ x1 ∧ x2 ∧ x3 ∧ x4 ∧ x5 ∧ a) : a := h.2.2.2.2.2.2
theorem ce7 {x0 x1 x2 x3 x4 x5 x6 a : Prop} (h : x0 ∧ x1 ∧ x2 ∧ x3 ∧ x4 ∧ x5 ∧ x6 ∧ a) : a := h.2.2.2.2.2.2.2
theorem ce8 {x0 x1 x2 x3 x4 x5 x6 x7 a : Prop} (h : x0 ∧ x1 ∧ x2 ∧ x3 ∧ x4 ∧ x5 ∧ x6 ∧ x7 ∧ a) : a := h.2.2.2.2.2.2.2.2
theorem natN (n : Nat) : (0 : Int) ≤ n := Int.natCast_nonneg n
theorem cps {G : Prop} (h : ∀ X : Prop, (G → X) → X) : G := h G id
theorem subN {α : Type} {l : List α} : ∀ q ∈ ([] : List α), q ∈ l := fun _ h => nomatch h
theorem subC {α : Type} {a : α} {l l' : List α} (h : a ∈ l) (t : ∀ q ∈ l', q ∈ l) : ∀ q ∈ a :: l', q ∈ l
  | _, .head _ => h
  | _, .tail _ i => t _ i
theorem subT {α : Type} {a : α} {l l' : List α} (t : ∀ q ∈ l', q ∈ l) : ∀ q ∈ l', q ∈ a :: l := fun q h => .tail _ (t q h)
theorem neC {a : Addr × Obj} {l : List (Addr × Obj)} {b : Addr} (h : @Ne Nat a.1 b) (t : ∀ q ∈ l, @Ne Nat q.1 b) : ∀ q ∈ a :: l, @Ne Nat q.1 b
  | _, .head _ => h
  | _, .tail _ i => t _ i
theorem n1_3 {n : Nat} (h : n ≤ 4) : n - 1 ≤ 3 := Nat.sub_le_of_le_add h
theorem n1_1000 {n : Nat} (h : n ≤ 4) : n - 1 < 1000 := Nat.lt_of_le_of_lt (n1_3 h) (by decide)
noncomputable def Has (m : Str → Option Value) : List (Str × Value) → Prop
  | [] => True
  | p :: r => m p.1 = some p.2 ∧ Has m r
theorem Has.all {m : Str → Option Value} : ∀ {l : List (Str × Value)}, Has m l → ∀ p ∈ l, m p.1 = some p.2
  | _ :: _, ⟨h, _⟩, _, .head _ => h
  | _ :: _, ⟨_, r⟩, _, .tail _ i => r.all _ i
theorem frOv {h₀ h : Heap} {L : Addr} {m : Str → Option Value} (ps : List (Str × Value)) (F : Fr h₀ L h m) (hp : Has m ps) : ∃ mr, Fr h₀ L h (kstB mr ps) := by
  refine ⟨m, ?_⟩
  have e : kstB m ps = m := by
    funext z
    exact kstB_eq hp.all fun _ => rfl
  rw [e]; exact F
theorem allLt_all {d : Addr} {l : List (Addr × Obj)} (h : AllLt d l) : ∀ p ∈ l, p.1 < d := by
  induction l with
  | nil => intro p hp; cases hp
  | cons q r ih =>
    intro p hp
    rcases List.mem_cons.mp hp with e | hp
    · rw [e]; exact h.1
    · exact ih h.2 p hp
section
variable {prog : Program} {w : World} {A : Around} {E : Value → Shared → Prop} {s : Shared} {h₀ : Heap} {L l : Addr} {m : Str → Option Value} {news : List (Addr × Obj)} {its : Array Value} {nn : Nat} {d : Option Addr} {sl : Array (Option Value)}
theorem r_len {Q : Value → Shared → Prop} (N : News h₀ L s.heap news) (hm : (l, ({ cls := .type "list", dict := d, data := .seq its nn, slots := sl } : Obj)) ∈ news) (hz : its.size < 2 ^ 40)
    (h : ∀ t tk, Q (.int its.size t) { s with toks := tk }) : wpAny (model prog w) A (call (.builtin "len") [.ref l]) Q E s :=
  call_len_list (N.isList hm) (by omega) (h _ _)
theorem r_append {vs : List Value} {v : Value} {news' : List (Addr × Obj)} {Q : Value → Shared → Prop} (F : Fr h₀ L s.heap m) (N : News h₀ L s.heap news)
    (U : Upd l ({ cls := .type "list", data := .seq vs.toArray nn } : Obj) ({ cls := .type "list", data := .seq (vs ++ [v]).toArray (nn + 1) } : Obj) news news') (hz : vs.toArray.size ≤ sizeLine)
    (h : ∀ h', Fr h₀ L h' m → News h₀ L h' news' → Q .none { s with heap := h' }) : wpAny (model prog w) A (call (.builtin "list.append") [.ref l, v]) Q E s :=
  append_K F N (by simpa using U) h hz
theorem r_item {value slice : PySem.Expr} {k : Int} {u : Tok} {v : Value} {Q : Value → Shared → Prop} (N : News h₀ L s.heap news) (hm : (l, ({ cls := .type "list", dict := d, data := .seq its nn, slots := sl } : Obj)) ∈ news) (h0 : 0 ≤ k) (hfit : k < 2 ^ 63)
    (hx : its[k.toNat]? = some v) (h : Q v s)
    (hs : subscripted slice false (.ref l) (.int k u) = operate [.ref l, .int k u] (getItem (.ref l) (.int k u)) := by with_unfolding_all rfl) (hg : ∀ r, letTemporaryGo value (.ref l) r = pure () := by intro _; with_unfolding_all rfl) :
    wpAny (model prog w) A (subscriptTail value slice (.ref l) (.int k u)) Q E s := item_list (N.isList hm) h0 hfit hx h hs hg
theorem r_item_int {value slice : PySem.Expr} {k : Int} {u : Tok} {vs : List Value} {ns : List Int} {Q : Value → Shared → Prop} (N : News h₀ L s.heap news) (hm : (l, ({ cls := .type "list", dict := d, data := .seq vs.toArray nn, slots := sl } : Obj)) ∈ news) (hi : IntsAre vs ns) (h0 : 0 ≤ k) (h1 : k < ns.length) (hfit : k < 2 ^ 63)
    (h : ∀ n t, ns[k.toNat]? = some n → Q (.int n t) s)
    (hs : subscripted slice false (.ref l) (.int k u) = operate [.ref l, .int k u] (getItem (.ref l) (.int k u)) := by with_unfolding_all rfl) (hg : ∀ r, letTemporaryGo value (.ref l) r = pure () := by intro _; with_unfolding_all rfl) :
    wpAny (model prog w) A (subscriptTail value slice (.ref l) (.int k u)) Q E s := by
  have hk : k.toNat < ns.length := by omega
  have e : ns[k.toNat]? = some ns[k.toNat] := List.getElem?_eq_getElem hk
  obtain ⟨t, hx⟩ := hi.get k.toNat _ e
  exact item_list (N.isList hm) h0 hfit (by simpa using hx) (h _ t e) hs hg
end
end S_A1
local macro_rules | `(tactic| walk_at "lt") => `(tactic| with_reducible first | exact ch0 (by assumption) | exact ch1 (by assumption) | exact ch2 (by assumption) | exact ch3 (by assumption) | exact ch4 (by assumption) | exact ch5 (by assumption) | exact ch6 (by assumption) | exact ch7 (by assumption) | exact ch8 (by assumption) | exact ce1 (by assumption) | exact ce2 (by assumption) | exact ce3 (by assumption) | exact ce4 (by assumption) | exact ce5 (by assumption) | exact ce6 (by assumption) | exact ce7 (by assumption) | exact ce8 (by assumption))
local macro_rules | `(tactic| omega) => `(tactic| first | with_reducible assumption | with_reducible exact Ne.symm (by assumption) | with_reducible exact Nat.ne_of_lt (by assumption) | with_reducible exact Nat.ne_of_gt (by assumption) | with_reducible exact Nat.le_of_lt (by assumption) | with_reducible exact natN _ | decide)
local macro_rules | `(tactic| walk_at "sub") => `(tactic| repeat' (first | with_reducible exact fun _ h => h | exact subN | with_reducible refine subC ?_ ?_ | with_reducible refine subT ?_ | k_mem | exact .head _ | exact .tail _ (.head _)))
set_option hygiene false in
local macro_rules | `(tactic| walk_at "enter") => `(tactic| first
  | (refine' code_def (by k_asm) (by k_asm) (by k_asm) (by k_asm) (by k_asm) (by exact rfl) (by exact rfl) (by first | exact rfl | assumption) (by k_is) (by k_is) (by ktr_room) (by first | exact BindsTo.of_eq rfl | exact binds_K (by k_in) rfl (by k_is) rfl rfl rfl | (refine' kp_binds ?kx ?ke; (case kx => k_in); (case ke => exact fun _ => rfl))) (by exact locs rfl) ?_ (by exact rfl) (by exact rfl) (by exact rfl) (by decide); k_whole; intro g' L' h' FG' F' N' B' X' T'; (try dsimp only); (try k_fold))
  | (refine' code_defC (by k_asm) (by k_asm) (by k_asm) (by k_asm) (by k_asm) (by exact rfl) (by exact rfl) (by first | exact rfl | assumption) (by k_is) (by k_is) (by ktr_room) (by first | exact BindsTo.of_eq rfl | exact binds_K (by k_in) rfl (by k_is) rfl rfl rfl | (refine' kp_binds ?kx ?ke; (case kx => k_in); (case ke => exact fun _ => rfl))) (by exact rfl) (by decide +kernel) ?_ (by exact rfl) (by exact rfl) (by exact rfl); k_whole; intro g' L' h' tk' cells' FG' F' N' Y' B' X' T' l1; (try k_lt l1); k_cells Y'; (try simp only [List.cons_append, List.nil_append] at N'); (try dsimp only); (try k_fold)))
set_option hygiene false in
local macro_rules | `(tactic| walk_at "go") => `(tactic| repeat' (first | (k_unfold; (try dsimp only)) | ((fail_if_success (walk_at "halt")); first | (k_end; kc_close) | walk1 | (dsimp only; walk1) | (leave1; walk_say "STEP leave1"; (try dsimp only))) | fail "no step"))
local macro_rules | `(tactic| walk_at "size") => `(tactic| ((try simp only [List.size_toArray, List.length_append, List.length_cons, List.length_nil]); omega))
set_option hygiene false in
local macro_rules | `(tactic| walk_at "call builtin:len") => `(tactic| ((with_reducible show H1); (refine' r_len (by k_asm) (by k_mem) (by walk_at "size") ?_; k_whole); intro t' tk'; (try simp only [List.size_toArray])))
local macro_rules | `(tactic| k_mem) => `(tactic| first | with_reducible assumption | with_reducible exact List.mem_cons_self | (with_reducible refine List.mem_cons_of_mem _ ?_; k_mem))
local macro_rules | `(tactic| k_all) => `(tactic| with_reducible assumption)
local macro_rules | `(tactic| walk_at "line") => `(tactic| (rw [sizeLine_eq]; (try simp only [List.size_toArray]); omega))
set_option hygiene false in
local macro_rules | `(tactic| walk_at "enter more") => `(tactic| (refine' kp_more (by k_asm) (by k_asm) (by k_asm) (by k_asm) (by k_asm) (by exact rfl) (by exact rfl) (by first | exact rfl | assumption) (by k_is) (by k_is) (by ktr_room) (by kp_lit) (by exact rfl) (by exact rfl) (by kp_flats) (by exact rfl) (by exact rfl) (by exact fun _ => rfl) (by exact fun _ => locs rfl) ?_ (by exact rfl) (by exact rfl) (by exact rfl) (by decide); k_whole; intro D' o' g' L' h' tk' l1 lo' hs' fs' FG' F' N' B' X' T'; (try k_lt l1); (try dsimp only); (try k_fold)))
set_option hygiene false in
local macro_rules | `(tactic| walk_at "subscriptTail Name Slice ref ref") => `(tactic| ((with_reducible show H2); k_dflt (refine' kmk_slice_lit (by k_asm) (by k_asm) (by exact News.isList (by k_asm) (by k_mem)) (by exact IsPart.none) (by exact IsPart.none) (by exact congrArg Array.toList (slicePick_all _)) ?_ (by with_unfolding_all rfl) (by kmk_pure) (by walk_at "line")); intro D' h' F' N' l1))
set_option hygiene false in
local macro_rules | `(tactic| walk_at "call builtin:list.append") => `(tactic| ((with_reducible show H3); k_dflt (refine' r_append (by k_asm) (by k_asm) (by k_upd) (by walk_at "line") ?_; k_whole); intro h' F' N'; (try k_sweep)))
section S_A2
theorem afresh1 : True := by w_top off; trivial
noncomputable def MEnd (h₀ : Heap) (L : Addr) (I : Addr) (oI : Obj) (J : (Str → Option Value) → List (Addr × Obj) → Prop) (s s₃ : Shared) : Prop :=
  ∃ m' nx' h' tk', s₃ = { s with heap := h', toks := tk' } ∧ Fr h₀ L h' m' ∧ News h₀ L h' ((I, oI) :: nx') ∧ (∀ p ∈ nx', p.1 ≠ I) ∧ J m' nx'
noncomputable def MTurn (h₀ : Heap) (L : Addr) (I : Addr) (oI : Obj) (J : (Str → Option Value) → List (Addr × Obj) → Prop) (s : Shared) (Q : Flow → Shared → Prop) (f : Flow) (s₃ : Shared) : Prop := match f with
  | .ret v => Q (.ret v) s₃
  | .brk => Q .next s₃
  | _ => MEnd h₀ L I oI J s s₃
theorem MEnd.intro {h₀ h' : Heap} {L I : Addr} {oI : Obj} {J : (Str → Option Value) → List (Addr × Obj) → Prop} {s : Shared} {m' : Str → Option Value} {all : List (Addr × Obj)} {tk' : Nat} (F : Fr h₀ L h' m') (N : News h₀ L h' all) (nx' : List (Addr × Obj))
    (hI : (I, oI) ∈ all) (hs : ∀ p ∈ nx', p ∈ all) (hn : ∀ p ∈ nx', p.1 ≠ I) (hj : J m' nx') : MEnd h₀ L I oI J s { s with heap := h', toks := tk' } :=
  ⟨m', nx', h', tk', rfl, F, fun p hp => by
    rcases List.mem_cons.mp hp with rfl | hp
    · exact N _ hI
    · exact N _ (hs p hp), hn, hj⟩
section
variable {prog : Program} {w : World} {A : Around} {E : Value → Shared → Prop} {s : Shared} {env : Env} {h₀ : Heap} {m : Str → Option Value} {news : List (Addr × Obj)} {Q : Flow → Shared → Prop}
theorem r_for {target iter : PySem.Expr} {body : List Stmt} {pos : Pos}
    (h : wpAny (model prog w) A (eval iter env) (fun x s₁ => wpAny (model prog w) A (pyIter x) (fun it s₂ =>
      codeAny (model prog w) A (.forLoop target it body [] env) (fun r s' => match r with | .ok f => Q f s' | .error e => cameBackBy (model prog w) A env E e s') s₂) E s₁) E s)
    (hs : ∀ x, foldedSetIterable iter env x = pure x := by intro _; rfl) :
    wpAny (model prog w) A (exec (.For target iter body [] pos) env) Q E s := wpAny_For h hs
theorem forLoop_go {R : Result → Shared → Prop} {target : PySem.Expr} {it : Value} {body : List Stmt} (I : Nat → Shared → Prop)
    (turn : ∀ n s, I n s → wpAny (model prog w) A (pyNext it) (fun r s₁ => match r with
      | none => R (.ok .next) s₁
      | some v => wpAny (model prog w) A (letOwnedTupleGo target it v) (fun _ s₁ => wpAny (model prog w) A (assign target env v) (fun _ s₂ => wpAny (model prog w) A (execs body env) (fun f s₃ => match f with
          | .next | .cont => ∃ m, m < n ∧ I m s₃
          | .brk => R (.ok .next) s₃
          | .ret v => R (.ok (.ret v)) s₃) (notedBy (model prog w) A env fun e s' => R (.error e) s') s₂) (notedBy (model prog w) A env fun e s' => R (.error e) s') s₁) (notedBy (model prog w) A env fun e s' => R (.error e) s') s₁)
      (notedBy (model prog w) A env fun e s' => R (.error e) s') s)
    (n : Nat) (h : I n s) : codeAny (model prog w) A (.forLoop target it body [] env) R s := by
  refine codeAny_loop' rfl I (fun n s hI => ?_) n h
  show wpAny _ _ ((forTurn target it body [] env).onRaise (fun x => do noteFrame x env; theTreesLotGoes x)) _ _ s
  refine wpAny_noted ?_
  simp only [forTurn]
  refine wpAny_bind (wpAny_standAt (wpAny_bind (wpAny_onRaise (wpAny_mono (turn n s hI) (fun r s₁ h₁ => ?_) fun _ _ h' => wpAny_standAt h'))))
  cases r with
  | none => exact wpAny_pure (.inr ⟨rfl, codeAny_block (wpAny_execs_nil h₁)⟩)
  | some v =>
    refine wpAny_bind (wpAny_mono h₁ (fun _ s₂ h₂ => ?_) fun _ _ h' => h')
    refine wpAny_bind (wpAny_mono h₂ (fun _ s₃ h₃ => ?_) fun _ _ h' => h')
    refine wpAny_bind (wpAny_mono h₃ (fun f s₄ h₄ => ?_) fun _ _ h' => h')
    cases f with
    | next => exact wpAny_pure (.inl ⟨rfl, h₄⟩)
    | cont => exact wpAny_pure (.inl ⟨rfl, h₄⟩)
    | brk => exact wpAny_pure h₄
    | ret v => exact wpAny_pure h₄
theorem r_walks {target : PySem.Expr} {body : List Stmt} {I : Addr} {fp : List Addr} {n : Nat} {P : Nat → Value → Prop} {St : Nat → Heap → Prop} {S : List (Addr × Obj) → Prop} {R : Result → Shared → Prop} (J : Nat → (Str → Option Value) → List (Addr × Obj) → Prop)
    (W : Walks prog w A I fp [I] n P St) (hIo : ∀ i h, St i h → ∃ o, h.get? I = some o)
    (hSt : ∀ i h h' o nw, St i h → h.get? I = some o → h'.get? I = some o → (∀ b o, h₀.get? b = some o → h'.get? b = some o) → News h₀ env.locals h' nw → S nw → St i h')
    (hJS : ∀ i m nx, J i m nx → S nx) (hLI : env.locals ≠ I) (hI₀ : h₀.get? I = none) (hst : St 0 s.heap) (F : Fr h₀ env.locals s.heap m) (N : News h₀ env.locals s.heap news) (off : ∀ p ∈ news, p.1 ≠ I) (hj : J 0 m news)
    (hR : ∀ v s', Q (.ret v) s' → R (.ok (.ret v)) s') (hRn : ∀ s', Q .next s' → R (.ok .next) s')
    (turn : ∀ i v oI m₁ nx h tk, i < n → P i v → J i m₁ nx → (∀ p ∈ nx, p.1 ≠ I) → Fr h₀ env.locals h m₁ → News h₀ env.locals h ((I, oI) :: nx) →
      wpAny (model prog w) A (assign target env v) (fun _ s₂ => wpAny (model prog w) A (execs body env) (MTurn h₀ env.locals I oI (J (i + 1)) { s with heap := h, toks := tk } Q)
        (notedBy (model prog w) A env fun e s' => R (.error e) s') s₂) (notedBy (model prog w) A env fun e s' => R (.error e) s') { s with heap := h, toks := tk })
    (done : ∀ m₁ nx h tk, J n m₁ nx → Fr h₀ env.locals h m₁ → News h₀ env.locals h nx → Q .next { s with heap := h, toks := tk })
    (ht : ∀ i v (s : Shared) (Q : Unit → Shared → Prop) (E : Value → Shared → Prop), St i s.heap → Q () s → wpAny (model prog w) A (letOwnedTupleGo target (.ref I) v) Q E s) :
    codeAny (model prog w) A (.forLoop target (.ref I) body [] env) R s := by
  refine forLoop_go (fun k s' => ∃ h' tk m' nx i, s' = { s with heap := h', toks := tk } ∧ St i h' ∧ Fr h₀ env.locals h' m' ∧ News h₀ env.locals h' nx ∧ (∀ p ∈ nx, p.1 ≠ I) ∧ J i m' nx ∧ i ≤ n ∧ k = n + 1 - i) ?_ (n + 1)
    ⟨s.heap, s.toks, m, news, 0, rfl, hst, F, N, off, hj, Nat.zero_le _, rfl⟩
  intro k s' zzh; refine cps fun zzX zzk => ?_
  obtain ⟨h', tk, m', nx, i, rfl, hst', F', N', off', hJ, hi, rfl⟩ := zzh
  refine zzk ?_; clear zzk zzX
  have next : ∀ h₁ : Heap, (∀ b o, b ∉ [I] → h'.get? b = some o → h₁.get? b = some o) → Fr h₀ env.locals h₁ m' ∧ News h₀ env.locals h₁ nx := fun h₁ hk₁ =>
    ⟨⟨F'.ns.at' fun o e => hk₁ _ o (by simpa using hLI) e, fun b o e => hk₁ b o (fun q => by rw [List.mem_singleton.mp q, hI₀] at e; cases e) (F'.keep b o e), F'.above⟩,
      fun p hp => ⟨hk₁ _ _ (by simpa using off' p hp) (N' p hp).1, (N' p hp).2⟩⟩
  by_cases hlt : i < n
  · refine W.item i _ _ _ hlt hst' fun v h₁ tk₁ hP hst₁ hk₁ => ?_
    obtain ⟨F₁, N₁⟩ := next h₁ hk₁
    obtain ⟨oI, hoI⟩ := hIo _ _ hst₁
    have NI : News h₀ env.locals h₁ ((I, oI) :: nx) := fun p hp => by
      rcases List.mem_cons.mp hp with rfl | hp
      · exact ⟨hoI, Ne.symm hLI, hI₀⟩
      · exact N₁ p hp
    refine ht _ v _ _ _ hst₁ ?_
    refine wpAny_mono (turn i v oI m' nx h₁ tk₁ hlt hP hJ off' F₁ NI) (fun _ s₂ h₂ => wpAny_mono h₂ (fun f s₃ h₃ => ?_) fun _ _ x => x) fun _ _ x => x
    have fin : MEnd h₀ env.locals I oI (J (i + 1)) { s with heap := h₁, toks := tk₁ } s₃ → ∃ m, m < n + 1 - i ∧ ∃ h' tk m' nx i', s₃ = { s with heap := h', toks := tk } ∧ St i' h' ∧ Fr h₀ env.locals h' m' ∧ News h₀ env.locals h' nx ∧ (∀ p ∈ nx, p.1 ≠ I) ∧ J i' m' nx ∧ i' ≤ n ∧ m = n + 1 - i' := by
      intro zzh; refine cps fun zzX zzk => ?_
      obtain ⟨m₃, nx₃, hp₃, tk₃, rfl, F₃, N₃, off₃, hJ₃⟩ := zzh
      refine zzk ?_; clear zzk zzX
      refine ⟨n + 1 - (i + 1), by omega, hp₃, tk₃, m₃, nx₃, i + 1, rfl, ?_, F₃, fun p hp => N₃ p (.tail _ hp), off₃, hJ₃, hlt, rfl⟩
      exact hSt _ _ _ oI nx₃ hst₁ hoI (N₃ _ (.head _)).1 F₃.keep (fun p hp => N₃ p (.tail _ hp)) (hJS _ _ _ hJ₃)
    cases f with
    | next => exact fin h₃
    | cont => exact fin h₃
    | brk => exact hRn _ h₃
    | ret v => exact hR _ _ h₃
  · have hin : i = n := by omega
    subst hin
    refine W.done _ _ _ hst' fun h₁ tk₁ hk₁ => ?_
    obtain ⟨F₁, N₁⟩ := next h₁ hk₁
    exact hRn _ (done m' nx h₁ tk₁ hJ F₁ N₁)
/-- a for over a list of the ledger that the body leaves as it is -/
theorem r_iterL {target : PySem.Expr} {body : List Stmt} {l : Addr} {vs : List Value} {nn : Nat} (J : Nat → (Str → Option Value) → List (Addr × Obj) → Prop)
    (hh : A.handled = none) (F : Fr h₀ env.locals s.heap m) (N : News h₀ env.locals s.heap news) (hj : J 0 m news) (hl : ∀ i m nx, J i m nx → (l, ({ cls := .type "list", data := .seq vs.toArray nn } : Obj)) ∈ nx)
    (turn : ∀ i v I oI m₁ nx h tk, vs[i]? = some v → J i m₁ nx → (∀ p ∈ nx, p.1 ≠ I) → Fr h₀ env.locals h m₁ → News h₀ env.locals h ((I, oI) :: nx) →
      wpAny (model prog w) A (assign target env v) (fun _ s₂ => wpAny (model prog w) A (execs body env) (MTurn h₀ env.locals I oI (J (i + 1)) { s with heap := h, toks := tk } Q) E s₂) E { s with heap := h, toks := tk })
    (done : ∀ m₁ nx h tk, J vs.length m₁ nx → Fr h₀ env.locals h m₁ → News h₀ env.locals h nx → Q .next { s with heap := h, toks := tk })
    (hE : PassesOwn (model prog w) A env E := by passes_own) (ht : (∀ it v, letOwnedTupleGo target it v = pure ()) ∨ ∃ elts k pos, target = .Tuple elts k pos := by first | exact .inl (fun _ _ => rfl) | exact .inr ⟨_, _, _, rfl⟩) :
    wpAny (model prog w) A (pyIter (.ref l)) (fun it s₂ => codeAny (model prog w) A (.forLoop target it body [] env) (fun r s' => match r with | .ok f => Q f s' | .error e => cameBackBy (model prog w) A env E e s') s₂) E s := by
  have hls : s.heap.IsList l vs.toArray := N.isList (hl _ _ _ hj)
  have hlt : l < s.heap.objs.size := Heap.lt_size (N _ (hl _ _ _ hj)).1
  refine wpAny_pyIter_list hls ?_
  have W := Walks.list (prog := prog) (w := w) hh s.heap.objs.size l (Nat.ne_of_lt hlt) vs.toArray
  have push : ∀ b o, s.heap.get? b = some o → (s.heap.push { cls := .type "list_iterator", data := .fields #[.ref l, .int 0 0] }).get? b = some o := fun b o e => Heap.get?_push_of_some _ e
  refine r_walks (S := fun nx => (l, ({ cls := .type "list", data := .seq vs.toArray nn } : Obj)) ∈ nx) (R := fun r s' => match r with | .ok f => Q f s' | .error e => cameBackBy (model prog w) A env E e s') J W (fun i h st => ?_) (fun i h h' o nw st e e' _ N' hS => ⟨?_, N'.isList hS⟩) (fun i m nx hJ => hl i m nx hJ) (Nat.ne_of_lt F.ns.lt) (next_is_new F)
    ⟨⟨_, Heap.get?_push_size _ rfl, rfl, rfl⟩, hls.at fun o e => push _ o e⟩ (F.keeps push) (N.grown push) (fun p hp => Nat.ne_of_lt (Heap.lt_size (N p hp).1)) hj (fun _ _ x => x) (fun _ x => x) ?_ (fun m₁ nx h tk hJ => done m₁ nx h tk (by simpa using hJ)) (fun i v s Q E st q => ?_)
  · obtain ⟨o, e, _⟩ := st.1
    exact ⟨o, e⟩
  · obtain ⟨o₁, e₁, r⟩ := st.1
    rw [e] at e₁
    cases e₁
    exact ⟨o, e', r⟩
  · intro i v oI m₁ nx h tk hi hP hJ off F₁ N₁
    have hv : vs[i]? = some v := by simpa using hP
    exact wpAny_passesOwn hE (wpAny_mono (turn i v _ oI m₁ nx h tk hv hJ off F₁ N₁) (fun _ s₂ h₂ => wpAny_passesOwn hE h₂) fun _ _ x => x)
  · rcases ht with ht | ⟨elts, k, pos, rfl⟩
    · rw [ht]; exact wpAny_pure q
    · cases v with
      | ref T => exact wpAny_letOwnedTupleGo_listiter st.1 q
      | _ => exact wpAny_pure q
end
end S_A2
local macro_rules | `(tactic| walk_at "MTurn") => `(tactic| (dsimp only [MTurn]))
section S_A3
section
open LCg LCt LCp
variable {prog : Program} {w : World} {A : Around} {E : Value → Shared → Prop} {s : Shared} {h₀ : Heap} {L : Addr} {m : Str → Option Value} {env : Env} {elt ct : PySem.Expr} {x x₂ : Str} {scope : Scope} {cl : List (Str × Addr)} {S : List (Addr × Obj) → Prop} {P : Nat → Value → Prop} {Fin : List Value → List (Addr × Obj) → Prop}
theorem compEnd_mono {s₁ : Shared} {I C D : Addr} {oI oC oD : Obj} {rest rest' : Value → List (Addr × Obj) → Prop} {y : Value} {s₂ : Shared} (hr : ∀ y nx, rest y nx → rest' y nx) (h : CompEnd h₀ L m s₁ I oI C oC D oD S rest y s₂) : CompEnd h₀ L m s₁ I oI C oC D oD S rest' y s₂ := by
  obtain ⟨h', tk, nx, e, F, N, off, hS, r⟩ := h
  exact ⟨h', tk, nx, e, F, N, off, hS, hr _ _ r⟩
theorem restU {n : Nat} (J : Nat → List Value → List (Addr × Obj) → Prop)
    (turn : ∀ i v ys nx I oI C oC D m₂ h tk (E' : Value → Shared → Prop), i < n → P i v → J i ys nx → NsObj oC m₂ → m₂ x = some v → Fr h₀ L h m → News h₀ L h ((I, oI) :: (C, oC) :: (D, lst ys) :: nx) → Off3 I C D nx → ((@Ne Nat I C) ∧ (@Ne Nat I D) ∧ (@Ne Nat C D)) →
      wpAny (model prog w) A (eval elt (compEnvC scope cl C env)) (CompEnd h₀ L m { s with heap := h, toks := tk } I oI C oC D (lst ys) S (fun y nx' => J (i + 1) (ys ++ [y]) nx')) E' { s with heap := h, toks := tk })
    (fin : ∀ ys nx, J n ys nx → Fin ys nx) : ∀ k i ys nx, i + k = n → J i ys nx → CompRest prog w A h₀ L m env elt x scope cl s S P Fin k i ys nx
  | 0, i, ys, nx, hi, hj => by
    have e : i = n := by omega
    rw [e] at hj
    exact .zero (fin _ _ hj)
  | k + 1, i, ys, nx, hi, hj => .succ fun v I oI C oC D m₂ h tk E' hv hC hx F N off ne =>
      wpAny_mono (turn i v ys nx I oI C oC D m₂ h tk E' (by omega) hv hj hC hx F N off ne) (fun _ _ r => compEnd_mono (fun y nx' hj' => restU J turn fin k (i + 1) _ _ (by omega) hj') r) fun _ _ e => e
theorem restT {n : Nat} (J : Nat → List Value → List (Addr × Obj) → Prop)
    (turn : ∀ i v ys nx I oI C oC D m₂ h tk (E' : Value → Shared → Prop), i < n → P i v → J i ys nx → NsObj oC m₂ → m₂ x = some v → Fr h₀ L h m → News h₀ L h ((I, oI) :: (C, oC) :: (D, lst ys) :: nx) → Off3 I C D nx → ((@Ne Nat I C) ∧ (@Ne Nat I D) ∧ (@Ne Nat C D)) →
      wpAny (model prog w) A (isTrue ct (compEnvC scope cl C env) (eval ct (compEnvC scope cl C env))) (fun ok s' => if ok = true then
        wpAny (model prog w) A (eval elt (compEnvC scope cl C env)) (CompEnd h₀ L m { s with heap := h, toks := tk } I oI C oC D (lst ys) S (fun y nx' => J (i + 1) (ys ++ [y]) nx')) E' s'
        else CompEnd h₀ L m { s with heap := h, toks := tk } I oI C oC D (lst ys) S (fun _ nx' => J (i + 1) ys nx') Value.none s') E' { s with heap := h, toks := tk })
    (fin : ∀ ys nx, J n ys nx → Fin ys nx) : ∀ k i ys nx, i + k = n → J i ys nx → CompRestT prog w A h₀ L m env ct elt x scope cl s S P Fin k i ys nx
  | 0, i, ys, nx, hi, hj => by
    have e : i = n := by omega
    rw [e] at hj
    exact .zero (fin _ _ hj)
  | k + 1, i, ys, nx, hi, hj => .succ fun v I oI C oC D m₂ h tk E' hv hC hx F N off ne =>
      wpAny_mono (turn i v ys nx I oI C oC D m₂ h tk E' (by omega) hv hj hC hx F N off ne) (fun ok _ r => by
        cases ok with
        | true =>
          simp only [if_true] at r ⊢
          exact wpAny_mono r (fun _ _ r => compEnd_mono (fun y nx' hj' => restT J turn fin k (i + 1) _ _ (by omega) hj') r) fun _ _ e => e
        | false =>
          simp only [Bool.false_eq_true, if_false] at r ⊢
          exact compEnd_mono (fun y nx' hj' => restT J turn fin k (i + 1) _ _ (by omega) hj') r) fun _ _ e => e
theorem restP {n : Nat} (J : Nat → List Value → List (Addr × Obj) → Prop)
    (turn : ∀ i v ys nx, i < n → P i v → J i ys nx → ∃ (t : Addr) (ot : Obj) (v₁ v₂ : Value) (nt : Nat), v = .ref t ∧ (t, ot) ∈ nx ∧ ot.cls = .type "tuple" ∧ ot.data = .seq #[v₁, v₂] nt ∧
      ∀ I oI C oC D m₂ h tk (E' : Value → Shared → Prop), NsObj oC m₂ → m₂ x = some v₁ → m₂ x₂ = some v₂ → Fr h₀ L h m → News h₀ L h ((I, oI) :: (C, oC) :: (D, lst ys) :: nx) → Off3 I C D nx → ((@Ne Nat I C) ∧ (@Ne Nat I D) ∧ (@Ne Nat C D)) →
      wpAny (model prog w) A (eval elt (compEnvC scope cl C env)) (CompEnd h₀ L m { s with heap := h, toks := tk } I oI C oC D (lst ys) S (fun y nx' => J (i + 1) (ys ++ [y]) nx')) E' { s with heap := h, toks := tk })
    (fin : ∀ ys nx, J n ys nx → Fin ys nx) : ∀ k i ys nx, i + k = n → J i ys nx → CompRestP prog w A h₀ L m env elt x x₂ scope cl s S P Fin k i ys nx
  | 0, i, ys, nx, hi, hj => by
    have e : i = n := by omega
    rw [e] at hj
    exact .zero (fin _ _ hj)
  | k + 1, i, ys, nx, hi, hj => .succ fun v hv => by
      obtain ⟨t, ot, v₁, v₂, nt, e1, e2, e3, e4, g⟩ := turn i v ys nx (by omega) hv hj
      exact ⟨t, ot, v₁, v₂, nt, e1, e2, e3, e4, fun I oI C oC D m₂ h tk E' hC hx hx2 F N off ne =>
        wpAny_mono (g I oI C oC D m₂ h tk E' hC hx hx2 F N off ne) (fun _ _ r => compEnd_mono (fun y nx' hj' => restP J turn fin k (i + 1) _ _ (by omega) hj') r) fun _ _ e => e⟩
end
end S_A3
local macro_rules | `(tactic| walk_at "eval ListComp") => `(tactic| ((with_reducible show H4); k_dflt (refine LCg.ListComp_U (F₀ := by k_asm) (by with_unfolding_all rfl) (by decide) (by rfl) (by decide) (by rfl) ?_)))
local macro_rules | `(tactic| walk_at "exec Assign cons ListComp") => `(tactic| ((with_reducible show H5); k_dflt (refine LCg.Assign_ListComp_U (F₀ := by k_asm) (by rfl) (by with_unfolding_all rfl) (by with_unfolding_all rfl) (by decide) (by rfl) (by decide) (by rfl) (by rfl) (by rfl) ?_)))
local macro_rules | `(tactic| walk_at "eval ListComp") => `(tactic| ((with_reducible show H6); k_dflt (refine LCt.ListComp_T (F₀ := by k_asm) (by with_unfolding_all rfl) (by decide) (by rfl) (by decide) (by rfl) ?_)))
local macro_rules | `(tactic| walk_at "exec Assign cons ListComp") => `(tactic| ((with_reducible show H7); k_dflt (refine LCt.Assign_ListComp_T (F₀ := by k_asm) (by rfl) (by with_unfolding_all rfl) (by with_unfolding_all rfl) (by decide) (by rfl) (by decide) (by rfl) (by rfl) (by rfl) ?_)))
local macro_rules | `(tactic| walk_at "eval ListComp") => `(tactic| ((with_reducible show H8); k_dflt (refine LCp.ListComp_P (F₀ := by k_asm) (by with_unfolding_all rfl) (by decide) (by rfl) (by decide) (by rfl) (by rfl) (by decide) ?_)))
local macro_rules | `(tactic| walk_at "exec Assign cons ListComp") => `(tactic| ((with_reducible show H9); k_dflt (refine LCp.Assign_ListComp_P (F₀ := by k_asm) (by rfl) (by with_unfolding_all rfl) (by with_unfolding_all rfl) (by decide) (by rfl) (by decide) (by rfl) (by rfl) (by decide) (by rfl) (by rfl) ?_)))
section S_A4
section
variable {prog : Program} {w : World} {A : Around} {E : Value → Shared → Prop} {s : Shared} {h₀ h : Heap} {L H D d : Addr} {m : Str → Option Value} {news news' : List (Addr × Obj)} {o o' : Obj}
theorem upd_news {f : Obj → Obj} (F : Fr h₀ L h m) (N : News h₀ L h news) (U : Upd d o o' news news') (e : f o = o') (hf : o'.isFreed = false) : Fr h₀ L (h.update d f) m ∧ News h₀ L (h.update d f) news' := by
  obtain ⟨pre, post, rfl, rfl, h1, h2⟩ := U.split
  exact news_upd F N h1 h2 e hf
theorem setslice_all {l sl b : Addr} {xs ys : Array Value} {n n2 : Nat} {Q : Unit → Shared → Prop} (hl : s.heap.get? l = some { cls := .type "list", data := .seq xs n }) (hs : s.heap.get? sl = some { cls := .type "slice", data := .fields #[.none, .none, .none] })
    (hb : s.heap.get? b = some { cls := .type "list", data := .seq ys n2 }) (hne : (l == b) = false) (hz : xs.size + ys.size ≤ sizeLine)
    (h : Q () { s with heap := s.heap.update l (Obj.mapSeq fun xs' => xs'.extract 0 (0 : Int).toNat ++ ys ++ xs'.extract (max (0 : Int) (xs.size : Int)).toNat) }) : wpAny (model prog w) A (setItem (.ref l) (.ref sl) (.ref b)) Q E s := by
  have hL : s.heap.IsList l xs := ⟨_, hl, rfl, _, rfl⟩
  have hTs : s.TypeIs (.ref sl) "slice" := ⟨_, hs, rfl⟩
  have hTb : s.TypeIs (.ref b) "list" := ⟨_, hb, rfl⟩
  unfold setItem
  refine wpAny_holding ?_
  refine wpAny_bind (wpAny_sequenceKey hL.typeIs (by decide) ?_)
  refine wpAny_bind (wpAny_callSpecial?_slot (name := Str.ofString "__setitem__") hL.typeIs slot_list_setitem
    (wpAny_call_entry slot_list_setitem hL.typeIs entry_list_setitem ?_ (args_list_setitem _ _ _)))
  show wpAny _ _ (Builtin.List.listSubscript? (.ref sl) >>= _) _ _ s
  refine wpAny_bind ?_
  unfold Builtin.List.listSubscript?
  refine wpAny_bind (wpAny_specialOf hTs slice_no_index ?_)
  simp only [Option.isNone_none, if_true]
  refine wpAny_pure ?_
  show wpAny _ _ (typeOf (.ref sl) >>= _) _ _ s
  refine wpAny_bind (wpAny_typeOf hTs ?_)
  rw [if_neg (by decide)]
  rw [listSliceParts_eq]
  refine wpAny_bind (wpAny_bind (wpAny_field hs rfl (x := .none) rfl (wpAny_bind (wpAny_listPart .none ?_))))
  rw [if_neg (show ¬ ((rawPart none == rawInt 0) = true) from Bool.false_ne_true)]
  refine wpAny_bind (wpAny_field hs rfl (x := .none) rfl (wpAny_bind (wpAny_listPart .none ?_)))
  refine wpAny_bind (wpAny_field hs rfl (x := .none) rfl (wpAny_bind (wpAny_listPart .none (wpAny_pure ?_))))
  have e1 : Builtin.List.listSameRef (.ref l) (.ref b) = false := hne
  dsimp only
  rw [e1]
  refine wpAny_bind (m := Builtin.List.listAllItems (.ref b) _) ?_
  unfold Builtin.List.listAllItems
  refine wpAny_bind (wpAny_typeOf hTb ?_)
  rw [if_pos (by decide)]
  refine wpAny_bind (wpAny_seqItems hb rfl (wpAny_pure ?_))
  refine wpAny_bind (listItems_at hl rfl ?_)
  refine wpAny_bind (wpAny_of_eq (sliceIndices_raw none none none xs.size (by simp)) ?_)
  have eb : sliceBounds none none none xs.size = ((0 : Int), (xs.size : Int), 1) := by simp [sliceBounds]
  rw [eb]
  dsimp only
  rw [if_pos (by decide)]
  refine wpAny_bind (wpAny_rule ?_)
  rw [if_neg (by unfold Builtin.List.listTooLong; simp only [decide_eq_true_eq]; omega)]
  refine wpAny_bind (listUpdate_at hl rfl ?_ (by omega) ?_)
  · exact wpAny_bind (wpAny_letGo (wpAny_pure ⟨_, rfl, wpAny_pure h⟩))
  · have : (max (0 : Int) (xs.size : Int)).toNat = xs.size := maxT _
    rw [this]
    simp only [Array.size_append, Array.size_extract]
    have : (0 : Int).toNat = 0 := rfl
    omega
theorem r_setslice {vs ys : List Value} {nn ny : Nat} {Q : Unit → Shared → Prop} (F : Fr h₀ L s.heap m) (N : News h₀ L s.heap news) (hH : (H, ({ cls := .type "list", data := .seq vs.toArray nn } : Obj)) ∈ news) (hD : (D, ({ cls := .type "list", data := .seq ys.toArray ny } : Obj)) ∈ news) (hne : H ≠ D)
    (hz : vs.length + ys.length ≤ sizeLine) (U : Upd H ({ cls := .type "list", data := .seq vs.toArray nn } : Obj) ({ cls := .type "list", data := .seq ys.toArray (if ys.length == vs.length then nn else nn + 1) } : Obj) news news')
    (h : ∀ h', Fr h₀ L h' m → News h₀ L h' news' → Q () { s with heap := h' }) :
    wpAny (model prog w) A (setItem (.ref H) (.ref s.heap.objs.size) (.ref D)) Q E { s with heap := s.heap.push { cls := .type "slice", data := .fields #[.none, .none, .none] } } := by
  have F1 := F.push { cls := .type "slice", data := .fields #[.none, .none, .none] }
  have N1 : News h₀ L (s.heap.push { cls := .type "slice", data := .fields #[.none, .none, .none] }) news := N.grown fun _ _ e => Heap.get?_push_of_some _ e
  refine setslice_all (N1 _ hH).1 (Heap.get?_push_size _ rfl) (N1 _ hD).1 (by simpa using hne) (by simpa using hz) ?_
  have e : Obj.mapSeq (fun xs' => xs'.extract 0 (0 : Int).toNat ++ ys.toArray ++ xs'.extract (max (0 : Int) (vs.toArray.size : Int)).toNat) { cls := .type "list", data := .seq vs.toArray nn } =
      { cls := .type "list", data := .seq ys.toArray (if ys.length == vs.length then nn else nn + 1) } := by
    have h1 : (max (0 : Int) (vs.toArray.size : Int)).toNat = vs.toArray.size := maxT _
    have h2 : (0 : Int).toNat = 0 := rfl
    rw [h1, h2]
    simp [Obj.mapSeq]
  obtain ⟨F2, N2⟩ := upd_news F1 N1 U e rfl
  exact h _ F2 N2
end
end S_A4
local macro_rules | `(tactic| walk_at "setItem ref ref") => `(tactic| ((with_reducible show H10); k_dflt (refine' r_setslice (by k_asm) (by k_asm) (by k_mem) (by k_mem) (by first | assumption | exact Ne.symm (by assumption)) (by walk_at "line") (by k_upd) ?_; k_whole); intro h' F' N'))
section S_A5
theorem afresh2 : True := by w_top off; trivial
section
variable {prog : Program} {w : World} {A : Around} {E : Value → Shared → Prop} {s : Shared} {env : Env} {h₀ : Heap} {m : Str → Option Value} {news : List (Addr × Obj)} {Q : Flow → Shared → Prop}
/-- a for over a range -/
theorem r_iterR {target : PySem.Expr} {body : List Stmt} {r : Addr} {a b : Int} {t u v : Tok} {n : Nat} (J : Nat → (Str → Option Value) → List (Addr × Obj) → Prop)
    (hh : A.handled = none) (hr : IsRange s.heap r a b 1 t u v) (hsm : Builtin.Range.small a b 1 = true) (hn : Builtin.Range.rangeSize a b 1 = ((n : Nat) : Int)) (F : Fr h₀ env.locals s.heap m) (N : News h₀ env.locals s.heap news) (hj : J 0 m news)
    (turn : ∀ i t I oI m₁ nx h tk, i < n → J i m₁ nx → (∀ p ∈ nx, p.1 ≠ I) → Fr h₀ env.locals h m₁ → News h₀ env.locals h ((I, oI) :: nx) →
      wpAny (model prog w) A (assign target env (.int (a + (i : Int)) t)) (fun _ s₂ => wpAny (model prog w) A (execs body env) (MTurn h₀ env.locals I oI (J (i + 1)) { s with heap := h, toks := tk } Q) E s₂) E { s with heap := h, toks := tk })
    (done : ∀ m₁ nx h tk, J n m₁ nx → Fr h₀ env.locals h m₁ → News h₀ env.locals h nx → Q .next { s with heap := h, toks := tk })
    (hE : PassesOwn (model prog w) A env E := by passes_own) (ht : ∀ it v, letOwnedTupleGo target it v = pure () := by exact fun _ _ => rfl) :
    wpAny (model prog w) A (pyIter (.ref r)) (fun it s₂ => codeAny (model prog w) A (.forLoop target it body [] env) (fun r s' => match r with | .ok f => Q f s' | .error e => cameBackBy (model prog w) A env E e s') s₂) E s := by
  refine wpAny_pyIter_range hr hsm ?_
  have push : ∀ (o : Obj) b o', s.heap.get? b = some o' → (s.heap.push o).get? b = some o' := fun o b o' e => Heap.get?_push_of_some _ e
  refine r_walks (S := fun _ => True) (R := fun r s' => match r with | .ok f => Q f s' | .error e => cameBackBy (model prog w) A env E e s') J (LCg.range_walks hh a n) (fun i h st => ⟨_, st⟩) (fun i h h' o nw st e e' k N' _ => LCg.range_st (h₀ := h₀) i h h' o nw st e e' k N' trivial) (fun _ _ _ _ => trivial) (Nat.ne_of_lt F.ns.lt) (next_is_new F)
    (by show IsRangeIter _ _ _ _ _; rw [hn]; simpa using Heap.get?_push_size _ rfl) (F.keeps (push _)) (N.grown (push _)) (fun p hp => Nat.ne_of_lt (Heap.lt_size (N p hp).1)) hj (fun _ _ x => x) (fun _ x => x) ?_ done (fun i v s Q E _ q => ?_)
  · intro i v oI m₁ nx h tk hi hP hJ off F₁ N₁
    obtain ⟨t, rfl⟩ := hP
    exact wpAny_passesOwn hE (wpAny_mono (turn i t _ oI m₁ nx h tk hi hJ off F₁ N₁) (fun _ s₂ h₂ => wpAny_passesOwn hE h₂) fun _ _ x => x)
  · rw [ht]; exact wpAny_pure q
end
end S_A5

section S_A7
section
variable {prog : Program} {w : World} {A : Around} {E : Value → Shared → Prop} {s : Shared} {env : Env} {h₀ : Heap} {m : Str → Option Value} {news : List (Addr × Obj)} {Q : Flow → Shared → Prop}
/-- a for over an empty list of the ledger -/
theorem r_iter0 {target : PySem.Expr} {body : List Stmt} {l : Addr} {nn : Nat}
    (hh : A.handled = none) (F : Fr h₀ env.locals s.heap m) (N : News h₀ env.locals s.heap news) (hl : (l, ({ cls := .type "list", data := .seq #[] nn } : Obj)) ∈ news)
    (done : ∀ h tk, Fr h₀ env.locals h m → News h₀ env.locals h news → Q .next { s with heap := h, toks := tk })
    (hE : PassesOwn (model prog w) A env E := by passes_own) (ht : (∀ it v, letOwnedTupleGo target it v = pure ()) ∨ ∃ elts k pos, target = .Tuple elts k pos := by first | exact .inl (fun _ _ => rfl) | exact .inr ⟨_, _, _, rfl⟩) :
    wpAny (model prog w) A (pyIter (.ref l)) (fun it s₂ => codeAny (model prog w) A (.forLoop target it body [] env) (fun r s' => match r with | .ok f => Q f s' | .error e => cameBackBy (model prog w) A env E e s') s₂) E s := by
  refine r_iterL (vs := []) (nn := nn) (fun _ m₁ nx => m₁ = m ∧ nx = news) hh F N ⟨rfl, rfl⟩ (fun i m₁ nx hj => hj.2 ▸ hl) (fun i v I oI m₁ nx h tk hv => by simp at hv) ?_ hE ht
  rintro m₁ nx h tk ⟨rfl, rfl⟩ F1 N1
  exact done h tk F1 N1
end
end S_A7

section S_B1
theorem afresh3 : True := by w_top off; trivial
noncomputable def IsBis (ns : List Int) (x : Int) (r : Nat) : Prop := r ≤ ns.length ∧ ∀ (i : Nat) (n : Int), ns[i]? = some n → (i < r ↔ n ≤ x)
noncomputable def Sorted (ns : List Int) : Prop := ∀ (i j : Nat) (a b : Int), i ≤ j → ns[i]? = some a → ns[j]? = some b → a ≤ b
local macro_rules | `(tactic| walk_at "halt") => `(tactic| with_reducible show H11)
theorem c_bisect {l : Addr} {vs : List Value} {ns : List Int} {nn : Nat} {x : Int} {tx : Tok}
  (B : Below A₀ base outer h₀) (F : Fr h₀ L s.heap m) (X : (hd.heap_39 w.params).In h₀) (N : News h₀ L s.heap news) (T : Top p loose mean mg mb h₀) (hk : cs.kind = .function)
  (hd1 : dp + 1 < recursionLimit)
  (hm : (l, (⟨.type "list", none, .seq vs.toArray nn, #[]⟩ : Obj)) ∈ news) (hi : IntsAre vs ns) (hlen : ns.length < 1000) (hs : Sorted ns)
  (hret : ∀ (r : Nat) t h' tk', Fr h₀ L h' m → News h₀ L h' news → IsBis ns x r → Q (.int r t) { s with heap := h', toks := tk' }) :
  wpAny (model PySem.Challenge.pw_pm0060_01 w) (ktrTop dp un gd cn cs L a ccd cl outer) (call (.ref 204) [.ref l, .int x tx]) Q E s := by
  have hvl : vs.length = ns.length := hi.length
  refine wpAny_call ?_
  walk_at "enter"
  obtain ⟨mr, F'⟩ := frOv [("a", .ref l), ("x", .int x tx), ("lo", .int 0 567), ("hi", .none), ("key", .none)] F' ⟨rfl, rfl, rfl, rfl, rfl, trivial⟩
  rename_i Fold
  clear Fold
  dsimp only [kstB] at F'
  walk_at "go"
  rename Fr _ _ _ _ => F0
  rename News _ _ _ _ => N0
  refine While_inv2 (fun n m₁ nx => ∃ (lo hi : Nat) (t1 t2 : Tok), n = hi - lo ∧ lo ≤ hi ∧ hi ≤ ns.length ∧ (∀ i a, ns[i]? = some a → i < lo → a ≤ x) ∧ (∀ i a, ns[i]? = some a → hi ≤ i → x < a) ∧ Has m₁ [("a", .ref l), ("x", .int x tx), ("lo", .int lo t1), ("hi", .int hi t2)] ∧ nx = news) (n₀ := vs.length) F0 N0
    ⟨0, vs.length, _, _, by omega, by omega, by omega, fun _ _ _ h => by omega, fun i a h1 h2 => ?_, ⟨rfl, rfl, rfl, rfl, trivial⟩, rfl⟩ ?_ (by passes_own)
  · rw [List.getElem?_eq_none (by omega)] at h1; cases h1
  clear F0 N0
  intro n m₁ nx h1 tk1 F1 N1 zzh; refine cps fun zzX zzk => ?_
  obtain ⟨lo, hi, t1, t2, hn, hlo, hhi, hA, hB, hm1, rfl⟩ := zzh
  refine zzk ?_; clear zzk zzX
  obtain ⟨mr, F1⟩ := frOv [("a", .ref l), ("x", .int x tx), ("lo", .int lo t1), ("hi", .int hi t2)] F1 hm1
  dsimp only [kstB] at F1
  walk_at "go"
  all_goals (try (have hmd : ((lo : Int) + (hi : Int)).fdiv 2 = (((lo + hi) / 2 : Nat) : Int) := midE))
  · rename Fr _ _ _ _ => F2
    rename News _ _ _ _ => N2
    rename x < _ => hx
    rename (lo : Int) < _ => hlt
    refine ⟨_, _, _, _, (lo + hi) / 2 - lo, rfl, F2, N2, (mid hlt hn hhi).1, lo, (lo + hi) / 2, t1, _, rfl, (mid hlt hn hhi).2.1, (mid hlt hn hhi).2.2.1, hA, fun i a h1 h2 => ?_, ⟨rfl, rfl, rfl, congrArg (fun z => some (Value.int z _)) hmd, trivial⟩, rfl⟩
    rw [hmd, Int.toNat_natCast] at hx
    have hmm : (lo + hi) / 2 < ns.length := (mid hlt hn hhi).2.2.2.1
    have e : ns[(lo + hi) / 2]? = some (ns.getD ((lo + hi) / 2) 0) := by rw [List.getD_eq_getElem?_getD, List.getElem?_eq_getElem hmm]; rfl
    exact Int.lt_of_lt_of_le hx (hs _ _ _ _ h2 e h1)
  · rename Fr _ _ _ _ => F2
    rename News _ _ _ _ => N2
    rename ¬ x < _ => hx
    rename (lo : Int) < _ => hlt
    refine ⟨_, _, _, _, hi - ((lo + hi) / 2 + 1), rfl, F2, N2, (mid hlt hn hhi).2.2.2.2.1, (lo + hi) / 2 + 1, hi, _, t2, rfl, (mid hlt hn hhi).2.2.2.2.2, hhi, fun i a h1 h2 => ?_, hB, ⟨rfl, rfl, congrArg (fun z => some (Value.int z _)) (show _ = _ by rw [hmd]; rfl), rfl, trivial⟩, rfl⟩
    rw [hmd, Int.toNat_natCast] at hx
    have hmm : (lo + hi) / 2 < ns.length := (mid hlt hn hhi).2.2.2.1
    have e : ns[(lo + hi) / 2]? = some (ns.getD ((lo + hi) / 2) 0) := by rw [List.getD_eq_getElem?_getD, List.getElem?_eq_getElem hmm]; rfl
    exact Int.le_trans (hs _ _ _ _ (Nat.le_of_lt_succ h2) h1 e) (Int.not_lt.mp hx)
  · refine hret _ _ _ _ (by assumption) (by assumption) ⟨Nat.le_trans hlo hhi, fun i n h => ⟨fun h1 => hA _ _ h h1, fun h1 => ?_⟩⟩
    by_cases h2 : i < lo
    · exact h2
    · have := hB i n h (by omega)
      omega
end S_B1
section S_B2a
noncomputable abbrev S1 (c : Nat) : Str := PySem.Str.mk #[c]
noncomputable def okL : List Nat := [48, 49, 50, 51, 52, 53, 54, 55, 56, 65, 66, 67, 68, 69, 97, 98, 99, 100, 101, 102]
theorem plainAttrs_pat : PlainAttrs "re.Pattern" :=
  ⟨⟨"object.__getattribute__", by rw [typeLookup_type, builtinLookup_eq_fast]; kernel_rfl, by decide +kernel⟩, by rw [typeLookup_type, builtinLookup_eq_fast]; kernel_rfl⟩
theorem slot_pat_search : Slot "re.Pattern" "search" "re.Pattern.search" :=
  .of (owner := "re.Pattern") (n := "search") (by rw [typeLookup_type, builtinLookup_eq_fast]; kernel_rfl) (by decide +kernel) (by decide +kernel) (by decide +kernel)
    (by first | exact .inl (by decide +kernel) | exact .inr (by decide +kernel)) (by rw [isSubtype_type]; kernel_rfl)
theorem type_pat_search : typeOf (.builtin "re.Pattern.search") = pure (.type "method_descriptor") := by show builtinType _ = _; rw [builtinType_eq_fast]; kernel_rfl
theorem entry_pat_search : entryFor table "re.Pattern.search" = some Builtin.«re.Pattern.search» := entryFor_of_tree (by kernel_rfl)
theorem args_pat_search (a b : Value) : argsOk "re.Pattern.search" ⟨[a, b], []⟩ := by
  unfold argsOk; kernel_rfl
set_option maxHeartbeats 4000000 in
theorem search_name (P : Params) (S : Setting) (tv : Tok) (c : Nat) (h : c ∈ okL) : peek (hd.heap_39 P) S (Builtin.«re.Pattern.search» ⟨[.ref 48, .str (S1 c) tv], []⟩) = some (.done (.ret .none)) := by
  simp only [okL, List.mem_cons, List.not_mem_nil, or_false] at h
  rcases h with rfl | rfl | rfl | rfl | rfl | rfl | rfl | rfl | rfl | rfl | rfl | rfl | rfl | rfl | rfl | rfl | rfl | rfl | rfl | rfl <;> kernel_rfl
set_option maxHeartbeats 4000000 in
theorem search_value (P : Params) (S : Setting) (tv : Tok) (c : Nat) (h : c ∈ okL) : peek (hd.heap_39 P) S (Builtin.«re.Pattern.search» ⟨[.ref 53, .str (S1 c) tv], []⟩) = some (.done (.ret .none)) := by
  simp only [okL, List.mem_cons, List.not_mem_nil, or_false] at h
  rcases h with rfl | rfl | rfl | rfl | rfl | rfl | rfl | rfl | rfl | rfl | rfl | rfl | rfl | rfl | rfl | rfl | rfl | rfl | rfl | rfl <;> kernel_rfl
section
variable {prog : Program} {w : World} {A : Around} {E : Value → Shared → Prop} {s : Shared} {K : Frag} {h₀ : Heap} {L : Addr} {m : Str → Option Value}
theorem r_search_get {a : Addr} {o : Obj} {pl : Sem Bool} {Q : Value × List Value → Shared → Prop} (F : Fr h₀ L s.heap m) (X : K.In h₀) (ho : K.lookup a = some o) (hc : o.cls = .type "re.Pattern") (hd : o.dict = none)
    (h : Q (.builtin "re.Pattern.search", [.ref a]) s) : wpAny (model prog w) A (getMethod (.ref a) "search" pl) Q E s :=
  have e := (X.keeps F.keep) _ _ ho
  getMethod_builtin ⟨o, e, hc⟩ plainAttrs_pat slot_pat_search type_pat_search (fun b eb => by cases eb; exact ⟨o, e, hd⟩) h
theorem r_search {a : Addr} {o : Obj} {v : Value} {Q : Value → Shared → Prop} (F : Fr h₀ L s.heap m) (X : K.In h₀) (ho : K.lookup a = some o) (hc : o.cls = .type "re.Pattern")
    (hp : ∀ S, peek K S (Builtin.«re.Pattern.search» ⟨[.ref a, v], []⟩) = some (.done (.ret .none))) (h : Q .none s) : wpAny (model prog w) A (call (.builtin "re.Pattern.search") [.ref a, v]) Q E s :=
  have e := (X.keeps F.keep) _ _ ho
  wpAny_call (codeAny_call_builtin slot_pat_search.plain entry_pat_search (slot_pat_search.check _ _ _ _ _ _ _ _ ⟨o, e, hc⟩ (args_pat_search _ _)
    ((Looks.of_peek (M := model prog w) (X.keeps F.keep) (hp _)).here h)))
end
end S_B2a
local macro_rules | `(tactic| walk_at "getMethod ref") => `(tactic| ((with_reducible show H12); k_dflt (refine' r_search_get (by k_asm) (by k_asm) (by k_is) (by exact rfl) (by exact rfl) ?_; k_whole)))
local macro_rules | `(tactic| walk_at "call builtin:re.Pattern.search") => `(tactic| ((with_reducible show H13); k_dflt (refine' r_search (by k_asm) (by k_asm) (by k_is) (by exact rfl) (by exact fun S => search_name _ S _ _ (by assumption)) ?_; k_whole)))
local macro_rules | `(tactic| walk_at "call builtin:re.Pattern.search") => `(tactic| ((with_reducible show H14); k_dflt (refine' r_search (by k_asm) (by k_asm) (by k_is) (by exact rfl) (by exact fun S => search_value _ S _ _ (by assumption)) ?_; k_whole)))
section S_B2
theorem afresh4 : True := by w_top off; trivial
local macro_rules | `(tactic| walk_at "halt") => `(tactic| fail)
theorem c_conv {self : Value} {c : Nat} {tv : Tok} {nb : Bool}
  (B : Below A₀ base outer h₀) (F : Fr h₀ L s.heap m) (X : (hd.heap_39 w.params).In h₀) (N : News h₀ L s.heap news) (T : Top p loose mean mg mb h₀) (hk : cs.kind = .function)
  (hd1 : dp + 1 < recursionLimit) (hc : c ∈ okL)
  (hret : ∀ h' tk', Fr h₀ L h' m → News h₀ L h' news → Q (.str (S1 c) tv) { s with heap := h', toks := tk' }) :
  wpAny (model PySem.Challenge.pw_pm0060_01 w) (ktrTop dp un gd cn cs L a ccd cl outer) (call (.ref 83) [self, .str (S1 c) tv] [("name", .bool nb)]) Q E s := by
  refine wpAny_call ?_
  walk_at "enter"
  obtain ⟨mr, F'⟩ := frOv [("self", self), ("value", .str (S1 c) tv), ("name", .bool nb)] F' ⟨rfl, rfl, rfl, trivial⟩
  rename_i Fold
  clear Fold
  dsimp only [kstB] at F'
  walk_at "go"
  all_goals exact hret _ _ (by assumption) (by assumption)
end S_B2
set_option hygiene false in
local macro_rules | `(tactic| walk_at "call ref") => `(tactic| ((with_reducible show H15); k_dflt (refine' c_conv (by k_asm) (by k_asm) (by k_asm) (by k_asm) (by k_asm) (by first | exact rfl | assumption) (by ktr_room) (by assumption) ?_; k_whole); intro h' tk' F' N'; (try dsimp only)))
section S_B3a
noncomputable def lowc (c : Nat) : Nat := if 65 ≤ c ∧ c ≤ 90 then c + 32 else c
theorem lower_S1 {c : Nat} (h : c ∈ okL) : Txt.lower (S1 c) = S1 (lowc c) := by
  simp only [okL, List.mem_cons, List.not_mem_nil, or_false] at h
  rcases h with rfl | rfl | rfl | rfl | rfl | rfl | rfl | rfl | rfl | rfl | rfl | rfl | rfl | rfl | rfl | rfl | rfl | rfl | rfl | rfl <;> decide +kernel
theorem lowc_ok {c : Nat} (h : c ∈ okL) : lowc c ∈ okL := by
  simp only [okL, List.mem_cons, List.not_mem_nil, or_false] at h
  rcases h with rfl | rfl | rfl | rfl | rfl | rfl | rfl | rfl | rfl | rfl | rfl | rfl | rfl | rfl | rfl | rfl | rfl | rfl | rfl | rfl <;> decide
theorem S1_inj {a b : Nat} (h : S1 a = S1 b) : a = b := by
  have : (S1 a).cps = (S1 b).cps := by rw [h]
  simpa using this
section
variable {prog : Program} {w : World} {A : Around} {E : Value → Shared → Prop} {s : Shared}
theorem r_lower {c : Nat} {t : Tok} {Q : Value → Shared → Prop} (hc : c ∈ okL) (h : ∀ t' k, Q (.str (S1 (lowc c)) t') { s with toks := k }) : wpAny (model prog w) A (call (.builtin "str.lower") [.str (S1 c) t]) Q E s :=
  KXw.lower (lower_S1 hc) (by rw [lower_S1 hc]; exact (by decide +kernel : Builtin.Str.tooLong 1 = false)) h
end
noncomputable abbrev prO (x y : Value) : Obj := { cls := .type "tuple", data := .seq [x, y].toArray }
noncomputable abbrev liO (vs : List Value) (n : Nat) : Obj := { cls := .type "list", data := .seq vs.toArray n }
noncomputable abbrev diO (hh : Int) (th : Tok) (H : Addr) (nd : Nat) : Obj := dictOf [⟨hh, .str "_headers" th, .ref H⟩] nd
/-- the list's items are tuples of two texts of one sign, all of the ledger -/
inductive Tups (news : List (Addr × Obj)) : List Value → List (Nat × Nat) → Prop
  | nil : Tups news [] []
  | cons {b : Addr} {c d : Nat} {t1 t2 : Tok} {vs : List Value} {ps : List (Nat × Nat)} : (b, prO (.str (S1 c) t1) (.str (S1 d) t2)) ∈ news → Tups news vs ps → Tups news (.ref b :: vs) ((c, d) :: ps)
theorem Tups.mono {news news' : List (Addr × Obj)} {vs : List Value} {ps : List (Nat × Nat)} (h : Tups news vs ps) (hs : ∀ q ∈ news, q ∈ news') : Tups news' vs ps := by
  induction h with
  | nil => exact .nil
  | cons hm _ ih => exact .cons (hs _ hm) ih
theorem Tups.length {news : List (Addr × Obj)} {vs : List Value} {ps : List (Nat × Nat)} (h : Tups news vs ps) : vs.length = ps.length := by
  induction h with
  | nil => rfl
  | cons _ _ ih => simp [ih]
theorem Tups.get {news : List (Addr × Obj)} {vs : List Value} {ps : List (Nat × Nat)} (h : Tups news vs ps) : ∀ {i : Nat} {v : Value}, vs[i]? = some v → ∃ b c d t1 t2, v = .ref b ∧ ps[i]? = some (c, d) ∧ (b, prO (.str (S1 c) t1) (.str (S1 d) t2)) ∈ news := by
  induction h with
  | nil => intro i v h; simp at h
  | @cons b c d t1 t2 vs ps hm _ ih =>
    intro i v hv
    cases i with
    | zero =>
      simp only [List.getElem?_cons_zero, Option.some.injEq] at hv
      subst hv
      exact ⟨b, c, d, t1, t2, rfl, rfl, hm⟩
    | succ i =>
      simp only [List.getElem?_cons_succ] at hv ⊢
      exact ih hv
theorem Tups.getP {news : List (Addr × Obj)} {vs : List Value} {ps : List (Nat × Nat)} (h : Tups news vs ps) : ∀ {i : Nat} {q : Nat × Nat}, ps[i]? = some q → ∃ b t1 t2, vs[i]? = some (.ref b) ∧ (b, prO (.str (S1 q.1) t1) (.str (S1 q.2) t2)) ∈ news := by
  induction h with
  | nil => intro i v h; simp at h
  | @cons b c d t1 t2 vs ps hm _ ih =>
    intro i v hv
    cases i with
    | zero =>
      simp only [List.getElem?_cons_zero, Option.some.injEq] at hv
      subst hv
      exact ⟨b, t1, t2, rfl, hm⟩
    | succ i =>
      simp only [List.getElem?_cons_succ] at hv ⊢
      exact ih hv
/-- the values are texts of one sign -/
inductive Strs : List Value → List Nat → Prop
  | nil : Strs [] []
  | cons {d : Nat} {t : Tok} {vs : List Value} {ds : List Nat} : Strs vs ds → Strs (.str (S1 d) t :: vs) (d :: ds)
theorem Strs.length {vs : List Value} {ds : List Nat} (h : Strs vs ds) : vs.length = ds.length := by
  induction h with
  | nil => rfl
  | cons _ ih => simp [ih]
theorem Strs.snoc {vs : List Value} {ds : List Nat} {d : Nat} {t : Tok} (h : Strs vs ds) : Strs (vs ++ [.str (S1 d) t]) (ds ++ [d]) := by
  induction h with
  | nil => exact .cons .nil
  | cons _ ih => exact .cons ih
theorem Strs.get {vs : List Value} {ds : List Nat} (h : Strs vs ds) : ∀ {i : Nat} {v : Value}, vs[i]? = some v → ∃ d t, v = .str (S1 d) t ∧ ds[i]? = some d := by
  induction h with
  | nil => intro i v h; simp at h
  | @cons d t vs ds _ ih =>
    intro i v hv
    cases i with
    | zero =>
      simp only [List.getElem?_cons_zero, Option.some.injEq] at hv
      subst hv
      exact ⟨d, t, rfl, rfl⟩
    | succ i =>
      simp only [List.getElem?_cons_succ] at hv ⊢
      exact ih hv
end S_B3a
local macro_rules | `(tactic| walk_at "call builtin:str.lower") => `(tactic| ((with_reducible show wpAny _ _ (call (Value.builtin "str.lower") [Value.str (S1 _) _]) _ _ _); (refine' r_lower (by assumption) ?_); intro _ _; (try dsimp only)))
section S_A6
theorem intsAre_of_get : ∀ (vs : List Value) (ns : List Int), vs.length = ns.length → (∀ (i : Nat) (v : Value) (n : Int), vs[i]? = some v → ns[i]? = some n → ∃ t, v = Value.int n t) → IntsAre vs ns
  | [], [], _, _ => .nil
  | [], _ :: _, h, _ => by simp at h
  | _ :: _, [], h, _ => by simp at h
  | v :: vs, n :: ns, h, hg => by
    obtain ⟨t, rfl⟩ := hg 0 v n rfl rfl
    exact .cons n t (intsAre_of_get vs ns (by simpa using h) fun i v n h1 h2 => hg (i + 1) v n (by simpa using h1) (by simpa using h2))
section
variable {prog : Program} {w : World} {A : Around} {E : Value → Shared → Prop} {s : Shared} {h₀ : Heap} {L : Addr} {m : Str → Option Value} {news : List (Addr × Obj)}
theorem r_list_range {r : Addr} {a b : Int} {t u v : Tok} {n : Nat} {Q : Value → Shared → Prop} (hh : A.handled = none) (F : Fr h₀ L s.heap m) (N : News h₀ L s.heap news)
    (hr : IsRange s.heap r a b 1 t u v) (hsmall : Builtin.Range.small a b 1 = true) (hn : Builtin.Range.rangeSize a b 1 = (n : Int)) (hlen : n ≤ 2 ^ 24)
    (h : ∀ D h' tk ys c, Fr h₀ L h' m → News h₀ L h' ((D, liO ys c) :: news) → (∀ q ∈ news, q.1 < D) → IntsAre ys ((List.range n).map fun (i : Nat) => a + (i : Int)) → Q (.ref D) { s with heap := h', toks := tk }) :
    wpAny (model prog w) A (call (.type "list") [.ref r]) Q E s := by
  refine call_list_range hh hr hsmall hn hlen fun h' tk acc' c' hk hS' hacc => ?_
  refine h s.heap.objs.size h' tk acc'.toList c' (F.keeps hk) (fun p hp => ?_) (fun q hq => Heap.lt_size (N q hq).1) (intsAre_of_get _ _ ?_ ?_)
  · rcases List.mem_cons.mp hp with rfl | hp
    · exact ⟨by simpa using hS', Nat.ne_of_gt F.ns.lt, next_is_new F⟩
    · exact N.grown hk p hp
  · rw [List.length_map, List.length_range]; simpa using hacc.1
  · intro i v x hv hx
    have hi : i < n := by
      by_cases hi : i < n
      · exact hi
      · rw [List.getElem?_eq_none (by rw [List.length_map, List.length_range]; omega)] at hx; cases hx
    obtain ⟨t, e⟩ := hacc.2 i v (by simpa using hv)
    rw [List.getElem?_map, List.getElem?_range hi] at hx
    cases hx
    exact ⟨t, by rw [e, Int.mul_one]⟩
end
end S_A6
set_option hygiene false in
local macro_rules | `(tactic| walk_at "call type:list") => `(tactic| ((with_reducible show H16); k_dflt (refine' r_list_range (by exact rfl) (by k_asm) (by k_asm) (by assumption) (by exact small_one (by omega) (by omega) (by omega) (by omega)) (by exact rangeSize_nat _ _) (by omega) ?_); intro D' h' tk' ys' c' F' N' l1 hys'; (try k_lt l1); (try dsimp only)))
section S_B3
theorem afresh5 : True := by w_top off; trivial
noncomputable def lk (ps : List (Nat × Nat)) (c : Nat) : Option Nat := (ps.find? fun q => lowc q.1 == lowc c).map (·.2)
theorem lk_some : ∀ {ps : List (Nat × Nat)} {c : Nat} {i : Nat} {q : Nat × Nat}, (∀ j q, j < i → ps[j]? = some q → lowc q.1 ≠ lowc c) → ps[i]? = some q → lowc q.1 = lowc c → lk ps c = some q.2
  | [], _, _, _, _, h, _ => by simp at h
  | p :: ps, c, 0, q, _, h, e => by
    simp only [List.getElem?_cons_zero, Option.some.injEq] at h
    subst h
    simp [lk, e]
  | p :: ps, c, i + 1, q, hn, h, e => by
    simp only [List.getElem?_cons_succ] at h
    have h0 := hn 0 p (by omega) rfl
    have ih := lk_some (ps := ps) (c := c) (i := i) (q := q) (fun j q hj hq => hn (j + 1) q (by omega) (by simpa using hq)) h e
    simpa [lk, h0] using ih
theorem lk_none : ∀ {ps : List (Nat × Nat)} {c : Nat}, (∀ (j : Nat) q, j < ps.length → ps[j]? = some q → lowc q.1 ≠ lowc c) → lk ps c = none
  | [], _, _ => rfl
  | p :: ps, c, hn => by
    have h0 := hn 0 p (by simp) rfl
    have ih := lk_none (ps := ps) (c := c) (fun j q hj hq => hn (j + 1) q (by simpa using hj) (by simpa using hq))
    simpa [lk, h0] using ih
local macro_rules | `(tactic| walk_at "halt") => `(tactic| with_reducible first | show H17 | show H18)
theorem c_get {x dx H : Addr} {hh : Int} {th : Tok} {nd nn : Nat} {vs : List Value} {ps : List (Nat × Nat)} {c : Nat} {tv : Tok} {dflt : Value}
  (B : Below A₀ base outer h₀) (F : Fr h₀ L s.heap m) (X : (hd.heap_39 w.params).In h₀) (N : News h₀ L s.heap news) (T : Top p loose mean mg mb h₀) (hk : cs.kind = .function)
  (hd1 : dp + 2 < recursionLimit) (hc : c ∈ okL)
  (mx : (x, instObj 182 dx) ∈ news) (mdx : (dx, diO hh th H nd) ∈ news) (mH : (H, liO vs nn) ∈ news) (ht : Tups news vs ps) (hok : ∀ q ∈ ps, q.1 ∈ okL)
  (hsome : ∀ d t h' tk', lk ps c = some d → Fr h₀ L h' m → News h₀ L h' news → Q (.str (S1 d) t) { s with heap := h', toks := tk' })
  (hnone : ∀ h' tk', lk ps c = none → Fr h₀ L h' m → News h₀ L h' news → Q dflt { s with heap := h', toks := tk' }) :
  wpAny (model PySem.Challenge.pw_pm0060_01 w) (ktrTop dp un gd cn cs L a ccd cl outer) (call (.ref 129) [.ref x, .str (S1 c) tv, dflt]) Q E s := by
  have hlc := lowc_ok hc
  refine wpAny_call ?_
  walk_at "enter"
  obtain ⟨mr, F'⟩ := frOv [("self", .ref x), ("name", .str (S1 c) tv), ("default", dflt)] F' ⟨rfl, rfl, rfl, trivial⟩
  rename_i Fold
  clear Fold
  dsimp only [kstB] at F'
  walk_at "go"
  refine r_for ?_
  walk_at "go"
  rename Fr _ _ _ _ => F0
  rename News _ _ _ _ => N0
  refine r_iterL (vs := vs) (nn := nn) (fun i m₁ nx => nx = news ∧ (∃ t1, Has m₁ [("name", .str (S1 (lowc c)) t1), ("default", dflt)]) ∧ ∀ j q, j < i → ps[j]? = some q → lowc q.1 ≠ lowc c) rfl F0 N0
    ⟨rfl, ⟨_, rfl, rfl, trivial⟩, fun _ _ h => by omega⟩ (fun i m₁ nx hJ => hJ.1 ▸ mH) ?_ ?_
  · intro i v I oI m₁ nx h1 tk1 hv zzh; refine cps fun zzX zzk => ?_
    obtain ⟨rfl, ⟨t1, hm1⟩, hno⟩ := zzh
    refine zzk ?_; clear zzk zzX
    intro off F1 N1
    clear F0 N0
    refine cps fun zzX zzk => ?_
    obtain ⟨b, c1, d1, t2, t3, rfl, hps, hmem⟩ := ht.get hv
    refine zzk ?_; clear zzk zzX
    obtain ⟨mr, F1⟩ := frOv [("name", .str (S1 (lowc c)) t1), ("default", dflt)] F1 hm1
    dsimp only [kstB] at F1
    have hc1 := hok _ (List.mem_of_getElem? hps)
    walk_at "go"
    · rename _ = true => he
      have e := S1_inj (beq_iff_eq.mp he)
      refine hsome d1 _ _ _ (lk_some (q := (c1, d1)) hno hps ?_) (by assumption) (kst_newsOf (l := (I, oI) :: nx) (by assumption) fun p hp => .tail _ hp)
      show lowc c1 = lowc c
      rw [e]
    · rename _ = false => he
      rename Fr _ _ _ _ => F2
      rename News _ _ _ _ => N2
      refine MEnd.intro F2 N2 nx (.head _) (fun p hp => .tail _ hp) off ⟨rfl, ⟨t1, rfl, rfl, trivial⟩, fun j q hj hq => ?_⟩
      by_cases hji : j < i
      · exact hno j q hji hq
      · have : j = i := by omega
        subst this
        rw [hps] at hq
        cases hq
        intro e
        simp only [beq_eq_false_iff_ne, ne_eq] at he
        exact he (congrArg S1 e)
  · intro m₁ nx h1 tk1 zzh; refine cps fun zzX zzk => ?_
    obtain ⟨rfl, ⟨t1, hm1⟩, hno⟩ := zzh
    refine zzk ?_; clear zzk zzX
    intro F1 N1
    clear F0 N0
    obtain ⟨mr, F1⟩ := frOv [("name", .str (S1 (lowc c)) t1), ("default", dflt)] F1 hm1
    dsimp only [kstB] at F1
    walk_at "go"
    rw [ht.length] at hno
    exact hnone _ _ (lk_none hno) (by assumption) (by assumption)
end S_B3
section S_B3c
theorem afresh6 : True := by w_top off; trivial
local macro_rules | `(tactic| walk_at "halt") => `(tactic| with_reducible first | show H17 | show H18)
local macro_rules | `(tactic| walk_at "none here") => `(tactic| fail)
theorem c_get2 {x dx H : Addr} {hh : Int} {th : Tok} {nd nn : Nat} {vs : List Value} {ps : List (Nat × Nat)} {c : Nat} {tv : Tok}
  (B : Below A₀ base outer h₀) (F : Fr h₀ L s.heap m) (X : (hd.heap_39 w.params).In h₀) (N : News h₀ L s.heap news) (T : Top p loose mean mg mb h₀) (hk : cs.kind = .function)
  (hd1 : dp + 2 < recursionLimit) (hc : c ∈ okL)
  (mx : (x, instObj 182 dx) ∈ news) (mdx : (dx, diO hh th H nd) ∈ news) (mH : (H, liO vs nn) ∈ news) (ht : Tups news vs ps) (hok : ∀ q ∈ ps, q.1 ∈ okL)
  (hsome : ∀ d t h' tk', lk ps c = some d → Fr h₀ L h' m → News h₀ L h' news → Q (.str (S1 d) t) { s with heap := h', toks := tk' })
  (hnone : ∀ h' tk', lk ps c = none → Fr h₀ L h' m → News h₀ L h' news → Q .none { s with heap := h', toks := tk' }) :
  wpAny (model PySem.Challenge.pw_pm0060_01 w) (ktrTop dp un gd cn cs L a ccd cl outer) (call (.ref 129) [.ref x, .str (S1 c) tv]) Q E s := by
  have hlc := lowc_ok hc
  refine wpAny_call ?_
  walk_at "enter"
  obtain ⟨mr, F'⟩ := frOv [("self", .ref x), ("name", .str (S1 c) tv), ("default", .none)] F' ⟨rfl, rfl, rfl, trivial⟩
  rename_i Fold
  clear Fold
  dsimp only [kstB] at F'
  walk_at "go"
  refine r_for ?_
  walk_at "go"
  rename Fr _ _ _ _ => F0
  rename News _ _ _ _ => N0
  refine r_iterL (vs := vs) (nn := nn) (fun i m₁ nx => nx = news ∧ (∃ t1, Has m₁ [("name", .str (S1 (lowc c)) t1), ("default", .none)]) ∧ ∀ j q, j < i → ps[j]? = some q → lowc q.1 ≠ lowc c) rfl F0 N0
    ⟨rfl, ⟨_, rfl, rfl, trivial⟩, fun _ _ h => by omega⟩ (fun i m₁ nx hJ => hJ.1 ▸ mH) ?_ ?_
  · intro i v I oI m₁ nx h1 tk1 hv zzh; refine cps fun zzX zzk => ?_
    obtain ⟨rfl, ⟨t1, hm1⟩, hno⟩ := zzh
    refine zzk ?_; clear zzk zzX
    intro off F1 N1
    clear F0 N0
    refine cps fun zzX zzk => ?_
    obtain ⟨b, c1, d1, t2, t3, rfl, hps, hmem⟩ := ht.get hv
    refine zzk ?_; clear zzk zzX
    obtain ⟨mr, F1⟩ := frOv [("name", .str (S1 (lowc c)) t1), ("default", .none)] F1 hm1
    dsimp only [kstB] at F1
    have hc1 := hok _ (List.mem_of_getElem? hps)
    walk_at "go"
    · rename _ = true => he
      have e := S1_inj (beq_iff_eq.mp he)
      refine hsome d1 _ _ _ (lk_some (q := (c1, d1)) hno hps ?_) (by assumption) (kst_newsOf (l := (I, oI) :: nx) (by assumption) fun p hp => .tail _ hp)
      show lowc c1 = lowc c
      rw [e]
    · rename _ = false => he
      rename Fr _ _ _ _ => F2
      rename News _ _ _ _ => N2
      refine MEnd.intro F2 N2 nx (.head _) (fun p hp => .tail _ hp) off ⟨rfl, ⟨t1, rfl, rfl, trivial⟩, fun j q hj hq => ?_⟩
      by_cases hji : j < i
      · exact hno j q hji hq
      · have : j = i := by omega
        subst this
        rw [hps] at hq
        cases hq
        intro e
        simp only [beq_eq_false_iff_ne, ne_eq] at he
        exact he (congrArg S1 e)
  · intro m₁ nx h1 tk1 zzh; refine cps fun zzX zzk => ?_
    obtain ⟨rfl, ⟨t1, hm1⟩, hno⟩ := zzh
    refine zzk ?_; clear zzk zzX
    intro F1 N1
    clear F0 N0
    obtain ⟨mr, F1⟩ := frOv [("name", .str (S1 (lowc c)) t1), ("default", .none)] F1 hm1
    dsimp only [kstB] at F1
    walk_at "go"
    rw [ht.length] at hno
    exact hnone _ _ (lk_none hno) (by assumption) (by assumption)
end S_B3c

section S_B4
theorem afresh7 : True := by w_top off; trivial
local macro_rules | `(tactic| walk_at "halt") => `(tactic| with_reducible first | show H19 | show H20 | show H21)
theorem off1_all {D : Addr} {l : List (Addr × Obj)} (h : LCg.Off1 D l) : ∀ p ∈ l, p.1 ≠ D := by
  induction l with
  | nil => intro p hp; cases hp
  | cons q r ih =>
    intro p hp
    rcases List.mem_cons.mp hp with e | hp
    · rw [e]; exact h.1
    · exact ih h.2 p hp
/-- the second parts of those whose first part is the letter c, great or small -/
noncomputable def lkAll (ps : List (Nat × Nat)) (c : Nat) : List Nat := (ps.filter fun q => lowc q.1 == lowc c).map (·.2)
theorem lkAll_yes {ps : List (Nat × Nat)} {c i : Nat} {q : Nat × Nat} (h : ps[i]? = some q) (e : lowc q.1 = lowc c) : lkAll (ps.take (i + 1)) c = lkAll (ps.take i) c ++ [q.2] := by
  unfold lkAll
  rw [List.take_add_one, h, List.filter_append, List.map_append]
  have e2 : (lowc q.1 == lowc c) = true := beq_iff_eq.mpr e
  show _ ++ List.map _ (List.filter _ [q]) = _
  rw [List.filter_cons, if_pos e2]
  rfl
theorem lkAll_no {ps : List (Nat × Nat)} {c i : Nat} {q : Nat × Nat} (h : ps[i]? = some q) (e : lowc q.1 ≠ lowc c) : lkAll (ps.take (i + 1)) c = lkAll (ps.take i) c := by
  unfold lkAll
  rw [List.take_add_one, h, List.filter_append, List.map_append]
  have e2 : ¬ (lowc q.1 == lowc c) = true := fun x => e (beq_iff_eq.mp x)
  show _ ++ List.map _ (List.filter _ [q]) = _
  rw [List.filter_cons, if_neg e2]
  exact List.append_nil _
theorem c_get_all {x dx H : Addr} {hh : Int} {th : Tok} {nd nn : Nat} {vs : List Value} {ps : List (Nat × Nat)} {c : Nat} {tv : Tok}
  (B : Below A₀ base outer h₀) (F : Fr h₀ L s.heap m) (X : (hd.heap_39 w.params).In h₀) (N : News h₀ L s.heap news) (T : Top p loose mean mg mb h₀) (hk : cs.kind = .function)
  (hd1 : dp + 2 < recursionLimit) (hc : c ∈ okL)
  (mx : (x, instObj 182 dx) ∈ news) (mdx : (dx, diO hh th H nd) ∈ news) (mH : (H, liO vs nn) ∈ news) (ht : Tups news vs ps) (hok : ∀ q ∈ ps, q.1 ∈ okL) (hz : ps.length < 1000)
  (hret : ∀ D ys h' tk', Fr h₀ L h' m → News h₀ L h' ((D, liO ys ys.length) :: news) → (∀ p ∈ news, p.1 ≠ D) → Strs ys (lkAll ps c) → Q (.ref D) { s with heap := h', toks := tk' }) :
  wpAny (model PySem.Challenge.pw_pm0060_01 w) (ktrTop dp un gd cn cs L a ccd cl outer) (call (.ref 121) [.ref x, .str (S1 c) tv]) Q E s := by
  have hlc := lowc_ok hc
  refine wpAny_call ?_
  walk_at "enter"
  have hoff : ∀ q ∈ news, q.1 ≠ L' + 1 := fun q hq => Nat.ne_of_lt (Nat.lt_succ_of_lt (l1 q hq))
  rename _ = Data.cell _ => d1
  replace d1 : _ = Data.cell (some (.str (S1 c) tv)) := d1
  obtain ⟨mr, F2⟩ := frOv [("self", .ref x)] F' ⟨rfl, trivial⟩
  clear F'
  dsimp only [kstB] at F2
  walk_at "go"
  rename Fr _ _ _ _ => F0
  rename News _ _ _ _ => N0
  refine LCt.CompSrcT.ledger (k := nn) rfl F0 N0 (by k_mem) (by have := ht.length; rw [sizeLine_eq, List.size_toArray]; omega) fun gh => ?_
  dsimp only
  refine restT (n := vs.toArray.size) (fun i ys nx => nx = (L' + 1, _) :: news ∧ Strs ys (lkAll (ps.take i) c)) ?_ ?_ _ 0 [] _ (Nat.zero_add _) ⟨rfl, .nil⟩
  · rintro i v ys nx I oI C oC D m₂ h tk E' hi hv ⟨rfl, hys⟩ hC hx F1 N1 off ne
    clear F0 N0
    refine cps fun zzX zzk => ?_
    obtain ⟨b, c1, d1, t2, t3, rfl, hps, hmem⟩ := ht.get (show vs[i]? = some v by simpa using hv)
    refine zzk ?_; clear zzk zzX
    have hc1 := hok _ (List.mem_of_getElem? hps)
    walk_at "go"
    · rename _ = true => he
      have e : lowc c1 = lowc c := by have := S1_inj (beq_iff_eq.mp he); omega
      refine LCg.CompEnd.intro F1 N1 _ (fun p hp => hp) off (.inr ⟨_, by k_mem, rfl, _, rfl⟩) ⟨rfl, ?_⟩
      rw [lkAll_yes (q := (c1, d1)) hps e]
      exact hys.snoc
    · rename _ = false => he
      have e : lowc c1 ≠ lowc c := fun e => by rw [e] at he; simp at he
      refine LCg.CompEnd.intro F1 N1 _ (fun p hp => hp) off (.inr ⟨_, by k_mem, rfl, _, rfl⟩) ⟨rfl, ?_⟩
      rw [lkAll_no (q := (c1, d1)) hps e]
      exact hys
  · rintro ys nx ⟨rfl, hys⟩
    clear F0 N0
    unfold LCg.FinE
    intro D h3 tk3 F1 N1 o1
    walk_at "go"
    rw [List.take_of_length_le (by have := ht.length; rw [List.size_toArray]; omega)] at hys
    refine hret D ys _ _ (by assumption) (kst_newsOf (l := (D, LCg.lst ys) :: (L' + 1, _) :: news) (by assumption) fun p hp => ?_) (fun p hp => off1_all o1 p (.tail _ hp)) hys
    rcases List.mem_cons.mp hp with rfl | hp
    · exact .head _
    · exact .tail _ (.tail _ hp)
end S_B4
section S_B5
theorem afresh8 : True := by w_top off; trivial
local macro_rules | `(tactic| walk_at "halt") => `(tactic| with_reducible first | show H19 | show H20 | show H21)
local macro_rules | `(tactic| walk_at "none here") => `(tactic| fail)
theorem c_keys {x dx H : Addr} {hh : Int} {th : Tok} {nd nn : Nat} {vs : List Value} {ps : List (Nat × Nat)}
  (B : Below A₀ base outer h₀) (F : Fr h₀ L s.heap m) (X : (hd.heap_39 w.params).In h₀) (N : News h₀ L s.heap news) (T : Top p loose mean mg mb h₀) (hk : cs.kind = .function)
  (hd1 : dp + 2 < recursionLimit)
  (mx : (x, instObj 182 dx) ∈ news) (mdx : (dx, diO hh th H nd) ∈ news) (mH : (H, liO vs nn) ∈ news) (ht : Tups news vs ps) (hz : ps.length < 1000)
  (hret : ∀ D ys h' tk', Fr h₀ L h' m → News h₀ L h' ((D, liO ys ys.length) :: news) → (∀ p ∈ news, p.1 ≠ D) → Strs ys (ps.map (·.1)) → Q (.ref D) { s with heap := h', toks := tk' }) :
  wpAny (model PySem.Challenge.pw_pm0060_01 w) (ktrTop dp un gd cn cs L a ccd cl outer) (call (.ref 134) [.ref x]) Q E s := by
  refine wpAny_call ?_
  walk_at "enter"
  obtain ⟨mr, F2⟩ := frOv [("self", .ref x)] F' ⟨rfl, trivial⟩
  clear F'
  dsimp only [kstB] at F2
  walk_at "go"
  rename Fr _ _ _ _ => F0
  rename News _ _ _ _ => N0
  refine LCp.SrcLP.ledger (k := nn) rfl F0 N0 (by k_mem) (by have := ht.length; rw [sizeLine_eq, List.size_toArray]; omega) fun gh => ?_
  dsimp only
  refine restP (n := vs.toArray.size) (fun i ys nx => nx = news ∧ Strs ys ((ps.take i).map (·.1))) ?_ ?_ _ 0 [] _ (Nat.zero_add _) ⟨rfl, .nil⟩
  · rintro i v ys nx hi hv ⟨rfl, hys⟩
    clear F0 N0
    refine cps fun zzX zzk => ?_
    obtain ⟨b, c1, d1, t2, t3, rfl, hps, hmem⟩ := ht.get (show vs[i]? = some v by simpa using hv)
    refine zzk ?_; clear zzk zzX
    refine ⟨b, _, _, _, _, rfl, hmem, rfl, rfl, ?_⟩
    intro I oI C oC D m₂ h tk E' hC hx hx2 F1 N1 off ne
    walk_at "go"
    refine LCg.CompEnd.intro F1 N1 _ (fun p hp => hp) off (.inr ⟨_, by k_mem, rfl, _, rfl⟩) ⟨rfl, ?_⟩
    rw [List.take_add_one, hps, List.map_append]
    exact hys.snoc
  · rintro ys nx ⟨rfl, hys⟩
    clear F0 N0
    unfold LCg.FinE
    intro D h3 tk3 F1 N1 o1
    walk_at "go"
    rw [List.take_of_length_le (by have := ht.length; rw [List.size_toArray]; omega)] at hys
    exact hret D ys _ _ (by assumption) (by assumption) (off1_all o1) hys
theorem c_values {x dx H : Addr} {hh : Int} {th : Tok} {nd nn : Nat} {vs : List Value} {ps : List (Nat × Nat)}
  (B : Below A₀ base outer h₀) (F : Fr h₀ L s.heap m) (X : (hd.heap_39 w.params).In h₀) (N : News h₀ L s.heap news) (T : Top p loose mean mg mb h₀) (hk : cs.kind = .function)
  (hd1 : dp + 2 < recursionLimit)
  (mx : (x, instObj 182 dx) ∈ news) (mdx : (dx, diO hh th H nd) ∈ news) (mH : (H, liO vs nn) ∈ news) (ht : Tups news vs ps) (hz : ps.length < 1000)
  (hret : ∀ D ys h' tk', Fr h₀ L h' m → News h₀ L h' ((D, liO ys ys.length) :: news) → (∀ p ∈ news, p.1 ≠ D) → Strs ys (ps.map (·.2)) → Q (.ref D) { s with heap := h', toks := tk' }) :
  wpAny (model PySem.Challenge.pw_pm0060_01 w) (ktrTop dp un gd cn cs L a ccd cl outer) (call (.ref 139) [.ref x]) Q E s := by
  refine wpAny_call ?_
  walk_at "enter"
  obtain ⟨mr, F2⟩ := frOv [("self", .ref x)] F' ⟨rfl, trivial⟩
  clear F'
  dsimp only [kstB] at F2
  walk_at "go"
  rename Fr _ _ _ _ => F0
  rename News _ _ _ _ => N0
  refine LCp.SrcLP.ledger (k := nn) rfl F0 N0 (by k_mem) (by have := ht.length; rw [sizeLine_eq, List.size_toArray]; omega) fun gh => ?_
  dsimp only
  refine restP (n := vs.toArray.size) (fun i ys nx => nx = news ∧ Strs ys ((ps.take i).map (·.2))) ?_ ?_ _ 0 [] _ (Nat.zero_add _) ⟨rfl, .nil⟩
  · rintro i v ys nx hi hv ⟨rfl, hys⟩
    clear F0 N0
    refine cps fun zzX zzk => ?_
    obtain ⟨b, c1, d1, t2, t3, rfl, hps, hmem⟩ := ht.get (show vs[i]? = some v by simpa using hv)
    refine zzk ?_; clear zzk zzX
    refine ⟨b, _, _, _, _, rfl, hmem, rfl, rfl, ?_⟩
    intro I oI C oC D m₂ h tk E' hC hx hx2 F1 N1 off ne
    walk_at "go"
    refine LCg.CompEnd.intro F1 N1 _ (fun p hp => hp) off (.inr ⟨_, by k_mem, rfl, _, rfl⟩) ⟨rfl, ?_⟩
    rw [List.take_add_one, hps, List.map_append]
    exact hys.snoc
  · rintro ys nx ⟨rfl, hys⟩
    clear F0 N0
    unfold LCg.FinE
    intro D h3 tk3 F1 N1 o1
    walk_at "go"
    rw [List.take_of_length_le (by have := ht.length; rw [List.size_toArray]; omega)] at hys
    exact hret D ys _ _ (by assumption) (by assumption) (off1_all o1) hys
end S_B5
section S_B6
theorem afresh9 : True := by w_top off; trivial
local macro_rules | `(tactic| walk_at "halt") => `(tactic| fail)
theorem c_items {x dx H : Addr} {hh : Int} {th : Tok} {nd nn : Nat} {vs : List Value}
  (B : Below A₀ base outer h₀) (F : Fr h₀ L s.heap m) (X : (hd.heap_39 w.params).In h₀) (N : News h₀ L s.heap news) (T : Top p loose mean mg mb h₀) (hk : cs.kind = .function)
  (hd1 : dp + 2 < recursionLimit)
  (mx : (x, instObj 182 dx) ∈ news) (mdx : (dx, diO hh th H nd) ∈ news) (mH : (H, liO vs nn) ∈ news) (hz : vs.length < 1000)
  (hret : ∀ D h' tk', Fr h₀ L h' m → News h₀ L h' ((D, liO vs 0) :: news) → Q (.ref D) { s with heap := h', toks := tk' }) :
  wpAny (model PySem.Challenge.pw_pm0060_01 w) (ktrTop dp un gd cn cs L a ccd cl outer) (call (.ref 146) [.ref x]) Q E s := by
  refine wpAny_call ?_
  walk_at "enter"
  obtain ⟨mr, F2⟩ := frOv [("self", .ref x)] F' ⟨rfl, trivial⟩
  clear F'
  dsimp only [kstB] at F2
  walk_at "go"
  exact hret _ _ _ (by assumption) (by assumption)
end S_B6
section S_B7
theorem afresh10 : True := by w_top off; trivial
local macro_rules | `(tactic| walk_at "halt") => `(tactic| with_reducible first | show H19 | show H20 | show H21)
theorem Tups.snoc {nx : List (Addr × Obj)} {vs : List Value} {ps : List (Nat × Nat)} {b : Addr} {c d : Nat} {t1 t2 : Tok} (h : Tups nx vs ps) (hm : (b, prO (.str (S1 c) t1) (.str (S1 d) t2)) ∈ nx) : Tups nx (vs ++ [.ref b]) (ps ++ [(c, d)]) := by
  induction h with
  | nil => exact .cons hm .nil
  | cons hm' _ ih => exact .cons hm' ih
local macro_rules | `(tactic| walk_at "none here") => `(tactic| fail)
theorem c_del {x dx H : Addr} {hh : Int} {th : Tok} {nd nn : Nat} {vs : List Value} {ps : List (Nat × Nat)} {c : Nat} {tv : Tok} {rest sub : List (Addr × Obj)}
  (B : Below A₀ base outer h₀) (F : Fr h₀ L s.heap m) (X : (hd.heap_39 w.params).In h₀) (N : News h₀ L s.heap ((H, liO vs nn) :: rest)) (T : Top p loose mean mg mb h₀) (hk : cs.kind = .function)
  (hd1 : dp + 2 < recursionLimit) (hc : c ∈ okL)
  (mx : (x, instObj 182 dx) ∈ rest) (mdx : (dx, diO hh th H nd) ∈ rest) (offH : ∀ q ∈ rest, q.1 ≠ H) (hsubT : ∀ q ∈ sub, q ∈ rest) (ht : Tups sub vs ps) (hok : ∀ q ∈ ps, q.1 ∈ okL) (hz : ps.length < 1000)
  (hret : ∀ vs' n' h' tk', Fr h₀ L h' m → News h₀ L h' ((H, liO vs' n') :: rest) → Tups sub vs' (ps.filter fun q => lowc q.1 != lowc c) → Q .none { s with heap := h', toks := tk' }) :
  wpAny (model PySem.Challenge.pw_pm0060_01 w) (ktrTop dp un gd cn cs L a ccd cl outer) (call (.ref 102) [.ref x, .str (S1 c) tv]) Q E s := by
  have hlc := lowc_ok hc
  refine wpAny_call ?_
  walk_at "enter"
  have hoff : ∀ q ∈ rest, q.1 ≠ L' + 1 := fun q hq => Nat.ne_of_lt (Nat.lt_succ_of_lt (allLt_all l1.2 q hq))
  have hHL : @Ne Nat H (L' + 1) := Nat.ne_of_lt (Nat.lt_succ_of_lt l1.1)
  rename _ = Data.cell _ => d1
  replace d1 : _ = Data.cell (some (.str (S1 c) tv)) := d1
  obtain ⟨mr, F2⟩ := frOv [("self", .ref x)] F' ⟨rfl, trivial⟩
  clear F'
  dsimp only [kstB] at F2
  walk_at "go"
  rename Fr _ _ _ _ => F0
  rename News _ _ _ _ => N0
  refine LCt.CompSrcT.ledger (k := nn) rfl F0 N0 (by k_mem) (by have := ht.length; rw [sizeLine_eq, List.size_toArray]; omega) fun gh => ?_
  dsimp only
  refine restT (n := vs.toArray.size) (fun i ys nx => nx = (L' + 1, _) :: (H, liO vs nn) :: rest ∧ Tups sub ys ((ps.take i).filter fun q => lowc q.1 != lowc c)) ?_ ?_ _ 0 [] _ (Nat.zero_add _) ⟨rfl, .nil⟩
  · rintro i v ys nx I oI C oC D m₂ h tk E' hi hv ⟨rfl, hys⟩ hC hx F1 N1 off ne
    clear F0 N0
    refine cps fun zzX zzk => ?_
    obtain ⟨b, c1, d1, t2, t3, rfl, hps, hmem0⟩ := ht.get (show vs[i]? = some v by simpa using hv)
    refine zzk ?_; clear zzk zzX
    have hmem := hsubT _ hmem0
    have hc1 := hok _ (List.mem_of_getElem? hps)
    walk_at "go"
    · rename _ = true => he
      have e : ¬ (lowc c1 = lowc c) := fun e => by rw [e] at he; simp at he
      refine LCg.CompEnd.intro F1 N1 _ (fun p hp => hp) off (.inr ⟨_, by k_mem, rfl, _, rfl⟩) ⟨rfl, ?_⟩
      have e2 : (lowc c1 != lowc c) = true := by simpa using e
      rw [List.take_add_one, hps, List.filter_append]
      show Tups sub _ (_ ++ List.filter _ [(c1, d1)])
      rw [List.filter_cons, if_pos e2]
      exact hys.snoc hmem0
    · rename _ = false => he
      have e : lowc c1 = lowc c := by
        have : S1 (lowc c1) = S1 (lowc c) := by simpa using he
        exact S1_inj this
      refine LCg.CompEnd.intro F1 N1 _ (fun p hp => hp) off (.inr ⟨_, by k_mem, rfl, _, rfl⟩) ⟨rfl, ?_⟩
      have e2 : ¬ (lowc c1 != lowc c) = true := by simpa using e
      rw [List.take_add_one, hps, List.filter_append]
      show Tups sub _ (_ ++ List.filter _ [(c1, d1)])
      rw [List.filter_cons, if_neg e2, List.filter_nil, List.append_nil]
      exact hys
  · rintro ys nx ⟨rfl, hys⟩
    clear F0 N0
    unfold LCg.FinE
    intro D h3 tk3 F1 N1 o1
    have hHD : @Ne Nat H D := o1.2.1
    have hLH : @Ne Nat (L' + 1) H := Ne.symm hHL
    have hzz : vs.length + ys.length ≤ 16777216 := by
      have h1 := ht.length
      have h2 := hys.length
      have h3 := List.length_filter_le (fun q : Nat × Nat => lowc q.1 != lowc c) (ps.take vs.toArray.size)
      rw [List.length_take] at h3
      omega
    walk_at "go"
    rw [List.take_of_length_le (by have := ht.length; rw [List.size_toArray]; omega)] at hys
    refine hret ys (if ys.length == vs.length then nn else nn + 1) _ _ (by assumption) (kst_newsOf (by assumption) fun p hp => ?_) hys
    rcases List.mem_cons.mp hp with rfl | hp
    · exact .tail _ (.tail _ (.head _))
    · exact .tail _ (.tail _ (.tail _ hp))
end S_B7

section S_B8
theorem afresh11 : True := by w_top off; trivial
set_option hygiene false in
local macro_rules | `(tactic| walk_at "halt") => `(tactic| with_reducible show HW (call (Value.builtin "list.append") [Value.ref H, _]))
section
variable {prog : Program} {w : World} {A : Around} {E : Value → Shared → Prop} {s : Shared} {h₀ : Heap} {L l : Addr} {news : List (Addr × Obj)}
theorem r_join1 {its : Array Value} {n d : Nat} {t td : Tok} {Q : Value → Shared → Prop} (N : News h₀ L s.heap news) (hm : (l, ({ cls := .type "list", data := .seq its n } : Obj)) ∈ news) (e : its = #[.str (S1 d) td])
    (h : Q (.str (S1 d) td) s) : wpAny (model prog w) A (call (.builtin "str.join") [.str (Str.ofString "; ") t, .ref l]) Q E s := by
  subst e
  exact call_meets PySem.F.slot_str_join (typeIs_str s _ _) PySem.F.entry_str_join (PySem.F.args_str_join_2 _ _) (meets_str_join_list (Str.ofString "; ") t l [(S1 d, td)] (by show Builtin.Str.tooLong (0 + 1 + (Str.ofString "; ").length) = false; decide +kernel)) ⟨N.isList hm, h⟩
end
local macro_rules | `(tactic| walk_at "call builtin:str.join") => `(tactic| ((with_reducible show H22); k_dflt (refine' r_join1 (by k_asm) (by k_mem) (by exact rfl) ?_; k_whole)))
local macro_rules | `(tactic| walk_at "none here") => `(tactic| fail)
theorem c_add {x dx H : Addr} {hh : Int} {th : Tok} {nd nn : Nat} {vs : List Value} {c d : Nat} {tc td : Tok} {rest : List (Addr × Obj)}
  (B : Below A₀ base outer h₀) (F : Fr h₀ L s.heap m) (X : (hd.heap_39 w.params).In h₀) (N : News h₀ L s.heap ((H, liO vs nn) :: rest)) (T : Top p loose mean mg mb h₀) (hk : cs.kind = .function)
  (hd1 : dp + 2 < recursionLimit) (hc : c ∈ okL) (hcd : d ∈ okL)
  (mx : (x, instObj 182 dx) ∈ rest) (mdx : (dx, diO hh th H nd) ∈ rest) (offH : ∀ q ∈ rest, q.1 ≠ H) (hz : vs.length < 1000)
  (hret : ∀ b t1 t2 n' h' tk', Fr h₀ L h' m → News h₀ L h' ((H, liO (vs ++ [.ref b]) n') :: (b, prO (.str (S1 c) t1) (.str (S1 d) t2)) :: rest) → H ≠ b → (∀ q ∈ rest, q.1 ≠ b) → Q .none { s with heap := h', toks := tk' }) :
  wpAny (model PySem.Challenge.pw_pm0060_01 w) (ktrTop dp un gd cn cs L a ccd cl outer) (call (.ref 179) [.ref x, .str (S1 c) tc, .str (S1 d) td]) Q E s := by
  refine wpAny_call ?_
  walk_at "enter more"
  obtain ⟨mr, F2⟩ := frOv [("self", .ref x), ("_name", .str (S1 c) tc), ("_value", .str (S1 d) td), ("_params", .ref D')] F' ⟨rfl, rfl, rfl, rfl, trivial⟩
  clear F'
  dsimp only [kstB] at F2
  walk_at "go"
  rename_i D9 h9 F9 N9 l9
  have hDH : D9 ≠ H := Nat.ne_of_gt l9.2.2.2.1
  refine r_append (news := (D9, prO (.str (S1 c) tc) (.str (S1 d) td)) :: (H, liO vs nn) :: rest) F9 (kst_newsOf N9 ?_) (Upd.tail hDH (Upd.head offH)) (by walk_at "line") ?_
  · intro p hp
    rcases List.mem_cons.mp hp with rfl | hp
    · k_mem
    · rcases List.mem_cons.mp hp with rfl | hp
      · k_mem
      · k_mem
  intro h10 F10 N10
  walk_at "go"
  refine hret D9 tc td (nn + 1) _ _ (by assumption) (kst_newsOf (l := (D9, prO (.str (S1 c) tc) (.str (S1 d) td)) :: (H, liO (vs ++ [.ref D9]) _) :: rest) (by assumption) fun p hp => ?_) (Ne.symm hDH) fun q hq => Nat.ne_of_lt (allLt_all l9.2.2.2.2 q hq)
  rcases List.mem_cons.mp hp with rfl | hp
  · exact .tail _ (.head _)
  · rcases List.mem_cons.mp hp with rfl | hp
    · exact .head _
    · exact .tail _ (.tail _ hp)
end S_B8

section S_B9
theorem afresh12 : True := by w_top off; trivial
noncomputable def dgL : List Nat := [48, 49, 50, 51, 52, 53, 54, 55, 56]
theorem int_S1 {d : Nat} (h : d ∈ dgL) : PySem.intText? (S1 d) = some ((d : Int) - 48) := by
  simp only [dgL, List.mem_cons, List.not_mem_nil, or_false] at h
  rcases h with rfl | rfl | rfl | rfl | rfl | rfl | rfl | rfl | rfl <;> decide +kernel
section
variable {prog : Program} {w : World} {A : Around} {E : Value → Shared → Prop} {s : Shared}
theorem r_int {d : Nat} {t : Tok} {Q : Value → Shared → Prop} (hd : d ∈ dgL) (h : ∀ t' tk', Q (.int ((d : Int) - 48) t') { s with toks := tk' }) : wpAny (model prog w) A (call (.type "int") [.str (S1 d) t]) Q E s :=
  KIN.call_text (int_S1 hd) (by show 1 ≤ 640; decide) (h _ _)
end
local macro_rules | `(tactic| walk_at "halt") => `(tactic| fail "no halt")
set_option hygiene false in
local macro_rules | `(tactic| walk_at "call type:int") => `(tactic| ((with_reducible show wpAny _ _ (call (Value.type "int") [Value.str (S1 _) _]) _ _ _); (refine' r_int (by assumption) ?_); intro t' tk'; (try dsimp only)))
theorem c_wanted {b : Addr} {c d : Nat} {t1 t2 : Tok} 
  (B : Below A₀ base outer h₀) (F : Fr h₀ L s.heap m) (X : (hd.heap_39 w.params).In h₀) (N : News h₀ L s.heap news) (T : Top p loose mean mg mb h₀) (hk : cs.kind = .function)
  (hd1 : dp + 1 < recursionLimit) (hd : d ∈ dgL)
  (hm : (b, prO (.str (S1 c) t1) (.str (S1 d) t2)) ∈ news)
  (hret : ∀ t h' tk', Fr h₀ L h' m → News h₀ L h' news → Q (.int ((d : Int) - 48) t) { s with heap := h', toks := tk' }) :
  wpAny (model PySem.Challenge.pw_pm0060_01 w) (ktrTop dp un gd cn cs L a ccd cl outer) (call (.ref 225) [.ref b]) Q E s := by
  refine wpAny_call ?_
  walk_at "enter"
  obtain ⟨mr, F2⟩ := frOv [("pair", .ref b)] F' ⟨rfl, trivial⟩
  clear F'
  dsimp only [kstB] at F2
  walk_at "go"
  exact hret _ _ _ (by assumption) (by assumption)
noncomputable def wn (ps : List (Nat × Nat)) : List Int := ps.map fun q => (q.2 : Int) - 48
theorem wn_length (ps : List (Nat × Nat)) : (wn ps).length = ps.length := List.length_map ..
theorem wn_get {ps : List (Nat × Nat)} {i : Nat} {q : Nat × Nat} (h : ps[i]? = some q) : (wn ps)[i]? = some ((q.2 : Int) - 48) := by
  unfold wn
  rw [List.getElem?_map, h]; rfl
local macro_rules | `(tactic| walk_at "halt") => `(tactic| with_reducible first | show H11 | show H23 | show H24)
theorem c_bisectK {l : Addr} {vs : List Value} {ps : List (Nat × Nat)} {nn : Nat} {x : Int} {tx t0 : Tok}
  (B : Below A₀ base outer h₀) (F : Fr h₀ L s.heap m) (X : (hd.heap_39 w.params).In h₀) (N : News h₀ L s.heap news) (T : Top p loose mean mg mb h₀) (hk : cs.kind = .function)
  (hd1 : dp + 2 < recursionLimit)
  (hm : (l, liO vs nn) ∈ news) (hi : Tups news vs ps) (hdg : ∀ q ∈ ps, q.2 ∈ dgL) (hlen : ps.length < 1000) (hs : Sorted (wn ps))
  (hret : ∀ (r : Nat) t h' tk', Fr h₀ L h' m → News h₀ L h' news → IsBis (wn ps) x r → Q (.int r t) { s with heap := h', toks := tk' }) :
  wpAny (model PySem.Challenge.pw_pm0060_01 w) (ktrTop dp un gd cn cs L a ccd cl outer) (call (.ref 204) [.ref l, .int x tx, .int 0 t0, .none] [("key", .ref 225)]) Q E s := by
  have hvl : vs.length = ps.length := hi.length
  refine wpAny_call ?_
  walk_at "enter"
  obtain ⟨mr, F'⟩ := frOv [("a", .ref l), ("x", .int x tx), ("lo", .int 0 t0), ("hi", .none), ("key", .ref 225)] F' ⟨rfl, rfl, rfl, rfl, rfl, trivial⟩
  rename_i Fold
  clear Fold
  dsimp only [kstB] at F'
  walk_at "go"
  rename Fr _ _ _ _ => F0
  rename News _ _ _ _ => N0
  refine While_inv2 (fun n m₁ nx => ∃ (lo hi : Nat) (t1 t2 : Tok), n = hi - lo ∧ lo ≤ hi ∧ hi ≤ ps.length ∧ (∀ i a, (wn ps)[i]? = some a → i < lo → a ≤ x) ∧ (∀ i a, (wn ps)[i]? = some a → hi ≤ i → x < a) ∧ Has m₁ [("a", .ref l), ("x", .int x tx), ("lo", .int lo t1), ("hi", .int hi t2), ("key", .ref 225)] ∧ nx = news) (n₀ := vs.length) F0 N0
    ⟨0, vs.length, _, _, by omega, by omega, by omega, fun _ _ _ h => by omega, fun i a h1 h2 => ?_, ⟨rfl, rfl, rfl, rfl, rfl, trivial⟩, rfl⟩ ?_ (by passes_own)
  · rw [List.getElem?_eq_none (by rw [wn_length]; omega)] at h1; cases h1
  clear F0 N0
  intro n m₁ nx h1 tk1 F1 N1 zzh; refine cps fun zzX zzk => ?_
  obtain ⟨lo, hi', t1, t2, hn, hlo, hhi, hA, hB, hm1, rfl⟩ := zzh
  refine zzk ?_; clear zzk zzX
  obtain ⟨mr, F1⟩ := frOv [("a", .ref l), ("x", .int x tx), ("lo", .int lo t1), ("hi", .int hi' t2), ("key", .ref 225)] F1 hm1
  dsimp only [kstB] at F1
  have hmd : ((lo : Int) + (hi' : Int)).fdiv 2 = (((lo + hi') / 2 : Nat) : Int) := midE
  walk_at "go"
  · have hlt : lo < hi' := by omega
    have hmm : (lo + hi') / 2 < ps.length := (mid (Int.ofNat_lt.mpr hlt) hn hhi).2.2.2.1
    obtain ⟨q, hq⟩ : ∃ q, ps[(lo + hi') / 2]? = some q := ⟨_, List.getElem?_eq_getElem hmm⟩
    obtain ⟨b, u1, u2, hv, hb⟩ := hi.getP hq
    have hqd : q.2 ∈ dgL := hdg _ (List.mem_of_getElem? hq)
    refine r_item (by assumption) hm (by omega) (by omega) (v := .ref b) (by rw [hmd, Int.toNat_natCast]; simpa using hv) ?_
    walk_at "go"
    refine c_wanted (by assumption) (by assumption) (by assumption) (by assumption) (by assumption) (by first | exact rfl | assumption) (by ktr_room) hqd hb ?_
    intro t8 h8 tk8 F8 N8
    walk_at "go"
    · rename Fr _ _ _ _ => F2
      rename News _ _ _ _ => N2
      rename x < _ => hx
      refine ⟨_, _, _, _, (lo + hi') / 2 - lo, rfl, F2, N2, (mid (Int.ofNat_lt.mpr hlt) hn hhi).1, lo, (lo + hi') / 2, t1, _, rfl, (mid (Int.ofNat_lt.mpr hlt) hn hhi).2.1, (mid (Int.ofNat_lt.mpr hlt) hn hhi).2.2.1, hA, fun i a h1 h2 => ?_, ⟨rfl, rfl, rfl, congrArg (fun z => some (Value.int z _)) hmd, rfl, trivial⟩, rfl⟩
      exact Int.lt_of_lt_of_le hx (hs _ _ _ _ h2 (wn_get hq) h1)
    · rename Fr _ _ _ _ => F2
      rename News _ _ _ _ => N2
      rename ¬ x < _ => hx
      refine ⟨_, _, _, _, hi' - ((lo + hi') / 2 + 1), rfl, F2, N2, (mid (Int.ofNat_lt.mpr hlt) hn hhi).2.2.2.2.1, (lo + hi') / 2 + 1, hi', _, t2, rfl, (mid (Int.ofNat_lt.mpr hlt) hn hhi).2.2.2.2.2, hhi, fun i a h1 h2 => ?_, hB, ⟨rfl, rfl, congrArg (fun z => some (Value.int z _)) (show _ = _ by rw [hmd]; rfl), rfl, rfl, trivial⟩, rfl⟩
      exact Int.le_trans (hs _ _ _ _ (Nat.le_of_lt_succ h2) h1 (wn_get hq)) (Int.not_lt.mp hx)
  · refine hret _ _ _ _ (by assumption) (by assumption) ⟨by rw [wn_length]; omega, fun i n h => ⟨fun h1 => hA _ _ h h1, fun h1 => ?_⟩⟩
    by_cases h2 : i < lo
    · exact h2
    · have := hB i n h (by omega)
      omega
local macro_rules | `(tactic| walk_at "halt") => `(tactic| with_reducible first | show H25 | show H26)
theorem c_insort {l e : Addr} {vs : List Value} {ps : List (Nat × Nat)} {nn c d : Nat} {t1 t2 : Tok} {rest : List (Addr × Obj)}
  (B : Below A₀ base outer h₀) (F : Fr h₀ L s.heap m) (X : (hd.heap_39 w.params).In h₀) (N : News h₀ L s.heap ((l, liO vs nn) :: rest)) (T : Top p loose mean mg mb h₀) (hk : cs.kind = .function)
  (hd1 : dp + 3 < recursionLimit)
  (hi : Tups rest vs ps) (hdg : ∀ q ∈ ps, q.2 ∈ dgL) (hlen : ps.length < 1000) (hs : Sorted (wn ps)) (hd : d ∈ dgL)
  (me : (e, prO (.str (S1 c) t1) (.str (S1 d) t2)) ∈ rest) (offl : ∀ q ∈ rest, q.1 ≠ l)
  (hret : ∀ (r : Nat) n' h' tk', IsBis (wn ps) ((d : Int) - 48) r → Fr h₀ L h' m → News h₀ L h' ((l, liO (vs.take r ++ .ref e :: vs.drop r) n') :: rest) → Q .none { s with heap := h', toks := tk' }) :
  wpAny (model PySem.Challenge.pw_pm0060_01 w) (ktrTop dp un gd cn cs L a ccd cl outer) (call (.ref 195) [.ref l, .ref e] [("key", .ref 225)]) Q E s := by
  refine wpAny_call ?_
  walk_at "enter"
  obtain ⟨mr, F2⟩ := frOv [("a", .ref l), ("x", .ref e), ("lo", .int 0 _), ("hi", .none), ("key", .ref 225)] F' ⟨rfl, rfl, rfl, rfl, rfl, trivial⟩
  clear F'
  dsimp only [kstB] at F2
  walk_at "go"
  refine c_wanted (by assumption) (by assumption) (by assumption) (by assumption) (by assumption) (by first | exact rfl | assumption) (by ktr_room) hd (.tail _ me) ?_
  intro t8 h8 tk8 F8 N8
  clear F2 N'
  walk_at "go"
  refine c_bisectK (by assumption) (by assumption) (by assumption) (by assumption) (by assumption) (by first | exact rfl | assumption) (by ktr_room) (.head _) (hi.mono fun q hq => .tail _ hq) hdg hlen hs ?_
  intro r t9 h9 tk9 F9 N9 hr
  clear F8 N8
  walk_at "go"
  rename Fr _ _ _ _ => F2
  rename News _ _ _ _ => N2
  have hvl : vs.length = ps.length := hi.length
  have hrl : r ≤ vs.length := by rw [hvl, ← wn_length]; exact hr.1
  refine kl_insert (its := vs.toArray) (l := vs.take r ++ .ref e :: vs.drop r) F2 N2 ?_ ?_ (.head offl) ?_ ?_
  · simp [Builtin.List.listFitsIndex]; omega
  · unfold kl_ins
    have h1 : ¬ ((r : Int) < 0) := by omega
    rw [if_neg h1]
    have h2 : min ((r : Int)).toNat vs.length = r := by simp; omega
    simp only [List.toList_toArray, h2]
  · rw [sizeLine_eq]; simp; omega
  intro h10 F10 N10
  walk_at "go"
  exact hret r _ _ _ hr (by assumption) (by assumption)
end S_B9

section S_C1
theorem afresh13 : True := by w_top off; trivial
noncomputable def fmax3 (a b c : UInt64) : UInt64 :=
  let m := if (Float64.cmp a b == some .lt) = true then b else a
  if (Float64.cmp m c == some .lt) = true then c else m
noncomputable def fmin3 (a b c : UInt64) : UInt64 :=
  let m := if (Float64.cmp b a == some .lt) = true then b else a
  if (Float64.cmp c m == some .lt) = true then c else m
section
variable {prog : Program} {w : World} {A : Around} {E : Value → Shared → Prop} {s : Shared} {h₀ : Heap} {L : Addr} {m : Str → Option Value} {news : List (Addr × Obj)}
theorem r_max3 {a b c : UInt64} {t u x : Tok} {Q : Value → Shared → Prop} (hh : A.handled = none) (F : Fr h₀ L s.heap m) (N : News h₀ L s.heap news)
    (h : ∀ h' tk v, Fr h₀ L h' m → News h₀ L h' news → Q (.float (fmax3 a b c) v) { s with heap := h', toks := tk }) :
    wpAny (model prog w) A (call (.builtin "max") [.float a t, .float b u, .float c x]) Q E s := by
  have hT : (s.heap.push { cls := .type "tuple", data := .seq #[.float a t, .float b u, .float c x] }).IsTuple s.heap.objs.size #[.float a t, .float b u, .float c x] := ⟨_, Heap.get?_push_size _ rfl, rfl, 0, rfl⟩
  refine call_max_three (wpAny_pyIter_tuple hT ?_)
  have hsz : (s.heap.push { cls := .type "tuple", data := .seq #[.float a t, .float b u, .float c x] }).objs.size = s.heap.objs.size + 1 := Heap.size_push ..
  refine ⟨_, [_, s.heap.objs.size], [_], _, _, _, _, rfl, Walks.tuple (A := A.in1) hh _ s.heap.objs.size (by rw [hsz]; exact Nat.ne_of_lt (Nat.lt_succ_self _)) #[.float a t, .float b u, .float c x],
    ⟨⟨_, Heap.get?_push_size _ rfl, rfl, rfl⟩, hT.push _⟩, fun d hd => ?_, by simp, Flt.cmpOf_gt #[.float a t, .float b u, .float c x] (by intro v hv; simp at hv; rcases hv with rfl | rfl | rfl <;> exact .float _ _), fun v h' tk hP hk => ?_⟩
  · show d < ((s.heap.push _).push _).objs.size
    rw [Heap.size_push, hsz]
    rcases List.mem_cons.mp hd with rfl | hd
    · rw [hsz]; exact Nat.lt_succ_self _
    · rcases List.mem_cons.mp hd with rfl | hd
      · exact Nat.lt_succ_of_lt (Nat.lt_succ_self _)
      · cases hd
  · have hold : ∀ d o, s.heap.get? d = some o → h'.get? d = some o := fun d o e => by
      refine hk d o (fun hm => ?_) (Heap.get?_push_of_some _ (Heap.get?_push_of_some _ e))
      rcases List.mem_cons.mp hm with e1 | hm
      · have := Heap.lt_size e; rw [e1, hsz] at this; exact Nat.lt_irrefl _ (Nat.lt_of_succ_lt this)
      · cases hm
    have hv : ∃ t', v = .float (fmax3 a b c) t' := by
      by_cases h1 : (Float64.cmp a b == some .lt) = true
      · by_cases h2 : (Float64.cmp b c == some .lt) = true
        · exact ⟨x, by simp [argBest, Flt.ltV, h1, h2] at hP; simp [fmax3, h1, h2, hP]⟩
        · exact ⟨u, by simp [argBest, Flt.ltV, h1, h2] at hP; simp [fmax3, h1, h2, hP]⟩
      · by_cases h2 : (Float64.cmp a c == some .lt) = true
        · exact ⟨x, by simp [argBest, Flt.ltV, h1, h2] at hP; simp [fmax3, h1, h2, hP]⟩
        · exact ⟨t, by simp [argBest, Flt.ltV, h1, h2] at hP; simp [fmax3, h1, h2, hP]⟩
    obtain ⟨t', rfl⟩ := hv
    exact h h' tk t' (F.grownK hold) (N.grown hold)
theorem r_min3 {a b c : UInt64} {t u x : Tok} {Q : Value → Shared → Prop} (hh : A.handled = none) (F : Fr h₀ L s.heap m) (N : News h₀ L s.heap news)
    (h : ∀ h' tk v, Fr h₀ L h' m → News h₀ L h' news → Q (.float (fmin3 a b c) v) { s with heap := h', toks := tk }) :
    wpAny (model prog w) A (call (.builtin "min") [.float a t, .float b u, .float c x]) Q E s := by
  have hT : (s.heap.push { cls := .type "tuple", data := .seq #[.float a t, .float b u, .float c x] }).IsTuple s.heap.objs.size #[.float a t, .float b u, .float c x] := ⟨_, Heap.get?_push_size _ rfl, rfl, 0, rfl⟩
  refine call_min_three (wpAny_pyIter_tuple hT ?_)
  have hsz : (s.heap.push { cls := .type "tuple", data := .seq #[.float a t, .float b u, .float c x] }).objs.size = s.heap.objs.size + 1 := Heap.size_push ..
  refine ⟨_, [_, s.heap.objs.size], [_], _, _, _, _, rfl, Walks.tuple (A := A.in1) hh _ s.heap.objs.size (by rw [hsz]; exact Nat.ne_of_lt (Nat.lt_succ_self _)) #[.float a t, .float b u, .float c x],
    ⟨⟨_, Heap.get?_push_size _ rfl, rfl, rfl⟩, hT.push _⟩, fun d hd => ?_, by simp, Flt.cmpOf_lt #[.float a t, .float b u, .float c x] (by intro v hv; simp at hv; rcases hv with rfl | rfl | rfl <;> exact .float _ _), fun v h' tk hP hk => ?_⟩
  · show d < ((s.heap.push _).push _).objs.size
    rw [Heap.size_push, hsz]
    rcases List.mem_cons.mp hd with rfl | hd
    · rw [hsz]; exact Nat.lt_succ_self _
    · rcases List.mem_cons.mp hd with rfl | hd
      · exact Nat.lt_succ_of_lt (Nat.lt_succ_self _)
      · cases hd
  · have hold : ∀ d o, s.heap.get? d = some o → h'.get? d = some o := fun d o e => by
      refine hk d o (fun hm => ?_) (Heap.get?_push_of_some _ (Heap.get?_push_of_some _ e))
      rcases List.mem_cons.mp hm with e1 | hm
      · have := Heap.lt_size e; rw [e1, hsz] at this; exact Nat.lt_irrefl _ (Nat.lt_of_succ_lt this)
      · cases hm
    have hv : ∃ t', v = .float (fmin3 a b c) t' := by
      by_cases h1 : (Float64.cmp b a == some .lt) = true
      · by_cases h2 : (Float64.cmp c b == some .lt) = true
        · exact ⟨x, by simp [argBest, Flt.ltV, h1, h2] at hP; simp [fmin3, h1, h2, hP]⟩
        · exact ⟨u, by simp [argBest, Flt.ltV, h1, h2] at hP; simp [fmin3, h1, h2, hP]⟩
      · by_cases h2 : (Float64.cmp c a == some .lt) = true
        · exact ⟨x, by simp [argBest, Flt.ltV, h1, h2] at hP; simp [fmin3, h1, h2, hP]⟩
        · exact ⟨t, by simp [argBest, Flt.ltV, h1, h2] at hP; simp [fmin3, h1, h2, hP]⟩
    obtain ⟨t', rfl⟩ := hv
    exact h h' tk t' (F.grownK hold) (N.grown hold)
end
noncomputable abbrev f6 : UInt64 := 4618441417868443648
noncomputable abbrev f1 : UInt64 := 4607182418800017408
noncomputable abbrev tr3 (x y z : UInt64) (t1 t2 t3 : Tok) : Obj := { cls := .type "tuple", data := .seq [Value.float x t1, .float y t2, .float z t3].toArray }
noncomputable def hsvI (h : UInt64) : Int := Flt.toInt Float64.truncOf (Float64.mul h f6)
noncomputable def hsvF (h : UInt64) : UInt64 := Float64.sub (Float64.mul h f6) (Float64.ofInt (hsvI h))
noncomputable def hsvP (s v : UInt64) : UInt64 := Float64.mul v (Float64.sub f1 s)
noncomputable def hsvQ (f s v : UInt64) : UInt64 := Float64.mul v (Float64.sub f1 (Float64.mul s f))
noncomputable def hsvT (f s v : UInt64) : UInt64 := Float64.mul v (Float64.sub f1 (Float64.mul s (Float64.sub f1 f)))
noncomputable def hsvR (i : Int) (f s v : UInt64) : UInt64 × UInt64 × UInt64 :=
  if i = 0 then (v, hsvT f s v, hsvP s v) else if i = 1 then (hsvQ f s v, v, hsvP s v) else if i = 2 then (hsvP s v, v, hsvT f s v) else
  if i = 3 then (hsvP s v, hsvQ f s v, v) else if i = 4 then (hsvT f s v, hsvP s v, v) else (v, hsvP s v, hsvQ f s v)
local macro_rules | `(tactic| walk_at "binaryOp Sub float int") => `(tactic| ((refine' Flt.sub_fi_fits (by assumption) ?_); (try dsimp only)))
set_option hygiene false in
local macro_rules | `(tactic| walk_at "call type:int") => `(tactic| ((with_reducible show H27); (refine' Flt.call_int_float3 rfl (by exact fun hh => by rw [Flt.not_nan_of_finite (by assumption)] at hh; cases hh) (by exact fun hh => by rw [Flt.not_inf_of_finite (by assumption)] at hh; cases hh) (fun _ => ?_)); (try dsimp only)))
local macro_rules | `(tactic| walk_at "halt") => `(tactic| with_reducible show H28)
theorem six {z : Int} (h1 : z < 6) (h2 : 0 ≤ z) (n0 : z ≠ 0) (n1 : z ≠ 1) (n2 : z ≠ 2) (n3 : z ≠ 3) (n4 : z ≠ 4) (n5 : z ≠ 5) : False := by lia
theorem c_hsv {h sv v : UInt64} {t1 t2 t3 : Tok}
  (B : Below A₀ base outer h₀) (F : Fr h₀ L s.heap m) (X : (hd.heap_39 w.params).In h₀) (N : News h₀ L s.heap news) (T : Top p loose mean mg mb h₀) (hk : cs.kind = .function)
  (hd1 : dp + 1 < recursionLimit) (hs0 : (Float64.cmp sv 0 == some .eq) = false) (hfin : Float64.isFinite (Float64.mul h f6) = true) (hfit : (hsvI h).natAbs < 2 ^ 1023)
  (hret : ∀ b t1 t2 t3 h' tk', Fr h₀ L h' m → News h₀ L h' ((b, tr3 (hsvR ((hsvI h).fmod 6) (hsvF h) sv v).1 (hsvR ((hsvI h).fmod 6) (hsvF h) sv v).2.1 (hsvR ((hsvI h).fmod 6) (hsvF h) sv v).2.2 t1 t2 t3) :: news) → (∀ q ∈ news, q.1 < b) → Q (.ref b) { s with heap := h', toks := tk' }) :
  wpAny (model PySem.Challenge.pw_pm0060_01 w) (ktrTop dp un gd cn cs L a ccd cl outer) (call (.ref 218) [.float h t1, .float sv t2, .float v t3]) Q E s := by
  have hfit' : (Flt.toInt Float64.truncOf (Float64.mul h 4618441417868443648)).natAbs < 2 ^ 1023 := hfit
  refine wpAny_call ?_
  walk_at "enter"
  obtain ⟨mr, F2⟩ := frOv [("h", .float h t1), ("s", .float sv t2), ("v", .float v t3)] F' ⟨rfl, rfl, rfl, trivial⟩
  clear F'
  dsimp only [kstB] at F2
  walk_at "go"
  · refine hret _ ?t10 ?t20 ?t30 _ _ (by assumption) ?nn0 (by assumption)
    case nn0 => rw [show hsvR ((hsvI h).fmod 6) (hsvF h) sv v = (v, hsvT (hsvF h) sv v, hsvP sv v) from if_pos (by assumption)]; assumption
  · refine hret _ ?t11 ?t21 ?t31 _ _ (by assumption) ?nn1 (by assumption)
    case nn1 => rw [show hsvR ((hsvI h).fmod 6) (hsvF h) sv v = (hsvQ (hsvF h) sv v, v, hsvP sv v) from (if_neg (by assumption)).trans (if_pos (by assumption))]; assumption
  · refine hret _ ?t12 ?t22 ?t32 _ _ (by assumption) ?nn2 (by assumption)
    case nn2 => rw [show hsvR ((hsvI h).fmod 6) (hsvF h) sv v = (hsvP sv v, v, hsvT (hsvF h) sv v) from (if_neg (by assumption)).trans ((if_neg (by assumption)).trans (if_pos (by assumption)))]; assumption
  · refine hret _ ?t13 ?t23 ?t33 _ _ (by assumption) ?nn3 (by assumption)
    case nn3 => rw [show hsvR ((hsvI h).fmod 6) (hsvF h) sv v = (hsvP sv v, hsvQ (hsvF h) sv v, v) from (if_neg (by assumption)).trans ((if_neg (by assumption)).trans ((if_neg (by assumption)).trans (if_pos (by assumption))))]; assumption
  · refine hret _ ?t14 ?t24 ?t34 _ _ (by assumption) ?nn4 (by assumption)
    case nn4 => rw [show hsvR ((hsvI h).fmod 6) (hsvF h) sv v = (hsvT (hsvF h) sv v, hsvP sv v, v) from (if_neg (by assumption)).trans ((if_neg (by assumption)).trans ((if_neg (by assumption)).trans ((if_neg (by assumption)).trans (if_pos (by assumption)))))]; assumption
  · refine hret _ ?t15 ?t25 ?t35 _ _ (by assumption) ?nn5 (by assumption)
    case nn5 => rw [show hsvR ((hsvI h).fmod 6) (hsvF h) sv v = (v, hsvP sv v, hsvQ (hsvF h) sv v) from (if_neg (by assumption)).trans ((if_neg (by assumption)).trans ((if_neg (by assumption)).trans ((if_neg (by assumption)).trans (if_neg (by assumption)))))]; assumption
  all_goals exact (six (Int.fmod_lt_of_pos (Flt.toInt Float64.truncOf (Float64.mul h 4618441417868443648)) (by decide)) (Int.fmod_nonneg_of_pos _ (by decide)) (by assumption) (by assumption) (by assumption) (by assumption) (by assumption) (by assumption)).elim
end S_C1

section S_C2
theorem afresh14 : True := by w_top off; trivial
set_option hygiene false in
local macro_rules | `(tactic| walk_at "call builtin:max") => `(tactic| ((with_reducible show H29); k_dflt (refine' r_max3 (by exact rfl) (by k_asm) (by k_asm) ?_; k_whole); intro h' tk' v' F' N'; (try dsimp only)))
set_option hygiene false in
local macro_rules | `(tactic| walk_at "call builtin:min") => `(tactic| ((with_reducible show H30); k_dflt (refine' r_min3 (by exact rfl) (by k_asm) (by k_asm) ?_; k_whole); intro h' tk' v' F' N'; (try dsimp only)))
noncomputable abbrev f2 : UInt64 := 4611686018427387904
noncomputable abbrev f4 : UInt64 := 4616189618054758400
noncomputable abbrev f05 : UInt64 := 4602678819172646912
theorem r_gentoks {M : Model} {A : Around} {α : Type} {t : Sem α} {E : Value → Shared → Prop} {Q : α → Shared → Prop} {h : Heap} {g : Array GenState} {d : Drawn} {X : Nat} {os : OsState} (hp : 0 < X) (k : ∀ tk, 0 < tk → wpAny M A t Q E ⟨h, g, d, tk, os⟩) : wpAny M A t Q E ⟨h, g, d, X, os⟩ := k X hp
noncomputable def hlL (r g b : UInt64) : UInt64 := Float64.div (Float64.add (fmax3 r g b) (fmin3 r g b)) f2
noncomputable def hlS (r g b : UInt64) : UInt64 :=
  let mx := fmax3 r g b
  let mn := fmin3 r g b
  let l := hlL r g b
  if (Float64.cmp l f05 == some .lt || Float64.cmp l f05 == some .eq) = true then Float64.div (Float64.sub mx mn) (Float64.add mx mn) else Float64.div (Float64.sub mx mn) (Float64.sub (Float64.sub f2 mx) mn)
noncomputable def hlH0 (r g b : UInt64) : UInt64 :=
  let mx := fmax3 r g b
  let mn := fmin3 r g b
  let rg := Float64.sub mx mn
  let rc := Float64.div (Float64.sub mx r) rg
  let gc := Float64.div (Float64.sub mx g) rg
  let bc := Float64.div (Float64.sub mx b) rg
  if (Float64.cmp r mx == some .eq) = true then Float64.sub bc gc else if (Float64.cmp g mx == some .eq) = true then Float64.sub (Float64.add f2 rc) bc else Float64.sub (Float64.add f4 gc) rc
noncomputable def hlH (r g b : UInt64) : UInt64 := (Float64.divmod (Float64.div (hlH0 r g b) f6) f1).2
local macro_rules | `(tactic| walk_at "binaryOp Div float float") => `(tactic| ((refine' truediv_float_or rfl (fun hh => absurd hh (by first | assumption | decide +kernel)) (fun _ => ?_)); (try dsimp only)))
local macro_rules | `(tactic| walk_at "binaryOp Mod float float") => `(tactic| ((refine' Flt.mod_ff rfl (fun hh => absurd hh (by first | assumption | decide +kernel)) (fun _ => ?_)); (try dsimp only)))
local macro_rules | `(tactic| walk_at "halt") => `(tactic| fail "no halt")
local macro_rules | `(tactic| walk_at "execs cons") => `(tactic| ((with_reducible refine r_gentoks (Nat.succ_pos _) ?_); intro tk htk))
local macro_rules | `(tactic| walk_at "execs nil") => `(tactic| ((with_reducible refine r_gentoks (Nat.succ_pos _) ?_); intro tk htk))
theorem c_hls {r g b : UInt64} {t1 t2 t3 : Tok}
  (B : Below A₀ base outer h₀) (F : Fr h₀ L s.heap m) (X : (hd.heap_39 w.params).In h₀) (N : News h₀ L s.heap news) (T : Top p loose mean mg mb h₀) (hk : cs.kind = .function)
  (hd1 : dp + 1 < recursionLimit)
  (h1 : (Float64.cmp (fmin3 r g b) (fmax3 r g b) == some .eq) = false) (h2 : ¬ Float64.isZero (Float64.add (fmax3 r g b) (fmin3 r g b)) = true) (h3 : ¬ Float64.isZero (Float64.sub (Float64.sub f2 (fmax3 r g b)) (fmin3 r g b)) = true) (h4 : ¬ Float64.isZero (Float64.sub (fmax3 r g b) (fmin3 r g b)) = true)
  (hret : ∀ d t1 t2 t3 h' tk', Fr h₀ L h' m → News h₀ L h' ((d, tr3 (hlH r g b) (hlL r g b) (hlS r g b) t1 t2 t3) :: news) → (∀ q ∈ news, q.1 < d) → (t1 ≠ 0 ∧ t2 ≠ 0 ∧ t3 ≠ 0) → Q (.ref d) { s with heap := h', toks := tk' }) :
  wpAny (model PySem.Challenge.pw_pm0060_01 w) (ktrTop dp un gd cn cs L a ccd cl outer) (call (.ref 211) [.float r t1, .float g t2, .float b t3]) Q E s := by
  refine wpAny_call ?_
  walk_at "enter"
  obtain ⟨mr, F2⟩ := frOv [("r", .float r t1), ("g", .float g t2), ("b", .float b t3)] F' ⟨rfl, rfl, rfl, trivial⟩
  clear F'
  dsimp only [kstB] at F2
  walk_at "go"
  · have e1 : hlS r g b = Float64.div (Float64.sub (fmax3 r g b) (fmin3 r g b)) (Float64.add (fmax3 r g b) (fmin3 r g b)) := if_pos (by assumption)
    have e2 : hlH0 r g b = Float64.sub (Float64.div (Float64.sub (fmax3 r g b) b) (Float64.sub (fmax3 r g b) (fmin3 r g b))) (Float64.div (Float64.sub (fmax3 r g b) g) (Float64.sub (fmax3 r g b) (fmin3 r g b))) := if_pos (by assumption)
    refine hret _ ?t10 ?t20 ?t30 _ _ (by assumption) ?nn0 (by assumption) ?tz0
    case nn0 => rw [hlH, e1, e2]; assumption
    case tz0 => refine ⟨?_, ?_, ?_⟩ <;> first | exact Nat.succ_ne_zero _ | exact Nat.pos_iff_ne_zero.mp (by assumption)
  · have e1 : hlS r g b = Float64.div (Float64.sub (fmax3 r g b) (fmin3 r g b)) (Float64.add (fmax3 r g b) (fmin3 r g b)) := if_pos (by assumption)
    have e2 : hlH0 r g b = Float64.sub (Float64.add f2 (Float64.div (Float64.sub (fmax3 r g b) r) (Float64.sub (fmax3 r g b) (fmin3 r g b)))) (Float64.div (Float64.sub (fmax3 r g b) b) (Float64.sub (fmax3 r g b) (fmin3 r g b))) := (if_neg (ne_true_of_eq_false (by assumption))).trans (if_pos (by assumption))
    refine hret _ ?t11 ?t21 ?t31 _ _ (by assumption) ?nn1 (by assumption) ?tz1
    case nn1 => rw [hlH, e1, e2]; assumption
    case tz1 => refine ⟨?_, ?_, ?_⟩ <;> first | exact Nat.succ_ne_zero _ | exact Nat.pos_iff_ne_zero.mp (by assumption)
  · have e1 : hlS r g b = Float64.div (Float64.sub (fmax3 r g b) (fmin3 r g b)) (Float64.add (fmax3 r g b) (fmin3 r g b)) := if_pos (by assumption)
    have e2 : hlH0 r g b = Float64.sub (Float64.add f4 (Float64.div (Float64.sub (fmax3 r g b) g) (Float64.sub (fmax3 r g b) (fmin3 r g b)))) (Float64.div (Float64.sub (fmax3 r g b) r) (Float64.sub (fmax3 r g b) (fmin3 r g b))) := (if_neg (ne_true_of_eq_false (by assumption))).trans (if_neg (ne_true_of_eq_false (by assumption)))
    refine hret _ ?t12 ?t22 ?t32 _ _ (by assumption) ?nn2 (by assumption) ?tz2
    case nn2 => rw [hlH, e1, e2]; assumption
    case tz2 => refine ⟨?_, ?_, ?_⟩ <;> first | exact Nat.succ_ne_zero _ | exact Nat.pos_iff_ne_zero.mp (by assumption)
  · have e1 : hlS r g b = Float64.div (Float64.sub (fmax3 r g b) (fmin3 r g b)) (Float64.sub (Float64.sub f2 (fmax3 r g b)) (fmin3 r g b)) := if_neg (ne_true_of_eq_false (by assumption))
    have e2 : hlH0 r g b = Float64.sub (Float64.div (Float64.sub (fmax3 r g b) b) (Float64.sub (fmax3 r g b) (fmin3 r g b))) (Float64.div (Float64.sub (fmax3 r g b) g) (Float64.sub (fmax3 r g b) (fmin3 r g b))) := if_pos (by assumption)
    refine hret _ ?t13 ?t23 ?t33 _ _ (by assumption) ?nn3 (by assumption) ?tz3
    case nn3 => rw [hlH, e1, e2]; assumption
    case tz3 => refine ⟨?_, ?_, ?_⟩ <;> first | exact Nat.succ_ne_zero _ | exact Nat.pos_iff_ne_zero.mp (by assumption)
  · have e1 : hlS r g b = Float64.div (Float64.sub (fmax3 r g b) (fmin3 r g b)) (Float64.sub (Float64.sub f2 (fmax3 r g b)) (fmin3 r g b)) := if_neg (ne_true_of_eq_false (by assumption))
    have e2 : hlH0 r g b = Float64.sub (Float64.add f2 (Float64.div (Float64.sub (fmax3 r g b) r) (Float64.sub (fmax3 r g b) (fmin3 r g b)))) (Float64.div (Float64.sub (fmax3 r g b) b) (Float64.sub (fmax3 r g b) (fmin3 r g b))) := (if_neg (ne_true_of_eq_false (by assumption))).trans (if_pos (by assumption))
    refine hret _ ?t14 ?t24 ?t34 _ _ (by assumption) ?nn4 (by assumption) ?tz4
    case nn4 => rw [hlH, e1, e2]; assumption
    case tz4 => refine ⟨?_, ?_, ?_⟩ <;> first | exact Nat.succ_ne_zero _ | exact Nat.pos_iff_ne_zero.mp (by assumption)
  · have e1 : hlS r g b = Float64.div (Float64.sub (fmax3 r g b) (fmin3 r g b)) (Float64.sub (Float64.sub f2 (fmax3 r g b)) (fmin3 r g b)) := if_neg (ne_true_of_eq_false (by assumption))
    have e2 : hlH0 r g b = Float64.sub (Float64.add f4 (Float64.div (Float64.sub (fmax3 r g b) g) (Float64.sub (fmax3 r g b) (fmin3 r g b)))) (Float64.div (Float64.sub (fmax3 r g b) r) (Float64.sub (fmax3 r g b) (fmin3 r g b))) := (if_neg (ne_true_of_eq_false (by assumption))).trans (if_neg (ne_true_of_eq_false (by assumption)))
    refine hret _ ?t15 ?t25 ?t35 _ _ (by assumption) ?nn5 (by assumption) ?tz5
    case nn5 => rw [hlH, e1, e2]; assumption
    case tz5 => refine ⟨?_, ?_, ?_⟩ <;> first | exact Nat.succ_ne_zero _ | exact Nat.pos_iff_ne_zero.mp (by assumption)
end S_C2

section S_D1
theorem afresh15 : True := by w_top off; trivial
local macro_rules | `(tactic| walk_at "halt") => `(tactic| with_reducible show H11)
theorem c_bisectF {l : Addr} {vs : List Value} {ns : List Int} {nn : Nat} {x : Int} {fx : UInt64} {tx : Tok}
  (B : Below A₀ base outer h₀) (F : Fr h₀ L s.heap m) (X : (hd.heap_39 w.params).In h₀) (N : News h₀ L s.heap news) (T : Top p loose mean mg mb h₀) (hk : cs.kind = .function)
  (hd1 : dp + 1 < recursionLimit)
  (hm : (l, (⟨.type "list", none, .seq vs.toArray nn, #[]⟩ : Obj)) ∈ news) (hi : IntsAre vs ns) (hlen : ns.length < 1000) (hs : Sorted ns) (hfx : ∀ n ∈ ns, (Float64.cmpInt fx n == some .lt) = decide (x < n))
  (hret : ∀ (r : Nat) t h' tk', Fr h₀ L h' m → News h₀ L h' news → IsBis ns x r → Q (.int r t) { s with heap := h', toks := tk' }) :
  wpAny (model PySem.Challenge.pw_pm0060_01 w) (ktrTop dp un gd cn cs L a ccd cl outer) (call (.ref 204) [.ref l, .float fx tx]) Q E s := by
  have hvl : vs.length = ns.length := hi.length
  refine wpAny_call ?_
  walk_at "enter"
  obtain ⟨mr, F'⟩ := frOv [("a", .ref l), ("x", .float fx tx), ("lo", .int 0 567), ("hi", .none), ("key", .none)] F' ⟨rfl, rfl, rfl, rfl, rfl, trivial⟩
  rename_i Fold
  clear Fold
  dsimp only [kstB] at F'
  walk_at "go"
  rename Fr _ _ _ _ => F0
  rename News _ _ _ _ => N0
  refine While_inv2 (fun n m₁ nx => ∃ (lo hi : Nat) (t1 t2 : Tok), n = hi - lo ∧ lo ≤ hi ∧ hi ≤ ns.length ∧ (∀ i a, ns[i]? = some a → i < lo → a ≤ x) ∧ (∀ i a, ns[i]? = some a → hi ≤ i → x < a) ∧ Has m₁ [("a", .ref l), ("x", .float fx tx), ("lo", .int lo t1), ("hi", .int hi t2)] ∧ nx = news) (n₀ := vs.length) F0 N0
    ⟨0, vs.length, _, _, by omega, by omega, by omega, fun _ _ _ h => by omega, fun i a h1 h2 => ?_, ⟨rfl, rfl, rfl, rfl, trivial⟩, rfl⟩ ?_ (by passes_own)
  · rw [List.getElem?_eq_none (by omega)] at h1; cases h1
  clear F0 N0
  intro n m₁ nx h1 tk1 F1 N1 zzh; refine cps fun zzX zzk => ?_
  obtain ⟨lo, hi, t1, t2, hn, hlo, hhi, hA, hB, hm1, rfl⟩ := zzh
  refine zzk ?_; clear zzk zzX
  obtain ⟨mr, F1⟩ := frOv [("a", .ref l), ("x", .float fx tx), ("lo", .int lo t1), ("hi", .int hi t2)] F1 hm1
  dsimp only [kstB] at F1
  walk_at "go"
  all_goals (try (have hmd : ((lo : Int) + (hi : Int)).fdiv 2 = (((lo + hi) / 2 : Nat) : Int) := midE))
  · rename Fr _ _ _ _ => F2
    rename News _ _ _ _ => N2
    rename (Float64.cmpInt fx _ == _) = true => hx
    rename (lo : Int) < _ => hlt
    refine ⟨_, _, _, _, (lo + hi) / 2 - lo, rfl, F2, N2, (mid hlt hn hhi).1, lo, (lo + hi) / 2, t1, _, rfl, (mid hlt hn hhi).2.1, (mid hlt hn hhi).2.2.1, hA, fun i a h1 h2 => ?_, ⟨rfl, rfl, rfl, congrArg (fun z => some (Value.int z _)) hmd, trivial⟩, rfl⟩
    rw [hmd, Int.toNat_natCast] at hx
    have hmm : (lo + hi) / 2 < ns.length := (mid hlt hn hhi).2.2.2.1
    have e : ns[(lo + hi) / 2]? = some (ns.getD ((lo + hi) / 2) 0) := by rw [List.getD_eq_getElem?_getD, List.getElem?_eq_getElem hmm]; rfl
    rw [hfx _ (List.mem_of_getElem? e)] at hx
    have hx := of_decide_eq_true hx
    exact Int.lt_of_lt_of_le hx (hs _ _ _ _ h2 e h1)
  · rename Fr _ _ _ _ => F2
    rename News _ _ _ _ => N2
    rename (Float64.cmpInt fx _ == _) = false => hx
    rename (lo : Int) < _ => hlt
    refine ⟨_, _, _, _, hi - ((lo + hi) / 2 + 1), rfl, F2, N2, (mid hlt hn hhi).2.2.2.2.1, (lo + hi) / 2 + 1, hi, _, t2, rfl, (mid hlt hn hhi).2.2.2.2.2, hhi, fun i a h1 h2 => ?_, hB, ⟨rfl, rfl, congrArg (fun z => some (Value.int z _)) (show _ = _ by rw [hmd]; rfl), rfl, trivial⟩, rfl⟩
    rw [hmd, Int.toNat_natCast] at hx
    have hmm : (lo + hi) / 2 < ns.length := (mid hlt hn hhi).2.2.2.1
    have e : ns[(lo + hi) / 2]? = some (ns.getD ((lo + hi) / 2) 0) := by rw [List.getD_eq_getElem?_getD, List.getElem?_eq_getElem hmm]; rfl
    rw [hfx _ (List.mem_of_getElem? e)] at hx
    have hx := of_decide_eq_false hx
    exact Int.le_trans (hs _ _ _ _ (Nat.le_of_lt_succ h2) h1 e) (Int.not_lt.mp hx)
  · refine hret _ _ _ _ (by assumption) (by assumption) ⟨Nat.le_trans hlo hhi, fun i n h => ⟨fun h1 => hA _ _ h h1, fun h1 => ?_⟩⟩
    by_cases h2 : i < lo
    · exact h2
    · have := hB i n h (by omega)
      omega
end S_D1

set_option hygiene false in
local macro_rules | `(tactic| walk_at "call type:int") => `(tactic| ((with_reducible show wpAny _ _ (call (Value.type "int") [Value.str (S1 _) _]) _ _ _); (refine' r_int (by assumption) ?_); intro t' tk'; (try dsimp only)))
section S_D2
theorem afresh16 : True := by w_top off; trivial
/-- two lists, item by item -/
inductive All2 {α : Type} (P : Value → α → Prop) : List Value → List α → Prop
  | nil : All2 P [] []
  | cons {v : Value} {x : α} {vs : List Value} {xs : List α} : P v x → All2 P vs xs → All2 P (v :: vs) (x :: xs)
theorem All2.length {α : Type} {P : Value → α → Prop} {vs : List Value} {xs : List α} (h : All2 P vs xs) : vs.length = xs.length := by
  induction h with
  | nil => rfl
  | cons _ _ ih => simp [ih]
theorem All2.mono {α : Type} {P P' : Value → α → Prop} {vs : List Value} {xs : List α} (h : All2 P vs xs) (hs : ∀ v x, P v x → P' v x) : All2 P' vs xs := by
  induction h with
  | nil => exact .nil
  | cons h _ ih => exact .cons (hs _ _ h) ih
theorem All2.append {α : Type} {P : Value → α → Prop} {vs vs' : List Value} {xs xs' : List α} (h : All2 P vs xs) (h' : All2 P vs' xs') : All2 P (vs ++ vs') (xs ++ xs') := by
  induction h with
  | nil => exact h'
  | cons h _ ih => exact .cons h ih
theorem All2.snoc {α : Type} {P : Value → α → Prop} {vs : List Value} {xs : List α} {v : Value} {x : α} (h : All2 P vs xs) (h' : P v x) : All2 P (vs ++ [v]) (xs ++ [x]) := h.append (.cons h' .nil)
theorem All2.get {α : Type} {P : Value → α → Prop} {vs : List Value} {xs : List α} (h : All2 P vs xs) : ∀ {i : Nat} {v : Value}, vs[i]? = some v → ∃ x, xs[i]? = some x ∧ P v x := by
  induction h with
  | nil => intro i v h; simp at h
  | @cons v x vs xs h _ ih =>
    intro i v' hv
    cases i with
    | zero =>
      simp only [List.getElem?_cons_zero, Option.some.injEq] at hv
      subst hv
      exact ⟨x, rfl, h⟩
    | succ i =>
      simp only [List.getElem?_cons_succ] at hv ⊢
      exact ih hv
/-- a list of ints of the ledger -/
noncomputable def IL (nx : List (Addr × Obj)) (v : Value) (is : List Int) : Prop := ∃ r vs n, v = .ref r ∧ (r, liO vs n) ∈ nx ∧ IntsAre vs is
theorem IL.mono {nx nx' : List (Addr × Obj)} (hs : ∀ q ∈ nx, q ∈ nx') (v : Value) (is : List Int) : IL nx v is → IL nx' v is := fun ⟨r, vs, n, e, h, i⟩ => ⟨r, vs, n, e, hs _ h, i⟩
noncomputable def befo (ps : List Int) (t : Nat) : List Int := ((List.range t).filter fun (s : Nat) => ps.getD s 0 == ps.getD t 0).map fun (s : Nat) => (s : Int)
noncomputable def insi (ps : List Int) (t : Nat) : List (List Int) := if befo ps t = [] then [] else [(List.range ((t : Int) - ((befo ps t).getLastD 0 + 1)).toNat).map fun (j : Nat) => (befo ps t).getLastD 0 + 1 + (j : Int)]
noncomputable def rets (ps : List Int) (t : Nat) : List (List Int) := ((List.range t).map (insi ps)).flatten
theorem rets_succ (ps : List Int) (t : Nat) : rets ps (t + 1) = rets ps t ++ insi ps t := by
  unfold rets
  rw [List.range_succ, List.map_append, List.flatten_append]
  simp
theorem rets_length (ps : List Int) : ∀ t, (rets ps t).length ≤ t
  | 0 => by simp [rets]
  | t + 1 => by
    rw [rets_succ, List.length_append]
    have := rets_length ps t
    have h2 : (insi ps t).length ≤ 1 := by unfold insi; split <;> simp
    omega
theorem befo_last {ps : List Int} {t : Nat} (h : befo ps t ≠ []) : 0 ≤ (befo ps t).getLastD 0 ∧ (befo ps t).getLastD 0 < t := by
  have hm : ∀ x ∈ befo ps t, 0 ≤ x ∧ x < t := by
    intro x hx
    obtain ⟨s, hs, rfl⟩ := List.mem_map.mp hx
    have := List.mem_range.mp (List.mem_filter.mp hs).1
    omega
  rcases List.eq_nil_or_concat (befo ps t) with e | ⟨l, a, e⟩
  · exact absurd e h
  · have : (befo ps t).getLastD 0 = a := by rw [e]; simp
    rw [this]
    exact hm a (by rw [e]; simp)
/-- a cut: how many, and the lists that are left -/
noncomputable def CT (nx : List (Addr × Obj)) (v : Value) (q : Int × List (List Int)) : Prop := ∃ b l vs n t, v = .ref b ∧ (b, prO (.int q.1 t) (.ref l)) ∈ nx ∧ (l, liO vs n) ∈ nx ∧ All2 (IL nx) vs q.2
theorem CT.mono {nx nx' : List (Addr × Obj)} (hs : ∀ q ∈ nx, q ∈ nx') (v : Value) (q : Int × List (List Int)) : CT nx v q → CT nx' v q := fun ⟨b, l, vs, n, t, e, h1, h2, h3⟩ => ⟨b, l, vs, n, t, e, hs _ h1, hs _ h2, h3.mono (IL.mono hs)⟩
noncomputable def cutStep (k : Int) (q : Int × List (List Int)) : Int × List (List Int) := (q.1 + 1, q.2.filter fun is => !decide (k ∈ is))
noncomputable def cutsP (rs : List (List Int)) : Nat → List (Int × List (List Int))
  | 0 => [(0, rs)]
  | j + 1 => cutsP rs j ++ (cutsP rs j).map (cutStep ((j : Int) + 1))
theorem cutsP_length (rs : List (List Int)) : ∀ j, (cutsP rs j).length = 2 ^ j
  | 0 => rfl
  | j + 1 => by rw [cutsP, List.length_append, List.length_map, cutsP_length rs j]; omega
theorem any_dec (is : List Int) (k : Int) : (is.any fun x => x == k) = decide (k ∈ is) := by
  induction is with
  | nil => rfl
  | cons a r ih =>
    rw [List.any_cons, ih]
    by_cases h1 : a = k
    · subst h1; simp
    · by_cases h2 : k ∈ r <;> simp [h1, h2, Ne.symm h1]
theorem cutsP_small (rs : List (List Int)) : ∀ j, ∀ q ∈ cutsP rs j, q.2.length ≤ rs.length
  | 0, q, h => by
    rw [cutsP, List.mem_singleton] at h
    rw [h]
    exact Nat.le_refl _
  | j + 1, q, h => by
    rw [cutsP] at h
    rcases List.mem_append.mp h with h | h
    · exact cutsP_small rs j q h
    · obtain ⟨q', h', rfl⟩ := List.mem_map.mp h
      exact Nat.le_trans (List.length_filter_le _ _) (cutsP_small rs j q' h')
local macro_rules | `(tactic| walk_at "halt") => `(tactic| with_reducible first | show H31 | show H32 | show H33 | show H34 | show H17 | show H19 | show H20 | show H21 | show H18)
set_option hygiene false in
local macro_rules | `(tactic| walk_at "subscriptTail") => `(tactic| ((with_reducible show H24); (refine' r_item_int (by k_asm) (by k_mem) (by assumption) (by omega) (by omega) (by omega) ?_); intro n' t' e'))
/-- keeps a proof from being put into its place (the term stays small) -/
theorem hold1 {p : Prop} (h : p) : p := h
theorem c_cuts {P : Addr} {vs : List Value} {ps : List Int} {np : Nat}
  (B : Below A₀ base outer h₀) (F : Fr h₀ L s.heap m) (X : (hd.heap_39 w.params).In h₀) (N : News h₀ L s.heap news) (T : Top p loose mean mg mb h₀) (hk : cs.kind = .function)
  (hd1 : dp + 1 < recursionLimit) (hun : un + 100 < cLine) (mP : (P, liO vs np) ∈ news) (hi : IntsAre vs ps) (h8 : ps.length = 8)
  (hret : ∀ D cu cn rest h' tk', Fr h₀ L h' m → News h₀ L h' rest → (D, liO cu cn) ∈ rest → (∀ q ∈ news, q ∈ rest) → All2 (CT rest) cu (cutsP (rets ps 8) 6) → Q (.ref D) { s with heap := h', toks := tk' }) :
  wpAny (model PySem.Challenge.pw_pm0060_01 w) (ktrTop dp un gd cn cs L a ccd cl outer) (call (.ref 230) [.ref P]) Q E s := by
  have hvl : vs.length = ps.length := hi.length
  refine wpAny_call ?_
  walk_at "enter"
  have hoff : ∀ q ∈ news, q.1 < L' := l1
  rename_i oK oT oP dK dT dP
  replace dP : oP.data = Data.cell (some (.ref P)) := dP
  replace dT : oT.data = Data.cell none := dT
  replace dK : oK.data = Data.cell none := dK
  walk_at "go"
  refine r_for ?_
  walk_at "go"
  rename Fr _ _ _ _ => F0
  rename News _ _ _ _ => N0
  refine r_iterR (n := 8) (fun i m nx => ∃ R oT rs rn rest, nx = (R, liO rs rn) :: (L' + 1 + 1 + 1, oK) :: (L' + 1 + 1, oT) :: (L' + 1, oP) :: rest ∧ (∃ c, oT.data = .cell c) ∧ Has m [("returns", .ref R)] ∧ (∀ q ∈ news, q ∈ rest) ∧
    @LT.lt Nat _ (L' + 1 + 1 + 1) R ∧ (∀ q ∈ rest, q.1 ≠ R) ∧ (∀ q ∈ rest, q.1 ≠ L' + 1) ∧ (∀ q ∈ rest, q.1 ≠ L' + 1 + 1) ∧ (∀ q ∈ rest, q.1 ≠ L' + 1 + 1 + 1) ∧ All2 (IL rest) rs (rets ps i)) rfl (by assumption) (by decide) (by rfl) F0 N0 ?_ ?_ ?_
  · rename _ ∧ _ ∧ _ ∧ _ => hl1
    have hl9 : AllLt _ news := hl1.2.2.2
    have hoR := fun q hq => Nat.ne_of_lt (allLt_all hl9 q hq)
    refine ⟨_, oT, [], 0, news, rfl, ⟨_, dT⟩, ⟨rfl, trivial⟩, fun _ h => h, hl1.1, hoR, fun q hq => ?_, fun q hq => ?_, fun q hq => ?_, .nil⟩
    · exact Nat.ne_of_lt (Nat.lt_succ_of_lt (hoff q hq))
    · exact Nat.ne_of_lt (Nat.lt_succ_of_lt (Nat.lt_succ_of_lt (hoff q hq)))
    · exact Nat.ne_of_lt (Nat.lt_succ_of_lt (Nat.lt_succ_of_lt (Nat.lt_succ_of_lt (hoff q hq))))
  · clear F0 N0
    intro i t I oI m₁ nx h tk hi8 zzh; refine cps fun zzX zzk => ?_
    obtain ⟨R, oT, rs, rn, rest, rfl, ⟨c, dT⟩, hm1, hsub, hR, hofR, hof1, hof2, hof3, hrs⟩ := zzh
    refine zzk ?_; clear zzk zzX
    intro hI F1 N1
    generalize hQT1 : MTurn _ _ _ _ _ _ _ = QT1
    revert hQT1 QT1; refine hold1 ?_; intro QT1 hQT1
    try dsimp only
    obtain ⟨mr, F2⟩ := frOv [("returns", .ref R)] F1 hm1
    clear F1
    dsimp only [kstB] at F2
    have hIR : @Ne Nat I R := Ne.symm (hI _ (.head _))
    have hIr : ∀ q ∈ rest, q.1 ≠ I := fun q hq => hI q (.tail _ (.tail _ (.tail _ (.tail _ hq))))
    have hI3 : @Ne Nat I (L' + 1 + 1 + 1) := Ne.symm (hI _ (.tail _ (.head _)))
    have hI2 : @Ne Nat I (L' + 1 + 1) := Ne.symm (hI _ (.tail _ (.tail _ (.head _))))
    have hI1 : @Ne Nat I (L' + 1) := Ne.symm (hI _ (.tail _ (.tail _ (.tail _ (.head _)))))
    walk_at "go"
    rename Fr _ _ _ _ => F0
    rename News _ _ _ _ => N0
    clear F2 N1
    rename Obj => oT2
    rename oT2.data = _ => dT2
    rw [Int.zero_add] at dT2
    refine LCt.CompSrcT.range (n := i) rfl F0 N0 (by assumption) (small_one (by omega) (by omega) (by omega) (by omega)) ((rangeSize_nat _ _).trans (by omega)) (by rw [sizeLine_eq]; omega) fun gh => ?_
    dsimp only
    refine restT (n := i) (fun j ys nx => nx = (I, oI) :: (R, liO rs rn) :: (L' + 1 + 1 + 1, oK) :: (L' + 1 + 1, oT2) :: (L' + 1, oP) :: rest ∧ IntsAre ys (((List.range j).filter fun (s : Nat) => ps.getD s 0 == ps.getD i 0).map fun (s : Nat) => (s : Int))) ?_ ?_ _ 0 [] _ (Nat.zero_add _) ⟨rfl, .nil⟩
    · rintro j v ys nx I2 oI2 C2 oC2 D2 m₂ h2 tk2 E' hj hv ⟨rfl, hys⟩ hC hx F1 N1 off ne
      obtain ⟨t', rfl⟩ := hv
      have mP' := hsub _ mP
      clear F0 N0
      have hj1 : (0 : Int) + (j : Int) = ((j : Nat) : Int) := Int.zero_add _
      rw [hj1] at hx
      walk_at "go"
      · rename_i nA tA eA he
        rw [Int.toNat_natCast] at eA e'
        refine LCg.CompEnd.intro F1 N1 _ (fun p hp => hp) off trivial ⟨rfl, ?_⟩
        have g1 : ps.getD j 0 = nA := by rw [List.getD_eq_getElem?_getD, eA]; rfl
        have g2 : ps.getD i 0 = n' := by rw [List.getD_eq_getElem?_getD, e']; rfl
        rw [List.range_succ, List.filter_append, List.map_append, List.filter_cons, if_pos (by rw [g1, g2, he]; exact beq_self_eq_true _)]
        exact hys.append (.cons _ _ .nil)
      · rename_i nA tA eA he
        rw [Int.toNat_natCast] at eA e'
        refine LCg.CompEnd.intro F1 N1 _ (fun p hp => hp) off trivial ⟨rfl, ?_⟩
        have g1 : ps.getD j 0 = nA := by rw [List.getD_eq_getElem?_getD, eA]; rfl
        have g2 : ps.getD i 0 = n' := by rw [List.getD_eq_getElem?_getD, e']; rfl
        rw [List.range_succ, List.filter_append, List.filter_cons, if_neg (by rw [g1, g2]; simpa using he), List.filter_nil, List.append_nil]
        exact hys
    · rintro ys nx ⟨rfl, hys⟩
      clear F0 N0
      unfold LCg.FinA
      intro D h3 tk3 F1 N1 o1
      have hoD := off1_all o1
      walk_at "go"
      rename Fr _ _ _ _ => F0
      rename News _ _ _ _ => N0
      refine ke_ne_ints (xs := ys) (ys := []) (N0.isList (by k_mem)) (N0.isList (by k_mem)) hys .nil (by simp only [units_deeper]; simp only [cLine] at hun ⊢; omega) ?_
      walk_at "go"
      · rename _ = true => hb
        have hb0 : befo ps i = [] := of_decide_eq_true hb
        have hi0 : insi ps i = [] := by rw [insi, if_pos hb0]
        subst hQT1
        dsimp only [MTurn]
        refine MEnd.intro F0 N0 ((R, liO rs rn) :: (L' + 1 + 1 + 1, oK) :: (L' + 1 + 1, oT2) :: (L' + 1, oP) :: rest) (.tail _ (.tail _ (.head _))) (fun p hp => .tail _ (.tail _ (.tail _ hp))) ?_ ?_
        · k_all
        · exact ⟨R, oT2, rs, rn, rest, rfl, ⟨_, dT2⟩, ⟨rfl, trivial⟩, hsub, hR, hofR, hof1, hof2, hof3, by rw [rets_succ, hi0, List.append_nil]; exact hrs⟩
      · rename _ = false => hb
        have hne : befo ps i ≠ [] := of_decide_eq_false hb
        have hlast := befo_last hne
        have hyl : 0 < ys.length := by
          have h1 := hys.length
          have h2 : (befo ps i).length ≠ 0 := fun h => hne (List.length_eq_zero_iff.mp h)
          have h3 : ys.length = (befo ps i).length := h1
          omega
        obtain ⟨y, t9, e1, rfl, e3⟩ := kpa_ints hys hyl
        have hDR : @Ne Nat D R := Ne.symm (hoD _ (.tail _ (.head _)))
        refine PyProof.Rows.item_last (vi := ys.dropLast) (v := _) (l := D) (by rw [← e1]; exact N0.isList (.tail _ (.head _))) ?_
        generalize hla : (befo ps i).getLastD 0 = la at hlast
        have hla' : List.getLastD (List.map (fun (s : Nat) => (s : Int)) (List.filter (fun s => ps.getD s 0 == ps.getD i 0) (List.range i))) 0 = la := hla
        rw [hla']
        walk_at "go"
        rename_i h7 tk7 u1 u2 u3 u4 u5 u6 u7
        have hrl : rs.length ≤ 8 := by rw [hrs.length]; have := rets_length ps i; omega
        have hDL : @LT.lt Nat _ R D' := l1.2.2.2.1
        have hD1 : @LT.lt Nat _ (L' + 1 + 1 + 1) D' := Nat.lt_trans hR hDL
        have hDa : ∀ q ∈ rest, @LT.lt Nat _ q.1 D' := allLt_all l1.2.2.2.2.2.2.2
        refine r_append (news := (R, liO rs rn) :: (L' + 1 + 1 + 1, oK) :: (L' + 1 + 1, oT2) :: (L' + 1, oP) :: (D', liO ys' c') :: (I, oI) :: rest) F' (kst_newsOf N' (by walk_at "sub")) (Upd.head ?_) (by rw [sizeLine_eq, List.size_toArray]; omega) ?_
        · k_all
        intro h8 F8 N8
        clear F' N'
        walk_at "go"
        subst hQT1
        dsimp only [MTurn]
        refine MEnd.intro (by assumption) (by assumption) ((R, liO (rs ++ [.ref D']) (rn + 1)) :: (L' + 1 + 1 + 1, oK) :: (L' + 1 + 1, oT2) :: (L' + 1, oP) :: (D', liO ys' c') :: rest) (.tail _ (.tail _ (.tail _ (.tail _ (.tail _ (.head _)))))) (by walk_at "sub") ?_ ?_
        · have hDI : @Ne Nat D' I := Nat.ne_of_gt l1.2.2.1
          k_all
        · refine ⟨R, oT2, _, _, (D', liO ys' c') :: rest, rfl, ⟨_, dT2⟩, ⟨rfl, trivial⟩, fun q hq => .tail _ (hsub q hq), hR, ?_, ?_, ?_, ?_, ?_⟩
          · k_all
          · k_all
          · k_all
          · k_all
          · rw [rets_succ]
            refine (hrs.mono (IL.mono fun q hq => .tail _ hq)).append ?_
            rw [insi, if_neg hne, hla]
            exact .cons ⟨D', ys', c', rfl, .head _, hys'⟩ .nil
  clear F0 N0
  intro m₁ nx h1 tk1 zzh; refine cps fun zzX zzk => ?_
  obtain ⟨R, oT, rs, rn, rest, rfl, ⟨c, dT⟩, hm1, hsub, hR, hofR, hof1, hof2, hof3, hrs⟩ := zzh
  refine zzk ?_; clear zzk zzX
  intro F1 N1
  obtain ⟨mr, F2⟩ := frOv [("returns", .ref R)] F1 hm1
  clear F1
  dsimp only [kstB] at F2
  walk_at "go"
  rename Fr _ _ _ _ => F0
  rename News _ _ _ _ => N0
  refine r_for ?_
  walk_at "go"
  rename Fr _ _ _ _ => F0
  rename News _ _ _ _ => N0
  w_top off
  rename_i D6 h6 l6 C6 h7 F6 N6 l7 h8 F7 N7 tk6 h9 tk7 t7 u7 v7 a7
  have hR3 : @LT.lt Nat _ (L' + 1 + 1 + 1) C6 := l7.2.2.1
  have hD3 : @LT.lt Nat _ (L' + 1 + 1 + 1) D6 := l6.2.1
  have N1 := kst_newsOf (l' := (L' + 1 + 1 + 1, oK) :: (C6, liO [.ref D6] 0) :: (D6, prO (.int 0 tk1) (.ref R)) :: (R, liO rs rn) :: rest) N0 (by walk_at "sub")
  clear N0
  refine r_iterR (n := 6) (fun j m nx => ∃ C oK cu cn rest, nx = (L' + 1 + 1 + 1, oK) :: rest ∧ (∃ c, oK.data = .cell c) ∧ Has m [("cuts", .ref C)] ∧ (∀ q ∈ news, q ∈ rest) ∧ (C, liO cu cn) ∈ rest ∧ (∀ q ∈ rest, q.1 ≠ L' + 1 + 1 + 1) ∧ All2 (CT rest) cu (cutsP (rets ps 8) j)) rfl (by assumption) (by decide) (by rfl) F0 N1 ?_ ?_ ?_
  · refine ⟨C6, oK, _, 0, _, rfl, ⟨_, dK⟩, ⟨rfl, trivial⟩, fun q hq => .tail _ (.tail _ (.tail _ (hsub q hq))), .head _, ?_, ?_⟩
    · have h1 : @Ne Nat C6 (L' + 1 + 1 + 1) := Nat.ne_of_gt hR3
      have h2 : @Ne Nat D6 (L' + 1 + 1 + 1) := Nat.ne_of_gt hD3
      have h3 : @Ne Nat R (L' + 1 + 1 + 1) := Nat.ne_of_gt hR
      k_all
    · exact .cons ⟨D6, R, rs, rn, _, rfl, .tail _ (.head _), .tail _ (.tail _ (.head _)), hrs.mono (IL.mono fun q hq => .tail _ (.tail _ (.tail _ hq)))⟩ .nil
  · clear F0 N1
    intro j t I oI m₁ nx h tk hj6 zzh; refine cps fun zzX zzk => ?_
    obtain ⟨C, oK, cu, cn, rest, rfl, ⟨c, dK⟩, hm1, hsub, hC, hof3, hcu⟩ := zzh
    refine zzk ?_; clear zzk zzX
    intro hI F1 N1
    generalize hQT2 : MTurn _ _ _ _ _ _ _ = QT2
    revert hQT2 QT2; refine hold1 ?_; intro QT2 hQT2
    try dsimp only
    obtain ⟨mr, F2⟩ := frOv [("cuts", .ref C)] F1 hm1
    clear F1
    dsimp only [kstB] at F2
    have hI3 : @Ne Nat I (L' + 1 + 1 + 1) := Ne.symm (hI _ (.head _))
    have hIr : ∀ q ∈ rest, q.1 ≠ I := fun q hq => hI q (.tail _ hq)
    walk_at "go"
    rename Fr _ _ _ _ => F0
    rename News _ _ _ _ => N0
    clear F2 N1
    rename Obj => oK2
    rename oK2.data = _ => dK2
    have hk1 : (1 : Int) + (j : Int) = (j : Int) + 1 := by omega
    rw [hk1] at dK2
    have hcl : cu.length ≤ 64 := by
      rw [hcu.length, cutsP_length]
      exact Nat.le_trans (Nat.pow_le_pow_right (by decide) (show j ≤ 6 by omega)) (by decide)
    refine LCp.SrcLP.ledger (k := cn) rfl F0 N0 (.tail _ (.tail _ hC)) (by rw [sizeLine_eq, List.size_toArray]; omega) fun gh => ?_
    dsimp only
    refine restP (n := cu.toArray.size) (fun i ys nx => ∃ rest2, nx = (I, oI) :: (L' + 1 + 1 + 1, oK2) :: rest2 ∧ (∀ q ∈ rest, q ∈ rest2) ∧ (∀ q ∈ rest2, q.1 ≠ I) ∧ (∀ q ∈ rest2, q.1 ≠ L' + 1 + 1 + 1) ∧ All2 (CT rest2) ys (((cutsP (rets ps 8) j).take i).map (cutStep ((j : Int) + 1)))) ?_ ?_ _ 0 [] _ (Nat.zero_add _) ⟨rest, rfl, fun _ h => h, hIr, hof3, .nil⟩
    · intro i v ys nx hi hv zzh; refine cps fun zzX zzk => ?_
      obtain ⟨rest2, rfl, hsub2, hI2, ho2, hys⟩ := zzh
      refine zzk ?_; clear zzk zzX
      refine cps fun zzX zzk => ?_
      obtain ⟨⟨many, left⟩, hq, b, l, vl, nl, tm, rfl, hb, hl, hls⟩ := hcu.get (show cu[i]? = some v by simpa using hv)
      refine zzk ?_; clear zzk zzX
      refine ⟨b, prO (.int many tm) (.ref l), .int many tm, .ref l, 0, rfl, .tail _ (.tail _ (hsub2 _ hb)), rfl, rfl, ?_⟩
      intro I2 oI2 C2 oC2 D2 m₂ h2 tk2 E' hC2 hx hx2 F1 N1 off ne
      clear F0 N0
      walk_at "go"
      rename Fr _ _ _ _ => F3
      rename News _ _ _ _ => N3
      have hll : left.length ≤ 8 := Nat.le_trans (cutsP_small _ j _ (List.mem_of_getElem? hq)) (rets_length ps 8)
      have hvl : vl.length ≤ 8 := by rw [hls.length]; exact hll
      refine LCt.CompSrcT.ledger (k := nl) rfl F3 N3 (its := vl.toArray) (.tail _ (.tail _ (.tail _ (.tail _ (.tail _ (hsub2 _ hl)))))) (by rw [sizeLine_eq, List.size_toArray]; omega) fun gh => ?_
      dsimp only
      refine restT (n := vl.toArray.size) (fun i3 zs nx => nx = (I2, oI2) :: (C2, oC2) :: (D2, LCg.lst ys) :: (I, oI) :: (L' + 1 + 1 + 1, oK2) :: rest2 ∧ All2 (IL rest2) zs ((left.take i3).filter fun is => !decide ((j : Int) + 1 ∈ is))) ?_ ?_ _ 0 [] _ (Nat.zero_add _) ⟨rfl, .nil⟩
      · rintro i3 v3 zs nx I4 oI4 C4 oC4 D4 m₄ h4 tk4 E4 hi4 hv4 ⟨rfl, hzs⟩ hC4 hx4 F4 N4 off4 ne4
        clear F3 N3
        refine cps fun zzX zzk => ?_
        obtain ⟨is, his, r, vr, nr, rfl, hr, hir⟩ := hls.get (show vl[i3]? = some v3 by simpa using hv4)
        refine zzk ?_; clear zzk zzX
        walk_at "go"
        refine notin_list_ints (N4.isList (.tail _ (.tail _ (.tail _ (.tail _ (.tail _ (.tail _ (.tail _ (.tail _ (hsub2 _ hr)))))))))) hir ?_
        walk_at "go"
        · rename _ = true => he
          refine LCg.CompEnd.intro (by assumption) (by assumption) _ (fun p hp => hp) off4 (.inr ⟨_, .tail _ (.tail _ (.tail _ (.tail _ (.tail _ (hsub2 _ hl))))), rfl, _, rfl⟩) ⟨rfl, ?_⟩
          rw [any_dec] at he
          rw [List.take_add_one, his, List.filter_append]
          show All2 _ _ (_ ++ List.filter _ [is])
          rw [List.filter_cons, if_neg (by rw [he]; decide), List.filter_nil, List.append_nil]
          exact hzs
        · rename _ = false => he
          refine LCg.CompEnd.intro (by assumption) (by assumption) _ (fun p hp => hp) off4 (.inr ⟨_, .tail _ (.tail _ (.tail _ (.tail _ (.tail _ (hsub2 _ hl))))), rfl, _, rfl⟩) ⟨rfl, ?_⟩
          rw [any_dec] at he
          rw [List.take_add_one, his, List.filter_append]
          show All2 _ _ (_ ++ List.filter _ [is])
          rw [List.filter_cons, if_pos (by rw [he]; rfl)]
          exact hzs.snoc ⟨r, vr, nr, rfl, hsub2 _ hr, hir⟩
      · rintro zs nx ⟨rfl, hzs⟩
        rw [List.take_of_length_le (by rw [List.size_toArray, hls.length]; exact Nat.le_refl _)] at hzs
        clear F3 N3
        unfold LCg.FinE
        intro D5 h5 tk5 F5 N5 o5
        have ho5 := off1_all o5
        walk_at "go"
        rename_i D7 h7 F7 N7 l7
        obtain ⟨tq, N7⟩ : ∃ tq, News g' L' h7 ((D7, prO (.int (many + 1) tq) (.ref D5)) :: (D5, LCg.lst zs) :: (I2, oI2) :: (C2, oC2) :: (D2, LCg.lst ys) :: (I, oI) :: (L' + 1 + 1 + 1, oK2) :: rest2) := ⟨_, N7⟩
        refine LCg.CompEnd.intro F7 N7 ((I, oI) :: (L' + 1 + 1 + 1, oK2) :: (D7, prO (.int (many + 1) tq) (.ref D5)) :: (D5, LCg.lst zs) :: rest2) (by walk_at "sub") ⟨off.1, off.2.1, ⟨Nat.ne_of_gt l7.2.1, Nat.ne_of_gt l7.2.2.1, Nat.ne_of_gt l7.2.2.2.1⟩, ⟨Ne.symm (ho5 _ (.head _)), Ne.symm (ho5 _ (.tail _ (.head _))), Ne.symm (ho5 _ (.tail _ (.tail _ (.head _))))⟩, off.2.2⟩
          (.inr ⟨_, .tail _ (.tail _ (.tail _ (.tail _ (hsub2 _ hC)))), rfl, _, rfl⟩) ⟨(D7, prO (.int (many + 1) tq) (.ref D5)) :: (D5, LCg.lst zs) :: rest2, rfl, fun q hq => .tail _ (.tail _ (hsub2 q hq)), ?_, ?_, ?_⟩
        · have h7I : @Ne Nat D7 I := Nat.ne_of_gt l7.2.2.2.2.1
          have h5I : @Ne Nat D5 I := Ne.symm (ho5 _ (.tail _ (.tail _ (.tail _ (.head _)))))
          k_all
        · have h73 : @Ne Nat D7 (L' + 1 + 1 + 1) := Nat.ne_of_gt l7.2.2.2.2.2.1
          have h53 : @Ne Nat D5 (L' + 1 + 1 + 1) := Ne.symm (ho5 _ (.tail _ (.tail _ (.tail _ (.tail _ (.head _))))))
          k_all
        · rw [List.take_add_one, hq, List.map_append]
          exact (hys.mono (CT.mono fun q hq => .tail _ (.tail _ hq))).snoc ⟨D7, D5, zs, _, _, rfl, .head _, .tail _ (.head _), hzs.mono (IL.mono fun q hq => .tail _ (.tail _ hq))⟩
    · intro ys nx zzh; refine cps fun zzX zzk => ?_
      obtain ⟨rest2, rfl, hsub2, hI2, ho2, hys⟩ := zzh
      refine zzk ?_; clear zzk zzX
      clear F0 N0
      unfold LCg.FinE
      intro D5 h5 tk5 F5 N5 o5
      have hcy : ys.length ≤ 64 := by
        rw [hys.length, List.length_map, List.length_take, cutsP_length]
        exact Nat.le_trans (Nat.min_le_right _ _) (Nat.le_trans (Nat.pow_le_pow_right (by decide) (show j ≤ 6 by omega)) (by decide))
      walk_at "go"
      refine kmk_add_lit (zs := cu ++ ys) F5 N5 (News.isList N5 (.tail _ (.tail _ (.tail _ (hsub2 _ hC))))) (News.isList N5 (.head _)) rfl ?_ (by rw [sizeLine_eq]; simp only [List.size_toArray]; omega)
      intro D8 h8 F8 N8 l8
      walk_at "go"
      have hyt : (cutsP (rets ps 8) j).take cu.toArray.size = cutsP (rets ps 8) j := List.take_of_length_le (by rw [List.size_toArray, hcu.length]; exact Nat.le_refl _)
      rw [hyt] at hys
      have h8I : @Ne Nat D8 I := Nat.ne_of_gt (l8 _ (.tail _ (.head _)))
      have h83 : @Ne Nat D8 (L' + 1 + 1 + 1) := Nat.ne_of_gt (l8 _ (.tail _ (.tail _ (.head _))))
      subst hQT2
      dsimp only [MTurn]
      refine MEnd.intro (by assumption) (by assumption) ((L' + 1 + 1 + 1, oK2) :: (D8, liO (cu ++ ys) 0) :: rest2) (.tail _ (.tail _ (.head _))) (by walk_at "sub") ?_ ?_
      · k_all
      · refine ⟨D8, oK2, cu ++ ys, 0, (D8, liO (cu ++ ys) 0) :: rest2, rfl, ⟨_, dK2⟩, ⟨rfl, trivial⟩, fun q hq => .tail _ (hsub2 _ (hsub _ hq)), .head _, ?_, ?_⟩
        · k_all
        · exact (hcu.mono (CT.mono fun q hq => .tail _ (hsub2 _ hq))).append (hys.mono (CT.mono fun q hq => .tail _ hq))
  clear F0 N1
  intro m₁ nx h1 tk1 zzh; refine cps fun zzX zzk => ?_
  obtain ⟨C, oK, cu, cn, rest, rfl, ⟨c, dK⟩, hm1, hsub, hC, hof3, hcu⟩ := zzh
  refine zzk ?_; clear zzk zzX
  intro F1 N1
  obtain ⟨mr, F2⟩ := frOv [("cuts", .ref C)] F1 hm1
  clear F1
  dsimp only [kstB] at F2
  walk_at "go"
  exact hret C cu cn _ _ _ (by assumption) (by assumption) (.tail _ hC) (fun q hq => .tail _ (hsub q hq)) (hcu.mono (CT.mono fun q hq => .tail _ hq))end S_D2

section S_A8
theorem none_booked {P : Params} {h₀ h : Heap} (X : (hd.heap_39 P).In h₀) (hk : ∀ b o, h₀.get? b = some o → h.get? b = some o) : NoneBooked h := by
  have e : ∃ o es ep, (hd.heap_39 P).lookup 2 = some o ∧ o.data = .dict es ep ∧ StrKeys es ∧ nsFind es sharingNotToldKey = none := by
    refine ⟨_, _, _, rfl, rfl, ?_, ?_⟩
    · intro e he
      simp only [List.mem_toArray, List.mem_cons, List.not_mem_nil, or_false] at he
      rcases he with rfl | rfl | rfl | rfl | rfl | rfl | rfl | rfl | rfl <;> exact ⟨_, _, rfl⟩
    · rfl
  obtain ⟨o, es, ep, h1, h2, h3, h4⟩ := e
  exact ⟨nsFind es, ⟨o, es, ep, hk _ _ (X _ _ h1), h2, h3, fun _ => rfl⟩, h4⟩
section
variable {prog : Program} {w : World} {A : Around} {E : Value → Shared → Prop} {s : Shared}
theorem r_isSame_float {M : Model} {p q : UInt64} {t u : Tok} {Q : Bool → Shared → Prop} (ht : t ≠ 0) (hu : u ≠ 0) (hb : NoneBooked s.heap) (h : ∀ b, Q b s) : wpAny M A (isSame (.float p t) (.float q u)) Q E s := by
  show wpAny M A (isSame.created _ t u) Q E s
  unfold isSame.created
  refine wpAny_ite ?_
  split
  · rename_i h; simp [ht, hu] at h
  refine wpAny_ite ?_
  split
  · exact wpAny_pure (h _)
  refine wpAny_ite ?_
  split
  · exact wpAny_pure (h _)
  refine wpAny_bind (wpAny_sharingNotTold_none hb ?_)
  first | rw [if_neg Bool.false_ne_true] | simp only [Bool.false_eq_true, if_false]
  refine wpAny_bind (wpAny_sharingNotTold_none hb ?_)
  first | rw [if_neg Bool.false_ne_true] | simp only [Bool.false_eq_true, if_false]
  exact wpAny_bind (wpAny_rule (wpAny_bind (wpAny_askSetting (wpAny_pure (h _)))))
theorem eqAt_float {p q : UInt64} {t u : Tok} (ht : t ≠ 0) (hu : u ≠ 0) (hb : NoneBooked s.heap) (he : (Float64.cmp p q == some Ordering.eq) = true) : SeqAt.EqAt A s (.float p t) (.float q u) true := fun prog w E Q h => by
  unfold eqBool
  refine wpAny_holding ?_
  refine wpAny_ite_split (fun _ => ?_) (fun _ => ?_)
  · exact wpAny_bind (wpAny_rule (wpAny_pure h))
  · refine wpAny_bind (r_isSame_float ht hu hb fun b => ?_)
    cases b with
    | true => exact wpAny_pure h
    | false => exact wpAny_bind (AutoFloatOps.eq_0 (wpAny_truthy_bool (by rw [he]; exact h)))
theorem r_ne_tup3 {h₀ : Heap} {L x y : Addr} {news : List (Addr × Obj)} {a b c a' b' c' : UInt64} {t1 t2 t3 u1 u2 u3 : Tok} {Q : Value → Shared → Prop} (N : News h₀ L s.heap news)
    (mx : (x, tr3 a b c t1 t2 t3) ∈ news) (my : (y, tr3 a' b' c' u1 u2 u3) ∈ news) (hu : A.units < cLine) (hb : NoneBooked s.heap) (ht : t1 ≠ 0 ∧ t2 ≠ 0 ∧ t3 ≠ 0) (hv : u1 ≠ 0 ∧ u2 ≠ 0 ∧ u3 ≠ 0)
    (h1 : (Float64.cmp a a' == some Ordering.eq) = true) (h2 : (Float64.cmp b b' == some Ordering.eq) = true) (h3 : (Float64.cmp c c' == some Ordering.eq) = true) (h : Q (.bool false) s) :
    wpAny (model prog w) A (compareOp .NotEq (.ref x) (.ref y)) Q E s :=
  SeqAt.RcNeAt.tuples (e := fun _ => true) ⟨_, (N _ mx).1, rfl, _, rfl⟩ ⟨_, (N _ my).1, rfl, _, rfl⟩ hu (fun j hj1 hj2 => by
    have hj : j < 3 := hj1
    match j, hj with
    | 0, _ => exact eqAt_float ht.1 hv.1 hb h1
    | 1, _ => exact eqAt_float ht.2.1 hv.2.1 hb h2
    | 2, _ => exact eqAt_float ht.2.2 hv.2.2 hb h3) prog w E Q h
end
end S_A8

section S_A9
section
variable {prog : Program} {w : World} {A : Around} {E : Value → Shared → Prop} {s : Shared}
/-- one turn of the loop of min over a tuple of two ints, the state's count as it was -/
theorem r_min2 {a b : Int} {t u : Tok} {h₀ : Heap} {L : Addr} {m : Str → Option Value} {news : List (Addr × Obj)} {Q : Value → Shared → Prop} (hh : A.handled = none) (F : Fr h₀ L s.heap m) (N : News h₀ L s.heap news)
    (h : ∀ h', Fr h₀ L h' m → News h₀ L h' news → Q (if b < a then .int b u else .int a t) { s with heap := h' }) :
    wpAny (model prog w) A (call (.builtin "min") [.int a t, .int b u]) Q E s := by
  have hname : (toString "min" ++ toString ".loop" : String) = "min.loop" := by decide
  have hT : (s.heap.push { cls := .type "tuple", data := .seq #[.int a t, .int b u] }).IsTuple s.heap.objs.size #[.int a t, .int b u] := ⟨_, Heap.get?_push_size _ rfl, rfl, 0, rfl⟩
  have hz1 : (s.heap.push { cls := .type "tuple", data := .seq #[.int a t, .int b u] }).objs.size = s.heap.objs.size + 1 := Heap.size_push ..
  refine call_function_tree PySem.F.kind_min PySem.F.plain_min PySem.F.entry_min (PySem.F.args_min2 _ _) ?_
  show wpAny _ A.in1 (Builtin.Builtins.bindParams "min" ["key", "default"] 0 ⟨[], []⟩ >>= _) _ _ s
  refine wpAny_bind (wpAny_of_eq (show Builtin.Builtins.bindParams "min" ["key", "default"] 0 ⟨[], []⟩ = pure [none, none] from rfl) ?_)
  show wpAny _ A.in1 (newTuple [.int a t, .int b u] >>= _) _ _ s
  refine wpAny_bind (wpAny_newObj_type ?_)
  refine wpAny_bind (wpAny_pyIter_tuple hT ?_)
  refine wpAny_bind (wpAny_newObj_type ?_)
  rw [hname]
  generalize hI : (s.heap.push { cls := .type "tuple", data := .seq #[.int a t, .int b u] }).objs.size = I at *
  generalize hh2 : (s.heap.push { cls := .type "tuple", data := .seq #[.int a t, .int b u] }).push { cls := .type "tuple_iterator", data := .fields #[.ref s.heap.objs.size, .int 0 0] } = hp2
  have hz2 : hp2.objs.size = s.heap.objs.size + 2 := by rw [← hh2, Heap.size_push, hI, hz1]
  have it2 : hp2.IsTupleIter I s.heap.objs.size 0 := by rw [← hh2, ← hI]; exact ⟨_, Heap.get?_push_size _ rfl, rfl, rfl⟩
  have tu2 : hp2.IsTuple s.heap.objs.size #[.int a t, .int b u] := by rw [← hh2]; exact hT.push _
  have k2 : ∀ c o, s.heap.get? c = some o → hp2.get? c = some o := fun c o e => by rw [← hh2]; exact Heap.get?_push_of_some _ (Heap.get?_push_of_some _ e)
  generalize hh3 : hp2.push { cls := .type "list", data := .seq #[] } = hp3
  have S3 : hp3.get? hp2.objs.size = some { cls := .type "list", data := .seq #[] } := by rw [← hh3]; exact Heap.get?_push_size _ rfl
  have k23 : ∀ c o, hp2.get? c = some o → hp3.get? c = some o := fun c o e => by rw [← hh3]; exact Heap.get?_push_of_some _ e
  have it3 : hp3.IsTupleIter I s.heap.objs.size 0 := let ⟨o, e, r⟩ := it2; ⟨o, k23 _ _ e, r⟩
  have tu3 : hp3.IsTuple s.heap.objs.size #[.int a t, .int b u] := let ⟨o, e, r⟩ := tu2; ⟨o, k23 _ _ e, r⟩
  have k3 : ∀ c o, s.heap.get? c = some o → hp3.get? c = some o := fun c o e => k23 _ _ (k2 _ _ e)
  have hSI : hp2.objs.size ≠ I := by rw [hz2, hz1]; omega
  have hST : hp2.objs.size ≠ s.heap.objs.size := by rw [hz2]; omega
  have hTI : s.heap.objs.size ≠ I := by rw [hz1]; omega
  generalize hp2.objs.size = S at *
  have old : ∀ c o, s.heap.get? c = some o → c ≠ I ∧ c ≠ S := fun c o e => by
    have := Heap.lt_size e
    have h1 : I = s.heap.objs.size + 1 := hz1
    have h2 : S = s.heap.objs.size + 2 := hz2
    rw [h1, h2]
    exact ⟨Nat.ne_of_lt (Nat.lt_succ_of_lt this), Nat.ne_of_lt (Nat.lt_succ_of_lt (Nat.lt_succ_of_lt this))⟩
  refine wpAny_pure ⟨plainId_quiet PySem.F.plain_min_loop _, ?_⟩
  -- the first item
  refine codeAny_builtin PySem.F.entry_min_loop ?_
  rw [Around.under_plainId PySem.F.plain_min_loop _]
  show wpAny _ A.in1 (seqItems? (.ref S) >>= _) _ _ _
  refine wpAny_bind (wpAny_seqItems S3 rfl ?_)
  show wpAny _ A.in1 (tryCatch (pyNext (.ref I)) _ >>= _) _ _ _
  refine wpAny_bind (wpAny_tryCatch (wpAny_pyNext_tuple_item it3 tu3 (x := .int a t) rfl fun hp4 it4 sb4 => ?_))
  have S4 : hp4.get? S = some { cls := .type "list", data := .seq #[] } := (sb4.2 S hSI).trans S3
  show wpAny _ A.in1 (updateSeq S (fun _ => #[.int a t, .int a t]) >>= _) _ _ _
  refine wpAny_bind ?_
  refine wpAny_updateSeq S4 rfl ?_
  rw [hname]
  refine wpAny_pure ⟨plainId_quiet PySem.F.plain_min_loop _, ?_⟩
  dsimp only
  obtain ⟨c5, S5⟩ : ∃ c, (hp4.update S (Obj.mapSeq fun _ => #[.int a t, .int a t])).get? S = some { cls := .type "list", data := .seq #[.int a t, .int a t] c } := ⟨_, Heap.get?_update_self _ S4 rfl⟩
  have it5 : (hp4.update S (Obj.mapSeq fun _ => #[.int a t, .int a t])).IsTupleIter I s.heap.objs.size (0 + 1) := let ⟨o, e, r⟩ := it4; ⟨o, (Heap.get?_update_other _ _ hSI).trans e, r⟩
  have tu5 : (hp4.update S (Obj.mapSeq fun _ => #[.int a t, .int a t])).IsTuple s.heap.objs.size #[.int a t, .int b u] := let ⟨o, e, r⟩ := tu3; ⟨o, (Heap.get?_update_other _ _ hST).trans ((sb4.2 _ hTI).trans e), r⟩
  have k5 : ∀ c o, s.heap.get? c = some o → (hp4.update S (Obj.mapSeq fun _ => #[.int a t, .int a t])).get? c = some o := fun c o e =>
    (Heap.get?_update_other _ _ (Ne.symm (old c o e).2)).trans ((sb4.2 _ (old c o e).1).trans (k3 c o e))
  generalize hp4.update S (Obj.mapSeq fun _ => #[.int a t, .int a t]) = hp5 at *
  -- the second item
  refine codeAny_builtin PySem.F.entry_min_loop ?_
  rw [Around.under_plainId PySem.F.plain_min_loop _]
  show wpAny _ A.in1 (seqItems? (.ref S) >>= _) _ _ _
  refine wpAny_bind (wpAny_seqItems S5 rfl ?_)
  show wpAny _ A.in1 (tryCatch (pyNext (.ref I)) _ >>= _) _ _ _
  refine wpAny_bind (wpAny_tryCatch (wpAny_pyNext_tuple_item it5 tu5 (x := .int b u) rfl fun hp6 it6 sb6 => ?_))
  have S6 := (sb6.2 S hSI).trans S5
  have tu6 : hp6.IsTuple s.heap.objs.size #[.int a t, .int b u] := let ⟨o, e, r⟩ := tu5; ⟨o, (sb6.2 _ hTI).trans e, r⟩
  have k6 : ∀ c o, s.heap.get? c = some o → hp6.get? c = some o := fun c o e => (sb6.2 _ (old c o e).1).trans (k5 c o e)
  show wpAny _ A.in1 (tryCatch (holding [Value.int b u, Value.int b u] (richCompare .Lt (Value.int b u) (Value.int a t) >>= _)) _ >>= _) _ _ _
  have hcmp := CmpOf.ints_lt (prog := prog) (w := w) (A := A.in1) (P := fun i v => ∃ t, v = Value.int (match i with | 0 => a | _ => b) t) (fun i => match i with | 0 => a | _ => b) (fun i v h => h)
  refine wpAny_bind (wpAny_tryCatch (wpAny_holding (wpAny_bind (hcmp 1 0 _ _ _ _ _ ⟨u, rfl⟩ ⟨t, rfl⟩ ?_))))
  refine wpAny_bind (wpAny_holding (wpAny_truthy_bool ?_))
  refine wpAny_bind (wpAny_letGo (wpAny_pure ?_))
  show wpAny _ A.in1 (if decide (b < a) = true then _ else _) _ _ _
  have fin : ∀ (v : Value) (c : Nat) (hp : Heap), v = (if b < a then .int b u else .int a t) → hp.get? S = some { cls := .type "list", data := .seq #[v, v] c } → hp.IsTupleIter I s.heap.objs.size (0 + 1 + 1) → hp.IsTuple s.heap.objs.size #[.int a t, .int b u] →
      (∀ c o, s.heap.get? c = some o → hp.get? c = some o) → codeAny (model prog w) A (.builtin "min.loop" ⟨[.ref I, .none, .ref S], []⟩) (fun r s' => match r with | .ok (.ret v) => Q v s' | .ok _ => False | .error e => E e s') { s with heap := hp } := by
    intro v c hp hv S7 it7 tu7 k7
    refine codeAny_builtin PySem.F.entry_min_loop ?_
    rw [Around.under_plainId PySem.F.plain_min_loop _]
    show wpAny _ A.in1 (seqItems? (.ref S) >>= _) _ _ _
    refine wpAny_bind (wpAny_seqItems S7 rfl ?_)
    show wpAny _ A.in1 (tryCatch (pyNext (.ref I)) _ >>= _) _ _ _
    refine wpAny_bind (wpAny_tryCatch (wpAny_pyNext_tuple_end hh it7 tu7 rfl fun hp8 eb8 => ?_))
    have S8 := eb8 S _ hSI S7
    show wpAny _ A.in1 (updateSeq S (fun _ => #[]) >>= _) _ _ _
    refine wpAny_bind ?_
    refine wpAny_updateSeq S8 rfl (wpAny_bind (wpAny_letGo (wpAny_pure ?_)))
    rw [hv]
    have k9 : ∀ c o, s.heap.get? c = some o → (hp8.update S (Obj.mapSeq fun _ => #[])).get? c = some o := fun c o e => (Heap.get?_update_other _ _ (Ne.symm (old c o e).2)).trans (eb8 c o (old c o e).1 (k7 c o e))
    exact h _ (F.grownK k9) (N.grown k9)
  by_cases hba : b < a
  · rw [if_pos (decide_eq_true hba)]
    refine wpAny_bind ?_
    refine wpAny_updateSeq S6 rfl (wpAny_bind (wpAny_letGo ?_))
    rw [hname]
    refine wpAny_pure ⟨plainId_quiet PySem.F.plain_min_loop _, ?_⟩
    have S7 : ∃ c, (hp6.update S (Obj.mapSeq fun _ => #[.int b u, .int b u])).get? S = some { cls := .type "list", data := .seq #[.int b u, .int b u] c } := ⟨_, Heap.get?_update_self _ S6 rfl⟩
    obtain ⟨c7, S7⟩ := S7
    have it7 : (hp6.update S (Obj.mapSeq fun _ => #[.int b u, .int b u])).IsTupleIter I s.heap.objs.size (0 + 1 + 1) := let ⟨o, e, r⟩ := it6; ⟨o, (Heap.get?_update_other _ _ hSI).trans e, r⟩
    have tu7 : (hp6.update S (Obj.mapSeq fun _ => #[.int b u, .int b u])).IsTuple s.heap.objs.size #[.int a t, .int b u] := let ⟨o, e, r⟩ := tu6; ⟨o, (Heap.get?_update_other _ _ hST).trans e, r⟩
    exact fin (.int b u) c7 _ (if_pos hba).symm S7 it7 tu7 fun c o e => (Heap.get?_update_other _ _ (Ne.symm (old c o e).2)).trans (k6 c o e)
  · rw [if_neg (by simpa using hba)]
    refine wpAny_bind (wpAny_letGo ?_)
    rw [hname]
    refine wpAny_pure ⟨plainId_quiet PySem.F.plain_min_loop _, ?_⟩
    exact fin (.int a t) c5 _ (if_neg hba).symm S6 it6 tu6 k6
end
end S_A9
set_option hygiene false in
local macro_rules | `(tactic| walk_at "call builtin:min") => `(tactic| ((with_reducible show H35); k_dflt (refine' r_min2 (by exact rfl) (by k_asm) (by k_asm) ?_; k_whole); intro h' F' N'; (try dsimp only)))
section S_A10
theorem afresh17 : True := by w_top off; trivial
noncomputable def CEnd (h₀ : Heap) (L : Addr) (m : Str → Option Value) (s₁ : Shared) (I : Addr) (oI : Obj) (C : Addr) (oC : Obj) (c : Addr) (oc : Obj) (D : Addr) (oD : Obj) (rest : Value → List (Addr × Obj) → Prop) (y : Value) (s₂ : Shared) : Prop :=
  ∃ h' tk nx', s₂ = { s₁ with heap := h', toks := tk } ∧ Fr h₀ L h' m ∧ News h₀ L h' ((I, oI) :: (C, oC) :: (c, oc) :: (D, oD) :: nx') ∧ (∀ p ∈ nx', (@Ne Nat p.1 I) ∧ (@Ne Nat p.1 C) ∧ (@Ne Nat p.1 c) ∧ (@Ne Nat p.1 D)) ∧ rest y nx'
theorem CEnd.intro {h₀ : Heap} {L I C c D : Addr} {m : Str → Option Value} {s₁ : Shared} {oI oC oc oD : Obj} {rest : Value → List (Addr × Obj) → Prop} {y : Value} {h' : Heap} {tk : Nat} {all : List (Addr × Obj)}
    (F : Fr h₀ L h' m) (N : News h₀ L h' all) (nx' : List (Addr × Obj)) (sub : ∀ p ∈ (I, oI) :: (C, oC) :: (c, oc) :: (D, oD) :: nx', p ∈ all) (off : ∀ p ∈ nx', (@Ne Nat p.1 I) ∧ (@Ne Nat p.1 C) ∧ (@Ne Nat p.1 c) ∧ (@Ne Nat p.1 D)) (r : rest y nx') :
    CEnd h₀ L m s₁ I oI C oC c oc D oD rest y { s₁ with heap := h', toks := tk } := ⟨h', tk, nx', rfl, F, fun p hp => N p (sub p hp), off, r⟩
section
open LCg
variable {prog : Program} {w : World} {A : Around} {E : Value → Shared → Prop} {s : Shared} {h₀ : Heap} {L : Addr} {m : Str → Option Value} {env : Env}
/-- the block of a list comprehension whose variable is a cell -/
theorem blockC {elt iter : PySem.Expr} {x : Str} {px : Pos} {scope : Scope} {cl : List (Str × Addr)} {pos : Pos} {s₂ : Shared} {I : Addr} {fp : List Addr} {n : Nat} {P : Nat → Value → Prop} {St : Nat → Heap → Prop} {S : List (Addr × Obj) → Prop} {nx₀ : List (Addr × Obj)} {RR : Value → Addr → Result → Shared → Prop}
    (J : Nat → List Value → List (Addr × Obj) → Prop)
    (W : Walks prog w A I fp [I] n P St) (hsz : n ≤ sizeLine) (hIo : ∀ i h, St i h → ∃ o, h.get? I = some o)
    (hSt : ∀ i h h' o nw, St i h → h.get? I = some o → h'.get? I = some o → (∀ b o, h₀.get? b = some o → h'.get? b = some o) → News h₀ L h' nw → S nw → St i h')
    (hJS : ∀ i ys nx, J i ys nx → S nx) (hJl : ∀ i ys nx, J i ys nx → ys.length = i)
    (hcf : ∀ k, cellsFrom k scope.names cl = (x, k) :: cl) (hpc : ∀ h, pushCells h scope.names = h.push { cls := .type "cell", data := .cell none }) (hkind : scope.kind = .function) (hx : (relabel scope env).names.lookup x = some .cell)
    (hst : St 0 s₂.heap) (hfp : ∀ b ∈ fp, b < s₂.heap.objs.size) (F : Fr h₀ L s₂.heap m) (N : News h₀ L s₂.heap nx₀) (hIL : L ≠ I) (hI₀ : h₀.get? I = none) (off : ∀ p ∈ nx₀, p.1 ≠ I) (hJ : J 0 [] nx₀)
    (turn : ∀ i v ys nx oI C oC c oc D m₂ h tk (E' : Value → Shared → Prop), i < n → P i v → J i ys nx → NsObj oC m₂ → oc.data = .cell (some v) → Fr h₀ L h m → News h₀ L h ((I, oI) :: (C, oC) :: (c, oc) :: (D, lst ys) :: nx) →
      (∀ p ∈ nx, (@Ne Nat p.1 I) ∧ (@Ne Nat p.1 C) ∧ (@Ne Nat p.1 c) ∧ (@Ne Nat p.1 D)) → ((@Ne Nat I C) ∧ (@Ne Nat I c) ∧ (@Ne Nat I D) ∧ (@Ne Nat C c) ∧ (@Ne Nat C D) ∧ (@Ne Nat c D)) →
      wpAny (model prog w) A (eval elt (compEnvC scope ((x, c) :: cl) C env)) (CEnd h₀ L m { s₂ with heap := h, toks := tk } I oI C oC c oc D (lst ys) (fun y nx' => J (i + 1) (ys ++ [y]) nx')) E' { s₂ with heap := h, toks := tk })
    (hRR : ∀ D C h tk m' ys nx, Fr h₀ L h m → News h₀ L h ((D, lst ys) :: nx) → (∀ p ∈ nx, p.1 ≠ D) → h.Ns C m' → h₀.get? C = none → C ≠ L → D ≠ L → h₀.get? D = none → C ≠ D → (∀ p ∈ nx, p.1 ≠ C) → J n ys nx → RR (.ref D) C (.ok .next) { s₂ with heap := h, toks := tk }) :
    wpAny (model prog w) A (newList []) (fun acc s₃ => wpAny (model prog w) A (newFunctionEnv scope env.globals cl [] env.qual none .none (some env)) (fun cenv s₄ =>
      codeAny (model prog w) A (.compStart (.ListComp elt [⟨.Name x px, iter, [], 0⟩] scope pos) 0 (.ref I) acc { cenv with scope := relabel scope env }) (RR acc cenv.locals) s₄) E s₃) E s₂ := by
  refine wpAny_newObj_type ?_
  simp only [newFunctionEnv, Option.isSome_some, if_true]
  refine wpAny_bind (wpAny_alloc ?_)
  refine wpAny_bind (wpAny_layCells _ (fun name kind cells => by cases hkc : kind == NameKind.cell <;> simp [hkc]) _ _ _ _ ?_)
  rw [hcf, hpc]
  refine wpAny_bind (wpAny_pure (wpAny_pure ?_))
  dsimp only
  generalize hH1 : s₂.heap.push { cls := .type "list", data := .seq ([] : List Value).toArray } = H1
  have hz1 : H1.objs.size = s₂.heap.objs.size + 1 := by rw [← hH1]; exact Heap.size_push ..
  have hD1 : H1.get? s₂.heap.objs.size = some (lst []) := by rw [← hH1]; exact Heap.get?_push_size _ rfl
  have k1 : ∀ b o, s₂.heap.get? b = some o → H1.get? b = some o := fun b o e => by rw [← hH1]; exact Heap.get?_push_of_some _ e
  generalize hH2 : H1.push { cls := .type "dict", data := .dict #[] } = H2
  have hz2 : H2.objs.size = s₂.heap.objs.size + 2 := by rw [← hH2, Heap.size_push, hz1]
  have hn2 : H2.Ns H1.objs.size fun _ => none := by rw [← hH2]; exact Heap.Ns.new H1 (.type "dict")
  have k2 : ∀ b o, H1.get? b = some o → H2.get? b = some o := fun b o e => by rw [← hH2]; exact Heap.get?_push_of_some _ e
  generalize hH3 : H2.push { cls := .type "cell", data := .cell none } = H3
  have hc3 : H3.IsCell H2.objs.size none := by rw [← hH3]; exact ⟨_, Heap.get?_push_size _ rfl, rfl⟩
  have k3 : ∀ b o, H2.get? b = some o → H3.get? b = some o := fun b o e => by rw [← hH3]; exact Heap.get?_push_of_some _ e
  have hn3 : H3.Ns H1.objs.size fun _ => none := hn2.keeps k3
  have hD3 : H3.get? s₂.heap.objs.size = some (lst []) := k3 _ _ (k2 _ _ hD1)
  have old : ∀ b o, s₂.heap.get? b = some o → H3.get? b = some o := fun b o e => k3 _ _ (k2 _ _ (k1 _ _ e))
  have fresh : ∀ a, s₂.heap.objs.size ≤ a → h₀.get? a = none := fun a ha => by
    cases e : h₀.get? a with
    | none => rfl
    | some o' => exact absurd (Heap.lt_size (F.keep a o' e)) (Nat.not_lt.mpr ha)
  have hD₀ : h₀.get? s₂.heap.objs.size = none := fresh _ (Nat.le_refl _)
  have hC₀ : h₀.get? H1.objs.size = none := fresh _ (by rw [hz1]; exact Nat.le_succ _)
  have hc₀ : h₀.get? H2.objs.size = none := fresh _ (by rw [hz2]; exact Nat.le_add_right _ _)
  have hLlt : L < s₂.heap.objs.size := F.ns.lt
  have hIf : I ∈ fp := W.sub I (List.mem_singleton.mpr rfl)
  have hIlt : I < s₂.heap.objs.size := hfp I hIf
  have below : ∀ b, b < s₂.heap.objs.size → (@Ne Nat b H1.objs.size) ∧ (@Ne Nat b H2.objs.size) ∧ (@Ne Nat b s₂.heap.objs.size) := fun b hb => by
    have hb' : @LT.lt Nat _ b s₂.heap.objs.size := hb
    refine ⟨?_, ?_, ?_⟩
    · rw [hz1]; exact Nat.ne_of_lt (Nat.lt_succ_of_lt hb')
    · rw [hz2]; exact Nat.ne_of_lt (Nat.lt_succ_of_lt (Nat.lt_succ_of_lt hb'))
    · exact Nat.ne_of_lt hb'
  have hDC : @Ne Nat s₂.heap.objs.size H1.objs.size := by rw [hz1]; exact Nat.ne_of_lt (Nat.lt_succ_self _)
  have hDc : @Ne Nat s₂.heap.objs.size H2.objs.size := by rw [hz2]; exact Nat.ne_of_lt (Nat.lt_succ_of_lt (Nat.lt_succ_self _))
  have hCc : @Ne Nat H1.objs.size H2.objs.size := by rw [hz1, hz2]; exact Nat.ne_of_lt (Nat.lt_succ_self _)
  have hfD : ∀ b ∈ fp, (@Ne Nat b H1.objs.size) ∧ (@Ne Nat b H2.objs.size) ∧ (@Ne Nat b s₂.heap.objs.size) := fun b hb => below b (hfp b hb)
  have off0 : ∀ p ∈ nx₀, (@Ne Nat p.1 I) ∧ (@Ne Nat p.1 H1.objs.size) ∧ (@Ne Nat p.1 H2.objs.size) ∧ (@Ne Nat p.1 s₂.heap.objs.size) := fun p hp => ⟨off p hp, below _ (Heap.lt_size (N p hp).1)⟩
  have hst3 : St 0 H3 := W.frame _ _ _ hst fun b _ o e => old b o e
  have N3 : News h₀ L H3 ((s₂.heap.objs.size, lst []) :: nx₀) := fun p hp => by
    rcases List.mem_cons.mp hp with rfl | hp
    · exact ⟨hD3, (below L hLlt).2.2.symm, hD₀⟩
    · exact ⟨old _ _ (N p hp).1, (N p hp).2⟩
  have F3 : Fr h₀ L H3 m := F.keeps old
  have hCL : H1.objs.size ≠ L := (below L hLlt).1.symm
  have hcL : H2.objs.size ≠ L := (below L hLlt).2.1.symm
  have hDL : s₂.heap.objs.size ≠ L := (below L hLlt).2.2.symm
  obtain ⟨hIC, hIc, hID⟩ := below I hIlt
  generalize H1.objs.size = C at *
  generalize H2.objs.size = c at *
  generalize hDe : s₂.heap.objs.size = D at *
  clear hH1 hH2 hH3 hz1 hz2 hD1 k1 k2 k3 hn2 fresh hLlt hIlt below
  have loop : ∀ s₃ : Shared, s₃ = { s₂ with heap := H3 } →
      codeAny (model prog w) A (.compLoop (.ListComp elt [⟨.Name x px, iter, [], 0⟩] scope pos) 0 (.ref I) (.ref D) (compEnvC scope ((x, c) :: cl) C env)) (RR (.ref D) C) s₃ := by
    rintro s₃ rfl
    refine codeAny_compLoop_tests
      (fun k s' => ∃ h' tk i ys nx v₀, s' = { s₂ with heap := h', toks := tk } ∧ i ≤ n ∧ k = n + 1 - i ∧ St i h' ∧ Fr h₀ L h' m ∧ (∃ m', h'.Ns C m') ∧ h'.IsCell c v₀ ∧ News h₀ L h' ((D, lst ys) :: nx) ∧
        (∀ p ∈ nx, (@Ne Nat p.1 I) ∧ (@Ne Nat p.1 C) ∧ (@Ne Nat p.1 c) ∧ (@Ne Nat p.1 D)) ∧ J i ys nx) ?_ (n + 1)
      ⟨H3, _, 0, [], nx₀, none, rfl, Nat.zero_le _, rfl, hst3, F3, ⟨_, hn3⟩, hc3, N3, off0, hJ⟩
    intro k s' zzh; refine cps fun zzX zzk => ?_
    obtain ⟨h', tk, i, ys, nx, v₀, rfl, hi, rfl, hst', F', ⟨m', hn'⟩, hc', N', off', hJ'⟩ := zzh
    refine zzk ?_; clear zzk zzX
    have next : ∀ h₂ : Heap, (∀ b o, b ∉ [I] → h'.get? b = some o → h₂.get? b = some o) → Fr h₀ L h₂ m ∧ News h₀ L h₂ ((D, lst ys) :: nx) := fun h₂ hk₂ =>
      ⟨⟨F'.ns.at' fun o e => hk₂ _ o (by simpa using hIL) e, fun b o e => hk₂ b o (fun q => by rw [List.mem_singleton.mp q, hI₀] at e; cases e) (F'.keep b o e), F'.above⟩,
        fun p hp => ⟨hk₂ _ _ (by
          rcases List.mem_cons.mp hp with rfl | hp
          · simpa using Ne.symm hID
          · simpa using (off' p hp).1) (N' p hp).1, (N' p hp).2⟩⟩
    by_cases hlt : i < n
    · refine W.item i _ _ _ hlt hst' fun v h₂ tk₂ hPv hst₂ hk₂ => ?_
      obtain ⟨F₂, N₂⟩ := next h₂ hk₂
      have hc₂ : h₂.IsCell c v₀ := let ⟨o, e, r⟩ := hc'; ⟨o, hk₂ _ _ (by simpa using Ne.symm hIc) e, r⟩
      have hn₂ : h₂.Ns C m' := hn'.at' fun o e => hk₂ _ o (by simpa using Ne.symm hIC) e
      refine wpAny_assign_Name (wpAny_storeName_cell hkind hx (by simp [compEnvC]) hc₂ fun h₃ hc₃ hs₃ => ?_)
      refine wpAny_tests_nil ?_
      simp only [if_true]
      have hst₃ : St (i + 1) h₃ := W.frame _ _ _ hst₂ fun b hb o e => hs₃.extBut b o (hfD b hb).2.1 e
      obtain ⟨oI, heI⟩ := hIo _ _ hst₃
      obtain ⟨oC, heC, hoC⟩ := ns_obj (hn₂.sameBut hs₃ hCc)
      obtain ⟨oc, hec, hoc⟩ := hc₃
      have F₃ : Fr h₀ L h₃ m := F₂.change hs₃ hcL hc₀
      have N₃ : News h₀ L h₃ ((I, oI) :: (C, oC) :: (c, oc) :: (D, lst ys) :: nx) := fun p hp => by
        rcases List.mem_cons.mp hp with rfl | hp
        · exact ⟨heI, Ne.symm hIL, hI₀⟩
        · rcases List.mem_cons.mp hp with rfl | hp
          · exact ⟨heC, hCL, hC₀⟩
          · rcases List.mem_cons.mp hp with rfl | hp
            · exact ⟨hec, hcL, hc₀⟩
            · refine ⟨hs₃.extBut _ _ ?_ (N₂ p hp).1, (N₂ p hp).2⟩
              rcases List.mem_cons.mp hp with rfl | hp
              · exact hDc
              · exact (off' p hp).2.2.1
      refine wpAny_mono (turn i v ys nx oI C oC c oc D _ h₃ _ _ hlt hPv hJ' hoC hoc F₃ N₃ off' ⟨hIC, hIc, hID, hCc, Ne.symm hDC, Ne.symm hDc⟩) (fun y s₄ h₄ => ?_) fun _ _ e => e
      refine cps fun zzX zzk => ?_
      obtain ⟨h₄, tk₄, nx₄, rfl, F₄, N₄, off₄, hJ₄⟩ := h₄
      refine zzk ?_; clear zzk zzX
      have zI := (N₄ (I, oI) (.head _)).1
      have zC := (N₄ (C, oC) (.tail _ (.head _))).1
      have zc := (N₄ (c, oc) (.tail _ (.tail _ (.head _)))).1
      have zD := (N₄ (D, lst ys) (.tail _ (.tail _ (.tail _ (.head _))))).1
      have N₄' : News h₀ L h₄ nx₄ := fun p hp => N₄ p (.tail _ (.tail _ (.tail _ (.tail _ hp))))
      have hst₄ : St (i + 1) h₄ := hSt _ _ _ _ _ hst₃ heI zI F₄.keep N₄' (hJS _ _ _ hJ₄)
      refine append_at (hsz := by show ys.toArray.size ≤ sizeLine; rw [List.size_toArray, hJl _ _ _ hJ']; exact Nat.le_trans hi hsz) zD fun h₅ hs₅ hD₅ => ?_
      refine ⟨n + 1 - (i + 1), by omega, h₅, tk₄, i + 1, ys ++ [y], nx₄, _, rfl, hlt, rfl, W.frame _ _ _ hst₄ fun b hb o e => hs₅.extBut b o (hfD b hb).2.2 e, F₄.change hs₅ hDL hD₀,
        ⟨_, (hoC.ns zC).sameBut hs₅ (Ne.symm hDC)⟩, ⟨oc, hs₅.extBut _ _ (Ne.symm hDc) zc, hoc⟩, fun p hp => ?_, off₄, hJ₄⟩
      rcases List.mem_cons.mp hp with rfl | hp
      · exact ⟨hD₅.trans (congrArg some (lst_snoc ys y)), hDL, hD₀⟩
      · exact ⟨hs₅.extBut _ _ (off₄ p hp).2.2.2 (N₄' p hp).1, (N₄' p hp).2⟩
    · obtain rfl : i = n := Nat.le_antisymm hi (Nat.not_lt.mp hlt)
      refine W.done _ _ _ hst' fun h₂ tk₂ hk₂ => ?_
      obtain ⟨F₂, N₂⟩ := next h₂ hk₂
      exact hRR D C h₂ tk₂ _ ys nx F₂ N₂ (fun p hp => (off' p hp).2.2.2) (hn'.at' fun o e => hk₂ _ o (by simpa using Ne.symm hIC) e) hC₀ hCL hDL hD₀ (Ne.symm hDC) (fun p hp => (off' p hp).2.1) hJ'
  exact codeAny_compStart_list (loop _ rfl) (W.self 0 _ _ _ hst3 (loop _ rfl))
/-- a list comprehension over a list of the ledger, its variable a cell -/
theorem r_compCL {elt iter : PySem.Expr} {x : Str} {px : Pos} {scope : Scope} {cl : List (Str × Addr)} {pos : Pos} {l : Addr} {vs : List Value} {nn : Nat} {nx₀ : List (Addr × Obj)} {RR : Value → Addr → Result → Shared → Prop}
    (J : Nat → List Value → List (Addr × Obj) → Prop) (hh : A.handled = none) (hsz : vs.length ≤ sizeLine)
    (hl : ∀ i ys nx, J i ys nx → (l, ({ cls := .type "list", data := .seq vs.toArray nn } : Obj)) ∈ nx) (hJl : ∀ i ys nx, J i ys nx → ys.length = i)
    (hcf : ∀ k, cellsFrom k scope.names cl = (x, k) :: cl) (hpc : ∀ h, pushCells h scope.names = h.push { cls := .type "cell", data := .cell none }) (hkind : scope.kind = .function) (hx : (relabel scope env).names.lookup x = some .cell)
    (F : Fr h₀ L s.heap m) (N : News h₀ L s.heap nx₀) (hJ : J 0 [] nx₀)
    (turn : ∀ i v ys nx I oI C oC c oc D m₂ h tk (E' : Value → Shared → Prop) (g : Heap), vs[i]? = some v → J i ys nx → NsObj oC m₂ → oc.data = .cell (some v) → Fr h₀ L h m → News h₀ L h ((I, oI) :: (C, oC) :: (c, oc) :: (D, lst ys) :: nx) →
      (∀ p ∈ nx, (@Ne Nat p.1 I) ∧ (@Ne Nat p.1 C) ∧ (@Ne Nat p.1 c) ∧ (@Ne Nat p.1 D)) → ((@Ne Nat I C) ∧ (@Ne Nat I c) ∧ (@Ne Nat I D) ∧ (@Ne Nat C c) ∧ (@Ne Nat C D) ∧ (@Ne Nat c D)) →
      wpAny (model prog w) A (eval elt (compEnvC scope ((x, c) :: cl) C env)) (CEnd h₀ L m { s with heap := h, toks := tk } I oI C oC c oc D (lst ys) (fun y nx' => J (i + 1) (ys ++ [y]) nx')) E' { s with heap := h, toks := tk })
    (hRR : ∀ D C h tk m' ys nx, Fr h₀ L h m → News h₀ L h ((D, lst ys) :: nx) → (∀ p ∈ nx, p.1 ≠ D) → h.Ns C m' → h₀.get? C = none → C ≠ L → D ≠ L → h₀.get? D = none → C ≠ D → (∀ p ∈ nx, p.1 ≠ C) → J vs.length ys nx → RR (.ref D) C (.ok .next) { s with heap := h, toks := tk }) :
    wpAny (model prog w) A (pyIter (.ref l)) (fun it s₂ => wpAny (model prog w) A (newList []) (fun acc s₃ => wpAny (model prog w) A (newFunctionEnv scope env.globals cl [] env.qual none .none (some env)) (fun cenv s₄ =>
      codeAny (model prog w) A (.compStart (.ListComp elt [⟨.Name x px, iter, [], 0⟩] scope pos) 0 it acc { cenv with scope := relabel scope env }) (RR acc cenv.locals) s₄) E s₃) E s₂) E s := by
  have hls : s.heap.IsList l vs.toArray := N.isList (hl _ _ _ hJ)
  have hlt : l < s.heap.objs.size := Heap.lt_size (N _ (hl _ _ _ hJ)).1
  refine wpAny_pyIter_list hls ?_
  have W := Walks.list (prog := prog) (w := w) hh s.heap.objs.size l (Nat.ne_of_lt hlt) vs.toArray
  have push : ∀ b o, s.heap.get? b = some o → (s.heap.push { cls := .type "list_iterator", data := .fields #[.ref l, .int 0 0] }).get? b = some o := fun b o e => Heap.get?_push_of_some _ e
  refine blockC (S := fun nx => (l, ({ cls := .type "list", data := .seq vs.toArray nn } : Obj)) ∈ nx) J W (by simpa using hsz) (fun i h st => ?_) (fun i h h' o nw st e e' _ N' hS => ⟨?_, N'.isList hS⟩) hl hJl hcf hpc hkind hx
    ⟨⟨_, Heap.get?_push_size _ rfl, rfl, rfl⟩, hls.at fun o e => push _ o e⟩ (fun b hb => ?_) (F.keeps push) (N.grown push) (Nat.ne_of_lt F.ns.lt) (next_is_new F) (fun p hp => Nat.ne_of_lt (Heap.lt_size (N p hp).1)) hJ
    (fun i v ys nx oI C oC c oc D m₂ h tk E' hi hP => turn i v ys nx _ oI C oC c oc D m₂ h tk E' s.heap (by simpa using hP)) (fun D C h tk m' ys nx a b cc d e f g i j k hj => hRR D C h tk m' ys nx a b cc d e f g i j k (by simpa using hj))
  · obtain ⟨o, e, _⟩ := st.1
    exact ⟨o, e⟩
  · obtain ⟨o₁, e₁, r⟩ := st.1
    rw [e] at e₁
    cases e₁
    exact ⟨o, e', r⟩
  · show b < (s.heap.push _).objs.size
    rw [Heap.size_push]
    rcases List.mem_cons.mp hb with rfl | hb
    · exact Nat.lt_succ_self _
    · rw [List.mem_singleton.mp hb]; exact Nat.lt_succ_of_lt hlt
/-- a list comprehension over a range, its variable a cell -/
theorem r_compCR {elt iter : PySem.Expr} {x : Str} {px : Pos} {scope : Scope} {cl : List (Str × Addr)} {pos : Pos} {r : Addr} {a b : Int} {t u v : Tok} {n : Nat} {nx₀ : List (Addr × Obj)} {RR : Value → Addr → Result → Shared → Prop}
    (J : Nat → List Value → List (Addr × Obj) → Prop) (hh : A.handled = none) (hsz : n ≤ sizeLine)
    (hr : IsRange s.heap r a b 1 t u v) (hsm : Builtin.Range.small a b 1 = true) (hn : Builtin.Range.rangeSize a b 1 = ((n : Nat) : Int)) (hJl : ∀ i ys nx, J i ys nx → ys.length = i)
    (hcf : ∀ k, cellsFrom k scope.names cl = (x, k) :: cl) (hpc : ∀ h, pushCells h scope.names = h.push { cls := .type "cell", data := .cell none }) (hkind : scope.kind = .function) (hx : (relabel scope env).names.lookup x = some .cell)
    (F : Fr h₀ L s.heap m) (N : News h₀ L s.heap nx₀) (hJ : J 0 [] nx₀)
    (turn : ∀ i t ys nx I oI C oC c oc D m₂ h tk (E' : Value → Shared → Prop) (g : Heap), i < n → J i ys nx → NsObj oC m₂ → oc.data = .cell (some (.int (a + (i : Int)) t)) → Fr h₀ L h m → News h₀ L h ((I, oI) :: (C, oC) :: (c, oc) :: (D, lst ys) :: nx) →
      (∀ p ∈ nx, (@Ne Nat p.1 I) ∧ (@Ne Nat p.1 C) ∧ (@Ne Nat p.1 c) ∧ (@Ne Nat p.1 D)) → ((@Ne Nat I C) ∧ (@Ne Nat I c) ∧ (@Ne Nat I D) ∧ (@Ne Nat C c) ∧ (@Ne Nat C D) ∧ (@Ne Nat c D)) →
      wpAny (model prog w) A (eval elt (compEnvC scope ((x, c) :: cl) C env)) (CEnd h₀ L m { s with heap := h, toks := tk } I oI C oC c oc D (lst ys) (fun y nx' => J (i + 1) (ys ++ [y]) nx')) E' { s with heap := h, toks := tk })
    (hRR : ∀ D C h tk m' ys nx, Fr h₀ L h m → News h₀ L h ((D, lst ys) :: nx) → (∀ p ∈ nx, p.1 ≠ D) → h.Ns C m' → h₀.get? C = none → C ≠ L → D ≠ L → h₀.get? D = none → C ≠ D → (∀ p ∈ nx, p.1 ≠ C) → J n ys nx → RR (.ref D) C (.ok .next) { s with heap := h, toks := tk }) :
    wpAny (model prog w) A (pyIter (.ref r)) (fun it s₂ => wpAny (model prog w) A (newList []) (fun acc s₃ => wpAny (model prog w) A (newFunctionEnv scope env.globals cl [] env.qual none .none (some env)) (fun cenv s₄ =>
      codeAny (model prog w) A (.compStart (.ListComp elt [⟨.Name x px, iter, [], 0⟩] scope pos) 0 it acc { cenv with scope := relabel scope env }) (RR acc cenv.locals) s₄) E s₃) E s₂) E s := by
  refine wpAny_pyIter_range hr hsm ?_
  refine blockC (S := fun _ => True) J (range_walks hh a n) hsz (fun i h st => ⟨_, st⟩) (range_st (h₀ := h₀)) (fun _ _ _ _ => trivial) hJl hcf hpc hkind hx (by show IsRangeIter _ _ _ _ _; rw [hn]; simpa using Heap.get?_push_size _ rfl) (fun b hb => ?_)
    (F.keeps fun _ _ e => Heap.get?_push_of_some _ e) (N.grown fun _ _ e => Heap.get?_push_of_some _ e) (Nat.ne_of_lt F.ns.lt) (next_is_new F) (fun p hp => Nat.ne_of_lt (Heap.lt_size (N p hp).1)) hJ
    (fun i v ys nx oI C oC c oc D m₂ h tk E' hi hP hJ hC hoc => by obtain ⟨t, rfl⟩ := hP; exact turn i t ys nx _ oI C oC c oc D m₂ h tk E' s.heap hi hJ hC hoc) hRR
  rw [List.mem_singleton.mp hb]
  show s.heap.objs.size < (s.heap.push _).objs.size
  rw [Heap.size_push]; exact Nat.lt_succ_self _
/-- the comprehension as a value -/
theorem r_ListCompC {elt iter : PySem.Expr} {x : Str} {px : Pos} {scope : Scope} {cl : List (Str × Addr)} {pos : Pos} {Q : Value → Shared → Prop}
    (hclos : closureFor scope env = pure cl) (hkind : scope.kind = .function) (hnames : ∀ y ∈ scope.names, y.2 = .local → scope.names.lookup y.1 = some .local)
    (h : wpAny (model prog w) A (eval iter env) (fun xv s₁ => wpAny (model prog w) A (pyIter xv) (fun it s₂ => wpAny (model prog w) A (newList []) (fun acc s₃ => wpAny (model prog w) A (newFunctionEnv scope env.globals cl [] env.qual none .none (some env)) (fun cenv s₄ =>
      codeAny (model prog w) A (.compStart (.ListComp elt [⟨.Name x px, iter, [], 0⟩] scope pos) 0 it acc { cenv with scope := relabel scope env }) (compPost (model prog w) A E none Q acc cenv.locals) s₄) E s₃) E s₂) E s₁) E s)
    (hs : ∀ x, foldedSetIterable iter env x = pure x := by intro _; rfl) :
    wpAny (model prog w) A (eval (.ListComp elt [⟨.Name x px, iter, [], 0⟩] scope pos) env) Q E s := by
  rw [eval_ListComp]
  exact wpAny_comprehension_free (use := none) rfl hs hclos hkind hnames h
/-- its end, as a value -/
theorem compPostE {Q : Value → Shared → Prop} {D C : Addr} {h : Heap} {tk : Nat} {m' : Str → Option Value} {ys : List Value} {nx : List (Addr × Obj)} (F : Fr h₀ L h m) (N : News h₀ L h ((D, lst ys) :: nx)) (oD : ∀ p ∈ nx, p.1 ≠ D) (hn : h.Ns C m') (hC₀ : h₀.get? C = none) (hCL : C ≠ L) (hCD : C ≠ D) (hoC : ∀ p ∈ nx, p.1 ≠ C)
    (fin : ∀ h' tk', Fr h₀ L h' m → News h₀ L h' ((D, lst ys) :: nx) → Q (.ref D) { s with heap := h', toks := tk' }) : compPost (model prog w) A E none Q (.ref D) C (.ok .next) { s with heap := h, toks := tk } := by
  refine ⟨m', hn, fun h'' hs'' => fin h'' tk (F.change hs'' hCL hC₀) (fun p hp => ?_)⟩
  refine ⟨hs''.extBut _ _ ?_ (N p hp).1, (N p hp).2⟩
  rcases List.mem_cons.mp hp with rfl | hp
  · exact Ne.symm hCD
  · exact hoC p hp
end
end S_A10

section S_A11
section
variable {prog : Program} {w : World} {A : Around} {E : Value → Shared → Prop} {s : Shared} {h₀ : Heap} {L l : Addr} {news : List (Addr × Obj)} {nn : Nat} {d : Option Addr} {sl : Array (Option Value)}
theorem r_item_str {value slice : PySem.Expr} {k : Int} {u : Tok} {vs : List Value} {ds : List Nat} {Q : Value → Shared → Prop} (N : News h₀ L s.heap news) (hm : (l, ({ cls := .type "list", dict := d, data := .seq vs.toArray nn, slots := sl } : Obj)) ∈ news) (hi : Strs vs ds) (h0 : 0 ≤ k) (h1 : k < ds.length) (hfit : k < 2 ^ 63)
    (h : ∀ t, Q (.str (S1 (ds.getD k.toNat 0)) t) s)
    (hs : subscripted slice false (.ref l) (.int k u) = operate [.ref l, .int k u] (getItem (.ref l) (.int k u)) := by with_unfolding_all rfl) (hg : ∀ r, letTemporaryGo value (.ref l) r = pure () := by intro _; with_unfolding_all rfl) :
    wpAny (model prog w) A (subscriptTail value slice (.ref l) (.int k u)) Q E s := by
  have hk : k.toNat < vs.length := by rw [hi.length]; omega
  have e : vs[k.toNat]? = some vs[k.toNat] := List.getElem?_eq_getElem hk
  obtain ⟨x, t, ev, ed⟩ := hi.get e
  rw [ev] at e
  have e2 : ds.getD k.toNat 0 = x := by rw [List.getD_eq_getElem?_getD, ed]; rfl
  exact item_list (N.isList hm) h0 hfit (by simpa using e) (by rw [← e2]; exact h t) hs hg
end
noncomputable def bisP (ns : List Int) (x : Int) : Nat := (ns.filter fun n => decide (n ≤ x)).length
theorem bis_eq {ns : List Int} {x : Int} {r : Nat} (h : IsBis ns x r) : r = bisP ns x := by
  have h1 : (ns.take r).filter (fun n => decide (n ≤ x)) = ns.take r := by
    refine List.filter_eq_self.mpr fun n hn => ?_
    obtain ⟨i, hi⟩ := List.mem_iff_getElem?.mp hn
    rw [List.getElem?_take] at hi
    split at hi
    · rename_i hlt
      exact decide_eq_true ((h.2 i n hi).mp hlt)
    · cases hi
  have h2 : (ns.drop r).filter (fun n => decide (n ≤ x)) = [] := by
    refine List.filter_eq_nil_iff.mpr fun n hn => ?_
    obtain ⟨i, hi⟩ := List.mem_iff_getElem?.mp hn
    rw [List.getElem?_drop] at hi
    have := (h.2 (r + i) n hi)
    simp only [decide_eq_true_eq]
    intro hle
    have := this.mpr hle
    omega
  have e : ns.filter (fun n => decide (n ≤ x)) = ns.take r := by
    conv => lhs; rw [← List.take_append_drop r ns]
    rw [List.filter_append, h1, h2, List.append_nil]
  unfold bisP
  rw [e, List.length_take]
  have := h.1
  omega
end S_A11
set_option hygiene false in
local macro_rules | `(tactic| walk_at "subscriptTail") => `(tactic| ((with_reducible show H24); (refine' r_item_int (by k_asm) (by k_mem) (by assumption) (by omega) (by first | omega | (simp only [List.length_map]; omega)) (by omega) ?_); intro n' t' e'))
set_option hygiene false in
local macro_rules | `(tactic| walk_at "subscriptTail") => `(tactic| ((with_reducible show H24); (refine' r_item_str (by k_asm) (by k_mem) (by assumption) (by omega) (by omega) (by omega) ?_); intro t'))
section S_A12
theorem afresh18 : True := by w_top off; trivial
section
variable {prog : Program} {w : World} {A : Around} {E : Value → Shared → Prop} {s : Shared} {env : Env} {h₀ : Heap} {m : Str → Option Value} {news : List (Addr × Obj)} {Q : Flow → Shared → Prop}
/-- a for over a tuple of the ledger -/
theorem r_iterT {x : Str} {px : Pos} {body : List Stmt} {l : Addr} {vs : List Value} {nn : Nat} (J : Nat → (Str → Option Value) → List (Addr × Obj) → Prop)
    (hh : A.handled = none) (F : Fr h₀ env.locals s.heap m) (N : News h₀ env.locals s.heap news) (hj : J 0 m news) (hl : ∀ i m nx, J i m nx → (l, ({ cls := .type "tuple", data := .seq vs.toArray nn } : Obj)) ∈ nx)
    (turn : ∀ i v I oI m₁ nx h tk, vs[i]? = some v → J i m₁ nx → (∀ p ∈ nx, p.1 ≠ I) → Fr h₀ env.locals h m₁ → News h₀ env.locals h ((I, oI) :: nx) →
      wpAny (model prog w) A (assign (.Name x px) env v) (fun _ s₂ => wpAny (model prog w) A (execs body env) (MTurn h₀ env.locals I oI (J (i + 1)) { s with heap := h, toks := tk } Q) E s₂) E { s with heap := h, toks := tk })
    (done : ∀ m₁ nx h tk, J vs.length m₁ nx → Fr h₀ env.locals h m₁ → News h₀ env.locals h nx → Q .next { s with heap := h, toks := tk })
    (hE : PassesOwn (model prog w) A env E := by passes_own) :
    wpAny (model prog w) A (pyIter (.ref l)) (fun it s₂ => codeAny (model prog w) A (.forLoop (.Name x px) it body [] env) (fun r s' => match r with | .ok f => Q f s' | .error e => cameBackBy (model prog w) A env E e s') s₂) E s := by
  have hls : s.heap.IsTuple l vs.toArray := ⟨_, (N _ (hl _ _ _ hj)).1, rfl, _, rfl⟩
  have hlt : l < s.heap.objs.size := Heap.lt_size (N _ (hl _ _ _ hj)).1
  refine wpAny_pyIter_tuple hls ?_
  have W := Walks.tuple (prog := prog) (w := w) hh s.heap.objs.size l (Nat.ne_of_lt hlt) vs.toArray
  have push : ∀ b o, s.heap.get? b = some o → (s.heap.push { cls := .type "tuple_iterator", data := .fields #[.ref l, .int 0 0] }).get? b = some o := fun b o e => Heap.get?_push_of_some _ e
  refine r_walks (S := fun nx => (l, ({ cls := .type "tuple", data := .seq vs.toArray nn } : Obj)) ∈ nx) (R := fun r s' => match r with | .ok f => Q f s' | .error e => cameBackBy (model prog w) A env E e s') J W (fun i h st => ?_) (fun i h h' o nw st e e' _ N' hS => ⟨?_, ⟨_, (N' _ hS).1, rfl, _, rfl⟩⟩) (fun i m nx hJ => hl i m nx hJ) (Nat.ne_of_lt F.ns.lt) (next_is_new F)
    ⟨⟨_, Heap.get?_push_size _ rfl, rfl, rfl⟩, hls.push _⟩ (F.keeps push) (N.grown push) (fun p hp => Nat.ne_of_lt (Heap.lt_size (N p hp).1)) hj (fun _ _ x => x) (fun _ x => x) ?_ (fun m₁ nx h tk hJ => done m₁ nx h tk (by simpa using hJ)) (fun i v s Q E st q => wpAny_pure q)
  · obtain ⟨o, e, _⟩ := st.1
    exact ⟨o, e⟩
  · obtain ⟨o₁, e₁, r⟩ := st.1
    rw [e] at e₁
    cases e₁
    exact ⟨o, e', r⟩
  · intro i v oI m₁ nx h tk hi hP hJ off F₁ N₁
    have hv : vs[i]? = some v := by simpa using hP
    exact wpAny_passesOwn hE (wpAny_mono (turn i v _ oI m₁ nx h tk hv hJ off F₁ N₁) (fun _ s₂ h₂ => wpAny_passesOwn hE h₂) fun _ _ x => x)
end
end S_A12

section S_A13
section
variable {M : Model} {A : Around} {E : Value → Shared → Prop} {s : Shared} {K : Frag} {x C L f : Addr} {h₀ : Heap} {m : Str → Option Value} {ox : Obj} {od : Option Obj} {i : Value}
theorem r_delItem {Q : Unit → Shared → Prop} (F : Fr h₀ L s.heap m) (X₀ : K.In h₀) (I : InstAt s.heap x ox C od) (hq : noSeq K C = true) (hs : findIn K (.ref C) "__delitem__" = some (some (.ref f))) (hf : isFn K (.ref f) = true)
    (h : wpAny M A (call (.ref f) [.ref x, i]) (fun _ s' => Q () s') E s) : wpAny M A (delItem (.ref x) i) Q E s := by
  have X := X₀.keeps F.keep
  unfold delItem sequenceKey
  refine wpAny_holding (wpAny_bind (wpAny_bind (I.type.here ?_)))
  refine wpAny_bind ((anyM_none X hq).here ?_)
  rw [if_pos (show (!false) = true from rfl)]
  exact wpAny_pure (wpAny_bind (special_fn X I hs (beq_iff_eq.mp hf) (wpAny_mono h (fun _ _ z => wpAny_pure z) fun _ _ z => z)))
end
noncomputable def Opq (p : Prop) : Prop := p
theorem execs_two {M : Model} {A : Around} {E : Value → Shared → Prop} {s : Shared} {a b : Stmt} {r : List Stmt} {env : Env} {Q : Flow → Shared → Prop} (P : Shared → Prop)
    (h1 : wpAny M A (exec a env) (fun f s' => match f with | .next => wpAny M A (exec b env) (fun f s' => match f with | .next => P s' | f => Q f s') E s' | f => Q f s') E s)
    (h2 : ∀ s2, P s2 → wpAny M A (execs r env) Q E s2) : wpAny M A (execs (a :: b :: r) env) Q E s := by
  refine wpAny_execs_cons (wpAny_mono h1 (fun f s1 h => ?_) fun _ _ e => e)
  cases f with
  | next =>
    refine wpAny_execs_cons (wpAny_mono h (fun f s2 h => ?_) fun _ _ e => e)
    cases f with
    | next => exact h2 _ h
    | brk => exact h
    | cont => exact h
    | ret v => exact h
  | brk => exact h
  | cont => exact h
  | ret v => exact h
theorem del_noSeq (P : Params) : noSeq (hd.heap_39 P) 182 = true := by rfl
theorem del_find (P : Params) : findIn (hd.heap_39 P) (.ref 182) "__delitem__" = some (some (.ref 102)) := by rfl
theorem del_fn (P : Params) : isFn (hd.heap_39 P) (.ref 102) = true := by rfl
end S_A13

section S_A14
section
open LCg
variable {prog : Program} {w : World} {A : Around} {E : Value → Shared → Prop} {s : Shared} {h₀ : Heap} {L : Addr} {m : Str → Option Value} {env : Env}
/-- the comprehension whose variable is a cell, stored under a name at once -/
theorem r_AssignCompC {elt iter : PySem.Expr} {x y : Str} {px py : Pos} {scope : Scope} {cl : List (Str × Addr)} {pos spos : Pos} {Q : Flow → Shared → Prop}
    (hsw : swapsWith (.ListComp elt [⟨.Name x px, iter, [], 0⟩] scope pos) (some (.Name y py)) spos.line env = pure true)
    (hclos : closureFor scope env = pure cl) (hkind : scope.kind = .function) (hnames : ∀ z ∈ scope.names, z.2 = .local → scope.names.lookup z.1 = some .local)
    (h : wpAny (model prog w) A (eval iter env) (fun xv s₁ => wpAny (model prog w) A (pyIter xv) (fun it s₂ => wpAny (model prog w) A (newList []) (fun acc s₃ => wpAny (model prog w) A (newFunctionEnv scope env.globals cl [] env.qual none .none (some env)) (fun cenv s₄ =>
      codeAny (model prog w) A (.compStart (.ListComp elt [⟨.Name x px, iter, [], 0⟩] scope pos) 0 it acc { cenv with scope := relabel scope env }) (compPost (model prog w) A E (some (assign (.Name y py) env)) (fun _ s' => Q .next s') acc cenv.locals) s₄) E s₃) E s₂) E s₁) E s)
    (hs : ∀ x, foldedSetIterable iter env x = pure x := by intro _; rfl) :
    wpAny (model prog w) A (exec (.Assign [.Name y py] (.ListComp elt [⟨.Name x px, iter, [], 0⟩] scope pos) spos) env) Q E s := by
  rw [exec_Assign_Name_used _ _ _ _ hsw]
  refine wpAny_bind (wpAny_standAt (wpAny_bind ?_))
  show wpAny _ A (do let _ ← comprehension (.ListComp elt [⟨.Name x px, iter, [], 0⟩] scope pos) scope env _ (newList []) false (eval iter env) (some (assign (.Name y py) env))) _ _ s
  exact wpAny_bind (wpAny_mono (wpAny_comprehension_free (use := some (assign (.Name y py) env)) (Q := fun _ s' => Q .next s') rfl hs hclos hkind hnames h) (fun _ s' hq => wpAny_pure (wpAny_pure hq)) fun _ _ e => e)
theorem compPostA {Q : Shared → Prop} {y : Str} {py : Pos} {D C : Addr} {h : Heap} {tk : Nat} {m' : Str → Option Value} {ys : List Value} {nx : List (Addr × Obj)} (hy : env.kindOf y = some .local) (hp : (env.scope.kind == .class || (env.scope.kind == .module && env.locals != env.globals)) = false)
    (F : Fr h₀ env.locals h m) (N : News h₀ env.locals h ((D, lst ys) :: nx)) (hn : h.Ns C m') (hC₀ : h₀.get? C = none) (hCL : C ≠ env.locals) (hCD : C ≠ D) (hoC : ∀ p ∈ nx, p.1 ≠ C)
    (fin : ∀ h' tk', Fr h₀ env.locals h' (fun z => if z = y then some (.ref D) else m z) → News h₀ env.locals h' ((D, lst ys) :: nx) → Q { s with heap := h', toks := tk' }) :
    compPost (model prog w) A E (some (assign (.Name y py) env)) (fun _ s' => Q s') (.ref D) C (.ok .next) { s with heap := h, toks := tk } := by
  show wpAny _ A (assign (.Name y py) env (.ref D)) _ _ _
  refine wpAny_assign_Name (wpAny_storeName_local hy F.ns (fun h₂ hn₂ hs₂ => ?_) hp)
  have hL₀ : h₀.get? env.locals = none := Heap.get?_none_of_le F.above
  have F₂ : Fr h₀ env.locals h₂ (fun z => if z = y then some (.ref D) else m z) := ⟨hn₂, fun b o e => hs₂.extBut b o (fun q => by rw [q, hL₀] at e; cases e) (F.keep b o e), F.above⟩
  refine ⟨m', hn.sameBut hs₂ hCL, fun h'' hs'' => fin h'' _ (F₂.change hs'' hCL hC₀) (fun p hp => ?_)⟩
  have z : h₂.get? p.1 = some p.2 := hs₂.extBut _ _ (N p hp).2.1 (N p hp).1
  refine ⟨hs''.extBut _ _ ?_ z, (N p hp).2⟩
  rcases List.mem_cons.mp hp with rfl | hp
  · exact Ne.symm hCD
  · exact hoC p hp
end
end S_A14

section S_FL
/-- the floats' facts, case by case -/
noncomputable def okH (p u : Nat) : Bool :=
  let h := Float64.add (Float64.ofFrac false p 64) (Float64.ofInt (u : Int))
  Float64.isFinite (Float64.mul h f6) && (hsvI h).fmod 6 == ((6 * p / 64 : Nat) : Int) && hsvF h == Float64.ofFrac false (6 * p % 64) 64 && decide ((hsvI h).natAbs < 2 ^ 1023)
noncomputable def okQ (c : Nat) : Bool := (Float64.cmp (Float64.ofFrac false c 4) 0 == some .eq) == false
noncomputable def rgbP (p c b : Nat) : UInt64 × UInt64 × UInt64 := hsvR ((6 * p / 64 : Nat) : Int) (Float64.ofFrac false (6 * p % 64) 64) (Float64.ofFrac false c 4) (Float64.ofFrac false b 4)
noncomputable def okC (p c b : Nat) : Bool :=
  let q := rgbP p c b
  let r := q.1
  let g := q.2.1
  let bl := q.2.2
  let told := b * (8 - c)
  (Float64.cmp (fmin3 r g bl) (fmax3 r g bl) == some .eq) == false && !Float64.isZero (Float64.add (fmax3 r g bl) (fmin3 r g bl)) && !Float64.isZero (Float64.sub (Float64.sub f2 (fmax3 r g bl)) (fmin3 r g bl)) && !Float64.isZero (Float64.sub (fmax3 r g bl) (fmin3 r g bl)) &&
  hlH r g bl == Float64.ofFrac false p 64 && hlL r g bl == Float64.ofFrac false told 32 && hlS r g bl == Float64.ofFrac false (b * c) (min told (32 - told))
noncomputable def okE (p : Nat) : Bool :=
  [13, 26, 39, 52].all (fun (n : Nat) => (Float64.cmpInt (Float64.mul (Float64.ofInt 64) (Float64.ofFrac false p 64)) (n : Int) == some .lt) == decide (p < n)) && Float64.cmp (Float64.ofFrac false p 64) (Float64.ofFrac false p 64) == some .eq
noncomputable def okL2 (c b : Nat) : Bool :=
  let told := b * (8 - c)
  (Float64.cmp (Float64.ofFrac false told 32) f05 == some .gt) == decide (16 < told) && Float64.cmp (Float64.ofFrac false told 32) (Float64.ofFrac false told 32) == some .eq && Float64.cmp (Float64.ofFrac false (b * c) (min told (32 - told))) (Float64.ofFrac false (b * c) (min told (32 - told))) == some .eq
theorem okH_all : ((List.range 64).all fun p => (List.range 4).all fun u => okH p u) = true := by decide +kernel
theorem okQ_all : ((List.range 4).all fun c => okQ (c + 1)) = true := by decide +kernel
theorem okE_all : ((List.range 64).all fun p => okE p) = true := by decide +kernel
theorem okL2_all : ((List.range 4).all fun c => (List.range 4).all fun b => okL2 (c + 1) (b + 1)) = true := by decide +kernel
theorem of_all {P : Nat → Bool} {n i : Nat} (h : (List.range n).all P = true) (hi : i < n) : P i = true := List.all_eq_true.mp h i (List.mem_range.mpr hi)
end S_FL

section S_FL2
noncomputable def force (n : Nat) (f : Nat → Bool) : Bool := match n with | 0 => f 0 | k + 1 => f (k + 1)
theorem force_eq (n : Nat) (f : Nat → Bool) : force n f = f n := by cases n <;> rfl
noncomputable def frc (x : UInt64) (f : UInt64 → Bool) : Bool := force x.toNat fun n => f (UInt64.ofNat n)
theorem frc_eq (x : UInt64) (f : UInt64 → Bool) : frc x f = f x := by rw [frc, force_eq, UInt64.ofNat_toNat]
noncomputable def okD (p c b : Nat) : Bool :=
  let q := rgbP p c b
  frc q.1 fun r => frc q.2.1 fun g => frc q.2.2 fun bl => frc (fmax3 r g bl) fun mx => frc (fmin3 r g bl) fun mn => frc (Float64.sub mx mn) fun rg => frc (Float64.add mx mn) fun sm => frc (Float64.sub (Float64.sub f2 mx) mn) fun tm =>
  frc (Float64.div sm f2) fun l => frc (Float64.div (Float64.sub mx r) rg) fun rc => frc (Float64.div (Float64.sub mx g) rg) fun gc => frc (Float64.div (Float64.sub mx bl) rg) fun bc =>
  (Float64.cmp mn mx == some .eq) == false && !Float64.isZero sm && !Float64.isZero tm && !Float64.isZero rg &&
  (Float64.divmod (Float64.div (if (Float64.cmp r mx == some .eq) = true then Float64.sub bc gc else if (Float64.cmp g mx == some .eq) = true then Float64.sub (Float64.add f2 rc) bc else Float64.sub (Float64.add f4 gc) rc) f6) f1).2 == Float64.ofFrac false p 64 &&
  l == Float64.ofFrac false (b * (8 - c)) 32 && (if (Float64.cmp l f05 == some .lt || Float64.cmp l f05 == some .eq) = true then Float64.div rg sm else Float64.div rg tm) == Float64.ofFrac false (b * c) (min (b * (8 - c)) (32 - b * (8 - c)))
theorem okD_eq (p c b : Nat) : okD p c b = okC p c b := by
  unfold okD okC
  simp only [frc_eq]
  rfl

theorem okD_0 : ([0, 1, 2, 3].all fun p => [1,2,3,4].all fun c => [1,2,3,4].all fun b => okD p c b) = true := by decide +kernel
theorem okD_1 : ([4, 5, 6, 7].all fun p => [1,2,3,4].all fun c => [1,2,3,4].all fun b => okD p c b) = true := by decide +kernel
theorem okD_2 : ([8, 9, 10, 11].all fun p => [1,2,3,4].all fun c => [1,2,3,4].all fun b => okD p c b) = true := by decide +kernel
theorem okD_3 : ([12, 13, 14, 15].all fun p => [1,2,3,4].all fun c => [1,2,3,4].all fun b => okD p c b) = true := by decide +kernel
theorem okD_4 : ([16, 17, 18, 19].all fun p => [1,2,3,4].all fun c => [1,2,3,4].all fun b => okD p c b) = true := by decide +kernel
theorem okD_5 : ([20, 21, 22, 23].all fun p => [1,2,3,4].all fun c => [1,2,3,4].all fun b => okD p c b) = true := by decide +kernel
theorem okD_6 : ([24, 25, 26, 27].all fun p => [1,2,3,4].all fun c => [1,2,3,4].all fun b => okD p c b) = true := by decide +kernel
theorem okD_7 : ([28, 29, 30, 31].all fun p => [1,2,3,4].all fun c => [1,2,3,4].all fun b => okD p c b) = true := by decide +kernel
theorem okD_8 : ([32, 33, 34, 35].all fun p => [1,2,3,4].all fun c => [1,2,3,4].all fun b => okD p c b) = true := by decide +kernel
theorem okD_9 : ([36, 37, 38, 39].all fun p => [1,2,3,4].all fun c => [1,2,3,4].all fun b => okD p c b) = true := by decide +kernel
theorem okD_10 : ([40, 41, 42, 43].all fun p => [1,2,3,4].all fun c => [1,2,3,4].all fun b => okD p c b) = true := by decide +kernel
theorem okD_11 : ([44, 45, 46, 47].all fun p => [1,2,3,4].all fun c => [1,2,3,4].all fun b => okD p c b) = true := by decide +kernel
theorem okD_12 : ([48, 49, 50, 51].all fun p => [1,2,3,4].all fun c => [1,2,3,4].all fun b => okD p c b) = true := by decide +kernel
theorem okD_13 : ([52, 53, 54, 55].all fun p => [1,2,3,4].all fun c => [1,2,3,4].all fun b => okD p c b) = true := by decide +kernel
theorem okD_14 : ([56, 57, 58, 59].all fun p => [1,2,3,4].all fun c => [1,2,3,4].all fun b => okD p c b) = true := by decide +kernel
theorem okD_15 : ([60, 61, 62, 63].all fun p => [1,2,3,4].all fun c => [1,2,3,4].all fun b => okD p c b) = true := by decide +kernel
theorem okC_all {p c b : Nat} (hp : p < 64) (hc : c < 4) (hb : b < 4) : okC p (c + 1) (b + 1) = true := by
  rw [← okD_eq]
  have key : ∀ l : List Nat, p ∈ l → (l.all fun p => [1,2,3,4].all fun c => [1,2,3,4].all fun b => okD p c b) = true → okD p (c + 1) (b + 1) = true := fun l hm h =>
    List.all_eq_true.mp (List.all_eq_true.mp (List.all_eq_true.mp h p hm) (c + 1) (by match c, hc with | 0, _ => decide | 1, _ => decide | 2, _ => decide | 3, _ => decide)) (b + 1) (by match b, hb with | 0, _ => decide | 1, _ => decide | 2, _ => decide | 3, _ => decide)
  have hk : p / 4 < 16 := by omega
  have e : p = 4 * (p / 4) + p % 4 := by omega
  have hr : p % 4 < 4 := by omega
  generalize p / 4 = k at *
  generalize p % 4 = i at *
  have hm : p ∈ [4 * k, 4 * k + 1, 4 * k + 2, 4 * k + 3] := by simp only [List.mem_cons, List.not_mem_nil, or_false]; omega
  clear e hr
  rcases k with _ | _ | _ | _ | _ | _ | _ | _ | _ | _ | _ | _ | _ | _ | _ | _ | k
  · exact key _ hm okD_0
  · exact key _ hm okD_1
  · exact key _ hm okD_2
  · exact key _ hm okD_3
  · exact key _ hm okD_4
  · exact key _ hm okD_5
  · exact key _ hm okD_6
  · exact key _ hm okD_7
  · exact key _ hm okD_8
  · exact key _ hm okD_9
  · exact key _ hm okD_10
  · exact key _ hm okD_11
  · exact key _ hm okD_12
  · exact key _ hm okD_13
  · exact key _ hm okD_14
  · exact key _ hm okD_15
  · omega
end S_FL2

structure Keep (P : Prop) : Prop where
  out : P
set_option linter.defProp false
noncomputable def Dom11 {P1 Q : Prop} (_ : Keep P1 → Q) : Prop := P1
noncomputable def Dom21 {P1 P2 Q : Prop} (_ : Keep P1 → Keep P2 → Q) : Prop := P1
noncomputable def Dom22 {P1 P2 Q : Prop} (_ : Keep P1 → Keep P2 → Q) : Prop := P2
noncomputable def Dom41 {P1 P2 P3 P4 Q : Prop} (_ : Keep P1 → Keep P2 → Keep P3 → Keep P4 → Q) : Prop := P1
noncomputable def Dom42 {P1 P2 P3 P4 Q : Prop} (_ : Keep P1 → Keep P2 → Keep P3 → Keep P4 → Q) : Prop := P2
noncomputable def Dom43 {P1 P2 P3 P4 Q : Prop} (_ : Keep P1 → Keep P2 → Keep P3 → Keep P4 → Q) : Prop := P3
noncomputable def Dom44 {P1 P2 P3 P4 Q : Prop} (_ : Keep P1 → Keep P2 → Keep P3 → Keep P4 → Q) : Prop := P4
local macro_rules | `(tactic| walk_at "halt") => `(tactic| with_reducible first | show H17 | show H31 | show H19 | show H20 | show H21 | show H18)
section G_1
local macro_rules | `(tactic| walk_at "halt") => `(tactic| with_reducible show H36)
section S_E1
theorem afresh19 : True := by w_top off; trivial
/-- keeps a proof from being put into its place (the term stays small) -/
theorem hold {p : Prop} (h : p) : p := h
local macro_rules | `(tactic| k_qdec) => `(tactic| decide +kernel)
noncomputable def S_law := fun (hStop1 : Keep (_ : Prop)) => (show PySem.Challenge.rw_pm0060_01.Holds from hd (by
  k_go0
  all_goals try k_fold
  walk_at "go"
  refine r_for ?_
  walk_at "go"
  refine r_iter0 rfl (by k_asm) (by k_asm) (by k_mem) ?_
  intro h9 tk9 F9 N9
  walk_at "go"
  refine r_for ?_
  walk_at "go"
  rename_i h₁ tk₁ c1 c2 c3 c4 dc1 dc2 dc3 dc4 X0 qk1 ek1 P0 h60 lP N0a h63 lN x0 d0 h66 F66 N66 l66 l67 g7 L7 h7 B7 X7 T7 lf1 lf2 lf3 tkA H0 h8 lH h9a tkB h10 F10 N10 tkC Gc kX D0 h88 lD h91 h92 o1 do1 h95 o2 do2 h98 o3 F0 N0 do3
  clear B7 X7 T7 F10 N10 F9 N9 F66 N66 X0 lf1 lf2 lf3 lifted
  rename IntsAre _ _ => hI
  rename Heap.IsList _ _ _ => hZ
  refine kmk_slice_lit F0 N0 (hZ.at fun o e => F0.keep _ _ e) .none (.int 8 _) (congrArg Array.toList (slicePick_upto' _ 8)) ?_ (by with_unfolding_all rfl) (fun _ => rfl) (by rw [sizeLine_eq, List.size_toArray]; have := hI.length; omega)
  clear F0 N0
  intro D1 h1 F1 N1 l1
  walk_at "go"
  rename Fr _ _ _ _ => F2
  rename News _ _ _ _ => N2
  refine kba_turn (value' := PySem.Expr.Name (PySem.Str.ofString "_") ⟨0, 0, 0, 0⟩) (fun _ => rfl) ?_
  refine kmk_slice_lit F2 N2 (N2.isList (.head _)) (.int _ _) .none (congrArg Array.toList (slicePick_from' _ _)) ?_ (by with_unfolding_all rfl) (fun _ => rfl) (by rw [sizeLine_eq]; exact (by decide : (8 : Nat) ≤ 16777216))
  clear F2 N2
  intro D3 h3 F3 N3 l3
  walk_at "go"
  revert l3 N3 F3 h3 D3; rename_i zzM; revert zzM; rename_i zzM; revert zzM; rename_i zzM; revert zzM
  revert l1 h1 D1 tk do3 o3 h98 do2 o2 h95 do1 o1 h92 h91 lD h88 D0 kX Gc tk9 h9 tkC h10 tkB h9a lH h8 H0 tkA; clear ek; clear qk
  revert h7 L7 g7 l67 l66 h66 d0 x0 lN h63 N0a lP h60 P0 ek1 qk1 dc4 dc3 dc2 dc1 c4 c3 c2 c1 tk₁ h₁; rename_i zzM; revert zzM; rename_i zzM; revert zzM; rename_i zzM; revert zzM; rename_i zzM; revert zzM
  rename_i zzM; revert zzM; revert hI; rename_i zzM; revert zzM; rename_i zzM; revert zzM; rename_i zzM; revert zzM; revert hZ; rename_i zzM; revert zzM; rename_i zzM; revert zzM; rename_i zzM; revert zzM
  rename_i zzM; revert zzM; rename_i zzM; revert zzM; rename_i zzM; revert zzM; rename_i zzM; revert zzM; rename_i zzM; revert zzM; rename_i zzM; revert zzM; rename_i zzM; revert zzM; rename_i zzM
  revert zzM; rename_i zzM; revert zzM; rename_i zzM; revert zzM; rename_i zzM; revert zzM; rename_i zzM; revert zzM; rename_i zzM; revert zzM; rename_i zzM; revert zzM; rename_i zzM; revert zzM
  rename_i zzM; revert zzM; rename_i zzM; revert zzM; rename_i zzM; revert zzM; rename_i zzM; revert zzM; rename_i zzM; revert zzM; rename_i zzM; revert zzM; rename_i zzM; revert zzM; rename_i zzM
  revert zzM; rename_i zzM; revert zzM; rename_i zzM; revert zzM; rename_i zzM; revert zzM; rename_i zzM; revert zzM; rename_i zzM; revert zzM; rename_i zzM; revert zzM; rename_i zzM; revert zzM
  rename_i zzM; revert zzM; rename_i zzM; revert zzM; rename_i zzM; revert zzM; rename_i zzM; revert zzM; rename_i zzM; revert zzM
  exact hStop1.out))
end S_E1
end G_1
section G_2
local macro_rules | `(tactic| walk_at "halt") => `(tactic| with_reducible first | show H28 | show H37 | show H38 | show H39)
section R_2_0
local macro_rules | `(tactic| walk_at "halt") => `(tactic| with_reducible show H40)
section S_E2
theorem afresh20 : True := by w_top off; trivial
section
variable {prog : Program} {w : World} {A : Around} {E : Value → Shared → Prop} {s : Shared}
theorem fit_small {a : Int} (h0 : 0 ≤ a) (h1 : a < 1000000) : a.natAbs < 2 ^ 1023 := by
  have h : a.natAbs < 2 ^ 20 := by omega
  exact Nat.lt_of_lt_of_le h (Nat.pow_le_pow_right (by decide) (by decide))
theorem r_div {a b : Nat} {t u : Tok} {Q : Value → Shared → Prop} (hh : A.handled = none) (ha : a < 1000000) (hb : 0 < b) (h : Q (.float (Float64.ofFrac false a b) s.toks) { s with toks := s.toks + 1 }) :
    wpAny (model prog w) A (binaryOp .Div (.int (a : Int) t) (.int (b : Int) u)) Q E s := by
  refine Flt.div_ii_fits hh (fit_small (by omega) (by omega)) (fun hb0 => by omega) fun _ _ => ?_
  have e1 : decide ((a : Int) < 0) = false := decide_eq_false (by omega)
  have e2 : decide ((b : Int) < 0) = false := decide_eq_false (by omega)
  rw [e1, e2]
  exact h
end
/-- the place, the parts and the name of an item -/
noncomputable def plP (x : Int) : Nat := (x.fmod 64).toNat
noncomputable def cP (x : Int) : Nat := 1 + ((x.fdiv 64).fmod 4).toNat
noncomputable def bP (x : Int) : Nat := 1 + ((x.fdiv 256).fmod 4).toNat
noncomputable def uP (x : Int) : Nat := ((x.fdiv 1024).fmod 4).toNat
noncomputable def toldP (x : Int) : Nat := bP x * (8 - cP x)
noncomputable def nmP (x : Int) : Nat := (if 16 < toldP x then 65 else 97) + plP x / 13
theorem pl_eq (x : Int) : x.fmod 64 = (plP x : Int) ∧ plP x < 64 := by
  have h1 := Int.fmod_nonneg_of_pos x (show (0 : Int) < 64 by decide)
  have h2 := Int.fmod_lt_of_pos x (show (0 : Int) < 64 by decide)
  unfold plP
  omega
theorem four_eq (x : Int) : x.fmod 4 = ((x.fmod 4).toNat : Int) ∧ (x.fmod 4).toNat < 4 := by
  have h1 := Int.fmod_nonneg_of_pos x (show (0 : Int) < 4 by decide)
  have h2 := Int.fmod_lt_of_pos x (show (0 : Int) < 4 by decide)
  omega
theorem c_eq (x : Int) : 1 + (x.fdiv 64).fmod 4 = (cP x : Int) ∧ ∃ k, k < 4 ∧ cP x = k + 1 := by
  have h := four_eq (x.fdiv 64)
  unfold cP
  exact ⟨by omega, _, h.2, by omega⟩
theorem b_eq (x : Int) : 1 + (x.fdiv 256).fmod 4 = (bP x : Int) ∧ ∃ k, k < 4 ∧ bP x = k + 1 := by
  have h := four_eq (x.fdiv 256)
  unfold bP
  exact ⟨by omega, _, h.2, by omega⟩
theorem u_eq (x : Int) : (x.fdiv 1024).fmod 4 = (uP x : Int) ∧ uP x < 4 := four_eq (x.fdiv 1024)
noncomputable def stP (xs : List Int) (i : Nat) : List (Nat × Nat) := (List.range i).map fun j => (nmP (xs.getD j 0), 48 + j)
theorem intsTake {vs : List Value} {ns : List Int} (h : IntsAre vs ns) : ∀ k, IntsAre (vs.take k) (ns.take k) := by
  induction h with
  | nil => intro k; simpa using IntsAre.nil
  | cons n t h ih =>
    intro k
    cases k with
    | zero => exact .nil
    | succ k => exact .cons n t (ih k)
theorem intsDrop {vs : List Value} {ns : List Int} (h : IntsAre vs ns) : ∀ k, IntsAre (vs.drop k) (ns.drop k) := by
  induction h with
  | nil => intro k; simpa using IntsAre.nil
  | cons n t h ih =>
    intro k
    cases k with
    | zero => exact .cons n t h
    | succ k => exact ih k
local macro_rules | `(tactic| walk_at "none here") => `(tactic| fail)
noncomputable def S_E1_g1 := fun (hStop1 : Keep (_ : Prop)) (hStop2 : Keep (_ : Prop)) => (show Dom11 S_law from by
  delta Dom11
  intros _ _ _ _ _ _ _ _ _ _ _ _ _ _ _ _ _ _ _ _ _ _ _ _ _ _ _ _ _ _ _ _ _ _ _ _ _ _ hZ _ _ _ hI _ _ _ _ _ h₁ tk₁ c1 c2 c3 c4 dc1 dc2 dc3 dc4 qk1 ek1 P0 h60 lP N0a h63 lN x0 d0 h66 l66 l67 g7 L7 h7 tkA
  intros H0 h8 lH h9a tkB h10 tkC h9 tk9 Gc kX D0 h88 lD h91 h92 o1 do1 h95 o2 do2 h98 o3 do3 tk D1 h1 l1 _ _ _ D3 h3 F3 N3 l3
  w_top off
  rename_i w s₀ s₁ mg mb G Y fa o pm doc ho hg KX X V GL T B TE TW w1 w2 M w3 w4 hcd is hs hlay0 hL hr hl2 w5 w6 sc sv w8 ra w1' r0 hr2 hsl hcond' K0 hD DL hDL lDL
  refine cps fun zzX zzk => ?_
  obtain ⟨xs, zs, hzi, hz8, hze⟩ : ∃ (xs : List Int) (zs : List Value), IntsAre zs xs ∧ xs.length = 8 ∧ zs = (List.take 8 sv.toArray.toList).toArray.toList ++ (List.drop is.length [Value.int 960 (tk + 1), Value.int 1805 (tk + 1 + 1), Value.int 2523 (tk + 1 + 1 + 1), Value.int 621 (tk + 1 + 1 + 1 + 1), Value.int 3220 (tk + 1 + 1 + 1 + 1 + 1), Value.int 892 (tk + 1 + 1 + 1 + 1 + 1 + 1), Value.int 1543 (tk + 1 + 1 + 1 + 1 + 1 + 1 + 1), Value.int 2982 (tk + 1 + 1 + 1 + 1 + 1 + 1 + 1 + 1)]) := by
    refine ⟨is.take 8 ++ ([960, 1805, 2523, 621, 3220, 892, 1543, 2982] : List Int).drop is.length, _, ?_, ?_, rfl⟩
    · exact (intsTake hI 8).append (intsDrop (.cons _ _ (.cons _ _ (.cons _ _ (.cons _ _ (.cons _ _ (.cons _ _ (.cons _ _ (.cons _ _ .nil)))))))) _)
    · rw [List.length_append, List.length_take, List.length_drop]
      show min 8 is.length + (8 - is.length) = 8
      omega
  refine zzk ?_; clear zzk zzX
  refine kmk_add_lit (zs := zs) F3 N3 (N3.isList (.tail _ (.tail _ (.head _)))) (N3.isList (.head _)) hze.symm ?_ ?_
  rotate_left
  · have h1 := hzi.length
    rw [hze] at h1
    rw [sizeLine_eq]
    simp only [List.length_append] at h1
    simp only [List.size_toArray, List.length_append]
    show _ ≤ 16777216
    omega
  intro DZ h4 F4 N4 l4
  clear F3 N3
  walk_at "go"
  have N5 := kst_newsOf (l' := (H0, liO [] 0) :: (P0, liO [] 0) :: (N0a, liO [] 0) :: (DZ, liO zs 0) :: (x0, instObj 182 d0) :: (d0, diO (PyData.keyHash w.params (Str.ofString "_headers")) (tkB + 1) H0 1) :: (s₁.heap.objs.size + 1 + 1 + 1 + 1, c1) :: (s₁.heap.objs.size + 1 + 1 + 1, o3) :: (s₁.heap.objs.size + 1 + 1, o2) :: (s₁.heap.objs.size + 1, o1) :: []) N4 (by walk_at "sub")
  clear N4
  refine r_iterL (vs := zs) (nn := 0) (fun i m nx => ∃ hv hn pv pn nv nn rest, nx = (H0, liO hv hn) :: (P0, liO pv pn) :: (N0a, liO nv nn) :: (DZ, liO zs 0) :: (x0, instObj 182 d0) :: (d0, diO (PyData.keyHash w.params (Str.ofString "_headers")) (tkB + 1) H0 1) :: (s₁.heap.objs.size + 1 + 1 + 1 + 1, c1) :: (s₁.heap.objs.size + 1 + 1 + 1, o3) :: (s₁.heap.objs.size + 1 + 1, o2) :: (s₁.heap.objs.size + 1, o1) :: rest ∧
    (∀ q ∈ rest, q.1 ≠ H0) ∧ (∀ q ∈ rest, q.1 ≠ P0) ∧ (∀ q ∈ rest, q.1 ≠ N0a) ∧ Tups rest hv (stP xs i) ∧ IntsAre pv ((List.range i).map fun j => ((plP (xs.getD j 0) / 13 : Nat) : Int)) ∧ Strs nv ((List.range i).map fun j => nmP (xs.getD j 0))) rfl F4 N5 ?_ ?_ ?_ ?_
  · exact ⟨[], 0, [], 0, [], 0, [], rfl, (fun _ h => nomatch h), (fun _ h => nomatch h), (fun _ h => nomatch h), .nil, .nil, .nil⟩
  · rintro i m nx ⟨_, _, _, _, _, _, _, rfl, _⟩
    exact .tail _ (.tail _ (.tail _ (.head _)))
  · clear F4 N5
    intro i v I oI m₁ nx h tk9 hv zzh; refine cps fun zzX zzk => ?_
    obtain ⟨hv', hn, pv, pn, nv, nn, rest, rfl, ho1, ho2, ho3, hht, hpi, hns⟩ := zzh
    refine zzk ?_; clear zzk zzX
    intro hIo F1 N1
    generalize hQTx : MTurn _ _ _ _ _ _ _ = QTx
    revert hQTx QTx; refine hold ?_; intro QTx hQTx
    try dsimp only
    refine cps fun zzX zzk => ?_
    obtain ⟨x, tx, rfl, hxi⟩ : ∃ x tx, v = Value.int x tx ∧ xs[i]? = some x := by
      have hlt : i < xs.length := by
        rw [← hzi.length]
        exact (List.getElem?_eq_some_iff.mp hv).1
      have e := List.getElem?_eq_getElem hlt
      obtain ⟨t, e2⟩ := hzi.get i _ e
      rw [hv] at e2
      cases e2
      exact ⟨_, _, rfl, e⟩
    refine zzk ?_; clear zzk zzX
    walk_at "go"
    obtain ⟨hp, hp64⟩ := pl_eq x
    obtain ⟨hc, kc, hkc, hce⟩ := c_eq x
    obtain ⟨hb, kb, hkb, hbe⟩ := b_eq x
    obtain ⟨hu, hu4⟩ := u_eq x
    rename Fr _ _ _ _ => F2
    rename News _ _ _ _ => N2
    have N3 := kst_newsOf (l' := (I, oI) :: (H0, liO hv' hn) :: (P0, liO pv pn) :: (N0a, liO nv nn) :: (DZ, liO zs 0) :: (x0, instObj 182 d0) :: (d0, diO (PyData.keyHash w.params (Str.ofString "_headers")) (tkB + 1) H0 1) :: (s₁.heap.objs.size + 1 + 1 + 1 + 1, c1) :: (s₁.heap.objs.size + 1 + 1 + 1, o3) :: (s₁.heap.objs.size + 1 + 1, o2) :: (s₁.heap.objs.size + 1, o1) :: rest) N2 (fun q hq => .tail _ hq)
    clear N2
    rw [hp, hc, hb] at F2
    rw [hp]
    refine r_div (b := 64) rfl (by omega) (by decide) ?_
    walk_at "go"
    rw [hu]
    refine r_div (b := 4) rfl (by omega) (by decide) ?_
    walk_at "go"
    refine r_div (b := 4) rfl (by omega) (by decide) ?_
    walk_at "go"
    have q1 := of_all (of_all okH_all hp64) hu4
    have q2 := of_all okQ_all hkc
    have q3 := okC_all hp64 hkc hkb
    have q4 := of_all okE_all hp64
    have q5 := of_all (of_all okL2_all hkc) hkb
    rw [← hce] at q2 q3 q5
    rw [← hbe] at q3 q5
    simp only [okH, Bool.and_eq_true, beq_iff_eq, decide_eq_true_eq] at q1
    obtain ⟨⟨⟨q11, q12⟩, q13⟩, q14⟩ := q1
    refine c_hsv (by assumption) (by assumption) (by assumption) (by assumption) (by assumption) rfl (by ktr_room) ?_ q11 q14 ?_
    · simpa [okQ] using q2
    intro br t21 t22 t23 h5 tk5 F5 N5 l5
    rw [q12, q13] at N5
    walk_at "go"
    revert tk; rename_i zzM; revert zzM; rename_i zzM; revert zzM; rename_i zzM; revert zzM; rename_i zzM; clear zzM; rename_i zzM; clear zzM; rename_i zzM; clear zzM; clear l5; clear tk5; clear h5
    revert t23 t22 t21 br; clear q12; clear q11; clear q13; clear q14; revert q5 q4 q3; clear q2; rename_i zzM; clear zzM; clear hu4; clear hu; revert hbe hkb kb hb hce hkc kc; clear hc; revert hp64
    clear hp; clear tk; rename_i zzM; clear zzM; rename_i zzM; clear zzM; rename_i zzM; clear zzM; rename_i zzM; clear zzM; rename_i zzM; clear zzM; rename_i zzM; clear zzM; rename_i zzM; revert zzM
    revert tk; rename_i zzM; clear zzM; clear hv; revert hxi tx x hQTx QTx; clear N1; clear F1; revert hIo hns hpi hht ho3 ho2 ho1 rest nn nv pn pv hn hv' tk9 h m₁ oI I i l4 h4 DZ; clear hze; revert hz8
    clear hzi; revert zs xs; clear l3; revert h3 D3; clear lDL; revert hDL DL; clear l1; clear h1; revert D1 tk do3 o3; clear h98; revert do2 o2; clear h95; revert do1 o1; clear h92; clear h91; clear lD
    clear h88; revert D0 kX Gc; clear tk9; clear h9; clear tkC; clear h10; revert tkB; clear h9a; revert lH; clear h8; revert H0; clear tkA; revert h7; clear L7; revert g7 l67 l66; clear h66
    revert d0 x0 lN; clear h63; revert N0a lP; clear h60; revert P0 ek1 qk1; clear dc4; clear dc3; clear dc2; clear dc1; clear c4; clear c3; clear c2; revert c1; clear tk₁; clear h₁; clear hD; revert K0
    clear hcond'; clear hsl; revert hr2; clear hI; clear r0; clear w1'; revert ra hZ w8 sv sc w6; clear w5; clear hl2; revert hr hL; clear hlay0; clear hs; revert is; clear hcd; clear w4; revert w3 M w2 w1
    clear TW; clear TE; clear B; revert T GL; clear V; clear X; revert KX; clear hg; clear ho; clear doc; clear pm; revert o fa; clear Y; clear G; revert mb mg s₁ s₀ w
    exact hStop1.out
  · clear F4 N5
    intro m₁ nx h tk9 zzh; refine cps fun zzX zzk => ?_
    obtain ⟨hv', hn, pv, pn, nv, nn, rest, rfl, ho1, ho2, ho3, hht, hpi, hns⟩ := zzh
    refine zzk ?_; clear zzk zzX
    intro F1 N1
    rw [show zs.length = 8 from hzi.length.trans hz8] at hht hpi hns
    revert N1 F1 hns hpi hht ho3 ho2 ho1 rest nn nv pn pv hn hv' tk9 h m₁ l4 h4 DZ hze hz8 hzi zs xs l3 h3 D3 lDL hDL DL l1 h1 D1 tk do3 o3 h98 do2 o2 h95 do1 o1 h92 h91 lD h88 D0 kX Gc
    revert tk9 h9 tkC h10 tkB h9a lH h8 H0 tkA h7 L7 g7 l67 l66 h66 d0 x0 lN h63 N0a lP h60 P0 ek1 qk1 dc4 dc3 dc2 dc1 c4 c3 c2 c1 tk₁ h₁ hD K0 hcond' hsl hr2 hI r0 w1' ra hZ w8 sv sc w6 w5 hl2 hr hL hlay0 hs is hcd w4 w3 M w2 w1 TW TE B T GL V X KX hg ho doc pm o fa Y G mb mg s₁ s₀ w
    exact hStop2.out)
end S_E2
section S_E3
theorem afresh21 : True := by w_top off; trivial
noncomputable def S_E2_g1 := fun (hStop1 : Keep (_ : Prop)) => (show Dom21 S_E1_g1 from by
  delta Dom21
  intros w s₀ s₁ mg mb fa o KX GL T w1 w2 M w3 is hL hr w6 sc sv w8 hZ ra hr2 K0 c1 qk1 ek1 P0 lP N0a lN x0 d0 l66 l67 g7 h7 H0 lH tkB Gc kX D0 o1 do1 o2 do2 o3 do3 tk D1 DL hDL D3 h3 xs zs hz8 DZ h4 l4
  intros i I oI m₁ h tk9 hv' hn pv pn nv nn rest ho1 ho2 ho3 hht hpi hns hIo QTx hQTx x tx hxi tk _ hp64 kc hkc hce hb kb hkb hbe q3 q4 q5 br t21 t22 t23 _ _ _ tk
  w_top off
  rename Fr _ _ _ _ => F6
  rename News _ _ _ _ => N6
  have N7 := kst_newsOf (l' := (br, tr3 (rgbP (plP x) (cP x) (bP x)).1 (rgbP (plP x) (cP x) (bP x)).2.1 (rgbP (plP x) (cP x) (bP x)).2.2 t21 t22 t23) :: (I, oI) :: (H0, liO hv' hn) :: (P0, liO pv pn) :: (N0a, liO nv nn) :: (DZ, liO zs 0) :: (x0, instObj 182 d0) :: (d0, diO (PyData.keyHash w.params (Str.ofString "_headers")) (tkB + 1) H0 1) :: (s₁.heap.objs.size + 1 + 1 + 1 + 1, c1) :: (s₁.heap.objs.size + 1 + 1 + 1, o3) :: (s₁.heap.objs.size + 1 + 1, o2) :: (s₁.heap.objs.size + 1, o1) :: rest) N6 (fun q hq => hq)
  clear N6
  simp only [okC, Bool.and_eq_true, beq_iff_eq, Bool.not_eq_true'] at q3
  refine cps fun zzX zzk => ?_
  obtain ⟨⟨⟨⟨⟨⟨g1, g2⟩, g3⟩, g4⟩, g5⟩, g6⟩, g7⟩ := q3
  refine zzk ?_; clear zzk zzX
  refine c_hls (by assumption) F6 (by assumption) N7 (by assumption) rfl (by ktr_room) g1 (ne_true_of_eq_false g2) (ne_true_of_eq_false g3) (ne_true_of_eq_false g4) ?_
  intro b3 t31 t32 t33 h7 tk7 F8 N8 l8 ht3
  change News _ _ _ ((b3, tr3 (hlH (rgbP (plP x) (cP x) (bP x)).1 (rgbP (plP x) (cP x) (bP x)).2.1 (rgbP (plP x) (cP x) (bP x)).2.2) (hlL (rgbP (plP x) (cP x) (bP x)).1 (rgbP (plP x) (cP x) (bP x)).2.1 (rgbP (plP x) (cP x) (bP x)).2.2) (hlS (rgbP (plP x) (cP x) (bP x)).1 (rgbP (plP x) (cP x) (bP x)).2.1 (rgbP (plP x) (cP x) (bP x)).2.2) t31 t32 t33) :: _) at N8
  rw [g5, g6, g7] at N8
  walk_at "go"
  have htold : (bP x : Int) * (8 - (cP x : Int)) = (toldP x : Int) := by
    unfold toldP
    rw [hce, hbe]
    rw [Int.natCast_mul, Int.natCast_sub (by omega)]
    rfl
  have htl : 4 ≤ toldP x ∧ toldP x ≤ 28 := by
    unfold toldP
    rw [hce, hbe]
    rcases kc with _ | _ | _ | _ | kc <;> rcases kb with _ | _ | _ | _ | kb <;> first | decide | omega
  have hbc : (bP x : Int) * (cP x : Int) = ((bP x * cP x : Nat) : Int) := (Int.natCast_mul _ _).symm
  have hbcl : bP x * cP x ≤ 16 := Nat.mul_le_mul (show bP x ≤ 4 by omega) (show cP x ≤ 4 by omega)
  rename Fr _ _ _ _ => F9
  rw [htold] at F9
  refine r_div (b := 64) rfl (by omega) (by decide) ?_
  walk_at "go"
  refine r_div (b := 32) rfl (by omega) (by decide) ?_
  walk_at "go"
  have hmin : (if 32 - (toldP x : Int) < (toldP x : Int) then 32 - (toldP x : Int) else (toldP x : Int)) = ((min (toldP x) (32 - toldP x) : Nat) : Int) := by
    split <;> omega
  have hif : ∀ (c : Prop) [Decidable c] (a b : Int) (t u : Tok), (if c then Value.int a t else Value.int b u) = Value.int (if c then a else b) (if c then t else u) := fun c _ a b t u => by split <;> rfl
  rw [hif, hmin, hbc]
  refine r_div rfl (by omega) (by omega) ?_
  walk_at "go"
  rename_i zzM; clear zzM; rename_i zzM; revert zzM; rename_i zzM; revert zzM; rename_i zzM; revert zzM; rename_i zzM; revert zzM; clear hif; clear hmin; revert h'; clear hbcl; clear hbc; clear htl
  clear htold; rename_i zzM; clear zzM; rename_i zzM; clear zzM; rename_i zzM; revert zzM; rename_i zzM; clear zzM; revert tk; rename_i zzM; revert zzM; rename_i zzM; clear zzM; rename_i zzM; clear zzM
  rename_i zzM; clear zzM; revert ht3; clear l8; clear tk7; clear h7; revert t33 t32 t31 b3; clear g2; clear g1; clear g3; clear g4; clear g5; clear g6; clear g7; clear tk; rename_i zzM; clear zzM
  revert t23 t22 t21 br q5 q4; clear hbe; clear hkb; revert kb; clear hb; clear hce; clear hkc; revert kc hp64; rename_i zzM; revert zzM
  revert tk hxi tx x hQTx QTx hIo hns hpi hht ho3 ho2 ho1 rest nn nv pn pv hn hv' tk9 h m₁ oI I i l4 h4 DZ hz8 zs xs h3 D3 hDL DL D1; revert tk do3 o3 do2 o2 do1 o1 D0 kX Gc tkB lH H0; clear h7; clear g7
  revert l67 l66 d0 x0 lN N0a lP P0 ek1 qk1 c1 K0 hr2 ra hZ w8 sv sc w6 hr; clear hL; revert is w3 M w2 w1 T GL KX o fa mb mg s₁ s₀ w
  exact hStop1.out)
end S_E3
end R_2_0
section R_2_1
local macro_rules | `(tactic| walk_at "halt") => `(tactic| with_reducible first | show H41 | show H42)
section S_E4
theorem afresh22 : True := by w_top off; trivial
theorem bis13 {p r : Nat} (hp : p < 64) (h : IsBis [13, 26, 39, 52] (p : Int) r) : r = p / 13 := by
  have h0 := h.1
  have h1 := h.2 0 13 rfl
  have h2 := h.2 1 26 rfl
  have h3 := h.2 2 39 rfl
  have h4 := h.2 3 52 rfl
  simp only [List.length_cons, List.length_nil] at h0
  omega
theorem sorted13 : Sorted [13, 26, 39, 52] := by
  intro i j a b hij ha hb
  match i, j, ha, hb with
  | 0, 0, ha, hb | 0, 1, ha, hb | 0, 2, ha, hb | 0, 3, ha, hb | 1, 1, ha, hb | 1, 2, ha, hb | 1, 3, ha, hb | 2, 2, ha, hb | 2, 3, ha, hb | 3, 3, ha, hb => cases ha; cases hb; decide
  | i + 4, _, ha, _ => simp at ha
  | _, j + 4, _, hb => simp at hb
  | 1, 0, _, _ | 2, 0, _, _ | 2, 1, _, _ | 3, 0, _, _ | 3, 1, _, _ | 3, 2, _, _ => omega
theorem str_dig {i : Nat} (h : i < 8) : Str.ofString (toString (i : Int)) = S1 (48 + i) := by
  rcases i with _ | _ | _ | _ | _ | _ | _ | _ | i <;> first | decide +kernel | omega
theorem dig_ok {i : Nat} (h : i < 8) : 48 + i ∈ okL := by
  rcases i with _ | _ | _ | _ | _ | _ | _ | _ | i <;> first | decide | omega
theorem nm_ok {x : Int} (h : plP x / 13 ≤ 4) : nmP x ∈ okL := by
  unfold nmP
  generalize plP x / 13 = k at *
  rcases k with _ | _ | _ | _ | _ | k <;> first | omega | (split <;> decide)
local macro_rules | `(tactic| walk_at "none here") => `(tactic| fail)
noncomputable def S_E3_g1 := fun (hStop1 : Keep (_ : Prop)) (hStop2 : Keep (_ : Prop)) => (show Dom11 S_E2_g1 from by
  delta Dom11
  intros w s₀ s₁ mg mb fa o KX GL T w1 w2 M w3 is hr w6 sc sv w8 hZ ra hr2 K0 c1 qk1 ek1 P0 lP N0a lN x0 d0 l66 l67 H0 lH tkB Gc kX D0 o1 do1 o2 do2 o3 do3 tk D1 DL hDL D3 h3 xs zs hz8 DZ h4 l4 i I oI m₁
  intros h tk9 hv' hn pv pn nv nn rest ho1 ho2 ho3 hht hpi hns hIo QTx hQTx x tx hxi tk _ hp64 kc kb q4 q5 br t21 t22 t23 b3 t31 t32 t33 ht3 _ tk _ h' _ _ _ _
  w_top off
  rename Fr _ _ _ _ => F10
  rename News _ _ _ _ => N10
  simp only [okE, Bool.and_eq_true, beq_iff_eq, List.all_cons, List.all_nil, Bool.and_true] at q4
  refine cps fun zzX zzk => ?_
  obtain ⟨⟨q41, q42, q43, q44⟩, q45⟩ := q4
  refine zzk ?_; clear zzk zzX
  simp only [okL2, Bool.and_eq_true, beq_iff_eq] at q5
  obtain ⟨⟨q51, q52⟩, q53⟩ := q5
  have hfx : ∀ n ∈ [(13 : Int), 26, 39, 52], (Float64.cmpInt (Float64.mul (Float64.ofInt 64) (Float64.ofFrac false (plP x) 64)) n == some .lt) = decide ((plP x : Int) < n) := by
    intro n hn
    simp only [List.mem_cons, List.not_mem_nil, or_false] at hn
    rcases hn with rfl | rfl | rfl | rfl
    · exact q41.trans (decide_eq_decide.mpr (by omega))
    · exact q42.trans (decide_eq_decide.mpr (by omega))
    · exact q43.trans (decide_eq_decide.mpr (by omega))
    · exact q44.trans (decide_eq_decide.mpr (by omega))
  have nb : NoneBooked _ := none_booked KX fun b o e => F10.keep b o e
  refine r_ne_tup3 N10 (.tail _ (.head _)) (.head _) (by k_units) nb ht3 ⟨Nat.succ_ne_zero _, Nat.succ_ne_zero _, Nat.succ_ne_zero _⟩ (beq_iff_eq.mpr q45) (beq_iff_eq.mpr q52) (beq_iff_eq.mpr q53) ?_
  clear nb
  walk_at "go"
  all_goals (
    refine c_bisectF (ns := [13, 26, 39, 52]) (x := (plP x : Int)) (by assumption) (by assumption) (by assumption) (by assumption) (by assumption) rfl (by ktr_room) (.head _) (.cons _ _ (.cons _ _ (.cons _ _ (.cons _ _ .nil)))) (by decide) sorted13 (by assumption) ?_
    intro r tr h11 tk11 F11 N11 hr
    obtain rfl := bis13 hp64 hr
    have hnl : nv.length = i := by rw [hns.length, List.length_map, List.length_range]
    have hi8 : i < 8 := by
      have := (List.getElem?_eq_some_iff.mp hxi).1
      omega
    have hp13 : plP x / 13 ≤ 4 := by omega
    walk_at "go"
    rename Fr _ _ _ _ => F12
    rename News _ _ _ _ => N12)
  · have hbig : 16 < toldP x := of_decide_eq_true (q51.symm.trans (by assumption))
    have hnm : (65 + ((plP x / 13 : Nat) : Int)).toNat = nmP x := by unfold nmP; rw [if_pos hbig]; omega
    rw [hnm] at F12
    rw [hnm, hnl, str_dig hi8]
    clear hnm; clear hbig; revert tk'; clear t'; clear tk; revert N12 F12; rename_i zzM; revert zzM; revert hp13 hi8 hnl; clear hr; revert tk11 h11; clear tr; rename_i zzM; clear zzM; rename_i zzM
    clear zzM; rename_i zzM; clear zzM; rename_i zzM; revert zzM; rename_i zzM; clear zzM; revert tk; clear hfx; clear q52; clear q51; clear q53; clear q44; clear q43; clear q42; clear q41; clear q45
    rename_i zzM; clear zzM; rename_i zzM; revert zzM; clear h'; rename_i zzM; revert zzM; revert tk; rename_i zzM; revert zzM; clear ht3; revert t33 t32 t31 b3 t23 t22 t21 br kb kc; clear hp64
    rename_i zzM; revert zzM; revert tk hxi tx x hQTx QTx hIo hns hpi hht ho3 ho2 ho1 rest nn nv pn pv hn hv' tk9 h m₁ oI I i l4 h4 DZ; clear hz8; revert zs xs h3 D3 hDL DL D1 tk; clear do3
    revert o3 do2 o2 do1 o1 D0 kX Gc tkB lH H0 l67 l66 d0 x0 lN N0a lP P0 ek1 qk1 c1 K0 hr2 ra hZ w8 sv sc w6; clear hr; revert is w3 M w2 w1 T GL; clear KX; clear o; revert fa mb mg s₁ s₀ w
    exact hStop1.out
  · have hbig : ¬ 16 < toldP x := of_decide_eq_false (q51.symm.trans (by assumption))
    have hnm : (97 + ((plP x / 13 : Nat) : Int)).toNat = nmP x := by unfold nmP; rw [if_neg hbig]; omega
    rw [hnm] at F12
    rw [hnm, hnl, str_dig hi8]
    clear hnm; clear hbig; revert tk'; clear t'; clear tk; revert N12 F12; rename_i zzM; revert zzM; revert hp13 hi8 hnl; clear hr; revert tk11 h11; clear tr; rename_i zzM; clear zzM; rename_i zzM
    clear zzM; rename_i zzM; clear zzM; rename_i zzM; revert zzM; rename_i zzM; clear zzM; revert tk; clear hfx; clear q52; clear q51; clear q53; clear q44; clear q43; clear q42; clear q41; clear q45
    rename_i zzM; clear zzM; rename_i zzM; revert zzM; clear h'; rename_i zzM; revert zzM; revert tk; rename_i zzM; revert zzM; clear ht3; revert t33 t32 t31 b3 t23 t22 t21 br kb kc; clear hp64
    rename_i zzM; revert zzM; revert tk hxi tx x hQTx QTx hIo hns hpi hht ho3 ho2 ho1 rest nn nv pn pv hn hv' tk9 h m₁ oI I i l4 h4 DZ; clear hz8; revert zs xs h3 D3 hDL DL D1 tk; clear do3
    revert o3 do2 o2 do1 o1 D0 kX Gc tkB lH H0 l67 l66 d0 x0 lN N0a lP P0 ek1 qk1 c1 K0 hr2 ra hZ w8 sv sc w6; clear hr; revert is w3 M w2 w1 T GL; clear KX; clear o; revert fa mb mg s₁ s₀ w
    exact hStop2.out)
end S_E4
section S_E5
theorem afresh23 : True := by w_top off; trivial
theorem S_E4_g1 : Dom21 S_E3_g1 := by
  delta Dom21
  intros w s₀ s₁ mg mb fa GL T w1 w2 M w3 is w6 sc sv w8 hZ ra hr2 K0 c1 qk1 ek1 P0 lP N0a lN x0 d0 l66 l67 H0 lH tkB Gc kX D0 o1 do1 o2 do2 o3 tk D1 DL hDL D3 h3 xs zs DZ h4 l4 i I oI m₁ h tk9 hv' hn pv
  intros pn nv nn rest ho1 ho2 ho3 hht hpi hns hIo QTx hQTx x tx hxi tk _ kc kb br t21 t22 t23 b3 t31 t32 t33 _ tk _ _ tk _ h11 tk11 hnl hi8 hp13 _ F12 N12 tk'
  w_top off
  have z4 : @LT.lt Nat _ (s₁.heap.objs.size + 1 + 1 + 1 + 1) P0 := lP.1
  have aPN : @LT.lt Nat _ P0 N0a := lN.1
  have aNd : @LT.lt Nat _ N0a d0 := l66.1
  have adx : @LT.lt Nat _ d0 x0 := l67
  have axH : @LT.lt Nat _ x0 H0 := lH.1
  have aHZ : @LT.lt Nat _ H0 DZ := l4 _ (.tail _ (.tail _ (.tail _ (.tail _ (.head _)))))
  have iH : @Ne Nat I H0 := Ne.symm (hIo _ (.head _))
  have iP : @Ne Nat I P0 := Ne.symm (hIo _ (.tail _ (.head _)))
  have iN : @Ne Nat I N0a := Ne.symm (hIo _ (.tail _ (.tail _ (.head _))))
  have aPd := Nat.lt_trans aPN aNd
  have aPx := Nat.lt_trans aPd adx
  have aPH := Nat.lt_trans aPx axH
  have aNx := Nat.lt_trans aNd adx
  have aNH := Nat.lt_trans aNx axH
  have adH := Nat.lt_trans adx axH
  have z3 : @LT.lt Nat _ (s₁.heap.objs.size + 1 + 1 + 1) P0 := by walk_at "lt"
  have z2 : @LT.lt Nat _ (s₁.heap.objs.size + 1 + 1) P0 := by walk_at "lt"
  have z1 : @LT.lt Nat _ (s₁.heap.objs.size + 1) P0 := by walk_at "lt"
  have hPH : @Ne Nat P0 H0 := Nat.ne_of_lt aPH
  have hNH : @Ne Nat N0a H0 := Nat.ne_of_lt aNH
  have hZH : @Ne Nat DZ H0 := Nat.ne_of_gt aHZ
  have hxH : @Ne Nat x0 H0 := Nat.ne_of_lt axH
  have hdH : @Ne Nat d0 H0 := Nat.ne_of_lt adH
  have h4H : @Ne Nat (s₁.heap.objs.size + 1 + 1 + 1 + 1) H0 := Nat.ne_of_lt (Nat.lt_trans z4 aPH)
  have h3H : @Ne Nat (s₁.heap.objs.size + 1 + 1 + 1) H0 := Nat.ne_of_lt (Nat.lt_trans z3 aPH)
  have h2H : @Ne Nat (s₁.heap.objs.size + 1 + 1) H0 := Nat.ne_of_lt (Nat.lt_trans z2 aPH)
  have h1H : @Ne Nat (s₁.heap.objs.size + 1) H0 := Nat.ne_of_lt (Nat.lt_trans z1 aPH)
  have hHP : @Ne Nat H0 P0 := Nat.ne_of_gt aPH
  have hNP : @Ne Nat N0a P0 := Nat.ne_of_gt aPN
  have hZP : @Ne Nat DZ P0 := Nat.ne_of_gt (Nat.lt_trans aPH aHZ)
  have hxP : @Ne Nat x0 P0 := Nat.ne_of_gt aPx
  have hdP : @Ne Nat d0 P0 := Nat.ne_of_gt aPd
  have h4P : @Ne Nat (s₁.heap.objs.size + 1 + 1 + 1 + 1) P0 := Nat.ne_of_lt z4
  have h3P : @Ne Nat (s₁.heap.objs.size + 1 + 1 + 1) P0 := Nat.ne_of_lt z3
  have h2P : @Ne Nat (s₁.heap.objs.size + 1 + 1) P0 := Nat.ne_of_lt z2
  have h1P : @Ne Nat (s₁.heap.objs.size + 1) P0 := Nat.ne_of_lt z1
  have hHN : @Ne Nat H0 N0a := Nat.ne_of_gt aNH
  have hPN : @Ne Nat P0 N0a := Nat.ne_of_lt aPN
  have hZN : @Ne Nat DZ N0a := Nat.ne_of_gt (Nat.lt_trans aNH aHZ)
  have hxN : @Ne Nat x0 N0a := Nat.ne_of_gt aNx
  have hdN : @Ne Nat d0 N0a := Nat.ne_of_gt aNd
  have h4N : @Ne Nat (s₁.heap.objs.size + 1 + 1 + 1 + 1) N0a := Nat.ne_of_lt (Nat.lt_trans z4 aPN)
  have h3N : @Ne Nat (s₁.heap.objs.size + 1 + 1 + 1) N0a := Nat.ne_of_lt (Nat.lt_trans z3 aPN)
  have h2N : @Ne Nat (s₁.heap.objs.size + 1 + 1) N0a := Nat.ne_of_lt (Nat.lt_trans z2 aPN)
  have h1N : @Ne Nat (s₁.heap.objs.size + 1) N0a := Nat.ne_of_lt (Nat.lt_trans z1 aPN)
  have hvl : hv'.length = i := by rw [hht.length, stP, List.length_map, List.length_range]
  have hpl : pv.length = i := by rw [hpi.length, List.length_map, List.length_range]
  have N13 := kst_newsOf (l' := (H0, liO hv' hn) :: (I, oI) :: (P0, liO pv pn) :: (N0a, liO nv nn) :: (DZ, liO zs 0) :: (x0, instObj 182 d0) :: (d0, diO (PyData.keyHash w.params (Str.ofString "_headers")) (tkB + 1) H0 1) :: (s₁.heap.objs.size + 1 + 1 + 1 + 1, c1) :: (s₁.heap.objs.size + 1 + 1 + 1, o3) :: (s₁.heap.objs.size + 1 + 1, o2) :: (s₁.heap.objs.size + 1, o1) :: rest) N12 (by walk_at "sub")
  clear N12
  have hx9 : xs.getD i 0 = x := by rw [List.getD_eq_getElem?_getD, hxi]; rfl
  refine c_add (by assumption) F12 (by assumption) N13 (by assumption) rfl (by ktr_room) (nm_ok hp13) (dig_ok hi8) (.tail _ (.tail _ (.tail _ (.tail _ (.head _))))) (.tail _ (.tail _ (.tail _ (.tail _ (.tail _ (.head _)))))) ?_ (by omega) ?_
  · k_all
  intro bt t41 t42 n9 h14 tk14 F14 N14 hHb hbr
  have hbH : @Ne Nat bt H0 := Ne.symm hHb
  have hbP : @Ne Nat bt P0 := Ne.symm (hbr _ (.tail _ (.head _)))
  have hbN : @Ne Nat bt N0a := Ne.symm (hbr _ (.tail _ (.tail _ (.head _))))
  walk_at "go"
  rename Fr _ _ _ _ => F15
  rename News _ _ _ _ => N15
  have hfd : ((plP x : Nat) : Int).fdiv 13 = ((plP x / 13 : Nat) : Int) := by rw [Int.fdiv_eq_ediv_of_nonneg _ (by decide)]; omega
  rw [hfd] at N15
  refine cps fun zzX zzk => ?_
  obtain ⟨v1, k1, v2, k2, N16⟩ : ∃ v1 k1 v2 k2, News s₁.heap s₁.heap.objs.size _ ((H0, liO (hv' ++ [.ref bt]) n9) :: (bt, prO (.str (S1 (nmP x)) t41) (.str (S1 (48 + i)) t42)) :: (I, oI) :: (P0, liO (pv ++ [.int ((plP x / 13 : Nat) : Int) v1]) k1) :: (N0a, liO (nv ++ [.str (S1 (nmP x)) v2]) k2) :: (DZ, liO zs 0) :: (x0, instObj 182 d0) :: (d0, diO (PyData.keyHash w.params (Str.ofString "_headers")) (tkB + 1) H0 1) :: (s₁.heap.objs.size + 1 + 1 + 1 + 1, c1) :: (s₁.heap.objs.size + 1 + 1 + 1, o3) :: (s₁.heap.objs.size + 1 + 1, o2) :: (s₁.heap.objs.size + 1, o1) :: rest) := ⟨_, _, _, _, N15⟩
  refine zzk ?_; clear zzk zzX
  clear N15
  subst hQTx
  dsimp only [MTurn]
  refine MEnd.intro F15 N16 ((H0, liO (hv' ++ [.ref bt]) n9) :: (P0, liO (pv ++ [.int ((plP x / 13 : Nat) : Int) v1]) k1) :: (N0a, liO (nv ++ [.str (S1 (nmP x)) v2]) k2) :: (DZ, liO zs 0) :: (x0, instObj 182 d0) :: (d0, diO (PyData.keyHash w.params (Str.ofString "_headers")) (tkB + 1) H0 1) :: (s₁.heap.objs.size + 1 + 1 + 1 + 1, c1) :: (s₁.heap.objs.size + 1 + 1 + 1, o3) :: (s₁.heap.objs.size + 1 + 1, o2) :: (s₁.heap.objs.size + 1, o1) :: (bt, prO (.str (S1 (nmP x)) t41) (.str (S1 (48 + i)) t42)) :: rest) (.tail _ (.tail _ (.head _))) (by walk_at "sub") ?_
    ⟨hv' ++ [.ref bt], n9, pv ++ [.int ((plP x / 13 : Nat) : Int) v1], k1, nv ++ [.str (S1 (nmP x)) v2], k2, (bt, prO (.str (S1 (nmP x)) t41) (.str (S1 (48 + i)) t42)) :: rest, rfl, ?_, ?_, ?_, ?_, ?_, ?_⟩
  · have hbI : @Ne Nat bt I := Ne.symm (hbr _ (.head _))
    exact neC (Ne.symm iH) (neC (Ne.symm iP) (neC (Ne.symm iN) (neC (hIo _ (.tail _ (.tail _ (.tail _ (.head _))))) (neC (hIo _ (.tail _ (.tail _ (.tail _ (.tail _ (.head _)))))) (neC (hIo _ (.tail _ (.tail _ (.tail _ (.tail _ (.tail _ (.head _))))))) (neC (hIo _ (.tail _ (.tail _ (.tail _ (.tail _ (.tail _ (.tail _ (.head _)))))))) (neC (hIo _ (.tail _ (.tail _ (.tail _ (.tail _ (.tail _ (.tail _ (.tail _ (.head _))))))))) (neC (hIo _ (.tail _ (.tail _ (.tail _ (.tail _ (.tail _ (.tail _ (.tail _ (.tail _ (.head _)))))))))) (neC (hIo _ (.tail _ (.tail _ (.tail _ (.tail _ (.tail _ (.tail _ (.tail _ (.tail _ (.tail _ (.head _))))))))))) (neC hbI fun q h => hIo q (.tail _ (.tail _ (.tail _ (.tail _ (.tail _ (.tail _ (.tail _ (.tail _ (.tail _ (.tail _ (h)))))))))))))))))))))
  · k_all
  · k_all
  · k_all
  · rw [stP, List.range_succ, List.map_append]
    refine (hht.mono fun q hq => .tail _ hq).snoc (t1 := t41) (t2 := t42) ?_
    rw [hx9]
    exact .head _
  · rw [List.range_succ, List.map_append, List.map_cons, List.map_nil, hx9]
    exact hpi.append (.cons _ _ .nil)
  · rw [List.range_succ, List.map_append, List.map_cons, List.map_nil, hx9]
    exact hns.snoc
theorem S_E4_g2 : Dom22 S_E3_g1 := by
  delta Dom22
  intros w s₀ s₁ mg mb fa GL T w1 w2 M w3 is w6 sc sv w8 hZ ra hr2 K0 c1 qk1 ek1 P0 lP N0a lN x0 d0 l66 l67 H0 lH tkB Gc kX D0 o1 do1 o2 do2 o3 tk D1 DL hDL D3 h3 xs zs DZ h4 l4 i I oI m₁ h tk9 hv' hn pv
  intros pn nv nn rest ho1 ho2 ho3 hht hpi hns hIo QTx hQTx x tx hxi tk _ kc kb br t21 t22 t23 b3 t31 t32 t33 _ tk _ _ tk _ h11 tk11 hnl hi8 hp13 _ F12 N12 tk'
  w_top off
  have z4 : @LT.lt Nat _ (s₁.heap.objs.size + 1 + 1 + 1 + 1) P0 := lP.1
  have aPN : @LT.lt Nat _ P0 N0a := lN.1
  have aNd : @LT.lt Nat _ N0a d0 := l66.1
  have adx : @LT.lt Nat _ d0 x0 := l67
  have axH : @LT.lt Nat _ x0 H0 := lH.1
  have aHZ : @LT.lt Nat _ H0 DZ := l4 _ (.tail _ (.tail _ (.tail _ (.tail _ (.head _)))))
  have iH : @Ne Nat I H0 := Ne.symm (hIo _ (.head _))
  have iP : @Ne Nat I P0 := Ne.symm (hIo _ (.tail _ (.head _)))
  have iN : @Ne Nat I N0a := Ne.symm (hIo _ (.tail _ (.tail _ (.head _))))
  have aPd := Nat.lt_trans aPN aNd
  have aPx := Nat.lt_trans aPd adx
  have aPH := Nat.lt_trans aPx axH
  have aNx := Nat.lt_trans aNd adx
  have aNH := Nat.lt_trans aNx axH
  have adH := Nat.lt_trans adx axH
  have z3 : @LT.lt Nat _ (s₁.heap.objs.size + 1 + 1 + 1) P0 := by walk_at "lt"
  have z2 : @LT.lt Nat _ (s₁.heap.objs.size + 1 + 1) P0 := by walk_at "lt"
  have z1 : @LT.lt Nat _ (s₁.heap.objs.size + 1) P0 := by walk_at "lt"
  have hPH : @Ne Nat P0 H0 := Nat.ne_of_lt aPH
  have hNH : @Ne Nat N0a H0 := Nat.ne_of_lt aNH
  have hZH : @Ne Nat DZ H0 := Nat.ne_of_gt aHZ
  have hxH : @Ne Nat x0 H0 := Nat.ne_of_lt axH
  have hdH : @Ne Nat d0 H0 := Nat.ne_of_lt adH
  have h4H : @Ne Nat (s₁.heap.objs.size + 1 + 1 + 1 + 1) H0 := Nat.ne_of_lt (Nat.lt_trans z4 aPH)
  have h3H : @Ne Nat (s₁.heap.objs.size + 1 + 1 + 1) H0 := Nat.ne_of_lt (Nat.lt_trans z3 aPH)
  have h2H : @Ne Nat (s₁.heap.objs.size + 1 + 1) H0 := Nat.ne_of_lt (Nat.lt_trans z2 aPH)
  have h1H : @Ne Nat (s₁.heap.objs.size + 1) H0 := Nat.ne_of_lt (Nat.lt_trans z1 aPH)
  have hHP : @Ne Nat H0 P0 := Nat.ne_of_gt aPH
  have hNP : @Ne Nat N0a P0 := Nat.ne_of_gt aPN
  have hZP : @Ne Nat DZ P0 := Nat.ne_of_gt (Nat.lt_trans aPH aHZ)
  have hxP : @Ne Nat x0 P0 := Nat.ne_of_gt aPx
  have hdP : @Ne Nat d0 P0 := Nat.ne_of_gt aPd
  have h4P : @Ne Nat (s₁.heap.objs.size + 1 + 1 + 1 + 1) P0 := Nat.ne_of_lt z4
  have h3P : @Ne Nat (s₁.heap.objs.size + 1 + 1 + 1) P0 := Nat.ne_of_lt z3
  have h2P : @Ne Nat (s₁.heap.objs.size + 1 + 1) P0 := Nat.ne_of_lt z2
  have h1P : @Ne Nat (s₁.heap.objs.size + 1) P0 := Nat.ne_of_lt z1
  have hHN : @Ne Nat H0 N0a := Nat.ne_of_gt aNH
  have hPN : @Ne Nat P0 N0a := Nat.ne_of_lt aPN
  have hZN : @Ne Nat DZ N0a := Nat.ne_of_gt (Nat.lt_trans aNH aHZ)
  have hxN : @Ne Nat x0 N0a := Nat.ne_of_gt aNx
  have hdN : @Ne Nat d0 N0a := Nat.ne_of_gt aNd
  have h4N : @Ne Nat (s₁.heap.objs.size + 1 + 1 + 1 + 1) N0a := Nat.ne_of_lt (Nat.lt_trans z4 aPN)
  have h3N : @Ne Nat (s₁.heap.objs.size + 1 + 1 + 1) N0a := Nat.ne_of_lt (Nat.lt_trans z3 aPN)
  have h2N : @Ne Nat (s₁.heap.objs.size + 1 + 1) N0a := Nat.ne_of_lt (Nat.lt_trans z2 aPN)
  have h1N : @Ne Nat (s₁.heap.objs.size + 1) N0a := Nat.ne_of_lt (Nat.lt_trans z1 aPN)
  have hvl : hv'.length = i := by rw [hht.length, stP, List.length_map, List.length_range]
  have hpl : pv.length = i := by rw [hpi.length, List.length_map, List.length_range]
  have N13 := kst_newsOf (l' := (H0, liO hv' hn) :: (I, oI) :: (P0, liO pv pn) :: (N0a, liO nv nn) :: (DZ, liO zs 0) :: (x0, instObj 182 d0) :: (d0, diO (PyData.keyHash w.params (Str.ofString "_headers")) (tkB + 1) H0 1) :: (s₁.heap.objs.size + 1 + 1 + 1 + 1, c1) :: (s₁.heap.objs.size + 1 + 1 + 1, o3) :: (s₁.heap.objs.size + 1 + 1, o2) :: (s₁.heap.objs.size + 1, o1) :: rest) N12 (by walk_at "sub")
  clear N12
  have hx9 : xs.getD i 0 = x := by rw [List.getD_eq_getElem?_getD, hxi]; rfl
  refine c_add (by assumption) F12 (by assumption) N13 (by assumption) rfl (by ktr_room) (nm_ok hp13) (dig_ok hi8) (.tail _ (.tail _ (.tail _ (.tail _ (.head _))))) (.tail _ (.tail _ (.tail _ (.tail _ (.tail _ (.head _)))))) ?_ (by omega) ?_
  · k_all
  intro bt t41 t42 n9 h14 tk14 F14 N14 hHb hbr
  have hbH : @Ne Nat bt H0 := Ne.symm hHb
  have hbP : @Ne Nat bt P0 := Ne.symm (hbr _ (.tail _ (.head _)))
  have hbN : @Ne Nat bt N0a := Ne.symm (hbr _ (.tail _ (.tail _ (.head _))))
  walk_at "go"
  rename Fr _ _ _ _ => F15
  rename News _ _ _ _ => N15
  have hfd : ((plP x : Nat) : Int).fdiv 13 = ((plP x / 13 : Nat) : Int) := by rw [Int.fdiv_eq_ediv_of_nonneg _ (by decide)]; omega
  rw [hfd] at N15
  refine cps fun zzX zzk => ?_
  obtain ⟨v1, k1, v2, k2, N16⟩ : ∃ v1 k1 v2 k2, News s₁.heap s₁.heap.objs.size _ ((H0, liO (hv' ++ [.ref bt]) n9) :: (bt, prO (.str (S1 (nmP x)) t41) (.str (S1 (48 + i)) t42)) :: (I, oI) :: (P0, liO (pv ++ [.int ((plP x / 13 : Nat) : Int) v1]) k1) :: (N0a, liO (nv ++ [.str (S1 (nmP x)) v2]) k2) :: (DZ, liO zs 0) :: (x0, instObj 182 d0) :: (d0, diO (PyData.keyHash w.params (Str.ofString "_headers")) (tkB + 1) H0 1) :: (s₁.heap.objs.size + 1 + 1 + 1 + 1, c1) :: (s₁.heap.objs.size + 1 + 1 + 1, o3) :: (s₁.heap.objs.size + 1 + 1, o2) :: (s₁.heap.objs.size + 1, o1) :: rest) := ⟨_, _, _, _, N15⟩
  refine zzk ?_; clear zzk zzX
  clear N15
  subst hQTx
  dsimp only [MTurn]
  refine MEnd.intro F15 N16 ((H0, liO (hv' ++ [.ref bt]) n9) :: (P0, liO (pv ++ [.int ((plP x / 13 : Nat) : Int) v1]) k1) :: (N0a, liO (nv ++ [.str (S1 (nmP x)) v2]) k2) :: (DZ, liO zs 0) :: (x0, instObj 182 d0) :: (d0, diO (PyData.keyHash w.params (Str.ofString "_headers")) (tkB + 1) H0 1) :: (s₁.heap.objs.size + 1 + 1 + 1 + 1, c1) :: (s₁.heap.objs.size + 1 + 1 + 1, o3) :: (s₁.heap.objs.size + 1 + 1, o2) :: (s₁.heap.objs.size + 1, o1) :: (bt, prO (.str (S1 (nmP x)) t41) (.str (S1 (48 + i)) t42)) :: rest) (.tail _ (.tail _ (.head _))) (by walk_at "sub") ?_
    ⟨hv' ++ [.ref bt], n9, pv ++ [.int ((plP x / 13 : Nat) : Int) v1], k1, nv ++ [.str (S1 (nmP x)) v2], k2, (bt, prO (.str (S1 (nmP x)) t41) (.str (S1 (48 + i)) t42)) :: rest, rfl, ?_, ?_, ?_, ?_, ?_, ?_⟩
  · have hbI : @Ne Nat bt I := Ne.symm (hbr _ (.head _))
    exact neC (Ne.symm iH) (neC (Ne.symm iP) (neC (Ne.symm iN) (neC (hIo _ (.tail _ (.tail _ (.tail _ (.head _))))) (neC (hIo _ (.tail _ (.tail _ (.tail _ (.tail _ (.head _)))))) (neC (hIo _ (.tail _ (.tail _ (.tail _ (.tail _ (.tail _ (.head _))))))) (neC (hIo _ (.tail _ (.tail _ (.tail _ (.tail _ (.tail _ (.tail _ (.head _)))))))) (neC (hIo _ (.tail _ (.tail _ (.tail _ (.tail _ (.tail _ (.tail _ (.tail _ (.head _))))))))) (neC (hIo _ (.tail _ (.tail _ (.tail _ (.tail _ (.tail _ (.tail _ (.tail _ (.tail _ (.head _)))))))))) (neC (hIo _ (.tail _ (.tail _ (.tail _ (.tail _ (.tail _ (.tail _ (.tail _ (.tail _ (.tail _ (.head _))))))))))) (neC hbI fun q h => hIo q (.tail _ (.tail _ (.tail _ (.tail _ (.tail _ (.tail _ (.tail _ (.tail _ (.tail _ (.tail _ (h)))))))))))))))))))))
  · k_all
  · k_all
  · k_all
  · rw [stP, List.range_succ, List.map_append]
    refine (hht.mono fun q hq => .tail _ hq).snoc (t1 := t41) (t2 := t42) ?_
    rw [hx9]
    exact .head _
  · rw [List.range_succ, List.map_append, List.map_cons, List.map_nil, hx9]
    exact hpi.append (.cons _ _ .nil)
  · rw [List.range_succ, List.map_append, List.map_cons, List.map_nil, hx9]
    exact hns.snoc
end S_E5
end R_2_1
end G_2
section S_E6
theorem afresh24 : True := by w_top off; trivial
noncomputable def stC (cs : List Nat) : List (Nat × Nat) := (List.range 8).map fun j => (cs.getD j 0, 48 + j)
theorem low_nm {x : Int} : lowc (nmP x) = 97 + plP x / 13 := by
  have h := (pl_eq x).2
  have hk : plP x / 13 ≤ 4 := by omega
  unfold lowc nmP
  generalize plP x / 13 = k at *
  split <;> split <;> omega
theorem pack (xs : List Int) : ∃ (cs ks : List Nat), cs.length = 8 ∧ ks.length = 8 ∧ (∀ c ∈ cs, c ∈ okL) ∧ (∀ k ∈ ks, k ≤ 4) ∧ (∀ j, j < 8 → lowc (cs.getD j 0) = 97 + ks.getD j 0) ∧ stP xs 8 = stC cs ∧
    ((List.range 8).map fun j => nmP (xs.getD j 0)) = cs ∧ ((List.range 8).map fun j => ((plP (xs.getD j 0) / 13 : Nat) : Int)) = ks.map fun (k : Nat) => (k : Int) := by
  refine ⟨(List.range 8).map fun j => nmP (xs.getD j 0), (List.range 8).map fun j => plP (xs.getD j 0) / 13, by simp, by simp, ?_, ?_, ?_, ?_, rfl, ?_⟩
  · intro c hc
    obtain ⟨j, _, rfl⟩ := List.mem_map.mp hc
    have h := (pl_eq (xs.getD j 0)).2
    exact nm_ok (by omega)
  · intro k hk
    obtain ⟨j, _, rfl⟩ := List.mem_map.mp hk
    have h := (pl_eq (xs.getD j 0)).2
    omega
  · intro j hj
    rw [List.getD_eq_getElem?_getD, List.getD_eq_getElem?_getD, List.getElem?_map, List.getElem?_map, List.getElem?_range hj]
    exact low_nm
  · unfold stP stC
    refine List.map_congr_left fun j hj => ?_
    have hj := List.mem_range.mp hj
    rw [List.getD_eq_getElem?_getD (l := List.map _ _), List.getElem?_map, List.getElem?_range hj]
    rfl
  · rw [List.map_map]
    rfl
theorem Tups.mono2 {news news' : List (Addr × Obj)} {vs : List Value} {ps : List (Nat × Nat)} (h : Tups news vs ps) (hs : ∀ b v w, (b, prO v w) ∈ news → (b, prO v w) ∈ news') : Tups news' vs ps := by
  induction h with
  | nil => exact .nil
  | cons hm _ ih => exact .cons (hs _ _ _ hm) ih
noncomputable def S_E2_done := fun (hStop1 : Keep (_ : Prop)) => (show Dom22 S_E1_g1 from by
  delta Dom22
  intros w s₀ s₁ mg mb G Y fa o pm doc ho hg KX X V GL T B TE TW w1 w2 M w3 w4 hcd is hs hlay0 hL hr hl2 w5 w6 sc sv w8 hZ ra w1' r0 hI hr2 hsl hcond' K0 hD h₁ tk₁ c1 c2 c3 c4 dc1 dc2 dc3 dc4 qk1 ek1 P0
  intros h60 lP N0a h63 lN x0 d0 h66 l66 l67 g7 L7 h7 tkA H0 h8 lH h9a tkB h10 tkC h9 tk9 Gc kX D0 h88 lD h91 h92 o1 do1 h95 o2 do2 h98 o3 do3 tk D1 h1 l1 DL hDL lDL D3 h3 l3 xs zs hzi hz8 hze DZ h4 l4
  intros m₁ h tk9 hv' hn pv pn nv nn rest ho1 ho2 ho3 hht hpi hns F1 N1
  w_top off
  have dc4 : c1.data = Data.cell none := dc1
  have z4 : @LT.lt Nat _ (s₁.heap.objs.size + 1 + 1 + 1 + 1) P0 := lP.1
  have aPN : @LT.lt Nat _ P0 N0a := lN.1
  have aNd : @LT.lt Nat _ N0a d0 := l66.1
  have adx : @LT.lt Nat _ d0 x0 := l67
  have axH : @LT.lt Nat _ x0 H0 := lH.1
  refine cps fun zzX zzk => ?_
  obtain ⟨cs, ks, hcl, hkl, hok, hk4, hlow, e1, e2, e3⟩ := pack xs
  refine zzk ?_; clear zzk zzX
  rw [e1] at hht
  rw [e2] at hns
  rw [e3] at hpi
  refine cps fun zzX zzk => ?_
  obtain ⟨bl, mH0, mP0, mN0, mx0, md0, hb4, hb3, hb2, hb1, hT, N2⟩ : ∃ bl, (H0, liO hv' hn) ∈ bl ∧ (P0, liO pv pn) ∈ bl ∧ (N0a, liO nv nn) ∈ bl ∧ (x0, instObj 182 d0) ∈ bl ∧ (d0, diO (PyData.keyHash w.params (Str.ofString "_headers")) (tkB + 1) H0 1) ∈ bl ∧
      (∀ q ∈ bl, (@Ne Nat q.1 (s₁.heap.objs.size + 1 + 1 + 1 + 1))) ∧ (∀ q ∈ bl, (@Ne Nat q.1 (s₁.heap.objs.size + 1 + 1 + 1))) ∧ (∀ q ∈ bl, (@Ne Nat q.1 (s₁.heap.objs.size + 1 + 1))) ∧ (∀ q ∈ bl, (@Ne Nat q.1 (s₁.heap.objs.size + 1))) ∧ Tups bl hv' (stC cs) ∧
      News s₁.heap s₁.heap.objs.size h ((s₁.heap.objs.size + 1 + 1 + 1 + 1, c1) :: (s₁.heap.objs.size + 1 + 1 + 1, o3) :: (s₁.heap.objs.size + 1 + 1, o2) :: (s₁.heap.objs.size + 1, o1) :: bl) := by
    have key : ∀ (A : Addr) (o : Obj) (v : Option Value), (A, o) ∈ ((H0, liO hv' hn) :: (P0, liO pv pn) :: (N0a, liO nv nn) :: (DZ, liO zs 0) :: (x0, instObj 182 d0) :: (d0, diO (PyData.keyHash w.params (Str.ofString "_headers")) (tkB + 1) H0 1) :: (s₁.heap.objs.size + 1 + 1 + 1 + 1, c1) :: (s₁.heap.objs.size + 1 + 1 + 1, o3) :: (s₁.heap.objs.size + 1 + 1, o2) :: (s₁.heap.objs.size + 1, o1) :: rest) → o.data = .cell v →
        ∀ b x y, (b, prO x y) ∈ rest → b ≠ A := by
      intro A o v hA hd b x y hb e
      have g1 := (N1 _ hA).1
      have g2 := (N1 (b, prO x y) (.tail _ (.tail _ (.tail _ (.tail _ (.tail _ (.tail _ (.tail _ (.tail _ (.tail _ (.tail _ hb))))))))))).1
      rw [show (b, prO x y).1 = A from e] at g2
      rw [g1] at g2
      have g3 : o = prO x y := Option.some.inj g2
      rw [g3] at hd
      cases hd
    refine ⟨(H0, liO hv' hn) :: (P0, liO pv pn) :: (N0a, liO nv nn) :: (x0, instObj 182 d0) :: (d0, diO (PyData.keyHash w.params (Str.ofString "_headers")) (tkB + 1) H0 1) :: rest.filter (fun p => decide (p.1 ≠ s₁.heap.objs.size + 1 + 1 + 1 + 1 ∧ p.1 ≠ s₁.heap.objs.size + 1 + 1 + 1 ∧ p.1 ≠ s₁.heap.objs.size + 1 + 1 ∧ p.1 ≠ s₁.heap.objs.size + 1)),
      .head _, .tail _ (.head _), .tail _ (.tail _ (.head _)), .tail _ (.tail _ (.tail _ (.head _))), .tail _ (.tail _ (.tail _ (.tail _ (.head _)))), ?_, ?_, ?_, ?_, ?_, ?_⟩
    · exact neC (by show @Ne Nat H0 _; omega) (neC (by show @Ne Nat P0 _; omega) (neC (by show @Ne Nat N0a _; omega) (neC (by show @Ne Nat x0 _; omega) (neC (by show @Ne Nat d0 _; omega) fun q h => (of_decide_eq_true (List.mem_filter.mp h).2).1))))
    · exact neC (by show @Ne Nat H0 _; omega) (neC (by show @Ne Nat P0 _; omega) (neC (by show @Ne Nat N0a _; omega) (neC (by show @Ne Nat x0 _; omega) (neC (by show @Ne Nat d0 _; omega) fun q h => (of_decide_eq_true (List.mem_filter.mp h).2).2.1))))
    · exact neC (by show @Ne Nat H0 _; omega) (neC (by show @Ne Nat P0 _; omega) (neC (by show @Ne Nat N0a _; omega) (neC (by show @Ne Nat x0 _; omega) (neC (by show @Ne Nat d0 _; omega) fun q h => (of_decide_eq_true (List.mem_filter.mp h).2).2.2.1))))
    · exact neC (by show @Ne Nat H0 _; omega) (neC (by show @Ne Nat P0 _; omega) (neC (by show @Ne Nat N0a _; omega) (neC (by show @Ne Nat x0 _; omega) (neC (by show @Ne Nat d0 _; omega) fun q h => (of_decide_eq_true (List.mem_filter.mp h).2).2.2.2))))
    · refine hht.mono2 fun b x y hb => .tail _ (.tail _ (.tail _ (.tail _ (.tail _ (List.mem_filter.mpr ⟨hb, decide_eq_true ⟨?_, ?_, ?_, ?_⟩⟩)))))
      · exact key _ c1 _ (.tail _ (.tail _ (.tail _ (.tail _ (.tail _ (.tail _ (.head _))))))) dc4 b x y hb
      · exact key _ o3 _ (.tail _ (.tail _ (.tail _ (.tail _ (.tail _ (.tail _ (.tail _ (.head _)))))))) do3 b x y hb
      · exact key _ o2 _ (.tail _ (.tail _ (.tail _ (.tail _ (.tail _ (.tail _ (.tail _ (.tail _ (.head _))))))))) do2 b x y hb
      · exact key _ o1 _ (.tail _ (.tail _ (.tail _ (.tail _ (.tail _ (.tail _ (.tail _ (.tail _ (.tail _ (.head _)))))))))) do1 b x y hb
    · refine kst_newsOf N1 ?_
      repeat (with_reducible refine subC (by k_mem) ?_)
      exact fun q h => .tail _ (.tail _ (.tail _ (.tail _ (.tail _ (.tail _ (.tail _ (.tail _ (.tail _ (.tail _ ((List.mem_filter.mp h).1))))))))))
  refine zzk ?_; clear zzk zzX
  clear N1 hht ho1 ho2 ho3 e1 e2 e3 hzi hze hz8 lP lN l66 lH lD l1 lDL l3 l4 DZ rest zs xs

  revert N2 hT hb1 hb2 hb3 hb4 md0 mx0 mN0 mP0 mH0 bl hlow hk4 hok hkl hcl hpi ks hns cs axH adx aNd aPN z4 dc4 F1 nn nv pn pv hn hv' tk9 h m₁ h4 h3 D3 hDL DL h1 D1 tk do3 o3 h98 do2 o2 h95 do1 o1 h92 h91 h88 D0 kX Gc
  revert tk9 h9 tkC h10 tkB h9a h8 H0 tkA h7 L7 g7 l67 h66 d0 x0 h63 N0a h60 P0 ek1 qk1 dc4 dc3 dc2 dc1 c4 c3 c2 c1 tk₁ h₁ hD K0 hcond' hsl hr2 hI r0 w1' ra hZ w8 sv sc w6 w5 hl2 hr hL hlay0 hs is hcd w4 w3 M w2 w1 TW TE B T GL V X KX hg ho doc pm o fa Y G mb mg s₁ s₀ w
  exact hStop1.out)
end S_E6
section G_3
local macro_rules | `(tactic| walk_at "halt") => `(tactic| with_reducible first | show H43 | show H42 | show H44 | show H45 | show H41)
section R_3_0
local macro_rules | `(tactic| walk_at "halt") => `(tactic| with_reducible first | show H46 | show H47)
section S_E7
theorem afresh25 : True := by w_top off; trivial
noncomputable def fP (cs : List Nat) (k : Nat) : Nat := (lk (stC cs) (97 + k)).getD 56
theorem chr_ok {i : Nat} (h : i < 6) : 97 + i ∈ okL := by
  rcases i with _ | _ | _ | _ | _ | _ | i <;> first | decide | omega
local macro_rules | `(tactic| walk_at "none here") => `(tactic| fail)
noncomputable def S_E6_g1 := fun (hStop1 : Keep (_ : Prop)) => (show Dom11 S_E2_done from by
  delta Dom11
  intros w s₀ s₁ mg mb G Y fa o pm doc ho hg KX X V GL T B TE TW w1 w2 M w3 w4 hcd is hs hlay0 hL hr hl2 w5 w6 sc sv w8 hZ ra w1' r0 hI hr2 hsl hcond' K0 hD h₁ tk₁ c1 c2 c3 c4 dc1 dc2 dc3 dc4 qk1 ek1 P0
  intros h60 N0a h63 x0 d0 h66 l67 g7 L7 h7 tkA H0 h8 h9a tkB h10 tkC h9 tk9 Gc kX D0 h88 h91 h92 o1 do1 h95 o2 do2 h98 o3 do3 tk D1 h1 DL hDL D3 h3 h4 m₁ h tk9 hv' hn pv pn nv nn F1 dc4 z4 aPN aNd adx
  intros axH cs hns ks hpi hcl hkl hok hk4 hlow bl mH0 mP0 mN0 mx0 md0 hb4 hb3 hb2 hb1 hT N2
  w_top off
  have hok2 : ∀ q ∈ stC cs, q.1 ∈ okL := by
    intro q hq
    obtain ⟨j, hj, rfl⟩ := List.mem_map.mp hq
    have hj := List.mem_range.mp hj
    exact hok _ (by rw [List.getD_eq_getElem?_getD, List.getElem?_eq_getElem (by omega)]; exact List.getElem_mem _)
  walk_at "go"
  rename Fr _ _ _ _ => F0
  rename News _ _ _ _ => N0
  refine LCg.CompSrc.range (n := 6) rfl F0 N0 (by assumption) (by decide) (by rfl) (by rw [sizeLine_eq]; decide) fun gh => ?_
  dsimp only
  refine restU (n := 6) (fun i ys nx => nx = (s₁.heap.objs.size + 1 + 1 + 1 + 1, c1) :: (s₁.heap.objs.size + 1 + 1 + 1, o3) :: (s₁.heap.objs.size + 1 + 1, o2) :: (s₁.heap.objs.size + 1, o1) :: bl ∧ Strs ys ((List.range i).map (fP cs))) ?_ ?_ _ 0 [] _ (Nat.zero_add _) ⟨rfl, .nil⟩
  · rintro i v ys nx I oI C oC D m₂ h2 tk2 E' hi6 hv ⟨rfl, hys⟩ hC hx F1 N1 off ne
    obtain ⟨t, rfl⟩ := hv
    clear F0 N0
    have hci : (97 : Int) + (0 + (i : Int)) = ((97 + i : Nat) : Int) := by omega
    rw [Int.zero_add] at hx
    walk_at "go"
    have hcn : (97 + (i : Int)).toNat = 97 + i := by omega
    rw [hcn]
    refine c_get (by assumption) (by assumption) (by assumption) (by assumption) (by assumption) rfl (by ktr_room) (chr_ok hi6) (by k_mem) (by k_mem) (by k_mem) (hT.mono fun q hq => .tail _ (.tail _ (.tail _ (.tail _ (.tail _ (.tail _ (.tail _ hq))))))) hok2 ?_ ?_
    · intro d t8 h8 tk8 hlk F8 N8
      walk_at "go"
      refine LCg.CompEnd.intro (by assumption) (by assumption) _ (fun p hp => hp) off trivial ⟨rfl, ?_⟩
      have hf : fP cs i = d := by unfold fP; rw [hlk]; rfl
      rw [List.range_succ, List.map_append, List.map_cons, List.map_nil, hf]
      exact hys.snoc
    · intro h8 tk8 hlk F8 N8
      walk_at "go"
      refine LCg.CompEnd.intro (by assumption) (by assumption) _ (fun p hp => hp) off trivial ⟨rfl, ?_⟩
      have hf : fP cs i = 56 := by unfold fP; rw [hlk]; rfl
      have h8 : Str.ofString "8" = S1 56 := by decide +kernel
      rw [List.range_succ, List.map_append, List.map_cons, List.map_nil, hf, h8]
      exact hys.snoc
  · rintro ys nx ⟨rfl, hys⟩
    clear F0 N0
    unfold LCg.FinA
    intro D h3 tk3 F3 N3 o3'
    have hoD := off1_all o3'
    walk_at "go"
    refine r_ListCompC (by with_unfolding_all rfl) rfl (by decide) ?_
    walk_at "go"
    rename_i zzM; revert zzM; rename_i zzM; revert zzM; rename_i zzM; revert zzM; rename_i zzM; revert zzM; rename_i zzM; revert zzM; rename_i zzM; revert zzM; rename_i zzM; revert zzM; rename_i zzM
    revert zzM; rename_i zzM; revert zzM; revert hoD o3'; rename_i zzM; revert zzM; rename_i zzM; revert zzM; revert tk3 h3 D hys ys gh; rename_i zzM; revert zzM; rename_i zzM; revert zzM; rename_i zzM
    revert zzM; rename_i zzM; revert zzM; rename_i zzM; revert zzM; rename_i zzM; revert zzM; rename_i zzM; revert zzM; revert hok2; rename_i zzM; revert zzM
    revert hT hb1 hb2 hb3 hb4 md0 mx0 mN0 mP0 mH0 bl hlow hk4 hok hkl hcl hpi ks hns cs axH adx aNd aPN z4 dc4; rename_i zzM; revert zzM
    revert nn nv pn pv hn hv' tk9 h m₁ h4 h3 D3 hDL DL h1 D1 tk do3 o3 h98 do2 o2 h95 do1 o1 h92 h91 h88 D0 kX Gc
    revert tk9 h9 tkC h10 tkB h9a h8 H0 tkA h7 L7 g7 l67 h66 d0 x0 h63 N0a h60 P0 ek1 qk1 dc4 dc3 dc2 dc1 c4 c3 c2 c1 tk₁ h₁ hD K0 hcond' hsl hr2 hI r0 w1' ra hZ w8 sv sc w6 w5 hl2 hr hL hlay0 hs is hcd w4 w3 M w2 w1 TW TE B T GL V X KX hg ho doc pm o fa Y G mb mg s₁ s₀ w
    exact hStop1.out)
end S_E7
section S_E8
theorem afresh26 : True := by w_top off; trivial
set_option hygiene false in
local macro_rules | `(tactic| walk_at "subscriptTail") => `(tactic| ((with_reducible show H24); (refine' r_item_int (by k_asm) (by k_mem) (by assumption) (by omega) (by (simp only [List.length_map]; omega)) (by omega) ?_); intro n' t' e'))
noncomputable def mP (ks : List Nat) (k : Nat) : Nat := ((List.range 8).find? fun t => ks.getD t 0 == k).getD 8
theorem find_congr {α : Type} {p q : α → Bool} : ∀ {l : List α}, (∀ x ∈ l, p x = q x) → l.find? p = l.find? q
  | [], _ => rfl
  | a :: r, h => by
    rw [List.find?_cons, List.find?_cons, h a (.head _), find_congr fun x hx => h x (.tail _ hx)]
theorem fP_mP {cs ks : List Nat} (hlow : ∀ j, j < 8 → lowc (cs.getD j 0) = 97 + ks.getD j 0) {k : Nat} (hk : k < 6) : fP cs k = 48 + mP ks k := by
  have e : (stC cs).find? (fun q => lowc q.1 == lowc (97 + k)) = ((List.range 8).find? fun t => ks.getD t 0 == k).map fun j => (cs.getD j 0, 48 + j) := by
    unfold stC
    rw [List.find?_map]
    congr 1
    refine find_congr fun j hj => ?_
    have hj := List.mem_range.mp hj
    show (lowc (cs.getD j 0) == lowc (97 + k)) = _
    rw [hlow j hj]
    have : lowc (97 + k) = 97 + k := by unfold lowc; split <;> omega
    rw [this]
    by_cases h : ks.getD j 0 = k
    · rw [h, beq_self_eq_true, beq_self_eq_true]
    · have h2 : ¬ 97 + ks.getD j 0 = 97 + k := by omega
      rw [beq_eq_false_iff_ne.mpr h, beq_eq_false_iff_ne.mpr h2]
  unfold fP lk mP
  rw [e]
  cases (List.range 8).find? fun t => ks.getD t 0 == k <;> rfl
theorem min_is {ks : List Nat} {k : Nat} {M : Int} (hm : M ∈ (((List.range 8).filter fun (t : Nat) => ks.getD t 0 == k).map fun (t : Nat) => (t : Int)) ++ [8]) (hle : ∀ a, a ∈ (((List.range 8).filter fun (t : Nat) => ks.getD t 0 == k).map fun (t : Nat) => (t : Int)) ++ [8] → M ≤ a) : M = (mP ks k : Int) := by
  unfold mP
  cases hf : (List.range 8).find? fun t => ks.getD t 0 == k with
  | none =>
    rw [List.find?_eq_none] at hf
    rcases List.mem_append.mp hm with h | h
    · obtain ⟨t, ht, rfl⟩ := List.mem_map.mp h
      have ht := List.mem_filter.mp ht
      exact absurd ht.2 (hf t ht.1)
    · exact List.mem_singleton.mp h
  | some t =>
    have ht := List.mem_of_find?_eq_some hf
    have hp := List.find?_some hf
    have h8 := List.mem_range.mp ht
    have h1 : M ≤ (t : Int) := hle _ (List.mem_append_left _ (List.mem_map.mpr ⟨t, List.mem_filter.mpr ⟨ht, hp⟩, rfl⟩))
    have h2 : (t : Int) ≤ M := by
      rcases List.mem_append.mp hm with h | h
      · obtain ⟨j, hj, rfl⟩ := List.mem_map.mp h
        have hj := List.mem_filter.mp hj
        have hr := (List.find?_range_eq_some.mp hf).2.2
        by_cases hlt : j < t
        · have := hr j hlt
          rw [hj.2] at this
          cases this
        · omega
      · rw [List.mem_singleton.mp h]; omega
    show M = (t : Int)
    omega
theorem mP_le (ks : List Nat) (k : Nat) : mP ks k ≤ 8 := by
  unfold mP
  cases hf : (List.range 8).find? fun t => ks.getD t 0 == k with
  | none => exact Nat.le_refl _
  | some t =>
    have := List.mem_range.mp (List.mem_of_find?_eq_some hf)
    show t ≤ 8
    omega
theorem str_dig9 {i : Nat} (h : i ≤ 8) : Str.ofString (toString (i : Int)) = S1 (48 + i) := by
  rcases i with _ | _ | _ | _ | _ | _ | _ | _ | _ | i <;> first | decide +kernel | omega
local macro_rules | `(tactic| walk_at "none here") => `(tactic| fail)
noncomputable def S_E7_g3 := fun (hStop1 : Keep (_ : Prop)) => (show Dom11 S_E6_g1 from by
  delta Dom11
  intros w s₀ s₁ mg mb G Y fa o pm doc ho hg KX X V GL T B TE TW w1 w2 M w3 w4 hcd is hs hlay0 hL hr hl2 w5 w6 sc sv w8 hZ ra w1' r0 hI hr2 hsl hcond' K0 hD h₁ tk₁ c1 c2 c3 c4 dc1 dc2 dc3 dc4 qk1 ek1 P0
  intros h60 N0a h63 x0 d0 h66 l67 g7 L7 h7 tkA H0 h8 h9a tkB h10 tkC h9 tk9 Gc kX D0 h88 h91 h92 o1 do1 h95 o2 do2 h98 o3 do3 tk D1 h1 DL hDL D3 h3 h4 m₁ h tk9 hv' hn pv pn nv nn _ dc4 z4 aPN aNd adx axH
  intros cs hns ks hpi hcl hkl hok hk4 hlow bl mH0 mP0 mN0 mx0 md0 hb4 hb3 hb2 hb1 hT _ hok2 _ _ _ _ _ _ _ gh ys hys D h3 tk3 _ _ o3' hoD _ _ _ _ _ _ _ _ _
  w_top off
  rename Fr _ _ _ _ => F4
  rename News _ _ _ _ => N4
  refine r_compCR (n := 6) (fun i zs nx => zs.length = i ∧ nx = (D, LCg.lst ys) :: (s₁.heap.objs.size + 1 + 1 + 1 + 1, c1) :: (s₁.heap.objs.size + 1 + 1 + 1, o3) :: (s₁.heap.objs.size + 1 + 1, o2) :: (s₁.heap.objs.size + 1, o1) :: bl ∧ Strs zs ((List.range i).map fun k => 48 + mP ks k)) rfl (by rw [sizeLine_eq]; decide) (by assumption) (by decide) (by rfl) (fun _ _ _ h => h.1) (fun _ => rfl) (fun _ => rfl) rfl rfl F4 N4 ⟨rfl, rfl, .nil⟩ ?_ ?_
  · rintro i t zs nx I oI C oC c oc D5 m₂ h5 tk5 E' g hi6 ⟨hzl, rfl, hzs⟩ hC hoc F5 N5 off ne
    clear F4 N4
    rw [Int.zero_add] at hoc
    walk_at "go"
    rename Fr _ _ _ _ => F6
    rename News _ _ _ _ => N6
    try clear F5
    try clear N5
    refine LCt.CompSrcT.range (n := 8) rfl F6 N6 (by assumption) (by decide) (by rfl) (by rw [sizeLine_eq]; decide) fun gh => ?_
    dsimp only
    refine restT (n := 8) (fun j ws nx => nx = (I, oI) :: (C, oC) :: (c, oc) :: (D5, LCg.lst zs) :: (D, LCg.lst ys) :: (s₁.heap.objs.size + 1 + 1 + 1 + 1, c1) :: (s₁.heap.objs.size + 1 + 1 + 1, o3) :: (s₁.heap.objs.size + 1 + 1, o2) :: (s₁.heap.objs.size + 1, o1) :: bl ∧ IntsAre ws (((List.range j).filter fun (t : Nat) => ks.getD t 0 == i).map fun (t : Nat) => (t : Int))) ?_ ?_ _ 0 [] _ (Nat.zero_add _) ⟨rfl, .nil⟩
    · rintro j v2 ws nx I2 oI2 C2 oC2 D2 m2 h2 tk2 E2' hj8 hv2 ⟨rfl, hws⟩ hC2 hx2 F7 N7 off2 ne2
      obtain ⟨t2, rfl⟩ := hv2
      try clear F6
      try clear N6
      rw [Int.zero_add] at hx2
      have hpl : (ks.map fun (k : Nat) => (k : Int)).length = 8 := by rw [List.length_map, hkl]
      walk_at "go"
      all_goals (
        rename_i he
        have g1 : ((ks.getD j 0 : Nat) : Int) = n' := by
          rw [Int.toNat_natCast, List.getElem?_map] at e'
          rw [List.getD_eq_getElem?_getD]
          cases hq : ks[j]? with
          | none => rw [hq] at e'; cases e'
          | some q => rw [hq] at e'; cases e'; rfl
        refine LCg.CompEnd.intro (by assumption) (by assumption) _ (fun p hp => hp) off2 trivial ⟨rfl, ?_⟩)
      · have g2 : ks.getD j 0 = i := by omega
        rw [List.range_succ, List.filter_append, List.map_append, List.filter_cons, if_pos (beq_iff_eq.mpr g2)]
        exact hws.append (.cons _ _ .nil)
      · have g2 : ¬ ks.getD j 0 = i := by omega
        rw [List.range_succ, List.filter_append, List.filter_cons, if_neg (by rw [beq_eq_false_iff_ne.mpr g2]; decide), List.filter_nil, List.append_nil]
        exact hws
    · rintro ws nx ⟨rfl, hws⟩
      try clear F6
      try clear N6
      unfold LCg.FinE
      intro D6 h7 tk7 F7 N7 o7
      walk_at "go"
      rename Fr _ _ _ _ => F8
      rename News _ _ _ _ => N8
      have hwl : ws.length ≤ 8 := by
        rw [hws.length, List.length_map]
        exact Nat.le_trans (List.length_filter_le _ _) (by decide)
      refine kmk_add_lit (zs := ws ++ [Value.int 8 _]) F8 N8 (N8.isList (by k_mem)) (N8.isList (by k_mem)) rfl ?_ (by rw [sizeLine_eq]; simp only [List.size_toArray, List.length_cons, List.length_nil]; omega)
      intro D9 h9 F9 N9 l9
      walk_at "go"
      refine kso_min (ns := (((List.range 8).filter fun (t : Nat) => ks.getD t 0 == i).map fun (t : Nat) => (t : Int)) ++ [8]) F9 N9 (N9.isList (.head _)) (hws.append (.cons _ _ .nil)) (by rw [List.length_append]; exact Nat.lt_of_lt_of_le Nat.zero_lt_one (Nat.le_add_left _ _)) rfl ?_
      intro h10 M tM tk10 F10 N10 hM hMle
      obtain rfl := min_is hM hMle
      have hmp := mP_le ks i
      walk_at "go"
      rw [str_dig9 hmp]
      refine CEnd.intro (by assumption) (by assumption) _ (by walk_at "sub") off ⟨by rw [List.length_append, hzl]; rfl, rfl, ?_⟩
      · rw [List.range_succ, List.map_append, List.map_cons, List.map_nil]
        exact hzs.snoc
  · rintro D5 C h5 tk5 m' zs nx F5 N5 hD5 hn hC₀ hCL hDL hD₀ hCD hoC ⟨hzl, rfl, hzs⟩
    refine compPostE F5 N5 hD5 hn hC₀ hCL hCD hoC ?_
    intro h6 tk6 F6 N6
    clear F4 N4
    walk_at "go"
    revert N6 F6 tk6 h6 hoC hD5 N5 hzs hzl hCD hD₀ hDL hCL hC₀ hn F5 zs m' tk5 h5 C D5; rename_i zzM; revert zzM; rename_i zzM; revert zzM; rename_i zzM; revert zzM; rename_i zzM; revert zzM; rename_i zzM
    revert zzM; rename_i zzM; revert zzM; rename_i zzM; revert zzM; revert hoD o3'; rename_i zzM; revert zzM; rename_i zzM; revert zzM; revert tk3 h3 D hys ys gh; rename_i zzM; revert zzM; rename_i zzM
    revert zzM; rename_i zzM; revert zzM; rename_i zzM; revert zzM; rename_i zzM; revert zzM; rename_i zzM; revert zzM; rename_i zzM; revert zzM; revert hok2; rename_i zzM; revert zzM
    revert hT hb1 hb2 hb3 hb4 md0 mx0 mN0 mP0 mH0 bl hlow hk4 hok hkl hcl hpi ks hns cs axH adx aNd aPN z4 dc4; rename_i zzM; revert zzM
    revert nn nv pn pv hn hv' tk9 h m₁ h4 h3 D3 hDL DL h1 D1 tk do3 o3 h98 do2 o2 h95 do1 o1 h92 h91 h88 D0 kX Gc
    revert tk9 h9 tkC h10 tkB h9a h8 H0 tkA h7 L7 g7 l67 h66 d0 x0 h63 N0a h60 P0 ek1 qk1 dc4 dc3 dc2 dc1 c4 c3 c2 c1 tk₁ h₁ hD K0 hcond' hsl hr2 hI r0 w1' ra hZ w8 sv sc w6 w5 hl2 hr hL hlay0 hs is hcd w4 w3 M w2 w1 TW TE B T GL V X KX hg ho doc pm o fa Y G mb mg s₁ s₀ w
    exact hStop1.out)
end S_E8
section S_E9
theorem afresh27 : True := by w_top off; trivial
set_option hygiene false in
local macro_rules | `(tactic| walk_at "subscriptTail") => `(tactic| ((with_reducible show H24); (refine' r_item_int (by k_asm) (by k_mem) (by assumption) (by omega) (by (simp only [List.length_map]; omega)) (by omega) ?_); intro n' t' e'))
theorem strsDat {news : List (Addr × Obj)} {vs : List Value} {ds : List Nat} (h : Strs vs ds) : DatAll news vs (ds.map fun d => Dat.str (S1 d)) := by
  induction h with
  | nil => exact .nil
  | cons _ ih => exact .cons (.str _ _) ih
theorem str_fine : ∀ d, d < 200 → PyData.strOk (S1 d) = true := by decide +kernel
theorem dec_refl {α : Type} (x : α) (i : Decidable (x = x)) : @decide (x = x) i = true := @decide_eq_true _ i rfl
noncomputable def S_E8_g2 := fun (hStop1 : Keep (_ : Prop)) => (show Dom11 S_E7_g3 from by
  delta Dom11
  intros w s₀ s₁ mg mb G Y fa o pm doc ho hg KX X V GL T B TE TW w1 w2 M w3 w4 hcd is hs hlay0 hL hr hl2 w5 w6 sc sv w8 hZ ra w1' r0 hI hr2 hsl hcond' K0 hD h₁ tk₁ c1 c2 c3 c4 dc1 dc2 dc3 dc4 qk1 ek1 P0
  intros h60 N0a h63 x0 d0 h66 l67 g7 L7 h7 tkA H0 h8 h9a tkB h10 tkC h9 tk9 Gc kX D0 h88 h91 h92 o1 do1 h95 o2 do2 h98 o3 do3 tk D1 h1 DL hDL D3 h3 h4 m₁ h tk9 hv' hn pv pn nv nn _ dc4 z4 aPN aNd adx axH
  intros cs hns ks hpi hcl hkl hok hk4 hlow bl mH0 mP0 mN0 mx0 md0 hb4 hb3 hb2 hb1 hT _ hok2 _ _ _ _ _ _ _ gh ys hys D h3 tk3 _ _ o3' hoD _ _ _ _ _ _ _ D5 C h5 tk5 m' zs F5 hn hC₀ hCL hDL hD₀ hCD hzl hzs
  intros N5 hD5 hoC h6 tk6 F6 N6
  w_top off
  have hfm : (List.range 6).map (fP cs) = (List.range 6).map fun k => 48 + mP ks k := List.map_congr_left fun k hk => fP_mP hlow (List.mem_range.mp hk)
  rw [hfm] at hys
  have hdk : ∀ d ∈ (((List.range 6).map fun k => 48 + mP ks k).map fun d => Dat.str (S1 d)), kqdOk 8 d = true := by
    intro d hd
    obtain ⟨e, he, rfl⟩ := List.mem_map.mp hd
    obtain ⟨k, _, rfl⟩ := List.mem_map.mp he
    have := mP_le ks k
    exact str_fine _ (by omega)
  refine kqd_ne (news := _) N6 (.tail _ (.head _)) rfl rfl (strsDat (news := []) hys) (fun _ h => nomatch h) (.head _) rfl rfl (strsDat (news := []) hzs) (fun _ h => nomatch h) hdk hdk (by k_units) ?_
  rw [dec_refl]
  clear N5 hD5 hoC hoD o3'
  walk_at "go"
  rename_i AA h8 l8 SS h9a l9 D8 h10 l10 h11 F11 N11 h12 h13 F13 N13
  revert tk N13 F13 h13 h12 N11 F11 h11 l10 h10 D8 l9 h9a SS l8 h8 AA hdk hfm tk6 h6 hzs hzl hCD hD₀ hDL hCL hC₀ hn zs m' tk5 h5 C D5; rename_i zzM; revert zzM; rename_i zzM; revert zzM; rename_i zzM
  revert zzM; rename_i zzM; revert zzM; rename_i zzM; revert zzM; rename_i zzM; revert zzM; rename_i zzM; revert zzM; revert tk3 h3 D hys ys gh; rename_i zzM; revert zzM; rename_i zzM; revert zzM
  rename_i zzM; revert zzM; rename_i zzM; revert zzM; rename_i zzM; revert zzM; rename_i zzM; revert zzM; rename_i zzM; revert zzM; revert hok2; rename_i zzM; revert zzM
  revert hT hb1 hb2 hb3 hb4 md0 mx0 mN0 mP0 mH0 bl hlow hk4 hok hkl hcl hpi ks hns cs axH adx aNd aPN z4 dc4 nn nv pn pv hn hv' tk9 h m₁ h4 h3 D3 hDL DL h1 D1 tk do3 o3 h98 do2 o2 h95 do1 o1 h92 h91 h88 D0 kX Gc
  revert tk9 h9 tkC h10 tkB h9a h8 H0 tkA h7 L7 g7 l67 h66 d0 x0 h63 N0a h60 P0 ek1 qk1 dc4 dc3 dc2 dc1 c4 c3 c2 c1 tk₁ h₁ hD K0 hcond' hsl hr2 hI r0 w1' ra hZ w8 sv sc w6 w5 hl2 hr hL hlay0 hs is hcd w4 w3 M w2 w1 TW TE B T GL V X KX hg ho doc pm o fa Y G mb mg s₁ s₀ w
  exact hStop1.out)
end S_E9
end R_3_0
section S_E10
theorem afresh28 : True := by w_top off; trivial
noncomputable def occ (ks : List Nat) (t : Nat) : List Nat := (List.range 8).filter fun j => ks.getD j 0 == ks.getD t 0
noncomputable def tm (ks : List Nat) (t : Nat) : List Int := [-1] ++ (occ ks t).map (fun (j : Nat) => (j : Int)) ++ [8]
noncomputable def aheadP (ks : List Nat) (t : Nat) : Int := (tm ks t).getD (bisP (tm ks t) t) 0
noncomputable def sinceP (ks : List Nat) (t : Nat) : Int := (tm ks t).getD (bisP (tm ks t) t - 2) 0
theorem tm_mem {ks : List Nat} {t : Nat} {n : Int} (h : n ∈ tm ks t) : -1 ≤ n ∧ n ≤ 8 := by
  unfold tm at h
  simp only [List.mem_append, List.mem_singleton, List.mem_map] at h
  rcases h with (h | ⟨j, hj, rfl⟩) | h
  · omega
  · have := List.mem_range.mp (List.mem_filter.mp hj).1
    omega
  · omega
theorem tm_bis {ks : List Nat} {t : Nat} (ht : t < 8) : 2 ≤ bisP (tm ks t) t ∧ bisP (tm ks t) t + 1 ≤ (tm ks t).length := by
  unfold bisP tm
  have e8 : decide ((8 : Int) ≤ (t : Int)) = false := decide_eq_false (by omega)
  have e1 : decide ((-1 : Int) ≤ (t : Int)) = true := decide_eq_true (by omega)
  rw [List.filter_append, List.filter_append, List.filter_cons, if_pos e1, List.filter_cons, if_neg (by rw [e8]; decide), List.filter_nil, List.append_nil]
  have hm : (t : Int) ∈ (((occ ks t).map fun (j : Nat) => (j : Int)).filter fun n => decide (n ≤ (t : Int))) :=
    List.mem_filter.mpr ⟨List.mem_map.mpr ⟨t, List.mem_filter.mpr ⟨List.mem_range.mpr ht, beq_self_eq_true _⟩, rfl⟩, decide_eq_true (Int.le_refl _)⟩
  have h1 : 0 < (((occ ks t).map fun (j : Nat) => (j : Int)).filter fun n => decide (n ≤ (t : Int))).length := List.length_pos_of_mem hm
  have h2 := List.length_filter_le (fun n => decide (n ≤ (t : Int))) ((occ ks t).map fun (j : Nat) => (j : Int))
  simp only [List.length_append, List.length_cons, List.length_nil, List.filter_nil] at *
  omega
theorem tm_sorted (ks : List Nat) (t : Nat) : Sorted (tm ks t) := by
  have hp : (tm ks t).Pairwise (· ≤ ·) := by
    unfold tm
    rw [List.append_assoc, List.singleton_append, List.pairwise_cons]
    constructor
    · intro n hn
      exact (tm_mem (ks := ks) (t := t) (by unfold tm; rw [List.append_assoc]; exact List.mem_append_right _ hn)).1
    · rw [List.pairwise_append]
      refine ⟨?_, List.pairwise_singleton _ _, fun a ha b hb => ?_⟩
      · rw [List.pairwise_map]
        refine List.Pairwise.imp ?_ ((List.pairwise_lt_range (n := 8)).filter _)
        intro a b h
        omega
      · rw [List.mem_singleton.mp hb]
        exact (tm_mem (ks := ks) (t := t) (by unfold tm; exact List.mem_append_left _ (List.mem_append_right _ ha))).2
  intro i j a b hij ha hb
  rcases Nat.lt_or_ge i j with hlt | hge
  · obtain ⟨hi, rfl⟩ := List.getElem?_eq_some_iff.mp ha
    obtain ⟨hj, rfl⟩ := List.getElem?_eq_some_iff.mp hb
    exact List.pairwise_iff_getElem.mp hp i j hi hj hlt
  · obtain rfl : i = j := Nat.le_antisymm hij hge
    rw [ha] at hb
    cases hb
    exact Int.le_refl _
theorem all_occ {cs ks : List Nat} (hlow : ∀ j, j < 8 → lowc (cs.getD j 0) = 97 + ks.getD j 0) {t : Nat} (ht : t < 8) : lkAll (stC cs) (cs.getD t 0) = (occ ks t).map fun j => 48 + j := by
  unfold lkAll stC occ
  rw [List.filter_map, List.map_map]
  have e : (List.range 8).filter ((fun q : Nat × Nat => lowc q.1 == lowc (cs.getD t 0)) ∘ fun j => (cs.getD j 0, 48 + j)) = (List.range 8).filter fun j => ks.getD j 0 == ks.getD t 0 := by
    refine List.filter_congr fun j hj => ?_
    have hj := List.mem_range.mp hj
    show (lowc (cs.getD j 0) == lowc (cs.getD t 0)) = _
    rw [hlow j hj, hlow t ht]
    by_cases h : ks.getD j 0 = ks.getD t 0
    · rw [h, beq_self_eq_true, beq_self_eq_true]
    · have h2 : ¬ 97 + ks.getD j 0 = 97 + ks.getD t 0 := by omega
      rw [beq_eq_false_iff_ne.mpr h, beq_eq_false_iff_ne.mpr h2]
  rw [e]
  rfl
noncomputable def S_E9_g1 := fun (hStop1 : Keep (_ : Prop)) (hStop2 : Keep (_ : Prop)) => (show Dom11 S_E8_g2 from by
  delta Dom11
  intros w s₀ s₁ mg mb G Y fa o pm doc ho hg KX X V GL T B TE TW w1 w2 M w3 w4 hcd is hs hlay0 hL hr hl2 w5 w6 sc sv w8 hZ ra w1' r0 hI hr2 hsl hcond' K0 hD h₁ tk₁ c1 c2 c3 c4 dc1 dc2 dc3 dc4 qk1 ek1 P0
  intros h60 N0a h63 x0 d0 h66 l67 g7 L7 h7 tkA H0 h8 h9a tkB h10 tkC h9 tk9 Gc kX D0 h88 h91 h92 o1 do1 h95 o2 do2 h98 o3 do3 tk D1 h1 DL hDL D3 h3 h4 m₁ h tk9 hv' hn pv pn nv nn dc4 z4 aPN aNd adx axH
  intros cs hns ks hpi hcl hkl hok hk4 hlow bl mH0 mP0 mN0 mx0 md0 hb4 hb3 hb2 hb1 hT _ hok2 _ _ _ _ _ _ _ gh ys hys D h3 tk3 _ _ _ _ _ _ _ D5 C h5 tk5 m' zs hn hC₀ hCL hDL hD₀ hCD hzl hzs h6 tk6 hfm hdk
  intros AA h8 l8 SS h9a l9 D8 h10 l10 h11 F11 N11 h12 h13 F13 N13 tk
  w_top off
  have hSA : @Ne Nat SS AA := Nat.ne_of_gt l9.1
  have hA4 : @LT.lt Nat _ (s₁.heap.objs.size + 1 + 1 + 1 + 1) AA := l8.2.2.1
  have hS4 : @LT.lt Nat _ (s₁.heap.objs.size + 1 + 1 + 1 + 1) SS := l9.2.2.2.1
  have hAb : ∀ q ∈ bl, @LT.lt Nat _ q.1 AA := allLt_all l8.2.2.2.2.2.2
  have hSb : ∀ q ∈ bl, @LT.lt Nat _ q.1 SS := allLt_all l9.2.2.2.2.2.2.2
  refine r_for ?_
  walk_at "go"
  rename Fr _ _ _ _ => F14
  rename News _ _ _ _ => N14
  have N15 := kst_newsOf (l' := (AA, liO [] 0) :: (SS, liO [] 0) :: (s₁.heap.objs.size + 1 + 1 + 1 + 1, c1) :: (s₁.heap.objs.size + 1 + 1 + 1, o3) :: (s₁.heap.objs.size + 1 + 1, o2) :: (s₁.heap.objs.size + 1, o1) :: bl) N14 (by walk_at "sub")
  clear N14
  refine r_iterR (n := 8) (fun i m nx => ∃ av an sv sn, nx = (AA, liO av an) :: (SS, liO sv sn) :: (s₁.heap.objs.size + 1 + 1 + 1 + 1, c1) :: (s₁.heap.objs.size + 1 + 1 + 1, o3) :: (s₁.heap.objs.size + 1 + 1, o2) :: (s₁.heap.objs.size + 1, o1) :: bl ∧ Has m [("ahead", .ref AA), ("since", .ref SS)] ∧
    IntsAre av ((List.range i).map (aheadP ks)) ∧ IntsAre sv ((List.range i).map (sinceP ks)) ∧ ∀ j, j < i → 0 ≤ aheadP ks j ∧ aheadP ks j ≤ 8) rfl (by assumption) (by decide) (by rfl) F14 N15 ⟨[], 0, [], 0, rfl, ⟨rfl, rfl, trivial⟩, .nil, .nil, fun j h => by omega⟩ ?_ ?_
  · clear F14 N15
    intro i t I oI m₁ nx h tk1 hi8 zzh; refine cps fun zzX zzk => ?_
    obtain ⟨av, an, sv', sn, rfl, hm1, hav, hsv, hab⟩ := zzh
    refine zzk ?_; clear zzk zzX
    intro hIo F1 N1
    generalize hQTa : MTurn _ _ _ _ _ _ _ = QTa
    revert hQTa QTa; refine hold ?_; intro QTa hQTa
    try dsimp only
    obtain ⟨mr, F2⟩ := frOv [("ahead", .ref AA), ("since", .ref SS)] F1 hm1
    clear F1
    dsimp only [kstB] at F2
    walk_at "go"
    revert t'; rename_i zzM; revert zzM; rename_i zzM; revert zzM; rename_i zzM; revert zzM; rename_i zzM; revert zzM; rename_i zzM; revert zzM; revert tk; rename_i zzM; revert zzM
    revert F2 mr hQTa QTa N1 hIo hab hsv hav hm1 sn sv' an av hi8 tk1 h m₁ oI I t i; rename_i zzM; revert zzM; rename_i zzM; revert zzM; rename_i zzM; revert zzM; rename_i zzM; revert zzM; rename_i zzM
    revert zzM; rename_i zzM; revert zzM; rename_i zzM; revert zzM
    revert hSb hAb hS4 hA4 hSA tk h13 h12 N11 F11 h11 l10 h10 D8 l9 h9a SS l8 h8 AA hdk hfm tk6 h6 hzs hzl hCD hD₀ hDL hCL hC₀ hn zs m' tk5 h5 C D5; rename_i zzM; revert zzM; rename_i zzM; revert zzM
    rename_i zzM; revert zzM; rename_i zzM; revert zzM; rename_i zzM; revert zzM; rename_i zzM; revert zzM; rename_i zzM; revert zzM; revert tk3 h3 D hys ys gh; rename_i zzM; revert zzM; rename_i zzM
    revert zzM; rename_i zzM; revert zzM; rename_i zzM; revert zzM; rename_i zzM; revert zzM; rename_i zzM; revert zzM; rename_i zzM; revert zzM; revert hok2; rename_i zzM; revert zzM
    revert hT hb1 hb2 hb3 hb4 md0 mx0 mN0 mP0 mH0 bl hlow hk4 hok hkl hcl hpi ks hns cs axH adx aNd aPN z4 dc4 nn nv pn pv hn hv' tk9 h m₁ h4 h3 D3 hDL DL h1 D1 tk do3 o3 h98 do2 o2 h95 do1 o1 h92 h91 h88 D0 kX Gc
    revert tk9 h9 tkC h10 tkB h9a h8 H0 tkA h7 L7 g7 l67 h66 d0 x0 h63 N0a h60 P0 ek1 qk1 dc4 dc3 dc2 dc1 c4 c3 c2 c1 tk₁ h₁ hD K0 hcond' hsl hr2 hI r0 w1' ra hZ w8 sv sc w6 w5 hl2 hr hL hlay0 hs is hcd w4 w3 M w2 w1 TW TE B T GL V X KX hg ho doc pm o fa Y G mb mg s₁ s₀ w
    exact hStop1.out
  · clear F14 N15
    intro m₁ nx h1 tk1 zzh; refine cps fun zzX zzk => ?_
    obtain ⟨av, an, sv', sn, rfl, hm1, hav, hsv, hab⟩ := zzh
    refine zzk ?_; clear zzk zzX
    intro F1 N1
    revert N1 F1 hab hsv hav hm1 sn sv' an av tk1 h1 m₁; rename_i zzM; revert zzM; rename_i zzM; revert zzM; rename_i zzM; revert zzM; rename_i zzM; revert zzM; rename_i zzM; revert zzM; rename_i zzM
    revert zzM; rename_i zzM; revert zzM; revert hSb hAb hS4 hA4 hSA tk; rename_i zzM; revert zzM; rename_i zzM; revert zzM
    revert h13 h12 N11 F11 h11 l10 h10 D8 l9 h9a SS l8 h8 AA hdk hfm tk6 h6 hzs hzl hCD hD₀ hDL hCL hC₀ hn zs m' tk5 h5 C D5; rename_i zzM; revert zzM; rename_i zzM; revert zzM; rename_i zzM; revert zzM
    rename_i zzM; revert zzM; rename_i zzM; revert zzM; rename_i zzM; revert zzM; rename_i zzM; revert zzM; revert tk3 h3 D hys ys gh; rename_i zzM; revert zzM; rename_i zzM; revert zzM; rename_i zzM
    revert zzM; rename_i zzM; revert zzM; rename_i zzM; revert zzM; rename_i zzM; revert zzM; rename_i zzM; revert zzM; revert hok2; rename_i zzM; revert zzM
    revert hT hb1 hb2 hb3 hb4 md0 mx0 mN0 mP0 mH0 bl hlow hk4 hok hkl hcl hpi ks hns cs axH adx aNd aPN z4 dc4 nn nv pn pv hn hv' tk9 h m₁ h4 h3 D3 hDL DL h1 D1 tk do3 o3 h98 do2 o2 h95 do1 o1 h92 h91 h88 D0 kX Gc
    revert tk9 h9 tkC h10 tkB h9a h8 H0 tkA h7 L7 g7 l67 h66 d0 x0 h63 N0a h60 P0 ek1 qk1 dc4 dc3 dc2 dc1 c4 c3 c2 c1 tk₁ h₁ hD K0 hcond' hsl hr2 hI r0 w1' ra hZ w8 sv sc w6 w5 hl2 hr hL hlay0 hs is hcd w4 w3 M w2 w1 TW TE B T GL V X KX hg ho doc pm o fa Y G mb mg s₁ s₀ w
    exact hStop2.out)
end S_E10
section S_E11
theorem afresh29 : True := by w_top off; trivial
theorem occ_lt {ks : List Nat} {t j : Nat} (h : j ∈ occ ks t) : j < 8 := List.mem_range.mp (List.mem_filter.mp h).1
theorem dg_ok {j : Nat} (h : j < 9) : 48 + j ∈ dgL := by
  rcases j with _ | _ | _ | _ | _ | _ | _ | _ | _ | j <;> first | decide | omega
theorem getD_mem {l : List Nat} {i : Nat} (h : i < l.length) : l.getD i 0 ∈ l := by
  rw [List.getD_eq_getElem?_getD, List.getElem?_eq_getElem h]
  exact List.getElem_mem _
noncomputable def S_E10_g1 := fun (hStop1 : Keep (_ : Prop)) => (show Dom21 S_E9_g1 from by
  delta Dom21
  intros w s₀ s₁ mg mb G Y fa o pm doc ho hg KX X V GL T B TE TW w1 w2 M w3 w4 hcd is hs hlay0 hL hr hl2 w5 w6 sc sv w8 hZ ra w1' r0 hI hr2 hsl hcond' K0 hD h₁ tk₁ c1 c2 c3 c4 dc1 dc2 dc3 dc4 qk1 ek1 P0
  intros h60 N0a h63 x0 d0 h66 l67 g7 L7 h7 tkA H0 h8 h9a tkB h10 tkC h9 tk9 Gc kX D0 h88 h91 h92 o1 do1 h95 o2 do2 h98 o3 do3 tk D1 h1 DL hDL D3 h3 h4 m₁ h tk9 hv' hn pv pn nv nn dc4 z4 aPN aNd adx axH
  intros cs hns ks hpi hcl hkl hok hk4 hlow bl mH0 mP0 mN0 mx0 md0 hb4 hb3 hb2 hb1 hT _ hok2 _ _ _ _ _ _ _ gh ys hys D h3 tk3 _ _ _ _ _ _ _ D5 C h5 tk5 m' zs hn hC₀ hCL hDL hD₀ hCD hzl hzs h6 tk6 hfm hdk
  intros AA h8 l8 SS h9a l9 D8 h10 l10 h11 F11 N11 h12 h13 tk hSA hA4 hS4 hAb hSb _ _ _ _ _ _ _ i t I oI m₁ h tk1 hi8 av an sv' sn hm1 hav hsv hab hIo N1 QTa hQTa mr F2 _ tk _ _ _ _ _ t'
  w_top off
  rename_i g1 g2 g3 g4 g5 g6 g7 g8 g9 g10 g11 g12 g13 g14 g15 g16 g17 g18 g19 g20 g21 g22 h2 LM h3 F3 N3 l3
  have hti : ((0 : Int) + (i : Int)).toNat = i := by omega
  rw [hti]
  refine c_get_all (by assumption) F3 (by assumption) N3 (by assumption) rfl (by ktr_room) (hok _ (getD_mem (by omega))) (by k_mem) (by k_mem) (by k_mem) (hT.mono fun q hq => .tail _ (.tail _ (.tail _ (.tail _ (.tail _ (.tail _ (.tail _ (.tail _ hq)))))))) hok2 (by simp [stC]) ?_
  intro DG ys h5 tk5 F5 N5 offG hys
  rw [all_occ hlow hi8] at hys
  clear F3 N3
  walk_at "go"
  have hyl : ys.length ≤ 8 := by
    rw [hys.length, List.length_map]
    exact Nat.le_trans (List.length_filter_le _ _) (by decide)
  refine LCg.CompSrc.ledger (k := ys.length) rfl F5 N5 (.head _) (by rw [sizeLine_eq, List.size_toArray]; omega) fun gh => ?_
  dsimp only
  refine restU (n := ys.toArray.size) (fun j zs nx => nx = (DG, liO ys ys.length) :: (LM, W.listOf #[Value.int (-1) _] 0) :: (I, oI) :: (AA, liO av an) :: (SS, liO sv' sn) :: (s₁.heap.objs.size + 1 + 1 + 1 + 1, c1) :: (s₁.heap.objs.size + 1 + 1 + 1, o3) :: (s₁.heap.objs.size + 1 + 1, o2) :: (s₁.heap.objs.size + 1, o1) :: bl ∧ IntsAre zs (((occ ks i).take j).map fun (j : Nat) => (j : Int))) ?_ ?_ _ 0 [] _ (Nat.zero_add _) ⟨rfl, .nil⟩
  · rintro j v zs nx I2 oI2 C2 oC2 D2 m2 h2 tk2 E2' hj hv ⟨rfl, hzs⟩ hC2 hx2 F7 N7 off2 ne2
    clear F5 N5
    obtain ⟨d, t2, rfl, hd⟩ := hys.get (show ys[j]? = some v by simpa using hv)
    rw [List.getElem?_map] at hd
    obtain ⟨o, ho, rfl⟩ := Option.map_eq_some_iff.mp hd
    have hdg : 48 + o ∈ dgL := dg_ok (by have := occ_lt (List.mem_of_getElem? ho); omega)
    walk_at "go"
    refine LCg.CompEnd.intro (by assumption) (by assumption) _ (fun p hp => hp) off2 (.inr ⟨_, .head _, rfl, _, rfl⟩) ⟨rfl, ?_⟩
    have e48 : ((48 + o : Nat) : Int) - 48 = (o : Int) := by omega
    rw [e48, List.take_add_one, ho, List.map_append]
    exact hzs.append (.cons _ _ .nil)
  · rintro zs nx ⟨rfl, hzs⟩
    rw [List.take_of_length_le (by rw [List.size_toArray, hys.length, List.length_map]; exact Nat.le_refl _)] at hzs
    clear F5 N5
    unfold LCg.FinE
    intro D6 h7 tk7 F7 N7 o7
    walk_at "go"
    clear o7; revert N7 F7 tk7 h7 D6 hzs zs gh; clear hyl; revert hys; clear offG; revert tk5; clear h5; revert ys DG hti; clear t'; clear l3; revert h3 LM tk h2; clear F2; revert mr hQTa QTa; clear N1
    revert hIo hab hsv hav; clear hm1; revert sn sv' an av hi8 tk1 h; clear m₁; revert oI I t i; clear g22; clear g21; clear g20; clear g19; clear g18; revert g17 g16 hSb hAb; clear hS4; clear hA4
    revert hSA g15 h13; clear h12; revert N11 F11 h11 l10 h10 D8 l9; clear h9a; revert SS l8 h8 AA; clear hdk; clear hfm; clear tk6; clear h6; revert hzs hzl; clear hCD; clear hD₀; clear hDL; clear hCL
    clear hC₀; clear hn; revert zs; clear m'; clear tk5; clear h5; clear C; revert D5; clear g14; clear g13; clear g12; clear g11; clear g10; clear g9; clear g8; clear tk3; revert h3 D; clear hys; revert ys
    clear gh; clear g7; clear g6; clear g5; clear g4; clear g3; clear g2; clear g1; clear hok2; rename_i zzM; clear zzM; clear hT; clear hb1; clear hb2; clear hb3; clear hb4; clear md0; clear mx0; clear mN0
    clear mP0; clear mH0; revert bl; clear hlow; clear hk4; clear hok; clear hkl; clear hcl; clear hpi; revert ks; clear hns; revert cs; clear axH; clear adx; clear aNd; clear aPN; clear z4; clear dc4
    clear nn; clear nv; clear pn; clear pv; clear hn; clear hv'; clear tk9; revert h m₁; clear h4; revert h3; clear D3; clear hDL; clear DL; revert h1; clear D1; clear tk; clear do3; revert o3; clear h98
    clear do2; revert o2; clear h95; clear do1; revert o1; clear h92; clear h91; clear h88; clear D0; revert kX Gc; clear tk9; clear h9; clear tkC; revert h10; clear tkB; clear h9a; revert h8 H0; clear tkA
    clear h7; clear L7; clear g7; clear l67; clear h66; revert d0 x0; clear h63; revert N0a; clear h60; revert P0 ek1 qk1; clear dc4; clear dc3; clear dc2; clear dc1; clear c4; clear c3; clear c2; revert c1
    clear tk₁; clear h₁; clear hD; revert K0; clear hcond'; revert hsl hr2; clear hI; clear r0; clear w1'; revert ra hZ w8 sv sc w6; clear w5; clear hl2; revert hr; clear hL; clear hlay0; clear hs
    revert is; clear hcd; clear w4; revert w3 M w2 w1; clear TW; clear TE; clear B; revert T GL; clear V; clear X; revert KX; clear hg; clear ho; clear doc; clear pm; clear o; revert fa; clear Y; clear G
    revert mb mg s₁ s₀ w
    exact hStop1.out)
end S_E11
section S_E12
theorem afresh30 : True := by w_top off; trivial
theorem S_E11_g1 : Dom11 S_E10_g1 := by
  delta Dom11
  intros w s₀ s₁ mg mb fa KX GL T w1 w2 M w3 is hr w6 sc sv w8 hZ ra hr2 hsl K0 c1 qk1 ek1 P0 N0a x0 d0 H0 h8 h10 Gc kX o1 o2 o3 h1 h3 m₁ h cs ks bl ys D h3 D5 zs hzl hzs AA h8 l8 SS l9 D8 h10 l10 h11 F11
  intros N11 h13 g15 hSA hAb hSb g16 g17 i t I oI h tk1 hi8 av an sv' sn hav hsv hab hIo QTa hQTa mr h2 tk LM h3 hti DG ys tk5 hys gh zs hzs D6 h7 tk7 F7 N7
  w_top off
  obtain ⟨tb, htb⟩ : ∃ tb, tb = bisP (tm ks i) i := ⟨_, rfl⟩
  have htb2 := tm_bis (ks := ks) hi8
  rw [← htb] at htb2
  have hzl : zs.length ≤ 8 := by
    rw [hzs.length, List.length_map]
    exact Nat.le_trans (List.length_filter_le _ _) (by decide)
  refine kmk_add_lit (zs := [Value.int (-1) _] ++ zs) F7 N7 (N7.isList (.tail _ (.tail _ (.head _)))) (N7.isList (.head _)) rfl ?_ (by rw [sizeLine_eq]; show 1 + zs.length ≤ 16777216; omega)
  intro D8 h8 F8 N8 l8
  walk_at "go"
  rename Fr _ _ _ _ => F9
  rename News _ _ _ _ => N9
  refine kmk_add_lit (zs := [Value.int (-1) _] ++ zs ++ [Value.int 8 _]) F9 N9 (N9.isList (by k_mem)) (N9.isList (by k_mem)) rfl ?_ (by rw [sizeLine_eq]; simp only [List.size_toArray, List.length_append, List.length_cons, List.length_nil]; omega)
  intro D10 h10 F10 N10 l10
  walk_at "go"
  rename Fr _ _ _ _ => F11
  rename News _ _ _ _ => N11
  refine cps fun zzX zzk => ?_
  obtain ⟨tv, htv, N12⟩ : ∃ tv, IntsAre tv (tm ks i) ∧ News s₁.heap s₁.heap.objs.size _ ((D10, liO tv 0) :: (I, oI) :: (AA, liO av an) :: (SS, liO sv' sn) :: (s₁.heap.objs.size + 1 + 1 + 1 + 1, c1) :: (s₁.heap.objs.size + 1 + 1 + 1, o3) :: (s₁.heap.objs.size + 1 + 1, o2) :: (s₁.heap.objs.size + 1, o1) :: bl) :=
    ⟨_, ((IntsAre.cons (-1) _ .nil).append hzs).append (.cons 8 _ .nil), kst_newsOf N11 (by walk_at "sub")⟩
  refine zzk ?_; clear zzk zzX
  clear N11
  have hDA : @LT.lt Nat _ AA D10 := l10 _ (.tail _ (.tail _ (.tail _ (.tail _ (.tail _ (.tail _ (.head _)))))))
  have hDS : @LT.lt Nat _ SS D10 := l10 _ (.tail _ (.tail _ (.tail _ (.tail _ (.tail _ (.tail _ (.tail _ (.head _))))))))
  have nDA : @Ne Nat D10 AA := Nat.ne_of_gt hDA
  have nDS : @Ne Nat D10 SS := Nat.ne_of_gt hDS
  have nIA : @Ne Nat I AA := Ne.symm (hIo _ (.head _))
  have nIS : @Ne Nat I SS := Ne.symm (hIo _ (.tail _ (.head _)))
  have nAS : @Ne Nat AA SS := Ne.symm hSA
  have n4A : @Ne Nat (s₁.heap.objs.size + 1 + 1 + 1 + 1) AA := by first | exact Nat.ne_of_lt (by walk_at "lt") | omega
  have n3A : @Ne Nat (s₁.heap.objs.size + 1 + 1 + 1) AA := by first | exact Nat.ne_of_lt (by walk_at "lt") | omega
  have n2A : @Ne Nat (s₁.heap.objs.size + 1 + 1) AA := by first | exact Nat.ne_of_lt (by walk_at "lt") | omega
  have n1A : @Ne Nat (s₁.heap.objs.size + 1) AA := by first | exact Nat.ne_of_lt (by walk_at "lt") | omega
  have n4S : @Ne Nat (s₁.heap.objs.size + 1 + 1 + 1 + 1) SS := by first | exact Nat.ne_of_lt (by walk_at "lt") | omega
  have n3S : @Ne Nat (s₁.heap.objs.size + 1 + 1 + 1) SS := by first | exact Nat.ne_of_lt (by walk_at "lt") | omega
  have n2S : @Ne Nat (s₁.heap.objs.size + 1 + 1) SS := by first | exact Nat.ne_of_lt (by walk_at "lt") | omega
  have n1S : @Ne Nat (s₁.heap.objs.size + 1) SS := by first | exact Nat.ne_of_lt (by walk_at "lt") | omega
  have nbA : ∀ q ∈ bl, q.1 ≠ AA := fun q hq => Nat.ne_of_lt (hAb q hq)
  have nbS : ∀ q ∈ bl, q.1 ≠ SS := fun q hq => Nat.ne_of_lt (hSb q hq)
  have hsz : (tm ks i).length ≤ 10 := by
    rw [← htv.length, htv.length]
    unfold tm
    simp only [List.length_append, List.length_map, List.length_cons, List.length_nil]
    have : (occ ks i).length ≤ 8 := Nat.le_trans (List.length_filter_le _ _) (by decide)
    omega
  have hz0 : (0 : Int) + (i : Int) = (i : Int) := Int.zero_add _
  rw [hz0] at F11
  rw [hz0]
  refine c_bisect (ns := tm ks i) (by assumption) F11 (by assumption) N12 (by assumption) rfl (by ktr_room) (.head _) htv (by omega) (tm_sorted ks i) ?_
  intro r tr h14 tk14 F14 N14 hr
  have hrt : r = tb := (bis_eq hr).trans htb.symm
  obtain rfl := hrt
  clear F11 N12
  have hal : av.length = i := by rw [hav.length, List.length_map, List.length_range]
  have hsl : sv'.length = i := by rw [hsv.length, List.length_map, List.length_range]
  walk_at "go"
  rename Fr _ _ _ _ => F16
  rename News _ _ _ _ => N16
  have ea : (tm ks i).getD ((r : Int)).toNat 0 = aheadP ks i := by rw [Int.toNat_natCast, htb]; rfl
  have es : (tm ks i).getD ((r : Int) - 2).toNat 0 = sinceP ks i := by
    rw [show ((r : Int) - 2).toNat = r - 2 from Int.toNat_sub r 2, htb]; rfl
  rw [ea, es] at N16
  refine cps fun zzX zzk => ?_
  obtain ⟨ta, ts, N17⟩ : ∃ ta ts, News s₁.heap s₁.heap.objs.size _ ((D10, liO tv 0) :: (I, oI) :: (AA, liO (av ++ [.int (aheadP ks i) ta]) (an + 1)) :: (SS, liO (sv' ++ [.int (sinceP ks i) ts]) (sn + 1)) :: (s₁.heap.objs.size + 1 + 1 + 1 + 1, c1) :: (s₁.heap.objs.size + 1 + 1 + 1, o3) :: (s₁.heap.objs.size + 1 + 1, o2) :: (s₁.heap.objs.size + 1, o1) :: bl) := ⟨_, _, N16⟩
  refine zzk ?_; clear zzk zzX
  clear N16
  have hpos : 0 ≤ aheadP ks i ∧ aheadP ks i ≤ 8 := by
    have hrl : r < (tm ks i).length := by omega
    have e := List.getElem?_eq_getElem hrl
    have e2 : aheadP ks i = (tm ks i)[r] := by rw [← ea, Int.toNat_natCast, List.getD_eq_getElem?_getD, e]; rfl
    have h1 := hr.2 r _ e
    have h2 := tm_mem (List.getElem_mem hrl)
    rw [e2]
    have h3 : ¬ (tm ks i)[r] ≤ (i : Int) := fun h => Nat.lt_irrefl _ (h1.mpr h)
    omega
  subst hQTa
  dsimp only [MTurn]
  refine MEnd.intro F16 N17 ((AA, liO (av ++ [.int (aheadP ks i) ta]) (an + 1)) :: (SS, liO (sv' ++ [.int (sinceP ks i) ts]) (sn + 1)) :: (s₁.heap.objs.size + 1 + 1 + 1 + 1, c1) :: (s₁.heap.objs.size + 1 + 1 + 1, o3) :: (s₁.heap.objs.size + 1 + 1, o2) :: (s₁.heap.objs.size + 1, o1) :: bl) (.tail _ (.head _)) (fun q hq => .tail _ (.tail _ hq)) (fun q hq => ?_)
    ⟨av ++ [.int (aheadP ks i) ta], an + 1, sv' ++ [.int (sinceP ks i) ts], sn + 1, rfl, ⟨rfl, rfl, trivial⟩, ?_, ?_, ?_⟩
  · rcases List.mem_cons.mp hq with rfl | hq
    · exact (hIo (AA, liO av an) (.head _) : AA ≠ I)
    · rcases List.mem_cons.mp hq with rfl | hq
      · exact (hIo (SS, liO sv' sn) (.tail _ (.head _)) : SS ≠ I)
      · exact hIo _ (.tail _ (.tail _ hq))
  · rw [List.range_succ, List.map_append]
    exact hav.append (.cons _ _ .nil)
  · rw [List.range_succ, List.map_append]
    exact hsv.append (.cons _ _ .nil)
  · intro j hj
    by_cases h : j < i
    · exact hab j h
    · obtain rfl : j = i := by omega
      exact hpos
end S_E12
section S_E13
theorem afresh31 : True := by w_top off; trivial
theorem IL.mono2 {nx nx' : List (Addr × Obj)} (hs : ∀ q ∈ nx, (∀ v, q.2.data ≠ .cell v) → q ∈ nx') (v : Value) (is : List Int) : IL nx v is → IL nx' v is := fun ⟨r, vs, n, e, h, i⟩ => ⟨r, vs, n, e, hs _ h (fun _ => nofun), i⟩
theorem CT.mono2 {nx nx' : List (Addr × Obj)} (hs : ∀ q ∈ nx, (∀ v, q.2.data ≠ .cell v) → q ∈ nx') (v : Value) (q : Int × List (List Int)) : CT nx v q → CT nx' v q := fun ⟨b, l, vs, n, t, e, h1, h2, h3⟩ => ⟨b, l, vs, n, t, e, hs _ h1 (fun _ => nofun), hs _ h2 (fun _ => nofun), h3.mono (IL.mono2 hs)⟩
theorem not_cell {h₀ h : Heap} {L A b : Addr} {o oA : Obj} {v : Option Value} {news : List (Addr × Obj)} (N : News h₀ L h news) (hA : (A, oA) ∈ news) (hd : oA.data = .cell v) (hb : (b, o) ∈ news) (hn : ∀ v, o.data ≠ .cell v) : b ≠ A := by
  intro e
  have g1 := (N _ hA).1
  have g2 := (N (b, o) hb).1
  rw [show (b, o).1 = A from e] at g2
  rw [g1] at g2
  have g3 : oA = o := Option.some.inj g2
  rw [g3] at hd
  exact hn _ hd
noncomputable def S_E10_done := fun (hStop1 : Keep (_ : Prop)) => (show Dom22 S_E9_g1 from by
  delta Dom22
  intros w s₀ s₁ mg mb G Y fa o pm doc ho hg KX X V GL T B TE TW w1 w2 M w3 w4 hcd is hs hlay0 hL hr hl2 w5 w6 sc sv w8 hZ ra w1' r0 hI hr2 hsl hcond' K0 hD h₁ tk₁ c1 c2 c3 c4 dc1 dc2 dc3 dc4 qk1 ek1 P0
  intros h60 N0a h63 x0 d0 h66 l67 g7 L7 h7 tkA H0 h8 h9a tkB h10 tkC h9 tk9 Gc kX D0 h88 h91 h92 o1 do1 h95 o2 do2 h98 o3 do3 tk D1 h1 DL hDL D3 h3 h4 m₁ h tk9 hv' hn pv pn nv nn dc4 z4 aPN aNd adx axH
  intros cs hns ks hpi hcl hkl hok hk4 hlow bl mH0 mP0 mN0 mx0 md0 hb4 hb3 hb2 hb1 hT _ hok2 _ _ _ _ _ _ _ gh ys hys D h3 tk3 _ _ _ _ _ _ _ D5 C h5 tk5 m' zs hn hC₀ hCL hDL hD₀ hCD hzl hzs h6 tk6 hfm hdk
  intros AA h8 l8 SS h9a l9 D8 h10 l10 h11 F11 N11 h12 h13 _ _ tk hSA hA4 hS4 hAb hSb _ _ _ _ _ _ _ m₁ h1 tk1 av an sv' sn hm1 hav hsv hab F1 N1
  w_top off
  clear hn hCL hDL hC₀ hD₀ hCD
  obtain ⟨mr, F2⟩ := frOv [("ahead", .ref AA), ("since", .ref SS)] F1 hm1
  clear F1
  dsimp only [kstB] at F2
  walk_at "go"
  refine c_cuts (ps := ks.map fun (k : Nat) => (k : Int)) (by assumption) F2 (by assumption) N1 (by assumption) rfl (by ktr_room) (by decide) (by k_mem) hpi (by rw [List.length_map, hkl]) ?_
  intro CU cu cn rest h15 tk15 F15 N15 hCU hsub hcu
  clear F2 N1
  refine cps fun zzX zzk => ?_
  obtain ⟨b2, mAA, mSS, mHH, mPP, mNN, mxx, mdd, mCU, f4, f3, f2, f1, hT2, hcu2, N16⟩ : ∃ b2, (AA, liO av an) ∈ b2 ∧ (SS, liO sv' sn) ∈ b2 ∧ (H0, liO hv' hn) ∈ b2 ∧ (P0, liO pv pn) ∈ b2 ∧ (N0a, liO nv nn) ∈ b2 ∧ (x0, instObj 182 d0) ∈ b2 ∧ (d0, diO (PyData.keyHash w.params (Str.ofString "_headers")) (tkB + 1) H0 1) ∈ b2 ∧ (CU, liO cu cn) ∈ b2 ∧
      (∀ q ∈ b2, (@Ne Nat q.1 (s₁.heap.objs.size + 1 + 1 + 1 + 1))) ∧ (∀ q ∈ b2, (@Ne Nat q.1 (s₁.heap.objs.size + 1 + 1 + 1))) ∧ (∀ q ∈ b2, (@Ne Nat q.1 (s₁.heap.objs.size + 1 + 1))) ∧ (∀ q ∈ b2, (@Ne Nat q.1 (s₁.heap.objs.size + 1))) ∧ Tups b2 hv' (stC cs) ∧
      All2 (CT b2) cu (cutsP (rets (ks.map fun (k : Nat) => (k : Int)) 8) 6) ∧
      News s₁.heap s₁.heap.objs.size h15 ((s₁.heap.objs.size + 1 + 1 + 1 + 1, c1) :: (s₁.heap.objs.size + 1 + 1 + 1, o3) :: (s₁.heap.objs.size + 1 + 1, o2) :: (s₁.heap.objs.size + 1, o1) :: b2) := by
    have k4 := hsub (s₁.heap.objs.size + 1 + 1 + 1 + 1, c1) (by k_mem)
    have k3 := hsub (s₁.heap.objs.size + 1 + 1 + 1, o3) (by k_mem)
    have k2 := hsub (s₁.heap.objs.size + 1 + 1, o2) (by k_mem)
    have k1 := hsub (s₁.heap.objs.size + 1, o1) (by k_mem)
    have keepF : ∀ q ∈ rest, (∀ v, q.2.data ≠ .cell v) → q ∈ rest.filter (fun p => decide (p.1 ≠ s₁.heap.objs.size + 1 + 1 + 1 + 1 ∧ p.1 ≠ s₁.heap.objs.size + 1 + 1 + 1 ∧ p.1 ≠ s₁.heap.objs.size + 1 + 1 ∧ p.1 ≠ s₁.heap.objs.size + 1)) := fun q hq hn =>
      List.mem_filter.mpr ⟨hq, decide_eq_true ⟨not_cell N15 k4 dc4 hq hn, not_cell N15 k3 do3 hq hn, not_cell N15 k2 do2 hq hn, not_cell N15 k1 do1 hq hn⟩⟩
    have kb : ∀ q ∈ bl, (∀ v, q.2.data ≠ .cell v) → q ∈ rest.filter (fun p => decide (p.1 ≠ s₁.heap.objs.size + 1 + 1 + 1 + 1 ∧ p.1 ≠ s₁.heap.objs.size + 1 + 1 + 1 ∧ p.1 ≠ s₁.heap.objs.size + 1 + 1 ∧ p.1 ≠ s₁.heap.objs.size + 1)) := fun q hq hn =>
      keepF q (hsub q (.tail _ (.tail _ (.tail _ (.tail _ (.tail _ (.tail _ hq))))))) hn
    refine ⟨rest.filter (fun p => decide (p.1 ≠ s₁.heap.objs.size + 1 + 1 + 1 + 1 ∧ p.1 ≠ s₁.heap.objs.size + 1 + 1 + 1 ∧ p.1 ≠ s₁.heap.objs.size + 1 + 1 ∧ p.1 ≠ s₁.heap.objs.size + 1)), keepF _ (hsub _ (by k_mem)) (fun _ => nofun), keepF _ (hsub _ (by k_mem)) (fun _ => nofun), kb _ mH0 (fun _ => nofun), kb _ mP0 (fun _ => nofun), kb _ mN0 (fun _ => nofun), kb _ mx0 (fun _ => nofun), kb _ md0 (fun _ => nofun), keepF _ hCU (fun _ => nofun),
      fun q hq => (of_decide_eq_true (List.mem_filter.mp hq).2).1, fun q hq => (of_decide_eq_true (List.mem_filter.mp hq).2).2.1, fun q hq => (of_decide_eq_true (List.mem_filter.mp hq).2).2.2.1, fun q hq => (of_decide_eq_true (List.mem_filter.mp hq).2).2.2.2, hT.mono2 fun b x y hb => kb _ hb (fun _ => nofun), hcu.mono (CT.mono2 keepF), ?_⟩
    intro q hq
    rcases List.mem_cons.mp hq with rfl | hq
    · exact N15 _ k4
    · rcases List.mem_cons.mp hq with rfl | hq
      · exact N15 _ k3
      · rcases List.mem_cons.mp hq with rfl | hq
        · exact N15 _ k2
        · rcases List.mem_cons.mp hq with rfl | hq
          · exact N15 _ k1
          · exact N15 _ (List.mem_filter.mp hq).1
  refine zzk ?_; clear zzk zzX
  clear N15 hsub hCU hcu mH0 mP0 mN0 mx0 md0 hT hb4 hb3 hb2 hb1 hAb hSb l8 l9 l10
  walk_at "go"
  refine r_for ?_
  walk_at "go"
  rename_i zzM; revert zzM; rename_i zzM; revert zzM; rename_i zzM; revert zzM; rename_i zzM; revert zzM; rename_i zzM; revert zzM; revert tk; rename_i zzM; revert zzM
  revert N16 hcu2 hT2 f1 f2 f3 f4 mCU mdd mxx mNN mPP mHH mSS mAA b2 tk15 h15 rest cn cu CU mr hab hsv hav hm1 sn sv' an av tk1 h1 m₁; rename_i zzM; revert zzM; rename_i zzM; revert zzM; rename_i zzM
  revert zzM; rename_i zzM; revert zzM; rename_i zzM; revert zzM; rename_i zzM; revert zzM; rename_i zzM; revert zzM
  revert hS4 hA4 hSA tk h13 h12 N11 F11 h11 h10 D8 h9a SS h8 AA hdk hfm tk6 h6 hzs hzl zs m' tk5 h5 C D5; rename_i zzM; revert zzM; rename_i zzM; revert zzM; rename_i zzM; revert zzM; rename_i zzM
  revert zzM; rename_i zzM; revert zzM; rename_i zzM; revert zzM; rename_i zzM; revert zzM; revert tk3 h3 D hys ys gh; rename_i zzM; revert zzM; rename_i zzM; revert zzM; rename_i zzM; revert zzM
  rename_i zzM; revert zzM; rename_i zzM; revert zzM; rename_i zzM; revert zzM; rename_i zzM; revert zzM; revert hok2; rename_i zzM; revert zzM
  revert bl hlow hk4 hok hkl hcl hpi ks hns cs axH adx aNd aPN z4 dc4 nn nv pn pv hn hv' tk9 h m₁ h4 h3 D3 hDL DL h1 D1 tk do3 o3 h98 do2 o2 h95 do1 o1 h92 h91 h88 D0 kX Gc
  revert tk9 h9 tkC h10 tkB h9a h8 H0 tkA h7 L7 g7 l67 h66 d0 x0 h63 N0a h60 P0 ek1 qk1 dc4 dc3 dc2 dc1 c4 c3 c2 c1 tk₁ h₁ hD K0 hcond' hsl hr2 hI r0 w1' ra hZ w8 sv sc w6 w5 hl2 hr hL hlay0 hs is hcd w4 w3 M w2 w1 TW TE B T GL V X KX hg ho doc pm o fa Y G mb mg s₁ s₀ w
  exact hStop1.out)
end S_E13
end G_3
section S_P1
/-- the plain game: ahead, since, and one turn -/
noncomputable def aN (ks : List Nat) (t : Nat) : Nat := (aheadP ks t).toNat
noncomputable def sN (ks : List Nat) (t : Nat) : Nat := (sinceP ks t + 1).toNat
noncomputable def cnt (ns : List Nat) (x : Nat) : Nat := (ns.filter fun n => Nat.ble n x).length
noncomputable def leH (a : Nat) : List Nat → Bool
  | [] => true
  | b :: _ => Nat.ble a b
noncomputable def sortedN : List Nat → Bool
  | [] => true
  | a :: r => leH a r && sortedN r
noncomputable abbrev GS := List Nat × List Nat × Nat × Nat
noncomputable def lose (ks : List Nat) (n t : Nat) (js : List Nat) (f : Nat) : Option (List Nat × Nat) :=
  match js.find? fun j => ks.getD j 0 == ks.getD t 0 with
  | some j => if aN ks j = t then some (js.filter fun j => !(ks.getD j 0 == ks.getD t 0), f + 1) else none
  | none => some (if js.length = n then js.dropLast else js, f)
noncomputable def lay (ks : List Nat) (t : Nat) (sp : List Nat) (l : Nat) : List Nat × Nat :=
  if 1 ≤ sN ks t then
    if sN ks t = t then (sp, l + 1)
    else if 0 < cnt sp (sN ks t) then (sp.eraseIdx (cnt sp (sN ks t) - 1) ++ [t], l + 1) else (sp, l)
  else (sp, l)
noncomputable def putIn (ks : List Nat) (t : Nat) (js : List Nat) : List Nat := js.take (cnt (js.map (aN ks)) (aN ks t)) ++ t :: js.drop (cnt (js.map (aN ks)) (aN ks t))
noncomputable def stepP (ks : List Nat) (n t : Nat) (s : GS) : Option GS :=
  match lose ks n t s.1 s.2.2.1 with
  | none => none
  | some q => if sortedN (q.1.map (aN ks)) && sortedN s.2.1 && sortedN ((putIn ks t q.1).map (aN ks)) then some (putIn ks t q.1, (lay ks t s.2.1 s.2.2.2).1, q.2, (lay ks t s.2.1 s.2.2.2).2) else none
noncomputable def runP (ks : List Nat) (n : Nat) : Nat → Option GS
  | 0 => some ([], List.replicate (n - 1) 0, 0, 0)
  | i + 1 => (runP ks n i).bind (stepP ks n i)
theorem runP_some {ks : List Nat} {n i : Nat} (h : (runP ks n 8).isSome = true) (hi : i ≤ 8) : (runP ks n i).isSome = true := by
  have key : ∀ d, d ≤ 8 → (runP ks n (8 - d)).isSome = true := by
    intro d
    induction d with
    | zero => intro _; exact h
    | succ d ih =>
      intro hd
      have h1 := ih (by omega)
      rw [show 8 - d = (8 - (d + 1)) + 1 by omega, runP] at h1
      cases e : runP ks n (8 - (d + 1)) with
      | none => rw [e] at h1; cases h1
      | some s => rfl
  have := key (8 - i) (by omega)
  rwa [show 8 - (8 - i) = i by omega] at this
/-- every index of a state is below 8 -/
theorem runP_lt {ks : List Nat} {n : Nat} : ∀ {i : Nat} {s : GS}, i ≤ 8 → runP ks n i = some s → (∀ j ∈ s.1, j < 8) ∧ s.1.length ≤ i ∧ s.2.1.length = n - 1
  | 0, s, _, h => by
    cases h
    exact ⟨(fun _ h => nomatch h), Nat.le_refl _, List.length_replicate ..⟩
  | i + 1, s, hi, h => by
    rw [runP] at h
    cases e : runP ks n i with
    | none => rw [e] at h; cases h
    | some s0 =>
      rw [e] at h
      obtain ⟨h1, h2, h3⟩ := runP_lt (by omega) e
      simp only [Option.bind_some, stepP] at h
      cases el : lose ks n i s0.1 s0.2.2.1 with
      | none => rw [el] at h; cases h
      | some q =>
        rw [el] at h
        simp only at h
        split at h
        · cases h
          have hq : (∀ j ∈ q.1, j < 8) ∧ q.1.length ≤ i := by
            unfold lose at el
            split at el
            · split at el
              · cases el
                exact ⟨fun j hj => h1 j (List.mem_filter.mp hj).1, Nat.le_trans (List.length_filter_le _ _) h2⟩
              · cases el
            · cases el
              split
              · exact ⟨fun j hj => h1 j (List.dropLast_subset _ hj), by rw [List.length_dropLast]; omega⟩
              · exact ⟨h1, h2⟩
          refine ⟨fun j hj => ?_, ?_, ?_⟩
          · unfold putIn at hj
            rcases List.mem_append.mp hj with hj | hj
            · exact hq.1 j (List.mem_of_mem_take hj)
            · rcases List.mem_cons.mp hj with rfl | hj
              · omega
              · exact hq.1 j (List.mem_of_mem_drop hj)
          · unfold putIn
            rw [List.length_append, List.length_cons, List.length_take, List.length_drop]
            have := hq.2
            omega
          · show (lay ks i s0.2.1 s0.2.2.2).1.length = n - 1
            unfold lay
            split
            · split
              · exact h3
              · split
                · rename_i hc
                  have hle : cnt s0.2.1 (sN ks i) ≤ s0.2.1.length := List.length_filter_le _ _
                  rw [List.length_append, List.length_eraseIdx, if_pos (by omega)]
                  show s0.2.1.length - 1 + 1 = _
                  omega
                · exact h3
            · exact h3
        · cases h
theorem sortedN_pair : ∀ {ns : List Nat}, sortedN ns = true → ns.Pairwise (· ≤ ·)
  | [], _ => .nil
  | a :: r, h => by
    rw [sortedN, Bool.and_eq_true] at h
    have ih := sortedN_pair h.2
    refine List.pairwise_cons.mpr ⟨fun b hb => ?_, ih⟩
    cases r with
    | nil => cases hb
    | cons c r =>
      have h1 : a ≤ c := Nat.le_of_ble_eq_true h.1
      rcases List.mem_cons.mp hb with rfl | hb
      · exact h1
      · exact Nat.le_trans h1 ((List.pairwise_cons.mp ih).1 b hb)
theorem sortedN_is {ns : List Nat} (h : sortedN ns = true) : Sorted (ns.map fun (n : Nat) => (n : Int)) := by
  have hp : (ns.map fun (n : Nat) => (n : Int)).Pairwise (· ≤ ·) := by
    rw [List.pairwise_map]
    exact (sortedN_pair h).imp fun h => by omega
  intro i j a b hij ha hb
  rcases Nat.lt_or_ge i j with hlt | hge
  · obtain ⟨hi, rfl⟩ := List.getElem?_eq_some_iff.mp ha
    obtain ⟨hj, rfl⟩ := List.getElem?_eq_some_iff.mp hb
    exact List.pairwise_iff_getElem.mp hp i j hi hj hlt
  · obtain rfl : i = j := Nat.le_antisymm hij hge
    rw [ha] at hb
    cases hb
    exact Int.le_refl _
theorem cnt_is (ns : List Nat) (x : Nat) : bisP (ns.map fun (n : Nat) => (n : Int)) (x : Int) = cnt ns x := by
  unfold bisP cnt
  rw [List.filter_map, List.length_map]
  congr 1
  refine List.filter_congr fun n _ => ?_
  show decide ((n : Int) ≤ (x : Int)) = Nat.ble n x
  by_cases h : n ≤ x
  · rw [decide_eq_true (by omega), Nat.ble_eq_true_of_le h]
  · rw [decide_eq_false (by omega)]
    cases e : Nat.ble n x with
    | false => rfl
    | true => exact absurd (Nat.le_of_ble_eq_true e) h
/-- the pair of an index -/
noncomputable def prP (cs ks : List Nat) (j : Nat) : Nat × Nat := (cs.getD j 0, 48 + aN ks j)
theorem wn_pr (cs ks js : List Nat) : wn (js.map (prP cs ks)) = (js.map (aN ks)).map fun (n : Nat) => (n : Int) := by
  unfold wn prP
  rw [List.map_map, List.map_map]
  refine List.map_congr_left fun j _ => ?_
  show ((48 + aN ks j : Nat) : Int) - 48 = _
  show _ = ((aN ks j : Nat) : Int)
  omega
theorem low_eq {cs ks : List Nat} (hlow : ∀ j, j < 8 → lowc (cs.getD j 0) = 97 + ks.getD j 0) {j t : Nat} (hj : j < 8) (ht : t < 8) : (lowc (cs.getD j 0) == lowc (cs.getD t 0)) = (ks.getD j 0 == ks.getD t 0) := by
  rw [hlow j hj, hlow t ht]
  by_cases h : ks.getD j 0 = ks.getD t 0
  · rw [h, beq_self_eq_true, beq_self_eq_true]
  · have h2 : ¬ 97 + ks.getD j 0 = 97 + ks.getD t 0 := by omega
    rw [beq_eq_false_iff_ne.mpr h, beq_eq_false_iff_ne.mpr h2]
theorem lk_pr {cs ks js : List Nat} (hlow : ∀ j, j < 8 → lowc (cs.getD j 0) = 97 + ks.getD j 0) (hjs : ∀ j ∈ js, j < 8) {t : Nat} (ht : t < 8) : lk (js.map (prP cs ks)) (cs.getD t 0) = (js.find? fun j => ks.getD j 0 == ks.getD t 0).map fun j => 48 + aN ks j := by
  unfold lk
  rw [List.find?_map, Option.map_map]
  have e := find_congr (l := js) (p := (fun q : Nat × Nat => lowc q.1 == lowc (cs.getD t 0)) ∘ prP cs ks) (q := fun j => ks.getD j 0 == ks.getD t 0) fun j hj => low_eq hlow (hjs j hj) ht
  rw [e]
  rfl
theorem del_pr {cs ks js : List Nat} (hlow : ∀ j, j < 8 → lowc (cs.getD j 0) = 97 + ks.getD j 0) (hjs : ∀ j ∈ js, j < 8) {t : Nat} (ht : t < 8) :
    (js.map (prP cs ks)).filter (fun q => lowc q.1 != lowc (cs.getD t 0)) = (js.filter fun j => !(ks.getD j 0 == ks.getD t 0)).map (prP cs ks) := by
  rw [List.filter_map]
  congr 1
  refine List.filter_congr fun j hj => ?_
  show (!(lowc (cs.getD j 0) == lowc (cs.getD t 0))) = _
  rw [low_eq hlow (hjs j hj) ht]
end S_P1

section S_P2
noncomputable def lastP (ks : List Nat) (j : Nat) : Nat := ((List.range 8).filter fun t => ks.getD t 0 == ks.getD j 0).getLastD 0
noncomputable def dueL (ks : List Nat) (n : Nat) : List Int := (cutsP (rets (ks.map fun (k : Nat) => (k : Int)) 8) 6).map fun q => ((n : Int) - 1) * q.1 + (q.2.length : Int)
noncomputable def EndP (ks : List Nat) (n : Nat) (s : GS) : Prop := ((s.2.2.1 : Int) ∈ dueL ks n ∧ ∀ a, a ∈ dueL ks n → (s.2.2.1 : Int) ≤ a) ∧ s.2.2.2 = s.2.2.1 ∧ sortedN s.1 = true ∧ (∀ j ∈ s.1, lastP ks j = j) ∧ ∀ j ∈ s.1, aN ks j = 8
end S_P2

section S_P3
/-- the plain law, by cases over the patterns of equality -/
noncomputable def retN (ks : List Nat) (t : Nat) : List (Nat × Nat) :=
  match ((List.range t).filter fun s => ks.getD s 0 == ks.getD t 0).getLast? with
  | none => []
  | some l => [(l + 1, t)]
noncomputable def retsN (ks : List Nat) (t : Nat) : List (Nat × Nat) := ((List.range t).map (retN ks)).flatten
noncomputable def cutN (k : Nat) (q : Nat × List (Nat × Nat)) : Nat × List (Nat × Nat) := (q.1 + 1, q.2.filter fun p => !(Nat.ble p.1 k && Nat.blt k p.2))
noncomputable def cutsN (rs : List (Nat × Nat)) : Nat → List (Nat × List (Nat × Nat))
  | 0 => [(0, rs)]
  | j + 1 => cutsN rs j ++ (cutsN rs j).map (cutN (j + 1))
noncomputable def ofP (p : Nat × Nat) : List Int := (List.range (p.2 - p.1)).map fun (i : Nat) => (p.1 : Int) + (i : Int)
theorem mem_ofP {p : Nat × Nat} {k : Nat} : (k : Int) ∈ ofP p ↔ p.1 ≤ k ∧ k < p.2 := by
  unfold ofP
  rw [List.mem_map]
  constructor
  · rintro ⟨i, hi, e⟩
    have := List.mem_range.mp hi
    omega
  · rintro ⟨h1, h2⟩
    exact ⟨k - p.1, List.mem_range.mpr (by omega), by omega⟩
theorem cuts_eq {rs : List (List Int)} {ps : List (Nat × Nat)} (h : rs = ps.map ofP) : ∀ j, cutsP rs j = (cutsN ps j).map fun q => ((q.1 : Int), q.2.map ofP)
  | 0 => by rw [cutsP, cutsN, h]; rfl
  | j + 1 => by
    rw [cutsP, cutsN, cuts_eq h j, List.map_append, List.map_map, List.map_map]
    congr 1
    refine List.map_congr_left fun q _ => ?_
    show cutStep ((j : Int) + 1) ((q.1 : Int), q.2.map ofP) = (((q.1 + 1 : Nat) : Int), (q.2.filter fun p => !(Nat.ble p.1 (j + 1) && Nat.blt (j + 1) p.2)).map ofP)
    unfold cutStep
    rw [List.filter_map]
    congr 1
    congr 1
    refine List.filter_congr fun p _ => ?_
    show (!decide (((j : Int) + 1) ∈ ofP p)) = !(Nat.ble p.1 (j + 1) && Nat.blt (j + 1) p.2)
    congr 1
    have e : ((j : Int) + 1) = ((j + 1 : Nat) : Int) := by omega
    rw [e, decide_eq_decide.mpr (mem_ofP (p := p) (k := j + 1)), Bool.eq_iff_iff, decide_eq_true_eq, Bool.and_eq_true]
    constructor
    · rintro ⟨h1, h2⟩
      exact ⟨Nat.ble_eq_true_of_le h1, Nat.ble_eq_true_of_le h2⟩
    · rintro ⟨h1, h2⟩
      exact ⟨Nat.le_of_ble_eq_true h1, Nat.le_of_ble_eq_true h2⟩
theorem getLastD_map (f : Nat → Int) : ∀ (l : List Nat) (d : Int), (l.map f).getLastD d = (match l.getLast? with | none => d | some x => f x) := by
  intro l d
  rcases List.eq_nil_or_concat l with e | ⟨l', y, e⟩
  · rw [e]; rfl
  · rw [e, List.concat_eq_append]
    simp
theorem ret_eq (ks : List Nat) (h8 : ks.length = 8) {t : Nat} (ht : t < 8) : insi (ks.map fun (k : Nat) => (k : Int)) t = (retN ks t).map ofP := by
  have hg : ∀ s, s < 8 → (ks.map fun (k : Nat) => (k : Int)).getD s 0 = ((ks.getD s 0 : Nat) : Int) := by
    intro s hs
    rw [List.getD_eq_getElem?_getD, List.getD_eq_getElem?_getD, List.getElem?_map, List.getElem?_eq_getElem (by omega)]
    rfl
  have hb : befo (ks.map fun (k : Nat) => (k : Int)) t = ((List.range t).filter fun s => ks.getD s 0 == ks.getD t 0).map fun (s : Nat) => (s : Int) := by
    unfold befo
    congr 1
    refine List.filter_congr fun s hs => ?_
    have hs := List.mem_range.mp hs
    rw [hg s (by omega), hg t ht]
    by_cases h : ks.getD s 0 = ks.getD t 0
    · rw [h, beq_self_eq_true, beq_self_eq_true]
    · rw [beq_eq_false_iff_ne.mpr h, beq_eq_false_iff_ne.mpr (by omega)]
  unfold insi retN
  rw [hb, getLastD_map]
  cases hl : ((List.range t).filter fun s => ks.getD s 0 == ks.getD t 0).getLast? with
  | none =>
    rw [List.getLast?_eq_none_iff] at hl
    rw [hl]
    rfl
  | some l =>
    have hne : ((List.range t).filter fun s => ks.getD s 0 == ks.getD t 0) ≠ [] := fun e => by rw [e] at hl; cases hl
    rw [if_neg (by rw [List.map_eq_nil_iff]; exact hne)]
    show _ = [ofP (l + 1, t)]
    unfold ofP
    congr 1
    have e : ((t : Int) - ((l : Int) + 1)).toNat = t - (l + 1) := by omega
    rw [e]
    refine List.map_congr_left fun i _ => ?_
    show (l : Int) + 1 + (i : Int) = ((l + 1 : Nat) : Int) + (i : Int)
    omega
theorem rets_eq (ks : List Nat) (h8 : ks.length = 8) : rets (ks.map fun (k : Nat) => (k : Int)) 8 = (retsN ks 8).map ofP := by
  unfold rets retsN
  rw [List.map_flatten, List.map_map]
  congr 1
  exact List.map_congr_left fun t ht => ret_eq ks h8 (List.mem_range.mp ht)
/-- the parts to be beaten, as numbers -/
noncomputable def dueN (ks : List Nat) (n : Nat) : List Nat := (cutsN (retsN ks 8) 6).map fun q => (n - 1) * q.1 + q.2.length
theorem due_eq (ks : List Nat) (h8 : ks.length = 8) {n : Nat} (hn : 1 ≤ n) : dueL ks n = (dueN ks n).map fun (x : Nat) => (x : Int) := by
  unfold dueL dueN
  rw [cuts_eq (rets_eq ks h8) 6, List.map_map, List.map_map]
  refine List.map_congr_left fun q _ => ?_
  show ((n : Int) - 1) * (q.1 : Int) + ((q.2.map ofP).length : Int) = (((n - 1) * q.1 + q.2.length : Nat) : Int)
  rw [List.length_map, Int.natCast_add, Int.natCast_mul, Int.natCast_sub hn]
  rfl
end S_P3

section S_P4
theorem afresh32 : True := by w_top off; trivial
/-- the game over a pattern of equality -/
noncomputable def eqOf (ks : List Nat) (i j : Nat) : Bool := ks.getD i 0 == ks.getD j 0
noncomputable def tmG (E : Nat → Nat → Bool) (t : Nat) : List Int := [-1] ++ ((List.range 8).filter fun j => E j t).map (fun (j : Nat) => (j : Int)) ++ [8]
noncomputable def aG (E : Nat → Nat → Bool) (t : Nat) : Nat := ((tmG E t).getD (bisP (tmG E t) t) 0).toNat
noncomputable def sG (E : Nat → Nat → Bool) (t : Nat) : Nat := ((tmG E t).getD (bisP (tmG E t) t - 2) 0 + 1).toNat
noncomputable def loseG (E : Nat → Nat → Bool) (A : Nat → Nat) (n t : Nat) (js : List Nat) (f : Nat) : Option (List Nat × Nat) :=
  match js.find? fun j => E j t with
  | some j => if A j = t then some (js.filter fun j => !(E j t), f + 1) else none
  | none => some (if js.length = n then js.dropLast else js, f)
noncomputable def layG (S : Nat → Nat) (t : Nat) (sp : List Nat) (l : Nat) : List Nat × Nat :=
  if 1 ≤ S t then
    if S t = t then (sp, l + 1)
    else if 0 < cnt sp (S t) then (sp.eraseIdx (cnt sp (S t) - 1) ++ [t], l + 1) else (sp, l)
  else (sp, l)
noncomputable def putG (A : Nat → Nat) (t : Nat) (js : List Nat) : List Nat := js.take (cnt (js.map A) (A t)) ++ t :: js.drop (cnt (js.map A) (A t))
noncomputable def stepG (E : Nat → Nat → Bool) (A S : Nat → Nat) (n t : Nat) (s : GS) : Option GS :=
  match loseG E A n t s.1 s.2.2.1 with
  | none => none
  | some q => if sortedN (q.1.map A) && sortedN s.2.1 && sortedN ((putG A t q.1).map A) then some (putG A t q.1, (layG S t s.2.1 s.2.2.2).1, q.2, (layG S t s.2.1 s.2.2.2).2) else none
noncomputable def runG (E : Nat → Nat → Bool) (A S : Nat → Nat) (n : Nat) : Nat → Option GS
  | 0 => some ([], List.replicate (n - 1) 0, 0, 0)
  | i + 1 => (runG E A S n i).bind (stepG E A S n i)
theorem aN_eq (ks : List Nat) : aN ks = aG (eqOf ks) := rfl
theorem sN_eq (ks : List Nat) : sN ks = sG (eqOf ks) := rfl
theorem run_eq (ks : List Nat) (n : Nat) : ∀ i, runP ks n i = runG (eqOf ks) (aN ks) (sN ks) n i
  | 0 => rfl
  | i + 1 => by
    rw [runP, runG, run_eq ks n i]
    rfl
noncomputable def retG (E : Nat → Nat → Bool) (t : Nat) : List (Nat × Nat) :=
  match ((List.range t).filter fun s => E s t).getLast? with
  | none => []
  | some l => [(l + 1, t)]
noncomputable def dueG (E : Nat → Nat → Bool) (n : Nat) : List Nat := (cutsN ((List.range 8).map (retG E)).flatten 6).map fun q => (n - 1) * q.1 + q.2.length
theorem dueN_eq (ks : List Nat) (n : Nat) : dueN ks n = dueG (eqOf ks) n := rfl
noncomputable def lastG (E : Nat → Nat → Bool) (j : Nat) : Nat := ((List.range 8).filter fun t => E t j).getLastD 0
theorem lastP_eq (ks : List Nat) (j : Nat) : lastP ks j = lastG (eqOf ks) j := rfl
noncomputable def endG (E : Nat → Nat → Bool) (A : Nat → Nat) (dl : List Nat) (s : GS) : Bool :=
  dl.any (fun x => Nat.beq s.2.2.1 x) && dl.all (fun x => Nat.ble s.2.2.1 x) && Nat.beq s.2.2.2 s.2.2.1 && sortedN s.1 && s.1.all (fun j => Nat.beq (lastG E j) j) && s.1.all fun j => Nat.beq (A j) 8
noncomputable def goodG (E : Nat → Nat → Bool) (A S : Nat → Nat) (n : Nat) : Bool := match runG E A S n 8 with
  | none => false
  | some s => endG E A (dueG E n) s
theorem good_end {ks : List Nat} (h8 : ks.length = 8) {n : Nat} (hn : 1 ≤ n) (h : goodG (eqOf ks) (aN ks) (sN ks) n = true) : ∃ s, runP ks n 8 = some s ∧ EndP ks n s := by
  unfold goodG at h
  rw [← run_eq] at h
  cases hr : runP ks n 8 with
  | none => rw [hr] at h; cases h
  | some s =>
    rw [hr] at h
    simp only [endG, Bool.and_eq_true, List.any_eq_true, List.all_eq_true] at h
    obtain ⟨⟨⟨⟨⟨⟨x, hx, hxe⟩, hall⟩, hl⟩, hs⟩, hla⟩, h8a⟩ := h
    refine ⟨s, rfl, ⟨?_, ?_⟩, Nat.eq_of_beq_eq_true hl, hs, fun j hj => ?_, fun j hj => Nat.eq_of_beq_eq_true (h8a j hj)⟩
    · rw [due_eq ks h8 hn, Nat.eq_of_beq_eq_true hxe]
      exact List.mem_map.mpr ⟨x, hx, rfl⟩
    · rw [due_eq ks h8 hn]
      intro a ha
      obtain ⟨y, hy, rfl⟩ := List.mem_map.mp ha
      have := Nat.le_of_ble_eq_true (hall y hy)
      omega
    · rw [lastP_eq]
      exact Nat.eq_of_beq_eq_true (hla j hj)
section
variable {E E' : Nat → Nat → Bool} {A A' S S' : Nat → Nat}
theorem lose_congr (hE : ∀ i j, i < 8 → j < 8 → E i j = E' i j) (hA : ∀ i, i < 8 → A i = A' i) {n t f : Nat} {js : List Nat} (hjs : ∀ j ∈ js, j < 8) (ht : t < 8) : loseG E A n t js f = loseG E' A' n t js f := by
  unfold loseG
  rw [find_congr (l := js) (p := fun j => E j t) (q := fun j => E' j t) fun j hj => hE j t (hjs j hj) ht]
  have e : js.filter (fun j => !(E j t)) = js.filter fun j => !(E' j t) := List.filter_congr fun j hj => by rw [hE j t (hjs j hj) ht]
  rw [e]
  cases hf : js.find? fun j => E' j t with
  | none => rfl
  | some j =>
    have := hA j (hjs j (List.mem_of_find?_eq_some hf))
    show (if A j = t then _ else _) = (if A' j = t then _ else _)
    rw [this]
theorem loseG_lt {n t f : Nat} {js : List Nat} {q : List Nat × Nat} (h : loseG E A n t js f = some q) (hj : ∀ j ∈ js, j < 8) : ∀ j ∈ q.1, j < 8 := by
  unfold loseG at h
  split at h
  · split at h
    · cases h
      exact fun j hm => hj j (List.mem_filter.mp hm).1
    · cases h
  · cases h
    split
    · exact fun j hm => hj j (List.dropLast_subset _ hm)
    · exact hj
theorem putG_lt {t : Nat} {js : List Nat} (hj : ∀ j ∈ js, j < 8) (ht : t < 8) : ∀ j ∈ putG A t js, j < 8 := by
  intro j hm
  unfold putG at hm
  rcases List.mem_append.mp hm with h | h
  · exact hj j (List.mem_of_mem_take h)
  · rcases List.mem_cons.mp h with rfl | h
    · exact ht
    · exact hj j (List.mem_of_mem_drop h)
theorem map_c {js : List Nat} (hA : ∀ i, i < 8 → A i = A' i) (hjs : ∀ j ∈ js, j < 8) : js.map A = js.map A' := List.map_congr_left fun j hj => hA j (hjs j hj)
theorem put_congr (hA : ∀ i, i < 8 → A i = A' i) {t : Nat} {js : List Nat} (hjs : ∀ j ∈ js, j < 8) (ht : t < 8) : putG A t js = putG A' t js := by
  unfold putG
  rw [map_c hA hjs, hA t ht]
theorem step_congr (hE : ∀ i j, i < 8 → j < 8 → E i j = E' i j) (hA : ∀ i, i < 8 → A i = A' i) (hS : ∀ i, i < 8 → S i = S' i) {n t : Nat} {s : GS} (hjs : ∀ j ∈ s.1, j < 8) (ht : t < 8) : stepG E A S n t s = stepG E' A' S' n t s := by
  unfold stepG
  rw [← lose_congr hE hA hjs ht]
  cases hl : loseG E A n t s.1 s.2.2.1 with
  | none => rfl
  | some q =>
    have hq := loseG_lt hl hjs
    have hl : layG S t s.2.1 s.2.2.2 = layG S' t s.2.1 s.2.2.2 := by unfold layG; rw [hS t ht]
    simp only
    rw [map_c hA hq, put_congr hA hq ht, map_c hA (putG_lt hq ht), hl]
theorem run_lt {n : Nat} : ∀ {i : Nat} {s : GS}, i ≤ 8 → runG E A S n i = some s → ∀ j ∈ s.1, j < 8
  | 0, s, _, h => by cases h; exact fun _ h => nomatch h
  | i + 1, s, hi, h => by
    rw [runG] at h
    cases e : runG E A S n i with
    | none => rw [e] at h; cases h
    | some s0 =>
      rw [e] at h
      have h0 := run_lt (by omega) e
      simp only [Option.bind_some, stepG] at h
      split at h
      · cases h
      · rename_i q hq
        split at h
        · cases h
          exact putG_lt (loseG_lt hq h0) (by omega)
        · cases h
theorem run_congr (hE : ∀ i j, i < 8 → j < 8 → E i j = E' i j) (hA : ∀ i, i < 8 → A i = A' i) (hS : ∀ i, i < 8 → S i = S' i) {n : Nat} : ∀ {i : Nat}, i ≤ 8 → runG E A S n i = runG E' A' S' n i
  | 0, _ => rfl
  | i + 1, hi => by
    rw [runG, runG, ← run_congr hE hA hS (by omega)]
    cases e : runG E A S n i with
    | none => rfl
    | some s => exact step_congr hE hA hS (run_lt (by omega) e) (by omega)
theorem last_congr (hE : ∀ i j, i < 8 → j < 8 → E i j = E' i j) {j : Nat} (hj : j < 8) : lastG E j = lastG E' j := by
  unfold lastG
  rw [List.filter_congr fun t ht => hE t j (List.mem_range.mp ht) hj]
theorem tm_congr (hE : ∀ i j, i < 8 → j < 8 → E i j = E' i j) {j : Nat} (hj : j < 8) : tmG E j = tmG E' j := by
  unfold tmG
  rw [List.filter_congr fun t ht => hE t j (List.mem_range.mp ht) hj]
theorem due_congr (hE : ∀ i j, i < 8 → j < 8 → E i j = E' i j) (n : Nat) : dueG E n = dueG E' n := by
  unfold dueG
  have e : (List.range 8).map (retG E) = (List.range 8).map (retG E') := List.map_congr_left fun t ht => by
    have ht := List.mem_range.mp ht
    unfold retG
    rw [List.filter_congr (p := fun s => E s t) (q := fun s => E' s t) fun s hs => hE s t (by have := List.mem_range.mp hs; omega) ht]
  rw [e]
theorem good_congr (hE : ∀ i j, i < 8 → j < 8 → E i j = E' i j) (hA : ∀ i, i < 8 → A i = A' i) (hS : ∀ i, i < 8 → S i = S' i) (n : Nat) : goodG E A S n = goodG E' A' S' n := by
  unfold goodG
  rw [← run_congr hE hA hS (Nat.le_refl _)]
  cases e : runG E A S n 8 with
  | none => rfl
  | some s =>
    have hs := run_lt (Nat.le_refl _) e
    show endG E A (dueG E n) s = endG E' A' (dueG E' n) s
    unfold endG
    rw [due_congr hE n]
    have e1 : s.1.all (fun j => Nat.beq (lastG E j) j) = s.1.all fun j => Nat.beq (lastG E' j) j := by
      rw [Bool.eq_iff_iff, List.all_eq_true, List.all_eq_true]
      exact ⟨fun h j hj => by rw [← last_congr hE (hs j hj)]; exact h j hj, fun h j hj => by rw [last_congr hE (hs j hj)]; exact h j hj⟩
    have e2 : s.1.all (fun j => Nat.beq (A j) 8) = s.1.all fun j => Nat.beq (A' j) 8 := by
      rw [Bool.eq_iff_iff, List.all_eq_true, List.all_eq_true]
      exact ⟨fun h j hj => by rw [← hA j (hs j hj)]; exact h j hj, fun h j hj => by rw [hA j (hs j hj)]; exact h j hj⟩
    rw [e1, e2]
end
end S_P4

section S_P5
noncomputable def forceL : List Nat → (List Nat → Bool) → Bool
  | [], f => f []
  | a :: r, f => force a fun a => forceL r fun r => f (a :: r)
theorem forceL_eq : ∀ (l : List Nat) (f : List Nat → Bool), forceL l f = f l
  | [], _ => rfl
  | a :: r, f => by rw [forceL, force_eq, forceL_eq r]
noncomputable def runF (E : Nat → Nat → Bool) (A S : Nat → Nat) (n : Nat) : Nat → Nat → GS → (GS → Bool) → Bool
  | 0, _, s, k => k s
  | m + 1, t, s, k => match stepG E A S n t s with
    | none => false
    | some s' => forceL s'.1 fun js => forceL s'.2.1 fun sp => force s'.2.2.1 fun f => force s'.2.2.2 fun l => runF E A S n m (t + 1) (js, sp, f, l) k
theorem runF_none {E : Nat → Nat → Bool} {A S : Nat → Nat} {n t : Nat} (h : runG E A S n t = none) : ∀ m, runG E A S n (t + m) = none
  | 0 => h
  | m + 1 => by
    show runG E A S n ((t + m) + 1) = none
    rw [runG, runF_none h m]
    rfl
theorem runF_eq {E : Nat → Nat → Bool} {A S : Nat → Nat} {n : Nat} (k : GS → Bool) : ∀ (m t : Nat) (s : GS), runG E A S n t = some s → runF E A S n m t s k = (match runG E A S n (t + m) with | none => false | some s => k s)
  | 0, t, s, h => by
    rw [runF]
    show _ = (match runG E A S n t with | none => false | some s => k s)
    rw [h]
  | m + 1, t, s, h => by
    rw [runF]
    have h1 : runG E A S n (t + 1) = stepG E A S n t s := by rw [runG, h, Option.bind_some]
    cases hs : stepG E A S n t s with
    | none =>
      rw [hs] at h1
      have := runF_none h1 m
      rw [show t + (m + 1) = t + 1 + m by omega, this]
    | some s' =>
      rw [hs] at h1
      simp only [forceL_eq, force_eq]
      rw [show t + (m + 1) = t + 1 + m by omega]
      exact runF_eq k m (t + 1) s' h1
theorem tab_get (f : Nat → Nat) {i : Nat} (h : i < 8) : ((List.range 8).map f).getD i 0 = f i := by
  rw [List.getD_eq_getElem?_getD, List.getElem?_map, List.getElem?_range h]
  rfl
/-- the patterns -/
noncomputable def extC (l : List Nat) : List (List Nat) := (l.eraseDups ++ [l.length]).map fun v => l ++ [v]
noncomputable def canonL : Nat → List (List Nat)
  | 0 => [[]]
  | n + 1 => (canonL n).flatMap extC
end S_P5

section S_P6
theorem afresh33 : True := by w_top off; trivial
/-- the same by recursors, for the kernel -/
noncomputable def filterR (p : Nat → Bool) (l : List Nat) : List Nat := List.rec (motive := fun _ => List Nat) [] (fun a _ ih => cond (p a) (a :: ih) ih) l
theorem filterR_eq (p : Nat → Bool) : ∀ l, filterR p l = l.filter p
  | [] => rfl
  | a :: r => by
    show cond (p a) (a :: filterR p r) (filterR p r) = _
    rw [filterR_eq p r, List.filter_cons]
    cases p a <;> rfl
noncomputable def mapR (f : Nat → Nat) (l : List Nat) : List Nat := List.rec (motive := fun _ => List Nat) [] (fun a _ ih => f a :: ih) l
theorem mapR_eq (f : Nat → Nat) : ∀ l, mapR f l = l.map f
  | [] => rfl
  | a :: r => by
    show f a :: mapR f r = _
    rw [mapR_eq f r, List.map_cons]
noncomputable def findR (p : Nat → Bool) (l : List Nat) : Option Nat := List.rec (motive := fun _ => Option Nat) none (fun a _ ih => cond (p a) (some a) ih) l
theorem findR_eq (p : Nat → Bool) : ∀ l, findR p l = l.find? p
  | [] => rfl
  | a :: r => by
    show cond (p a) (some a) (findR p r) = _
    rw [findR_eq p r, List.find?_cons]
    cases p a <;> rfl
noncomputable def lenR (l : List Nat) : Nat := List.rec (motive := fun _ => Nat) 0 (fun _ _ ih => Nat.succ ih) l
theorem lenR_eq : ∀ l, lenR l = l.length
  | [] => rfl
  | a :: r => by
    show Nat.succ (lenR r) = _
    rw [lenR_eq r, List.length_cons]
noncomputable def getR (l : List Nat) : Nat → Nat := List.rec (motive := fun _ => Nat → Nat) (fun _ => 0) (fun a _ ih i => Nat.rec (motive := fun _ => Nat) a (fun i _ => ih i) i) l
theorem getR_eq : ∀ (l : List Nat) (i : Nat), getR l i = l.getD i 0
  | [], i => by cases i <;> rfl
  | a :: r, 0 => rfl
  | a :: r, i + 1 => by
    show getR r i = _
    rw [getR_eq r i]
    rfl
noncomputable def cntR (x : Nat) (l : List Nat) : Nat := List.rec (motive := fun _ => Nat) 0 (fun a _ ih => cond (Nat.ble a x) (Nat.succ ih) ih) l
theorem cntR_eq (x : Nat) : ∀ l, cntR x l = cnt l x
  | [] => rfl
  | a :: r => by
    show cond (Nat.ble a x) (Nat.succ (cntR x r)) (cntR x r) = _
    rw [cntR_eq x r]
    unfold cnt
    rw [List.filter_cons]
    cases Nat.ble a x <;> rfl
noncomputable def headR (a : Nat) (l : List Nat) : Bool := List.rec (motive := fun _ => Bool) true (fun b _ _ => Nat.ble a b) l
noncomputable def sortR (l : List Nat) : Bool := List.rec (motive := fun _ => Bool) true (fun a r ih => cond (headR a r) ih false) l
theorem sortR_eq : ∀ l, sortR l = sortedN l
  | [] => rfl
  | a :: r => by
    show cond (headR a r) (sortR r) false = _
    rw [sortR_eq r, sortedN]
    have : headR a r = leH a r := by cases r <;> rfl
    rw [this]
    cases leH a r <;> rfl
noncomputable def insR (t : Nat) (l : List Nat) : Nat → List Nat := List.rec (motive := fun _ => Nat → List Nat) (fun _ => [t]) (fun a r ih c => Nat.rec (motive := fun _ => List Nat) (t :: a :: r) (fun c _ => a :: ih c) c) l
theorem insR_eq (t : Nat) : ∀ (l : List Nat) (c : Nat), insR t l c = l.take c ++ t :: l.drop c
  | [], c => by cases c <;> rfl
  | a :: r, 0 => rfl
  | a :: r, c + 1 => by
    show a :: insR t r c = _
    rw [insR_eq t r c]
    rfl
noncomputable def eraR (l : List Nat) : Nat → List Nat := List.rec (motive := fun _ => Nat → List Nat) (fun _ => []) (fun a r ih c => Nat.rec (motive := fun _ => List Nat) r (fun c _ => a :: ih c) c) l
theorem eraR_eq : ∀ (l : List Nat) (c : Nat), eraR l c = l.eraseIdx c
  | [], c => by cases c <;> rfl
  | a :: r, 0 => rfl
  | a :: r, c + 1 => by
    show a :: eraR r c = _
    rw [eraR_eq r c]
    rfl
noncomputable def appR (l m : List Nat) : List Nat := List.rec (motive := fun _ => List Nat) m (fun a _ ih => a :: ih) l
theorem appR_eq : ∀ l m, appR l m = l ++ m
  | [], _ => rfl
  | a :: r, m => by
    show a :: appR r m = _
    rw [appR_eq r m]
    rfl
noncomputable def dropR (l : List Nat) : List Nat := List.rec (motive := fun _ => List Nat) [] (fun a r ih => List.rec (motive := fun _ => List Nat) [] (fun _ _ _ => a :: ih) r) l
theorem dropR_eq : ∀ l, dropR l = l.dropLast
  | [] => rfl
  | [a] => rfl
  | a :: b :: r => by
    show a :: dropR (b :: r) = _
    rw [dropR_eq (b :: r)]
    rfl
noncomputable def forR (l : List Nat) : (List Nat → Bool) → Bool := List.rec (motive := fun _ => (List Nat → Bool) → Bool) (fun f => f []) (fun a _ ih f => force a fun a => ih fun r => f (a :: r)) l
theorem forR_eq : ∀ (l : List Nat) (f : List Nat → Bool), forR l f = f l
  | [], _ => rfl
  | a :: r, f => by
    show (force a fun a => forR r fun r => f (a :: r)) = _
    rw [force_eq, forR_eq r]
noncomputable def goR (A S : Nat → Nat) (t : Nat) (sp : List Nat) (l : Nat) (k : List Nat → List Nat → Nat → Nat → Bool) (js : List Nat) (f : Nat) : Bool :=
  forR js fun js => cond (sortR (mapR A js)) (cond (sortR sp) (forR (insR t js (cntR (A t) (mapR A js))) fun js2 => cond (sortR (mapR A js2))
    (cond (Nat.ble 1 (S t)) (cond (Nat.beq (S t) t) (k js2 sp f (l + 1)) (force (cntR (S t) sp) fun c => cond (Nat.ble 1 c) (forR (appR (eraR sp (c - 1)) [t]) fun sp2 => k js2 sp2 f (l + 1)) (k js2 sp f l))) (k js2 sp f l)) false) false) false
noncomputable def stepR (E : Nat → Nat → Bool) (A S : Nat → Nat) (n t : Nat) (js sp : List Nat) (f l : Nat) (k : List Nat → List Nat → Nat → Nat → Bool) : Bool :=
  match findR (fun j => E j t) js with
  | some j => cond (Nat.beq (A j) t) (goR A S t sp l k (filterR (fun j => !(E j t)) js) (f + 1)) false
  | none => goR A S t sp l k (cond (Nat.beq (lenR js) n) (dropR js) js) f
theorem beq_dec (a b : Nat) : Nat.beq a b = decide (a = b) := by
  by_cases h : a = b
  · rw [h, decide_eq_true rfl]; exact Nat.beq_refl _
  · rw [decide_eq_false h]
    cases e : Nat.beq a b with
    | false => rfl
    | true => exact absurd (Nat.eq_of_beq_eq_true e) h
theorem goR_eq (A S : Nat → Nat) (t : Nat) (sp : List Nat) (l : Nat) (k : GS → Bool) (js : List Nat) (f : Nat) :
    goR A S t sp l (fun a b c d => k (a, b, c, d)) js f = (if (sortedN (js.map A) && sortedN sp && sortedN ((putG A t js).map A)) = true then k (putG A t js, (layG S t sp l).1, f, (layG S t sp l).2) else false) := by
  unfold goR
  simp only [forR_eq, sortR_eq, mapR_eq, cntR_eq, insR_eq, appR_eq, eraR_eq, force_eq]
  rw [show js.take (cnt (js.map A) (A t)) ++ t :: js.drop (cnt (js.map A) (A t)) = putG A t js from rfl]
  cases sortedN (js.map A) with
  | false => rfl
  | true => cases sortedN sp with
    | false => rfl
    | true => cases sortedN ((putG A t js).map A) with
      | false => rfl
      | true =>
        simp only [cond_true, Bool.and_self, if_true]
        unfold layG
        by_cases h1 : 1 ≤ S t
        · rw [Nat.ble_eq_true_of_le h1, if_pos h1, cond_true, beq_dec]
          by_cases h2 : S t = t
          · rw [decide_eq_true h2, if_pos h2]; rfl
          · rw [decide_eq_false h2, if_neg h2, cond_false]
            by_cases h3 : 0 < cnt sp (S t)
            · rw [Nat.ble_eq_true_of_le (show 1 ≤ cnt sp (S t) from h3), if_pos h3]; rfl
            · have h4 : Nat.ble 1 (cnt sp (S t)) = false := by
                cases e : Nat.ble 1 (cnt sp (S t)) with
                | false => rfl
                | true => exact absurd (Nat.le_of_ble_eq_true e) h3
              rw [h4, if_neg h3]; rfl
        · have h4 : Nat.ble 1 (S t) = false := by
            cases e : Nat.ble 1 (S t) with
            | false => rfl
            | true => exact absurd (Nat.le_of_ble_eq_true e) h1
          rw [h4, if_neg h1]; rfl
theorem stepR_eq (E : Nat → Nat → Bool) (A S : Nat → Nat) (n t : Nat) (s : GS) (k : GS → Bool) :
    stepR E A S n t s.1 s.2.1 s.2.2.1 s.2.2.2 (fun a b c d => k (a, b, c, d)) = (match stepG E A S n t s with | none => false | some s' => k s') := by
  unfold stepR stepG loseG
  rw [findR_eq]
  cases s.1.find? fun j => E j t with
  | some j =>
    simp only
    rw [beq_dec, goR_eq, filterR_eq]
    by_cases h : A j = t
    · rw [decide_eq_true h, if_pos h, cond_true]
      simp only
      split <;> rfl
    · rw [decide_eq_false h, if_neg h]; rfl
  | none =>
    simp only
    rw [goR_eq, lenR_eq, dropR_eq, beq_dec]
    have e : cond (decide (s.1.length = n)) s.1.dropLast s.1 = if s.1.length = n then s.1.dropLast else s.1 := by
      by_cases h : s.1.length = n
      · rw [decide_eq_true h, if_pos h]; rfl
      · rw [decide_eq_false h, if_neg h]; rfl
    rw [e]
    generalize (if s.1.length = n then s.1.dropLast else s.1) = js0
    split <;> rfl
noncomputable def runR (E : Nat → Nat → Bool) (A S : Nat → Nat) (n : Nat) (m : Nat) : Nat → List Nat → List Nat → Nat → Nat → (List Nat → List Nat → Nat → Nat → Bool) → Bool :=
  Nat.rec (motive := fun _ => Nat → List Nat → List Nat → Nat → Nat → (List Nat → List Nat → Nat → Nat → Bool) → Bool) (fun _ js sp f l k => k js sp f l)
    (fun _ ih t js sp f l k => stepR E A S n t js sp f l fun js sp f l => force f fun f => force l fun l => ih (t + 1) js sp f l k) m
theorem runR_eq (E : Nat → Nat → Bool) (A S : Nat → Nat) (n : Nat) (k : GS → Bool) : ∀ (m t : Nat) (s : GS), runR E A S n m t s.1 s.2.1 s.2.2.1 s.2.2.2 (fun a b c d => k (a, b, c, d)) = runF E A S n m t s k
  | 0, _, _ => rfl
  | m + 1, t, s => by
    show (stepR E A S n t s.1 s.2.1 s.2.2.1 s.2.2.2 fun js sp f l => force f fun f => force l fun l => runR E A S n m (t + 1) js sp f l (fun a b c d => k (a, b, c, d))) = _
    have e : (fun (js sp : List Nat) (f l : Nat) => force f fun f => force l fun l => runR E A S n m (t + 1) js sp f l (fun a b c d => k (a, b, c, d))) = fun a b c d => (fun s : GS => runF E A S n m (t + 1) s k) (a, b, c, d) := by
      funext js sp f l
      rw [force_eq, force_eq]
      exact runR_eq E A S n k m (t + 1) (js, sp, f, l)
    rw [e]
    refine (stepR_eq E A S n t s (fun s => runF E A S n m (t + 1) s k)).trans ?_
    rw [runF]
    cases stepG E A S n t s with
    | none => rfl
    | some s' => simp only [forceL_eq, force_eq]
noncomputable def eqR (ks : List Nat) (i j : Nat) : Bool := Nat.beq (getR ks i) (getR ks j)
theorem eqR_eq (ks : List Nat) : eqR ks = eqOf ks := by
  funext i j
  unfold eqR eqOf
  rw [getR_eq, getR_eq, beq_dec]
  rfl
noncomputable def allR (p : Nat → Bool) (l : List Nat) : Bool := List.rec (motive := fun _ => Bool) true (fun a _ ih => cond (p a) ih false) l
theorem allR_eq (p : Nat → Bool) : ∀ l, allR p l = l.all p
  | [] => rfl
  | a :: r => by
    show cond (p a) (allR p r) false = _
    rw [allR_eq p r, List.all_cons]
    cases p a <;> rfl
noncomputable def anyR (p : Nat → Bool) (l : List Nat) : Bool := List.rec (motive := fun _ => Bool) false (fun a _ ih => cond (p a) true ih) l
theorem anyR_eq (p : Nat → Bool) : ∀ l, anyR p l = l.any p
  | [] => rfl
  | a :: r => by
    show cond (p a) true (anyR p r) = _
    rw [anyR_eq p r, List.any_cons]
    cases p a <;> rfl
noncomputable def r8 : List Nat := [0, 1, 2, 3, 4, 5, 6, 7]
theorem r8_eq : List.range 8 = r8 := rfl
noncomputable def lastR (d : Nat) (l : List Nat) : Nat := List.rec (motive := fun _ => Nat → Nat) (fun d => d) (fun a _ ih _ => ih a) l d
theorem lastR_eq : ∀ (l : List Nat) (d : Nat), lastR d l = l.getLastD d
  | [], _ => rfl
  | a :: r, d => by
    show lastR a r = _
    rw [lastR_eq r a]
    cases r <;> rfl
noncomputable def endR (E : Nat → Nat → Bool) (A : Nat → Nat) (dl : List Nat) (js : List Nat) (f l : Nat) : Bool :=
  cond (anyR (Nat.beq f) dl) (cond (allR (Nat.ble f) dl) (cond (Nat.beq l f) (cond (sortR js) (cond (allR (fun j => Nat.beq (lastR 0 (filterR (fun t => E t j) r8)) j) js) (allR (fun j => Nat.beq (A j) 8) js) false) false) false) false) false
theorem endR_eq (E : Nat → Nat → Bool) (A : Nat → Nat) (dl : List Nat) (s : GS) : endR E A dl s.1 s.2.2.1 s.2.2.2 = endG E A dl s := by
  unfold endR endG lastG
  simp only [anyR_eq, allR_eq, sortR_eq, lastR_eq, filterR_eq, r8_eq]
  cases dl.any (Nat.beq s.2.2.1) <;> cases dl.all (Nat.ble s.2.2.1) <;> cases Nat.beq s.2.2.2 s.2.2.1 <;> cases sortedN s.1 <;> simp
end S_P6

section S_P7
noncomputable def filtP (k : Nat) (l : List (Nat × Nat)) : List (Nat × Nat) := List.rec (motive := fun _ => List (Nat × Nat)) [] (fun p _ ih => cond (cond (Nat.ble p.1 k) (Nat.blt k p.2) false) ih (p :: ih)) l
theorem filtP_eq (k : Nat) : ∀ l, filtP k l = l.filter fun p => !(Nat.ble p.1 k && Nat.blt k p.2)
  | [] => rfl
  | p :: r => by
    show cond (cond (Nat.ble p.1 k) (Nat.blt k p.2) false) (filtP k r) (p :: filtP k r) = _
    rw [filtP_eq k r, List.filter_cons]
    cases Nat.ble p.1 k <;> cases Nat.blt k p.2 <;> rfl
noncomputable def forPR (l : List (Nat × Nat)) : (List (Nat × Nat) → Bool) → Bool := List.rec (motive := fun _ => (List (Nat × Nat) → Bool) → Bool) (fun f => f []) (fun a _ ih f => force a.1 fun x => force a.2 fun y => ih fun r => f ((x, y) :: r)) l
theorem forPR_eq : ∀ (l : List (Nat × Nat)) (f : List (Nat × Nat) → Bool), forPR l f = f l
  | [], _ => rfl
  | a :: r, f => by
    show (force a.1 fun x => force a.2 fun y => forPR r fun r => f ((x, y) :: r)) = _
    rw [force_eq, force_eq, forPR_eq r]
/-- forces the spine alone (the pairs are numbers already) -/
noncomputable def forSP (l : List (Nat × Nat)) : (List (Nat × Nat) → Bool) → Bool := List.rec (motive := fun _ => (List (Nat × Nat) → Bool) → Bool) (fun f => f []) (fun a _ ih f => ih fun r => f (a :: r)) l
theorem forSP_eq : ∀ (l : List (Nat × Nat)) (f : List (Nat × Nat) → Bool), forSP l f = f l
  | [], _ => rfl
  | a :: r, f => by
    show (forSP r fun r => f (a :: r)) = _
    rw [forSP_eq r]
noncomputable def lvl (k : Nat) (l : List (Nat × List (Nat × Nat))) : (List (Nat × List (Nat × Nat)) → Bool) → Bool :=
  List.rec (motive := fun _ => (List (Nat × List (Nat × Nat)) → Bool) → Bool) (fun f => f []) (fun q _ ih f => forSP (filtP k q.2) fun y => force (q.1 + 1) fun x => ih fun r => f ((x, y) :: r)) l
theorem lvl_eq (k : Nat) : ∀ (l : List (Nat × List (Nat × Nat))) (f : List (Nat × List (Nat × Nat)) → Bool), lvl k l f = f (l.map (cutN k))
  | [], _ => rfl
  | q :: r, f => by
    show (forSP (filtP k q.2) fun y => force (q.1 + 1) fun x => lvl k r fun r => f ((x, y) :: r)) = _
    rw [forSP_eq, force_eq, lvl_eq k r, filtP_eq]
    rfl
noncomputable def appQ (l m : List (Nat × List (Nat × Nat))) : List (Nat × List (Nat × Nat)) := List.rec (motive := fun _ => List (Nat × List (Nat × Nat))) m (fun a _ ih => a :: ih) l
theorem appQ_eq : ∀ l m, appQ l m = l ++ m
  | [], _ => rfl
  | a :: r, m => by
    show a :: appQ r m = _
    rw [appQ_eq r m]
    rfl
noncomputable def cutsR (rs : List (Nat × Nat)) (j : Nat) : (List (Nat × List (Nat × Nat)) → Bool) → Bool :=
  Nat.rec (motive := fun _ => (List (Nat × List (Nat × Nat)) → Bool) → Bool) (fun k => k [(0, rs)]) (fun j ih k => ih fun l => lvl (j + 1) l fun l2 => k (appQ l l2)) j
theorem cutsR_eq (rs : List (Nat × Nat)) : ∀ (j : Nat) (k : List (Nat × List (Nat × Nat)) → Bool), cutsR rs j k = k (cutsN rs j)
  | 0, _ => rfl
  | j + 1, k => by
    show (cutsR rs j fun l => lvl (j + 1) l fun l2 => k (appQ l l2)) = _
    rw [cutsR_eq rs j, lvl_eq, appQ_eq, cutsN]
noncomputable def lenP (l : List (Nat × Nat)) : Nat := List.rec (motive := fun _ => Nat) 0 (fun _ _ ih => Nat.succ ih) l
theorem lenP_eq : ∀ l, lenP l = l.length
  | [] => rfl
  | a :: r => by
    show Nat.succ (lenP r) = _
    rw [lenP_eq r, List.length_cons]
/-- size and count of each cut -/
noncomputable def cntC (l : List (Nat × List (Nat × Nat))) : (List (Nat × Nat) → Bool) → Bool := List.rec (motive := fun _ => (List (Nat × Nat) → Bool) → Bool) (fun f => f []) (fun q _ ih f => force (lenP q.2) fun c => ih fun r => f ((q.1, c) :: r)) l
theorem cntC_eq : ∀ (l : List (Nat × List (Nat × Nat))) (f : List (Nat × Nat) → Bool), cntC l f = f (l.map fun q => (q.1, q.2.length))
  | [], _ => rfl
  | q :: r, f => by
    show (force (lenP q.2) fun c => cntC r fun r => f ((q.1, c) :: r)) = _
    rw [force_eq, cntC_eq r, lenP_eq]
    rfl
noncomputable def valC (m : Nat) (l : List (Nat × Nat)) : List Nat := List.rec (motive := fun _ => List Nat) [] (fun q _ ih => Nat.add (Nat.mul m q.1) q.2 :: ih) l
theorem valC_eq (m : Nat) : ∀ l : List (Nat × List (Nat × Nat)), valC m (l.map fun q => (q.1, q.2.length)) = l.map fun q => m * q.1 + q.2.length
  | [] => rfl
  | q :: r => by
    show Nat.add (Nat.mul m q.1) q.2.length :: valC m (r.map fun q => (q.1, q.2.length)) = _
    rw [valC_eq m r, List.map_cons]
    rfl
/-- the next and the one before, by rows -/
noncomputable def nextR (e : Nat → Bool) (t : Nat) : Nat := match findR (fun j => cond (Nat.blt t j) (e j) false) r8 with
  | none => 8
  | some j => j
noncomputable def prevR (e : Nat → Bool) (t : Nat) : Nat := List.rec (motive := fun _ => Nat → Nat) (fun d => d) (fun a _ ih d => cond (cond (Nat.blt a t) (e a) false) (ih (a + 1)) (ih d)) r8 0
noncomputable def getB (l : List Bool) : Nat → Bool := fun i => l.getD i false
noncomputable def rowsL : Nat → List (List Bool)
  | 0 => [[]]
  | n + 1 => (rowsL n).flatMap fun l => [true :: l, false :: l]
theorem mem_rows : ∀ (l : List Bool), l ∈ rowsL l.length
  | [] => .head _
  | b :: r => by
    rw [List.length_cons, rowsL, List.mem_flatMap]
    exact ⟨r, mem_rows r, by cases b <;> simp⟩
noncomputable def lastUp (e : Nat → Bool) (t : Nat) : Nat := match ((List.range t).filter e).getLast? with
  | none => 0
  | some l => l + 1
noncomputable def rowOk (r : List Bool) : Bool := r8.all fun t => !(getB r t) || (Nat.beq (aG (fun j _ => getB r j) t) (nextR (getB r) t) && Nat.beq (sG (fun j _ => getB r j) t) (prevR (getB r) t) && Nat.beq (lastUp (getB r) t) (prevR (getB r) t))
theorem rows_ok : (rowsL 8).all rowOk = true := by decide +kernel
theorem getB_row (E : Nat → Nat → Bool) (t : Nat) {j : Nat} (hj : j < 8) : getB (r8.map fun j => E j t) j = E j t := by
  unfold getB
  rw [← r8_eq, List.getD_eq_getElem?_getD, List.getElem?_map, List.getElem?_range hj]
  rfl
theorem row_find {e e' : Nat → Bool} (h : ∀ j, j < 8 → e j = e' j) (t : Nat) : nextR e t = nextR e' t ∧ prevR e t = prevR e' t := by
  constructor
  · unfold nextR
    rw [findR_eq, findR_eq, ← r8_eq, find_congr (l := List.range 8) (p := fun j => cond (Nat.blt t j) (e j) false) (q := fun j => cond (Nat.blt t j) (e' j) false) fun j hj => by rw [h j (List.mem_range.mp hj)]]
  · unfold prevR r8
    simp only [h 0 (by decide), h 1 (by decide), h 2 (by decide), h 3 (by decide), h 4 (by decide), h 5 (by decide), h 6 (by decide), h 7 (by decide)]
theorem next_prev {E : Nat → Nat → Bool} {t : Nat} (ht : t < 8) (hE : E t t = true) : aG E t = nextR (fun j => E j t) t ∧ sG E t = prevR (fun j => E j t) t ∧ lastUp (fun j => E j t) t = prevR (fun j => E j t) t := by
  have hr := List.all_eq_true.mp rows_ok (r8.map fun j => E j t) (mem_rows _)
  have h1 := List.all_eq_true.mp hr t (by rw [← r8_eq]; exact List.mem_range.mpr ht)
  rw [getB_row E t ht, hE] at h1
  simp only [Bool.not_true, Bool.false_or, Bool.and_eq_true] at h1
  have hf := row_find (e := getB (r8.map fun j => E j t)) (e' := fun j => E j t) (fun j hj => getB_row E t hj) t
  have htm : tmG (fun j _ => getB (r8.map fun j => E j t) j) t = tmG E t := by
    unfold tmG
    rw [List.filter_congr fun j hj => getB_row E t (List.mem_range.mp hj)]
  unfold aG sG at h1 ⊢
  rw [htm] at h1
  have hlu : lastUp (getB (r8.map fun j => E j t)) t = lastUp (fun j => E j t) t := by
    unfold lastUp
    rw [List.filter_congr fun j hj => getB_row E t (Nat.lt_trans (List.mem_range.mp hj) ht)]
  exact ⟨(Nat.eq_of_beq_eq_true h1.1.1).trans hf.1, (Nat.eq_of_beq_eq_true h1.1.2).trans hf.2, hlu.symm.trans ((Nat.eq_of_beq_eq_true h1.2).trans hf.2)⟩
end S_P7

section S_P8
theorem afresh34 : True := by w_top off; trivial
noncomputable def mapS (E : Nat → Nat → Bool) (g : (Nat → Bool) → Nat → Nat) (l : List Nat) : List Nat := mapR (fun t => g (fun j => E j t) t) l
noncomputable def retR (sl : Nat → Nat) (l : List Nat) : List (Nat × Nat) := List.rec (motive := fun _ => List (Nat × Nat)) [] (fun t _ ih => cond (Nat.beq (sl t) 0) ih ((sl t, t) :: ih)) l
noncomputable def evalR (ks : List Nat) : Bool :=
  forR (mapS (eqR ks) nextR r8) fun al => forR (mapS (eqR ks) prevR r8) fun sl => forPR (retR (getR sl) r8) fun rs => cutsR rs 6 fun cl => cntC cl fun cs => allR (fun n => force (n - 1) fun m =>
    runR (eqR ks) (getR al) (getR sl) n 8 0 [] (forRep m) 0 0 fun js _ f l => endR (eqR ks) (getR al) (valC m cs) js f l) [2, 3, 4]
where forRep (n : Nat) : List Nat := List.replicate n 0
theorem eqOf_self (ks : List Nat) (t : Nat) : eqOf ks t t = true := beq_self_eq_true _
theorem next_tab (ks : List Nat) : mapS (eqOf ks) nextR r8 = (List.range 8).map (aG (eqOf ks)) := by
  unfold mapS
  rw [mapR_eq, ← r8_eq]
  exact List.map_congr_left fun t ht => (next_prev (List.mem_range.mp ht) (eqOf_self ks t)).1.symm
theorem prev_tab (ks : List Nat) : mapS (eqOf ks) prevR r8 = (List.range 8).map (sG (eqOf ks)) := by
  unfold mapS
  rw [mapR_eq, ← r8_eq]
  exact List.map_congr_left fun t ht => (next_prev (List.mem_range.mp ht) (eqOf_self ks t)).2.1.symm
theorem retR_eq (g : Nat → Nat) : ∀ l, retR g l = (l.map fun t => if g t = 0 then [] else [(g t, t)]).flatten
  | [] => rfl
  | t :: r => by
    show cond (Nat.beq (g t) 0) (retR g r) ((g t, t) :: retR g r) = _
    rw [retR_eq g r, List.map_cons, List.flatten_cons, beq_dec]
    by_cases h : g t = 0
    · rw [decide_eq_true h, if_pos h]; rfl
    · rw [decide_eq_false h, if_neg h]; rfl
theorem ret_tab (ks : List Nat) : retR (getR ((List.range 8).map (sG (eqOf ks)))) r8 = ((List.range 8).map (retG (eqOf ks))).flatten := by
  rw [retR_eq, ← r8_eq]
  congr 1
  refine List.map_congr_left fun t ht => ?_
  have ht := List.mem_range.mp ht
  have h := next_prev ht (eqOf_self ks t)
  rw [getR_eq, tab_get _ ht, h.2.1, ← h.2.2]
  unfold lastUp retG
  cases ((List.range t).filter fun s => eqOf ks s t).getLast? with
  | none => rfl
  | some l => rfl
theorem evalR_good {ks : List Nat} (h : evalR ks = true) {n : Nat} (hn : n ∈ [2, 3, 4]) : goodG (eqOf ks) (aG (eqOf ks)) (sG (eqOf ks)) n = true := by
  unfold evalR at h
  rw [eqR_eq, forR_eq, forR_eq, forPR_eq, cutsR_eq, cntC_eq, allR_eq, next_tab, prev_tab, ret_tab] at h
  have h1 := List.all_eq_true.mp h n hn
  rw [force_eq, valC_eq] at h1
  have e : (fun (js : List Nat) (_ : List Nat) (f l : Nat) => endR (eqOf ks) (getR ((List.range 8).map (aG (eqOf ks)))) ((cutsN ((List.range 8).map (retG (eqOf ks))).flatten 6).map fun q => (n - 1) * q.1 + q.2.length) js f l) =
      fun a b c d => (fun s : GS => endG (eqOf ks) (getR ((List.range 8).map (aG (eqOf ks)))) (dueG (eqOf ks) n) s) (a, b, c, d) := by
    funext js sp f l
    exact endR_eq _ _ _ (js, sp, f, l)
  rw [e] at h1
  have h2 := (runR_eq (eqOf ks) (getR ((List.range 8).map (aG (eqOf ks)))) (getR ((List.range 8).map (sG (eqOf ks)))) n (fun s : GS => endG (eqOf ks) (getR ((List.range 8).map (aG (eqOf ks)))) (dueG (eqOf ks) n) s) 8 0 ([], List.replicate (n - 1) 0, 0, 0)).symm.trans h1
  rw [runF_eq _ 8 0 _ rfl] at h2
  rw [good_congr (E' := eqOf ks) (A' := getR ((List.range 8).map (aG (eqOf ks)))) (S' := getR ((List.range 8).map (sG (eqOf ks)))) (fun _ _ _ _ => rfl) (fun i hi => by rw [getR_eq]; exact (tab_get _ hi).symm) (fun i hi => by rw [getR_eq]; exact (tab_get _ hi).symm)]
  exact h2
/-- the pattern of a list: each item's first place -/
noncomputable def patt (ks : List Nat) : List Nat := (List.range 8).map fun i => mP ks (ks.getD i 0)
theorem patt_get (ks : List Nat) {i : Nat} (h : i < 8) : (patt ks).getD i 0 = mP ks (ks.getD i 0) := tab_get _ h
theorem mP_self (ks : List Nat) {i : Nat} (h : i < 8) : mP ks (ks.getD i 0) ≤ i ∧ ks.getD (mP ks (ks.getD i 0)) 0 = ks.getD i 0 := by
  unfold mP
  cases hf : (List.range 8).find? fun t => ks.getD t 0 == ks.getD i 0 with
  | none =>
    rw [List.find?_eq_none] at hf
    exact absurd (beq_self_eq_true _) (hf i (List.mem_range.mpr h))
  | some t =>
    have h1 := List.find?_range_eq_some.mp hf
    refine ⟨?_, beq_iff_eq.mp h1.1⟩
    show t ≤ i
    by_cases hlt : i < t
    · have := h1.2.2 i hlt
      rw [beq_self_eq_true] at this
      cases this
    · omega
theorem patt_eq (ks : List Nat) {i j : Nat} (hi : i < 8) (hj : j < 8) : eqOf ks i j = eqOf (patt ks) i j := by
  unfold eqOf
  rw [patt_get ks hi, patt_get ks hj]
  by_cases h : ks.getD i 0 = ks.getD j 0
  · rw [h, beq_self_eq_true, beq_self_eq_true]
  · rw [beq_eq_false_iff_ne.mpr h, beq_eq_false_iff_ne.mpr]
    intro e
    apply h
    rw [← (mP_self ks hi).2, ← (mP_self ks hj).2, e]
theorem patt_in (ks : List Nat) : ∀ n, n ≤ 8 → (patt ks).take n ∈ canonL n
  | 0, _ => .head _
  | n + 1, hn => by
    rw [canonL, List.mem_flatMap]
    refine ⟨(patt ks).take n, patt_in ks n (by omega), ?_⟩
    have hl : (patt ks).length = 8 := by unfold patt; simp
    have e : (patt ks)[n]? = some (mP ks (ks.getD n 0)) := by
      unfold patt
      rw [List.getElem?_map, List.getElem?_range (by omega)]
      rfl
    unfold extC
    rw [List.mem_map]
    refine ⟨mP ks (ks.getD n 0), ?_, by rw [List.take_add_one, e]; rfl⟩
    have hs := mP_self ks (show n < 8 by omega)
    by_cases h : mP ks (ks.getD n 0) = n
    · rw [h]
      refine List.mem_append_right _ ?_
      rw [List.length_take, hl, Nat.min_eq_left (by omega)]
      exact .head _
    · refine List.mem_append_left _ ?_
      rw [List.mem_eraseDups]
      have hlt : mP ks (ks.getD n 0) < n := by omega
      have e2 : (patt ks)[mP ks (ks.getD n 0)]? = some (mP ks (ks.getD n 0)) := by
        unfold patt
        rw [List.getElem?_map, List.getElem?_range (by omega)]
        show some (mP ks (ks.getD (mP ks (ks.getD n 0)) 0)) = _
        rw [hs.2]
      refine List.mem_of_getElem? (i := mP ks (ks.getD n 0)) ?_
      rw [List.getElem?_take, if_pos hlt]
      exact e2
end S_P8

section S_P9
theorem afresh35 : True := by w_top off; trivial
noncomputable def dfs (m : Nat) : List Nat → Bool := Nat.rec (motive := fun _ => List Nat → Bool) (fun l => evalR l) (fun _ ih l => allR (fun v => forR (appR l [v]) fun l => ih l) (l.eraseDups ++ [l.length])) m
theorem patt_ext (ks : List Nat) {n : Nat} (hn : n < 8) : ∃ v, v ∈ ((patt ks).take n).eraseDups ++ [((patt ks).take n).length] ∧ (patt ks).take (n + 1) = (patt ks).take n ++ [v] := by
  have hl : (patt ks).length = 8 := by unfold patt; simp
  have e : (patt ks)[n]? = some (mP ks (ks.getD n 0)) := by
    unfold patt
    rw [List.getElem?_map, List.getElem?_range (by omega)]
    rfl
  refine ⟨mP ks (ks.getD n 0), ?_, by rw [List.take_add_one, e]; rfl⟩
  have hs := mP_self ks hn
  by_cases h : mP ks (ks.getD n 0) = n
  · rw [h]
    refine List.mem_append_right _ ?_
    rw [List.length_take, hl, Nat.min_eq_left (by omega)]
    exact .head _
  · refine List.mem_append_left _ ?_
    rw [List.mem_eraseDups]
    have hlt : mP ks (ks.getD n 0) < n := by omega
    have e2 : (patt ks)[mP ks (ks.getD n 0)]? = some (mP ks (ks.getD n 0)) := by
      unfold patt
      rw [List.getElem?_map, List.getElem?_range (by omega)]
      show some (mP ks (ks.getD (mP ks (ks.getD n 0)) 0)) = _
      rw [hs.2]
    refine List.mem_of_getElem? (i := mP ks (ks.getD n 0)) ?_
    rw [List.getElem?_take, if_pos hlt]
    exact e2
theorem dfs_good (ks : List Nat) : ∀ (m n : Nat), n + m = 8 → dfs m ((patt ks).take n) = true → evalR (patt ks) = true
  | 0, n, h, hd => by
    have hl : (patt ks).length = 8 := by unfold patt; simp
    rw [List.take_of_length_le (by omega)] at hd
    exact hd
  | m + 1, n, h, hd => by
    obtain ⟨v, hv, e⟩ := patt_ext ks (show n < 8 by omega)
    have h1 : allR (fun v => forR (appR ((patt ks).take n) [v]) fun l => dfs m l) (((patt ks).take n).eraseDups ++ [((patt ks).take n).length]) = true := hd
    rw [allR_eq] at h1
    have h2 := List.all_eq_true.mp h1 v hv
    rw [forR_eq, appR_eq, ← e] at h2
    exact dfs_good ks m (n + 1) (by omega) h2
theorem dk_0 : dfs 3 [0, 0, 0, 0, 0] = true := by decide +kernel
theorem dk_1 : dfs 3 [0, 0, 0, 0, 4] = true := by decide +kernel
theorem dk_2 : dfs 3 [0, 0, 0, 3, 0] = true := by decide +kernel
theorem dk_3 : dfs 3 [0, 0, 0, 3, 3] = true := by decide +kernel
theorem dk_4 : dfs 3 [0, 0, 0, 3, 4] = true := by decide +kernel
theorem dk_5 : dfs 3 [0, 0, 2, 0, 0] = true := by decide +kernel
theorem dk_6 : dfs 3 [0, 0, 2, 0, 2] = true := by decide +kernel
theorem dk_7 : dfs 3 [0, 0, 2, 0, 4] = true := by decide +kernel
theorem dk_8 : dfs 3 [0, 0, 2, 2, 0] = true := by decide +kernel
theorem dk_9 : dfs 3 [0, 0, 2, 2, 2] = true := by decide +kernel
theorem dk_10 : dfs 3 [0, 0, 2, 2, 4] = true := by decide +kernel
theorem dk_11 : dfs 3 [0, 0, 2, 3, 0] = true := by decide +kernel
theorem dk_12 : dfs 3 [0, 0, 2, 3, 2] = true := by decide +kernel
theorem dk_13 : dfs 3 [0, 0, 2, 3, 3] = true := by decide +kernel
theorem dk_14 : dfs 3 [0, 0, 2, 3, 4] = true := by decide +kernel
theorem dk_15 : dfs 3 [0, 1, 0, 0, 0] = true := by decide +kernel
theorem dk_16 : dfs 3 [0, 1, 0, 0, 1] = true := by decide +kernel
theorem dk_17 : dfs 3 [0, 1, 0, 0, 4] = true := by decide +kernel
theorem dk_18 : dfs 3 [0, 1, 0, 1, 0] = true := by decide +kernel
theorem dk_19 : dfs 3 [0, 1, 0, 1, 1] = true := by decide +kernel
theorem dk_20 : dfs 3 [0, 1, 0, 1, 4] = true := by decide +kernel
theorem dk_21 : dfs 3 [0, 1, 0, 3, 0] = true := by decide +kernel
theorem dk_22 : dfs 3 [0, 1, 0, 3, 1] = true := by decide +kernel
theorem dk_23 : dfs 3 [0, 1, 0, 3, 3] = true := by decide +kernel
theorem dk_24 : dfs 3 [0, 1, 0, 3, 4] = true := by decide +kernel
theorem dk_25 : dfs 3 [0, 1, 1, 0, 0] = true := by decide +kernel
theorem dk_26 : dfs 3 [0, 1, 1, 0, 1] = true := by decide +kernel
theorem dk_27 : dfs 3 [0, 1, 1, 0, 4] = true := by decide +kernel
theorem dk_28 : dfs 3 [0, 1, 1, 1, 0] = true := by decide +kernel
theorem dk_29 : dfs 3 [0, 1, 1, 1, 1] = true := by decide +kernel
theorem dk_30 : dfs 3 [0, 1, 1, 1, 4] = true := by decide +kernel
theorem dk_31 : dfs 3 [0, 1, 1, 3, 0] = true := by decide +kernel
theorem dk_32 : dfs 3 [0, 1, 1, 3, 1] = true := by decide +kernel
theorem dk_33 : dfs 3 [0, 1, 1, 3, 3] = true := by decide +kernel
theorem dk_34 : dfs 3 [0, 1, 1, 3, 4] = true := by decide +kernel
theorem dk_35 : dfs 3 [0, 1, 2, 0, 0] = true := by decide +kernel
theorem dk_36 : dfs 3 [0, 1, 2, 0, 1] = true := by decide +kernel
theorem dk_37 : dfs 3 [0, 1, 2, 0, 2] = true := by decide +kernel
theorem dk_38 : dfs 3 [0, 1, 2, 0, 4] = true := by decide +kernel
theorem dk_39 : dfs 3 [0, 1, 2, 1, 0] = true := by decide +kernel
theorem dk_40 : dfs 3 [0, 1, 2, 1, 1] = true := by decide +kernel
theorem dk_41 : dfs 3 [0, 1, 2, 1, 2] = true := by decide +kernel
theorem dk_42 : dfs 3 [0, 1, 2, 1, 4] = true := by decide +kernel
theorem dk_43 : dfs 3 [0, 1, 2, 2, 0] = true := by decide +kernel
theorem dk_44 : dfs 3 [0, 1, 2, 2, 1] = true := by decide +kernel
theorem dk_45 : dfs 3 [0, 1, 2, 2, 2] = true := by decide +kernel
theorem dk_46 : dfs 3 [0, 1, 2, 2, 4] = true := by decide +kernel
theorem dk_47 : dfs 3 [0, 1, 2, 3, 0] = true := by decide +kernel
theorem dk_48 : dfs 3 [0, 1, 2, 3, 1] = true := by decide +kernel
theorem dk_49 : dfs 3 [0, 1, 2, 3, 2] = true := by decide +kernel
theorem dk_50 : dfs 3 [0, 1, 2, 3, 3] = true := by decide +kernel
theorem dk_51 : dfs 3 [0, 1, 2, 3, 4] = true := by decide +kernel
theorem canon5 : canonL 5 = [[0, 0, 0, 0, 0], [0, 0, 0, 0, 4], [0, 0, 0, 3, 0], [0, 0, 0, 3, 3], [0, 0, 0, 3, 4], [0, 0, 2, 0, 0], [0, 0, 2, 0, 2], [0, 0, 2, 0, 4], [0, 0, 2, 2, 0], [0, 0, 2, 2, 2], [0, 0, 2, 2, 4], [0, 0, 2, 3, 0], [0, 0, 2, 3, 2], [0, 0, 2, 3, 3], [0, 0, 2, 3, 4], [0, 1, 0, 0, 0], [0, 1, 0, 0, 1], [0, 1, 0, 0, 4], [0, 1, 0, 1, 0], [0, 1, 0, 1, 1], [0, 1, 0, 1, 4], [0, 1, 0, 3, 0], [0, 1, 0, 3, 1], [0, 1, 0, 3, 3], [0, 1, 0, 3, 4], [0, 1, 1, 0, 0], [0, 1, 1, 0, 1], [0, 1, 1, 0, 4], [0, 1, 1, 1, 0], [0, 1, 1, 1, 1], [0, 1, 1, 1, 4], [0, 1, 1, 3, 0], [0, 1, 1, 3, 1], [0, 1, 1, 3, 3], [0, 1, 1, 3, 4], [0, 1, 2, 0, 0], [0, 1, 2, 0, 1], [0, 1, 2, 0, 2], [0, 1, 2, 0, 4], [0, 1, 2, 1, 0], [0, 1, 2, 1, 1], [0, 1, 2, 1, 2], [0, 1, 2, 1, 4], [0, 1, 2, 2, 0], [0, 1, 2, 2, 1], [0, 1, 2, 2, 2], [0, 1, 2, 2, 4], [0, 1, 2, 3, 0], [0, 1, 2, 3, 1], [0, 1, 2, 3, 2], [0, 1, 2, 3, 3], [0, 1, 2, 3, 4]] := by decide +kernel
theorem dfs5 : ∀ l ∈ canonL 5, dfs 3 l = true := by
  rw [canon5]
  intro l hl
  simp only [List.mem_cons, List.not_mem_nil, or_false] at hl
  rcases hl with rfl | rfl | rfl | rfl | rfl | rfl | rfl | rfl | rfl | rfl | rfl | rfl | rfl | rfl | rfl | rfl | rfl | rfl | rfl | rfl | rfl | rfl | rfl | rfl | rfl | rfl | rfl | rfl | rfl | rfl | rfl | rfl | rfl | rfl | rfl | rfl | rfl | rfl | rfl | rfl | rfl | rfl | rfl | rfl | rfl | rfl | rfl | rfl | rfl | rfl | rfl | rfl
  · exact dk_0
  · exact dk_1
  · exact dk_2
  · exact dk_3
  · exact dk_4
  · exact dk_5
  · exact dk_6
  · exact dk_7
  · exact dk_8
  · exact dk_9
  · exact dk_10
  · exact dk_11
  · exact dk_12
  · exact dk_13
  · exact dk_14
  · exact dk_15
  · exact dk_16
  · exact dk_17
  · exact dk_18
  · exact dk_19
  · exact dk_20
  · exact dk_21
  · exact dk_22
  · exact dk_23
  · exact dk_24
  · exact dk_25
  · exact dk_26
  · exact dk_27
  · exact dk_28
  · exact dk_29
  · exact dk_30
  · exact dk_31
  · exact dk_32
  · exact dk_33
  · exact dk_34
  · exact dk_35
  · exact dk_36
  · exact dk_37
  · exact dk_38
  · exact dk_39
  · exact dk_40
  · exact dk_41
  · exact dk_42
  · exact dk_43
  · exact dk_44
  · exact dk_45
  · exact dk_46
  · exact dk_47
  · exact dk_48
  · exact dk_49
  · exact dk_50
  · exact dk_51
theorem patt_good (ks : List Nat) : evalR (patt ks) = true := dfs_good ks 3 5 rfl (dfs5 _ (patt_in ks 5 (by decide)))
theorem good_all' {ks : List Nat} (h8 : ks.length = 8) {n : Nat} (hn : 2 ≤ n) (hn4 : n ≤ 4) : ∃ s, runP ks n 8 = some s ∧ EndP ks n s := by
  refine good_end h8 (by omega) ?_
  have hm : n ∈ [2, 3, 4] := by simp only [List.mem_cons, List.not_mem_nil, or_false]; omega
  have h1 := evalR_good (patt_good ks) hm
  have hE : ∀ i j, i < 8 → j < 8 → eqOf ks i j = eqOf (patt ks) i j := fun i j hi hj => patt_eq ks hi hj
  rw [aN_eq, sN_eq]
  rw [good_congr (E' := eqOf (patt ks)) (A' := aG (eqOf (patt ks))) (S' := sG (eqOf (patt ks))) hE (fun i hi => by unfold aG; rw [tm_congr hE hi]) (fun i hi => by unfold sG; rw [tm_congr hE hi])]
  exact h1
end S_P9

theorem good_all {ks : List Nat} (h8 : ks.length = 8) (_ : ∀ k ∈ ks, k ≤ 4) {n : Nat} (hn : 2 ≤ n) (hn4 : n ≤ 4) : ∃ s, runP ks n 8 = some s ∧ EndP ks n s := good_all' h8 hn hn4
section G_4
local macro_rules | `(tactic| walk_at "halt") => `(tactic| with_reducible first | show H43 | show H42 | show H48 | show H49 | show H50 | show H51 | show H52 | show H53 | show H54 | show H34)
section S_E14
theorem afresh36 : True := by w_top off; trivial
local macro_rules | `(tactic| walk_at "none here") => `(tactic| fail)
noncomputable def S_E13_g1 := fun (hStop1 : Keep (_ : Prop)) (hStop2 : Keep (_ : Prop)) => (show Dom11 S_E10_done from by
  delta Dom11
  intros w s₀ s₁ mg mb G Y fa o pm doc ho hg KX X V GL T B TE TW w1 w2 M w3 w4 hcd is hs hlay0 hL hr hl2 w5 w6 sc sv w8 hZ ra w1' r0 hI hr2 hsl hcond' K0 hD h₁ tk₁ c1 c2 c3 c4 dc1 dc2 dc3 dc4 qk1 ek1 P0
  intros h60 N0a h63 x0 d0 h66 l67 g7 L7 h7 tkA H0 h8 h9a tkB h10 tkC h9 tk9 Gc kX D0 h88 h91 h92 o1 do1 h95 o2 do2 h98 o3 do3 tk D1 h1 DL hDL D3 h3 h4 m₁ h tk9 hv' hn pv pn nv nn dc4 z4 aPN aNd adx axH
  intros cs hns ks hpi hcl hkl hok hk4 hlow bl _ hok2 _ _ _ _ _ _ _ gh ys hys D h3 tk3 _ _ _ _ _ _ _ D5 C h5 tk5 m' zs hzl hzs h6 tk6 hfm hdk AA h8 SS h9a D8 h10 h11 F11 N11 h12 h13 tk hSA hA4 hS4 _ _ _
  intros _ _ _ _ m₁ h1 tk1 av an sv' sn hm1 hav hsv hab mr CU cu cn rest h15 tk15 b2 mAA mSS mHH mPP mNN mxx mdd mCU f4 f3 f2 f1 hT2 hcu2 N16 _ tk _ _ _ _ _
  w_top off
  rename Fr _ _ _ _ => F17
  rename News _ _ _ _ => N17
  rename_i TT h18 l18
  have hT4 : @LT.lt Nat _ (s₁.heap.objs.size + 1 + 1 + 1 + 1) TT := l18.1
  have hTb : ∀ q ∈ b2, @LT.lt Nat _ q.1 TT := allLt_all l18.2.2.2.2
  refine cps fun zzX zzk => ?_
  obtain ⟨ta, tb, tc, N18⟩ : ∃ ta tb tc, News s₁.heap s₁.heap.objs.size _ ((s₁.heap.objs.size + 1 + 1 + 1 + 1, c1) :: (TT, ({ cls := .type "tuple", data := .seq [Value.int 2 ta, Value.int 3 tb, Value.int 4 tc].toArray } : Obj)) :: (s₁.heap.objs.size + 1 + 1 + 1, o3) :: (s₁.heap.objs.size + 1 + 1, o2) :: (s₁.heap.objs.size + 1, o1) :: b2) := ⟨_, _, _, kst_newsOf N17 (by walk_at "sub")⟩
  refine zzk ?_; clear zzk zzX
  clear N17
  refine r_iterT (vs := [Value.int 2 ta, Value.int 3 tb, Value.int 4 tc]) (nn := 0) (fun i m nx => ∃ oS, nx = (s₁.heap.objs.size + 1 + 1 + 1 + 1, oS) :: (TT, ({ cls := .type "tuple", data := .seq [Value.int 2 ta, Value.int 3 tb, Value.int 4 tc].toArray } : Obj)) :: (s₁.heap.objs.size + 1 + 1 + 1, o3) :: (s₁.heap.objs.size + 1 + 1, o2) :: (s₁.heap.objs.size + 1, o1) :: b2 ∧ (∃ c, oS.data = .cell c) ∧ Has m [("ahead", .ref AA), ("since", .ref SS), ("cuts", .ref CU)]) rfl F17 N18
    ⟨c1, rfl, ⟨_, dc4⟩, rfl, rfl, rfl, trivial⟩ (fun i m nx ⟨_, e, _⟩ => e ▸ .tail _ (.head _)) ?_ ?_
  · clear F17 N18
    intro i v I oI m₁ nx h tk1 hv zzh; refine cps fun zzX zzk => ?_
    obtain ⟨oS, rfl, ⟨cS, dS⟩, hm2⟩ := zzh
    refine zzk ?_; clear zzk zzX
    intro hIo F1 N1
    generalize hQTo : MTurn _ _ _ _ _ _ _ = QTo
    revert hQTo QTo; refine hold ?_; intro QTo hQTo
    try dsimp only
    obtain ⟨mr2, F2⟩ := frOv [("ahead", .ref AA), ("since", .ref SS), ("cuts", .ref CU)] F1 hm2
    clear F1
    dsimp only [kstB] at F2
    refine cps fun zzX zzk => ?_
    obtain ⟨n, tn, hn2, hn4, rfl⟩ : ∃ (n : Nat) (tn : Tok), 2 ≤ n ∧ n ≤ 4 ∧ v = Value.int n tn := by
      rcases i with _ | _ | _ | i
      · cases hv; exact ⟨2, _, by decide, by decide, rfl⟩
      · cases hv; exact ⟨3, _, by decide, by decide, rfl⟩
      · cases hv; exact ⟨4, _, by decide, by decide, rfl⟩
      · simp at hv
    refine zzk ?_; clear zzk zzX
    have nI4 : @Ne Nat I (s₁.heap.objs.size + 1 + 1 + 1 + 1) := Ne.symm (hIo (s₁.heap.objs.size + 1 + 1 + 1 + 1, oS) (.head _))
    have nT4 : @Ne Nat TT (s₁.heap.objs.size + 1 + 1 + 1 + 1) := Nat.ne_of_gt hT4
    walk_at "go"
    refine r_for ?_
    walk_at "go"
    refine r_iter0 rfl (by k_asm) (by k_asm) (by k_mem) ?_
    intro h20 tk20 F20 N20
    walk_at "go"
    rename Fr _ _ _ _ => F21
    rename News _ _ _ _ => N21
    revert tk N21 F21; rename_i zzM; revert zzM; rename_i zzM; revert zzM; rename_i zzM; revert zzM; revert N20 F20 tk20 h20 tk; rename_i zzM; revert zzM; rename_i zzM; revert zzM; rename_i zzM; revert zzM
    revert tk; rename_i zzM; revert zzM; revert tk; clear ek; clear qk; revert lifted; revert lifted; revert lifted; revert lifted; revert lifted; rename_i zzM; revert zzM; rename_i zzM; revert zzM
    rename_i zzM; revert zzM; rename_i zzM; revert zzM; rename_i zzM; revert zzM; rename_i zzM; revert zzM; rename_i zzM; revert zzM; rename_i zzM; revert zzM; rename_i zzM; revert zzM; rename_i zzM
    revert zzM; rename_i zzM; revert zzM; revert tk; rename_i zzM; revert zzM; rename_i zzM; revert zzM; rename_i zzM; revert zzM; rename_i zzM; revert zzM; rename_i zzM; revert zzM; rename_i zzM
    revert zzM; rename_i zzM; revert zzM; rename_i zzM; revert zzM; rename_i zzM; revert zzM; rename_i zzM; revert zzM; rename_i zzM; revert zzM; rename_i zzM; revert zzM; rename_i zzM; revert zzM
    rename_i zzM; revert zzM; rename_i zzM; revert zzM; rename_i zzM; revert zzM; rename_i zzM; revert zzM; rename_i zzM; revert zzM; rename_i zzM; revert zzM; rename_i zzM; revert zzM; rename_i zzM
    revert zzM; rename_i zzM; revert zzM; rename_i zzM; revert zzM; revert tk; rename_i zzM; revert zzM; rename_i zzM; revert zzM; rename_i zzM; revert zzM
    revert nT4 nI4 hv hn4 hn2 tn n F2 mr2 hQTo QTo N1 hIo dS cS hm2 oS tk1 h m₁ oI I i tc tb ta hTb hT4 l18 h18 TT tk; rename_i zzM; revert zzM
    revert N16 hcu2 hT2 f1 f2 f3 f4 mCU mdd mxx mNN mPP mHH mSS mAA b2 tk15 h15 rest cn cu CU mr hab hsv hav hm1 sn sv' an av tk1 h1 m₁; rename_i zzM; revert zzM; rename_i zzM; revert zzM; rename_i zzM
    revert zzM; rename_i zzM; revert zzM; rename_i zzM; revert zzM; rename_i zzM; revert zzM; rename_i zzM; revert zzM
    revert hS4 hA4 hSA tk h13 h12 N11 F11 h11 h10 D8 h9a SS h8 AA hdk hfm tk6 h6 hzs hzl zs m' tk5 h5 C D5; rename_i zzM; revert zzM; rename_i zzM; revert zzM; rename_i zzM; revert zzM; rename_i zzM
    revert zzM; rename_i zzM; revert zzM; rename_i zzM; revert zzM; rename_i zzM; revert zzM; revert tk3 h3 D hys ys gh; rename_i zzM; revert zzM; rename_i zzM; revert zzM; rename_i zzM; revert zzM
    rename_i zzM; revert zzM; rename_i zzM; revert zzM; rename_i zzM; revert zzM; rename_i zzM; revert zzM; revert hok2; rename_i zzM; revert zzM
    revert bl hlow hk4 hok hkl hcl hpi ks hns cs axH adx aNd aPN z4 dc4 nn nv pn pv hn hv' tk9 h m₁ h4 h3 D3 hDL DL h1 D1 tk do3 o3 h98 do2 o2 h95 do1 o1 h92 h91 h88 D0 kX Gc
    revert tk9 h9 tkC h10 tkB h9a h8 H0 tkA h7 L7 g7 l67 h66 d0 x0 h63 N0a h60 P0 ek1 qk1 dc4 dc3 dc2 dc1 c4 c3 c2 c1 tk₁ h₁ hD K0 hcond' hsl hr2 hI r0 w1' ra hZ w8 sv sc w6 w5 hl2 hr hL hlay0 hs is hcd w4 w3 M w2 w1 TW TE B T GL V X KX hg ho doc pm o fa Y G mb mg s₁ s₀ w
    exact hStop1.out
  · intro m₁ nx h tk1 zzh; refine cps fun zzX zzk => ?_
    obtain ⟨oS, rfl, ⟨cS, dS⟩, hm2⟩ := zzh
    refine zzk ?_; clear zzk zzX
    intro F1 N1
    revert N1 F1 dS cS hm2 oS tk1 h m₁ N18 tc tb ta hTb hT4 l18 F17 h18 TT tk; rename_i zzM; revert zzM
    revert N16 hcu2 hT2 f1 f2 f3 f4 mCU mdd mxx mNN mPP mHH mSS mAA b2 tk15 h15 rest cn cu CU mr hab hsv hav hm1 sn sv' an av tk1 h1 m₁; rename_i zzM; revert zzM; rename_i zzM; revert zzM; rename_i zzM
    revert zzM; rename_i zzM; revert zzM; rename_i zzM; revert zzM; rename_i zzM; revert zzM; rename_i zzM; revert zzM
    revert hS4 hA4 hSA tk h13 h12 N11 F11 h11 h10 D8 h9a SS h8 AA hdk hfm tk6 h6 hzs hzl zs m' tk5 h5 C D5; rename_i zzM; revert zzM; rename_i zzM; revert zzM; rename_i zzM; revert zzM; rename_i zzM
    revert zzM; rename_i zzM; revert zzM; rename_i zzM; revert zzM; rename_i zzM; revert zzM; revert tk3 h3 D hys ys gh; rename_i zzM; revert zzM; rename_i zzM; revert zzM; rename_i zzM; revert zzM
    rename_i zzM; revert zzM; rename_i zzM; revert zzM; rename_i zzM; revert zzM; rename_i zzM; revert zzM; revert hok2; rename_i zzM; revert zzM
    revert bl hlow hk4 hok hkl hcl hpi ks hns cs axH adx aNd aPN z4 dc4 nn nv pn pv hn hv' tk9 h m₁ h4 h3 D3 hDL DL h1 D1 tk do3 o3 h98 do2 o2 h95 do1 o1 h92 h91 h88 D0 kX Gc
    revert tk9 h9 tkC h10 tkB h9a h8 H0 tkA h7 L7 g7 l67 h66 d0 x0 h63 N0a h60 P0 ek1 qk1 dc4 dc3 dc2 dc1 c4 c3 c2 c1 tk₁ h₁ hD K0 hcond' hsl hr2 hI r0 w1' ra hZ w8 sv sc w6 w5 hl2 hr hL hlay0 hs is hcd w4 w3 M w2 w1 TW TE B T GL V X KX hg ho doc pm o fa Y G mb mg s₁ s₀ w
    exact hStop2.out)
end S_E14
section S_E15
theorem afresh37 : True := by w_top off; trivial
theorem flat_one {α : Type} (v : α) : ∀ k, (List.replicate k [v]).flatten = List.replicate k v
  | 0 => rfl
  | k + 1 => by rw [List.replicate_succ, List.flatten_cons, flat_one v k]; rfl
theorem ints_rep (t : Tok) : ∀ k, IntsAre (List.replicate k (Value.int 0 t)) ((List.replicate k 0).map fun (n : Nat) => (n : Int))
  | 0 => .nil
  | k + 1 => .cons _ _ (ints_rep t k)
noncomputable def S_E14_g1 := fun (hStop1 : Keep (_ : Prop)) (hStop2 : Keep (_ : Prop)) => (show Dom21 S_E13_g1 from by
  delta Dom21
  intros w s₀ s₁ mg mb G Y fa o pm doc ho hg KX X V GL T B TE TW w1 w2 M w3 w4 hcd is hs hlay0 hL hr hl2 w5 w6 sc sv w8 hZ ra w1' r0 hI hr2 hsl hcond' K0 hD h₁ tk₁ c1 c2 c3 c4 dc1 dc2 dc3 dc4 qk1 ek1 P0
  intros h60 N0a h63 x0 d0 h66 l67 g7 L7 h7 tkA H0 h8 h9a tkB h10 tkC h9 tk9 Gc kX D0 h88 h91 h92 o1 do1 h95 o2 do2 h98 o3 do3 tk D1 h1 DL hDL D3 h3 h4 m₁ h tk9 hv' hn pv pn nv nn dc4 z4 aPN aNd adx axH
  intros cs hns ks hpi hcl hkl hok hk4 hlow bl _ hok2 _ _ _ _ _ _ _ gh ys hys D h3 tk3 _ _ _ _ _ _ _ D5 C h5 tk5 m' zs hzl hzs h6 tk6 hfm hdk AA h8 SS h9a D8 h10 h11 F11 N11 h12 h13 tk hSA hA4 hS4 _ _ _
  intros _ _ _ _ m₁ h1 tk1 av an sv' sn hm1 hav hsv hab mr CU cu cn rest h15 tk15 b2 mAA mSS mHH mPP mNN mxx mdd mCU f4 f3 f2 f1 hT2 hcu2 N16 _ tk TT h18 l18 hT4 hTb ta tb tc i I oI m₁ h tk1 oS hm2 cS dS
  intros hIo N1 QTo hQTo mr2 F2 n tn hn2 hn4 hv nI4 nT4 _ _ _ tk _ _ _ _ _ _ _ _ _ _ _ _ _ _ _ _ _ _ _ _ _ _ _ tk _ _ _ _ _ _ _ _ _ _ _ lifted lifted lifted lifted lifted tk _ tk _ _ _ tk h20 tk20 F20 N20
  intros _ _ _ F21 N21 tk
  w_top off
  rename_i hA oS2 dS2 tkA2 PL hB lPL z1 hC lz1 SP hD i1 n1 s1' e1' e2' e3' lSP DT hE lDT hF1 hF2 hF3 hF4 hF5 tkB2 BX BD hG lBD lBX g7 L7 hH B7 X7 T7 lf1 lf2 lf3 lf4 tkC2 hJ tkD hK F7 N7 tkE Gc2 kX2 hL
  clear B7 X7 T7 lf1 lf2 lf3 lf4 lifted F7 N7 F20 N20 i1 s1' e1' e2' e3'
  have hPS : @LT.lt Nat _ PL SP := lSP.2.1
  have hP4 : @LT.lt Nat _ (s₁.heap.objs.size + 1 + 1 + 1 + 1) PL := lPL.2.1
  have hIP : @LT.lt Nat _ I PL := lPL.1
  have hPb : ∀ q ∈ b2, @LT.lt Nat _ q.1 PL := allLt_all lPL.2.2.2.2.2.2
  have hTP : @LT.lt Nat _ TT PL := lPL.2.2.1
  have hSB : @LT.lt Nat _ SP BD := lBD.2.1
  have hBB : @LT.lt Nat _ BD BX := lBX
  obtain ⟨tX, N22⟩ : ∃ tX, News s₁.heap s₁.heap.objs.size _ ((PL, liO [] 0) :: (SP, liO (List.replicate (n - 1) (Value.int 0 tkA2)) 0) :: (BX, instObj 182 BD) :: (BD, diO (PyData.keyHash w.params (Str.ofString "_headers")) tX PL 1) :: (I, oI) :: (s₁.heap.objs.size + 1 + 1 + 1 + 1, oS2) :: (TT, ({ cls := .type "tuple", data := .seq [Value.int 2 ta, Value.int 3 tb, Value.int 4 tc].toArray } : Obj)) :: (s₁.heap.objs.size + 1 + 1 + 1, o3) :: (s₁.heap.objs.size + 1 + 1, o2) :: (s₁.heap.objs.size + 1, o1) :: b2) := ⟨_, by
    have e : (List.replicate ((n : Int) - 1).toNat [Value.int 0 tkA2]).flatten = List.replicate (n - 1) (Value.int 0 tkA2) := by
      rw [flat_one, show ((n : Int) - 1).toNat = n - 1 from Int.toNat_sub n 1]
    rw [e] at N21
    exact kst_newsOf N21 (by walk_at "sub")⟩
  clear N21
  obtain ⟨sF, hrun, hend⟩ := good_all hkl hk4 hn2 hn4
  refine r_for ?_
  walk_at "go"
  rename Fr _ _ _ _ => F23
  rename News _ _ _ _ => N23
  refine r_iterR (n := 8) (fun i m nx => ∃ gs pvs pnn sps snn tf tl rest, runP ks n i = some gs ∧ nx = (PL, liO pvs pnn) :: (SP, liO sps snn) :: (BX, instObj 182 BD) :: (BD, diO (PyData.keyHash w.params (Str.ofString "_headers")) tX PL 1) :: (I, oI) :: (s₁.heap.objs.size + 1 + 1 + 1 + 1, oS2) :: (TT, ({ cls := .type "tuple", data := .seq [Value.int 2 ta, Value.int 3 tb, Value.int 4 tc].toArray } : Obj)) :: (s₁.heap.objs.size + 1 + 1 + 1, o3) :: (s₁.heap.objs.size + 1 + 1, o2) :: (s₁.heap.objs.size + 1, o1) :: rest ∧
    Has m [("pairs", .ref PL), ("spots", .ref SP), ("found", .int (gs.2.2.1 : Nat) tf), ("laid", .int (gs.2.2.2 : Nat) tl), ("board", .ref BX), ("ahead", .ref AA), ("since", .ref SS), ("cuts", .ref CU)] ∧
    (∀ q ∈ b2, q ∈ rest) ∧ (∀ q ∈ rest, (@Ne Nat q.1 PL)) ∧ (∀ q ∈ rest, (@Ne Nat q.1 SP)) ∧ Tups rest pvs (gs.1.map (prP cs ks)) ∧ IntsAre sps (gs.2.1.map fun (n : Nat) => (n : Int))) rfl (by assumption) (by decide) (by rfl) F23 N23
    ⟨([], List.replicate (n - 1) 0, 0, 0), [], 0, _, 0, _, _, b2, rfl, rfl, ⟨rfl, rfl, rfl, rfl, rfl, rfl, rfl, rfl, trivial⟩, fun _ h => h, fun q hq => Nat.ne_of_lt (hPb q hq), fun q hq => Nat.ne_of_lt (Nat.lt_trans (hPb q hq) hPS), .nil, ints_rep _ _⟩ ?_ ?_
  · clear F23 N23
    intro i2 t2 I2 oI2 m3 nx3 h3' tk3' hi8 zzh; refine cps fun zzX zzk => ?_
    obtain ⟨gs, pvs, pnn, sps, snn, tf, tl, rest3, hrg, rfl, hm3, hsub3, hrP, hrS, hpt, hsi⟩ := zzh
    refine zzk ?_; clear zzk zzX
    intro hI2 F24 N24
    generalize hQTi : MTurn _ _ _ _ _ _ _ = QTi
    revert hQTi QTi; refine hold ?_; intro QTi hQTi
    try dsimp only
    obtain ⟨mr3, F25⟩ := frOv [("pairs", .ref PL), ("spots", .ref SP), ("found", .int (gs.2.2.1 : Nat) tf), ("laid", .int (gs.2.2.2 : Nat) tl), ("board", .ref BX), ("ahead", .ref AA), ("since", .ref SS), ("cuts", .ref CU)] F24 hm3
    clear F24
    dsimp only [kstB] at F25
    revert F25 mr3 hQTi QTi N24 hI2 hsi hpt hrS hrP hsub3; clear hm3; revert hrg rest3 tl tf snn sps pnn pvs gs hi8 tk3' h3'; clear m3; revert oI2 I2 t2 i2; rename_i zzM; clear zzM; rename_i zzM; clear zzM
    rename_i zzM; clear zzM; rename_i zzM; clear zzM; rename_i zzM; clear zzM; rename_i zzM; revert zzM; rename_i zzM; revert zzM; clear hend; revert hrun sF; rename_i zzM; clear zzM; revert tX; clear hBB
    clear hSB; revert hTP; clear hPb; revert hIP; clear hP4; revert hPS tk; rename_i zzM; clear zzM; revert hL kX2; clear Gc2; clear tk20; clear h20; clear tkE; clear hK; clear tkD; clear hJ; clear tkC2
    clear hH; clear L7; clear g7; revert lBX lBD; clear hG; revert BD BX; clear tkB2; clear hF5; clear hF4; clear hF3; clear hF2; clear hF1; revert lDT; clear hE; revert DT lSP; clear n1; clear hD
    revert SP lz1; clear hC; revert z1 lPL; clear hB; revert PL; clear tkA2; revert dS2 oS2; clear hA; clear nT4; clear nI4; revert hv hn4 hn2 tn n; clear F2; clear mr2; clear hQTo; revert QTo; clear N1
    clear hIo; clear dS; clear cS; clear hm2; clear oS; clear tk1; revert h; clear m₁; revert oI I i tc tb ta; clear hTb; clear hT4; clear l18; clear h18; revert TT; clear tk; rename_i zzM; clear zzM
    clear N16; clear hcu2; clear hT2; revert f1 f2 f3 f4; clear mCU; clear mdd; clear mxx; revert mNN mPP; clear mHH; revert mSS mAA b2; clear tk15; clear h15; clear rest; clear cn; clear cu; revert CU
    clear mr; revert hab hsv hav; clear hm1; revert sn sv' an av; clear tk1; clear h1; clear m₁; rename_i zzM; clear zzM; rename_i zzM; clear zzM; rename_i zzM; clear zzM; rename_i zzM; clear zzM
    rename_i zzM; clear zzM; rename_i zzM; clear zzM; rename_i zzM; clear zzM; clear hS4; clear hA4; clear hSA; clear tk; clear h13; clear h12; clear N11; clear F11; clear h11; clear h10; clear D8
    clear h9a; revert SS h8 AA; clear hdk; clear hfm; clear tk6; clear h6; revert hzs; clear hzl; revert zs; clear m'; clear tk5; clear h5; clear C; clear D5; rename_i zzM; clear zzM; rename_i zzM
    clear zzM; rename_i zzM; clear zzM; rename_i zzM; clear zzM; rename_i zzM; clear zzM; rename_i zzM; clear zzM; rename_i zzM; clear zzM; clear tk3; clear h3; clear D; revert hys ys; clear gh
    rename_i zzM; clear zzM; rename_i zzM; clear zzM; rename_i zzM; clear zzM; rename_i zzM; clear zzM; rename_i zzM; clear zzM; rename_i zzM; clear zzM; rename_i zzM; clear zzM; clear hok2; rename_i zzM
    clear zzM; clear bl; revert hlow; clear hk4; revert hok; clear hkl; revert hcl; clear hpi; revert ks hns cs; clear axH; clear adx; clear aNd; clear aPN; clear z4; clear dc4; revert nn nv pn pv; clear hn
    clear hv'; clear tk9; revert h; clear m₁; clear h4; clear h3; clear D3; clear hDL; clear DL; clear h1; clear D1; clear tk; clear do3; revert o3; clear h98; revert do2 o2; clear h95; clear do1; revert o1
    clear h92; clear h91; clear h88; clear D0; clear kX; revert Gc; clear tk9; clear h9; clear tkC; clear h10; clear tkB; clear h9a; revert h8 H0; clear tkA; clear h7; clear L7; clear g7; clear l67
    clear h66; revert d0 x0; clear h63; revert N0a; clear h60; revert P0 ek1; clear qk1; clear dc4; clear dc3; clear dc2; clear dc1; revert c4 c3 c2 c1; clear tk₁; clear h₁; clear hD; revert K0
    clear hcond'; clear hsl; revert hr2; clear hI; clear r0; clear w1'; revert ra hZ w8 sv sc w6; clear w5; clear hl2; revert hr; clear hL; clear hlay0; clear hs; revert is; clear hcd; clear w4
    revert w3 M w2 w1; clear TW; clear TE; clear B; revert T GL; clear V; clear X; revert KX; clear hg; clear ho; clear doc; clear pm; clear o; revert fa; clear Y; clear G; revert mb mg s₁ s₀ w
    exact hStop1.out
  · clear F23 N23
    intro m3 nx3 h3' tk3' zzh; refine cps fun zzX zzk => ?_
    obtain ⟨gs, pvs, pnn, sps, snn, tf, tl, rest3, hrg, rfl, hm3, hsub3, hrP, hrS, hpt, hsi⟩ := zzh
    refine zzk ?_; clear zzk zzX
    intro F24 N24
    revert N24 F24; clear hsi; revert hpt; clear hrS; clear hrP; revert hsub3 hm3 hrg rest3 tl tf snn sps pnn pvs gs tk3' h3' m3; rename_i zzM; clear zzM; rename_i zzM; clear zzM; rename_i zzM; clear zzM
    rename_i zzM; clear zzM; rename_i zzM; clear zzM; rename_i zzM; revert zzM; rename_i zzM; revert zzM; revert hend hrun sF; rename_i zzM; clear zzM; revert tX; clear hBB; clear hSB; clear hTP; clear hPb
    clear hIP; clear hP4; clear hPS; revert tk; rename_i zzM; clear zzM; revert hL kX2; clear Gc2; clear tk20; clear h20; clear tkE; clear hK; clear tkD; clear hJ; clear tkC2; clear hH; clear L7; clear g7
    clear lBX; clear lBD; clear hG; revert BD BX; clear tkB2; clear hF5; clear hF4; clear hF3; clear hF2; clear hF1; clear lDT; clear hE; revert DT; clear lSP; clear n1; clear hD; revert SP; clear lz1
    clear hC; revert z1; clear lPL; clear hB; revert PL; clear tkA2; revert dS2 oS2; clear hA; clear nT4; revert nI4 hv hn4 hn2 tn n; clear F2; clear mr2; revert hQTo QTo; clear N1; revert hIo; clear dS
    clear cS; clear hm2; revert oS tk1 h; clear m₁; revert oI I i tc tb ta; clear hTb; clear hT4; clear l18; revert h18 TT tk; rename_i zzM; revert zzM; clear N16; revert hcu2; clear hT2; clear f1; clear f2
    clear f3; clear f4; revert mCU; clear mdd; clear mxx; revert mNN mPP; clear mHH; revert mSS mAA b2; clear tk15; clear h15; clear rest; revert cn cu CU; clear mr; clear hab; clear hsv; clear hav
    clear hm1; revert sn sv' an av; clear tk1; revert h1; clear m₁; rename_i zzM; clear zzM; rename_i zzM; clear zzM; rename_i zzM; clear zzM; rename_i zzM; clear zzM; rename_i zzM; clear zzM; rename_i zzM
    clear zzM; rename_i zzM; clear zzM; clear hS4; clear hA4; clear hSA; clear tk; clear h13; clear h12; clear N11; clear F11; clear h11; clear h10; clear D8; clear h9a; revert SS h8 AA hdk; clear hfm
    revert tk6 h6 hzs hzl zs; clear m'; clear tk5; clear h5; clear C; clear D5; rename_i zzM; clear zzM; rename_i zzM; clear zzM; rename_i zzM; clear zzM; rename_i zzM; clear zzM; rename_i zzM; clear zzM
    rename_i zzM; clear zzM; rename_i zzM; clear zzM; clear tk3; clear h3; clear D; revert hys ys gh; rename_i zzM; clear zzM; rename_i zzM; clear zzM; rename_i zzM; clear zzM; rename_i zzM; clear zzM
    rename_i zzM; clear zzM; rename_i zzM; clear zzM; rename_i zzM; clear zzM; clear hok2; rename_i zzM; clear zzM; clear bl; revert hlow; clear hk4; revert hok hkl hcl hpi ks hns cs; clear axH; clear adx
    clear aNd; clear aPN; clear z4; clear dc4; revert nn nv pn pv; clear hn; clear hv'; clear tk9; revert h; clear m₁; clear h4; clear h3; clear D3; revert hDL; clear DL; revert h1; clear D1; clear tk
    clear do3; revert o3; clear h98; revert do2 o2; clear h95; revert do1 o1; clear h92; clear h91; clear h88; clear D0; clear kX; revert Gc; clear tk9; clear h9; clear tkC; clear h10; clear tkB; clear h9a
    revert h8 H0; clear tkA; revert h7; clear L7; clear g7; clear l67; clear h66; revert d0 x0; clear h63; revert N0a; clear h60; revert P0 ek1 qk1; clear dc4; clear dc3; clear dc2; clear dc1; clear c4
    clear c3; clear c2; clear c1; clear tk₁; clear h₁; clear hD; revert K0; clear hcond'; clear hsl; revert hr2; clear hI; clear r0; clear w1'; revert ra hZ w8 sv sc w6; clear w5; clear hl2; clear hr
    revert hL; clear hlay0; clear hs; revert is; clear hcd; clear w4; revert w3 M w2 w1; clear TW; clear TE; clear B; revert T GL; clear V; clear X; clear KX; revert hg; clear ho; clear doc; clear pm
    clear o; revert fa; clear Y; clear G; revert mb mg s₁ s₀ w
    exact hStop2.out)
end S_E15
end G_4
section G_5
local macro_rules | `(tactic| walk_at "halt") => `(tactic| with_reducible first | show H43 | show H42 | show H48 | show H49 | show H50 | show H51 | show H52 | show H53 | show H54 | show H34 | show Opq _ | show H55 | show H56)
section R_5_0
local macro_rules | `(tactic| walk_at "halt") => `(tactic| with_reducible show H57)
section S_E16
theorem afresh38 : True := by w_top off; trivial
theorem getDN_mem {l : List Nat} {i : Nat} (h : i < l.length) : l.getD i 0 ∈ l := by
  rw [List.getD_eq_getElem?_getD, List.getElem?_eq_getElem h]
  exact List.getElem_mem _
theorem step_inv {ks : List Nat} {n t : Nat} {s s2 : GS} (h : stepP ks n t s = some s2) : ∃ q, lose ks n t s.1 s.2.2.1 = some q ∧ sortedN (q.1.map (aN ks)) = true ∧ sortedN s.2.1 = true ∧ sortedN ((putIn ks t q.1).map (aN ks)) = true ∧
    s2 = (putIn ks t q.1, (lay ks t s.2.1 s.2.2.2).1, q.2, (lay ks t s.2.1 s.2.2.2).2) := by
  unfold stepP at h
  split at h
  · cases h
  · rename_i q hq
    split at h
    · rename_i hc
      simp only [Bool.and_eq_true] at hc
      cases h
      exact ⟨q, hq, hc.1.1, hc.1.2, hc.2, rfl⟩
    · cases h
theorem run_step {ks : List Nat} {n i : Nat} {gs : GS} (h8 : (runP ks n 8).isSome = true) (hi : i < 8) (h : runP ks n i = some gs) : ∃ gs2, runP ks n (i + 1) = some gs2 ∧ stepP ks n i gs = some gs2 := by
  have h1 := runP_some h8 (show i + 1 ≤ 8 by omega)
  rw [runP, h, Option.bind_some] at h1
  obtain ⟨gs2, h2⟩ := Option.isSome_iff_exists.mp h1
  exact ⟨gs2, by rw [runP, h, Option.bind_some, h2], h2⟩
noncomputable def S_E15_g1 := fun (hStop1 : Keep (_ : Prop)) (hStop2 : Keep (_ : Prop)) (hStop3 : Keep (_ : Prop)) (hStop4 : Keep (_ : Prop)) => (show Dom21 S_E14_g1 from by
  delta Dom21
  intros w s₀ s₁ mg mb fa KX GL T w1 w2 M w3 is hr w6 sc sv w8 hZ ra hr2 K0 c1 c2 c3 c4 ek1 P0 N0a x0 d0 H0 h8 Gc o1 o2 do2 o3 h pv pn nv nn cs hns ks hcl hok hlow ys hys zs hzs AA h8 SS av an sv' sn hav
  intros hsv hab CU b2 mAA mSS mPP mNN f4 f3 f2 f1 TT ta tb tc i I oI h QTo n tn hn2 hn4 hv oS2 dS2 PL lPL z1 lz1 SP lSP DT lDT BX BD lBD lBX kX2 hL tk hPS hIP hTP tX sF hrun _ _ i2 t2 I2 oI2 h3' tk3' hi8
  intros gs pvs pnn sps snn tf tl rest3 hrg hsub3 hrP hrS hpt hsi hI2 N24 QTi hQTi mr3 F25
  w_top off
  have mA3 := hsub3 _ mAA
  have mS3 := hsub3 _ mSS
  have mN3 := hsub3 _ mNN
  have mP3 := hsub3 _ mPP
  obtain ⟨gs2, hr2, hstep⟩ := run_step (by rw [hrun]; rfl) hi8 hrg
  refine cps fun zzX zzk => ?_
  obtain ⟨q, hq, so1, so2, so3, hgs2⟩ := step_inv hstep
  refine zzk ?_; clear zzk zzX
  obtain ⟨hjlt, hjl, hspl⟩ := runP_lt (by omega) hrg
  have hokp : ∀ r ∈ gs.1.map (prP cs ks), r.1 ∈ okL := by
    intro r hr
    obtain ⟨j, hj, rfl⟩ := List.mem_map.mp hr
    exact hok _ (getDN_mem (by rw [hcl]; exact hjlt j hj))
  have hpl8 : pvs.length ≤ 8 := by
    rw [hpt.length, List.length_map]
    omega
  have hct : cs.getD i2 0 ∈ okL := hok _ (getDN_mem (by rw [hcl]; exact hi8))
  have hz0 : (0 : Int) + (i2 : Int) = (i2 : Int) := Int.zero_add _
  rw [hz0]
  walk_at "go"
  refine execs_two (fun s' => Opq (∃ h' tk' mm pvs' pn' tf', s' = { heap := h', gens := s₁.gens, drawn := s₁.drawn, toks := tk', os := s₁.os } ∧ Fr s₁.heap s₁.heap.objs.size h' mm ∧ News s₁.heap s₁.heap.objs.size h' ((PL, liO pvs' pn') :: (I2, oI2) :: (SP, liO sps snn) :: (BX, instObj 182 BD) :: (BD, diO (PyData.keyHash w.params (Str.ofString "_headers")) tX PL 1) :: (I, oI) :: (s₁.heap.objs.size + 1 + 1 + 1 + 1, oS2) :: (TT, ({ cls := .type "tuple", data := .seq [Value.int 2 ta, Value.int 3 tb, Value.int 4 tc].toArray } : Obj)) :: (s₁.heap.objs.size + 1 + 1 + 1, o3) :: (s₁.heap.objs.size + 1 + 1, o2) :: (s₁.heap.objs.size + 1, o1) :: rest3) ∧
    Has mm [("t", .int i2 t2), ("pairs", .ref PL), ("spots", .ref SP), ("found", .int (q.2 : Nat) tf'), ("laid", .int (gs.2.2.2 : Nat) tl), ("board", .ref BX), ("ahead", .ref AA), ("since", .ref SS), ("cuts", .ref CU)] ∧ Tups rest3 pvs' (q.1.map (prP cs ks)))) ?_ ?_
  · walk_at "go"
    rename Fr _ _ _ _ => F26
    rename News _ _ _ _ => N26
    rw [Int.toNat_natCast]
    refine c_get2 (by assumption) F26 (by assumption) N26 (by assumption) rfl (by ktr_room) hct (by k_mem) (by k_mem) (by k_mem) (hpt.mono fun q hq => .tail _ (.tail _ (.tail _ (.tail _ (.tail _ (.tail _ (.tail _ (.tail _ (.tail _ (.tail _ (.tail _ hq))))))))))) hokp ?_ ?_
    · intro d t8 h8 tk8 hlk F27 N27
      rw [lk_pr hlow hjlt hi8] at hlk
      obtain ⟨j, hfj, hd⟩ := Option.map_eq_some_iff.mp hlk
      have hq2 := hq
      unfold lose at hq2
      rw [hfj] at hq2
      simp only at hq2
      split at hq2
      · rename_i haj
        rw [haj] at hd
        obtain rfl := Option.some.inj hq2
        subst hd
        clear F26 N26
        walk_at "go"
        rename_i zzM; revert zzM; rename_i zzM; revert zzM; rename_i zzM; revert zzM; clear hlk; clear hq2; clear hgs2; clear so3; clear so1; revert hq haj; clear hfj; revert j tk8; clear h8; revert t8
        clear t'; rename_i zzM; clear zzM; clear hz0; revert hct; clear hpl8; revert hokp; clear hspl; revert hjl hjlt; clear so2; clear hstep; revert hr2 gs2; clear mP3; revert mN3; clear mS3; clear mA3
        clear F25; revert mr3; clear hQTi; revert QTi; clear N24; revert hI2 hsi hpt; clear hrS; revert hrP; clear hsub3; clear hrg; revert rest3 tl tf snn sps pnn pvs gs hi8; clear tk3'; clear h3'
        revert oI2 I2 t2 i2; rename_i zzM; clear zzM; rename_i zzM; clear zzM; clear hrun; clear sF; revert tX hTP hIP hPS; clear tk; clear hL; revert kX2 lBX lBD BD BX; clear lDT; revert DT; clear lSP
        revert SP; clear lz1; revert z1 lPL PL; clear dS2; revert oS2; clear hv; clear hn4; clear hn2; clear tn; revert n; clear QTo; clear h; revert oI I; clear i; revert tc tb ta TT; clear f1; clear f2
        clear f3; clear f4; clear mNN; clear mPP; clear mSS; clear mAA; revert b2 CU; clear hab; clear hsv; clear hav; clear sn; clear sv'; clear an; clear av; revert SS; clear h8; revert AA; clear hzs
        revert zs; clear hys; clear ys; revert hlow; clear hok; revert hcl ks hns cs nn nv; clear pn; clear pv; clear h; revert o3 do2 o2 o1 Gc; clear h8; revert H0 d0 x0 N0a P0 ek1; clear c4; clear c3
        clear c2; clear c1; revert K0 hr2 ra hZ w8 sv sc w6; clear hr; revert is w3 M w2 w1 T GL KX fa mb mg s₁ s₀ w
        exact hStop1.out
      · cases hq2
    · intro h8 tk8 hlk F27 N27
      rw [lk_pr hlow hjlt hi8] at hlk
      have hfn : gs.1.find? (fun j => ks.getD j 0 == ks.getD i2 0) = none := Option.map_eq_none_iff.mp hlk
      have hq2 := hq
      unfold lose at hq2
      rw [hfn] at hq2
      simp only at hq2
      obtain rfl := Option.some.inj hq2
      clear F26 N26
      walk_at "go"
      · rename_i zzM; revert zzM; revert tk'; clear t'; clear tk; rename_i zzM; revert zzM; rename_i zzM; revert zzM; rename_i zzM; revert zzM; clear hq2; clear hgs2; clear so3; clear so1; clear hq; clear hfn
        clear hlk; clear tk8; clear h8; clear t'; rename_i zzM; clear zzM; clear hz0; clear hct; clear hpl8; clear hokp; clear hspl; clear hjl; clear hjlt; clear so2; clear hstep; revert hr2 gs2; clear mP3
        clear mN3; clear mS3; clear mA3; clear F25; revert mr3; clear hQTi; revert QTi; clear N24; revert hI2; clear hsi; revert hpt; clear hrS; revert hrP; clear hsub3; clear hrg
        revert rest3 tl tf snn sps pnn pvs gs; clear hi8; clear tk3'; clear h3'; revert oI2 I2 t2 i2; rename_i zzM; clear zzM; rename_i zzM; clear zzM; clear hrun; clear sF; revert tX hTP hIP hPS; clear tk
        clear hL; clear kX2; revert lBX lBD BD BX; clear lDT; revert DT; clear lSP; revert SP; clear lz1; revert z1 lPL PL; clear dS2; revert oS2; clear hv; revert hn4 hn2; clear tn; revert n; clear QTo
        revert h oI I; clear i; revert tc tb ta TT; clear f1; clear f2; clear f3; clear f4; clear mNN; clear mPP; clear mSS; clear mAA; revert b2 CU; clear hab; clear hsv; clear hav; clear sn; clear sv'
        clear an; clear av; revert SS; clear h8; revert AA; clear hzs; revert zs; clear hys; clear ys; clear hlow; clear hok; clear hcl; revert ks; clear hns; revert cs; clear nn; clear nv; clear pn; clear pv
        revert h o3; clear do2; revert o2 o1 Gc; clear h8; revert H0 d0 x0 N0a P0 ek1; clear c4; clear c3; clear c2; clear c1; clear K0; revert hr2 ra hZ w8 sv sc w6; clear hr; revert is w3 M w2 w1 T GL
        clear KX; revert fa mb mg s₁ s₀ w
        exact hStop2.out
      · rename_i zzM; revert zzM; revert tk'; clear t'; clear tk; rename_i zzM; revert zzM; rename_i zzM; revert zzM; rename_i zzM; revert zzM; clear hq2; clear hgs2; clear so3; clear so1; clear hq; clear hfn
        clear hlk; clear tk8; clear h8; clear t'; rename_i zzM; clear zzM; clear hz0; clear hct; clear hpl8; clear hokp; clear hspl; clear hjl; clear hjlt; clear so2; clear hstep; revert hr2 gs2; clear mP3
        clear mN3; clear mS3; clear mA3; clear F25; revert mr3; clear hQTi; revert QTi; clear N24; clear hI2; clear hsi; revert hpt; clear hrS; clear hrP; clear hsub3; clear hrg
        revert rest3 tl tf snn sps pnn pvs gs; clear hi8; clear tk3'; clear h3'; revert oI2 I2 t2 i2; rename_i zzM; clear zzM; rename_i zzM; clear zzM; clear hrun; clear sF; revert tX; clear hTP; clear hIP
        clear hPS; clear tk; clear hL; clear kX2; clear lBX; clear lBD; revert BD BX; clear lDT; revert DT; clear lSP; revert SP; clear lz1; revert z1; clear lPL; revert PL; clear dS2; revert oS2; clear hv
        clear hn4; clear hn2; clear tn; revert n; clear QTo; clear h; revert oI I; clear i; revert tc tb ta TT; clear f1; clear f2; clear f3; clear f4; clear mNN; clear mPP; clear mSS; clear mAA; clear b2
        revert CU; clear hab; clear hsv; clear hav; clear sn; clear sv'; clear an; clear av; revert SS; clear h8; revert AA; clear hzs; revert zs; clear hys; clear ys; clear hlow; clear hok; clear hcl
        revert ks; clear hns; revert cs; clear nn; clear nv; clear pn; clear pv; clear h; revert o3; clear do2; revert o2 o1 Gc; clear h8; revert H0 d0 x0 N0a P0; clear ek1; clear c4; clear c3; clear c2
        clear c1; clear K0; revert hr2 ra hZ w8 sv sc w6; clear hr; revert is; clear w3; revert M w2 w1 T GL; clear KX; clear fa; revert mb mg s₁ s₀ w
        exact hStop3.out
  · intro s9 zzh; refine cps fun zzX zzk => ?_
    obtain ⟨h9', tk9', m9, pvs', pn', tf', rfl, F28, N28, hm9, hpt9⟩ := zzh
    refine zzk ?_; clear zzk zzX
    revert hpt9 hm9 N28 F28 tf' pn' pvs' m9 tk9' h9'; rename_i zzM; clear zzM; rename_i zzM; revert zzM; rename_i zzM; revert zzM; revert hz0 hct; clear hpl8; clear hokp
    revert hspl hjl hjlt hgs2 so3 so2 so1 hq q hstep hr2 gs2; clear mP3; revert mN3 mS3 mA3 F25 mr3 hQTi QTi N24 hI2 hsi; clear hpt
    revert hrS hrP hsub3 hrg rest3 tl tf snn sps pnn pvs gs hi8 tk3' h3' oI2 I2 t2 i2; rename_i zzM; revert zzM; rename_i zzM; revert zzM; clear hrun; clear sF
    revert tX hTP hIP hPS tk hL kX2 lBX lBD BD BX lDT DT lSP SP lz1 z1 lPL PL; clear dS2; revert oS2 hv hn4 hn2 tn n QTo h oI I i tc tb ta TT f1 f2 f3 f4; clear mNN; clear mPP; clear mSS; clear mAA
    revert b2 CU hab hsv hav sn sv' an av SS; clear h8; revert AA hzs zs hys ys; clear hlow; revert hok hcl ks hns cs nn nv; clear pn; clear pv; revert h o3 do2 o2 o1 Gc; clear h8
    revert H0 d0 x0 N0a P0 ek1 c4 c3 c2 c1 K0 hr2 ra hZ w8 sv sc w6 hr is w3 M w2 w1 T GL KX fa mb mg s₁ s₀ w
    exact hStop4.out)
end S_E16
section S_E17
theorem afresh39 : True := by w_top off; trivial
theorem kl_last_drop : ∀ {vs : List Value}, vs ≠ [] → ∃ y, kl_last vs = some (vs.dropLast, y)
  | [], h => absurd rfl h
  | [x], _ => ⟨x, rfl⟩
  | x :: z :: r, _ => by
    obtain ⟨y, e⟩ := kl_last_drop (vs := z :: r) (by simp)
    exact ⟨y, by rw [kl_last, e]; rfl⟩
theorem Tups.takeN {nx : List (Addr × Obj)} {vs : List Value} {ps : List (Nat × Nat)} (h : Tups nx vs ps) : ∀ k, Tups nx (vs.take k) (ps.take k) := by
  induction h with
  | nil => intro k; simpa using Tups.nil
  | cons hm h ih =>
    intro k
    cases k with
    | zero => exact .nil
    | succ k => exact .cons hm (ih k)
theorem Tups.dropN {nx : List (Addr × Obj)} {vs : List Value} {ps : List (Nat × Nat)} (h : Tups nx vs ps) : ∀ k, Tups nx (vs.drop k) (ps.drop k) := by
  induction h with
  | nil => intro k; simpa using Tups.nil
  | cons hm h ih =>
    intro k
    cases k with
    | zero => exact .cons hm h
    | succ k => exact ih k
theorem S_E16_g1 : Dom41 S_E15_g1 := by
  delta Dom41
  intros w s₀ s₁ mg mb fa KX GL T w1 w2 M w3 is w6 sc sv w8 hZ ra hr2 K0 ek1 P0 N0a x0 d0 H0 Gc o1 o2 do2 o3 nv nn cs hns ks hcl hlow zs AA SS CU b2 TT ta tb tc I oI n oS2 PL lPL z1 SP DT BX BD lBD lBX
  intros kX2 hPS hIP hTP tX i2 t2 I2 oI2 hi8 gs pvs pnn sps snn tf tl rest3 hrP hpt hsi hI2 QTi mr3 mN3 gs2 hr2 hjlt hjl hokp hct t8 tk8 j haj hq _ _ _
  w_top off
  have nI2 : @Ne Nat I2 PL := Ne.symm (hI2 (PL, liO pvs pnn) (.head _))
  have nSP : @Ne Nat SP PL := Nat.ne_of_gt hPS
  have nIP : @Ne Nat I PL := Nat.ne_of_lt hIP
  have nTP : @Ne Nat TT PL := Nat.ne_of_lt hTP
  have nBD : @Ne Nat BD PL := by omega
  have nBX : @Ne Nat BX PL := by omega
  have n4P : @Ne Nat (s₁.heap.objs.size + 1 + 1 + 1 + 1) PL := by first | exact Nat.ne_of_lt (by walk_at "lt") | omega
  have n3P : @Ne Nat (s₁.heap.objs.size + 1 + 1 + 1) PL := by first | exact Nat.ne_of_lt (by walk_at "lt") | omega
  have n2P : @Ne Nat (s₁.heap.objs.size + 1 + 1) PL := by first | exact Nat.ne_of_lt (by walk_at "lt") | omega
  have n1P : @Ne Nat (s₁.heap.objs.size + 1) PL := by first | exact Nat.ne_of_lt (by walk_at "lt") | omega
  rw [str_dig hi8]
  refine PyProof.Rows.eq_str ?_
  rw [show (S1 (48 + i2) == S1 (48 + i2)) = true from beq_self_eq_true _]
  walk_at "go"
  rename Fr _ _ _ _ => F30
  rename News _ _ _ _ => N30
  refine r_delItem F30 KX (by k_inst) (del_noSeq _) (del_find _) (del_fn _) ?_
  rw [Int.toNat_natCast]
  have N31 := kst_newsOf (l' := (PL, liO pvs pnn) :: (I2, oI2) :: (SP, liO sps snn) :: (BX, instObj 182 BD) :: (BD, diO (PyData.keyHash w.params (Str.ofString "_headers")) tX PL 1) :: (I, oI) :: (s₁.heap.objs.size + 1 + 1 + 1 + 1, oS2) :: (TT, ({ cls := .type "tuple", data := .seq [Value.int 2 ta, Value.int 3 tb, Value.int 4 tc].toArray } : Obj)) :: (s₁.heap.objs.size + 1 + 1 + 1, o3) :: (s₁.heap.objs.size + 1 + 1, o2) :: (s₁.heap.objs.size + 1, o1) :: rest3) N30 (by walk_at "sub")
  clear N30
  refine c_del (by assumption) F30 (by assumption) N31 (by assumption) rfl (by ktr_room) hct (.tail _ (.tail _ (.head _))) (.tail _ (.tail _ (.tail _ (.head _)))) ?_ (fun q hq => .tail _ (.tail _ (.tail _ (.tail _ (.tail _ (.tail _ (.tail _ (.tail _ (.tail _ (.tail _ hq)))))))))) hpt hokp (by rw [List.length_map]; omega) ?_
  · k_all
  intro vs' n' h31 tk31 F32 N32 hp32
  rw [del_pr hlow hjlt hi8] at hp32
  walk_at "go"
  show Opq _
  unfold Opq
  exact ⟨_, _, _, vs', n', _, rfl, by assumption, by assumption, ⟨rfl, rfl, rfl, rfl, rfl, rfl, rfl, rfl, rfl, trivial⟩, hp32⟩
theorem S_E16_g2 : Dom42 S_E15_g1 := by
  delta Dom42
  intros w s₀ s₁ mg mb fa GL T w1 w2 M w3 is w6 sc sv w8 hZ ra hr2 ek1 P0 N0a x0 d0 H0 Gc o1 o2 o3 h cs ks zs AA SS CU b2 TT ta tb tc I oI h n hn2 hn4 oS2 PL lPL z1 SP DT BX BD lBD lBX hPS hIP hTP tX i2
  intros t2 I2 oI2 gs pvs pnn sps snn tf tl rest3 hrP hpt hI2 QTi mr3 gs2 hr2 _ _ _ tk' _
  w_top off
  have nI2 : @Ne Nat I2 PL := Ne.symm (hI2 (PL, liO pvs pnn) (.head _))
  have nSP : @Ne Nat SP PL := Nat.ne_of_gt hPS
  have nIP : @Ne Nat I PL := Nat.ne_of_lt hIP
  have nTP : @Ne Nat TT PL := Nat.ne_of_lt hTP
  have nBD : @Ne Nat BD PL := by omega
  have nBX : @Ne Nat BX PL := by omega
  have n4P : @Ne Nat (s₁.heap.objs.size + 1 + 1 + 1 + 1) PL := by first | exact Nat.ne_of_lt (by walk_at "lt") | omega
  have n3P : @Ne Nat (s₁.heap.objs.size + 1 + 1 + 1) PL := by first | exact Nat.ne_of_lt (by walk_at "lt") | omega
  have n2P : @Ne Nat (s₁.heap.objs.size + 1 + 1) PL := by first | exact Nat.ne_of_lt (by walk_at "lt") | omega
  have n1P : @Ne Nat (s₁.heap.objs.size + 1) PL := by first | exact Nat.ne_of_lt (by walk_at "lt") | omega
  rename Fr _ _ _ _ => F30
  rename News _ _ _ _ => N30
  rename (pvs.length : Int) = (n : Int) => hln
  have hlg : pvs.length = gs.1.length := by rw [hpt.length, List.length_map]
  have hgn : gs.1.length = n := by omega
  rw [if_pos hgn]
  obtain ⟨y, hy⟩ := kl_last_drop (vs := pvs) (fun h => by rw [h] at hlg; simp only [List.length_nil] at hlg; omega)
  have N31 := kst_newsOf (l' := (PL, liO pvs pnn) :: (I2, oI2) :: (SP, liO sps snn) :: (BX, instObj 182 BD) :: (BD, diO (PyData.keyHash w.params (Str.ofString "_headers")) tX PL 1) :: (I, oI) :: (s₁.heap.objs.size + 1 + 1 + 1 + 1, oS2) :: (TT, ({ cls := .type "tuple", data := .seq [Value.int 2 ta, Value.int 3 tb, Value.int 4 tc].toArray } : Obj)) :: (s₁.heap.objs.size + 1 + 1 + 1, o3) :: (s₁.heap.objs.size + 1 + 1, o2) :: (s₁.heap.objs.size + 1, o1) :: rest3) N30 (by walk_at "sub")
  clear N30
  dsimp only
  refine kl_pop F30 N31 (its := pvs.toArray) (p := pvs.dropLast) (y := y) hy (.head ?_) (by rw [sizeLine_eq]; show pvs.length ≤ 16777216; omega) ?_
  · k_all
  intro h31 F32 N32
  walk_at "go"
  show Opq _
  unfold Opq
  refine ⟨_, _, _, pvs.dropLast, _, _, rfl, by assumption, by assumption, ⟨rfl, rfl, rfl, rfl, rfl, rfl, rfl, rfl, rfl, trivial⟩, ?_⟩
  rw [List.dropLast_eq_take, List.dropLast_eq_take, List.map_take, hlg]
  exact hpt.takeN _
theorem S_E16_g3 : Dom43 S_E15_g1 := by
  delta Dom43
  intros w s₀ s₁ mg mb GL T w1 w2 M is w6 sc sv w8 hZ ra hr2 P0 N0a x0 d0 H0 Gc o1 o2 o3 cs ks zs AA SS CU TT ta tb tc I oI n oS2 PL z1 SP DT BX BD tX i2 t2 I2 oI2 gs pvs pnn sps snn tf tl rest3 hpt QTi
  intros mr3 gs2 hr2 _ _ _ tk' _
  w_top off
  rename Fr _ _ _ _ => F30
  rename News _ _ _ _ => N30
  rename ¬ ((pvs.length : Int) = (n : Int)) => hln
  have hlg : pvs.length = gs.1.length := by rw [hpt.length, List.length_map]
  have hgn : ¬ gs.1.length = n := by omega
  rw [if_neg hgn]
  have N31 := kst_newsOf (l' := (PL, liO pvs pnn) :: (I2, oI2) :: (SP, liO sps snn) :: (BX, instObj 182 BD) :: (BD, diO (PyData.keyHash w.params (Str.ofString "_headers")) tX PL 1) :: (I, oI) :: (s₁.heap.objs.size + 1 + 1 + 1 + 1, oS2) :: (TT, ({ cls := .type "tuple", data := .seq [Value.int 2 ta, Value.int 3 tb, Value.int 4 tc].toArray } : Obj)) :: (s₁.heap.objs.size + 1 + 1 + 1, o3) :: (s₁.heap.objs.size + 1 + 1, o2) :: (s₁.heap.objs.size + 1, o1) :: rest3) N30 (by walk_at "sub")
  show Opq _
  unfold Opq
  exact ⟨_, _, _, pvs, pnn, _, rfl, F30, N31, ⟨rfl, rfl, rfl, rfl, rfl, rfl, rfl, rfl, rfl, trivial⟩, hpt⟩
end S_E17
end R_5_0
section R_5_1
local macro_rules | `(tactic| walk_at "halt") => `(tactic| with_reducible show H58)
section S_E18
theorem afresh40 : True := by w_top off; trivial
theorem dg_ok9 {j : Nat} (h : j ≤ 8) : 48 + j ∈ dgL := by
  rcases j with _ | _ | _ | _ | _ | _ | _ | _ | _ | j <;> first | decide | omega
theorem lose_lt {ks : List Nat} {n t f : Nat} {js : List Nat} {q : List Nat × Nat} (h : lose ks n t js f = some q) (hj : ∀ j ∈ js, j < 8) : (∀ j ∈ q.1, j < 8) ∧ q.1.length ≤ js.length := by
  unfold lose at h
  split at h
  · split at h
    · cases h
      exact ⟨fun j hm => hj j (List.mem_filter.mp hm).1, List.length_filter_le _ _⟩
    · cases h
  · cases h
    split
    · exact ⟨fun j hm => hj j (List.dropLast_subset _ hm), by rw [List.length_dropLast]; omega⟩
    · exact ⟨hj, Nat.le_refl _⟩
local macro_rules | `(tactic| walk_at "none here") => `(tactic| fail)
noncomputable def S_E16_g4 := fun (hStop1 : Keep (_ : Prop)) => (show Dom44 S_E15_g1 from by
  delta Dom44
  intros w s₀ s₁ mg mb fa KX GL T w1 w2 M w3 is hr w6 sc sv w8 hZ ra hr2 K0 c1 c2 c3 c4 ek1 P0 N0a x0 d0 H0 Gc o1 o2 do2 o3 h nv nn cs hns ks hcl hok ys hys zs hzs AA SS av an sv' sn hav hsv hab CU b2 f4
  intros f3 f2 f1 TT ta tb tc i I oI h QTo n tn hn2 hn4 hv oS2 PL lPL z1 lz1 SP lSP DT lDT BX BD lBD lBX kX2 hL tk hPS hIP hTP tX _ _ i2 t2 I2 oI2 h3' tk3' hi8 gs pvs pnn sps snn tf tl rest3 hrg hsub3 hrP
  intros hrS hsi hI2 N24 QTi hQTi mr3 F25 mA3 mS3 mN3 gs2 hr2 hstep q hq so1 so2 so3 hgs2 hjlt hjl hspl hct hz0 _ _ h9' tk9' m9 pvs' pn' tf' F28 N28 hm9 hpt9
  w_top off
  have nI2 : @Ne Nat I2 PL := Ne.symm (hI2 (PL, liO pvs pnn) (.head _))
  have nSP : @Ne Nat SP PL := Nat.ne_of_gt hPS
  have nIP : @Ne Nat I PL := Nat.ne_of_lt hIP
  have nTP : @Ne Nat TT PL := Nat.ne_of_lt hTP
  have nBD : @Ne Nat BD PL := by omega
  have nBX : @Ne Nat BX PL := by omega
  have n4P : @Ne Nat (s₁.heap.objs.size + 1 + 1 + 1 + 1) PL := by first | exact Nat.ne_of_lt (by walk_at "lt") | omega
  have n3P : @Ne Nat (s₁.heap.objs.size + 1 + 1 + 1) PL := by first | exact Nat.ne_of_lt (by walk_at "lt") | omega
  have n2P : @Ne Nat (s₁.heap.objs.size + 1 + 1) PL := by first | exact Nat.ne_of_lt (by walk_at "lt") | omega
  have n1P : @Ne Nat (s₁.heap.objs.size + 1) PL := by first | exact Nat.ne_of_lt (by walk_at "lt") | omega
  obtain ⟨hqlt, hqll⟩ := lose_lt hq hjlt
  have hal8 : ((List.range 8).map (aheadP ks)).length = 8 := by simp
  have hsl8 : ((List.range 8).map (sinceP ks)).length = 8 := by simp
  have hpl9 : pvs'.length ≤ 8 := by rw [hpt9.length, List.length_map]; omega
  have haN : ∀ j, j < 8 → aN ks j ≤ 8 := fun j hj => by
    have := hab j hj
    unfold aN
    omega
  have hdg : ∀ r ∈ q.1.map (prP cs ks), r.2 ∈ dgL := by
    intro r hr
    obtain ⟨j, hj, rfl⟩ := List.mem_map.mp hr
    exact dg_ok9 (haN j (hqlt j hj))
  have hokq : ∀ r ∈ q.1.map (prP cs ks), r.1 ∈ okL := by
    intro r hr
    obtain ⟨j, hj, rfl⟩ := List.mem_map.mp hr
    exact hok _ (getDN_mem (by rw [hcl]; exact hqlt j hj))
  obtain ⟨mr9, F29⟩ := frOv [("t", .int i2 t2), ("pairs", .ref PL), ("spots", .ref SP), ("found", .int (q.2 : Nat) tf'), ("laid", .int (gs.2.2.2 : Nat) tl), ("board", .ref BX), ("ahead", .ref AA), ("since", .ref SS), ("cuts", .ref CU)] F28 hm9
  clear F28 F25 N24
  dsimp only [kstB] at F29
  walk_at "go"
  revert e' t' n'; revert t' F29 mr9; clear hokq; revert hdg haN; clear hpl9; revert hsl8; clear hal8; revert hqll hqlt n1P n2P n3P n4P nBX nBD nTP nIP nSP nI2 hpt9 hm9 N28 tf' pn' pvs' m9 tk9' h9'
  rename_i zzM; revert zzM; rename_i zzM; revert zzM; revert hz0 hct hspl hjl; clear hjlt; revert hgs2 so3 so2 so1 hq q hstep hr2 gs2; clear mN3; revert mS3; clear mA3
  revert mr3 hQTi QTi hI2 hsi hrS hrP hsub3 hrg rest3 tl tf snn sps pnn pvs gs hi8 tk3' h3' oI2 I2 t2 i2; rename_i zzM; revert zzM; rename_i zzM; revert zzM; revert tX; clear hTP; clear hIP; clear hPS
  revert tk hL kX2 lBX lBD BD BX lDT DT lSP SP lz1 z1 lPL PL oS2 hv hn4 hn2 tn n QTo h oI I i tc tb ta TT f1 f2 f3 f4 b2 CU hab hsv; clear hav; revert sn sv'; clear an; clear av
  revert SS AA hzs zs hys ys; clear hok; clear hcl; revert ks; clear hns; revert cs; clear nn; clear nv; revert h o3; clear do2
  revert o2 o1 Gc H0 d0 x0 N0a P0 ek1 c4 c3 c2 c1 K0 hr2 ra hZ w8 sv sc w6 hr is w3 M w2 w1 T GL KX fa mb mg s₁ s₀ w
  exact hStop1.out)
end S_E18
end R_5_1
section S_E19
theorem afresh41 : True := by w_top off; trivial
theorem Tups.app {nx : List (Addr × Obj)} {vs vs' : List Value} {ps ps' : List (Nat × Nat)} (h : Tups nx vs ps) (h' : Tups nx vs' ps') : Tups nx (vs ++ vs') (ps ++ ps') := by
  induction h with
  | nil => exact h'
  | cons hm _ ih => exact .cons hm ih
theorem sorted_same : ∀ {a b : List Int}, a.Perm b → a.Pairwise (· ≤ ·) → b.Pairwise (· ≤ ·) → a = b
  | [], b, p, _, _ => (List.nil_perm.mp p).symm
  | x :: a, [], p, _, _ => absurd p.length_eq (by simp)
  | x :: a, y :: b, p, ha, hb => by
    have h1 : x ≤ y := by
      rcases List.mem_cons.mp (p.mem_iff.mpr (List.mem_cons_self (a := y) (l := b))) with e | h
      · exact Int.le_of_eq e.symm
      · exact (List.pairwise_cons.mp ha).1 y h
    have h2 : y ≤ x := by
      rcases List.mem_cons.mp (p.mem_iff.mp (List.mem_cons_self (a := x) (l := a))) with e | h
      · exact Int.le_of_eq e.symm
      · exact (List.pairwise_cons.mp hb).1 x h
    obtain rfl : x = y := Int.le_antisymm h1 h2
    rw [sorted_same ((List.perm_cons x).mp p) (List.pairwise_cons.mp ha).2 (List.pairwise_cons.mp hb).2]
noncomputable def S_E18_g1 := fun (hStop1 : Keep (_ : Prop)) => (show Dom11 S_E16_g4 from by
  delta Dom11
  intros w s₀ s₁ mg mb fa KX GL T w1 w2 M w3 is hr w6 sc sv w8 hZ ra hr2 K0 c1 c2 c3 c4 ek1 P0 N0a x0 d0 H0 Gc o1 o2 o3 h cs ks ys hys zs hzs AA SS sv' sn hsv hab CU b2 f4 f3 f2 f1 TT ta tb tc i I oI h
  intros QTo n tn hn2 hn4 hv oS2 PL lPL z1 lz1 SP lSP DT lDT BX BD lBD lBX kX2 hL tk tX _ _ i2 t2 I2 oI2 h3' tk3' hi8 gs pvs pnn sps snn tf tl rest3 hrg hsub3 hrP hrS hsi hI2 QTi hQTi mr3 mS3 gs2 hr2 hstep
  intros q hq so1 so2 so3 hgs2 hjl hspl hct hz0 _ _ h9' tk9' m9 pvs' pn' tf' N28 hm9 hpt9 nI2 nSP nIP nTP nBD nBX n4P n3P n2P n1P hqlt hqll hsl8 haN hdg mr9 F29 t' n' t' e'
  w_top off
  have hn9 : n' = ((aN ks i2 : Nat) : Int) := by
    rw [Int.toNat_natCast, List.getElem?_map, List.getElem?_range hi8] at e'
    have e2 := Option.some.inj e'
    have h2 := hab i2 hi8
    have e3 : aheadP ks i2 = n' := e2
    unfold aN
    omega
  have hai := haN i2 hi8
  rw [hn9]
  walk_at "call type:str"
  rw [str_dig9 hai]
  walk_at "go"
  rename Fr _ _ _ _ => F30
  rename News _ _ _ _ => N30
  rename_i DE hE2 lE2
  rw [Int.toNat_natCast] at N30
  refine cps fun zzX zzk => ?_
  obtain ⟨u1, u2, N31⟩ : ∃ u1 u2, News s₁.heap s₁.heap.objs.size _ ((PL, liO pvs' pn') :: (DE, prO (.str (S1 (cs.getD i2 0)) u1) (.str (S1 (48 + aN ks i2)) u2)) :: (I2, oI2) :: (SP, liO sps snn) :: (BX, instObj 182 BD) :: (BD, diO (PyData.keyHash w.params (Str.ofString "_headers")) tX PL 1) :: (I, oI) :: (s₁.heap.objs.size + 1 + 1 + 1 + 1, oS2) :: (TT, ({ cls := .type "tuple", data := .seq [Value.int 2 ta, Value.int 3 tb, Value.int 4 tc].toArray } : Obj)) :: (s₁.heap.objs.size + 1 + 1 + 1, o3) :: (s₁.heap.objs.size + 1 + 1, o2) :: (s₁.heap.objs.size + 1, o1) :: rest3) := ⟨_, _, kst_newsOf N30 (by walk_at "sub")⟩
  refine zzk ?_; clear zzk zzX
  clear N30
  have hDEP : @LT.lt Nat _ PL DE := lE2.1
  have nDE : @Ne Nat DE PL := Nat.ne_of_gt hDEP
  have hsub9 : ∀ r ∈ (DE, prO (.str (S1 (cs.getD i2 0)) u1) (.str (S1 (48 + aN ks i2)) u2)) :: rest3, r ∈ (DE, prO (.str (S1 (cs.getD i2 0)) u1) (.str (S1 (48 + aN ks i2)) u2)) :: (I2, oI2) :: (SP, liO sps snn) :: (BX, instObj 182 BD) :: (BD, diO (PyData.keyHash w.params (Str.ofString "_headers")) tX PL 1) :: (I, oI) :: (s₁.heap.objs.size + 1 + 1 + 1 + 1, oS2) :: (TT, ({ cls := .type "tuple", data := .seq [Value.int 2 ta, Value.int 3 tb, Value.int 4 tc].toArray } : Obj)) :: (s₁.heap.objs.size + 1 + 1 + 1, o3) :: (s₁.heap.objs.size + 1 + 1, o2) :: (s₁.heap.objs.size + 1, o1) :: rest3 := by walk_at "sub"
  refine c_insort (by assumption) F30 (by assumption) N31 (by assumption) rfl (by ktr_room) (hpt9.mono fun r hr => hsub9 _ (.tail _ hr)) hdg (by rw [List.length_map]; omega) (by rw [wn_pr]; exact sortedN_is so1) (dg_ok9 hai) (.head _) ?_ ?_
  · k_all
  intro r n9 h31 tk31 hrb F32 N32
  have hrc : r = cnt (q.1.map (aN ks)) (aN ks i2) := by
    rw [bis_eq hrb, wn_pr, show ((48 + aN ks i2 : Nat) : Int) - 48 = ((aN ks i2 : Nat) : Int) by omega, cnt_is]
  have hpt10 : Tups ((DE, prO (.str (S1 (cs.getD i2 0)) u1) (.str (S1 (48 + aN ks i2)) u2)) :: rest3) (pvs'.take r ++ .ref DE :: pvs'.drop r) ((putIn ks i2 q.1).map (prP cs ks)) := by
    unfold putIn
    rw [← hrc, List.map_append, List.map_cons, List.map_take, List.map_drop]
    exact ((hpt9.mono fun r hr => .tail _ hr).takeN r).app (.cons (.head _) ((hpt9.mono fun r hr => .tail _ hr).dropN r))
  clear F30 N31
  walk_at "go"
  revert hpt10 hrc N32 F32 hrb tk31 h31 n9 r hsub9 nDE; clear hDEP; revert u2 u1 lE2; clear hE2; revert DE hai hn9 e'; clear t'; revert n'; clear t'; revert mr9; clear hdg
  revert haN hsl8 hqll hqlt n1P n2P n3P n4P nBX nBD nTP nIP nSP nI2; clear hpt9; revert hm9 tf'; clear pn'; revert pvs' m9; clear tk9'; clear h9'; rename_i zzM; revert zzM; rename_i zzM; revert zzM
  revert hz0 hct hspl hjl hgs2 so3 so2; clear so1; revert hq q hstep hr2 gs2 mS3 mr3 hQTi QTi hI2 hsi hrS hrP hsub3 hrg rest3 tl tf snn sps pnn pvs gs hi8 tk3' h3' oI2 I2 t2 i2; rename_i zzM; revert zzM
  rename_i zzM; revert zzM; revert tX tk hL kX2 lBX lBD BD BX lDT DT lSP SP lz1 z1 lPL PL oS2 hv hn4 hn2 tn n QTo h oI I i tc tb ta TT f1 f2 f3 f4 b2 CU; clear hab
  revert hsv sn sv' SS AA hzs zs hys ys ks cs h o3 o2 o1 Gc H0 d0 x0 N0a P0 ek1 c4 c3 c2 c1 K0 hr2 ra hZ w8 sv sc w6 hr is w3 M w2 w1 T GL KX fa mb mg s₁ s₀ w
  exact hStop1.out)
end S_E19
section S_E20
theorem afresh42 : True := by w_top off; trivial
noncomputable def S_E19_g1 := fun (hStop1 : Keep (_ : Prop)) (hStop2 : Keep (_ : Prop)) => (show Dom11 S_E18_g1 from by
  delta Dom11
  intros w s₀ s₁ mg mb fa KX GL T w1 w2 M w3 is hr w6 sc sv w8 hZ ra hr2 K0 c1 c2 c3 c4 ek1 P0 N0a x0 d0 H0 Gc o1 o2 o3 h cs ks ys hys zs hzs AA SS sv' sn hsv CU b2 f4 f3 f2 f1 TT ta tb tc i I oI h QTo
  intros n tn hn2 hn4 hv oS2 PL lPL z1 lz1 SP lSP DT lDT BX BD lBD lBX kX2 hL tk tX _ _ i2 t2 I2 oI2 h3' tk3' hi8 gs pvs pnn sps snn tf tl rest3 hrg hsub3 hrP hrS hsi hI2 QTi hQTi mr3 mS3 gs2 hr2 hstep
  intros q hq so2 so3 hgs2 hjl hspl hct hz0 _ _ m9 pvs' tf' hm9 nI2 nSP nIP nTP nBD nBX n4P n3P n2P n1P hqlt hqll hsl8 haN mr9 n' e' hn9 hai DE lE2 u1 u2 nDE hsub9 r n9 h31 tk31 hrb F32 N32 hrc hpt10
  w_top off
  obtain ⟨pvs3, hpvs3⟩ : ∃ v, v = pvs'.take r ++ .ref DE :: pvs'.drop r := ⟨_, rfl⟩
  rw [← hpvs3] at N32 hpt10
  have hpt11 : Tups ((PL, liO pvs3 n9) :: (DE, prO (.str (S1 (cs.getD i2 0)) u1) (.str (S1 (48 + aN ks i2)) u2)) :: (I2, oI2) :: (SP, liO sps snn) :: (BX, instObj 182 BD) :: (BD, diO (PyData.keyHash w.params (Str.ofString "_headers")) tX PL 1) :: (I, oI) :: (s₁.heap.objs.size + 1 + 1 + 1 + 1, oS2) :: (TT, ({ cls := .type "tuple", data := .seq [Value.int 2 ta, Value.int 3 tb, Value.int 4 tc].toArray } : Obj)) :: (s₁.heap.objs.size + 1 + 1 + 1, o3) :: (s₁.heap.objs.size + 1 + 1, o2) :: (s₁.heap.objs.size + 1, o1) :: rest3) pvs3 ((putIn ks i2 q.1).map (prP cs ks)) := hpt10.mono fun r hr => .tail _ (hsub9 r hr)
  have hpil : (putIn ks i2 q.1).length ≤ 9 := by
    unfold putIn
    rw [List.length_append, List.length_cons, List.length_take, List.length_drop]
    omega
  have hpi8 : ∀ j ∈ putIn ks i2 q.1, j < 8 := by
    intro j hj
    unfold putIn at hj
    rcases List.mem_append.mp hj with hj | hj
    · exact hqlt j (List.mem_of_mem_take hj)
    · rcases List.mem_cons.mp hj with rfl | hj
      · exact hi8
      · exact hqlt j (List.mem_of_mem_drop hj)
  have nDI2 : @Ne Nat DE I2 := Nat.ne_of_gt lE2.2.1
  have nDSP : @Ne Nat DE SP := Nat.ne_of_gt lE2.2.2.1
  have hspl3 : sps.length ≤ 3 := by rw [hsi.length, List.length_map, hspl]; exact n1_3 hn4
  rename Fr _ _ _ _ => F33
  show wpAny _ _ (call (Value.ref 139) [Value.ref BX]) _ _ _
  refine c_values (by assumption) F33 (by assumption) N32 (by assumption) rfl (by ktr_room) (by k_mem) (by k_mem) (.head _) hpt11 (by rw [List.length_map]; omega) ?_
  intro DV ys h34 tk34 F34 N34 offV hys
  clear F33 N32
  walk_at "go"
  have hyl : ys.length = (putIn ks i2 q.1).length := by rw [hys.length, List.length_map, List.length_map]
  refine LCg.CompSrc.ledger (k := ys.length) rfl F34 N34 (.head _) (by rw [sizeLine_eq, List.size_toArray]; omega) fun gh2 => ?_
  dsimp only
  refine restU (n := ys.toArray.size) (fun j zs nx => nx = (DV, liO ys ys.length) :: (PL, liO pvs3 n9) :: (DE, prO (.str (S1 (cs.getD i2 0)) u1) (.str (S1 (48 + aN ks i2)) u2)) :: (I2, oI2) :: (SP, liO sps snn) :: (BX, instObj 182 BD) :: (BD, diO (PyData.keyHash w.params (Str.ofString "_headers")) tX PL 1) :: (I, oI) :: (s₁.heap.objs.size + 1 + 1 + 1 + 1, oS2) :: (TT, ({ cls := .type "tuple", data := .seq [Value.int 2 ta, Value.int 3 tb, Value.int 4 tc].toArray } : Obj)) :: (s₁.heap.objs.size + 1 + 1 + 1, o3) :: (s₁.heap.objs.size + 1 + 1, o2) :: (s₁.heap.objs.size + 1, o1) :: rest3 ∧ IntsAre zs ((((putIn ks i2 q.1).map (aN ks)).take j).map fun (n : Nat) => (n : Int))) ?_ ?_ _ 0 [] _ (Nat.zero_add _) ⟨rfl, .nil⟩
  · rintro j v zs nx I4 oI4 C4 oC4 D4 m4 h4' tk4 E4 hj hv ⟨rfl, hzs⟩ hC4 hx4 F7 N7 off4 ne4
    clear F34 N34
    obtain ⟨d, t4, rfl, hd⟩ := hys.get (show ys[j]? = some v by simpa using hv)
    rw [List.getElem?_map, List.getElem?_map] at hd
    obtain ⟨o4, ho4, hd⟩ := Option.map_eq_some_iff.mp hd
    obtain ⟨o5, ho5, rfl⟩ := Option.map_eq_some_iff.mp ho4
    subst hd
    have hdg4 : (prP cs ks o5).2 ∈ dgL := dg_ok9 (haN o5 (hpi8 o5 (List.mem_of_getElem? ho5)))
    walk_at "go"
    refine LCg.CompEnd.intro (by assumption) (by assumption) _ (fun p hp => hp) off4 (.inr ⟨_, .head _, rfl, _, rfl⟩) ⟨rfl, ?_⟩
    have e48 : (((prP cs ks o5).2 : Nat) : Int) - 48 = ((aN ks o5 : Nat) : Int) := by
      show ((48 + aN ks o5 : Nat) : Int) - 48 = _
      omega
    rw [e48, List.take_add_one, List.getElem?_map, ho5, List.map_append]
    exact hzs.append (.cons _ _ .nil)
  · rintro zs nx ⟨rfl, hzs⟩
    rw [List.take_of_length_le (by rw [List.size_toArray, hyl, List.length_map]; exact Nat.le_refl _)] at hzs
    clear F34 N34
    unfold LCg.FinA
    intro DN h35 tk35 F35 N35 oN
    have hoN := off1_all oN
    walk_at "go"
    refine kso_sorted F35 N35 (N35.isList (.head _)) hzs (by rw [List.length_map, List.length_map]; omega) ?_
    intro DS zs' ns' c9 h36 F36 N36 l36 hz' _ hperm hpair _
    obtain rfl := sorted_same hperm hpair (by
      rw [List.pairwise_map]
      exact (sortedN_pair so3).imp fun h => by omega)
    walk_at "go"
    rename Fr _ _ _ _ => F37
    rename News _ _ _ _ => N37
    refine ke_ne_ints (N37.isList (by k_mem)) (N37.isList (by k_mem)) hzs hz' (by k_units) ?_
    rw [decide_eq_true rfl]
    walk_at "go"
    · revert e'; clear t'; revert n' tk; rename_i zzM; revert zzM; revert e'; clear t'; revert n'; clear tk; rename_i zzM; revert zzM; clear hpair; clear hperm; rename_i zzM; clear zzM; revert hz'; clear l36
      revert N37 F37 h36 c9 zs' DS; clear hoN; clear oN; clear N35; clear F35; clear tk35; clear h35; revert DN; clear hzs; revert zs; clear gh2; clear hyl; clear hys; clear offV; clear tk34; clear h34
      revert ys DV hspl3 nDSP nDI2; clear hpi8; clear hpil; clear hpt11; clear hpvs3; revert hpt10 pvs3; clear hrc; clear hrb; clear tk31; clear h31; revert n9 r; clear hsub9; revert nDE u2 u1 lE2 DE
      clear hai; clear hn9; revert e' n' mr9; clear haN; revert hsl8; clear hqll; clear hqlt; revert n1P n2P n3P n4P nBX nBD nTP nIP nSP nI2; clear hm9; revert tf' pvs'; clear m9; rename_i zzM; clear zzM
      rename_i zzM; clear zzM; clear hz0; clear hct; revert hspl; clear hjl; revert hgs2; clear so3; revert so2; clear hq; revert q; clear hstep; revert hr2 gs2 mS3; clear mr3
      revert hQTi QTi hI2 hsi hrS hrP hsub3; clear hrg; revert rest3 tl; clear tf; revert snn sps pnn pvs gs hi8 tk3' h3' oI2 I2 t2 i2; rename_i zzM; revert zzM; rename_i zzM; revert zzM
      revert tX tk hL kX2 lBX lBD BD BX lDT DT lSP SP lz1 z1 lPL PL oS2; clear hv; revert hn4 hn2; clear tn; revert n QTo h oI I i tc tb ta TT; clear f1; revert f2 f3 f4 b2 CU hsv sn sv' SS AA; clear hzs
      revert zs; clear hys; clear ys; revert ks cs h o3 o2 o1 Gc H0 d0 x0 N0a P0 ek1 c4 c3 c2; clear c1; revert K0 hr2 ra hZ w8 sv sc w6 hr is w3 M w2 w1 T GL; clear KX; revert fa mb mg s₁ s₀ w
      exact hStop1.out
    · revert tk; rename_i zzM; revert zzM; revert e'; clear t'; revert n' tk; rename_i zzM; clear zzM; clear hpair; clear hperm; rename_i zzM; clear zzM; clear hz'; clear l36; revert N37 F37 h36 c9 zs' DS
      clear hoN; clear oN; clear N35; clear F35; clear tk35; clear h35; revert DN; clear hzs; revert zs; clear gh2; clear hyl; clear hys; clear offV; clear tk34; clear h34; revert ys DV; clear hspl3
      revert nDSP nDI2; clear hpi8; clear hpil; clear hpt11; clear hpvs3; revert hpt10 pvs3; clear hrc; clear hrb; clear tk31; clear h31; revert n9 r; clear hsub9; revert nDE u2 u1; clear lE2; revert DE
      clear hai; clear hn9; revert e' n' mr9; clear haN; clear hsl8; clear hqll; clear hqlt; clear n1P; clear n2P; clear n3P; clear n4P; clear nBX; clear nBD; clear nTP; clear nIP; clear nSP; clear nI2
      clear hm9; revert tf' pvs'; clear m9; rename_i zzM; clear zzM; rename_i zzM; clear zzM; clear hz0; clear hct; clear hspl; clear hjl; revert hgs2; clear so3; clear so2; clear hq; revert q; clear hstep
      revert hr2 gs2; clear mS3; clear mr3; revert hQTi QTi hI2 hsi hrS hrP hsub3; clear hrg; revert rest3 tl; clear tf; revert snn sps pnn pvs gs hi8 tk3' h3' oI2 I2 t2 i2; rename_i zzM; revert zzM
      rename_i zzM; revert zzM; revert tX tk hL; clear kX2; clear lBX; clear lBD; revert BD BX; clear lDT; revert DT; clear lSP; revert SP; clear lz1; revert z1; clear lPL; revert PL oS2; clear hv; clear hn4
      clear hn2; clear tn; revert n QTo h oI I; clear i; revert tc tb ta TT f1; clear f2; clear f3; clear f4; revert b2 CU; clear hsv; clear sn; clear sv'; revert SS AA; clear hzs; revert zs; clear hys
      clear ys; revert ks cs h o3 o2 o1 Gc H0 d0 x0 N0a P0 ek1; clear c4; clear c3; clear c2; revert c1; clear K0; revert hr2 ra hZ w8 sv sc w6 hr is w3 M w2 w1 T GL; clear KX; revert fa mb mg s₁ s₀ w
      exact hStop2.out)
end S_E20
section S_E21
theorem afresh43 : True := by w_top off; trivial
theorem frEx2 {h₀ h : Heap} {L : Addr} {m : Str → Option Value} {P : (Str → Option Value) → Tok → Tok → Prop} (_ : Fr h₀ L h m) (hp : ∃ a b, P m a b) : ∃ a b, P m a b := hp
theorem since_ge (ks : List Nat) (t : Nat) : -1 ≤ sinceP ks t := by
  unfold sinceP
  rw [List.getD_eq_getElem?_getD]
  cases h : (tm ks t)[bisP (tm ks t) ↑t - 2]? with
  | none => decide
  | some n => exact (tm_mem (List.mem_of_getElem? h)).1
theorem ints_erase {vs : List Value} {ns : List Nat} (h : IntsAre vs (ns.map fun (n : Nat) => (n : Int))) : ∀ k, IntsAre (vs.eraseIdx k) ((ns.eraseIdx k).map fun (n : Nat) => (n : Int)) := by
  intro k
  rw [List.eraseIdx_eq_take_drop_succ, List.eraseIdx_eq_take_drop_succ, List.map_append, List.map_take, List.map_drop]
  exact (intsTake h k).append (intsDrop h (k + 1))
theorem cut_erase : ∀ {vs : List Value} {k : Nat}, k < vs.length → ∃ p y r, kl_cut vs k = some (p, y, r) ∧ p ++ r = vs.eraseIdx k
  | [], _, h => absurd h (Nat.not_lt_zero _)
  | x :: vs, 0, _ => ⟨[], x, vs, rfl, rfl⟩
  | x :: vs, k + 1, h => by
    obtain ⟨p, y, r, e1, e2⟩ := cut_erase (vs := vs) (k := k) (by simpa using h)
    exact ⟨x :: p, y, r, by rw [kl_cut, e1], by rw [List.cons_append, e2]; rfl⟩
theorem S_E20_g1 : Dom21 S_E19_g1 := by
  delta Dom21
  intros w s₀ s₁ mg mb fa GL T w1 w2 M w3 is hr w6 sc sv w8 hZ ra hr2 K0 c2 c3 c4 ek1 P0 N0a x0 d0 H0 Gc o1 o2 o3 h cs ks zs AA SS sv' sn hsv CU b2 f4 f3 f2 TT ta tb tc i I oI h QTo n hn2 hn4 oS2 PL lPL
  intros z1 lz1 SP lSP DT lDT BX BD lBD lBX kX2 hL tk tX _ _ i2 t2 I2 oI2 h3' tk3' hi8 gs pvs pnn sps snn tl rest3 hsub3 hrP hrS hsi hI2 QTi hQTi mS3 gs2 hr2 q so2 hgs2 hspl pvs' tf' nI2 nSP nIP nTP nBD
  intros nBX n4P n3P n2P n1P hsl8 mr9 n' e' DE lE2 u1 u2 nDE r n9 pvs3 hpt10 nDI2 nDSP hspl3 DV ys zs DN DS zs' c9 h36 F37 N37 hz' _ n' e' _ tk n' e'
  w_top off
  have hsn : ∀ (n2 : Int), ((List.range 8).map (sinceP ks))[((i2 : Int)).toNat]? = some n2 → n2 = sinceP ks i2 := by
    intro n2 h
    rw [Int.toNat_natCast, List.getElem?_map, List.getElem?_range hi8] at h
    exact (Option.some.inj h).symm
  have hsg := since_ge ks i2
  have hsN : ((sN ks i2 : Nat) : Int) = sinceP ks i2 + 1 := by unfold sN; omega
  have nIS : @Ne Nat I SP := by first | exact Nat.ne_of_lt (by walk_at "lt") | omega
  have nI2S : @Ne Nat I2 SP := Ne.symm (hI2 (SP, liO sps snn) (.tail _ (.head _)))
  have nPS : @Ne Nat PL SP := by first | exact Nat.ne_of_lt (by walk_at "lt") | omega
  have nTS : @Ne Nat TT SP := by first | exact Nat.ne_of_lt (by walk_at "lt") | omega
  have nBDS : @Ne Nat BD SP := by omega
  have nBXS : @Ne Nat BX SP := by omega
  have n4S : @Ne Nat (s₁.heap.objs.size + 1 + 1 + 1 + 1) SP := by first | exact Nat.ne_of_lt (by walk_at "lt") | omega
  have n3S : @Ne Nat (s₁.heap.objs.size + 1 + 1 + 1) SP := by first | exact Nat.ne_of_lt (by walk_at "lt") | omega
  have n2S : @Ne Nat (s₁.heap.objs.size + 1 + 1) SP := by first | exact Nat.ne_of_lt (by walk_at "lt") | omega
  have n1S : @Ne Nat (s₁.heap.objs.size + 1) SP := by first | exact Nat.ne_of_lt (by walk_at "lt") | omega
  rename_i nA tA eA hgA
  have he1 := hsn _ e'
  have he0 := hsn _ eA
  have hge : 0 ≤ n' := by omega
  rename Fr _ _ _ _ => F38
  rename News _ _ _ _ => N38
  have hn1 : n' + 1 = ((sN ks i2 : Nat) : Int) := by omega
  rw [hn1]
  refine c_bisect (ns := gs.2.1.map fun (n : Nat) => (n : Int)) (by assumption) F38 (by assumption) N38 (by assumption) rfl (by ktr_room) (by k_mem) hsi (by rw [List.length_map, hspl]; exact n1_1000 hn4) (sortedN_is so2) ?_
  intro rs trs h39 tk39 F39 N39 hrs
  have hrc2 : rs = cnt gs.2.1 (sN ks i2) := by rw [bis_eq hrs, cnt_is]
  have N41 := kst_newsOf (l' := (SP, liO sps snn) :: (I2, oI2) :: (PL, liO pvs3 n9) :: (BX, instObj 182 BD) :: (BD, diO (PyData.keyHash w.params (Str.ofString "_headers")) tX PL 1) :: (I, oI) :: (s₁.heap.objs.size + 1 + 1 + 1 + 1, oS2) :: (TT, ({ cls := .type "tuple", data := .seq [Value.int 2 ta, Value.int 3 tb, Value.int 4 tc].toArray } : Obj)) :: (s₁.heap.objs.size + 1 + 1 + 1, o3) :: (s₁.heap.objs.size + 1 + 1, o2) :: (s₁.heap.objs.size + 1, o1) :: (DE, prO (.str (S1 (cs.getD i2 0)) u1) (.str (S1 (48 + aN ks i2)) u2)) :: rest3) N39 (by walk_at "sub")
  clear F38 N38 N39
  have hrsl : rs ≤ gs.2.1.length := by rw [hrc2]; exact List.length_filter_le _ _
  have hspe : sps.length = gs.2.1.length := by rw [hsi.length, List.length_map]
  walk_at "go"
  · have he2 := hsn _ e'
    rename _ = (i2 : Int) => heq
    rename Fr _ _ _ _ => F40
    rename News _ _ _ _ => N40
    have hlay : lay ks i2 gs.2.1 gs.2.2.2 = (gs.2.1, gs.2.2.2 + 1) := by
      unfold lay
      rw [if_pos (by omega), if_pos (by omega)]
    refine cps fun zzX zzk => ?_
    obtain ⟨tfx, tlx, hHas⟩ := frEx2 (P := fun m a b => Has m [("pairs", .ref PL), ("spots", .ref SP), ("found", .int (q.2 : Nat) a), ("laid", .int ((gs.2.2.2 + 1 : Nat) : Int) b), ("board", .ref BX), ("ahead", .ref AA), ("since", .ref SS), ("cuts", .ref CU)]) F40 ⟨_, _, rfl, rfl, rfl, rfl, rfl, rfl, rfl, rfl, trivial⟩
    refine zzk ?_; clear zzk zzX
    subst hQTi
    dsimp only [MTurn]
    refine MEnd.intro F40 N40 ((PL, liO pvs3 n9) :: (SP, liO sps snn) :: (BX, instObj 182 BD) :: (BD, diO (PyData.keyHash w.params (Str.ofString "_headers")) tX PL 1) :: (I, oI) :: (s₁.heap.objs.size + 1 + 1 + 1 + 1, oS2) :: (TT, ({ cls := .type "tuple", data := .seq [Value.int 2 ta, Value.int 3 tb, Value.int 4 tc].toArray } : Obj)) :: (s₁.heap.objs.size + 1 + 1 + 1, o3) :: (s₁.heap.objs.size + 1 + 1, o2) :: (s₁.heap.objs.size + 1, o1) :: (DE, prO (.str (S1 (cs.getD i2 0)) u1) (.str (S1 (48 + aN ks i2)) u2)) :: rest3) (by k_mem) ?a2 ?b2 ⟨gs2, pvs3, n9, sps, snn, tfx, tlx, (DE, prO (.str (S1 (cs.getD i2 0)) u1) (.str (S1 (48 + aN ks i2)) u2)) :: rest3, hr2, rfl, ?c2, fun r hr => .tail _ (hsub3 r hr), ?d2, ?e2, ?f2, ?g2⟩
    case a2 => walk_at "sub"
    case b2 => exact neC (hI2 (PL, liO pvs pnn) (.head _)) (neC (hI2 (SP, liO sps snn) (.tail _ (.head _))) (neC (hI2 _ (.tail _ (.tail _ (.head _)))) (neC (hI2 _ (.tail _ (.tail _ (.tail _ (.head _))))) (neC (hI2 _ (.tail _ (.tail _ (.tail _ (.tail _ (.head _)))))) (neC (hI2 _ (.tail _ (.tail _ (.tail _ (.tail _ (.tail _ (.head _))))))) (neC (hI2 _ (.tail _ (.tail _ (.tail _ (.tail _ (.tail _ (.tail _ (.head _)))))))) (neC (hI2 _ (.tail _ (.tail _ (.tail _ (.tail _ (.tail _ (.tail _ (.tail _ (.head _))))))))) (neC (hI2 _ (.tail _ (.tail _ (.tail _ (.tail _ (.tail _ (.tail _ (.tail _ (.tail _ (.head _)))))))))) (neC (hI2 _ (.tail _ (.tail _ (.tail _ (.tail _ (.tail _ (.tail _ (.tail _ (.tail _ (.tail _ (.head _))))))))))) (neC nDI2 fun q h => hI2 q (.tail _ (.tail _ (.tail _ (.tail _ (.tail _ (.tail _ (.tail _ (.tail _ (.tail _ (.tail _ (h)))))))))))))))))))))
    case c2 => rw [hgs2]; dsimp only; rw [hlay]; exact hHas
    case d2 => k_all
    case e2 => k_all
    case f2 => rw [hgs2]; exact hpt10
    case g2 =>
      rw [hgs2]; dsimp only; rw [hlay]
      exact hsi
  · have he2 := hsn _ e'
    rename ¬ (_ = (i2 : Int)) => hneq
    rename (rs : Int) > 0 => hpos
    obtain ⟨p, y, r2, ec, ep⟩ := cut_erase (vs := sps) (k := rs - 1) (by omega)
    rename Fr _ _ _ _ => F42
    rename News _ _ _ _ => N42
    refine kl_popAt F42 N42 (its := sps.toArray) (k := rs - 1) ?_ ?_ ec (.head ?_) (by rw [sizeLine_eq]; show sps.length ≤ 16777216; omega) ?_
    · unfold Builtin.List.listFitsIndex
      rw [Bool.and_eq_true]
      exact ⟨decide_eq_true (by omega), decide_eq_true (by omega)⟩
    · rw [show (rs : Int) - 1 = ((rs - 1 : Nat) : Int) by omega]
      exact seqIndex_of (by omega) (by rw [List.size_toArray]; omega)
    · k_all
    intro h43 F43 N43
    rw [ep] at N43
    walk_at "go"
    rename Fr _ _ _ _ => F44
    rename News _ _ _ _ => N44
    refine r_append (vs := sps.eraseIdx (rs - 1)) F44 N44 (.head ?_) (by rw [sizeLine_eq, List.size_toArray]; have := List.length_eraseIdx_le (l := sps) (i := rs - 1); omega) ?_
    · k_all
    intro h45 F45 N45
    walk_at "go"
    rename Fr _ _ _ _ => F40
    rename News _ _ _ _ => N40
    have hlay : lay ks i2 gs.2.1 gs.2.2.2 = (gs.2.1.eraseIdx (rs - 1) ++ [i2], gs.2.2.2 + 1) := by
      unfold lay
      rw [if_pos (by omega), if_neg (by omega), ← hrc2, if_pos (by omega)]
    refine cps fun zzX zzk => ?_
    obtain ⟨tfx, tlx, hHas⟩ := frEx2 (P := fun m a b => Has m [("pairs", .ref PL), ("spots", .ref SP), ("found", .int (q.2 : Nat) a), ("laid", .int ((gs.2.2.2 + 1 : Nat) : Int) b), ("board", .ref BX), ("ahead", .ref AA), ("since", .ref SS), ("cuts", .ref CU)]) F40 ⟨_, _, rfl, rfl, rfl, rfl, rfl, rfl, rfl, rfl, trivial⟩
    refine zzk ?_; clear zzk zzX
    subst hQTi
    dsimp only [MTurn]
    refine MEnd.intro F40 N40 ((PL, liO pvs3 n9) :: (SP, liO (sps.eraseIdx (rs - 1) ++ [.int i2 t2]) (snn + 1 + 1)) :: (BX, instObj 182 BD) :: (BD, diO (PyData.keyHash w.params (Str.ofString "_headers")) tX PL 1) :: (I, oI) :: (s₁.heap.objs.size + 1 + 1 + 1 + 1, oS2) :: (TT, ({ cls := .type "tuple", data := .seq [Value.int 2 ta, Value.int 3 tb, Value.int 4 tc].toArray } : Obj)) :: (s₁.heap.objs.size + 1 + 1 + 1, o3) :: (s₁.heap.objs.size + 1 + 1, o2) :: (s₁.heap.objs.size + 1, o1) :: (DE, prO (.str (S1 (cs.getD i2 0)) u1) (.str (S1 (48 + aN ks i2)) u2)) :: rest3) (by k_mem) ?a4 ?b4 ⟨gs2, pvs3, n9, (sps.eraseIdx (rs - 1) ++ [.int i2 t2]), (snn + 1 + 1), tfx, tlx, (DE, prO (.str (S1 (cs.getD i2 0)) u1) (.str (S1 (48 + aN ks i2)) u2)) :: rest3, hr2, rfl, ?c4, fun r hr => .tail _ (hsub3 r hr), ?d4, ?e4, ?f4, ?g4⟩
    case a4 => walk_at "sub"
    case b4 => exact neC (hI2 (PL, liO pvs pnn) (.head _)) (neC (hI2 (SP, liO sps snn) (.tail _ (.head _))) (neC (hI2 _ (.tail _ (.tail _ (.head _)))) (neC (hI2 _ (.tail _ (.tail _ (.tail _ (.head _))))) (neC (hI2 _ (.tail _ (.tail _ (.tail _ (.tail _ (.head _)))))) (neC (hI2 _ (.tail _ (.tail _ (.tail _ (.tail _ (.tail _ (.head _))))))) (neC (hI2 _ (.tail _ (.tail _ (.tail _ (.tail _ (.tail _ (.tail _ (.head _)))))))) (neC (hI2 _ (.tail _ (.tail _ (.tail _ (.tail _ (.tail _ (.tail _ (.tail _ (.head _))))))))) (neC (hI2 _ (.tail _ (.tail _ (.tail _ (.tail _ (.tail _ (.tail _ (.tail _ (.tail _ (.head _)))))))))) (neC (hI2 _ (.tail _ (.tail _ (.tail _ (.tail _ (.tail _ (.tail _ (.tail _ (.tail _ (.tail _ (.head _))))))))))) (neC nDI2 fun q h => hI2 q (.tail _ (.tail _ (.tail _ (.tail _ (.tail _ (.tail _ (.tail _ (.tail _ (.tail _ (.tail _ (h)))))))))))))))))))))
    case c4 => rw [hgs2]; dsimp only; rw [hlay]; exact hHas
    case d4 => k_all
    case e4 => k_all
    case f4 => rw [hgs2]; exact hpt10
    case g4 =>
      rw [hgs2]; dsimp only; rw [hlay]
      rw [List.map_append]
      exact (ints_erase hsi _).append (.cons _ _ .nil)
  · have he2 := hsn _ e'
    rename ¬ (_ = (i2 : Int)) => hneq
    rename ¬ ((rs : Int) > 0) => hpos
    rename Fr _ _ _ _ => F40
    rename News _ _ _ _ => N40
    have hlay : lay ks i2 gs.2.1 gs.2.2.2 = (gs.2.1, gs.2.2.2) := by
      unfold lay
      rw [if_pos (by omega), if_neg (by omega), ← hrc2, if_neg (by omega)]
    refine cps fun zzX zzk => ?_
    obtain ⟨tfx, tlx, hHas⟩ := frEx2 (P := fun m a b => Has m [("pairs", .ref PL), ("spots", .ref SP), ("found", .int (q.2 : Nat) a), ("laid", .int ((gs.2.2.2 : Nat) : Int) b), ("board", .ref BX), ("ahead", .ref AA), ("since", .ref SS), ("cuts", .ref CU)]) F40 ⟨_, _, rfl, rfl, rfl, rfl, rfl, rfl, rfl, rfl, trivial⟩
    refine zzk ?_; clear zzk zzX
    subst hQTi
    dsimp only [MTurn]
    refine MEnd.intro F40 N40 ((PL, liO pvs3 n9) :: (SP, liO sps snn) :: (BX, instObj 182 BD) :: (BD, diO (PyData.keyHash w.params (Str.ofString "_headers")) tX PL 1) :: (I, oI) :: (s₁.heap.objs.size + 1 + 1 + 1 + 1, oS2) :: (TT, ({ cls := .type "tuple", data := .seq [Value.int 2 ta, Value.int 3 tb, Value.int 4 tc].toArray } : Obj)) :: (s₁.heap.objs.size + 1 + 1 + 1, o3) :: (s₁.heap.objs.size + 1 + 1, o2) :: (s₁.heap.objs.size + 1, o1) :: (DE, prO (.str (S1 (cs.getD i2 0)) u1) (.str (S1 (48 + aN ks i2)) u2)) :: rest3) (by k_mem) ?a3 ?b3 ⟨gs2, pvs3, n9, sps, snn, tfx, tlx, (DE, prO (.str (S1 (cs.getD i2 0)) u1) (.str (S1 (48 + aN ks i2)) u2)) :: rest3, hr2, rfl, ?c3, fun r hr => .tail _ (hsub3 r hr), ?d3, ?e3, ?f3, ?g3⟩
    case a3 => walk_at "sub"
    case b3 => exact neC (hI2 (PL, liO pvs pnn) (.head _)) (neC (hI2 (SP, liO sps snn) (.tail _ (.head _))) (neC (hI2 _ (.tail _ (.tail _ (.head _)))) (neC (hI2 _ (.tail _ (.tail _ (.tail _ (.head _))))) (neC (hI2 _ (.tail _ (.tail _ (.tail _ (.tail _ (.head _)))))) (neC (hI2 _ (.tail _ (.tail _ (.tail _ (.tail _ (.tail _ (.head _))))))) (neC (hI2 _ (.tail _ (.tail _ (.tail _ (.tail _ (.tail _ (.tail _ (.head _)))))))) (neC (hI2 _ (.tail _ (.tail _ (.tail _ (.tail _ (.tail _ (.tail _ (.tail _ (.head _))))))))) (neC (hI2 _ (.tail _ (.tail _ (.tail _ (.tail _ (.tail _ (.tail _ (.tail _ (.tail _ (.head _)))))))))) (neC (hI2 _ (.tail _ (.tail _ (.tail _ (.tail _ (.tail _ (.tail _ (.tail _ (.tail _ (.tail _ (.head _))))))))))) (neC nDI2 fun q h => hI2 q (.tail _ (.tail _ (.tail _ (.tail _ (.tail _ (.tail _ (.tail _ (.tail _ (.tail _ (.tail _ (h)))))))))))))))))))))
    case c3 => rw [hgs2]; dsimp only; rw [hlay]; exact hHas
    case d3 => k_all
    case e3 => k_all
    case f3 => rw [hgs2]; exact hpt10
    case g3 =>
      rw [hgs2]; dsimp only; rw [hlay]
      exact hsi
theorem S_E20_g2 : Dom22 S_E19_g1 := by
  delta Dom22
  intros w s₀ s₁ mg mb fa GL T w1 w2 M w3 is hr w6 sc sv w8 hZ ra hr2 c1 ek1 P0 N0a x0 d0 H0 Gc o1 o2 o3 h cs ks zs AA SS CU b2 f1 TT ta tb tc I oI h QTo n oS2 PL z1 SP DT BX BD hL tk tX _ _ i2 t2 I2 oI2
  intros h3' tk3' hi8 gs pvs pnn sps snn tl rest3 hsub3 hrP hrS hsi hI2 QTi hQTi gs2 hr2 q hgs2 pvs' tf' mr9 n' e' DE u1 u2 nDE r n9 pvs3 hpt10 nDI2 nDSP DV ys zs DN DS zs' c9 h36 F37 N37 tk n' e' _ tk
  w_top off
  have hsn : ∀ (n2 : Int), ((List.range 8).map (sinceP ks))[((i2 : Int)).toNat]? = some n2 → n2 = sinceP ks i2 := by
    intro n2 h
    rw [Int.toNat_natCast, List.getElem?_map, List.getElem?_range hi8] at h
    exact (Option.some.inj h).symm
  have hsg := since_ge ks i2
  have hsN : ((sN ks i2 : Nat) : Int) = sinceP ks i2 + 1 := by unfold sN; omega
  have he1 := hsn _ e'
  rename ¬ _ => hge
  rename Fr _ _ _ _ => F40
  rename News _ _ _ _ => N40
  have hlay : lay ks i2 gs.2.1 gs.2.2.2 = (gs.2.1, gs.2.2.2) := by
    unfold lay
    rw [if_neg (by omega)]
  refine cps fun zzX zzk => ?_
  obtain ⟨tfx, tlx, hHas⟩ := frEx2 (P := fun m a b => Has m [("pairs", .ref PL), ("spots", .ref SP), ("found", .int (q.2 : Nat) a), ("laid", .int ((gs.2.2.2 : Nat) : Int) b), ("board", .ref BX), ("ahead", .ref AA), ("since", .ref SS), ("cuts", .ref CU)]) F40 ⟨_, _, rfl, rfl, rfl, rfl, rfl, rfl, rfl, rfl, trivial⟩
  refine zzk ?_; clear zzk zzX
  subst hQTi
  dsimp only [MTurn]
  refine MEnd.intro F40 N40 ((PL, liO pvs3 n9) :: (SP, liO sps snn) :: (BX, instObj 182 BD) :: (BD, diO (PyData.keyHash w.params (Str.ofString "_headers")) tX PL 1) :: (I, oI) :: (s₁.heap.objs.size + 1 + 1 + 1 + 1, oS2) :: (TT, ({ cls := .type "tuple", data := .seq [Value.int 2 ta, Value.int 3 tb, Value.int 4 tc].toArray } : Obj)) :: (s₁.heap.objs.size + 1 + 1 + 1, o3) :: (s₁.heap.objs.size + 1 + 1, o2) :: (s₁.heap.objs.size + 1, o1) :: (DE, prO (.str (S1 (cs.getD i2 0)) u1) (.str (S1 (48 + aN ks i2)) u2)) :: rest3) (by k_mem) ?a1 ?b1 ⟨gs2, pvs3, n9, sps, snn, tfx, tlx, (DE, prO (.str (S1 (cs.getD i2 0)) u1) (.str (S1 (48 + aN ks i2)) u2)) :: rest3, hr2, rfl, ?c1, fun r hr => .tail _ (hsub3 r hr), ?d1, ?e1, ?f1, ?g1⟩
  case a1 => walk_at "sub"
  case b1 => exact neC (hI2 (PL, liO pvs pnn) (.head _)) (neC (hI2 (SP, liO sps snn) (.tail _ (.head _))) (neC (hI2 _ (.tail _ (.tail _ (.head _)))) (neC (hI2 _ (.tail _ (.tail _ (.tail _ (.head _))))) (neC (hI2 _ (.tail _ (.tail _ (.tail _ (.tail _ (.head _)))))) (neC (hI2 _ (.tail _ (.tail _ (.tail _ (.tail _ (.tail _ (.head _))))))) (neC (hI2 _ (.tail _ (.tail _ (.tail _ (.tail _ (.tail _ (.tail _ (.head _)))))))) (neC (hI2 _ (.tail _ (.tail _ (.tail _ (.tail _ (.tail _ (.tail _ (.tail _ (.head _))))))))) (neC (hI2 _ (.tail _ (.tail _ (.tail _ (.tail _ (.tail _ (.tail _ (.tail _ (.tail _ (.head _)))))))))) (neC (hI2 _ (.tail _ (.tail _ (.tail _ (.tail _ (.tail _ (.tail _ (.tail _ (.tail _ (.tail _ (.head _))))))))))) (neC nDI2 fun q h => hI2 q (.tail _ (.tail _ (.tail _ (.tail _ (.tail _ (.tail _ (.tail _ (.tail _ (.tail _ (.tail _ (h)))))))))))))))))))))
  case c1 => rw [hgs2]; dsimp only; rw [hlay]; exact hHas
  case d1 => k_all
  case e1 => k_all
  case f1 => rw [hgs2]; exact hpt10
  case g1 =>
    rw [hgs2]; dsimp only; rw [hlay]
    exact hsi
end S_E21
section R_5_3
local macro_rules | `(tactic| walk_at "halt") => `(tactic| with_reducible first | show H47 | show H59 | show H60)
section S_E22
theorem afresh44 : True := by w_top off; trivial
theorem cutsP_many (rs : List (List Int)) : ∀ j, ∀ q ∈ cutsP rs j, 0 ≤ q.1 ∧ q.1 ≤ (j : Int)
  | 0, q, h => by
    rw [cutsP, List.mem_singleton] at h
    rw [h]
    exact ⟨Int.le_refl _, Int.le_refl _⟩
  | j + 1, q, h => by
    rw [cutsP] at h
    rcases List.mem_append.mp h with h | h
    · have := cutsP_many rs j q h
      omega
    · obtain ⟨q', h', rfl⟩ := List.mem_map.mp h
      have := cutsP_many rs j q' h'
      show 0 ≤ q'.1 + 1 ∧ q'.1 + 1 ≤ _
      omega
noncomputable def S_E15_done := fun (hStop1 : Keep (_ : Prop)) (hStop2 : Keep (_ : Prop)) => (show Dom22 S_E14_g1 from by
  delta Dom22
  intros w s₀ s₁ mg mb fa hg GL T w1 w2 M w3 is hL w6 sc sv w8 hZ ra hr2 K0 qk1 ek1 P0 N0a x0 d0 h7 H0 h8 Gc o1 do1 o2 do2 o3 h1 hDL h pv pn nv nn cs hns ks hpi hcl hkl hok hlow gh ys hys zs hzl hzs h6
  intros tk6 hdk AA h8 SS h1 av an sv' sn CU cu cn b2 mAA mSS mPP mNN mCU hcu2 _ tk TT h18 ta tb tc i I oI h tk1 oS hIo QTo hQTo n tn hn2 hn4 hv nI4 oS2 dS2 PL z1 SP DT BX BD kX2 hL tk tX sF hrun hend _
  intros _ m3 h3' tk3' gs pvs pnn sps snn tf tl rest3 hrg hm3 hsub3 hpt F24 N24
  w_top off
  obtain rfl : gs = sF := Option.some.inj (hrg.symm.trans hrun)
  have mA3 := hsub3 _ mAA
  have mS3 := hsub3 _ mSS
  have mN3 := hsub3 _ mNN
  have mP3 := hsub3 _ mPP
  have mC3 := hsub3 _ mCU
  obtain ⟨mr9, F29⟩ := frOv [("pairs", .ref PL), ("spots", .ref SP), ("found", .int (gs.2.2.1 : Nat) tf), ("laid", .int (gs.2.2.2 : Nat) tl), ("board", .ref BX), ("ahead", .ref AA), ("since", .ref SS), ("cuts", .ref CU)] F24 hm3
  clear F24
  dsimp only [kstB] at F29
  have hcl64 : cu.length = 64 := by rw [hcu2.length, cutsP_length]
  walk_at "go"
  rename Fr _ _ _ _ => F30
  refine LCp.SrcLP.ledger (k := cn) rfl F30 N24 (by k_mem) (by rw [sizeLine_eq, List.size_toArray]; omega) fun gh3 => ?_
  dsimp only
  refine restP (n := cu.toArray.size) (fun i ys nx => nx = (PL, liO pvs pnn) :: (SP, liO sps snn) :: (BX, instObj 182 BD) :: (BD, diO (PyData.keyHash w.params (Str.ofString "_headers")) tX PL 1) :: (I, oI) :: (s₁.heap.objs.size + 1 + 1 + 1 + 1, oS2) :: (TT, ({ cls := .type "tuple", data := .seq [Value.int 2 ta, Value.int 3 tb, Value.int 4 tc].toArray } : Obj)) :: (s₁.heap.objs.size + 1 + 1 + 1, o3) :: (s₁.heap.objs.size + 1 + 1, o2) :: (s₁.heap.objs.size + 1, o1) :: rest3 ∧ IntsAre ys ((dueL ks n).take i)) ?_ ?_ _ 0 [] _ (Nat.zero_add _) ⟨rfl, .nil⟩
  · rintro i4 v4 ys nx hi4 hv4 ⟨rfl, hys⟩
    refine cps fun zzX zzk => ?_
    obtain ⟨⟨many, left⟩, hq4, b4, l4', vl, nl, tm4, rfl, hb4', hl4, hls⟩ := hcu2.get (show cu[i4]? = some v4 by simpa using hv4)
    refine zzk ?_; clear zzk zzX
    have hmq := List.mem_of_getElem? hq4
    have hmany := cutsP_many _ _ _ hmq
    have hvl4 : vl.length = left.length := hls.length
    have hll : left.length ≤ 8 := Nat.le_trans (cutsP_small _ 6 _ hmq) (rets_length _ 8)
    have hl9 := hsub3 _ hl4
    refine ⟨b4, prO (.int many tm4) (.ref l4'), .int many tm4, .ref l4', 0, rfl, (by have := hsub3 _ hb4'; k_mem), rfl, rfl, ?_⟩
    intro I5 oI5 C5 oC5 D5' m5 h5' tk5' E5 hC5 hx5 hx6 F7 N7 off5 ne5
    clear F30 N24
    walk_at "go"
    revert tk'; clear t'; clear ne5; revert off5 N7 F7; clear hx6; clear hx5; clear hC5; clear E5; revert tk5' h5'; clear m5; revert D5' oC5 C5 oI5 I5; clear hl9; clear hll; revert hvl4; clear hmany
    clear hmq; clear hls; clear hl4; clear hb4'; clear hv4; clear tm4; clear nl; revert vl; clear l4'; clear b4; revert hq4 left many hys; clear hi4; revert ys i4; clear gh3; clear hcl64; revert mr9
    clear mC3; clear mP3; clear mN3; clear mS3; clear mA3; clear hend; clear hrun; clear hpt; revert hsub3; clear hm3; clear hrg; revert rest3 tl tf snn sps pnn pvs gs; clear tk3'; clear h3'; clear m3
    rename_i zzM; clear zzM; rename_i zzM; clear zzM; revert tX; clear tk; clear hL; clear kX2; revert BD BX; clear DT; revert SP; clear z1; revert PL; clear dS2; revert oS2; clear nI4; clear hv; clear hn4
    clear hn2; clear tn; revert n; clear hQTo; clear QTo; clear hIo; clear oS; clear tk1; clear h; revert oI I; clear i; revert tc tb ta; clear h18; revert TT; clear tk; rename_i zzM; clear zzM; clear hcu2
    revert mCU; clear mNN; clear mPP; clear mSS; clear mAA; revert b2 cn cu CU; clear sn; clear sv'; clear an; clear av; clear h1; revert SS; clear h8; revert AA; clear hdk; clear tk6; clear h6; clear hzs
    clear hzl; clear zs; revert hys ys; clear gh; clear hlow; clear hok; clear hkl; clear hcl; clear hpi; revert ks; clear hns; clear cs; clear nn; clear nv; clear pn; clear pv; clear h; clear hDL; clear h1
    revert o3; clear do2; revert o2; clear do1; revert o1 Gc; clear h8; clear H0; clear h7; clear d0; clear x0; clear N0a; clear P0; clear ek1; clear qk1; clear K0; revert hr2 ra hZ w8 sv sc w6; clear hL
    revert is w3 M w2 w1 T GL; clear hg; revert fa mb mg s₁ s₀ w
    exact hStop1.out
  · rintro ys nx ⟨rfl, hys⟩
    rw [List.take_of_length_le (by rw [List.size_toArray, hcu2.length]; unfold dueL; rw [List.length_map]; exact Nat.le_refl _)] at hys
    clear F30 N24
    unfold LCg.FinE
    intro DD h35 tk35 F35 N35 oN
    walk_at "go"
    have hdl : (dueL ks n).length = 64 := by unfold dueL; rw [List.length_map, cutsP_length]
    refine kso_min F35 N35 (N35.isList (.head _)) hys (by omega) rfl ?_
    intro h36 M tM tk36 F36 N36 hM hMle
    refine cps fun zzX zzk => ?_
    obtain ⟨⟨hd1, hd2⟩, hlf, hso, hla, h8a⟩ := hend
    refine zzk ?_; clear zzk zzX
    have hMf : M = (gs.2.2.1 : Int) := Int.le_antisymm (hMle _ hd1) (hd2 _ hM)
    subst hMf
    clear F35 N35
    walk_at "go"
    all_goals first | ((fail_if_success (with_reducible show wpAny _ _ _ _ _ _)); subst hQTo; dsimp only [MTurn]; walk_at "go"; done) | skip
    rename_i zzM; clear zzM; rename_i zzM; clear zzM; revert tk; rename_i zzM; revert zzM; rename_i zzM; revert zzM; rename_i zzM; revert zzM; revert hMle hM h8a hla hso; clear hlf; clear hd2; clear hd1
    revert N36 F36; clear tk36; revert tM h36; clear hdl; revert oN tk35 h35 DD hys ys; clear gh3; clear hcl64; revert mr9; clear mC3; revert mP3 mN3; clear mS3; clear mA3; revert hrun hpt hsub3; clear hm3
    clear hrg; revert rest3 tl tf snn sps pnn pvs gs; clear tk3'; clear h3'; clear m3; rename_i zzM; clear zzM; rename_i zzM; clear zzM; revert tX; clear tk; clear hL
    revert kX2 BD BX DT SP z1 PL dS2 oS2 nI4 hv; clear hn4; clear hn2; revert tn n hQTo QTo hIo oS tk1 h oI I i tc tb ta h18 TT tk; rename_i zzM; revert zzM; clear hcu2; clear mCU; clear mNN; clear mPP
    clear mSS; clear mAA; revert b2; clear cn; revert cu CU; clear sn; clear sv'; clear an; clear av; revert h1 SS h8 AA hdk tk6 h6 hzs hzl zs; clear hys
    revert ys gh hlow hok hkl hcl hpi ks hns cs nn nv pn pv h hDL h1 o3 do2 o2 do1 o1 Gc h8 H0 h7 d0 x0 N0a P0 ek1 qk1 K0 hr2 ra hZ w8 sv sc w6; clear hL; revert is w3 M w2 w1 T GL; clear hg
    revert fa mb mg s₁ s₀ w
    exact hStop2.out)
end S_E22
section S_E23
theorem afresh45 : True := by w_top off; trivial
theorem max_is {ks : List Nat} {j : Nat} {M : Int} (hm : M ∈ (((List.range 8).filter fun (t : Nat) => ks.getD t 0 == ks.getD j 0).map fun (t : Nat) => (t : Int))) (hle : ∀ a, a ∈ (((List.range 8).filter fun (t : Nat) => ks.getD t 0 == ks.getD j 0).map fun (t : Nat) => (t : Int)) → a ≤ M) : M = ((lastP ks j : Nat) : Int) := by
  unfold lastP
  have hp := (List.pairwise_lt_range (n := 8)).filter fun (t : Nat) => ks.getD t 0 == ks.getD j 0
  generalize (List.range 8).filter (fun (t : Nat) => ks.getD t 0 == ks.getD j 0) = l at *
  obtain ⟨x, hx, rfl⟩ := List.mem_map.mp hm
  rcases List.eq_nil_or_concat l with e | ⟨l', y, e⟩
  · rw [e] at hx; cases hx
  · rw [List.concat_eq_append] at e
    subst e
    have hy : ((y : Nat) : Int) ≤ (x : Int) := hle _ (List.mem_map.mpr ⟨y, List.mem_append_right _ (.head _), rfl⟩)
    have hxy : x ≤ y := by
      rcases List.mem_append.mp hx with h | h
      · exact Nat.le_of_lt ((List.pairwise_append.mp hp).2.2 x h y (.head _))
      · exact Nat.le_of_eq (List.mem_singleton.mp h)
    have e2 : (l' ++ [y]).getLastD 0 = y := by simp
    rw [e2]
    omega
theorem S_E22_g1 : Dom21 S_E15_done := by
  delta Dom21
  intros w s₀ s₁ mg mb fa GL T w1 w2 M w3 is w6 sc sv w8 hZ ra hr2 Gc o1 o2 o3 ks ys hys AA SS CU cu cn b2 mCU TT ta tb tc I oI n oS2 PL SP BX BD tX gs pvs pnn sps snn tf tl rest3 hsub3 mr9 i4 ys hys many
  intros left hq4 vl hvl4 I5 oI5 C5 oC5 D5' h5' tk5' F7 N7 off5 tk'
  w_top off
  have hcuL : (CU, liO cu cn) ∈ (PL, liO pvs pnn) :: (SP, liO sps snn) :: (BX, instObj 182 BD) :: (BD, diO (PyData.keyHash w.params (Str.ofString "_headers")) tX PL 1) :: (I, oI) :: (s₁.heap.objs.size + 1 + 1 + 1 + 1, oS2) :: (TT, ({ cls := .type "tuple", data := .seq [Value.int 2 ta, Value.int 3 tb, Value.int 4 tc].toArray } : Obj)) :: (s₁.heap.objs.size + 1 + 1 + 1, o3) :: (s₁.heap.objs.size + 1 + 1, o2) :: (s₁.heap.objs.size + 1, o1) :: rest3 := .tail _ (.tail _ (.tail _ (.tail _ (.tail _ (.tail _ (.tail _ (.tail _ (.tail _ (.tail _ (hsub3 _ mCU))))))))))
  refine LCg.CompEnd.intro (by assumption) (by assumption) _ (fun p hp => hp) off5 (.inr ⟨_, hcuL, rfl, _, rfl⟩) ⟨rfl, ?_⟩
  have e : (dueL ks n)[i4]? = some (((n : Int) - 1) * many + (left.length : Int)) := by unfold dueL; rw [List.getElem?_map, hq4]; rfl
  rw [List.take_add_one, e, ← hvl4]
  exact hys.append (.cons _ _ .nil)
noncomputable def S_E22_g2 := fun (hStop1 : Keep (_ : Prop)) => (show Dom22 S_E15_done from by
  delta Dom22
  intros w s₀ s₁ mg mb fa GL T w1 w2 M w3 is w6 sc sv w8 hZ ra hr2 K0 qk1 ek1 P0 N0a x0 d0 h7 H0 h8 Gc o1 do1 o2 do2 o3 h1 hDL h pv pn nv nn cs hns ks hpi hcl hkl hok hlow gh ys zs hzl hzs h6 tk6 hdk AA
  intros h8 SS h1 CU cu b2 _ tk TT h18 ta tb tc i I oI h tk1 oS hIo QTo hQTo n tn hv nI4 oS2 dS2 PL z1 SP DT BX BD kX2 tX gs pvs pnn sps snn tf tl rest3 hsub3 hpt hrun mN3 mP3 mr9 ys hys DD h35 tk35 oN
  intros h36 tM F36 N36 hso hla h8a hM hMle _ _ _ tk
  w_top off
  obtain ⟨hjlt, hjl, hspl⟩ := runP_lt (by omega) hrun
  have hpl8 : pvs.length ≤ 8 := by
    rw [hpt.length, List.length_map]
    exact hjl
  refine r_AssignCompC (by with_unfolding_all rfl) (by with_unfolding_all rfl) rfl (by decide) ?_
  walk_at "go"
  rename Fr _ _ _ _ => F40
  rename News _ _ _ _ => N40
  have N41 := kst_newsOf (l' := (PL, liO pvs pnn) :: (SP, liO sps snn) :: (BX, instObj 182 BD) :: (BD, diO (PyData.keyHash w.params (Str.ofString "_headers")) tX PL 1) :: (I, oI) :: (s₁.heap.objs.size + 1 + 1 + 1 + 1, oS2) :: (TT, ({ cls := .type "tuple", data := .seq [Value.int 2 ta, Value.int 3 tb, Value.int 4 tc].toArray } : Obj)) :: (s₁.heap.objs.size + 1 + 1 + 1, o3) :: (s₁.heap.objs.size + 1 + 1, o2) :: (s₁.heap.objs.size + 1, o1) :: rest3) N40 (fun q hq => .tail _ hq)
  show wpAny _ _ (call (Value.ref 134) [Value.ref BX]) _ _ _
  refine c_keys (by assumption) F40 (by assumption) N41 (by assumption) rfl (by ktr_room) (by k_mem) (by k_mem) (.head _) (hpt.mono fun q hq => .tail _ (.tail _ (.tail _ (.tail _ (.tail _ (.tail _ (.tail _ (.tail _ (.tail _ (.tail _ hq)))))))))) (by rw [List.length_map]; omega) ?_
  intro DK yk h41 tk41 F41 N42 offK hyk
  clear F40 N40 N41
  walk_at "go"
  have hykl : yk.length = gs.1.length := by rw [hyk.length, List.length_map, List.length_map]
  refine r_compCL (vs := yk) (nn := yk.length) (fun i zs nx => zs.length = i ∧ nx = (DK, liO yk yk.length) :: (PL, liO pvs pnn) :: (SP, liO sps snn) :: (BX, instObj 182 BD) :: (BD, diO (PyData.keyHash w.params (Str.ofString "_headers")) tX PL 1) :: (I, oI) :: (s₁.heap.objs.size + 1 + 1 + 1 + 1, oS2) :: (TT, ({ cls := .type "tuple", data := .seq [Value.int 2 ta, Value.int 3 tb, Value.int 4 tc].toArray } : Obj)) :: (s₁.heap.objs.size + 1 + 1 + 1, o3) :: (s₁.heap.objs.size + 1 + 1, o2) :: (s₁.heap.objs.size + 1, o1) :: rest3 ∧ IntsAre zs ((gs.1.take i).map fun j => ((lastP ks j : Nat) : Int))) rfl (by rw [sizeLine_eq]; omega) (fun i ys nx ⟨_, e, _⟩ => e ▸ .head _) (fun _ _ _ h => h.1) (fun _ => rfl) (fun _ => rfl) rfl rfl F41 N42 ⟨rfl, rfl, .nil⟩ ?_ ?_
  · rintro i5 v5 zs nx I5 oI5 C5 oC5 c5 oc5 D5' m5 h5' tk5' E5 g5 hv5 ⟨hzl, rfl, hzs⟩ hC5 hoc5 F7 N7 off5 ne5
    obtain ⟨c6, t6, rfl, hc6⟩ := hyk.get hv5
    rw [List.getElem?_map, List.getElem?_map] at hc6
    obtain ⟨o4, ho4, hd⟩ := Option.map_eq_some_iff.mp hc6
    obtain ⟨j5, hj5, rfl⟩ := Option.map_eq_some_iff.mp ho4
    subst hd
    have hj8 := hjlt j5 (List.mem_of_getElem? hj5)
    have hc5ok : (prP cs ks j5).1 ∈ okL := hok _ (getDN_mem (by rw [hcl]; exact hj8))
    have hlow5 : lowc (prP cs ks j5).1 = 97 + ks.getD j5 0 := hlow j5 hj8
    clear F41 N42
    walk_at "go"
    rename Fr _ _ _ _ => F8
    rename News _ _ _ _ => N8
    refine LCt.CompSrcT.range (n := 8) rfl F8 N8 (by assumption) (by decide) (by rfl) (by rw [sizeLine_eq]; decide) fun gh => ?_
    dsimp only
    refine restT (n := 8) (fun j ws nx => nx = (I5, oI5) :: (C5, oC5) :: (c5, oc5) :: (D5', LCg.lst zs) :: (DK, liO yk yk.length) :: (PL, liO pvs pnn) :: (SP, liO sps snn) :: (BX, instObj 182 BD) :: (BD, diO (PyData.keyHash w.params (Str.ofString "_headers")) tX PL 1) :: (I, oI) :: (s₁.heap.objs.size + 1 + 1 + 1 + 1, oS2) :: (TT, ({ cls := .type "tuple", data := .seq [Value.int 2 ta, Value.int 3 tb, Value.int 4 tc].toArray } : Obj)) :: (s₁.heap.objs.size + 1 + 1 + 1, o3) :: (s₁.heap.objs.size + 1 + 1, o2) :: (s₁.heap.objs.size + 1, o1) :: rest3 ∧ IntsAre ws (((List.range j).filter fun (t : Nat) => ks.getD t 0 == ks.getD j5 0).map fun (t : Nat) => (t : Int))) ?_ ?_ _ 0 [] _ (Nat.zero_add _) ⟨rfl, .nil⟩
    · rintro j v2 ws nx I2' oI2' C2 oC2 D2 m2 h2 tk2 E2' hj8' hv2 ⟨rfl, hws⟩ hC2 hx2 F9 N9 off2 ne2
      obtain ⟨t2', rfl⟩ := hv2
      try clear F8
      try clear N8
      rw [Int.zero_add] at hx2
      have hpl : (ks.map fun (k : Nat) => (k : Int)).length = 8 := by rw [List.length_map, hkl]
      walk_at "go"
      all_goals (
        have g1 : ((ks.getD j 0 : Nat) : Int) = n' := by
          rw [Int.toNat_natCast, List.getElem?_map] at e'
          rw [List.getD_eq_getElem?_getD]
          cases hq : ks[j]? with
          | none => rw [hq] at e'; cases e'
          | some q => rw [hq] at e'; cases e'; rfl
        refine LCg.CompEnd.intro (by assumption) (by assumption) _ (fun p hp => hp) off2 trivial ⟨rfl, ?_⟩)
      · have he : n' = ((lowc (prP cs ks j5).1 : Nat) : Int) - 97 := by assumption
        have g2 : ks.getD j 0 = ks.getD j5 0 := by omega
        rw [List.range_succ, List.filter_append, List.map_append, List.filter_cons, if_pos (beq_iff_eq.mpr g2)]
        exact hws.append (.cons _ _ .nil)
      · have he : ¬ n' = ((lowc (prP cs ks j5).1 : Nat) : Int) - 97 := by assumption
        have g2 : ¬ ks.getD j 0 = ks.getD j5 0 := by omega
        rw [List.range_succ, List.filter_append, List.filter_cons, if_neg (by rw [beq_eq_false_iff_ne.mpr g2]; decide), List.filter_nil, List.append_nil]
        exact hws
    · rintro ws nx ⟨rfl, hws⟩
      try clear F8
      try clear N8
      unfold LCg.FinE
      intro D6 h7 tk7 F9 N9 o7
      walk_at "go"
      have hm5 : ((j5 : Nat) : Int) ∈ (((List.range 8).filter fun (t : Nat) => ks.getD t 0 == ks.getD j5 0).map fun (t : Nat) => (t : Int)) :=
        List.mem_map.mpr ⟨j5, List.mem_filter.mpr ⟨List.mem_range.mpr hj8, beq_self_eq_true _⟩, rfl⟩
      refine kso_max F9 N9 (N9.isList (.head _)) hws (List.length_pos_of_mem hm5) rfl ?_
      intro h8 M tM2 tk8 F10 N10 hM hMle
      obtain rfl := max_is hM hMle
      walk_at "go"
      refine CEnd.intro (by assumption) (by assumption) _ (fun q hq => ?_) off5 ⟨by rw [List.length_append, hzl]; rfl, rfl, ?_⟩
      · exact .tail _ hq
      · rw [List.take_add_one, hj5, List.map_append]
        exact hzs.append (.cons _ _ .nil)
  · rintro D5' C5 h5' tk5' m5 zs nx F7 N7 hD5 hn5 hC₀ hCL hDL hD₀ hCD hoC ⟨hzl, rfl, hzs⟩
    show compPost _ _ _ _ _ _ _ _ _
    refine compPostA (by rfl) (by rfl) (by exact F7) (by exact N7) hn5 hC₀ (by exact hCL) hCD hoC ?_
    intro h6 tk6 F8 N8
    revert N8 F8 tk6 h6 hoC hD5 N7 hzs hzl; clear hCD; clear hD₀; clear hDL; clear hCL; clear hC₀; clear hn5; revert F7 zs; clear m5; clear tk5'; revert h5' C5 D5' hykl; clear hyk; clear offK
    revert N42 F41 tk41 h41 yk DK hpl8; clear hspl; revert hjl hjlt tk; rename_i zzM; revert zzM; clear hMle; clear hM; revert h8a hla hso N36 F36 tM h36 oN tk35 h35 DD; clear hys; revert ys mr9; clear mP3
    revert mN3; clear hrun; revert hpt hsub3 rest3 tl tf snn sps pnn pvs gs tX kX2 BD BX DT SP z1 PL dS2 oS2 nI4 hv tn n hQTo QTo hIo oS tk1 h oI I i tc tb ta h18 TT tk; rename_i zzM; revert zzM
    revert b2 cu CU h1 SS; clear h8; revert AA hdk; clear tk6; clear h6; revert hzs; clear hzl; revert zs; clear ys; clear gh; clear hlow; revert hok; clear hkl; revert hcl; clear hpi
    revert ks hns cs nn nv; clear pn; clear pv; revert h; clear hDL; revert h1 o3 do2 o2; clear do1; revert o1 Gc; clear h8; revert H0; clear h7
    revert d0 x0 N0a P0 ek1 qk1 K0 hr2 ra hZ w8 sv sc w6 is w3 M w2 w1 T GL fa mb mg s₁ s₀ w
    exact hStop1.out)
end S_E23
section S_E24
theorem afresh46 : True := by w_top off; trivial
theorem tupsDat {news : List (Addr × Obj)} {vs : List Value} {ps : List (Nat × Nat)} (h : Tups news vs ps) : DatAll news vs (ps.map fun q => Dat.tuple [Dat.str (S1 q.1), Dat.str (S1 q.2)]) := by
  induction h with
  | nil => exact .nil
  | cons hm _ ih => exact .cons (.tuple (vs := [_, _]) hm (.cons (.str _ _) (.cons (.str _ _) .nil))) ih
theorem ok_lt {c : Nat} (h : c ∈ okL) : c < 200 := (by decide : ∀ c ∈ okL, c < 200) c h
noncomputable def S_E23_g3 := fun (hStop1 : Keep (_ : Prop)) (hStop2 : Keep (_ : Prop)) => (show Dom11 S_E22_g2 from by
  delta Dom11
  intros w s₀ s₁ mg mb fa GL T w1 w2 M w3 is w6 sc sv w8 hZ ra hr2 K0 qk1 ek1 P0 N0a x0 d0 H0 Gc o1 o2 do2 o3 h1 h nv nn cs hns ks hcl hok zs hzs hdk AA SS h1 CU cu b2 _ tk TT h18 ta tb tc i I oI h tk1
  intros oS hIo QTo hQTo n tn hv nI4 oS2 dS2 PL z1 SP DT BX BD kX2 tX gs pvs pnn sps snn tf tl rest3 hsub3 hpt mN3 mr9 ys DD h35 tk35 oN h36 tM F36 N36 hso hla h8a _ tk hjlt hjl hpl8 DK yk h41 tk41 F41
  intros N42 hykl D5' C5 h5' zs F7 hzl hzs N7 hD5 hoC h6 tk6 F8 N8
  w_top off
  rw [List.take_of_length_le (by omega)] at hzs
  have hid : (gs.1.map fun j => ((lastP ks j : Nat) : Int)) = gs.1.map fun (j : Nat) => (j : Int) := List.map_congr_left fun j hj => by rw [hla j hj]
  rw [hid] at hzs
  have hjle : gs.1.length ≤ 8 := hjl
  have hpair : (gs.1.map fun (j : Nat) => (j : Int)).Pairwise (· ≤ ·) := by
    rw [List.pairwise_map]
    exact (sortedN_pair hso).imp fun h => by omega
  have N9 := kst_newsOf (l' := (D5', LCg.lst zs) :: (PL, liO pvs pnn) :: (SP, liO sps snn) :: (BX, instObj 182 BD) :: (BD, diO (PyData.keyHash w.params (Str.ofString "_headers")) tX PL 1) :: (I, oI) :: (s₁.heap.objs.size + 1 + 1 + 1 + 1, oS2) :: (TT, ({ cls := .type "tuple", data := .seq [Value.int 2 ta, Value.int 3 tb, Value.int 4 tc].toArray } : Obj)) :: (s₁.heap.objs.size + 1 + 1 + 1, o3) :: (s₁.heap.objs.size + 1 + 1, o2) :: (s₁.heap.objs.size + 1, o1) :: rest3) N8 (by walk_at "sub")
  clear N8 N7 F7 hD5 hoC
  walk_at "go"
  refine kso_sorted F8 N9 (N9.isList (.head _)) hzs (by rw [List.length_map]; omega) ?_
  intro DS zs' ns' c9 h36 F36 N36 l36 hz' _ hperm hpair2 _
  obtain rfl := sorted_same hperm hpair2 hpair
  walk_at "go"
  rename Fr _ _ _ _ => F37
  rename News _ _ _ _ => N37
  refine ke_ne_ints (N37.isList (by k_mem)) (N37.isList (by k_mem)) hzs hz' (by k_units) ?_
  rw [decide_eq_true rfl]
  walk_at "go"
  rename Fr _ _ _ _ => F38
  rename News _ _ _ _ => N38
  have N39 := kst_newsOf (l' := (D5', LCg.lst zs) :: (PL, liO pvs pnn) :: (SP, liO sps snn) :: (BX, instObj 182 BD) :: (BD, diO (PyData.keyHash w.params (Str.ofString "_headers")) tX PL 1) :: (I, oI) :: (s₁.heap.objs.size + 1 + 1 + 1 + 1, oS2) :: (TT, ({ cls := .type "tuple", data := .seq [Value.int 2 ta, Value.int 3 tb, Value.int 4 tc].toArray } : Obj)) :: (s₁.heap.objs.size + 1 + 1 + 1, o3) :: (s₁.heap.objs.size + 1 + 1, o2) :: (s₁.heap.objs.size + 1, o1) :: rest3) N38 (fun q hq => .tail _ hq)
  clear N38 N9 N36
  show wpAny _ _ (call (Value.ref 134) [Value.ref BX]) _ _ _
  refine c_keys (by assumption) F38 (by assumption) N39 (by assumption) rfl (by ktr_room) (by k_mem) (by k_mem) (.tail _ (.head _)) (hpt.mono fun q hq => .tail _ (.tail _ (.tail _ (.tail _ (.tail _ (.tail _ (.tail _ (.tail _ (.tail _ (.tail _ (.tail _ hq))))))))))) (by rw [List.length_map]; omega) ?_
  intro DK2 yk2 h41 tk41 F41 N42 offK2 hyk2
  clear F38 N39
  walk_at "go"
  refine LCg.CompSrc.ledger (k := zs.length) rfl F41 N42 (.tail _ (.head _)) (by rw [sizeLine_eq, List.size_toArray]; omega) fun gh5 => ?_
  dsimp only
  refine restU (n := zs.toArray.size) (fun j ws nx => nx = (DK2, liO yk2 yk2.length) :: (D5', LCg.lst zs) :: (PL, liO pvs pnn) :: (SP, liO sps snn) :: (BX, instObj 182 BD) :: (BD, diO (PyData.keyHash w.params (Str.ofString "_headers")) tX PL 1) :: (I, oI) :: (s₁.heap.objs.size + 1 + 1 + 1 + 1, oS2) :: (TT, ({ cls := .type "tuple", data := .seq [Value.int 2 ta, Value.int 3 tb, Value.int 4 tc].toArray } : Obj)) :: (s₁.heap.objs.size + 1 + 1 + 1, o3) :: (s₁.heap.objs.size + 1 + 1, o2) :: (s₁.heap.objs.size + 1, o1) :: rest3 ∧ Strs ws ((gs.1.take j).map fun j => cs.getD j 0)) ?_ ?_ _ 0 [] _ (Nat.zero_add _) ⟨rfl, .nil⟩
  · rintro j v ws nx I4 oI4 C4 oC4 D4 m4 h4' tk4 E4 hj hv ⟨rfl, hws⟩ hC4 hx4 F7 N7 off4 ne4
    clear F41 N42
    have hjz : j < (gs.1.map fun (j : Nat) => (j : Int)).length := by rw [List.length_map]; have hjq : j < zs.length := (by simpa using hj); omega
    obtain ⟨t9, hv9⟩ := hzs.get j _ (List.getElem?_eq_getElem hjz)
    have hvj : zs[j]? = some v := by simpa using hv
    rw [hvj] at hv9
    cases hv9
    have hjg : j < gs.1.length := by rw [List.length_map] at hjz; exact hjz
    have hgj : gs.1[j]? = some gs.1[j] := List.getElem?_eq_getElem hjg
    have hg8 := hjlt _ (List.getElem_mem hjg)
    rw [List.getElem_map] at hx4
    walk_at "go"
    rw [Int.toNat_natCast]
    refine LCg.CompEnd.intro (by assumption) (by assumption) _ (fun p hp => hp) off4 (.inr ⟨_, .tail _ (.head _), rfl, _, rfl⟩) ⟨rfl, ?_⟩
    rw [List.take_add_one, hgj, List.map_append]
    exact hws.snoc
  · rintro ws nx ⟨rfl, hws⟩
    rw [List.take_of_length_le (by rw [List.size_toArray]; omega)] at hws
    clear F41 N42
    unfold LCg.FinE
    intro DN h35 tk35 F35 N35 oN
    rw [List.map_map] at hyk2
    have hdk : ∀ d ∈ ((gs.1.map fun j => cs.getD j 0).map fun d => Dat.str (S1 d)), kqdOk 8 d = true := by
      intro d hd
      obtain ⟨e, he, rfl⟩ := List.mem_map.mp hd
      obtain ⟨j, hj, rfl⟩ := List.mem_map.mp he
      exact str_fine _ (ok_lt (hok _ (getDN_mem (by rw [hcl]; exact hjlt j hj))))
    walk_at "go"
    refine kqd_ne (news := _) N35 (.tail _ (.head _)) rfl rfl (strsDat (news := []) (show Strs yk2 (gs.1.map fun j => cs.getD j 0) from hyk2)) (fun _ h => nomatch h) (.head _) rfl rfl (strsDat (news := []) hws) (fun _ h => nomatch h) hdk hdk (by k_units) ?_
    rw [dec_refl]
    walk_at "go"
    have N44 := kst_newsOf (l' := (D5', LCg.lst zs) :: (PL, liO pvs pnn) :: (SP, liO sps snn) :: (BX, instObj 182 BD) :: (BD, diO (PyData.keyHash w.params (Str.ofString "_headers")) tX PL 1) :: (I, oI) :: (s₁.heap.objs.size + 1 + 1 + 1 + 1, oS2) :: (TT, ({ cls := .type "tuple", data := .seq [Value.int 2 ta, Value.int 3 tb, Value.int 4 tc].toArray } : Obj)) :: (s₁.heap.objs.size + 1 + 1 + 1, o3) :: (s₁.heap.objs.size + 1 + 1, o2) :: (s₁.heap.objs.size + 1, o1) :: rest3) N35 (fun q hq => .tail _ (.tail _ hq))
    clear N35
    show wpAny _ _ (call (Value.ref 146) [Value.ref BX]) _ _ _
    refine c_items (by assumption) F35 (by assumption) N44 (by assumption) rfl (by ktr_room) (by k_mem) (by k_mem) (.tail _ (.head _)) (by omega) ?_
    intro DI h45 tk45 F45 N45
    clear F35 N44
    have hpt2 : Tups ((DI, liO pvs 0) :: (D5', LCg.lst zs) :: (PL, liO pvs pnn) :: (SP, liO sps snn) :: (BX, instObj 182 BD) :: (BD, diO (PyData.keyHash w.params (Str.ofString "_headers")) tX PL 1) :: (I, oI) :: (s₁.heap.objs.size + 1 + 1 + 1 + 1, oS2) :: (TT, ({ cls := .type "tuple", data := .seq [Value.int 2 ta, Value.int 3 tb, Value.int 4 tc].toArray } : Obj)) :: (s₁.heap.objs.size + 1 + 1 + 1, o3) :: (s₁.heap.objs.size + 1 + 1, o2) :: (s₁.heap.objs.size + 1, o1) :: rest3) pvs (gs.1.map (prP cs ks)) := hpt.mono fun q hq => .tail _ (.tail _ (.tail _ (.tail _ (.tail _ (.tail _ (.tail _ (.tail _ (.tail _ (.tail _ (.tail _ (.tail _ hq)))))))))))
    have hdt : ∀ d ∈ ((gs.1.map (prP cs ks)).map fun q => Dat.tuple [Dat.str (S1 q.1), Dat.str (S1 q.2)]), kqdOk 8 d = true := by
      intro d hd
      obtain ⟨e, he, rfl⟩ := List.mem_map.mp hd
      obtain ⟨j, hj, rfl⟩ := List.mem_map.mp he
      have h1 := str_fine _ (ok_lt (hok _ (getDN_mem (l := cs) (i := j) (by rw [hcl]; exact hjlt j hj))))
      have h2 := str_fine (48 + aN ks j) (by rw [h8a j hj]; decide)
      show [Dat.str (S1 (cs.getD j 0)), Dat.str (S1 (48 + aN ks j))].all (kqdOk 7) = true
      simp only [List.all_cons, List.all_nil, Bool.and_true, kqdOk, h1, h2]
    walk_at "go"
    refine kqd_ne (news := _) N45 (by k_mem) rfl rfl (tupsDat hpt2) (fun _ h => h) (.head _) rfl rfl (tupsDat hpt2) (fun _ h => h) hdt hdt (by k_units) ?_
    rw [dec_refl]
    walk_at "go"
    rename Fr _ _ _ _ => F46
    have N46 := kst_newsOf (l' := (D5', LCg.lst zs) :: (PL, liO pvs pnn) :: (SP, liO sps snn) :: (BX, instObj 182 BD) :: (BD, diO (PyData.keyHash w.params (Str.ofString "_headers")) tX PL 1) :: (I, oI) :: (s₁.heap.objs.size + 1 + 1 + 1 + 1, oS2) :: (TT, ({ cls := .type "tuple", data := .seq [Value.int 2 ta, Value.int 3 tb, Value.int 4 tc].toArray } : Obj)) :: (s₁.heap.objs.size + 1 + 1 + 1, o3) :: (s₁.heap.objs.size + 1 + 1, o2) :: (s₁.heap.objs.size + 1, o1) :: rest3) N45 (fun q hq => .tail _ hq)
    clear N45
    refine LCg.CompSrc.ledger (k := zs.length) rfl F46 N46 (.head _) (by rw [sizeLine_eq, List.size_toArray]; omega) fun gh6 => ?_
    dsimp only
    refine restU (n := zs.toArray.size) (fun j ws nx => ∃ rest4, nx = (D5', LCg.lst zs) :: (PL, liO pvs pnn) :: (SP, liO sps snn) :: (BX, instObj 182 BD) :: (BD, diO (PyData.keyHash w.params (Str.ofString "_headers")) tX PL 1) :: (I, oI) :: (s₁.heap.objs.size + 1 + 1 + 1 + 1, oS2) :: (TT, ({ cls := .type "tuple", data := .seq [Value.int 2 ta, Value.int 3 tb, Value.int 4 tc].toArray } : Obj)) :: (s₁.heap.objs.size + 1 + 1 + 1, o3) :: (s₁.heap.objs.size + 1 + 1, o2) :: (s₁.heap.objs.size + 1, o1) :: rest4 ∧ (∀ q ∈ rest3, q ∈ rest4) ∧ Tups rest4 ws ((gs.1.take j).map fun j => (cs.getD j 0, 56))) ?_ ?_ _ 0 [] _ (Nat.zero_add _) ⟨rest3, rfl, fun _ h => h, .nil⟩
    · intro j v ws nx I4 oI4 C4 oC4 D4 m4 h4' tk4 E4 hj hv zzh; refine cps fun zzX zzk => ?_
      obtain ⟨rest4, rfl, hsub4, hws⟩ := zzh
      refine zzk ?_; clear zzk zzX
      intro hC4 hx4 F7 N7 off4 ne4
      clear F46 N46
      have mN4 := hsub4 _ mN3
      have hjz : j < (gs.1.map fun (j : Nat) => (j : Int)).length := by rw [List.length_map]; have hjq : j < zs.length := (by simpa using hj); omega
      obtain ⟨t9, hv9⟩ := hzs.get j _ (List.getElem?_eq_getElem hjz)
      have hvj : zs[j]? = some v := by simpa using hv
      rw [hvj] at hv9
      cases hv9
      have hjg : j < gs.1.length := by rw [List.length_map] at hjz; exact hjz
      have hgj : gs.1[j]? = some gs.1[j] := List.getElem?_eq_getElem hjg
      have hg8 := hjlt _ (List.getElem_mem hjg)
      rw [List.getElem_map] at hx4
      walk_at "go"

      rename_i zzM; revert zzM; rename_i zzM; revert zzM; rename_i zzM; revert zzM; rename_i zzM; revert zzM; rename_i zzM; revert zzM; revert t'; clear hg8; revert hgj hjg; clear hvj; clear hx4; clear hv
      clear t9; revert hjz; clear mN4; clear ne4; revert off4; clear hC4; revert hws hsub4 rest4; clear hj; clear E4; revert tk4 h4'; clear m4; revert D4 oC4 C4 oI4 I4 ws j; clear gh6; clear hdt; clear hpt2
      clear tk45; clear h45; clear DI; clear hdk; clear oN; clear tk35; clear h35; clear DN; revert hws ws; clear gh5; clear hyk2; clear offK2; clear tk41; clear h41; clear yk2; clear DK2; rename_i zzM
      clear zzM; clear hpair2; clear hperm; rename_i zzM; clear zzM; clear hz'; clear l36; clear h36; clear c9; clear zs'; clear DS; clear hpair; clear hjle; clear hid; clear F8; clear tk6; clear h6
      clear hzs; clear hzl; revert zs; clear h5'; clear C5; revert D5'; clear hykl; clear tk41; clear h41; clear yk; clear DK; clear hpl8; clear hjl; clear hjlt; clear tk; rename_i zzM; clear zzM; clear h8a
      clear hla; clear hso; clear F36; revert tM; clear h36; clear oN; clear tk35; clear h35; clear DD; clear ys; revert mr9; clear mN3; clear hpt; clear hsub3; revert rest3 tl tf snn sps pnn pvs gs tX
      clear kX2; revert BD BX; clear DT; revert SP; clear z1; revert PL; clear dS2; revert oS2; clear nI4; clear hv; clear tn; clear n; clear hQTo; clear QTo; clear hIo; clear oS; clear tk1; revert h oI I
      clear i; revert tc tb ta; clear h18; revert TT; clear tk; rename_i zzM; clear zzM; clear b2; clear cu; revert CU; clear h1; revert SS AA; clear hdk; clear hzs; revert zs; clear hok; clear hcl; clear ks
      clear hns; revert cs; clear nn; clear nv; revert h; clear h1; revert o3; clear do2; revert o2 o1 Gc; clear H0; clear d0; clear x0; clear N0a; clear P0; clear ek1; clear qk1; clear K0
      revert hr2 ra hZ w8 sv sc w6 is; clear w3; revert M w2 w1 T GL; clear fa; revert mb mg s₁ s₀ w
      exact hStop1.out
    · intro ws nx zzh; refine cps fun zzX zzk => ?_
      obtain ⟨rest4, rfl, hsub4, hws⟩ := zzh
      refine zzk ?_; clear zzk zzX
      rw [List.take_of_length_le (by rw [List.size_toArray]; omega)] at hws
      clear F46 N46
      unfold LCg.FinE
      intro DN2 h47 tk47 F47 N47 oN2
      walk_at "go"
      clear oN2; revert N47 F47 tk47 h47 DN2 hws hsub4 rest4 ws gh6 hdt; clear hpt2; revert tk45; clear h45; clear DI; clear hdk; clear oN; clear tk35; clear h35; clear DN; revert hws ws; clear gh5
      clear hyk2; clear offK2; clear tk41; clear h41; clear yk2; clear DK2; rename_i zzM; clear zzM; clear hpair2; clear hperm; rename_i zzM; clear zzM; clear hz'; clear l36; clear h36; clear c9; clear zs'
      clear DS; clear hpair; clear hjle; clear hid; clear F8; clear tk6; clear h6; clear hzs; clear hzl; revert zs; clear h5'; clear C5; revert D5'; clear hykl; clear N42; clear F41; clear tk41; clear h41
      clear yk; clear DK; clear hpl8; clear hjl; clear hjlt; clear tk; rename_i zzM; clear zzM; revert h8a; clear hla; clear hso; clear F36; revert tM; clear h36; clear oN; clear tk35; clear h35; clear DD
      clear ys; revert mr9; clear mN3; revert hpt hsub3 rest3 tl tf snn sps pnn pvs gs tX; clear kX2; revert BD BX; clear DT; revert SP; clear z1; revert PL dS2 oS2 nI4; clear hv
      revert tn n hQTo QTo hIo oS tk1 h oI I; clear i; revert tc tb ta h18 TT tk; rename_i zzM; revert zzM; revert b2; clear cu; revert CU; clear h1; revert SS AA; clear hdk; clear hzs; clear zs; clear hok
      clear hcl; revert ks; clear hns; revert cs; clear nn; clear nv; revert h; clear h1; revert o3; clear do2; revert o2 o1 Gc; clear H0; clear d0; clear x0; clear N0a; clear P0; revert ek1 qk1; clear K0
      revert hr2 ra hZ w8 sv sc w6 is w3 M w2 w1 T GL fa mb mg s₁ s₀ w
      exact hStop2.out)
end S_E24
section S_E25
theorem afresh47 : True := by w_top off; trivial
theorem mem_mid {α : Type} {x : α} : ∀ {pre post : List α} {p : α}, p ∈ pre ++ x :: post → p = x ∨ p ∈ pre ++ post := by
  intro pre post p hp
  rcases List.mem_append.mp hp with h | h
  · exact .inr (List.mem_append_left _ h)
  · rcases List.mem_cons.mp h with h | h
    · exact .inl h
    · exact .inr (List.mem_append_right _ h)
theorem S_E24_g1 : Dom21 S_E23_g3 := by
  delta Dom21
  intros w s₀ s₁ mg mb GL T w1 w2 M is w6 sc sv w8 hZ ra hr2 Gc o1 o2 o3 h cs zs AA SS CU TT ta tb tc I oI h oS2 PL SP BX BD tX gs pvs pnn sps snn tf tl rest3 mr9 tM D5' zs ws hws j ws I4 oI4 C4 oC4 D4
  intros h4' tk4 rest4 hsub4 hws off4 hjz hjg hgj t' _ _ _ _ _
  w_top off
  rename Fr _ _ _ _ => F50
  rename News _ _ _ _ => N50
  rename_i Dx hx9 lx
  have h8s : Str.ofString "8" = S1 56 := by decide +kernel
  rw [Int.toNat_natCast, h8s] at N50
  refine cps fun zzX zzk => ?_
  obtain ⟨u1, u2, N51⟩ : ∃ u1 u2, News s₁.heap s₁.heap.objs.size _ ((Dx, prO (.str (S1 (cs.getD gs.1[j] 0)) u1) (.str (S1 56) u2)) :: (I4, oI4) :: (C4, oC4) :: (D4, LCg.lst ws) :: (D5', LCg.lst zs) :: (PL, liO pvs pnn) :: (SP, liO sps snn) :: (BX, instObj 182 BD) :: (BD, diO (PyData.keyHash w.params (Str.ofString "_headers")) tX PL 1) :: (I, oI) :: (s₁.heap.objs.size + 1 + 1 + 1 + 1, oS2) :: (TT, ({ cls := .type "tuple", data := .seq [Value.int 2 ta, Value.int 3 tb, Value.int 4 tc].toArray } : Obj)) :: (s₁.heap.objs.size + 1 + 1 + 1, o3) :: (s₁.heap.objs.size + 1 + 1, o2) :: (s₁.heap.objs.size + 1, o1) :: rest4) := ⟨_, _, N50⟩
  refine zzk ?_; clear zzk zzX
  clear N50
  have hoff := off4.mem
  refine LCg.CompEnd.intro F50 N51 ((D5', LCg.lst zs) :: (PL, liO pvs pnn) :: (SP, liO sps snn) :: (BX, instObj 182 BD) :: (BD, diO (PyData.keyHash w.params (Str.ofString "_headers")) tX PL 1) :: (I, oI) :: (s₁.heap.objs.size + 1 + 1 + 1 + 1, oS2) :: (TT, ({ cls := .type "tuple", data := .seq [Value.int 2 ta, Value.int 3 tb, Value.int 4 tc].toArray } : Obj)) :: (s₁.heap.objs.size + 1 + 1 + 1, o3) :: (s₁.heap.objs.size + 1 + 1, o2) :: (s₁.heap.objs.size + 1, o1) :: (Dx, prO (.str (S1 (cs.getD gs.1[j] 0)) u1) (.str (S1 56) u2)) :: rest4) (fun p hp => ?_) (LCg.Off3.of fun p hp => ?_) (.inr ⟨_, .head _, rfl, _, rfl⟩) ⟨(Dx, prO (.str (S1 (cs.getD gs.1[j] 0)) u1) (.str (S1 56) u2)) :: rest4, rfl, fun q hq => .tail _ (hsub4 q hq), ?_⟩
  · rcases mem_mid (pre := (I4, oI4) :: (C4, oC4) :: (D4, LCg.lst ws) :: (D5', LCg.lst zs) :: (PL, liO pvs pnn) :: (SP, liO sps snn) :: (BX, instObj 182 BD) :: (BD, diO (PyData.keyHash w.params (Str.ofString "_headers")) tX PL 1) :: (I, oI) :: (s₁.heap.objs.size + 1 + 1 + 1 + 1, oS2) :: (TT, ({ cls := .type "tuple", data := .seq [Value.int 2 ta, Value.int 3 tb, Value.int 4 tc].toArray } : Obj)) :: (s₁.heap.objs.size + 1 + 1 + 1, o3) :: (s₁.heap.objs.size + 1 + 1, o2) :: (s₁.heap.objs.size + 1, o1) :: []) (post := rest4) hp with h | h
    · rw [h]; exact .head _
    · exact .tail _ h
  · rcases mem_mid (pre := (D5', LCg.lst zs) :: (PL, liO pvs pnn) :: (SP, liO sps snn) :: (BX, instObj 182 BD) :: (BD, diO (PyData.keyHash w.params (Str.ofString "_headers")) tX PL 1) :: (I, oI) :: (s₁.heap.objs.size + 1 + 1 + 1 + 1, oS2) :: (TT, ({ cls := .type "tuple", data := .seq [Value.int 2 ta, Value.int 3 tb, Value.int 4 tc].toArray } : Obj)) :: (s₁.heap.objs.size + 1 + 1 + 1, o3) :: (s₁.heap.objs.size + 1 + 1, o2) :: (s₁.heap.objs.size + 1, o1) :: []) (post := rest4) hp with h | h
    · rw [h]
      exact ⟨Nat.ne_of_gt lx.1, Nat.ne_of_gt lx.2.1, Nat.ne_of_gt lx.2.2.1⟩
    · exact hoff p h
  · rw [List.take_add_one, hgj, List.map_append]
    exact (hws.mono fun q hq => .tail _ hq).snoc (t1 := u1) (t2 := u2) (.head _)
theorem S_E24_g2 : Dom22 S_E23_g3 := by
  delta Dom22
  intros w s₀ s₁ mg mb fa GL T w1 w2 M w3 is w6 sc sv w8 hZ ra hr2 qk1 ek1 Gc o1 o2 o3 h cs ks AA SS CU b2 _ tk TT h18 ta tb tc I oI h tk1 oS hIo QTo hQTo n tn nI4 oS2 dS2 PL SP BX BD tX gs pvs pnn sps
  intros snn tf tl rest3 hsub3 hpt mr9 tM h8a D5' zs ws hws tk45 hdt gh6 ws rest4 hsub4 hws DN2 h47 tk47 F47 N47
  w_top off
  have hm56 : (gs.1.map fun j => (cs.getD j 0, 56)) = gs.1.map (prP cs ks) := List.map_congr_left fun j hj => by unfold prP; rw [h8a j hj]
  rw [hm56] at hws
  refine kqd_ne (news := _) N47 (.tail _ (.tail _ (.head _))) rfl rfl (tupsDat (hpt.mono hsub4)) (fun q hq => ?_) (.head _) rfl rfl (tupsDat hws) (fun q hq => ?_) hdt hdt (by k_units) ?_
  · have h := hq
    exact .tail _ (.tail _ (.tail _ (.tail _ (.tail _ (.tail _ (.tail _ (.tail _ (.tail _ (.tail _ (.tail _ (.tail _ h)))))))))))
  · have h := hq
    exact .tail _ (.tail _ (.tail _ (.tail _ (.tail _ (.tail _ (.tail _ (.tail _ (.tail _ (.tail _ (.tail _ (.tail _ h)))))))))))
  rw [dec_refl]
  walk_at "go"
  rename Fr _ _ _ _ => F50
  subst hQTo
  dsimp only [MTurn]
  refine MEnd.intro F50 N47 ((s₁.heap.objs.size + 1 + 1 + 1 + 1, oS2) :: (TT, ({ cls := .type "tuple", data := .seq [Value.int 2 ta, Value.int 3 tb, Value.int 4 tc].toArray } : Obj)) :: (s₁.heap.objs.size + 1 + 1 + 1, o3) :: (s₁.heap.objs.size + 1 + 1, o2) :: (s₁.heap.objs.size + 1, o1) :: b2) (by k_mem) (subC (by k_mem) (subC (by k_mem) (subC (by k_mem) (subC (by k_mem) (subC (by k_mem) fun q hq => by have h := hsub4 _ (hsub3 _ hq); k_mem))))) (fun q hq => ?_) ⟨oS2, rfl, ⟨_, dS2⟩, rfl, rfl, rfl, trivial⟩
  · rcases List.mem_cons.mp hq with rfl | hq
    · exact Ne.symm nI4
    · exact hIo q (.tail _ hq)
end S_E25
section S_E26
theorem afresh48 : True := by w_top off; trivial
theorem S_E14_done : Dom22 S_E13_g1 := by
  delta Dom22
  intros w s₀ s₁ mg mb G Y fa o pm doc ho hg KX X V GL T B TE TW w1 w2 M w3 w4 hcd is hs hlay0 hL hr hl2 w5 w6 sc sv w8 hZ ra w1' r0 hI hr2 hsl hcond' K0 hD h₁ tk₁ c1 c2 c3 c4 dc1 dc2 dc3 dc4 qk1 ek1 P0
  intros h60 N0a h63 x0 d0 h66 l67 g7 L7 h7 tkA H0 h8 h9a tkB h10 tkC h9 tk9 Gc kX D0 h88 h91 h92 o1 do1 h95 o2 do2 h98 o3 do3 tk D1 h1 DL hDL D3 h3 h4 m₁ h tk9 hv' hn pv pn nv nn dc4 z4 aPN aNd adx axH
  intros cs hns ks hpi hcl hkl hok hk4 hlow bl _ hok2 _ _ _ _ _ _ _ gh ys hys D h3 tk3 _ _ _ _ _ _ _ D5 C h5 tk5 m' zs hzl hzs h6 tk6 hfm hdk AA h8 SS h9a D8 h10 h11 F11 N11 h12 h13 tk hSA hA4 hS4 _ _ _
  intros _ _ _ _ m₁ h1 tk1 av an sv' sn hm1 hav hsv hab mr CU cu cn rest h15 tk15 b2 mAA mSS mHH mPP mNN mxx mdd mCU f4 f3 f2 f1 hT2 hcu2 N16 _ tk TT h18 F17 l18 hT4 hTb ta tb tc N18 m₁ h tk1 oS hm2 cS
  intros dS F1 N1
  w_top off
  walk_at "go"
end S_E26
end R_5_3
end G_5
theorem law_holds : PySem.Challenge.rw_pm0060_01.Holds := (S_law ⟨(S_E1_g1 ⟨(S_E2_g1 ⟨(S_E3_g1 ⟨S_E4_g1⟩ ⟨S_E4_g2⟩)⟩)⟩ ⟨(S_E2_done ⟨(S_E6_g1 ⟨(S_E7_g3 ⟨(S_E8_g2 ⟨(S_E9_g1 ⟨(S_E10_g1 ⟨S_E11_g1⟩)⟩ ⟨(S_E10_done ⟨(S_E13_g1 ⟨(S_E14_g1 ⟨(S_E15_g1 ⟨S_E16_g1⟩ ⟨S_E16_g2⟩ ⟨S_E16_g3⟩ ⟨(S_E16_g4 ⟨(S_E18_g1 ⟨(S_E19_g1 ⟨S_E20_g1⟩ ⟨S_E20_g2⟩)⟩)⟩)⟩)⟩ ⟨(S_E15_done ⟨S_E22_g1⟩ ⟨(S_E22_g2 ⟨(S_E23_g3 ⟨S_E24_g1⟩ ⟨S_E24_g2⟩)⟩)⟩)⟩)⟩ ⟨S_E14_done⟩)⟩)⟩)⟩)⟩)⟩)⟩)⟩)⟩)
end Mine

theorem PySem.Challenge.cw_pm0060_01_holds : PySem.Challenge.rw_pm0060_01.Holds :=
  Mine.law_holds
