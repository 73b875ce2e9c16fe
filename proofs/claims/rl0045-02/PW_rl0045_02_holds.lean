import PyProof.Rows.All
import Wide.All
import OpenK.AllK
import Wide.FinOn
import Lean
import PySem.Challenge.RW_rl0045_02
open PySem PySem.W PySem.Calls PyProof.Rows
set_option Elab.async false
set_option linter.all false
set_option maxRecDepth 100000
set_option maxHeartbeats 8000000
set_option rowWalk.seconds 0
set_option compiler.extract_closed false
namespace Mine
open_top hd2 for PySem.Challenge.rw_rl0045_02
end Mine

namespace Mine
/-! small steps of arithmetic: short terms in place of omega's -/
theorem zu1 {x c : Int} {n : Nat} (h : x ≤ OfNat.ofNat n) (k : (OfNat.ofNat n : Int) ≤ c) : x ≤ c := Int.le_trans h k
theorem zu2 {x c : Int} {n : Nat} (h : x ≤ OfNat.ofNat n) (k : (OfNat.ofNat n : Int) < c) : x < c := Int.lt_of_le_of_lt h k
theorem zu3 {x c : Int} {n : Nat} (h : x < OfNat.ofNat n) (k : (OfNat.ofNat n : Int) ≤ c) : x < c := Int.lt_of_lt_of_le h k
theorem zu4 {x c : Int} {n : Nat} (h : x < OfNat.ofNat n) (k : (OfNat.ofNat n : Int) ≤ c + 1) : x ≤ c := Int.le_of_lt_add_one (Int.lt_of_lt_of_le h k)
theorem zd1 {x c : Int} {n : Nat} (h : OfNat.ofNat n ≤ x) (k : c ≤ (OfNat.ofNat n : Int)) : c ≤ x := Int.le_trans k h
theorem zd2 {x c : Int} {n : Nat} (h : OfNat.ofNat n ≤ x) (k : c < (OfNat.ofNat n : Int)) : c < x := Int.lt_of_lt_of_le k h
theorem zd3 {x c : Int} {n : Nat} (h : OfNat.ofNat n < x) (k : c ≤ (OfNat.ofNat n : Int)) : c < x := Int.lt_of_le_of_lt k h
theorem zd4 {x c : Int} {n : Nat} (h : OfNat.ofNat n < x) (k : c ≤ (OfNat.ofNat n : Int)) : c ≤ x := Int.le_of_lt (Int.lt_of_le_of_lt k h)
theorem zm1 {x c : Nat} {n : Nat} (h : x ≤ OfNat.ofNat n) (k : (OfNat.ofNat n : Nat) ≤ c) : x ≤ c := Nat.le_trans h k
theorem zm2 {x c : Nat} {n : Nat} (h : x ≤ OfNat.ofNat n) (k : (OfNat.ofNat n : Nat) < c) : x < c := Nat.lt_of_le_of_lt h k
theorem zm3 {x c : Nat} {n : Nat} (h : x < OfNat.ofNat n) (k : (OfNat.ofNat n : Nat) ≤ c) : x < c := Nat.lt_of_lt_of_le h k
theorem zm4 {x c : Nat} {n : Nat} (h : x < OfNat.ofNat n) (k : (OfNat.ofNat n : Nat) ≤ c) : x ≤ c := Nat.le_of_lt (Nat.lt_of_lt_of_le h k)
-- a natural number as an integer
theorem zc1 {x n : Nat} {c : Int} (h : x ≤ n) (k : (n : Int) ≤ c) : (x : Int) ≤ c := Int.le_trans (Int.ofNat_le.mpr h) k
theorem zc2 {x n : Nat} {c : Int} (h : x ≤ n) (k : (n : Int) < c) : (x : Int) < c := Int.lt_of_le_of_lt (Int.ofNat_le.mpr h) k
theorem zc3 {x n : Nat} {c : Int} (h : x < n) (k : (n : Int) ≤ c) : (x : Int) < c := Int.lt_of_lt_of_le (Int.ofNat_lt.mpr h) k
theorem zc4 {x : Nat} {c : Int} (k : c ≤ 0) : c ≤ (x : Int) := Int.le_trans k (Int.natCast_nonneg x)
theorem zc5 {x : Int} {n c : Nat} (h : x ≤ OfNat.ofNat n) (k : (OfNat.ofNat n : Int) ≤ (c : Int)) : x.toNat ≤ c := Int.toNat_le.mpr (Int.le_trans h k)
-- room and units
theorem zr1 {n a b R : Nat} (h : n + a < R) (k : b ≤ a) : n + b < R := Nat.lt_of_le_of_lt (Nat.add_le_add_left k n) h
theorem zr2 {n a b c R : Nat} (h : n + a < R) (k : b + c ≤ a) : n + b + c < R := by rw [Nat.add_assoc]; exact zr1 h k
theorem zr3 {n a R : Nat} (h : n + a < R) : n < R := Nat.lt_of_le_of_lt (Nat.le_add_right n a) h
-- places
theorem zs1 {n q : Nat} (h : n + 1 < q) : n < q := Nat.lt_of_succ_lt h
theorem zs2 {n q : Nat} (h : n + 1 + 1 < q) : n < q := zs1 (zs1 h)
theorem zs3 {n q : Nat} (h : n + 1 + 1 + 1 < q) : n < q := zs1 (zs2 h)
theorem zs4 {n q : Nat} (h : n + 1 + 1 + 1 + 1 < q) : n < q := zs1 (zs3 h)
theorem zp1 {n q : Nat} (h : n < q) : n < q + 1 := Nat.lt_succ_of_lt h
theorem zp2 {n q : Nat} (h : n < q) : n < q + 1 + 1 := zp1 (zp1 h)
theorem zp3 {n q : Nat} (h : n < q) : n < q + 1 + 1 + 1 := zp1 (zp2 h)
theorem zp4 {n q : Nat} (h : n < q) : n < q + 1 + 1 + 1 + 1 := zp1 (zp3 h)
theorem zo1 {n : Nat} : n < n + 1 := Nat.lt_succ_self n
theorem zo2 {n : Nat} : n < n + 1 + 1 := zp1 zo1
theorem zo3 {n : Nat} : n < n + 1 + 1 + 1 := zp1 zo2
theorem zo4 {n : Nat} : n < n + 1 + 1 + 1 + 1 := zp1 zo3
theorem zngt {a b : Nat} (h : b < a) : a ≠ b := Nat.ne_of_gt h
theorem znlt {a b : Nat} (h : a < b) : a ≠ b := Nat.ne_of_lt h
theorem zint_ne_lo {x c : Int} (h : c < x) : x ≠ c := Ne.symm (Int.ne_of_lt h)
theorem zint_ne_hi {x c : Int} (h : x < c) : x ≠ c := Int.ne_of_lt h
-- a tuple taken apart at once
theorem pr2 {α β : Type} {P : α × β → Prop} (h : ∀ a b, P (a, b)) : ∀ c, P c := fun c => h c.1 c.2
theorem pr3 {α β γ : Type} {P : α × β × γ → Prop} (h : ∀ a b c, P (a, b, c)) : ∀ c, P c := fun c => h c.1 c.2.1 c.2.2
theorem pr4 {α β γ δ : Type} {P : α × β × γ × δ → Prop} (h : ∀ a b c d, P (a, b, c, d)) : ∀ c, P c := fun c => h c.1 c.2.1 c.2.2.1 c.2.2.2
theorem pr5 {α β γ δ ε : Type} {P : α × β × γ × δ × ε → Prop} (h : ∀ a b c d e, P (a, b, c, d, e)) : ∀ c, P c := fun c => h c.1 c.2.1 c.2.2.1 c.2.2.2.1 c.2.2.2.2
end Mine
local macro_rules | `(tactic| infer_instance) => `(tactic| first | exact (by with_reducible assumption : _ ∧ _).1 | exact (by with_reducible assumption : _ ∧ _).2 | exact (by with_reducible assumption : _ ∧ _ ∧ _).2.1 | exact (by with_reducible assumption : _ ∧ _ ∧ _).2.2 | exact (by with_reducible assumption : _ ∧ _ ∧ _ ∧ _).2.2.1 | exact (by with_reducible assumption : _ ∧ _ ∧ _ ∧ _).2.2.2 | exact (by with_reducible assumption : _ ∧ _ ∧ _ ∧ _ ∧ _).2.2.2.1 | exact (by with_reducible assumption : _ ∧ _ ∧ _ ∧ _ ∧ _).2.2.2.2 | exact (by with_reducible assumption : _ ∧ _ ∧ _ ∧ _ ∧ _ ∧ _).2.2.2.2.1 | exact (by with_reducible assumption : _ ∧ _ ∧ _ ∧ _ ∧ _ ∧ _).2.2.2.2.2 | exact (by with_reducible assumption : _ ∧ _ ∧ _ ∧ _ ∧ _ ∧ _ ∧ _).2.2.2.2.2.1 | exact (by with_reducible assumption : _ ∧ _ ∧ _ ∧ _ ∧ _ ∧ _ ∧ _).2.2.2.2.2.2 | exact (by with_reducible assumption : _ ∧ _ ∧ _ ∧ _ ∧ _ ∧ _ ∧ _ ∧ _).2.2.2.2.2.2.1 | exact (by with_reducible assumption : _ ∧ _ ∧ _ ∧ _ ∧ _ ∧ _ ∧ _ ∧ _).2.2.2.2.2.2.2 | exact (by with_reducible assumption : _ ∧ _ ∧ _ ∧ _ ∧ _ ∧ _ ∧ _ ∧ _ ∧ _).2.2.2.2.2.2.2.1 | exact (by with_reducible assumption : _ ∧ _ ∧ _ ∧ _ ∧ _ ∧ _ ∧ _ ∧ _ ∧ _).2.2.2.2.2.2.2.2 | exact (by with_reducible assumption : _ ∧ _ ∧ _ ∧ _ ∧ _ ∧ _ ∧ _ ∧ _ ∧ _ ∧ _).2.2.2.2.2.2.2.2.1 | exact (by with_reducible assumption : _ ∧ _ ∧ _ ∧ _ ∧ _ ∧ _ ∧ _ ∧ _ ∧ _ ∧ _).2.2.2.2.2.2.2.2.2 | exact (by with_reducible assumption : _ ∧ _ ∧ _ ∧ _ ∧ _ ∧ _ ∧ _ ∧ _ ∧ _ ∧ _ ∧ _).2.2.2.2.2.2.2.2.2.2 | exact (by with_reducible assumption : _ ∧ _ ∧ _ ∧ _ ∧ _ ∧ _ ∧ _ ∧ _ ∧ _ ∧ _ ∧ _ ∧ _).2.2.2.2.2.2.2.2.2.2.2 | exact (by with_reducible assumption : _ ∧ _ ∧ _ ∧ _ ∧ _ ∧ _ ∧ _ ∧ _ ∧ _ ∧ _ ∧ _ ∧ _ ∧ _).2.2.2.2.2.2.2.2.2.2.2.2 | exact (by with_reducible assumption : _ ∧ _ ∧ _ ∧ _ ∧ _ ∧ _ ∧ _ ∧ _ ∧ _ ∧ _ ∧ _ ∧ _ ∧ _ ∧ _).2.2.2.2.2.2.2.2.2.2.2.2.2 | exact (by with_reducible assumption : _ ∧ _ ∧ _ ∧ _ ∧ _ ∧ _ ∧ _ ∧ _ ∧ _ ∧ _ ∧ _ ∧ _ ∧ _ ∧ _ ∧ _).2.2.2.2.2.2.2.2.2.2.2.2.2.2)
local macro_rules | `(tactic| ac_rfl) => `(tactic| first | assumption | exact Mine.zo1 | exact Mine.zo2 | exact Mine.zo3 | exact Mine.zo4 | ((first | refine Mine.zp4 ?_ | refine Mine.zp3 ?_ | refine Mine.zp2 ?_ | refine Mine.zp1 ?_); first | assumption | infer_instance) | infer_instance | exact Mine.zs1 (by with_reducible assumption) | exact Mine.zs2 (by with_reducible assumption) | exact Mine.zs3 (by with_reducible assumption) | exact Mine.zs4 (by with_reducible assumption) | (refine Nat.lt_trans ?_ (by with_reducible assumption); ac_rfl))
local macro_rules | `(tactic| lia) => `(tactic| with_reducible first | assumption | decide | (show (_ : Int) ≤ _; first | exact Mine.zu1 (by with_reducible assumption) (by decide) | exact Mine.zu1 (by with_reducible assumption : _ ∧ _).2 (by decide) | exact Mine.zd1 (by with_reducible assumption) (by decide) | exact Mine.zd1 (by with_reducible assumption : _ ∧ _).1 (by decide) | exact Mine.zd4 (by with_reducible assumption) (by decide) | exact Mine.zd4 (by with_reducible assumption : _ ∧ _).1 (by decide) | exact Mine.zc4 (by decide) | exact Mine.zc1 (by with_reducible assumption) (by decide) | exact Mine.zu4 (by with_reducible assumption) (by decide) | exact Mine.zu4 (by with_reducible assumption : _ ∧ _).2 (by decide)) | (show (_ : Int) < _; first | exact Mine.zu2 (by with_reducible assumption) (by decide) | exact Mine.zu2 (by with_reducible assumption : _ ∧ _).2 (by decide) | exact Mine.zu3 (by with_reducible assumption) (by decide) | exact Mine.zu3 (by with_reducible assumption : _ ∧ _).2 (by decide) | exact Mine.zd2 (by with_reducible assumption) (by decide) | exact Mine.zd2 (by with_reducible assumption : _ ∧ _).1 (by decide) | exact Mine.zd3 (by with_reducible assumption) (by decide) | exact Mine.zd3 (by with_reducible assumption : _ ∧ _).1 (by decide) | exact Mine.zc2 (by with_reducible assumption) (by decide) | exact Mine.zc3 (by with_reducible assumption) (by decide)) | (show (_ : Nat) ≤ _; first | exact Mine.zm1 (by with_reducible assumption) (by decide) | exact Mine.zm1 (by with_reducible assumption : _ ∧ _).2 (by decide) | exact Mine.zm4 (by with_reducible assumption) (by decide) | exact Mine.zm4 (by with_reducible assumption : _ ∧ _).2 (by decide) | exact Mine.zc5 (by with_reducible assumption) (by decide) | exact Mine.zc5 (by with_reducible assumption : _ ∧ _).2 (by decide)) | (show (_ : Nat) < _; first | exact Mine.zm2 (by with_reducible assumption) (by decide) | exact Mine.zm2 (by with_reducible assumption : _ ∧ _).2 (by decide) | exact Mine.zm3 (by with_reducible assumption) (by decide) | exact Mine.zm3 (by with_reducible assumption : _ ∧ _).2 (by decide) | exact Mine.zr1 (by with_reducible assumption) (by decide) | exact Mine.zr2 (by with_reducible assumption) (by decide) | exact Mine.zr3 (by with_reducible assumption) | ac_rfl) | (show (_ : Nat) ≠ _; first | exact Ne.symm (by with_reducible assumption) | (refine Mine.znlt ?_; ac_rfl) | (refine Mine.zngt ?_; ac_rfl) | infer_instance | (refine Ne.symm ?_; infer_instance)) | (show (_ : Int) ≠ _; exact Mine.zint_ne_lo (by with_reducible assumption)))
local macro_rules | `(tactic| omega) => `(tactic| with_reducible first | assumption | decide | (show (_ : Int) ≤ _; first | exact Mine.zu1 (by with_reducible assumption) (by decide) | exact Mine.zu1 (by with_reducible assumption : _ ∧ _).2 (by decide) | exact Mine.zd1 (by with_reducible assumption) (by decide) | exact Mine.zd1 (by with_reducible assumption : _ ∧ _).1 (by decide) | exact Mine.zd4 (by with_reducible assumption) (by decide) | exact Mine.zd4 (by with_reducible assumption : _ ∧ _).1 (by decide) | exact Mine.zc4 (by decide) | exact Mine.zc1 (by with_reducible assumption) (by decide) | exact Mine.zu4 (by with_reducible assumption) (by decide) | exact Mine.zu4 (by with_reducible assumption : _ ∧ _).2 (by decide)) | (show (_ : Int) < _; first | exact Mine.zu2 (by with_reducible assumption) (by decide) | exact Mine.zu2 (by with_reducible assumption : _ ∧ _).2 (by decide) | exact Mine.zu3 (by with_reducible assumption) (by decide) | exact Mine.zu3 (by with_reducible assumption : _ ∧ _).2 (by decide) | exact Mine.zd2 (by with_reducible assumption) (by decide) | exact Mine.zd2 (by with_reducible assumption : _ ∧ _).1 (by decide) | exact Mine.zd3 (by with_reducible assumption) (by decide) | exact Mine.zd3 (by with_reducible assumption : _ ∧ _).1 (by decide) | exact Mine.zc2 (by with_reducible assumption) (by decide) | exact Mine.zc3 (by with_reducible assumption) (by decide)) | (show (_ : Nat) ≤ _; first | exact Mine.zm1 (by with_reducible assumption) (by decide) | exact Mine.zm1 (by with_reducible assumption : _ ∧ _).2 (by decide) | exact Mine.zm4 (by with_reducible assumption) (by decide) | exact Mine.zm4 (by with_reducible assumption : _ ∧ _).2 (by decide) | exact Mine.zc5 (by with_reducible assumption) (by decide) | exact Mine.zc5 (by with_reducible assumption : _ ∧ _).2 (by decide)) | (show (_ : Nat) < _; first | exact Mine.zm2 (by with_reducible assumption) (by decide) | exact Mine.zm2 (by with_reducible assumption : _ ∧ _).2 (by decide) | exact Mine.zm3 (by with_reducible assumption) (by decide) | exact Mine.zm3 (by with_reducible assumption : _ ∧ _).2 (by decide) | exact Mine.zr1 (by with_reducible assumption) (by decide) | exact Mine.zr2 (by with_reducible assumption) (by decide) | exact Mine.zr3 (by with_reducible assumption) | ac_rfl) | (show (_ : Nat) ≠ _; first | exact Ne.symm (by with_reducible assumption) | (refine Mine.znlt ?_; ac_rfl) | (refine Mine.zngt ?_; ac_rfl) | infer_instance | (refine Ne.symm ?_; infer_instance)) | (show (_ : Int) ≠ _; exact Mine.zint_ne_lo (by with_reducible assumption)))

namespace Mine
open PySem PySem.W PySem.Calls PyProof.Rows

/-! rules of loops over a ledger that may grow -/
section
variable {prog : Program} {w : World} {A : Around} {E : Value → Shared → Prop} {s : Shared} {env : Env} {h₀ : Heap} {L : Addr} {x : Str} {px : Pos} {body : List Stmt} {Q : Flow → Shared → Prop}

/-- the end of a turn: the frame, the ledger, what is kept of it -/
inductive LEnd (h₀ : Heap) (L : Addr) (I : (Str → Option Value) → List (Addr × Obj) → Prop) (keep : List (Addr × Obj)) (s : Shared) : Shared → Prop
  | intro {h' : Heap} {tk' : Nat} {m' : Str → Option Value} {news' : List (Addr × Obj)} (nx : List (Addr × Obj)) (F : Fr h₀ L h' m') (N : News h₀ L h' news') (hk : ∀ p ∈ keep, p ∈ news') (hn : ∀ p ∈ nx, p ∈ news') (ho : ∀ p ∈ nx, ∀ q ∈ keep, p.1 ≠ q.1) (hI : I m' nx) :
    LEnd h₀ L I keep s { s with heap := h', toks := tk' }

/-- what stands between the turns of a for: the turn's number, the iterator, the frame, the ledger -/
inductive LoopI (h₀ : Heap) (L : Addr) (s : Shared) (n : Nat) (It : Heap → Nat → Prop) (I : Nat → (Str → Option Value) → List (Addr × Obj) → Prop) (o : Addr) : Nat → Shared → Prop
  | mk (h : Heap) (tk : Nat) (m : Str → Option Value) (news : List (Addr × Obj)) (i : Nat) (hit : It h i) (F : Fr h₀ L h m) (N : News h₀ L h news) (hI : I i m news) (hoff : ∀ p ∈ news, p.1 ≠ o) (hi : i ≤ n) : LoopI h₀ L s n It I o (n + 1 - i) { s with heap := h, toks := tk }
inductive WhileI (h₀ : Heap) (L : Addr) (s : Shared) (I : Nat → (Str → Option Value) → List (Addr × Obj) → Prop) (n : Nat) : Shared → Prop
  | mk (h : Heap) (tk : Nat) (m : Str → Option Value) (news : List (Addr × Obj)) (F : Fr h₀ L h m) (N : News h₀ L h news) (hI : I n m news) : WhileI h₀ L s I n { s with heap := h, toks := tk }

noncomputable def LPost (Q : Flow → Shared → Prop) (En : Shared → Prop) (f : Flow) (s : Shared) : Prop :=
  match f with
  | .next => En s
  | .cont => En s
  | .brk => Q .next s
  | .ret v => Q (.ret v) s
theorem LPost.next {En : Shared → Prop} (h : En s) : LPost Q En .next s := h
theorem LPost.cont {En : Shared → Prop} (h : En s) : LPost Q En .cont s := h
theorem LPost.brk {En : Shared → Prop} (h : Q .next s) : LPost Q En .brk s := h
theorem LPost.ret {En : Shared → Prop} {v : Value} (h : Q (.ret v) s) : LPost Q En (.ret v) s := h

theorem news_sub {h : Heap} {a b : List (Addr × Obj)} (N : News h₀ L h a) (hs : ∀ p ∈ b, p ∈ a) : News h₀ L h b := fun p hp => N p (hs p hp)

theorem fr_other {h h' : Heap} {m : Str → Option Value} {it : Addr} (F : Fr h₀ L h m) (hb : h₀.get? it = none) (hL : L ≠ it) (hs : Heap.ExtBut it h h') : Fr h₀ L h' m :=
  ⟨F.ns.extBut hs hL, fun b o e => hs b o (fun q => by rw [q, hb] at e; cases e) (F.keep b o e), F.above⟩
theorem news_other {h h' : Heap} {it : Addr} {news : List (Addr × Obj)} (N : News h₀ L h news) (ho : ∀ p ∈ news, p.1 ≠ it) (hs : Heap.ExtBut it h h') : News h₀ L h' news :=
  fun p hp => ⟨hs _ _ (ho p hp) (N p hp).1, (N p hp).2⟩

/-- a for over a list: the invariant speaks of the turn's number, the names and the ledger -/
theorem for_list {l : Addr} {vs : List Value} {m₀ : Str → Option Value} {news₀ : List (Addr × Obj)}
    (I : Nat → (Str → Option Value) → List (Addr × Obj) → Prop)
    (hL : env.locals = L) (hh : A.handled = none) (hx : env.kindOf x = some .local)
    (hp : (env.scope.kind == .class || (env.scope.kind == .module && env.locals != env.globals)) = false)
    (F : Fr h₀ L s.heap m₀) (N : News h₀ L s.heap news₀) (h0 : I 0 m₀ news₀)
    (hlist : ∀ i m news h, I i m news → Fr h₀ L h m → News h₀ L h news → h.IsList l vs.toArray)
    (turn : ∀ i v m news h tk it io, vs[i]? = some v → I i m news → (∀ p ∈ news₀, p.1 < it) → (∀ p ∈ news, p.1 ≠ it) →
      Fr h₀ L h (fun y => if y = x then some v else m y) → News h₀ L h ((it, io) :: news) →
      wpAny (model prog w) A (execs body env) (LPost Q (LEnd h₀ L (I (i + 1)) [(it, io)] { s with heap := h, toks := tk })) (fun _ _ => False) { s with heap := h, toks := tk })
    (done : ∀ m news h tk, I vs.length m news → Fr h₀ L h m → News h₀ L h news → Q .next { s with heap := h, toks := tk }) :
    wpAny (model prog w) A (pyIter (.ref l)) (fun it s₂ => codeAny (model prog w) A (.forLoop (.Name x px) it body [] env) (fun r s' => match r with | .ok f => Q f s' | .error e => cameBackBy (model prog w) A env E e s') s₂) E s := by
  subst hL
  have hls := hlist 0 m₀ news₀ s.heap h0 F N
  refine wpAny_pyIter_list hls ?_
  have hLt : env.locals < s.heap.objs.size := F.ns.lt
  have hb : h₀.get? s.heap.objs.size = none := by
    cases q : h₀.get? s.heap.objs.size with
    | none => rfl
    | some o => exact absurd (Heap.lt_size (F.keep _ _ q)) (Nat.lt_irrefl _)
  have hlt0 : ∀ p ∈ news₀, p.1 < s.heap.objs.size := fun p hp => Heap.lt_size (N p hp).1
  refine codeAny_forLoop (LoopI h₀ env.locals s vs.length (fun h i => h.IsListIter s.heap.objs.size l i) I s.heap.objs.size) ?_ (vs.length + 1)
    (LoopI.mk _ s.toks m₀ news₀ 0 ⟨_, Heap.get?_push_size _ rfl, rfl, rfl⟩ (F.push _) (fun p hp => ⟨Heap.get?_push_of_some _ (N p hp).1, (N p hp).2⟩) h0 (fun p hp => Nat.ne_of_lt (hlt0 p hp)) (Nat.zero_le _))
  rintro n s' ⟨h, tk, m, news, i, hit, F₁, N₁, hI, hoff, hi⟩
  have hl := hlist i m news h hI F₁ N₁
  cases hv : vs[i]? with
  | none =>
    have hsz : i = vs.length := Nat.le_antisymm hi (by simpa using hv)
    refine wpAny_pyNext_list_end hh hit hl (by simpa using hv) fun h₁ he₁ => wpAny_execs_nil ?_
    exact done m news h₁ tk (hsz ▸ hI) (fr_other F₁ hb (Nat.ne_of_lt hLt) he₁) (news_other N₁ hoff he₁)
  | some v =>
    have hlt : i < vs.length := by
      cases Nat.lt_or_ge i vs.length with
      | inl h => exact h
      | inr h => rw [List.getElem?_eq_none h] at hv; cases hv
    refine wpAny_pyNext_list_item hit hl (by simpa using hv) fun h₁ hit₁ hs₁ => ?_
    have F₂ := fr_other F₁ hb (Nat.ne_of_lt hLt) hs₁.extBut
    have N₂ := news_other N₁ hoff hs₁.extBut
    refine wpAny_assign_Name (wpAny_storeName_local hx F₂.ns (fun h₂ hn₂ hs₂ => ?_) hp)
    obtain ⟨io, hio, hc1, hd1⟩ := hit₁
    have hneL : s.heap.objs.size ≠ env.locals := Nat.ne_of_gt hLt
    have N₃ : News h₀ env.locals h₂ ((s.heap.objs.size, io) :: news) := by
      intro p hp'
      rcases List.mem_cons.mp hp' with rfl | hp'
      · exact ⟨(hs₂.2 _ hneL).trans hio, hneL, hb⟩
      · exact (N₂.set hs₂) p hp'
    refine wpAny_mono (turn i v m news h₂ _ s.heap.objs.size io hv hI hlt0 hoff (F₂.set hn₂ hs₂) N₃) (fun f s₃ h₃ => ?_) fun _ _ q => q.elim
    have fin : LEnd h₀ env.locals (I (i + 1)) [(s.heap.objs.size, io)] { s with heap := h₂, toks := tk + 1 } s₃ → ∃ m, m < vs.length + 1 - i ∧ LoopI h₀ env.locals s vs.length (fun h i => h.IsListIter s.heap.objs.size l i) I s.heap.objs.size m s₃ := by
      rintro ⟨nx, F', N', hk, hn, ho, hI'⟩
      exact ⟨vs.length + 1 - (i + 1), by (first | lia | omega), .mk _ _ _ nx (i + 1) ⟨io, (N' _ (hk _ (.head _))).1, hc1, hd1⟩ F' (news_sub N' hn) hI' (fun p hp' => ho p hp' _ (.head _)) hlt⟩
    cases f with
    | next => exact fin h₃
    | cont => exact fin h₃
    | brk => exact h₃
    | ret v => exact h₃

/-- a for over a range by ones -/
theorem for_range {r : Addr} {a b : Int} {t u v : Tok} {n : Nat} {m₀ : Str → Option Value} {news₀ : List (Addr × Obj)}
    (I : Nat → (Str → Option Value) → List (Addr × Obj) → Prop)
    (hL : env.locals = L) (hh : A.handled = none) (hx : env.kindOf x = some .local)
    (hp : (env.scope.kind == .class || (env.scope.kind == .module && env.locals != env.globals)) = false)
    (hr : IsRange s.heap r a b 1 t u v) (hsmall : Builtin.Range.small a b 1 = true) (hn : Builtin.Range.rangeSize a b 1 = (n : Int))
    (F : Fr h₀ L s.heap m₀) (N : News h₀ L s.heap news₀) (h0 : I 0 m₀ news₀)
    (turn : ∀ i k t m news h tk it io, i < n → k = a + (i : Int) → I i m news → (∀ p ∈ news₀, p.1 < it) → (∀ p ∈ news, p.1 ≠ it) →
      Fr h₀ L h (fun y => if y = x then some (.int k t) else m y) → News h₀ L h ((it, io) :: news) →
      wpAny (model prog w) A (execs body env) (LPost Q (LEnd h₀ L (I (i + 1)) [(it, io)] { s with heap := h, toks := tk })) (fun _ _ => False) { s with heap := h, toks := tk })
    (done : ∀ m news h tk, I n m news → Fr h₀ L h m → News h₀ L h news → Q .next { s with heap := h, toks := tk }) :
    wpAny (model prog w) A (pyIter (.ref r)) (fun it s₂ => codeAny (model prog w) A (.forLoop (.Name x px) it body [] env) (fun r s' => match r with | .ok f => Q f s' | .error e => cameBackBy (model prog w) A env E e s') s₂) E s := by
  subst hL
  refine wpAny_pyIter_range hr hsmall ?_
  have hLt : env.locals < s.heap.objs.size := F.ns.lt
  have hb : h₀.get? s.heap.objs.size = none := by
    cases q : h₀.get? s.heap.objs.size with
    | none => rfl
    | some o => exact absurd (Heap.lt_size (F.keep _ _ q)) (Nat.lt_irrefl _)
  have hlt0 : ∀ p ∈ news₀, p.1 < s.heap.objs.size := fun p hp => Heap.lt_size (N p hp).1
  refine codeAny_forLoop (LoopI h₀ env.locals s n (fun h i => IsRangeIter h s.heap.objs.size (a + ((i : Nat) : Int)) ((n : Int) - (i : Nat)) 1) I s.heap.objs.size) ?_ (n + 1)
    (LoopI.mk _ s.toks m₀ news₀ 0 (by show IsRangeIter _ _ _ _ _; rw [hn]; simpa using Heap.get?_push_size _ rfl) (F.push _) (fun p hp => ⟨Heap.get?_push_of_some _ (N p hp).1, (N p hp).2⟩) h0 (fun p hp => Nat.ne_of_lt (hlt0 p hp)) (Nat.zero_le _))
  rintro k s' ⟨h, tk, m, news, i, hit, F₁, N₁, hI, hoff, hi⟩
  by_cases hlt : i < n
  · refine wpAny_pyNext_range_item hit (by (first | lia | omega)) fun h₁ hit₁ hs₁ => ?_
    have F₂ := fr_other F₁ hb (Nat.ne_of_lt hLt) hs₁.extBut
    have N₂ := news_other N₁ hoff hs₁.extBut
    refine wpAny_assign_Name (wpAny_storeName_local hx F₂.ns (fun h₂ hn₂ hs₂ => ?_) hp)
    have hneL : s.heap.objs.size ≠ env.locals := Nat.ne_of_gt hLt
    obtain ⟨io, hio⟩ : ∃ io : Obj, io = { cls := .type "range_iterator", dict := none, data := .fields #[rawInt (a + (i : Int) + 1), rawInt ((n : Int) - (i : Int) - 1), rawInt 1], slots := #[] } := ⟨_, rfl⟩
    have hit₂ : h₁.get? s.heap.objs.size = some io := by rw [hio]; exact hit₁
    have N₃ : News h₀ env.locals h₂ ((s.heap.objs.size, io) :: news) := by
      intro p hp'
      rcases List.mem_cons.mp hp' with rfl | hp'
      · exact ⟨(hs₂.2 _ hneL).trans hit₂, hneL, hb⟩
      · exact (N₂.set hs₂) p hp'
    refine wpAny_mono (turn i _ _ m news h₂ _ s.heap.objs.size io hlt rfl hI hlt0 hoff (F₂.set hn₂ hs₂) N₃) (fun f s₃ h₃ => ?_) fun _ _ q => q.elim
    have fin : LEnd h₀ env.locals (I (i + 1)) [(s.heap.objs.size, io)] { s with heap := h₂, toks := tk + 1 + 1 } s₃ → ∃ m, m < n + 1 - i ∧ LoopI h₀ env.locals s n (fun h i => IsRangeIter h s.heap.objs.size (a + ((i : Nat) : Int)) ((n : Int) - (i : Nat)) 1) I s.heap.objs.size m s₃ := by
      rintro ⟨nx, F', N', hk, hn, ho, hI'⟩
      have q := (N' _ (hk _ (.head _))).1
      refine ⟨n + 1 - (i + 1), by (first | lia | omega), .mk _ _ _ nx (i + 1) ?_ F' (news_sub N' hn) hI' (fun p hp' => ho p hp' _ (.head _)) hlt⟩
      show Heap.get? _ s.heap.objs.size = _
      have e1 : a + (i : Int) + 1 = a + ((i + 1 : Nat) : Int) := by (first | lia | omega)
      have e2 : (n : Int) - (i : Int) - 1 = (n : Int) - ((i + 1 : Nat) : Int) := by (first | lia | omega)
      rw [hio, e1, e2] at q
      exact q
    cases f with
    | next => exact fin h₃
    | cont => exact fin h₃
    | brk => exact h₃
    | ret v => exact h₃
  · have hin : i = n := by (first | lia | omega)
    subst hin
    refine wpAny_pyNext_range_end hh hit (by (first | lia | omega)) fun h₁ he₁ => wpAny_execs_nil ?_
    exact done m news h₁ _ hI (fr_other F₁ hb (Nat.ne_of_lt hLt) he₁) (news_other N₁ hoff he₁)

/-- a while by an invariant and a measure -/
theorem while_led {test : Expr} {pos : Pos} {m₀ : Str → Option Value} {news₀ : List (Addr × Obj)} (I : Nat → (Str → Option Value) → List (Addr × Obj) → Prop) (k₀ : Nat)
    (F : Fr h₀ L s.heap m₀) (N : News h₀ L s.heap news₀) (h0 : I k₀ m₀ news₀)
    (turn : ∀ k m news h tk, I k m news → Fr h₀ L h m → News h₀ L h news →
      wpAny (model prog w) A (isTrue test env (eval test env)) (fun b s₂ =>
        if b then wpAny (model prog w) A (execs body env) (LPost Q (LEnd h₀ L (fun m nx => ∃ k', k' < k ∧ I k' m nx) [] { s with heap := h, toks := tk })) (fun _ _ => False) s₂
        else Q .next s₂) (fun _ _ => False) { s with heap := h, toks := tk }) :
    wpAny (model prog w) A (exec (.While test body [] pos) env) Q E s := by
  refine wpAny_While (codeAny_whileLoop (WhileI h₀ L s I) ?_ k₀ (.mk _ _ m₀ news₀ F N h0))
  rintro n s' ⟨h, tk, m, news, F₁, N₁, hI⟩
  refine wpAny_mono (turn n m news h tk hI F₁ N₁) (fun b s₂ h₂ => ?_) fun _ _ q => q.elim
  cases b with
  | true =>
    simp only [if_true] at h₂ ⊢
    refine wpAny_mono h₂ (fun f s₃ h₃ => ?_) fun _ _ q => q.elim
    have fin : LEnd h₀ L (fun m nx => ∃ k', k' < n ∧ I k' m nx) [] { s with heap := h, toks := tk } s₃ → ∃ m, m < n ∧ WhileI h₀ L s I m s₃ := by
      rintro ⟨nx, F', N', hk, hn, ho, k', hk', hI'⟩
      exact ⟨k', hk', .mk _ _ _ nx F' (news_sub N' hn) hI'⟩
    cases f with
    | next => exact fin h₃
    | cont => exact fin h₃
    | brk => exact h₃
    | ret v => exact h₃
  | false =>
    simp only [Bool.false_eq_true, if_false] at h₂ ⊢
    exact wpAny_execs_nil h₂
end
end Mine

namespace Mine.Re
open PySem PySem.Sre

noncomputable def code1 : Array Nat := #[14, 4, 0, 1, 1, 6, 1, 16, 46, 1]
noncomputable def code2 : Array Nat := #[14, 9, 4, 1, 2, 16, 10, 16, 13, 0, 7, 7, 16, 13, 16, 10, 15, 18, 5, 16, 10, 15, 13, 11, 16, 13, 5, 5, 0, 16, 10, 1, 15, 2, 0, 1]

noncomputable def iter : Nat → M → M
  | 0, m => m
  | n + 1, m => iter n m.step
theorem step_done {m : M} (h : m.outcome.isSome = true) : m.step = m := by unfold M.step; rw [if_pos h]
theorem iter_done {m : M} (h : m.outcome.isSome = true) : ∀ n, iter n m = m
  | 0 => rfl
  | n + 1 => by show iter n m.step = m; rw [step_done h]; exact iter_done h n
theorem runFor_eq : ∀ n (m : M), M.runFor n m = iter n m
  | 0, _ => rfl
  | n + 1, m => by
    show (if m.outcome.isSome then m else M.runFor n m.step) = iter n m.step
    cases h : m.outcome.isSome with
    | true => rw [if_pos rfl, step_done h, iter_done h]
    | false => rw [if_neg Bool.false_ne_true]; exact runFor_eq n _
theorem iter_add : ∀ a b (m : M), iter (a + b) m = iter b (iter a m)
  | 0, b, m => by rw [Nat.zero_add]; rfl
  | a + 1, b, m => by rw [Nat.add_right_comm]; exact iter_add a b m.step

/-- the machine's states that come here -/
noncomputable def cfg (code text : Array Nat) (lim start last pc pos handed : Nat) (om : Bool) (fs : List Sre.Frame) (wt : Nat) (an : Option Bool) (sn : Sre.Seen) : M :=
  { code, text, lim, start, lastStart := last, pc, pos, handed, outermost := om, marks := #[], frames := fs, weight := wt, answer := an, seen := sn }

noncomputable def Reach (m : M) (n : Nat) (P : M → Prop) : Prop := ∃ k, k ≤ n ∧ P (iter k m)
theorem Reach.now {m : M} {P : M → Prop} {n : Nat} (h : P m) : Reach m n P := ⟨0, Nat.zero_le _, h⟩
theorem Reach.step {m m' : M} {P : M → Prop} {n : Nat} (e : m.step = m') (h : Reach m' n P) : Reach m (n + 1) P := by
  obtain ⟨k, hk, h⟩ := h
  exact ⟨k + 1, Nat.succ_le_succ hk, by show P (iter k m.step); rw [e]; exact h⟩
theorem Reach.stepE {m : M} {f : Sre.Seen → M} {P : M → Prop} {n : Nat} (e : ∃ sn, m.step = f sn) (h : ∀ sn, Reach (f sn) n P) : Reach m (n + 1) P := by
  obtain ⟨sn, e⟩ := e
  exact Reach.step e (h sn)
theorem Reach.more {m : M} {P : M → Prop} {n n' : Nat} (h : Reach m n P) (hn : n ≤ n') : Reach m n' P := let ⟨k, hk, h⟩ := h; ⟨k, Nat.le_trans hk hn, h⟩

section
variable {code text : Array Nat} {lim start last pc pos handed : Nat} {om : Bool} {fs : List Sre.Frame} {wt : Nat} {sn : Sre.Seen}

theorem lit_yes {c : Nat} (hpc : ops[code.getD pc 0]? = some .LITERAL) (hc : code.getD (pc + 1) 0 = c) (hsz : pc < code.size) (hlt : pos < lim) (ht : text.getD pos 0 = c) :
    ∃ sn', (cfg code text lim start last pc pos handed om fs wt none sn).step = cfg code text lim start last (pc + 2) (pos + 1) handed om fs wt none sn' := by
  refine ⟨sn.add (code.getD pc 0), ?_⟩
  simp only [cfg, M.step, M.exec, M.word, Nat.add_zero, Option.isSome_none, Bool.false_eq_true, if_false, hsz, if_true, hpc, ge_iff_le, Nat.not_le.mpr hlt, accepts, hc, ht, itemWidth, beq_self_eq_true]
theorem lit_no {c : Nat} (hpc : ops[code.getD pc 0]? = some .LITERAL) (hc : code.getD (pc + 1) 0 = c) (hsz : pc < code.size) (ht : pos < lim → text.getD pos 0 ≠ c) :
    ∃ sn', (cfg code text lim start last pc pos handed om fs wt none sn).step = cfg code text lim start last pc pos handed om fs wt (some false) sn' := by
  refine ⟨sn.add (code.getD pc 0), ?_⟩
  by_cases hlt : pos < lim
  · have h2 : (text.getD pos 0 == c) = false := by simpa using ht hlt
    simp only [cfg, M.step, M.exec, M.word, Nat.add_zero, Option.isSome_none, Bool.false_eq_true, if_false, hsz, if_true, hpc, ge_iff_le, Nat.not_le.mpr hlt, accepts, hc, h2, M.say]
  · simp only [cfg, M.step, M.exec, M.word, Nat.add_zero, Option.isSome_none, Bool.false_eq_true, if_false, hsz, if_true, hpc, ge_iff_le, Nat.le_of_not_lt hlt, M.say]
theorem jump_step {k : Nat} (hpc : ops[code.getD pc 0]? = some .JUMP) (hc : code.getD (pc + 1) 0 = k) (hsz : pc < code.size) :
    ∃ sn', (cfg code text lim start last pc pos handed om fs wt none sn).step = cfg code text lim start last (pc + 1 + k) pos handed om fs wt none sn' := by
  refine ⟨sn.add (code.getD pc 0), ?_⟩
  simp only [cfg, M.step, M.exec, M.word, Nat.add_zero, Option.isSome_none, Bool.false_eq_true, if_false, hsz, if_true, hpc, hc]
theorem success_step (hpc : ops[code.getD pc 0]? = some .SUCCESS) (hsz : pc < code.size) :
    ∃ sn', (cfg code text lim start last pc pos handed om fs wt none sn).step = cfg code text lim start last pc pos pos om fs wt (some true) sn' := by
  refine ⟨sn.add (code.getD pc 0), ?_⟩
  simp only [cfg, M.step, M.exec, M.word, Nat.add_zero, Option.isSome_none, Bool.false_eq_true, if_false, hsz, if_true, hpc, Bool.false_and, Bool.or_false, Bool.and_false, M.say]
theorem at_yes (hpc : ops[code.getD pc 0]? = some .AT) (hc : code.getD (pc + 1) 0 = 1) (hsz : pc < code.size) (h : (pos == 0 || text.getD (pos - 1) 0 == 10) = true) :
    ∃ sn', (cfg code text lim start last pc pos handed om fs wt none sn).step = cfg code text lim start last (pc + 2) pos handed om fs wt none sn' := by
  refine ⟨(sn.add (code.getD pc 0)).add (43 + 1), ?_⟩
  simp only [cfg, M.step, M.exec, M.word, Nat.add_zero, Option.isSome_none, Bool.false_eq_true, if_false, hsz, if_true, hpc, hc, M.isAt, h]
theorem at_no (hpc : ops[code.getD pc 0]? = some .AT) (hc : code.getD (pc + 1) 0 = 1) (hsz : pc < code.size) (h : (pos == 0 || text.getD (pos - 1) 0 == 10) = false) :
    ∃ sn', (cfg code text lim start last pc pos handed om fs wt none sn).step = cfg code text lim start last pc pos handed om fs wt (some false) sn' := by
  refine ⟨(sn.add (code.getD pc 0)).add (43 + 1), ?_⟩
  simp only [cfg, M.step, M.exec, M.word, Nat.add_zero, Option.isSome_none, Bool.false_eq_true, if_false, hsz, if_true, hpc, hc, M.isAt, h, M.say]

/-- the frames that come here -/
noncomputable def frS (s : Nat) (pc : Nat) (om : Bool) : Sre.Frame := { wait := .nextStart, pc := pc, pos := s, outermost := om }
noncomputable def frB (alt pos : Nat) (om : Bool) : Sre.Frame := { wait := .nextBranch, pc := alt, pos := pos, outermost := om, kept := {} }
noncomputable def frN (pc pos : Nat) (om : Bool) : Sre.Frame := { wait := .lookNot, pc := pc, pos := pos, outermost := om, kept := {} }

theorem branch_step (hpc : ops[code.getD pc 0]? = some .BRANCH) (hc : (code.getD (pc + 1) 0 == 0) = false) (hsz : pc < code.size) (hw : wt < 1000) :
    ∃ sn', (cfg code text lim start last pc pos handed om fs wt none sn).step = cfg code text lim start last (pc + 2) pos pos om (frB (pc + 1) pos om :: fs) (wt + 1) none sn' := by
  refine ⟨sn.add (code.getD pc 0), ?_⟩
  have hw' : ¬ (wt + 1 > 16777216) := by (first | lia | omega)
  simp only [cfg, M.step, M.exec, M.word, Nat.add_zero, Option.isSome_none, Bool.false_eq_true, if_false, hsz, if_true, hpc, M.alternative, hc, M.keep, M.attempt, M.frame, frB, Array.size_empty, hw']
theorem next_alt {alt pos₀ : Nat} {om₀ : Bool} (hc : (code.getD (alt + code.getD alt 0) 0 == 0) = false) (hw : wt < 1000) :
    (cfg code text lim start last pc pos handed om (frB alt pos₀ om₀ :: fs) (wt + 1) (some false) sn).step = cfg code text lim start last (alt + code.getD alt 0 + 1) pos₀ pos₀ om₀ (frB (alt + code.getD alt 0) pos₀ om₀ :: fs) (wt + 1) none sn := by
  have hw' : ¬ (wt + 1 > 16777216) := by (first | lia | omega)
  simp only [cfg, M.step, Option.isSome_none, Bool.false_eq_true, if_false, M.resume, frB, M.putBack, M.alternative, hc, M.attempt, M.frame, Array.size_empty, Nat.add_zero, Nat.add_sub_cancel, hw']
theorem alt_yes {alt pos₀ : Nat} {om₀ : Bool} :
    (cfg code text lim start last pc pos handed om (frB alt pos₀ om₀ :: fs) (wt + 1) (some true) sn).step = cfg code text lim start last alt pos₀ handed om₀ fs wt (some true) sn := by
  simp only [cfg, M.step, Option.isSome_none, Bool.false_eq_true, if_false, M.resume, frB, M.say, if_true, Array.size_empty, Nat.add_zero, Nat.add_sub_cancel]
theorem start_yes {s₀ pc₀ : Nat} {om₀ : Bool} :
    (cfg code text lim start last pc pos handed om (frS s₀ pc₀ om₀ :: fs) (wt + 1) (some true) sn).step = cfg code text lim start last pc₀ s₀ handed om₀ fs wt (some true) sn := by
  simp only [cfg, M.step, Option.isSome_none, Bool.false_eq_true, if_false, M.resume, frS, M.say, if_true, Array.size_empty, Nat.add_zero, Nat.add_sub_cancel]
theorem end_step {b : Bool} :
    (cfg code text lim start last pc pos handed om [] wt (some b) sn).step = { cfg code text lim start last pc pos handed om [] wt (some b) sn with outcome := some (if b then .matched else .failed) } := by
  simp only [cfg, M.step, Option.isSome_none, Bool.false_eq_true, if_false]
theorem not_step (hpc : ops[code.getD pc 0]? = some .ASSERT_NOT) (hc : code.getD (pc + 2) 0 = 0) (hsz : pc < code.size) (hw : wt < 1000) :
    ∃ sn', (cfg code text lim start last pc pos handed om fs wt none sn).step = cfg code text lim start last (pc + 3) pos pos false (frN pc pos om :: fs) (wt + 1) none sn' := by
  refine ⟨sn.add (code.getD pc 0), ?_⟩
  have hw' : ¬ (wt + 1 > 16777216) := by (first | lia | omega)
  simp only [cfg, M.step, M.exec, M.word, Nat.add_zero, Option.isSome_none, Bool.false_eq_true, if_false, hsz, if_true, hpc, hc, Nat.not_lt_zero, M.keep, M.attempt, M.frame, frN, Array.size_empty, hw', Nat.sub_zero, Bool.and_false]
theorem not_no {k pc₀ pos₀ : Nat} {om₀ : Bool} (hc : code.getD (pc₀ + 1) 0 = k) :
    (cfg code text lim start last pc pos handed om (frN pc₀ pos₀ om₀ :: fs) (wt + 1) (some false) sn).step = cfg code text lim start last (pc₀ + 1 + k) pos₀ handed om₀ fs wt none sn := by
  simp only [cfg, M.step, Option.isSome_none, Bool.false_eq_true, if_false, M.resume, frN, M.putBack, M.word, hc, Array.size_empty, Nat.add_zero, Nat.add_sub_cancel]
theorem start_no {s₀ pc₀ : Nat} {om₀ : Bool} (hl : s₀ < last) (hf : (cfg code text lim start last pc₀ s₀ handed om₀ fs wt none sn).hasFirstSet = false) (hw : wt < 1000) :
    (cfg code text lim start last pc pos handed om (frS s₀ pc₀ om₀ :: fs) (wt + 1) (some false) sn).step = cfg code text lim (s₀ + 1) last pc₀ (s₀ + 1) (s₀ + 1) false (frS (s₀ + 1) pc₀ false :: fs) (wt + 1) none sn := by
  have hw' : ¬ (wt + 1 > 16777216) := by (first | lia | omega)
  have hf' : ({ cfg code text lim start last pc₀ s₀ handed om₀ fs wt none sn with mustAdvance := false } : M).hasFirstSet = false := hf
  simp only [cfg] at hf'
  simp only [cfg, M.step, Option.isSome_none, Bool.false_eq_true, if_false, M.resume, frS, hl, if_true, M.attemptFrom, M.attemptAt, M.attempt, hf', Bool.not_false, Array.size_empty, Nat.add_zero, Nat.add_sub_cancel, hw']
theorem start_end {s₀ pc₀ : Nat} {om₀ : Bool} (hl : ¬ s₀ < last) :
    (cfg code text lim start last pc pos handed om (frS s₀ pc₀ om₀ :: fs) (wt + 1) (some false) sn).step = cfg code text lim start last pc₀ s₀ handed om₀ fs wt (some false) sn := by
  simp only [cfg, M.step, Option.isSome_none, Bool.false_eq_true, if_false, M.resume, frS, hl, M.say, Array.size_empty, Nat.add_zero, Nat.add_sub_cancel]
end

/-! pattern 1: a dot at a row's front -/
noncomputable def dotAt (text : Array Nat) (j : Nat) : Prop := (j == 0 || text.getD (j - 1) 0 == 10) = true ∧ text.getD j 0 = 46

noncomputable def Found1 (text : Array Nat) (lim s : Nat) (m : M) : Prop :=
  (m.outcome = some .failed ∧ ∀ j, s ≤ j → j < lim → ¬ dotAt text j) ∨
  (∃ j, s ≤ j ∧ j < lim ∧ dotAt text j ∧ (∀ i, s ≤ i → i < j → ¬ dotAt text i) ∧ m.outcome = some .matched ∧ m.start = j ∧ m.handed = j + 1)

theorem run1_hit (text : Array Nat) (lim s : Nat) (om : Bool) (sn : Sre.Seen) (h : s < lim) (hd : dotAt text s) :
    Reach (cfg code1 text lim s lim 5 s s om [frS s 5 om] 1 none sn) 8 (Found1 text lim s) := by
  refine Reach.stepE (at_yes rfl rfl (by decide) hd.1) fun sn => ?_
  refine Reach.stepE (lit_yes (c := 46) rfl rfl (by decide) h hd.2) fun sn => ?_
  refine Reach.stepE (success_step rfl (by decide)) fun sn => ?_
  refine Reach.step start_yes ?_
  refine Reach.step end_step ?_
  exact Reach.now (.inr ⟨s, Nat.le_refl _, h, hd, fun i h1 h2 => absurd h2 (Nat.not_lt.mpr h1), rfl, rfl, rfl⟩)

theorem run1_miss (text : Array Nat) (lim s : Nat) (om : Bool) (sn : Sre.Seen) (n : Nat) (P : M → Prop) (h : s < lim → ¬ dotAt text s)
    (k : ∀ pc pos sn, Reach (cfg code1 text lim s lim pc pos s om [frS s 5 om] 1 (some false) sn) n P) :
    Reach (cfg code1 text lim s lim 5 s s om [frS s 5 om] 1 none sn) (n + 2) P := by
  cases ha : (s == 0 || text.getD (s - 1) 0 == 10) with
  | false => exact (Reach.stepE (at_no rfl rfl (by decide) ha) fun sn => k _ _ sn).more (by lia)
  | true =>
    refine Reach.stepE (at_yes rfl rfl (by decide) ha) fun sn => ?_
    exact Reach.stepE (lit_no (c := 46) rfl rfl (by decide) fun hl e => h hl ⟨ha, e⟩) fun sn => k _ _ sn

theorem run1 (text : Array Nat) (lim : Nat) : ∀ (d s : Nat) (om : Bool) (sn : Sre.Seen), s + d = lim →
    Reach (cfg code1 text lim s lim 5 s s om [frS s 5 om] 1 none sn) (3 * d + 8) (Found1 text lim s)
  | 0, s, om, sn, e => by
    refine (run1_miss text lim s om sn 6 _ (fun h => absurd h (by (first | lia | omega))) fun pc pos sn => ?_).more (by (first | lia | omega))
    refine Reach.step (start_end (by (first | lia | omega))) ?_
    refine Reach.step end_step ?_
    exact Reach.now (.inl ⟨rfl, fun j h1 h2 => by (first | lia | omega)⟩)
  | d + 1, s, om, sn, e => by
    by_cases hd : dotAt text s
    · exact (run1_hit text lim s om sn (by (first | lia | omega)) hd).more (by (first | lia | omega))
    · refine (run1_miss text lim s om sn (3 * d + 9) _ (fun _ => hd) fun pc pos sn => ?_).more (by (first | lia | omega))
      refine Reach.step (start_no (by (first | lia | omega)) rfl (by (first | lia | omega))) ?_
      obtain ⟨k, hk, h⟩ := run1 text lim d (s + 1) false sn (by (first | lia | omega))
      refine ⟨k, hk, ?_⟩
      rcases h with ⟨h1, h2⟩ | ⟨j, h1, h2, h3, h4, h5⟩
      · exact .inl ⟨h1, fun j hj hl => if q : j = s then q ▸ hd else h2 j (by (first | lia | omega)) hl⟩
      · exact .inr ⟨j, by (first | lia | omega), h2, h3, fun i hi hl => if q : i = s then q ▸ hd else h4 i (by (first | lia | omega)) hl, h5⟩

theorem search1 (text : Array Nat) (lim s : Nat) (hs : s ≤ lim) : Reach (forSearch code1 text 0 s lim false) (3 * lim + 9) (Found1 text lim s) := by
  by_cases h : s < lim
  · have e : forSearch code1 text 0 s lim false = cfg code1 text lim s lim 5 s s true [frS s 5 true] 1 none (({} : Sre.Seen).add 14) := by
      show (if (decide (s > lim) || decide (lim - s < 1)) = true then _ else _) = _
      rw [if_neg (by simp; (first | lia | omega))]
      rfl
    rw [e]
    exact (run1 text lim (lim - s) s true _ (by (first | lia | omega))).more (by (first | lia | omega))
  · have e : forSearch code1 text 0 s lim false = cfg code1 text lim s 0 5 s s true [] 0 (some false) (({} : Sre.Seen).add 14) := by
      show (if (decide (s > lim) || decide (lim - s < 1)) = true then _ else _) = _
      rw [if_pos (by simp; (first | lia | omega))]
      rfl
    rw [e]
    refine (Reach.step (n := 0) end_step ?_).more (by (first | lia | omega))
    exact Reach.now (.inl ⟨rfl, fun j h1 h2 => by (first | lia | omega)⟩)

/-! pattern 2: an end of a row -/
noncomputable def isEnd (c : Nat) : Bool := c == 10 || c == 13
theorem inSet2 (c : Nat) (sn : Sre.Seen) : ∃ sn', inSet code2 c 36 5 true sn = .ok (isEnd c, sn') := by
  unfold isEnd
  cases h10 : c == 10 with
  | true => refine ⟨sn.add 16, ?_⟩; show (if (c == 10) = true then _ else _) = _; rw [h10]; rfl
  | false =>
    cases h13 : c == 13 with
    | true =>
      refine ⟨(sn.add 16).add 16, ?_⟩
      show (if (c == 10) = true then _ else _) = _
      rw [h10]
      show (if (c == 13) = true then _ else _) = _
      rw [h13]; rfl
    | false =>
      refine ⟨((sn.add 16).add 16).add 0, ?_⟩
      show (if (c == 10) = true then _ else _) = _
      rw [h10]
      show (if (c == 13) = true then _ else _) = _
      rw [h13]; rfl

theorem admitted2 (m : M) (hc : m.code = code2) : ∀ (fuel s : Nat) (sn : Sre.Seen), m.lim < s + fuel →
    (∃ sn', m.admitted fuel s sn = .ok (none, sn') ∧ ∀ j, s ≤ j → j < m.lim → isEnd (m.text.getD j 0) = false) ∨
    (∃ j sn', m.admitted fuel s sn = .ok (some j, sn') ∧ s ≤ j ∧ j < m.lim ∧ isEnd (m.text.getD j 0) = true ∧ ∀ i, s ≤ i → i < j → isEnd (m.text.getD i 0) = false)
  | 0, s, sn, h => .inl ⟨sn, rfl, fun j h1 h2 => by lia⟩
  | fuel + 1, s, sn, h => by
    by_cases hs : s ≥ m.lim
    · exact .inl ⟨sn, by unfold M.admitted; rw [if_pos hs], fun j h1 h2 => by (first | lia | omega)⟩
    · obtain ⟨sn', e⟩ := inSet2 (m.text.getD s 0) sn
      have e' : inSet m.code (m.text.getD s 0) m.code.size 5 true sn = .ok (isEnd (m.text.getD s 0), sn') := by rw [hc]; exact e
      cases hi : isEnd (m.text.getD s 0) with
      | true =>
        refine .inr ⟨s, sn', ?_, Nat.le_refl _, by (first | lia | omega), hi, fun i h1 h2 => by (first | lia | omega)⟩
        unfold M.admitted; rw [if_neg hs, e', hi]
      | false =>
        have ad : m.admitted (fuel + 1) s sn = m.admitted fuel (s + 1) sn' := by
          rw [M.admitted]; rw [if_neg hs, e', hi]
        rw [ad]
        rcases admitted2 m hc fuel (s + 1) sn' (by (first | lia | omega)) with ⟨sn2, h1, h2⟩ | ⟨j, sn2, h1, h2, h3, h4, h5⟩
        · exact .inl ⟨sn2, h1, fun j hj hl => if q : j = s then q ▸ hi else h2 j (by (first | lia | omega)) hl⟩
        · exact .inr ⟨j, sn2, h1, by (first | lia | omega), h3, h4, fun i hj hl => if q : i = s then q ▸ hi else h5 i (by (first | lia | omega)) hl⟩

noncomputable def endLen (text : Array Nat) (lim j : Nat) : Nat := if text.getD j 0 = 13 ∧ j + 1 < lim ∧ text.getD (j + 1) 0 = 10 then 2 else 1

noncomputable def Hit2 (text : Array Nat) (lim j : Nat) (m : M) : Prop := m.outcome = some .matched ∧ m.start = j ∧ m.handed = j + endLen text lim j

theorem run2_tail (text : Array Nat) (lim j e : Nat) (alt : Nat) (handed : Nat) (sn : Sre.Seen) (he : e = j + endLen text lim j) :
    Reach (cfg code2 text lim j lim 35 e handed true [frB alt j true, frS j 10 true] 2 none sn) 5 (Hit2 text lim j) := by
  refine Reach.stepE (success_step rfl (by decide)) fun sn => ?_
  refine Reach.step alt_yes ?_
  refine Reach.step start_yes ?_
  refine Reach.step end_step ?_
  exact Reach.now ⟨rfl, rfl, he⟩

theorem run2 (text : Array Nat) (lim j : Nat) (sn : Sre.Seen) (h : j < lim) (hi : isEnd (text.getD j 0) = true) :
    Reach (cfg code2 text lim j lim 10 j j true [frS j 10 true] 1 none sn) 30 (Hit2 text lim j) := by
  refine Reach.stepE (branch_step rfl rfl (by decide) (by (first | lia | omega))) fun sn => ?_
  by_cases h13 : text.getD j 0 = 13
  · refine Reach.stepE (lit_yes (c := 13) rfl rfl (by decide) h h13) fun sn => ?_
    by_cases h2 : j + 1 < lim ∧ text.getD (j + 1) 0 = 10
    · refine Reach.stepE (lit_yes (c := 10) rfl rfl (by decide) h2.1 h2.2) fun sn => ?_
      refine Reach.stepE (jump_step (k := 18) rfl rfl (by decide)) fun sn => ?_
      exact (run2_tail text lim j (j + 2) _ _ sn (by unfold endLen; rw [if_pos ⟨h13, h2⟩])).more (by (first | lia | omega))
    · have e1 : j + 1 = j + endLen text lim j := by unfold endLen; rw [if_neg fun q => h2 q.2]
      refine Reach.stepE (lit_no (c := 10) rfl rfl (by decide) fun a b => h2 ⟨a, b⟩) fun sn => ?_
      refine Reach.step (next_alt rfl (by (first | lia | omega))) ?_
      refine Reach.stepE (lit_no (c := 10) rfl rfl (by decide) fun _ q => by rw [h13] at q; cases q) fun sn => ?_
      refine Reach.step (next_alt rfl (by (first | lia | omega))) ?_
      refine Reach.stepE (lit_yes (c := 13) rfl rfl (by decide) h h13) fun sn => ?_
      refine Reach.stepE (not_step rfl rfl (by decide) (by (first | lia | omega))) fun sn => ?_
      refine Reach.stepE (lit_no (c := 10) rfl rfl (by decide) fun a b => h2 ⟨a, b⟩) fun sn => ?_
      refine Reach.step (not_no (k := 5) rfl) ?_
      refine Reach.stepE (jump_step (k := 2) rfl rfl (by decide)) fun sn => ?_
      exact (run2_tail text lim j (j + 1) _ _ sn e1).more (by (first | lia | omega))
  · have h10 : text.getD j 0 = 10 := by
      unfold isEnd at hi
      simp at hi
      rcases hi with q | q
      · simpa using q
      · exact absurd (by simpa using q) h13
    have e1 : j + 1 = j + endLen text lim j := by unfold endLen; rw [if_neg fun q => h13 q.1]
    refine Reach.stepE (lit_no (c := 13) rfl rfl (by decide) fun _ q => h13 q) fun sn => ?_
    refine Reach.step (next_alt rfl (by (first | lia | omega))) ?_
    refine Reach.stepE (lit_yes (c := 10) rfl rfl (by decide) h h10) fun sn => ?_
    refine Reach.stepE (jump_step (k := 13) rfl rfl (by decide)) fun sn => ?_
    exact (run2_tail text lim j (j + 1) _ _ sn e1).more (by (first | lia | omega))

noncomputable def Found2 (text : Array Nat) (lim s : Nat) (m : M) : Prop :=
  (m.outcome = some .failed ∧ ∀ j, s ≤ j → j < lim → isEnd (text.getD j 0) = false) ∨
  (∃ j, s ≤ j ∧ j < lim ∧ isEnd (text.getD j 0) = true ∧ (∀ i, s ≤ i → i < j → isEnd (text.getD i 0) = false) ∧ Hit2 text lim j m)

theorem search2 (text : Array Nat) (lim s : Nat) (hs : s ≤ lim) : Reach (forSearch code2 text 0 s lim false) 32 (Found2 text lim s) := by
  by_cases h : s < lim
  · have e : forSearch code2 text 0 s lim false = (cfg code2 text lim s lim 10 s s true [] 0 none (({} : Sre.Seen).add 14)).attemptFrom s true := by
      show (if (decide (s > lim) || decide (lim - s < 1)) = true then _ else _) = _
      rw [if_neg (by simp; (first | lia | omega))]
      rfl
    rw [e]
    have ef : ∀ m : M, m.hasFirstSet = true → m.attemptFrom s true = match M.admitted m (m.lim + 1 - s) s m.seen with
        | .ok (some s, seen) => { m with mustAdvance := false, seen }.attemptAt s true
        | .ok (none, seen) => { m with seen }.say false
        | .error why => m.stick why := fun m hm => by unfold M.attemptFrom; rw [hm]; rfl
    rw [ef _ rfl]
    rcases admitted2 (cfg code2 text lim s lim 10 s s true [] 0 none (({} : Sre.Seen).add 14)) rfl (lim + 1 - s) s (({} : Sre.Seen).add 14) (by show lim < _; (first | lia | omega)) with ⟨sn', h1, h2⟩ | ⟨j, sn', h1, h2, h3, h4, h5⟩
    · rw [show (cfg code2 text lim s lim 10 s s true [] 0 none (({} : Sre.Seen).add 14)).admitted ((cfg code2 text lim s lim 10 s s true [] 0 none (({} : Sre.Seen).add 14)).lim + 1 - s) s (cfg code2 text lim s lim 10 s s true [] 0 none (({} : Sre.Seen).add 14)).seen = .ok (none, sn') from h1]
      refine (Reach.step (m := cfg code2 text lim s lim 10 s s true [] 0 (some false) sn') (n := 0) end_step ?_).more (by (first | lia | omega))
      exact Reach.now (.inl ⟨rfl, h2⟩)
    · rw [show (cfg code2 text lim s lim 10 s s true [] 0 none (({} : Sre.Seen).add 14)).admitted ((cfg code2 text lim s lim 10 s s true [] 0 none (({} : Sre.Seen).add 14)).lim + 1 - s) s (cfg code2 text lim s lim 10 s s true [] 0 none (({} : Sre.Seen).add 14)).seen = .ok (some j, sn') from h1]
      obtain ⟨k, hk, q⟩ := run2 text lim j sn' h3 h4
      exact ⟨k, by (first | lia | omega), .inr ⟨j, h2, h3, h4, h5, q⟩⟩
  · have e : forSearch code2 text 0 s lim false = cfg code2 text lim s 0 10 s s true [] 0 (some false) (({} : Sre.Seen).add 14) := by
      show (if (decide (s > lim) || decide (lim - s < 1)) = true then _ else _) = _
      rw [if_pos (by simp; (first | lia | omega))]
      rfl
    rw [e]
    refine (Reach.step (n := 0) end_step ?_).more (by (first | lia | omega))
    exact Reach.now (.inl ⟨rfl, fun j h1 h2 => by (first | lia | omega)⟩)
end Mine.Re

namespace Mine.Re
open PySem PySem.Builtin PySem.Builtin.Re

theorem slot_sub : Slot "re.Pattern" "sub" "re.Pattern.sub" :=
  .of (owner := "re.Pattern") (n := "sub") (by rw [typeLookup_type, builtinLookup_eq_fast]; kernel_rfl) (by decide +kernel) (by decide +kernel) (by decide +kernel)
    (by first | exact .inl (by decide +kernel) | exact .inr (by decide +kernel)) (by rw [isSubtype_type]; kernel_rfl)
theorem type_sub : typeOf (.builtin "re.Pattern.sub") = pure (.type "method_descriptor") := by show builtinType _ = _; rw [builtinType_eq_fast]; kernel_rfl
theorem entry_sub : entryFor table "re.Pattern.sub" = some Builtin.«re.Pattern.sub» := entryFor_of_tree (by kernel_rfl)
theorem entry_loop : entryFor table "re.Pattern.sub.loop" = some Builtin.«re.Pattern.sub.loop» := entryFor_of_tree (by kernel_rfl)
theorem args_sub (a b c : Value) : argsOk "re.Pattern.sub" ⟨[a, b, c], []⟩ := by unfold argsOk; kernel_rfl
theorem plain_pat : PlainAttrs "re.Pattern" := ⟨⟨"object.__getattribute__", by rw [typeLookup_type, builtinLookup_eq_fast]; kernel_rfl, by decide +kernel⟩, by rw [typeLookup_type, builtinLookup_eq_fast]; kernel_rfl⟩

/-- a pattern of texts, without groups -/
structure PatAt (h : Heap) (p : Addr) (code : Array Nat) : Prop where
  at_ : ∃ o vs c oc xs n, h.get? p = some o ∧ o.cls = .type "re.Pattern" ∧ o.dict = none ∧ o.data = .fields vs ∧ vs.getD 6 .none = .int 0 0 ∧ vs.getD 2 .none = .int 0 0 ∧ vs.getD 5 .none = .ref c ∧
    h.get? c = some oc ∧ oc.data = .seq xs n ∧ (xs.map reRawOf).map (·.toNat) = code
theorem PatAt.keeps {h h' : Heap} {p : Addr} {code : Array Nat} (P : PatAt h p code) (hk : ∀ b o, h.get? b = some o → h'.get? b = some o) : PatAt h' p code := by
  obtain ⟨o, vs, c, oc, xs, n, h1, h2, h3, h4, h5, h6, h7, h8, h9⟩ := P.at_
  exact ⟨o, vs, c, oc, xs, n, hk _ _ h1, h2, h3, h4, h5, h6, h7, hk _ _ h8, h9⟩

section
variable {prog : Program} {w : World} {A : Around} {E : Value → Shared → Prop} {s : Shared}

noncomputable abbrev target (p : Addr) (x : Str) (t : Tok) (code : Array Nat) : ReTarget :=
  { pattern := .ref p, string := .str x t, code, text := x.cps, kind := 0, groups := 0, pos := 0, lim := x.cps.size }

theorem wp_target {p : Addr} {code : Array Nat} {x : Str} {t : Tok} {Q : ReTarget → Shared → Prop} (P : PatAt s.heap p code) (h : Q (target p x t code) s) :
    wpAny (model prog w) A (reWholeTarget (.ref p) (.str x t)) Q E s := by
  obtain ⟨o, vs, c, oc, xs, n, h1, h2, h3, h4, h5, h6, h7, h8, h9, h10⟩ := P.at_
  unfold reWholeTarget fieldsOf
  refine wpAny_bind (wpAny_bind (wpAny_load h1 ?_))
  rw [h4]
  refine wpAny_pure ?_
  refine wpAny_bind (wpAny_of_eq (a := (x.cps, 0)) rfl ?_)
  simp only [h5, h6, h7, reRawNat]
  rw [if_neg (by decide), if_neg (by decide)]
  refine wpAny_bind (wpAny_of_eq (a := ()) rfl ?_)
  unfold reRawItems seqItems?
  refine wpAny_bind (wpAny_bind (wpAny_bind (wpAny_load h8 ?_)))
  rw [h9]
  refine wpAny_pure (wpAny_pure (wpAny_pure ?_))
  simp only [Option.getD_some, h10]
  exact h

theorem wp_forIn_still {α : Type} {M : Model} {f : α → PUnit → Sem (ForInStep PUnit)} (hf : ∀ i (s : Shared) (Q : ForInStep PUnit → Shared → Prop), Q (.yield ⟨⟩) s → wpAny M A (f i ⟨⟩) Q E s) :
    ∀ (l : List α) (s : Shared) (Q : PUnit → Shared → Prop), Q ⟨⟩ s → wpAny M A (forIn l PUnit.unit f) Q E s
  | [], s, Q, h => by rw [List.forIn_nil]; exact wpAny_pure h
  | a :: l, s, Q, h => by
    rw [List.forIn_cons]
    exact wpAny_bind (hf a s _ (wp_forIn_still hf l s Q h))

theorem wp_drive {Q : Sre.M → Shared → Prop} : ∀ (turns T : Nat) (m : Sre.M), (iter T m).outcome.isSome = true → T ≤ 4 * turns → 0 < turns → Q (iter T m) s →
    wpAny (model prog w) A (reDrive turns m) Q E s
  | 0, _, _, _, _, h, _ => absurd h (Nat.lt_irrefl _)
  | turns + 1, T, m, ho, hT, _, h => by
    have e4 : Sre.M.runFor reTurnSteps m = iter 4 m := runFor_eq 4 m
    show wpAny _ _ (if (Sre.M.runFor reTurnSteps m).outcome.isSome then pure (Sre.M.runFor reTurnSteps m) else do rule "sre.turn"; reDrive turns (Sre.M.runFor reTurnSteps m)) Q E s
    rw [e4]
    cases hq : (iter 4 m).outcome.isSome with
    | true =>
      rw [if_pos rfl]
      have e : iter T m = iter 4 m := by
        by_cases hT4 : T ≤ 4
        · have : iter 4 m = iter (4 - T) (iter T m) := by rw [← iter_add]; congr 1; (first | lia | omega)
          rw [this, iter_done ho]
        · have : iter T m = iter (T - 4) (iter 4 m) := by rw [← iter_add]; congr 1; (first | lia | omega)
          rw [this, iter_done hq]
      rw [e] at h
      exact wpAny_pure h
    | false =>
      rw [if_neg Bool.false_ne_true]
      have hT4 : 4 < T := by
        apply Nat.lt_of_not_le
        intro hle
        have : iter 4 m = iter (4 - T) (iter T m) := by rw [← iter_add]; congr 1; (first | lia | omega)
        rw [this, iter_done ho, ho] at hq
        cases hq
      have e : iter T m = iter (T - 4) (iter 4 m) := by rw [← iter_add]; congr 1; (first | lia | omega)
      rw [e] at ho h
      exact wpAny_bind (wpAny_rule (wp_drive turns (T - 4) (iter 4 m) ho (by (first | lia | omega)) (by (first | lia | omega)) h))

theorem wp_toEnd {Q : Option Sre.M → Shared → Prop} {m : Sre.M} {n : Nat} {P : Sre.M → Prop} (hn : n ≤ 1000000000) (h : Reach m n P)
    (hP : ∀ m', P m' → (m'.outcome = some .failed ∧ Q none s) ∨ (m'.outcome = some .matched ∧ Q (some m') s)) :
    wpAny (model prog w) A (reRunToEnd m) Q E s := by
  obtain ⟨k, hk, h⟩ := h
  have hq := hP _ h
  have ho : (iter k m).outcome.isSome = true := by rcases hq with ⟨e, _⟩ | ⟨e, _⟩ <;> rw [e] <;> rfl
  unfold reRunToEnd
  have hpow : k ≤ 4 * 2 ^ 64 := by (first | lia | omega)
  refine wpAny_bind (wp_drive (2 ^ 64) k m ho hpow (by decide) ?_)
  refine wpAny_bind (wp_forIn_still (fun i s Q h => ?_) _ _ _ ?_)
  · cases hi : (iter k m).seen.has i with
    | true => exact wpAny_bind (wpAny_rule (wpAny_pure h))
    | false => exact wpAny_pure h
  · rcases hq with ⟨e, q⟩ | ⟨e, q⟩
    · rw [e]; exact wpAny_pure q
    · rw [e]; exact wpAny_pure q

theorem wp_push {D : Addr} {xs : Array Value} {v : Value} {Q : Unit → Shared → Prop} (hl : s.heap.IsList D xs) (hz : xs.size < sizeLine)
    (h : ∀ h', h'.IsList D (xs.push v) → Heap.SameBut D s.heap h' → Q () { s with heap := h' }) :
    wpAny (model prog w) A (updateSeq D (·.push v)) Q E s := by
  obtain ⟨o, ho, hc, n, hd⟩ := hl
  refine wpAny_updateSeq ho hd (h _ ?_ (Heap.SameBut.update ..)) (Nat.le_of_lt hz) (by simp; (first | lia | omega))
  obtain ⟨c, d, dt, sl⟩ := o
  dsimp only at hc hd
  subst hc hd
  refine ⟨_, Heap.get?_update_self _ ho rfl, rfl, _, rfl⟩

/-- what is joined -/
noncomputable def joined (parts : List (Str × Tok)) : List Nat := (parts.map (fun p => p.1.cps.toList)).flatten
theorem joined_snoc (parts : List (Str × Tok)) (p : Str × Tok) : joined (parts ++ [p]) = joined parts ++ p.1.cps.toList := by simp [joined]
theorem glued_empty_go : ∀ (l : List Str) (a : Array Nat), (l.foldl (fun acc p => acc ++ Str.empty.cps ++ p.cps) a).toList = a.toList ++ (l.map (fun p => p.cps.toList)).flatten
  | [], a => by simp
  | p :: l, a => by
    rw [List.foldl_cons, glued_empty_go l]
    have : (a ++ Str.empty.cps ++ p.cps).toList = a.toList ++ p.cps.toList := by simp [Str.empty]
    rw [this]; simp
theorem glued_empty (parts : List (Str × Tok)) : (Txt.join Str.empty (parts.map (·.1))).cps.toList = joined parts := by
  unfold Txt.join PySem.Builtin.Str.glued
  dsimp only
  rw [glued_empty_go]
  cases parts with
  | nil => rfl
  | cons p r => simp [joined, List.map_map, Function.comp_def]
theorem fold_len : ∀ (l : List Str) (k : Nat), l.foldl (fun a p => a + p.length + Str.empty.length) k = k + ((l.map (fun p => p.cps.toList)).flatten).length
  | [], k => by simp
  | p :: l, k => by
    rw [List.foldl_cons, fold_len l]
    have : Str.empty.length = 0 := rfl
    rw [this]
    have : p.length = p.cps.toList.length := by simp [Str.length]
    simp only [List.map_cons, List.flatten_cons, List.length_append]
    (first | lia | omega)
theorem joinOk_empty (parts : List (Str × Tok)) (h : (joined parts).length ≤ sizeLine) : JoinOk Str.empty (parts.map (·.1)) = true := by
  unfold JoinOk PySem.Builtin.Str.tooLong
  rw [List.foldl_toArray, fold_len]
  have e : ((parts.map (·.1)).map (fun p => p.cps.toList)).flatten = joined parts := by simp [joined, List.map_map, Function.comp_def]
  rw [e]
  simp; (first | lia | omega)

theorem slice_toList (x : Array Nat) (i j : Nat) : (x.extract i j).toList = (x.toList.take j).drop i := by
  rw [Array.toList_extract, List.extract_eq_take_drop, List.drop_take]
end

/-- what the rest of a text becomes: told by the search -/
noncomputable def Tells (code text : Array Nat) (rep : List Nat) (B : Nat) (out : Nat → List Nat) : Prop :=
  ∀ i, i ≤ text.size → Reach (Sre.forSearch code text 0 i text.size false) B (fun m =>
    (m.outcome = some .failed ∧ out i = text.toList.drop i) ∨
    (∃ j e, i ≤ j ∧ j < e ∧ e ≤ text.size ∧ m.outcome = some .matched ∧ m.start = j ∧ m.handed = e ∧ out i = (text.toList.take j).drop i ++ rep ++ out e))

section
variable {prog : Program} {w : World} {A : Around}

theorem quiet_loop (args : Args) : (Code.builtin "re.Pattern.sub.loop" args).quiet = true := plainId_quiet (by decide +kernel) args
theorem under_loop (args : Args) : A.under (.builtin "re.Pattern.sub.loop" args) = A.in1 := Around.under_plainId (by decide +kernel) args

theorem sub_loop {p : Addr} {code : Array Nat} {x rep : Str} {t tr : Tok} {D : Addr} {out : Nat → List Nat} {B : Nat} (hB : B ≤ 1000000000)
    (hT : Tells code x.cps rep.cps.toList B out) {R : Result → Shared → Prop} :
    ∀ (d i : Nat) (n : Int) (parts : List (Str × Tok)) (s : Shared), i + d = x.cps.size → parts.length ≤ 2 * i → x.cps.size ≤ 4000000 →
      (joined parts ++ out i).length ≤ sizeLine → (∀ j, i ≤ j → j ≤ x.cps.size → (out j).length ≤ sizeLine) →
      PatAt s.heap p code → s.heap.IsList D (strValues parts).toArray → (∀ h', Heap.ExtBut D s.heap h' → PatAt h' p code) →
      (∀ y t' h' tk', y.cps.toList = joined parts ++ out i → Heap.ExtBut D s.heap h' → R (.ok (.ret (.str y t'))) { s with heap := h', toks := tk' }) →
      codeAny (model prog w) A (.builtin "re.Pattern.sub.loop" ⟨[.ref p, .str x t, .str rep tr, rawInt 0, rawInt 0, rawInt n, rawInt i, rawInt i, .bool false, .ref D, .bool false], []⟩) R s := by
  intro d
  induction d using Nat.strongRecOn with
  | ind d ih =>
  intro i n parts s hid hpl hxs hlen hout P hl hPk hR
  have hsz : sizeLine = 16777216 := rfl
  have hxz : x.cps.size ≤ sizeLine := Nat.le_trans hxs (by decide)
  refine codeAny_builtin entry_loop ?_
  rw [under_loop]
  unfold Builtin.«re.Pattern.sub.loop»
  dsimp only [rawInt]
  refine wpAny_bind (wp_target P ?_)
  dsimp only [target]
  rw [if_pos (by decide)]
  refine wpAny_bind (wpAny_of_eq (a := ()) rfl ?_)
  rw [if_neg (by simp)]
  have hi : ((i : Int)).toNat = i := by (first | lia | omega)
  rw [hi]
  unfold reNextFound
  dsimp only
  refine wpAny_bind (wp_toEnd hB (hT i (by (first | lia | omega))) fun m hm => ?_)
  rcases hm with ⟨hf, ho⟩ | ⟨j, e, hij, hje, hex, hmt, hst, hhd, ho⟩
  · -- no more
    refine .inl ⟨hf, ?_⟩
    dsimp only
    have hsl : ∀ b e' (s' : Shared) (Q : Value → Shared → Prop), Q (.str ⟨x.cps.extract b e'⟩ s'.toks) { s' with toks := s'.toks + 1 } → wpAny (model prog w) A.in1 (reSlice x.cps 0 b e') Q (fun e s' => R (.error e) s') s' := by
      intro b e' s' Q h
      unfold reSlice
      rw [if_pos (by decide)]
      exact wpAny_mkStr h (by show (x.cps.extract b e').size ≤ sizeLine; rw [Array.size_extract]; exact Nat.le_trans (Nat.sub_le _ _) (Nat.le_trans (Nat.min_le_right _ _) hxz))
    have fin : ∀ (s' : Shared) (parts' : List (Str × Tok)), (∃ h' tk', s' = { s with heap := h', toks := tk' } ∧ Heap.ExtBut D s.heap h') → s'.heap.IsList D (strValues parts').toArray → joined parts' = joined parts ++ out i →
        wpAny (model prog w) A.in1 (do
          let joiner ← reSlice x.cps 0 0 0
          let text ← if ((← seqItems? (.ref D)).getD #[]).isEmpty then pure joiner
            else call (.builtin (if (0 : Nat) == 0 then "str.join" else "bytes.join")) [joiner, .ref D]
          if false then ret (← holding [text] do newTuple [text, ← mkInt n]) else ret text)
          (fun fin s' => match fin with | .done f => R (.ok f) s' | .again c' => c'.quiet = true ∧ codeAny (model prog w) A c' R s') (fun e s' => R (.error e) s') s' := by
      rintro s' parts' ⟨h', tk', rfl, hx⟩ hl' hj
      refine wpAny_bind (hsl 0 0 _ _ ?_)
      have he : (⟨x.cps.extract 0 0⟩ : Str) = Str.empty := by
        have : x.cps.extract 0 0 = #[] := by apply Array.ext'; simp
        rw [this]; rfl
      rw [he]
      obtain ⟨o, hoo, hc, nn, hd⟩ := id hl'
      refine wpAny_bind (m := seqItems? (.ref D)) ?_
      unfold seqItems?
      refine wpAny_bind (wpAny_load hoo ?_)
      rw [hd]
      refine wpAny_pure ?_
      simp only [Option.getD_some]
      cases hp : parts' with
      | nil =>
        subst hp
        rw [if_pos (by rfl)]
        refine wpAny_bind (wpAny_pure ?_)
        rw [if_neg (by decide)]
        refine wpAny_pure ?_
        have hj' : joined parts ++ out i = [] := hj.symm
        exact hR Str.empty _ h' _ (by rw [hj']; rfl) hx
      | cons q r =>
        rw [← hp]
        rw [if_neg (by rw [hp]; simp [strValues])]
        rw [if_pos (by decide)]
        refine wpAny_bind (SC.join hl' rfl (joinOk_empty parts' (by rw [hj]; exact hlen)) fun t' k => ?_)
        rw [if_neg (by decide)]
        refine wpAny_pure ?_
        exact hR _ t' h' _ (by rw [glued_empty, hj]) hx
    by_cases hlt : i < x.cps.size
    · rw [if_pos hlt]
      refine wpAny_bind (hsl i x.cps.size _ _ ?_)
      refine wpAny_bind (wp_push hl (by simp [strValues]; (first | lia | omega)) fun h' hl' hs' => ?_)
      refine fin _ (parts ++ [(⟨x.cps.extract i x.cps.size⟩, s.toks)]) ⟨h', _, rfl, hs'.extBut⟩ (by simpa [strValues] using hl') ?_
      rw [joined_snoc, slice_toList, ho, List.take_of_length_le (by simp)]
    · rw [if_neg hlt]
      refine fin s parts ⟨s.heap, s.toks, rfl, Heap.ExtBut.refl _ _⟩ hl ?_
      rw [ho]
      have : x.cps.toList.drop i = [] := by rw [List.drop_eq_nil_iff]; simp; (first | lia | omega)
      rw [this, List.append_nil]
  · -- one more
    refine .inr ⟨hmt, ?_⟩
    dsimp only
    rw [hst, hhd]
    have go : ∀ (s' : Shared) (parts' : List (Str × Tok)), (∃ h' tk', s' = { s with heap := h', toks := tk' } ∧ Heap.ExtBut D s.heap h') → s'.heap.IsList D (strValues parts').toArray → parts'.length ≤ parts.length + 1 → joined parts' = joined parts ++ (x.cps.toList.take j).drop i →
        wpAny (model prog w) A.in1 (do
          let item ← pure (Value.str rep tr)
          if item != .none then updateSeq D (·.push item)
          again (.builtin "re.Pattern.sub.loop" ⟨[.ref p, .str x t, .str rep tr, rawInt 0, rawInt 0, rawInt (n + 1), rawInt e, rawInt e, .bool (e == j), .ref D, .bool false], []⟩))
          (fun fin s' => match fin with | .done f => R (.ok f) s' | .again c' => c'.quiet = true ∧ codeAny (model prog w) A c' R s') (fun e s' => R (.error e) s') s' := by
      rintro s' parts' ⟨h', tk', rfl, hx⟩ hl' hpl' hj
      refine wpAny_bind (wpAny_pure ?_)
      rw [if_pos (by rfl)]
      refine wpAny_bind (wp_push hl' (by simp [strValues]; (first | lia | omega)) fun h₂ hl₂ hs₂ => ?_)
      have hej : (e == j) = false := by simp; (first | lia | omega)
      rw [hej]
      have hx₂ : Heap.ExtBut D s.heap h₂ := hx.trans hs₂.extBut
      refine wpAny_pure ⟨quiet_loop _, ?_⟩
      have hl₃ : h₂.IsList D (strValues (parts' ++ [(rep, tr)])).toArray := by simpa [strValues] using hl₂
      have hjj : joined (parts' ++ [(rep, tr)]) ++ out e = joined parts ++ out i := by
        rw [joined_snoc, hj, ho]; simp
      refine ih (x.cps.size - e) (by (first | lia | omega)) e (n + 1) (parts' ++ [(rep, tr)]) { s with heap := h₂, toks := tk' } (by (first | lia | omega)) (by simp; (first | lia | omega)) hxs (by rw [hjj]; exact hlen) (fun k h1 h2 => hout k (by (first | lia | omega)) h2) (hPk _ hx₂) hl₃ (fun h₃ hx₃ => hPk _ (hx₂.trans hx₃)) fun y t' h₃ tk₃ hy hx₃ => ?_
      exact hR y t' h₃ tk₃ (by rw [hy, hjj]) (hx₂.trans hx₃)
    by_cases hlt : i < j
    · rw [if_pos hlt]
      refine wpAny_bind (m := reSlice x.cps 0 i j) ?_
      unfold reSlice
      rw [if_pos (by decide)]
      refine wpAny_mkStr ?_ (by show (x.cps.extract i j).size ≤ sizeLine; rw [Array.size_extract]; exact Nat.le_trans (Nat.sub_le _ _) (Nat.le_trans (Nat.min_le_right _ _) hxz))
      refine wpAny_bind (wp_push hl (by simp [strValues]; (first | lia | omega)) fun h' hl' hs' => ?_)
      rw [if_pos (by decide)]
      refine go _ (parts ++ [(⟨x.cps.extract i j⟩, s.toks)]) ⟨h', _, rfl, hs'.extBut⟩ (by simpa [strValues] using hl') (by simp) ?_
      rw [joined_snoc, slice_toList]
    · rw [if_neg hlt]
      rw [if_pos (by decide)]
      refine go s parts ⟨s.heap, s.toks, rfl, Heap.ExtBut.refl _ _⟩ hl (by (first | lia | omega)) ?_
      have : (x.cps.toList.take j).drop i = [] := by rw [List.drop_eq_nil_iff]; simp; (first | lia | omega)
      rw [this, List.append_nil]

theorem sub_call {E : Value → Shared → Prop} {p : Addr} {code : Array Nat} {x rep : Str} {t tr : Tok} {out : Nat → List Nat} {B : Nat} (hB : B ≤ 1000000000) {s : Shared} {Q : Value → Shared → Prop}
    (hT : Tells code x.cps rep.cps.toList B out) (hxs : x.cps.size ≤ 4000000) (hout : ∀ j, j ≤ x.cps.size → (out j).length ≤ sizeLine) (hrep : rep.cps.contains 92 = false) (P : PatAt s.heap p code)
    (hQ : ∀ y t' h' tk', y.cps.toList = out 0 → (∀ b o, s.heap.get? b = some o → h'.get? b = some o) → Q (.str y t') { s with heap := h', toks := tk' }) :
    wpAny (model prog w) A (call (.builtin "re.Pattern.sub") [.ref p, .str rep tr, .str x t]) Q E s := by
  obtain ⟨o, vs, c, oc, xs, n, h1, h2, h3, _⟩ := id P.at_
  have hTy : s.TypeIs (.ref p) "re.Pattern" := ⟨o, h1, h2⟩
  refine wpAny_call (codeAny_call_builtin slot_sub.plain entry_sub (slot_sub.check _ _ _ _ _ _ _ _ hTy (args_sub _ _ _) ?_))
  unfold Builtin.«re.Pattern.sub» reSubstitute
  dsimp only
  refine wpAny_bind (wpAny_of_eq (a := [some (Value.str rep tr), some (Value.str x t), none]) (by rfl) ?_)
  dsimp only
  refine wpAny_bind (wpAny_pure ?_)
  refine wpAny_bind (wpAny_specialOf (r := none) (typeIs_str _ _ _) (by rw [typeLookup_type, builtinLookup_eq_fast]; kernel_rfl) ?_)
  rw [if_neg (by decide)]
  refine wpAny_bind (wpAny_of_eq (a := some rep) rfl ?_)
  dsimp only
  refine wpAny_bind (wpAny_pure ?_)
  rw [hrep, if_neg (by decide), if_pos (by decide)]
  refine wpAny_bind (wpAny_pure ?_)
  refine wpAny_bind (wpAny_holding (wp_target P ?_))
  rw [if_neg (by simp)]
  unfold newList
  refine wpAny_bind (wpAny_newObj_type ?_ (by size_fits))
  refine wpAny_pure ⟨quiet_loop _, ?_⟩
  have hlt : ∀ b o, s.heap.get? b = some o → b ≠ s.heap.objs.size := fun b o e => Nat.ne_of_lt (Heap.lt_size e)
  have hk : ∀ h', Heap.ExtBut s.heap.objs.size (s.heap.push { cls := .type "list", data := .seq #[] }) h' → ∀ b o, s.heap.get? b = some o → h'.get? b = some o :=
    fun h' hx b o e => hx b o (hlt b o e) (Heap.get?_push_of_some _ e)
  refine sub_loop hB hT x.cps.size 0 0 [] _ (by (first | lia | omega)) (by simp) hxs (by simpa [joined] using hout 0 (Nat.zero_le _)) (fun j _ h2 => hout j h2) (P.keeps fun b o e => Heap.get?_push_of_some _ e)
    ⟨_, Heap.get?_push_size _ rfl, rfl, 0, rfl⟩ (fun h' hx => P.keeps (hk h' hx)) fun y t' h' tk' hy hx => ?_
  exact hQ y t' h' tk' (by simpa [joined] using hy) (hk h' hx)
end

/-! what the two patterns make of a text -/
noncomputable def norm : Bool → List Nat → List Nat
  | _, [] => []
  | b, c :: r => if b = true ∧ c = 10 then norm false r else if isEnd c = true then 13 :: 10 :: norm (c == 13) r else c :: norm false r
noncomputable def dots : Bool → List Nat → List Nat
  | _, [] => []
  | b, c :: r => if b = true ∧ c = 46 then 46 :: 46 :: dots false r else c :: dots (c == 10) r
/-- quotedata -/
noncomputable def quoted (x : List Nat) : List Nat := dots true (norm false x)

theorem norm_free : ∀ (l r : List Nat), (∀ c ∈ l, isEnd c = false) → norm false (l ++ r) = l ++ norm false r
  | [], r, _ => rfl
  | c :: l, r, h => by
    have hc := h c (.head _)
    show norm false (c :: (l ++ r)) = c :: (l ++ norm false r)
    rw [norm, if_neg (by simp), hc, if_neg (by decide), norm_free l r fun d hd => h d (.tail _ hd)]
theorem norm_len : ∀ (b : Bool) (l : List Nat), (norm b l).length ≤ 2 * l.length
  | _, [] => Nat.le_refl _
  | b, c :: l => by
    have h1 := norm_len false l
    have h2 := norm_len (c == 13) l
    unfold norm
    split
    · simp; (first | lia | omega)
    · split <;> simp <;> (first | lia | omega)
theorem dots_len : ∀ (b : Bool) (l : List Nat), (dots b l).length ≤ 2 * l.length
  | _, [] => Nat.le_refl _
  | b, c :: l => by
    have h1 := dots_len false l
    have h2 := dots_len (c == 10) l
    unfold dots
    split <;> simp <;> (first | lia | omega)
theorem drop_split (l : List Nat) (i j : Nat) (h : i ≤ j) : l.drop i = (l.take j).drop i ++ l.drop j := by
  have e : l = l.take j ++ l.drop j := (List.take_append_drop j l).symm
  by_cases hj : j ≤ l.length
  · conv => lhs; rw [e]
    rw [List.drop_append_of_le_length (by rw [List.length_take]; (first | lia | omega))]
  · have : l.take j = l := List.take_of_length_le (by (first | lia | omega))
    rw [this, List.drop_eq_nil_of_le (as := l) (i := j) (by (first | lia | omega)), List.append_nil]
theorem mem_span {l : Array Nat} {i j c : Nat} (h : c ∈ (l.toList.take j).drop i) : ∃ k, i ≤ k ∧ k < j ∧ k < l.size ∧ l.getD k 0 = c := by
  obtain ⟨k, hk, rfl⟩ := List.mem_iff_getElem.mp h
  rw [List.length_drop, List.length_take] at hk
  have hl : l.toList.length = l.size := by simp
  refine ⟨i + k, by (first | lia | omega), by (first | lia | omega), by (first | lia | omega), ?_⟩
  have : i + k < l.size := by (first | lia | omega)
  simp [Array.getD, this]
theorem drop_cons {l : Array Nat} {i : Nat} (h : i < l.size) : l.toList.drop i = l.getD i 0 :: l.toList.drop (i + 1) := by
  rw [List.drop_eq_getElem_cons (by simpa using h)]
  simp [Array.getD, h]

theorem norm_any (b b' : Bool) (c : Nat) (r : List Nat) (h : ¬ c = 10) : norm b (c :: r) = norm b' (c :: r) := by
  have e : ∀ b, norm b (c :: r) = if isEnd c = true then 13 :: 10 :: norm (c == 13) r else c :: norm false r := fun b => by rw [norm]; exact if_neg fun q => h q.2
  rw [e, e]
theorem tells2 (text : Array Nat) : Tells code2 text [13, 10] 32 (fun i => norm false (text.toList.drop i)) := by
  intro i hi
  obtain ⟨k, hk, h⟩ := search2 text text.size i hi
  refine ⟨k, hk, ?_⟩
  rcases h with ⟨h1, h2⟩ | ⟨j, h1, h2, h3, h4, h5, h6, h7⟩
  · refine .inl ⟨h1, ?_⟩
    have := norm_free (text.toList.drop i) [] (fun c hc => by
      have hc' : c ∈ (text.toList.take text.size).drop i := by rw [List.take_of_length_le (by simp)]; exact hc
      obtain ⟨k, k1, k2, _, rfl⟩ := mem_span hc'
      exact h2 k k1 k2)
    simpa [norm] using this
  · have hle : 1 ≤ endLen text text.size j ∧ j + endLen text text.size j ≤ text.size := by
      by_cases hc : text.getD j 0 = 13 ∧ j + 1 < text.size ∧ text.getD (j + 1) 0 = 10
      · rw [show endLen text text.size j = 2 from if_pos hc]; have := hc.2.1; (first | lia | omega)
      · rw [show endLen text text.size j = 1 from if_neg hc]; (first | lia | omega)
    refine .inr ⟨j, j + endLen text text.size j, h1, by (first | lia | omega), by (first | lia | omega), h5, h6, h7, ?_⟩
    dsimp only
    rw [drop_split text.toList i j h1, norm_free _ _ (fun c hc => by
      obtain ⟨k, k1, k2, _, rfl⟩ := mem_span hc
      exact h4 k k1 k2), List.append_assoc]
    congr 1
    rw [drop_cons h2, norm, if_neg (by simp), if_pos h3]
    suffices hn : norm (text.getD j 0 == 13) (text.toList.drop (j + 1)) = norm false (text.toList.drop (j + endLen text text.size j)) by rw [hn]; rfl
    by_cases hc : text.getD j 0 = 13 ∧ j + 1 < text.size ∧ text.getD (j + 1) 0 = 10
    · rw [show endLen text text.size j = 2 from if_pos hc, hc.1, drop_cons hc.2.1, norm, hc.2.2, if_pos ⟨rfl, rfl⟩]
    · rw [show endLen text text.size j = 1 from if_neg hc]
      by_cases h13 : text.getD j 0 = 13
      · by_cases hl : j + 1 < text.size
        · have hne : ¬ text.getD (j + 1) 0 = 10 := fun q => hc ⟨h13, hl, q⟩
          rw [drop_cons hl]
          exact norm_any _ _ _ _ hne
        · rw [List.drop_eq_nil_of_le (by simp; (first | lia | omega)), norm, norm]
      · have : (text.getD j 0 == 13) = false := by simpa using h13
        rw [this]

noncomputable def frontAt (text : Array Nat) (i : Nat) : Bool := i == 0 || text.getD (i - 1) 0 == 10
theorem dots_free (text : Array Nat) : ∀ (d i j : Nat), i + d = j → j ≤ text.size → (∀ k, i ≤ k → k < j → ¬ dotAt text k) →
    dots (frontAt text i) (text.toList.drop i) = (text.toList.take j).drop i ++ dots (frontAt text j) (text.toList.drop j)
  | 0, i, j, e, hj, _ => by
    have e' : i = j := by (first | lia | omega)
    subst e'
    have e2 : (text.toList.take i).drop i = [] := List.drop_eq_nil_of_le (by rw [List.length_take]; (first | lia | omega))
    rw [e2, List.nil_append]
  | d + 1, i, j, e, hj, h => by
    have hi : i < text.size := by (first | lia | omega)
    have hn := h i (Nat.le_refl _) (by (first | lia | omega))
    rw [drop_cons hi, dots, if_neg fun q => hn ⟨q.1, q.2⟩]
    have e1 : (text.toList.take j).drop i = text.getD i 0 :: (text.toList.take j).drop (i + 1) := by
      rw [List.drop_eq_getElem_cons (by rw [List.length_take]; simp; (first | lia | omega))]
      simp [Array.getD, hi]
    rw [e1]
    have e2 : (text.getD i 0 == 10) = frontAt text (i + 1) := by simp [frontAt]
    rw [e2, dots_free text d (i + 1) j (by (first | lia | omega)) hj fun k h1 h2 => h k (by (first | lia | omega)) h2]
    rfl

theorem tells1 (text : Array Nat) : Tells code1 text [46, 46] (3 * text.size + 9) (fun i => dots (frontAt text i) (text.toList.drop i)) := by
  intro i hi
  obtain ⟨k, hk, h⟩ := search1 text text.size i hi
  refine ⟨k, hk, ?_⟩
  rcases h with ⟨h1, h2⟩ | ⟨j, h1, h2, h3, h4, h5, h6, h7⟩
  · refine .inl ⟨h1, ?_⟩
    dsimp only
    rw [dots_free text (text.size - i) i text.size (by (first | lia | omega)) (Nat.le_refl _) h2, List.take_of_length_le (by simp), List.drop_eq_nil_of_le (i := text.size) (by simp), dots, List.append_nil]
  · refine .inr ⟨j, j + 1, h1, by (first | lia | omega), by (first | lia | omega), h5, h6, h7, ?_⟩
    dsimp only
    rw [dots_free text (j - i) i j (by (first | lia | omega)) (by (first | lia | omega)) h4, List.append_assoc]
    congr 1
    have hf : frontAt text j = true := h3.1
    rw [drop_cons h2, dots, hf, h3.2, if_pos ⟨rfl, rfl⟩]
    have e2 : frontAt text (j + 1) = false := by
      show (j + 1 == 0 || text.getD j 0 == 10) = false
      rw [h3.2]; simp
    rw [e2]; rfl
end Mine.Re

namespace Mine
open PySem PySem.W PySem.Calls PyProof.Rows

theorem allLt_all {d : Nat} {l : List (Addr × Obj)} (h : AllLt d l) : ∀ p ∈ l, p.1 < d := by
  induction l with
  | nil => exact List.forall_mem_nil _
  | cons q r ih => exact List.forall_mem_cons.mpr ⟨h.1, ih h.2⟩

noncomputable def Hold (P : Prop) : Prop := P
theorem hold {P : Prop} (h : Hold P) : P := h

section
variable {prog : Program} {w : World} {A : Around} {E : Value → Shared → Prop} {s : Shared} {env : Env} {h₀ : Heap} {L : Addr} {x : Str} {px : Pos} {body : List Stmt} {Q : Flow → Shared → Prop} {σ : Type}

/-- the names of a frame at a turn: those told, those forgotten, the rest as it was -/
noncomputable abbrev nm (m₀ u : Str → Option Value) (stored : List Str) (ps : List (Str × Value)) : Str → Option Value := kstB (fun z => if stored.contains z then u z else m₀ z) ps

noncomputable def Names (x : Option Str) (m₀ m : Str → Option Value) (stored : List Str) (ps : List (Str × Value)) : Prop :=
  (∀ p ∈ ps, m p.1 = some p.2) ∧ ∀ z, some z ≠ x → (∀ p ∈ ps, z ≠ p.1) → stored.contains z = false → m z = m₀ z
theorem Names.eq {x : Option Str} {m₀ m : Str → Option Value} {stored : List Str} {ps : List (Str × Value)} (H : Names x m₀ m stored ps) {y : Str} (hy : some y ≠ x) : nm m₀ m stored ps y = m y := by
  refine kstB_eq H.1 fun hn => ?_
  show (if stored.contains y = true then m y else m₀ y) = m y
  cases h3 : stored.contains y with
  | true => simp
  | false => simp only [Bool.false_eq_true, if_false]; exact (H.2 y hy hn h3).symm
theorem Names.fr {m₀ m : Str → Option Value} {stored : List Str} {ps : List (Str × Value)} {h : Heap} {v : Value} (H : Names (some x) m₀ m stored ps) (F : Fr h₀ L h (fun y => if y = x then some v else m y)) :
    Fr h₀ L h (fun y => if y = x then some v else nm m₀ m stored ps y) := by
  have em : (fun y => if y = x then some v else nm m₀ m stored ps y) = fun y => if y = x then some v else m y := by
    funext y
    by_cases hy : y = x
    · rw [if_pos hy, if_pos hy]
    · rw [if_neg hy, if_neg hy]
      exact H.eq fun q => hy (Option.some.inj q)
  rw [em]; exact F
theorem Names.frOut {m₀ m : Str → Option Value} {stored : List Str} {ps : List (Str × Value)} {h : Heap} (H : Names (some x) m₀ m stored ps) (F : Fr h₀ L h m) :
    Fr h₀ L h (fun y => if y = x then m y else nm m₀ m stored ps y) := by
  have em : (fun y => if y = x then m y else nm m₀ m stored ps y) = m := by
    funext y
    by_cases hy : y = x
    · rw [if_pos hy]
    · rw [if_neg hy]
      exact H.eq fun q => hy (Option.some.inj q)
  rw [em]; exact F
theorem Names.frW {m₀ m : Str → Option Value} {stored : List Str} {ps : List (Str × Value)} {h : Heap} (H : Names none m₀ m stored ps) (F : Fr h₀ L h m) : Fr h₀ L h (nm m₀ m stored ps) := by
  have em : nm m₀ m stored ps = m := by funext y; exact H.eq (by intro q; cases q)
  rw [em]; exact F

/-- the end of a turn -/
noncomputable def SEnd (h₀ : Heap) (L : Addr) (x : Option Str) (m₀ : Str → Option Value) (stored : List Str) (Led : σ → List (Addr × Obj)) (ps : σ → List (Str × Value)) (P : σ → Prop) (keep : List (Addr × Obj)) (s s₃ : Shared) : Prop :=
  LEnd h₀ L (fun m nx => ∃ c, nx = Led c ∧ P c ∧ Names x m₀ m stored (ps c)) keep s s₃
theorem SEnd.intro {y : Option Str} {m₀ : Str → Option Value} {stored : List Str} {Led : σ → List (Addr × Obj)} {ps : σ → List (Str × Value)} {P : σ → Prop} {keep : List (Addr × Obj)} {h' : Heap} {tk' : Nat} {m' : Str → Option Value} {news' : List (Addr × Obj)} (c : σ)
    (F : Fr h₀ L h' m') (N : News h₀ L h' news') (hk : ∀ p ∈ keep, p ∈ news') (hn : ∀ p ∈ Led c, p ∈ news') (ho : ∀ p ∈ Led c, ∀ q ∈ keep, p.1 ≠ q.1) (hv : ∀ p ∈ ps c, m' p.1 = some p.2)
    (hr : ∀ z, some z ≠ y → (∀ p ∈ ps c, z ≠ p.1) → stored.contains z = false → m' z = m₀ z) (hP : P c) :
    SEnd h₀ L y m₀ stored Led ps P keep s { s with heap := h', toks := tk' } := LEnd.intro (Led c) F N hk hn ho ⟨c, rfl, hP, hv, hr⟩

theorem for_listS {l : Addr} {vs : List Value} {m₀ : Str → Option Value} (Led : σ → List (Addr × Obj)) (ps : σ → List (Str × Value)) (stored : List Str) (P : Nat → σ → Prop) (c₀ : σ)
    (hL : env.locals = L) (hh : A.handled = none) (hx : env.kindOf x = some .local)
    (hp : (env.scope.kind == .class || (env.scope.kind == .module && env.locals != env.globals)) = false)
    (F : Fr h₀ L s.heap m₀) (N : News h₀ L s.heap (Led c₀)) (hv : ∀ p ∈ ps c₀, m₀ p.1 = some p.2) (h0 : P 0 c₀)
    (hlist : ∀ i c h m, P i c → Fr h₀ L h m → News h₀ L h (Led c) → h.IsList l vs.toArray)
    (turn : ∀ i v c u h tk it io, vs[i]? = some v → P i c → (∀ p ∈ Led c₀, p.1 < it) → (∀ p ∈ Led c, p.1 ≠ it) →
      Fr h₀ L h (fun y => if y = x then some v else nm m₀ u stored (ps c) y) → News h₀ L h ((it, io) :: Led c) →
      wpAny (model prog w) A (execs body env) (LPost Q (SEnd h₀ L (some x) m₀ stored Led ps (P (i + 1)) [(it, io)] { s with heap := h, toks := tk })) (fun _ _ => False) { s with heap := h, toks := tk })
    (done : ∀ c u h tk, P vs.length c → Fr h₀ L h (fun y => if y = x then u y else nm m₀ u stored (ps c) y) → News h₀ L h (Led c) → Q .next { s with heap := h, toks := tk }) :
    wpAny (model prog w) A (pyIter (.ref l)) (fun it s₂ => codeAny (model prog w) A (.forLoop (.Name x px) it body [] env) (fun r s' => match r with | .ok f => Q f s' | .error e => cameBackBy (model prog w) A env E e s') s₂) E s := by
  refine for_list (vs := vs) (fun i m nx => ∃ c, nx = Led c ∧ P i c ∧ Names (some x) m₀ m stored (ps c)) hL hh hx hp F N ⟨c₀, rfl, h0, hv, fun _ _ _ _ => rfl⟩ ?_ ?_ ?_
  · rintro i m nx h ⟨c, rfl, hc, _⟩ F' N'
    exact hlist i c h m hc F' N'
  · rintro i v m nx h tk it io hvv ⟨c, rfl, hc, hn⟩ hlt hoff F' N'
    exact turn i v c m h tk it io hvv hc hlt hoff (hn.fr F') N'
  · rintro m nx h tk ⟨c, rfl, hc, hn⟩ F' N'
    exact done c m h tk hc (hn.frOut F') N'

theorem for_rangeS {r : Addr} {a b : Int} {t u v : Tok} {n : Nat} {m₀ : Str → Option Value} (Led : σ → List (Addr × Obj)) (ps : σ → List (Str × Value)) (stored : List Str) (P : Nat → σ → Prop) (c₀ : σ)
    (hL : env.locals = L) (hh : A.handled = none) (hx : env.kindOf x = some .local)
    (hp : (env.scope.kind == .class || (env.scope.kind == .module && env.locals != env.globals)) = false)
    (hr : IsRange s.heap r a b 1 t u v) (hsmall : Builtin.Range.small a b 1 = true) (hn : Builtin.Range.rangeSize a b 1 = (n : Int))
    (F : Fr h₀ L s.heap m₀) (N : News h₀ L s.heap (Led c₀)) (hv : ∀ p ∈ ps c₀, m₀ p.1 = some p.2) (h0 : P 0 c₀)
    (turn : ∀ i k t c u h tk it io, i < n → k = a + (i : Int) → P i c → (∀ p ∈ Led c₀, p.1 < it) → (∀ p ∈ Led c, p.1 ≠ it) →
      Fr h₀ L h (fun y => if y = x then some (.int k t) else nm m₀ u stored (ps c) y) → News h₀ L h ((it, io) :: Led c) →
      wpAny (model prog w) A (execs body env) (LPost Q (SEnd h₀ L (some x) m₀ stored Led ps (P (i + 1)) [(it, io)] { s with heap := h, toks := tk })) (fun _ _ => False) { s with heap := h, toks := tk })
    (done : ∀ c u h tk, P n c → Fr h₀ L h (fun y => if y = x then u y else nm m₀ u stored (ps c) y) → News h₀ L h (Led c) → Q .next { s with heap := h, toks := tk }) :
    wpAny (model prog w) A (pyIter (.ref r)) (fun it s₂ => codeAny (model prog w) A (.forLoop (.Name x px) it body [] env) (fun r s' => match r with | .ok f => Q f s' | .error e => cameBackBy (model prog w) A env E e s') s₂) E s := by
  refine for_range (fun i m nx => ∃ c, nx = Led c ∧ P i c ∧ Names (some x) m₀ m stored (ps c)) hL hh hx hp hr hsmall hn F N ⟨c₀, rfl, h0, hv, fun _ _ _ _ => rfl⟩ ?_ ?_
  · rintro i k t m nx h tk it io hi hk ⟨c, rfl, hc, hn⟩ hlt hoff F' N'
    exact turn i k t c m h tk it io hi hk hc hlt hoff (hn.fr F') N'
  · rintro m nx h tk ⟨c, rfl, hc, hn⟩ F' N'
    exact done c m h tk hc (hn.frOut F') N'

theorem whileS {test : Expr} {pos : Pos} {m₀ : Str → Option Value} (Led : σ → List (Addr × Obj)) (ps : σ → List (Str × Value)) (stored : List Str) (P : σ → Prop) (μ : σ → Nat) (c₀ : σ)
    (F : Fr h₀ L s.heap m₀) (N : News h₀ L s.heap (Led c₀)) (hv : ∀ p ∈ ps c₀, m₀ p.1 = some p.2) (h0 : P c₀)
    (turn : ∀ c u h tk, P c → Fr h₀ L h (nm m₀ u stored (ps c)) → News h₀ L h (Led c) →
      wpAny (model prog w) A (isTrue test env (eval test env)) (fun b s₂ =>
        if b then wpAny (model prog w) A (execs body env) (LPost Q (SEnd h₀ L none m₀ stored Led ps (fun c' => P c' ∧ μ c' < μ c) [] { s with heap := h, toks := tk })) (fun _ _ => False) s₂
        else Q .next s₂) (fun _ _ => False) { s with heap := h, toks := tk }) :
    wpAny (model prog w) A (exec (.While test body [] pos) env) Q E s := by
  refine while_led (fun k m nx => ∃ c, nx = Led c ∧ P c ∧ Names none m₀ m stored (ps c) ∧ k = μ c) (μ c₀) F N ⟨c₀, rfl, h0, ⟨hv, fun _ _ _ _ => rfl⟩, rfl⟩ ?_
  rintro k m nx h tk ⟨c, rfl, hc, hn, rfl⟩ F' N'
  refine wpAny_mono (turn c m h tk hc (hn.frW F') N') (fun b s₂ h₂ => ?_) fun _ _ q => q
  cases b with
  | true =>
    simp only [if_true] at h₂ ⊢
    refine wpAny_mono h₂ (fun f s₃ h₃ => ?_) fun _ _ q => q
    have fin : SEnd h₀ L none m₀ stored Led ps (fun c' => P c' ∧ μ c' < μ c) [] { s with heap := h, toks := tk } s₃ → LEnd h₀ L (fun m nx => ∃ k', k' < μ c ∧ ∃ c, nx = Led c ∧ P c ∧ Names none m₀ m stored (ps c) ∧ k' = μ c) [] { s with heap := h, toks := tk } s₃ := by
      rintro ⟨nx, F₂, N₂, hk, hn₂, ho, c', e', ⟨hP, hm⟩, hN⟩
      exact .intro nx F₂ N₂ hk hn₂ ho ⟨μ c', hm, c', e', hP, hN, rfl⟩
    cases f with
    | next => exact fin h₃
    | cont => exact fin h₃
    | brk => exact h₃
    | ret v => exact h₃
  | false => exact h₂
end

section
variable {prog : Program} {w : World} {A : Around} {E : Value → Shared → Prop} {s : Shared} {h₀ : Heap} {L D : Addr} {m : Str → Option Value} {news news' : List (Addr × Obj)} {vs : List Value} {ns : List Int} {n : Nat}
theorem truthy_M {Q : Bool → Shared → Prop} (N : News h₀ L s.heap news) (hm : (D, listOf vs.toArray n) ∈ news) (hfit : vs.length < 2 ^ 62) (h : ∀ tk, Q (decide (vs.length ≠ 0)) { s with toks := tk }) : wpAny (model prog w) A (truthy (.ref D)) Q E s := by
  refine wpAny_truthy_list (PySem.IsL.isList (n := n) (N _ hm).1) (by rw [List.size_toArray]; (first | lia | omega)) ?_
  have e : (!vs.toArray.isEmpty) = decide (vs.length ≠ 0) := by cases vs <;> simp
  rw [e]; exact h _
theorem len_M {Q : Value → Shared → Prop} (N : News h₀ L s.heap news) (hm : (D, listOf vs.toArray n) ∈ news) (hfit : vs.length < 2 ^ 62) (h : ∀ t tk, Q (.int vs.length t) { s with toks := tk }) : wpAny (model prog w) A (call (.builtin "len") [.ref D]) Q E s := by
  refine call_len_list (PySem.IsL.isList (n := n) (N _ hm).1) (by rw [List.size_toArray]; (first | lia | omega)) ?_
  rw [List.size_toArray]; exact h _ _
end

section
variable {prog : Program} {w : World} {A : Around} {E : Value → Shared → Prop} {s : Shared} {h₀ : Heap} {L l : Addr} {m : Str → Option Value} {news : List (Addr × Obj)}
theorem ints_rep (i : Int) (t : Tok) : ∀ k : Nat, IntsAre (List.replicate k (Value.int i t)) (List.replicate k i)
  | 0 => .nil
  | k + 1 => .cons i t (ints_rep i t k)
/-- [i] * k -/
theorem mulOne {i k : Int} {t u : Tok} {nn : Nat} {Q : Value → Shared → Prop} (F : Fr h₀ L s.heap m) (N : News h₀ L s.heap news) (hm : (l, listOf #[.int i t] nn) ∈ news) (h0 : -1000 ≤ k) (h1 : k ≤ 200)
    (h : ∀ D h' ws, Fr h₀ L h' m → News h₀ L h' ((D, listOf ws.toArray 0) :: news) → (∀ p ∈ news, p.1 < D) → IntsAre ws (List.replicate k.toNat i) → Q (.ref D) { s with heap := h' }) :
    wpAny (model prog w) A (binaryOp .Mult (.ref l) (.int k u)) Q E s := by
  refine KMa.mul (vs := [.int i t]) (ws := List.replicate k.toNat (.int i t)) F N (PySem.IsL.isList (n := nn) (N _ hm).1) (by (first | lia | omega)) (by (first | lia | omega)) (by simp; (first | lia | omega)) (lm_rep_flat_one _ _) fun D h' F' N' l1 => ?_
  exact h D h' _ F' N' l1 (ints_rep i t _)
end
theorem with_upd {h₀ h : Heap} {L D : Addr} {o : Obj} {news : List (Addr × Obj)} {g : Obj → List (Addr × Obj)} {Z : Prop} (N : News h₀ L h news) (U : UpdF D o news g) (k : ∀ G, G = g → News h₀ L h (G o) → Z) : Z := by
  obtain ⟨pre, post, e, e2, _⟩ := U.split
  exact k g rfl (by rw [e2]; rw [e] at N; exact N)
/-! operands that are evaluated at once: a name or a number; no word of what comes behind is copied -/
section
variable {M : Model} {A : Around} {E : Value → Shared → Prop} {env : Env} {s s₁ s₂ : Shared} {v w : Value}
noncomputable def OpV (M : Model) (A : Around) (E : Value → Shared → Prop) (env : Env) (e : PySem.Expr) (s : Shared) (v : Value) (s' : Shared) : Prop := ∀ Q : Value → Shared → Prop, Q v s' → wpAny M A (eval e env) Q E s
theorem op_int {i k pos} : OpV M A E env (.Constant (.int i) k pos) s (.int i s.toks) { s with toks := s.toks + 1 } := fun _ h => wpAny_Constant_int h
theorem op_name {h₀ : Heap} {L a : Addr} {m : Str → Option Value} {cn : Str} {cs : Scope} {ccd : Value} {cl : List (Str × Addr)} {x : Str} {pos : Pos} (F : Fr h₀ L s.heap m) (hv : m x = some v) (hk : cs.kind = .function) (hx : (envX cn cs L a ccd cl).kindOf x = some .local) (hd : (x == ("__debug__" : Str)) = false := by decide) :
    OpV M A E (envX cn cs L a ccd cl) (.Name x pos) s v s := fun _ h => nameX_L F hv h hk hx hd
theorem binop_op {l r op pos} {Q : Value → Shared → Prop} (hl : OpV M A E env l s v s₁) (hr : OpV M A E env r s₁ w s₂) (h : wpAny M A (binaryOp op v w) Q E s₂) : wpAny M A (eval (.BinOp l op r pos) env) Q E s := wpAny_BinOp (hl _ (hr _ h))
theorem cmp_op {l r op pos} {Q : Value → Shared → Prop} (hl : OpV M A E env l s v s₁) (hr : OpV M A E env r s₁ w s₂) (h : wpAny M A (compareOp op v w) Q E s₂) (hm : behindInMarks op r = false := by with_unfolding_all rfl) : wpAny M A (eval (.Compare l [op] [r] pos) env) Q E s := wpAny_Compare1 (hl _ (hr _ h)) hm
theorem test_op {l r op pos whole} {Q : Bool → Shared → Prop} (hl : OpV M A E env l s v s₁) (hr : OpV M A E env r s₁ w s₂) (h : wpAny M A (compareOp op v w) (fun c s₃ => wpAny M A (truthy c) Q E s₃) E s₂) (hm : behindInMarks op r = false := by with_unfolding_all rfl) : wpAny M A (isTrue (.Compare l [op] [r] pos) env whole) Q E s := wpAny_isTrue_Compare1 (hl _ (hr _ h)) hm
end
end Mine

namespace Mine
open PySem PySem.W PySem.Calls PyProof.Rows
section
variable {prog : Program} {w : World} {A : Around} {E : Value → Shared → Prop} {s : Shared} {env : Env} {h₀ : Heap} {L : Addr} {x : Str} {px : Pos} {body : List Stmt} {Q : Flow → Shared → Prop} {σ : Type}

/-- a for over a list, backwards -/
theorem for_rev {l I₀ : Addr} {vs : List Value} {m₀ : Str → Option Value} {news₀ : List (Addr × Obj)}
    (I : Nat → (Str → Option Value) → List (Addr × Obj) → Prop)
    (hL : env.locals = L) (hh : A.handled = none) (hx : env.kindOf x = some .local)
    (hp : (env.scope.kind == .class || (env.scope.kind == .module && env.locals != env.globals)) = false)
    (F : Fr h₀ L s.heap m₀) (N : News h₀ L s.heap ((I₀, revObj l ((vs.length : Int) - 1)) :: news₀)) (hlt0 : ∀ p ∈ news₀, p.1 ≠ I₀) (h0 : I 0 m₀ news₀)
    (hlist : ∀ i m news h, I i m news → Fr h₀ L h m → News h₀ L h news → h.IsList l vs.toArray)
    (turn : ∀ i v m news h tk io, vs[vs.length - 1 - i]? = some v → i < vs.length → I i m news → (∀ p ∈ news, p.1 ≠ I₀) →
      Fr h₀ L h (fun y => if y = x then some v else m y) → News h₀ L h ((I₀, io) :: news) →
      wpAny (model prog w) A (execs body env) (LPost Q (LEnd h₀ L (I (i + 1)) [(I₀, io)] { s with heap := h, toks := tk })) (fun _ _ => False) { s with heap := h, toks := tk })
    (done : ∀ m news h tk, I vs.length m news → Fr h₀ L h m → News h₀ L h news → Q .next { s with heap := h, toks := tk }) :
    wpAny (model prog w) A (pyIter (.ref I₀)) (fun it s₂ => codeAny (model prog w) A (.forLoop (.Name x px) it body [] env) (fun r s' => match r with | .ok f => Q f s' | .error e => cameBackBy (model prog w) A env E e s') s₂) E s := by
  subst hL
  obtain ⟨hg0, hneL, hb⟩ := N _ (.head _)
  have hit0 : s.heap.IsRevIter I₀ l ((vs.length : Int) - 1) := ⟨_, hg0, rfl, rfl⟩
  refine wpAny_pyIter_revIter hit0 ?_
  refine codeAny_forLoop (LoopI h₀ env.locals s vs.length (fun h i => h.IsRevIter I₀ l ((vs.length : Int) - 1 - (i : Nat))) I I₀) ?_ (vs.length + 1)
    (LoopI.mk _ s.toks m₀ news₀ 0 (by simpa using hit0) F (fun p hp => N p (.tail _ hp)) h0 hlt0 (Nat.zero_le _))
  rintro n s' ⟨h, tk, m, news, i, hit, F₁, N₁, hI, hoff, hi⟩
  have hl := hlist i m news h hI F₁ N₁
  rcases Nat.lt_or_ge i vs.length with hlt | hge
  · have e : (vs.length : Int) - 1 - (i : Nat) = ((vs.length - 1 - i : Nat) : Int) := by (first | lia | omega)
    rw [e] at hit
    have hv : vs[vs.length - 1 - i]? = some (vs[vs.length - 1 - i]'(by (first | lia | omega))) := List.getElem?_eq_getElem (by (first | lia | omega))
    refine wpAny_pyNext_rev_item hit hl (by rw [List.getElem?_toArray]; exact hv) fun h₁ hit₁ hs₁ => ?_
    have F₂ := fr_other F₁ hb (Ne.symm hneL) hs₁.extBut
    have N₂ := news_other N₁ hoff hs₁.extBut
    refine wpAny_assign_Name (wpAny_storeName_local hx F₂.ns (fun h₂ hn₂ hs₂ => ?_) hp)
    obtain ⟨io, hio, hc1, hd1⟩ := hit₁
    have N₃ : News h₀ env.locals h₂ ((I₀, io) :: news) := by
      intro p hp'
      rcases List.mem_cons.mp hp' with rfl | hp'
      · exact ⟨(hs₂.2 _ hneL).trans hio, hneL, hb⟩
      · exact (N₂.set hs₂) p hp'
    refine wpAny_mono (turn i _ m news h₂ _ io hv hlt hI hoff (F₂.set hn₂ hs₂) N₃) (fun f s₃ h₃ => ?_) fun _ _ q => q.elim
    have fin : LEnd h₀ env.locals (I (i + 1)) [(I₀, io)] { s with heap := h₂, toks := tk + 1 } s₃ → ∃ m, m < vs.length + 1 - i ∧ LoopI h₀ env.locals s vs.length (fun h i => h.IsRevIter I₀ l ((vs.length : Int) - 1 - (i : Nat))) I I₀ m s₃ := by
      rintro ⟨nx, F', N', hk, hn, ho, hI'⟩
      refine ⟨vs.length + 1 - (i + 1), by (first | lia | omega), .mk _ _ _ nx (i + 1) ⟨io, (N' _ (hk _ (.head _))).1, hc1, ?_⟩ F' (news_sub N' hn) hI' (fun p hp' => ho p hp' _ (.head _)) hlt⟩
      rw [hd1]
      have e2 : ((vs.length - 1 - i : Nat) : Int) - 1 = (vs.length : Int) - 1 - ((i + 1 : Nat) : Int) := by (first | lia | omega)
      rw [e2]
    cases f with
    | next => exact fin h₃
    | cont => exact fin h₃
    | brk => exact h₃
    | ret v => exact h₃
  · have hsz : i = vs.length := Nat.le_antisymm hi hge
    have e : (vs.length : Int) - 1 - (i : Nat) = -1 := by (first | lia | omega)
    rw [e] at hit
    refine wpAny_pyNext_rev_end hh hit fun h₁ he₁ => wpAny_execs_nil ?_
    exact done m news h₁ tk (hsz ▸ hI) (fr_other F₁ hb (Ne.symm hneL) he₁) (news_other N₁ hoff he₁)

theorem for_revS {l I₀ : Addr} {vs : List Value} {m₀ : Str → Option Value} (Led : σ → List (Addr × Obj)) (ps : σ → List (Str × Value)) (stored : List Str) (P : Nat → σ → Prop) (c₀ : σ)
    (hL : env.locals = L) (hh : A.handled = none) (hx : env.kindOf x = some .local)
    (hp : (env.scope.kind == .class || (env.scope.kind == .module && env.locals != env.globals)) = false)
    (F : Fr h₀ L s.heap m₀) (N : News h₀ L s.heap ((I₀, revObj l ((vs.length : Int) - 1)) :: Led c₀)) (hlt0 : ∀ p ∈ Led c₀, p.1 ≠ I₀) (hv : ∀ p ∈ ps c₀, m₀ p.1 = some p.2) (h0 : P 0 c₀)
    (hlist : ∀ i c h m, P i c → Fr h₀ L h m → News h₀ L h (Led c) → h.IsList l vs.toArray)
    (turn : ∀ i v c u h tk io, vs[vs.length - 1 - i]? = some v → i < vs.length → P i c → (∀ p ∈ Led c, p.1 ≠ I₀) →
      Fr h₀ L h (fun y => if y = x then some v else nm m₀ u stored (ps c) y) → News h₀ L h ((I₀, io) :: Led c) →
      wpAny (model prog w) A (execs body env) (LPost Q (SEnd h₀ L (some x) m₀ stored Led ps (P (i + 1)) [(I₀, io)] { s with heap := h, toks := tk })) (fun _ _ => False) { s with heap := h, toks := tk })
    (done : ∀ c u h tk, P vs.length c → Fr h₀ L h (fun y => if y = x then u y else nm m₀ u stored (ps c) y) → News h₀ L h (Led c) → Q .next { s with heap := h, toks := tk }) :
    wpAny (model prog w) A (pyIter (.ref I₀)) (fun it s₂ => codeAny (model prog w) A (.forLoop (.Name x px) it body [] env) (fun r s' => match r with | .ok f => Q f s' | .error e => cameBackBy (model prog w) A env E e s') s₂) E s := by
  refine for_rev (vs := vs) (fun i m nx => ∃ c, nx = Led c ∧ P i c ∧ Names (some x) m₀ m stored (ps c)) hL hh hx hp F N hlt0 ⟨c₀, rfl, h0, hv, fun _ _ _ _ => rfl⟩ ?_ ?_ ?_
  · rintro i m nx h ⟨c, rfl, hc, _⟩ F' N'
    exact hlist i c h m hc F' N'
  · rintro i v m nx h tk io hvv hi ⟨c, rfl, hc, hn⟩ hoff F' N'
    exact turn i v c m h tk io hvv hi hc hoff (hn.fr F') N'
  · rintro m nx h tk ⟨c, rfl, hc, hn⟩ F' N'
    exact done c m h tk hc (hn.frOut F') N'
end
/-- the token of a name's number -/
theorem tok_of {h₀ h : Heap} {L : Addr} {m : Str → Option Value} {Z : Prop} (_F : Fr h₀ L h m) (x : Str) {i : Int} {t : Tok} (e : m x = some (.int i t)) (k : ∀ t', m x = some (.int i t') → Z) : Z := k t e
theorem stok_of {h₀ h : Heap} {L : Addr} {m : Str → Option Value} {Z : Prop} (_F : Fr h₀ L h m) (x : Str) {i : Str} {t : Tok} (e : m x = some (.str i t)) (k : ∀ t', m x = some (.str i t') → Z) : Z := k t e
end Mine

namespace Mine.D
open PySem

theorem bitNot_eq (x : Int) : Builtin.bitNot x = -x - 1 := by unfold Builtin.bitNot; first | rfl | (first | lia | omega)
theorem bitAnd_nat {x y : Int} (hx : 0 ≤ x) (hy : 0 ≤ y) : Builtin.bitAnd x y = ((x.toNat &&& y.toNat : Nat) : Int) := by
  unfold Builtin.bitAnd
  rw [decide_eq_true hx, decide_eq_true hy]
theorem bitOr_nat {x y : Int} (hx : 0 ≤ x) (hy : 0 ≤ y) : Builtin.bitOr x y = ((x.toNat ||| y.toNat : Nat) : Int) := by
  unfold Builtin.bitOr Builtin.bitAnd
  have h1 : ¬ (0 ≤ Builtin.bitNot x) := by rw [bitNot_eq]; (first | lia | omega)
  have h2 : ¬ (0 ≤ Builtin.bitNot y) := by rw [bitNot_eq]; (first | lia | omega)
  rw [decide_eq_false h1, decide_eq_false h2]
  have e : ∀ z, Builtin.bitNot (Builtin.bitNot z) = z := fun z => by rw [bitNot_eq, bitNot_eq]; (first | lia | omega)
  simp only [e]
theorem pow_toNat (k : Nat) : ((2 : Int) ^ k).toNat = 2 ^ k := by
  have : ((2 : Int) ^ k) = ((2 ^ k : Nat) : Int) := by push_cast; rfl
  rw [this]; rfl
theorem pow_pos' (k : Nat) : (0 : Int) < 2 ^ k := by
  have : ((2 : Int) ^ k) = ((2 ^ k : Nat) : Int) := by push_cast; rfl
  rw [this]; have := Nat.two_pow_pos k; (first | lia | omega)
theorem bitAnd_mask {x : Int} (hx : 0 ≤ x) (k : Nat) : Builtin.bitAnd x (1 * 2 ^ k - 1) = x % 2 ^ k := by
  have hp := pow_pos' k
  rw [bitAnd_nat hx (by (first | lia | omega))]
  have e : ((1 : Int) * 2 ^ k - 1).toNat = 2 ^ k - 1 := by
    have := pow_toNat k
    (first | lia | omega)
  rw [e, Nat.and_two_pow_sub_one_eq_mod]
  have e2 : ((x.toNat % 2 ^ k : Nat) : Int) = (x.toNat : Int) % ((2 ^ k : Nat) : Int) := by simp
  rw [e2, Int.toNat_of_nonneg hx]
  congr 1
theorem bitOr_shift {x y : Int} (k : Nat) (hx : 0 ≤ x) (hy : 0 ≤ y) (hlt : y < 2 ^ k) : Builtin.bitOr (x * 2 ^ k) y = x * 2 ^ k + y := by
  have hp := pow_pos' k
  rw [bitOr_nat (Int.mul_nonneg hx (by (first | lia | omega))) hy]
  have e1 : (x * 2 ^ k).toNat = x.toNat <<< k := by
    rw [Nat.shiftLeft_eq]
    have : x * 2 ^ k = ((x.toNat * 2 ^ k : Nat) : Int) := by
      push_cast; rw [Int.toNat_of_nonneg hx]
    rw [this]; rfl
  have hy' : y.toNat < 2 ^ k := by have := pow_toNat k; (first | lia | omega)
  rw [e1, ← Nat.shiftLeft_add_eq_or_of_lt hy', Nat.shiftLeft_eq]
  push_cast
  rw [Int.toNat_of_nonneg hx, Int.toNat_of_nonneg hy]

theorem fdiv_pow (x : Int) (k : Nat) : x.fdiv (2 ^ k) = x / 2 ^ k := Int.fdiv_eq_ediv_of_nonneg _ (Int.le_of_lt (pow_pos' k))

/-- a quotient and its rest -/
noncomputable def Quot (a b q r : Int) : Prop := q * b + r = a ∧ 0 ≤ r ∧ r < b
theorem Quot.of_div {a b : Int} (hb : 0 < b) : Quot a b (a.fdiv b) (a.fmod b) := by
  rw [Int.fdiv_eq_ediv_of_nonneg _ (Int.le_of_lt hb), Int.fmod_eq_emod_of_nonneg _ (Int.le_of_lt hb)]
  refine ⟨?_, Int.emod_nonneg _ (by (first | lia | omega)), Int.emod_lt_of_pos _ hb⟩
  have := Int.mul_ediv_add_emod a b
  rw [Int.mul_comm] at this; exact this
theorem Quot.unique {a b q r q' r' : Int} (h : Quot a b q r) (h' : Quot a b q' r') : q = q' ∧ r = r' := by
  obtain ⟨h1, h2, h3⟩ := h
  obtain ⟨h4, h5, h6⟩ := h'
  have hb : 0 < b := by (first | lia | omega)
  have e : (q - q') * b = r' - r := by rw [Int.sub_mul]; (first | lia | omega)
  have hq : q - q' = 0 := by
    rcases Int.lt_trichotomy (q - q') 0 with hl | hl | hl
    · have : (q - q') * b ≤ (-1) * b := Int.mul_le_mul_of_nonneg_right (by (first | lia | omega)) (by (first | lia | omega))
      (first | lia | omega)
    · exact hl
    · have : 1 * b ≤ (q - q') * b := Int.mul_le_mul_of_nonneg_right (by (first | lia | omega)) (by (first | lia | omega))
      (first | lia | omega)
  rw [hq] at e
  constructor <;> (first | lia | omega)

structure Pre2 (a b n : Int) : Prop where
  a0 : 0 ≤ a
  n0 : 0 < n
  lo : 2 ^ (n.toNat - 1) ≤ b
  hi : b < 2 ^ n.toNat
  lt : a < b * 2 ^ n.toNat
structure Pre3 (a12 a3 b b1 b2 n : Int) : Prop where
  a0 : 0 ≤ a12
  n0 : 0 < n
  c0 : 0 ≤ a3
  c1 : a3 < 2 ^ n.toNat
  be : b = b1 * 2 ^ n.toNat + b2
  d0 : 0 ≤ b2
  d1 : b2 < 2 ^ n.toNat
  lo : 2 ^ (n.toNat - 1) ≤ b1
  hi : b1 < 2 ^ n.toNat
  lt : a12 * 2 ^ n.toNat + a3 < b * 2 ^ n.toNat

theorem Pre2.b0 {a b n : Int} (h : Pre2 a b n) : 0 < b := Int.lt_of_lt_of_le (pow_pos' _) h.lo
theorem Pre3.b1pos {a12 a3 b b1 b2 n : Int} (h : Pre3 a12 a3 b b1 b2 n) : 0 < b1 := Int.lt_of_lt_of_le (pow_pos' _) h.lo
theorem Pre3.bpos {a12 a3 b b1 b2 n : Int} (h : Pre3 a12 a3 b b1 b2 n) : 0 < b := by
  have h1 := h.b1pos
  have hp := pow_pos' n.toNat
  have : 1 * 2 ^ n.toNat ≤ b1 * 2 ^ n.toNat := Int.mul_le_mul_of_nonneg_right (by (first | lia | omega)) (by (first | lia | omega))
  have := h.be; have := h.d0; (first | lia | omega)

theorem two_half {n : Int} (h : 0 < n) (he : n % 2 = 0) : (2 : Int) ^ n.toNat = 2 ^ (n.fdiv (2 ^ Int.toNat 1)).toNat * 2 ^ (n.fdiv (2 ^ Int.toNat 1)).toNat ∧ 0 < n.fdiv (2 ^ Int.toNat 1) ∧ n.toNat = 2 * (n.fdiv (2 ^ Int.toNat 1)).toNat := by
  have e : n.fdiv (2 ^ Int.toNat 1) = n / 2 := fdiv_pow n 1
  rw [e]
  have hn : n.toNat = (n / 2).toNat + (n / 2).toNat := by (first | lia | omega)
  refine ⟨?_, by (first | lia | omega), by (first | lia | omega)⟩
  conv => lhs; rw [hn]
  rw [Int.pow_add]

section
variable {a b n : Int}
theorem pre3_first (h : Pre2 a b n) (he : n % 2 = 0) : Pre3 (a.fdiv (2 ^ n.toNat)) (Builtin.bitAnd (a.fdiv (2 ^ (n.fdiv (2 ^ Int.toNat 1)).toNat)) (1 * 2 ^ (n.fdiv (2 ^ Int.toNat 1)).toNat - 1)) b
    (b.fdiv (2 ^ (n.fdiv (2 ^ Int.toNat 1)).toNat)) (Builtin.bitAnd b (1 * 2 ^ (n.fdiv (2 ^ Int.toNat 1)).toNat - 1)) (n.fdiv (2 ^ Int.toNat 1)) := by
  obtain ⟨e1, e2, e3⟩ := two_half h.n0 he
  have hlo := h.lo
  have hhi := h.hi
  have hlt := h.lt
  have hb := h.b0
  have ha := h.a0
  rw [e3] at hlo
  rw [e1] at hhi hlt ⊢
  generalize n.fdiv (2 ^ Int.toNat 1) = k at *
  have hp := pow_pos' k.toNat
  rw [Int.fdiv_eq_ediv_of_nonneg _ (Int.le_of_lt (Int.mul_pos hp hp)), fdiv_pow, fdiv_pow]
  have ha1 : 0 ≤ a / 2 ^ k.toNat := Int.ediv_nonneg ha (Int.le_of_lt hp)
  rw [bitAnd_mask ha1, bitAnd_mask (Int.le_of_lt hb)]
  refine ⟨Int.ediv_nonneg ha (Int.le_of_lt (Int.mul_pos hp hp)), e2, Int.emod_nonneg _ (by (first | lia | omega)), Int.emod_lt_of_pos _ hp, ?_, Int.emod_nonneg _ (by (first | lia | omega)), Int.emod_lt_of_pos _ hp, ?_, ?_, ?_⟩
  · have := Int.mul_ediv_add_emod b (2 ^ k.toNat); rw [Int.mul_comm] at this; exact this.symm
  · refine (Int.le_ediv_iff_mul_le hp).mpr ?_
    rw [← Int.pow_add]
    have : k.toNat - 1 + k.toNat = 2 * k.toNat - 1 := by (first | lia | omega)
    rw [this]; exact hlo
  · exact (Int.ediv_lt_iff_lt_mul hp).mpr hhi
  · have e4 : a / (2 ^ k.toNat * 2 ^ k.toNat) = a / 2 ^ k.toNat / 2 ^ k.toNat := by rw [Int.ediv_ediv_of_nonneg (Int.le_of_lt hp)]
    rw [e4]
    have := Int.mul_ediv_add_emod (a / 2 ^ k.toNat) (2 ^ k.toNat)
    rw [Int.mul_comm] at this
    rw [this]
    refine (Int.ediv_lt_iff_lt_mul hp).mpr ?_
    rw [Int.mul_assoc]; exact hlt
theorem pre3_second {q r : Int} (h : Pre2 a b n) (he : n % 2 = 0) (hq : Quot (a.fdiv (2 ^ n.toNat) * 2 ^ (n.fdiv (2 ^ Int.toNat 1)).toNat + Builtin.bitAnd (a.fdiv (2 ^ (n.fdiv (2 ^ Int.toNat 1)).toNat)) (1 * 2 ^ (n.fdiv (2 ^ Int.toNat 1)).toNat - 1)) b q r) :
    Pre3 r (Builtin.bitAnd a (1 * 2 ^ (n.fdiv (2 ^ Int.toNat 1)).toNat - 1)) b (b.fdiv (2 ^ (n.fdiv (2 ^ Int.toNat 1)).toNat)) (Builtin.bitAnd b (1 * 2 ^ (n.fdiv (2 ^ Int.toNat 1)).toNat - 1)) (n.fdiv (2 ^ Int.toNat 1)) := by
  have h3 := pre3_first h he
  have hp := pow_pos' (n.fdiv (2 ^ Int.toNat 1)).toNat
  rw [bitAnd_mask h.a0]
  refine ⟨hq.2.1, h3.n0, Int.emod_nonneg _ (by (first | lia | omega)), Int.emod_lt_of_pos _ hp, h3.be, h3.d0, h3.d1, h3.lo, h3.hi, ?_⟩
  have h1 : (r + 1) * 2 ^ (n.fdiv (2 ^ Int.toNat 1)).toNat ≤ b * 2 ^ (n.fdiv (2 ^ Int.toNat 1)).toNat := Int.mul_le_mul_of_nonneg_right (by have := hq.2.2; (first | lia | omega)) (by (first | lia | omega))
  rw [Int.add_mul] at h1
  have := Int.emod_lt_of_pos a hp
  (first | lia | omega)
theorem quot_join {q1 r1 q2 r2 : Int} (h : Pre2 a b n) (he : n % 2 = 0) (h1 : Quot (a.fdiv (2 ^ n.toNat) * 2 ^ (n.fdiv (2 ^ Int.toNat 1)).toNat + Builtin.bitAnd (a.fdiv (2 ^ (n.fdiv (2 ^ Int.toNat 1)).toNat)) (1 * 2 ^ (n.fdiv (2 ^ Int.toNat 1)).toNat - 1)) b q1 r1)
    (h2 : Quot (r1 * 2 ^ (n.fdiv (2 ^ Int.toNat 1)).toNat + Builtin.bitAnd a (1 * 2 ^ (n.fdiv (2 ^ Int.toNat 1)).toNat - 1)) b q2 r2) :
    Quot a b (Builtin.bitOr (q1 * 2 ^ (n.fdiv (2 ^ Int.toNat 1)).toNat) q2) r2 := by
  obtain ⟨e1, e2, e3⟩ := two_half h.n0 he
  have hb := h.b0
  have ha := h.a0
  have h3 := (pre3_second h he h1).lt
  have h4 := (pre3_first h he).lt
  have h5 := (pre3_first h he).a0
  have h6 := (pre3_first h he).c0
  have h7 := (pre3_second h he h1).c0
  rw [bitAnd_mask ha] at h2 h3 h7
  generalize hA : a.fdiv (2 ^ n.toNat) * 2 ^ (n.fdiv (2 ^ Int.toNat 1)).toNat + Builtin.bitAnd (a.fdiv (2 ^ (n.fdiv (2 ^ Int.toNat 1)).toNat)) (1 * 2 ^ (n.fdiv (2 ^ Int.toNat 1)).toNat - 1) = A1 at *
  have hA1 : A1 = a / 2 ^ (n.fdiv (2 ^ Int.toNat 1)).toNat := by
    rw [← hA]
    rw [e1]
    clear h4 h1 h2 h3 hA h5 h6 h7 e1 e2 e3
    generalize (n.fdiv (2 ^ Int.toNat 1)).toNat = k
    have hp := pow_pos' k
    rw [Int.fdiv_eq_ediv_of_nonneg _ (Int.le_of_lt (Int.mul_pos hp hp)), fdiv_pow, bitAnd_mask (Int.ediv_nonneg ha (Int.le_of_lt hp)), ← Int.ediv_ediv_of_nonneg (Int.le_of_lt hp)]
    have := Int.mul_ediv_add_emod (a / 2 ^ k) (2 ^ k)
    rw [Int.mul_comm] at this; exact this
  generalize (n.fdiv (2 ^ Int.toNat 1)).toNat = k at *
  have hp := pow_pos' k
  have hq1 : 0 ≤ q1 := by
    apply Int.le_of_not_gt
    intro hl
    have : q1 * b ≤ (-1) * b := Int.mul_le_mul_of_nonneg_right (by (first | lia | omega)) (by (first | lia | omega))
    have h0 : 0 ≤ A1 := by rw [hA1]; exact Int.ediv_nonneg ha (Int.le_of_lt hp)
    have := h1.1; have := h1.2.2; (first | lia | omega)
  have hq2 : 0 ≤ q2 := by
    apply Int.le_of_not_gt
    intro hl
    have : q2 * b ≤ (-1) * b := Int.mul_le_mul_of_nonneg_right (by (first | lia | omega)) (by (first | lia | omega))
    have h0 : 0 ≤ r1 * 2 ^ k := Int.mul_nonneg h1.2.1 (by (first | lia | omega))
    have := h2.1; have := h2.2.2; (first | lia | omega)
  have hq2' : q2 < 2 ^ k := by
    apply Int.lt_of_not_ge
    intro hl
    have : 2 ^ k * b ≤ q2 * b := Int.mul_le_mul_of_nonneg_right hl (by (first | lia | omega))
    have e : (2 : Int) ^ k * b = b * 2 ^ k := Int.mul_comm _ _
    have := h2.1; have := h2.2.1; (first | lia | omega)
  rw [bitOr_shift k hq1 hq2 hq2']
  refine ⟨?_, h2.2.1, h2.2.2⟩
  have ea := Int.mul_ediv_add_emod a (2 ^ k)
  rw [← hA1, ← h1.1] at ea
  have e5 : 2 ^ k * (q1 * b + r1) = q1 * 2 ^ k * b + r1 * 2 ^ k := by
    rw [Int.mul_add, Int.mul_comm (2 ^ k) r1, Int.mul_comm (2 ^ k) (q1 * b), Int.mul_right_comm]
  have := h2.1
  rw [Int.add_mul]
  (first | lia | omega)
theorem pre2_pad (h : Pre2 a b n) : Pre2 (a * 2 ^ Int.toNat 1) (b * 2 ^ Int.toNat 1) (n + 1) := by
  have e : (2 : Int) ^ Int.toNat 1 = 2 := rfl
  rw [e]
  have hn : (n + 1).toNat = n.toNat + 1 := by have := h.n0; (first | lia | omega)
  have hp := pow_pos' n.toNat
  have hlo := h.lo
  have hhi := h.hi
  have hlt := h.lt
  have hn0 := h.n0
  refine ⟨by have := h.a0; (first | lia | omega), by (first | lia | omega), ?_, ?_, ?_⟩
  · rw [hn]
    have e2 : n.toNat + 1 - 1 = n.toNat - 1 + 1 := by (first | lia | omega)
    rw [e2, Int.pow_succ]; (first | lia | omega)
  · rw [hn, Int.pow_succ]; (first | lia | omega)
  · rw [hn, Int.pow_succ]
    have ha := h.a0
    generalize (2 : Int) ^ n.toNat = P at *
    have e4 : b * 2 * (P * 2) = b * P * 4 := by rw [Int.mul_assoc b 2, ← Int.mul_assoc 2 P 2, Int.mul_comm 2 P, Int.mul_assoc P 2 2, ← Int.mul_assoc]; rfl
    rw [e4]; (first | lia | omega)
theorem quot_pad {q r : Int} (h : Quot (a * 2 ^ Int.toNat 1) (b * 2 ^ Int.toNat 1) q r) : Quot a b q (r.fdiv (2 ^ Int.toNat 1)) := by
  have e : (2 : Int) ^ Int.toNat 1 = 2 := rfl
  rw [e] at h ⊢
  rw [Int.fdiv_eq_ediv_of_nonneg _ (by decide)]
  obtain ⟨h1, h2, h3⟩ := h
  have e2 : q * (b * 2) = q * b * 2 := by rw [Int.mul_assoc]
  rw [e2] at h1
  refine ⟨by (first | lia | omega), by (first | lia | omega), by (first | lia | omega)⟩
end

section
variable {a12 a3 b b1 b2 n : Int}
theorem pre2_inner (h : Pre3 a12 a3 b b1 b2 n) (hne : a12.fdiv (2 ^ n.toNat) ≠ b1) : Pre2 a12 b1 n := by
  refine ⟨h.a0, h.n0, h.lo, h.hi, ?_⟩
  rw [fdiv_pow] at hne
  have hp := pow_pos' n.toNat
  have hlt := h.lt
  have hb := h.be
  have h1 : a12 < b := by
    apply Int.lt_of_not_ge
    intro hl
    have : b * 2 ^ n.toNat ≤ a12 * 2 ^ n.toNat := Int.mul_le_mul_of_nonneg_right hl (by (first | lia | omega))
    have := h.c0; (first | lia | omega)
  have h2 : a12 / 2 ^ n.toNat ≤ b1 := by
    have : a12 / 2 ^ n.toNat < b1 + 1 := by
      refine (Int.ediv_lt_iff_lt_mul hp).mpr ?_
      rw [Int.add_mul]; have := h.d1; (first | lia | omega)
    (first | lia | omega)
  have h3 : a12 / 2 ^ n.toNat < b1 := by (first | lia | omega)
  exact (Int.ediv_lt_iff_lt_mul hp).mp h3
/-- what stands ahead of the turns -/
noncomputable def Near (A b q r : Int) : Prop := q * b + r = A ∧ r < b
theorem near_top (h : Pre3 a12 a3 b b1 b2 n) (he : a12.fdiv (2 ^ n.toNat) = b1) :
    0 ≤ a12 - b1 * 2 ^ n.toNat + b1 ∧ Near (a12 * 2 ^ n.toNat + a3) b (1 * 2 ^ n.toNat - 1) ((a12 - b1 * 2 ^ n.toNat + b1) * 2 ^ n.toNat + a3 - (1 * 2 ^ n.toNat - 1) * b2) := by
  rw [fdiv_pow] at he
  have hp := pow_pos' n.toNat
  have h1 : b1 * 2 ^ n.toNat ≤ a12 := by
    rw [← he]; have := Int.mul_ediv_add_emod a12 (2 ^ n.toNat); rw [Int.mul_comm] at this
    have := Int.emod_nonneg a12 (show (2 : Int) ^ n.toNat ≠ 0 by (first | lia | omega)); (first | lia | omega)
  have hb1 := h.b1pos
  refine ⟨by (first | lia | omega), ?_, ?_⟩
  · rw [h.be]
    generalize (2 : Int) ^ n.toNat = P
    rw [Int.one_mul, Int.add_mul, Int.sub_mul, Int.mul_add, Int.sub_mul, Int.sub_mul, Int.one_mul, Int.one_mul]
    have e1 : P * (b1 * P) = b1 * P * P := Int.mul_comm _ _
    (first | lia | omega)
  · have hlt := h.lt
    rw [h.be] at hlt ⊢
    generalize (2 : Int) ^ n.toNat = P at *
    rw [Int.one_mul, Int.add_mul, Int.sub_mul, Int.sub_mul, Int.one_mul]
    rw [Int.add_mul] at hlt
    have e1 : b2 * P = P * b2 := Int.mul_comm _ _
    (first | lia | omega)
theorem near_mid {q r : Int} (h : Pre3 a12 a3 b b1 b2 n) (hq : Quot a12 b1 q r) : Near (a12 * 2 ^ n.toNat + a3) b q (r * 2 ^ n.toNat + a3 - q * b2) := by
  have hp := pow_pos' n.toNat
  have hb1 := h.b1pos
  have hq0 : 0 ≤ q := by
    apply Int.le_of_not_gt
    intro hl
    have : q * b1 ≤ (-1) * b1 := Int.mul_le_mul_of_nonneg_right (by (first | lia | omega)) (by (first | lia | omega))
    have := hq.1; have := hq.2.2; have := h.a0; (first | lia | omega)
  refine ⟨?_, ?_⟩
  · rw [h.be, ← hq.1]
    generalize (2 : Int) ^ n.toNat = P
    rw [Int.mul_add, Int.add_mul, Int.mul_assoc]; (first | lia | omega)
  · rw [h.be]
    have h1 : (r + 1) * 2 ^ n.toNat ≤ b1 * 2 ^ n.toNat := Int.mul_le_mul_of_nonneg_right (by have := hq.2.2; (first | lia | omega)) (by (first | lia | omega))
    rw [Int.add_mul] at h1
    have h2 : 0 ≤ q * b2 := Int.mul_nonneg hq0 h.d0
    have := h.c1; have := h.d0; (first | lia | omega)
theorem near_turn {A q r : Int} (h : Near A b q r) (hr : r < 0) : Near A b (q - 1) (r + b) := by
  refine ⟨?_, by (first | lia | omega)⟩
  rw [Int.sub_mul]; have := h.1; (first | lia | omega)
theorem near_end {A q r : Int} (h : Near A b q r) (hr : ¬ r < 0) : Quot A b q r := ⟨h.1, by (first | lia | omega), h.2⟩
end

/-! sizes -/
open Builtin.Int
theorem bits_le {x : Int} {k : Nat} (h0 : 0 ≤ x) (h : x < 2 ^ k) : Builtin.Int.intBits x ≤ k := by
  refine intBits_le_iff.mpr ?_
  have := pow_toNat k
  (first | lia | omega)
end Mine.D

namespace Mine.D
open PySem

/-- what a row of digits is worth, the lowest first -/
noncomputable def val (N : Nat) : List Int → Int
  | [] => 0
  | d :: r => d + 2 ^ N * val N r
theorem val_append (N : Nat) : ∀ xs ys : List Int, val N (xs ++ ys) = val N xs + 2 ^ (N * xs.length) * val N ys
  | [], ys => by simp [val]
  | d :: r, ys => by
    show d + 2 ^ N * val N (r ++ ys) = d + 2 ^ N * val N r + 2 ^ (N * (r.length + 1)) * val N ys
    rw [val_append N r ys, Int.mul_add, Nat.mul_add, Nat.mul_one, Nat.add_comm, Int.pow_add, Int.mul_assoc, Int.add_assoc]
theorem val_bound (N : Nat) : ∀ xs : List Int, (∀ d ∈ xs, d.natAbs < 2 ^ N) → (val N xs).natAbs < 2 ^ (N * xs.length)
  | [], _ => by simp [val]
  | d :: r, h => by
    have hd := h d (.head _)
    have ih := val_bound N r fun e he => h e (.tail _ he)
    show (d + 2 ^ N * val N r).natAbs < 2 ^ (N * (r.length + 1))
    have e1 : ((2 : Int) ^ N * val N r).natAbs = 2 ^ N * (val N r).natAbs := by
      rw [Int.natAbs_mul, Int.natAbs_pow]; rfl
    have e2 : (d + 2 ^ N * val N r).natAbs ≤ d.natAbs + 2 ^ N * (val N r).natAbs := by
      rw [← e1]; exact Int.natAbs_add_le ..
    have e3 : 2 ^ N * ((val N r).natAbs + 1) ≤ 2 ^ N * 2 ^ (N * r.length) := Nat.mul_le_mul_left _ ih
    rw [Nat.mul_add, Nat.mul_one] at e3
    rw [Nat.mul_add, Nat.mul_one, Nat.pow_add, Nat.mul_comm (2 ^ (N * r.length))]
    (first | lia | omega)

/-- a stretch of a list -/
noncomputable def cut (ns : List Int) (a b : Nat) : List Int := (ns.drop a).take (b - a)
theorem cut_split (ns : List Int) {a m b : Nat} (h1 : a ≤ m) (h2 : m ≤ b) (_h3 : b ≤ ns.length) : cut ns a b = cut ns a m ++ cut ns m b := by
  unfold cut
  have e : b - a = (m - a) + (b - m) := by (first | lia | omega)
  rw [e, List.take_add, List.drop_drop]
  congr 3
  (first | lia | omega)
theorem cut_length (ns : List Int) {a b : Nat} (h : b ≤ ns.length) : (cut ns a b).length = b - a := by
  unfold cut; rw [List.length_take, List.length_drop]; (first | lia | omega)
theorem cut_one (ns : List Int) {a : Nat} (h : a < ns.length) : cut ns a (a + 1) = [ns.getD a 0] := by
  unfold cut
  rw [Nat.add_sub_cancel_left, List.take_one, List.drop_eq_getElem_cons h]
  simp [List.getD, h]
theorem cut_all (ns : List Int) : cut ns 0 ns.length = ns := by unfold cut; simp
theorem cut_mem {ns : List Int} {a b : Nat} {d : Int} (h : d ∈ cut ns a b) : d ∈ ns := List.mem_of_mem_drop (List.mem_of_mem_take h)

/-- the digits of a number -/
noncomputable def digs (N : Nat) : Nat → Int → List Int
  | 0, _ => []
  | k + 1, x => x % 2 ^ N :: digs N k (x / 2 ^ N)
theorem digs_length (N : Nat) : ∀ k x, (digs N k x).length = k
  | 0, _ => rfl
  | k + 1, x => by show (digs N k _).length + 1 = k + 1; rw [digs_length]
theorem emod_two {x P Q : Int} (hP : 0 < P) (_hQ : 0 < Q) : x % (P * Q) = P * (x / P % Q) + x % P := by
  rw [Int.emod_def x (P * Q), ← Int.ediv_ediv_of_nonneg (Int.le_of_lt hP), Int.emod_def (x / P) Q, Int.mul_sub, ← Int.mul_assoc]
  have := Int.mul_ediv_add_emod x P
  (first | lia | omega)
theorem emod_two_div {x P Q : Int} (hP : 0 < P) (hQ : 0 < Q) : x % (P * Q) / P = x / P % Q := by
  rw [emod_two hP hQ, Int.add_comm, Int.add_mul_ediv_left _ _ (by (first | lia | omega)), Int.ediv_eq_zero_of_lt (Int.emod_nonneg _ (by (first | lia | omega))) (Int.emod_lt_of_pos _ hP), Int.zero_add]
theorem emod_two_mod {x P Q : Int} (hP : 0 < P) (hQ : 0 < Q) : x % (P * Q) % P = x % P := by
  rw [emod_two hP hQ, Int.add_comm, Int.add_mul_emod_self_left, Int.emod_emod]
theorem digs_split (N : Nat) : ∀ (a b : Nat) (x : Int), digs N (a + b) x = digs N a (x % 2 ^ (N * a)) ++ digs N b (x / 2 ^ (N * a))
  | 0, b, x => by simp [digs]
  | a + 1, b, x => by
    rw [Nat.add_right_comm]
    show x % 2 ^ N :: digs N (a + b) (x / 2 ^ N) = x % 2 ^ (N * (a + 1)) % 2 ^ N :: digs N a (x % 2 ^ (N * (a + 1)) / 2 ^ N) ++ digs N b (x / 2 ^ (N * (a + 1)))
    have hp := pow_pos' N
    have hq := pow_pos' (N * a)
    have e0 : (2 : Int) ^ (N * (a + 1)) = 2 ^ N * 2 ^ (N * a) := by rw [Nat.mul_add, Nat.mul_one, Nat.add_comm, Int.pow_add]
    rw [digs_split N a b (x / 2 ^ N), e0]
    rw [← Int.ediv_ediv_of_nonneg (Int.le_of_lt hp), emod_two_div hp hq, emod_two_mod hp hq]
    rfl
theorem val_digs (N : Nat) : ∀ (k : Nat) (x : Int), 0 ≤ x → x < 2 ^ (N * k) → val N (digs N k x) = x
  | 0, x, h0, h1 => by simp at h1; show (0 : Int) = x; lia
  | k + 1, x, h0, h1 => by
    have hp := pow_pos' N
    show x % 2 ^ N + 2 ^ N * val N (digs N k (x / 2 ^ N)) = x
    rw [val_digs N k (x / 2 ^ N) (Int.ediv_nonneg h0 (Int.le_of_lt hp)) ?_]
    · have := Int.mul_ediv_add_emod x (2 ^ N); (first | lia | omega)
    · refine (Int.ediv_lt_iff_lt_mul hp).mpr ?_
      rw [Nat.mul_add, Nat.mul_one, Int.pow_add] at h1
      exact h1
theorem digs_small (N : Nat) : ∀ (k : Nat) (x : Int), ∀ d ∈ digs N k x, 0 ≤ d ∧ d < 2 ^ N
  | 0, _, _, h => nomatch h
  | k + 1, x, d, h => by
    have hp := pow_pos' N
    rcases List.mem_cons.mp h with rfl | h
    · exact ⟨Int.emod_nonneg _ (by (first | lia | omega)), Int.emod_lt_of_pos _ hp⟩
    · exact digs_small N k _ d h
theorem digs_one (N : Nat) (x : Int) (h0 : 0 ≤ x) (h1 : x < 2 ^ N) : digs N 1 x = [x] := by
  show [x % 2 ^ N] = [x]
  rw [Int.emod_eq_of_lt h0 h1]

/-- the lower part, by exclusive or -/
theorem xor_low {x : Int} (k : Nat) (hx : 0 ≤ x) : Builtin.bitXor x (x.fdiv (2 ^ k) * 2 ^ k) = x % 2 ^ k := by
  have hp := pow_pos' k
  rw [fdiv_pow]
  have hu : 0 ≤ x / 2 ^ k := Int.ediv_nonneg hx (Int.le_of_lt hp)
  have hr := Int.emod_nonneg x (show (2 : Int) ^ k ≠ 0 by (first | lia | omega))
  have hl := Int.emod_lt_of_pos x hp
  have hx2 := Int.mul_ediv_add_emod x (2 ^ k)
  generalize x / 2 ^ k = u at *
  generalize hrr : x % 2 ^ k = r at *
  have e : x = u * 2 ^ k + r := by rw [← hx2, Int.mul_comm]
  have hm : 0 ≤ u * 2 ^ k := Int.mul_nonneg hu (by (first | lia | omega))
  have key : Builtin.bitAnd x (u * 2 ^ k) = u * 2 ^ k := by
    rw [bitAnd_nat hx hm]
    have e1 : (u * 2 ^ k).toNat = u.toNat <<< k := by
      rw [Nat.shiftLeft_eq]
      have : u * 2 ^ k = ((u.toNat * 2 ^ k : Nat) : Int) := by push_cast; rw [Int.toNat_of_nonneg hu]
      rw [this]; rfl
    have hr' : r.toNat < 2 ^ k := by have := pow_toNat k; (first | lia | omega)
    have e2 : x.toNat = u.toNat <<< k ||| r.toNat := by
      rw [← Nat.shiftLeft_add_eq_or_of_lt hr', ← e1]; (first | lia | omega)
    rw [e2, e1]
    have : (u.toNat <<< k ||| r.toNat) &&& u.toNat <<< k = u.toNat <<< k := by
      apply Nat.eq_of_testBit_eq
      intro i
      rw [Nat.testBit_and, Nat.testBit_or]
      cases (u.toNat <<< k).testBit i <;> simp
    rw [this, ← e1, Int.toNat_of_nonneg hm]
  rw [PyProof.Rows.bitXor_and, key]
  (first | lia | omega)

/-- a stretch of a list set anew -/
noncomputable def put (ns : List Int) (a : Nat) (xs : List Int) : List Int := ns.take a ++ xs ++ ns.drop (a + xs.length)
theorem put_length (ns : List Int) (a : Nat) (xs : List Int) (h : a + xs.length ≤ ns.length) : (put ns a xs).length = ns.length := by
  unfold put; simp only [List.length_append, List.length_take, List.length_drop]; (first | lia | omega)
theorem put_put (ns : List Int) (a : Nat) (xs ys : List Int) (h : a + xs.length ≤ ns.length) : put (put ns a xs) (a + xs.length) ys = put ns a (xs ++ ys) := by
  have e1 : (ns.take a ++ xs).length = a + xs.length := by simp only [List.length_append, List.length_take]; (first | lia | omega)
  unfold put
  rw [List.take_append_of_le_length (by (first | lia | omega)), List.take_of_length_le (by (first | lia | omega))]
  have e2 : (ns.take a ++ xs ++ ns.drop (a + xs.length)).drop (a + xs.length + ys.length) = ns.drop (a + (xs ++ ys).length) := by
    rw [List.drop_append, List.drop_eq_nil_of_le (by (first | lia | omega)), List.nil_append, e1, List.drop_drop, List.length_append]
    congr 1
    (first | lia | omega)
  rw [e2]
  simp only [List.append_assoc]
theorem put_one (ns : List Int) (a : Nat) (x : Int) (h : a < ns.length) : ns.set a x = put ns a [x] := by
  unfold put
  rw [List.set_eq_take_append_cons_drop, if_pos h]
  simp
theorem put_all (k : Nat) (xs : List Int) (h : xs.length = k) : put (List.replicate k 0) 0 xs = xs := by
  unfold put
  rw [List.take_zero, List.nil_append, List.drop_eq_nil_of_le (by simp; (first | lia | omega)), List.append_nil]
end Mine.D

namespace Mine
open PySem PySem.W PySem.Calls PyProof.Rows
/-! statements of a generator that yield -/
section
variable {prog : Program} {w : World} {A : Around} {R : GenEnd} {Y : Protocol} {n : Nat} {s₀ : Shared} {c : Code} {fs : List Frame} {s : Shared} {env : Env}
  {K : Flow → Sem Fin} {H : Value → Sem Fin} {gd : Bool → Bool} {lv : List Value → List Value}

theorem seg_If {test : Expr} {body orelse : List Stmt} {pos : Pos}
    (h : wpAny (model prog w) (A.over c fs) (isTrue test env (eval test env)) (fun b s' => if b = true then Seg (model prog w) A R Y n s₀ c ((execs body env).wrap K H gd lv) fs s' else Seg (model prog w) A R Y n s₀ c ((execs orelse env).wrap K H gd lv) fs s')
      (fun x s' => Seg (model prog w) A R Y n s₀ c (H x) fs s') s) :
    Seg (model prog w) A R Y n s₀ c ((exec (.If test body orelse pos) env).wrap K H gd lv) fs s := by
  rw [exec_If]
  refine seg_bind_wrap (wpAny_standAt ?_)
  refine seg_bind_wrap (wpAny_mono h (fun b s' hb => ?_) fun _ _ e => e)
  cases b with
  | true => exact hb
  | false => exact hb

/-- where a loop comes back to -/
noncomputable abbrev ownK (env : Env) (K : Flow → Sem Fin) (H : Value → Sem Fin) (gd : Bool → Bool) (lv : List Value → List Value) (r : Result) : Sem Fin :=
  ((match r with | .ok f => (.pure f : Sem Flow) | .error e => .raise e).onRaise fun (x : Value) => do
        if (← field x 1) == Value.none then unsupported "frame.own-activation:exception-without-traceback"
        setFlight x env.frame).wrap K H gd lv

theorem seg_For {target iter : Expr} {body orelse : List Stmt} {pos : Pos}
    (h : wpAny (model prog w) (A.over c fs) (eval iter env) (fun x s₁ => wpAny (model prog w) (A.over c fs) (pyIter x) (fun it s₂ => ∀ p, Seg (model prog w) A R Y n s₀ (.forLoop target it body orelse env) ((model prog w).den (.forLoop target it body orelse env))
      (.ret (ownK env K H gd lv) none (gd false) (lv []) c p [] :: fs) s₂) (fun x s' => Seg (model prog w) A R Y n s₀ c (H x) fs s') s₁) (fun x s' => Seg (model prog w) A R Y n s₀ c (H x) fs s') s)
    (hs : ∀ x, foldedSetIterable iter env x = pure x := by intro _; rfl) :
    Seg (model prog w) A R Y n s₀ c ((exec (.For target iter body orelse pos) env).wrap K H gd lv) fs s := by
  rw [exec_For]
  refine seg_bind_wrap (wpAny_standAt ?_)
  refine seg_bind_wrap (wpAny_mono h (fun x s₁ h₁ => ?_) fun _ _ e => e)
  refine seg_bind_wrap (wpAny_of_eq (hs x) ?_)
  refine seg_bind_wrap (wpAny_standAt ?_)
  refine seg_bind_wrap (wpAny_holding (wpAny_mono h₁ (fun it s₂ h₂ => ?_) fun _ _ e => e))
  exact seg_call h₂

noncomputable abbrev noteH (env : Env) (e : Value) : Sem Fin := (do noteFrame e env; theTreesLotGoes e : Sem Unit).wrap (fun _ => .raise e) .raise id id
noncomputable abbrev forK (target : Expr) (it : Value) (body orelse : List Stmt) (env : Env) (f : Flow) : Sem Fin := match f with
  | .next | .cont => .pure (.again (.forLoop target it body orelse env))
  | .brk => .pure (.done .next)
  | .ret v => .pure (.done (.ret v))
theorem seg_forLoop {target : Expr} {it : Value} {body orelse : List Stmt}
    (h : wpAny (model prog w) (A.over (.forLoop target it body orelse env) fs) (pyNext it) (fun r s₁ => match r with
        | none => Seg (model prog w) A R Y n s₀ (.forLoop target it body orelse env) (.pure (.again (.block orelse env))) fs s₁
        | some v => wpAny (model prog w) (A.over (.forLoop target it body orelse env) fs) (assign target env v) (fun _ s₂ =>
            Seg (model prog w) A R Y n s₀ (.forLoop target it body orelse env) ((execs body env).wrap (forK target it body orelse env) (noteH env) id id) fs s₂)
            (fun x s' => Seg (model prog w) A R Y n s₀ (.forLoop target it body orelse env) (noteH env x) fs s') s₁)
      (fun x s' => Seg (model prog w) A R Y n s₀ (.forLoop target it body orelse env) (noteH env x) fs s') s)
    (ht : ∀ v, letOwnedTupleGo target it v = pure () := by intro _; rfl) :
    Seg (model prog w) A R Y n s₀ (.forLoop target it body orelse env) ((model prog w).den (.forLoop target it body orelse env)) fs s := by
  show Seg _ A R Y n s₀ _ ((forTurn target it body orelse env).onRaise (fun x => do noteFrame x env; theTreesLotGoes x)) fs s
  unfold forTurn
  rw [Sem.onRaise_eq_wrap]
  refine seg_bind_wrap (wpAny_standAt ?_)
  have hH : ∀ e, ((do noteFrame e env; theTreesLotGoes e : Sem Unit).bind fun _ => .raise e) = noteH env e := fun e => by rw [Sem.bind_eq_wrap]
  refine seg_bind_wrap (wpAny_onRaise (wpAny_mono h (fun r s₁ h₁ => ?_) fun e s' h' => wpAny_standAt (by rw [hH]; exact h')))
  cases r with
  | none => exact h₁
  | some v =>
    refine seg_bind_wrap (wpAny_of_eq (ht v) ?_)
    refine seg_bind_wrap (wpAny_mono h₁ (fun _ s₂ h₂ => ?_) fun e s' h' => by rw [hH]; exact h')
    rw [Sem.bind_eq_wrap', Sem.wrap_wrap]
    rw [Sem.wrap_congr (execs body env) _ _ (K' := forK target it body orelse env) (H' := noteH env) (fun f => by cases f <;> rfl) (fun e => by exact hH e)]
    exact h₂
end

/-! _grouping_intervals -/
/-- what it yields, one after the other -/
noncomputable def gseq : Option Int → List Int → Nat → Option Int
  | _, [], _ => none
  | last, x :: xs, k => if x = 127 then none else if x = 0 then last else match k with
    | 0 => some x
    | k + 1 => gseq (some x) xs k
/-- no 0 ahead of all numbers -/
noncomputable def gok : Option Int → List Int → Prop
  | _, [] => True
  | last, x :: xs => if x = 127 then True else if x = 0 then last.isSome = true else gok (some x) xs

noncomputable def GS (C I : Addr) (s₀ s : Shared) : Prop := ∃ h' tk, s = { s₀ with heap := h', toks := tk } ∧ ∀ b o, b ≠ C → b ≠ I → s₀.heap.get? b = some o → h'.get? b = some o
theorem GS.refl (C I : Addr) (s : Shared) : GS C I s s := ⟨s.heap, s.toks, rfl, fun _ _ _ _ e => e⟩
theorem GS.step {C I : Addr} {s₀ s : Shared} (x : GS C I s₀ s) {h' : Heap} {tk : Nat} (hk : ∀ b o, b ≠ C → b ≠ I → s.heap.get? b = some o → h'.get? b = some o) : GS C I s₀ { s with heap := h', toks := tk } := by
  obtain ⟨h₁, tk₁, rfl, hk₁⟩ := x
  exact ⟨h', tk, rfl, fun b o h1 h2 e => hk b o h1 h2 (hk₁ b o h1 h2 e)⟩

noncomputable def gY (hg : Heap) (C I lr : Addr) (seq : Nat → Option Int) (Nt : Nat) : Protocol := fun m s₀ v s κ => m = 0 ∨
  ((∃ x t, v = .int x t ∧ seq (Nt - (m + 1)) = some x) ∧ GS C I s₀ s ∧ (∃ o, s.heap.get? C = some o) ∧ (∃ o, s.heap.get? I = some o) ∧
    ∀ s'' : Shared, (∀ b o, b = C ∨ b = I ∨ b = lr → s.heap.get? b = some o → s''.heap.get? b = some o) → (∀ b o, hg.get? b = some o → s''.heap.get? b = some o) → κ (.send .none) s'')
noncomputable abbrev gR (C I : Addr) (seq : Nat → Option Int) (Nt : Nat) : GenEnd := fun n s₀ r s₁ => r = .ok (.ret .none) ∧ seq (Nt - n) = none ∧ GS C I s₀ s₁

section
variable {prog : Program} {w : World} {A : Around} {hg : Heap} {env : Env} {I lr : Addr} {seq : Nat → Option Int} {Nt : Nat} {vs : List Value} {ns : List Int}

theorem fr_of {hg : Heap} {L : Addr} {h h' : Heap} {m : Str → Option Value} (F : Fr hg L h m) (h1 : ∀ o, h.get? L = some o → h'.get? L = some o) (h2 : ∀ b o, hg.get? b = some o → h'.get? b = some o) : Fr hg L h' m := ⟨F.ns.at' h1, h2, F.above⟩

/-- the last number, for ever -/
theorem seg_forever {fs : List Frame} (hfs : splitAtGen fs = none) (hfg : fs.any Frame.guarded = false) (hkf : env.scope.kind = .function) (hkl : env.kindOf (Str.ofString "last_interval") = some .local) (hco : env.scope.isCoroutine = false) (hin : interactive env = false)
    {x : Int} {t : Tok} {p1 p2 p3 p4 : Pos} {k4 : Nat} :
    ∀ (n j : Nat) (s₀ s : Shared) (m : Str → Option Value), j + (n + 1) = Nt → (∀ k, seq (j + k) = some x) → Fr hg env.locals s.heap m → m (Str.ofString "last_interval") = some (.int x t) → GS env.locals I s₀ s → (∃ o, s.heap.get? I = some o) →
      Seg (model prog w) A (gR env.locals I seq Nt) (gY hg env.locals I lr seq Nt) (n + 1) s₀ (.whileLoop (.Constant (.bool true) k4 p4) [.Expr (.Yield (some (.Name (Str.ofString "last_interval") p1)) p2) p3] [] env)
        ((model prog w).den (.whileLoop (.Constant (.bool true) k4 p4) [.Expr (.Yield (some (.Name (Str.ofString "last_interval") p1)) p2) p3] [] env)) fs s := by
  intro n
  induction n with
  | zero =>
    intro j s₀ s m hj hseq F hm hs hI
    refine seg_whileLoop (wpAny_isTrue_value (wpAny_Constant_bool (wpAny_truthy_bool ?_)))
    rw [if_pos rfl]
    refine seg_execs_cons (seg_Expr_Yield hfs rfl hfg ?_ hco hin)
    exact wpAny_Name (wpAny_loadName_local hkf hkl F.ns hm fun κ _ => .inl rfl)
  | succ n ih =>
    intro j s₀ s m hj hseq F hm hs hI
    refine seg_whileLoop (wpAny_isTrue_value (wpAny_Constant_bool (wpAny_truthy_bool ?_)))
    rw [if_pos rfl]
    refine seg_execs_cons (seg_Expr_Yield hfs rfl hfg ?_ hco hin)
    refine wpAny_Name (wpAny_loadName_local hkf hkl F.ns hm fun κ hκ => .inr ⟨⟨x, t, rfl, ?_⟩, hs, ?_, hI, fun s'' h1 h2 => hκ .none s'' ?_⟩)
    · have := hseq 0
      rw [show Nt - (n + 1 + 1) = j + 0 by (first | lia | omega)]; exact this
    · obtain ⟨o, _, _, ho, _⟩ := F.ns
      exact ⟨o, ho⟩
    · show Seg _ _ _ _ _ _ _ _ _ _
      refine seg_execs_nil (seg_again rfl (ih (j + 1) s'' s'' m (by (first | lia | omega)) (fun k => ?_) (fr_of F (fun o e => h1 _ o (.inl rfl) e) h2) hm (GS.refl _ _ _) ?_))
      · rw [show j + 1 + k = j + (k + 1) by (first | lia | omega)]; exact hseq _
      · obtain ⟨o, ho⟩ := hI
        exact ⟨o, h1 _ o (.inr (.inl rfl)) ho⟩

noncomputable def LastIs (m : Str → Option Value) : Option Int → Prop
  | none => m (Str.ofString "last_interval") = some .none
  | some x => ∃ t, m (Str.ofString "last_interval") = some (.int x t)
theorem list_kept {h h' : Heap} {a : Addr} {items : Array Value} (x : h.IsList a items) (hk : ∀ o, h.get? a = some o → h'.get? a = some o) : h'.IsList a items := let ⟨o, ho, r⟩ := x; ⟨o, hk o ho, r⟩
theorem iter_kept {h h' : Heap} {a l : Addr} {i : Nat} (x : h.IsListIter a l i) (hk : ∀ o, h.get? a = some o → h'.get? a = some o) : h'.IsListIter a l i := let ⟨o, ho, r⟩ := x; ⟨o, hk o ho, r⟩
theorem ints_at {vs : List Value} {ns : List Int} (h : IntsAre vs ns) : ∀ {i : Nat} {v : Value}, vs[i]? = some v → ∃ x t, v = .int x t ∧ ns.drop i = x :: ns.drop (i + 1) := by
  induction h with
  | nil => intro i v hv; simp at hv
  | cons n t _ ih =>
    intro i v hv
    cases i with
    | zero => exact ⟨n, t, by simpa using hv.symm, rfl⟩
    | succ i => exact ih (by simpa using hv)

noncomputable abbrev gBody (eMax : Expr) (rb : List Stmt) (k4 k6 k9 : Nat) (p1 p2 p3 p4 p5 q1 q2 q3 q4 q5 q6 q7 q8 q9 q10 q11 q12 q13 q14 q15 q16 q17 q18 : Pos) : List Stmt :=
  [.If (.Compare (.Name (Str.ofString "interval") q1) [.Eq] [eMax] q2) [.Return none q3] [] q4,
   .If (.Compare (.Name (Str.ofString "interval") q5) [.Eq] [.Constant (.int 0) k6 q6] q7)
     [.If (.Compare (.Name (Str.ofString "last_interval") q8) [.Is] [.Constant .none k9 q9] q10) rb [] q11,
      .While (.Constant (.bool true) k4 p4) [.Expr (.Yield (some (.Name (Str.ofString "last_interval") p1)) p2) p3] [] p5] [] q12,
   .Expr (.Yield (some (.Name (Str.ofString "interval") q13)) q14) q15,
   .Assign [.Name (Str.ofString "last_interval") q16] (.Name (Str.ofString "interval") q17) q18]

theorem seg_gfor {fs : List Frame} {tmax : Tok} {eMax : Expr} {rb : List Stmt} {k4 k6 k9 : Nat} {p1 p2 p3 p4 p5 q1 q2 q3 q4 q5 q6 q7 q8 q9 q10 q11 q12 q13 q14 q15 q16 q17 q18 q19 : Pos}
    (hfs : splitAtGen fs = none) (hfg : fs.any Frame.guarded = false) (hkf : env.scope.kind = .function) (hkl : env.kindOf (Str.ofString "last_interval") = some .local) (hki : env.kindOf (Str.ofString "interval") = some .local) (hco : env.scope.isCoroutine = false) (hin : interactive env = false)
    (hp : (env.scope.kind == .class || (env.scope.kind == .module && env.locals != env.globals)) = false)
    (hmax : ∀ (A' : Around) (E' : Value → Shared → Prop) (s : Shared) (m : Str → Option Value) (Q : Value → Shared → Prop), Fr hg env.locals s.heap m → Q (.int 127 tmax) s → wpAny (model prog w) A' (eval eMax env) Q E' s)
    (hmk : behindInMarks .Eq eMax = false)
    (hIC : I ≠ env.locals) (hlC : lr ≠ env.locals) (hIl : I ≠ lr) (hIg : hg.get? I = none) (hints : IntsAre vs ns)
    (hhF : ∀ body, (A.over (.forLoop (.Name (Str.ofString "interval") q19) (.ref I) body [] env) fs).handled = none)
    (hend : ∀ n s₀ s c, gR env.locals I seq Nt n s₀ (.ok (.ret .none)) s → Seg (model prog w) A (gR env.locals I seq Nt) (gY hg env.locals I lr seq Nt) n s₀ c (leafOf (.ok .next)) fs s)
    (hret : ∀ n s₀ s c, gR env.locals I seq Nt n s₀ (.ok (.ret .none)) s → Seg (model prog w) A (gR env.locals I seq Nt) (gY hg env.locals I lr seq Nt) n s₀ c (leafOf (.ok (.ret .none))) fs s) :
    ∀ (k i n j : Nat) (s₀ s : Shared) (m : Str → Option Value) (last : Option Int), vs.length - i = k → i ≤ vs.length → j + (n + 1) = Nt → (∀ k, seq (j + k) = gseq last (ns.drop i) k) → gok last (ns.drop i) →
      Fr hg env.locals s.heap m → LastIs m last → s.heap.IsList lr vs.toArray → s.heap.IsListIter I lr i → GS env.locals I s₀ s →
      Seg (model prog w) A (gR env.locals I seq Nt) (gY hg env.locals I lr seq Nt) (n + 1) s₀ (.forLoop (.Name (Str.ofString "interval") q19) (.ref I) (gBody eMax rb k4 k6 k9 p1 p2 p3 p4 p5 q1 q2 q3 q4 q5 q6 q7 q8 q9 q10 q11 q12 q13 q14 q15 q16 q17 q18) [] env)
        ((model prog w).den (.forLoop (.Name (Str.ofString "interval") q19) (.ref I) (gBody eMax rb k4 k6 k9 p1 p2 p3 p4 p5 q1 q2 q3 q4 q5 q6 q7 q8 q9 q10 q11 q12 q13 q14 q15 q16 q17 q18) [] env)) fs s := by
  intro k
  induction k with
  | zero =>
    intro i n j s₀ s m last hk hi hj hseq hok F hl hli hit hs
    have hii : i = vs.length := by (first | lia | omega)
    have hvl := hints.length
    refine seg_forLoop (wpAny_pyNext_list_end (hhF _) hit hli (by simp [hii]) fun h' he => ?_)
    refine seg_again rfl ?_
    refine hend _ _ _ _ ⟨rfl, ?_, hs.step fun b o _ hbI e => he b o hbI e⟩
    have := hseq 0
    rw [show Nt - (n + 1) = j + 0 by (first | lia | omega), this, List.drop_eq_nil_of_le (by (first | lia | omega))]
    rfl
  | succ k ih =>
    intro i n j s₀ s m last hk hi hj hseq hok F hl hli hit hs
    have hlt : i < vs.length := by (first | lia | omega)
    have hv : vs[i]? = some (vs[i]'hlt) := List.getElem?_eq_getElem hlt
    obtain ⟨x, t, hxv, hdr⟩ := ints_at hints hv
    rw [hxv] at hv
    refine seg_forLoop (wpAny_pyNext_list_item hit hli (by rw [List.getElem?_toArray]; exact hv) fun h₁ hit₁ hs₁ => ?_)
    have F₁ := fr_other F hIg (Ne.symm hIC) hs₁.extBut
    refine wpAny_assign_Name (wpAny_storeName_local hki F₁.ns (fun h₂ hn₂ hs₂ => ?_) hp)
    have F₂ := F₁.set hn₂ hs₂
    have hli₂ : h₂.IsList lr vs.toArray := list_kept hli fun o e => hs₂.extBut lr o hlC (hs₁.extBut lr o (Ne.symm hIl) e)
    have hit₂ : h₂.IsListIter I lr (i + 1) := iter_kept hit₁ fun o e => hs₂.extBut I o hIC e
    have hGS₂ : GS env.locals I s₀ { s with heap := h₂, toks := s.toks + 1 } := hs.step fun b o hC hI e => hs₂.extBut b o hC (hs₁.extBut b o hI e)
    have hmi : (fun y => if y = Str.ofString "interval" then some (Value.int x t) else m y) (Str.ofString "interval") = some (.int x t) := if_pos rfl
    have hml : (fun y => if y = Str.ofString "interval" then some (Value.int x t) else m y) (Str.ofString "last_interval") = m (Str.ofString "last_interval") := if_neg (by decide)
    rw [hdr] at hseq hok
    refine seg_execs_cons (seg_If (wpAny_isTrue_Compare1 (wpAny_Name (wpAny_loadName_local hkf hki F₂.ns hmi (hmax _ _ _ _ _ F₂ (eq_int (wpAny_truthy_bool ?_))))) hmk))
    by_cases hx : x = 127
    · rw [if_pos (by simp [hx])]
      refine seg_execs_cons ?_
      rw [exec_Return_none]
      refine seg_bind_wrap (wpAny_standAt ?_)
      refine hret _ _ _ _ ⟨rfl, ?_, hGS₂⟩
      have := hseq 0
      rw [show Nt - (n + 1) = j + 0 by (first | lia | omega), this]
      simp [gseq, hx]
    · rw [if_neg (by simp [hx])]
      refine seg_execs_nil (seg_execs_cons (seg_If (wpAny_isTrue_Compare1 (wpAny_Name (wpAny_loadName_local hkf hki F₂.ns hmi (wpAny_Constant_int (eq_int (wpAny_truthy_bool ?_))))))))
      by_cases hx0 : x = 0
      · rw [if_pos (by simp [hx0])]
        have hls : ∃ y ty, last = some y ∧ m (Str.ofString "last_interval") = some (.int y ty) := by
          simp only [gok, hx, if_false, hx0, if_true] at hok
          cases last with
          | none => simp at hok
          | some y => obtain ⟨ty, hy⟩ := hl; exact ⟨y, ty, rfl, hy⟩
        obtain ⟨y, ty, rfl, hy⟩ := hls
        refine seg_execs_cons (seg_If (wpAny_isTrue_Compare1 (wpAny_Name (wpAny_loadName_local hkf hkl F₂.ns (hml.trans hy) (wpAny_Constant_none (wpAny_is_other rfl (by intro q; cases q) (wpAny_truthy_bool ?_)))))))
        rw [if_neg Bool.false_ne_true]
        refine seg_execs_nil (seg_execs_cons (seg_While fun p => ?_))
        refine seg_forever (by simp [splitAtGen, hfs]) (by simp [Frame.guarded, hfg]) hkf hkl hco hin n j s₀ _ _ hj (fun k => ?_) F₂ (hml.trans hy) (hGS₂.step fun _ _ _ _ e => e) ⟨_, hit₂.choose_spec.1⟩
        rw [hseq]; simp [gseq, hx, hx0]
      · rw [if_neg (by simp [hx0])]
        refine seg_execs_nil (seg_execs_cons (seg_Expr_Yield hfs rfl hfg ?_ hco hin))
        refine wpAny_Name (wpAny_loadName_local hkf hki F₂.ns hmi fun κ hκ => ?_)
        cases n with
        | zero => exact .inl rfl
        | succ n =>
          refine .inr ⟨⟨x, t, rfl, ?_⟩, hGS₂.step fun _ _ _ _ e => e, ?_, ⟨_, hit₂.choose_spec.1⟩, fun s'' h1 h2 => hκ .none s'' ?_⟩
          · have := hseq 0
            rw [show Nt - (n + 1 + 1) = j + 0 by (first | lia | omega), this]; simp [gseq, hx, hx0]
          · obtain ⟨o, _, _, ho, _⟩ := F₂.ns
            exact ⟨o, ho⟩
          · show Seg _ _ _ _ _ _ _ _ _ _
            have F₃ : Fr hg env.locals s''.heap _ := fr_of F₂ (fun o e => h1 _ o (.inl rfl) e) h2
            refine seg_execs_cons (seg_wrap (wpAny_Assign_Name (wpAny_Name (wpAny_loadName_local hkf hki F₃.ns hmi (wpAny_storeName_local hkl F₃.ns (fun h₄ hn₄ hs₄ => ?_) hp)))))
            have F₄ := F₃.set hn₄ hs₄
            refine seg_execs_nil (seg_again rfl (ih (i + 1) n (j + 1) s'' _ _ (some x) (by (first | lia | omega)) (by (first | lia | omega)) (by (first | lia | omega)) (fun k => ?_) ?_ F₄ ⟨t, if_pos rfl⟩ ?_ ?_ ((GS.refl _ _ _).step fun b o hC _ e => hs₄.extBut b o hC e)))
            · rw [show j + 1 + k = j + (k + 1) by (first | lia | omega), hseq]; simp [gseq, hx, hx0]
            · simpa only [gok, hx, hx0, if_false] using hok
            · exact list_kept hli₂ fun o e => hs₄.extBut lr o hlC (h1 _ o (.inr (.inr rfl)) e)
            · exact iter_kept hit₂ fun o e => hs₄.extBut I o hIC (h1 _ o (.inr (.inl rfl)) e)
end
end Mine

namespace Mine
open PySem PySem.W PySem.Calls PyProof.Rows
section
variable {prog : Program} {w : World} {A : Around} {hg : Heap} {env : Env} {I lr : Addr} {seq : Nat → Option Int} {Nt : Nat} {vs : List Value} {ns : List Int}

/-- the generator's start -/
theorem seg_gstart {tmax : Tok} {eMax : Expr} {rb : List Stmt} {k0 k4 k6 k9 : Nat} {r1 r2 r3 r4 r5 p1 p2 p3 p4 p5 q1 q2 q3 q4 q5 q6 q7 q8 q9 q10 q11 q12 q13 q14 q15 q16 q17 q18 q19 : Pos}
    (hh : A.handled = none) (hkf : env.scope.kind = .function) (hkg : env.kindOf (Str.ofString "grouping") = some .local) (hkl : env.kindOf (Str.ofString "last_interval") = some .local) (hki : env.kindOf (Str.ofString "interval") = some .local) (hco : env.scope.isCoroutine = false) (hin : interactive env = false)
    (hp : (env.scope.kind == .class || (env.scope.kind == .module && env.locals != env.globals)) = false)
    (hmax : ∀ (A' : Around) (E' : Value → Shared → Prop) (s : Shared) (m : Str → Option Value) (Q : Value → Shared → Prop), Fr hg env.locals s.heap m → Q (.int 127 tmax) s → wpAny (model prog w) A' (eval eMax env) Q E' s)
    (hmk : behindInMarks .Eq eMax = false) (hs1 : ∀ x, foldedSetIterable (.Name (Str.ofString "grouping") r4) env x = pure x) (hs2 : swapsWith (.Constant .none k0 r2) (some (.Name (Str.ofString "last_interval") r1)) r3.line env = pure false)
    (hlC : lr ≠ env.locals) (hints : IntsAre vs ns) {n : Nat} {s : Shared} {m : Str → Option Value} (hn : n + 1 = Nt) (hseq : ∀ k, seq k = gseq none ns k) (hok : gok none ns) (F : Fr hg env.locals s.heap m) (hm : m (Str.ofString "grouping") = some (.ref lr))
    (hli : s.heap.IsList lr vs.toArray) (hI : I = s.heap.objs.size) :
    Seg (model prog w) A (gR env.locals I seq Nt) (gY hg env.locals I lr seq Nt) (n + 1) s (.func [.Assign [.Name (Str.ofString "last_interval") r1] (.Constant .none k0 r2) r3, .For (.Name (Str.ofString "interval") q19) (.Name (Str.ofString "grouping") r4) (gBody eMax rb k4 k6 k9 p1 p2 p3 p4 p5 q1 q2 q3 q4 q5 q6 q7 q8 q9 q10 q11 q12 q13 q14 q15 q16 q17 q18) [] r5] env)
      ((model prog w).den (.func [.Assign [.Name (Str.ofString "last_interval") r1] (.Constant .none k0 r2) r3, .For (.Name (Str.ofString "interval") q19) (.Name (Str.ofString "grouping") r4) (gBody eMax rb k4 k6 k9 p1 p2 p3 p4 p5 q1 q2 q3 q4 q5 q6 q7 q8 q9 q10 q11 q12 q13 q14 q15 q16 q17 q18) [] r5] env)) [] s := by
  have hCs : env.locals < s.heap.objs.size := F.ns.lt
  have hls : lr < s.heap.objs.size := let ⟨o, ho, _⟩ := hli; Heap.lt_size ho
  refine seg_func (seg_execs_cons (seg_wrap (wpAny_Assign_Name (wpAny_Constant_none (wpAny_storeName_local hkl F.ns (fun h₁ hn₁ hs₁ => ?_) hp)) hs2)))
  have F₁ := F.set hn₁ hs₁
  have hli₁ : h₁.IsList lr vs.toArray := list_kept hli fun o e => hs₁.extBut lr o hlC e
  have hsz : h₁.objs.size = s.heap.objs.size := hs₁.1
  have hmg : (fun y => if y = Str.ofString "last_interval" then some Value.none else m y) (Str.ofString "grouping") = some (.ref lr) := (if_neg (by decide)).trans hm
  refine seg_execs_cons (seg_For (wpAny_Name (wpAny_loadName_local hkf hkg F₁.ns hmg (wpAny_pyIter_list hli₁ fun p => ?_))) hs1)
  have hIe : h₁.objs.size = I := by rw [hsz, hI]
  show Seg _ _ _ _ _ _ (.forLoop _ (.ref h₁.objs.size) _ _ _) _ _ _
  rw [hIe]
  have hIg : hg.get? I = none := by
    cases q : hg.get? I with
    | none => rfl
    | some o => exact absurd (Heap.lt_size (F.keep _ _ q)) (by rw [hI]; exact Nat.lt_irrefl _)
  have hleaf : ∀ n s₀ s c, gR env.locals I seq Nt n s₀ (.ok (.ret .none)) s → Seg (model prog w) A (gR env.locals I seq Nt) (gY hg env.locals I lr seq Nt) n s₀ c (.pure (.done (.ret .none))) [] s := fun n s₀ s c h => seg_end (.ok (.ret .none)) h
  refine seg_gfor rfl rfl hkf hkl hki hco hin hp hmax hmk (by rw [hI]; exact Nat.ne_of_gt hCs) hlC (by rw [hI]; exact Nat.ne_of_gt hls) hIg hints (fun body => ?_) (fun n s₀ s c h => seg_leaf (.ok .next) (hleaf _ _ _ _ h)) (fun n s₀ s c h => seg_leaf (.ok (.ret .none)) (hleaf _ _ _ _ h)) vs.length 0 n 0 s _ _ none (by (first | lia | omega)) (by (first | lia | omega)) (by (first | lia | omega)) (fun k => by rw [Nat.zero_add]; exact hseq k) hok (F₁.push _) (if_pos rfl) (list_kept hli₁ fun o e => Heap.get?_push_of_some _ e) ⟨_, by rw [← hIe]; exact Heap.get?_push_size _ rfl, rfl, rfl⟩
    ⟨_, _, rfl, fun b o hC hbI e => Heap.get?_push_of_some _ (hs₁.extBut b o hC e)⟩
  exact hh

theorem pyNext_genQ {E : Value → Shared → Prop} {s : Shared} {a : Addr} {g n : Nat} {gs : GenState} {P : Nat → Shared → Shared → Prop} {Y : Protocol} {Q : Option Value → Shared → Prop} (hh : A.handled = none)
    (hl : s.heap.NoLimit) (hroom : A.depth < recursionLimit)
    (hg : s.heap.IsGen a g) (hgs : s.gens[g]? = some gs)
    (hgo : gs.Goes (model prog w) A.in1 (fun n s₀ r s₁ => r = .ok (.ret .none) ∧ P n s₀ s₁) Y n (.send .none) (s.setGen g .running))
    (hY : ∀ v s₁ gs', gs'.bare = true → Y (n - 1) (s.setGen g .running) v s₁ (fun r' s'' => match n with
        | 0 => False
        | m + 1 => gs'.Goes (model prog w) A.in1 (fun n s₀ r s₁ => r = .ok (.ret .none) ∧ P n s₀ s₁) Y m r' s'') → Q (some v) (s₁.setGen g gs'))
    (hP : ∀ s₁, P n (s.setGen g .running) s₁ → ∀ h', (∀ b o, s₁.heap.get? b = some o → h'.get? b = some o) → Q none { s₁.setGen g .finished with heap := h' }) :
    wpAny (model prog w) A (pyNext (.ref a)) Q E s := by
  unfold pyNext
  refine wpAny_bind (wpAny_attempt (wpAny_callSpecial?_slot (name := Str.ofString "__next__") hg.typeIs slot_gen_next
    (wpAny_call_entry slot_gen_next hg.typeIs entry_gen_next ?_ (args_gen_next _))))
  show wpAny _ _ (Builtin.Generator.genWake (.ref a) (.send .none)) _ _ s
  unfold Builtin.Generator.genWake
  refine wpAny_bind (wpAny_holding (wpAny_genNumber hg (wpAny_bind (wpAny_genState hgs ?_))))
  cases gs with
  | running => exact hgo.elim
  | finished => exact hgo.elim
  | _ =>
    refine wpAny_bind (wpAny_roomToWake hl hroom ?_)
    show wpAny _ _ (.resume g (.send .none) [] _) _ _ s
    refine wpAny_resumeQ hgs hgo (fun x s₁ hx => ?_) (fun v s₁ gs' hb hv => ?_)
    · obtain ⟨rfl, hp⟩ := hx
      show wpAny _ _ (newExc (.type "StopIteration") [] >>= _) _ _ _
      refine wpAny_bind ?_
      simp only [newExc, newTuple]
      refine wpAny_bind (wpAny_newObj_type ?_ (by size_fits))
      refine wpAny_bind (m := firstArgMember _ _) (wpAny_of_eq (a := Value.none) (by first | rfl | (simp only [firstArgMember]; rfl)) ?_)
      refine wpAny_newObj_type ?_ (by size_fits)
      simp only [raiseNew]
      refine wpAny_bind (wpAny_bind (wpAny_handled ?_))
      first | rw [show A.in1.handled = none from hh] | rw [hh]
      refine wpAny_throw ?_
      refine wpAny_bind (wpAny_isInstance (T := "StopIteration") (b := true) ⟨_, Heap.get?_push_size _ rfl, rfl⟩ isSubtype_stop ?_)
      exact wpAny_pure (hP s₁ hp _ fun b o hb => Heap.get?_push_of_some _ (Heap.get?_push_of_some _ hb))
    · exact wpAny_pure ⟨v, rfl, wpAny_pure (hY v s₁ gs' hb hv)⟩
end
end Mine

namespace Mine
open PySem PySem.W PySem.Calls PyProof.Rows
noncomputable def AllB (gns : Array GenState) : Prop := ∀ x ∈ gns, x.bare = true
theorem AllB.set {gns : Array GenState} (h : AllB gns) {g : Nat} {u v : GenState} (hv : v.bare = true) : AllB ((gns.setIfInBounds g u).setIfInBounds g v) := by
  intro x hx
  obtain ⟨i, hi, e⟩ := Array.mem_iff_getElem.mp hx
  simp only [Array.size_setIfInBounds] at hi
  rw [Array.getElem_setIfInBounds (by simpa using hi)] at e
  by_cases hgi : g = i
  · rw [if_pos hgi] at e; rw [← e]; exact hv
  · rw [if_neg hgi, Array.getElem_setIfInBounds hi, if_neg hgi] at e
    rw [← e]; exact h _ (Array.getElem_mem hi)
theorem get_set {gns : Array GenState} {g : Nat} {u v w : GenState} (h : gns[g]? = some w) : ((gns.setIfInBounds g u).setIfInBounds g v)[g]? = some v := by
  have hlt : g < gns.size := by
    cases Nat.lt_or_ge g gns.size with
    | inl h => exact h
    | inr h' => rw [Array.getElem?_eq_none h'] at h; cases h
  rw [Array.getElem?_setIfInBounds]
  simp [hlt]

section
variable {prog : Program} {w : World} {A : Around} {E : Value → Shared → Prop} {s : Shared} {env : Env} {h₀ : Heap} {L : Addr} {x : Str} {px : Pos} {body : List Stmt} {Q : Flow → Shared → Prop}

/-- what a yield tells, taken apart at once -/
theorem gY_elim {hg : Heap} {C I lr : Addr} {seq : Nat → Option Int} {Nt m : Nat} {s₀ s : Shared} {v : Value} {κ : Resume → Shared → Prop} {Z : Prop} (h : gY hg C I lr seq Nt m s₀ v s κ) (hm : m ≠ 0)
    (k : ∀ x t h₁ tk₁ oC oI, v = .int x t → s = { s₀ with heap := h₁, toks := tk₁ } → seq (Nt - (m + 1)) = some x → (∀ b o, b ≠ C → b ≠ I → s₀.heap.get? b = some o → h₁.get? b = some o) → h₁.get? C = some oC → h₁.get? I = some oI →
      (∀ s'' : Shared, (∀ b o, b = C ∨ b = I ∨ b = lr → h₁.get? b = some o → s''.heap.get? b = some o) → (∀ b o, hg.get? b = some o → s''.heap.get? b = some o) → κ (.send .none) s'') → Z) : Z := by
  rcases h with hz | ⟨⟨x, t, hv, hsq⟩, ⟨h₁, tk₁, rfl, hk₁⟩, ⟨oC, hC⟩, ⟨oI, hI⟩, hκ⟩
  · exact absurd hz hm
  · exact k x t h₁ tk₁ oC oI hv rfl hsq hk₁ hC hI hκ
/-- what stands between the turns of a for over the generator -/
inductive GInv (M : Model) (A : Around) (h₀ : Heap) (L : Addr) (s : Shared) (a C I lr : Addr) (og : Obj) (seq : Nat → Option Int) (Nt g : Nat) (J : Nat → (Str → Option Value) → List (Addr × Obj) → Prop) : Nat → Shared → Prop
  | mk (h : Heap) (tk : Nat) (gns : Array GenState) (m : Str → Option Value) (news : List (Addr × Obj)) (i : Nat) (gs : GenState) (oC : Obj) (hg : gns[g]? = some gs) (hB : AllB gns) (F : Fr h₀ L h m) (N : News h₀ L h ((a, og) :: (C, oC) :: news)) (hJ : J i m news) (hof : ∀ p ∈ news, p.1 ≠ a ∧ p.1 ≠ C ∧ p.1 ≠ I)
      (hgo : gs.Goes M A.in1 (gR C I seq Nt) (gY h₀ C I lr seq Nt) (Nt - i) (.send .none) (({ s with heap := h, toks := tk, gens := gns } : Shared).setGen g .running)) : GInv M A h₀ L s a C I lr og seq Nt g J (Nt - i) { s with heap := h, toks := tk, gens := gns }
/-- a for over the generator -/
theorem for_gen {a C lr I : Addr} {g Nt : Nat} {og lo : Obj} {seq : Nat → Option Int} {gs₀ : GenState} {oC₀ : Obj} {m₀ : Str → Option Value} {news₀ : List (Addr × Obj)}
    (J : Nat → (Str → Option Value) → List (Addr × Obj) → Prop)
    (hL : env.locals = L) (hh : A.handled = none) (hx : env.kindOf x = some .local)
    (hp : (env.scope.kind == .class || (env.scope.kind == .module && env.locals != env.globals)) = false)
    (hroom : A.depth < recursionLimit) (hlim : ∀ h : Heap, (∀ b o, h₀.get? b = some o → h.get? b = some o) → h.NoLimit)
    (hog : ∀ h : Heap, h.get? a = some og → h.IsGen a g) (hI : I = s.heap.objs.size) (hlC : lr ≠ C)
    (F : Fr h₀ L s.heap m₀) (N : News h₀ L s.heap ((a, og) :: (C, oC₀) :: news₀)) (haC : a ≠ C) (hoff : ∀ p ∈ news₀, p.1 ≠ a ∧ p.1 ≠ C) (h0 : J 0 m₀ news₀) (hB : AllB s.gens) (hgs : s.gens[g]? = some gs₀)
    (hgo : gs₀.Goes (model prog w) A.in1 (gR C I seq Nt) (gY h₀ C I lr seq Nt) Nt (.send .none) (s.setGen g .running))
    (hlr : ∀ i m news, J i m news → (lr, lo) ∈ news) (hbud : ∀ i m news, J i m news → i + 2 ≤ Nt)
    (turn : ∀ i v t m news h tk gns oC oI, seq i = some v → J i m news → AllB gns → (∀ p ∈ news, p.1 ≠ a ∧ p.1 ≠ C ∧ p.1 ≠ I) →
      Fr h₀ L h (fun y => if y = x then some (.int v t) else m y) → News h₀ L h ((a, og) :: (C, oC) :: (I, oI) :: news) →
      wpAny (model prog w) A (execs body env) (LPost Q (LEnd h₀ L (J (i + 1)) [(a, og), (C, oC), (I, oI)] { s with heap := h, toks := tk, gens := gns })) (fun _ _ => False) { s with heap := h, toks := tk, gens := gns })
    (done : ∀ i m news h tk gns, seq i = none → J i m news → AllB gns → Fr h₀ L h m → News h₀ L h news → Q .next { s with heap := h, toks := tk, gens := gns }) :
    wpAny (model prog w) A (pyIter (.ref a)) (fun it s₂ => codeAny (model prog w) A (.forLoop (.Name x px) it body [] env) (fun r s' => match r with | .ok f => Q f s' | .error e => cameBackBy (model prog w) A env E e s') s₂) E s := by
  subst hL
  refine wpAny_pyIter_gen (hog _ (N _ (.head _)).1) ?_
  have hLt : env.locals < s.heap.objs.size := F.ns.lt
  have hILne : I ≠ env.locals := by rw [hI]; exact Nat.ne_of_gt hLt
  have hI0 : h₀.get? I = none := by
    cases q : h₀.get? I with
    | none => rfl
    | some o => exact absurd (Heap.lt_size (F.keep _ _ q)) (by rw [hI]; exact Nat.lt_irrefl _)
  have hltN : ∀ p ∈ (a, og) :: (C, oC₀) :: news₀, p.1 ≠ I := fun p hp => by rw [hI]; exact Nat.ne_of_lt (Heap.lt_size (N p hp).1)
  have haI : a ≠ I := hltN _ (.head _)
  have hCI : C ≠ I := hltN _ (.tail _ (.head _))
  obtain ⟨_, hCL, hC0⟩ := N (C, oC₀) (.tail _ (.head _))
  obtain ⟨_, haL, ha0⟩ := N (a, og) (.head _)
  refine codeAny_forLoop (GInv (model prog w) A h₀ env.locals s a C I lr og seq Nt g J) ?_ Nt
    (GInv.mk s.heap s.toks s.gens m₀ news₀ 0 gs₀ oC₀ hgs hB F N h0 (fun p hp => ⟨(hoff p hp).1, (hoff p hp).2, hltN p (.tail _ (.tail _ hp))⟩) hgo)
  rintro n s' ⟨h, tk, gns, m, news, i, gs, oC, hgsi, hBi, F₁, N₁, hJ, hof, hgoi⟩
  have hb := hbud i m news hJ
  refine pyNext_genQ (n := Nt - i) (P := fun n s₀ s₁ => seq (Nt - n) = none ∧ GS C I s₀ s₁) hh (hlim _ F₁.keep) hroom (hog _ (N₁ _ (.head _)).1) hgsi hgoi (fun v s₁ gs' hb' hy => ?_) (fun s₁ hP h' hk' => ?_)
  · refine gY_elim hy (by (first | lia | omega)) fun xv t h₁ tk₁ oC' oI' ev es hsq hk₁ hC' hI' hκ => ?_
    subst ev es
    rw [show Nt - (Nt - i - 1 + 1) = i by (first | lia | omega)] at hsq
    dsimp only [Shared.setGen] at hk₁ hC' hI' hκ ⊢
    have hnsL : h₁.Ns env.locals m := F₁.ns.at' fun o e => hk₁ _ o (Ne.symm hCL) (Ne.symm hILne) e
    have F₂ : Fr h₀ env.locals h₁ m := ⟨hnsL, fun b o e => hk₁ b o (fun q => by rw [q, hC0] at e; cases e) (fun q => by rw [q, hI0] at e; cases e) (F₁.keep b o e), F₁.above⟩
    refine wpAny_assign_Name (wpAny_storeName_local hx F₂.ns (fun h₂ hn₂ hs₂ => ?_) hp)
    have N₃ : News h₀ env.locals h₂ ((a, og) :: (C, oC') :: (I, oI') :: news) := by
      refine News.set ?_ hs₂
      refine List.forall_mem_cons.mpr ⟨⟨hk₁ _ _ haC haI (N₁ _ (.head _)).1, haL, ha0⟩, List.forall_mem_cons.mpr ⟨⟨hC', hCL, hC0⟩, List.forall_mem_cons.mpr ⟨⟨hI', hILne, hI0⟩, fun p hp' => ?_⟩⟩⟩
      have q := N₁ p (.tail _ (.tail _ hp'))
      exact ⟨hk₁ _ _ (hof p hp').2.1 (hof p hp').2.2 q.1, q.2⟩
    refine wpAny_mono (turn i xv t m news h₂ _ _ oC' oI' hsq hJ (hBi.set (u := .running) hb') hof (F₂.set hn₂ hs₂) N₃) (fun f s₃ h₃ => ?_) fun _ _ q => q.elim
    have fin : LEnd h₀ env.locals (J (i + 1)) [(a, og), (C, oC'), (I, oI')] { s with heap := h₂, toks := tk₁ + 1, gens := (gns.setIfInBounds g .running).setIfInBounds g gs' } s₃ → ∃ m, m < Nt - i ∧ GInv (model prog w) A h₀ env.locals s a C I lr og seq Nt g J m s₃ := by
      rintro @⟨h', tk', m', news', nx, F', N', hk, hn, ho, hJ'⟩
      refine ⟨Nt - (i + 1), by (first | lia | omega), .mk h' tk' _ m' nx (i + 1) gs' oC' (get_set hgsi) (hBi.set hb') F' ?_ hJ' (fun p hp' => ⟨ho p hp' _ (.head _), ho p hp' _ (.tail _ (.head _)), ho p hp' _ (.tail _ (.tail _ (.head _)))⟩) ?_⟩
      · exact List.forall_mem_cons.mpr ⟨N' _ (hk _ (.head _)), List.forall_mem_cons.mpr ⟨N' _ (hk _ (.tail _ (.head _))), fun p hp' => N' p (hn p hp')⟩⟩
      · have hz := hκ (({ s with heap := h', toks := tk', gens := (gns.setIfInBounds g .running).setIfInBounds g gs' } : Shared).setGen g .running) ?_ F'.keep
        · obtain ⟨k, hk2⟩ : ∃ k, Nt - i = k + 1 := ⟨Nt - i - 1, by (first | lia | omega)⟩
          rw [hk2] at hz
          rw [show Nt - (i + 1) = k by (first | lia | omega)]
          exact hz
        · rintro b o (rfl | rfl | rfl) e
          · rw [hC'] at e; cases e
            exact (N' _ (hk _ (.tail _ (.head _)))).1
          · rw [hI'] at e; cases e
            exact (N' _ (hk _ (.tail _ (.tail _ (.head _))))).1
          · have q1 := hlr i m news hJ
            have q2 := hk₁ _ _ (hof _ q1).2.1 (hof _ q1).2.2 (N₁ _ (.tail _ (.tail _ q1))).1
            dsimp only at q2
            rw [q2] at e; cases e
            exact (N' _ (hn _ (hlr (i + 1) m' nx hJ'))).1
    cases f with
    | next => exact fin h₃
    | cont => exact fin h₃
    | brk => exact h₃
    | ret v => exact h₃
  · obtain ⟨hsq, h₁, tk₁, rfl, hk₁⟩ := hP
    rw [show Nt - (Nt - i) = i by (first | lia | omega)] at hsq
    dsimp only [Shared.setGen] at hk₁ hk' ⊢
    refine wpAny_execs_nil (done i m news h' tk₁ _ hsq hJ (hBi.set (u := .running) (v := .finished) rfl) ?_ fun p hp' => ?_)
    · exact ⟨F₁.ns.at' fun o e => hk' _ _ (hk₁ _ o (Ne.symm hCL) (Ne.symm hILne) e), fun b o e => hk' _ _ (hk₁ b o (fun q => by rw [q, hC0] at e; cases e) (fun q => by rw [q, hI0] at e; cases e) (F₁.keep b o e)), F₁.above⟩
    · have q := N₁ p (.tail _ (.tail _ hp'))
      exact ⟨hk' _ _ (hk₁ _ _ (hof p hp').2.1 (hof p hp').2.2 q.1), q.2⟩
end
end Mine

namespace Mine
open PySem PySem.W PySem.Calls PyProof.Rows
section
variable {prog : Program} {w : World} {A : Around} {s : Shared} {h₀ : Heap} {L : Addr} {m : Str → Option Value} {news : List (Addr × Obj)} {K : Frag}
theorem fr_keep' {h h' : Heap} (F : Fr h₀ L h m) (hk : ∀ b o, h.get? b = some o → h'.get? b = some o) : Fr h₀ L h' m := ⟨F.ns.keeps hk, fun b o e => hk b o (F.keep b o e), F.above⟩
/-- a call of a generator function -/
theorem code_gen {R : Result → Shared → Prop} {p : Program} {loose : List Str} {mean : ExcName → Option Value} {mg mb : Str → Option Value} {name qual : Str} {params : Arguments} {body : List Stmt} {scope : Scope} {dV kV doc pm cdv ct oc : Value} {an od : Option Addr} {osl : Array (Option Value)} {f : Addr} {args : Args} {binds : List (Str × Value)}
    (F : Fr h₀ L s.heap m) (X₀ : K.In h₀) (N : News h₀ L s.heap news) (T : Top p loose mean mg mb h₀)
    (ho : K.lookup f = some ⟨oc, od, .func (fnOf name qual params body scope dV kV doc pm an cdv ct), osl⟩) (hcd : codeIn K cdv qual = true) (hroom : A.depth < recursionLimit)
    (hbind : BindsTo s (fnOf name qual params body scope dV kV doc pm an cdv ct) args binds) (hloc : ∀ y ∈ binds, scope.names.lookup y.1 = some .local)
    (h : ∀ C a h' tk' og oC, Fr h₀ L h' m → News h₀ L h' ((a, og) :: (C, oC) :: news) → C < a → (∀ q ∈ news, q.1 < C) → L < C → Fr h₀ C h' (fun y => binds.reverse.lookup y) → (∀ hh : Heap, hh.get? a = some og → hh.IsGen a s.gens.size) →
      R (.ok (.ret (.ref a))) { s with heap := h', toks := tk', gens := s.gens.push (.fresh (.func body (envOf qual scope C f cdv))) })
    (hgen : scope.isGenerator = true) (hco : scope.isCoroutine = false) (hk : scope.kind = .function)
    (hcell : ∀ x ∈ scope.names, x.2 ≠ .cell) : codeAny (model prog w) A (.call (.ref f) args) R s := by
  have hX := X₀.keeps F.keep
  refine codeAny_call_generator (fd := fnOf name qual params body scope dV kV doc pm an cdv ct) (body := body) hroom (hX _ _ ho) rfl hco hgen rfl (codeRec_of hX hcd) ?_
  refine hbind _ _ _ _ ?_
  have hlim := T.nolimit.keeps F.keep
  refine wpAny_newFunctionEnv hcell hloc (fun h₁ hns hsb => ⟨hlim.fresh _ hsb, ?_⟩) hk
  have hLs : L < s.heap.objs.size := F.ns.lt
  have k1 : ∀ b o, s.heap.get? b = some o → h₁.get? b = some o := fun b o e => hsb.extBut b o (Nat.ne_of_lt (Heap.lt_size e)) (Heap.get?_push_of_some _ e)
  have hsz : h₁.objs.size = s.heap.objs.size + 1 := by rw [hsb.1]; simp [Heap.push]
  obtain ⟨oC, _, _, hoC, _⟩ := id hns
  have F' : ∀ o9 : Obj, Fr h₀ L (h₁.push o9) m := fun o9 => fr_keep' F fun b o e => Heap.get?_push_of_some _ (k1 b o e)
  have hb : ∀ q : Nat, s.heap.objs.size ≤ q → h₀.get? q = none := fun q hq => by
    cases e : h₀.get? q with
    | none => rfl
    | some o => exact absurd (Heap.lt_size (F.keep _ _ e)) (Nat.not_lt.mpr hq)
  have hlt : s.heap.objs.size < h₁.objs.size := by rw [hsz]; exact Nat.lt_succ_self _
  refine h s.heap.objs.size h₁.objs.size _ _ { cls := .type "generator", data := .fields #[.int s.gens.size 0, .str name (s.toks + binds.length), .str qual (s.toks + binds.length + 1)] } oC (F' _) ?_ hlt (fun q hq => Heap.lt_size (N q hq).1) hLs ?_ ?_
  · refine List.forall_mem_cons.mpr ⟨⟨Heap.get?_push_size _ rfl, ?_, hb _ (Nat.le_of_lt hlt)⟩, List.forall_mem_cons.mpr ⟨⟨Heap.get?_push_of_some _ hoC, Nat.ne_of_gt hLs, hb _ (Nat.le_refl _)⟩, fun q hq => ⟨Heap.get?_push_of_some _ (k1 _ _ (N q hq).1), (N q hq).2⟩⟩⟩
    exact Nat.ne_of_gt (Nat.lt_trans hLs hlt)
  · exact ⟨hns.push _, (F' _).keep, Nat.le_trans F.above (Nat.le_of_lt hLs)⟩
  · intro hh e
    exact ⟨_, _, _, e, rfl, rfl, rfl⟩
end
section
variable {prog : Program} {w : World} {A : Around} {E : Value → Shared → Prop} {s : Shared} {env : Env} {h₀ : Heap} {L : Addr} {x : Str} {px : Pos} {body : List Stmt} {Q : Flow → Shared → Prop} {σ : Type}
theorem for_genS {a C lr I : Addr} {g Nt : Nat} {og lo : Obj} {seq : Nat → Option Int} {gs₀ : GenState} {oC₀ : Obj} {m₀ : Str → Option Value}
    (Led : σ → List (Addr × Obj)) (ps : σ → List (Str × Value)) (stored : List Str) (P : Nat → σ → Prop) (c₀ : σ)
    (hL : env.locals = L) (hh : A.handled = none) (hx : env.kindOf x = some .local)
    (hp : (env.scope.kind == .class || (env.scope.kind == .module && env.locals != env.globals)) = false)
    (hroom : A.depth < recursionLimit) (hlim : h₀.NoLimit)
    (hog : ∀ h : Heap, h.get? a = some og → h.IsGen a g) (hI : I = s.heap.objs.size) (hlC : lr ≠ C)
    (F : Fr h₀ L s.heap m₀) (N : News h₀ L s.heap ((a, og) :: (C, oC₀) :: Led c₀)) (haC : a ≠ C) (hoff : ∀ p ∈ Led c₀, p.1 ≠ a ∧ p.1 ≠ C) (hv : ∀ p ∈ ps c₀, m₀ p.1 = some p.2) (h0 : P 0 c₀) (hB : AllB s.gens) (hgs : s.gens[g]? = some gs₀)
    (hgo : gs₀.Goes (model prog w) A.in1 (gR C I seq Nt) (gY h₀ C I lr seq Nt) Nt (.send .none) (s.setGen g .running))
    (hlr : ∀ i c, P i c → (lr, lo) ∈ Led c) (hbud : ∀ i c, P i c → i + 2 ≤ Nt)
    (turn : ∀ i v t c u h tk gns oC oI, seq i = some v → P i c → AllB gns → (∀ p ∈ Led c, p.1 ≠ a ∧ p.1 ≠ C ∧ p.1 ≠ I) →
      Fr h₀ L h (fun y => if y = x then some (.int v t) else nm m₀ u stored (ps c) y) → News h₀ L h ((a, og) :: (C, oC) :: (I, oI) :: Led c) →
      wpAny (model prog w) A (execs body env) (LPost Q (SEnd h₀ L (some x) m₀ stored Led ps (P (i + 1)) [(a, og), (C, oC), (I, oI)] { s with heap := h, toks := tk, gens := gns })) (fun _ _ => False) { s with heap := h, toks := tk, gens := gns })
    (done : ∀ i c u h tk gns, seq i = none → P i c → AllB gns → Fr h₀ L h (fun y => if y = x then u y else nm m₀ u stored (ps c) y) → News h₀ L h (Led c) → Q .next { s with heap := h, toks := tk, gens := gns }) :
    wpAny (model prog w) A (pyIter (.ref a)) (fun it s₂ => codeAny (model prog w) A (.forLoop (.Name x px) it body [] env) (fun r s' => match r with | .ok f => Q f s' | .error e => cameBackBy (model prog w) A env E e s') s₂) E s := by
  refine for_gen (lo := lo) (fun i m nx => ∃ c, nx = Led c ∧ P i c ∧ Names (some x) m₀ m stored (ps c)) hL hh hx hp hroom (fun h hk => hlim.keeps hk) hog hI hlC F N haC hoff ⟨c₀, rfl, h0, hv, fun _ _ _ _ => rfl⟩ hB hgs hgo ?_ ?_ ?_ ?_
  · rintro i m nx ⟨c, rfl, hc, _⟩
    exact hlr i c hc
  · rintro i m nx ⟨c, rfl, hc, _⟩
    exact hbud i c hc
  · rintro i v t m nx h tk gns oC oI hsq ⟨c, rfl, hc, hn⟩ hb hof F' N'
    exact turn i v t c m h tk gns oC oI hsq hc hb hof (hn.fr F') N'
  · rintro i m nx h tk gns hsq ⟨c, rfl, hc, hn⟩ hb F' N'
    exact done i c m h tk gns hsq hc hb (hn.frOut F') N'
end
/-- the first numbers of a row of yields -/
noncomputable def tolds (seq : Nat → Option Int) : Nat → List Int
  | 0 => []
  | i + 1 => tolds seq i ++ (seq i).toList
end Mine

namespace Mine
open PySem PySem.W PySem.Calls PyProof.Rows
open Builtin Builtin.Str

/-! the mail, its sending, its dots -/
noncomputable def piece (xs : List Int) (ts es : List (List Nat)) (i : Nat) : List Nat :=
  (if i = 0 then [] else if 1 < xs.getD i 0 then [13, 10] else es.getD i []) ++ (List.replicate (xs.getD i 0).toNat 46 ++ ts.getD i [])
noncomputable def mailU (xs : List Int) (ts es : List (List Nat)) : Nat → List Nat
  | 0 => []
  | i + 1 => mailU xs ts es i ++ piece xs ts es i
noncomputable def mailOf (xs : List Int) (ts es : List (List Nat)) : List Nat := mailU xs ts es xs.length

theorem mailU_congr {xs ys : List Int} {ts es : List (List Nat)} : ∀ n : Nat, (∀ i, i < n → xs.getD i 0 = ys.getD i 0) → mailU xs ts es n = mailU ys ts es n
  | 0, _ => rfl
  | n + 1, h => by
    show mailU xs ts es n ++ piece xs ts es n = mailU ys ts es n ++ piece ys ts es n
    rw [mailU_congr n fun i hi => h i (by (first | lia | omega))]
    unfold piece
    rw [h n (by (first | lia | omega))]
theorem mail_snoc (xs : List Int) (ts es : List (List Nat)) :
    mailOf (xs ++ [1]) ts es = mailOf xs ts es ++ ((if xs.length = 0 then [] else es.getD xs.length []) ++ (46 :: ts.getD xs.length [])) := by
  unfold mailOf
  rw [List.length_append]
  show mailU (xs ++ [1]) ts es xs.length ++ piece (xs ++ [1]) ts es xs.length = _
  rw [mailU_congr (ys := xs) xs.length fun i hi => by rw [List.getD_eq_getElem?_getD, List.getD_eq_getElem?_getD, List.getElem?_append_left hi]]
  have e : (xs ++ [1]).getD xs.length 0 = 1 := by rw [List.getD_eq_getElem?_getD, List.getElem?_append_right (Nat.le_refl _)]; simp
  unfold piece
  rw [e]
  rfl

noncomputable def endGood (e : List Nat) : Prop := e = [10] ∨ e = [13] ∨ e = [13, 10]
noncomputable def tailGood (t : List Nat) : Prop := ∀ c ∈ t, Re.isEnd c = false

/-- a mail whose ends are all told -/
noncomputable def pieceN (xs : List Int) (ts : List (List Nat)) (i : Nat) : List Nat :=
  (if i = 0 then [] else [13, 10]) ++ (List.replicate (xs.getD i 0).toNat 46 ++ ts.getD i [])
noncomputable def mailN (xs : List Int) (ts : List (List Nat)) : Nat → List Nat
  | 0 => []
  | i + 1 => mailN xs ts i ++ pieceN xs ts i

theorem row_free {h : Nat} {t : List Nat} (ht : tailGood t) : ∀ c ∈ List.replicate h 46 ++ t, Re.isEnd c = false := by
  intro c hc
  rcases List.mem_append.mp hc with h | h
  · rw [(List.mem_replicate.mp h).2]; decide
  · exact ht c h
theorem norm_end {e r : List Nat} (he : endGood e) : Re.norm false (e ++ 46 :: r) = 13 :: 10 :: Re.norm false (46 :: r) := by
  rcases he with rfl | rfl | rfl <;> simp [Re.norm, Re.isEnd]
theorem getD_good {α : Type} {P : α → Prop} {l : List α} {d : α} (h : ∀ x ∈ l, P x) {i : Nat} (hi : i < l.length) : P (l.getD i d) := by
  rw [List.getD_eq_getElem?_getD, List.getElem?_eq_getElem hi]
  exact h _ (List.getElem_mem hi)
theorem norm_mail {xs : List Int} {ts es : List (List Nat)} (hx : ∀ x ∈ xs, 1 ≤ x) (ht : ∀ t ∈ ts, tailGood t) (he : ∀ e ∈ es, endGood e) (h1 : xs.length ≤ ts.length) (h2 : xs.length ≤ es.length) :
    ∀ (n : Nat) (r : List Nat), n ≤ xs.length → Re.norm false (mailU xs ts es n ++ r) = mailN xs ts n ++ Re.norm false r
  | 0, r, _ => rfl
  | n + 1, r, hn => by
    show Re.norm false ((mailU xs ts es n ++ piece xs ts es n) ++ r) = (mailN xs ts n ++ pieceN xs ts n) ++ Re.norm false r
    rw [List.append_assoc, List.append_assoc, norm_mail hx ht he h1 h2 n _ (by (first | lia | omega))]
    congr 1
    have hx1 : 1 ≤ xs.getD n 0 := getD_good hx (by (first | lia | omega))
    have ht1 : tailGood (ts.getD n []) := getD_good ht (by (first | lia | omega))
    have he1 : endGood (if 1 < xs.getD n 0 then [13, 10] else es.getD n []) := by
      split
      · exact .inr (.inr rfl)
      · exact getD_good he (by (first | lia | omega))
    unfold piece pieceN
    obtain ⟨k, hk⟩ : ∃ k, (xs.getD n 0).toNat = k + 1 := ⟨(xs.getD n 0).toNat - 1, by (first | lia | omega)⟩
    by_cases hz : n = 0
    · rw [if_pos hz, if_pos hz, List.nil_append, Re.norm_free _ _ (row_free ht1)]
    · rw [if_neg hz, if_neg hz]
      have e : List.replicate (xs.getD n 0).toNat 46 ++ ts.getD n [] = 46 :: (List.replicate k 46 ++ ts.getD n []) := by rw [hk]; rfl
      rw [List.append_assoc, e, List.cons_append, norm_end he1]
      show 13 :: 10 :: Re.norm false (46 :: ((List.replicate k 46 ++ ts.getD n []) ++ r)) = 13 :: 10 :: ((46 :: (List.replicate k 46 ++ ts.getD n [])) ++ Re.norm false r)
      rw [← List.cons_append, ← e, Re.norm_free _ _ (row_free ht1)]

theorem dots_free : ∀ (l r : List Nat), (∀ c ∈ l, Re.isEnd c = false) → Re.dots false (l ++ r) = l ++ Re.dots false r
  | [], r, _ => rfl
  | c :: l, r, h => by
    have hc := h c (.head _)
    have hc' : (c == 10) = false := by
      cases q : c == 10 with
      | false => rfl
      | true => rw [eq_of_beq q] at hc; exact absurd hc (by decide)
    show Re.dots false (c :: (l ++ r)) = c :: (l ++ Re.dots false r)
    rw [Re.dots, if_neg (by simp), hc', dots_free l r fun d hd => h d (.tail _ hd)]
theorem dots_mail {xs : List Int} {ts : List (List Nat)} (hx : ∀ x ∈ xs, 1 ≤ x) (ht : ∀ t ∈ ts, tailGood t) (h1 : xs.length ≤ ts.length) :
    ∀ (n : Nat) (r : List Nat), n ≤ xs.length → Re.dots true (mailN xs ts n ++ r) = mailN (xs.map (· + 1)) ts n ++ Re.dots (n == 0) r
  | 0, r, _ => rfl
  | n + 1, r, hn => by
    show Re.dots true ((mailN xs ts n ++ pieceN xs ts n) ++ r) = (mailN (xs.map (· + 1)) ts n ++ pieceN (xs.map (· + 1)) ts n) ++ Re.dots false r
    rw [List.append_assoc, List.append_assoc, dots_mail hx ht h1 n _ (by (first | lia | omega))]
    congr 1
    have hx1 : 1 ≤ xs.getD n 0 := getD_good hx (by (first | lia | omega))
    have ht1 : tailGood (ts.getD n []) := getD_good ht (by (first | lia | omega))
    have ex : (xs.map (· + 1)).getD n 0 = xs.getD n 0 + 1 := by
      rw [List.getD_eq_getElem?_getD, List.getD_eq_getElem?_getD, List.getElem?_map, List.getElem?_eq_getElem (by (first | lia | omega))]; rfl
    obtain ⟨k, hk⟩ : ∃ k, (xs.getD n 0).toNat = k + 1 := ⟨(xs.getD n 0).toNat - 1, by (first | lia | omega)⟩
    have ek : (xs.getD n 0 + 1).toNat = k + 2 := by (first | lia | omega)
    unfold pieceN
    rw [ex, hk, ek]
    have key : Re.dots true ((46 :: (List.replicate k 46 ++ ts.getD n [])) ++ r) = 46 :: 46 :: ((List.replicate k 46 ++ ts.getD n []) ++ Re.dots false r) := by
      rw [List.cons_append, Re.dots, if_pos ⟨rfl, rfl⟩, dots_free _ _ (row_free ht1)]
    by_cases hz : n = 0
    · subst hz
      exact key
    · rw [if_neg hz, show (n == 0) = false from by simpa using hz]
      show Re.dots false (13 :: 10 :: ((46 :: (List.replicate k 46 ++ ts.getD n [])) ++ r)) = _
      have e : Re.dots false (13 :: 10 :: ((46 :: (List.replicate k 46 ++ ts.getD n [])) ++ r)) = 13 :: 10 :: Re.dots true ((46 :: (List.replicate k 46 ++ ts.getD n [])) ++ r) := by simp [Re.dots]
      rw [e, key]; rfl
theorem mailU_N {xs : List Int} {ts es : List (List Nat)} (hx : ∀ x ∈ xs, 2 ≤ x) : ∀ n : Nat, n ≤ xs.length → mailU xs ts es n = mailN xs ts n
  | 0, _ => rfl
  | n + 1, hn => by
    show mailU xs ts es n ++ piece xs ts es n = mailN xs ts n ++ pieceN xs ts n
    have hx1 : 2 ≤ xs.getD n 0 := getD_good hx (by (first | lia | omega))
    rw [mailU_N hx n (by (first | lia | omega))]
    unfold piece pieceN
    rw [if_pos (show 1 < xs.getD n 0 by (first | lia | omega))]
/-- the sending of a mail -/
theorem quoted_mail {xs : List Int} {ts es : List (List Nat)} (hx : ∀ x ∈ xs, 1 ≤ x) (ht : ∀ t ∈ ts, tailGood t) (he : ∀ e ∈ es, endGood e) (h1 : xs.length ≤ ts.length) (h2 : xs.length ≤ es.length) :
    Re.quoted (mailOf xs ts es) = mailOf (xs.map (· + 1)) ts es := by
  have a := norm_mail hx ht he h1 h2 xs.length [] (Nat.le_refl _)
  have b := dots_mail hx ht h1 xs.length [] (Nat.le_refl _)
  rw [List.append_nil] at a b
  unfold Re.quoted mailOf
  rw [a, show Re.norm false [] = [] from rfl, List.append_nil, b, show ∀ q, Re.dots q [] = [] from fun q => rfl, List.append_nil, List.length_map]
  rw [mailU_N (xs := xs.map (· + 1)) (fun x hx' => by
    obtain ⟨y, hy, rfl⟩ := List.mem_map.mp hx'
    have := hx y hy; (first | lia | omega)) _ (by rw [List.length_map]; exact Nat.le_refl _)]

theorem mail_len {xs : List Int} {ts es : List (List Nat)} (hx : ∀ x ∈ xs, 0 ≤ x ∧ x ≤ 100) (ht : ∀ t ∈ ts, t.length ≤ 8) (he : ∀ e ∈ es, e.length ≤ 2) : ∀ n, (mailU xs ts es n).length ≤ 110 * n
  | 0 => Nat.le_refl _
  | n + 1 => by
    have ih := mail_len hx ht he n
    have d1 : (xs.getD n 0).toNat ≤ 100 := by
      rw [List.getD_eq_getElem?_getD]
      cases q : xs[n]? with
      | none => simp
      | some y => have := hx y (List.mem_of_getElem? q); simp; (first | lia | omega)
    have d2 : (ts.getD n []).length ≤ 8 := by
      rw [List.getD_eq_getElem?_getD]
      cases q : ts[n]? with
      | none => simp
      | some y => simpa using ht y (List.mem_of_getElem? q)
    have d3 : (es.getD n []).length ≤ 2 := by
      rw [List.getD_eq_getElem?_getD]
      cases q : es[n]? with
      | none => simp
      | some y => simpa using he y (List.mem_of_getElem? q)
    show (mailU xs ts es n ++ piece xs ts es n).length ≤ _
    unfold piece
    have d4 : (if n = 0 then [] else if 1 < xs.getD n 0 then [13, 10] else es.getD n []).length ≤ 2 := by
      split
      · simp
      · split
        · simp
        · exact d3
    simp only [List.length_append, List.length_replicate]
    (first | lia | omega)

/-- the dots of a mail -/
theorem count_rep (k : Nat) : (List.replicate k 46).count 46 = k := by simp
noncomputable def tailDots (ts : List (List Nat)) (n : Nat) : Nat := ((ts.take n).map (List.count 46)).sum
theorem tailDots_succ (ts : List (List Nat)) (n : Nat) (hn : n < ts.length) : tailDots ts (n + 1) = tailDots ts n + (ts.getD n []).count 46 := by
  unfold tailDots
  rw [List.take_add_one, List.getElem?_eq_getElem hn, List.map_append, List.sum_append, List.getD_eq_getElem?_getD, List.getElem?_eq_getElem hn]
  simp
theorem count_mailU {xs : List Int} {ts es : List (List Nat)} (hx : ∀ x ∈ xs, 0 ≤ x) (he : ∀ e ∈ es, endGood e) (h1 : xs.length ≤ ts.length) (h2 : xs.length ≤ es.length) :
    ∀ n, n ≤ xs.length → (((mailU xs ts es n).count 46 : Nat) : Int) = (xs.take n).sum + (tailDots ts n : Int)
  | 0, _ => by simp [mailU, tailDots]
  | n + 1, hn => by
    have ih := count_mailU hx he h1 h2 n (by (first | lia | omega))
    rw [tailDots_succ ts n (by (first | lia | omega))]
    show (((mailU xs ts es n ++ piece xs ts es n).count 46 : Nat) : Int) = _
    rw [List.count_append]
    have e1 : (xs.take (n + 1)).sum = (xs.take n).sum + xs.getD n 0 := by
      rw [List.take_add_one, List.getD_eq_getElem?_getD, List.getElem?_eq_getElem (by (first | lia | omega))]
      rw [List.sum_append]; simp
    have hx1 : 0 ≤ xs.getD n 0 := getD_good hx (by (first | lia | omega))
    have e2 : (piece xs ts es n).count 46 = (xs.getD n 0).toNat + (ts.getD n []).count 46 := by
      unfold piece
      rw [List.count_append, List.count_append, count_rep]
      have : List.count 46 (if n = 0 then [] else if 1 < xs.getD n 0 then [13, 10] else es.getD n []) = 0 := by
        split
        · rfl
        · split
          · decide
          · have := getD_good (d := []) he (i := n) (by (first | lia | omega))
            rcases this with h | h | h <;> rw [h] <;> decide
      (first | lia | omega)
    rw [e2, e1]
    (first | lia | omega)
theorem count_mail {xs : List Int} {ts es : List (List Nat)} (hx : ∀ x ∈ xs, 0 ≤ x) (he : ∀ e ∈ es, endGood e) (h1 : xs.length ≤ ts.length) (h2 : xs.length ≤ es.length) :
    (((mailOf xs ts es).count 46 : Nat) : Int) = xs.sum + (tailDots ts xs.length : Int) := by
  have := count_mailU hx he h1 h2 xs.length (Nat.le_refl _)
  rwa [List.take_length] at this

/-! str.count of one sign -/
theorem occ_one (x : Str) (c : Nat) (limit : Nat) : ∀ (n lo : Nat) (st : Array Nat × Nat), lo + n = x.length + 1 → st.1.size + n ≤ limit → st.2 ≤ lo →
    (forIn (List.range' lo n) st (StrLaws.occBody x ⟨#[c]⟩ x.length limit)).run.fst.size = st.1.size + (x.cps.toList.drop lo).count c
  | 0, lo, st, h, _, _ => by
    have : x.cps.toList.drop lo = [] := List.drop_eq_nil_of_le (by simp [Str.length] at h ⊢; (first | lia | omega))
    rw [this]
    simp
  | n + 1, lo, st, h, hl, hs => by
    rw [List.range'_succ, List.forIn_cons]
    have key := StrLaws.subAt_one x c lo
    unfold StrLaws.occBody
    rcases Nat.lt_or_ge lo x.length with hlt | hge
    · have hlt' : lo < x.cps.toList.length := by simpa [Str.length] using hlt
      have hd : x.cps.toList.drop lo = x.cps.toList[lo] :: x.cps.toList.drop (lo + 1) := List.drop_eq_getElem_cons hlt'
      rw [hd, List.count_cons]
      split
      · rename_i hc
        have h1 := key.mp ⟨hc.1.2, hc.2⟩
        have h2 : x.cps.toList[lo] = c := by rw [List.getElem?_eq_getElem hlt'] at h1; exact Option.some.inj h1
        have ih := occ_one x c limit n (lo + 1) (st.1.push lo, lo + (⟨#[c]⟩ : Str).length) (by (first | lia | omega)) (by simp only [Array.size_push]; (first | lia | omega)) (Nat.le_refl _)
        rw [h2, beq_self_eq_true, if_pos rfl]
        refine Eq.trans (congrArg _ (show _ = _ from rfl)) ?_
        refine Eq.trans ih ?_
        simp only [Array.size_push]; (first | lia | omega)
      · rename_i hc
        have h2 : ¬ x.cps.toList[lo] = c := fun e => hc (by
          have h3 := key.mpr (by rw [List.getElem?_eq_getElem hlt', e])
          exact ⟨⟨⟨by (first | lia | omega), hs⟩, h3.1⟩, h3.2⟩)
        have ih := occ_one x c limit n (lo + 1) st (by (first | lia | omega)) (by (first | lia | omega)) (by (first | lia | omega))
        rw [show (x.cps.toList[lo] == c) = false from by simpa using h2]
        simp only [Bool.false_eq_true, if_false, Nat.add_zero]
        exact ih
    · have hn0 : n = 0 := by (first | lia | omega)
      subst hn0
      have : x.cps.toList.drop lo = [] := List.drop_eq_nil_of_le (by simp [Str.length] at hge ⊢; (first | lia | omega))
      rw [this]
      split
      · rename_i hc
        exact absurd hc.1.2 (by show ¬ lo + 1 ≤ _; (first | lia | omega))
      · simp
theorem count_one (x : Str) (c : Nat) : (Txt.count x ⟨#[c]⟩ : Int) = (x.cps.toList.count c : Nat) := by
  unfold Txt.count
  rw [StrLaws.occ_eq]
  congr 1
  rw [Array.length_toList, occ_one x c (x.length + 1) (x.length + 1 - 0) 0 (#[], 0) (by (first | lia | omega)) (by simp) (Nat.le_refl _)]
  simp
theorem fold_one (c : Nat) : ∀ (k : Nat) (acc : Array Nat), ((List.replicate k #[c]).foldl (· ++ ·) acc).toList = acc.toList ++ List.replicate k c
  | 0, acc => by simp
  | k + 1, acc => by
    rw [List.replicate_succ, List.foldl_cons, fold_one c k, List.replicate_succ]
    simp
theorem mul_one (c : Nat) (n : Int) : (Txt.mul ⟨#[c]⟩ n).cps.toList = List.replicate n.toNat c := by
  unfold Txt.mul
  split
  · rw [show n.toNat = 0 by (first | lia | omega)]; rfl
  · split
    · rename_i h1 h
      have : n = 1 := by simpa [Str.length] using h
      rw [this]; rfl
    · rw [fold_one]; simp
theorem str_eq {x y : Str} (h : x.cps.toList = y.cps.toList) : x = y := by
  cases x; cases y
  congr 1
  exact Array.ext' h
section
variable {prog : Program} {w : World} {A : Around} {E : Value → Shared → Prop} {s : Shared} {x : Str} {t u : Tok}
theorem mul_sign {Q : Value → Shared → Prop} {n : Int} {c : Nat} (hx : x.cps.toList = [c]) (h0 : -1000 ≤ n) (h1 : n ≤ 1000) (h : ∀ y t' k, y.cps.toList = List.replicate n.toNat c → y.length = n.toNat → Q (.str y t') { s with toks := k }) :
    wpAny (model prog w) A (binaryOp .Mult (.str x t) (.int n u)) Q E s := by
  have e : x = ⟨#[c]⟩ := str_eq hx
  subst e
  refine SB.mul (mulOk_of 1 1000 (Nat.le_refl 1) (by (first | lia | omega)) (by (first | lia | omega)) (by decide) (by decide)) fun t' k => h _ t' k (mul_one c n) ?_
  show (Txt.mul ⟨#[c]⟩ n).cps.size = _
  rw [← Array.length_toList, mul_one, List.length_replicate]
theorem count_sign {Q : Value → Shared → Prop} {z : Str} {c : Nat} (hz : z.cps.toList = [c]) (h : ∀ t' k, Q (.int ((x.cps.toList.count c : Nat) : Int) t') { s with toks := k }) :
    wpAny (model prog w) A (call (.builtin "str.count") [.str x t, .str z u]) Q E s := by
  have e : z = ⟨#[c]⟩ := str_eq hz
  subst e
  refine KXw.count (count_one x c) h
end
end Mine

namespace Mine
open PySem PySem.W PySem.Calls PyProof.Rows
section
variable {prog : Program} {w : World} {A : Around} {h₀ : Heap} {L : Addr} {m : Str → Option Value} {env : Env} {elt : PySem.Expr} {x : Str} {scope : Scope} {cl : List (Str × Addr)} {s : Shared} {S : List (Addr × Obj) → Prop} {P : Nat → Value → Prop} {Fin : List Value → List (Addr × Obj) → Prop} {news : List (Addr × Obj)}
/-- a list comprehension: each element told by its place, the ledger left as it was -/
theorem compS {n : Nat} (G : Nat → Value → Prop)
    (turn : ∀ i v I oI C oC D m₂ ys h tk (E' : Value → Shared → Prop), i < n → P i v → LCg.NsObj oC m₂ → m₂ x = some v → Fr h₀ L h m → News h₀ L h ((I, oI) :: (C, oC) :: (D, LCg.lst ys) :: news) → LCg.Off3 I C D news → ((@Ne Nat I C) ∧ (@Ne Nat I D) ∧ (@Ne Nat C D)) →
      wpAny (model prog w) A (eval elt (compEnvC scope cl C env)) (LCg.CompEnd h₀ L m { s with heap := h, toks := tk } I oI C oC D (LCg.lst ys) S (fun y news' => news' = news ∧ G i y)) E' { s with heap := h, toks := tk })
    (fin : ∀ ys, ys.length = n → (∀ i y, ys[i]? = some y → G i y) → Fin ys news) : LCg.CompRest prog w A h₀ L m env elt x scope cl s S P Fin n 0 [] news := by
  have key : ∀ (j i : Nat) (ys : List Value), i + j = n → ys.length = i → (∀ i y, ys[i]? = some y → G i y) → LCg.CompRest prog w A h₀ L m env elt x scope cl s S P Fin j i ys news := by
    intro j
    induction j with
    | zero =>
      intro i ys hi hl hy
      exact LCg.CompRest.zero (fin ys (by (first | lia | omega)) hy)
    | succ j ih =>
      intro i ys hi hl hy
      refine LCg.CompRest.succ ?_
      intro v I oI C oC D m₂ h tk E' hv hC hx F N off ne
      refine wpAny_mono (turn i v I oI C oC D m₂ ys h tk E' (by (first | lia | omega)) hv hC hx F N off ne) (fun y s₂ hq => ?_) fun _ _ e => e
      obtain ⟨h', tk', nw, e, F', N', off', hS, rfl, hG⟩ := hq
      refine ⟨h', tk', _, e, F', N', off', hS, ?_⟩
      refine ih (i + 1) _ (by (first | lia | omega)) (by simp [hl]) fun k z hz => ?_
      rcases Nat.lt_or_ge k ys.length with hlt | hge
      · rw [List.getElem?_append_left hlt] at hz; exact hy k z hz
      · rw [List.getElem?_append_right hge] at hz
        have hk0 : k - ys.length = 0 := by
          rcases Nat.eq_zero_or_pos (k - ys.length) with h0 | h0
          · exact h0
          · rw [List.getElem?_eq_none (by show 1 ≤ _; exact h0)] at hz; cases hz
        rw [hk0] at hz
        have : k = i := by (first | lia | omega)
        rw [this]
        have : z = y := by simpa using hz.symm
        rw [this]; exact hG
  exact key n 0 [] (by (first | lia | omega)) rfl (fun i y h => by simp at h)
end
theorem intsOf : ∀ {ys : List Value} {ns : List Int}, ys.length = ns.length → (∀ i y, ys[i]? = some y → ∃ t, y = Value.int (ns.getD i 0) t) → IntsAre ys ns := by
  intro ys
  induction ys with
  | nil => intro ns h _; cases ns with
    | nil => exact .nil
    | cons a r => cases h
  | cons y ys ih =>
    intro ns h H
    cases ns with
    | nil => cases h
    | cons a r =>
      obtain ⟨t, rfl⟩ := H 0 y rfl
      refine .cons a t (ih (Nat.succ.inj h) fun i z hz => ?_)
      obtain ⟨t', e⟩ := H (i + 1) z hz
      exact ⟨t', e⟩
theorem strsOf : ∀ {ys : List Value} {ns : List Str}, ys.length = ns.length → (∀ i y, ys[i]? = some y → ∃ t, y = Value.str (ns.getD i PySem.Str.empty) t) → StrsAre ys ns := by
  intro ys
  induction ys with
  | nil => intro ns h _; cases ns with
    | nil => exact .nil
    | cons a r => cases h
  | cons y ys ih =>
    intro ns h H
    cases ns with
    | nil => cases h
    | cons a r =>
      obtain ⟨t, rfl⟩ := H 0 y rfl
      refine .cons a t (ih (Nat.succ.inj h) fun i z hz => ?_)
      obtain ⟨t', e⟩ := H (i + 1) z hz
      exact ⟨t', e⟩
end Mine

namespace Mine.D
open PySem

/-! rows of digits as polynomials -/
noncomputable def addP : List Int → List Int → List Int
  | [], b => b
  | a, [] => a
  | x :: a, y :: b => (x + y) :: addP a b
noncomputable def mulC (c : Int) (a : List Int) : List Int := a.map (c * ·)
noncomputable def mulP : List Int → List Int → List Int
  | [], _ => []
  | x :: a, b => addP (mulC x b) (0 :: mulP a b)
theorem val_addP (N : Nat) : ∀ a b : List Int, val N (addP a b) = val N a + val N b
  | [], b => by simp [addP, val]
  | x :: a, [] => by simp [addP, val]
  | x :: a, y :: b => by
    show (x + y) + 2 ^ N * val N (addP a b) = (x + 2 ^ N * val N a) + (y + 2 ^ N * val N b)
    rw [val_addP N a b, Int.mul_add]; (first | lia | omega)
theorem val_mulC (N : Nat) (c : Int) : ∀ a : List Int, val N (mulC c a) = c * val N a
  | [] => by simp [mulC, val]
  | x :: a => by
    show c * x + 2 ^ N * val N (mulC c a) = c * (x + 2 ^ N * val N a)
    rw [val_mulC N c a, Int.mul_add, Int.mul_left_comm]
theorem val_mulP (N : Nat) : ∀ a b : List Int, val N (mulP a b) = val N a * val N b
  | [], b => by simp [mulP, val]
  | x :: a, b => by
    show val N (addP (mulC x b) (0 :: mulP a b)) = (x + 2 ^ N * val N a) * val N b
    rw [val_addP, val_mulC]
    show x * val N b + (0 + 2 ^ N * val N (mulP a b)) = _
    rw [val_mulP N a b, Int.add_mul, Int.zero_add, Int.mul_assoc]
noncomputable def lead : List Int → Int
  | [] => 0
  | c :: r => if lead r = 0 then c else lead r
theorem lead_sign {N : Nat} (hN : 16 ≤ N) : ∀ a : List Int, (∀ c ∈ a, c.natAbs ≤ 60000) → (lead a = 0 → val N a = 0) ∧ (0 < lead a → 0 < val N a) ∧ (lead a < 0 → val N a < 0)
  | [], _ => ⟨fun _ => rfl, fun h => absurd h (by decide), fun h => absurd h (by decide)⟩
  | c :: r, h => by
    have hc := h c (.head _)
    obtain ⟨h0, h1, h2⟩ := lead_sign hN r fun d hd => h d (.tail _ hd)
    have hp : (65536 : Int) ≤ 2 ^ N := by
      have h9 : (2 : Nat) ^ 16 ≤ 2 ^ N := Nat.pow_le_pow_right (by decide) hN
      have e := pow_toNat N
      have := pow_pos' N
      (first | lia | omega)
    show (lead (c :: r) = 0 → c + 2 ^ N * val N r = 0) ∧ (0 < lead (c :: r) → 0 < c + 2 ^ N * val N r) ∧ (lead (c :: r) < 0 → c + 2 ^ N * val N r < 0)
    unfold lead
    by_cases hz : lead r = 0
    · rw [if_pos hz, h0 hz, Int.mul_zero]
      (first | lia | omega)
    · rw [if_neg hz]
      refine ⟨fun q => absurd q hz, fun q => ?_, fun q => ?_⟩
      · have := h1 q
        have : (2 : Int) ^ N * 1 ≤ 2 ^ N * val N r := Int.mul_le_mul_of_nonneg_left (by (first | lia | omega)) (by (first | lia | omega))
        (first | lia | omega)
      · have := h2 q
        have : (2 : Int) ^ N * val N r ≤ 2 ^ N * (-1) := Int.mul_le_mul_of_nonneg_left (by (first | lia | omega)) (by (first | lia | omega))
        (first | lia | omega)
/-- the digits of a mark -/
noncomputable def digK (k : Int) : List Int := [-1] ++ List.replicate (k - 1).toNat 0 ++ [1]
noncomputable def botP : List Int → List Int
  | [] => [1]
  | k :: r => mulP (digK k) (botP r)
noncomputable def bot (N : Nat) : List Int → Int
  | [] => 1
  | k :: r => val N (digK k) * bot N r
theorem val_botP (N : Nat) : ∀ ks, val N (botP ks) = bot N ks
  | [] => by simp [botP, bot, val]
  | k :: r => by
    show val N (mulP (digK k) (botP r)) = val N (digK k) * bot N r
    rw [val_mulP, val_botP N r]
theorem bot_snoc (N : Nat) (k : Int) : ∀ ks, bot N (ks ++ [k]) = bot N ks * val N (digK k)
  | [] => by simp [bot]
  | x :: r => by
    show val N (digK x) * bot N (r ++ [k]) = val N (digK x) * bot N r * val N (digK k)
    rw [bot_snoc N k r, Int.mul_assoc]
noncomputable def topP (n : Nat) : List Int := List.replicate n 0 ++ [1]
theorem val_zeros (N : Nat) : ∀ n, val N (List.replicate n 0) = 0
  | 0 => rfl
  | n + 1 => by
    show 0 + 2 ^ N * val N (List.replicate n 0) = 0
    rw [val_zeros N n]; (first | lia | omega)
theorem val_topP (N n : Nat) : val N (topP n) = 2 ^ (N * n) := by
  unfold topP
  rw [val_append, val_zeros, List.length_replicate]
  show 0 + 2 ^ (N * n) * (1 + 2 ^ N * 0) = _
  (first | lia | omega)
/-- the least quotient's rest -/
noncomputable def restP (n : Nat) (ks ways : List Int) : List Int := addP (topP n) (mulC (-1) (mulP ways (botP ks)))
noncomputable def okP (n : Nat) (ks ways : List Int) : Bool :=
  (restP n ks ways).all (fun c => decide (c.natAbs ≤ 60000)) && (addP (botP ks) (mulC (-1) (restP n ks ways))).all (fun c => decide (c.natAbs ≤ 60000)) &&
  decide (0 < lead (restP n ks ways)) && decide (0 < lead (addP (botP ks) (mulC (-1) (restP n ks ways)))) && (botP ks).all (fun c => decide (c.natAbs ≤ 60000)) && decide (0 < lead (botP ks)) &&
  (addP (botP ks) [0, -1]).all (fun c => decide (c.natAbs ≤ 60000)) && decide (0 < lead (addP (botP ks) [0, -1])) && (addP (topP 25) (mulC (-1) (botP ks))).all (fun c => decide (c.natAbs ≤ 60000)) && decide (0 < lead (addP (topP 25) (mulC (-1) (botP ks))))
theorem okP_val {N n : Nat} {ks ways : List Int} (hN : 16 ≤ N) (h : okP n ks ways = true) : ∃ R, val N ways * bot N ks + R = 2 ^ (N * n) ∧ 0 < R ∧ R < bot N ks ∧ 0 < bot N ks ∧ 2 ^ N < bot N ks ∧ bot N ks < 2 ^ (N * 25) := by
  unfold okP at h
  simp only [Bool.and_eq_true, decide_eq_true_eq, List.all_eq_true] at h
  obtain ⟨⟨⟨⟨⟨⟨⟨⟨⟨h1, h2⟩, h3⟩, h4⟩, h5⟩, h6⟩, h7⟩, h8⟩, h9⟩, ha⟩ := h
  have e1 : val N (restP n ks ways) = 2 ^ (N * n) - val N ways * bot N ks := by
    unfold restP
    rw [val_addP, val_mulC, val_mulP, val_topP, val_botP]; (first | lia | omega)
  have e2 : val N (addP (botP ks) (mulC (-1) (restP n ks ways))) = bot N ks - val N (restP n ks ways) := by
    rw [val_addP, val_mulC, val_botP]; (first | lia | omega)
  have p1 := (lead_sign hN _ h1).2.1 h3
  have p2 := (lead_sign hN _ h2).2.1 h4
  have p3 := (lead_sign hN _ h5).2.1 h6
  rw [e2] at p2
  rw [val_botP] at p3
  have e3 : val N (addP (botP ks) [0, -1]) = bot N ks - 2 ^ N := by
    rw [val_addP, val_botP]
    show bot N ks + (0 + 2 ^ N * (-1 + 2 ^ N * 0)) = _
    (first | lia | omega)
  have e4 : val N (addP (topP 25) (mulC (-1) (botP ks))) = 2 ^ (N * 25) - bot N ks := by
    rw [val_addP, val_mulC, val_topP, val_botP]; (first | lia | omega)
  have p4 := (lead_sign hN _ h7).2.1 h8
  have p5 := (lead_sign hN _ h9).2.1 ha
  exact ⟨_, by rw [e1]; (first | lia | omega), p1, by (first | lia | omega), p3, by (first | lia | omega), by (first | lia | omega)⟩
theorem div_same {q r v R b : Int} (hb : 0 < b) (h : q * b + r = v * b + R) (hR : 0 < R ∧ R < b) (hr : 0 ≤ r ∧ r ≤ b) : q = v ∧ r = R := by
  have e : (q - v) * b = R - r := by rw [Int.sub_mul]; (first | lia | omega)
  have h1 : q - v = 0 := by
    rcases Int.lt_trichotomy (q - v) 0 with h0 | h0 | h0
    · have : (q - v) * b ≤ (-1) * b := Int.mul_le_mul_of_nonneg_right (by (first | lia | omega)) (by (first | lia | omega))
      (first | lia | omega)
    · exact h0
    · have : 1 * b ≤ (q - v) * b := Int.mul_le_mul_of_nonneg_right (by (first | lia | omega)) (by (first | lia | omega))
      (first | lia | omega)
  rw [h1, Int.zero_mul] at e
  (first | lia | omega)
theorem digs_val {N : Nat} : ∀ (ds : List Int), (∀ d ∈ ds, 0 ≤ d ∧ d < 2 ^ N) → digs N ds.length (val N ds) = ds
  | [], _ => rfl
  | d :: r, h => by
    have hd := h d (.head _)
    have ih := digs_val r fun e he => h e (.tail _ he)
    have hp := pow_pos' N
    show digs N (r.length + 1) (d + 2 ^ N * val N r) = d :: r
    have e1 : (d + 2 ^ N * val N r) % 2 ^ N = d := by rw [Int.add_mul_emod_self_left, Int.emod_eq_of_lt hd.1 hd.2]
    have e2 : (d + 2 ^ N * val N r) / 2 ^ N = val N r := by rw [Int.add_mul_ediv_left _ _ (by (first | lia | omega)), Int.ediv_eq_zero_of_lt hd.1 hd.2]; (first | lia | omega)
    show (d + 2 ^ N * val N r) % 2 ^ N :: digs N r.length ((d + 2 ^ N * val N r) / 2 ^ N) = d :: r
    rw [e1, e2, ih]
theorem val_nonneg {N : Nat} : ∀ (ds : List Int), (∀ d ∈ ds, 0 ≤ d) → 0 ≤ val N ds
  | [], _ => Int.le_refl _
  | d :: r, h => Int.add_nonneg (h d (.head _)) (Int.mul_nonneg (Int.le_of_lt (pow_pos' N)) (val_nonneg r fun e he => h e (.tail _ he)))

/-! the mails' tree -/
noncomputable def hallB (h : List Int) (ys : List Int) : Bool := (List.range (ys.length - 1)).all fun j => decide (¬ (h ++ List.replicate (ys.length - h.length) 0).getD (j + 1) 0 * ys.getD (ys.length - (j + 1)) 0 > (h ++ List.replicate (ys.length - h.length) 0).getD (j + 1 - 1) 0 * ys.getD (ys.length - (j + 1) - 1) 0)
noncomputable def viewsOf (l m : Int) : List Int := List.take m.toNat [1, l, l * l - 1]
noncomputable def nextT (l m : Int) (h : List Int) (tot : List Int) : List Int := if hallB h (viewsOf l m) then tot ++ [h.sum] else tot
noncomputable def nextS (m b : Int) (h : List Int) (st : List (List Int)) : List (List Int) :=
  let s1 := if h ≠ [] ∧ h.sum + (h.length : Int) ≤ b then h.map (· + 1) :: st else st
  if (h.length : Int) < m ∧ h.sum < b then (h ++ [1]) :: s1 else s1
noncomputable def run (l m b : Int) : Nat → List (List Int) → List Int → Option (List Int)
  | _, [], tot => some tot
  | 0, _ :: _, _ => none
  | n + 1, h :: st, tot => run l m b n (nextS m b h st) (nextT l m h tot)
noncomputable def halls (l m b : Int) : List Int := (run l m b 200 [[]] []).getD []
noncomputable def waysOf (l m b : Int) : List Int := (List.range (b + 1).toNat).map fun k : Nat => (((halls l m b).count (b - (k : Int)) : Nat) : Int)
noncomputable def mkOf (l m : Int) : List Int := List.take m.toNat [1, 1 + l, l * l + l - 1]
noncomputable def okAll (l m b : Int) : Bool := (run l m b 200 [[]] []).isSome && okP (b + (mkOf l m).sum).toNat (mkOf l m) (waysOf l m b) && (waysOf l m b).all (fun d => decide (0 ≤ d ∧ d < 60000)) && decide ((waysOf l m b).getLast? = some 1)
theorem ok_all {l m b : Int} (hl : 2 ≤ l ∧ l ≤ 4) (hm : m = 2 ∨ m = 3) (hb : 8 ≤ b ∧ b ≤ 11) : okAll l m b = true := by
  have h1 : l = 2 ∨ l = 3 ∨ l = 4 := by (first | lia | omega)
  have h2 : b = 8 ∨ b = 9 ∨ b = 10 ∨ b = 11 := by (first | lia | omega)
  rcases h1 with rfl | rfl | rfl <;> rcases hm with rfl | rfl <;> rcases h2 with rfl | rfl | rfl | rfl <;> decide +kernel
theorem ways_facts {l m b : Int} (hl : 2 ≤ l ∧ l ≤ 4) (hm : m = 2 ∨ m = 3) (hb : 8 ≤ b ∧ b ≤ 11) : (∃ f, run l m b 200 [[]] [] = some f ∧ halls l m b = f) ∧ okP (b + (mkOf l m).sum).toNat (mkOf l m) (waysOf l m b) = true ∧ (∀ d ∈ waysOf l m b, 0 ≤ d ∧ d < 60000) ∧ (waysOf l m b).getLast? = some 1 ∧ (waysOf l m b).length = (b + 1).toNat := by
  have h := ok_all hl hm hb
  unfold okAll at h
  simp only [Bool.and_eq_true, decide_eq_true_eq, List.all_eq_true] at h
  obtain ⟨⟨⟨h1, h2⟩, h3⟩, h4⟩ := h
  refine ⟨?_, h2, h3, h4, by unfold waysOf; rw [List.length_map, List.length_range]⟩
  obtain ⟨f, hf⟩ := Option.isSome_iff_exists.mp h1
  exact ⟨f, hf, by unfold halls; rw [hf]; rfl⟩
theorem mem_dl {α : Type} {x : α} {l : List α} (h : x ∈ l.dropLast) : x ∈ l := (List.dropLast_sublist l).subset h
theorem pow16 {N : Nat} (hN : 16 ≤ N) : (65536 : Int) ≤ 2 ^ N := by
  have h9 : (2 : Nat) ^ 16 ≤ 2 ^ N := Nat.pow_le_pow_right (by decide) hN
  have e := pow_toNat N
  have := pow_pos' N
  (first | lia | omega)
/-- the digits of the quotient -/
theorem digits_is {N : Nat} {ds : List Int} {k : Nat} (hN : 16 ≤ N) (hd : ∀ d ∈ ds, 0 ≤ d ∧ d < 60000) (hl : ds.getLast? = some 1) (hk : ds.length = k + 1) :
    0 ≤ val N ds ∧ Builtin.Int.intBits (val N ds) = N * k + 1 ∧ digs N ((((Builtin.Int.intBits (val N ds) : Nat) : Int) + (N : Int) - 1).fdiv (N : Int)).toNat (val N ds) = ds := by
  have hp := pow16 hN
  have hd2 : ∀ d ∈ ds, 0 ≤ d ∧ d < 2 ^ N := fun d h => by have := hd d h; (first | lia | omega)
  have h0 := val_nonneg (N := N) ds fun d h => (hd d h).1
  have e : ds = ds.dropLast ++ [1] := by
    have hne : ds ≠ [] := by intro h; rw [h] at hk; simp at hk
    have h1 := List.dropLast_concat_getLast hne
    rw [List.getLast?_eq_some_getLast hne] at hl
    rw [Option.some.inj hl] at h1
    exact h1.symm
  have hil : ds.dropLast.length = k := by rw [List.length_dropLast]; (first | lia | omega)
  have hv : val N ds = val N ds.dropLast + 2 ^ (N * k) := by
    conv => lhs; rw [e]
    rw [val_append, hil]
    show val N ds.dropLast + 2 ^ (N * k) * (1 + 2 ^ N * 0) = _
    (first | lia | omega)
  have hb := val_bound N ds.dropLast fun d h => by
    have := hd d (mem_dl h)
    have e2 := pow_toNat N
    (first | lia | omega)
  rw [hil] at hb
  have hi0 := val_nonneg (N := N) ds.dropLast fun d h => (hd d (mem_dl h)).1
  have e3 := pow_toNat (N * k)
  have e4 := pow_pos' (N * k)
  have hbits : Builtin.Int.intBits (val N ds) = N * k + 1 := by
    apply Nat.le_antisymm
    · refine intBits_le_iff.mpr ?_
      rw [Nat.pow_succ]
      (first | lia | omega)
    · refine Nat.lt_of_not_le fun hle => ?_
      have := intBits_le_iff.mp hle
      (first | lia | omega)
  refine ⟨h0, hbits, ?_⟩
  have hK : ((((Builtin.Int.intBits (val N ds) : Nat) : Int) + (N : Int) - 1).fdiv (N : Int)).toNat = ds.length := by
    rw [hbits, hk, Int.fdiv_eq_ediv_of_nonneg _ (by (first | lia | omega))]
    have e5 : (((N * k + 1 : Nat) : Int) + (N : Int) - 1) = ((N * (k + 1) : Nat) : Int) := by
      rw [Nat.mul_succ]; (first | lia | omega)
    rw [e5, ← Int.natCast_ediv, Int.toNat_natCast, Nat.mul_div_cancel_left _ (by (first | lia | omega))]
  rw [hK]
  exact digs_val ds hd2
end Mine.D

namespace Mine
open PySem PySem.W PySem.Calls PyProof.Rows
open Builtin Builtin.Str
section
variable {prog : Program} {w : World} {A : Around} {E : Value → Shared → Prop} {s : Shared} {h₀ : Heap} {L l D : Addr} {m : Str → Option Value} {news : List (Addr × Obj)} {value slice : PySem.Expr} {vs : List Value} {vu : Value} {y : Int} {Q : Value → Shared → Prop}
theorem slice_upto {n : Nat} {ts : List Str} (F : Fr h₀ L s.heap m) (N : News h₀ L s.heap news) (hm : (l, listOf vs.toArray n) ∈ news) (pu : IsPart vu (some y)) (hi : StrsAre vs ts) (h0 : 0 ≤ y)
    (h : ∀ D ws h', Fr h₀ L h' m → News h₀ L h' ((D, listOf (List.toArray ws) 0) :: news) → (∀ p ∈ news, p.1 < D) → StrsAre ws (ts.take y.toNat) → Q (.ref D) { s with heap := h' })
    (hs : subscripted slice false (.ref l) (.ref s.heap.objs.size) = operate [.ref s.heap.objs.size, .ref l] (getItem (.ref l) (.ref s.heap.objs.size))) (ht : ∀ r, letTemporaryGo value (.ref l) r = pure ()) (hz : vs.toArray.size ≤ sizeLine) :
    wpAny (model prog w) A (subscriptTail value slice (.ref l) (.ref s.heap.objs.size)) Q E { s with heap := s.heap.push { cls := .type "slice", data := .fields #[.none, vu, .none] } } := by
  have e : sliceBounds none (some y) none vs.toArray.size = (((0 : Nat) : Int), ((min y.toNat vs.toArray.size : Nat) : Int), 1) := by
    simp only [sliceBounds, Option.getD_none, show (1 : Int) > 0 by decide, if_true, if_neg (show ¬ (y < 0) by (first | lia | omega))]
    congr 1
    congr 1
    (first | lia | omega)
  refine kmk_slice (vl := .none) (lo := none) F N (PySem.IsL.isList (n := n) (N _ hm).1) .none pu (fun D h' F' N' l1 => ?_) hs ht hz
  rw [kmk_pick_nat _ e] at N'
  have e2 : ((vs.toArray.toList.drop 0).take (min y.toNat vs.toArray.size - 0)) = vs.take y.toNat := by
    rw [List.drop_zero, Nat.sub_zero, List.size_toArray]
    exact kmk_take_min _ _
  rw [e2] at N'
  refine h D _ h' F' N' l1 ?_
  have key : ∀ {us : List Value} {xs : List Str}, StrsAre us xs → ∀ k, StrsAre (us.take k) (xs.take k) := by
    intro us xs hx
    induction hx with
    | nil => intro k; rw [List.take_nil, List.take_nil]; exact .nil
    | cons a t _ ih => intro k; cases k with
      | zero => exact .nil
      | succ k => exact .cons a t (ih k)
  exact key hi _
theorem join_flat : ∀ ys : List Str, (Str.join (PySem.Str.ofString "") ys).cps.toList = (ys.map fun t => t.cps.toList).flatten
  | [] => rfl
  | [x] => by simp [Str.join]
  | x :: z :: r => by
    show ((x ++ PySem.Str.ofString "") ++ Str.join (PySem.Str.ofString "") (z :: r)).cps.toList = _
    have h1 : ∀ a b : Str, (a ++ b).cps.toList = a.cps.toList ++ b.cps.toList := fun a b => by
      show (a.cps ++ b.cps).toList = _
      rw [Array.toList_append]
    rw [h1, h1, join_flat (z :: r)]
    have : (PySem.Str.ofString "").cps.toList = [] := by decide
    rw [this]
    simp
theorem join_strs {n : Nat} {ts : List Str} {t : Tok} (N : News h₀ L s.heap news) (hm : (D, listOf vs.toArray n) ∈ news) (hi : StrsAre vs ts) (hw : (ts.map (·.length)).sum + ts.length ≤ 1048576)
    (h : ∀ y t' k, y.cps.toList = (ts.map fun t => t.cps.toList).flatten → Q (.str y t') { s with toks := k }) : wpAny (model prog w) A (call (.builtin "str.join") [.str (PySem.Str.ofString "") t, .ref D]) Q E s := by
  refine join_listW (items := vs.toArray) (PySem.IsL.isList (n := n) (N _ hm).1) hi (by decide) hw fun t' k => h _ t' k ?_
  show (Builtin.Str.glued (PySem.Str.ofString "") ts).cps.toList = _
  rw [StrLaws.glued_eq_join, join_flat]
theorem ne_nil {n n2 : Nat} (N : News h₀ L s.heap news) (hm : (l, listOf vs.toArray n) ∈ news) (hm2 : (D, listOf #[] n2) ∈ news) (hu : A.units < cLine) (h : Q (.bool (!vs.isEmpty)) s) : wpAny (model prog w) A (compareOp .NotEq (.ref l) (.ref D)) Q E s := by
  have h1 := PySem.IsL.isList (n := n) (N _ hm).1
  have h2 := PySem.IsL.isList (n := n2) (N _ hm2).1
  show wpAny (model prog w) A (richCompare .NotEq (.ref l) (.ref D)) Q E s
  cases vs with
  | nil => exact PySem.SeqAt.RcNeAt.lists (e := fun _ => true) h1 h2 rfl hu (fun j h1 => absurd h1 (Nat.not_lt_zero _)) prog w E Q h
  | cons a r => exact PySem.SeqAt.RcNeAt.lists_lengths h1 h2 (by simp) hu prog w E Q h
theorem pop_snoc {n : Nat} {p : List Value} {z : Value} {g : Obj → List (Addr × Obj)} (F : Fr h₀ L s.heap m) (N : News h₀ L s.heap news) (U : UpdF D (listOf (p ++ [z]).toArray n) news g) (hz : p.length ≤ 10000000)
    (h : ∀ h', Fr h₀ L h' m → News h₀ L h' (g (listOf p.toArray (n + 1))) → Q z { s with heap := h' }) : wpAny (model prog w) A (call (.builtin "list.pop") [.ref D]) Q E s := by
  refine kl_pop (its := (p ++ [z]).toArray) (n := n) F N (kpa_last z p) ?_ (by simp; show _ ≤ 16777216; (first | lia | omega)) h
  have key : ∀ {l : List (Addr × Obj)} {o : Obj} {g : Obj → List (Addr × Obj)}, UpdF D o l g → ∀ o', Upd D o o' l (g o') := by
    intro l o g U o'
    induction U with
    | head h => exact .head h
    | tail h _ ih => exact .tail h ih
  exact key U _
end
end Mine
namespace Mine
open PySem PySem.W PySem.Calls PyProof.Rows
open Mine.D
section
theorem fresh0 : True := by
  w_top off
  trivial
/-- a call of a def of the text that hands back a plain value and leaves the ledger as it was -/
noncomputable abbrev CallV (w : World) (base : Heap) (news : List (Addr × Obj)) (d u : Nat) (f : Addr) (vs : List Value) (R : Value → Prop) : Prop :=
  ∀ (p : Program) (loose : List Str) (mean : ExcName → Option Value) (mg mb : Str → Option Value) (dp un : Nat) (gd : Option (List Code)) (cn : Str) (cs : Scope) (a : Addr) (ccd : Value) (cl : List (Str × Addr)) (outer : List Env) (A₀ : Around) (h₀ : Heap) (L : Addr) (m : Str → Option Value) (s : Shared) (Q E : Value → Shared → Prop),
    Below A₀ base outer h₀ → Fr h₀ L s.heap m → (hd2.heap_39 w.params).In h₀ → News h₀ L s.heap news → Top p loose mean mg mb h₀ → cs.kind = .function →
    dp + d < recursionLimit → un + u < cLine →
    (∀ v h' tk', Fr h₀ L h' m → News h₀ L h' news → R v → Q v { s with heap := h', toks := tk' }) →
    wpAny (model PySem.Challenge.rw_rl0045_02.row.prog w) (ktrTop dp un gd cn cs L a ccd cl outer) (call (.ref f) vs) Q E s

/-- .. that hands back one new object -/
noncomputable abbrev CallO (w : World) (base : Heap) (news : List (Addr × Obj)) (d u : Nat) (f : Addr) (vs : List Value) (R : Obj → Prop) : Prop :=
  ∀ (p : Program) (loose : List Str) (mean : ExcName → Option Value) (mg mb : Str → Option Value) (dp un : Nat) (gd : Option (List Code)) (cn : Str) (cs : Scope) (a : Addr) (ccd : Value) (cl : List (Str × Addr)) (outer : List Env) (A₀ : Around) (h₀ : Heap) (L : Addr) (m : Str → Option Value) (s : Shared) (Q E : Value → Shared → Prop),
    Below A₀ base outer h₀ → Fr h₀ L s.heap m → (hd2.heap_39 w.params).In h₀ → News h₀ L s.heap news → Top p loose mean mg mb h₀ → cs.kind = .function →
    dp + d < recursionLimit → un + u < cLine →
    (∀ q o h' tk', Fr h₀ L h' m → News h₀ L h' ((q, o) :: news) → (∀ r ∈ news, r.1 < q) → R o → Q (.ref q) { s with heap := h', toks := tk' }) →
    wpAny (model PySem.Challenge.rw_rl0045_02.row.prog w) (ktrTop dp un gd cn cs L a ccd cl outer) (call (.ref f) vs) Q E s

section
variable {w : World} {base : Heap} {news : List (Addr × Obj)} {d u : Nat} {f : Addr} {vs : List Value} {p : Program} {loose : List Str} {mean : ExcName → Option Value} {mg mb : Str → Option Value} {dp un : Nat} {gd : Option (List Code)} {cn : Str} {cs : Scope} {a : Addr} {ccd : Value} {cl : List (Str × Addr)} {outer : List Env} {A₀ : Around} {h₀ : Heap} {L : Addr} {m : Str → Option Value} {s : Shared} {Q E : Value → Shared → Prop}
theorem useV {R : Value → Prop} (C : CallV w base news d u f vs R) (B : Below A₀ base outer h₀) (F : Fr h₀ L s.heap m) (X : (hd2.heap_39 w.params).In h₀) (N : News h₀ L s.heap news) (T : Top p loose mean mg mb h₀) (hk : cs.kind = .function)
    (hd : dp + d < recursionLimit) (hu : un + u < cLine) (h : ∀ v h' tk', Fr h₀ L h' m → News h₀ L h' news → R v → Q v { s with heap := h', toks := tk' }) :
    wpAny (model PySem.Challenge.rw_rl0045_02.row.prog w) (ktrTop dp un gd cn cs L a ccd cl outer) (call (.ref f) vs) Q E s := C _ _ _ _ _ _ _ _ _ _ _ _ _ _ _ _ _ _ _ _ _ B F X N T hk hd hu h
theorem useO {R : Obj → Prop} (C : CallO w base news d u f vs R) (B : Below A₀ base outer h₀) (F : Fr h₀ L s.heap m) (X : (hd2.heap_39 w.params).In h₀) (N : News h₀ L s.heap news) (T : Top p loose mean mg mb h₀) (hk : cs.kind = .function)
    (hd : dp + d < recursionLimit) (hu : un + u < cLine) (h : ∀ q o h' tk', Fr h₀ L h' m → News h₀ L h' ((q, o) :: news) → (∀ r ∈ news, r.1 < q) → R o → Q (.ref q) { s with heap := h', toks := tk' }) :
    wpAny (model PySem.Challenge.rw_rl0045_02.row.prog w) (ktrTop dp un gd cn cs L a ccd cl outer) (call (.ref f) vs) Q E s := C _ _ _ _ _ _ _ _ _ _ _ _ _ _ _ _ _ _ _ _ _ B F X N T hk hd hu h
end

/-! quotedata -/
section
variable {M : Model} {A : Around} {E : Value → Shared → Prop} {s : Shared} {h₀ : Heap} {L : Addr} {m : Str → Option Value} {prog : Program} {w : World} {news : List (Addr × Obj)}
theorem pat_K {K : Frag} {p c : Addr} {vs xs : Array Value} {n : Nat} {sl sl' : Array (Option Value)} {oc : Value} {od : Option Addr} {code : Array Nat} (X : K.In h₀) (h1 : K.lookup p = some ⟨.type "re.Pattern", none, .fields vs, sl⟩)
    (h6 : vs.getD 6 .none = .int 0 0) (h2 : vs.getD 2 .none = .int 0 0) (h5 : vs.getD 5 .none = .ref c) (hc : K.lookup c = some ⟨oc, od, .seq xs n, sl'⟩) (hx : (xs.map Builtin.Re.reRawOf).map (·.toNat) = code) : Re.PatAt h₀ p code :=
  ⟨_, vs, c, _, xs, n, X _ _ h1, rfl, rfl, rfl, h6, h2, h5, X _ _ hc, rfl, hx⟩
theorem pat_intro {K : Frag} {p c : Addr} {vs xs : Array Value} {n : Nat} {sl sl' : Array (Option Value)} {oc : Value} {od : Option Addr} {code : Array Nat} {Z : Prop} (X : K.In h₀) (h1 : K.lookup p = some ⟨.type "re.Pattern", none, .fields vs, sl⟩)
    (h6 : vs.getD 6 .none = .int 0 0) (h2 : vs.getD 2 .none = .int 0 0) (h5 : vs.getD 5 .none = .ref c) (hc : K.lookup c = some ⟨oc, od, .seq xs n, sl'⟩) (hx : (xs.map Builtin.Re.reRawOf).map (·.toNat) = code) (k : Re.PatAt h₀ p code → Z) : Z :=
  k (pat_K X h1 h6 h2 h5 hc hx)
theorem pat_method {p : Addr} {code : Array Nat} {pl : Sem Bool} {Q : Value × List Value → Shared → Prop} (F : Fr h₀ L s.heap m) (P : Re.PatAt h₀ p code) (h : Q (.builtin "re.Pattern.sub", [.ref p]) s) :
    wpAny M A (getMethod (.ref p) "sub" pl) Q E s := by
  obtain ⟨o, vs, c, oc, xs, n, h1, h2, h3, _⟩ := (P.keeps F.keep).at_
  exact getMethod_builtin ⟨o, h1, h2⟩ Re.plain_pat Re.slot_sub Re.type_sub (fun a e => by cases e; exact ⟨o, h1, h3⟩) h
theorem news_keep {h h' : Heap} (N : News h₀ L h news) (hk : ∀ b o, h.get? b = some o → h'.get? b = some o) : News h₀ L h' news := fun p hp => ⟨hk _ _ (N p hp).1, (N p hp).2⟩
theorem fr_keep {h h' : Heap} (F : Fr h₀ L h m) (hk : ∀ b o, h.get? b = some o → h'.get? b = some o) : Fr h₀ L h' m := ⟨F.ns.keeps hk, fun b o e => hk b o (F.keep b o e), F.above⟩

/-- the ends of rows -/
theorem sub2 {p : Addr} {x rep : Str} {t tr : Tok} {Q : Value → Shared → Prop} (F : Fr h₀ L s.heap m) (N : News h₀ L s.heap news) (P : Re.PatAt h₀ p Re.code2) (hrep : rep.cps.toList = [13, 10]) (hx : x.cps.size ≤ 4000000)
    (h : ∀ y t' h' tk', y.cps.toList = Re.norm false x.cps.toList → y.cps.size ≤ 2 * x.cps.size → Fr h₀ L h' m → News h₀ L h' news → Q (.str y t') { s with heap := h', toks := tk' }) :
    wpAny (model prog w) A (call (.builtin "re.Pattern.sub") [.ref p, .str rep tr, .str x t]) Q E s := by
  have hr : rep.cps = #[13, 10] := by apply Array.ext'; rw [hrep]
  have hsz : sizeLine = 16777216 := rfl
  refine Re.sub_call (B := 32) (by omega) (by rw [hrep]; exact Re.tells2 x.cps) hx (fun j hj => ?_) (by rw [hr]; decide +kernel) (P.keeps F.keep) fun y t' h' tk' hy hk => ?_
  · have := Re.norm_len false (x.cps.toList.drop j)
    simp at this; omega
  · have e : y.cps.toList = Re.norm false x.cps.toList := by simpa using hy
    refine h y t' h' tk' e ?_ (fr_keep F hk) (news_keep N hk)
    have := Re.norm_len false x.cps.toList
    rw [← e] at this; simpa using this
/-- the dots at the rows' fronts -/
theorem sub1 {p : Addr} {x rep : Str} {t tr : Tok} {Q : Value → Shared → Prop} (F : Fr h₀ L s.heap m) (N : News h₀ L s.heap news) (P : Re.PatAt h₀ p Re.code1) (hrep : rep.cps.toList = [46, 46]) (hx : x.cps.size ≤ 4000000)
    (h : ∀ y t' h' tk', y.cps.toList = Re.dots true x.cps.toList → Fr h₀ L h' m → News h₀ L h' news → Q (.str y t') { s with heap := h', toks := tk' }) :
    wpAny (model prog w) A (call (.builtin "re.Pattern.sub") [.ref p, .str rep tr, .str x t]) Q E s := by
  have hr : rep.cps = #[46, 46] := by apply Array.ext'; rw [hrep]
  have hsz : sizeLine = 16777216 := rfl
  refine Re.sub_call (B := 3 * x.cps.size + 9) (by omega) (by rw [hrep]; exact Re.tells1 x.cps) hx (fun j hj => ?_) (by rw [hr]; decide +kernel) (P.keeps F.keep) fun y t' h' tk' hy hk => ?_
  · have := Re.dots_len (Re.frontAt x.cps j) (x.cps.toList.drop j)
    simp at this; omega
  · exact h y t' h' tk' (by simpa [Re.frontAt] using hy) (fr_keep F hk) (news_keep N hk)
end

/-- the walk stops here -/
noncomputable def Hold0 (P : Prop) : Prop := P
theorem hold0 {P : Prop} (h : Hold0 P) : P := h
local macro_rules | `(tactic| walk_at "getMethod ref") => `(tactic| (k_here; refine hold0 ?_))
local macro_rules | `(tactic| walk_at "call builtin:re.Pattern.sub") => `(tactic| (k_here; refine hold0 ?_))

theorem quotedata_c {w : World} {base : Heap} {news : List (Addr × Obj)} (x : Str) (t : Tok) (hx : x.cps.size ≤ 1000000) :
    CallV w base news 1 8 97 [.str x t] (fun v => ∃ y t', v = .str y t' ∧ y.cps.toList = Re.quoted x.cps.toList) := by
  have dummy : (fun (_ : OpenLaw) (_ : Params → Frag) => True) PySem.Challenge.rw_rl0045_02 hd2.heap_39 := by k_fill; trivial
  clear dummy
  intro p loose mean mg mb dp un gd cn cs a ccd cl outer A₀ h₀ L m s Q E B F X N T hk hd hu hret
  refine wpAny_call ?_
  k_dflt cell_enter
  rename Frag.In _ _ => X'
  refine' pat_intro (p := 85) (code := Re.code1) X' ?a ?b ?c ?d ?e ?f ?k
  (case a => k_is)
  (case b => rfl)
  (case c => rfl)
  (case d => rfl)
  (case e => k_is)
  (case f => decide +kernel)
  intro P1
  refine' pat_intro (p := 90) (code := Re.code2) X' ?a2 ?b2 ?c2 ?d2 ?e2 ?f2 ?k2
  (case a2 => k_is)
  (case b2 => rfl)
  (case c2 => rfl)
  (case d2 => rfl)
  (case e2 => k_is)
  (case f2 => decide +kernel)
  intro P2
  k_steps
  unfold Hold0
  k_dflt (refine' pat_method (p := 85) (code := Re.code1) ?u1 P1 ?_; (case u1 => k_asm); k_whole)
  k_steps
  unfold Hold0
  k_dflt (refine' pat_method (p := 90) (code := Re.code2) ?v1 P2 ?_; (case v1 => k_asm); k_whole)
  k_steps
  unfold Hold0
  k_dflt (refine' sub2 (p := 90) ?w1 ?w2 P2 rfl ?w5 ?_; (case w1 => k_asm); (case w2 => k_asm); (case w5 => omega); k_whole)
  intro y' t' h' tk' e2 hz' F' N'
  k_steps
  unfold Hold0
  k_dflt (refine' sub1 (p := 85) ?x1 ?x2 P1 rfl ?x5 ?_; (case x1 => k_asm); (case x2 => k_asm); (case x5 => omega); k_whole)
  intro y2 t2 h2 tk2 e1 F2 N2
  k_steps
  exact hret _ _ _ (by k_asm) (by k_asm) ⟨_, _, rfl, by rw [e1, e2]; rfl⟩
end
local macro_rules | `(tactic| walk_at "LPost") => `(tactic| first | refine LPost.next ?_ | refine LPost.brk ?_ | refine LPost.ret ?_ | refine LPost.cont ?_)
-- every address of the ledger lies below
local macro_rules | `(tactic| walk_at "lt_all") => `(tactic| first | assumption | (refine allLt_all ?_; first | assumption | with_reducible infer_instance) | exact List.forall_mem_nil _ | (refine List.forall_mem_cons.mpr ⟨?_, ?_⟩; (first | assumption | ((try dsimp only); lia)); walk_at "lt_all"))
-- a part of the ledger
local macro_rules | `(tactic| walk_at "sub_all") => `(tactic| first | (intro p9 h9; focus ((repeat (first | exact h9 | refine List.Mem.tail _ ?_)); done)) | exact List.forall_mem_nil _ | (refine List.forall_mem_cons.mpr ⟨?_, ?_⟩; k_mem; walk_at "sub_all"))
local macro_rules | `(tactic| walk_at "eval Name") => `(tactic| (k_here; name_kind "local"; k_dflt (refine' nameX_L ?F ?v ?_ ?a ?b; (case F => k_asm); (case a => exact rfl); (case b => exact Eq.refl (some _)); (case v => exact Eq.refl (some _)); k_whole)))
local macro_rules | `(tactic| and_intros) => `(tactic| first | exact op_int | (refine' op_name ?F ?v ?a ?b; (case F => k_asm); (case a => exact rfl); (case b => exact Eq.refl (some _)); (case v => exact Eq.refl (some _))))
local macro_rules | `(tactic| walk_at "eval BinOp") => `(tactic| (k_here; k_dflt (refine' binop_op ?l ?r ?_; (case l => and_intros); (case r => and_intros); k_whole)))
local macro_rules | `(tactic| walk_at "eval Compare") => `(tactic| (k_here; k_dflt (refine' cmp_op ?l ?r ?_ ?m; (case l => and_intros); (case r => and_intros); (case m => with_unfolding_all rfl); k_whole)))
local macro_rules | `(tactic| walk_at "isTrue Compare") => `(tactic| (k_here; k_dflt (refine' test_op ?l ?r ?_ ?m; (case l => and_intros); (case r => and_intros); (case m => with_unfolding_all rfl); k_whole)))
local macro_rules | `(tactic| walk_at "callWith ref") => `(tactic| (k_here; k_dflt (refine' callWith_K ?k1 ?k2 ?_; (case k1 => k_asm); (case k2 => k_is); k_whole)))
local macro_rules | `(tactic| walk_at "vals_all") => `(tactic| first | exact List.forall_mem_nil _ | (refine List.forall_mem_cons.mpr ⟨rfl, ?_⟩; walk_at "vals_all"))
local macro_rules | `(tactic| k_mem) => `(tactic| assumption)
local macro_rules | `(tactic| walk_at "names_all") => `(tactic| (intro z hz hp hs; (try simp only [Option.some.injEq, ne_eq, reduceCtorEq, not_false_eq_true] at hz); (try simp only [List.forall_mem_cons, List.forall_mem_nil, and_true, ne_eq] at hp); (try simp only [List.contains_cons, List.contains_nil, Bool.or_eq_false_iff, beq_eq_false_iff_ne, ne_eq, Bool.or_false, and_true] at hs); (try dsimp only); (try simp only [nm, kstB, hz, hp, hs, if_false, List.contains_cons, List.contains_nil, Bool.or_eq_false_iff, Bool.false_eq_true, Bool.or_false, beq_iff_eq]); (try rfl)))

section
theorem fresh1 : True := by
  w_top off
  trivial
noncomputable abbrev pairO (q : Int) (t : Tok) (r : Int) (u : Tok) : Obj := { cls := .type "tuple", data := .seq #[.int q t, .int r u] }
/-- a pair: quotient and rest -/
noncomputable def IsQuot (A b : Int) (o : Obj) : Prop := ∃ q r t u, o = pairO q t r u ∧ Quot A b q r ∧ 0 ≤ q ∧ Builtin.Int.intBits q ≤ 100000 ∧ Builtin.Int.intBits r ≤ 100000

theorem bits_of_quot {A b q r : Int} {k : Nat} (h : Quot A b q r) (h0 : 0 ≤ A) (hA : A < 2 ^ k) : 0 ≤ q ∧ Builtin.Int.intBits q ≤ k ∧ Builtin.Int.intBits r ≤ k := by
  obtain ⟨h1, h2, h3⟩ := h
  have hb : 0 < b := by (first | lia | omega)
  have hq : 0 ≤ q := by
    apply Int.le_of_not_gt
    intro hl
    have : q * b ≤ (-1) * b := Int.mul_le_mul_of_nonneg_right (by (first | lia | omega)) (by (first | lia | omega))
    (first | lia | omega)
  have hqb : q * 1 ≤ q * b := Int.mul_le_mul_of_nonneg_left (by (first | lia | omega)) hq
  have hqb0 : 0 ≤ q * b := Int.mul_nonneg hq (by (first | lia | omega))
  exact ⟨hq, bits_le hq (by (first | lia | omega)), bits_le h2 (by (first | lia | omega))⟩
theorem pow_le_pow2 {j k : Nat} (h : j ≤ k) : (2 : Int) ^ j ≤ 2 ^ k := by
  have := Nat.pow_le_pow_right (show 0 < 2 by decide) h
  have e1 : ((2 : Int) ^ j) = ((2 ^ j : Nat) : Int) := by push_cast; rfl
  have e2 : ((2 : Int) ^ k) = ((2 ^ k : Nat) : Int) := by push_cast; rfl
  rw [e1, e2]; (first | lia | omega)
theorem D.Pre2.small {a b n : Int} (h : Pre2 a b n) : a < 2 ^ (2 * n.toNat) := by
  have hp := pow_pos' n.toNat
  have : b * 2 ^ n.toNat ≤ 2 ^ n.toNat * 2 ^ n.toNat := Int.mul_le_mul_of_nonneg_right (Int.le_of_lt h.hi) (by (first | lia | omega))
  rw [← Int.pow_add, ← Nat.two_mul] at this
  have := h.lt; (first | lia | omega)
theorem D.Pre3.small {a12 a3 b b1 b2 n : Int} (h : Pre3 a12 a3 b b1 b2 n) : 0 ≤ a12 * 2 ^ n.toNat + a3 ∧ a12 * 2 ^ n.toNat + a3 < 2 ^ (3 * n.toNat) ∧ b < 2 ^ (2 * n.toNat) ∧ a12 < 2 ^ (2 * n.toNat) := by
  have hp := pow_pos' n.toNat
  have h1 : (b1 + 1) * 2 ^ n.toNat ≤ 2 ^ n.toNat * 2 ^ n.toNat := Int.mul_le_mul_of_nonneg_right (by have := h.hi; (first | lia | omega)) (by (first | lia | omega))
  rw [← Int.pow_add, ← Nat.two_mul, Int.add_mul] at h1
  have hb : b < 2 ^ (2 * n.toNat) := by have := h.be; have := h.d1; (first | lia | omega)
  have h2 : b * 2 ^ n.toNat ≤ 2 ^ (2 * n.toNat) * 2 ^ n.toNat := Int.mul_le_mul_of_nonneg_right (Int.le_of_lt hb) (by (first | lia | omega))
  rw [← Int.pow_add, show 2 * n.toNat + n.toNat = 3 * n.toNat by (first | lia | omega)] at h2
  have h3 : 0 ≤ a12 * 2 ^ n.toNat := Int.mul_nonneg h.a0 (by (first | lia | omega))
  have ha : a12 < b := by
    apply Int.lt_of_not_ge
    intro hl
    have : b * 2 ^ n.toNat ≤ a12 * 2 ^ n.toNat := Int.mul_le_mul_of_nonneg_right hl (by (first | lia | omega))
    have := h.c0; have := h.lt; (first | lia | omega)
  refine ⟨by have := h.c0; (first | lia | omega), by have := h.lt; (first | lia | omega), hb, by (first | lia | omega)⟩

theorem log2_bits {x : Int} (h : x ≠ 0) : Builtin.Int.intBits x = x.natAbs.log2 + 1 := by
  unfold Builtin.Int.intBits
  first | (rw [if_neg (by simpa using h)]) | (simp [h])
theorem noPylong {x y : Int} (h : Builtin.Int.intBits x ≤ Builtin.Int.intBits y + 4000) (hy : y ≠ 0) : Builtin.divisionGoesByPylong x y = false := by
  unfold Builtin.divisionGoesByPylong
  by_cases hx : x = 0
  · subst hx; simp
  · rw [log2_bits hx, log2_bits hy] at h
    have e1 : (x == 0) = false := by simpa using hx
    have e2 : (y == 0) = false := by simpa using hy
    simp only [e1, e2, Bool.false_eq_true, if_false, Bool.and_eq_false_iff, decide_eq_false_iff_not]
    right
    (first | lia | omega)

noncomputable def D2At (w : World) (base : Heap) (k : Nat) : Prop := ∀ (news : List (Addr × Obj)) (a b n : Int) (ta tb tn : Tok), Pre2 a b n → n ≤ 4000 * 2 ^ k →
  CallO w base news (2 * k + 1) (8 * (2 * k + 1)) 38 [.int a ta, .int b tb, .int n tn] (IsQuot a b)

theorem divmod_K {prog : Program} {w : World} {A : Around} {E : Value → Shared → Prop} {s : Shared} {h₀ : Heap} {L : Addr} {m : Str → Option Value} {news : List (Addr × Obj)} {a b : Int} {t u : Tok} {Q : Value → Shared → Prop} (F : Fr h₀ L s.heap m) (N : News h₀ L s.heap news) (hb : b ≠ 0)
    (h : ∀ q t h' tk', Fr h₀ L h' m → News h₀ L h' ((q, pairO (a.fdiv b) t (a.fmod b) (t + 1)) :: news) → (∀ p ∈ news, p.1 < q) → Q (.ref q) { s with heap := h', toks := tk' })
    (hp : Builtin.divisionGoesByPylong a b = false) :
    wpAny (model prog w) A (call (.builtin "divmod") [.int a t, .int b u]) Q E s :=
  divmod_N F N hb (fun h' F' N' => h _ _ h' _ F' N' fun p hp => Heap.lt_size (N p hp).1) (.inl hp)
local macro_rules | `(tactic| walk_at "call builtin:divmod") => `(tactic| (k_here; refine hold ?_))

theorem d2_zero {w : World} {base : Heap} : D2At w base 0 := by
  intro news a b n ta tb tn hpre hn
  have dummy : (fun (_ : OpenLaw) (_ : Params → Frag) => True) PySem.Challenge.rw_rl0045_02 hd2.heap_39 := by k_fill; trivial
  clear dummy
  have hb := hpre.b0
  have ha := hpre.a0
  have hn0 := hpre.n0
  have hsm := bits_le ha hpre.small
  have hbb : Builtin.Int.intBits b = n.toNat := by
    have h1 := bits_le (Int.le_of_lt hb) hpre.hi
    apply Nat.le_antisymm h1
    apply Nat.le_of_not_lt
    intro hl
    have h2 : Builtin.Int.intBits b ≤ n.toNat - 1 := by (first | lia | omega)
    have h3 := intBits_le_iff.mp h2
    have h4 := hpre.lo
    have := pow_toNat (n.toNat - 1)
    (first | lia | omega)
  have hq := Quot.of_div (a := a) hb
  have hz := bits_of_quot hq ha hpre.small
  intro p loose mean mg mb dp un gd cn cs ad ccd cl outer A₀ h₀ L m s Q E B F X N T hk hd hu hret
  refine wpAny_call ?_
  k_dflt cell_enter
  k_steps
  unfold Hold
  k_dflt (refine' divmod_K ?dk1 ?dk2 ?dk3 ?_ ?dk4; (case dk1 => k_asm); (case dk2 => k_asm); (case dk3 => (first | lia | omega)); (case dk4 => exact noPylong (by (first | lia | omega)) (by (first | lia | omega))); k_whole)
  intro q' t' h' tk' F' N' l'
  k_steps
  exact hret _ _ _ _ (by k_asm) (by k_asm) (by assumption) ⟨_, _, _, _, rfl, hq, hz.1, by (first | lia | omega), by (first | lia | omega)⟩

/-! the recursion -/
theorem use_d2 {w : World} {base : Heap} {k : Nat} {news : List (Addr × Obj)} {aa b n : Int} {ta tb tn : Tok} {p : Program} {loose : List Str} {mean : ExcName → Option Value} {mg mb : Str → Option Value} {dp un : Nat} {gd : Option (List Code)} {cn : Str} {cs : Scope} {a : Addr} {ccd : Value} {cl : List (Str × Addr)} {outer : List Env} {A₀ : Around} {h₀ : Heap} {L : Addr} {m : Str → Option Value} {s : Shared} {Q E : Value → Shared → Prop}
    (C : D2At w base k) (pre : Pre2 aa b n) (hn : n ≤ 4000 * 2 ^ k) (B : Below A₀ base outer h₀) (F : Fr h₀ L s.heap m) (X : (hd2.heap_39 w.params).In h₀) (N : News h₀ L s.heap news) (T : Top p loose mean mg mb h₀) (hk : cs.kind = .function)
    (hd : dp + (2 * k + 1) < recursionLimit) (hu : un + 8 * (2 * k + 1) < cLine)
    (h : ∀ o q r t u h' tk', Fr h₀ L h' m → News h₀ L h' ((o, pairO q t r u) :: news) → (∀ p ∈ news, p.1 < o) → Quot aa b q r → 0 ≤ q → Builtin.Int.intBits q ≤ 100000 → Builtin.Int.intBits r ≤ 100000 → Q (.ref o) { s with heap := h', toks := tk' }) :
    wpAny (model PySem.Challenge.rw_rl0045_02.row.prog w) (ktrTop dp un gd cn cs L a ccd cl outer) (call (.ref 38) [.int aa ta, .int b tb, .int n tn]) Q E s :=
  useO (C news aa b n ta tb tn pre hn) B F X N T hk hd hu fun q o h' tk' F' N' l ⟨q1, r1, t, u, e, hq, h1, h2, h3⟩ => by subst e; exact h q q1 r1 t u h' tk' F' N' l hq h1 h2 h3

theorem bitOr_id {r a3 : Int} {k : Nat} {Q : Int → Prop} (h0 : 0 ≤ r) (h1 : 0 ≤ a3) (h2 : a3 < 2 ^ k) (h : Q (r * 2 ^ k + a3)) : Q (Builtin.bitOr (r * 2 ^ k) a3) := by rw [bitOr_shift k h0 h1 h2]; exact h

local macro_rules | `(tactic| walk_at "call ref") => `(tactic| (k_here; refine hold ?_))
local macro_rules | `(tactic| walk_at "binaryOp LShift int int") => `(tactic| (k_here; k_dflt (refine' lshift_int ?k1 ?k2 ?_; (case k1 => lia); (case k2 => lia); k_whole)))
local macro_rules | `(tactic| walk_at "binaryOp Mult int int") => `(tactic| (k_here; k_dflt (refine' PyProof.Rows.mul_int ?_ ?k1; (case k1 => exact IntMulOk.of_le (m := 100000) (n := 100000) (by lia) (by lia) (by lia)); k_whole)))
local macro_rules | `(tactic| walk_at "exec While Compare cons nil") => `(tactic| (k_here; refine hold ?_))

/-- the turns that set the quotient right -/
noncomputable abbrev fixPs (c : Int × Tok × Int × Tok) : List (Str × Value) := [(Str.ofString "q", .int c.1 c.2.1), (Str.ofString "r", .int c.2.2.1 c.2.2.2)]
theorem fixLoop {prog : Program} {w : World} {A : Around} {E : Value → Shared → Prop} {s : Shared} {env : Env} {h₀ : Heap} {L : Addr} {test : Expr} {body : List Stmt} {pos : Pos} {Q : Flow → Shared → Prop} {m₀ : Str → Option Value} {news : List (Addr × Obj)} {q0 r0 AA b : Int} {tq tr : Tok}
    (F : Fr h₀ L s.heap m₀) (N : News h₀ L s.heap news) (hq : m₀ (Str.ofString "q") = some (.int q0 tq)) (hr : m₀ (Str.ofString "r") = some (.int r0 tr)) (h0 : Near AA b q0 r0)
    (turn : ∀ q t r u uu h tk, Near AA b q r → Fr h₀ L h (nm m₀ uu [] [(Str.ofString "q", .int q t), (Str.ofString "r", .int r u)]) → News h₀ L h news →
      wpAny (model prog w) A (isTrue test env (eval test env)) (fun b' s₂ =>
        if b' then wpAny (model prog w) A (execs body env) (LPost Q (SEnd h₀ L none m₀ [] (fun _ => news) fixPs (fun c' => Near AA b c'.1 c'.2.2.1 ∧ (-c'.2.2.1).toNat < (-r).toNat) [] { s with heap := h, toks := tk })) (fun _ _ => False) s₂
        else Q .next s₂) (fun _ _ => False) { s with heap := h, toks := tk }) :
    wpAny (model prog w) A (exec (.While test body [] pos) env) Q E s :=
  whileS (σ := Int × Tok × Int × Tok) (fun _ => news) fixPs [] (fun c => Near AA b c.1 c.2.2.1) (fun c => (-c.2.2.1).toNat) (q0, tq, r0, tr) F N
    (List.forall_mem_cons.mpr ⟨hq, List.forall_mem_cons.mpr ⟨hr, List.forall_mem_nil _⟩⟩) h0 fun c u h tk hP F' N' => turn c.1 c.2.1 c.2.2.1 c.2.2.2 u h tk hP F' N'

/-- behind the first division of d3_of -/
noncomputable def Mid3 (AA a3 b b2 n q r : Int) : Prop := 0 ≤ r ∧ Builtin.Int.intBits q ≤ 100000 ∧ Builtin.Int.intBits r ≤ 100000 ∧ Near AA b q (r * 2 ^ n.toNat + a3 - q * b2)
noncomputable abbrev mid3Ps (a3 b b2 n q r : Int) (t1 t2 t3 t4 t5 t6 : Tok) : List (Str × Value) := [(Str.ofString "q", .int q t5), (Str.ofString "r", .int r t6), (Str.ofString "a3", .int a3 t1), (Str.ofString "b", .int b t2), (Str.ofString "b2", .int b2 t3), (Str.ofString "n", .int n t4)]
noncomputable def Mid3End (AA : Int) (g : Heap) (L' : Addr) (s : Shared) (news : List (Addr × Obj)) (a3 b b2 n : Int) (t1 t2 t3 t4 : Tok) (f : Flow) (s' : Shared) : Prop := f = .next ∧ ∃ q r t5 t6 h tk u, s' = { s with heap := h, toks := tk } ∧ Mid3 AA a3 b b2 n q r ∧ Fr g L' h (kstB u (mid3Ps a3 b b2 n q r t1 t2 t3 t4 t5 t6)) ∧ News g L' h news
theorem Mid3End.intro {AA : Int} {g : Heap} {L' : Addr} {s : Shared} {news nx : List (Addr × Obj)} {a3 b b2 n q r : Int} {t1 t2 t3 t4 t5 t6 : Tok} {h : Heap} {tk : Nat} {m : Str → Option Value} (F : Fr g L' h m) (N : News g L' h nx) (hs : ∀ p ∈ news, p ∈ nx) (hM : Mid3 AA a3 b b2 n q r) (hv : ∀ p ∈ mid3Ps a3 b b2 n q r t1 t2 t3 t4 t5 t6, m p.1 = some p.2) : Mid3End AA g L' s news a3 b b2 n t1 t2 t3 t4 .next { s with heap := h, toks := tk } := by
  refine ⟨rfl, q, r, t5, t6, h, tk, m, rfl, hM, ?_, news_sub N hs⟩
  have em : kstB m (mid3Ps a3 b b2 n q r t1 t2 t3 t4 t5 t6) = m := by funext y; exact kstB_eq hv fun _ => rfl
  rw [em]; exact F
theorem mid3_cut {AA : Int} {M : Model} {A : Around} {st : Stmt} {env : Env} {E : Value → Shared → Prop} {Q : Flow → Shared → Prop} {g : Heap} {L' : Addr} {s : Shared} {m : Str → Option Value} {news : List (Addr × Obj)} {a3 b b2 n : Int} {t1 t2 t3 t4 : Tok} (_F : Fr g L' s.heap m) (_N : News g L' s.heap news)
    (h1 : wpAny M A (exec st env) (Mid3End AA g L' s news a3 b b2 n t1 t2 t3 t4) E s)
    (h2 : ∀ q r t5 t6 h tk u, Mid3 AA a3 b b2 n q r → Fr g L' h (kstB u (mid3Ps a3 b b2 n q r t1 t2 t3 t4 t5 t6)) → News g L' h news → Q .next { s with heap := h, toks := tk }) : wpAny M A (exec st env) Q E s :=
  wpAny_mono h1 (fun f s' h9 => by
    obtain ⟨rfl, q, r, t5, t6, h, tk, u, rfl, hM, F', N'⟩ := h9
    exact h2 _ _ _ _ _ _ _ hM F' N') fun _ _ h9 => h9
local macro_rules | `(tactic| walk_at "exec If Compare cons cons") => `(tactic| (k_here; refine hold ?_))
theorem d3_of {w : World} {base : Heap} {k : Nat} (C : D2At w base k) (news : List (Addr × Obj)) (a12 a3 b b1 b2 n : Int) (t1 t2 t3 t4 t5 t6 : Tok) (hpre : Pre3 a12 a3 b b1 b2 n) (hn : n ≤ 4000 * 2 ^ k) (hk30 : n ≤ 30000) :
    CallO w base news (2 * k + 2) (8 * (2 * k + 2)) 45 [.int a12 t1, .int a3 t2, .int b t3, .int b1 t4, .int b2 t5, .int n t6] (IsQuot (a12 * 2 ^ n.toNat + a3) b) := by
  have dummy : (fun (_ : OpenLaw) (_ : Params → Frag) => True) PySem.Challenge.rw_rl0045_02 hd2.heap_39 := by k_fill; trivial
  clear dummy
  have hn0 := hpre.n0
  obtain ⟨hA0, hA, hbs, has⟩ := hpre.small
  have hb := hpre.bpos
  have hb1 := hpre.b1pos
  have z1 : Builtin.Int.intBits 1 = 1 := by decide +kernel
  have z2 := bits_le hpre.d0 hpre.d1
  have z3 := bits_le (Int.le_of_lt hb1) hpre.hi
  have z5 : Builtin.Int.intBits (1 * 2 ^ n.toNat - 1) ≤ n.toNat := bits_le (by have := pow_pos' n.toNat; (first | lia | omega)) (by (first | lia | omega))
  have z6 : Builtin.Int.intBits (a12 - b1 * 2 ^ n.toNat + b1) ≤ 100000 := by
    have e1 := hpre.be
    have e2 := hpre.d0
    have e3 := hpre.hi
    have e4 := pow_le_pow2 (show n.toNat ≤ 2 * n.toNat by (first | lia | omega))
    have e5 : (2 : Int) ^ (2 * n.toNat + 2) = 2 ^ (2 * n.toNat) * 4 := by rw [Int.pow_add]; rfl
    refine Nat.le_trans (m := 2 * n.toNat + 2) (intBits_le_iff.mpr ?_) (by (first | lia | omega))
    have e6 := pow_toNat (2 * n.toNat + 2)
    have e7 := hpre.a0
    have e8 : 0 < b1 * 2 ^ n.toNat := Int.mul_pos hb1 (pow_pos' _)
    (first | lia | omega)
  intro p loose mean mg mb dp un gd cn cs ad ccd cl outer A₀ h₀ L m s Q E B F X N T hk hd hu hret
  refine wpAny_call ?_
  k_dflt cell_enter
  k_steps
  unfold Hold
  k_dflt (refine' mid3_cut (AA := a12 * 2 ^ n.toNat + a3) (a3 := a3) (b := b) (b2 := b2) (n := n) (t1 := t2) (t2 := t3) (t3 := t5) (t4 := t6) ?w1 ?w2 ?_ ?_; (case w1 => k_asm); (case w2 => k_asm))
  · refine wpAny_If ?_
    k_steps
    · -- a12 >> n == b1
      rename (_ = b1) => he
      have hN := near_top hpre he
      exact Mid3End.intro (by k_asm) (by k_asm) (by walk_at "sub_all") ⟨hN.1, by (first | lia | omega), by (first | lia | omega), hN.2⟩ (by walk_at "vals_all")
    · unfold Hold
      k_dflt (refine' use_d2 C ?k2 hn ?k4 ?k5 ?k6 ?k7 ?k8 ?k9 ?kd ?ku ?_; (case k2 => exact pre2_inner (by assumption) (by assumption)); (case k4 => k_asm); (case k5 => k_asm); (case k6 => k_asm); (case k7 => k_asm); (case k8 => k_asm); (case k9 => exact rfl); (case kd => ktr_room); (case ku => ktr_units); k_whole)
      intro o5 q5 r5 t9 u5 h5 tk5 F5 N5 l5 hq hq0 hqb hrb
      k_steps
      have hN := near_mid hpre hq
      exact Mid3End.intro (by k_asm) (by k_asm) (by walk_at "sub_all") ⟨hq.2.1, by assumption, by assumption, hN⟩ (by walk_at "vals_all")
  · intro q0 r0 t7 t8 h4 tk4 u4 hM F4 N4
    obtain ⟨hr0, hqb, hrb, hN⟩ := hM
    k_steps
    unfold Hold
    k_dflt (refine' fixLoop (AA := a12 * 2 ^ n.toNat + a3) (b := b) ?v1 ?v2 ?v3 ?v4 ?_ ?_; (case v1 => k_asm); (case v2 => k_asm); (case v3 => exact rfl); (case v4 => exact rfl))
    · rw [bitOr_shift _ hr0 hpre.c0 hpre.c1]; exact hN
    · intro q t r u uu h tk hP F' N'
      k_steps
      · exact SEnd.intro (q - 1, _, r + b, _) (by k_asm) (by k_asm) (List.forall_mem_nil _) (fun _ h9 => h9) (fun _ _ _ h9 => nomatch h9) (by walk_at "vals_all")
          (fun z _ hp _ => by have h1 := hp _ (.head _); have h2 := hp _ (.tail _ (.head _)); dsimp only at h1 h2; simp only [nm, kstB, h1, h2, if_false, List.contains_nil, Bool.false_eq_true]) ⟨near_turn hP (by assumption), by dsimp only; (first | lia | omega)⟩
      · have hQ := near_end hP (by assumption)
        have hz := bits_of_quot hQ hA0 hA
        exact hret _ _ _ _ (by k_asm) (news_sub (by k_asm) (by walk_at "sub_all")) (by walk_at "lt_all") ⟨_, _, _, _, rfl, hQ, hz.1, by (first | lia | omega), by (first | lia | omega)⟩

noncomputable def D3At (w : World) (base : Heap) (k : Nat) : Prop := ∀ (news : List (Addr × Obj)) (a12 a3 b b1 b2 n : Int) (t1 t2 t3 t4 t5 t6 : Tok), Pre3 a12 a3 b b1 b2 n → n ≤ 4000 * 2 ^ k → n ≤ 30000 →
    CallO w base news (2 * k + 2) (8 * (2 * k + 2)) 45 [.int a12 t1, .int a3 t2, .int b t3, .int b1 t4, .int b2 t5, .int n t6] (IsQuot (a12 * 2 ^ n.toNat + a3) b)
theorem use_d3 {w : World} {base : Heap} {k : Nat} {news : List (Addr × Obj)} {a12 a3 b b1 b2 n : Int} {t1 t2 t3 t4 t5 t6 : Tok} {p : Program} {loose : List Str} {mean : ExcName → Option Value} {mg mb : Str → Option Value} {dp un : Nat} {gd : Option (List Code)} {cn : Str} {cs : Scope} {a : Addr} {ccd : Value} {cl : List (Str × Addr)} {outer : List Env} {A₀ : Around} {h₀ : Heap} {L : Addr} {m : Str → Option Value} {s : Shared} {Q E : Value → Shared → Prop}
    (C : D3At w base k) (pre : Pre3 a12 a3 b b1 b2 n) (hn : n ≤ 4000 * 2 ^ k ∧ n ≤ 30000) (B : Below A₀ base outer h₀) (F : Fr h₀ L s.heap m) (X : (hd2.heap_39 w.params).In h₀) (N : News h₀ L s.heap news) (T : Top p loose mean mg mb h₀) (hk : cs.kind = .function)
    (hd : dp + (2 * k + 2) < recursionLimit) (hu : un + 8 * (2 * k + 2) < cLine)
    (h : ∀ o q r t u h' tk', Fr h₀ L h' m → News h₀ L h' ((o, pairO q t r u) :: news) → (∀ p ∈ news, p.1 < o) → Quot (a12 * 2 ^ n.toNat + a3) b q r → 0 ≤ q → Builtin.Int.intBits q ≤ 100000 → Builtin.Int.intBits r ≤ 100000 → Q (.ref o) { s with heap := h', toks := tk' }) :
    wpAny (model PySem.Challenge.rw_rl0045_02.row.prog w) (ktrTop dp un gd cn cs L a ccd cl outer) (call (.ref 45) [.int a12 t1, .int a3 t2, .int b t3, .int b1 t4, .int b2 t5, .int n t6]) Q E s :=
  useO (C news a12 a3 b b1 b2 n t1 t2 t3 t4 t5 t6 pre hn.1 hn.2) B F X N T hk hd hu fun q o h' tk' F' N' l ⟨q1, r1, t, u, e, hq, h1, h2, h3⟩ => by subst e; exact h q q1 r1 t u h' tk' F' N' l hq h1 h2 h3

local macro_rules | `(tactic| walk_at "inplaceOp LShift int int") => `(tactic| (k_here; k_dflt (refine' ilshift_int ?k1 ?k2 ?_; (case k1 => lia); (case k2 => lia); k_whole)))

theorem truthy_int_f {prog : Program} {w : World} {A : Around} {E : Value → Shared → Prop} {s : Shared} {i : Int} {t : Tok} {Q : Bool → Shared → Prop} (h : i = 0) (hq : Q false s) : wpAny (model prog w) A (truthy (.int i t)) Q E s :=
  PyProof.Rows.truthy_int (by rw [h]; exact hq)
theorem truthy_int_t {prog : Program} {w : World} {A : Around} {E : Value → Shared → Prop} {s : Shared} {i : Int} {t : Tok} {Q : Bool → Shared → Prop} (h : i ≠ 0) (hq : Q true s) : wpAny (model prog w) A (truthy (.int i t)) Q E s :=
  PyProof.Rows.truthy_int (by rw [bne_iff_ne.mpr h]; exact hq)
local macro_rules | `(tactic| walk_at "truthy int") => `(tactic| (k_here; k_dflt (first | (refine' truthy_int_f ?k1 ?_; (case k1 => lia); k_whole) | (refine' truthy_int_t ?k1 ?_; (case k1 => lia); k_whole))))

/-- behind the padding: an even width -/
noncomputable def Mid (k : Nat) (a b n a' b' n' : Int) : Prop := Pre2 a' b' n' ∧ n' % 2 = 0 ∧ n' ≤ 4000 * 2 ^ (k + 1) ∧ n' ≤ 32000 ∧ ∀ q r, Quot a' b' q r → (n % 2 = 0 → Quot a b q r) ∧ (n % 2 ≠ 0 → Quot a b q (r.fdiv (2 ^ Int.toNat 1)))
theorem mid_even {k : Nat} {a b n : Int} (hp : Pre2 a b n) (he : n % 2 = 0) (h1 : n ≤ 4000 * 2 ^ (k + 1)) (h2 : n ≤ 32000) : Mid k a b n a b n := ⟨hp, he, h1, h2, fun _ _ h => ⟨fun _ => h, fun h9 => absurd he h9⟩⟩
theorem mid_odd {k : Nat} {a b n : Int} (hp : Pre2 a b n) (he : n % 2 ≠ 0) (h1 : n ≤ 4000 * 2 ^ (k + 1)) (h2 : n ≤ 32000) : Mid k a b n (a * 2 ^ Int.toNat 1) (b * 2 ^ Int.toNat 1) (n + 1) :=
  ⟨pre2_pad hp, by (first | lia | omega), by rw [Int.pow_succ] at h1 ⊢; (first | lia | omega), by (first | lia | omega), fun _ _ h => ⟨fun h9 => absurd h9 he, fun _ => quot_pad h⟩⟩
noncomputable abbrev midPs (a' b' n' : Int) (t1 t2 t3 : Tok) (pd : Value) : List (Str × Value) := [(Str.ofString "a", .int a' t1), (Str.ofString "b", .int b' t2), (Str.ofString "n", .int n' t3), (Str.ofString "pad", pd)]
noncomputable def MidEnd (k : Nat) (g : Heap) (L' : Addr) (s : Shared) (news : List (Addr × Obj)) (a b n : Int) (pd : Value) (f : Flow) (s' : Shared) : Prop := f = .next ∧ ∃ a' b' n' t1 t2 t3 h tk u, s' = { s with heap := h, toks := tk } ∧ Mid k a b n a' b' n' ∧ Fr g L' h (kstB u (midPs a' b' n' t1 t2 t3 pd)) ∧ News g L' h news
theorem MidEnd.intro {k : Nat} {g : Heap} {L' : Addr} {s : Shared} {news : List (Addr × Obj)} {a b n a' b' n' : Int} {pd : Value} {t1 t2 t3 : Tok} {h : Heap} {tk : Nat} {m : Str → Option Value} (F : Fr g L' h m) (N : News g L' h news) (hM : Mid k a b n a' b' n') (hv : ∀ p ∈ midPs a' b' n' t1 t2 t3 pd, m p.1 = some p.2) : MidEnd k g L' s news a b n pd .next { s with heap := h, toks := tk } := by
  refine ⟨rfl, a', b', n', t1, t2, t3, h, tk, m, rfl, hM, ?_, N⟩
  have em : kstB m (midPs a' b' n' t1 t2 t3 pd) = m := by funext y; exact kstB_eq hv fun _ => rfl
  rw [em]; exact F
theorem mid_cut {k : Nat} {M : Model} {A : Around} {st : Stmt} {env : Env} {E : Value → Shared → Prop} {Q : Flow → Shared → Prop} {g : Heap} {L' : Addr} {s : Shared} {m : Str → Option Value} {news : List (Addr × Obj)} {a b n : Int} (F : Fr g L' s.heap m) (N : News g L' s.heap news) {pd : Value} (hpd : m (Str.ofString "pad") = some pd)
    (h1 : wpAny M A (exec st env) (MidEnd k g L' s news a b n pd) E s)
    (h2 : ∀ a' b' n' t1 t2 t3 h tk u, Mid k a b n a' b' n' → Fr g L' h (kstB u (midPs a' b' n' t1 t2 t3 pd)) → News g L' h news → Q .next { s with heap := h, toks := tk }) : wpAny M A (exec st env) Q E s :=
  wpAny_mono h1 (fun f s' h9 => by
    obtain ⟨rfl, a', b', n', t1, t2, t3, h, tk, u, rfl, hM, F', N'⟩ := h9
    exact h2 _ _ _ _ _ _ _ _ _ hM F' N') fun _ _ h9 => h9
local macro_rules | `(tactic| walk_at "exec If Name cons nil") => `(tactic| (k_here; refine hold ?_))
theorem d2_of {w : World} {base : Heap} {k : Nat} (hk5 : k ≤ 2) (C : D3At w base k) : D2At w base (k + 1) := by
  intro news a b n ta tb tn hpre hn
  have dummy : (fun (_ : OpenLaw) (_ : Params → Frag) => True) PySem.Challenge.rw_rl0045_02 hd2.heap_39 := by k_fill; trivial
  clear dummy
  have hb := hpre.b0
  have ha := hpre.a0
  have hn0 := hpre.n0
  have hpow : n ≤ 32000 := by
    have : (2 : Int) ^ (k + 1) ≤ 2 ^ 3 := pow_le_pow2 (by (first | lia | omega))
    have e : (2 : Int) ^ 3 = 8 := rfl
    (first | lia | omega)
  have hsm := bits_le ha hpre.small
  have z1 : Builtin.Int.intBits 1 = 1 := by decide +kernel
  have hbb : Builtin.Int.intBits b = n.toNat := by
    have h1 := bits_le (Int.le_of_lt hb) hpre.hi
    apply Nat.le_antisymm h1
    apply Nat.le_of_not_lt
    intro hl
    have h2 : Builtin.Int.intBits b ≤ n.toNat - 1 := by (first | lia | omega)
    have h3 := intBits_le_iff.mp h2
    have h4 := hpre.lo
    have := pow_toNat (n.toNat - 1)
    (first | lia | omega)
  have hq := Quot.of_div (a := a) hb
  have hz := bits_of_quot hq ha hpre.small
  have bm : Builtin.bitAnd n 1 = n % 2 := bitAnd_m1 n
  intro p loose mean mg mb dp un gd cn cs ad ccd cl outer A₀ h₀ L m s Q E B F X N T hk hd hu hret
  refine wpAny_call ?_
  k_dflt cell_enter
  have d2end : ∀ {q' r' : Int} {t u : Tok}, Quot a b q' r' → IsQuot a b (pairO q' t r' u) := fun {q' r' t u} hQ => by
    have hz' := bits_of_quot hQ ha hpre.small
    exact ⟨q', r', t, u, rfl, hQ, hz'.1, by (first | lia | omega), by (first | lia | omega)⟩
  k_steps
  · unfold Hold
    k_dflt (refine' divmod_K ?dk1 ?dk2 ?dk3 ?_ ?dk4; (case dk1 => k_asm); (case dk2 => k_asm); (case dk3 => (first | lia | omega)); (case dk4 => exact noPylong (by (first | lia | omega)) (by (first | lia | omega))); k_whole)
    intro q' t' h' tk' F' N' l'
    k_steps
    exact hret _ _ _ _ (by k_asm) (by k_asm) (by walk_at "lt_all") (d2end hq)
  · unfold Hold
    k_dflt (refine' mid_cut (k := k) (a := a) (b := b) (n := n) ?w1 ?w2 ?w3 ?_ ?_; (case w1 => k_asm); (case w2 => k_asm); (case w3 => exact Eq.refl (some _)))
    · refine wpAny_If ?_
      by_cases hev : n % 2 = 0
      · k_steps
        exact MidEnd.intro (by k_asm) (by k_asm) (mid_even hpre hev hn hpow) (by walk_at "vals_all")
      · k_steps
        exact MidEnd.intro (by k_asm) (by k_asm) (mid_odd hpre hev hn hpow) (by walk_at "vals_all")
    · intro a' b' n' t1 t2 t3 h3 tk3 u3 hM F3 N3
      obtain ⟨hpre', hev', hn1, hn2, hend⟩ := hM
      have hn0' := hpre'.n0
      have hh : 0 ≤ n'.fdiv (2 ^ Int.toNat 1) := by have := (two_half hn0' hev').2.1; (first | lia | omega)
      have hh2 : n'.fdiv (2 ^ Int.toNat 1) ≤ 4000 * 2 ^ k ∧ n'.fdiv (2 ^ Int.toNat 1) ≤ 30000 := by
        have e := fdiv_pow n' 1
        have e2 : (2 : Int) ^ (k + 1) = 2 ^ k * 2 := Int.pow_succ ..
        rw [show Int.toNat 1 = 1 from rfl, e]; (first | lia | omega)
      have hp3 := pre3_first hpre' hev'
      k_steps
      unfold Hold
      k_dflt (refine' use_d3 C hp3 hh2 ?k4 ?k5 ?k6 ?k7 ?k8 ?k9 ?kd ?ku ?_; (case k4 => k_asm); (case k5 => k_asm); (case k6 => k_asm); (case k7 => k_asm); (case k8 => k_asm); (case k9 => exact rfl); (case kd => ktr_room); (case ku => ktr_units); k_whole)
      intro o5 q5 r5 t5 u5 h5 tk5 F5 N5 l5 hq5 hq6 hq7 hq8
      k_steps
      unfold Hold
      k_dflt (refine' use_d3 C (pre3_second hpre' hev' hq5) hh2 ?k4 ?k5 ?k6 ?k7 ?k8 ?k9 ?kd ?ku ?_; (case k4 => k_asm); (case k5 => k_asm); (case k6 => k_asm); (case k7 => k_asm); (case k8 => k_asm); (case k9 => exact rfl); (case kd => ktr_room); (case ku => ktr_units); k_whole)
      intro o6 q6 r6 t6 u6 h6 tk6 F6 N6 l6 hr5 hr6 hr7 hr8
      k_steps
      unfold Hold
      have hQ := hend _ _ (quot_join hpre' hev' hq5 hr5)
      refine wpAny_If ?_
      by_cases hev : n % 2 = 0
      · k_steps
        exact hret _ _ _ _ (by k_asm) (news_sub (by k_asm) (by walk_at "sub_all")) (by walk_at "lt_all") (d2end (hQ.1 hev))
      · k_steps
        exact hret _ _ _ _ (by k_asm) (news_sub (by k_asm) (by walk_at "sub_all")) (by walk_at "lt_all") (d2end (hQ.2 hev))

theorem d2_all {w : World} {base : Heap} : D2At w base 2 :=
  have h0 : D2At w base 0 := d2_zero
  have h1 : D2At w base 1 := d2_of (by (first | lia | omega)) fun news a12 a3 b b1 b2 n t1 t2 t3 t4 t5 t6 hp hn h3 => d3_of h0 news a12 a3 b b1 b2 n t1 t2 t3 t4 t5 t6 hp hn h3
  d2_of (by (first | lia | omega)) fun news a12 a3 b b1 b2 n t1 t2 t3 t4 t5 t6 hp hn h3 => d3_of h1 news a12 a3 b b1 b2 n t1 t2 t3 t4 t5 t6 hp hn h3
end
section
theorem fresh2 : True := by
  w_top off
  trivial
/-- a call of a def of the text, its ledger told whole -/
noncomputable abbrev CallL (w : World) (base : Heap) (news : List (Addr × Obj)) (d u : Nat) (f : Addr) (vs : List Value) (R : Value → List (Addr × Obj) → Prop) : Prop :=
  ∀ (p : Program) (loose : List Str) (mean : ExcName → Option Value) (mg mb : Str → Option Value) (dp un : Nat) (gd : Option (List Code)) (cn : Str) (cs : Scope) (a : Addr) (ccd : Value) (cl : List (Str × Addr)) (outer : List Env) (A₀ : Around) (h₀ : Heap) (L : Addr) (m : Str → Option Value) (s : Shared) (Q E : Value → Shared → Prop),
    Below A₀ base outer h₀ → Fr h₀ L s.heap m → (hd2.heap_39 w.params).In h₀ → News h₀ L s.heap news → Top p loose mean mg mb h₀ → cs.kind = .function →
    dp + d < recursionLimit → un + u < cLine →
    (∀ v nx h' tk', Fr h₀ L h' m → News h₀ L h' nx → R v nx → Q v { s with heap := h', toks := tk' }) →
    wpAny (model PySem.Challenge.rw_rl0045_02.row.prog w) (ktrTop dp un gd cn cs L a ccd cl outer) (call (.ref f) vs) Q E s

theorem useL {w : World} {base : Heap} {news : List (Addr × Obj)} {d u : Nat} {f : Addr} {vs : List Value} {p : Program} {loose : List Str} {mean : ExcName → Option Value} {mg mb : Str → Option Value} {dp un : Nat} {gd : Option (List Code)} {cn : Str} {cs : Scope} {a : Addr} {ccd : Value} {cl : List (Str × Addr)} {outer : List Env} {A₀ : Around} {h₀ : Heap} {L : Addr} {m : Str → Option Value} {s : Shared} {Q E : Value → Shared → Prop}
    {R : Value → List (Addr × Obj) → Prop} (C : CallL w base news d u f vs R) (B : Below A₀ base outer h₀) (F : Fr h₀ L s.heap m) (X : (hd2.heap_39 w.params).In h₀) (N : News h₀ L s.heap news) (T : Top p loose mean mg mb h₀) (hk : cs.kind = .function)
    (hd : dp + d < recursionLimit) (hu : un + u < cLine) (h : ∀ v nx h' tk', Fr h₀ L h' m → News h₀ L h' nx → R v nx → Q v { s with heap := h', toks := tk' }) :
    wpAny (model PySem.Challenge.rw_rl0045_02.row.prog w) (ktrTop dp un gd cn cs L a ccd cl outer) (call (.ref f) vs) Q E s := C _ _ _ _ _ _ _ _ _ _ _ _ _ _ _ _ _ _ _ _ _ B F X N T hk hd hu h

/-- the table of a def's own defs: not asked yet, or asked once -/
inductive TabSt (P : Addr) (qual : Str) (li co : Int) : List (Addr × Obj) → Prop
  | none : TabSt P qual li co [(P, tabObj #[])]
  | some {c : Addr} {oc : Obj} {vs : Array Value} {t : Tok} : oc.data = .fields vs → vs[1]? = some (.str qual t) → P < c → TabSt P qual li co [(P, tabObj #[.int li 0, .int co 0, .ref c]), (c, oc)]

/-- what a table's part may become -/
noncomputable def Grow (P : Addr) (T T' rest : List (Addr × Obj)) : Prop := ∀ p ∈ T', p ∈ T ∨ p.1 = P ∨ ∀ r ∈ rest, r.1 < p.1
noncomputable abbrev qualD : Str := Str.ofString "_digits2int" ++ Str.ofString ".<locals>." ++ Str.ofString "inner"
noncomputable abbrev qualI : Str := Str.ofString "_int2digits" ++ Str.ofString ".<locals>." ++ Str.ofString "inner"
noncomputable abbrev TabD (T : List (Addr × Obj)) : Prop := TabSt 54 qualD 48 4 T
noncomputable abbrev TabI (T : List (Addr × Obj)) : Prop := TabSt 47 qualI 33 4 T

theorem allNe_of_lt {l : List (Addr × Obj)} {d e : Nat} (h : ∀ p ∈ l, p.1 < d) (hde : d ≤ e) : ∀ p ∈ l, p.1 ≠ e := fun p hp => Nat.ne_of_lt (Nat.lt_of_lt_of_le (h p hp) hde)
theorem with_news {h₀ h : Heap} {L : Addr} {news : List (Addr × Obj)} {Z : Prop} (N : News h₀ L h news) (k : ∀ l, l = news → News h₀ L h l → Z) : Z := k news rfl N
end
section
local macro_rules | `(tactic| walk_at "zz0") => `(tactic| skip)
theorem fresh3 : True := by
  w_top off
  trivial
theorem updF_app {P : Addr} {o : Obj} {rest : List (Addr × Obj)} (hr : ∀ q ∈ rest, q.1 ≠ P) : ∀ {front : List (Addr × Obj)}, (∀ q ∈ front, q.1 ≠ P) → UpdF P o (front ++ (P, o) :: rest) (fun o' => front ++ (P, o') :: rest)
  | [], _ => .head hr
  | x :: front, h => .tail (h x (.head _)) (updF_app hr fun q hq => h q (.tail _ hq))
theorem TabSt.key0 {P : Addr} {qual : Str} {li co : Int} {T : List (Addr × Obj)} (h : TabSt P qual li co T) : ∃ o, (P, o) ∈ T := by cases h <;> exact ⟨_, .head _⟩
theorem lt_up {T : List (Addr × Obj)} {d k : Nat} (h : ∀ r ∈ T, r.1 < d) (hk : d < k) : ∀ r ∈ T, r.1 < k := fun r hr => Nat.lt_trans (h r hr) hk
/-- a nested def is made: its code is there already, or it is made now -/
theorem nest_any {M : Model} {A : Around} {E : Value → Shared → Prop} {s : Shared} {h₀ : Heap} {L a c P : Addr} {m mg mb : Str → Option Value} {cn : Str} {cs : Scope} {ccd : Value} {cl : List (Str × Addr)} {p : Program} {loose : List Str} {mean : ExcName → Option Value} {name qual : Str} {params : Arguments} {body : List Stmt} {scope : Scope} {pos : Pos} {firstLine : Nat} {clos : List (Str × Addr)}
    {Q : Value → Shared → Prop} {front rest T : List (Addr × Obj)} {li co : Int} (hT : TabSt P qual li co T) (F : Fr h₀ L s.heap m) (N : News h₀ L s.heap (front ++ (T ++ rest))) (Tp : Top p loose mean mg mb h₀) (C : CodeHd h₀ c P) (hcd : ccd = .ref c)
    (hrP : ∀ q ∈ rest, q.1 ≠ P) (hft : ∀ q ∈ front, ∀ r ∈ T, r.1 < q.1) (hli : (pos.line : Int) = li) (hco : (pos.col : Int) = co)
    (hcl : closureFor scope (envX cn cs L a ccd cl) = pure clos)
    (h : ∀ f c' oc vs t ctv doc h' tk, Fr h₀ L h' m →
      News h₀ L h' ((f, fnMade name qual params body scope clos doc ((mg "__name__").getD .none) c' ctv) :: (front ++ ((P, tabObj #[.int li 0, .int co 0, .ref c']) :: (c', oc) :: rest))) →
      oc.data = .fields vs → vs[1]? = some (.str qual t) → P < c' → ((c', oc) ∈ T ∨ ∀ r ∈ rest, r.1 < c') → (∀ q ∈ front, (@Ne Nat q.1 c') ∧ (@Ne Nat q.1 P) ∧ @LT.lt Nat instLTNat q.1 f) → (∀ q ∈ rest, q.1 < f) → (@LT.lt Nat instLTNat c' f) → (@LT.lt Nat instLTNat P f) → Q (.ref f) { s with heap := h', toks := tk }) :
    wpAny M A (makeFunction name qual params (.stmts body) scope (envX cn cs L a ccd cl) [] [] [] pos firstLine) Q E s := by
  subst hli hco
  cases hT with
  | none =>
    have hfP : ∀ q ∈ front, q.1 ≠ P := fun q hq => Nat.ne_of_gt (hft q hq _ (.head _))
    refine nest_K F N Tp C hcd (updF_app hrP hfP) (by simp [TriplesOk]) rfl hcl ?_
    intro f c' oc vs t ctv doc h' tk F' N' d1 d2 l1 l2
    have hP1 : P < c' := l1 (P, tabObj #[]) (List.mem_append.mpr (.inr (.head _)))
    refine h f c' oc vs t ctv doc h' tk F' (news_sub N' fun q hq => ?_) d1 d2 hP1 (.inr fun r hr => l1 r (List.mem_append.mpr (.inr (.tail _ hr)))) (fun q hq => ?_) (fun q hq => Nat.lt_trans (l1 q (List.mem_append.mpr (.inr (.tail _ hq)))) l2) l2 (Nat.lt_trans hP1 l2)
    · rcases List.mem_cons.mp hq with rfl | hq
      · exact .head _
      · rcases List.mem_append.mp hq with hq | hq
        · exact .tail _ (.tail _ (List.mem_append.mpr (.inl hq)))
        · rcases List.mem_cons.mp hq with rfl | hq
          · exact .tail _ (.tail _ (List.mem_append.mpr (.inr (.head _))))
          · rcases List.mem_cons.mp hq with rfl | hq
            · exact .tail _ (.head _)
            · exact .tail _ (.tail _ (List.mem_append.mpr (.inr (.tail _ hq))))
    · have := l1 q (List.mem_append.mpr (.inl hq))
      exact ⟨Nat.ne_of_lt this, hfP q hq, Nat.lt_trans this l2⟩
  | @some c' oc vs t d1 d2 hlt =>
    have hfP : ∀ q ∈ front, q.1 ≠ P := fun q hq => Nat.ne_of_gt (hft q hq _ (.head _))
    refine nestHit_K (c' := c') F N Tp C hcd (List.mem_append.mpr (.inr (.head _))) (by simp [TriplesOk, rawInt]) (by simp [codeAmong, rawInt]) hcl ?_
    intro f ctv doc h' tk F' N' l1
    refine h f c' oc vs t ctv doc h' tk F' (news_sub N' fun q hq => hq) d1 d2 hlt (.inl (.tail _ (.head _))) (fun q hq => ?_) (fun q hq => l1 q (List.mem_append.mpr (.inr (.tail _ (.tail _ hq))))) (l1 _ (List.mem_append.mpr (.inr (.tail _ (.head _))))) (l1 _ (List.mem_append.mpr (.inr (.head _))))
    exact ⟨Nat.ne_of_gt (hft q hq _ (.tail _ (.head _))), hfP q hq, l1 q (List.mem_append.mpr (.inl hq))⟩
end
section
theorem fresh4 : True := by
  w_top off
  trivial
local macro_rules | `(tactic| walk_at "truthy ref") => `(tactic| (k_here; k_dflt (refine' truthy_M ?k1 ?k2 ?k3 ?_; (case k1 => k_asm); (case k2 => k_mem); (case k3 => lia); k_whole); intro tk'))
local macro_rules | `(tactic| walk_at "call builtin:len") => `(tactic| (k_here; k_dflt (refine' len_M ?k1 ?k2 ?k3 ?_; (case k1 => k_asm); (case k2 => k_mem); (case k3 => lia); k_whole); intro t' tk'))
local macro_rules | `(tactic| walk_at "binaryOp LShift int int") => `(tactic| (k_here; k_dflt (refine' lshift_int ?k1 ?k2 ?_; (case k1 => lia); (case k2 => lia); k_whole)))
local macro_rules | `(tactic| walk_at "exec FunctionDef") => `(tactic| (k_here; refine hold ?_))
local macro_rules | `(tactic| walk_at "call ref") => `(tactic| (k_here; refine hold ?_))

local macro_rules | `(tactic| walk_at "grow") => `(tactic| first | exact fun p hp => .inl hp | exact List.forall_mem_nil _ | (refine List.forall_mem_cons.mpr ⟨?_, ?_⟩; (first | exact .inr (.inl rfl) | exact .inr (.inr (by walk_at "lt_all"))); walk_at "grow"))
local macro_rules | `(tactic| k_all) => `(tactic| first | assumption | exact allNe_of_lt (by assumption) (by lia))
/-- a range cut in two: all that is asked of it -/
theorem split_facts {a b mid : Int} {k N : Nat} (h1 : a < mid) (h2 : mid < b) (h0 : 0 ≤ a) (hN : b ≤ (N : Int)) (hk : (b - a).toNat ≤ k + 1) :
    (k - 1 < k ∧ (mid - a).toNat ≤ k - 1 + 1 ∧ (b - mid).toNat ≤ k - 1 + 1) ∧ ((b - a).toNat = (mid - a).toNat + (b - mid).toNat ∧ mid.toNat = a.toNat + (mid - a).toNat ∧ a.toNat + (mid - a).toNat ≤ N) ∧ (0 ≤ mid ∧ mid ≤ (N : Int)) ∧
      (a.toNat ≤ mid.toNat ∧ mid.toNat ≤ b.toNat ∧ b.toNat ≤ N ∧ mid.toNat ≤ N) ∧ mid - a = ((mid.toNat - a.toNat : Nat) : Int) := by
  obtain ⟨x, rfl⟩ := Int.eq_ofNat_of_zero_le h0
  obtain ⟨y, rfl⟩ := Int.eq_ofNat_of_zero_le (Int.le_trans h0 (Int.le_of_lt h1))
  obtain ⟨z, rfl⟩ := Int.eq_ofNat_of_zero_le (Int.le_trans (Int.le_trans h0 (Int.le_of_lt h1)) (Int.le_of_lt h2))
  have e1 : ((z : Int) - x).toNat = z - x := by (first | lia | omega)
  have e2 : ((y : Int) - x).toNat = y - x := by (first | lia | omega)
  have e3 : ((z : Int) - y).toNat = z - y := by (first | lia | omega)
  rw [e1] at hk ⊢
  rw [e2, e3]
  simp only [Int.toNat_natCast]
  have g1 : x < y := by (first | lia | omega)
  have g2 : y < z := by (first | lia | omega)
  have g3 : z ≤ N := by (first | lia | omega)
  clear h0 h1 h2 hN e1 e2 e3
  refine ⟨⟨by (first | lia | omega), by (first | lia | omega), by (first | lia | omega)⟩, ⟨by (first | lia | omega), by (first | lia | omega), by (first | lia | omega)⟩, ⟨by (first | lia | omega), by (first | lia | omega)⟩, ⟨by (first | lia | omega), by (first | lia | omega), by (first | lia | omega), by (first | lia | omega)⟩, by (first | lia | omega)⟩
theorem room_step {dp k : Nat} (hk : k - 1 < k) (h : dp + (k + 1) < recursionLimit) : dp + 1 + (k - 1 + 1) < 1000 := by
  have e : recursionLimit = 1000 := rfl
  (first | lia | omega)
theorem units_step {un k : Nat} (hk : k - 1 < k) (h : un + 8 * (k + 1) < cLine) : un + 3 + 8 * (k - 1 + 1) < 9900 := by
  have e : cLine = 9900 := rfl
  (first | lia | omega)
theorem d2i_core {w : World} {base : Heap} (hcd : CodeHd base 58 54) (T rest : List (Addr × Obj)) (hT : TabD T) (hge : ∀ p ∈ rest, p.1 ≠ 54) (D : Addr) (vs : List Value) (ns : List Int) (nn : Nat) (n : Int) (tn : Tok)
    (hD : (D, listOf vs.toArray nn) ∈ rest) (hi : IntsAre vs ns) (hlen : ns.length ≤ 100) (hn : 0 < n) (hn2 : n ≤ 20000) (hdig : ∀ d ∈ ns, d.natAbs < 2 ^ n.toNat) :
    CallL w base (T ++ rest) 110 1000 59 [.ref D, .int n tn] (fun v nx => ∃ t T', v = .int (val n.toNat ns) t ∧ TabD T' ∧ Grow 54 T T' rest ∧ nx = T' ++ rest) := by
  have dummy : (fun (_ : OpenLaw) (_ : Params → Frag) => True) PySem.Challenge.rw_rl0045_02 hd2.heap_39 := by k_fill; trivial
  clear dummy
  have hvl := hi.length
  have hbits : ∀ x y : Nat, y ≤ ns.length → Builtin.Int.intBits (val n.toNat (cut ns x y)) ≤ 2000000 := fun x y hy => by
    refine Nat.le_trans (intBits_le_iff.mpr (val_bound n.toNat (cut ns x y) fun d hd => hdig d (cut_mem hd))) ?_
    rw [cut_length ns hy]
    have : n.toNat * (y - x) ≤ 20000 * 100 := Nat.mul_le_mul (by (first | lia | omega)) (by (first | lia | omega))
    (first | lia | omega)
  intro p loose mean mg mb dp un gd cn cs ad ccd cl outer A₀ h₀ L m s Q E B F X N T0 hk hd hu hret
  obtain ⟨TR, hTR⟩ : ∃ TR, TR = T ++ rest := ⟨_, rfl⟩
  rw [← hTR] at N
  have hDR : (D, listOf vs.toArray nn) ∈ TR := by rw [hTR]; exact List.mem_append.mpr (.inr hD)
  · skip
    refine wpAny_call ?_
    k_dflt (refine' code_defC ?k1 ?k2 ?k3 ?k4 ?k5 ?kA ?kF ?kK ?k6 ?k7 ?k8 ?k9 ?kB ?kD ?_ ?c2 ?c3 ?c4; (case kA => exact rfl); (case kF => exact rfl); (case kK => assumption); (case k1 => k_asm); (case k2 => k_asm); (case k3 => k_asm); (case k4 => k_asm); (case k5 => k_asm); (case k6 => k_is); (case k7 => k_is); (case k8 => ktr_room); (case k9 => exact BindsTo.of_eq rfl); (case kB => exact rfl); (case kD => decide +kernel); (case c2 => exact rfl); (case c3 => exact rfl); (case c4 => exact rfl); k_whole; intro g' L' h' tk' cells' FG' F' N' Y' B' X' T' l1; (try k_lt l1); k_cells Y'; (try simp only [List.cons_append, List.nil_append] at N'); (try dsimp only); (try k_lift B'); (try k_fold))
    have hLa : ∀ p ∈ TR, p.1 < L' := by walk_at "lt_all"
    have hLr : ∀ p ∈ rest, p.1 < L' := fun p hp => hLa p (by rw [hTR]; exact List.mem_append.mpr (.inr hp))
    k_steps
    unfold Hold
    k_dflt (refine' nestDef_K ?d0 ?k0 ?a0 ?_; (case d0 => exact rfl); (case k0 => exact rfl); (case a0 => exact rfl))
    rename News _ _ _ _ => NN
    rw [hTR] at NN
    have hLT : ∀ p ∈ T, p.1 < L' := fun p hp => hLa p (by rw [hTR]; exact List.mem_append.mpr (.inl hp))
    k_dflt (refine' nest_any (T := T) (rest := rest) (front := [_, _, _]) ?T9 ?F ?N ?Tp ?C ?cd ?rP ?fT ?li ?co ?cl ?_; (case T9 => exact hT); (case F => k_asm); (case N => exact NN); (case Tp => k_asm); (case cd => exact rfl); (case C => kn_code); (case rP => exact hge); (case fT => exact List.forall_mem_cons.mpr ⟨lt_up hLT (Nat.lt_add_of_pos_right (by decide : 0 < 1 + 1 + 1)), List.forall_mem_cons.mpr ⟨lt_up hLT (Nat.lt_add_of_pos_right (by decide : 0 < 1 + 1)), List.forall_mem_cons.mpr ⟨lt_up hLT (Nat.lt_succ_self _), List.forall_mem_nil _⟩⟩⟩); (case li => exact rfl); (case co => exact rfl); (case cl => exact rfl); k_whole)
    intro f c' oc vs' t' ct dc h2 tk2 F2 N2 d1 d2 hlt hg hfr hrf hcf hPf
    simp only [List.cons_append, List.nil_append] at N2
    have y1 := hfr _ (.head _)
    have y2 := hfr _ (.tail _ (.head _))
    have y3 := hfr _ (.tail _ (.tail _ (.head _)))
    dsimp only at y1 y2 y3
    have hP9 : @LT.lt Nat instLTNat 54 L' := by obtain ⟨o9, ho9⟩ := hT.key0; exact hLT _ ho9
    clear NN hLa hfr hrf
    k_steps
    · unfold Hold
      refine with_news (by k_asm) ?_
      intro NW hNW NN
      have key : ∀ (k : Nat) (a b : Int), 0 ≤ a → a < b → b ≤ (ns.length : Int) → (b - a).toNat ≤ k + 1 → ∀ tl th, CallV w base NW (k + 1) (8 * (k + 1)) f [.int a tl, .int b th] (fun v => ∃ t, v = .int (val n.toNat (cut ns a.toNat b.toNat)) t) := by
        intro k
        induction k using Nat.strongRecOn with
        | ind k IH =>
        intro a b ha hab hb hk1 tl th
        subst hNW
        clear NN
        intro p3 loose3 mean3 mg3 mb3 dp3 un3 gd3 cn3 cs3 ad3 ccd3 cl3 outer3 A3 h3 L3 m3 s3 Q3 E3 B3 F3 X3 N3 T3 hk3 hd3 hu3 hret3
        refine wpAny_call ?_
        k_dflt (refine' code_nest ?k1 ?k2 ?k3 ?k4 ?k5 ?kA ?kF ?kK ?k6 ?k7 ?k8 ?k9 ?kB ?_ ?c2 ?c3 ?c4 ?c5; (case kA => exact rfl); (case kF => exact rfl); (case kK => assumption); (case k1 => exact B3); (case k2 => exact F3); (case k3 => exact X3); (case k4 => exact N3); (case k5 => exact T3); (case k6 => k_mem); (case k7 => exact codeRec_news N3 (by k_mem) (by assumption) (by assumption)); (case k8 => ktr_room); (case k9 => exact BindsTo.of_eq rfl); (case c5 => decide); (case kB => exact locs rfl); (case c2 => exact rfl); (case c3 => exact rfl); (case c4 => exact rfl); k_whole; intro g4 L4 h4 FG4 F4 N4 B4 X4 T4; (try dsimp only); (try k_lift B4); (try k_fold))
        have hmd : a + 1 ≠ b → a < (a + b).fdiv (2 ^ Int.toNat 1) ∧ (a + b).fdiv (2 ^ Int.toNat 1) < b := fun hne => by
          rw [show Int.toNat 1 = 1 from rfl, fdiv_pow]; (first | lia | omega)
        generalize hmm : (a + b).fdiv (2 ^ Int.toNat 1) = mid at hmd
        have hz1 := hbits mid.toNat b.toNat (by (first | lia | omega))
        have hz2 : a + 1 ≠ b → 0 ≤ (mid - a) * n ∧ (mid - a) * n ≤ 2000000 := fun hne => by
          have := hmd hne
          refine ⟨Int.mul_nonneg (by (first | lia | omega)) (by (first | lia | omega)), ?_⟩
          have h1 : (mid - a) * n ≤ 100 * n := Int.mul_le_mul_of_nonneg_right (by (first | lia | omega)) (by (first | lia | omega))
          (first | lia | omega)
        rw [← hmm] at hmd hz1 hz2
        k_steps
        · rename (_ = b) => e
          have e4 : ns.getD a.toNat 0 = val n.toNat (cut ns a.toNat b.toNat) := by
            have e2 : b.toNat = a.toNat + 1 := by (first | lia | omega)
            rw [e2, cut_one ns (by (first | lia | omega))]
            simp [val]
          exact hret3 _ _ _ (by k_asm) (by k_asm) ⟨_, congrArg (Value.int · _) e4⟩
        · rename (_ ≠ b) => e
          obtain ⟨hm1, hm2⟩ := hmd e
          obtain ⟨hs1, hs2⟩ := hz2 e
          have sf := split_facts hm1 hm2 ha hb hk1
          have sk1 := sf.1.1
          have sk2 := sf.1.2.1
          have sk3 := sf.1.2.2
          have ss := sf.2.1.1
          have sm := sf.2.1.2.1
          have sN := sf.2.1.2.2
          have s0 := sf.2.2.1.1
          have sM := sf.2.2.1.2
          have sam := sf.2.2.2.1.1
          have smb := sf.2.2.2.1.2.1
          have sbN := sf.2.2.2.1.2.2.1
          have smN := sf.2.2.2.1.2.2.2
          have sdf := sf.2.2.2.2
          have sd := room_step sk1 hd3
          have su := units_step sk1 hu3
          clear sf hmd hz2
          unfold Hold
          k_dflt (refine' useV (IH (k - 1) (by (first | lia | omega)) _ _ ?u1 ?u2 ?u3 ?u4 _ _) ?u5 ?u6 ?u7 ?u8 ?u9 ?ua ?ub ?uc ?_; (case u1 => (first | lia | omega)); (case u2 => (first | lia | omega)); (case u3 => (first | lia | omega)); (case u4 => (first | lia | omega)); (case u5 => k_asm); (case u6 => k_asm); (case u7 => k_asm); (case u8 => k_asm); (case u9 => k_asm); (case ua => exact rfl); (case ub => ktr_room); (case uc => ktr_units))
          intro v5 h5 tk5 F5 N5 hv5
          obtain ⟨t5, rfl⟩ := hv5
          k_steps
          unfold Hold
          k_dflt (refine' useV (IH (k - 1) (by (first | lia | omega)) _ _ ?v1 ?v2 ?v3 ?v4 _ _) ?v5 ?v6 ?v7 ?v8 ?v9 ?va ?vb ?vc ?_; (case v1 => (first | lia | omega)); (case v2 => (first | lia | omega)); (case v3 => (first | lia | omega)); (case v4 => (first | lia | omega)); (case v5 => k_asm); (case v6 => k_asm); (case v7 => k_asm); (case v8 => k_asm); (case v9 => k_asm); (case va => exact rfl); (case vb => ktr_room); (case vc => ktr_units))
          intro v6 h6 tk6 F6 N6 hv6
          obtain ⟨t6, rfl⟩ := hv6
          k_steps
          refine hret3 _ _ _ (by k_asm) (by k_asm) ⟨_, congrArg (Value.int · _) ?_⟩
          generalize (a + b).fdiv (2 ^ Int.toNat 1) = mid at *
          rw [cut_split ns (a := a.toNat) (m := mid.toNat) (b := b.toNat) (by (first | lia | omega)) (by (first | lia | omega)) (by (first | lia | omega)), val_append, cut_length ns (by (first | lia | omega))]
          have e3 : ((mid - a) * n).toNat = n.toNat * (mid.toNat - a.toNat) := by
            have q1 : (mid - a) * n = ((n.toNat * (mid.toNat - a.toNat) : Nat) : Int) := by
              push_cast
              rw [Int.toNat_of_nonneg (by (first | lia | omega) : (0:Int) ≤ n), Int.mul_comm]
              congr 1
              all_goals (first | lia | omega)
            rw [q1]; rfl
          rw [e3, Int.mul_comm, Int.add_comm]
      k_dflt (refine' useV (key 99 _ _ ?x1 ?x2 ?x3 ?x4 _ _) ?x5 ?x6 ?x7 ?x8 ?x9 ?xa ?xb ?xc ?_; (case x1 => (first | lia | omega)); (case x2 => (first | lia | omega)); (case x3 => (first | lia | omega)); (case x4 => (first | lia | omega)); (case x5 => k_asm); (case x6 => k_asm); (case x7 => k_asm); (case x8 => exact NN); (case x9 => k_asm); (case xa => exact rfl); (case xb => ktr_room); (case xc => ktr_units))
      intro v7 h7 tk7 F7 N7 hv7
      obtain ⟨t7, rfl⟩ := hv7
      subst hNW
      clear key
      k_steps
      have e5 : val n.toNat (cut ns (Int.toNat 0) ((vs.length : Int)).toNat) = val n.toNat ns := by
        rw [show ((vs.length : Int)).toNat = ns.length by (first | lia | omega)]; exact congrArg _ (cut_all ns)
      exact hret _ _ _ _ (by k_asm) (news_sub (b := [(54, tabObj #[.int 48 0, .int 4 0, .ref c']), (c', oc)] ++ rest) (by k_asm) (by walk_at "sub_all")) ⟨_, _, congrArg (Value.int · _) e5, TabSt.some (c := c') d1 d2 hlt, List.forall_mem_cons.mpr ⟨.inr (.inl rfl), List.forall_mem_cons.mpr ⟨hg.elim .inl (fun h9 => .inr (.inr h9)), List.forall_mem_nil _⟩⟩, rfl⟩
    · rename (¬ _) => e6
      have e7 : ns = [] := by
        have : vs.length = 0 := by simpa using e6
        exact List.eq_nil_of_length_eq_zero (by (first | lia | omega))
      have e8 : (0 : Int) = val n.toNat ns := by rw [e7]; rfl
      exact hret _ _ _ _ (by k_asm) (news_sub (b := [(54, tabObj #[.int 48 0, .int 4 0, .ref c']), (c', oc)] ++ rest) (by k_asm) (by walk_at "sub_all")) ⟨_, _, congrArg (Value.int · _) e8, TabSt.some (c := c') d1 d2 hlt, List.forall_mem_cons.mpr ⟨.inr (.inl rfl), List.forall_mem_cons.mpr ⟨hg.elim .inl (fun h9 => .inr (.inr h9)), List.forall_mem_nil _⟩⟩, rfl⟩
end
section
theorem fresh5 : True := by
  w_top off
  trivial
local macro_rules | `(tactic| walk_at "exec FunctionDef") => `(tactic| (k_here; refine hold ?_))
local macro_rules | `(tactic| walk_at "call ref") => `(tactic| (k_here; refine hold ?_))
local macro_rules | `(tactic| walk_at "binaryOp LShift int int") => `(tactic| (k_here; k_dflt (refine' lshift_int ?k1 ?k2 ?_; (case k1 => lia); (case k2 => lia); k_whole)))
local macro_rules | `(tactic| walk_at "binaryOp FloorDiv int int") => `(tactic| (k_here; refine hold ?_))
local macro_rules | `(tactic| walk_at "call builtin:len") => `(tactic| (k_here; k_dflt (refine' len_M ?k1 ?k2 ?k3 ?_; (case k1 => k_asm); (case k2 => k_mem); (case k3 => lia); k_whole); intro t' tk'))
local macro_rules | `(tactic| walk_at "binaryOp Mult ref int") => `(tactic| (k_here; refine hold ?_))
local macro_rules | `(tactic| walk_at "grow") => `(tactic| first | exact fun p hp => .inl hp | exact List.forall_mem_nil _ | (refine List.forall_mem_cons.mpr ⟨?_, ?_⟩; (first | exact .inr (.inl rfl) | exact .inr (.inr (by walk_at "lt_all"))); walk_at "grow"))
local macro_rules | `(tactic| k_all) => `(tactic| first | assumption | exact allNe_of_lt (by assumption) (by lia))

inductive PutR (G : Obj → List (Addr × Obj)) (to : List Int) : Value → List (Addr × Obj) → Prop
  | mk (us' : List Value) (ns' : List Int) (h : IntsAre us' ns') (e : ns' = to) : PutR G to .none (G (listOf us'.toArray 0))
theorem len_facts {m : Nat} {F K : Int} (h : m = F.toNat) (h0 : 0 ≤ F ∧ F ≤ 100) (hp : 0 < F) (e : F = K) :
    m < 2 ^ 62 ∧ 0 < (m : Int) ∧ (m : Int) ≤ K ∧ ((m : Int) - 0).toNat ≤ 99 + 1 ∧ (m : Int) = K ∧ ((m : Int) - 0).toNat = F.toNat ∧ ((F.toNat : Nat) : Int) = K ∧ K ≤ 100 := by
  subst e
  have e1 : (m : Int) = F := by rw [h]; exact Int.toNat_of_nonneg h0.1
  have e2 : m ≤ 100 := by (first | lia | omega)
  refine ⟨by (first | lia | omega), by (first | lia | omega), by (first | lia | omega), by (first | lia | omega), e1, ?_, Int.toNat_of_nonneg h0.1, h0.2⟩
  rw [Int.sub_zero, e1]
theorem i2d_core {w : World} {base : Heap} (hcd : CodeHd base 51 47) (T rest : List (Addr × Obj)) (hT : TabI T) (hge : ∀ p ∈ rest, p.1 ≠ 47) (x n : Int) (tx tn : Tok)
    (hx : 0 ≤ x) (hn : 0 < n) (hn2 : n ≤ 20000) (hlen : (Builtin.Int.intBits x : Int) ≤ 99 * n) :
    CallL w base (T ++ rest) 110 1000 52 [.int x tx, .int n tn] (fun v nx => ∃ q us T', v = .ref q ∧ IntsAre us (digs n.toNat (((Builtin.Int.intBits x : Int) + n - 1).fdiv n).toNat x) ∧ TabI T' ∧ Grow 47 T T' rest ∧ nx = (q, listOf us.toArray 0) :: (T' ++ rest) ∧ (∀ r ∈ rest, r.1 < q) ∧ ∀ r ∈ T', r.1 ≠ q) := by
  have dummy : (fun (_ : OpenLaw) (_ : Params → Frag) => True) PySem.Challenge.rw_rl0045_02 hd2.heap_39 := by k_fill; trivial
  clear dummy
  have hk0 : 0 ≤ ((Builtin.Int.intBits x : Int) + n - 1).fdiv n ∧ ((Builtin.Int.intBits x : Int) + n - 1).fdiv n ≤ 100 := by
    rw [Int.fdiv_eq_ediv_of_nonneg _ (by (first | lia | omega))]
    refine ⟨Int.ediv_nonneg (by (first | lia | omega)) (by (first | lia | omega)), ?_⟩
    have : ((Builtin.Int.intBits x : Int) + n - 1) / n < 101 := (Int.ediv_lt_iff_lt_mul hn).mpr (by (first | lia | omega))
    (first | lia | omega)
  obtain ⟨K, hKK⟩ : ∃ K, ((Builtin.Int.intBits x : Int) + n - 1).fdiv n = K := ⟨_, rfl⟩
  rw [hKK]
  rw [hKK] at hk0
  have hKpos : x ≠ 0 → 0 < ((Builtin.Int.intBits x : Int) + n - 1).fdiv n := fun h => by
    rw [Int.fdiv_eq_ediv_of_nonneg _ (by (first | lia | omega))]
    have : 1 ≤ ((Builtin.Int.intBits x : Int) + n - 1) / n := (Int.le_ediv_iff_mul_le hn).mpr (by have := log2_bits h; (first | lia | omega))
    (first | lia | omega)
  have hxb : ∀ j : Int, j = K → x < 2 ^ (n.toNat * (j - 0).toNat) := by
    rintro j rfl
    have h1 : (Builtin.Int.intBits x : Int) ≤ n * j := by
      rw [← hKK, Int.fdiv_eq_ediv_of_nonneg _ (by (first | lia | omega))]
      have e1 := Int.mul_ediv_add_emod ((Builtin.Int.intBits x : Int) + n - 1) n
      have e2 := Int.emod_lt_of_pos ((Builtin.Int.intBits x : Int) + n - 1) hn
      (first | lia | omega)
    have h2 : Builtin.Int.intBits x ≤ n.toNat * (j - 0).toNat := by
      have : ((n.toNat * (j - 0).toNat : Nat) : Int) = n * j := by push_cast; rw [Int.toNat_of_nonneg (by (first | lia | omega) : (0:Int) ≤ n), Int.toNat_of_nonneg (by (first | lia | omega) : (0:Int) ≤ j - 0), Int.sub_zero]
      (first | lia | omega)
    have h3 := intBits_le_iff.mp h2
    have := pow_toNat (n.toNat * (j - 0).toNat)
    (first | lia | omega)
  have hk1 := hk0
  rw [← hKK] at hk0
  intro p loose mean mg mb dp un gd cn cs ad ccd cl outer A₀ h₀ L m s Q E B F X N T0 hk hd hu hret
  obtain ⟨TR, hTR⟩ : ∃ TR, TR = T ++ rest := ⟨_, rfl⟩
  rw [← hTR] at N
  · skip
    refine wpAny_call ?_
    k_dflt (refine' code_defC ?k1 ?k2 ?k3 ?k4 ?k5 ?kA ?kF ?kK ?k6 ?k7 ?k8 ?k9 ?kB ?kD ?_ ?c2 ?c3 ?c4; (case kA => exact rfl); (case kF => exact rfl); (case kK => assumption); (case k1 => k_asm); (case k2 => k_asm); (case k3 => k_asm); (case k4 => k_asm); (case k5 => k_asm); (case k6 => k_is); (case k7 => k_is); (case k8 => ktr_room); (case k9 => exact BindsTo.of_eq rfl); (case kB => exact rfl); (case kD => decide +kernel); (case c2 => exact rfl); (case c3 => exact rfl); (case c4 => exact rfl); k_whole; intro g' L' h' tk' cells' FG' F' N' Y' B' X' T' l1; (try k_lt l1); k_cells Y'; (try simp only [List.cons_append, List.nil_append] at N'); (try dsimp only); (try k_lift B'); (try k_fold))
    have hLa : ∀ p ∈ TR, p.1 < L' := by walk_at "lt_all"
    have hLr : ∀ p ∈ rest, p.1 < L' := fun p hp => hLa p (by rw [hTR]; exact List.mem_append.mpr (.inr hp))
    k_steps
    unfold Hold
    k_dflt (refine' floordiv_int ?k1 ?_ ?k2; (case k1 => (first | lia | omega)); (case k2 => exact Or.inl (PyProof.noPylong_small (by (first | lia | omega)))); k_whole)
    k_steps
    unfold Hold
    k_dflt (refine' mulOne ?m1 ?m2 ?m3 ?m4 ?m5 ?_; (case m1 => k_asm); (case m2 => k_asm); (case m3 => k_mem); (case m4 => (first | lia | omega)); (case m5 => (first | lia | omega)); k_whole)
    intro D hD1 ws FD ND lD hIw
    have hwl := hIw.length
    rw [List.length_replicate] at hwl
    (try k_lt lD)
    k_steps
    unfold Hold
    k_dflt (refine' nestDef_K ?d0 ?k0 ?a0 ?_; (case d0 => exact rfl); (case k0 => exact rfl); (case a0 => exact rfl))
    rename News _ _ _ _ => NN
    rename (_ < _ ∧ _ < _ ∧ _ < _ ∧ AllLt _ TR) => l9
    rw [hTR] at NN
    have hLT : ∀ p ∈ T, p.1 < L' := fun p hp => hLa p (by rw [hTR]; exact List.mem_append.mpr (.inl hp))
    have lD1 : @LT.lt Nat instLTNat (L' + 1 + 1 + 1) D := lD.2.1
    have lD2 : @LT.lt Nat instLTNat (L' + 1 + 1 + 1) _ := l9.1
    have hDr : ∀ p ∈ rest, p.1 < D := fun p hp => allLt_all lD.2.2.2.2 p (by rw [hTR]; exact List.mem_append.mpr (.inr hp))
    k_dflt (refine' nest_any (T := T) (rest := rest) (front := [_, _, _, _, _]) ?T9 ?F ?N ?Tp ?C ?cd ?rP ?fT ?li ?co ?cl ?_; (case T9 => exact hT); (case F => k_asm); (case N => exact NN); (case Tp => k_asm); (case cd => exact rfl); (case C => kn_code); (case rP => exact hge); (case fT => exact List.forall_mem_cons.mpr ⟨lt_up hLT (Nat.lt_trans (Nat.lt_add_of_pos_right (by decide : 0 < 1 + 1 + 1)) lD1), List.forall_mem_cons.mpr ⟨lt_up hLT (Nat.lt_trans (Nat.lt_add_of_pos_right (by decide : 0 < 1 + 1 + 1)) lD2), List.forall_mem_cons.mpr ⟨lt_up hLT (Nat.lt_add_of_pos_right (by decide : 0 < 1 + 1 + 1)), List.forall_mem_cons.mpr ⟨lt_up hLT (Nat.lt_add_of_pos_right (by decide : 0 < 1 + 1)), List.forall_mem_cons.mpr ⟨lt_up hLT (Nat.lt_succ_self _), List.forall_mem_nil _⟩⟩⟩⟩⟩); (case li => exact rfl); (case co => exact rfl); (case cl => exact rfl); k_whole)
    intro f c' oc vs' t' ct dc h2 tk2 F2 N2 d1 d2 hlt hg hfr hrf hcf hPf
    have N2 := news_sub N2 (b := (f, _) :: (D, listOf ws.toArray 0) :: (L' + 1 + 1 + 1, _) :: (L' + 1 + 1, _) :: (L' + 1, _) :: (47, _) :: (c', oc) :: rest) (fun p hp => by
      rcases List.mem_cons.mp hp with rfl | hp
      · exact .head _
      · rcases List.mem_cons.mp hp with rfl | hp
        · exact .tail _ (.head _)
        · exact .tail _ (.tail _ (.tail _ hp)))
    have y0 := hfr _ (.head _)
    have y1 := hfr _ (.tail _ (.tail _ (.head _)))
    have y2 := hfr _ (.tail _ (.tail _ (.tail _ (.head _))))
    have y3 := hfr _ (.tail _ (.tail _ (.tail _ (.tail _ (.head _)))))
    dsimp only at y0 y1 y2 y3
    have hP9 : @LT.lt Nat instLTNat 47 L' := by obtain ⟨o9, ho9⟩ := hT.key0; exact hLT _ ho9
    have hDn : ∀ p ∈ rest, p.1 ≠ D := fun p hp => Nat.ne_of_lt (hDr p hp)
    clear NN hLa hfr hrf lD l9 lD2
    have hLr2 := hLr
    k_steps
    · rename (x ≠ 0) => hx0
      have hKp := hKpos hx0
      have hwf := len_facts hwl hk0 hKp hKK
      unfold Hold
      k_dflt (refine' with_upd (D := D) (o := listOf ws.toArray 0) ?w1 ?w2 ?_; (case w1 => k_asm); (case w2 => k_updF))
      intro G hG NG
      have key : ∀ (k : Nat) (y a b : Int) (us : List Value) (ns : List Int), IntsAre us ns → (ns.length : Int) = K → 0 ≤ a → a < b → b ≤ K → (b - a).toNat ≤ k + 1 → 0 ≤ y → y < 2 ^ (n.toNat * (b - a).toNat) → ∀ ty tl th,
          CallL w base (G (listOf us.toArray 0)) (k + 1) (8 * (k + 1)) f [.int y ty, .int a tl, .int b th] (PutR G (put ns a.toNat (digs n.toNat (b - a).toNat y))) := by
        intro k
        induction k using Nat.strongRecOn with
        | ind k IH =>
        intro y a b us ns hus hns ha hab hb hk1 hy0 hy1 ty tl th
        have hK100 := hwf.2.2.2.2.2.2.2
        clear hwf hk0 hKpos hKp hxb hlen hwl
        subst hG
        clear NG
        dsimp only at IH ⊢
        have hul := hus.length
        intro p3 loose3 mean3 mg3 mb3 dp3 un3 gd3 cn3 cs3 ad3 ccd3 cl3 outer3 A3 h3 L3 m3 s3 Q3 E3 B3 F3 X3 N3 T3 hk3 hd3 hu3 hret3
        refine wpAny_call ?_
        k_dflt (refine' code_nest ?k1 ?k2 ?k3 ?k4 ?k5 ?kA ?kF ?kK ?k6 ?k7 ?k8 ?k9 ?kB ?_ ?c2 ?c3 ?c4 ?c5; (case kA => exact rfl); (case kF => exact rfl); (case kK => assumption); (case k1 => exact B3); (case k2 => exact F3); (case k3 => exact X3); (case k4 => exact N3); (case k5 => exact T3); (case k6 => k_mem); (case k7 => exact codeRec_news N3 (by k_mem) (by assumption) (by assumption)); (case k8 => ktr_room); (case k9 => exact BindsTo.of_eq rfl); (case c5 => decide); (case kB => exact locs rfl); (case c2 => exact rfl); (case c3 => exact rfl); (case c4 => exact rfl); k_whole; intro g4 L4 h4 FG4 F4 N4 B4 X4 T4; (try dsimp only); (try k_lift B4); (try k_fold))
        have hmd : a + 1 ≠ b → a < (a + b).fdiv (2 ^ Int.toNat 1) ∧ (a + b).fdiv (2 ^ Int.toNat 1) < b := fun hne => by
          rw [show Int.toNat 1 = 1 from rfl, fdiv_pow]; (first | lia | omega)
        generalize hmm : (a + b).fdiv (2 ^ Int.toNat 1) = mid at hmd
        have hz2 : a + 1 ≠ b → 0 ≤ (mid - a) * n ∧ (mid - a) * n ≤ 2000000 ∧ ((mid - a) * n).toNat = n.toNat * (mid - a).toNat := fun hne => by
          have := hmd hne
          refine ⟨Int.mul_nonneg (by (first | lia | omega)) (by (first | lia | omega)), ?_, ?_⟩
          · have h1 : (mid - a) * n ≤ 100 * n := Int.mul_le_mul_of_nonneg_right (by (first | lia | omega)) (by (first | lia | omega))
            (first | lia | omega)
          · have q1 : (mid - a) * n = ((n.toNat * (mid - a).toNat : Nat) : Int) := by
              push_cast
              rw [Int.toNat_of_nonneg (by (first | lia | omega) : (0:Int) ≤ n), Int.toNat_of_nonneg (by (first | lia | omega) : (0:Int) ≤ mid - a), Int.mul_comm]
            rw [q1]; rfl
        have hz1 : Builtin.Int.intBits (y.fdiv (2 ^ ((mid - a) * n).toNat)) ≤ 2000000 := by
          refine intBits_fdiv_le ?_
          refine Nat.le_trans (bits_le hy0 hy1) ?_
          have : n.toNat * (b - a).toNat ≤ 20000 * 100 := Nat.mul_le_mul (by (first | lia | omega)) (by (first | lia | omega))
          (first | lia | omega)
        rw [← hmm] at hmd hz1 hz2
        k_steps
        · rename (_ = b) => e
          have e4 : ns.set a.toNat y = put ns a.toNat (digs n.toNat (b - a).toNat y) := by
            have e2 : (b - a).toNat = 1 := by (first | lia | omega)
            rw [e2] at hy1
            rw [e2, digs_one n.toNat y hy0 (by simpa using hy1), put_one ns a.toNat y (by (first | lia | omega))]
          exact hret3 _ _ _ _ (by k_asm) (by k_asm) ⟨_, _, by assumption, e4⟩
        · rename (_ ≠ b) => e
          obtain ⟨hm1, hm2⟩ := hmd e
          obtain ⟨hs1, hs2, hs3⟩ := hz2 e
          have hlow : Builtin.bitXor y (y.fdiv (2 ^ (((a + b).fdiv (2 ^ Int.toNat 1) - a) * n).toNat) * 2 ^ (((a + b).fdiv (2 ^ Int.toNat 1) - a) * n).toNat) = y % 2 ^ (n.toNat * ((a + b).fdiv (2 ^ Int.toNat 1) - a).toNat) := by
            rw [xor_low _ hy0, hs3]
          have hupp : y.fdiv (2 ^ (((a + b).fdiv (2 ^ Int.toNat 1) - a) * n).toNat) = y / 2 ^ (n.toNat * ((a + b).fdiv (2 ^ Int.toNat 1) - a).toNat) := by
            rw [fdiv_pow, hs3]
          generalize (a + b).fdiv (2 ^ Int.toNat 1) = mid at *
          have sf := split_facts hm1 hm2 ha (N := ns.length) (by rw [hns]; exact hb) hk1
          have sk1 := sf.1.1
          have sk2 := sf.1.2.1
          have sk3 := sf.1.2.2
          have ss := sf.2.1.1
          have sm := sf.2.1.2.1
          have sN := sf.2.1.2.2
          have s0 := sf.2.2.1.1
          have sM : mid ≤ K := by rw [← hns]; exact sf.2.2.1.2
          have sam := sf.2.2.2.1.1
          have smb := sf.2.2.2.1.2.1
          have sd := room_step sk1 hd3
          have su := units_step sk1 hu3
          clear sf hmd hz2
          have hp1 := pow_pos' (n.toNat * (mid - a).toNat)
          unfold Hold
          rw [hlow]
          k_dflt (refine' useL (IH (k - 1) (by (first | lia | omega)) _ _ _ _ _ hus hns ?u1 ?u2 ?u3 ?u4 ?ue ?uf _ _ _) ?u5 ?u6 ?u7 ?u8 ?u9 ?ua ?ub ?uc ?_; (case u1 => (first | lia | omega)); (case u2 => (first | lia | omega)); (case u3 => (first | lia | omega)); (case u4 => (first | lia | omega)); (case ue => exact Int.emod_nonneg _ (by (first | lia | omega))); (case uf => exact Int.emod_lt_of_pos _ hp1); (case u5 => k_asm); (case u6 => k_asm); (case u7 => k_asm); (case u8 => k_asm); (case u9 => k_asm); (case ua => exact rfl); (case ub => ktr_room); (case uc => ktr_units))
          intro v5 nx5 h5 tk5 F5 N5 hv5
          obtain ⟨us5, ns5, hI5, hn5⟩ := hv5
          try dsimp only at N5
          have hl5 : (ns5.length : Int) = K := by rw [hn5, put_length _ _ _ (by rw [digs_length]; (first | lia | omega))]; exact hns
          k_steps
          unfold Hold
          rw [hupp]
          have hp2 := pow_pos' (n.toNat * (b - mid).toNat)
          have hba := ss
          k_dflt (refine' useL (IH (k - 1) (by (first | lia | omega)) _ _ _ _ _ hI5 hl5 ?v1 ?v2 ?v3 ?v4 ?ve ?vf _ _ _) ?v5 ?v6 ?v7 ?v8 ?v9 ?va ?vb ?vc ?_; (case v1 => (first | lia | omega)); (case v2 => (first | lia | omega)); (case v3 => (first | lia | omega)); (case v4 => (first | lia | omega)); (case ve => exact Int.ediv_nonneg hy0 (Int.le_of_lt hp1)); (case vf => (refine (Int.ediv_lt_iff_lt_mul hp1).mpr ?_; rw [← Int.pow_add, ← Nat.mul_add, Nat.add_comm, ← hba]; exact hy1)); (case v5 => k_asm); (case v6 => k_asm); (case v7 => k_asm); (case v8 => k_asm); (case v9 => k_asm); (case va => exact rfl); (case vb => ktr_room); (case vc => ktr_units))
          intro v6 nx6 h6 tk6 F6 N6 hv6
          obtain ⟨us6, ns6, hI6, hn6⟩ := hv6
          try dsimp only at N6
          k_steps
          refine hret3 _ _ _ _ (by k_asm) (by k_asm) ⟨us6, ns6, hI6, ?_⟩
          have hmt : mid.toNat = a.toNat + (digs n.toNat (mid - a).toNat (y % 2 ^ (n.toNat * (mid - a).toNat))).length := by rw [digs_length]; (first | lia | omega)
          rw [hn6, hn5, hmt, put_put _ _ _ _ (by rw [digs_length]; (first | lia | omega)), hba, ← digs_split]
      k_dflt (refine' useL (key 99 _ _ _ _ _ hIw ?x0 ?x1 ?x2 ?x3 ?x4 hx ?xe _ _ _) ?x5 ?x6 ?x7 ?x8 ?x9 ?xa ?xb ?xc ?_; (case x0 => (rw [List.length_replicate]; exact hwf.2.2.2.2.2.2.1)); (case x1 => (first | lia | omega)); (case x2 => exact hwf.2.1); (case x3 => exact hwf.2.2.1); (case x4 => exact hwf.2.2.2.1); (case xe => exact hxb _ hwf.2.2.2.2.1); (case x5 => k_asm); (case x6 => k_asm); (case x7 => k_asm); (case x8 => exact NG); (case x9 => k_asm); (case xa => exact rfl); (case xb => ktr_room); (case xc => ktr_units))
      intro v7 nx7 h7 tk7 F7 N7 hv7
      obtain ⟨us7, ns7, hI7, hn7⟩ := hv7
      subst hG
      clear key
      try dsimp only at N7
      k_steps
      have hdg : ns7 = digs n.toNat K.toNat x := by
        rw [hn7]
        have e1 : ((ws.length : Int) - 0).toNat = K.toNat := by rw [← hKK]; (first | lia | omega)
        rw [e1]
        exact put_all _ _ (by rw [digs_length]; first | rw [hKK] | rw [List.length_replicate, hKK])
      rw [hdg] at hI7
      exact hret _ _ _ _ (by k_asm) (news_sub (b := (D, listOf us7.toArray 0) :: ([(47, tabObj #[.int 33 0, .int 4 0, .ref c']), (c', oc)] ++ rest)) (by k_asm) (by walk_at "sub_all"))
        ⟨_, _, _, rfl, hI7, TabSt.some (c := c') d1 d2 hlt, List.forall_mem_cons.mpr ⟨.inr (.inl rfl), List.forall_mem_cons.mpr ⟨hg.elim .inl (fun h9 => .inr (.inr h9)), List.forall_mem_nil _⟩⟩, rfl, hDr, List.forall_mem_cons.mpr ⟨Ne.symm y0.2.1, List.forall_mem_cons.mpr ⟨Ne.symm y0.1, List.forall_mem_nil _⟩⟩⟩
    · rename (x = 0) => hx0'
      have hKz : K.toNat = 0 := by
        rw [← hKK, hx0', show Builtin.Int.intBits 0 = 0 from rfl, Int.fdiv_eq_ediv_of_nonneg _ (by (first | lia | omega))]
        have : (((0 : Nat) : Int) + n - 1) / n = 0 := Int.ediv_eq_zero_of_lt (by (first | lia | omega)) (by (first | lia | omega))
        rw [this]; rfl
      have hI7 : IntsAre ws (digs n.toNat K.toNat x) := by
        have e1 : ((Builtin.Int.intBits x : Int) + n - 1).fdiv n = K := hKK
        rw [e1, hKz] at hIw
        rw [hKz]; exact hIw
      exact hret _ _ _ _ (by k_asm) (news_sub (b := (D, listOf ws.toArray 0) :: ([(47, tabObj #[.int 33 0, .int 4 0, .ref c']), (c', oc)] ++ rest)) (by k_asm) (by walk_at "sub_all"))
        ⟨_, _, _, rfl, hI7, TabSt.some (c := c') d1 d2 hlt, List.forall_mem_cons.mpr ⟨.inr (.inl rfl), List.forall_mem_cons.mpr ⟨hg.elim .inl (fun h9 => .inr (.inr h9)), List.forall_mem_nil _⟩⟩, rfl, hDr, List.forall_mem_cons.mpr ⟨Ne.symm y0.2.1, List.forall_mem_cons.mpr ⟨Ne.symm y0.1, List.forall_mem_nil _⟩⟩⟩
end
section
theorem fresh6 : True := by
  w_top off
  trivial
noncomputable def Apart (T U : List (Addr × Obj)) : Prop := ∀ p ∈ T, ∀ q ∈ U, p.1 ≠ q.1
theorem Apart.symm {T U : List (Addr × Obj)} (h : Apart T U) : Apart U T := fun p hp q hq e => h q hq p hp e.symm
theorem Apart.app {T U V : List (Addr × Obj)} (h : Apart T U) (h' : Apart T V) : Apart T (U ++ V) := fun p hp q hq => (List.mem_append.mp hq).elim (h p hp q) (h' p hp q)
theorem Apart.left {T U V : List (Addr × Obj)} (h : Apart T (U ++ V)) : Apart T U := fun p hp q hq => h p hp q (List.mem_append.mpr (.inl hq))
theorem Apart.right {T U V : List (Addr × Obj)} (h : Apart T (U ++ V)) : Apart T V := fun p hp q hq => h p hp q (List.mem_append.mpr (.inr hq))
/-- both tables of the text's own defs -/
noncomputable def Tabs (T : List (Addr × Obj)) : Prop := ∃ TI TD, T = TI ++ TD ∧ TabI TI ∧ TabD TD ∧ Apart TI TD
/-- the tables' addresses are the old ones or new -/
noncomputable def GrowT (T T' rest : List (Addr × Obj)) : Prop := ∀ p ∈ T', (∃ q ∈ T, q.1 = p.1) ∨ ∀ r ∈ rest, r.1 < p.1
theorem GrowT.refl (T rest : List (Addr × Obj)) : GrowT T T rest := fun p hp => .inl ⟨p, hp, rfl⟩
theorem GrowT.trans {T T' T'' rest : List (Addr × Obj)} (h : GrowT T T' rest) (h' : GrowT T' T'' rest) : GrowT T T'' rest := fun p hp => (h' p hp).elim (fun ⟨q, hq, e⟩ => e ▸ h q hq) .inr
theorem GrowT.sub {T T' rest rest' : List (Addr × Obj)} (h : GrowT T T' rest) (hs : ∀ r ∈ rest', r ∈ rest) : GrowT T T' rest' := fun p hp => (h p hp).elim .inl fun k => .inr fun r hr => k r (hs r hr)
theorem GrowT.apart {T T' rest : List (Addr × Obj)} (h : GrowT T T' rest) (a : Apart T rest) : Apart T' rest := fun p hp r hr => (h p hp).elim (fun ⟨q, hq, e⟩ => e ▸ a q hq r hr) fun k => Nat.ne_of_gt (k r hr)
theorem TabSt.key {P : Addr} {qual : Str} {li co : Int} {T : List (Addr × Obj)} (h : TabSt P qual li co T) : ∃ o, (P, o) ∈ T := by cases h <;> exact ⟨_, .head _⟩
theorem TabSt.grow {P : Addr} {qual : Str} {li co : Int} {T T' rest : List (Addr × Obj)} (h : TabSt P qual li co T) (g : Grow P T T' rest) : GrowT T T' rest := fun p hp => by
  rcases g p hp with h1 | h1 | h1
  · exact .inl ⟨p, h1, rfl⟩
  · obtain ⟨o, ho⟩ := h.key
    exact .inl ⟨_, ho, h1.symm⟩
  · exact .inr h1

theorem CallL.to {w : World} {base : Heap} {news news' : List (Addr × Obj)} {d u : Nat} {f : Addr} {vs : List Value} {R R' : Value → List (Addr × Obj) → Prop} (C : CallL w base news d u f vs R) (hs : ∀ p ∈ news, p ∈ news')
    (hR : ∀ v nx, R v nx → ∃ nx', R' v nx' ∧ ∀ p ∈ nx', p ∈ nx) : CallL w base news' d u f vs R' := by
  intro p loose mean mg mb dp un gd cn cs ad ccd cl outer A₀ h₀ L m s Q E B F X N T hk hd hu hret
  refine C _ _ _ _ _ _ _ _ _ _ _ _ _ _ _ _ _ _ _ _ _ B F X (news_sub N hs) T hk hd hu fun v nx h' tk' F' N' hr => ?_
  obtain ⟨nx', hr', hs'⟩ := hR v nx hr
  exact hret v nx' h' tk' F' (news_sub N' hs') hr'

/-- a call that may grow the tables and makes new objects -/
noncomputable abbrev CallT (w : World) (base : Heap) (T rest : List (Addr × Obj)) (d u : Nat) (f : Addr) (vs : List Value) (R : Value → List (Addr × Obj) → Prop) : Prop :=
  CallL w base (T ++ rest) d u f vs (fun v nx => ∃ T' new, nx = new ++ (T' ++ rest) ∧ Tabs T' ∧ GrowT T T' rest ∧ (∀ p ∈ new, (∀ r ∈ rest, r.1 < p.1) ∧ ∀ q ∈ T', q.1 ≠ p.1) ∧ R v new)

theorem mem3 {α : Type} {a b c : List α} : ∀ p ∈ a ++ (b ++ c), p ∈ (b ++ a) ++ c := fun p hp => by
  rcases List.mem_append.mp hp with h | h
  · exact List.mem_append.mpr (.inl (List.mem_append.mpr (.inr h)))
  · rcases List.mem_append.mp h with h | h
    · exact List.mem_append.mpr (.inl (List.mem_append.mpr (.inl h)))
    · exact List.mem_append.mpr (.inr h)
theorem mem3' {α : Type} {a b c : List α} : ∀ p ∈ (b ++ a) ++ c, p ∈ a ++ (b ++ c) := fun p hp => by
  rcases List.mem_append.mp hp with h | h
  · rcases List.mem_append.mp h with h | h
    · exact List.mem_append.mpr (.inr (List.mem_append.mpr (.inl h)))
    · exact List.mem_append.mpr (.inl h)
  · exact List.mem_append.mpr (.inr (List.mem_append.mpr (.inr h)))

/-- a pair; a row of digits; a plain number -/
inductive IsPair (P : Int → Int → Prop) : Value → List (Addr × Obj) → Prop
  | mk (o : Addr) (q : Int) (t : Tok) (r : Int) (u : Tok) (h : P q r) : IsPair P (.ref o) [(o, pairO q t r u)]
inductive IsDg (ns : List Int) : Value → List (Addr × Obj) → Prop
  | mk (q : Addr) (us : List Value) (h : IntsAre us ns) : IsDg ns (.ref q) [(q, listOf us.toArray 0)]
inductive IsVl (x : Int) : Value → List (Addr × Obj) → Prop
  | mk (t : Tok) : IsVl x (.int x t) []
theorem d2i_T {w : World} {base : Heap} (hcd : CodeHd base 58 54) (T rest : List (Addr × Obj)) (hT : Tabs T) (hap : Apart T rest) (D : Addr) (vs : List Value) (ns : List Int) (nn : Nat) (n : Int) (tn : Tok)
    (hD : (D, listOf vs.toArray nn) ∈ rest) (hi : IntsAre vs ns) (hlen : ns.length ≤ 100) (hn : 0 < n) (hn2 : n ≤ 20000) (hdig : ∀ d ∈ ns, d.natAbs < 2 ^ n.toNat) :
    CallT w base T rest 110 1000 59 [.ref D, .int n tn] (IsVl (val n.toNat ns)) := by
  obtain ⟨TI, TD, rfl, hTI, hTD, hAp⟩ := hT
  obtain ⟨oD, hoD⟩ := hTD.key
  refine (d2i_core hcd TD (TI ++ rest) hTD (fun p hp => ?_) D vs ns nn n tn (List.mem_append.mpr (.inr hD)) hi hlen hn hn2 hdig).to mem3 ?_
  · rcases List.mem_append.mp hp with h | h
    · exact hAp p h _ hoD
    · exact Ne.symm (hap _ (List.mem_append.mpr (.inr hoD)) p h)
  · rintro v nx ⟨t, T', rfl, hT', hg, rfl⟩
    have g1 := hTD.grow hg
    have a1 : Apart TI T' := ((g1.apart (hAp.symm.app fun p hp r hr => hap p (List.mem_append.mpr (.inr hp)) r hr)).left).symm
    refine ⟨(TI ++ T') ++ rest, ⟨TI ++ T', [], rfl, ⟨TI, T', rfl, hTI, hT', a1⟩, fun p hp => ?_, List.forall_mem_nil _, .mk t⟩, mem3'⟩
    rcases List.mem_append.mp hp with h | h
    · exact .inl ⟨p, List.mem_append.mpr (.inl h), rfl⟩
    · rcases g1 p h with ⟨q, hq, e⟩ | h2
      · exact .inl ⟨q, List.mem_append.mpr (.inr hq), e⟩
      · exact .inr fun r hr => h2 r (List.mem_append.mpr (.inr hr))

theorem i2d_T {w : World} {base : Heap} (hcd : CodeHd base 51 47) (T rest : List (Addr × Obj)) (hT : Tabs T) (hap : Apart T rest) (x n : Int) (tx tn : Tok)
    (hx : 0 ≤ x) (hn : 0 < n) (hn2 : n ≤ 20000) (hlen : (Builtin.Int.intBits x : Int) ≤ 99 * n) :
    CallT w base T rest 110 1000 52 [.int x tx, .int n tn] (IsDg (digs n.toNat (((Builtin.Int.intBits x : Int) + n - 1).fdiv n).toNat x)) := by
  obtain ⟨TI, TD, rfl, hTI, hTD, hAp⟩ := hT
  obtain ⟨oI, hoI⟩ := hTI.key
  refine (i2d_core hcd TI (TD ++ rest) hTI (fun p hp => ?_) x n tx tn hx hn hn2 hlen).to (by rw [List.append_assoc]; exact fun _ h => h) ?_
  · rcases List.mem_append.mp hp with h | h
    · exact Ne.symm (hAp _ hoI p h)
    · exact Ne.symm (hap _ (List.mem_append.mpr (.inl hoI)) p h)
  · rintro v nx ⟨q, us, T', rfl, hI, hT', hg, rfl, hq1, hq2⟩
    have g1 := hTI.grow hg
    have a1 : Apart T' TD := (g1.apart (hAp.app fun p hp r hr => hap p (List.mem_append.mpr (.inl hp)) r hr)).left
    refine ⟨[(q, listOf us.toArray 0)] ++ ((T' ++ TD) ++ rest), ⟨T' ++ TD, _, rfl, ⟨T', TD, rfl, hT', hTD, a1⟩, fun p hp => ?_, List.forall_mem_cons.mpr ⟨⟨fun r hr => hq1 r (List.mem_append.mpr (.inr hr)), fun r hr => ?_⟩, List.forall_mem_nil _⟩, .mk q us hI⟩, ?_⟩
    · rcases List.mem_append.mp hp with h | h
      · rcases g1 p h with ⟨q, hq, e⟩ | h2
        · exact .inl ⟨q, List.mem_append.mpr (.inl hq), e⟩
        · exact .inr fun r hr => h2 r (List.mem_append.mpr (.inr hr))
      · exact .inl ⟨p, List.mem_append.mpr (.inr h), rfl⟩
    · rcases List.mem_append.mp hr with h | h
      · exact hq2 r h
      · exact Nat.ne_of_lt (hq1 r (List.mem_append.mpr (.inl h)))
    · rw [List.append_assoc]; exact fun _ h => h

/-- a call that may grow the tables, made over a ledger that ends in them -/
theorem useT {w : World} {base : Heap} {T rest front : List (Addr × Obj)} {d u : Nat} {f : Addr} {vs : List Value} {p : Program} {loose : List Str} {mean : ExcName → Option Value} {mg mb : Str → Option Value} {dp un : Nat} {gd : Option (List Code)} {cn : Str} {cs : Scope} {a : Addr} {ccd : Value} {cl : List (Str × Addr)} {outer : List Env} {A₀ : Around} {h₀ : Heap} {L : Addr} {m : Str → Option Value} {s : Shared} {Q E : Value → Shared → Prop}
    {R : Value → List (Addr × Obj) → Prop} (B : Below A₀ base outer h₀) (F : Fr h₀ L s.heap m) (X : (hd2.heap_39 w.params).In h₀) (N : News h₀ L s.heap (front ++ (T ++ rest))) (Tp : Top p loose mean mg mb h₀) (hap : Apart T (front ++ rest)) (C : CallT w base T (front ++ rest) d u f vs R) (hk : cs.kind = .function)
    (hd : dp + d < recursionLimit) (hu : un + u < cLine)
    (h : ∀ v T' new h' tk', Fr h₀ L h' m → News h₀ L h' (new ++ (front ++ (T' ++ rest))) → Tabs T' → GrowT T T' (front ++ rest) → Apart T' (front ++ rest) → Apart T' (new ++ (front ++ rest)) → (∀ p ∈ new, ∀ r ∈ front ++ rest, r.1 < p.1) → R v new → Q v { s with heap := h', toks := tk' }) :
    wpAny (model PySem.Challenge.rw_rl0045_02.row.prog w) (ktrTop dp un gd cn cs L a ccd cl outer) (call (.ref f) vs) Q E s := by
  refine C _ _ _ _ _ _ _ _ _ _ _ _ _ _ _ _ _ _ _ _ _ B F X (news_sub N ?_) Tp hk hd hu ?_
  · rw [← List.append_assoc]; exact mem3'
  · rintro v nx h' tk' F' N' ⟨T', new, rfl, hT', hg, hnew, hR⟩
    refine h v T' new h' tk' F' (news_sub N' fun p hp => ?_) hT' hg (hg.apart hap) (Apart.app (fun p hp r hr => (hnew r hr).2 p hp) (hg.apart hap)) (fun p hp => (hnew p hp).1) hR
    rcases List.mem_append.mp hp with h1 | h1
    · exact List.mem_append.mpr (.inl h1)
    · refine List.mem_append.mpr (.inr (mem3' p ?_))
      rw [List.append_assoc]; exact h1
end
section
local macro_rules | `(tactic| walk_at "zz0") => `(tactic| skip)
theorem fresh7 : True := by
  w_top off
  trivial
noncomputable abbrev kD : Nat := 2
theorem d2_law {w : World} {base : Heap} : D2At w base kD := d2_all
theorem allNe_of_lt1 {l : List (Addr × Obj)} {e : Nat} (h : ∀ p ∈ l, p.1 < e) : ∀ p ∈ l, p.1 ≠ e := fun p hp => Nat.ne_of_lt (h p hp)
theorem use_d2' {w : World} {base : Heap} {news : List (Addr × Obj)} {aa b n : Int} {ta tb tn : Tok} {p : Program} {loose : List Str} {mean : ExcName → Option Value} {mg mb : Str → Option Value} {dp un : Nat} {gd : Option (List Code)} {cn : Str} {cs : Scope} {a : Addr} {ccd : Value} {cl : List (Str × Addr)} {outer : List Env} {A₀ : Around} {h₀ : Heap} {L : Addr} {m : Str → Option Value} {s : Shared} {Q E : Value → Shared → Prop}
    (pre : Pre2 aa b n) (hn : n ≤ 4000 * 2 ^ kD) (B : Below A₀ base outer h₀) (F : Fr h₀ L s.heap m) (X : (hd2.heap_39 w.params).In h₀) (N : News h₀ L s.heap news) (T : Top p loose mean mg mb h₀) (hk : cs.kind = .function)
    (hd : dp + 5 < recursionLimit) (hu : un + 40 < cLine)
    (h : ∀ o q r t u h' tk', Fr h₀ L h' m → News h₀ L h' ((o, pairO q t r u) :: news) → (∀ p ∈ news, p.1 < o) → Quot aa b q r → 0 ≤ q → Builtin.Int.intBits q ≤ 100000 → Builtin.Int.intBits r ≤ 100000 → Q (.ref o) { s with heap := h', toks := tk' }) :
    wpAny (model PySem.Challenge.rw_rl0045_02.row.prog w) (ktrTop dp un gd cn cs L a ccd cl outer) (call (.ref 38) [.int aa ta, .int b tb, .int n tn]) Q E s :=
  useO (d2_law news aa b n ta tb tn pre hn) B F X N T hk (by show dp + (2 * kD + 1) < _; unfold kD; (first | lia | omega)) (by show un + 8 * (2 * kD + 1) < _; unfold kD; (first | lia | omega)) fun q o h' tk' F' N' l ⟨q1, r1, t, u, e, hq, h1, h2, h3⟩ => by subst e; exact h q q1 r1 t u h' tk' F' N' l hq h1 h2 h3

/-! the plain law of the long division -/
theorem bits_pos {b : Int} (hb : 0 < b) : 0 < Builtin.Int.intBits b := by rw [log2_bits (by (first | lia | omega))]; (first | lia | omega)
theorem bits_lo {b : Int} (hb : 0 < b) : (2 : Int) ^ (Builtin.Int.intBits b - 1) ≤ b := by
  rw [log2_bits (by (first | lia | omega))]
  have h := Nat.log2_self_le (n := b.natAbs) (by (first | lia | omega))
  have e : ((2 : Int) ^ b.natAbs.log2) = ((2 ^ b.natAbs.log2 : Nat) : Int) := by push_cast; rfl
  rw [Nat.add_sub_cancel, e]; (first | lia | omega)
theorem bits_hi {b : Int} (hb : 0 < b) : b < (2 : Int) ^ (Builtin.Int.intBits b) := by
  rw [log2_bits (by (first | lia | omega))]
  have h := Nat.lt_log2_self (n := b.natAbs)
  have e : ((2 : Int) ^ (b.natAbs.log2 + 1)) = ((2 ^ (b.natAbs.log2 + 1) : Nat) : Int) := by push_cast; rfl
  rw [e]; (first | lia | omega)
/-- after some digits -/
structure Long (N : Nat) (b : Int) (ds : List Int) (i : Nat) (r : Int) (qs : List Int) : Prop where
  eq : val N (ds.drop (ds.length - i)) = val N qs.reverse * b + r
  r0 : 0 ≤ r
  r1 : r < b
  len : qs.length = i
  dig : ∀ q ∈ qs, q.natAbs < 2 ^ N
theorem long_zero (N : Nat) {b : Int} (hb : 0 < b) (ds : List Int) : Long N b ds 0 0 [] := ⟨by simp [val], by (first | lia | omega), hb, rfl, List.forall_mem_nil _⟩
theorem long_step {N : Nat} {b : Int} {ds : List Int} {i : Nat} {r q r' d : Int} {qs : List Int} (h : Long N b ds i r qs) (hi : i < ds.length) (hd : ds[ds.length - 1 - i]? = some d) (hdn : 0 ≤ d ∧ d < 2 ^ N) (hq : Quot (r * 2 ^ N + d) b q r') (hq0 : 0 ≤ q) : Long N b ds (i + 1) r' (qs ++ [q]) := by
  have hp := pow_pos' N
  refine ⟨?_, hq.2.1, hq.2.2, by simp [h.len], fun x hx => ?_⟩
  · have e1 : ds.length - (i + 1) = ds.length - 1 - i := by (first | lia | omega)
    have e2 : ds.drop (ds.length - 1 - i) = d :: ds.drop (ds.length - i) := by
      have hlt : ds.length - 1 - i < ds.length := by (first | lia | omega)
      rw [List.drop_eq_getElem_cons hlt]
      rw [List.getElem?_eq_getElem hlt] at hd
      have e3 : ds.length - 1 - i + 1 = ds.length - i := by (first | lia | omega)
      rw [e3, Option.some.inj hd]
    rw [e1, e2, List.reverse_append]
    show d + 2 ^ N * val N _ = (q + 2 ^ N * val N qs.reverse) * b + r'
    rw [h.eq, Int.add_mul, Int.mul_add]
    have := hq.1
    have e4 : (2 : Int) ^ N * r = r * 2 ^ N := Int.mul_comm _ _
    have e5 : (2 : Int) ^ N * (val N qs.reverse * b) = 2 ^ N * val N qs.reverse * b := (Int.mul_assoc _ _ _).symm
    (first | lia | omega)
  · rcases List.mem_append.mp hx with hx | hx
    · exact h.dig x hx
    · rw [List.mem_singleton.mp hx]
      have h1 : (r + 1) * 2 ^ N ≤ b * 2 ^ N := Int.mul_le_mul_of_nonneg_right (by have := h.r1; (first | lia | omega)) (Int.le_of_lt hp)
      rw [Int.add_mul, Int.one_mul] at h1
      have h2 := hq.1
      have h3 := hq.2.1
      have h5 : q * b < 2 ^ N * b := by
        rw [Int.mul_comm (2 ^ N) b]; (first | lia | omega)
      have h6 : q < 2 ^ N := Int.lt_of_mul_lt_mul_right h5 (Int.le_of_lt (by have := h.r0; have := h.r1; (first | lia | omega)))
      have := pow_toNat N
      (first | lia | omega)
theorem long_pre {N : Nat} {n b : Int} {ds : List Int} {i : Nat} {r d : Int} {qs : List Int} (h : Long N b ds i r qs) (hb : 0 < b) (hn : n = (Builtin.Int.intBits b : Int)) (hN : N = n.toNat) (hdn : 0 ≤ d ∧ d < 2 ^ N) : Pre2 (r * 2 ^ n.toNat + d) b n := by
  have hp := pow_pos' N
  have e : n.toNat = Builtin.Int.intBits b := by (first | lia | omega)
  have h1 : (r + 1) * 2 ^ N ≤ b * 2 ^ N := Int.mul_le_mul_of_nonneg_right (by have := h.r1; (first | lia | omega)) (Int.le_of_lt hp)
  rw [Int.add_mul, Int.one_mul] at h1
  refine ⟨?_, ?_, ?_, ?_, ?_⟩
  · have := Int.mul_nonneg h.r0 (Int.le_of_lt hp); rw [← hN]; (first | lia | omega)
  · have := bits_pos hb; (first | lia | omega)
  · rw [e]; exact bits_lo hb
  · rw [e]; exact bits_hi hb
  · rw [← hN]; (first | lia | omega)
theorem ints_snoc {vs : List Value} {ns : List Int} (h : IntsAre vs ns) (x : Int) (t : Tok) : IntsAre (vs ++ [.int x t]) (ns ++ [x]) := by
  induction h with
  | nil => exact .cons x t .nil
  | cons n t' _ ih => exact .cons n t' ih
theorem ints_get {vs : List Value} {ns : List Int} (h : IntsAre vs ns) : ∀ {i : Nat} {v : Value}, vs[i]? = some v → ∃ x t, v = .int x t ∧ ns[i]? = some x := by
  induction h with
  | nil => intro i v hv; simp at hv
  | cons n t _ ih =>
    intro i v hv
    cases i with
    | zero => exact ⟨n, t, by simpa using hv.symm, rfl⟩
    | succ i => exact ih (by simpa using hv)
theorem ints_rev {vs : List Value} {ns : List Int} (h : IntsAre vs ns) : IntsAre vs.reverse ns.reverse := by
  induction h with
  | nil => exact .nil
  | cons n t _ ih => rw [List.reverse_cons, List.reverse_cons]; exact ints_snoc ih n t
theorem append_M {prog : Program} {w : World} {A : Around} {E : Value → Shared → Prop} {s : Shared} {h₀ : Heap} {L D : Addr} {m : Str → Option Value} {news : List (Addr × Obj)} {g : Obj → List (Addr × Obj)} {vs : List Value} {n : Nat} {x : Value} {Q : Value → Shared → Prop} (F : Fr h₀ L s.heap m) (N : News h₀ L s.heap news) (U : UpdF D (listOf vs.toArray n) news g)
    (hz : vs.length ≤ sizeLine) (h : ∀ h' nn, Fr h₀ L h' m → News h₀ L h' (g (listOf (vs ++ [x]).toArray nn)) → Q .none { s with heap := h' }) : wpAny (model prog w) A (call (.builtin "list.append") [.ref D, x]) Q E s := by
  obtain ⟨pre, post, rfl, hg, a, c⟩ := U.split
  have z := N (D, listOf vs.toArray n) (List.mem_append.mpr (.inr (.head _)))
  refine append_at (hsz := by simpa using hz) z.1 fun h' hs ho' => h h' (n + 1) (F.change hs z.2.1 z.2.2) ?_
  rw [hg]
  have e : vs.toArray.push x = (vs ++ [x]).toArray := by simp
  rw [← e]
  exact news_set N a c hs ho'

theorem updF_upd {d : Addr} {o : Obj} {l : List (Addr × Obj)} {g : Obj → List (Addr × Obj)} (U : UpdF d o l g) (o' : Obj) : Upd d o o' l (g o') := by
  induction U with
  | head h => exact .head h
  | tail h _ ih => exact .tail h ih
theorem rev_M {prog : Program} {w : World} {A : Around} {E : Value → Shared → Prop} {s : Shared} {h₀ : Heap} {L D : Addr} {m : Str → Option Value} {news : List (Addr × Obj)} {g : Obj → List (Addr × Obj)} {vs : List Value} {n : Nat} {Q : Value → Shared → Prop} (F : Fr h₀ L s.heap m) (N : News h₀ L s.heap news) (U : UpdF D (listOf vs.toArray n) news g)
    (hz : vs.length ≤ sizeLine) (h : ∀ h', Fr h₀ L h' m → News h₀ L h' (g (listOf vs.reverse.toArray n)) → Q .none { s with heap := h' }) : wpAny (model prog w) A (call (.builtin "list.reverse") [.ref D]) Q E s :=
  kl_reverse (n := n) (its := vs.toArray) (l := vs.reverse) F N (by simp) (updF_upd U _) (by simpa using hz) h
theorem digits_fit {a b : Int} {N K : Nat} (ha : 0 ≤ a) (hb : 0 < b) (hN : N = (↑(Builtin.Int.intBits b) : Int).toNat) (hK : K = ((↑(Builtin.Int.intBits a) + ↑(Builtin.Int.intBits b) - 1 : Int).fdiv ↑(Builtin.Int.intBits b)).toNat) : a < 2 ^ (N * K) := by
  have hbp := bits_pos hb
  have h1 : Builtin.Int.intBits a ≤ N * K := by
    have e0 : N = Builtin.Int.intBits b := by (first | lia | omega)
    rw [hK, e0, Int.fdiv_eq_ediv_of_nonneg _ (by (first | lia | omega))]
    obtain ⟨n, hn⟩ : ∃ n, n = Builtin.Int.intBits b := ⟨_, rfl⟩
    obtain ⟨m, hm⟩ : ∃ m, m = Builtin.Int.intBits a := ⟨_, rfl⟩
    rw [← hn, ← hm]
    rw [← hn] at hbp
    have e1 : ((m : Int) + n - 1) / (n : Int) = ((m + n - 1) / n : Nat) := by
      rw [show (m : Int) + n - 1 = ((m + n - 1 : Nat) : Int) by (first | lia | omega)]; rfl
    rw [e1, Int.toNat_natCast]
    have e2 := Nat.div_add_mod (m + n - 1) n
    have e3 := Nat.mod_lt (m + n - 1) hbp
    (first | lia | omega)
  have h2 := intBits_le_iff.mp h1
  have := pow_toNat (N * K)
  (first | lia | omega)
theorem off1 {I qA : Addr} {o o' io : Obj} {r : List (Addr × Obj)} (h : ∀ p ∈ (qA, o) :: r, p.1 ≠ I) : ∀ p ∈ (qA, o') :: r, ∀ q ∈ [(I, io)], p.1 ≠ q.1 := by
  intro p hp q hq
  rw [List.mem_singleton.mp hq]
  rcases List.mem_cons.mp hp with rfl | hp
  · exact h (qA, o) (.head _)
  · exact h p (.tail _ hp)
theorem dpos_close {h₀ h : Heap} {L D' qA D : Addr} {o o1 o2 : Obj} {S : List (Addr × Obj)} {Z : Prop} (N : News h₀ L h ((D', o) :: (qA, o1) :: (D, o2) :: S)) (k : News h₀ L h ([(D', o)] ++ S) → (∀ p ∈ S, p.1 < D') → Z) (hlt : ∀ p ∈ S, p.1 < D') : Z :=
  k (news_sub N (List.forall_mem_cons.mpr ⟨.head _, fun p hp => .tail _ (.tail _ (.tail _ hp))⟩)) hlt
noncomputable abbrev DPst := Int × Tok × List Value × List Int × Nat
noncomputable abbrev dpLed (q D : Addr) (us : List Value) (S : List (Addr × Obj)) (c : DPst) : List (Addr × Obj) := (q, listOf c.2.2.1.toArray c.2.2.2.2) :: (D, listOf us.toArray 0) :: S
noncomputable abbrev dpPs (c : DPst) : List (Str × Value) := [(Str.ofString "r", .int c.1 c.2.1)]

local macro_rules | `(tactic| walk_at "exec For Name Call cons nil") => `(tactic| (k_here; (with_unfolding_all refine wpAny_For ?_ (by intro _; rfl))))
local macro_rules | `(tactic| walk_at "pyIter ref") => `(tactic| (k_here; refine hold ?_))
local macro_rules | `(tactic| walk_at "call ref") => `(tactic| (k_here; refine hold ?_))
local macro_rules | `(tactic| walk_at "binaryOp LShift int int") => `(tactic| (k_here; k_dflt (refine' lshift_int ?k1 ?k2 ?_; (case k1 => lia); (case k2 => lia); k_whole)))
local macro_rules | `(tactic| walk_at "call builtin:list.append") => `(tactic| (k_here; k_dflt (refine' append_M ?k1 ?k2 ?k3 ?k4 ?_; (case k1 => k_asm); (case k2 => k_asm); (case k3 => k_updF); (case k4 => (show _ ≤ 16777216; lia)); k_whole); intro h' nn' F' N'; (try dsimp only at N')))
local macro_rules | `(tactic| walk_at "call builtin:list.reverse") => `(tactic| (k_here; refine hold ?_))
local macro_rules | `(tactic| k_all) => `(tactic| first | assumption | (refine allNe_of_lt1 ?_; assumption) | exact allNe_of_lt (by assumption) (by lia))

theorem dpos_T {w : World} {base : Heap} (hcI : CodeHd base 51 47) (hcD : CodeHd base 58 54) (T rest : List (Addr × Obj)) (hT : Tabs T) (hap : Apart T rest) (a b : Int) (ta tb : Tok)
    (ha : 0 ≤ a) (hb : 0 < b) (hb2 : (Builtin.Int.intBits b : Int) ≤ 4000 * 2 ^ kD) (hlen : (Builtin.Int.intBits a : Int) ≤ 99 * (Builtin.Int.intBits b : Int)) :
    CallT w base T rest 120 1100 66 [.int a ta, .int b tb] (IsPair (Quot a b)) := by
  have dummy : (fun (_ : OpenLaw) (_ : Params → Frag) => True) PySem.Challenge.rw_rl0045_02 hd2.heap_39 := by k_fill; trivial
  clear dummy
  have hbp := bits_pos hb
  have hb3 : (Builtin.Int.intBits b : Int) ≤ 20000 := by unfold kD at hb2; (first | lia | omega)
  intro p loose mean mg mb dp un gd cn cs ad ccd cl outer A₀ h₀ L m s Q E B F X N T0 hk hd hu hret
  refine wpAny_call ?_
  k_dflt cell_enter
  k_steps
  unfold Hold
  k_dflt (refine' useT (T := T) (front := []) (rest := rest) ?u1 ?u2 ?u3 ?u4 ?u5 ?u6 (i2d_T (by assumption) _ _ ?u7 ?u8 _ _ _ _ ?u9 ?ua ?ub ?uc) ?ud ?ue ?uf ?_; (case u1 => k_asm); (case u2 => k_asm); (case u3 => k_asm); (case u4 => k_asm); (case u5 => k_asm); (case u6 => exact hap); (case u7 => exact hT); (case u8 => exact hap); (case u9 => (first | lia | omega)); (case ua => (first | lia | omega)); (case ub => (first | lia | omega)); (case uc => (first | lia | omega)); (case ud => exact rfl); (case ue => ktr_room); (case uf => ktr_units))
  intro v1 T1 new1 h1 tk1 F1 N1 hT1 hg1 ha1 hb1 hl1 hv1
  obtain ⟨D, us, hI⟩ := hv1
  simp only [List.cons_append, List.nil_append] at N1 hb1 hl1 hg1 ha1
  have hDr := hl1 _ (.head _)
  dsimp only at hDr
  obtain ⟨N, hN⟩ : ∃ N : Nat, N = (↑(Builtin.Int.intBits b) : Int).toNat := ⟨_, rfl⟩
  obtain ⟨K, hK⟩ : ∃ K : Nat, K = ((↑(Builtin.Int.intBits a) + ↑(Builtin.Int.intBits b) - 1 : Int).fdiv ↑(Builtin.Int.intBits b)).toNat := ⟨_, rfl⟩
  rw [← hN, ← hK] at hI
  have hK1 : K ≤ 100 := by
    rw [hK, Int.fdiv_eq_ediv_of_nonneg _ (by (first | lia | omega))]
    have : ((Builtin.Int.intBits a : Int) + Builtin.Int.intBits b - 1) / (Builtin.Int.intBits b : Int) < 101 := (Int.ediv_lt_iff_lt_mul (by (first | lia | omega))).mpr (by (first | lia | omega))
    (first | lia | omega)
  have hul := hI.length
  rw [digs_length] at hul
  obtain ⟨S, hS⟩ : ∃ S, S = T1 ++ rest := ⟨_, rfl⟩
  rw [← hS] at N1
  have hDS : ∀ p ∈ S, p.1 ≠ D := by
    rw [hS]; intro p hp
    rcases List.mem_append.mp hp with h | h
    · exact hb1 p h _ (.head _)
    · exact Nat.ne_of_lt (hDr p h)
  k_steps
  unfold Hold
  rename_i qA h9a l9a h9b IA h9c F9 N9 l9
  have hqS : ∀ p ∈ S, p.1 < qA := by walk_at "lt_all"
  have hIS : ∀ p ∈ S, p.1 < IA := by walk_at "lt_all"
  have hDq : D < qA := l9a.1
  have hqI : qA < IA := l9.1
  have hp := pow_pos' N
  have hds := digs_length N K a
  have hda := val_digs N K a ha (digits_fit ha hb hN hK)
  have hap3 : ∀ (vs : List Value) (nn : Nat), Apart T1 ([(qA, listOf vs.toArray nn), (D, listOf us.toArray 0)] ++ rest) := fun vs nn p hp => by
    have hpS : p ∈ S := by rw [hS]; exact List.mem_append.mpr (.inl hp)
    exact List.forall_mem_cons.mpr ⟨Nat.ne_of_lt (hqS p hpS), List.forall_mem_cons.mpr ⟨hDS p hpS, fun r hr => ha1 p hp r hr⟩⟩
  obtain ⟨ds, hdd⟩ : ∃ ds, ds = digs N K a := ⟨_, rfl⟩
  have hsm : ∀ d ∈ ds, 0 ≤ d ∧ d < 2 ^ N := by rw [hdd]; exact digs_small N K a
  rw [← hdd] at hI hds hda
  refine tok_of F9 (Str.ofString "r") (i := 0) rfl fun t0 ht0 => ?_
  k_dflt (refine' for_revS (l := D) (vs := us) (dpLed qA D us S) dpPs [Str.ofString "q_digit"] (fun i c => Long N b ds i c.1 c.2.2.2.1 ∧ IntsAre c.2.2.1 c.2.2.2.1) (0, t0, [], [], 0) ?w1 ?w2 ?w3 ?w4 ?w5 ?w6 ?w7 ?w8 ?w9 ?wa ?_ ?_; (case w1 => exact rfl); (case w2 => exact rfl); (case w3 => exact rfl); (case w4 => exact rfl); (case w5 => k_asm); (case w6 => k_asm); (case w7 => exact List.forall_mem_cons.mpr ⟨Nat.ne_of_lt hqI, List.forall_mem_cons.mpr ⟨Nat.ne_of_lt (by dsimp only; (first | lia | omega)), fun p hp => Nat.ne_of_lt (hIS p hp)⟩⟩); (case w8 => exact List.forall_mem_cons.mpr ⟨ht0, List.forall_mem_nil _⟩); (case w9 => exact ⟨long_zero N hb ds, .nil⟩); (case wa => exact fun i c h m _ _ N' => PySem.IsL.isList (n := 0) (N' _ (.tail _ (.head _))).1))
  · intro i v
    refine pr5 fun r tr qs qn nn => ?_
    rintro uu h tk io hv hi ⟨hL, hqs⟩ hoff F' N'
    dsimp only [dpPs, dpLed] at hL hqs F' N' hoff
    obtain ⟨x, t, rfl, hx⟩ := ints_get hI hv
    have hx' : ds[ds.length - 1 - i]? = some x := by rw [hds, ← hul]; exact hx
    have hxs := hsm x (List.mem_of_getElem? hx')
    have hrb : Builtin.Int.intBits r ≤ 100000 := Nat.le_trans (bits_le hL.r0 (Int.lt_trans hL.r1 (bits_hi hb))) (by (first | lia | omega))
    have hll := hqs.length
    have hl2 := hL.len
    k_steps
    unfold Hold
    k_dflt (refine' use_d2' (long_pre hL hb rfl hN hxs) ?d2 ?d3 ?d4 ?d5 ?d6 ?d7 ?d8 ?d9 ?da ?_; (case d2 => exact hb2); (case d3 => k_asm); (case d4 => k_asm); (case d5 => k_asm); (case d6 => k_asm); (case d7 => k_asm); (case d8 => exact rfl); (case d9 => ktr_room); (case da => ktr_units))
    intro o' q' r' t' u' h' tk' F1' N1' l1' hq' h1' h2' h3'
    rw [← hN] at hq'
    have ho1 : @LT.lt Nat instLTNat qA o' := l1' _ (.tail _ (.head _))
    have ho2 : @LT.lt Nat instLTNat IA o' := l1' _ (.head _)
    k_steps
    exact SEnd.intro (r', _, qs ++ [.int q' _], qn ++ [q'], _) (by k_asm) (by k_asm) (List.forall_mem_cons.mpr ⟨by k_mem, List.forall_mem_nil _⟩) (by walk_at "sub_all") (off1 hoff) (by walk_at "vals_all") (by walk_at "names_all")
      ⟨long_step hL (by (first | lia | omega)) hx' hxs hq' h1', ints_snoc hqs _ _⟩
  · refine pr5 fun r tr qs qn nn => ?_
    rintro uu h tk ⟨hL, hqs⟩ F' N'
    dsimp only [dpPs, dpLed] at hL hqs F' N'
    have hll := hqs.length
    have hl2 := hL.len
    k_steps
    unfold Hold
    k_dflt (refine' rev_M ?k1 ?k2 ?k3 ?k4 ?_; (case k1 => k_asm); (case k2 => k_asm); (case k3 => k_updF); (case k4 => (show _ ≤ 16777216; (first | lia | omega))); k_whole)
    intro h5 F5 N5
    (try dsimp only at N5)
    k_steps
    unfold Hold
    k_dflt (refine' useT (T := T1) (front := [(qA, listOf qs.reverse.toArray nn), (D, listOf us.toArray 0)]) (rest := rest) ?u1 ?u2 ?u3 ?u4 ?u5 ?u6 (d2i_T (vs := qs.reverse) (nn := nn) (by assumption) _ _ ?u7 ?u8 _ _ _ _ ?u9 (ints_rev hqs) ?ua ?ub ?uc ?ud) ?ue ?uf ?ug ?_; (case u1 => k_asm); (case u2 => k_asm); (case u3 => k_asm); (case u4 => (rw [← hS]; k_asm)); (case u5 => k_asm); (case u6 => exact hap3 _ _); (case u7 => exact hT1); (case u8 => exact hap3 _ _); (case u9 => exact .head _); (case ua => (rw [List.length_reverse]; (first | lia | omega))); (case ub => (first | lia | omega)); (case uc => (first | lia | omega)); (case ud => (rw [← hN]; exact fun d hd => hL.dig d (List.mem_reverse.mp hd))); (case ue => exact rfl); (case uf => ktr_room); (case ug => ktr_units))
    intro v2 T2 new2 h2 tk2 F2 N2 hT2 hg2 ha2 hb2' hl2' hv2
    obtain ⟨t2⟩ := hv2
    simp only [List.cons_append, List.nil_append] at N2 hg2 ha2
    k_steps
    rename News h₀ L _ _ => NZ
    rename Fr h₀ L _ m => FZ
    have hq : Quot a b (val (↑(Builtin.Int.intBits b) : Int).toNat qn.reverse) r := by
      refine ⟨?_, hL.r0, hL.r1⟩
      have e1 := hL.eq
      rw [show ds.length - us.length = 0 by (first | lia | omega), List.drop_zero, hda, hN] at e1
      exact e1.symm
    refine dpos_close NZ (fun NZ' hZ => hret _ _ _ _ FZ NZ' ⟨T2, [_], rfl, hT2, hg1.trans (hg2.sub fun r hr => .tail _ (.tail _ hr)), List.forall_mem_cons.mpr ⟨⟨fun r hr => hZ r (List.mem_append.mpr (.inr hr)), fun r hr => Nat.ne_of_lt (hZ r (List.mem_append.mpr (.inl hr)))⟩, List.forall_mem_nil _⟩, _, _, _, _, _, hq⟩) ?_
    walk_at "lt_all"
end
section
theorem fresh8 : True := by
  w_top off
  trivial
local macro_rules | `(tactic| walk_at "call ref") => `(tactic| (k_here; refine hold ?_))

/-- division that rounds down -/
noncomputable def FQ (a b q r : Int) : Prop := q * b + r = a ∧ (0 < b → 0 ≤ r ∧ r < b) ∧ (b < 0 → b < r ∧ r ≤ 0)
noncomputable abbrev IsFQ (a b : Int) (v : Value) (new : List (Addr × Obj)) : Prop := IsPair (FQ a b) v new
theorem fq_neg {a b q r : Int} (h : FQ (-a) (-b) q r) : FQ a b q (-r) := by
  obtain ⟨h1, h2, h3⟩ := h
  refine ⟨?_, fun h => ?_, fun h => ?_⟩
  · rw [Int.mul_neg] at h1; (first | lia | omega)
  · have := h3 (by (first | lia | omega)); (first | lia | omega)
  · have := h2 (by (first | lia | omega)); (first | lia | omega)
theorem fq_not {a b q r : Int} (hb : 0 < b) (h : FQ (Builtin.bitNot a) b q r) : FQ a b (Builtin.bitNot q) (b + Builtin.bitNot r) := by
  rw [D.bitNot_eq] at h
  rw [D.bitNot_eq, D.bitNot_eq]
  obtain ⟨h1, h2, h3⟩ := h
  have := h2 hb
  refine ⟨?_, fun h => by (first | lia | omega), fun h => by (first | lia | omega)⟩
  have e : (-q - 1) * b = -(q * b) - b := by rw [Int.sub_mul, Int.neg_mul, Int.one_mul]
  rw [e]; (first | lia | omega)
theorem bits_neg (a : Int) : Builtin.Int.intBits (-a) = Builtin.Int.intBits a := by
  unfold Builtin.Int.intBits
  rw [Int.natAbs_neg]
  have : (-a == 0) = (a == 0) := by rw [Bool.eq_iff_iff]; simp
  rw [this]
theorem bits_not (a : Int) (h : a < 0) : Builtin.Int.intBits (Builtin.bitNot a) ≤ Builtin.Int.intBits a := by
  rw [D.bitNot_eq]
  refine intBits_le_iff.mpr ?_
  have := intBits_le_iff.mp (Nat.le_refl (Builtin.Int.intBits a))
  (first | lia | omega)

theorem pair_close {h₀ h : Heap} {L D' D : Addr} {o o1 : Obj} {S : List (Addr × Obj)} {Z : Prop} (N : News h₀ L h ((D', o) :: (D, o1) :: S)) (k : News h₀ L h ([(D', o)] ++ S) → (∀ p ∈ S, p.1 < D') → Z) (hlt : ∀ p ∈ S, p.1 < D') : Z :=
  k (news_sub N (List.forall_mem_cons.mpr ⟨.head _, fun p hp => .tail _ (.tail _ hp)⟩)) hlt

section
variable {w : World} {base : Heap} (hcI : CodeHd base 51 47) (hcD : CodeHd base 58 54) (T rest : List (Addr × Obj)) (hT : Tabs T) (hap : Apart T rest)
include hcI hcD hT hap

theorem idiv1_T (a b : Int) (ta tb : Tok) (ha : 0 ≤ a) (hb : 0 < b) (hb2 : (Builtin.Int.intBits b : Int) ≤ 4000 * 2 ^ kD) (hlen : (Builtin.Int.intBits a : Int) ≤ 99 * (Builtin.Int.intBits b : Int)) :
    CallT w base T rest 122 1200 73 [.int a ta, .int b tb] (IsFQ a b) := by
  have dummy : (fun (_ : OpenLaw) (_ : Params → Frag) => True) PySem.Challenge.rw_rl0045_02 hd2.heap_39 := by k_fill; trivial
  clear dummy
  intro p loose mean mg mb dp un gd cn cs ad ccd cl outer A₀ h₀ L m s Q E B F X N T0 hk hd hu hret
  refine wpAny_call ?_
  k_dflt cell_enter
  k_steps
  all_goals try (exfalso; (first | lia | omega))
  · unfold Hold
    k_dflt (refine' useT (T := T) (front := []) (rest := rest) ?u1 ?u2 ?u3 ?u4 ?u5 ?u6 (dpos_T hcI hcD _ _ ?u7 ?u8 _ _ _ _ ?uh0 ?uh1 ?uh2 ?uh3) ?u9 ?ua ?ub ?_; (case u1 => k_asm); (case u2 => k_asm); (case u3 => k_asm); (case u4 => k_asm); (case u5 => k_asm); (case u6 => exact hap); (case u7 => exact hT); (case u8 => exact hap); (case uh0 => exact ha); (case uh1 => exact hb); (case uh2 => exact hb2); (case uh3 => exact hlen); (case u9 => exact rfl); (case ua => ktr_room); (case ub => ktr_units))
    intro v1 T1 new1 h1 tk1 F1 N1 hT1 hg1 ha1 hb1 hl1 hv1
    obtain ⟨o1, q1, t1, r1, u1, hq1⟩ := hv1
    simp only [List.cons_append, List.nil_append] at N1 hg1 ha1
    k_steps
    rename News h₀ L _ _ => NZ
    rename Fr h₀ L _ m => FZ
    exact hret _ _ _ _ FZ NZ ⟨T1, [_], rfl, hT1, hg1, List.forall_mem_cons.mpr ⟨⟨hl1 _ (.head _), fun r hr => hb1 r hr _ (.head _)⟩, List.forall_mem_nil _⟩, _, _, _, _, _, ⟨hq1.1, fun _ => hq1.2, fun h => by (first | lia | omega)⟩⟩

theorem idiv2_T (a b : Int) (ta tb : Tok) (hb : 0 < b) (hb2 : (Builtin.Int.intBits b : Int) ≤ 4000 * 2 ^ kD) (hlen : (Builtin.Int.intBits a : Int) ≤ 99 * (Builtin.Int.intBits b : Int)) :
    CallT w base T rest 124 1300 73 [.int a ta, .int b tb] (IsFQ a b) := by
  by_cases ha : 0 ≤ a
  · intro p loose mean mg mb dp un gd cn cs ad ccd cl outer A₀ h₀ L m s Q E B F X N T0 hk hd hu hret
    exact idiv1_T hcI hcD T rest hT hap a b ta tb ha hb hb2 hlen _ _ _ _ _ _ _ _ _ _ _ _ _ _ _ _ _ _ _ _ _ B F X N T0 hk (by (first | lia | omega)) (by (first | lia | omega)) hret
  have dummy : (fun (_ : OpenLaw) (_ : Params → Frag) => True) PySem.Challenge.rw_rl0045_02 hd2.heap_39 := by k_fill; trivial
  clear dummy
  intro p loose mean mg mb dp un gd cn cs ad ccd cl outer A₀ h₀ L m s Q E B F X N T0 hk hd hu hret
  refine wpAny_call ?_
  k_dflt cell_enter
  have hz := bits_not a (by (first | lia | omega))
  k_steps
  all_goals try (exfalso; (first | lia | omega))
  · unfold Hold
    k_dflt (refine' useT (T := T) (front := []) (rest := rest) ?u1 ?u2 ?u3 ?u4 ?u5 ?u6 (idiv1_T hcI hcD _ _ ?u7 ?u8 _ _ _ _ ?uh0 ?uh1 ?uh2 ?uh3) ?u9 ?ua ?ub ?_; (case u1 => k_asm); (case u2 => k_asm); (case u3 => k_asm); (case u4 => k_asm); (case u5 => k_asm); (case u6 => exact hap); (case u7 => exact hT); (case u8 => exact hap); (case uh0 => (rw [D.bitNot_eq]; (first | lia | omega))); (case uh1 => exact hb); (case uh2 => exact hb2); (case uh3 => (first | lia | omega)); (case u9 => exact rfl); (case ua => ktr_room); (case ub => ktr_units))
    intro v1 T1 new1 h1 tk1 F1 N1 hT1 hg1 ha1 hb1 hl1 hv1
    obtain ⟨o1, q1, t1, r1, u1, hq1⟩ := hv1
    simp only [List.cons_append, List.nil_append] at N1 hg1 ha1
    k_steps
    rename News h₀ L _ _ => NZ
    rename Fr h₀ L _ m => FZ
    refine pair_close NZ (fun NZ' hZ => hret _ _ _ _ FZ NZ' ⟨T1, [_], rfl, hT1, hg1, List.forall_mem_cons.mpr ⟨⟨fun r hr => hZ r (List.mem_append.mpr (.inr hr)), fun r hr => Nat.ne_of_lt (hZ r (List.mem_append.mpr (.inl hr)))⟩, List.forall_mem_nil _⟩, _, _, _, _, _, fq_not hb hq1⟩) ?_
    walk_at "lt_all"

theorem idiv_T (a b : Int) (ta tb : Tok) (hb : b ≠ 0) (hb2 : (Builtin.Int.intBits b : Int) ≤ 4000 * 2 ^ kD) (hlen : (Builtin.Int.intBits a : Int) ≤ 99 * (Builtin.Int.intBits b : Int)) :
    CallT w base T rest 126 1400 73 [.int a ta, .int b tb] (IsFQ a b) := by
  by_cases hb0 : 0 < b
  · intro p loose mean mg mb dp un gd cn cs ad ccd cl outer A₀ h₀ L m s Q E B F X N T0 hk hd hu hret
    exact idiv2_T hcI hcD T rest hT hap a b ta tb hb0 hb2 hlen _ _ _ _ _ _ _ _ _ _ _ _ _ _ _ _ _ _ _ _ _ B F X N T0 hk (by (first | lia | omega)) (by (first | lia | omega)) hret
  have dummy : (fun (_ : OpenLaw) (_ : Params → Frag) => True) PySem.Challenge.rw_rl0045_02 hd2.heap_39 := by k_fill; trivial
  clear dummy
  intro p loose mean mg mb dp un gd cn cs ad ccd cl outer A₀ h₀ L m s Q E B F X N T0 hk hd hu hret
  refine wpAny_call ?_
  k_dflt cell_enter
  have hz := bits_neg a
  have hz' := bits_neg b
  k_steps
  all_goals try (exfalso; (first | lia | omega))
  · unfold Hold
    k_dflt (refine' useT (T := T) (front := []) (rest := rest) ?u1 ?u2 ?u3 ?u4 ?u5 ?u6 (idiv2_T hcI hcD _ _ ?u7 ?u8 _ _ _ _ ?uh0 ?uh1 ?uh2) ?u9 ?ua ?ub ?_; (case u1 => k_asm); (case u2 => k_asm); (case u3 => k_asm); (case u4 => k_asm); (case u5 => k_asm); (case u6 => exact hap); (case u7 => exact hT); (case u8 => exact hap); (case uh0 => (first | lia | omega)); (case uh1 => (first | lia | omega)); (case uh2 => (first | lia | omega)); (case u9 => exact rfl); (case ua => ktr_room); (case ub => ktr_units))
    intro v1 T1 new1 h1 tk1 F1 N1 hT1 hg1 ha1 hb1 hl1 hv1
    obtain ⟨o1, q1, t1, r1, u1, hq1⟩ := hv1
    simp only [List.cons_append, List.nil_append] at N1 hg1 ha1
    k_steps
    rename News h₀ L _ _ => NZ
    rename Fr h₀ L _ m => FZ
    refine pair_close NZ (fun NZ' hZ => hret _ _ _ _ FZ NZ' ⟨T1, [_], rfl, hT1, hg1, List.forall_mem_cons.mpr ⟨⟨fun r hr => hZ r (List.mem_append.mpr (.inr hr)), fun r hr => Nat.ne_of_lt (hZ r (List.mem_append.mpr (.inl hr)))⟩, List.forall_mem_nil _⟩, _, _, _, _, _, fq_neg hq1⟩) ?_
    walk_at "lt_all"
end
end
section
local macro_rules | `(tactic| walk_at "zz0") => `(tactic| skip)
theorem fresh9 : True := by
  w_top off
  trivial
local macro_rules | `(tactic| walk_at "call ref") => `(tactic| (k_here; refine hold ?_))
/-- what _law_divided hands back -/
noncomputable def LQ (a b turn q r : Int) : Prop := q * b + r = a ∧ (turn = 1 ∨ turn = 2 → 0 < r ∧ r ≤ b) ∧ (turn = 0 ∨ turn = 3 → 0 ≤ r ∧ r < b)
theorem lq0 {a b q r : Int} (hb : 0 < b) (h : FQ a b q r) : LQ a b 0 q r := ⟨h.1, fun h => by (first | lia | omega), fun _ => h.2.1 hb⟩
theorem lq1 {a b q r : Int} (hb : 0 < b) (h : FQ (-a) b q r) : LQ a b 1 (-q - 1) (b - r) := by
  have := h.1
  have := h.2.1 hb
  have e : (-q - 1) * b = -(q * b) - b := by rw [Int.sub_mul, Int.neg_mul, Int.one_mul]
  exact ⟨by rw [e]; (first | lia | omega), fun _ => by (first | lia | omega), fun h => by (first | lia | omega)⟩
theorem lq2 {a b q r : Int} (hb : 0 < b) (h : FQ a (-b) q r) : LQ a b 2 (-q - 1) (b - -r) := by
  have h1 := h.1
  have := h.2.2 (by (first | lia | omega))
  rw [Int.mul_neg] at h1
  have e : (-q - 1) * b = -(q * b) - b := by rw [Int.sub_mul, Int.neg_mul, Int.one_mul]
  exact ⟨by rw [e]; (first | lia | omega), fun _ => by (first | lia | omega), fun h => by (first | lia | omega)⟩
theorem lq3 {a b q r : Int} (hb : 0 < b) (h : FQ (-a) (-b) q r) : LQ a b 3 q (-r) := by
  have h1 := h.1
  have := h.2.2 (by (first | lia | omega))
  rw [Int.mul_neg] at h1
  exact ⟨by (first | lia | omega), fun h => by (first | lia | omega), fun _ => by (first | lia | omega)⟩
/-- a number chosen by a test: what is known of it -/
noncomputable def IntEnd (P : Int → Prop) (s : Shared) (v : Value) (s' : Shared) : Prop := ∃ x t tk, P x ∧ v = .int x t ∧ s' = { s with toks := tk }
theorem int_cut {M : Model} {A : Around} {e : PySem.Expr} {env : Env} {E : Value → Shared → Prop} {Q : Value → Shared → Prop} {s : Shared} (P : Int → Prop) (h1 : wpAny M A (eval e env) (IntEnd P s) E s) (h2 : ∀ x t tk, P x → Q (.int x t) { s with toks := tk }) : wpAny M A (eval e env) Q E s :=
  wpAny_mono h1 (fun v s' h9 => by obtain ⟨x, t, tk, hP, rfl, rfl⟩ := h9; exact h2 x t tk hP) fun _ _ h9 => h9
theorem lq_all {a b turn x y q r : Int} (hb : 0 < b) (hx : (turn.fmod 2 = 1 ∧ x = -a) ∨ (turn.fmod 2 ≠ 1 ∧ x = a)) (hy : (1 < turn ∧ y = -b) ∨ (¬ 1 < turn ∧ y = b)) (h : FQ x y q r) :
    (turn = 0 → LQ a b turn q r) ∧ (turn = 1 → LQ a b turn (-q - 1) (b - r)) ∧ (turn = 2 → LQ a b turn (-q - 1) (b - -r)) ∧ (turn = 3 → LQ a b turn q (-r)) := by
  refine ⟨fun e => ?_, fun e => ?_, fun e => ?_, fun e => ?_⟩ <;> subst e
  · obtain ⟨h1, _⟩ | ⟨_, rfl⟩ := hx
    · exact absurd h1 (by decide)
    obtain ⟨h1, _⟩ | ⟨_, rfl⟩ := hy
    · exact absurd h1 (by decide)
    exact lq0 hb h
  · obtain ⟨_, rfl⟩ | ⟨h1, _⟩ := hx
    · obtain ⟨h1, _⟩ | ⟨_, rfl⟩ := hy
      · exact absurd h1 (by decide)
      exact lq1 hb h
    · exact absurd rfl h1
  · obtain ⟨h1, _⟩ | ⟨_, rfl⟩ := hx
    · exact absurd h1 (by decide)
    obtain ⟨_, rfl⟩ | ⟨h1, _⟩ := hy
    · exact lq2 hb h
    · exact absurd (by decide) h1
  · obtain ⟨_, rfl⟩ | ⟨h1, _⟩ := hx
    · obtain ⟨_, rfl⟩ | ⟨h1, _⟩ := hy
      · exact lq3 hb h
      · exact absurd (by decide) h1
    · exact absurd rfl h1
local macro_rules | `(tactic| walk_at "eval IfExp") => `(tactic| (k_here; refine hold ?_))
noncomputable abbrev IsLQ (a b turn : Int) (v : Value) (new : List (Addr × Obj)) : Prop := IsPair (LQ a b turn) v new
section
variable {w : World} {base : Heap} (hcI : CodeHd base 51 47) (hcD : CodeHd base 58 54) (T rest : List (Addr × Obj)) (hT : Tabs T) (hap : Apart T rest)
include hcI hcD hT hap
theorem ldiv_T (a b turn : Int) (ta tb tt : Tok) (hb : 0 < b) (hb2 : (Builtin.Int.intBits b : Int) ≤ 4000 * 2 ^ kD) (hlen : (Builtin.Int.intBits a : Int) ≤ 99 * (Builtin.Int.intBits b : Int)) (ht0 : 0 ≤ turn) (ht3 : turn ≤ 3) :
    CallT w base T rest 128 1500 118 [.int a ta, .int b tb, .int turn tt] (IsLQ a b turn) := by
  have dummy : (fun (_ : OpenLaw) (_ : Params → Frag) => True) PySem.Challenge.rw_rl0045_02 hd2.heap_39 := by k_fill; trivial
  clear dummy
  have hz := bits_neg a
  have hz' := bits_neg b
  intro p loose mean mg mb dp un gd cn cs ad ccd cl outer A₀ h₀ L m s Q E B F X N T0 hk hd hu hret
  refine wpAny_call ?_
  k_dflt cell_enter
  k_steps
  unfold Hold
  refine int_cut (fun x => (turn.fmod 2 = 1 ∧ x = -a) ∨ (turn.fmod 2 ≠ 1 ∧ x = a)) ?_ ?_
  · refine wpAny_IfExp ?_
    k_steps
    · exact ⟨_, _, _, .inl ⟨by assumption, rfl⟩, rfl, rfl⟩
    · exact ⟨_, _, _, .inr ⟨by assumption, rfl⟩, rfl, rfl⟩
  intro x tx kx hx
  (try dsimp only)
  k_steps
  unfold Hold
  refine int_cut (fun y => (1 < turn ∧ y = -b) ∨ (¬ 1 < turn ∧ y = b)) ?_ ?_
  · refine wpAny_IfExp ?_
    k_steps
    · exact ⟨_, _, _, .inl ⟨by assumption, rfl⟩, rfl, rfl⟩
    · exact ⟨_, _, _, .inr ⟨by assumption, rfl⟩, rfl, rfl⟩
  intro y ty ky hy
  (try dsimp only)
  have hzx : Builtin.Int.intBits x = Builtin.Int.intBits a := by
    rcases hx with ⟨_, e⟩ | ⟨_, e⟩
    · rw [e]; exact hz
    · rw [e]
  have hzy : Builtin.Int.intBits y = Builtin.Int.intBits b ∧ y ≠ 0 := by
    rcases hy with ⟨_, e⟩ | ⟨_, e⟩
    · rw [e]; exact ⟨hz', by (first | lia | omega)⟩
    · rw [e]; exact ⟨rfl, by (first | lia | omega)⟩
  k_steps
  unfold Hold
  k_dflt (refine' useT (T := T) (front := []) (rest := rest) ?u1 ?u2 ?u3 ?u4 ?u5 ?u6 (idiv_T hcI hcD _ _ ?u7 ?u8 _ _ _ _ ?uh0 ?uh1 ?uh2) ?u9 ?ua ?ub ?_; (case u1 => k_asm); (case u2 => k_asm); (case u3 => k_asm); (case u4 => k_asm); (case u5 => k_asm); (case u6 => exact hap); (case u7 => exact hT); (case u8 => exact hap); (case uh0 => exact hzy.2); (case uh1 => (rw [hzy.1]; exact hb2)); (case uh2 => (rw [hzy.1, hzx]; exact hlen)); (case u9 => exact rfl); (case ua => ktr_room); (case ub => ktr_units))
  intro v1 T1 new1 h1 tk1 F1 N1 hT1 hg1 ha1 hb1 hl1 hv1
  obtain ⟨o1, q1, t1, r1, u1, hq1⟩ := hv1
  have hall := lq_all hb hx hy hq1
  simp only [List.cons_append, List.nil_append] at N1 hg1 ha1
  clear hx hy hzx hzy hz hz'
  k_steps
  all_goals try (exfalso; (first | lia | omega))
  all_goals
    rename News h₀ L _ _ => NZ
    rename Fr h₀ L _ m => FZ
    refine pair_close NZ (fun NZ' hZ => hret _ _ _ _ FZ NZ' ⟨T1, [_], rfl, hT1, hg1, List.forall_mem_cons.mpr ⟨⟨fun r hr => hZ r (List.mem_append.mpr (.inr hr)), fun r hr => Nat.ne_of_lt (hZ r (List.mem_append.mpr (.inl hr)))⟩, List.forall_mem_nil _⟩, _, _, _, _, _, ?_⟩) ?_
    · first | exact hall.1 (by (first | lia | omega)) | exact hall.2.1 (by (first | lia | omega)) | exact hall.2.2.1 (by (first | lia | omega)) | exact hall.2.2.2 (by (first | lia | omega))
    · walk_at "lt_all"
end
end
section
local macro_rules | `(tactic| walk_at "zz0") => `(tactic| skip)
local macro_rules | `(tactic| walk_at "zz1") => `(tactic| skip)
local macro_rules | `(tactic| walk_at "zz2") => `(tactic| skip)
local macro_rules | `(tactic| walk_at "zz3") => `(tactic| skip)
theorem fresh10 : True := by
  w_top off
  trivial
/-- a call that leaves a generator behind -/
noncomputable abbrev CallG (w : World) (base : Heap) (news : List (Addr × Obj)) (d u : Nat) (f : Addr) (vs : List Value) (R : Value → List (Addr × Obj) → Prop) : Prop :=
  ∀ (p : Program) (loose : List Str) (mean : ExcName → Option Value) (mg mb : Str → Option Value) (dp un : Nat) (gd : Option (List Code)) (cn : Str) (cs : Scope) (a : Addr) (ccd : Value) (cl : List (Str × Addr)) (outer : List Env) (A₀ : Around) (h₀ : Heap) (L : Addr) (m : Str → Option Value) (s : Shared) (Q E : Value → Shared → Prop),
    Below A₀ base outer h₀ → Fr h₀ L s.heap m → (hd2.heap_39 w.params).In h₀ → News h₀ L s.heap news → Top p loose mean mg mb h₀ → cs.kind = .function →
    dp + d < recursionLimit → un + u < cLine → AllB s.gens →
    (∀ v nx h' tk' gns, Fr h₀ L h' m → News h₀ L h' nx → AllB gns → R v nx → Q v { s with heap := h', toks := tk', gens := gns }) →
    wpAny (model PySem.Challenge.rw_rl0045_02.row.prog w) (ktrTop dp un gd cn cs L a ccd cl outer) (call (.ref f) vs) Q E s

theorem useG {w : World} {base : Heap} {news : List (Addr × Obj)} {d u : Nat} {f : Addr} {vs : List Value} {p : Program} {loose : List Str} {mean : ExcName → Option Value} {mg mb : Str → Option Value} {dp un : Nat} {gd : Option (List Code)} {cn : Str} {cs : Scope} {a : Addr} {ccd : Value} {cl : List (Str × Addr)} {outer : List Env} {A₀ : Around} {h₀ : Heap} {L : Addr} {m : Str → Option Value} {s : Shared} {Q E : Value → Shared → Prop}
    {R : Value → List (Addr × Obj) → Prop} (C : CallG w base news d u f vs R) (B : Below A₀ base outer h₀) (F : Fr h₀ L s.heap m) (X : (hd2.heap_39 w.params).In h₀) (N : News h₀ L s.heap news) (T : Top p loose mean mg mb h₀) (hk : cs.kind = .function)
    (hd : dp + d < recursionLimit) (hu : un + u < cLine) (hB : AllB s.gens) (h : ∀ v nx h' tk' gns, Fr h₀ L h' m → News h₀ L h' nx → AllB gns → R v nx → Q v { s with heap := h', toks := tk', gens := gns }) :
    wpAny (model PySem.Challenge.rw_rl0045_02.row.prog w) (ktrTop dp un gd cn cs L a ccd cl outer) (call (.ref f) vs) Q E s := C _ _ _ _ _ _ _ _ _ _ _ _ _ _ _ _ _ _ _ _ _ B F X N T hk hd hu hB h

local macro_rules | `(tactic| walk_at "exec For Name Call cons nil") => `(tactic| (k_here; (with_unfolding_all refine wpAny_For ?_ (by intro _; rfl))))
local macro_rules | `(tactic| walk_at "pyIter ref") => `(tactic| (k_here; refine hold ?_))
local macro_rules | `(tactic| walk_at "call ref") => `(tactic| (k_here; refine hold ?_))
local macro_rules | `(tactic| walk_at "call builtin:list.append") => `(tactic| (k_here; k_dflt (refine' append_M ?k1 ?k2 ?k3 ?k4 ?_; (case k1 => k_asm); (case k2 => k_asm); (case k3 => k_updF); (case k4 => (show _ ≤ 16777216; lia)); k_whole); intro h' nn' F' N'; (try dsimp only at N')))
local macro_rules | `(tactic| walk_at "call builtin:len") => `(tactic| (k_here; k_dflt (refine' len_M ?k1 ?k2 ?k3 ?_; (case k1 => k_asm); (case k2 => k_mem); (case k3 => lia); k_whole); intro t' tk'))
local macro_rules | `(tactic| k_all) => `(tactic| first | assumption | (refine allNe_of_lt1 ?_; assumption) | exact allNe_of_lt (by assumption) (by lia))

noncomputable abbrev TOst := List Value × Nat
noncomputable abbrev toLed (q : Addr) (S : List (Addr × Obj)) (c : TOst) : List (Addr × Obj) := (q, listOf c.1.toArray c.2) :: S
noncomputable abbrev toPs (_ : TOst) : List (Str × Value) := []

theorem named3 {h₀ h : Heap} {L a C q : Addr} {og oC o : Obj} {l : List (Addr × Obj)} {Z : Prop} (_N : News h₀ L h ((a, og) :: (C, oC) :: (q, o) :: l)) (k : ∀ q', q' = q → Z) : Z := k q rfl
theorem allB_push {gns : Array GenState} {c : Code} (h : AllB gns) : AllB (gns.push (.fresh c)) := fun x hx => (Array.mem_push.mp hx).elim (h x) fun e => by rw [e]; rfl
theorem get_push (gns : Array GenState) (x : GenState) : (gns.push x)[gns.size]? = some x := by simp
theorem off3 {a C I q : Addr} {o o' og oC oI : Obj} {r : List (Addr × Obj)} (h : ∀ p ∈ (q, o) :: r, p.1 ≠ a ∧ p.1 ≠ C ∧ p.1 ≠ I) : ∀ p ∈ (q, o') :: r, ∀ k ∈ [(a, og), (C, oC), (I, oI)], p.1 ≠ k.1 := by
  intro p hp k hk
  have h3 : p.1 ≠ a ∧ p.1 ≠ C ∧ p.1 ≠ I := by
    rcases List.mem_cons.mp hp with rfl | hp
    · exact h (q, o) (.head _)
    · exact h p (.tail _ hp)
  revert k
  exact List.forall_mem_cons.mpr ⟨h3.1, List.forall_mem_cons.mpr ⟨h3.2.1, List.forall_mem_cons.mpr ⟨h3.2.2, List.forall_mem_nil _⟩⟩⟩
theorem told_c {w : World} {base : Heap} (news : List (Addr × Obj)) (lr : Addr) (vs : List Value) (ns : List Int) (nn : Nat) (hlr : (lr, listOf vs.toArray nn) ∈ news) (hints : IntsAre vs ns) (hok : gok none ns) (most : Int) (tm : Tok) (hm0 : 0 ≤ most) (hm1 : most ≤ 100) :
    CallG w base news 5 60 111 [.ref lr, .int most tm] (fun v nx => ∃ q us n' i, v = .ref q ∧ nx = (q, listOf us.toArray n') :: news ∧ (∀ p ∈ news, p.1 < q) ∧ IntsAre us (tolds (gseq none ns) i) ∧ (i : Int) ≤ most ∧ ((i : Int) = most ∨ gseq none ns i = none)) := by
  have dummy : (fun (_ : OpenLaw) (_ : Params → Frag) => True) PySem.Challenge.rw_rl0045_02 hd2.heap_39 := by k_fill; trivial
  clear dummy
  intro p loose mean mg mb dp un gd cn cs ad ccd cl outer A₀ h₀ L m s Q E B F X N T0 hk hd hu hB hret
  refine wpAny_call ?_
  k_dflt cell_enter
  k_steps
  unfold Hold
  refine wpAny_call ?_
  k_dflt (refine' code_gen ?k1 ?k2 ?k3 ?k4 ?k5 ?k6 ?k7 ?k8 ?k9 ?_ ?ka ?kb ?kc ?kd; (case k1 => k_asm); (case k2 => k_asm); (case k3 => k_asm); (case k4 => k_asm); (case k5 => k_is); (case k6 => k_is); (case k7 => ktr_room); (case k8 => exact BindsTo.of_eq rfl); (case k9 => exact locs rfl); (case ka => exact rfl); (case kb => exact rfl); (case kc => exact rfl); (case kd => decide))
  intro C a h2 tk2 og oC F2 N2 hCa hnC hLC FC hog
  refine named3 N2 ?_
  intro q hq
  subst hq
  rename Frag.In _ _ => XG
  rename Top _ _ _ _ _ _ => TG
  have hlC : lr < C := hnC _ (.tail _ hlr)
  have hqC : @LT.lt Nat instLTNat q C := hnC _ (.head _)
  have hqa : @LT.lt Nat instLTNat q a := Nat.lt_trans hqC hCa
  have hqI : @LT.lt Nat instLTNat q h2.objs.size := Heap.lt_size (N2 _ (.tail _ (.tail _ (.head _)))).1
  have hqn : ∀ p ∈ news, p.1 < q := by walk_at "lt_all"
  have hvl := hints.length
  show wpAny _ _ (pyIter (.ref a)) _ _ _
  k_dflt (refine' for_genS (lr := lr) (lo := listOf vs.toArray nn) (Nt := 999 + 1) (seq := gseq none ns) (toLed q news) toPs [] (fun i c => IntsAre c.1 (tolds (gseq none ns) i) ∧ (i : Int) ≤ most ∧ c.1.length = i) ([], 0) ?w1 ?w2 ?w3 ?w4 ?w5 ?w6 ?w7 ?w8 ?w9 ?wa ?wb ?wc ?wd ?we ?wf ?wg ?wh ?wi ?wj ?wk ?_ ?_; (case w1 => exact rfl); (case w2 => exact rfl); (case w3 => exact rfl); (case w4 => exact rfl); (case w5 => ktr_room); (case w6 => exact TG.nolimit); (case w7 => exact hog); (case w8 => exact rfl); (case w9 => exact Nat.ne_of_lt hlC); (case wa => exact F2); (case wb => exact N2); (case wc => exact Nat.ne_of_gt hCa); (case wd => exact fun p hp => ⟨Nat.ne_of_lt (Nat.lt_trans (hnC p hp) hCa), Nat.ne_of_lt (hnC p hp)⟩); (case we => exact List.forall_mem_nil _); (case wf => exact ⟨.nil, hm0, rfl⟩); (case wg => exact allB_push hB); (case wh => exact get_push _ _); (case wj => exact fun i c _ => .tail _ hlr); (case wk => (rintro i c ⟨_, h9, _⟩; (first | lia | omega))))
  · refine ⟨rfl, ?_⟩
    k_dflt (refine' seg_gstart (lr := lr) (vs := vs) (ns := ns) (n := 999) ?g1 ?g2 ?g3 ?g4 ?g5 ?g6 ?g7 ?g8 ?g9 ?ga ?gb ?gc ?gd ?ge ?gf ?gg ?gh ?gi ?gj ?gk ?gl; (case g1 => exact rfl); (case g2 => exact rfl); (case g3 => exact rfl); (case g4 => exact rfl); (case g5 => exact rfl); (case g6 => exact rfl); (case g7 => exact rfl); (case g8 => exact rfl); (case g9 => (intro A' E' s' m' Q' F' hq'; refine' name_K F' ?x1 ?x2 ?x3 hq'; (case x1 => exact XG); (case x2 => k_asm); (case x3 => k_is))); (case ga => exact rfl); (case gb => (intro _; exact rfl)); (case gc => exact rfl); (case gd => exact Nat.ne_of_lt hlC); (case ge => exact hints); (case gf => exact rfl); (case gg => (intro k; exact rfl)); (case gh => exact hok); (case gi => exact FC); (case gj => exact rfl); (case gk => exact PySem.IsL.isList (n := nn) (N2 _ (.tail _ (.tail _ (.tail _ hlr)))).1); (case gl => exact rfl))
  · intro i v t
    refine pr2 fun us n' => ?_
    rintro u h tk gns oC' oI hsq ⟨hi1, hi2, hi3⟩ hBg hoff F' N'
    dsimp only [toPs, toLed] at hi1 hi3 F' N' hoff
    k_steps
    · rename ((us.length : Int) = most) => he
      rename News h₀ L _ _ => NZ
      rename Fr h₀ L _ m => FZ
      exact hret _ _ _ _ _ FZ (news_sub (b := (q, listOf us.toArray n') :: news) NZ (by walk_at "sub_all")) hBg ⟨q, us, n', i, rfl, rfl, hqn, hi1, hi2, .inl (by rw [← hi3]; exact he)⟩
    · rename ((us.length : Int) ≠ most) => he
      have hq1 : IntsAre (us ++ [.int v t]) (tolds (gseq none ns) (i + 1)) := by
        show IntsAre _ (tolds _ i ++ (gseq none ns i).toList)
        rw [hsq]; exact ints_snoc hi1 v t
      have hq2 : (((i + 1 : Nat)) : Int) ≤ most := by
        have : (i : Int) ≠ most := by rw [← hi3]; exact he
        (first | lia | omega)
      exact SEnd.intro (us ++ [.int v t], _) (by k_asm) (by k_asm) (by walk_at "sub_all") (by walk_at "sub_all") (off3 hoff) (by walk_at "vals_all") (by walk_at "names_all") ⟨hq1, hq2, by simp [hi3]⟩
  · intro i
    refine pr2 fun us n' => ?_
    rintro u h tk gns hsq ⟨hi1, hi2, hi3⟩ hBg F' N'
    dsimp only [toPs, toLed] at hi1 hi3 F' N'
    k_steps
    rename News h₀ L _ _ => NZ
    rename Fr h₀ L _ m => FZ
    exact hret _ _ _ _ _ FZ NZ hBg ⟨q, us, n', i, rfl, rfl, hqn, hi1, hi2, .inr hsq⟩
end
section
theorem fresh11 : True := by
  w_top off
  trivial
local macro_rules | `(tactic| walk_at "exec For Name Call cons nil") => `(tactic| (k_here; (with_unfolding_all refine wpAny_For ?_ (by intro _; rfl))))
local macro_rules | `(tactic| walk_at "pyIter ref") => `(tactic| (k_here; refine hold ?_))
local macro_rules | `(tactic| walk_at "call type:list") => `(tactic| (k_here; refine hold ?_))

noncomputable abbrev ceLed (D2 D1 : Addr) (ws : List Value) (c1 : Nat) (S : List (Addr × Obj)) (c : List Value × List Int) : List (Addr × Obj) := (D2, listOf ws.toArray 0) :: (D1, listOf c.1.toArray c1) :: S
noncomputable abbrev cePs (_ : List Value × List Int) : List (Str × Value) := []
theorem off1b {I D2 D1 : Addr} {o2 o o' io : Obj} {r : List (Addr × Obj)} (h : ∀ p ∈ (D2, o2) :: (D1, o) :: r, p.1 ≠ I) : ∀ p ∈ (D2, o2) :: (D1, o') :: r, ∀ q ∈ [(I, io)], p.1 ≠ q.1 := by
  intro p hp q hq
  rw [List.mem_singleton.mp hq]
  rcases List.mem_cons.mp hp with rfl | hp
  · exact h _ (.head _)
  · rcases List.mem_cons.mp hp with rfl | hp
    · exact h (D1, o) (.tail _ (.head _))
    · exact h p (.tail _ (.tail _ hp))
theorem cells_c {w : World} {base : Heap} (news : List (Addr × Obj)) (lr lo : Addr) (vs os : List Value) (ns ms : List Int) (nn : Nat) (hls : base.IsList lr vs.toArray) (hlo : (lo, listOf os.toArray nn) ∈ news) (hvs : IntsAre vs ns) (hos : IntsAre os ms) (hm : ms.length = 7) (hm0 : ∀ c ∈ ms, 0 ≤ c ∧ c ≤ 1000) (hn : ns.length ≤ 63) :
    CallL w base news 5 60 104 [.ref lr, .ref lo] (fun v nx => ∃ q us n' cs, v = .ref q ∧ nx = (q, listOf us.toArray n') :: news ∧ (∀ p ∈ news, p.1 < q) ∧ IntsAre us cs ∧ cs.length = 7 ∧ ∀ c ∈ cs, 0 ≤ c ∧ c ≤ 70000000) := by
  have dummy : (fun (_ : OpenLaw) (_ : Params → Frag) => True) PySem.Challenge.rw_rl0045_02 hd2.heap_39 := by k_fill; trivial
  clear dummy
  intro p loose mean mg mb dp un gd cn cs ad ccd cl outer A₀ h₀ L m s Q E B F X N T0 hk hd hu hret
  refine wpAny_call ?_
  k_dflt cell_enter
  have hls' : h₀.IsList lr vs.toArray := list_kept hls fun o e => B.stays _ _ e
  have hvl := hvs.length
  have hol := hos.length
  k_steps
  unfold Hold
  k_dflt (refine' kup_listOf ?F ?N ?b ?e ?_ ?z; (case F => k_asm); (case N => k_asm); (case b => k_mem); (case e => exact rfl); (case z => (show _ ≤ 16777216; (try simp only [List.toList_toArray, Array.length_toList, List.size_toArray]); (first | lia | omega))))
  intro D1 c1 h8 F8 N8 l8
  (try k_lt l8)
  (try k_sweep)
  k_steps
  unfold Hold
  rename_i h9 D2 ws h10 hI hC hL2 l10 h11 F11 N11 h12 tk12 t12 u12 v12 R12 F12 N12 K12
  have hD12 : @LT.lt Nat instLTNat D1 D2 := l10.1
  have hn1 : ∀ p ∈ news, p.1 < D1 := l8
  have hn2 : ∀ p ∈ news, p.1 < D2 := allLt_all l10.2
  have hwl := hI.length
  k_dflt (refine' for_rangeS (n := (List.take 63 ns).length) (ceLed D2 D1 ws c1 news) cePs [] (fun i c => IntsAre c.1 c.2 ∧ c.2.length = 7 ∧ ∀ x ∈ c.2, 0 ≤ x ∧ x ≤ 1000 + 1000000 * (i : Int)) (os, ms) ?w1 ?w2 ?w3 ?w4 ?w5 ?w6 ?w7 ?w8 ?w9 ?wa ?wb ?_ ?_; (case w1 => exact rfl); (case w2 => exact rfl); (case w3 => exact rfl); (case w4 => exact rfl); (case w5 => exact R12); (case w6 => exact small_one (by (first | lia | omega)) (by (first | lia | omega)) (by (first | lia | omega)) (by (first | lia | omega))); (case w7 => (rw [rangeSize_nat]; simp)); (case w8 => exact F12); (case w9 => exact N12); (case wa => exact List.forall_mem_nil _); (case wb => exact ⟨hos, hm, fun x hx => by have := hm0 x hx; (first | lia | omega)⟩))
  · intro i k t
    refine pr2 fun us cs => ?_
    rintro u h tk it io hi hk ⟨hu1, hu2, hu3⟩ hlt hoff F' N'
    dsimp only [ceLed, cePs] at hu1 hu2 hu3 F' N' hlt hoff
    have hul := hu1.length
    have hi1 : @LT.lt Nat instLTNat D1 it := hlt _ (.tail _ (.head _))
    have hi2 : @LT.lt Nat instLTNat D2 it := hlt _ (.head _)
    have hf : 0 ≤ k.fmod (cs.length : Int) ∧ k.fmod (cs.length : Int) < 7 := by
      rw [hu2, Int.fmod_eq_emod_of_nonneg _ (by (first | lia | omega))]
      exact ⟨Int.emod_nonneg _ (by (first | lia | omega)), Int.emod_lt_of_pos _ (by (first | lia | omega))⟩
    have hg1 : ∀ j, 0 ≤ ((List.take 63 ns).getD j 0).fmod 1000000 ∧ ((List.take 63 ns).getD j 0).fmod 1000000 < 1000000 := fun j => by
      rw [Int.fmod_eq_emod_of_nonneg _ (by (first | lia | omega))]
      exact ⟨Int.emod_nonneg _ (by (first | lia | omega)), Int.emod_lt_of_pos _ (by (first | lia | omega))⟩
    k_steps
    have hx1 := hg1 k.toNat
    have hx2 : 0 ≤ cs.getD (k.fmod (cs.length : Int)).toNat 0 ∧ cs.getD (k.fmod (cs.length : Int)).toNat 0 ≤ 1000 + 1000000 * (i : Int) := by
      rw [List.getD_eq_getElem?_getD]
      cases q : cs[(k.fmod (cs.length : Int)).toNat]? with
      | none => simp; (first | lia | omega)
      | some y => simpa using hu3 y (List.mem_of_getElem? q)
    exact SEnd.intro (_, cs.set (k.fmod (cs.length : Int)).toNat (cs.getD (k.fmod (cs.length : Int)).toNat 0 + ((List.take 63 ns).getD k.toNat 0).fmod 1000000)) (by k_asm) (by k_asm) (by walk_at "sub_all") (by walk_at "sub_all") (off1b hoff) (by walk_at "vals_all") (by walk_at "names_all")
      ⟨by assumption, by rw [List.length_set]; exact hu2, fun y hy => by
        rcases List.mem_or_eq_of_mem_set hy with h9 | h9
        · have := hu3 y h9; (first | lia | omega)
        · rw [h9]; (first | lia | omega)⟩
  · refine pr2 fun us cs => ?_
    rintro u h tk ⟨hu1, hu2, hu3⟩ F' N'
    dsimp only [ceLed, cePs] at hu1 hu2 hu3 F' N'
    k_steps
    rename News h₀ L _ _ => NZ
    rename Fr h₀ L _ m => FZ
    refine hret _ _ _ _ FZ (news_sub (b := (D1, listOf us.toArray c1) :: news) NZ (fun p hp => .tail _ hp)) ⟨D1, us, c1, cs, rfl, rfl, hn1, hu1, hu2, fun c hc => ?_⟩
    have := hu3 c hc
    have h63 : (List.take 63 ns).length ≤ 63 := by (first | lia | omega)
    (first | lia | omega)
end
section
theorem fresh12 : True := by
  w_top off
  trivial
local macro_rules | `(tactic| walk_at "exec For Name Call cons nil") => `(tactic| (k_here; (with_unfolding_all refine wpAny_For ?_ (by intro _; rfl))))
local macro_rules | `(tactic| walk_at "pyIter ref") => `(tactic| (k_here; refine hold ?_))
local macro_rules | `(tactic| walk_at "binaryOp Mult ref int") => `(tactic| (k_here; refine hold ?_))
local macro_rules | `(tactic| walk_at "call builtin:len") => `(tactic| (k_here; k_dflt (refine' len_M ?k1 ?k2 ?k3 ?_; (case k1 => k_asm); (case k2 => k_mem); (case k3 => lia); k_whole); intro t' tk'))
theorem sub_negM {prog : Program} {w : World} {A : Around} {E : Value → Shared → Prop} {s : Shared} {h₀ : Heap} {L D : Addr} {news : List (Addr × Obj)} {vs : List Value} {ns : List Int} {n : Nat} {k : Int} {u : Tok} {value slice : PySem.Expr} {Q : Value → Shared → Prop} (N : News h₀ L s.heap news) (hm : (D, listOf vs.toArray n) ∈ news) (hi : IntsAre vs ns) (h0 : k < 0) (h1 : -(ns.length : Int) ≤ k) (hfit : -(2 ^ 63) ≤ k) (h : ∀ t, Q (.int (ns.getD (k + ns.length).toNat 0) t) s)
    (hs : subscripted slice false (.ref D) (.int k u) = operate [.ref D, .int k u] (getItem (.ref D) (.int k u)) := by with_unfolding_all rfl) :
    wpAny (model prog w) A (subscriptTail value slice (.ref D) (.int k u)) Q E s := by
  have hl := PySem.IsL.isList (n := n) (N _ hm).1
  have hvl := hi.length
  have hlt : (k + ns.length).toNat < vs.length := by (first | lia | omega)
  obtain ⟨x, t, e, hx⟩ := ints_get hi (List.getElem?_eq_getElem hlt)
  have hx' : ns.getD (k + ns.length).toNat 0 = x := by rw [List.getD_eq_getElem?_getD, hx]; rfl
  have hq := h t
  rw [hx'] at hq
  refine subscriptTail_builtinR (x := .int x t) hl.typeIs slot_list_getitem.lookup (wpAny_getItem_list_neg (x := .int x t) hl h0 (by rw [List.size_toArray, hvl]; exact h1) hfit ?_ ⟨rfl, hq⟩) hs
  rw [List.getElem?_toArray, List.size_toArray, hvl, List.getElem?_eq_getElem hlt, e]
local macro_rules | `(tactic| walk_at "subscriptTail Name UnaryOp ref int") => `(tactic| (k_here; k_dflt (refine' sub_negM ?k1 ?k2 ?k3 ?k4 ?k5 ?k6 ?_ ?k7; (case k1 => k_asm); (case k2 => k_mem); (case k3 => with_reducible assumption); (case k4 => lia); (case k5 => lia); (case k6 => lia); (case k7 => with_unfolding_all rfl); k_whole); intro t'))
local macro_rules | `(tactic| walk_at "subscriptTail Name BinOp ref int") => `(tactic| (k_here; k_dflt (refine' sub_negM ?k1 ?k2 ?k3 ?k4 ?k5 ?k6 ?_ ?k7; (case k1 => k_asm); (case k2 => k_mem); (case k3 => with_reducible assumption); (case k4 => lia); (case k5 => lia); (case k6 => lia); (case k7 => with_unfolding_all rfl); k_whole); intro t'))
local macro_rules | `(tactic| walk_at "binaryOp Mult int int") => `(tactic| (k_here; refine hold ?_))
noncomputable def hallAt (rows ys : List Int) (k : Nat) : Prop := ¬ rows.getD k 0 * ys.getD (ys.length - k) 0 > rows.getD (k - 1) 0 * ys.getD (ys.length - k - 1) 0
theorem bits_getD {l : List Int} (h : ∀ x ∈ l, Builtin.Int.intBits x ≤ 1000) (j : Nat) : Builtin.Int.intBits (l.getD j 0) ≤ 1000 := by
  rw [List.getD_eq_getElem?_getD]
  cases q : l[j]? with
  | none => exact (by decide : Builtin.Int.intBits 0 ≤ 1000)
  | some y => exact h y (List.mem_of_getElem? q)
theorem namedH {h₀ h : Heap} {L r : Addr} {ws : List Value} {xs : List Int} {l : List (Addr × Obj)} {Z : Prop} (_N : News h₀ L h ((r, listOf ws.toArray 0) :: l)) (H : IntsAre ws xs) (k : ∀ r' ws', r' = r → ws' = ws → IntsAre ws' xs → Z) : Z := k r ws rfl rfl H
theorem hall_facts {i n R : Nat} {k : Int} (hk : k = 1 + (i : Int)) (hi : i < n - 1) (hn : n ≤ 3) (hR : R = n) :
    (k.toNat = i + 1 ∧ (-k + (n : Int)).toNat = n - (i + 1) ∧ (k - 1).toNat = i + 1 - 1 ∧ (-k - 1 + (n : Int)).toNat = n - (i + 1) - 1) ∧ (-2 ^ 63 ≤ -k ∧ -2 ^ 63 ≤ -k - 1 ∧ -(n : Int) ≤ -k ∧ -(n : Int) ≤ -k - 1) ∧
      (k < 2 ^ 63 ∧ k - 1 < 2 ^ 63 ∧ k < (R : Int) ∧ k - 1 < (R : Int)) ∧ i + 1 < n ∧ 0 ≤ k ∧ 0 ≤ k - 1 := by
  subst hk hR
  have h : (i = 0 ∧ (R = 2 ∨ R = 3)) ∨ (i = 1 ∧ R = 3) := by (first | lia | omega)
  rcases h with ⟨rfl, rfl | rfl⟩ | ⟨rfl, rfl⟩ <;> decide
theorem hall_c {w : World} {base : Heap} (news : List (Addr × Obj)) (lh lv : Addr) (hs vs : List Value) (xs ys : List Int) (nh nv : Nat) (hlh : (lh, listOf hs.toArray nh) ∈ news) (hlv : (lv, listOf vs.toArray nv) ∈ news) (hh : IntsAre hs xs) (hv : IntsAre vs ys) (h3 : ys.length ≤ 3) (hle : xs.length ≤ ys.length) (hbx : ∀ x ∈ xs, Builtin.Int.intBits x ≤ 1000) (hby : ∀ y ∈ ys, Builtin.Int.intBits y ≤ 1000) :
    CallL w base news 5 60 132 [.ref lh, .ref lv] (fun v nx => nx = news ∧ ∃ b, v = .bool b ∧ (b = true ↔ ∀ k : Nat, 1 ≤ k → k < ys.length → hallAt (xs ++ List.replicate (ys.length - xs.length) 0) ys k)) := by
  have dummy : (fun (_ : OpenLaw) (_ : Params → Frag) => True) PySem.Challenge.rw_rl0045_02 hd2.heap_39 := by k_fill; trivial
  clear dummy
  intro p loose mean mg mb dp un gd cn cs ad ccd cl outer A₀ h₀ L m s Q E B F X N T0 hk hd hu hret
  refine wpAny_call ?_
  k_dflt cell_enter
  have hhl := hh.length
  have hvl := hv.length
  k_steps
  unfold Hold
  k_dflt (refine' mulOne ?m1 ?m2 ?m3 ?m4 ?m5 ?_; (case m1 => k_asm); (case m2 => k_asm); (case m3 => k_mem); (case m4 => (first | lia | omega)); (case m5 => (first | lia | omega)); k_whole)
  intro D hD1 zs FD ND lD hIz
  (try k_lt lD)
  k_steps
  unfold Hold
  rename IsRange _ _ _ _ _ _ _ _ => R12
  rename Fr _ _ _ _ => F12
  rename News _ _ _ _ => N12
  rename IntsAre _ (xs ++ _) => hI0
  refine namedH N12 hI0 ?_
  intro D3 ws hD9 hw9 hI
  subst hD9 hw9
  clear hI0
  have hlt3 : ∀ p ∈ news, p.1 < D3 := by walk_at "lt_all"
  have hwl := hI.length
  have hal : (xs ++ List.replicate ((vs.length : Int) - (hs.length : Int)).toNat 0).length = xs.length + ((vs.length : Int) - (hs.length : Int)).toNat := by rw [List.length_append, List.length_replicate]
  rw [List.length_append, List.length_replicate] at hwl
  obtain ⟨rows, hrows⟩ : ∃ r, r = xs ++ List.replicate ((vs.length : Int) - (hs.length : Int)).toNat 0 := ⟨_, rfl⟩
  rw [← hrows] at hI
  have hb1 : ∀ j : Nat, Builtin.Int.intBits (rows.getD j 0) ≤ 1000 := bits_getD (by
    rw [hrows]; intro x hx
    rcases List.mem_append.mp hx with h | h
    · exact hbx x h
    · rw [(List.mem_replicate.mp h).2]; decide)
  have hb2 : ∀ j : Nat, Builtin.Int.intBits (ys.getD j 0) ≤ 1000 := bits_getD hby
  k_dflt (refine' for_rangeS (n := ys.length - 1) (fun _ : Unit => (D3, listOf ws.toArray 0) :: news) (fun _ => []) [] (fun i _ => ∀ k : Nat, 1 ≤ k → k < i + 1 → hallAt rows ys k) () ?w1 ?w2 ?w3 ?w4 ?w5 ?w6 ?w7 ?w8 ?w9 ?wa ?wb ?_ ?_; (case w1 => exact rfl); (case w2 => exact rfl); (case w3 => exact rfl); (case w4 => exact rfl); (case w5 => exact R12); (case w6 => exact small_one (by (first | lia | omega)) (by (first | lia | omega)) (by (first | lia | omega)) (by (first | lia | omega))); (case w7 => (rw [rangeSize_nat]; (first | lia | omega))); (case w8 => exact F12); (case w9 => exact news_sub N12 (by walk_at "sub_all")); (case wa => exact List.forall_mem_nil _); (case wb => exact fun k h1 h2 => by (first | lia | omega)))
  · rintro i k t ⟨⟩ u h tk it io hi hk hP hlt hoff F' N'
    dsimp only at F' N' hlt hoff
    have hrr : rows = xs ++ List.replicate (ys.length - xs.length) 0 := by rw [hrows]; congr 2; (first | lia | omega)
    have hrl : rows.length = ys.length := by rw [hrr, List.length_append, List.length_replicate]; (first | lia | omega)
    have hf := hall_facts hk hi h3 hrl
    have g1 := hf.1.1
    have g2 := hf.1.2.1
    have g3 := hf.1.2.2.1
    have g4 := hf.1.2.2.2
    have g5 := hf.2.1.1
    have g6 := hf.2.1.2.1
    have g7 := hf.2.1.2.2.1
    have g8 := hf.2.1.2.2.2
    have g9 := hf.2.2.1.1
    have ga := hf.2.2.1.2.1
    have gb := hf.2.2.1.2.2.1
    have gc := hf.2.2.1.2.2.2
    have gd := hf.2.2.2.1
    have ge := hf.2.2.2.2.1
    have gf := hf.2.2.2.2.2
    clear hf
    have hat : rows.getD k.toNat 0 * ys.getD (-k + (ys.length : Int)).toNat 0 > rows.getD (k - 1).toNat 0 * ys.getD (-k - 1 + (ys.length : Int)).toNat 0 ↔ ¬ hallAt rows ys (i + 1) := by
      unfold hallAt
      rw [g1, g2, g3, g4]
      (first | lia | omega)
    k_steps
    unfold Hold
    k_dflt (refine' PyProof.Rows.mul_int ?_ ?mk1; (case mk1 => exact IntMulOk.of_le (m := 1000) (n := 1000) (hb1 _) (hb2 _) (by (first | lia | omega))); k_whole)
    k_steps
    unfold Hold
    k_dflt (refine' PyProof.Rows.mul_int ?_ ?mk2; (case mk2 => exact IntMulOk.of_le (m := 1000) (n := 1000) (hb1 _) (hb2 _) (by (first | lia | omega))); k_whole)
    k_steps
    · rename News h₀ L _ _ => NZ
      rename Fr h₀ L _ m => FZ
      refine hret _ _ _ _ FZ (news_sub (b := news) NZ (by walk_at "sub_all")) ⟨rfl, false, rfl, ?_⟩
      refine ⟨fun h => (nomatch h), fun h => ?_⟩
      have h1 := h (i + 1) (by (first | lia | omega)) (by (first | lia | omega))
      rw [← hrr] at h1
      exact absurd h1 (hat.mp (by assumption))
    · refine SEnd.intro () (by k_asm) (by k_asm) (by walk_at "sub_all") (by walk_at "sub_all") (fun p hp q hq => by rw [List.mem_singleton.mp hq]; exact hoff p hp) (by walk_at "vals_all") (by walk_at "names_all") (fun k' h1 h2 => ?_)
      by_cases e : k' = i + 1
      · rw [e]; exact Classical.byContradiction fun hc => absurd (hat.mpr hc) (by assumption)
      · exact hP k' h1 (by (first | lia | omega))
  · rintro ⟨⟩ u h tk hP F' N'
    dsimp only at F' N'
    have hrr : rows = xs ++ List.replicate (ys.length - xs.length) 0 := by rw [hrows]; congr 2; (first | lia | omega)
    k_steps
    rename News h₀ L _ _ => NZ
    rename Fr h₀ L _ m => FZ
    refine hret _ _ _ _ FZ (news_sub (b := news) NZ (by walk_at "sub_all")) ⟨rfl, true, rfl, ⟨fun _ k h1 h2 => ?_, fun _ => rfl⟩⟩
    rw [← hrr]; exact hP k h1 (by (first | lia | omega))
end
section
local macro_rules | `(tactic| walk_at "zz0") => `(tactic| skip)
local macro_rules | `(tactic| walk_at "zz1") => `(tactic| skip)
local macro_rules | `(tactic| walk_at "zz2") => `(tactic| skip)
local macro_rules | `(tactic| walk_at "zz3") => `(tactic| skip)
local macro_rules | `(tactic| walk_at "zz4") => `(tactic| skip)
theorem fresh13 : True := by
  w_top off
  trivial
local macro_rules | `(tactic| walk_at "exec For Name Call cons nil") => `(tactic| (k_here; (with_unfolding_all refine wpAny_For ?_ (by intro _; rfl))))
local macro_rules | `(tactic| walk_at "pyIter ref") => `(tactic| (k_here; refine hold ?_))
local macro_rules | `(tactic| walk_at "call builtin:len") => `(tactic| (k_here; k_dflt (refine' len_M ?k1 ?k2 ?k3 ?_; (case k1 => k_asm); (case k2 => k_mem); (case k3 => lia); k_whole); intro t' tk'))
theorem len_app (a b : Str) : (a ++ b).length = a.length + b.length := by
  show (a.cps ++ b.cps).size = _
  rw [Array.size_append]; rfl
theorem strs_M {prog : Program} {w : World} {A : Around} {E : Value → Shared → Prop} {s : Shared} {h₀ : Heap} {L D : Addr} {news : List (Addr × Obj)} {vs : List Value} {ws : List Str} {n : Nat} {i : Int} {u : Tok} {value slice : PySem.Expr} {Q : Value → Shared → Prop} (N : News h₀ L s.heap news) (hm : (D, listOf vs.toArray n) ∈ news) (hw : StrsAre vs ws) (h0 : 0 ≤ i) (h1 : i < (ws.length : Int)) (hfit : i < 2 ^ 63) (h : ∀ t', Q (.str (ws.getD i.toNat PySem.Str.empty) t') s)
    (hs : subscripted slice false (.ref D) (.int i u) = operate [.ref D, .int i u] (getItem (.ref D) (.int i u)) := by with_unfolding_all rfl) :
    wpAny (model prog w) A (subscriptTail value slice (.ref D) (.int i u)) Q E s := KTb.item_list (PySem.IsL.isList (n := n) (N _ hm).1) hw h0 h1 hfit (fun t' _ => h t') hs
local macro_rules | `(tactic| walk_at "subscriptTail Name Name ref int") => `(tactic| (k_here; k_dflt (refine' strs_M ?k1 ?k2 ?k3 ?k4 ?k5 ?k6 ?_ ?k7; (case k1 => k_asm); (case k2 => k_mem); (case k3 => with_reducible assumption); (case k4 => lia); (case k5 => lia); (case k6 => lia); (case k7 => with_unfolding_all rfl); k_whole); intro t'))
local macro_rules | `(tactic| walk_at "inplaceOp Add str str") => `(tactic| (k_here; k_dflt (refine' PyProof.Rows.iadd_str ?_ ?k1; (case k1 => (show _ ≤ 16777216; (try simp only [len_app]); lia)); k_whole); intro t' tk'))
local macro_rules | `(tactic| walk_at "binaryOp Add str str") => `(tactic| (k_here; k_dflt (refine' PyProof.Rows.add_str ?_ ?k1; (case k1 => (show _ ≤ 16777216; (try simp only [len_app]); lia)); k_whole); intro t' tk'))
local macro_rules | `(tactic| walk_at "binaryOp Mult str int") => `(tactic| (k_here; refine hold ?_))
/-- the texts of a list, sign by sign -/
noncomputable abbrev raw (ts : List Str) : List (List Nat) := ts.map fun t => t.cps.toList
theorem raw_getD (ts : List Str) (i : Nat) : (ts.getD i PySem.Str.empty).cps.toList = (raw ts).getD i [] := by
  rw [List.getD_eq_getElem?_getD, List.getD_eq_getElem?_getD, List.getElem?_map]
  cases ts[i]? <;> rfl
theorem raw_len (ts : List Str) (i k : Nat) (h : ∀ t ∈ ts, t.length ≤ k) : (ts.getD i PySem.Str.empty).length ≤ k := by
  rw [List.getD_eq_getElem?_getD]
  cases q : ts[i]? with
  | none => exact Nat.zero_le _
  | some y => exact h y (List.mem_of_getElem? q)
theorem cps_len (t : Str) : t.length = t.cps.toList.length := rfl
theorem app_list (a b : Str) : (a ++ b).cps.toList = a.cps.toList ++ b.cps.toList := by
  show (a.cps ++ b.cps).toList = _
  rw [Array.toList_append]
/-- what stands ahead of a row -/
noncomputable def sepL (xs : List Int) (es : List Str) (i : Nat) : List Nat := if i = 0 then [] else if 1 < xs.getD i 0 then [13, 10] else (raw es).getD i []
theorem mail_step {xs : List Int} {ts es : List Str} {i j : Nat} {x y : Str} (hj : j = i) (hP : x.cps.toList = mailU xs (raw ts) (raw es) i ++ sepL xs es i) (hy : y.cps.toList = List.replicate (xs.getD j 0).toNat 46) :
    (x ++ (y ++ ts.getD j PySem.Str.empty)).cps.toList = mailU xs (raw ts) (raw es) (i + 1) := by
  subst hj
  rw [app_list, app_list, hP, hy, raw_getD, List.append_assoc]
  rfl
/-- a text put together under an `if` -/
noncomputable def TxtEnd (g : Heap) (L : Addr) (s : Shared) (m₀ : Str → Option Value) (news : List (Addr × Obj)) (nx : Str) (P : Str → Prop) (f : Flow) (s' : Shared) : Prop := f = .next ∧ ∃ y t h tk, s' = { s with heap := h, toks := tk } ∧ P y ∧ Fr g L h (kstB m₀ [(nx, .str y t)]) ∧ News g L h news
theorem TxtEnd.intro {g : Heap} {L : Addr} {s : Shared} {m₀ m : Str → Option Value} {news : List (Addr × Obj)} {nx : Str} {P : Str → Prop} {y : Str} {t : Tok} {h : Heap} {tk : Nat} (F : Fr g L h m) (N : News g L h news) (hv : m nx = some (.str y t)) (hm : ∀ z, z ≠ nx → m z = m₀ z) (hP : P y) : TxtEnd g L s m₀ news nx P .next { s with heap := h, toks := tk } := by
  refine ⟨rfl, y, t, h, tk, rfl, hP, ?_, N⟩
  have em : kstB m₀ [(nx, .str y t)] = m := by
    funext z
    show (if z = nx then some (Value.str y t) else m₀ z) = m z
    by_cases e : z = nx
    · rw [if_pos e, e, hv]
    · rw [if_neg e, hm z e]
  rw [em]; exact F
theorem txt_cut {M : Model} {A : Around} {st : Stmt} {env : Env} {E : Value → Shared → Prop} {Q : Flow → Shared → Prop} {g : Heap} {L : Addr} {s : Shared} {m₀ : Str → Option Value} {news : List (Addr × Obj)} (nx : Str) (P : Str → Prop) (_F : Fr g L s.heap m₀) (_N : News g L s.heap news)
    (h1 : wpAny M A (exec st env) (TxtEnd g L s m₀ news nx P) E s)
    (h2 : ∀ y t h tk, P y → Fr g L h (kstB m₀ [(nx, .str y t)]) → News g L h news → Q .next { s with heap := h, toks := tk }) : wpAny M A (exec st env) Q E s :=
  wpAny_mono h1 (fun f s' h9 => by
    obtain ⟨rfl, y, t, h, tk, rfl, hP, F', N'⟩ := h9
    exact h2 _ _ _ _ hP F' N') fun _ _ h9 => h9
local macro_rules | `(tactic| walk_at "exec If Compare cons nil") => `(tactic| (k_here; refine hold ?_))
theorem mail_c {w : World} {base : Heap} (news : List (Addr × Obj)) (lh lt le : Addr) (hs tv ev : List Value) (xs : List Int) (ts es : List Str) (nh nt ne : Nat) (hlh : (lh, listOf hs.toArray nh) ∈ news) (hlt : (lt, listOf tv.toArray nt) ∈ news) (hle : (le, listOf ev.toArray ne) ∈ news)
    (hh : IntsAre hs xs) (ht : StrsAre tv ts) (he : StrsAre ev es) (h3 : xs.length ≤ ts.length) (h4 : xs.length ≤ es.length) (h5 : ts.length ≤ 3) (hx : ∀ x ∈ xs, 0 ≤ x ∧ x ≤ 100) (htl : ∀ t ∈ ts, t.length ≤ 8) (hel : ∀ t ∈ es, t.length ≤ 2) :
    CallL w base news 5 60 125 [.ref lh, .ref lt, .ref le] (fun v nx => nx = news ∧ ∃ y t, v = .str y t ∧ y.cps.toList = mailOf xs (raw ts) (raw es)) := by
  have dummy : (fun (_ : OpenLaw) (_ : Params → Frag) => True) PySem.Challenge.rw_rl0045_02 hd2.heap_39 := by k_fill; trivial
  clear dummy
  intro p loose mean mg mb dp un gd cn cs ad ccd cl outer A₀ h₀ L m s Q E B F X N T0 hk hd hu hret
  refine wpAny_call ?_
  k_dflt cell_enter
  have hhl := hh.length
  k_steps
  unfold Hold
  rename_i t11 tk11 h12 tk12 t12 u12 v12 R12 F12 N12 K12
  have hst := ht.len_eq
  have hse := he.len_eq
  refine stok_of F12 (Str.ofString "text") rfl fun t0 ht0 => ?_
  k_dflt (refine' for_rangeS (n := xs.length) (fun _ : Str × Tok => news) (fun c => [(Str.ofString "text", .str c.1 c.2)]) [] (fun i c => c.1.cps.toList = mailU xs (raw ts) (raw es) i) (Str.ofString "", t0) ?w1 ?w2 ?w3 ?w4 ?w5 ?w6 ?w7 ?w8 ?w9 ?wa ?wb ?_ ?_; (case w1 => exact rfl); (case w2 => exact rfl); (case w3 => exact rfl); (case w4 => exact rfl); (case w5 => exact R12); (case w6 => exact small_one (by (first | lia | omega)) (by (first | lia | omega)) (by (first | lia | omega)) (by (first | lia | omega))); (case w7 => (rw [rangeSize_nat]; (first | lia | omega))); (case w8 => exact F12); (case w9 => exact N12); (case wa => exact List.forall_mem_cons.mpr ⟨ht0, List.forall_mem_nil _⟩); (case wb => rfl))
  · intro i k t
    refine pr2 fun x tx => ?_
    rintro u h tk it io hi hk hP hlt9 hoff F' N'
    dsimp only at F' N' hlt9 hoff hP
    have hx1 : 0 ≤ xs.getD i 0 ∧ xs.getD i 0 ≤ 100 := getD_good hx hi
    have hki : k.toNat = i := by (first | lia | omega)
    have hxk : 0 ≤ xs.getD k.toNat 0 ∧ xs.getD k.toNat 0 ≤ 100 := by rw [hki]; exact hx1
    have ht1 := raw_len ts k.toNat 8 htl
    have he1 := raw_len es k.toNat 2 hel
    have hxl : x.length ≤ 330 := by
      rw [cps_len, hP]
      have := mail_len (xs := xs) (ts := raw ts) (es := raw es) hx (fun t ht => by obtain ⟨y, hy, rfl⟩ := List.mem_map.mp ht; exact htl y hy) (fun t ht => by obtain ⟨y, hy, rfl⟩ := List.mem_map.mp ht; exact hel y hy) i
      (first | lia | omega)
    have hes9 : ((raw es).getD i []).length ≤ 2 := by rw [← hki, ← raw_getD, ← cps_len]; exact he1
    k_steps
    unfold Hold
    k_dflt (refine' txt_cut (Str.ofString "text") (fun y => y.length ≤ 332 ∧ y.cps.toList = mailU xs (raw ts) (raw es) i ++ sepL xs es i) ?w1 ?w2 ?_ ?_; (case w1 => k_asm); (case w2 => k_asm))
    · refine wpAny_If ?_
      k_steps
      · have h0 : i ≠ 0 := by (first | lia | omega)
        have h1 : 1 < xs.getD i 0 := by rw [← hki]; assumption
        exact TxtEnd.intro (by k_asm) (by k_asm) rfl (fun z hz => if_neg hz) ⟨by rw [len_app]; show _ + 2 ≤ 332; (first | lia | omega), by unfold sepL; rw [if_neg h0, if_pos h1, app_list, hP]; rfl⟩
      · have h0 : i ≠ 0 := by (first | lia | omega)
        have h1 : ¬ 1 < xs.getD i 0 := by rw [← hki]; (first | lia | omega)
        exact TxtEnd.intro (by k_asm) (by k_asm) rfl (fun z hz => if_neg hz) ⟨by rw [len_app]; (first | lia | omega), by unfold sepL; rw [if_neg h0, if_neg h1, app_list, hP, raw_getD, hki]⟩
      · have h0 : i = 0 := by (first | lia | omega)
        exact TxtEnd.intro (by k_asm) (by k_asm) rfl (fun z _ => rfl) ⟨by (first | lia | omega), by unfold sepL; rw [if_pos h0, List.append_nil]; exact hP⟩
    · intro y ty h5 tk5 hy5 F5 N5
      obtain ⟨hyl, hyc⟩ := hy5
      k_steps
      unfold Hold
      k_dflt (refine' mul_sign (c := 46) ?k1 ?k2 ?k3 ?_; (case k1 => rfl); (case k2 => (first | lia | omega)); (case k3 => (first | lia | omega)); k_whole)
      intro y9 t9 tk9 hy9 hl9
      k_steps
      exact SEnd.intro (_, _) (by k_asm) (by k_asm) (by walk_at "sub_all") (by walk_at "sub_all") (fun p hp q hq => by rw [List.mem_singleton.mp hq]; exact hoff p hp) (by walk_at "vals_all") (by walk_at "names_all") (mail_step hki hyc hy9)
  · refine pr2 fun x tx => ?_
    rintro u h tk hP F' N'
    dsimp only at F' N' hP
    k_steps
    rename News h₀ L _ _ => NZ
    rename Fr h₀ L _ m => FZ
    exact hret _ _ _ _ FZ NZ ⟨rfl, _, _, rfl, hP⟩
end
section
theorem fresh14 : True := by
  w_top off
  trivial
/-! the law's body in parts -/
noncomputable def lawB : List Stmt := match PySem.Challenge.rw_rl0045_02.row.prog.main.body.getLast? with | some (.FunctionDef _ _ b _ _ _ _ _ _ _) => b | _ => []
noncomputable def lawS : Scope := match PySem.Challenge.rw_rl0045_02.row.prog.main.body.getLast? with | some (.FunctionDef _ _ _ _ _ _ s _ _ _) => s | _ => default
@[irreducible] noncomputable def sg (a n : Nat) : List Stmt := (lawB.drop a).take n
noncomputable abbrev eL (L fa : Addr) (cd : Value) : Env := envOfC (Str.ofString "law") lawS L fa cd
noncomputable abbrev aL (L fa : Addr) (cd : Value) : Around := callerA.deeper (eL L fa cd)
/-- what stands while the body runs -/
structure Base (w : World) (p : Program) (loose : List Str) (mean : ExcName → Option Value) (mg mb : Str → Option Value) (base : Heap) : Prop where
  X : (hd2.heap_39 w.params).In base
  T : Top p loose mean mg mb base
  B : Below callerA base [] base
/-- the state between two parts -/
inductive At (base : Heap) (L : Addr) (s₀ : Shared) (ps : List (Str × Value)) (news : List (Addr × Obj)) : Shared → Prop
  | mk (h : Heap) (tk : Nat) (gns : Array GenState) (u : Str → Option Value) (hB : AllB gns) (F : Fr base L h (kstB u ps)) (N : News base L h news) : At base L s₀ ps news { s₀ with heap := h, toks := tk, gens := gns }
theorem At.intro {base : Heap} {L : Addr} {s : Shared} {ps : List (Str × Value)} {news news' : List (Addr × Obj)} {h : Heap} {tk : Nat} {gns : Array GenState} {m : Str → Option Value} (hB : AllB gns) (F : Fr base L h m) (N : News base L h news') (hs : ∀ p ∈ news, p ∈ news') (hv : ∀ p ∈ ps, m p.1 = some p.2) :
    At base L s ps news { s with heap := h, toks := tk, gens := gns } := by
  refine .mk h tk gns m hB ?_ (news_sub N hs)
  have em : kstB m ps = m := by funext y; exact kstB_eq hv fun _ => rfl
  rw [em]; exact F
theorem wp_join {M : Model} {Γ : Ctx} {env : Env} {E : Value → Pos → Shared → Prop} {Q : Flow → Pos → Shared → Prop} (b : List Stmt) : ∀ (a : List Stmt) (p : Pos) (s : Shared), Sem.wp M Γ (execs a env) (fun f p' s' => match f with | .next => Sem.wp M Γ (execs b env) Q E p' s' | f => Q f p' s') E p s → Sem.wp M Γ (execs (a ++ b) env) Q E p s
  | [], p, s, h => h
  | st :: a, p, s, h => by
    rw [execs_cons, Sem.wp_bind'] at h
    show Sem.wp M Γ (execs (st :: (a ++ b)) env) Q E p s
    rw [execs_cons, Sem.wp_bind']
    refine Sem.wp_mono M Γ _ (fun f p' s' h' => ?_) (fun _ _ _ h' => h') _ _ h
    cases f with
    | next => exact wp_join b a p' s' h'
    | _ => exact h'
theorem execs_join {M : Model} {A : Around} {env : Env} {E : Value → Shared → Prop} {Q : Flow → Shared → Prop} (a b : List Stmt) (s : Shared) (h : wpAny M A (execs a env) (fun f s' => match f with | .next => wpAny M A (execs b env) Q E s' | f => Q f s') E s) : wpAny M A (execs (a ++ b) env) Q E s := by
  intro Γ p hΓ
  refine wp_join b a p s (Sem.wp_mono M Γ _ (fun f p' s' h' => ?_) (fun _ _ _ h' => h') _ _ (h Γ p hΓ))
  cases f with
  | next => exact h' Γ p' hΓ
  | _ => exact h'
/-- a part ends -/
noncomputable def Ends (K : Shared → Prop) (f : Flow) (s : Shared) : Prop := f = .next ∧ K s
theorem Ends.intro {K : Shared → Prop} {s : Shared} (h : K s) : Ends K .next s := ⟨rfl, h⟩
/-- the end's word hidden: short terms -/
theorem post_K {M : Model} {A : Around} {t : Sem Flow} {P : Shared → Prop} {E : Value → Shared → Prop} {s : Shared} (h : ∀ K : Shared → Prop, (∀ s, P s → K s) → wpAny M A t (Ends K) E s) : wpAny M A t (Ends P) E s := h P fun _ h => h
theorem turn_K {M : Model} {A : Around} {t : Sem Flow} {Q : Flow → Shared → Prop} {En : Shared → Prop} {E : Value → Shared → Prop} {s : Shared} (h : ∀ (Q' : Flow → Shared → Prop) (K : Shared → Prop), (∀ f s, Q f s → Q' f s) → (∀ s, En s → K s) → wpAny M A t (LPost Q' K) E s) : wpAny M A t (LPost Q En) E s := h Q En (fun _ _ h => h) fun _ h => h
/-- .. and hands on -/
theorem seg_join {M : Model} {A : Around} {env : Env} {Q : Flow → Shared → Prop} {s : Shared} {K : Shared → Prop} (l : List Stmt) (n : Nat) (h1 : wpAny M A (execs (l.take n) env) (Ends K) (fun _ _ => False) s) {E : Value → Shared → Prop} (h2 : ∀ s', K s' → wpAny M A (execs (l.drop n) env) Q E s') : wpAny M A (execs l env) Q E s := by
  rw [← List.take_append_drop n l]
  refine execs_join _ _ s (wpAny_mono h1 (fun f s' h => ?_) fun _ _ q => q.elim)
  obtain ⟨rfl, hK⟩ := h
  exact h2 s' hK
end
section
theorem fresh15 : True := by
  w_top off
  trivial
local macro_rules | `(tactic| walk_at "call ref") => `(tactic| (k_here; refine hold ?_))
/-- what the head of the body draws -/
structure D2 where
  q : Addr
  v : Addr
  z : Addr
  us : List Value
  vv : List Value
  zz : List Value
  n1 : Nat
  cs : List Int
  l : Int
  m : Int
  b : Int
  w : Int
  k : Int
  o1 : Obj
  o2 : Obj
  tb : Tok
structure D2.Ok (d : D2) (L : Addr) : Prop where
  hl : 2 ≤ d.l ∧ d.l ≤ 4
  hm : d.m = 2 ∨ d.m = 3
  hb : 8 ≤ d.b ∧ d.b ≤ 11
  hw : 16 ≤ d.w ∧ d.w ≤ 615
  hk : 0 ≤ d.k ∧ d.k ≤ 3
  hus : IntsAre d.us d.cs
  hcs : d.cs.length = 7
  hcb : ∀ c ∈ d.cs, 0 ≤ c ∧ c ≤ 70000000
  hvv : IntsAre d.vv (List.take d.m.toNat [1, d.l, d.l * d.l - 1])
  hzz : IntsAre d.zz (List.take d.m.toNat [1, d.l, d.l * d.l - 2])
  h1 : d.o1.data = .cell (some (.ref d.q))
  h2 : d.o2.data = .cell (some (.int d.b d.tb))
  lq : @LT.lt Nat instLTNat (L + 1 + 1 + 1 + 1) d.q
  lv : @LT.lt Nat instLTNat d.q d.v
  lz : @LT.lt Nat instLTNat d.v d.z
  lL : @LT.lt Nat instLTNat 54 L ∧ @LT.lt Nat instLTNat 47 L
noncomputable abbrev cellsAt (L : Addr) (o1 o2 o3 o4 : Obj) (T : List (Addr × Obj)) : List (Addr × Obj) := (L + 1 + 1 + 1 + 1, o4) :: (L + 1 + 1 + 1, o3) :: (L + 1 + 1, o2) :: (L + 1, o1) :: T
noncomputable abbrev tab0 : List (Addr × Obj) := [(54, tabObj #[]), (47, tabObj #[])]
inductive StA (base : Heap) (L : Addr) (s₀ : Shared) (d : D2) (s : Shared)  : Prop
  | mk (t1 : Tok) (t2 : Tok) (t3 : Tok) (t4 : Tok) (o3 : Obj) (o4 : Obj) (f0 : o3.data = .cell none) (f1 : o4.data = .cell none) (f2 : At base L s₀ [(Str.ofString "ratio", .int d.l t1), (Str.ofString "most", .int d.m t2), (Str.ofString "width", .int d.w t3), (Str.ofString "kind", .int d.k t4), (Str.ofString "views", .ref d.v), (Str.ofString "sizes", .ref d.z)] ((d.z, listOf d.zz.toArray 0) :: (d.v, listOf d.vv.toArray 0) :: (d.q, listOf d.us.toArray d.n1) :: cellsAt L d.o1 d.o2 o3 o4 tab0) s) : StA base L s₀ d s
theorem fmod_in {c n : Int} (h : 0 < n) : 0 ≤ c.fmod n ∧ c.fmod n < n := by
  rw [Int.fmod_eq_emod_of_nonneg _ (by (first | lia | omega))]
  exact ⟨Int.emod_nonneg _ (by (first | lia | omega)), Int.emod_lt_of_pos _ h⟩
theorem mkA {base : Heap} {L : Addr} {s : Shared} {h : Heap} {tk : Nat} {gns : Array GenState} {mm : Str → Option Value} {q v z : Addr} {us vv zz : List Value} {n1 : Nat} {cs : List Int} {l m b w k : Int} {o1 o2 o3 o4 : Obj} {x1 x2 x3 : Addr × Obj} {t1 t2 t3 t4 tb : Tok}
    (hB : AllB gns) (F : Fr base L h mm) (N : News base L h ((z, listOf zz.toArray 0) :: x1 :: (v, listOf vv.toArray 0) :: x2 :: (q, listOf us.toArray n1) :: x3 :: cellsAt L o1 o2 o3 o4 tab0))
    (e1 : mm (Str.ofString "ratio") = some (.int l t1)) (e2 : mm (Str.ofString "most") = some (.int m t2)) (e3 : mm (Str.ofString "width") = some (.int w t3)) (e4 : mm (Str.ofString "kind") = some (.int k t4)) (e5 : mm (Str.ofString "views") = some (.ref v)) (e6 : mm (Str.ofString "sizes") = some (.ref z))
    (h1 : o1.data = .cell (some (.ref q))) (h2 : o2.data = .cell (some (.int b tb))) (h3 : o3.data = .cell none) (h4 : o4.data = .cell none) (hus : IntsAre us cs) (hcs : cs.length = 7) (hcb : ∀ c ∈ cs, 0 ≤ c ∧ c ≤ 70000000)
    (hl : 2 ≤ l ∧ l ≤ 4) (hm : m = 2 ∨ m = 3) (hb : 8 ≤ b ∧ b ≤ 11) (hw : 16 ≤ w ∧ w ≤ 615) (hk : 0 ≤ k ∧ k ≤ 3)
    (hvv : IntsAre vv (List.take m.toNat [1, l, l * l - 1])) (hzz : IntsAre zz (List.take m.toNat [1, l, l * l - 2]))
    (lq : @LT.lt Nat instLTNat (L + 1 + 1 + 1 + 1) q) (lv : @LT.lt Nat instLTNat q v) (lz : @LT.lt Nat instLTNat v z) (lL : @LT.lt Nat instLTNat 54 L ∧ @LT.lt Nat instLTNat 47 L) :
    ∃ d : D2, d.Ok L ∧ StA base L s d { s with heap := h, toks := tk, gens := gns } := by
  refine ⟨⟨q, v, z, us, vv, zz, n1, cs, l, m, b, w, k, o1, o2, tb⟩, ⟨hl, hm, hb, hw, hk, hus, hcs, hcb, hvv, hzz, h1, h2, lq, lv, lz, lL⟩, t1, t2, t3, t4, o3, o4, h3, h4, At.intro hB F N ?_ ?_⟩
  · intro p hp
    rcases List.mem_cons.mp hp with rfl | hp
    · exact .head _
    · rcases List.mem_cons.mp hp with rfl | hp
      · exact .tail _ (.tail _ (.head _))
      · rcases List.mem_cons.mp hp with rfl | hp
        · exact .tail _ (.tail _ (.tail _ (.tail _ (.head _))))
        · exact .tail _ (.tail _ (.tail _ (.tail _ (.tail _ (.tail _ hp)))))
  · refine List.forall_mem_cons.mpr ⟨e1, List.forall_mem_cons.mpr ⟨e2, List.forall_mem_cons.mpr ⟨e3, List.forall_mem_cons.mpr ⟨e4, List.forall_mem_cons.mpr ⟨e5, List.forall_mem_cons.mpr ⟨e6, List.forall_mem_nil _⟩⟩⟩⟩⟩⟩
theorem segA {w : World} {p : Program} {loose : List Str} {mean : ExcName → Option Value} {mg mb : Str → Option Value} {base : Heap} (H : Base w p loose mean mg mb base) (L fa : Addr) (cd : Value) (lr : Addr) (vs : List Value) (ns : List Int) (hls : base.IsList lr vs.toArray) (hvs : IntsAre vs ns) (hn : ns.length ≤ 63)
    (s : Shared) (hB : AllB s.gens) (u : Str → Option Value) (F : Fr base L s.heap (kstB u [(Str.ofString "script", .ref lr)])) (o1 o2 o3 o4 : Obj) (hL : @LT.lt Nat instLTNat 54 L ∧ @LT.lt Nat instLTNat 47 L)
    (N : News base L s.heap (cellsAt L o1 o2 o3 o4 tab0)) (d1 : o1.data = .cell none) (d2 : o2.data = .cell none) (d3 : o3.data = .cell none) (d4 : o4.data = .cell none) :
    wpAny (model PySem.Challenge.rw_rl0045_02.row.prog w) (aL L fa cd) (execs (sg 0 8) (eL L fa cd)) (Ends fun s' => ∃ d : D2, d.Ok L ∧ StA base L s d s') (fun _ _ => False) s := by
  have dummy : (fun (_ : OpenLaw) (_ : Params → Frag) => True) PySem.Challenge.rw_rl0045_02 hd2.heap_39 := by k_fill; trivial
  clear dummy
  obtain ⟨X, T, B⟩ := H
  try refine post_K fun K9 hK9 => ?_
  obtain ⟨sc9, hsc9⟩ : ∃ sc, sc = lawS := ⟨_, rfl⟩
  obtain ⟨bd9, hbd9⟩ : ∃ b, b = sg 0 8 := ⟨_, rfl⟩
  unfold aL eL
  rw [← hsc9, ← hbd9]
  delta sg at hbd9
  conv at hsc9 => rhs; whnf
  conv at hbd9 => rhs; whnf
  conv at hbd9 => rhs; arg 2; whnf
  conv at hbd9 => rhs; arg 2; arg 2; whnf
  conv at hbd9 => rhs; arg 2; arg 2; arg 2; whnf
  conv at hbd9 => rhs; arg 2; arg 2; arg 2; arg 2; whnf
  conv at hbd9 => rhs; arg 2; arg 2; arg 2; arg 2; arg 2; whnf
  conv at hbd9 => rhs; arg 2; arg 2; arg 2; arg 2; arg 2; arg 2; whnf
  conv at hbd9 => rhs; arg 2; arg 2; arg 2; arg 2; arg 2; arg 2; arg 2; whnf
  conv at hbd9 => rhs; arg 2; arg 2; arg 2; arg 2; arg 2; arg 2; arg 2; arg 2; whnf
  subst hsc9 hbd9
  k_steps
  unfold Hold
  k_dflt (refine' useL (cells_c _ _ _ _ _ _ [0, 1, 0, 504, 6, 922, 57] _ ?c1 ?c2 ?c3 ?c4 ?c5 ?c6 ?c7) ?u1 ?u2 ?u3 ?u4 ?u5 ?u6 ?u7 ?u8 ?_; (case u1 => k_asm); (case u2 => k_asm); (case u3 => k_asm); (case u4 => k_asm); (case c1 => exact hls); (case c2 => k_mem); (case c3 => exact hvs); (case c4 => repeat (first | exact .nil | refine .cons _ _ ?_)); (case c5 => rfl); (case c6 => decide); (case c7 => (first | lia | omega)); (case u5 => k_asm); (case u6 => exact rfl); (case u7 => ktr_room); (case u8 => ktr_units))
  rintro v nx h1 tk1 F1 N1 ⟨q, us, n1, cs, rfl, rfl, hlt1, hus, hcs, hcb⟩
  k_lt hlt1
  have hul := hus.length
  k_steps
  rename News base L _ _ => NZ
  rename Fr base L _ _ => FZ
  refine Ends.intro (hK9 _ ?_)
  have f0 := fmod_in (c := cs.getD 0 0) (n := 3) (by decide)
  have f1 := fmod_in (c := cs.getD 1 0) (n := 2) (by decide)
  have f2 := fmod_in (c := cs.getD 2 0) (n := 4) (by decide)
  have f3 := fmod_in (c := cs.getD 3 0) (n := 600) (by decide)
  have f4 := fmod_in (c := cs.getD 4 0) (n := 4) (by decide)
  refine' mkA hB FZ NZ rfl rfl rfl rfl rfl rfl ?h1 ?h2 d3 d4 hus hcs hcb ?a1 ?a2 ?a3 ?a4 ?a5 ?a6 ?a7 ?a8 ?a9 ?aa hL
  (case h1 => assumption)
  (case h2 => assumption)
  (case a6 => assumption)
  (case a7 => assumption)
  (case a1 => show 2 ≤ 2 + (cs.getD 0 0).fmod 3 ∧ 2 + (cs.getD 0 0).fmod 3 ≤ 4; (first | lia | omega))
  (case a2 => show 2 + (cs.getD 1 0).fmod 2 = 2 ∨ 2 + (cs.getD 1 0).fmod 2 = 3; (first | lia | omega))
  (case a3 => show 8 ≤ 8 + (cs.getD 2 0).fmod 4 ∧ 8 + (cs.getD 2 0).fmod 4 ≤ 11; (first | lia | omega))
  (case a4 => show 16 ≤ 16 + (cs.getD 3 0).fmod 600 ∧ 16 + (cs.getD 3 0).fmod 600 ≤ 615; (first | lia | omega))
  (case a5 => show 0 ≤ (cs.getD 4 0).fmod 4 ∧ (cs.getD 4 0).fmod 4 ≤ 3; (first | lia | omega))
  (case a8 => (first | lia | omega))
  (case a9 => (first | lia | omega))
  (case aa => (first | lia | omega))
end
section
local macro_rules | `(tactic| walk_at "zz0") => `(tactic| skip)
theorem fresh16 : True := by
  w_top off
  trivial
local macro_rules | `(tactic| walk_at "call ref") => `(tactic| (k_here; refine hold ?_))
noncomputable def sizesOf (l m : Int) : List Int := List.take m.toNat [1, l, l * l - 2]
noncomputable def rowOf (l m k : Int) : List Int :=
  if k = 0 then sizesOf l m else if k = 1 then sizesOf l m ++ [127, 2] else if k = 2 then sizesOf l m ++ [0] else (if l = 2 then (sizesOf l m).take 2 else sizesOf l m) ++ [0, 127]
inductive StB (base : Heap) (L : Addr) (s₀ : Shared) (d : D2) (s : Shared)  : Prop
  | mk (t1 : Tok) (t2 : Tok) (t3 : Tok) (t4 : Tok) (o3 : Obj) (o4 : Obj) (r : Addr) (rr : List Value) (nr : Nat) (f0 : o3.data = .cell none) (f1 : o4.data = .cell none) (f2 : IntsAre rr (rowOf d.l d.m d.k)) (f3 : @LT.lt Nat instLTNat (L + 1 + 1 + 1 + 1) r) (f4 : At base L s₀ [(Str.ofString "ratio", .int d.l t1), (Str.ofString "most", .int d.m t2), (Str.ofString "width", .int d.w t3), (Str.ofString "kind", .int d.k t4), (Str.ofString "views", .ref d.v), (Str.ofString "sizes", .ref d.z), (Str.ofString "row", .ref r)] ((r, listOf rr.toArray nr) :: (d.z, listOf d.zz.toArray 0) :: (d.v, listOf d.vv.toArray 0) :: (d.q, listOf d.us.toArray d.n1) :: cellsAt L d.o1 d.o2 o3 o4 tab0) s) : StB base L s₀ d s
theorem row0 {l m k : Int} {rr : List Value} (hk : k = 0) (h : IntsAre rr (List.take m.toNat [1, l, l * l - 2])) : IntsAre rr (rowOf l m k) := by subst hk; exact h
theorem row1 {l m k : Int} {rr : List Value} (hk : k = 1) (h : IntsAre rr (List.take m.toNat [1, l, l * l - 2] ++ [127, 2])) : IntsAre rr (rowOf l m k) := by subst hk; exact h
theorem row2 {l m k : Int} {rr : List Value} (hk : k = 2) (h : IntsAre rr (List.take m.toNat [1, l, l * l - 2] ++ [0])) : IntsAre rr (rowOf l m k) := by subst hk; exact h
theorem row3 {l m k : Int} {rr : List Value} (hk : k = 3) (hl : l = 2) (h : IntsAre rr (List.take 2 (List.take m.toNat [1, l, l * l - 2]) ++ [0, 127])) : IntsAre rr (rowOf l m k) := by subst hk; subst hl; exact h
theorem row4 {l m k : Int} {rr : List Value} (hk : k = 3) (hl : l ≠ 2) (h : IntsAre rr (List.take m.toNat [1, l, l * l - 2] ++ [0, 127])) : IntsAre rr (rowOf l m k) := by
  subst hk
  show IntsAre rr ((if l = 2 then (sizesOf l m).take 2 else sizesOf l m) ++ [0, 127])
  rw [if_neg hl]; exact h
theorem mkB {base : Heap} {L : Addr} {s₀ : Shared} {d : D2} {h : Heap} {tk : Nat} {gns : Array GenState} {mm : Str → Option Value} {nx : List (Addr × Obj)} {r : Addr} {rr : List Value} {nr : Nat} {o3 o4 : Obj} {t1 t2 t3 t4 : Tok}
    (hB : AllB gns) (F : Fr base L h mm) (N : News base L h nx) (e1 : mm (Str.ofString "ratio") = some (.int d.l t1)) (e2 : mm (Str.ofString "most") = some (.int d.m t2)) (e3 : mm (Str.ofString "width") = some (.int d.w t3)) (e4 : mm (Str.ofString "kind") = some (.int d.k t4)) (e5 : mm (Str.ofString "views") = some (.ref d.v)) (e6 : mm (Str.ofString "sizes") = some (.ref d.z)) (e7 : mm (Str.ofString "row") = some (.ref r))
    (hr : (r, listOf rr.toArray nr) ∈ nx) (hi : IntsAre rr (rowOf d.l d.m d.k)) (lr : @LT.lt Nat instLTNat (L + 1 + 1 + 1 + 1) r) (h3 : o3.data = .cell none) (h4 : o4.data = .cell none)
    (hs : ∀ p ∈ (d.z, listOf d.zz.toArray 0) :: (d.v, listOf d.vv.toArray 0) :: (d.q, listOf d.us.toArray d.n1) :: cellsAt L d.o1 d.o2 o3 o4 tab0, p ∈ nx) : StB base L s₀ d { s₀ with heap := h, toks := tk, gens := gns } := by
  refine ⟨t1, t2, t3, t4, o3, o4, r, rr, nr, h3, h4, hi, lr, At.intro hB F N (List.forall_mem_cons.mpr ⟨hr, hs⟩) ?_⟩
  exact List.forall_mem_cons.mpr ⟨e1, List.forall_mem_cons.mpr ⟨e2, List.forall_mem_cons.mpr ⟨e3, List.forall_mem_cons.mpr ⟨e4, List.forall_mem_cons.mpr ⟨e5, List.forall_mem_cons.mpr ⟨e6, List.forall_mem_cons.mpr ⟨e7, List.forall_mem_nil _⟩⟩⟩⟩⟩⟩⟩
theorem segB {w : World} {p : Program} {loose : List Str} {mean : ExcName → Option Value} {mg mb : Str → Option Value} {base : Heap} (H : Base w p loose mean mg mb base) (L fa : Addr) (cd : Value) (s₀ : Shared) (d : D2) (hd : d.Ok L) (s : Shared) (hS : StA base L s₀ d s) :
    wpAny (model PySem.Challenge.rw_rl0045_02.row.prog w) (aL L fa cd) (execs (sg 8 2) (eL L fa cd)) (Ends (StB base L s₀ d)) (fun _ _ => False) s := by
  have dummy : (fun (_ : OpenLaw) (_ : Params → Frag) => True) PySem.Challenge.rw_rl0045_02 hd2.heap_39 := by k_fill; trivial
  clear dummy
  obtain ⟨X, T, B⟩ := H
  obtain ⟨q, v, z, us, vv, zz, n1, cs, l, m, b, wd, k, o1, o2, tb⟩ := d
  obtain ⟨hl, hm, hb, hw, hk, hus, hcs, hcb, hvv, hzz, h1, h2, lq, lv, lz, lL⟩ := hd
  obtain ⟨t1, t2, t3, t4, o3, o4, h3, h4, h, tk, gns, u, hB, F, N⟩ := hS
  dsimp only at *
  try refine post_K fun K9 hK9 => ?_
  obtain ⟨sc9, hsc9⟩ : ∃ sc, sc = lawS := ⟨_, rfl⟩
  obtain ⟨bd9, hbd9⟩ : ∃ b, b = sg 8 2 := ⟨_, rfl⟩
  unfold aL eL
  rw [← hsc9, ← hbd9]
  delta sg at hbd9
  conv at hsc9 => rhs; whnf
  conv at hbd9 => rhs; whnf
  conv at hbd9 => rhs; arg 2; whnf
  conv at hbd9 => rhs; arg 2; arg 2; whnf
  subst hsc9 hbd9
  k_steps
  all_goals (
    refine Ends.intro (hK9 _ ?_)
    rename News base L _ _ => NZ
    rename Fr base L _ _ => FZ
    refine' mkB (o3 := o3) (o4 := o4) hB FZ NZ rfl rfl rfl rfl rfl rfl rfl ?h1 ?h2 ?h3 h3 h4 ?h5
    (case h1 => k_mem)
    (case h2 => first | exact row0 (by assumption) (by assumption) | exact row1 (by assumption) (by assumption) | exact row2 (by assumption) (by assumption) | exact row3 (by assumption) (by assumption) (by assumption) | exact row4 (by assumption) (by assumption) (by assumption))
    (case h3 => (first | lia | omega))
    (case h5 => walk_at "sub_all"))
end
section
theorem fresh17 : True := by
  w_top off
  trivial
local macro_rules | `(tactic| walk_at "call ref") => `(tactic| (k_here; refine hold ?_))
noncomputable def toldOf (l m k : Int) : List Int := sizesOf l m ++ (if k > 1 then [(sizesOf l m).getD (m.toNat - 1) 0, (sizesOf l m).getD (m.toNat - 1) 0] else [])
theorem l_mem {l : Int} (hl : 2 ≤ l ∧ l ≤ 4) : l ∈ [(2 : Int), 3, 4] := by
  have : l = 2 ∨ l = 3 ∨ l = 4 := by (first | lia | omega)
  rcases this with rfl | rfl | rfl <;> decide
theorem m_mem {m : Int} (hm : m = 2 ∨ m = 3) : m ∈ [(2 : Int), 3] := by rcases hm with rfl | rfl <;> decide
theorem k_mem4 {k : Int} (hk : 0 ≤ k ∧ k ≤ 3) : k ∈ [(0 : Int), 1, 2, 3] := by
  have : k = 0 ∨ k = 1 ∨ k = 2 ∨ k = 3 := by (first | lia | omega)
  rcases this with rfl | rfl | rfl | rfl <;> decide
noncomputable def gokB : Option Int → List Int → Bool
  | _, [] => true
  | last, x :: xs => if x = 127 then true else if x = 0 then last.isSome else gokB (some x) xs
theorem gok_of : ∀ (xs : List Int) (last : Option Int), gokB last xs = true → gok last xs
  | [], _, _ => True.intro
  | x :: xs, last, h => by
    unfold gokB at h
    unfold gok
    split
    · exact True.intro
    · rename_i h1
      rw [if_neg h1] at h
      split
      · rename_i h2
        rw [if_pos h2] at h; exact h
      · rename_i h2
        rw [if_neg h2] at h; exact gok_of xs _ h
theorem rows_all : ∀ l ∈ [(2 : Int), 3, 4], ∀ m ∈ [(2 : Int), 3], ∀ k ∈ [(0 : Int), 1, 2, 3], gokB none (rowOf l m k) = true ∧ ((List.range 6).all fun i => decide ((i : Int) ≤ m + 2 → ((i : Int) = m + 2 ∨ gseq none (rowOf l m k) i = none) → tolds (gseq none (rowOf l m k)) i = toldOf l m k)) = true := by decide +kernel
theorem row_ok {l m k : Int} (hl : 2 ≤ l ∧ l ≤ 4) (hm : m = 2 ∨ m = 3) (hk : 0 ≤ k ∧ k ≤ 3) : gok none (rowOf l m k) := gok_of _ _ (rows_all l (l_mem hl) m (m_mem hm) k (k_mem4 hk)).1
theorem told_is {l m k : Int} (hl : 2 ≤ l ∧ l ≤ 4) (hm : m = 2 ∨ m = 3) (hk : 0 ≤ k ∧ k ≤ 3) {i : Nat} (hi : (i : Int) ≤ m + 2) (h : (i : Int) = m + 2 ∨ gseq none (rowOf l m k) i = none) : tolds (gseq none (rowOf l m k)) i = toldOf l m k := by
  have h1 := (rows_all l (l_mem hl) m (m_mem hm) k (k_mem4 hk)).2
  rw [List.all_eq_true] at h1
  exact of_decide_eq_true (h1 i (List.mem_range.mpr (by (first | lia | omega)))) hi h
theorem told_eq1 {l m k : Int} (hm : m = 2 ∨ m = 3) (hk : 1 < k) : toldOf l m k = List.take m.toNat [1, l, l * l - 2] ++ (List.replicate (Int.toNat 2) (List.drop ((List.take m.toNat [1, l, l * l - 2]).length - 1) (List.take m.toNat [1, l, l * l - 2]))).flatten := by
  unfold toldOf sizesOf
  rw [if_pos hk]
  rcases hm with rfl | rfl <;> rfl
theorem told_eq2 {l m k : Int} (hk : ¬ 1 < k) : toldOf l m k = List.take m.toNat [1, l, l * l - 2] ++ [] := by
  unfold toldOf sizesOf
  rw [if_neg hk]
inductive StC (base : Heap) (L : Addr) (s₀ : Shared) (d : D2) (s : Shared)  : Prop
  | mk (t2 : Tok) (t3 : Tok) (o3 : Obj) (o4 : Obj) (tq : Addr) (tt : List Value) (nt : Nat) (f0 : o3.data = .cell (some (.ref tq))) (f1 : o4.data = .cell none) (f2 : IntsAre tt (toldOf d.l d.m d.k)) (f3 : @LT.lt Nat instLTNat (L + 1 + 1 + 1 + 1) tq) (f4 : At base L s₀ [(Str.ofString "most", .int d.m t2), (Str.ofString "width", .int d.w t3), (Str.ofString "views", .ref d.v)] ((tq, listOf tt.toArray nt) :: (d.v, listOf d.vv.toArray 0) :: (d.q, listOf d.us.toArray d.n1) :: cellsAt L d.o1 d.o2 o3 o4 tab0) s) : StC base L s₀ d s
theorem mkC {base : Heap} {L : Addr} {s₀ : Shared} {d : D2} {h : Heap} {tk : Nat} {gns : Array GenState} {mm : Str → Option Value} {nx : List (Addr × Obj)} {tq : Addr} {tt : List Value} {nt : Nat} {o3 o4 : Obj} {t2 t3 : Tok}
    (hB : AllB gns) (F : Fr base L h mm) (N : News base L h nx) (e2 : mm (Str.ofString "most") = some (.int d.m t2)) (e3 : mm (Str.ofString "width") = some (.int d.w t3)) (e5 : mm (Str.ofString "views") = some (.ref d.v))
    (hi : IntsAre tt (toldOf d.l d.m d.k)) (lr : @LT.lt Nat instLTNat (L + 1 + 1 + 1 + 1) tq) (h3 : o3.data = .cell (some (.ref tq))) (h4 : o4.data = .cell none)
    (hs : ∀ p ∈ (tq, listOf tt.toArray nt) :: (d.v, listOf d.vv.toArray 0) :: (d.q, listOf d.us.toArray d.n1) :: cellsAt L d.o1 d.o2 o3 o4 tab0, p ∈ nx) : StC base L s₀ d { s₀ with heap := h, toks := tk, gens := gns } :=
  ⟨t2, t3, o3, o4, tq, tt, nt, h3, h4, hi, lr, At.intro hB F N hs (List.forall_mem_cons.mpr ⟨e2, List.forall_mem_cons.mpr ⟨e3, List.forall_mem_cons.mpr ⟨e5, List.forall_mem_nil _⟩⟩⟩)⟩
theorem segC {w : World} {p : Program} {loose : List Str} {mean : ExcName → Option Value} {mg mb : Str → Option Value} {base : Heap} (H : Base w p loose mean mg mb base) (L fa : Addr) (cd : Value) (s₀ : Shared) (d : D2) (hd : d.Ok L) (s : Shared) (hS : StB base L s₀ d s) :
    wpAny (model PySem.Challenge.rw_rl0045_02.row.prog w) (aL L fa cd) (execs (sg 10 2) (eL L fa cd)) (Ends (StC base L s₀ d)) (fun _ _ => False) s := by
  have dummy : (fun (_ : OpenLaw) (_ : Params → Frag) => True) PySem.Challenge.rw_rl0045_02 hd2.heap_39 := by k_fill; trivial
  clear dummy
  obtain ⟨X, T, B⟩ := H
  obtain ⟨q, v, z, us, vv, zz, n1, cs, l, m, b, wd, k, o1, o2, tb⟩ := d
  obtain ⟨hl, hm, hb, hw, hk, hus, hcs, hcb, hvv, hzz, h1, h2, lq, lv, lz, lL⟩ := hd
  obtain ⟨t1, t2, t3, t4, o3, o4, r, rr, nr, h3, h4, hi, lr, h, tk, gns, u, hB, F, N⟩ := hS
  dsimp only at *
  try refine post_K fun K9 hK9 => ?_
  obtain ⟨sc9, hsc9⟩ : ∃ sc, sc = lawS := ⟨_, rfl⟩
  obtain ⟨bd9, hbd9⟩ : ∃ b, b = sg 10 2 := ⟨_, rfl⟩
  unfold aL eL
  rw [← hsc9, ← hbd9]
  delta sg at hbd9
  conv at hsc9 => rhs; whnf
  conv at hbd9 => rhs; whnf
  conv at hbd9 => rhs; arg 2; whnf
  conv at hbd9 => rhs; arg 2; arg 2; whnf
  subst hsc9 hbd9
  k_steps
  unfold Hold
  k_dflt (refine' useG (told_c _ _ _ _ _ ?c1 ?c2 ?c3 _ _ ?c4 ?c5) ?u1 ?u2 ?u3 ?u4 ?u5 ?u6 ?u7 ?u8 ?u9 ?_; (case u1 => k_asm); (case u2 => k_asm); (case u3 => k_asm); (case u4 => k_asm); (case c1 => k_mem); (case c2 => exact hi); (case c3 => exact row_ok hl hm hk); (case c4 => (first | lia | omega)); (case c5 => (first | lia | omega)); (case u5 => k_asm); (case u6 => exact rfl); (case u7 => ktr_room); (case u8 => ktr_units); (case u9 => exact hB))
  rintro v2 nx2 h2' tk2 gns2 F2 N2 hB2 ⟨tq, tt, nt, i, rfl, rfl, htlt, htt, hi1, hi2⟩
  rw [told_is hl hm hk hi1 hi2] at htt
  k_lt htlt
  have htl := htt.length
  k_steps
  all_goals (first
    | exact absurd (told_eq1 hm (by assumption)) (by assumption)
    | exact absurd (told_eq2 (by (first | lia | omega))) (by assumption)
    | skip)
  all_goals (
    refine Ends.intro (hK9 _ ?_)
    rename News base L _ _ => NZ
    rename Fr base L _ _ => FZ
    rename Obj.data _ = _ => hO
    refine' mkC (tt := tt) hB2 FZ NZ rfl rfl rfl htt ?h3 hO h4 ?h5
    (case h3 => (first | lia | omega))
    (case h5 => walk_at "sub_all"))
end
section
local macro_rules | `(tactic| walk_at "zz0") => `(tactic| skip)
theorem fresh18 : True := by
  w_top off
  trivial
local macro_rules | `(tactic| walk_at "call ref") => `(tactic| (k_here; refine hold ?_))
theorem told_len {l m k : Int} : (toldOf l m k).length ≤ 5 := by
  unfold toldOf sizesOf
  rw [List.length_append]
  have : (List.take m.toNat [1, l, l * l - 2]).length ≤ 3 := by rw [List.length_take]; simp; (first | lia | omega)
  split <;> simp <;> (first | lia | omega)
theorem marks_all : ∀ l ∈ [(2 : Int), 3, 4], ∀ m ∈ [(2 : Int), 3], ∀ k ∈ [(0 : Int), 1, 2, 3], ((List.range m.toNat).all fun i => decide (((toldOf l m k).take (i + 1)).sum = (mkOf l m).getD i 0)) = true := by decide +kernel
theorem mark_at {l m k : Int} (hl : 2 ≤ l ∧ l ≤ 4) (hm : m = 2 ∨ m = 3) (hk : 0 ≤ k ∧ k ≤ 3) {i : Nat} (hi : i < m.toNat) : ((toldOf l m k).take (i + 1)).sum = (mkOf l m).getD i 0 := by
  have h1 := marks_all l (l_mem hl) m (m_mem hm) k (k_mem4 hk)
  rw [List.all_eq_true] at h1
  exact of_decide_eq_true (h1 i (List.mem_range.mpr hi))
theorem mk_len {l m : Int} (hm : m = 2 ∨ m = 3) : (mkOf l m).length = m.toNat := by rcases hm with rfl | rfl <;> rfl
/-- a list apart from the last cell and the tables -/
noncomputable def Away (L a : Addr) : Prop := (@Ne Nat a (L + 1 + 1 + 1 + 1)) ∧ (@Ne Nat a 54) ∧ (@Ne Nat a 47)
inductive StD (base : Heap) (L : Addr) (s₀ : Shared) (d : D2) (s : Shared)  : Prop
  | mk (t2 : Tok) (t3 : Tok) (o3 : Obj) (o4 : Obj) (mq : Addr) (mm : List Value) (nm : Nat) (f0 : o4.data = .cell none) (f1 : IntsAre mm (mkOf d.l d.m)) (f2 : Away L mq) (f3 : At base L s₀ [(Str.ofString "most", .int d.m t2), (Str.ofString "width", .int d.w t3), (Str.ofString "views", .ref d.v), (Str.ofString "marks", .ref mq)] ((mq, listOf mm.toArray nm) :: (d.v, listOf d.vv.toArray 0) :: (d.q, listOf d.us.toArray d.n1) :: cellsAt L d.o1 d.o2 o3 o4 tab0) s) : StD base L s₀ d s
theorem mkD {base : Heap} {L : Addr} {s₀ : Shared} {d : D2} {h : Heap} {tk : Nat} {gns : Array GenState} {mp : Str → Option Value} {nx : List (Addr × Obj)} {mq : Addr} {mm : List Value} {nm : Nat} {o3 o4 : Obj} {t2 t3 : Tok}
    (hB : AllB gns) (F : Fr base L h mp) (N : News base L h nx) (e2 : mp (Str.ofString "most") = some (.int d.m t2)) (e3 : mp (Str.ofString "width") = some (.int d.w t3)) (e5 : mp (Str.ofString "views") = some (.ref d.v)) (e6 : mp (Str.ofString "marks") = some (.ref mq))
    (hi : IntsAre mm (mkOf d.l d.m)) (lr : Away L mq) (h4 : o4.data = .cell none)
    (hs : ∀ p ∈ (mq, listOf mm.toArray nm) :: (d.v, listOf d.vv.toArray 0) :: (d.q, listOf d.us.toArray d.n1) :: cellsAt L d.o1 d.o2 o3 o4 tab0, p ∈ nx) : StD base L s₀ d { s₀ with heap := h, toks := tk, gens := gns } :=
  ⟨t2, t3, o3, o4, mq, mm, nm, h4, hi, lr, At.intro hB F N hs (List.forall_mem_cons.mpr ⟨e2, List.forall_mem_cons.mpr ⟨e3, List.forall_mem_cons.mpr ⟨e5, List.forall_mem_cons.mpr ⟨e6, List.forall_mem_nil _⟩⟩⟩⟩)⟩
local macro_rules | `(tactic| walk_at "CompSrc") => `(tactic| (k_here; refine hold ?_))
local macro_rules | `(tactic| walk_at "CompEnd") => `(tactic| (refine hold ?_))
theorem segD {w : World} {p : Program} {loose : List Str} {mean : ExcName → Option Value} {mg mb : Str → Option Value} {base : Heap} (H : Base w p loose mean mg mb base) (L fa : Addr) (cd : Value) (s₀ : Shared) (d : D2) (hd : d.Ok L) (s : Shared) (hS : StC base L s₀ d s) :
    wpAny (model PySem.Challenge.rw_rl0045_02.row.prog w) (aL L fa cd) (execs (sg 12 1) (eL L fa cd)) (Ends (StD base L s₀ d)) (fun _ _ => False) s := by
  have dummy : (fun (_ : OpenLaw) (_ : Params → Frag) => True) PySem.Challenge.rw_rl0045_02 hd2.heap_39 := by k_fill; trivial
  clear dummy
  obtain ⟨X, T, B⟩ := H
  obtain ⟨q, v, z, us, vv, zz, n1, cs, l, m, b, wd, k, o1, o2, tb⟩ := d
  obtain ⟨hl, hm, hb, hw, hk, hus, hcs, hcb, hvv, hzz, h1, h2, lq, lv, lz, lL⟩ := hd
  obtain ⟨t2, t3, o3, o4, tq, tt, nt, h3, h4, hi, lr, h, tk, gns, u, hB, F, N⟩ := hS
  dsimp only at *
  have hil := hi.length
  have hil5 := told_len (l := l) (m := m) (k := k)
  try refine post_K fun K9 hK9 => ?_
  obtain ⟨sc9, hsc9⟩ : ∃ sc, sc = lawS := ⟨_, rfl⟩
  obtain ⟨bd9, hbd9⟩ : ∃ b, b = sg 12 1 := ⟨_, rfl⟩
  unfold aL eL
  rw [← hsc9, ← hbd9]
  delta sg at hbd9
  conv at hsc9 => rhs; whnf
  conv at hbd9 => rhs; whnf
  conv at hbd9 => rhs; arg 2; whnf
  subst hsc9 hbd9
  k_steps
  unfold Hold
  rename IsRange _ _ _ _ _ _ _ _ => hR
  rename News base L _ _ => NR
  rename Fr base L _ _ => FR
  refine LCg.CompSrc.range rfl FR NR hR (small_one (by (first | lia | omega)) (by (first | lia | omega)) (by (first | lia | omega)) (by (first | lia | omega))) (n := m.toNat) (by rw [rangeSize_nat]; (first | lia | omega)) (by show _ ≤ 16777216; (first | lia | omega)) ?_
  intro g
  refine compS (n := m.toNat) (fun i y => ∃ t, y = Value.int ((toldOf l m k).take (i + 1)).sum t) ?_ ?_
  · rintro i y I oI C oC D m₂ ys h' tk' E' hii ⟨t', rfl⟩ hC hx F' N' off ne
    have off0 := off
    simp only [LCg.Off3, and_true] at off
    k_steps
    unfold Hold
    rename News base L _ _ => NZ
    rename Fr base L _ _ => FZ
    refine LCg.CompEnd.intro FZ NZ _ ?_ off0 trivial ⟨rfl, _, by rw [show ((0 : Int) + (i : Int) + 1).toNat = i + 1 by (first | lia | omega)]⟩
    walk_at "sub_all"
  · intro ys hyl hys
    have hys2 : IntsAre ys (mkOf l m) := intsOf (by rw [hyl, mk_len hm]) fun i y hy => by
      have hii : i < ys.length := by
        rcases Nat.lt_or_ge i ys.length with h9 | h9
        · exact h9
        · rw [List.getElem?_eq_none h9] at hy; cases hy
      obtain ⟨t9, e9⟩ := hys i y hy
      exact ⟨t9, by rw [e9, mark_at hl hm hk (by (first | lia | omega))]⟩
    k_steps
    refine Ends.intro (hK9 _ ?_)
    rename News base L _ _ => NZ
    rename Fr base L _ _ => FZ
    refine' mkD (mm := ys) (o3 := o3) hB FZ NZ rfl rfl rfl rfl hys2 ?h3 h4 ?h5
    (case h3 => exact ⟨by (first | lia | omega), by (first | lia | omega), by (first | lia | omega)⟩)
    (case h5 => walk_at "sub_all")
end
section
theorem fresh19 : True := by
  w_top off
  trivial
local macro_rules | `(tactic| walk_at "call ref") => `(tactic| (k_here; refine hold ?_))
local macro_rules | `(tactic| walk_at "pyIter ref") => `(tactic| (k_here; refine hold ?_))
local macro_rules | `(tactic| walk_at "binaryOp LShift int int") => `(tactic| (k_here; k_dflt (refine' lshift_int ?k1 ?k2 ?_; (case k1 => lia); (case k2 => lia); k_whole)))
local macro_rules | `(tactic| walk_at "ne_front") => `(tactic| first | exact List.forall_mem_nil _ | (refine List.forall_mem_cons.mpr ⟨?_, ?_⟩; (dsimp only; first | assumption | (refine neN ?_; lia)); walk_at "ne_front"))
local macro_rules | `(tactic| walk_at "exec For Name Name cons nil") => `(tactic| (k_here; (with_unfolding_all refine wpAny_For ?_ (by intro _; rfl))))
local macro_rules | `(tactic| walk_at "binaryOp Mult ref int") => `(tactic| (k_here; refine hold ?_))
local macro_rules | `(tactic| walk_at "inplaceOp Mult int int") => `(tactic| (k_here; k_dflt (refine' imul_int ?_ ?m1; (case m1 => exact mulOk_of_bits (m := 100000) (n := 100000) (by lia) (by lia) (by decide)); k_whole)))
theorem val_bits (N : Nat) (ds : List Int) (h : ∀ d ∈ ds, d.natAbs < 2 ^ N) : Builtin.Int.intBits (val N ds) ≤ N * ds.length := intBits_le_iff.mpr (val_bound N ds h)
theorem bits_mul (a b : Int) : Builtin.Int.intBits (a * b) ≤ Builtin.Int.intBits a + Builtin.Int.intBits b := by
  refine intBits_le_iff.mpr ?_
  rw [Int.natAbs_mul, Nat.pow_add]
  have h1 := intBits_le_iff.mp (Nat.le_refl (Builtin.Int.intBits a))
  have h2 := intBits_le_iff.mp (Nat.le_refl (Builtin.Int.intBits b))
  exact Nat.mul_lt_mul'' h1 h2
theorem digK_small {N : Nat} (hN : 16 ≤ N) (k : Int) : ∀ d ∈ digK k, d.natAbs < 2 ^ N := by
  have h9 : (2 : Nat) ^ 16 ≤ 2 ^ N := Nat.pow_le_pow_right (by decide) hN
  intro d hd
  unfold digK at hd
  rcases List.mem_append.mp hd with h | h
  · rcases List.mem_append.mp h with h | h
    · rw [List.mem_singleton.mp h]; show 1 < _; (first | lia | omega)
    · rw [(List.mem_replicate.mp h).2]; show 0 < _; (first | lia | omega)
  · rw [List.mem_singleton.mp h]; show 1 < _; (first | lia | omega)
theorem digK_len (k : Int) : (digK k).length = (k - 1).toNat + 2 := by unfold digK; simp
theorem bot_bits {N : Nat} (hN : 16 ≤ N) : ∀ ks : List Int, (∀ k ∈ ks, 1 ≤ k ∧ k ≤ 19) → Builtin.Int.intBits (bot N ks) ≤ 1 + N * 20 * ks.length
  | [], _ => Nat.le_add_right 1 _
  | k :: r, h => by
    have hk := h k (.head _)
    have ih := bot_bits hN r fun x hx => h x (.tail _ hx)
    have h1 := bits_mul (val N (digK k)) (bot N r)
    have h2 := val_bits N (digK k) (digK_small hN k)
    rw [digK_len] at h2
    have h3 : N * ((k - 1).toNat + 2) ≤ N * 20 := Nat.mul_le_mul_left _ (by (first | lia | omega))
    show Builtin.Int.intBits (val N (digK k) * bot N r) ≤ 1 + N * 20 * (r.length + 1)
    rw [Nat.mul_succ]
    (first | lia | omega)
noncomputable abbrev EEst := Int × Tok × List (Addr × Obj)
noncomputable abbrev eeRest (L mq v q : Addr) (mm vv us : List Value) (nm n1 : Nat) (o1 o2 o3 o4 : Obj) : List (Addr × Obj) := (mq, listOf mm.toArray nm) :: (v, listOf vv.toArray 0) :: (q, listOf us.toArray n1) :: cellsAt L o1 o2 o3 o4 []
noncomputable abbrev eeLed (L mq v q : Addr) (mm vv us : List Value) (nm n1 : Nat) (o1 o2 o3 o4 : Obj) (c : EEst) : List (Addr × Obj) := (mq, listOf mm.toArray nm) :: (v, listOf vv.toArray 0) :: (q, listOf us.toArray n1) :: cellsAt L o1 o2 o3 o4 c.2.2
noncomputable abbrev eePs (c : EEst) : List (Str × Value) := [(Str.ofString "bottom", .int c.1 c.2.1)]
theorem named1 {h₀ h : Heap} {L D : Addr} {o : Obj} {l : List (Addr × Obj)} {Z : Prop} (_N : News h₀ L h ((D, o) :: l)) (k : ∀ q', q' = D → Z) : Z := k D rfl
noncomputable def T0 : List (Addr × Obj) := [(47, tabObj #[]), (54, tabObj #[])]
theorem tabs0 : Tabs T0 := by
  refine ⟨[(47, tabObj #[])], [(54, tabObj #[])], rfl, .none, .none, fun p hp q hq => ?_⟩
  rw [List.mem_singleton.mp hp, List.mem_singleton.mp hq]; decide
inductive StE (base : Heap) (L : Addr) (s₀ : Shared) (d : D2) (s : Shared)  : Prop
  | mk (t2 : Tok) (t3 : Tok) (t4 : Tok) (t5 : Tok) (o3 : Obj) (o4 : Obj) (T : List (Addr × Obj)) (f0 : o4.data = .cell none) (f1 : Tabs T) (f2 : Apart T ((d.v, listOf d.vv.toArray 0) :: (d.q, listOf d.us.toArray d.n1) :: cellsAt L d.o1 d.o2 o3 o4 [])) (f3 : At base L s₀ [(Str.ofString "most", .int d.m t2), (Str.ofString "width", .int d.w t3), (Str.ofString "views", .ref d.v), (Str.ofString "top", .int (2 ^ (d.w.toNat * (d.b + (mkOf d.l d.m).sum).toNat)) t4), (Str.ofString "bottom", .int (bot d.w.toNat (mkOf d.l d.m)) t5)] ((d.v, listOf d.vv.toArray 0) :: (d.q, listOf d.us.toArray d.n1) :: cellsAt L d.o1 d.o2 o3 o4 T) s) : StE base L s₀ d s
theorem mkE {base : Heap} {L : Addr} {s₀ : Shared} {d : D2} {h : Heap} {tk : Nat} {gns : Array GenState} {mp : Str → Option Value} {nx : List (Addr × Obj)} {o3 o4 : Obj} {t2 t3 t4 t5 : Tok} {tv bv : Int} {T : List (Addr × Obj)}
    (hB : AllB gns) (F : Fr base L h mp) (N : News base L h nx) (e2 : mp (Str.ofString "most") = some (.int d.m t2)) (e3 : mp (Str.ofString "width") = some (.int d.w t3)) (e5 : mp (Str.ofString "views") = some (.ref d.v)) (e6 : mp (Str.ofString "top") = some (.int tv t4)) (e7 : mp (Str.ofString "bottom") = some (.int bv t5))
    (htv : tv = 2 ^ (d.w.toNat * (d.b + (mkOf d.l d.m).sum).toNat)) (hbv : bv = bot d.w.toNat (mkOf d.l d.m)) (h4 : o4.data = .cell none) (hT : Tabs T) (ha : Apart T ((d.v, listOf d.vv.toArray 0) :: (d.q, listOf d.us.toArray d.n1) :: cellsAt L d.o1 d.o2 o3 o4 []))
    (hs : ∀ p ∈ (d.v, listOf d.vv.toArray 0) :: (d.q, listOf d.us.toArray d.n1) :: cellsAt L d.o1 d.o2 o3 o4 T, p ∈ nx) : StE base L s₀ d { s₀ with heap := h, toks := tk, gens := gns } := by
  subst htv hbv
  exact ⟨t2, t3, t4, t5, o3, o4, T, h4, hT, ha, At.intro hB F N hs (List.forall_mem_cons.mpr ⟨e2, List.forall_mem_cons.mpr ⟨e3, List.forall_mem_cons.mpr ⟨e5, List.forall_mem_cons.mpr ⟨e6, List.forall_mem_cons.mpr ⟨e7, List.forall_mem_nil _⟩⟩⟩⟩⟩)⟩
theorem segE {w : World} {p : Program} {loose : List Str} {mean : ExcName → Option Value} {mg mb : Str → Option Value} {base : Heap} (H : Base w p loose mean mg mb base) (hcI : CodeHd base 51 47) (hcD : CodeHd base 58 54) (L fa : Addr) (cd : Value) (s₀ : Shared) (d : D2) (hd : d.Ok L) (s : Shared) (hS : StD base L s₀ d s) :
    wpAny (model PySem.Challenge.rw_rl0045_02.row.prog w) (aL L fa cd) (execs (sg 13 3) (eL L fa cd)) (Ends (StE base L s₀ d)) (fun _ _ => False) s := by
  have dummy : (fun (_ : OpenLaw) (_ : Params → Frag) => True) PySem.Challenge.rw_rl0045_02 hd2.heap_39 := by k_fill; trivial
  clear dummy
  obtain ⟨X, T, B⟩ := H
  obtain ⟨q, v, z, us, vv, zz, n1, cs, l, m, b, wd, k, o1, o2, tb⟩ := d
  obtain ⟨hl, hm, hb, hw, hk, hus, hcs, hcb, hvv, hzz, h1, h2, lq, lv, lz, lL⟩ := hd
  obtain ⟨t2, t3, o3, o4, mq, mm, nm, h4, hi, lr, h, tk, gns, u, hB, F, N⟩ := hS
  dsimp only at *
  have hil := hi.length
  have hsum : 0 ≤ (mkOf l m).sum ∧ (mkOf l m).sum ≤ 25 := by
    have h1 : l = 2 ∨ l = 3 ∨ l = 4 := by (first | lia | omega)
    rcases h1 with rfl | rfl | rfl <;> rcases hm with rfl | rfl <;> decide
  have hsh : 0 ≤ wd * (b + (mkOf l m).sum) ∧ wd * (b + (mkOf l m).sum) ≤ 23000 := by
    refine ⟨Int.mul_nonneg (by (first | lia | omega)) (by (first | lia | omega)), ?_⟩
    have : wd * (b + (mkOf l m).sum) ≤ 615 * 36 := Int.mul_le_mul (by (first | lia | omega)) (by (first | lia | omega)) (by (first | lia | omega)) (by (first | lia | omega))
    (first | lia | omega)
  have hml := mk_len (l := l) hm
  try refine post_K fun K9 hK9 => ?_
  obtain ⟨sc9, hsc9⟩ : ∃ sc, sc = lawS := ⟨_, rfl⟩
  obtain ⟨bd9, hbd9⟩ : ∃ b, b = sg 13 3 := ⟨_, rfl⟩
  unfold aL eL
  rw [← hsc9, ← hbd9]
  delta sg at hbd9
  conv at hsc9 => rhs; whnf
  conv at hbd9 => rhs; whnf
  conv at hbd9 => rhs; arg 2; whnf
  conv at hbd9 => rhs; arg 2; arg 2; whnf
  conv at hbd9 => rhs; arg 2; arg 2; arg 2; whnf
  subst hsc9 hbd9
  k_steps
  unfold Hold
  rename News base L _ _ => N1
  rename Fr base L _ _ => F1
  obtain ⟨lr1, lr2, lr3⟩ := lr
  have hW : 16 ≤ wd.toNat := by (first | lia | omega)
  have hmb : ∀ x ∈ mkOf l m, 1 ≤ x ∧ x ≤ 19 := by
    have h1 : l = 2 ∨ l = 3 ∨ l = 4 := by (first | lia | omega)
    rcases h1 with rfl | rfl | rfl <;> rcases hm with rfl | rfl <;> decide
  have hap0 : Apart T0 (eeRest L mq v q mm vv us nm n1 o1 o2 o3 o4) := by
    unfold T0 eeRest cellsAt
    exact List.forall_mem_cons.mpr ⟨by walk_at "ne_front", List.forall_mem_cons.mpr ⟨by walk_at "ne_front", List.forall_mem_nil _⟩⟩
  refine tok_of F1 (Str.ofString "bottom") (i := 1) rfl fun t0 ht0 => ?_
  k_dflt (refine' for_listS (l := mq) (vs := mm) (eeLed L mq v q mm vv us nm n1 o1 o2 o3 o4) eePs [] (fun i c => c.1 = bot wd.toNat ((mkOf l m).take i) ∧ Tabs c.2.2 ∧ Apart c.2.2 (eeRest L mq v q mm vv us nm n1 o1 o2 o3 o4)) (1, t0, T0) ?w1 ?w2 ?w3 ?w4 ?w5 ?w6 ?w7 ?w8 ?w9 ?_ ?_; (case w1 => exact rfl); (case w2 => exact rfl); (case w3 => exact rfl); (case w4 => exact rfl); (case w5 => exact F1); (case w6 => exact news_sub N1 (by unfold eeLed cellsAt T0; walk_at "sub_all")); (case w7 => exact List.forall_mem_cons.mpr ⟨ht0, List.forall_mem_nil _⟩); (case w8 => exact ⟨rfl, tabs0, hap0⟩); (case w9 => exact fun i c h m _ _ N' => PySem.IsL.isList (n := nm) (N' _ (.head _)).1))
  · intro i v9
    refine pr3 fun x tx T1 => ?_
    rintro uu h tk it io hv ⟨hx, hT1, ha1⟩ hlt hoff F' N'
    dsimp only [eePs, eeLed] at hx hT1 ha1 F' N' hlt hoff
    obtain ⟨y, ty, rfl, hy⟩ := ints_get hi hv
    have hyb := hmb y (List.mem_of_getElem? hy)
    have hxb : Builtin.Int.intBits x ≤ 50000 := by
      rw [hx]
      have h9 := bot_bits hW ((mkOf l m).take i) fun k hk => hmb k (List.mem_of_mem_take hk)
      have h8 : ((mkOf l m).take i).length ≤ 3 := by rw [List.length_take]; (first | lia | omega)
      have h7 : wd.toNat * 20 * ((mkOf l m).take i).length ≤ 615 * 20 * 3 := Nat.mul_le_mul (Nat.mul_le_mul (by (first | lia | omega)) (Nat.le_refl _)) h8
      (first | lia | omega)
    have hvb : Builtin.Int.intBits (val wd.toNat (digK y)) ≤ 50000 := by
      have h9 := val_bits wd.toNat (digK y) (digK_small hW y)
      rw [digK_len] at h9
      have h7 : wd.toNat * ((y - 1).toNat + 2) ≤ 615 * 20 := Nat.mul_le_mul (by (first | lia | omega)) (by (first | lia | omega))
      (first | lia | omega)
    k_steps
    unfold Hold
    k_dflt (refine' mulOne ?m1 ?m2 ?m3 ?m4 ?m5 ?_; (case m1 => k_asm); (case m2 => k_asm); (case m3 => k_mem); (case m4 => (first | lia | omega)); (case m5 => (first | lia | omega)); k_whole)
    intro Dz hz9 wz FDz NDz lDz hIz
    (try k_lt lDz)
    (try k_sweep)
    k_steps
    unfold Hold
    rename News base L _ _ => N2
    rename Fr base L _ _ => F2
    rename IntsAre _ (_ ++ [1]) => hID
    rename_i D ws9 h9 l9
    have hTD : ∀ p ∈ T1, p.1 < D := by walk_at "lt_all"
    have hsT : ∀ p ∈ T1, p ∈ eeLed L mq v q mm vv us nm n1 o1 o2 o3 o4 (x, tx, T1) := by dsimp only [eeLed]; walk_at "sub_all"
    have hapD : ∀ oD : Obj, Apart T1 ((D, oD) :: (it, io) :: eeRest L mq v q mm vv us nm n1 o1 o2 o3 o4 ++ []) := by
      intro oD p hp
      rw [List.append_nil]
      exact List.forall_mem_cons.mpr ⟨Nat.ne_of_lt (hTD p hp), List.forall_mem_cons.mpr ⟨hoff p (hsT p hp), fun r hr => ha1 p hp r hr⟩⟩
    k_dflt (refine' useT (T := T1) (front := (D, _) :: (it, io) :: eeRest L mq v q mm vv us nm n1 o1 o2 o3 o4) (rest := []) ?u1 ?u2 ?u3 ?u4 ?u5 ?u6 (d2i_T hcD _ _ ?u7 ?u8 _ _ _ _ _ _ ?u9 hID ?ua ?ub ?uc ?ud) ?ue ?uf ?ug ?_; (case u1 => k_asm); (case u2 => exact F2); (case u3 => k_asm); (case u4 => exact news_sub N2 (by (simp only [eeRest, cellsAt, List.cons_append, List.nil_append, List.append_nil]); walk_at "sub_all")); (case u5 => k_asm); (case u6 => exact hapD _); (case u7 => exact hT1); (case u8 => exact hapD _); (case u9 => exact .head _); (case ua => (simp; (first | lia | omega))); (case ub => (first | lia | omega)); (case uc => (first | lia | omega)); (case ud => exact digK_small hW y); (case ue => exact rfl); (case uf => ktr_room); (case ug => ktr_units))
    intro v2 T2 new2 h2' tk2 F3 N3 hT2 hg2 ha2 hb2' hl2' hv2
    obtain ⟨t3'⟩ := hv2
    simp only [eeRest, cellsAt, List.cons_append, List.nil_append, List.append_nil] at N3 ha2
    have hvb' : Builtin.Int.intBits (val wd.toNat ([-1] ++ List.replicate (y - 1).toNat 0 ++ [1])) ≤ 50000 := hvb
    k_steps
    refine SEnd.intro (_, _, T2) (by k_asm) (by k_asm) (by walk_at "sub_all") (by walk_at "sub_all") ?_ (by walk_at "vals_all") (by walk_at "names_all") ⟨?_, hT2, ?_⟩
    · intro p hp r hr
      rw [List.mem_singleton.mp hr]
      rcases List.mem_append.mp (show p ∈ eeRest L mq v q mm vv us nm n1 o1 o2 o3 o4 ++ T2 from hp) with h9 | h9
      · exact hoff p (List.mem_append.mpr (.inl h9) : p ∈ eeRest L mq v q mm vv us nm n1 o1 o2 o3 o4 ++ T1)
      · exact ha2 p h9 _ (.tail _ (.head _))
    · show x * val wd.toNat (digK y) = bot wd.toNat (List.take (i + 1) (mkOf l m))
      rw [List.take_add_one, hy, Option.toList_some, bot_snoc, hx]
    · exact fun p hp r hr => ha2 p hp r (.tail _ (.tail _ hr))
  · refine pr3 fun x tx T1 => ?_
    rintro uu h tk ⟨hx, hT1, ha1⟩ F' N'
    dsimp only [eePs, eeLed] at hx hT1 ha1 F' N'
    k_steps
    refine Ends.intro (hK9 _ ?_)
    rename News base L _ _ => NZ
    rename Fr base L _ _ => FZ
    refine' mkE (o3 := o3) (o4 := o4) (T := T1) hB FZ NZ rfl rfl rfl rfl rfl ?h1 ?h2 h4 hT1 ?h3 ?h4
    (case h1 =>
      rw [Int.one_mul]
      congr 1
      show (wd * (b + (mkOf l m).sum)).toNat = wd.toNat * (b + (mkOf l m).sum).toNat
      rw [Int.toNat_mul (by (first | lia | omega)) (by (first | lia | omega))])
    (case h2 => (show x = bot wd.toNat (mkOf l m)); rw [hx, hil, List.take_length])
    (case h3 => exact fun p hp r hr => ha1 p hp r (.tail _ hr))
    (case h4 => walk_at "sub_all")
end
section
theorem fresh20 : True := by
  w_top off
  trivial
local macro_rules | `(tactic| walk_at "call ref") => `(tactic| (k_here; refine hold ?_))
local macro_rules | `(tactic| walk_at "binaryOp Mult int int") => `(tactic| (k_here; k_dflt (refine' PyProof.Rows.mul_int ?_ ?m1; (case m1 => exact mulOk_of_bits (m := 100000) (n := 100000) (by lia) (by lia) (by decide)); k_whole)))
theorem quot_is {l m b W turn q r : Int} (hl : 2 ≤ l ∧ l ≤ 4) (hm : m = 2 ∨ m = 3) (hb : 8 ≤ b ∧ b ≤ 11) (hW : 16 ≤ W ∧ W ≤ 615) (ht : 0 ≤ turn ∧ turn ≤ 3) (h : LQ (2 ^ (W.toNat * (b + (mkOf l m).sum).toNat)) (bot W.toNat (mkOf l m)) turn q r) :
    q = val W.toNat (waysOf l m b) ∧ 0 < r ∧ r < bot W.toNat (mkOf l m) := by
  obtain ⟨_, hok, _⟩ := ways_facts hl hm hb
  obtain ⟨R, h1, h2, h3, h4, _⟩ := okP_val (N := W.toNat) (by (first | lia | omega)) hok
  obtain ⟨e, p1, p2⟩ := h
  have hr : 0 ≤ r ∧ r ≤ bot W.toNat (mkOf l m) := by
    have : turn = 1 ∨ turn = 2 ∨ turn = 0 ∨ turn = 3 := by (first | lia | omega)
    rcases this with h | h | h | h
    · have := p1 (.inl h); (first | lia | omega)
    · have := p1 (.inr h); (first | lia | omega)
    · have := p2 (.inl h); (first | lia | omega)
    · have := p2 (.inr h); (first | lia | omega)
  obtain ⟨rfl, rfl⟩ := div_same h4 (by rw [e, h1]) ⟨h2, h3⟩ hr
  exact ⟨rfl, h2, h3⟩
theorem quot_pre {l m b W : Int} (hl : 2 ≤ l ∧ l ≤ 4) (hm : m = 2 ∨ m = 3) (hb : 8 ≤ b ∧ b ≤ 11) (hW : 16 ≤ W ∧ W ≤ 615) :
    0 < bot W.toNat (mkOf l m) ∧ (Builtin.Int.intBits (bot W.toNat (mkOf l m)) : Int) ≤ 4000 * 2 ^ kD ∧ (Builtin.Int.intBits (2 ^ (W.toNat * (b + (mkOf l m).sum).toNat)) : Int) ≤ 99 * (Builtin.Int.intBits (bot W.toNat (mkOf l m)) : Int) ∧ Builtin.Int.intBits (val W.toNat (waysOf l m b)) ≤ 10000 := by
  obtain ⟨_, hok, hd, hg, hlen⟩ := ways_facts hl hm hb
  obtain ⟨R, h1, h2, h3, h4, h5, h6⟩ := okP_val (N := W.toNat) (by (first | lia | omega)) hok
  have e1 := pow_toNat W.toNat
  have e2 := pow_toNat (W.toNat * 25)
  have b1 : Builtin.Int.intBits (bot W.toNat (mkOf l m)) ≤ W.toNat * 25 := intBits_le_iff.mpr (by (first | lia | omega))
  have b2 : W.toNat < Builtin.Int.intBits (bot W.toNat (mkOf l m)) := Nat.lt_of_not_le fun hle => by
    have := intBits_le_iff.mp hle
    (first | lia | omega)
  have b3 : Builtin.Int.intBits (2 ^ (W.toNat * (b + (mkOf l m).sum).toNat)) ≤ W.toNat * (b + (mkOf l m).sum).toNat + 1 := intBits_le_iff.mpr (by
    have e3 := pow_toNat (W.toNat * (b + (mkOf l m).sum).toNat)
    have e4 := pow_pos' (W.toNat * (b + (mkOf l m).sum).toNat)
    rw [Nat.pow_succ]; (first | lia | omega))
  have hsum : 0 ≤ (mkOf l m).sum ∧ (mkOf l m).sum ≤ 25 := by
    have h1 : l = 2 ∨ l = 3 ∨ l = 4 := by (first | lia | omega)
    rcases h1 with rfl | rfl | rfl <;> rcases hm with rfl | rfl <;> decide
  have b4 : W.toNat * (b + (mkOf l m).sum).toNat ≤ W.toNat * 36 := Nat.mul_le_mul_left _ (by (first | lia | omega))
  have b5 := (digits_is (N := W.toNat) (k := b.toNat) (by (first | lia | omega)) hd hg (by (first | lia | omega))).2.1
  have b6 : W.toNat * b.toNat ≤ 615 * 11 := Nat.mul_le_mul (by (first | lia | omega)) (by (first | lia | omega))
  have hk : (4000 : Int) * 2 ^ kD = 16000 := by decide
  rw [hk]
  refine ⟨h4, by (first | lia | omega), by (first | lia | omega), by (first | lia | omega)⟩
inductive StF (base : Heap) (L : Addr) (s₀ : Shared) (d : D2) (s : Shared)  : Prop
  | mk (t2 : Tok) (t3 : Tok) (t4 : Tok) (o3 : Obj) (o4 : Obj) (T : List (Addr × Obj)) (f0 : o4.data = .cell none) (f1 : Tabs T) (f2 : Apart T ((d.v, listOf d.vv.toArray 0) :: (d.q, listOf d.us.toArray d.n1) :: cellsAt L d.o1 d.o2 o3 o4 [])) (f3 : At base L s₀ [(Str.ofString "most", .int d.m t2), (Str.ofString "width", .int d.w t3), (Str.ofString "views", .ref d.v), (Str.ofString "quotient", .int (val d.w.toNat (waysOf d.l d.m d.b)) t4)] ((d.v, listOf d.vv.toArray 0) :: (d.q, listOf d.us.toArray d.n1) :: cellsAt L d.o1 d.o2 o3 o4 T) s) : StF base L s₀ d s
theorem mkF {base : Heap} {L : Addr} {s₀ : Shared} {d : D2} {h : Heap} {tk : Nat} {gns : Array GenState} {mp : Str → Option Value} {nx : List (Addr × Obj)} {o3 o4 : Obj} {t2 t3 t4 : Tok} {qv : Int} {T : List (Addr × Obj)}
    (hB : AllB gns) (F : Fr base L h mp) (N : News base L h nx) (e2 : mp (Str.ofString "most") = some (.int d.m t2)) (e3 : mp (Str.ofString "width") = some (.int d.w t3)) (e5 : mp (Str.ofString "views") = some (.ref d.v)) (e6 : mp (Str.ofString "quotient") = some (.int qv t4))
    (hqv : qv = val d.w.toNat (waysOf d.l d.m d.b)) (h4 : o4.data = .cell none) (hT : Tabs T) (ha : Apart T ((d.v, listOf d.vv.toArray 0) :: (d.q, listOf d.us.toArray d.n1) :: cellsAt L d.o1 d.o2 o3 o4 []))
    (hs : ∀ p ∈ (d.v, listOf d.vv.toArray 0) :: (d.q, listOf d.us.toArray d.n1) :: cellsAt L d.o1 d.o2 o3 o4 T, p ∈ nx) : StF base L s₀ d { s₀ with heap := h, toks := tk, gens := gns } := by
  subst hqv
  exact ⟨t2, t3, t4, o3, o4, T, h4, hT, ha, At.intro hB F N hs (List.forall_mem_cons.mpr ⟨e2, List.forall_mem_cons.mpr ⟨e3, List.forall_mem_cons.mpr ⟨e5, List.forall_mem_cons.mpr ⟨e6, List.forall_mem_nil _⟩⟩⟩⟩)⟩
theorem segF {w : World} {p : Program} {loose : List Str} {mean : ExcName → Option Value} {mg mb : Str → Option Value} {base : Heap} (H : Base w p loose mean mg mb base) (hcI : CodeHd base 51 47) (hcD : CodeHd base 58 54) (L fa : Addr) (cd : Value) (s₀ : Shared) (d : D2) (hd : d.Ok L) (s : Shared) (hS : StE base L s₀ d s) :
    wpAny (model PySem.Challenge.rw_rl0045_02.row.prog w) (aL L fa cd) (execs (sg 16 2) (eL L fa cd)) (Ends (StF base L s₀ d)) (fun _ _ => False) s := by
  have dummy : (fun (_ : OpenLaw) (_ : Params → Frag) => True) PySem.Challenge.rw_rl0045_02 hd2.heap_39 := by k_fill; trivial
  clear dummy
  obtain ⟨X, T, B⟩ := H
  obtain ⟨q, v, z, us, vv, zz, n1, cs, l, m, b, wd, k, o1, o2, tb⟩ := d
  obtain ⟨hl, hm, hb, hw, hk, hus, hcs, hcb, hvv, hzz, h1, h2, lq, lv, lz, lL⟩ := hd
  obtain ⟨t2, t3, t4, t5, o3, o4, T1, h4, hT1, ha1, h, tk, gns, u, hB, F, N⟩ := hS
  dsimp only at *
  have hul := hus.length
  have f4 := fmod_in (c := (cs.getD 4 0).fdiv 4) (n := 4) (by decide)
  obtain ⟨p1, p2, p3, p4⟩ := quot_pre hl hm hb hw
  try refine post_K fun K9 hK9 => ?_
  obtain ⟨sc9, hsc9⟩ : ∃ sc, sc = lawS := ⟨_, rfl⟩
  obtain ⟨bd9, hbd9⟩ : ∃ b, b = sg 16 2 := ⟨_, rfl⟩
  unfold aL eL
  rw [← hsc9, ← hbd9]
  delta sg at hbd9
  conv at hsc9 => rhs; whnf
  conv at hbd9 => rhs; whnf
  conv at hbd9 => rhs; arg 2; whnf
  conv at hbd9 => rhs; arg 2; arg 2; whnf
  subst hsc9 hbd9
  k_steps
  unfold Hold
  rename News base L _ _ => N1
  rename Fr base L _ _ => F1
  have hap : Apart T1 (((v, listOf vv.toArray 0) :: (q, listOf us.toArray n1) :: cellsAt L o1 o2 o3 o4 []) ++ []) := by rw [List.append_nil]; exact ha1
  k_dflt (refine' useT (T := T1) (front := (v, listOf vv.toArray 0) :: (q, listOf us.toArray n1) :: cellsAt L o1 o2 o3 o4 []) (rest := []) ?u1 ?u2 ?u3 ?u4 ?u5 ?u6 (ldiv_T hcI hcD _ _ ?u7 ?u8 _ _ _ _ _ _ ?v1 ?v2 ?v3 ?v4 ?v5) ?ue ?uf ?ug ?_; (case u1 => k_asm); (case u2 => exact F1); (case u3 => k_asm); (case u4 => exact news_sub N1 (by (simp only [cellsAt, List.cons_append, List.nil_append, List.append_nil]); walk_at "sub_all")); (case u5 => k_asm); (case u6 => exact hap); (case u7 => exact hT1); (case u8 => exact hap); (case v1 => exact p1); (case v2 => exact p2); (case v3 => exact p3); (case v4 => exact f4.1); (case v5 => exact Int.le_of_lt_add_one f4.2); (case ue => exact rfl); (case uf => ktr_room); (case ug => ktr_units))
  intro v2 T2 new2 h2' tk2 F3 N3 hT2 hg2 ha2 hb2' hl2' hv2
  obtain ⟨po, qv, qt, rv, rt, hLQ⟩ := hv2
  obtain ⟨rfl, hr0, hr1⟩ := quot_is hl hm hb hw ⟨f4.1, Int.le_of_lt_add_one f4.2⟩ hLQ
  have heq := hLQ.1
  simp only [cellsAt, List.cons_append, List.nil_append, List.append_nil] at N3 ha2
  have hbb : Builtin.Int.intBits (bot wd.toNat (mkOf l m)) ≤ 16000 := by
    have : (4000 : Int) * 2 ^ kD = 16000 := by decide
    (first | lia | omega)
  k_steps
  · exact absurd heq (by assumption)
  all_goals (
    refine Ends.intro (hK9 _ ?_)
    rename News base L _ _ => NZ
    rename Fr base L _ _ => FZ
    refine' mkF (o3 := o3) (o4 := o4) (T := T2) hB FZ NZ rfl rfl rfl rfl rfl h4 hT2 ?h3 ?h4
    (case h3 => exact fun p hp r hr => ha2 p hp r hr)
    (case h4 => walk_at "sub_all"))
end
section
theorem fresh21 : True := by
  w_top off
  trivial
local macro_rules | `(tactic| walk_at "call ref") => `(tactic| (k_here; refine hold ?_))
local macro_rules | `(tactic| walk_at "CompSrc") => `(tactic| (k_here; refine hold ?_))
local macro_rules | `(tactic| walk_at "CompEnd") => `(tactic| (refine hold ?_))
noncomputable def menuT : List Str := [Str.ofString "", Str.ofString "a", Str.ofString " .", Str.ofString "\x0b.", Str.ofString "-", Str.ofString "\u2028.", Str.ofString "b..", Str.ofString "\x85."]
noncomputable def menuE : List Str := [Str.ofString "\n", Str.ofString "\r", Str.ofString "\r\n"]
theorem strs_of {M : List Str} {ys : List Value} : (∀ (i : Nat) (y : Value), ys[i]? = some y → ∃ x t, y = Value.str x t ∧ x ∈ M) → ∃ xs, StrsAre ys xs ∧ ∀ x ∈ xs, x ∈ M := by
  induction ys with
  | nil => exact fun _ => ⟨[], .nil, List.forall_mem_nil _⟩
  | cons y ys ih =>
    intro h
    obtain ⟨x, t, rfl, hx⟩ := h 0 y rfl
    obtain ⟨xs, h1, h2⟩ := ih fun i z hz => h (i + 1) z hz
    exact ⟨x :: xs, .cons x t h1, List.forall_mem_cons.mpr ⟨hx, h2⟩⟩
theorem getD_mem {α : Type} {l : List α} {i : Nat} {d : α} (h : i < l.length) : l.getD i d ∈ l := by
  rw [List.getD_eq_getElem?_getD, List.getElem?_eq_getElem h]; exact List.getElem_mem h
local macro_rules | `(tactic| walk_at "strs_lit") => `(tactic| first | exact StrsAre.nil | (refine StrsAre.cons _ _ ?_; walk_at "strs_lit"))
local macro_rules | `(tactic| walk_at "subscriptTail Name BinOp ref int") => `(tactic| (k_here; refine hold ?_))
theorem pow_sm {c : Int} {n : Nat} (hc : c = 8 ∨ c = 3) (hn : n ≤ 2) : (c ^ n).natAbs < 1073741824 := by
  have : n = 0 ∨ n = 1 ∨ n = 2 := by (first | lia | omega)
  rcases hc with rfl | rfl <;> rcases this with rfl | rfl | rfl <;> decide
local macro_rules | `(tactic| walk_at "binaryOp FloorDiv int int") => `(tactic| (k_here; refine hold ?_))
theorem off1_mem {D : Addr} : ∀ {l : List (Addr × Obj)}, LCg.Off1 D l → ∀ p ∈ l, p.1 ≠ D
  | [], _ => List.forall_mem_nil _
  | _ :: _, h => List.forall_mem_cons.mpr ⟨h.1, off1_mem h.2⟩
inductive StG (base : Heap) (L : Addr) (s₀ : Shared) (d : D2) (s : Shared)  : Prop
  | mk (t2 : Tok) (t3 : Tok) (t4 : Tok) (o3 : Obj) (o4 : Obj) (T : List (Addr × Obj)) (tl : Addr) (tv : List Value) (nt : Nat) (ts : List Str) (f0 : o4.data = .cell none) (f1 : Tabs T) (f2 : StrsAre tv ts) (f3 : ts.length = d.m.toNat) (f4 : (∀ x ∈ ts, x ∈ menuT)) (f5 : (@Ne Nat tl (L + 1 + 1 + 1 + 1))) (f6 : Apart T ((tl, listOf tv.toArray nt) :: (d.v, listOf d.vv.toArray 0) :: (d.q, listOf d.us.toArray d.n1) :: cellsAt L d.o1 d.o2 o3 o4 [])) (f7 : At base L s₀ [(Str.ofString "most", .int d.m t2), (Str.ofString "width", .int d.w t3), (Str.ofString "views", .ref d.v), (Str.ofString "quotient", .int (val d.w.toNat (waysOf d.l d.m d.b)) t4), (Str.ofString "tails", .ref tl)] ((tl, listOf tv.toArray nt) :: (d.v, listOf d.vv.toArray 0) :: (d.q, listOf d.us.toArray d.n1) :: cellsAt L d.o1 d.o2 o3 o4 T) s) : StG base L s₀ d s
inductive StH (base : Heap) (L : Addr) (s₀ : Shared) (d : D2) (s : Shared)  : Prop
  | mk (t2 : Tok) (t3 : Tok) (t4 : Tok) (o3 : Obj) (o4 : Obj) (T : List (Addr × Obj)) (tl : Addr) (tv : List Value) (nt : Nat) (ts : List Str) (el : Addr) (ev : List Value) (ne : Nat) (es : List Str) (f0 : o4.data = .cell none) (f1 : Tabs T) (f2 : StrsAre tv ts) (f3 : ts.length = d.m.toNat) (f4 : (∀ x ∈ ts, x ∈ menuT)) (f5 : (@Ne Nat tl (L + 1 + 1 + 1 + 1))) (f6 : StrsAre ev es) (f7 : es.length = d.m.toNat) (f8 : (∀ x ∈ es, x ∈ menuE)) (f9 : (@Ne Nat el (L + 1 + 1 + 1 + 1))) (f10 : Apart T ((el, listOf ev.toArray ne) :: (tl, listOf tv.toArray nt) :: (d.v, listOf d.vv.toArray 0) :: (d.q, listOf d.us.toArray d.n1) :: cellsAt L d.o1 d.o2 o3 o4 [])) (f11 : At base L s₀ [(Str.ofString "most", .int d.m t2), (Str.ofString "width", .int d.w t3), (Str.ofString "views", .ref d.v), (Str.ofString "quotient", .int (val d.w.toNat (waysOf d.l d.m d.b)) t4), (Str.ofString "tails", .ref tl), (Str.ofString "ends", .ref el)] ((el, listOf ev.toArray ne) :: (tl, listOf tv.toArray nt) :: (d.v, listOf d.vv.toArray 0) :: (d.q, listOf d.us.toArray d.n1) :: cellsAt L d.o1 d.o2 o3 o4 T) s) : StH base L s₀ d s
theorem segG {w : World} {p : Program} {loose : List Str} {mean : ExcName → Option Value} {mg mb : Str → Option Value} {base : Heap} (H : Base w p loose mean mg mb base) (L fa : Addr) (cd : Value) (s₀ : Shared) (d : D2) (hd : d.Ok L) (s : Shared) (hS : StF base L s₀ d s) :
    wpAny (model PySem.Challenge.rw_rl0045_02.row.prog w) (aL L fa cd) (execs (sg 18 1) (eL L fa cd)) (Ends (StG base L s₀ d)) (fun _ _ => False) s := by
  have dummy : (fun (_ : OpenLaw) (_ : Params → Frag) => True) PySem.Challenge.rw_rl0045_02 hd2.heap_39 := by k_fill; trivial
  clear dummy
  obtain ⟨X, T, B⟩ := H
  obtain ⟨q, v, z, us, vv, zz, n1, cs, l, m, b, wd, k, o1, o2, tb⟩ := d
  obtain ⟨hl, hm, hb, hw, hk, hus, hcs, hcb, hvv, hzz, h1, h2, lq, lv, lz, lL⟩ := hd
  obtain ⟨t2, t3, t4, o3, o4, T1, h4, hT1, ha1, h, tk, gns, u, hB, F, N⟩ := hS
  dsimp only at *
  have hul := hus.length
  try refine post_K fun K9 hK9 => ?_
  obtain ⟨sc9, hsc9⟩ : ∃ sc, sc = lawS := ⟨_, rfl⟩
  obtain ⟨bd9, hbd9⟩ : ∃ b, b = sg 18 1 := ⟨_, rfl⟩
  unfold aL eL
  rw [← hsc9, ← hbd9]
  delta sg at hbd9
  conv at hsc9 => rhs; whnf
  conv at hbd9 => rhs; whnf
  conv at hbd9 => rhs; arg 2; whnf
  subst hsc9 hbd9
  k_steps
  unfold Hold
  rename IsRange _ _ _ _ _ _ _ _ => hR
  rename News base L _ _ => NR
  rename Fr base L _ _ => FR
  refine LCg.CompSrc.range rfl FR NR hR (small_one (by (first | lia | omega)) (by (first | lia | omega)) (by (first | lia | omega)) (by (first | lia | omega))) (n := m.toNat) (by rw [rangeSize_nat]; (first | lia | omega)) (by show _ ≤ 16777216; (first | lia | omega)) ?_
  intro g
  refine compS (n := m.toNat) (fun i y => ∃ x t, y = Value.str x t ∧ x ∈ menuT) ?_ ?_
  · rintro i y I oI C oC D m₂ ys h' tk' E' hii ⟨t', rfl⟩ hC hx F' N' off ne
    have hi3 : i ≤ 2 := by clear off ne; (first | lia | omega)
    have off0 := off
    simp only [LCg.Off3] at off
    all_goals (
      k_steps
      unfold Hold
      k_dflt (refine' floordiv_int ?fh9 ?_ ?fp9; (case fh9 => exact Ne.symm (Int.ne_of_lt (Int.pow_pos (by decide)))); (case fp9 => exact Or.inl (PyProof.noPylong_small (pow_sm (by first | exact .inl rfl | exact .inr rfl) (by (first | lia | omega))))); k_whole)
      k_steps
      unfold Hold
      k_dflt (refine' strs_M (ws := menuT) ?sk91 ?sk92 ?sk93 ?sk94 ?sk95 ?sk96 ?_ ?sk97; (case sk91 => k_asm); (case sk92 => k_mem); (case sk93 => walk_at "strs_lit"); (case sk94 => exact (fmod_in (by decide)).1); (case sk95 => exact (fmod_in (by decide)).2); (case sk96 => exact Int.lt_trans (fmod_in (by decide)).2 (by decide)); (case sk97 => with_unfolding_all rfl); k_whole)
      intro t99
      k_steps
      unfold Hold
      rename News base L _ _ => NZ
      rename Fr base L _ _ => FZ
      refine LCg.CompEnd.intro FZ NZ _ ?_ off0 trivial ⟨rfl, _, _, rfl, getD_mem (Int.ofNat_lt.mp ?_)⟩
      · walk_at "sub_all"
      · rw [Int.toNat_of_nonneg (fmod_in (by decide)).1]; exact (fmod_in (by decide)).2)
  · intro ys hyl hys
    obtain ⟨ts9, hts1, hts2⟩ := strs_of hys
    have htsl := hts1.len_eq
    k_steps
    refine Ends.intro (hK9 _ ?_)
    rename News base L _ _ => NZ
    rename Fr base L _ _ => FZ
    rename _ ∧ _ => o1x
    refine named1 NZ ?_
    intro D hD
    subst hD
    obtain ⟨x1, x2, x3, x4, x5, x6, xT⟩ := o1x
    refine ⟨t2, t3, t4, o3, o4, T1, D, ys, ys.length, ts9, h4, hT1, hts1, (show ts9.length = m.toNat by (first | lia | omega)), hts2, Ne.symm x3, ?_, At.intro hB FZ NZ ?_ ?_⟩
    · intro p hp
      exact List.forall_mem_cons.mpr ⟨off1_mem xT p hp, fun r hr => ha1 p hp r hr⟩
    · walk_at "sub_all"
    · walk_at "vals_all"
theorem segH {w : World} {p : Program} {loose : List Str} {mean : ExcName → Option Value} {mg mb : Str → Option Value} {base : Heap} (H : Base w p loose mean mg mb base) (L fa : Addr) (cd : Value) (s₀ : Shared) (d : D2) (hd : d.Ok L) (s : Shared) (hS : StG base L s₀ d s) :
    wpAny (model PySem.Challenge.rw_rl0045_02.row.prog w) (aL L fa cd) (execs (sg 19 1) (eL L fa cd)) (Ends (StH base L s₀ d)) (fun _ _ => False) s := by
  have dummy : (fun (_ : OpenLaw) (_ : Params → Frag) => True) PySem.Challenge.rw_rl0045_02 hd2.heap_39 := by k_fill; trivial
  clear dummy
  obtain ⟨X, T, B⟩ := H
  obtain ⟨q, v, z, us, vv, zz, n1, cs, l, m, b, wd, k, o1, o2, tb⟩ := d
  obtain ⟨hl, hm, hb, hw, hk, hus, hcs, hcb, hvv, hzz, h1, h2, lq, lv, lz, lL⟩ := hd
  obtain ⟨t2, t3, t4, o3, o4, T1, tl, tv, nt, ts, h4, hT1, hts, htl, htm, htne, ha1, h, tk, gns, u, hB, F, N⟩ := hS
  dsimp only at *
  have hul := hus.length
  try refine post_K fun K9 hK9 => ?_
  obtain ⟨sc9, hsc9⟩ : ∃ sc, sc = lawS := ⟨_, rfl⟩
  obtain ⟨bd9, hbd9⟩ : ∃ b, b = sg 19 1 := ⟨_, rfl⟩
  unfold aL eL
  rw [← hsc9, ← hbd9]
  delta sg at hbd9
  conv at hsc9 => rhs; whnf
  conv at hbd9 => rhs; whnf
  conv at hbd9 => rhs; arg 2; whnf
  subst hsc9 hbd9
  k_steps
  unfold Hold
  rename IsRange _ _ _ _ _ _ _ _ => hR
  rename News base L _ _ => NR
  rename Fr base L _ _ => FR
  refine LCg.CompSrc.range rfl FR NR hR (small_one (by (first | lia | omega)) (by (first | lia | omega)) (by (first | lia | omega)) (by (first | lia | omega))) (n := m.toNat) (by rw [rangeSize_nat]; (first | lia | omega)) (by show _ ≤ 16777216; (first | lia | omega)) ?_
  intro g
  refine compS (n := m.toNat) (fun i y => ∃ x t, y = Value.str x t ∧ x ∈ menuE) ?_ ?_
  · rintro i y I oI C oC D m₂ ys h' tk' E' hii ⟨t', rfl⟩ hC hx F' N' off ne
    have hi3 : i ≤ 2 := by clear off ne; (first | lia | omega)
    have off0 := off
    simp only [LCg.Off3] at off
    all_goals (
      k_steps
      unfold Hold
      k_dflt (refine' floordiv_int ?fh9 ?_ ?fp9; (case fh9 => exact Ne.symm (Int.ne_of_lt (Int.pow_pos (by decide)))); (case fp9 => exact Or.inl (PyProof.noPylong_small (pow_sm (by first | exact .inl rfl | exact .inr rfl) (by (first | lia | omega))))); k_whole)
      k_steps
      unfold Hold
      k_dflt (refine' strs_M (ws := menuE) ?sk91 ?sk92 ?sk93 ?sk94 ?sk95 ?sk96 ?_ ?sk97; (case sk91 => k_asm); (case sk92 => k_mem); (case sk93 => walk_at "strs_lit"); (case sk94 => exact (fmod_in (by decide)).1); (case sk95 => exact (fmod_in (by decide)).2); (case sk96 => exact Int.lt_trans (fmod_in (by decide)).2 (by decide)); (case sk97 => with_unfolding_all rfl); k_whole)
      intro t99
      k_steps
      unfold Hold
      rename News base L _ _ => NZ
      rename Fr base L _ _ => FZ
      refine LCg.CompEnd.intro FZ NZ _ ?_ off0 trivial ⟨rfl, _, _, rfl, getD_mem (Int.ofNat_lt.mp ?_)⟩
      · walk_at "sub_all"
      · rw [Int.toNat_of_nonneg (fmod_in (by decide)).1]; exact (fmod_in (by decide)).2)
  · intro ys hyl hys
    obtain ⟨ts9, hts1, hts2⟩ := strs_of hys
    have htsl := hts1.len_eq
    k_steps
    refine Ends.intro (hK9 _ ?_)
    rename News base L _ _ => NZ
    rename Fr base L _ _ => FZ
    rename _ ∧ _ => o1x
    refine named1 NZ ?_
    intro D hD
    subst hD
    obtain ⟨x0, x1, x2, x3, x4, x5, x6, xT⟩ := o1x
    refine ⟨t2, t3, t4, o3, o4, T1, tl, tv, nt, ts, D, ys, ys.length, ts9, h4, hT1, hts, htl, htm, htne, hts1, (show ts9.length = m.toNat by (first | lia | omega)), hts2, Ne.symm x3, ?_, At.intro hB FZ NZ ?_ ?_⟩
    · intro p hp
      exact List.forall_mem_cons.mpr ⟨off1_mem xT p hp, fun r hr => ha1 p hp r hr⟩
    · walk_at "sub_all"
    · walk_at "vals_all"
end
section
theorem fresh22 : True := by
  w_top off
  trivial
local macro_rules | `(tactic| walk_at "call ref") => `(tactic| (k_here; refine hold ?_))
local macro_rules | `(tactic| k_all) => `(tactic| first | assumption | exact allNe_of_lt (by walk_at "lt_all") (Nat.le_refl _))
/-- a mail that waits -/
structure It where
  tup : Addr
  la : Addr
  x : Str
  t : Tok
  hs : List Int
  vs : List Value
  nn : Nat
/-- what the walk over the mails leaves as it is -/
structure D3 where
  o3 : Obj
  o4 : Obj
  T : List (Addr × Obj)
  tl : Addr
  el : Addr
  wq : Addr
  tq : Addr
  tv : List Value
  ev : List Value
  nt : Nat
  ne : Nat
  ts : List Str
  es : List Str
  t2 : Tok
  t3 : Tok
  t4 : Tok
structure WS where
  its : List It
  tot : List Int
  tv : List Value
  nt : Nat
  nw : Nat
  fuel : Nat
noncomputable abbrev tupO (x : Str) (t : Tok) (a : Addr) : Obj := { cls := .type "tuple", data := .seq #[.str x t, .ref a] }
noncomputable def itL (i : It) : List (Addr × Obj) := [(i.tup, tupO i.x i.t i.la), (i.la, listOf i.vs.toArray i.nn)]
noncomputable abbrev fixL (L : Addr) (d : D2) (e : D3) (T : List (Addr × Obj)) : List (Addr × Obj) := (e.el, listOf e.ev.toArray e.ne) :: (e.tl, listOf e.tv.toArray e.nt) :: (d.v, listOf d.vv.toArray 0) :: (d.q, listOf d.us.toArray d.n1) :: cellsAt L d.o1 d.o2 e.o3 e.o4 T
noncomputable abbrev refs (its : List It) : List Value := its.map fun i => Value.ref i.tup
noncomputable abbrev wLed (L : Addr) (d : D2) (e : D3) (c : WS) : List (Addr × Obj) := (e.wq, listOf (refs c.its).toArray c.nw) :: (e.tq, listOf c.tv.toArray c.nt) :: fixL L d e (e.T ++ c.its.flatMap itL)
noncomputable abbrev ps3 (d : D2) (e : D3) : List (Str × Value) := [(Str.ofString "most", .int d.m e.t2), (Str.ofString "width", .int d.w e.t3), (Str.ofString "views", .ref d.v), (Str.ofString "quotient", .int (val d.w.toNat (waysOf d.l d.m d.b)) e.t4), (Str.ofString "tails", .ref e.tl), (Str.ofString "ends", .ref e.el), (Str.ofString "waiting", .ref e.wq)]
structure D3.Ok (e : D3) (L : Addr) (d : D2) : Prop where
  hT : Tabs e.T
  hap : Apart e.T ((e.wq, tabObj #[]) :: (e.tq, tabObj #[]) :: fixL L d e [])
  h4 : e.o4.data = .cell (some (.ref e.tq))
  hts : StrsAre e.tv e.ts
  htl : e.ts.length = d.m.toNat
  htm : ∀ x ∈ e.ts, x ∈ menuT
  hes : StrsAre e.ev e.es
  hel : e.es.length = d.m.toNat
  hem : ∀ x ∈ e.es, x ∈ menuE
  l1 : @LT.lt Nat instLTNat e.tq e.wq
  l2 : @LT.lt Nat instLTNat e.el e.tq
  l3 : @LT.lt Nat instLTNat e.tl e.tq
  l4 : @LT.lt Nat instLTNat d.v e.tq
  l5 : @LT.lt Nat instLTNat d.q e.tq
  l6 : @LT.lt Nat instLTNat (L + 1 + 1 + 1 + 1) e.tq
  lT : ∀ p ∈ e.T, p.1 < e.tq
structure It.Ok (i : It) (d : D2) (e : D3) : Prop where
  hx : i.x.cps.toList = mailOf i.hs (raw e.ts) (raw e.es)
  hi : IntsAre i.vs i.hs
  h1 : ∀ x ∈ i.hs, 1 ≤ x
  hl : (i.hs.length : Int) ≤ d.m
  hs : i.hs.sum ≤ d.b
  n1 : @Ne Nat i.tup e.wq
  n2 : @Ne Nat i.tup e.tq
  n3 : @Ne Nat i.la e.wq
  n4 : @Ne Nat i.la e.tq
structure WS.Ok (c : WS) (d : D2) (e : D3) : Prop where
  hits : ∀ i ∈ c.its, i.Ok d e
  htv : IntsAre c.tv c.tot
  hrun : run d.l d.m d.b c.fuel (c.its.map It.hs).reverse c.tot = some (halls d.l d.m d.b)
  hf1 : c.tot.length + c.fuel ≤ 200
  hf2 : c.its.length + c.fuel ≤ 201
noncomputable def AtW (base : Heap) (L : Addr) (s₁ : Shared) (ps : List (Str × Value)) (news : List (Addr × Obj)) (s : Shared) : Prop :=
  ∃ h tk m, s = { s₁ with heap := h, toks := tk } ∧ (∀ p ∈ ps, m p.1 = some p.2) ∧ Fr base L h m ∧ News base L h news
theorem fr_kst {base h : Heap} {L : Addr} {ps : List (Str × Value)} {m : Str → Option Value} (F : Fr base L h m) (hv : ∀ p ∈ ps, m p.1 = some p.2) : Fr base L h (kstB m ps) := by
  have em : kstB m ps = m := by funext y; exact kstB_eq hv fun _ => rfl
  rw [em]; exact F
inductive StI (base : Heap) (L : Addr) (s₀ : Shared) (d : D2) (s : Shared)  : Prop
  | mk (e : D3) (c : WS) (f0 : e.Ok L d) (f1 : c.Ok d e) (f2 : At base L s₀ (ps3 d e) (wLed L d e c) s) : StI base L s₀ d s
theorem mem_in {t l : Addr × Obj} {fr T P : List (Addr × Obj)} {p : Addr × Obj} (h : p ∈ t :: l :: (fr ++ (T ++ P))) : p ∈ fr ++ (T ++ (P ++ [t, l])) := by
  rcases List.mem_cons.mp h with rfl | h
  · exact List.mem_append.mpr (.inr (List.mem_append.mpr (.inr (List.mem_append.mpr (.inr (.head _))))))
  rcases List.mem_cons.mp h with rfl | h
  · exact List.mem_append.mpr (.inr (List.mem_append.mpr (.inr (List.mem_append.mpr (.inr (.tail _ (.head _)))))))
  rcases List.mem_append.mp h with h | h
  · exact List.mem_append.mpr (.inl h)
  rcases List.mem_append.mp h with h | h
  · exact List.mem_append.mpr (.inr (List.mem_append.mpr (.inl h)))
  · exact List.mem_append.mpr (.inr (List.mem_append.mpr (.inr (List.mem_append.mpr (.inl h)))))
theorem mem_out {t l : Addr × Obj} {fr T P : List (Addr × Obj)} {p : Addr × Obj} (h : p ∈ fr ++ (T ++ (P ++ [t, l]))) : p ∈ t :: l :: (fr ++ (T ++ P)) := by
  rcases List.mem_append.mp h with h | h
  · exact .tail _ (.tail _ (List.mem_append.mpr (.inl h)))
  rcases List.mem_append.mp h with h | h
  · exact .tail _ (.tail _ (List.mem_append.mpr (.inr (List.mem_append.mpr (.inl h)))))
  rcases List.mem_append.mp h with h | h
  · exact .tail _ (.tail _ (List.mem_append.mpr (.inr (List.mem_append.mpr (.inr h)))))
  rcases List.mem_cons.mp h with rfl | h
  · exact .head _
  · rw [List.mem_singleton.mp h]; exact .tail _ (.head _)
theorem mem_skip {a : Addr × Obj} {l l' : List (Addr × Obj)} (h : ∀ p ∈ l, p ∈ l') : ∀ p ∈ a :: l, p ∈ a :: l' := fun p hp => (List.mem_cons.mp hp).elim (fun e => e ▸ .head _) fun h9 => .tail _ (h p h9)
theorem items_end {pre : List It} {i : It} : (pre ++ [i]).flatMap itL = pre.flatMap itL ++ [(i.tup, tupO i.x i.t i.la), (i.la, listOf i.vs.toArray i.nn)] := by
  rw [List.flatMap_append]; rfl
theorem mkI {base : Heap} {L : Addr} {s₀ : Shared} {d : D2} (hd : d.Ok L) {h : Heap} {tk : Nat} {gns : Array GenState} {mp : Str → Option Value} {o3 o4 : Obj} {t t2 t3 t4 : Tok} {T : List (Addr × Obj)} {wq tup la tq el tl : Addr} {ev tv : List Value} {ne nt : Nat} {ts es : List Str}
    (hB : AllB gns) (F : Fr base L h mp) (N : News base L h ((wq, listOf #[.ref tup] 0) :: (tup, tupO (Str.ofString "") t la) :: (la, listOf #[] 0) :: (tq, listOf #[] 0) :: (el, listOf ev.toArray ne) :: (tl, listOf tv.toArray nt) :: (d.v, listOf d.vv.toArray 0) :: (d.q, listOf d.us.toArray d.n1) :: cellsAt L d.o1 d.o2 o3 o4 T))
    (hv : ∀ p ∈ [(Str.ofString "most", Value.int d.m t2), (Str.ofString "width", .int d.w t3), (Str.ofString "views", .ref d.v), (Str.ofString "quotient", .int (val d.w.toNat (waysOf d.l d.m d.b)) t4), (Str.ofString "tails", .ref tl), (Str.ofString "ends", .ref el), (Str.ofString "waiting", .ref wq)], mp p.1 = some p.2)
    (hT : Tabs T) (ha : Apart T ((el, listOf ev.toArray ne) :: (tl, listOf tv.toArray nt) :: (d.v, listOf d.vv.toArray 0) :: (d.q, listOf d.us.toArray d.n1) :: cellsAt L d.o1 d.o2 o3 o4 [])) (h4 : o4.data = .cell (some (.ref tq)))
    (hts : StrsAre tv ts) (htl : ts.length = d.m.toNat) (htm : ∀ x ∈ ts, x ∈ menuT) (hes : StrsAre ev es) (hel : es.length = d.m.toNat) (hem : ∀ x ∈ es, x ∈ menuE)
    (l2 : @LT.lt Nat instLTNat el tq) (l3 : @LT.lt Nat instLTNat tl tq) (l4 : @LT.lt Nat instLTNat d.v tq) (l5 : @LT.lt Nat instLTNat d.q tq) (l6 : @LT.lt Nat instLTNat (L + 1 + 1 + 1 + 1) tq) (lT : ∀ p ∈ T, p.1 < tq)
    (m1 : @LT.lt Nat instLTNat tq la) (m2 : @LT.lt Nat instLTNat la tup) (m3 : @LT.lt Nat instLTNat tup wq) : StI base L s₀ d { s₀ with heap := h, toks := tk, gens := gns } := by
  have n1 : @LT.lt Nat instLTNat la wq := Nat.lt_trans m2 m3
  have n2 : @LT.lt Nat instLTNat tq tup := Nat.lt_trans m1 m2
  have n3 : @LT.lt Nat instLTNat tq wq := Nat.lt_trans m1 n1
  obtain ⟨⟨f, hf, hf2⟩, _⟩ := ways_facts hd.hl hd.hm hd.hb
  refine ⟨⟨o3, o4, T, tl, el, wq, tq, tv, ev, nt, ne, ts, es, t2, t3, t4⟩, ⟨[⟨tup, la, Str.ofString "", t, [], [], 0⟩], [], [], 0, 0, 200⟩, ⟨hT, ?_, h4, hts, htl, htm, hes, hel, hem, n3, l2, l3, l4, l5, l6, lT⟩, ⟨?_, .nil, ?_, Nat.le_refl _, Nat.le_refl _⟩, At.intro hB F N ?_ hv⟩
  · intro p hp
    exact List.forall_mem_cons.mpr ⟨Nat.ne_of_lt (Nat.lt_trans (lT p hp) n3), List.forall_mem_cons.mpr ⟨Nat.ne_of_lt (lT p hp), fun r hr => ha p hp r hr⟩⟩
  · refine List.forall_mem_cons.mpr ⟨⟨(show (Str.ofString "").cps.toList = [] by decide), .nil, List.forall_mem_nil _, ?_, ?_, Nat.ne_of_lt m3, Nat.ne_of_gt n2, Nat.ne_of_lt n1, Nat.ne_of_gt m1⟩, List.forall_mem_nil _⟩
    · have := hd.hm
      show (0 : Int) ≤ d.m
      (first | lia | omega)
    · have := hd.hb
      show (0 : Int) ≤ d.b
      (first | lia | omega)
  · show run d.l d.m d.b 200 [[]] [] = _
    rw [hf, hf2]
  · intro p hp
    rcases List.mem_cons.mp hp with rfl | hp
    · exact .head _
    rcases List.mem_cons.mp hp with rfl | hp
    · exact .tail _ (.tail _ (.tail _ (.head _)))
    rcases List.mem_cons.mp (mem_out (fr := (el, listOf ev.toArray ne) :: (tl, listOf tv.toArray nt) :: (d.v, listOf d.vv.toArray 0) :: (d.q, listOf d.us.toArray d.n1) :: cellsAt L d.o1 d.o2 o3 o4 []) (T := T) (P := []) (t := (tup, tupO (Str.ofString "") t la)) (l := (la, listOf #[] 0)) hp) with rfl | hp
    · exact .tail _ (.head _)
    rcases List.mem_cons.mp hp with rfl | hp
    · exact .tail _ (.tail _ (.head _))
    · rw [List.append_nil] at hp; exact .tail _ (.tail _ (.tail _ (.tail _ hp)))
theorem segI {w : World} {p : Program} {loose : List Str} {mean : ExcName → Option Value} {mg mb : Str → Option Value} {base : Heap} (H : Base w p loose mean mg mb base) (L fa : Addr) (cd : Value) (s₀ : Shared) (d : D2) (hd : d.Ok L) (s : Shared) (hS : StH base L s₀ d s) :
    wpAny (model PySem.Challenge.rw_rl0045_02.row.prog w) (aL L fa cd) (execs (sg 20 2) (eL L fa cd)) (Ends (StI base L s₀ d)) (fun _ _ => False) s := by
  have dummy : (fun (_ : OpenLaw) (_ : Params → Frag) => True) PySem.Challenge.rw_rl0045_02 hd2.heap_39 := by k_fill; trivial
  clear dummy
  obtain ⟨X, T, B⟩ := H
  obtain ⟨q, v, z, us, vv, zz, n1, cs, l, m, b, wd, k, o1, o2, tb⟩ := d
  obtain ⟨hl, hm, hb, hw, hk, hus, hcs, hcb, hvv, hzz, h1, h2, lq, lv, lz, lL⟩ := hd
  obtain ⟨t2, t3, t4, o3, o4, T1, tl, tv, nt, ts, el, ev, ne, es, h4, hT1, hts, htl, htm, htne, hes, hel, hem, hene, ha1, h, tk, gns, u, hB, F, N⟩ := hS
  dsimp only at *
  try refine post_K fun K9 hK9 => ?_
  obtain ⟨sc9, hsc9⟩ : ∃ sc, sc = lawS := ⟨_, rfl⟩
  obtain ⟨bd9, hbd9⟩ : ∃ b, b = sg 20 2 := ⟨_, rfl⟩
  unfold aL eL
  rw [← hsc9, ← hbd9]
  delta sg at hbd9
  conv at hsc9 => rhs; whnf
  conv at hbd9 => rhs; whnf
  conv at hbd9 => rhs; arg 2; whnf
  conv at hbd9 => rhs; arg 2; arg 2; whnf
  subst hsc9 hbd9
  have hT4 : ∀ p ∈ T1, p.1 ≠ L + 1 + 1 + 1 + 1 := fun p hp => ha1 p hp (L + 1 + 1 + 1 + 1, o4) (by simp)
  k_steps
  refine Ends.intro (hK9 _ ?_)
  rename News base L _ _ => NZ
  rename Fr base L _ _ => FZ
  rename Obj.data _ = _ => hO
  refine' mkI ⟨hl, hm, hb, hw, hk, hus, hcs, hcb, hvv, hzz, h1, h2, lq, lv, lz, lL⟩ hB FZ NZ ?v hT1 ?a hO hts htl htm hes hel hem ?m1 ?m2 ?m3 ?m4 ?m5 ?m6 ?m7 ?m8 ?m9
  (case v => walk_at "vals_all")
  (case a =>
    intro p hp
    have := ha1 p hp
    simp only [cellsAt, List.mem_cons, List.not_mem_nil, or_false] at this ⊢
    rintro r (hr | hr | hr | hr | hr | hr | hr | hr)
    all_goals (have h9 := hT4 p hp; subst hr; first | exact h9 | exact this _ (by simp)))
  (case m6 => walk_at "lt_all")
  (case m1 => (first | lia | omega))
  (case m2 => (first | lia | omega))
  (case m3 => dsimp only; (first | lia | omega))
  (case m4 => dsimp only; (first | lia | omega))
  (case m5 => (first | lia | omega))
  (case m7 => (first | lia | omega))
  (case m8 => (first | lia | omega))
  (case m9 => (first | lia | omega))
end
section
theorem fresh23 : True := by
  w_top off
  trivial
noncomputable def whB : List Stmt := match lawB.drop 22 with | .While _ b _ _ :: _ => b | _ => []
noncomputable def wsg (a n : Nat) : List Stmt := (whB.drop a).take n
local macro_rules | `(tactic| walk_at "call ref") => `(tactic| (k_here; refine hold ?_))
local macro_rules | `(tactic| k_all) => `(tactic| first | assumption | exact allNe_of_lt (by walk_at "lt_all") (Nat.le_refl _))
local macro_rules | `(tactic| walk_at "call builtin:list.pop") => `(tactic| (k_here; k_dflt (refine' pop_snoc ?k1 ?k2 ?k3 ?k4 ?_; (case k1 => k_asm); (case k2 => k_asm); (case k3 => k_updF); (case k4 => lia); k_whole); intro h' F' N'; (try dsimp only at N')))
local macro_rules | `(tactic| walk_at "call builtin:list.append") => `(tactic| (k_here; k_dflt (refine' append_M ?k1 ?k2 ?k3 ?k4 ?_; (case k1 => k_asm); (case k2 => k_asm); (case k3 => k_updF); (case k4 => (show _ ≤ 16777216; lia)); k_whole); intro h' nn' F' N'; (try dsimp only at N')))
local macro_rules | `(tactic| walk_at "call builtin:len") => `(tactic| (k_here; k_dflt (refine' len_M ?k1 ?k2 ?k3 ?_; (case k1 => k_asm); (case k2 => k_mem); (case k3 => lia); k_whole); intro t' tk'))
local macro_rules | `(tactic| walk_at "call builtin:str.count") => `(tactic| (k_here; k_dflt (refine' count_sign (c := 46) ?k1 ?_; (case k1 => rfl); k_whole); intro t' tk'))
local macro_rules | `(tactic| walk_at "call builtin:str.join") => `(tactic| (k_here; k_dflt (refine' join_strs ?k1 ?k2 ?k3 ?k4 ?_; (case k1 => k_asm); (case k2 => k_mem); (case k3 => with_reducible assumption); (case k4 => assumption); k_whole); intro y' t' tk' hy'))
local macro_rules | `(tactic| walk_at "subscriptTail Name Slice ref ref") => `(tactic| (k_here; k_dflt (refine' slice_upto ?F ?N ?l ?q ?i ?o ?_ ?s ?t ?z; (case F => k_asm); (case N => k_asm); (case l => k_mem); (case q => exact .int _ _); (case i => with_reducible assumption); (case o => lia); (case s => with_unfolding_all rfl); (case t => exact fun _ => rfl); (case z => (show _ ≤ 16777216; simp only [List.size_toArray]; lia)); k_whole); intro D' ws' h' F' N' l1 hI'; (try k_lt l1); (try k_sweep)))
theorem menuT_len : ∀ x ∈ menuT, x.length ≤ 8 := by decide
theorem menuE_len : ∀ x ∈ menuE, x.length ≤ 2 := by decide
theorem menuT_good : ∀ x ∈ menuT, ∀ c ∈ x.cps.toList, Re.isEnd c = false := by decide
theorem menuE_good : ∀ x ∈ menuE, x.cps.toList = [10] ∨ x.cps.toList = [13] ∨ x.cps.toList = [13, 10] := by decide
theorem raw_tails {ts : List Str} (h : ∀ x ∈ ts, x ∈ menuT) : ∀ t ∈ raw ts, tailGood t := fun t ht => by
  obtain ⟨x, hx, rfl⟩ := List.mem_map.mp ht
  exact menuT_good x (h x hx)
theorem raw_ends {ts : List Str} (h : ∀ x ∈ ts, x ∈ menuE) : ∀ t ∈ raw ts, endGood t := fun t ht => by
  obtain ⟨x, hx, rfl⟩ := List.mem_map.mp ht
  exact menuE_good x (h x hx)
theorem sum_nonneg : ∀ {l : List Int}, (∀ x ∈ l, 1 ≤ x) → 0 ≤ l.sum
  | [], _ => Int.le_refl _
  | a :: r, h => by
    have := sum_nonneg (l := r) fun x hx => h x (.tail _ hx)
    have := h a (.head _)
    rw [List.sum_cons]; (first | lia | omega)
theorem le_sum : ∀ {l : List Int}, (∀ x ∈ l, 1 ≤ x) → ∀ x ∈ l, x ≤ l.sum
  | a :: r, h, x, hx => by
    have h1 := sum_nonneg (l := r) fun x hx => h x (.tail _ hx)
    have h2 := h a (.head _)
    rw [List.sum_cons]
    rcases List.mem_cons.mp hx with rfl | hx
    · (first | lia | omega)
    · have := le_sum (l := r) (fun x hx => h x (.tail _ hx)) x hx
      (first | lia | omega)
theorem small_it {L : Addr} {d : D2} {e : D3} {i : It} (hd : d.Ok L) (he : e.Ok L d) (hi : i.Ok d e) : i.hs.length ≤ e.ts.length ∧ i.hs.length ≤ e.es.length ∧ e.ts.length ≤ 3 ∧ i.hs.length ≤ 3 ∧ i.vs.length ≤ 3 := by
  have h1 := hd.hm
  have h2 := he.htl
  have h3 := he.hel
  have h4 := hi.hl
  have h5 := hi.hi.length
  clear hd he hi
  (first | lia | omega)
theorem hall_iff (xs ys : List Int) : (∀ k : Nat, 1 ≤ k → k < ys.length → hallAt (xs ++ List.replicate (ys.length - xs.length) 0) ys k) ↔ hallB xs ys = true := by
  unfold hallB
  rw [List.all_eq_true]
  constructor
  · intro h j hj
    have hj' := List.mem_range.mp hj
    exact decide_eq_true (h (j + 1) (by (first | lia | omega)) (by (first | lia | omega)))
  · intro h k h1 h2
    have := of_decide_eq_true (h (k - 1) (List.mem_range.mpr (by (first | lia | omega))))
    rw [show k - 1 + 1 = k by (first | lia | omega)] at this
    exact this
theorem dots_is {hs : List Int} {ts es : List Str} {x y : Str} (hx : x.cps.toList = mailOf hs (raw ts) (raw es)) (hy : y.cps.toList = ((ts.take ((hs.length : Int)).toNat).map fun t => t.cps.toList).flatten) (h0 : ∀ x ∈ hs, 1 ≤ x) (he : ∀ x ∈ es, x ∈ menuE) (h1 : hs.length ≤ ts.length) (h2 : hs.length ≤ es.length) :
    ((x.cps.toList.count 46 : Nat) : Int) - ((y.cps.toList.count 46 : Nat) : Int) = hs.sum := by
  rw [hx, hy, count_mail (fun x hx => by have := h0 x hx; (first | lia | omega)) (raw_ends he) (by rw [List.length_map]; exact h1) (by rw [List.length_map]; exact h2), Int.toNat_natCast, List.count_flatten]
  have e : (List.map (List.count 46) (List.map (fun t => t.cps.toList) (List.take hs.length ts))).sum = tailDots (raw ts) hs.length := by
    unfold tailDots
    rw [List.map_take]
  rw [e]; (first | lia | omega)
inductive PostA (base : Heap) (L : Addr) (s₁ : Shared) (d : D2) (e : D3) (pre : List It) (i : It) (tot : List Int) (nw : Nat) (S : List (Addr × Obj)) (s' : Shared)  : Prop
  | mk (t1 : Tok) (tv' : List Value) (nt' : Nat) (f0 : IntsAre tv' (nextT d.l d.m i.hs tot)) (f1 : AtW base L s₁ (ps3 d e ++ [(Str.ofString "text", .str i.x i.t), (Str.ofString "heights", .ref i.la), (Str.ofString "dots", .int i.hs.sum t1)]) ((e.wq, listOf (refs pre).toArray (nw + 1)) :: (e.tq, listOf tv'.toArray nt') :: (i.la, listOf i.vs.toArray i.nn) :: fixL L d e S) s') : PostA base L s₁ d e pre i tot nw S s'
theorem mkWA {base : Heap} {L : Addr} {s₁ : Shared} {d : D2} {e : D3} {pre : List It} {i : It} {tot : List Int} {nw nt' : Nat} {S nx : List (Addr × Obj)} {h : Heap} {tk : Nat} {mp : Str → Option Value} {dv : Int} {t1 : Tok} {tv' : List Value}
    (F : Fr base L h mp) (N : News base L h nx) (hv : ∀ p ∈ ps3 d e ++ [(Str.ofString "text", Value.str i.x i.t), (Str.ofString "heights", .ref i.la), (Str.ofString "dots", .int dv t1)], mp p.1 = some p.2) (hdv : dv = i.hs.sum) (hi : IntsAre tv' (nextT d.l d.m i.hs tot))
    (hs : ∀ p ∈ (e.wq, listOf (refs pre).toArray (nw + 1)) :: (e.tq, listOf tv'.toArray nt') :: (i.la, listOf i.vs.toArray i.nn) :: fixL L d e S, p ∈ nx) : PostA base L s₁ d e pre i tot nw S { s₁ with heap := h, toks := tk } := by
  subst hdv
  exact ⟨t1, tv', nt', hi, h, tk, mp, rfl, hv, F, news_sub N hs⟩
theorem nextT_yes {l m : Int} {h : List Int} {tot : List Int} {b : Bool} (hb : b = true ↔ ∀ k : Nat, 1 ≤ k → k < (viewsOf l m).length → hallAt (h ++ List.replicate ((viewsOf l m).length - h.length) 0) (viewsOf l m) k) : nextT l m h tot = if b then tot ++ [h.sum] else tot := by
  rw [hall_iff] at hb
  unfold D.nextT
  cases b with
  | true => rw [hb.mp rfl]
  | false =>
    cases q : hallB h (viewsOf l m) with
    | true => exact absurd (hb.mpr q) (by decide)
    | false => rfl
theorem views_len {l m : Int} (hm : m = 2 ∨ m = 3) : (viewsOf l m).length = m.toNat := by rcases hm with rfl | rfl <;> rfl
theorem bits_100 {x : Int} (h : 0 ≤ x ∧ x ≤ 100) : Builtin.Int.intBits x ≤ 1000 := Nat.le_trans (intBits_le_iff.mpr (show x.natAbs < 2 ^ 7 by (first | lia | omega))) (by decide)
theorem views_bits {l m : Int} (hl : 2 ≤ l ∧ l ≤ 4) (hm : m = 2 ∨ m = 3) : ∀ y ∈ viewsOf l m, Builtin.Int.intBits y ≤ 1000 := by
  have h1 : l = 2 ∨ l = 3 ∨ l = 4 := by (first | lia | omega)
  have key : ∀ y ∈ viewsOf l m, 0 ≤ y ∧ y ≤ 100 := by rcases h1 with rfl | rfl | rfl <;> rcases hm with rfl | rfl <;> decide
  exact fun y hy => bits_100 (key y hy)
theorem s_ne_wq {L : Addr} {d : D2} {e : D3} (he : e.Ok L d) {pre : List It} (hp : ∀ j ∈ pre, j.Ok d e) : ∀ p ∈ e.T ++ pre.flatMap itL, p.1 ≠ e.wq := by
  intro p h
  rcases List.mem_append.mp h with h | h
  · exact he.hap p h (e.wq, tabObj #[]) (.head _)
  · obtain ⟨j, hj, h⟩ := List.mem_flatMap.mp h
    rcases List.mem_cons.mp h with rfl | h
    · exact (hp j hj).n1
    · rw [List.mem_singleton.mp h]; exact (hp j hj).n3
theorem s_ne_tq {L : Addr} {d : D2} {e : D3} (he : e.Ok L d) {pre : List It} (hp : ∀ j ∈ pre, j.Ok d e) : ∀ p ∈ e.T ++ pre.flatMap itL, p.1 ≠ e.tq := by
  intro p h
  rcases List.mem_append.mp h with h | h
  · exact he.hap p h (e.tq, tabObj #[]) (.tail _ (.head _))
  · obtain ⟨j, hj, h⟩ := List.mem_flatMap.mp h
    rcases List.mem_cons.mp h with rfl | h
    · exact (hp j hj).n2
    · rw [List.mem_singleton.mp h]; exact (hp j hj).n4
theorem led_open {L : Addr} {d : D2} {e : D3} {pre : List It} {i : It} {A2 : Addr × Obj} {nw : Nat} : ∀ p ∈ (e.wq, listOf (refs pre ++ [Value.ref i.tup]).toArray nw) :: A2 :: (i.tup, tupO i.x i.t i.la) :: (i.la, listOf i.vs.toArray i.nn) :: fixL L d e (e.T ++ pre.flatMap itL),
    p ∈ (e.wq, listOf (refs (pre ++ [i])).toArray nw) :: A2 :: fixL L d e (e.T ++ (pre ++ [i]).flatMap itL) := by
  have e1 : refs (pre ++ [i]) = refs pre ++ [Value.ref i.tup] := List.map_append
  rw [e1, items_end]
  exact mem_skip (mem_skip fun p h => mem_in (fr := fixL L d e []) h)
theorem take_weight {ts : List Str} (h : ∀ x ∈ ts, x.length ≤ 8) (hl : ts.length ≤ 3) (k : Nat) : ((ts.take k).map (·.length)).sum + (ts.take k).length ≤ 1048576 := by
  have key : ∀ l : List Str, (∀ x ∈ l, x.length ≤ 8) → (l.map (·.length)).sum ≤ 8 * l.length := by
    intro l
    induction l with
    | nil => intro _; exact Nat.le_refl _
    | cons a r ih =>
      intro h
      have h1 := h a (.head _)
      have h2 := ih fun x hx => h x (.tail _ hx)
      rw [List.map_cons, List.sum_cons, List.length_cons]; (first | lia | omega)
  have h1 := key (ts.take k) fun x hx => h x (List.mem_of_mem_take hx)
  have h2 : (ts.take k).length ≤ 3 := by rw [List.length_take]; (first | lia | omega)
  (first | lia | omega)
theorem wA {w : World} {p : Program} {loose : List Str} {mean : ExcName → Option Value} {mg mb : Str → Option Value} {base : Heap} (H : Base w p loose mean mg mb base) (L fa : Addr) (cd : Value) (s₁ : Shared) (d : D2) (hd : d.Ok L) (e : D3) (he : e.Ok L d) (pre : List It) (i : It) (hpre : ∀ j ∈ pre, j.Ok d e) (hi : i.Ok d e)
    (tot : List Int) (tv : List Value) (nt nw : Nat) (htv : IntsAre tv tot) (hf1 : tot.length ≤ 200) (hf2 : pre.length ≤ 201)
    (s : Shared) (hS : AtW base L s₁ (ps3 d e) ((e.wq, listOf (refs (pre ++ [i])).toArray nw) :: (e.tq, listOf tv.toArray nt) :: fixL L d e (e.T ++ (pre ++ [i]).flatMap itL)) s) :
    wpAny (model PySem.Challenge.rw_rl0045_02.row.prog w) (aL L fa cd) (execs (wsg 0 4) (eL L fa cd)) (Ends (PostA base L s₁ d e pre i tot nw (e.T ++ pre.flatMap itL))) (fun _ _ => False) s := by
  have dummy : (fun (_ : OpenLaw) (_ : Params → Frag) => True) PySem.Challenge.rw_rl0045_02 hd2.heap_39 := by k_fill; trivial
  clear dummy
  obtain ⟨X, T, B⟩ := H
  obtain ⟨h, tk, m, rfl, hv, F, N⟩ := hS
  replace F := fr_kst F hv
  obtain ⟨hi9, hi8, hi7, hi6, hi5⟩ := small_it hd he hi
  obtain ⟨hl, hm, hb, hw, hk, hus, hcs, hcb, hvv, hzz, h1, h2, lq, lv, lz, lL⟩ := hd
  obtain ⟨hT, hap, h4, hts, htl, htm, hes, hel, hem, l1, l2, l3, l4, l5, l6, lT⟩ := he
  obtain ⟨hx, hii, hi1, hil, his, n1, n2, n3, n4⟩ := hi
  have hSw := s_ne_wq ⟨hT, hap, h4, hts, htl, htm, hes, hel, hem, l1, l2, l3, l4, l5, l6, lT⟩ hpre
  have hSt := s_ne_tq ⟨hT, hap, h4, hts, htl, htm, hes, hel, hem, l1, l2, l3, l4, l5, l6, lT⟩ hpre
  obtain ⟨S, hSd⟩ : ∃ S, S = e.T ++ pre.flatMap itL := ⟨_, rfl⟩
  rw [← hSd] at hSw hSt
  replace N : News base L h ((e.wq, listOf (refs pre ++ [Value.ref i.tup]).toArray nw) :: (e.tq, listOf tv.toArray nt) :: (i.tup, tupO i.x i.t i.la) :: (i.la, listOf i.vs.toArray i.nn) :: fixL L d e S) := news_sub N (by rw [hSd]; exact led_open)
  rw [← hSd]
  have hul := hus.length
  have htvl := htv.length
  have hrl : (refs pre).length = pre.length := List.length_map ..
  try refine post_K fun K9 hK9 => ?_
  obtain ⟨sc9, hsc9⟩ : ∃ sc, sc = lawS := ⟨_, rfl⟩
  obtain ⟨bd9, hbd9⟩ : ∃ b, b = wsg 0 4 := ⟨_, rfl⟩
  unfold aL eL
  rw [← hsc9, ← hbd9]
  conv at hsc9 => rhs; whnf
  conv at hbd9 => rhs; whnf
  conv at hbd9 => rhs; arg 2; whnf
  conv at hbd9 => rhs; arg 2; arg 2; whnf
  conv at hbd9 => rhs; arg 2; arg 2; arg 2; whnf
  conv at hbd9 => rhs; arg 2; arg 2; arg 2; arg 2; whnf
  subst hsc9 hbd9
  have hx100 : ∀ x ∈ i.hs, 0 ≤ x ∧ x ≤ 100 := fun x hx => by
    have := hi1 x hx
    have := le_sum hi1 x hx
    (first | lia | omega)
  k_steps
  unfold Hold
  k_dflt (refine' useL (mail_c _ _ _ _ _ _ _ _ _ _ _ _ _ ?c1 ?c2 ?c3 hii hts hes hi9 hi8 hi7 hx100 (fun x hx => menuT_len x (htm x hx)) (fun x hx => menuE_len x (hem x hx))) ?u1 ?u2 ?u3 ?u4 ?u5 ?u6 ?u7 ?u8 ?_; (case u1 => k_asm); (case u2 => k_asm); (case u3 => k_asm); (case u4 => k_asm); (case c1 => k_mem); (case c2 => k_mem); (case c3 => k_mem); (case u5 => k_asm); (case u6 => exact rfl); (case u7 => ktr_room); (case u8 => ktr_units))
  rintro v9 nx9 h9 tk9 F9 N9 ⟨rfl, y, ty, rfl, hy⟩
  have hxy : y = i.x := str_eq (hy.trans hx.symm)
  subst hxy
  have hevl := hts.len_eq
  have hivl := hii.length
  have hjw : ((e.ts.take ((i.vs.length : Int)).toNat).map (·.length)).sum + (e.ts.take ((i.vs.length : Int)).toNat).length ≤ 1048576 := take_weight (fun x hx => menuT_len x (htm x hx)) hi7 _
  k_steps
  · exact absurd (by assumption) (by simp)
  unfold Hold
  have hvl3 := views_len (l := d.l) hm
  k_dflt (refine' useL (hall_c _ _ _ _ _ _ (viewsOf d.l d.m) _ _ ?c1 ?c2 hii hvv (by (first | lia | omega)) (by (first | lia | omega)) (fun x hx => bits_100 (hx100 x hx)) (views_bits hl hm)) ?u1 ?u2 ?u3 ?u4 ?u5 ?u6 ?u7 ?u8 ?_; (case u1 => k_asm); (case u2 => k_asm); (case u3 => k_asm); (case u4 => k_asm); (case c1 => k_mem); (case c2 => k_mem); (case u5 => k_asm); (case u6 => exact rfl); (case u7 => ktr_room); (case u8 => ktr_units))
  rintro v8 nx8 h8 tk8 F8 N8 ⟨rfl, bb, rfl, hbb⟩
  have hnx := nextT_yes (tot := tot) hbb
  rename (_ = (List.map _ _).flatten) => hyj
  rw [hivl] at hyj
  have hdv := dots_is hx hyj hi1 hem hi9 hi8
  cases bb with
  | true =>
    rw [if_pos rfl, ← hdv] at hnx
    k_steps
    refine Ends.intro (hK9 _ ?_)
    rename News base L _ _ => NZ
    rename Fr base L _ _ => FZ
    refine' mkWA (tv' := tv ++ [_]) FZ NZ ?a hdv ?b ?c
    (case a => walk_at "vals_all")
    (case c => walk_at "sub_all")
    (case b => rw [hnx]; exact ints_snoc htv _ _)
  | false =>
    rw [if_neg (by decide)] at hnx
    k_steps
    refine Ends.intro (hK9 _ ?_)
    rename News base L _ _ => NZ
    rename Fr base L _ _ => FZ
    refine' mkWA (tv' := tv) FZ NZ ?a hdv ?b ?c
    (case a => walk_at "vals_all")
    (case c => walk_at "sub_all")
    (case b => rw [hnx]; exact htv)
end
section
theorem fresh24 : True := by
  w_top off
  trivial
local macro_rules | `(tactic| walk_at "call ref") => `(tactic| (k_here; refine hold ?_))
local macro_rules | `(tactic| k_all) => `(tactic| first | assumption | exact allNe_of_lt (by walk_at "lt_all") (Nat.le_refl _))
local macro_rules | `(tactic| walk_at "call builtin:list.pop") => `(tactic| (k_here; k_dflt (refine' pop_snoc ?k1 ?k2 ?k3 ?k4 ?_; (case k1 => k_asm); (case k2 => k_asm); (case k3 => k_updF); (case k4 => omega); k_whole); intro h' F' N'; (try dsimp only at N')))
local macro_rules | `(tactic| walk_at "call builtin:list.append") => `(tactic| (k_here; k_dflt (refine' append_M ?k1 ?k2 ?k3 ?k4 ?_; (case k1 => k_asm); (case k2 => k_asm); (case k3 => k_updF); (case k4 => (show _ ≤ 16777216; omega)); k_whole); intro h' nn' F' N'; (try dsimp only at N')))
local macro_rules | `(tactic| walk_at "call builtin:len") => `(tactic| (k_here; k_dflt (refine' len_M ?k1 ?k2 ?k3 ?_; (case k1 => k_asm); (case k2 => k_mem); (case k3 => omega); k_whole); intro t' tk'))
local macro_rules | `(tactic| walk_at "call builtin:str.count") => `(tactic| (k_here; k_dflt (refine' count_sign (c := 46) ?k1 ?_; (case k1 => rfl); k_whole); intro t' tk'))
local macro_rules | `(tactic| walk_at "call builtin:str.join") => `(tactic| (k_here; k_dflt (refine' join_strs ?k1 ?k2 ?k3 ?k4 ?_; (case k1 => k_asm); (case k2 => k_mem); (case k3 => with_reducible assumption); (case k4 => assumption); k_whole); intro y' t' tk' hy'))
local macro_rules | `(tactic| walk_at "subscriptTail Name Slice ref ref") => `(tactic| (k_here; k_dflt (refine' slice_upto ?F ?N ?l ?q ?i ?o ?_ ?s ?t ?z; (case F => k_asm); (case N => k_asm); (case l => k_mem); (case q => exact .int _ _); (case i => with_reducible assumption); (case o => omega); (case s => with_unfolding_all rfl); (case t => exact fun _ => rfl); (case z => (show _ ≤ 16777216; simp only [List.size_toArray]; omega)); k_whole); intro D' ws' h' F' N' l1 hI'; (try k_lt l1); (try k_sweep)))

local macro_rules | `(tactic| walk_at "CompSrc") => `(tactic| (k_here; refine hold ?_))
local macro_rules | `(tactic| walk_at "CompEnd") => `(tactic| (refine hold ?_))
local macro_rules | `(tactic| walk_at "compareOp NotEq ref ref") => `(tactic| (k_here; k_dflt (refine' ne_nil ?k1 ?k2 ?k3 ?k4 ?_; (case k1 => k_asm); (case k2 => k_mem); (case k3 => k_mem); (case k4 => ktr_units); k_whole)))
noncomputable abbrev psT (d : D2) (e : D3) (i : It) (t1 : Tok) : List (Str × Value) := ps3 d e ++ [(Str.ofString "text", .str i.x i.t), (Str.ofString "heights", .ref i.la), (Str.ofString "dots", .int i.hs.sum t1)]
inductive PostB (base : Heap) (L : Addr) (s₁ : Shared) (d : D2) (e : D3) (i : It) (t1 : Tok) (pre : List It) (more : List (List Int)) (tv : List Value) (nt : Nat) (s' : Shared)  : Prop
  | mk (its : List It) (nw : Nat) (f0 : its.map It.hs = pre.map It.hs ++ more) (f1 : (∀ j ∈ its, j.Ok d e)) (f2 : AtW base L s₁ (psT d e i t1) ((e.wq, listOf (refs its).toArray nw) :: (e.tq, listOf tv.toArray nt) :: (i.la, listOf i.vs.toArray i.nn) :: fixL L d e (e.T ++ its.flatMap itL)) s') : PostB base L s₁ d e i t1 pre more tv nt s'
theorem led_close {L : Addr} {d : D2} {e : D3} {pre : List It} {j : It} {A2 A3 : Addr × Obj} {nw : Nat} : ∀ p ∈ (e.wq, listOf (refs (pre ++ [j])).toArray nw) :: A2 :: A3 :: fixL L d e (e.T ++ (pre ++ [j]).flatMap itL),
    p ∈ (e.wq, listOf (refs pre ++ [Value.ref j.tup]).toArray nw) :: A2 :: A3 :: (j.tup, tupO j.x j.t j.la) :: (j.la, listOf j.vs.toArray j.nn) :: fixL L d e (e.T ++ pre.flatMap itL) := by
  have e1 : refs (pre ++ [j]) = refs pre ++ [Value.ref j.tup] := List.map_append
  rw [e1, items_end]
  exact mem_skip (mem_skip (mem_skip fun p h => mem_out (fr := fixL L d e []) h))
theorem mkWB0 {base : Heap} {L : Addr} {s₁ : Shared} {d : D2} {e : D3} {i : It} {t1 : Tok} {pre : List It} {more : List (List Int)} {tv : List Value} {nt nw : Nat} {nx : List (Addr × Obj)} {h : Heap} {tk : Nat} {mp : Str → Option Value}
    (F : Fr base L h mp) (N : News base L h nx) (hv : ∀ p ∈ psT d e i t1, mp p.1 = some p.2) (hp : ∀ j ∈ pre, j.Ok d e) (hm : more = [])
    (hs : ∀ p ∈ (e.wq, listOf (refs pre).toArray nw) :: (e.tq, listOf tv.toArray nt) :: (i.la, listOf i.vs.toArray i.nn) :: fixL L d e (e.T ++ pre.flatMap itL), p ∈ nx) : PostB base L s₁ d e i t1 pre more tv nt { s₁ with heap := h, toks := tk } := by
  subst hm
  exact ⟨pre, nw, by simp, hp, h, tk, mp, rfl, hv, F, news_sub N hs⟩
theorem mkWB1 {base : Heap} {L : Addr} {s₁ : Shared} {d : D2} {e : D3} {i : It} {t1 : Tok} {pre : List It} {more : List (List Int)} {tv : List Value} {nt nw : Nat} {nx : List (Addr × Obj)} {h : Heap} {tk : Nat} {mp : Str → Option Value} {tup la : Addr} {x : Str} {t : Tok} {hs : List Int} {vs : List Value} {nn : Nat}
    (F : Fr base L h mp) (N : News base L h nx) (hv : ∀ p ∈ psT d e i t1, mp p.1 = some p.2) (hp : ∀ j ∈ pre, j.Ok d e) (hj : It.Ok ⟨tup, la, x, t, hs, vs, nn⟩ d e) (hm : more = [hs])
    (hsub : ∀ p ∈ (e.wq, listOf (refs pre ++ [Value.ref tup]).toArray nw) :: (e.tq, listOf tv.toArray nt) :: (i.la, listOf i.vs.toArray i.nn) :: (tup, tupO x t la) :: (la, listOf vs.toArray nn) :: fixL L d e (e.T ++ pre.flatMap itL), p ∈ nx) : PostB base L s₁ d e i t1 pre more tv nt { s₁ with heap := h, toks := tk } := by
  subst hm
  refine ⟨pre ++ [⟨tup, la, x, t, hs, vs, nn⟩], nw, by simp, fun j h => ?_, h, tk, mp, rfl, hv, F, news_sub N fun p h => hsub p (led_close p h)⟩
  rcases List.mem_append.mp h with h | h
  · exact hp j h
  · rw [List.mem_singleton.mp h]; exact hj
theorem sum_succ : ∀ l : List Int, (l.map (· + 1)).sum = l.sum + (l.length : Int)
  | [] => rfl
  | a :: r => by
    rw [List.map_cons, List.sum_cons, List.sum_cons, sum_succ r, List.length_cons]; (first | lia | omega)
theorem wB {w : World} {p : Program} {loose : List Str} {mean : ExcName → Option Value} {mg mb : Str → Option Value} {base : Heap} (H : Base w p loose mean mg mb base) (L fa : Addr) (cd : Value) (s₁ : Shared) (d : D2) (hd : d.Ok L) (e : D3) (he : e.Ok L d) (pre : List It) (i : It) (hpre : ∀ j ∈ pre, j.Ok d e) (hi : i.Ok d e)
    (tv : List Value) (nt nw : Nat) (t1 : Tok) (hf2 : pre.length ≤ 201)
    (s : Shared) (hS : AtW base L s₁ (psT d e i t1) ((e.wq, listOf (refs pre).toArray nw) :: (e.tq, listOf tv.toArray nt) :: (i.la, listOf i.vs.toArray i.nn) :: fixL L d e (e.T ++ pre.flatMap itL)) s) :
    wpAny (model PySem.Challenge.rw_rl0045_02.row.prog w) (aL L fa cd) (execs (wsg 4 1) (eL L fa cd)) (Ends (PostB base L s₁ d e i t1 pre (if i.hs ≠ [] ∧ i.hs.sum + (i.hs.length : Int) ≤ d.b then [i.hs.map (· + 1)] else []) tv nt)) (fun _ _ => False) s := by
  have dummy : (fun (_ : OpenLaw) (_ : Params → Frag) => True) PySem.Challenge.rw_rl0045_02 hd2.heap_39 := by k_fill; trivial
  clear dummy
  obtain ⟨X, T, B⟩ := H
  obtain ⟨h, tk, m, rfl, hv, F, N⟩ := hS
  replace F := fr_kst F hv
  obtain ⟨hi9, hi8, hi7, hi6, hi5⟩ := small_it hd he hi
  have hSw := s_ne_wq he hpre
  have hSt := s_ne_tq he hpre
  obtain ⟨hl, hm, hb, hw, hk, hus, hcs, hcb, hvv, hzz, h1, h2, lq, lv, lz, lL⟩ := hd
  obtain ⟨hT, hap, h4, hts, htl, htm, hes, hel, hem, l1, l2, l3, l4, l5, l6, lT⟩ := he
  obtain ⟨hx, hii, hi1, hil, his, n1, n2, n3, n4⟩ := hi
  obtain ⟨S, hSd⟩ : ∃ S, S = e.T ++ pre.flatMap itL := ⟨_, rfl⟩
  rw [← hSd] at hSw hSt N
  have hul := hus.length
  have hivl := hii.length
  have hrl : (refs pre).length = pre.length := List.length_map ..
  try refine post_K fun K9 hK9 => ?_
  obtain ⟨sc9, hsc9⟩ : ∃ sc, sc = lawS := ⟨_, rfl⟩
  obtain ⟨bd9, hbd9⟩ : ∃ b, b = wsg 4 1 := ⟨_, rfl⟩
  unfold aL eL
  rw [← hsc9, ← hbd9]
  conv at hsc9 => rhs; whnf
  conv at hbd9 => rhs; whnf
  conv at hbd9 => rhs; arg 2; whnf
  subst hsc9 hbd9
  k_steps
  · refine Ends.intro (hK9 _ ?_)
    rename News base L _ _ => NZ
    rename Fr base L _ _ => FZ
    have hvn : i.vs = [] := List.isEmpty_iff.mp (by assumption)
    have hhn : i.hs = [] := List.eq_nil_of_length_eq_zero (by rw [← hivl, hvn]; rfl)
    refine' mkWB0 (nw := nw) FZ NZ ?a hpre ?b ?c
    (case a => walk_at "vals_all")
    (case b => rw [if_neg]; exact fun h9 => h9.1 hhn)
    (case c => rw [← hSd]; walk_at "sub_all")
  · unfold Hold
    have hxl : i.x.cps.size ≤ 1000000 := by
      have h9 := mail_len (xs := i.hs) (ts := raw e.ts) (es := raw e.es) (fun x hx => by have := hi1 x hx; have := le_sum hi1 x hx; (first | lia | omega)) (fun t ht => by obtain ⟨y, hy, rfl⟩ := List.mem_map.mp ht; exact menuT_len y (htm y hy)) (fun t ht => by obtain ⟨y, hy, rfl⟩ := List.mem_map.mp ht; exact menuE_len y (hem y hy)) i.hs.length
      have e9 : i.x.cps.size = (mailU i.hs (raw e.ts) (raw e.es) i.hs.length).length := by rw [← Array.length_toList, hx]; rfl
      (first | lia | omega)
    k_dflt (refine' useV (quotedata_c _ _ hxl) ?u1 ?u2 ?u3 ?u4 ?u5 ?u6 ?u7 ?u8 ?_; (case u1 => k_asm); (case u2 => k_asm); (case u3 => k_asm); (case u4 => k_asm); (case u5 => k_asm); (case u6 => exact rfl); (case u7 => ktr_room); (case u8 => ktr_units))
    rintro v9 h9 tk9 F9 N9 ⟨y, ty, rfl, hy⟩
    k_steps
    unfold Hold
    dsimp only
    rename News base L _ _ => NR
    rename Fr base L _ _ => FR
    refine LCg.CompSrc.ledger (its := i.vs.toArray) (k := i.nn) rfl FR NR (by k_mem) (by show _ ≤ 16777216; rw [List.size_toArray]; (first | lia | omega)) ?_
    intro g
    refine compS (fun j y => ∃ t, y = Value.int ((i.hs.map (· + 1)).getD j 0) t) ?_ ?_
    · rintro j yv I oI C oC D m₂ ys h' tk' E' hj hyv hC hxv F' N' off ne
      have off0 := off
      simp only [LCg.Off3] at off
      obtain ⟨a, ta, rfl, ha⟩ := ints_get hii (by rw [List.getElem?_toArray] at hyv; exact hyv)
      k_steps
      unfold Hold
      rename News base L _ _ => NZ
      rename Fr base L _ _ => FZ
      have ev : (i.hs.map (· + 1)).getD j 0 = a + 1 := by rw [List.getD_eq_getElem?_getD, List.getElem?_map, ha]; rfl
      refine LCg.CompEnd.intro FZ NZ _ ?_ off0 (.inr ⟨_, by k_mem, rfl, _, rfl⟩) ⟨rfl, _, by rw [ev]⟩
      walk_at "sub_all"
    · intro ys hyl hys
      have hys2 : IntsAre ys (i.hs.map (· + 1)) := intsOf (by rw [hyl, List.size_toArray, List.length_map, hivl]) hys
      k_steps
      refine Ends.intro (hK9 _ ?_)
      rename News base L _ _ => NZ
      rename Fr base L _ _ => FZ
      have hne : i.hs ≠ [] := fun h9 => by
        have h8 : i.vs.isEmpty = false := by assumption
        rw [show i.vs = [] from List.eq_nil_of_length_eq_zero (by rw [hivl, h9]; rfl)] at h8
        cases h8
      refine' mkWB1 (hs := i.hs.map (· + 1)) (vs := ys) FZ NZ ?a hpre ?b ?c ?d
      (case a => walk_at "vals_all")
      (case c => rw [if_pos]; refine ⟨hne, ?_⟩; (first | lia | omega))
      (case d => rw [← hSd]; walk_at "sub_all")
      (case b =>
        refine ⟨?_, hys2, ?_, ?_, ?_, ?_, ?_, ?_, ?_⟩
        · show y.cps.toList = _
          rw [hy, hx]
          exact quoted_mail hi1 (raw_tails htm) (raw_ends hem) (by rw [List.length_map]; exact hi9) (by rw [List.length_map]; exact hi8)
        · intro x hx9
          obtain ⟨y9, hy9, rfl⟩ := List.mem_map.mp hx9
          have := hi1 y9 hy9; (first | lia | omega)
        · rw [List.length_map]; exact hil
        · rw [sum_succ]; (first | lia | omega)
        all_goals (dsimp only; (first | lia | omega)))
  · refine Ends.intro (hK9 _ ?_)
    rename News base L _ _ => NZ
    rename Fr base L _ _ => FZ
    refine' mkWB0 (nw := nw) FZ NZ ?a hpre ?b ?c
    (case a => walk_at "vals_all")
    (case b => rw [if_neg]; rintro ⟨h9, h8⟩; (first | lia | omega))
    (case c => rw [← hSd]; walk_at "sub_all")
end
section
local macro_rules | `(tactic| walk_at "zz0") => `(tactic| skip)
theorem fresh25 : True := by
  w_top off
  trivial
local macro_rules | `(tactic| walk_at "call ref") => `(tactic| (k_here; refine hold ?_))
local macro_rules | `(tactic| k_all) => `(tactic| first | assumption | exact allNe_of_lt (by walk_at "lt_all") (Nat.le_refl _))
local macro_rules | `(tactic| walk_at "call builtin:list.pop") => `(tactic| (k_here; k_dflt (refine' pop_snoc ?k1 ?k2 ?k3 ?k4 ?_; (case k1 => k_asm); (case k2 => k_asm); (case k3 => k_updF); (case k4 => omega); k_whole); intro h' F' N'; (try dsimp only at N')))
local macro_rules | `(tactic| walk_at "call builtin:list.append") => `(tactic| (k_here; k_dflt (refine' append_M ?k1 ?k2 ?k3 ?k4 ?_; (case k1 => k_asm); (case k2 => k_asm); (case k3 => k_updF); (case k4 => (show _ ≤ 16777216; omega)); k_whole); intro h' nn' F' N'; (try dsimp only at N')))
local macro_rules | `(tactic| walk_at "call builtin:len") => `(tactic| (k_here; k_dflt (refine' len_M ?k1 ?k2 ?k3 ?_; (case k1 => k_asm); (case k2 => k_mem); (case k3 => omega); k_whole); intro t' tk'))
local macro_rules | `(tactic| walk_at "call builtin:str.count") => `(tactic| (k_here; k_dflt (refine' count_sign (c := 46) ?k1 ?_; (case k1 => rfl); k_whole); intro t' tk'))
local macro_rules | `(tactic| walk_at "call builtin:str.join") => `(tactic| (k_here; k_dflt (refine' join_strs ?k1 ?k2 ?k3 ?k4 ?_; (case k1 => k_asm); (case k2 => k_mem); (case k3 => with_reducible assumption); (case k4 => assumption); k_whole); intro y' t' tk' hy'))
local macro_rules | `(tactic| walk_at "subscriptTail Name Slice ref ref") => `(tactic| (k_here; k_dflt (refine' slice_upto ?F ?N ?l ?q ?i ?o ?_ ?s ?t ?z; (case F => k_asm); (case N => k_asm); (case l => k_mem); (case q => exact .int _ _); (case i => with_reducible assumption); (case o => omega); (case s => with_unfolding_all rfl); (case t => exact fun _ => rfl); (case z => (show _ ≤ 16777216; simp only [List.size_toArray]; omega)); k_whole); intro D' ws' h' F' N' l1 hI'; (try k_lt l1); (try k_sweep)))

local macro_rules | `(tactic| walk_at "compareOp NotEq ref ref") => `(tactic| (k_here; k_dflt (refine' ne_nil ?k1 ?k2 ?k3 ?k4 ?_; (case k1 => k_asm); (case k2 => k_mem); (case k3 => k_mem); (case k4 => ktr_units); k_whole)))
local macro_rules | `(tactic| walk_at "subscriptTail Name Call ref int") => `(tactic| (k_here; k_dflt (refine' strs_M ?k1 ?k2 ?k3 ?k4 ?k5 ?k6 ?_ ?k7; (case k1 => k_asm); (case k2 => k_mem); (case k3 => with_reducible assumption); (case k4 => lia); (case k5 => lia); (case k6 => lia); (case k7 => with_unfolding_all rfl); k_whole); intro t'))
local macro_rules | `(tactic| walk_at "binaryOp Add str str") => `(tactic| (k_here; k_dflt (refine' PyProof.Rows.add_str ?_ ?k1; (case k1 => (show _ ≤ 16777216; (try simp only [len_app]); (try simp only [lit_len0, lit_len1]); lia)); k_whole); intro t' tk'))
theorem text_more {hs : List Int} {ts es : List Str} {x e : Str} {n : Nat} (hx : x.cps.toList = mailOf hs (raw ts) (raw es)) (hn : n = hs.length) (he : e.cps.toList = if hs.length = 0 then [] else (raw es).getD hs.length []) :
    (((x ++ e) ++ Str.ofString ".") ++ ts.getD n PySem.Str.empty).cps.toList = mailOf (hs ++ [1]) (raw ts) (raw es) := by
  subst hn
  rw [app_list, app_list, app_list, mail_snoc, hx, he, raw_getD, show (Str.ofString ".").cps.toList = [46] by decide]
  simp only [List.append_assoc, List.cons_append, List.nil_append]
theorem wC {w : World} {p : Program} {loose : List Str} {mean : ExcName → Option Value} {mg mb : Str → Option Value} {base : Heap} (H : Base w p loose mean mg mb base) (L fa : Addr) (cd : Value) (s₁ : Shared) (d : D2) (hd : d.Ok L) (e : D3) (he : e.Ok L d) (pre : List It) (i : It) (hpre : ∀ j ∈ pre, j.Ok d e) (hi : i.Ok d e)
    (tv : List Value) (nt nw : Nat) (t1 : Tok) (hf2 : pre.length ≤ 201)
    (s : Shared) (hS : AtW base L s₁ (psT d e i t1) ((e.wq, listOf (refs pre).toArray nw) :: (e.tq, listOf tv.toArray nt) :: (i.la, listOf i.vs.toArray i.nn) :: fixL L d e (e.T ++ pre.flatMap itL)) s) :
    wpAny (model PySem.Challenge.rw_rl0045_02.row.prog w) (aL L fa cd) (execs (wsg 5 1) (eL L fa cd)) (Ends (PostB base L s₁ d e i t1 pre (if (i.hs.length : Int) < d.m ∧ i.hs.sum < d.b then [i.hs ++ [1]] else []) tv nt)) (fun _ _ => False) s := by
  have dummy : (fun (_ : OpenLaw) (_ : Params → Frag) => True) PySem.Challenge.rw_rl0045_02 hd2.heap_39 := by k_fill; trivial
  clear dummy
  obtain ⟨X, T, B⟩ := H
  obtain ⟨h, tk, m, rfl, hv, F, N⟩ := hS
  replace F := fr_kst F hv
  obtain ⟨hi9, hi8, hi7, hi6, hi5⟩ := small_it hd he hi
  have hSw := s_ne_wq he hpre
  have hSt := s_ne_tq he hpre
  obtain ⟨hl, hm, hb, hw, hk, hus, hcs, hcb, hvv, hzz, h1, h2, lq, lv, lz, lL⟩ := hd
  obtain ⟨hT, hap, h4, hts, htl, htm, hes, hel, hem, l1, l2, l3, l4, l5, l6, lT⟩ := he
  obtain ⟨hx, hii, hi1, hil, his, n1, n2, n3, n4⟩ := hi
  obtain ⟨S, hSd⟩ : ∃ S, S = e.T ++ pre.flatMap itL := ⟨_, rfl⟩
  rw [← hSd] at hSw hSt N
  have hul := hus.length
  have hivl := hii.length
  have hrl : (refs pre).length = pre.length := List.length_map ..
  have hxl : i.x.length ≤ 330 := by
    have h9 := mail_len (xs := i.hs) (ts := raw e.ts) (es := raw e.es) (fun x hx => by have := hi1 x hx; have := le_sum hi1 x hx; (first | lia | omega)) (fun t ht => by obtain ⟨y, hy, rfl⟩ := List.mem_map.mp ht; exact menuT_len y (htm y hy)) (fun t ht => by obtain ⟨y, hy, rfl⟩ := List.mem_map.mp ht; exact menuE_len y (hem y hy)) i.hs.length
    have e9 : i.x.length = (mailU i.hs (raw e.ts) (raw e.es) i.hs.length).length := by rw [cps_len, hx]; rfl
    (first | lia | omega)
  have hel2 : ∀ j, (e.es.getD j PySem.Str.empty).length ≤ 2 := fun j => raw_len e.es j 2 fun x hx => menuE_len x (hem x hx)
  have htl8 : ∀ j, (e.ts.getD j PySem.Str.empty).length ≤ 8 := fun j => raw_len e.ts j 8 fun x hx => menuT_len x (htm x hx)
  have hek := hel2 ((i.vs.length : Int)).toNat
  have htk := htl8 ((i.vs.length : Int)).toNat
  have lit_len0 : (Str.ofString "").length = 0 := by decide
  have lit_len1 : (Str.ofString ".").length = 1 := by decide
  try refine post_K fun K9 hK9 => ?_
  obtain ⟨sc9, hsc9⟩ : ∃ sc, sc = lawS := ⟨_, rfl⟩
  obtain ⟨bd9, hbd9⟩ : ∃ b, b = wsg 5 1 := ⟨_, rfl⟩
  unfold aL eL
  rw [← hsc9, ← hbd9]
  conv at hsc9 => rhs; whnf
  conv at hbd9 => rhs; whnf
  conv at hbd9 => rhs; arg 2; whnf
  subst hsc9 hbd9
  k_steps
  · refine Ends.intro (hK9 _ ?_)
    have hvn : i.vs = [] := List.isEmpty_iff.mp (by assumption)
    have hhn : i.hs.length = 0 := by rw [← hivl, hvn]; rfl
    rename News base L _ _ => NZ
    rename Fr base L _ _ => FZ
    rename IntsAre _ (i.hs ++ [1]) => hI9
    refine' mkWB1 (hs := i.hs ++ [1]) FZ NZ ?a hpre ?b ?c ?d
    (case a => walk_at "vals_all")
    (case c => rw [if_pos]; refine ⟨?_, ?_⟩ <;> (first | lia | omega))
    (case d => rw [← hSd]; walk_at "sub_all")
    (case b =>
      refine ⟨?_, hI9, ?_, ?_, ?_, ?_, ?_, ?_, ?_⟩
      · exact text_more hx (by rw [hivl, Int.toNat_natCast]) (by rw [if_pos hhn]; decide)
      · intro x hx9
        rcases List.mem_append.mp hx9 with h9 | h9
        · exact hi1 x h9
        · rw [List.mem_singleton.mp h9]; decide
      · rw [List.length_append]; simp only [List.length_cons, List.length_nil]; (first | lia | omega)
      · rw [List.sum_append]; simp only [List.sum_cons, List.sum_nil]; (first | lia | omega)
      all_goals (dsimp only; (first | lia | omega)))
  · refine Ends.intro (hK9 _ ?_)
    have hhn : i.hs.length ≠ 0 := fun h9 => by
      have h8 : i.vs.isEmpty = false := by assumption
      rw [show i.vs = [] from List.eq_nil_of_length_eq_zero (by rw [hivl, h9])] at h8
      cases h8
    rename News base L _ _ => NZ
    rename Fr base L _ _ => FZ
    rename IntsAre _ (i.hs ++ [1]) => hI9
    refine' mkWB1 (hs := i.hs ++ [1]) FZ NZ ?a hpre ?b ?c ?d
    (case a => walk_at "vals_all")
    (case c => rw [if_pos]; refine ⟨?_, ?_⟩ <;> (first | lia | omega))
    (case d => rw [← hSd]; walk_at "sub_all")
    (case b =>
      refine ⟨?_, hI9, ?_, ?_, ?_, ?_, ?_, ?_, ?_⟩
      · exact text_more hx (by rw [hivl, Int.toNat_natCast]) (by rw [if_neg hhn, raw_getD, hivl, Int.toNat_natCast])
      · intro x hx9
        rcases List.mem_append.mp hx9 with h9 | h9
        · exact hi1 x h9
        · rw [List.mem_singleton.mp h9]; decide
      · rw [List.length_append]; simp only [List.length_cons, List.length_nil]; (first | lia | omega)
      · rw [List.sum_append]; simp only [List.sum_cons, List.sum_nil]; (first | lia | omega)
      all_goals (dsimp only; (first | lia | omega)))
  · refine Ends.intro (hK9 _ ?_)
    rename News base L _ _ => NZ
    rename Fr base L _ _ => FZ
    refine' mkWB0 (nw := nw) FZ NZ ?a hpre ?b ?c
    (case a => walk_at "vals_all")
    (case b => rw [if_neg]; rintro ⟨h9, h8⟩; (first | lia | omega))
    (case c => rw [← hSd]; walk_at "sub_all")
  · refine Ends.intro (hK9 _ ?_)
    rename News base L _ _ => NZ
    rename Fr base L _ _ => FZ
    refine' mkWB0 (nw := nw) FZ NZ ?a hpre ?b ?c
    (case a => walk_at "vals_all")
    (case b => rw [if_neg]; rintro ⟨h9, h8⟩; (first | lia | omega))
    (case c => rw [← hSd]; walk_at "sub_all")
end
section
theorem fresh26 : True := by
  w_top off
  trivial
local macro_rules | `(tactic| walk_at "call ref") => `(tactic| (k_here; refine hold ?_))
local macro_rules | `(tactic| k_all) => `(tactic| first | assumption | exact allNe_of_lt (by walk_at "lt_all") (Nat.le_refl _))
local macro_rules | `(tactic| walk_at "call builtin:list.pop") => `(tactic| (k_here; k_dflt (refine' pop_snoc ?k1 ?k2 ?k3 ?k4 ?_; (case k1 => k_asm); (case k2 => k_asm); (case k3 => k_updF); (case k4 => omega); k_whole); intro h' F' N'; (try dsimp only at N')))
local macro_rules | `(tactic| walk_at "call builtin:list.append") => `(tactic| (k_here; k_dflt (refine' append_M ?k1 ?k2 ?k3 ?k4 ?_; (case k1 => k_asm); (case k2 => k_asm); (case k3 => k_updF); (case k4 => (show _ ≤ 16777216; omega)); k_whole); intro h' nn' F' N'; (try dsimp only at N')))
local macro_rules | `(tactic| walk_at "call builtin:len") => `(tactic| (k_here; k_dflt (refine' len_M ?k1 ?k2 ?k3 ?_; (case k1 => k_asm); (case k2 => k_mem); (case k3 => omega); k_whole); intro t' tk'))
local macro_rules | `(tactic| walk_at "call builtin:str.count") => `(tactic| (k_here; k_dflt (refine' count_sign (c := 46) ?k1 ?_; (case k1 => rfl); k_whole); intro t' tk'))
local macro_rules | `(tactic| walk_at "call builtin:str.join") => `(tactic| (k_here; k_dflt (refine' join_strs ?k1 ?k2 ?k3 ?k4 ?_; (case k1 => k_asm); (case k2 => k_mem); (case k3 => with_reducible assumption); (case k4 => assumption); k_whole); intro y' t' tk' hy'))
local macro_rules | `(tactic| walk_at "subscriptTail Name Slice ref ref") => `(tactic| (k_here; k_dflt (refine' slice_upto ?F ?N ?l ?q ?i ?o ?_ ?s ?t ?z; (case F => k_asm); (case N => k_asm); (case l => k_mem); (case q => exact .int _ _); (case i => with_reducible assumption); (case o => omega); (case s => with_unfolding_all rfl); (case t => exact fun _ => rfl); (case z => (show _ ≤ 16777216; simp only [List.size_toArray]; omega)); k_whole); intro D' ws' h' F' N' l1 hI'; (try k_lt l1); (try k_sweep)))

local macro_rules | `(tactic| walk_at "compareOp NotEq ref ref") => `(tactic| (k_here; k_dflt (refine' ne_nil ?k1 ?k2 ?k3 ?k4 ?_; (case k1 => k_asm); (case k2 => k_mem); (case k3 => k_mem); (case k4 => ktr_units); k_whole)))
noncomputable def whT : PySem.Expr := match lawB.drop 22 with | .While t _ _ _ :: _ => t | _ => .Constant .none 0 default
noncomputable def whP : Pos := match lawB.drop 22 with | .While _ _ _ q :: _ => q | _ => default
theorem sg22 : sg 22 1 = [.While whT whB [] whP] := by delta sg; rfl
theorem whB_parts : whB = wsg 0 4 ++ (wsg 4 1 ++ wsg 5 1) := by rfl
theorem seg_join2 {M : Model} {A : Around} {env : Env} {Q : Flow → Shared → Prop} {s : Shared} {K : Shared → Prop} {a b : List Stmt} (h1 : wpAny M A (execs a env) (Ends K) (fun _ _ => False) s) {E : Value → Shared → Prop} (h2 : ∀ s', K s' → wpAny M A (execs b env) Q E s') : wpAny M A (execs (a ++ b) env) Q E s := by
  refine execs_join _ _ s (wpAny_mono h1 (fun f s' h => ?_) fun _ _ q => q.elim)
  obtain ⟨rfl, hK⟩ := h
  exact h2 s' hK
inductive StJ (base : Heap) (L : Addr) (s₀ : Shared) (d : D2) (s : Shared)  : Prop
  | mk (e : D3) (tv : List Value) (nt : Nat) (f0 : e.Ok L d) (f1 : IntsAre tv (halls d.l d.m d.b)) (f2 : tv.length ≤ 200) (f3 : At base L s₀ (ps3 d e) ((e.tq, listOf tv.toArray nt) :: fixL L d e e.T) s) : StJ base L s₀ d s
theorem nextS_is (m b : Int) (h : List Int) (st : List (List Int)) : D.nextS m b h st.reverse = (st ++ (if h ≠ [] ∧ h.sum + (h.length : Int) ≤ b then [h.map (· + 1)] else []) ++ (if (h.length : Int) < m ∧ h.sum < b then [h ++ [1]] else [])).reverse := by
  unfold D.nextS
  dsimp only
  split <;> split <;> simp
theorem nextT_len (l m : Int) (h tot : List Int) : (D.nextT l m h tot).length ≤ tot.length + 1 := by
  unfold D.nextT
  split
  · rw [List.length_append]; exact Nat.le_refl _
  · (first | lia | omega)
theorem ite_len {c : Prop} [Decidable c] (x : List Int) : (if c then [x] else []).length ≤ 1 := by split <;> simp
theorem segJ {w : World} {p : Program} {loose : List Str} {mean : ExcName → Option Value} {mg mb : Str → Option Value} {base : Heap} (H : Base w p loose mean mg mb base) (L fa : Addr) (cd : Value) (s₀ : Shared) (d : D2) (hd : d.Ok L) (s : Shared) (hS : StI base L s₀ d s) :
    wpAny (model PySem.Challenge.rw_rl0045_02.row.prog w) (aL L fa cd) (execs (sg 22 1) (eL L fa cd)) (Ends (StJ base L s₀ d)) (fun _ _ => False) s := by
  have dummy : (fun (_ : OpenLaw) (_ : Params → Frag) => True) PySem.Challenge.rw_rl0045_02 hd2.heap_39 := by k_fill; trivial
  clear dummy
  obtain ⟨e, c0, he, hc0, h0, tk0, gns, u0, hB, F0, N0⟩ := hS
  rw [sg22]
  refine wpAny_execs_cons ?_
  refine while_led (fun k m nx => ∃ c, nx = wLed L d e c ∧ c.Ok d e ∧ k = c.fuel ∧ ∀ p ∈ ps3 d e, m p.1 = some p.2) c0.fuel F0 N0 ⟨c0, rfl, hc0, rfl, fun p hp => ?_⟩ ?_
  · revert p
    walk_at "vals_all"
  · rintro k m news h tk ⟨c, rfl, hc, rfl, hv⟩ F N
    replace F := fr_kst F hv
    obtain ⟨X, T, B⟩ := H
    obtain ⟨sc9, hsc9⟩ : ∃ sc, sc = lawS := ⟨_, rfl⟩
    obtain ⟨te9, hte9⟩ : ∃ sc, sc = whT := ⟨_, rfl⟩
    obtain ⟨bd9, hbd9⟩ : ∃ sc, sc = whB := ⟨_, rfl⟩
    unfold aL eL
    rw [← hsc9, ← hte9, ← hbd9]
    conv at hsc9 => rhs; whnf
    conv at hte9 => rhs; whnf
    subst hsc9 hte9
    have hrl : (refs c.its).length = c.its.length := List.length_map ..
    k_steps
    · refine Ends.intro ?_
      rename News base L _ _ => NZ
      rename Fr base L _ _ => FZ
      have hn : c.its = [] := by
        have h9 : refs c.its = [] := List.isEmpty_iff.mp (by assumption)
        exact List.eq_nil_of_length_eq_zero (by rw [← hrl, h9]; rfl)
      have hr := hc.hrun
      rw [hn] at hr
      have htot : c.tot = halls d.l d.m d.b := by
        have : run d.l d.m d.b c.fuel (List.map It.hs []).reverse c.tot = some c.tot := by cases c.fuel <;> rfl
        rw [this] at hr
        exact Option.some.inj hr
      have htl := hc.htv.length
      have hf1 := hc.hf1
      refine ⟨e, c.tv, c.nt, he, by rw [← htot]; exact hc.htv, by (first | lia | omega), At.intro hB FZ NZ ?_ ?_⟩
      · rw [show wLed L d e c = (e.wq, listOf (refs c.its).toArray c.nw) :: (e.tq, listOf c.tv.toArray c.nt) :: fixL L d e (e.T ++ c.its.flatMap itL) from rfl, hn, List.flatMap_nil, List.append_nil]
        exact fun p hp => .tail _ (.tail _ hp)
      · walk_at "vals_all"
    · rename News base L _ _ => NZ
      rename Fr base L _ _ => FZ
      rcases List.eq_nil_or_concat c.its with hn | ⟨pre, i, hn⟩
      · have h9 : (refs c.its).isEmpty = false := by assumption
        rw [hn] at h9
        cases h9
      rw [List.concat_eq_append] at hn
      obtain ⟨hits, htv, hrun, hf1, hf2⟩ := hc
      rw [hn] at hits hrun hf2
      have hpre : ∀ j ∈ pre, j.Ok d e := fun j hj => hits j (List.mem_append.mpr (.inl hj))
      have hi : i.Ok d e := hits i (List.mem_append.mpr (.inr (.head _)))
      rw [List.length_append] at hf2
      simp only [List.length_cons, List.length_nil] at hf2
      rw [List.map_append, List.reverse_append] at hrun
      obtain ⟨n, hfu⟩ : ∃ n, c.fuel = n + 1 := by
        cases hq : c.fuel with
        | zero => rw [hq] at hrun; cases hrun
        | succ n => exact ⟨n, rfl⟩
      rw [hfu] at hrun hf1 hf2
      have hrun2 : run d.l d.m d.b n (D.nextS d.m d.b i.hs (pre.map It.hs).reverse) (D.nextT d.l d.m i.hs c.tot) = some (halls d.l d.m d.b) := hrun
      rw [hbd9, whB_parts]
      refine seg_join2 (wA ⟨X, T, B⟩ L fa cd { s₀ with heap := h, toks := tk, gens := gns } d hd e he pre i hpre hi c.tot c.tv c.nt c.nw htv (by (first | lia | omega)) (by (first | lia | omega)) _ ⟨_, _, _, rfl, ?_, FZ, news_sub NZ ?_⟩) ?_
      · walk_at "vals_all"
      · rw [show wLed L d e c = (e.wq, listOf (refs c.its).toArray c.nw) :: (e.tq, listOf c.tv.toArray c.nt) :: fixL L d e (e.T ++ c.its.flatMap itL) from rfl, hn]
        exact fun p hp => .tail _ hp
      rintro s2 ⟨t1, tv2, nt2, htv2, hS2⟩
      refine seg_join2 (wB ⟨X, T, B⟩ L fa cd { s₀ with heap := h, toks := tk, gens := gns } d hd e he pre i hpre hi tv2 nt2 _ t1 (by (first | lia | omega)) s2 hS2) ?_
      rintro s3 ⟨its3, nw3, hm3, hok3, hS3⟩
      have hl3 : its3.length ≤ pre.length + 1 := by
        have h9 := congrArg List.length hm3
        rw [List.length_map, List.length_append, List.length_map] at h9
        have := ite_len (c := i.hs ≠ [] ∧ i.hs.sum + (i.hs.length : Int) ≤ d.b) (i.hs.map (· + 1))
        (first | lia | omega)
      refine wpAny_mono (wC ⟨X, T, B⟩ L fa cd { s₀ with heap := h, toks := tk, gens := gns } d hd e he its3 i hok3 hi tv2 nt2 nw3 t1 (by (first | lia | omega)) s3 hS3) (fun f s4 h4 => ?_) fun _ _ q => q
      obtain ⟨rfl, its4, nw4, hm4, hok4, h4', tk4, m4, rfl, hv4, F4, N4⟩ := h4
      have hl4 : its4.length ≤ its3.length + 1 := by
        have h9 := congrArg List.length hm4
        rw [List.length_map, List.length_append, List.length_map] at h9
        have := ite_len (c := (i.hs.length : Int) < d.m ∧ i.hs.sum < d.b) (i.hs ++ [1])
        (first | lia | omega)
      have htl := nextT_len d.l d.m i.hs c.tot
      refine LPost.next (LEnd.intro (wLed L d e ⟨its4, D.nextT d.l d.m i.hs c.tot, tv2, nt2, nw4, n⟩) F4 N4 (List.forall_mem_nil _) ?_ (fun _ _ => List.forall_mem_nil _) ⟨n, by (first | lia | omega), _, rfl, ⟨hok4, htv2, ?_, ?_, ?_⟩, rfl, ?_⟩)
      · walk_at "sub_all"
      · show run d.l d.m d.b n (its4.map It.hs).reverse _ = _
        rw [hm4, hm3, ← nextS_is]
        exact hrun2
      · show (D.nextT d.l d.m i.hs c.tot).length + n ≤ 200
        (first | lia | omega)
      · show its4.length + n ≤ 201
        (first | lia | omega)
      · exact fun p hp => hv4 p (List.mem_append.mpr (.inl hp))
end
section
theorem fresh27 : True := by
  w_top off
  trivial
local macro_rules | `(tactic| walk_at "call ref") => `(tactic| (k_here; refine hold ?_))
local macro_rules | `(tactic| walk_at "CompSrc") => `(tactic| (k_here; refine hold ?_))
local macro_rules | `(tactic| walk_at "CompEnd") => `(tactic| (refine hold ?_))
noncomputable def FinS (base : Heap) (L : Addr) (s₀ : Shared) (f : Flow) (s' : Shared) : Prop := f = .ret (.bool true) ∧ ∃ T m, Tabs T ∧ Fr base L s'.heap m ∧ News base L s'.heap T ∧ AllB s'.gens ∧ s'.os = s₀.os
theorem ways_getD {l m b : Int} {i : Nat} (h : i < (b + 1).toNat) : (waysOf l m b).getD i 0 = (((halls l m b).count (b - (0 + (i : Int))) : Nat) : Int) := by
  unfold waysOf
  rw [List.getD_eq_getElem?_getD, List.getElem?_map, List.getElem?_range h]
  simp
theorem segK {w : World} {p : Program} {loose : List Str} {mean : ExcName → Option Value} {mg mb : Str → Option Value} {base : Heap} (H : Base w p loose mean mg mb base) (hcI : CodeHd base 51 47) (L fa : Addr) (cd : Value) (s₀ : Shared) (d : D2) (hd : d.Ok L) (s : Shared) (hS : StJ base L s₀ d s) :
    wpAny (model PySem.Challenge.rw_rl0045_02.row.prog w) (aL L fa cd) (execs (sg 23 1) (eL L fa cd)) (FinS base L s₀) (fun _ _ => False) s := by
  have dummy : (fun (_ : OpenLaw) (_ : Params → Frag) => True) PySem.Challenge.rw_rl0045_02 hd2.heap_39 := by k_fill; trivial
  clear dummy
  obtain ⟨X, T, B⟩ := H
  obtain ⟨e, tv, nt, he, htv, htvn, h, tk, gns, u, hB, F, N⟩ := hS
  obtain ⟨hl, hm, hb, hw, hk, hus, hcs, hcb, hvv, hzz, h1, h2, lq, lv, lz, lL⟩ := hd
  obtain ⟨hT, hap, h4, hts, htl, htm, hes, hel, hem, l1, l2, l3, l4, l5, l6, lT⟩ := he
  have htvl := htv.length
  try refine post_K fun K9 hK9 => ?_
  obtain ⟨sc9, hsc9⟩ : ∃ sc, sc = lawS := ⟨_, rfl⟩
  obtain ⟨bd9, hbd9⟩ : ∃ b, b = sg 23 1 := ⟨_, rfl⟩
  unfold aL eL
  rw [← hsc9, ← hbd9]
  delta sg at hbd9
  conv at hsc9 => rhs; whnf
  conv at hbd9 => rhs; whnf
  conv at hbd9 => rhs; arg 2; whnf
  subst hsc9 hbd9
  k_steps
  unfold Hold
  rename IsRange _ _ _ _ _ _ _ _ => hR
  rename News base L _ _ => NR
  rename Fr base L _ _ => FR
  refine LCg.CompSrc.range rfl FR NR hR (small_one (by (first | lia | omega)) (by (first | lia | omega)) (by (first | lia | omega)) (by (first | lia | omega))) (n := (d.b + 1).toNat) (by rw [rangeSize_nat]; (first | lia | omega)) (by show _ ≤ 16777216; (first | lia | omega)) ?_
  intro g
  refine compS (n := (d.b + 1).toNat) (fun i y => ∃ t, y = Value.int ((waysOf d.l d.m d.b).getD i 0) t) ?_ ?_
  · rintro i y I oI C oC D m₂ ys h' tk' E' hii ⟨t', rfl⟩ hC hx F' N' off ne
    have off0 := off
    simp only [LCg.Off3] at off
    k_steps
    unfold Hold
    rename News base L _ _ => NZ
    rename Fr base L _ _ => FZ
    refine LCg.CompEnd.intro FZ NZ _ ?_ off0 trivial ⟨rfl, _, by rw [ways_getD hii]⟩
    walk_at "sub_all"
  · intro ys hyl hys
    have hwl : (waysOf d.l d.m d.b).length = (d.b + 1).toNat := (ways_facts hl hm hb).2.2.2.2
    have hys2 : IntsAre ys (waysOf d.l d.m d.b) := intsOf (by rw [hyl, hwl]) hys
    k_steps
    unfold Hold
    rename News base L _ _ => NZ
    rename Fr base L _ _ => FZ
    rename _ ∧ _ => o1x
    refine named1 NZ ?_
    intro D hD
    subst hD
    obtain ⟨x1, x2, x3, x4, x5, x6, x7, x8, x9, xT⟩ := o1x
    have hapD : Apart e.T (((D, LCg.lst ys) :: (e.tq, listOf tv.toArray nt) :: fixL L d e []) ++ []) := by
      rw [List.append_nil]
      intro p hp
      exact List.forall_mem_cons.mpr ⟨off1_mem xT p hp, List.forall_mem_cons.mpr ⟨hap p hp (e.tq, tabObj #[]) (.tail _ (.head _)), fun r hr => hap p hp r (.tail _ (.tail _ hr))⟩⟩
    obtain ⟨_, hok, hd1, hd2, hd3⟩ := ways_facts hl hm hb
    obtain ⟨g0, g1, g2⟩ := digits_is (N := d.w.toNat) (k := d.b.toNat) (by (first | lia | omega)) hd1 hd2 (by (first | lia | omega))
    have hbw : d.w.toNat * d.b.toNat ≤ d.w.toNat * 11 := Nat.mul_le_mul_left _ (by (first | lia | omega))
    k_dflt (refine' useT (T := e.T) (front := (D, LCg.lst ys) :: (e.tq, listOf tv.toArray nt) :: fixL L d e []) (rest := []) ?u1 ?u2 ?u3 ?u4 ?u5 ?u6 (i2d_T hcI _ _ ?u7 ?u8 _ _ _ _ ?v1 ?v2 ?v3 ?v4) ?ue ?uf ?ug ?_; (case u1 => k_asm); (case u2 => exact FZ); (case u3 => k_asm); (case u4 => exact news_sub NZ (by (simp only [fixL, cellsAt, List.cons_append, List.nil_append, List.append_nil]); walk_at "sub_all")); (case u5 => k_asm); (case u6 => exact hapD); (case u7 => exact hT); (case u8 => exact hapD); (case v1 => exact g0); (case v2 => (first | lia | omega)); (case v3 => (first | lia | omega)); (case v4 => (first | lia | omega)); (case ue => exact rfl); (case uf => ktr_room); (case ug => ktr_units))
    intro v2 T2 new2 h2' tk2 F3 N3 hT2 hg2 ha2 hb2' hl2' hv2
    obtain ⟨dq, us2, hus2⟩ := hv2
    have hwn : ((d.w.toNat : Nat) : Int) = d.w := Int.toNat_of_nonneg (by (first | lia | omega))
    rw [hwn] at g2
    rw [g2] at hus2
    simp only [fixL, cellsAt, List.cons_append, List.nil_append, List.append_nil] at N3 ha2
    k_steps
    refine ⟨rfl, T2, _, hT2, F3, news_sub N3 ?_, hB, rfl⟩
    walk_at "sub_all"
theorem law_parts : lawB = sg 0 8 ++ (sg 8 2 ++ (sg 10 2 ++ (sg 12 1 ++ (sg 13 3 ++ (sg 16 2 ++ (sg 18 1 ++ (sg 19 1 ++ (sg 20 2 ++ (sg 22 1 ++ sg 23 1))))))))) := by delta sg; rfl
theorem body_ok {w : World} {p : Program} {loose : List Str} {mean : ExcName → Option Value} {mg mb : Str → Option Value} {base : Heap} (H : Base w p loose mean mg mb base) (hcI : CodeHd base 51 47) (hcD : CodeHd base 58 54) (L fa : Addr) (cd : Value) (lr : Addr) (vs : List Value) (ns : List Int) (hls : base.IsList lr vs.toArray) (hvs : IntsAre vs ns) (hn : ns.length ≤ 63)
    (s : Shared) (hB : AllB s.gens) (m : Str → Option Value) (hm : m (Str.ofString "script") = some (.ref lr)) (F : Fr base L s.heap m) (o1 o2 o3 o4 : Obj) (hL : @LT.lt Nat instLTNat 54 L ∧ @LT.lt Nat instLTNat 47 L)
    (N : News base L s.heap (cellsAt L o1 o2 o3 o4 tab0)) (d1 : o1.data = .cell none) (d2 : o2.data = .cell none) (d3 : o3.data = .cell none) (d4 : o4.data = .cell none) :
    wpAny (model PySem.Challenge.rw_rl0045_02.row.prog w) (aL L fa cd) (execs lawB (eL L fa cd)) (FinS base L s) (fun _ _ => False) s := by
  rw [law_parts]
  refine seg_join2 (segA H L fa cd lr vs ns hls hvs hn s hB m (fr_kst F (List.forall_mem_cons.mpr ⟨hm, List.forall_mem_nil _⟩)) o1 o2 o3 o4 hL N d1 d2 d3 d4) ?_
  rintro sA ⟨d, hd, hA⟩
  refine seg_join2 (segB H L fa cd s d hd sA hA) fun sB hB => ?_
  refine seg_join2 (segC H L fa cd s d hd sB hB) fun sC hC => ?_
  refine seg_join2 (segD H L fa cd s d hd sC hC) fun sD hD => ?_
  refine seg_join2 (segE H hcI hcD L fa cd s d hd sD hD) fun sE hE => ?_
  refine seg_join2 (segF H hcI hcD L fa cd s d hd sE hE) fun sF hF => ?_
  refine seg_join2 (segG H L fa cd s d hd sF hF) fun sG hG => ?_
  refine seg_join2 (segH H L fa cd s d hd sG hG) fun sH hH => ?_
  refine seg_join2 (segI H L fa cd s d hd sH hH) fun sI hI => ?_
  refine seg_join2 (segJ H L fa cd s d hd sI hI) fun sJ hJ => ?_
  exact segK H hcI L fa cd s d hd sJ hJ
end
section
theorem fresh28 : True := by
  w_top off
  trivial
/-- the law says yes, a table may have grown, a generator may be left -/
noncomputable def EndT (tabs : List (Addr × Addr)) (s₁ : Shared) (r : Result) (s' : Shared) : Prop :=
  r = .ok (.ret (.bool true)) ∧ (∀ b o, (ghostOf s₁.heap tabs).get? b = some o → s'.heap.get? b = some o) ∧ s'.os = s₁.os ∧ GrownAll tabs s'.heap ∧ AllB s'.gens
theorem end_post {M : Model} {A : Around} {cd : Code} {s s₁ : Shared} {cw : ClaimW} {cl : Str → Option Addr} {mean : ExcName → Option Value} {args : List WData} {tabs : List (Addr × Addr)} (hT : TabsAt tabs s₁.heap) (hr : ∀ a x, cw.raises a x = false) (hp : cw.post args (.bool true) args = true)
    (h : codeAny M A cd (EndT tabs s₁) s) : codeAny M A cd (GoodWG cw cl mean args s₁) s :=
  codeAny_mono h fun r s' ⟨hc, hk, hos, hgr, hb⟩ => by
    subst hc
    have grown : ∀ b o, b ∈ tabs.map (·.2) → s₁.heap.get? b = some o → isCodeTable s₁.heap b ∧ o = tabObj #[] ∧ ∃ ps, s'.heap.get? b = some (tabObj ps) := fun b o hb e => by
      obtain ⟨q, hq, rfl⟩ := List.mem_map.mp hb
      have e2 := (hT q hq).2
      rw [e] at e2
      exact ⟨((hT q hq).1.tab (hT q hq).2).isCodeTable, Option.some.inj e2, hgr.get q hq⟩
    refine ⟨.inl ⟨_, .bool true, [], rfl, hr _, .bool _, hp, fun _ => ⟨List.nodup_nil, fun a ha => nomatch ha⟩⟩, ⟨fun b o e => ?_, fun b o e => ?_⟩, hos, hb⟩
    · by_cases hm : b ∈ tabs.map (·.2)
      · obtain ⟨ht, rfl, ps, hP⟩ := grown b o hm e
        exact .inr (.inl ⟨ht, rfl, #[], ps, rfl, by rw [Array.empty_append]; exact hP⟩)
      · exact .inl (hk b o (ghost_ne e hm))
    · by_cases hm : b ∈ tabs.map (·.2)
      · obtain ⟨_, _, ps, hP⟩ := grown b o hm e
        exact ⟨_, hP⟩
      · exact ⟨o, hk b o (ghost_ne e hm)⟩

theorem law_holds : PySem.Challenge.rw_rl0045_02.Holds := by
  refine hd2 ?_
  k_fill
  intro w s₀ s₁ mg mb G Y fa o pm cd doc dV kV ho hd hcd hD hmg hg args vals as hpre hlay hrd hwl hlo
  have KX := km_in_of Y
  km_tabs Y
  have X := (Ground.X G).1
  have V := (Ground.X G).2
  refine Ground.open G ?_
  intro T B D TE TW
  try (refine guard_noD D (by decide +kernel) ?_; clear D)
  km_lay T hmg ho hd cd
  clear hmg
  wrow_args hpre hlay hrd hwl hlo
  all_goals (
    first | refine callC_kw (enter_call ?_) | refine enter_call ?_
    w_top on
    refine end_post hT9 (fun _ _ => rfl) (by first | rfl | with_unfolding_all rfl | kernel_rfl | decide) ?_
    w_call any ho hd hcd hD T F
    clear hd
    kn_ghosts F T
    k_drop
    skip)
  rename Below _ _ _ _ => BB
  rename News _ _ _ _ => N0
  rename IntsAre _ _ => hI0
  rename Fr _ _ _ _ => F0
  rename Top _ _ _ _ _ (ghostOf _ _) => TT
  rename Frag.In _ (ghostOf _ _) => XX
  rename (_ < _ ∧ _ < _) => hL0
  rename Heap.IsList (ghostOf _ _) _ _ => hls0
  refine wpAny_mono (body_ok ⟨XX, TT, BB⟩ ?c1 ?c2 _ _ _ _ _ _ hls0 hI0 ?c4 _ ?c5 _ ?c6 F0 _ _ _ _ hL0 N0 ?d1 ?d2 ?d3 ?d4) (fun f s' hfin => ?_) (fun _ _ q => q.elim)
  (case c1 => assumption)
  (case c2 => assumption)
  (case c4 => (first | lia | omega))
  (case d1 => assumption)
  (case d2 => assumption)
  (case d3 => assumption)
  (case d4 => assumption)
  (case c6 => rfl)
  (case c5 => show AllB s₁.gens; rw [hg]; exact fun x hx => absurd hx (by simp))
  obtain ⟨rfl, T9, m9, hT9', F9, N9, hB9, hos9⟩ := hfin
  refine ⟨rfl, fun b o e => F9.keep b o e, hos9, ?_, hB9⟩
  obtain ⟨TI, TD, rfl, hTI, hTD, _⟩ := hT9'
  refine ⟨?_, ?_, trivial⟩
  · cases hTD with
    | none => exact ⟨_, (N9 _ (List.mem_append.mpr (.inr (.head _)))).1⟩
    | some _ _ _ => exact ⟨_, (N9 _ (List.mem_append.mpr (.inr (.head _)))).1⟩
  · cases hTI with
    | none => exact ⟨_, (N9 _ (List.mem_append.mpr (.inl (.head _)))).1⟩
    | some _ _ _ => exact ⟨_, (N9 _ (List.mem_append.mpr (.inl (.head _)))).1⟩
end
end Mine

theorem PySem.Challenge.cw_rl0045_02_holds : PySem.Challenge.rw_rl0045_02.Holds := by
  exact Mine.law_holds
