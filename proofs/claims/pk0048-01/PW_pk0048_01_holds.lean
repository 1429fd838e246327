import PyProof.Rows.All
import Wide.All
import OpenK.AllK
import Wide.FinOn
import Lean
import PySem.Challenge.RW_pk0048_01
open PySem PySem.W PyProof.Rows
set_option Elab.async false
set_option maxRecDepth 100000
set_option maxHeartbeats 8000000
namespace Mine
open_top hd for PySem.Challenge.rw_pk0048_01

/-- a gate before what is asked of the end: behind it the walk carries a name alone -/
def Gate {α : Type} (Q : α → Shared → Prop) (a : α) (s : Shared) : Prop := Q a s
structure Thru {α : Type} (Q Q' : α → Shared → Prop) : Prop where
  go : ∀ a s, Q a s → Gate Q' a s
theorem Gate.go {α : Type} {Q Q' : α → Shared → Prop} (h : Thru Q Q') {a : α} {s : Shared} (k : Q a s) : Gate Q' a s := h.go a s k
theorem hideQ {α : Type} {M : Model} {A : Around} {t : Sem α} {Q : α → Shared → Prop} {E : Value → Shared → Prop} {s : Shared} (H : ∀ Q', Thru Q Q' → wpAny M A t (Gate Q') E s) : wpAny M A t Q E s := H Q ⟨fun _ _ h => h⟩
theorem hideQE {α : Type} {M : Model} {A : Around} {t : Sem α} {Q : α → Shared → Prop} {E : Value → Shared → Prop} {s : Shared} (H : ∀ Q' E', Thru Q Q' → Thru E E' → wpAny M A t (Gate Q') (Gate E') s) : wpAny M A t Q E s := H Q E ⟨fun _ _ h => h⟩ ⟨fun _ _ h => h⟩
theorem unhide {α : Type} {M : Model} {A : Around} {t : Sem α} {Q Q' : α → Shared → Prop} {E : Value → Shared → Prop} {s : Shared} (h : Thru Q Q') (k : wpAny M A t Q E s) : wpAny M A t (Gate Q') E s := wpAny_mono k h.go (fun _ _ e => e)
theorem room1 {dp a D R : Nat} (h : dp + D < R) (e : Nat.ble a D = true) : dp + a < R := Nat.lt_of_le_of_lt (Nat.add_le_add_left (Nat.le_of_ble_eq_true e) dp) h
theorem room2 {dp a b D R : Nat} (h : dp + D < R) (e : Nat.ble (a + b) D = true) : dp + a + b < R := by rw [Nat.add_assoc]; exact room1 h e
theorem room3 {dp a b c D R : Nat} (h : dp + D < R) (e : Nat.ble (a + b + c) D = true) : dp + a + b + c < R := by rw [Nat.add_assoc, Nat.add_assoc]; exact room1 h (by rw [← Nat.add_assoc]; exact e)
theorem room4 {dp a b c d D R : Nat} (h : dp + D < R) (e : Nat.ble (a + b + c + d) D = true) : dp + a + b + c + d < R := by rw [Nat.add_assoc, Nat.add_assoc, Nat.add_assoc]; exact room1 h (by rw [← Nat.add_assoc, ← Nat.add_assoc]; exact e)
end Mine
open Mine
-- the walker's switch for the top goes back; it keeps its lines by their number alone: a step without lines of one's own makes it read them anew
theorem Mine.flush0 : True ∧ True := by
  w_top off
  first | (walk1; done) | exact ⟨trivial, trivial⟩
local macro_rules | `(tactic| walk_at "my pj") => `(tactic| (first | with_reducible assumption | exact And.left (by with_reducible assumption) | exact And.left (And.right (by with_reducible assumption)) | exact (And.right (by with_reducible assumption)) | exact And.left (And.right (And.right (by with_reducible assumption))) | exact (And.right (And.right (by with_reducible assumption))) | exact And.left (And.right (And.right (And.right (by with_reducible assumption)))) | exact (And.right (And.right (And.right (by with_reducible assumption)))) | exact And.left (And.right (And.right (And.right (And.right (by with_reducible assumption))))) | exact (And.right (And.right (And.right (And.right (by with_reducible assumption))))) | exact And.left (And.right (And.right (And.right (And.right (And.right (by with_reducible assumption)))))) | exact (And.right (And.right (And.right (And.right (And.right (by with_reducible assumption)))))) | exact And.left (And.right (And.right (And.right (And.right (And.right (And.right (by with_reducible assumption))))))) | exact (And.right (And.right (And.right (And.right (And.right (And.right (by with_reducible assumption))))))) | exact And.left (And.right (And.right (And.right (And.right (And.right (And.right (And.right (by with_reducible assumption)))))))) | exact (And.right (And.right (And.right (And.right (And.right (And.right (And.right (by with_reducible assumption)))))))) | exact And.left (And.right (And.right (And.right (And.right (And.right (And.right (And.right (And.right (by with_reducible assumption))))))))) | exact (And.right (And.right (And.right (And.right (And.right (And.right (And.right (And.right (by with_reducible assumption))))))))) | exact And.left (And.right (And.right (And.right (And.right (And.right (And.right (And.right (And.right (And.right (by with_reducible assumption)))))))))) | exact (And.right (And.right (And.right (And.right (And.right (And.right (And.right (And.right (And.right (by with_reducible assumption)))))))))) | exact And.left (And.right (And.right (And.right (And.right (And.right (And.right (And.right (And.right (And.right (And.right (by with_reducible assumption))))))))))) | exact (And.right (And.right (And.right (And.right (And.right (And.right (And.right (And.right (And.right (And.right (by with_reducible assumption))))))))))) | exact And.left (And.right (And.right (And.right (And.right (And.right (And.right (And.right (And.right (And.right (And.right (And.right (by with_reducible assumption)))))))))))) | exact (And.right (And.right (And.right (And.right (And.right (And.right (And.right (And.right (And.right (And.right (And.right (by with_reducible assumption)))))))))))) | exact And.left (And.right (And.right (And.right (And.right (And.right (And.right (And.right (And.right (And.right (And.right (And.right (And.right (by with_reducible assumption))))))))))))) | exact (And.right (And.right (And.right (And.right (And.right (And.right (And.right (And.right (And.right (And.right (And.right (And.right (by with_reducible assumption))))))))))))) | exact And.left (And.right (And.right (And.right (And.right (And.right (And.right (And.right (And.right (And.right (And.right (And.right (And.right (And.right (by with_reducible assumption)))))))))))))) | exact (And.right (And.right (And.right (And.right (And.right (And.right (And.right (And.right (And.right (And.right (And.right (And.right (And.right (by with_reducible assumption)))))))))))))) | exact And.left (And.right (And.right (And.right (And.right (And.right (And.right (And.right (And.right (And.right (And.right (And.right (And.right (And.right (And.right (by with_reducible assumption))))))))))))))) | exact (And.right (And.right (And.right (And.right (And.right (And.right (And.right (And.right (And.right (And.right (And.right (And.right (And.right (And.right (by with_reducible assumption))))))))))))))) | exact And.left (And.right (And.right (And.right (And.right (And.right (And.right (And.right (And.right (And.right (And.right (And.right (And.right (And.right (And.right (And.right (by with_reducible assumption)))))))))))))))) | exact (And.right (And.right (And.right (And.right (And.right (And.right (And.right (And.right (And.right (And.right (And.right (And.right (And.right (And.right (And.right (by with_reducible assumption)))))))))))))))) | exact And.left (And.right (And.right (And.right (And.right (And.right (And.right (And.right (And.right (And.right (And.right (And.right (And.right (And.right (And.right (And.right (And.right (by with_reducible assumption))))))))))))))))) | exact (And.right (And.right (And.right (And.right (And.right (And.right (And.right (And.right (And.right (And.right (And.right (And.right (And.right (And.right (And.right (And.right (by with_reducible assumption))))))))))))))))) | exact And.left (And.right (And.right (And.right (And.right (And.right (And.right (And.right (And.right (And.right (And.right (And.right (And.right (And.right (And.right (And.right (And.right (And.right (by with_reducible assumption)))))))))))))))))) | exact (And.right (And.right (And.right (And.right (And.right (And.right (And.right (And.right (And.right (And.right (And.right (And.right (And.right (And.right (And.right (And.right (And.right (by with_reducible assumption)))))))))))))))))) | exact And.left (And.right (And.right (And.right (And.right (And.right (And.right (And.right (And.right (And.right (And.right (And.right (And.right (And.right (And.right (And.right (And.right (And.right (And.right (by with_reducible assumption))))))))))))))))))) | exact (And.right (And.right (And.right (And.right (And.right (And.right (And.right (And.right (And.right (And.right (And.right (And.right (And.right (And.right (And.right (And.right (And.right (And.right (by with_reducible assumption)))))))))))))))))))))
local macro_rules | `(tactic| k_ne) => `(tactic| (refine neN ?_; (try dsimp only); first | exact Nat.ne_of_gt (by walk_at "my pj") | exact Nat.ne_of_lt (by walk_at "my pj") | walk_at "my pj" | exact Ne.symm (by walk_at "my pj") | omega))
local macro_rules | `(tactic| walk_at "my rm") => `(tactic| first | exact room1 (by with_reducible assumption) (by exact rfl) | exact room2 (by with_reducible assumption) (by exact rfl) | exact room3 (by with_reducible assumption) (by exact rfl) | exact room4 (by with_reducible assumption) (by exact rfl))
local macro_rules | `(tactic| ktr_room) => `(tactic| walk_at "my rm")
local macro_rules | `(tactic| ktr_units) => `(tactic| walk_at "my rm")
local macro_rules | `(tactic| walk_at "Gate") => `(tactic| (refine Gate.go (by with_reducible assumption) ?_; (try dsimp only)))
local macro_rules | `(tactic| walk_at "my use") => `(tactic| ((case k1 => k_asm); (case k2 => k_asm); (case k3 => k_asm); (case k4 => k_asm); (case k5 => k_asm); (case kK => first | exact rfl | assumption); (case kd => ktr_room); (case ku => ktr_units); intro t9 h9 tk9 F9 N9; (try dsimp only); (try k_fold)))
local macro_rules | `(tactic| walk_at "execs cons") => `(tactic| (k_here; dsimp only))
local macro_rules | `(tactic| walk_at "eval BinOp") => `(tactic| (k_here; dsimp only))
local macro_rules | `(tactic| walk_at "storeName") => `(tactic| (k_here; dsimp only))
local macro_rules | `(tactic| walk_at "newList") => `(tactic| (k_here; dsimp only))
local macro_rules | `(tactic| k_lt $h:ident) => `(tactic| (replace $h := allLt_of $h; dsimp only [AllLt] at $h:ident))
section
namespace Mine
theorem fillme : PySem.Challenge.rw_pk0048_01 = PySem.Challenge.rw_pk0048_01 ∧ hd.heap_39 = hd.heap_39 := by
  k_fill
  exact ⟨rfl, rfl⟩

/-- what a call of the function at `f` does: from a ledger `news` it ends in a value and a ledger that `Post` tells -/
def Calls (prog : Program) (w : World) (p : Program) (loose : List Str) (mean : ExcName → Option Value) (mg mb : Str → Option Value)
    (f : Addr) (d u : Nat) (news : List (Addr × Obj)) (vs : List Value) (kw : List (Str × Value)) (Post : Value → List (Addr × Obj) → Prop) : Prop :=
  ∀ (dp un : Nat) (gd : Option (List Code)) (cn : Str) (cs : Scope) (a : Addr) (ccd : Value) (cl : List (Str × Addr)) (outer : List Env) (A₀ : Around) (base h₀ : Heap) (L : Addr) (m : Str → Option Value) (s : Shared) (Q E : Value → Shared → Prop),
    Below A₀ base outer h₀ → Fr h₀ L s.heap m → (hd.heap_39 w.params).In h₀ → News h₀ L s.heap news → Top p loose mean mg mb h₀ → cs.kind = .function → dp + d < recursionLimit → un + u < cLine →
    (∀ v news' h' tk', Fr h₀ L h' m → News h₀ L h' news' → Post v news' → Q v { s with heap := h', toks := tk' }) →
    wpAny (model prog w) (ktrTop dp un gd cn cs L a ccd cl outer) (call (.ref f) vs kw) Q E s

section
variable {prog : Program} {w : World} {p : Program} {loose : List Str} {mean : ExcName → Option Value} {mg mb : Str → Option Value} {f : Addr} {d u : Nat} {news : List (Addr × Obj)} {vs : List Value} {kw : List (Str × Value)}

/-- a call that leaves the ledger as it is, and hands back a value told up to its token -/
theorem Calls.use {V : Tok → Value} (C : Calls prog w p loose mean mg mb f d u news vs kw (fun v nw => nw = news ∧ ∃ t, v = V t))
    {dp un : Nat} {gd : Option (List Code)} {cn : Str} {cs : Scope} {a : Addr} {ccd : Value} {cl : List (Str × Addr)} {outer : List Env} {A₀ : Around} {base h₀ : Heap} {L : Addr} {m : Str → Option Value} {s : Shared} {Q E : Value → Shared → Prop}
    (B : Below A₀ base outer h₀) (F : Fr h₀ L s.heap m) (X : (hd.heap_39 w.params).In h₀) (N : News h₀ L s.heap news) (T : Top p loose mean mg mb h₀) (hk : cs.kind = .function) (hd : dp + d < recursionLimit) (hu : un + u < cLine)
    (ret : ∀ t h' tk', Fr h₀ L h' m → News h₀ L h' news → Q (V t) { s with heap := h', toks := tk' }) :
    wpAny (model prog w) (ktrTop dp un gd cn cs L a ccd cl outer) (call (.ref f) vs kw) Q E s :=
  C _ _ _ _ _ _ _ _ _ _ _ _ _ _ _ _ _ B F X N T hk hd hu (fun v nw h' tk' F' N' ⟨e1, t, e2⟩ => by subst e1; subst e2; exact ret t h' tk' F' N')
end

section
variable {prog : Program} {w : World} {p : Program} {loose : List Str} {mean : ExcName → Option Value} {mg mb : Str → Option Value} {f : Addr} {d u : Nat} {news : List (Addr × Obj)} {vs : List Value} {kw : List (Str × Value)}
theorem ret1 {V : Tok → Value} {h₀ : Heap} {L : Addr} {m : Str → Option Value} {s : Shared} {Q : Value → Shared → Prop}
    (hret : ∀ v news' h' tk', Fr h₀ L h' m → News h₀ L h' news' → (fun (v : Value) nw => nw = news ∧ ∃ t : Tok, v = V t) v news' → Q v { s with heap := h', toks := tk' })
    {v : Value} {h' : Heap} {tk' : Nat} (t : Tok) (hv : v = V t) (F : Fr h₀ L h' m) (N : News h₀ L h' news) : Q v { s with heap := h', toks := tk' } :=
  hret _ _ _ _ F N ⟨rfl, t, hv⟩
end

section
variable {prog : Program} {w : World} {p : Program} {loose : List Str} {mean : ExcName → Option Value} {mg mb : Str → Option Value} {news : List (Addr × Obj)}
theorem ctoi_int {i : Int} {t : Tok} : Calls prog w p loose mean mg mb 39 1 8 news [.int i t] [] (fun v nw => nw = news ∧ ∃ _ : Tok, v = .int i t) := by
  intro dp un gd cn cs a ccd cl outer A₀ base h₀ L m s Q E B F X N T hk hd hu hret
  (refine wpAny_call ?_; k_dflt cell_enter; k_steps)
  all_goals exact ret1 hret 0 rfl (by k_asm) (by k_asm)
theorem ctoi_str {c : Nat} {t : Tok} : Calls prog w p loose mean mg mb 39 1 8 news [.str ⟨#[c]⟩ t] [] (fun v nw => nw = news ∧ ∃ t : Tok, v = .int c t) := by
  intro dp un gd cn cs a ccd cl outer A₀ base h₀ L m s Q E B F X N T hk hd hu hret
  (refine wpAny_call ?_; k_dflt cell_enter; k_steps)
  all_goals exact ret1 hret _ rfl (by k_asm) (by k_asm)
end
local macro_rules | `(tactic| walk_at "call ref") => `(tactic| (k_here; k_dflt (refine' Calls.use ctoi_int ?k1 ?k2 ?k3 ?k4 ?k5 ?kK ?kd ?ku ?_; walk_at "my use")))
local macro_rules | `(tactic| walk_at "call ref") => `(tactic| (k_here; k_dflt (refine' Calls.use ctoi_str ?k1 ?k2 ?k3 ?k4 ?k5 ?kK ?kd ?ku ?_; walk_at "my use")))
section
variable {prog : Program} {w : World} {p : Program} {loose : List Str} {mean : ExcName → Option Value} {mg mb : Str → Option Value} {news : List (Addr × Obj)}
theorem isascii_int {i : Int} {t : Tok} : Calls prog w p loose mean mg mb 46 2 16 news [.int i t] [] (fun v nw => nw = news ∧ ∃ _ : Tok, v = .bool (decide (0 ≤ i ∧ i ≤ 127))) := by
  intro dp un gd cn cs a ccd cl outer A₀ base h₀ L m s Q E B F X N T hk hd hu hret
  (refine wpAny_call ?_; k_dflt cell_enter; k_steps)
  all_goals exact ret1 hret 0 (by first | rfl | (congr 1; rw [Bool.eq_iff_iff, decide_eq_true_eq, decide_eq_true_eq]; omega)) (by k_asm) (by k_asm)
theorem isascii_str {i : Nat} {t : Tok} : Calls prog w p loose mean mg mb 46 2 16 news [.str ⟨#[i]⟩ t] [] (fun v nw => nw = news ∧ ∃ _ : Tok, v = .bool (decide (0 ≤ (i : Int) ∧ (i : Int) ≤ 127))) := by
  intro dp un gd cn cs a ccd cl outer A₀ base h₀ L m s Q E B F X N T hk hd hu hret
  (refine wpAny_call ?_; k_dflt cell_enter; k_steps)
  all_goals exact ret1 hret 0 (by first | rfl | (congr 1; rw [Bool.eq_iff_iff, decide_eq_true_eq, decide_eq_true_eq]; omega)) (by k_asm) (by k_asm)
theorem isctrl_int {i : Int} {t : Tok} : Calls prog w p loose mean mg mb 53 2 16 news [.int i t] [] (fun v nw => nw = news ∧ ∃ _ : Tok, v = .bool (decide (0 ≤ i ∧ i < 32))) := by
  intro dp un gd cn cs a ccd cl outer A₀ base h₀ L m s Q E B F X N T hk hd hu hret
  (refine wpAny_call ?_; k_dflt cell_enter; k_steps)
  all_goals exact ret1 hret 0 (by first | rfl | (congr 1; rw [Bool.eq_iff_iff, decide_eq_true_eq, decide_eq_true_eq]; omega)) (by k_asm) (by k_asm)
theorem isctrl_str {i : Nat} {t : Tok} : Calls prog w p loose mean mg mb 53 2 16 news [.str ⟨#[i]⟩ t] [] (fun v nw => nw = news ∧ ∃ _ : Tok, v = .bool (decide (0 ≤ (i : Int) ∧ (i : Int) < 32))) := by
  intro dp un gd cn cs a ccd cl outer A₀ base h₀ L m s Q E B F X N T hk hd hu hret
  (refine wpAny_call ?_; k_dflt cell_enter; k_steps)
  all_goals exact ret1 hret 0 (by first | rfl | (congr 1; rw [Bool.eq_iff_iff, decide_eq_true_eq, decide_eq_true_eq]; omega)) (by k_asm) (by k_asm)
theorem ismeta_int {i : Int} {t : Tok} : Calls prog w p loose mean mg mb 60 2 16 news [.int i t] [] (fun v nw => nw = news ∧ ∃ _ : Tok, v = .bool (decide (127 < i))) := by
  intro dp un gd cn cs a ccd cl outer A₀ base h₀ L m s Q E B F X N T hk hd hu hret
  (refine wpAny_call ?_; k_dflt cell_enter; k_steps)
  all_goals exact ret1 hret 0 (by first | rfl | (congr 1; rw [Bool.eq_iff_iff, decide_eq_true_eq, decide_eq_true_eq]; omega)) (by k_asm) (by k_asm)
theorem ismeta_str {i : Nat} {t : Tok} : Calls prog w p loose mean mg mb 60 2 16 news [.str ⟨#[i]⟩ t] [] (fun v nw => nw = news ∧ ∃ _ : Tok, v = .bool (decide (127 < (i : Int)))) := by
  intro dp un gd cn cs a ccd cl outer A₀ base h₀ L m s Q E B F X N T hk hd hu hret
  (refine wpAny_call ?_; k_dflt cell_enter; k_steps)
  all_goals exact ret1 hret 0 (by first | rfl | (congr 1; rw [Bool.eq_iff_iff, decide_eq_true_eq, decide_eq_true_eq]; omega)) (by k_asm) (by k_asm)
end
theorem or128 (i : Int) : Builtin.bitOr i 128 = i / 256 * 256 + 128 + i % 128 := by
  have h := kbt_bit i 7
  have e : (2 : Int) ^ 7 = 128 := by decide
  rw [e] at h
  rw [bitOr_and, h]
  omega
theorem and31 (i : Nat) : Builtin.bitAnd (i : Int) 31 = ((i % 32 : Nat) : Int) := by rw [bitAnd_m5]; omega
theorem or128n (i : Nat) : Builtin.bitOr (i : Int) 128 = ((i / 256 * 256 + 128 + i % 128 : Nat) : Int) := by rw [or128]; omega
section
variable {prog : Program} {w : World} {p : Program} {loose : List Str} {mean : ExcName → Option Value} {mg mb : Str → Option Value} {news : List (Addr × Obj)}
theorem ctrl_int {i : Int} {t : Tok} : Calls prog w p loose mean mg mb 67 2 16 news [.int i t] [] (fun v nw => nw = news ∧ ∃ t : Tok, v = .int (i % 32) t) := by
  intro dp un gd cn cs a ccd cl outer A₀ base h₀ L m s Q E B F X N T hk hd hu hret
  (refine wpAny_call ?_; k_dflt cell_enter; k_steps)
  all_goals exact ret1 hret _ (by rw [bitAnd_m5]) (by k_asm) (by k_asm)
theorem alt_int {i : Int} {t : Tok} : Calls prog w p loose mean mg mb 74 2 16 news [.int i t] [] (fun v nw => nw = news ∧ ∃ t : Tok, v = .int (i / 256 * 256 + 128 + i % 128) t) := by
  intro dp un gd cn cs a ccd cl outer A₀ base h₀ L m s Q E B F X N T hk hd hu hret
  (refine wpAny_call ?_; k_dflt cell_enter; k_steps)
  all_goals exact ret1 hret _ (by rw [or128]) (by k_asm) (by k_asm)
theorem ctrl_str {i : Nat} {t : Tok} : Calls prog w p loose mean mg mb 67 2 16 news [.str ⟨#[i]⟩ t] [] (fun v nw => nw = news ∧ ∃ t : Tok, v = .str ⟨#[i % 32]⟩ t) := by
  intro dp un gd cn cs a ccd cl outer A₀ base h₀ L m s Q E B F X N T hk hd hu hret
  (refine wpAny_call ?_; k_dflt cell_enter; k_steps)
  rw [and31]
  refine chr_of_range (by omega) (by omega) ?_
  k_steps
  all_goals exact ret1 hret _ rfl (by k_asm) (by k_asm)
theorem alt_str {i : Nat} {t : Tok} (hi : i < 4096) : Calls prog w p loose mean mg mb 74 2 16 news [.str ⟨#[i]⟩ t] [] (fun v nw => nw = news ∧ ∃ t : Tok, v = .str ⟨#[i / 256 * 256 + 128 + i % 128]⟩ t) := by
  intro dp un gd cn cs a ccd cl outer A₀ base h₀ L m s Q E B F X N T hk hd hu hret
  (refine wpAny_call ?_; k_dflt cell_enter; k_steps)
  rw [or128n]
  refine chr_of_range (by omega) (by omega) ?_
  k_steps
  all_goals exact ret1 hret _ rfl (by k_asm) (by k_asm)
end
end Mine
end
theorem Mine.flushC1 : True ∧ True := by
  w_top off
  first | (walk1; done) | exact ⟨trivial, trivial⟩
section
namespace Mine
local macro_rules | `(tactic| walk_at "call ref") => `(tactic| (k_here; k_dflt (refine' Calls.use isascii_int ?k1 ?k2 ?k3 ?k4 ?k5 ?kK ?kd ?ku ?_; walk_at "my use")))
local macro_rules | `(tactic| walk_at "call ref") => `(tactic| (k_here; k_dflt (refine' Calls.use isctrl_int ?k1 ?k2 ?k3 ?k4 ?k5 ?kK ?kd ?ku ?_; walk_at "my use")))
local macro_rules | `(tactic| walk_at "call ref") => `(tactic| (k_here; k_dflt (refine' Calls.use ismeta_int ?k1 ?k2 ?k3 ?k4 ?k5 ?kK ?kd ?ku ?_; walk_at "my use")))
local macro_rules | `(tactic| walk_at "call ref") => `(tactic| (k_here; k_dflt (refine' Calls.use ctrl_int ?k1 ?k2 ?k3 ?k4 ?k5 ?kK ?kd ?ku ?_; walk_at "my use")))
local macro_rules | `(tactic| walk_at "call ref") => `(tactic| (k_here; k_dflt (refine' Calls.use alt_int ?k1 ?k2 ?k3 ?k4 ?k5 ?kK ?kd ?ku ?_; walk_at "my use")))
local macro_rules | `(tactic| walk_at "call ref") => `(tactic| (k_here; k_dflt (refine' Calls.use isascii_str ?k1 ?k2 ?k3 ?k4 ?k5 ?kK ?kd ?ku ?_; walk_at "my use")))
local macro_rules | `(tactic| walk_at "call ref") => `(tactic| (k_here; k_dflt (refine' Calls.use isctrl_str ?k1 ?k2 ?k3 ?k4 ?k5 ?kK ?kd ?ku ?_; walk_at "my use")))
local macro_rules | `(tactic| walk_at "call ref") => `(tactic| (k_here; k_dflt (refine' Calls.use ismeta_str ?k1 ?k2 ?k3 ?k4 ?k5 ?kK ?kd ?ku ?_; walk_at "my use")))
local macro_rules | `(tactic| walk_at "call ref") => `(tactic| (k_here; k_dflt (refine' Calls.use ctrl_str ?k1 ?k2 ?k3 ?k4 ?k5 ?kK ?kd ?ku ?_; walk_at "my use")))
local macro_rules | `(tactic| walk_at "call ref") => `(tactic| (k_here; k_dflt (refine' Calls.use (alt_str (by assumption)) ?k1 ?k2 ?k3 ?k4 ?k5 ?kK ?kd ?ku ?_; walk_at "my use")))
local macro_rules | `(tactic| k_all) => `(tactic| assumption)
/-- the walk stops here -/
def Stop (P : Prop) : Prop := P
theorem Stop.go {P : Prop} (h : Stop P) : P := h
theorem Stop.out {P : Prop} (h : P) : Stop P := h
local macro_rules | `(tactic| walk_at "subscriptTail Name Constant ref int") => `(tactic| (k_here; k_dflt (refine item_litK (News.isList (by k_asm) (by k_mem)) (by decide) (by decide) (by exact rfl) ?_)))
local macro_rules | `(tactic| walk_at "eval IfExp") => `(tactic| (refine Stop.go ?_))
/-- an int, and the state as it was up to the heap's and the tokens' numbers -/
def AtV (V : Int) (s : Shared) (h₀ : Heap) (L : Addr) (m : Str → Option Value) (news : List (Addr × Obj)) (v : Value) (s' : Shared) : Prop :=
  ∃ tk h' n, v = .int V tk ∧ s' = { s with heap := h', toks := n } ∧ Fr h₀ L h' m ∧ News h₀ L h' news
theorem atV_fin {V x : Int} {s : Shared} {h₀ h' : Heap} {L : Addr} {m : Str → Option Value} {news : List (Addr × Obj)} {tk : Tok} {n : Nat} (e : x = V) (F : Fr h₀ L h' m) (N : News h₀ L h' news) :
    AtV V s h₀ L m news (.int x tk) { s with heap := h', toks := n } := ⟨tk, h', n, by rw [e], rfl, F, N⟩
theorem ifCut {M : Model} {A : Around} {test body orelse : PySem.Expr} {pos : Pos} {env : Env} {Q : Value → Shared → Prop} {E : Value → Shared → Prop} {s : Shared} {h₀ : Heap} {L : Addr} {m : Str → Option Value} {news : List (Addr × Obj)} (V : Int)
    (F : Fr h₀ L s.heap m) (N : News h₀ L s.heap news)
    (h : wpAny M A (isTrue test env (eval test env)) (fun c s₂ => if c then wpAny M A (eval body env) (AtV V s h₀ L m news) E s₂ else wpAny M A (eval orelse env) (AtV V s h₀ L m news) E s₂) E s)
    (k : ∀ tk h' n, Fr h₀ L h' m → News h₀ L h' news → Q (.int V tk) { s with heap := h', toks := n }) : wpAny M A (eval (.IfExp test body orelse pos) env) Q E s :=
  wpAny_mono (IfExp_ h) (fun v s' ⟨tk, h', n, e1, e2, F', N'⟩ => by subst e1; subst e2; exact k tk h' n F' N') (fun _ _ x => x)
/-- what a code costs -/
def costOf (P0 P1 P2 P3 P4 c : Int) : Int := P0 * (c % 32) + P1 * (c / 256 * 256 + 128 + c % 128) + (if 127 < c then P2 + P4 else 0) + (if 31 < c then P3 else 0)
abbrev tupOf (vs : List Value) : Obj := { cls := .type "tuple", data := .seq vs.toArray }
section
variable {prog : Program} {w : World} {p : Program} {loose : List Str} {mean : ExcName → Option Value} {mg mb : Str → Option Value}

abbrev prL (P0 P1 P2 P3 P4 : Int) (t0 t1 t2 t3 t4 : Tok) (n : Nat) : Obj := listOf #[.int P0 t0, .int P1 t1, .int P2 t2, .int P3 t3, .int P4 t4] n
theorem asked_fin {s : Shared} {Q : Value → Shared → Prop} {h₀ h' : Heap} {L : Addr} {m : Str → Option Value} {P0 P1 P2 P3 P4 c y : Int} {x nt pr : Addr} {its : Array Value} {n n1 : Nat} {t0 t1 t2 t3 t4 tk : Tok} {tk' : Nat} {th : Value} {rest nw : List (Addr × Obj)}
    (hret : ∀ v news' h' tk', Fr h₀ L h' m → News h₀ L h' news' → (fun (v : Value) nw => ∃ x tk, v = .int (costOf P0 P1 P2 P3 P4 c) tk ∧ nw = (x, tupOf [th, .int (costOf P0 P1 P2 P3 P4 c) tk]) :: (nt, listOf (its.push (.ref x)) (n + 1)) :: (pr, prL P0 P1 P2 P3 P4 t0 t1 t2 t3 t4 n1) :: rest) v news' → Q v { s with heap := h', toks := tk' })
    (F : Fr h₀ L h' m) (N : News h₀ L h' nw) (hs : ∀ p ∈ (x, tupOf [th, .int y tk]) :: (nt, listOf (its.push (.ref x)) (n + 1)) :: (pr, prL P0 P1 P2 P3 P4 t0 t1 t2 t3 t4 n1) :: rest, p ∈ nw) (e : y = costOf P0 P1 P2 P3 P4 c) :
    Q (.int y tk) { s with heap := h', toks := tk' } := by
  subst e
  exact hret _ _ _ _ F (cb_drop N hs) ⟨x, tk, rfl, rfl⟩
theorem ite_sum {p : Prop} [Decidable p] (a b : Int) : (if p then a + b else 0) = (if p then a else 0) + (if p then b else 0) := by split <;> rfl
theorem askedVal (P0 P1 P2 P3 P4 : Int) {c : Int} : P0 * (c % 32) + P1 * (c / 256 * 256 + 128 + c % 128) + (if 127 < c then P2 else 0) + (if 31 < c then P3 else 0) + (if 127 < c then P4 else 0) = costOf P0 P1 P2 P3 P4 c := by
  unfold costOf
  rw [ite_sum]
  generalize P0 * (c % 32) = x1
  generalize P1 * (c / 256 * 256 + 128 + c % 128) = x2
  generalize (if 127 < c then P2 else 0) = x3
  generalize (if 31 < c then P3 else 0) = x4
  generalize (if 127 < c then P4 else 0) = x5
  omega
theorem asked_int {nt pr : Addr} {its : Array Value} {n n1 : Nat} {rest : List (Addr × Obj)} {P0 P1 P2 P3 P4 c : Int} {t0 t1 t2 t3 t4 t : Tok}
    (hne : @Ne Nat pr nt) (hr : ∀ p ∈ rest, p.1 ≠ nt) (hn : its.size ≤ 100) (h0 : 0 ≤ c) (h1 : c < 4096) (b0 : 0 ≤ P0 ∧ P0 < 100) (b1 : 0 ≤ P1 ∧ P1 < 100) :
    Calls prog w p loose mean mg mb 86 3 24 ((nt, listOf its n) :: (pr, prL P0 P1 P2 P3 P4 t0 t1 t2 t3 t4 n1) :: rest) [.int c t, .ref pr, .ref nt] []
      (fun v nw => ∃ x tk, v = .int (costOf P0 P1 P2 P3 P4 c) tk ∧ nw = (x, tupOf [.int c t, .int (costOf P0 P1 P2 P3 P4 c) tk]) :: (nt, listOf (its.push (.ref x)) (n + 1)) :: (pr, prL P0 P1 P2 P3 P4 t0 t1 t2 t3 t4 n1) :: rest) := by
  intro dp un gd cn cs a ccd cl outer A₀ base h₀ L m s Q E B F X N T hk hd hu hret
  (refine wpAny_call ?_; k_dflt cell_enter; k_steps)
  refine Stop.out (ifCut (if 127 < c then P2 else 0) (by k_asm) (by k_asm) ?_ ?_)
  · k_steps
    all_goals exact atV_fin (by first | exact (if_pos (by omega)).symm | exact (if_neg (by omega)).symm) (by k_asm) (by k_asm)
  intro tk1 hh1 n1' F1 N1
  dsimp only
  k_steps
  refine Stop.out (ifCut (if 31 < c then P3 else 0) (by k_asm) (by k_asm) ?_ ?_)
  · k_steps
    all_goals exact atV_fin (by first | exact (if_pos (by omega)).symm | exact (if_neg (by omega)).symm) (by k_asm) (by k_asm)
  intro tk2 hh2 n2' F2 N2
  dsimp only
  k_steps
  refine Stop.out (ifCut (if 127 < c then P4 else 0) (by k_asm) (by k_asm) ?_ ?_)
  · k_steps
    all_goals exact atV_fin (by first | exact (if_pos (by omega)).symm | exact (if_neg (by omega)).symm) (by k_asm) (by k_asm)
  intro tk3 hh3 n3' F3 N3
  dsimp only
  k_steps
  all_goals refine asked_fin hret (by k_asm) (by k_asm) (by kcf_all) ?_
  all_goals exact askedVal _ _ _ _ _
theorem asked_str {nt pr : Addr} {its : Array Value} {n n1 : Nat} {rest : List (Addr × Obj)} {P0 P1 P2 P3 P4 : Int} {c : Nat} {t0 t1 t2 t3 t4 t : Tok}
    (hne : @Ne Nat pr nt) (hr : ∀ p ∈ rest, p.1 ≠ nt) (hn : its.size ≤ 100) (h1 : c < 4096) (b0 : 0 ≤ P0 ∧ P0 < 100) (b1 : 0 ≤ P1 ∧ P1 < 100) :
    Calls prog w p loose mean mg mb 86 3 24 ((nt, listOf its n) :: (pr, prL P0 P1 P2 P3 P4 t0 t1 t2 t3 t4 n1) :: rest) [.str ⟨#[c]⟩ t, .ref pr, .ref nt] []
      (fun v nw => ∃ x tk, v = .int (costOf P0 P1 P2 P3 P4 c) tk ∧ nw = (x, tupOf [.str ⟨#[c]⟩ t, .int (costOf P0 P1 P2 P3 P4 c) tk]) :: (nt, listOf (its.push (.ref x)) (n + 1)) :: (pr, prL P0 P1 P2 P3 P4 t0 t1 t2 t3 t4 n1) :: rest) := by
  intro dp un gd cn cs a ccd cl outer A₀ base h₀ L m s Q E B F X N T hk hd hu hret
  (refine wpAny_call ?_; k_dflt cell_enter; k_steps)
  refine Stop.out (ifCut (if 127 < (c : Int) then P2 else 0) (by k_asm) (by k_asm) ?_ ?_)
  · k_steps
    all_goals exact atV_fin (by first | exact (if_pos (by omega)).symm | exact (if_neg (by omega)).symm) (by k_asm) (by k_asm)
  intro tk1 hh1 n1' F1 N1
  dsimp only
  k_steps
  refine Stop.out (ifCut (if 31 < (c : Int) then P3 else 0) (by k_asm) (by k_asm) ?_ ?_)
  · k_steps
    all_goals exact atV_fin (by first | exact (if_pos (by omega)).symm | exact (if_neg (by omega)).symm) (by k_asm) (by k_asm)
  intro tk2 hh2 n2' F2 N2
  dsimp only
  k_steps
  refine Stop.out (ifCut (if 127 < (c : Int) then P4 else 0) (by k_asm) (by k_asm) ?_ ?_)
  · k_steps
    all_goals exact atV_fin (by first | exact (if_pos (by omega)).symm | exact (if_neg (by omega)).symm) (by k_asm) (by k_asm)
  intro tk3 hh3 n3' F3 N3
  dsimp only
  k_steps
  all_goals refine asked_fin hret (by k_asm) (by k_asm) (by kcf_all) ?_
  all_goals
    rw [show ((c % 32 : Nat) : Int) = (c : Int) % 32 from by omega, show ((c / 256 * 256 + 128 + c % 128 : Nat) : Int) = (c : Int) / 256 * 256 + 128 + (c : Int) % 128 from by omega]
    exact askedVal _ _ _ _ _
theorem cost_fin {s : Shared} {Q : Value → Shared → Prop} {h₀ h' : Heap} {L : Addr} {m : Str → Option Value} {P0 P1 P2 P3 P4 c y : Int} {tk : Tok} {tk' : Nat} {news : List (Addr × Obj)}
    (hret : ∀ v news' h' tk', Fr h₀ L h' m → News h₀ L h' news' → (fun (v : Value) nw => nw = news ∧ ∃ tk : Tok, v = .int (costOf P0 P1 P2 P3 P4 c) tk) v news' → Q v { s with heap := h', toks := tk' })
    (F : Fr h₀ L h' m) (N : News h₀ L h' news) (e : y = costOf P0 P1 P2 P3 P4 c) :
    Q (.int y tk) { s with heap := h', toks := tk' } := by
  subst e
  exact hret _ _ _ _ F N ⟨rfl, tk, rfl⟩
theorem cost_int {pr : Addr} {n1 : Nat} {rest : List (Addr × Obj)} {P0 P1 P2 P3 P4 c : Int} {t0 t1 t2 t3 t4 t : Tok}
    (h0 : 0 ≤ c) (h1 : c < 4096) (b0 : 0 ≤ P0 ∧ P0 < 100) (b1 : 0 ≤ P1 ∧ P1 < 100) :
    Calls prog w p loose mean mg mb 93 1 8 ((pr, prL P0 P1 P2 P3 P4 t0 t1 t2 t3 t4 n1) :: rest) [.int c t, .ref pr] []
      (fun v nw => nw = ((pr, prL P0 P1 P2 P3 P4 t0 t1 t2 t3 t4 n1) :: rest) ∧ ∃ tk : Tok, v = .int (costOf P0 P1 P2 P3 P4 c) tk) := by
  intro dp un gd cn cs a ccd cl outer A₀ base h₀ L m s Q E B F X N T hk hd hu hret
  (refine wpAny_call ?_; k_dflt cell_enter; k_steps)
  refine Stop.out (ifCut (if 127 < c then P2 + P4 else 0) (by k_asm) (by k_asm) ?_ ?_)
  · k_steps
    all_goals exact atV_fin (by first | exact (if_pos (by omega)).symm | exact (if_neg (by omega)).symm) (by k_asm) (by k_asm)
  intro tk1 hh1 n1' F1 N1
  dsimp only
  k_steps
  refine Stop.out (ifCut (if 31 < c then P3 else 0) (by k_asm) (by k_asm) ?_ ?_)
  · k_steps
    all_goals exact atV_fin (by first | exact (if_pos (by omega)).symm | exact (if_neg (by omega)).symm) (by k_asm) (by k_asm)
  intro tk2 hh2 n2' F2 N2
  dsimp only
  k_steps
  all_goals refine cost_fin hret (by k_asm) (by k_asm) ?_
  all_goals
    simp only [Int.fmod_eq_emod_of_nonneg _ (show (0 : Int) ≤ 32 by decide), Int.fmod_eq_emod_of_nonneg _ (show (0 : Int) ≤ 128 by decide), Int.fdiv_eq_ediv_of_nonneg _ (show (0 : Int) ≤ 256 by decide)]
    rfl
/-- a code as a number, or as a sign -/
def Thing (v : Value) (c : Int) : Prop := (∃ t, v = .int c t) ∨ (∃ t, v = .str ⟨#[c.toNat]⟩ t)
theorem asked_any {nt pr : Addr} {its : Array Value} {n n1 : Nat} {rest : List (Addr × Obj)} {P0 P1 P2 P3 P4 c : Int} {t0 t1 t2 t3 t4 : Tok} {th : Value} (hth : Thing th c)
    (hne : @Ne Nat pr nt) (hr : ∀ p ∈ rest, p.1 ≠ nt) (hn : its.size ≤ 100) (h0 : 0 ≤ c) (h1 : c < 4096) (b0 : 0 ≤ P0 ∧ P0 < 100) (b1 : 0 ≤ P1 ∧ P1 < 100) :
    Calls prog w p loose mean mg mb 86 3 24 ((nt, listOf its n) :: (pr, prL P0 P1 P2 P3 P4 t0 t1 t2 t3 t4 n1) :: rest) [th, .ref pr, .ref nt] []
      (fun v nw => ∃ x tk, v = .int (costOf P0 P1 P2 P3 P4 c) tk ∧ nw = (x, tupOf [th, .int (costOf P0 P1 P2 P3 P4 c) tk]) :: (nt, listOf (its.push (.ref x)) (n + 1)) :: (pr, prL P0 P1 P2 P3 P4 t0 t1 t2 t3 t4 n1) :: rest) := by
  rcases hth with ⟨t, rfl⟩ | ⟨t, rfl⟩
  · exact asked_int hne hr hn h0 h1 b0 b1
  · have e : ((c.toNat : Nat) : Int) = c := Int.toNat_of_nonneg h0
    have := asked_str (prog := prog) (w := w) (p := p) (loose := loose) (mean := mean) (mg := mg) (mb := mb) (c := c.toNat) (P0 := P0) (P1 := P1) (P2 := P2) (P3 := P3) (P4 := P4) (t0 := t0) (t1 := t1) (t2 := t2) (t3 := t3) (t4 := t4) (t := t) (n := n) (n1 := n1) hne hr hn (by omega) b0 b1
    rw [e] at this
    exact this
end
end Mine
end
theorem Mine.flushC2 : True ∧ True := by
  w_top off
  first | (walk1; done) | exact ⟨trivial, trivial⟩
section
namespace Mine
/-- halving: the place, and the spots asked on the way -/
def bisF (g : Nat → Bool) : Nat → Nat → Nat → Nat × List Nat
  | 0, lo, _ => (lo, [])
  | n + 1, lo, hi => if lo < hi then (if g ((lo + hi) / 2) = true then ((bisF g n ((lo + hi) / 2 + 1) hi).1, (lo + hi) / 2 :: (bisF g n ((lo + hi) / 2 + 1) hi).2)
    else ((bisF g n lo ((lo + hi) / 2)).1, (lo + hi) / 2 :: (bisF g n lo ((lo + hi) / 2)).2)) else (lo, [])
def bis (g : Nat → Bool) (lo hi : Nat) : Nat × List Nat := bisF g (hi - lo) lo hi
theorem midLo {lo hi : Nat} (h : lo < hi) : lo ≤ (lo + hi) / 2 := by omega
theorem midHi {lo hi : Nat} (h : lo < hi) : (lo + hi) / 2 < hi := by omega
theorem mid1 {n lo hi : Nat} (hl : lo < hi) (h : hi ≤ n + 1 + lo) : hi ≤ n + ((lo + hi) / 2 + 1) := by
  have := midLo hl
  generalize (lo + hi) / 2 = m at *
  omega
theorem mid2 {n lo hi : Nat} (hl : lo < hi) (h : hi ≤ n + 1 + lo) : (lo + hi) / 2 ≤ n + lo := by
  have := midHi hl
  generalize (lo + hi) / 2 = m at *
  omega
theorem bisF_fuel (g : Nat → Bool) : ∀ n m lo hi : Nat, hi ≤ n + lo → hi ≤ m + lo → bisF g n lo hi = bisF g m lo hi := by
  intro n
  induction n with
  | zero =>
    intro m lo hi h _
    cases m with
    | zero => rfl
    | succ m => rw [bisF, bisF, if_neg (Nat.not_lt.mpr (by rw [Nat.zero_add] at h; exact h))]
  | succ n ih =>
    intro m lo hi h1 h2
    cases m with
    | zero => rw [bisF, bisF, if_neg (Nat.not_lt.mpr (by rw [Nat.zero_add] at h2; exact h2))]
    | succ m =>
      rw [bisF, bisF]
      by_cases hl : lo < hi
      · rw [if_pos hl, if_pos hl, ih m _ _ (mid1 hl h1) (mid1 hl h2), ih m _ _ (mid2 hl h1) (mid2 hl h2)]
      · rw [if_neg hl, if_neg hl]
local macro_rules | `(tactic| walk_at "exec While Compare cons nil") => `(tactic| (refine Stop.go ?_))
local macro_rules | `(tactic| walk_at "KswEnd") => `(tactic| (refine Stop.go ?_))

theorem bis_at {g : Nat → Bool} {lo hi : Nat} (h : lo < hi) : bis g lo hi = if g ((lo + hi) / 2) = true then ((bis g ((lo + hi) / 2 + 1) hi).1, (lo + hi) / 2 :: (bis g ((lo + hi) / 2 + 1) hi).2) else ((bis g lo ((lo + hi) / 2)).1, (lo + hi) / 2 :: (bis g lo ((lo + hi) / 2)).2) := by
  obtain ⟨n, hn⟩ : ∃ n, hi - lo = n + 1 := ⟨hi - lo - 1, (Nat.succ_pred_eq_of_pos (Nat.sub_pos_of_lt h)).symm⟩
  have hN : hi ≤ n + 1 + lo := by rw [← hn]; exact Nat.le_add_of_sub_le (Nat.le_refl _)
  unfold bis
  rw [hn, bisF, if_pos h, bisF_fuel g n _ _ hi (mid1 h hN) (Nat.le_add_of_sub_le (Nat.le_refl _)), bisF_fuel g n _ lo _ (mid2 h hN) (Nat.le_add_of_sub_le (Nat.le_refl _))]
theorem bis_right {g : Nat → Bool} {lo hi : Nat} (h : lo < hi) (hg : g ((lo + hi) / 2) = true) : bis g lo hi = ((bis g ((lo + hi) / 2 + 1) hi).1, (lo + hi) / 2 :: (bis g ((lo + hi) / 2 + 1) hi).2) := by
  rw [bis_at h, if_pos hg]
theorem bis_left {g : Nat → Bool} {lo hi : Nat} (h : lo < hi) (hg : g ((lo + hi) / 2) = false) : bis g lo hi = ((bis g lo ((lo + hi) / 2)).1, (lo + hi) / 2 :: (bis g lo ((lo + hi) / 2)).2) := by
  rw [bis_at h, if_neg (by rw [hg]; exact Bool.false_ne_true)]
theorem bis_end {g : Nat → Bool} {lo hi : Nat} (h : ¬ lo < hi) : bis g lo hi = (lo, []) := by
  unfold bis
  rw [Nat.sub_eq_zero_of_le (Nat.not_lt.mp h), bisF]
theorem midOf {lo hi : Int} (h0 : 0 ≤ lo) (h1 : lo < hi) : ((lo + hi).fdiv 2).toNat = (lo.toNat + hi.toNat) / 2 ∧ lo ≤ (lo + hi).fdiv 2 ∧ (lo + hi).fdiv 2 < hi := by
  obtain ⟨a, rfl⟩ := Int.eq_ofNat_of_zero_le h0
  obtain ⟨b, rfl⟩ := Int.eq_ofNat_of_zero_le (Int.le_trans h0 (Int.le_of_lt h1))
  have h : a < b := Int.ofNat_lt.mp h1
  rw [Int.fdiv_eq_ediv_of_nonneg _ (by decide)]
  have e : ((a : Int) + b) / 2 = (((a + b) / 2 : Nat) : Int) := rfl
  rw [e]
  exact ⟨rfl, Int.ofNat_le.mpr (by omega), Int.ofNat_lt.mpr (by omega)⟩
/-- the loop's word: where it stands, and what is still to come is what was to come -/
def BisI (g : Nat → Bool) (r : Nat × List Nat) (as : List Nat) (lo hi : Int) : Prop := 0 ≤ lo ∧ lo ≤ hi ∧ hi ≤ 31 ∧ (bis g lo.toNat hi.toNat).1 = r.1 ∧ as ++ (bis g lo.toNat hi.toNat).2 = r.2
theorem BisI.start {g : Nat → Bool} {lo hi : Nat} (h1 : lo ≤ hi) (h2 : hi ≤ 31) : BisI g (bis g lo hi) [] lo hi := ⟨by omega, by omega, by omega, rfl, rfl⟩
theorem BisI.startI {g : Nat → Bool} {r : Nat × List Nat} {lo hi : Int} {lo' hi' : Nat} (e1 : lo = lo') (e2 : hi = hi') (h1 : lo' ≤ hi') (h2 : hi' ≤ 31) (hr : r = bis g lo' hi') : BisI g r [] lo hi := by
  subst e1; subst e2; subst hr; exact BisI.start h1 h2
theorem BisI.left {g : Nat → Bool} {r : Nat × List Nat} {as : List Nat} {lo hi : Int} (I : BisI g r as lo hi) (h : lo < hi) (hg : g ((lo + hi).fdiv 2).toNat = false) : BisI g r (as ++ [((lo + hi).fdiv 2).toNat]) lo ((lo + hi).fdiv 2) := by
  obtain ⟨h0, h1, h2, e1, e2⟩ := I
  obtain ⟨m1, m2, m3⟩ := midOf h0 h
  rw [m1] at hg
  have b := bis_left (g := g) (lo := lo.toNat) (hi := hi.toNat) (by omega) hg
  refine ⟨h0, m2, by omega, ?_, ?_⟩
  · rw [m1, ← e1, b]
  · rw [m1, ← e2, b, List.append_assoc]; rfl
theorem BisI.right {g : Nat → Bool} {r : Nat × List Nat} {as : List Nat} {lo hi : Int} (I : BisI g r as lo hi) (h : lo < hi) (hg : g ((lo + hi).fdiv 2).toNat = true) : BisI g r (as ++ [((lo + hi).fdiv 2).toNat]) ((lo + hi).fdiv 2 + 1) hi := by
  obtain ⟨h0, h1, h2, e1, e2⟩ := I
  obtain ⟨m1, m2, m3⟩ := midOf h0 h
  rw [m1] at hg
  have b := bis_right (g := g) (lo := lo.toNat) (hi := hi.toNat) (by omega) hg
  have m4 : ((lo + hi).fdiv 2 + 1).toNat = (lo.toNat + hi.toNat) / 2 + 1 := by rw [Int.toNat_add (Int.le_trans h0 m2) (by decide), m1]; rfl
  refine ⟨Int.le_trans h0 (Int.le_add_one m2), Int.add_one_le_of_lt m3, h2, ?_, ?_⟩
  · rw [m4, ← e1, b]
  · rw [m1, m4, ← e2, b, List.append_assoc]; rfl
theorem BisI.fin {g : Nat → Bool} {r : Nat × List Nat} {as : List Nat} {lo hi : Int} (I : BisI g r as lo hi) (h : ¬ lo < hi) : lo = r.1 ∧ as = r.2 := by
  obtain ⟨h0, h1, h2, e1, e2⟩ := I
  have b := bis_end (g := g) (lo := lo.toNat) (hi := hi.toNat) (by omega)
  rw [b] at e1 e2
  rw [← e1, ← e2]
  exact ⟨by dsimp only; omega, by simp⟩
theorem less1 {lo hi m : Int} (m2 : lo ≤ m) (m3 : m < hi) : (m - lo).toNat < (hi - lo).toNat := by omega
theorem less2 {lo hi m : Int} (m2 : lo ≤ m) (m3 : m < hi) : (hi - (m + 1)).toNat < (hi - lo).toNat := by omega
theorem BisI.less {lo hi : Int} (h0 : 0 ≤ lo) (h : lo < hi) : ((lo + hi).fdiv 2 - lo).toNat < (hi - lo).toNat ∧ (hi - ((lo + hi).fdiv 2 + 1)).toNat < (hi - lo).toNat := by
  obtain ⟨_, m2, m3⟩ := midOf h0 h
  exact ⟨less1 m2 m3, less2 m2 m3⟩
abbrev bisPs (c : (Int × Tok) × (Int × Tok)) : List (Str × Value) := [(Str.ofString "lo", .int c.1.1 c.1.2), (Str.ofString "hi", .int c.2.1 c.2.2)]
section
variable {prog : Program} {w : World} {p : Program} {loose : List Str} {mean : ExcName → Option Value} {mg mb : Str → Option Value}

theorem bisR_plain4 {ca : Addr} {n : Nat} {vs : List Value} {cs' : List Int} {rest : List (Addr × Obj)} (hI : IntsAre vs cs') (hl : cs'.length = 31) {x : Int} {tx : Tok} {lo hi : Nat} {tl th : Tok} (h1 : lo ≤ hi) (h2 : hi ≤ 31) :
    Calls prog w p loose mean mg mb 23 1 8 ((ca, listOf vs.toArray n) :: rest) [.ref ca, .int x tx, .int lo tl, .int hi th] []
      (fun v nw => nw = ((ca, listOf vs.toArray n) :: rest) ∧ ∃ tk : Tok, v = .int (bis (fun i => decide (cs'.getD i 0 ≤ x)) lo hi).1 tk) := by
  intro dp un gd cn cs a ccd cl outer A₀ base h₀ L m s Q E B F X N T hk hd hu hret
  (refine wpAny_call ?_; k_dflt (refine' code_def ?k1 ?k2 ?k3 ?k4 ?k5 ?kA ?kF ?kK ?k6 ?k7 ?k8 ?k9 ?kB ?_ ?c2 ?c3 ?c4 ?c5; (case kA => exact rfl); (case kF => exact rfl); (case kK => assumption); (case k1 => k_asm); (case k2 => k_asm); (case k3 => k_asm); (case k4 => k_asm); (case k5 => k_asm); (case k6 => k_is); (case k7 => k_is); (case k8 => ktr_room); (case k9 => exact kp_binds (by k_in) (by intro S; rfl)); (case c5 => decide); (case kB => exact locs rfl); (case c2 => exact rfl); (case c3 => exact rfl); (case c4 => exact rfl); k_whole; intro g' L' h' FG' F' N' B' X' T'; (try dsimp only); (try k_lift B'); (try k_fold)); k_steps)
  refine Stop.out ?_
  refine ksw_while (σ := (Int × Tok) × (Int × Tok)) (fun _ => (ca, listOf vs.toArray n) :: rest) bisPs (fun _ => True) [Str.ofString "mid"]
    (fun c => ∃ as, BisI (fun i => decide (cs'.getD i 0 ≤ x)) (bis (fun i => decide (cs'.getD i 0 ≤ x)) lo hi) as c.1.1 c.2.1) (fun c => (c.2.1 - c.1.1).toNat) ((_, _), (_, _)) (by assumption) (by assumption) trivial
    (List.forall_mem_cons.mpr ⟨rfl, List.forall_mem_cons.mpr ⟨rfl, fun _ h => nomatch h⟩⟩) ⟨[], BisI.startI (rfl) (rfl) (by omega) (by omega) rfl⟩ ?_
  rintro ⟨⟨lo1, tl1⟩, ⟨hi1, th1⟩⟩ u h tk - ⟨as, bi⟩ F1 N1
  replace bi : BisI _ _ as lo1 hi1 := bi
  have q0 := bi.1
  have q1 := bi.2.1
  have q2 := bi.2.2.1
  simp only [bisPs, kstB] at F1
  dsimp only at N1 ⊢
  k_steps
  · refine Stop.out (ksw_end ((_, _), (_, _)) (by assumption) (by assumption) (fun _ h => h) trivial (by exact List.forall_mem_cons.mpr ⟨rfl, List.forall_mem_cons.mpr ⟨rfl, fun _ h => nomatch h⟩⟩) (by ksw_same) ⟨_, BisI.left bi (by assumption) (decide_eq_false (by omega))⟩ (BisI.less q0 (by assumption)).1)
  · refine Stop.out (ksw_end ((_, _), (_, _)) (by assumption) (by assumption) (fun _ h => h) trivial (by exact List.forall_mem_cons.mpr ⟨rfl, List.forall_mem_cons.mpr ⟨rfl, fun _ h => nomatch h⟩⟩) (by ksw_same) ⟨_, BisI.right bi (by assumption) (decide_eq_true (by omega))⟩ (BisI.less q0 (by assumption)).2)
  · have e := bi.fin (by assumption)
    exact hret _ _ _ _ (by k_asm) (by k_asm) ⟨rfl, tl1, by rw [e.1]⟩

theorem bisR_plain2 {ca : Addr} {n : Nat} {vs : List Value} {cs' : List Int} {rest : List (Addr × Obj)} (hI : IntsAre vs cs') (hl : cs'.length = 31) {x : Int} {tx : Tok}  :
    Calls prog w p loose mean mg mb 23 1 8 ((ca, listOf vs.toArray n) :: rest) [.ref ca, .int x tx] []
      (fun v nw => nw = ((ca, listOf vs.toArray n) :: rest) ∧ ∃ tk : Tok, v = .int (bis (fun i => decide (cs'.getD i 0 ≤ x)) 0 31).1 tk) := by
  intro dp un gd cn cs a ccd cl outer A₀ base h₀ L m s Q E B F X N T hk hd hu hret
  (refine wpAny_call ?_; k_dflt (refine' code_def ?k1 ?k2 ?k3 ?k4 ?k5 ?kA ?kF ?kK ?k6 ?k7 ?k8 ?k9 ?kB ?_ ?c2 ?c3 ?c4 ?c5; (case kA => exact rfl); (case kF => exact rfl); (case kK => assumption); (case k1 => k_asm); (case k2 => k_asm); (case k3 => k_asm); (case k4 => k_asm); (case k5 => k_asm); (case k6 => k_is); (case k7 => k_is); (case k8 => ktr_room); (case k9 => exact kp_binds (by k_in) (by intro S; rfl)); (case c5 => decide); (case kB => exact locs rfl); (case c2 => exact rfl); (case c3 => exact rfl); (case c4 => exact rfl); k_whole; intro g' L' h' FG' F' N' B' X' T'; (try dsimp only); (try k_lift B'); (try k_fold)); k_steps)
  refine Stop.out ?_
  refine ksw_while (σ := (Int × Tok) × (Int × Tok)) (fun _ => (ca, listOf vs.toArray n) :: rest) bisPs (fun _ => True) [Str.ofString "mid"]
    (fun c => ∃ as, BisI (fun i => decide (cs'.getD i 0 ≤ x)) (bis (fun i => decide (cs'.getD i 0 ≤ x)) 0 31) as c.1.1 c.2.1) (fun c => (c.2.1 - c.1.1).toNat) ((_, _), (_, _)) (by assumption) (by assumption) trivial
    (List.forall_mem_cons.mpr ⟨rfl, List.forall_mem_cons.mpr ⟨rfl, fun _ h => nomatch h⟩⟩) ⟨[], BisI.startI (rfl) (by simp [hI.length, hl]) (by omega) (by omega) rfl⟩ ?_
  rintro ⟨⟨lo1, tl1⟩, ⟨hi1, th1⟩⟩ u h tk - ⟨as, bi⟩ F1 N1
  replace bi : BisI _ _ as lo1 hi1 := bi
  have q0 := bi.1
  have q1 := bi.2.1
  have q2 := bi.2.2.1
  simp only [bisPs, kstB] at F1
  dsimp only at N1 ⊢
  k_steps
  · refine Stop.out (ksw_end ((_, _), (_, _)) (by assumption) (by assumption) (fun _ h => h) trivial (by exact List.forall_mem_cons.mpr ⟨rfl, List.forall_mem_cons.mpr ⟨rfl, fun _ h => nomatch h⟩⟩) (by ksw_same) ⟨_, BisI.left bi (by assumption) (decide_eq_false (by omega))⟩ (BisI.less q0 (by assumption)).1)
  · refine Stop.out (ksw_end ((_, _), (_, _)) (by assumption) (by assumption) (fun _ h => h) trivial (by exact List.forall_mem_cons.mpr ⟨rfl, List.forall_mem_cons.mpr ⟨rfl, fun _ h => nomatch h⟩⟩) (by ksw_same) ⟨_, BisI.right bi (by assumption) (decide_eq_true (by omega))⟩ (BisI.less q0 (by assumption)).2)
  · have e := bi.fin (by assumption)
    exact hret _ _ _ _ (by k_asm) (by k_asm) ⟨rfl, tl1, by rw [e.1]⟩

theorem bisL_plain4 {ca : Addr} {n : Nat} {vs : List Value} {cs' : List Int} {rest : List (Addr × Obj)} (hI : IntsAre vs cs') (hl : cs'.length = 31) {x : Int} {tx : Tok} {lo hi : Nat} {tl th : Tok} (h1 : lo ≤ hi) (h2 : hi ≤ 31) :
    Calls prog w p loose mean mg mb 32 1 8 ((ca, listOf vs.toArray n) :: rest) [.ref ca, .int x tx, .int lo tl, .int hi th] []
      (fun v nw => nw = ((ca, listOf vs.toArray n) :: rest) ∧ ∃ tk : Tok, v = .int (bis (fun i => decide (cs'.getD i 0 < x)) lo hi).1 tk) := by
  intro dp un gd cn cs a ccd cl outer A₀ base h₀ L m s Q E B F X N T hk hd hu hret
  (refine wpAny_call ?_; k_dflt (refine' code_def ?k1 ?k2 ?k3 ?k4 ?k5 ?kA ?kF ?kK ?k6 ?k7 ?k8 ?k9 ?kB ?_ ?c2 ?c3 ?c4 ?c5; (case kA => exact rfl); (case kF => exact rfl); (case kK => assumption); (case k1 => k_asm); (case k2 => k_asm); (case k3 => k_asm); (case k4 => k_asm); (case k5 => k_asm); (case k6 => k_is); (case k7 => k_is); (case k8 => ktr_room); (case k9 => exact kp_binds (by k_in) (by intro S; rfl)); (case c5 => decide); (case kB => exact locs rfl); (case c2 => exact rfl); (case c3 => exact rfl); (case c4 => exact rfl); k_whole; intro g' L' h' FG' F' N' B' X' T'; (try dsimp only); (try k_lift B'); (try k_fold)); k_steps)
  refine Stop.out ?_
  refine ksw_while (σ := (Int × Tok) × (Int × Tok)) (fun _ => (ca, listOf vs.toArray n) :: rest) bisPs (fun _ => True) [Str.ofString "mid"]
    (fun c => ∃ as, BisI (fun i => decide (cs'.getD i 0 < x)) (bis (fun i => decide (cs'.getD i 0 < x)) lo hi) as c.1.1 c.2.1) (fun c => (c.2.1 - c.1.1).toNat) ((_, _), (_, _)) (by assumption) (by assumption) trivial
    (List.forall_mem_cons.mpr ⟨rfl, List.forall_mem_cons.mpr ⟨rfl, fun _ h => nomatch h⟩⟩) ⟨[], BisI.startI (rfl) (rfl) (by omega) (by omega) rfl⟩ ?_
  rintro ⟨⟨lo1, tl1⟩, ⟨hi1, th1⟩⟩ u h tk - ⟨as, bi⟩ F1 N1
  replace bi : BisI _ _ as lo1 hi1 := bi
  have q0 := bi.1
  have q1 := bi.2.1
  have q2 := bi.2.2.1
  simp only [bisPs, kstB] at F1
  dsimp only at N1 ⊢
  k_steps
  · refine Stop.out (ksw_end ((_, _), (_, _)) (by assumption) (by assumption) (fun _ h => h) trivial (by exact List.forall_mem_cons.mpr ⟨rfl, List.forall_mem_cons.mpr ⟨rfl, fun _ h => nomatch h⟩⟩) (by ksw_same) ⟨_, BisI.right bi (by assumption) (decide_eq_true (by omega))⟩ (BisI.less q0 (by assumption)).2)
  · refine Stop.out (ksw_end ((_, _), (_, _)) (by assumption) (by assumption) (fun _ h => h) trivial (by exact List.forall_mem_cons.mpr ⟨rfl, List.forall_mem_cons.mpr ⟨rfl, fun _ h => nomatch h⟩⟩) (by ksw_same) ⟨_, BisI.left bi (by assumption) (decide_eq_false (by omega))⟩ (BisI.less q0 (by assumption)).1)
  · have e := bi.fin (by assumption)
    exact hret _ _ _ _ (by k_asm) (by k_asm) ⟨rfl, tl1, by rw [e.1]⟩

theorem bisL_plain2 {ca : Addr} {n : Nat} {vs : List Value} {cs' : List Int} {rest : List (Addr × Obj)} (hI : IntsAre vs cs') (hl : cs'.length = 31) {x : Int} {tx : Tok}  :
    Calls prog w p loose mean mg mb 32 1 8 ((ca, listOf vs.toArray n) :: rest) [.ref ca, .int x tx] []
      (fun v nw => nw = ((ca, listOf vs.toArray n) :: rest) ∧ ∃ tk : Tok, v = .int (bis (fun i => decide (cs'.getD i 0 < x)) 0 31).1 tk) := by
  intro dp un gd cn cs a ccd cl outer A₀ base h₀ L m s Q E B F X N T hk hd hu hret
  (refine wpAny_call ?_; k_dflt (refine' code_def ?k1 ?k2 ?k3 ?k4 ?k5 ?kA ?kF ?kK ?k6 ?k7 ?k8 ?k9 ?kB ?_ ?c2 ?c3 ?c4 ?c5; (case kA => exact rfl); (case kF => exact rfl); (case kK => assumption); (case k1 => k_asm); (case k2 => k_asm); (case k3 => k_asm); (case k4 => k_asm); (case k5 => k_asm); (case k6 => k_is); (case k7 => k_is); (case k8 => ktr_room); (case k9 => exact kp_binds (by k_in) (by intro S; rfl)); (case c5 => decide); (case kB => exact locs rfl); (case c2 => exact rfl); (case c3 => exact rfl); (case c4 => exact rfl); k_whole; intro g' L' h' FG' F' N' B' X' T'; (try dsimp only); (try k_lift B'); (try k_fold)); k_steps)
  refine Stop.out ?_
  refine ksw_while (σ := (Int × Tok) × (Int × Tok)) (fun _ => (ca, listOf vs.toArray n) :: rest) bisPs (fun _ => True) [Str.ofString "mid"]
    (fun c => ∃ as, BisI (fun i => decide (cs'.getD i 0 < x)) (bis (fun i => decide (cs'.getD i 0 < x)) 0 31) as c.1.1 c.2.1) (fun c => (c.2.1 - c.1.1).toNat) ((_, _), (_, _)) (by assumption) (by assumption) trivial
    (List.forall_mem_cons.mpr ⟨rfl, List.forall_mem_cons.mpr ⟨rfl, fun _ h => nomatch h⟩⟩) ⟨[], BisI.startI (rfl) (by simp [hI.length, hl]) (by omega) (by omega) rfl⟩ ?_
  rintro ⟨⟨lo1, tl1⟩, ⟨hi1, th1⟩⟩ u h tk - ⟨as, bi⟩ F1 N1
  replace bi : BisI _ _ as lo1 hi1 := bi
  have q0 := bi.1
  have q1 := bi.2.1
  have q2 := bi.2.2.1
  simp only [bisPs, kstB] at F1
  dsimp only at N1 ⊢
  k_steps
  · refine Stop.out (ksw_end ((_, _), (_, _)) (by assumption) (by assumption) (fun _ h => h) trivial (by exact List.forall_mem_cons.mpr ⟨rfl, List.forall_mem_cons.mpr ⟨rfl, fun _ h => nomatch h⟩⟩) (by ksw_same) ⟨_, BisI.right bi (by assumption) (decide_eq_true (by omega))⟩ (BisI.less q0 (by assumption)).2)
  · refine Stop.out (ksw_end ((_, _), (_, _)) (by assumption) (by assumption) (fun _ h => h) trivial (by exact List.forall_mem_cons.mpr ⟨rfl, List.forall_mem_cons.mpr ⟨rfl, fun _ h => nomatch h⟩⟩) (by ksw_same) ⟨_, BisI.left bi (by assumption) (decide_eq_false (by omega))⟩ (BisI.less q0 (by assumption)).1)
  · have e := bi.fin (by assumption)
    exact hret _ _ _ _ (by k_asm) (by k_asm) ⟨rfl, tl1, by rw [e.1]⟩
end
end Mine
end
theorem Mine.flushC3 : True ∧ True := by
  w_top off
  first | (walk1; done) | exact ⟨trivial, trivial⟩
section
namespace Mine
local macro_rules | `(tactic| walk_at "exec While Compare cons nil") => `(tactic| (refine Stop.go ?_))
local macro_rules | `(tactic| walk_at "KswEnd") => `(tactic| (refine Stop.go ?_))
local macro_rules | `(tactic| walk_at "call ref") => `(tactic| (refine Stop.go ?_))
local macro_rules | `(tactic| walk_at "callWith ref") => `(tactic| (k_here; k_dflt (refine' callWith_F ?k1 ?_; (case k1 => exact FnAt.of (by k_asm) (by k_mem)); k_whole)))
local macro_rules | `(tactic| walk_at "subscriptTail") => `(tactic| (refine Stop.go ?_))
local macro_rules | `(tactic| walk_at "subscriptTail Name Name ref int") => `(tactic| (refine Stop.go ?_))
local macro_rules | `(tactic| walk_at "call builtin:len") => `(tactic| (k_here; k_dflt (refine' PyProof.Rows.len_list ?k1 ?k2 ?_; (case k1 => exact News.isList (by k_asm) (by k_mem)); (case k2 => (simp only [List.size_toArray]; omega)); k_whole)))

theorem Calls.useP {prog : Program} {w : World} {p : Program} {loose : List Str} {mean : ExcName → Option Value} {mg mb : Str → Option Value} {f : Addr} {d u : Nat} {news : List (Addr × Obj)} {vs : List Value} {kw : List (Str × Value)} {Post : Value → List (Addr × Obj) → Prop} (C : Calls prog w p loose mean mg mb f d u news vs kw Post)
    {dp un : Nat} {gd : Option (List Code)} {cn : Str} {cs : Scope} {a : Addr} {ccd : Value} {cl : List (Str × Addr)} {outer : List Env} {A₀ : Around} {base h₀ : Heap} {L : Addr} {m : Str → Option Value} {s : Shared} {Q E : Value → Shared → Prop}
    (B : Below A₀ base outer h₀) (F : Fr h₀ L s.heap m) (X : (hd.heap_39 w.params).In h₀) (N : News h₀ L s.heap news) (T : Top p loose mean mg mb h₀) (hk : cs.kind = .function) (hd : dp + d < recursionLimit) (hu : un + u < cLine)
    (ret : ∀ v nw h' tk', Fr h₀ L h' m → News h₀ L h' nw → Post v nw → Q v { s with heap := h', toks := tk' }) :
    wpAny (model prog w) (ktrTop dp un gd cn cs L a ccd cl outer) (call (.ref f) vs kw) Q E s :=
  C _ _ _ _ _ _ _ _ _ _ _ _ _ _ _ _ _ B F X N T hk hd hu ret
theorem bis_lenA (g : Nat → Bool) : ∀ k lo hi : Nat, hi ≤ k + lo → lo ≤ hi → lo + (bis g lo hi).2.length ≤ hi := by
  intro k
  induction k with
  | zero => intro lo hi h hl; rw [bis_end (by rw [Nat.zero_add] at h; exact Nat.not_lt.mpr h)]; exact hl
  | succ k ih =>
    intro lo hi h hl
    by_cases hlt : lo < hi
    · cases hg : g ((lo + hi) / 2) with
      | true =>
        rw [bis_right hlt hg, List.length_cons]
        have := ih _ hi (mid1 hlt h) (midHi hlt)
        have := midLo hlt
        clear hg
        generalize (lo + hi) / 2 = m at *
        omega
      | false =>
        rw [bis_left hlt hg, List.length_cons]
        have := ih lo _ (mid2 hlt h) (midLo hlt)
        have := midHi hlt
        clear hg
        generalize (lo + hi) / 2 = m at *
        omega
    · rw [bis_end hlt]; exact hl
theorem bis_len (g : Nat → Bool) (k lo hi : Nat) (_ : hi - lo ≤ k) : (bis g lo hi).2.length ≤ hi - lo := by
  rcases Nat.lt_or_ge hi lo with h | h
  · rw [bis_end (Nat.not_lt.mpr (Nat.le_of_lt h))]; exact Nat.zero_le _
  · exact Nat.le_sub_of_add_le' (bis_lenA g (hi - lo) lo hi (Nat.le_add_of_sub_le (Nat.le_refl _)) h)
theorem BisI.len {g : Nat → Bool} {lo0 hi0 : Nat} {as : List Nat} {lo hi : Int} (I : BisI g (bis g lo0 hi0) as lo hi) (h : hi0 ≤ 31) : as.length ≤ 31 := by
  have e := congrArg List.length I.2.2.2.2
  have := bis_len g (hi0 - lo0) lo0 hi0 (Nat.le_refl _)
  rw [List.length_append] at e
  omega
theorem BisI.leftK {α : Type} {g : Nat → Bool} {r : Nat × List Nat} {c : List (α × Nat)} {lo hi : Int} {x : α} (I : BisI g r (c.map (·.2)) lo hi) (h : lo < hi) (hg : g ((lo + hi).fdiv 2).toNat = false) : BisI g r ((c ++ [(x, ((lo + hi).fdiv 2).toNat)]).map (·.2)) lo ((lo + hi).fdiv 2) := by
  rw [List.map_append]; exact I.left h hg
theorem BisI.rightK {α : Type} {g : Nat → Bool} {r : Nat × List Nat} {c : List (α × Nat)} {lo hi : Int} {x : α} (I : BisI g r (c.map (·.2)) lo hi) (h : lo < hi) (hg : g ((lo + hi).fdiv 2).toNat = true) : BisI g r ((c ++ [(x, ((lo + hi).fdiv 2).toNat)]).map (·.2)) ((lo + hi).fdiv 2 + 1) hi := by
  rw [List.map_append]; exact I.right h hg
section
variable {prog : Program} {w : World} {p : Program} {loose : List Str} {mean : ExcName → Option Value} {mg mb : Str → Option Value}

theorem bisR_key4 {α : Type} {ca f : Addr} {n d u : Nat} {tv : List Value} {cf : Nat → Int} {fd : FuncData} {Led : List (α × Nat) → List (Addr × Obj)} (hl : tv.length = 31)
    (hf : ∀ c, (f, (⟨.type "function", none, .func fd, #[]⟩ : Obj)) ∈ Led c) (ha : ∀ c, (ca, listOf tv.toArray n) ∈ Led c)
    (hkey : ∀ c i v, c.length ≤ 31 → tv[i]? = some v → Calls prog w p loose mean mg mb f d u (Led c) [v] [] (fun v nw => ∃ x t, v = .int (cf i) t ∧ nw = Led (c ++ [(x, i)])))
    {x : Int} {tx : Tok} {lo hi : Nat} {tl th : Tok} (h1 : lo ≤ hi) (h2 : hi ≤ 31) :
    Calls prog w p loose mean mg mb 23 (1 + d) (8 + u) (Led []) [.ref ca, .int x tx, .int lo tl, .int hi th] [(Str.ofString "key", .ref f)]
      (fun v nw => ∃ c tk, v = .int (bis (fun i => decide (cf i ≤ x)) lo hi).1 tk ∧ nw = Led c ∧ c.map (·.2) = (bis (fun i => decide (cf i ≤ x)) lo hi).2) := by
  intro dp un gd cn cs a ccd cl outer A₀ base h₀ L m s Q E B F X N T hk hd hu hret
  have ha0 := ha []
  (refine wpAny_call ?_; k_dflt (refine' code_def ?k1 ?k2 ?k3 ?k4 ?k5 ?kA ?kF ?kK ?k6 ?k7 ?k8 ?k9 ?kB ?_ ?c2 ?c3 ?c4 ?c5; (case kA => exact rfl); (case kF => exact rfl); (case kK => assumption); (case k1 => k_asm); (case k2 => k_asm); (case k3 => k_asm); (case k4 => k_asm); (case k5 => k_asm); (case k6 => k_is); (case k7 => k_is); (case k8 => ktr_room); (case k9 => exact kp_binds (by k_in) (by intro S; rfl)); (case c5 => decide); (case kB => exact locs rfl); (case c2 => exact rfl); (case c3 => exact rfl); (case c4 => exact rfl); k_whole; intro g' L' h' FG' F' N' B' X' T'; (try dsimp only); (try k_lift B'); (try k_fold)); k_steps)
  refine Stop.out ?_
  refine ksw_while (σ := ((Int × Tok) × (Int × Tok)) × List (α × Nat)) (fun c => Led c.2) (fun c => bisPs c.1) (fun _ => True) [Str.ofString "mid"]
    (fun c => BisI (fun i => decide (cf i ≤ x)) (bis (fun i => decide (cf i ≤ x)) lo hi) (c.2.map (·.2)) c.1.1.1 c.1.2.1) (fun c => (c.1.2.1 - c.1.1.1).toNat) (((_, _), (_, _)), []) (by assumption) (by assumption) trivial
    (List.forall_mem_cons.mpr ⟨rfl, List.forall_mem_cons.mpr ⟨rfl, fun _ h => nomatch h⟩⟩) (BisI.startI rfl (rfl) (by omega) (by omega) rfl) ?_
  rintro ⟨⟨⟨lo1, tl1⟩, ⟨hi1, th1⟩⟩, c1⟩ u h tk - bi F1 N1
  replace bi : BisI _ _ (c1.map (·.2)) lo1 hi1 := bi
  have q0 := bi.1
  have q1 := bi.2.1
  have q2 := bi.2.2.1
  have hf1 := hf c1
  have ha1 := ha c1
  simp only [bisPs, kstB] at F1
  dsimp only at N1 ⊢
  k_steps
  · obtain ⟨m1, m2, m3⟩ := midOf q0 (by assumption)
    obtain ⟨v, hv⟩ : ∃ v, tv[((lo1 + hi1).fdiv 2).toNat]? = some v := ⟨_, List.getElem?_eq_getElem (by omega)⟩
    refine Stop.out (item_litK (News.isList (by assumption) ha1) (by omega) (by omega) hv ?_)
    k_steps
    refine Stop.out ((hkey c1 _ v (by have := bi.len (by omega); rw [List.length_map] at this; exact this) hv).useP (by k_asm) (by k_asm) (by k_asm) (by k_asm) (by k_asm) rfl (by ktr_room) (by ktr_units) ?_)
    rintro _ _ h' tk' F' N' ⟨x9, t9, rfl, rfl⟩
    dsimp only
    have hf2 := hf (c1 ++ [(x9, ((lo1 + hi1).fdiv 2).toNat)])
    k_steps
    · refine Stop.out (ksw_end (((lo1, tl1), ((lo1 + hi1).fdiv 2, _)), c1 ++ [(x9, ((lo1 + hi1).fdiv 2).toNat)]) (by assumption) (by assumption) (fun _ h => h) trivial (by exact List.forall_mem_cons.mpr ⟨rfl, List.forall_mem_cons.mpr ⟨rfl, fun _ h => nomatch h⟩⟩) (by ksw_same) (BisI.leftK bi (by assumption) (decide_eq_false (by omega))) (BisI.less q0 (by assumption)).1)
    · refine Stop.out (ksw_end ((((lo1 + hi1).fdiv 2 + 1, _), (hi1, th1)), c1 ++ [(x9, ((lo1 + hi1).fdiv 2).toNat)]) (by assumption) (by assumption) (fun _ h => h) trivial (by exact List.forall_mem_cons.mpr ⟨rfl, List.forall_mem_cons.mpr ⟨rfl, fun _ h => nomatch h⟩⟩) (by ksw_same) (BisI.rightK bi (by assumption) (decide_eq_true (by omega))) (BisI.less q0 (by assumption)).2)
  · have e := bi.fin (by assumption)
    exact hret _ _ _ _ (by k_asm) (by k_asm) ⟨c1, tl1, by rw [e.1], rfl, e.2⟩

theorem bisR_key2 {α : Type} {ca f : Addr} {n d u : Nat} {tv : List Value} {cf : Nat → Int} {fd : FuncData} {Led : List (α × Nat) → List (Addr × Obj)} (hl : tv.length = 31)
    (hf : ∀ c, (f, (⟨.type "function", none, .func fd, #[]⟩ : Obj)) ∈ Led c) (ha : ∀ c, (ca, listOf tv.toArray n) ∈ Led c)
    (hkey : ∀ c i v, c.length ≤ 31 → tv[i]? = some v → Calls prog w p loose mean mg mb f d u (Led c) [v] [] (fun v nw => ∃ x t, v = .int (cf i) t ∧ nw = Led (c ++ [(x, i)])))
    {x : Int} {tx : Tok}  :
    Calls prog w p loose mean mg mb 23 (1 + d) (8 + u) (Led []) [.ref ca, .int x tx] [(Str.ofString "key", .ref f)]
      (fun v nw => ∃ c tk, v = .int (bis (fun i => decide (cf i ≤ x)) 0 31).1 tk ∧ nw = Led c ∧ c.map (·.2) = (bis (fun i => decide (cf i ≤ x)) 0 31).2) := by
  intro dp un gd cn cs a ccd cl outer A₀ base h₀ L m s Q E B F X N T hk hd hu hret
  have ha0 := ha []
  (refine wpAny_call ?_; k_dflt (refine' code_def ?k1 ?k2 ?k3 ?k4 ?k5 ?kA ?kF ?kK ?k6 ?k7 ?k8 ?k9 ?kB ?_ ?c2 ?c3 ?c4 ?c5; (case kA => exact rfl); (case kF => exact rfl); (case kK => assumption); (case k1 => k_asm); (case k2 => k_asm); (case k3 => k_asm); (case k4 => k_asm); (case k5 => k_asm); (case k6 => k_is); (case k7 => k_is); (case k8 => ktr_room); (case k9 => exact kp_binds (by k_in) (by intro S; rfl)); (case c5 => decide); (case kB => exact locs rfl); (case c2 => exact rfl); (case c3 => exact rfl); (case c4 => exact rfl); k_whole; intro g' L' h' FG' F' N' B' X' T'; (try dsimp only); (try k_lift B'); (try k_fold)); k_steps)
  refine Stop.out ?_
  refine ksw_while (σ := ((Int × Tok) × (Int × Tok)) × List (α × Nat)) (fun c => Led c.2) (fun c => bisPs c.1) (fun _ => True) [Str.ofString "mid"]
    (fun c => BisI (fun i => decide (cf i ≤ x)) (bis (fun i => decide (cf i ≤ x)) 0 31) (c.2.map (·.2)) c.1.1.1 c.1.2.1) (fun c => (c.1.2.1 - c.1.1.1).toNat) (((_, _), (_, _)), []) (by assumption) (by assumption) trivial
    (List.forall_mem_cons.mpr ⟨rfl, List.forall_mem_cons.mpr ⟨rfl, fun _ h => nomatch h⟩⟩) (BisI.startI rfl (by simp [hl]) (by omega) (by omega) rfl) ?_
  rintro ⟨⟨⟨lo1, tl1⟩, ⟨hi1, th1⟩⟩, c1⟩ u h tk - bi F1 N1
  replace bi : BisI _ _ (c1.map (·.2)) lo1 hi1 := bi
  have q0 := bi.1
  have q1 := bi.2.1
  have q2 := bi.2.2.1
  have hf1 := hf c1
  have ha1 := ha c1
  simp only [bisPs, kstB] at F1
  dsimp only at N1 ⊢
  k_steps
  · obtain ⟨m1, m2, m3⟩ := midOf q0 (by assumption)
    obtain ⟨v, hv⟩ : ∃ v, tv[((lo1 + hi1).fdiv 2).toNat]? = some v := ⟨_, List.getElem?_eq_getElem (by omega)⟩
    refine Stop.out (item_litK (News.isList (by assumption) ha1) (by omega) (by omega) hv ?_)
    k_steps
    refine Stop.out ((hkey c1 _ v (by have := bi.len (by decide); rw [List.length_map] at this; exact this) hv).useP (by k_asm) (by k_asm) (by k_asm) (by k_asm) (by k_asm) rfl (by ktr_room) (by ktr_units) ?_)
    rintro _ _ h' tk' F' N' ⟨x9, t9, rfl, rfl⟩
    dsimp only
    have hf2 := hf (c1 ++ [(x9, ((lo1 + hi1).fdiv 2).toNat)])
    k_steps
    · refine Stop.out (ksw_end (((lo1, tl1), ((lo1 + hi1).fdiv 2, _)), c1 ++ [(x9, ((lo1 + hi1).fdiv 2).toNat)]) (by assumption) (by assumption) (fun _ h => h) trivial (by exact List.forall_mem_cons.mpr ⟨rfl, List.forall_mem_cons.mpr ⟨rfl, fun _ h => nomatch h⟩⟩) (by ksw_same) (BisI.leftK bi (by assumption) (decide_eq_false (by omega))) (BisI.less q0 (by assumption)).1)
    · refine Stop.out (ksw_end ((((lo1 + hi1).fdiv 2 + 1, _), (hi1, th1)), c1 ++ [(x9, ((lo1 + hi1).fdiv 2).toNat)]) (by assumption) (by assumption) (fun _ h => h) trivial (by exact List.forall_mem_cons.mpr ⟨rfl, List.forall_mem_cons.mpr ⟨rfl, fun _ h => nomatch h⟩⟩) (by ksw_same) (BisI.rightK bi (by assumption) (decide_eq_true (by omega))) (BisI.less q0 (by assumption)).2)
  · have e := bi.fin (by assumption)
    exact hret _ _ _ _ (by k_asm) (by k_asm) ⟨c1, tl1, by rw [e.1], rfl, e.2⟩

theorem bisL_key4 {α : Type} {ca f : Addr} {n d u : Nat} {tv : List Value} {cf : Nat → Int} {fd : FuncData} {Led : List (α × Nat) → List (Addr × Obj)} (hl : tv.length = 31)
    (hf : ∀ c, (f, (⟨.type "function", none, .func fd, #[]⟩ : Obj)) ∈ Led c) (ha : ∀ c, (ca, listOf tv.toArray n) ∈ Led c)
    (hkey : ∀ c i v, c.length ≤ 31 → tv[i]? = some v → Calls prog w p loose mean mg mb f d u (Led c) [v] [] (fun v nw => ∃ x t, v = .int (cf i) t ∧ nw = Led (c ++ [(x, i)])))
    {x : Int} {tx : Tok} {lo hi : Nat} {tl th : Tok} (h1 : lo ≤ hi) (h2 : hi ≤ 31) :
    Calls prog w p loose mean mg mb 32 (1 + d) (8 + u) (Led []) [.ref ca, .int x tx, .int lo tl, .int hi th] [(Str.ofString "key", .ref f)]
      (fun v nw => ∃ c tk, v = .int (bis (fun i => decide (cf i < x)) lo hi).1 tk ∧ nw = Led c ∧ c.map (·.2) = (bis (fun i => decide (cf i < x)) lo hi).2) := by
  intro dp un gd cn cs a ccd cl outer A₀ base h₀ L m s Q E B F X N T hk hd hu hret
  have ha0 := ha []
  (refine wpAny_call ?_; k_dflt (refine' code_def ?k1 ?k2 ?k3 ?k4 ?k5 ?kA ?kF ?kK ?k6 ?k7 ?k8 ?k9 ?kB ?_ ?c2 ?c3 ?c4 ?c5; (case kA => exact rfl); (case kF => exact rfl); (case kK => assumption); (case k1 => k_asm); (case k2 => k_asm); (case k3 => k_asm); (case k4 => k_asm); (case k5 => k_asm); (case k6 => k_is); (case k7 => k_is); (case k8 => ktr_room); (case k9 => exact kp_binds (by k_in) (by intro S; rfl)); (case c5 => decide); (case kB => exact locs rfl); (case c2 => exact rfl); (case c3 => exact rfl); (case c4 => exact rfl); k_whole; intro g' L' h' FG' F' N' B' X' T'; (try dsimp only); (try k_lift B'); (try k_fold)); k_steps)
  refine Stop.out ?_
  refine ksw_while (σ := ((Int × Tok) × (Int × Tok)) × List (α × Nat)) (fun c => Led c.2) (fun c => bisPs c.1) (fun _ => True) [Str.ofString "mid"]
    (fun c => BisI (fun i => decide (cf i < x)) (bis (fun i => decide (cf i < x)) lo hi) (c.2.map (·.2)) c.1.1.1 c.1.2.1) (fun c => (c.1.2.1 - c.1.1.1).toNat) (((_, _), (_, _)), []) (by assumption) (by assumption) trivial
    (List.forall_mem_cons.mpr ⟨rfl, List.forall_mem_cons.mpr ⟨rfl, fun _ h => nomatch h⟩⟩) (BisI.startI rfl (rfl) (by omega) (by omega) rfl) ?_
  rintro ⟨⟨⟨lo1, tl1⟩, ⟨hi1, th1⟩⟩, c1⟩ u h tk - bi F1 N1
  replace bi : BisI _ _ (c1.map (·.2)) lo1 hi1 := bi
  have q0 := bi.1
  have q1 := bi.2.1
  have q2 := bi.2.2.1
  have hf1 := hf c1
  have ha1 := ha c1
  simp only [bisPs, kstB] at F1
  dsimp only at N1 ⊢
  k_steps
  · obtain ⟨m1, m2, m3⟩ := midOf q0 (by assumption)
    obtain ⟨v, hv⟩ : ∃ v, tv[((lo1 + hi1).fdiv 2).toNat]? = some v := ⟨_, List.getElem?_eq_getElem (by omega)⟩
    refine Stop.out (item_litK (News.isList (by assumption) ha1) (by omega) (by omega) hv ?_)
    k_steps
    refine Stop.out ((hkey c1 _ v (by have := bi.len (by omega); rw [List.length_map] at this; exact this) hv).useP (by k_asm) (by k_asm) (by k_asm) (by k_asm) (by k_asm) rfl (by ktr_room) (by ktr_units) ?_)
    rintro _ _ h' tk' F' N' ⟨x9, t9, rfl, rfl⟩
    dsimp only
    have hf2 := hf (c1 ++ [(x9, ((lo1 + hi1).fdiv 2).toNat)])
    k_steps
    · refine Stop.out (ksw_end ((((lo1 + hi1).fdiv 2 + 1, _), (hi1, th1)), c1 ++ [(x9, ((lo1 + hi1).fdiv 2).toNat)]) (by assumption) (by assumption) (fun _ h => h) trivial (by exact List.forall_mem_cons.mpr ⟨rfl, List.forall_mem_cons.mpr ⟨rfl, fun _ h => nomatch h⟩⟩) (by ksw_same) (BisI.rightK bi (by assumption) (decide_eq_true (by omega))) (BisI.less q0 (by assumption)).2)
    · refine Stop.out (ksw_end (((lo1, tl1), ((lo1 + hi1).fdiv 2, _)), c1 ++ [(x9, ((lo1 + hi1).fdiv 2).toNat)]) (by assumption) (by assumption) (fun _ h => h) trivial (by exact List.forall_mem_cons.mpr ⟨rfl, List.forall_mem_cons.mpr ⟨rfl, fun _ h => nomatch h⟩⟩) (by ksw_same) (BisI.leftK bi (by assumption) (decide_eq_false (by omega))) (BisI.less q0 (by assumption)).1)
  · have e := bi.fin (by assumption)
    exact hret _ _ _ _ (by k_asm) (by k_asm) ⟨c1, tl1, by rw [e.1], rfl, e.2⟩

theorem bisL_key2 {α : Type} {ca f : Addr} {n d u : Nat} {tv : List Value} {cf : Nat → Int} {fd : FuncData} {Led : List (α × Nat) → List (Addr × Obj)} (hl : tv.length = 31)
    (hf : ∀ c, (f, (⟨.type "function", none, .func fd, #[]⟩ : Obj)) ∈ Led c) (ha : ∀ c, (ca, listOf tv.toArray n) ∈ Led c)
    (hkey : ∀ c i v, c.length ≤ 31 → tv[i]? = some v → Calls prog w p loose mean mg mb f d u (Led c) [v] [] (fun v nw => ∃ x t, v = .int (cf i) t ∧ nw = Led (c ++ [(x, i)])))
    {x : Int} {tx : Tok}  :
    Calls prog w p loose mean mg mb 32 (1 + d) (8 + u) (Led []) [.ref ca, .int x tx] [(Str.ofString "key", .ref f)]
      (fun v nw => ∃ c tk, v = .int (bis (fun i => decide (cf i < x)) 0 31).1 tk ∧ nw = Led c ∧ c.map (·.2) = (bis (fun i => decide (cf i < x)) 0 31).2) := by
  intro dp un gd cn cs a ccd cl outer A₀ base h₀ L m s Q E B F X N T hk hd hu hret
  have ha0 := ha []
  (refine wpAny_call ?_; k_dflt (refine' code_def ?k1 ?k2 ?k3 ?k4 ?k5 ?kA ?kF ?kK ?k6 ?k7 ?k8 ?k9 ?kB ?_ ?c2 ?c3 ?c4 ?c5; (case kA => exact rfl); (case kF => exact rfl); (case kK => assumption); (case k1 => k_asm); (case k2 => k_asm); (case k3 => k_asm); (case k4 => k_asm); (case k5 => k_asm); (case k6 => k_is); (case k7 => k_is); (case k8 => ktr_room); (case k9 => exact kp_binds (by k_in) (by intro S; rfl)); (case c5 => decide); (case kB => exact locs rfl); (case c2 => exact rfl); (case c3 => exact rfl); (case c4 => exact rfl); k_whole; intro g' L' h' FG' F' N' B' X' T'; (try dsimp only); (try k_lift B'); (try k_fold)); k_steps)
  refine Stop.out ?_
  refine ksw_while (σ := ((Int × Tok) × (Int × Tok)) × List (α × Nat)) (fun c => Led c.2) (fun c => bisPs c.1) (fun _ => True) [Str.ofString "mid"]
    (fun c => BisI (fun i => decide (cf i < x)) (bis (fun i => decide (cf i < x)) 0 31) (c.2.map (·.2)) c.1.1.1 c.1.2.1) (fun c => (c.1.2.1 - c.1.1.1).toNat) (((_, _), (_, _)), []) (by assumption) (by assumption) trivial
    (List.forall_mem_cons.mpr ⟨rfl, List.forall_mem_cons.mpr ⟨rfl, fun _ h => nomatch h⟩⟩) (BisI.startI rfl (by simp [hl]) (by omega) (by omega) rfl) ?_
  rintro ⟨⟨⟨lo1, tl1⟩, ⟨hi1, th1⟩⟩, c1⟩ u h tk - bi F1 N1
  replace bi : BisI _ _ (c1.map (·.2)) lo1 hi1 := bi
  have q0 := bi.1
  have q1 := bi.2.1
  have q2 := bi.2.2.1
  have hf1 := hf c1
  have ha1 := ha c1
  simp only [bisPs, kstB] at F1
  dsimp only at N1 ⊢
  k_steps
  · obtain ⟨m1, m2, m3⟩ := midOf q0 (by assumption)
    obtain ⟨v, hv⟩ : ∃ v, tv[((lo1 + hi1).fdiv 2).toNat]? = some v := ⟨_, List.getElem?_eq_getElem (by omega)⟩
    refine Stop.out (item_litK (News.isList (by assumption) ha1) (by omega) (by omega) hv ?_)
    k_steps
    refine Stop.out ((hkey c1 _ v (by have := bi.len (by decide); rw [List.length_map] at this; exact this) hv).useP (by k_asm) (by k_asm) (by k_asm) (by k_asm) (by k_asm) rfl (by ktr_room) (by ktr_units) ?_)
    rintro _ _ h' tk' F' N' ⟨x9, t9, rfl, rfl⟩
    dsimp only
    have hf2 := hf (c1 ++ [(x9, ((lo1 + hi1).fdiv 2).toNat)])
    k_steps
    · refine Stop.out (ksw_end ((((lo1 + hi1).fdiv 2 + 1, _), (hi1, th1)), c1 ++ [(x9, ((lo1 + hi1).fdiv 2).toNat)]) (by assumption) (by assumption) (fun _ h => h) trivial (by exact List.forall_mem_cons.mpr ⟨rfl, List.forall_mem_cons.mpr ⟨rfl, fun _ h => nomatch h⟩⟩) (by ksw_same) (BisI.rightK bi (by assumption) (decide_eq_true (by omega))) (BisI.less q0 (by assumption)).2)
    · refine Stop.out (ksw_end (((lo1, tl1), ((lo1 + hi1).fdiv 2, _)), c1 ++ [(x9, ((lo1 + hi1).fdiv 2).toNat)]) (by assumption) (by assumption) (fun _ h => h) trivial (by exact List.forall_mem_cons.mpr ⟨rfl, List.forall_mem_cons.mpr ⟨rfl, fun _ h => nomatch h⟩⟩) (by ksw_same) (BisI.leftK bi (by assumption) (decide_eq_false (by omega))) (BisI.less q0 (by assumption)).1)
  · have e := bi.fin (by assumption)
    exact hret _ _ _ _ (by k_asm) (by k_asm) ⟨c1, tl1, by rw [e.1], rfl, e.2⟩
end
end Mine
end
theorem Mine.flushC4 : True ∧ True := by
  w_top off
  first | (walk1; done) | exact ⟨trivial, trivial⟩
section
namespace Mine
local macro_rules | `(tactic| walk_at "eval ListComp") => `(tactic| (k_here; k_dflt (refine LCt.ListComp_T (F₀ := by k_asm) (by with_unfolding_all rfl) (by decide) (by rfl) (by decide) (by rfl) ?_)))
local macro_rules | `(tactic| walk_at "CompSrcT") => `(tactic| (refine Stop.go ?_))
local macro_rules | `(tactic| walk_at "CompEnd") => `(tactic| (refine Stop.go ?_))
local macro_rules | `(tactic| walk_at "binaryOp Add ref ref") => `(tactic| (refine Stop.go ?_))
local macro_rules | `(tactic| walk_at "call builtin:max") => `(tactic| (refine Stop.go ?_))
theorem allLt_mem {d : Nat} : ∀ {l : List (Addr × Obj)}, AllLt d l → ∀ p ∈ l, p.1 < d := by
  intro l
  induction l with
  | nil => intro _ p hp; exact nomatch hp
  | cons q r ih =>
    intro h p hp
    rcases List.mem_cons.mp hp with e | hp
    · rw [e]; exact h.1
    · exact ih h.2 p hp
/-- the place behind the last one that q holds of, or lo -/
def IsPlace (q : Nat → Bool) (lo hi : Nat) (r : Nat) : Prop := (r = lo ∨ ∃ i, lo ≤ i ∧ i < hi ∧ q i = true ∧ r = i + 1) ∧ lo ≤ r ∧ ∀ i, lo ≤ i → i < hi → q i = true → i + 1 ≤ r
theorem IsPlace.unique {q : Nat → Bool} {lo hi r r' : Nat} (h : IsPlace q lo hi r) (h' : IsPlace q lo hi r') : r = r' := by
  obtain ⟨a, b, c⟩ := h
  obtain ⟨a', b', c'⟩ := h'
  have : r ≤ r' := by
    rcases a with rfl | ⟨i, h1, h2, h3, rfl⟩
    · exact b'
    · exact c' i h1 h2 h3
  have : r' ≤ r := by
    rcases a' with rfl | ⟨i, h1, h2, h3, rfl⟩
    · exact b
    · exact c i h1 h2 h3
  omega
theorem ofm1 {lo : Nat} {M : Int} (h : (lo : Int) ≤ M) : M = (M.toNat : Nat) ∧ lo ≤ M.toNat := by omega
theorem ofm2 {lo hi : Nat} {k : Int} (h : lo ≤ hi) (h1 : (lo : Int) ≤ k) (h2 : k < (lo : Int) + ((hi - lo : Nat) : Int)) : lo ≤ k.toNat ∧ k.toNat < hi ∧ (k + 1).toNat = k.toNat + 1 := by
  obtain ⟨m, rfl⟩ := Int.eq_ofNat_of_zero_le (Int.le_trans (Int.natCast_nonneg lo) h1)
  rw [← Int.natCast_add, Nat.add_sub_cancel' h] at h2
  exact ⟨Int.ofNat_le.mp h1, Int.ofNat_lt.mp h2, rfl⟩
theorem ofm3 {lo hi i : Nat} (h1 : lo ≤ i) (h2 : i < hi) : i - lo < hi - lo ∧ (lo : Int) + ((i - lo : Nat) : Int) = i := by omega
theorem ofm4 {i : Nat} {M : Int} (h : (i : Int) + 1 ≤ M) : i + 1 ≤ M.toNat := by omega
theorem IsPlace.of_max {q : Nat → Bool} {lo hi : Nat} {M : Int} (h : lo ≤ hi) (h1 : M ∈ [(lo : Int)] ++ ((rangeKs lo (hi - lo)).filter (fun i => q i.toNat)).map (fun i => i + 1))
    (h2 : ∀ a ∈ [(lo : Int)] ++ ((rangeKs lo (hi - lo)).filter (fun i => q i.toNat)).map (fun i => i + 1), a ≤ M) : ∃ r : Nat, M = r ∧ IsPlace q lo hi r := by
  obtain ⟨m1, m2⟩ := ofm1 (h2 _ (List.mem_append_left _ (List.mem_singleton.mpr rfl)))
  refine ⟨M.toNat, m1, ?_, m2, ?_⟩
  · rcases List.mem_append.mp h1 with h1 | h1
    · left; rw [List.mem_singleton.mp h1]; rfl
    · obtain ⟨k, hk, rfl⟩ := List.mem_map.mp h1
      obtain ⟨hk, hq⟩ := List.mem_filter.mp hk
      have := mem_rangeKs hk
      obtain ⟨a1, a2, a3⟩ := ofm2 h this.1 this.2
      exact .inr ⟨k.toNat, a1, a2, hq, a3⟩
  · intro i hi1 hi2 hq
    obtain ⟨a1, a2⟩ := ofm3 hi1 hi2
    exact ofm4 (h2 _ (List.mem_append_right _ (List.mem_map.mpr ⟨(i : Int), List.mem_filter.mpr ⟨List.mem_map.mpr ⟨i - lo, List.mem_range.mpr a1, a2⟩, by simpa using hq⟩, rfl⟩)))
theorem rangeSize_of {lo hi : Nat} (h : lo ≤ hi) : Builtin.Range.rangeSize lo hi 1 = ((hi - lo : Nat) : Int) := by
  have := rangeSize_nat lo hi
  rw [this]; omega
section
variable {prog : Program} {w : World} {A : Around} {h₀ : Heap} {L : Addr} {m : Str → Option Value} {env : Env} {ct elt : Expr} {x : Str} {scope : Scope} {cl : List (Str × Addr)} {s : Shared} {S : List (Addr × Obj) → Prop} {Fin : List Value → List (Addr × Obj) → Prop} {news : List (Addr × Obj)}
theorem compT_range {n : Nat} {a : Int} (q : Int → Bool) (e : Int → Int)
    (turn : ∀ k t I oI C oC D m₂ ys h tk (E' : Value → Shared → Prop), a ≤ k → k < a + (n : Int) → LCg.NsObj oC m₂ → m₂ x = some (.int k t) → Fr h₀ L h m → News h₀ L h ((I, oI) :: (C, oC) :: (D, LCg.lst ys) :: news) → LCg.Off3 I C D news → ((@Ne Nat I C) ∧ (@Ne Nat I D) ∧ (@Ne Nat C D)) →
      wpAny (model prog w) A (isTrue ct (compEnvC scope cl C env) (eval ct (compEnvC scope cl C env))) (fun ok s' => if ok = true then
        wpAny (model prog w) A (eval elt (compEnvC scope cl C env)) (LCg.CompEnd h₀ L m { s with heap := h, toks := tk } I oI C oC D (LCg.lst ys) S (fun y news' => q k = true ∧ KCfEl news (e k) y news')) E' s'
        else LCg.CompEnd h₀ L m { s with heap := h, toks := tk } I oI C oC D (LCg.lst ys) S (fun _ news' => q k = false ∧ news' = news) Value.none s') E' { s with heap := h, toks := tk })
    (fin : ∀ ys, IntsAre ys (((rangeKs a n).filter q).map e) → Fin ys news) :
    LCt.CompRestT prog w A h₀ L m env ct elt x scope cl s S (fun i v => ∃ t, v = .int (a + (i : Int)) t) Fin n 0 [] news := by
  have key : ∀ (j i : Nat) (ys : List Value), i + j = n → IntsAre ys ((((rangeKs a n).take i).filter q).map e) → LCt.CompRestT prog w A h₀ L m env ct elt x scope cl s S (fun i v => ∃ t, v = .int (a + (i : Int)) t) Fin j i ys news := by
    intro j
    induction j with
    | zero =>
      intro i ys hi hy
      have e' : i = (rangeKs a n).length := by rw [rangeKs_length]; omega
      rw [e', List.take_length] at hy
      exact LCt.CompRestT.zero (fin ys hy)
    | succ j ih =>
      intro i ys hi hy
      refine LCt.CompRestT.succ ?_
      intro v I oI C oC D m₂ h tk E' hv hC hx F N off ne
      obtain ⟨t, rfl⟩ := hv
      have hk : (rangeKs a n)[i]? = some (a + (i : Int)) := by
        have : i < n := by omega
        simp [rangeKs, this]
      refine wpAny_mono (turn (a + (i : Int)) t I oI C oC D m₂ ys h tk E' (by omega) (by omega) hC hx F N off ne) (fun ok s₂ hq => ?_) fun _ _ e => e
      cases ok with
      | true =>
        simp only [if_true] at hq ⊢
        refine wpAny_mono hq (fun y s₃ hq => ?_) fun _ _ e => e
        obtain ⟨h', tk', nw, e1, F', N', off', hS, hqk, hn, t', hy'⟩ := hq
        subst hn
        refine ⟨h', tk', nw, e1, F', N', off', hS, ?_⟩
        rw [hy']
        refine ih (i + 1) _ (by omega) ?_
        rw [List.take_add_one, hk, List.filter_append, List.map_append]
        simp only [Option.toList, List.filter_cons, hqk, if_true, List.filter_nil, List.map_cons, List.map_nil]
        exact IntsAre.append hy (.cons (e (a + i)) t' .nil)
      | false =>
        simp only [Bool.false_eq_true, if_false] at hq ⊢
        obtain ⟨h', tk', nw, e1, F', N', off', hS, hqk, hn⟩ := hq
        subst hn
        refine ⟨h', tk', nw, e1, F', N', off', hS, ?_⟩
        refine ih (i + 1) _ (by omega) ?_
        rw [List.take_add_one, hk, List.filter_append, List.map_append]
        simpa only [Option.toList, List.filter_cons, hqk, Bool.false_eq_true, if_false, List.filter_nil, List.map_nil, List.append_nil] using hy
  exact key n 0 [] (by omega) (by simp only [List.take_zero, List.filter_nil, List.map_nil]; exact .nil)
end
section
variable {prog : Program} {w : World} {p : Program} {loose : List Str} {mean : ExcName → Option Value} {mg mb : Str → Option Value}
theorem srange {lo hi : Nat} (h1 : lo ≤ hi) (h2 : hi ≤ 31) : PySem.Builtin.Range.small (lo : Int) (hi : Int) 1 = true := small_one (by omega) (by omega) (by omega) (by omega)
theorem ssize1 {lo hi : Nat} (h2 : hi ≤ 31) : hi - lo ≤ PySem.sizeLine := by rw [PySem.sizeLine_eq]; omega
theorem ssize2 {lo hi : Nat} (h2 : hi ≤ 31) : 1 + (hi - lo) ≤ PySem.sizeLine := by rw [PySem.sizeLine_eq]; omega
theorem kbound {lo hi : Nat} {k : Int} (h1 : lo ≤ hi) (h2 : hi ≤ 31) (h3 : (lo : Int) ≤ k) (h4 : k < (lo : Int) + ((hi - lo : Nat) : Int)) : 0 ≤ k ∧ k < 31 := by omega
theorem places {ca : Addr} {n : Nat} {vs : List Value} {cs' : List Int} {rest : List (Addr × Obj)} (hI : IntsAre vs cs') (hl : cs'.length = 31) {x : Int} {lo hi : Nat} {tx tl th : Tok} (h1 : lo ≤ hi) (h2 : hi ≤ 31) :
    Calls prog w p loose mean mg mb 98 1 8 ((ca, listOf vs.toArray n) :: rest) [.ref ca, .int x tx, .int lo tl, .int hi th] []
      (fun v nw => ∃ l t1 t2 r1 r2, v = .ref l ∧ nw = (l, listOf #[.int (r1 : Nat) t1, .int (r2 : Nat) t2] 0) :: (ca, listOf vs.toArray n) :: rest ∧ (∀ p ∈ (ca, listOf vs.toArray n) :: rest, p.1 < l) ∧
        IsPlace (fun i => decide (cs'.getD i 0 < x)) lo hi r1 ∧ IsPlace (fun i => decide (cs'.getD i 0 ≤ x)) lo hi r2) := by
  intro dp un gd cn cs a ccd cl outer A₀ base h₀ L m s Q E B F X N T hk hd hu hret
  (refine wpAny_call ?_; k_dflt (refine' code_defC ?k1 ?k2 ?k3 ?k4 ?k5 ?kA ?kF ?kK ?k6 ?k7 ?k8 ?k9 ?kB ?kD ?_ ?c2 ?c3 ?c4; (case kA => exact rfl); (case kF => exact rfl); (case kK => assumption); (case k1 => k_asm); (case k2 => k_asm); (case k3 => k_asm); (case k4 => k_asm); (case k5 => k_asm); (case k6 => k_is); (case k7 => k_is); (case k8 => ktr_room); (case k9 => first | exact BindsTo.of_eq rfl); (case kB => exact rfl); (case kD => decide +kernel); (case c2 => exact rfl); (case c3 => exact rfl); (case c4 => exact rfl); k_whole; intro g' L' h' tk' cells' FG' F' N' Y' B' X' T' l1; (try k_lt l1); k_cells Y'; (try simp only [List.cons_append, List.nil_append] at N'); (try dsimp only); (try k_lift B'); (try k_fold)); k_steps)
  refine Stop.out ?_
  refine LCt.CompSrcT.range (n := hi - lo) (by rfl) (by k_asm) (by k_asm) (by assumption) (by exact srange h1 h2) (rangeSize_of h1) (ssize1 h2) ?_
  intro g'
  refine compT_range (fun i => (fun i => decide (cs'.getD i 0 < x)) i.toNat) (fun i => i + 1) ?_ ?_
  · intro k t I oI C oC D m₂ ys h tk E' hk1 hk2 hC hx F1 N1 off ne
    obtain ⟨hk3, hk4⟩ := kbound h1 h2 hk1 hk2
    clear hk1 hk2
    k_steps
    · exact Stop.out (LCg.CompEnd.intro (by assumption) (by assumption) _ (fun _ h => h) off trivial ⟨decide_eq_true (by assumption), rfl, _, rfl⟩)
    · exact Stop.out (LCg.CompEnd.intro (by assumption) (by assumption) _ (fun _ h => h) off trivial ⟨decide_eq_false (by assumption), rfl⟩)
  intro ys hy
  have hlen := hy.length
  have hfl := List.length_filter_le (fun i : Int => (fun i => decide (cs'.getD i 0 < x)) i.toNat) (rangeKs lo (hi - lo))
  rw [List.length_map] at hlen
  rw [rangeKs_length] at hfl
  k_steps
  refine Stop.out (kmk_add_ints (by k_asm) (by k_asm) (by kmk_list) (by kmk_list) (.cons _ _ .nil) hy ?_ (Nat.le_trans (Nat.add_le_add_left (by rw [List.length_map]; exact hfl) 1) (ssize2 h2)))
  intro D1 us1 h3 F3 N3 l3 hI3
  k_lt l3
  k_steps
  refine Stop.out (kso_max (by k_asm) (by k_asm) (by kso_list) hI3 (by simp) rfl ?_)
  intro h4 M1 t4 tk4 F4 N4 hM1 hM1'
  obtain ⟨r1, rfl, hr1⟩ := IsPlace.of_max (q := fun i => decide (cs'.getD i 0 < x)) h1 hM1 hM1'
  k_steps
  refine Stop.out ?_
  refine LCt.CompSrcT.range (n := hi - lo) (by rfl) (by k_asm) (by k_asm) (by assumption) (by exact srange h1 h2) (rangeSize_of h1) (ssize1 h2) ?_
  intro g'
  refine compT_range (fun i => (fun i => decide (cs'.getD i 0 ≤ x)) i.toNat) (fun i => i + 1) ?_ ?_
  · intro k t I oI C oC D m₂ ys h tk E' hk1 hk2 hC hx F1 N1 off ne
    obtain ⟨hk3, hk4⟩ := kbound h1 h2 hk1 hk2
    clear hk1 hk2
    k_steps
    · exact Stop.out (LCg.CompEnd.intro (by assumption) (by assumption) _ (fun _ h => h) off trivial ⟨decide_eq_true (by assumption), rfl, _, rfl⟩)
    · exact Stop.out (LCg.CompEnd.intro (by assumption) (by assumption) _ (fun _ h => h) off trivial ⟨decide_eq_false (by assumption), rfl⟩)
  intro ys hy
  have hlen := hy.length
  have hfl := List.length_filter_le (fun i : Int => (fun i => decide (cs'.getD i 0 ≤ x)) i.toNat) (rangeKs lo (hi - lo))
  rw [List.length_map] at hlen
  rw [rangeKs_length] at hfl
  k_steps
  refine Stop.out (kmk_add_ints (by k_asm) (by k_asm) (by kmk_list) (by kmk_list) (.cons _ _ .nil) hy ?_ (Nat.le_trans (Nat.add_le_add_left (by rw [List.length_map]; exact hfl) 1) (ssize2 h2)))
  intro D1 us1 h3 F3 N3 l3 hI3
  k_lt l3
  k_steps
  refine Stop.out (kso_max (by k_asm) (by k_asm) (by kso_list) hI3 (by simp) rfl ?_)
  intro h4 M1 t4 tk4 F4 N4 hM1 hM1'
  obtain ⟨r2, rfl, hr2⟩ := IsPlace.of_max (q := fun i => decide (cs'.getD i 0 ≤ x)) h1 hM1 hM1'
  k_steps
  exact hret _ _ _ _ (by k_asm) (cb_drop (by k_asm) (by kcf_all)) ⟨_, _, _, r1, r2, rfl, rfl, allLt_mem (l := (ca, listOf vs.toArray n) :: rest) ⟨by dsimp only; omega, by (first | assumption | exact (And.right (by assumption)) | exact (And.right (And.right (by assumption))) | exact (And.right (And.right (And.right (by assumption)))) | exact (And.right (And.right (And.right (And.right (by assumption))))) | exact (And.right (And.right (And.right (And.right (And.right (by assumption)))))) | exact (And.right (And.right (And.right (And.right (And.right (And.right (by assumption))))))) | exact (And.right (And.right (And.right (And.right (And.right (And.right (And.right (by assumption)))))))) | exact (And.right (And.right (And.right (And.right (And.right (And.right (And.right (And.right (by assumption))))))))) | exact (And.right (And.right (And.right (And.right (And.right (And.right (And.right (And.right (And.right (by assumption)))))))))) | exact (And.right (And.right (And.right (And.right (And.right (And.right (And.right (And.right (And.right (And.right (by assumption))))))))))) | exact (And.right (And.right (And.right (And.right (And.right (And.right (And.right (And.right (And.right (And.right (And.right (by assumption)))))))))))) | exact (And.right (And.right (And.right (And.right (And.right (And.right (And.right (And.right (And.right (And.right (And.right (And.right (by assumption))))))))))))) | exact (And.right (And.right (And.right (And.right (And.right (And.right (And.right (And.right (And.right (And.right (And.right (And.right (And.right (by assumption)))))))))))))) | exact (And.right (And.right (And.right (And.right (And.right (And.right (And.right (And.right (And.right (And.right (And.right (And.right (And.right (And.right (by assumption))))))))))))))) | exact (And.right (And.right (And.right (And.right (And.right (And.right (And.right (And.right (And.right (And.right (And.right (And.right (And.right (And.right (And.right (by assumption)))))))))))))))))⟩, hr1, hr2⟩
end
end Mine
end
theorem Mine.flushC5 : True ∧ True := by
  w_top off
  first | (walk1; done) | exact ⟨trivial, trivial⟩
section
namespace Mine
local macro_rules | `(tactic| walk_at "eval ListComp") => `(tactic| (k_here; k_dflt (refine LCg.ListComp_U (F₀ := by k_asm) (by with_unfolding_all rfl) (by decide) (by rfl) (by decide) (by rfl) ?_)))
local macro_rules | `(tactic| walk_at "exec Assign cons ListComp") => `(tactic| (k_here; k_dflt (refine LCg.Assign_ListComp_U (F₀ := by k_asm) (by rfl) (by with_unfolding_all rfl) (by with_unfolding_all rfl) (by decide) (by rfl) (by decide) (by rfl) (by rfl) (by rfl) ?_)))
local macro_rules | `(tactic| walk_at "CompSrc") => `(tactic| (refine Stop.go ?_))
local macro_rules | `(tactic| walk_at "CompEnd") => `(tactic| (refine Stop.go ?_))

/-- hidden equations: the walk's arithmetic shall not open them -/
structure IsPow (P e : Int) : Prop where
  eq : P = 2 ^ e.toNat
structure IsDiv (q a b : Int) : Prop where
  eq : q = a / b
structure IsMul (r a b : Int) : Prop where
  eq : r = a * b
theorem pow2_fin : ∀ n : Fin 6, 1 ≤ (2 : Int) ^ n.1 ∧ (2 : Int) ^ n.1 ≤ 32 := by decide
theorem pow2_le {e : Int} (h0 : 0 ≤ e) (h1 : e ≤ 5) : 1 ≤ (2 : Int) ^ e.toNat ∧ (2 : Int) ^ e.toNat ≤ 32 := by
  exact pow2_fin ⟨e.toNat, by omega⟩
section
variable {prog : Program} {w : World} {A : Around} {E : Value → Shared → Prop} {s : Shared} {t u : Tok} {Q : Value → Shared → Prop}
theorem pow2_gen {e : Int} (h0 : 0 ≤ e) (h1 : e ≤ 5) (h : ∀ P, IsPow P e → 1 ≤ P → P ≤ 32 → Q (.int P s.toks) { s with toks := s.toks + 1 }) :
    wpAny (model prog w) A (binaryOp .Pow (.int 2 t) (.int e u)) Q E s :=
  pow_int_small h0 (by omega) (by decide) (h _ ⟨rfl⟩ (pow2_le h0 h1).1 (pow2_le h0 h1).2)
theorem fdiv_gen {a b : Int} (hb : 1 ≤ b) (hb' : b ≤ 32) (ha : 0 ≤ a) (ha' : a ≤ 31) (h : ∀ q, IsDiv q a b → 0 ≤ q → q ≤ 31 → Q (.int q s.toks) { s with toks := s.toks + 1 }) :
    wpAny (model prog w) A (binaryOp .FloorDiv (.int a t) (.int b u)) Q E s := by
  refine floordiv_int (by omega) ?_ (Or.inl (PyProof.noPylong_small (by omega)))
  rw [Int.fdiv_eq_ediv_of_nonneg _ (by omega)]
  exact h _ ⟨rfl⟩ (Int.ediv_nonneg ha (by omega)) (Int.le_trans (Int.ediv_le_self _ ha) ha')
theorem mul_gen {a b : Int} (hb : 1 ≤ b) (hb' : b ≤ 32) (h : ∀ r, IsMul r a b → Q (.int r s.toks) { s with toks := s.toks + 1 }) :
    wpAny (model prog w) A (binaryOp .Mult (.int a t) (.int b u)) Q E s :=
  mul_int (h _ ⟨rfl⟩) (IntMulOk.of_right (intBits_le_64 (by omega) (by omega)))
end
local macro_rules | `(tactic| walk_at "binaryOp Pow int int") => `(tactic| (refine pow2_gen (by omega) (by omega) ?_; intro P hP hP1 hP2))
local macro_rules | `(tactic| walk_at "binaryOp FloorDiv int int") => `(tactic| (refine fdiv_gen (by omega) (by omega) (by omega) (by omega) ?_; intro q hq hq1 hq2))
local macro_rules | `(tactic| walk_at "binaryOp Mult int int") => `(tactic| (refine mul_gen (by omega) (by omega) ?_; intro r hr))
/-- the spots that a halving of 2 ^ size - 1 places asks on its way to a place -/
def spotsOf (place size : Nat) : List Nat := (List.range size).map fun k => place / 2 ^ (size - k) * 2 ^ (size - k) + 2 ^ (size - 1 - k) - 1
def spotI (place size : Nat) (k : Int) : Int := (place / 2 ^ (size - k.toNat) * 2 ^ (size - k.toNat) + 2 ^ (size - 1 - k.toNat) - 1 : Nat)
theorem spot_eq {place size : Nat} {k P q r P' : Int} (h0 : 0 ≤ k) (h1 : k < size) (hP : IsPow P (size - k)) (hq : IsDiv q place P) (P2 : Int) (hP2 : IsPow P2 (size - k)) (hr : IsMul r q P2) (hP' : IsPow P' (size - 1 - k)) : r + P' - 1 = spotI place size k := by
  obtain ⟨rfl⟩ := hP; obtain ⟨rfl⟩ := hP2; obtain ⟨rfl⟩ := hP'; obtain ⟨rfl⟩ := hq; obtain ⟨rfl⟩ := hr
  unfold spotI
  obtain ⟨k, rfl⟩ := Int.eq_ofNat_of_zero_le h0
  have e1 : ((size : Int) - (k : Int)).toNat = size - (k : Int).toNat := Int.toNat_sub _ _
  have e2 : ((size : Int) - 1 - (k : Int)).toNat = size - 1 - (k : Int).toNat := by
    rw [Int.sub_sub]; exact (Int.toNat_sub size (1 + k)).trans (Nat.sub_add_eq size 1 k)
  rw [e1, e2]
  rw [Int.natCast_sub (Nat.le_trans Nat.one_le_two_pow (Nat.le_add_left _ _))]
  simp only [Int.natCast_add, Int.natCast_mul, Int.natCast_ediv, Int.natCast_pow]
  rfl
abbrev NT := List ((Addr × Tok) × Nat)
/-- a note: a pair of a thing and its cost -/
abbrev noteObj (tv : List Value) (cf : Nat → Int) (e : (Addr × Tok) × Nat) : Addr × Obj := (e.1.1, tupOf [tv.getD e.2 .none, .int (cf e.2) e.1.2])
abbrev noteObjs (tv : List Value) (cf : Nat → Int) (ts : NT) : List (Addr × Obj) := ts.map (noteObj tv cf)
abbrev noteRefs (ts : NT) : List Value := ts.map fun e => .ref e.1.1
theorem lt_of {h₀ h : Heap} {L d : Addr} {l : List (Addr × Obj)} (_N : News h₀ L h l) (a : AllLt d l) : ∀ p ∈ l, p.1 < d := allLt_mem a
theorem off1_mem {D : Addr} : ∀ {l : List (Addr × Obj)}, LCg.Off1 D l → ∀ p ∈ l, p.1 ≠ D := by
  intro l
  induction l with
  | nil => intro _ p hp; exact nomatch hp
  | cons q r ih =>
    intro h p hp
    rcases List.mem_cons.mp hp with e | hp
    · rw [e]; exact h.1
    · exact ih h.2 p hp
theorem sub_snoc {i c d o : Addr × Obj} {nw : List (Addr × Obj)} : ∀ p ∈ i :: c :: d :: (nw ++ [o]), p ∈ o :: i :: c :: d :: nw := by
  intro p hp
  simp only [List.mem_cons, List.mem_append, List.not_mem_nil, or_false] at hp ⊢
  rcases hp with h | h | h | h | h
  · exact .inr (.inl h)
  · exact .inr (.inr (.inl h))
  · exact .inr (.inr (.inr (.inl h)))
  · exact .inr (.inr (.inr (.inr h)))
  · exact .inl h
theorem sub_snoc7 {i c d o a1 a2 a3 a4 a5 a6 a7 : Addr × Obj} {r ex : List (Addr × Obj)} : ∀ p ∈ i :: c :: d :: a1 :: a2 :: a3 :: a4 :: a5 :: a6 :: a7 :: (r ++ ex ++ [o]), p ∈ o :: i :: c :: d :: a1 :: a2 :: a3 :: a4 :: a5 :: a6 :: a7 :: (r ++ ex) :=
  sub_snoc (nw := a1 :: a2 :: a3 :: a4 :: a5 :: a6 :: a7 :: (r ++ ex))
theorem off_snoc {I C D : Addr} {nw : List (Addr × Obj)} {o : Addr × Obj} (h : LCg.Off3 I C D nw) (h1 : @Ne Nat o.1 I) (h2 : @Ne Nat o.1 C) (h3 : @Ne Nat o.1 D) : LCg.Off3 I C D (nw ++ [o]) :=
  LCg.Off3.of fun p hp => by
    rcases List.mem_append.mp hp with hp | hp
    · exact h.mem p hp
    · rw [List.mem_singleton.mp hp]; exact ⟨h1, h2, h3⟩
section
variable {prog : Program} {w : World} {A : Around} {h₀ : Heap} {L : Addr} {m : Str → Option Value} {env : Env} {elt : Expr} {x : Str} {scope : Scope} {cl : List (Str × Addr)} {s : Shared} {S : List (Addr × Obj) → Prop} {Fin : List Value → List (Addr × Obj) → Prop} {news : List (Addr × Obj)}
theorem comp_tups {ys : List Value} {ks : List Nat} (tv : List Value) (cf : Nat → Int) (hI : IntsAre ys (ks.map fun k : Nat => (k : Int))) (hS : ∀ ts, S (news ++ noteObjs tv cf ts))
    (turn : ∀ (k : Nat) t I oI C oC D m₂ zs ex h tk (E' : Value → Shared → Prop), k ∈ ks → LCg.NsObj oC m₂ → m₂ x = some (.int k t) → Fr h₀ L h m → News h₀ L h ((I, oI) :: (C, oC) :: (D, LCg.lst zs) :: (news ++ ex)) → LCg.Off3 I C D (news ++ ex) → ((@Ne Nat I C) ∧ (@Ne Nat I D) ∧ (@Ne Nat C D)) →
      wpAny (model prog w) A (eval elt (compEnvC scope cl C env)) (LCg.CompEnd h₀ L m { s with heap := h, toks := tk } I oI C oC D (LCg.lst zs) (fun _ => True) (fun y news' => ∃ a t', y = .ref a ∧ news' = (news ++ ex) ++ [noteObj tv cf ((a, t'), k)] ∧ ∀ p ∈ news, p.1 < a)) E' { s with heap := h, toks := tk })
    (fin : ∀ ts : NT, ts.map (·.2) = ks → (∀ e ∈ ts, ∀ p ∈ news, p.1 < e.1.1) → Fin (noteRefs ts) (news ++ noteObjs tv cf ts)) :
    LCg.CompRest prog w A h₀ L m env elt x scope cl s S (fun i v => ys.toArray[i]? = some v) Fin ys.toArray.size 0 [] news := by
  have hlen : ys.length = ks.length := by rw [hI.length, List.length_map]
  have key : ∀ (j i : Nat) (ts : NT), i + j = ks.length → ts.map (·.2) = ks.take i → (∀ e ∈ ts, ∀ p ∈ news, p.1 < e.1.1) → LCg.CompRest prog w A h₀ L m env elt x scope cl s S (fun i v => ys.toArray[i]? = some v) Fin j i (noteRefs ts) (news ++ noteObjs tv cf ts) := by
    intro j
    induction j with
    | zero =>
      intro i ts hi hts hfr
      have e' : i = ks.length := by omega
      rw [e', List.take_length] at hts
      exact LCg.CompRest.zero (fin ts hts hfr)
    | succ j ih =>
      intro i ts hi hts hfr
      refine LCg.CompRest.succ ?_
      intro v I oI C oC D m₂ h tk E' hv hC hx F N off ne
      obtain ⟨k', t, e, hk⟩ := IntsAre.at hI i v (by simpa using hv)
      rw [List.getElem?_map] at hk
      obtain ⟨k, hk2, rfl⟩ := Option.map_eq_some_iff.mp hk
      clear hk
      subst e
      refine wpAny_mono (turn k t I oI C oC D m₂ (noteRefs ts) _ h tk E' (List.mem_of_getElem? hk2) hC hx F N off ne) (fun y s₂ hq => ?_) fun _ _ e => e
      obtain ⟨h', tk', nw, e1, F', N', off', _, a, t', rfl, rfl, hlt⟩ := hq
      have e2 : news ++ noteObjs tv cf ts ++ [noteObj tv cf ((a, t'), k)] = news ++ noteObjs tv cf (ts ++ [((a, t'), k)]) := by simp [noteObjs]
      rw [e2] at N' off'
      refine ⟨h', tk', _, e1, F', N', off', hS _, ?_⟩
      dsimp only
      rw [show noteRefs ts ++ [Value.ref a] = noteRefs (ts ++ [((a, t'), k)]) by simp [noteRefs]]
      refine ih (i + 1) _ (by omega) ?_ ?_
      · rw [List.map_append, hts, List.take_add_one, hk2]; rfl
      · intro e he p hp
        rcases List.mem_append.mp he with he | he
        · exact hfr e he p hp
        · rw [List.mem_singleton.mp he]; exact hlt p hp
  have := key ks.length 0 [] (by omega) (by simp) (by intro e he; exact nomatch he)
  rw [show ys.toArray.size = ks.length by rw [List.size_toArray, hlen]]
  simpa [noteObjs, noteRefs] using this
end
local macro_rules | `(tactic| walk_at "subscriptTail") => `(tactic| (refine Stop.go ?_))
local macro_rules | `(tactic| walk_at "subscriptTail Name Name ref int") => `(tactic| (refine Stop.go ?_))
section
variable {prog : Program} {w : World} {p : Program} {loose : List Str} {mean : ExcName → Option Value} {mg mb : Str → Option Value}
theorem steps {ta ca : Addr} {n1 n2 : Nat} {tv vs : List Value} {cs' : List Int} {rest : List (Addr × Obj)} (hI : IntsAre vs cs') (hl : cs'.length = 31) (ht : tv.length = 31) {place size : Nat} {tp ts : Tok} (h1 : place ≤ 31) (h2 : size ≤ 5) (h3 : ∀ k ∈ spotsOf place size, k < 31) :
    Calls prog w p loose mean mg mb 103 1 8 ((ta, listOf tv.toArray n1) :: (ca, listOf vs.toArray n2) :: rest) [.ref ta, .ref ca, .int place tp, .int size ts] []
      (fun v nw => ∃ l n ts, v = .ref l ∧ ts.map (·.2) = spotsOf place size ∧ nw = (l, listOf (noteRefs ts).toArray n) :: (ta, listOf tv.toArray n1) :: (ca, listOf vs.toArray n2) :: (rest ++ noteObjs tv (fun i => cs'.getD i 0) ts) ∧
        (∀ p ∈ (ta, listOf tv.toArray n1) :: (ca, listOf vs.toArray n2) :: rest, p.1 ≠ l ∧ ∀ e ∈ ts, p.1 ≠ e.1.1)) := by
  intro dp un gd cn cs a ccd cl outer A₀ base h₀ L m s Q E B F X N T hk hd hu hret
  (refine wpAny_call ?_; k_dflt (refine' code_defC ?k1 ?k2 ?k3 ?k4 ?k5 ?kA ?kF ?kK ?k6 ?k7 ?k8 ?k9 ?kB ?kD ?_ ?c2 ?c3 ?c4; (case kA => exact rfl); (case kF => exact rfl); (case kK => assumption); (case k1 => k_asm); (case k2 => k_asm); (case k3 => k_asm); (case k4 => k_asm); (case k5 => k_asm); (case k6 => k_is); (case k7 => k_is); (case k8 => ktr_room); (case k9 => first | exact BindsTo.of_eq rfl); (case kB => exact rfl); (case kD => decide +kernel); (case c2 => exact rfl); (case c3 => exact rfl); (case c4 => exact rfl); k_whole; intro g' L' h' tk' cells' FG' F' N' Y' B' X' T' l1; (try k_lt l1); k_cells Y'; (try simp only [List.cons_append, List.nil_append] at N'); (try dsimp only); (try k_lift B'); (try k_fold)); k_steps)
  refine Stop.out ?_
  refine LCg.CompSrc.range (n := size) (by rfl) (by k_asm) (by k_asm) (by assumption) (by exact srange (lo := 0) (hi := size) (Nat.zero_le _) (Nat.le_trans h2 (by decide))) (rangeSize_of (lo := 0) (Nat.zero_le _)) (ssize1 (lo := 0) (Nat.le_trans h2 (by decide))) ?_
  intro g'
  refine kcf_range (spotI place size) ?_ ?_
  · intro k t I oI C oC D m₂ ys h tk E' hk1 hk2 hC hx F1 N1 off ne _
    k_steps
    rename_i P1 p1 _ _ q q1 _ _ P2 p2 _ _ r r1 P3 p3 _ _
    have e := spot_eq (place := place) (size := size) (k := k) (by omega) (by omega) p1 q1 P2 p2 r1 p3
    exact Stop.out (LCg.CompEnd.intro F1 N1 _ (fun _ h => h) off trivial ⟨rfl, _, congrArg (fun z => Value.int z _) e⟩)
  · intro ys hy
    have hy' : IntsAre ys ((spotsOf place size).map fun k : Nat => (k : Int)) := by
      rw [show (spotsOf place size).map (fun k : Nat => (k : Int)) = (rangeKs 0 size).map (spotI place size) by simp [spotsOf, rangeKs, spotI]]
      exact hy
    have hlen : ys.length = size := by rw [hy.length, List.length_map, rangeKs_length]
    k_steps
    refine Stop.out ?_
    refine LCg.CompSrc.ledger (by rfl) (by k_asm) (by k_asm) (by k_mem) (by rw [PySem.sizeLine_eq, List.size_toArray]; omega) ?_
    intro g'
    refine comp_tups tv (fun i => cs'.getD i 0) hy' ?_ ?_ ?_
    · intro ts
      exact .inr ⟨_, List.mem_append_left _ (by k_mem), rfl, _, rfl⟩
    · intro k t I oI C oC D m₂ zs ex h tk E' hk hC hx F1 N1 off ne
      simp only [List.cons_append] at N1 off
      have hk31 := h3 k hk
      k_steps
      refine Stop.out (item_litK (v := tv.getD k .none) (News.isList N1 (by k_mem)) (by omega) (by omega) (by rw [Int.toNat_natCast, List.getD_eq_getElem?_getD, List.getElem?_eq_getElem (by omega)]; rfl) ?_)
      k_steps
      obtain ⟨v2, hv2⟩ : ∃ v, vs[k]? = some v := ⟨_, List.getElem?_eq_getElem (by rw [hI.length]; omega)⟩
      obtain ⟨c2, t2, rfl, hc2⟩ := IntsAre.at hI k v2 hv2
      have hc3 : cs'.getD k 0 = c2 := by rw [List.getD_eq_getElem?_getD, hc2]; rfl
      refine Stop.out (item_litK (v := .int c2 t2) (News.isList N1 (by k_mem)) (by omega) (by omega) (by rw [Int.toNat_natCast]; exact hv2) ?_)
      rw [← hc3]
      have lt1 := fun d a => lt_of (d := d) N1 a
      k_steps
      rename_i l9
      have l10 := lt1 _ l9
      exact Stop.out (LCg.CompEnd.intro (by assumption) (by assumption) _ (by exact sub_snoc7)
        (by exact off_snoc off (Nat.ne_of_gt (l10 _ (.head _))) (Nat.ne_of_gt (l10 _ (.tail _ (.head _)))) (Nat.ne_of_gt (l10 _ (.tail _ (.tail _ (.head _)))))) trivial
        ⟨_, _, rfl, rfl, fun p hp => l10 p (.tail _ (.tail _ (.tail _ (List.mem_append_left ex hp))))⟩)
    · intro ts hts hfr
      k_steps
      have ho := off1_mem (by assumption : LCg.Off1 _ (_ ++ noteObjs tv (fun i => cs'.getD i 0) ts))
      refine hret _ _ _ _ (by k_asm) (cb_drop (by k_asm) ?_) ⟨_, (noteRefs ts).length, ts, rfl, hts, rfl, fun p hp => ⟨ho p (List.mem_append_left _ (.tail _ (.tail _ (.tail _ (.tail _ (.tail _ hp)))))), fun e he => Nat.ne_of_lt (hfr e he p (.tail _ (.tail _ (.tail _ (.tail _ (.tail _ hp))))))⟩⟩
      intro p hp
      rcases List.mem_cons.mp hp with e | hp
      · rw [e]; exact .head _
      · exact .tail _ (.tail _ (.tail _ (.tail _ (.tail _ (.tail _ hp)))))
end
end Mine
end
theorem Mine.flushC6 : True ∧ True := by
  w_top off
  first | (walk1; done) | exact ⟨trivial, trivial⟩
section
namespace Mine
theorem neAll {l : List (Addr × Obj)} {a b : Nat} (h : ∀ p ∈ l, p.1 < a) (e : a ≤ b) : ∀ p ∈ l, p.1 ≠ b := fun p hp => Nat.ne_of_lt (Nat.lt_of_lt_of_le (h p hp) e)
local macro_rules | `(tactic| walk_at "eval ListComp") => `(tactic| (k_here; k_dflt (refine LCg.ListComp_U (F₀ := by k_asm) (by with_unfolding_all rfl) (by decide) (by rfl) (by decide) (by rfl) ?_)))
local macro_rules | `(tactic| walk_at "CompSrc") => `(tactic| (refine Stop.go ?_))
local macro_rules | `(tactic| walk_at "CompEnd") => `(tactic| (refine Stop.go ?_))
local macro_rules | `(tactic| walk_at "RangeRest") => `(tactic| (refine Stop.go ?_))
local macro_rules | `(tactic| walk_at "UnrEnd") => `(tactic| (refine Stop.go ?_))
local macro_rules | `(tactic| walk_at "binaryOp Add ref ref") => `(tactic| (refine Stop.go ?_))
local macro_rules | `(tactic| walk_at "binaryOp Pow int int") => `(tactic| (refine pow2_gen (by omega) (by omega) ?_; intro P hP hP1 hP2))
local macro_rules | `(tactic| k_all) => `(tactic| first | assumption | exact neAll (by assumption) (by omega))

def powOf (total : Int) : Nat → Int
  | 0 => 2 ^ (total % 3).toNat
  | k + 1 => powOf total k * (4 - 2 * (total / 2 ^ k % 2))
def sumsOf (total : Int) : Nat → List Int
  | 0 => [0]
  | k + 1 => sumsOf total k ++ (sumsOf total k).map (fun c => c + powOf total k)
theorem sums_len (total : Int) : ∀ k, (sumsOf total k).length = 2 ^ k
  | 0 => rfl
  | k + 1 => by rw [sumsOf, List.length_append, List.length_map, sums_len total k]; omega
section
variable {prog : Program} {w : World} {A : Around} {E : Value → Shared → Prop} {s : Shared} {env : Env} {h₀ : Heap} {x : Str} {body : List Stmt} {Q : Flow → Shared → Prop}
theorem unr_ind {I : Addr} {a : Int} {n : Nat} {m0 : Str → Option Value} {nw0 : List (Addr × Obj)} (J : Nat → (Str → Option Value) → List (Addr × Obj) → Prop)
    (turn : ∀ i m1 nw t h tk, i < n → J i m1 nw → Fr h₀ env.locals h (fun y => if y = x then some (.int (a + (i : Int)) t) else m1 y) → News h₀ env.locals h ((I, itR (a + ((i + 1 : Nat) : Int)) ((n : Int) - ((i + 1 : Nat) : Int))) :: nw) →
      wpAny (model prog w) A (execs body env) (UnrPost h₀ env.locals { s with heap := h, toks := tk } I (itR (a + ((i + 1 : Nat) : Int)) ((n : Int) - ((i + 1 : Nat) : Int))) (J (i + 1)) Q) E { s with heap := h, toks := tk })
    (fin : ∀ m1 nw h tk, J n m1 nw → Fr h₀ env.locals h m1 → News h₀ env.locals h nw → Q .next { s with heap := h, toks := tk }) (start : J 0 m0 nw0) :
    RangeRest prog w A E h₀ env x body Q s I a n n 0 m0 nw0 := by
  have key : ∀ (k i : Nat) (m1 : Str → Option Value) (nw : List (Addr × Obj)), i + k = n → J i m1 nw → RangeRest prog w A E h₀ env x body Q s I a n k i m1 nw := by
    intro k
    induction k with
    | zero =>
      intro i m1 nw hi hJ
      obtain rfl : i = n := by omega
      exact RangeRest.zero fun h tk F N => fin m1 nw h tk hJ F N
    | succ k ih =>
      intro i m1 nw hi hJ
      refine RangeRest.succ fun t h tk F N => ?_
      refine wpAny_mono (turn i m1 nw t h tk (by omega) hJ F N) (fun f s₂ hp => ?_) fun _ _ e => e
      have up : UnrEnd h₀ env.locals { s with heap := h, toks := tk } I (itR (a + ((i + 1 : Nat) : Int)) ((n : Int) - ((i + 1 : Nat) : Int))) (J (i + 1)) s₂ →
          UnrEnd h₀ env.locals { s with heap := h, toks := tk } I (itR (a + ((i + 1 : Nat) : Int)) ((n : Int) - ((i + 1 : Nat) : Int))) (RangeRest prog w A E h₀ env x body Q s I a n k (i + 1)) s₂ := by
        rintro ⟨h', tk', m', nw', e, F', N', off, hJ'⟩
        exact ⟨h', tk', m', nw', e, F', N', off, ih (i + 1) m' nw' (by omega) hJ'⟩
      cases f with
      | ret v => exact hp
      | brk => exact hp
      | next => exact up hp
      | cont => exact up hp
  exact key n 0 m0 nw0 (by omega) start
end
section
variable {prog : Program} {w : World} {A : Around} {E : Value → Shared → Prop} {s : Shared} {t u : Tok} {Q : Value → Shared → Prop}
theorem fdivA_gen {a b : Int} (hb : 1 ≤ b) (hb' : b ≤ 32) (h : ∀ q, IsDiv q a b → Q (.int q s.toks) { s with toks := s.toks + 1 }) :
    wpAny (model prog w) A (binaryOp .FloorDiv (.int a t) (.int b u)) Q E s := by
  have hl : b.natAbs.log2 < 9000 := by
    have : b.natAbs < 2 ^ 9000 := Nat.lt_of_le_of_lt (show b.natAbs ≤ 32 by omega) (Nat.lt_of_lt_of_le (show 32 < 2 ^ 6 by decide) (Nat.pow_le_pow_right (by decide) (by decide)))
    by_cases h0 : b.natAbs = 0
    · rw [h0]; decide
    · exact (Nat.log2_lt h0).mpr this
  refine floordiv_int (by omega) ?_ (Or.inl (PyProof.noPylong_of_log2 hl))
  rw [Int.fdiv_eq_ediv_of_nonneg _ (by omega)]
  exact h _ ⟨rfl⟩
theorem mulS_gen {a b : Int} (hb : -64 ≤ b) (hb' : b ≤ 64) (h : ∀ r, IsMul r a b → Q (.int r s.toks) { s with toks := s.toks + 1 }) :
    wpAny (model prog w) A (binaryOp .Mult (.int a t) (.int b u)) Q E s :=
  mul_int (h _ ⟨rfl⟩) (IntMulOk.of_right (intBits_le_64 (by omega) (by omega)))
end
local macro_rules | `(tactic| walk_at "binaryOp FloorDiv int int") => `(tactic| (refine fdivA_gen (by omega) (by omega) ?_; intro q hq))
theorem m_two {m1 : Str → Option Value} {a b : Str} {va vb : Value} (ha : m1 a = some va) (hb : m1 b = some vb) : m1 = fun y => if y = a then some va else if y = b then some vb else m1 y := by
  funext y
  by_cases h1 : y = a
  · rw [if_pos h1, h1, ha]
  · rw [if_neg h1]
    by_cases h2 : y = b
    · rw [if_pos h2, h2, hb]
    · rw [if_neg h2]
theorem pow_next {total : Int} {i : Nat} {P q r : Int} (hP : IsPow P (0 + (i : Int))) (hq : IsDiv q total P) (hr : IsMul r (powOf total i) (4 - 2 * q.fmod 2)) : r = powOf total (i + 1) := by
  obtain ⟨rfl⟩ := hP; obtain ⟨rfl⟩ := hq; obtain ⟨rfl⟩ := hr
  rw [Int.fmod_eq_emod_of_nonneg _ (by decide), powOf]
  have e : (0 + (i : Int)).toNat = i := by omega
  rw [e]
theorem pow_zero {total P : Int} (hP : IsPow P (total.fmod 3)) : P = powOf total 0 := by
  obtain ⟨rfl⟩ := hP
  rw [Int.fmod_eq_emod_of_nonneg _ (by decide), powOf]
section
variable {prog : Program} {w : World} {p : Program} {loose : List Str} {mean : ExcName → Option Value} {mg mb : Str → Option Value}
theorem codes {news : List (Addr × Obj)} {total : Int} {t : Tok} :
    Calls prog w p loose mean mg mb 79 1 8 news [.int total t] []
      (fun v nw => ∃ l vs, v = .ref l ∧ IntsAre vs ((sumsOf total 5).drop 1) ∧ nw = (l, listOf (List.toArray vs) 0) :: news ∧ ∀ p ∈ news, p.1 < l) := by
  intro dp un gd cn cs a ccd cl outer A₀ base h₀ L m s Q E B F X N T hk hd hu hret
  have ht3 := fmod_lo total (n := 3) (by decide)
  have ht3' := fmod_hi total (n := 3) (by decide)
  (refine wpAny_call ?_; k_dflt (refine' code_defC ?k1 ?k2 ?k3 ?k4 ?k5 ?kA ?kF ?kK ?k6 ?k7 ?k8 ?k9 ?kB ?kD ?_ ?c2 ?c3 ?c4; (case kA => exact rfl); (case kF => exact rfl); (case kK => assumption); (case k1 => k_asm); (case k2 => k_asm); (case k3 => k_asm); (case k4 => k_asm); (case k5 => k_asm); (case k6 => k_is); (case k7 => k_is); (case k8 => ktr_room); (case k9 => first | exact BindsTo.of_eq rfl); (case kB => exact rfl); (case kD => decide +kernel); (case c2 => exact rfl); (case c3 => exact rfl); (case c4 => exact rfl); k_whole))
  intro gB LB hB tkB cellsB FGB FB NB YB BB XB TB lB
  have hneB : ∀ p ∈ news, p.1 ≠ LB + 1 := fun p hp => Nat.ne_of_lt (Nat.lt_succ_of_lt (lB p hp))
  k_cells YB
  simp only [List.cons_append, List.nil_append] at NB
  dsimp only
  try k_lift BB
  try k_fold
  k_steps
  refine Stop.out ?_
  refine unr_ind (fun i m1 nw => ∃ a1 vs oc tp, m1 (Str.ofString "sums") = some (.ref a1) ∧ m1 (Str.ofString "total") = some (.int total t) ∧ (∀ p ∈ (a1, listOf (List.toArray vs) 0) :: (LB + 1, oc) :: news, p ∈ nw) ∧ IntsAre vs (sumsOf total i) ∧ oc.data = .cell (some (.int (powOf total i) tp)) ∧ (∀ p ∈ news, p.1 < a1) ∧ @LT.lt Nat _ (LB + 1) a1) ?_ ?_ ?_
  · intro i m1 nw t1 h1 tk1 hi hJ F1 N1
    refine hideQ ?_
    intro QH1 hQH1
    obtain ⟨a1, vs, oc, tp, hs1, hs2, hsub, hI, hoc, hfr, hLa⟩ := hJ
    have hlen := sums_len total i
    have hlen' : (sumsOf total i).length ≤ 16 := by rw [hlen]; exact Nat.pow_le_pow_right (n := 2) (by decide) (show i ≤ 4 by omega)
    clear hlen
    have hvl := hI.length
    rw [m_two hs1 hs2] at F1
    replace N1 := cb_drop N1 (List.forall_mem_cons.mpr ⟨.head _, fun p hp => .tail _ (hsub p hp)⟩)
    clear hsub hs1 hs2
    k_steps
    refine Stop.out ?_
    refine LCg.CompSrc.ledger (by rfl) (by k_asm) (by k_asm) (by k_mem) (by rw [PySem.sizeLine_eq, List.size_toArray]; omega) ?_
    intro g'
    refine kcf_list (fun c => c + powOf total i) hI ?_ ?_
    · intro k t I oI C oC D m₂ ys h tk E' hk1 hC hx F1 N1 off ne _
      k_steps
      exact Stop.out (LCg.CompEnd.intro F1 N1 _ (fun _ h => h) off (.inr ⟨_, by k_mem, rfl, _, rfl⟩) ⟨rfl, _, rfl⟩)
    · intro ys hy
      k_steps
      refine Stop.out (kmk_add_ints (by k_asm) (by k_asm) (by kmk_list) (by kmk_list) hI hy ?_ (by rw [PySem.sizeLine_eq, List.length_map]; omega))
      intro D1 us1 h3 F3 N3 l3 hI3
      have l3' := fun p hp => l3 p (.tail _ (.tail _ (.tail _ (.tail _ hp))))
      have l3i := l3 _ (.tail _ (.head _))
      have l3c := l3 _ (.tail _ (.tail _ (.tail _ (.head _))))
      k_lt l3
      k_steps
      have pn := pow_next (i := i) (total := total) (by assumption) (by assumption) ⟨rfl⟩
      refine Stop.out (UnrEnd.intro (by assumption) (by assumption) ((D1, listOf us1.toArray 0) :: (LB + 1, _) :: news) (by kcf_all) ?_ ⟨D1, us1, _, _, rfl, rfl, fun _ h => h, hI3, by rw [← pn]; assumption, l3', l3c⟩)
      exact List.forall_mem_cons.mpr ⟨Nat.ne_of_gt l3i, List.forall_mem_cons.mpr ⟨by k_ne, fun p hp => Nat.ne_of_lt (allLt_mem (by (first | assumption | exact (And.right (by assumption)) | exact (And.right (And.right (by assumption))) | exact (And.right (And.right (And.right (by assumption)))) | exact (And.right (And.right (And.right (And.right (by assumption))))) | exact (And.right (And.right (And.right (And.right (And.right (by assumption)))))) | exact (And.right (And.right (And.right (And.right (And.right (And.right (by assumption))))))) | exact (And.right (And.right (And.right (And.right (And.right (And.right (And.right (by assumption)))))))) | exact (And.right (And.right (And.right (And.right (And.right (And.right (And.right (And.right (by assumption))))))))) | exact (And.right (And.right (And.right (And.right (And.right (And.right (And.right (And.right (And.right (by assumption)))))))))) | exact (And.right (And.right (And.right (And.right (And.right (And.right (And.right (And.right (And.right (And.right (by assumption))))))))))) | exact (And.right (And.right (And.right (And.right (And.right (And.right (And.right (And.right (And.right (And.right (And.right (by assumption)))))))))))) | exact (And.right (And.right (And.right (And.right (And.right (And.right (And.right (And.right (And.right (And.right (And.right (And.right (by assumption))))))))))))) | exact (And.right (And.right (And.right (And.right (And.right (And.right (And.right (And.right (And.right (And.right (And.right (And.right (And.right (by assumption)))))))))))))) | exact (And.right (And.right (And.right (And.right (And.right (And.right (And.right (And.right (And.right (And.right (And.right (And.right (And.right (And.right (by assumption))))))))))))))) | exact (And.right (And.right (And.right (And.right (And.right (And.right (And.right (And.right (And.right (And.right (And.right (And.right (And.right (And.right (And.right (by assumption)))))))))))))))))) p hp)⟩⟩
  · intro m1 nw h1 tk1 hJ F1 N1
    refine hideQ ?_
    intro QH2 hQH2
    obtain ⟨a1, vs, oc, tp, hs1, hs2, hsub, hI, hoc, hfr, hLa⟩ := hJ
    have hlen := sums_len total 5
    rw [m_two hs1 hs2] at F1
    replace N1 := cb_drop N1 hsub
    clear hsub hs1 hs2
    k_steps
    exact hret _ _ _ _ (by k_asm) (cb_drop (by k_asm) (by kcf_all)) ⟨_, _, rfl, by assumption, rfl, allLt_mem (by (first | assumption | exact (And.right (by assumption)) | exact (And.right (And.right (by assumption))) | exact (And.right (And.right (And.right (by assumption)))) | exact (And.right (And.right (And.right (And.right (by assumption))))) | exact (And.right (And.right (And.right (And.right (And.right (by assumption)))))) | exact (And.right (And.right (And.right (And.right (And.right (And.right (by assumption))))))) | exact (And.right (And.right (And.right (And.right (And.right (And.right (And.right (by assumption)))))))) | exact (And.right (And.right (And.right (And.right (And.right (And.right (And.right (And.right (by assumption))))))))) | exact (And.right (And.right (And.right (And.right (And.right (And.right (And.right (And.right (And.right (by assumption)))))))))) | exact (And.right (And.right (And.right (And.right (And.right (And.right (And.right (And.right (And.right (And.right (by assumption))))))))))) | exact (And.right (And.right (And.right (And.right (And.right (And.right (And.right (And.right (And.right (And.right (And.right (by assumption)))))))))))) | exact (And.right (And.right (And.right (And.right (And.right (And.right (And.right (And.right (And.right (And.right (And.right (And.right (by assumption))))))))))))) | exact (And.right (And.right (And.right (And.right (And.right (And.right (And.right (And.right (And.right (And.right (And.right (And.right (And.right (by assumption)))))))))))))) | exact (And.right (And.right (And.right (And.right (And.right (And.right (And.right (And.right (And.right (And.right (And.right (And.right (And.right (And.right (by assumption))))))))))))))) | exact (And.right (And.right (And.right (And.right (And.right (And.right (And.right (And.right (And.right (And.right (And.right (And.right (And.right (And.right (And.right (by assumption))))))))))))))))))⟩
  · have hp0 := pow_zero (by assumption : IsPow _ (total.fmod 3))
    subst hp0
    exact ⟨_, _, _, _, rfl, rfl, fun p hp => .tail _ hp, .cons _ _ .nil, by assumption, allLt_mem (by (first | assumption | exact (And.right (by assumption)) | exact (And.right (And.right (by assumption))) | exact (And.right (And.right (And.right (by assumption)))) | exact (And.right (And.right (And.right (And.right (by assumption))))) | exact (And.right (And.right (And.right (And.right (And.right (by assumption)))))) | exact (And.right (And.right (And.right (And.right (And.right (And.right (by assumption))))))) | exact (And.right (And.right (And.right (And.right (And.right (And.right (And.right (by assumption)))))))) | exact (And.right (And.right (And.right (And.right (And.right (And.right (And.right (And.right (by assumption))))))))) | exact (And.right (And.right (And.right (And.right (And.right (And.right (And.right (And.right (And.right (by assumption)))))))))) | exact (And.right (And.right (And.right (And.right (And.right (And.right (And.right (And.right (And.right (And.right (by assumption))))))))))) | exact (And.right (And.right (And.right (And.right (And.right (And.right (And.right (And.right (And.right (And.right (And.right (by assumption)))))))))))) | exact (And.right (And.right (And.right (And.right (And.right (And.right (And.right (And.right (And.right (And.right (And.right (And.right (by assumption))))))))))))) | exact (And.right (And.right (And.right (And.right (And.right (And.right (And.right (And.right (And.right (And.right (And.right (And.right (And.right (by assumption)))))))))))))) | exact (And.right (And.right (And.right (And.right (And.right (And.right (And.right (And.right (And.right (And.right (And.right (And.right (And.right (And.right (by assumption))))))))))))))) | exact (And.right (And.right (And.right (And.right (And.right (And.right (And.right (And.right (And.right (And.right (And.right (And.right (And.right (And.right (And.right (by assumption)))))))))))))))))), by first | omega | (rename _ ∧ AllLt _ news => hz; exact hz.1)⟩
end
end Mine
end
theorem Mine.flushC7 : True ∧ True := by
  w_top off
  first | (walk1; done) | exact ⟨trivial, trivial⟩
section
open PySem PySem.Spec PySem.Calls PySem.W PyProof.Rows
namespace Mine
section
variable {M : Model} {A : Around} {E : Value → Shared → Prop} {s : Shared} {name qual : Str} {params : Arguments} {body : Expr} {scope : Scope} {env : Env} {c P : Addr} {ps : Array Value} {pos : Pos} {firstLine : Nat} {mg : Str → Option Value}
  {clos : List (Str × Addr)} {Q : Value → Shared → Prop}
/-- a lambda and its code object, with the code object's own empty table -/
theorem lam_make (hcl : closureFor scope env = pure clos) (hge : env.globals = mainGlobals) (hg : s.heap.Ns mainGlobals mg) (hcode : env.code = .ref c) (C : CodeHd s.heap c P) (hP : s.heap.get? P = some (tabObj ps)) (ht : TriplesOk ps.toList)
    (hnf : codeAmong pos ps.toList = none) (hgP : mainGlobals ≠ P) (hb : s.heap.BuiltinsAt mg P)
    (h : ∀ c' P' ctv h' tk, Heap.ExtBut P s.heap h' → s.heap.objs.size ≤ c' → c' < h'.objs.size → s.heap.objs.size ≤ P' → h'.CodeRec (.ref c') qual → CodeHd h' c' P' → h'.get? P' = some (tabObj #[]) →
      h'.get? P = some (tabObj (ps ++ #[rawInt pos.line, rawInt pos.col, .ref c'])) → Q (.ref h'.objs.size) { s with heap := h'.push (kla_obj name qual params body scope clos ((mg "__name__").getD .none) c' ctv), toks := tk }) :
    wpAny M A (makeFunction name qual params (.expr body) scope env [] [] [] pos firstLine) Q E s := by
  obtain ⟨bm, ob, hbm, hne0, _, hneP, hbo, hcls, hdict, hdata⟩ := hb
  rw [makeFunction_eq]
  simp only [List.zip_nil_right, List.filterMap_nil, List.isEmpty_nil, if_true, pure_bind]
  unfold makeTail
  rw [hcl, hge]
  refine wpAny_bind (wpAny_pure ?_)
  cases clos with
  | nil =>
    simp only [List.isEmpty_nil, if_true]
    refine wpAny_bind (wpAny_pure ?_)
    have keep : ∀ b o, s.heap.get? b = some o → s.heap.get? b = some o := fun _ _ e => e
    have size : s.heap.objs.size ≤ s.heap.objs.size := Nat.le_refl _
    refine wpAny_bind (wpAny_functionCodeX hcode ((C.keeps keep).code (keep _ _ hP) ht) ((C.keeps keep).tab (keep _ _ hP)) hnf fun c' h' tk hx h1 h2 _ hrec htb hnew => ?_)
    obtain ⟨P', hp1, hp2, hp3⟩ := hnew
    have hx' : Heap.ExtBut P s.heap h' := fun b o hb' e => hx b o hb' (keep _ _ e)
    have hg' := hg.extBut hx' hgP
    refine wpAny_bind (wpAny_builtinsFor hg' hbm hne0 (hx' _ _ hneP hbo) hcls hdict hdata (wpAny_bind (wpAny_nsGet hg' (wpAny_bind (wpAny_pure (wpAny_newObj_type ?_ (by size_fits)))))))
    exact h c' P' _ h' tk hx' (Nat.le_trans size h1) h2 (Nat.le_trans size hp1) hrec (CodeHd.of hp2 hp3) hp3.2 htb.2
  | cons q r =>
    simp only [List.isEmpty_cons, Bool.false_eq_true, if_false]
    refine wpAny_bind (wpAny_newTextTuple ?_)
    have keep : ∀ oT : Obj, ∀ b o, s.heap.get? b = some o → (s.heap.push oT).get? b = some o := fun oT _ _ e => Heap.get?_push_of_some _ e
    have size : ∀ oT : Obj, s.heap.objs.size ≤ (s.heap.push oT).objs.size := fun oT => by rw [Heap.size_push]; omega
    refine wpAny_bind (wpAny_functionCodeX hcode ((C.keeps (keep _)).code ((keep _) _ _ hP) ht) ((C.keeps (keep _)).tab ((keep _) _ _ hP)) hnf fun c' h' tk hx h1 h2 _ hrec htb hnew => ?_)
    obtain ⟨P', hp1, hp2, hp3⟩ := hnew
    have hx' : Heap.ExtBut P s.heap h' := fun b o hb' e => hx b o hb' ((keep _) _ _ e)
    have hg' := hg.extBut hx' hgP
    refine wpAny_bind (wpAny_builtinsFor hg' hbm hne0 (hx' _ _ hneP hbo) hcls hdict hdata (wpAny_bind (wpAny_nsGet hg' (wpAny_bind (wpAny_pure (wpAny_newObj_type ?_ (by size_fits)))))))
    exact h c' P' _ h' tk hx' (Nat.le_trans (size _) h1) h2 (Nat.le_trans (size _) hp1) hrec (CodeHd.of hp2 hp3) hp3.2 htb.2
end
/-- a code object that keeps a table -/
inductive CodeObj (o : Obj) (c P : Addr) (qual : Str) : Prop
  | mk (vs : Array Value) (file : Str) (tf : Tok) (flags : Int) (tg : Tok) (inF : Bool) (text : Int) (tt t : Tok) (x1 : o.cls = .type "code") (x2 : o.data = .fields vs) (x3 : vs[1]? = some (.str qual t)) (x4 : vs[11]? = some (.ref P)) (x5 : vs.getD 11 .none = .ref P) (x6 : vs.getD 18 .none = .str file tf)
    (x7 : vs.getD 7 .none = .int flags tg) (x8 : vs.getD 9 .none = .bool inF) (x9 : vs.getD 10 .none = .int text tt) (x10 : c ≠ P) : CodeObj o c P qual
theorem CodeObj.hd {o : Obj} {c P : Addr} {qual : Str} {h : Heap} (x : CodeObj o c P qual) (e : h.get? c = some o) : CodeHd h c P := by
  obtain ⟨vs, file, tf, flags, tg, inF, text, tt, t, x1, x2, _, x4, x5, x6, x7, x8, x9, x10⟩ := x
  exact ⟨o, vs, file, tf, flags, tg, inF, text, tt, e, x1, x2, x4, x5, x6, x7, x8, x9, x10⟩
theorem CodeObj.code {o : Obj} {c P : Addr} {qual : Str} {h : Heap} (x : CodeObj o c P qual) (e : h.get? c = some o) : h.CodeRec (.ref c) qual := by
  obtain ⟨vs, file, tf, flags, tg, inF, text, tt, t, x1, x2, x3, _⟩ := x
  exact ⟨c, o, vs, t, rfl, e, x2, x3⟩
theorem CodeObj.of {h : Heap} {c P : Addr} {qual : Str} (x : CodeHd h c P) (y : h.CodeRec (.ref c) qual) : ∃ o, h.get? c = some o ∧ CodeObj o c P qual := by
  obtain ⟨o, vs, file, tf, flags, tg, inF, text, tt, e, x1, x2, x4, x5, x6, x7, x8, x9, x10⟩ := x
  obtain ⟨c₂, o₂, vs₂, t, e2, g, r1, r2⟩ := y
  cases e2
  rw [e] at g; cases g
  rw [x2] at r1; cases r1
  exact ⟨o, e, vs, file, tf, flags, tg, inF, text, tt, t, x1, x2, r2, x4, x5, x6, x7, x8, x9, x10⟩
section
variable {M : Model} {A : Around} {E : Value → Shared → Prop} {s : Shared} {h₀ : Heap} {L a c P : Addr} {m mg mb : Str → Option Value} {cn : Str} {cs : Scope} {ccd : Value} {cl : List (Str × Addr)} {news : List (Addr × Obj)} {g : Obj → List (Addr × Obj)}
  {p : Program} {loose : List Str} {mean : ExcName → Option Value} {name qual : Str} {params : Arguments} {body : Expr} {scope : Scope} {ps : Array Value} {pos : Pos} {firstLine : Nat} {clos : List (Str × Addr)}
theorem lam_new {Q : Value → Shared → Prop} (F : Fr h₀ L s.heap m) (N : News h₀ L s.heap news) (T : Top p loose mean mg mb h₀) (C : CodeHd s.heap c P) (hcd : ccd = .ref c) (U : UpdF P (tabObj ps) news g) (ht : TriplesOk ps.toList) (hnf : codeAmong pos ps.toList = none)
    (hcl : closureFor scope (envX cn cs L a ccd cl) = pure clos)
    (h : ∀ f c' P' oc ctv h' tk, Fr h₀ L h' m →
      News h₀ L h' ((f, kla_obj name qual params body scope clos ((mg "__name__").getD .none) c' ctv) :: (c', oc) :: (P', tabObj #[]) :: g (tabObj (ps ++ #[rawInt pos.line, rawInt pos.col, .ref c']))) →
      CodeObj oc c' P' qual → (∀ q ∈ news, q.1 < c') → (∀ q ∈ news, q.1 < P') → c' < f → P' < f → Q (.ref f) { s with heap := h', toks := tk }) :
    wpAny M A (makeFunction name qual params (.expr body) scope (envX cn cs L a ccd cl) [] [] [] pos firstLine) Q E s := by
  obtain ⟨own, rest, rfl, hgr, h1, h2⟩ := U.split
  have hm := N (P, tabObj ps) (List.mem_append_right _ (.head _))
  have hgs := T.g.keeps F.keep
  obtain ⟨bm, ob, b1, b2, b3, b4, b5, b6⟩ := T.bmain
  have hgP : mainGlobals ≠ P := fun q => by
    obtain ⟨o, es, ep, e, hd, _⟩ := hgs
    rw [q, hm.1] at e; cases e; cases hd
  have hbP : bm ≠ P := fun q => by
    have e := F.keep _ _ b3
    rw [q, hm.1] at e; cases e; cases b4
  have hbG : bm ≠ mainGlobals := fun q => by
    obtain ⟨o, es, ep, e, hd, _⟩ := T.g
    rw [q, e] at b3; cases b3; rw [hd] at b6; cases b6
  refine lam_make (mg := mg) hcl rfl hgs hcd C hm.1 ht hnf hgP ⟨bm, ob, b1, b2, hbG, hbP, F.keep _ _ b3, b4, b5, b6⟩ fun c' P' ctv h' tk hx hge hlt hgeP hrec hC' htab htb => ?_
  obtain ⟨oc, hoc, hco⟩ := CodeObj.of hC' hrec
  have hLs : L < s.heap.objs.size := F.ns.lt
  have old : ∀ b o, h₀.get? b = some o → h'.get? b = some o := fun b o e => hx b o (fun q => by rw [q, hm.2.2] at e; cases e) (F.keep b o e)
  have fresh : ∀ b, L < b → h₀.get? b = none := fun b hb => Heap.get?_none_of_le (Nat.le_trans F.above (Nat.le_of_lt hb))
  have hPlt : P' < h'.objs.size := Heap.lt_size htab
  refine h h'.objs.size c' P' oc ctv _ tk ⟨(F.ns.extBut hx hm.2.1.symm).push _, fun b o e => Heap.get?_push_of_some _ (old b o e), F.above⟩ (fun q hq => ?_) hco
    (fun q hq => Nat.lt_of_lt_of_le (Heap.lt_size (N q hq).1) hge) (fun q hq => Nat.lt_of_lt_of_le (Heap.lt_size (N q hq).1) hgeP) hlt hPlt
  have hLc : L < c' := Nat.lt_of_lt_of_le hLs hge
  have hLP : L < P' := Nat.lt_of_lt_of_le hLs hgeP
  rcases List.mem_cons.mp hq with rfl | hq
  · exact ⟨Heap.get?_push_size _ rfl, Nat.ne_of_gt (Nat.lt_trans hLc hlt), fresh _ (Nat.lt_trans hLc hlt)⟩
  rcases List.mem_cons.mp hq with rfl | hq
  · exact ⟨Heap.get?_push_of_some _ hoc, Nat.ne_of_gt hLc, fresh _ hLc⟩
  rcases List.mem_cons.mp hq with rfl | hq
  · exact ⟨Heap.get?_push_of_some _ htab, Nat.ne_of_gt hLP, fresh _ hLP⟩
  rw [hgr] at hq
  rcases List.mem_append.mp hq with hq | hq
  · have n := N q (List.mem_append_left _ hq)
    exact ⟨Heap.get?_push_of_some _ (hx _ _ (h1 q hq) n.1), n.2⟩
  · rcases List.mem_cons.mp hq with rfl | hq
    · exact ⟨Heap.get?_push_of_some _ htb, hm.2⟩
    · have n := N q (List.mem_append_right _ (.tail _ hq))
      exact ⟨Heap.get?_push_of_some _ (hx _ _ (h2 q hq) n.1), n.2⟩
end
end Mine
end
theorem Mine.flushC7b : True ∧ True := by
  w_top off
  first | (walk1; done) | exact ⟨trivial, trivial⟩
section
namespace Mine
open PySem.Spec PySem.Calls
theorem codeAmong_snoc' {pos : Pos} {a b : Int} {c v : Value} (l : List Value) (h : TriplesOk l) (he : codeAmong pos (l ++ [rawInt a, rawInt b, c]) = some v) : codeAmong pos l = some v ∨ v = c := by
  fun_induction TriplesOk l with
  | case1 =>
    simp only [List.nil_append, codeAmong, rawInt] at he
    split at he
    · exact .inr (Option.some.inj he).symm
    · cases he
  | case2 i t j u x rest ih =>
    simp only [List.cons_append, codeAmong] at he ⊢
    split at he
    · rename_i hc
      rw [if_pos hc]; exact .inl he
    · rename_i hc
      rw [if_neg hc]; exact ih h he
  | case3 l h1 h2 => exact h.elim
/-- what is known of a table of code objects: each is told by the list -/
def TabInv (cods : List (Addr × Obj)) (ps : Array Value) (qual : Str) : Prop :=
  TriplesOk ps.toList ∧ ∀ pos v, codeAmong pos ps.toList = some v → ∃ c oc vs t, v = .ref c ∧ (c, oc) ∈ cods ∧ oc.cls = .type "code" ∧ oc.data = .fields vs ∧ vs[1]? = some (.str qual t)
theorem TabInv.nil {cods : List (Addr × Obj)} {qual : Str} : TabInv cods #[] qual := ⟨trivial, fun pos v h => by cases h⟩
theorem TabInv.mono {cods cods' : List (Addr × Obj)} {ps : Array Value} {qual : Str} (h : TabInv cods ps qual) (hs : ∀ p ∈ cods, p ∈ cods') : TabInv cods' ps qual :=
  ⟨h.1, fun pos v e => by obtain ⟨c, oc, vs, t, r1, r2, r3⟩ := h.2 pos v e; exact ⟨c, oc, vs, t, r1, hs _ r2, r3⟩⟩
section
variable {M : Model} {A : Around} {E : Value → Shared → Prop} {s : Shared} {h₀ : Heap} {L a c P : Addr} {m mg mb : Str → Option Value} {cn : Str} {cs : Scope} {ccd : Value} {cl : List (Str × Addr)} {news cods : List (Addr × Obj)} {g : Obj → List (Addr × Obj)}
  {p : Program} {loose : List Str} {mean : ExcName → Option Value} {name qual : Str} {params : Arguments} {body : Expr} {scope : Scope} {ps : Array Value} {pos : Pos} {firstLine : Nat} {clos : List (Str × Addr)}
/-- a lambda is made: anew, or with the code object that the table holds -/
theorem lam_any {Q : Value → Shared → Prop} (F : Fr h₀ L s.heap m) (N : News h₀ L s.heap news) (T : Top p loose mean mg mb h₀) (C : CodeHd h₀ c P) (hcd : ccd = .ref c) (U : UpdF P (tabObj ps) news g) (I : TabInv cods ps qual) (hs : ∀ p ∈ cods, p ∈ news)
    (hcl : closureFor scope (envX cn cs L a ccd cl) = pure clos)
    (h : ∀ f c' oc vs t ctv ps' h' tk, Fr h₀ L h' m →
      News h₀ L h' ((f, kla_obj name qual params body scope clos ((mg "__name__").getD .none) c' ctv) :: (c', oc) :: g (tabObj ps')) →
      oc.data = .fields vs → vs[1]? = some (.str qual t) → TabInv ((c', oc) :: cods) ps' qual → (∀ q ∈ news, q.1 < f) → c' < f → c' ≠ P → Q (.ref f) { s with heap := h', toks := tk }) :
    wpAny M A (makeFunction name qual params (.expr body) scope (envX cn cs L a ccd cl) [] [] [] pos firstLine) Q E s := by
  cases hf : codeAmong pos ps.toList with
  | none =>
    obtain ⟨own, rest, e1, e2, _, _⟩ := U.split
    refine lam_new F N T (C.keeps F.keep) hcd U I.1 hf hcl fun f c' P' oc ctv h' tk F' N' co l1 lP l2 l3 => ?_
    obtain ⟨vs, file, tf, flags, tg, inF, text, tt, t, x1, x2, x3, _⟩ := co
    have hP : P < c' := l1 (P, tabObj ps) (by rw [e1]; exact List.mem_append_right _ (.head _))
    refine h f c' oc vs t ctv (ps ++ #[rawInt pos.line, rawInt pos.col, .ref c']) h' tk F' (cb_drop N' fun q hq => ?_) x2 x3 ⟨?_, fun pos' v e => ?_⟩ (fun q hq => Nat.lt_trans (l1 q hq) l2) l2 (Nat.ne_of_gt hP)
    · rcases List.mem_cons.mp hq with rfl | hq
      · exact .head _
      · rcases List.mem_cons.mp hq with rfl | hq
        · exact .tail _ (.head _)
        · exact .tail _ (.tail _ (.tail _ hq))
    · have := TriplesOk_snoc pos.line pos.col (.ref c') ps.toList I.1
      simpa using this
    · have e' : codeAmong pos' (ps.toList ++ [rawInt pos.line, rawInt pos.col, .ref c']) = some v := by simpa using e
      rcases codeAmong_snoc' _ I.1 e' with h1 | rfl
      · obtain ⟨c, oc, vs, t, r1, r2, r3⟩ := I.2 pos' v h1
        exact ⟨c, oc, vs, t, r1, .tail _ r2, r3⟩
      · exact ⟨c', oc, vs, t, rfl, .head _, x1, x2, x3⟩
  | some v =>
    obtain ⟨c', oc, vs, t, rfl, r2, rc, r3, r4⟩ := I.2 pos v hf
    obtain ⟨own, rest, e1, e2, h1, h2⟩ := U.split
    have hmem : (P, tabObj ps) ∈ news := by rw [e1]; exact List.mem_append_right _ (.head _)
    refine kla_hit F N T C hcd hmem I.1 hf hcl fun f ctv h' tk F' N' l1 => ?_
    have hcP : c' ≠ P := fun q => by
      have z1 := (N _ (hs _ r2)).1
      have z2 := (N _ hmem).1
      rw [q, z2] at z1
      cases z1
      cases r3
      have i1 := I.1
      cases hl : ps.toList with
      | nil =>
        have : ps = #[] := by simpa using hl
        rw [this] at r4; cases r4
      | cons x l =>
        cases l with
        | nil => rw [hl] at i1; cases x <;> exact i1.elim
        | cons y l =>
          have hy : ps[1]? = some y := by rw [← Array.getElem?_toList, hl]; rfl
          rw [r4] at hy; cases hy
          rw [hl] at i1
          cases x <;> exact i1.elim
    refine h f c' oc vs t ctv ps h' tk F' (fun q hq => ?_) r3 r4 (I.mono fun _ hp => .tail _ hp) l1 (l1 _ (hs _ r2)) hcP
    rcases List.mem_cons.mp hq with e | hq
    · rw [e]; exact N' _ (.head _)
    · rcases List.mem_cons.mp hq with e | hq
      · rw [e]; exact N' _ (.tail _ (hs _ r2))
      · rw [e2, ← e1] at hq; exact N' _ (.tail _ hq)
end
end Mine
end
theorem Mine.flushC8 : True ∧ True := by
  w_top off
  first | (walk1; done) | exact ⟨trivial, trivial⟩
section
namespace Mine
abbrev lamScope : Scope := { kind := .function, names := [(Str.ofString "thing", .local), (Str.ofString "notes", .free), (Str.ofString "prices", .free), (Str.ofString "_law_asked", .globalImplicit)], isGenerator := false, isCoroutine := false, more := [] }
abbrev lamParams (q : Pos) : Arguments := { posonlyargs := [], args := [{ arg := "thing", annotation := none, pos := q }], vararg := none, kwonlyargs := [], kw_defaults := [], kwarg := none, defaults := [] }
abbrev lamBody (j : Int) (q1 q2 q3 q4 q5 q6 q7 : Pos) : Expr := .Call (.Name "_law_asked" q1) [.Name "thing" q2, .Name "prices" q3, .Subscript (.Name "notes" q4) (.Constant (.int j) 0 q5) q6] [] q7
local macro_rules | `(tactic| walk_at "subscriptTail") => `(tactic| (refine Stop.go ?_))
local macro_rules | `(tactic| walk_at "subscriptTail Name Constant ref int") => `(tactic| (refine Stop.go ?_))
local macro_rules | `(tactic| walk_at "call ref") => `(tactic| (refine Stop.go ?_))
local macro_rules | `(tactic| walk_at "eval Name") => `(tactic| (k_here; k_dflt (refine' nameX_F ?N ?c ?m ?d ?_ ?a ?b; (case a => rfl); (case b => rfl); (case N => k_asm); (case c => rfl); (case m => k_mem); (case d => k_asm); k_whole)))
section
variable {prog : Program} {w : World} {p : Program} {loose : List Str} {mean : ExcName → Option Value} {mg mb : Str → Option Value}
theorem key_call {f c' cn cp nn nt pr : Addr} {qual : Str} {q q1 q2 q3 q4 q5 q6 q7 : Pos} {pm ctv : Value} {j : Int} {oc o1 o2 : Obj} {vs0 : Array Value} {t0' : Tok} {nv : List Value} {n3 : Nat}
    {its : Array Value} {n n1 : Nat} {rest : List (Addr × Obj)} {P0 P1 P2 P3 P4 c : Int} {t0 t1 t2 t3 t4 : Tok} {th : Value} (hth : Thing th c)
    (hf : (f, kla_obj "<lambda>" qual (lamParams q) (lamBody j q1 q2 q3 q4 q5 q6 q7) lamScope [(Str.ofString "prices", cp), (Str.ofString "notes", cn)] pm c' ctv) ∈ rest)
    (hc : (c', oc) ∈ rest) (hd1 : oc.data = .fields vs0) (hd2 : vs0[1]? = some (.str qual t0'))
    (hcn : (cn, o1) ∈ rest) (ho1 : o1.data = .cell (some (.ref nn))) (hcp : (cp, o2) ∈ rest) (ho2 : o2.data = .cell (some (.ref pr))) (hnn : (nn, listOf nv.toArray n3) ∈ rest) (hj : 0 ≤ j) (hj4 : j < 4) (hnv : nv[j.toNat]? = some (.ref nt))
    (hne : @Ne Nat pr nt) (hr : ∀ p ∈ rest, p.1 ≠ nt) (hn : its.size ≤ 100) (h0 : 0 ≤ c) (h1 : c < 4096) (b0 : 0 ≤ P0 ∧ P0 < 100) (b1 : 0 ≤ P1 ∧ P1 < 100) :
    Calls prog w p loose mean mg mb f 4 32 ((nt, listOf its n) :: (pr, prL P0 P1 P2 P3 P4 t0 t1 t2 t3 t4 n1) :: rest) [th] []
      (fun v nw => ∃ x tk, v = .int (costOf P0 P1 P2 P3 P4 c) tk ∧ nw = (x, tupOf [th, .int (costOf P0 P1 P2 P3 P4 c) tk]) :: (nt, listOf (its.push (.ref x)) (n + 1)) :: (pr, prL P0 P1 P2 P3 P4 t0 t1 t2 t3 t4 n1) :: rest) := by
  intro dp un gd cn0 cs a ccd cl outer A₀ base h₀ L m s Q E B F X N T hk hd hu hret
  refine wpAny_call ?_
  have up : ∀ q ∈ rest, q ∈ (nt, listOf its n) :: (pr, prL P0 P1 P2 P3 P4 t0 t1 t2 t3 t4 n1) :: rest := fun q hq => .tail _ (.tail _ hq)
  have hcd := codeRec_news N (up _ hc) hd1 hd2
  have mf := up _ hf
  have mcn := up _ hcn
  have mcp := up _ hcp
  have mnn := up _ hnn
  clear up
  k_dflt (refine' kla_code ?k1 ?k2 ?k3 ?k4 ?k5 ?kA ?kF ?kK ?k6 ?k7 ?k8 ?k9 ?kB ?_ ?c2 ?c3 ?c4 ?c5; (case kA => exact rfl); (case kF => exact rfl); (case kK => assumption); (case k1 => k_asm); (case k2 => k_asm); (case k3 => k_asm); (case k4 => k_asm); (case k5 => k_asm); (case k6 => exact mf); (case k7 => exact hcd); (case k8 => ktr_room); (case k9 => exact rfl); (case c5 => decide); (case kB => exact locs rfl); (case c2 => exact rfl); (case c3 => exact rfl); (case c4 => exact rfl); k_whole)
  intro gB LB hB FGB FB NB BB XB TB
  dsimp only
  try k_fold
  k_steps
  refine Stop.out (item_litK (News.isList NB mnn) hj (by omega) hnv ?_)
  k_steps
  refine Stop.out ((asked_any hth hne hr hn h0 h1 b0 b1).useP (by k_asm) (by k_asm) (by k_asm) (by k_asm) (by k_asm) rfl (by ktr_room) (by ktr_units) ?_)
  rintro _ _ h' tk' F' N' ⟨x, tk, rfl, rfl⟩
  dsimp only
  k_steps
  exact hret _ _ _ _ (by k_asm) (by k_asm) ⟨x, tk, rfl, rfl⟩
end
end Mine
end
theorem Mine.flushC9 : True ∧ True := by
  w_top off
  first | (walk1; done) | exact ⟨trivial, trivial⟩
section
namespace Mine
section
variable {prog : Program} {w : World} {p : Program} {loose : List Str} {mean : ExcName → Option Value} {mg mb : Str → Option Value}
theorem Calls.conv {f : Addr} {d u : Nat} {news news' : List (Addr × Obj)} {vs : List Value} {kw : List (Str × Value)} {Post Post' : Value → List (Addr × Obj) → Prop} (C : Calls prog w p loose mean mg mb f d u news' vs kw Post)
    (hs : ∀ q ∈ news', q ∈ news) (hp : ∀ v nw, Post v nw → ∃ nw', (∀ q ∈ nw', q ∈ nw) ∧ Post' v nw') : Calls prog w p loose mean mg mb f d u news vs kw Post' :=
  fun _ _ _ _ _ _ _ _ _ _ _ _ _ _ _ _ _ B F X N T hk hd hu ret => C _ _ _ _ _ _ _ _ _ _ _ _ _ _ _ _ _ B F X (cb_drop N hs) T hk hd hu (fun v nw h' tk' F' N' hq => by
    obtain ⟨nw', h1, h2⟩ := hp v nw hq
    exact ret v nw' h' tk' F' (cb_drop N' h1) h2)
theorem dup_sub {e : Addr × Obj} {news : List (Addr × Obj)} (h : e ∈ news) : ∀ q ∈ e :: news, q ∈ news := fun q hq => by
  rcases List.mem_cons.mp hq with rfl | hq
  · exact h
  · exact hq
theorem places' {ca : Addr} {n : Nat} {vs : List Value} {cs' : List Int} {news : List (Addr × Obj)} (hm : (ca, listOf vs.toArray n) ∈ news) (hI : IntsAre vs cs') (hl : cs'.length = 31) {x : Int} {lo hi : Nat} {tx tl th : Tok} (h1 : lo ≤ hi) (h2 : hi ≤ 31) :
    Calls prog w p loose mean mg mb 98 1 8 news [.ref ca, .int x tx, .int lo tl, .int hi th] []
      (fun v nw => ∃ l t1 t2 r1 r2, v = .ref l ∧ nw = (l, listOf #[.int (r1 : Nat) t1, .int (r2 : Nat) t2] 0) :: news ∧ (∀ p ∈ news, p.1 < l) ∧
        IsPlace (fun i => decide (cs'.getD i 0 < x)) lo hi r1 ∧ IsPlace (fun i => decide (cs'.getD i 0 ≤ x)) lo hi r2) :=
  (places (rest := news) hI hl h1 h2).conv (dup_sub hm) (by
    rintro v nw ⟨l, t1, t2, r1, r2, rfl, rfl, h3, h4, h5⟩
    refine ⟨(l, listOf #[.int (r1 : Nat) t1, .int (r2 : Nat) t2] 0) :: news, fun q hq => ?_, l, t1, t2, r1, r2, rfl, rfl, fun q hq => h3 q (.tail _ hq), h4, h5⟩
    rcases List.mem_cons.mp hq with rfl | hq
    · exact .head _
    · exact .tail _ (.tail _ hq))
theorem steps' {ta ca : Addr} {n1 n2 : Nat} {tv vs : List Value} {cs' : List Int} {news : List (Addr × Obj)} (hm1 : (ta, listOf tv.toArray n1) ∈ news) (hm2 : (ca, listOf vs.toArray n2) ∈ news) (hI : IntsAre vs cs') (hl : cs'.length = 31) (ht : tv.length = 31) {place size : Nat} {tp ts : Tok} (h1 : place ≤ 31) (h2 : size ≤ 5) (h3 : ∀ k ∈ spotsOf place size, k < 31) :
    Calls prog w p loose mean mg mb 103 1 8 news [.ref ta, .ref ca, .int place tp, .int size ts] []
      (fun v nw => ∃ l n ts, v = .ref l ∧ ts.map (·.2) = spotsOf place size ∧ nw = (l, listOf (noteRefs ts).toArray n) :: (news ++ noteObjs tv (fun i => cs'.getD i 0) ts) ∧
        (∀ p ∈ news, p.1 ≠ l ∧ ∀ e ∈ ts, p.1 ≠ e.1.1)) :=
  (steps (rest := news) hI hl ht h1 h2 h3).conv (fun q hq => by
    rcases List.mem_cons.mp hq with rfl | hq
    · exact hm1
    · exact dup_sub hm2 q hq) (by
    rintro v nw ⟨l, n, ts, rfl, h4, rfl, h5⟩
    refine ⟨(l, listOf (noteRefs ts).toArray n) :: (news ++ noteObjs tv (fun i => cs'.getD i 0) ts), fun q hq => ?_, l, n, ts, rfl, h4, rfl, fun q hq => h5 q (.tail _ (.tail _ hq))⟩
    rcases List.mem_cons.mp hq with rfl | hq
    · exact .head _
    · exact .tail _ (.tail _ (.tail _ hq)))
theorem bisR_plain4' {ca : Addr} {n : Nat} {vs : List Value} {cs' : List Int} {news : List (Addr × Obj)} (hm : (ca, listOf vs.toArray n) ∈ news) (hI : IntsAre vs cs') (hl : cs'.length = 31) {x : Int} {tx : Tok} {lo hi : Nat} {tl th : Tok} (h1 : lo ≤ hi) (h2 : hi ≤ 31) :
    Calls prog w p loose mean mg mb 23 1 8 news [.ref ca, .int x tx, .int lo tl, .int hi th] [] (fun v nw => nw = news ∧ ∃ tk : Tok, v = .int (bis (fun i => decide (cs'.getD i 0 ≤ x)) lo hi).1 tk) :=
  (bisR_plain4 (rest := news) hI hl h1 h2).conv (dup_sub hm) (by rintro v nw ⟨rfl, tk, rfl⟩; exact ⟨news, fun q hq => .tail _ hq, rfl, tk, rfl⟩)
theorem bisL_plain4' {ca : Addr} {n : Nat} {vs : List Value} {cs' : List Int} {news : List (Addr × Obj)} (hm : (ca, listOf vs.toArray n) ∈ news) (hI : IntsAre vs cs') (hl : cs'.length = 31) {x : Int} {tx : Tok} {lo hi : Nat} {tl th : Tok} (h1 : lo ≤ hi) (h2 : hi ≤ 31) :
    Calls prog w p loose mean mg mb 32 1 8 news [.ref ca, .int x tx, .int lo tl, .int hi th] [] (fun v nw => nw = news ∧ ∃ tk : Tok, v = .int (bis (fun i => decide (cs'.getD i 0 < x)) lo hi).1 tk) :=
  (bisL_plain4 (rest := news) hI hl h1 h2).conv (dup_sub hm) (by rintro v nw ⟨rfl, tk, rfl⟩; exact ⟨news, fun q hq => .tail _ hq, rfl, tk, rfl⟩)
theorem bisR_plain2' {ca : Addr} {n : Nat} {vs : List Value} {cs' : List Int} {news : List (Addr × Obj)} (hm : (ca, listOf vs.toArray n) ∈ news) (hI : IntsAre vs cs') (hl : cs'.length = 31) {x : Int} {tx : Tok} :
    Calls prog w p loose mean mg mb 23 1 8 news [.ref ca, .int x tx] [] (fun v nw => nw = news ∧ ∃ tk : Tok, v = .int (bis (fun i => decide (cs'.getD i 0 ≤ x)) 0 31).1 tk) :=
  (bisR_plain2 (rest := news) hI hl).conv (dup_sub hm) (by rintro v nw ⟨rfl, tk, rfl⟩; exact ⟨news, fun q hq => .tail _ hq, rfl, tk, rfl⟩)
theorem bisL_plain2' {ca : Addr} {n : Nat} {vs : List Value} {cs' : List Int} {news : List (Addr × Obj)} (hm : (ca, listOf vs.toArray n) ∈ news) (hI : IntsAre vs cs') (hl : cs'.length = 31) {x : Int} {tx : Tok} :
    Calls prog w p loose mean mg mb 32 1 8 news [.ref ca, .int x tx] [] (fun v nw => nw = news ∧ ∃ tk : Tok, v = .int (bis (fun i => decide (cs'.getD i 0 < x)) 0 31).1 tk) :=
  (bisL_plain2 (rest := news) hI hl).conv (dup_sub hm) (by rintro v nw ⟨rfl, tk, rfl⟩; exact ⟨news, fun q hq => .tail _ hq, rfl, tk, rfl⟩)
end
/-- the branch that a number picks -/
theorem br1 {size : Nat} {r : Int} (h0 : 0 ≤ r) (h : (size : Int) = 5 - r) : size ≤ 5 := by omega
theorem br2 {size e : Nat} (h : (e : Int) = 5 - size) (hs : size ≤ 5) : e = 5 - size := by omega
theorem br3 {lo hi P : Nat} (h1 : 1 ≤ P) (h : (hi : Int) = lo + (P : Nat) - 1) (hb : lo + P ≤ 32) : hi = lo + P - 1 ∧ lo ≤ hi ∧ hi ≤ 31 := by
  have e : hi + 1 = lo + P := by omega
  clear h
  refine ⟨?_, ?_, ?_⟩ <;> omega
theorem branch {rC : Int} {size e lo hi : Nat} {Pq q Pl Ph : Int} (h0 : 0 ≤ rC) (h6 : rC < 6) (hsize : (size : Int) = 5 - rC) (he : (e : Int) = 5 - size) (pq : IsPow Pq e) (hq0 : 0 ≤ q) (hq : q < Pq) (pl : IsPow Pl size) (hlo : IsMul lo q Pl) (ph : IsPow Ph size) (hhi : (hi : Int) = lo + Ph - 1) :
    size ≤ 5 ∧ ∃ k : Nat, k < 2 ^ (5 - size) ∧ lo = k * 2 ^ size ∧ hi = lo + 2 ^ size - 1 ∧ lo ≤ hi ∧ hi ≤ 31 := by
  obtain ⟨pq⟩ := pq; obtain ⟨pl⟩ := pl; obtain ⟨ph⟩ := ph; obtain ⟨hlo⟩ := hlo
  obtain ⟨k, rfl⟩ := Int.eq_ofNat_of_zero_le hq0
  have e1 : (e : Int).toNat = e := Int.toNat_natCast e
  have e2 : (size : Int).toNat = size := Int.toNat_natCast size
  rw [e1] at pq; rw [e2] at pl ph
  have hs : size ≤ 5 := br1 h0 hsize
  have he' : e = 5 - size := br2 he hs
  subst he'
  have c1 : ((2 ^ (5 - size) : Nat) : Int) = (2 : Int) ^ (5 - size) := by simp
  have c2 : ((2 ^ size : Nat) : Int) = (2 : Int) ^ size := by simp
  rw [pq, ← c1] at hq
  rw [pl, ← c2] at hlo
  rw [ph, ← c2] at hhi
  have hlo' : lo = k * 2 ^ size := by
    have : (lo : Int) = ((k * 2 ^ size : Nat) : Int) := by rw [hlo, Int.natCast_mul]
    exact Int.ofNat.inj this
  have hk : k < 2 ^ (5 - size) := Int.ofNat_lt.mp hq
  have h32 : 2 ^ (5 - size) * 2 ^ size = 32 := by rw [← Nat.pow_add, Nat.sub_add_cancel hs]
  have hb : (k + 1) * 2 ^ size ≤ 32 := by rw [← h32]; exact Nat.mul_le_mul_right _ hk
  rw [Nat.add_mul, Nat.one_mul, ← hlo'] at hb
  obtain ⟨b1, b2, b3⟩ := br3 Nat.one_le_two_pow hhi hb
  exact ⟨hs, k, hk, hlo', b1, b2, b3⟩
end Mine
end
theorem Mine.flushC9b : True ∧ True := by
  w_top off
  first | (walk1; done) | exact ⟨trivial, trivial⟩
section
namespace Mine
/-- what a key that notes its questions needs: the lambda, its code, the cells that it closes over, the list of lists of notes -/
inductive KeyAt (f nn nt pr : Addr) (R : List (Addr × Obj)) : Prop
  | mk (qual) (q q1 q2 q3 q4 q5 q6 q7) (pm ctv) (j : Int) (c' cn cp : Addr) (oc o1 o2 : Obj) (vs0 : Array Value) (t0') (nv : List Value) (n3)
    (h1 : (f, kla_obj "<lambda>" qual (lamParams q) (lamBody j q1 q2 q3 q4 q5 q6 q7) lamScope [(Str.ofString "prices", cp), (Str.ofString "notes", cn)] pm c' ctv) ∈ R)
    (h2 : (c', oc) ∈ R) (h3 : oc.data = .fields vs0) (h4 : vs0[1]? = some (.str qual t0')) (h5 : (cn, o1) ∈ R) (h6 : o1.data = .cell (some (.ref nn))) (h7 : (cp, o2) ∈ R) (h8 : o2.data = .cell (some (.ref pr)))
    (h9 : (nn, listOf (List.toArray nv) n3) ∈ R) (h10 : 0 ≤ j) (h11 : j < 4) (h12 : nv[j.toNat]? = some (.ref nt)) : KeyAt f nn nt pr R
theorem KeyAt.mono {f nn nt pr : Addr} {R R' : List (Addr × Obj)} (k : KeyAt f nn nt pr R) (h : ∀ q ∈ R, q ∈ R') : KeyAt f nn nt pr R' := by
  obtain ⟨qual, q, q1, q2, q3, q4, q5, q6, q7, pm, ctv, j, c', cn, cp, oc, o1, o2, vs0, t0', nv, n3, h1, h2, h3, h4, h5, h6, h7, h8, h9, h10, h11, h12⟩ := k
  exact ⟨qual, q, q1, q2, q3, q4, q5, q6, q7, pm, ctv, j, c', cn, cp, oc, o1, o2, vs0, t0', nv, n3, h _ h1, h _ h2, h3, h4, h _ h5, h6, h _ h7, h8, h _ h9, h10, h11, h12⟩
section
variable {prog : Program} {w : World} {p : Program} {loose : List Str} {mean : ExcName → Option Value} {mg mb : Str → Option Value}
theorem key_any {f nn nt pr : Addr} {R : List (Addr × Obj)} (k : KeyAt f nn nt pr R) {its : Array Value} {n n1 : Nat} {P0 P1 P2 P3 P4 c : Int} {t0 t1 t2 t3 t4 : Tok} {th : Value} (hth : Thing th c)
    (hne : @Ne Nat pr nt) (hr : ∀ p ∈ R, p.1 ≠ nt) (hn : its.size ≤ 100) (h0 : 0 ≤ c) (h1 : c < 4096) (b0 : 0 ≤ P0 ∧ P0 < 100) (b1 : 0 ≤ P1 ∧ P1 < 100) :
    Calls prog w p loose mean mg mb f 4 32 ((nt, listOf its n) :: (pr, prL P0 P1 P2 P3 P4 t0 t1 t2 t3 t4 n1) :: R) [th] []
      (fun v nw => ∃ x tk, v = .int (costOf P0 P1 P2 P3 P4 c) tk ∧ nw = (x, tupOf [th, .int (costOf P0 P1 P2 P3 P4 c) tk]) :: (nt, listOf (its.push (.ref x)) (n + 1)) :: (pr, prL P0 P1 P2 P3 P4 t0 t1 t2 t3 t4 n1) :: R) := by
  obtain ⟨qual, q, q1, q2, q3, q4, q5, q6, q7, pm, ctv, j, c', cn, cp, oc, o1, o2, vs0, t0', nv, n3, k1, k2, k3, k4, k5, k6, k7, k8, k9, k10, k11, k12⟩ := k
  exact key_call hth k1 k2 k3 k4 k5 k6 k7 k8 k9 k10 k11 k12 hne hr hn h0 h1 b0 b1
/-- the ledger while a key is asked: its notes so far -/
abbrev keyLed (nt pr : Addr) (oP : Obj) (tv : List Value) (cf : Nat → Int) (R : List (Addr × Obj)) (c : NT) : List (Addr × Obj) := (nt, listOf (noteRefs c).toArray c.length) :: (pr, oP) :: (R ++ noteObjs tv cf c)

theorem note_ne {h₀ h : Heap} {L nt : Addr} {its : Array Value} {n : Nat} {tv : List Value} {cf : Nat → Int} {c : NT} {R X : List (Addr × Obj)} (N : News h₀ L h ((nt, listOf its n) :: X)) (hs : ∀ q ∈ noteObjs tv cf c, q ∈ X) : ∀ q ∈ noteObjs tv cf c, q.1 ≠ nt := by
  intro q hq e
  have z1 := (N _ (.head _)).1
  have z2 := (N _ (.tail _ (hs q hq))).1
  obtain ⟨d, _, rfl⟩ := List.mem_map.mp hq
  rw [e] at z2
  dsimp only at z1 z2
  rw [z1] at z2
  have z3 : Value.type "list" = Value.type "tuple" := congrArg Obj.cls (Option.some.inj z2)
  exact absurd z3 (by decide)
theorem key_led {f nn nt pr : Addr} {n2 : Nat} {tv : List Value} {R : List (Addr × Obj)} {P0 P1 P2 P3 P4 : Int} {t0 t1 t2 t3 t4 : Tok} {cd : Nat → Int} (ht : tv.length = 31)
    (hth : ∀ i, i < 31 → Thing (tv.getD i .none) (cd i) ∧ 0 ≤ cd i ∧ cd i < 4096) (k : KeyAt f nn nt pr R) (hne : @Ne Nat pr nt) (hr : ∀ p ∈ R, p.1 ≠ nt) (b0 : 0 ≤ P0 ∧ P0 < 100) (b1 : 0 ≤ P1 ∧ P1 < 100)
    (c : NT) (i : Nat) (v : Value) (hc : c.length ≤ 31) (hv : tv[i]? = some v) :
    Calls prog w p loose mean mg mb f 4 32 (keyLed nt pr (prL P0 P1 P2 P3 P4 t0 t1 t2 t3 t4 n2) tv (fun i => costOf P0 P1 P2 P3 P4 (cd i)) R c) [v] []
      (fun v nw => ∃ (x : Addr × Tok) (t : Tok), v = .int (costOf P0 P1 P2 P3 P4 (cd i)) t ∧ nw = keyLed nt pr (prL P0 P1 P2 P3 P4 t0 t1 t2 t3 t4 n2) tv (fun i => costOf P0 P1 P2 P3 P4 (cd i)) R (c ++ [(x, i)])) := by
  intro dp un gd cn cs a ccd cl outer A₀ base h₀ L m s Q E B F X N T hk hd hu hret
  have hi : i < 31 := by rw [← ht]; exact (List.getElem?_eq_some_iff.mp hv).1
  have hv' : tv.getD i .none = v := by rw [List.getD_eq_getElem?_getD, hv]; rfl
  obtain ⟨h1, h2, h3⟩ := hth i hi
  rw [hv'] at h1
  have hnn := note_ne (R := R) N (fun q hq => .tail _ (List.mem_append_right _ hq))
  refine (key_any (k.mono fun q hq => List.mem_append_left _ hq) h1 hne (fun q hq => ?_) (by simp; omega) h2 h3 b0 b1).useP B F X N T hk hd hu ?_
  · rcases List.mem_append.mp hq with hq | hq
    · exact hr q hq
    · exact hnn q hq
  · rintro _ _ h' tk' F' N' ⟨x, tk, rfl, rfl⟩
    refine hret _ _ h' tk' F' (cb_drop N' ?_) ⟨(x, tk), tk, rfl, rfl⟩
    intro q hq
    rcases List.mem_cons.mp hq with rfl | hq
    · refine .tail _ ?_
      simp only [noteRefs, List.map_append, List.map_cons, List.map_nil, List.length_append, List.length_cons, List.length_nil, List.push_toArray]
      exact .head _
    · rcases List.mem_cons.mp hq with rfl | hq
      · exact .tail _ (.tail _ (.head _))
      · rcases List.mem_append.mp hq with hq | hq
        · exact .tail _ (.tail _ (.tail _ (List.mem_append_left _ hq)))
        · simp only [noteObjs, List.map_append, List.map_cons, List.map_nil, List.mem_append, List.mem_singleton] at hq
          rcases hq with hq | rfl
          · exact .tail _ (.tail _ (.tail _ (List.mem_append_right _ hq)))
          · rw [noteObj]
            dsimp only
            rw [hv']
            exact .head _

theorem bisR_key4N {ta f nn nt pr : Addr} {n1 n2 : Nat} {tv : List Value} {R : List (Addr × Obj)} {P0 P1 P2 P3 P4 : Int} {t0 t1 t2 t3 t4 : Tok} {cd : Nat → Int} {fd : FuncData} (ht : tv.length = 31)
    (hth : ∀ i, i < 31 → Thing (tv.getD i .none) (cd i) ∧ 0 ≤ cd i ∧ cd i < 4096) (k : KeyAt f nn nt pr R) (hfd : (f, (⟨.type "function", none, .func fd, #[]⟩ : Obj)) ∈ R) (hta : (ta, listOf tv.toArray n1) ∈ R)
    (hne : @Ne Nat pr nt) (hr : ∀ p ∈ R, p.1 ≠ nt) (b0 : 0 ≤ P0 ∧ P0 < 100) (b1 : 0 ≤ P1 ∧ P1 < 100) {x : Int} {tx : Tok} {lo hi : Nat} {tl th : Tok} (h1 : lo ≤ hi) (h2 : hi ≤ 31) :
    Calls prog w p loose mean mg mb 23 (1 + 4) (8 + 32) (keyLed nt pr (prL P0 P1 P2 P3 P4 t0 t1 t2 t3 t4 n2) tv (fun i => costOf P0 P1 P2 P3 P4 (cd i)) R []) [.ref ta, .int x tx, .int lo tl, .int hi th] [(Str.ofString "key", .ref f)]
      (fun v nw => ∃ c tk, v = .int (bis (fun i => decide (costOf P0 P1 P2 P3 P4 (cd i) ≤ x)) lo hi).1 tk ∧ nw = keyLed nt pr (prL P0 P1 P2 P3 P4 t0 t1 t2 t3 t4 n2) tv (fun i => costOf P0 P1 P2 P3 P4 (cd i)) R c ∧ c.map (·.2) = (bis (fun i => decide (costOf P0 P1 P2 P3 P4 (cd i) ≤ x)) lo hi).2) := by
  refine (bisR_key4 (Led := keyLed nt pr (prL P0 P1 P2 P3 P4 t0 t1 t2 t3 t4 n2) tv (fun i => costOf P0 P1 P2 P3 P4 (cd i)) R) (cf := fun i => costOf P0 P1 P2 P3 P4 (cd i)) ht (fun c => .tail _ (.tail _ (List.mem_append_left _ hfd))) (fun c => .tail _ (.tail _ (List.mem_append_left _ hta))) (key_led ht hth k hne hr b0 b1) h1 h2).conv (fun _ h => h) ?_
  rintro v nw ⟨c, tk, rfl, rfl, h3⟩
  exact ⟨_, fun _ h => h, c, tk, rfl, rfl, h3⟩

theorem bisR_key2N {ta f nn nt pr : Addr} {n1 n2 : Nat} {tv : List Value} {R : List (Addr × Obj)} {P0 P1 P2 P3 P4 : Int} {t0 t1 t2 t3 t4 : Tok} {cd : Nat → Int} {fd : FuncData} (ht : tv.length = 31)
    (hth : ∀ i, i < 31 → Thing (tv.getD i .none) (cd i) ∧ 0 ≤ cd i ∧ cd i < 4096) (k : KeyAt f nn nt pr R) (hfd : (f, (⟨.type "function", none, .func fd, #[]⟩ : Obj)) ∈ R) (hta : (ta, listOf tv.toArray n1) ∈ R)
    (hne : @Ne Nat pr nt) (hr : ∀ p ∈ R, p.1 ≠ nt) (b0 : 0 ≤ P0 ∧ P0 < 100) (b1 : 0 ≤ P1 ∧ P1 < 100) {x : Int} {tx : Tok}  :
    Calls prog w p loose mean mg mb 23 (1 + 4) (8 + 32) (keyLed nt pr (prL P0 P1 P2 P3 P4 t0 t1 t2 t3 t4 n2) tv (fun i => costOf P0 P1 P2 P3 P4 (cd i)) R []) [.ref ta, .int x tx] [(Str.ofString "key", .ref f)]
      (fun v nw => ∃ c tk, v = .int (bis (fun i => decide (costOf P0 P1 P2 P3 P4 (cd i) ≤ x)) 0 31).1 tk ∧ nw = keyLed nt pr (prL P0 P1 P2 P3 P4 t0 t1 t2 t3 t4 n2) tv (fun i => costOf P0 P1 P2 P3 P4 (cd i)) R c ∧ c.map (·.2) = (bis (fun i => decide (costOf P0 P1 P2 P3 P4 (cd i) ≤ x)) 0 31).2) := by
  refine (bisR_key2 (Led := keyLed nt pr (prL P0 P1 P2 P3 P4 t0 t1 t2 t3 t4 n2) tv (fun i => costOf P0 P1 P2 P3 P4 (cd i)) R) (cf := fun i => costOf P0 P1 P2 P3 P4 (cd i)) ht (fun c => .tail _ (.tail _ (List.mem_append_left _ hfd))) (fun c => .tail _ (.tail _ (List.mem_append_left _ hta))) (key_led ht hth k hne hr b0 b1) ).conv (fun _ h => h) ?_
  rintro v nw ⟨c, tk, rfl, rfl, h3⟩
  exact ⟨_, fun _ h => h, c, tk, rfl, rfl, h3⟩

theorem bisL_key4N {ta f nn nt pr : Addr} {n1 n2 : Nat} {tv : List Value} {R : List (Addr × Obj)} {P0 P1 P2 P3 P4 : Int} {t0 t1 t2 t3 t4 : Tok} {cd : Nat → Int} {fd : FuncData} (ht : tv.length = 31)
    (hth : ∀ i, i < 31 → Thing (tv.getD i .none) (cd i) ∧ 0 ≤ cd i ∧ cd i < 4096) (k : KeyAt f nn nt pr R) (hfd : (f, (⟨.type "function", none, .func fd, #[]⟩ : Obj)) ∈ R) (hta : (ta, listOf tv.toArray n1) ∈ R)
    (hne : @Ne Nat pr nt) (hr : ∀ p ∈ R, p.1 ≠ nt) (b0 : 0 ≤ P0 ∧ P0 < 100) (b1 : 0 ≤ P1 ∧ P1 < 100) {x : Int} {tx : Tok} {lo hi : Nat} {tl th : Tok} (h1 : lo ≤ hi) (h2 : hi ≤ 31) :
    Calls prog w p loose mean mg mb 32 (1 + 4) (8 + 32) (keyLed nt pr (prL P0 P1 P2 P3 P4 t0 t1 t2 t3 t4 n2) tv (fun i => costOf P0 P1 P2 P3 P4 (cd i)) R []) [.ref ta, .int x tx, .int lo tl, .int hi th] [(Str.ofString "key", .ref f)]
      (fun v nw => ∃ c tk, v = .int (bis (fun i => decide (costOf P0 P1 P2 P3 P4 (cd i) < x)) lo hi).1 tk ∧ nw = keyLed nt pr (prL P0 P1 P2 P3 P4 t0 t1 t2 t3 t4 n2) tv (fun i => costOf P0 P1 P2 P3 P4 (cd i)) R c ∧ c.map (·.2) = (bis (fun i => decide (costOf P0 P1 P2 P3 P4 (cd i) < x)) lo hi).2) := by
  refine (bisL_key4 (Led := keyLed nt pr (prL P0 P1 P2 P3 P4 t0 t1 t2 t3 t4 n2) tv (fun i => costOf P0 P1 P2 P3 P4 (cd i)) R) (cf := fun i => costOf P0 P1 P2 P3 P4 (cd i)) ht (fun c => .tail _ (.tail _ (List.mem_append_left _ hfd))) (fun c => .tail _ (.tail _ (List.mem_append_left _ hta))) (key_led ht hth k hne hr b0 b1) h1 h2).conv (fun _ h => h) ?_
  rintro v nw ⟨c, tk, rfl, rfl, h3⟩
  exact ⟨_, fun _ h => h, c, tk, rfl, rfl, h3⟩

theorem bisL_key2N {ta f nn nt pr : Addr} {n1 n2 : Nat} {tv : List Value} {R : List (Addr × Obj)} {P0 P1 P2 P3 P4 : Int} {t0 t1 t2 t3 t4 : Tok} {cd : Nat → Int} {fd : FuncData} (ht : tv.length = 31)
    (hth : ∀ i, i < 31 → Thing (tv.getD i .none) (cd i) ∧ 0 ≤ cd i ∧ cd i < 4096) (k : KeyAt f nn nt pr R) (hfd : (f, (⟨.type "function", none, .func fd, #[]⟩ : Obj)) ∈ R) (hta : (ta, listOf tv.toArray n1) ∈ R)
    (hne : @Ne Nat pr nt) (hr : ∀ p ∈ R, p.1 ≠ nt) (b0 : 0 ≤ P0 ∧ P0 < 100) (b1 : 0 ≤ P1 ∧ P1 < 100) {x : Int} {tx : Tok}  :
    Calls prog w p loose mean mg mb 32 (1 + 4) (8 + 32) (keyLed nt pr (prL P0 P1 P2 P3 P4 t0 t1 t2 t3 t4 n2) tv (fun i => costOf P0 P1 P2 P3 P4 (cd i)) R []) [.ref ta, .int x tx] [(Str.ofString "key", .ref f)]
      (fun v nw => ∃ c tk, v = .int (bis (fun i => decide (costOf P0 P1 P2 P3 P4 (cd i) < x)) 0 31).1 tk ∧ nw = keyLed nt pr (prL P0 P1 P2 P3 P4 t0 t1 t2 t3 t4 n2) tv (fun i => costOf P0 P1 P2 P3 P4 (cd i)) R c ∧ c.map (·.2) = (bis (fun i => decide (costOf P0 P1 P2 P3 P4 (cd i) < x)) 0 31).2) := by
  refine (bisL_key2 (Led := keyLed nt pr (prL P0 P1 P2 P3 P4 t0 t1 t2 t3 t4 n2) tv (fun i => costOf P0 P1 P2 P3 P4 (cd i)) R) (cf := fun i => costOf P0 P1 P2 P3 P4 (cd i)) ht (fun c => .tail _ (.tail _ (List.mem_append_left _ hfd))) (fun c => .tail _ (.tail _ (List.mem_append_left _ hta))) (key_led ht hth k hne hr b0 b1) ).conv (fun _ h => h) ?_
  rintro v nw ⟨c, tk, rfl, rfl, h3⟩
  exact ⟨_, fun _ h => h, c, tk, rfl, rfl, h3⟩
end
end Mine
end
theorem Mine.flushC9c : True ∧ True := by
  w_top off
  first | (walk1; done) | exact ⟨trivial, trivial⟩
section
namespace Mine
/-- the bits of i are bits of j -/
def subB (i j : Nat) : Bool := (i &&& j) == i
theorem sub_fin : ∀ s : Fin 5, ∀ k : Fin 16, ∀ t : Fin 16, (k.1 + 1) * 2 ^ (s.1 + 1) ≤ 32 → t.1 < 2 ^ s.1 → subB (k.1 * 2 ^ (s.1 + 1) + 2 ^ s.1) (k.1 * 2 ^ (s.1 + 1) + 2 ^ s.1 + t.1) = true := by decide +kernel
theorem spots_succ {r s : Nat} : spotsOf r (s + 1) = (r / 2 ^ (s + 1) * 2 ^ (s + 1) + 2 ^ s - 1) :: spotsOf r s := by
  unfold spotsOf
  rw [List.range_succ_eq_map, List.map_cons, List.map_map]
  refine congr (congrArg List.cons ?_) (List.map_congr_left fun k _ => ?_)
  · simp
  · simp only [Function.comp]
    rw [Nat.succ_eq_add_one, Nat.add_sub_add_right, Nat.add_sub_cancel, Nat.add_comm k 1, Nat.sub_add_eq]
theorem place_hi {g : Nat → Bool} {a b c r : Nat} (p : IsPlace g b c r) (hab : a ≤ b) (hm : ∃ i, a ≤ i ∧ i < c ∧ g i = true ∧ b = i + 1) : IsPlace g a c r := by
  obtain ⟨p1, p2, p3⟩ := p
  refine ⟨.inr ?_, Nat.le_trans hab p2, fun i _ h2 h3 => ?_⟩
  · rcases p1 with p1 | ⟨i, h1, h⟩
    · rw [p1]; exact hm
    · exact ⟨i, Nat.le_trans hab h1, h⟩
  · rcases Nat.lt_or_ge i b with hi | hi
    · exact Nat.le_trans hi p2
    · exact p3 i hi h2 h3
theorem place_lo {g : Nat → Bool} {a b c r : Nat} (p : IsPlace g a b r) (hbc : b ≤ c) (hn : ∀ i, b ≤ i → i < c → g i = true → False) : IsPlace g a c r := by
  obtain ⟨p1, p2, p3⟩ := p
  refine ⟨?_, p2, fun i h1 h2 h3 => ?_⟩
  · rcases p1 with p1 | ⟨i, h1, h2, h⟩
    · exact .inl p1
    · exact .inr ⟨i, h1, Nat.lt_of_lt_of_le h2 hbc, h⟩
  · rcases Nat.lt_or_ge i b with hi | hi
    · exact p3 i h1 hi h3
    · exact (hn i hi h2 h3).elim
theorem ar1 {a P : Nat} (h : 1 ≤ P) : (a + (a + 2 * P - 1)) / 2 = a + P - 1 := by omega
theorem ar2 {a P : Nat} (h : 1 ≤ P) : a < a + 2 * P - 1 := by omega
theorem ar3 {a P : Nat} (h : 1 ≤ P) : a + P - 1 + 1 = a + P := by omega
theorem ar4 {a P : Nat} (h : 1 ≤ P) : a + P + P - 1 = a + 2 * P - 1 := by omega
theorem ar5 {a P : Nat} (h : 1 ≤ P) : a + P - 1 ≤ a + 2 * P - 1 := by omega
theorem ar6 {a P : Nat} (h : 1 ≤ P) : a + P - 1 < a + 2 * P - 1 := by omega
theorem ar7 {a P : Nat} (h : 1 ≤ P) : a ≤ a + P - 1 := by omega
theorem ar8 {a P i : Nat} (hP : 1 ≤ P) (h1 : a + P - 1 ≤ i) (h2 : i < a + 2 * P - 1) : i + 1 - (a + P) < P ∧ a + P + (i + 1 - (a + P)) = i + 1 := by omega
theorem ar9 {a P : Nat} (h : 1 ≤ P) (hb : a + 2 * P ≤ 32) : a + P - 1 < 31 := by omega
theorem ar10 {a P i : Nat} (hP : 1 ≤ P) (h2 : i < a + 2 * P - 1) (hb : a + 2 * P ≤ 32) : i < 31 := by omega
theorem ar11 {a P r : Nat} (hP : 1 ≤ P) (h : r ≤ a + 2 * P - 1) : r < a + 2 * P := by omega
/-- one halving of a branch: the two halves are told -/
theorem bis_step {g : Nat → Bool} {a P s : Nat} (hg : ∀ i j, i < 31 → j < 31 → subB (i + 1) (j + 1) = true → g j = true → g i = true) (hP : 1 ≤ P) (hb : a + 2 * P ≤ 32)
    (hfin : ∀ t, t < P → subB (a + P) (a + P + t) = true) (hsp : ∀ r, a ≤ r → r ≤ a + 2 * P - 1 → r / 2 ^ (s + 1) * 2 ^ (s + 1) = a) (hPs : 2 ^ s = P)
    (R : IsPlace g (a + P) (a + P + P - 1) (bis g (a + P) (a + P + P - 1)).1 ∧ (bis g (a + P) (a + P + P - 1)).2 = spotsOf (bis g (a + P) (a + P + P - 1)).1 s ∧ (bis g (a + P) (a + P + P - 1)).1 ≤ a + P + P - 1)
    (L : IsPlace g a (a + P - 1) (bis g a (a + P - 1)).1 ∧ (bis g a (a + P - 1)).2 = spotsOf (bis g a (a + P - 1)).1 s ∧ (bis g a (a + P - 1)).1 ≤ a + P - 1) :
    IsPlace g a (a + 2 * P - 1) (bis g a (a + 2 * P - 1)).1 ∧ (bis g a (a + 2 * P - 1)).2 = spotsOf (bis g a (a + 2 * P - 1)).1 (s + 1) ∧ (bis g a (a + 2 * P - 1)).1 ≤ a + 2 * P - 1 := by
  rw [spots_succ, hPs]
  cases hm : g (a + P - 1) with
  | true =>
    have b := bis_right (g := g) (ar2 (a := a) hP) (by rw [ar1 hP]; exact hm)
    rw [ar1 hP, ar3 hP] at b
    rw [ar4 hP] at R
    obtain ⟨p, q, r⟩ := R
    rw [b]
    exact ⟨place_hi p (Nat.le_add_right _ _) ⟨a + P - 1, ar7 hP, ar6 hP, hm, (ar3 hP).symm⟩, by rw [hsp _ (Nat.le_trans (Nat.le_add_right _ _) p.2.1) r, ← q], r⟩
  | false =>
    have b := bis_left (g := g) (ar2 (a := a) hP) (by rw [ar1 hP]; exact hm)
    rw [ar1 hP] at b
    obtain ⟨p, q, r⟩ := L
    rw [b]
    refine ⟨place_lo p (ar5 hP) fun i h1 h2 h3 => ?_, by rw [hsp _ p.2.1 (Nat.le_trans r (ar5 hP)), ← q], Nat.le_trans r (ar5 hP)⟩
    obtain ⟨e1, e2⟩ := ar8 hP h1 h2
    have := hfin _ e1
    rw [e2, ← ar3 hP] at this
    have := hg _ _ (ar9 hP hb) (ar10 hP h2 hb) this h3
    rw [hm] at this; cases this
theorem ar12 {k s : Nat} : k * 2 ^ (s + 1) = 2 * k * 2 ^ s := by rw [Nat.pow_succ, Nat.mul_comm (2 ^ s) 2, ← Nat.mul_assoc, Nat.mul_comm k 2]
theorem bis_branch (g : Nat → Bool) (hg : ∀ i j, i < 31 → j < 31 → subB (i + 1) (j + 1) = true → g j = true → g i = true) :
    ∀ (s k : Nat), s ≤ 5 → (k + 1) * 2 ^ s ≤ 32 → IsPlace g (k * 2 ^ s) (k * 2 ^ s + 2 ^ s - 1) (bis g (k * 2 ^ s) (k * 2 ^ s + 2 ^ s - 1)).1 ∧
      (bis g (k * 2 ^ s) (k * 2 ^ s + 2 ^ s - 1)).2 = spotsOf (bis g (k * 2 ^ s) (k * 2 ^ s + 2 ^ s - 1)).1 s ∧ (bis g (k * 2 ^ s) (k * 2 ^ s + 2 ^ s - 1)).1 ≤ k * 2 ^ s + 2 ^ s - 1 := by
  intro s
  induction s with
  | zero =>
    intro k _ _
    rw [bis_end (by simp)]
    exact ⟨⟨.inl rfl, Nat.le_refl _, fun i h1 h2 => absurd (Nat.lt_of_le_of_lt h1 h2) (by simp)⟩, rfl, Nat.le_refl _⟩
  | succ s ih =>
    intro k hs h
    have hP : 1 ≤ 2 ^ s := Nat.one_le_two_pow
    have e2 : 2 ^ (s + 1) = 2 * 2 ^ s := by rw [Nat.pow_succ, Nat.mul_comm]
    have hb : 2 * k * 2 ^ s + 2 * 2 ^ s ≤ 32 := by rw [Nat.add_mul, Nat.one_mul, ar12, e2] at h; exact h
    have hR : (2 * k + 1 + 1) * 2 ^ s ≤ 32 := by rw [Nat.add_mul, Nat.add_mul, Nat.one_mul, Nat.add_assoc, ← Nat.two_mul]; exact hb
    have ihR := ih (2 * k + 1) (Nat.le_of_succ_le hs) hR
    have ihL := ih (2 * k) (Nat.le_of_succ_le hs) (Nat.le_trans (Nat.mul_le_mul_right _ (Nat.le_succ _)) hR)
    rw [Nat.add_mul, Nat.one_mul] at ihR
    have hsp : ∀ r, 2 * k * 2 ^ s ≤ r → r ≤ 2 * k * 2 ^ s + 2 * 2 ^ s - 1 → r / 2 ^ (s + 1) * 2 ^ (s + 1) = 2 * k * 2 ^ s := by
      intro r h1 h2
      rw [← ar12]
      congr 1
      refine Nat.div_eq_of_lt_le (by rw [ar12]; exact h1) ?_
      rw [Nat.add_mul, Nat.one_mul, ar12, e2]; exact ar11 hP h2
    have hfin : ∀ t, t < 2 ^ s → subB (2 * k * 2 ^ s + 2 ^ s) (2 * k * 2 ^ s + 2 ^ s + t) = true := by
      intro t ht
      have hk : k < 16 := by
        have := Nat.mul_le_mul_left (k + 1) (show 2 ≤ 2 ^ (s + 1) by rw [e2]; exact Nat.mul_le_mul_left 2 hP)
        have := Nat.le_trans this h
        clear ih ihR ihL hsp hb hR h; omega
      have ht' : t < 16 := Nat.lt_of_lt_of_le ht (Nat.pow_le_pow_right (n := 2) (by decide) (Nat.le_of_succ_le_succ hs))
      have := sub_fin ⟨s, Nat.lt_of_succ_le hs⟩ ⟨k, hk⟩ ⟨t, ht'⟩ h ht
      rw [ar12] at this
      exact this
    rw [ar12, e2]
    exact bis_step hg hP hb hfin hsp rfl ihR ihL
/-- what is asked of two codes, the second one with more bits -/
def leC (c d : Nat) : Bool := decide (c % 32 ≤ d % 32) && decide (c / 256 * 256 + 128 + c % 128 ≤ d / 256 * 256 + 128 + d % 128) && (decide (c ≤ 127) || decide (127 < d)) && (decide (c ≤ 31) || decide (31 < d))
def okRow (r : List Nat) : Bool := decide (r.length = 31) && (r.all fun c => decide (1 ≤ c) && decide (c < 4096)) &&
  (List.range 31).all fun i => (List.range 31).all fun j => !subB (i + 1) (j + 1) || leC (r.getD i 0) (r.getD j 0)
def sumsN : Nat → List Nat → List Nat
  | _, [] => [0]
  | p, b :: bs => (sumsN (p * (4 - 2 * b)) bs).flatMap fun c => [c, c + p]
theorem okR00 : ∀ b1 b2 b3 : Fin 2, okRow ((sumsN (2 ^ 0) [0, b1.1, b2.1, b3.1, 0]).drop 1) = true := by decide +kernel
theorem okR01 : ∀ b1 b2 b3 : Fin 2, okRow ((sumsN (2 ^ 0) [1, b1.1, b2.1, b3.1, 0]).drop 1) = true := by decide +kernel
theorem okR10 : ∀ b1 b2 b3 : Fin 2, okRow ((sumsN (2 ^ 1) [0, b1.1, b2.1, b3.1, 0]).drop 1) = true := by decide +kernel
theorem okR11 : ∀ b1 b2 b3 : Fin 2, okRow ((sumsN (2 ^ 1) [1, b1.1, b2.1, b3.1, 0]).drop 1) = true := by decide +kernel
theorem okR20 : ∀ b1 b2 b3 : Fin 2, okRow ((sumsN (2 ^ 2) [0, b1.1, b2.1, b3.1, 0]).drop 1) = true := by decide +kernel
theorem okR21 : ∀ b1 b2 b3 : Fin 2, okRow ((sumsN (2 ^ 2) [1, b1.1, b2.1, b3.1, 0]).drop 1) = true := by decide +kernel
theorem okRows : ∀ (t : Fin 3) (b0 b1 b2 b3 : Fin 2), okRow ((sumsN (2 ^ t.1) [b0.1, b1.1, b2.1, b3.1, 0]).drop 1) = true
  | ⟨0, _⟩, ⟨0, _⟩, b1, b2, b3 => okR00 b1 b2 b3
  | ⟨0, _⟩, ⟨1, _⟩, b1, b2, b3 => okR01 b1 b2 b3
  | ⟨1, _⟩, ⟨0, _⟩, b1, b2, b3 => okR10 b1 b2 b3
  | ⟨1, _⟩, ⟨1, _⟩, b1, b2, b3 => okR11 b1 b2 b3
  | ⟨2, _⟩, ⟨0, _⟩, b1, b2, b3 => okR20 b1 b2 b3
  | ⟨2, _⟩, ⟨1, _⟩, b1, b2, b3 => okR21 b1 b2 b3
def stepZ (S : List Int) (p : Int) : List Int := S ++ S.map (fun c => c + p)
def rowZ (p b0 b1 b2 b3 : Int) : List Int :=
  stepZ (stepZ (stepZ (stepZ (stepZ [0] p) (p * (4 - 2 * b0))) (p * (4 - 2 * b0) * (4 - 2 * b1))) (p * (4 - 2 * b0) * (4 - 2 * b1) * (4 - 2 * b2))) (p * (4 - 2 * b0) * (4 - 2 * b1) * (4 - 2 * b2) * (4 - 2 * b3))
theorem rowZs : ∀ t : Fin 3, ∀ b0 b1 b2 b3 : Fin 2, (rowZ (2 ^ t.1) b0.1 b1.1 b2.1 b3.1).drop 1 = ((sumsN (2 ^ t.1) [b0.1, b1.1, b2.1, b3.1, 0]).drop 1).map (fun n : Nat => (n : Int)) := by decide +kernel
theorem fin2 (x : Int) : ∃ b : Fin 2, x % 2 = (b.1 : Int) := ⟨⟨(x % 2).toNat, by omega⟩, by dsimp only; omega⟩
theorem fin3 (x : Int) : ∃ b : Fin 3, (x % 3).toNat = b.1 := ⟨⟨(x % 3).toNat, by omega⟩, rfl⟩
theorem sums_row (total : Int) : ∃ r : List Nat, (sumsOf total 5).drop 1 = r.map (fun n : Nat => (n : Int)) ∧ okRow r = true := by
  obtain ⟨t, ht⟩ := fin3 total
  obtain ⟨b0, h0⟩ := fin2 (total / 2 ^ 0)
  obtain ⟨b1, h1⟩ := fin2 (total / 2 ^ 1)
  obtain ⟨b2, h2⟩ := fin2 (total / 2 ^ 2)
  obtain ⟨b3, h3⟩ := fin2 (total / 2 ^ 3)
  refine ⟨_, ?_, okRows t b0 b1 b2 b3⟩
  rw [← rowZs t b0 b1 b2 b3, ← h0, ← h1, ← h2, ← h3, ← ht]
  rfl
theorem mono1 {c d : Nat} (h : c % 32 ≤ d % 32) : (c : Int) % 32 ≤ (d : Int) % 32 := by omega
theorem mono2 {c d : Nat} (h : c / 256 * 256 + 128 + c % 128 ≤ d / 256 * 256 + 128 + d % 128) : (c : Int) / 256 * 256 + 128 + (c : Int) % 128 ≤ (d : Int) / 256 * 256 + 128 + (d : Int) % 128 := by omega
theorem mono3 {k c d : Nat} {x : Int} (hx : 0 ≤ x) (h : c ≤ k ∨ k < d) : (if (k : Int) < (c : Int) then x else 0) ≤ (if (k : Int) < (d : Int) then x else 0) := by
  split
  · rw [if_pos (by omega)]; exact Int.le_refl _
  · split
    · exact hx
    · exact Int.le_refl _
theorem costOf_mono {P0 P1 P2 P3 P4 : Int} {c d : Nat} (h0 : 0 ≤ P0) (h1 : 0 ≤ P1) (h2 : 0 ≤ P2) (h3 : 0 ≤ P3) (h4 : 0 ≤ P4) (h : leC c d = true) : costOf P0 P1 P2 P3 P4 c ≤ costOf P0 P1 P2 P3 P4 d := by
  simp only [leC, Bool.and_eq_true, Bool.or_eq_true, decide_eq_true_eq] at h
  obtain ⟨⟨⟨a1, a2⟩, a3⟩, a4⟩ := h
  exact Int.add_le_add (Int.add_le_add (Int.add_le_add (Int.mul_le_mul_of_nonneg_left (mono1 a1) h0) (Int.mul_le_mul_of_nonneg_left (mono2 a2) h1)) (mono3 (k := 127) (Int.add_nonneg h2 h4) a3)) (mono3 (k := 31) h3 a4)
end Mine
end
theorem Mine.flushP1 : True ∧ True := by
  w_top off
  first | (walk1; done) | exact ⟨trivial, trivial⟩
section
namespace Mine
/-- two things at hand that are not the same thing lie at two places -/
theorem obj_ne {h₀ h : Heap} {L a b : Addr} {o o' : Obj} {news : List (Addr × Obj)} (N : News h₀ L h news) (ha : (a, o) ∈ news) (hb : (b, o') ∈ news) (hn : o ≠ o') : @Ne Nat a b := fun e => by
  have z1 := (N _ ha).1
  have z2 := (N _ hb).1
  dsimp only at z1 z2
  rw [e, z2] at z1
  exact hn (Option.some.inj z1).symm
theorem note_off {h₀ h : Heap} {L b : Addr} {o' : Obj} {tv : List Value} {cf : Nat → Int} {c : NT} {news : List (Addr × Obj)} (N : News h₀ L h news) (hs : ∀ q ∈ noteObjs tv cf c, q ∈ news) (hb : (b, o') ∈ news) (hc : o'.cls ≠ .type "tuple") : ∀ q ∈ noteObjs tv cf c, @Ne Nat q.1 b := by
  intro q hq
  obtain ⟨d, hd, rfl⟩ := List.mem_map.mp hq
  exact obj_ne N (hs _ (List.mem_map_of_mem hd)) hb fun e => hc (by rw [← e])
theorem keyLed0 {nt pr : Addr} {oP : Obj} {tv : List Value} {cf : Nat → Int} {R news : List (Addr × Obj)} (h0 : (nt, listOf #[] 0) ∈ news) (h1 : (pr, oP) ∈ news) (h2 : ∀ q ∈ R, q ∈ news) : ∀ q ∈ keyLed nt pr oP tv cf R [], q ∈ news := by
  intro q hq
  rcases List.mem_cons.mp hq with rfl | hq
  · exact h0
  · rcases List.mem_cons.mp hq with rfl | hq
    · exact h1
    · rcases List.mem_append.mp hq with hq | hq
      · exact h2 _ hq
      · exact nomatch hq
theorem pickN {h₀ h : Heap} {L f : Addr} {o : Obj} {l : List (Addr × Obj)} (N : News h₀ L h ((f, o) :: l)) : ∃ o', News h₀ L h ((f, o') :: l) ∧ o' = o := ⟨_, N, rfl⟩
theorem memL {x : Addr × Obj} {l : List (Addr × Obj)} (h : x ∈ l) : List.Mem x l := h
structure Hide (P : Prop) : Prop where
  out : P
def Off5 (n0 n1 n2 n3 : Addr) (a : Addr) : Prop := @Ne Nat a 117 ∧ @Ne Nat a n0 ∧ @Ne Nat a n1 ∧ @Ne Nat a n2 ∧ @Ne Nat a n3
/-- a search is done: the ledger anew -/
theorem repack {h₀ h : Heap} {L f c1 nt pr n0 n1 n2 n3 : Addr} {of' oc1 oP : Obj} {ps1 : Array Value} {vs1 : Array Value} {tv : List Value} {cf : Nat → Int} {cc : NT} {X R : List (Addr × Obj)} {o0 o1 o2 o3 : Obj}
    (N : News h₀ L h (keyLed nt pr oP tv cf ((f, of') :: (c1, oc1) :: (117, tabObj ps1) :: (X ++ R)) cc)) (hd : oc1.data = .fields vs1) (hc : @Ne Nat c1 117) (hR : ∀ q ∈ R, Off5 n0 n1 n2 n3 q.1)
    (m0 : (n0, o0) ∈ keyLed nt pr oP tv cf ((f, of') :: (c1, oc1) :: (117, tabObj ps1) :: (X ++ R)) cc) (m1 : (n1, o1) ∈ keyLed nt pr oP tv cf ((f, of') :: (c1, oc1) :: (117, tabObj ps1) :: (X ++ R)) cc)
    (m2 : (n2, o2) ∈ keyLed nt pr oP tv cf ((f, of') :: (c1, oc1) :: (117, tabObj ps1) :: (X ++ R)) cc) (m3 : (n3, o3) ∈ keyLed nt pr oP tv cf ((f, of') :: (c1, oc1) :: (117, tabObj ps1) :: (X ++ R)) cc)
    (e0 : o0.cls = .type "list" ∧ ∃ a b, o0.data = .seq a b) (e1 : o1.cls = .type "list" ∧ ∃ a b, o1.data = .seq a b) (e2 : o2.cls = .type "list" ∧ ∃ a b, o2.data = .seq a b) (e3 : o3.cls = .type "list" ∧ ∃ a b, o3.data = .seq a b) :
    ∃ R1, (∀ q ∈ R, q ∈ R1) ∧ (c1, oc1) ∈ R1 ∧ (∀ q ∈ noteObjs tv cf cc, q ∈ R1) ∧ (∀ q ∈ R1, Off5 n0 n1 n2 n3 q.1) ∧
      News h₀ L h ((117, tabObj ps1) :: (nt, listOf (noteRefs cc).toArray cc.length) :: (pr, oP) :: (X ++ R1)) := by
  have hns : ∀ q ∈ noteObjs tv cf cc, q ∈ keyLed nt pr oP tv cf ((f, of') :: (c1, oc1) :: (117, tabObj ps1) :: (X ++ R)) cc := fun q hq => .tail _ (.tail _ (List.mem_append_right _ hq))
  have mc : (c1, oc1) ∈ keyLed nt pr oP tv cf ((f, of') :: (c1, oc1) :: (117, tabObj ps1) :: (X ++ R)) cc := .tail _ (.tail _ (List.mem_append_left _ (.tail _ (.head _))))
  have mt : (117, tabObj ps1) ∈ keyLed nt pr oP tv cf ((f, of') :: (c1, oc1) :: (117, tabObj ps1) :: (X ++ R)) cc := .tail _ (.tail _ (List.mem_append_left _ (.tail _ (.tail _ (.head _)))))
  have cl : ∀ {o : Obj}, (o.cls = .type "list" ∧ ∃ a b, o.data = .seq a b) → o.cls ≠ .type "tuple" := fun h q => by rw [h.1] at q; exact absurd q (by decide)
  have cd : ∀ {o : Obj}, (o.cls = .type "list" ∧ ∃ a b, o.data = .seq a b) → oc1 ≠ o := fun h q => by
    obtain ⟨_, a, b, e⟩ := h
    rw [← q, hd] at e; cases e
  refine ⟨(c1, oc1) :: (R ++ noteObjs tv cf cc), fun q hq => .tail _ (List.mem_append_left _ hq), .head _, fun q hq => .tail _ (List.mem_append_right _ hq), fun q hq => ?_, cb_drop N fun q hq => ?_⟩
  · rcases List.mem_cons.mp hq with rfl | hq
    · exact ⟨hc, obj_ne N mc m0 (cd e0), obj_ne N mc m1 (cd e1), obj_ne N mc m2 (cd e2), obj_ne N mc m3 (cd e3)⟩
    · rcases List.mem_append.mp hq with hq | hq
      · exact hR q hq
      · exact ⟨note_off N hns mt (by intro q; cases q) q hq, note_off N hns m0 (cl e0) q hq, note_off N hns m1 (cl e1) q hq, note_off N hns m2 (cl e2) q hq, note_off N hns m3 (cl e3) q hq⟩
  · rcases List.mem_cons.mp hq with rfl | hq
    · exact mt
    · rcases List.mem_cons.mp hq with rfl | hq
      · exact .head _
      · rcases List.mem_cons.mp hq with rfl | hq
        · exact .tail _ (.head _)
        · refine .tail _ (.tail _ ?_)
          rcases List.mem_append.mp hq with hq | hq
          · exact List.mem_append_left _ (.tail _ (.tail _ (.tail _ (List.mem_append_left _ hq))))
          · rcases List.mem_cons.mp hq with rfl | hq
            · exact List.mem_append_left _ (.tail _ (.head _))
            · rcases List.mem_append.mp hq with hq | hq
              · exact List.mem_append_left _ (.tail _ (.tail _ (.tail _ (List.mem_append_right _ hq))))
              · exact List.mem_append_right _ hq
theorem IsPlace.congr {q q' : Nat → Bool} {lo hi r : Nat} (h : IsPlace q lo hi r) (e : ∀ i, lo ≤ i → i < hi → q i = q' i) : IsPlace q' lo hi r := by
  obtain ⟨a, b, c⟩ := h
  refine ⟨?_, b, fun i h1 h2 h3 => c i h1 h2 (by rw [e i h1 h2]; exact h3)⟩
  rcases a with a | ⟨i, h1, h2, h3, h4⟩
  · exact .inl a
  · exact .inr ⟨i, h1, h2, by rw [← e i h1 h2]; exact h3, h4⟩
/-- costs that do not fall where bits are added -/
def MonoC (cf : Nat → Int) : Prop := ∀ i j, i < 31 → j < 31 → subB (i + 1) (j + 1) = true → cf i ≤ cf j
/-- spots lie in the row -/
theorem spots_lt {g : Nat → Bool} : ∀ (n lo hi : Nat), hi - lo ≤ n → ∀ k ∈ (bis g lo hi).2, k < hi := by
  intro n
  induction n with
  | zero => intro lo hi h; rw [bis_end (by omega)]; intro k hk; exact nomatch hk
  | succ n ih =>
    intro lo hi h
    by_cases hlt : lo < hi
    · cases hg : g ((lo + hi) / 2) with
      | true =>
        rw [bis_right hlt hg]
        intro k hk
        rcases List.mem_cons.mp hk with rfl | hk
        · omega
        · exact ih _ _ (by omega) k hk
      | false =>
        rw [bis_left hlt hg]
        intro k hk
        rcases List.mem_cons.mp hk with rfl | hk
        · omega
        · have := ih _ _ (by omega) k hk
          omega
    · rw [bis_end hlt]; intro k hk; exact nomatch hk
theorem found {g g' : Nat → Bool} {lo hi r k size : Nat} (hg : ∀ i j, i < 31 → j < 31 → subB (i + 1) (j + 1) = true → g j = true → g i = true) (hag : ∀ i, i < 31 → g i = g' i)
    (hs : size ≤ 5) (hk : k < 2 ^ (5 - size)) (hlo : lo = k * 2 ^ size) (hhi : hi = lo + 2 ^ size - 1) (ip : IsPlace g' lo hi r) :
    (bis g lo hi).1 = r ∧ (bis g lo hi).2 = spotsOf r size ∧ (bis g' lo hi).1 = r ∧ r ≤ 31 ∧ ∀ k ∈ spotsOf r size, k < 31 := by
  subst hlo; subst hhi
  have h32 : 2 ^ (5 - size) * 2 ^ size = 32 := by rw [← Nat.pow_add, show 5 - size + size = 5 by omega]
  have hb : (k + 1) * 2 ^ size ≤ 32 := by rw [← h32]; exact Nat.mul_le_mul_right _ hk
  have hb' := hb
  rw [Nat.add_mul, Nat.one_mul] at hb'
  have hP : 1 ≤ 2 ^ size := Nat.one_le_two_pow
  obtain ⟨a1, a2, a3⟩ := bis_branch g hg size k hs hb
  obtain ⟨c1, _, _⟩ := bis_branch g' (fun i j h1 h2 h3 h4 => by rw [← hag i h1]; exact hg i j h1 h2 h3 (by rw [hag j h2]; exact h4)) size k hs hb
  have e := (a1.congr fun i _ h2 => hag i (by omega)).unique ip
  have e' := c1.unique ip
  refine ⟨e, by rw [a2, e], e', by omega, fun k' hk' => ?_⟩
  rw [← e, ← a2] at hk'
  have := spots_lt _ _ _ (Nat.le_refl _) k' hk'
  omega
theorem found_lt {cf : Nat → Int} {cs' : List Int} {x : Int} {lo hi r k size : Nat} (hm : MonoC cf) (hag : ∀ i, i < 31 → cs'.getD i 0 = cf i) (hs : size ≤ 5) (hk : k < 2 ^ (5 - size)) (hlo : lo = k * 2 ^ size) (hhi : hi = lo + 2 ^ size - 1) (ip : IsPlace (fun i => decide (cs'.getD i 0 < x)) lo hi r) :
    (bis (fun i => decide (cf i < x)) lo hi).1 = r ∧ (bis (fun i => decide (cf i < x)) lo hi).2 = spotsOf r size ∧ (bis (fun i => decide (cs'.getD i 0 < x)) lo hi).1 = r ∧ r ≤ 31 ∧ ∀ k ∈ spotsOf r size, k < 31 :=
  found (fun i j h1 h2 h3 h4 => decide_eq_true (Int.lt_of_le_of_lt (hm i j h1 h2 h3) (of_decide_eq_true h4))) (fun i hi => by rw [hag i hi]) hs hk hlo hhi ip
theorem found_le {cf : Nat → Int} {cs' : List Int} {x : Int} {lo hi r k size : Nat} (hm : MonoC cf) (hag : ∀ i, i < 31 → cs'.getD i 0 = cf i) (hs : size ≤ 5) (hk : k < 2 ^ (5 - size)) (hlo : lo = k * 2 ^ size) (hhi : hi = lo + 2 ^ size - 1) (ip : IsPlace (fun i => decide (cs'.getD i 0 ≤ x)) lo hi r) :
    (bis (fun i => decide (cf i ≤ x)) lo hi).1 = r ∧ (bis (fun i => decide (cf i ≤ x)) lo hi).2 = spotsOf r size ∧ (bis (fun i => decide (cs'.getD i 0 ≤ x)) lo hi).1 = r ∧ r ≤ 31 ∧ ∀ k ∈ spotsOf r size, k < 31 :=
  found (fun i j h1 h2 h3 h4 => decide_eq_true (Int.le_trans (hm i j h1 h2 h3) (of_decide_eq_true h4))) (fun i hi => by rw [hag i hi]) hs hk hlo hhi ip
/-- the note lists as data -/
def thD : Value → Dat
  | .int i _ => .int i
  | .str x _ => .str x
  | _ => .none
def noteD (tv : List Value) (cf : Nat → Int) (ks : List Nat) : Dat := .list (ks.map fun k => .tuple [thD (tv.getD k .none), .int (cf k)])
theorem thD_in {v : Value} {c : Int} {news : List (Addr × Obj)} (h : Thing v c) : DatIn news v (thD v) := by
  rcases h with ⟨t, rfl⟩ | ⟨t, rfl⟩
  · exact .int _ _
  · exact .str _ _
theorem notes_in {tv : List Value} {cf cd : Nat → Int} {news : List (Addr × Obj)} {l : Addr} {n : Nat} {ts : NT} {ks : List Nat} (hm : (l, listOf (noteRefs ts).toArray n) ∈ news) (hs : ∀ q ∈ noteObjs tv cf ts, q ∈ news) (hk : ts.map (·.2) = ks)
    (hth : ∀ k ∈ ks, Thing (tv.getD k .none) (cd k)) : DatIn news (.ref l) (noteD tv cf ks) := by
  subst hk
  refine .list hm ?_
  have : ∀ us : NT, (∀ e ∈ us, e ∈ ts) → DatAll news (noteRefs us) ((us.map (·.2)).map fun k => .tuple [thD (tv.getD k .none), .int (cf k)]) := by
    intro us
    induction us with
    | nil => intro _; exact .nil
    | cons e us ih =>
      intro he
      refine .cons (.tuple (hs _ (List.mem_map_of_mem (he e (.head _)))) (.cons (thD_in (hth _ (List.mem_map_of_mem (he e (.head _))))) (.cons (.int _ _) .nil))) (ih fun q hq => he q (.tail _ hq))
  exact this ts fun _ h => h
theorem noteD_ok {tv : List Value} {cf cd : Nat → Int} {ks : List Nat} (hth : ∀ k ∈ ks, Thing (tv.getD k .none) (cd k) ∧ 0 ≤ cd k ∧ cd k < 4096) : kqdOk 8 (noteD tv cf ks) = true := by
  unfold noteD
  simp only [kqdOk, List.all_map, List.all_eq_true]
  intro k hk
  obtain ⟨h, h0, h1⟩ := hth k hk
  rcases h with ⟨t, e⟩ | ⟨t, e⟩
  · simp only [Function.comp, kqdOk, e, thD, List.all_cons, List.all_nil, Bool.and_true]
  · simp only [Function.comp, kqdOk, e, thD, List.all_cons, List.all_nil, Bool.and_true]
    have : (cd k).toNat < 4096 := by omega
    simp [PyData.strOk]
    omega
theorem noteD_congr {tv : List Value} {cf cf' : Nat → Int} {ks : List Nat} (h : ∀ k ∈ ks, cf k = cf' k) : noteD tv cf ks = noteD tv cf' ks := by
  unfold noteD
  rw [List.map_congr_left fun k hk => by rw [h k hk]]
theorem datAll_snoc {news : List (Addr × Obj)} {v : Value} {d : Dat} (hd : DatIn news v d) : ∀ {vs : List Value} {ds : List Dat}, DatAll news vs ds → DatAll news (vs ++ [v]) (ds ++ [d]) := by
  intro vs
  induction vs with
  | nil => intro ds h; cases h; exact .cons hd .nil
  | cons x xs ih => intro ds h; cases h with | cons h1 h2 => exact .cons h1 (ih h2)
section
variable {prog : Program} {w : World} {A : Around} {h₀ : Heap} {L : Addr} {m : Str → Option Value} {env : Env} {elt : Expr} {x : Str} {scope : Scope} {cl : List (Str × Addr)} {s : Shared} {Fin : List Value → List (Addr × Obj) → Prop} {news : List (Addr × Obj)}
theorem comp_ind {n : Nat} {a : Int} (J : Nat → List Value → List (Addr × Obj) → Prop)
    (turn : ∀ i t I oI C oC D m₂ ys nw h tk (E' : Value → Shared → Prop), i < n → J i ys nw → LCg.NsObj oC m₂ → m₂ x = some (.int (a + (i : Int)) t) → Fr h₀ L h m → News h₀ L h ((I, oI) :: (C, oC) :: (D, LCg.lst ys) :: nw) → LCg.Off3 I C D nw → ((@Ne Nat I C) ∧ (@Ne Nat I D) ∧ (@Ne Nat C D)) →
      wpAny (model prog w) A (eval elt (compEnvC scope cl C env)) (LCg.CompEnd h₀ L m { s with heap := h, toks := tk } I oI C oC D (LCg.lst ys) (fun _ => True) (fun y nw' => J (i + 1) (ys ++ [y]) nw')) E' { s with heap := h, toks := tk })
    (fin : ∀ ys nw, J n ys nw → Fin ys nw) (start : J 0 [] news) :
    LCg.CompRest prog w A h₀ L m env elt x scope cl s (fun _ => True) (fun i v => ∃ t, v = .int (a + (i : Int)) t) Fin n 0 [] news := by
  have key : ∀ (j i : Nat) (ys : List Value) (nw : List (Addr × Obj)), i + j = n → J i ys nw → LCg.CompRest prog w A h₀ L m env elt x scope cl s (fun _ => True) (fun i v => ∃ t, v = .int (a + (i : Int)) t) Fin j i ys nw := by
    intro j
    induction j with
    | zero =>
      intro i ys nw hi hJ
      obtain rfl : i = n := by omega
      exact LCg.CompRest.zero (fin ys nw hJ)
    | succ j ih =>
      intro i ys nw hi hJ
      refine LCg.CompRest.succ ?_
      intro v I oI C oC D m₂ h tk E' hv hC hx F N off ne
      obtain ⟨t, rfl⟩ := hv
      refine wpAny_mono (turn i t I oI C oC D m₂ ys nw h tk E' (by omega) hJ hC hx F N off ne) (fun y s₂ hq => ?_) fun _ _ e => e
      obtain ⟨h', tk', nw', e1, F', N', off', _, hJ'⟩ := hq
      exact ⟨h', tk', nw', e1, F', N', off', trivial, ih (i + 1) _ _ (by omega) hJ'⟩
  exact key n 0 [] news (by omega) start
end
/-- what a turn of the last comprehension makes: a list of notes more -/
theorem steps_turn {tv : List Value} {cf cd : Nat → Int} {cs' : List Int} {nw base : List (Addr × Obj)} {ys : List Value} {ks : Nat → List Nat} {i n : Nat} {l : Addr} {ts : NT} (h : (∀ q ∈ base, q ∈ nw) ∧ DatAll nw ys ((List.range i).map fun k => noteD tv cf (ks k)))
    (hth : ∀ i, i < 31 → Thing (tv.getD i .none) (cd i) ∧ 0 ≤ cd i ∧ cd i < 4096) (hag : ∀ i, i < 31 → cs'.getD i 0 = cf i) (hk : ∀ k ∈ ks i, k < 31) (hts : ts.map (·.2) = ks i) :
    (∀ q ∈ base, q ∈ (l, listOf (noteRefs ts).toArray n) :: (nw ++ noteObjs tv (fun i => cs'.getD i 0) ts)) ∧
      DatAll ((l, listOf (noteRefs ts).toArray n) :: (nw ++ noteObjs tv (fun i => cs'.getD i 0) ts)) (ys ++ [.ref l]) ((List.range (i + 1)).map fun k => noteD tv cf (ks k)) := by
  refine ⟨fun q hq => .tail _ (List.mem_append_left _ (h.1 q hq)), ?_⟩
  rw [List.range_succ, List.map_append]
  refine datAll_snoc ?_ (h.2.mono fun q hq => .tail _ (List.mem_append_left _ hq))
  show DatIn _ (.ref l) (noteD tv cf (ks i))
  rw [noteD_congr (cf' := fun i => cs'.getD i 0) fun k hk' => (hag k (hk k hk')).symm]
  exact notes_in (.head _) (fun q hq => .tail _ (List.mem_append_right _ hq)) hts fun k hk' => (hth k (hk k hk')).1
theorem off_steps {I C D l : Addr} {oI oC oD o : Obj} {nw : List (Addr × Obj)} {tv : List Value} {cf : Nat → Int} {ts : NT} (off : LCg.Off3 I C D nw) (h : ∀ p ∈ (I, oI) :: (C, oC) :: (D, oD) :: nw, p.1 ≠ l ∧ ∀ e ∈ ts, p.1 ≠ e.1.1) : LCg.Off3 I C D ((l, o) :: (nw ++ noteObjs tv cf ts)) := by
  have hI := h _ (.head _)
  have hC := h _ (.tail _ (.head _))
  have hD := h _ (.tail _ (.tail _ (.head _)))
  refine LCg.Off3.of fun p hp => ?_
  rcases List.mem_cons.mp hp with rfl | hp
  · exact ⟨Ne.symm hI.1, Ne.symm hC.1, Ne.symm hD.1⟩
  · rcases List.mem_append.mp hp with hp | hp
    · exact off.mem p hp
    · obtain ⟨e, he, rfl⟩ := List.mem_map.mp hp
      exact ⟨Ne.symm (hI.2 e he), Ne.symm (hC.2 e he), Ne.symm (hD.2 e he)⟩
theorem sub_steps {i c d o : Addr × Obj} {nw ob : List (Addr × Obj)} : ∀ p ∈ i :: c :: d :: o :: (nw ++ ob), p ∈ o :: (i :: c :: d :: nw ++ ob) := by
  intro p hp
  simp only [List.mem_cons, List.mem_append, List.cons_append] at hp ⊢
  rcases hp with h | h | h | h | h | h
  · exact .inr (.inl h)
  · exact .inr (.inr (.inl h))
  · exact .inr (.inr (.inr (.inl h)))
  · exact .inl h
  · exact .inr (.inr (.inr (.inr (.inl h))))
  · exact .inr (.inr (.inr (.inr (.inr h))))
theorem item4 {prog : Program} {w : World} {A : Around} {E : Value → Shared → Prop} {s : Shared} {value slice : PySem.Expr} {l : Addr} {n : Nat} {h₀ : Heap} {L : Addr} {news : List (Addr × Obj)} (N : News h₀ L s.heap news) {a b c d : Int} {ta tb tc td u : Tok}
    (hm : (l, listOf #[.int a ta, .int b tb, .int c tc, .int d td] n) ∈ news) {i : Nat} (hi : i < 4) {f : Nat → Nat} (hf : ∀ i, i < 4 → [a, b, c, d].getD i 0 = (f i : Int)) {Q : Value → Shared → Prop} (h : ∀ t, Q (.int (f i : Nat) t) s)
    (hs : subscripted slice false (.ref l) (.int (0 + (i : Int)) u) = operate [.ref l, .int (0 + (i : Int)) u] (getItem (.ref l) (.int (0 + (i : Int)) u)) := by with_unfolding_all rfl) :
    wpAny (model prog w) A (subscriptTail value slice (.ref l) (.int (0 + (i : Int)) u)) Q E s := by
  have hI : IntsAre [.int a ta, .int b tb, .int c tc, .int d td] [a, b, c, d] := .cons _ _ (.cons _ _ (.cons _ _ (.cons _ _ .nil)))
  obtain ⟨v, hv⟩ : ∃ v, [Value.int a ta, .int b tb, .int c tc, .int d td][i]? = some v := ⟨_, List.getElem?_eq_getElem (by simpa using hi)⟩
  obtain ⟨k, t, rfl, hk⟩ := IntsAre.at hI i v hv
  have e := hf i hi
  rw [List.getD_eq_getElem?_getD, hk] at e
  dsimp only [Option.getD] at e
  subst e
  refine item_litK (News.isList N hm) (by omega) (by omega) (v := .int (f i : Nat) t) ?_ (h t) hs
  rw [show ((0 : Int) + (i : Int)).toNat = i by omega]
  exact hv
theorem eq_same {prog : Program} {w : World} {A : Around} {E : Value → Shared → Prop} {s : Shared} {h₀ : Heap} {L a b : Addr} {news n₁ n₂ : List (Addr × Obj)} {oa ob : Obj} {xs ys : List Value} {ka kb : Nat} {ds es : List Dat} {Q : Value → Shared → Prop}
    (N : News h₀ L s.heap news) (ma : (a, oa) ∈ news) (ca : oa.cls = .type "list") (da : oa.data = .seq xs.toArray ka) (Da : DatAll n₁ xs ds) (sa : ∀ p ∈ n₁, p ∈ news)
    (mb : (b, ob) ∈ news) (cb : ob.cls = .type "list") (db : ob.data = .seq ys.toArray kb) (Db : DatAll n₂ ys es) (sb : ∀ p ∈ n₂, p ∈ news)
    (ha : ∀ d ∈ ds, kqdOk 8 d = true) (hb : ∀ d ∈ es, kqdOk 8 d = true) (hu : A.units + 64 < cLine) (e : ds = es) (h : Q (.bool true) s) : wpAny (model prog w) A (compareOp .Eq (.ref a) (.ref b)) Q E s := by
  refine kqd_eq N ma ca da Da sa mb cb db Db sb ha hb hu ?_
  subst e
  simpa using h
end Mine
end
theorem Mine.flushC9d : True ∧ True := by
  w_top off
  first | (walk1; done) | exact ⟨trivial, trivial⟩
section
namespace Mine
theorem cells_six {cm : Str → Option Value} {n₁ n₂ n₃ n₄ n₅ n₆ : Str} {c₁ c₂ c₃ c₄ c₅ c₆ : Addr} {cells : List (Addr × Obj)} (x : CellsAre cm [(n₁, c₁), (n₂, c₂), (n₃, c₃), (n₄, c₄), (n₅, c₅), (n₆, c₆)] cells) :
    ∃ o₁ o₂ o₃ o₄ o₅ o₆, cells = [(c₁, o₁), (c₂, o₂), (c₃, o₃), (c₄, o₄), (c₅, o₅), (c₆, o₆)] ∧ o₁.data = .cell (cm n₁) ∧ o₂.data = .cell (cm n₂) ∧ o₃.data = .cell (cm n₃) ∧ o₄.data = .cell (cm n₄) ∧ o₅.data = .cell (cm n₅) ∧ o₆.data = .cell (cm n₆) := by
  cases x with | cons h r => cases r with | cons h' r => obtain ⟨o₃, o₄, o₅, o₆, rfl, h₃, h₄, h₅, h₆⟩ := r.four; exact ⟨_, _, o₃, o₄, o₅, o₆, rfl, h, h', h₃, h₄, h₅, h₆⟩
theorem hdHolds {w : World} {h : Heap} (X : (hd.heap_39 w.params).In h) : CodeHd h 119 117 := by
  refine ⟨_, _, _, _, _, _, _, _, _, X 119 _ (by k_is), rfl, rfl, rfl, rfl, rfl, rfl, rfl, rfl, by decide⟩
local macro_rules | `(tactic| walk_at "call ref") => `(tactic| (refine Stop.go ?_))
structure IsMod (r a b : Int) : Prop where
  eq : r = a % b
section
variable {prog : Program} {w : World} {A : Around} {E : Value → Shared → Prop} {s : Shared} {t u : Tok} {Q : Value → Shared → Prop}
theorem modP_gen {a b : Int} (hb : 1 ≤ b) (hb' : b ≤ 64) (h : ∀ r, IsMod r a b → 0 ≤ r → r < b → Q (.int r s.toks) { s with toks := s.toks + 1 }) :
    wpAny (model prog w) A (binaryOp .Mod (.int a t) (.int b u)) Q E s := by
  refine mod_int' (by omega) ?_
  rw [Int.fmod_eq_emod_of_nonneg _ (by omega)]
  exact h _ ⟨rfl⟩ (Int.emod_nonneg _ (by omega)) (Int.emod_lt_of_pos _ (by omega))
theorem mulN_gen {a b : Int} (ha : 0 ≤ a) (hb : 1 ≤ b) (hb' : b ≤ 32) (h : ∀ r : Nat, IsMul r a b → Q (.int (r : Int) s.toks) { s with toks := s.toks + 1 }) :
    wpAny (model prog w) A (binaryOp .Mult (.int a t) (.int b u)) Q E s := by
  refine mul_int ?_ (IntMulOk.of_right (intBits_le_64 (by omega) (by omega)))
  have e : ((a * b).toNat : Int) = a * b := Int.toNat_of_nonneg (Int.mul_nonneg ha (by omega))
  have := h (a * b).toNat ⟨e⟩
  rw [e] at this
  exact this
theorem subN_gen {a b : Int} (hb : b ≤ a) (h : ∀ r : Nat, (r : Int) = a - b → Q (.int (r : Int) s.toks) { s with toks := s.toks + 1 }) :
    wpAny (model prog w) A (binaryOp .Sub (.int a t) (.int b u)) Q E s := by
  refine sub_int ?_
  have e : ((a - b).toNat : Int) = a - b := Int.toNat_of_nonneg (by omega)
  have := h (a - b).toNat e
  rw [e] at this
  exact this
end
local macro_rules | `(tactic| walk_at "binaryOp Pow int int") => `(tactic| (refine pow2_gen (by omega) (by omega) ?_; intro P hP hP1 hP2))
local macro_rules | `(tactic| walk_at "binaryOp Mod int int") => `(tactic| (refine modP_gen (by omega) (by omega) ?_; intro r hr hr1 hr2))
local macro_rules | `(tactic| walk_at "binaryOp Mult int int") => `(tactic| (refine mulN_gen (by omega) (by omega) (by omega) ?_; intro r hr))
local macro_rules | `(tactic| walk_at "binaryOp Sub int int") => `(tactic| (refine subN_gen (by omega) ?_; intro r hr))
local macro_rules | `(tactic| k_all) => `(tactic| assumption)
local macro_rules | `(tactic| k_mem) => `(tactic| (refine memL ?_; with_reducible assumption))
local macro_rules | `(tactic| walk_at "eval Lambda") => `(tactic| (refine Stop.go ?_))
abbrev qualH : Str := Str.ofString "_law_holds" ++ ".<locals>." ++ "<lambda>"
local macro_rules | `(tactic| walk_at "compareOp NotEq ref ref") => `(tactic| (refine Stop.go ?_))
local macro_rules | `(tactic| walk_at "compareOp Eq ref ref") => `(tactic| (refine Stop.go ?_))
local macro_rules | `(tactic| walk_at "CompEnd") => `(tactic| (refine Stop.go ?_))
local macro_rules | `(tactic| walk_at "CompSrc") => `(tactic| (refine Stop.go ?_))
local macro_rules | `(tactic| walk_at "eval ListComp") => `(tactic| (k_here; k_dflt (refine LCg.ListComp_U (F₀ := by k_asm) (by with_unfolding_all rfl) (by decide) (by rfl) (by decide) (by rfl) ?_)))
section
variable {prog : Program} {w : World} {p : Program} {loose : List Str} {mean : ExcName → Option Value} {mg mb : Str → Option Value}
theorem lt4 {i : Nat} (h : i < 4) : i = 0 ∨ i = 1 ∨ i = 2 ∨ i = 3 := by omega
theorem natIdx (i : Nat) : (((0 : Nat) : Int) + (i : Int)).toNat = i := by omega
theorem off_lt {x n0 n1 n2 n3 : Addr} (h : @LT.lt Nat _ x n0) (h1 : @LT.lt Nat _ n0 n1) (h2 : @LT.lt Nat _ n1 n2) (h3 : @LT.lt Nat _ n2 n3) (h117 : @Ne Nat x 117) : Off5 n0 n1 n2 n3 x :=
  ⟨h117, Nat.ne_of_lt h, Nat.ne_of_lt (Nat.lt_trans h h1), Nat.ne_of_lt (Nat.lt_trans h (Nat.lt_trans h1 h2)), Nat.ne_of_lt (Nat.lt_trans h (Nat.lt_trans h1 (Nat.lt_trans h2 h3)))⟩
theorem holds {ta ca pr : Addr} {n1 n2 n3 : Nat} {tv vs : List Value} {cs' : List Int} {ps0 : Array Value} {cods0 rest : List (Addr × Obj)} {P0 P1 P2 P3 P4 : Int} {t0 t1 t2 t3 t4 tn : Tok} {n : Int} {cd : Nat → Int}
    (hI : IntsAre vs cs') (hl : cs'.length = 31) (ht : tv.length = 31) (hth : ∀ i, i < 31 → Thing (tv.getD i .none) (cd i) ∧ 0 ≤ cd i ∧ cd i < 4096)
    (hag : ∀ i, i < 31 → cs'.getD i 0 = costOf P0 P1 P2 P3 P4 (cd i)) (hmono : MonoC fun i => costOf P0 P1 P2 P3 P4 (cd i)) (b0 : 0 ≤ P0 ∧ P0 < 100) (b1 : 0 ≤ P1 ∧ P1 < 100)
    (I0 : TabInv cods0 ps0 qualH) (hsc : ∀ q ∈ cods0, q ∈ rest)
    (hP : ∀ p ∈ (ta, listOf tv.toArray n1) :: (ca, listOf vs.toArray n2) :: (pr, prL P0 P1 P2 P3 P4 t0 t1 t2 t3 t4 n3) :: rest, p.1 ≠ 117) :
    Calls prog w p loose mean mg mb 120 6 512 ((117, tabObj ps0) :: (ta, listOf tv.toArray n1) :: (ca, listOf vs.toArray n2) :: (pr, prL P0 P1 P2 P3 P4 t0 t1 t2 t3 t4 n3) :: rest) [.ref ta, .ref ca, .ref pr, .int n tn] []
      (fun v nw => v = .bool true ∧ ∃ ps' cods' rest', nw = (117, tabObj ps') :: (ta, listOf tv.toArray n1) :: (ca, listOf vs.toArray n2) :: (pr, prL P0 P1 P2 P3 P4 t0 t1 t2 t3 t4 n3) :: rest' ∧ TabInv cods' ps' qualH ∧ (∀ q ∈ cods', q ∈ rest') ∧ (∀ q ∈ rest, q ∈ rest') ∧
        ∀ p ∈ (ta, listOf tv.toArray n1) :: (ca, listOf vs.toArray n2) :: (pr, prL P0 P1 P2 P3 P4 t0 t1 t2 t3 t4 n3) :: rest', p.1 ≠ 117) := by
  intro dp un gd cn cs a ccd cl outer A₀ base h₀ L m s Q E B F X N T hk hd hu hret
  (refine wpAny_call ?_; k_dflt (refine' code_defC ?k1 ?k2 ?k3 ?k4 ?k5 ?kA ?kF ?kK ?k6 ?k7 ?k8 ?k9 ?kB ?kD ?_ ?c2 ?c3 ?c4; (case kA => exact rfl); (case kF => exact rfl); (case kK => assumption); (case k1 => k_asm); (case k2 => k_asm); (case k3 => k_asm); (case k4 => k_asm); (case k5 => k_asm); (case k6 => k_is); (case k7 => k_is); (case k8 => ktr_room); (case k9 => first | exact BindsTo.of_eq rfl); (case kB => exact rfl); (case kD => decide +kernel); (case c2 => exact rfl); (case c3 => exact rfl); (case c4 => exact rfl); k_whole))
  intro gB LB hB tkB cellsB FGB FB NB YB BB XB TB lB
  obtain ⟨on, od, os, op, oc, ot, hE, dn, dd, ds, dp', dc, dt⟩ := cells_six YB
  subst hE
  clear YB
  have hC := hdHolds XB
  simp only [List.cons_append, List.nil_append] at NB
  replace dn : on.data = .cell none := dn
  replace dd : od.data = .cell none := dd
  replace ds : os.data = .cell none := ds
  replace dp' : op.data = .cell (some (.ref pr)) := dp'
  replace dc : oc.data = .cell (some (.ref ca)) := dc
  replace dt : ot.data = .cell (some (.ref ta)) := dt
  have rl : ∀ q ∈ rest, q.1 < LB := fun q hq => lB q (.tail _ (.tail _ (.tail _ (.tail _ hq))))
  have r4 : ∀ q ∈ rest, q.1 ≠ LB + 1 + 1 + 1 + 1 := fun q hq => Nat.ne_of_lt (Nat.lt_of_lt_of_le (rl q hq) (by omega))
  have r5 : ∀ q ∈ rest, q.1 ≠ LB + 1 + 1 + 1 + 1 + 1 := fun q hq => Nat.ne_of_lt (Nat.lt_of_lt_of_le (rl q hq) (by omega))
  have r6 : ∀ q ∈ rest, q.1 ≠ LB + 1 + 1 + 1 + 1 + 1 + 1 := fun q hq => Nat.ne_of_lt (Nat.lt_of_lt_of_le (rl q hq) (by omega))
  k_lt lB
  dsimp only
  try k_fold
  k_steps
  rename_i rA _ _ _ tA rB _ _ _ h1 _ rC _ hC1 hC2 size hsize h2 osz dsz _ e he Pq pq _ _ q hq hq1 hq2 Pl pl _ _ lo hlo h3 _ Ph ph _ _ hi hhi h4 F4 N4
  refine Stop.out ?_
  refine hideQ ?_
  intro QH1 hQH1
  refine Stop.go ?_
  obtain ⟨hs5, k, hk32, hloE, hhiE, hlh, hh31⟩ := branch hC1 hC2 hsize he pq hq1 hq2 pl hlo ph hhi
  clear hsize he pq hq hq1 hq2 pl hlo ph hhi hC1 hC2
  refine Stop.out ((places' (lo := 0) (hi := 31) (by k_mem) hI hl (by omega) (by omega)).useP BB F4 XB N4 TB rfl (by ktr_room) (by ktr_units) ?_)
  rintro _ _ h5 tk5 F5 N5 ⟨l1, t1', t2', a1, a2, rfl, rfl, hf1, ip1, ip2⟩
  have rl1 : ∀ q ∈ rest, q.1 ≠ l1 := fun q hq => Nat.ne_of_lt (hf1 q (.tail _ (.tail _ (.tail _ (.tail _ (.tail _ (.tail _ (.tail _ (.tail _ (.tail _ (.tail _ hq)))))))))))
  k_lt hf1
  dsimp only
  k_steps
  refine Stop.out ((places' (lo := lo) (hi := hi) (by k_mem) hI hl hlh hh31).useP BB F5 XB N5 TB rfl (by ktr_room) (by ktr_units) ?_)
  rintro _ _ h6 tk6 F6 N6 ⟨l2, t3', t4', b1', b2', rfl, rfl, hf2, ip3, ip4⟩
  have rl2 : ∀ q ∈ rest, q.1 ≠ l2 := fun q hq => Nat.ne_of_lt (hf2 q (.tail _ (.tail _ (.tail _ (.tail _ (.tail _ (.tail _ (.tail _ (.tail _ (.tail _ (.tail _ (.tail _ hq))))))))))))
  k_lt hf2
  dsimp only
  k_steps
  rename_i D _ ld _ oD dD nt0 _ q0 nt1 _ q1 nt2 _ q2 nt3 _ q3 nn _ q4 _ oN F7 N7 dN
  refine Stop.out ?_
  refine hideQ ?_
  intro QH2 hQH2
  refine Stop.go ?_
  have z0 : AllLt nt0 rest := by obtain ⟨-, -, -, -, -, -, -, -, -, -, -, -, -, z⟩ := q0; exact z
  have hP' : ∀ p ∈ rest, @Ne Nat p.1 117 := fun p hp => hP p (.tail _ (.tail _ (.tail _ hp)))
  have hPta : @Ne Nat ta 117 := hP _ (.head _)
  have hPca : @Ne Nat ca 117 := hP _ (.tail _ (.head _))
  have hPpr : @Ne Nat pr 117 := hP _ (.tail _ (.tail _ (.head _)))
  obtain ⟨R0, hR0⟩ : ∃ R, R = (nn, listOf #[.ref nt0, .ref nt1, .ref nt2, .ref nt3] 0) :: (D, listOf #[.int (a1 : Nat) t1', .int (a2 : Nat) t2', .int (b1' : Nat) t3', .int (b2' : Nat) t4'] 0) :: (LB + 1 + 1 + 1 + 1 + 1 + 1, oN) :: (LB + 1 + 1 + 1 + 1 + 1, oD) :: (LB + 1 + 1 + 1 + 1, osz) :: (LB + 1 + 1 + 1, op) :: (LB + 1 + 1, oc) :: (LB + 1, ot) :: (ta, listOf tv.toArray n1) :: (ca, listOf vs.toArray n2) :: rest := ⟨_, rfl⟩
  have N0 : News gB LB _ ((117, tabObj ps0) :: (nt0, listOf #[] 0) :: (nt1, listOf #[] 0) :: (nt2, listOf #[] 0) :: (nt3, listOf #[] 0) :: (pr, prL P0 P1 P2 P3 P4 t0 t1 t2 t3 t4 n3) :: R0) := cb_drop N7 (by rw [hR0]; kcf_all)
  have o01 : @LT.lt Nat _ nt0 nt1 := by walk_at "my pj"
  have o12 : @LT.lt Nat _ nt1 nt2 := by walk_at "my pj"
  have o23 : @LT.lt Nat _ nt2 nt3 := by walk_at "my pj"
  have off0 : ∀ q ∈ R0, Off5 nt0 nt1 nt2 nt3 q.1 := by
    rw [hR0]
    have pl : @LT.lt Nat _ 117 LB := by walk_at "my pj"
    exact List.forall_mem_cons.mpr ⟨⟨by k_ne, by k_ne, by k_ne, by k_ne, by k_ne⟩,
      List.forall_mem_cons.mpr ⟨off_lt (by walk_at "my pj") o01 o12 o23 (by k_ne),
      List.forall_mem_cons.mpr ⟨off_lt (by walk_at "my pj") o01 o12 o23 (Nat.ne_of_gt (Nat.lt_add_right 1 (Nat.lt_add_right 1 (Nat.lt_add_right 1 (Nat.lt_add_right 1 (Nat.lt_add_right 1 (Nat.lt_add_right 1 pl))))))),
      List.forall_mem_cons.mpr ⟨off_lt (by walk_at "my pj") o01 o12 o23 (Nat.ne_of_gt (Nat.lt_add_right 1 (Nat.lt_add_right 1 (Nat.lt_add_right 1 (Nat.lt_add_right 1 (Nat.lt_add_right 1 pl)))))),
      List.forall_mem_cons.mpr ⟨off_lt (by walk_at "my pj") o01 o12 o23 (Nat.ne_of_gt (Nat.lt_add_right 1 (Nat.lt_add_right 1 (Nat.lt_add_right 1 (Nat.lt_add_right 1 pl))))),
      List.forall_mem_cons.mpr ⟨off_lt (by walk_at "my pj") o01 o12 o23 (Nat.ne_of_gt (Nat.lt_add_right 1 (Nat.lt_add_right 1 (Nat.lt_add_right 1 pl)))),
      List.forall_mem_cons.mpr ⟨off_lt (by walk_at "my pj") o01 o12 o23 (Nat.ne_of_gt (Nat.lt_add_right 1 (Nat.lt_add_right 1 pl))),
      List.forall_mem_cons.mpr ⟨off_lt (by walk_at "my pj") o01 o12 o23 (Nat.ne_of_gt (Nat.lt_add_right 1 pl)),
      List.forall_mem_cons.mpr ⟨off_lt (by walk_at "my pj") o01 o12 o23 hPta,
      List.forall_mem_cons.mpr ⟨off_lt (by walk_at "my pj") o01 o12 o23 hPca,
      fun q hq => off_lt (allLt_mem z0 q hq) o01 o12 o23 (hP' q hq)⟩⟩⟩⟩⟩⟩⟩⟩⟩⟩
  have opr : Off5 nt0 nt1 nt2 nt3 pr := off_lt (by walk_at "my pj") o01 o12 o23 hPpr
  have ont : @Ne Nat nt0 117 ∧ @Ne Nat nt1 117 ∧ @Ne Nat nt2 117 ∧ @Ne Nat nt3 117 := by refine ⟨?_, ?_, ?_, ?_⟩ <;> k_ne
  have onn : @Ne Nat nt0 nt1 ∧ @Ne Nat nt0 nt2 ∧ @Ne Nat nt0 nt3 ∧ @Ne Nat nt1 nt2 ∧ @Ne Nat nt1 nt3 ∧ @Ne Nat nt2 nt3 := ⟨Nat.ne_of_lt o01, Nat.ne_of_lt (Nat.lt_trans o01 o12), Nat.ne_of_lt (Nat.lt_trans o01 (Nat.lt_trans o12 o23)), Nat.ne_of_lt o12, Nat.ne_of_lt (Nat.lt_trans o12 o23), Nat.ne_of_lt o23⟩
  have mNN0 : (nn, listOf #[.ref nt0, .ref nt1, .ref nt2, .ref nt3] 0) ∈ R0 := by rw [hR0]; k_mem
  have mD0 : (D, listOf #[.int (a1 : Nat) t1', .int (a2 : Nat) t2', .int (b1' : Nat) t3', .int (b2' : Nat) t4'] 0) ∈ R0 := by rw [hR0]; k_mem
  have mcN0 : (LB + 1 + 1 + 1 + 1 + 1 + 1, oN) ∈ R0 := by rw [hR0]; k_mem
  have mcD0 : (LB + 1 + 1 + 1 + 1 + 1, oD) ∈ R0 := by rw [hR0]; k_mem
  have mcS0 : (LB + 1 + 1 + 1 + 1, osz) ∈ R0 := by rw [hR0]; k_mem
  have mcP0 : (LB + 1 + 1 + 1, op) ∈ R0 := by rw [hR0]; k_mem
  have mcC0 : (LB + 1 + 1, oc) ∈ R0 := by rw [hR0]; k_mem
  have mcT0 : (LB + 1, ot) ∈ R0 := by rw [hR0]; k_mem
  have mta0 : (ta, listOf tv.toArray n1) ∈ R0 := by rw [hR0]; k_mem
  have mca0 : (ca, listOf vs.toArray n2) ∈ R0 := by rw [hR0]; k_mem
  have mrest0 : ∀ q ∈ rest, q ∈ R0 := by rw [hR0]; intro q hq; simp only [List.mem_cons, hq, or_true]
  clear hR0 z0 o01 o12 o23 q0 q1 q2 q3 q4 ld hf1 hf2 rl rl1 rl2 r4 r5 r6 hP' hPta hPca hPpr N7 lB
  have hs0 : ∀ q ∈ cods0, q ∈ (117, tabObj ps0) :: (nt0, listOf #[] 0) :: (nt1, listOf #[] 0) :: (nt2, listOf #[] 0) :: (nt3, listOf #[] 0) :: (pr, prL P0 P1 P2 P3 P4 t0 t1 t2 t3 t4 n3) :: R0 := fun q hq => .tail _ (.tail _ (.tail _ (.tail _ (.tail _ (.tail _ (mrest0 q (hsc q hq)))))))
  have h117_0 : ∀ p ∈ (nt0, listOf #[] 0) :: (nt1, listOf #[] 0) :: (nt2, listOf #[] 0) :: (nt3, listOf #[] 0) :: (pr, prL P0 P1 P2 P3 P4 t0 t1 t2 t3 t4 n3) :: R0, p.1 ≠ 117 := List.forall_mem_cons.mpr ⟨ont.1, List.forall_mem_cons.mpr ⟨ont.2.1, List.forall_mem_cons.mpr ⟨ont.2.2.1, List.forall_mem_cons.mpr ⟨ont.2.2.2, List.forall_mem_cons.mpr ⟨opr.1, fun q hq => (off0 q hq).1⟩⟩⟩⟩⟩
  have hsR0 : ∀ q ∈ cods0, q ∈ R0 := fun q hq => mrest0 q (hsc q hq)

  -- search 0
  refine Stop.out (kla_eval rfl ?_)
  refine lam_any (cods := cods0) (qual := qualH) (ps := ps0) (by k_asm) N0 TB hC rfl (UpdF.head h117_0) I0 hs0 rfl ?_
  intro f0 c0 oc0 vs0 u0 ctv0 ps1 hh0 tk0 F0a N0a d0 e0 I1 lf0 lc0 lp0
  try dsimp only at N0a
  k_steps
  refine Stop.out ?_
  refine hideQ ?_
  intro QH3 hQH3
  refine Stop.go ?_
  have fd0 := found_lt hmono hag (k := 0) (size := 5) (by decide) (by decide) (by decide) (by decide) ip1
  obtain ⟨ofun0, N0e, hof0⟩ := pickN N0a
  clear N0a
  have kat0 : KeyAt f0 nn nt0 pr ((f0, ofun0) :: (c0, oc0) :: (117, tabObj ps1) :: ([(nt1, listOf #[] 0), (nt2, listOf #[] 0), (nt3, listOf #[] 0)] ++ R0)) := by
    rw [hof0]
    exact ⟨_, _, _, _, _, _, _, _, _, _, _, 0, c0, _, _, oc0, oN, op, vs0, u0, _, _, .head _, .tail _ (.head _), d0, e0, .tail _ (.tail _ (.tail _ (List.mem_append_right _ mcN0))), dN, .tail _ (.tail _ (.tail _ (List.mem_append_right _ mcP0))), dp', .tail _ (.tail _ (.tail _ (List.mem_append_right _ mNN0))), by decide, by decide, rfl⟩
  have ner0 : ∀ q ∈ ((f0, ofun0) :: (c0, oc0) :: (117, tabObj ps1) :: ([(nt1, listOf #[] 0), (nt2, listOf #[] 0), (nt3, listOf #[] 0)] ++ R0)), q.1 ≠ nt0 := by
    simp only [List.cons_append, List.nil_append]
    refine List.forall_mem_cons.mpr ⟨Nat.ne_of_gt (lf0 (nt0, listOf #[] 0) (by k_mem)), List.forall_mem_cons.mpr ⟨obj_ne N0e (.tail _ (.head _)) (o' := listOf #[] 0) (by k_mem) (fun q => by rw [q] at d0; cases d0), List.forall_mem_cons.mpr ⟨Ne.symm ont.1, List.forall_mem_cons.mpr ⟨Ne.symm onn.1, List.forall_mem_cons.mpr ⟨Ne.symm onn.2.1, List.forall_mem_cons.mpr ⟨Ne.symm onn.2.2.1, fun q hq => (off0 q hq).2.1⟩⟩⟩⟩⟩⟩
  have N0b := cb_drop N0e (keyLed0 (nt := nt0) (pr := pr) (oP := prL P0 P1 P2 P3 P4 t0 t1 t2 t3 t4 n3) (tv := tv) (cf := fun i => costOf P0 P1 P2 P3 P4 (cd i)) (R := ((f0, ofun0) :: (c0, oc0) :: (117, tabObj ps1) :: ([(nt1, listOf #[] 0), (nt2, listOf #[] 0), (nt3, listOf #[] 0)] ++ R0))) (by k_mem) (by k_mem) (by simp only [List.cons_append, List.nil_append]; kcf_all))
  refine Stop.out ((bisL_key2N (n1 := n1) ht hth kat0 (by rw [hof0]; exact .head _) (.tail _ (.tail _ (.tail _ (List.mem_append_right _ mta0)))) opr.2.1 ner0 b0 b1 ).useP BB (by k_asm) XB N0b TB rfl (by ktr_room) (by ktr_units) ?_)
  rintro _ _ hh0 tk0 F0 N0c ⟨cc0, tt0, rfl, rfl, hcc0⟩
  dsimp only
  rw [fd0.1]
  replace hcc0 := Hide.mk (hcc0.trans fd0.2.1)
  replace fd0 := Hide.mk (And.intro fd0.2.2.1 fd0.2.2.2)
  obtain ⟨R1, sub0, mc0, nots0, off1, N0d⟩ := repack N0c d0 lp0 off0 (o0 := listOf (noteRefs cc0).toArray cc0.length) (o1 := listOf #[] 0) (o2 := listOf #[] 0) (o3 := listOf #[] 0) (.head _) (.tail _ (.tail _ (List.mem_append_left _ (.tail _ (.tail _ (.tail _ (List.mem_append_left _ (by k_mem)))))))) (.tail _ (.tail _ (List.mem_append_left _ (.tail _ (.tail _ (.tail _ (List.mem_append_left _ (by k_mem)))))))) (.tail _ (.tail _ (List.mem_append_left _ (.tail _ (.tail _ (.tail _ (List.mem_append_left _ (by k_mem)))))))) ⟨rfl, _, _, rfl⟩ ⟨rfl, _, _, rfl⟩ ⟨rfl, _, _, rfl⟩ ⟨rfl, _, _, rfl⟩
  simp only [List.cons_append, List.nil_append] at N0d
  have N1 : News gB LB _ ((117, tabObj ps1) :: (nt0, listOf (noteRefs cc0).toArray cc0.length) :: (nt1, listOf #[] 0) :: (nt2, listOf #[] 0) :: (nt3, listOf #[] 0) :: (pr, prL P0 P1 P2 P3 P4 t0 t1 t2 t3 t4 n3) :: R1) := cb_drop N0d (by kcf_all)
  clear N0e N0b N0c N0d kat0 ner0 hof0 F0a
  have mNN1 := sub0 _ mNN0
  have mD1 := sub0 _ mD0
  have mcN1 := sub0 _ mcN0
  have mcD1 := sub0 _ mcD0
  have mcS1 := sub0 _ mcS0
  have mcP1 := sub0 _ mcP0
  have mcC1 := sub0 _ mcC0
  have mcT1 := sub0 _ mcT0
  have mta1 := sub0 _ mta0
  have mca1 := sub0 _ mca0
  have mrest1 : ∀ q ∈ rest, q ∈ R1 := fun q hq => sub0 q (mrest0 q hq)
  have hsR1 : ∀ q ∈ (c0, oc0) :: cods0, q ∈ R1 := List.forall_mem_cons.mpr ⟨mc0, fun q hq => sub0 q (hsR0 q hq)⟩
  obtain ⟨cods1, hcods1⟩ : ∃ l, l = (c0, oc0) :: cods0 := ⟨_, rfl⟩
  rw [← hcods1] at hsR1 I1
  clear hcods1
  have hs1 : ∀ q ∈ cods1, q ∈ (117, tabObj ps1) :: (nt0, listOf (noteRefs cc0).toArray cc0.length) :: (nt1, listOf #[] 0) :: (nt2, listOf #[] 0) :: (nt3, listOf #[] 0) :: (pr, prL P0 P1 P2 P3 P4 t0 t1 t2 t3 t4 n3) :: R1 := fun q hq => (.tail _ (.tail _ (.tail _ (.tail _ (.tail _ (.tail _ (hsR1 q hq)))))))
  have h117_1 : ∀ p ∈ (nt0, listOf (noteRefs cc0).toArray cc0.length) :: (nt1, listOf #[] 0) :: (nt2, listOf #[] 0) :: (nt3, listOf #[] 0) :: (pr, prL P0 P1 P2 P3 P4 t0 t1 t2 t3 t4 n3) :: R1, p.1 ≠ 117 := List.forall_mem_cons.mpr ⟨ont.1, List.forall_mem_cons.mpr ⟨ont.2.1, List.forall_mem_cons.mpr ⟨ont.2.2.1, List.forall_mem_cons.mpr ⟨ont.2.2.2, List.forall_mem_cons.mpr ⟨opr.1, fun q hq => (off1 q hq).1⟩⟩⟩⟩⟩
  clear mNN0 mD0 mcN0 mcD0 mcS0 mcP0 mcC0 mcT0 mta0 mca0 mrest0 hs0 h117_0 off0 I0 hsR0 N0 sub0 mc0 
  k_steps

  -- search 1
  refine Stop.out (kla_eval rfl ?_)
  refine lam_any (cods := cods1) (qual := qualH) (ps := ps1) (by k_asm) N1 TB hC rfl (UpdF.head h117_1) I1 hs1 rfl ?_
  intro f1 c1 oc1 vs1 u1 ctv1 ps2 hh1 tk1 F1a N1a d1 e1 I2 lf1 lc1 lp1
  try dsimp only at N1a
  k_steps
  refine Stop.out ?_
  refine hideQ ?_
  intro QH4 hQH4
  refine Stop.go ?_
  have fd1 := found_le hmono hag (k := 0) (size := 5) (by decide) (by decide) (by decide) (by decide) ip2
  obtain ⟨ofun1, N1e, hof1⟩ := pickN N1a
  clear N1a
  have kat1 : KeyAt f1 nn nt1 pr ((f1, ofun1) :: (c1, oc1) :: (117, tabObj ps2) :: ([(nt0, listOf (noteRefs cc0).toArray cc0.length), (nt2, listOf #[] 0), (nt3, listOf #[] 0)] ++ R1)) := by
    rw [hof1]
    exact ⟨_, _, _, _, _, _, _, _, _, _, _, 1, c1, _, _, oc1, oN, op, vs1, u1, _, _, .head _, .tail _ (.head _), d1, e1, .tail _ (.tail _ (.tail _ (List.mem_append_right _ mcN1))), dN, .tail _ (.tail _ (.tail _ (List.mem_append_right _ mcP1))), dp', .tail _ (.tail _ (.tail _ (List.mem_append_right _ mNN1))), by decide, by decide, rfl⟩
  have ner1 : ∀ q ∈ ((f1, ofun1) :: (c1, oc1) :: (117, tabObj ps2) :: ([(nt0, listOf (noteRefs cc0).toArray cc0.length), (nt2, listOf #[] 0), (nt3, listOf #[] 0)] ++ R1)), q.1 ≠ nt1 := by
    simp only [List.cons_append, List.nil_append]
    refine List.forall_mem_cons.mpr ⟨Nat.ne_of_gt (lf1 (nt1, listOf #[] 0) (by k_mem)), List.forall_mem_cons.mpr ⟨obj_ne N1e (.tail _ (.head _)) (o' := listOf #[] 0) (by k_mem) (fun q => by rw [q] at d1; cases d1), List.forall_mem_cons.mpr ⟨Ne.symm ont.2.1, List.forall_mem_cons.mpr ⟨Ne.symm (Ne.symm onn.1), List.forall_mem_cons.mpr ⟨Ne.symm onn.2.2.2.1, List.forall_mem_cons.mpr ⟨Ne.symm onn.2.2.2.2.1, fun q hq => (off1 q hq).2.2.1⟩⟩⟩⟩⟩⟩
  have N1b := cb_drop N1e (keyLed0 (nt := nt1) (pr := pr) (oP := prL P0 P1 P2 P3 P4 t0 t1 t2 t3 t4 n3) (tv := tv) (cf := fun i => costOf P0 P1 P2 P3 P4 (cd i)) (R := ((f1, ofun1) :: (c1, oc1) :: (117, tabObj ps2) :: ([(nt0, listOf (noteRefs cc0).toArray cc0.length), (nt2, listOf #[] 0), (nt3, listOf #[] 0)] ++ R1))) (by k_mem) (by k_mem) (by simp only [List.cons_append, List.nil_append]; kcf_all))
  refine Stop.out ((bisR_key2N (n1 := n1) ht hth kat1 (by rw [hof1]; exact .head _) (.tail _ (.tail _ (.tail _ (List.mem_append_right _ mta1)))) opr.2.2.1 ner1 b0 b1 ).useP BB (by k_asm) XB N1b TB rfl (by ktr_room) (by ktr_units) ?_)
  rintro _ _ hh1 tk1 F1 N1c ⟨cc1, tt1, rfl, rfl, hcc1⟩
  dsimp only
  rw [fd1.1]
  replace hcc1 := Hide.mk (hcc1.trans fd1.2.1)
  replace fd1 := Hide.mk (And.intro fd1.2.2.1 fd1.2.2.2)
  obtain ⟨R2, sub1, mc1, nots1, off2, N1d⟩ := repack N1c d1 lp1 off1 (o0 := listOf (noteRefs cc0).toArray cc0.length) (o1 := listOf (noteRefs cc1).toArray cc1.length) (o2 := listOf #[] 0) (o3 := listOf #[] 0) (.tail _ (.tail _ (List.mem_append_left _ (.tail _ (.tail _ (.tail _ (List.mem_append_left _ (by k_mem)))))))) (.head _) (.tail _ (.tail _ (List.mem_append_left _ (.tail _ (.tail _ (.tail _ (List.mem_append_left _ (by k_mem)))))))) (.tail _ (.tail _ (List.mem_append_left _ (.tail _ (.tail _ (.tail _ (List.mem_append_left _ (by k_mem)))))))) ⟨rfl, _, _, rfl⟩ ⟨rfl, _, _, rfl⟩ ⟨rfl, _, _, rfl⟩ ⟨rfl, _, _, rfl⟩
  simp only [List.cons_append, List.nil_append] at N1d
  have N2 : News gB LB _ ((117, tabObj ps2) :: (nt0, listOf (noteRefs cc0).toArray cc0.length) :: (nt1, listOf (noteRefs cc1).toArray cc1.length) :: (nt2, listOf #[] 0) :: (nt3, listOf #[] 0) :: (pr, prL P0 P1 P2 P3 P4 t0 t1 t2 t3 t4 n3) :: R2) := cb_drop N1d (by kcf_all)
  clear N1e N1b N1c N1d kat1 ner1 hof1 F1a
  have mNN2 := sub1 _ mNN1
  have mD2 := sub1 _ mD1
  have mcN2 := sub1 _ mcN1
  have mcD2 := sub1 _ mcD1
  have mcS2 := sub1 _ mcS1
  have mcP2 := sub1 _ mcP1
  have mcC2 := sub1 _ mcC1
  have mcT2 := sub1 _ mcT1
  have mta2 := sub1 _ mta1
  have mca2 := sub1 _ mca1
  have mrest2 : ∀ q ∈ rest, q ∈ R2 := fun q hq => sub1 q (mrest1 q hq)
  have nots0_2 : ∀ q ∈ noteObjs tv (fun i => costOf P0 P1 P2 P3 P4 (cd i)) cc0, q ∈ R2 := fun q hq => sub1 q (nots0 q hq)
  have hsR2 : ∀ q ∈ (c1, oc1) :: cods1, q ∈ R2 := List.forall_mem_cons.mpr ⟨mc1, fun q hq => sub1 q (hsR1 q hq)⟩
  obtain ⟨cods2, hcods2⟩ : ∃ l, l = (c1, oc1) :: cods1 := ⟨_, rfl⟩
  rw [← hcods2] at hsR2 I2
  clear hcods2
  have hs2 : ∀ q ∈ cods2, q ∈ (117, tabObj ps2) :: (nt0, listOf (noteRefs cc0).toArray cc0.length) :: (nt1, listOf (noteRefs cc1).toArray cc1.length) :: (nt2, listOf #[] 0) :: (nt3, listOf #[] 0) :: (pr, prL P0 P1 P2 P3 P4 t0 t1 t2 t3 t4 n3) :: R2 := fun q hq => (.tail _ (.tail _ (.tail _ (.tail _ (.tail _ (.tail _ (hsR2 q hq)))))))
  have h117_2 : ∀ p ∈ (nt0, listOf (noteRefs cc0).toArray cc0.length) :: (nt1, listOf (noteRefs cc1).toArray cc1.length) :: (nt2, listOf #[] 0) :: (nt3, listOf #[] 0) :: (pr, prL P0 P1 P2 P3 P4 t0 t1 t2 t3 t4 n3) :: R2, p.1 ≠ 117 := List.forall_mem_cons.mpr ⟨ont.1, List.forall_mem_cons.mpr ⟨ont.2.1, List.forall_mem_cons.mpr ⟨ont.2.2.1, List.forall_mem_cons.mpr ⟨ont.2.2.2, List.forall_mem_cons.mpr ⟨opr.1, fun q hq => (off2 q hq).1⟩⟩⟩⟩⟩
  clear mNN1 mD1 mcN1 mcD1 mcS1 mcP1 mcC1 mcT1 mta1 mca1 mrest1 hs1 h117_1 off1 I1 hsR1 N1 sub1 mc1 nots0
  k_steps

  -- search 2
  refine Stop.out (kla_eval rfl ?_)
  refine lam_any (cods := cods2) (qual := qualH) (ps := ps2) (by k_asm) N2 TB hC rfl (UpdF.head h117_2) I2 hs2 rfl ?_
  intro f2 c2 oc2 vs2 u2 ctv2 ps3 hh2 tk2 F2a N2a d2 e2 I3 lf2 lc2 lp2
  try dsimp only at N2a
  k_steps
  refine Stop.out ?_
  refine hideQ ?_
  intro QH5 hQH5
  refine Stop.go ?_
  have fd2 := found_lt hmono hag hs5 hk32 hloE hhiE ip3
  obtain ⟨ofun2, N2e, hof2⟩ := pickN N2a
  clear N2a
  have kat2 : KeyAt f2 nn nt2 pr ((f2, ofun2) :: (c2, oc2) :: (117, tabObj ps3) :: ([(nt0, listOf (noteRefs cc0).toArray cc0.length), (nt1, listOf (noteRefs cc1).toArray cc1.length), (nt3, listOf #[] 0)] ++ R2)) := by
    rw [hof2]
    exact ⟨_, _, _, _, _, _, _, _, _, _, _, 2, c2, _, _, oc2, oN, op, vs2, u2, _, _, .head _, .tail _ (.head _), d2, e2, .tail _ (.tail _ (.tail _ (List.mem_append_right _ mcN2))), dN, .tail _ (.tail _ (.tail _ (List.mem_append_right _ mcP2))), dp', .tail _ (.tail _ (.tail _ (List.mem_append_right _ mNN2))), by decide, by decide, rfl⟩
  have ner2 : ∀ q ∈ ((f2, ofun2) :: (c2, oc2) :: (117, tabObj ps3) :: ([(nt0, listOf (noteRefs cc0).toArray cc0.length), (nt1, listOf (noteRefs cc1).toArray cc1.length), (nt3, listOf #[] 0)] ++ R2)), q.1 ≠ nt2 := by
    simp only [List.cons_append, List.nil_append]
    refine List.forall_mem_cons.mpr ⟨Nat.ne_of_gt (lf2 (nt2, listOf #[] 0) (by k_mem)), List.forall_mem_cons.mpr ⟨obj_ne N2e (.tail _ (.head _)) (o' := listOf #[] 0) (by k_mem) (fun q => by rw [q] at d2; cases d2), List.forall_mem_cons.mpr ⟨Ne.symm ont.2.2.1, List.forall_mem_cons.mpr ⟨Ne.symm (Ne.symm onn.2.1), List.forall_mem_cons.mpr ⟨Ne.symm (Ne.symm onn.2.2.2.1), List.forall_mem_cons.mpr ⟨Ne.symm onn.2.2.2.2.2, fun q hq => (off2 q hq).2.2.2.1⟩⟩⟩⟩⟩⟩
  have N2b := cb_drop N2e (keyLed0 (nt := nt2) (pr := pr) (oP := prL P0 P1 P2 P3 P4 t0 t1 t2 t3 t4 n3) (tv := tv) (cf := fun i => costOf P0 P1 P2 P3 P4 (cd i)) (R := ((f2, ofun2) :: (c2, oc2) :: (117, tabObj ps3) :: ([(nt0, listOf (noteRefs cc0).toArray cc0.length), (nt1, listOf (noteRefs cc1).toArray cc1.length), (nt3, listOf #[] 0)] ++ R2))) (by k_mem) (by k_mem) (by simp only [List.cons_append, List.nil_append]; kcf_all))
  refine Stop.out ((bisL_key4N (n1 := n1) ht hth kat2 (by rw [hof2]; exact .head _) (.tail _ (.tail _ (.tail _ (List.mem_append_right _ mta2)))) opr.2.2.2.1 ner2 b0 b1 hlh hh31).useP BB (by k_asm) XB N2b TB rfl (by ktr_room) (by ktr_units) ?_)
  rintro _ _ hh2 tk2 F2 N2c ⟨cc2, tt2, rfl, rfl, hcc2⟩
  dsimp only
  rw [fd2.1]
  replace hcc2 := Hide.mk (hcc2.trans fd2.2.1)
  replace fd2 := Hide.mk (And.intro fd2.2.2.1 fd2.2.2.2)
  obtain ⟨R3, sub2, mc2, nots2, off3, N2d⟩ := repack N2c d2 lp2 off2 (o0 := listOf (noteRefs cc0).toArray cc0.length) (o1 := listOf (noteRefs cc1).toArray cc1.length) (o2 := listOf (noteRefs cc2).toArray cc2.length) (o3 := listOf #[] 0) (.tail _ (.tail _ (List.mem_append_left _ (.tail _ (.tail _ (.tail _ (List.mem_append_left _ (by k_mem)))))))) (.tail _ (.tail _ (List.mem_append_left _ (.tail _ (.tail _ (.tail _ (List.mem_append_left _ (by k_mem)))))))) (.head _) (.tail _ (.tail _ (List.mem_append_left _ (.tail _ (.tail _ (.tail _ (List.mem_append_left _ (by k_mem)))))))) ⟨rfl, _, _, rfl⟩ ⟨rfl, _, _, rfl⟩ ⟨rfl, _, _, rfl⟩ ⟨rfl, _, _, rfl⟩
  simp only [List.cons_append, List.nil_append] at N2d
  have N3 : News gB LB _ ((117, tabObj ps3) :: (nt0, listOf (noteRefs cc0).toArray cc0.length) :: (nt1, listOf (noteRefs cc1).toArray cc1.length) :: (nt2, listOf (noteRefs cc2).toArray cc2.length) :: (nt3, listOf #[] 0) :: (pr, prL P0 P1 P2 P3 P4 t0 t1 t2 t3 t4 n3) :: R3) := cb_drop N2d (by kcf_all)
  clear N2e N2b N2c N2d kat2 ner2 hof2 F2a
  have mNN3 := sub2 _ mNN2
  have mD3 := sub2 _ mD2
  have mcN3 := sub2 _ mcN2
  have mcD3 := sub2 _ mcD2
  have mcS3 := sub2 _ mcS2
  have mcP3 := sub2 _ mcP2
  have mcC3 := sub2 _ mcC2
  have mcT3 := sub2 _ mcT2
  have mta3 := sub2 _ mta2
  have mca3 := sub2 _ mca2
  have mrest3 : ∀ q ∈ rest, q ∈ R3 := fun q hq => sub2 q (mrest2 q hq)
  have nots0_3 : ∀ q ∈ noteObjs tv (fun i => costOf P0 P1 P2 P3 P4 (cd i)) cc0, q ∈ R3 := fun q hq => sub2 q (nots0_2 q hq)
  have nots1_3 : ∀ q ∈ noteObjs tv (fun i => costOf P0 P1 P2 P3 P4 (cd i)) cc1, q ∈ R3 := fun q hq => sub2 q (nots1 q hq)
  have hsR3 : ∀ q ∈ (c2, oc2) :: cods2, q ∈ R3 := List.forall_mem_cons.mpr ⟨mc2, fun q hq => sub2 q (hsR2 q hq)⟩
  obtain ⟨cods3, hcods3⟩ : ∃ l, l = (c2, oc2) :: cods2 := ⟨_, rfl⟩
  rw [← hcods3] at hsR3 I3
  clear hcods3
  have hs3 : ∀ q ∈ cods3, q ∈ (117, tabObj ps3) :: (nt0, listOf (noteRefs cc0).toArray cc0.length) :: (nt1, listOf (noteRefs cc1).toArray cc1.length) :: (nt2, listOf (noteRefs cc2).toArray cc2.length) :: (nt3, listOf #[] 0) :: (pr, prL P0 P1 P2 P3 P4 t0 t1 t2 t3 t4 n3) :: R3 := fun q hq => (.tail _ (.tail _ (.tail _ (.tail _ (.tail _ (.tail _ (hsR3 q hq)))))))
  have h117_3 : ∀ p ∈ (nt0, listOf (noteRefs cc0).toArray cc0.length) :: (nt1, listOf (noteRefs cc1).toArray cc1.length) :: (nt2, listOf (noteRefs cc2).toArray cc2.length) :: (nt3, listOf #[] 0) :: (pr, prL P0 P1 P2 P3 P4 t0 t1 t2 t3 t4 n3) :: R3, p.1 ≠ 117 := List.forall_mem_cons.mpr ⟨ont.1, List.forall_mem_cons.mpr ⟨ont.2.1, List.forall_mem_cons.mpr ⟨ont.2.2.1, List.forall_mem_cons.mpr ⟨ont.2.2.2, List.forall_mem_cons.mpr ⟨opr.1, fun q hq => (off3 q hq).1⟩⟩⟩⟩⟩
  clear mNN2 mD2 mcN2 mcD2 mcS2 mcP2 mcC2 mcT2 mta2 mca2 mrest2 hs2 h117_2 off2 I2 hsR2 N2 sub2 mc2 nots0_2 nots1
  k_steps

  -- search 3
  refine Stop.out (kla_eval rfl ?_)
  refine lam_any (cods := cods3) (qual := qualH) (ps := ps3) (by k_asm) N3 TB hC rfl (UpdF.head h117_3) I3 hs3 rfl ?_
  intro f3 c3 oc3 vs3 u3 ctv3 ps4 hh3 tk3 F3a N3a d3 e3 I4 lf3 lc3 lp3
  try dsimp only at N3a
  k_steps
  refine Stop.out ?_
  refine hideQ ?_
  intro QH6 hQH6
  refine Stop.go ?_
  have fd3 := found_le hmono hag hs5 hk32 hloE hhiE ip4
  obtain ⟨ofun3, N3e, hof3⟩ := pickN N3a
  clear N3a
  have kat3 : KeyAt f3 nn nt3 pr ((f3, ofun3) :: (c3, oc3) :: (117, tabObj ps4) :: ([(nt0, listOf (noteRefs cc0).toArray cc0.length), (nt1, listOf (noteRefs cc1).toArray cc1.length), (nt2, listOf (noteRefs cc2).toArray cc2.length)] ++ R3)) := by
    rw [hof3]
    exact ⟨_, _, _, _, _, _, _, _, _, _, _, 3, c3, _, _, oc3, oN, op, vs3, u3, _, _, .head _, .tail _ (.head _), d3, e3, .tail _ (.tail _ (.tail _ (List.mem_append_right _ mcN3))), dN, .tail _ (.tail _ (.tail _ (List.mem_append_right _ mcP3))), dp', .tail _ (.tail _ (.tail _ (List.mem_append_right _ mNN3))), by decide, by decide, rfl⟩
  have ner3 : ∀ q ∈ ((f3, ofun3) :: (c3, oc3) :: (117, tabObj ps4) :: ([(nt0, listOf (noteRefs cc0).toArray cc0.length), (nt1, listOf (noteRefs cc1).toArray cc1.length), (nt2, listOf (noteRefs cc2).toArray cc2.length)] ++ R3)), q.1 ≠ nt3 := by
    simp only [List.cons_append, List.nil_append]
    refine List.forall_mem_cons.mpr ⟨Nat.ne_of_gt (lf3 (nt3, listOf #[] 0) (by k_mem)), List.forall_mem_cons.mpr ⟨obj_ne N3e (.tail _ (.head _)) (o' := listOf #[] 0) (by k_mem) (fun q => by rw [q] at d3; cases d3), List.forall_mem_cons.mpr ⟨Ne.symm ont.2.2.2, List.forall_mem_cons.mpr ⟨Ne.symm (Ne.symm onn.2.2.1), List.forall_mem_cons.mpr ⟨Ne.symm (Ne.symm onn.2.2.2.2.1), List.forall_mem_cons.mpr ⟨Ne.symm (Ne.symm onn.2.2.2.2.2), fun q hq => (off3 q hq).2.2.2.2⟩⟩⟩⟩⟩⟩
  have N3b := cb_drop N3e (keyLed0 (nt := nt3) (pr := pr) (oP := prL P0 P1 P2 P3 P4 t0 t1 t2 t3 t4 n3) (tv := tv) (cf := fun i => costOf P0 P1 P2 P3 P4 (cd i)) (R := ((f3, ofun3) :: (c3, oc3) :: (117, tabObj ps4) :: ([(nt0, listOf (noteRefs cc0).toArray cc0.length), (nt1, listOf (noteRefs cc1).toArray cc1.length), (nt2, listOf (noteRefs cc2).toArray cc2.length)] ++ R3))) (by k_mem) (by k_mem) (by simp only [List.cons_append, List.nil_append]; kcf_all))
  refine Stop.out ((bisR_key4N (n1 := n1) ht hth kat3 (by rw [hof3]; exact .head _) (.tail _ (.tail _ (.tail _ (List.mem_append_right _ mta3)))) opr.2.2.2.2 ner3 b0 b1 hlh hh31).useP BB (by k_asm) XB N3b TB rfl (by ktr_room) (by ktr_units) ?_)
  rintro _ _ hh3 tk3 F3 N3c ⟨cc3, tt3, rfl, rfl, hcc3⟩
  dsimp only
  rw [fd3.1]
  replace hcc3 := Hide.mk (hcc3.trans fd3.2.1)
  replace fd3 := Hide.mk (And.intro fd3.2.2.1 fd3.2.2.2)
  obtain ⟨R4, sub3, mc3, nots3, off4, N3d⟩ := repack N3c d3 lp3 off3 (o0 := listOf (noteRefs cc0).toArray cc0.length) (o1 := listOf (noteRefs cc1).toArray cc1.length) (o2 := listOf (noteRefs cc2).toArray cc2.length) (o3 := listOf (noteRefs cc3).toArray cc3.length) (.tail _ (.tail _ (List.mem_append_left _ (.tail _ (.tail _ (.tail _ (List.mem_append_left _ (by k_mem)))))))) (.tail _ (.tail _ (List.mem_append_left _ (.tail _ (.tail _ (.tail _ (List.mem_append_left _ (by k_mem)))))))) (.tail _ (.tail _ (List.mem_append_left _ (.tail _ (.tail _ (.tail _ (List.mem_append_left _ (by k_mem)))))))) (.head _) ⟨rfl, _, _, rfl⟩ ⟨rfl, _, _, rfl⟩ ⟨rfl, _, _, rfl⟩ ⟨rfl, _, _, rfl⟩
  simp only [List.cons_append, List.nil_append] at N3d
  have N4 : News gB LB _ ((117, tabObj ps4) :: (nt0, listOf (noteRefs cc0).toArray cc0.length) :: (nt1, listOf (noteRefs cc1).toArray cc1.length) :: (nt2, listOf (noteRefs cc2).toArray cc2.length) :: (nt3, listOf (noteRefs cc3).toArray cc3.length) :: (pr, prL P0 P1 P2 P3 P4 t0 t1 t2 t3 t4 n3) :: R4) := cb_drop N3d (by kcf_all)
  clear N3e N3b N3c N3d kat3 ner3 hof3 F3a
  have mNN4 := sub3 _ mNN3
  have mD4 := sub3 _ mD3
  have mcN4 := sub3 _ mcN3
  have mcD4 := sub3 _ mcD3
  have mcS4 := sub3 _ mcS3
  have mcP4 := sub3 _ mcP3
  have mcC4 := sub3 _ mcC3
  have mcT4 := sub3 _ mcT3
  have mta4 := sub3 _ mta3
  have mca4 := sub3 _ mca3
  have mrest4 : ∀ q ∈ rest, q ∈ R4 := fun q hq => sub3 q (mrest3 q hq)
  have nots0_4 : ∀ q ∈ noteObjs tv (fun i => costOf P0 P1 P2 P3 P4 (cd i)) cc0, q ∈ R4 := fun q hq => sub3 q (nots0_3 q hq)
  have nots1_4 : ∀ q ∈ noteObjs tv (fun i => costOf P0 P1 P2 P3 P4 (cd i)) cc1, q ∈ R4 := fun q hq => sub3 q (nots1_3 q hq)
  have nots2_4 : ∀ q ∈ noteObjs tv (fun i => costOf P0 P1 P2 P3 P4 (cd i)) cc2, q ∈ R4 := fun q hq => sub3 q (nots2 q hq)
  have hsR4 : ∀ q ∈ (c3, oc3) :: cods3, q ∈ R4 := List.forall_mem_cons.mpr ⟨mc3, fun q hq => sub3 q (hsR3 q hq)⟩
  obtain ⟨cods4, hcods4⟩ : ∃ l, l = (c3, oc3) :: cods3 := ⟨_, rfl⟩
  rw [← hcods4] at hsR4 I4
  clear hcods4
  have hs4 : ∀ q ∈ cods4, q ∈ (117, tabObj ps4) :: (nt0, listOf (noteRefs cc0).toArray cc0.length) :: (nt1, listOf (noteRefs cc1).toArray cc1.length) :: (nt2, listOf (noteRefs cc2).toArray cc2.length) :: (nt3, listOf (noteRefs cc3).toArray cc3.length) :: (pr, prL P0 P1 P2 P3 P4 t0 t1 t2 t3 t4 n3) :: R4 := fun q hq => (.tail _ (.tail _ (.tail _ (.tail _ (.tail _ (.tail _ (hsR4 q hq)))))))
  have h117_4 : ∀ p ∈ (nt0, listOf (noteRefs cc0).toArray cc0.length) :: (nt1, listOf (noteRefs cc1).toArray cc1.length) :: (nt2, listOf (noteRefs cc2).toArray cc2.length) :: (nt3, listOf (noteRefs cc3).toArray cc3.length) :: (pr, prL P0 P1 P2 P3 P4 t0 t1 t2 t3 t4 n3) :: R4, p.1 ≠ 117 := List.forall_mem_cons.mpr ⟨ont.1, List.forall_mem_cons.mpr ⟨ont.2.1, List.forall_mem_cons.mpr ⟨ont.2.2.1, List.forall_mem_cons.mpr ⟨ont.2.2.2, List.forall_mem_cons.mpr ⟨opr.1, fun q hq => (off4 q hq).1⟩⟩⟩⟩⟩
  clear mNN3 mD3 mcN3 mcD3 mcS3 mcP3 mcC3 mcT3 mta3 mca3 mrest3 hs3 h117_3 off3 I3 hsR3 N3 sub3 mc3 nots0_3 nots1_3 nots2
  k_steps

  rename News _ _ _ _ => NX0
  rename Fr _ _ _ _ => FX0
  refine Stop.out ((bisL_plain2' (by k_mem) hI hl).useP BB FX0 XB NX0 TB rfl (by ktr_room) (by ktr_units) ?_)
  rintro _ _ hp0 tkp0 FP0 NP0 ⟨rfl, tp0, rfl⟩
  dsimp only
  rw [fd0.out.1]
  k_steps

  rename News _ _ _ _ => NX1
  rename Fr _ _ _ _ => FX1
  refine Stop.out ((bisR_plain2' (by k_mem) hI hl).useP BB FX1 XB NX1 TB rfl (by ktr_room) (by ktr_units) ?_)
  rintro _ _ hp1 tkp1 FP1 NP1 ⟨rfl, tp1, rfl⟩
  dsimp only
  rw [fd1.out.1]
  k_steps

  rename News _ _ _ _ => NX2
  rename Fr _ _ _ _ => FX2
  refine Stop.out ((bisL_plain4' (lo := lo) (hi := hi) (by k_mem) hI hl hlh hh31).useP BB FX2 XB NX2 TB rfl (by ktr_room) (by ktr_units) ?_)
  rintro _ _ hp2 tkp2 FP2 NP2 ⟨rfl, tp2, rfl⟩
  dsimp only
  rw [fd2.out.1]
  k_steps

  rename News _ _ _ _ => NX3
  rename Fr _ _ _ _ => FX3
  refine Stop.out ((bisR_plain4' (lo := lo) (hi := hi) (by k_mem) hI hl hlh hh31).useP BB FX3 XB NX3 TB rfl (by ktr_room) (by ktr_units) ?_)
  rintro _ _ hp3 tkp3 FP3 NP3 ⟨rfl, tp3, rfl⟩
  dsimp only
  rw [fd3.out.1]
  k_steps

  rename News _ _ _ _ => NY0
  refine Stop.out (ke_ne_ints (News.isList NY0 (by k_mem)) (News.isList NY0 (by k_mem)) (.cons _ _ (.cons _ _ (.cons _ _ (.cons _ _ .nil)))) (.cons _ _ (.cons _ _ (.cons _ _ (.cons _ _ .nil)))) (by ktr_units) ?_)
  simp only [decide_true, Bool.not_true]
  k_steps

  rename News _ _ _ _ => NY1
  refine Stop.out (ke_ne_ints (News.isList NY1 (by k_mem)) (News.isList NY1 (by k_mem)) (.cons _ _ (.cons _ _ (.cons _ _ (.cons _ _ .nil)))) (.cons _ _ (.cons _ _ (.cons _ _ (.cons _ _ .nil)))) (by ktr_units) ?_)
  simp only [decide_true, Bool.not_true]
  k_steps

  -- the last comprehension
  rename News _ _ _ _ => NZ
  rename Fr _ _ _ _ => FZ
  obtain ⟨dueF, hdueF⟩ : ∃ f : Nat → Nat, f = fun i => [a1, a2, b1', b2'].getD i 0 := ⟨_, rfl⟩
  obtain ⟨sizeF, hsizeF⟩ : ∃ f : Nat → Nat, f = fun i => [5, 5, size, size].getD i 0 := ⟨_, rfl⟩
  have hdue : ∀ i, i < 4 → [((a1 : Nat) : Int), (a2 : Nat), (b1' : Nat), (b2' : Nat)].getD i 0 = ((dueF i : Nat) : Int) := by
    rw [hdueF]
    intro i hi
    rcases lt4 hi with rfl | rfl | rfl | rfl <;> rfl
  have hsizes : ∀ i, i < 4 → [(5 : Int), 5, (size : Nat), (size : Nat)].getD i 0 = ((sizeF i : Nat) : Int) := by
    rw [hsizeF]
    intro i hi
    rcases lt4 hi with rfl | rfl | rfl | rfl <;> rfl
  have hdue31 : ∀ i, i < 4 → dueF i ≤ 31 ∧ sizeF i ≤ 5 ∧ ∀ k ∈ spotsOf (dueF i) (sizeF i), k < 31 := by
    rw [hdueF, hsizeF]
    intro i hi
    rcases lt4 hi with rfl | rfl | rfl | rfl
    · exact ⟨fd0.out.2.1, Nat.le_refl 5, fd0.out.2.2⟩
    · exact ⟨fd1.out.2.1, Nat.le_refl 5, fd1.out.2.2⟩
    · exact ⟨fd2.out.2.1, hs5, fd2.out.2.2⟩
    · exact ⟨fd3.out.2.1, hs5, fd3.out.2.2⟩
  refine Stop.out ?_
  refine LCg.CompSrc.range (n := 4) (by rfl) FZ NZ (by assumption) (by exact srange (lo := 0) (hi := 4) (by decide) (by decide)) (rangeSize_of (lo := 0) (hi := 4) (by decide)) (ssize1 (lo := 0) (hi := 4) (by decide)) ?_
  intro gC
  refine comp_ind (fun i ys nw => (∀ q ∈ _, q ∈ nw) ∧ DatAll nw ys ((List.range i).map fun k => noteD tv (fun i => costOf P0 P1 P2 P3 P4 (cd i)) (spotsOf (dueF k) (sizeF k)))) ?_ ?_ ⟨fun _ h => h, .nil⟩
  · intro i t I oI C oC D' m₂ ys nw h tk E' hi hJ hCo hx F1 N1 off ne
    have hsb := hJ.1
    have mcT := hsb (LB + 1, ot) (by k_mem)
    have mcC := hsb (LB + 1 + 1, oc) (by k_mem)
    have mcD := hsb (LB + 1 + 1 + 1 + 1 + 1, oD) (by k_mem)
    have mcS := hsb (LB + 1 + 1 + 1 + 1, osz) (by k_mem)
    have mD := hsb (D, listOf #[.int (a1 : Nat) t1', .int (a2 : Nat) t2', .int (b1' : Nat) t3', .int (b2' : Nat) t4'] 0) (by k_mem)
    have mta := hsb (ta, listOf tv.toArray n1) (by k_mem)
    have mca := hsb (ca, listOf vs.toArray n2) (by k_mem)
    clear hsb
    k_steps
    rename News _ _ _ _ => NA
    refine item4 NA (by k_mem) hi hdue (fun tA => ?_)
    k_steps
    rename News _ _ _ _ => NC
    rename Fr _ _ _ _ => FC
    have esz : [(5 : Int), 5, (size : Nat), (size : Nat)].getD (((0 : Nat) : Int) + (i : Int)).toNat 0 = ((sizeF i : Nat) : Int) := by
      rw [natIdx i]
      exact hsizes i hi
    rw [esz]
    have ND : News gB LB _ ((I, oI) :: (C, oC) :: (D', LCg.lst ys) :: nw) := cb_drop NC (fun q hq => .tail _ hq)
    refine Stop.out ((steps' (by k_mem) (by k_mem) hI hl ht (hdue31 i hi).1 (hdue31 i hi).2.1 (hdue31 i hi).2.2).useP BB FC XB ND TB rfl (by ktr_room) (by ktr_units) ?_)
    rintro _ _ h' tk' F' N' ⟨l, n', ts, rfl, hts, rfl, hoff⟩
    dsimp only
    k_steps
    exact Stop.out (LCg.CompEnd.intro F' N' ((l, listOf (noteRefs ts).toArray n') :: (nw ++ noteObjs tv (fun i => cs'.getD i 0) ts)) sub_steps (off_steps off hoff) trivial (steps_turn hJ hth hag (hdue31 i hi).2.2 hts))
  · intro ys nw hJ
    k_steps
    rename News _ _ _ _ => NE
    have hb := hJ.1
    have thk : ∀ {ks : List Nat}, (∀ k ∈ ks, k < 31) → ∀ k ∈ ks, Thing (tv.getD k .none) (cd k) := fun h k hk => (hth k (h k hk)).1
    have thk' : ∀ {ks : List Nat}, (∀ k ∈ ks, k < 31) → kqdOk 8 (noteD tv (fun i => costOf P0 P1 P2 P3 P4 (cd i)) ks) = true := fun h => noteD_ok fun k hk => hth k (h k hk)
    have hbR : ∀ q ∈ R4, q ∈ nw := fun q hq => hb q (by simp only [List.mem_cons, hq, or_true])
    have DA : DatAll nw [.ref nt0, .ref nt1, .ref nt2, .ref nt3] [noteD tv (fun i => costOf P0 P1 P2 P3 P4 (cd i)) (spotsOf a1 5), noteD tv (fun i => costOf P0 P1 P2 P3 P4 (cd i)) (spotsOf a2 5), noteD tv (fun i => costOf P0 P1 P2 P3 P4 (cd i)) (spotsOf b1' size), noteD tv (fun i => costOf P0 P1 P2 P3 P4 (cd i)) (spotsOf b2' size)] :=
      .cons (notes_in (hb (nt0, listOf (noteRefs cc0).toArray cc0.length) (by k_mem)) (fun q hq => hbR q (nots0_4 q hq)) hcc0.out (thk fd0.out.2.2))
        (.cons (notes_in (hb (nt1, listOf (noteRefs cc1).toArray cc1.length) (by k_mem)) (fun q hq => hbR q (nots1_4 q hq)) hcc1.out (thk fd1.out.2.2))
          (.cons (notes_in (hb (nt2, listOf (noteRefs cc2).toArray cc2.length) (by k_mem)) (fun q hq => hbR q (nots2_4 q hq)) hcc2.out (thk fd2.out.2.2))
            (.cons (notes_in (hb (nt3, listOf (noteRefs cc3).toArray cc3.length) (by k_mem)) (fun q hq => hbR q (nots3 q hq)) hcc3.out (thk fd3.out.2.2)) .nil)))
    have ok1 : ∀ d ∈ [noteD tv (fun i => costOf P0 P1 P2 P3 P4 (cd i)) (spotsOf a1 5), noteD tv (fun i => costOf P0 P1 P2 P3 P4 (cd i)) (spotsOf a2 5), noteD tv (fun i => costOf P0 P1 P2 P3 P4 (cd i)) (spotsOf b1' size), noteD tv (fun i => costOf P0 P1 P2 P3 P4 (cd i)) (spotsOf b2' size)], kqdOk 8 d = true :=
      List.forall_mem_cons.mpr ⟨thk' fd0.out.2.2, List.forall_mem_cons.mpr ⟨thk' fd1.out.2.2, List.forall_mem_cons.mpr ⟨thk' fd2.out.2.2, List.forall_mem_cons.mpr ⟨thk' fd3.out.2.2, List.forall_mem_nil _⟩⟩⟩⟩
    have ok2 : ∀ d ∈ (List.range 4).map fun k => noteD tv (fun i => costOf P0 P1 P2 P3 P4 (cd i)) (spotsOf (dueF k) (sizeF k)), kqdOk 8 d = true := by
      intro d hd
      obtain ⟨k, hk, rfl⟩ := List.mem_map.mp hd
      exact thk' (hdue31 k (List.mem_range.mp hk)).2.2
    refine Stop.out (eq_same NE (n₁ := nw) (n₂ := nw) (.tail _ (hbR _ mNN4)) rfl rfl DA (fun _ h => .tail _ h) (.head _) rfl rfl hJ.2 (fun _ h => .tail _ h) ok1 ok2 (by ktr_units) (by rw [hdueF, hsizeF]; rfl) ?_)
    k_steps
    have hbT := hb (117, tabObj ps4) (by k_mem)
    have hbp := hb (pr, prL P0 P1 P2 P3 P4 t0 t1 t2 t3 t4 n3) (by k_mem)
    exact hret _ _ _ _ (by k_asm) (cb_drop (by k_asm) (List.forall_mem_cons.mpr ⟨.tail _ hbT, List.forall_mem_cons.mpr ⟨.tail _ (hbR _ mta4), List.forall_mem_cons.mpr ⟨.tail _ (hbR _ mca4), List.forall_mem_cons.mpr ⟨.tail _ hbp, fun q hq => .tail _ (hbR q hq)⟩⟩⟩⟩)) ⟨rfl, ps4, cods4, R4, rfl, I4, hsR4, mrest4,
      List.forall_mem_cons.mpr ⟨hP _ (.head _), List.forall_mem_cons.mpr ⟨hP _ (.tail _ (.head _)), List.forall_mem_cons.mpr ⟨opr.1, fun q hq => (off4 q hq).1⟩⟩⟩⟩
end
end Mine
end
theorem Mine.flushC10 : True ∧ True := by
  w_top off
  first | (walk1; done) | exact ⟨trivial, trivial⟩
section
open PySem PySem.Spec PySem.Calls PySem.W PyProof.Rows
namespace Mine
abbrev frs (l : List Env) : List Addr := l.filterMap (·.frame)
/-- the way back from a call that may have touched the slots of the frames behind it -/
def LeaveT (A₀ : Around) (base : Heap) (outer : List Env) (fs : List Addr) (h₀ : Heap) (L : Addr) (m : Str → Option Value) (g : Heap) (R : Result → Shared → Prop) (v : Value) (s' : Shared) : Prop :=
  ∃ g' L' m' news', KtsTurn fs g g' ∧ Fr g' L' s'.heap m' ∧ News g' L' s'.heap news' ∧
    ∀ h₀', KtsTurn (frs outer) h₀ h₀' → Fr h₀' L s'.heap m → News h₀' L s'.heap news' → Below A₀ base outer h₀' → R (.ok (.ret v)) s'
theorem frs_cons {env : Env} {outer : List Env} {L b : Addr} (hf : env.frame = some L) (h : b ∈ frs (env :: outer)) : b = L ∨ b ∈ frs outer := by
  simp only [frs, List.filterMap_cons, hf, List.mem_cons] at h
  exact h
theorem below_turn {A₀ : Around} {base h₀ h₀' : Heap} {outer : List Env} (B : Below A₀ base outer h₀) (T : KtsTurn (frs outer) h₀ h₀') : Below A₀ base outer h₀' := by
  refine ⟨B.stack, fun b o e => T.other b o (B.stays b o e) fun hm => ?_, B.frames.of_keeps fun b o e _ => ?_⟩
  · rw [(B.frames.mem hm).1] at e; cases e
  · obtain ⟨sl, hs⟩ := T.up e
    exact ⟨_, hs, rfl⟩
/-- a heap in which all but the frames' slots stays: the ground turned -/
theorem turn_ground {A₀ : Around} {base h₀ h : Heap} {outer : List Env} (B : Below A₀ base outer h₀) (ho : ∀ b o, h₀.get? b = some o → b ∉ frs outer → h.get? b = some o)
    (hf : ∀ b o, h₀.get? b = some o → b ∈ frs outer → ∃ sl, h.get? b = some { o with slots := sl }) :
    ∃ h₀', KtsTurn (frs outer) h₀ h₀' ∧ (∀ b o, h₀'.get? b = some o → h.get? b = some o) ∧ h₀'.objs.size = h₀.objs.size ∧ Below A₀ base outer h₀' := by
  obtain ⟨T, S⟩ := kts_turn_at (h := h) (fs := frs outer) (g := h₀) (fun b hb => by obtain ⟨_, o, e, _⟩ := B.frames.mem hb; exact ⟨o, e⟩) ho hf
  exact ⟨_, T, S, T.size, below_turn B T⟩
section
variable {A₀ A : Around} {s : Shared} {base h₀ : Heap} {outer : List Env} {L : Addr} {m : Str → Option Value} {env : Env} {news : List (Addr × Obj)} {R : Result → Shared → Prop}
theorem groundT (B : Below A₀ base outer h₀) (F : Fr h₀ L s.heap m) (N : News h₀ L s.heap news) (D : KtsDicts (frs outer) h₀) (hA : A.frames = some (env :: outer)) (hf : env.frame = some L) (hke : env.scope.kind = .function) :
    ∃ G, Fr h₀ L G m ∧ Below A base (env :: outer) G ∧ h₀.StaysIn G ∧ KtsDicts (frs (env :: outer)) G ∧ G.StaysIn s.heap ∧ G.objs.size = s.heap.objs.size ∧ (∀ p ∈ news, G.get? p.1 = none) ∧
      ∀ v s', LeaveT A₀ base outer (frs (env :: outer)) h₀ L m G R v s' → R (.ok (.ret v)) s' := by
  obtain ⟨FG, BG, st, _⟩ := groundX (R := R) B F N hA hf hke
  refine ⟨_, FG, BG, st, fun b hb => ?_, fun b o e => of_hideAll _ e, hideAll_size _ _, fun p hp => hideAll_none _ (List.mem_map_of_mem hp), fun v s' hl => ?_⟩
  · rcases frs_cons hf hb with rfl | hb
    · obtain ⟨o, es, ep, e, hd, _⟩ := FG.ns
      exact ⟨o, es, ep, e, hd⟩
    · obtain ⟨o, es, n, e, hd⟩ := D b hb
      exact ⟨o, es, n, st b o e, hd⟩
  · obtain ⟨g', L', m', news', T, F', N', k⟩ := hl
    have nL : h₀.get? L = none := kts_self F
    obtain ⟨h₀', T₁, S₁, z₁, B₁⟩ := turn_ground (h := s'.heap) B (fun b o e hb => F'.keep b o (T.other b o (st b o e) fun q => by
        rcases frs_cons hf q with rfl | q
        · rw [nL] at e; cases e
        · exact hb q))
      (fun b o e _ => by
        obtain ⟨sl, hs⟩ := T.up (st b o e)
        exact ⟨sl, F'.keep _ _ hs⟩)
    obtain ⟨oL, es, ep, hL, hLd, hLk, hLf⟩ := FG.ns
    obtain ⟨sl, hs⟩ := T.up hL
    refine k h₀' T₁ ⟨⟨_, es, ep, F'.keep _ _ hs, hLd, hLk, hLf⟩, S₁, by rw [z₁]; exact F.above⟩ (fun p hp => ⟨(N' p hp).1, fun q => ?_, ?_⟩) B₁
    · have := (N' p hp).2.2
      rw [q, hs] at this; cases this
    · refine T₁.none_ _ ?_
      cases q : h₀.get? p.1 with
      | none => rfl
      | some o =>
        obtain ⟨sl', hs'⟩ := T.up (st _ _ q)
        have := (N' p hp).2.2
        rw [hs'] at this; cases this
end
section
variable {prog : Program} {w : World} {A₀ A : Around} {s : Shared} {base h₀ : Heap} {outer : List Env} {L : Addr} {m : Str → Option Value} {env : Env} {news : List (Addr × Obj)} {K : Frag} {p : Program} {loose : List Str} {mean : ExcName → Option Value} {mg mb : Str → Option Value}
  {R : Result → Shared → Prop} {name qual : Str} {params : Arguments} {body : List Stmt} {scope : Scope} {dV kV doc pm cdv ct oc : Value} {an od : Option Addr} {osl : Array (Option Value)} {f : Addr} {args : Args} {binds : List (Str × Value)}
/-- a def without cells is entered; the frames behind it may be touched -/
theorem enterT (B : Below A₀ base outer h₀) (F : Fr h₀ L s.heap m) (X : K.In h₀) (N : News h₀ L s.heap news) (T : Top p loose mean mg mb h₀) (D : KtsDicts (frs outer) h₀) (hA : A.frames = some (env :: outer)) (hf : env.frame = some L) (hke : env.scope.kind = .function)
    (ho : K.lookup f = some ⟨oc, od, .func (fnOf name qual params body scope dV kV doc pm an cdv ct), osl⟩) (hcd : codeIn K cdv qual = true) (hroom : A.depth < recursionLimit)
    (hbind : BindsTo s (fnOf name qual params body scope dV kV doc pm an cdv ct) args binds) (hloc : ∀ y ∈ binds, scope.names.lookup y.1 = some .local)
    (h : ∀ g L' h₁, Fr h₀ L g m → Fr g L' h₁ (fun y => binds.reverse.lookup y) → News g L' h₁ news → Below A base (env :: outer) g → K.In g → Top p loose mean mg mb g → KtsDicts (frs (env :: outer)) g →
      wpAny (model prog w) (A.deeper (envOf qual scope L' f cdv)) (execs body (envOf qual scope L' f cdv))
        (fun fl s' => LeaveT A₀ base outer (frs (env :: outer)) h₀ L m g R (match fl with | .ret v => v | _ => .none) s')
        (fun e s' => wpAny (model prog w) (A.deeper (envOf qual scope L' f cdv)) (leaving (envOf qual scope L' f cdv) e) (fun _ s'' => R (.error e) s'') (fun e' s'' => R (.error e') s'') s')
        { s with heap := h₁, toks := s.toks + binds.length })
    (hco : scope.isCoroutine = false) (hgen : scope.isGenerator = false) (hk : scope.kind = .function) (hcell : ∀ x ∈ scope.names, x.2 ≠ .cell) : codeAny (model prog w) A (.call (.ref f) args) R s := by
  obtain ⟨G, FG, BG, st, DG, sG, zG, nG, lv⟩ := groundT (R := R) B F N D hA hf hke
  have X' := X.keeps F.keep
  refine codeAny_call_def (fd := fnOf name qual params body scope dV kV doc pm an cdv ct) (body := body) (binds := binds) hroom (X' _ _ ho) rfl (T.nolimit.keeps F.keep) (codeRec_of X' hcd) rfl hbind hcell hloc (fun h₁ hns hk₁ => ?_) hco hgen hk
  refine wpAny_mono (h G s.heap.objs.size h₁ FG ⟨hns, fun b o e => hk₁ b o (sG b o e), Nat.le_of_eq zG⟩ (fun q hq => ⟨hk₁ _ _ (N q hq).1, Nat.ne_of_lt (Heap.lt_size (N q hq).1), nG q hq⟩) BG (X.keeps st) (T.keeps st) DG) (fun fl s' hl => lv _ _ hl) fun _ _ y => y
/-- a def with cells is entered -/
theorem enterCT (B : Below A₀ base outer h₀) (F : Fr h₀ L s.heap m) (X : K.In h₀) (N : News h₀ L s.heap news) (T : Top p loose mean mg mb h₀) (D : KtsDicts (frs outer) h₀) (hA : A.frames = some (env :: outer)) (hf : env.frame = some L) (hke : env.scope.kind = .function)
    (ho : K.lookup f = some ⟨oc, od, .func (fnOf name qual params body scope dV kV doc pm an cdv ct), osl⟩) (hcd : codeIn K cdv qual = true) (hroom : A.depth < recursionLimit)
    (hbind : BindsTo s (fnOf name qual params body scope dV kV doc pm an cdv ct) args binds) (hkind : (binds.all fun y => scope.names.lookup y.1 == some .local || scope.names.lookup y.1 == some .cell) = true)
    (hnd : ((cellsFrom 0 scope.names []).map (·.1)).Nodup)
    (h : ∀ g L' h₁ tk cells, Fr h₀ L g m → Fr g L' h₁ (bindL (envOfC qual scope L' f cdv).kindOf binds fun _ => none) → News g L' h₁ (cells ++ news) →
      CellsAre (bindC (envOfC qual scope L' f cdv).kindOf binds fun _ => none) (cellsFrom (L' + 1) scope.names []) cells → Below A base (env :: outer) g → K.In g → Top p loose mean mg mb g → KtsDicts (frs (env :: outer)) g → (∀ p ∈ news, p.1 < L') →
      wpAny (model prog w) (A.deeper (envOfC qual scope L' f cdv)) (execs body (envOfC qual scope L' f cdv))
        (fun fl s' => LeaveT A₀ base outer (frs (env :: outer)) h₀ L m g R (match fl with | .ret v => v | _ => .none) s')
        (fun e s' => wpAny (model prog w) (A.deeper (envOfC qual scope L' f cdv)) (leaving (envOfC qual scope L' f cdv) e) (fun _ s'' => R (.error e) s'') (fun e' s'' => R (.error e') s'') s')
        { s with heap := h₁, toks := tk })
    (hco : scope.isCoroutine = false) (hgen : scope.isGenerator = false) (hk : scope.kind = .function) : codeAny (model prog w) A (.call (.ref f) args) R s := by
  obtain ⟨G, FG, BG, st, DG, sG, zG, nG, lv⟩ := groundT (R := R) B F N D hA hf hke
  have X' := X.keeps F.keep
  refine codeAny_call_function hroom (X' _ _ ho) rfl hco hgen rfl (codeRec_of X' hcd) (hbind _ _ _ _ ?_)
  refine wpAny_newFunctionEnv_cells hk (kindsX hkind _) fun env' he s' x => ?_
  subst he
  refine ⟨(T.nolimit.keeps F.keep).keeps x.toInCall.keep, codeAny_func ?_⟩
  obtain ⟨h₁, tk, rfl, _⟩ := x.done
  have hk₁ := x.toInCall.keep
  obtain ⟨cells, NC, Y⟩ := Cl.news (h₀ := s.heap) (Nat.le_refl _) fun n c hm => ⟨x.cell n c (lookup_of_mem_nodup (cellsFrom_names scope.names 0 (s.heap.objs.size + 1) [] [] rfl ▸ hnd) hm), x.above n c hm⟩
  refine wpAny_mono (h G s.heap.objs.size h₁ tk cells FG ⟨x.toInCall.ns, fun b o e => hk₁ b o (sG b o e), Nat.le_of_eq zG⟩ (fun q hq => ?_) Y BG (X.keeps st) (T.keeps st) DG (fun q hq => Heap.lt_size (N q hq).1)) (fun fl s' hl => lv _ _ hl) fun _ _ y => y
  rcases List.mem_append.mp hq with hq | hq
  · refine ⟨(NC q hq).1, (NC q hq).2.1, ?_⟩
    cases z : G.get? q.1 with
    | none => rfl
    | some o => have := sG _ _ z; rw [(NC q hq).2.2] at this; cases this
  · exact ⟨hk₁ _ _ (N q hq).1, Nat.ne_of_lt (Heap.lt_size (N q hq).1), nG q hq⟩
end
section
variable {M : Model} {A : Around} {E : Value → Shared → Prop} {s' : Shared} {base g g₂ h : Heap} {outer : List Env} {L e t : Addr} {m : Str → Option Value} {env : Env} {Q : Unit → Shared → Prop} {news : List (Addr × Obj)}
theorem frs_ne {b : Addr} (hf : env.frame = some L) (F : Fr g L g₂ m) (nm : b ∉ frs outer) {o : Obj} (q : g.get? b = some o) : b ∉ frs (env :: outer) := fun hm => by
  rcases frs_cons hf hm with z | z
  · rw [z, kts_self F] at q; cases q
  · exact nm z
/-- an exception flies out of a frame of any kind -/
theorem leave_onX {cls : Value} {vs : List Value} (K : Below A base outer g) (hf : env.frame = some L) (F : Fr g L g₂ m) (R : RaisedS base g₂ (env :: outer) e cls t vs news s'.heap) (hsm : g₂.UpToSlots s'.heap)
    (hQ : ∀ h', RaisedS base g outer e cls t vs news h' → RaisedK base outer e cls t vs news h' → g.UpToSlots h' → Q () { s' with heap := h' }) : wpAny M (A.deeper env) (leaving env (.ref e)) Q E s' := by
  obtain ⟨⟨B, hB, hBG, hl, hfl, hnew⟩, htup⟩ := R
  refine wpAny_leaves_onW (Around.frames_deeper K.stack) hf hfl fun h' x1 x2 => ?_
  have R : RaisedS base g outer e cls t vs news h' := ⟨⟨B, hB, fun b o q nm => hBG b o (F.keep b o q) (frs_ne hf F nm q), fun q hq => ⟨(hl q hq).1, kts_none F.keep (hl q hq).2.1, (hl q hq).2.2⟩, x1, hnew⟩, htup.of_slots x2⟩
  exact hQ h' R R.toK ((Heap.UpToSlots.of_keeps F.keep).trans (hsm.trans x2))
theorem leave_onNX {cls : Value} (K : Below A base outer g) (hf : env.frame = some L) (F : Fr g L g₂ m) (R : RaisedSN base g₂ (env :: outer) e cls news s'.heap) (hsm : g₂.UpToSlots s'.heap)
    (hQ : ∀ h', RaisedSN base g outer e cls news h' → RaisedN base outer e cls news h' → g.UpToSlots h' → Q () { s' with heap := h' }) : wpAny M (A.deeper env) (leaving env (.ref e)) Q E s' := by
  obtain ⟨B, a0, hB, hBG, hl, hfl⟩ := R
  refine wpAny_leaves_onW (Around.frames_deeper K.stack) hf hfl fun h' x1 x2 => ?_
  have R : RaisedSN base g outer e cls news h' := ⟨B, a0, hB, fun b o q nm => hBG b o (F.keep b o q) (frs_ne hf F nm q), fun q hq => ⟨(hl q hq).1, kts_none F.keep (hl q hq).2.1, (hl q hq).2.2⟩, x1⟩
  exact hQ h' R R.toN ((Heap.UpToSlots.of_keeps F.keep).trans (hsm.trans x2))
end
end Mine
end
theorem Mine.flushC11a : True ∧ True := by
  w_top off
  first | (walk1; done) | exact ⟨trivial, trivial⟩
section
open PySem PySem.Spec PySem.Calls PySem.W PyProof.Rows
namespace Mine
section
variable {A₀ A : Around} {base gB : Heap} {env : Env} {L LB : Addr} {h : Heap} {m : Str → Option Value} {news : List (Addr × Obj)} {oL : Obj}
/-- the ground without the frame behind: its object stands in the ledger, up to its slots -/
theorem turn_open {sl : Array (Option Value)} (B : Below A base [env] gB) (hf : env.frame = some L) (hL : gB.get? L = some oL) (F : Fr (hideAll gB [L]) LB h m) (N : News (hideAll gB [L]) LB h ((L, { oL with slots := sl }) :: news)) (hn : ∀ q ∈ news, @Ne Nat q.1 L) :
    ∃ g', KtsTurn [L] gB g' ∧ Fr g' LB h m ∧ Below A base [env] g' ∧ News g' LB h news := by
  have hfs : frs [env] = [L] := by simp [frs, hf]
  obtain ⟨g', T, S, z, B'⟩ := turn_ground (h := h) B (fun b o e hb => F.keep b o (hideAll_get _ e (by rwa [hfs] at hb))) (fun b o e hb => by
    rw [hfs] at hb
    obtain rfl : b = L := by simpa using hb
    rw [hL] at e; cases e
    exact ⟨sl, (N _ (.head _)).1⟩)
  rw [hfs] at T
  refine ⟨g', T, ⟨F.ns, S, by rw [z]; exact Nat.le_trans (Nat.le_of_eq (hideAll_size _ _).symm) F.above⟩, B', fun q hq => ⟨(N q (.tail _ hq)).1, (N q (.tail _ hq)).2.1, T.none_ _ ?_⟩⟩
  cases e : gB.get? q.1 with
  | none => rfl
  | some o =>
    have := hideAll_get [L] e (by simpa using hn q hq)
    rw [(N q (.tail _ hq)).2.2] at this; cases this
theorem turn_close {g' : Heap} (T : KtsTurn [L] gB g') (hL : gB.get? L = some oL) (F : Fr g' LB h m) (N : News g' LB h news) :
    ∃ sl, Fr (hideAll gB [L]) LB h m ∧ News (hideAll gB [L]) LB h ((L, { oL with slots := sl }) :: news) ∧ ∀ q ∈ news, @Ne Nat q.1 L := by
  obtain ⟨sl, hs⟩ := T.up hL
  have nLB : g'.get? LB = none := kts_self F
  have keep : ∀ b o, (hideAll gB [L]).get? b = some o → h.get? b = some o := fun b o e => by
    have hb : b ∉ [L] := fun q => by
      rw [hideAll_none _ q] at e; cases e
    exact F.keep _ _ (T.other b o (of_hideAll _ e) hb)
  refine ⟨sl, ⟨F.ns, keep, by rw [hideAll_size, ← T.size]; exact F.above⟩, fun q hq => ?_, fun q hq e => ?_⟩
  · rcases List.mem_cons.mp hq with rfl | hq
    · refine ⟨F.keep _ _ hs, fun e => ?_, hideAll_none _ (.head _)⟩
      dsimp only at e
      rw [e, nLB] at hs; cases hs
    · refine ⟨(N q hq).1, (N q hq).2.1, ?_⟩
      cases e : (hideAll gB [L]).get? q.1 with
      | none => rfl
      | some o =>
        obtain ⟨sl', hs'⟩ := T.up (of_hideAll _ e)
        rw [(N q hq).2.2] at hs'; cases hs'
  · have := (N q hq).2.2
    rw [show q.1 = L from e, hs] at this; cases this
end
structure InW (W l : List (Addr × Obj)) : Prop where
  out : ∀ x ∈ W, x ∈ l
theorem InW.of5 {h₀ h : Heap} {L : Addr} {a b c d e : Addr × Obj} {W : List (Addr × Obj)} (_N : News h₀ L h (a :: b :: c :: d :: e :: W)) : InW W (a :: b :: c :: d :: e :: W) := ⟨fun _ hx => .tail _ (.tail _ (.tail _ (.tail _ (.tail _ hx))))⟩
theorem InW.of4 {h₀ h : Heap} {L : Addr} {a b c d : Addr × Obj} {W : List (Addr × Obj)} (_N : News h₀ L h (a :: b :: c :: d :: W)) : InW W (a :: b :: c :: d :: W) := ⟨fun _ hx => .tail _ (.tail _ (.tail _ (.tail _ hx)))⟩
/-- a call out of the law's own frame that may raise and catch on its way -/
def CallsE (prog : Program) (w : World) (p : Program) (loose : List Str) (mean : ExcName → Option Value) (mg mb : Str → Option Value)
    (f : Addr) (d u : Nat) (news : List (Addr × Obj)) (vs : List Value) (kw : List (Str × Value)) (Post : Value → List (Addr × Obj) → Prop) : Prop :=
  ∀ (dp un : Nat) (gd : Option (List Code)) (cn : Str) (cs : Scope) (a : Addr) (ccd : Value) (cl : List (Str × Addr)) (A₀ : Around) (h₀ : Heap) (L : Addr) (m : Str → Option Value) (s : Shared) (Q E : Value → Shared → Prop),
    Below A₀ h₀ [] h₀ → Fr h₀ L s.heap m → (hd.heap_39 w.params).In h₀ → News h₀ L s.heap news → Top p loose mean mg mb h₀ → cs.kind = .function → dp + d < recursionLimit → un + u < cLine →
    (∀ v news' h' tk', Fr h₀ L h' m → News h₀ L h' news' → Post v news' → Q v { s with heap := h', toks := tk' }) →
    wpAny (model prog w) (ktrTop dp un gd cn cs L a ccd cl []) (call (.ref f) vs kw) Q E s
theorem CallsE.useE {prog : Program} {w : World} {p : Program} {loose : List Str} {mean : ExcName → Option Value} {mg mb : Str → Option Value} {f : Addr} {d u : Nat} {news : List (Addr × Obj)} {vs : List Value} {kw : List (Str × Value)} {Post : Value → List (Addr × Obj) → Prop} (C : CallsE prog w p loose mean mg mb f d u news vs kw Post)
    {dp un : Nat} {gd : Option (List Code)} {cn : Str} {cs : Scope} {a : Addr} {ccd : Value} {cl : List (Str × Addr)} {A₀ : Around} {h₀ : Heap} {L : Addr} {m : Str → Option Value} {s : Shared} {Q E : Value → Shared → Prop}
    (B : Below A₀ h₀ [] h₀) (F : Fr h₀ L s.heap m) (X : (Mine.hd.heap_39 w.params).In h₀) (N : News h₀ L s.heap news) (T : Top p loose mean mg mb h₀) (hk : cs.kind = .function) (hd : dp + d < recursionLimit) (hu : un + u < cLine)
    (ret : ∀ v nw h' tk', Fr h₀ L h' m → News h₀ L h' nw → Post v nw → Q v { s with heap := h', toks := tk' }) :
    wpAny (model prog w) (ktrTop dp un gd cn cs L a ccd cl []) (call (.ref f) vs kw) Q E s :=
  C _ _ _ _ _ _ _ _ _ _ _ _ _ _ _ B F X N T hk hd hu ret
end Mine
end
theorem Mine.flushC11b : True ∧ True := by
  w_top off
  first | (walk1; done) | exact ⟨trivial, trivial⟩
section
namespace Mine
theorem hdRef {w : World} {h : Heap} (X : (hd.heap_39 w.params).In h) : CodeHd h 114 112 := by
  refine ⟨_, _, _, _, _, _, _, _, _, X 114 _ (by k_is), rfl, rfl, rfl, rfl, rfl, rfl, rfl, rfl, by decide⟩
theorem cells_five {cm : Str → Option Value} {n₁ n₂ n₃ n₄ n₅ : Str} {c₁ c₂ c₃ c₄ c₅ : Addr} {cells : List (Addr × Obj)} (x : CellsAre cm [(n₁, c₁), (n₂, c₂), (n₃, c₃), (n₄, c₄), (n₅, c₅)] cells) :
    ∃ o₁ o₂ o₃ o₄ o₅, cells = [(c₁, o₁), (c₂, o₂), (c₃, o₃), (c₄, o₄), (c₅, o₅)] ∧ o₁.data = .cell (cm n₁) ∧ o₂.data = .cell (cm n₂) ∧ o₃.data = .cell (cm n₃) ∧ o₄.data = .cell (cm n₄) ∧ o₅.data = .cell (cm n₅) := by
  cases x with | cons h r => obtain ⟨o₃, o₄, o₅, o₆, rfl, h₃, h₄, h₅, h₆⟩ := r.four; exact ⟨_, o₃, o₄, o₅, o₆, rfl, h, h₃, h₄, h₅, h₆⟩
theorem turn_nil {h₀ h₀' h : Heap} {L : Addr} {m : Str → Option Value} {news : List (Addr × Obj)} (T : KtsTurn [] h₀ h₀') (F : Fr h₀' L h m) (N : News h₀' L h news) : Fr h₀ L h m ∧ News h₀ L h news := by
  refine ⟨⟨F.ns, fun b o e => F.keep b o (T.other b o e (List.not_mem_nil)), by rw [← T.size]; exact F.above⟩, fun q hq => ⟨(N q hq).1, (N q hq).2.1, ?_⟩⟩
  cases e : h₀.get? q.1 with
  | none => rfl
  | some o => have := T.other _ _ e (List.not_mem_nil); rw [(N q hq).2.2] at this; cases this
theorem packW {h₀ h : Heap} {L : Addr} {sl f3 c3 T3 f2 c2 T2 f1 c1 T1 f0 c0 T0 nl k5 k4 k3 k2 k1 tb ta ca pr : Addr} {osl of3 oc3 oT3 of2 oc2 oT2 of1 oc1 oT1 of0 oc0 oT0 onl ok5 ok4 ok3 ok2 ok1 otb ota oca opr : Obj} {rest : List (Addr × Obj)} (N : News h₀ L h ((sl, osl) :: (f3, of3) :: (c3, oc3) :: (T3, oT3) :: (f2, of2) :: (c2, oc2) :: (T2, oT2) :: (f1, of1) :: (c1, oc1) :: (T1, oT1) :: (f0, of0) :: (c0, oc0) :: (T0, oT0) :: (nl, onl) :: (k5, ok5) :: (k4, ok4) :: (k3, ok3) :: (k2, ok2) :: (k1, ok1) :: (tb, otb) :: (ta, ota) :: (ca, oca) :: (pr, opr) :: rest))
    (h2 : ∀ q ∈ (sl, osl) :: (f3, of3) :: (c3, oc3) :: (f2, of2) :: (c2, oc2) :: (f1, of1) :: (c1, oc1) :: (f0, of0) :: (c0, oc0) :: (nl, onl) :: (k5, ok5) :: (k4, ok4) :: (k3, ok3) :: (k2, ok2) :: (k1, ok1) :: (tb, otb) :: (ta, ota) :: (ca, oca) :: (pr, opr) :: rest, q.1 ≠ T2) (h3 : ∀ q ∈ (sl, osl) :: (f3, of3) :: (c3, oc3) :: (f2, of2) :: (c2, oc2) :: (f1, of1) :: (c1, oc1) :: (f0, of0) :: (c0, oc0) :: (nl, onl) :: (k5, ok5) :: (k4, ok4) :: (k3, ok3) :: (k2, ok2) :: (k1, ok1) :: (tb, otb) :: (ta, ota) :: (ca, oca) :: (pr, opr) :: rest, q.1 ≠ T3) :
    ∃ W, News h₀ L h ((T2, oT2) :: (T3, oT3) :: W) ∧ (∀ q ∈ W, q.1 ≠ T2) ∧ (∀ q ∈ W, q.1 ≠ T3) ∧ (∀ q ∈ rest, q ∈ W) ∧ (sl, osl) ∈ W ∧ (f3, of3) ∈ W ∧ (c3, oc3) ∈ W ∧ (f2, of2) ∈ W ∧ (c2, oc2) ∈ W ∧ (f1, of1) ∈ W ∧ (c1, oc1) ∈ W ∧ (f0, of0) ∈ W ∧ (c0, oc0) ∈ W ∧ (nl, onl) ∈ W ∧ (k5, ok5) ∈ W ∧ (k4, ok4) ∈ W ∧ (k3, ok3) ∈ W ∧ (k2, ok2) ∈ W ∧ (k1, ok1) ∈ W ∧ (tb, otb) ∈ W ∧ (ta, ota) ∈ W ∧ (ca, oca) ∈ W ∧ (pr, opr) ∈ W := by
  refine ⟨(sl, osl) :: (f3, of3) :: (c3, oc3) :: (f2, of2) :: (c2, oc2) :: (f1, of1) :: (c1, oc1) :: (f0, of0) :: (c0, oc0) :: (nl, onl) :: (k5, ok5) :: (k4, ok4) :: (k3, ok3) :: (k2, ok2) :: (k1, ok1) :: (tb, otb) :: (ta, ota) :: (ca, oca) :: (pr, opr) :: rest, cb_drop N (by kcf_all), h2, h3, fun q hq => by simp only [List.mem_cons, hq, or_true], by k_mem, by k_mem, by k_mem, by k_mem, by k_mem, by k_mem, by k_mem, by k_mem, by k_mem, by k_mem, by k_mem, by k_mem, by k_mem, by k_mem, by k_mem, by k_mem, by k_mem, by k_mem, by k_mem⟩
local macro_rules | `(tactic| k_all) => `(tactic| with_reducible assumption)
local macro_rules | `(tactic| k_mem) => `(tactic| first | (refine memL ?_; with_reducible assumption) | (refine memL (InW.out (by with_reducible assumption) _ ?_); with_reducible assumption))
local macro_rules | `(tactic| k_room) => `(tactic| ktr_room)
local macro_rules | `(tactic| units_room) => `(tactic| ktr_units)
local macro_rules | `(tactic| walk_at "my code") => `(tactic| (first | exact CodeHd.keeps (by with_reducible assumption) (Fr.keep (by k_asm)) | exact CodeObj.hd (by with_reducible assumption) (News.get (by k_asm) (by k_mem))))
local macro_rules | `(tactic| walk_at "eval Lambda") => `(tactic| (refine Stop.go ?_))
local macro_rules | `(tactic| walk_at "call ref") => `(tactic| ((with_reducible show wpAny _ _ (call (Value.ref _) [] []) _ _ _); refine Stop.go ?_))
local macro_rules | `(tactic| walk_at "call ref") => `(tactic| ((with_reducible show wpAny _ _ (call (Value.ref 110) _ _) _ _ _); refine Stop.go ?_))
local macro_rules | `(tactic| walk_at "my lv") => `(tactic| ((case k3 => assumption); (case kf => exact rfl); (case k2 => assumption); (case k1 => assumption); (case k4 => assumption); k_whole; intro h' S' R' U'; (try dsimp only at S' R' U' ⊢)))
local macro_rules | `(tactic| walk_at "leaving ref") => `(tactic| (k_here; first | (refine' leave_onX ?k1 ?kf ?k2 ?k3 ?k4 ?_; walk_at "my lv") | (refine' leave_onNX ?k1 ?kf ?k2 ?k3 ?k4 ?_; walk_at "my lv")))
local macro_rules | `(tactic| walk_at "LeaveT") => `(tactic| (refine Stop.go ?_))
local macro_rules | `(tactic| walk_at "CompSrc") => `(tactic| (refine Stop.go ?_))
local macro_rules | `(tactic| walk_at "CompEnd") => `(tactic| (refine Stop.go ?_))
local macro_rules | `(tactic| walk_at "eval ListComp") => `(tactic| (refine Stop.go ?_))
section
variable {prog : Program} {w : World} {p : Program} {loose : List Str} {mean : ExcName → Option Value} {mg mb : Str → Option Value}
theorem all_refused {ta ca pr : Addr} {n1 n2 n3 : Nat} {tv vs : List Value} {cs' : List Int} {rest : List (Addr × Obj)} {P0 P1 P2 P3 P4 : Int} {t0 t1 t2 t3 t4 tn : Tok} {lo : Int}
    (hI : IntsAre vs cs') (hl : cs'.length = 31) (hlo : lo < 0)
    (hP : ∀ p ∈ (ta, listOf tv.toArray n1) :: (ca, listOf vs.toArray n2) :: (pr, prL P0 P1 P2 P3 P4 t0 t1 t2 t3 t4 n3) :: rest, p.1 ≠ 112) :
    CallsE prog w p loose mean mg mb 115 8 512 ((112, tabObj #[]) :: (ta, listOf tv.toArray n1) :: (ca, listOf vs.toArray n2) :: (pr, prL P0 P1 P2 P3 P4 t0 t1 t2 t3 t4 n3) :: rest) [.ref ta, .ref ca, .ref pr, .int lo tn] []
      (fun v nw => v = .bool true ∧ ∃ ps', (112, tabObj ps') ∈ nw ∧ ∀ q ∈ rest, q ∈ nw) := by
  intro dp un gd cn cs a ccd cl A₀ h₀ L m s Q E B F X N T hk hd hu hret
  (refine wpAny_call ?_; k_dflt (refine' enterCT ?k1 ?k2 ?k3 ?k4 ?k5 ?kX ?kA ?kF ?kK ?k6 ?k7 ?k8 ?k9 ?kB ?kD ?_ ?c2 ?c3 ?c4; (case kA => exact rfl); (case kF => exact rfl); (case kK => assumption); (case k1 => k_asm); (case k2 => k_asm); (case k3 => k_asm); (case k4 => k_asm); (case k5 => k_asm); (case kX => exact ktsDicts_nil); (case k6 => k_is); (case k7 => k_is); (case k8 => ktr_room); (case k9 => first | exact BindsTo.of_eq rfl); (case kB => exact rfl); (case kD => decide +kernel); (case c2 => exact rfl); (case c3 => exact rfl); (case c4 => exact rfl); k_whole))
  intro gB LB hB tkB cellsB FGB FB NB YB BB XB TB DB lB
  obtain ⟨o1, o2, o3, o4, o5, hE, d1, d2, d3, d4, d5⟩ := cells_five YB
  subst hE
  clear YB
  have hC := hdRef XB
  simp only [List.cons_append, List.nil_append] at NB
  have rl : ∀ q ∈ rest, q.1 < LB := fun q hq => lB q (.tail _ (.tail _ (.tail _ (.tail _ hq))))
  have r112 : ∀ q ∈ rest, q.1 ≠ 112 := fun q hq => hP q (.tail _ (.tail _ (.tail _ hq)))
  have rta : @Ne Nat ta 112 := hP _ (.head _)
  have rca : @Ne Nat ca 112 := hP _ (.tail _ (.head _))
  have rpr : @Ne Nat pr 112 := hP _ (.tail _ (.tail _ (.head _)))
  have q1 : ∀ q ∈ rest, q.1 ≠ LB + 1 := fun q hq => Nat.ne_of_lt (Nat.lt_of_lt_of_le (rl q hq) (by omega))
  have q2 : ∀ q ∈ rest, q.1 ≠ LB + 1 + 1 := fun q hq => Nat.ne_of_lt (Nat.lt_of_lt_of_le (rl q hq) (by omega))
  have q3 : ∀ q ∈ rest, q.1 ≠ LB + 1 + 1 + 1 := fun q hq => Nat.ne_of_lt (Nat.lt_of_lt_of_le (rl q hq) (by omega))
  have q4 : ∀ q ∈ rest, q.1 ≠ LB + 1 + 1 + 1 + 1 := fun q hq => Nat.ne_of_lt (Nat.lt_of_lt_of_le (rl q hq) (by omega))
  have q5 : ∀ q ∈ rest, q.1 ≠ LB + 1 + 1 + 1 + 1 + 1 := fun q hq => Nat.ne_of_lt (Nat.lt_of_lt_of_le (rl q hq) (by omega))
  k_lt lB
  dsimp only
  try k_fold
  k_steps
  rename_i nl _ lnl _ oN _ _ dN
  refine Stop.out ?_
  k_dflt (refine' kla_eval ?y0d0 ?_; (case y0d0 => exact rfl))
  k_dflt (refine' lam_new ?y0F ?y0N ?y0T ?y0C ?y0cd ?y0U ?y0t ?y0n ?y0cl ?_; (case y0F => k_asm); (case y0N => k_asm); (case y0T => k_asm); (case y0cd => exact rfl); (case y0C => walk_at "my code"); (case y0U => k_updF); (case y0t => kn_triples); (case y0n => kn_among); (case y0cl => exact rfl); k_whole)
  intro f0 c0 T0 oc0 ct0 hz0 tz0 Fz0 Nz0 co0 a0 b0 e0 g0
  try dsimp only at Nz0
  try k_lt a0
  try k_lt b0
  try k_lt2 e0
  try k_lt2 g0
  k_steps
  refine Stop.out ?_
  k_dflt (refine' kla_eval ?y1d0 ?_; (case y1d0 => exact rfl))
  k_dflt (refine' lam_new ?y1F ?y1N ?y1T ?y1C ?y1cd ?y1U ?y1t ?y1n ?y1cl ?_; (case y1F => k_asm); (case y1N => k_asm); (case y1T => k_asm); (case y1cd => exact rfl); (case y1C => walk_at "my code"); (case y1U => k_updF); (case y1t => kn_triples); (case y1n => kn_among); (case y1cl => exact rfl); k_whole)
  intro f1 c1 T1 oc1 ct1 hz1 tz1 Fz1 Nz1 co1 a1 b1 e1 g1
  try dsimp only at Nz1
  try k_lt a1
  try k_lt b1
  try k_lt2 e1
  try k_lt2 g1
  k_steps
  refine Stop.out ?_
  k_dflt (refine' kla_eval ?y2d0 ?_; (case y2d0 => exact rfl))
  k_dflt (refine' lam_new ?y2F ?y2N ?y2T ?y2C ?y2cd ?y2U ?y2t ?y2n ?y2cl ?_; (case y2F => k_asm); (case y2N => k_asm); (case y2T => k_asm); (case y2cd => exact rfl); (case y2C => walk_at "my code"); (case y2U => k_updF); (case y2t => kn_triples); (case y2n => kn_among); (case y2cl => exact rfl); k_whole)
  intro f2 c2 T2 oc2 ct2 hz2 tz2 Fz2 Nz2 co2 a2 b2 e2 g2
  try dsimp only at Nz2
  try k_lt a2
  try k_lt b2
  try k_lt2 e2
  try k_lt2 g2
  k_steps
  refine Stop.out ?_
  k_dflt (refine' kla_eval ?y3d0 ?_; (case y3d0 => exact rfl))
  k_dflt (refine' lam_new ?y3F ?y3N ?y3T ?y3C ?y3cd ?y3U ?y3t ?y3n ?y3cl ?_; (case y3F => k_asm); (case y3N => k_asm); (case y3T => k_asm); (case y3cd => exact rfl); (case y3C => walk_at "my code"); (case y3U => k_updF); (case y3t => kn_triples); (case y3n => kn_among); (case y3cl => exact rfl); k_whole)
  intro f3 c3 T3 oc3 ct3 hz3 tz3 Fz3 Nz3 co3 a3 b3 e3 g3
  try dsimp only at Nz3
  try k_lt a3
  try k_lt b3
  try k_lt2 e3
  try k_lt2 g3
  k_steps
  rename_i sr _ lsl _ FQ NQ
  refine Stop.out ?_
  refine hideQE ?_
  intro QG EG hQG hEG
  refine Stop.go ?_
  have z2 : AllLt T2 rest := by obtain ⟨-, -, -, -, -, -, -, -, -, -, -, -, -, -, -, -, z⟩ := b2; exact z
  have z3 : AllLt T3 rest := by obtain ⟨-, -, -, -, -, -, -, -, -, -, -, -, -, -, -, -, -, -, -, z⟩ := b3; exact z
  have y2 : ∀ q ∈ rest, q.1 ≠ T2 := fun q hq => Nat.ne_of_lt (allLt_mem z2 q hq)
  have y3 : ∀ q ∈ rest, q.1 ≠ T3 := fun q hq => Nat.ne_of_lt (allLt_mem z3 q hq)
  have ne2 : c2 ≠ T2 := by obtain ⟨_, _, _, _, _, _, _, _, _, _, _, _, _, _, _, _, _, _, z⟩ := co2; exact z
  have ne3 : c3 ≠ T3 := by obtain ⟨_, _, _, _, _, _, _, _, _, _, _, _, _, _, _, _, _, _, z⟩ := co3; exact z
  obtain ⟨W, NW, nT2, nT3, msub, msl, mf3, mc3, mf2, mc2, mf1, mc1, mf0, mc0, mnl, mk5, mk4, mk3, mk2, mk1, mtb, mta, mca, mpr⟩ := packW NQ (List.forall_mem_cons.mpr ⟨by k_ne, (List.forall_mem_cons.mpr ⟨by k_ne, (List.forall_mem_cons.mpr ⟨by k_ne, (List.forall_mem_cons.mpr ⟨by k_ne, (List.forall_mem_cons.mpr ⟨by k_ne, (List.forall_mem_cons.mpr ⟨by k_ne, (List.forall_mem_cons.mpr ⟨by k_ne, (List.forall_mem_cons.mpr ⟨by k_ne, (List.forall_mem_cons.mpr ⟨by k_ne, (List.forall_mem_cons.mpr ⟨by k_ne, (List.forall_mem_cons.mpr ⟨by k_ne, (List.forall_mem_cons.mpr ⟨by k_ne, (List.forall_mem_cons.mpr ⟨by k_ne, (List.forall_mem_cons.mpr ⟨by k_ne, (List.forall_mem_cons.mpr ⟨by k_ne, (List.forall_mem_cons.mpr ⟨by k_ne, (List.forall_mem_cons.mpr ⟨by k_ne, (List.forall_mem_cons.mpr ⟨by k_ne, (List.forall_mem_cons.mpr ⟨by k_ne, y2⟩)⟩)⟩)⟩)⟩)⟩)⟩)⟩)⟩)⟩)⟩)⟩)⟩)⟩)⟩)⟩)⟩)⟩)⟩) (List.forall_mem_cons.mpr ⟨by k_ne, (List.forall_mem_cons.mpr ⟨by k_ne, (List.forall_mem_cons.mpr ⟨by k_ne, (List.forall_mem_cons.mpr ⟨by k_ne, (List.forall_mem_cons.mpr ⟨by k_ne, (List.forall_mem_cons.mpr ⟨by k_ne, (List.forall_mem_cons.mpr ⟨by k_ne, (List.forall_mem_cons.mpr ⟨by k_ne, (List.forall_mem_cons.mpr ⟨by k_ne, (List.forall_mem_cons.mpr ⟨by k_ne, (List.forall_mem_cons.mpr ⟨by k_ne, (List.forall_mem_cons.mpr ⟨by k_ne, (List.forall_mem_cons.mpr ⟨by k_ne, (List.forall_mem_cons.mpr ⟨by k_ne, (List.forall_mem_cons.mpr ⟨by k_ne, (List.forall_mem_cons.mpr ⟨by k_ne, (List.forall_mem_cons.mpr ⟨by k_ne, (List.forall_mem_cons.mpr ⟨by k_ne, (List.forall_mem_cons.mpr ⟨by k_ne, y3⟩)⟩)⟩)⟩)⟩)⟩)⟩)⟩)⟩)⟩)⟩)⟩)⟩)⟩)⟩)⟩)⟩)⟩)⟩)
  have T23 : @Ne Nat T2 T3 := by k_ne
  clear z2 z3 y2 y3 a0 b0 e0 g0 a1 b1 e1 g1 a2 b2 e2 g2 a3 b3 e3 g3 lsl lnl q1 q2 q3 q4 q5 rl lB NQ r112 ne2 ne3
  obtain ⟨oL, esL, epL, hL, -⟩ := FGB.ns
  obtain ⟨slq0, FG, NG, offL⟩ := turn_close (gB := gB) (L := L) KtsTurn.refl hL FQ NW
  clear NW FQ
  refine Stop.out ?_
  refine LCg.ListComp_U (F₀ := FG) (by with_unfolding_all rfl) (by decide) (by rfl) (by decide) (by rfl) ?_
  k_steps
  refine Stop.out ?_
  refine LCg.CompSrc.ledger (by rfl) FG NG (by k_mem) (by rw [PySem.sizeLine_eq]; exact of_decide_eq_true rfl) ?_
  intro gC
  -- turn 0
  refine LCg.CompRest.succ ?_
  clear FG NG
  intro v I oI C oC D m₂ h tk E' hv hCo hx F N off ne
  replace hv : some (Value.ref _) = some v := hv
  cases hv
  refine hideQ ?_
  intro QT hQT
  have hoff := off.mem
  have iT2 : @Ne Nat I T2 := Ne.symm (hoff _ (.tail _ (.head _))).1
  have jT2 : @Ne Nat C T2 := Ne.symm (hoff _ (.tail _ (.head _))).2.1
  have kT2 : @Ne Nat D T2 := Ne.symm (hoff _ (.tail _ (.head _))).2.2
  have iT3 : @Ne Nat I T3 := Ne.symm (hoff _ (.tail _ (.tail _ (.head _)))).1
  have jT3 : @Ne Nat C T3 := Ne.symm (hoff _ (.tail _ (.tail _ (.head _)))).2.1
  have kT3 : @Ne Nat D T3 := Ne.symm (hoff _ (.tail _ (.tail _ (.head _)))).2.2
  obtain ⟨gX, TX, FX, BX, NX⟩ := turn_open (news := (I, oI) :: (C, oC) :: (D, _) :: (T2, tabObj #[]) :: (T3, tabObj #[]) :: W) BB rfl hL F (cb_drop N (by kcf_all))
    (List.forall_mem_cons.mpr ⟨Ne.symm (hoff _ (.head _)).1, List.forall_mem_cons.mpr ⟨Ne.symm (hoff _ (.head _)).2.1, List.forall_mem_cons.mpr ⟨Ne.symm (hoff _ (.head _)).2.2, offL⟩⟩⟩)
  have XX := X.keeps BX.stays
  have TX' : Top p loose mean mg mb gX := T.keeps BX.stays
  have DX : KtsDicts (frs [envX cn cs L a ccd cl]) gX := DB.turn TX
  have iw := InW.of5 NX
  clear F N
  k_steps
  refine Stop.out ?_
  k_dflt (refine wpAny_call ?_)
  k_dflt (refine' enterT ?k1 ?k2 ?k3 ?k4 ?k5 ?kX ?kA ?kF ?kK ?k6 ?k7 ?k8 ?k9 ?kB ?_ ?c2 ?c3 ?c4 ?c5; (case kA => exact rfl); (case kF => exact rfl); (case kK => exact rfl); (case k1 => k_asm); (case k2 => k_asm); (case k3 => k_asm); (case k4 => k_asm); (case k5 => k_asm); (case kX => assumption); (case k6 => k_is); (case k7 => k_is); (case k9 => exact BindsTo.of_eq rfl); (case k8 => ktr_room); (case c5 => decide); (case kB => exact locs rfl); (case c2 => exact rfl); (case c3 => exact rfl); (case c4 => exact rfl); k_whole)
  intro gT LT hT FGT FT NT BT XT TT DT
  try dsimp only
  try k_lift BT
  try k_fold
  refine hideQ ?_
  intro QG hQG
  k_steps
  refine Stop.out ?_
  k_dflt (refine wpAny_call ?_)
  k_dflt (refine' kla_code ?k1 ?k2 ?k3 ?k4 ?k5 ?kA ?kF ?kK ?k6 ?k7 ?k8 ?k9 ?kB ?_ ?c2 ?c3 ?c4 ?c5; (case kA => exact rfl); (case kF => exact rfl); (case kK => exact rfl); (case k1 => k_asm); (case k2 => k_asm); (case k3 => k_asm); (case k4 => k_asm); (case k5 => k_asm); (case k6 => k_mem); (case k7 => exact CodeObj.code (by with_reducible assumption) (News.get (by k_asm) (by k_mem))); (case k9 => exact rfl); (case k8 => ktr_room); (case c5 => decide); (case kB => exact locs rfl); (case c2 => exact rfl); (case c3 => exact rfl); (case c4 => exact rfl); k_whole)
  intro gU LU hU FGU FU NU BU XU TU
  try dsimp only
  try k_lift BU
  try k_fold
  refine hideQ ?_
  intro QL hQL
  k_steps
  refine Stop.out ?_
  refine ⟨_, _, _, _, (by assumption), (by assumption), (by assumption), ?_⟩
  intro gY TY FY NY BY
  dsimp only
  k_steps
  obtain ⟨slq1, FG, NG, offC⟩ := turn_close (TX.trans TY) hL FY NY
  refine Stop.out (LCg.CompEnd.intro FG NG ((L, { oL with slots := slq1 }) :: (T2, tabObj #[]) :: (T3, tabObj #[]) :: W) (by kcf_all) (LCg.Off3.of (List.forall_mem_cons.mpr ⟨hoff (L, { oL with slots := slq0 }) (.head _), fun p hp => hoff p (.tail _ hp)⟩)) (.inr ⟨_, (.tail _ (.tail _ (.tail _ msl))), rfl, _, rfl⟩) ?_)
  replace offL : ∀ q ∈ (T2, tabObj #[]) :: (T3, tabObj #[]) :: W, @Ne Nat q.1 L := fun p hp => offL p hp
  clear iw offC TY FY NY BY hoff TX FX BX NX XX TX' DX iT2 jT2 kT2 iT3 jT3 kT3
  -- turn 1
  refine LCg.CompRest.succ ?_
  clear FG NG
  intro v I oI C oC D m₂ h tk E' hv hCo hx F N off ne
  replace hv : some (Value.ref _) = some v := hv
  cases hv
  refine hideQ ?_
  intro QT hQT
  have hoff := off.mem
  have iT2 : @Ne Nat I T2 := Ne.symm (hoff _ (.tail _ (.head _))).1
  have jT2 : @Ne Nat C T2 := Ne.symm (hoff _ (.tail _ (.head _))).2.1
  have kT2 : @Ne Nat D T2 := Ne.symm (hoff _ (.tail _ (.head _))).2.2
  have iT3 : @Ne Nat I T3 := Ne.symm (hoff _ (.tail _ (.tail _ (.head _)))).1
  have jT3 : @Ne Nat C T3 := Ne.symm (hoff _ (.tail _ (.tail _ (.head _)))).2.1
  have kT3 : @Ne Nat D T3 := Ne.symm (hoff _ (.tail _ (.tail _ (.head _)))).2.2
  obtain ⟨gX, TX, FX, BX, NX⟩ := turn_open (news := (I, oI) :: (C, oC) :: (D, _) :: (T2, tabObj #[]) :: (T3, tabObj #[]) :: W) BB rfl hL F (cb_drop N (by kcf_all))
    (List.forall_mem_cons.mpr ⟨Ne.symm (hoff _ (.head _)).1, List.forall_mem_cons.mpr ⟨Ne.symm (hoff _ (.head _)).2.1, List.forall_mem_cons.mpr ⟨Ne.symm (hoff _ (.head _)).2.2, offL⟩⟩⟩)
  have XX := X.keeps BX.stays
  have TX' : Top p loose mean mg mb gX := T.keeps BX.stays
  have DX : KtsDicts (frs [envX cn cs L a ccd cl]) gX := DB.turn TX
  have iw := InW.of5 NX
  clear F N
  k_steps
  refine Stop.out ?_
  k_dflt (refine wpAny_call ?_)
  k_dflt (refine' enterT ?k1 ?k2 ?k3 ?k4 ?k5 ?kX ?kA ?kF ?kK ?k6 ?k7 ?k8 ?k9 ?kB ?_ ?c2 ?c3 ?c4 ?c5; (case kA => exact rfl); (case kF => exact rfl); (case kK => exact rfl); (case k1 => k_asm); (case k2 => k_asm); (case k3 => k_asm); (case k4 => k_asm); (case k5 => k_asm); (case kX => assumption); (case k6 => k_is); (case k7 => k_is); (case k9 => exact BindsTo.of_eq rfl); (case k8 => ktr_room); (case c5 => decide); (case kB => exact locs rfl); (case c2 => exact rfl); (case c3 => exact rfl); (case c4 => exact rfl); k_whole)
  intro gT LT hT FGT FT NT BT XT TT DT
  try dsimp only
  try k_lift BT
  try k_fold
  refine hideQ ?_
  intro QG hQG
  k_steps
  refine Stop.out ?_
  k_dflt (refine wpAny_call ?_)
  k_dflt (refine' kla_code ?k1 ?k2 ?k3 ?k4 ?k5 ?kA ?kF ?kK ?k6 ?k7 ?k8 ?k9 ?kB ?_ ?c2 ?c3 ?c4 ?c5; (case kA => exact rfl); (case kF => exact rfl); (case kK => exact rfl); (case k1 => k_asm); (case k2 => k_asm); (case k3 => k_asm); (case k4 => k_asm); (case k5 => k_asm); (case k6 => k_mem); (case k7 => exact CodeObj.code (by with_reducible assumption) (News.get (by k_asm) (by k_mem))); (case k9 => exact rfl); (case k8 => ktr_room); (case c5 => decide); (case kB => exact locs rfl); (case c2 => exact rfl); (case c3 => exact rfl); (case c4 => exact rfl); k_whole)
  intro gU LU hU FGU FU NU BU XU TU
  try dsimp only
  try k_lift BU
  try k_fold
  refine hideQ ?_
  intro QL hQL
  k_steps
  refine Stop.out ?_
  refine ⟨_, _, _, _, (by assumption), (by assumption), (by assumption), ?_⟩
  intro gY TY FY NY BY
  dsimp only
  k_steps
  obtain ⟨slq2, FG, NG, offC⟩ := turn_close (TX.trans TY) hL FY NY
  refine Stop.out (LCg.CompEnd.intro FG NG ((L, { oL with slots := slq2 }) :: (T2, tabObj #[]) :: (T3, tabObj #[]) :: W) (by kcf_all) (LCg.Off3.of (List.forall_mem_cons.mpr ⟨hoff (L, { oL with slots := slq1 }) (.head _), fun p hp => hoff p (.tail _ hp)⟩)) (.inr ⟨_, (.tail _ (.tail _ (.tail _ msl))), rfl, _, rfl⟩) ?_)
  replace offL : ∀ q ∈ (T2, tabObj #[]) :: (T3, tabObj #[]) :: W, @Ne Nat q.1 L := fun p hp => offL p hp
  clear iw offC TY FY NY BY hoff TX FX BX NX XX TX' DX iT2 jT2 kT2 iT3 jT3 kT3
  -- turn 2
  refine LCg.CompRest.succ ?_
  clear FG NG
  intro v I oI C oC D m₂ h tk E' hv hCo hx F N off ne
  replace hv : some (Value.ref _) = some v := hv
  cases hv
  refine hideQ ?_
  intro QT hQT
  have hoff := off.mem
  have iT2 : @Ne Nat I T2 := Ne.symm (hoff _ (.tail _ (.head _))).1
  have jT2 : @Ne Nat C T2 := Ne.symm (hoff _ (.tail _ (.head _))).2.1
  have kT2 : @Ne Nat D T2 := Ne.symm (hoff _ (.tail _ (.head _))).2.2
  have iT3 : @Ne Nat I T3 := Ne.symm (hoff _ (.tail _ (.tail _ (.head _)))).1
  have jT3 : @Ne Nat C T3 := Ne.symm (hoff _ (.tail _ (.tail _ (.head _)))).2.1
  have kT3 : @Ne Nat D T3 := Ne.symm (hoff _ (.tail _ (.tail _ (.head _)))).2.2
  obtain ⟨gX, TX, FX, BX, NX⟩ := turn_open (news := (I, oI) :: (C, oC) :: (D, _) :: (T2, tabObj #[]) :: (T3, tabObj #[]) :: W) BB rfl hL F (cb_drop N (by kcf_all))
    (List.forall_mem_cons.mpr ⟨Ne.symm (hoff _ (.head _)).1, List.forall_mem_cons.mpr ⟨Ne.symm (hoff _ (.head _)).2.1, List.forall_mem_cons.mpr ⟨Ne.symm (hoff _ (.head _)).2.2, offL⟩⟩⟩)
  have XX := X.keeps BX.stays
  have TX' : Top p loose mean mg mb gX := T.keeps BX.stays
  have DX : KtsDicts (frs [envX cn cs L a ccd cl]) gX := DB.turn TX
  have iw := InW.of5 NX
  clear F N
  k_steps
  refine Stop.out ?_
  k_dflt (refine wpAny_call ?_)
  k_dflt (refine' enterT ?k1 ?k2 ?k3 ?k4 ?k5 ?kX ?kA ?kF ?kK ?k6 ?k7 ?k8 ?k9 ?kB ?_ ?c2 ?c3 ?c4 ?c5; (case kA => exact rfl); (case kF => exact rfl); (case kK => exact rfl); (case k1 => k_asm); (case k2 => k_asm); (case k3 => k_asm); (case k4 => k_asm); (case k5 => k_asm); (case kX => assumption); (case k6 => k_is); (case k7 => k_is); (case k9 => exact BindsTo.of_eq rfl); (case k8 => ktr_room); (case c5 => decide); (case kB => exact locs rfl); (case c2 => exact rfl); (case c3 => exact rfl); (case c4 => exact rfl); k_whole)
  intro gT LT hT FGT FT NT BT XT TT DT
  try dsimp only
  try k_lift BT
  try k_fold
  refine hideQ ?_
  intro QG hQG
  k_steps
  refine Stop.out ?_
  k_dflt (refine wpAny_call ?_)
  k_dflt (refine' kla_code ?k1 ?k2 ?k3 ?k4 ?k5 ?kA ?kF ?kK ?k6 ?k7 ?k8 ?k9 ?kB ?_ ?c2 ?c3 ?c4 ?c5; (case kA => exact rfl); (case kF => exact rfl); (case kK => exact rfl); (case k1 => k_asm); (case k2 => k_asm); (case k3 => k_asm); (case k4 => k_asm); (case k5 => k_asm); (case k6 => k_mem); (case k7 => exact CodeObj.code (by with_reducible assumption) (News.get (by k_asm) (by k_mem))); (case k9 => exact rfl); (case k8 => ktr_room); (case c5 => decide); (case kB => exact locs rfl); (case c2 => exact rfl); (case c3 => exact rfl); (case c4 => exact rfl); k_whole)
  intro gU LU hU FGU FU NU BU XU TU
  try dsimp only
  try k_lift BU
  try k_fold
  refine hideQ ?_
  intro QL hQL
  k_steps
  refine Stop.out ?_
  k_dflt (refine' kla_eval ?y4d0 ?_; (case y4d0 => exact rfl))
  k_dflt (refine' lam_new ?y4F ?y4N ?y4T ?y4C ?y4cd ?y4U ?y4t ?y4n ?y4cl ?_; (case y4F => k_asm); (case y4N => k_asm); (case y4T => k_asm); (case y4cd => exact rfl); (case y4C => walk_at "my code"); (case y4U => k_updF); (case y4t => kn_triples); (case y4n => kn_among); (case y4cl => exact rfl); k_whole)
  intro f9 c9 T9 oc9 ct9 hz9 tz9 Fz9 Nz9 co9 a9 b9 e9 g9
  try dsimp only at Nz9
  try k_lt a9
  try k_lt b9
  try k_lt2 e9
  try k_lt2 g9
  k_steps
  refine Stop.out ?_
  refine ⟨_, _, _, _, (by assumption), (by assumption), (by assumption), ?_⟩
  intro gY TY FY NY BY
  dsimp only
  k_steps
  obtain ⟨slq3, FG, NG, offC⟩ := turn_close (TX.trans TY) hL FY NY
  refine Stop.out (LCg.CompEnd.intro FG NG ((L, { oL with slots := slq3 }) :: (T3, tabObj #[]) :: W) (by kcf_all) (LCg.Off3.of (List.forall_mem_cons.mpr ⟨hoff (L, { oL with slots := slq2 }) (.head _), fun p hp => hoff p (.tail _ (.tail _ hp))⟩)) (.inr ⟨_, (.tail _ (.tail _ msl)), rfl, _, rfl⟩) ?_)
  replace offL : ∀ q ∈ (T3, tabObj #[]) :: W, @Ne Nat q.1 L := fun p hp => offL p (.tail _ hp)
  clear iw offC TY FY NY BY hoff TX FX BX NX XX TX' DX iT2 jT2 kT2 iT3 jT3 kT3
  -- turn 3
  refine LCg.CompRest.succ ?_
  clear FG NG
  intro v I oI C oC D m₂ h tk E' hv hCo hx F N off ne
  replace hv : some (Value.ref _) = some v := hv
  cases hv
  refine hideQ ?_
  intro QT hQT
  have hoff := off.mem
  have iT3 : @Ne Nat I T3 := Ne.symm (hoff _ (.tail _ (.head _))).1
  have jT3 : @Ne Nat C T3 := Ne.symm (hoff _ (.tail _ (.head _))).2.1
  have kT3 : @Ne Nat D T3 := Ne.symm (hoff _ (.tail _ (.head _))).2.2
  obtain ⟨gX, TX, FX, BX, NX⟩ := turn_open (news := (I, oI) :: (C, oC) :: (D, _) :: (T3, tabObj #[]) :: W) BB rfl hL F (cb_drop N (by kcf_all))
    (List.forall_mem_cons.mpr ⟨Ne.symm (hoff _ (.head _)).1, List.forall_mem_cons.mpr ⟨Ne.symm (hoff _ (.head _)).2.1, List.forall_mem_cons.mpr ⟨Ne.symm (hoff _ (.head _)).2.2, offL⟩⟩⟩)
  have XX := X.keeps BX.stays
  have TX' : Top p loose mean mg mb gX := T.keeps BX.stays
  have DX : KtsDicts (frs [envX cn cs L a ccd cl]) gX := DB.turn TX
  have iw := InW.of4 NX
  clear F N
  k_steps
  refine Stop.out ?_
  k_dflt (refine wpAny_call ?_)
  k_dflt (refine' enterT ?k1 ?k2 ?k3 ?k4 ?k5 ?kX ?kA ?kF ?kK ?k6 ?k7 ?k8 ?k9 ?kB ?_ ?c2 ?c3 ?c4 ?c5; (case kA => exact rfl); (case kF => exact rfl); (case kK => exact rfl); (case k1 => k_asm); (case k2 => k_asm); (case k3 => k_asm); (case k4 => k_asm); (case k5 => k_asm); (case kX => assumption); (case k6 => k_is); (case k7 => k_is); (case k9 => exact BindsTo.of_eq rfl); (case k8 => ktr_room); (case c5 => decide); (case kB => exact locs rfl); (case c2 => exact rfl); (case c3 => exact rfl); (case c4 => exact rfl); k_whole)
  intro gT LT hT FGT FT NT BT XT TT DT
  try dsimp only
  try k_lift BT
  try k_fold
  refine hideQ ?_
  intro QG hQG
  k_steps
  refine Stop.out ?_
  k_dflt (refine wpAny_call ?_)
  k_dflt (refine' kla_code ?k1 ?k2 ?k3 ?k4 ?k5 ?kA ?kF ?kK ?k6 ?k7 ?k8 ?k9 ?kB ?_ ?c2 ?c3 ?c4 ?c5; (case kA => exact rfl); (case kF => exact rfl); (case kK => exact rfl); (case k1 => k_asm); (case k2 => k_asm); (case k3 => k_asm); (case k4 => k_asm); (case k5 => k_asm); (case k6 => k_mem); (case k7 => exact CodeObj.code (by with_reducible assumption) (News.get (by k_asm) (by k_mem))); (case k9 => exact rfl); (case k8 => ktr_room); (case c5 => decide); (case kB => exact locs rfl); (case c2 => exact rfl); (case c3 => exact rfl); (case c4 => exact rfl); k_whole)
  intro gU LU hU FGU FU NU BU XU TU
  try dsimp only
  try k_lift BU
  try k_fold
  refine hideQ ?_
  intro QL hQL
  k_steps
  refine Stop.out ?_
  k_dflt (refine' kla_eval ?y5d0 ?_; (case y5d0 => exact rfl))
  k_dflt (refine' lam_new ?y5F ?y5N ?y5T ?y5C ?y5cd ?y5U ?y5t ?y5n ?y5cl ?_; (case y5F => k_asm); (case y5N => k_asm); (case y5T => k_asm); (case y5cd => exact rfl); (case y5C => walk_at "my code"); (case y5U => k_updF); (case y5t => kn_triples); (case y5n => kn_among); (case y5cl => exact rfl); k_whole)
  intro f9 c9 T9 oc9 ct9 hz9 tz9 Fz9 Nz9 co9 a9 b9 e9 g9
  try dsimp only at Nz9
  try k_lt a9
  try k_lt b9
  try k_lt2 e9
  try k_lt2 g9
  k_steps
  refine Stop.out ?_
  refine ⟨_, _, _, _, (by assumption), (by assumption), (by assumption), ?_⟩
  intro gY TY FY NY BY
  dsimp only
  k_steps
  obtain ⟨slq4, FG, NG, offC⟩ := turn_close (TX.trans TY) hL FY NY
  refine Stop.out (LCg.CompEnd.intro FG NG ((L, { oL with slots := slq4 }) :: W) (by kcf_all) (LCg.Off3.of (List.forall_mem_cons.mpr ⟨hoff (L, { oL with slots := slq3 }) (.head _), fun p hp => hoff p (.tail _ (.tail _ hp))⟩)) (.inr ⟨_, (.tail _ msl), rfl, _, rfl⟩) ?_)
  replace offL : ∀ q ∈ W, @Ne Nat q.1 L := fun p hp => offL p (.tail _ hp)
  clear iw offC TY FY NY BY hoff TX FX BX NX XX TX' DX iT3 jT3 kT3
  refine LCg.CompRest.zero ?_
  clear FG NG
  k_steps
  rename News _ _ _ _ => NF
  rename Fr _ _ _ _ => FF
  obtain ⟨gZ, TZ, FZ, BZ, NZ⟩ := turn_open (news := W) BB rfl hL FF (cb_drop NF (by kcf_all)) (fun q hq => offL q hq)
  refine Stop.out ⟨gZ, LB, _, W, TZ, FZ, NZ, ?_⟩
  intro hY TY FY NY _
  obtain ⟨F9, N9⟩ := turn_nil TY FY NY
  exact hret _ _ _ _ F9 N9 ⟨rfl, _, mtb, msub⟩
end
end Mine
end
theorem Mine.flushC11 : True ∧ True := by
  w_top off
  first | (walk1; done) | exact ⟨trivial, trivial⟩
section
open PySem PySem.Calls PySem.W PyProof.Rows
namespace Mine
section
variable {prog : Program} {w : World} {p : Program} {loose : List Str} {mean : ExcName → Option Value} {mg mb : Str → Option Value}
theorem codes' {news : List (Addr × Obj)} {total : Int} {t : Tok} :
    Calls prog w p loose mean mg mb 79 1 8 news [.int total t] []
      (fun v nw => ∃ l vs r, v = .ref l ∧ IntsAre vs (r.map fun n : Nat => (n : Int)) ∧ okRow r = true ∧ nw = (l, listOf (List.toArray vs) 0) :: news ∧ ∀ p ∈ news, p.1 < l) :=
  codes.conv (fun _ h => h) (by
    rintro v nw ⟨l, vs, rfl, hI, rfl, hlt⟩
    obtain ⟨r, hr, hok⟩ := sums_row total
    rw [hr] at hI
    exact ⟨_, fun _ h => h, l, vs, r, rfl, hI, hok, rfl, hlt⟩)
end
theorem okRow_len {r : List Nat} (h : okRow r = true) : r.length = 31 := by
  simp only [okRow, Bool.and_eq_true, decide_eq_true_eq] at h
  exact h.1.1
theorem okRow_at {r : List Nat} (h : okRow r = true) {c : Nat} (hc : c ∈ r) : 1 ≤ c ∧ c < 4096 := by
  simp only [okRow, Bool.and_eq_true, List.all_eq_true, decide_eq_true_eq] at h
  exact h.1.2 c hc
theorem okRow_get {r : List Nat} (h : okRow r = true) {i : Nat} (hi : i < 31) : 1 ≤ r.getD i 0 ∧ r.getD i 0 < 4096 := by
  have := okRow_len h
  rw [List.getD_eq_getElem?_getD, List.getElem?_eq_getElem (by omega)]
  exact okRow_at h (List.getElem_mem _)
theorem okRow_mono {r : List Nat} (h : okRow r = true) {P0 P1 P2 P3 P4 : Int} (h0 : 0 ≤ P0) (h1 : 0 ≤ P1) (h2 : 0 ≤ P2) (h3 : 0 ≤ P3) (h4 : 0 ≤ P4) : MonoC fun i => costOf P0 P1 P2 P3 P4 ((r.getD i 0 : Nat) : Int) := by
  intro i j hi hj hs
  simp only [okRow, Bool.and_eq_true, List.all_eq_true, List.mem_range] at h
  have := h.2 i hi j hj
  rw [hs] at this
  exact costOf_mono h0 h1 h2 h3 h4 (by simpa using this)
theorem ints_at {vs : List Value} {r : List Nat} (hI : IntsAre vs (r.map fun n : Nat => (n : Int))) {i : Nat} (hi : i < r.length) : ∃ t, vs[i]? = some (.int ((r.getD i 0 : Nat) : Int) t) := by
  obtain ⟨v, hv⟩ : ∃ v, vs[i]? = some v := ⟨_, List.getElem?_eq_getElem (by rw [hI.length, List.length_map]; exact hi)⟩
  obtain ⟨k, t, rfl, hk⟩ := IntsAre.at hI i v hv
  rw [List.getElem?_map, List.getElem?_eq_getElem hi] at hk
  refine ⟨t, ?_⟩
  rw [hv, List.getD_eq_getElem?_getD, List.getElem?_eq_getElem hi]
  rw [← Option.some.inj hk]; rfl
theorem exI {vs : List Value} {ns : List Int} (h : IntsAre vs ns) : ∃ vs' ns', IntsAre vs' ns' ∧ vs' = vs ∧ ns' = ns := ⟨vs, ns, h, rfl, rfl⟩
theorem cost_int' {news : List (Addr × Obj)} {pr : Addr} {n1 : Nat} {P0 P1 P2 P3 P4 c : Int} {t0 t1 t2 t3 t4 t : Tok} {prog : Program} {w : World} {p : Program} {loose : List Str} {mean : ExcName → Option Value} {mg mb : Str → Option Value}
    (hm : (pr, prL P0 P1 P2 P3 P4 t0 t1 t2 t3 t4 n1) ∈ news) (h0 : 0 ≤ c) (h1 : c < 4096) (b0 : 0 ≤ P0 ∧ P0 < 100) (b1 : 0 ≤ P1 ∧ P1 < 100) :
    Calls prog w p loose mean mg mb 93 1 8 news [.int c t, .ref pr] [] (fun v nw => nw = news ∧ ∃ tk : Tok, v = .int (costOf P0 P1 P2 P3 P4 c) tk) :=
  (cost_int (rest := news) h0 h1 b0 b1).conv (dup_sub hm) (by rintro v nw ⟨rfl, tk, rfl⟩; exact ⟨news, fun q hq => .tail _ hq, rfl, tk, rfl⟩)
/-- a loop over a list of ints, of any length, by what holds of the ledger -/
theorem list_ind {prog : Program} {w : World} {A : Around} {E : Value → Shared → Prop} {h₀ : Heap} {env : Env} {x : Str} {body : List Stmt} {Q : Flow → Shared → Prop} {s : Shared} {I : Addr} {lp : Addr × Obj} {m0 : Str → Option Value} (J : List (Addr × Obj) → Prop)
    (turn : ∀ k t nw it h tk, J nw → it.cls = .type "list_iterator" → Fr h₀ env.locals h (fun y => if y = x then some (.int k t) else m0 y) → News h₀ env.locals h ((I, it) :: nw) →
      wpAny (model prog w) A (execs body env) (UnrPost h₀ env.locals { s with heap := h, toks := tk } I it (fun m' n' => lp ∈ n' ∧ (∀ y, y ≠ x → m' y = m0 y) ∧ J n') Q) E { s with heap := h, toks := tk })
    (fin : ∀ v nw h tk, J nw → Fr h₀ env.locals h (fun y => if y = x then v else m0 y) → News h₀ env.locals h nw → Q .next { s with heap := h, toks := tk }) :
    ∀ {vs : List Value} {xs : List Int}, IntsAre vs xs → ∀ m1 nw, (∀ y, y ≠ x → m1 y = m0 y) → J nw → ListRest prog w A E h₀ env x body Q s I lp vs m1 nw := by
  intro vs
  induction vs with
  | nil =>
    intro xs hI m1 nw hm hJ
    refine ListRest.zero fun h tk F N => fin (m1 x) nw h tk hJ ?_ N
    have e : m1 = fun y => if y = x then m1 x else m0 y := by
      funext y
      by_cases hy : y = x
      · rw [if_pos hy, hy]
      · rw [if_neg hy, hm y hy]
    rw [e] at F
    simpa using F
  | cons v vs ih =>
    intro xs hI m1 nw hm hJ
    cases hI with
    | cons k t hI =>
      refine ListRest.succ fun it h tk hc F N => ?_
      have e : (fun y => if y = x then some (Value.int k t) else m1 y) = fun y => if y = x then some (Value.int k t) else m0 y := by
        funext y
        by_cases hy : y = x
        · rw [if_pos hy, if_pos hy]
        · rw [if_neg hy, if_neg hy, hm y hy]
      rw [e] at F
      refine wpAny_mono (turn k t nw it h tk hJ hc F N) (fun f s₂ p => ?_) fun _ _ e => e
      have up : UnrEnd h₀ env.locals { s with heap := h, toks := tk } I it (fun m' n' => lp ∈ n' ∧ (∀ y, y ≠ x → m' y = m0 y) ∧ J n') s₂ →
          UnrEnd h₀ env.locals { s with heap := h, toks := tk } I it (fun m' n' => lp ∈ n' ∧ ListRest prog w A E h₀ env x body Q s I lp vs m' n') s₂ := by
        rintro ⟨h', tk', m', nw', e, F', N', off, hl, hm', hJ'⟩
        exact ⟨h', tk', m', nw', e, F', N', off, hl, ih hI m' nw' hm' hJ'⟩
      cases f with
      | ret v => exact p
      | brk => exact p
      | next => exact up p
      | cont => exact up p
theorem loop_pack {h₀ h : Heap} {L I : Addr} {it : Obj} {ps' : Array Value} {cods' rest' rest base : List (Addr × Obj)} {a b c : Addr × Obj} {qual : Str}
    (N : News h₀ L h ((117, tabObj ps') :: a :: b :: c :: rest')) (hit : it.cls = .type "list_iterator") (hT : TabInv cods' ps' qual) (hsc : ∀ q ∈ cods', q ∈ rest') (hsub : ∀ q ∈ (I, it) :: rest, q ∈ rest') (hbase : ∀ q ∈ base, q ∈ rest)
    (h117 : @Ne Nat 117 I) (ha : @Ne Nat a.1 I) (hb : @Ne Nat b.1 I) (hc : @Ne Nat c.1 I) (hbI : ∀ q ∈ base, @Ne Nat q.1 I) (hP : ∀ p ∈ a :: b :: c :: rest', p.1 ≠ 117) :
    ∃ cods'' rest'', (∀ p ∈ (I, it) :: (117, tabObj ps') :: a :: b :: c :: rest'', p ∈ (117, tabObj ps') :: a :: b :: c :: rest') ∧ (∀ p ∈ (117, tabObj ps') :: a :: b :: c :: rest'', p.1 ≠ I) ∧ TabInv cods'' ps' qual ∧ (∀ q ∈ cods'', q ∈ rest'') ∧ (∀ q ∈ base, q ∈ rest'') ∧
      ∀ p ∈ a :: b :: c :: rest'', p.1 ≠ 117 := by
  have up : ∀ q ∈ rest', q ∈ (117, tabObj ps') :: a :: b :: c :: rest' := fun q hq => .tail _ (.tail _ (.tail _ (.tail _ hq)))
  have mI := up _ (hsub _ (.head _))
  have fl : ∀ {l : List (Addr × Obj)} {q : Addr × Obj}, q ∈ l.filter (fun q => !Nat.beq q.1 I) ↔ q ∈ l ∧ @Ne Nat q.1 I := fun {l q} => by
    rw [List.mem_filter, Bool.not_eq_true', ← Bool.not_eq_true, Nat.beq_eq]
  refine ⟨cods'.filter (fun q => !Nat.beq q.1 I), rest'.filter (fun q => !Nat.beq q.1 I), ?_, ?_, ⟨hT.1, fun pos v e => ?_⟩, fun q hq => ?_, fun q hq => ?_, ?_⟩
  · refine List.forall_mem_cons.mpr ⟨mI, List.forall_mem_cons.mpr ⟨.head _, List.forall_mem_cons.mpr ⟨.tail _ (.head _), List.forall_mem_cons.mpr ⟨.tail _ (.tail _ (.head _)), List.forall_mem_cons.mpr ⟨.tail _ (.tail _ (.tail _ (.head _))), fun q hq => up _ (fl.mp hq).1⟩⟩⟩⟩⟩
  · exact List.forall_mem_cons.mpr ⟨h117, List.forall_mem_cons.mpr ⟨ha, List.forall_mem_cons.mpr ⟨hb, List.forall_mem_cons.mpr ⟨hc, fun q hq => (fl.mp hq).2⟩⟩⟩⟩
  · obtain ⟨c', oc, vs, t, r1, r2, rc, r3⟩ := hT.2 pos v e
    refine ⟨c', oc, vs, t, r1, fl.mpr ⟨r2, obj_ne N (up _ (hsc _ r2)) mI fun q => ?_⟩, rc, r3⟩
    rw [q, hit] at rc
    exact absurd rc (by decide)
  · exact fl.mpr ⟨hsc q (fl.mp hq).1, (fl.mp hq).2⟩
  · exact fl.mpr ⟨hsub q (.tail _ (hbase q hq)), hbI q hq⟩
  · refine List.forall_mem_cons.mpr ⟨hP _ (.head _), List.forall_mem_cons.mpr ⟨hP _ (.tail _ (.head _)), List.forall_mem_cons.mpr ⟨hP _ (.tail _ (.tail _ (.head _))), fun q hq => hP q (.tail _ (.tail _ (.tail _ (fl.mp hq).1)))⟩⟩⟩
theorem costs_at {r : List Nat} (hl : r.length = 31) {f : Int → Int} : ∀ i, i < 31 → ((r.map fun n : Nat => (n : Int)).map f).getD i 0 = f ((r.getD i 0 : Nat) : Int) := by
  intro i hi
  rw [List.getD_eq_getElem?_getD, List.getD_eq_getElem?_getD, List.getElem?_map, List.getElem?_map, List.getElem?_eq_getElem (by omega)]
  rfl
/-- one item more -/
theorem things_snoc {ys : List Value} {r : List Nat} {i : Nat} {y : Value} (hl : ys.length = i) (h : ∀ j, j < i → Thing (ys.getD j .none) ((r.getD j 0 : Nat) : Int)) (hy : Thing y ((r.getD i 0 : Nat) : Int)) :
    (ys ++ [y]).length = i + 1 ∧ ∀ j, j < i + 1 → Thing ((ys ++ [y]).getD j .none) ((r.getD j 0 : Nat) : Int) := by
  refine ⟨by rw [List.length_append, hl]; rfl, fun j hj => ?_⟩
  by_cases e : j < i
  · rw [List.getD_eq_getElem?_getD, List.getElem?_append_left (by omega), ← List.getD_eq_getElem?_getD]; exact h j e
  · obtain rfl : j = i := by omega
    rw [List.getD_eq_getElem?_getD, List.getElem?_append_right (by omega), hl, Nat.sub_self]; exact hy
theorem packL {h₀ h : Heap} {L : Addr} {Dl Dam Dsl ca ta lc pr k2 k1 t2 : Addr} {oDl oDam oDsl oca ota olc opr ok2 ok1 ott ot2 : Obj} (N : News h₀ L h ((Dl, oDl) :: (Dam, oDam) :: (Dsl, oDsl) :: (ca, oca) :: (ta, ota) :: (lc, olc) :: (pr, opr) :: (k2, ok2) :: (k1, ok1) :: (117, ott) :: (t2, ot2) :: [])) (hne : ∀ p ∈ (Dl, oDl) :: (Dam, oDam) :: (Dsl, oDsl) :: (lc, olc) :: (k2, ok2) :: (k1, ok1) :: (t2, ot2) :: [], @Ne Nat p.1 117) (h1 : @Ne Nat ta 117) (h2 : @Ne Nat ca 117) (h3 : @Ne Nat pr 117) :
    ∃ base, News h₀ L h ((117, ott) :: (ta, ota) :: (ca, oca) :: (pr, opr) :: base) ∧ (Dl, oDl) ∈ base ∧ (k2, ok2) ∈ base ∧ (k1, ok1) ∈ base ∧ (t2, ot2) ∈ base ∧ ∀ p ∈ (ta, ota) :: (ca, oca) :: (pr, opr) :: base, p.1 ≠ 117 :=
  ⟨(Dl, oDl) :: (Dam, oDam) :: (Dsl, oDsl) :: (lc, olc) :: (k2, ok2) :: (k1, ok1) :: (t2, ot2) :: [], cb_drop N (by kcf_all), by k_mem, by k_mem, by k_mem, by k_mem, List.forall_mem_cons.mpr ⟨h1, List.forall_mem_cons.mpr ⟨h2, List.forall_mem_cons.mpr ⟨h3, hne⟩⟩⟩⟩
theorem exL {h₀ h : Heap} {L : Addr} {Dl Dam Dsl ca ta : Addr} {oDl oDam oDsl oca ota : Obj} {l : List (Addr × Obj)} (_N : News h₀ L h ((Dl, oDl) :: (Dam, oDam) :: (Dsl, oDsl) :: (ca, oca) :: (ta, ota) :: l)) : ∃ Dl' ca' ta' : Addr, Dl' = Dl ∧ ca' = ca ∧ ta' = ta := ⟨Dl, ca, ta, rfl, rfl, rfl⟩
end Mine
end
theorem Mine.flushC12a : True ∧ True := by
  w_top off
  first | (walk1; done) | exact ⟨trivial, trivial⟩
section
open PySem PySem.Calls PySem.W PyProof.Rows
namespace Mine
local macro_rules | `(tactic| walk_at "call ref") => `(tactic| (refine Stop.go ?_))
local macro_rules | `(tactic| walk_at "CompSrc") => `(tactic| (refine Stop.go ?_))
local macro_rules | `(tactic| walk_at "CompEnd") => `(tactic| (refine Stop.go ?_))
local macro_rules | `(tactic| walk_at "UnrEnd") => `(tactic| (refine Stop.go ?_))
local macro_rules | `(tactic| walk_at "subscriptTail") => `(tactic| (refine Stop.go ?_))
local macro_rules | `(tactic| walk_at "subscriptTail Name Name ref int") => `(tactic| (refine Stop.go ?_))
local macro_rules | `(tactic| walk_at "exec For Name BinOp cons nil") => `(tactic| (k_here; (rename Fr _ _ _ _ => lF'); (with_unfolding_all refine' For_invVF lF' ?k1 ?k2 ?_; (case k1 => exact rfl); (case k2 => exact rfl); k_whole)))
local macro_rules | `(tactic| walk_at "pyIter ref") => `(tactic| (refine Stop.go ?_))
local macro_rules | `(tactic| k_mem) => `(tactic| (refine memL ?_; with_reducible assumption))
local macro_rules | `(tactic| walk_at "eval ListComp") => `(tactic| (k_here; k_dflt (refine LCg.ListComp_U (F₀ := by k_asm) (by with_unfolding_all rfl) (by decide) (by rfl) (by decide) (by rfl) ?_)))
local macro_rules | `(tactic| walk_at "exec Assign cons ListComp") => `(tactic| (k_here; k_dflt (refine LCg.Assign_ListComp_U (F₀ := by k_asm) (by rfl) (by with_unfolding_all rfl) (by with_unfolding_all rfl) (by decide) (by rfl) (by decide) (by rfl) (by rfl) (by rfl) ?_)))
theorem pr0 (n : Int) : 0 ≤ 1 + n.fmod 7 ∧ 1 + n.fmod 7 < 100 := by
  have := fmod_lo n (n := 7) (by decide)
  have := fmod_hi n (n := 7) (by decide)
  omega
theorem pr1 (n : Int) : 0 ≤ n.fmod 2 ∧ n.fmod 2 < 100 := by
  have := fmod_lo n (n := 2) (by decide)
  have := fmod_hi n (n := 2) (by decide)
  omega
theorem top : PySem.Challenge.rw_pk0048_01.Holds := hd (by
  k_go0
  rename IntsAre _ _ => hI0
  obtain ⟨vs0, ns, hIs, e1, e2⟩ := exI hI0
  subst e1
  subst e2
  all_goals try k_fold
  k_steps
  rename_i pr _ lpr _ och Fz Nz dch
  refine Stop.out ?_
  refine hideQ ?_
  intro QH1 hQH1
  refine Stop.go ?_
  refine Stop.out (codes'.useP (by k_asm) (by k_asm) (by k_asm) (by k_asm) (by k_asm) rfl (by ktr_room) (by ktr_units) ?_)
  rintro _ _ h1 tk1 F1 N1 ⟨lc, vc, r, rfl, hIc, hok, rfl, hlc⟩
  have hrl := okRow_len hok
  obtain ⟨P0, hP0⟩ : ∃ P, P = 1 + ns.sum.fmod 7 := ⟨_, rfl⟩
  obtain ⟨P1, hP1⟩ : ∃ P, P = (ns.sum.fdiv 16).fmod 2 := ⟨_, rfl⟩
  obtain ⟨P2, hP2⟩ : ∃ P, P = ns.sum.fmod 31 := ⟨_, rfl⟩
  obtain ⟨P3, hP3⟩ : ∃ P, P = ns.sum.fmod 47 := ⟨_, rfl⟩
  obtain ⟨P4, hP4⟩ : ∃ P, P = ns.sum.fmod 25 := ⟨_, rfl⟩
  rw [← hP0, ← hP1, ← hP2, ← hP3, ← hP4] at N1
  have b0 : 0 ≤ P0 ∧ P0 < 100 := by rw [hP0]; exact pr0 _
  have b1 : 0 ≤ P1 ∧ P1 < 100 := by rw [hP1]; exact pr1 _
  have b2 : 0 ≤ P2 := by rw [hP2]; exact fmod_lo ns.sum (n := 31) (by decide)
  have b3 : 0 ≤ P3 := by rw [hP3]; exact fmod_lo ns.sum (n := 47) (by decide)
  have b4 : 0 ≤ P4 := by rw [hP4]; exact fmod_lo ns.sum (n := 25) (by decide)
  have hmono := okRow_mono hok b0.1 b1.1 b2 b3 b4
  clear hP0 hP1 hP2 hP3 hP4
  k_lt hlc
  dsimp only
  k_steps
  rename News _ _ _ _ => N2
  rename Fr _ _ _ _ => F2
  refine Stop.out ?_
  refine LCg.CompSrc.range (n := 31) (by rfl) F2 N2 (by assumption) (by exact srange (lo := 0) (hi := 31) (by decide) (by decide)) (rangeSize_of (lo := 0) (hi := 31) (by decide)) (ssize1 (lo := 0) (hi := 31) (by decide)) ?_
  intro gC
  refine comp_ind (fun i ys nw => nw = _ ∧ ys.length = i ∧ ∀ j, j < i → Thing (ys.getD j .none) ((r.getD j 0 : Nat) : Int)) ?_ ?_ ⟨rfl, rfl, fun j hj => absurd hj (Nat.not_lt_zero j)⟩
  · intro i t I oI C oC D m₂ ys nw h tk E' hi hJ hCo hx F N off ne
    refine hideQ ?_
    intro QH2 hQH2
    obtain ⟨rfl, hlen, hth⟩ := hJ
    obtain ⟨ti, hvi⟩ := ints_at hIc (i := i) (by omega)
    have hri := okRow_get hok hi
    k_steps
    · refine item_litK (v := .int ((r.getD i 0 : Nat) : Int) ti) (News.isList N (by k_mem : (lc, listOf vc.toArray 0) ∈ _)) (by omega) (by omega) (by rw [natIdx i]; exact hvi) ?_
      k_steps
      refine Stop.out (LCg.CompEnd.intro (by k_asm) (by k_asm) _ (fun _ h => h) off trivial ⟨rfl, things_snoc hlen hth (.inr ⟨_, rfl⟩)⟩)
    · refine item_litK (v := .int ((r.getD i 0 : Nat) : Int) ti) (News.isList N (by k_mem : (lc, listOf vc.toArray 0) ∈ _)) (by omega) (by omega) (by rw [natIdx i]; exact hvi) ?_
      k_steps
      refine Stop.out (LCg.CompEnd.intro (by k_asm) (by k_asm) _ (fun _ h => h) off trivial ⟨rfl, things_snoc hlen hth (.inl ⟨_, rfl⟩)⟩)
  · rintro ys nw ⟨rfl, hlen, hth⟩
    k_steps
    rename News _ _ _ _ => N3
    rename Fr _ _ _ _ => F3
    refine Stop.out ?_
    refine LCg.CompSrc.ledger (by rfl) F3 N3 (by k_mem) (by rw [PySem.sizeLine_eq, List.size_toArray, hIc.length, List.length_map]; omega) ?_
    intro gD
    refine kcf_list (fun c => costOf P0 P1 P2 P3 P4 c) hIc ?_ ?_
    · intro k t I oI C oC D m₂ ys2 h tk E' hk hCo hx F N off ne _
      obtain ⟨c, hc, rfl⟩ := List.mem_map.mp hk
      have hcb := okRow_at hok hc
      k_steps
      refine Stop.out ((cost_int' (by k_mem) (by omega) (by omega) b0 b1).useP (by k_asm) F (by k_asm) N (by k_asm) rfl (by ktr_room) (by ktr_units) ?_)
      rintro _ _ h' tk' F' N' ⟨rfl, tw, rfl⟩
      dsimp only
      k_steps
      refine Stop.out (LCg.CompEnd.intro F' N' _ (fun _ h => h) off (.inr ⟨_, by k_mem, rfl, _, rfl⟩) ⟨rfl, _, rfl⟩)
    · intro ws hws
      k_steps
      -- the loop
      refine Stop.out ?_
      refine hideQ ?_
      intro QH3 hQH3
      rename News _ _ _ _ => N4
      rename Fr _ _ _ _ => F4
      rename IntsAre _ _ => hIl
      have hag := costs_at (f := fun c => costOf P0 P1 P2 P3 P4 c) hrl
      have hcl : ((r.map fun n : Nat => (n : Int)).map fun c => costOf P0 P1 P2 P3 P4 c).length = 31 := by rw [List.length_map, List.length_map, hrl]
      have htl : ys.length = 31 := hlen
      have hthc : ∀ i, i < 31 → Thing (ys.getD i .none) ((r.getD i 0 : Nat) : Int) ∧ 0 ≤ ((r.getD i 0 : Nat) : Int) ∧ ((r.getD i 0 : Nat) : Int) < 4096 := fun i hi => ⟨hth i hi, by omega, by have := okRow_get hok hi; omega⟩
      obtain ⟨Dl, ca, ta, e1, e2, e3⟩ := exL N4
      subst e1
      subst e2
      subst e3
      obtain ⟨wl, xl, hIl', e1, e2⟩ := exI hIl
      subst e1
      subst e2
      obtain ⟨base, NB, mDl, mk2, mk1, m112, hP0⟩ := packL N4 (by refine List.forall_mem_cons.mpr ⟨by k_ne, List.forall_mem_cons.mpr ⟨by k_ne, List.forall_mem_cons.mpr ⟨by k_ne, List.forall_mem_cons.mpr ⟨by k_ne, List.forall_mem_cons.mpr ⟨by k_ne, List.forall_mem_cons.mpr ⟨by k_ne, List.forall_mem_cons.mpr ⟨by k_ne, List.forall_mem_nil _⟩⟩⟩⟩⟩⟩⟩) (by k_ne) (by k_ne) (by k_ne)
      have h112 : @Ne Nat ta 112 ∧ @Ne Nat ca 112 ∧ @Ne Nat pr 112 := ⟨by k_ne, by k_ne, by k_ne⟩
      clear N4
      refine unhide hQH3 ?_
      clear hQH3
      (with_reducible show wpAny _ _ (pyIter (Value.ref _)) (fun it s₂ => LoopAtV _ _ _ _ _ _ _ _ _ it s₂) _ _)
      with_unfolding_all refine iter_listUnr (lo := listOf wl.toArray 0) (vs := wl) (by rfl) F4 NB (.tail _ (.tail _ (.tail _ (.tail _ mDl)))) (by rfl) (by rfl) ?_
      intro I lI
      refine list_ind (fun nw => ∃ ps cods rest, nw = (117, tabObj ps) :: (ta, LCg.lst ys) :: (ca, LCg.lst ws) :: (pr, prL P0 P1 P2 P3 P4 _ _ _ _ _ _) :: rest ∧ TabInv cods ps qualH ∧ (∀ q ∈ cods, q ∈ rest) ∧ (∀ q ∈ base, q ∈ rest) ∧
        ∀ p ∈ (ta, LCg.lst ys) :: (ca, LCg.lst ws) :: (pr, prL P0 P1 P2 P3 P4 _ _ _ _ _ _) :: rest, p.1 ≠ 117) ?_ ?_ hIl _ _ (fun _ _ => rfl) ⟨_, [], _, rfl, TabInv.nil, (fun q hq => nomatch hq), (fun q hq => hq), hP0⟩
      · intro k t nw it h tk hJ hic FI NI
        refine hideQ ?_
        intro QH4 hQH4
        obtain ⟨ps, cods, rest, rfl, hT, hsc, hbs, hP⟩ := hJ
        have mk1' := hbs _ mk1
        k_steps
        refine Stop.out ?_
        refine hideQ ?_
        intro QH5 hQH5
        refine Stop.go ?_
        have hbI : ∀ q ∈ base, @Ne Nat q.1 I := fun q hq => Nat.ne_of_lt (lI q (.tail _ (.tail _ (.tail _ (.tail _ hq)))))
        have i117 : @Ne Nat 117 I := Nat.ne_of_lt (lI _ (.head _))
        have iA : @Ne Nat ta I := Nat.ne_of_lt (lI _ (.tail _ (.head _)))
        have iB : @Ne Nat ca I := Nat.ne_of_lt (lI _ (.tail _ (.tail _ (.head _))))
        have iC : @Ne Nat pr I := Nat.ne_of_lt (lI _ (.tail _ (.tail _ (.tail _ (.head _)))))
        refine Stop.out ((holds (rest := (I, it) :: rest) (cd := fun i => ((r.getD i 0 : Nat) : Int)) hws hcl htl hthc hag hmono b0 b1 hT (fun q hq => .tail _ (hsc q hq))
          (List.forall_mem_cons.mpr ⟨hP _ (.head _), List.forall_mem_cons.mpr ⟨hP _ (.tail _ (.head _)), List.forall_mem_cons.mpr ⟨hP _ (.tail _ (.tail _ (.head _))), List.forall_mem_cons.mpr ⟨Ne.symm i117, fun q hq => hP q (.tail _ (.tail _ (.tail _ hq)))⟩⟩⟩⟩)).useP (by k_asm) FI (by k_asm) (cb_drop NI (by kcf_all)) (by k_asm) rfl (by ktr_room) (by ktr_units) ?_)
        rintro _ _ h' tk' F' N' ⟨rfl, ps', cods', rest', rfl, hT', hsc', hsub', hP''⟩
        dsimp only
        k_steps
        obtain ⟨cods2, rest2, s1, s2, hT2, hsc2, hb2, hP2⟩ := loop_pack N' hic hT' hsc' hsub' hbs i117 iA iB iC hbI hP''
        exact Stop.out (UnrEnd.intro F' N' ((117, tabObj ps') :: (ta, LCg.lst ys) :: (ca, LCg.lst ws) :: (pr, _) :: rest2) s1 s2 ⟨.tail _ (.tail _ (.tail _ (.tail _ (hb2 _ mDl)))), fun y hy => if_neg hy, ⟨ps', cods2, rest2, rfl, hT2, hsc2, hb2, hP2⟩⟩)
      · intro v nw h tk hJ FI NI
        refine hideQ ?_
        intro QH6 hQH6
        obtain ⟨ps, cods, rest, rfl, hT, hsc, hbs, hP⟩ := hJ
        have mk1' := hbs _ mk1
        k_steps
        have h5 := fmod_lo ns.sum (n := 5) (by decide)
        refine Stop.out ((all_refused (rest := [(117, tabObj ps)]) hws hcl (by omega)
          (List.forall_mem_cons.mpr ⟨h112.1, List.forall_mem_cons.mpr ⟨h112.2.1, List.forall_mem_cons.mpr ⟨h112.2.2, List.forall_mem_cons.mpr ⟨(show (117 : Nat) ≠ 112 by decide), List.forall_mem_nil _⟩⟩⟩⟩)).useE (by k_asm) FI (by k_asm)
          (cb_drop NI (List.forall_mem_cons.mpr ⟨.tail _ (.tail _ (.tail _ (.tail _ (hbs _ m112)))), List.forall_mem_cons.mpr ⟨.tail _ (.head _), List.forall_mem_cons.mpr ⟨.tail _ (.tail _ (.head _)), List.forall_mem_cons.mpr ⟨.tail _ (.tail _ (.tail _ (.head _))), List.forall_mem_cons.mpr ⟨.head _, List.forall_mem_nil _⟩⟩⟩⟩⟩)) (by k_asm) rfl (by ktr_room) (by ktr_units) ?_)
        rintro _ nw' h' tk' F' N' ⟨rfl, ps2, m112', hsub'⟩
        have m117' := hsub' _ (.head _)
        clear hsub'
        dsimp only
        k_steps)
end Mine
end
theorem Mine.flushC12 : True ∧ True := by
  w_top off
  first | (walk1; done) | exact ⟨trivial, trivial⟩
set_option maxRecDepth 100000 in
theorem PySem.Challenge.cw_pk0048_01_holds : PySem.Challenge.rw_pk0048_01.Holds := by
  exact Mine.top
