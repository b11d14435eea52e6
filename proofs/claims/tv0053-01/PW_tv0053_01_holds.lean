import PyProof.Rows.All
import Wide.All
import OpenK.AllK
import Wide.FinOn
import Lean
import PySem.Challenge.RW_tv0053_01
open PySem PySem.W PyProof.Rows
set_option Elab.async false
set_option linter.unusedVariables false
set_option rowWalk.seconds 0
noncomputable section
namespace Mine
noncomputable def vw : Program := { PySem.Challenge.rw_tv0053_01.row.prog with main := { PySem.Challenge.rw_tv0053_01.row.prog.main with body := [0, 2, 4, 5, 6, 7, 8, 9, 10, 17, 18, 19, 20, 21, 23, 24, 25, 26, 27].filterMap fun i => PySem.Challenge.rw_tv0053_01.row.prog.main.body[i]? } }
local macro_rules | `(tactic| o_law) => `(tactic| refine holds_law (by decide +kernel) (fun said => ?_))
local macro_rules | `(tactic| o_head $H) => `(tactic| (
  refine holds_open (q := Mine.vw) (loose := [Str.ofString "Whitespace", Str.ofString "insort_right", Str.ofString "bisect_right", Str.ofString "insort_left", Str.ofString "bisect_left"]) (Xt := fun s => xlAt Mine.vw [] s && recOk (RowW.records (OpenRow.toRowW PySem.Challenge.rw_tv0053_01.row)) s) (XP := XL Mine.vw []) (Yf := Hook.obs $H) (Ya := Hook.val $H) (YP := Hook.says $H) (N := 2502) ?hl (Hook.of $H) (Hook.keeps $H) (fun s e => xl_of s (Bool.and_eq_true_iff.mp e).1) XL.keeps (by rfl) (by rfl) (by rfl) (fun s e => recFacts_of (Bool.and_eq_true_iff.mp e).2) (by rfl) (by first | assumption | decide +kernel) (by decide +kernel) ⟨rfl, rfl, rfl, rfl, rfl, by decide +kernel⟩ ?hw ?hc
  case hl => exact LeftO.of_split "special-get-raises" (fun w => by kernel_rfl)))
set_option maxRecDepth 100000 in
set_option maxHeartbeats 8000000 in
open_top hd for PySem.Challenge.rw_tv0053_01
theorem fill_all (w : World) : PySem.Challenge.rw_tv0053_01 = PySem.Challenge.rw_tv0053_01 ∧ Mine.hd.heap_1 w.params = Mine.hd.heap_1 w.params := by k_fill; exact ⟨rfl, rfl⟩
set_option maxRecDepth 100000
set_option maxHeartbeats 8000000
set_option compiler.extract_closed false
section
noncomputable abbrev Led := List (Addr × Obj)
noncomputable abbrev PR : Program := PySem.Challenge.rw_tv0053_01.row.prog

theorem ix0 (i : Nat) : 0 ≤ 0 + (i : Int) := by rw [Int.zero_add]; exact Int.natCast_nonneg i
theorem ix1 {i n l : Nat} (h : i < n) (e : l = n) : 0 + (i : Int) < (l : Int) := by subst e; rw [Int.zero_add]; exact Int.ofNat_lt.mpr h
theorem z_toNat (i : Nat) : (0 + (i : Int)).toNat = i := by rw [Int.zero_add, Int.toNat_natCast]
theorem sub_toNat (a j : Nat) : ((a : Int) - (0 + (j : Int))).toNat = a - j := by rw [Int.zero_add]; exact Int.toNat_sub a j
theorem lt_three : ∀ i : Nat, i < 3 → (i = 0 ∨ i = 1 ∨ i = 2) := by decide
theorem lt_four : ∀ i : Nat, i < 4 → (i = 0 ∨ i = 1 ∨ i = 2 ∨ i = 3) := by decide
theorem lt_five : ∀ i : Nat, i < 5 → (i = 0 ∨ i = 1 ∨ i = 2 ∨ i = 3 ∨ i = 4) := by decide
/-- a token may be any letter: keeps the proof terms small -/
theorem tk_any {α : Type} {M : Model} {A : Around} {p : Sem α} {Q : α → Shared → Prop} {E : Value → Shared → Prop} {h : Heap} {g : Array GenState} {d : Drawn} {t0 : Nat} {o : OsState} (H : ∀ t : Nat, wpAny M A p Q E ⟨h, g, d, t, o⟩) : wpAny M A p Q E ⟨h, g, d, t0, o⟩ := H t0
/-- what is to be shown may be a letter, too -/
theorem q_any {α : Type} {M : Model} {A : Around} {p : Sem α} {Q : α → Shared → Prop} {E : Value → Shared → Prop} {s : Shared} (h : ∀ Q9 : α → Shared → Prop, (∀ a s', Q a s' → Q9 a s') → wpAny M A p Q9 E s) : wpAny M A p Q E s := h Q fun _ _ x => x
theorem st_conv {α : Type} {M : Model} {A : Around} {p : Sem α} {Q : α → Shared → Prop} {E : Value → Shared → Prop} {s s' : Shared} (e : s = s') (h : wpAny M A p Q E s') : wpAny M A p Q E s := e ▸ h
theorem store_conv {M : Model} {A : Around} {env : Env} {x : Str} {Q : Unit → Shared → Prop} {E : Value → Shared → Prop} {v v' : Value} {s s' : Shared} (e1 : v = v') (e2 : s = s') (h : wpAny M A (storeName env x v') Q E s') : wpAny M A (storeName env x v) Q E s := by subst e1 e2; exact h
theorem store_L {prog : Program} {w : World} {A : Around} {E : Value → Shared → Prop} {s s' : Shared} {h₀ : Heap} {L a : Addr} {m : Str → Option Value} {news : Led} {cn : Str} {cs : Scope} {ccd : Value} {cl : List (Str × Addr)} {x : Str} {v v' : Value} {Q : Unit → Shared → Prop} (e1 : v = v') (e2 : s = s') (F : Fr h₀ L s'.heap m) (N : News h₀ L s'.heap news) (hk : cs.kind = .function) (hx : (envX cn cs L a ccd cl).kindOf x = some .local)
    (h : ∀ h', Fr h₀ L h' (fun y => if y = x then some v' else m y) → News h₀ L h' news → Q () { s' with heap := h', toks := s'.toks + 1 }) : wpAny (model prog w) A (storeName (envX cn cs L a ccd cl) x v) Q E s :=
  store_conv e1 e2 (storeX_L F N h hk hx)
section
variable {prog : Program} {w : World} {A : Around} {E : Value → Shared → Prop} {s : Shared} {a b : Int} {t u : Tok} {Q : Value → Shared → Prop}
theorem floordiv_D (hb : b ≠ 0) (hl : b.natAbs.log2 < 9000) (h : Q (.int (a.fdiv b) s.toks) { s with toks := s.toks + 1 }) : wpAny (model prog w) A (binaryOp .FloorDiv (.int a t) (.int b u)) Q E s :=
  floordiv_int hb h (Or.inl (PyProof.noPylong_of_log2 hl))
theorem mul_D (hm : IntMulOk a b) (h : Q (.int (a * b) s.toks) { s with toks := s.toks + 1 }) : wpAny (model prog w) A (binaryOp .Mult (.int a t) (.int b u)) Q E s := mul_int h hm
end
theorem len_led {prog : Program} {w : World} {A : Around} {E : Value → Shared → Prop} {s : Shared} {h₀ : Heap} {L l : Addr} {news : Led} {us : List Value} {c : Nat} {Q : Value → Shared → Prop} (N : News h₀ L s.heap news) (hm : (l, W.listOf us.toArray c) ∈ news) (hz : (us.length : Int) < 2 ^ 63)
    (h : Q (.int (us.length : Int) (s.toks + 1)) { s with toks := s.toks + 1 + 1 }) : wpAny (model prog w) A (call (.builtin "len") [.ref l]) Q E s := kst_len N hm rfl hz h
theorem while_stop {M : Model} {A : Around} {a b c d : _} {env : Env} {Q : _} {E : _} {s : Shared} (h : wpAny M A (exec (Stmt.While a b c d) env) Q E s) : wpAny M A (exec (Stmt.While a b c d) env) Q E s := h
theorem for_stop {M : Model} {A : Around} {a b c d e : _} {env : Env} {Q : _} {E : _} {s : Shared} (h : wpAny M A (exec (Stmt.For a b c d e) env) Q E s) : wpAny M A (exec (Stmt.For a b c d e) env) Q E s := h
theorem def_stop {M : Model} {A : Around} {a b c d e f g h9 i j : _} {env : Env} {Q : _} {E : _} {s : Shared} (h : wpAny M A (exec (Stmt.FunctionDef a b c d e f g h9 i j) env) Q E s) : wpAny M A (exec (Stmt.FunctionDef a b c d e f g h9 i j) env) Q E s := h
noncomputable def StopAt (_ : Str) : Prop := True
theorem stopAt {M : Model} {A : Around} {x a b c d : _} {env : Env} {Q : _} {E : _} {s : Shared} (_ : StopAt x) (h : wpAny M A (execs (Stmt.Assign [PySem.Expr.Name x a] b c :: d) env) Q E s) : wpAny M A (execs (Stmt.Assign [PySem.Expr.Name x a] b c :: d) env) Q E s := h
theorem st_guard {M : Model} {A : Around} {env : Env} {x : Str} {v : Value} {Q : Unit → Shared → Prop} {E : Value → Shared → Prop} {s : Shared} (h : wpAny M A (storeName env x v) Q E s) : wpAny M A (storeName env x v) Q E s := h
theorem unf_cons {α : Type} {a : α} {l r : List α} (h : a ∈ l) (h2 : ∀ p ∈ r, p ∈ l) : ∀ p ∈ a :: r, p ∈ l := List.forall_mem_cons.mpr ⟨h, h2⟩
theorem unf_skip {α : Type} {x : α} {l r : List α} (h2 : ∀ p ∈ r, p ∈ l) : ∀ p ∈ r, p ∈ x :: l := fun p h => .tail _ (h2 p h)
theorem fa_cons {α : Type} {p : α → Prop} {a : α} {l : List α} (h1 : p a) (h2 : ∀ x ∈ l, p x) : ∀ x ∈ a :: l, p x := List.forall_mem_cons.mpr ⟨h1, h2⟩
theorem and2 {a b G : Prop} (H : a ∧ b) (k : a → b → G) : G := k H.1 H.2
theorem and3 {a b c G : Prop} (H : a ∧ b ∧ c) (k : a → b → c → G) : G := k H.1 H.2.1 H.2.2
theorem and4 {a b c d G : Prop} (H : a ∧ b ∧ c ∧ d) (k : a → b → c → d → G) : G := k H.1 H.2.1 H.2.2.1 H.2.2.2
theorem and5 {a b c d e G : Prop} (H : a ∧ b ∧ c ∧ d ∧ e) (k : a → b → c → d → e → G) : G := k H.1 H.2.1 H.2.2.1 H.2.2.2.1 H.2.2.2.2
theorem and6 {a b c d e f G : Prop} (H : a ∧ b ∧ c ∧ d ∧ e ∧ f) (k : a → b → c → d → e → f → G) : G := k H.1 H.2.1 H.2.2.1 H.2.2.2.1 H.2.2.2.2.1 H.2.2.2.2.2
theorem and7 {a b c d e f g G : Prop} (H : a ∧ b ∧ c ∧ d ∧ e ∧ f ∧ g) (k : a → b → c → d → e → f → g → G) : G := k H.1 H.2.1 H.2.2.1 H.2.2.2.1 H.2.2.2.2.1 H.2.2.2.2.2.1 H.2.2.2.2.2.2
theorem and8 {a b c d e f g h G : Prop} (H : a ∧ b ∧ c ∧ d ∧ e ∧ f ∧ g ∧ h) (k : a → b → c → d → e → f → g → h → G) : G := k H.1 H.2.1 H.2.2.1 H.2.2.2.1 H.2.2.2.2.1 H.2.2.2.2.2.1 H.2.2.2.2.2.2.1 H.2.2.2.2.2.2.2
theorem ex1 {α1 : Type} {R : α1 → Prop} {G : Prop} (H : ∃ x1, R x1) (k : ∀ x1, R x1 → G) : G := let ⟨x1, r⟩ := H; k x1 r
theorem ex2 {α1 α2 : Type} {R : α1 → α2 → Prop} {G : Prop} (H : ∃ x1 x2, R x1 x2) (k : ∀ x1 x2, R x1 x2 → G) : G := let ⟨x1, x2, r⟩ := H; k x1 x2 r
theorem ex3 {α1 α2 α3 : Type} {R : α1 → α2 → α3 → Prop} {G : Prop} (H : ∃ x1 x2 x3, R x1 x2 x3) (k : ∀ x1 x2 x3, R x1 x2 x3 → G) : G := let ⟨x1, x2, x3, r⟩ := H; k x1 x2 x3 r
theorem ex4 {α1 α2 α3 α4 : Type} {R : α1 → α2 → α3 → α4 → Prop} {G : Prop} (H : ∃ x1 x2 x3 x4, R x1 x2 x3 x4) (k : ∀ x1 x2 x3 x4, R x1 x2 x3 x4 → G) : G := let ⟨x1, x2, x3, x4, r⟩ := H; k x1 x2 x3 x4 r
theorem ex5 {α1 α2 α3 α4 α5 : Type} {R : α1 → α2 → α3 → α4 → α5 → Prop} {G : Prop} (H : ∃ x1 x2 x3 x4 x5, R x1 x2 x3 x4 x5) (k : ∀ x1 x2 x3 x4 x5, R x1 x2 x3 x4 x5 → G) : G := let ⟨x1, x2, x3, x4, x5, r⟩ := H; k x1 x2 x3 x4 x5 r
theorem rn0 {f : Value} {g : Led} {R : Prop} {r : Value} {news : Led} {G : Value → Led → Prop} (O : r = f ∧ news = g ∧ R) (k : R → G f g) : G r news := by obtain ⟨rfl, rfl, h⟩ := O; exact k h
theorem rn1 {α1 : Type} {f : α1 → Value} {g : α1 → Led} {R : α1 → Prop} {r : Value} {news : Led} {G : Value → Led → Prop} (O : ∃ x1, r = f x1 ∧ news = g x1 ∧ R x1) (k : ∀ x1, R x1 → G (f x1) (g x1)) : G r news := by obtain ⟨x1, rfl, rfl, h⟩ := O; exact k x1 h
theorem rn2 {α1 α2 : Type} {f : α1 → α2 → Value} {g : α1 → α2 → Led} {R : α1 → α2 → Prop} {r : Value} {news : Led} {G : Value → Led → Prop} (O : ∃ x1 x2, r = f x1 x2 ∧ news = g x1 x2 ∧ R x1 x2) (k : ∀ x1 x2, R x1 x2 → G (f x1 x2) (g x1 x2)) : G r news := by obtain ⟨x1, x2, rfl, rfl, h⟩ := O; exact k x1 x2 h
theorem rn3 {α1 α2 α3 : Type} {f : α1 → α2 → α3 → Value} {g : α1 → α2 → α3 → Led} {R : α1 → α2 → α3 → Prop} {r : Value} {news : Led} {G : Value → Led → Prop} (O : ∃ x1 x2 x3, r = f x1 x2 x3 ∧ news = g x1 x2 x3 ∧ R x1 x2 x3) (k : ∀ x1 x2 x3, R x1 x2 x3 → G (f x1 x2 x3) (g x1 x2 x3)) : G r news := by obtain ⟨x1, x2, x3, rfl, rfl, h⟩ := O; exact k x1 x2 x3 h
theorem rn4 {α1 α2 α3 α4 : Type} {f : α1 → α2 → α3 → α4 → Value} {g : α1 → α2 → α3 → α4 → Led} {R : α1 → α2 → α3 → α4 → Prop} {r : Value} {news : Led} {G : Value → Led → Prop} (O : ∃ x1 x2 x3 x4, r = f x1 x2 x3 x4 ∧ news = g x1 x2 x3 x4 ∧ R x1 x2 x3 x4) (k : ∀ x1 x2 x3 x4, R x1 x2 x3 x4 → G (f x1 x2 x3 x4) (g x1 x2 x3 x4)) : G r news := by obtain ⟨x1, x2, x3, x4, rfl, rfl, h⟩ := O; exact k x1 x2 x3 x4 h
theorem rn5 {α1 α2 α3 α4 α5 : Type} {f : α1 → α2 → α3 → α4 → α5 → Value} {g : α1 → α2 → α3 → α4 → α5 → Led} {R : α1 → α2 → α3 → α4 → α5 → Prop} {r : Value} {news : Led} {G : Value → Led → Prop} (O : ∃ x1 x2 x3 x4 x5, r = f x1 x2 x3 x4 x5 ∧ news = g x1 x2 x3 x4 x5 ∧ R x1 x2 x3 x4 x5) (k : ∀ x1 x2 x3 x4 x5, R x1 x2 x3 x4 x5 → G (f x1 x2 x3 x4 x5) (g x1 x2 x3 x4 x5)) : G r news := by obtain ⟨x1, x2, x3, x4, x5, rfl, rfl, h⟩ := O; exact k x1 x2 x3 x4 x5 h
theorem rr3 {α1 α2 α3 : Type} {f : α1 → α2 → α3 → Value} {R : α1 → α2 → α3 → Prop} {r : Value} {G : Value → Prop} (O : ∃ x1 x2 x3, r = f x1 x2 x3 ∧ R x1 x2 x3) (k : ∀ x1 x2 x3, R x1 x2 x3 → G (f x1 x2 x3)) : G r := by obtain ⟨x1, x2, x3, rfl, h⟩ := O; exact k x1 x2 x3 h
theorem rv2 {α1 α2 : Type} {v : Value} {g : α1 → α2 → Led} {R : α1 → α2 → Prop} {r : Value} {news : Led} {G : Value → Led → Prop} (O : r = v ∧ ∃ x1 x2, news = g x1 x2 ∧ R x1 x2) (k : ∀ x1 x2, R x1 x2 → G v (g x1 x2)) : G r news := by obtain ⟨rfl, x1, x2, rfl, h⟩ := O; exact k x1 x2 h
theorem rv3 {α1 α2 α3 : Type} {v : Value} {g : α1 → α2 → α3 → Led} {R : α1 → α2 → α3 → Prop} {r : Value} {news : Led} {G : Value → Led → Prop} (O : r = v ∧ ∃ x1 x2 x3, news = g x1 x2 x3 ∧ R x1 x2 x3) (k : ∀ x1 x2 x3, R x1 x2 x3 → G v (g x1 x2 x3)) : G r news := by obtain ⟨rfl, x1, x2, x3, rfl, h⟩ := O; exact k x1 x2 x3 h
theorem pr4 {α β γ δ : Type} {P : α × β × γ × δ → Prop} (h : ∀ a b c d, P (a, b, c, d)) : ∀ x, P x := fun x => h x.1 x.2.1 x.2.2.1 x.2.2.2
theorem pr5 {α β γ δ ε : Type} {P : α × β × γ × δ × ε → Prop} (h : ∀ a b c d e, P (a, b, c, d, e)) : ∀ x, P x := fun x => h x.1 x.2.1 x.2.2.1 x.2.2.2.1 x.2.2.2.2
section
open PyProof.Rows.LCg PyProof.Rows.LCt
variable {h₀ : Heap} {L I C D : Addr} {m : Str → Option Value} {s₁ s₂ : Shared} {oI oC oD : Obj} {S : Led → Prop} {rest rest' : Value → Led → Prop} {y y' : Value}
theorem compEnd_elim {G : Shared → Prop} (H : CompEnd h₀ L m s₁ I oI C oC D oD S rest y s₂) (k : ∀ h' tk news', Fr h₀ L h' m → News h₀ L h' ((I, oI) :: (C, oC) :: (D, oD) :: news') → Off3 I C D news' → rest y news' → G { s₁ with heap := h', toks := tk }) : G s₂ := by
  obtain ⟨h', tk, nw, rfl, F, N, o, _, b⟩ := H
  exact k h' tk nw F N o b
theorem compEnd_map (H : CompEnd h₀ L m s₁ I oI C oC D oD S rest y s₂) (k : ∀ nw, rest y nw → rest' y' nw) : CompEnd h₀ L m s₁ I oI C oC D oD S rest' y' s₂ := by
  obtain ⟨h', tk, nw, e, F, N, o, a, b⟩ := H
  exact ⟨h', tk, nw, e, F, N, o, a, k nw b⟩
end
theorem rr5 {α1 α2 α3 α4 α5 : Type} {f : α1 → α2 → α3 → α4 → α5 → Value} {R : α1 → α2 → α3 → α4 → α5 → Prop} {r : Value} {G : Value → Prop} (O : ∃ x1 x2 x3 x4 x5, r = f x1 x2 x3 x4 x5 ∧ R x1 x2 x3 x4 x5) (k : ∀ x1 x2 x3 x4 x5, R x1 x2 x3 x4 x5 → G (f x1 x2 x3 x4 x5)) : G r := by obtain ⟨x1, x2, x3, x4, x5, rfl, h⟩ := O; exact k x1 x2 x3 x4 x5 h
theorem eq2_elim {f f' r : Value} {g news : Led} {G : Value → Led → Prop} (O : r = f ∧ news = g) (e : f = f') (k : G f' g) : G r news := by obtain ⟨rfl, rfl⟩ := O; exact e ▸ k
theorem off7 {a b c e f g h d : Nat} (z : a < d ∧ b < d ∧ c < d ∧ e < d ∧ f < d ∧ g < d ∧ h < d) : a ≠ d ∧ b ≠ d ∧ c ≠ d ∧ e ≠ d ∧ f ≠ d ∧ g ≠ d ∧ h ≠ d :=
  ⟨Nat.ne_of_lt z.1, Nat.ne_of_lt z.2.1, Nat.ne_of_lt z.2.2.1, Nat.ne_of_lt z.2.2.2.1, Nat.ne_of_lt z.2.2.2.2.1, Nat.ne_of_lt z.2.2.2.2.2.1, Nat.ne_of_lt z.2.2.2.2.2.2⟩
theorem rm3 {u c n : Nat} (h : u + (c + 1) < n) : u + 1 + c < n := by rw [Nat.add_assoc, Nat.add_comm 1 c]; exact h
theorem rm4 {u k n : Nat} (h : u + 10 * (k + 1 + 1) < n) : u + 3 + 10 * (k + 1) < n := by omega
theorem rm0 {u c n : Nat} (h : u + c < n) : u < n := Nat.lt_of_le_of_lt (Nat.le_add_right u c) h
theorem rm1 {u a c n : Nat} (h : u + c < n) (e : a.ble c = true) : u + a < n := Nat.lt_of_le_of_lt (Nat.add_le_add_left (Nat.le_of_ble_eq_true e) u) h
theorem rm2 {u a b c n : Nat} (h : u + c < n) (e : (a + b).ble c = true) : u + a + b < n := Nat.add_assoc u a b ▸ rm1 h e
/-- what a call of the def at f with vs does, from any frame whose ledger is news -/
noncomputable def Does (w : World) (f : Addr) (dep uni : Nat) (news : Led) (vs : List Value) (Out : Value → Led → Prop) : Prop :=
  ∀ (p : Program) (loose : List Str) (mean : ExcName → Option Value) (mg mb : Str → Option Value) (dp un : Nat) (gd : Option (List Code)) (cn : Str) (cs : Scope) (a : Addr) (ccd : Value) (cl : List (Str × Addr)) (outer : List Env) (A₀ : Around) (base h₀ : Heap) (L : Addr) (m : Str → Option Value) (s : Shared) (Q E : Value → Shared → Prop),
    Below A₀ base outer h₀ → Fr h₀ L s.heap m → (Mine.hd.heap_1 w.params).In h₀ → News h₀ L s.heap news → Top p loose mean mg mb h₀ → CodeHd base 107 103 → CodeHd base 114 110 → cs.kind = .function → dp + dep < recursionLimit → un + uni < cLine →
    (∀ r news' h' tk', Fr h₀ L h' m → News h₀ L h' news' → Out r news' → Q r { s with heap := h', toks := tk' }) →
    wpAny (model PR w) (ktrTop dp un gd cn cs L a ccd cl outer) (call (.ref f) vs) Q E s

/-- an item of a ledger's list of ints at a place in it -/
theorem item_int {prog : Program} {w : World} {A : Around} {E : Value → Shared → Prop} {s : Shared} {h₀ : Heap} {L l : Addr} {news : Led} {vs : List Value} {ns : List Int} {n : Nat} {k : Int} {u : Tok} {value slice : PySem.Expr} {Q : Value → Shared → Prop}
    (N : News h₀ L s.heap news) (hm : (l, W.listOf vs.toArray n) ∈ news) (hi : IntsAre vs ns) (h0 : 0 ≤ k) (h1 : k < ns.length) (hf : ns.length < 1000000)
    (h : ∀ t, Q (.int (ns.getD k.toNat 0) t) s)
    (hs : subscripted slice false (.ref l) (.int k u) = operate [.ref l, .int k u] (getItem (.ref l) (.int k u)) := by with_unfolding_all rfl) :
    wpAny (model prog w) A (subscriptTail value slice (.ref l) (.int k u)) Q E s := by
  have hl : s.heap.IsList l vs.toArray := ⟨_, (N _ hm).1, rfl, n, rfl⟩
  have hlt : k.toNat < ns.length := by omega
  obtain ⟨t, ht⟩ := hi.get k.toNat ns[k.toNat] (by simp [hlt])
  have he : ns.getD k.toNat 0 = ns[k.toNat] := by simp [List.getD, hlt]
  have hq := h t
  rw [he] at hq
  exact tail_any hl.typeIs slot_list_getitem.lookup (wpAny_getItem_list hl h0 (by omega) (by simpa using ht) hq) hs

theorem KswEnd_stop {σ : Type} {h₀ : Heap} {L : Addr} {s : Shared} {Led : σ → List (Addr × Obj)} {ps : σ → List (Str × Value)} {Facts : σ → Prop} {stored : List Str} {m₀ : Str → Option Value} {P : σ → Prop} {μ : σ → Nat} {c : σ} {s₂ : Shared}
   (h : KswEnd h₀ L s Led ps Facts stored m₀ P μ c s₂) : KswEnd h₀ L s Led ps Facts stored m₀ P μ c s₂ := h

theorem fdiv2 (a : Int) : 2 * a.fdiv 2 ≤ a ∧ a < 2 * a.fdiv 2 + 2 := by
  have h := Int.mul_fdiv_add_fmod a 2
  have h1 := Int.fmod_nonneg_of_pos a (b := 2) (by decide)
  have h2 := Int.fmod_lt_of_pos a (b := 2) (by decide)
  omega

theorem foldl_rep {v : Value} (k : Nat) : (List.foldl (fun x1 x2 => x1 ++ x2) #[] (List.replicate k #[v])) = (List.replicate k v).toArray := by
  have h : ∀ (k : Nat) (acc : Array Value), List.foldl (fun x1 x2 => x1 ++ x2) acc (List.replicate k #[v]) = acc ++ (List.replicate k v).toArray := by
    intro k
    induction k with
    | zero => intro acc; simp
    | succ k ih => intro acc; rw [List.replicate_succ, List.foldl_cons, ih, List.replicate_succ]; apply Array.ext'; simp
  rw [h]; simp
/-- [v] * x -/
theorem mul_rep {prog : Program} {w : World} {A : Around} {E : Value → Shared → Prop} {s : Shared} {h₀ : Heap} {L l : Addr} {m : Str → Option Value} {news : Led} {v : Value} {n : Nat} {x : Int} {u : Tok} {Q : Value → Shared → Prop}
    (F : Fr h₀ L s.heap m) (N : News h₀ L s.heap news) (hm : (l, W.listOf #[v] n) ∈ news) (h0 : 0 ≤ x) (h1 : x ≤ 1000000)
    (h : ∀ D h', Fr h₀ L h' m → News h₀ L h' ((D, W.listOf (List.replicate x.toNat v).toArray 0) :: news) → (∀ p ∈ news, p.1 < D) → Q (.ref D) { s with heap := h' }) :
    wpAny (model prog w) A (binaryOp .Mult (.ref l) (.int x u)) Q E s := by
  refine mul_list F N (N _ hm).1 (by omega) (by omega) (by have : (#[v] : Array Value).size = 1 := rfl; rw [this]; omega) fun h' F' N' => ?_
  have e : (#[v] : Array Value).isEmpty = false := rfl
  rw [e] at N'
  simp only [Bool.false_eq_true, if_false] at N'
  rw [foldl_rep] at N'
  exact h _ _ F' N' fun p hp => Heap.lt_size (N p hp).1

noncomputable def RestLt (d : Addr) (l : Led) : Prop := ∀ p ∈ l, @LT.lt Nat _ p.1 d
theorem allLt_all {d : Addr} {l : Led} (h : AllLt d l) : RestLt d l := fun p hp => kst_ltOf h p hp
noncomputable def RestGt (d : Addr) (l : Led) : Prop := ∀ p ∈ l, @LT.lt Nat _ d p.1

theorem call_stop {M : Model} {A : Around} {a : Addr} {vs : List Value} {kw : List (Str × Value)} {Q : Value → Shared → Prop} {E : Value → Shared → Prop} {s : Shared} (h : wpAny M A (call (.ref a) vs kw) Q E s) : wpAny M A (call (.ref a) vs kw) Q E s := h

theorem Does.use {w : World} {f : Addr} {dep uni : Nat} {news : Led} {vs : List Value} {Out : Value → Led → Prop} (C : Does w f dep uni news vs Out)
   {p : Program} {loose : List Str} {mean : ExcName → Option Value} {mg mb : Str → Option Value} {dp un : Nat} {gd : Option (List Code)} {cn : Str} {cs : Scope} {a : Addr} {ccd : Value} {cl : List (Str × Addr)} {outer : List Env} {A₀ : Around} {base h₀ : Heap} {L : Addr} {m : Str → Option Value} {s : Shared} {Q E : Value → Shared → Prop}
   (B : Below A₀ base outer h₀) (F : Fr h₀ L s.heap m) (X : (Mine.hd.heap_1 w.params).In h₀) (N : News h₀ L s.heap news) (T : Top p loose mean mg mb h₀) (C1 : CodeHd base 107 103) (C2 : CodeHd base 114 110) (hk : cs.kind = .function) (hd : dp + dep < recursionLimit) (hu : un + uni < cLine)
   (ret : ∀ r news' h' tk', Fr h₀ L h' m → News h₀ L h' news' → Out r news' → Q r { s with heap := h', toks := tk' }) :
   wpAny (model PR w) (ktrTop dp un gd cn cs L a ccd cl outer) (call (.ref f) vs) Q E s :=
  C p loose mean mg mb dp un gd cn cs a ccd cl outer A₀ base h₀ L m s Q E B F X N T C1 C2 hk hd hu ret

theorem news_swap {h₀ h : Heap} {L : Addr} {a b : Addr × Obj} {r : Led} (N : News h₀ L h (a :: b :: r)) : News h₀ L h (b :: a :: r) := fun p hp => N p (by
  rcases List.mem_cons.mp hp with e | hp
  · exact .tail _ (e ▸ .head _)
  · rcases List.mem_cons.mp hp with e | hp
    · exact e ▸ .head _
    · exact .tail _ (.tail _ hp))
theorem news_sub {h₀ h : Heap} {L : Addr} {a b : Led} (N : News h₀ L h a) (hs : ∀ p ∈ b, p ∈ a) : News h₀ L h b := fun p hp => N p (hs p hp)
noncomputable abbrev tup2 (x y : Value) : Obj := { cls := .type "tuple", data := .seq #[x, y] }
-- what a contract's end says, taken apart with the goal as a letter (each «obtain» would copy the goal)
theorem pair_elim {x y : Int} {news news' : Led} {r : Value} {G : Value → Led → Prop} (O : ∃ l t1 t2, r = .ref l ∧ news' = (l, tup2 (.int x t1) (.int y t2)) :: news ∧ ∀ p ∈ news, p.1 ≠ l)
    (h : ∀ l t1 t2, (∀ p ∈ news, p.1 ≠ l) → G (.ref l) ((l, tup2 (.int x t1) (.int y t2)) :: news)) : G r news' := by
  obtain ⟨l, t1, t2, rfl, rfl, hf⟩ := O
  exact h l t1 t2 hf
theorem int_elim {v : Int} {news news' : Led} {r : Value} {G : Value → Led → Prop} (O : (∃ tk, r = .int v tk) ∧ news' = news) (h : ∀ tk, G (.int v tk) news) : G r news' := by
  obtain ⟨⟨tk, rfl⟩, rfl⟩ := O
  exact h tk
theorem eq_elim {v : Value} {news news' : Led} {r : Value} {G : Value → Led → Prop} (O : r = v ∧ news' = news) (h : G v news) : G r news' := by
  obtain ⟨rfl, rfl⟩ := O
  exact h
theorem idm_elim {x y : Int} {K : Led → Prop} {H : Led → Addr → Prop} {rest news' : Led} {r : Value} {G : Value → Led → Prop} (O : ∃ l t1 t2 T', r = .ref l ∧ news' = (l, tup2 (.int x t1) (.int y t2)) :: (T' ++ rest) ∧ K T' ∧ H T' l)
    (h : ∀ l t1 t2 T', K T' → H T' l → G (.ref l) ((l, tup2 (.int x t1) (.int y t2)) :: (T' ++ rest))) : G r news' := by
  obtain ⟨l, t1, t2, T', rfl, rfl, hT, hf⟩ := O
  exact h l t1 t2 T' hT hf
theorem divmod_D {prog : Program} {w : World} {A : Around} {E : Value → Shared → Prop} {s : Shared} {h₀ : Heap} {L : Addr} {m : Str → Option Value} {news : Led} {a b : Int} {t u : Tok} {Q : Value → Shared → Prop} (F : Fr h₀ L s.heap m) (N : News h₀ L s.heap news) (hb : b ≠ 0) (hl : b.natAbs.log2 < 9000)
    (h : ∀ D h' t1 t2, Fr h₀ L h' m → News h₀ L h' ((D, tup2 (.int (a.fdiv b) t1) (.int (a.fmod b) t2)) :: news) → (∀ p ∈ news, p.1 < D) → Q (.ref D) { s with toks := s.toks + 1 + 1, heap := h' }) :
    wpAny (model prog w) A (call (.builtin "divmod") [.int a t, .int b u]) Q E s :=
  divmod_N F N hb (fun h' F' N' => h _ h' _ _ F' N' fun p hp => Heap.lt_size (N p hp).1) (Or.inl (PyProof.noPylong_of_log2 hl))

theorem fresh0 {d : Addr} {l : Led} (h : ∀ p ∈ l, p.1 < d) : ∀ p ∈ l, p.1 ≠ d := fun p hp => Nat.ne_of_lt (h p hp)
theorem fresh1 {d : Addr} {l : Led} (h : AllLt d l) : ∀ p ∈ l, p.1 ≠ d := fun p hp => Nat.ne_of_lt (kst_ltOf h p hp)
theorem fresh2 {d : Addr} {l : Led} {P1 : Prop} (h : P1 ∧ AllLt d l) : ∀ p ∈ l, p.1 ≠ d := fun p hp => Nat.ne_of_lt (kst_ltOf h.2 p hp)
theorem fresh3 {d : Addr} {l : Led} {P1 P2 : Prop} (h : P1 ∧ P2 ∧ AllLt d l) : ∀ p ∈ l, p.1 ≠ d := fun p hp => Nat.ne_of_lt (kst_ltOf h.2.2 p hp)
theorem fresh4 {d : Addr} {l : Led} {P1 P2 P3 : Prop} (h : P1 ∧ P2 ∧ P3 ∧ AllLt d l) : ∀ p ∈ l, p.1 ≠ d := fun p hp => Nat.ne_of_lt (kst_ltOf h.2.2.2 p hp)
theorem fresh5 {d : Addr} {l : Led} {P1 P2 P3 P4 : Prop} (h : P1 ∧ P2 ∧ P3 ∧ P4 ∧ AllLt d l) : ∀ p ∈ l, p.1 ≠ d := fun p hp => Nat.ne_of_lt (kst_ltOf h.2.2.2.2 p hp)
theorem fresh6 {d : Addr} {l : Led} {P1 P2 P3 P4 P5 : Prop} (h : P1 ∧ P2 ∧ P3 ∧ P4 ∧ P5 ∧ AllLt d l) : ∀ p ∈ l, p.1 ≠ d := fun p hp => Nat.ne_of_lt (kst_ltOf h.2.2.2.2.2 p hp)
theorem fresh7 {d : Addr} {l : Led} {P1 P2 P3 P4 P5 P6 : Prop} (h : P1 ∧ P2 ∧ P3 ∧ P4 ∧ P5 ∧ P6 ∧ AllLt d l) : ∀ p ∈ l, p.1 ≠ d := fun p hp => Nat.ne_of_lt (kst_ltOf h.2.2.2.2.2.2 p hp)
theorem fresh8 {d : Addr} {l : Led} {P1 P2 P3 P4 P5 P6 P7 : Prop} (h : P1 ∧ P2 ∧ P3 ∧ P4 ∧ P5 ∧ P6 ∧ P7 ∧ AllLt d l) : ∀ p ∈ l, p.1 ≠ d := fun p hp => Nat.ne_of_lt (kst_ltOf h.2.2.2.2.2.2.2 p hp)
theorem fresh9 {d : Addr} {l : Led} {P1 P2 P3 P4 P5 P6 P7 P8 : Prop} (h : P1 ∧ P2 ∧ P3 ∧ P4 ∧ P5 ∧ P6 ∧ P7 ∧ P8 ∧ AllLt d l) : ∀ p ∈ l, p.1 ≠ d := fun p hp => Nat.ne_of_lt (kst_ltOf h.2.2.2.2.2.2.2.2 p hp)
theorem fresh10 {d : Addr} {l : Led} {P1 P2 P3 P4 P5 P6 P7 P8 P9 : Prop} (h : P1 ∧ P2 ∧ P3 ∧ P4 ∧ P5 ∧ P6 ∧ P7 ∧ P8 ∧ P9 ∧ AllLt d l) : ∀ p ∈ l, p.1 ≠ d := fun p hp => Nat.ne_of_lt (kst_ltOf h.2.2.2.2.2.2.2.2.2 p hp)

theorem truthy_led {prog : Program} {w : World} {A : Around} {E : Value → Shared → Prop} {s : Shared} {h₀ : Heap} {L l : Addr} {news : Led} {vs : List Value} {ns : List Int} {n : Nat} {Q : Bool → Shared → Prop}
    (N : News h₀ L s.heap news) (hm : (l, W.listOf vs.toArray n) ∈ news) (hi : IntsAre vs ns) (hf : ns.length < 1000000)
    (h : Q ((ns.length : Int) != 0) { s with toks := s.toks + 1 + 1 }) : wpAny (model prog w) A (truthy (.ref l)) Q E s := by
  have hl : s.heap.IsList l vs.toArray := ⟨_, (N _ hm).1, rfl, n, rfl⟩
  have e : (vs.toArray.size : Int) = (ns.length : Int) := by rw [List.size_toArray, hi.length]
  refine wpAny_truthy_list hl (by rw [e]; omega) ?_
  have e2 : (!vs.toArray.isEmpty) = ((ns.length : Int) != 0) := by
    rw [← hi.length]
    cases vs with
    | nil => rfl
    | cons v r =>
      have : ((v :: r).length : Int) ≠ 0 := by simp only [List.length_cons]; omega
      have h2 : (((v :: r).length : Int) != 0) = true := by simp only [bne_iff_ne]; exact this
      rw [h2]; rfl
  rw [e2]; exact h

theorem pyIter_stop {prog : Program} {w : World} {A A' : Around} {v : Value} {h₀ : Heap} {env : Env} {x : Str} {body : List Stmt} {Q : Flow → Shared → Prop} {E E' : Value → Shared → Prop} {s : Shared} (h : wpAny (model prog w) A (pyIter v) (fun it s₂ => LoopAtV prog w A' h₀ env x body Q E' it s₂) E s) : wpAny (model prog w) A (pyIter v) (fun it s₂ => LoopAtV prog w A' h₀ env x body Q E' it s₂) E s := h

section
variable {prog : Program} {w : World} {A : Around} {E : Value → Shared → Prop} {s : Shared} {h₀ : Heap} {L D : Addr} {m : Str → Option Value} {news news' : Led} {vs : List Value} {n : Nat} {x : Value} {Q : Value → Shared → Prop}
theorem append_led (F : Fr h₀ L s.heap m) (N : News h₀ L s.heap news) (U : Upd D (W.listOf vs.toArray n) (W.listOf (vs ++ [x]).toArray (n + 1)) news news') (hsz : vs.length < 1000000)
    (h : ∀ h', Fr h₀ L h' m → News h₀ L h' news' → Q .none { s with heap := h' }) : wpAny (model prog w) A (call (.builtin "list.append") [.ref D, x]) Q E s := by
  rw [← List.push_toArray] at U
  exact append_K F N U h (by rw [List.size_toArray, PySem.sizeLine_eq]; omega)
theorem reverse_led (F : Fr h₀ L s.heap m) (N : News h₀ L s.heap news) (U : Upd D (W.listOf vs.toArray n) (W.listOf vs.reverse.toArray n) news news') (hsz : vs.length < 1000000)
    (h : ∀ h', Fr h₀ L h' m → News h₀ L h' news' → Q .none { s with heap := h' }) : wpAny (model prog w) A (call (.builtin "list.reverse") [.ref D]) Q E s :=
  kl_reverse F N (by simp) U (by simp [PySem.sizeLine_eq]; omega) h
end

end
section
theorem intsAre_rev : ∀ {vs : List Value} {ns : List Int}, IntsAre vs ns → IntsAre vs.reverse ns.reverse
  | _, _, .nil => .nil
  | _, _, .cons n t h => by
    rw [List.reverse_cons, List.reverse_cons]
    exact intsAre_append (intsAre_rev h) (.cons n t .nil)
theorem news_drop2 {h₀ h : Heap} {L : Addr} {x y : Addr × Obj} {r : Led} (N : News h₀ L h (x :: y :: r)) : News h₀ L h (x :: r) := fun p hp => N p (by
  rcases List.mem_cons.mp hp with e | hp
  · exact e ▸ .head _
  · exact .tail _ (.tail _ hp))
section
variable {prog : Program} {w : World} {A : Around} {E : Value → Shared → Prop} {s : Shared} {h₀ : Heap} {L D l b : Addr} {m : Str → Option Value} {news news' : Led} {vs ws : List Value} {ns ms : List Int} {n n2 : Nat} {x : Value} {Q : Value → Shared → Prop}
theorem add_led (F : Fr h₀ L s.heap m) (N : News h₀ L s.heap news) (h1 : (l, W.listOf vs.toArray n) ∈ news) (h2 : (b, W.listOf ws.toArray n2) ∈ news) (hz : vs.length + ws.length < 1000000)
    (h : ∀ D h', Fr h₀ L h' m → News h₀ L h' ((D, W.listOf (vs ++ ws).toArray 0) :: news) → (∀ p ∈ news, p.1 < D) → Q (.ref D) { s with heap := h' }) :
    wpAny (model prog w) A (binaryOp .Add (.ref l) (.ref b)) Q E s :=
  add_lists F N ⟨_, (N _ h1).1, rfl, n, rfl⟩ ⟨_, (N _ h2).1, rfl, n2, rfl⟩ (fun h' F' N' => h _ h' F' N' fun p hp => Heap.lt_size (N p hp).1) (by rw [PySem.sizeLine_eq]; omega)
end
section
variable {prog : Program} {w : World} {A : Around} {E : Value → Shared → Prop} {s : Shared} {h₀ : Heap} {L D l b : Addr} {m : Str → Option Value} {news news' : Led} {vs ws : List Value} {ns ms : List Int} {n n2 : Nat} {x : Value} {Q : Value → Shared → Prop}
theorem add_led_rep {k : Nat} {t : Tok} (F : Fr h₀ L s.heap m) (N : News h₀ L s.heap news) (h1 : (l, W.listOf vs.toArray n) ∈ news) (h2 : (b, W.listOf (List.replicate k (Value.int 0 t)).toArray n2) ∈ news) (hi : IntsAre vs ns) (hr : IntsAre (List.replicate k (Value.int 0 t)) (List.replicate k 0)) (hz : vs.length + k < 1000000)
    (h : ∀ D h', Fr h₀ L h' m → News h₀ L h' ((D, W.listOf (vs ++ List.replicate k (Value.int 0 t)).toArray 0) :: news) → (∀ p ∈ news, p.1 < D) → IntsAre (vs ++ List.replicate k (Value.int 0 t)) (ns ++ List.replicate k 0) → Q (.ref D) { s with heap := h' }) :
    wpAny (model prog w) A (binaryOp .Add (.ref l) (.ref b)) Q E s :=
  add_led F N h1 h2 (by rw [List.length_replicate]; exact hz) fun D h' F' N' l1 => h D h' F' N' l1 (intsAre_append hi hr)
theorem tuple_led (F : Fr h₀ L s.heap m) (N : News h₀ L s.heap news) (h1 : (l, W.listOf vs.toArray n) ∈ news) (hz : vs.length ≤ 16384)
    (h : ∀ D h', Fr h₀ L h' m → News h₀ L h' ((D, ({ cls := .type "tuple", data := .seq vs.toArray } : Obj)) :: news) → (∀ p ∈ news, p.1 < D) → Q (.ref D) { s with heap := h' }) : wpAny (model prog w) A (call (.type "tuple") [.ref l]) Q E s :=
  kde_tupleOf F N ⟨_, (N _ h1).1, rfl, n, rfl⟩ (by rw [List.size_toArray]; exact hz) rfl h
end
theorem set_led {prog : Program} {w : World} {A : Around} {E : Value → Shared → Prop} {s : Shared} {h₀ : Heap} {L D : Addr} {m : Str → Option Value} {news news' : Led} {vs : List Value} {ns : List Int} {n : Nat} {k x : Int} {t u : Tok} {Q : Unit → Shared → Prop}
    (F : Fr h₀ L s.heap m) (N : News h₀ L s.heap news) (U : Upd D (W.listOf vs.toArray n) (W.listOf (vs.set k.toNat (.int x u)).toArray n) news news') (hi : IntsAre vs ns) (h0 : 0 ≤ k) (h1 : k < ns.length) (hf : ns.length < 1000000)
    (h : ∀ h', Fr h₀ L h' m → News h₀ L h' news' → IntsAre (vs.set k.toNat (.int x u)) (ns.set k.toNat x) → Q () { s with heap := h' }) :
    wpAny (model prog w) A (setItem (.ref D) (.int k t) (.int x u)) Q E s :=
  ksa_set F N U hi h0 h1 (by omega) fun h' F' N' hi' _ _ => h h' F' N' hi'

end
local macro_rules | `(tactic| leaf_len) => `(tactic| (intro _ _ _ _ l1; (try k_lt l1); k_sweep))
set_option hygiene false in
local macro_rules | `(tactic| ktr_room) => `(tactic| first | with_reducible assumption | exact rm2 (by assumption) rfl | exact rm1 (by assumption) rfl | exact rm0 (by assumption))
local macro_rules | `(tactic| ktr_units) => `(tactic| ktr_room)
set_option hygiene false in
local macro_rules | `(tactic| kst_all1) => `(tactic| first | exact List.forall_mem_nil _ | (refine fa_cons (by with_unfolding_all rfl) ?_; kst_all1))
local macro_rules | `(tactic| k_ne) => `(tactic| with_reducible assumption)
local macro_rules | `(tactic| k_mem) => `(tactic| assumption)
set_option hygiene false in
local macro_rules | `(tactic| ktn_open) => `(tactic| first | exact fresh0 (by assumption) | exact fresh1 (by assumption) | exact fresh2 (by assumption) | exact fresh3 (by assumption) | exact fresh4 (by assumption) | exact fresh7 (by assumption))
local macro_rules | `(tactic| tlg_ne) => `(tactic| first | with_reducible assumption | ((first | rename RestGt _ _ => hR9 | rename RestLt _ _ => hR9); intro p9 h9; have q9 := hR9 p9 h9; refine neN ?_; (try dsimp only); omega) | exact List.forall_mem_nil _ | (refine fa_cons ?_ ?_; k_ne; k_all))
set_option hygiene false in
local macro_rules | `(tactic| k_all) => `(tactic| first | ktn_open | tlg_ne)
section
theorem rst_Bis : True := by w_top off; trivial
noncomputable abbrev BisP (ns : List Int) (x lo0 hi0 lo hi : Int) : Prop :=
  lo0 ≤ lo ∧ lo ≤ hi ∧ hi ≤ hi0 ∧ (∀ i : Int, lo0 ≤ i → i < lo → ns.getD i.toNat 0 ≤ x) ∧ (∀ i : Int, hi ≤ i → i < hi0 → x < ns.getD i.toNat 0)

/-- bisect_right over a list of ints, no key -/
theorem bisect_r (w : World) (news : Led) (l : Addr) (vs : List Value) (ns : List Int) (n : Nat) (x lo hi : Int) (t t1 : Tok) (hv : Value) (hhv : (hv = .none ∧ hi = ns.length) ∨ ∃ t2, hv = .int hi t2)
   (hm : (l, W.listOf vs.toArray n) ∈ news) (hi' : IntsAre vs ns) (h0 : 0 ≤ lo) (hlh : lo ≤ hi) (h1 : hi ≤ ns.length) (hn : ns.length < 100)
   (hs : ∀ i j : Int, lo ≤ i → i ≤ j → j < hi → ns.getD i.toNat 0 ≤ ns.getD j.toNat 0) :
   Does w 147 1 8 news [.ref l, .int x t, .int lo t1, hv]
     (fun r news' => ∃ k tk, r = .int k tk ∧ news' = news ∧ lo ≤ k ∧ k ≤ hi ∧ (∀ i : Int, lo ≤ i → i < k → ns.getD i.toNat 0 ≤ x) ∧ (∀ i : Int, k ≤ i → i < hi → x < ns.getD i.toNat 0)) := by
  unfold Does
  intro p loose mean mg mb dp un gd cn cs ad ccd cl outer A₀ base h₀ L m s Q E B F X N T C1 C2 hk hd hu hret
  have hvl := hi'.length
  rcases hhv with ⟨rfl, he⟩ | ⟨t2, rfl⟩
  · refine wpAny_call ?_
    k_dflt (refine code_def (by k_asm) (by k_asm) (by k_asm) (by k_asm) (by k_asm) (by exact rfl) (by exact rfl) (by first | exact rfl | assumption) (by k_is) (by k_is) (by ktr_room) (by first | exact BindsTo.of_eq rfl | exact kp_binds (by k_in) (fun _ => rfl)) (by exact locs rfl) ?_ (by exact rfl) (by exact rfl) (by exact rfl) (by decide); intro _ _ _ _ _ _ _ _ _; (try dsimp only); (try k_fold))
    refine st_conv (by dsimp only) ?_
    refine tk_any fun tk9 => ?_
    (repeat' (first | (k_unfold; (try dsimp only)) | (k_end; wrow_close) | ((fail_if_success with_reducible (first | refine KswEnd_stop ?_ | refine call_stop ?_ | refine pyIter_stop ?_ | refine while_stop ?_ | refine for_stop ?_ | refine def_stop ?_)); first | ((fail_if_success (fail_if_success (with_reducible refine st_guard ?_))); refine' store_L ?_ ?_ ?_ ?_ ?_ ?_ ?_; rotate_left 5; (first | dsimp only | rfl); (first | dsimp only | rfl); k_asm; k_asm; rfl; rfl; intro _ _ _; k_sweep) | ((with_reducible refine' item_int ?_ ?_ ?_ ?_ ?_ ?_ ?_ ?_); rotate_left 6; k_asm; (first | k_asm | k_mem); k_asm; (first | exact ix0 _ | omega); (first | (refine ix1 ?_ ?_ <;> assumption) | omega | (simp only [List.length_append, List.length_cons, List.length_nil]; omega)); (first | omega | (simp only [List.length_append, List.length_cons, List.length_nil]; omega)); rotate_left; with_unfolding_all rfl; intro _) | ((with_reducible refine' floordiv_D ?_ ?_ ?_); (first | k_asm | omega | decide); (first | k_asm | omega | decide +kernel)) | ((with_reducible refine' len_led ?_ ?_ ?_ ?_); rotate_left 5; k_asm; k_mem; ((try simp only [List.length_replicate]); omega)) | walk1 | (dsimp only; first | ((fail_if_success (fail_if_success (with_reducible refine st_guard ?_))); refine' store_L ?_ ?_ ?_ ?_ ?_ ?_ ?_; rotate_left 5; (first | dsimp only | rfl); (first | dsimp only | rfl); k_asm; k_asm; rfl; rfl; intro _ _ _; k_sweep) | ((with_reducible refine' item_int ?_ ?_ ?_ ?_ ?_ ?_ ?_ ?_); rotate_left 6; k_asm; (first | k_asm | k_mem); k_asm; (first | exact ix0 _ | omega); (first | (refine ix1 ?_ ?_ <;> assumption) | omega | (simp only [List.length_append, List.length_cons, List.length_nil]; omega)); (first | omega | (simp only [List.length_append, List.length_cons, List.length_nil]; omega)); rotate_left; with_unfolding_all rfl; intro _) | ((with_reducible refine' floordiv_D ?_ ?_ ?_); (first | k_asm | omega | decide); (first | k_asm | omega | decide +kernel)) | ((with_reducible refine' len_led ?_ ?_ ?_ ?_); rotate_left 5; k_asm; k_mem; ((try simp only [List.length_replicate]); omega)) | walk1) | (leave1; try dsimp only))))
    refine' ksw_while (σ := Int × Tok × Int × Tok) (fun _ => news) (fun c => [(Str.ofString "lo", .int c.1 c.2.1), (Str.ofString "hi", .int c.2.2.1 c.2.2.2)]) (fun _ => True) [Str.ofString "mid"] (fun c => BisP ns x lo hi c.1 c.2.2.1) (fun c => (c.2.2.1 - c.1).toNat) (lo, t1, (vs.length : Int), _) ?F ?N trivial ?hk ?hp ?_
    (case F => k_asm)
    (case N => k_asm)
    (case hk => kst_all)
    (case hp => (dsimp only; exact ⟨by omega, by omega, by omega, fun i _ _ => by omega, fun i _ _ => by omega⟩))
    refine pr4 ?_
    rintro lo' t1' hi' t2' u h tk - P F'' N''
    dsimp only [kstB] at F''
    dsimp only at P
    refine and5 P ?_
    clear P
    intro P1 P2 P3 P4 P5
    have hmid := fdiv2 (lo' + hi')
    (repeat' (first | (k_unfold; (try dsimp only)) | (k_end; wrow_close) | ((fail_if_success with_reducible (first | refine KswEnd_stop ?_ | refine call_stop ?_ | refine pyIter_stop ?_ | refine while_stop ?_ | refine for_stop ?_ | refine def_stop ?_)); first | ((fail_if_success (fail_if_success (with_reducible refine st_guard ?_))); refine' store_L ?_ ?_ ?_ ?_ ?_ ?_ ?_; rotate_left 5; (first | dsimp only | rfl); (first | dsimp only | rfl); k_asm; k_asm; rfl; rfl; intro _ _ _; k_sweep) | ((with_reducible refine' item_int ?_ ?_ ?_ ?_ ?_ ?_ ?_ ?_); rotate_left 6; k_asm; (first | k_asm | k_mem); k_asm; (first | exact ix0 _ | omega); (first | (refine ix1 ?_ ?_ <;> assumption) | omega | (simp only [List.length_append, List.length_cons, List.length_nil]; omega)); (first | omega | (simp only [List.length_append, List.length_cons, List.length_nil]; omega)); rotate_left; with_unfolding_all rfl; intro _) | ((with_reducible refine' floordiv_D ?_ ?_ ?_); (first | k_asm | omega | decide); (first | k_asm | omega | decide +kernel)) | ((with_reducible refine' len_led ?_ ?_ ?_ ?_); rotate_left 5; k_asm; k_mem; ((try simp only [List.length_replicate]); omega)) | walk1 | (dsimp only; first | ((fail_if_success (fail_if_success (with_reducible refine st_guard ?_))); refine' store_L ?_ ?_ ?_ ?_ ?_ ?_ ?_; rotate_left 5; (first | dsimp only | rfl); (first | dsimp only | rfl); k_asm; k_asm; rfl; rfl; intro _ _ _; k_sweep) | ((with_reducible refine' item_int ?_ ?_ ?_ ?_ ?_ ?_ ?_ ?_); rotate_left 6; k_asm; (first | k_asm | k_mem); k_asm; (first | exact ix0 _ | omega); (first | (refine ix1 ?_ ?_ <;> assumption) | omega | (simp only [List.length_append, List.length_cons, List.length_nil]; omega)); (first | omega | (simp only [List.length_append, List.length_cons, List.length_nil]; omega)); rotate_left; with_unfolding_all rfl; intro _) | ((with_reducible refine' floordiv_D ?_ ?_ ?_); (first | k_asm | omega | decide); (first | k_asm | omega | decide +kernel)) | ((with_reducible refine' len_led ?_ ?_ ?_ ?_); rotate_left 5; k_asm; k_mem; ((try simp only [List.length_replicate]); omega)) | walk1) | (leave1; try dsimp only))))
    · have hx : x < ns.getD ((lo' + hi').fdiv 2).toNat 0 := by assumption
      refine ksw_end (_, _, _, _) (by k_asm) (by k_asm) (fun p h => h) trivial (by kst_all) (by ksw_same) ?_ (by dsimp only; exact (Int.toNat_lt_toNat (by omega)).mpr (by omega))
      dsimp only
      refine ⟨by omega, by omega, by omega, P4, fun i hi1 hi2 => ?_⟩
      by_cases hc : i < hi'
      · exact Int.lt_of_lt_of_le hx (hs _ _ (by omega) hi1 (by omega))
      · exact P5 i (by omega) hi2
    · have hx : ¬ x < ns.getD ((lo' + hi').fdiv 2).toNat 0 := by assumption
      refine ksw_end (_, _, _, _) (by k_asm) (by k_asm) (fun p h => h) trivial (by kst_all) (by ksw_same) ?_ (by dsimp only; exact (Int.toNat_lt_toNat (by omega)).mpr (by omega))
      dsimp only
      refine ⟨by omega, by omega, by omega, fun i hi1 hi2 => ?_, P5⟩
      by_cases hc : i < lo'
      · exact P4 i hi1 hc
      · exact Int.le_trans (hs _ ((lo' + hi').fdiv 2) (by omega) (by omega) (by omega)) (Int.not_lt.mp hx)
    · exact hret _ _ _ _ (by k_asm) (by k_asm) ⟨_, _, rfl, rfl, by omega, by omega, fun i a b => P4 i a b, fun i a b => P5 i (by omega) b⟩
  · refine wpAny_call ?_
    k_dflt (refine code_def (by k_asm) (by k_asm) (by k_asm) (by k_asm) (by k_asm) (by exact rfl) (by exact rfl) (by first | exact rfl | assumption) (by k_is) (by k_is) (by ktr_room) (by first | exact BindsTo.of_eq rfl | exact kp_binds (by k_in) (fun _ => rfl)) (by exact locs rfl) ?_ (by exact rfl) (by exact rfl) (by exact rfl) (by decide); intro _ _ _ _ _ _ _ _ _; (try dsimp only); (try k_fold))
    refine st_conv (by dsimp only) ?_
    refine tk_any fun tk9 => ?_
    (repeat' (first | (k_unfold; (try dsimp only)) | (k_end; wrow_close) | ((fail_if_success with_reducible (first | refine KswEnd_stop ?_ | refine call_stop ?_ | refine pyIter_stop ?_ | refine while_stop ?_ | refine for_stop ?_ | refine def_stop ?_)); first | ((fail_if_success (fail_if_success (with_reducible refine st_guard ?_))); refine' store_L ?_ ?_ ?_ ?_ ?_ ?_ ?_; rotate_left 5; (first | dsimp only | rfl); (first | dsimp only | rfl); k_asm; k_asm; rfl; rfl; intro _ _ _; k_sweep) | ((with_reducible refine' item_int ?_ ?_ ?_ ?_ ?_ ?_ ?_ ?_); rotate_left 6; k_asm; (first | k_asm | k_mem); k_asm; (first | exact ix0 _ | omega); (first | (refine ix1 ?_ ?_ <;> assumption) | omega | (simp only [List.length_append, List.length_cons, List.length_nil]; omega)); (first | omega | (simp only [List.length_append, List.length_cons, List.length_nil]; omega)); rotate_left; with_unfolding_all rfl; intro _) | ((with_reducible refine' floordiv_D ?_ ?_ ?_); (first | k_asm | omega | decide); (first | k_asm | omega | decide +kernel)) | ((with_reducible refine' len_led ?_ ?_ ?_ ?_); rotate_left 5; k_asm; k_mem; ((try simp only [List.length_replicate]); omega)) | walk1 | (dsimp only; first | ((fail_if_success (fail_if_success (with_reducible refine st_guard ?_))); refine' store_L ?_ ?_ ?_ ?_ ?_ ?_ ?_; rotate_left 5; (first | dsimp only | rfl); (first | dsimp only | rfl); k_asm; k_asm; rfl; rfl; intro _ _ _; k_sweep) | ((with_reducible refine' item_int ?_ ?_ ?_ ?_ ?_ ?_ ?_ ?_); rotate_left 6; k_asm; (first | k_asm | k_mem); k_asm; (first | exact ix0 _ | omega); (first | (refine ix1 ?_ ?_ <;> assumption) | omega | (simp only [List.length_append, List.length_cons, List.length_nil]; omega)); (first | omega | (simp only [List.length_append, List.length_cons, List.length_nil]; omega)); rotate_left; with_unfolding_all rfl; intro _) | ((with_reducible refine' floordiv_D ?_ ?_ ?_); (first | k_asm | omega | decide); (first | k_asm | omega | decide +kernel)) | ((with_reducible refine' len_led ?_ ?_ ?_ ?_); rotate_left 5; k_asm; k_mem; ((try simp only [List.length_replicate]); omega)) | walk1) | (leave1; try dsimp only))))
    refine' ksw_while (σ := Int × Tok × Int × Tok) (fun _ => news) (fun c => [(Str.ofString "lo", .int c.1 c.2.1), (Str.ofString "hi", .int c.2.2.1 c.2.2.2)]) (fun _ => True) [Str.ofString "mid"] (fun c => BisP ns x lo hi c.1 c.2.2.1) (fun c => (c.2.2.1 - c.1).toNat) (lo, t1, hi, t2) ?F ?N trivial ?hk ?hp ?_
    (case F => k_asm)
    (case N => k_asm)
    (case hk => kst_all)
    (case hp => (dsimp only; exact ⟨by omega, by omega, by omega, fun i _ _ => by omega, fun i _ _ => by omega⟩))
    refine pr4 ?_
    rintro lo' t1' hi' t2' u h tk - P F'' N''
    dsimp only [kstB] at F''
    dsimp only at P
    refine and5 P ?_
    clear P
    intro P1 P2 P3 P4 P5
    have hmid := fdiv2 (lo' + hi')
    (repeat' (first | (k_unfold; (try dsimp only)) | (k_end; wrow_close) | ((fail_if_success with_reducible (first | refine KswEnd_stop ?_ | refine call_stop ?_ | refine pyIter_stop ?_ | refine while_stop ?_ | refine for_stop ?_ | refine def_stop ?_)); first | ((fail_if_success (fail_if_success (with_reducible refine st_guard ?_))); refine' store_L ?_ ?_ ?_ ?_ ?_ ?_ ?_; rotate_left 5; (first | dsimp only | rfl); (first | dsimp only | rfl); k_asm; k_asm; rfl; rfl; intro _ _ _; k_sweep) | ((with_reducible refine' item_int ?_ ?_ ?_ ?_ ?_ ?_ ?_ ?_); rotate_left 6; k_asm; (first | k_asm | k_mem); k_asm; (first | exact ix0 _ | omega); (first | (refine ix1 ?_ ?_ <;> assumption) | omega | (simp only [List.length_append, List.length_cons, List.length_nil]; omega)); (first | omega | (simp only [List.length_append, List.length_cons, List.length_nil]; omega)); rotate_left; with_unfolding_all rfl; intro _) | ((with_reducible refine' floordiv_D ?_ ?_ ?_); (first | k_asm | omega | decide); (first | k_asm | omega | decide +kernel)) | ((with_reducible refine' len_led ?_ ?_ ?_ ?_); rotate_left 5; k_asm; k_mem; ((try simp only [List.length_replicate]); omega)) | walk1 | (dsimp only; first | ((fail_if_success (fail_if_success (with_reducible refine st_guard ?_))); refine' store_L ?_ ?_ ?_ ?_ ?_ ?_ ?_; rotate_left 5; (first | dsimp only | rfl); (first | dsimp only | rfl); k_asm; k_asm; rfl; rfl; intro _ _ _; k_sweep) | ((with_reducible refine' item_int ?_ ?_ ?_ ?_ ?_ ?_ ?_ ?_); rotate_left 6; k_asm; (first | k_asm | k_mem); k_asm; (first | exact ix0 _ | omega); (first | (refine ix1 ?_ ?_ <;> assumption) | omega | (simp only [List.length_append, List.length_cons, List.length_nil]; omega)); (first | omega | (simp only [List.length_append, List.length_cons, List.length_nil]; omega)); rotate_left; with_unfolding_all rfl; intro _) | ((with_reducible refine' floordiv_D ?_ ?_ ?_); (first | k_asm | omega | decide); (first | k_asm | omega | decide +kernel)) | ((with_reducible refine' len_led ?_ ?_ ?_ ?_); rotate_left 5; k_asm; k_mem; ((try simp only [List.length_replicate]); omega)) | walk1) | (leave1; try dsimp only))))
    · have hx : x < ns.getD ((lo' + hi').fdiv 2).toNat 0 := by assumption
      refine ksw_end (_, _, _, _) (by k_asm) (by k_asm) (fun p h => h) trivial (by kst_all) (by ksw_same) ?_ (by dsimp only; exact (Int.toNat_lt_toNat (by omega)).mpr (by omega))
      dsimp only
      refine ⟨by omega, by omega, by omega, P4, fun i hi1 hi2 => ?_⟩
      by_cases hc : i < hi'
      · exact Int.lt_of_lt_of_le hx (hs _ _ (by omega) hi1 (by omega))
      · exact P5 i (by omega) hi2
    · have hx : ¬ x < ns.getD ((lo' + hi').fdiv 2).toNat 0 := by assumption
      refine ksw_end (_, _, _, _) (by k_asm) (by k_asm) (fun p h => h) trivial (by kst_all) (by ksw_same) ?_ (by dsimp only; exact (Int.toNat_lt_toNat (by omega)).mpr (by omega))
      dsimp only
      refine ⟨by omega, by omega, by omega, fun i hi1 hi2 => ?_, P5⟩
      by_cases hc : i < lo'
      · exact P4 i hi1 hc
      · exact Int.le_trans (hs _ ((lo' + hi').fdiv 2) (by omega) (by omega) (by omega)) (Int.not_lt.mp hx)
    · exact hret _ _ _ _ (by k_asm) (by k_asm) ⟨_, _, rfl, rfl, by omega, by omega, fun i a b => P4 i a b, fun i a b => P5 i (by omega) b⟩

end
section
open PyProof.Rows.LCg PyProof.Rows.LCt
section
variable {prog : Program} {w : World} {A : Around} {s : Shared} {h₀ : Heap} {L : Addr} {m : Str → Option Value} {env : Env}
/-- a comprehension's turns by an invariant: with a test -/
theorem restT_ind {ct elt : PySem.Expr} {x : Str} {scope : Scope} {cl : List (Str × Addr)} {S : Led → Prop} {P : Nat → Value → Prop} {Fin : List Value → Led → Prop} (n : Nat) (J : Nat → List Value → Led → Prop)
    (turn : ∀ i ys news, i < n → J i ys news → ∀ v I oI C oC D m₂ h tk (E' : Value → Shared → Prop), P i v → NsObj oC m₂ → m₂ x = some v → Fr h₀ L h m → News h₀ L h ((I, oI) :: (C, oC) :: (D, lst ys) :: news) → Off3 I C D news → ((@Ne Nat I C) ∧ (@Ne Nat I D) ∧ (@Ne Nat C D)) →
      wpAny (model prog w) A (isTrue ct (compEnvC scope cl C env) (eval ct (compEnvC scope cl C env))) (fun ok s' => if ok = true then
        wpAny (model prog w) A (eval elt (compEnvC scope cl C env)) (CompEnd h₀ L m { s with heap := h, toks := tk } I oI C oC D (lst ys) S (fun y news' => J (i + 1) (ys ++ [y]) news')) E' s'
        else CompEnd h₀ L m { s with heap := h, toks := tk } I oI C oC D (lst ys) S (fun _ news' => J (i + 1) ys news') Value.none s') E' { s with heap := h, toks := tk })
    (fin : ∀ ys news, J n ys news → Fin ys news) : ∀ (k i : Nat) (ys : List Value) (news : Led), i + k = n → J i ys news → CompRestT prog w A h₀ L m env ct elt x scope cl s S P Fin k i ys news
  | 0, i, ys, news, e, hJ => by
    have e' : i = n := by omega
    subst e'
    exact fin _ _ hJ
  | k + 1, i, ys, news, e, hJ => by
    refine CompRestT.succ fun v I oI C oC D m₂ h tk E' hP hC hx F N off nn => ?_
    refine wpAny_mono (turn i ys news (by omega) hJ v I oI C oC D m₂ h tk E' hP hC hx F N off nn) (fun ok s' h' => ?_) fun _ _ e => e
    cases ok with
    | true =>
      simp only [if_true] at h' ⊢
      refine wpAny_mono h' (fun y s'' h'' => ?_) fun _ _ e => e
      exact compEnd_map h'' fun nw hJ2 => restT_ind n J turn fin k (i + 1) _ _ (by omega) hJ2
    | false =>
      simp only [Bool.false_eq_true, if_false] at h' ⊢
      exact compEnd_map h' fun nw hJ2 => restT_ind n J turn fin k (i + 1) _ _ (by omega) hJ2
/-- the same, without a test -/
theorem restU_ind {elt : PySem.Expr} {x : Str} {scope : Scope} {cl : List (Str × Addr)} {S : Led → Prop} {P : Nat → Value → Prop} {Fin : List Value → Led → Prop} (n : Nat) (J : Nat → List Value → Led → Prop)
    (turn : ∀ i ys news, i < n → J i ys news → ∀ v I oI C oC D m₂ h tk (E' : Value → Shared → Prop), P i v → NsObj oC m₂ → m₂ x = some v → Fr h₀ L h m → News h₀ L h ((I, oI) :: (C, oC) :: (D, lst ys) :: news) → Off3 I C D news → ((@Ne Nat I C) ∧ (@Ne Nat I D) ∧ (@Ne Nat C D)) →
      wpAny (model prog w) A (eval elt (compEnvC scope cl C env)) (CompEnd h₀ L m { s with heap := h, toks := tk } I oI C oC D (lst ys) S (fun y news' => J (i + 1) (ys ++ [y]) news')) E' { s with heap := h, toks := tk })
    (fin : ∀ ys news, J n ys news → Fin ys news) : ∀ (k i : Nat) (ys : List Value) (news : Led), i + k = n → J i ys news → CompRest prog w A h₀ L m env elt x scope cl s S P Fin k i ys news
  | 0, i, ys, news, e, hJ => by
    have e' : i = n := by omega
    subst e'
    exact fin _ _ hJ
  | k + 1, i, ys, news, e, hJ => by
    refine CompRest.succ fun v I oI C oC D m₂ h tk E' hP hC hx F N off nn => ?_
    refine wpAny_mono (turn i ys news (by omega) hJ v I oI C oC D m₂ h tk E' hP hC hx F N off nn) (fun y s'' h'' => ?_) fun _ _ e => e
    exact compEnd_map h'' fun nw hJ2 => restU_ind n J turn fin k (i + 1) _ _ (by omega) hJ2
end

end
section
section
variable {prog : Program} {w : World} {A : Around} {R : Result → Shared → Prop} {s : Shared}
/-- the inner clause's start -/
theorem compStart_in {elt t1 i1 t2 i2 : PySem.Expr} {ifs1 ifs2 : List PySem.Expr} {scope : Scope} {pos : Pos} {it acc : Value} {env : Env}
    (h0 : codeAny (model prog w) A (.compLoop (.ListComp elt [⟨t1, i1, ifs1, 0⟩, ⟨t2, i2, ifs2, 0⟩] scope pos) 1 it acc env) R s)
    (h : wpAny (model prog w) A (pyIter it) (fun it' s' => codeAny (model prog w) A (.compLoop (.ListComp elt [⟨t1, i1, ifs1, 0⟩, ⟨t2, i2, ifs2, 0⟩] scope pos) 1 it' acc env) R s')
      (notedBy (model prog w) A env fun x s' => R (.error x) s') s) :
    codeAny (model prog w) A (.compStart (.ListComp elt [⟨t1, i1, ifs1, 0⟩, ⟨t2, i2, ifs2, 0⟩] scope pos) 1 it acc env) R s := by
  refine codeAny_of_tree ?_
  show wpAny _ _ ((compStart (.ListComp elt [⟨t1, i1, ifs1, 0⟩, ⟨t2, i2, ifs2, 0⟩] scope pos) 1 it acc env).onRaise (fun x => do noteFrame x env; standAt theWindowsPlace)) _ _ s
  refine wpAny_notedAt ?_
  unfold compStart
  show wpAny _ _ (ask >>= _) _ _ s
  refine wpAny_bind (wpAny_askSetting (wpAny_ite ?_))
  split
  · first
      | exact wpAny_bind (wpAny_pure (wpAny_pure (And.intro rfl h0)))
      | exact wpAny_pure (And.intro rfl h0)
  · first
      | exact wpAny_bind (wpAny_rule (wpAny_bind (wpAny_standAt (wpAny_bind (wpAny_mono h (fun it' s' h' => wpAny_pure (And.intro rfl h')) fun _ _ x => x)))))
      | (refine wpAny_bind (wpAny_rule ?_); show wpAny _ _ (standAt i2.pos >>= _) _ _ s; exact wpAny_bind (wpAny_standAt (wpAny_bind (wpAny_mono h (fun it' s' h' => wpAny_pure (And.intro rfl h')) fun _ _ x => x))))
/-- the inner clause's turns -/
theorem compLoop_in {elt t1 i1 t2 i2 ct : PySem.Expr} {scope : Scope} {pos : Pos} {it acc : Value} {env : Env} (I : Nat → Shared → Prop)
    (turn : ∀ n s, I n s → wpAny (model prog w) A (pyNext it) (fun r s₁ => match r with
      | none => R (.ok .next) s₁
      | some v => wpAny (model prog w) A (assign t2 env v) (fun _ s₂ =>
          wpAny (model prog w) A (isTrue ct env (eval ct env)) (fun ok s₃ =>
            if ok = true then wpAny (model prog w) A (eval elt env) (fun x s₄ =>
              wpAny (model prog w) A (call (.builtin "list.append") [acc, x]) (fun _ s₅ => ∃ m, m < n ∧ I m s₅) (notedBy (model prog w) A env fun e s' => R (.error e) s') s₄) (notedBy (model prog w) A env fun e s' => R (.error e) s') s₃
            else ∃ m, m < n ∧ I m s₃) (notedBy (model prog w) A env fun e s' => R (.error e) s') s₂) (notedBy (model prog w) A env fun e s' => R (.error e) s') s₁) (notedBy (model prog w) A env fun e s' => R (.error e) s') s)
    (n : Nat) (h : I n s) (ht : ∀ v, letOwnedTupleGo t2 it v = pure () := by intro _; rfl) :
    codeAny (model prog w) A (.compLoop (.ListComp elt [⟨t1, i1, [], 0⟩, ⟨t2, i2, [ct], 0⟩] scope pos) 1 it acc env) R s := by
  refine codeAny_loop rfl I (fun n s hI => ?_) n h
  show wpAny _ A ((compTurn (.ListComp elt [⟨t1, i1, [], 0⟩, ⟨t2, i2, [ct], 0⟩] scope pos) 1 it acc env).onRaise (fun x => do noteFrame x env; theTreesLotGoes x)) _ _ s
  refine wpAny_noted ?_
  have e : compTurn (.ListComp elt [⟨t1, i1, [], 0⟩, ⟨t2, i2, [ct], 0⟩] scope pos) 1 it acc env = (do
      standAt i2.pos
      match ← pyNext it with
      | none => pure (.done .next)
      | some v =>
        letOwnedTupleGo t2 it v
        assign t2 env v
        let mut ok := true
        for c in [ct] do
          if ok then ok ← isTrue c env (eval c env)
        if ok then
          (do let _ ← call (.builtin "list.append") [acc, ← eval elt env])
        again (.compLoop (.ListComp elt [⟨t1, i1, [], 0⟩, ⟨t2, i2, [ct], 0⟩] scope pos) 1 it acc env)) := by rfl
  rw [e]
  refine wpAny_bind (wpAny_standAt (wpAny_bind (wpAny_mono (turn n s hI) (fun r s₁ h₁ => ?_) fun _ _ h' => h')))
  cases r with
  | none => exact wpAny_pure h₁
  | some v =>
    refine wpAny_bind (wpAny_of_eq (ht v) ?_)
    refine wpAny_bind (wpAny_mono h₁ (fun _ s₂ h₂ => wpAny_bind (wpAny_mono (wpAny_tests_one h₂) (fun ok s₃ h₃ => ?_) fun _ _ h' => h')) fun _ _ h' => h')
    cases ok with
    | false => exact wpAny_pure ⟨rfl, h₃⟩
    | true =>
      exact wpAny_bind (wpAny_bind (wpAny_mono h₃ (fun x s₄ h₄ => wpAny_bind (wpAny_mono h₄ (fun _ s₅ h₅ => wpAny_pure (wpAny_pure ⟨rfl, h₅⟩)) fun _ _ h' => h')) fun _ _ h' => h'))
/-- the outer clause's turns -/
theorem compLoop_out {elt t1 i1 t2 i2 ct : PySem.Expr} {scope : Scope} {pos : Pos} {it acc : Value} {env : Env} (I : Nat → Shared → Prop)
    (turn : ∀ n s, I n s → wpAny (model prog w) A (pyNext it) (fun r s₁ => match r with
      | none => R (.ok .next) s₁
      | some v => wpAny (model prog w) A (assign t1 env v) (fun _ s₂ =>
          wpAny (model prog w) A (eval i2 env) (fun x s₃ => wpAny (model prog w) A (pyIter x) (fun it2 s₄ =>
            codeAny (model prog w) A (.compStart (.ListComp elt [⟨t1, i1, [], 0⟩, ⟨t2, i2, [ct], 0⟩] scope pos) 1 it2 acc env)
              (fun r s₅ => match r with | .ok _ => ∃ m, m < n ∧ I m s₅ | .error e => cameBackBy (model prog w) A env (notedBy (model prog w) A env fun e s' => R (.error e) s') e s₅) s₄)
            (notedBy (model prog w) A env fun e s' => R (.error e) s') s₃) (notedBy (model prog w) A env fun e s' => R (.error e) s') s₂) (notedBy (model prog w) A env fun e s' => R (.error e) s') s₁) (notedBy (model prog w) A env fun e s' => R (.error e) s') s)
    (n : Nat) (h : I n s) (ht : ∀ v, letOwnedTupleGo t1 it v = pure () := by intro _; rfl) (hs : ∀ x, foldedSetIterable i2 env x = pure x := by intro _; rfl) :
    codeAny (model prog w) A (.compLoop (.ListComp elt [⟨t1, i1, [], 0⟩, ⟨t2, i2, [ct], 0⟩] scope pos) 0 it acc env) R s := by
  refine codeAny_loop rfl I (fun n s hI => ?_) n h
  show wpAny _ A ((compTurn (.ListComp elt [⟨t1, i1, [], 0⟩, ⟨t2, i2, [ct], 0⟩] scope pos) 0 it acc env).onRaise (fun x => do noteFrame x env; theTreesLotGoes x)) _ _ s
  refine wpAny_noted ?_
  have e : compTurn (.ListComp elt [⟨t1, i1, [], 0⟩, ⟨t2, i2, [ct], 0⟩] scope pos) 0 it acc env = (do
      standAt i1.pos
      match ← pyNext it with
      | none => pure (.done .next)
      | some v =>
        letOwnedTupleGo t1 it v
        assign t1 env v
        let mut ok := true
        for c in ([] : List PySem.Expr) do
          if ok then ok ← isTrue c env (eval c env)
        if ok then
          let x ← eval i2 env
          standAt i2.pos
          let x ← foldedSetIterable i2 env x
          let _ ← runOwn (.compStart (.ListComp elt [⟨t1, i1, [], 0⟩, ⟨t2, i2, [ct], 0⟩] scope pos) 1 (← holding [x] (pyIter x)) acc env) env
        again (.compLoop (.ListComp elt [⟨t1, i1, [], 0⟩, ⟨t2, i2, [ct], 0⟩] scope pos) 0 it acc env)) := by rfl
  rw [e]
  refine wpAny_bind (wpAny_standAt (wpAny_bind (wpAny_mono (turn n s hI) (fun r s₁ h₁ => ?_) fun _ _ h' => h')))
  cases r with
  | none => exact wpAny_pure h₁
  | some v =>
    refine wpAny_bind (wpAny_of_eq (ht v) ?_)
    refine wpAny_bind (wpAny_mono h₁ (fun _ s₂ h₂ => wpAny_bind (wpAny_tests_nil ?_)) fun _ _ h' => h')
    refine wpAny_bind (wpAny_mono h₂ (fun x s₃ h₃ => ?_) fun _ _ h' => h')
    refine wpAny_bind (wpAny_standAt (wpAny_bind (wpAny_of_eq (hs x) (wpAny_bind (wpAny_holding (wpAny_mono h₃ (fun it2 s₄ h₄ => ?_) fun _ _ h' => h'))))))
    refine wpAny_bind (wpAny_runOwn (codeAny_mono h₄ fun r s₅ h₅ => ?_))
    cases r with
    | ok f => exact wpAny_pure ⟨rfl, h₅⟩
    | error e => exact h₅
end

end
section
open PyProof.Rows.LCg
section
variable {prog : Program} {w : World} {A : Around} {s : Shared} {h₀ : Heap} {L : Addr} {m : Str → Option Value} {env : Env}
noncomputable def Turn2 (prog : Program) (w : World) (A : Around) (h₀ : Heap) (L : Addr) (m : Str → Option Value) (env : Env) (ct elt : PySem.Expr) (x y : Str) (scope : Scope) (cl : List (Str × Addr)) (s : Shared) (vx : Value) (n2 : Nat) (Inv : Nat → List Value → Led → Prop) : Prop :=
  ∀ (j : Nat) (ys : List Value) (news : Led) (I : Addr) (oI : Obj) (C : Addr) (oC : Obj) (D : Addr) (m₂ : Str → Option Value) (h : Heap) (tk : Nat) (t : Tok) (E' : Value → Shared → Prop), j < n2 → Inv j ys news → NsObj oC m₂ → m₂ x = some vx → m₂ y = some (.int (0 + (j : Int)) t) → Fr h₀ L h m → News h₀ L h ((I, oI) :: (C, oC) :: (D, lst ys) :: news) → Off3 I C D news → ((@Ne Nat I C) ∧ (@Ne Nat I D) ∧ (@Ne Nat C D)) →
      wpAny (model prog w) A (isTrue ct (compEnvC scope cl C env) (eval ct (compEnvC scope cl C env))) (fun ok s' => if ok = true then
        wpAny (model prog w) A (eval elt (compEnvC scope cl C env)) (CompEnd h₀ L m { s with heap := h, toks := tk } I oI C oC D (lst ys) (fun _ => True) (fun yv news' => Inv (j + 1) (ys ++ [yv]) news')) E' s'
        else CompEnd h₀ L m { s with heap := h, toks := tk } I oI C oC D (lst ys) (fun _ => True) (fun _ news' => Inv (j + 1) ys news') Value.none s') E' { s with heap := h, toks := tk }
/-- the inner clause's state after j turns -/
inductive In2 (h₀ : Heap) (L : Addr) (m : Str → Option Value) (s : Shared) (x : Str) (vx : Value) (n2 n0 : Nat) (I C D : Addr) (Inv : Nat → List Value → Led → Prop) : Nat → Shared → Prop
  | mk (h' : Heap) (tk j : Nat) (ys : List Value) (m' : Str → Option Value) (news' : Led) (hj : j ≤ n2) (hyl : ys.length ≤ n0 + j) (hst : IsRangeIter h' I (0 + (j : Int) * 1) ((n2 : Int) - (j : Int)) 1) (F : Fr h₀ L h' m) (hn : h'.Ns C m') (hm : m' x = some vx) (N : News h₀ L h' ((D, lst ys) :: news')) (off : Off3 I C D news') (hI : Inv j ys news') :
    In2 h₀ L m s x vx n2 n0 I C D Inv (n2 + 1 - j) { s with heap := h', toks := tk }
theorem inner2 {elt i1 i2 ct t1 : PySem.Expr} {x y : Str} {py : Pos} {scope : Scope} {cl : List (Str × Addr)} {pos : Pos} {vx : Value} {n2 : Nat} {Inv : Nat → List Value → Led → Prop} {I C D : Addr} {ys₀ : List Value} {news₀ : Led} {hp : Heap} {tk₀ : Nat} {m₁ : Str → Option Value} {R : Result → Shared → Prop}
   (hh : A.handled = none) (hkind : scope.kind = .function) (hy : scope.names.lookup y = some .local) (hxy : x ≠ y) (hyl : ys₀.length + n2 ≤ 1000)
   (hst : IsRangeIter hp I (0 + ((0 : Nat) : Int) * 1) ((n2 : Int) - ((0 : Nat) : Int)) 1) (F : Fr h₀ L hp m) (hn : hp.Ns C m₁) (hm : m₁ x = some vx) (N : News h₀ L hp ((D, lst ys₀) :: news₀)) (off : Off3 I C D news₀)
   (hIL : L ≠ I) (hI₀ : h₀.get? I = none) (hC₀ : h₀.get? C = none) (hCL : C ≠ L) (hIC : I ≠ C) (hID : I ≠ D) (hCD : C ≠ D)
   (T : Turn2 prog w A h₀ L m env ct elt x y scope cl s vx n2 Inv) (hI : Inv 0 ys₀ news₀)
   (fin : ∀ h tk m' ys news', Fr h₀ L h m → h.Ns C m' → News h₀ L h ((D, lst ys) :: news') → Off3 I C D news' → Inv n2 ys news' → ys.length ≤ ys₀.length + n2 → R (.ok .next) { s with heap := h, toks := tk }) :
   codeAny (model prog w) A (.compLoop (.ListComp elt [⟨t1, i1, [], 0⟩, ⟨.Name y py, i2, [ct], 0⟩] scope pos) 1 (.ref I) (.ref D) (compEnvC scope cl C env)) R { s with heap := hp, toks := tk₀ } := by
  have W := range_walks (prog := prog) (w := w) (A := A) (I := I) hh 0 n2
  have hD := N (D, lst ys₀) (.head _)
  have hD₀ : h₀.get? D = none := hD.2.2
  have hDL : D ≠ L := hD.2.1
  refine compLoop_in
    (In2 h₀ L m s x vx n2 ys₀.length I C D Inv) ?_ (n2 + 1)
      (In2.mk hp tk₀ 0 ys₀ m₁ news₀ (Nat.zero_le _) (Nat.le_refl _) hst F hn hm N off hI)
  rintro k s' ⟨h', tk, j, ys, m', news', hj, hyl', hst', F', hn', hm', N', off', hI'⟩
  by_cases hlt : j < n2
  · refine W.item j _ _ _ hlt hst' fun v h₂ tk₂ hPv hst₂ hk₂ => ?_
    obtain ⟨tv, rfl⟩ := hPv
    refine wpAny_assign_Name (wpAny_storeName_local (lookup_relabel_local hy) (hn'.at' fun o e => hk₂ _ o (by simpa using Ne.symm hIC) e) (fun h₃ hn₃ hs₃ => ?_) (by simp [compEnvC, relabel, hkind]))
    have hst₃ : IsRangeIter h₃ I (0 + ((j + 1 : Nat) : Int) * 1) ((n2 : Int) - ((j + 1 : Nat) : Int)) 1 := W.frame _ _ _ hst₂ fun b hb o e => hs₃.extBut b o (fun q => hIC (by have q' : b = C := q; rw [← q', List.mem_singleton.mp hb])) e
    have heI : ∃ oI, h₃.get? I = some oI := ⟨_, hst₃⟩
    obtain ⟨oI, heI⟩ := heI
    obtain ⟨oC, heC, hoC⟩ := ns_obj hn₃
    have F₃ : Fr h₀ L h₃ m := (fr_but F' hk₂ hIL hI₀).change hs₃ hCL hC₀
    have off3 := off'.mem
    have N₂ : News h₀ L h₂ ((D, lst ys) :: news') := news_but N' hk₂ fun p hp => by
      rcases List.mem_cons.mp hp with rfl | hp
      · exact Ne.symm hID
      · exact (off3 p hp).1
    have N₃ : News h₀ L h₃ ((I, oI) :: (C, oC) :: (D, lst ys) :: news') := fun p hp => by
      rcases List.mem_cons.mp hp with rfl | hp
      · exact ⟨heI, Ne.symm hIL, hI₀⟩
      · rcases List.mem_cons.mp hp with rfl | hp
        · exact ⟨heC, hCL, hC₀⟩
        · have z := N₂ p hp
          refine ⟨hs₃.extBut _ _ ?_ z.1, z.2⟩
          rcases List.mem_cons.mp hp with rfl | hp
          · exact Ne.symm hCD
          · exact (off3 p hp).2.1
    refine wpAny_mono (T j ys news' I oI C oC D _ h₃ _ tv _ hlt hI' hoC (by simp [hxy, hm']) (by simp) F₃ N₃ off' ⟨hIC, hID, hCD⟩) (fun ok s₄ h₄ => ?_) fun _ _ e => e
    cases ok with
    | true =>
      simp only [if_true] at h₄ ⊢
      refine wpAny_mono h₄ (fun yv s₅ h₅ => ?_) fun _ _ e => e
      apply compEnd_elim h₅
      clear h₅
      intro h₄ tk₄ news₄ F₄ N₄ off₄ R₄
      have zI := (N₄ (I, oI) List.mem_cons_self).1
      have zC := (N₄ (C, oC) (List.mem_cons_of_mem _ List.mem_cons_self)).1
      have zD := (N₄ (D, lst ys) (List.mem_cons_of_mem _ (List.mem_cons_of_mem _ List.mem_cons_self))).1
      have N₄' : News h₀ L h₄ news₄ := fun p hp => N₄ p (List.mem_cons_of_mem _ (List.mem_cons_of_mem _ (List.mem_cons_of_mem _ hp)))
      have hst₄ : IsRangeIter h₄ I (0 + ((j + 1 : Nat) : Int) * 1) ((n2 : Int) - ((j + 1 : Nat) : Int)) 1 := range_st (h₀ := h₀) (L := L) _ _ _ _ _ hst₃ heI zI F₄.keep N₄' trivial
      refine append_at (hsz := by show ys.toArray.size ≤ sizeLine; rw [List.size_toArray, PySem.sizeLine_eq]; omega) zD fun h₅ hs₅ hD₅ => ?_
      have off4 := off₄.mem
      refine ⟨n2 + 1 - (j + 1), Nat.sub_lt_sub_left (Nat.lt_succ_of_lt hlt) (Nat.lt_succ_self j), In2.mk h₅ tk₄ (j + 1) (ys ++ [yv]) _ news₄ hlt (by rw [List.length_append, List.length_singleton]; exact Nat.succ_le_succ hyl') (W.frame _ _ _ hst₄ fun b hb o e => hs₅.extBut b o (fun q => hID (by have q' : b = D := q; rw [← q', List.mem_singleton.mp hb])) e) (F₄.change hs₅ hDL hD₀)
        ((hoC.ns zC).sameBut hs₅ hCD) (by simp [hxy, hm']) (fun p hp => ?_) off₄ R₄⟩
      rcases List.mem_cons.mp hp with rfl | hp
      · exact ⟨hD₅.trans (congrArg some (lst_snoc ys yv)), hDL, hD₀⟩
      · exact ⟨hs₅.extBut _ _ (off4 p hp).2.2 (N₄' p hp).1, (N₄' p hp).2⟩
    | false =>
      simp only [Bool.false_eq_true, if_false] at h₄ ⊢
      apply compEnd_elim h₄
      clear h₄
      intro h₅ tk₄ news₄ F₄ N₄ off₄ R₄
      have zI := (N₄ (I, oI) List.mem_cons_self).1
      have zC := (N₄ (C, oC) (List.mem_cons_of_mem _ List.mem_cons_self)).1
      have N₄' : News h₀ L h₅ news₄ := fun p hp => N₄ p (List.mem_cons_of_mem _ (List.mem_cons_of_mem _ (List.mem_cons_of_mem _ hp)))
      have hst₄ : IsRangeIter h₅ I (0 + ((j + 1 : Nat) : Int) * 1) ((n2 : Int) - ((j + 1 : Nat) : Int)) 1 := range_st (h₀ := h₀) (L := L) _ _ _ _ _ hst₃ heI zI F₄.keep N₄' trivial
      refine ⟨n2 + 1 - (j + 1), Nat.sub_lt_sub_left (Nat.lt_succ_of_lt hlt) (Nat.lt_succ_self j), In2.mk h₅ tk₄ (j + 1) ys _ news₄ hlt (Nat.le_succ_of_le hyl') hst₄ F₄ (hoC.ns zC) (by simp [hxy, hm']) (fun p hp => ?_) off₄ R₄⟩
      rcases List.mem_cons.mp hp with rfl | hp
      · exact N₄ _ (List.mem_cons_of_mem _ (List.mem_cons_of_mem _ List.mem_cons_self))
      · exact N₄' p hp
  · obtain rfl : j = n2 := Nat.le_antisymm hj (Nat.not_lt.mp hlt)
    refine W.done _ _ _ hst' fun h₂ tk₂ hk₂ => ?_
    have off3 := off'.mem
    exact fin h₂ tk₂ m' ys news' (fr_but F' hk₂ hIL hI₀) (hn'.at' fun o e => hk₂ _ o (by simpa using Ne.symm hIC) e) (news_but N' hk₂ fun p hp => by
      rcases List.mem_cons.mp hp with rfl | hp
      · exact Ne.symm hID
      · exact (off3 p hp).1) off' hI' hyl'
end

end
section
open PyProof.Rows.LCg
section
variable {prog : Program} {w : World} {A : Around} {s : Shared} {h₀ : Heap} {L : Addr} {m : Str → Option Value} {env : Env}
/-- the inner clause's invariant, made from the two clauses' own -/
noncomputable def InJ (h₀ : Heap) (ax : Addr) (its : Array Value) (J : Nat → Nat → List Value → Led → Prop) (i : Nat) (I1 : Addr) (oI1 : Obj) (j : Nat) (ys : List Value) (newsI : Led) : Prop :=
  ∃ news, newsI = (I1, oI1) :: news ∧ J i j ys news ∧ SrcAt h₀ ax its news ∧ ∀ p ∈ news, p.1 ≠ I1
/-- the outer clause's state after i turns -/
inductive Ou2 (h₀ : Heap) (L : Addr) (m : Str → Option Value) (s : Shared) (n2 : Nat) (its : Array Value) (I C D ax : Addr) (J : Nat → Nat → List Value → Led → Prop) : Nat → Shared → Prop
  | mk (h' : Heap) (tk i : Nat) (ys : List Value) (m' : Str → Option Value) (news' : Led) (hi : i ≤ its.size) (hyl : ys.length ≤ i * n2) (hst : h'.IsListIter I ax i ∧ h'.IsList ax its) (F : Fr h₀ L h' m) (hn : h'.Ns C m') (N : News h₀ L h' ((D, lst ys) :: news')) (off : Off3 I C D news') (hS : SrcAt h₀ ax its news') (hJ : J i 0 ys news') :
    Ou2 h₀ L m s n2 its I C D ax J (its.size + 1 - i) { s with heap := h', toks := tk }
theorem outer2 {elt i1 i2 ct : PySem.Expr} {x y : Str} {px py : Pos} {scope : Scope} {cl : List (Str × Addr)} {pos : Pos} {n2 : Nat} {J : Nat → Nat → List Value → Led → Prop} {I C D ax : Addr} {its : Array Value} {news₀ : Led} {hp : Heap} {tk₀ : Nat} {m₁ : Str → Option Value} {R : Result → Shared → Prop}
   (hh : A.handled = none) (hkind : scope.kind = .function) (hx : scope.names.lookup x = some .local) (hy : scope.names.lookup y = some .local) (hxy : x ≠ y) (hB : its.size * n2 + n2 ≤ 1000)
   (hsm : Builtin.Range.small 0 n2 1 = true) (hrs : Builtin.Range.rangeSize 0 n2 1 = ((n2 : Nat) : Int))
   (hIax : ax ≠ I) (hfs : ∀ C x, foldedSetIterable i2 (compEnvC scope cl C env) x = pure x) (hst : hp.IsListIter I ax 0 ∧ hp.IsList ax its) (F : Fr h₀ L hp m) (hn : hp.Ns C m₁) (N : News h₀ L hp ((D, lst []) :: news₀)) (off : Off3 I C D news₀) (hS : SrcAt h₀ ax its news₀)
   (hIL : L ≠ I) (hI₀ : h₀.get? I = none) (hC₀ : h₀.get? C = none) (hCL : C ≠ L) (hIC : I ≠ C) (hID : I ≠ D) (hCD : C ≠ D)
   (HR : ∀ (C : Addr) (oC : Obj) (m₂ : Str → Option Value) (h : Heap) (tk : Nat) (news : Led) (E' : Value → Shared → Prop), NsObj oC m₂ → Fr h₀ L h m → News h₀ L h news → wpAny (model prog w) A (eval i2 (compEnvC scope cl C env)) (fun xv s' => ∃ r h' tk' t u v, xv = .ref r ∧ s' = { s with heap := h', toks := tk' } ∧ IsRange h' r 0 n2 1 t u v ∧ (∀ b o, h.get? b = some o → h'.get? b = some o)) E' { s with heap := h, toks := tk })
   (T : ∀ i v oI, i < its.size → its[i]? = some v → Turn2 prog w A h₀ L m env ct elt x y scope cl s v n2 (InJ h₀ ax its J i I oI)) (hJ : J 0 0 [] news₀) (hJn : ∀ i ys news, J i n2 ys news → J (i + 1) 0 ys news)
   (fin : ∀ h tk m' ys news', Fr h₀ L h m → h.Ns C m' → News h₀ L h ((D, lst ys) :: news') → Off3 I C D news' → J its.size 0 ys news' → R (.ok .next) { s with heap := h, toks := tk }) :
   codeAny (model prog w) A (.compLoop (.ListComp elt [⟨.Name x px, i1, [], 0⟩, ⟨.Name y py, i2, [ct], 0⟩] scope pos) 0 (.ref I) (.ref D) (compEnvC scope cl C env)) R { s with heap := hp, toks := tk₀ } := by
  have W := Walks.list (prog := prog) (w := w) (A := A) hh I ax hIax its
  have hD := N (D, lst []) (.head _)
  have hD₀ : h₀.get? D = none := hD.2.2
  have hDL : D ≠ L := hD.2.1
  refine compLoop_out
    (Ou2 h₀ L m s n2 its I C D ax J) ?_ (its.size + 1)
      (Ou2.mk hp tk₀ 0 [] m₁ news₀ (Nat.zero_le _) (Nat.zero_le _) hst F hn N off hS hJ) (hs := hfs C)
  rintro k s' ⟨h', tk, i, ys, m', news', hi, hyl', hst', F', hn', N', off', hS', hJ'⟩
  by_cases hlt : i < its.size
  · refine W.item i _ _ _ hlt hst' fun v h₂ tk₂ hPv hst₂ hk₂ => ?_
    refine wpAny_assign_Name (wpAny_storeName_local (lookup_relabel_local hx) (hn'.at' fun o e => hk₂ _ o (by simpa using Ne.symm hIC) e) (fun h₃ hn₃ hs₃ => ?_) (by simp [compEnvC, relabel, hkind]))
    have hCax : C ≠ ax := fun q => by
      obtain ⟨o, e, r⟩ := hst₂.2
      obtain ⟨o', es, ep, e', hd', _⟩ := hn'.at' (h' := h₂) fun o e => hk₂ _ o (by simpa using Ne.symm hIC) e
      rw [q, e] at e'
      cases e'
      obtain ⟨_, n, hd⟩ := r
      rw [hd] at hd'
      cases hd'
    have hst₃ : h₃.IsListIter I ax (i + 1) ∧ h₃.IsList ax its := W.frame _ _ _ hst₂ fun b hb o e => hs₃.extBut b o (fun q => by
      have q' : b = C := q
      rcases List.mem_cons.mp hb with e1 | e1
      · exact hIC (by rw [← q', e1])
      · exact hCax (by rw [← q', List.mem_singleton.mp e1])) e
    obtain ⟨oC, heC, hoC⟩ := ns_obj hn₃
    have F₃ : Fr h₀ L h₃ m := (fr_but F' hk₂ hIL hI₀).change hs₃ hCL hC₀
    have off3 := off'.mem
    have N₂ : News h₀ L h₂ ((D, lst ys) :: news') := news_but N' hk₂ fun p hp => by
      rcases List.mem_cons.mp hp with rfl | hp
      · exact Ne.symm hID
      · exact (off3 p hp).1
    have N₃ : News h₀ L h₃ ((D, lst ys) :: news') := fun p hp => by
      have z := N₂ p hp
      refine ⟨hs₃.extBut _ _ ?_ z.1, z.2⟩
      rcases List.mem_cons.mp hp with rfl | hp
      · exact Ne.symm hCD
      · exact (off3 p hp).2.1
    refine wpAny_mono (HR C oC _ h₃ _ _ _ hoC F₃ N₃) (fun xv s₄ h₄ => ?_) fun _ _ e => e
    obtain ⟨r, h₄, tk₄, t, u, v', rfl, rfl, hr, hk₄⟩ := h₄
    refine wpAny_pyIter_range hr hsm ?_
    dsimp only
    generalize hH : h₄.push _ = H5
    have hsz : H5.objs.size = h₄.objs.size + 1 := by rw [← hH, Heap.size_push]
    have up : ∀ b o, h₃.get? b = some o → H5.get? b = some o := fun b o e => by rw [← hH]; exact Heap.get?_push_of_some _ (hk₄ b o e)
    have hI2 : IsRangeIter H5 h₄.objs.size (0 + ((0 : Nat) : Int) * 1) ((n2 : Int) - ((0 : Nat) : Int)) 1 := by
      rw [← hH]
      show (h₄.push _).get? _ = some _
      rw [hrs]
      simpa using Heap.get?_push_size _ rfl
    have lt4 : ∀ b o, h₃.get? b = some o → b ≠ h₄.objs.size := fun b o e => Nat.ne_of_lt (Heap.lt_size (hk₄ b o e))
    obtain ⟨oI, heI, hoI⟩ := hst₃.1
    have hDg := (N₃ (D, lst ys) (.head _)).1
    have F₅ : Fr h₀ L H5 m := F₃.keeps up
    have n₅ : H5.Ns C (fun z => if z = x then some v else m' z) := hn₃.at' fun o e => up _ o e
    have hI2₀ : h₀.get? h₄.objs.size = none := by
      cases e : h₀.get? h₄.objs.size with
      | none => rfl
      | some o => exact absurd rfl (lt4 _ o (F₃.keep _ o e))
    have hI2L : L ≠ h₄.objs.size := by
      obtain ⟨o, es, ep, e, _⟩ := F₃.ns
      exact lt4 _ _ e
    have N₅ : News h₀ L H5 ((D, lst ys) :: (I, oI) :: news') := fun p hp => by
      rcases List.mem_cons.mp hp with rfl | hp
      · exact ⟨up _ _ hDg, hDL, hD₀⟩
      · rcases List.mem_cons.mp hp with rfl | hp
        · exact ⟨up _ _ heI, Ne.symm hIL, hI₀⟩
        · exact ⟨up _ _ (N₃ p (.tail _ hp)).1, (N₃ p (.tail _ hp)).2⟩
    have off₅ : Off3 h₄.objs.size C D ((I, oI) :: news') := Off3.of fun p hp => by
      rcases List.mem_cons.mp hp with rfl | hp
      · exact ⟨lt4 _ _ heI, hIC, hID⟩
      · exact ⟨lt4 _ _ (N₃ p (.tail _ hp)).1, (off3 p hp).2⟩
    have W2 := range_walks (prog := prog) (w := w) (A := A) (I := h₄.objs.size) hh 0 n2
    have hb : i * n2 ≤ its.size * n2 := Nat.mul_le_mul_right n2 (Nat.le_of_lt hlt)
    refine (fun key => compStart_in key (W2.self 0 _ _ _ hI2 key)) ?_
    refine inner2 (Inv := InJ h₀ ax its J i I oI) hh hkind hy hxy (by omega) hI2 F₅ n₅ (by simp) N₅ off₅ hI2L hI2₀ hC₀ hCL (Ne.symm (lt4 _ _ heC)) (Ne.symm (lt4 _ _ hDg)) hCD (T i v oI hlt hPv) ⟨news', rfl, hJ', hS', fun p hp => (off3 p hp).1⟩ ?_
    rintro h₆ tk₆ m₆ ys₆ newsI F₆ n₆ N₆ off₆ ⟨news₆, rfl, hJ₆, hS₆, offI⟩ hl₆
    have N₇ : News h₀ L h₆ news₆ := fun p hp => N₆ p (.tail _ (.tail _ hp))
    have off7 := off₆.mem
    refine ⟨its.size + 1 - (i + 1), Nat.sub_lt_sub_left (Nat.lt_succ_of_lt hlt) (Nat.lt_succ_self i), Ou2.mk h₆ tk₆ (i + 1) ys₆ m₆ news₆ hlt (by rw [Nat.succ_mul]; exact Nat.le_trans hl₆ (Nat.add_le_add_right hyl' n2)) ⟨⟨oI, (N₆ (I, oI) (.tail _ (.head _))).1, hoI⟩, hS₆.list F₆.keep N₇⟩ F₆ n₆ (fun p hp => ?_) ?_ hS₆ (hJn _ _ _ hJ₆)⟩
    · rcases List.mem_cons.mp hp with rfl | hp
      · exact N₆ _ (.head _)
      · exact N₇ p hp
    · exact Off3.of fun p hp => ⟨offI p hp, (off7 p (.tail _ hp)).2⟩
  · obtain rfl : i = its.size := Nat.le_antisymm hi (Nat.not_lt.mp hlt)
    refine W.done _ _ _ hst' fun h₂ tk₂ hk₂ => ?_
    have off3 := off'.mem
    exact fin h₂ tk₂ m' ys news' (fr_but F' hk₂ hIL hI₀) (hn'.at' fun o e => hk₂ _ o (by simpa using Ne.symm hIC) e) (news_but N' hk₂ fun p hp => by
      rcases List.mem_cons.mp hp with rfl | hp
      · exact Ne.symm hID
      · exact (off3 p hp).1) off' hJ'
end

end
section
open PyProof.Rows.LCg
section
variable {prog : Program} {w : World} {A : Around} {E : Value → Shared → Prop} {s : Shared} {h₀ : Heap} {L : Addr} {m : Str → Option Value} {env : Env}
theorem block2 {elt i1 i2 ct : PySem.Expr} {x y : Str} {px py : Pos} {scope : Scope} {cl : List (Str × Addr)} {pos : Pos} {n2 : Nat} {J : Nat → Nat → List Value → Led → Prop} {I ax : Addr} {its : Array Value} {news : Led} {hp : Heap} {tk₀ : Nat} {RR : Value → Addr → Result → Shared → Prop}
   (hh : A.handled = none) (hcell : ∀ y ∈ scope.names, y.2 ≠ .cell) (hkind : scope.kind = .function) (hx : scope.names.lookup x = some .local) (hy : scope.names.lookup y = some .local) (hxy : x ≠ y) (hB : its.size * n2 + n2 ≤ 1000)
   (hsm : Builtin.Range.small 0 n2 1 = true) (hrs : Builtin.Range.rangeSize 0 n2 1 = ((n2 : Nat) : Int))
   (hIax : ax ≠ I) (hfs : ∀ C x, foldedSetIterable i2 (compEnvC scope cl C env) x = pure x) (hst : hp.IsListIter I ax 0 ∧ hp.IsList ax its) (F : Fr h₀ L hp m) (N : News h₀ L hp news) (off : ∀ p ∈ news, p.1 ≠ I) (hS : SrcAt h₀ ax its news)
   (hIL : L ≠ I) (hI₀ : h₀.get? I = none)
   (HR : ∀ (C : Addr) (oC : Obj) (m₂ : Str → Option Value) (h : Heap) (tk : Nat) (news : Led) (E' : Value → Shared → Prop), NsObj oC m₂ → Fr h₀ L h m → News h₀ L h news → wpAny (model prog w) A (eval i2 (compEnvC scope cl C env)) (fun xv s' => ∃ r h' tk' t u v, xv = .ref r ∧ s' = { s with heap := h', toks := tk' } ∧ IsRange h' r 0 n2 1 t u v ∧ (∀ b o, h.get? b = some o → h'.get? b = some o)) E' { s with heap := h, toks := tk })
   (T : ∀ i v oI, i < its.size → its[i]? = some v → Turn2 prog w A h₀ L m env ct elt x y scope cl s v n2 (InJ h₀ ax its J i I oI)) (hJ : J 0 0 [] news) (hJn : ∀ i ys news, J i n2 ys news → J (i + 1) 0 ys news)
   (hRR : ∀ D C h tk m' ys news', Fr h₀ L h m → News h₀ L h ((D, lst ys) :: news') → Off1 D news' → h.Ns C m' → h₀.get? C = none → h₀.get? D = none → C ≠ L → D ≠ L → C ≠ D → (∀ p ∈ news', p.1 ≠ C) → J its.size 0 ys news' → RR (.ref D) C (.ok .next) { s with heap := h, toks := tk }) :
   wpAny (model prog w) A (newList []) (fun acc s₃ => wpAny (model prog w) A (newFunctionEnv scope env.globals cl [] env.qual none .none (some env)) (fun cenv s₄ =>
      codeAny (model prog w) A (.compStart (.ListComp elt [⟨.Name x px, i1, [], 0⟩, ⟨.Name y py, i2, [ct], 0⟩] scope pos) 0 (.ref I) acc { cenv with scope := relabel scope env }) (RR acc cenv.locals) s₄) E s₃) E { s with heap := hp, toks := tk₀ } := by
  have W := Walks.list (prog := prog) (w := w) (A := A) hh I ax hIax its
  refine wpAny_newObj_type (wpAny_newFunctionEnv hcell (by intro y hy; simp at hy) (fun h₁ hns₁ hsb₁ => ?_) hkind)
  dsimp only at hns₁ hsb₁ ⊢
  generalize hH2 : hp.push { cls := .type "list", dict := none, data := .seq ([] : List Value).toArray } = H2 at hns₁ hsb₁ ⊢
  have hC : H2.objs.size = hp.objs.size + 1 := by rw [← hH2, Heap.size_push]
  have hDC : hp.objs.size ≠ H2.objs.size := by rw [hC]; exact Nat.ne_of_lt (Nat.lt_succ_self _)
  have below : ∀ b, b < hp.objs.size → b ≠ H2.objs.size ∧ b ≠ hp.objs.size := fun b hb => ⟨by rw [hC]; exact Nat.ne_of_lt (Nat.lt_succ_of_lt hb), Nat.ne_of_lt hb⟩
  obtain ⟨oI, heI, _⟩ := id hst.1
  have hIlt : I < hp.objs.size := Heap.lt_size heI
  have old : ∀ b o, hp.get? b = some o → h₁.get? b = some o := fun b o e => hsb₁.extBut b o (below b (Heap.lt_size e)).1 (Heap.get?_push_of_some _ (hH2 ▸ Heap.get?_push_of_some _ e))
  have hacc : h₁.get? hp.objs.size = some (lst []) := hsb₁.extBut _ _ hDC (Heap.get?_push_of_some _ (hH2 ▸ Heap.get?_push_size _ rfl))
  have hst₁ : h₁.IsListIter I ax 0 ∧ h₁.IsList ax its := W.frame _ _ _ hst fun b _ o e => old b o e
  have fresh : ∀ a, hp.objs.size ≤ a → hp.get? a = none := fun a ha => by
    cases e : hp.get? a with
    | none => rfl
    | some o' => exact absurd (Heap.lt_size e) (Nat.not_lt.mpr ha)
  have fresh₀ : ∀ a, hp.objs.size ≤ a → h₀.get? a = none := fun a ha => by
    cases e : h₀.get? a with
    | none => rfl
    | some o' => have := F.keep a o' e; rw [fresh a ha] at this; cases this
  have hD₀ : h₀.get? hp.objs.size = none := fresh₀ _ (Nat.le_refl _)
  have hC₀ : h₀.get? H2.objs.size = none := fresh₀ _ (by rw [hC]; exact Nat.le_succ _)
  have hLlt : L < hp.objs.size := F.ns.lt
  have hDL : hp.objs.size ≠ L := Ne.symm (below L hLlt).2
  have hCL : H2.objs.size ≠ L := Ne.symm (below L hLlt).1
  have hCI : I ≠ H2.objs.size := (below I hIlt).1
  have hDI : I ≠ hp.objs.size := (below I hIlt).2
  have off₀ : Off3 I H2.objs.size hp.objs.size news := Off3.of fun p hp' => ⟨off p hp', (below _ (Heap.lt_size (N p hp').1)).1, (below _ (Heap.lt_size (N p hp').1)).2⟩
  have N₁ : News h₀ L h₁ ((hp.objs.size, lst []) :: news) := fun p hp' => by
    rcases List.mem_cons.mp hp' with rfl | hp'
    · exact ⟨hacc, hDL, hD₀⟩
    · exact ⟨old _ _ (N p hp').1, (N p hp').2⟩
  have key := outer2 (prog := prog) (w := w) (A := A) (s := s) (env := env) (elt := elt) (i1 := i1) (px := px) (py := py) (pos := pos) (tk₀ := tk₀ + ([] : List (Str × Value)).length) (R := RR (.ref hp.objs.size) H2.objs.size)
    hh hkind hx hy hxy hB hsm hrs hIax hfs hst₁ (F.keeps old) hns₁ N₁ off₀ hS hIL hI₀ hC₀ hCL hCI hDI (Ne.symm hDC) HR T hJ hJn
    (fun h tk m' ys news' F' hn' N' off' hJ' => hRR _ _ h tk m' ys news' F' N' off'.one hn' hC₀ hD₀ hCL hDL (Ne.symm hDC) (fun p hp => (off'.mem p hp).2.1) hJ')
  exact codeAny_compStart_list key (W.self 0 _ _ _ hst₁ key)
theorem assign_comp2 {elt i1 i2 ct : PySem.Expr} {x y z : Str} {px py pz : Pos} {scope : Scope} {cl : List (Str × Addr)} {pos spos : Pos} {n2 : Nat} {J : Nat → Nat → List Value → Led → Prop} {its : Array Value} {Q : Flow → Shared → Prop} (F₀ : Fr h₀ L s.heap m) (hLe : env.locals = L)
    (hsw : swapsWith (.ListComp elt [⟨.Name x px, i1, [], 0⟩, ⟨.Name y py, i2, [ct], 0⟩] scope pos) (some (.Name z pz)) spos.line env = pure true)
    (hclos : closureFor scope env = pure cl) (hcell : ∀ z ∈ scope.names, z.2 ≠ .cell) (hkind : scope.kind = .function)
    (hnames : ∀ z ∈ scope.names, z.2 = .local → scope.names.lookup z.1 = some .local) (hx : scope.names.lookup x = some .local) (hy : scope.names.lookup y = some .local) (hxy : x ≠ y)
    (hz : env.kindOf z = some .local) (hp : (env.scope.kind == .class || (env.scope.kind == .module && env.locals != env.globals)) = false)
    (hh : A.handled = none) (hB : its.size * n2 + n2 ≤ 1000) (hsm : Builtin.Range.small 0 n2 1 = true) (hrs : Builtin.Range.rangeSize 0 n2 1 = ((n2 : Nat) : Int)) (hfs : ∀ C x, foldedSetIterable i2 (compEnvC scope cl C env) x = pure x) (hs : ∀ x, foldedSetIterable i1 env x = pure x)
    (HR : ∀ (C : Addr) (oC : Obj) (m₂ : Str → Option Value) (h : Heap) (tk : Nat) (news : Led) (E' : Value → Shared → Prop), NsObj oC m₂ → Fr h₀ L h m → News h₀ L h news → wpAny (model prog w) A (eval i2 (compEnvC scope cl C env)) (fun xv s' => ∃ r h' tk' t u v, xv = .ref r ∧ s' = { s with heap := h', toks := tk' } ∧ IsRange h' r 0 n2 1 t u v ∧ (∀ b o, h.get? b = some o → h'.get? b = some o)) E' { s with heap := h, toks := tk })
    (T : ∀ ax I i v oI, i < its.size → its[i]? = some v → Turn2 prog w A h₀ L m env ct elt x y scope cl s v n2 (InJ h₀ ax its J i I oI)) (hJn : ∀ i ys news, J i n2 ys news → J (i + 1) 0 ys news)
    (h : wpAny (model prog w) A (eval i1 env) (fun xv s₁ => ∃ ax news h tk, xv = .ref ax ∧ s₁ = { s with heap := h, toks := tk } ∧ Fr h₀ L h m ∧ News h₀ L h news ∧ SrcAt h₀ ax its news ∧ J 0 0 [] news) E s)
    (fin : ∀ D h tk ys news', Fr h₀ L h (fun u => if u = z then some (.ref D) else m u) → News h₀ L h ((D, lst ys) :: news') → Off1 D news' → J its.size 0 ys news' → Q .next { s with heap := h, toks := tk }) :
    wpAny (model prog w) A (exec (.Assign [.Name z pz] (.ListComp elt [⟨.Name x px, i1, [], 0⟩, ⟨.Name y py, i2, [ct], 0⟩] scope pos) spos) env) Q E s := by
  subst hLe
  rw [exec_Assign_Name_used _ _ _ _ hsw]
  refine wpAny_bind (wpAny_standAt (wpAny_bind ?_))
  show wpAny _ A (do let _ ← comprehension (.ListComp elt [⟨.Name x px, i1, [], 0⟩, ⟨.Name y py, i2, [ct], 0⟩] scope pos) scope env _ (newList []) false (eval i1 env) (some (assign (.Name z pz) env))) _ _ s
  refine wpAny_bind (wpAny_mono (wpAny_comprehension_free (use := some (assign (.Name z pz) env)) (Q := fun _ s' => Q .next s') rfl hs hclos hkind hnames
    (wpAny_mono h (fun xv s₁ h₁ => ?_) fun _ _ e => e)) (fun _ s' hq => wpAny_pure (wpAny_pure hq)) fun _ _ e => e)
  obtain ⟨ax, news, h1, tk1, rfl, rfl, F, N, S, hJ⟩ := h₁
  have hl := S.list F.keep N
  have hlt : ax < h1.objs.size := by obtain ⟨_, e, _⟩ := hl; exact Heap.lt_size e
  refine wpAny_pyIter_list hl ?_
  have up : ∀ b o, h1.get? b = some o → (h1.push { cls := .type "list_iterator", data := .fields #[.ref ax, .int 0 0] }).get? b = some o := fun b o e => Heap.get?_push_of_some _ e
  refine block2 (s := s) hh hcell hkind hx hy hxy hB hsm hrs (Nat.ne_of_lt hlt) hfs ⟨⟨_, Heap.get?_push_size _ rfl, rfl, rfl⟩, hl.push _⟩ (F.keeps up) (N.grown up) (fun p hp => Nat.ne_of_lt (Heap.lt_size (N p hp).1)) S (Nat.ne_of_lt F.ns.lt) (next_is_new F) HR (T ax _) hJ hJn ?_
  intro D C h' tk m' ys news' F' N' o1 hn hC₀ hD₀ hCL hDL hCD offC hJ'
  show wpAny _ A (assign (.Name z pz) env (.ref D)) _ _ _
  refine wpAny_assign_Name (wpAny_storeName_local hz F'.ns (fun h₂ hn₂ hs₂ => ?_) hp)
  have hL₀ : h₀.get? env.locals = none := Heap.get?_none_of_le F'.above
  have F₂ : Fr h₀ env.locals h₂ (fun u => if u = z then some (.ref D) else m u) := ⟨hn₂, fun b o e => hs₂.extBut b o (fun q => by rw [q, hL₀] at e; cases e) (F'.keep b o e), F'.above⟩
  refine ⟨m', hn.sameBut hs₂ hCL, fun h'' hs'' => fin D h'' _ ys news' (F₂.change hs'' hCL hC₀) (fun p hp => ?_) o1 hJ'⟩
  have zz : h₂.get? p.1 = some p.2 := hs₂.extBut _ _ (N' p hp).2.1 (N' p hp).1
  refine ⟨hs''.extBut _ _ ?_ zz, (N' p hp).2⟩
  rcases List.mem_cons.mp hp with rfl | hp
  · exact Ne.symm hCD
  · exact offC p hp
end

end
section
/-- what the table of a code object that makes one def holds: nothing yet, or that def's code -/
inductive TabSt (P : Addr) (ln cl : Nat) (qual : Str) : Led → Prop
  | none : TabSt P ln cl qual [(P, tabObj #[])]
  | one (c' : Addr) (oc : Obj) (vs : Array Value) (t : Tok) : oc.data = .fields vs → vs[1]? = some (.str qual t) → TabSt P ln cl qual [(P, tabObj #[rawInt ln, rawInt cl, .ref c']), (c', oc)]

theorem TabSt.mem {P : Addr} {ln cl : Nat} {qual : Str} {l : Led} (h : TabSt P ln cl qual l) : ∃ o, (P, o) ∈ l := by cases h <;> exact ⟨_, .head _⟩
noncomputable def AllGe (d : Nat) : Led → Prop
  | [] => True
  | p :: r => @LE.le Nat _ d p.1 ∧ AllGe d r
theorem AllGe.at {d : Nat} {l : Led} (h : AllGe d l) : ∀ p ∈ l, @LE.le Nat _ d p.1 := by
  induction l with
  | nil => intro p hp; cases hp
  | cons q r ih =>
    intro p hp
    rcases List.mem_cons.mp hp with e | hp
    · rw [e]; exact h.1
    · exact ih h.2 p hp
/-- no address of the one is the other's -/
noncomputable def Dis (a b : Led) : Prop := ∀ q ∈ a, ∀ p ∈ b, p.1 ≠ q.1
noncomputable def AllNe (d : Nat) : Led → Prop
  | [] => True
  | p :: r => @Ne Nat p.1 d ∧ AllNe d r
theorem allNe_of {d : Nat} : ∀ {l : Led}, (∀ p ∈ l, @Ne Nat p.1 d) → AllNe d l
  | [], _ => trivial
  | p :: _, h => ⟨h p (.head _), allNe_of fun q hq => h q (.tail _ hq)⟩
theorem updF_app {d : Addr} {o : Obj} {rest : Led} : ∀ {pre : Led}, (∀ p ∈ pre, p.1 ≠ d) → (∀ p ∈ rest, p.1 ≠ d) → UpdF d o (pre ++ (d, o) :: rest) (fun o' => pre ++ (d, o') :: rest)
  | [], _, h => UpdF.head h
  | p :: r, hp, h => UpdF.tail (hp p (.head _)) (updF_app (fun q hq => hp q (.tail _ hq)) h)

section
variable {M : Model} {A : Around} {E : Value → Shared → Prop} {s : Shared} {h₀ : Heap} {L a c P : Addr} {m mg mb : Str → Option Value} {cn : Str} {cs : Scope} {ccd : Value} {cl : List (Str × Addr)} {pre tabs rest : Led}
  {p : Program} {loose : List Str} {mean : ExcName → Option Value} {name qual : Str} {params : Arguments} {body : List Stmt} {scope : Scope} {pos : Pos} {firstLine : Nat} {clos : List (Str × Addr)}
theorem nest_any {Q : Value → Shared → Prop} (F : Fr h₀ L s.heap m) (N : News h₀ L s.heap (pre ++ (tabs ++ rest))) (T : Top p loose mean mg mb h₀) (C : CodeHd h₀ c P) (hcd : ccd = .ref c)
    (hst : TabSt P pos.line pos.col qual tabs) {K : Nat} (hK : RestLt K (tabs ++ rest)) (hpK : AllGe K pre) (hd : Dis tabs rest)
    (hcl : closureFor scope (envX cn cs L a ccd cl) = pure clos)
    (h : ∀ f c' oc vs t ctv doc h' tk, Fr h₀ L h' m →
      News h₀ L h' ((f, fnMade name qual params body scope clos doc ((mg "__name__").getD .none) c' ctv) :: (pre ++ ((P, tabObj #[rawInt pos.line, rawInt pos.col, .ref c']) :: (c', oc) :: rest))) →
      oc.data = .fields vs → vs[1]? = some (.str qual t) → AllLt f pre → AllNe c' pre → (∀ p ∈ rest, p.1 ≠ c') → Q (.ref f) { s with heap := h', toks := tk }) :
    wpAny M A (makeFunction name qual params (.stmts body) scope (envX cn cs L a ccd cl) [] [] [] pos firstLine) Q E s := by
  have hp : ∀ p ∈ pre, p.1 ≠ P := fun p hp e => by
    obtain ⟨o, ho⟩ := hst.mem
    have h1 := hK _ (List.mem_append_left _ ho)
    have h2 := hpK.at p hp
    rw [e] at h2
    exact absurd h1 (Nat.not_lt.mpr h2)
  have hr : ∀ p ∈ rest, p.1 ≠ P := fun p hp => by
    obtain ⟨o, ho⟩ := hst.mem
    exact hd _ ho p hp
  cases hst with
  | none =>
    refine nest_K F N T C hcd (updF_app hp hr) (by exact True.intro) (by rfl) hcl fun f c' oc vs t ctv doc h' tk F' N' hcd' hv l1 l2 => ?_
    refine h f c' oc vs t ctv doc h' tk F' (fun q hq => N' q ?_) hcd' hv (allLt_of fun q hq => Nat.lt_trans (l1 q (List.mem_append_left _ hq)) l2) (allNe_of fun q hq => Nat.ne_of_lt (l1 q (List.mem_append_left _ hq))) (fun q hq => Nat.ne_of_lt (l1 q (List.mem_append_right _ (List.mem_append_right _ hq))))
    rcases List.mem_cons.mp hq with rfl | hq
    · exact .head _
    · refine .tail _ ?_
      rcases List.mem_append.mp hq with hq | hq
      · exact .tail _ (List.mem_append_left _ hq)
      · rcases List.mem_cons.mp hq with rfl | hq
        · exact .tail _ (List.mem_append_right _ (.head _))
        · rcases List.mem_cons.mp hq with rfl | hq
          · exact .head _
          · exact .tail _ (List.mem_append_right _ (.tail _ hq))
  | one c' oc vs t hcd' hv =>
    refine nestHit_K (c' := c') F N T C hcd (ps := #[rawInt pos.line, rawInt pos.col, .ref c']) (List.mem_append_right _ (.head _)) (by simp [TriplesOk, rawInt]) (by simp [codeAmong, rawInt]) hcl fun f ctv doc h' tk F' N' l1 => ?_
    refine h f c' oc vs t ctv doc h' tk F' (fun q hq => N' q ?_) hcd' hv (allLt_of fun q hq => l1 q (List.mem_append_left _ hq)) (allNe_of fun q hq => ?_) (hd (c', oc) (.tail _ (.head _)))
    · simpa using hq
    · have h1 := hK (c', oc) (List.mem_append_left _ (.tail _ (.head _)))
      have h2 := hpK.at q hq
      exact Nat.ne_of_gt (Nat.lt_of_lt_of_le h1 h2)
end
noncomputable abbrev q103 : Str := Str.ofString "_int2digits.<locals>.inner"
noncomputable abbrev q110 : Str := Str.ofString "_digits2int.<locals>.inner"
/-- both tables -/
noncomputable def Tabs (T rest : Led) : Prop := ∃ ta tb, T = ta ++ tb ∧ TabSt 103 92 4 q103 ta ∧ TabSt 110 107 4 q110 tb ∧ Dis ta (tb ++ rest) ∧ Dis tb rest
theorem Dis.app {a b c : Led} (h1 : Dis a b) (h2 : Dis a c) : Dis a (b ++ c) := fun q hq p hp => (List.mem_append.mp hp).elim (h1 q hq p) (h2 q hq p)
theorem Dis.left {a b c : Led} (h : Dis a (b ++ c)) : Dis a b := fun q hq p hp => h q hq p (List.mem_append_left _ hp)
theorem Dis.right {a b c : Led} (h : Dis a (b ++ c)) : Dis a c := fun q hq p hp => h q hq p (List.mem_append_right _ hp)
theorem Dis.flip {a b : Led} (h : Dis a b) : Dis b a := fun q hq p hp e => h p hp q hq e.symm
theorem Dis.app2 {a b c : Led} (h1 : Dis a c) (h2 : Dis b c) : Dis (a ++ b) c := fun q hq p hp => (List.mem_append.mp hq).elim (fun x => h1 q x p hp) (fun x => h2 q x p hp)
theorem Tabs.dis {T rest : Led} (h : Tabs T rest) : Dis T rest := by
  obtain ⟨ta, tb, rfl, _, _, h1, h2⟩ := h
  exact h1.right.app2 h2
theorem Dis.cons {a c : Led} {p : Addr × Obj} (h1 : ∀ q ∈ a, p.1 ≠ q.1) (h2 : Dis a c) : Dis a (p :: c) := fun q hq p' hp => by
  rcases List.mem_cons.mp hp with e | hp
  · rw [e]; exact h1 q hq
  · exact h2 q hq p' hp

end
section
theorem bits_of_lt {x : Int} {k : Nat} (h0 : 0 ≤ x) (h : x < 2 ^ k) : Builtin.Int.intBits x ≤ k := by
  refine intBits_le_iff.mpr ?_
  have : ((x.natAbs : Nat) : Int) < ((2 ^ k : Nat) : Int) := by
    rw [Int.natCast_pow]
    have : ((x.natAbs : Nat) : Int) = x := by omega
    rw [this]; exact_mod_cast h
  omega
theorem lt_of_bits {x : Int} {k : Nat} (h0 : 0 ≤ x) (h : Builtin.Int.intBits x ≤ k) : x < 2 ^ k := by
  have h1 := intBits_le_iff.mp h
  have : ((x.natAbs : Nat) : Int) < ((2 ^ k : Nat) : Int) := by omega
  rw [Int.natCast_pow] at this
  have e : ((x.natAbs : Nat) : Int) = x := by omega
  rw [e] at this; exact_mod_cast this
theorem two_pow_pos (k : Nat) : (0 : Int) < 2 ^ k := Int.pow_pos (by decide)
theorem nat_and_shift (x s : Nat) : x &&& (x / 2 ^ s * 2 ^ s) = x / 2 ^ s * 2 ^ s := by
  apply Nat.eq_of_testBit_eq
  intro i
  rw [Nat.testBit_and, ← Nat.shiftLeft_eq, ← Nat.shiftRight_eq_div_pow, Nat.testBit_shiftLeft]
  by_cases h : s ≤ i
  · simp [h, Nat.testBit_shiftRight]
  · simp [h]
theorem nat_and_low (a b h : Nat) (hb : b < 2 ^ h) : (a * 2 ^ h) &&& b = 0 := by
  apply Nat.eq_of_testBit_eq
  intro i
  rw [Nat.testBit_and, ← Nat.shiftLeft_eq, Nat.testBit_shiftLeft, Nat.zero_testBit]
  by_cases hi : h ≤ i
  · have : b.testBit i = false := Nat.testBit_lt_two_pow (Nat.lt_of_lt_of_le hb (Nat.pow_le_pow_right (by decide) hi))
    simp [this]
  · simp [hi]
theorem bitAnd_nat (x y : Nat) : Builtin.bitAnd (x : Int) (y : Int) = ((x &&& y : Nat) : Int) := by
  unfold Builtin.bitAnd
  have h1 : decide ((0 : Int) ≤ (x : Int)) = true := by simp
  have h2 : decide ((0 : Int) ≤ (y : Int)) = true := by simp
  rw [h1, h2]
  simp
theorem xor_low {x : Int} (hx : 0 ≤ x) (s : Nat) : Builtin.bitXor x (x.fdiv (2 ^ s) * 2 ^ s) = x.fmod (2 ^ s) := by
  obtain ⟨n, rfl⟩ := Int.eq_ofNat_of_zero_le hx
  have e1 : (n : Int).fdiv (2 ^ s) = ((n / 2 ^ s : Nat) : Int) := by
    rw [Int.fdiv_eq_ediv_of_nonneg _ (Int.le_of_lt (two_pow_pos s))]
    norm_cast
  have e2 : (n : Int).fdiv (2 ^ s) * 2 ^ s = ((n / 2 ^ s * 2 ^ s : Nat) : Int) := by rw [e1]; norm_cast
  rw [bitXor_and, e2, bitAnd_nat, nat_and_shift]
  have h1 := Int.mul_fdiv_add_fmod (n : Int) (2 ^ s)
  rw [Int.mul_comm, e2] at h1
  omega
theorem bitOr_and (x y : Int) : Builtin.bitOr x y = x + y - Builtin.bitAnd x y := by
  have h := bitXor_and x y
  unfold Builtin.bitXor at h
  omega
theorem or_add {a b : Int} {h : Nat} (ha : 0 ≤ a) (hb : 0 ≤ b) (hl : b < 2 ^ h) : Builtin.bitOr (a * 2 ^ h) b = a * 2 ^ h + b := by
  obtain ⟨m, rfl⟩ := Int.eq_ofNat_of_zero_le ha
  obtain ⟨n, rfl⟩ := Int.eq_ofNat_of_zero_le hb
  have e2 : (m : Int) * 2 ^ h = ((m * 2 ^ h : Nat) : Int) := by norm_cast
  rw [bitOr_and, e2, bitAnd_nat, nat_and_low _ _ _ (by exact_mod_cast hl)]
  simp
theorem and_mask {a : Int} (ha : 0 ≤ a) (h : Nat) : Builtin.bitAnd a (1 * 2 ^ h - 1) = a.fmod (2 ^ h) := by
  obtain ⟨m, rfl⟩ := Int.eq_ofNat_of_zero_le ha
  have e2 : (1 : Int) * 2 ^ h - 1 = ((2 ^ h - 1 : Nat) : Int) := by
    have h1 : 1 ≤ 2 ^ h := Nat.one_le_two_pow
    have e3 : ((2 ^ h : Nat) : Int) = 2 ^ h := by norm_cast
    rw [Int.one_mul, ← e3]
    generalize 2 ^ h = y at h1
    omega
  rw [e2, bitAnd_nat, Nat.and_two_pow_sub_one_eq_mod, Int.fmod_eq_emod_of_nonneg _ (Int.le_of_lt (two_pow_pos h))]
  norm_cast

/-- the place in the middle -/
theorem rev_ix {a b i : Nat} (h : a = b) (hi : i < a) : a - 1 - i < b ∧ b - (i + 1) = a - 1 - i ∧ a - 1 - i + 1 = b - i := by
  subst h
  rw [Nat.sub_sub, Nat.add_comm 1 i]
  refine ⟨Nat.sub_lt (Nat.zero_lt_of_lt hi) (Nat.succ_pos i), rfl, ?_⟩
  rw [← Nat.sub_sub]
  exact Nat.sub_add_cancel (Nat.sub_pos_of_lt hi)
theorem half_odd {n : Int} (h : n % 2 ≠ 0) : n + 1 = (n + 1).fdiv 2 + (n + 1).fdiv 2 := by have := fdiv2 (n + 1); omega
theorem half_even {n : Int} (h : n % 2 = 0) : n = n.fdiv 2 + n.fdiv 2 := by have := fdiv2 n; omega
theorem mid_two {l r : Int} (h : l < r) : l ≤ (l + r).fdiv (2 ^ Int.toNat 1) ∧ (l + r).fdiv (2 ^ Int.toNat 1) < r := by
  have e : (2 : Int) ^ Int.toNat 1 = 2 := rfl
  rw [e]
  have h1 := fdiv2 (l + r)
  omega
theorem one_ix {l r : Int} {i : Nat} (h : l + 1 = r) (h1 : l ≤ i) (h2 : (i : Int) < r) : i = l.toNat := by omega
theorem one_ix0 {l : Int} (h : 0 ≤ l) : ((l.toNat : Nat) : Int) - l = 0 := by rw [Int.toNat_of_nonneg h]; exact Int.sub_self l
theorem one_off {l r : Int} {i : Nat} (h : l + 1 = r) (h0 : 0 ≤ l) (h1 : (i : Int) < l ∨ r ≤ i) : l.toNat ≠ i := by omega
theorem mid_facts {l r : Int} (h : l < r) (h2 : ¬ l + 1 = r) : l < (l + r).fdiv (2 ^ Int.toNat 1) ∧ (l + r).fdiv (2 ^ Int.toNat 1) < r := by
  have e : (2 : Int) ^ Int.toNat 1 = 2 := rfl
  rw [e]
  have h1 := fdiv2 (l + r)
  omega
theorem fdiv_lt_pow {x : Int} {a b : Nat} (hx : 0 ≤ x) (h : x < 2 ^ (a + b)) : 0 ≤ x.fdiv (2 ^ a) ∧ x.fdiv (2 ^ a) < 2 ^ b := by
  have hp := two_pow_pos a
  rw [Int.fdiv_eq_ediv_of_nonneg _ (Int.le_of_lt hp)]
  refine ⟨Int.ediv_nonneg hx (Int.le_of_lt hp), Int.ediv_lt_of_lt_mul hp ?_⟩
  rw [Int.pow_add, Int.mul_comm] at h
  exact h
theorem fmod_lt_pow (x : Int) (a : Nat) : 0 ≤ x.fmod (2 ^ a) ∧ x.fmod (2 ^ a) < 2 ^ a :=
  ⟨Int.fmod_nonneg_of_pos _ (two_pow_pos a), Int.fmod_lt_of_pos _ (two_pow_pos a)⟩
/-- the j-th digit -/
noncomputable def dig (n : Int) (x : Int) (j : Int) : Int := (x.fdiv (2 ^ (n * j).toNat)).fmod (2 ^ n.toNat)
theorem toNat_split {n a b : Int} (hn : 0 ≤ n) (ha : 0 ≤ a) (hb : 0 ≤ b) : (n * (a + b)).toNat = (n * a).toNat + (n * b).toNat := by
  have h1 := Int.mul_nonneg hn ha
  have h2 := Int.mul_nonneg hn hb
  rw [Int.mul_add, Int.toNat_add h1 h2]
theorem dig_one {n x : Int} (hx : 0 ≤ x) (h : x < 2 ^ n.toNat) : dig n x 0 = x := by
  unfold dig
  rw [Int.mul_zero]
  show (x.fdiv (2 ^ 0)).fmod _ = x
  rw [Int.pow_zero, Int.fdiv_one, Int.fmod_eq_of_lt hx h]
theorem dig_upper {n x s j : Int} (hn : 0 ≤ n) (hs : 0 ≤ s) (hj : 0 ≤ j) (hx : 0 ≤ x) : dig n (x.fdiv (2 ^ (n * s).toNat)) j = dig n x (s + j) := by
  unfold dig
  rw [toNat_split hn hs hj, Int.pow_add]
  congr 1
  have h1 := two_pow_pos (n * s).toNat
  have h2 := two_pow_pos (n * j).toNat
  rw [Int.fdiv_eq_ediv_of_nonneg _ (Int.le_of_lt h1), Int.fdiv_eq_ediv_of_nonneg _ (Int.le_of_lt h2), Int.fdiv_eq_ediv_of_nonneg _ (Int.le_of_lt (Int.mul_pos h1 h2)), Int.ediv_ediv_of_nonneg (Int.le_of_lt h1)]
theorem dig_lower {n x s j : Int} (hn : 0 ≤ n) (hj : 0 ≤ j) (hjs : j < s) (hx : 0 ≤ x) : dig n (x.fmod (2 ^ (n * s).toNat)) j = dig n x j := by
  have e : (n * s).toNat = (n * j).toNat + (n.toNat + (n * (s - j - 1)).toNat) := by
    have h0 : s = j + (1 + (s - j - 1)) := by omega
    rw [h0, toNat_split hn hj (by omega), toNat_split hn (by decide) (by omega), Int.mul_one]
    have : j + (1 + (s - j - 1)) - j - 1 = s - j - 1 := by omega
    rw [this]
  unfold dig
  rw [e]
  generalize (n * j).toNat = a
  generalize n.toNat = b
  generalize (n * (s - j - 1)).toNat = c
  obtain ⟨m, rfl⟩ := Int.eq_ofNat_of_zero_le hx
  have key : (m % 2 ^ (a + (b + c)) / 2 ^ a) % 2 ^ b = (m / 2 ^ a) % 2 ^ b := by
    apply Nat.eq_of_testBit_eq
    intro i
    rw [Nat.testBit_mod_two_pow, Nat.testBit_mod_two_pow, ← Nat.shiftRight_eq_div_pow, ← Nat.shiftRight_eq_div_pow, Nat.testBit_shiftRight, Nat.testBit_shiftRight, Nat.testBit_mod_two_pow]
    by_cases h : i < b
    · have : a + i < a + (b + c) := by omega
      simp [h, this]
    · simp [h]
  have c1 : ∀ (k y : Nat), (y : Int).fmod (2 ^ k) = ((y % 2 ^ k : Nat) : Int) := fun k y => by
    rw [Int.fmod_eq_emod_of_nonneg _ (Int.le_of_lt (two_pow_pos k))]; norm_cast
  have c2 : ∀ (k y : Nat), (y : Int).fdiv (2 ^ k) = ((y / 2 ^ k : Nat) : Int) := fun k y => by
    rw [Int.fdiv_eq_ediv_of_nonneg _ (Int.le_of_lt (two_pow_pos k))]; norm_cast
  rw [c1, c2, c1, c2, c1, key]

/-- how many digits -/
theorem count_facts {b n : Int} (hb : 0 ≤ b) (hn : 0 < n) (h8 : b ≤ 8 * n) : 0 ≤ (b + n - 1).fdiv n ∧ (b + n - 1).fdiv n ≤ 8 ∧ b ≤ n * (b + n - 1).fdiv n ∧ (0 < b → 0 < (b + n - 1).fdiv n) := by
  have h1 := Int.mul_fdiv_add_fmod (b + n - 1) n
  have h2 := Int.fmod_nonneg_of_pos (b + n - 1) hn
  have h3 := Int.fmod_lt_of_pos (b + n - 1) hn
  have h4 : 0 ≤ (b + n - 1).fdiv n := Int.fdiv_nonneg (by omega) (by omega)
  generalize (b + n - 1).fdiv n = q at *
  refine ⟨h4, ?_, by omega, fun hp => ?_⟩
  · have : n * q < n * 9 := by omega
    have := Int.lt_of_mul_lt_mul_left this (by omega)
    omega
  · have : n * 0 < n * q := by omega
    exact Int.lt_of_mul_lt_mul_left this (by omega)
theorem ints_rep (t : Tok) : ∀ k : Nat, IntsAre (List.replicate k (.int 0 t)) (List.replicate k 0)
  | 0 => .nil
  | k + 1 => .cons 0 t (ints_rep t k)
theorem dig_zero (n j : Int) : dig n 0 j = 0 := by
  unfold dig
  rw [Int.zero_fdiv, Int.zero_fmod]

theorem pow2_le {a b : Nat} (h : a ≤ b) : (2 : Int) ^ a ≤ 2 ^ b := by
  have := Nat.pow_le_pow_right (n := 2) (by decide) h
  exact_mod_cast this

/-- one step of the division by halves -/
theorem div_end {A b q r : Int} (hb : 0 < b) (h : r = A - q * b) (h0 : 0 ≤ r) (h1 : r < b) : A.fdiv b = q ∧ A.fmod b = r := by
  have h2 := Int.mul_fdiv_add_fmod A b
  have h3 := Int.fmod_nonneg_of_pos A hb
  have h4 := Int.fmod_lt_of_pos A hb
  have e : b * (A.fdiv b - q) = r - A.fmod b := by
    rw [Int.mul_sub, Int.mul_comm b q]; omega
  have e2 : A.fdiv b - q = 0 := by
    generalize A.fdiv b - q = d at e
    by_cases hd : d ≥ 1
    · have := Int.mul_le_mul_of_nonneg_left hd (Int.le_of_lt hb)
      omega
    · by_cases hd2 : d ≤ -1
      · have := Int.mul_le_mul_of_nonneg_left hd2 (Int.le_of_lt hb)
        omega
      · omega
  rw [e2, Int.mul_zero] at e
  omega
theorem div3_val {a12 a3 b b1 b2 q r H : Int} (hb : b = b1 * H + b2) (h : q * b1 + r = a12) : r * H + a3 - q * b2 = (a12 * H + a3) - q * b := by
  subst hb; subst h; grind
theorem div3_lt {a3 b b1 b2 q r H : Int} (hb : b = b1 * H + b2) (hr : r < b1) (h3 : a3 < H) (hq : 0 ≤ q) (h2 : 0 ≤ b2) (hH : 0 ≤ H) : r * H + a3 - q * b2 < b := by
  have e1 : (r + 1) * H ≤ b1 * H := Int.mul_le_mul_of_nonneg_right hr hH
  have e2 := Int.mul_nonneg hq h2
  rw [Int.add_mul, Int.one_mul] at e1
  omega
theorem a12_lt {a12 a3 b H : Int} (hH : 0 < H) (h3 : 0 ≤ a3) (h : a12 * H + a3 < H * b) : a12 < b := by
  have : H * a12 < H * b := by rw [Int.mul_comm]; omega
  exact Int.lt_of_mul_lt_mul_left this (Int.le_of_lt hH)

theorem log2_lt {x : Int} {k m : Nat} (h : Builtin.Int.intBits x ≤ k) (hk : k < m) : x.natAbs.log2 < m := by
  have h1 := intBits_le_iff.mp h
  by_cases h0 : x.natAbs = 0
  · rw [h0]; have : Nat.log2 0 = 0 := by decide +kernel
    omega
  · have := (Nat.log2_lt h0).mpr h1
    omega

theorem div2_val {A b H : Int} (hH : 0 < H) (hb : 0 < b) (hA : 0 ≤ A) :
    A.fdiv b = (A.fdiv H).fdiv b * H + (((A.fdiv H).fmod b) * H + A.fmod H).fdiv b ∧ A.fmod b = (((A.fdiv H).fmod b) * H + A.fmod H).fmod b ∧
    0 ≤ (((A.fdiv H).fmod b) * H + A.fmod H).fdiv b ∧ (((A.fdiv H).fmod b) * H + A.fmod H).fdiv b < H := by
  have h1 := Int.mul_fdiv_add_fmod A H
  have h2 := Int.fmod_nonneg_of_pos A hH
  have h3 := Int.fmod_lt_of_pos A hH
  have h4 : 0 ≤ A.fdiv H := Int.fdiv_nonneg hA (Int.le_of_lt hH)
  generalize A.fdiv H = y at *
  generalize A.fmod H = m at *
  have h5 := Int.mul_fdiv_add_fmod y b
  have h6 := Int.fmod_nonneg_of_pos y hb
  have h7 := Int.fmod_lt_of_pos y hb
  generalize y.fdiv b = q1 at *
  generalize y.fmod b = r at *
  have h8 : 0 ≤ r * H + m := by have := Int.mul_nonneg h6 (Int.le_of_lt hH); omega
  have h9 := Int.mul_fdiv_add_fmod (r * H + m) b
  have h10 := Int.fmod_nonneg_of_pos (r * H + m) hb
  have h11 := Int.fmod_lt_of_pos (r * H + m) hb
  have h12 : 0 ≤ (r * H + m).fdiv b := Int.fdiv_nonneg h8 (Int.le_of_lt hb)
  have h13 : r * H + m < b * H := by
    have := Int.mul_le_mul_of_nonneg_right (Int.add_one_le_of_lt h7) (Int.le_of_lt hH)
    rw [Int.add_mul, Int.one_mul] at this; omega
  generalize (r * H + m).fdiv b = q2 at *
  generalize (r * H + m).fmod b = r2 at *
  have h14 : q2 < H := by
    have : b * q2 < b * H := by omega
    exact Int.lt_of_mul_lt_mul_left this (Int.le_of_lt hb)
  have key := div_end (A := A) (b := b) (q := q1 * H + q2) (r := r2) hb (by
    have e1 : A = H * y + m := by omega
    have e2 : y = b * q1 + r := by omega
    have e3 : r2 = r * H + m - b * q2 := by omega
    rw [e1, e2, e3]; grind) h10 h11
  exact ⟨key.1, key.2, h12, h14⟩
theorem div_double {a b : Int} (hb : 0 < b) : (a * 2).fdiv (b * 2) = a.fdiv b ∧ (a * 2).fmod (b * 2) = a.fmod b * 2 := by
  have h1 := Int.mul_fdiv_add_fmod a b
  have h2 := Int.fmod_nonneg_of_pos a hb
  have h3 := Int.fmod_lt_of_pos a hb
  refine div_end (by omega) ?_ (by omega) (by omega)
  generalize a.fdiv b = q at *
  generalize a.fmod b = r at *
  have e : a = b * q + r := by omega
  rw [e]; grind
/-- A by 2h bits and the middle h bits make A by h bits -/
theorem mid_join {A : Int} (hA : 0 ≤ A) (h : Nat) : (A.fdiv (2 ^ (h + h))) * 2 ^ h + (A.fdiv (2 ^ h)).fmod (2 ^ h) = A.fdiv (2 ^ h) := by
  have h1 := Int.mul_fdiv_add_fmod (A.fdiv (2 ^ h)) (2 ^ h)
  have e : (A.fdiv (2 ^ h)).fdiv (2 ^ h) = A.fdiv (2 ^ (h + h)) := by
    have hp := two_pow_pos h
    rw [Int.pow_add, Int.fdiv_eq_ediv_of_nonneg _ (Int.le_of_lt hp), Int.fdiv_eq_ediv_of_nonneg _ (Int.le_of_lt hp), Int.fdiv_eq_ediv_of_nonneg _ (Int.le_of_lt (Int.mul_pos hp hp)), Int.ediv_ediv_of_nonneg (Int.le_of_lt hp)]
  rw [e, Int.mul_comm] at h1
  exact h1

theorem div2_pre {A B nn hh : Int} {G : Prop} (hA : 0 ≤ A) (h2 : nn = hh + hh) (h1 : 1 ≤ hh) (h3 : hh ≤ 2600) (hB : B < 2 ^ nn.toNat) (hB2 : 2 ^ nn.toNat ≤ 2 * B) (hlt : A < 2 ^ nn.toNat * B)
    (go : 0 < B → B = B.fdiv (2 ^ hh.toNat) * 2 ^ hh.toNat + Builtin.bitAnd B (1 * 2 ^ hh.toNat - 1) → 0 ≤ Builtin.bitAnd B (1 * 2 ^ hh.toNat - 1) → Builtin.bitAnd B (1 * 2 ^ hh.toNat - 1) < 2 ^ hh.toNat → 0 < B.fdiv (2 ^ hh.toNat) → B.fdiv (2 ^ hh.toNat) < 2 ^ hh.toNat → 0 ≤ A.fdiv (2 ^ nn.toNat) → 0 ≤ Builtin.bitAnd (A.fdiv (2 ^ hh.toNat)) (1 * 2 ^ hh.toNat - 1) → Builtin.bitAnd (A.fdiv (2 ^ hh.toNat)) (1 * 2 ^ hh.toNat - 1) < 2 ^ hh.toNat → A.fdiv (2 ^ nn.toNat) * 2 ^ hh.toNat + Builtin.bitAnd (A.fdiv (2 ^ hh.toNat)) (1 * 2 ^ hh.toNat - 1) = A.fdiv (2 ^ hh.toNat) → A.fdiv (2 ^ hh.toNat) < 2 ^ hh.toNat * B → 0 ≤ (A.fdiv (2 ^ hh.toNat)).fmod B → 0 ≤ Builtin.bitAnd A (1 * 2 ^ hh.toNat - 1) → Builtin.bitAnd A (1 * 2 ^ hh.toNat - 1) < 2 ^ hh.toNat → (A.fdiv (2 ^ hh.toNat)).fmod B * 2 ^ hh.toNat + Builtin.bitAnd A (1 * 2 ^ hh.toNat - 1) < 2 ^ hh.toNat * B → Builtin.bitOr ((A.fdiv (2 ^ hh.toNat)).fdiv B * 2 ^ hh.toNat) (((A.fdiv (2 ^ hh.toNat)).fmod B * 2 ^ hh.toNat + Builtin.bitAnd A (1 * 2 ^ hh.toNat - 1)).fdiv B) = A.fdiv B → ((A.fdiv (2 ^ hh.toNat)).fmod B * 2 ^ hh.toNat + Builtin.bitAnd A (1 * 2 ^ hh.toNat - 1)).fmod B = A.fmod B → (Builtin.Int.intBits ((A.fdiv (2 ^ hh.toNat)).fdiv B) : Int) + hh ≤ 2 ^ 27 → G) : G := by
  have e : nn.toNat = hh.toNat + hh.toNat := by have h0 : 0 ≤ hh := Int.le_trans (by decide) h1; rw [h2, Int.toNat_add h0 h0]
  rw [e] at hB hB2 hlt go
  have hk1 : 1 ≤ hh.toNat := by omega
  generalize hk : hh.toNat = k at *
  have hp := two_pow_pos k
  have hp2 : (2 : Int) ^ (k + k) = 2 ^ k * 2 ^ k := Int.pow_add ..
  rw [and_mask (Int.fdiv_nonneg hA (Int.le_of_lt hp)) k, and_mask hA k] at go
  have hB0 : 0 < B := by have := two_pow_pos (k + k); omega
  rw [and_mask (Int.le_of_lt hB0) k] at go
  have b1 := Int.mul_fdiv_add_fmod B (2 ^ k)
  have b2 := fmod_lt_pow B k
  have b3 := fdiv_lt_pow (Int.le_of_lt hB0) hB
  have b4 : 0 < B.fdiv (2 ^ k) := by
    have hge : (2 : Int) ^ k ≤ B := by
      have e2 : (2 : Int) ^ k = 2 ^ (k - 1) * 2 := by rw [← Int.pow_succ]; congr 1; omega
      have h5 : (2 : Int) ≤ 2 ^ k := by rw [e2]; have := two_pow_pos (k - 1); omega
      have h6 : (2 : Int) * 2 ^ k ≤ 2 ^ k * 2 ^ k := Int.mul_le_mul_of_nonneg_right h5 (Int.le_of_lt hp)
      omega
    by_cases hz : B.fdiv (2 ^ k) = 0
    · rw [hz, Int.mul_zero] at b1; omega
    · omega
  have y0 : 0 ≤ A.fdiv (2 ^ k) := Int.fdiv_nonneg hA (Int.le_of_lt hp)
  have y1 := fmod_lt_pow (A.fdiv (2 ^ k)) k
  have y2 : A.fdiv (2 ^ k) < 2 ^ k * B := by
    have h5 := Int.mul_fdiv_add_fmod A (2 ^ k)
    have h6 := (fmod_lt_pow A k).1
    have : 2 ^ k * A.fdiv (2 ^ k) < 2 ^ k * (2 ^ k * B) := by rw [← Int.mul_assoc, ← hp2]; omega
    exact Int.lt_of_mul_lt_mul_left this (Int.le_of_lt hp)
  have y3 := Int.fmod_nonneg_of_pos (A.fdiv (2 ^ k)) hB0
  have y4 := Int.fmod_lt_of_pos (A.fdiv (2 ^ k)) hB0
  have a1 := fmod_lt_pow A k
  have y5 : (A.fdiv (2 ^ k)).fmod B * 2 ^ k + A.fmod (2 ^ k) < 2 ^ k * B := by
    have := Int.mul_le_mul_of_nonneg_right (Int.add_one_le_of_lt y4) (Int.le_of_lt hp)
    rw [Int.add_mul, Int.one_mul, Int.mul_comm B] at this; omega
  obtain ⟨d1, d2, d3, d4⟩ := div2_val hp hB0 hA
  have y6 : (A.fdiv (2 ^ k)).fdiv B < 2 ^ k := by
    have h5 := Int.mul_fdiv_add_fmod (A.fdiv (2 ^ k)) B
    have : B * (A.fdiv (2 ^ k)).fdiv B < B * 2 ^ k := by rw [Int.mul_comm B (2 ^ k)]; omega
    exact Int.lt_of_mul_lt_mul_left this (Int.le_of_lt hB0)
  have y7 : 0 ≤ (A.fdiv (2 ^ k)).fdiv B := Int.fdiv_nonneg y0 (Int.le_of_lt hB0)
  refine go hB0 (by rw [Int.mul_comm]; omega) b2.1 b2.2 b4 b3.2 (Int.fdiv_nonneg hA (Int.le_of_lt (two_pow_pos _))) y1.1 y1.2 (mid_join hA k) y2 y3 a1.1 a1.2 y5 ?_ d2.symm ?_
  · rw [or_add y7 d3 d4, ← d1]
  · have := bits_of_lt y7 y6
    omega

/-- a number of its digits by n bits -/
noncomputable def und (n : Int) : List Int → Int
  | [] => 0
  | d :: r => d + 2 ^ n.toNat * und n r
theorem und_app (n : Int) (b : List Int) : ∀ a : List Int, und n (a ++ b) = und n a + 2 ^ (n.toNat * a.length) * und n b
  | [] => by simp [und]
  | d :: r => by
    rw [List.cons_append, und, und, und_app n b r, List.length_cons, Nat.mul_succ, Nat.add_comm, Int.pow_add]
    grind
theorem und_bound {n : Int} : ∀ {a : List Int}, (∀ x ∈ a, 0 ≤ x ∧ x < 2 ^ n.toNat) → 0 ≤ und n a ∧ und n a < 2 ^ (n.toNat * a.length)
  | [], _ => by simp [und]
  | d :: r, h => by
    have h1 := h d (.head _)
    have h2 := und_bound (n := n) (a := r) fun x hx => h x (.tail _ hx)
    have hp := two_pow_pos n.toNat
    have h3 := Int.mul_nonneg (Int.le_of_lt hp) h2.1
    rw [und, List.length_cons, Nat.mul_succ, Nat.add_comm, Int.pow_add]
    have h4 := Int.mul_le_mul_of_nonneg_left (Int.add_one_le_of_lt h2.2) (Int.le_of_lt hp)
    rw [Int.mul_add, Int.mul_one] at h4
    omega
noncomputable def sl (ns : List Int) (l r : Int) : List Int := (ns.drop l.toNat).take (r - l).toNat
theorem sl_mem {ns : List Int} {l r x : Int} (h : x ∈ sl ns l r) : x ∈ ns := List.mem_of_mem_drop (List.mem_of_mem_take h)
theorem sl_le (ns : List Int) (l r : Int) : (sl ns l r).length ≤ ns.length := by
  unfold sl; rw [List.length_take, List.length_drop]; exact Nat.le_trans (Nat.min_le_right _ _) (Nat.sub_le _ _)
theorem sl_len {ns : List Int} {l r : Int} (h0 : 0 ≤ l) (h1 : l ≤ r) (h2 : r ≤ ns.length) : (sl ns l r).length = (r - l).toNat := by
  unfold sl
  obtain ⟨a, rfl⟩ := Int.eq_ofNat_of_zero_le h0
  obtain ⟨b, rfl⟩ := Int.eq_ofNat_of_zero_le (Int.le_trans h0 h1)
  rw [List.length_take, List.length_drop, Int.toNat_sub, Int.toNat_natCast, Nat.min_eq_left (Nat.sub_le_sub_right (Int.ofNat_le.mp h2) a)]
theorem sl_split {ns : List Int} {l m r : Int} (h0 : 0 ≤ l) (h1 : l ≤ m) (h2 : m ≤ r) : sl ns l r = sl ns l m ++ sl ns m r := by
  unfold sl
  have e1 : (r - l).toNat = (m - l).toNat + (r - m).toNat := by
    have e0 : r - l = (m - l) + (r - m) := by omega
    rw [e0, Int.toNat_add (Int.sub_nonneg.mpr h1) (Int.sub_nonneg.mpr h2)]
  have e2 : m.toNat = l.toNat + (m - l).toNat := by rw [← Int.toNat_add h0 (Int.sub_nonneg.mpr h1), Int.add_comm, Int.sub_add_cancel]
  rw [e1, e2, ← List.drop_drop, List.take_add]
theorem sl_one {ns : List Int} {l : Int} (h0 : 0 ≤ l) (h1 : l < ns.length) : sl ns l (l + 1) = [ns.getD l.toNat 0] := by
  unfold sl
  have e1 : (l + 1 - l).toNat = 1 := by omega
  have hl : l.toNat < ns.length := by omega
  rw [e1, List.drop_eq_getElem_cons hl, List.take_succ_cons, List.take_zero]
  simp [List.getD, hl]
theorem sl_all {ns : List Int} {r : Int} (h : r = ns.length) : sl ns 0 r = ns := by
  subst h
  unfold sl
  simp
theorem und_one (n x : Int) : und n [x] = x := by simp [und]

theorem dig_bound (n x j : Int) : 0 ≤ dig n x j ∧ dig n x j < 2 ^ n.toNat := by
  unfold dig
  exact fmod_lt_pow _ _
theorem und_digs {n : Int} (hn : 0 ≤ n) : ∀ (ns : List Int) (a : Int), 0 ≤ a → a < 2 ^ (n.toNat * ns.length) → (∀ i : Nat, i < ns.length → ns.getD i 0 = dig n a i) → und n ns = a
  | [], a, h0, h1, _ => by
    simp at h1
    rw [und]; omega
  | d :: r, a, h0, h1, h => by
    have hp := two_pow_pos n.toNat
    have hd : d = a.fmod (2 ^ n.toNat) := by
      have := h 0 (by simp)
      simp at this
      rw [this]
      unfold dig
      rw [Int.mul_zero]
      show (a.fdiv (2 ^ 0)).fmod _ = _
      rw [Int.pow_zero, Int.fdiv_one]
    have hr := und_digs hn r (a.fdiv (2 ^ n.toNat)) (Int.fdiv_nonneg h0 (Int.le_of_lt hp)) (by
      refine (fdiv_lt_pow h0 ?_).2
      rw [List.length_cons, Nat.mul_succ, Nat.add_comm] at h1
      exact h1) (fun i hi => by
      have := h (i + 1) (by simp only [List.length_cons]; omega)
      have e : (d :: r).getD (i + 1) 0 = r.getD i 0 := by simp [List.getD]
      rw [e] at this
      rw [this]
      have e1 : n.toNat = (n * 1).toNat := by rw [Int.mul_one]
      rw [e1, dig_upper hn (by decide) (by omega) h0]
      congr 1; omega)
    rw [und, hr, hd]
    have := Int.mul_fdiv_add_fmod a (2 ^ n.toNat)
    omega
/-- one turn of the long division -/
theorem long_turn {B b r d q Q U H : Int} (hB : U = Q * b + r) (hq : r * H + d = b * q + B) : d + H * U = (q + H * Q) * b + B := by
  subst hB
  grind

end
section
theorem rst_D2i : True := by w_top off; trivial
local macro_rules | `(tactic| k_all) => `(tactic| tlg_ne)
theorem digits2int (w : World) (tabs rest : Led) (D : Addr) (vs : List Value) (ns : List Int) (nn : Nat) (n : Int) (t1 : Tok) (hD : (D, W.listOf vs.toArray nn) ∈ rest) (hi : IntsAre vs ns) (hb : 0 < n) (hnb : n < 9000) (hlen : ns.length ≤ 8) (hdg : ∀ x ∈ ns, 0 ≤ x ∧ x < 2 ^ n.toNat) (hst : TabSt 110 107 4 (Str.ofString "_digits2int.<locals>.inner") tabs) (hdis : Dis tabs rest) :
   Does w 115 12 130 (tabs ++ rest) [.ref D, .int n t1]
     (fun r news' => ∃ tk tabs', r = .int (und n ns) tk ∧ news' = tabs' ++ rest ∧ TabSt 110 107 4 (Str.ofString "_digits2int.<locals>.inner") tabs' ∧ Dis tabs' rest) := by
  unfold Does
  intro p loose mean mg mb dp un gd cn cs ad ccd cl outer A₀ base h₀ L m s Q E B F X N T C1 C2 hk hd hu hret
  refine wpAny_call ?_
  k_dflt (refine code_defC (by k_asm) (by k_asm) (by k_asm) (by k_asm) (by k_asm) (by exact rfl) (by exact rfl) (by first | exact rfl | assumption) (by k_is) (by k_is) (by ktr_room) (by first | exact BindsTo.of_eq rfl | exact kp_binds (by k_in) (fun _ => rfl)) (by exact rfl) (by decide +kernel) ?_ (by exact rfl) (by exact rfl) (by exact rfl); (intro _ _ _ _ _ _ _ N1 Y1 _ _ _ hl; (try k_lt hl); k_cells Y1; (try simp only [List.cons_append, List.nil_append] at N1); (try dsimp only); (try k_fold)))
  refine st_conv (by dsimp only) ?_
  refine tk_any fun tk9 => ?_
  rename_i L1 hx1 tkx FG1 F1 B1 X1 T1 o1 o2 o3 d1 d2 d3
  have hR : RestLt L1 (tabs ++ rest) := hl
  have h103 : @LT.lt Nat _ 110 L1 := by obtain ⟨o, ho⟩ := hst.mem; exact hl _ (List.mem_append_left _ ho)
  (repeat' (first | (k_unfold; (try dsimp only)) | (k_end; wrow_close) | ((fail_if_success with_reducible (first | refine KswEnd_stop ?_ | refine call_stop ?_ | refine pyIter_stop ?_ | refine while_stop ?_ | refine for_stop ?_ | refine def_stop ?_)); first | ((fail_if_success (fail_if_success (with_reducible refine st_guard ?_))); refine' store_L ?_ ?_ ?_ ?_ ?_ ?_ ?_; rotate_left 5; (first | dsimp only | rfl); (first | dsimp only | rfl); k_asm; k_asm; rfl; rfl; intro _ _ _; k_sweep) | ((with_reducible refine' len_led ?_ ?_ ?_ ?_); rotate_left 5; k_asm; k_mem; ((try simp only [List.length_replicate]); omega)) | ((with_reducible refine' truthy_led ?_ ?_ ?_ ?_ ?_); rotate_left 6; k_asm; k_mem; k_asm; omega) | ((with_reducible refine' lshift_int ?_ ?_ ?_); (first | with_reducible assumption | omega | assumption); (first | with_reducible assumption | omega | assumption)) | ((with_reducible refine' rshift_int ?_ ?_); (first | with_reducible assumption | omega | assumption)) | ((with_reducible refine' item_int ?_ ?_ ?_ ?_ ?_ ?_ ?_ ?_); rotate_left 6; k_asm; (first | k_asm | k_mem); k_asm; (first | exact ix0 _ | omega); (first | (refine ix1 ?_ ?_ <;> assumption) | omega | (simp only [List.length_append, List.length_cons, List.length_nil]; omega)); (first | omega | (simp only [List.length_append, List.length_cons, List.length_nil]; omega)); rotate_left; with_unfolding_all rfl; intro _) | walk1 | (dsimp only; first | ((fail_if_success (fail_if_success (with_reducible refine st_guard ?_))); refine' store_L ?_ ?_ ?_ ?_ ?_ ?_ ?_; rotate_left 5; (first | dsimp only | rfl); (first | dsimp only | rfl); k_asm; k_asm; rfl; rfl; intro _ _ _; k_sweep) | ((with_reducible refine' len_led ?_ ?_ ?_ ?_); rotate_left 5; k_asm; k_mem; ((try simp only [List.length_replicate]); omega)) | ((with_reducible refine' truthy_led ?_ ?_ ?_ ?_ ?_); rotate_left 6; k_asm; k_mem; k_asm; omega) | ((with_reducible refine' lshift_int ?_ ?_ ?_); (first | with_reducible assumption | omega | assumption); (first | with_reducible assumption | omega | assumption)) | ((with_reducible refine' rshift_int ?_ ?_); (first | with_reducible assumption | omega | assumption)) | ((with_reducible refine' item_int ?_ ?_ ?_ ?_ ?_ ?_ ?_ ?_); rotate_left 6; k_asm; (first | k_asm | k_mem); k_asm; (first | exact ix0 _ | omega); (first | (refine ix1 ?_ ?_ <;> assumption) | omega | (simp only [List.length_append, List.length_cons, List.length_nil]; omega)); (first | omega | (simp only [List.length_append, List.length_cons, List.length_nil]; omega)); rotate_left; with_unfolding_all rfl; intro _) | walk1) | (leave1; try dsimp only))))
  refine nestDef_K rfl rfl rfl ?_
  refine nest_any (pre := [_, _, _]) (by k_asm) (by k_asm) (by k_asm) (by kn_code) rfl hst hR ?_ hdis rfl ?_
  · exact ⟨by omega, by omega, by omega, trivial⟩
  intro f' c' oc' vs' t' ct' dc' h' tk' F' N' d1' d2' l1 l2 l3
  have hRr : RestLt L1 rest := fun p hp => hl p (List.mem_append_right _ hp)
  simp only [AllLt, and_true] at l1
  simp only [AllNe, and_true] at l2
  have n1 := l2.1.symm
  dsimp only [List.cons_append, List.nil_append] at N'
  have disT : Dis [(110, tabObj #[rawInt (107 : Nat), rawInt (4 : Nat), .ref c']), (c', oc')] rest := by
    obtain ⟨o, ho⟩ := hst.mem
    have h1 := hdis _ ho
    intro q hq p hp
    rcases List.mem_cons.mp hq with e | hq
    · rw [e]; exact h1 p hp
    · rw [List.mem_singleton.mp hq]; exact l3 p hp
  have hf0 := (N' _ (List.Mem.head _)).1
  generalize hfo : fnMade _ _ _ _ _ _ _ _ _ _ = fo at hf0
  have hin : ∀ (k : Nat) (l r : Int) (tl tr : Tok) (more : Led) (o1 o2 o3 : Obj) (tn : Tok),
      (f', fo) ∈ more → (c', oc') ∈ more → (D, W.listOf vs.toArray nn) ∈ more → (L1+1+1, o2) ∈ more → o2.data = .cell (some (.int n tn)) → (L1+1, o3) ∈ more → o3.data = .cell (some (.ref D)) → (L1+1+1+1, o1) ∈ more → o1.data = .cell (some (.ref f')) →
      0 ≤ l → l < r → r - l ≤ k → r ≤ ns.length →
      Does w f' (k + 1) (10 * (k + 1)) more [.int l tl, .int r tr]
        (fun rv news' => ∃ tk, rv = .int (und n (sl ns l r)) tk ∧ news' = more) := by
    clear N' F' hf0 hret hR hRr hst N d1 d2 d3 F B X T FG1 B1 X1 T1 l1 l2 l3 disT hdis hD
    subst hfo
    clear hk hd hu
    intro k
    induction k with
    | zero => intros; omega
    | succ k ih =>
      intro l r tl tr more o1 o2 o3 tn m1 m2 mD m3 e3 m4 e4 m5 e5 hl0 hlr hk1 hrn
      unfold Does
      intro p loose mean mg mb dp un gd cn cs ad ccd cl outer A₀ base h₀ L m s Q E B F X N T C1 C2 hk hd hu hret
      refine wpAny_call ?_
      k_dflt (refine code_nest (by k_asm) (by k_asm) (by k_asm) (by k_asm) (by k_asm) (by exact rfl) (by exact rfl) (by first | exact rfl | assumption) (by k_mem) (by exact codeRec_news (by k_asm) (by k_mem) (by assumption) (by assumption)) (by ktr_room) (by first | exact BindsTo.of_eq rfl | exact kp_binds (by k_in) (fun _ => rfl)) (by exact locs rfl) ?_ (by exact rfl) (by exact rfl) (by exact rfl) (by decide); intro _ _ _ _ _ _ _ _ _; (try dsimp only); (try k_fold))
      refine st_conv (by dsimp only) ?_
      refine tk_any fun tk9 => ?_
      have hM : l ≤ (l + r).fdiv (2 ^ Int.toNat 1) ∧ (l + r).fdiv (2 ^ Int.toNat 1) < r := by
        have e : (2 : Int) ^ Int.toNat 1 = 2 := rfl
        rw [e]
        have h1 := fdiv2 (l + r)
        omega
      have hn0 : 0 ≤ n := Int.le_of_lt hb
      have hsh0 : 0 ≤ ((l + r).fdiv (2 ^ Int.toNat 1) - l) * n := Int.mul_nonneg (by omega) hn0
      (repeat' (first | (k_unfold; (try dsimp only)) | (k_end; wrow_close) | ((fail_if_success with_reducible (first | refine KswEnd_stop ?_ | refine call_stop ?_ | refine pyIter_stop ?_ | refine while_stop ?_ | refine for_stop ?_ | refine def_stop ?_)); first | ((fail_if_success (fail_if_success (with_reducible refine st_guard ?_))); refine' store_L ?_ ?_ ?_ ?_ ?_ ?_ ?_; rotate_left 5; (first | dsimp only | rfl); (first | dsimp only | rfl); k_asm; k_asm; rfl; rfl; intro _ _ _; k_sweep) | ((with_reducible refine' len_led ?_ ?_ ?_ ?_); rotate_left 5; k_asm; k_mem; ((try simp only [List.length_replicate]); omega)) | ((with_reducible refine' truthy_led ?_ ?_ ?_ ?_ ?_); rotate_left 6; k_asm; k_mem; k_asm; omega) | ((with_reducible refine' lshift_int ?_ ?_ ?_); (first | with_reducible assumption | omega | assumption); (first | with_reducible assumption | omega | assumption)) | ((with_reducible refine' rshift_int ?_ ?_); (first | with_reducible assumption | omega | assumption)) | ((with_reducible refine' item_int ?_ ?_ ?_ ?_ ?_ ?_ ?_ ?_); rotate_left 6; k_asm; (first | k_asm | k_mem); k_asm; (first | exact ix0 _ | omega); (first | (refine ix1 ?_ ?_ <;> assumption) | omega | (simp only [List.length_append, List.length_cons, List.length_nil]; omega)); (first | omega | (simp only [List.length_append, List.length_cons, List.length_nil]; omega)); rotate_left; with_unfolding_all rfl; intro _) | walk1 | (dsimp only; first | ((fail_if_success (fail_if_success (with_reducible refine st_guard ?_))); refine' store_L ?_ ?_ ?_ ?_ ?_ ?_ ?_; rotate_left 5; (first | dsimp only | rfl); (first | dsimp only | rfl); k_asm; k_asm; rfl; rfl; intro _ _ _; k_sweep) | ((with_reducible refine' len_led ?_ ?_ ?_ ?_); rotate_left 5; k_asm; k_mem; ((try simp only [List.length_replicate]); omega)) | ((with_reducible refine' truthy_led ?_ ?_ ?_ ?_ ?_); rotate_left 6; k_asm; k_mem; k_asm; omega) | ((with_reducible refine' lshift_int ?_ ?_ ?_); (first | with_reducible assumption | omega | assumption); (first | with_reducible assumption | omega | assumption)) | ((with_reducible refine' rshift_int ?_ ?_); (first | with_reducible assumption | omega | assumption)) | ((with_reducible refine' item_int ?_ ?_ ?_ ?_ ?_ ?_ ?_ ?_); rotate_left 6; k_asm; (first | k_asm | k_mem); k_asm; (first | exact ix0 _ | omega); (first | (refine ix1 ?_ ?_ <;> assumption) | omega | (simp only [List.length_append, List.length_cons, List.length_nil]; omega)); (first | omega | (simp only [List.length_append, List.length_cons, List.length_nil]; omega)); rotate_left; with_unfolding_all rfl; intro _) | walk1) | (leave1; try dsimp only))))
      · have he : l + 1 = r := by assumption
        subst he
        rw [sl_one hl0 (by omega), und_one] at hret
        exact hret _ _ _ _ (by k_asm) (by k_asm) ⟨_, rfl, rfl⟩
      · have hne' : l + 1 ≠ r := by assumption
        have hMl := (mid_facts hlr hne').1
        generalize hMM : (l + r).fdiv (2 ^ Int.toNat 1) = M at *
        have hM0 : 0 ≤ M := Int.le_trans hl0 hM.1
        have hd' := rm3 hd
        have hu9 := rm4 hu
        (with_unfolding_all refine' Does.use (ih M r _ _ more o1 o2 o3 tn m1 m2 mD m3 e3 m4 e4 m5 e5 hM0 hM.2 (by omega) hrn) (by k_asm) (by k_asm) (by k_asm) (by k_asm) (by k_asm) (by assumption) (by assumption) (by first | exact rfl | assumption) (by ktr_room) (by ktr_units) ?_)
        intro r9 news9 h9 tk9 F9 N9 O9
        obtain ⟨t9, rfl, hn9⟩ := O9
        rw [hn9] at N9
        clear hn9
        have hbd := und_bound (n := n) (a := sl ns M r) fun x hx => hdg x (sl_mem hx)
        have hlenM := sl_len (ns := ns) (l := M) (r := r) (by omega) (by omega) hrn
        have hlenL := sl_len (ns := ns) (l := l) (r := M) (by omega) (by omega) (by omega)
        have hsz : (Builtin.Int.intBits (und n (sl ns M r)) : Int) + (M - l) * n ≤ 2 ^ 27 := by
          have b1 := bits_of_lt hbd.1 hbd.2
          have b2 : n.toNat * (sl ns M r).length ≤ 9000 * 8 := Nat.mul_le_mul (by omega) (Nat.le_trans (sl_le ns M r) hlen)
          have b3 : (M - l) * n ≤ 8 * 9000 := Int.mul_le_mul (by omega) (by omega) (by omega) (by decide)
          omega
        dsimp only
        (repeat' (first | (k_unfold; (try dsimp only)) | (k_end; wrow_close) | ((fail_if_success with_reducible (first | refine KswEnd_stop ?_ | refine call_stop ?_ | refine pyIter_stop ?_ | refine while_stop ?_ | refine for_stop ?_ | refine def_stop ?_)); first | ((fail_if_success (fail_if_success (with_reducible refine st_guard ?_))); refine' store_L ?_ ?_ ?_ ?_ ?_ ?_ ?_; rotate_left 5; (first | dsimp only | rfl); (first | dsimp only | rfl); k_asm; k_asm; rfl; rfl; intro _ _ _; k_sweep) | ((with_reducible refine' len_led ?_ ?_ ?_ ?_); rotate_left 5; k_asm; k_mem; ((try simp only [List.length_replicate]); omega)) | ((with_reducible refine' truthy_led ?_ ?_ ?_ ?_ ?_); rotate_left 6; k_asm; k_mem; k_asm; omega) | ((with_reducible refine' lshift_int ?_ ?_ ?_); (first | with_reducible assumption | omega | assumption); (first | with_reducible assumption | omega | assumption)) | ((with_reducible refine' rshift_int ?_ ?_); (first | with_reducible assumption | omega | assumption)) | ((with_reducible refine' item_int ?_ ?_ ?_ ?_ ?_ ?_ ?_ ?_); rotate_left 6; k_asm; (first | k_asm | k_mem); k_asm; (first | exact ix0 _ | omega); (first | (refine ix1 ?_ ?_ <;> assumption) | omega | (simp only [List.length_append, List.length_cons, List.length_nil]; omega)); (first | omega | (simp only [List.length_append, List.length_cons, List.length_nil]; omega)); rotate_left; with_unfolding_all rfl; intro _) | walk1 | (dsimp only; first | ((fail_if_success (fail_if_success (with_reducible refine st_guard ?_))); refine' store_L ?_ ?_ ?_ ?_ ?_ ?_ ?_; rotate_left 5; (first | dsimp only | rfl); (first | dsimp only | rfl); k_asm; k_asm; rfl; rfl; intro _ _ _; k_sweep) | ((with_reducible refine' len_led ?_ ?_ ?_ ?_); rotate_left 5; k_asm; k_mem; ((try simp only [List.length_replicate]); omega)) | ((with_reducible refine' truthy_led ?_ ?_ ?_ ?_ ?_); rotate_left 6; k_asm; k_mem; k_asm; omega) | ((with_reducible refine' lshift_int ?_ ?_ ?_); (first | with_reducible assumption | omega | assumption); (first | with_reducible assumption | omega | assumption)) | ((with_reducible refine' rshift_int ?_ ?_); (first | with_reducible assumption | omega | assumption)) | ((with_reducible refine' item_int ?_ ?_ ?_ ?_ ?_ ?_ ?_ ?_); rotate_left 6; k_asm; (first | k_asm | k_mem); k_asm; (first | exact ix0 _ | omega); (first | (refine ix1 ?_ ?_ <;> assumption) | omega | (simp only [List.length_append, List.length_cons, List.length_nil]; omega)); (first | omega | (simp only [List.length_append, List.length_cons, List.length_nil]; omega)); rotate_left; with_unfolding_all rfl; intro _) | walk1) | (leave1; try dsimp only))))
        (with_unfolding_all refine' Does.use (ih l M _ _ more o1 o2 o3 tn m1 m2 mD m3 e3 m4 e4 m5 e5 hl0 hMl (by omega) (by omega)) (by k_asm) (by k_asm) (by k_asm) (by k_asm) (by k_asm) (by assumption) (by assumption) (by first | exact rfl | assumption) (by ktr_room) (by ktr_units) ?_)
        intro r9 news9 h9 tk9 F9 N9 O9
        obtain ⟨t8, rfl, hn9⟩ := O9
        rw [hn9] at N9
        clear hn9
        dsimp only
        (repeat' (first | (k_unfold; (try dsimp only)) | (k_end; wrow_close) | ((fail_if_success with_reducible (first | refine KswEnd_stop ?_ | refine call_stop ?_ | refine pyIter_stop ?_ | refine while_stop ?_ | refine for_stop ?_ | refine def_stop ?_)); first | ((fail_if_success (fail_if_success (with_reducible refine st_guard ?_))); refine' store_L ?_ ?_ ?_ ?_ ?_ ?_ ?_; rotate_left 5; (first | dsimp only | rfl); (first | dsimp only | rfl); k_asm; k_asm; rfl; rfl; intro _ _ _; k_sweep) | ((with_reducible refine' len_led ?_ ?_ ?_ ?_); rotate_left 5; k_asm; k_mem; ((try simp only [List.length_replicate]); omega)) | ((with_reducible refine' truthy_led ?_ ?_ ?_ ?_ ?_); rotate_left 6; k_asm; k_mem; k_asm; omega) | ((with_reducible refine' lshift_int ?_ ?_ ?_); (first | with_reducible assumption | omega | assumption); (first | with_reducible assumption | omega | assumption)) | ((with_reducible refine' rshift_int ?_ ?_); (first | with_reducible assumption | omega | assumption)) | ((with_reducible refine' item_int ?_ ?_ ?_ ?_ ?_ ?_ ?_ ?_); rotate_left 6; k_asm; (first | k_asm | k_mem); k_asm; (first | exact ix0 _ | omega); (first | (refine ix1 ?_ ?_ <;> assumption) | omega | (simp only [List.length_append, List.length_cons, List.length_nil]; omega)); (first | omega | (simp only [List.length_append, List.length_cons, List.length_nil]; omega)); rotate_left; with_unfolding_all rfl; intro _) | walk1 | (dsimp only; first | ((fail_if_success (fail_if_success (with_reducible refine st_guard ?_))); refine' store_L ?_ ?_ ?_ ?_ ?_ ?_ ?_; rotate_left 5; (first | dsimp only | rfl); (first | dsimp only | rfl); k_asm; k_asm; rfl; rfl; intro _ _ _; k_sweep) | ((with_reducible refine' len_led ?_ ?_ ?_ ?_); rotate_left 5; k_asm; k_mem; ((try simp only [List.length_replicate]); omega)) | ((with_reducible refine' truthy_led ?_ ?_ ?_ ?_ ?_); rotate_left 6; k_asm; k_mem; k_asm; omega) | ((with_reducible refine' lshift_int ?_ ?_ ?_); (first | with_reducible assumption | omega | assumption); (first | with_reducible assumption | omega | assumption)) | ((with_reducible refine' rshift_int ?_ ?_); (first | with_reducible assumption | omega | assumption)) | ((with_reducible refine' item_int ?_ ?_ ?_ ?_ ?_ ?_ ?_ ?_); rotate_left 6; k_asm; (first | k_asm | k_mem); k_asm; (first | exact ix0 _ | omega); (first | (refine ix1 ?_ ?_ <;> assumption) | omega | (simp only [List.length_append, List.length_cons, List.length_nil]; omega)); (first | omega | (simp only [List.length_append, List.length_cons, List.length_nil]; omega)); rotate_left; with_unfolding_all rfl; intro _) | walk1) | (leave1; try dsimp only))))
        have e8 : und n (sl ns l r) = und n (sl ns M r) * 2 ^ ((M - l) * n).toNat + und n (sl ns l M) := by
          rw [sl_split hl0 (by omega : l ≤ M) (by omega : M ≤ r), und_app, hlenL]
          have : n.toNat * (M - l).toNat = ((M - l) * n).toNat := by
            rw [Int.mul_comm, Int.toNat_mul hn0 (by omega)]
          rw [this, Int.add_comm, Int.mul_comm]
        rw [e8] at hret
        exact hret _ _ _ _ (by k_asm) (by k_asm) ⟨_, rfl, rfl⟩
  have hvl : vs.length = ns.length := hi.length
  dsimp only
  (repeat' (first | (k_unfold; (try dsimp only)) | (k_end; wrow_close) | ((fail_if_success with_reducible (first | refine KswEnd_stop ?_ | refine call_stop ?_ | refine pyIter_stop ?_ | refine while_stop ?_ | refine for_stop ?_ | refine def_stop ?_)); first | ((fail_if_success (fail_if_success (with_reducible refine st_guard ?_))); refine' store_L ?_ ?_ ?_ ?_ ?_ ?_ ?_; rotate_left 5; (first | dsimp only | rfl); (first | dsimp only | rfl); k_asm; k_asm; rfl; rfl; intro _ _ _; k_sweep) | ((with_reducible refine' len_led ?_ ?_ ?_ ?_); rotate_left 5; k_asm; k_mem; ((try simp only [List.length_replicate]); omega)) | ((with_reducible refine' truthy_led ?_ ?_ ?_ ?_ ?_); rotate_left 6; k_asm; k_mem; k_asm; omega) | ((with_reducible refine' lshift_int ?_ ?_ ?_); (first | with_reducible assumption | omega | assumption); (first | with_reducible assumption | omega | assumption)) | ((with_reducible refine' rshift_int ?_ ?_); (first | with_reducible assumption | omega | assumption)) | ((with_reducible refine' item_int ?_ ?_ ?_ ?_ ?_ ?_ ?_ ?_); rotate_left 6; k_asm; (first | k_asm | k_mem); k_asm; (first | exact ix0 _ | omega); (first | (refine ix1 ?_ ?_ <;> assumption) | omega | (simp only [List.length_append, List.length_cons, List.length_nil]; omega)); (first | omega | (simp only [List.length_append, List.length_cons, List.length_nil]; omega)); rotate_left; with_unfolding_all rfl; intro _) | walk1 | (dsimp only; first | ((fail_if_success (fail_if_success (with_reducible refine st_guard ?_))); refine' store_L ?_ ?_ ?_ ?_ ?_ ?_ ?_; rotate_left 5; (first | dsimp only | rfl); (first | dsimp only | rfl); k_asm; k_asm; rfl; rfl; intro _ _ _; k_sweep) | ((with_reducible refine' len_led ?_ ?_ ?_ ?_); rotate_left 5; k_asm; k_mem; ((try simp only [List.length_replicate]); omega)) | ((with_reducible refine' truthy_led ?_ ?_ ?_ ?_ ?_); rotate_left 6; k_asm; k_mem; k_asm; omega) | ((with_reducible refine' lshift_int ?_ ?_ ?_); (first | with_reducible assumption | omega | assumption); (first | with_reducible assumption | omega | assumption)) | ((with_reducible refine' rshift_int ?_ ?_); (first | with_reducible assumption | omega | assumption)) | ((with_reducible refine' item_int ?_ ?_ ?_ ?_ ?_ ?_ ?_ ?_); rotate_left 6; k_asm; (first | k_asm | k_mem); k_asm; (first | exact ix0 _ | omega); (first | (refine ix1 ?_ ?_ <;> assumption) | omega | (simp only [List.length_append, List.length_cons, List.length_nil]; omega)); (first | omega | (simp only [List.length_append, List.length_cons, List.length_nil]; omega)); rotate_left; with_unfolding_all rfl; intro _) | walk1) | (leave1; try dsimp only))))
  · have hl0 : (ns.length : Int) ≠ 0 := by assumption
    (with_unfolding_all refine' Does.use (hin 8 0 _ _ _ _ _ _ _ _ ?m1 ?m2 ?mD ?m3 ?e3 ?m4 ?e4 ?m5 ?e5 (by decide) ?p1 ?p2 ?p3) (by k_asm) (by k_asm) (by k_asm) (by k_asm) (by k_asm) (by assumption) (by assumption) (by first | exact rfl | assumption) (by ktr_room) (by ktr_units) ?_)
    case m1 => rw [← hfo]; exact .head _
    case m2 => k_mem
    case mD => exact .tail _ (.tail _ (.tail _ (.tail _ (.tail _ (.tail _ hD)))))
    case m3 => k_mem
    case e3 => assumption
    case m4 => k_mem
    case e4 => assumption
    case m5 => k_mem
    case e5 => assumption
    case p1 => omega
    case p2 => omega
    case p3 => omega
    intro r9 news9 h9 tk9 F9 N9 O9
    obtain ⟨t9, rfl, hn9⟩ := O9
    rw [hn9] at N9
    clear hn9
    dsimp only
    (repeat' (first | (k_unfold; (try dsimp only)) | (k_end; wrow_close) | ((fail_if_success with_reducible (first | refine KswEnd_stop ?_ | refine call_stop ?_ | refine pyIter_stop ?_ | refine while_stop ?_ | refine for_stop ?_ | refine def_stop ?_)); first | ((fail_if_success (fail_if_success (with_reducible refine st_guard ?_))); refine' store_L ?_ ?_ ?_ ?_ ?_ ?_ ?_; rotate_left 5; (first | dsimp only | rfl); (first | dsimp only | rfl); k_asm; k_asm; rfl; rfl; intro _ _ _; k_sweep) | ((with_reducible refine' len_led ?_ ?_ ?_ ?_); rotate_left 5; k_asm; k_mem; ((try simp only [List.length_replicate]); omega)) | ((with_reducible refine' truthy_led ?_ ?_ ?_ ?_ ?_); rotate_left 6; k_asm; k_mem; k_asm; omega) | ((with_reducible refine' lshift_int ?_ ?_ ?_); (first | with_reducible assumption | omega | assumption); (first | with_reducible assumption | omega | assumption)) | ((with_reducible refine' rshift_int ?_ ?_); (first | with_reducible assumption | omega | assumption)) | ((with_reducible refine' item_int ?_ ?_ ?_ ?_ ?_ ?_ ?_ ?_); rotate_left 6; k_asm; (first | k_asm | k_mem); k_asm; (first | exact ix0 _ | omega); (first | (refine ix1 ?_ ?_ <;> assumption) | omega | (simp only [List.length_append, List.length_cons, List.length_nil]; omega)); (first | omega | (simp only [List.length_append, List.length_cons, List.length_nil]; omega)); rotate_left; with_unfolding_all rfl; intro _) | walk1 | (dsimp only; first | ((fail_if_success (fail_if_success (with_reducible refine st_guard ?_))); refine' store_L ?_ ?_ ?_ ?_ ?_ ?_ ?_; rotate_left 5; (first | dsimp only | rfl); (first | dsimp only | rfl); k_asm; k_asm; rfl; rfl; intro _ _ _; k_sweep) | ((with_reducible refine' len_led ?_ ?_ ?_ ?_); rotate_left 5; k_asm; k_mem; ((try simp only [List.length_replicate]); omega)) | ((with_reducible refine' truthy_led ?_ ?_ ?_ ?_ ?_); rotate_left 6; k_asm; k_mem; k_asm; omega) | ((with_reducible refine' lshift_int ?_ ?_ ?_); (first | with_reducible assumption | omega | assumption); (first | with_reducible assumption | omega | assumption)) | ((with_reducible refine' rshift_int ?_ ?_); (first | with_reducible assumption | omega | assumption)) | ((with_reducible refine' item_int ?_ ?_ ?_ ?_ ?_ ?_ ?_ ?_); rotate_left 6; k_asm; (first | k_asm | k_mem); k_asm; (first | exact ix0 _ | omega); (first | (refine ix1 ?_ ?_ <;> assumption) | omega | (simp only [List.length_append, List.length_cons, List.length_nil]; omega)); (first | omega | (simp only [List.length_append, List.length_cons, List.length_nil]; omega)); rotate_left; with_unfolding_all rfl; intro _) | walk1) | (leave1; try dsimp only))))
    rename News _ _ _ _ => N5
    refine hret _ _ _ _ (by k_asm) (news_sub N5 (b := [(110, tabObj #[rawInt (107 : Nat), rawInt (4 : Nat), .ref c']), (c', oc')] ++ rest) fun p hp => ?_) ⟨_, _, by rw [sl_all (by omega)], rfl, .one c' oc' vs' t' d1' d2', disT⟩
    exact .tail _ (.tail _ (.tail _ (.tail _ hp)))
  · have hl0 : (ns.length : Int) = 0 := by assumption
    have hz : ns = [] := by cases ns with | nil => rfl | cons a b => (simp only [List.length_cons] at hl0; omega)
    rename News _ _ _ _ => N5
    refine hret _ _ _ _ (by k_asm) (news_sub N5 (b := [(110, tabObj #[rawInt (107 : Nat), rawInt (4 : Nat), .ref c']), (c', oc')] ++ rest) fun p hp => ?_) ⟨_, _, by rw [hz]; rfl, rfl, .one c' oc' vs' t' d1' d2', disT⟩
    exact .tail _ (.tail _ (.tail _ (.tail _ hp)))

end
section
theorem rst_Dv0 : True := by w_top off; trivial
/-- _div2n1n where divmod is asked at once -/
theorem div2_small (w : World) (news : Led) (a b n : Int) (t t1 t2 : Tok) (ha : 0 ≤ a) (hb : 0 < b) (hlb : b.natAbs.log2 < 9000) (hn : (Builtin.Int.intBits a : Int) - n ≤ 4000) :
   Does w 94 1 8 news [.int a t, .int b t1, .int n t2]
     (fun r news' => ∃ l t1 t2, r = .ref l ∧ news' = (l, tup2 (.int (a.fdiv b) t1) (.int (a.fmod b) t2)) :: news ∧ ∀ p ∈ news, p.1 ≠ l) := by
  unfold Does
  intro p loose mean mg mb dp un gd cn cs ad ccd cl outer A₀ base h₀ L m s Q E B F X N T C1 C2 hk hd hu hret
  refine wpAny_call ?_
  k_dflt (refine code_def (by k_asm) (by k_asm) (by k_asm) (by k_asm) (by k_asm) (by exact rfl) (by exact rfl) (by first | exact rfl | assumption) (by k_is) (by k_is) (by ktr_room) (by first | exact BindsTo.of_eq rfl | exact kp_binds (by k_in) (fun _ => rfl)) (by exact locs rfl) ?_ (by exact rfl) (by exact rfl) (by exact rfl) (by decide); intro _ _ _ _ _ _ _ _ _; (try dsimp only); (try k_fold))
  refine st_conv (by dsimp only) ?_
  refine tk_any fun tk9 => ?_
  have hb0 : b ≠ 0 := by omega
  (repeat' (first | (k_unfold; (try dsimp only)) | (k_end; wrow_close) | ((fail_if_success with_reducible (first | refine KswEnd_stop ?_ | refine call_stop ?_ | refine pyIter_stop ?_ | refine while_stop ?_ | refine for_stop ?_ | refine def_stop ?_)); first | ((fail_if_success (fail_if_success (with_reducible refine st_guard ?_))); refine' store_L ?_ ?_ ?_ ?_ ?_ ?_ ?_; rotate_left 5; (first | dsimp only | rfl); (first | dsimp only | rfl); k_asm; k_asm; rfl; rfl; intro _ _ _; k_sweep) | ((with_reducible refine' divmod_D ?_ ?_ ?_ ?_ ?_); rotate_left 4; k_asm; k_asm; (first | with_reducible assumption | omega | assumption); (first | with_reducible assumption | omega | assumption); intro _ _; leaf_len) | walk1 | (dsimp only; first | ((fail_if_success (fail_if_success (with_reducible refine st_guard ?_))); refine' store_L ?_ ?_ ?_ ?_ ?_ ?_ ?_; rotate_left 5; (first | dsimp only | rfl); (first | dsimp only | rfl); k_asm; k_asm; rfl; rfl; intro _ _ _; k_sweep) | ((with_reducible refine' divmod_D ?_ ?_ ?_ ?_ ?_); rotate_left 4; k_asm; k_asm; (first | with_reducible assumption | omega | assumption); (first | with_reducible assumption | omega | assumption); intro _ _; leaf_len) | walk1) | (leave1; try dsimp only))))
  exact hret _ _ _ _ (by k_asm) (by k_asm) ⟨_, _, _, rfl, rfl, fun p hp => Nat.ne_of_lt (by rename (∀ p ∈ news, p.1 < _) => hl; exact hl p hp)⟩

end
section
theorem rst_Dv1 : True := by w_top off; trivial
theorem div3 (w : World) (news : Led) (a12 a3 b b1 b2 h : Int) (t1 t2 t3 t4 t5 t6 : Tok) (h1 : 1 ≤ h) (h2 : h ≤ 3000) (hb : b = b1 * 2 ^ h.toNat + b2) (hb20 : 0 ≤ b2) (hb2 : b2 < 2 ^ h.toNat) (hb10 : 0 < b1) (hb1 : b1 < 2 ^ h.toNat)
   (ha : 0 ≤ a12) (ha30 : 0 ≤ a3) (ha3 : a3 < 2 ^ h.toNat) (hlt : a12 * 2 ^ h.toNat + a3 < 2 ^ h.toNat * b) :
   Does w 101 3 30 news [.int a12 t1, .int a3 t2, .int b t3, .int b1 t4, .int b2 t5, .int h t6]
     (fun r news' => ∃ l t1 t2, r = .ref l ∧ news' = (l, tup2 (.int ((a12 * 2 ^ h.toNat + a3).fdiv b) t1) (.int ((a12 * 2 ^ h.toNat + a3).fmod b) t2)) :: news ∧ ∀ p ∈ news, p.1 ≠ l) := by
  have hHp : (0 : Int) < 2 ^ h.toNat := two_pow_pos _
  have hbp : 0 < b := by
    have := Int.mul_pos hb10 hHp
    omega
  have ha12 := a12_lt hHp ha30 hlt
  have hh0 : 0 ≤ h := by omega
  have hbb : b < 2 ^ (h.toNat + h.toNat) := by
    have := div3_lt (a3 := b2) (b2 := 0) (q := 0) (r := b1) (H := 2 ^ h.toNat) (b1 := b1 + 1) rfl (by omega) hb2 (Int.le_refl 0) (Int.le_refl 0) (Int.le_of_lt hHp)
    have h3 : (b1 + 1) * 2 ^ h.toNat ≤ 2 ^ h.toNat * 2 ^ h.toNat := Int.mul_le_mul_of_nonneg_right (by omega) (Int.le_of_lt hHp)
    rw [Int.pow_add]
    omega
  have hba : Builtin.Int.intBits a12 ≤ h.toNat + h.toNat := bits_of_lt ha (by omega)
  have hbb1 := bits_of_lt (Int.le_of_lt hb10) hb1
  have hbb2 := bits_of_lt hb20 hb2
  have f1 : (Builtin.Int.intBits 1 : Int) + h ≤ 2 ^ 27 := by
    have : Builtin.Int.intBits 1 = 1 := by decide +kernel
    omega
  have f2 : (Builtin.Int.intBits b1 : Int) + h ≤ 2 ^ 27 := by omega
  have hm1 := Int.fmod_nonneg_of_pos a12 hb10
  have hm2 := Int.fmod_lt_of_pos a12 hb10
  have f3 : (Builtin.Int.intBits (a12.fmod b1) : Int) + h ≤ 2 ^ 27 := by
    have := bits_of_lt hm1 (by omega : a12.fmod b1 < 2 ^ h.toNat)
    omega
  have f4 : IntMulOk (a12.fdiv b1) b2 := IntMulOk.of_le (intBits_fdiv_le hba) hbb2 (by omega)
  have f5 : IntMulOk (1 * 2 ^ h.toNat - 1) b2 := by
    refine IntMulOk.of_le (m := h.toNat) (bits_of_lt (by omega) (by omega)) hbb2 (by omega)
  have f6 : a12.fdiv (2 ^ h.toNat) = b1 → (Builtin.Int.intBits (a12 - b1 * 2 ^ h.toNat + b1) : Int) + h ≤ 2 ^ 27 := by
    intro e
    have h3 := Int.mul_fdiv_add_fmod a12 (2 ^ h.toNat)
    have h4 := Int.fmod_nonneg_of_pos a12 hHp
    rw [e, Int.mul_comm] at h3
    have := bits_of_lt (x := a12 - b1 * 2 ^ h.toNat + b1) (k := h.toNat + 1) (by omega) (by rw [Int.pow_succ]; omega)
    omega
  unfold Does
  intro p loose mean mg mb dp un gd cn cs ad ccd cl outer A₀ base h₀ L m s Q E B F X N T C1 C2 hk hd hu hret
  refine wpAny_call ?_
  k_dflt (refine code_def (by k_asm) (by k_asm) (by k_asm) (by k_asm) (by k_asm) (by exact rfl) (by exact rfl) (by first | exact rfl | assumption) (by k_is) (by k_is) (by ktr_room) (by first | exact BindsTo.of_eq rfl | exact kp_binds (by k_in) (fun _ => rfl)) (by exact locs rfl) ?_ (by exact rfl) (by exact rfl) (by exact rfl) (by decide); intro _ _ _ _ _ _ _ _ _; (try dsimp only); (try k_fold))
  refine st_conv (by dsimp only) ?_
  refine tk_any fun tk9 => ?_
  (repeat' (first | (k_unfold; (try dsimp only)) | (k_end; wrow_close) | ((fail_if_success with_reducible (first | refine KswEnd_stop ?_ | refine call_stop ?_ | refine pyIter_stop ?_ | refine while_stop ?_ | refine for_stop ?_ | refine def_stop ?_)); first | ((fail_if_success (fail_if_success (with_reducible refine st_guard ?_))); refine' store_L ?_ ?_ ?_ ?_ ?_ ?_ ?_; rotate_left 5; (first | dsimp only | rfl); (first | dsimp only | rfl); k_asm; k_asm; rfl; rfl; intro _ _ _; k_sweep) | ((with_reducible refine' mul_D ?_ ?_); k_asm) | ((with_reducible refine' lshift_int ?_ ?_ ?_); (first | with_reducible assumption | omega | assumption); (first | with_reducible assumption | omega | assumption)) | ((with_reducible refine' rshift_int ?_ ?_); (first | with_reducible assumption | omega | assumption)) | walk1 | (dsimp only; first | ((fail_if_success (fail_if_success (with_reducible refine st_guard ?_))); refine' store_L ?_ ?_ ?_ ?_ ?_ ?_ ?_; rotate_left 5; (first | dsimp only | rfl); (first | dsimp only | rfl); k_asm; k_asm; rfl; rfl; intro _ _ _; k_sweep) | ((with_reducible refine' mul_D ?_ ?_); k_asm) | ((with_reducible refine' lshift_int ?_ ?_ ?_); (first | with_reducible assumption | omega | assumption); (first | with_reducible assumption | omega | assumption)) | ((with_reducible refine' rshift_int ?_ ?_); (first | with_reducible assumption | omega | assumption)) | walk1) | (leave1; try dsimp only))))
  · have he : a12.fdiv (2 ^ h.toNat) = b1 := by assumption
    have h3 := Int.mul_fdiv_add_fmod a12 (2 ^ h.toNat)
    have h4 := Int.fmod_nonneg_of_pos a12 hHp
    rw [he, Int.mul_comm] at h3
    have hr00 : 0 ≤ a12 - b1 * 2 ^ h.toNat + b1 := by omega
    have hv : Builtin.bitOr ((a12 - b1 * 2 ^ h.toNat + b1) * 2 ^ h.toNat) a3 = (a12 - b1 * 2 ^ h.toNat + b1) * 2 ^ h.toNat + a3 := or_add hr00 ha30 ha3
    have hq : (1 * 2 ^ h.toNat - 1) * b1 + (a12 - b1 * 2 ^ h.toNat + b1) = a12 := by rw [Int.sub_mul, Int.one_mul, Int.one_mul, Int.mul_comm]; omega
    have hP0 := div3_val (a3 := a3) hb hq
    have hP : (a12 - b1 * 2 ^ h.toNat + b1) * 2 ^ h.toNat + a3 - (1 * 2 ^ h.toNat - 1) * b2 = a12 * 2 ^ h.toNat + a3 - (1 * 2 ^ h.toNat - 1) * b ∧ (a12 - b1 * 2 ^ h.toNat + b1) * 2 ^ h.toNat + a3 - (1 * 2 ^ h.toNat - 1) * b2 < b := by
      refine ⟨hP0, ?_⟩
      rw [hP0, Int.sub_mul, Int.one_mul, Int.one_mul]; omega
    refine' ksw_while (σ := Int × Tok × Int × Tok) (fun _ => news) (fun c => [(Str.ofString "q", .int c.1 c.2.1), (Str.ofString "r", .int c.2.2.1 c.2.2.2)]) (fun _ => True) [] (fun c => c.2.2.1 = (a12 * 2 ^ h.toNat + a3) - c.1 * b ∧ c.2.2.1 < b) (fun c => (- c.2.2.1).toNat) ((1 * 2 ^ h.toNat - 1), _, Builtin.bitOr ((a12 - b1 * 2 ^ h.toNat + b1) * 2 ^ h.toNat) a3 - (1 * 2 ^ h.toNat - 1) * b2, _) ?F ?N trivial ?hk ?hp ?_
    (case F => k_asm)
    (case N => exact news_sub (by k_asm) (fun p hp => List.Mem.tail _ hp))
    (case hk => kst_all)
    (case hp => (dsimp only; rw [hv]; exact hP))
    refine pr4 ?_
    rintro q' tq r' tr u h tk - ⟨P1, P2⟩ F'' N''
    dsimp only [kstB] at F''
    dsimp only at P1 P2
    (repeat' (first | (k_unfold; (try dsimp only)) | (k_end; wrow_close) | ((fail_if_success with_reducible (first | refine KswEnd_stop ?_ | refine call_stop ?_ | refine pyIter_stop ?_ | refine while_stop ?_ | refine for_stop ?_ | refine def_stop ?_)); first | ((fail_if_success (fail_if_success (with_reducible refine st_guard ?_))); refine' store_L ?_ ?_ ?_ ?_ ?_ ?_ ?_; rotate_left 5; (first | dsimp only | rfl); (first | dsimp only | rfl); k_asm; k_asm; rfl; rfl; intro _ _ _; k_sweep) | ((with_reducible refine' mul_D ?_ ?_); k_asm) | ((with_reducible refine' lshift_int ?_ ?_ ?_); (first | with_reducible assumption | omega | assumption); (first | with_reducible assumption | omega | assumption)) | ((with_reducible refine' rshift_int ?_ ?_); (first | with_reducible assumption | omega | assumption)) | walk1 | (dsimp only; first | ((fail_if_success (fail_if_success (with_reducible refine st_guard ?_))); refine' store_L ?_ ?_ ?_ ?_ ?_ ?_ ?_; rotate_left 5; (first | dsimp only | rfl); (first | dsimp only | rfl); k_asm; k_asm; rfl; rfl; intro _ _ _; k_sweep) | ((with_reducible refine' mul_D ?_ ?_); k_asm) | ((with_reducible refine' lshift_int ?_ ?_ ?_); (first | with_reducible assumption | omega | assumption); (first | with_reducible assumption | omega | assumption)) | ((with_reducible refine' rshift_int ?_ ?_); (first | with_reducible assumption | omega | assumption)) | walk1) | (leave1; try dsimp only))))
    · have hr0 : r' < 0 := by assumption
      refine ksw_end (_, _, _, _) (by k_asm) (by k_asm) (fun p h => h) trivial (by kst_all) (by ksw_same) ?_ (by dsimp only; exact (Int.toNat_lt_toNat (by omega)).mpr (by omega))
      dsimp only
      refine ⟨?_, by omega⟩
      rw [P1, Int.sub_mul, Int.one_mul]; omega
    · have hr0 : ¬ r' < 0 := by assumption
      obtain ⟨e1, e2⟩ := div_end hbp P1 (by omega) P2
      rw [e1, e2] at hret
      exact hret _ _ _ _ (by k_asm) (by k_asm) ⟨_, _, _, rfl, rfl, fun p hp => Nat.ne_of_lt (by rename (∀ p ∈ news, p.1 < _) => hl; exact hl p hp)⟩
  · (with_unfolding_all refine' Does.use (div2_small w _ a12 b1 h _ _ _ ha hb10 ?hl ?hs) (by k_asm) (by k_asm) (by k_asm) (by k_asm) (by k_asm) (by assumption) (by assumption) (by first | exact rfl | assumption) (by ktr_room) (by ktr_units) ?_)
    case hl => exact log2_lt hbb1 (by omega)
    case hs => omega
    intro r9 news9 h9 tk9 F9 N9 O9
    revert N9
    apply pair_elim O9
    clear O9
    intro l9 t91 t92 hf9 N9
    dsimp only
    have hv : Builtin.bitOr (a12.fmod b1 * 2 ^ h.toNat) a3 = a12.fmod b1 * 2 ^ h.toNat + a3 := or_add hm1 ha30 ha3
    have hq : a12.fdiv b1 * b1 + a12.fmod b1 = a12 := by rw [Int.mul_comm]; exact Int.mul_fdiv_add_fmod a12 b1
    have hq0 : 0 ≤ a12.fdiv b1 := Int.fdiv_nonneg ha (by omega)
    have hP : a12.fmod b1 * 2 ^ h.toNat + a3 - a12.fdiv b1 * b2 = a12 * 2 ^ h.toNat + a3 - a12.fdiv b1 * b ∧ a12.fmod b1 * 2 ^ h.toNat + a3 - a12.fdiv b1 * b2 < b :=
      ⟨div3_val hb hq, div3_lt hb hm2 ha3 hq0 hb20 (Int.le_of_lt hHp)⟩
    (repeat' (first | (k_unfold; (try dsimp only)) | (k_end; wrow_close) | ((fail_if_success with_reducible (first | refine KswEnd_stop ?_ | refine call_stop ?_ | refine pyIter_stop ?_ | refine while_stop ?_ | refine for_stop ?_ | refine def_stop ?_)); first | ((fail_if_success (fail_if_success (with_reducible refine st_guard ?_))); refine' store_L ?_ ?_ ?_ ?_ ?_ ?_ ?_; rotate_left 5; (first | dsimp only | rfl); (first | dsimp only | rfl); k_asm; k_asm; rfl; rfl; intro _ _ _; k_sweep) | ((with_reducible refine' mul_D ?_ ?_); k_asm) | ((with_reducible refine' lshift_int ?_ ?_ ?_); (first | with_reducible assumption | omega | assumption); (first | with_reducible assumption | omega | assumption)) | ((with_reducible refine' rshift_int ?_ ?_); (first | with_reducible assumption | omega | assumption)) | walk1 | (dsimp only; first | ((fail_if_success (fail_if_success (with_reducible refine st_guard ?_))); refine' store_L ?_ ?_ ?_ ?_ ?_ ?_ ?_; rotate_left 5; (first | dsimp only | rfl); (first | dsimp only | rfl); k_asm; k_asm; rfl; rfl; intro _ _ _; k_sweep) | ((with_reducible refine' mul_D ?_ ?_); k_asm) | ((with_reducible refine' lshift_int ?_ ?_ ?_); (first | with_reducible assumption | omega | assumption); (first | with_reducible assumption | omega | assumption)) | ((with_reducible refine' rshift_int ?_ ?_); (first | with_reducible assumption | omega | assumption)) | walk1) | (leave1; try dsimp only))))
    refine' ksw_while (σ := Int × Tok × Int × Tok) (fun _ => news) (fun c => [(Str.ofString "q", .int c.1 c.2.1), (Str.ofString "r", .int c.2.2.1 c.2.2.2)]) (fun _ => True) [] (fun c => c.2.2.1 = (a12 * 2 ^ h.toNat + a3) - c.1 * b ∧ c.2.2.1 < b) (fun c => (- c.2.2.1).toNat) (a12.fdiv b1, _, Builtin.bitOr (a12.fmod b1 * 2 ^ h.toNat) a3 - a12.fdiv b1 * b2, _) ?F ?N trivial ?hk ?hp ?_
    (case F => k_asm)
    (case N => exact news_sub (by k_asm) (fun p hp => List.Mem.tail _ hp))
    (case hk => kst_all)
    (case hp => (dsimp only; rw [hv]; exact hP))
    refine pr4 ?_
    rintro q' tq r' tr u h tk - ⟨P1, P2⟩ F'' N''
    dsimp only [kstB] at F''
    dsimp only at P1 P2
    (repeat' (first | (k_unfold; (try dsimp only)) | (k_end; wrow_close) | ((fail_if_success with_reducible (first | refine KswEnd_stop ?_ | refine call_stop ?_ | refine pyIter_stop ?_ | refine while_stop ?_ | refine for_stop ?_ | refine def_stop ?_)); first | ((fail_if_success (fail_if_success (with_reducible refine st_guard ?_))); refine' store_L ?_ ?_ ?_ ?_ ?_ ?_ ?_; rotate_left 5; (first | dsimp only | rfl); (first | dsimp only | rfl); k_asm; k_asm; rfl; rfl; intro _ _ _; k_sweep) | ((with_reducible refine' mul_D ?_ ?_); k_asm) | ((with_reducible refine' lshift_int ?_ ?_ ?_); (first | with_reducible assumption | omega | assumption); (first | with_reducible assumption | omega | assumption)) | ((with_reducible refine' rshift_int ?_ ?_); (first | with_reducible assumption | omega | assumption)) | walk1 | (dsimp only; first | ((fail_if_success (fail_if_success (with_reducible refine st_guard ?_))); refine' store_L ?_ ?_ ?_ ?_ ?_ ?_ ?_; rotate_left 5; (first | dsimp only | rfl); (first | dsimp only | rfl); k_asm; k_asm; rfl; rfl; intro _ _ _; k_sweep) | ((with_reducible refine' mul_D ?_ ?_); k_asm) | ((with_reducible refine' lshift_int ?_ ?_ ?_); (first | with_reducible assumption | omega | assumption); (first | with_reducible assumption | omega | assumption)) | ((with_reducible refine' rshift_int ?_ ?_); (first | with_reducible assumption | omega | assumption)) | walk1) | (leave1; try dsimp only))))
    · have hr0 : r' < 0 := by assumption
      refine ksw_end (_, _, _, _) (by k_asm) (by k_asm) (fun p h => h) trivial (by kst_all) (by ksw_same) ?_ (by dsimp only; exact (Int.toNat_lt_toNat (by omega)).mpr (by omega))
      dsimp only
      refine ⟨?_, by omega⟩
      rw [P1, Int.sub_mul, Int.one_mul]; omega
    · have hr0 : ¬ r' < 0 := by assumption
      obtain ⟨e1, e2⟩ := div_end hbp P1 (by omega) P2
      rw [e1, e2] at hret
      exact hret _ _ _ _ (by k_asm) (by k_asm) ⟨_, _, _, rfl, rfl, fun p hp => Nat.ne_of_lt (by rename (∀ p ∈ news, p.1 < _) => hl; exact hl p hp)⟩

end
section
theorem CompSrcT_stop {prog : Program} {w : World} {A : Around} {h₀ : Heap} {L : Addr} {m : Str → Option Value} {env : Env} {ct elt : PySem.Expr} {x : Str} {scope : Scope} {cl : List (Str × Addr)} {Fin : Shared → List Value → List (Addr × Obj) → Prop} {xv : Value} {s₁ : Shared}
  (h : PyProof.Rows.LCt.CompSrcT prog w A h₀ L m env ct elt x scope cl Fin xv s₁) : PyProof.Rows.LCt.CompSrcT prog w A h₀ L m env ct elt x scope cl Fin xv s₁ := h
theorem CompSrc_stop {prog : Program} {w : World} {A : Around} {h₀ : Heap} {L : Addr} {m : Str → Option Value} {env : Env} {elt : PySem.Expr} {x : Str} {scope : Scope} {cl : List (Str × Addr)} {Fin : Shared → List Value → List (Addr × Obj) → Prop} {xv : Value} {s₁ : Shared}
  (h : PyProof.Rows.LCg.CompSrc prog w A h₀ L m env elt x scope cl Fin xv s₁) : PyProof.Rows.LCg.CompSrc prog w A h₀ L m env elt x scope cl Fin xv s₁ := h
theorem lca_stop {M : Model} {A : Around} {a b c d e f : _} {env : Env} {Q : _} {E : _} {s : Shared} (h : wpAny M A (exec (Stmt.Assign a (PySem.Expr.ListComp b c d e) f) env) Q E s) : wpAny M A (exec (Stmt.Assign a (PySem.Expr.ListComp b c d e) f) env) Q E s := h
theorem lce_stop {M : Model} {A : Around} {b c d e : _} {env : Env} {Q : _} {E : _} {s : Shared} (h : wpAny M A (eval (PySem.Expr.ListComp b c d e) env) Q E s) : wpAny M A (eval (PySem.Expr.ListComp b c d e) env) Q E s := h
theorem lam_stop {M : Model} {A : Around} {b c d e : _} {env : Env} {Q : _} {E : _} {s : Shared} (h : wpAny M A (eval (PySem.Expr.Lambda b c d e) env) Q E s) : wpAny M A (eval (PySem.Expr.Lambda b c d e) env) Q E s := h
theorem dsp_stop {M : Model} {A : Around} {a b c d e : _} {Q : _} {E : _} {s : Shared} (h : wpAny M A (subscriptTail (PySem.Expr.List a b) c d e) Q E s) : wpAny M A (subscriptTail (PySem.Expr.List a b) c d e) Q E s := h
theorem cmp_stop {M : Model} {A : Around} {a b c : _} {Q : _} {E : _} {s : Shared} (h : wpAny M A (compareOp a (Value.ref b) (Value.ref c)) Q E s) : wpAny M A (compareOp a (Value.ref b) (Value.ref c)) Q E s := h
noncomputable def StopIf : Prop := True
noncomputable def StopMul : Prop := True
theorem stopIf {M : Model} {A : Around} {a b c e d : _} {env : Env} {Q : _} {E : _} {s : Shared} (_ : StopIf) (h : wpAny M A (execs (Stmt.If a b c e :: d) env) Q E s) : wpAny M A (execs (Stmt.If a b c e :: d) env) Q E s := h
theorem stopMul {M : Model} {A : Around} {a b : _} {Q : _} {E : _} {s : Shared} (_ : StopMul) (h : wpAny M A (binaryOp Operator.Mult a b) Q E s) : wpAny M A (binaryOp Operator.Mult a b) Q E s := h

end
section
/-- the law's own function, its body, its frame -/
noncomputable def lawFn (P : Params) : FuncData := match (Mine.hd.heap_1 P).lookup 208 with | some o => (match o.data with | .func f => f | _ => default) | none => default
noncomputable def lawBody (P : Params) : List Stmt := match (lawFn P).body with | .stmts b => b | _ => []
noncomputable def lawEnv (w : World) (fl L : Addr) : Env := envOfC (Str.ofString "law") (lawFn w.params).scope L fl (.ref 207)
/-- what an exception has to meet -/
noncomputable def lawE (w : World) (env : Env) (R : Value → Shared → Prop) : Value → Shared → Prop := fun e s' =>
  wpAny (model PR w) (callerA.deeper env) (leaving env e) (fun _ s'' => R e s'') (fun e' s'' => R e' s'') s'
/-- the law's body from its statement k on -/
noncomputable def LawAt (w : World) (fl L : Addr) (k : Nat) (Q : Flow → Shared → Prop) (E : Value → Shared → Prop) (s : Shared) : Prop :=
  wpAny (model PR w) (callerA.deeper (lawEnv w fl L)) (execs ((lawBody w.params).drop k) (lawEnv w fl L)) Q (lawE w (lawEnv w fl L) E) s
theorem seg_start {w : World} {fl L : Addr} {k : Nat} {Q : Flow → Shared → Prop} {E : Value → Shared → Prop} {s : Shared} {a : Stmt} {r : List Stmt} {a1 : ScopeKind} {n : List (Str × NameKind)} {b c : Bool} {d : List (Str × Const)}
    (e1 : (lawBody w.params).drop k = a :: r) (e2 : (lawFn w.params).scope = ⟨a1, n, b, c, d⟩)
    (h : let ek : Value → Shared → Prop := (fun e s' => wpAny (model PR w) (callerA.deeper (envOfC (Str.ofString "law") ⟨a1, n, b, c, d⟩ L fl (.ref 207))) (leaving (envOfC (Str.ofString "law") ⟨a1, n, b, c, d⟩ L fl (.ref 207)) e) (fun _ s'' => E e s'') (fun e' s'' => E e' s'') s')
      wpAny (model PR w) (callerA.deeper (envOfC (Str.ofString "law") ⟨a1, n, b, c, d⟩ L fl (.ref 207))) (execs (a :: r) (envOfC (Str.ofString "law") ⟨a1, n, b, c, d⟩ L fl (.ref 207))) Q ek s) : LawAt w fl L k Q E s := by
  unfold LawAt lawE lawEnv
  rw [e1, e2]
  exact h
theorem fr_ps {h₀ h : Heap} {L : Addr} {m : Str → Option Value} (ps : List (Str × Value)) (hk : ∀ p ∈ ps, m p.1 = some p.2) (F : Fr h₀ L h m) : Fr h₀ L h (kstB m ps) := by
  have e : kstB m ps = m := by
    funext z
    exact kstB_eq hk fun _ => rfl
  rw [e]; exact F
theorem law_enter {w : World} {fl L : Addr} {Q : Flow → Shared → Prop} {E : Value → Shared → Prop} {s : Shared} {n : Str} {sc : Scope} {body : List Stmt}
    (e1 : n = Str.ofString "law") (e2 : sc = (lawFn w.params).scope) (e3 : body = lawBody w.params) (h : LawAt w fl L 0 Q E s) :
    wpAny (model PR w) (callerA.deeper (envOfC n sc L fl (.ref 207))) (execs body (envOfC n sc L fl (.ref 207))) Q
      (fun e s' => wpAny (model PR w) (callerA.deeper (envOfC n sc L fl (.ref 207))) (leaving (envOfC n sc L fl (.ref 207)) e) (fun _ s'' => E e s'') (fun e' s'' => E e' s'') s') s := by
  subst e1 e2 e3
  exact h
/-- what holds all through the law's body -/
structure LawG (w : World) (p : Program) (loose : List Str) (mean : ExcName → Option Value) (mg mb : Str → Option Value) (g : Heap) (L : Addr) : Prop where
  B : Below callerA g [] g
  X : (Mine.hd.heap_1 w.params).In g
  T : Top p loose mean mg mb g
  C1 : CodeHd g 107 103
  C2 : CodeHd g 114 110
  C3 : CodeHd g 207 205
  hL : @LT.lt Nat _ 205 L
theorem len_base {prog : Program} {w : World} {A : Around} {E : Value → Shared → Prop} {s : Shared} {h₀ : Heap} {L l : Addr} {m : Str → Option Value} {vs : List Value} {ns : List Int} {Q : Value → Shared → Prop} (F : Fr h₀ L s.heap m) (hl : h₀.IsList l vs.toArray) (hi : IntsAre vs ns) (hf : ns.length < 1000000)
    (h : Q (.int (ns.length : Int) (s.toks + 1)) { s with toks := s.toks + 1 + 1 }) : wpAny (model prog w) A (call (.builtin "len") [.ref l]) Q E s := by
  have e2 : vs.toArray.size = ns.length := by rw [List.size_toArray, hi.length]
  exact PyProof.Rows.len_list (hl.at fun o e => F.keep _ _ e) (by rw [e2]; omega) (by rw [e2]; exact h)
theorem add_ints {prog : Program} {w : World} {A : Around} {E : Value → Shared → Prop} {s : Shared} {h₀ : Heap} {L l b : Addr} {m : Str → Option Value} {news : Led} {vs ws : List Value} {ns ms : List Int} {n n2 : Nat} {Q : Value → Shared → Prop} (F : Fr h₀ L s.heap m) (N : News h₀ L s.heap news) (h1 : (l, W.listOf vs.toArray n) ∈ news) (h2 : (b, W.listOf ws.toArray n2) ∈ news) (hi : IntsAre vs ns) (hj : IntsAre ws ms) (hz : ns.length + ms.length < 1000000)
    (h : ∀ D us h', Fr h₀ L h' m → News h₀ L h' ((D, W.listOf (List.toArray us) 0) :: news) → (∀ p ∈ news, p.1 < D) → IntsAre us (ns ++ ms) → Q (.ref D) { s with heap := h' }) : wpAny (model prog w) A (binaryOp .Add (.ref l) (.ref b)) Q E s :=
  add_led F N h1 h2 (by rw [hi.length, hj.length]; exact hz) fun D h' F' N' l1 => h D _ h' F' N' l1 (intsAre_append hi hj)
theorem slice_led {prog : Program} {w : World} {A : Around} {E : Value → Shared → Prop} {s₂ : Shared} {hp h₀ : Heap} {L l a : Addr} {m : Str → Option Value} {news : Led} {vs : List Value} {ns ms : List Int} {vl vu : Value} {lo hi : Option Int} {value slice : PySem.Expr} {Q : Value → Shared → Prop}
    (ha : a = hp.objs.size) (e : s₂.heap = hp.push { cls := .type "slice", data := .fields #[vl, vu, .none] }) (F : Fr h₀ L hp m) (N : News h₀ L hp news) (hl : hp.IsList l vs.toArray) (pl : IsPart vl lo) (pu : IsPart vu hi) (hi' : IntsAre vs ns) (hm : IntsAre (slicePick vs.toArray lo hi none).toList ms)
    (hs : subscripted slice false (.ref l) (.ref hp.objs.size) = operate [.ref hp.objs.size, .ref l] (getItem (.ref l) (.ref hp.objs.size))) (ht : ∀ r, letTemporaryGo value (.ref l) r = pure ()) (hz : ns.length < 1000000)
    (h : ∀ D ws h', Fr h₀ L h' m → News h₀ L h' ((D, W.listOf (List.toArray ws) 0) :: news) → (∀ p ∈ news, p.1 < D) → IntsAre ws ms → Q (.ref D) { s₂ with heap := h' }) :
    wpAny (model prog w) A (subscriptTail value slice (.ref l) (.ref a)) Q E s₂ := by
  subst ha
  have e2 : s₂ = { ({ s₂ with heap := hp } : Shared) with heap := ({ s₂ with heap := hp } : Shared).heap.push { cls := .type "slice", data := .fields #[vl, vu, .none] } } := by
    cases s₂; dsimp only at e ⊢; rw [e]
  rw [e2]
  exact kmk_slice_ints (s := { s₂ with heap := hp }) F N hl pl pu hi' hm rfl (fun D ws h' F' N' l1 hI _ _ => h D ws h' F' N' l1 hI) hs ht (by rw [List.size_toArray, hi'.length, sizeLine_eq]; omega)
theorem sub_nil {b : Led} : ∀ q ∈ ([] : Led), q ∈ b := fun _ h => nomatch h
theorem sub_cons {p : Addr × Obj} {a b : Led} (h1 : p ∈ b) (h2 : ∀ q ∈ a, q ∈ b) : ∀ q ∈ p :: a, q ∈ b := fun q hq => by
  rcases List.mem_cons.mp hq with rfl | hq
  · exact h1
  · exact h2 q hq
theorem off_lt {d : Addr} : ∀ {l : Led}, AllLt d l → PyProof.Rows.LCg.Off1 d l
  | [], _ => trivial
  | _ :: _, h => ⟨Nat.ne_of_lt h.1, off_lt h.2⟩
theorem len_tup {prog : Program} {w : World} {A : Around} {E : Value → Shared → Prop} {s : Shared} {h₀ : Heap} {L l : Addr} {news : Led} {vs : List Value} {ns : List Int} {Q : Value → Shared → Prop} (N : News h₀ L s.heap news) (hm : (l, ({ cls := .type "tuple", data := .seq vs.toArray } : Obj)) ∈ news) (hi : IntsAre vs ns) (hf : ns.length < 1000000)
    (h : Q (.int (ns.length : Int) (s.toks + 1)) { s with toks := s.toks + 1 + 1 }) : wpAny (model prog w) A (call (.builtin "len") [.ref l]) Q E s := by
  have e2 : vs.toArray.size = ns.length := by rw [List.size_toArray, hi.length]
  exact PyProof.Rows.len_tuple ⟨_, (N _ hm).1, rfl, 0, rfl⟩ (by rw [e2]; omega) (by rw [e2]; exact h)
theorem item_tup {prog : Program} {w : World} {A : Around} {E : Value → Shared → Prop} {s : Shared} {h₀ : Heap} {L l : Addr} {news : Led} {vs : List Value} {ns : List Int} {k : Int} {u : Tok} {value slice : PySem.Expr} {Q : Value → Shared → Prop} (N : News h₀ L s.heap news) (hm : (l, ({ cls := .type "tuple", data := .seq vs.toArray } : Obj)) ∈ news) (hi : IntsAre vs ns) (h0 : 0 ≤ k) (h1 : k < ns.length) (hf : ns.length < 1000000)
    (h : ∀ t, Q (.int (ns.getD k.toNat 0) t) s)
    (hs : subscripted slice false (.ref l) (.int k u) = operate [.ref l, .int k u] (getItem (.ref l) (.int k u))) (hg : ∀ r, letTemporaryGo value (.ref l) r = pure ()) :
    wpAny (model prog w) A (subscriptTail value slice (.ref l) (.int k u)) Q E s :=
  item_tuple_ints ⟨_, (N _ hm).1, rfl, 0, rfl⟩ hi h0 h1 (by omega) h hs hg

end
section
theorem rst_Dv2 : True := by w_top off; trivial
noncomputable def dvFn (P : Params) : FuncData := match (Mine.hd.heap_1 P).lookup 94 with | some o => (match o.data with | .func f => f | _ => default) | none => default
noncomputable def dvBody (P : Params) : List Stmt := match (dvFn P).body with | .stmts b => b | _ => []
/-- the division's body from its statement k on -/
noncomputable def DivAt (w : World) (A : Around) (L : Addr) (k : Nat) (Q : Flow → Shared → Prop) (E : Value → Shared → Prop) (s : Shared) : Prop :=
  wpAny (model PR w) (A.deeper (envOf (Str.ofString "_div2n1n") (dvFn w.params).scope L 94 (.ref 93))) (execs ((dvBody w.params).drop k) (envOf (Str.ofString "_div2n1n") (dvFn w.params).scope L 94 (.ref 93))) Q
    (fun e s' => wpAny (model PR w) (A.deeper (envOf (Str.ofString "_div2n1n") (dvFn w.params).scope L 94 (.ref 93))) (leaving (envOf (Str.ofString "_div2n1n") (dvFn w.params).scope L 94 (.ref 93)) e) (fun _ s'' => E e s'') (fun e' s'' => E e' s'') s') s
theorem div_start {w : World} {A : Around} {L : Addr} {k : Nat} {Q : Flow → Shared → Prop} {E : Value → Shared → Prop} {s : Shared} {a : Stmt} {r : List Stmt} {a1 : ScopeKind} {n : List (Str × NameKind)} {b c : Bool} {d : List (Str × Const)}
    (e1 : (dvBody w.params).drop k = a :: r) (e2 : (dvFn w.params).scope = ⟨a1, n, b, c, d⟩)
    (h : let ek : Value → Shared → Prop := (fun e s' => wpAny (model PR w) (A.deeper (envOf (Str.ofString "_div2n1n") ⟨a1, n, b, c, d⟩ L 94 (.ref 93))) (leaving (envOf (Str.ofString "_div2n1n") ⟨a1, n, b, c, d⟩ L 94 (.ref 93)) e) (fun _ s'' => E e s'') (fun e' s'' => E e' s'') s')
      wpAny (model PR w) (A.deeper (envOf (Str.ofString "_div2n1n") ⟨a1, n, b, c, d⟩ L 94 (.ref 93))) (execs (a :: r) (envOf (Str.ofString "_div2n1n") ⟨a1, n, b, c, d⟩ L 94 (.ref 93))) Q ek s) : DivAt w A L k Q E s := by
  unfold DivAt
  rw [e1, e2]
  exact h
theorem div2_tail {w : World} {p : Program} {loose : List Str} {mean : ExcName → Option Value} {mg mb : Str → Option Value} {dp un : Nat} {gd : Option (List Code)} {cn : Str} {cs : Scope} {L0 ad : Addr} {ccd : Value} {cl : List (Str × Addr)} {outer : List Env} {g base : Heap} {L : Addr} {s : Shared} {m : Str → Option Value} {Q : Flow → Shared → Prop} {E : Value → Shared → Prop} {news : Led} {A B n pd : Int} {ta tb tn tp : Tok}
    (ha : 0 ≤ A) (h2 : n = n.fdiv (2 ^ Int.toNat 1) + n.fdiv (2 ^ Int.toNat 1)) (k1 : 1 ≤ n.fdiv (2 ^ Int.toNat 1)) (k2 : n.fdiv (2 ^ Int.toNat 1) ≤ 2600) (hbn : B < 2 ^ n.toNat) (hbn2 : 2 ^ n.toNat ≤ 2 * B) (hlt : A < 2 ^ n.toNat * B)
    (X : (Mine.hd.heap_1 w.params).In g) (T : Top p loose mean mg mb g)
    (hm : ∀ p ∈ [(Str.ofString "a", Value.int A ta), (Str.ofString "b", Value.int B tb), (Str.ofString "n", Value.int n tn), (Str.ofString "pad", Value.int pd tp)], m p.1 = some p.2) (F : Fr g L s.heap m) (N : News g L s.heap news)
    (B0 : Below (ktrTop dp un gd cn cs L0 ad ccd cl outer) base (envX cn cs L0 ad ccd cl :: outer) g) (C1 : CodeHd base 107 103) (C2 : CodeHd base 114 110) (hdp : dp + 5 < recursionLimit) (hun : un + 50 < cLine)
    (hret : ∀ l r t1 t2 h' tk' m', (pd = 0 ∧ r = A.fmod B ∨ pd ≠ 0 ∧ r = (A.fmod B).fdiv (2 ^ Int.toNat 1)) → Fr g L h' m' → News g L h' ((l, tup2 (.int (A.fdiv B) t1) (.int r t2)) :: news) → (∀ p ∈ news, p.1 ≠ l) → Q (.ret (.ref l)) { s with heap := h', toks := tk' }) :
    DivAt w (ktrTop dp un gd cn cs L0 ad ccd cl outer) L 3 Q E s := by
  have F1 := fr_ps _ hm F
  clear F hm
  have g5 : 0 ≤ n.fdiv (2 ^ Int.toNat 1) := Int.le_trans (by decide) k1
  have i1 : Builtin.Int.intBits 1 = 1 := by decide +kernel
  have g7 : (Builtin.Int.intBits 1 : Int) + n.fdiv (2 ^ Int.toNat 1) ≤ 2 ^ 27 := by rw [i1]; exact Int.le_trans (Int.add_le_add_left k2 _) (by decide)
  refine' div_start ?e1 ?e2 ?_
  case e1 => exact rfl
  case e2 => exact rfl
  intro ek
  dsimp only [kstB] at F1
  (repeat' (first | (k_unfold; (try dsimp only)) | (k_end; wrow_close) | ((fail_if_success with_reducible (first | refine KswEnd_stop ?_ | refine call_stop ?_ | refine pyIter_stop ?_ | refine while_stop ?_ | refine for_stop ?_ | refine def_stop ?_ | (refine stopAt ?_ ?_; assumption))); first | ((fail_if_success (fail_if_success (with_reducible refine st_guard ?_))); refine' store_L ?_ ?_ ?_ ?_ ?_ ?_ ?_; rotate_left 5; (first | dsimp only | rfl); (first | dsimp only | rfl); k_asm; k_asm; rfl; rfl; intro _ _ _; k_sweep) | ((with_reducible refine' irshift_int ?_ ?_); (first | with_reducible assumption | omega | assumption)) | ((with_reducible refine' lshift_int ?_ ?_ ?_); (first | with_reducible assumption | omega | assumption); (first | with_reducible assumption | omega | assumption)) | ((with_reducible refine' rshift_int ?_ ?_); (first | with_reducible assumption | omega | assumption)) | ((with_reducible refine' ilshift_int ?_ ?_ ?_); (first | with_reducible assumption | omega | assumption); (first | with_reducible assumption | omega | assumption)) | ((with_reducible refine' divmod_D ?_ ?_ ?_ ?_ ?_); rotate_left 4; k_asm; k_asm; (first | with_reducible assumption | omega | assumption); (first | with_reducible assumption | omega | assumption); intro _ _; leaf_len) | walk1 | (dsimp only; first | ((fail_if_success (fail_if_success (with_reducible refine st_guard ?_))); refine' store_L ?_ ?_ ?_ ?_ ?_ ?_ ?_; rotate_left 5; (first | dsimp only | rfl); (first | dsimp only | rfl); k_asm; k_asm; rfl; rfl; intro _ _ _; k_sweep) | ((with_reducible refine' irshift_int ?_ ?_); (first | with_reducible assumption | omega | assumption)) | ((with_reducible refine' lshift_int ?_ ?_ ?_); (first | with_reducible assumption | omega | assumption); (first | with_reducible assumption | omega | assumption)) | ((with_reducible refine' rshift_int ?_ ?_); (first | with_reducible assumption | omega | assumption)) | ((with_reducible refine' ilshift_int ?_ ?_ ?_); (first | with_reducible assumption | omega | assumption); (first | with_reducible assumption | omega | assumption)) | ((with_reducible refine' divmod_D ?_ ?_ ?_ ?_ ?_); rotate_left 4; k_asm; k_asm; (first | with_reducible assumption | omega | assumption); (first | with_reducible assumption | omega | assumption); intro _ _; leaf_len) | walk1) | (leave1; try dsimp only))))
  refine div2_pre (A := A) (B := B) (nn := n) (hh := n.fdiv (2 ^ Int.toNat 1)) ha h2 k1 k2 hbn hbn2 hlt ?_
  intro p1 p2 p3 p4 p5 p6 p7 p8 p9 p10 p11 p12 p13 p14 p15 p16 p17 p18
  (with_unfolding_all refine' Does.use (div3 w _ _ _ _ _ _ (n.fdiv (2 ^ Int.toNat 1)) _ _ _ _ _ _ k1 (Int.le_trans k2 (by decide)) p2 p3 p4 p5 p6 p7 p8 p9 (by rw [p10]; exact p11)) (by k_asm) (by k_asm) (by k_asm) (by k_asm) (by k_asm) (by assumption) (by assumption) (by first | exact rfl | assumption) (by ktr_room) (by ktr_units) ?_)
  intro r9 news9 h9 tk9 F9 N9 O9
  revert N9
  apply pair_elim O9
  clear O9
  intro l9 t91 t92 hf9 N9
  rw [p10] at N9
  dsimp only
  (repeat' (first | (k_unfold; (try dsimp only)) | (k_end; wrow_close) | ((fail_if_success with_reducible (first | refine KswEnd_stop ?_ | refine call_stop ?_ | refine pyIter_stop ?_ | refine while_stop ?_ | refine for_stop ?_ | refine def_stop ?_ | (refine stopAt ?_ ?_; assumption))); first | ((fail_if_success (fail_if_success (with_reducible refine st_guard ?_))); refine' store_L ?_ ?_ ?_ ?_ ?_ ?_ ?_; rotate_left 5; (first | dsimp only | rfl); (first | dsimp only | rfl); k_asm; k_asm; rfl; rfl; intro _ _ _; k_sweep) | ((with_reducible refine' irshift_int ?_ ?_); (first | with_reducible assumption | omega | assumption)) | ((with_reducible refine' lshift_int ?_ ?_ ?_); (first | with_reducible assumption | omega | assumption); (first | with_reducible assumption | omega | assumption)) | ((with_reducible refine' rshift_int ?_ ?_); (first | with_reducible assumption | omega | assumption)) | ((with_reducible refine' ilshift_int ?_ ?_ ?_); (first | with_reducible assumption | omega | assumption); (first | with_reducible assumption | omega | assumption)) | ((with_reducible refine' divmod_D ?_ ?_ ?_ ?_ ?_); rotate_left 4; k_asm; k_asm; (first | with_reducible assumption | omega | assumption); (first | with_reducible assumption | omega | assumption); intro _ _; leaf_len) | walk1 | (dsimp only; first | ((fail_if_success (fail_if_success (with_reducible refine st_guard ?_))); refine' store_L ?_ ?_ ?_ ?_ ?_ ?_ ?_; rotate_left 5; (first | dsimp only | rfl); (first | dsimp only | rfl); k_asm; k_asm; rfl; rfl; intro _ _ _; k_sweep) | ((with_reducible refine' irshift_int ?_ ?_); (first | with_reducible assumption | omega | assumption)) | ((with_reducible refine' lshift_int ?_ ?_ ?_); (first | with_reducible assumption | omega | assumption); (first | with_reducible assumption | omega | assumption)) | ((with_reducible refine' rshift_int ?_ ?_); (first | with_reducible assumption | omega | assumption)) | ((with_reducible refine' ilshift_int ?_ ?_ ?_); (first | with_reducible assumption | omega | assumption); (first | with_reducible assumption | omega | assumption)) | ((with_reducible refine' divmod_D ?_ ?_ ?_ ?_ ?_); rotate_left 4; k_asm; k_asm; (first | with_reducible assumption | omega | assumption); (first | with_reducible assumption | omega | assumption); intro _ _; leaf_len) | walk1) | (leave1; try dsimp only))))
  (with_unfolding_all refine' Does.use (div3 w _ _ _ _ _ _ (n.fdiv (2 ^ Int.toNat 1)) _ _ _ _ _ _ k1 (Int.le_trans k2 (by decide)) p2 p3 p4 p5 p6 p12 p13 p14 p15) (by k_asm) (by k_asm) (by k_asm) (by k_asm) (by k_asm) (by assumption) (by assumption) (by first | exact rfl | assumption) (by ktr_room) (by ktr_units) ?_)
  intro r9 news9 h9 tk9 F9 N9 O9
  revert N9
  apply pair_elim O9
  clear O9
  intro l8 t81 t82 hf8 N9
  rw [p17] at N9
  dsimp only
  (repeat' (first | (k_unfold; (try dsimp only)) | (k_end; wrow_close) | ((fail_if_success with_reducible (first | refine KswEnd_stop ?_ | refine call_stop ?_ | refine pyIter_stop ?_ | refine while_stop ?_ | refine for_stop ?_ | refine def_stop ?_ | (refine stopAt ?_ ?_; assumption))); first | ((fail_if_success (fail_if_success (with_reducible refine st_guard ?_))); refine' store_L ?_ ?_ ?_ ?_ ?_ ?_ ?_; rotate_left 5; (first | dsimp only | rfl); (first | dsimp only | rfl); k_asm; k_asm; rfl; rfl; intro _ _ _; k_sweep) | ((with_reducible refine' irshift_int ?_ ?_); (first | with_reducible assumption | omega | assumption)) | ((with_reducible refine' lshift_int ?_ ?_ ?_); (first | with_reducible assumption | omega | assumption); (first | with_reducible assumption | omega | assumption)) | ((with_reducible refine' rshift_int ?_ ?_); (first | with_reducible assumption | omega | assumption)) | ((with_reducible refine' ilshift_int ?_ ?_ ?_); (first | with_reducible assumption | omega | assumption); (first | with_reducible assumption | omega | assumption)) | ((with_reducible refine' divmod_D ?_ ?_ ?_ ?_ ?_); rotate_left 4; k_asm; k_asm; (first | with_reducible assumption | omega | assumption); (first | with_reducible assumption | omega | assumption); intro _ _; leaf_len) | walk1 | (dsimp only; first | ((fail_if_success (fail_if_success (with_reducible refine st_guard ?_))); refine' store_L ?_ ?_ ?_ ?_ ?_ ?_ ?_; rotate_left 5; (first | dsimp only | rfl); (first | dsimp only | rfl); k_asm; k_asm; rfl; rfl; intro _ _ _; k_sweep) | ((with_reducible refine' irshift_int ?_ ?_); (first | with_reducible assumption | omega | assumption)) | ((with_reducible refine' lshift_int ?_ ?_ ?_); (first | with_reducible assumption | omega | assumption); (first | with_reducible assumption | omega | assumption)) | ((with_reducible refine' rshift_int ?_ ?_); (first | with_reducible assumption | omega | assumption)) | ((with_reducible refine' ilshift_int ?_ ?_ ?_); (first | with_reducible assumption | omega | assumption); (first | with_reducible assumption | omega | assumption)) | ((with_reducible refine' divmod_D ?_ ?_ ?_ ?_ ?_); rotate_left 4; k_asm; k_asm; (first | with_reducible assumption | omega | assumption); (first | with_reducible assumption | omega | assumption); intro _ _; leaf_len) | walk1) | (leave1; try dsimp only))))
  · rename News _ _ _ _ => N7
    rename Fr _ _ _ _ => F7
    rw [p16] at N7
    exact hret _ _ _ _ _ _ _ (.inr ⟨by assumption, rfl⟩) F7 (news_sub N7 (by (refine unf_cons ?_ ?_; k_mem; repeat (first | exact fun _ h => h | refine unf_skip ?_)))) (by ktn_open)
  · rename News _ _ _ _ => N7
    rename Fr _ _ _ _ => F7
    rw [p16] at N7
    exact hret _ _ _ _ _ _ _ (.inl ⟨by assumption, rfl⟩) F7 (news_sub N7 (by (refine unf_cons ?_ ?_; k_mem; repeat (first | exact fun _ h => h | refine unf_skip ?_)))) (by ktn_open)
theorem div2 (w : World) (news : Led) (a b n : Int) (t1 t2 t3 : Tok) (ha : 0 ≤ a) (hb : 0 < b) (hn : (Builtin.Int.intBits b : Int) = n) (hn5 : n ≤ 5000) (hlt : a < 2 ^ n.toNat * b) :
   Does w 94 5 50 news [.int a t1, .int b t2, .int n t3]
     (fun r news' => ∃ l t1 t2, r = .ref l ∧ news' = (l, tup2 (.int (a.fdiv b) t1) (.int (a.fmod b) t2)) :: news ∧ ∀ p ∈ news, p.1 ≠ l) := by
  have hb0 : b ≠ 0 := by omega
  have hlb : b.natAbs.log2 < 9000 := log2_lt (Nat.le_refl _) (by omega)
  have hn1 : 1 ≤ n := by
    have : Builtin.Int.intBits b ≠ 0 := fun e => by
      have := intBits_le_iff.mp (Nat.le_of_eq e)
      omega
    omega
  have hnN : Builtin.Int.intBits b = n.toNat := by omega
  have hbn : b < 2 ^ n.toNat := lt_of_bits (Int.le_of_lt hb) (Nat.le_of_eq hnN)
  have hbn2 : 2 ^ n.toNat ≤ 2 * b := by
    have e : (2 : Int) ^ n.toNat = 2 ^ (n.toNat - 1) * 2 := by rw [← Int.pow_succ]; congr 1; omega
    rw [e]
    by_cases hc : b < 2 ^ (n.toNat - 1)
    · have := bits_of_lt (Int.le_of_lt hb) hc
      omega
    · omega
  have hab : Builtin.Int.intBits a ≤ 10000 := by
    refine Nat.le_trans (bits_of_lt (k := n.toNat + n.toNat) ha ?_) (by omega)
    rw [Int.pow_add]
    exact Int.lt_of_lt_of_le hlt (Int.mul_le_mul_of_nonneg_left (Int.le_of_lt hbn) (Int.le_of_lt (two_pow_pos _)))
  have hn2 : (2 : Int) ^ (n + 1).toNat = 2 ^ n.toNat * 2 := by rw [← Int.pow_succ]; congr 1; omega
  have g1 : (Builtin.Int.intBits a : Int) + 1 ≤ 2 ^ 27 := by omega
  have g2 : (Builtin.Int.intBits b : Int) + 1 ≤ 2 ^ 27 := by omega
  have g3 := fdiv2 n
  have g4 := fdiv2 (n + 1)
  have e2 : (2 : Int) ^ Int.toNat 1 = 2 := rfl
  unfold Does
  intro p loose mean mg mb dp un gd cn cs ad ccd cl outer A₀ base h₀ L m s Q E B F X N T C1 C2 hk hd hu hret
  refine wpAny_call ?_
  k_dflt (refine code_def (by k_asm) (by k_asm) (by k_asm) (by k_asm) (by k_asm) (by exact rfl) (by exact rfl) (by first | exact rfl | assumption) (by k_is) (by k_is) (by ktr_room) (by first | exact BindsTo.of_eq rfl | exact kp_binds (by k_in) (fun _ => rfl)) (by exact locs rfl) ?_ (by exact rfl) (by exact rfl) (by exact rfl) (by decide); intro _ _ _ _ _ _ _ _ _; (try dsimp only); (try k_fold))
  refine st_conv (by dsimp only) ?_
  refine tk_any fun tk9 => ?_
  have hS : StopAt (Str.ofString "half_n") := trivial
  (repeat' (first | (k_unfold; (try dsimp only)) | (k_end; wrow_close) | ((fail_if_success with_reducible (first | refine KswEnd_stop ?_ | refine call_stop ?_ | refine pyIter_stop ?_ | refine while_stop ?_ | refine for_stop ?_ | refine def_stop ?_ | (refine stopAt ?_ ?_; assumption))); first | ((fail_if_success (fail_if_success (with_reducible refine st_guard ?_))); refine' store_L ?_ ?_ ?_ ?_ ?_ ?_ ?_; rotate_left 5; (first | dsimp only | rfl); (first | dsimp only | rfl); k_asm; k_asm; rfl; rfl; intro _ _ _; k_sweep) | ((with_reducible refine' irshift_int ?_ ?_); (first | with_reducible assumption | omega | assumption)) | ((with_reducible refine' lshift_int ?_ ?_ ?_); (first | with_reducible assumption | omega | assumption); (first | with_reducible assumption | omega | assumption)) | ((with_reducible refine' rshift_int ?_ ?_); (first | with_reducible assumption | omega | assumption)) | ((with_reducible refine' ilshift_int ?_ ?_ ?_); (first | with_reducible assumption | omega | assumption); (first | with_reducible assumption | omega | assumption)) | ((with_reducible refine' divmod_D ?_ ?_ ?_ ?_ ?_); rotate_left 4; k_asm; k_asm; (first | with_reducible assumption | omega | assumption); (first | with_reducible assumption | omega | assumption); intro _ _; leaf_len) | walk1 | (dsimp only; first | ((fail_if_success (fail_if_success (with_reducible refine st_guard ?_))); refine' store_L ?_ ?_ ?_ ?_ ?_ ?_ ?_; rotate_left 5; (first | dsimp only | rfl); (first | dsimp only | rfl); k_asm; k_asm; rfl; rfl; intro _ _ _; k_sweep) | ((with_reducible refine' irshift_int ?_ ?_); (first | with_reducible assumption | omega | assumption)) | ((with_reducible refine' lshift_int ?_ ?_ ?_); (first | with_reducible assumption | omega | assumption); (first | with_reducible assumption | omega | assumption)) | ((with_reducible refine' rshift_int ?_ ?_); (first | with_reducible assumption | omega | assumption)) | ((with_reducible refine' ilshift_int ?_ ?_ ?_); (first | with_reducible assumption | omega | assumption); (first | with_reducible assumption | omega | assumption)) | ((with_reducible refine' divmod_D ?_ ?_ ?_ ?_ ?_); rotate_left 4; k_asm; k_asm; (first | with_reducible assumption | omega | assumption); (first | with_reducible assumption | omega | assumption); intro _ _; leaf_len) | walk1) | (leave1; try dsimp only))))
  · exact hret _ _ _ _ (by k_asm) (by k_asm) ⟨_, _, _, rfl, rfl, fun p hp => Nat.ne_of_lt (by rename (∀ p ∈ news, p.1 < _) => hl; exact hl p hp)⟩
  · have hpad0 : Builtin.bitAnd n 1 ≠ 0 := by assumption
    have hpad := hpad0
    rw [bitAnd_m1] at hpad
    refine' div2_tail (p := p) (loose := loose) (mean := mean) (mg := mg) (mb := mb) (base := base) (A := a * 2 ^ Int.toNat 1) (B := b * 2 ^ Int.toNat 1) (n := n + 1) (pd := Builtin.bitAnd n 1) (E := E) (by rw [e2]; omega) (by rw [e2]; exact half_odd hpad) (by rw [e2]; omega) (by rw [e2]; omega) (by rw [e2, hn2]; omega) (by rw [e2, hn2]; omega) (by rw [e2, hn2, Int.mul_assoc, Int.mul_left_comm 2 b 2, ← Int.mul_assoc]; omega) (by k_asm) (by k_asm) ?hm (by k_asm) (by k_asm) (by k_asm) C1 C2 hd hu ?hr
    case hm => kst_all1
    case hr =>
      intro l r t1' t2' h' tk' m' hr F' N' hl'
      rcases hr with ⟨e, _⟩ | ⟨_, rfl⟩
      · exact absurd e hpad0
      obtain ⟨x1, x2⟩ := div_double (a := a) hb
      have y2 : a.fmod b = ((a * 2 ^ Int.toNat 1).fmod (b * 2 ^ Int.toNat 1)).fdiv (2 ^ Int.toNat 1) := by
        rw [e2, x2]; have := fdiv2 (a.fmod b * 2); omega
      rw [← x1, y2] at hret
      dsimp only; (repeat' (first | (k_unfold; (try dsimp only)) | (k_end; wrow_close) | ((fail_if_success with_reducible (first | refine KswEnd_stop ?_ | refine call_stop ?_ | refine pyIter_stop ?_ | refine while_stop ?_ | refine for_stop ?_ | refine def_stop ?_ | (refine stopAt ?_ ?_; assumption))); first | ((fail_if_success (fail_if_success (with_reducible refine st_guard ?_))); refine' store_L ?_ ?_ ?_ ?_ ?_ ?_ ?_; rotate_left 5; (first | dsimp only | rfl); (first | dsimp only | rfl); k_asm; k_asm; rfl; rfl; intro _ _ _; k_sweep) | ((with_reducible refine' irshift_int ?_ ?_); (first | with_reducible assumption | omega | assumption)) | ((with_reducible refine' lshift_int ?_ ?_ ?_); (first | with_reducible assumption | omega | assumption); (first | with_reducible assumption | omega | assumption)) | ((with_reducible refine' rshift_int ?_ ?_); (first | with_reducible assumption | omega | assumption)) | ((with_reducible refine' ilshift_int ?_ ?_ ?_); (first | with_reducible assumption | omega | assumption); (first | with_reducible assumption | omega | assumption)) | ((with_reducible refine' divmod_D ?_ ?_ ?_ ?_ ?_); rotate_left 4; k_asm; k_asm; (first | with_reducible assumption | omega | assumption); (first | with_reducible assumption | omega | assumption); intro _ _; leaf_len) | walk1 | (dsimp only; first | ((fail_if_success (fail_if_success (with_reducible refine st_guard ?_))); refine' store_L ?_ ?_ ?_ ?_ ?_ ?_ ?_; rotate_left 5; (first | dsimp only | rfl); (first | dsimp only | rfl); k_asm; k_asm; rfl; rfl; intro _ _ _; k_sweep) | ((with_reducible refine' irshift_int ?_ ?_); (first | with_reducible assumption | omega | assumption)) | ((with_reducible refine' lshift_int ?_ ?_ ?_); (first | with_reducible assumption | omega | assumption); (first | with_reducible assumption | omega | assumption)) | ((with_reducible refine' rshift_int ?_ ?_); (first | with_reducible assumption | omega | assumption)) | ((with_reducible refine' ilshift_int ?_ ?_ ?_); (first | with_reducible assumption | omega | assumption); (first | with_reducible assumption | omega | assumption)) | ((with_reducible refine' divmod_D ?_ ?_ ?_ ?_ ?_); rotate_left 4; k_asm; k_asm; (first | with_reducible assumption | omega | assumption); (first | with_reducible assumption | omega | assumption); intro _ _; leaf_len) | walk1) | (leave1; try dsimp only))))
      exact hret _ _ _ _ (by k_asm) (by k_asm) ⟨_, _, _, rfl, rfl, hl'⟩
  · have hpad0 : Builtin.bitAnd n 1 = 0 := by assumption
    have hpad := hpad0
    rw [bitAnd_m1] at hpad
    refine' div2_tail (p := p) (loose := loose) (mean := mean) (mg := mg) (mb := mb) (base := base) (A := a) (B := b) (n := n) (pd := Builtin.bitAnd n 1) (E := E) ha (by rw [e2]; exact half_even hpad) (by rw [e2]; omega) (by rw [e2]; omega) hbn hbn2 hlt (by k_asm) (by k_asm) ?hm2 (by k_asm) (by k_asm) (by k_asm) C1 C2 hd hu ?hr2
    case hm2 => kst_all1
    case hr2 =>
      intro l r t1' t2' h' tk' m' hr F' N' hl'
      rcases hr with ⟨_, rfl⟩ | ⟨e, _⟩
      · dsimp only; (repeat' (first | (k_unfold; (try dsimp only)) | (k_end; wrow_close) | ((fail_if_success with_reducible (first | refine KswEnd_stop ?_ | refine call_stop ?_ | refine pyIter_stop ?_ | refine while_stop ?_ | refine for_stop ?_ | refine def_stop ?_ | (refine stopAt ?_ ?_; assumption))); first | ((fail_if_success (fail_if_success (with_reducible refine st_guard ?_))); refine' store_L ?_ ?_ ?_ ?_ ?_ ?_ ?_; rotate_left 5; (first | dsimp only | rfl); (first | dsimp only | rfl); k_asm; k_asm; rfl; rfl; intro _ _ _; k_sweep) | ((with_reducible refine' irshift_int ?_ ?_); (first | with_reducible assumption | omega | assumption)) | ((with_reducible refine' lshift_int ?_ ?_ ?_); (first | with_reducible assumption | omega | assumption); (first | with_reducible assumption | omega | assumption)) | ((with_reducible refine' rshift_int ?_ ?_); (first | with_reducible assumption | omega | assumption)) | ((with_reducible refine' ilshift_int ?_ ?_ ?_); (first | with_reducible assumption | omega | assumption); (first | with_reducible assumption | omega | assumption)) | ((with_reducible refine' divmod_D ?_ ?_ ?_ ?_ ?_); rotate_left 4; k_asm; k_asm; (first | with_reducible assumption | omega | assumption); (first | with_reducible assumption | omega | assumption); intro _ _; leaf_len) | walk1 | (dsimp only; first | ((fail_if_success (fail_if_success (with_reducible refine st_guard ?_))); refine' store_L ?_ ?_ ?_ ?_ ?_ ?_ ?_; rotate_left 5; (first | dsimp only | rfl); (first | dsimp only | rfl); k_asm; k_asm; rfl; rfl; intro _ _ _; k_sweep) | ((with_reducible refine' irshift_int ?_ ?_); (first | with_reducible assumption | omega | assumption)) | ((with_reducible refine' lshift_int ?_ ?_ ?_); (first | with_reducible assumption | omega | assumption); (first | with_reducible assumption | omega | assumption)) | ((with_reducible refine' rshift_int ?_ ?_); (first | with_reducible assumption | omega | assumption)) | ((with_reducible refine' ilshift_int ?_ ?_ ?_); (first | with_reducible assumption | omega | assumption); (first | with_reducible assumption | omega | assumption)) | ((with_reducible refine' divmod_D ?_ ?_ ?_ ?_ ?_); rotate_left 4; k_asm; k_asm; (first | with_reducible assumption | omega | assumption); (first | with_reducible assumption | omega | assumption); intro _ _; leaf_len) | walk1) | (leave1; try dsimp only))))
        exact hret _ _ _ _ (by k_asm) (by k_asm) ⟨_, _, _, rfl, rfl, hl'⟩
      · exact absurd hpad0 e

end
section
open PySem.Calls PySem.Spec
/-- a loop's turn has ended in a state of the loop's own -/
inductive TEndA {σ : Type} (h₀ : Heap) (L : Addr) (gs : Array GenState) (dr : Drawn) (os : OsState) (Led : σ → List (Addr × Obj)) (ps : σ → List (Str × Value)) (x : Str) (stored : List Str) (m₀ : Str → Option Value) (P : σ → Prop) (I : Addr) (it : Obj) : Shared → Prop
  | mk (c' : σ) (h' : Heap) (tk : Nat) (m' : Str → Option Value) (news' : List (Addr × Obj)) (F : Fr h₀ L h' m') (N : News h₀ L h' news') (hI : (I, it) ∈ news') (hn : ∀ p ∈ Led c', p ∈ news') (ho : ∀ p ∈ Led c', p.1 ≠ I) (hk : ∀ p ∈ ps c', m' p.1 = some p.2) (hr : ∀ z, z ≠ x → (∀ p ∈ ps c', z ≠ p.1) → stored.contains z = false → m' z = m₀ z) (hp : P c') :
    TEndA h₀ L gs dr os Led ps x stored m₀ P I it ⟨h', gs, dr, tk, os⟩
noncomputable abbrev TEnd {σ : Type} (h₀ : Heap) (L : Addr) (s : Shared) (Led : σ → List (Addr × Obj)) (ps : σ → List (Str × Value)) (x : Str) (stored : List Str) (m₀ : Str → Option Value) (P : σ → Prop) (I : Addr) (it : Obj) (s₂ : Shared) : Prop := TEndA h₀ L s.gens s.drawn s.os Led ps x stored m₀ P I it s₂
inductive LoopJ {σ : Type} (Led : σ → List (Addr × Obj)) (ps : σ → List (Str × Value)) (x : Str) (stored : List Str) (m₀ : Str → Option Value) (P : Nat → σ → Prop) (i : Nat) (m : Str → Option Value) : List (Addr × Obj) → Prop
  | mk (c : σ) (h1 : ∀ p ∈ ps c, m p.1 = some p.2) (h2 : ∀ z, z ≠ x → (∀ p ∈ ps c, z ≠ p.1) → stored.contains z = false → m z = m₀ z) (hp : P i c) : LoopJ Led ps x stored m₀ P i m (Led c)
theorem tend_step {σ : Type} {h₀ hh' : Heap} {L I : Addr} {s s₂ : Shared} {tk' i : Nat} {fp : List Addr} {Led : σ → List (Addr × Obj)} {ps : σ → List (Str × Value)} {x : Str} {stored : List Str} {m₀ : Str → Option Value} {P : Nat → σ → Prop} {it : Obj} {own : List (Addr × Obj)} {c : σ}
    (hfp : ∀ b ∈ fp, b = I ∨ (∃ o, h₀.get? b = some o) ∨ ∃ o, ∀ c, (b, o) ∈ Led c) (hown : ∀ p ∈ own, p.1 ∈ fp) (hget : ∀ p ∈ own, hh'.get? p.1 = some p.2) (hit : (I, it) ∈ own) (N₁ : News h₀ L hh' (own ++ Led c)) (T : TEnd h₀ L s Led ps x stored m₀ (P (i + 1)) I it s₂) :
    LoopStepU h₀ L [I] own (LoopJ Led ps x stored m₀ P (i + 1)) { s with heap := hh', toks := tk' } .next s₂ := by
  obtain ⟨c', h', tk, m', news', F', N', hI', hn, ho, hk', hr', hp''⟩ := T
  refine ⟨rfl, h', tk, m', Led c', rfl, F', fun p hp => ?_, fun p hp hw => ho p hp (List.mem_singleton.mp hw), .mk c' hk' hr' hp''⟩
  rcases List.mem_append.mp hp with hp | hp
  · rcases hfp p.1 (hown p hp) with e1 | ⟨o, e1⟩ | ⟨o, e1⟩
    · have : p = (I, it) := by
        have a1 := hget p hp
        have a2 := hget _ hit
        rw [e1] at a1
        rw [a2] at a1
        exact Prod.ext e1 (Option.some.inj a1).symm
      rw [this]; exact N' _ hI'
    · have a1 := (N₁ p (List.mem_append_left _ hp)).2.2
      rw [e1] at a1; cases a1
    · have a1 := hget p hp
      have a2 := (N₁ _ (List.mem_append_right _ (e1 c))).1
      have a3 : p = (p.1, o) := Prod.ext rfl (Option.some.inj (a1.symm.trans a2))
      rw [a3]; exact N' _ (hn _ (e1 c'))
  · exact N' _ (hn p hp)
noncomputable def TPost {σ : Type} (h₀ : Heap) (L : Addr) (s : Shared) (Led : σ → List (Addr × Obj)) (ps : σ → List (Str × Value)) (x : Str) (stored : List Str) (m₀ : Str → Option Value) (P : σ → Prop) (I : Addr) (it : Obj) (Q : Flow → Shared → Prop) (f : Flow) (s₂ : Shared) : Prop :=
  match f with
  | .ret v => Q (.ret v) s₂
  | .brk => Q .next s₂
  | _ => TEnd h₀ L s Led ps x stored m₀ P I it s₂
theorem tpost_next {σ : Type} {h₀ : Heap} {L : Addr} {s : Shared} {Led : σ → List (Addr × Obj)} {ps : σ → List (Str × Value)} {x : Str} {stored : List Str} {m₀ : Str → Option Value} {P : σ → Prop} {I : Addr} {it : Obj} {Q : Flow → Shared → Prop} {s₂ : Shared} (h : TEnd h₀ L s Led ps x stored m₀ P I it s₂) : TPost h₀ L s Led ps x stored m₀ P I it Q .next s₂ := h
theorem tpost_brk {σ : Type} {h₀ : Heap} {L : Addr} {s : Shared} {Led : σ → List (Addr × Obj)} {ps : σ → List (Str × Value)} {x : Str} {stored : List Str} {m₀ : Str → Option Value} {P : σ → Prop} {I : Addr} {it : Obj} {Q : Flow → Shared → Prop} {s₂ : Shared} (h : Q .next s₂) : TPost h₀ L s Led ps x stored m₀ P I it Q .brk s₂ := h
theorem tpost_ret {σ : Type} {h₀ : Heap} {L : Addr} {s : Shared} {Led : σ → List (Addr × Obj)} {ps : σ → List (Str × Value)} {x : Str} {stored : List Str} {m₀ : Str → Option Value} {P : σ → Prop} {I : Addr} {it : Obj} {Q : Flow → Shared → Prop} {s₂ : Shared} {v : Value} (h : Q (.ret v) s₂) : TPost h₀ L s Led ps x stored m₀ P I it Q (.ret v) s₂ := h
theorem tend {σ : Type} {h₀ : Heap} {L : Addr} {s : Shared} {Led : σ → List (Addr × Obj)} {ps : σ → List (Str × Value)} {x : Str} {stored : List Str} {m₀ m' : Str → Option Value} {P : σ → Prop} {I : Addr} {it : Obj} {h' : Heap} {tk : Nat} {news' : List (Addr × Obj)} (c' : σ)
    (F : Fr h₀ L h' m') (N : News h₀ L h' news') (hI : (I, it) ∈ news') (hn : ∀ p ∈ Led c', p ∈ news') (ho : ∀ p ∈ Led c', p.1 ≠ I) (hk : ∀ p ∈ ps c', m' p.1 = some p.2) (hr : ∀ z, z ≠ x → (∀ p ∈ ps c', z ≠ p.1) → stored.contains z = false → m' z = m₀ z) (hp : P c') :
    TEnd h₀ L s Led ps x stored m₀ P I it { s with heap := h', toks := tk } := .mk c' h' tk m' news' F N hI hn ho hk hr hp

section
variable {prog : Program} {w : World} {A : Around} {E : Value → Shared → Prop} {s : Shared} {env : Env} {h₀ : Heap} {x : Str} {body : List Stmt} {Q : Flow → Shared → Prop}
theorem gen_loop {σ : Type} {I : Addr} {fp : List Addr} {n : Nat} {Pv : Nat → Value → Prop} {St : Nat → Heap → Prop} {m₀ : Str → Option Value} (Led : σ → List (Addr × Obj)) (ps : σ → List (Str × Value)) (stored : List Str) (P : Nat → σ → Prop) (c₀ : σ)
    (W : Walks prog w A I fp [I] n Pv St) (hLf : env.locals ∉ fp) (hI : h₀.get? I = none) (hfp : ∀ b ∈ fp, b = I ∨ (∃ o, h₀.get? b = some o) ∨ ∃ o, ∀ c, (b, o) ∈ Led c) (hst : St 0 s.heap)
    (F : Fr h₀ env.locals s.heap m₀) (N : News h₀ env.locals s.heap (Led c₀)) (hne : ∀ p ∈ Led c₀, p.1 ≠ I) (hk : ∀ p ∈ ps c₀, m₀ p.1 = some p.2) (hp : P 0 c₀)
    (turn : ∀ (c : σ) i v (u : Str → Option Value) h tk it, i < n → Pv i v → P i c → (∀ p ∈ Led c, p.1 ≠ I) →
      Fr h₀ env.locals h (fun y => if y = x then some v else kstB (fun z => if stored.contains z then u z else m₀ z) (ps c) y) → News h₀ env.locals h ((I, it) :: Led c) →
      wpAny (model prog w) A (execs body env) (TPost h₀ env.locals s Led ps x stored m₀ (P (i + 1)) I it Q) E { s with heap := h, toks := tk })
    (done : ∀ (c : σ) (u : Str → Option Value) h tk, P n c → Fr h₀ env.locals h (fun y => if y = x then u y else kstB (fun z => if stored.contains z then u z else m₀ z) (ps c) y) → News h₀ env.locals h (Led c) → (∀ p ∈ Led c, p.1 ≠ I) → Q .next { s with heap := h, toks := tk })
    (hIf : I ∈ fp) (hSt : ∀ i h, St i h → ∃ o, h.get? I = some o) : LoopAtV prog w A h₀ env x body Q E (.ref I) s := by
  refine ⟨I, fp, [I], n, Pv, St, m₀, Led c₀, LoopJ Led ps x stored m₀ P, rfl, W, hLf, ?_, ?_, hst, F, N, .mk c₀ hk (fun _ _ _ _ => rfl) hp, ?_, ?_⟩
  · intro b hb
    rw [List.mem_singleton.mp hb]; exact hI
  · intro p hp' hw
    exact hne p hp' (List.mem_singleton.mp hw)
  · rintro i v m₁ news₁ s₁ own ⟨hh', tk', rfl⟩ hin hP ⟨c, h1, h2, hp'⟩ hofs hown hget hall hst₁ F₁ N₁
    have hoff : ∀ p ∈ Led c, p.1 ≠ I := fun p hp e => hofs p hp (List.mem_singleton.mpr e)
    have hstI : ∃ it, (I, it) ∈ own := by
      obtain ⟨o, ho⟩ := hSt _ _ hst₁
      exact ⟨o, hall I hIf hI o ho⟩
    obtain ⟨it, hit⟩ := hstI
    have N₂ : News h₀ env.locals hh' ((I, it) :: Led c) := fun p hp => by
      rcases List.mem_cons.mp hp with e | hp
      · rw [e]; exact N₁ _ (List.mem_append_left _ hit)
      · exact N₁ _ (List.mem_append_right _ hp)
    refine wpAny_mono (turn c i v m₁ hh' tk' it hin hP hp' hoff (kst_fr h1 h2 F₁) N₂) (fun f s₂ p => ?_) fun _ _ e => e
    cases f with
    | ret v => exact .ret p
    | brk => exact .brk p
    | next => exact .next (tend_step hfp hown hget hit N₁ p)
    | cont => exact .cont (tend_step hfp hown hget hit N₁ p)
  · rintro h' tk m' news' F' N' hofs ⟨c, h1, h2, hp'⟩
    exact done c m' h' tk hp' (kst_frOut h1 h2 F') N' fun p hp e => hofs p hp (List.mem_singleton.mpr e)

theorem loop_str {σ : Type} {y : Str} {ty : Tok} {m₀ : Str → Option Value} (Led : σ → List (Addr × Obj)) (ps : σ → List (Str × Value)) (stored : List Str) (P : Nat → σ → Prop) (c₀ : σ)
    (hh : A.handled = none) (ha : y.cps.all (· < 128) = true) (F : Fr h₀ env.locals s.heap m₀) (N : News h₀ env.locals s.heap (Led c₀)) (hk : ∀ p ∈ ps c₀, m₀ p.1 = some p.2) (hp : P 0 c₀)
    (turn : ∀ (c : σ) i k tk0 (u : Str → Option Value) h tk I it, y.cps[i]? = some k → P i c → (∀ p ∈ Led c, p.1 ≠ I) →
      Fr h₀ env.locals h (fun z => if z = x then some (.str ⟨#[k]⟩ tk0) else kstB (fun z => if stored.contains z then u z else m₀ z) (ps c) z) → News h₀ env.locals h ((I, it) :: Led c) →
      wpAny (model prog w) A (execs body env) (TPost h₀ env.locals s Led ps x stored m₀ (P (i + 1)) I it Q) E { s with heap := h, toks := tk })
    (done : ∀ (c : σ) (u : Str → Option Value) h tk, P y.cps.size c → Fr h₀ env.locals h (fun z => if z = x then u z else kstB (fun z => if stored.contains z then u z else m₀ z) (ps c) z) → News h₀ env.locals h (Led c) → Q .next { s with heap := h, toks := tk }) :
    wpAny (model prog w) A (pyIter (.str y ty)) (fun it s₂ => LoopAtV prog w A h₀ env x body Q E it s₂) E s := by
  refine wpAny_pyIter_ascii ha ?_
  have hL : env.locals ≠ s.heap.objs.size := fun e => absurd F.ns.lt (e ▸ Nat.lt_irrefl _)
  refine gen_loop Led ps stored P c₀ (Walks.strAscii hh s.heap.objs.size y ty) (by simpa using hL) (next_is_new F) (fun b hb => .inl (List.mem_singleton.mp hb)) ⟨_, Heap.get?_push_size _ rfl, rfl, rfl⟩ (F.push _) (fun p hp => ⟨Heap.get?_push_of_some _ (N p hp).1, (N p hp).2⟩) (fun p hp => Nat.ne_of_lt (Heap.lt_size (N p hp).1)) hk hp ?_ ?_ (by simp) (fun i h ⟨o, ho, _⟩ => ⟨o, ho⟩)
  · rintro c i v u h tk it hi ⟨k, tk0, hk', rfl⟩ hP hoff F' N'
    exact turn c i k tk0 u h tk _ it hk' hP hoff F' N'
  · intro c u h tk hP F' N' _
    exact done c u h tk hP F' N'

theorem loop_led {σ : Type} {l : Addr} {vs : List Value} {nn : Nat} {m₀ : Str → Option Value} (Led : σ → List (Addr × Obj)) (ps : σ → List (Str × Value)) (stored : List Str) (P : Nat → σ → Prop) (c₀ : σ)
    (hh : A.handled = none) (hm : ∀ c, (l, W.listOf vs.toArray nn) ∈ Led c) (F : Fr h₀ env.locals s.heap m₀) (N : News h₀ env.locals s.heap (Led c₀)) (hk : ∀ p ∈ ps c₀, m₀ p.1 = some p.2) (hp : P 0 c₀)
    (turn : ∀ (c : σ) i v (u : Str → Option Value) h tk I it, vs[i]? = some v → P i c → (∀ p ∈ Led c, p.1 ≠ I) →
      Fr h₀ env.locals h (fun z => if z = x then some v else kstB (fun z => if stored.contains z then u z else m₀ z) (ps c) z) → News h₀ env.locals h ((I, it) :: Led c) →
      wpAny (model prog w) A (execs body env) (TPost h₀ env.locals s Led ps x stored m₀ (P (i + 1)) I it Q) E { s with heap := h, toks := tk })
    (done : ∀ (c : σ) (u : Str → Option Value) h tk, P vs.length c → Fr h₀ env.locals h (fun z => if z = x then u z else kstB (fun z => if stored.contains z then u z else m₀ z) (ps c) z) → News h₀ env.locals h (Led c) → Q .next { s with heap := h, toks := tk }) :
    wpAny (model prog w) A (pyIter (.ref l)) (fun it s₂ => LoopAtV prog w A h₀ env x body Q E it s₂) E s := by
  have hls : s.heap.IsList l vs.toArray := ⟨_, (N _ (hm c₀)).1, rfl, nn, rfl⟩
  refine wpAny_pyIter_list hls ?_
  have hL : env.locals ≠ s.heap.objs.size := fun e => absurd F.ns.lt (e ▸ Nat.lt_irrefl _)
  have hlt := Heap.lt_size (N _ (hm c₀)).1
  have hne : l ≠ s.heap.objs.size := Nat.ne_of_lt hlt
  refine gen_loop Led ps stored P c₀ (Walks.list hh s.heap.objs.size l hne vs.toArray) (by simp only [List.mem_cons, List.not_mem_nil, or_false, not_or]; exact ⟨hL, fun e => (N _ (hm c₀)).2.1 e.symm⟩) (next_is_new F)
    (fun b hb => by
      rcases List.mem_cons.mp hb with e | hb
      · exact .inl e
      · rw [List.mem_singleton.mp hb]; exact .inr (.inr ⟨_, hm⟩))
    ⟨⟨_, Heap.get?_push_size _ rfl, rfl, rfl⟩, hls.at fun o e => Heap.get?_push_of_some _ e⟩ (F.push _) (fun p hp => ⟨Heap.get?_push_of_some _ (N p hp).1, (N p hp).2⟩) (fun p hp => Nat.ne_of_lt (Heap.lt_size (N p hp).1)) hk hp ?_ ?_ (by simp) (fun i h hs => let ⟨o, ho, _⟩ := hs.1; ⟨o, ho⟩)
  · rintro c i v u h tk it hi hv hP hoff F' N'
    exact turn c i v u h tk _ it (by simpa using hv) hP hoff F' N'
  · intro c u h tk hP F' N' _
    exact done c u h tk (by simpa using hP) F' N'

theorem loop_range {σ : Type} {r : Addr} {a₀ b₀ : Int} {t₀ u₀ v₀ : Tok} {n : Nat} {m₀ : Str → Option Value} (Led : σ → List (Addr × Obj)) (ps : σ → List (Str × Value)) (stored : List Str) (P : Nat → σ → Prop) (c₀ : σ)
    (hh : A.handled = none) (hr : IsRange s.heap r a₀ b₀ 1 t₀ u₀ v₀) (hsmall : Builtin.Range.small a₀ b₀ 1 = true) (hn : Builtin.Range.rangeSize a₀ b₀ 1 = (n : Int)) (F : Fr h₀ env.locals s.heap m₀) (N : News h₀ env.locals s.heap (Led c₀)) (hk : ∀ p ∈ ps c₀, m₀ p.1 = some p.2) (hp : P 0 c₀)
    (turn : ∀ (c : σ) (i : Nat) tk0 (u : Str → Option Value) h tk I it, i < n → P i c → (∀ p ∈ Led c, p.1 ≠ I) →
      Fr h₀ env.locals h (fun z => if z = x then some (.int (a₀ + (i : Int)) tk0) else kstB (fun z => if stored.contains z then u z else m₀ z) (ps c) z) → News h₀ env.locals h ((I, it) :: Led c) →
      wpAny (model prog w) A (execs body env) (TPost h₀ env.locals s Led ps x stored m₀ (P (i + 1)) I it Q) E { s with heap := h, toks := tk })
    (done : ∀ (c : σ) (u : Str → Option Value) h tk, P n c → Fr h₀ env.locals h (fun z => if z = x then u z else kstB (fun z => if stored.contains z then u z else m₀ z) (ps c) z) → News h₀ env.locals h (Led c) → Q .next { s with heap := h, toks := tk }) :
    wpAny (model prog w) A (pyIter (.ref r)) (fun it s₂ => LoopAtV prog w A h₀ env x body Q E it s₂) E s := by
  refine wpAny_pyIter_range hr hsmall ?_
  have hL : env.locals ≠ s.heap.objs.size := fun e => absurd F.ns.lt (e ▸ Nat.lt_irrefl _)
  refine gen_loop Led ps stored P c₀ ((Walks.range hh s.heap.objs.size a₀ 1 n).bound) (by simpa using hL) (next_is_new F) (fun b hb => .inl (List.mem_singleton.mp hb)) (by show IsRangeIter _ _ _ _ _; rw [hn]; simpa using Heap.get?_push_size _ rfl) (F.push _) (fun p hp => ⟨Heap.get?_push_of_some _ (N p hp).1, (N p hp).2⟩) (fun p hp => Nat.ne_of_lt (Heap.lt_size (N p hp).1)) hk hp ?_ ?_ (by simp) (fun i h hs => ⟨_, hs⟩)
  · rintro c i v u h tk it hi ⟨_, tk0, rfl⟩ hP hoff F' N'
    have e1 : a₀ + (i : Int) * 1 = a₀ + (i : Int) := by omega
    rw [e1] at F'
    exact turn c i tk0 u h tk _ it hi hP hoff F' N'
  · intro c u h tk hP F' N' _
    exact done c u h tk hP F' N'

theorem loop_rev {σ : Type} {l I : Addr} {vs : List Value} {nn : Nat} {m₀ : Str → Option Value} (Led : σ → List (Addr × Obj)) (ps : σ → List (Str × Value)) (stored : List Str) (P : Nat → σ → Prop) (c₀ : σ)
    (hh : A.handled = none) (hm : ∀ c, (l, W.listOf vs.toArray nn) ∈ Led c) (F : Fr h₀ env.locals s.heap m₀) (N : News h₀ env.locals s.heap ((I, revObj l ((vs.length : Int) - 1)) :: Led c₀)) (hne0 : ∀ p ∈ Led c₀, p.1 ≠ I) (hk : ∀ p ∈ ps c₀, m₀ p.1 = some p.2) (hp : P 0 c₀)
    (turn : ∀ (c : σ) (i : Nat) v (u : Str → Option Value) h tk it, vs[vs.length - 1 - i]? = some v ∧ i < vs.length → P i c → (∀ p ∈ Led c, p.1 ≠ I) →
      Fr h₀ env.locals h (fun z => if z = x then some v else kstB (fun z => if stored.contains z then u z else m₀ z) (ps c) z) → News h₀ env.locals h ((I, it) :: Led c) →
      wpAny (model prog w) A (execs body env) (TPost h₀ env.locals s Led ps x stored m₀ (P (i + 1)) I it Q) E { s with heap := h, toks := tk })
    (done : ∀ (c : σ) (u : Str → Option Value) h tk, P vs.length c → Fr h₀ env.locals h (fun z => if z = x then u z else kstB (fun z => if stored.contains z then u z else m₀ z) (ps c) z) → News h₀ env.locals h (Led c) → Q .next { s with heap := h, toks := tk }) :
    wpAny (model prog w) A (pyIter (.ref I)) (fun it s₂ => LoopAtV prog w A h₀ env x body Q E it s₂) E s := by
  have hIx := N _ (List.mem_cons_self ..)
  have hax := N _ (List.mem_cons_of_mem _ (hm c₀))
  have hls : s.heap.IsList l vs.toArray := ⟨_, hax.1, rfl, nn, rfl⟩
  have hne : l ≠ I := hne0 _ (hm c₀)
  have hit : s.heap.IsRevIter I l ((vs.length : Int) - 1) := ⟨_, hIx.1, rfl, rfl⟩
  refine wpAny_pyIter_revIter hit ?_
  have hsz : vs.toArray.size = vs.length := by simp
  refine gen_loop Led ps stored P c₀ (Walks.listRev hh I l hne vs.toArray) (by simp only [List.mem_cons, List.not_mem_nil, or_false, not_or]; exact ⟨fun e => hIx.2.1 e.symm, fun e => hax.2.1 e.symm⟩) hIx.2.2
    (fun b hb => by
      rcases List.mem_cons.mp hb with e | hb
      · exact .inl e
      · rw [List.mem_singleton.mp hb]; exact .inr (.inr ⟨_, hm⟩))
    ⟨Nat.zero_le _, ?_, hls⟩ F (fun p hp => N p (List.mem_cons_of_mem _ hp)) hne0 hk hp ?_ ?_ (by simp) (fun i h hs => let ⟨o, ho, _⟩ := hs.2.1; ⟨o, ho⟩)
  · have e : ((vs.toArray.size : Int)) - 1 - ((0 : Nat) : Int) = (vs.length : Int) - 1 := by rw [hsz]; omega
    rw [e]; exact hit
  · rintro c i v u h tk it hi hv hP hoff F' N'
    rw [hsz] at hi
    exact turn c i v u h tk it ⟨by simpa using hv, hi⟩ hP hoff F' N'
  · intro c u h tk hP F' N' _
    exact done c u h tk (by rw [hsz] at hP; exact hP) F' N'
end

end
section
theorem rst_I2d : True := by w_top off; trivial
local macro_rules | `(tactic| k_all) => `(tactic| tlg_ne)
/-- the digits of a by n bits -/
theorem int2digits (w : World) (tabs rest : Led) (a n : Int) (t t1 : Tok) (ha : 0 ≤ a) (hb : 0 < n) (hst : TabSt 103 92 4 (Str.ofString "_int2digits.<locals>.inner") tabs) (hdis : Dis tabs rest) (hbits : (Builtin.Int.intBits a : Int) ≤ 8 * n) (hnb : n < 9000) :
   Does w 108 12 130 (tabs ++ rest) [.int a t, .int n t1]
     (fun r news' => ∃ l vs ns nn tabs', r = .ref l ∧ news' = (l, W.listOf vs.toArray nn) :: (tabs' ++ rest) ∧ TabSt 103 92 4 (Str.ofString "_int2digits.<locals>.inner") tabs' ∧ Dis tabs' rest ∧ (∀ p ∈ tabs' ++ rest, p.1 ≠ l) ∧
       IntsAre vs ns ∧ (ns.length : Int) = ((Builtin.Int.intBits a : Int) + n - 1).fdiv n ∧ ∀ i : Nat, i < ns.length → ns.getD i 0 = dig n a i) := by
  unfold Does
  intro p loose mean mg mb dp un gd cn cs ad ccd cl outer A₀ base h₀ L m s Q E B F X N T C1 C2 hk hd hu hret
  refine wpAny_call ?_
  k_dflt (refine code_defC (by k_asm) (by k_asm) (by k_asm) (by k_asm) (by k_asm) (by exact rfl) (by exact rfl) (by first | exact rfl | assumption) (by k_is) (by k_is) (by ktr_room) (by first | exact BindsTo.of_eq rfl | exact kp_binds (by k_in) (fun _ => rfl)) (by exact rfl) (by decide +kernel) ?_ (by exact rfl) (by exact rfl) (by exact rfl); (intro _ _ _ _ _ _ _ N1 Y1 _ _ _ hl; (try k_lt hl); k_cells Y1; (try simp only [List.cons_append, List.nil_append] at N1); (try dsimp only); (try k_fold)))
  refine st_conv (by dsimp only) ?_
  refine tk_any fun tk9 => ?_
  rename_i L1 hx1 tkx FG1 F1 B1 X1 T1 o1 o2 o3 d1 d2 d3
  have hR : RestLt L1 (tabs ++ rest) := hl
  have h103 : @LT.lt Nat _ 103 L1 := by obtain ⟨o, ho⟩ := hst.mem; exact hl _ (List.mem_append_left _ ho)
  have hb0 : n ≠ 0 := by omega
  have hnl : n.natAbs.log2 < 9000 := Nat.lt_of_le_of_lt (Nat.log2_le_self _) (by omega)
  obtain ⟨hN0, hN8, hN2, hN3⟩ := count_facts (b := Builtin.Int.intBits a) (by omega) hb hbits
  have hN1 : ((Builtin.Int.intBits a : Int) + n - 1).fdiv n ≤ 1000000 := by omega
  (repeat' (first | (k_unfold; (try dsimp only)) | (k_end; wrow_close) | ((fail_if_success with_reducible (first | refine KswEnd_stop ?_ | refine call_stop ?_ | refine pyIter_stop ?_ | refine while_stop ?_ | refine for_stop ?_ | refine def_stop ?_)); first | ((fail_if_success (fail_if_success (with_reducible refine st_guard ?_))); refine' store_L ?_ ?_ ?_ ?_ ?_ ?_ ?_; rotate_left 5; (first | dsimp only | rfl); (first | dsimp only | rfl); k_asm; k_asm; rfl; rfl; intro _ _ _; k_sweep) | ((with_reducible refine' len_led ?_ ?_ ?_ ?_); rotate_left 5; k_asm; k_mem; ((try simp only [List.length_replicate]); omega)) | ((with_reducible refine' lshift_int ?_ ?_ ?_); (first | with_reducible assumption | omega | assumption); (first | with_reducible assumption | omega | assumption)) | ((with_reducible refine' rshift_int ?_ ?_); (first | with_reducible assumption | omega | assumption)) | ((with_reducible refine' mul_rep ?_ ?_ ?_ ?_ ?_ ?_); rotate_left 6; k_asm; k_asm; k_mem; (first | with_reducible assumption | omega | assumption); (first | with_reducible assumption | omega | assumption); leaf_len) | ((with_reducible refine' floordiv_D ?_ ?_ ?_); (first | k_asm | omega | decide); (first | k_asm | omega | decide +kernel)) | walk1 | (dsimp only; first | ((fail_if_success (fail_if_success (with_reducible refine st_guard ?_))); refine' store_L ?_ ?_ ?_ ?_ ?_ ?_ ?_; rotate_left 5; (first | dsimp only | rfl); (first | dsimp only | rfl); k_asm; k_asm; rfl; rfl; intro _ _ _; k_sweep) | ((with_reducible refine' len_led ?_ ?_ ?_ ?_); rotate_left 5; k_asm; k_mem; ((try simp only [List.length_replicate]); omega)) | ((with_reducible refine' lshift_int ?_ ?_ ?_); (first | with_reducible assumption | omega | assumption); (first | with_reducible assumption | omega | assumption)) | ((with_reducible refine' rshift_int ?_ ?_); (first | with_reducible assumption | omega | assumption)) | ((with_reducible refine' mul_rep ?_ ?_ ?_ ?_ ?_ ?_); rotate_left 6; k_asm; k_asm; k_mem; (first | with_reducible assumption | omega | assumption); (first | with_reducible assumption | omega | assumption); leaf_len) | ((with_reducible refine' floordiv_D ?_ ?_ ?_); (first | k_asm | omega | decide); (first | k_asm | omega | decide +kernel)) | walk1) | (leave1; try dsimp only))))
  refine nestDef_K rfl rfl rfl ?_
  refine nest_any (pre := [_, _, _, _, _]) (by k_asm) (by k_asm) (by k_asm) (by kn_code) rfl hst hR ?_ hdis rfl ?_
  · exact ⟨by omega, by omega, by omega, by omega, by omega, trivial⟩
  intro f' c' oc' vs' t' ct' dc' h' tk' F' N' d1' d2' l1 l2 l3
  have hRr : RestLt L1 rest := fun p hp => hl p (List.mem_append_right _ hp)
  simp only [AllLt, and_true] at l1
  simp only [AllNe, and_true] at l2
  have n1 := l2.1.symm
  have n2 := l2.2.2.1.symm
  dsimp only [List.cons_append, List.nil_append] at N'
  have disT : Dis [(103, tabObj #[rawInt (92 : Nat), rawInt (4 : Nat), .ref c']), (c', oc')] rest := by
    obtain ⟨o, ho⟩ := hst.mem
    have h1 := hdis _ ho
    intro q hq p hp
    rcases List.mem_cons.mp hq with e | hq
    · rw [e]; exact h1 p hp
    · rw [List.mem_singleton.mp hq]; exact l3 p hp
  have hf0 := (N' _ (List.Mem.head _)).1
  generalize hfo : fnMade _ _ _ _ _ _ _ _ _ _ = fo at hf0
  have hin : ∀ (k : Nat) (x l r : Int) (tx tl tr : Tok) (D : Addr) (vs : List Value) (ns : List Int) (nn : Nat) (more : Led) (o1 o2 o3 : Obj) (tn : Tok),
      (f', fo) ∈ more → (c', oc') ∈ more → (L1+1, o3) ∈ more → o3.data = .cell (some (.int n tn)) → (L1+1+1, o2) ∈ more → o2.data = .cell (some (.ref D)) → (L1+1+1+1, o1) ∈ more → o1.data = .cell (some (.ref f')) → (∀ p ∈ more, p.1 ≠ D) →
      IntsAre vs ns → 0 ≤ x → 0 ≤ l → l < r → r - l ≤ k → r ≤ ns.length → ns.length < 1000 → x < 2 ^ (n * (r - l)).toNat →
      Does w f' (k + 1) (10 * (k + 1)) ((D, W.listOf vs.toArray nn) :: more) [.int x tx, .int l tl, .int r tr]
        (fun rv news' => rv = .none ∧ ∃ vs' ns' nn', news' = (D, W.listOf vs'.toArray nn') :: more ∧ IntsAre vs' ns' ∧ ns'.length = ns.length ∧
          (∀ i : Nat, l ≤ i → i < r → ns'.getD i 0 = dig n x (i - l)) ∧ (∀ i : Nat, i < l ∨ r ≤ i → ns'.getD i 0 = ns.getD i 0)) := by
    clear N' F' hf0 hret hR hRr hst N hN0 hN1 d1 d2 d3 F B X T FG1 B1 X1 T1 l1 l2 l3 disT hdis hbits hN8 hN2 hN3
    subst hfo
    clear hk hd hu
    intro k
    induction k with
    | zero => intros; omega
    | succ k ih =>
      intro x l r tx tl tr D vs ns nn more o1 o2 o3 tn m1 m2 m3 e3 m4 e4 m5 e5 hne hints hx hl0 hlr hk1 hrn hlen hxb
      unfold Does
      intro p loose mean mg mb dp un gd cn cs ad ccd cl outer A₀ base h₀ L m s Q E B F X N T C1 C2 hk hd hu hret
      refine wpAny_call ?_
      k_dflt (refine code_nest (by k_asm) (by k_asm) (by k_asm) (by k_asm) (by k_asm) (by exact rfl) (by exact rfl) (by first | exact rfl | assumption) (by k_mem) (by exact codeRec_news (by k_asm) (by k_mem) (by assumption) (by assumption)) (by ktr_room) (by first | exact BindsTo.of_eq rfl | exact kp_binds (by k_in) (fun _ => rfl)) (by exact locs rfl) ?_ (by exact rfl) (by exact rfl) (by exact rfl) (by decide); intro _ _ _ _ _ _ _ _ _; (try dsimp only); (try k_fold))
      refine st_conv (by dsimp only) ?_
      refine tk_any fun tk9 => ?_
      have hM1 : l ≤ (l + r).fdiv (2 ^ Int.toNat 1) := (mid_two hlr).1
      have hM2 : (l + r).fdiv (2 ^ Int.toNat 1) < r := (mid_two hlr).2
      have hn0 : 0 ≤ n := Int.le_of_lt hb
      have hsh0 : 0 ≤ ((l + r).fdiv (2 ^ Int.toNat 1) - l) * n := Int.mul_nonneg (by omega) hn0
      have hsz : (Builtin.Int.intBits (x.fdiv (2 ^ (((l + r).fdiv (2 ^ Int.toNat 1) - l) * n).toNat)) : Int) + ((l + r).fdiv (2 ^ Int.toNat 1) - l) * n ≤ 2 ^ 27 := by
        have b1 := intBits_fdiv_le (y := 2 ^ (((l + r).fdiv (2 ^ Int.toNat 1) - l) * n).toNat) (bits_of_lt hx hxb)
        have b2 : n * (r - l) ≤ 10000 * 1000 := Int.mul_le_mul (by omega) (by omega) (by omega) (by decide)
        have b3 : ((l + r).fdiv (2 ^ Int.toNat 1) - l) * n ≤ 1000 * 10000 := Int.mul_le_mul (by omega) (by omega) (by omega) (by decide)
        omega
      (repeat' (first | (k_unfold; (try dsimp only)) | (k_end; wrow_close) | ((fail_if_success with_reducible (first | refine KswEnd_stop ?_ | refine call_stop ?_ | refine pyIter_stop ?_ | refine while_stop ?_ | refine for_stop ?_ | refine def_stop ?_)); first | ((fail_if_success (fail_if_success (with_reducible refine st_guard ?_))); refine' store_L ?_ ?_ ?_ ?_ ?_ ?_ ?_; rotate_left 5; (first | dsimp only | rfl); (first | dsimp only | rfl); k_asm; k_asm; rfl; rfl; intro _ _ _; k_sweep) | ((with_reducible refine' len_led ?_ ?_ ?_ ?_); rotate_left 5; k_asm; k_mem; ((try simp only [List.length_replicate]); omega)) | ((with_reducible refine' lshift_int ?_ ?_ ?_); (first | with_reducible assumption | omega | assumption); (first | with_reducible assumption | omega | assumption)) | ((with_reducible refine' rshift_int ?_ ?_); (first | with_reducible assumption | omega | assumption)) | ((with_reducible refine' mul_rep ?_ ?_ ?_ ?_ ?_ ?_); rotate_left 6; k_asm; k_asm; k_mem; (first | with_reducible assumption | omega | assumption); (first | with_reducible assumption | omega | assumption); leaf_len) | ((with_reducible refine' floordiv_D ?_ ?_ ?_); (first | k_asm | omega | decide); (first | k_asm | omega | decide +kernel)) | walk1 | (dsimp only; first | ((fail_if_success (fail_if_success (with_reducible refine st_guard ?_))); refine' store_L ?_ ?_ ?_ ?_ ?_ ?_ ?_; rotate_left 5; (first | dsimp only | rfl); (first | dsimp only | rfl); k_asm; k_asm; rfl; rfl; intro _ _ _; k_sweep) | ((with_reducible refine' len_led ?_ ?_ ?_ ?_); rotate_left 5; k_asm; k_mem; ((try simp only [List.length_replicate]); omega)) | ((with_reducible refine' lshift_int ?_ ?_ ?_); (first | with_reducible assumption | omega | assumption); (first | with_reducible assumption | omega | assumption)) | ((with_reducible refine' rshift_int ?_ ?_); (first | with_reducible assumption | omega | assumption)) | ((with_reducible refine' mul_rep ?_ ?_ ?_ ?_ ?_ ?_); rotate_left 6; k_asm; k_asm; k_mem; (first | with_reducible assumption | omega | assumption); (first | with_reducible assumption | omega | assumption); leaf_len) | ((with_reducible refine' floordiv_D ?_ ?_ ?_); (first | k_asm | omega | decide); (first | k_asm | omega | decide +kernel)) | walk1) | (leave1; try dsimp only))))
      · refine hret _ _ _ _ (by k_asm) (by k_asm) ⟨rfl, _, _, _, rfl, by assumption, by simp, ?_, ?_⟩
        · intro i h1 h2
          have hil : i = l.toNat := one_ix (by assumption) h1 h2
          subst hil
          have e : ((l.toNat : Nat) : Int) - l = 0 := one_ix0 hl0
          rw [e, dig_one hx (by have : r - l = 1 := by omega
                                rw [this, Int.mul_one] at hxb; exact hxb)]
          have : l.toNat < ns.length := (Int.toNat_lt hl0).mpr (Int.lt_of_lt_of_le hlr hrn)
          simp [List.getD, this]
        · intro i h1
          have hil : l.toNat ≠ i := one_off (by assumption) hl0 h1
          simp [List.getD, hil]
      · have hne' : l + 1 ≠ r := by assumption
        have hMl := (mid_facts hlr hne').1
        have hs1 : ((l + r).fdiv (2 ^ Int.toNat 1) - l) * n = n * ((l + r).fdiv (2 ^ Int.toNat 1) - l) := Int.mul_comm _ _
        generalize hMM : (l + r).fdiv (2 ^ Int.toNat 1) = M at *
        have hM0 : 0 ≤ M := Int.le_trans hl0 hM1
        have hMn : M ≤ ns.length := Int.le_trans (Int.le_of_lt hM2) hrn
        have hd' := rm3 hd
        have hu9 := rm4 hu
        have hxe : Builtin.bitXor x (x.fdiv (2 ^ ((M - l) * n).toNat) * 2 ^ ((M - l) * n).toNat) = x.fmod (2 ^ (n * (M - l)).toNat) := by rw [xor_low hx, hs1]
        have hue : x.fdiv (2 ^ ((M - l) * n).toNat) = x.fdiv (2 ^ (n * (M - l)).toNat) := by rw [hs1]
        have hxb' : x < 2 ^ ((n * (M - l)).toNat + (n * (r - M)).toNat) := by
          rw [← toNat_split hn0 (by omega) (by omega)]
          have : M - l + (r - M) = r - l := by omega
          rw [this]; exact hxb
        have hu' := fdiv_lt_pow hx hxb'
        have hl' := fmod_lt_pow x (n * (M - l)).toNat
        rw [← hxe] at hl'
        rw [← hue] at hu'
        (with_unfolding_all refine' Does.use (ih _ l M _ _ _ D vs ns nn more o1 o2 o3 tn m1 m2 m3 e3 m4 e4 m5 e5 hne hints hl'.1 hl0 hMl (by omega) hMn hlen hl'.2) (by k_asm) (by k_asm) (by k_asm) (by k_asm) (by k_asm) (by assumption) (by assumption) (by first | exact rfl | assumption) (by ktr_room) (by ktr_units) ?_)
        intro r9 news9 h9 tk9 F9 N9 O9
        revert N9
        apply rv3 O9
        clear O9
        intro vs1 ns1 nn1 hO N9
        refine and4 hO ?_
        clear hO
        intro hi1 hlen1 hd1 hk1'
        dsimp only
        (repeat' (first | (k_unfold; (try dsimp only)) | (k_end; wrow_close) | ((fail_if_success with_reducible (first | refine KswEnd_stop ?_ | refine call_stop ?_ | refine pyIter_stop ?_ | refine while_stop ?_ | refine for_stop ?_ | refine def_stop ?_)); first | ((fail_if_success (fail_if_success (with_reducible refine st_guard ?_))); refine' store_L ?_ ?_ ?_ ?_ ?_ ?_ ?_; rotate_left 5; (first | dsimp only | rfl); (first | dsimp only | rfl); k_asm; k_asm; rfl; rfl; intro _ _ _; k_sweep) | ((with_reducible refine' len_led ?_ ?_ ?_ ?_); rotate_left 5; k_asm; k_mem; ((try simp only [List.length_replicate]); omega)) | ((with_reducible refine' lshift_int ?_ ?_ ?_); (first | with_reducible assumption | omega | assumption); (first | with_reducible assumption | omega | assumption)) | ((with_reducible refine' rshift_int ?_ ?_); (first | with_reducible assumption | omega | assumption)) | ((with_reducible refine' mul_rep ?_ ?_ ?_ ?_ ?_ ?_); rotate_left 6; k_asm; k_asm; k_mem; (first | with_reducible assumption | omega | assumption); (first | with_reducible assumption | omega | assumption); leaf_len) | ((with_reducible refine' floordiv_D ?_ ?_ ?_); (first | k_asm | omega | decide); (first | k_asm | omega | decide +kernel)) | walk1 | (dsimp only; first | ((fail_if_success (fail_if_success (with_reducible refine st_guard ?_))); refine' store_L ?_ ?_ ?_ ?_ ?_ ?_ ?_; rotate_left 5; (first | dsimp only | rfl); (first | dsimp only | rfl); k_asm; k_asm; rfl; rfl; intro _ _ _; k_sweep) | ((with_reducible refine' len_led ?_ ?_ ?_ ?_); rotate_left 5; k_asm; k_mem; ((try simp only [List.length_replicate]); omega)) | ((with_reducible refine' lshift_int ?_ ?_ ?_); (first | with_reducible assumption | omega | assumption); (first | with_reducible assumption | omega | assumption)) | ((with_reducible refine' rshift_int ?_ ?_); (first | with_reducible assumption | omega | assumption)) | ((with_reducible refine' mul_rep ?_ ?_ ?_ ?_ ?_ ?_); rotate_left 6; k_asm; k_asm; k_mem; (first | with_reducible assumption | omega | assumption); (first | with_reducible assumption | omega | assumption); leaf_len) | ((with_reducible refine' floordiv_D ?_ ?_ ?_); (first | k_asm | omega | decide); (first | k_asm | omega | decide +kernel)) | walk1) | (leave1; try dsimp only))))
        (with_unfolding_all refine' Does.use (ih _ M r _ _ _ D vs1 ns1 nn1 more o1 o2 o3 tn m1 m2 m3 e3 m4 e4 m5 e5 hne hi1 hu'.1 hM0 hM2 (by omega) (by rw [hlen1]; exact hrn) (by rw [hlen1]; exact hlen) hu'.2) (by k_asm) (by k_asm) (by k_asm) (by k_asm) (by k_asm) (by assumption) (by assumption) (by first | exact rfl | assumption) (by ktr_room) (by ktr_units) ?_)
        intro r9 news9 h9 tk9 F9 N9 O9
        revert N9
        apply rv3 O9
        clear O9
        intro vs2 ns2 nn2 hO N9
        refine and4 hO ?_
        clear hO
        intro hi2 hlen2 hd2 hk2
        dsimp only
        (repeat' (first | (k_unfold; (try dsimp only)) | (k_end; wrow_close) | ((fail_if_success with_reducible (first | refine KswEnd_stop ?_ | refine call_stop ?_ | refine pyIter_stop ?_ | refine while_stop ?_ | refine for_stop ?_ | refine def_stop ?_)); first | ((fail_if_success (fail_if_success (with_reducible refine st_guard ?_))); refine' store_L ?_ ?_ ?_ ?_ ?_ ?_ ?_; rotate_left 5; (first | dsimp only | rfl); (first | dsimp only | rfl); k_asm; k_asm; rfl; rfl; intro _ _ _; k_sweep) | ((with_reducible refine' len_led ?_ ?_ ?_ ?_); rotate_left 5; k_asm; k_mem; ((try simp only [List.length_replicate]); omega)) | ((with_reducible refine' lshift_int ?_ ?_ ?_); (first | with_reducible assumption | omega | assumption); (first | with_reducible assumption | omega | assumption)) | ((with_reducible refine' rshift_int ?_ ?_); (first | with_reducible assumption | omega | assumption)) | ((with_reducible refine' mul_rep ?_ ?_ ?_ ?_ ?_ ?_); rotate_left 6; k_asm; k_asm; k_mem; (first | with_reducible assumption | omega | assumption); (first | with_reducible assumption | omega | assumption); leaf_len) | ((with_reducible refine' floordiv_D ?_ ?_ ?_); (first | k_asm | omega | decide); (first | k_asm | omega | decide +kernel)) | walk1 | (dsimp only; first | ((fail_if_success (fail_if_success (with_reducible refine st_guard ?_))); refine' store_L ?_ ?_ ?_ ?_ ?_ ?_ ?_; rotate_left 5; (first | dsimp only | rfl); (first | dsimp only | rfl); k_asm; k_asm; rfl; rfl; intro _ _ _; k_sweep) | ((with_reducible refine' len_led ?_ ?_ ?_ ?_); rotate_left 5; k_asm; k_mem; ((try simp only [List.length_replicate]); omega)) | ((with_reducible refine' lshift_int ?_ ?_ ?_); (first | with_reducible assumption | omega | assumption); (first | with_reducible assumption | omega | assumption)) | ((with_reducible refine' rshift_int ?_ ?_); (first | with_reducible assumption | omega | assumption)) | ((with_reducible refine' mul_rep ?_ ?_ ?_ ?_ ?_ ?_); rotate_left 6; k_asm; k_asm; k_mem; (first | with_reducible assumption | omega | assumption); (first | with_reducible assumption | omega | assumption); leaf_len) | ((with_reducible refine' floordiv_D ?_ ?_ ?_); (first | k_asm | omega | decide); (first | k_asm | omega | decide +kernel)) | walk1) | (leave1; try dsimp only))))
        refine hret _ _ _ _ (by k_asm) (by k_asm) ⟨rfl, _, _, _, rfl, hi2, hlen2.trans hlen1, fun i h1 h2 => ?_, fun i h1 => ?_⟩
        · by_cases hc : (i : Int) < M
          · rw [hk2 i (.inl hc), hd1 i h1 hc, hxe, dig_lower hn0 (by omega) (by omega) hx]
          · rw [hd2 i (Int.not_lt.mp hc) h2, hue, dig_upper hn0 (by omega) (by omega) hx]
            congr 1; omega
        · rw [hk2 i (by omega), hk1' i (by omega)]
  dsimp only
  (repeat' (first | (k_unfold; (try dsimp only)) | (k_end; wrow_close) | ((fail_if_success with_reducible (first | refine KswEnd_stop ?_ | refine call_stop ?_ | refine pyIter_stop ?_ | refine while_stop ?_ | refine for_stop ?_ | refine def_stop ?_)); first | ((fail_if_success (fail_if_success (with_reducible refine st_guard ?_))); refine' store_L ?_ ?_ ?_ ?_ ?_ ?_ ?_; rotate_left 5; (first | dsimp only | rfl); (first | dsimp only | rfl); k_asm; k_asm; rfl; rfl; intro _ _ _; k_sweep) | ((with_reducible refine' len_led ?_ ?_ ?_ ?_); rotate_left 5; k_asm; k_mem; ((try simp only [List.length_replicate]); omega)) | ((with_reducible refine' lshift_int ?_ ?_ ?_); (first | with_reducible assumption | omega | assumption); (first | with_reducible assumption | omega | assumption)) | ((with_reducible refine' rshift_int ?_ ?_); (first | with_reducible assumption | omega | assumption)) | ((with_reducible refine' mul_rep ?_ ?_ ?_ ?_ ?_ ?_); rotate_left 6; k_asm; k_asm; k_mem; (first | with_reducible assumption | omega | assumption); (first | with_reducible assumption | omega | assumption); leaf_len) | ((with_reducible refine' floordiv_D ?_ ?_ ?_); (first | k_asm | omega | decide); (first | k_asm | omega | decide +kernel)) | walk1 | (dsimp only; first | ((fail_if_success (fail_if_success (with_reducible refine st_guard ?_))); refine' store_L ?_ ?_ ?_ ?_ ?_ ?_ ?_; rotate_left 5; (first | dsimp only | rfl); (first | dsimp only | rfl); k_asm; k_asm; rfl; rfl; intro _ _ _; k_sweep) | ((with_reducible refine' len_led ?_ ?_ ?_ ?_); rotate_left 5; k_asm; k_mem; ((try simp only [List.length_replicate]); omega)) | ((with_reducible refine' lshift_int ?_ ?_ ?_); (first | with_reducible assumption | omega | assumption); (first | with_reducible assumption | omega | assumption)) | ((with_reducible refine' rshift_int ?_ ?_); (first | with_reducible assumption | omega | assumption)) | ((with_reducible refine' mul_rep ?_ ?_ ?_ ?_ ?_ ?_); rotate_left 6; k_asm; k_asm; k_mem; (first | with_reducible assumption | omega | assumption); (first | with_reducible assumption | omega | assumption); leaf_len) | ((with_reducible refine' floordiv_D ?_ ?_ ?_); (first | k_asm | omega | decide); (first | k_asm | omega | decide +kernel)) | walk1) | (leave1; try dsimp only))))
  · have ha0 : a ≠ 0 := by assumption
    rename News _ _ _ _ => N2
    have N3 := news_swap N2
    clear N2
    have hb1 : 0 < (Builtin.Int.intBits a : Int) := by
      have : Builtin.Int.intBits a ≠ 0 := fun e => by
        have := intBits_le_iff.mp (Nat.le_of_eq e)
        omega
      omega
    (with_unfolding_all refine' Does.use (hin 8 a 0 _ _ _ _ _ _ (List.replicate _ 0) _ _ _ _ _ _ ?m1 ?m2 ?m3 ?e3 ?m4 ?e4 ?m5 ?e5 ?hne (ints_rep _ _) ha (by decide) ?p1 ?p2 ?p3 ?p4 ?p5) (by k_asm) (by k_asm) (by k_asm) (by k_asm) (by k_asm) (by assumption) (by assumption) (by first | exact rfl | assumption) (by ktr_room) (by ktr_units) ?_)
    case m1 => rw [← hfo]; exact .head _
    case m2 => k_mem
    case m3 => k_mem
    case e3 => assumption
    case m4 => k_mem
    case e4 => assumption
    case m5 => k_mem
    case e5 => assumption
    case hne =>
      refine fa_cons (by k_ne) ?_
      refine fa_cons (by k_ne) ?_
      refine fa_cons (by k_ne) ?_
      refine fa_cons (by k_ne) ?_
      refine fa_cons (by k_ne) ?_
      refine fa_cons (by k_ne) ?_
      refine fa_cons (by k_ne) ?_
      intro p9 h9
      have q9 := hRr p9 h9
      refine neN ?_
      omega
    case p1 => rw [List.length_replicate]; have := hN3 hb1; omega
    case p2 => rw [List.length_replicate]; omega
    case p3 => rw [List.length_replicate, List.length_replicate]; omega
    case p4 => rw [List.length_replicate]; omega
    case p5 =>
      rw [List.length_replicate]
      have h1 := lt_of_bits ha (Nat.le_refl (Builtin.Int.intBits a))
      refine Int.lt_of_lt_of_le h1 (pow2_le ?_)
      have : (((((Builtin.Int.intBits a : Int) + n - 1).fdiv n).toNat : Nat) : Int) = ((Builtin.Int.intBits a : Int) + n - 1).fdiv n := by omega
      rw [this, Int.sub_zero]
      omega
    intro r9 news9 h9 tk9 F9 N9 O9
    revert N9
    apply rv3 O9
    clear O9
    intro vs1 ns1 nn1 hO N9
    refine and4 hO ?_
    clear hO
    intro hi1 hlen1 hd1 hk1'
    dsimp only
    (repeat' (first | (k_unfold; (try dsimp only)) | (k_end; wrow_close) | ((fail_if_success with_reducible (first | refine KswEnd_stop ?_ | refine call_stop ?_ | refine pyIter_stop ?_ | refine while_stop ?_ | refine for_stop ?_ | refine def_stop ?_)); first | ((fail_if_success (fail_if_success (with_reducible refine st_guard ?_))); refine' store_L ?_ ?_ ?_ ?_ ?_ ?_ ?_; rotate_left 5; (first | dsimp only | rfl); (first | dsimp only | rfl); k_asm; k_asm; rfl; rfl; intro _ _ _; k_sweep) | ((with_reducible refine' len_led ?_ ?_ ?_ ?_); rotate_left 5; k_asm; k_mem; ((try simp only [List.length_replicate]); omega)) | ((with_reducible refine' lshift_int ?_ ?_ ?_); (first | with_reducible assumption | omega | assumption); (first | with_reducible assumption | omega | assumption)) | ((with_reducible refine' rshift_int ?_ ?_); (first | with_reducible assumption | omega | assumption)) | ((with_reducible refine' mul_rep ?_ ?_ ?_ ?_ ?_ ?_); rotate_left 6; k_asm; k_asm; k_mem; (first | with_reducible assumption | omega | assumption); (first | with_reducible assumption | omega | assumption); leaf_len) | ((with_reducible refine' floordiv_D ?_ ?_ ?_); (first | k_asm | omega | decide); (first | k_asm | omega | decide +kernel)) | walk1 | (dsimp only; first | ((fail_if_success (fail_if_success (with_reducible refine st_guard ?_))); refine' store_L ?_ ?_ ?_ ?_ ?_ ?_ ?_; rotate_left 5; (first | dsimp only | rfl); (first | dsimp only | rfl); k_asm; k_asm; rfl; rfl; intro _ _ _; k_sweep) | ((with_reducible refine' len_led ?_ ?_ ?_ ?_); rotate_left 5; k_asm; k_mem; ((try simp only [List.length_replicate]); omega)) | ((with_reducible refine' lshift_int ?_ ?_ ?_); (first | with_reducible assumption | omega | assumption); (first | with_reducible assumption | omega | assumption)) | ((with_reducible refine' rshift_int ?_ ?_); (first | with_reducible assumption | omega | assumption)) | ((with_reducible refine' mul_rep ?_ ?_ ?_ ?_ ?_ ?_); rotate_left 6; k_asm; k_asm; k_mem; (first | with_reducible assumption | omega | assumption); (first | with_reducible assumption | omega | assumption); leaf_len) | ((with_reducible refine' floordiv_D ?_ ?_ ?_); (first | k_asm | omega | decide); (first | k_asm | omega | decide +kernel)) | walk1) | (leave1; try dsimp only))))
    rename News _ _ _ _ => N5
    refine hret _ _ _ _ (by k_asm) (news_sub N5 (b := (_, W.listOf vs1.toArray nn1) :: ([(103, tabObj #[rawInt (92 : Nat), rawInt (4 : Nat), .ref c']), (c', oc')] ++ rest)) ?_) ⟨_, vs1, ns1, nn1, _, rfl, rfl, .one c' oc' vs' t' d1' d2', ?_, ?_, hi1, ?_, ?_⟩
    · intro p hp
      rcases List.mem_cons.mp hp with e | hp
      · rw [e]; exact .head _
      · exact .tail _ (.tail _ (.tail _ (.tail _ (.tail _ (.tail _ hp)))))
    · exact disT
    · refine fa_cons (by k_ne) ?_
      refine fa_cons (by k_ne) ?_
      intro p9 h9
      have q9 := hRr p9 h9
      refine neN ?_
      omega
    · rw [hlen1, List.length_replicate]; omega
    · intro i h1
      rw [hd1 i (by omega) (by rw [hlen1, List.length_replicate] at h1; rw [List.length_replicate]; omega), Int.sub_zero]
  · have ha1 : a = 0 := by assumption
    rename News _ _ _ _ => N5
    refine hret _ _ _ _ (by k_asm) (news_sub N5 (b := (_, W.listOf (List.replicate (((Builtin.Int.intBits a : Int) + n - 1).fdiv n).toNat (Value.int 0 tk9)).toArray 0) :: ([(103, tabObj #[rawInt (92 : Nat), rawInt (4 : Nat), .ref c']), (c', oc')] ++ rest)) ?_) ⟨_, _, _, _, _, rfl, rfl, .one c' oc' vs' t' d1' d2', ?_, ?_, ints_rep _ _, ?_, ?_⟩
    · intro p hp
      rcases List.mem_cons.mp hp with e | hp
      · rw [e]; exact .tail _ (.head _)
      · exact .tail _ (.tail _ (.tail _ (.tail _ (.tail _ (.tail _ hp)))))
    · exact disT
    · refine fa_cons (by k_ne) ?_
      refine fa_cons (by k_ne) ?_
      intro p9 h9
      have q9 := hRr p9 h9
      refine neN ?_
      omega
    · rw [List.length_replicate]; omega
    · intro i h1
      rw [ha1, dig_zero]
      rw [List.getD_eq_getElem?_getD, List.getElem?_replicate]
      split <;> rfl

end
section
theorem rst_Dvp : True := by w_top off; trivial
theorem divmod_pos (w : World) (T rest : Led) (a b : Int) (t1 t2 : Tok) (ha : 0 ≤ a) (hb : 0 < b) (hT : Tabs T rest) (hbb : Builtin.Int.intBits b ≤ 5000) (hab : Builtin.Int.intBits a ≤ 8 * Builtin.Int.intBits b) :
   Does w 122 15 160 (T ++ rest) [.int a t1, .int b t2]
     (fun r news' => ∃ l t1 t2 T', r = .ref l ∧ news' = (l, tup2 (.int (a.fdiv b) t1) (.int (a.fmod b) t2)) :: (T' ++ rest) ∧ Tabs T' rest ∧ ∀ p ∈ T' ++ rest, p.1 ≠ l) := by
  obtain ⟨ta, tb, rfl, hta, htb, hda, hdb⟩ := hT
  have hb1 : 0 < (Builtin.Int.intBits b : Int) := by
    have : Builtin.Int.intBits b ≠ 0 := fun e => by
      have := intBits_le_iff.mp (Nat.le_of_eq e)
      omega
    omega
  rw [List.append_assoc]
  unfold Does
  intro p loose mean mg mb dp un gd cn cs ad ccd cl outer A₀ base h₀ L m s Q E B F X N T C1 C2 hk hd hu hret
  refine wpAny_call ?_
  k_dflt (refine code_def (by k_asm) (by k_asm) (by k_asm) (by k_asm) (by k_asm) (by exact rfl) (by exact rfl) (by first | exact rfl | assumption) (by k_is) (by k_is) (by ktr_room) (by first | exact BindsTo.of_eq rfl | exact kp_binds (by k_in) (fun _ => rfl)) (by exact locs rfl) ?_ (by exact rfl) (by exact rfl) (by exact rfl) (by decide); intro _ _ _ _ _ _ _ _ _; (try dsimp only); (try k_fold))
  refine st_conv (by dsimp only) ?_
  refine tk_any fun tk9 => ?_
  (repeat' (first | (k_unfold; (try dsimp only)) | (k_end; wrow_close) | ((fail_if_success with_reducible (first | refine KswEnd_stop ?_ | refine call_stop ?_ | refine pyIter_stop ?_ | refine while_stop ?_ | refine for_stop ?_ | refine def_stop ?_)); first | ((fail_if_success (fail_if_success (with_reducible refine st_guard ?_))); refine' store_L ?_ ?_ ?_ ?_ ?_ ?_ ?_; rotate_left 5; (first | dsimp only | rfl); (first | dsimp only | rfl); k_asm; k_asm; rfl; rfl; intro _ _ _; k_sweep) | ((with_reducible refine' reverse_led ?_ ?_ ?_ ?_ ?_); rotate_left 7; k_asm; k_asm; k_upd; ((try dsimp only [List.length_cons, List.length_nil, List.length_append]); omega); intro _ _ _; k_sweep) | ((with_reducible refine' append_led ?_ ?_ ?_ ?_ ?_); rotate_left 7; k_asm; k_asm; k_upd; ((try dsimp only [List.length_cons, List.length_nil, List.length_append]); omega); intro _ _ _; k_sweep) | ((with_reducible refine' lshift_int ?_ ?_ ?_); (first | with_reducible assumption | omega | assumption); (first | with_reducible assumption | omega | assumption)) | walk1 | (dsimp only; first | ((fail_if_success (fail_if_success (with_reducible refine st_guard ?_))); refine' store_L ?_ ?_ ?_ ?_ ?_ ?_ ?_; rotate_left 5; (first | dsimp only | rfl); (first | dsimp only | rfl); k_asm; k_asm; rfl; rfl; intro _ _ _; k_sweep) | ((with_reducible refine' reverse_led ?_ ?_ ?_ ?_ ?_); rotate_left 7; k_asm; k_asm; k_upd; ((try dsimp only [List.length_cons, List.length_nil, List.length_append]); omega); intro _ _ _; k_sweep) | ((with_reducible refine' append_led ?_ ?_ ?_ ?_ ?_); rotate_left 7; k_asm; k_asm; k_upd; ((try dsimp only [List.length_cons, List.length_nil, List.length_append]); omega); intro _ _ _; k_sweep) | ((with_reducible refine' lshift_int ?_ ?_ ?_); (first | with_reducible assumption | omega | assumption); (first | with_reducible assumption | omega | assumption)) | walk1) | (leave1; try dsimp only))))
  (with_unfolding_all refine' Does.use (int2digits w ta (tb ++ rest) a _ _ _ ha hb1 hta hda (by omega) (by omega)) (by k_asm) (by k_asm) (by k_asm) (by k_asm) (by k_asm) (by assumption) (by assumption) (by first | exact rfl | assumption) (by ktr_room) (by ktr_units) ?_)
  intro r9 news9 h9 tk9 F9 N9 O9
  revert N9
  apply rn5 O9
  clear O9
  intro ld vs ns nn ta' hO N9
  refine and6 hO ?_
  clear hO
  intro hta' hda' hfr hi hlen hdg
  obtain ⟨hcf1, hcf2, hcf3, hcf4⟩ := count_facts (b := Builtin.Int.intBits a) (by omega) hb1 (by omega)
  rw [← hlen] at hcf1 hcf2 hcf3 hcf4
  dsimp only
  (repeat' (first | (k_unfold; (try dsimp only)) | (k_end; wrow_close) | ((fail_if_success with_reducible (first | refine KswEnd_stop ?_ | refine call_stop ?_ | refine pyIter_stop ?_ | refine while_stop ?_ | refine for_stop ?_ | refine def_stop ?_)); first | ((fail_if_success (fail_if_success (with_reducible refine st_guard ?_))); refine' store_L ?_ ?_ ?_ ?_ ?_ ?_ ?_; rotate_left 5; (first | dsimp only | rfl); (first | dsimp only | rfl); k_asm; k_asm; rfl; rfl; intro _ _ _; k_sweep) | ((with_reducible refine' reverse_led ?_ ?_ ?_ ?_ ?_); rotate_left 7; k_asm; k_asm; k_upd; ((try dsimp only [List.length_cons, List.length_nil, List.length_append]); omega); intro _ _ _; k_sweep) | ((with_reducible refine' append_led ?_ ?_ ?_ ?_ ?_); rotate_left 7; k_asm; k_asm; k_upd; ((try dsimp only [List.length_cons, List.length_nil, List.length_append]); omega); intro _ _ _; k_sweep) | ((with_reducible refine' lshift_int ?_ ?_ ?_); (first | with_reducible assumption | omega | assumption); (first | with_reducible assumption | omega | assumption)) | walk1 | (dsimp only; first | ((fail_if_success (fail_if_success (with_reducible refine st_guard ?_))); refine' store_L ?_ ?_ ?_ ?_ ?_ ?_ ?_; rotate_left 5; (first | dsimp only | rfl); (first | dsimp only | rfl); k_asm; k_asm; rfl; rfl; intro _ _ _; k_sweep) | ((with_reducible refine' reverse_led ?_ ?_ ?_ ?_ ?_); rotate_left 7; k_asm; k_asm; k_upd; ((try dsimp only [List.length_cons, List.length_nil, List.length_append]); omega); intro _ _ _; k_sweep) | ((with_reducible refine' append_led ?_ ?_ ?_ ?_ ?_); rotate_left 7; k_asm; k_asm; k_upd; ((try dsimp only [List.length_cons, List.length_nil, List.length_append]); omega); intro _ _ _; k_sweep) | ((with_reducible refine' lshift_int ?_ ?_ ?_); (first | with_reducible assumption | omega | assumption); (first | with_reducible assumption | omega | assumption)) | walk1) | (leave1; try dsimp only))))
  refine For_invVF (by k_asm) rfl rfl ?_
  (repeat' (first | (k_unfold; (try dsimp only)) | (k_end; wrow_close) | ((fail_if_success with_reducible (first | refine KswEnd_stop ?_ | refine call_stop ?_ | refine pyIter_stop ?_ | refine while_stop ?_ | refine for_stop ?_ | refine def_stop ?_)); first | ((fail_if_success (fail_if_success (with_reducible refine st_guard ?_))); refine' store_L ?_ ?_ ?_ ?_ ?_ ?_ ?_; rotate_left 5; (first | dsimp only | rfl); (first | dsimp only | rfl); k_asm; k_asm; rfl; rfl; intro _ _ _; k_sweep) | ((with_reducible refine' reverse_led ?_ ?_ ?_ ?_ ?_); rotate_left 7; k_asm; k_asm; k_upd; ((try dsimp only [List.length_cons, List.length_nil, List.length_append]); omega); intro _ _ _; k_sweep) | ((with_reducible refine' append_led ?_ ?_ ?_ ?_ ?_); rotate_left 7; k_asm; k_asm; k_upd; ((try dsimp only [List.length_cons, List.length_nil, List.length_append]); omega); intro _ _ _; k_sweep) | ((with_reducible refine' lshift_int ?_ ?_ ?_); (first | with_reducible assumption | omega | assumption); (first | with_reducible assumption | omega | assumption)) | walk1 | (dsimp only; first | ((fail_if_success (fail_if_success (with_reducible refine st_guard ?_))); refine' store_L ?_ ?_ ?_ ?_ ?_ ?_ ?_; rotate_left 5; (first | dsimp only | rfl); (first | dsimp only | rfl); k_asm; k_asm; rfl; rfl; intro _ _ _; k_sweep) | ((with_reducible refine' reverse_led ?_ ?_ ?_ ?_ ?_); rotate_left 7; k_asm; k_asm; k_upd; ((try dsimp only [List.length_cons, List.length_nil, List.length_append]); omega); intro _ _ _; k_sweep) | ((with_reducible refine' append_led ?_ ?_ ?_ ?_ ?_); rotate_left 7; k_asm; k_asm; k_upd; ((try dsimp only [List.length_cons, List.length_nil, List.length_append]); omega); intro _ _ _; k_sweep) | ((with_reducible refine' lshift_int ?_ ?_ ?_); (first | with_reducible assumption | omega | assumption); (first | with_reducible assumption | omega | assumption)) | walk1) | (leave1; try dsimp only))))
  rename_i lq hA lA hB ID hC FC NC lC
  have hlqr : ∀ p ∈ ta' ++ (tb ++ rest), p.1 ≠ lq := by ktn_open
  refine' loop_rev (σ := Int × Tok × List Value × List Int × Nat) (l := ld) (I := ID) (vs := vs) (nn := nn)
    (fun c => (lq, W.listOf c.2.2.1.toArray c.2.2.2.2) :: (ld, W.listOf vs.toArray nn) :: (ta' ++ (tb ++ rest))) (fun c => [(Str.ofString "r", .int c.1 c.2.1)]) [Str.ofString "q_digit"]
    (fun i c => IntsAre c.2.2.1 c.2.2.2.1 ∧ c.2.2.2.1.length = i ∧ 0 ≤ c.1 ∧ c.1 < b ∧ (∀ x ∈ c.2.2.2.1, 0 ≤ x ∧ x < 2 ^ (Builtin.Int.intBits b : Int).toNat) ∧ und (Builtin.Int.intBits b : Int) (ns.drop (ns.length - i)) = und (Builtin.Int.intBits b : Int) c.2.2.2.1.reverse * b + c.1)
    (0, _, [], [], 0) rfl ?hm FC NC ?hne ?hk ?hp ?_ ?_
  case hm => exact fun c => .tail _ (.head _)
  case hne =>
    refine fa_cons (by k_ne) ?_
    refine fa_cons (by k_ne) ?_
    ktn_open
  case hk => kst_all
  case hp => exact ⟨.nil, rfl, Int.le_refl 0, hb, (fun _ h => nomatch h), by simp [und]⟩
  · refine pr5 ?_
    rintro r tr vq nq cq i v u h tk it ⟨hv, hiv⟩ hPP hoff F'' N''
    refine q_any fun Q9 hQ9 => ?_
    refine and6 hPP ?_
    clear hPP
    intro P1 P2 P3 P4 P5 P6
    dsimp only [kstB] at F''
    dsimp only at P1 P2 P3 P4 P5 P6 N'' hoff
    have hvl : vs.length = ns.length := hi.length
    have hrx := rev_ix hi.length hiv
    have hjl : vs.length - 1 - i < ns.length := hrx.1
    obtain ⟨td, htd⟩ := hi.get (vs.length - 1 - i) ns[vs.length - 1 - i] (by simp [hjl])
    have hve : v = .int ns[vs.length - 1 - i] td := Option.some.inj (hv.symm.trans htd)
    subst hve
    have hdd : ns[vs.length - 1 - i] = dig (Builtin.Int.intBits b) a ((vs.length - 1 - i : Nat) : Int) := by
      rw [← hdg _ hjl]; simp [List.getD, hjl]
    have hdb := dig_bound (Builtin.Int.intBits b) a ((vs.length - 1 - i : Nat) : Int)
    rw [← hdd] at hdb
    have hdrop : ns.drop (ns.length - (i + 1)) = ns[vs.length - 1 - i] :: ns.drop (ns.length - i) := by
      have e1 : ns.length - (i + 1) = vs.length - 1 - i := hrx.2.1
      rw [e1, List.drop_eq_getElem_cons hjl]
      congr 2; exact hrx.2.2
    clear hrx
    generalize ns[vs.length - 1 - i] = d at *
    have hnN : (Builtin.Int.intBits b : Int).toNat = Builtin.Int.intBits b := Int.toNat_natCast _
    have hbn : b < 2 ^ (Builtin.Int.intBits b : Int).toNat := by rw [hnN]; exact lt_of_bits (Int.le_of_lt hb) (Nat.le_refl _)
    have hsh : (Builtin.Int.intBits r : Int) + (Builtin.Int.intBits b : Int) ≤ 2 ^ 27 := by
      have := bits_of_lt (k := Builtin.Int.intBits b) P3 (by rw [hnN] at hbn; omega)
      omega
    have hA0 : 0 ≤ r * 2 ^ (Builtin.Int.intBits b : Int).toNat + d := by
      have := Int.mul_nonneg P3 (Int.le_of_lt (two_pow_pos (Builtin.Int.intBits b : Int).toNat))
      omega
    have hA1 : r * 2 ^ (Builtin.Int.intBits b : Int).toNat + d < 2 ^ (Builtin.Int.intBits b : Int).toNat * b := by
      have := Int.mul_le_mul_of_nonneg_right (Int.add_one_le_of_lt P4) (Int.le_of_lt (two_pow_pos (Builtin.Int.intBits b : Int).toNat))
      rw [Int.add_mul, Int.one_mul, Int.mul_comm b] at this
      omega
    (repeat' (first | (k_unfold; (try dsimp only)) | (k_end; wrow_close) | ((fail_if_success with_reducible (first | refine KswEnd_stop ?_ | refine call_stop ?_ | refine pyIter_stop ?_ | refine while_stop ?_ | refine for_stop ?_ | refine def_stop ?_)); first | ((fail_if_success (fail_if_success (with_reducible refine st_guard ?_))); refine' store_L ?_ ?_ ?_ ?_ ?_ ?_ ?_; rotate_left 5; (first | dsimp only | rfl); (first | dsimp only | rfl); k_asm; k_asm; rfl; rfl; intro _ _ _; k_sweep) | ((with_reducible refine' reverse_led ?_ ?_ ?_ ?_ ?_); rotate_left 7; k_asm; k_asm; k_upd; ((try dsimp only [List.length_cons, List.length_nil, List.length_append]); omega); intro _ _ _; k_sweep) | ((with_reducible refine' append_led ?_ ?_ ?_ ?_ ?_); rotate_left 7; k_asm; k_asm; k_upd; ((try dsimp only [List.length_cons, List.length_nil, List.length_append]); omega); intro _ _ _; k_sweep) | ((with_reducible refine' lshift_int ?_ ?_ ?_); (first | with_reducible assumption | omega | assumption); (first | with_reducible assumption | omega | assumption)) | walk1 | (dsimp only; first | ((fail_if_success (fail_if_success (with_reducible refine st_guard ?_))); refine' store_L ?_ ?_ ?_ ?_ ?_ ?_ ?_; rotate_left 5; (first | dsimp only | rfl); (first | dsimp only | rfl); k_asm; k_asm; rfl; rfl; intro _ _ _; k_sweep) | ((with_reducible refine' reverse_led ?_ ?_ ?_ ?_ ?_); rotate_left 7; k_asm; k_asm; k_upd; ((try dsimp only [List.length_cons, List.length_nil, List.length_append]); omega); intro _ _ _; k_sweep) | ((with_reducible refine' append_led ?_ ?_ ?_ ?_ ?_); rotate_left 7; k_asm; k_asm; k_upd; ((try dsimp only [List.length_cons, List.length_nil, List.length_append]); omega); intro _ _ _; k_sweep) | ((with_reducible refine' lshift_int ?_ ?_ ?_); (first | with_reducible assumption | omega | assumption); (first | with_reducible assumption | omega | assumption)) | walk1) | (leave1; try dsimp only))))
    (with_unfolding_all refine' Does.use (div2 w _ _ b _ _ _ _ hA0 hb rfl (by omega) hA1) (by k_asm) (by k_asm) (by k_asm) (by k_asm) (by k_asm) (by assumption) (by assumption) (by first | exact rfl | assumption) (by ktr_room) (by ktr_units) ?_)
    intro r9 news9 h9 tk9 F9 N9 O9
    revert N9
    apply pair_elim O9
    clear O9
    intro l9 t91 t92 hf9 N9
    dsimp only
    have n1 : @Ne Nat l9 lq := (hf9 _ (.tail _ (.head _))).symm
    have n2 : @Ne Nat ID lq := (hoff _ (.head _)).symm
    have hvq : vq.length = i := by rw [P1.length, P2]
    (repeat' (first | (k_unfold; (try dsimp only)) | (k_end; wrow_close) | ((fail_if_success with_reducible (first | refine KswEnd_stop ?_ | refine call_stop ?_ | refine pyIter_stop ?_ | refine while_stop ?_ | refine for_stop ?_ | refine def_stop ?_)); first | ((fail_if_success (fail_if_success (with_reducible refine st_guard ?_))); refine' store_L ?_ ?_ ?_ ?_ ?_ ?_ ?_; rotate_left 5; (first | dsimp only | rfl); (first | dsimp only | rfl); k_asm; k_asm; rfl; rfl; intro _ _ _; k_sweep) | ((with_reducible refine' reverse_led ?_ ?_ ?_ ?_ ?_); rotate_left 7; k_asm; k_asm; k_upd; ((try dsimp only [List.length_cons, List.length_nil, List.length_append]); omega); intro _ _ _; k_sweep) | ((with_reducible refine' append_led ?_ ?_ ?_ ?_ ?_); rotate_left 7; k_asm; k_asm; k_upd; ((try dsimp only [List.length_cons, List.length_nil, List.length_append]); omega); intro _ _ _; k_sweep) | ((with_reducible refine' lshift_int ?_ ?_ ?_); (first | with_reducible assumption | omega | assumption); (first | with_reducible assumption | omega | assumption)) | walk1 | (dsimp only; first | ((fail_if_success (fail_if_success (with_reducible refine st_guard ?_))); refine' store_L ?_ ?_ ?_ ?_ ?_ ?_ ?_; rotate_left 5; (first | dsimp only | rfl); (first | dsimp only | rfl); k_asm; k_asm; rfl; rfl; intro _ _ _; k_sweep) | ((with_reducible refine' reverse_led ?_ ?_ ?_ ?_ ?_); rotate_left 7; k_asm; k_asm; k_upd; ((try dsimp only [List.length_cons, List.length_nil, List.length_append]); omega); intro _ _ _; k_sweep) | ((with_reducible refine' append_led ?_ ?_ ?_ ?_ ?_); rotate_left 7; k_asm; k_asm; k_upd; ((try dsimp only [List.length_cons, List.length_nil, List.length_append]); omega); intro _ _ _; k_sweep) | ((with_reducible refine' lshift_int ?_ ?_ ?_); (first | with_reducible assumption | omega | assumption); (first | with_reducible assumption | omega | assumption)) | walk1) | (leave1; try dsimp only))))
    have hA := Int.mul_fdiv_add_fmod (r * 2 ^ (Builtin.Int.intBits b : Int).toNat + d) b
    have hq0 : 0 ≤ (r * 2 ^ (Builtin.Int.intBits b : Int).toNat + d).fdiv b := Int.fdiv_nonneg hA0 (Int.le_of_lt hb)
    have hm0 := Int.fmod_nonneg_of_pos (r * 2 ^ (Builtin.Int.intBits b : Int).toNat + d) hb
    have hm1 := Int.fmod_lt_of_pos (r * 2 ^ (Builtin.Int.intBits b : Int).toNat + d) hb
    refine hQ9 _ _ ?_
    refine tpost_next (tend (_, _, vq ++ [_], nq ++ [_], _) (by k_asm) (by k_asm) (by k_mem) (fun p hp => .tail _ (.tail _ hp)) ?_ (by kst_all) (by kst_same) ⟨intsAre_append P1 (.cons _ _ .nil), ?_, hm0, hm1, ?_, ?_⟩)
    · refine fa_cons (hoff (lq, W.listOf vq.toArray cq) (.head _)) (fun p hp => hoff p (.tail _ hp))
    · dsimp only; rw [List.length_append, P2]; rfl
    · intro x hx
      rcases List.mem_append.mp hx with hx | hx
      · exact P5 x hx
      · rw [List.mem_singleton.mp hx]
        refine ⟨hq0, ?_⟩
        have : b * (r * 2 ^ (Builtin.Int.intBits b : Int).toNat + d).fdiv b < b * 2 ^ (Builtin.Int.intBits b : Int).toNat := by rw [Int.mul_comm b (2 ^ _)]; omega
        exact Int.lt_of_mul_lt_mul_left this (Int.le_of_lt hb)
    · dsimp only
      rw [hdrop, und, P6, List.reverse_append, List.reverse_cons, List.reverse_nil, List.nil_append, List.cons_append, List.nil_append, und]
      exact long_turn rfl hA.symm
  · refine pr5 ?_
    rintro r tr vq nq cq u h tk hPP F'' N''
    refine and6 hPP ?_
    clear hPP
    intro P1 P2 P3 P4 P5 P6
    dsimp only [kstB] at F''
    dsimp only at P1 P2 P3 P4 P5 P6 N''
    have hvl : vs.length = ns.length := hi.length
    have hvq : vq.length = vs.length := by rw [P1.length, P2]
    (repeat' (first | (k_unfold; (try dsimp only)) | (k_end; wrow_close) | ((fail_if_success with_reducible (first | refine KswEnd_stop ?_ | refine call_stop ?_ | refine pyIter_stop ?_ | refine while_stop ?_ | refine for_stop ?_ | refine def_stop ?_)); first | ((fail_if_success (fail_if_success (with_reducible refine st_guard ?_))); refine' store_L ?_ ?_ ?_ ?_ ?_ ?_ ?_; rotate_left 5; (first | dsimp only | rfl); (first | dsimp only | rfl); k_asm; k_asm; rfl; rfl; intro _ _ _; k_sweep) | ((with_reducible refine' reverse_led ?_ ?_ ?_ ?_ ?_); rotate_left 7; k_asm; k_asm; k_upd; ((try dsimp only [List.length_cons, List.length_nil, List.length_append]); omega); intro _ _ _; k_sweep) | ((with_reducible refine' append_led ?_ ?_ ?_ ?_ ?_); rotate_left 7; k_asm; k_asm; k_upd; ((try dsimp only [List.length_cons, List.length_nil, List.length_append]); omega); intro _ _ _; k_sweep) | ((with_reducible refine' lshift_int ?_ ?_ ?_); (first | with_reducible assumption | omega | assumption); (first | with_reducible assumption | omega | assumption)) | walk1 | (dsimp only; first | ((fail_if_success (fail_if_success (with_reducible refine st_guard ?_))); refine' store_L ?_ ?_ ?_ ?_ ?_ ?_ ?_; rotate_left 5; (first | dsimp only | rfl); (first | dsimp only | rfl); k_asm; k_asm; rfl; rfl; intro _ _ _; k_sweep) | ((with_reducible refine' reverse_led ?_ ?_ ?_ ?_ ?_); rotate_left 7; k_asm; k_asm; k_upd; ((try dsimp only [List.length_cons, List.length_nil, List.length_append]); omega); intro _ _ _; k_sweep) | ((with_reducible refine' append_led ?_ ?_ ?_ ?_ ?_); rotate_left 7; k_asm; k_asm; k_upd; ((try dsimp only [List.length_cons, List.length_nil, List.length_append]); omega); intro _ _ _; k_sweep) | ((with_reducible refine' lshift_int ?_ ?_ ?_); (first | with_reducible assumption | omega | assumption); (first | with_reducible assumption | omega | assumption)) | walk1) | (leave1; try dsimp only))))
    rename News _ _ _ _ => N5
    have N6 := news_sub N5 (b := tb ++ ((lq, W.listOf vq.reverse.toArray cq) :: (ld, W.listOf vs.toArray nn) :: (ta' ++ rest))) (fun p hp => by
      rcases List.mem_append.mp hp with hp | hp
      · exact .tail _ (.tail _ (List.mem_append_right _ (List.mem_append_left _ hp)))
      · rcases List.mem_cons.mp hp with e | hp
        · rw [e]; exact .head _
        · rcases List.mem_cons.mp hp with e | hp
          · rw [e]; exact .tail _ (.head _)
          · rcases List.mem_append.mp hp with hp | hp
            · exact .tail _ (.tail _ (List.mem_append_left _ hp))
            · exact .tail _ (.tail _ (List.mem_append_right _ (List.mem_append_right _ hp))))
    have hdt : Dis tb ((lq, W.listOf vq.reverse.toArray cq) :: (ld, W.listOf vs.toArray nn) :: (ta' ++ rest)) :=
      Dis.cons (fun q hq e => hlqr q (List.mem_append_right _ (List.mem_append_left _ hq)) e.symm) (Dis.cons (fun q hq e => hfr q (List.mem_append_right _ (List.mem_append_left _ hq)) e.symm) (Dis.app hda'.left.flip hdb))
    clear N5
    (with_unfolding_all refine' Does.use (digits2int w tb _ lq vq.reverse nq.reverse cq _ _ (.head _) (intsAre_rev P1) hb1 (by omega) (by rw [List.length_reverse]; omega) (fun x hx => P5 x (List.mem_reverse.mp hx)) htb hdt) (by k_asm) (by k_asm) (by k_asm) (by k_asm) (by k_asm) (by assumption) (by assumption) (by first | exact rfl | assumption) (by ktr_room) (by ktr_units) ?_)
    intro r9 news9 h9 tk9 F9 N9 O9
    revert N9
    apply rn2 O9
    clear O9
    intro t9 tb' hO N9
    refine and2 hO ?_
    clear hO
    intro htb' hdb'
    dsimp only
    (repeat' (first | (k_unfold; (try dsimp only)) | (k_end; wrow_close) | ((fail_if_success with_reducible (first | refine KswEnd_stop ?_ | refine call_stop ?_ | refine pyIter_stop ?_ | refine while_stop ?_ | refine for_stop ?_ | refine def_stop ?_)); first | ((fail_if_success (fail_if_success (with_reducible refine st_guard ?_))); refine' store_L ?_ ?_ ?_ ?_ ?_ ?_ ?_; rotate_left 5; (first | dsimp only | rfl); (first | dsimp only | rfl); k_asm; k_asm; rfl; rfl; intro _ _ _; k_sweep) | ((with_reducible refine' reverse_led ?_ ?_ ?_ ?_ ?_); rotate_left 7; k_asm; k_asm; k_upd; ((try dsimp only [List.length_cons, List.length_nil, List.length_append]); omega); intro _ _ _; k_sweep) | ((with_reducible refine' append_led ?_ ?_ ?_ ?_ ?_); rotate_left 7; k_asm; k_asm; k_upd; ((try dsimp only [List.length_cons, List.length_nil, List.length_append]); omega); intro _ _ _; k_sweep) | ((with_reducible refine' lshift_int ?_ ?_ ?_); (first | with_reducible assumption | omega | assumption); (first | with_reducible assumption | omega | assumption)) | walk1 | (dsimp only; first | ((fail_if_success (fail_if_success (with_reducible refine st_guard ?_))); refine' store_L ?_ ?_ ?_ ?_ ?_ ?_ ?_; rotate_left 5; (first | dsimp only | rfl); (first | dsimp only | rfl); k_asm; k_asm; rfl; rfl; intro _ _ _; k_sweep) | ((with_reducible refine' reverse_led ?_ ?_ ?_ ?_ ?_); rotate_left 7; k_asm; k_asm; k_upd; ((try dsimp only [List.length_cons, List.length_nil, List.length_append]); omega); intro _ _ _; k_sweep) | ((with_reducible refine' append_led ?_ ?_ ?_ ?_ ?_); rotate_left 7; k_asm; k_asm; k_upd; ((try dsimp only [List.length_cons, List.length_nil, List.length_append]); omega); intro _ _ _; k_sweep) | ((with_reducible refine' lshift_int ?_ ?_ ?_); (first | with_reducible assumption | omega | assumption); (first | with_reducible assumption | omega | assumption)) | walk1) | (leave1; try dsimp only))))
    have hd0 : ns.drop (ns.length - vs.length) = ns := by rw [hvl, Nat.sub_self, List.drop_zero]
    rw [hd0, und_digs (by omega) ns a ha (by
      refine Int.lt_of_lt_of_le (lt_of_bits ha (Nat.le_refl _)) (pow2_le ?_)
      have : ((Builtin.Int.intBits b : Int).toNat : Int) * (ns.length : Int) = (Builtin.Int.intBits b : Int) * ns.length := by rw [Int.toNat_natCast]
      have h2 : (((Builtin.Int.intBits b : Int).toNat * ns.length : Nat) : Int) = ((Builtin.Int.intBits b : Int).toNat : Int) * (ns.length : Int) := by norm_cast
      omega) (fun i hi => hdg i hi)] at P6
    obtain ⟨e1, e2⟩ := div_end (A := a) (b := b) (q := und (Builtin.Int.intBits b) nq.reverse) (r := r) hb (by omega) P3 P4
    rw [e1, e2] at hret
    refine hret _ _ _ _ (by k_asm) (news_sub (by k_asm) (b := (_, _) :: ((ta' ++ tb') ++ rest)) ?_) ⟨_, t9, tr, ta' ++ tb', rfl, rfl, ⟨ta', tb', rfl, hta', htb', ?_, ?_⟩, ?_⟩
    · intro p hp
      rcases List.mem_cons.mp hp with e | hp
      · rw [e]; exact .head _
      · refine .tail _ ?_
        rcases List.mem_append.mp hp with hp | hp
        · rcases List.mem_append.mp hp with hp | hp
          · exact List.mem_append_right _ (.tail _ (.tail _ (List.mem_append_left _ hp)))
          · exact List.mem_append_left _ hp
        · exact List.mem_append_right _ (.tail _ (.tail _ (List.mem_append_right _ hp)))
    · refine Dis.app (fun q hq p hp e => hdb' p hp q (.tail _ (.tail _ (List.mem_append_left _ hq))) e.symm) hda'.right
    · exact fun q hq p hp => hdb' q hq p (.tail _ (.tail _ (List.mem_append_right _ hp)))
    · rename_i lDD _ _ _ _
      have hl9 := lDD
      intro p hp
      refine Nat.ne_of_lt (hl9 p ?_)
      rcases List.mem_append.mp hp with hp | hp
      · rcases List.mem_append.mp hp with hp | hp
        · exact List.mem_append_right _ (.tail _ (.tail _ (List.mem_append_left _ hp)))
        · exact List.mem_append_left _ hp
      · exact List.mem_append_right _ (.tail _ (.tail _ (List.mem_append_right _ hp)))

end
section
theorem rst_Wsp : True := by w_top off; trivial
noncomputable def bumpL (c : List Int) (b : Nat) : List Int := if c.length ≤ b then c ++ List.replicate (b - c.length + 1) 0 else c
noncomputable def bump (c : List Int) (b : Nat) : List Int := (bumpL c b).set b ((bumpL c b).getD b 0 + 1)
/-- what the nanny counts: runs' lengths, the run at hand, signs, tabs -/
structure WSt where
  c : List Int
  b : Nat
  n : Nat
  nt : Nat
noncomputable def wsp : List Nat → WSt → WSt
  | [], s => s
  | k :: r, s => if k = 32 then wsp r { s with b := s.b + 1, n := s.n + 1 } else wsp r ⟨bump s.c s.b, 0, s.n + 1, s.nt + 1⟩
theorem bump_len (c : List Int) (b : Nat) : (bump c b).length ≤ max c.length (b + 1) := by
  unfold bump bumpL
  rw [List.length_set]
  split
  · rw [List.length_append, List.length_replicate]; omega
  · omega
structure WSg where
  lc : Addr
  vs : List Value
  nc : Nat
  s : WSt
  tb : Tok
  tn : Tok
  tt : Tok
theorem news_drop34 {h₀ h : Heap} {L : Addr} {a b x y : Addr × Obj} {r : Led} (N : News h₀ L h (a :: b :: x :: y :: r)) : News h₀ L h (a :: b :: r) := fun p hp => N p (by
  rcases List.mem_cons.mp hp with e | hp
  · exact e ▸ .head _
  · rcases List.mem_cons.mp hp with e | hp
    · exact .tail _ (e ▸ .head _)
    · exact .tail _ (.tail _ (.tail _ (.tail _ hp))))
theorem pickA {I lc xo dd D : Addr} {n : Led} (h : I < D ∧ lc < D ∧ xo < D ∧ dd < D ∧ AllLt D n) : xo < D := h.2.2.1
theorem pickB {I lc xo dd D E : Addr} {n : Led} (h : E < D ∧ I < D ∧ lc < D ∧ xo < D ∧ dd < D ∧ AllLt D n) : E < D := h.1
inductive WsOut (w : World) (y : Str) (g : WSt) (news : Led) : Value → Led → Prop
  | mk (x d c n : Addr) (vs : List Value) (v1 v2 v3 v4 : Value) (k1 k2 k3 k4 k5 t1 : Tok) (h1 : IntsAre vs g.c) (h2 : ∀ p ∈ news, p.1 < d) (h3 : d < x) (h4 : x < c) (h5 : c < n) : WsOut w y g news (.ref x) ((n, tup2 (.ref c) (.int g.b t1)) :: (c, { cls := .type "tuple", data := .seq vs.toArray }) :: (x, instObj 83 d) :: (d, dictOf [{ hash := PyData.keyHash w.params (Str.ofString "raw"), key := Value.str (Str.ofString "raw") k1, val := v1 }, { hash := PyData.keyHash w.params (Str.ofString "n"), key := Value.str (Str.ofString "n") k2, val := v2 }, { hash := PyData.keyHash w.params (Str.ofString "nt"), key := Value.str (Str.ofString "nt") k3, val := v3 }, { hash := PyData.keyHash w.params (Str.ofString "norm"), key := Value.str (Str.ofString "norm") k4, val := .ref n }, { hash := PyData.keyHash w.params (Str.ofString "is_simple"), key := Value.str (Str.ofString "is_simple") k5, val := v4 }] 5) :: news)
theorem wsOut_ref {w : World} {y : Str} {g : WSt} {news news' : Led} {r : Value} (O : WsOut w y g news r news') : ∃ x, r = .ref x := by cases O; exact ⟨_, rfl⟩
theorem wsp_new (w : World) (news : Led) (y : Str) (t : Tok) (pre post : List Nat) (hy : y.cps.toList = pre ++ 120 :: post) (hpre : ∀ k ∈ pre, k = 32 ∨ k = 9) (hpl : pre.length < 200) (ha : y.cps.all (· < 128) = true) :
   Does w 83 3 60 news [.str y t]
     (WsOut w y (wsp pre ⟨[], 0, 0, 0⟩) news) := by
  unfold Does
  intro p loose mean mg mb dp un gd cn cs ad ccd cl outer A₀ base h₀ L m s Q E B F X N T C1 C2 hk hd hu hret
  k_dflt (refine' call_cls ?ka ?kb ?kc ?kd ?ke ?kf ?_; (case ka => k_asm); (case kb => k_asm); (case kc => k_asm); (case kd => k_is); (case ke => k_is); (case kf => k_is); k_whole)
  intro xo dd hx0 Fx0 Nx0 lx0 lx1
  (try k_lt lx0); (try k_lt2 lx1); (try k_sweep)
  k_dflt (refine code_def (by k_asm) (by k_asm) (by k_asm) (by k_asm) (by k_asm) (by exact rfl) (by exact rfl) (by first | exact rfl | assumption) (by k_is) (by k_is) (by ktr_room) (by first | exact BindsTo.of_eq rfl | exact kp_binds (by k_in) (fun _ => rfl)) (by exact locs rfl) ?_ (by exact rfl) (by exact rfl) (by exact rfl) (by decide); intro _ _ _ _ _ _ _ _ _; (try dsimp only); (try k_fold))
  rename_i gx0 Lx0 hx1 FGx Fx1 Nx1 Bx Xx Tx
  (repeat' (first | (k_unfold; (try dsimp only)) | (k_end; wrow_close) | ((fail_if_success with_reducible (first | refine KswEnd_stop ?_ | refine call_stop ?_ | refine pyIter_stop ?_ | refine while_stop ?_ | refine for_stop ?_ | refine def_stop ?_)); first | ((fail_if_success (fail_if_success (with_reducible refine st_guard ?_))); refine' store_L ?_ ?_ ?_ ?_ ?_ ?_ ?_; rotate_left 5; (first | dsimp only | rfl); (first | dsimp only | rfl); k_asm; k_asm; rfl; rfl; intro _ _ _; k_sweep) | ((with_reducible refine' add_led_rep ?_ ?_ ?_ ?_ ?_ ?_ ?_ ?_); rotate_left 10; k_asm; k_asm; k_mem; k_mem; assumption; exact ints_rep _ _; omega; intro _ _ _ _ l1a _; (try k_lt l1a); k_sweep) | ((with_reducible refine' tuple_led ?_ ?_ ?_ ?_ ?_); rotate_left 6; k_asm; k_asm; k_mem; omega; leaf_len) | ((with_reducible refine' item_int ?_ ?_ ?_ ?_ ?_ ?_ ?_ ?_); rotate_left 6; k_asm; (first | k_asm | k_mem); k_asm; (first | exact ix0 _ | omega); (first | (refine ix1 ?_ ?_ <;> assumption) | omega | (simp only [List.length_append, List.length_cons, List.length_nil]; omega)); (first | omega | (simp only [List.length_append, List.length_cons, List.length_nil]; omega)); rotate_left; with_unfolding_all rfl; intro _) | ((with_reducible refine' mul_rep ?_ ?_ ?_ ?_ ?_ ?_); rotate_left 6; k_asm; k_asm; k_mem; (first | with_reducible assumption | omega | assumption); (first | with_reducible assumption | omega | assumption); leaf_len) | ((with_reducible refine' len_led ?_ ?_ ?_ ?_); rotate_left 5; k_asm; k_mem; ((try simp only [List.length_replicate]); omega)) | walk1 | (dsimp only; first | ((fail_if_success (fail_if_success (with_reducible refine st_guard ?_))); refine' store_L ?_ ?_ ?_ ?_ ?_ ?_ ?_; rotate_left 5; (first | dsimp only | rfl); (first | dsimp only | rfl); k_asm; k_asm; rfl; rfl; intro _ _ _; k_sweep) | ((with_reducible refine' add_led_rep ?_ ?_ ?_ ?_ ?_ ?_ ?_ ?_); rotate_left 10; k_asm; k_asm; k_mem; k_mem; assumption; exact ints_rep _ _; omega; intro _ _ _ _ l1a _; (try k_lt l1a); k_sweep) | ((with_reducible refine' tuple_led ?_ ?_ ?_ ?_ ?_); rotate_left 6; k_asm; k_asm; k_mem; omega; leaf_len) | ((with_reducible refine' item_int ?_ ?_ ?_ ?_ ?_ ?_ ?_ ?_); rotate_left 6; k_asm; (first | k_asm | k_mem); k_asm; (first | exact ix0 _ | omega); (first | (refine ix1 ?_ ?_ <;> assumption) | omega | (simp only [List.length_append, List.length_cons, List.length_nil]; omega)); (first | omega | (simp only [List.length_append, List.length_cons, List.length_nil]; omega)); rotate_left; with_unfolding_all rfl; intro _) | ((with_reducible refine' mul_rep ?_ ?_ ?_ ?_ ?_ ?_); rotate_left 6; k_asm; k_asm; k_mem; (first | with_reducible assumption | omega | assumption); (first | with_reducible assumption | omega | assumption); leaf_len) | ((with_reducible refine' len_led ?_ ?_ ?_ ?_); rotate_left 5; k_asm; k_mem; ((try simp only [List.length_replicate]); omega)) | walk1) | (leave1; try dsimp only))))
  refine For_invVF (by k_asm) rfl rfl ?_
  (repeat' (first | (k_unfold; (try dsimp only)) | (k_end; wrow_close) | ((fail_if_success with_reducible (first | refine KswEnd_stop ?_ | refine call_stop ?_ | refine pyIter_stop ?_ | refine while_stop ?_ | refine for_stop ?_ | refine def_stop ?_)); first | ((fail_if_success (fail_if_success (with_reducible refine st_guard ?_))); refine' store_L ?_ ?_ ?_ ?_ ?_ ?_ ?_; rotate_left 5; (first | dsimp only | rfl); (first | dsimp only | rfl); k_asm; k_asm; rfl; rfl; intro _ _ _; k_sweep) | ((with_reducible refine' add_led_rep ?_ ?_ ?_ ?_ ?_ ?_ ?_ ?_); rotate_left 10; k_asm; k_asm; k_mem; k_mem; assumption; exact ints_rep _ _; omega; intro _ _ _ _ l1a _; (try k_lt l1a); k_sweep) | ((with_reducible refine' tuple_led ?_ ?_ ?_ ?_ ?_); rotate_left 6; k_asm; k_asm; k_mem; omega; leaf_len) | ((with_reducible refine' item_int ?_ ?_ ?_ ?_ ?_ ?_ ?_ ?_); rotate_left 6; k_asm; (first | k_asm | k_mem); k_asm; (first | exact ix0 _ | omega); (first | (refine ix1 ?_ ?_ <;> assumption) | omega | (simp only [List.length_append, List.length_cons, List.length_nil]; omega)); (first | omega | (simp only [List.length_append, List.length_cons, List.length_nil]; omega)); rotate_left; with_unfolding_all rfl; intro _) | ((with_reducible refine' mul_rep ?_ ?_ ?_ ?_ ?_ ?_); rotate_left 6; k_asm; k_asm; k_mem; (first | with_reducible assumption | omega | assumption); (first | with_reducible assumption | omega | assumption); leaf_len) | ((with_reducible refine' len_led ?_ ?_ ?_ ?_); rotate_left 5; k_asm; k_mem; ((try simp only [List.length_replicate]); omega)) | walk1 | (dsimp only; first | ((fail_if_success (fail_if_success (with_reducible refine st_guard ?_))); refine' store_L ?_ ?_ ?_ ?_ ?_ ?_ ?_; rotate_left 5; (first | dsimp only | rfl); (first | dsimp only | rfl); k_asm; k_asm; rfl; rfl; intro _ _ _; k_sweep) | ((with_reducible refine' add_led_rep ?_ ?_ ?_ ?_ ?_ ?_ ?_ ?_); rotate_left 10; k_asm; k_asm; k_mem; k_mem; assumption; exact ints_rep _ _; omega; intro _ _ _ _ l1a _; (try k_lt l1a); k_sweep) | ((with_reducible refine' tuple_led ?_ ?_ ?_ ?_ ?_); rotate_left 6; k_asm; k_asm; k_mem; omega; leaf_len) | ((with_reducible refine' item_int ?_ ?_ ?_ ?_ ?_ ?_ ?_ ?_); rotate_left 6; k_asm; (first | k_asm | k_mem); k_asm; (first | exact ix0 _ | omega); (first | (refine ix1 ?_ ?_ <;> assumption) | omega | (simp only [List.length_append, List.length_cons, List.length_nil]; omega)); (first | omega | (simp only [List.length_append, List.length_cons, List.length_nil]; omega)); rotate_left; with_unfolding_all rfl; intro _) | ((with_reducible refine' mul_rep ?_ ?_ ?_ ?_ ?_ ?_); rotate_left 6; k_asm; k_asm; k_mem; (first | with_reducible assumption | omega | assumption); (first | with_reducible assumption | omega | assumption); leaf_len) | ((with_reducible refine' len_led ?_ ?_ ?_ ?_); rotate_left 5; k_asm; k_mem; ((try simp only [List.length_replicate]); omega)) | walk1) | (leave1; try dsimp only))))
  rename_i DT hA8 lA hA7 hA6 hA5 tkA lc hA4 lB hA3 hA2 hA1 hA0 FC NC
  have NC2 := news_drop2 NC
  clear NC
  generalize hdo : dictOf _ _ = dob at NC2
  have hlcn : ∀ p ∈ (xo, instObj 83 dd) :: (dd, dob) :: news, p.1 ≠ lc := by
    refine fa_cons (by k_ne) ?_
    refine fa_cons (by k_ne) ?_
    ktn_open
  refine' loop_str (σ := WSg) (fun c => (c.lc, W.listOf c.vs.toArray c.nc) :: (xo, instObj 83 dd) :: (dd, dob) :: news) (fun c => [(Str.ofString "count", .ref c.lc), (Str.ofString "b", .int c.s.b c.tb), (Str.ofString "n", .int c.s.n c.tn), (Str.ofString "nt", .int c.s.nt c.tt)]) []
    (fun i c => i ≤ pre.length ∧ IntsAre c.vs c.s.c ∧ c.s.c.length ≤ i ∧ c.s.b ≤ i ∧ c.s.n ≤ i ∧ c.s.nt ≤ i ∧ wsp (pre.drop i) c.s = wsp pre ⟨[], 0, 0, 0⟩ ∧ ∀ p ∈ (xo, instObj 83 dd) :: (dd, dob) :: news, p.1 ≠ c.lc)
    ⟨lc, [], 0, ⟨[], 0, 0, 0⟩, _, _, _⟩ rfl ha FC NC2 ?hk ?hp ?_ ?_
  case hk => kst_all
  case hp => exact ⟨Nat.zero_le _, .nil, Nat.le_refl _, Nat.le_refl _, Nat.le_refl _, Nat.le_refl _, rfl, hlcn⟩
  · rintro ⟨lc1, vs1, nc1, ⟨c1, b1, n1, nt1⟩, tb1, tn1, tt1⟩ i k tk0 u h tk I it hk1 hPP hoff F'' N''
    refine q_any fun Q9 hQ9 => ?_
    refine and8 hPP ?_
    clear hPP
    intro P1 P2 P3 P4 P5 P6 P7 P8
    dsimp only [kstB] at F''
    dsimp only at P2 P3 P4 P5 P6 P7 P8 N'' hoff
    have hkk : (i < pre.length ∧ (k = 32 ∨ k = 9) ∧ pre.drop i = k :: pre.drop (i + 1)) ∨ (i = pre.length ∧ k = 120) := by
      have h1 : y.cps.toList[i]? = some k := by simpa using hk1
      rw [hy] at h1
      by_cases hi : i < pre.length
      · rw [List.getElem?_append_left hi, List.getElem?_eq_getElem hi] at h1
        have h2 := Option.some.inj h1
        exact .inl ⟨hi, h2 ▸ hpre _ (List.getElem_mem hi), by rw [List.drop_eq_getElem_cons hi, h2]⟩
      · have hi2 : i = pre.length := by omega
        subst hi2
        rw [List.getElem?_append_right (Nat.le_refl _)] at h1
        simp at h1
        exact .inr ⟨rfl, h1.symm⟩
    have hvl := P2.length
    have nI : @Ne Nat I lc1 := (hoff _ (.head _)).symm
    have nJ : @Ne Nat lc1 I := hoff _ (.head _)
    rcases hkk with ⟨hi, rfl | rfl, hdr⟩ | ⟨rfl, rfl⟩
    · (repeat' (first | (k_unfold; (try dsimp only)) | (k_end; wrow_close) | ((fail_if_success with_reducible (first | refine KswEnd_stop ?_ | refine call_stop ?_ | refine pyIter_stop ?_ | refine while_stop ?_ | refine for_stop ?_ | refine def_stop ?_)); first | ((fail_if_success (fail_if_success (with_reducible refine st_guard ?_))); refine' store_L ?_ ?_ ?_ ?_ ?_ ?_ ?_; rotate_left 5; (first | dsimp only | rfl); (first | dsimp only | rfl); k_asm; k_asm; rfl; rfl; intro _ _ _; k_sweep) | ((with_reducible refine' add_led_rep ?_ ?_ ?_ ?_ ?_ ?_ ?_ ?_); rotate_left 10; k_asm; k_asm; k_mem; k_mem; assumption; exact ints_rep _ _; omega; intro _ _ _ _ l1a _; (try k_lt l1a); k_sweep) | ((with_reducible refine' tuple_led ?_ ?_ ?_ ?_ ?_); rotate_left 6; k_asm; k_asm; k_mem; omega; leaf_len) | ((with_reducible refine' item_int ?_ ?_ ?_ ?_ ?_ ?_ ?_ ?_); rotate_left 6; k_asm; (first | k_asm | k_mem); k_asm; (first | exact ix0 _ | omega); (first | (refine ix1 ?_ ?_ <;> assumption) | omega | (simp only [List.length_append, List.length_cons, List.length_nil]; omega)); (first | omega | (simp only [List.length_append, List.length_cons, List.length_nil]; omega)); rotate_left; with_unfolding_all rfl; intro _) | ((with_reducible refine' mul_rep ?_ ?_ ?_ ?_ ?_ ?_); rotate_left 6; k_asm; k_asm; k_mem; (first | with_reducible assumption | omega | assumption); (first | with_reducible assumption | omega | assumption); leaf_len) | ((with_reducible refine' len_led ?_ ?_ ?_ ?_); rotate_left 5; k_asm; k_mem; ((try simp only [List.length_replicate]); omega)) | walk1 | (dsimp only; first | ((fail_if_success (fail_if_success (with_reducible refine st_guard ?_))); refine' store_L ?_ ?_ ?_ ?_ ?_ ?_ ?_; rotate_left 5; (first | dsimp only | rfl); (first | dsimp only | rfl); k_asm; k_asm; rfl; rfl; intro _ _ _; k_sweep) | ((with_reducible refine' add_led_rep ?_ ?_ ?_ ?_ ?_ ?_ ?_ ?_); rotate_left 10; k_asm; k_asm; k_mem; k_mem; assumption; exact ints_rep _ _; omega; intro _ _ _ _ l1a _; (try k_lt l1a); k_sweep) | ((with_reducible refine' tuple_led ?_ ?_ ?_ ?_ ?_); rotate_left 6; k_asm; k_asm; k_mem; omega; leaf_len) | ((with_reducible refine' item_int ?_ ?_ ?_ ?_ ?_ ?_ ?_ ?_); rotate_left 6; k_asm; (first | k_asm | k_mem); k_asm; (first | exact ix0 _ | omega); (first | (refine ix1 ?_ ?_ <;> assumption) | omega | (simp only [List.length_append, List.length_cons, List.length_nil]; omega)); (first | omega | (simp only [List.length_append, List.length_cons, List.length_nil]; omega)); rotate_left; with_unfolding_all rfl; intro _) | ((with_reducible refine' mul_rep ?_ ?_ ?_ ?_ ?_ ?_); rotate_left 6; k_asm; k_asm; k_mem; (first | with_reducible assumption | omega | assumption); (first | with_reducible assumption | omega | assumption); leaf_len) | ((with_reducible refine' len_led ?_ ?_ ?_ ?_); rotate_left 5; k_asm; k_mem; ((try simp only [List.length_replicate]); omega)) | walk1) | (leave1; try dsimp only))))
      refine hQ9 _ _ ?_
      refine tpost_next (tend ⟨lc1, vs1, nc1, ⟨c1, b1 + 1, n1 + 1, nt1⟩, _, _, _⟩ (by k_asm) (by k_asm) (by k_mem) (fun p hp => .tail _ hp) hoff (by kst_all) (by kst_same) ⟨hi, P2, by dsimp only; omega, by dsimp only; omega, by dsimp only; omega, by dsimp only; omega, ?_, P8⟩)
      rw [hdr] at P7
      exact P7
    · (repeat' (first | (k_unfold; (try dsimp only)) | (k_end; wrow_close) | ((fail_if_success with_reducible (first | refine KswEnd_stop ?_ | refine call_stop ?_ | refine pyIter_stop ?_ | refine while_stop ?_ | refine for_stop ?_ | refine def_stop ?_)); first | ((fail_if_success (fail_if_success (with_reducible refine st_guard ?_))); refine' store_L ?_ ?_ ?_ ?_ ?_ ?_ ?_; rotate_left 5; (first | dsimp only | rfl); (first | dsimp only | rfl); k_asm; k_asm; rfl; rfl; intro _ _ _; k_sweep) | ((with_reducible refine' add_led_rep ?_ ?_ ?_ ?_ ?_ ?_ ?_ ?_); rotate_left 10; k_asm; k_asm; k_mem; k_mem; assumption; exact ints_rep _ _; omega; intro _ _ _ _ l1a _; (try k_lt l1a); k_sweep) | ((with_reducible refine' tuple_led ?_ ?_ ?_ ?_ ?_); rotate_left 6; k_asm; k_asm; k_mem; omega; leaf_len) | ((with_reducible refine' item_int ?_ ?_ ?_ ?_ ?_ ?_ ?_ ?_); rotate_left 6; k_asm; (first | k_asm | k_mem); k_asm; (first | exact ix0 _ | omega); (first | (refine ix1 ?_ ?_ <;> assumption) | omega | (simp only [List.length_append, List.length_cons, List.length_nil]; omega)); (first | omega | (simp only [List.length_append, List.length_cons, List.length_nil]; omega)); rotate_left; with_unfolding_all rfl; intro _) | ((with_reducible refine' mul_rep ?_ ?_ ?_ ?_ ?_ ?_); rotate_left 6; k_asm; k_asm; k_mem; (first | with_reducible assumption | omega | assumption); (first | with_reducible assumption | omega | assumption); leaf_len) | ((with_reducible refine' len_led ?_ ?_ ?_ ?_); rotate_left 5; k_asm; k_mem; ((try simp only [List.length_replicate]); omega)) | walk1 | (dsimp only; first | ((fail_if_success (fail_if_success (with_reducible refine st_guard ?_))); refine' store_L ?_ ?_ ?_ ?_ ?_ ?_ ?_; rotate_left 5; (first | dsimp only | rfl); (first | dsimp only | rfl); k_asm; k_asm; rfl; rfl; intro _ _ _; k_sweep) | ((with_reducible refine' add_led_rep ?_ ?_ ?_ ?_ ?_ ?_ ?_ ?_); rotate_left 10; k_asm; k_asm; k_mem; k_mem; assumption; exact ints_rep _ _; omega; intro _ _ _ _ l1a _; (try k_lt l1a); k_sweep) | ((with_reducible refine' tuple_led ?_ ?_ ?_ ?_ ?_); rotate_left 6; k_asm; k_asm; k_mem; omega; leaf_len) | ((with_reducible refine' item_int ?_ ?_ ?_ ?_ ?_ ?_ ?_ ?_); rotate_left 6; k_asm; (first | k_asm | k_mem); k_asm; (first | exact ix0 _ | omega); (first | (refine ix1 ?_ ?_ <;> assumption) | omega | (simp only [List.length_append, List.length_cons, List.length_nil]; omega)); (first | omega | (simp only [List.length_append, List.length_cons, List.length_nil]; omega)); rotate_left; with_unfolding_all rfl; intro _) | ((with_reducible refine' mul_rep ?_ ?_ ?_ ?_ ?_ ?_); rotate_left 6; k_asm; k_asm; k_mem; (first | with_reducible assumption | omega | assumption); (first | with_reducible assumption | omega | assumption); leaf_len) | ((with_reducible refine' len_led ?_ ?_ ?_ ?_); rotate_left 5; k_asm; k_mem; ((try simp only [List.length_replicate]); omega)) | walk1) | (leave1; try dsimp only))))
      · have hxx : ((b1 : Int) - (vs1.length : Int) + 1).toNat = b1 - vs1.length + 1 := by rw [← Int.ofNat_sub (Int.ofNat_le.mp (by assumption))]; rfl
        refine' set_led ?F ?N ?U ?i ?z0 ?z1 ?z2 ?_
        case F => k_asm
        case N => k_asm
        case U => k_upd
        case i => assumption
        case z0 => omega
        case z1 => (simp only [List.length_append, List.length_replicate]; omega)
        case z2 => (simp only [List.length_append, List.length_replicate]; omega)
        intro h' F' N' hi'
        have hbp : bump c1 b1 = (c1 ++ List.replicate ((b1 : Int) - (vs1.length : Int) + 1).toNat 0).set (b1 : Int).toNat ((c1 ++ List.replicate ((b1 : Int) - (vs1.length : Int) + 1).toNat 0).getD (b1 : Int).toNat 0 + 1) := by
          unfold bump bumpL
          rw [if_pos (by omega), hxx, hvl]; rfl
        rw [← hbp] at hi'
        have hbl := bump_len c1 b1
        (repeat' (first | (k_unfold; (try dsimp only)) | (k_end; wrow_close) | ((fail_if_success with_reducible (first | refine KswEnd_stop ?_ | refine call_stop ?_ | refine pyIter_stop ?_ | refine while_stop ?_ | refine for_stop ?_ | refine def_stop ?_)); first | ((fail_if_success (fail_if_success (with_reducible refine st_guard ?_))); refine' store_L ?_ ?_ ?_ ?_ ?_ ?_ ?_; rotate_left 5; (first | dsimp only | rfl); (first | dsimp only | rfl); k_asm; k_asm; rfl; rfl; intro _ _ _; k_sweep) | ((with_reducible refine' add_led_rep ?_ ?_ ?_ ?_ ?_ ?_ ?_ ?_); rotate_left 10; k_asm; k_asm; k_mem; k_mem; assumption; exact ints_rep _ _; omega; intro _ _ _ _ l1a _; (try k_lt l1a); k_sweep) | ((with_reducible refine' tuple_led ?_ ?_ ?_ ?_ ?_); rotate_left 6; k_asm; k_asm; k_mem; omega; leaf_len) | ((with_reducible refine' item_int ?_ ?_ ?_ ?_ ?_ ?_ ?_ ?_); rotate_left 6; k_asm; (first | k_asm | k_mem); k_asm; (first | exact ix0 _ | omega); (first | (refine ix1 ?_ ?_ <;> assumption) | omega | (simp only [List.length_append, List.length_cons, List.length_nil]; omega)); (first | omega | (simp only [List.length_append, List.length_cons, List.length_nil]; omega)); rotate_left; with_unfolding_all rfl; intro _) | ((with_reducible refine' mul_rep ?_ ?_ ?_ ?_ ?_ ?_); rotate_left 6; k_asm; k_asm; k_mem; (first | with_reducible assumption | omega | assumption); (first | with_reducible assumption | omega | assumption); leaf_len) | ((with_reducible refine' len_led ?_ ?_ ?_ ?_); rotate_left 5; k_asm; k_mem; ((try simp only [List.length_replicate]); omega)) | walk1 | (dsimp only; first | ((fail_if_success (fail_if_success (with_reducible refine st_guard ?_))); refine' store_L ?_ ?_ ?_ ?_ ?_ ?_ ?_; rotate_left 5; (first | dsimp only | rfl); (first | dsimp only | rfl); k_asm; k_asm; rfl; rfl; intro _ _ _; k_sweep) | ((with_reducible refine' add_led_rep ?_ ?_ ?_ ?_ ?_ ?_ ?_ ?_); rotate_left 10; k_asm; k_asm; k_mem; k_mem; assumption; exact ints_rep _ _; omega; intro _ _ _ _ l1a _; (try k_lt l1a); k_sweep) | ((with_reducible refine' tuple_led ?_ ?_ ?_ ?_ ?_); rotate_left 6; k_asm; k_asm; k_mem; omega; leaf_len) | ((with_reducible refine' item_int ?_ ?_ ?_ ?_ ?_ ?_ ?_ ?_); rotate_left 6; k_asm; (first | k_asm | k_mem); k_asm; (first | exact ix0 _ | omega); (first | (refine ix1 ?_ ?_ <;> assumption) | omega | (simp only [List.length_append, List.length_cons, List.length_nil]; omega)); (first | omega | (simp only [List.length_append, List.length_cons, List.length_nil]; omega)); rotate_left; with_unfolding_all rfl; intro _) | ((with_reducible refine' mul_rep ?_ ?_ ?_ ?_ ?_ ?_); rotate_left 6; k_asm; k_asm; k_mem; (first | with_reducible assumption | omega | assumption); (first | with_reducible assumption | omega | assumption); leaf_len) | ((with_reducible refine' len_led ?_ ?_ ?_ ?_); rotate_left 5; k_asm; k_mem; ((try simp only [List.length_replicate]); omega)) | walk1) | (leave1; try dsimp only))))
        refine hQ9 _ _ ?_
        refine tpost_next (tend ⟨_, _, 0, ⟨bump c1 b1, 0, n1 + 1, nt1 + 1⟩, _, _, _⟩ (by k_asm) (by k_asm) (by k_mem) ?_ ?_ (by kst_all) (by kst_same) ⟨hi, hi', by dsimp only; omega, Nat.zero_le _, by dsimp only; omega, by dsimp only; omega, ?_, ?_⟩)
        · intro p hp
          rcases List.mem_cons.mp hp with e | hp
          · rw [e]; exact .head _
          · exact .tail _ (.tail _ (.tail _ (.tail _ (.tail _ hp))))
        · refine fa_cons (by k_ne) (fun p hp => hoff p (.tail _ hp))
        · rw [hdr] at P7
          exact P7
        · refine fa_cons (by k_ne) ?_
          refine fa_cons (by k_ne) ?_
          ktn_open
      · refine' set_led ?F ?N ?U ?i ?z0 ?z1 ?z2 ?_
        case F => k_asm
        case N => k_asm
        case U => exact Upd.tail nI (Upd.head P8)
        case i => assumption
        case z0 => omega
        case z1 => omega
        case z2 => omega
        intro h' F' N' hi'
        have hbp : bump c1 b1 = c1.set (b1 : Int).toNat (c1.getD (b1 : Int).toNat 0 + 1) := by
          unfold bump bumpL
          rw [if_neg (by omega)]; rfl
        rw [← hbp] at hi'
        have hbl := bump_len c1 b1
        (repeat' (first | (k_unfold; (try dsimp only)) | (k_end; wrow_close) | ((fail_if_success with_reducible (first | refine KswEnd_stop ?_ | refine call_stop ?_ | refine pyIter_stop ?_ | refine while_stop ?_ | refine for_stop ?_ | refine def_stop ?_)); first | ((fail_if_success (fail_if_success (with_reducible refine st_guard ?_))); refine' store_L ?_ ?_ ?_ ?_ ?_ ?_ ?_; rotate_left 5; (first | dsimp only | rfl); (first | dsimp only | rfl); k_asm; k_asm; rfl; rfl; intro _ _ _; k_sweep) | ((with_reducible refine' add_led_rep ?_ ?_ ?_ ?_ ?_ ?_ ?_ ?_); rotate_left 10; k_asm; k_asm; k_mem; k_mem; assumption; exact ints_rep _ _; omega; intro _ _ _ _ l1a _; (try k_lt l1a); k_sweep) | ((with_reducible refine' tuple_led ?_ ?_ ?_ ?_ ?_); rotate_left 6; k_asm; k_asm; k_mem; omega; leaf_len) | ((with_reducible refine' item_int ?_ ?_ ?_ ?_ ?_ ?_ ?_ ?_); rotate_left 6; k_asm; (first | k_asm | k_mem); k_asm; (first | exact ix0 _ | omega); (first | (refine ix1 ?_ ?_ <;> assumption) | omega | (simp only [List.length_append, List.length_cons, List.length_nil]; omega)); (first | omega | (simp only [List.length_append, List.length_cons, List.length_nil]; omega)); rotate_left; with_unfolding_all rfl; intro _) | ((with_reducible refine' mul_rep ?_ ?_ ?_ ?_ ?_ ?_); rotate_left 6; k_asm; k_asm; k_mem; (first | with_reducible assumption | omega | assumption); (first | with_reducible assumption | omega | assumption); leaf_len) | ((with_reducible refine' len_led ?_ ?_ ?_ ?_); rotate_left 5; k_asm; k_mem; ((try simp only [List.length_replicate]); omega)) | walk1 | (dsimp only; first | ((fail_if_success (fail_if_success (with_reducible refine st_guard ?_))); refine' store_L ?_ ?_ ?_ ?_ ?_ ?_ ?_; rotate_left 5; (first | dsimp only | rfl); (first | dsimp only | rfl); k_asm; k_asm; rfl; rfl; intro _ _ _; k_sweep) | ((with_reducible refine' add_led_rep ?_ ?_ ?_ ?_ ?_ ?_ ?_ ?_); rotate_left 10; k_asm; k_asm; k_mem; k_mem; assumption; exact ints_rep _ _; omega; intro _ _ _ _ l1a _; (try k_lt l1a); k_sweep) | ((with_reducible refine' tuple_led ?_ ?_ ?_ ?_ ?_); rotate_left 6; k_asm; k_asm; k_mem; omega; leaf_len) | ((with_reducible refine' item_int ?_ ?_ ?_ ?_ ?_ ?_ ?_ ?_); rotate_left 6; k_asm; (first | k_asm | k_mem); k_asm; (first | exact ix0 _ | omega); (first | (refine ix1 ?_ ?_ <;> assumption) | omega | (simp only [List.length_append, List.length_cons, List.length_nil]; omega)); (first | omega | (simp only [List.length_append, List.length_cons, List.length_nil]; omega)); rotate_left; with_unfolding_all rfl; intro _) | ((with_reducible refine' mul_rep ?_ ?_ ?_ ?_ ?_ ?_); rotate_left 6; k_asm; k_asm; k_mem; (first | with_reducible assumption | omega | assumption); (first | with_reducible assumption | omega | assumption); leaf_len) | ((with_reducible refine' len_led ?_ ?_ ?_ ?_); rotate_left 5; k_asm; k_mem; ((try simp only [List.length_replicate]); omega)) | walk1) | (leave1; try dsimp only))))
        refine hQ9 _ _ ?_
        refine tpost_next (tend ⟨lc1, _, nc1, ⟨bump c1 b1, 0, n1 + 1, nt1 + 1⟩, _, _, _⟩ (by k_asm) (by k_asm) (by k_mem) ?_ ?_ (by kst_all) (by kst_same) ⟨hi, hi', by dsimp only; omega, Nat.zero_le _, by dsimp only; omega, by dsimp only; omega, ?_, P8⟩)
        · exact fun p hp => .tail _ hp
        · refine fa_cons nJ (fun p hp => hoff p (.tail _ hp))
        · rw [hdr] at P7
          exact P7
    · have hfin : (⟨c1, b1, n1, nt1⟩ : WSt) = wsp pre ⟨[], 0, 0, 0⟩ := by
        rw [← P7, List.drop_length]; rfl
      (repeat' (first | (k_unfold; (try dsimp only)) | (k_end; wrow_close) | ((fail_if_success with_reducible (first | refine KswEnd_stop ?_ | refine call_stop ?_ | refine pyIter_stop ?_ | refine while_stop ?_ | refine for_stop ?_ | refine def_stop ?_)); first | ((fail_if_success (fail_if_success (with_reducible refine st_guard ?_))); refine' store_L ?_ ?_ ?_ ?_ ?_ ?_ ?_; rotate_left 5; (first | dsimp only | rfl); (first | dsimp only | rfl); k_asm; k_asm; rfl; rfl; intro _ _ _; k_sweep) | ((with_reducible refine' add_led_rep ?_ ?_ ?_ ?_ ?_ ?_ ?_ ?_); rotate_left 10; k_asm; k_asm; k_mem; k_mem; assumption; exact ints_rep _ _; omega; intro _ _ _ _ l1a _; (try k_lt l1a); k_sweep) | ((with_reducible refine' tuple_led ?_ ?_ ?_ ?_ ?_); rotate_left 6; k_asm; k_asm; k_mem; omega; leaf_len) | ((with_reducible refine' item_int ?_ ?_ ?_ ?_ ?_ ?_ ?_ ?_); rotate_left 6; k_asm; (first | k_asm | k_mem); k_asm; (first | exact ix0 _ | omega); (first | (refine ix1 ?_ ?_ <;> assumption) | omega | (simp only [List.length_append, List.length_cons, List.length_nil]; omega)); (first | omega | (simp only [List.length_append, List.length_cons, List.length_nil]; omega)); rotate_left; with_unfolding_all rfl; intro _) | ((with_reducible refine' mul_rep ?_ ?_ ?_ ?_ ?_ ?_); rotate_left 6; k_asm; k_asm; k_mem; (first | with_reducible assumption | omega | assumption); (first | with_reducible assumption | omega | assumption); leaf_len) | ((with_reducible refine' len_led ?_ ?_ ?_ ?_); rotate_left 5; k_asm; k_mem; ((try simp only [List.length_replicate]); omega)) | walk1 | (dsimp only; first | ((fail_if_success (fail_if_success (with_reducible refine st_guard ?_))); refine' store_L ?_ ?_ ?_ ?_ ?_ ?_ ?_; rotate_left 5; (first | dsimp only | rfl); (first | dsimp only | rfl); k_asm; k_asm; rfl; rfl; intro _ _ _; k_sweep) | ((with_reducible refine' add_led_rep ?_ ?_ ?_ ?_ ?_ ?_ ?_ ?_); rotate_left 10; k_asm; k_asm; k_mem; k_mem; assumption; exact ints_rep _ _; omega; intro _ _ _ _ l1a _; (try k_lt l1a); k_sweep) | ((with_reducible refine' tuple_led ?_ ?_ ?_ ?_ ?_); rotate_left 6; k_asm; k_asm; k_mem; omega; leaf_len) | ((with_reducible refine' item_int ?_ ?_ ?_ ?_ ?_ ?_ ?_ ?_); rotate_left 6; k_asm; (first | k_asm | k_mem); k_asm; (first | exact ix0 _ | omega); (first | (refine ix1 ?_ ?_ <;> assumption) | omega | (simp only [List.length_append, List.length_cons, List.length_nil]; omega)); (first | omega | (simp only [List.length_append, List.length_cons, List.length_nil]; omega)); rotate_left; with_unfolding_all rfl; intro _) | ((with_reducible refine' mul_rep ?_ ?_ ?_ ?_ ?_ ?_); rotate_left 6; k_asm; k_asm; k_mem; (first | with_reducible assumption | omega | assumption); (first | with_reducible assumption | omega | assumption); leaf_len) | ((with_reducible refine' len_led ?_ ?_ ?_ ?_); rotate_left 5; k_asm; k_mem; ((try simp only [List.length_replicate]); omega)) | walk1) | (leave1; try dsimp only))))
      refine hQ9 _ _ ?_
      refine tpost_brk ?_
      dsimp only
      have qa : @Ne Nat xo lc1 := P8 _ (.head _)
      have qb : @Ne Nat dd lc1 := P8 _ (.tail _ (.head _))
      have qc : @Ne Nat lc1 xo := qa.symm
      have qd : @Ne Nat lc1 dd := qb.symm
      have qe : @Ne Nat I xo := (hoff _ (.tail _ (.head _))).symm
      have qf : @Ne Nat I dd := (hoff _ (.tail _ (.tail _ (.head _)))).symm
      have qg : @Ne Nat xo I := qe.symm
      have qh : @Ne Nat dd I := qf.symm
      subst hdo
      (repeat' (first | (k_unfold; (try dsimp only)) | (k_end; wrow_close) | ((fail_if_success with_reducible (first | refine KswEnd_stop ?_ | refine call_stop ?_ | refine pyIter_stop ?_ | refine while_stop ?_ | refine for_stop ?_ | refine def_stop ?_)); first | ((fail_if_success (fail_if_success (with_reducible refine st_guard ?_))); refine' store_L ?_ ?_ ?_ ?_ ?_ ?_ ?_; rotate_left 5; (first | dsimp only | rfl); (first | dsimp only | rfl); k_asm; k_asm; rfl; rfl; intro _ _ _; k_sweep) | ((with_reducible refine' add_led_rep ?_ ?_ ?_ ?_ ?_ ?_ ?_ ?_); rotate_left 10; k_asm; k_asm; k_mem; k_mem; assumption; exact ints_rep _ _; omega; intro _ _ _ _ l1a _; (try k_lt l1a); k_sweep) | ((with_reducible refine' tuple_led ?_ ?_ ?_ ?_ ?_); rotate_left 6; k_asm; k_asm; k_mem; omega; leaf_len) | ((with_reducible refine' item_int ?_ ?_ ?_ ?_ ?_ ?_ ?_ ?_); rotate_left 6; k_asm; (first | k_asm | k_mem); k_asm; (first | exact ix0 _ | omega); (first | (refine ix1 ?_ ?_ <;> assumption) | omega | (simp only [List.length_append, List.length_cons, List.length_nil]; omega)); (first | omega | (simp only [List.length_append, List.length_cons, List.length_nil]; omega)); rotate_left; with_unfolding_all rfl; intro _) | ((with_reducible refine' mul_rep ?_ ?_ ?_ ?_ ?_ ?_); rotate_left 6; k_asm; k_asm; k_mem; (first | with_reducible assumption | omega | assumption); (first | with_reducible assumption | omega | assumption); leaf_len) | ((with_reducible refine' len_led ?_ ?_ ?_ ?_); rotate_left 5; k_asm; k_mem; ((try simp only [List.length_replicate]); omega)) | walk1 | (dsimp only; first | ((fail_if_success (fail_if_success (with_reducible refine st_guard ?_))); refine' store_L ?_ ?_ ?_ ?_ ?_ ?_ ?_; rotate_left 5; (first | dsimp only | rfl); (first | dsimp only | rfl); k_asm; k_asm; rfl; rfl; intro _ _ _; k_sweep) | ((with_reducible refine' add_led_rep ?_ ?_ ?_ ?_ ?_ ?_ ?_ ?_); rotate_left 10; k_asm; k_asm; k_mem; k_mem; assumption; exact ints_rep _ _; omega; intro _ _ _ _ l1a _; (try k_lt l1a); k_sweep) | ((with_reducible refine' tuple_led ?_ ?_ ?_ ?_ ?_); rotate_left 6; k_asm; k_asm; k_mem; omega; leaf_len) | ((with_reducible refine' item_int ?_ ?_ ?_ ?_ ?_ ?_ ?_ ?_); rotate_left 6; k_asm; (first | k_asm | k_mem); k_asm; (first | exact ix0 _ | omega); (first | (refine ix1 ?_ ?_ <;> assumption) | omega | (simp only [List.length_append, List.length_cons, List.length_nil]; omega)); (first | omega | (simp only [List.length_append, List.length_cons, List.length_nil]; omega)); rotate_left; with_unfolding_all rfl; intro _) | ((with_reducible refine' mul_rep ?_ ?_ ?_ ?_ ?_ ?_); rotate_left 6; k_asm; k_asm; k_mem; (first | with_reducible assumption | omega | assumption); (first | with_reducible assumption | omega | assumption); leaf_len) | ((with_reducible refine' len_led ?_ ?_ ?_ ?_); rotate_left 5; k_asm; k_mem; ((try simp only [List.length_replicate]); omega)) | walk1) | (leave1; try dsimp only))))
      refine hret _ _ _ _ (by k_asm) (news_drop34 (by k_asm)) ?_
      rw [← hfin]
      refine WsOut.mk _ _ _ _ _ _ _ _ _ _ _ _ _ _ _ P2 lx0 lx1 ?_ ?_
      · exact pickA (I := I) (lc := lc1) (dd := dd) (n := news) (by assumption)
      · exact pickB (I := I) (lc := lc1) (xo := xo) (dd := dd) (n := news) (by assumption)
  · rintro c9 u9 h9 tk9 ⟨P1, P2⟩
    exfalso
    have hz := congrArg List.length hy
    simp at hz
    omega

end
section
noncomputable abbrev wsDict (w : World) (n : Addr) (v1 v2 v3 v4 : Value) (k1 k2 k3 k4 k5 : Tok) : Obj := dictOf [{ hash := PyData.keyHash w.params (Str.ofString "raw"), key := Value.str (Str.ofString "raw") k1, val := v1 }, { hash := PyData.keyHash w.params (Str.ofString "n"), key := Value.str (Str.ofString "n") k2, val := v2 }, { hash := PyData.keyHash w.params (Str.ofString "nt"), key := Value.str (Str.ofString "nt") k3, val := v3 }, { hash := PyData.keyHash w.params (Str.ofString "norm"), key := Value.str (Str.ofString "norm") k4, val := .ref n }, { hash := PyData.keyHash w.params (Str.ofString "is_simple"), key := Value.str (Str.ofString "is_simple") k5, val := v4 }] 5
noncomputable abbrev tupOf (vs : List Value) : Obj := { cls := .type "tuple", data := .seq vs.toArray }
theorem eqvAll_ints : ∀ ns ms : List Int, PyData.eqvAll (ns.map PyData.int) (ms.map PyData.int) = decide (ns = ms)
  | [], [] => by simp [PyData.eqvAll]
  | [], _ :: _ => by simp [PyData.eqvAll]
  | _ :: _, [] => by simp [PyData.eqvAll]
  | a :: r, b :: t => by
    simp only [List.map_cons, PyData.eqvAll, PyData.eqv, eqvAll_ints r t]
    by_cases h : a = b <;> by_cases h' : r = t <;> simp [h, h']
theorem carried_ints : ∀ {vs : List Value} {ns : List Int}, IntsAre vs ns → CarriedAll vs (ns.map PyData.int)
  | _, _, .nil => .nil
  | _, _, .cons _ t r => .cons (.int _ t) (carried_ints r)
theorem shaped_norm (ns : List Int) (b : Int) : PySem.SeqAt.shaped (.tuple [.tuple (ns.map PyData.int), .int b]) = true := by
  simp [PySem.SeqAt.shaped, PyData.canLay0, PyData.depth, ke_canLayAll0, ke_depthAll, PyData.canLayAll0, PyData.depthAll]
section
variable {prog : Program} {w : World} {A : Around} {E : Value → Shared → Prop} {s : Shared} {h₀ : Heap} {L n1 n2 c1 c2 : Addr} {news : Led} {vs1 vs2 : List Value} {ns1 ns2 : List Int} {b1 b2 : Int} {t1 t2 : Tok} {Q : Value → Shared → Prop}
theorem eq_norm (N : News h₀ L s.heap news) (m1 : (n1, tup2 (.ref c1) (.int b1 t1)) ∈ news) (k1 : (c1, tupOf vs1) ∈ news) (i1 : IntsAre vs1 ns1) (m2 : (n2, tup2 (.ref c2) (.int b2 t2)) ∈ news) (k2 : (c2, tupOf vs2) ∈ news) (i2 : IntsAre vs2 ns2) (hu : A.units + 64 < cLine)
   (h : Q (.bool (decide (ns1 = ns2) && (b1 == b2))) s) : wpAny (model prog w) A (compareOp .Eq (.ref n1) (.ref n2)) Q E s := by
  refine eq_dataH (reads_tuple_at (N.get m1) rfl rfl (ReadsAll.cons (reads_tuple_at (N.get k1) rfl rfl ((carried_ints i1).reads _)) (ReadsAll.cons (Reads.int _ _) ReadsAll.nil))) (reads_tuple_at (N.get m2) rfl rfl (ReadsAll.cons (reads_tuple_at (N.get k2) rfl rfl ((carried_ints i2).reads _)) (ReadsAll.cons (Reads.int _ _) ReadsAll.nil))) (shaped_norm _ _) (shaped_norm _ _) hu ?_
  have e : PyData.eqv (.tuple [.tuple (ns1.map PyData.int), .int b1]) (.tuple [.tuple (ns2.map PyData.int), .int b2]) = (decide (ns1 = ns2) && (b1 == b2)) := by
    simp only [PyData.eqv, PyData.eqvAll, eqvAll_ints, Bool.and_true]
  rw [e]; exact h
end

end
section
theorem rst_Eqn : True := by w_top off; trivial
theorem ws_equal (w : World) (news : Led) (x y d1 d2 n1 n2 c1 c2 : Addr) (vs1 vs2 : List Value) (ns1 ns2 : List Int) (b1 b2 : Int) (t1 t2 : Tok) (v1 v2 v3 v4 u1 u2 u3 u4 : Value) (k1 k2 k3 k4 k5 l1 l2 l3 l4 l5 : Tok)
   (mx : (x, instObj 83 d1) ∈ news) (md : (d1, wsDict w n1 v1 v2 v3 v4 k1 k2 k3 k4 k5) ∈ news) (mn : (n1, tup2 (.ref c1) (.int b1 t1)) ∈ news) (mc : (c1, tupOf vs1) ∈ news) (i1 : IntsAre vs1 ns1)
   (mx' : (y, instObj 83 d2) ∈ news) (md' : (d2, wsDict w n2 u1 u2 u3 u4 l1 l2 l3 l4 l5) ∈ news) (mn' : (n2, tup2 (.ref c2) (.int b2 t2)) ∈ news) (mc' : (c2, tupOf vs2) ∈ news) (i2 : IntsAre vs2 ns2) :
   Does w 59 2 90 news [.ref x, .ref y] (fun r news' => r = .bool (decide (ns1 = ns2) && (b1 == b2)) ∧ news' = news) := by
  unfold Does
  intro p loose mean mg mb dp un gd cn cs ad ccd cl outer A₀ base h₀ L m s Q E B F X N T C1 C2 hk hd hu hret
  refine wpAny_call ?_
  k_dflt (refine code_def (by k_asm) (by k_asm) (by k_asm) (by k_asm) (by k_asm) (by exact rfl) (by exact rfl) (by first | exact rfl | assumption) (by k_is) (by k_is) (by ktr_room) (by first | exact BindsTo.of_eq rfl | exact kp_binds (by k_in) (fun _ => rfl)) (by exact locs rfl) ?_ (by exact rfl) (by exact rfl) (by exact rfl) (by decide); intro _ _ _ _ _ _ _ _ _; (try dsimp only); (try k_fold))
  refine st_conv (by dsimp only) ?_
  refine tk_any fun tk9 => ?_
  (repeat' (first | (k_unfold; (try dsimp only)) | (k_end; wrow_close) | ((fail_if_success with_reducible (first | refine KswEnd_stop ?_ | refine call_stop ?_ | refine pyIter_stop ?_ | refine while_stop ?_ | refine for_stop ?_ | refine def_stop ?_)); first | ((fail_if_success (fail_if_success (with_reducible refine st_guard ?_))); refine' store_L ?_ ?_ ?_ ?_ ?_ ?_ ?_; rotate_left 5; (first | dsimp only | rfl); (first | dsimp only | rfl); k_asm; k_asm; rfl; rfl; intro _ _ _; k_sweep) | ((with_reducible refine' eq_norm ?_ ?_ ?_ ?_ ?_ ?_ ?_ ?_ ?_); rotate_left 13; k_asm; with_reducible assumption; with_reducible assumption; assumption; with_reducible assumption; with_reducible assumption; assumption; ke_room) | walk1 | (dsimp only; first | ((fail_if_success (fail_if_success (with_reducible refine st_guard ?_))); refine' store_L ?_ ?_ ?_ ?_ ?_ ?_ ?_; rotate_left 5; (first | dsimp only | rfl); (first | dsimp only | rfl); k_asm; k_asm; rfl; rfl; intro _ _ _; k_sweep) | ((with_reducible refine' eq_norm ?_ ?_ ?_ ?_ ?_ ?_ ?_ ?_ ?_); rotate_left 13; k_asm; with_reducible assumption; with_reducible assumption; assumption; with_reducible assumption; with_reducible assumption; assumption; ke_room) | walk1) | (leave1; try dsimp only))))
  exact hret _ _ _ _ (by k_asm) (by k_asm) ⟨rfl, rfl⟩

end
section
open PySem.Calls PySem.Spec
section
variable {prog : Program} {w : World} {A : Around} {E : Value → Shared → Prop} {s : Shared} {env : Env} {h₀ : Heap} {x : Str} {target : PySem.Expr} {body : List Stmt} {Q : Flow → Shared → Prop}
theorem gen_turns {σ : Type} {I : Addr} {fp : List Addr} {n : Nat} {Pv : Nat → Value → Prop} {Md : Nat → Value → Heap → Prop} {St : Nat → Heap → Prop} {m₀ : Str → Option Value} (Led : σ → List (Addr × Obj)) (ps : σ → List (Str × Value)) (stored : List Str) (P : Nat → σ → Prop) (c₀ : σ)
    (W : KTurns prog w A target I fp [I] n (fun i v _ => Pv i v) Md St) (hLf : env.locals ∉ fp) (hI : h₀.get? I = none) (hfp : ∀ b ∈ fp, b = I ∨ (∃ o, h₀.get? b = some o) ∨ ∃ o, ∀ c, (b, o) ∈ Led c) (hst : St 0 s.heap)
    (F : Fr h₀ env.locals s.heap m₀) (N : News h₀ env.locals s.heap (Led c₀)) (hne : ∀ p ∈ Led c₀, p.1 ≠ I) (hk : ∀ p ∈ ps c₀, m₀ p.1 = some p.2) (hp : P 0 c₀)
    (turn : ∀ (c : σ) i v (u : Str → Option Value) h tk it, i < n → Pv i v → P i c → (∀ p ∈ Led c, p.1 ≠ I) →
      Fr h₀ env.locals h (fun y => if y = x then u y else kstB (fun z => if stored.contains z then u z else m₀ z) (ps c) y) → News h₀ env.locals h ((I, it) :: Led c) →
      wpAny (model prog w) A (assign target env v) (fun _ s₃ => wpAny (model prog w) A (execs body env) (TPost h₀ env.locals s Led ps x stored m₀ (P (i + 1)) I it Q) E s₃) E { s with heap := h, toks := tk })
    (done : ∀ (c : σ) (u : Str → Option Value) h tk, P n c → Fr h₀ env.locals h (fun y => if y = x then u y else kstB (fun z => if stored.contains z then u z else m₀ z) (ps c) y) → News h₀ env.locals h (Led c) → (∀ p ∈ Led c, p.1 ≠ I) → Q .next { s with heap := h, toks := tk })
    (hIf : I ∈ fp) (hSt : ∀ i h, St i h → ∃ o, h.get? I = some o) : TurnsAt prog w A h₀ env target body Q E (.ref I) s := by
  refine ⟨I, fp, [I], n, _, Md, St, m₀, Led c₀, LoopJ Led ps x stored m₀ P, rfl, W, hLf, ?_, ?_, hst, F, N, .mk c₀ hk (fun _ _ _ _ => rfl) hp, ?_, ?_⟩
  · intro b hb
    rw [List.mem_singleton.mp hb]; exact hI
  · intro p hp' hw
    exact hne p hp' (List.mem_singleton.mp hw)
  · rintro i v m₁ news₁ hh' tk' own hin hP ⟨c, h1, h2, hp'⟩ hofs hown hget hall hst₁ F₁ N₁
    have hoff : ∀ p ∈ Led c, p.1 ≠ I := fun p hp e => hofs p hp (List.mem_singleton.mpr e)
    have hstI : ∃ it, (I, it) ∈ own := by
      obtain ⟨o, ho⟩ := hSt _ _ hst₁
      exact ⟨o, hall I hIf hI o ho⟩
    obtain ⟨it, hit⟩ := hstI
    have N₂ : News h₀ env.locals hh' ((I, it) :: Led c) := fun p hp => by
      rcases List.mem_cons.mp hp with e | hp
      · rw [e]; exact N₁ _ (List.mem_append_left _ hit)
      · exact N₁ _ (List.mem_append_right _ hp)
    refine wpAny_mono (turn c i v m₁ hh' tk' it hin hP hp' hoff (kst_frOut h1 h2 F₁) N₂) (fun _ s₃ q => wpAny_mono q (fun f s₂ p => ?_) fun _ _ e => e) fun _ _ e => e
    cases f with
    | ret v => exact .ret p
    | brk => exact .brk p
    | next => exact .next (tend_step hfp hown hget hit N₁ p)
    | cont => exact .cont (tend_step hfp hown hget hit N₁ p)
  · rintro h' tk m' news' F' N' hofs ⟨c, h1, h2, hp'⟩
    exact done c m' h' tk hp' (kst_frOut h1 h2 F') N' fun p hp e => hofs p hp (List.mem_singleton.mpr e)

theorem turns_led {σ : Type} {l : Addr} {vs : List Value} {nn : Nat} {m₀ : Str → Option Value} (Led : σ → List (Addr × Obj)) (ps : σ → List (Str × Value)) (stored : List Str) (P : Nat → σ → Prop) (c₀ : σ)
    (hh : A.handled = none) (hm : ∀ c, (l, W.listOf vs.toArray nn) ∈ Led c) (F : Fr h₀ env.locals s.heap m₀) (N : News h₀ env.locals s.heap (Led c₀)) (hk : ∀ p ∈ ps c₀, m₀ p.1 = some p.2) (hp : P 0 c₀)
    (turn : ∀ (c : σ) i v (u : Str → Option Value) h tk I it, vs[i]? = some v → P i c → (∀ p ∈ Led c, p.1 ≠ I) →
      Fr h₀ env.locals h (fun z => if z = x then u z else kstB (fun z => if stored.contains z then u z else m₀ z) (ps c) z) → News h₀ env.locals h ((I, it) :: Led c) →
      wpAny (model prog w) A (assign target env v) (fun _ s₃ => wpAny (model prog w) A (execs body env) (TPost h₀ env.locals s Led ps x stored m₀ (P (i + 1)) I it Q) E s₃) E { s with heap := h, toks := tk })
    (done : ∀ (c : σ) (u : Str → Option Value) h tk, P vs.length c → Fr h₀ env.locals h (fun z => if z = x then u z else kstB (fun z => if stored.contains z then u z else m₀ z) (ps c) z) → News h₀ env.locals h (Led c) → Q .next { s with heap := h, toks := tk }) :
    wpAny (model prog w) A (pyIter (.ref l)) (fun it s₂ => TurnsAt prog w A h₀ env target body Q E it s₂) E s := by
  have hls : s.heap.IsList l vs.toArray := ⟨_, (N _ (hm c₀)).1, rfl, nn, rfl⟩
  refine wpAny_pyIter_list hls ?_
  have hL : env.locals ≠ s.heap.objs.size := fun e => absurd F.ns.lt (e ▸ Nat.lt_irrefl _)
  have hlt := Heap.lt_size (N _ (hm c₀)).1
  have hne : l ≠ s.heap.objs.size := Nat.ne_of_lt hlt
  refine gen_turns (x := x) Led ps stored P c₀ (KTurns.ofWalks (Walks.list hh s.heap.objs.size l hne vs.toArray) fun i v s Q E st q => letGo_listiter st.1 q) (by simp only [List.mem_cons, List.not_mem_nil, or_false, not_or]; exact ⟨hL, fun e => (N _ (hm c₀)).2.1 e.symm⟩) (next_is_new F)
    (fun b hb => by
      rcases List.mem_cons.mp hb with e | hb
      · exact .inl e
      · rw [List.mem_singleton.mp hb]; exact .inr (.inr ⟨_, hm⟩))
    ⟨⟨_, Heap.get?_push_size _ rfl, rfl, rfl⟩, hls.at fun o e => Heap.get?_push_of_some _ e⟩ (F.push _) (fun p hp => ⟨Heap.get?_push_of_some _ (N p hp).1, (N p hp).2⟩) (fun p hp => Nat.ne_of_lt (Heap.lt_size (N p hp).1)) hk hp ?_ ?_ (by simp) (fun i h hs => let ⟨o, ho, _⟩ := hs.1; ⟨o, ho⟩)
  · rintro c i v u h tk it hi hv hP hoff F' N'
    exact turn c i v u h tk _ it (by simpa using hv) hP hoff F' N'
  · intro c u h tk hP F' N' _
    exact done c u h tk (by simpa using hP) F' N'

theorem turns_tup {σ : Type} {l : Addr} {vs : List Value} {nn : Nat} {m₀ : Str → Option Value} (Led : σ → List (Addr × Obj)) (ps : σ → List (Str × Value)) (stored : List Str) (P : Nat → σ → Prop) (c₀ : σ)
    (hh : A.handled = none) (hm : ∀ c, (l, ({ cls := .type "tuple", data := .seq vs.toArray nn } : Obj)) ∈ Led c) (F : Fr h₀ env.locals s.heap m₀) (N : News h₀ env.locals s.heap (Led c₀)) (hk : ∀ p ∈ ps c₀, m₀ p.1 = some p.2) (hp : P 0 c₀)
    (turn : ∀ (c : σ) i v (u : Str → Option Value) h tk I it, vs[i]? = some v → P i c → (∀ p ∈ Led c, p.1 ≠ I) →
      Fr h₀ env.locals h (fun z => if z = x then u z else kstB (fun z => if stored.contains z then u z else m₀ z) (ps c) z) → News h₀ env.locals h ((I, it) :: Led c) →
      wpAny (model prog w) A (assign target env v) (fun _ s₃ => wpAny (model prog w) A (execs body env) (TPost h₀ env.locals s Led ps x stored m₀ (P (i + 1)) I it Q) E s₃) E { s with heap := h, toks := tk })
    (done : ∀ (c : σ) (u : Str → Option Value) h tk, P vs.length c → Fr h₀ env.locals h (fun z => if z = x then u z else kstB (fun z => if stored.contains z then u z else m₀ z) (ps c) z) → News h₀ env.locals h (Led c) → Q .next { s with heap := h, toks := tk }) :
    wpAny (model prog w) A (pyIter (.ref l)) (fun it s₂ => TurnsAt prog w A h₀ env target body Q E it s₂) E s := by
  have hls : s.heap.IsTuple l vs.toArray := ⟨_, (N _ (hm c₀)).1, rfl, nn, rfl⟩
  refine wpAny_pyIter_tuple hls ?_
  have hL : env.locals ≠ s.heap.objs.size := fun e => absurd F.ns.lt (e ▸ Nat.lt_irrefl _)
  have hlt := Heap.lt_size (N _ (hm c₀)).1
  have hne : l ≠ s.heap.objs.size := Nat.ne_of_lt hlt
  refine gen_turns (x := x) Led ps stored P c₀ (KTurns.ofWalks (Walks.tuple hh s.heap.objs.size l hne vs.toArray) fun i v s Q E st q => letGo_tupleiter st.1 q) (by simp only [List.mem_cons, List.not_mem_nil, or_false, not_or]; exact ⟨hL, fun e => (N _ (hm c₀)).2.1 e.symm⟩) (next_is_new F)
    (fun b hb => by
      rcases List.mem_cons.mp hb with e | hb
      · exact .inl e
      · rw [List.mem_singleton.mp hb]; exact .inr (.inr ⟨_, hm⟩))
    ⟨⟨_, Heap.get?_push_size _ rfl, rfl, rfl⟩, hls.at fun o e => Heap.get?_push_of_some _ e⟩ (F.push _) (fun p hp => ⟨Heap.get?_push_of_some _ (N p hp).1, (N p hp).2⟩) (fun p hp => Nat.ne_of_lt (Heap.lt_size (N p hp).1)) hk hp ?_ ?_ (by simp) (fun i h hs => let ⟨o, ho, _⟩ := hs.1; ⟨o, ho⟩)
  · rintro c i v u h tk it hi hv hP hoff F' N'
    exact turn c i v u h tk _ it (by simpa using hv) hP hoff F' N'
  · intro c u h tk hP F' N' _
    exact done c u h tk (by simpa using hP) F' N'

end

end
section
theorem rst_Ways : True := by w_top off; trivial
open PyProof.Rows.LCg
structure Way where
  a : Addr
  vs : List Value
  ns : List Int
  n : Nat
noncomputable def WaysAt (ZL : List Way) (news : Led) : Prop := ∀ z ∈ ZL, (z.a, W.listOf z.vs.toArray z.n) ∈ news ∧ IntsAre z.vs z.ns
noncomputable abbrev refsOf (ZL : List Way) : List Value := ZL.map fun z => Value.ref z.a
/-- a way, carried on by each column below j that it lacks -/
noncomputable def extJ (u : List Int) (j : Nat) : List (List Int) := ((List.range j).filter fun (c : Nat) => !decide ((c : Int) ∈ u)).map fun (c : Nat) => u ++ [(c : Int)]
noncomputable def waysN : Nat → List (List Int)
  | 0 => [[]]
  | k + 1 => (waysN k).flatMap fun u => extJ u 4
noncomputable def partN (SL : List Way) (i j : Nat) : List (List Int) := ((SL.take i).map (·.ns)).flatMap (fun u => extJ u 4) ++ (match SL[i]? with | some z => extJ z.ns j | none => [])
theorem partN_next (SL : List Way) (i : Nat) : partN SL i 4 = partN SL (i + 1) 0 := by
  unfold partN
  cases h : SL[i]? with
  | none =>
    have hl : SL.length ≤ i := List.getElem?_eq_none_iff.mp h
    have h2 : SL[i + 1]? = none := List.getElem?_eq_none_iff.mpr (by omega)
    rw [h2, List.take_of_length_le hl, List.take_of_length_le (by omega)]
  | some z =>
    rw [List.take_succ, h]
    have e : ∀ u, extJ u 0 = [] := fun u => rfl
    cases h2 : SL[i + 1]? with
    | none => simp
    | some z2 => simp [e]
theorem extJ_in {u : List Int} {j : Nat} (h : (j : Int) ∈ u) : extJ u (j + 1) = extJ u j := by
  unfold extJ
  rw [List.range_succ, List.filter_append]
  simp [h]
theorem extJ_out {u : List Int} {j : Nat} (h : (j : Int) ∉ u) : extJ u (j + 1) = extJ u j ++ [u ++ [(j : Int)]] := by
  unfold extJ
  rw [List.range_succ, List.filter_append, List.map_append]
  simp [h]
/-- the comprehension's state -/
noncomputable def WJ (X : Addr × Obj) (ax : Addr) (k : Nat) (SL : List Way) (base : Led) (i j : Nat) (ys : List Value) (news : Led) : Prop :=
  ∃ (newsR : Led) (ZL : List Way), news = X :: newsR ∧ (∀ p ∈ newsR, p.1 ≠ X.1) ∧ ys = refsOf ZL ∧ WaysAt ZL newsR ∧ ZL.map (·.ns) = partN SL i j ∧ WaysAt SL newsR ∧ (ax, W.listOf (refsOf SL).toArray k) ∈ newsR ∧ (∀ p ∈ base, p ∈ newsR)
structure WSig where
  ax : Addr
  k : Nat
  SL : List Way
  more : Led
theorem law_ways (w : World) (news : Led) :
   Does w 191 3 80 news []
     (fun r news' => ∃ (ax : Addr) (k : Nat) (SL : List Way), r = .ref ax ∧ (ax, W.listOf (refsOf SL).toArray k) ∈ news' ∧ WaysAt SL news' ∧ SL.map (·.ns) = waysN 4 ∧ ∀ p ∈ news, p ∈ news') := by
  unfold Does
  intro p loose mean mg mb dp un gd cn cs ad ccd cl outer A₀ base h₀ L m s Q E B F X N T C1 C2 hk hd hu hret
  refine wpAny_call ?_
  k_dflt (refine code_def (by k_asm) (by k_asm) (by k_asm) (by k_asm) (by k_asm) (by exact rfl) (by exact rfl) (by first | exact rfl | assumption) (by k_is) (by k_is) (by ktr_room) (by first | exact BindsTo.of_eq rfl | exact kp_binds (by k_in) (fun _ => rfl)) (by exact locs rfl) ?_ (by exact rfl) (by exact rfl) (by exact rfl) (by decide); intro _ _ _ _ _ _ _ _ _; (try dsimp only); (try k_fold))
  refine st_conv (by dsimp only) ?_
  refine tk_any fun tk9 => ?_
  (repeat' (first | (k_unfold; (try dsimp only)) | (k_end; wrow_close) | ((fail_if_success with_reducible (first | refine KswEnd_stop ?_ | refine call_stop ?_ | refine pyIter_stop ?_ | refine while_stop ?_ | refine for_stop ?_ | refine def_stop ?_)); first | ((fail_if_success (fail_if_success (with_reducible refine st_guard ?_))); refine' store_L ?_ ?_ ?_ ?_ ?_ ?_ ?_; rotate_left 5; (first | dsimp only | rfl); (first | dsimp only | rfl); k_asm; k_asm; rfl; rfl; intro _ _ _; k_sweep) | ((with_reducible refine' add_led ?_ ?_ ?_ ?_ ?_ ?_); rotate_left 8; k_asm; k_asm; (first | with_reducible assumption | (refine List.Mem.tail _ ?_; with_reducible assumption)); exact List.Mem.head _; ((simp only [List.length_cons, List.length_nil]); omega); leaf_len) | walk1 | (dsimp only; first | ((fail_if_success (fail_if_success (with_reducible refine st_guard ?_))); refine' store_L ?_ ?_ ?_ ?_ ?_ ?_ ?_; rotate_left 5; (first | dsimp only | rfl); (first | dsimp only | rfl); k_asm; k_asm; rfl; rfl; intro _ _ _; k_sweep) | ((with_reducible refine' add_led ?_ ?_ ?_ ?_ ?_ ?_); rotate_left 8; k_asm; k_asm; (first | with_reducible assumption | (refine List.Mem.tail _ ?_; with_reducible assumption)); exact List.Mem.head _; ((simp only [List.length_cons, List.length_nil]); omega); leaf_len) | walk1) | (leave1; try dsimp only))))
  refine For_invVF (by k_asm) rfl rfl ?_
  (repeat' (first | (k_unfold; (try dsimp only)) | (k_end; wrow_close) | ((fail_if_success with_reducible (first | refine KswEnd_stop ?_ | refine call_stop ?_ | refine pyIter_stop ?_ | refine while_stop ?_ | refine for_stop ?_ | refine def_stop ?_)); first | ((fail_if_success (fail_if_success (with_reducible refine st_guard ?_))); refine' store_L ?_ ?_ ?_ ?_ ?_ ?_ ?_; rotate_left 5; (first | dsimp only | rfl); (first | dsimp only | rfl); k_asm; k_asm; rfl; rfl; intro _ _ _; k_sweep) | ((with_reducible refine' add_led ?_ ?_ ?_ ?_ ?_ ?_); rotate_left 8; k_asm; k_asm; (first | with_reducible assumption | (refine List.Mem.tail _ ?_; with_reducible assumption)); exact List.Mem.head _; ((simp only [List.length_cons, List.length_nil]); omega); leaf_len) | walk1 | (dsimp only; first | ((fail_if_success (fail_if_success (with_reducible refine st_guard ?_))); refine' store_L ?_ ?_ ?_ ?_ ?_ ?_ ?_; rotate_left 5; (first | dsimp only | rfl); (first | dsimp only | rfl); k_asm; k_asm; rfl; rfl; intro _ _ _; k_sweep) | ((with_reducible refine' add_led ?_ ?_ ?_ ?_ ?_ ?_); rotate_left 8; k_asm; k_asm; (first | with_reducible assumption | (refine List.Mem.tail _ ?_; with_reducible assumption)); exact List.Mem.head _; ((simp only [List.length_cons, List.length_nil]); omega); leaf_len) | walk1) | (leave1; try dsimp only))))
  rename_i g1 L1 h1 FG1 B1 X1 T1 l2 h2 l2l l3 h3 l3l h4 F1 N1 h5 tk3 t₁ u₁ v₁ hr F2 N2 hkx
  refine' loop_range (σ := WSig) (n := 4) (fun c => c.more) (fun c => [(Str.ofString "ways", .ref c.ax)]) [] (fun i c => (c.ax, W.listOf (refsOf c.SL).toArray c.k) ∈ c.more ∧ WaysAt c.SL c.more ∧ c.SL.map (·.ns) = waysN i ∧ ∀ p ∈ news, p ∈ c.more) ⟨l3, 0, [⟨l2, [], [], 0⟩], _⟩ rfl hr rfl rfl F2 N2 ?hk ?hp ?_ ?_
  case hk => kst_all
  case hp =>
    refine ⟨.head _, fun z hz => ?_, rfl, fun p hp => .tail _ (.tail _ hp)⟩
    rw [List.mem_singleton.mp hz]
    exact ⟨.tail _ (.head _), .nil⟩
  · rintro ⟨ax, k, SL, more⟩ i tk0 u h tk I it hi4 hPP hoff F'' N''
    refine q_any fun Q9 hQ9 => ?_
    refine and4 hPP ?_
    clear hPP
    intro P1 P2 P3 P4
    dsimp only [kstB] at F''
    dsimp only at P1 P2 P3 P4 N'' hoff
    (repeat' (first | (k_unfold; (try dsimp only)) | (k_end; wrow_close) | ((fail_if_success with_reducible (first | refine KswEnd_stop ?_ | refine call_stop ?_ | refine pyIter_stop ?_ | refine while_stop ?_ | refine for_stop ?_ | refine def_stop ?_)); first | ((fail_if_success (fail_if_success (with_reducible refine st_guard ?_))); refine' store_L ?_ ?_ ?_ ?_ ?_ ?_ ?_; rotate_left 5; (first | dsimp only | rfl); (first | dsimp only | rfl); k_asm; k_asm; rfl; rfl; intro _ _ _; k_sweep) | ((with_reducible refine' add_led ?_ ?_ ?_ ?_ ?_ ?_); rotate_left 8; k_asm; k_asm; (first | with_reducible assumption | (refine List.Mem.tail _ ?_; with_reducible assumption)); exact List.Mem.head _; ((simp only [List.length_cons, List.length_nil]); omega); leaf_len) | walk1 | (dsimp only; first | ((fail_if_success (fail_if_success (with_reducible refine st_guard ?_))); refine' store_L ?_ ?_ ?_ ?_ ?_ ?_ ?_; rotate_left 5; (first | dsimp only | rfl); (first | dsimp only | rfl); k_asm; k_asm; rfl; rfl; intro _ _ _; k_sweep) | ((with_reducible refine' add_led ?_ ?_ ?_ ?_ ?_ ?_); rotate_left 8; k_asm; k_asm; (first | with_reducible assumption | (refine List.Mem.tail _ ?_; with_reducible assumption)); exact List.Mem.head _; ((simp only [List.length_cons, List.length_nil]); omega); leaf_len) | walk1) | (leave1; try dsimp only))))
    have hSL : SL.length ≤ 24 := by
      have e := congrArg List.length P3
      rw [List.length_map] at e
      have h24 : ∀ i < 4, (waysN i).length ≤ 24 := by decide +kernel
      rw [e]; exact h24 i hi4
    refine assign_comp2 (n2 := 4) (its := (refsOf SL).toArray) (J := WJ (I, it) ax k SL more) (cl := []) (by k_asm) (by rfl) (by with_unfolding_all rfl) (by with_unfolding_all rfl) (by decide) (by rfl) (by decide) (by rfl) (by rfl) (by decide) (by rfl) (by rfl) (by rfl) (by simp; omega) rfl rfl (by intro _ _; rfl) (by intro _; rfl) ?HR ?T ?hJn ?h ?fin
    case hJn =>
      rintro i ys news ⟨newsR, ZL, e1, e2, e3, e4, e5, e6⟩
      exact ⟨newsR, ZL, e1, e2, e3, e4, by rw [e5, partN_next], e6⟩
    case HR =>
      intro C oC m₂ h tk news' E' hC FF NN
      (repeat' (first | (k_unfold; (try dsimp only)) | (k_end; wrow_close) | ((fail_if_success with_reducible (first | refine KswEnd_stop ?_ | refine call_stop ?_ | refine pyIter_stop ?_ | refine while_stop ?_ | refine for_stop ?_ | refine def_stop ?_)); first | ((fail_if_success (fail_if_success (with_reducible refine st_guard ?_))); refine' store_L ?_ ?_ ?_ ?_ ?_ ?_ ?_; rotate_left 5; (first | dsimp only | rfl); (first | dsimp only | rfl); k_asm; k_asm; rfl; rfl; intro _ _ _; k_sweep) | ((with_reducible refine' add_led ?_ ?_ ?_ ?_ ?_ ?_); rotate_left 8; k_asm; k_asm; (first | with_reducible assumption | (refine List.Mem.tail _ ?_; with_reducible assumption)); exact List.Mem.head _; ((simp only [List.length_cons, List.length_nil]); omega); leaf_len) | walk1 | (dsimp only; first | ((fail_if_success (fail_if_success (with_reducible refine st_guard ?_))); refine' store_L ?_ ?_ ?_ ?_ ?_ ?_ ?_; rotate_left 5; (first | dsimp only | rfl); (first | dsimp only | rfl); k_asm; k_asm; rfl; rfl; intro _ _ _; k_sweep) | ((with_reducible refine' add_led ?_ ?_ ?_ ?_ ?_ ?_); rotate_left 8; k_asm; k_asm; (first | with_reducible assumption | (refine List.Mem.tail _ ?_; with_reducible assumption)); exact List.Mem.head _; ((simp only [List.length_cons, List.length_nil]); omega); leaf_len) | walk1) | (leave1; try dsimp only))))
      rename_i hkk b9 o9 e9
      exact hkk _ _ e9
    case T =>
      intro ax' I' i' v oI hi' hv j ys newsI I2 oI2 C oC D m₂ h tk t E' hj hInv hC hx hy FF NN off nn
      obtain ⟨news0, rfl, ⟨newsR, ZL, rfl, e2, rfl, e4, e5, e6, e7, e8⟩, hS, hoffI⟩ := hInv
      obtain ⟨z, hz, rfl⟩ : ∃ z, SL[i']? = some z ∧ v = .ref z.a := by
        have h1 : ((refsOf SL)[i']?) = some v := by simpa using hv
        rw [List.getElem?_map] at h1
        cases h2 : SL[i']? with
        | none => rw [h2] at h1; cases h1
        | some z => rw [h2] at h1; exact ⟨z, rfl, (Option.some.inj h1).symm⟩
      obtain ⟨hz1, hz2⟩ := e6 z (List.mem_of_getElem? hz)
      have hz4 : z.vs.length ≤ 4 := by
        have h24 : ∀ i < 4, ∀ u ∈ waysN i, u.length ≤ 4 := by decide +kernel
        rw [hz2.length]
        refine h24 i hi4 _ ?_
        rw [← P3]
        exact List.mem_map_of_mem (List.mem_of_getElem? hz)
      have hz3 : (z.a, W.listOf z.vs.toArray z.n) ∈ (I2, oI2) :: (C, oC) :: (D, lst (refsOf ZL)) :: (I', oI) :: (I, it) :: newsR := .tail _ (.tail _ (.tail _ (.tail _ (.tail _ hz1))))
      (repeat' (first | (k_unfold; (try dsimp only)) | (k_end; wrow_close) | ((fail_if_success with_reducible (first | refine KswEnd_stop ?_ | refine call_stop ?_ | refine pyIter_stop ?_ | refine while_stop ?_ | refine for_stop ?_ | refine def_stop ?_)); first | ((fail_if_success (fail_if_success (with_reducible refine st_guard ?_))); refine' store_L ?_ ?_ ?_ ?_ ?_ ?_ ?_; rotate_left 5; (first | dsimp only | rfl); (first | dsimp only | rfl); k_asm; k_asm; rfl; rfl; intro _ _ _; k_sweep) | ((with_reducible refine' add_led ?_ ?_ ?_ ?_ ?_ ?_); rotate_left 8; k_asm; k_asm; (first | with_reducible assumption | (refine List.Mem.tail _ ?_; with_reducible assumption)); exact List.Mem.head _; ((simp only [List.length_cons, List.length_nil]); omega); leaf_len) | walk1 | (dsimp only; first | ((fail_if_success (fail_if_success (with_reducible refine st_guard ?_))); refine' store_L ?_ ?_ ?_ ?_ ?_ ?_ ?_; rotate_left 5; (first | dsimp only | rfl); (first | dsimp only | rfl); k_asm; k_asm; rfl; rfl; intro _ _ _; k_sweep) | ((with_reducible refine' add_led ?_ ?_ ?_ ?_ ?_ ?_); rotate_left 8; k_asm; k_asm; (first | with_reducible assumption | (refine List.Mem.tail _ ?_; with_reducible assumption)); exact List.Mem.head _; ((simp only [List.length_cons, List.length_nil]); omega); leaf_len) | walk1) | (leave1; try dsimp only))))
      refine notin_list_ints ⟨_, (NN _ hz3).1, rfl, _, rfl⟩ hz2 ?_
      have hb : (!(z.ns.any (· == (0 + (j : Int))))) = !decide ((j : Int) ∈ z.ns) := by
        rw [Int.zero_add]
        congr 1
        rw [Bool.eq_iff_iff, List.any_eq_true, decide_eq_true_iff]
        constructor
        · rintro ⟨q, hq, e⟩; rw [← eq_of_beq e]; exact hq
        · intro hq; exact ⟨_, hq, beq_self_eq_true _⟩
      rw [hb]
      by_cases hin : (j : Int) ∈ z.ns
      · rw [decide_eq_true hin]
        (repeat' (first | (k_unfold; (try dsimp only)) | (k_end; wrow_close) | ((fail_if_success with_reducible (first | refine KswEnd_stop ?_ | refine call_stop ?_ | refine pyIter_stop ?_ | refine while_stop ?_ | refine for_stop ?_ | refine def_stop ?_)); first | ((fail_if_success (fail_if_success (with_reducible refine st_guard ?_))); refine' store_L ?_ ?_ ?_ ?_ ?_ ?_ ?_; rotate_left 5; (first | dsimp only | rfl); (first | dsimp only | rfl); k_asm; k_asm; rfl; rfl; intro _ _ _; k_sweep) | ((with_reducible refine' add_led ?_ ?_ ?_ ?_ ?_ ?_); rotate_left 8; k_asm; k_asm; (first | with_reducible assumption | (refine List.Mem.tail _ ?_; with_reducible assumption)); exact List.Mem.head _; ((simp only [List.length_cons, List.length_nil]); omega); leaf_len) | walk1 | (dsimp only; first | ((fail_if_success (fail_if_success (with_reducible refine st_guard ?_))); refine' store_L ?_ ?_ ?_ ?_ ?_ ?_ ?_; rotate_left 5; (first | dsimp only | rfl); (first | dsimp only | rfl); k_asm; k_asm; rfl; rfl; intro _ _ _; k_sweep) | ((with_reducible refine' add_led ?_ ?_ ?_ ?_ ?_ ?_); rotate_left 8; k_asm; k_asm; (first | with_reducible assumption | (refine List.Mem.tail _ ?_; with_reducible assumption)); exact List.Mem.head _; ((simp only [List.length_cons, List.length_nil]); omega); leaf_len) | walk1) | (leave1; try dsimp only))))
        refine CompEnd.intro FF NN _ (fun p h => h) off trivial ⟨(I, it) :: newsR, rfl, ⟨newsR, ZL, rfl, e2, rfl, e4, ?_, e6, e7, e8⟩, hS, hoffI⟩
        rw [e5]
        unfold partN
        rw [hz]
        dsimp only
        rw [extJ_in hin]
      · rw [decide_eq_false hin]
        (repeat' (first | (k_unfold; (try dsimp only)) | (k_end; wrow_close) | ((fail_if_success with_reducible (first | refine KswEnd_stop ?_ | refine call_stop ?_ | refine pyIter_stop ?_ | refine while_stop ?_ | refine for_stop ?_ | refine def_stop ?_)); first | ((fail_if_success (fail_if_success (with_reducible refine st_guard ?_))); refine' store_L ?_ ?_ ?_ ?_ ?_ ?_ ?_; rotate_left 5; (first | dsimp only | rfl); (first | dsimp only | rfl); k_asm; k_asm; rfl; rfl; intro _ _ _; k_sweep) | ((with_reducible refine' add_led ?_ ?_ ?_ ?_ ?_ ?_); rotate_left 8; k_asm; k_asm; (first | with_reducible assumption | (refine List.Mem.tail _ ?_; with_reducible assumption)); exact List.Mem.head _; ((simp only [List.length_cons, List.length_nil]); omega); leaf_len) | walk1 | (dsimp only; first | ((fail_if_success (fail_if_success (with_reducible refine st_guard ?_))); refine' store_L ?_ ?_ ?_ ?_ ?_ ?_ ?_; rotate_left 5; (first | dsimp only | rfl); (first | dsimp only | rfl); k_asm; k_asm; rfl; rfl; intro _ _ _; k_sweep) | ((with_reducible refine' add_led ?_ ?_ ?_ ?_ ?_ ?_); rotate_left 8; k_asm; k_asm; (first | with_reducible assumption | (refine List.Mem.tail _ ?_; with_reducible assumption)); exact List.Mem.head _; ((simp only [List.length_cons, List.length_nil]); omega); leaf_len) | walk1) | (leave1; try dsimp only))))
        rename_i l5 h6 F6 N6 l6
        refine add_led F6 N6 (.tail _ hz3) (.head _) (by simp only [List.length_cons, List.length_nil]; omega) fun D7 h7 F7 N7 l7 => ?_
        k_lt l7
        refine CompEnd.intro F7 N7 ((I', oI) :: (I, it) :: (D7, W.listOf (z.vs ++ [Value.int (0 + (j : Int)) t]).toArray 0) :: newsR) ?_ ⟨off.1, off.2.1, ⟨by k_ne, by k_ne, by k_ne⟩, off.2.2⟩ ?_ ?_
        rotate_left
        · exact trivial
        refine ⟨(I, it) :: (D7, W.listOf (z.vs ++ [Value.int (0 + (j : Int)) t]).toArray 0) :: newsR, rfl, ⟨(D7, W.listOf (z.vs ++ [Value.int (0 + (j : Int)) t]).toArray 0) :: newsR, ZL ++ [⟨D7, z.vs ++ [Value.int (0 + (j : Int)) t], z.ns ++ [0 + (j : Int)], 0⟩], rfl, fa_cons (by k_ne) e2, ?_, ?_, ?_, ?_, .tail _ e7, fun p hp => .tail _ (e8 p hp)⟩, ?_, ?_⟩
        · simp
        · intro y hy
          rcases List.mem_append.mp hy with hy | hy
          · exact ⟨.tail _ (e4 y hy).1, (e4 y hy).2⟩
          · rw [List.mem_singleton.mp hy]
            exact ⟨.head _, intsAre_append hz2 (.cons _ _ .nil)⟩
        · rw [List.map_append, e5]
          unfold partN
          rw [hz]
          dsimp only
          rw [extJ_out hin, List.append_assoc, Int.zero_add]
          rfl
        · exact fun y hy => ⟨.tail _ (e6 y hy).1, (e6 y hy).2⟩
        · rcases hS with h | ⟨o, hm, r⟩
          · exact .inl h
          · refine .inr ⟨o, ?_, r⟩
            rcases List.mem_cons.mp hm with h | h
            · exact h ▸ .head _
            · exact .tail _ (.tail _ h)
        · exact fa_cons (hoffI _ (.head _)) (fa_cons (by k_ne) (fun p hp => hoffI p (.tail _ hp)))
        · intro p hp
          simp only [List.mem_cons] at hp ⊢
          rcases hp with h | h | h | h | h | h | h <;> simp [h]
    case h =>
      walk1
      refine ⟨ax, (I, it) :: more, h, tk, rfl, rfl, F'', N'', .inr ⟨_, .tail _ P1, rfl, _, rfl⟩, more, [], rfl, hoff, rfl, (fun z hz => nomatch hz), ?_, P2, P1, fun p hp => hp⟩
      unfold partN
      cases SL[0]? <;> rfl
    case fin =>
      intro D h tk ys news' FF NN off hJ
      obtain ⟨newsR, ZL, rfl, e2, rfl, e4, e5, e6, e7, e8⟩ := hJ
      (repeat' (first | (k_unfold; (try dsimp only)) | (k_end; wrow_close) | ((fail_if_success with_reducible (first | refine KswEnd_stop ?_ | refine call_stop ?_ | refine pyIter_stop ?_ | refine while_stop ?_ | refine for_stop ?_ | refine def_stop ?_)); first | ((fail_if_success (fail_if_success (with_reducible refine st_guard ?_))); refine' store_L ?_ ?_ ?_ ?_ ?_ ?_ ?_; rotate_left 5; (first | dsimp only | rfl); (first | dsimp only | rfl); k_asm; k_asm; rfl; rfl; intro _ _ _; k_sweep) | ((with_reducible refine' add_led ?_ ?_ ?_ ?_ ?_ ?_); rotate_left 8; k_asm; k_asm; (first | with_reducible assumption | (refine List.Mem.tail _ ?_; with_reducible assumption)); exact List.Mem.head _; ((simp only [List.length_cons, List.length_nil]); omega); leaf_len) | walk1 | (dsimp only; first | ((fail_if_success (fail_if_success (with_reducible refine st_guard ?_))); refine' store_L ?_ ?_ ?_ ?_ ?_ ?_ ?_; rotate_left 5; (first | dsimp only | rfl); (first | dsimp only | rfl); k_asm; k_asm; rfl; rfl; intro _ _ _; k_sweep) | ((with_reducible refine' add_led ?_ ?_ ?_ ?_ ?_ ?_); rotate_left 8; k_asm; k_asm; (first | with_reducible assumption | (refine List.Mem.tail _ ?_; with_reducible assumption)); exact List.Mem.head _; ((simp only [List.length_cons, List.length_nil]); omega); leaf_len) | walk1) | (leave1; try dsimp only))))
      refine hQ9 _ _ ?_
      refine tpost_next (tend ⟨D, _, ZL, (D, lst (refsOf ZL)) :: newsR⟩ FF NN (.tail _ (.head _)) ?_ ?_ (by kst_all) (by kst_same) ⟨.head _, fun z hz => ⟨.tail _ (e4 z hz).1, (e4 z hz).2⟩, ?_, fun p hp => .tail _ (e8 p (P4 p hp))⟩)
      · intro p hp
        rcases List.mem_cons.mp hp with h | h
        · exact h ▸ .head _
        · exact .tail _ (.tail _ h)
      · exact fa_cons (fun h => off.1 h.symm) e2
      · rw [e5]
        unfold partN
        have hl : (refsOf SL).toArray.size = SL.length := by simp
        rw [hl, List.take_length, P3, List.getElem?_eq_none_iff.mpr (Nat.le_refl _), List.append_nil]
        rfl
  · rintro ⟨ax, k, SL, more⟩ u h tk hPP F'' N''
    refine and4 hPP ?_
    clear hPP
    intro P1 P2 P3 P4
    dsimp only [kstB] at F''
    dsimp only at P1 P2 P3 P4 N''
    (repeat' (first | (k_unfold; (try dsimp only)) | (k_end; wrow_close) | ((fail_if_success with_reducible (first | refine KswEnd_stop ?_ | refine call_stop ?_ | refine pyIter_stop ?_ | refine while_stop ?_ | refine for_stop ?_ | refine def_stop ?_)); first | ((fail_if_success (fail_if_success (with_reducible refine st_guard ?_))); refine' store_L ?_ ?_ ?_ ?_ ?_ ?_ ?_; rotate_left 5; (first | dsimp only | rfl); (first | dsimp only | rfl); k_asm; k_asm; rfl; rfl; intro _ _ _; k_sweep) | ((with_reducible refine' add_led ?_ ?_ ?_ ?_ ?_ ?_); rotate_left 8; k_asm; k_asm; (first | with_reducible assumption | (refine List.Mem.tail _ ?_; with_reducible assumption)); exact List.Mem.head _; ((simp only [List.length_cons, List.length_nil]); omega); leaf_len) | walk1 | (dsimp only; first | ((fail_if_success (fail_if_success (with_reducible refine st_guard ?_))); refine' store_L ?_ ?_ ?_ ?_ ?_ ?_ ?_; rotate_left 5; (first | dsimp only | rfl); (first | dsimp only | rfl); k_asm; k_asm; rfl; rfl; intro _ _ _; k_sweep) | ((with_reducible refine' add_led ?_ ?_ ?_ ?_ ?_ ?_); rotate_left 8; k_asm; k_asm; (first | with_reducible assumption | (refine List.Mem.tail _ ?_; with_reducible assumption)); exact List.Mem.head _; ((simp only [List.length_cons, List.length_nil]); omega); leaf_len) | walk1) | (leave1; try dsimp only))))
    exact hret _ _ _ _ (by k_asm) (by k_asm) ⟨_, _, _, rfl, P1, P2, P3, P4⟩

end
section
theorem rst_Figs : True := by w_top off; trivial

open PyProof.Rows.LCg PyProof.Rows.LCt
/-- how many columns of the way hold a cell -/
noncomputable def heldN (cells u : List Int) : Nat := ((List.range 4).filter fun i => decide (u.getD i 0 < cells.getD i 0)).length
noncomputable def cntN (cells : List Int) (ws : List (List Int)) : List Int := (List.range 5).map fun k => (((ws.filter fun u => heldN cells u == k).length : Nat) : Int)
theorem heldN_le (cells u : List Int) : heldN cells u ≤ 4 := Nat.le_trans (List.length_filter_le _ _) (by rw [List.length_range]; omega)
theorem cntN_snoc (cells : List Int) (ws : List (List Int)) (u : List Int) : cntN cells (ws ++ [u]) = (cntN cells ws).set (heldN cells u) ((cntN cells ws).getD (heldN cells u) 0 + 1) := by
  have h := heldN_le cells u
  generalize hk : heldN cells u = k at h
  have hf : ∀ j, ((ws ++ [u]).filter fun u => heldN cells u == j).length = (ws.filter fun u => heldN cells u == j).length + (if k = j then 1 else 0) := by
    intro j
    rw [List.filter_append, List.length_append, List.filter_cons, hk]
    by_cases e : k = j
    · rw [if_pos e, if_pos (by rw [e]; exact beq_self_eq_true _)]; rfl
    · rw [if_neg e, if_neg (by rw [beq_iff_eq]; exact e)]; rfl
  unfold cntN
  simp only [hf]
  have e5 : List.range 5 = [0, 1, 2, 3, 4] := rfl
  rw [e5]
  simp only [List.map_cons, List.map_nil]
  have h5 : k = 0 ∨ k = 1 ∨ k = 2 ∨ k = 3 ∨ k = 4 := lt_five k (by omega)
  rcases h5 with rfl | rfl | rfl | rfl | rfl <;> simp
/-- with no noughts at its end -/
noncomputable def stripZ (l : List Int) : List Int := (l.reverse.dropWhile (· == 0)).reverse
theorem stripZ_drop (l : List Int) : stripZ (l ++ [0]) = stripZ l := by
  unfold stripZ
  rw [List.reverse_append]
  rfl
theorem stripZ_last (l : List Int) (x : Int) (h : x ≠ 0) : stripZ (l ++ [x]) = l ++ [x] := by
  unfold stripZ
  rw [List.reverse_append]
  have e : ([x].reverse ++ l.reverse).dropWhile (· == 0) = x :: l.reverse := by
    show (x :: l.reverse).dropWhile (· == 0) = _
    rw [List.dropWhile_cons, if_neg (by rw [beq_iff_eq]; exact h)]
  rw [e, List.reverse_cons, List.reverse_reverse]
structure FSig where
  vs : List Value
  ns : List Int
  o : Obj
structure PSig where
  vs : List Value
  n : Nat
  ns : List Int
theorem law_figures (w : World) (news : Led) (ax l : Addr) (k n : Nat) (SL : List Way) (vs : List Value) (ns : List Int) (hw : (ax, W.listOf (refsOf SL).toArray k) ∈ news) (hS : WaysAt SL news) (hl : (l, W.listOf vs.toArray n) ∈ news) (hi : IntsAre vs ns) (hn : ns.length = 4) (h4 : ∀ z ∈ SL, z.ns.length = 4) (hnz : ∃ x ∈ cntN ns (SL.map (·.ns)), x ≠ 0) (hsz : SL.length ≤ 100) :
   Does w 196 3 90 news [.ref ax, .ref l]
     (fun r news' => ∃ D vs k, r = .ref D ∧ news' = (D, W.listOf vs.toArray k) :: news ∧ (∀ p ∈ news, p.1 ≠ D) ∧ IntsAre vs (stripZ (cntN ns (SL.map (·.ns))))) := by
  unfold Does
  intro p loose mean mg mb dp un gd cn cs ad ccd cl outer A₀ base h₀ L m s Q E B F X N T C1 C2 hk hd hu hret
  refine wpAny_call ?_
  k_dflt (refine code_defC (by k_asm) (by k_asm) (by k_asm) (by k_asm) (by k_asm) (by exact rfl) (by exact rfl) (by first | exact rfl | assumption) (by k_is) (by k_is) (by ktr_room) (by first | exact BindsTo.of_eq rfl | exact kp_binds (by k_in) (fun _ => rfl)) (by exact rfl) (by decide +kernel) ?_ (by exact rfl) (by exact rfl) (by exact rfl); (intro _ _ _ _ _ _ _ N1 Y1 _ _ _ hl; (try k_lt hl); k_cells Y1; (try simp only [List.cons_append, List.nil_append] at N1); (try dsimp only); (try k_fold)))
  refine st_conv (by dsimp only) ?_
  refine tk_any fun tk9 => ?_
  (repeat' (first | (k_unfold; (try dsimp only)) | (k_end; wrow_close) | ((fail_if_success with_reducible (first | refine KswEnd_stop ?_ | refine call_stop ?_ | refine pyIter_stop ?_ | refine while_stop ?_ | refine for_stop ?_ | refine def_stop ?_ | refine CompSrcT_stop ?_ | refine CompSrc_stop ?_ | refine lca_stop ?_ | refine lce_stop ?_)); first | ((fail_if_success (fail_if_success (with_reducible refine st_guard ?_))); refine' store_L ?_ ?_ ?_ ?_ ?_ ?_ ?_; rotate_left 5; (first | dsimp only | rfl); (first | dsimp only | rfl); k_asm; k_asm; rfl; rfl; intro _ _ _; k_sweep) | ((with_reducible refine' len_led ?_ ?_ ?_ ?_); rotate_left 5; k_asm; k_mem; ((try simp only [List.length_replicate]); omega)) | ((with_reducible refine' item_int ?_ ?_ ?_ ?_ ?_ ?_ ?_ ?_); rotate_left 6; k_asm; (first | k_asm | k_mem); k_asm; (first | exact ix0 _ | omega); (first | (refine ix1 ?_ ?_ <;> assumption) | omega | (simp only [List.length_append, List.length_cons, List.length_nil]; omega)); (first | omega | (simp only [List.length_append, List.length_cons, List.length_nil]; omega)); rotate_left; with_unfolding_all rfl; intro _) | walk1 | (dsimp only; first | ((fail_if_success (fail_if_success (with_reducible refine st_guard ?_))); refine' store_L ?_ ?_ ?_ ?_ ?_ ?_ ?_; rotate_left 5; (first | dsimp only | rfl); (first | dsimp only | rfl); k_asm; k_asm; rfl; rfl; intro _ _ _; k_sweep) | ((with_reducible refine' len_led ?_ ?_ ?_ ?_); rotate_left 5; k_asm; k_mem; ((try simp only [List.length_replicate]); omega)) | ((with_reducible refine' item_int ?_ ?_ ?_ ?_ ?_ ?_ ?_ ?_); rotate_left 6; k_asm; (first | k_asm | k_mem); k_asm; (first | exact ix0 _ | omega); (first | (refine ix1 ?_ ?_ <;> assumption) | omega | (simp only [List.length_append, List.length_cons, List.length_nil]; omega)); (first | omega | (simp only [List.length_append, List.length_cons, List.length_nil]; omega)); rotate_left; with_unfolding_all rfl; intro _) | walk1) | (leave1; try dsimp only))))
  refine For_turns (by k_asm) ?_
  (repeat' (first | (k_unfold; (try dsimp only)) | (k_end; wrow_close) | ((fail_if_success with_reducible (first | refine KswEnd_stop ?_ | refine call_stop ?_ | refine pyIter_stop ?_ | refine while_stop ?_ | refine for_stop ?_ | refine def_stop ?_ | refine CompSrcT_stop ?_ | refine CompSrc_stop ?_ | refine lca_stop ?_ | refine lce_stop ?_)); first | ((fail_if_success (fail_if_success (with_reducible refine st_guard ?_))); refine' store_L ?_ ?_ ?_ ?_ ?_ ?_ ?_; rotate_left 5; (first | dsimp only | rfl); (first | dsimp only | rfl); k_asm; k_asm; rfl; rfl; intro _ _ _; k_sweep) | ((with_reducible refine' len_led ?_ ?_ ?_ ?_); rotate_left 5; k_asm; k_mem; ((try simp only [List.length_replicate]); omega)) | ((with_reducible refine' item_int ?_ ?_ ?_ ?_ ?_ ?_ ?_ ?_); rotate_left 6; k_asm; (first | k_asm | k_mem); k_asm; (first | exact ix0 _ | omega); (first | (refine ix1 ?_ ?_ <;> assumption) | omega | (simp only [List.length_append, List.length_cons, List.length_nil]; omega)); (first | omega | (simp only [List.length_append, List.length_cons, List.length_nil]; omega)); rotate_left; with_unfolding_all rfl; intro _) | walk1 | (dsimp only; first | ((fail_if_success (fail_if_success (with_reducible refine st_guard ?_))); refine' store_L ?_ ?_ ?_ ?_ ?_ ?_ ?_; rotate_left 5; (first | dsimp only | rfl); (first | dsimp only | rfl); k_asm; k_asm; rfl; rfl; intro _ _ _; k_sweep) | ((with_reducible refine' len_led ?_ ?_ ?_ ?_); rotate_left 5; k_asm; k_mem; ((try simp only [List.length_replicate]); omega)) | ((with_reducible refine' item_int ?_ ?_ ?_ ?_ ?_ ?_ ?_ ?_); rotate_left 6; k_asm; (first | k_asm | k_mem); k_asm; (first | exact ix0 _ | omega); (first | (refine ix1 ?_ ?_ <;> assumption) | omega | (simp only [List.length_append, List.length_cons, List.length_nil]; omega)); (first | omega | (simp only [List.length_append, List.length_cons, List.length_nil]; omega)); rotate_left; with_unfolding_all rfl; intro _) | walk1) | (leave1; try dsimp only))))
  rename_i g1 L1 h1 tk1 FG1 B1 X1 T1 oW oC dW dC lF h2 l2 h3 F3 N3
  have l1 := hl
  refine' turns_led (x := Str.ofString "way") (σ := FSig) (fun c => (lF, W.listOf c.vs.toArray 0) :: (L1 + 1 + 1, c.o) :: (L1 + 1, oC) :: news) (fun _ => []) [] (fun i c => (∃ v, c.o.data = .cell v) ∧ IntsAre c.vs c.ns ∧ c.ns = cntN ns ((SL.take i).map (·.ns))) ⟨_, [0, 0, 0, 0, 0], oW⟩ rfl (fun c => .tail _ (.tail _ (.tail _ hw))) F3 N3 ?hk ?hp ?_ ?_
  case hk => kst_all
  case hp => exact ⟨⟨_, dW⟩, .cons _ _ (.cons _ _ (.cons _ _ (.cons _ _ (.cons _ _ .nil)))), rfl⟩
  · rintro ⟨vF, nF, o⟩ i v u h tk I it hv ⟨⟨v0, P1⟩, P2, P3⟩ hoff F'' N''
    dsimp only [kstB] at F''
    dsimp only at P1 P2 P3 N'' hoff
    obtain ⟨z, hz, rfl⟩ : ∃ z, SL[i]? = some z ∧ v = .ref z.a := by
      rw [List.getElem?_map] at hv
      cases h2 : SL[i]? with
      | none => rw [h2] at hv; cases hv
      | some z => rw [h2] at hv; exact ⟨z, rfl, (Option.some.inj hv).symm⟩
    obtain ⟨hz1, hz2⟩ := hS z (List.mem_of_getElem? hz)
    have hz4 := h4 z (List.mem_of_getElem? hz)
    have F7 : Fr g1 L1 h _ := F''
    have N7 : News g1 L1 h ((I, it) :: (lF, W.listOf vF.toArray 0) :: (L1 + 1 + 1, o) :: (L1 + 1, oC) :: news) := N''
    clear F'' N''
    have nI : @Ne Nat I (L1 + 1 + 1) := fun e => hoff _ (.tail _ (.head _)) e.symm
    have nFn : @Ne Nat lF (L1 + 1 + 1) := by omega
    have nO : ∀ p ∈ ((L1 + 1, oC) :: news), p.1 ≠ L1 + 1 + 1 := fa_cons (Nat.ne_of_lt (Nat.lt_succ_self _)) (fun p hp => Nat.ne_of_lt (Nat.lt_of_lt_of_le (l1 p hp) (Nat.le_add_right L1 2)))
    (repeat' (first | (k_unfold; (try dsimp only)) | (k_end; wrow_close) | ((fail_if_success with_reducible (first | refine KswEnd_stop ?_ | refine call_stop ?_ | refine pyIter_stop ?_ | refine while_stop ?_ | refine for_stop ?_ | refine def_stop ?_ | refine CompSrcT_stop ?_ | refine CompSrc_stop ?_ | refine lca_stop ?_ | refine lce_stop ?_)); first | ((fail_if_success (fail_if_success (with_reducible refine st_guard ?_))); refine' store_L ?_ ?_ ?_ ?_ ?_ ?_ ?_; rotate_left 5; (first | dsimp only | rfl); (first | dsimp only | rfl); k_asm; k_asm; rfl; rfl; intro _ _ _; k_sweep) | ((with_reducible refine' len_led ?_ ?_ ?_ ?_); rotate_left 5; k_asm; k_mem; ((try simp only [List.length_replicate]); omega)) | ((with_reducible refine' item_int ?_ ?_ ?_ ?_ ?_ ?_ ?_ ?_); rotate_left 6; k_asm; (first | k_asm | k_mem); k_asm; (first | exact ix0 _ | omega); (first | (refine ix1 ?_ ?_ <;> assumption) | omega | (simp only [List.length_append, List.length_cons, List.length_nil]; omega)); (first | omega | (simp only [List.length_append, List.length_cons, List.length_nil]; omega)); rotate_left; with_unfolding_all rfl; intro _) | walk1 | (dsimp only; first | ((fail_if_success (fail_if_success (with_reducible refine st_guard ?_))); refine' store_L ?_ ?_ ?_ ?_ ?_ ?_ ?_; rotate_left 5; (first | dsimp only | rfl); (first | dsimp only | rfl); k_asm; k_asm; rfl; rfl; intro _ _ _; k_sweep) | ((with_reducible refine' len_led ?_ ?_ ?_ ?_); rotate_left 5; k_asm; k_mem; ((try simp only [List.length_replicate]); omega)) | ((with_reducible refine' item_int ?_ ?_ ?_ ?_ ?_ ?_ ?_ ?_); rotate_left 6; k_asm; (first | k_asm | k_mem); k_asm; (first | exact ix0 _ | omega); (first | (refine ix1 ?_ ?_ <;> assumption) | omega | (simp only [List.length_append, List.length_cons, List.length_nil]; omega)); (first | omega | (simp only [List.length_append, List.length_cons, List.length_nil]; omega)); rotate_left; with_unfolding_all rfl; intro _) | walk1) | (leave1; try dsimp only))))
    (refine' storeX_C F7 N7 ?c (UpdF.tail nI (UpdF.tail nFn (UpdF.head nO))) P1 ?_ ?a ?b; (case a => rfl); (case b => rfl); (case c => rfl))
    intro h4 o4 F4 N4 d4
    have N5 : News g1 L1 h4 ((I, it) :: (lF, W.listOf vF.toArray 0) :: (L1 + 1 + 1, o4) :: (L1 + 1, oC) :: news) := N4
    clear N4 N7 F7
    (repeat' (first | (k_unfold; (try dsimp only)) | (k_end; wrow_close) | ((fail_if_success with_reducible (first | refine KswEnd_stop ?_ | refine call_stop ?_ | refine pyIter_stop ?_ | refine while_stop ?_ | refine for_stop ?_ | refine def_stop ?_ | refine CompSrcT_stop ?_ | refine CompSrc_stop ?_ | refine lca_stop ?_ | refine lce_stop ?_)); first | ((fail_if_success (fail_if_success (with_reducible refine st_guard ?_))); refine' store_L ?_ ?_ ?_ ?_ ?_ ?_ ?_; rotate_left 5; (first | dsimp only | rfl); (first | dsimp only | rfl); k_asm; k_asm; rfl; rfl; intro _ _ _; k_sweep) | ((with_reducible refine' len_led ?_ ?_ ?_ ?_); rotate_left 5; k_asm; k_mem; ((try simp only [List.length_replicate]); omega)) | ((with_reducible refine' item_int ?_ ?_ ?_ ?_ ?_ ?_ ?_ ?_); rotate_left 6; k_asm; (first | k_asm | k_mem); k_asm; (first | exact ix0 _ | omega); (first | (refine ix1 ?_ ?_ <;> assumption) | omega | (simp only [List.length_append, List.length_cons, List.length_nil]; omega)); (first | omega | (simp only [List.length_append, List.length_cons, List.length_nil]; omega)); rotate_left; with_unfolding_all rfl; intro _) | walk1 | (dsimp only; first | ((fail_if_success (fail_if_success (with_reducible refine st_guard ?_))); refine' store_L ?_ ?_ ?_ ?_ ?_ ?_ ?_; rotate_left 5; (first | dsimp only | rfl); (first | dsimp only | rfl); k_asm; k_asm; rfl; rfl; intro _ _ _; k_sweep) | ((with_reducible refine' len_led ?_ ?_ ?_ ?_); rotate_left 5; k_asm; k_mem; ((try simp only [List.length_replicate]); omega)) | ((with_reducible refine' item_int ?_ ?_ ?_ ?_ ?_ ?_ ?_ ?_); rotate_left 6; k_asm; (first | k_asm | k_mem); k_asm; (first | exact ix0 _ | omega); (first | (refine ix1 ?_ ?_ <;> assumption) | omega | (simp only [List.length_append, List.length_cons, List.length_nil]; omega)); (first | omega | (simp only [List.length_append, List.length_cons, List.length_nil]; omega)); rotate_left; with_unfolding_all rfl; intro _) | walk1) | (leave1; try dsimp only))))
    refine LCt.ListComp_T (F₀ := by k_asm) (by with_unfolding_all rfl) (by decide) (by rfl) (by decide) (by rfl) ?_
    (repeat' (first | (k_unfold; (try dsimp only)) | (k_end; wrow_close) | ((fail_if_success with_reducible (first | refine KswEnd_stop ?_ | refine call_stop ?_ | refine pyIter_stop ?_ | refine while_stop ?_ | refine for_stop ?_ | refine def_stop ?_ | refine CompSrcT_stop ?_ | refine CompSrc_stop ?_ | refine lca_stop ?_ | refine lce_stop ?_)); first | ((fail_if_success (fail_if_success (with_reducible refine st_guard ?_))); refine' store_L ?_ ?_ ?_ ?_ ?_ ?_ ?_; rotate_left 5; (first | dsimp only | rfl); (first | dsimp only | rfl); k_asm; k_asm; rfl; rfl; intro _ _ _; k_sweep) | ((with_reducible refine' len_led ?_ ?_ ?_ ?_); rotate_left 5; k_asm; k_mem; ((try simp only [List.length_replicate]); omega)) | ((with_reducible refine' item_int ?_ ?_ ?_ ?_ ?_ ?_ ?_ ?_); rotate_left 6; k_asm; (first | k_asm | k_mem); k_asm; (first | exact ix0 _ | omega); (first | (refine ix1 ?_ ?_ <;> assumption) | omega | (simp only [List.length_append, List.length_cons, List.length_nil]; omega)); (first | omega | (simp only [List.length_append, List.length_cons, List.length_nil]; omega)); rotate_left; with_unfolding_all rfl; intro _) | walk1 | (dsimp only; first | ((fail_if_success (fail_if_success (with_reducible refine st_guard ?_))); refine' store_L ?_ ?_ ?_ ?_ ?_ ?_ ?_; rotate_left 5; (first | dsimp only | rfl); (first | dsimp only | rfl); k_asm; k_asm; rfl; rfl; intro _ _ _; k_sweep) | ((with_reducible refine' len_led ?_ ?_ ?_ ?_); rotate_left 5; k_asm; k_mem; ((try simp only [List.length_replicate]); omega)) | ((with_reducible refine' item_int ?_ ?_ ?_ ?_ ?_ ?_ ?_ ?_); rotate_left 6; k_asm; (first | k_asm | k_mem); k_asm; (first | exact ix0 _ | omega); (first | (refine ix1 ?_ ?_ <;> assumption) | omega | (simp only [List.length_append, List.length_cons, List.length_nil]; omega)); (first | omega | (simp only [List.length_append, List.length_cons, List.length_nil]; omega)); rotate_left; with_unfolding_all rfl; intro _) | walk1) | (leave1; try dsimp only))))
    rename_i F8 N8 h8 tk8 t₁ u₁ v₁ hr F9 N9 hk9
    refine LCt.CompSrcT.range (n := 4) rfl F9 N9 hr rfl rfl (by decide) ?_
    intro g9
    refine restT_ind 4 (fun i ys nw => nw = (I, it) :: (lF, W.listOf vF.toArray 0) :: (L1 + 1 + 1, o4) :: (L1 + 1, oC) :: news ∧ ys.length = ((List.range i).filter fun i => decide (z.ns.getD i 0 < ns.getD i 0)).length) ?turn ?fin 4 0 [] _ rfl ⟨rfl, rfl⟩
    case turn =>
      rintro j ys nw hj ⟨rfl, hlen⟩ v I2 oI2 C oC2 D m₂ h tk E' ⟨t, rfl⟩ hC hx FF NN off nn
      (repeat' (first | (k_unfold; (try dsimp only)) | (k_end; wrow_close) | ((fail_if_success with_reducible (first | refine KswEnd_stop ?_ | refine call_stop ?_ | refine pyIter_stop ?_ | refine while_stop ?_ | refine for_stop ?_ | refine def_stop ?_ | refine CompSrcT_stop ?_ | refine CompSrc_stop ?_ | refine lca_stop ?_ | refine lce_stop ?_)); first | ((fail_if_success (fail_if_success (with_reducible refine st_guard ?_))); refine' store_L ?_ ?_ ?_ ?_ ?_ ?_ ?_; rotate_left 5; (first | dsimp only | rfl); (first | dsimp only | rfl); k_asm; k_asm; rfl; rfl; intro _ _ _; k_sweep) | ((with_reducible refine' len_led ?_ ?_ ?_ ?_); rotate_left 5; k_asm; k_mem; ((try simp only [List.length_replicate]); omega)) | ((with_reducible refine' item_int ?_ ?_ ?_ ?_ ?_ ?_ ?_ ?_); rotate_left 6; k_asm; (first | k_asm | k_mem); k_asm; (first | exact ix0 _ | omega); (first | (refine ix1 ?_ ?_ <;> assumption) | omega | (simp only [List.length_append, List.length_cons, List.length_nil]; omega)); (first | omega | (simp only [List.length_append, List.length_cons, List.length_nil]; omega)); rotate_left; with_unfolding_all rfl; intro _) | walk1 | (dsimp only; first | ((fail_if_success (fail_if_success (with_reducible refine st_guard ?_))); refine' store_L ?_ ?_ ?_ ?_ ?_ ?_ ?_; rotate_left 5; (first | dsimp only | rfl); (first | dsimp only | rfl); k_asm; k_asm; rfl; rfl; intro _ _ _; k_sweep) | ((with_reducible refine' len_led ?_ ?_ ?_ ?_); rotate_left 5; k_asm; k_mem; ((try simp only [List.length_replicate]); omega)) | ((with_reducible refine' item_int ?_ ?_ ?_ ?_ ?_ ?_ ?_ ?_); rotate_left 6; k_asm; (first | k_asm | k_mem); k_asm; (first | exact ix0 _ | omega); (first | (refine ix1 ?_ ?_ <;> assumption) | omega | (simp only [List.length_append, List.length_cons, List.length_nil]; omega)); (first | omega | (simp only [List.length_append, List.length_cons, List.length_nil]; omega)); rotate_left; with_unfolding_all rfl; intro _) | walk1) | (leave1; try dsimp only))))
      · rename_i tA tB hlt
        refine CompEnd.intro FF NN _ (fun p h => h) off trivial ⟨rfl, ?_⟩
        have e : (0 + (j : Int)).toNat = j := z_toNat j
        rw [e] at hlt
        have e2 : List.filter (fun i => decide (z.ns.getD i 0 < ns.getD i 0)) [j] = [j] := by rw [List.filter_cons, if_pos (decide_eq_true hlt)]; rfl
        rw [List.range_succ, List.filter_append, List.length_append, List.length_append, hlen, e2]
        rfl
      · rename_i tA tB hlt
        refine CompEnd.intro FF NN _ (fun p h => h) off trivial ⟨rfl, ?_⟩
        have e : (0 + (j : Int)).toNat = j := z_toNat j
        rw [e] at hlt
        have e2 : List.filter (fun i => decide (z.ns.getD i 0 < ns.getD i 0)) [j] = [] := by rw [List.filter_cons, if_neg (by rw [decide_eq_true_iff]; exact hlt)]; rfl
        rw [List.range_succ, List.filter_append, List.length_append, hlen, e2]
        rfl
    case fin =>
      rintro ys nw ⟨rfl, hlen⟩
      intro D h tk FF NN off
      have hl5 : ys.length ≤ 4 := by rw [hlen]; exact Nat.le_trans (List.length_filter_le _ _) (by rw [List.length_range]; omega)
      have hnF : nF.length = 5 := by rw [P3]; unfold cntN; rw [List.length_map, List.length_range]
      (repeat' (first | (k_unfold; (try dsimp only)) | (k_end; wrow_close) | ((fail_if_success with_reducible (first | refine KswEnd_stop ?_ | refine call_stop ?_ | refine pyIter_stop ?_ | refine while_stop ?_ | refine for_stop ?_ | refine def_stop ?_ | refine CompSrcT_stop ?_ | refine CompSrc_stop ?_ | refine lca_stop ?_ | refine lce_stop ?_)); first | ((fail_if_success (fail_if_success (with_reducible refine st_guard ?_))); refine' store_L ?_ ?_ ?_ ?_ ?_ ?_ ?_; rotate_left 5; (first | dsimp only | rfl); (first | dsimp only | rfl); k_asm; k_asm; rfl; rfl; intro _ _ _; k_sweep) | ((with_reducible refine' len_led ?_ ?_ ?_ ?_); rotate_left 5; k_asm; k_mem; ((try simp only [List.length_replicate]); omega)) | ((with_reducible refine' item_int ?_ ?_ ?_ ?_ ?_ ?_ ?_ ?_); rotate_left 6; k_asm; (first | k_asm | k_mem); k_asm; (first | exact ix0 _ | omega); (first | (refine ix1 ?_ ?_ <;> assumption) | omega | (simp only [List.length_append, List.length_cons, List.length_nil]; omega)); (first | omega | (simp only [List.length_append, List.length_cons, List.length_nil]; omega)); rotate_left; with_unfolding_all rfl; intro _) | walk1 | (dsimp only; first | ((fail_if_success (fail_if_success (with_reducible refine st_guard ?_))); refine' store_L ?_ ?_ ?_ ?_ ?_ ?_ ?_; rotate_left 5; (first | dsimp only | rfl); (first | dsimp only | rfl); k_asm; k_asm; rfl; rfl; intro _ _ _; k_sweep) | ((with_reducible refine' len_led ?_ ?_ ?_ ?_); rotate_left 5; k_asm; k_mem; ((try simp only [List.length_replicate]); omega)) | ((with_reducible refine' item_int ?_ ?_ ?_ ?_ ?_ ?_ ?_ ?_); rotate_left 6; k_asm; (first | k_asm | k_mem); k_asm; (first | exact ix0 _ | omega); (first | (refine ix1 ?_ ?_ <;> assumption) | omega | (simp only [List.length_append, List.length_cons, List.length_nil]; omega)); (first | omega | (simp only [List.length_append, List.length_cons, List.length_nil]; omega)); rotate_left; with_unfolding_all rfl; intro _) | walk1) | (leave1; try dsimp only))))
      have nD : @Ne Nat I D := off.1
      have nE : @Ne Nat lF D := off.2.1
      have nK : @Ne Nat I lF := (hoff _ (.head _)).symm
      have nRest : ∀ p ∈ ((L1 + 1 + 1, o4) :: (L1 + 1, oC) :: news), p.1 ≠ lF := fa_cons (Nat.ne_of_lt l2.1) (fa_cons (Nat.ne_of_lt l2.2.1) (fresh1 l2.2.2))
      refine set_led FF NN (Upd.tail nE.symm (Upd.tail nK (Upd.head nRest))) P2 (by omega) (by omega) (by omega) ?_
      intro h5 F5 N5 hi5
      (repeat' (first | (k_unfold; (try dsimp only)) | (k_end; wrow_close) | ((fail_if_success with_reducible (first | refine KswEnd_stop ?_ | refine call_stop ?_ | refine pyIter_stop ?_ | refine while_stop ?_ | refine for_stop ?_ | refine def_stop ?_ | refine CompSrcT_stop ?_ | refine CompSrc_stop ?_ | refine lca_stop ?_ | refine lce_stop ?_)); first | ((fail_if_success (fail_if_success (with_reducible refine st_guard ?_))); refine' store_L ?_ ?_ ?_ ?_ ?_ ?_ ?_; rotate_left 5; (first | dsimp only | rfl); (first | dsimp only | rfl); k_asm; k_asm; rfl; rfl; intro _ _ _; k_sweep) | ((with_reducible refine' len_led ?_ ?_ ?_ ?_); rotate_left 5; k_asm; k_mem; ((try simp only [List.length_replicate]); omega)) | ((with_reducible refine' item_int ?_ ?_ ?_ ?_ ?_ ?_ ?_ ?_); rotate_left 6; k_asm; (first | k_asm | k_mem); k_asm; (first | exact ix0 _ | omega); (first | (refine ix1 ?_ ?_ <;> assumption) | omega | (simp only [List.length_append, List.length_cons, List.length_nil]; omega)); (first | omega | (simp only [List.length_append, List.length_cons, List.length_nil]; omega)); rotate_left; with_unfolding_all rfl; intro _) | walk1 | (dsimp only; first | ((fail_if_success (fail_if_success (with_reducible refine st_guard ?_))); refine' store_L ?_ ?_ ?_ ?_ ?_ ?_ ?_; rotate_left 5; (first | dsimp only | rfl); (first | dsimp only | rfl); k_asm; k_asm; rfl; rfl; intro _ _ _; k_sweep) | ((with_reducible refine' len_led ?_ ?_ ?_ ?_); rotate_left 5; k_asm; k_mem; ((try simp only [List.length_replicate]); omega)) | ((with_reducible refine' item_int ?_ ?_ ?_ ?_ ?_ ?_ ?_ ?_); rotate_left 6; k_asm; (first | k_asm | k_mem); k_asm; (first | exact ix0 _ | omega); (first | (refine ix1 ?_ ?_ <;> assumption) | omega | (simp only [List.length_append, List.length_cons, List.length_nil]; omega)); (first | omega | (simp only [List.length_append, List.length_cons, List.length_nil]; omega)); rotate_left; with_unfolding_all rfl; intro _) | walk1) | (leave1; try dsimp only))))
      refine tpost_next (tend ⟨_, _, o4⟩ F5 N5 (.tail _ (.head _)) (fun p hp => .tail _ (.tail _ hp)) ?_ (by kst_all) (by kst_same) ⟨⟨_, d4⟩, hi5, ?_⟩)
      · exact fa_cons nK.symm (fa_cons nI.symm (fun p hp => hoff p (.tail _ (.tail _ hp))))
      · dsimp only
        have e3 : SL.take (i + 1) = SL.take i ++ [z] := by rw [List.take_succ, hz]; rfl
        have e4 : (ys.length : Int).toNat = heldN ns z.ns := by rw [Int.toNat_natCast, hlen]; rfl
        rw [e3, List.map_append, List.map_cons, List.map_nil, cntN_snoc, e4, P3]
  · rintro ⟨vF, nF, o⟩ u h tk ⟨⟨v0, P1⟩, P2, P3⟩ F'' N''
    dsimp only [kstB] at F''
    dsimp only at P1 P2 P3 N''
    have F7 : Fr g1 L1 h _ := F''
    have N7 : News g1 L1 h ((lF, W.listOf vF.toArray 0) :: (L1 + 1 + 1, o) :: (L1 + 1, oC) :: news) := N''
    clear F'' N''
    have eL : (refsOf SL).length = SL.length := List.length_map _
    rw [eL, List.take_length] at P3
    have N8 : News g1 L1 h ((lF, W.listOf vF.toArray 0) :: news) := news_sub N7 fun p hp => by
      rcases List.mem_cons.mp hp with e | hp
      · exact e ▸ .head _
      · exact .tail _ (.tail _ (.tail _ hp))
    clear N7
    have nRest : ∀ p ∈ news, p.1 ≠ lF := fresh1 l2.2.2
    (repeat' (first | (k_unfold; (try dsimp only)) | (k_end; wrow_close) | ((fail_if_success with_reducible (first | refine KswEnd_stop ?_ | refine call_stop ?_ | refine pyIter_stop ?_ | refine while_stop ?_ | refine for_stop ?_ | refine def_stop ?_ | refine CompSrcT_stop ?_ | refine CompSrc_stop ?_ | refine lca_stop ?_ | refine lce_stop ?_)); first | ((fail_if_success (fail_if_success (with_reducible refine st_guard ?_))); refine' store_L ?_ ?_ ?_ ?_ ?_ ?_ ?_; rotate_left 5; (first | dsimp only | rfl); (first | dsimp only | rfl); k_asm; k_asm; rfl; rfl; intro _ _ _; k_sweep) | ((with_reducible refine' len_led ?_ ?_ ?_ ?_); rotate_left 5; k_asm; k_mem; ((try simp only [List.length_replicate]); omega)) | ((with_reducible refine' item_int ?_ ?_ ?_ ?_ ?_ ?_ ?_ ?_); rotate_left 6; k_asm; (first | k_asm | k_mem); k_asm; (first | exact ix0 _ | omega); (first | (refine ix1 ?_ ?_ <;> assumption) | omega | (simp only [List.length_append, List.length_cons, List.length_nil]; omega)); (first | omega | (simp only [List.length_append, List.length_cons, List.length_nil]; omega)); rotate_left; with_unfolding_all rfl; intro _) | walk1 | (dsimp only; first | ((fail_if_success (fail_if_success (with_reducible refine st_guard ?_))); refine' store_L ?_ ?_ ?_ ?_ ?_ ?_ ?_; rotate_left 5; (first | dsimp only | rfl); (first | dsimp only | rfl); k_asm; k_asm; rfl; rfl; intro _ _ _; k_sweep) | ((with_reducible refine' len_led ?_ ?_ ?_ ?_); rotate_left 5; k_asm; k_mem; ((try simp only [List.length_replicate]); omega)) | ((with_reducible refine' item_int ?_ ?_ ?_ ?_ ?_ ?_ ?_ ?_); rotate_left 6; k_asm; (first | k_asm | k_mem); k_asm; (first | exact ix0 _ | omega); (first | (refine ix1 ?_ ?_ <;> assumption) | omega | (simp only [List.length_append, List.length_cons, List.length_nil]; omega)); (first | omega | (simp only [List.length_append, List.length_cons, List.length_nil]; omega)); rotate_left; with_unfolding_all rfl; intro _) | walk1) | (leave1; try dsimp only))))
    refine' ksw_while (σ := PSig) (fun c => (lF, W.listOf c.vs.toArray c.n) :: news) (fun _ => []) (fun _ => True) [] (fun c => IntsAre c.vs c.ns ∧ stripZ c.ns = stripZ (cntN ns (SL.map (·.ns))) ∧ (∃ x ∈ c.ns, x ≠ 0) ∧ c.ns.length ≤ 5) (fun c => c.ns.length) ⟨vF, 0, nF⟩ ?F ?N trivial ?hk ?hp ?_
    case F => exact F7
    case N => exact N8
    case hk => kst_all
    case hp =>
      exact ⟨P2, by rw [P3], by rw [P3]; exact hnz, by rw [P3]; unfold cntN; rw [List.length_map, List.length_range]; omega⟩
    rintro ⟨vG, nG, gG⟩ u h tk - hPP F'' N''
    refine and4 hPP ?_
    clear hPP
    intro Q1 Q2 Q3 Q4
    dsimp only [kstB] at F''
    dsimp only at Q1 Q2 Q3 Q4 N''
    have hvG := Q1.length
    have hg0 : 0 < gG.length := by
      obtain ⟨x, hx, _⟩ := Q3
      exact List.length_pos_of_mem hx
    obtain ⟨gI, gL, rfl⟩ : ∃ a b, gG = a ++ [b] := ⟨gG.dropLast, gG.getLast (List.ne_nil_of_length_pos hg0), (List.dropLast_concat_getLast _).symm⟩
    have hgL : (gI ++ [gL]).getD (-1 + ((gI ++ [gL]).length : Int)).toNat 0 = gL := by
      have e : (-1 + ((gI ++ [gL]).length : Int)).toNat = gI.length := by rw [List.length_append, List.length_singleton]; omega
      rw [e]; simp
    (repeat' (first | (k_unfold; (try dsimp only)) | (k_end; wrow_close) | ((fail_if_success with_reducible (first | refine KswEnd_stop ?_ | refine call_stop ?_ | refine pyIter_stop ?_ | refine while_stop ?_ | refine for_stop ?_ | refine def_stop ?_ | refine CompSrcT_stop ?_ | refine CompSrc_stop ?_ | refine lca_stop ?_ | refine lce_stop ?_)); first | ((fail_if_success (fail_if_success (with_reducible refine st_guard ?_))); refine' store_L ?_ ?_ ?_ ?_ ?_ ?_ ?_; rotate_left 5; (first | dsimp only | rfl); (first | dsimp only | rfl); k_asm; k_asm; rfl; rfl; intro _ _ _; k_sweep) | ((with_reducible refine' len_led ?_ ?_ ?_ ?_); rotate_left 5; k_asm; k_mem; ((try simp only [List.length_replicate]); omega)) | ((with_reducible refine' item_int ?_ ?_ ?_ ?_ ?_ ?_ ?_ ?_); rotate_left 6; k_asm; (first | k_asm | k_mem); k_asm; (first | exact ix0 _ | omega); (first | (refine ix1 ?_ ?_ <;> assumption) | omega | (simp only [List.length_append, List.length_cons, List.length_nil]; omega)); (first | omega | (simp only [List.length_append, List.length_cons, List.length_nil]; omega)); rotate_left; with_unfolding_all rfl; intro _) | walk1 | (dsimp only; first | ((fail_if_success (fail_if_success (with_reducible refine st_guard ?_))); refine' store_L ?_ ?_ ?_ ?_ ?_ ?_ ?_; rotate_left 5; (first | dsimp only | rfl); (first | dsimp only | rfl); k_asm; k_asm; rfl; rfl; intro _ _ _; k_sweep) | ((with_reducible refine' len_led ?_ ?_ ?_ ?_); rotate_left 5; k_asm; k_mem; ((try simp only [List.length_replicate]); omega)) | ((with_reducible refine' item_int ?_ ?_ ?_ ?_ ?_ ?_ ?_ ?_); rotate_left 6; k_asm; (first | k_asm | k_mem); k_asm; (first | exact ix0 _ | omega); (first | (refine ix1 ?_ ?_ <;> assumption) | omega | (simp only [List.length_append, List.length_cons, List.length_nil]; omega)); (first | omega | (simp only [List.length_append, List.length_cons, List.length_nil]; omega)); rotate_left; with_unfolding_all rfl; intro _) | walk1) | (leave1; try dsimp only))))
    · rename IntsAre _ (List.dropLast _) => hI'
      have hz0 : gL = 0 := by assumption
      subst hz0
      rw [List.dropLast_concat] at hI'
      refine ksw_end ⟨_, _, _⟩ (by k_asm) (by k_asm) (fun p h => h) trivial (by kst_all) (by ksw_same) ⟨hI', ?_, ?_, ?_⟩ (by dsimp only; rw [List.length_append, List.length_singleton]; omega)
      · dsimp only; rw [← Q2, stripZ_drop]
      · obtain ⟨x, hx, hx0⟩ := Q3
        rcases List.mem_append.mp hx with hx | hx
        · exact ⟨x, hx, hx0⟩
        · exact absurd (List.mem_singleton.mp hx) hx0
      · rw [List.length_append, List.length_singleton] at Q4; dsimp only; omega
    · have hz0 : gL ≠ 0 := by assumption
      rw [stripZ_last _ _ hz0] at Q2
      rw [Q2] at Q1
      exact hret _ _ _ _ (by k_asm) (by k_asm) ⟨_, _, _, rfl, rfl, nRest, Q1⟩

end
section
theorem rst_Idm : True := by w_top off; trivial
theorem idm0 (w : World) (T rest : Led) (a b : Int) (t1 t2 : Tok) (ha : 0 ≤ a) (hb : 0 < b) (hT : Tabs T rest) (hbb : Builtin.Int.intBits b ≤ 5000) (hab : Builtin.Int.intBits a ≤ 8 * Builtin.Int.intBits b) :
   Does w 129 17 180 (T ++ rest) [.int a t1, .int b t2]
     (fun r news' => ∃ l t1 t2 T', r = .ref l ∧ news' = (l, tup2 (.int (a.fdiv b) t1) (.int (a.fmod b) t2)) :: (T' ++ rest) ∧ Tabs T' rest ∧ ∀ p ∈ T' ++ rest, p.1 ≠ l) := by
  unfold Does
  intro p loose mean mg mb dp un gd cn cs ad ccd cl outer A₀ base h₀ L m s Q E B F X N T0 C1 C2 hk hd hu hret
  refine wpAny_call ?_
  k_dflt (refine code_def (by k_asm) (by k_asm) (by k_asm) (by k_asm) (by k_asm) (by exact rfl) (by exact rfl) (by first | exact rfl | assumption) (by k_is) (by k_is) (by ktr_room) (by first | exact BindsTo.of_eq rfl | exact kp_binds (by k_in) (fun _ => rfl)) (by exact locs rfl) ?_ (by exact rfl) (by exact rfl) (by exact rfl) (by decide); intro _ _ _ _ _ _ _ _ _; (try dsimp only); (try k_fold))
  refine st_conv (by dsimp only) ?_
  refine tk_any fun tk9 => ?_
  (repeat' (first | (k_unfold; (try dsimp only)) | (k_end; wrow_close) | ((fail_if_success with_reducible (first | refine KswEnd_stop ?_ | refine call_stop ?_ | refine pyIter_stop ?_ | refine while_stop ?_ | refine for_stop ?_ | refine def_stop ?_)); first | ((fail_if_success (fail_if_success (with_reducible refine st_guard ?_))); refine' store_L ?_ ?_ ?_ ?_ ?_ ?_ ?_; rotate_left 5; (first | dsimp only | rfl); (first | dsimp only | rfl); k_asm; k_asm; rfl; rfl; intro _ _ _; k_sweep) | ((with_reducible refine' PySem.W.ite_pos ?_ ?_); ((try simp only [beq_iff_eq, bne_iff_ne, decide_eq_true_eq, ne_eq]); omega)) | ((with_reducible refine' PySem.W.ite_neg ?_ ?_); ((try simp only [beq_iff_eq, bne_iff_ne, decide_eq_true_eq, ne_eq]); omega)) | walk1 | (dsimp only; first | ((fail_if_success (fail_if_success (with_reducible refine st_guard ?_))); refine' store_L ?_ ?_ ?_ ?_ ?_ ?_ ?_; rotate_left 5; (first | dsimp only | rfl); (first | dsimp only | rfl); k_asm; k_asm; rfl; rfl; intro _ _ _; k_sweep) | ((with_reducible refine' PySem.W.ite_pos ?_ ?_); ((try simp only [beq_iff_eq, bne_iff_ne, decide_eq_true_eq, ne_eq]); omega)) | ((with_reducible refine' PySem.W.ite_neg ?_ ?_); ((try simp only [beq_iff_eq, bne_iff_ne, decide_eq_true_eq, ne_eq]); omega)) | walk1) | (leave1; try dsimp only))))
  (with_unfolding_all refine' Does.use (divmod_pos w T rest a b _ _ ha hb hT hbb hab) (by k_asm) (by k_asm) (by k_asm) (by k_asm) (by k_asm) (by assumption) (by assumption) (by first | exact rfl | assumption) (by ktr_room) (by ktr_units) ?_)
  intro r9 news9 h9 tk9 F9 N9 O9
  revert N9
  apply idm_elim O9
  clear O9
  intro l9 t91 t92 T' hT' hf9 N9
  dsimp only
  (repeat' (first | (k_unfold; (try dsimp only)) | (k_end; wrow_close) | ((fail_if_success with_reducible (first | refine KswEnd_stop ?_ | refine call_stop ?_ | refine pyIter_stop ?_ | refine while_stop ?_ | refine for_stop ?_ | refine def_stop ?_)); first | ((fail_if_success (fail_if_success (with_reducible refine st_guard ?_))); refine' store_L ?_ ?_ ?_ ?_ ?_ ?_ ?_; rotate_left 5; (first | dsimp only | rfl); (first | dsimp only | rfl); k_asm; k_asm; rfl; rfl; intro _ _ _; k_sweep) | ((with_reducible refine' PySem.W.ite_pos ?_ ?_); ((try simp only [beq_iff_eq, bne_iff_ne, decide_eq_true_eq, ne_eq]); omega)) | ((with_reducible refine' PySem.W.ite_neg ?_ ?_); ((try simp only [beq_iff_eq, bne_iff_ne, decide_eq_true_eq, ne_eq]); omega)) | walk1 | (dsimp only; first | ((fail_if_success (fail_if_success (with_reducible refine st_guard ?_))); refine' store_L ?_ ?_ ?_ ?_ ?_ ?_ ?_; rotate_left 5; (first | dsimp only | rfl); (first | dsimp only | rfl); k_asm; k_asm; rfl; rfl; intro _ _ _; k_sweep) | ((with_reducible refine' PySem.W.ite_pos ?_ ?_); ((try simp only [beq_iff_eq, bne_iff_ne, decide_eq_true_eq, ne_eq]); omega)) | ((with_reducible refine' PySem.W.ite_neg ?_ ?_); ((try simp only [beq_iff_eq, bne_iff_ne, decide_eq_true_eq, ne_eq]); omega)) | walk1) | (leave1; try dsimp only))))
  exact hret _ _ _ _ (by k_asm) (by k_asm) ⟨_, _, _, _, rfl, rfl, hT', hf9⟩
theorem fdiv_neg_facts {a b : Int} (hb : 0 < b) (ha : a < 0) : a.fdiv b = -((-a - 1).fdiv b) - 1 ∧ a.fmod b = b + (-((-a - 1).fmod b) - 1) := by
  have h1 := Int.mul_fdiv_add_fmod (-a - 1) b
  have h2 := Int.fmod_nonneg_of_pos (-a - 1) hb
  have h3 := Int.fmod_lt_of_pos (-a - 1) hb
  generalize (-a - 1).fdiv b = q at *
  generalize (-a - 1).fmod b = r at *
  refine div_end hb ?_ (by omega) (by omega)
  have : a = -(b * q + r) - 1 := by omega
  rw [this]; grind
theorem idm1 (w : World) (T rest : Led) (a b : Int) (t1 t2 : Tok) (hb : 0 < b) (hT : Tabs T rest) (hbb : Builtin.Int.intBits b ≤ 5000) (hab : Builtin.Int.intBits a ≤ 8 * Builtin.Int.intBits b) :
   Does w 129 19 190 (T ++ rest) [.int a t1, .int b t2]
     (fun r news' => ∃ l t1 t2 T', r = .ref l ∧ news' = (l, tup2 (.int (a.fdiv b) t1) (.int (a.fmod b) t2)) :: (T' ++ rest) ∧ Tabs T' rest ∧ ∀ p ∈ T' ++ rest, p.1 ≠ l) := by
  unfold Does
  intro p loose mean mg mb dp un gd cn cs ad ccd cl outer A₀ base h₀ L m s Q E B F X N T0 C1 C2 hk hd hu hret
  refine wpAny_call ?_
  k_dflt (refine code_def (by k_asm) (by k_asm) (by k_asm) (by k_asm) (by k_asm) (by exact rfl) (by exact rfl) (by first | exact rfl | assumption) (by k_is) (by k_is) (by ktr_room) (by first | exact BindsTo.of_eq rfl | exact kp_binds (by k_in) (fun _ => rfl)) (by exact locs rfl) ?_ (by exact rfl) (by exact rfl) (by exact rfl) (by decide); intro _ _ _ _ _ _ _ _ _; (try dsimp only); (try k_fold))
  refine st_conv (by dsimp only) ?_
  refine tk_any fun tk9 => ?_
  (repeat' (first | (k_unfold; (try dsimp only)) | (k_end; wrow_close) | ((fail_if_success with_reducible (first | refine KswEnd_stop ?_ | refine call_stop ?_ | refine pyIter_stop ?_ | refine while_stop ?_ | refine for_stop ?_ | refine def_stop ?_)); first | ((fail_if_success (fail_if_success (with_reducible refine st_guard ?_))); refine' store_L ?_ ?_ ?_ ?_ ?_ ?_ ?_; rotate_left 5; (first | dsimp only | rfl); (first | dsimp only | rfl); k_asm; k_asm; rfl; rfl; intro _ _ _; k_sweep) | ((with_reducible refine' PySem.W.ite_pos ?_ ?_); ((try simp only [beq_iff_eq, bne_iff_ne, decide_eq_true_eq, ne_eq]); omega)) | ((with_reducible refine' PySem.W.ite_neg ?_ ?_); ((try simp only [beq_iff_eq, bne_iff_ne, decide_eq_true_eq, ne_eq]); omega)) | walk1 | (dsimp only; first | ((fail_if_success (fail_if_success (with_reducible refine st_guard ?_))); refine' store_L ?_ ?_ ?_ ?_ ?_ ?_ ?_; rotate_left 5; (first | dsimp only | rfl); (first | dsimp only | rfl); k_asm; k_asm; rfl; rfl; intro _ _ _; k_sweep) | ((with_reducible refine' PySem.W.ite_pos ?_ ?_); ((try simp only [beq_iff_eq, bne_iff_ne, decide_eq_true_eq, ne_eq]); omega)) | ((with_reducible refine' PySem.W.ite_neg ?_ ?_); ((try simp only [beq_iff_eq, bne_iff_ne, decide_eq_true_eq, ne_eq]); omega)) | walk1) | (leave1; try dsimp only))))
  · have ha : a < 0 := by assumption
    obtain ⟨e1, e2⟩ := fdiv_neg_facts hb ha
    (with_unfolding_all refine' Does.use (idm0 w T rest _ b _ _ (by omega : 0 ≤ -a - 1) hb hT hbb (Nat.le_trans (intBits_le_of_natAbs (by omega) (Nat.le_refl _)) hab)) (by k_asm) (by k_asm) (by k_asm) (by k_asm) (by k_asm) (by assumption) (by assumption) (by first | exact rfl | assumption) (by ktr_room) (by ktr_units) ?_)
    intro r9 news9 h9 tk9 F9 N9 O9
    revert N9
    apply idm_elim O9
    clear O9
    intro l9 t91 t92 T' hT' hf9 N9
    dsimp only
    (repeat' (first | (k_unfold; (try dsimp only)) | (k_end; wrow_close) | ((fail_if_success with_reducible (first | refine KswEnd_stop ?_ | refine call_stop ?_ | refine pyIter_stop ?_ | refine while_stop ?_ | refine for_stop ?_ | refine def_stop ?_)); first | ((fail_if_success (fail_if_success (with_reducible refine st_guard ?_))); refine' store_L ?_ ?_ ?_ ?_ ?_ ?_ ?_; rotate_left 5; (first | dsimp only | rfl); (first | dsimp only | rfl); k_asm; k_asm; rfl; rfl; intro _ _ _; k_sweep) | ((with_reducible refine' PySem.W.ite_pos ?_ ?_); ((try simp only [beq_iff_eq, bne_iff_ne, decide_eq_true_eq, ne_eq]); omega)) | ((with_reducible refine' PySem.W.ite_neg ?_ ?_); ((try simp only [beq_iff_eq, bne_iff_ne, decide_eq_true_eq, ne_eq]); omega)) | walk1 | (dsimp only; first | ((fail_if_success (fail_if_success (with_reducible refine st_guard ?_))); refine' store_L ?_ ?_ ?_ ?_ ?_ ?_ ?_; rotate_left 5; (first | dsimp only | rfl); (first | dsimp only | rfl); k_asm; k_asm; rfl; rfl; intro _ _ _; k_sweep) | ((with_reducible refine' PySem.W.ite_pos ?_ ?_); ((try simp only [beq_iff_eq, bne_iff_ne, decide_eq_true_eq, ne_eq]); omega)) | ((with_reducible refine' PySem.W.ite_neg ?_ ?_); ((try simp only [beq_iff_eq, bne_iff_ne, decide_eq_true_eq, ne_eq]); omega)) | walk1) | (leave1; try dsimp only))))
    rw [e1, e2] at hret
    exact hret _ _ _ _ (by k_asm) (news_drop2 (by k_asm)) ⟨_, _, _, T', rfl, rfl, hT', by ktn_open⟩
  · (with_unfolding_all refine' Does.use (divmod_pos w T rest a b _ _ (by omega) hb hT hbb hab) (by k_asm) (by k_asm) (by k_asm) (by k_asm) (by k_asm) (by assumption) (by assumption) (by first | exact rfl | assumption) (by ktr_room) (by ktr_units) ?_)
    intro r9 news9 h9 tk9 F9 N9 O9
    revert N9
    apply idm_elim O9
    clear O9
    intro l9 t91 t92 T' hT' hf9 N9
    dsimp only
    (repeat' (first | (k_unfold; (try dsimp only)) | (k_end; wrow_close) | ((fail_if_success with_reducible (first | refine KswEnd_stop ?_ | refine call_stop ?_ | refine pyIter_stop ?_ | refine while_stop ?_ | refine for_stop ?_ | refine def_stop ?_)); first | ((fail_if_success (fail_if_success (with_reducible refine st_guard ?_))); refine' store_L ?_ ?_ ?_ ?_ ?_ ?_ ?_; rotate_left 5; (first | dsimp only | rfl); (first | dsimp only | rfl); k_asm; k_asm; rfl; rfl; intro _ _ _; k_sweep) | ((with_reducible refine' PySem.W.ite_pos ?_ ?_); ((try simp only [beq_iff_eq, bne_iff_ne, decide_eq_true_eq, ne_eq]); omega)) | ((with_reducible refine' PySem.W.ite_neg ?_ ?_); ((try simp only [beq_iff_eq, bne_iff_ne, decide_eq_true_eq, ne_eq]); omega)) | walk1 | (dsimp only; first | ((fail_if_success (fail_if_success (with_reducible refine st_guard ?_))); refine' store_L ?_ ?_ ?_ ?_ ?_ ?_ ?_; rotate_left 5; (first | dsimp only | rfl); (first | dsimp only | rfl); k_asm; k_asm; rfl; rfl; intro _ _ _; k_sweep) | ((with_reducible refine' PySem.W.ite_pos ?_ ?_); ((try simp only [beq_iff_eq, bne_iff_ne, decide_eq_true_eq, ne_eq]); omega)) | ((with_reducible refine' PySem.W.ite_neg ?_ ?_); ((try simp only [beq_iff_eq, bne_iff_ne, decide_eq_true_eq, ne_eq]); omega)) | walk1) | (leave1; try dsimp only))))
    exact hret _ _ _ _ (by k_asm) (by k_asm) ⟨_, _, _, _, rfl, rfl, hT', hf9⟩

theorem idm2 (w : World) (T rest : Led) (a b : Int) (t1 t2 : Tok) (hb : b < 0) (hT : Tabs T rest) (hbb : Builtin.Int.intBits b ≤ 5000) (hab : Builtin.Int.intBits a ≤ 8 * Builtin.Int.intBits b) :
   Does w 129 21 200 (T ++ rest) [.int a t1, .int b t2]
     (fun r news' => ∃ l t1 t2 T', r = .ref l ∧ news' = (l, tup2 (.int ((-a).fdiv (-b)) t1) (.int (-((-a).fmod (-b))) t2)) :: (T' ++ rest) ∧ Tabs T' rest ∧ ∀ p ∈ T' ++ rest, p.1 ≠ l) := by
  have hnb : Builtin.Int.intBits (-b) = Builtin.Int.intBits b := by
    unfold Builtin.Int.intBits
    have h1 : ((-b) == 0) = (b == 0) := by
      have : (b == 0) = false := by simp only [beq_eq_false_iff_ne]; omega
      rw [this]; simp only [beq_eq_false_iff_ne]; omega
    rw [h1, Int.natAbs_neg]
  unfold Does
  intro p loose mean mg mb dp un gd cn cs ad ccd cl outer A₀ base h₀ L m s Q E B F X N T0 C1 C2 hk hd hu hret
  refine wpAny_call ?_
  k_dflt (refine code_def (by k_asm) (by k_asm) (by k_asm) (by k_asm) (by k_asm) (by exact rfl) (by exact rfl) (by first | exact rfl | assumption) (by k_is) (by k_is) (by ktr_room) (by first | exact BindsTo.of_eq rfl | exact kp_binds (by k_in) (fun _ => rfl)) (by exact locs rfl) ?_ (by exact rfl) (by exact rfl) (by exact rfl) (by decide); intro _ _ _ _ _ _ _ _ _; (try dsimp only); (try k_fold))
  refine st_conv (by dsimp only) ?_
  refine tk_any fun tk9 => ?_
  (repeat' (first | (k_unfold; (try dsimp only)) | (k_end; wrow_close) | ((fail_if_success with_reducible (first | refine KswEnd_stop ?_ | refine call_stop ?_ | refine pyIter_stop ?_ | refine while_stop ?_ | refine for_stop ?_ | refine def_stop ?_)); first | ((fail_if_success (fail_if_success (with_reducible refine st_guard ?_))); refine' store_L ?_ ?_ ?_ ?_ ?_ ?_ ?_; rotate_left 5; (first | dsimp only | rfl); (first | dsimp only | rfl); k_asm; k_asm; rfl; rfl; intro _ _ _; k_sweep) | ((with_reducible refine' PySem.W.ite_pos ?_ ?_); ((try simp only [beq_iff_eq, bne_iff_ne, decide_eq_true_eq, ne_eq]); omega)) | ((with_reducible refine' PySem.W.ite_neg ?_ ?_); ((try simp only [beq_iff_eq, bne_iff_ne, decide_eq_true_eq, ne_eq]); omega)) | walk1 | (dsimp only; first | ((fail_if_success (fail_if_success (with_reducible refine st_guard ?_))); refine' store_L ?_ ?_ ?_ ?_ ?_ ?_ ?_; rotate_left 5; (first | dsimp only | rfl); (first | dsimp only | rfl); k_asm; k_asm; rfl; rfl; intro _ _ _; k_sweep) | ((with_reducible refine' PySem.W.ite_pos ?_ ?_); ((try simp only [beq_iff_eq, bne_iff_ne, decide_eq_true_eq, ne_eq]); omega)) | ((with_reducible refine' PySem.W.ite_neg ?_ ?_); ((try simp only [beq_iff_eq, bne_iff_ne, decide_eq_true_eq, ne_eq]); omega)) | walk1) | (leave1; try dsimp only))))
  (with_unfolding_all refine' Does.use (idm1 w T rest (-a) (-b) _ _ (by omega) hT (by rw [hnb]; exact hbb) (by rw [hnb]; exact intBits_neg_le hab)) (by k_asm) (by k_asm) (by k_asm) (by k_asm) (by k_asm) (by assumption) (by assumption) (by first | exact rfl | assumption) (by ktr_room) (by ktr_units) ?_)
  intro r9 news9 h9 tk9 F9 N9 O9
  revert N9
  apply idm_elim O9
  clear O9
  intro l9 t91 t92 T' hT' hf9 N9
  dsimp only
  (repeat' (first | (k_unfold; (try dsimp only)) | (k_end; wrow_close) | ((fail_if_success with_reducible (first | refine KswEnd_stop ?_ | refine call_stop ?_ | refine pyIter_stop ?_ | refine while_stop ?_ | refine for_stop ?_ | refine def_stop ?_)); first | ((fail_if_success (fail_if_success (with_reducible refine st_guard ?_))); refine' store_L ?_ ?_ ?_ ?_ ?_ ?_ ?_; rotate_left 5; (first | dsimp only | rfl); (first | dsimp only | rfl); k_asm; k_asm; rfl; rfl; intro _ _ _; k_sweep) | ((with_reducible refine' PySem.W.ite_pos ?_ ?_); ((try simp only [beq_iff_eq, bne_iff_ne, decide_eq_true_eq, ne_eq]); omega)) | ((with_reducible refine' PySem.W.ite_neg ?_ ?_); ((try simp only [beq_iff_eq, bne_iff_ne, decide_eq_true_eq, ne_eq]); omega)) | walk1 | (dsimp only; first | ((fail_if_success (fail_if_success (with_reducible refine st_guard ?_))); refine' store_L ?_ ?_ ?_ ?_ ?_ ?_ ?_; rotate_left 5; (first | dsimp only | rfl); (first | dsimp only | rfl); k_asm; k_asm; rfl; rfl; intro _ _ _; k_sweep) | ((with_reducible refine' PySem.W.ite_pos ?_ ?_); ((try simp only [beq_iff_eq, bne_iff_ne, decide_eq_true_eq, ne_eq]); omega)) | ((with_reducible refine' PySem.W.ite_neg ?_ ?_); ((try simp only [beq_iff_eq, bne_iff_ne, decide_eq_true_eq, ne_eq]); omega)) | walk1) | (leave1; try dsimp only))))
  exact hret _ _ _ _ (by k_asm) (news_drop2 (by k_asm)) ⟨_, _, _, T', rfl, rfl, hT', by ktn_open⟩

end
section
theorem rst_Ins : True := by w_top off; trivial
/-- x put into a sorted list, past the equal ones -/
noncomputable def insR : List Int → Int → List Int
  | [], x => [x]
  | a :: r, x => if x < a then x :: a :: r else a :: insR r x
theorem insR_eq : ∀ {ns : List Int} {k : Nat} {x : Int}, k ≤ ns.length → (∀ i, i < k → ns.getD i 0 ≤ x) → (∀ i, k ≤ i → i < ns.length → x < ns.getD i 0) → ns.take k ++ x :: ns.drop k = insR ns x
  | [], k, x, hk, _, _ => by simp [insR]
  | a :: r, 0, x, hk, h1, h2 => by
    have := h2 0 (Nat.le_refl _) (by simp)
    simp only [List.getD_cons_zero] at this
    simp [insR, this]
  | a :: r, k + 1, x, hk, h1, h2 => by
    have h0 := h1 0 (Nat.succ_pos _)
    simp only [List.getD_cons_zero] at h0
    have ih := insR_eq (ns := r) (k := k) (x := x) (by simpa using hk) (fun i hi => by simpa using h1 (i + 1) (by omega)) (fun i hi hi2 => by simpa using h2 (i + 1) (by omega) (by simpa using hi2))
    simp only [insR, List.take_succ_cons, List.drop_succ_cons, List.cons_append, ih]
    rw [if_neg (by omega)]
theorem intsAre_take : ∀ {vs : List Value} {ns : List Int} (k : Nat), IntsAre vs ns → IntsAre (vs.take k) (ns.take k)
  | _, _, 0, _ => by rw [List.take_zero, List.take_zero]; exact .nil
  | _, _, _ + 1, .nil => by rw [List.take_nil, List.take_nil]; exact .nil
  | _, _, k + 1, .cons n t h => .cons n t (intsAre_take k h)
theorem intsAre_drop : ∀ {vs : List Value} {ns : List Int} (k : Nat), IntsAre vs ns → IntsAre (vs.drop k) (ns.drop k)
  | _, _, 0, h => h
  | _, _, _ + 1, .nil => by rw [List.drop_nil, List.drop_nil]; exact .nil
  | _, _, k + 1, .cons n t h => intsAre_drop k h
section
variable {prog : Program} {w : World} {A : Around} {E : Value → Shared → Prop} {s : Shared} {h₀ : Heap} {L D : Addr} {m : Str → Option Value} {news news' : Led} {vs : List Value} {n : Nat} {x : Value} {Q : Value → Shared → Prop}
theorem insert_led {k : Int} {u : Tok} (F : Fr h₀ L s.heap m) (N : News h₀ L s.heap news) (h0 : 0 ≤ k) (h1 : k ≤ vs.length) (U : Upd D (W.listOf vs.toArray n) (W.listOf (vs.take k.toNat ++ x :: vs.drop k.toNat).toArray (n + 1)) news news') (hsz : vs.length < 1000000)
    (h : ∀ h', Fr h₀ L h' m → News h₀ L h' news' → Q .none { s with heap := h' }) : wpAny (model prog w) A (call (.builtin "list.insert") [.ref D, .int k u, x]) Q E s := by
  have e : kl_ins vs.toArray.toList k x = vs.take k.toNat ++ x :: vs.drop k.toNat := by
    show kl_ins vs k x = _
    unfold kl_ins
    rw [if_neg (by omega), Nat.min_eq_left (by omega)]
  refine kl_insert F N ?_ e U (by rw [PySem.sizeLine_eq]; show vs.length ≤ _; omega) h
  unfold Builtin.List.listFitsIndex
  rw [Bool.and_eq_true, decide_eq_true_iff, decide_eq_true_iff]
  omega
end
theorem insort_r (w : World) (upd : List Value → Nat → Led) (l : Addr) (vs : List Value) (ns : List Int) (n : Nat) (x : Int) (t : Tok)
   (hU : ∀ vs n vs' n', Upd l (W.listOf vs.toArray n) (W.listOf vs'.toArray n') (upd vs n) (upd vs' n')) (hm : ∀ vs n, (l, W.listOf vs.toArray n) ∈ upd vs n) (hi' : IntsAre vs ns) (hn : ns.length < 100)
   (hs : ∀ i j : Int, 0 ≤ i → i ≤ j → j < ns.length → ns.getD i.toNat 0 ≤ ns.getD j.toNat 0) :
   Does w 138 2 30 (upd vs n) [.ref l, .int x t]
     (fun r news' => r = .none ∧ ∃ vs' n', news' = upd vs' n' ∧ IntsAre vs' (insR ns x)) := by
  unfold Does
  intro p loose mean mg mb dp un gd cn cs ad ccd cl outer A₀ base h₀ L m s Q E B F X N T C1 C2 hk hd hu hret
  refine wpAny_call ?_
  k_dflt (refine code_def (by k_asm) (by k_asm) (by k_asm) (by k_asm) (by k_asm) (by exact rfl) (by exact rfl) (by first | exact rfl | assumption) (by k_is) (by k_is) (by ktr_room) (by first | exact BindsTo.of_eq rfl | exact kp_binds (by k_in) (fun _ => rfl)) (by exact locs rfl) ?_ (by exact rfl) (by exact rfl) (by exact rfl) (by decide); intro _ _ _ _ _ _ _ _ _; (try dsimp only); (try k_fold))
  refine st_conv (by dsimp only) ?_
  refine tk_any fun tk9 => ?_
  have hvl := hi'.length
  have hmm := hm vs n
  (repeat' (first | (k_unfold; (try dsimp only)) | (k_end; wrow_close) | ((fail_if_success with_reducible (first | refine KswEnd_stop ?_ | refine call_stop ?_ | refine pyIter_stop ?_ | refine while_stop ?_ | refine for_stop ?_ | refine def_stop ?_)); first | ((fail_if_success (fail_if_success (with_reducible refine st_guard ?_))); refine' store_L ?_ ?_ ?_ ?_ ?_ ?_ ?_; rotate_left 5; (first | dsimp only | rfl); (first | dsimp only | rfl); k_asm; k_asm; rfl; rfl; intro _ _ _; k_sweep) | walk1 | (dsimp only; first | ((fail_if_success (fail_if_success (with_reducible refine st_guard ?_))); refine' store_L ?_ ?_ ?_ ?_ ?_ ?_ ?_; rotate_left 5; (first | dsimp only | rfl); (first | dsimp only | rfl); k_asm; k_asm; rfl; rfl; intro _ _ _; k_sweep) | walk1) | (leave1; try dsimp only))))
  (with_unfolding_all refine' Does.use (bisect_r w (upd vs n) l vs ns n x 0 ns.length t _ .none (.inl ⟨rfl, rfl⟩) (hm _ _) hi' (by omega) (by omega) (by omega) hn hs) (by k_asm) (by k_asm) (by k_asm) (by k_asm) (by k_asm) (by assumption) (by assumption) (by first | exact rfl | assumption) (by ktr_room) (by ktr_units) ?_)
  intro r9 news9 h9 tk9 F9 N9 O9
  revert N9
  apply rn2 O9
  clear O9
  intro k tk hO N9
  refine and4 hO ?_
  clear hO
  intro k0 k1 k2 k3
  dsimp only
  (repeat' (first | (k_unfold; (try dsimp only)) | (k_end; wrow_close) | ((fail_if_success with_reducible (first | refine KswEnd_stop ?_ | refine call_stop ?_ | refine pyIter_stop ?_ | refine while_stop ?_ | refine for_stop ?_ | refine def_stop ?_)); first | ((fail_if_success (fail_if_success (with_reducible refine st_guard ?_))); refine' store_L ?_ ?_ ?_ ?_ ?_ ?_ ?_; rotate_left 5; (first | dsimp only | rfl); (first | dsimp only | rfl); k_asm; k_asm; rfl; rfl; intro _ _ _; k_sweep) | walk1 | (dsimp only; first | ((fail_if_success (fail_if_success (with_reducible refine st_guard ?_))); refine' store_L ?_ ?_ ?_ ?_ ?_ ?_ ?_; rotate_left 5; (first | dsimp only | rfl); (first | dsimp only | rfl); k_asm; k_asm; rfl; rfl; intro _ _ _; k_sweep) | walk1) | (leave1; try dsimp only))))
  refine' insert_led ?F ?N ?h0 ?h1 ?U ?hz ?_
  case F => k_asm
  case N => k_asm
  case U => exact hU vs n _ _
  case h0 => exact k0
  case h1 => (have := hi'.length; omega)
  case hz => omega
  intro h' F' N'
  (repeat' (first | (k_unfold; (try dsimp only)) | (k_end; wrow_close) | ((fail_if_success with_reducible (first | refine KswEnd_stop ?_ | refine call_stop ?_ | refine pyIter_stop ?_ | refine while_stop ?_ | refine for_stop ?_ | refine def_stop ?_)); first | ((fail_if_success (fail_if_success (with_reducible refine st_guard ?_))); refine' store_L ?_ ?_ ?_ ?_ ?_ ?_ ?_; rotate_left 5; (first | dsimp only | rfl); (first | dsimp only | rfl); k_asm; k_asm; rfl; rfl; intro _ _ _; k_sweep) | walk1 | (dsimp only; first | ((fail_if_success (fail_if_success (with_reducible refine st_guard ?_))); refine' store_L ?_ ?_ ?_ ?_ ?_ ?_ ?_; rotate_left 5; (first | dsimp only | rfl); (first | dsimp only | rfl); k_asm; k_asm; rfl; rfl; intro _ _ _; k_sweep) | walk1) | (leave1; try dsimp only))))
  refine hret _ _ _ _ (by k_asm) (by k_asm) ⟨rfl, _, _, rfl, ?_⟩
  rw [← insR_eq (ns := ns) (k := k.toNat) (x := x) (by omega) (fun i hi => by have := k2 i (by omega) (by omega); simpa using this) (fun i hi hi2 => by have := k3 i (by omega) (by omega); simpa using this)]
  exact intsAre_append (intsAre_take _ hi') (.cons x t (intsAre_drop _ hi'))

end
section
theorem rst_Inl : True := by w_top off; trivial
/-- a lambda's object -/
structure FnObj where
  name : Str
  qual : Str
  params : Arguments
  body : PySem.Expr
  scope : Scope
  clos : List (Str × Addr)
  pm : Value
  c' : Addr
  ctv : Value
noncomputable abbrev FnObj.obj (o : FnObj) : Obj := kla_obj o.name o.qual o.params o.body o.scope o.clos o.pm o.c' o.ctv
/-- what a call of the def at f with vs and the named kw does -/
noncomputable def DoesK (w : World) (f : Addr) (dep uni : Nat) (news : Led) (vs : List Value) (kw : List (Str × Value)) (Out : Value → Led → Prop) : Prop :=
  ∀ (p : Program) (loose : List Str) (mean : ExcName → Option Value) (mg mb : Str → Option Value) (dp un : Nat) (gd : Option (List Code)) (cn : Str) (cs : Scope) (a : Addr) (ccd : Value) (cl : List (Str × Addr)) (outer : List Env) (A₀ : Around) (base h₀ : Heap) (L : Addr) (m : Str → Option Value) (s : Shared) (Q E : Value → Shared → Prop),
    Below A₀ base outer h₀ → Fr h₀ L s.heap m → (Mine.hd.heap_1 w.params).In h₀ → News h₀ L s.heap news → Top p loose mean mg mb h₀ → CodeHd base 107 103 → CodeHd base 114 110 → cs.kind = .function → dp + dep < recursionLimit → un + uni < cLine →
    (∀ r news' h' tk', Fr h₀ L h' m → News h₀ L h' news' → Out r news' → Q r { s with heap := h', toks := tk' }) →
    wpAny (model PR w) (ktrTop dp un gd cn cs L a ccd cl outer) (call (.ref f) vs kw) Q E s
theorem DoesK.use {w : World} {f : Addr} {dep uni : Nat} {news : Led} {vs : List Value} {kw : List (Str × Value)} {Out : Value → Led → Prop} (C : DoesK w f dep uni news vs kw Out)
   {p : Program} {loose : List Str} {mean : ExcName → Option Value} {mg mb : Str → Option Value} {dp un : Nat} {gd : Option (List Code)} {cn : Str} {cs : Scope} {a : Addr} {ccd : Value} {cl : List (Str × Addr)} {outer : List Env} {A₀ : Around} {base h₀ : Heap} {L : Addr} {m : Str → Option Value} {s : Shared} {Q E : Value → Shared → Prop}
   (B : Below A₀ base outer h₀) (F : Fr h₀ L s.heap m) (X : (Mine.hd.heap_1 w.params).In h₀) (N : News h₀ L s.heap news) (T : Top p loose mean mg mb h₀) (C1 : CodeHd base 107 103) (C2 : CodeHd base 114 110) (hk : cs.kind = .function) (hd : dp + dep < recursionLimit) (hu : un + uni < cLine)
   (ret : ∀ r news' h' tk', Fr h₀ L h' m → News h₀ L h' news' → Out r news' → Q r { s with heap := h', toks := tk' }) :
   wpAny (model PR w) (ktrTop dp un gd cn cs L a ccd cl outer) (call (.ref f) vs kw) Q E s :=
  C p loose mean mg mb dp un gd cn cs a ccd cl outer A₀ base h₀ L m s Q E B F X N T C1 C2 hk hd hu ret
noncomputable abbrev Key (w : World) (f : Addr) (news : Led) : Prop := ∀ (x : Int) (t : Tok), Does w f 1 20 news [.int x t] (fun r news' => (∃ tk, r = .int (-x) tk) ∧ news' = news)
noncomputable abbrev BilP (ns : List Int) (x lo0 hi0 lo hi : Int) : Prop :=
  lo0 ≤ lo ∧ lo ≤ hi ∧ hi ≤ hi0 ∧ (∀ i : Int, lo0 ≤ i → i < lo → x < ns.getD i.toNat 0) ∧ (∀ i : Int, hi ≤ i → i < hi0 → ns.getD i.toNat 0 ≤ x)
/-- bisect_left over a falling list of ints, its key the number's opposite -/
theorem bisect_l (w : World) (news : Led) (l : Addr) (vs : List Value) (ns : List Int) (n : Nat) (x : Int) (t t1 : Tok) (fk : Addr) (fo : FnObj) (hfo : (fk, fo.obj) ∈ news) (key : Key w fk news)
   (hm : (l, W.listOf vs.toArray n) ∈ news) (hi' : IntsAre vs ns) (hn : ns.length < 100)
   (hs : ∀ i j : Int, 0 ≤ i → i ≤ j → j < ns.length → ns.getD j.toNat 0 ≤ ns.getD i.toNat 0) :
   DoesK w 165 2 60 news [.ref l, .int (-x) t, .int 0 t1, .none] [(Str.ofString "key", .ref fk)]
     (fun r news' => ∃ k tk, r = .int k tk ∧ news' = news ∧ 0 ≤ k ∧ k ≤ ns.length ∧ (∀ i : Int, 0 ≤ i → i < k → x < ns.getD i.toNat 0) ∧ (∀ i : Int, k ≤ i → i < ns.length → ns.getD i.toNat 0 ≤ x)) := by
  unfold DoesK
  intro p loose mean mg mb dp un gd cn cs ad ccd cl outer A₀ base h₀ L m s Q E B F X N T C1 C2 hk hd hu hret
  have hvl := hi'.length
  unfold FnObj.obj at hfo
  refine wpAny_call ?_
  k_dflt (refine code_def (by k_asm) (by k_asm) (by k_asm) (by k_asm) (by k_asm) (by exact rfl) (by exact rfl) (by first | exact rfl | assumption) (by k_is) (by k_is) (by ktr_room) (by first | exact BindsTo.of_eq rfl | exact kp_binds (by k_in) (fun _ => rfl)) (by exact locs rfl) ?_ (by exact rfl) (by exact rfl) (by exact rfl) (by decide); intro _ _ _ _ _ _ _ _ _; (try dsimp only); (try k_fold))
  refine st_conv (by dsimp only) ?_
  refine tk_any fun tk9 => ?_
  (repeat' (first | (k_unfold; (try dsimp only)) | (k_end; wrow_close) | ((fail_if_success with_reducible (first | refine KswEnd_stop ?_ | refine call_stop ?_ | refine pyIter_stop ?_ | refine while_stop ?_ | refine for_stop ?_ | refine def_stop ?_)); first | ((fail_if_success (fail_if_success (with_reducible refine st_guard ?_))); refine' store_L ?_ ?_ ?_ ?_ ?_ ?_ ?_; rotate_left 5; (first | dsimp only | rfl); (first | dsimp only | rfl); k_asm; k_asm; rfl; rfl; intro _ _ _; k_sweep) | ((with_reducible refine' callWith_F ?_ ?_); exact FnAt.of (by k_asm) (by with_reducible assumption)) | ((with_reducible refine' item_int ?_ ?_ ?_ ?_ ?_ ?_ ?_ ?_); rotate_left 6; k_asm; (first | k_asm | k_mem); k_asm; (first | exact ix0 _ | omega); (first | (refine ix1 ?_ ?_ <;> assumption) | omega | (simp only [List.length_append, List.length_cons, List.length_nil]; omega)); (first | omega | (simp only [List.length_append, List.length_cons, List.length_nil]; omega)); rotate_left; with_unfolding_all rfl; intro _) | ((with_reducible refine' floordiv_D ?_ ?_ ?_); (first | k_asm | omega | decide); (first | k_asm | omega | decide +kernel)) | ((with_reducible refine' len_led ?_ ?_ ?_ ?_); rotate_left 5; k_asm; k_mem; ((try simp only [List.length_replicate]); omega)) | walk1 | (dsimp only; first | ((fail_if_success (fail_if_success (with_reducible refine st_guard ?_))); refine' store_L ?_ ?_ ?_ ?_ ?_ ?_ ?_; rotate_left 5; (first | dsimp only | rfl); (first | dsimp only | rfl); k_asm; k_asm; rfl; rfl; intro _ _ _; k_sweep) | ((with_reducible refine' callWith_F ?_ ?_); exact FnAt.of (by k_asm) (by with_reducible assumption)) | ((with_reducible refine' item_int ?_ ?_ ?_ ?_ ?_ ?_ ?_ ?_); rotate_left 6; k_asm; (first | k_asm | k_mem); k_asm; (first | exact ix0 _ | omega); (first | (refine ix1 ?_ ?_ <;> assumption) | omega | (simp only [List.length_append, List.length_cons, List.length_nil]; omega)); (first | omega | (simp only [List.length_append, List.length_cons, List.length_nil]; omega)); rotate_left; with_unfolding_all rfl; intro _) | ((with_reducible refine' floordiv_D ?_ ?_ ?_); (first | k_asm | omega | decide); (first | k_asm | omega | decide +kernel)) | ((with_reducible refine' len_led ?_ ?_ ?_ ?_); rotate_left 5; k_asm; k_mem; ((try simp only [List.length_replicate]); omega)) | walk1) | (leave1; try dsimp only))))
  refine' ksw_while (σ := Int × Tok × Int × Tok) (fun _ => news) (fun c => [(Str.ofString "lo", .int c.1 c.2.1), (Str.ofString "hi", .int c.2.2.1 c.2.2.2)]) (fun _ => True) [Str.ofString "mid"] (fun c => BilP ns x 0 ns.length c.1 c.2.2.1) (fun c => (c.2.2.1 - c.1).toNat) (0, t1, (vs.length : Int), _) ?F ?N trivial ?hk ?hp ?_
  (case F => k_asm)
  (case N => k_asm)
  (case hk => kst_all)
  (case hp => (dsimp only; exact ⟨by omega, by omega, by omega, fun i _ _ => by omega, fun i _ _ => by omega⟩))
  refine pr4 ?_
  rintro lo' t1' hi' t2' u h tk - P F'' N''
  dsimp only [kstB] at F''
  dsimp only at P
  refine and5 P ?_
  clear P
  intro P1 P2 P3 P4 P5
  have hmid := fdiv2 (lo' + hi')
  (repeat' (first | (k_unfold; (try dsimp only)) | (k_end; wrow_close) | ((fail_if_success with_reducible (first | refine KswEnd_stop ?_ | refine call_stop ?_ | refine pyIter_stop ?_ | refine while_stop ?_ | refine for_stop ?_ | refine def_stop ?_)); first | ((fail_if_success (fail_if_success (with_reducible refine st_guard ?_))); refine' store_L ?_ ?_ ?_ ?_ ?_ ?_ ?_; rotate_left 5; (first | dsimp only | rfl); (first | dsimp only | rfl); k_asm; k_asm; rfl; rfl; intro _ _ _; k_sweep) | ((with_reducible refine' callWith_F ?_ ?_); exact FnAt.of (by k_asm) (by with_reducible assumption)) | ((with_reducible refine' item_int ?_ ?_ ?_ ?_ ?_ ?_ ?_ ?_); rotate_left 6; k_asm; (first | k_asm | k_mem); k_asm; (first | exact ix0 _ | omega); (first | (refine ix1 ?_ ?_ <;> assumption) | omega | (simp only [List.length_append, List.length_cons, List.length_nil]; omega)); (first | omega | (simp only [List.length_append, List.length_cons, List.length_nil]; omega)); rotate_left; with_unfolding_all rfl; intro _) | ((with_reducible refine' floordiv_D ?_ ?_ ?_); (first | k_asm | omega | decide); (first | k_asm | omega | decide +kernel)) | ((with_reducible refine' len_led ?_ ?_ ?_ ?_); rotate_left 5; k_asm; k_mem; ((try simp only [List.length_replicate]); omega)) | walk1 | (dsimp only; first | ((fail_if_success (fail_if_success (with_reducible refine st_guard ?_))); refine' store_L ?_ ?_ ?_ ?_ ?_ ?_ ?_; rotate_left 5; (first | dsimp only | rfl); (first | dsimp only | rfl); k_asm; k_asm; rfl; rfl; intro _ _ _; k_sweep) | ((with_reducible refine' callWith_F ?_ ?_); exact FnAt.of (by k_asm) (by with_reducible assumption)) | ((with_reducible refine' item_int ?_ ?_ ?_ ?_ ?_ ?_ ?_ ?_); rotate_left 6; k_asm; (first | k_asm | k_mem); k_asm; (first | exact ix0 _ | omega); (first | (refine ix1 ?_ ?_ <;> assumption) | omega | (simp only [List.length_append, List.length_cons, List.length_nil]; omega)); (first | omega | (simp only [List.length_append, List.length_cons, List.length_nil]; omega)); rotate_left; with_unfolding_all rfl; intro _) | ((with_reducible refine' floordiv_D ?_ ?_ ?_); (first | k_asm | omega | decide); (first | k_asm | omega | decide +kernel)) | ((with_reducible refine' len_led ?_ ?_ ?_ ?_); rotate_left 5; k_asm; k_mem; ((try simp only [List.length_replicate]); omega)) | walk1) | (leave1; try dsimp only))))
  · (with_unfolding_all refine' Does.use (key _ _) (by k_asm) (by k_asm) (by k_asm) (by k_asm) (by k_asm) (by assumption) (by assumption) (by first | exact rfl | assumption) (by ktr_room) (by ktr_units) ?_)
    intro r9 news9 h9 tk9 F9 N9 O9
    revert N9
    apply int_elim O9
    clear O9
    intro tk N9
    dsimp only
    (repeat' (first | (k_unfold; (try dsimp only)) | (k_end; wrow_close) | ((fail_if_success with_reducible (first | refine KswEnd_stop ?_ | refine call_stop ?_ | refine pyIter_stop ?_ | refine while_stop ?_ | refine for_stop ?_ | refine def_stop ?_)); first | ((fail_if_success (fail_if_success (with_reducible refine st_guard ?_))); refine' store_L ?_ ?_ ?_ ?_ ?_ ?_ ?_; rotate_left 5; (first | dsimp only | rfl); (first | dsimp only | rfl); k_asm; k_asm; rfl; rfl; intro _ _ _; k_sweep) | ((with_reducible refine' callWith_F ?_ ?_); exact FnAt.of (by k_asm) (by with_reducible assumption)) | ((with_reducible refine' item_int ?_ ?_ ?_ ?_ ?_ ?_ ?_ ?_); rotate_left 6; k_asm; (first | k_asm | k_mem); k_asm; (first | exact ix0 _ | omega); (first | (refine ix1 ?_ ?_ <;> assumption) | omega | (simp only [List.length_append, List.length_cons, List.length_nil]; omega)); (first | omega | (simp only [List.length_append, List.length_cons, List.length_nil]; omega)); rotate_left; with_unfolding_all rfl; intro _) | ((with_reducible refine' floordiv_D ?_ ?_ ?_); (first | k_asm | omega | decide); (first | k_asm | omega | decide +kernel)) | ((with_reducible refine' len_led ?_ ?_ ?_ ?_); rotate_left 5; k_asm; k_mem; ((try simp only [List.length_replicate]); omega)) | walk1 | (dsimp only; first | ((fail_if_success (fail_if_success (with_reducible refine st_guard ?_))); refine' store_L ?_ ?_ ?_ ?_ ?_ ?_ ?_; rotate_left 5; (first | dsimp only | rfl); (first | dsimp only | rfl); k_asm; k_asm; rfl; rfl; intro _ _ _; k_sweep) | ((with_reducible refine' callWith_F ?_ ?_); exact FnAt.of (by k_asm) (by with_reducible assumption)) | ((with_reducible refine' item_int ?_ ?_ ?_ ?_ ?_ ?_ ?_ ?_); rotate_left 6; k_asm; (first | k_asm | k_mem); k_asm; (first | exact ix0 _ | omega); (first | (refine ix1 ?_ ?_ <;> assumption) | omega | (simp only [List.length_append, List.length_cons, List.length_nil]; omega)); (first | omega | (simp only [List.length_append, List.length_cons, List.length_nil]; omega)); rotate_left; with_unfolding_all rfl; intro _) | ((with_reducible refine' floordiv_D ?_ ?_ ?_); (first | k_asm | omega | decide); (first | k_asm | omega | decide +kernel)) | ((with_reducible refine' len_led ?_ ?_ ?_ ?_); rotate_left 5; k_asm; k_mem; ((try simp only [List.length_replicate]); omega)) | walk1) | (leave1; try dsimp only))))
    · have hx : -(ns.getD ((lo' + hi').fdiv 2).toNat 0) < -x := by assumption
      refine ksw_end (_, _, _, _) (by k_asm) (by k_asm) (fun p h => h) trivial (by kst_all) (by ksw_same) ?_ (by dsimp only; exact (Int.toNat_lt_toNat (by omega)).mpr (by omega))
      dsimp only
      refine ⟨by omega, by omega, by omega, fun i hi1 hi2 => ?_, P5⟩
      by_cases hc : i < lo'
      · exact P4 i hi1 hc
      · have := hs i ((lo' + hi').fdiv 2) (by omega) (by omega) (by omega)
        omega
    · have hx : ¬ -(ns.getD ((lo' + hi').fdiv 2).toNat 0) < -x := by assumption
      refine ksw_end (_, _, _, _) (by k_asm) (by k_asm) (fun p h => h) trivial (by kst_all) (by ksw_same) ?_ (by dsimp only; exact (Int.toNat_lt_toNat (by omega)).mpr (by omega))
      dsimp only
      refine ⟨by omega, by omega, by omega, P4, fun i hi1 hi2 => ?_⟩
      by_cases hc : i < hi'
      · have := hs ((lo' + hi').fdiv 2) i (by omega) (by omega) (by omega)
        omega
      · exact P5 i (by omega) hi2
  · exact hret _ _ _ _ (by k_asm) (by k_asm) ⟨_, _, rfl, rfl, by omega, by omega, fun i a b => P4 i a b, fun i a b => P5 i (by omega) b⟩
/-- x put into a falling list, ahead of the equal ones -/
noncomputable def insL : List Int → Int → List Int
  | [], x => [x]
  | a :: r, x => if a ≤ x then x :: a :: r else a :: insL r x
theorem insL_eq : ∀ {ns : List Int} {k : Nat} {x : Int}, k ≤ ns.length → (∀ i, i < k → x < ns.getD i 0) → (∀ i, k ≤ i → i < ns.length → ns.getD i 0 ≤ x) → ns.take k ++ x :: ns.drop k = insL ns x
  | [], k, x, hk, _, _ => by simp [insL]
  | a :: r, 0, x, hk, h1, h2 => by
    have := h2 0 (Nat.le_refl _) (by simp)
    simp only [List.getD_cons_zero] at this
    simp [insL, this]
  | a :: r, k + 1, x, hk, h1, h2 => by
    have h0 := h1 0 (Nat.succ_pos _)
    simp only [List.getD_cons_zero] at h0
    have ih := insL_eq (ns := r) (k := k) (x := x) (by simpa using hk) (fun i hi => by simpa using h1 (i + 1) (by omega)) (fun i hi hi2 => by simpa using h2 (i + 1) (by omega) (by simpa using hi2))
    simp only [insL, List.take_succ_cons, List.drop_succ_cons, List.cons_append, ih]
    rw [if_neg (by omega)]
theorem insort_l (w : World) (upd : List Value → Nat → Led) (l : Addr) (vs : List Value) (ns : List Int) (n : Nat) (x : Int) (t : Tok) (fk : Addr) (fo : FnObj) (hfo : (fk, fo.obj) ∈ upd vs n) (key : Key w fk (upd vs n))
   (hU : ∀ vs n vs' n', Upd l (W.listOf vs.toArray n) (W.listOf vs'.toArray n') (upd vs n) (upd vs' n')) (hm : ∀ vs n, (l, W.listOf vs.toArray n) ∈ upd vs n) (hi' : IntsAre vs ns) (hn : ns.length < 100)
   (hs : ∀ i j : Int, 0 ≤ i → i ≤ j → j < ns.length → ns.getD j.toNat 0 ≤ ns.getD i.toNat 0) :
   DoesK w 156 3 100 (upd vs n) [.ref l, .int x t] [(Str.ofString "key", .ref fk)]
     (fun r news' => r = .none ∧ ∃ vs' n', news' = upd vs' n' ∧ IntsAre vs' (insL ns x)) := by
  unfold DoesK
  intro p loose mean mg mb dp un gd cn cs ad ccd cl outer A₀ base h₀ L m s Q E B F X N T C1 C2 hk hd hu hret
  refine wpAny_call ?_
  k_dflt (refine code_def (by k_asm) (by k_asm) (by k_asm) (by k_asm) (by k_asm) (by exact rfl) (by exact rfl) (by first | exact rfl | assumption) (by k_is) (by k_is) (by ktr_room) (by first | exact BindsTo.of_eq rfl | exact kp_binds (by k_in) (fun _ => rfl)) (by exact locs rfl) ?_ (by exact rfl) (by exact rfl) (by exact rfl) (by decide); intro _ _ _ _ _ _ _ _ _; (try dsimp only); (try k_fold))
  refine st_conv (by dsimp only) ?_
  refine tk_any fun tk9 => ?_
  have hvl := hi'.length
  unfold FnObj.obj at hfo
  have hmm := hm vs n
  (repeat' (first | (k_unfold; (try dsimp only)) | (k_end; wrow_close) | ((fail_if_success with_reducible (first | refine KswEnd_stop ?_ | refine call_stop ?_ | refine pyIter_stop ?_ | refine while_stop ?_ | refine for_stop ?_ | refine def_stop ?_)); first | ((fail_if_success (fail_if_success (with_reducible refine st_guard ?_))); refine' store_L ?_ ?_ ?_ ?_ ?_ ?_ ?_; rotate_left 5; (first | dsimp only | rfl); (first | dsimp only | rfl); k_asm; k_asm; rfl; rfl; intro _ _ _; k_sweep) | ((with_reducible refine' callWith_F ?_ ?_); exact FnAt.of (by k_asm) (by with_reducible assumption)) | ((with_reducible refine' item_int ?_ ?_ ?_ ?_ ?_ ?_ ?_ ?_); rotate_left 6; k_asm; (first | k_asm | k_mem); k_asm; (first | exact ix0 _ | omega); (first | (refine ix1 ?_ ?_ <;> assumption) | omega | (simp only [List.length_append, List.length_cons, List.length_nil]; omega)); (first | omega | (simp only [List.length_append, List.length_cons, List.length_nil]; omega)); rotate_left; with_unfolding_all rfl; intro _) | ((with_reducible refine' floordiv_D ?_ ?_ ?_); (first | k_asm | omega | decide); (first | k_asm | omega | decide +kernel)) | ((with_reducible refine' len_led ?_ ?_ ?_ ?_); rotate_left 5; k_asm; k_mem; ((try simp only [List.length_replicate]); omega)) | walk1 | (dsimp only; first | ((fail_if_success (fail_if_success (with_reducible refine st_guard ?_))); refine' store_L ?_ ?_ ?_ ?_ ?_ ?_ ?_; rotate_left 5; (first | dsimp only | rfl); (first | dsimp only | rfl); k_asm; k_asm; rfl; rfl; intro _ _ _; k_sweep) | ((with_reducible refine' callWith_F ?_ ?_); exact FnAt.of (by k_asm) (by with_reducible assumption)) | ((with_reducible refine' item_int ?_ ?_ ?_ ?_ ?_ ?_ ?_ ?_); rotate_left 6; k_asm; (first | k_asm | k_mem); k_asm; (first | exact ix0 _ | omega); (first | (refine ix1 ?_ ?_ <;> assumption) | omega | (simp only [List.length_append, List.length_cons, List.length_nil]; omega)); (first | omega | (simp only [List.length_append, List.length_cons, List.length_nil]; omega)); rotate_left; with_unfolding_all rfl; intro _) | ((with_reducible refine' floordiv_D ?_ ?_ ?_); (first | k_asm | omega | decide); (first | k_asm | omega | decide +kernel)) | ((with_reducible refine' len_led ?_ ?_ ?_ ?_); rotate_left 5; k_asm; k_mem; ((try simp only [List.length_replicate]); omega)) | walk1) | (leave1; try dsimp only))))
  (with_unfolding_all refine' Does.use (key _ _) (by k_asm) (by k_asm) (by k_asm) (by k_asm) (by k_asm) (by assumption) (by assumption) (by first | exact rfl | assumption) (by ktr_room) (by ktr_units) ?_)
  intro r9 news9 h9 tk9 F9 N9 O9
  revert N9
  apply int_elim O9
  clear O9
  intro tk N9
  dsimp only
  (repeat' (first | (k_unfold; (try dsimp only)) | (k_end; wrow_close) | ((fail_if_success with_reducible (first | refine KswEnd_stop ?_ | refine call_stop ?_ | refine pyIter_stop ?_ | refine while_stop ?_ | refine for_stop ?_ | refine def_stop ?_)); first | ((fail_if_success (fail_if_success (with_reducible refine st_guard ?_))); refine' store_L ?_ ?_ ?_ ?_ ?_ ?_ ?_; rotate_left 5; (first | dsimp only | rfl); (first | dsimp only | rfl); k_asm; k_asm; rfl; rfl; intro _ _ _; k_sweep) | ((with_reducible refine' callWith_F ?_ ?_); exact FnAt.of (by k_asm) (by with_reducible assumption)) | ((with_reducible refine' item_int ?_ ?_ ?_ ?_ ?_ ?_ ?_ ?_); rotate_left 6; k_asm; (first | k_asm | k_mem); k_asm; (first | exact ix0 _ | omega); (first | (refine ix1 ?_ ?_ <;> assumption) | omega | (simp only [List.length_append, List.length_cons, List.length_nil]; omega)); (first | omega | (simp only [List.length_append, List.length_cons, List.length_nil]; omega)); rotate_left; with_unfolding_all rfl; intro _) | ((with_reducible refine' floordiv_D ?_ ?_ ?_); (first | k_asm | omega | decide); (first | k_asm | omega | decide +kernel)) | ((with_reducible refine' len_led ?_ ?_ ?_ ?_); rotate_left 5; k_asm; k_mem; ((try simp only [List.length_replicate]); omega)) | walk1 | (dsimp only; first | ((fail_if_success (fail_if_success (with_reducible refine st_guard ?_))); refine' store_L ?_ ?_ ?_ ?_ ?_ ?_ ?_; rotate_left 5; (first | dsimp only | rfl); (first | dsimp only | rfl); k_asm; k_asm; rfl; rfl; intro _ _ _; k_sweep) | ((with_reducible refine' callWith_F ?_ ?_); exact FnAt.of (by k_asm) (by with_reducible assumption)) | ((with_reducible refine' item_int ?_ ?_ ?_ ?_ ?_ ?_ ?_ ?_); rotate_left 6; k_asm; (first | k_asm | k_mem); k_asm; (first | exact ix0 _ | omega); (first | (refine ix1 ?_ ?_ <;> assumption) | omega | (simp only [List.length_append, List.length_cons, List.length_nil]; omega)); (first | omega | (simp only [List.length_append, List.length_cons, List.length_nil]; omega)); rotate_left; with_unfolding_all rfl; intro _) | ((with_reducible refine' floordiv_D ?_ ?_ ?_); (first | k_asm | omega | decide); (first | k_asm | omega | decide +kernel)) | ((with_reducible refine' len_led ?_ ?_ ?_ ?_); rotate_left 5; k_asm; k_mem; ((try simp only [List.length_replicate]); omega)) | walk1) | (leave1; try dsimp only))))
  (with_unfolding_all refine' DoesK.use (bisect_l w (upd vs n) l vs ns n x _ _ fk fo hfo key (hm _ _) hi' hn hs) (by k_asm) (by k_asm) (by k_asm) (by k_asm) (by k_asm) (by assumption) (by assumption) (by first | exact rfl | assumption) (by ktr_room) (by ktr_units) ?_)
  intro r9 news9 h9 tk9 F9 N9 O9
  revert N9
  apply rn2 O9
  clear O9
  intro k tk hO N9
  refine and4 hO ?_
  clear hO
  intro k0 k1 k2 k3
  dsimp only
  (repeat' (first | (k_unfold; (try dsimp only)) | (k_end; wrow_close) | ((fail_if_success with_reducible (first | refine KswEnd_stop ?_ | refine call_stop ?_ | refine pyIter_stop ?_ | refine while_stop ?_ | refine for_stop ?_ | refine def_stop ?_)); first | ((fail_if_success (fail_if_success (with_reducible refine st_guard ?_))); refine' store_L ?_ ?_ ?_ ?_ ?_ ?_ ?_; rotate_left 5; (first | dsimp only | rfl); (first | dsimp only | rfl); k_asm; k_asm; rfl; rfl; intro _ _ _; k_sweep) | ((with_reducible refine' callWith_F ?_ ?_); exact FnAt.of (by k_asm) (by with_reducible assumption)) | ((with_reducible refine' item_int ?_ ?_ ?_ ?_ ?_ ?_ ?_ ?_); rotate_left 6; k_asm; (first | k_asm | k_mem); k_asm; (first | exact ix0 _ | omega); (first | (refine ix1 ?_ ?_ <;> assumption) | omega | (simp only [List.length_append, List.length_cons, List.length_nil]; omega)); (first | omega | (simp only [List.length_append, List.length_cons, List.length_nil]; omega)); rotate_left; with_unfolding_all rfl; intro _) | ((with_reducible refine' floordiv_D ?_ ?_ ?_); (first | k_asm | omega | decide); (first | k_asm | omega | decide +kernel)) | ((with_reducible refine' len_led ?_ ?_ ?_ ?_); rotate_left 5; k_asm; k_mem; ((try simp only [List.length_replicate]); omega)) | walk1 | (dsimp only; first | ((fail_if_success (fail_if_success (with_reducible refine st_guard ?_))); refine' store_L ?_ ?_ ?_ ?_ ?_ ?_ ?_; rotate_left 5; (first | dsimp only | rfl); (first | dsimp only | rfl); k_asm; k_asm; rfl; rfl; intro _ _ _; k_sweep) | ((with_reducible refine' callWith_F ?_ ?_); exact FnAt.of (by k_asm) (by with_reducible assumption)) | ((with_reducible refine' item_int ?_ ?_ ?_ ?_ ?_ ?_ ?_ ?_); rotate_left 6; k_asm; (first | k_asm | k_mem); k_asm; (first | exact ix0 _ | omega); (first | (refine ix1 ?_ ?_ <;> assumption) | omega | (simp only [List.length_append, List.length_cons, List.length_nil]; omega)); (first | omega | (simp only [List.length_append, List.length_cons, List.length_nil]; omega)); rotate_left; with_unfolding_all rfl; intro _) | ((with_reducible refine' floordiv_D ?_ ?_ ?_); (first | k_asm | omega | decide); (first | k_asm | omega | decide +kernel)) | ((with_reducible refine' len_led ?_ ?_ ?_ ?_); rotate_left 5; k_asm; k_mem; ((try simp only [List.length_replicate]); omega)) | walk1) | (leave1; try dsimp only))))
  refine' insert_led ?F ?N ?h0 ?h1 ?U ?hz ?_
  case F => k_asm
  case N => k_asm
  case U => exact hU vs n _ _
  case h0 => exact k0
  case h1 => (have := hi'.length; omega)
  case hz => omega
  intro h' F' N'
  (repeat' (first | (k_unfold; (try dsimp only)) | (k_end; wrow_close) | ((fail_if_success with_reducible (first | refine KswEnd_stop ?_ | refine call_stop ?_ | refine pyIter_stop ?_ | refine while_stop ?_ | refine for_stop ?_ | refine def_stop ?_)); first | ((fail_if_success (fail_if_success (with_reducible refine st_guard ?_))); refine' store_L ?_ ?_ ?_ ?_ ?_ ?_ ?_; rotate_left 5; (first | dsimp only | rfl); (first | dsimp only | rfl); k_asm; k_asm; rfl; rfl; intro _ _ _; k_sweep) | ((with_reducible refine' callWith_F ?_ ?_); exact FnAt.of (by k_asm) (by with_reducible assumption)) | ((with_reducible refine' item_int ?_ ?_ ?_ ?_ ?_ ?_ ?_ ?_); rotate_left 6; k_asm; (first | k_asm | k_mem); k_asm; (first | exact ix0 _ | omega); (first | (refine ix1 ?_ ?_ <;> assumption) | omega | (simp only [List.length_append, List.length_cons, List.length_nil]; omega)); (first | omega | (simp only [List.length_append, List.length_cons, List.length_nil]; omega)); rotate_left; with_unfolding_all rfl; intro _) | ((with_reducible refine' floordiv_D ?_ ?_ ?_); (first | k_asm | omega | decide); (first | k_asm | omega | decide +kernel)) | ((with_reducible refine' len_led ?_ ?_ ?_ ?_); rotate_left 5; k_asm; k_mem; ((try simp only [List.length_replicate]); omega)) | walk1 | (dsimp only; first | ((fail_if_success (fail_if_success (with_reducible refine st_guard ?_))); refine' store_L ?_ ?_ ?_ ?_ ?_ ?_ ?_; rotate_left 5; (first | dsimp only | rfl); (first | dsimp only | rfl); k_asm; k_asm; rfl; rfl; intro _ _ _; k_sweep) | ((with_reducible refine' callWith_F ?_ ?_); exact FnAt.of (by k_asm) (by with_reducible assumption)) | ((with_reducible refine' item_int ?_ ?_ ?_ ?_ ?_ ?_ ?_ ?_); rotate_left 6; k_asm; (first | k_asm | k_mem); k_asm; (first | exact ix0 _ | omega); (first | (refine ix1 ?_ ?_ <;> assumption) | omega | (simp only [List.length_append, List.length_cons, List.length_nil]; omega)); (first | omega | (simp only [List.length_append, List.length_cons, List.length_nil]; omega)); rotate_left; with_unfolding_all rfl; intro _) | ((with_reducible refine' floordiv_D ?_ ?_ ?_); (first | k_asm | omega | decide); (first | k_asm | omega | decide +kernel)) | ((with_reducible refine' len_led ?_ ?_ ?_ ?_); rotate_left 5; k_asm; k_mem; ((try simp only [List.length_replicate]); omega)) | walk1) | (leave1; try dsimp only))))
  refine hret _ _ _ _ (by k_asm) (by k_asm) ⟨rfl, _, _, rfl, ?_⟩
  rw [← insL_eq (ns := ns) (k := k.toNat) (x := x) (by omega) (fun i hi => by have := k2 i (by omega) (by omega); simpa using this) (fun i hi hi2 => by have := k3 i (by omega) (by omega); simpa using this)]
  exact intsAre_append (intsAre_take _ hi') (.cons x t (intsAre_drop _ hi'))

end
section
theorem rst_Lam : True := by w_top off; trivial
open PySem.Calls PySem.Spec
theorem dis_ne {a b : Led} (h : Dis a b) {p q : Addr × Obj} (hq : q ∈ a) (hp : p ∈ b) : p.1 ≠ q.1 := h q hq p hp
section
variable {M : Model} {A : Around} {E : Value → Shared → Prop} {s : Shared} {h₀ : Heap} {L a c P : Addr} {m mg mb : Str → Option Value} {cn : Str} {cs : Scope} {ccd : Value} {cl : List (Str × Addr)} {pre tabs : Led}
  {p : Program} {loose : List Str} {mean : ExcName → Option Value} {name qual : Str} {params : Arguments} {body : PySem.Expr} {scope : Scope} {pos : Pos} {firstLine : Nat} {clos : List (Str × Addr)}
theorem lam_any {Q : Value → Shared → Prop} (F : Fr h₀ L s.heap m) (N : News h₀ L s.heap (pre ++ tabs)) (T : Top p loose mean mg mb h₀) (C : CodeHd h₀ c P) (hcd : ccd = .ref c)
    (hst : TabSt P pos.line pos.col qual tabs) (hd : Dis tabs pre)
    (hcl : closureFor scope (envX cn cs L a ccd cl) = pure clos)
    (h : ∀ f c' oc vs t ctv h' tk, Fr h₀ L h' m →
      News h₀ L h' ((f, kla_obj name qual params body scope clos ((mg "__name__").getD .none) c' ctv) :: (pre ++ [(P, tabObj #[rawInt pos.line, rawInt pos.col, .ref c']), (c', oc)])) →
      oc.data = .fields vs → vs[1]? = some (.str qual t) → (∀ q ∈ pre, q.1 ≠ c') → (∀ q ∈ pre, q.1 < f) → P ≠ f → c' ≠ f → Q (.ref f) { s with heap := h', toks := tk }) :
    wpAny M A (makeFunction name qual params (.expr body) scope (envX cn cs L a ccd cl) [] [] [] pos firstLine) Q E s := by
  have hp : ∀ p ∈ pre, p.1 ≠ P := fun p hp => by
    obtain ⟨o, ho⟩ := hst.mem
    exact hd _ ho p hp
  cases hst with
  | none =>
    refine kla_nest F N T C hcd (updF_app hp (fun _ h => nomatch h)) (by exact True.intro) (by rfl) hcl fun f c' oc vs t ctv h' tk F' N' hcd' hv l1 l2 => ?_
    refine h f c' oc vs t ctv h' tk F' (fun q hq => N' q ?_) hcd' hv (fun q hq => Nat.ne_of_lt (l1 q (List.mem_append_left _ hq))) (fun q hq => Nat.lt_trans (l1 q (List.mem_append_left _ hq)) l2) (Nat.ne_of_lt (Nat.lt_trans (l1 (P, _) (List.mem_append_right _ (.head _))) l2)) (Nat.ne_of_lt l2)
    rcases List.mem_cons.mp hq with rfl | hq
    · exact .head _
    · refine .tail _ ?_
      rcases List.mem_append.mp hq with hq | hq
      · exact .tail _ (List.mem_append_left _ hq)
      · rcases List.mem_cons.mp hq with rfl | hq
        · exact .tail _ (List.mem_append_right _ (.head _))
        · rw [List.mem_singleton.mp hq]; exact .head _
  | one c' oc vs t hcd' hv =>
    refine kla_hit (c' := c') F N T C hcd (ps := #[rawInt pos.line, rawInt pos.col, .ref c']) (List.mem_append_right _ (.head _)) (by simp [TriplesOk, rawInt]) (by simp [codeAmong, rawInt]) hcl fun f ctv h' tk F' N' l1 => ?_
    exact h f c' oc vs t ctv h' tk F' N' hcd' hv (hd (c', oc) (.tail _ (.head _))) (fun q hq => l1 q (List.mem_append_left _ hq)) (Nat.ne_of_lt (l1 (P, _) (List.mem_append_right _ (.head _)))) (Nat.ne_of_lt (l1 (c', oc) (List.mem_append_right _ (.tail _ (.head _)))))
theorem lam_any2 {Q : Value → Shared → Prop} (F : Fr h₀ L s.heap m) (N : News h₀ L s.heap (pre ++ tabs)) (T : Top p loose mean mg mb h₀) (C : CodeHd h₀ c P) (hcd : ccd = .ref c)
    (hst : TabSt P pos.line pos.col qual tabs) (hd : Dis tabs pre)
    (hcl : closureFor scope (envX cn cs L a ccd cl) = pure clos)
    (h : ∀ f c' oc vs t ctv h' tk (fo : FnObj), fo = ⟨name, qual, params, body, scope, clos, (mg "__name__").getD .none, c', ctv⟩ → Fr h₀ L h' m →
      News h₀ L h' ((f, fo.obj) :: (pre ++ [(P, tabObj #[rawInt pos.line, rawInt pos.col, .ref c']), (c', oc)])) →
      oc.data = .fields vs → vs[1]? = some (.str qual t) → (∀ q ∈ pre, q.1 ≠ c') → (∀ q ∈ pre, q.1 < f) → P ≠ f → c' ≠ f → Q (.ref f) { s with heap := h', toks := tk }) :
    wpAny M A (makeFunction name qual params (.expr body) scope (envX cn cs L a ccd cl) [] [] [] pos firstLine) Q E s :=
  lam_any F N T C hcd hst hd hcl fun f c' oc vs t ctv h' tk F' N' a1 a2 a3 a4 a5 a6 => h f c' oc vs t ctv h' tk _ rfl F' N' a1 a2 a3 a4 a5 a6
end
/-- the key «the number's opposite» -/
theorem neg_key (w : World) (news : Led) (f c' : Addr) (oc : Obj) (vs : Array Value) (t : Tok) (name qual : Str) (p1 p2 p3 : Pos) (mo : List (Str × Const)) (pm ctv : Value)
    (ho : (f, kla_obj name qual { posonlyargs := [], args := [{ arg := Str.ofString "cells", annotation := none, pos := p1 }], vararg := none, kwonlyargs := [], kw_defaults := [], kwarg := none, defaults := [] } (.UnaryOp .USub (.Name (Str.ofString "cells") p2) p3) { kind := .function, names := [(Str.ofString "cells", .local)], isGenerator := false, isCoroutine := false, more := mo } [] pm c' ctv) ∈ news)
    (hc : (c', oc) ∈ news) (hd : oc.data = .fields vs) (hv : vs[1]? = some (.str qual t)) : Key w f news := by
  intro x t0
  unfold Does
  intro p loose mean mg mb dp un gd cn cs ad ccd cl outer A₀ base h₀ L m s Q E B F X N T C1 C2 hk hdp hu hret
  refine wpAny_call ?_
  (refine' kla_code ?k1 ?k2 ?k3 ?k4 ?k5 ?kA ?kF ?kK ?k6 ?k7 ?k8 ?k9 ?kB ?_ ?c2 ?c3 ?c4 ?c5; (case kA => exact rfl); (case kF => exact rfl); (case kK => exact hk); (case k1 => k_asm); (case k2 => k_asm); (case k3 => k_asm); (case k4 => k_asm); (case k5 => k_asm); (case k6 => exact ho); (case k7 => exact codeRec_news N hc hd hv); (case k8 => ktr_room); (case k9 => exact rfl); (case c5 => exact fun x hx => by rw [List.mem_singleton.mp hx]; exact fun h => nomatch h); (case kB => exact locs rfl); (case c2 => exact rfl); (case c3 => exact rfl); (case c4 => exact rfl); k_whole; intro g' L' h' FG' F' N' B' X' T'; (try dsimp only); (try k_fold))
  (repeat' (first | (k_unfold; (try dsimp only)) | (k_end; wrow_close) | ((fail_if_success with_reducible (first | refine KswEnd_stop ?_ | refine call_stop ?_ | refine pyIter_stop ?_ | refine while_stop ?_ | refine for_stop ?_ | refine def_stop ?_)); first | ((fail_if_success (fail_if_success (with_reducible refine st_guard ?_))); refine' store_L ?_ ?_ ?_ ?_ ?_ ?_ ?_; rotate_left 5; (first | dsimp only | rfl); (first | dsimp only | rfl); k_asm; k_asm; rfl; rfl; intro _ _ _; k_sweep) | walk1 | (dsimp only; first | ((fail_if_success (fail_if_success (with_reducible refine st_guard ?_))); refine' store_L ?_ ?_ ?_ ?_ ?_ ?_ ?_; rotate_left 5; (first | dsimp only | rfl); (first | dsimp only | rfl); k_asm; k_asm; rfl; rfl; intro _ _ _; k_sweep) | walk1) | (leave1; try dsimp only))))
  exact hret _ _ _ _ (by k_asm) (by k_asm) ⟨⟨_, rfl⟩, rfl⟩

end
section
theorem lit_tab : (Str.ofString "\t").cps.toList = [9] := by decide +kernel
theorem lit_sp : (Str.ofString " ").cps.toList = [32] := by decide +kernel
theorem lit_x : (Str.ofString "x\t ").cps.toList = [120, 9, 32] := by decide +kernel
theorem str_one {x : Str} {c : Nat} (h : x.cps.toList = [c]) : x = ⟨#[c]⟩ := by
  cases x with
  | mk a => exact congrArg Str.mk (Array.toList_inj.mp h)
theorem str_len {x : Str} {l : List Nat} (h : x.cps.toList = l) : x.length = l.length := by
  rw [← h]; simp [Str.length]
section
variable {prog : Program} {w : World} {A : Around} {E : Value → Shared → Prop} {s : Shared} {a b x : Str} {la lb : List Nat} {t u : Tok} {n : Int} {c : Nat} {Q : Value → Shared → Prop}
theorem smul_led (hx : x.cps.toList = [c]) (h1 : 0 ≤ n) (h2 : n ≤ 10000) (h : ∀ (y : Str) t k, y.cps.toList = List.replicate n.toNat c → Q (.str y t) { s with toks := k }) :
    wpAny (model prog w) A (binaryOp .Mult (.str x t) (.int n u)) Q E s := by
  have e := str_one hx
  subst e
  exact SB.mul (mulOk_of 16 10000 (by rw [str_len hx]; exact Nat.succ_le_succ (Nat.zero_le 15)) h2 (by omega) (by decide) (by decide)) fun t' k => h _ t' k (mul_one_list c n)
theorem sadd_led (ha : a.cps.toList = la) (hb : b.cps.toList = lb) (hz : la.length + lb.length ≤ 100000) (h : ∀ (y : Str) t k, y.cps.toList = la ++ lb → Q (.str y t) { s with toks := k }) :
    wpAny (model prog w) A (binaryOp .Add (.str a t) (.str b u)) Q E s :=
  PyProof.Rows.add_str (fun t' k => h _ t' k (by rw [PySem.Str.cps_append, Array.toList_append, ha, hb])) (by rw [str_len ha, str_len hb, PySem.sizeLine_eq]; omega)
theorem siadd_led (ha : a.cps.toList = la) (hb : b.cps.toList = lb) (hz : la.length + lb.length ≤ 100000) (h : ∀ (y : Str) t k, y.cps.toList = la ++ lb → Q (.str y t) { s with toks := k }) :
    wpAny (model prog w) A (inplaceOp .Add (.str a t) (.str b u)) Q E s :=
  PyProof.Rows.iadd_str (fun t' k => h _ t' k (by rw [PySem.Str.cps_append, Array.toList_append, ha, hb])) (by rw [str_len ha, str_len hb, PySem.sizeLine_eq]; omega)
end
/-- the lead's cells: blanks, then a tab, each one blank fewer -/
noncomputable def cellsL : Nat → List Int → List Nat
  | _, [] => []
  | k, c :: r => List.replicate (c + 3 - k).toNat 32 ++ 9 :: cellsL (k + 1) r
theorem cellsL_add : ∀ (k : Nat) (l : List Int) (c : Int), cellsL k (l ++ [c]) = cellsL k l ++ (List.replicate (c + 3 - ((k + l.length : Nat) : Int)).toNat 32 ++ [9])
  | k, [], c => by simp [cellsL]
  | k, x :: r, c => by
    have ih := cellsL_add (k + 1) r c
    have e : k + 1 + r.length = k + (r.length + 1) := by omega
    rw [e] at ih
    simp only [List.cons_append, cellsL, ih, List.append_assoc, List.length_cons]
theorem cellsL_take {ns : List Int} {i : Nat} (h : i < ns.length) : cellsL 0 (ns.take (i + 1)) = cellsL 0 (ns.take i) ++ (List.replicate (ns.getD i 0 + 3 - (i : Int)).toNat 32 ++ [9]) := by
  rw [List.take_succ_eq_append_getElem h, cellsL_add, List.length_take, Nat.min_eq_left (Nat.le_of_lt h), Nat.zero_add]
  rw [List.getD_eq_getElem?_getD, List.getElem?_eq_getElem h, Option.getD_some]
theorem cellsL_all : ∀ (k : Nat) (l : List Int), ∀ c ∈ cellsL k l, c = 32 ∨ c = 9
  | _, [], c, h => by simp [cellsL] at h
  | k, x :: r, c, h => by
    simp only [cellsL, List.mem_append, List.mem_replicate, List.mem_cons] at h
    rcases h with ⟨_, h⟩ | h | h
    · exact .inl h
    · exact .inr h
    · exact cellsL_all _ _ _ h
theorem cellsL_len : ∀ (k : Nat) (l : List Int), (∀ x ∈ l, x ≤ 4) → (cellsL k l).length ≤ 8 * l.length
  | _, [], _ => by simp [cellsL]
  | k, x :: r, h => by
    have h1 := h x (.head _)
    have h2 := cellsL_len (k + 1) r fun y hy => h y (.tail _ hy)
    simp only [cellsL, List.length_append, List.length_replicate, List.length_cons]
    omega
theorem ascii_of {y : Str} (h : ∀ c ∈ y.cps.toList, c < 128) : y.cps.all (· < 128) = true := by
  rw [← Array.all_toList, List.all_eq_true]
  exact fun c hc => decide_eq_true (h c hc)

end

section
theorem rst_Lead : True := by w_top off; trivial
noncomputable abbrev leadL (lone : Int) (ns : List Int) (spare : Int) : List Nat := List.replicate lone.toNat 9 ++ cellsL 0 ns ++ List.replicate spare.toNat 32
theorem law_lead (w : World) (news : Led) (l : Addr) (vs : List Value) (ns : List Int) (n : Nat) (lone spare : Int) (t1 t2 : Tok) (hm : (l, W.listOf vs.toArray n) ∈ news) (hi : IntsAre vs ns) (hn : ns.length = 4) (hc : ∀ x ∈ ns, 0 ≤ x ∧ x ≤ 4) (h1 : 0 ≤ lone) (h2 : lone ≤ 4) (h3 : 0 ≤ spare) (h4 : spare ≤ 4) :
   Does w 186 5 150 news [.int lone t1, .ref l, .int spare t2]
     (fun r news' => ∃ y, WsOut w y (wsp (leadL lone ns spare) ⟨[], 0, 0, 0⟩) news r news') := by
  unfold Does
  intro p loose mean mg mb dp un gd cn cs ad ccd cl outer A₀ base h₀ L m s Q E B F X N T C1 C2 hk hd hu hret
  refine wpAny_call ?_
  k_dflt (refine code_def (by k_asm) (by k_asm) (by k_asm) (by k_asm) (by k_asm) (by exact rfl) (by exact rfl) (by first | exact rfl | assumption) (by k_is) (by k_is) (by ktr_room) (by first | exact BindsTo.of_eq rfl | exact kp_binds (by k_in) (fun _ => rfl)) (by exact locs rfl) ?_ (by exact rfl) (by exact rfl) (by exact rfl) (by decide); intro _ _ _ _ _ _ _ _ _; (try dsimp only); (try k_fold))
  refine st_conv (by dsimp only) ?_
  refine tk_any fun tk9 => ?_
  (repeat' (first | (k_unfold; (try dsimp only)) | (k_end; wrow_close) | ((fail_if_success with_reducible (first | refine KswEnd_stop ?_ | refine call_stop ?_ | refine pyIter_stop ?_ | refine while_stop ?_ | refine for_stop ?_ | refine def_stop ?_)); first | ((fail_if_success (fail_if_success (with_reducible refine st_guard ?_))); refine' store_L ?_ ?_ ?_ ?_ ?_ ?_ ?_; rotate_left 5; (first | dsimp only | rfl); (first | dsimp only | rfl); k_asm; k_asm; rfl; rfl; intro _ _ _; k_sweep) | ((with_reducible refine' siadd_led ?_ ?_ ?_ ?_); rotate_left 2; (first | exact lit_tab | exact lit_sp | exact lit_x | assumption); (first | exact lit_tab | exact lit_sp | exact lit_x | assumption); (simp only [List.length_append, List.length_replicate, List.length_drop, List.length_cons, List.length_nil]; omega); intro _ _ _ _) | ((with_reducible refine' sadd_led ?_ ?_ ?_ ?_); rotate_left 2; (first | exact lit_tab | exact lit_sp | exact lit_x | assumption); (first | exact lit_tab | exact lit_sp | exact lit_x | assumption); (simp only [List.length_append, List.length_replicate, List.length_drop, List.length_cons, List.length_nil]; omega); intro _ _ _ _) | ((with_reducible refine' item_int ?_ ?_ ?_ ?_ ?_ ?_ ?_ ?_); rotate_left 6; k_asm; (first | k_asm | k_mem); k_asm; (first | exact ix0 _ | omega); (first | (refine ix1 ?_ ?_ <;> assumption) | omega | (simp only [List.length_append, List.length_cons, List.length_nil]; omega)); (first | omega | (simp only [List.length_append, List.length_cons, List.length_nil]; omega)); rotate_left; with_unfolding_all rfl; intro _) | ((with_reducible refine' smul_led ?_ ?_ ?_ ?_); rotate_left; (first | exact lit_tab | exact lit_sp | exact lit_x | assumption); (first | with_reducible assumption | omega | assumption); omega; intro _ _ _ _) | walk1 | (dsimp only; first | ((fail_if_success (fail_if_success (with_reducible refine st_guard ?_))); refine' store_L ?_ ?_ ?_ ?_ ?_ ?_ ?_; rotate_left 5; (first | dsimp only | rfl); (first | dsimp only | rfl); k_asm; k_asm; rfl; rfl; intro _ _ _; k_sweep) | ((with_reducible refine' siadd_led ?_ ?_ ?_ ?_); rotate_left 2; (first | exact lit_tab | exact lit_sp | exact lit_x | assumption); (first | exact lit_tab | exact lit_sp | exact lit_x | assumption); (simp only [List.length_append, List.length_replicate, List.length_drop, List.length_cons, List.length_nil]; omega); intro _ _ _ _) | ((with_reducible refine' sadd_led ?_ ?_ ?_ ?_); rotate_left 2; (first | exact lit_tab | exact lit_sp | exact lit_x | assumption); (first | exact lit_tab | exact lit_sp | exact lit_x | assumption); (simp only [List.length_append, List.length_replicate, List.length_drop, List.length_cons, List.length_nil]; omega); intro _ _ _ _) | ((with_reducible refine' item_int ?_ ?_ ?_ ?_ ?_ ?_ ?_ ?_); rotate_left 6; k_asm; (first | k_asm | k_mem); k_asm; (first | exact ix0 _ | omega); (first | (refine ix1 ?_ ?_ <;> assumption) | omega | (simp only [List.length_append, List.length_cons, List.length_nil]; omega)); (first | omega | (simp only [List.length_append, List.length_cons, List.length_nil]; omega)); rotate_left; with_unfolding_all rfl; intro _) | ((with_reducible refine' smul_led ?_ ?_ ?_ ?_); rotate_left; (first | exact lit_tab | exact lit_sp | exact lit_x | assumption); (first | with_reducible assumption | omega | assumption); omega; intro _ _ _ _) | walk1) | (leave1; try dsimp only))))
  refine For_invVF (by k_asm) rfl rfl ?_
  (repeat' (first | (k_unfold; (try dsimp only)) | (k_end; wrow_close) | ((fail_if_success with_reducible (first | refine KswEnd_stop ?_ | refine call_stop ?_ | refine pyIter_stop ?_ | refine while_stop ?_ | refine for_stop ?_ | refine def_stop ?_)); first | ((fail_if_success (fail_if_success (with_reducible refine st_guard ?_))); refine' store_L ?_ ?_ ?_ ?_ ?_ ?_ ?_; rotate_left 5; (first | dsimp only | rfl); (first | dsimp only | rfl); k_asm; k_asm; rfl; rfl; intro _ _ _; k_sweep) | ((with_reducible refine' siadd_led ?_ ?_ ?_ ?_); rotate_left 2; (first | exact lit_tab | exact lit_sp | exact lit_x | assumption); (first | exact lit_tab | exact lit_sp | exact lit_x | assumption); (simp only [List.length_append, List.length_replicate, List.length_drop, List.length_cons, List.length_nil]; omega); intro _ _ _ _) | ((with_reducible refine' sadd_led ?_ ?_ ?_ ?_); rotate_left 2; (first | exact lit_tab | exact lit_sp | exact lit_x | assumption); (first | exact lit_tab | exact lit_sp | exact lit_x | assumption); (simp only [List.length_append, List.length_replicate, List.length_drop, List.length_cons, List.length_nil]; omega); intro _ _ _ _) | ((with_reducible refine' item_int ?_ ?_ ?_ ?_ ?_ ?_ ?_ ?_); rotate_left 6; k_asm; (first | k_asm | k_mem); k_asm; (first | exact ix0 _ | omega); (first | (refine ix1 ?_ ?_ <;> assumption) | omega | (simp only [List.length_append, List.length_cons, List.length_nil]; omega)); (first | omega | (simp only [List.length_append, List.length_cons, List.length_nil]; omega)); rotate_left; with_unfolding_all rfl; intro _) | ((with_reducible refine' smul_led ?_ ?_ ?_ ?_); rotate_left; (first | exact lit_tab | exact lit_sp | exact lit_x | assumption); (first | with_reducible assumption | omega | assumption); omega; intro _ _ _ _) | walk1 | (dsimp only; first | ((fail_if_success (fail_if_success (with_reducible refine st_guard ?_))); refine' store_L ?_ ?_ ?_ ?_ ?_ ?_ ?_; rotate_left 5; (first | dsimp only | rfl); (first | dsimp only | rfl); k_asm; k_asm; rfl; rfl; intro _ _ _; k_sweep) | ((with_reducible refine' siadd_led ?_ ?_ ?_ ?_); rotate_left 2; (first | exact lit_tab | exact lit_sp | exact lit_x | assumption); (first | exact lit_tab | exact lit_sp | exact lit_x | assumption); (simp only [List.length_append, List.length_replicate, List.length_drop, List.length_cons, List.length_nil]; omega); intro _ _ _ _) | ((with_reducible refine' sadd_led ?_ ?_ ?_ ?_); rotate_left 2; (first | exact lit_tab | exact lit_sp | exact lit_x | assumption); (first | exact lit_tab | exact lit_sp | exact lit_x | assumption); (simp only [List.length_append, List.length_replicate, List.length_drop, List.length_cons, List.length_nil]; omega); intro _ _ _ _) | ((with_reducible refine' item_int ?_ ?_ ?_ ?_ ?_ ?_ ?_ ?_); rotate_left 6; k_asm; (first | k_asm | k_mem); k_asm; (first | exact ix0 _ | omega); (first | (refine ix1 ?_ ?_ <;> assumption) | omega | (simp only [List.length_append, List.length_cons, List.length_nil]; omega)); (first | omega | (simp only [List.length_append, List.length_cons, List.length_nil]; omega)); rotate_left; with_unfolding_all rfl; intro _) | ((with_reducible refine' smul_led ?_ ?_ ?_ ?_); rotate_left; (first | exact lit_tab | exact lit_sp | exact lit_x | assumption); (first | with_reducible assumption | omega | assumption); omega; intro _ _ _ _) | walk1) | (leave1; try dsimp only))))
  rename_i y0 ty0 k0 e0 h1x F1 N1 hx tkx t₁ u₁ v₁ hr F2 N2 hkx
  have hvl := hi.length
  refine' loop_range (σ := Str × Tok) (n := 4) (fun _ => news) (fun c => [(Str.ofString "lead", .str c.1 c.2)]) [] (fun i c => c.1.cps.toList = List.replicate lone.toNat 9 ++ cellsL 0 (ns.take i)) (y0, ty0) rfl hr rfl rfl F2 N2 ?hk ?hp ?_ ?_
  case hk => kst_all
  case hp => (dsimp only; rw [List.take_zero]; simp only [cellsL, List.append_nil]; exact e0)
  · rintro ⟨y, ty⟩ i tk0 u h tk I it hi4 P hoff F'' N''
    refine q_any fun Q9 hQ9 => ?_
    dsimp only [kstB] at F''
    dsimp only at P
    have hg : 0 ≤ ns.getD (0 + (i : Int)).toNat 0 ∧ ns.getD (0 + (i : Int)).toNat 0 ≤ 4 := by
      have e : (0 + (i : Int)).toNat = i := z_toNat i
      have hl : i < ns.length := by omega
      rw [e, List.getD_eq_getElem?_getD, List.getElem?_eq_getElem hl, Option.getD_some]
      exact hc _ (List.getElem_mem hl)
    have hlen := cellsL_len 0 (ns.take i) (fun x hx => (hc x (List.mem_of_mem_take hx)).2)
    have hlen2 : (ns.take i).length ≤ 4 := by rw [List.length_take]; omega
    (repeat' (first | (k_unfold; (try dsimp only)) | (k_end; wrow_close) | ((fail_if_success with_reducible (first | refine KswEnd_stop ?_ | refine call_stop ?_ | refine pyIter_stop ?_ | refine while_stop ?_ | refine for_stop ?_ | refine def_stop ?_)); first | ((fail_if_success (fail_if_success (with_reducible refine st_guard ?_))); refine' store_L ?_ ?_ ?_ ?_ ?_ ?_ ?_; rotate_left 5; (first | dsimp only | rfl); (first | dsimp only | rfl); k_asm; k_asm; rfl; rfl; intro _ _ _; k_sweep) | ((with_reducible refine' siadd_led ?_ ?_ ?_ ?_); rotate_left 2; (first | exact lit_tab | exact lit_sp | exact lit_x | assumption); (first | exact lit_tab | exact lit_sp | exact lit_x | assumption); (simp only [List.length_append, List.length_replicate, List.length_drop, List.length_cons, List.length_nil]; omega); intro _ _ _ _) | ((with_reducible refine' sadd_led ?_ ?_ ?_ ?_); rotate_left 2; (first | exact lit_tab | exact lit_sp | exact lit_x | assumption); (first | exact lit_tab | exact lit_sp | exact lit_x | assumption); (simp only [List.length_append, List.length_replicate, List.length_drop, List.length_cons, List.length_nil]; omega); intro _ _ _ _) | ((with_reducible refine' item_int ?_ ?_ ?_ ?_ ?_ ?_ ?_ ?_); rotate_left 6; k_asm; (first | k_asm | k_mem); k_asm; (first | exact ix0 _ | omega); (first | (refine ix1 ?_ ?_ <;> assumption) | omega | (simp only [List.length_append, List.length_cons, List.length_nil]; omega)); (first | omega | (simp only [List.length_append, List.length_cons, List.length_nil]; omega)); rotate_left; with_unfolding_all rfl; intro _) | ((with_reducible refine' smul_led ?_ ?_ ?_ ?_); rotate_left; (first | exact lit_tab | exact lit_sp | exact lit_x | assumption); (first | with_reducible assumption | omega | assumption); omega; intro _ _ _ _) | walk1 | (dsimp only; first | ((fail_if_success (fail_if_success (with_reducible refine st_guard ?_))); refine' store_L ?_ ?_ ?_ ?_ ?_ ?_ ?_; rotate_left 5; (first | dsimp only | rfl); (first | dsimp only | rfl); k_asm; k_asm; rfl; rfl; intro _ _ _; k_sweep) | ((with_reducible refine' siadd_led ?_ ?_ ?_ ?_); rotate_left 2; (first | exact lit_tab | exact lit_sp | exact lit_x | assumption); (first | exact lit_tab | exact lit_sp | exact lit_x | assumption); (simp only [List.length_append, List.length_replicate, List.length_drop, List.length_cons, List.length_nil]; omega); intro _ _ _ _) | ((with_reducible refine' sadd_led ?_ ?_ ?_ ?_); rotate_left 2; (first | exact lit_tab | exact lit_sp | exact lit_x | assumption); (first | exact lit_tab | exact lit_sp | exact lit_x | assumption); (simp only [List.length_append, List.length_replicate, List.length_drop, List.length_cons, List.length_nil]; omega); intro _ _ _ _) | ((with_reducible refine' item_int ?_ ?_ ?_ ?_ ?_ ?_ ?_ ?_); rotate_left 6; k_asm; (first | k_asm | k_mem); k_asm; (first | exact ix0 _ | omega); (first | (refine ix1 ?_ ?_ <;> assumption) | omega | (simp only [List.length_append, List.length_cons, List.length_nil]; omega)); (first | omega | (simp only [List.length_append, List.length_cons, List.length_nil]; omega)); rotate_left; with_unfolding_all rfl; intro _) | ((with_reducible refine' smul_led ?_ ?_ ?_ ?_); rotate_left; (first | exact lit_tab | exact lit_sp | exact lit_x | assumption); (first | with_reducible assumption | omega | assumption); omega; intro _ _ _ _) | walk1) | (leave1; try dsimp only))))
    refine hQ9 _ _ ?_
    refine tpost_next (tend (_, _) (by k_asm) (by k_asm) (by k_mem) (fun p hp => .tail _ hp) hoff (by kst_all) (by kst_same) ?_)
    have e : (0 + (i : Int)).toNat = i := z_toNat i
    have e2 : (0 + (i : Int)) = (i : Int) := by omega
    rename_i q1 q2 q3 q4 q5 q6 q7 q8
    simp only [e, e2] at q5
    dsimp only
    rw [q5, cellsL_take (by omega), List.append_assoc, Int.toNat_natCast]
  · rintro ⟨y, ty⟩ u h tk P F'' N''
    dsimp only [kstB] at F''
    dsimp only at P
    rw [List.take_of_length_le (by omega)] at P
    have hlen := cellsL_len 0 ns (fun x hx => (hc x hx).2)
    (repeat' (first | (k_unfold; (try dsimp only)) | (k_end; wrow_close) | ((fail_if_success with_reducible (first | refine KswEnd_stop ?_ | refine call_stop ?_ | refine pyIter_stop ?_ | refine while_stop ?_ | refine for_stop ?_ | refine def_stop ?_)); first | ((fail_if_success (fail_if_success (with_reducible refine st_guard ?_))); refine' store_L ?_ ?_ ?_ ?_ ?_ ?_ ?_; rotate_left 5; (first | dsimp only | rfl); (first | dsimp only | rfl); k_asm; k_asm; rfl; rfl; intro _ _ _; k_sweep) | ((with_reducible refine' siadd_led ?_ ?_ ?_ ?_); rotate_left 2; (first | exact lit_tab | exact lit_sp | exact lit_x | assumption); (first | exact lit_tab | exact lit_sp | exact lit_x | assumption); (simp only [List.length_append, List.length_replicate, List.length_drop, List.length_cons, List.length_nil]; omega); intro _ _ _ _) | ((with_reducible refine' sadd_led ?_ ?_ ?_ ?_); rotate_left 2; (first | exact lit_tab | exact lit_sp | exact lit_x | assumption); (first | exact lit_tab | exact lit_sp | exact lit_x | assumption); (simp only [List.length_append, List.length_replicate, List.length_drop, List.length_cons, List.length_nil]; omega); intro _ _ _ _) | ((with_reducible refine' item_int ?_ ?_ ?_ ?_ ?_ ?_ ?_ ?_); rotate_left 6; k_asm; (first | k_asm | k_mem); k_asm; (first | exact ix0 _ | omega); (first | (refine ix1 ?_ ?_ <;> assumption) | omega | (simp only [List.length_append, List.length_cons, List.length_nil]; omega)); (first | omega | (simp only [List.length_append, List.length_cons, List.length_nil]; omega)); rotate_left; with_unfolding_all rfl; intro _) | ((with_reducible refine' smul_led ?_ ?_ ?_ ?_); rotate_left; (first | exact lit_tab | exact lit_sp | exact lit_x | assumption); (first | with_reducible assumption | omega | assumption); omega; intro _ _ _ _) | walk1 | (dsimp only; first | ((fail_if_success (fail_if_success (with_reducible refine st_guard ?_))); refine' store_L ?_ ?_ ?_ ?_ ?_ ?_ ?_; rotate_left 5; (first | dsimp only | rfl); (first | dsimp only | rfl); k_asm; k_asm; rfl; rfl; intro _ _ _; k_sweep) | ((with_reducible refine' siadd_led ?_ ?_ ?_ ?_); rotate_left 2; (first | exact lit_tab | exact lit_sp | exact lit_x | assumption); (first | exact lit_tab | exact lit_sp | exact lit_x | assumption); (simp only [List.length_append, List.length_replicate, List.length_drop, List.length_cons, List.length_nil]; omega); intro _ _ _ _) | ((with_reducible refine' sadd_led ?_ ?_ ?_ ?_); rotate_left 2; (first | exact lit_tab | exact lit_sp | exact lit_x | assumption); (first | exact lit_tab | exact lit_sp | exact lit_x | assumption); (simp only [List.length_append, List.length_replicate, List.length_drop, List.length_cons, List.length_nil]; omega); intro _ _ _ _) | ((with_reducible refine' item_int ?_ ?_ ?_ ?_ ?_ ?_ ?_ ?_); rotate_left 6; k_asm; (first | k_asm | k_mem); k_asm; (first | exact ix0 _ | omega); (first | (refine ix1 ?_ ?_ <;> assumption) | omega | (simp only [List.length_append, List.length_cons, List.length_nil]; omega)); (first | omega | (simp only [List.length_append, List.length_cons, List.length_nil]; omega)); rotate_left; with_unfolding_all rfl; intro _) | ((with_reducible refine' smul_led ?_ ?_ ?_ ?_); rotate_left; (first | exact lit_tab | exact lit_sp | exact lit_x | assumption); (first | with_reducible assumption | omega | assumption); omega; intro _ _ _ _) | walk1) | (leave1; try dsimp only))))
    rename_i ya ta ka ea yb tb kb eb yc tc kc ec
    have hall : ∀ k ∈ leadL lone ns spare, k = 32 ∨ k = 9 := by
      intro k hk
      rcases List.mem_append.mp hk with hk | hk
      · rcases List.mem_append.mp hk with hk | hk
        · exact .inr (List.eq_of_mem_replicate hk)
        · exact cellsL_all _ _ _ hk
      · exact .inl (List.eq_of_mem_replicate hk)
    have hasc : yc.cps.all (· < 128) = true := by
      refine ascii_of fun c hc => ?_
      rw [ec] at hc
      rcases List.mem_append.mp hc with hc | hc
      · rcases hall c hc with h | h <;> omega
      · simp only [List.mem_cons, List.not_mem_nil, or_false] at hc
        omega
    (with_unfolding_all refine' Does.use (wsp_new w news yc tc (leadL lone ns spare) [9, 32] (by rw [ec]) hall (by simp only [List.length_append, List.length_replicate]; omega) hasc) (by k_asm) (by k_asm) (by k_asm) (by k_asm) (by k_asm) (by assumption) (by assumption) (by first | exact rfl | assumption) (by ktr_room) (by ktr_units) ?_)
    intro r9 news9 h9 tk9 F9 N9 O9
    obtain ⟨x9, hr9⟩ := wsOut_ref O9
    subst hr9
    dsimp only
    (repeat' (first | (k_unfold; (try dsimp only)) | (k_end; wrow_close) | ((fail_if_success with_reducible (first | refine KswEnd_stop ?_ | refine call_stop ?_ | refine pyIter_stop ?_ | refine while_stop ?_ | refine for_stop ?_ | refine def_stop ?_)); first | ((fail_if_success (fail_if_success (with_reducible refine st_guard ?_))); refine' store_L ?_ ?_ ?_ ?_ ?_ ?_ ?_; rotate_left 5; (first | dsimp only | rfl); (first | dsimp only | rfl); k_asm; k_asm; rfl; rfl; intro _ _ _; k_sweep) | ((with_reducible refine' siadd_led ?_ ?_ ?_ ?_); rotate_left 2; (first | exact lit_tab | exact lit_sp | exact lit_x | assumption); (first | exact lit_tab | exact lit_sp | exact lit_x | assumption); (simp only [List.length_append, List.length_replicate, List.length_drop, List.length_cons, List.length_nil]; omega); intro _ _ _ _) | ((with_reducible refine' sadd_led ?_ ?_ ?_ ?_); rotate_left 2; (first | exact lit_tab | exact lit_sp | exact lit_x | assumption); (first | exact lit_tab | exact lit_sp | exact lit_x | assumption); (simp only [List.length_append, List.length_replicate, List.length_drop, List.length_cons, List.length_nil]; omega); intro _ _ _ _) | ((with_reducible refine' item_int ?_ ?_ ?_ ?_ ?_ ?_ ?_ ?_); rotate_left 6; k_asm; (first | k_asm | k_mem); k_asm; (first | exact ix0 _ | omega); (first | (refine ix1 ?_ ?_ <;> assumption) | omega | (simp only [List.length_append, List.length_cons, List.length_nil]; omega)); (first | omega | (simp only [List.length_append, List.length_cons, List.length_nil]; omega)); rotate_left; with_unfolding_all rfl; intro _) | ((with_reducible refine' smul_led ?_ ?_ ?_ ?_); rotate_left; (first | exact lit_tab | exact lit_sp | exact lit_x | assumption); (first | with_reducible assumption | omega | assumption); omega; intro _ _ _ _) | walk1 | (dsimp only; first | ((fail_if_success (fail_if_success (with_reducible refine st_guard ?_))); refine' store_L ?_ ?_ ?_ ?_ ?_ ?_ ?_; rotate_left 5; (first | dsimp only | rfl); (first | dsimp only | rfl); k_asm; k_asm; rfl; rfl; intro _ _ _; k_sweep) | ((with_reducible refine' siadd_led ?_ ?_ ?_ ?_); rotate_left 2; (first | exact lit_tab | exact lit_sp | exact lit_x | assumption); (first | exact lit_tab | exact lit_sp | exact lit_x | assumption); (simp only [List.length_append, List.length_replicate, List.length_drop, List.length_cons, List.length_nil]; omega); intro _ _ _ _) | ((with_reducible refine' sadd_led ?_ ?_ ?_ ?_); rotate_left 2; (first | exact lit_tab | exact lit_sp | exact lit_x | assumption); (first | exact lit_tab | exact lit_sp | exact lit_x | assumption); (simp only [List.length_append, List.length_replicate, List.length_drop, List.length_cons, List.length_nil]; omega); intro _ _ _ _) | ((with_reducible refine' item_int ?_ ?_ ?_ ?_ ?_ ?_ ?_ ?_); rotate_left 6; k_asm; (first | k_asm | k_mem); k_asm; (first | exact ix0 _ | omega); (first | (refine ix1 ?_ ?_ <;> assumption) | omega | (simp only [List.length_append, List.length_cons, List.length_nil]; omega)); (first | omega | (simp only [List.length_append, List.length_cons, List.length_nil]; omega)); rotate_left; with_unfolding_all rfl; intro _) | ((with_reducible refine' smul_led ?_ ?_ ?_ ?_); rotate_left; (first | exact lit_tab | exact lit_sp | exact lit_x | assumption); (first | with_reducible assumption | omega | assumption); omega; intro _ _ _ _) | walk1) | (leave1; try dsimp only))))
    exact hret _ _ _ _ (by k_asm) (by k_asm) ⟨_, O9⟩
theorem lead_elim {w : World} {g : WSt} {news news' : Led} {r : Value} {G : Value → Led → Prop} (O : ∃ y, WsOut w y g news r news')
    (h : ∀ (x d c n : Addr) (vs : List Value) (v1 v2 v3 v4 : Value) (k1 k2 k3 k4 k5 t1 : Tok), IntsAre vs g.c → (∀ p ∈ news, p.1 < d) → d < x → x < c → c < n →
      G (.ref x) ((n, tup2 (.ref c) (.int g.b t1)) :: (c, tupOf vs) :: (x, instObj 83 d) :: (d, wsDict w n v1 v2 v3 v4 k1 k2 k3 k4 k5) :: news)) : G r news' := by
  obtain ⟨y, x, d, c, n, vs, v1, v2, v3, v4, k1, k2, k3, k4, k5, t1, h1, h2, h3, h4, h5⟩ := O
  exact h x d c n vs v1 v2 v3 v4 k1 k2 k3 k4 k5 t1 h1 h2 h3 h4 h5

end
section
noncomputable def levFn (P : Params) : FuncData := match (Mine.hd.heap_1 P).lookup 179 with | some o => (match o.data with | .func f => f | _ => default) | none => default
noncomputable def levBody (P : Params) : List Stmt := match (levFn P).body with | .stmts b => b | _ => []
noncomputable def levEnv (w : World) (L : Addr) : Env := envOf (Str.ofString "_levenshtein_distance") (levFn w.params).scope L 179 (.ref 178)
noncomputable def levE (w : World) (A : Around) (env : Env) (R : Value → Shared → Prop) : Value → Shared → Prop := fun e s' =>
  wpAny (model PR w) (A.deeper env) (leaving env e) (fun _ s'' => R e s'') (fun e' s'' => R e' s'') s'
/-- the distance's body from its statement k on -/
noncomputable def LevAt (w : World) (A : Around) (L : Addr) (k : Nat) (Q : Flow → Shared → Prop) (E : Value → Shared → Prop) (s : Shared) : Prop :=
  wpAny (model PR w) (A.deeper (levEnv w L)) (execs ((levBody w.params).drop k) (levEnv w L)) Q (levE w A (levEnv w L) E) s
theorem lev_start {w : World} {A : Around} {L : Addr} {k : Nat} {Q : Flow → Shared → Prop} {E : Value → Shared → Prop} {s : Shared} {a : Stmt} {r : List Stmt} {a1 : ScopeKind} {n : List (Str × NameKind)} {b c : Bool} {d : List (Str × Const)}
    (e1 : (levBody w.params).drop k = a :: r) (e2 : (levFn w.params).scope = ⟨a1, n, b, c, d⟩)
    (h : let ek : Value → Shared → Prop := (fun e s' => wpAny (model PR w) (A.deeper (envOf (Str.ofString "_levenshtein_distance") ⟨a1, n, b, c, d⟩ L 179 (.ref 178))) (leaving (envOf (Str.ofString "_levenshtein_distance") ⟨a1, n, b, c, d⟩ L 179 (.ref 178)) e) (fun _ s'' => E e s'') (fun e' s'' => E e' s'') s')
      wpAny (model PR w) (A.deeper (envOf (Str.ofString "_levenshtein_distance") ⟨a1, n, b, c, d⟩ L 179 (.ref 178))) (execs (a :: r) (envOf (Str.ofString "_levenshtein_distance") ⟨a1, n, b, c, d⟩ L 179 (.ref 178))) Q ek s) : LevAt w A L k Q E s := by
  unfold LevAt levE levEnv
  rw [e1, e2]
  exact h

end
section
theorem rst_Lin : True := by w_top off; trivial
noncomputable abbrev linesStep (acc : List Int) (c : Nat) : List Int := acc ++ [acc.getD (acc.length - 1) 0 + (if c = 32 then 1 else -1)]
/-- the heights along the rim -/
noncomputable def linesF (l : List Nat) : List Int := l.foldl linesStep [4]
theorem linesF_snoc (l : List Nat) (c : Nat) : linesF (l ++ [c]) = linesStep (linesF l) c := by
  unfold linesF; rw [List.foldl_append]; rfl
theorem linesF_len (l : List Nat) : (linesF l).length = l.length + 1 := by
  have h : ∀ (l : List Nat) (acc : List Int), (l.foldl linesStep acc).length = acc.length + l.length := by
    intro l
    induction l with
    | nil => intro acc; simp
    | cons c r ih => intro acc; rw [List.foldl_cons, ih, List.length_append, List.length_singleton, List.length_cons]; omega
  unfold linesF; rw [h]; simp; omega
structure LSg where
  vs : List Value
  n : Nat
theorem law_lines (w : World) (news : Led) (y : Str) (t : Tok) (hc : ∀ c ∈ y.cps.toList, c = 32 ∨ c = 9) (hl : y.cps.toList.length ≤ 50) :
   Does w 203 3 80 news [.str y t]
     (fun r news' => ∃ D vs n, r = .ref D ∧ news' = (D, W.listOf vs.toArray n) :: news ∧ (∀ p ∈ news, p.1 < D) ∧ IntsAre vs (linesF y.cps.toList)) := by
  unfold Does
  intro p loose mean mg mb dp un gd cn cs ad ccd cl outer A₀ base h₀ L m s Q E B F X N T C1 C2 hk hd hu hret
  have ha : y.cps.all (· < 128) = true := by
    rw [← Array.all_toList, List.all_eq_true]
    exact fun c h => decide_eq_true (by rcases hc c h with h | h <;> omega)
  refine wpAny_call ?_
  k_dflt (refine code_def (by k_asm) (by k_asm) (by k_asm) (by k_asm) (by k_asm) (by exact rfl) (by exact rfl) (by first | exact rfl | assumption) (by k_is) (by k_is) (by ktr_room) (by first | exact BindsTo.of_eq rfl | exact kp_binds (by k_in) (fun _ => rfl)) (by exact locs rfl) ?_ (by exact rfl) (by exact rfl) (by exact rfl) (by decide); intro _ _ _ _ _ _ _ _ _; (try dsimp only); (try k_fold))
  refine st_conv (by dsimp only) ?_
  refine tk_any fun tk9 => ?_
  (repeat' (first | (k_unfold; (try dsimp only)) | (k_end; wrow_close) | ((fail_if_success with_reducible (first | refine KswEnd_stop ?_ | refine call_stop ?_ | refine pyIter_stop ?_ | refine while_stop ?_ | refine for_stop ?_ | refine def_stop ?_)); first | ((fail_if_success (fail_if_success (with_reducible refine st_guard ?_))); refine' store_L ?_ ?_ ?_ ?_ ?_ ?_ ?_; rotate_left 5; (first | dsimp only | rfl); (first | dsimp only | rfl); k_asm; k_asm; rfl; rfl; intro _ _ _; k_sweep) | ((with_reducible refine' append_led ?_ ?_ ?_ ?_ ?_); rotate_left 7; k_asm; k_asm; k_upd; ((try dsimp only [List.length_cons, List.length_nil, List.length_append]); omega); intro _ _ _; k_sweep) | walk1 | (dsimp only; first | ((fail_if_success (fail_if_success (with_reducible refine st_guard ?_))); refine' store_L ?_ ?_ ?_ ?_ ?_ ?_ ?_; rotate_left 5; (first | dsimp only | rfl); (first | dsimp only | rfl); k_asm; k_asm; rfl; rfl; intro _ _ _; k_sweep) | ((with_reducible refine' append_led ?_ ?_ ?_ ?_ ?_); rotate_left 7; k_asm; k_asm; k_upd; ((try dsimp only [List.length_cons, List.length_nil, List.length_append]); omega); intro _ _ _; k_sweep) | walk1) | (leave1; try dsimp only))))
  refine For_invVF (by k_asm) rfl rfl ?_
  (repeat' (first | (k_unfold; (try dsimp only)) | (k_end; wrow_close) | ((fail_if_success with_reducible (first | refine KswEnd_stop ?_ | refine call_stop ?_ | refine pyIter_stop ?_ | refine while_stop ?_ | refine for_stop ?_ | refine def_stop ?_)); first | ((fail_if_success (fail_if_success (with_reducible refine st_guard ?_))); refine' store_L ?_ ?_ ?_ ?_ ?_ ?_ ?_; rotate_left 5; (first | dsimp only | rfl); (first | dsimp only | rfl); k_asm; k_asm; rfl; rfl; intro _ _ _; k_sweep) | ((with_reducible refine' append_led ?_ ?_ ?_ ?_ ?_); rotate_left 7; k_asm; k_asm; k_upd; ((try dsimp only [List.length_cons, List.length_nil, List.length_append]); omega); intro _ _ _; k_sweep) | walk1 | (dsimp only; first | ((fail_if_success (fail_if_success (with_reducible refine st_guard ?_))); refine' store_L ?_ ?_ ?_ ?_ ?_ ?_ ?_; rotate_left 5; (first | dsimp only | rfl); (first | dsimp only | rfl); k_asm; k_asm; rfl; rfl; intro _ _ _; k_sweep) | ((with_reducible refine' append_led ?_ ?_ ?_ ?_ ?_); rotate_left 7; k_asm; k_asm; k_upd; ((try dsimp only [List.length_cons, List.length_nil, List.length_append]); omega); intro _ _ _; k_sweep) | walk1) | (leave1; try dsimp only))))
  rename_i g1 L1 h1 FG1 B1 X1 T1 D h2 l1 h3 F1 N1
  have hoD : ∀ p ∈ news, p.1 ≠ D := fresh0 l1
  refine' loop_str (σ := LSg) (fun c => (D, W.listOf c.vs.toArray c.n) :: news) (fun _ => []) [] (fun i c => IntsAre c.vs (linesF (y.cps.toList.take i))) ⟨[.int 4 tk9], 0⟩ rfl ha F1 N1 ?hk ?hp ?_ ?_
  case hk => kst_all
  case hp => exact .cons _ _ .nil
  · rintro ⟨vs1, n1⟩ i k tk0 u h tk I it hk1 P hoff F'' N''
    refine q_any fun Q9 hQ9 => ?_
    dsimp only [kstB] at F''
    dsimp only at P N'' hoff
    have hi1 : i < y.cps.toList.length := by
      have : y.cps.toList[i]? = some k := by simpa using hk1
      exact (List.getElem?_eq_some_iff.mp this).1
    have hk2 : y.cps.toList.take (i + 1) = y.cps.toList.take i ++ [k] := by
      have : y.cps.toList[i]? = some k := by simpa using hk1
      rw [List.take_succ, this]; rfl
    have hk3 : k = 32 ∨ k = 9 := hc k (by
      have : y.cps.toList[i]? = some k := by simpa using hk1
      exact List.mem_of_getElem? this)
    have hln := linesF_len (y.cps.toList.take i)
    have hlt : (y.cps.toList.take i).length ≤ 50 := by rw [List.length_take]; omega
    have hvl := P.length
    have nI : @Ne Nat I D := (hoff _ (.head _)).symm
    have nJ : @Ne Nat D I := hoff _ (.head _)
    rcases hk3 with rfl | rfl
    · (repeat' (first | (k_unfold; (try dsimp only)) | (k_end; wrow_close) | ((fail_if_success with_reducible (first | refine KswEnd_stop ?_ | refine call_stop ?_ | refine pyIter_stop ?_ | refine while_stop ?_ | refine for_stop ?_ | refine def_stop ?_)); first | ((fail_if_success (fail_if_success (with_reducible refine st_guard ?_))); refine' store_L ?_ ?_ ?_ ?_ ?_ ?_ ?_; rotate_left 5; (first | dsimp only | rfl); (first | dsimp only | rfl); k_asm; k_asm; rfl; rfl; intro _ _ _; k_sweep) | ((with_reducible refine' append_led ?_ ?_ ?_ ?_ ?_); rotate_left 7; k_asm; k_asm; k_upd; ((try dsimp only [List.length_cons, List.length_nil, List.length_append]); omega); intro _ _ _; k_sweep) | walk1 | (dsimp only; first | ((fail_if_success (fail_if_success (with_reducible refine st_guard ?_))); refine' store_L ?_ ?_ ?_ ?_ ?_ ?_ ?_; rotate_left 5; (first | dsimp only | rfl); (first | dsimp only | rfl); k_asm; k_asm; rfl; rfl; intro _ _ _; k_sweep) | ((with_reducible refine' append_led ?_ ?_ ?_ ?_ ?_); rotate_left 7; k_asm; k_asm; k_upd; ((try dsimp only [List.length_cons, List.length_nil, List.length_append]); omega); intro _ _ _; k_sweep) | walk1) | (leave1; try dsimp only))))
      refine hQ9 _ _ ?_
      refine tpost_next (tend ⟨_, _⟩ (by k_asm) (by k_asm) (by k_mem) (fun p hp => .tail _ hp) (fa_cons nJ (fun p hp => hoff p (.tail _ hp))) (by kst_all) (by kst_same) ?_)
      dsimp only
      rw [hk2, linesF_snoc]
      have e : (-1 + ((linesF (y.cps.toList.take i)).length : Int)).toNat = (linesF (y.cps.toList.take i)).length - 1 := by rw [Int.add_comm]; exact Int.toNat_sub _ 1
      unfold linesStep
      rw [e, if_pos rfl]
      exact intsAre_append P (.cons _ _ .nil)
    · (repeat' (first | (k_unfold; (try dsimp only)) | (k_end; wrow_close) | ((fail_if_success with_reducible (first | refine KswEnd_stop ?_ | refine call_stop ?_ | refine pyIter_stop ?_ | refine while_stop ?_ | refine for_stop ?_ | refine def_stop ?_)); first | ((fail_if_success (fail_if_success (with_reducible refine st_guard ?_))); refine' store_L ?_ ?_ ?_ ?_ ?_ ?_ ?_; rotate_left 5; (first | dsimp only | rfl); (first | dsimp only | rfl); k_asm; k_asm; rfl; rfl; intro _ _ _; k_sweep) | ((with_reducible refine' append_led ?_ ?_ ?_ ?_ ?_); rotate_left 7; k_asm; k_asm; k_upd; ((try dsimp only [List.length_cons, List.length_nil, List.length_append]); omega); intro _ _ _; k_sweep) | walk1 | (dsimp only; first | ((fail_if_success (fail_if_success (with_reducible refine st_guard ?_))); refine' store_L ?_ ?_ ?_ ?_ ?_ ?_ ?_; rotate_left 5; (first | dsimp only | rfl); (first | dsimp only | rfl); k_asm; k_asm; rfl; rfl; intro _ _ _; k_sweep) | ((with_reducible refine' append_led ?_ ?_ ?_ ?_ ?_); rotate_left 7; k_asm; k_asm; k_upd; ((try dsimp only [List.length_cons, List.length_nil, List.length_append]); omega); intro _ _ _; k_sweep) | walk1) | (leave1; try dsimp only))))
      refine hQ9 _ _ ?_
      refine tpost_next (tend ⟨_, _⟩ (by k_asm) (by k_asm) (by k_mem) (fun p hp => .tail _ hp) (fa_cons nJ (fun p hp => hoff p (.tail _ hp))) (by kst_all) (by kst_same) ?_)
      dsimp only
      rw [hk2, linesF_snoc]
      have e : (-1 + ((linesF (y.cps.toList.take i)).length : Int)).toNat = (linesF (y.cps.toList.take i)).length - 1 := by rw [Int.add_comm]; exact Int.toNat_sub _ 1
      unfold linesStep
      rw [e, if_neg (by decide), ← Int.sub_eq_add_neg]
      exact intsAre_append P (.cons _ _ .nil)
  · rintro ⟨vs1, n1⟩ u h tk P F'' N''
    dsimp only [kstB] at F''
    dsimp only at P N''
    have e : y.cps.toList.take y.cps.size = y.cps.toList := by rw [← Array.length_toList, List.take_length]
    rw [e] at P
    (repeat' (first | (k_unfold; (try dsimp only)) | (k_end; wrow_close) | ((fail_if_success with_reducible (first | refine KswEnd_stop ?_ | refine call_stop ?_ | refine pyIter_stop ?_ | refine while_stop ?_ | refine for_stop ?_ | refine def_stop ?_)); first | ((fail_if_success (fail_if_success (with_reducible refine st_guard ?_))); refine' store_L ?_ ?_ ?_ ?_ ?_ ?_ ?_; rotate_left 5; (first | dsimp only | rfl); (first | dsimp only | rfl); k_asm; k_asm; rfl; rfl; intro _ _ _; k_sweep) | ((with_reducible refine' append_led ?_ ?_ ?_ ?_ ?_); rotate_left 7; k_asm; k_asm; k_upd; ((try dsimp only [List.length_cons, List.length_nil, List.length_append]); omega); intro _ _ _; k_sweep) | walk1 | (dsimp only; first | ((fail_if_success (fail_if_success (with_reducible refine st_guard ?_))); refine' store_L ?_ ?_ ?_ ?_ ?_ ?_ ?_; rotate_left 5; (first | dsimp only | rfl); (first | dsimp only | rfl); k_asm; k_asm; rfl; rfl; intro _ _ _; k_sweep) | ((with_reducible refine' append_led ?_ ?_ ?_ ?_ ?_); rotate_left 7; k_asm; k_asm; k_upd; ((try dsimp only [List.length_cons, List.length_nil, List.length_append]); omega); intro _ _ _; k_sweep) | walk1) | (leave1; try dsimp only))))
    exact hret _ _ _ _ (by k_asm) (by k_asm) ⟨_, _, _, rfl, rfl, l1, P⟩

end
section
/-- polynomials by their coefficients -/
noncomputable def pev : List Int → Int → Int
  | [], _ => 0
  | a :: r, B => a + B * pev r B
noncomputable def padd : List Int → List Int → List Int
  | [], q => q
  | a :: p, [] => a :: p
  | a :: p, b :: q => (a + b) :: padd p q
noncomputable def pmul (c : Int) (p : List Int) : List Int := padd (0 :: p) (p.map (c * ·))
noncomputable def ppow (c : Int) : Nat → List Int → List Int
  | 0, p => p
  | n + 1, p => ppow c n (pmul c p)
theorem pev_add (B : Int) : ∀ p q : List Int, pev (padd p q) B = pev p B + pev q B
  | [], q => by simp [padd, pev]
  | a :: p, [] => by simp [padd, pev]
  | a :: p, b :: q => by
    rw [padd, pev, pev, pev, pev_add B p q, Int.mul_add]; omega
theorem pev_scale (B c : Int) : ∀ p : List Int, pev (p.map (c * ·)) B = c * pev p B
  | [] => by simp [pev]
  | a :: p => by
    rw [List.map_cons, pev, pev, pev_scale B c p, Int.mul_add, Int.mul_left_comm]
theorem pev_mul (B c : Int) (p : List Int) : pev (pmul c p) B = (B + c) * pev p B := by
  unfold pmul
  rw [pev_add, pev_scale, pev, Int.add_mul]; omega
theorem pev_pow (B c : Int) : ∀ (n : Nat) (p : List Int), pev (ppow c n p) B = pev p B * (B + c) ^ n
  | 0, p => by simp [ppow]
  | n + 1, p => by
    rw [ppow, pev_pow B c n, pev_mul, Int.pow_succ, Int.mul_comm (B + c), Int.mul_assoc, Int.mul_comm (B + c)]
theorem pev_zeros (B : Int) : ∀ (p : List Int) (k : Nat), pev (p ++ List.replicate k 0) B = pev p B
  | [], 0 => rfl
  | [], k + 1 => by
    have := pev_zeros B [] k
    rw [List.nil_append] at this
    rw [List.nil_append, List.replicate_succ]
    show 0 + B * pev (List.replicate k 0) B = 0
    rw [this]; show 0 + B * 0 = 0; omega
  | a :: p, k => by rw [List.cons_append, pev, pev, pev_zeros B p k]
theorem und_pev (n : Int) : ∀ l : List Int, und n l = pev l (2 ^ n.toNat)
  | [] => rfl
  | a :: l => by rw [und, pev, und_pev n l]
theorem und_inj {n : Int} : ∀ {a b : List Int}, a.length = b.length → (∀ x ∈ a, 0 ≤ x ∧ x < 2 ^ n.toNat) → (∀ x ∈ b, 0 ≤ x ∧ x < 2 ^ n.toNat) → und n a = und n b → a = b
  | [], [], _, _, _, _ => rfl
  | x :: a, y :: b, hl, ha, hb, h => by
    rw [und, und] at h
    have hp := two_pow_pos n.toNat
    have h1 := ha x (.head _)
    have h2 := hb y (.head _)
    have e1 : (x + 2 ^ n.toNat * und n a) % (2 : Int) ^ n.toNat = (y + 2 ^ n.toNat * und n b) % (2 : Int) ^ n.toNat := by rw [h]
    rw [Int.add_mul_emod_self_left, Int.add_mul_emod_self_left, Int.emod_eq_of_lt h1.1 h1.2, Int.emod_eq_of_lt h2.1 h2.2] at e1
    subst e1
    have e2 : und n a = und n b := by
      have : (2 : Int) ^ n.toNat * und n a = 2 ^ n.toNat * und n b := by omega
      exact Int.eq_of_mul_eq_mul_left (Int.ne_of_gt hp) this
    rw [und_inj (by simpa using hl) (fun z hz => ha z (.tail _ hz)) (fun z hz => hb z (.tail _ hz)) e2]
/-- the digits of a number, from its top digit -/
theorem bits_len {n : Int} (hn : 0 < n) {l : List Int} {x : Int} (h : ∀ y ∈ l ++ [x], 0 ≤ y ∧ y < 2 ^ n.toNat) (hx : 0 < x) :
    ((Builtin.Int.intBits (und n (l ++ [x])) : Int) + n - 1).fdiv n = l.length + 1 ∧ Builtin.Int.intBits (und n (l ++ [x])) ≤ n.toNat * (l.length + 1) ∧ 0 ≤ und n (l ++ [x]) := by
  have h1 := und_bound (n := n) h
  rw [List.length_append, List.length_singleton] at h1
  have h2 := bits_of_lt h1.1 h1.2
  have h3 : n.toNat * l.length < Builtin.Int.intBits (und n (l ++ [x])) := by
    rcases Nat.lt_or_ge (n.toNat * l.length) (Builtin.Int.intBits (und n (l ++ [x]))) with h4 | h4
    · exact h4
    · exfalso
      have h5 := lt_of_bits h1.1 h4
      have h6 := (und_bound (n := n) (a := l) fun z hz => h z (List.mem_append_left _ hz)).1
      have hp := two_pow_pos (n.toNat * l.length)
      rw [und_app, und_one] at h5
      have h7 := Int.mul_le_mul_of_nonneg_left (Int.add_one_le_of_lt hx) (Int.le_of_lt hp)
      rw [Int.zero_add, Int.mul_one] at h7
      omega
  refine ⟨?_, h2, h1.1⟩
  generalize hb : Builtin.Int.intBits (und n (l ++ [x])) = bb at h2 h3
  have e1 : ((n.toNat * l.length : Nat) : Int) = n * l.length := by rw [Int.natCast_mul, Int.toNat_of_nonneg (Int.le_of_lt hn)]
  have e2 : ((n.toNat * (l.length + 1) : Nat) : Int) = n * (l.length + 1) := by rw [Int.natCast_mul, Int.toNat_of_nonneg (Int.le_of_lt hn)]; rfl
  have h2' : (bb : Int) ≤ n * (l.length + 1) := by rw [← e2]; exact Int.ofNat_le.mpr h2
  have h3' : n * l.length + 1 ≤ (bb : Int) := by rw [← e1]; exact Int.ofNat_le.mpr h3
  rw [Int.fdiv_eq_ediv_of_nonneg _ (Int.le_of_lt hn)]
  rw [Int.mul_add, Int.mul_one] at h2'
  have e3 : (bb : Int) + n - 1 = (bb - n * l.length - 1) + n * (l.length + 1) := by rw [Int.mul_add, Int.mul_one]; omega
  rw [e3, Int.add_mul_ediv_left _ _ (Int.ne_of_gt hn), Int.ediv_eq_zero_of_lt (by omega) (by omega), Int.zero_add]
/-- what a polynomial leaves at one -/
theorem pev_one (B : Int) : ∀ l : List Int, ∃ K : Int, pev l B = l.sum + (B - 1) * K
  | [] => ⟨0, by simp [pev]⟩
  | a :: l => by
    obtain ⟨K, e⟩ := pev_one B l
    refine ⟨l.sum + B * K, ?_⟩
    rw [pev, e, List.sum_cons]
    grind
theorem dm_one {B N K : Int} (hB : 256 ≤ B) (e : N = 24 + (B - 1) * K) : (-N).fdiv (B - 1) = (24 - N).fdiv (B - 1) - 1 ∧ (-N).fmod (B - 1) = B - 25 := by
  have h0 : 0 < B - 1 := by omega
  have hz : B - 1 ≠ 0 := by omega
  have e1 : -N = (B - 25) + (B - 1) * (-K - 1) := by rw [e]; grind
  have e2 : 24 - N = 0 + (B - 1) * (-K) := by rw [e]; grind
  have h1 : (-N) / (B - 1) = -K - 1 := by rw [e1, Int.add_mul_ediv_left _ _ hz, Int.ediv_eq_zero_of_lt (by omega) (by omega)]; omega
  have h2 : (24 - N) / (B - 1) = -K := by rw [e2, Int.add_mul_ediv_left _ _ hz, Int.ediv_eq_zero_of_lt (by omega) (by omega)]; omega
  have h3 : (-N) % (B - 1) = B - 25 := by rw [e1, Int.add_mul_emod_self_left, Int.emod_eq_of_lt (by omega) (by omega)]
  rw [Int.fdiv_eq_ediv_of_nonneg _ (Int.le_of_lt h0), Int.fdiv_eq_ediv_of_nonneg _ (Int.le_of_lt h0), Int.fmod_eq_emod_of_nonneg _ (Int.le_of_lt h0)]
  exact ⟨by omega, h3⟩

end
section
theorem insR_mem : ∀ {l : List Int} {x y : Int}, y ∈ insR l x → y = x ∨ y ∈ l
  | [], x, y, h => by simp only [insR, List.mem_singleton] at h; exact .inl h
  | a :: r, x, y, h => by
    unfold insR at h
    split at h
    · rcases List.mem_cons.mp h with h | h
      · exact .inl h
      · exact .inr h
    · rcases List.mem_cons.mp h with h | h
      · exact .inr (h ▸ .head _)
      · exact (insR_mem h).imp id (.tail _)
theorem insL_mem : ∀ {l : List Int} {x y : Int}, y ∈ insL l x → y = x ∨ y ∈ l
  | [], x, y, h => by simp only [insL, List.mem_singleton] at h; exact .inl h
  | a :: r, x, y, h => by
    unfold insL at h
    split at h
    · rcases List.mem_cons.mp h with h | h
      · exact .inl h
      · exact .inr h
    · rcases List.mem_cons.mp h with h | h
      · exact .inr (h ▸ .head _)
      · exact (insL_mem h).imp id (.tail _)
theorem insR_len : ∀ (l : List Int) (x : Int), (insR l x).length = l.length + 1
  | [], x => rfl
  | a :: r, x => by
    unfold insR
    split
    · rfl
    · rw [List.length_cons, insR_len r x, List.length_cons]
theorem insL_len : ∀ (l : List Int) (x : Int), (insL l x).length = l.length + 1
  | [], x => rfl
  | a :: r, x => by
    unfold insL
    split
    · rfl
    · rw [List.length_cons, insL_len r x, List.length_cons]
theorem insR_pw : ∀ {l : List Int} {x : Int}, l.Pairwise (· ≤ ·) → (insR l x).Pairwise (· ≤ ·)
  | [], x, _ => List.pairwise_singleton _ _
  | a :: r, x, h => by
    obtain ⟨h1, h2⟩ := List.pairwise_cons.mp h
    unfold insR
    split
    · rename_i hx
      refine List.pairwise_cons.mpr ⟨fun y hy => ?_, h⟩
      rcases List.mem_cons.mp hy with rfl | hy
      · omega
      · have := h1 y hy; omega
    · rename_i hx
      refine List.pairwise_cons.mpr ⟨fun y hy => ?_, insR_pw h2⟩
      rcases insR_mem hy with rfl | hy
      · omega
      · exact h1 y hy
theorem insL_pw : ∀ {l : List Int} {x : Int}, l.Pairwise (fun a b => b ≤ a) → (insL l x).Pairwise (fun a b => b ≤ a)
  | [], x, _ => List.pairwise_singleton _ _
  | a :: r, x, h => by
    obtain ⟨h1, h2⟩ := List.pairwise_cons.mp h
    unfold insL
    split
    · rename_i hx
      refine List.pairwise_cons.mpr ⟨fun y hy => ?_, h⟩
      rcases List.mem_cons.mp hy with rfl | hy
      · omega
      · have := h1 y hy; omega
    · rename_i hx
      refine List.pairwise_cons.mpr ⟨fun y hy => ?_, insL_pw h2⟩
      rcases insL_mem hy with rfl | hy
      · omega
      · exact h1 y hy
theorem pw_idx {l : List Int} (h : l.Pairwise (· ≤ ·)) : ∀ i j : Int, 0 ≤ i → i ≤ j → j < l.length → l.getD i.toNat 0 ≤ l.getD j.toNat 0 := fun i j h0 h1 h2 => by
  have hj : j.toNat < l.length := by omega
  have hi : i.toNat < l.length := by omega
  have e1 : l.getD i.toNat 0 = l[i.toNat] := by simp [List.getD, hi]
  have e2 : l.getD j.toNat 0 = l[j.toNat] := by simp [List.getD, hj]
  rw [e1, e2]
  by_cases e : i = j
  · subst e; exact Int.le_refl _
  · exact (List.pairwise_iff_getElem.mp h) _ _ hi hj (by omega)
theorem pw_idx' {l : List Int} (h : l.Pairwise (fun a b => b ≤ a)) : ∀ i j : Int, 0 ≤ i → i ≤ j → j < l.length → l.getD j.toNat 0 ≤ l.getD i.toNat 0 := fun i j h0 h1 h2 => by
  have hj : j.toNat < l.length := by omega
  have hi : i.toNat < l.length := by omega
  have e1 : l.getD i.toNat 0 = l[i.toNat] := by simp [List.getD, hi]
  have e2 : l.getD j.toNat 0 = l[j.toNat] := by simp [List.getD, hj]
  rw [e1, e2]
  by_cases e : i = j
  · subst e; exact Int.le_refl _
  · exact (List.pairwise_iff_getElem.mp h) _ _ hi hj (by omega)
/-- the first i numbers put in order -/
noncomputable def srtR (l : List Int) : List Int := l.foldl insR []
noncomputable def srtL (l : List Int) : List Int := l.foldl insL []
theorem srtR_snoc (l : List Int) (x : Int) : srtR (l ++ [x]) = insR (srtR l) x := by unfold srtR; rw [List.foldl_append]; rfl
theorem srtL_snoc (l : List Int) (x : Int) : srtL (l ++ [x]) = insL (srtL l) x := by unfold srtL; rw [List.foldl_append]; rfl
theorem foldR_facts : ∀ (l acc : List Int), acc.Pairwise (· ≤ ·) → (l.foldl insR acc).Pairwise (· ≤ ·) ∧ (l.foldl insR acc).length = acc.length + l.length ∧ ∀ y ∈ l.foldl insR acc, y ∈ l ∨ y ∈ acc
  | [], acc, h => ⟨h, rfl, fun y hy => .inr hy⟩
  | x :: l, acc, h => by
    obtain ⟨h1, h2, h3⟩ := foldR_facts l (insR acc x) (insR_pw h)
    refine ⟨h1, by rw [List.foldl_cons, h2, insR_len, List.length_cons]; omega, fun y hy => ?_⟩
    rcases h3 y hy with h | h
    · exact .inl (.tail _ h)
    · rcases insR_mem h with rfl | h
      · exact .inl (.head _)
      · exact .inr h
theorem foldL_facts : ∀ (l acc : List Int), acc.Pairwise (fun a b => b ≤ a) → (l.foldl insL acc).Pairwise (fun a b => b ≤ a) ∧ (l.foldl insL acc).length = acc.length + l.length ∧ ∀ y ∈ l.foldl insL acc, y ∈ l ∨ y ∈ acc
  | [], acc, h => ⟨h, rfl, fun y hy => .inr hy⟩
  | x :: l, acc, h => by
    obtain ⟨h1, h2, h3⟩ := foldL_facts l (insL acc x) (insL_pw h)
    refine ⟨h1, by rw [List.foldl_cons, h2, insL_len, List.length_cons]; omega, fun y hy => ?_⟩
    rcases h3 y hy with h | h
    · exact .inl (.tail _ h)
    · rcases insL_mem h with rfl | h
      · exact .inl (.head _)
      · exact .inr h
theorem srtR_facts (l : List Int) : (srtR l).Pairwise (· ≤ ·) ∧ (srtR l).length = l.length ∧ ∀ y ∈ srtR l, y ∈ l := by
  obtain ⟨h1, h2, h3⟩ := foldR_facts l [] .nil
  exact ⟨h1, by show _ = l.length; unfold srtR; rw [h2]; simp, fun y hy => (h3 y hy).resolve_right (fun h => nomatch h)⟩
theorem srtL_facts (l : List Int) : (srtL l).Pairwise (fun a b => b ≤ a) ∧ (srtL l).length = l.length ∧ ∀ y ∈ srtL l, y ∈ l := by
  obtain ⟨h1, h2, h3⟩ := foldL_facts l [] .nil
  exact ⟨h1, by show _ = l.length; unfold srtL; rw [h2]; simp, fun y hy => (h3 y hy).resolve_right (fun h => nomatch h)⟩

end
section
open PySem.Builtin.Str PySem.Builtin PySem.StrLaws
theorem up8 {k : Nat} (h : k + 1 < 8) : (k : Int) + 1 < 8 := by omega
theorem rng0 {i n : Nat} (h : i < n) (h8 : n ≤ 8) : -1000 ≤ 0 + (i : Int) ∧ 0 + (i : Int) ≤ 1000 := by omega
theorem neg0 (a i : Nat) : -(a : Int) ≤ 0 + i := by omega
theorem lt8 {k : Nat} (h : (k : Int) < 8) : k < 8 := by omega
theorem le_mil {l n : Nat} (h : l = n) (h8 : n ≤ 8) : (l : Nat) ≤ 1000 := by rw [h]; exact Nat.le_trans h8 (by decide)
theorem meas8 {k : Nat} (h : k < 8) : (8 - ((k : Int) + 1)).toNat < (8 - (k : Int)).toNat := by omega
theorem nk_lt {k : Nat} (h : -(k : Int) ≠ 0) : -(k : Int) < 0 := by omega
theorem nk_zero {k : Nat} (h : -(k : Int) = 0) : k = 0 := by omega
theorem rng_mil {k : Nat} (h : k < 8) : -1000 ≤ (k : Int) ∧ (k : Int) ≤ 1000 := by omega
theorem neg_le_nat (a k : Nat) : -(a : Int) ≤ k := by omega
theorem ineg {j : Int} (h : j ≤ 0) : ∃ k : Nat, j = -(k : Int) := ⟨(-j).toNat, by rw [Int.toNat_of_nonneg (Int.neg_nonneg_of_nonpos h), Int.neg_neg]⟩
theorem stl_from {x : Str} {l : List Nat} (hx : x.cps.toList = l) {i : Int} (h0 : 0 ≤ i) (h1 : i ≤ l.length) : (Txt.slice x (some i) none).cps.toList = l.drop i.toNat := by
  subst hx
  have e : Txt.slice x (some i) none = ⟨((x.cps.toList.drop i.toNat).take ((x.cps.toList.length : Int) - i).toNat).toArray⟩ := PySem.StrLaws.sliceText_from ⟨h0, h1⟩
  rw [e]
  show ((x.cps.toList.drop i.toNat).take _) = _
  obtain ⟨k, rfl⟩ := Int.eq_ofNat_of_zero_le h0
  rw [List.take_of_length_le (by rw [List.length_drop, Int.toNat_natCast, Int.toNat_sub]; exact Nat.le_refl _)]
theorem stl_to {x : Str} {l : List Nat} (hx : x.cps.toList = l) {j : Int} (h0 : j < 0) (h1 : -(l.length : Int) ≤ j) : (Txt.slice x none (some j)).cps.toList = l.take (l.length - (-j).toNat) := by
  subst hx
  have hl : (x.length : Int) = (x.cps.toList.length : Int) := by simp [Str.length]
  have e0 : strSliceIndices none (some j) 1 x.length = strSliceIndices none (some (j + x.length)) 1 x.length := by
    have a1 : ¬ (j + (x.length : Int) < 0) := by omega
    unfold strSliceIndices
    simp only [h0, a1, if_true, if_false]
  have e : Txt.slice x none (some j) = PySem.StrLaws.sliceText x none (some (j + x.length)) := by
    show PySem.StrLaws.sliceText x none (some j) = _
    unfold PySem.StrLaws.sliceText
    rw [e0]
  rw [e, PySem.StrLaws.sliceText_to ⟨by omega, by omega⟩]
  show ((x.cps.toList.drop 0).take _) = _
  rw [List.drop_zero]
  congr 1
  obtain ⟨k, rfl⟩ := ineg (Int.le_of_lt h0)
  rw [hl, Int.neg_neg, Int.toNat_natCast, Int.sub_zero, Int.add_comm, ← Int.sub_eq_add_neg, Int.toNat_sub]
theorem stl_all {x : Str} {l : List Nat} (hx : x.cps.toList = l) : (Txt.slice x none none).cps.toList = l := by
  have e : Txt.slice x none none = Txt.slice x (some 0) none := by
    show PySem.StrLaws.sliceText x none none = PySem.StrLaws.sliceText x (some 0) none
    unfold PySem.StrLaws.sliceText
    rw [PySem.StrLaws.sliceIdx_none_lo]
  rw [e, stl_from hx (Int.le_refl 0) (Int.natCast_nonneg _)]
  rfl
theorem it_at {x : Str} {l : List Nat} (hx : x.cps.toList = l) {i : Int} (h0 : 0 ≤ i) (h1 : i < l.length) : Txt.item x i = ⟨#[l.getD i.toNat 0]⟩ := by
  subst hx
  have e : seqIndex? i x.length = some i.toNat := by
    have hl : (x.length : Int) = (x.cps.toList.length : Int) := by simp [Str.length]
    simp only [seqIndex?, if_neg (show ¬ i < 0 by omega)]
    rw [if_pos (by rw [Bool.and_eq_true, decide_eq_true_iff, decide_eq_true_iff]; omega)]
  have h2 : i.toNat < x.cps.toList.length := by omega
  unfold Txt.item Txt.charAt
  rw [e]
  simp [List.getD]
theorem it_neg {x : Str} {l : List Nat} (hx : x.cps.toList = l) {i : Int} (h0 : i < 0) (h1 : -(l.length : Int) ≤ i) : Txt.item x i = ⟨#[l.getD (l.length + i).toNat 0]⟩ := by
  subst hx
  have e : seqIndex? i x.length = some ((x.cps.toList.length : Int) + i).toNat := by
    have hl : (x.length : Int) = (x.cps.toList.length : Int) := by simp [Str.length]
    simp only [seqIndex?, if_pos h0]
    rw [if_pos (by rw [Bool.and_eq_true, decide_eq_true_iff, decide_eq_true_iff]; omega)]
    rw [hl, Int.add_comm]
  unfold Txt.item Txt.charAt
  rw [e]
  simp [List.getD]
section
variable {prog : Program} {w : World} {A : Around} {E : Value → Shared → Prop} {s₂ : Shared} {hp h₀ : Heap} {L a : Addr} {m : Str → Option Value} {news : Led} {x : Str} {t : Tok} {value slice : PySem.Expr} {Q : Value → Shared → Prop}
theorem ss_state (e : s₂.heap = hp.push o) : s₂ = { ({ s₂ with heap := hp } : Shared) with heap := ({ s₂ with heap := hp } : Shared).heap.push o } := by
  cases s₂; dsimp only at e ⊢; rw [e]
theorem ssn {i : Int} {ui : Tok} (ha : a = hp.objs.size) (e : s₂.heap = hp.push { cls := .type "slice", data := .fields #[.int i ui, .none, .none] }) (F : Fr h₀ L hp m) (N : News h₀ L hp news) (hx : x.length ≤ 1000)
    (hs : subscripted slice false (.str x t) (.ref hp.objs.size) = operate [.ref hp.objs.size, .str x t] (getItem (.str x t) (.ref hp.objs.size))) (ht : ∀ r, letTemporaryGo value (.str x t) r = pure ())
    (h : ∀ h' t' k, Fr h₀ L h' m → News h₀ L h' news → Q (.str (Txt.slice x (some i) none) t') { s₂ with heap := h', toks := k }) : wpAny (model prog w) A (subscriptTail value slice (.str x t) (.ref a)) Q E s₂ := by
  subst ha
  rw [ss_state e]
  exact slice_strN_sn (s := { s₂ with heap := hp }) F N (fun h' t' k F' N' => h h' t' k F' N') hs ht (by rw [sizeLine_eq]; omega)
theorem sns {j : Int} {uj : Tok} (ha : a = hp.objs.size) (e : s₂.heap = hp.push { cls := .type "slice", data := .fields #[.none, .int j uj, .none] }) (F : Fr h₀ L hp m) (N : News h₀ L hp news) (hx : x.length ≤ 1000)
    (hs : subscripted slice false (.str x t) (.ref hp.objs.size) = operate [.ref hp.objs.size, .str x t] (getItem (.str x t) (.ref hp.objs.size))) (ht : ∀ r, letTemporaryGo value (.str x t) r = pure ())
    (h : ∀ h' t' k, Fr h₀ L h' m → News h₀ L h' news → Q (.str (Txt.slice x none (some j)) t') { s₂ with heap := h', toks := k }) : wpAny (model prog w) A (subscriptTail value slice (.str x t) (.ref a)) Q E s₂ := by
  subst ha
  rw [ss_state e]
  exact slice_strN_ns (s := { s₂ with heap := hp }) F N (fun h' t' k F' N' => h h' t' k F' N') hs ht (by rw [sizeLine_eq]; omega)
theorem snn (ha : a = hp.objs.size) (e : s₂.heap = hp.push { cls := .type "slice", data := .fields #[.none, .none, .none] }) (F : Fr h₀ L hp m) (N : News h₀ L hp news) (hx : x.length ≤ 1000)
    (hs : subscripted slice false (.str x t) (.ref hp.objs.size) = operate [.ref hp.objs.size, .str x t] (getItem (.str x t) (.ref hp.objs.size))) (ht : ∀ r, letTemporaryGo value (.str x t) r = pure ())
    (h : ∀ h' t' k, Fr h₀ L h' m → News h₀ L h' news → Q (.str (Txt.slice x none none) t') { s₂ with heap := h', toks := k }) : wpAny (model prog w) A (subscriptTail value slice (.str x t) (.ref a)) Q E s₂ := by
  subst ha
  rw [ss_state e]
  exact slice_strN_nn (s := { s₂ with heap := hp }) F N (fun h' t' k F' N' => h h' t' k F' N') hs ht (by rw [sizeLine_eq]; omega)
theorem sit {i : Int} {u : Tok} {s : Shared} {c : Nat} (hr : -1000 ≤ i ∧ i ≤ 1000) (h1 : -(x.length : Int) ≤ i) (h2 : i < x.length) (hc : Txt.item x i = ⟨#[c]⟩)
    (hs : subscripted slice false (.str x t) (.int i u) = operate [.str x t, .int i u] (getItem (.str x t) (.int i u))) (ht : ∀ r, letTemporaryGo value (.str x t) r = pure ())
    (h : Q (.str ⟨#[c]⟩ s.toks) { s with toks := s.toks + 1 }) : wpAny (model prog w) A (subscriptTail value slice (.str x t) (.int i u)) Q E s := by
  refine item_str (fitsSsize_of (N := 9223372036854775808) (by omega) (by omega) (Int.le_refl _)) h1 h2 (fun _ => ?_) hs ht
  rw [hc]; exact h
end
theorem struth {prog : Program} {w : World} {A : Around} {E : Value → Shared → Prop} {s : Shared} {x : Str} {t : Tok} {Q : Bool → Shared → Prop} (h1 : 0 < x.length) (h2 : x.length ≤ 1000) (h : Q true { s with toks := s.toks + 1 + 1 }) : wpAny (model prog w) A (truthy (.str x t)) Q E s := by
  refine PySem.P.truthy_str (by omega) ?_
  have e : ((x.length : Int) != 0) = true := by rw [bne_iff_ne]; omega
  rw [e]; exact h

end
section
theorem rst_Sub : True := by w_top off; trivial
theorem subst_cost (w : World) (news : Led) (c1 c2 : Nat) (t1 t2 : Tok) (h1 : c1 = 32 ∨ c1 = 9) (h2 : c2 = 32 ∨ c2 = 9) :
   Does w 172 1 20 news [.str ⟨#[c1]⟩ t1, .str ⟨#[c2]⟩ t2]
     (fun r news' => (∃ tk, r = .int (if c1 = c2 then 0 else 2) tk) ∧ news' = news) := by
  unfold Does
  intro p loose mean mg mb dp un gd cn cs ad ccd cl outer A₀ base h₀ L m s Q E B F X N T C1 C2 hk hd hu hret
  rcases h1 with rfl | rfl <;> rcases h2 with rfl | rfl
  all_goals
    refine wpAny_call ?_
    k_dflt (refine code_def (by k_asm) (by k_asm) (by k_asm) (by k_asm) (by k_asm) (by exact rfl) (by exact rfl) (by first | exact rfl | assumption) (by k_is) (by k_is) (by ktr_room) (by first | exact BindsTo.of_eq rfl | exact kp_binds (by k_in) (fun _ => rfl)) (by exact locs rfl) ?_ (by exact rfl) (by exact rfl) (by exact rfl) (by decide); intro _ _ _ _ _ _ _ _ _; (try dsimp only); (try k_fold))
    refine st_conv (by dsimp only) ?_
    refine tk_any fun tk9 => ?_
    (repeat' (first | (k_unfold; (try dsimp only)) | (k_end; wrow_close) | ((fail_if_success with_reducible (first | refine KswEnd_stop ?_ | refine call_stop ?_ | refine pyIter_stop ?_ | refine while_stop ?_ | refine for_stop ?_ | refine def_stop ?_)); first | ((fail_if_success (fail_if_success (with_reducible refine st_guard ?_))); refine' store_L ?_ ?_ ?_ ?_ ?_ ?_ ?_; rotate_left 5; (first | dsimp only | rfl); (first | dsimp only | rfl); k_asm; k_asm; rfl; rfl; intro _ _ _; k_sweep) | walk1 | (dsimp only; first | ((fail_if_success (fail_if_success (with_reducible refine st_guard ?_))); refine' store_L ?_ ?_ ?_ ?_ ?_ ?_ ?_; rotate_left 5; (first | dsimp only | rfl); (first | dsimp only | rfl); k_asm; k_asm; rfl; rfl; intro _ _ _; k_sweep) | walk1) | (leave1; try dsimp only))))
    exact hret _ _ _ _ (by k_asm) (by k_asm) ⟨⟨_, rfl⟩, rfl⟩

end
section
theorem rst_Tbs : True := by w_top off; trivial
theorem Tabs.ext {T rest rest' : Led} (h : Tabs T rest) (hd : Dis T rest') : Tabs T rest' := by
  obtain ⟨ta, tb, rfl, h1, h2, h3, h4⟩ := h
  exact ⟨ta, tb, rfl, h1, h2, h3.left.app fun q hq => hd q (List.mem_append_left _ hq), fun q hq => hd q (List.mem_append_right _ hq)⟩
theorem Tabs.start {rest : Led} (h : ∀ p ∈ rest, (@Ne Nat p.1 103) ∧ (@Ne Nat p.1 110)) : Tabs [(103, tabObj #[]), (110, tabObj #[])] rest := by
  refine ⟨[(103, tabObj #[])], [(110, tabObj #[])], rfl, .none, .none, ?_, ?_⟩
  · intro q hq p hp
    rw [List.mem_singleton.mp hq]
    rcases List.mem_append.mp hp with hp | hp
    · rw [List.mem_singleton.mp hp]; decide
    · exact (h p hp).1
  · intro q hq p hp
    rw [List.mem_singleton.mp hq]
    exact (h p hp).2
theorem intBits_neg9 (x : Int) : Builtin.Int.intBits (-x) = Builtin.Int.intBits x := by
  unfold Builtin.Int.intBits
  by_cases h : x = 0
  · subst h; rfl
  · have h1 : ((-x) == 0) = false := by simp only [beq_eq_false_iff_ne]; omega
    have h2 : (x == 0) = false := by simp only [beq_eq_false_iff_ne]; omega
    rw [h1, h2, Int.natAbs_neg]
/-- the division, both its sides by a sign -/
theorem idmS (w : World) (T rest : Led) (sg a b : Int) (t1 t2 : Tok) (hsg : sg = 1 ∨ sg = -1) (hb : 0 < b) (hT : Tabs T rest) (hbb : Builtin.Int.intBits b ≤ 5000) (hab : Builtin.Int.intBits a ≤ 8 * Builtin.Int.intBits b) :
   Does w 129 21 200 (T ++ rest) [.int (sg * a) t1, .int (sg * b) t2]
     (fun r news' => ∃ l t1 t2 T', r = .ref l ∧ news' = (l, tup2 (.int (a.fdiv b) t1) (.int (sg * a.fmod b) t2)) :: (T' ++ rest) ∧ Tabs T' rest ∧ ∀ p ∈ T' ++ rest, p.1 ≠ l) := by
  rcases hsg with rfl | rfl
  · rw [Int.one_mul, Int.one_mul, Int.one_mul]
    intro p loose mean mg mb dp un gd cn cs ad ccd cl outer A₀ base h₀ L m s Q E B F X N T0 C1 C2 hk hd hu hret
    exact idm1 w T rest a b t1 t2 hb hT hbb hab p loose mean mg mb dp un gd cn cs ad ccd cl outer A₀ base h₀ L m s Q E B F X N T0 C1 C2 hk (by omega) (by omega) hret
  · have e1 : ∀ x : Int, -1 * x = -x := fun x => by omega
    rw [e1, e1, e1]
    have hn : ∀ x : Int, Builtin.Int.intBits (-x) = Builtin.Int.intBits x := fun x => by
      unfold Builtin.Int.intBits
      by_cases h : x = 0
      · subst h; rfl
      · have h1 : ((-x) == 0) = false := by simp only [beq_eq_false_iff_ne]; omega
        have h2 : (x == 0) = false := by simp only [beq_eq_false_iff_ne]; omega
        rw [h1, h2, Int.natAbs_neg]
    have h := idm2 w T rest (-a) (-b) t1 t2 (by omega) hT (by rw [hn]; exact hbb) (by rw [hn, hn]; exact hab)
    rw [Int.neg_neg, Int.neg_neg] at h
    exact h
theorem ne_tup2 {prog : Program} {w : World} {A : Around} {E : Value → Shared → Prop} {s : Shared} {h₀ : Heap} {L n1 n2 : Addr} {news : Led} {a b c d : Int} {t1 t2 t3 t4 : Tok} {Q : Value → Shared → Prop}
   (N : News h₀ L s.heap news) (m1 : (n1, tup2 (.int a t1) (.int b t2)) ∈ news) (m2 : (n2, tup2 (.int c t3) (.int d t4)) ∈ news) (hu : A.units + 64 < cLine)
   (h : Q (.bool (!((a == c) && (b == d)))) s) : wpAny (model prog w) A (compareOp .NotEq (.ref n1) (.ref n2)) Q E s := by
  refine ne_dataH (reads_tuple_at (N.get m1) rfl rfl (ReadsAll.cons (Reads.int _ _) (ReadsAll.cons (Reads.int _ _) ReadsAll.nil))) (reads_tuple_at (N.get m2) rfl rfl (ReadsAll.cons (Reads.int _ _) (ReadsAll.cons (Reads.int _ _) ReadsAll.nil))) (by simp [PySem.SeqAt.shaped, PyData.canLay0, PyData.depth, PyData.canLayAll0, PyData.depthAll]) (by simp [PySem.SeqAt.shaped, PyData.canLay0, PyData.depth, PyData.canLayAll0, PyData.depthAll]) hu ?_
  have e : PyData.eqv (.tuple [.int a, .int b]) (.tuple [.int c, .int d]) = ((a == c) && (b == d)) := by
    simp only [PyData.eqv, PyData.eqvAll, Bool.and_true]
  rw [e]; exact h

end
local macro_rules | `(tactic| lsm_bools) => `(tactic| (intro _ _ _ _ _ l1 hI'; (try simp only [Int.reduceNeg, Int.neg_neg, Int.reduceToNat] at hI'); (try k_lt l1); k_sweep))
set_option hygiene false in
local macro_rules | `(tactic| k_all) => `(tactic| tlg_ne)
section
theorem rst_Sg5 : True := by w_top off; trivial
open PyProof.Rows.LCg PyProof.Rows.LCt
theorem cutN : ∀ (R : List Int) (k : Nat) (c : Int), k ≤ R.length → (∀ i, i < k → R.getD i 0 ≤ c) → (∀ i, k ≤ i → i < R.length → c < R.getD i 0) → (R.filter (fun x => decide (c < x))).length + k = R.length
  | [], k, c, h, _, _ => by simp at h; simp [h]
  | a :: r, 0, c, _, _, h2 => by
    have h0 := h2 0 (Nat.le_refl _) (by simp)
    have hr := cutN r 0 c (Nat.zero_le _) (fun i h => absurd h (Nat.not_lt_zero _)) (fun i _ hi => by
      have := h2 (i + 1) (Nat.zero_le _) (by simp; omega)
      simpa using this)
    simp only [List.getD_cons_zero] at h0
    rw [List.filter_cons, if_pos (decide_eq_true h0), List.length_cons, List.length_cons]
    omega
  | a :: r, k + 1, c, h, h1, h2 => by
    have h0 := h1 0 (by omega)
    have hr := cutN r k c (by simp at h; omega) (fun i hi => by
      have := h1 (i + 1) (by omega)
      simpa using this) (fun i hk hi => by
      have := h2 (i + 1) (by omega) (by simp; omega)
      simpa using this)
    simp only [List.getD_cons_zero] at h0
    rw [List.filter_cons, if_neg (by rw [decide_eq_true_iff]; omega), List.length_cons]
    omega
noncomputable def cntGt (c : Int) (R : List Int) : Int := ((R.filter (fun x => decide (c < x))).length : Int)
/-- how many rows hold a number over 3, 2, 1, 0 -/
noncomputable def turnN (R : List Int) : List Int := (List.range 4).map fun (j : Nat) => cntGt (3 - (j : Int)) R
structure TuSg where
  u : Int
  t : Tok
  vs : List Value
  k : Nat
theorem two_toNat {i : Int} (h : 2 ≤ i) : i.toNat = 2 + (i - 2).toNat := by
  have e := Int.toNat_add (a := 2) (b := i - 2) (by decide) (Int.sub_nonneg.mpr h)
  rw [Int.add_comm, Int.sub_add_cancel] at e
  exact e
theorem seg5 {w : World} {fl : Addr} {p : Program} {loose : List Str} {mean : ExcName → Option Value} {mg mb : Str → Option Value} {g : Heap} {L M O R : Addr} {s : Shared} {m : Str → Option Value} {Q : Flow → Shared → Prop} {E : Value → Shared → Prop} {vsM : List Value} {nM nR : List Int} {kM : Nat} {t1 t2 : Tok} {tot spa : Int} {rest : Led}
    (G : LawG w p loose mean mg mb g L) (hiM : IntsAre vsM nM) (hM8 : nM.length = 8) (hR4 : nR.length = 4) (hget : ∀ i : Nat, i < 4 → nM.getD (2 + i) 0 = nR.getD i 0) (hle : ∀ x ∈ nR, x ≤ 4)
    (hs : ∀ i j : Int, 0 ≤ i → i ≤ j → j < nR.length → nR.getD i.toNat 0 ≤ nR.getD j.toNat 0)
    (hm : ∀ p ∈ [(Str.ofString "amid", Value.ref M), (Str.ofString "others", Value.ref O), (Str.ofString "rows", Value.ref R), (Str.ofString "spare", .int spa t2), (Str.ofString "total", .int tot t1)], m p.1 = some p.2) (F : Fr g L s.heap m)
    (N : News g L s.heap ((M, W.listOf vsM.toArray kM) :: rest))
    (hnext : ∀ (Tu : Addr) (vsT : List Value) (kT : Nat) (m' : Str → Option Value) (h' : Heap) (tk' : Nat), IntsAre vsT (turnN nR) → 
      (∀ p ∈ [(Str.ofString "turned", Value.ref Tu), (Str.ofString "others", Value.ref O), (Str.ofString "rows", Value.ref R), (Str.ofString "spare", .int spa t2), (Str.ofString "total", .int tot t1)], m' p.1 = some p.2) → Fr g L h' m' →
      News g L h' ((Tu, W.listOf vsT.toArray kT) :: rest) → Off1 Tu rest → LawAt w fl L 12 Q E { s with heap := h', toks := tk' }) :
    LawAt w fl L 9 Q E s := by
  obtain ⟨B, X, T, C1, C2, C3, hL⟩ := G
  have F1 := fr_ps _ hm F
  clear F hm
  refine' seg_start ?e1 ?e2 ?_
  case e1 => exact rfl
  case e2 => exact rfl
  intro ek
  dsimp only [kstB] at F1
  (repeat' (first | (k_unfold; (try dsimp only)) | (k_end; wrow_close) | ((fail_if_success with_reducible (first | refine KswEnd_stop ?_ | refine call_stop ?_ | refine pyIter_stop ?_ | refine while_stop ?_ | refine for_stop ?_ | refine def_stop ?_ | refine CompSrcT_stop ?_ | refine CompSrc_stop ?_ | refine lca_stop ?_ | refine lce_stop ?_ | refine dsp_stop ?_ | refine lam_stop ?_ | refine cmp_stop ?_)); first | ((fail_if_success (fail_if_success (with_reducible refine st_guard ?_))); refine' store_L ?_ ?_ ?_ ?_ ?_ ?_ ?_; rotate_left 5; (first | dsimp only | rfl); (first | dsimp only | rfl); k_asm; k_asm; rfl; rfl; intro _ _ _; k_sweep) | ((with_reducible refine' append_led ?_ ?_ ?_ ?_ ?_); rotate_left 7; k_asm; k_asm; k_upd; ((try dsimp only [List.length_cons, List.length_nil, List.length_append]); omega); intro _ _ _; k_sweep) | walk1 | (dsimp only; first | ((fail_if_success (fail_if_success (with_reducible refine st_guard ?_))); refine' store_L ?_ ?_ ?_ ?_ ?_ ?_ ?_; rotate_left 5; (first | dsimp only | rfl); (first | dsimp only | rfl); k_asm; k_asm; rfl; rfl; intro _ _ _; k_sweep) | ((with_reducible refine' append_led ?_ ?_ ?_ ?_ ?_); rotate_left 7; k_asm; k_asm; k_upd; ((try dsimp only [List.length_cons, List.length_nil, List.length_append]); omega); intro _ _ _; k_sweep) | walk1) | (leave1; try dsimp only))))
  refine For_turns (by k_asm) ?_
  (repeat' (first | (k_unfold; (try dsimp only)) | (k_end; wrow_close) | ((fail_if_success with_reducible (first | refine KswEnd_stop ?_ | refine call_stop ?_ | refine pyIter_stop ?_ | refine while_stop ?_ | refine for_stop ?_ | refine def_stop ?_ | refine CompSrcT_stop ?_ | refine CompSrc_stop ?_ | refine lca_stop ?_ | refine lce_stop ?_ | refine dsp_stop ?_ | refine lam_stop ?_ | refine cmp_stop ?_)); first | ((fail_if_success (fail_if_success (with_reducible refine st_guard ?_))); refine' store_L ?_ ?_ ?_ ?_ ?_ ?_ ?_; rotate_left 5; (first | dsimp only | rfl); (first | dsimp only | rfl); k_asm; k_asm; rfl; rfl; intro _ _ _; k_sweep) | ((with_reducible refine' append_led ?_ ?_ ?_ ?_ ?_); rotate_left 7; k_asm; k_asm; k_upd; ((try dsimp only [List.length_cons, List.length_nil, List.length_append]); omega); intro _ _ _; k_sweep) | walk1 | (dsimp only; first | ((fail_if_success (fail_if_success (with_reducible refine st_guard ?_))); refine' store_L ?_ ?_ ?_ ?_ ?_ ?_ ?_; rotate_left 5; (first | dsimp only | rfl); (first | dsimp only | rfl); k_asm; k_asm; rfl; rfl; intro _ _ _; k_sweep) | ((with_reducible refine' append_led ?_ ?_ ?_ ?_ ?_); rotate_left 7; k_asm; k_asm; k_upd; ((try dsimp only [List.length_cons, List.length_nil, List.length_append]); omega); intro _ _ _; k_sweep) | walk1) | (leave1; try dsimp only))))
  rename_i Tu h0 l1 h1 h2 D h3 F3 N3 l3
  have hsM : ∀ i j : Int, 2 ≤ i → i ≤ j → j < 6 → nM.getD i.toNat 0 ≤ nM.getD j.toNat 0 := by
    intro i j h2 h3 h6
    have e1 : i.toNat = 2 + (i - 2).toNat := two_toNat (by omega)
    have e2 : j.toNat = 2 + (j - 2).toNat := two_toNat (by omega)
    rw [e1, e2, hget _ (by omega), hget _ (by omega)]
    exact hs _ _ (by omega) (by omega) (by omega)
  obtain ⟨a1, a2, a3, a4, N4⟩ : ∃ a b c d : Tok, News g L h3 ((D, ({ cls := .type "tuple", data := .seq [Value.int 3 a, Value.int 2 b, Value.int 1 c, Value.int 0 d].toArray 0 } : Obj)) :: (Tu, W.listOf #[] 0) :: (M, W.listOf vsM.toArray kM) :: rest) := ⟨_, _, _, _, N3⟩
  refine' turns_tup (x := Str.ofString "column") (σ := TuSg) (vs := [Value.int 3 a1, Value.int 2 a2, Value.int 1 a3, Value.int 0 a4]) (fun c => (Tu, W.listOf c.vs.toArray c.k) :: (D, ({ cls := .type "tuple", data := .seq [Value.int 3 a1, Value.int 2 a2, Value.int 1 a3, Value.int 0 a4].toArray 0 } : Obj)) :: (M, W.listOf vsM.toArray kM) :: rest) (fun c => [(Str.ofString "upto", .int c.u c.t)]) [Str.ofString "column"] (fun i c => IntsAre c.vs ((List.range i).map fun (j : Nat) => cntGt (3 - (j : Int)) nR) ∧ i ≤ 4 ∧ 2 ≤ c.u ∧ c.u = 6 - cntGt (4 - (i : Int)) nR ∧ ∀ j : Int, c.u ≤ j → j < 6 → 4 - (i : Int) < nM.getD j.toNat 0) ⟨6, _, [], 0⟩ rfl (fun c => .tail _ (.head _)) F3 (news_swap N4) ?hk ?hp ?_ ?_
  case hk => kst_all
  case hp =>
    have h0 : cntGt 4 nR = 0 := by
      unfold cntGt
      have : nR.filter (fun x => decide ((4 : Int) < x)) = [] := List.filter_eq_nil_iff.mpr fun x hx => by
        have := hle x hx
        rw [decide_eq_true_iff]; omega
      rw [this]; rfl
    refine ⟨.nil, by omega, by dsimp only; omega, ?_, fun j h1 h2 => by dsimp only at h1; omega⟩
    show (6 : Int) = 6 - cntGt (4 - ((0 : Nat) : Int)) nR
    have e : (4 - ((0 : Nat) : Int)) = 4 := by omega
    rw [e, h0]; rfl
  · rintro ⟨up, tu, vT, kT⟩ i v u h tk I it hv hPP hoff F'' N''
    refine and5 hPP ?_
    clear hPP
    intro P1 P2 P3 P4 P5
    dsimp only [kstB] at F''
    dsimp only at P1 P3 P4 P5 N'' hoff
    have F7 : Fr g L h _ := F''
    have hi4 : i < 4 := (List.getElem?_eq_some_iff.mp hv).1
    obtain ⟨tv, rfl⟩ : ∃ tv, v = .int (3 - (i : Int)) tv := by
      have h4 : i = 0 ∨ i = 1 ∨ i = 2 ∨ i = 3 := lt_four i (by omega)
      rcases h4 with rfl | rfl | rfl | rfl <;> exact ⟨_, (Option.some.inj hv).symm⟩
    have nI : @Ne Nat I Tu := (hoff _ (.head _)).symm
    have nD : @Ne Nat D Tu := Nat.ne_of_gt l3.1
    have nRest : ∀ p ∈ ((M, W.listOf vsM.toArray kM) :: rest), p.1 ≠ Tu := fresh1 (by exact l1)
    have hcn : 0 ≤ cntGt (4 - (i : Int)) nR := Int.natCast_nonneg _
    have hup : up ≤ 6 := by omega
    have hvl : vT.length = i := by rw [P1.length, List.length_map, List.length_range]
    (repeat' (first | (k_unfold; (try dsimp only)) | (k_end; wrow_close) | ((fail_if_success with_reducible (first | refine KswEnd_stop ?_ | refine call_stop ?_ | refine pyIter_stop ?_ | refine while_stop ?_ | refine for_stop ?_ | refine def_stop ?_ | refine CompSrcT_stop ?_ | refine CompSrc_stop ?_ | refine lca_stop ?_ | refine lce_stop ?_ | refine dsp_stop ?_ | refine lam_stop ?_ | refine cmp_stop ?_)); first | ((fail_if_success (fail_if_success (with_reducible refine st_guard ?_))); refine' store_L ?_ ?_ ?_ ?_ ?_ ?_ ?_; rotate_left 5; (first | dsimp only | rfl); (first | dsimp only | rfl); k_asm; k_asm; rfl; rfl; intro _ _ _; k_sweep) | ((with_reducible refine' append_led ?_ ?_ ?_ ?_ ?_); rotate_left 7; k_asm; k_asm; k_upd; ((try dsimp only [List.length_cons, List.length_nil, List.length_append]); omega); intro _ _ _; k_sweep) | walk1 | (dsimp only; first | ((fail_if_success (fail_if_success (with_reducible refine st_guard ?_))); refine' store_L ?_ ?_ ?_ ?_ ?_ ?_ ?_; rotate_left 5; (first | dsimp only | rfl); (first | dsimp only | rfl); k_asm; k_asm; rfl; rfl; intro _ _ _; k_sweep) | ((with_reducible refine' append_led ?_ ?_ ?_ ?_ ?_); rotate_left 7; k_asm; k_asm; k_upd; ((try dsimp only [List.length_cons, List.length_nil, List.length_append]); omega); intro _ _ _; k_sweep) | walk1) | (leave1; try dsimp only))))
    (with_unfolding_all refine' Does.use (bisect_r w ((I, it) :: (Tu, W.listOf vT.toArray kT) :: (D, ({ cls := .type "tuple", data := .seq [Value.int 3 a1, Value.int 2 a2, Value.int 1 a3, Value.int 0 a4].toArray 0 } : Obj)) :: (M, W.listOf vsM.toArray kM) :: rest) M vsM nM kM (3 - (i : Int)) 2 up tv _ (.int up tu) (.inr ⟨_, rfl⟩) (.tail _ (.tail _ (.tail _ (.head _)))) hiM (by decide) P3 (by omega) (by omega) (fun a b h1 h2 h3 => hsM a b h1 h2 (by omega))) (by k_asm) (by k_asm) (by k_asm) (by k_asm) (by k_asm) (by assumption) (by assumption) (by first | exact rfl | assumption) (by ktr_room) (by ktr_units) ?_)
    intro r9 news9 h9 tk9 F9 N9 O9
    revert N9
    apply rn2 O9
    clear O9
    intro k tk8 hO N9
    refine and4 hO ?_
    clear hO
    intro q1 q2 q3 q4
    dsimp only
    (repeat' (first | (k_unfold; (try dsimp only)) | (k_end; wrow_close) | ((fail_if_success with_reducible (first | refine KswEnd_stop ?_ | refine call_stop ?_ | refine pyIter_stop ?_ | refine while_stop ?_ | refine for_stop ?_ | refine def_stop ?_ | refine CompSrcT_stop ?_ | refine CompSrc_stop ?_ | refine lca_stop ?_ | refine lce_stop ?_ | refine dsp_stop ?_ | refine lam_stop ?_ | refine cmp_stop ?_)); first | ((fail_if_success (fail_if_success (with_reducible refine st_guard ?_))); refine' store_L ?_ ?_ ?_ ?_ ?_ ?_ ?_; rotate_left 5; (first | dsimp only | rfl); (first | dsimp only | rfl); k_asm; k_asm; rfl; rfl; intro _ _ _; k_sweep) | ((with_reducible refine' append_led ?_ ?_ ?_ ?_ ?_); rotate_left 7; k_asm; k_asm; k_upd; ((try dsimp only [List.length_cons, List.length_nil, List.length_append]); omega); intro _ _ _; k_sweep) | walk1 | (dsimp only; first | ((fail_if_success (fail_if_success (with_reducible refine st_guard ?_))); refine' store_L ?_ ?_ ?_ ?_ ?_ ?_ ?_; rotate_left 5; (first | dsimp only | rfl); (first | dsimp only | rfl); k_asm; k_asm; rfl; rfl; intro _ _ _; k_sweep) | ((with_reducible refine' append_led ?_ ?_ ?_ ?_ ?_); rotate_left 7; k_asm; k_asm; k_upd; ((try dsimp only [List.length_cons, List.length_nil, List.length_append]); omega); intro _ _ _; k_sweep) | walk1) | (leave1; try dsimp only))))
    rename_i h8 F8 N8
    have hk : k = 6 - cntGt (3 - (i : Int)) nR := by
      have hc := cutN nR (k - 2).toNat (3 - (i : Int)) (by omega) (fun j hj => by
        rw [← hget j (by omega)]
        have := q3 (2 + (j : Int)) (by omega) (by omega)
        have e : (2 + (j : Int)).toNat = 2 + j := rfl
        rw [e] at this; exact this) (fun j hj1 hj2 => by
        rw [← hget j (by omega)]
        have e : (2 + (j : Int)).toNat = 2 + j := rfl
        by_cases hb : 2 + (j : Int) < up
        · have := q4 (2 + (j : Int)) (by omega) hb
          rw [e] at this; exact this
        · have := P5 (2 + (j : Int)) (by omega) (by omega)
          rw [e] at this; omega)
      unfold cntGt
      omega
    refine tpost_next (tend ⟨k, tk8, vT ++ [Value.int (6 - k) _], kT + 1⟩ F8 N8 (.head _) (fun p hp => .tail _ hp) (fa_cons nI.symm (fun p hp => hoff p (.tail _ hp))) (by kst_all) (by kst_same) ⟨?_, by omega, q1, ?_, ?_⟩)
    · dsimp only
      have e : 6 - k = cntGt (3 - (i : Int)) nR := by omega
      rw [List.range_succ, List.map_append, e]
      exact intsAre_append P1 (.cons _ _ .nil)
    · dsimp only
      have e : (4 - ((i + 1 : Nat) : Int)) = 3 - (i : Int) := by omega
      rw [e, hk]
    · intro j h1 h2
      dsimp only at h1
      have e : (4 - ((i + 1 : Nat) : Int)) = 3 - (i : Int) := by omega
      rw [e]
      by_cases hb : j < up
      · exact q4 j h1 hb
      · have := P5 j (by omega) h2; omega
  · rintro ⟨up, tu, vT, kT⟩ u h tk hPP F'' N''
    refine and5 hPP ?_
    clear hPP
    intro P1 P2 P3 P4 P5
    dsimp only [kstB] at F''
    dsimp only at P1 N''
    refine' hnext Tu vT kT _ _ _ P1 ?hps F'' (news_sub N'' (fun p hp => ?_)) ?_
    case hps => kst_all1
    · rcases List.mem_cons.mp hp with h | h
      · exact h ▸ .head _
      · exact .tail _ (.tail _ (.tail _ h))
    · exact off_lt l1.2

end
section
theorem rst_Sg6 : True := by w_top off; trivial
open PyProof.Rows.LCg PyProof.Rows.LCt
noncomputable def wz (l : List Nat) : WSt := wsp l ⟨[], 0, 0, 0⟩
/-- whether two leads are one and the same to the nanny -/
noncomputable def wEq (a b : List Nat) : Bool := decide ((wz a).c = (wz b).c) && (((wz a).b : Int) == ((wz b).b : Int))
theorem isnt (a : Int) : (decide (a = 0) != (a == 0)) = false := by
  by_cases h : a = 0 <;> simp [h]
theorem seg6 {w : World} {fl : Addr} {p : Program} {loose : List Str} {mean : ExcName → Option Value} {mg mb : Str → Option Value} {g : Heap} {L Tu O R : Addr} {s : Shared} {m : Str → Option Value} {Q : Flow → Shared → Prop} {E : Value → Shared → Prop} {vsT vsR : List Value} {nT nR : List Int} {kT kR : Nat} {t1 t2 : Tok} {tot spa : Int} {rest : Led}
    (G : LawG w p loose mean mg mb g L) (hiT : IntsAre vsT nT) (hiR : IntsAre vsR nR) (hT4 : nT.length = 4) (hR4 : nR.length = 4) (hRc : ∀ x ∈ nR, 0 ≤ x ∧ x ≤ 4) (hTc : ∀ x ∈ nT, 0 ≤ x ∧ x ≤ 4) (hs0 : 0 ≤ spa) (hs2 : spa ≤ 2)
    (hm : ∀ p ∈ [(Str.ofString "turned", Value.ref Tu), (Str.ofString "others", Value.ref O), (Str.ofString "rows", Value.ref R), (Str.ofString "spare", .int spa t2), (Str.ofString "total", .int tot t1)], m p.1 = some p.2) (F : Fr g L s.heap m)
    (N : News g L s.heap ((Tu, W.listOf vsT.toArray kT) :: rest)) (hR : (R, W.listOf vsR.toArray kR) ∈ rest)
    (hW : ∀ lo mo : Int, (lo = 0 ∧ mo = 0) ∨ (lo = 0 ∧ mo = 1) ∨ (lo = 1 ∧ mo = 0) → wEq (leadL 0 nR spa) (leadL lo nT (spa + mo)) = decide (lo + mo = 0) ∧ wEq (leadL lo nT (spa + mo)) (leadL 0 nR spa) = decide (lo + mo = 0))
    (hnext : ∀ (x9 d9 c9 n9 : Addr) (vs9 : List Value) (v1 v2 v3 v4 : Value) (k1 k2 k3 k4 k5 t9 : Tok) (m' : Str → Option Value) (h' : Heap) (tk' : Nat), IntsAre vs9 (wz (leadL 0 nR spa)).c →
      (∀ p ∈ [(Str.ofString "board", Value.ref x9), (Str.ofString "others", Value.ref O), (Str.ofString "rows", Value.ref R), (Str.ofString "spare", .int spa t2), (Str.ofString "total", .int tot t1)], m' p.1 = some p.2) → Fr g L h' m' →
      News g L h' ((n9, tup2 (.ref c9) (.int (wz (leadL 0 nR spa)).b t9)) :: (c9, tupOf vs9) :: (x9, instObj 83 d9) :: (d9, wsDict w n9 v1 v2 v3 v4 k1 k2 k3 k4 k5) :: rest) → (∀ p ∈ rest, p.1 < d9) → d9 < x9 → x9 < c9 → c9 < n9 → LawAt w fl L 14 Q E { s with heap := h', toks := tk' }) :
    LawAt w fl L 12 Q E s := by
  have hS0 : StopAt (Str.ofString "ways") := trivial
  obtain ⟨B, X, T, C1, C2, C3, hL⟩ := G
  have F1 := fr_ps _ hm F
  clear F hm
  refine' seg_start ?e1 ?e2 ?_
  case e1 => exact rfl
  case e2 => exact rfl
  intro ek
  dsimp only [kstB] at F1
  (repeat' (first | (k_unfold; (try dsimp only)) | (k_end; wrow_close) | ((fail_if_success with_reducible (first | refine KswEnd_stop ?_ | refine call_stop ?_ | refine pyIter_stop ?_ | refine while_stop ?_ | refine for_stop ?_ | refine def_stop ?_ | refine CompSrcT_stop ?_ | refine CompSrc_stop ?_ | refine lca_stop ?_ | refine lce_stop ?_ | refine dsp_stop ?_ | refine lam_stop ?_ | refine cmp_stop ?_ | (refine stopAt ?_ ?_; assumption))); first | ((fail_if_success (fail_if_success (with_reducible refine st_guard ?_))); refine' store_L ?_ ?_ ?_ ?_ ?_ ?_ ?_; rotate_left 5; (first | dsimp only | rfl); (first | dsimp only | rfl); k_asm; k_asm; rfl; rfl; intro _ _ _; k_sweep) | walk1 | (dsimp only; first | ((fail_if_success (fail_if_success (with_reducible refine st_guard ?_))); refine' store_L ?_ ?_ ?_ ?_ ?_ ?_ ?_; rotate_left 5; (first | dsimp only | rfl); (first | dsimp only | rfl); k_asm; k_asm; rfl; rfl; intro _ _ _; k_sweep) | walk1) | (leave1; try dsimp only))))
  (with_unfolding_all refine' Does.use (law_lead w _ R vsR nR kR 0 spa _ t2 (.tail _ hR) hiR hR4 hRc (by decide) (by decide) hs0 (by omega)) (by k_asm) (by k_asm) (by k_asm) (by k_asm) (by k_asm) (by assumption) (by assumption) (by first | exact rfl | assumption) (by ktr_room) (by ktr_units) ?_)
  intro r9 news9 h9 tk9 F9 N9 O9
  revert N9
  apply lead_elim O9
  clear O9
  intro x9 d9 c9 n9 vs9 a1 a2 a3 a4 k1 k2 k3 k4 k5 t9 hi9 lt9 l91 l92 l93 N9
  replace N9 : News g L h9 ((n9, tup2 (.ref c9) (.int (wz (leadL 0 nR spa)).b t9)) :: (c9, tupOf vs9) :: (x9, instObj 83 d9) :: (d9, wsDict w n9 a1 a2 a3 a4 k1 k2 k3 k4 k5) :: (Tu, W.listOf vsT.toArray kT) :: rest) := N9
  generalize hled : ((n9, tup2 (.ref c9) (.int (wz (leadL 0 nR spa)).b t9)) :: (c9, tupOf vs9) :: (x9, instObj 83 d9) :: (d9, wsDict w n9 a1 a2 a3 a4 k1 k2 k3 k4 k5) :: (Tu, W.listOf vsT.toArray kT) :: rest) = led at N9
  have mT : (Tu, W.listOf vsT.toArray kT) ∈ led := hled ▸ .tail _ (.tail _ (.tail _ (.tail _ (.head _))))
  have m_n : (n9, tup2 (.ref c9) (.int (wz (leadL 0 nR spa)).b t9)) ∈ led := hled ▸ .head _
  have m_c : (c9, tupOf vs9) ∈ led := hled ▸ .tail _ (.head _)
  have m_x : (x9, instObj 83 d9) ∈ led := hled ▸ .tail _ (.tail _ (.head _))
  have m_d : (d9, wsDict w n9 a1 a2 a3 a4 k1 k2 k3 k4 k5) ∈ led := hled ▸ .tail _ (.tail _ (.tail _ (.head _)))
  dsimp only
  (repeat' (first | (k_unfold; (try dsimp only)) | (k_end; wrow_close) | ((fail_if_success with_reducible (first | refine KswEnd_stop ?_ | refine call_stop ?_ | refine pyIter_stop ?_ | refine while_stop ?_ | refine for_stop ?_ | refine def_stop ?_ | refine CompSrcT_stop ?_ | refine CompSrc_stop ?_ | refine lca_stop ?_ | refine lce_stop ?_ | refine dsp_stop ?_ | refine lam_stop ?_ | refine cmp_stop ?_ | (refine stopAt ?_ ?_; assumption))); first | ((fail_if_success (fail_if_success (with_reducible refine st_guard ?_))); refine' store_L ?_ ?_ ?_ ?_ ?_ ?_ ?_; rotate_left 5; (first | dsimp only | rfl); (first | dsimp only | rfl); k_asm; k_asm; rfl; rfl; intro _ _ _; k_sweep) | walk1 | (dsimp only; first | ((fail_if_success (fail_if_success (with_reducible refine st_guard ?_))); refine' store_L ?_ ?_ ?_ ?_ ?_ ?_ ?_; rotate_left 5; (first | dsimp only | rfl); (first | dsimp only | rfl); k_asm; k_asm; rfl; rfl; intro _ _ _; k_sweep) | walk1) | (leave1; try dsimp only))))
  refine For_turns (by k_asm) ?_
  (repeat' (first | (k_unfold; (try dsimp only)) | (k_end; wrow_close) | ((fail_if_success with_reducible (first | refine KswEnd_stop ?_ | refine call_stop ?_ | refine pyIter_stop ?_ | refine while_stop ?_ | refine for_stop ?_ | refine def_stop ?_ | refine CompSrcT_stop ?_ | refine CompSrc_stop ?_ | refine lca_stop ?_ | refine lce_stop ?_ | refine dsp_stop ?_ | refine lam_stop ?_ | refine cmp_stop ?_ | (refine stopAt ?_ ?_; assumption))); first | ((fail_if_success (fail_if_success (with_reducible refine st_guard ?_))); refine' store_L ?_ ?_ ?_ ?_ ?_ ?_ ?_; rotate_left 5; (first | dsimp only | rfl); (first | dsimp only | rfl); k_asm; k_asm; rfl; rfl; intro _ _ _; k_sweep) | walk1 | (dsimp only; first | ((fail_if_success (fail_if_success (with_reducible refine st_guard ?_))); refine' store_L ?_ ?_ ?_ ?_ ?_ ?_ ?_; rotate_left 5; (first | dsimp only | rfl); (first | dsimp only | rfl); k_asm; k_asm; rfl; rfl; intro _ _ _; k_sweep) | walk1) | (leave1; try dsimp only))))
  rename_i h1 D1 h2 l1 D2 h3 l2 D3 h4 l3 D h5 F5 N5 l5
  refine (?_ : ∀ b1 b2 b3 b4 b5 b6 : Tok, News g L h5 ((D, ({ cls := .type "tuple", data := .seq [Value.ref D1, Value.ref D2, Value.ref D3].toArray 0 } : Obj)) :: (D3, tup2 (.int 1 b5) (.int 0 b6)) :: (D2, tup2 (.int 0 b3) (.int 1 b4)) :: (D1, tup2 (.int 0 b1) (.int 0 b2)) :: led) → _) _ _ _ _ _ _ N5
  intro b1 b2 b3 b4 b5 b6 N6
  refine' turns_tup (x := Str.ofString "lone") (σ := Unit) (vs := [Value.ref D1, Value.ref D2, Value.ref D3]) (fun _ => (D, ({ cls := .type "tuple", data := .seq [Value.ref D1, Value.ref D2, Value.ref D3].toArray 0 } : Obj)) :: (D3, tup2 (.int 1 b5) (.int 0 b6)) :: (D2, tup2 (.int 0 b3) (.int 1 b4)) :: (D1, tup2 (.int 0 b1) (.int 0 b2)) :: led) (fun _ => []) [Str.ofString "more", Str.ofString "lead"] (fun _ _ => True) () rfl (fun _ => .head _) F5 N6 ?hk trivial ?_ ?_
  case hk => kst_all
  · rintro ⟨⟩ i v u h tk I it hv - hoff F'' N''
    dsimp only [kstB] at F''
    have F7 : Fr g L h _ := F''
    have hi3 : i < 3 := (List.getElem?_eq_some_iff.mp hv).1
    have hV : ∃ (Dv : Addr) (lo mo : Int) (e1 e2 : Tok), v = .ref Dv ∧ ((lo = 0 ∧ mo = 0) ∨ (lo = 0 ∧ mo = 1) ∨ (lo = 1 ∧ mo = 0)) ∧ (Dv, tup2 (.int lo e1) (.int mo e2)) ∈ (I, it) :: (D, ({ cls := .type "tuple", data := .seq [Value.ref D1, Value.ref D2, Value.ref D3].toArray 0 } : Obj)) :: (D3, tup2 (.int 1 b5) (.int 0 b6)) :: (D2, tup2 (.int 0 b3) (.int 1 b4)) :: (D1, tup2 (.int 0 b1) (.int 0 b2)) :: led := by
      have h4 : i = 0 ∨ i = 1 ∨ i = 2 := lt_three i (by omega)
      rcases h4 with rfl | rfl | rfl
      · exact ⟨D1, 0, 0, b1, b2, (Option.some.inj hv).symm, .inl ⟨rfl, rfl⟩, by k_mem⟩
      · exact ⟨D2, 0, 1, b3, b4, (Option.some.inj hv).symm, .inr (.inl ⟨rfl, rfl⟩), by k_mem⟩
      · exact ⟨D3, 1, 0, b5, b6, (Option.some.inj hv).symm, .inr (.inr ⟨rfl, rfl⟩), by k_mem⟩
    clear F7 hv
    revert F''
    apply rr5 hV
    clear hV
    intro Dv lo mo e1 e2 hV F''
    refine and2 hV ?_
    clear hV
    intro hlm hDv
    have F7 : Fr g L h _ := F''
    (repeat' (first | (k_unfold; (try dsimp only)) | (k_end; wrow_close) | ((fail_if_success with_reducible (first | refine KswEnd_stop ?_ | refine call_stop ?_ | refine pyIter_stop ?_ | refine while_stop ?_ | refine for_stop ?_ | refine def_stop ?_ | refine CompSrcT_stop ?_ | refine CompSrc_stop ?_ | refine lca_stop ?_ | refine lce_stop ?_ | refine dsp_stop ?_ | refine lam_stop ?_ | refine cmp_stop ?_ | (refine stopAt ?_ ?_; assumption))); first | ((fail_if_success (fail_if_success (with_reducible refine st_guard ?_))); refine' store_L ?_ ?_ ?_ ?_ ?_ ?_ ?_; rotate_left 5; (first | dsimp only | rfl); (first | dsimp only | rfl); k_asm; k_asm; rfl; rfl; intro _ _ _; k_sweep) | walk1 | (dsimp only; first | ((fail_if_success (fail_if_success (with_reducible refine st_guard ?_))); refine' store_L ?_ ?_ ?_ ?_ ?_ ?_ ?_; rotate_left 5; (first | dsimp only | rfl); (first | dsimp only | rfl); k_asm; k_asm; rfl; rfl; intro _ _ _; k_sweep) | walk1) | (leave1; try dsimp only))))
    obtain ⟨hW1, hW2⟩ := hW lo mo hlm
    (with_unfolding_all refine' Does.use (law_lead w ((I, it) :: (D, ({ cls := .type "tuple", data := .seq [Value.ref D1, Value.ref D2, Value.ref D3].toArray 0 } : Obj)) :: (D3, tup2 (.int 1 b5) (.int 0 b6)) :: (D2, tup2 (.int 0 b3) (.int 1 b4)) :: (D1, tup2 (.int 0 b1) (.int 0 b2)) :: led) Tu vsT nT kT lo (spa + mo) _ _ (by k_mem) hiT hT4 hTc (by omega) (by omega) (by omega) (by omega)) (by k_asm) (by k_asm) (by k_asm) (by k_asm) (by k_asm) (by assumption) (by assumption) (by first | exact rfl | assumption) (by ktr_room) (by ktr_units) ?_)
    intro r9 news9 h9 tk9 F9 N9 O9
    revert N9
    apply lead_elim O9
    clear O9
    intro x8 d8 c8 n8 vs8 a11 a12 a13 a14 k11 k12 k13 k14 k15 t8 hi8 lt8 l81 l82 l83 N9
    dsimp only
    (repeat' (first | (k_unfold; (try dsimp only)) | (k_end; wrow_close) | ((fail_if_success with_reducible (first | refine KswEnd_stop ?_ | refine call_stop ?_ | refine pyIter_stop ?_ | refine while_stop ?_ | refine for_stop ?_ | refine def_stop ?_ | refine CompSrcT_stop ?_ | refine CompSrc_stop ?_ | refine lca_stop ?_ | refine lce_stop ?_ | refine dsp_stop ?_ | refine lam_stop ?_ | refine cmp_stop ?_ | (refine stopAt ?_ ?_; assumption))); first | ((fail_if_success (fail_if_success (with_reducible refine st_guard ?_))); refine' store_L ?_ ?_ ?_ ?_ ?_ ?_ ?_; rotate_left 5; (first | dsimp only | rfl); (first | dsimp only | rfl); k_asm; k_asm; rfl; rfl; intro _ _ _; k_sweep) | walk1 | (dsimp only; first | ((fail_if_success (fail_if_success (with_reducible refine st_guard ?_))); refine' store_L ?_ ?_ ?_ ?_ ?_ ?_ ?_; rotate_left 5; (first | dsimp only | rfl); (first | dsimp only | rfl); k_asm; k_asm; rfl; rfl; intro _ _ _; k_sweep) | walk1) | (leave1; try dsimp only))))
    (with_unfolding_all refine' Does.use (ws_equal w _ x9 x8 d9 d8 n9 n8 c9 c8 vs9 vs8 _ _ _ _ t9 t8 _ _ _ _ _ _ _ _ _ _ _ _ _ _ _ _ _ _ ?m1 ?m2 ?m3 ?m4 hi9 ?m5 ?m6 ?m7 ?m8 hi8) (by k_asm) (by k_asm) (by k_asm) (by k_asm) (by k_asm) (by assumption) (by assumption) (by first | exact rfl | assumption) (by ktr_room) (by ktr_units) ?_)
    case m1 => k_mem
    case m2 => k_mem
    case m3 => k_mem
    case m4 => k_mem
    case m5 => k_mem
    case m6 => k_mem
    case m7 => k_mem
    case m8 => k_mem
    intro r9 news9 h9 tk9 F9 N9 O9
    revert N9
    apply eq2_elim O9 (congrArg Value.bool hW1)
    clear O9
    intro N9
    dsimp only
    (repeat' (first | (k_unfold; (try dsimp only)) | (k_end; wrow_close) | ((fail_if_success with_reducible (first | refine KswEnd_stop ?_ | refine call_stop ?_ | refine pyIter_stop ?_ | refine while_stop ?_ | refine for_stop ?_ | refine def_stop ?_ | refine CompSrcT_stop ?_ | refine CompSrc_stop ?_ | refine lca_stop ?_ | refine lce_stop ?_ | refine dsp_stop ?_ | refine lam_stop ?_ | refine cmp_stop ?_ | (refine stopAt ?_ ?_; assumption))); first | ((fail_if_success (fail_if_success (with_reducible refine st_guard ?_))); refine' store_L ?_ ?_ ?_ ?_ ?_ ?_ ?_; rotate_left 5; (first | dsimp only | rfl); (first | dsimp only | rfl); k_asm; k_asm; rfl; rfl; intro _ _ _; k_sweep) | walk1 | (dsimp only; first | ((fail_if_success (fail_if_success (with_reducible refine st_guard ?_))); refine' store_L ?_ ?_ ?_ ?_ ?_ ?_ ?_; rotate_left 5; (first | dsimp only | rfl); (first | dsimp only | rfl); k_asm; k_asm; rfl; rfl; intro _ _ _; k_sweep) | walk1) | (leave1; try dsimp only))))
    · exact absurd ‹(decide (lo + mo = 0) != (lo + mo == 0)) = true› (by rw [isnt]; decide)
    (with_unfolding_all refine' Does.use (ws_equal w _ x8 x9 d8 d9 n8 n9 c8 c9 vs8 vs9 _ _ _ _ t8 t9 _ _ _ _ _ _ _ _ _ _ _ _ _ _ _ _ _ _ ?m1 ?m2 ?m3 ?m4 hi8 ?m5 ?m6 ?m7 ?m8 hi9) (by k_asm) (by k_asm) (by k_asm) (by k_asm) (by k_asm) (by assumption) (by assumption) (by first | exact rfl | assumption) (by ktr_room) (by ktr_units) ?_)
    case m1 => k_mem
    case m2 => k_mem
    case m3 => k_mem
    case m4 => k_mem
    case m5 => k_mem
    case m6 => k_mem
    case m7 => k_mem
    case m8 => k_mem
    intro r9 news9 h9 tk9 F9 N9 O9
    revert N9
    apply eq2_elim O9 (congrArg Value.bool hW2)
    clear O9
    intro N9
    dsimp only
    (repeat' (first | (k_unfold; (try dsimp only)) | (k_end; wrow_close) | ((fail_if_success with_reducible (first | refine KswEnd_stop ?_ | refine call_stop ?_ | refine pyIter_stop ?_ | refine while_stop ?_ | refine for_stop ?_ | refine def_stop ?_ | refine CompSrcT_stop ?_ | refine CompSrc_stop ?_ | refine lca_stop ?_ | refine lce_stop ?_ | refine dsp_stop ?_ | refine lam_stop ?_ | refine cmp_stop ?_ | (refine stopAt ?_ ?_; assumption))); first | ((fail_if_success (fail_if_success (with_reducible refine st_guard ?_))); refine' store_L ?_ ?_ ?_ ?_ ?_ ?_ ?_; rotate_left 5; (first | dsimp only | rfl); (first | dsimp only | rfl); k_asm; k_asm; rfl; rfl; intro _ _ _; k_sweep) | walk1 | (dsimp only; first | ((fail_if_success (fail_if_success (with_reducible refine st_guard ?_))); refine' store_L ?_ ?_ ?_ ?_ ?_ ?_ ?_; rotate_left 5; (first | dsimp only | rfl); (first | dsimp only | rfl); k_asm; k_asm; rfl; rfl; intro _ _ _; k_sweep) | walk1) | (leave1; try dsimp only))))
    refine tpost_next (tend () (by k_asm) (by k_asm) (by k_mem) (fun p hp => .tail _ (.tail _ (.tail _ (.tail _ (.tail _ hp))))) hoff (by kst_all) (by kst_same) trivial)
  · rintro ⟨⟩ u h tk - F'' N''
    dsimp only [kstB] at F''
    have F7 : Fr g L h _ := F''
    have N7 : News g L h ((D, ({ cls := .type "tuple", data := .seq [Value.ref D1, Value.ref D2, Value.ref D3].toArray 0 } : Obj)) :: (D3, tup2 (.int 1 b5) (.int 0 b6)) :: (D2, tup2 (.int 0 b3) (.int 1 b4)) :: (D1, tup2 (.int 0 b1) (.int 0 b2)) :: led) := N''
    refine' hnext x9 d9 c9 n9 vs9 a1 a2 a3 a4 k1 k2 k3 k4 k5 t9 _ _ _ hi9 ?hps F7 (news_sub N7 ?_) ?_ l91 l92 l93
    case hps => kst_all1
    · subst hled
      refine fun p hp => .tail _ (.tail _ (.tail _ (.tail _ ?_)))
      exact sub_cons (.head _) (sub_cons (.tail _ (.head _)) (sub_cons (.tail _ (.tail _ (.head _))) (sub_cons (.tail _ (.tail _ (.tail _ (.head _)))) fun p hp => .tail _ (.tail _ (.tail _ (.tail _ (.tail _ hp))))))) p hp
    · exact fun p hp => lt9 p (.tail _ hp)

end
section
theorem rst_Sg7 : True := by w_top off; trivial
open PyProof.Rows.LCg PyProof.Rows.LCt
/-- the figures of a board -/
noncomputable def figN (cells : List Int) : List Int := stripZ (cntN cells (waysN 4))
theorem seg7 {w : World} {fl : Addr} {p : Program} {loose : List Str} {mean : ExcName → Option Value} {mg mb : Str → Option Value} {g : Heap} {L O R x9 d9 c9 n9 : Addr} {vs9 : List Value} {v1 v2 v3 v4 : Value} {k1 k2 k3 k4 k5 t9 : Tok} {s : Shared} {m : Str → Option Value} {Q : Flow → Shared → Prop} {E : Value → Shared → Prop} {vsO vsR : List Value} {nO nR : List Int} {kO kR : Nat} {t1 t2 : Tok} {tot spa : Int} {rest : Led}
    (G : LawG w p loose mean mg mb g L) (hiO : IntsAre vsO nO) (hiR : IntsAre vsR nR) (hO4 : nO.length = 4) (hR4 : nR.length = 4) (hOc : ∀ x ∈ nO, 0 ≤ x ∧ x ≤ 4) (hs0 : 0 ≤ spa) (hs2 : spa ≤ 2) (hi9 : IntsAre vs9 (wz (leadL 0 nR spa)).c)
    (hm : ∀ p ∈ [(Str.ofString "board", Value.ref x9), (Str.ofString "others", Value.ref O), (Str.ofString "rows", Value.ref R), (Str.ofString "spare", .int spa t2), (Str.ofString "total", .int tot t1)], m p.1 = some p.2) (F : Fr g L s.heap m)
    (N : News g L s.heap ((n9, tup2 (.ref c9) (.int (wz (leadL 0 nR spa)).b t9)) :: (c9, tupOf vs9) :: (x9, instObj 83 d9) :: (d9, wsDict w n9 v1 v2 v3 v4 k1 k2 k3 k4 k5) :: rest))
    (hR : (R, W.listOf vsR.toArray kR) ∈ rest) (hO : (O, W.listOf vsO.toArray kO) ∈ rest)
    (hnR : ∃ x ∈ cntN nR (waysN 4), x ≠ 0) (hnO : ∃ x ∈ cntN nO (waysN 4), x ≠ 0) (hW : wEq (leadL 0 nR spa) (leadL 0 nO spa) = decide (figN nR = figN nO))
    (hnext : ∀ (Fi : Addr) (vsG : List Value) (kG : Nat) (m' : Str → Option Value) (h' : Heap) (tk' : Nat), IntsAre vsG (figN nR) →
      (∀ p ∈ [(Str.ofString "figures", Value.ref Fi), (Str.ofString "board", Value.ref x9), (Str.ofString "rows", Value.ref R), (Str.ofString "spare", .int spa t2), (Str.ofString "total", .int tot t1)], m' p.1 = some p.2) → Fr g L h' m' →
      News g L h' ((Fi, W.listOf vsG.toArray kG) :: (n9, tup2 (.ref c9) (.int (wz (leadL 0 nR spa)).b t9)) :: (c9, tupOf vs9) :: (x9, instObj 83 d9) :: (d9, wsDict w n9 v1 v2 v3 v4 k1 k2 k3 k4 k5) :: rest) → (∀ p ∈ rest, p.1 ≠ Fi) → LawAt w fl L 17 Q E { s with heap := h', toks := tk' }) :
    LawAt w fl L 14 Q E s := by
  have hS0 : StopAt (Str.ofString "width") := trivial
  obtain ⟨B, X, T, C1, C2, C3, hL⟩ := G
  have F1 := fr_ps _ hm F
  clear F hm
  refine' seg_start ?e1 ?e2 ?_
  case e1 => exact rfl
  case e2 => exact rfl
  intro ek
  dsimp only [kstB] at F1
  (repeat' (first | (k_unfold; (try dsimp only)) | (k_end; wrow_close) | ((fail_if_success with_reducible (first | refine KswEnd_stop ?_ | refine call_stop ?_ | refine pyIter_stop ?_ | refine while_stop ?_ | refine for_stop ?_ | refine def_stop ?_ | refine CompSrcT_stop ?_ | refine CompSrc_stop ?_ | refine lca_stop ?_ | refine lce_stop ?_ | refine dsp_stop ?_ | refine lam_stop ?_ | refine cmp_stop ?_ | (refine stopAt ?_ ?_; assumption))); first | ((fail_if_success (fail_if_success (with_reducible refine st_guard ?_))); refine' store_L ?_ ?_ ?_ ?_ ?_ ?_ ?_; rotate_left 5; (first | dsimp only | rfl); (first | dsimp only | rfl); k_asm; k_asm; rfl; rfl; intro _ _ _; k_sweep) | walk1 | (dsimp only; first | ((fail_if_success (fail_if_success (with_reducible refine st_guard ?_))); refine' store_L ?_ ?_ ?_ ?_ ?_ ?_ ?_; rotate_left 5; (first | dsimp only | rfl); (first | dsimp only | rfl); k_asm; k_asm; rfl; rfl; intro _ _ _; k_sweep) | walk1) | (leave1; try dsimp only))))
  (with_unfolding_all refine' Does.use (law_ways w _) (by k_asm) (by k_asm) (by k_asm) (by k_asm) (by k_asm) (by assumption) (by assumption) (by first | exact rfl | assumption) (by ktr_room) (by ktr_units) ?_)
  intro r9 nw h9 tk9 F9 N9 O9
  apply rr3 O9
  clear O9
  intro ax k SL hO
  refine and4 hO ?_
  clear hO
  intro hax hSL hmap hsub
  have h24 : SL.length ≤ 100 := by
    have e := congrArg List.length hmap
    rw [List.length_map] at e
    rw [e]; decide +kernel
  have h44 : ∀ z ∈ SL, z.ns.length = 4 := by
    have h : ∀ u ∈ waysN 4, u.length = 4 := by decide +kernel
    intro z hz
    exact h _ (by rw [← hmap]; exact List.mem_map_of_mem hz)
  have N10 : News g L h9 ((n9, tup2 (.ref c9) (.int (wz (leadL 0 nR spa)).b t9)) :: (c9, tupOf vs9) :: (x9, instObj 83 d9) :: (d9, wsDict w n9 v1 v2 v3 v4 k1 k2 k3 k4 k5) :: (R, W.listOf vsR.toArray kR) :: (O, W.listOf vsO.toArray kO) :: nw) := news_sub N9 (sub_cons (hsub _ (by k_mem)) (sub_cons (hsub _ (by k_mem)) (sub_cons (hsub _ (by k_mem)) (sub_cons (hsub _ (by k_mem)) (sub_cons (hsub _ (.tail _ (.tail _ (.tail _ (.tail _ hR))))) (sub_cons (hsub _ (.tail _ (.tail _ (.tail _ (.tail _ hO))))) fun p hp => hp))))))
  have hSL2 : WaysAt SL ((n9, tup2 (.ref c9) (.int (wz (leadL 0 nR spa)).b t9)) :: (c9, tupOf vs9) :: (x9, instObj 83 d9) :: (d9, wsDict w n9 v1 v2 v3 v4 k1 k2 k3 k4 k5) :: (R, W.listOf vsR.toArray kR) :: (O, W.listOf vsO.toArray kO) :: nw) := fun z hz => ⟨.tail _ (.tail _ (.tail _ (.tail _ (.tail _ (.tail _ (hSL z hz).1))))), (hSL z hz).2⟩
  clear N9
  have hax2 : (ax, _) ∈ ((n9, tup2 (.ref c9) (.int (wz (leadL 0 nR spa)).b t9)) :: (c9, tupOf vs9) :: (x9, instObj 83 d9) :: (d9, wsDict w n9 v1 v2 v3 v4 k1 k2 k3 k4 k5) :: (R, W.listOf vsR.toArray kR) :: (O, W.listOf vsO.toArray kO) :: nw) := .tail _ (.tail _ (.tail _ (.tail _ (.tail _ (.tail _ hax)))))
  generalize hled : ((n9, tup2 (.ref c9) (.int (wz (leadL 0 nR spa)).b t9)) :: (c9, tupOf vs9) :: (x9, instObj 83 d9) :: (d9, wsDict w n9 v1 v2 v3 v4 k1 k2 k3 k4 k5) :: (R, W.listOf vsR.toArray kR) :: (O, W.listOf vsO.toArray kO) :: nw) = led at N10 hSL2 hax2
  have hnw : ∀ p ∈ nw, p ∈ led := hled ▸ fun p hp => .tail _ (.tail _ (.tail _ (.tail _ (.tail _ (.tail _ hp)))))
  have m_n : (n9, tup2 (.ref c9) (.int (wz (leadL 0 nR spa)).b t9)) ∈ led := hled ▸ .head _
  have m_c : (c9, tupOf vs9) ∈ led := hled ▸ .tail _ (.head _)
  have m_x : (x9, instObj 83 d9) ∈ led := hled ▸ .tail _ (.tail _ (.head _))
  have m_d : (d9, wsDict w n9 v1 v2 v3 v4 k1 k2 k3 k4 k5) ∈ led := hled ▸ .tail _ (.tail _ (.tail _ (.head _)))
  have m_R : (R, W.listOf vsR.toArray kR) ∈ led := hled ▸ .tail _ (.tail _ (.tail _ (.tail _ (.head _))))
  have m_O : (O, W.listOf vsO.toArray kO) ∈ led := hled ▸ .tail _ (.tail _ (.tail _ (.tail _ (.tail _ (.head _)))))
  clear hled hax hSL
  dsimp only
  (repeat' (first | (k_unfold; (try dsimp only)) | (k_end; wrow_close) | ((fail_if_success with_reducible (first | refine KswEnd_stop ?_ | refine call_stop ?_ | refine pyIter_stop ?_ | refine while_stop ?_ | refine for_stop ?_ | refine def_stop ?_ | refine CompSrcT_stop ?_ | refine CompSrc_stop ?_ | refine lca_stop ?_ | refine lce_stop ?_ | refine dsp_stop ?_ | refine lam_stop ?_ | refine cmp_stop ?_ | (refine stopAt ?_ ?_; assumption))); first | ((fail_if_success (fail_if_success (with_reducible refine st_guard ?_))); refine' store_L ?_ ?_ ?_ ?_ ?_ ?_ ?_; rotate_left 5; (first | dsimp only | rfl); (first | dsimp only | rfl); k_asm; k_asm; rfl; rfl; intro _ _ _; k_sweep) | walk1 | (dsimp only; first | ((fail_if_success (fail_if_success (with_reducible refine st_guard ?_))); refine' store_L ?_ ?_ ?_ ?_ ?_ ?_ ?_; rotate_left 5; (first | dsimp only | rfl); (first | dsimp only | rfl); k_asm; k_asm; rfl; rfl; intro _ _ _; k_sweep) | walk1) | (leave1; try dsimp only))))
  (with_unfolding_all refine' Does.use (law_figures w led ax R k kR SL vsR nR hax2 hSL2 (by k_mem) hiR hR4 h44 (by rw [hmap]; exact hnR) h24) (by k_asm) (by k_asm) (by k_asm) (by k_asm) (by k_asm) (by assumption) (by assumption) (by first | exact rfl | assumption) (by ktr_room) (by ktr_units) ?_)
  intro r9 nw2 h9 tk9 F9 N9 O9
  revert N9
  apply rn3 O9
  clear O9
  intro Fi vsG kG hO N9
  refine and2 hO ?_
  clear hO
  intro hoG hiG
  rw [hmap] at hiG
  dsimp only
  (repeat' (first | (k_unfold; (try dsimp only)) | (k_end; wrow_close) | ((fail_if_success with_reducible (first | refine KswEnd_stop ?_ | refine call_stop ?_ | refine pyIter_stop ?_ | refine while_stop ?_ | refine for_stop ?_ | refine def_stop ?_ | refine CompSrcT_stop ?_ | refine CompSrc_stop ?_ | refine lca_stop ?_ | refine lce_stop ?_ | refine dsp_stop ?_ | refine lam_stop ?_ | refine cmp_stop ?_ | (refine stopAt ?_ ?_; assumption))); first | ((fail_if_success (fail_if_success (with_reducible refine st_guard ?_))); refine' store_L ?_ ?_ ?_ ?_ ?_ ?_ ?_; rotate_left 5; (first | dsimp only | rfl); (first | dsimp only | rfl); k_asm; k_asm; rfl; rfl; intro _ _ _; k_sweep) | walk1 | (dsimp only; first | ((fail_if_success (fail_if_success (with_reducible refine st_guard ?_))); refine' store_L ?_ ?_ ?_ ?_ ?_ ?_ ?_; rotate_left 5; (first | dsimp only | rfl); (first | dsimp only | rfl); k_asm; k_asm; rfl; rfl; intro _ _ _; k_sweep) | walk1) | (leave1; try dsimp only))))
  (with_unfolding_all refine' Does.use (law_lead w ((Fi, W.listOf vsG.toArray kG) :: led) O vsO nO kO 0 spa _ t2 (by k_mem) hiO hO4 hOc (by decide) (by decide) hs0 (by omega)) (by k_asm) (by k_asm) (by k_asm) (by k_asm) (by k_asm) (by assumption) (by assumption) (by first | exact rfl | assumption) (by ktr_room) (by ktr_units) ?_)
  intro r9 news9 h9 tk9 F9 N9 O9
  revert N9
  apply lead_elim O9
  clear O9
  intro x8 d8 c8 n8 vs8 a11 a12 a13 a14 k11 k12 k13 k14 k15 t8 hi8 lt8 l81 l82 l83 N9
  dsimp only
  (repeat' (first | (k_unfold; (try dsimp only)) | (k_end; wrow_close) | ((fail_if_success with_reducible (first | refine KswEnd_stop ?_ | refine call_stop ?_ | refine pyIter_stop ?_ | refine while_stop ?_ | refine for_stop ?_ | refine def_stop ?_ | refine CompSrcT_stop ?_ | refine CompSrc_stop ?_ | refine lca_stop ?_ | refine lce_stop ?_ | refine dsp_stop ?_ | refine lam_stop ?_ | refine cmp_stop ?_ | (refine stopAt ?_ ?_; assumption))); first | ((fail_if_success (fail_if_success (with_reducible refine st_guard ?_))); refine' store_L ?_ ?_ ?_ ?_ ?_ ?_ ?_; rotate_left 5; (first | dsimp only | rfl); (first | dsimp only | rfl); k_asm; k_asm; rfl; rfl; intro _ _ _; k_sweep) | walk1 | (dsimp only; first | ((fail_if_success (fail_if_success (with_reducible refine st_guard ?_))); refine' store_L ?_ ?_ ?_ ?_ ?_ ?_ ?_; rotate_left 5; (first | dsimp only | rfl); (first | dsimp only | rfl); k_asm; k_asm; rfl; rfl; intro _ _ _; k_sweep) | walk1) | (leave1; try dsimp only))))
  (with_unfolding_all refine' Does.use (ws_equal w _ x9 x8 d9 d8 n9 n8 c9 c8 vs9 vs8 _ _ _ _ t9 t8 _ _ _ _ _ _ _ _ _ _ _ _ _ _ _ _ _ _ ?m1 ?m2 ?m3 ?m4 hi9 ?m5 ?m6 ?m7 ?m8 hi8) (by k_asm) (by k_asm) (by k_asm) (by k_asm) (by k_asm) (by assumption) (by assumption) (by first | exact rfl | assumption) (by ktr_room) (by ktr_units) ?_)
  case m1 => k_mem
  case m2 => k_mem
  case m3 => k_mem
  case m4 => k_mem
  case m5 => k_mem
  case m6 => k_mem
  case m7 => k_mem
  case m8 => k_mem
  intro r9 news9 h9 tk9 F9 N9 O9
  revert N9
  apply eq2_elim O9 (congrArg Value.bool hW)
  clear O9
  intro N9
  dsimp only
  (repeat' (first | (k_unfold; (try dsimp only)) | (k_end; wrow_close) | ((fail_if_success with_reducible (first | refine KswEnd_stop ?_ | refine call_stop ?_ | refine pyIter_stop ?_ | refine while_stop ?_ | refine for_stop ?_ | refine def_stop ?_ | refine CompSrcT_stop ?_ | refine CompSrc_stop ?_ | refine lca_stop ?_ | refine lce_stop ?_ | refine dsp_stop ?_ | refine lam_stop ?_ | refine cmp_stop ?_ | (refine stopAt ?_ ?_; assumption))); first | ((fail_if_success (fail_if_success (with_reducible refine st_guard ?_))); refine' store_L ?_ ?_ ?_ ?_ ?_ ?_ ?_; rotate_left 5; (first | dsimp only | rfl); (first | dsimp only | rfl); k_asm; k_asm; rfl; rfl; intro _ _ _; k_sweep) | walk1 | (dsimp only; first | ((fail_if_success (fail_if_success (with_reducible refine st_guard ?_))); refine' store_L ?_ ?_ ?_ ?_ ?_ ?_ ?_; rotate_left 5; (first | dsimp only | rfl); (first | dsimp only | rfl); k_asm; k_asm; rfl; rfl; intro _ _ _; k_sweep) | walk1) | (leave1; try dsimp only))))
  (with_unfolding_all refine' Does.use (law_figures w _ ax O k kO SL vsO nO ?q1 ?q2 ?q3 hiO hO4 h44 (by rw [hmap]; exact hnO) h24) (by k_asm) (by k_asm) (by k_asm) (by k_asm) (by k_asm) (by assumption) (by assumption) (by first | exact rfl | assumption) (by ktr_room) (by ktr_units) ?_)
  case q1 => repeat (first | exact hax2 | refine List.Mem.tail _ ?_)
  case q2 => exact fun z hz => ⟨by repeat (first | exact (hSL2 z hz).1 | refine List.Mem.tail _ ?_), (hSL2 z hz).2⟩
  case q3 => k_mem
  intro r9 nw2 h9 tk9 F9 N9 O9
  revert N9
  apply rn3 O9
  clear O9
  intro Fj vsH kH hO N9
  refine and2 hO ?_
  clear hO
  intro hoH hiH
  rw [hmap] at hiH
  dsimp only
  (repeat' (first | (k_unfold; (try dsimp only)) | (k_end; wrow_close) | ((fail_if_success with_reducible (first | refine KswEnd_stop ?_ | refine call_stop ?_ | refine pyIter_stop ?_ | refine while_stop ?_ | refine for_stop ?_ | refine def_stop ?_ | refine CompSrcT_stop ?_ | refine CompSrc_stop ?_ | refine lca_stop ?_ | refine lce_stop ?_ | refine dsp_stop ?_ | refine lam_stop ?_ | refine cmp_stop ?_ | (refine stopAt ?_ ?_; assumption))); first | ((fail_if_success (fail_if_success (with_reducible refine st_guard ?_))); refine' store_L ?_ ?_ ?_ ?_ ?_ ?_ ?_; rotate_left 5; (first | dsimp only | rfl); (first | dsimp only | rfl); k_asm; k_asm; rfl; rfl; intro _ _ _; k_sweep) | walk1 | (dsimp only; first | ((fail_if_success (fail_if_success (with_reducible refine st_guard ?_))); refine' store_L ?_ ?_ ?_ ?_ ?_ ?_ ?_; rotate_left 5; (first | dsimp only | rfl); (first | dsimp only | rfl); k_asm; k_asm; rfl; rfl; intro _ _ _; k_sweep) | walk1) | (leave1; try dsimp only))))
  have hiG2 : IntsAre vsG (figN nR) := hiG
  have hiH2 : IntsAre vsH (figN nO) := hiH
  clear hiG hiH
  refine' ke_eq_ints ?e1 ?e2 hiG2 hiH2 ?e3 ?_
  case e1 => exact News.isList (by k_asm) (by k_mem)
  case e2 => exact News.isList (by k_asm) (by k_mem)
  case e3 => ke_room
  (repeat' (first | (k_unfold; (try dsimp only)) | (k_end; wrow_close) | ((fail_if_success with_reducible (first | refine KswEnd_stop ?_ | refine call_stop ?_ | refine pyIter_stop ?_ | refine while_stop ?_ | refine for_stop ?_ | refine def_stop ?_ | refine CompSrcT_stop ?_ | refine CompSrc_stop ?_ | refine lca_stop ?_ | refine lce_stop ?_ | refine dsp_stop ?_ | refine lam_stop ?_ | refine cmp_stop ?_ | (refine stopAt ?_ ?_; assumption))); first | ((fail_if_success (fail_if_success (with_reducible refine st_guard ?_))); refine' store_L ?_ ?_ ?_ ?_ ?_ ?_ ?_; rotate_left 5; (first | dsimp only | rfl); (first | dsimp only | rfl); k_asm; k_asm; rfl; rfl; intro _ _ _; k_sweep) | walk1 | (dsimp only; first | ((fail_if_success (fail_if_success (with_reducible refine st_guard ?_))); refine' store_L ?_ ?_ ?_ ?_ ?_ ?_ ?_; rotate_left 5; (first | dsimp only | rfl); (first | dsimp only | rfl); k_asm; k_asm; rfl; rfl; intro _ _ _; k_sweep) | walk1) | (leave1; try dsimp only))))
  · exact absurd ‹(decide (figN nR = figN nO) != decide (figN nR = figN nO)) = true› (by simp)
  rename News _ _ _ _ => N7
  rename Fr _ _ _ _ => F7
  refine' hnext Fi vsG kG _ _ _ hiG2 ?hps F7 (news_sub N7 (sub_cons (by k_mem) (sub_cons (by k_mem) (sub_cons (by k_mem) (sub_cons (by k_mem) (sub_cons (by k_mem) ?_)))))) ?_
  case hps => kst_all1
  · intro p hp
    have h := hnw p (hsub p (.tail _ (.tail _ (.tail _ (.tail _ hp)))))
    repeat (first | exact h | refine List.Mem.tail _ ?_)
  · intro p hp
    exact hoG p (hnw p (hsub p (.tail _ (.tail _ (.tail _ (.tail _ hp))))))

end
section
theorem rst_Sg9 : True := by w_top off; trivial
/-- the product over the first k numbers -/
noncomputable def prodN (B : Int) (cs : List Int) (k : Nat) : Int := (List.range k).foldl (fun (acc : Int) (j : Nat) => acc * (B - 3 + (j : Int)) ^ (cs.getD j 0).toNat) 1
theorem prodN_succ (B : Int) (cs : List Int) (k : Nat) : prodN B cs (k + 1) = prodN B cs k * (B - 3 + (k : Int)) ^ (cs.getD k 0).toNat := by
  unfold prodN; rw [List.range_succ, List.foldl_append]; rfl
theorem powFit {x n : Int} (hx : x.natAbs < 2 ^ 4200) (h0 : 0 ≤ n) (h4 : n ≤ 4) : (Builtin.Int.intBits x : Int) * n ≤ 2 ^ 27 := by
  have h := intBits_le hx
  have h1 : (Builtin.Int.intBits x : Int) * n ≤ 4200 * n := Int.mul_le_mul_of_nonneg_right (by omega) h0
  omega
theorem rng8 : ∀ n : Nat, n ≤ 8 → Builtin.Range.small 0 (n : Int) 1 = true ∧ Builtin.Range.rangeSize 0 (n : Int) 1 = (n : Int) := by decide
theorem pow4200 {W x : Int} (h0 : 8 ≤ W) (h1 : W ≤ 4143) (a : 2 ^ W.toNat - 3 ≤ x) (b : x ≤ 2 ^ W.toNat + 8) : x.natAbs < 2 ^ 4200 := by
  have h2 : (2 : Int) ^ 8 ≤ 2 ^ W.toNat := pow2_le (by omega)
  have h3 : (2 : Int) ^ W.toNat ≤ 2 ^ 4143 := pow2_le (by omega)
  have h4 : (2 : Int) ^ 4143 + 8 < 2 ^ 4200 := by decide +kernel
  have h5 : (2 : Int) ^ 8 = 256 := by decide
  omega
theorem prodN_abs {B : Int} {cs : List Int} (hc4 : ∀ j, 0 ≤ cs.getD j 0 ∧ cs.getD j 0 ≤ 4) : ∀ k : Nat, (∀ j : Nat, j < k → (B - 3 + (j : Int)).natAbs < 2 ^ 4200) → (prodN B cs k).natAbs ≤ 2 ^ (16800 * k)
  | 0, _ => by show (1 : Int).natAbs ≤ 2 ^ (16800 * 0); decide
  | k + 1, h => by
    have ih := prodN_abs hc4 k fun j hj => h j (by omega)
    have hk := h k (by omega)
    obtain ⟨q1, q2⟩ := hc4 k
    rw [prodN_succ, Int.natAbs_mul, Int.natAbs_pow]
    have e1 : (B - 3 + (k : Int)).natAbs ^ (cs.getD k 0).toNat ≤ (2 ^ 4200) ^ 4 := Nat.le_trans (Nat.pow_le_pow_left (Nat.le_of_lt hk) _) (Nat.pow_le_pow_right (Nat.pos_of_ne_zero (by rw [Ne, Nat.pow_eq_zero]; omega)) (by omega))
    rw [← Nat.pow_mul] at e1
    have e2 : 16800 * (k + 1) = 16800 * k + 4200 * 4 := by omega
    rw [e2, Nat.pow_add]
    exact Nat.mul_le_mul ih e1
theorem powBits {x : Int} {n : Nat} (hx : x.natAbs < 2 ^ 4200) (h4 : n ≤ 4) : Builtin.Int.intBits (x ^ n) ≤ 16801 := by
  refine intBits_le ?_
  rw [Int.natAbs_pow]
  have e1 : x.natAbs ^ n ≤ (2 ^ 4200) ^ 4 := Nat.le_trans (Nat.pow_le_pow_left (Nat.le_of_lt hx) _) (Nat.pow_le_pow_right (Nat.pos_of_ne_zero (by rw [Ne, Nat.pow_eq_zero]; omega)) h4)
  rw [← Nat.pow_mul] at e1
  exact Nat.lt_of_le_of_lt e1 (Nat.pow_lt_pow_right (by decide) (by decide))
theorem prodN_mulOk {W : Int} {cs : List Int} {i : Nat} (hW8 : 8 ≤ W) (hW9 : W ≤ 4143) (hc4 : ∀ j, 0 ≤ cs.getD j 0 ∧ cs.getD j 0 ≤ 4) (hi : i < 8) : IntMulOk (prodN (2 ^ W.toNat) cs i) ((2 ^ W.toNat - 3 + (0 + (i : Int))) ^ (cs.getD (0 + (i : Int)).toNat 0).toNat) := by
  have h1 := prodN_abs (B := 2 ^ W.toNat) hc4 i fun j hj => pow4200 hW8 hW9 (by omega) (by omega)
  obtain ⟨q1, q2⟩ := hc4 (0 + (i : Int)).toNat
  have h2 := powBits (x := 2 ^ W.toNat - 3 + (0 + (i : Int))) (n := (cs.getD (0 + (i : Int)).toNat 0).toNat) (pow4200 hW8 hW9 (by omega) (by omega)) (by omega)
  have h3 : Builtin.Int.intBits (prodN (2 ^ W.toNat) cs i) ≤ 16800 * 8 + 1 := intBits_le (Nat.lt_of_le_of_lt h1 (Nat.pow_lt_pow_right (by decide) (by omega)))
  exact IntMulOk.of_le h3 h2 (by decide)
theorem seg9 {w : World} {fl : Addr} {p : Program} {loose : List Str} {mean : ExcName → Option Value} {mg mb : Str → Option Value} {g : Heap} {L R Fi x9 d9 c9 n9 : Addr} {vs9 : List Value} {cs : List Int} {bN : Nat} {v1 v2 v3 v4 : Value} {k1 k2 k3 k4 k5 t9 : Tok} {s : Shared} {m : Str → Option Value} {Q : Flow → Shared → Prop} {E : Value → Shared → Prop} {t1 t2 tw : Tok} {tot spa W : Int} {led : Led}
    (G : LawG w p loose mean mg mb g L) (hW8 : 8 ≤ W) (hW9 : W ≤ 4143) (hi9 : IntsAre vs9 cs) (hcl : cs.length ≤ 8) (hc4 : ∀ j, 0 ≤ cs.getD j 0 ∧ cs.getD j 0 ≤ 4)
    (hm : ∀ p ∈ [(Str.ofString "width", Value.int W tw), (Str.ofString "figures", Value.ref Fi), (Str.ofString "board", Value.ref x9), (Str.ofString "rows", Value.ref R), (Str.ofString "spare", .int spa t2), (Str.ofString "total", .int tot t1)], m p.1 = some p.2) (F : Fr g L s.heap m)
    (N : News g L s.heap ((n9, tup2 (.ref c9) (.int bN t9)) :: (c9, tupOf vs9) :: (x9, instObj 83 d9) :: (d9, wsDict w n9 v1 v2 v3 v4 k1 k2 k3 k4 k5) :: led))
    (hnext : ∀ (tb ts tp : Tok) (m' : Str → Option Value) (h' : Heap) (tk' : Nat),
      (∀ p ∈ [(Str.ofString "product", Value.int (prodN (2 ^ W.toNat) cs cs.length) tp), (Str.ofString "sign", Value.int (2 * tot.fmod 2 - 1) ts), (Str.ofString "base", Value.int (2 ^ W.toNat) tb), (Str.ofString "width", Value.int W tw), (Str.ofString "figures", Value.ref Fi), (Str.ofString "rows", Value.ref R), (Str.ofString "spare", .int spa t2), (Str.ofString "total", .int tot t1)], m' p.1 = some p.2) → Fr g L h' m' →
      News g L h' led → LawAt w fl L 24 Q E { s with heap := h', toks := tk' }) :
    LawAt w fl L 19 Q E s := by
  have hS0 : StopAt (Str.ofString "rooks") := trivial
  obtain ⟨B, X, T, C1, C2, C3, hL⟩ := G
  have F1 := fr_ps _ hm F
  clear F hm
  refine' seg_start ?e1 ?e2 ?_
  case e1 => exact rfl
  case e2 => exact rfl
  intro ek
  dsimp only [kstB] at F1
  (repeat' (first | (k_unfold; (try dsimp only)) | (k_end; wrow_close) | ((fail_if_success with_reducible (first | refine KswEnd_stop ?_ | refine call_stop ?_ | refine pyIter_stop ?_ | refine while_stop ?_ | refine for_stop ?_ | refine def_stop ?_ | refine CompSrcT_stop ?_ | refine CompSrc_stop ?_ | refine lca_stop ?_ | refine lce_stop ?_ | refine dsp_stop ?_ | refine lam_stop ?_ | refine cmp_stop ?_ | (refine stopAt ?_ ?_; assumption))); first | ((fail_if_success (fail_if_success (with_reducible refine st_guard ?_))); refine' store_L ?_ ?_ ?_ ?_ ?_ ?_ ?_; rotate_left 5; (first | dsimp only | rfl); (first | dsimp only | rfl); k_asm; k_asm; rfl; rfl; intro _ _ _; k_sweep) | ((with_reducible refine' imul_int ?_ ?_); rotate_left; k_asm) | ((with_reducible refine' pow_int ?_ ?_ ?_); omega; k_asm) | ((with_reducible refine' pow_int_small ?_ ?_ ?_ ?_); omega; omega; decide) | ((with_reducible refine' item_tup ?_ ?_ ?_ ?_ ?_ ?_ ?_ ?_ ?_); rotate_left 5; k_asm; k_mem; k_asm; omega; omega; omega; rotate_left; with_unfolding_all rfl; kmk_pure; intro _) | ((with_reducible refine' len_tup ?_ ?_ ?_ ?_ ?_); rotate_left 5; k_asm; k_mem; k_asm; omega) | walk1 | (dsimp only; first | ((fail_if_success (fail_if_success (with_reducible refine st_guard ?_))); refine' store_L ?_ ?_ ?_ ?_ ?_ ?_ ?_; rotate_left 5; (first | dsimp only | rfl); (first | dsimp only | rfl); k_asm; k_asm; rfl; rfl; intro _ _ _; k_sweep) | ((with_reducible refine' imul_int ?_ ?_); rotate_left; k_asm) | ((with_reducible refine' pow_int ?_ ?_ ?_); omega; k_asm) | ((with_reducible refine' pow_int_small ?_ ?_ ?_ ?_); omega; omega; decide) | ((with_reducible refine' item_tup ?_ ?_ ?_ ?_ ?_ ?_ ?_ ?_ ?_); rotate_left 5; k_asm; k_mem; k_asm; omega; omega; omega; rotate_left; with_unfolding_all rfl; kmk_pure; intro _) | ((with_reducible refine' len_tup ?_ ?_ ?_ ?_ ?_); rotate_left 5; k_asm; k_mem; k_asm; omega) | walk1) | (leave1; try dsimp only))))
  refine For_invVF (by k_asm) rfl rfl ?_
  (repeat' (first | (k_unfold; (try dsimp only)) | (k_end; wrow_close) | ((fail_if_success with_reducible (first | refine KswEnd_stop ?_ | refine call_stop ?_ | refine pyIter_stop ?_ | refine while_stop ?_ | refine for_stop ?_ | refine def_stop ?_ | refine CompSrcT_stop ?_ | refine CompSrc_stop ?_ | refine lca_stop ?_ | refine lce_stop ?_ | refine dsp_stop ?_ | refine lam_stop ?_ | refine cmp_stop ?_ | (refine stopAt ?_ ?_; assumption))); first | ((fail_if_success (fail_if_success (with_reducible refine st_guard ?_))); refine' store_L ?_ ?_ ?_ ?_ ?_ ?_ ?_; rotate_left 5; (first | dsimp only | rfl); (first | dsimp only | rfl); k_asm; k_asm; rfl; rfl; intro _ _ _; k_sweep) | ((with_reducible refine' imul_int ?_ ?_); rotate_left; k_asm) | ((with_reducible refine' pow_int ?_ ?_ ?_); omega; k_asm) | ((with_reducible refine' pow_int_small ?_ ?_ ?_ ?_); omega; omega; decide) | ((with_reducible refine' item_tup ?_ ?_ ?_ ?_ ?_ ?_ ?_ ?_ ?_); rotate_left 5; k_asm; k_mem; k_asm; omega; omega; omega; rotate_left; with_unfolding_all rfl; kmk_pure; intro _) | ((with_reducible refine' len_tup ?_ ?_ ?_ ?_ ?_); rotate_left 5; k_asm; k_mem; k_asm; omega) | walk1 | (dsimp only; first | ((fail_if_success (fail_if_success (with_reducible refine st_guard ?_))); refine' store_L ?_ ?_ ?_ ?_ ?_ ?_ ?_; rotate_left 5; (first | dsimp only | rfl); (first | dsimp only | rfl); k_asm; k_asm; rfl; rfl; intro _ _ _; k_sweep) | ((with_reducible refine' imul_int ?_ ?_); rotate_left; k_asm) | ((with_reducible refine' pow_int ?_ ?_ ?_); omega; k_asm) | ((with_reducible refine' pow_int_small ?_ ?_ ?_ ?_); omega; omega; decide) | ((with_reducible refine' item_tup ?_ ?_ ?_ ?_ ?_ ?_ ?_ ?_ ?_); rotate_left 5; k_asm; k_mem; k_asm; omega; omega; omega; rotate_left; with_unfolding_all rfl; kmk_pure; intro _) | ((with_reducible refine' len_tup ?_ ?_ ?_ ?_ ?_); rotate_left 5; k_asm; k_mem; k_asm; omega) | walk1) | (leave1; try dsimp only))))
  rename_i tkx t₁ u₁ v₁ hr F2 N2 hkx
  refine' loop_range (σ := Int × Tok) (n := cs.length) (fun _ => (n9, tup2 (.ref c9) (.int bN t9)) :: (c9, tupOf vs9) :: (x9, instObj 83 d9) :: (d9, wsDict w n9 v1 v2 v3 v4 k1 k2 k3 k4 k5) :: led) (fun c => [(Str.ofString "product", .int c.1 c.2)]) [] (fun i c => c.1 = prodN (2 ^ W.toNat) cs i) (1, _) rfl hr ?hsm ?hrs F2 N2 ?hk ?hp ?_ ?_
  case hsm => exact (rng8 _ hcl).1
  case hrs => exact (rng8 _ hcl).2
  case hk => kst_all
  case hp => rfl
  · rintro ⟨pr, tp⟩ i tk0 u h tk I it hi P hoff F'' N''
    refine q_any fun Q9 hQ9 => ?_
    dsimp only [kstB] at F''
    dsimp only at P
    obtain ⟨q1, q2⟩ := hc4 (0 + (i : Int)).toNat
    have hfit : (Builtin.Int.intBits (2 ^ W.toNat - 3 + (0 + (i : Int))) : Int) * cs.getD (0 + (i : Int)).toNat 0 ≤ 2 ^ 27 := powFit (pow4200 hW8 hW9 (by omega) (by omega)) q1 q2
    have hmul : IntMulOk pr ((2 ^ W.toNat - 3 + (0 + (i : Int))) ^ (cs.getD (0 + (i : Int)).toNat 0).toNat) := by rw [P]; exact prodN_mulOk hW8 hW9 hc4 (by omega)
    (repeat' (first | (k_unfold; (try dsimp only)) | (k_end; wrow_close) | ((fail_if_success with_reducible (first | refine KswEnd_stop ?_ | refine call_stop ?_ | refine pyIter_stop ?_ | refine while_stop ?_ | refine for_stop ?_ | refine def_stop ?_ | refine CompSrcT_stop ?_ | refine CompSrc_stop ?_ | refine lca_stop ?_ | refine lce_stop ?_ | refine dsp_stop ?_ | refine lam_stop ?_ | refine cmp_stop ?_ | (refine stopAt ?_ ?_; assumption))); first | ((fail_if_success (fail_if_success (with_reducible refine st_guard ?_))); refine' store_L ?_ ?_ ?_ ?_ ?_ ?_ ?_; rotate_left 5; (first | dsimp only | rfl); (first | dsimp only | rfl); k_asm; k_asm; rfl; rfl; intro _ _ _; k_sweep) | ((with_reducible refine' imul_int ?_ ?_); rotate_left; k_asm) | ((with_reducible refine' pow_int ?_ ?_ ?_); omega; k_asm) | ((with_reducible refine' pow_int_small ?_ ?_ ?_ ?_); omega; omega; decide) | ((with_reducible refine' item_tup ?_ ?_ ?_ ?_ ?_ ?_ ?_ ?_ ?_); rotate_left 5; k_asm; k_mem; k_asm; omega; omega; omega; rotate_left; with_unfolding_all rfl; kmk_pure; intro _) | ((with_reducible refine' len_tup ?_ ?_ ?_ ?_ ?_); rotate_left 5; k_asm; k_mem; k_asm; omega) | walk1 | (dsimp only; first | ((fail_if_success (fail_if_success (with_reducible refine st_guard ?_))); refine' store_L ?_ ?_ ?_ ?_ ?_ ?_ ?_; rotate_left 5; (first | dsimp only | rfl); (first | dsimp only | rfl); k_asm; k_asm; rfl; rfl; intro _ _ _; k_sweep) | ((with_reducible refine' imul_int ?_ ?_); rotate_left; k_asm) | ((with_reducible refine' pow_int ?_ ?_ ?_); omega; k_asm) | ((with_reducible refine' pow_int_small ?_ ?_ ?_ ?_); omega; omega; decide) | ((with_reducible refine' item_tup ?_ ?_ ?_ ?_ ?_ ?_ ?_ ?_ ?_); rotate_left 5; k_asm; k_mem; k_asm; omega; omega; omega; rotate_left; with_unfolding_all rfl; kmk_pure; intro _) | ((with_reducible refine' len_tup ?_ ?_ ?_ ?_ ?_); rotate_left 5; k_asm; k_mem; k_asm; omega) | walk1) | (leave1; try dsimp only))))
    refine hQ9 _ _ ?_
    refine tpost_next (tend (_, _) (by k_asm) (by k_asm) (by k_mem) (fun p hp => .tail _ hp) hoff (by kst_all) (by kst_same) ?_)
    dsimp only
    rw [prodN_succ, ← P]
    have e : (0 + (i : Int)).toNat = i := z_toNat i
    have e2 : (0 + (i : Int)) = i := by omega
    rw [e, e2]
  · rintro ⟨pr, tp⟩ u h tk P F'' N''
    dsimp only [kstB] at F''
    dsimp only at P
    subst P
    (repeat' (first | (k_unfold; (try dsimp only)) | (k_end; wrow_close) | ((fail_if_success with_reducible (first | refine KswEnd_stop ?_ | refine call_stop ?_ | refine pyIter_stop ?_ | refine while_stop ?_ | refine for_stop ?_ | refine def_stop ?_ | refine CompSrcT_stop ?_ | refine CompSrc_stop ?_ | refine lca_stop ?_ | refine lce_stop ?_ | refine dsp_stop ?_ | refine lam_stop ?_ | refine cmp_stop ?_ | (refine stopAt ?_ ?_; assumption))); first | ((fail_if_success (fail_if_success (with_reducible refine st_guard ?_))); refine' store_L ?_ ?_ ?_ ?_ ?_ ?_ ?_; rotate_left 5; (first | dsimp only | rfl); (first | dsimp only | rfl); k_asm; k_asm; rfl; rfl; intro _ _ _; k_sweep) | ((with_reducible refine' imul_int ?_ ?_); rotate_left; k_asm) | ((with_reducible refine' pow_int ?_ ?_ ?_); omega; k_asm) | ((with_reducible refine' pow_int_small ?_ ?_ ?_ ?_); omega; omega; decide) | ((with_reducible refine' item_tup ?_ ?_ ?_ ?_ ?_ ?_ ?_ ?_ ?_); rotate_left 5; k_asm; k_mem; k_asm; omega; omega; omega; rotate_left; with_unfolding_all rfl; kmk_pure; intro _) | ((with_reducible refine' len_tup ?_ ?_ ?_ ?_ ?_); rotate_left 5; k_asm; k_mem; k_asm; omega) | walk1 | (dsimp only; first | ((fail_if_success (fail_if_success (with_reducible refine st_guard ?_))); refine' store_L ?_ ?_ ?_ ?_ ?_ ?_ ?_; rotate_left 5; (first | dsimp only | rfl); (first | dsimp only | rfl); k_asm; k_asm; rfl; rfl; intro _ _ _; k_sweep) | ((with_reducible refine' imul_int ?_ ?_); rotate_left; k_asm) | ((with_reducible refine' pow_int ?_ ?_ ?_); omega; k_asm) | ((with_reducible refine' pow_int_small ?_ ?_ ?_ ?_); omega; omega; decide) | ((with_reducible refine' item_tup ?_ ?_ ?_ ?_ ?_ ?_ ?_ ?_ ?_); rotate_left 5; k_asm; k_mem; k_asm; omega; omega; omega; rotate_left; with_unfolding_all rfl; kmk_pure; intro _) | ((with_reducible refine' len_tup ?_ ?_ ?_ ?_ ?_); rotate_left 5; k_asm; k_mem; k_asm; omega) | walk1) | (leave1; try dsimp only))))
    rename News _ _ _ _ => N7
    rename Fr _ _ _ _ => F7
    refine' hnext _ _ _ _ _ _ ?hps F7 (news_sub N7 fun p hp => .tail _ (.tail _ (.tail _ (.tail _ hp))))
    case hps => kst_all1

end
section
theorem rst_Sg10 : True := by w_top off; trivial
noncomputable def quoN (B P : Int) : Nat → Int
  | 0 => P
  | i + 1 => (quoN B P i).fdiv (B - (i : Int))
noncomputable def remN (B P : Int) (i : Nat) : Int := (quoN B P i).fmod (B - (i : Int))
/-- the rooks' numbers of a product -/
noncomputable def rookN (B P : Int) : List Int := (List.range 4).map (remN B P) ++ [quoN B P 4]
theorem bitsPB {n : Nat} {P b : Int} (h8 : 8 ≤ n) (h9 : n ≤ 4143) (h0 : 0 ≤ P) (h1 : P < 2 ^ (4 * n + 4)) (hb : 2 ^ n - 3 ≤ b) (hb2 : b ≤ 2 ^ n) : 0 < b ∧ Builtin.Int.intBits b ≤ 5000 ∧ Builtin.Int.intBits P ≤ 8 * Builtin.Int.intBits b ∧ n ≤ Builtin.Int.intBits b := by
  have e : ∀ n : Nat, (2 : Int) ^ n = ((2 ^ n : Nat) : Int) := fun n => by rw [Int.natCast_pow]; rfl
  have h2 : 2 ^ 8 ≤ 2 ^ n := Nat.pow_le_pow_right (by decide) h8
  have h2' : 2 ^ 8 = 256 := by decide
  rw [e] at h1 hb hb2
  have h3 : Builtin.Int.intBits P ≤ 4 * n + 4 := intBits_le (by omega)
  have h4 : Builtin.Int.intBits b ≤ n + 1 := intBits_le (by rw [Nat.pow_succ]; omega)
  have h5 : n ≤ Builtin.Int.intBits b := by
    refine Nat.le_of_not_lt fun hlt => ?_
    have h6 : Builtin.Int.intBits b ≤ n - 1 := by omega
    have h7 := intBits_le_iff.mp h6
    have h8 : 2 ^ n = 2 * 2 ^ (n - 1) := by
      have : n = (n - 1) + 1 := by omega
      rw [this, Nat.pow_succ]; simp; omega
    omega
  exact ⟨by omega, by omega, by omega, h5⟩
theorem fdiv_bnd {a b : Int} (h0 : 0 ≤ a) (hb : 0 < b) : 0 ≤ a.fdiv b ∧ a.fdiv b ≤ a := by
  rw [Int.fdiv_eq_ediv_of_nonneg _ (Int.le_of_lt hb)]
  exact ⟨Int.ediv_nonneg h0 (Int.le_of_lt hb), Int.ediv_le_self _ h0⟩
structure RoSg where
  P : Int
  t : Tok
  vs : List Value
  k : Nat
  T : Led
theorem seg10 {w : World} {fl : Addr} {p : Program} {loose : List Str} {mean : ExcName → Option Value} {mg mb : Str → Option Value} {g : Heap} {L R Fi : Addr} {s : Shared} {m : Str → Option Value} {Q : Flow → Shared → Prop} {E : Value → Shared → Prop} {t1 t2 tw tb ts tp : Tok} {tot spa W sg P0 : Int} {led : Led}
    (G : LawG w p loose mean mg mb g L) (hW8 : 8 ≤ W) (hW9 : W ≤ 4143) (hsg : sg = 1 ∨ sg = -1) (hP0 : 0 ≤ P0) (hP1 : P0 < 2 ^ (4 * W.toNat + 4))
    (hm : ∀ p ∈ [(Str.ofString "product", Value.int P0 tp), (Str.ofString "sign", Value.int sg ts), (Str.ofString "base", Value.int (2 ^ W.toNat) tb), (Str.ofString "width", Value.int W tw), (Str.ofString "figures", Value.ref Fi), (Str.ofString "rows", Value.ref R), (Str.ofString "spare", .int spa t2), (Str.ofString "total", .int tot t1)], m p.1 = some p.2) (F : Fr g L s.heap m)
    (N : News g L s.heap ((103, tabObj #[]) :: (110, tabObj #[]) :: led)) (hled : ∀ p ∈ led, (@Ne Nat p.1 103) ∧ (@Ne Nat p.1 110))
    (hnext : ∀ (Ro : Addr) (vs : List Value) (k : Nat) (T : Led) (m' : Str → Option Value) (h' : Heap) (tk' : Nat), IntsAre vs (rookN (2 ^ W.toNat) P0) → Tabs T ((Ro, PySem.W.listOf #[] 0) :: led) → (∀ p ∈ led, p.1 < Ro) →
      (∀ p ∈ [(Str.ofString "rooks", Value.ref Ro), (Str.ofString "base", Value.int (2 ^ W.toNat) tb), (Str.ofString "width", Value.int W tw), (Str.ofString "figures", Value.ref Fi), (Str.ofString "rows", Value.ref R), (Str.ofString "spare", .int spa t2), (Str.ofString "total", .int tot t1)], m' p.1 = some p.2) → Fr g L h' m' →
      News g L h' ((Ro, PySem.W.listOf vs.toArray k) :: (T ++ led)) → LawAt w fl L 27 Q E { s with heap := h', toks := tk' }) :
    LawAt w fl L 24 Q E s := by
  have hS0 : StopAt (Str.ofString "number") := trivial
  obtain ⟨B, X, T, C1, C2, C3, hL⟩ := G
  have F1 := fr_ps _ hm F
  clear F hm
  have hMul : ∀ x, IntMulOk sg x := fun x => IntMulOk.of_left (by rcases hsg with rfl | rfl <;> decide)
  refine' seg_start ?e1 ?e2 ?_
  case e1 => exact rfl
  case e2 => exact rfl
  intro ek
  dsimp only [kstB] at F1
  (repeat' (first | (k_unfold; (try dsimp only)) | (k_end; wrow_close) | ((fail_if_success with_reducible (first | refine KswEnd_stop ?_ | refine call_stop ?_ | refine pyIter_stop ?_ | refine while_stop ?_ | refine for_stop ?_ | refine def_stop ?_ | refine CompSrcT_stop ?_ | refine CompSrc_stop ?_ | refine lca_stop ?_ | refine lce_stop ?_ | refine dsp_stop ?_ | refine lam_stop ?_ | refine cmp_stop ?_ | (refine stopAt ?_ ?_; assumption))); first | ((fail_if_success (fail_if_success (with_reducible refine st_guard ?_))); refine' store_L ?_ ?_ ?_ ?_ ?_ ?_ ?_; rotate_left 5; (first | dsimp only | rfl); (first | dsimp only | rfl); k_asm; k_asm; rfl; rfl; intro _ _ _; k_sweep) | ((with_reducible refine' append_led ?_ ?_ ?_ ?_ ?_); rotate_left 7; k_asm; k_asm; k_upd; ((try dsimp only [List.length_cons, List.length_nil, List.length_append]); omega); intro _ _ _; k_sweep) | ((with_reducible refine' mul_D ?_ ?_); k_asm) | ((with_reducible refine' mul_D ?_ ?_); (rename ∀ x, IntMulOk _ x => hM9; exact hM9 _)) | walk1 | (dsimp only; first | ((fail_if_success (fail_if_success (with_reducible refine st_guard ?_))); refine' store_L ?_ ?_ ?_ ?_ ?_ ?_ ?_; rotate_left 5; (first | dsimp only | rfl); (first | dsimp only | rfl); k_asm; k_asm; rfl; rfl; intro _ _ _; k_sweep) | ((with_reducible refine' append_led ?_ ?_ ?_ ?_ ?_); rotate_left 7; k_asm; k_asm; k_upd; ((try dsimp only [List.length_cons, List.length_nil, List.length_append]); omega); intro _ _ _; k_sweep) | ((with_reducible refine' mul_D ?_ ?_); k_asm) | ((with_reducible refine' mul_D ?_ ?_); (rename ∀ x, IntMulOk _ x => hM9; exact hM9 _)) | walk1) | (leave1; try dsimp only))))
  refine For_invVF (by k_asm) rfl rfl ?_
  (repeat' (first | (k_unfold; (try dsimp only)) | (k_end; wrow_close) | ((fail_if_success with_reducible (first | refine KswEnd_stop ?_ | refine call_stop ?_ | refine pyIter_stop ?_ | refine while_stop ?_ | refine for_stop ?_ | refine def_stop ?_ | refine CompSrcT_stop ?_ | refine CompSrc_stop ?_ | refine lca_stop ?_ | refine lce_stop ?_ | refine dsp_stop ?_ | refine lam_stop ?_ | refine cmp_stop ?_ | (refine stopAt ?_ ?_; assumption))); first | ((fail_if_success (fail_if_success (with_reducible refine st_guard ?_))); refine' store_L ?_ ?_ ?_ ?_ ?_ ?_ ?_; rotate_left 5; (first | dsimp only | rfl); (first | dsimp only | rfl); k_asm; k_asm; rfl; rfl; intro _ _ _; k_sweep) | ((with_reducible refine' append_led ?_ ?_ ?_ ?_ ?_); rotate_left 7; k_asm; k_asm; k_upd; ((try dsimp only [List.length_cons, List.length_nil, List.length_append]); omega); intro _ _ _; k_sweep) | ((with_reducible refine' mul_D ?_ ?_); k_asm) | ((with_reducible refine' mul_D ?_ ?_); (rename ∀ x, IntMulOk _ x => hM9; exact hM9 _)) | walk1 | (dsimp only; first | ((fail_if_success (fail_if_success (with_reducible refine st_guard ?_))); refine' store_L ?_ ?_ ?_ ?_ ?_ ?_ ?_; rotate_left 5; (first | dsimp only | rfl); (first | dsimp only | rfl); k_asm; k_asm; rfl; rfl; intro _ _ _; k_sweep) | ((with_reducible refine' append_led ?_ ?_ ?_ ?_ ?_); rotate_left 7; k_asm; k_asm; k_upd; ((try dsimp only [List.length_cons, List.length_nil, List.length_append]); omega); intro _ _ _; k_sweep) | ((with_reducible refine' mul_D ?_ ?_); k_asm) | ((with_reducible refine' mul_D ?_ ?_); (rename ∀ x, IntMulOk _ x => hM9; exact hM9 _)) | walk1) | (leave1; try dsimp only))))
  rename_i Ro h0 l1 h1 F1 N1 h2 tk2 t₁ u₁ v₁ hr F2 N2 hk2
  have hRl : ∀ p ∈ led, p.1 < Ro := fun p hp => kst_ltOf l1.2.2 p hp
  have hB0 := bitsPB (n := W.toNat) (P := P0) (b := 2 ^ W.toNat) (by omega) (by omega) hP0 hP1 (by omega) (by omega)
  refine' loop_range (σ := RoSg) (n := 4) (fun c => (Ro, PySem.W.listOf c.vs.toArray c.k) :: (c.T ++ led)) (fun c => [(Str.ofString "product", .int c.P c.t)]) [Str.ofString "rest"] (fun i c => IntsAre c.vs ((List.range i).map (remN (2 ^ W.toNat) P0)) ∧ c.P = quoN (2 ^ W.toNat) P0 i ∧ 0 ≤ c.P ∧ c.P < 2 ^ (4 * W.toNat + 4) ∧ Tabs c.T ((Ro, PySem.W.listOf #[] 0) :: led)) ⟨P0, tp, [], 0, [(103, tabObj #[]), (110, tabObj #[])]⟩ rfl hr rfl rfl F2 N2 ?hk ?hp ?_ ?_
  case hk => kst_all
  case hp =>
    refine ⟨.nil, rfl, hP0, hP1, Tabs.start (fa_cons ⟨Nat.ne_of_gt l1.1, Nat.ne_of_gt l1.2.1⟩ hled)⟩
  · rintro ⟨P, tP, vs, k, T'⟩ i tk0 u h tk I it hi hPP hoff F'' N''
    refine q_any fun Q9 hQ9 => ?_
    refine and5 hPP ?_
    clear hPP
    intro P1 P2 P3 P4 P5
    dsimp only [kstB] at F''
    dsimp only at P1 P2 P3 P4 P5 N'' hoff
    have F7 : Fr g L h _ := F''
    have N7 : News g L h ((I, it) :: (Ro, PySem.W.listOf vs.toArray k) :: (T' ++ led)) := N''
    clear F'' N''
    obtain ⟨b0, b1, b2, -⟩ := bitsPB (n := W.toNat) (P := P) (b := 2 ^ W.toNat - (0 + (i : Int))) (by omega) (by omega) P3 P4 (by omega) (by omega)
    have nI : @Ne Nat I Ro := (hoff _ (.head _)).symm
    have hvl : vs.length = i := by rw [P1.length, List.length_map, List.length_range]
    have hTd := P5.dis
    have hT2 : Tabs T' ((I, it) :: (Ro, PySem.W.listOf vs.toArray k) :: led) := P5.ext (Dis.cons (fun q hq => (hoff q (.tail _ (List.mem_append_left _ hq))).symm) (Dis.cons (fun q hq => hTd q hq (Ro, PySem.W.listOf #[] 0) (.head _)) fun q hq p hp => hTd q hq p (.tail _ hp)))
    (repeat' (first | (k_unfold; (try dsimp only)) | (k_end; wrow_close) | ((fail_if_success with_reducible (first | refine KswEnd_stop ?_ | refine call_stop ?_ | refine pyIter_stop ?_ | refine while_stop ?_ | refine for_stop ?_ | refine def_stop ?_ | refine CompSrcT_stop ?_ | refine CompSrc_stop ?_ | refine lca_stop ?_ | refine lce_stop ?_ | refine dsp_stop ?_ | refine lam_stop ?_ | refine cmp_stop ?_ | (refine stopAt ?_ ?_; assumption))); first | ((fail_if_success (fail_if_success (with_reducible refine st_guard ?_))); refine' store_L ?_ ?_ ?_ ?_ ?_ ?_ ?_; rotate_left 5; (first | dsimp only | rfl); (first | dsimp only | rfl); k_asm; k_asm; rfl; rfl; intro _ _ _; k_sweep) | ((with_reducible refine' append_led ?_ ?_ ?_ ?_ ?_); rotate_left 7; k_asm; k_asm; k_upd; ((try dsimp only [List.length_cons, List.length_nil, List.length_append]); omega); intro _ _ _; k_sweep) | ((with_reducible refine' mul_D ?_ ?_); k_asm) | ((with_reducible refine' mul_D ?_ ?_); (rename ∀ x, IntMulOk _ x => hM9; exact hM9 _)) | walk1 | (dsimp only; first | ((fail_if_success (fail_if_success (with_reducible refine st_guard ?_))); refine' store_L ?_ ?_ ?_ ?_ ?_ ?_ ?_; rotate_left 5; (first | dsimp only | rfl); (first | dsimp only | rfl); k_asm; k_asm; rfl; rfl; intro _ _ _; k_sweep) | ((with_reducible refine' append_led ?_ ?_ ?_ ?_ ?_); rotate_left 7; k_asm; k_asm; k_upd; ((try dsimp only [List.length_cons, List.length_nil, List.length_append]); omega); intro _ _ _; k_sweep) | ((with_reducible refine' mul_D ?_ ?_); k_asm) | ((with_reducible refine' mul_D ?_ ?_); (rename ∀ x, IntMulOk _ x => hM9; exact hM9 _)) | walk1) | (leave1; try dsimp only))))
    have N8 : News g L h (T' ++ ((I, it) :: (Ro, PySem.W.listOf vs.toArray k) :: led)) := news_sub N7 (by
      intro p hp
      rcases List.mem_append.mp hp with hp | hp
      · exact .tail _ (.tail _ (List.mem_append_left _ hp))
      · rcases List.mem_cons.mp hp with hp | hp
        · exact hp ▸ .head _
        · rcases List.mem_cons.mp hp with hp | hp
          · exact hp ▸ .tail _ (.head _)
          · exact .tail _ (.tail _ (List.mem_append_right _ hp)))
    clear N7
    (with_unfolding_all refine' Does.use (idmS w T' ((I, it) :: (Ro, PySem.W.listOf vs.toArray k) :: led) sg P (2 ^ W.toNat - (0 + (i : Int))) _ _ hsg b0 hT2 b1 b2) (by k_asm) (by k_asm) (by k_asm) (by k_asm) (by k_asm) (by assumption) (by assumption) (by first | exact rfl | assumption) (by ktr_room) (by ktr_units) ?_)
    intro r9 news9 h9 tk9 F9 N9 O9
    revert N9
    apply idm_elim O9
    clear O9
    intro l9 t91 t92 T2 hT3 hf9 N9
    have hTd2 := hT3.dis
    have N10 : News g L h9 ((l9, tup2 (.int (P.fdiv (2 ^ W.toNat - (0 + (i : Int)))) t91) (.int (sg * P.fmod (2 ^ W.toNat - (0 + (i : Int)))) t92)) :: (I, it) :: (Ro, PySem.W.listOf vs.toArray k) :: (T2 ++ led)) := news_sub N9 (by
      intro p hp
      rcases List.mem_cons.mp hp with hp | hp
      · exact hp ▸ .head _
      · rcases List.mem_cons.mp hp with hp | hp
        · exact hp ▸ .tail _ (List.mem_append_right _ (.head _))
        · rcases List.mem_cons.mp hp with hp | hp
          · exact hp ▸ .tail _ (List.mem_append_right _ (.tail _ (.head _)))
          · rcases List.mem_append.mp hp with hp | hp
            · exact .tail _ (List.mem_append_left _ hp)
            · exact .tail _ (List.mem_append_right _ (.tail _ (.tail _ hp))))
    clear N9
    have n9 : @Ne Nat l9 Ro := (hf9 (Ro, PySem.W.listOf vs.toArray k) (List.mem_append_right _ (.tail _ (.head _)))).symm
    have nRest : ∀ p ∈ T2 ++ led, p.1 ≠ Ro := by
      intro p hp
      rcases List.mem_append.mp hp with hp | hp
      · exact (hTd2 p hp (Ro, PySem.W.listOf vs.toArray k) (.tail _ (.head _))).symm
      · exact Nat.ne_of_lt (hRl p hp)
    have hsq : ∀ x : Int, sg * (sg * x) = x := fun x => by rcases hsg with rfl | rfl <;> omega
    dsimp only
    (repeat' (first | (k_unfold; (try dsimp only)) | (k_end; wrow_close) | ((fail_if_success with_reducible (first | refine KswEnd_stop ?_ | refine call_stop ?_ | refine pyIter_stop ?_ | refine while_stop ?_ | refine for_stop ?_ | refine def_stop ?_ | refine CompSrcT_stop ?_ | refine CompSrc_stop ?_ | refine lca_stop ?_ | refine lce_stop ?_ | refine dsp_stop ?_ | refine lam_stop ?_ | refine cmp_stop ?_ | (refine stopAt ?_ ?_; assumption))); first | ((fail_if_success (fail_if_success (with_reducible refine st_guard ?_))); refine' store_L ?_ ?_ ?_ ?_ ?_ ?_ ?_; rotate_left 5; (first | dsimp only | rfl); (first | dsimp only | rfl); k_asm; k_asm; rfl; rfl; intro _ _ _; k_sweep) | ((with_reducible refine' append_led ?_ ?_ ?_ ?_ ?_); rotate_left 7; k_asm; k_asm; k_upd; ((try dsimp only [List.length_cons, List.length_nil, List.length_append]); omega); intro _ _ _; k_sweep) | ((with_reducible refine' mul_D ?_ ?_); k_asm) | ((with_reducible refine' mul_D ?_ ?_); (rename ∀ x, IntMulOk _ x => hM9; exact hM9 _)) | walk1 | (dsimp only; first | ((fail_if_success (fail_if_success (with_reducible refine st_guard ?_))); refine' store_L ?_ ?_ ?_ ?_ ?_ ?_ ?_; rotate_left 5; (first | dsimp only | rfl); (first | dsimp only | rfl); k_asm; k_asm; rfl; rfl; intro _ _ _; k_sweep) | ((with_reducible refine' append_led ?_ ?_ ?_ ?_ ?_); rotate_left 7; k_asm; k_asm; k_upd; ((try dsimp only [List.length_cons, List.length_nil, List.length_append]); omega); intro _ _ _; k_sweep) | ((with_reducible refine' mul_D ?_ ?_); k_asm) | ((with_reducible refine' mul_D ?_ ?_); (rename ∀ x, IntMulOk _ x => hM9; exact hM9 _)) | walk1) | (leave1; try dsimp only))))
    rename News _ _ _ _ => N11
    rename Fr _ _ _ _ => F11
    obtain ⟨f1, f2⟩ := fdiv_bnd P3 b0
    refine hQ9 _ _ ?_
    refine tpost_next (tend ⟨_, _, _, _, T2⟩ F11 N11 (.tail _ (.head _)) (fun p hp => .tail _ (.tail _ hp)) (fa_cons nI.symm (fun p hp => ?_)) (by kst_all) (by kst_same) ⟨?_, ?_, f1, ?_, ?_⟩)
    · rcases List.mem_append.mp hp with hp | hp
      · exact (hTd2 p hp (I, it) (.head _)).symm
      · exact hoff p (.tail _ (List.mem_append_right _ hp))
    · dsimp only
      have e : (0 + (i : Int)) = i := by omega
      rw [List.range_succ, List.map_append, hsq, e, P2]
      exact intsAre_append P1 (.cons _ _ .nil)
    · dsimp only
      have e : (0 + (i : Int)) = i := by omega
      rw [e, P2]; rfl
    · exact Int.lt_of_le_of_lt f2 P4
    · exact hT3.ext (Dis.cons (fun q hq => hTd2 q hq (Ro, PySem.W.listOf vs.toArray k) (.tail _ (.head _))) fun q hq p hp => hTd2 q hq p (.tail _ (.tail _ hp)))
  · rintro ⟨P, tP, vs, k, T'⟩ u h tk hPP F'' N''
    refine and5 hPP ?_
    clear hPP
    intro P1 P2 P3 P4 P5
    dsimp only [kstB] at F''
    dsimp only at P1 P2 P3 P4 P5 N''
    have F7 : Fr g L h _ := F''
    have N7 : News g L h ((Ro, PySem.W.listOf vs.toArray k) :: (T' ++ led)) := N''
    clear F'' N''
    have hTd := P5.dis
    have hvl : vs.length = 4 := by rw [P1.length, List.length_map, List.length_range]
    have nRest : ∀ p ∈ T' ++ led, p.1 ≠ Ro := by
      intro p hp
      rcases List.mem_append.mp hp with hp | hp
      · exact (hTd p hp (Ro, PySem.W.listOf #[] 0) (.head _)).symm
      · exact Nat.ne_of_lt (hRl p hp)
    (repeat' (first | (k_unfold; (try dsimp only)) | (k_end; wrow_close) | ((fail_if_success with_reducible (first | refine KswEnd_stop ?_ | refine call_stop ?_ | refine pyIter_stop ?_ | refine while_stop ?_ | refine for_stop ?_ | refine def_stop ?_ | refine CompSrcT_stop ?_ | refine CompSrc_stop ?_ | refine lca_stop ?_ | refine lce_stop ?_ | refine dsp_stop ?_ | refine lam_stop ?_ | refine cmp_stop ?_ | (refine stopAt ?_ ?_; assumption))); first | ((fail_if_success (fail_if_success (with_reducible refine st_guard ?_))); refine' store_L ?_ ?_ ?_ ?_ ?_ ?_ ?_; rotate_left 5; (first | dsimp only | rfl); (first | dsimp only | rfl); k_asm; k_asm; rfl; rfl; intro _ _ _; k_sweep) | ((with_reducible refine' append_led ?_ ?_ ?_ ?_ ?_); rotate_left 7; k_asm; k_asm; k_upd; ((try dsimp only [List.length_cons, List.length_nil, List.length_append]); omega); intro _ _ _; k_sweep) | ((with_reducible refine' mul_D ?_ ?_); k_asm) | ((with_reducible refine' mul_D ?_ ?_); (rename ∀ x, IntMulOk _ x => hM9; exact hM9 _)) | walk1 | (dsimp only; first | ((fail_if_success (fail_if_success (with_reducible refine st_guard ?_))); refine' store_L ?_ ?_ ?_ ?_ ?_ ?_ ?_; rotate_left 5; (first | dsimp only | rfl); (first | dsimp only | rfl); k_asm; k_asm; rfl; rfl; intro _ _ _; k_sweep) | ((with_reducible refine' append_led ?_ ?_ ?_ ?_ ?_); rotate_left 7; k_asm; k_asm; k_upd; ((try dsimp only [List.length_cons, List.length_nil, List.length_append]); omega); intro _ _ _; k_sweep) | ((with_reducible refine' mul_D ?_ ?_); k_asm) | ((with_reducible refine' mul_D ?_ ?_); (rename ∀ x, IntMulOk _ x => hM9; exact hM9 _)) | walk1) | (leave1; try dsimp only))))
    rename News _ _ _ _ => N11
    rename Fr _ _ _ _ => F11
    refine' hnext Ro _ _ T' _ _ _ ?_ P5 hRl ?hps F11 N11
    case hps => kst_all1
    rw [P2]
    exact intsAre_append P1 (.cons _ _ .nil)

end
section
theorem rst_Sg11 : True := by w_top off; trivial
noncomputable abbrev facL : List Int := [1, 1, 2, 6, 24]
theorem item_fac_turn {prog : Program} {w : World} {A : Around} {E : Value → Shared → Prop} {s : Shared} {h₀ : Heap} {L l : Addr} {news : Led} {k : Int} {u b1 b2 b3 b4 b5 : Tok} {value slice : PySem.Expr} {Q : Value → Shared → Prop} (N : News h₀ L s.heap news) (hm : (l, ({ cls := .type "tuple", data := .seq #[Value.int 1 b1, Value.int 1 b2, Value.int 2 b3, Value.int 6 b4, Value.int 24 b5] } : Obj)) ∈ news) (h0 : 0 ≤ k) (h1 : k < 5)
    (h : ∀ t, Q (.int (facL.getD k.toNat 0) t) s)
    (hs : subscripted slice false (.ref l) (.int k u) = operate [.ref l, .int k u] (getItem (.ref l) (.int k u))) :
    wpAny (model prog w) A (subscriptTail value slice (.ref l) (.int k u)) Q E s :=
  kba_turn (value' := PySem.Expr.Name (PySem.Str.ofString "_") ⟨0, 0, 0, 0⟩) (fun _ => rfl) (item_tup (vs := [Value.int 1 b1, Value.int 1 b2, Value.int 2 b3, Value.int 6 b4, Value.int 24 b5]) (ns := facL) N hm (.cons _ _ (.cons _ _ (.cons _ _ (.cons _ _ (.cons _ _ .nil))))) h0 h1 (by decide) h hs fun _ => rfl)
/-- the number that the rooks make -/
noncomputable def numN (B : Int) (rs : List Int) (k : Nat) : Int := (List.range k).foldl (fun (acc : Int) (j : Nat) => acc + rs.getD j 0 * facL.getD j 0 * (B - 1) ^ (4 - j)) 0
theorem numN_succ (B : Int) (rs : List Int) (k : Nat) : numN B rs (k + 1) = numN B rs k + rs.getD k 0 * facL.getD k 0 * (B - 1) ^ (4 - k) := by
  unfold numN; rw [List.range_succ, List.foldl_append]; rfl
theorem seg11 {w : World} {fl : Addr} {p : Program} {loose : List Str} {mean : ExcName → Option Value} {mg mb : Str → Option Value} {g : Heap} {L R Fi Ro : Addr} {s : Shared} {m : Str → Option Value} {Q : Flow → Shared → Prop} {E : Value → Shared → Prop} {t1 t2 tw tb : Tok} {tot spa Wd : Int} {vs vsG : List Value} {rs nG : List Int} {k kG : Nat} {T led : Led}
    (G : LawG w p loose mean mg mb g L) (hW8 : 8 ≤ Wd) (hW9 : Wd ≤ 4143) (hiS : IntsAre vs rs) (hr5 : rs.length = 5) (hrs : ∀ j, 0 ≤ rs.getD j 0 ∧ rs.getD j 0 < 200)
    (hiG : IntsAre vsG nG) (hFi : (Fi, W.listOf vsG.toArray kG) ∈ led)
    (hT : Tabs T ((Ro, W.listOf #[] 0) :: led)) (hRo : ∀ p ∈ led, p.1 < Ro)
    (hm : ∀ p ∈ [(Str.ofString "rooks", Value.ref Ro), (Str.ofString "base", Value.int (2 ^ Wd.toNat) tb), (Str.ofString "width", Value.int Wd tw), (Str.ofString "figures", Value.ref Fi), (Str.ofString "rows", Value.ref R), (Str.ofString "spare", .int spa t2), (Str.ofString "total", .int tot t1)], m p.1 = some p.2) (F : Fr g L s.heap m)
    (N : News g L s.heap ((Ro, W.listOf vs.toArray k) :: (T ++ led)))
    (hN0 : 0 ≤ numN (2 ^ Wd.toNat) rs 5) (hN1 : Builtin.Int.intBits (numN (2 ^ Wd.toNat) rs 5) ≤ 5 * Wd.toNat)
    (hdig : ∀ ns : List Int, (ns.length : Int) = ((Builtin.Int.intBits (numN (2 ^ Wd.toNat) rs 5) : Int) + Wd - 1).fdiv Wd → (∀ i : Nat, i < ns.length → ns.getD i 0 = dig Wd (numN (2 ^ Wd.toNat) rs 5) (i : Int)) → ns = nG)
    (hq : (-(numN (2 ^ Wd.toNat) rs 5)).fdiv (2 ^ Wd.toNat - 1) = (24 - numN (2 ^ Wd.toNat) rs 5).fdiv (2 ^ Wd.toNat - 1) - 1) (hqr : (-(numN (2 ^ Wd.toNat) rs 5)).fmod (2 ^ Wd.toNat - 1) = 2 ^ Wd.toNat - 25)
    (hnext : ∀ (T' : Led) (m' : Str → Option Value) (h' : Heap) (tk' : Nat), Tabs T' ((Ro, W.listOf #[] 0) :: led) →
      (∀ p ∈ [(Str.ofString "rooks", Value.ref Ro), (Str.ofString "rows", Value.ref R), (Str.ofString "spare", .int spa t2), (Str.ofString "total", .int tot t1)], m' p.1 = some p.2) → Fr g L h' m' →
      News g L h' ((Ro, W.listOf vs.toArray k) :: (T' ++ led)) → LawAt w fl L 31 Q E { s with heap := h', toks := tk' }) :
    LawAt w fl L 27 Q E s := by
  have hS0 : StopMul := trivial; have hS1 : StopAt (Str.ofString "rim") := trivial
  obtain ⟨B, X, T0, C1, C2, C3, hL⟩ := G
  have F1 := fr_ps _ hm F
  clear F hm
  refine' seg_start ?e1 ?e2 ?_
  case e1 => exact rfl
  case e2 => exact rfl
  intro ek
  dsimp only [kstB] at F1
  (repeat' (first | (k_unfold; (try dsimp only)) | (k_end; wrow_close) | ((fail_if_success with_reducible (first | refine KswEnd_stop ?_ | refine call_stop ?_ | refine pyIter_stop ?_ | refine while_stop ?_ | refine for_stop ?_ | refine def_stop ?_ | refine CompSrcT_stop ?_ | refine CompSrc_stop ?_ | refine lca_stop ?_ | refine lce_stop ?_ | refine dsp_stop ?_ | refine lam_stop ?_ | refine cmp_stop ?_ | (refine stopAt ?_ ?_; assumption) | (refine stopMul ?_ ?_; assumption))); first | ((fail_if_success (fail_if_success (with_reducible refine st_guard ?_))); refine' store_L ?_ ?_ ?_ ?_ ?_ ?_ ?_; rotate_left 5; (first | dsimp only | rfl); (first | dsimp only | rfl); k_asm; k_asm; rfl; rfl; intro _ _ _; k_sweep) | ((with_reducible refine' item_fac_turn ?_ ?_ ?_ ?_ ?_ ?_); rotate_left 8; k_asm; exact List.Mem.head _; omega; omega; rotate_left; with_unfolding_all rfl; intro _) | ((with_reducible refine' item_tup ?_ ?_ ?_ ?_ ?_ ?_ ?_ ?_ ?_); rotate_left 5; k_asm; k_mem; k_asm; omega; omega; omega; rotate_left; with_unfolding_all rfl; kmk_pure; intro _) | ((with_reducible refine' floordiv_D ?_ ?_ ?_); (first | k_asm | omega | decide); (first | k_asm | omega | decide +kernel)) | ((with_reducible refine' pow_int ?_ ?_ ?_); omega; k_asm) | ((with_reducible refine' item_int ?_ ?_ ?_ ?_ ?_ ?_ ?_ ?_); rotate_left 6; k_asm; (first | k_asm | k_mem); k_asm; (first | exact ix0 _ | omega); (first | (refine ix1 ?_ ?_ <;> assumption) | omega | (simp only [List.length_append, List.length_cons, List.length_nil]; omega)); (first | omega | (simp only [List.length_append, List.length_cons, List.length_nil]; omega)); rotate_left; with_unfolding_all rfl; intro _) | walk1 | (dsimp only; first | ((fail_if_success (fail_if_success (with_reducible refine st_guard ?_))); refine' store_L ?_ ?_ ?_ ?_ ?_ ?_ ?_; rotate_left 5; (first | dsimp only | rfl); (first | dsimp only | rfl); k_asm; k_asm; rfl; rfl; intro _ _ _; k_sweep) | ((with_reducible refine' item_fac_turn ?_ ?_ ?_ ?_ ?_ ?_); rotate_left 8; k_asm; exact List.Mem.head _; omega; omega; rotate_left; with_unfolding_all rfl; intro _) | ((with_reducible refine' item_tup ?_ ?_ ?_ ?_ ?_ ?_ ?_ ?_ ?_); rotate_left 5; k_asm; k_mem; k_asm; omega; omega; omega; rotate_left; with_unfolding_all rfl; kmk_pure; intro _) | ((with_reducible refine' floordiv_D ?_ ?_ ?_); (first | k_asm | omega | decide); (first | k_asm | omega | decide +kernel)) | ((with_reducible refine' pow_int ?_ ?_ ?_); omega; k_asm) | ((with_reducible refine' item_int ?_ ?_ ?_ ?_ ?_ ?_ ?_ ?_); rotate_left 6; k_asm; (first | k_asm | k_mem); k_asm; (first | exact ix0 _ | omega); (first | (refine ix1 ?_ ?_ <;> assumption) | omega | (simp only [List.length_append, List.length_cons, List.length_nil]; omega)); (first | omega | (simp only [List.length_append, List.length_cons, List.length_nil]; omega)); rotate_left; with_unfolding_all rfl; intro _) | walk1) | (leave1; try dsimp only))))
  refine For_invVF (by k_asm) rfl rfl ?_
  (repeat' (first | (k_unfold; (try dsimp only)) | (k_end; wrow_close) | ((fail_if_success with_reducible (first | refine KswEnd_stop ?_ | refine call_stop ?_ | refine pyIter_stop ?_ | refine while_stop ?_ | refine for_stop ?_ | refine def_stop ?_ | refine CompSrcT_stop ?_ | refine CompSrc_stop ?_ | refine lca_stop ?_ | refine lce_stop ?_ | refine dsp_stop ?_ | refine lam_stop ?_ | refine cmp_stop ?_ | (refine stopAt ?_ ?_; assumption) | (refine stopMul ?_ ?_; assumption))); first | ((fail_if_success (fail_if_success (with_reducible refine st_guard ?_))); refine' store_L ?_ ?_ ?_ ?_ ?_ ?_ ?_; rotate_left 5; (first | dsimp only | rfl); (first | dsimp only | rfl); k_asm; k_asm; rfl; rfl; intro _ _ _; k_sweep) | ((with_reducible refine' item_fac_turn ?_ ?_ ?_ ?_ ?_ ?_); rotate_left 8; k_asm; exact List.Mem.head _; omega; omega; rotate_left; with_unfolding_all rfl; intro _) | ((with_reducible refine' item_tup ?_ ?_ ?_ ?_ ?_ ?_ ?_ ?_ ?_); rotate_left 5; k_asm; k_mem; k_asm; omega; omega; omega; rotate_left; with_unfolding_all rfl; kmk_pure; intro _) | ((with_reducible refine' floordiv_D ?_ ?_ ?_); (first | k_asm | omega | decide); (first | k_asm | omega | decide +kernel)) | ((with_reducible refine' pow_int ?_ ?_ ?_); omega; k_asm) | ((with_reducible refine' item_int ?_ ?_ ?_ ?_ ?_ ?_ ?_ ?_); rotate_left 6; k_asm; (first | k_asm | k_mem); k_asm; (first | exact ix0 _ | omega); (first | (refine ix1 ?_ ?_ <;> assumption) | omega | (simp only [List.length_append, List.length_cons, List.length_nil]; omega)); (first | omega | (simp only [List.length_append, List.length_cons, List.length_nil]; omega)); rotate_left; with_unfolding_all rfl; intro _) | walk1 | (dsimp only; first | ((fail_if_success (fail_if_success (with_reducible refine st_guard ?_))); refine' store_L ?_ ?_ ?_ ?_ ?_ ?_ ?_; rotate_left 5; (first | dsimp only | rfl); (first | dsimp only | rfl); k_asm; k_asm; rfl; rfl; intro _ _ _; k_sweep) | ((with_reducible refine' item_fac_turn ?_ ?_ ?_ ?_ ?_ ?_); rotate_left 8; k_asm; exact List.Mem.head _; omega; omega; rotate_left; with_unfolding_all rfl; intro _) | ((with_reducible refine' item_tup ?_ ?_ ?_ ?_ ?_ ?_ ?_ ?_ ?_); rotate_left 5; k_asm; k_mem; k_asm; omega; omega; omega; rotate_left; with_unfolding_all rfl; kmk_pure; intro _) | ((with_reducible refine' floordiv_D ?_ ?_ ?_); (first | k_asm | omega | decide); (first | k_asm | omega | decide +kernel)) | ((with_reducible refine' pow_int ?_ ?_ ?_); omega; k_asm) | ((with_reducible refine' item_int ?_ ?_ ?_ ?_ ?_ ?_ ?_ ?_); rotate_left 6; k_asm; (first | k_asm | k_mem); k_asm; (first | exact ix0 _ | omega); (first | (refine ix1 ?_ ?_ <;> assumption) | omega | (simp only [List.length_append, List.length_cons, List.length_nil]; omega)); (first | omega | (simp only [List.length_append, List.length_cons, List.length_nil]; omega)); rotate_left; with_unfolding_all rfl; intro _) | walk1) | (leave1; try dsimp only))))
  rename_i h1 F1 N1 h2 tk2 t₁ u₁ v₁ hr F2 N2 hk2
  refine' loop_range (σ := Int × Tok) (n := 5) (fun c => (Ro, W.listOf vs.toArray k) :: (T ++ led)) (fun c => [(Str.ofString "number", .int c.1 c.2)]) [] (fun i c => c.1 = numN (2 ^ Wd.toNat) rs i) (0, _) rfl hr rfl rfl F2 N2 ?hk rfl ?_ ?_
  case hk => kst_all
  · rintro ⟨nm, tn⟩ i tk0 u h tk I it hi P hoff F'' N''
    dsimp only [kstB] at F''
    dsimp only at P N'' hoff
    have F7 : Fr g L h _ := F''
    have N7 : News g L h ((I, it) :: (Ro, W.listOf vs.toArray k) :: (T ++ led)) := N''
    clear F'' N''
    have h0i : (0 + (i : Int)).toNat = i := z_toNat i
    have e4i : (4 - (0 + (i : Int))).toNat = 4 - i := sub_toNat 4 i
    obtain ⟨q1, q2⟩ := hrs (0 + (i : Int)).toNat
    have hpw : (2 ^ Wd.toNat - 1 : Int).natAbs < 2 ^ 4200 := pow4200 hW8 hW9 (by omega) (by omega)
    have hfit : (Builtin.Int.intBits (2 ^ Wd.toNat - 1) : Int) * (4 - (0 + (i : Int))) ≤ 2 ^ 27 := powFit hpw (by omega) (by omega)
    have hf5 : ∀ j : Nat, j < 5 → 0 ≤ facL.getD j 0 ∧ facL.getD j 0 ≤ 24 := by decide
    obtain ⟨f1, f2⟩ := hf5 (0 + (i : Int)).toNat (by omega)
    have hM1 : IntMulOk (rs.getD (0 + (i : Int)).toNat 0) (facL.getD (0 + (i : Int)).toNat 0) := IntMulOk.of_left (intBits_le (Nat.lt_of_lt_of_le (by omega : _ < 256) (by decide)))
    have hM2 : IntMulOk (rs.getD (0 + (i : Int)).toNat 0 * facL.getD (0 + (i : Int)).toNat 0) ((2 ^ Wd.toNat - 1) ^ (4 - (0 + (i : Int))).toNat) := IntMulOk.of_left (intBits_le (Nat.lt_of_le_of_lt (by
      rw [Int.natAbs_mul]
      exact Nat.mul_le_mul (by omega : _ ≤ 200) (by omega : _ ≤ 24)) (by decide)))
    (repeat' (first | (k_unfold; (try dsimp only)) | (k_end; wrow_close) | ((fail_if_success with_reducible (first | refine KswEnd_stop ?_ | refine call_stop ?_ | refine pyIter_stop ?_ | refine while_stop ?_ | refine for_stop ?_ | refine def_stop ?_ | refine CompSrcT_stop ?_ | refine CompSrc_stop ?_ | refine lca_stop ?_ | refine lce_stop ?_ | refine dsp_stop ?_ | refine lam_stop ?_ | refine cmp_stop ?_ | (refine stopAt ?_ ?_; assumption) | (refine stopMul ?_ ?_; assumption))); first | ((fail_if_success (fail_if_success (with_reducible refine st_guard ?_))); refine' store_L ?_ ?_ ?_ ?_ ?_ ?_ ?_; rotate_left 5; (first | dsimp only | rfl); (first | dsimp only | rfl); k_asm; k_asm; rfl; rfl; intro _ _ _; k_sweep) | ((with_reducible refine' item_fac_turn ?_ ?_ ?_ ?_ ?_ ?_); rotate_left 8; k_asm; exact List.Mem.head _; omega; omega; rotate_left; with_unfolding_all rfl; intro _) | ((with_reducible refine' item_tup ?_ ?_ ?_ ?_ ?_ ?_ ?_ ?_ ?_); rotate_left 5; k_asm; k_mem; k_asm; omega; omega; omega; rotate_left; with_unfolding_all rfl; kmk_pure; intro _) | ((with_reducible refine' floordiv_D ?_ ?_ ?_); (first | k_asm | omega | decide); (first | k_asm | omega | decide +kernel)) | ((with_reducible refine' pow_int ?_ ?_ ?_); omega; k_asm) | ((with_reducible refine' item_int ?_ ?_ ?_ ?_ ?_ ?_ ?_ ?_); rotate_left 6; k_asm; (first | k_asm | k_mem); k_asm; (first | exact ix0 _ | omega); (first | (refine ix1 ?_ ?_ <;> assumption) | omega | (simp only [List.length_append, List.length_cons, List.length_nil]; omega)); (first | omega | (simp only [List.length_append, List.length_cons, List.length_nil]; omega)); rotate_left; with_unfolding_all rfl; intro _) | walk1 | (dsimp only; first | ((fail_if_success (fail_if_success (with_reducible refine st_guard ?_))); refine' store_L ?_ ?_ ?_ ?_ ?_ ?_ ?_; rotate_left 5; (first | dsimp only | rfl); (first | dsimp only | rfl); k_asm; k_asm; rfl; rfl; intro _ _ _; k_sweep) | ((with_reducible refine' item_fac_turn ?_ ?_ ?_ ?_ ?_ ?_); rotate_left 8; k_asm; exact List.Mem.head _; omega; omega; rotate_left; with_unfolding_all rfl; intro _) | ((with_reducible refine' item_tup ?_ ?_ ?_ ?_ ?_ ?_ ?_ ?_ ?_); rotate_left 5; k_asm; k_mem; k_asm; omega; omega; omega; rotate_left; with_unfolding_all rfl; kmk_pure; intro _) | ((with_reducible refine' floordiv_D ?_ ?_ ?_); (first | k_asm | omega | decide); (first | k_asm | omega | decide +kernel)) | ((with_reducible refine' pow_int ?_ ?_ ?_); omega; k_asm) | ((with_reducible refine' item_int ?_ ?_ ?_ ?_ ?_ ?_ ?_ ?_); rotate_left 6; k_asm; (first | k_asm | k_mem); k_asm; (first | exact ix0 _ | omega); (first | (refine ix1 ?_ ?_ <;> assumption) | omega | (simp only [List.length_append, List.length_cons, List.length_nil]; omega)); (first | omega | (simp only [List.length_append, List.length_cons, List.length_nil]; omega)); rotate_left; with_unfolding_all rfl; intro _) | walk1) | (leave1; try dsimp only))))
    refine mul_int ?_ (by with_reducible exact hM1)
    (repeat' (first | (k_unfold; (try dsimp only)) | (k_end; wrow_close) | ((fail_if_success with_reducible (first | refine KswEnd_stop ?_ | refine call_stop ?_ | refine pyIter_stop ?_ | refine while_stop ?_ | refine for_stop ?_ | refine def_stop ?_ | refine CompSrcT_stop ?_ | refine CompSrc_stop ?_ | refine lca_stop ?_ | refine lce_stop ?_ | refine dsp_stop ?_ | refine lam_stop ?_ | refine cmp_stop ?_ | (refine stopAt ?_ ?_; assumption) | (refine stopMul ?_ ?_; assumption))); first | ((fail_if_success (fail_if_success (with_reducible refine st_guard ?_))); refine' store_L ?_ ?_ ?_ ?_ ?_ ?_ ?_; rotate_left 5; (first | dsimp only | rfl); (first | dsimp only | rfl); k_asm; k_asm; rfl; rfl; intro _ _ _; k_sweep) | ((with_reducible refine' item_fac_turn ?_ ?_ ?_ ?_ ?_ ?_); rotate_left 8; k_asm; exact List.Mem.head _; omega; omega; rotate_left; with_unfolding_all rfl; intro _) | ((with_reducible refine' item_tup ?_ ?_ ?_ ?_ ?_ ?_ ?_ ?_ ?_); rotate_left 5; k_asm; k_mem; k_asm; omega; omega; omega; rotate_left; with_unfolding_all rfl; kmk_pure; intro _) | ((with_reducible refine' floordiv_D ?_ ?_ ?_); (first | k_asm | omega | decide); (first | k_asm | omega | decide +kernel)) | ((with_reducible refine' pow_int ?_ ?_ ?_); omega; k_asm) | ((with_reducible refine' item_int ?_ ?_ ?_ ?_ ?_ ?_ ?_ ?_); rotate_left 6; k_asm; (first | k_asm | k_mem); k_asm; (first | exact ix0 _ | omega); (first | (refine ix1 ?_ ?_ <;> assumption) | omega | (simp only [List.length_append, List.length_cons, List.length_nil]; omega)); (first | omega | (simp only [List.length_append, List.length_cons, List.length_nil]; omega)); rotate_left; with_unfolding_all rfl; intro _) | walk1 | (dsimp only; first | ((fail_if_success (fail_if_success (with_reducible refine st_guard ?_))); refine' store_L ?_ ?_ ?_ ?_ ?_ ?_ ?_; rotate_left 5; (first | dsimp only | rfl); (first | dsimp only | rfl); k_asm; k_asm; rfl; rfl; intro _ _ _; k_sweep) | ((with_reducible refine' item_fac_turn ?_ ?_ ?_ ?_ ?_ ?_); rotate_left 8; k_asm; exact List.Mem.head _; omega; omega; rotate_left; with_unfolding_all rfl; intro _) | ((with_reducible refine' item_tup ?_ ?_ ?_ ?_ ?_ ?_ ?_ ?_ ?_); rotate_left 5; k_asm; k_mem; k_asm; omega; omega; omega; rotate_left; with_unfolding_all rfl; kmk_pure; intro _) | ((with_reducible refine' floordiv_D ?_ ?_ ?_); (first | k_asm | omega | decide); (first | k_asm | omega | decide +kernel)) | ((with_reducible refine' pow_int ?_ ?_ ?_); omega; k_asm) | ((with_reducible refine' item_int ?_ ?_ ?_ ?_ ?_ ?_ ?_ ?_); rotate_left 6; k_asm; (first | k_asm | k_mem); k_asm; (first | exact ix0 _ | omega); (first | (refine ix1 ?_ ?_ <;> assumption) | omega | (simp only [List.length_append, List.length_cons, List.length_nil]; omega)); (first | omega | (simp only [List.length_append, List.length_cons, List.length_nil]; omega)); rotate_left; with_unfolding_all rfl; intro _) | walk1) | (leave1; try dsimp only))))
    refine mul_int ?_ (by with_reducible exact hM2)
    dsimp only
    walk1
    have hnm : nm + rs.getD (0 + (i : Int)).toNat 0 * facL.getD (0 + (i : Int)).toNat 0 * (2 ^ Wd.toNat - 1) ^ (4 - (0 + (i : Int))).toNat = numN (2 ^ Wd.toNat) rs (i + 1) := by
      rw [numN_succ, ← P, h0i, e4i]
    obtain ⟨term, hte⟩ : ∃ x, x = numN (2 ^ Wd.toNat) rs (i + 1) := ⟨_, rfl⟩
    rw [hnm, ← hte]
    (repeat' (first | (k_unfold; (try dsimp only)) | (k_end; wrow_close) | ((fail_if_success with_reducible (first | refine KswEnd_stop ?_ | refine call_stop ?_ | refine pyIter_stop ?_ | refine while_stop ?_ | refine for_stop ?_ | refine def_stop ?_ | refine CompSrcT_stop ?_ | refine CompSrc_stop ?_ | refine lca_stop ?_ | refine lce_stop ?_ | refine dsp_stop ?_ | refine lam_stop ?_ | refine cmp_stop ?_ | (refine stopAt ?_ ?_; assumption) | (refine stopMul ?_ ?_; assumption))); first | ((fail_if_success (fail_if_success (with_reducible refine st_guard ?_))); refine' store_L ?_ ?_ ?_ ?_ ?_ ?_ ?_; rotate_left 5; (first | dsimp only | rfl); (first | dsimp only | rfl); k_asm; k_asm; rfl; rfl; intro _ _ _; k_sweep) | ((with_reducible refine' item_fac_turn ?_ ?_ ?_ ?_ ?_ ?_); rotate_left 8; k_asm; exact List.Mem.head _; omega; omega; rotate_left; with_unfolding_all rfl; intro _) | ((with_reducible refine' item_tup ?_ ?_ ?_ ?_ ?_ ?_ ?_ ?_ ?_); rotate_left 5; k_asm; k_mem; k_asm; omega; omega; omega; rotate_left; with_unfolding_all rfl; kmk_pure; intro _) | ((with_reducible refine' floordiv_D ?_ ?_ ?_); (first | k_asm | omega | decide); (first | k_asm | omega | decide +kernel)) | ((with_reducible refine' pow_int ?_ ?_ ?_); omega; k_asm) | ((with_reducible refine' item_int ?_ ?_ ?_ ?_ ?_ ?_ ?_ ?_); rotate_left 6; k_asm; (first | k_asm | k_mem); k_asm; (first | exact ix0 _ | omega); (first | (refine ix1 ?_ ?_ <;> assumption) | omega | (simp only [List.length_append, List.length_cons, List.length_nil]; omega)); (first | omega | (simp only [List.length_append, List.length_cons, List.length_nil]; omega)); rotate_left; with_unfolding_all rfl; intro _) | walk1 | (dsimp only; first | ((fail_if_success (fail_if_success (with_reducible refine st_guard ?_))); refine' store_L ?_ ?_ ?_ ?_ ?_ ?_ ?_; rotate_left 5; (first | dsimp only | rfl); (first | dsimp only | rfl); k_asm; k_asm; rfl; rfl; intro _ _ _; k_sweep) | ((with_reducible refine' item_fac_turn ?_ ?_ ?_ ?_ ?_ ?_); rotate_left 8; k_asm; exact List.Mem.head _; omega; omega; rotate_left; with_unfolding_all rfl; intro _) | ((with_reducible refine' item_tup ?_ ?_ ?_ ?_ ?_ ?_ ?_ ?_ ?_); rotate_left 5; k_asm; k_mem; k_asm; omega; omega; omega; rotate_left; with_unfolding_all rfl; kmk_pure; intro _) | ((with_reducible refine' floordiv_D ?_ ?_ ?_); (first | k_asm | omega | decide); (first | k_asm | omega | decide +kernel)) | ((with_reducible refine' pow_int ?_ ?_ ?_); omega; k_asm) | ((with_reducible refine' item_int ?_ ?_ ?_ ?_ ?_ ?_ ?_ ?_); rotate_left 6; k_asm; (first | k_asm | k_mem); k_asm; (first | exact ix0 _ | omega); (first | (refine ix1 ?_ ?_ <;> assumption) | omega | (simp only [List.length_append, List.length_cons, List.length_nil]; omega)); (first | omega | (simp only [List.length_append, List.length_cons, List.length_nil]; omega)); rotate_left; with_unfolding_all rfl; intro _) | walk1) | (leave1; try dsimp only))))
    refine tpost_next (tend (_, _) (by k_asm) (by k_asm) (.tail _ (.head _)) (fun p hp => .tail _ (.tail _ hp)) hoff (by kst_all) (by kst_same) rfl)
  · rintro ⟨nm, tn⟩ u h tk P F'' N''
    dsimp only [kstB] at F''
    dsimp only at P N''
    have F7 : Fr g L h _ := F''
    have N7 : News g L h ((Ro, W.listOf vs.toArray k) :: (T ++ led)) := N''
    clear F'' N''
    obtain ⟨ta, tb', rfl, hta, htb, hda, hdb⟩ := hT
    have N8 : News g L h (ta ++ (tb' ++ ((Ro, W.listOf vs.toArray k) :: led))) := news_sub N7 (by
      intro p hp
      rcases List.mem_append.mp hp with hp | hp
      · exact .tail _ (List.mem_append_left _ (List.mem_append_left _ hp))
      · rcases List.mem_append.mp hp with hp | hp
        · exact .tail _ (List.mem_append_left _ (List.mem_append_right _ hp))
        · rcases List.mem_cons.mp hp with hp | hp
          · exact hp ▸ .head _
          · exact .tail _ (List.mem_append_right _ hp))
    clear N7
    have hda2 : Dis ta (tb' ++ ((Ro, W.listOf vs.toArray k) :: led)) := hda.left.app (Dis.cons (fun q hq => hda q hq (Ro, W.listOf #[] 0) (List.mem_append_right _ (.head _))) fun q hq p hp => hda q hq p (List.mem_append_right _ (.tail _ hp)))
    have hdb2 : Dis tb' ((Ro, W.listOf vs.toArray k) :: led) := Dis.cons (fun q hq => hdb q hq (Ro, W.listOf #[] 0) (.head _)) fun q hq p hp => hdb q hq p (.tail _ hp)
    rw [← P] at hN0 hN1 hdig hq hqr
    obtain ⟨b0, b1, b2⟩ : 0 < (2 : Int) ^ Wd.toNat - 1 ∧ Builtin.Int.intBits ((2 : Int) ^ Wd.toNat - 1) ≤ 5000 ∧ Builtin.Int.intBits (-nm) ≤ 8 * Builtin.Int.intBits ((2 : Int) ^ Wd.toNat - 1) := by
      have hp1 : (2 : Int) ^ 0 ≤ 2 ^ (4 * Wd.toNat + 4) := pow2_le (Nat.zero_le _)
      obtain ⟨c0, c1, c2, c3⟩ := bitsPB (n := Wd.toNat) (P := 0) (b := 2 ^ Wd.toNat - 1) (by omega) (by omega) (Int.le_refl 0) (by omega) (by omega) (by omega)
      exact ⟨c0, c1, by rw [intBits_neg9]; omega⟩
    (repeat' (first | (k_unfold; (try dsimp only)) | (k_end; wrow_close) | ((fail_if_success with_reducible (first | refine KswEnd_stop ?_ | refine call_stop ?_ | refine pyIter_stop ?_ | refine while_stop ?_ | refine for_stop ?_ | refine def_stop ?_ | refine CompSrcT_stop ?_ | refine CompSrc_stop ?_ | refine lca_stop ?_ | refine lce_stop ?_ | refine dsp_stop ?_ | refine lam_stop ?_ | refine cmp_stop ?_ | (refine stopAt ?_ ?_; assumption) | (refine stopMul ?_ ?_; assumption))); first | ((fail_if_success (fail_if_success (with_reducible refine st_guard ?_))); refine' store_L ?_ ?_ ?_ ?_ ?_ ?_ ?_; rotate_left 5; (first | dsimp only | rfl); (first | dsimp only | rfl); k_asm; k_asm; rfl; rfl; intro _ _ _; k_sweep) | ((with_reducible refine' item_fac_turn ?_ ?_ ?_ ?_ ?_ ?_); rotate_left 8; k_asm; exact List.Mem.head _; omega; omega; rotate_left; with_unfolding_all rfl; intro _) | ((with_reducible refine' item_tup ?_ ?_ ?_ ?_ ?_ ?_ ?_ ?_ ?_); rotate_left 5; k_asm; k_mem; k_asm; omega; omega; omega; rotate_left; with_unfolding_all rfl; kmk_pure; intro _) | ((with_reducible refine' floordiv_D ?_ ?_ ?_); (first | k_asm | omega | decide); (first | k_asm | omega | decide +kernel)) | ((with_reducible refine' pow_int ?_ ?_ ?_); omega; k_asm) | ((with_reducible refine' item_int ?_ ?_ ?_ ?_ ?_ ?_ ?_ ?_); rotate_left 6; k_asm; (first | k_asm | k_mem); k_asm; (first | exact ix0 _ | omega); (first | (refine ix1 ?_ ?_ <;> assumption) | omega | (simp only [List.length_append, List.length_cons, List.length_nil]; omega)); (first | omega | (simp only [List.length_append, List.length_cons, List.length_nil]; omega)); rotate_left; with_unfolding_all rfl; intro _) | walk1 | (dsimp only; first | ((fail_if_success (fail_if_success (with_reducible refine st_guard ?_))); refine' store_L ?_ ?_ ?_ ?_ ?_ ?_ ?_; rotate_left 5; (first | dsimp only | rfl); (first | dsimp only | rfl); k_asm; k_asm; rfl; rfl; intro _ _ _; k_sweep) | ((with_reducible refine' item_fac_turn ?_ ?_ ?_ ?_ ?_ ?_); rotate_left 8; k_asm; exact List.Mem.head _; omega; omega; rotate_left; with_unfolding_all rfl; intro _) | ((with_reducible refine' item_tup ?_ ?_ ?_ ?_ ?_ ?_ ?_ ?_ ?_); rotate_left 5; k_asm; k_mem; k_asm; omega; omega; omega; rotate_left; with_unfolding_all rfl; kmk_pure; intro _) | ((with_reducible refine' floordiv_D ?_ ?_ ?_); (first | k_asm | omega | decide); (first | k_asm | omega | decide +kernel)) | ((with_reducible refine' pow_int ?_ ?_ ?_); omega; k_asm) | ((with_reducible refine' item_int ?_ ?_ ?_ ?_ ?_ ?_ ?_ ?_); rotate_left 6; k_asm; (first | k_asm | k_mem); k_asm; (first | exact ix0 _ | omega); (first | (refine ix1 ?_ ?_ <;> assumption) | omega | (simp only [List.length_append, List.length_cons, List.length_nil]; omega)); (first | omega | (simp only [List.length_append, List.length_cons, List.length_nil]; omega)); rotate_left; with_unfolding_all rfl; intro _) | walk1) | (leave1; try dsimp only))))
    (with_unfolding_all refine' Does.use (int2digits w ta (tb' ++ ((Ro, W.listOf vs.toArray k) :: led)) nm Wd _ _ hN0 (by omega) hta hda2 (by omega) (by omega)) (by k_asm) (by k_asm) (by k_asm) (by k_asm) (by k_asm) (by assumption) (by assumption) (by first | exact rfl | assumption) (by ktr_room) (by ktr_units) ?_)
    intro r9 news9 h9 tk9 F9 N9 O9
    revert N9
    apply rn5 O9
    clear O9
    intro l9 vs9 ns9 nn9 ta2 hO N9
    refine and6 hO ?_
    clear hO
    intro hta2 hda3 hf9 hi9 hlen9 hdg9
    have hns := hdig ns9 hlen9 hdg9
    subst hns
    dsimp only
    have hlog : ((2 : Int) ^ Wd.toNat - 1).natAbs.log2 < 9000 := by
      have h1 := intBits_le_iff.mp b1
      by_cases h0 : ((2 : Int) ^ Wd.toNat - 1).natAbs = 0
      · rw [h0]; decide
      · have h2 := (Nat.log2_lt h0).mpr h1
        omega
    (repeat' (first | (k_unfold; (try dsimp only)) | (k_end; wrow_close) | ((fail_if_success with_reducible (first | refine KswEnd_stop ?_ | refine call_stop ?_ | refine pyIter_stop ?_ | refine while_stop ?_ | refine for_stop ?_ | refine def_stop ?_ | refine CompSrcT_stop ?_ | refine CompSrc_stop ?_ | refine lca_stop ?_ | refine lce_stop ?_ | refine dsp_stop ?_ | refine lam_stop ?_ | refine cmp_stop ?_ | (refine stopAt ?_ ?_; assumption) | (refine stopMul ?_ ?_; assumption))); first | ((fail_if_success (fail_if_success (with_reducible refine st_guard ?_))); refine' store_L ?_ ?_ ?_ ?_ ?_ ?_ ?_; rotate_left 5; (first | dsimp only | rfl); (first | dsimp only | rfl); k_asm; k_asm; rfl; rfl; intro _ _ _; k_sweep) | ((with_reducible refine' item_fac_turn ?_ ?_ ?_ ?_ ?_ ?_); rotate_left 8; k_asm; exact List.Mem.head _; omega; omega; rotate_left; with_unfolding_all rfl; intro _) | ((with_reducible refine' item_tup ?_ ?_ ?_ ?_ ?_ ?_ ?_ ?_ ?_); rotate_left 5; k_asm; k_mem; k_asm; omega; omega; omega; rotate_left; with_unfolding_all rfl; kmk_pure; intro _) | ((with_reducible refine' floordiv_D ?_ ?_ ?_); (first | k_asm | omega | decide); (first | k_asm | omega | decide +kernel)) | ((with_reducible refine' pow_int ?_ ?_ ?_); omega; k_asm) | ((with_reducible refine' item_int ?_ ?_ ?_ ?_ ?_ ?_ ?_ ?_); rotate_left 6; k_asm; (first | k_asm | k_mem); k_asm; (first | exact ix0 _ | omega); (first | (refine ix1 ?_ ?_ <;> assumption) | omega | (simp only [List.length_append, List.length_cons, List.length_nil]; omega)); (first | omega | (simp only [List.length_append, List.length_cons, List.length_nil]; omega)); rotate_left; with_unfolding_all rfl; intro _) | walk1 | (dsimp only; first | ((fail_if_success (fail_if_success (with_reducible refine st_guard ?_))); refine' store_L ?_ ?_ ?_ ?_ ?_ ?_ ?_; rotate_left 5; (first | dsimp only | rfl); (first | dsimp only | rfl); k_asm; k_asm; rfl; rfl; intro _ _ _; k_sweep) | ((with_reducible refine' item_fac_turn ?_ ?_ ?_ ?_ ?_ ?_); rotate_left 8; k_asm; exact List.Mem.head _; omega; omega; rotate_left; with_unfolding_all rfl; intro _) | ((with_reducible refine' item_tup ?_ ?_ ?_ ?_ ?_ ?_ ?_ ?_ ?_); rotate_left 5; k_asm; k_mem; k_asm; omega; omega; omega; rotate_left; with_unfolding_all rfl; kmk_pure; intro _) | ((with_reducible refine' floordiv_D ?_ ?_ ?_); (first | k_asm | omega | decide); (first | k_asm | omega | decide +kernel)) | ((with_reducible refine' pow_int ?_ ?_ ?_); omega; k_asm) | ((with_reducible refine' item_int ?_ ?_ ?_ ?_ ?_ ?_ ?_ ?_); rotate_left 6; k_asm; (first | k_asm | k_mem); k_asm; (first | exact ix0 _ | omega); (first | (refine ix1 ?_ ?_ <;> assumption) | omega | (simp only [List.length_append, List.length_cons, List.length_nil]; omega)); (first | omega | (simp only [List.length_append, List.length_cons, List.length_nil]; omega)); rotate_left; with_unfolding_all rfl; intro _) | walk1) | (leave1; try dsimp only))))
    refine' ke_ne_ints ?e1 ?e2 hi9 hiG ?e3 ?_
    case e1 => exact News.isList N9 (.head _)
    case e2 => exact News.isList N9 (.tail _ (List.mem_append_right _ (List.mem_append_right _ (.tail _ hFi))))
    case e3 => ke_room
    rw [show (!decide (ns9 = ns9)) = false by simp]
    have N10 : News g L h9 ((ta2 ++ tb') ++ ((Ro, W.listOf vs.toArray k) :: led)) := news_sub N9 fun p hp => .tail _ (by rw [← List.append_assoc]; exact hp)
    have hT2 : Tabs (ta2 ++ tb') ((Ro, W.listOf vs.toArray k) :: led) := ⟨ta2, tb', rfl, hta2, htb, hda3, hdb2⟩
    clear N9
    (repeat' (first | (k_unfold; (try dsimp only)) | (k_end; wrow_close) | ((fail_if_success with_reducible (first | refine KswEnd_stop ?_ | refine call_stop ?_ | refine pyIter_stop ?_ | refine while_stop ?_ | refine for_stop ?_ | refine def_stop ?_ | refine CompSrcT_stop ?_ | refine CompSrc_stop ?_ | refine lca_stop ?_ | refine lce_stop ?_ | refine dsp_stop ?_ | refine lam_stop ?_ | refine cmp_stop ?_ | (refine stopAt ?_ ?_; assumption) | (refine stopMul ?_ ?_; assumption))); first | ((fail_if_success (fail_if_success (with_reducible refine st_guard ?_))); refine' store_L ?_ ?_ ?_ ?_ ?_ ?_ ?_; rotate_left 5; (first | dsimp only | rfl); (first | dsimp only | rfl); k_asm; k_asm; rfl; rfl; intro _ _ _; k_sweep) | ((with_reducible refine' item_fac_turn ?_ ?_ ?_ ?_ ?_ ?_); rotate_left 8; k_asm; exact List.Mem.head _; omega; omega; rotate_left; with_unfolding_all rfl; intro _) | ((with_reducible refine' item_tup ?_ ?_ ?_ ?_ ?_ ?_ ?_ ?_ ?_); rotate_left 5; k_asm; k_mem; k_asm; omega; omega; omega; rotate_left; with_unfolding_all rfl; kmk_pure; intro _) | ((with_reducible refine' floordiv_D ?_ ?_ ?_); (first | k_asm | omega | decide); (first | k_asm | omega | decide +kernel)) | ((with_reducible refine' pow_int ?_ ?_ ?_); omega; k_asm) | ((with_reducible refine' item_int ?_ ?_ ?_ ?_ ?_ ?_ ?_ ?_); rotate_left 6; k_asm; (first | k_asm | k_mem); k_asm; (first | exact ix0 _ | omega); (first | (refine ix1 ?_ ?_ <;> assumption) | omega | (simp only [List.length_append, List.length_cons, List.length_nil]; omega)); (first | omega | (simp only [List.length_append, List.length_cons, List.length_nil]; omega)); rotate_left; with_unfolding_all rfl; intro _) | walk1 | (dsimp only; first | ((fail_if_success (fail_if_success (with_reducible refine st_guard ?_))); refine' store_L ?_ ?_ ?_ ?_ ?_ ?_ ?_; rotate_left 5; (first | dsimp only | rfl); (first | dsimp only | rfl); k_asm; k_asm; rfl; rfl; intro _ _ _; k_sweep) | ((with_reducible refine' item_fac_turn ?_ ?_ ?_ ?_ ?_ ?_); rotate_left 8; k_asm; exact List.Mem.head _; omega; omega; rotate_left; with_unfolding_all rfl; intro _) | ((with_reducible refine' item_tup ?_ ?_ ?_ ?_ ?_ ?_ ?_ ?_ ?_); rotate_left 5; k_asm; k_mem; k_asm; omega; omega; omega; rotate_left; with_unfolding_all rfl; kmk_pure; intro _) | ((with_reducible refine' floordiv_D ?_ ?_ ?_); (first | k_asm | omega | decide); (first | k_asm | omega | decide +kernel)) | ((with_reducible refine' pow_int ?_ ?_ ?_); omega; k_asm) | ((with_reducible refine' item_int ?_ ?_ ?_ ?_ ?_ ?_ ?_ ?_); rotate_left 6; k_asm; (first | k_asm | k_mem); k_asm; (first | exact ix0 _ | omega); (first | (refine ix1 ?_ ?_ <;> assumption) | omega | (simp only [List.length_append, List.length_cons, List.length_nil]; omega)); (first | omega | (simp only [List.length_append, List.length_cons, List.length_nil]; omega)); rotate_left; with_unfolding_all rfl; intro _) | walk1) | (leave1; try dsimp only))))
    (with_unfolding_all refine' Does.use (idm1 w (ta2 ++ tb') ((Ro, W.listOf vs.toArray k) :: led) (-nm) (2 ^ Wd.toNat - 1) _ _ b0 hT2 b1 b2) (by k_asm) (by k_asm) (by k_asm) (by k_asm) (by k_asm) (by assumption) (by assumption) (by first | exact rfl | assumption) (by ktr_room) (by ktr_units) ?_)
    intro r9 news9 h9 tk9 F9 N9 O9
    revert N9
    apply idm_elim O9
    clear O9
    intro l2 t91 t92 T2 hT3 hf9 N9
    rw [hq, hqr] at N9
    dsimp only
    (repeat' (first | (k_unfold; (try dsimp only)) | (k_end; wrow_close) | ((fail_if_success with_reducible (first | refine KswEnd_stop ?_ | refine call_stop ?_ | refine pyIter_stop ?_ | refine while_stop ?_ | refine for_stop ?_ | refine def_stop ?_ | refine CompSrcT_stop ?_ | refine CompSrc_stop ?_ | refine lca_stop ?_ | refine lce_stop ?_ | refine dsp_stop ?_ | refine lam_stop ?_ | refine cmp_stop ?_ | (refine stopAt ?_ ?_; assumption) | (refine stopMul ?_ ?_; assumption))); first | ((fail_if_success (fail_if_success (with_reducible refine st_guard ?_))); refine' store_L ?_ ?_ ?_ ?_ ?_ ?_ ?_; rotate_left 5; (first | dsimp only | rfl); (first | dsimp only | rfl); k_asm; k_asm; rfl; rfl; intro _ _ _; k_sweep) | ((with_reducible refine' item_fac_turn ?_ ?_ ?_ ?_ ?_ ?_); rotate_left 8; k_asm; exact List.Mem.head _; omega; omega; rotate_left; with_unfolding_all rfl; intro _) | ((with_reducible refine' item_tup ?_ ?_ ?_ ?_ ?_ ?_ ?_ ?_ ?_); rotate_left 5; k_asm; k_mem; k_asm; omega; omega; omega; rotate_left; with_unfolding_all rfl; kmk_pure; intro _) | ((with_reducible refine' floordiv_D ?_ ?_ ?_); (first | k_asm | omega | decide); (first | k_asm | omega | decide +kernel)) | ((with_reducible refine' pow_int ?_ ?_ ?_); omega; k_asm) | ((with_reducible refine' item_int ?_ ?_ ?_ ?_ ?_ ?_ ?_ ?_); rotate_left 6; k_asm; (first | k_asm | k_mem); k_asm; (first | exact ix0 _ | omega); (first | (refine ix1 ?_ ?_ <;> assumption) | omega | (simp only [List.length_append, List.length_cons, List.length_nil]; omega)); (first | omega | (simp only [List.length_append, List.length_cons, List.length_nil]; omega)); rotate_left; with_unfolding_all rfl; intro _) | walk1 | (dsimp only; first | ((fail_if_success (fail_if_success (with_reducible refine st_guard ?_))); refine' store_L ?_ ?_ ?_ ?_ ?_ ?_ ?_; rotate_left 5; (first | dsimp only | rfl); (first | dsimp only | rfl); k_asm; k_asm; rfl; rfl; intro _ _ _; k_sweep) | ((with_reducible refine' item_fac_turn ?_ ?_ ?_ ?_ ?_ ?_); rotate_left 8; k_asm; exact List.Mem.head _; omega; omega; rotate_left; with_unfolding_all rfl; intro _) | ((with_reducible refine' item_tup ?_ ?_ ?_ ?_ ?_ ?_ ?_ ?_ ?_); rotate_left 5; k_asm; k_mem; k_asm; omega; omega; omega; rotate_left; with_unfolding_all rfl; kmk_pure; intro _) | ((with_reducible refine' floordiv_D ?_ ?_ ?_); (first | k_asm | omega | decide); (first | k_asm | omega | decide +kernel)) | ((with_reducible refine' pow_int ?_ ?_ ?_); omega; k_asm) | ((with_reducible refine' item_int ?_ ?_ ?_ ?_ ?_ ?_ ?_ ?_); rotate_left 6; k_asm; (first | k_asm | k_mem); k_asm; (first | exact ix0 _ | omega); (first | (refine ix1 ?_ ?_ <;> assumption) | omega | (simp only [List.length_append, List.length_cons, List.length_nil]; omega)); (first | omega | (simp only [List.length_append, List.length_cons, List.length_nil]; omega)); rotate_left; with_unfolding_all rfl; intro _) | walk1) | (leave1; try dsimp only))))
    refine' ne_tup2 ?e1 ?e2 ?e3 ?e4 ?_
    case e1 => k_asm
    case e2 => exact .tail _ (.head _)
    case e3 => exact .head _
    case e4 => ke_room
    rw [show (!(((24 - nm).fdiv (2 ^ Wd.toNat - 1) - 1 == (24 - nm).fdiv (2 ^ Wd.toNat - 1) - 1) && ((2 ^ Wd.toNat - 25 : Int) == 2 ^ Wd.toNat - 25))) = false by rw [beq_self_eq_true, beq_self_eq_true]; rfl]
    (repeat' (first | (k_unfold; (try dsimp only)) | (k_end; wrow_close) | ((fail_if_success with_reducible (first | refine KswEnd_stop ?_ | refine call_stop ?_ | refine pyIter_stop ?_ | refine while_stop ?_ | refine for_stop ?_ | refine def_stop ?_ | refine CompSrcT_stop ?_ | refine CompSrc_stop ?_ | refine lca_stop ?_ | refine lce_stop ?_ | refine dsp_stop ?_ | refine lam_stop ?_ | refine cmp_stop ?_ | (refine stopAt ?_ ?_; assumption) | (refine stopMul ?_ ?_; assumption))); first | ((fail_if_success (fail_if_success (with_reducible refine st_guard ?_))); refine' store_L ?_ ?_ ?_ ?_ ?_ ?_ ?_; rotate_left 5; (first | dsimp only | rfl); (first | dsimp only | rfl); k_asm; k_asm; rfl; rfl; intro _ _ _; k_sweep) | ((with_reducible refine' item_fac_turn ?_ ?_ ?_ ?_ ?_ ?_); rotate_left 8; k_asm; exact List.Mem.head _; omega; omega; rotate_left; with_unfolding_all rfl; intro _) | ((with_reducible refine' item_tup ?_ ?_ ?_ ?_ ?_ ?_ ?_ ?_ ?_); rotate_left 5; k_asm; k_mem; k_asm; omega; omega; omega; rotate_left; with_unfolding_all rfl; kmk_pure; intro _) | ((with_reducible refine' floordiv_D ?_ ?_ ?_); (first | k_asm | omega | decide); (first | k_asm | omega | decide +kernel)) | ((with_reducible refine' pow_int ?_ ?_ ?_); omega; k_asm) | ((with_reducible refine' item_int ?_ ?_ ?_ ?_ ?_ ?_ ?_ ?_); rotate_left 6; k_asm; (first | k_asm | k_mem); k_asm; (first | exact ix0 _ | omega); (first | (refine ix1 ?_ ?_ <;> assumption) | omega | (simp only [List.length_append, List.length_cons, List.length_nil]; omega)); (first | omega | (simp only [List.length_append, List.length_cons, List.length_nil]; omega)); rotate_left; with_unfolding_all rfl; intro _) | walk1 | (dsimp only; first | ((fail_if_success (fail_if_success (with_reducible refine st_guard ?_))); refine' store_L ?_ ?_ ?_ ?_ ?_ ?_ ?_; rotate_left 5; (first | dsimp only | rfl); (first | dsimp only | rfl); k_asm; k_asm; rfl; rfl; intro _ _ _; k_sweep) | ((with_reducible refine' item_fac_turn ?_ ?_ ?_ ?_ ?_ ?_); rotate_left 8; k_asm; exact List.Mem.head _; omega; omega; rotate_left; with_unfolding_all rfl; intro _) | ((with_reducible refine' item_tup ?_ ?_ ?_ ?_ ?_ ?_ ?_ ?_ ?_); rotate_left 5; k_asm; k_mem; k_asm; omega; omega; omega; rotate_left; with_unfolding_all rfl; kmk_pure; intro _) | ((with_reducible refine' floordiv_D ?_ ?_ ?_); (first | k_asm | omega | decide); (first | k_asm | omega | decide +kernel)) | ((with_reducible refine' pow_int ?_ ?_ ?_); omega; k_asm) | ((with_reducible refine' item_int ?_ ?_ ?_ ?_ ?_ ?_ ?_ ?_); rotate_left 6; k_asm; (first | k_asm | k_mem); k_asm; (first | exact ix0 _ | omega); (first | (refine ix1 ?_ ?_ <;> assumption) | omega | (simp only [List.length_append, List.length_cons, List.length_nil]; omega)); (first | omega | (simp only [List.length_append, List.length_cons, List.length_nil]; omega)); rotate_left; with_unfolding_all rfl; intro _) | walk1) | (leave1; try dsimp only))))
    rename News _ _ _ _ => N11
    rename Fr _ _ _ _ => F11
    have hTd := hT3.dis
    refine' hnext T2 _ _ _ ?_ ?hps F11 (news_sub N11 ?_)
    case hps => kst_all1
    · exact hT3.ext (Dis.cons (fun q hq => hTd q hq (Ro, W.listOf vs.toArray k) (.head _)) fun q hq p hp => hTd q hq p (.tail _ hp))
    · intro p hp
      rcases List.mem_cons.mp hp with hp | hp
      · exact hp ▸ .tail _ (.tail _ (List.mem_append_right _ (.head _)))
      · rcases List.mem_append.mp hp with hp | hp
        · exact .tail _ (.tail _ (List.mem_append_left _ hp))
        · exact .tail _ (.tail _ (List.mem_append_right _ (.tail _ hp)))

end
section
theorem rst_Sg12 : True := by w_top off; trivial
/-- the board's rim, its first i rows -/
noncomputable def rimP (R : List Int) (i : Nat) : List Nat := (List.range i).flatMap fun j => List.replicate (R.getD j 0 - ([0] ++ R).getD j 0).toNat 32 ++ [9]
noncomputable def rimL (R : List Int) : List Nat := rimP R 4 ++ List.replicate (4 - R.getD 3 0).toNat 32
theorem rimP_succ (R : List Int) (i : Nat) : rimP R (i + 1) = rimP R i ++ (List.replicate (R.getD i 0 - ([0] ++ R).getD i 0).toNat 32 ++ [9]) := by
  unfold rimP; rw [List.range_succ, List.flatMap_append]; simp
theorem seg12 {w : World} {fl : Addr} {p : Program} {loose : List Str} {mean : ExcName → Option Value} {mg mb : Str → Option Value} {g : Heap} {L R Ro : Addr} {s : Shared} {m : Str → Option Value} {Q : Flow → Shared → Prop} {E : Value → Shared → Prop} {t1 t2 : Tok} {tot spa : Int} {vsR : List Value} {nR : List Int} {kR : Nat} {o2 : Obj} {cv2 : Option Value} {led : Led}
    (G : LawG w p loose mean mg mb g L) (hiR : IntsAre vsR nR) (hR4 : nR.length = 4) (hd : ∀ i : Nat, i < 4 → 0 ≤ nR.getD i 0 - ([0] ++ nR).getD i 0 ∧ nR.getD i 0 - ([0] ++ nR).getD i 0 ≤ 4) (hR3 : 0 ≤ nR.getD 3 0 ∧ nR.getD 3 0 ≤ 4)
    (hlen : ∀ i ≤ 4, (rimP nR i).length ≤ 20) (hall : ∀ c ∈ rimL nR, c = 32 ∨ c = 9) (hl50 : (rimL nR).length ≤ 50)
    (d2 : o2.data = .cell cv2) (hR : (R, W.listOf vsR.toArray kR) ∈ led) (ho2 : ∀ p ∈ led, p.1 ≠ L + 2)
    (hm : ∀ p ∈ [(Str.ofString "rooks", Value.ref Ro), (Str.ofString "rows", Value.ref R), (Str.ofString "spare", .int spa t2), (Str.ofString "total", .int tot t1)], m p.1 = some p.2) (F : Fr g L s.heap m)
    (N : News g L s.heap ((L + 2, o2) :: led))
    (hnext : ∀ (y : Str) (ty : Tok) (Li : Addr) (vsL : List Value) (kL : Nat) (o2' : Obj) (m' : Str → Option Value) (h' : Heap) (tk' : Nat), y.cps.toList = rimL nR → IntsAre vsL (linesF (rimL nR)) → o2'.data = .cell (some (.ref Li)) →
      (∀ p ∈ [(Str.ofString "rim", Value.str y ty), (Str.ofString "rooks", Value.ref Ro), (Str.ofString "spare", .int spa t2), (Str.ofString "total", .int tot t1)], m' p.1 = some p.2) → Fr g L h' m' →
      News g L h' ((Li, W.listOf vsL.toArray kL) :: (L + 2, o2') :: led) → (∀ p ∈ (L + 2, o2') :: led, p.1 ≠ Li) → LawAt w fl L 35 Q E { s with heap := h', toks := tk' }) :
    LawAt w fl L 31 Q E s := by
  have hS0 : StopAt (Str.ofString "fewest") := trivial
  obtain ⟨B, X, T0, C1, C2, C3, hL⟩ := G
  have F1 := fr_ps _ hm F
  clear F hm
  refine' seg_start ?e1 ?e2 ?_
  case e1 => exact rfl
  case e2 => exact rfl
  intro ek
  dsimp only [kstB] at F1
  (repeat' (first | (k_unfold; (try dsimp only)) | (k_end; wrow_close) | ((fail_if_success with_reducible (first | refine KswEnd_stop ?_ | refine call_stop ?_ | refine pyIter_stop ?_ | refine while_stop ?_ | refine for_stop ?_ | refine def_stop ?_ | refine CompSrcT_stop ?_ | refine CompSrc_stop ?_ | refine lca_stop ?_ | refine lce_stop ?_ | refine dsp_stop ?_ | refine lam_stop ?_ | refine cmp_stop ?_ | (refine stopAt ?_ ?_; assumption))); first | ((fail_if_success (fail_if_success (with_reducible refine st_guard ?_))); refine' store_L ?_ ?_ ?_ ?_ ?_ ?_ ?_; rotate_left 5; (first | dsimp only | rfl); (first | dsimp only | rfl); k_asm; k_asm; rfl; rfl; intro _ _ _; k_sweep) | ((with_reducible refine' siadd_led ?_ ?_ ?_ ?_); rotate_left 2; (first | exact lit_tab | exact lit_sp | exact lit_x | assumption); (first | exact lit_tab | exact lit_sp | exact lit_x | assumption); (simp only [List.length_append, List.length_replicate, List.length_drop, List.length_cons, List.length_nil]; omega); intro _ _ _ _) | ((with_reducible refine' sadd_led ?_ ?_ ?_ ?_); rotate_left 2; (first | exact lit_tab | exact lit_sp | exact lit_x | assumption); (first | exact lit_tab | exact lit_sp | exact lit_x | assumption); (simp only [List.length_append, List.length_replicate, List.length_drop, List.length_cons, List.length_nil]; omega); intro _ _ _ _) | ((with_reducible refine' smul_led ?_ ?_ ?_ ?_); rotate_left; (first | exact lit_tab | exact lit_sp | exact lit_x | assumption); (first | with_reducible assumption | omega | assumption); omega; intro _ _ _ _) | ((with_reducible refine' add_ints ?_ ?_ ?_ ?_ ?_ ?_ ?_ ?_); rotate_left 10; k_asm; k_asm; k_mem; (first | k_mem | (refine List.Mem.tail _ ?_; assumption)); (first | k_asm | l_ints | exact IntsAre.cons _ _ IntsAre.nil); (first | k_asm | l_ints | exact IntsAre.cons _ _ IntsAre.nil); (first | omega | (simp only [List.length_append, List.length_take, List.length_drop, List.length_cons, List.length_nil]; omega)); lsm_bools) | ((with_reducible refine' item_int ?_ ?_ ?_ ?_ ?_ ?_ ?_ ?_); rotate_left 6; k_asm; (first | k_asm | k_mem); k_asm; (first | exact ix0 _ | omega); (first | (refine ix1 ?_ ?_ <;> assumption) | omega | (simp only [List.length_append, List.length_cons, List.length_nil]; omega)); (first | omega | (simp only [List.length_append, List.length_cons, List.length_nil]; omega)); rotate_left; with_unfolding_all rfl; intro _) | walk1 | (dsimp only; first | ((fail_if_success (fail_if_success (with_reducible refine st_guard ?_))); refine' store_L ?_ ?_ ?_ ?_ ?_ ?_ ?_; rotate_left 5; (first | dsimp only | rfl); (first | dsimp only | rfl); k_asm; k_asm; rfl; rfl; intro _ _ _; k_sweep) | ((with_reducible refine' siadd_led ?_ ?_ ?_ ?_); rotate_left 2; (first | exact lit_tab | exact lit_sp | exact lit_x | assumption); (first | exact lit_tab | exact lit_sp | exact lit_x | assumption); (simp only [List.length_append, List.length_replicate, List.length_drop, List.length_cons, List.length_nil]; omega); intro _ _ _ _) | ((with_reducible refine' sadd_led ?_ ?_ ?_ ?_); rotate_left 2; (first | exact lit_tab | exact lit_sp | exact lit_x | assumption); (first | exact lit_tab | exact lit_sp | exact lit_x | assumption); (simp only [List.length_append, List.length_replicate, List.length_drop, List.length_cons, List.length_nil]; omega); intro _ _ _ _) | ((with_reducible refine' smul_led ?_ ?_ ?_ ?_); rotate_left; (first | exact lit_tab | exact lit_sp | exact lit_x | assumption); (first | with_reducible assumption | omega | assumption); omega; intro _ _ _ _) | ((with_reducible refine' add_ints ?_ ?_ ?_ ?_ ?_ ?_ ?_ ?_); rotate_left 10; k_asm; k_asm; k_mem; (first | k_mem | (refine List.Mem.tail _ ?_; assumption)); (first | k_asm | l_ints | exact IntsAre.cons _ _ IntsAre.nil); (first | k_asm | l_ints | exact IntsAre.cons _ _ IntsAre.nil); (first | omega | (simp only [List.length_append, List.length_take, List.length_drop, List.length_cons, List.length_nil]; omega)); lsm_bools) | ((with_reducible refine' item_int ?_ ?_ ?_ ?_ ?_ ?_ ?_ ?_); rotate_left 6; k_asm; (first | k_asm | k_mem); k_asm; (first | exact ix0 _ | omega); (first | (refine ix1 ?_ ?_ <;> assumption) | omega | (simp only [List.length_append, List.length_cons, List.length_nil]; omega)); (first | omega | (simp only [List.length_append, List.length_cons, List.length_nil]; omega)); rotate_left; with_unfolding_all rfl; intro _) | walk1) | (leave1; try dsimp only))))
  refine For_invVF (by k_asm) rfl rfl ?_
  (repeat' (first | (k_unfold; (try dsimp only)) | (k_end; wrow_close) | ((fail_if_success with_reducible (first | refine KswEnd_stop ?_ | refine call_stop ?_ | refine pyIter_stop ?_ | refine while_stop ?_ | refine for_stop ?_ | refine def_stop ?_ | refine CompSrcT_stop ?_ | refine CompSrc_stop ?_ | refine lca_stop ?_ | refine lce_stop ?_ | refine dsp_stop ?_ | refine lam_stop ?_ | refine cmp_stop ?_ | (refine stopAt ?_ ?_; assumption))); first | ((fail_if_success (fail_if_success (with_reducible refine st_guard ?_))); refine' store_L ?_ ?_ ?_ ?_ ?_ ?_ ?_; rotate_left 5; (first | dsimp only | rfl); (first | dsimp only | rfl); k_asm; k_asm; rfl; rfl; intro _ _ _; k_sweep) | ((with_reducible refine' siadd_led ?_ ?_ ?_ ?_); rotate_left 2; (first | exact lit_tab | exact lit_sp | exact lit_x | assumption); (first | exact lit_tab | exact lit_sp | exact lit_x | assumption); (simp only [List.length_append, List.length_replicate, List.length_drop, List.length_cons, List.length_nil]; omega); intro _ _ _ _) | ((with_reducible refine' sadd_led ?_ ?_ ?_ ?_); rotate_left 2; (first | exact lit_tab | exact lit_sp | exact lit_x | assumption); (first | exact lit_tab | exact lit_sp | exact lit_x | assumption); (simp only [List.length_append, List.length_replicate, List.length_drop, List.length_cons, List.length_nil]; omega); intro _ _ _ _) | ((with_reducible refine' smul_led ?_ ?_ ?_ ?_); rotate_left; (first | exact lit_tab | exact lit_sp | exact lit_x | assumption); (first | with_reducible assumption | omega | assumption); omega; intro _ _ _ _) | ((with_reducible refine' add_ints ?_ ?_ ?_ ?_ ?_ ?_ ?_ ?_); rotate_left 10; k_asm; k_asm; k_mem; (first | k_mem | (refine List.Mem.tail _ ?_; assumption)); (first | k_asm | l_ints | exact IntsAre.cons _ _ IntsAre.nil); (first | k_asm | l_ints | exact IntsAre.cons _ _ IntsAre.nil); (first | omega | (simp only [List.length_append, List.length_take, List.length_drop, List.length_cons, List.length_nil]; omega)); lsm_bools) | ((with_reducible refine' item_int ?_ ?_ ?_ ?_ ?_ ?_ ?_ ?_); rotate_left 6; k_asm; (first | k_asm | k_mem); k_asm; (first | exact ix0 _ | omega); (first | (refine ix1 ?_ ?_ <;> assumption) | omega | (simp only [List.length_append, List.length_cons, List.length_nil]; omega)); (first | omega | (simp only [List.length_append, List.length_cons, List.length_nil]; omega)); rotate_left; with_unfolding_all rfl; intro _) | walk1 | (dsimp only; first | ((fail_if_success (fail_if_success (with_reducible refine st_guard ?_))); refine' store_L ?_ ?_ ?_ ?_ ?_ ?_ ?_; rotate_left 5; (first | dsimp only | rfl); (first | dsimp only | rfl); k_asm; k_asm; rfl; rfl; intro _ _ _; k_sweep) | ((with_reducible refine' siadd_led ?_ ?_ ?_ ?_); rotate_left 2; (first | exact lit_tab | exact lit_sp | exact lit_x | assumption); (first | exact lit_tab | exact lit_sp | exact lit_x | assumption); (simp only [List.length_append, List.length_replicate, List.length_drop, List.length_cons, List.length_nil]; omega); intro _ _ _ _) | ((with_reducible refine' sadd_led ?_ ?_ ?_ ?_); rotate_left 2; (first | exact lit_tab | exact lit_sp | exact lit_x | assumption); (first | exact lit_tab | exact lit_sp | exact lit_x | assumption); (simp only [List.length_append, List.length_replicate, List.length_drop, List.length_cons, List.length_nil]; omega); intro _ _ _ _) | ((with_reducible refine' smul_led ?_ ?_ ?_ ?_); rotate_left; (first | exact lit_tab | exact lit_sp | exact lit_x | assumption); (first | with_reducible assumption | omega | assumption); omega; intro _ _ _ _) | ((with_reducible refine' add_ints ?_ ?_ ?_ ?_ ?_ ?_ ?_ ?_); rotate_left 10; k_asm; k_asm; k_mem; (first | k_mem | (refine List.Mem.tail _ ?_; assumption)); (first | k_asm | l_ints | exact IntsAre.cons _ _ IntsAre.nil); (first | k_asm | l_ints | exact IntsAre.cons _ _ IntsAre.nil); (first | omega | (simp only [List.length_append, List.length_take, List.length_drop, List.length_cons, List.length_nil]; omega)); lsm_bools) | ((with_reducible refine' item_int ?_ ?_ ?_ ?_ ?_ ?_ ?_ ?_); rotate_left 6; k_asm; (first | k_asm | k_mem); k_asm; (first | exact ix0 _ | omega); (first | (refine ix1 ?_ ?_ <;> assumption) | omega | (simp only [List.length_append, List.length_cons, List.length_nil]; omega)); (first | omega | (simp only [List.length_append, List.length_cons, List.length_nil]; omega)); rotate_left; with_unfolding_all rfl; intro _) | walk1) | (leave1; try dsimp only))))
  rename_i h1 F1 N1 h2 tk2 t₁ u₁ v₁ hr F2 N2 hk2
  refine' loop_range (σ := Str × Tok) (n := 4) (fun _ => (L + 2, o2) :: led) (fun c => [(Str.ofString "rim", .str c.1 c.2)]) [] (fun i c => c.1.cps.toList = rimP nR i) (Str.ofString "", _) rfl hr rfl rfl F2 N2 ?hk ?hp ?_ ?_
  case hk => kst_all
  case hp =>
    have e : (Str.ofString "").cps.toList = [] := by decide +kernel
    exact e
  · rintro ⟨y, ty⟩ i tk0 u h tk I it hi P hoff F'' N''
    refine q_any fun Q9 hQ9 => ?_
    dsimp only [kstB] at F''
    dsimp only at P
    have F7 : Fr g L h _ := F''
    have N7 : News g L h ((I, it) :: (L + 2, o2) :: led) := N''
    clear F'' N''
    have e : (0 + (i : Int)).toNat = i := z_toNat i
    obtain ⟨q1, q2⟩ := hd (0 + (i : Int)).toNat (by omega)
    have hln := hlen i (by omega)
    have hRI : (R, W.listOf vsR.toArray kR) ∈ (I, it) :: (L + 2, o2) :: led := .tail _ (.tail _ hR)
    (repeat' (first | (k_unfold; (try dsimp only)) | (k_end; wrow_close) | ((fail_if_success with_reducible (first | refine KswEnd_stop ?_ | refine call_stop ?_ | refine pyIter_stop ?_ | refine while_stop ?_ | refine for_stop ?_ | refine def_stop ?_ | refine CompSrcT_stop ?_ | refine CompSrc_stop ?_ | refine lca_stop ?_ | refine lce_stop ?_ | refine dsp_stop ?_ | refine lam_stop ?_ | refine cmp_stop ?_ | (refine stopAt ?_ ?_; assumption))); first | ((fail_if_success (fail_if_success (with_reducible refine st_guard ?_))); refine' store_L ?_ ?_ ?_ ?_ ?_ ?_ ?_; rotate_left 5; (first | dsimp only | rfl); (first | dsimp only | rfl); k_asm; k_asm; rfl; rfl; intro _ _ _; k_sweep) | ((with_reducible refine' siadd_led ?_ ?_ ?_ ?_); rotate_left 2; (first | exact lit_tab | exact lit_sp | exact lit_x | assumption); (first | exact lit_tab | exact lit_sp | exact lit_x | assumption); (simp only [List.length_append, List.length_replicate, List.length_drop, List.length_cons, List.length_nil]; omega); intro _ _ _ _) | ((with_reducible refine' sadd_led ?_ ?_ ?_ ?_); rotate_left 2; (first | exact lit_tab | exact lit_sp | exact lit_x | assumption); (first | exact lit_tab | exact lit_sp | exact lit_x | assumption); (simp only [List.length_append, List.length_replicate, List.length_drop, List.length_cons, List.length_nil]; omega); intro _ _ _ _) | ((with_reducible refine' smul_led ?_ ?_ ?_ ?_); rotate_left; (first | exact lit_tab | exact lit_sp | exact lit_x | assumption); (first | with_reducible assumption | omega | assumption); omega; intro _ _ _ _) | ((with_reducible refine' add_ints ?_ ?_ ?_ ?_ ?_ ?_ ?_ ?_); rotate_left 10; k_asm; k_asm; k_mem; (first | k_mem | (refine List.Mem.tail _ ?_; assumption)); (first | k_asm | l_ints | exact IntsAre.cons _ _ IntsAre.nil); (first | k_asm | l_ints | exact IntsAre.cons _ _ IntsAre.nil); (first | omega | (simp only [List.length_append, List.length_take, List.length_drop, List.length_cons, List.length_nil]; omega)); lsm_bools) | ((with_reducible refine' item_int ?_ ?_ ?_ ?_ ?_ ?_ ?_ ?_); rotate_left 6; k_asm; (first | k_asm | k_mem); k_asm; (first | exact ix0 _ | omega); (first | (refine ix1 ?_ ?_ <;> assumption) | omega | (simp only [List.length_append, List.length_cons, List.length_nil]; omega)); (first | omega | (simp only [List.length_append, List.length_cons, List.length_nil]; omega)); rotate_left; with_unfolding_all rfl; intro _) | walk1 | (dsimp only; first | ((fail_if_success (fail_if_success (with_reducible refine st_guard ?_))); refine' store_L ?_ ?_ ?_ ?_ ?_ ?_ ?_; rotate_left 5; (first | dsimp only | rfl); (first | dsimp only | rfl); k_asm; k_asm; rfl; rfl; intro _ _ _; k_sweep) | ((with_reducible refine' siadd_led ?_ ?_ ?_ ?_); rotate_left 2; (first | exact lit_tab | exact lit_sp | exact lit_x | assumption); (first | exact lit_tab | exact lit_sp | exact lit_x | assumption); (simp only [List.length_append, List.length_replicate, List.length_drop, List.length_cons, List.length_nil]; omega); intro _ _ _ _) | ((with_reducible refine' sadd_led ?_ ?_ ?_ ?_); rotate_left 2; (first | exact lit_tab | exact lit_sp | exact lit_x | assumption); (first | exact lit_tab | exact lit_sp | exact lit_x | assumption); (simp only [List.length_append, List.length_replicate, List.length_drop, List.length_cons, List.length_nil]; omega); intro _ _ _ _) | ((with_reducible refine' smul_led ?_ ?_ ?_ ?_); rotate_left; (first | exact lit_tab | exact lit_sp | exact lit_x | assumption); (first | with_reducible assumption | omega | assumption); omega; intro _ _ _ _) | ((with_reducible refine' add_ints ?_ ?_ ?_ ?_ ?_ ?_ ?_ ?_); rotate_left 10; k_asm; k_asm; k_mem; (first | k_mem | (refine List.Mem.tail _ ?_; assumption)); (first | k_asm | l_ints | exact IntsAre.cons _ _ IntsAre.nil); (first | k_asm | l_ints | exact IntsAre.cons _ _ IntsAre.nil); (first | omega | (simp only [List.length_append, List.length_take, List.length_drop, List.length_cons, List.length_nil]; omega)); lsm_bools) | ((with_reducible refine' item_int ?_ ?_ ?_ ?_ ?_ ?_ ?_ ?_); rotate_left 6; k_asm; (first | k_asm | k_mem); k_asm; (first | exact ix0 _ | omega); (first | (refine ix1 ?_ ?_ <;> assumption) | omega | (simp only [List.length_append, List.length_cons, List.length_nil]; omega)); (first | omega | (simp only [List.length_append, List.length_cons, List.length_nil]; omega)); rotate_left; with_unfolding_all rfl; intro _) | walk1) | (leave1; try dsimp only))))
    rename Array.toList _ = rimP nR i ++ _ => ec
    refine hQ9 _ _ ?_
    refine tpost_next (tend (_, _) (by k_asm) (by k_asm) (.tail _ (.tail _ (.head _))) (fun p hp => .tail _ (.tail _ (.tail _ hp))) hoff (by kst_all) (by kst_same) ?_)
    dsimp only
    rw [e] at ec
    rw [rimP_succ]; exact ec
  · rintro ⟨y, ty⟩ u h tk P F'' N''
    dsimp only [kstB] at F''
    dsimp only at P
    have F7 : Fr g L h _ := F''
    have N7 : News g L h ((L + 2, o2) :: led) := N''
    clear F'' N''
    have hln := hlen 4 (by omega)
    have hRI : (R, W.listOf vsR.toArray kR) ∈ (L + 2, o2) :: led := .tail _ hR
    have hR3' : 0 ≤ nR.getD (Int.toNat 3) 0 ∧ nR.getD (Int.toNat 3) 0 ≤ 4 := hR3
    (repeat' (first | (k_unfold; (try dsimp only)) | (k_end; wrow_close) | ((fail_if_success with_reducible (first | refine KswEnd_stop ?_ | refine call_stop ?_ | refine pyIter_stop ?_ | refine while_stop ?_ | refine for_stop ?_ | refine def_stop ?_ | refine CompSrcT_stop ?_ | refine CompSrc_stop ?_ | refine lca_stop ?_ | refine lce_stop ?_ | refine dsp_stop ?_ | refine lam_stop ?_ | refine cmp_stop ?_ | (refine stopAt ?_ ?_; assumption))); first | ((fail_if_success (fail_if_success (with_reducible refine st_guard ?_))); refine' store_L ?_ ?_ ?_ ?_ ?_ ?_ ?_; rotate_left 5; (first | dsimp only | rfl); (first | dsimp only | rfl); k_asm; k_asm; rfl; rfl; intro _ _ _; k_sweep) | ((with_reducible refine' siadd_led ?_ ?_ ?_ ?_); rotate_left 2; (first | exact lit_tab | exact lit_sp | exact lit_x | assumption); (first | exact lit_tab | exact lit_sp | exact lit_x | assumption); (simp only [List.length_append, List.length_replicate, List.length_drop, List.length_cons, List.length_nil]; omega); intro _ _ _ _) | ((with_reducible refine' sadd_led ?_ ?_ ?_ ?_); rotate_left 2; (first | exact lit_tab | exact lit_sp | exact lit_x | assumption); (first | exact lit_tab | exact lit_sp | exact lit_x | assumption); (simp only [List.length_append, List.length_replicate, List.length_drop, List.length_cons, List.length_nil]; omega); intro _ _ _ _) | ((with_reducible refine' smul_led ?_ ?_ ?_ ?_); rotate_left; (first | exact lit_tab | exact lit_sp | exact lit_x | assumption); (first | with_reducible assumption | omega | assumption); omega; intro _ _ _ _) | ((with_reducible refine' add_ints ?_ ?_ ?_ ?_ ?_ ?_ ?_ ?_); rotate_left 10; k_asm; k_asm; k_mem; (first | k_mem | (refine List.Mem.tail _ ?_; assumption)); (first | k_asm | l_ints | exact IntsAre.cons _ _ IntsAre.nil); (first | k_asm | l_ints | exact IntsAre.cons _ _ IntsAre.nil); (first | omega | (simp only [List.length_append, List.length_take, List.length_drop, List.length_cons, List.length_nil]; omega)); lsm_bools) | ((with_reducible refine' item_int ?_ ?_ ?_ ?_ ?_ ?_ ?_ ?_); rotate_left 6; k_asm; (first | k_asm | k_mem); k_asm; (first | exact ix0 _ | omega); (first | (refine ix1 ?_ ?_ <;> assumption) | omega | (simp only [List.length_append, List.length_cons, List.length_nil]; omega)); (first | omega | (simp only [List.length_append, List.length_cons, List.length_nil]; omega)); rotate_left; with_unfolding_all rfl; intro _) | walk1 | (dsimp only; first | ((fail_if_success (fail_if_success (with_reducible refine st_guard ?_))); refine' store_L ?_ ?_ ?_ ?_ ?_ ?_ ?_; rotate_left 5; (first | dsimp only | rfl); (first | dsimp only | rfl); k_asm; k_asm; rfl; rfl; intro _ _ _; k_sweep) | ((with_reducible refine' siadd_led ?_ ?_ ?_ ?_); rotate_left 2; (first | exact lit_tab | exact lit_sp | exact lit_x | assumption); (first | exact lit_tab | exact lit_sp | exact lit_x | assumption); (simp only [List.length_append, List.length_replicate, List.length_drop, List.length_cons, List.length_nil]; omega); intro _ _ _ _) | ((with_reducible refine' sadd_led ?_ ?_ ?_ ?_); rotate_left 2; (first | exact lit_tab | exact lit_sp | exact lit_x | assumption); (first | exact lit_tab | exact lit_sp | exact lit_x | assumption); (simp only [List.length_append, List.length_replicate, List.length_drop, List.length_cons, List.length_nil]; omega); intro _ _ _ _) | ((with_reducible refine' smul_led ?_ ?_ ?_ ?_); rotate_left; (first | exact lit_tab | exact lit_sp | exact lit_x | assumption); (first | with_reducible assumption | omega | assumption); omega; intro _ _ _ _) | ((with_reducible refine' add_ints ?_ ?_ ?_ ?_ ?_ ?_ ?_ ?_); rotate_left 10; k_asm; k_asm; k_mem; (first | k_mem | (refine List.Mem.tail _ ?_; assumption)); (first | k_asm | l_ints | exact IntsAre.cons _ _ IntsAre.nil); (first | k_asm | l_ints | exact IntsAre.cons _ _ IntsAre.nil); (first | omega | (simp only [List.length_append, List.length_take, List.length_drop, List.length_cons, List.length_nil]; omega)); lsm_bools) | ((with_reducible refine' item_int ?_ ?_ ?_ ?_ ?_ ?_ ?_ ?_); rotate_left 6; k_asm; (first | k_asm | k_mem); k_asm; (first | exact ix0 _ | omega); (first | (refine ix1 ?_ ?_ <;> assumption) | omega | (simp only [List.length_append, List.length_cons, List.length_nil]; omega)); (first | omega | (simp only [List.length_append, List.length_cons, List.length_nil]; omega)); rotate_left; with_unfolding_all rfl; intro _) | walk1) | (leave1; try dsimp only))))
    rename Array.toList _ = rimP nR 4 ++ _ => eb
    have hrim := eb.trans (rfl : rimP nR 4 ++ List.replicate (4 - nR.getD (Int.toNat 3) 0).toNat 32 = rimL nR)
    (with_unfolding_all refine' Does.use (law_lines w ((L + 2, o2) :: led) _ _ (by rw [hrim]; exact hall) (by rw [hrim]; exact hl50)) (by k_asm) (by k_asm) (by k_asm) (by k_asm) (by k_asm) (by assumption) (by assumption) (by first | exact rfl | assumption) (by ktr_room) (by ktr_units) ?_)
    intro r9 news9 h9 tk9 F9 N9 O9
    revert N9
    apply rn3 O9
    clear O9
    intro Li vsL kL hO N9
    refine and2 hO ?_
    clear hO
    intro hoL hiL
    rw [hrim] at hiL
    dsimp only
    (repeat' (first | (k_unfold; (try dsimp only)) | (k_end; wrow_close) | ((fail_if_success with_reducible (first | refine KswEnd_stop ?_ | refine call_stop ?_ | refine pyIter_stop ?_ | refine while_stop ?_ | refine for_stop ?_ | refine def_stop ?_ | refine CompSrcT_stop ?_ | refine CompSrc_stop ?_ | refine lca_stop ?_ | refine lce_stop ?_ | refine dsp_stop ?_ | refine lam_stop ?_ | refine cmp_stop ?_ | (refine stopAt ?_ ?_; assumption))); first | ((fail_if_success (fail_if_success (with_reducible refine st_guard ?_))); refine' store_L ?_ ?_ ?_ ?_ ?_ ?_ ?_; rotate_left 5; (first | dsimp only | rfl); (first | dsimp only | rfl); k_asm; k_asm; rfl; rfl; intro _ _ _; k_sweep) | ((with_reducible refine' siadd_led ?_ ?_ ?_ ?_); rotate_left 2; (first | exact lit_tab | exact lit_sp | exact lit_x | assumption); (first | exact lit_tab | exact lit_sp | exact lit_x | assumption); (simp only [List.length_append, List.length_replicate, List.length_drop, List.length_cons, List.length_nil]; omega); intro _ _ _ _) | ((with_reducible refine' sadd_led ?_ ?_ ?_ ?_); rotate_left 2; (first | exact lit_tab | exact lit_sp | exact lit_x | assumption); (first | exact lit_tab | exact lit_sp | exact lit_x | assumption); (simp only [List.length_append, List.length_replicate, List.length_drop, List.length_cons, List.length_nil]; omega); intro _ _ _ _) | ((with_reducible refine' smul_led ?_ ?_ ?_ ?_); rotate_left; (first | exact lit_tab | exact lit_sp | exact lit_x | assumption); (first | with_reducible assumption | omega | assumption); omega; intro _ _ _ _) | ((with_reducible refine' add_ints ?_ ?_ ?_ ?_ ?_ ?_ ?_ ?_); rotate_left 10; k_asm; k_asm; k_mem; (first | k_mem | (refine List.Mem.tail _ ?_; assumption)); (first | k_asm | l_ints | exact IntsAre.cons _ _ IntsAre.nil); (first | k_asm | l_ints | exact IntsAre.cons _ _ IntsAre.nil); (first | omega | (simp only [List.length_append, List.length_take, List.length_drop, List.length_cons, List.length_nil]; omega)); lsm_bools) | ((with_reducible refine' item_int ?_ ?_ ?_ ?_ ?_ ?_ ?_ ?_); rotate_left 6; k_asm; (first | k_asm | k_mem); k_asm; (first | exact ix0 _ | omega); (first | (refine ix1 ?_ ?_ <;> assumption) | omega | (simp only [List.length_append, List.length_cons, List.length_nil]; omega)); (first | omega | (simp only [List.length_append, List.length_cons, List.length_nil]; omega)); rotate_left; with_unfolding_all rfl; intro _) | walk1 | (dsimp only; first | ((fail_if_success (fail_if_success (with_reducible refine st_guard ?_))); refine' store_L ?_ ?_ ?_ ?_ ?_ ?_ ?_; rotate_left 5; (first | dsimp only | rfl); (first | dsimp only | rfl); k_asm; k_asm; rfl; rfl; intro _ _ _; k_sweep) | ((with_reducible refine' siadd_led ?_ ?_ ?_ ?_); rotate_left 2; (first | exact lit_tab | exact lit_sp | exact lit_x | assumption); (first | exact lit_tab | exact lit_sp | exact lit_x | assumption); (simp only [List.length_append, List.length_replicate, List.length_drop, List.length_cons, List.length_nil]; omega); intro _ _ _ _) | ((with_reducible refine' sadd_led ?_ ?_ ?_ ?_); rotate_left 2; (first | exact lit_tab | exact lit_sp | exact lit_x | assumption); (first | exact lit_tab | exact lit_sp | exact lit_x | assumption); (simp only [List.length_append, List.length_replicate, List.length_drop, List.length_cons, List.length_nil]; omega); intro _ _ _ _) | ((with_reducible refine' smul_led ?_ ?_ ?_ ?_); rotate_left; (first | exact lit_tab | exact lit_sp | exact lit_x | assumption); (first | with_reducible assumption | omega | assumption); omega; intro _ _ _ _) | ((with_reducible refine' add_ints ?_ ?_ ?_ ?_ ?_ ?_ ?_ ?_); rotate_left 10; k_asm; k_asm; k_mem; (first | k_mem | (refine List.Mem.tail _ ?_; assumption)); (first | k_asm | l_ints | exact IntsAre.cons _ _ IntsAre.nil); (first | k_asm | l_ints | exact IntsAre.cons _ _ IntsAre.nil); (first | omega | (simp only [List.length_append, List.length_take, List.length_drop, List.length_cons, List.length_nil]; omega)); lsm_bools) | ((with_reducible refine' item_int ?_ ?_ ?_ ?_ ?_ ?_ ?_ ?_); rotate_left 6; k_asm; (first | k_asm | k_mem); k_asm; (first | exact ix0 _ | omega); (first | (refine ix1 ?_ ?_ <;> assumption) | omega | (simp only [List.length_append, List.length_cons, List.length_nil]; omega)); (first | omega | (simp only [List.length_append, List.length_cons, List.length_nil]; omega)); rotate_left; with_unfolding_all rfl; intro _) | walk1) | (leave1; try dsimp only))))
    have nLi : @Ne Nat Li (L + 2) := Nat.ne_of_gt (hoL (L + 2, o2) (.head _))
    (refine' storeX_C F9 N9 ?c (UpdF.tail nLi (UpdF.head ho2)) d2 ?_ ?a ?b; (case a => rfl); (case b => rfl); (case c => rfl))
    intro h10 o2' F10 N10 d10
    have N11 : News g L h10 ((Li, W.listOf vsL.toArray kL) :: (L + 2, o2') :: led) := N10
    clear N10 N9 F9
    (repeat' (first | (k_unfold; (try dsimp only)) | (k_end; wrow_close) | ((fail_if_success with_reducible (first | refine KswEnd_stop ?_ | refine call_stop ?_ | refine pyIter_stop ?_ | refine while_stop ?_ | refine for_stop ?_ | refine def_stop ?_ | refine CompSrcT_stop ?_ | refine CompSrc_stop ?_ | refine lca_stop ?_ | refine lce_stop ?_ | refine dsp_stop ?_ | refine lam_stop ?_ | refine cmp_stop ?_ | (refine stopAt ?_ ?_; assumption))); first | ((fail_if_success (fail_if_success (with_reducible refine st_guard ?_))); refine' store_L ?_ ?_ ?_ ?_ ?_ ?_ ?_; rotate_left 5; (first | dsimp only | rfl); (first | dsimp only | rfl); k_asm; k_asm; rfl; rfl; intro _ _ _; k_sweep) | ((with_reducible refine' siadd_led ?_ ?_ ?_ ?_); rotate_left 2; (first | exact lit_tab | exact lit_sp | exact lit_x | assumption); (first | exact lit_tab | exact lit_sp | exact lit_x | assumption); (simp only [List.length_append, List.length_replicate, List.length_drop, List.length_cons, List.length_nil]; omega); intro _ _ _ _) | ((with_reducible refine' sadd_led ?_ ?_ ?_ ?_); rotate_left 2; (first | exact lit_tab | exact lit_sp | exact lit_x | assumption); (first | exact lit_tab | exact lit_sp | exact lit_x | assumption); (simp only [List.length_append, List.length_replicate, List.length_drop, List.length_cons, List.length_nil]; omega); intro _ _ _ _) | ((with_reducible refine' smul_led ?_ ?_ ?_ ?_); rotate_left; (first | exact lit_tab | exact lit_sp | exact lit_x | assumption); (first | with_reducible assumption | omega | assumption); omega; intro _ _ _ _) | ((with_reducible refine' add_ints ?_ ?_ ?_ ?_ ?_ ?_ ?_ ?_); rotate_left 10; k_asm; k_asm; k_mem; (first | k_mem | (refine List.Mem.tail _ ?_; assumption)); (first | k_asm | l_ints | exact IntsAre.cons _ _ IntsAre.nil); (first | k_asm | l_ints | exact IntsAre.cons _ _ IntsAre.nil); (first | omega | (simp only [List.length_append, List.length_take, List.length_drop, List.length_cons, List.length_nil]; omega)); lsm_bools) | ((with_reducible refine' item_int ?_ ?_ ?_ ?_ ?_ ?_ ?_ ?_); rotate_left 6; k_asm; (first | k_asm | k_mem); k_asm; (first | exact ix0 _ | omega); (first | (refine ix1 ?_ ?_ <;> assumption) | omega | (simp only [List.length_append, List.length_cons, List.length_nil]; omega)); (first | omega | (simp only [List.length_append, List.length_cons, List.length_nil]; omega)); rotate_left; with_unfolding_all rfl; intro _) | walk1 | (dsimp only; first | ((fail_if_success (fail_if_success (with_reducible refine st_guard ?_))); refine' store_L ?_ ?_ ?_ ?_ ?_ ?_ ?_; rotate_left 5; (first | dsimp only | rfl); (first | dsimp only | rfl); k_asm; k_asm; rfl; rfl; intro _ _ _; k_sweep) | ((with_reducible refine' siadd_led ?_ ?_ ?_ ?_); rotate_left 2; (first | exact lit_tab | exact lit_sp | exact lit_x | assumption); (first | exact lit_tab | exact lit_sp | exact lit_x | assumption); (simp only [List.length_append, List.length_replicate, List.length_drop, List.length_cons, List.length_nil]; omega); intro _ _ _ _) | ((with_reducible refine' sadd_led ?_ ?_ ?_ ?_); rotate_left 2; (first | exact lit_tab | exact lit_sp | exact lit_x | assumption); (first | exact lit_tab | exact lit_sp | exact lit_x | assumption); (simp only [List.length_append, List.length_replicate, List.length_drop, List.length_cons, List.length_nil]; omega); intro _ _ _ _) | ((with_reducible refine' smul_led ?_ ?_ ?_ ?_); rotate_left; (first | exact lit_tab | exact lit_sp | exact lit_x | assumption); (first | with_reducible assumption | omega | assumption); omega; intro _ _ _ _) | ((with_reducible refine' add_ints ?_ ?_ ?_ ?_ ?_ ?_ ?_ ?_); rotate_left 10; k_asm; k_asm; k_mem; (first | k_mem | (refine List.Mem.tail _ ?_; assumption)); (first | k_asm | l_ints | exact IntsAre.cons _ _ IntsAre.nil); (first | k_asm | l_ints | exact IntsAre.cons _ _ IntsAre.nil); (first | omega | (simp only [List.length_append, List.length_take, List.length_drop, List.length_cons, List.length_nil]; omega)); lsm_bools) | ((with_reducible refine' item_int ?_ ?_ ?_ ?_ ?_ ?_ ?_ ?_); rotate_left 6; k_asm; (first | k_asm | k_mem); k_asm; (first | exact ix0 _ | omega); (first | (refine ix1 ?_ ?_ <;> assumption) | omega | (simp only [List.length_append, List.length_cons, List.length_nil]; omega)); (first | omega | (simp only [List.length_append, List.length_cons, List.length_nil]; omega)); rotate_left; with_unfolding_all rfl; intro _) | walk1) | (leave1; try dsimp only))))
    refine' hnext _ _ Li vsL kL o2' _ _ _ hrim hiL d10 ?hps F10 N11 ?_
    case hps => kst_all1
    exact fa_cons nLi.symm (fun p hp => Nat.ne_of_lt (hoL p (.tail _ hp)))

end
section
theorem rst_Sg13 : True := by w_top off; trivial
open PyProof.Rows.LCg PyProof.Rows.LCt
/-- the places below i that hold M -/
noncomputable def placesN (nL : List Int) (M : Int) (i : Nat) : List Int := ((List.range i).filter fun p => decide (nL.getD p 0 = M)).map fun (p : Nat) => (p : Int)
noncomputable def fewN (nL : List Int) : Int := nL.foldl min (nL.getD 0 0)
/-- how many of the first four are not nought -/
noncomputable def mostN (rs : List Int) : Int := (((rs.take 4).filter fun x => decide (x ≠ 0)).length : Int)
theorem seg13 {w : World} {fl : Addr} {p : Program} {loose : List Str} {mean : ExcName → Option Value} {mg mb : Str → Option Value} {g : Heap} {L Ro Li : Addr} {s : Shared} {m : Str → Option Value} {Q : Flow → Shared → Prop} {E : Value → Shared → Prop} {t1 t2 ty : Tok} {y : Str} {tot spa : Int} {vsL vs : List Value} {nL rs : List Int} {kL k : Nat} {o2 o3 : Obj} {cv3 : Option Value} {pa pb pc : Array Value}
    (G : LawG w p loose mean mg mb g L) (hiL : IntsAre vsL nL) (hL9 : nL.length = 9) (hiS : IntsAre vs rs) (hr5 : rs.length = 5)
    (d2 : o2.data = .cell (some (.ref Li))) (d3 : o3.data = .cell cv3) (nLi : (@Ne Nat Li (L + 3)) ∧ (@Ne Nat Li (L + 2)) ∧ (@Ne Nat Li Ro)) (nRo : (@Ne Nat Ro (L + 3)) ∧ (@Ne Nat Ro (L + 2)))
    (hm : ∀ p ∈ [(Str.ofString "rim", Value.str y ty), (Str.ofString "rooks", Value.ref Ro), (Str.ofString "spare", .int spa t2), (Str.ofString "total", .int tot t1)], m p.1 = some p.2) (F : Fr g L s.heap m)
    (N : News g L s.heap [(Li, W.listOf vsL.toArray kL), (L + 2, o2), (L + 3, o3), (Ro, W.listOf vs.toArray k), (110, tabObj pa), (103, tabObj pb), (205, tabObj pc)])
    (hfew : ∀ M, M ∈ nL → (∀ a ∈ nL, M ≤ a) → M = fewN nL) (hfst : 0 < (placesN nL (fewN nL) 9).length)
    (hnext : ∀ (tf tm : Tok) (m' : Str → Option Value) (h' : Heap) (tk' : Nat),
      (∀ p ∈ [(Str.ofString "most", Value.int (mostN rs) tm), (Str.ofString "first", Value.int ((placesN nL (fewN nL) 9).getD 0 0) tf), (Str.ofString "rim", Value.str y ty), (Str.ofString "spare", .int spa t2), (Str.ofString "total", .int tot t1)], m' p.1 = some p.2) → Fr g L h' m' →
      News g L h' [(Li, W.listOf vsL.toArray kL), (L + 2, o2), (110, tabObj pa), (103, tabObj pb), (205, tabObj pc)] → LawAt w fl L 38 Q E { s with heap := h', toks := tk' }) :
    LawAt w fl L 35 Q E s := by
  have hS0 : StopAt (Str.ofString "drawn") := trivial
  obtain ⟨B, X, T0, C1, C2, C3, hL⟩ := G
  obtain ⟨n1, n2, n3⟩ := nLi
  obtain ⟨n4, n5⟩ := nRo
  have F1 := fr_ps _ hm F
  clear F hm
  refine' seg_start ?e1 ?e2 ?_
  case e1 => exact rfl
  case e2 => exact rfl
  intro ek
  dsimp only [kstB] at F1
  (repeat' (first | (k_unfold; (try dsimp only)) | (k_end; wrow_close) | ((fail_if_success with_reducible (first | refine KswEnd_stop ?_ | refine call_stop ?_ | refine pyIter_stop ?_ | refine while_stop ?_ | refine for_stop ?_ | refine def_stop ?_ | refine CompSrcT_stop ?_ | refine CompSrc_stop ?_ | refine lca_stop ?_ | refine lce_stop ?_ | refine dsp_stop ?_ | refine lam_stop ?_ | refine cmp_stop ?_ | (refine stopAt ?_ ?_; assumption))); first | ((fail_if_success (fail_if_success (with_reducible refine st_guard ?_))); refine' store_L ?_ ?_ ?_ ?_ ?_ ?_ ?_; rotate_left 5; (first | dsimp only | rfl); (first | dsimp only | rfl); k_asm; k_asm; rfl; rfl; intro _ _ _; k_sweep) | ((with_reducible refine' len_led ?_ ?_ ?_ ?_); rotate_left 5; k_asm; k_mem; ((try simp only [List.length_replicate]); omega)) | ((with_reducible refine' slice_led ?_ ?_ ?_ ?_ ?_ ?_ ?_ ?_ ?_ ?_ ?_ ?_ ?_); rotate_left 12; rfl; rfl; k_asm; k_asm; kmk_list; kmk_part; kmk_part; (first | k_asm | l_ints | exact IntsAre.cons _ _ IntsAre.nil); kmk_nums; with_unfolding_all rfl; kmk_pure; (first | omega | (simp only [List.length_append, List.length_take, List.length_drop, List.length_cons, List.length_nil]; omega)); lsm_bools) | ((with_reducible refine' item_int ?_ ?_ ?_ ?_ ?_ ?_ ?_ ?_); rotate_left 6; k_asm; (first | k_asm | k_mem); k_asm; (first | exact ix0 _ | omega); (first | (refine ix1 ?_ ?_ <;> assumption) | omega | (simp only [List.length_append, List.length_cons, List.length_nil]; omega)); (first | omega | (simp only [List.length_append, List.length_cons, List.length_nil]; omega)); rotate_left; with_unfolding_all rfl; intro _) | walk1 | (dsimp only; first | ((fail_if_success (fail_if_success (with_reducible refine st_guard ?_))); refine' store_L ?_ ?_ ?_ ?_ ?_ ?_ ?_; rotate_left 5; (first | dsimp only | rfl); (first | dsimp only | rfl); k_asm; k_asm; rfl; rfl; intro _ _ _; k_sweep) | ((with_reducible refine' len_led ?_ ?_ ?_ ?_); rotate_left 5; k_asm; k_mem; ((try simp only [List.length_replicate]); omega)) | ((with_reducible refine' slice_led ?_ ?_ ?_ ?_ ?_ ?_ ?_ ?_ ?_ ?_ ?_ ?_ ?_); rotate_left 12; rfl; rfl; k_asm; k_asm; kmk_list; kmk_part; kmk_part; (first | k_asm | l_ints | exact IntsAre.cons _ _ IntsAre.nil); kmk_nums; with_unfolding_all rfl; kmk_pure; (first | omega | (simp only [List.length_append, List.length_take, List.length_drop, List.length_cons, List.length_nil]; omega)); lsm_bools) | ((with_reducible refine' item_int ?_ ?_ ?_ ?_ ?_ ?_ ?_ ?_); rotate_left 6; k_asm; (first | k_asm | k_mem); k_asm; (first | exact ix0 _ | omega); (first | (refine ix1 ?_ ?_ <;> assumption) | omega | (simp only [List.length_append, List.length_cons, List.length_nil]; omega)); (first | omega | (simp only [List.length_append, List.length_cons, List.length_nil]; omega)); rotate_left; with_unfolding_all rfl; intro _) | walk1) | (leave1; try dsimp only))))
  rename_i h1 M tM kM hM1 hM2 h2 o3' F2 N2 d3'
  obtain rfl := hfew M hM1 hM2
  refine LCt.ListComp_T (F₀ := by k_asm) (by with_unfolding_all rfl) (by decide) (by rfl) (by decide) (by rfl) ?_
  (repeat' (first | (k_unfold; (try dsimp only)) | (k_end; wrow_close) | ((fail_if_success with_reducible (first | refine KswEnd_stop ?_ | refine call_stop ?_ | refine pyIter_stop ?_ | refine while_stop ?_ | refine for_stop ?_ | refine def_stop ?_ | refine CompSrcT_stop ?_ | refine CompSrc_stop ?_ | refine lca_stop ?_ | refine lce_stop ?_ | refine dsp_stop ?_ | refine lam_stop ?_ | refine cmp_stop ?_ | (refine stopAt ?_ ?_; assumption))); first | ((fail_if_success (fail_if_success (with_reducible refine st_guard ?_))); refine' store_L ?_ ?_ ?_ ?_ ?_ ?_ ?_; rotate_left 5; (first | dsimp only | rfl); (first | dsimp only | rfl); k_asm; k_asm; rfl; rfl; intro _ _ _; k_sweep) | ((with_reducible refine' len_led ?_ ?_ ?_ ?_); rotate_left 5; k_asm; k_mem; ((try simp only [List.length_replicate]); omega)) | ((with_reducible refine' slice_led ?_ ?_ ?_ ?_ ?_ ?_ ?_ ?_ ?_ ?_ ?_ ?_ ?_); rotate_left 12; rfl; rfl; k_asm; k_asm; kmk_list; kmk_part; kmk_part; (first | k_asm | l_ints | exact IntsAre.cons _ _ IntsAre.nil); kmk_nums; with_unfolding_all rfl; kmk_pure; (first | omega | (simp only [List.length_append, List.length_take, List.length_drop, List.length_cons, List.length_nil]; omega)); lsm_bools) | ((with_reducible refine' item_int ?_ ?_ ?_ ?_ ?_ ?_ ?_ ?_); rotate_left 6; k_asm; (first | k_asm | k_mem); k_asm; (first | exact ix0 _ | omega); (first | (refine ix1 ?_ ?_ <;> assumption) | omega | (simp only [List.length_append, List.length_cons, List.length_nil]; omega)); (first | omega | (simp only [List.length_append, List.length_cons, List.length_nil]; omega)); rotate_left; with_unfolding_all rfl; intro _) | walk1 | (dsimp only; first | ((fail_if_success (fail_if_success (with_reducible refine st_guard ?_))); refine' store_L ?_ ?_ ?_ ?_ ?_ ?_ ?_; rotate_left 5; (first | dsimp only | rfl); (first | dsimp only | rfl); k_asm; k_asm; rfl; rfl; intro _ _ _; k_sweep) | ((with_reducible refine' len_led ?_ ?_ ?_ ?_); rotate_left 5; k_asm; k_mem; ((try simp only [List.length_replicate]); omega)) | ((with_reducible refine' slice_led ?_ ?_ ?_ ?_ ?_ ?_ ?_ ?_ ?_ ?_ ?_ ?_ ?_); rotate_left 12; rfl; rfl; k_asm; k_asm; kmk_list; kmk_part; kmk_part; (first | k_asm | l_ints | exact IntsAre.cons _ _ IntsAre.nil); kmk_nums; with_unfolding_all rfl; kmk_pure; (first | omega | (simp only [List.length_append, List.length_take, List.length_drop, List.length_cons, List.length_nil]; omega)); lsm_bools) | ((with_reducible refine' item_int ?_ ?_ ?_ ?_ ?_ ?_ ?_ ?_); rotate_left 6; k_asm; (first | k_asm | k_mem); k_asm; (first | exact ix0 _ | omega); (first | (refine ix1 ?_ ?_ <;> assumption) | omega | (simp only [List.length_append, List.length_cons, List.length_nil]; omega)); (first | omega | (simp only [List.length_append, List.length_cons, List.length_nil]; omega)); rotate_left; with_unfolding_all rfl; intro _) | walk1) | (leave1; try dsimp only))))
  rename_i h8 tk8 t₁ u₁ v₁ hr F9 N9 hk9
  refine LCt.CompSrcT.range (n := 9) rfl F9 N9 hr rfl rfl (by decide) ?_
  intro g9
  refine restT_ind 9 (fun i ys nw => nw = [(Li, W.listOf vsL.toArray kL), (L + 2, o2), (L + 3, o3'), (Ro, W.listOf vs.toArray k), (110, tabObj pa), (103, tabObj pb), (205, tabObj pc)] ∧ IntsAre ys (placesN nL (fewN nL) i)) ?turn ?fin 9 0 [] _ rfl ⟨rfl, .nil⟩
  case turn =>
    rintro j ys nw hj ⟨rfl, hys⟩ v I2 oI2 C oC2 D m₂ h tk E' ⟨t, rfl⟩ hC hx FF NN off nn
    have e : (0 + (j : Int)).toNat = j := z_toNat j
    (repeat' (first | (k_unfold; (try dsimp only)) | (k_end; wrow_close) | ((fail_if_success with_reducible (first | refine KswEnd_stop ?_ | refine call_stop ?_ | refine pyIter_stop ?_ | refine while_stop ?_ | refine for_stop ?_ | refine def_stop ?_ | refine CompSrcT_stop ?_ | refine CompSrc_stop ?_ | refine lca_stop ?_ | refine lce_stop ?_ | refine dsp_stop ?_ | refine lam_stop ?_ | refine cmp_stop ?_ | (refine stopAt ?_ ?_; assumption))); first | ((fail_if_success (fail_if_success (with_reducible refine st_guard ?_))); refine' store_L ?_ ?_ ?_ ?_ ?_ ?_ ?_; rotate_left 5; (first | dsimp only | rfl); (first | dsimp only | rfl); k_asm; k_asm; rfl; rfl; intro _ _ _; k_sweep) | ((with_reducible refine' len_led ?_ ?_ ?_ ?_); rotate_left 5; k_asm; k_mem; ((try simp only [List.length_replicate]); omega)) | ((with_reducible refine' slice_led ?_ ?_ ?_ ?_ ?_ ?_ ?_ ?_ ?_ ?_ ?_ ?_ ?_); rotate_left 12; rfl; rfl; k_asm; k_asm; kmk_list; kmk_part; kmk_part; (first | k_asm | l_ints | exact IntsAre.cons _ _ IntsAre.nil); kmk_nums; with_unfolding_all rfl; kmk_pure; (first | omega | (simp only [List.length_append, List.length_take, List.length_drop, List.length_cons, List.length_nil]; omega)); lsm_bools) | ((with_reducible refine' item_int ?_ ?_ ?_ ?_ ?_ ?_ ?_ ?_); rotate_left 6; k_asm; (first | k_asm | k_mem); k_asm; (first | exact ix0 _ | omega); (first | (refine ix1 ?_ ?_ <;> assumption) | omega | (simp only [List.length_append, List.length_cons, List.length_nil]; omega)); (first | omega | (simp only [List.length_append, List.length_cons, List.length_nil]; omega)); rotate_left; with_unfolding_all rfl; intro _) | walk1 | (dsimp only; first | ((fail_if_success (fail_if_success (with_reducible refine st_guard ?_))); refine' store_L ?_ ?_ ?_ ?_ ?_ ?_ ?_; rotate_left 5; (first | dsimp only | rfl); (first | dsimp only | rfl); k_asm; k_asm; rfl; rfl; intro _ _ _; k_sweep) | ((with_reducible refine' len_led ?_ ?_ ?_ ?_); rotate_left 5; k_asm; k_mem; ((try simp only [List.length_replicate]); omega)) | ((with_reducible refine' slice_led ?_ ?_ ?_ ?_ ?_ ?_ ?_ ?_ ?_ ?_ ?_ ?_ ?_); rotate_left 12; rfl; rfl; k_asm; k_asm; kmk_list; kmk_part; kmk_part; (first | k_asm | l_ints | exact IntsAre.cons _ _ IntsAre.nil); kmk_nums; with_unfolding_all rfl; kmk_pure; (first | omega | (simp only [List.length_append, List.length_take, List.length_drop, List.length_cons, List.length_nil]; omega)); lsm_bools) | ((with_reducible refine' item_int ?_ ?_ ?_ ?_ ?_ ?_ ?_ ?_); rotate_left 6; k_asm; (first | k_asm | k_mem); k_asm; (first | exact ix0 _ | omega); (first | (refine ix1 ?_ ?_ <;> assumption) | omega | (simp only [List.length_append, List.length_cons, List.length_nil]; omega)); (first | omega | (simp only [List.length_append, List.length_cons, List.length_nil]; omega)); rotate_left; with_unfolding_all rfl; intro _) | walk1) | (leave1; try dsimp only))))
    · rename_i heq
      rw [e] at heq
      refine CompEnd.intro FF NN _ (fun p h => h) off trivial ⟨rfl, ?_⟩
      have e2 : List.filter (fun p => decide (nL.getD p 0 = fewN nL)) [j] = [j] := by rw [List.filter_cons, if_pos (decide_eq_true heq)]; rfl
      unfold placesN
      rw [List.range_succ, List.filter_append, List.map_append, e2]
      have e3 : (0 + (j : Int)) = (j : Int) := by omega
      rw [e3]
      exact intsAre_append hys (.cons _ _ .nil)
    · rename_i heq
      rw [e] at heq
      refine CompEnd.intro FF NN _ (fun p h => h) off trivial ⟨rfl, ?_⟩
      have e2 : List.filter (fun p => decide (nL.getD p 0 = fewN nL)) [j] = [] := by rw [List.filter_cons, if_neg (by rw [decide_eq_true_iff]; exact heq)]; rfl
      unfold placesN
      rw [List.range_succ, List.filter_append, List.map_append, e2]
      rw [List.map_nil, List.append_nil]; exact hys
  case fin =>
    rintro ys nw ⟨rfl, hys⟩
    intro D8 h8 tk8 F8 N8 off8
    simp only [Off1, and_true] at off8
    (repeat' (first | (k_unfold; (try dsimp only)) | (k_end; wrow_close) | ((fail_if_success with_reducible (first | refine KswEnd_stop ?_ | refine call_stop ?_ | refine pyIter_stop ?_ | refine while_stop ?_ | refine for_stop ?_ | refine def_stop ?_ | refine CompSrcT_stop ?_ | refine CompSrc_stop ?_ | refine lca_stop ?_ | refine lce_stop ?_ | refine dsp_stop ?_ | refine lam_stop ?_ | refine cmp_stop ?_ | (refine stopAt ?_ ?_; assumption))); first | ((fail_if_success (fail_if_success (with_reducible refine st_guard ?_))); refine' store_L ?_ ?_ ?_ ?_ ?_ ?_ ?_; rotate_left 5; (first | dsimp only | rfl); (first | dsimp only | rfl); k_asm; k_asm; rfl; rfl; intro _ _ _; k_sweep) | ((with_reducible refine' len_led ?_ ?_ ?_ ?_); rotate_left 5; k_asm; k_mem; ((try simp only [List.length_replicate]); omega)) | ((with_reducible refine' slice_led ?_ ?_ ?_ ?_ ?_ ?_ ?_ ?_ ?_ ?_ ?_ ?_ ?_); rotate_left 12; rfl; rfl; k_asm; k_asm; kmk_list; kmk_part; kmk_part; (first | k_asm | l_ints | exact IntsAre.cons _ _ IntsAre.nil); kmk_nums; with_unfolding_all rfl; kmk_pure; (first | omega | (simp only [List.length_append, List.length_take, List.length_drop, List.length_cons, List.length_nil]; omega)); lsm_bools) | ((with_reducible refine' item_int ?_ ?_ ?_ ?_ ?_ ?_ ?_ ?_); rotate_left 6; k_asm; (first | k_asm | k_mem); k_asm; (first | exact ix0 _ | omega); (first | (refine ix1 ?_ ?_ <;> assumption) | omega | (simp only [List.length_append, List.length_cons, List.length_nil]; omega)); (first | omega | (simp only [List.length_append, List.length_cons, List.length_nil]; omega)); rotate_left; with_unfolding_all rfl; intro _) | walk1 | (dsimp only; first | ((fail_if_success (fail_if_success (with_reducible refine st_guard ?_))); refine' store_L ?_ ?_ ?_ ?_ ?_ ?_ ?_; rotate_left 5; (first | dsimp only | rfl); (first | dsimp only | rfl); k_asm; k_asm; rfl; rfl; intro _ _ _; k_sweep) | ((with_reducible refine' len_led ?_ ?_ ?_ ?_); rotate_left 5; k_asm; k_mem; ((try simp only [List.length_replicate]); omega)) | ((with_reducible refine' slice_led ?_ ?_ ?_ ?_ ?_ ?_ ?_ ?_ ?_ ?_ ?_ ?_ ?_); rotate_left 12; rfl; rfl; k_asm; k_asm; kmk_list; kmk_part; kmk_part; (first | k_asm | l_ints | exact IntsAre.cons _ _ IntsAre.nil); kmk_nums; with_unfolding_all rfl; kmk_pure; (first | omega | (simp only [List.length_append, List.length_take, List.length_drop, List.length_cons, List.length_nil]; omega)); lsm_bools) | ((with_reducible refine' item_int ?_ ?_ ?_ ?_ ?_ ?_ ?_ ?_); rotate_left 6; k_asm; (first | k_asm | k_mem); k_asm; (first | exact ix0 _ | omega); (first | (refine ix1 ?_ ?_ <;> assumption) | omega | (simp only [List.length_append, List.length_cons, List.length_nil]; omega)); (first | omega | (simp only [List.length_append, List.length_cons, List.length_nil]; omega)); rotate_left; with_unfolding_all rfl; intro _) | walk1) | (leave1; try dsimp only))))
    refine LCt.ListComp_T (F₀ := by k_asm) (by with_unfolding_all rfl) (by decide) (by rfl) (by decide) (by rfl) ?_
    (repeat' (first | (k_unfold; (try dsimp only)) | (k_end; wrow_close) | ((fail_if_success with_reducible (first | refine KswEnd_stop ?_ | refine call_stop ?_ | refine pyIter_stop ?_ | refine while_stop ?_ | refine for_stop ?_ | refine def_stop ?_ | refine CompSrcT_stop ?_ | refine CompSrc_stop ?_ | refine lca_stop ?_ | refine lce_stop ?_ | refine dsp_stop ?_ | refine lam_stop ?_ | refine cmp_stop ?_ | (refine stopAt ?_ ?_; assumption))); first | ((fail_if_success (fail_if_success (with_reducible refine st_guard ?_))); refine' store_L ?_ ?_ ?_ ?_ ?_ ?_ ?_; rotate_left 5; (first | dsimp only | rfl); (first | dsimp only | rfl); k_asm; k_asm; rfl; rfl; intro _ _ _; k_sweep) | ((with_reducible refine' len_led ?_ ?_ ?_ ?_); rotate_left 5; k_asm; k_mem; ((try simp only [List.length_replicate]); omega)) | ((with_reducible refine' slice_led ?_ ?_ ?_ ?_ ?_ ?_ ?_ ?_ ?_ ?_ ?_ ?_ ?_); rotate_left 12; rfl; rfl; k_asm; k_asm; kmk_list; kmk_part; kmk_part; (first | k_asm | l_ints | exact IntsAre.cons _ _ IntsAre.nil); kmk_nums; with_unfolding_all rfl; kmk_pure; (first | omega | (simp only [List.length_append, List.length_take, List.length_drop, List.length_cons, List.length_nil]; omega)); lsm_bools) | ((with_reducible refine' item_int ?_ ?_ ?_ ?_ ?_ ?_ ?_ ?_); rotate_left 6; k_asm; (first | k_asm | k_mem); k_asm; (first | exact ix0 _ | omega); (first | (refine ix1 ?_ ?_ <;> assumption) | omega | (simp only [List.length_append, List.length_cons, List.length_nil]; omega)); (first | omega | (simp only [List.length_append, List.length_cons, List.length_nil]; omega)); rotate_left; with_unfolding_all rfl; intro _) | walk1 | (dsimp only; first | ((fail_if_success (fail_if_success (with_reducible refine st_guard ?_))); refine' store_L ?_ ?_ ?_ ?_ ?_ ?_ ?_; rotate_left 5; (first | dsimp only | rfl); (first | dsimp only | rfl); k_asm; k_asm; rfl; rfl; intro _ _ _; k_sweep) | ((with_reducible refine' len_led ?_ ?_ ?_ ?_); rotate_left 5; k_asm; k_mem; ((try simp only [List.length_replicate]); omega)) | ((with_reducible refine' slice_led ?_ ?_ ?_ ?_ ?_ ?_ ?_ ?_ ?_ ?_ ?_ ?_ ?_); rotate_left 12; rfl; rfl; k_asm; k_asm; kmk_list; kmk_part; kmk_part; (first | k_asm | l_ints | exact IntsAre.cons _ _ IntsAre.nil); kmk_nums; with_unfolding_all rfl; kmk_pure; (first | omega | (simp only [List.length_append, List.length_take, List.length_drop, List.length_cons, List.length_nil]; omega)); lsm_bools) | ((with_reducible refine' item_int ?_ ?_ ?_ ?_ ?_ ?_ ?_ ?_); rotate_left 6; k_asm; (first | k_asm | k_mem); k_asm; (first | exact ix0 _ | omega); (first | (refine ix1 ?_ ?_ <;> assumption) | omega | (simp only [List.length_append, List.length_cons, List.length_nil]; omega)); (first | omega | (simp only [List.length_append, List.length_cons, List.length_nil]; omega)); rotate_left; with_unfolding_all rfl; intro _) | walk1) | (leave1; try dsimp only))))
    rename_i D6 ws6 h6 F6 N6 hI6 l6
    have hw6 := hI6.length
    have hl4 : (rs.take 4).length = 4 := by rw [List.length_take]; omega
    have N7 : News g L h6 [(D6, W.listOf ws6.toArray 0), (Li, W.listOf vsL.toArray kL), (L + 2, o2), (110, tabObj pa), (103, tabObj pb), (205, tabObj pc)] := news_sub N6 (by repeat (first | exact sub_nil | refine sub_cons (by k_mem) ?_))
    refine LCt.CompSrcT.ledger rfl F6 N7 (.head _) (by rw [List.size_toArray, sizeLine_eq]; omega) ?_
    intro g7
    refine restT_ind 4 (fun i ys nw => nw = [(D6, W.listOf ws6.toArray 0), (Li, W.listOf vsL.toArray kL), (L + 2, o2), (110, tabObj pa), (103, tabObj pb), (205, tabObj pc)] ∧ ys.length = (((rs.take 4).take i).filter fun x => decide (x ≠ 0)).length) ?turn2 ?fin2 _ 0 [] _ (by rw [List.size_toArray, hw6, hl4]) ⟨rfl, rfl⟩
    case turn2 =>
      rintro j ys2 nw hj ⟨rfl, hys2⟩ v I2 oI2 C oC2 D m₂ h tk E' hv hC hx FF NN off nn
      obtain ⟨bj, hbj⟩ : ∃ b, (rs.take 4)[j]? = some b := ⟨_, List.getElem?_eq_getElem (by omega)⟩
      obtain ⟨t, ht⟩ := hI6.get j _ hbj
      have hv2 : v = Value.int bj t := by
        have hv3 : ws6[j]? = some v := by simpa using hv
        exact Option.some.inj (hv3.symm.trans ht)
      subst hv2
      (repeat' (first | (k_unfold; (try dsimp only)) | (k_end; wrow_close) | ((fail_if_success with_reducible (first | refine KswEnd_stop ?_ | refine call_stop ?_ | refine pyIter_stop ?_ | refine while_stop ?_ | refine for_stop ?_ | refine def_stop ?_ | refine CompSrcT_stop ?_ | refine CompSrc_stop ?_ | refine lca_stop ?_ | refine lce_stop ?_ | refine dsp_stop ?_ | refine lam_stop ?_ | refine cmp_stop ?_ | (refine stopAt ?_ ?_; assumption))); first | ((fail_if_success (fail_if_success (with_reducible refine st_guard ?_))); refine' store_L ?_ ?_ ?_ ?_ ?_ ?_ ?_; rotate_left 5; (first | dsimp only | rfl); (first | dsimp only | rfl); k_asm; k_asm; rfl; rfl; intro _ _ _; k_sweep) | ((with_reducible refine' len_led ?_ ?_ ?_ ?_); rotate_left 5; k_asm; k_mem; ((try simp only [List.length_replicate]); omega)) | ((with_reducible refine' slice_led ?_ ?_ ?_ ?_ ?_ ?_ ?_ ?_ ?_ ?_ ?_ ?_ ?_); rotate_left 12; rfl; rfl; k_asm; k_asm; kmk_list; kmk_part; kmk_part; (first | k_asm | l_ints | exact IntsAre.cons _ _ IntsAre.nil); kmk_nums; with_unfolding_all rfl; kmk_pure; (first | omega | (simp only [List.length_append, List.length_take, List.length_drop, List.length_cons, List.length_nil]; omega)); lsm_bools) | ((with_reducible refine' item_int ?_ ?_ ?_ ?_ ?_ ?_ ?_ ?_); rotate_left 6; k_asm; (first | k_asm | k_mem); k_asm; (first | exact ix0 _ | omega); (first | (refine ix1 ?_ ?_ <;> assumption) | omega | (simp only [List.length_append, List.length_cons, List.length_nil]; omega)); (first | omega | (simp only [List.length_append, List.length_cons, List.length_nil]; omega)); rotate_left; with_unfolding_all rfl; intro _) | walk1 | (dsimp only; first | ((fail_if_success (fail_if_success (with_reducible refine st_guard ?_))); refine' store_L ?_ ?_ ?_ ?_ ?_ ?_ ?_; rotate_left 5; (first | dsimp only | rfl); (first | dsimp only | rfl); k_asm; k_asm; rfl; rfl; intro _ _ _; k_sweep) | ((with_reducible refine' len_led ?_ ?_ ?_ ?_); rotate_left 5; k_asm; k_mem; ((try simp only [List.length_replicate]); omega)) | ((with_reducible refine' slice_led ?_ ?_ ?_ ?_ ?_ ?_ ?_ ?_ ?_ ?_ ?_ ?_ ?_); rotate_left 12; rfl; rfl; k_asm; k_asm; kmk_list; kmk_part; kmk_part; (first | k_asm | l_ints | exact IntsAre.cons _ _ IntsAre.nil); kmk_nums; with_unfolding_all rfl; kmk_pure; (first | omega | (simp only [List.length_append, List.length_take, List.length_drop, List.length_cons, List.length_nil]; omega)); lsm_bools) | ((with_reducible refine' item_int ?_ ?_ ?_ ?_ ?_ ?_ ?_ ?_); rotate_left 6; k_asm; (first | k_asm | k_mem); k_asm; (first | exact ix0 _ | omega); (first | (refine ix1 ?_ ?_ <;> assumption) | omega | (simp only [List.length_append, List.length_cons, List.length_nil]; omega)); (first | omega | (simp only [List.length_append, List.length_cons, List.length_nil]; omega)); rotate_left; with_unfolding_all rfl; intro _) | walk1) | (leave1; try dsimp only))))
      · rename_i hne
        refine CompEnd.intro FF NN _ (fun p h => h) off (.inr ⟨_, .head _, rfl, _, rfl⟩) ⟨rfl, ?_⟩
        have e2 : List.filter (fun x : Int => decide (x ≠ 0)) [bj] = [bj] := by rw [List.filter_cons, if_pos (decide_eq_true hne)]; rfl
        rw [List.take_add_one, hbj, Option.toList_some, List.filter_append, List.length_append, List.length_append, hys2, e2]
        rfl
      · rename_i hne
        refine CompEnd.intro FF NN _ (fun p h => h) off (.inr ⟨_, .head _, rfl, _, rfl⟩) ⟨rfl, ?_⟩
        have e2 : List.filter (fun x : Int => decide (x ≠ 0)) [bj] = [] := by rw [List.filter_cons, if_neg (by rw [decide_eq_true_iff]; exact fun h => h hne)]; rfl
        rw [List.take_add_one, hbj, Option.toList_some, List.filter_append, List.length_append, hys2, e2]
        rfl
    case fin2 =>
      rintro ys2 nw ⟨rfl, hys2⟩
      intro D9 h9 tk9 F9 N9 off9
      simp only [Off1, and_true] at off9
      have hlm : ys2.length ≤ 4 := by rw [hys2]; exact Nat.le_trans (List.length_filter_le _ _) (by rw [List.length_take]; omega)
      (repeat' (first | (k_unfold; (try dsimp only)) | (k_end; wrow_close) | ((fail_if_success with_reducible (first | refine KswEnd_stop ?_ | refine call_stop ?_ | refine pyIter_stop ?_ | refine while_stop ?_ | refine for_stop ?_ | refine def_stop ?_ | refine CompSrcT_stop ?_ | refine CompSrc_stop ?_ | refine lca_stop ?_ | refine lce_stop ?_ | refine dsp_stop ?_ | refine lam_stop ?_ | refine cmp_stop ?_ | (refine stopAt ?_ ?_; assumption))); first | ((fail_if_success (fail_if_success (with_reducible refine st_guard ?_))); refine' store_L ?_ ?_ ?_ ?_ ?_ ?_ ?_; rotate_left 5; (first | dsimp only | rfl); (first | dsimp only | rfl); k_asm; k_asm; rfl; rfl; intro _ _ _; k_sweep) | ((with_reducible refine' len_led ?_ ?_ ?_ ?_); rotate_left 5; k_asm; k_mem; ((try simp only [List.length_replicate]); omega)) | ((with_reducible refine' slice_led ?_ ?_ ?_ ?_ ?_ ?_ ?_ ?_ ?_ ?_ ?_ ?_ ?_); rotate_left 12; rfl; rfl; k_asm; k_asm; kmk_list; kmk_part; kmk_part; (first | k_asm | l_ints | exact IntsAre.cons _ _ IntsAre.nil); kmk_nums; with_unfolding_all rfl; kmk_pure; (first | omega | (simp only [List.length_append, List.length_take, List.length_drop, List.length_cons, List.length_nil]; omega)); lsm_bools) | ((with_reducible refine' item_int ?_ ?_ ?_ ?_ ?_ ?_ ?_ ?_); rotate_left 6; k_asm; (first | k_asm | k_mem); k_asm; (first | exact ix0 _ | omega); (first | (refine ix1 ?_ ?_ <;> assumption) | omega | (simp only [List.length_append, List.length_cons, List.length_nil]; omega)); (first | omega | (simp only [List.length_append, List.length_cons, List.length_nil]; omega)); rotate_left; with_unfolding_all rfl; intro _) | walk1 | (dsimp only; first | ((fail_if_success (fail_if_success (with_reducible refine st_guard ?_))); refine' store_L ?_ ?_ ?_ ?_ ?_ ?_ ?_; rotate_left 5; (first | dsimp only | rfl); (first | dsimp only | rfl); k_asm; k_asm; rfl; rfl; intro _ _ _; k_sweep) | ((with_reducible refine' len_led ?_ ?_ ?_ ?_); rotate_left 5; k_asm; k_mem; ((try simp only [List.length_replicate]); omega)) | ((with_reducible refine' slice_led ?_ ?_ ?_ ?_ ?_ ?_ ?_ ?_ ?_ ?_ ?_ ?_ ?_); rotate_left 12; rfl; rfl; k_asm; k_asm; kmk_list; kmk_part; kmk_part; (first | k_asm | l_ints | exact IntsAre.cons _ _ IntsAre.nil); kmk_nums; with_unfolding_all rfl; kmk_pure; (first | omega | (simp only [List.length_append, List.length_take, List.length_drop, List.length_cons, List.length_nil]; omega)); lsm_bools) | ((with_reducible refine' item_int ?_ ?_ ?_ ?_ ?_ ?_ ?_ ?_); rotate_left 6; k_asm; (first | k_asm | k_mem); k_asm; (first | exact ix0 _ | omega); (first | (refine ix1 ?_ ?_ <;> assumption) | omega | (simp only [List.length_append, List.length_cons, List.length_nil]; omega)); (first | omega | (simp only [List.length_append, List.length_cons, List.length_nil]; omega)); rotate_left; with_unfolding_all rfl; intro _) | walk1) | (leave1; try dsimp only))))
      rename News _ _ _ _ => N11
      rename Fr _ _ _ _ => F11
      have hmo : (ys2.length : Int) = mostN rs := by
        rw [hys2]
        unfold mostN
        rw [List.take_of_length_le (by omega)]
      rw [hmo] at F11
      refine' hnext _ _ _ _ _ ?hps F11 (news_sub N11 (by repeat (first | exact sub_nil | refine sub_cons (by k_mem) ?_)))
      case hps => kst_all1

end
section
structure Rw where
  R : List Int
  c : List Int
  rs : List Int
  cn : List Int
noncomputable def tbl : List Rw := [
  ⟨[0,0,0,0], [1,1,1,1], [0,0,0,0,1], [24,0,0,0,0]⟩,
  ⟨[0,0,0,1], [0,2,1,1], [0,0,0,1,1], [18,6,0,0,0]⟩,
  ⟨[0,0,0,2], [0,1,2,1], [0,0,0,2,1], [12,12,0,0,0]⟩,
  ⟨[0,0,0,3], [0,1,1,2], [0,0,0,3,1], [6,18,0,0,0]⟩,
  ⟨[0,0,0,4], [0,1,1,1,1], [0,0,0,4,1], [0,24,0,0,0]⟩,
  ⟨[0,0,1,1], [0,1,2,1], [0,0,0,2,1], [12,12,0,0,0]⟩,
  ⟨[0,0,1,2], [0,0,3,1], [0,0,1,3,1], [8,14,2,0,0]⟩,
  ⟨[0,0,1,3], [0,0,2,2], [0,0,2,4,1], [4,16,4,0,0]⟩,
  ⟨[0,0,1,4], [0,0,2,1,1], [0,0,3,5,1], [0,18,6,0,0]⟩,
  ⟨[0,0,2,2], [0,0,2,2], [0,0,2,4,1], [4,16,4,0,0]⟩,
  ⟨[0,0,2,3], [0,0,1,3], [0,0,4,5,1], [2,14,8,0,0]⟩,
  ⟨[0,0,2,4], [0,0,1,2,1], [0,0,6,6,1], [0,12,12,0,0]⟩,
  ⟨[0,0,3,3], [0,0,1,2,1], [0,0,6,6,1], [0,12,12,0,0]⟩,
  ⟨[0,0,3,4], [0,0,1,1,2], [0,0,9,7,1], [0,6,18,0,0]⟩,
  ⟨[0,0,4,4], [0,0,1,1,1,1], [0,0,12,8,1], [0,0,24,0,0]⟩,
  ⟨[0,1,1,1], [0,1,1,2], [0,0,0,3,1], [6,18,0,0,0]⟩,
  ⟨[0,1,1,2], [0,0,2,2], [0,0,2,4,1], [4,16,4,0,0]⟩,
  ⟨[0,1,1,3], [0,0,1,3], [0,0,4,5,1], [2,14,8,0,0]⟩,
  ⟨[0,1,1,4], [0,0,1,2,1], [0,0,6,6,1], [0,12,12,0,0]⟩,
  ⟨[0,1,2,2], [0,0,1,3], [0,0,4,5,1], [2,14,8,0,0]⟩,
  ⟨[0,1,2,3], [0,0,0,4], [0,1,7,6,1], [1,11,11,1,0]⟩,
  ⟨[0,1,2,4], [0,0,0,3,1], [0,2,10,7,1], [0,8,14,2,0]⟩,
  ⟨[0,1,3,3], [0,0,0,3,1], [0,2,10,7,1], [0,8,14,2,0]⟩,
  ⟨[0,1,3,4], [0,0,0,2,2], [0,4,14,8,1], [0,4,16,4,0]⟩,
  ⟨[0,1,4,4], [0,0,0,2,1,1], [0,6,18,9,1], [0,0,18,6,0]⟩,
  ⟨[0,2,2,2], [0,0,1,2,1], [0,0,6,6,1], [0,12,12,0,0]⟩,
  ⟨[0,2,2,3], [0,0,0,3,1], [0,2,10,7,1], [0,8,14,2,0]⟩,
  ⟨[0,2,2,4], [0,0,0,2,2], [0,4,14,8,1], [0,4,16,4,0]⟩,
  ⟨[0,2,3,3], [0,0,0,2,2], [0,4,14,8,1], [0,4,16,4,0]⟩,
  ⟨[0,2,3,4], [0,0,0,1,3], [0,8,19,9,1], [0,2,14,8,0]⟩,
  ⟨[0,2,4,4], [0,0,0,1,2,1], [0,12,24,10,1], [0,0,12,12,0]⟩,
  ⟨[0,3,3,3], [0,0,0,2,1,1], [0,6,18,9,1], [0,0,18,6,0]⟩,
  ⟨[0,3,3,4], [0,0,0,1,2,1], [0,12,24,10,1], [0,0,12,12,0]⟩,
  ⟨[0,3,4,4], [0,0,0,1,1,2], [0,18,30,11,1], [0,0,6,18,0]⟩,
  ⟨[0,4,4,4], [0,0,0,1,1,1,1], [0,24,36,12,1], [0,0,0,24,0]⟩,
  ⟨[1,1,1,1], [0,1,1,1,1], [0,0,0,4,1], [0,24,0,0,0]⟩,
  ⟨[1,1,1,2], [0,0,2,1,1], [0,0,3,5,1], [0,18,6,0,0]⟩,
  ⟨[1,1,1,3], [0,0,1,2,1], [0,0,6,6,1], [0,12,12,0,0]⟩,
  ⟨[1,1,1,4], [0,0,1,1,2], [0,0,9,7,1], [0,6,18,0,0]⟩,
  ⟨[1,1,2,2], [0,0,1,2,1], [0,0,6,6,1], [0,12,12,0,0]⟩,
  ⟨[1,1,2,3], [0,0,0,3,1], [0,2,10,7,1], [0,8,14,2,0]⟩,
  ⟨[1,1,2,4], [0,0,0,2,2], [0,4,14,8,1], [0,4,16,4,0]⟩,
  ⟨[1,1,3,3], [0,0,0,2,2], [0,4,14,8,1], [0,4,16,4,0]⟩,
  ⟨[1,1,3,4], [0,0,0,1,3], [0,8,19,9,1], [0,2,14,8,0]⟩,
  ⟨[1,1,4,4], [0,0,0,1,2,1], [0,12,24,10,1], [0,0,12,12,0]⟩,
  ⟨[1,2,2,2], [0,0,1,1,2], [0,0,9,7,1], [0,6,18,0,0]⟩,
  ⟨[1,2,2,3], [0,0,0,2,2], [0,4,14,8,1], [0,4,16,4,0]⟩,
  ⟨[1,2,2,4], [0,0,0,1,3], [0,8,19,9,1], [0,2,14,8,0]⟩,
  ⟨[1,2,3,3], [0,0,0,1,3], [0,8,19,9,1], [0,2,14,8,0]⟩,
  ⟨[1,2,3,4], [0,0,0,0,4], [1,15,25,10,1], [0,1,11,11,1]⟩,
  ⟨[1,2,4,4], [0,0,0,0,3,1], [2,22,31,11,1], [0,0,8,14,2]⟩,
  ⟨[1,3,3,3], [0,0,0,1,2,1], [0,12,24,10,1], [0,0,12,12,0]⟩,
  ⟨[1,3,3,4], [0,0,0,0,3,1], [2,22,31,11,1], [0,0,8,14,2]⟩,
  ⟨[1,3,4,4], [0,0,0,0,2,2], [4,32,38,12,1], [0,0,4,16,4]⟩,
  ⟨[1,4,4,4], [0,0,0,0,2,1,1], [6,42,45,13,1], [0,0,0,18,6]⟩,
  ⟨[2,2,2,2], [0,0,1,1,1,1], [0,0,12,8,1], [0,0,24,0,0]⟩,
  ⟨[2,2,2,3], [0,0,0,2,1,1], [0,6,18,9,1], [0,0,18,6,0]⟩,
  ⟨[2,2,2,4], [0,0,0,1,2,1], [0,12,24,10,1], [0,0,12,12,0]⟩,
  ⟨[2,2,3,3], [0,0,0,1,2,1], [0,12,24,10,1], [0,0,12,12,0]⟩,
  ⟨[2,2,3,4], [0,0,0,0,3,1], [2,22,31,11,1], [0,0,8,14,2]⟩,
  ⟨[2,2,4,4], [0,0,0,0,2,2], [4,32,38,12,1], [0,0,4,16,4]⟩,
  ⟨[2,3,3,3], [0,0,0,1,1,2], [0,18,30,11,1], [0,0,6,18,0]⟩,
  ⟨[2,3,3,4], [0,0,0,0,2,2], [4,32,38,12,1], [0,0,4,16,4]⟩,
  ⟨[2,3,4,4], [0,0,0,0,1,3], [8,46,46,13,1], [0,0,2,14,8]⟩,
  ⟨[2,4,4,4], [0,0,0,0,1,2,1], [12,60,54,14,1], [0,0,0,12,12]⟩,
  ⟨[3,3,3,3], [0,0,0,1,1,1,1], [0,24,36,12,1], [0,0,0,24,0]⟩,
  ⟨[3,3,3,4], [0,0,0,0,2,1,1], [6,42,45,13,1], [0,0,0,18,6]⟩,
  ⟨[3,3,4,4], [0,0,0,0,1,2,1], [12,60,54,14,1], [0,0,0,12,12]⟩,
  ⟨[3,4,4,4], [0,0,0,0,1,1,2], [18,78,63,15,1], [0,0,0,6,18]⟩,
  ⟨[4,4,4,4], [0,0,0,0,1,1,1,1], [24,96,72,16,1], [0,0,0,0,24]⟩]
noncomputable def five : List Int := [0, 1, 2, 3, 4]
noncomputable def all5 : List (List Int) := five.flatMap fun a => five.flatMap fun b => five.flatMap fun c => five.map fun d => [a, b, c, d]
theorem mem_five {x : Int} (h : 0 ≤ x ∧ x ≤ 4) : x ∈ five := by
  have e : ∀ k : Nat, k < 5 → (k : Int) ∈ five := by decide
  obtain ⟨k, rfl⟩ := Int.eq_ofNat_of_zero_le h.1
  exact e k (Nat.lt_succ_of_le (Int.ofNat_le.mp h.2))
theorem mem_all5 {a b c d : Int} (ha : 0 ≤ a ∧ a ≤ 4) (hb : 0 ≤ b ∧ b ≤ 4) (hc : 0 ≤ c ∧ c ≤ 4) (hd : 0 ≤ d ∧ d ≤ 4) : [a, b, c, d] ∈ all5 := by
  simp only [all5, List.mem_flatMap, List.mem_map]
  exact ⟨a, mem_five ha, b, mem_five hb, c, mem_five hc, d, mem_five hd, rfl⟩
noncomputable def sorted4 : List Int → Bool
  | [a, b, c, d] => decide (a ≤ b) && decide (b ≤ c) && decide (c ≤ d)
  | _ => false
theorem t_mem : all5.all (fun l => !sorted4 l || tbl.any fun r => decide (r.R = l)) = true := by decide +kernel
theorem tbl_mem {l : List Int} (hl : l.length = 4) (hp : l.Pairwise (· ≤ ·)) (h : ∀ x ∈ l, 0 ≤ x ∧ x ≤ 4) : ∃ r ∈ tbl, r.R = l := by
  match l, hl with
  | [a, b, c, d], _ =>
    have hm := mem_all5 (h a (by simp)) (h b (by simp)) (h c (by simp)) (h d (by simp))
    have h1 := List.all_eq_true.mp t_mem _ hm
    have hs : sorted4 [a, b, c, d] = true := by
      simp only [List.pairwise_cons, List.mem_cons] at hp
      have e1 := hp.1 b (.inl rfl)
      have e2 := hp.2.1 c (.inl rfl)
      have e3 := hp.2.2.1 d (.inl rfl)
      simp [sorted4, e1, e2, e3]
    rw [hs] at h1
    simpa [List.any_eq_true] using h1
theorem t_wz : tbl.all (fun r => [(0 : Int), 1, 2].all fun sp => decide ((wz (leadL 0 r.R sp)).c = r.c) && decide ((wz (leadL 0 r.R sp)).b = sp.toNat)) = true := by decide +kernel
theorem t_cn : tbl.all (fun r => decide (cntN r.R (waysN 4) = r.cn)) = true := by decide +kernel
theorem t_tn : tbl.all (fun r => [(0 : Int), 1, 2].all fun sp => [((0 : Int), (0 : Int)), (0, 1), (1, 0)].all fun q => (wEq (leadL 0 r.R sp) (leadL q.1 (turnN r.R) (sp + q.2)) == decide (q.1 + q.2 = 0)) && (wEq (leadL q.1 (turnN r.R) (sp + q.2)) (leadL 0 r.R sp) == decide (q.1 + q.2 = 0))) = true := by decide +kernel
noncomputable def lookC (c : List Int) : Option (List Int) := (tbl.find? fun q => decide (q.c = c)).map (·.cn)
noncomputable def lookF (f : List Int) : Option (List Int) := (tbl.find? fun q => decide (stripZ q.cn = f)).map (·.c)
theorem t_c : tbl.all (fun r => decide (lookC r.c = some r.cn)) = true := by decide +kernel
theorem t_f : tbl.all (fun r => decide (lookF (stripZ r.cn) = some r.c)) = true := by decide +kernel
noncomputable def prodP (cs : List Int) (k : Nat) : List Int := (List.range k).foldl (fun acc (j : Nat) => ppow (-3 + (j : Int)) (cs.getD j 0).toNat acc) [1]
noncomputable def rookP : List Int → List Int
  | [r0, r1, r2, r3, r4] => padd [r0] (pmul 0 (padd [r1] (pmul (-1) (padd [r2] (pmul (-2) (padd [r3] (pmul (-3) [r4])))))))
  | _ => []
noncomputable def numP (rs : List Int) (k : Nat) : List Int := (List.range k).foldl (fun acc (j : Nat) => padd acc ((ppow (-1) (4 - j) [1]).map (rs.getD j 0 * facL.getD j 0 * ·))) []
theorem t_p : tbl.all (fun r => decide (prodP r.c r.c.length = rookP r.rs) && decide (numP r.rs 5 = r.cn)) = true := by decide +kernel
theorem t_d : tbl.all (fun r => decide (r.rs.length = 5) && r.rs.all (fun x => decide (0 ≤ x) && decide (x < 200)) && decide (r.rs.getD 4 0 = 1) && decide (r.c.length ≤ 8) && r.c.all (fun x => decide (0 ≤ x) && decide (x ≤ 4))) = true := by decide +kernel
theorem t_e : tbl.all (fun r => r.cn.any (fun x => decide (x ≠ 0)) && decide (r.cn = stripZ r.cn ++ List.replicate (5 - (stripZ r.cn).length) 0) && (stripZ r.cn).all (fun x => decide (0 ≤ x) && decide (x < 200)) && decide ((stripZ r.cn).sum = 24) && decide (stripZ r.cn = (stripZ r.cn).dropLast ++ [(stripZ r.cn).getD ((stripZ r.cn).length - 1) 0]) && decide (0 < (stripZ r.cn).getD ((stripZ r.cn).length - 1) 0) && decide ((stripZ r.cn).length ≤ 5)) = true := by decide +kernel
theorem t_t : tbl.all (fun r => decide ((turnN r.R).length = 4) && (turnN r.R).all (fun x => decide (0 ≤ x) && decide (x ≤ 4))) = true := by decide +kernel
theorem t_rim : tbl.all (fun r => ([0, 1, 2, 3].all fun i => decide (0 ≤ r.R.getD i 0 - ([0] ++ r.R).getD i 0) && decide (r.R.getD i 0 - ([0] ++ r.R).getD i 0 ≤ 4)) && decide (0 ≤ r.R.getD 3 0) && decide (r.R.getD 3 0 ≤ 4) && ([0, 1, 2, 3, 4].all fun i => decide ((rimP r.R i).length ≤ 20)) && ((rimL r.R).all fun c => decide (c = 32) || decide (c = 9)) && decide ((rimL r.R).length = 8)) = true := by decide +kernel
theorem t_few : tbl.all (fun r => ((linesF (rimL r.R)).all fun M => !((linesF (rimL r.R)).all fun a => decide (M ≤ a)) || decide (M = fewN (linesF (rimL r.R)))) && decide (0 < (placesN (linesF (rimL r.R)) (fewN (linesF (rimL r.R))) 9).length)) = true := by decide +kernel
theorem t_most : tbl.all (fun r => decide (0 ≤ (placesN (linesF (rimL r.R)) (fewN (linesF (rimL r.R))) 9).getD 0 0) && decide ((placesN (linesF (rimL r.R)) (fewN (linesF (rimL r.R))) 9).getD 0 0 ≤ 8) && decide (mostN r.rs = (linesF (rimL r.R)).getD ((placesN (linesF (rimL r.R)) (fewN (linesF (rimL r.R))) 9).getD 0 0).toNat 0)) = true := by decide +kernel

end
section
theorem all_mem {α : Type} {l : List α} {f : α → Bool} (h : l.all f = true) {x : α} (hx : x ∈ l) : f x = true := List.all_eq_true.mp h x hx
theorem mem3 {s : Int} (h0 : 0 ≤ s) (h2 : s ≤ 2) : s ∈ [(0 : Int), 1, 2] := by
  have : s = 0 ∨ s = 1 ∨ s = 2 := by omega
  rcases this with rfl | rfl | rfl <;> decide
theorem f_wz {r : Rw} (h : r ∈ tbl) {s : Int} (h0 : 0 ≤ s) (h2 : s ≤ 2) : (wz (leadL 0 r.R s)).c = r.c ∧ (wz (leadL 0 r.R s)).b = s.toNat := by
  have := all_mem (all_mem t_wz h) (mem3 h0 h2)
  simpa [Bool.and_eq_true] using this
theorem f_tn {r : Rw} (h : r ∈ tbl) {s : Int} (h0 : 0 ≤ s) (h2 : s ≤ 2) (lo mo : Int) (hq : (lo = 0 ∧ mo = 0) ∨ (lo = 0 ∧ mo = 1) ∨ (lo = 1 ∧ mo = 0)) :
    wEq (leadL 0 r.R s) (leadL lo (turnN r.R) (s + mo)) = decide (lo + mo = 0) ∧ wEq (leadL lo (turnN r.R) (s + mo)) (leadL 0 r.R s) = decide (lo + mo = 0) := by
  have h3 := all_mem (all_mem t_tn h) (mem3 h0 h2)
  have h4 := all_mem h3 (x := (lo, mo)) (by rcases hq with ⟨rfl, rfl⟩ | ⟨rfl, rfl⟩ | ⟨rfl, rfl⟩ <;> decide)
  rw [Bool.and_eq_true] at h4
  exact ⟨eq_of_beq h4.1, eq_of_beq h4.2⟩
theorem f_t {r : Rw} (h : r ∈ tbl) : (turnN r.R).length = 4 ∧ ∀ x ∈ turnN r.R, 0 ≤ x ∧ x ≤ 4 := by
  have h3 := all_mem t_t h
  rw [Bool.and_eq_true] at h3
  refine ⟨of_decide_eq_true h3.1, fun x hx => ?_⟩
  have h4 := all_mem h3.2 hx
  rw [Bool.and_eq_true] at h4
  exact ⟨of_decide_eq_true h4.1, of_decide_eq_true h4.2⟩
theorem f_cn {r : Rw} (h : r ∈ tbl) : cntN r.R (waysN 4) = r.cn := of_decide_eq_true (all_mem t_cn h)
theorem f_fig {r : Rw} (h : r ∈ tbl) : figN r.R = stripZ r.cn := by unfold figN; rw [f_cn h]
theorem f_e {r : Rw} (h : r ∈ tbl) : (∃ x ∈ r.cn, x ≠ 0) ∧ r.cn = stripZ r.cn ++ List.replicate (5 - (stripZ r.cn).length) 0 ∧ (∀ x ∈ stripZ r.cn, 0 ≤ x ∧ x < 200) ∧ (stripZ r.cn).sum = 24 ∧ stripZ r.cn = (stripZ r.cn).dropLast ++ [(stripZ r.cn).getD ((stripZ r.cn).length - 1) 0] ∧ 0 < (stripZ r.cn).getD ((stripZ r.cn).length - 1) 0 ∧ (stripZ r.cn).length ≤ 5 := by
  have h3 := all_mem t_e h
  simp only [Bool.and_eq_true] at h3
  obtain ⟨⟨⟨⟨⟨⟨h1, h2⟩, h4⟩, h5⟩, h6⟩, h7⟩, h8⟩ := h3
  refine ⟨?_, of_decide_eq_true h2, fun x hx => ?_, of_decide_eq_true h5, of_decide_eq_true h6, of_decide_eq_true h7, of_decide_eq_true h8⟩
  · obtain ⟨x, hx, e⟩ := List.any_eq_true.mp h1
    exact ⟨x, hx, of_decide_eq_true e⟩
  · have h9 := all_mem h4 hx
    rw [Bool.and_eq_true] at h9
    exact ⟨of_decide_eq_true h9.1, of_decide_eq_true h9.2⟩
theorem f_pair {r q : Rw} (h : r ∈ tbl) (hq : q ∈ tbl) {s : Int} (h0 : 0 ≤ s) (h2 : s ≤ 2) : wEq (leadL 0 r.R s) (leadL 0 q.R s) = decide (figN r.R = figN q.R) := by
  rw [f_fig h, f_fig hq]
  unfold wEq
  rw [(f_wz h h0 h2).1, (f_wz h h0 h2).2, (f_wz hq h0 h2).1, (f_wz hq h0 h2).2, beq_self_eq_true, Bool.and_true]
  have e1 : lookC r.c = some r.cn := of_decide_eq_true (all_mem t_c h)
  have e2 : lookC q.c = some q.cn := of_decide_eq_true (all_mem t_c hq)
  have e3 : lookF (stripZ r.cn) = some r.c := of_decide_eq_true (all_mem t_f h)
  have e4 : lookF (stripZ q.cn) = some q.c := of_decide_eq_true (all_mem t_f hq)
  refine decide_eq_decide.mpr ⟨fun e => ?_, fun e => ?_⟩
  · rw [e, e2] at e1; rw [Option.some.inj e1]
  · rw [e, e4] at e3; exact (Option.some.inj e3).symm
theorem f_d {r : Rw} (h : r ∈ tbl) : r.rs.length = 5 ∧ (∀ x ∈ r.rs, 0 ≤ x ∧ x < 200) ∧ r.rs.getD 4 0 = 1 ∧ r.c.length ≤ 8 ∧ ∀ x ∈ r.c, 0 ≤ x ∧ x ≤ 4 := by
  have h3 := all_mem t_d h
  simp only [Bool.and_eq_true] at h3
  obtain ⟨⟨⟨⟨h1, h2⟩, h4⟩, h5⟩, h6⟩ := h3
  refine ⟨of_decide_eq_true h1, fun x hx => ?_, of_decide_eq_true h4, of_decide_eq_true h5, fun x hx => ?_⟩
  · have h9 := all_mem h2 hx
    rw [Bool.and_eq_true] at h9
    exact ⟨of_decide_eq_true h9.1, of_decide_eq_true h9.2⟩
  · have h9 := all_mem h6 hx
    rw [Bool.and_eq_true] at h9
    exact ⟨of_decide_eq_true h9.1, of_decide_eq_true h9.2⟩
theorem getD_all {l : List Int} {a b : Int} (ha : a ≤ 0) (hb : 0 ≤ b) (h : ∀ x ∈ l, a ≤ x ∧ x ≤ b) (j : Nat) : a ≤ l.getD j 0 ∧ l.getD j 0 ≤ b := by
  rw [List.getD_eq_getElem?_getD]
  rcases hx : l[j]? with _ | x
  · exact ⟨ha, hb⟩
  · exact h x (List.mem_of_getElem? hx)
theorem prodP_ev (B : Int) (cs : List Int) : ∀ k : Nat, pev (prodP cs k) B = prodN B cs k
  | 0 => by simp [prodP, prodN, pev]
  | k + 1 => by
    have e1 : prodP cs (k + 1) = ppow (-3 + (k : Int)) (cs.getD k 0).toNat (prodP cs k) := by unfold prodP; rw [List.range_succ, List.foldl_append]; rfl
    have e2 : prodN B cs (k + 1) = prodN B cs k * (B - 3 + (k : Int)) ^ (cs.getD k 0).toNat := by unfold prodN; rw [List.range_succ, List.foldl_append]; rfl
    have e3 : B + (-3 + (k : Int)) = B - 3 + (k : Int) := by omega
    rw [e1, e2, pev_pow, prodP_ev B cs k, e3]
theorem numP_ev (B : Int) (rs : List Int) : ∀ k : Nat, pev (numP rs k) B = numN B rs k
  | 0 => by simp [numP, numN, pev]
  | k + 1 => by
    have e1 : numP rs (k + 1) = padd (numP rs k) ((ppow (-1) (4 - k) [1]).map (rs.getD k 0 * facL.getD k 0 * ·)) := by unfold numP; rw [List.range_succ, List.foldl_append]; rfl
    have e3 : B + (-1) = B - 1 := by omega
    have e4 : pev [1] B = 1 := by simp [pev]
    rw [e1, numN_succ, pev_add, pev_scale, pev_pow, numP_ev B rs k, e3, e4, Int.one_mul]
theorem dm_of {r b q : Int} (h0 : 0 ≤ r) (h1 : r < b) : (r + b * q).fdiv b = q ∧ (r + b * q).fmod b = r := by
  have hb : 0 < b := by omega
  rw [Int.fdiv_eq_ediv_of_nonneg _ (Int.le_of_lt hb), Int.fmod_eq_emod_of_nonneg _ (Int.le_of_lt hb), Int.add_mul_ediv_left _ _ (by omega), Int.add_mul_emod_self_left, Int.ediv_eq_zero_of_lt h0 h1, Int.emod_eq_of_lt h0 h1, Int.zero_add]
  exact ⟨rfl, rfl⟩
theorem rook_ev (B r0 r1 r2 r3 r4 : Int) : pev (rookP [r0, r1, r2, r3, r4]) B = r0 + (B - 0) * (r1 + (B - 1) * (r2 + (B - 2) * (r3 + (B - 3) * r4))) := by
  have e : ∀ x : Int, pev [x] B = x := fun x => by simp [pev]
  have e0 : B + 0 = B - 0 := by omega
  have e1 : B + (-1) = B - 1 := by omega
  have e2 : B + (-2) = B - 2 := by omega
  have e3 : B + (-3) = B - 3 := by omega
  show pev (padd [r0] (pmul 0 (padd [r1] (pmul (-1) (padd [r2] (pmul (-2) (padd [r3] (pmul (-3) [r4])))))))) B = _
  rw [pev_add, pev_mul, pev_add, pev_mul, pev_add, pev_mul, pev_add, pev_mul, e, e, e, e, e, e0, e1, e2, e3]
theorem hor {B r k x Y : Int} (hr : 0 ≤ r ∧ r < 200) (hB : 256 ≤ B) (hk0 : 0 ≤ k) (hk : k ≤ 3) (hx : 0 ≤ x) (hxY : x ≤ Y) (hY : 1 ≤ Y) : 0 ≤ r + (B - k) * x ∧ r + (B - k) * x < 2 * (B * Y) := by
  have h1 : 0 ≤ (B - k) * x := Int.mul_nonneg (by omega) hx
  have h2 : (B - k) * x ≤ B * Y := Int.mul_le_mul (by omega) hxY hx (by omega)
  have h3 : B * 1 ≤ B * Y := Int.mul_le_mul_of_nonneg_left hY (by omega)
  omega
/-- the product's quotients are the rooks' numbers, whatever the base -/
theorem f_rook {r : Rw} (h : r ∈ tbl) {n : Nat} (hn : 8 ≤ n) : rookN (2 ^ n) (prodN (2 ^ n) r.c r.c.length) = r.rs ∧ 0 ≤ prodN (2 ^ n) r.c r.c.length ∧ prodN (2 ^ n) r.c r.c.length < 2 ^ (4 * n + 4) := by
  have hB : (256 : Int) ≤ 2 ^ n := pow2_le (a := 8) hn
  have hpow : (2 : Int) ^ (4 * n + 4) = 2 * ((2 : Int) ^ n * (2 * (2 ^ n * (2 * (2 ^ n * (2 * (2 ^ n * 1))))))) := by
    have e : 4 * n + 4 = (n + 1) + ((n + 1) + ((n + 1) + (n + 1))) := by omega
    have s : (2 : Int) ^ (n + 1) = 2 ^ n * 2 := Int.pow_succ ..
    rw [e, Int.pow_add 2 (n + 1) ((n + 1) + ((n + 1) + (n + 1))), Int.pow_add 2 (n + 1) ((n + 1) + (n + 1)), Int.pow_add 2 (n + 1) (n + 1), s]
    generalize (2 : Int) ^ n = B
    grind
  rw [hpow]
  generalize (2 : Int) ^ n = B at hB
  have h3 := all_mem t_p h
  simp only [Bool.and_eq_true] at h3
  have e1 := of_decide_eq_true h3.1
  obtain ⟨d1, d2, d3, -, -⟩ := f_d h
  match hrs : r.rs, d1 with
  | [r0, r1, r2, r3, r4], _ =>
    rw [hrs] at e1 d2 d3
    have d3 : r4 = 1 := d3
    subst d3
    have e2 : prodN B r.c r.c.length = r0 + (B - 0) * (r1 + (B - 1) * (r2 + (B - 2) * (r3 + (B - 3) * 1))) := by rw [← prodP_ev, e1, rook_ev]
    have b0 := d2 r0 (by simp)
    have b1 := d2 r1 (by simp)
    have b2 := d2 r2 (by simp)
    have b3 := d2 r3 (by simp)
    have k3 := hor (k := 3) (x := 1) (Y := 1) b3 hB (by decide) (by decide) (by decide) (by decide) (by decide)
    have k2 := hor (k := 2) (Y := 2 * (B * 1)) b2 hB (by decide) (by decide) k3.1 (Int.le_of_lt k3.2) (by omega)
    have k1 := hor (k := 1) (Y := 2 * (B * (2 * (B * 1)))) b1 hB (by decide) (by decide) k2.1 (Int.le_of_lt k2.2) (by omega)
    have k0 := hor (k := 0) (Y := 2 * (B * (2 * (B * (2 * (B * 1)))))) b0 hB (by decide) (by decide) k1.1 (Int.le_of_lt k1.2) (by omega)
    refine ⟨?_, by rw [e2]; exact k0.1, by rw [e2]; exact k0.2⟩
    rw [e2]
    have m0 := dm_of (r := r0) (b := B - 0) (q := r1 + (B - 1) * (r2 + (B - 2) * (r3 + (B - 3) * 1))) b0.1 (by omega)
    have m1 := dm_of (r := r1) (b := B - 1) (q := r2 + (B - 2) * (r3 + (B - 3) * 1)) b1.1 (by omega)
    have m2 := dm_of (r := r2) (b := B - 2) (q := r3 + (B - 3) * 1) b2.1 (by omega)
    have m3 := dm_of (r := r3) (b := B - 3) (q := 1) b3.1 (by omega)
    generalize hP : r0 + (B - 0) * (r1 + (B - 1) * (r2 + (B - 2) * (r3 + (B - 3) * 1))) = P at m0
    have q0 : quoN B P 0 = P := rfl
    have q1 : quoN B P 1 = r1 + (B - 1) * (r2 + (B - 2) * (r3 + (B - 3) * 1)) := m0.1
    have q2 : quoN B P 2 = r2 + (B - 2) * (r3 + (B - 3) * 1) := by
      show (quoN B P 1).fdiv (B - 1) = _
      rw [q1]; exact m1.1
    have q3 : quoN B P 3 = r3 + (B - 3) * 1 := by
      show (quoN B P 2).fdiv (B - 2) = _
      rw [q2]; exact m2.1
    have q4 : quoN B P 4 = 1 := by
      show (quoN B P 3).fdiv (B - 3) = _
      rw [q3]; exact m3.1
    show [(quoN B P 0).fmod (B - 0), (quoN B P 1).fmod (B - 1), (quoN B P 2).fmod (B - 2), (quoN B P 3).fmod (B - 3), quoN B P 4] = _
    rw [q0, q1, q2, q3, q4, m0.2, m1.2, m2.2, m3.2]
/-- the number's digits are the figures -/
theorem f_num {r : Rw} (h : r ∈ tbl) {W : Int} (hW : 8 ≤ W) :
    0 ≤ numN (2 ^ W.toNat) r.rs 5 ∧ Builtin.Int.intBits (numN (2 ^ W.toNat) r.rs 5) ≤ 5 * W.toNat ∧
    (∀ ns : List Int, (ns.length : Int) = ((Builtin.Int.intBits (numN (2 ^ W.toNat) r.rs 5) : Int) + W - 1).fdiv W → (∀ i : Nat, i < ns.length → ns.getD i 0 = dig W (numN (2 ^ W.toNat) r.rs 5) (i : Int)) → ns = figN r.R) ∧
    (-(numN (2 ^ W.toNat) r.rs 5)).fdiv (2 ^ W.toNat - 1) = (24 - numN (2 ^ W.toNat) r.rs 5).fdiv (2 ^ W.toNat - 1) - 1 ∧ (-(numN (2 ^ W.toNat) r.rs 5)).fmod (2 ^ W.toNat - 1) = 2 ^ W.toNat - 25 := by
  have hB : (256 : Int) ≤ 2 ^ W.toNat := pow2_le (a := 8) (by omega)
  rw [f_fig h]
  obtain ⟨-, e1, e2, e3, e4, e5, e6⟩ := f_e h
  have h3 := all_mem t_p h
  simp only [Bool.and_eq_true] at h3
  have e7 := of_decide_eq_true h3.2
  have hN : numN (2 ^ W.toNat) r.rs 5 = und W (stripZ r.cn) := by
    rw [und_pev, ← numP_ev, e7]
    conv => lhs; rw [e1]
    rw [pev_zeros]
  rw [hN]
  generalize stripZ r.cn = l at *
  generalize hx : l.getD (l.length - 1) 0 = x at e4 e5
  generalize hi : l.dropLast = i at e4
  have hlen : l.length = i.length + 1 := by rw [e4, List.length_append]; rfl
  have hd : ∀ y ∈ l, 0 ≤ y ∧ y < 2 ^ W.toNat := fun y hy => ⟨(e2 y hy).1, by have := (e2 y hy).2; omega⟩
  have hd' : ∀ y ∈ i ++ [x], 0 ≤ y ∧ y < 2 ^ W.toNat := by rw [← e4]; exact hd
  have hb := bits_len (n := W) (by omega) hd' e5
  rw [← e4] at hb
  obtain ⟨K, hK⟩ := pev_one (2 ^ W.toNat) l
  rw [e3, ← und_pev] at hK
  have hdm := dm_one hB hK
  refine ⟨hb.2.2, ?_, ?_, hdm.1, hdm.2⟩
  · refine Nat.le_trans hb.2.1 ?_
    rw [Nat.mul_comm]
    exact Nat.mul_le_mul_right _ (by omega)
  · intro ns hl hg
    rw [hb.1] at hl
    have hl2 : ns.length = l.length := by omega
    refine und_inj hl2 ?_ hd ?_
    · intro y hy
      obtain ⟨j, hj, e⟩ := List.mem_iff_getElem.mp hy
      have := hg j hj
      rw [List.getD_eq_getElem?_getD, List.getElem?_eq_getElem hj, Option.getD_some, e] at this
      rw [this]; exact dig_bound _ _ _
    · refine und_digs (by omega) ns _ (und_bound hd).1 ?_ hg
      rw [hl2]; exact (und_bound hd).2
theorem f_rim {r : Rw} (h : r ∈ tbl) : (∀ i : Nat, i < 4 → 0 ≤ r.R.getD i 0 - ([0] ++ r.R).getD i 0 ∧ r.R.getD i 0 - ([0] ++ r.R).getD i 0 ≤ 4) ∧ (0 ≤ r.R.getD 3 0 ∧ r.R.getD 3 0 ≤ 4) ∧ (∀ i ≤ 4, (rimP r.R i).length ≤ 20) ∧ (∀ c ∈ rimL r.R, c = 32 ∨ c = 9) ∧ (rimL r.R).length = 8 := by
  have h3 := all_mem t_rim h
  simp only [Bool.and_eq_true] at h3
  obtain ⟨⟨⟨⟨⟨h1, h2⟩, h4⟩, h5⟩, h6⟩, h7⟩ := h3
  refine ⟨fun i hi => ?_, ⟨of_decide_eq_true h2, of_decide_eq_true h4⟩, fun i hi => ?_, fun c hc => ?_, of_decide_eq_true h7⟩
  · have h9 := all_mem h1 (x := i) (by have : i = 0 ∨ i = 1 ∨ i = 2 ∨ i = 3 := lt_four i (by omega)
                                       rcases this with rfl | rfl | rfl | rfl <;> decide)
    rw [Bool.and_eq_true] at h9
    exact ⟨of_decide_eq_true h9.1, of_decide_eq_true h9.2⟩
  · have h9 := all_mem h5 (x := i) (by have : i = 0 ∨ i = 1 ∨ i = 2 ∨ i = 3 ∨ i = 4 := lt_five i (by omega)
                                       rcases this with rfl | rfl | rfl | rfl | rfl <;> decide)
    exact of_decide_eq_true h9
  · have h9 := all_mem h6 hc
    rw [Bool.or_eq_true] at h9
    exact h9.imp of_decide_eq_true of_decide_eq_true
theorem f_few {r : Rw} (h : r ∈ tbl) : (∀ M, M ∈ linesF (rimL r.R) → (∀ a ∈ linesF (rimL r.R), M ≤ a) → M = fewN (linesF (rimL r.R))) ∧ 0 < (placesN (linesF (rimL r.R)) (fewN (linesF (rimL r.R))) 9).length := by
  have h3 := all_mem t_few h
  rw [Bool.and_eq_true] at h3
  refine ⟨fun M hM ha => ?_, of_decide_eq_true h3.2⟩
  have h4 := all_mem h3.1 hM
  rw [Bool.or_eq_true] at h4
  rcases h4 with h5 | h5
  · have h6 : ((linesF (rimL r.R)).all fun a => decide (M ≤ a)) = true := List.all_eq_true.mpr fun a h => decide_eq_true (ha a h)
    rw [h6] at h5; exact absurd h5 (by decide)
  · exact of_decide_eq_true h5
theorem f_most {r : Rw} (h : r ∈ tbl) : 0 ≤ (placesN (linesF (rimL r.R)) (fewN (linesF (rimL r.R))) 9).getD 0 0 ∧ (placesN (linesF (rimL r.R)) (fewN (linesF (rimL r.R))) 9).getD 0 0 ≤ 8 ∧ mostN r.rs = (linesF (rimL r.R)).getD ((placesN (linesF (rimL r.R)) (fewN (linesF (rimL r.R))) 9).getD 0 0).toNat 0 := by
  have h3 := all_mem t_most h
  simp only [Bool.and_eq_true] at h3
  exact ⟨of_decide_eq_true h3.1.1, of_decide_eq_true h3.1.2, of_decide_eq_true h3.2⟩

end

section
theorem rst_Lev1 : True := by w_top off; trivial
theorem lev1 {w : World} {p : Program} {loose : List Str} {mean : ExcName → Option Value} {mg mb : Str → Option Value} {dp un : Nat} {gd : Option (List Code)} {cn : Str} {cs : Scope} {L0 ad : Addr} {ccd : Value} {cl : List (Str × Addr)} {outer : List Env} {g base : Heap} {L : Addr} {s : Shared} {m : Str → Option Value} {Q : Flow → Shared → Prop} {E : Value → Shared → Prop} {news : Led} {x y : Str} {ta tb t : Tok} {mc : Int} {la lb : List Nat}
    (hx : x.cps.toList = la) (hy : y.cps.toList = lb) (hla : la.length = 8) (hlb : lb.length = 8) (X : (Mine.hd.heap_1 w.params).In g)
    (hm : ∀ p ∈ [(Str.ofString "a", Value.str x ta), (Str.ofString "b", Value.str y tb), (Str.ofString "max_cost", Value.int mc t)], m p.1 = some p.2) (F : Fr g L s.heap m) (N : News g L s.heap news)
    (hret : la = lb → ∀ tr h' tk' m', Fr g L h' m' → News g L h' news → Q (.ret (.int 0 tr)) { s with heap := h', toks := tk' })
    (hnext : ∀ (k : Nat) (ta' tb' : Tok) (x' y' : Str) (m' : Str → Option Value) (h' : Heap) (tk' : Nat), k < 8 → la.take k = lb.take k → la.getD k 0 ≠ lb.getD k 0 → x'.cps.toList = la.drop k → y'.cps.toList = lb.drop k →
      (∀ p ∈ [(Str.ofString "a", Value.str x' ta'), (Str.ofString "b", Value.str y' tb'), (Str.ofString "max_cost", Value.int mc t)], m' p.1 = some p.2) → Fr g L h' m' → News g L h' news → LevAt w (ktrTop dp un gd cn cs L0 ad ccd cl outer) L 5 Q E { s with heap := h', toks := tk' }) :
    LevAt w (ktrTop dp un gd cn cs L0 ad ccd cl outer) L 0 Q E s := by
  have hS0 : StopAt (Str.ofString "post") := trivial
  have F1 := fr_ps _ hm F
  clear F hm
  have hxl : (x.length : Int) = 8 := by rw [str_len hx, hla]; rfl
  have hyl : (y.length : Int) = 8 := by rw [str_len hy, hlb]; rfl
  have lX := le_mil ((str_len hx).trans hla) (Nat.le_refl 8)
  have lY := le_mil ((str_len hy).trans hlb) (Nat.le_refl 8)
  refine' lev_start ?e1 ?e2 ?_
  case e1 => exact rfl
  case e2 => exact rfl
  intro ek
  dsimp only [kstB] at F1
  (repeat' (first | (k_unfold; (try dsimp only)) | (k_end; wrow_close) | ((fail_if_success with_reducible (first | refine KswEnd_stop ?_ | refine call_stop ?_ | refine pyIter_stop ?_ | refine while_stop ?_ | refine for_stop ?_ | refine def_stop ?_ | refine CompSrcT_stop ?_ | refine CompSrc_stop ?_ | refine lca_stop ?_ | refine lce_stop ?_ | refine dsp_stop ?_ | refine lam_stop ?_ | refine cmp_stop ?_ | (refine stopAt ?_ ?_; assumption))); first | ((fail_if_success (fail_if_success (with_reducible refine st_guard ?_))); refine' store_L ?_ ?_ ?_ ?_ ?_ ?_ ?_; rotate_left 5; (first | dsimp only | rfl); (first | dsimp only | rfl); k_asm; k_asm; rfl; rfl; intro _ _ _; k_sweep) | ((with_reducible refine' sit ?_ ?_ ?_ ?_ ?_ ?_ ?_); rotate_left; (first | with_reducible assumption | omega | assumption); (first | with_reducible assumption | omega | assumption); (first | with_reducible assumption | omega | assumption); with_reducible assumption; with_unfolding_all rfl; kmk_pure) | ((with_reducible refine' struth ?_ ?_ ?_); (first | with_reducible assumption | (apply_assumption; omega)); (first | with_reducible assumption | (apply_assumption; omega))) | ((with_reducible refine' ssn ?_ ?_ ?_ ?_ ?_ ?_ ?_ ?_); rotate_left 7; rfl; rfl; k_asm; k_asm; (first | with_reducible assumption | omega | assumption); with_unfolding_all rfl; kmk_pure; intro _ _ _ _ _; k_sweep) | walk1 | (dsimp only; first | ((fail_if_success (fail_if_success (with_reducible refine st_guard ?_))); refine' store_L ?_ ?_ ?_ ?_ ?_ ?_ ?_; rotate_left 5; (first | dsimp only | rfl); (first | dsimp only | rfl); k_asm; k_asm; rfl; rfl; intro _ _ _; k_sweep) | ((with_reducible refine' sit ?_ ?_ ?_ ?_ ?_ ?_ ?_); rotate_left; (first | with_reducible assumption | omega | assumption); (first | with_reducible assumption | omega | assumption); (first | with_reducible assumption | omega | assumption); with_reducible assumption; with_unfolding_all rfl; kmk_pure) | ((with_reducible refine' struth ?_ ?_ ?_); (first | with_reducible assumption | (apply_assumption; omega)); (first | with_reducible assumption | (apply_assumption; omega))) | ((with_reducible refine' ssn ?_ ?_ ?_ ?_ ?_ ?_ ?_ ?_); rotate_left 7; rfl; rfl; k_asm; k_asm; (first | with_reducible assumption | omega | assumption); with_unfolding_all rfl; kmk_pure; intro _ _ _ _ _; k_sweep) | walk1) | (leave1; try dsimp only))))
  · have e : x = y := by have h : (x == y) = true := by assumption
                         exact eq_of_beq h
    refine hret (by rw [← hx, ← hy, e]) _ _ _ _ (by k_asm) (by k_asm)
  have hne : la ≠ lb := by
    intro e
    have h1 : x = y := by
      cases x; cases y
      congr 1
      exact Array.toList_inj.mp (hx.trans (e.trans hy.symm))
    have h2 : (x == y) = false := by assumption
    rw [h1] at h2; simp at h2
  refine' ksw_while (σ := Int × Tok) (fun _ => news) (fun c => [(Str.ofString "pre", .int c.1 c.2)]) (fun _ => True) [] (fun c => 0 ≤ c.1 ∧ c.1 < 8 ∧ la.take c.1.toNat = lb.take c.1.toNat) (fun c => (8 - c.1).toNat) (0, _) ?F ?N trivial ?hk ?hp ?_
  case F => k_asm
  case N => k_asm
  case hk => kst_all
  case hp => exact ⟨Int.le_refl 0, by dsimp only; decide, rfl⟩
  rintro ⟨q, tp⟩ u h tk - hPP F'' N''
  refine and3 hPP ?_
  clear hPP
  intro P0 P1 P2
  dsimp only [kstB] at F''
  dsimp only at P0 P1 P2
  obtain ⟨k, rfl⟩ := Int.eq_ofNat_of_zero_le P0
  have k8 : k < 8 := lt8 P1
  have kA : (k : Int) < la.length := by rw [hla]; exact P1
  have kB : (k : Int) < lb.length := by rw [hlb]; exact P1
  have kr := rng_mil k8
  have kX : (k : Int) < x.length := by rw [hxl]; exact P1
  have kY : (k : Int) < y.length := by rw [hyl]; exact P1
  have nX := neg_le_nat x.length k
  have nY := neg_le_nat y.length k
  have ek : ((k : Int)).toNat = k := Int.toNat_natCast k
  rw [ek] at P2
  have ia := it_at hx P0 kA
  have ib := it_at hy P0 kB
  rw [ek] at ia ib
  have dA := stl_from hx P0 (Int.le_of_lt kA)
  have dB := stl_from hy P0 (Int.le_of_lt kB)
  rw [ek] at dA dB
  have sA : 0 < (Txt.slice x (some (k : Int)) none).length := by rw [str_len dA, List.length_drop, hla]; exact Nat.sub_pos_of_lt k8
  have sA2 : (Txt.slice x (some (k : Int)) none).length ≤ 1000 := by rw [str_len dA, List.length_drop, hla]; exact Nat.le_trans (Nat.sub_le _ _) (by decide)
  have sB : 0 < (Txt.slice y (some (k : Int)) none).length := by rw [str_len dB, List.length_drop, hlb]; exact Nat.sub_pos_of_lt k8
  have sB2 : (Txt.slice y (some (k : Int)) none).length ≤ 1000 := by rw [str_len dB, List.length_drop, hlb]; exact Nat.le_trans (Nat.sub_le _ _) (by decide)
  have hend : ∀ b : Bool, (({ cps := #[la.getD k 0] } : Str) == { cps := #[lb.getD k 0] }) = b → (la.getD k 0 = lb.getD k 0 ↔ b = true) := by
    intro b hb
    subst hb
    rw [beq_iff_eq]
    exact ⟨fun e => by rw [e], fun e => by injection e with e; injection e with e; injection e⟩
  (repeat' (first | (k_unfold; (try dsimp only)) | (k_end; wrow_close) | ((fail_if_success with_reducible (first | refine KswEnd_stop ?_ | refine call_stop ?_ | refine pyIter_stop ?_ | refine while_stop ?_ | refine for_stop ?_ | refine def_stop ?_ | refine CompSrcT_stop ?_ | refine CompSrc_stop ?_ | refine lca_stop ?_ | refine lce_stop ?_ | refine dsp_stop ?_ | refine lam_stop ?_ | refine cmp_stop ?_ | (refine stopAt ?_ ?_; assumption))); first | ((fail_if_success (fail_if_success (with_reducible refine st_guard ?_))); refine' store_L ?_ ?_ ?_ ?_ ?_ ?_ ?_; rotate_left 5; (first | dsimp only | rfl); (first | dsimp only | rfl); k_asm; k_asm; rfl; rfl; intro _ _ _; k_sweep) | ((with_reducible refine' sit ?_ ?_ ?_ ?_ ?_ ?_ ?_); rotate_left; (first | with_reducible assumption | omega | assumption); (first | with_reducible assumption | omega | assumption); (first | with_reducible assumption | omega | assumption); with_reducible assumption; with_unfolding_all rfl; kmk_pure) | ((with_reducible refine' struth ?_ ?_ ?_); (first | with_reducible assumption | (apply_assumption; omega)); (first | with_reducible assumption | (apply_assumption; omega))) | ((with_reducible refine' ssn ?_ ?_ ?_ ?_ ?_ ?_ ?_ ?_); rotate_left 7; rfl; rfl; k_asm; k_asm; (first | with_reducible assumption | omega | assumption); with_unfolding_all rfl; kmk_pure; intro _ _ _ _ _; k_sweep) | walk1 | (dsimp only; first | ((fail_if_success (fail_if_success (with_reducible refine st_guard ?_))); refine' store_L ?_ ?_ ?_ ?_ ?_ ?_ ?_; rotate_left 5; (first | dsimp only | rfl); (first | dsimp only | rfl); k_asm; k_asm; rfl; rfl; intro _ _ _; k_sweep) | ((with_reducible refine' sit ?_ ?_ ?_ ?_ ?_ ?_ ?_); rotate_left; (first | with_reducible assumption | omega | assumption); (first | with_reducible assumption | omega | assumption); (first | with_reducible assumption | omega | assumption); with_reducible assumption; with_unfolding_all rfl; kmk_pure) | ((with_reducible refine' struth ?_ ?_ ?_); (first | with_reducible assumption | (apply_assumption; omega)); (first | with_reducible assumption | (apply_assumption; omega))) | ((with_reducible refine' ssn ?_ ?_ ?_ ?_ ?_ ?_ ?_ ?_); rotate_left 7; rfl; rfl; k_asm; k_asm; (first | with_reducible assumption | omega | assumption); with_unfolding_all rfl; kmk_pure; intro _ _ _ _ _; k_sweep) | walk1) | (leave1; try dsimp only))))
  · have hq := (hend true (by assumption)).mpr rfl
    have e4 : ∀ l : List Nat, l.length = 8 → l.take (k + 1) = l.take k ++ [l.getD k 0] := fun l hl => by
      have hkl : k < l.length := by rw [hl]; exact k8
      rw [List.take_succ_eq_append_getElem hkl]
      congr 1
      rw [List.getD_eq_getElem?_getD, List.getElem?_eq_getElem hkl, Option.getD_some]
    have e5 : la.take (k + 1) = lb.take (k + 1) := by rw [e4 la hla, e4 lb hlb, hq, P2]
    have hk1 : k + 1 < 8 := by
      refine Nat.lt_of_le_of_ne k8 fun e => hne ?_
      rw [e, List.take_of_length_le (Nat.le_of_eq hla), List.take_of_length_le (Nat.le_of_eq hlb)] at e5
      exact e5
    refine ksw_end ((k : Int) + 1, _) (by k_asm) (by k_asm) (fun p h => h) trivial (by kst_all) (by ksw_same) ⟨Int.add_nonneg P0 (by decide), up8 hk1, ?_⟩ (meas8 k8)
    exact e5
  · have hq : la.getD k 0 ≠ lb.getD k 0 := fun e => by have := (hend false (by assumption)).mp e; cases this
    rename News _ _ _ _ => N7
    rename Fr _ _ _ _ => F7
    refine' hnext k _ _ _ _ _ _ _ k8 P2 hq dA dB ?hps F7 N7
    case hps => kst_all1

end
section
theorem rst_Lev2 : True := by w_top off; trivial
theorem nn_toNat (k : Nat) : (-(-(k : Int))).toNat = k := by rw [Int.neg_neg, Int.toNat_natCast]
theorem nx_cast (k : Nat) : -(-(k : Int) - 1) = ((k + 1 : Nat) : Int) := by omega
theorem n_sub_nx (n k : Nat) : n - (-(-(k : Int) - 1)).toNat = n - k - 1 := by rw [nx_cast, Int.toNat_natCast, Nat.sub_add_eq]
theorem at_cast (l k : Nat) : (l : Int) + (-(k : Int) - 1) = (l : Int) - ((k + 1 : Nat) : Int) := by omega
theorem at_neg {l n : Nat} (k : Nat) (hl : l = n) (h : k < n) : ((l : Int) + (-(k : Int) - 1)).toNat = n - k - 1 := by subst hl; rw [at_cast, Int.toNat_sub, Nat.sub_add_eq]
theorem neg_pos {q : Int} (h : q ≤ 0) : q = -((-q).toNat : Int) := by omega
theorem lt_neg {n k : Nat} (h : -(-(k : Int)) < n) : k < n := by omega
theorem neg_lo {l n : Nat} {k : Nat} (hl : l = n) (h : k < n) : -(l : Int) ≤ -(k : Int) - 1 := by omega
theorem neg_lo' {l n : Int} {k : Nat} (hl : l = n) (h : (k : Int) < n) : -l ≤ -(k : Int) - 1 := by omega
theorem neg_sm {k : Nat} (h : 0 < k) : -(k : Int) < 0 := by omega
theorem neg_ge {l n k : Nat} (hl : l = n) (h : k < n) : -(l : Int) ≤ -(k : Int) := by omega
theorem neg_lt (k : Nat) : -(k : Int) - 1 < 0 := by omega
theorem neg_le (k : Nat) : -(k : Int) - 1 ≤ 0 := by omega
theorem neg_lt' {l n : Int} (k : Nat) (hl : l = n) (hn : 0 < n) : -(k : Int) - 1 < l := by omega
theorem neg_ok {n k : Nat} (h : k < n) (h8 : n ≤ 8) : -1000 ≤ -(k : Int) - 1 ∧ -(k : Int) - 1 ≤ 1000 := by omega
theorem mu_neg {n k : Nat} (h : k < n) : ((n : Int) + (-(k : Int) - 1)).toNat < ((n : Int) + -(k : Int)).toNat := by
  rw [at_cast, Int.toNat_sub, ← Int.sub_eq_add_neg, Int.toNat_sub, Nat.sub_add_eq]
  exact Nat.sub_lt (Nat.sub_pos_of_lt h) (by decide)
theorem neg_nx {n k : Nat} (h : k + 1 < n) : -(-(k : Int) - 1) < n := by omega
theorem lev2_tail {la lb : List Nat} {n k : Nat} (hla : la.length = n) (hlb : lb.length = n) (hk : k < n) (h0 : la.getD 0 0 ≠ lb.getD 0 0) (P2 : la.drop (n - k) = lb.drop (n - k)) (hq : la.getD (n - k - 1) 0 = lb.getD (n - k - 1) 0) :
    k + 1 < n ∧ la.drop (n - (-(-(k : Int) - 1)).toNat) = lb.drop (n - (-(-(k : Int) - 1)).toNat) := by
  have hk1 : k + 1 < n := by
    refine Nat.lt_of_le_of_ne hk fun e => h0 ?_
    have e2 : n - k - 1 = 0 := by clear P2 hq; omega
    rw [e2] at hq; exact hq
  refine ⟨hk1, ?_⟩
  rw [n_sub_nx]
  have e4 : ∀ l : List Nat, l.length = n → l.drop (n - k - 1) = l.getD (n - k - 1) 0 :: l.drop (n - k) := fun l hl => by
    rw [List.drop_eq_getElem_cons (by omega)]
    congr 1
    · rw [List.getD_eq_getElem?_getD, List.getElem?_eq_getElem (by omega), Option.getD_some]
    · congr 1; exact Nat.sub_add_cancel (Nat.sub_pos_of_lt hk)
  rw [e4 la hla, e4 lb hlb, hq, P2]
theorem cut_len {l n k : Nat} (hl : l = n) (hn : 0 < n) (hk : 0 < k) (h : k < n) : 0 < min (l - (-(-(k : Int))).toNat) l := by subst hl; rw [nn_toNat]; exact Nat.lt_min.mpr ⟨Nat.sub_pos_of_lt h, hn⟩
theorem cut_small {l n k : Nat} (hl : l = n) (h8 : n ≤ 8) : min (l - (-(-(k : Int))).toNat) l ≤ 1000 := Nat.le_trans (Nat.min_le_right _ _) (by subst hl; exact Nat.le_trans h8 (by decide))
theorem lev2 {w : World} {p : Program} {loose : List Str} {mean : ExcName → Option Value} {mg mb : Str → Option Value} {dp un : Nat} {gd : Option (List Code)} {cn : Str} {cs : Scope} {L0 ad : Addr} {ccd : Value} {cl : List (Str × Addr)} {outer : List Env} {g base : Heap} {L : Addr} {s : Shared} {m : Str → Option Value} {Q : Flow → Shared → Prop} {E : Value → Shared → Prop} {news : Led} {x y : Str} {ta tb t : Tok} {mc : Int} {la lb : List Nat} {n : Nat}
    (hx : x.cps.toList = la) (hy : y.cps.toList = lb) (hla : la.length = n) (hlb : lb.length = n) (hn0 : 0 < n) (hn8 : n ≤ 8) (h0 : la.getD 0 0 ≠ lb.getD 0 0)
    (hm : ∀ p ∈ [(Str.ofString "a", Value.str x ta), (Str.ofString "b", Value.str y tb), (Str.ofString "max_cost", Value.int mc t)], m p.1 = some p.2) (F : Fr g L s.heap m) (N : News g L s.heap news)
    (hnext : ∀ (k : Nat) (tp : Tok) (m' : Str → Option Value) (h' : Heap) (tk' : Nat), k < n → la.drop (n - k) = lb.drop (n - k) → la.getD (n - k - 1) 0 ≠ lb.getD (n - k - 1) 0 →
      (∀ p ∈ [(Str.ofString "post", Value.int (-(k : Int)) tp), (Str.ofString "a", Value.str x ta), (Str.ofString "b", Value.str y tb), (Str.ofString "max_cost", Value.int mc t)], m' p.1 = some p.2) → Fr g L h' m' → News g L h' news → LevAt w (ktrTop dp un gd cn cs L0 ad ccd cl outer) L 7 Q E { s with heap := h', toks := tk' }) :
    LevAt w (ktrTop dp un gd cn cs L0 ad ccd cl outer) L 5 Q E s := by
  have hS0 : StopAt (Str.ofString "a") := trivial
  have F1 := fr_ps _ hm F
  clear F hm
  have hxl : (x.length : Int) = n := by rw [str_len hx, hla]
  have hyl : (y.length : Int) = n := by rw [str_len hy, hlb]
  refine' lev_start ?e1 ?e2 ?_
  case e1 => exact rfl
  case e2 => exact rfl
  intro ek
  dsimp only [kstB] at F1
  (repeat' (first | (k_unfold; (try dsimp only)) | (k_end; wrow_close) | ((fail_if_success with_reducible (first | refine KswEnd_stop ?_ | refine call_stop ?_ | refine pyIter_stop ?_ | refine while_stop ?_ | refine for_stop ?_ | refine def_stop ?_ | refine CompSrcT_stop ?_ | refine CompSrc_stop ?_ | refine lca_stop ?_ | refine lce_stop ?_ | refine dsp_stop ?_ | refine lam_stop ?_ | refine cmp_stop ?_ | (refine stopAt ?_ ?_; assumption))); first | ((fail_if_success (fail_if_success (with_reducible refine st_guard ?_))); refine' store_L ?_ ?_ ?_ ?_ ?_ ?_ ?_; rotate_left 5; (first | dsimp only | rfl); (first | dsimp only | rfl); k_asm; k_asm; rfl; rfl; intro _ _ _; k_sweep) | ((with_reducible refine' snn ?_ ?_ ?_ ?_ ?_ ?_ ?_ ?_); rotate_left 5; rfl; rfl; k_asm; k_asm; (first | with_reducible assumption | omega | assumption); with_unfolding_all rfl; kmk_pure; intro _ _ _ _ _; k_sweep) | ((with_reducible refine' sit ?_ ?_ ?_ ?_ ?_ ?_ ?_); rotate_left; (first | with_reducible assumption | omega | assumption); (first | with_reducible assumption | omega | assumption); (first | with_reducible assumption | omega | assumption); with_reducible assumption; with_unfolding_all rfl; kmk_pure) | ((with_reducible refine' struth ?_ ?_ ?_); (first | with_reducible assumption | (apply_assumption; omega)); (first | with_reducible assumption | (apply_assumption; omega))) | ((with_reducible refine' sns ?_ ?_ ?_ ?_ ?_ ?_ ?_ ?_); rotate_left 7; rfl; rfl; k_asm; k_asm; (first | with_reducible assumption | omega | assumption); with_unfolding_all rfl; kmk_pure; intro _ _ _ _ _; k_sweep) | walk1 | (dsimp only; first | ((fail_if_success (fail_if_success (with_reducible refine st_guard ?_))); refine' store_L ?_ ?_ ?_ ?_ ?_ ?_ ?_; rotate_left 5; (first | dsimp only | rfl); (first | dsimp only | rfl); k_asm; k_asm; rfl; rfl; intro _ _ _; k_sweep) | ((with_reducible refine' snn ?_ ?_ ?_ ?_ ?_ ?_ ?_ ?_); rotate_left 5; rfl; rfl; k_asm; k_asm; (first | with_reducible assumption | omega | assumption); with_unfolding_all rfl; kmk_pure; intro _ _ _ _ _; k_sweep) | ((with_reducible refine' sit ?_ ?_ ?_ ?_ ?_ ?_ ?_); rotate_left; (first | with_reducible assumption | omega | assumption); (first | with_reducible assumption | omega | assumption); (first | with_reducible assumption | omega | assumption); with_reducible assumption; with_unfolding_all rfl; kmk_pure) | ((with_reducible refine' struth ?_ ?_ ?_); (first | with_reducible assumption | (apply_assumption; omega)); (first | with_reducible assumption | (apply_assumption; omega))) | ((with_reducible refine' sns ?_ ?_ ?_ ?_ ?_ ?_ ?_ ?_); rotate_left 7; rfl; rfl; k_asm; k_asm; (first | with_reducible assumption | omega | assumption); with_unfolding_all rfl; kmk_pure; intro _ _ _ _ _; k_sweep) | walk1) | (leave1; try dsimp only))))
  refine' ksw_while (σ := Int × Tok) (fun _ => news) (fun c => [(Str.ofString "post", .int c.1 c.2)]) (fun _ => True) [] (fun c => c.1 ≤ 0 ∧ -c.1 < n ∧ la.drop (n - (-c.1).toNat) = lb.drop (n - (-c.1).toNat)) (fun c => (n + c.1).toNat) (0, _) ?F ?N trivial ?hk ?hp ?_
  case F => k_asm
  case N => k_asm
  case hk => kst_all
  case hp => exact ⟨Int.le_refl 0, by dsimp only; omega, by dsimp only; rw [List.drop_of_length_le (by omega), List.drop_of_length_le (by omega)]⟩
  rintro ⟨q, tp⟩ u h tk - hPP F'' N''
  refine and3 hPP ?_
  clear hPP
  intro P0 P1 P2
  dsimp only [kstB] at F''
  dsimp only at P0 P1 P2
  obtain ⟨k, rfl⟩ : ∃ k : Nat, q = -(k : Int) := ⟨(-q).toNat, neg_pos P0⟩
  have hkn : k < n := lt_neg P1
  have ek := nn_toNat k
  rw [ek] at P2
  have ia := it_neg hx (i := -(k : Int) - 1) (neg_lt k) (neg_lo hla hkn)
  have ib := it_neg hy (i := -(k : Int) - 1) (neg_lt k) (neg_lo hlb hkn)
  have sA : 0 < k → 0 < (Txt.slice x none (some (-(k : Int)))).length := fun hk => by
    rw [str_len (stl_to hx (j := -(k : Int)) (neg_sm hk) (neg_ge hla hkn)), List.length_take]; exact cut_len hla hn0 hk hkn
  have sA2 : 0 < k → (Txt.slice x none (some (-(k : Int)))).length ≤ 1000 := fun hk => by
    rw [str_len (stl_to hx (j := -(k : Int)) (neg_sm hk) (neg_ge hla hkn)), List.length_take]; exact cut_small hla hn8
  have sB : 0 < k → 0 < (Txt.slice y none (some (-(k : Int)))).length := fun hk => by
    rw [str_len (stl_to hy (j := -(k : Int)) (neg_sm hk) (neg_ge hlb hkn)), List.length_take]; exact cut_len hlb hn0 hk hkn
  have sB2 : 0 < k → (Txt.slice y none (some (-(k : Int)))).length ≤ 1000 := fun hk => by
    rw [str_len (stl_to hy (j := -(k : Int)) (neg_sm hk) (neg_ge hlb hkn)), List.length_take]; exact cut_small hlb hn8
  have sA0 : 0 < (Txt.slice x none none).length := by rw [str_len (stl_all hx), hla]; exact hn0
  have sB0 : 0 < (Txt.slice y none none).length := by rw [str_len (stl_all hy), hlb]; exact hn0
  have sA1 : (Txt.slice x none none).length ≤ 1000 := by rw [str_len (stl_all hx), hla]; exact Nat.le_trans hn8 (by decide)
  have sB1 : (Txt.slice y none none).length ≤ 1000 := by rw [str_len (stl_all hy), hlb]; exact Nat.le_trans hn8 (by decide)
  rw [at_neg k hla hkn] at ia
  rw [at_neg k hlb hkn] at ib
  have hend : ∀ b : Bool, (({ cps := #[la.getD (n - k - 1) 0] } : Str) == { cps := #[lb.getD (n - k - 1) 0] }) = b → (la.getD (n - k - 1) 0 = lb.getD (n - k - 1) 0 ↔ b = true) := by
    intro b hb
    subst hb
    rw [beq_iff_eq]
    exact ⟨fun e => by rw [e], fun e => by injection e with e; injection e with e; injection e⟩
  have f1 := neg_ok hkn hn8
  have f2 := neg_lo' hxl (Int.ofNat_lt.mpr hkn)
  have f3 := neg_lo' hyl (Int.ofNat_lt.mpr hkn)
  have f4 := neg_lt' k hxl (Int.ofNat_lt.mpr hn0)
  have f5 := neg_lt' k hyl (Int.ofNat_lt.mpr hn0)
  have zx : x.length ≤ 1000 := by rw [str_len hx, hla]; exact Nat.le_trans hn8 (by decide)
  have zy : y.length ≤ 1000 := by rw [str_len hy, hlb]; exact Nat.le_trans hn8 (by decide)
  clear hxl hyl
  (repeat' (first | (k_unfold; (try dsimp only)) | (k_end; wrow_close) | ((fail_if_success with_reducible (first | refine KswEnd_stop ?_ | refine call_stop ?_ | refine pyIter_stop ?_ | refine while_stop ?_ | refine for_stop ?_ | refine def_stop ?_ | refine CompSrcT_stop ?_ | refine CompSrc_stop ?_ | refine lca_stop ?_ | refine lce_stop ?_ | refine dsp_stop ?_ | refine lam_stop ?_ | refine cmp_stop ?_ | (refine stopAt ?_ ?_; assumption))); first | ((fail_if_success (fail_if_success (with_reducible refine st_guard ?_))); refine' store_L ?_ ?_ ?_ ?_ ?_ ?_ ?_; rotate_left 5; (first | dsimp only | rfl); (first | dsimp only | rfl); k_asm; k_asm; rfl; rfl; intro _ _ _; k_sweep) | ((with_reducible refine' snn ?_ ?_ ?_ ?_ ?_ ?_ ?_ ?_); rotate_left 5; rfl; rfl; k_asm; k_asm; (first | with_reducible assumption | omega | assumption); with_unfolding_all rfl; kmk_pure; intro _ _ _ _ _; k_sweep) | ((with_reducible refine' sit ?_ ?_ ?_ ?_ ?_ ?_ ?_); rotate_left; (first | with_reducible assumption | omega | assumption); (first | with_reducible assumption | omega | assumption); (first | with_reducible assumption | omega | assumption); with_reducible assumption; with_unfolding_all rfl; kmk_pure) | ((with_reducible refine' struth ?_ ?_ ?_); (first | with_reducible assumption | (apply_assumption; omega)); (first | with_reducible assumption | (apply_assumption; omega))) | ((with_reducible refine' sns ?_ ?_ ?_ ?_ ?_ ?_ ?_ ?_); rotate_left 7; rfl; rfl; k_asm; k_asm; (first | with_reducible assumption | omega | assumption); with_unfolding_all rfl; kmk_pure; intro _ _ _ _ _; k_sweep) | walk1 | (dsimp only; first | ((fail_if_success (fail_if_success (with_reducible refine st_guard ?_))); refine' store_L ?_ ?_ ?_ ?_ ?_ ?_ ?_; rotate_left 5; (first | dsimp only | rfl); (first | dsimp only | rfl); k_asm; k_asm; rfl; rfl; intro _ _ _; k_sweep) | ((with_reducible refine' snn ?_ ?_ ?_ ?_ ?_ ?_ ?_ ?_); rotate_left 5; rfl; rfl; k_asm; k_asm; (first | with_reducible assumption | omega | assumption); with_unfolding_all rfl; kmk_pure; intro _ _ _ _ _; k_sweep) | ((with_reducible refine' sit ?_ ?_ ?_ ?_ ?_ ?_ ?_); rotate_left; (first | with_reducible assumption | omega | assumption); (first | with_reducible assumption | omega | assumption); (first | with_reducible assumption | omega | assumption); with_reducible assumption; with_unfolding_all rfl; kmk_pure) | ((with_reducible refine' struth ?_ ?_ ?_); (first | with_reducible assumption | (apply_assumption; omega)); (first | with_reducible assumption | (apply_assumption; omega))) | ((with_reducible refine' sns ?_ ?_ ?_ ?_ ?_ ?_ ?_ ?_); rotate_left 7; rfl; rfl; k_asm; k_asm; (first | with_reducible assumption | omega | assumption); with_unfolding_all rfl; kmk_pure; intro _ _ _ _ _; k_sweep) | walk1) | (leave1; try dsimp only))))
  all_goals first
    | (have hq := (hend true (by assumption)).mpr rfl
       obtain ⟨hk1, e3⟩ := lev2_tail hla hlb hkn h0 P2 hq
       refine ksw_end (-(k : Int) - 1, _) (by k_asm) (by k_asm) (fun p h => h) trivial (by kst_all) (by ksw_same) ⟨neg_le k, neg_nx hk1, e3⟩ (mu_neg hkn))
    | (have hq : la.getD (n - k - 1) 0 ≠ lb.getD (n - k - 1) 0 := fun e => by have := (hend false (by assumption)).mp e; cases this
       rename News _ _ _ _ => N7
       rename Fr _ _ _ _ => F7
       refine' hnext k _ _ _ _ hkn P2 hq ?hps F7 N7
       case hps => kst_all1)

end
section
theorem rst_Lev3 : True := by w_top off; trivial
theorem lev3 {w : World} {p : Program} {loose : List Str} {mean : ExcName → Option Value} {mg mb : Str → Option Value} {dp un : Nat} {gd : Option (List Code)} {cn : Str} {cs : Scope} {L0 ad : Addr} {ccd : Value} {cl : List (Str × Addr)} {outer : List Env} {g base : Heap} {L : Addr} {s : Shared} {m : Str → Option Value} {Q : Flow → Shared → Prop} {E : Value → Shared → Prop} {news : Led} {x y : Str} {ta tb t : Tok} {mc : Int} {la lb : List Nat} {n k : Nat} {tp : Tok}
    (hx : x.cps.toList = la) (hy : y.cps.toList = lb) (hla : la.length = n) (hlb : lb.length = n) (hn8 : n ≤ 8) (hk : k < n)
    (hm : ∀ p ∈ [(Str.ofString "post", Value.int (-(k : Int)) tp), (Str.ofString "a", Value.str x ta), (Str.ofString "b", Value.str y tb), (Str.ofString "max_cost", Value.int mc t)], m p.1 = some p.2) (F : Fr g L s.heap m) (N : News g L s.heap news)
    (hnext : ∀ (ta' tb' : Tok) (x' y' : Str) (m' : Str → Option Value) (h' : Heap) (tk' : Nat), x'.cps.toList = la.take (n - k) → y'.cps.toList = lb.take (n - k) →
      (∀ p ∈ [(Str.ofString "a", Value.str x' ta'), (Str.ofString "b", Value.str y' tb'), (Str.ofString "max_cost", Value.int mc t)], m' p.1 = some p.2) → Fr g L h' m' → News g L h' news → LevAt w (ktrTop dp un gd cn cs L0 ad ccd cl outer) L 9 Q E { s with heap := h', toks := tk' }) :
    LevAt w (ktrTop dp un gd cn cs L0 ad ccd cl outer) L 7 Q E s := by
  have hS0 : StopIf := trivial
  have F1 := fr_ps _ hm F
  clear F hm
  have hxl : (x.length : Int) = n := by rw [str_len hx, hla]
  have hyl : (y.length : Int) = n := by rw [str_len hy, hlb]
  refine' lev_start ?e1 ?e2 ?_
  case e1 => exact rfl
  case e2 => exact rfl
  intro ek
  dsimp only [kstB] at F1
  have sA : x.length ≤ 1000 := le_mil ((str_len hx).trans hla) hn8
  have sB : y.length ≤ 1000 := le_mil ((str_len hy).trans hlb) hn8
  have dA := stl_to hx (j := -(k : Int))
  have dB := stl_to hy (j := -(k : Int))
  (repeat' (first | (k_unfold; (try dsimp only)) | (k_end; wrow_close) | ((fail_if_success with_reducible (first | refine KswEnd_stop ?_ | refine call_stop ?_ | refine pyIter_stop ?_ | refine while_stop ?_ | refine for_stop ?_ | refine def_stop ?_ | refine CompSrcT_stop ?_ | refine CompSrc_stop ?_ | refine lca_stop ?_ | refine lce_stop ?_ | refine dsp_stop ?_ | refine lam_stop ?_ | refine cmp_stop ?_ | (refine stopIf ?_ ?_; assumption))); first | ((fail_if_success (fail_if_success (with_reducible refine st_guard ?_))); refine' store_L ?_ ?_ ?_ ?_ ?_ ?_ ?_; rotate_left 5; (first | dsimp only | rfl); (first | dsimp only | rfl); k_asm; k_asm; rfl; rfl; intro _ _ _; k_sweep) | ((with_reducible refine' snn ?_ ?_ ?_ ?_ ?_ ?_ ?_ ?_); rotate_left 5; rfl; rfl; k_asm; k_asm; (first | with_reducible assumption | omega | assumption); with_unfolding_all rfl; kmk_pure; intro _ _ _ _ _; k_sweep) | ((with_reducible refine' sns ?_ ?_ ?_ ?_ ?_ ?_ ?_ ?_); rotate_left 7; rfl; rfl; k_asm; k_asm; (first | with_reducible assumption | omega | assumption); with_unfolding_all rfl; kmk_pure; intro _ _ _ _ _; k_sweep) | walk1 | (dsimp only; first | ((fail_if_success (fail_if_success (with_reducible refine st_guard ?_))); refine' store_L ?_ ?_ ?_ ?_ ?_ ?_ ?_; rotate_left 5; (first | dsimp only | rfl); (first | dsimp only | rfl); k_asm; k_asm; rfl; rfl; intro _ _ _; k_sweep) | ((with_reducible refine' snn ?_ ?_ ?_ ?_ ?_ ?_ ?_ ?_); rotate_left 5; rfl; rfl; k_asm; k_asm; (first | with_reducible assumption | omega | assumption); with_unfolding_all rfl; kmk_pure; intro _ _ _ _ _; k_sweep) | ((with_reducible refine' sns ?_ ?_ ?_ ?_ ?_ ?_ ?_ ?_); rotate_left 7; rfl; rfl; k_asm; k_asm; (first | with_reducible assumption | omega | assumption); with_unfolding_all rfl; kmk_pure; intro _ _ _ _ _; k_sweep) | walk1) | (leave1; try dsimp only))))
  all_goals
    rename News _ _ _ _ => N7
    rename Fr _ _ _ _ => F7
    first
    | (exfalso; rename _ ≠ (0 : Int) => z; exact z (by assumption))
    | (exfalso; omega)
    | skip
  · have e : la.length - (-(-(k : Int))).toNat = n - k := by rw [Int.neg_neg, Int.toNat_natCast, hla]
    have e' : lb.length - (-(-(k : Int))).toNat = n - k := by rw [Int.neg_neg, Int.toNat_natCast, hlb]
    have hk0 : -(k : Int) ≠ 0 := by assumption
    have hA := dA (nk_lt hk0) (by rw [hla]; exact Int.neg_le_neg (Int.ofNat_le.mpr (Nat.le_of_lt hk)))
    have hB := dB (nk_lt hk0) (by rw [hlb]; exact Int.neg_le_neg (Int.ofNat_le.mpr (Nat.le_of_lt hk)))
    rw [e] at hA
    rw [e'] at hB
    refine' hnext _ _ _ _ _ _ _ hA hB ?hps F7 N7
    case hps => kst_all1
  · have hk0 : k = 0 := nk_zero (by assumption)
    subst hk0
    have hA := stl_all hx
    have hB := stl_all hy
    refine' hnext _ _ _ _ _ _ _ (by rw [hA, Nat.sub_zero, List.take_of_length_le (Nat.le_of_eq hla)]) (by rw [hB, Nat.sub_zero, List.take_of_length_le (Nat.le_of_eq hlb)]) ?hps F7 N7
    case hps => kst_all1

end
section
theorem rst_Lev4 : True := by w_top off; trivial
theorem lev4 {w : World} {p : Program} {loose : List Str} {mean : ExcName → Option Value} {mg mb : Str → Option Value} {dp un : Nat} {gd : Option (List Code)} {cn : Str} {cs : Scope} {L0 ad : Addr} {ccd : Value} {cl : List (Str × Addr)} {outer : List Env} {g base : Heap} {L : Addr} {s : Shared} {m : Str → Option Value} {Q : Flow → Shared → Prop} {E : Value → Shared → Prop} {news : Led} {x y : Str} {ta tb t : Tok} {mc : Int} {la lb : List Nat} {n k : Nat} {tp : Tok}
    (hx : x.cps.toList = la) (hy : y.cps.toList = lb) (hla : la.length = n) (hlb : lb.length = n) (hn8 : n ≤ 8) (hn0 : 0 < n) (X : (Mine.hd.heap_1 w.params).In g) (T : Top p loose mean mg mb g)
    (hm : ∀ p ∈ [(Str.ofString "a", Value.str x ta), (Str.ofString "b", Value.str y tb), (Str.ofString "max_cost", Value.int mc t)], m p.1 = some p.2) (F : Fr g L s.heap m) (N : News g L s.heap news)
    (hret : mc < 0 → ∀ tr h' tk' m', Fr g L h' m' → News g L h' news → Q (.ret (.int (mc + 1) tr)) { s with heap := h', toks := tk' })
    (hnext : ∀ (m' : Str → Option Value) (h' : Heap) (tk' : Nat), 0 ≤ mc → 
      (∀ p ∈ [(Str.ofString "a", Value.str x ta), (Str.ofString "b", Value.str y tb), (Str.ofString "max_cost", Value.int mc t)], m' p.1 = some p.2) → Fr g L h' m' → News g L h' news → LevAt w (ktrTop dp un gd cn cs L0 ad ccd cl outer) L 13 Q E { s with heap := h', toks := tk' }) :
    LevAt w (ktrTop dp un gd cn cs L0 ad ccd cl outer) L 9 Q E s := by
  have hS0 : StopAt (Str.ofString "row") := trivial
  have F1 := fr_ps _ hm F
  clear F hm
  have hxl : (x.length : Int) = n := by rw [str_len hx, hla]
  have hyl : (y.length : Int) = n := by rw [str_len hy, hlb]
  have sA : 0 < x.length := by omega
  have sA2 : x.length ≤ 1000 := by omega
  have sB : 0 < y.length := by omega
  have sB2 : y.length ≤ 1000 := by omega
  refine' lev_start ?e1 ?e2 ?_
  case e1 => exact rfl
  case e2 => exact rfl
  intro ek
  dsimp only [kstB] at F1
  (repeat' (first | (k_unfold; (try dsimp only)) | (k_end; wrow_close) | ((fail_if_success with_reducible (first | refine KswEnd_stop ?_ | refine call_stop ?_ | refine pyIter_stop ?_ | refine while_stop ?_ | refine for_stop ?_ | refine def_stop ?_ | refine CompSrcT_stop ?_ | refine CompSrc_stop ?_ | refine lca_stop ?_ | refine lce_stop ?_ | refine dsp_stop ?_ | refine lam_stop ?_ | refine cmp_stop ?_ | (refine stopAt ?_ ?_; assumption))); first | ((fail_if_success (fail_if_success (with_reducible refine st_guard ?_))); refine' store_L ?_ ?_ ?_ ?_ ?_ ?_ ?_; rotate_left 5; (first | dsimp only | rfl); (first | dsimp only | rfl); k_asm; k_asm; rfl; rfl; intro _ _ _; k_sweep) | ((with_reducible refine' struth ?_ ?_ ?_); (first | with_reducible assumption | (apply_assumption; omega)); (first | with_reducible assumption | (apply_assumption; omega))) | walk1 | (dsimp only; first | ((fail_if_success (fail_if_success (with_reducible refine st_guard ?_))); refine' store_L ?_ ?_ ?_ ?_ ?_ ?_ ?_; rotate_left 5; (first | dsimp only | rfl); (first | dsimp only | rfl); k_asm; k_asm; rfl; rfl; intro _ _ _; k_sweep) | ((with_reducible refine' struth ?_ ?_ ?_); (first | with_reducible assumption | (apply_assumption; omega)); (first | with_reducible assumption | (apply_assumption; omega))) | walk1) | (leave1; try dsimp only))))
  · rename News _ _ _ _ => N7
    rename Fr _ _ _ _ => F7
    exact hret (by omega) _ _ _ _ F7 N7
  · rename News _ _ _ _ => N7
    rename Fr _ _ _ _ => F7
    refine' hnext _ _ _ (by omega) ?hps F7 N7
    case hps => kst_all1

end
section
theorem rst_Lev5 : True := by w_top off; trivial
theorem intsAre_fn : ∀ (l : List Value) (f : Nat → Int), (∀ i v, l[i]? = some v → ∃ t, v = Value.int (f i) t) → IntsAre l ((List.range l.length).map f)
  | [], f, _ => .nil
  | v :: r, f, h => by
    obtain ⟨t, rfl⟩ := h 0 v rfl
    rw [List.length_cons, List.range_succ_eq_map, List.map_cons, List.map_map]
    exact .cons _ _ (intsAre_fn r (fun i => f (i + 1)) fun i v hi => h (i + 1) v (by simpa using hi))
theorem range2 {prog : Program} {w : World} {A : Around} {E : Value → Shared → Prop} {s : Shared} {h₀ : Heap} {L r : Addr} {m : Str → Option Value} {news : Led} {b : Int} {t u v : Tok} {n : Nat} {Q : Value → Shared → Prop} (hh : A.handled = none) (F : Fr h₀ L s.heap m) (N : News h₀ L s.heap news) (hr : IsRange s.heap r 2 b 2 t u v) (hsmall : Builtin.Range.small 2 b 2 = true) (hn : Builtin.Range.rangeSize 2 b 2 = (n : Int)) (hz : n ≤ 2 ^ 24)
    (h : ∀ D us c h' tk, Fr h₀ L h' m → News h₀ L h' ((D, PySem.W.listOf (List.toArray us) c) :: news) → (∀ p ∈ news, p.1 < D) → IntsAre us ((List.range n).map fun (i : Nat) => 2 + (i : Int) * 2) → Q (.ref D) { s with heap := h', toks := tk }) :
    wpAny (model prog w) A (call (.type "list") [.ref r]) Q E s := by
  refine call_list_range hh hr hsmall hn hz fun h' tk acc c hk hD hI => ?_
  have hD' : h'.get? s.heap.objs.size = some (PySem.W.listOf (List.toArray acc.toList) c) := by
    rw [Array.toArray_toList]
    exact hD
  have hi := intsAre_fn acc.toList (fun (i : Nat) => 2 + (i : Int) * 2) fun j v hj => hI.2 j v (by rw [← hj, Array.getElem?_toList])
  rw [Array.length_toList, hI.1] at hi
  exact h _ acc.toList c h' tk (F.keeps hk) (news_pushed F N hk hD' rfl) (fun p hp => Heap.lt_size (N p hp).1) hi
theorem rng2 : ∀ n : Nat, n ≤ 8 → Builtin.Range.small 2 (2 * ((n : Int) + 1)) 2 = true ∧ Builtin.Range.rangeSize 2 (2 * ((n : Int) + 1)) 2 = (n : Int) := by decide
structure LSt where
  dist : Int
  res : Int
  mn : Int
  row : List Int
noncomputable def mnI (a b : Int) : Int := if b < a then b else a
noncomputable def stepR (bc : Nat) (la : List Nat) (s : LSt) (i : Nat) : Int := mnI (mnI s.res (s.row.getD i 0) + 2) (s.dist + (if bc = la.getD i 0 then 0 else 2))
noncomputable def inStep (bc : Nat) (la : List Nat) (s : LSt) (i : Nat) : LSt :=
  ⟨s.row.getD i 0, stepR bc la s i, (if stepR bc la s i < s.mn then stepR bc la s i else s.mn), s.row.set i (stepR bc la s i)⟩
noncomputable def inN (bc : Nat) (la : List Nat) (s : LSt) (i : Nat) : LSt := (List.range i).foldl (inStep bc la) s
theorem inN_succ (bc : Nat) (la : List Nat) (s : LSt) (i : Nat) : inN bc la s (i + 1) = inStep bc la (inN bc la s i) i := by
  unfold inN; rw [List.range_succ, List.foldl_append]; rfl
noncomputable def outN (la lb : List Nat) (mc : Int) : Nat → Option (Int × List Int)
  | 0 => some (0, (List.range la.length).map fun (i : Nat) => 2 + (i : Int) * 2)
  | j + 1 => match outN la lb mc j with
    | none => none
    | some (_, row) => if mc < (inN (lb.getD j 0) la ⟨(j : Int) * 2, (j : Int) * 2, 9223372036854775807, row⟩ la.length).mn then none else some ((inN (lb.getD j 0) la ⟨(j : Int) * 2, (j : Int) * 2, 9223372036854775807, row⟩ la.length).res, (inN (lb.getD j 0) la ⟨(j : Int) * 2, (j : Int) * 2, 9223372036854775807, row⟩ la.length).row)
theorem outN_none {la lb : List Nat} {mc : Int} {j : Nat} (h : outN la lb mc j = none) : ∀ k, outN la lb mc (j + k) = none
  | 0 => h
  | k + 1 => by
    show (match outN la lb mc (j + k) with | none => none | some (_, row) => _) = none
    rw [outN_none h k]
noncomputable def levD (la lb : List Nat) (mc : Int) : Int := match outN la lb mc lb.length with
  | none => mc + 1
  | some (r, _) => r
structure OuSg where
  res : Int
  t : Tok
  vs : List Value
  k : Nat
  row : List Int
structure InSg where
  st : LSt
  td : Tok
  tr : Tok
  tm : Tok
  vs : List Value
  k : Nat
theorem lev5 {w : World} {p : Program} {loose : List Str} {mean : ExcName → Option Value} {mg mb : Str → Option Value} {dp un : Nat} {gd : Option (List Code)} {cn : Str} {cs : Scope} {L0 ad : Addr} {ccd : Value} {cl : List (Str × Addr)} {outer : List Env} {g base : Heap} {L : Addr} {s : Shared} {m : Str → Option Value} {Q : Flow → Shared → Prop} {E : Value → Shared → Prop} {news : Led} {x y : Str} {ta tb t : Tok} {mc : Int} {la lb : List Nat} {n k : Nat} {tp : Tok}
    (hx : x.cps.toList = la) (hy : y.cps.toList = lb) (hla : la.length = n) (hlb : lb.length = n) (hn8 : n ≤ 8) (hn0 : 0 < n) (X : (Mine.hd.heap_1 w.params).In g) (T : Top p loose mean mg mb g)
    (hm : ∀ p ∈ [(Str.ofString "a", Value.str x ta), (Str.ofString "b", Value.str y tb), (Str.ofString "max_cost", Value.int mc t)], m p.1 = some p.2) (F : Fr g L s.heap m) (N : News g L s.heap news)
    (B : Below (ktrTop dp un gd cn cs L0 ad ccd cl outer) base (envX cn cs L0 ad ccd cl :: outer) g) (C1 : CodeHd base 107 103) (C2 : CodeHd base 114 110) (hdp : dp + 5 < recursionLimit) (hun : un + 60 < cLine) (h29 : ∀ c ∈ la, c = 32 ∨ c = 9) (h29' : ∀ c ∈ lb, c = 32 ∨ c = 9)
    (hret : ∀ tr h' tk' m', Fr g L h' m' → News g L h' news → Q (.ret (.int (levD la lb mc) tr)) { s with heap := h', toks := tk' }) :
    LevAt w (ktrTop dp un gd cn cs L0 ad ccd cl outer) L 13 Q E s := by
  have F1 := fr_ps _ hm F
  clear F hm
  have hxl : (x.length : Int) = n := by rw [str_len hx, hla]
  have hyl : (y.length : Int) = n := by rw [str_len hy, hlb]
  refine' lev_start ?e1 ?e2 ?_
  case e1 => exact rfl
  case e2 => exact rfl
  intro ek
  dsimp only [kstB] at F1
  (repeat' (first | (k_unfold; (try dsimp only)) | (k_end; wrow_close) | ((fail_if_success with_reducible (first | refine KswEnd_stop ?_ | refine call_stop ?_ | refine pyIter_stop ?_ | refine while_stop ?_ | refine for_stop ?_ | refine def_stop ?_ | refine CompSrcT_stop ?_ | refine CompSrc_stop ?_ | refine lca_stop ?_ | refine lce_stop ?_ | refine dsp_stop ?_ | refine lam_stop ?_ | refine cmp_stop ?_)); first | ((fail_if_success (fail_if_success (with_reducible refine st_guard ?_))); refine' store_L ?_ ?_ ?_ ?_ ?_ ?_ ?_; rotate_left 5; (first | dsimp only | rfl); (first | dsimp only | rfl); k_asm; k_asm; rfl; rfl; intro _ _ _; k_sweep) | ((with_reducible refine' item_int ?_ ?_ ?_ ?_ ?_ ?_ ?_ ?_); rotate_left 6; k_asm; (first | k_asm | k_mem); k_asm; (first | exact ix0 _ | omega); (first | (refine ix1 ?_ ?_ <;> assumption) | omega | (simp only [List.length_append, List.length_cons, List.length_nil]; omega)); (first | omega | (simp only [List.length_append, List.length_cons, List.length_nil]; omega)); rotate_left; with_unfolding_all rfl; intro _) | ((with_reducible refine' sit ?_ ?_ ?_ ?_ ?_ ?_ ?_); rotate_left; (first | with_reducible assumption | omega | assumption); (first | with_reducible assumption | omega | assumption); (first | with_reducible assumption | omega | assumption); with_reducible assumption; with_unfolding_all rfl; kmk_pure) | walk1 | (dsimp only; first | ((fail_if_success (fail_if_success (with_reducible refine st_guard ?_))); refine' store_L ?_ ?_ ?_ ?_ ?_ ?_ ?_; rotate_left 5; (first | dsimp only | rfl); (first | dsimp only | rfl); k_asm; k_asm; rfl; rfl; intro _ _ _; k_sweep) | ((with_reducible refine' item_int ?_ ?_ ?_ ?_ ?_ ?_ ?_ ?_); rotate_left 6; k_asm; (first | k_asm | k_mem); k_asm; (first | exact ix0 _ | omega); (first | (refine ix1 ?_ ?_ <;> assumption) | omega | (simp only [List.length_append, List.length_cons, List.length_nil]; omega)); (first | omega | (simp only [List.length_append, List.length_cons, List.length_nil]; omega)); rotate_left; with_unfolding_all rfl; intro _) | ((with_reducible refine' sit ?_ ?_ ?_ ?_ ?_ ?_ ?_); rotate_left; (first | with_reducible assumption | omega | assumption); (first | with_reducible assumption | omega | assumption); (first | with_reducible assumption | omega | assumption); with_reducible assumption; with_unfolding_all rfl; kmk_pure) | walk1) | (leave1; try dsimp only))))
  rename_i h1 tk1 t₁ u₁ v₁ hr F2 N2 hk2
  rw [hxl] at hr
  refine range2 (n := n) rfl F2 N2 hr (rng2 n hn8).1 (rng2 n hn8).2 (by omega) ?_
  intro Row us kc h3 tk3 F3 N3 l3 hi3
  dsimp only
  (repeat' (first | (k_unfold; (try dsimp only)) | (k_end; wrow_close) | ((fail_if_success with_reducible (first | refine KswEnd_stop ?_ | refine call_stop ?_ | refine pyIter_stop ?_ | refine while_stop ?_ | refine for_stop ?_ | refine def_stop ?_ | refine CompSrcT_stop ?_ | refine CompSrc_stop ?_ | refine lca_stop ?_ | refine lce_stop ?_ | refine dsp_stop ?_ | refine lam_stop ?_ | refine cmp_stop ?_)); first | ((fail_if_success (fail_if_success (with_reducible refine st_guard ?_))); refine' store_L ?_ ?_ ?_ ?_ ?_ ?_ ?_; rotate_left 5; (first | dsimp only | rfl); (first | dsimp only | rfl); k_asm; k_asm; rfl; rfl; intro _ _ _; k_sweep) | ((with_reducible refine' item_int ?_ ?_ ?_ ?_ ?_ ?_ ?_ ?_); rotate_left 6; k_asm; (first | k_asm | k_mem); k_asm; (first | exact ix0 _ | omega); (first | (refine ix1 ?_ ?_ <;> assumption) | omega | (simp only [List.length_append, List.length_cons, List.length_nil]; omega)); (first | omega | (simp only [List.length_append, List.length_cons, List.length_nil]; omega)); rotate_left; with_unfolding_all rfl; intro _) | ((with_reducible refine' sit ?_ ?_ ?_ ?_ ?_ ?_ ?_); rotate_left; (first | with_reducible assumption | omega | assumption); (first | with_reducible assumption | omega | assumption); (first | with_reducible assumption | omega | assumption); with_reducible assumption; with_unfolding_all rfl; kmk_pure) | walk1 | (dsimp only; first | ((fail_if_success (fail_if_success (with_reducible refine st_guard ?_))); refine' store_L ?_ ?_ ?_ ?_ ?_ ?_ ?_; rotate_left 5; (first | dsimp only | rfl); (first | dsimp only | rfl); k_asm; k_asm; rfl; rfl; intro _ _ _; k_sweep) | ((with_reducible refine' item_int ?_ ?_ ?_ ?_ ?_ ?_ ?_ ?_); rotate_left 6; k_asm; (first | k_asm | k_mem); k_asm; (first | exact ix0 _ | omega); (first | (refine ix1 ?_ ?_ <;> assumption) | omega | (simp only [List.length_append, List.length_cons, List.length_nil]; omega)); (first | omega | (simp only [List.length_append, List.length_cons, List.length_nil]; omega)); rotate_left; with_unfolding_all rfl; intro _) | ((with_reducible refine' sit ?_ ?_ ?_ ?_ ?_ ?_ ?_); rotate_left; (first | with_reducible assumption | omega | assumption); (first | with_reducible assumption | omega | assumption); (first | with_reducible assumption | omega | assumption); with_reducible assumption; with_unfolding_all rfl; kmk_pure) | walk1) | (leave1; try dsimp only))))
  refine For_invVF (by k_asm) rfl rfl ?_
  (repeat' (first | (k_unfold; (try dsimp only)) | (k_end; wrow_close) | ((fail_if_success with_reducible (first | refine KswEnd_stop ?_ | refine call_stop ?_ | refine pyIter_stop ?_ | refine while_stop ?_ | refine for_stop ?_ | refine def_stop ?_ | refine CompSrcT_stop ?_ | refine CompSrc_stop ?_ | refine lca_stop ?_ | refine lce_stop ?_ | refine dsp_stop ?_ | refine lam_stop ?_ | refine cmp_stop ?_)); first | ((fail_if_success (fail_if_success (with_reducible refine st_guard ?_))); refine' store_L ?_ ?_ ?_ ?_ ?_ ?_ ?_; rotate_left 5; (first | dsimp only | rfl); (first | dsimp only | rfl); k_asm; k_asm; rfl; rfl; intro _ _ _; k_sweep) | ((with_reducible refine' item_int ?_ ?_ ?_ ?_ ?_ ?_ ?_ ?_); rotate_left 6; k_asm; (first | k_asm | k_mem); k_asm; (first | exact ix0 _ | omega); (first | (refine ix1 ?_ ?_ <;> assumption) | omega | (simp only [List.length_append, List.length_cons, List.length_nil]; omega)); (first | omega | (simp only [List.length_append, List.length_cons, List.length_nil]; omega)); rotate_left; with_unfolding_all rfl; intro _) | ((with_reducible refine' sit ?_ ?_ ?_ ?_ ?_ ?_ ?_); rotate_left; (first | with_reducible assumption | omega | assumption); (first | with_reducible assumption | omega | assumption); (first | with_reducible assumption | omega | assumption); with_reducible assumption; with_unfolding_all rfl; kmk_pure) | walk1 | (dsimp only; first | ((fail_if_success (fail_if_success (with_reducible refine st_guard ?_))); refine' store_L ?_ ?_ ?_ ?_ ?_ ?_ ?_; rotate_left 5; (first | dsimp only | rfl); (first | dsimp only | rfl); k_asm; k_asm; rfl; rfl; intro _ _ _; k_sweep) | ((with_reducible refine' item_int ?_ ?_ ?_ ?_ ?_ ?_ ?_ ?_); rotate_left 6; k_asm; (first | k_asm | k_mem); k_asm; (first | exact ix0 _ | omega); (first | (refine ix1 ?_ ?_ <;> assumption) | omega | (simp only [List.length_append, List.length_cons, List.length_nil]; omega)); (first | omega | (simp only [List.length_append, List.length_cons, List.length_nil]; omega)); rotate_left; with_unfolding_all rfl; intro _) | ((with_reducible refine' sit ?_ ?_ ?_ ?_ ?_ ?_ ?_); rotate_left; (first | with_reducible assumption | omega | assumption); (first | with_reducible assumption | omega | assumption); (first | with_reducible assumption | omega | assumption); with_reducible assumption; with_unfolding_all rfl; kmk_pure) | walk1) | (leave1; try dsimp only))))
  rename_i h1 F4 N4 h2 tk2 t₁ u₁ v₁ hr2 F5 N5 hk5
  rw [hyl] at hr2
  have hnews : ∀ p ∈ news, p.1 ≠ Row := fun p hp => Nat.ne_of_lt (l3 p hp)
  refine' loop_range (σ := OuSg) (n := n) (fun c => (Row, PySem.W.listOf c.vs.toArray c.k) :: news) (fun c => [(Str.ofString "result", .int c.res c.t)]) [Str.ofString "bchar", Str.ofString "distance", Str.ofString "minimum", Str.ofString "index", Str.ofString "substitute", Str.ofString "insert_delete"] (fun i c => outN la lb mc i = some (c.res, c.row) ∧ IntsAre c.vs c.row ∧ c.row.length = n) ⟨0, _, us, kc, (List.range n).map fun (i : Nat) => 2 + (i : Int) * 2⟩ rfl hr2 ?hsm ?hrs F5 N5 ?hk ?hp ?_ ?_
  case hsm => exact (rng8 _ hn8).1
  case hrs => exact (rng8 _ hn8).2
  case hk => kst_all
  case hp => exact ⟨by unfold outN; rw [hla], hi3, by rw [List.length_map, List.length_range]⟩
  · rintro ⟨res, tr, vs, k, row⟩ j tk0 u h tk I it hj hPP hoff F'' N''
    refine q_any fun Q9 hQ9 => ?_
    refine and3 hPP ?_
    clear hPP
    intro P1 P2 P3
    dsimp only [kstB] at F''
    dsimp only at P1 P2 P3 N'' hoff
    have ej : (0 + (j : Int)).toNat = j := z_toNat j
    have ib := it_at hy (i := 0 + (j : Int)) (ix0 j) (ix1 hj hlb)
    rw [ej] at ib
    have rj := rng0 hj hn8
    have nY := neg0 y.length j
    (repeat' (first | (k_unfold; (try dsimp only)) | (k_end; wrow_close) | ((fail_if_success with_reducible (first | refine KswEnd_stop ?_ | refine call_stop ?_ | refine pyIter_stop ?_ | refine while_stop ?_ | refine for_stop ?_ | refine def_stop ?_ | refine CompSrcT_stop ?_ | refine CompSrc_stop ?_ | refine lca_stop ?_ | refine lce_stop ?_ | refine dsp_stop ?_ | refine lam_stop ?_ | refine cmp_stop ?_)); first | ((fail_if_success (fail_if_success (with_reducible refine st_guard ?_))); refine' store_L ?_ ?_ ?_ ?_ ?_ ?_ ?_; rotate_left 5; (first | dsimp only | rfl); (first | dsimp only | rfl); k_asm; k_asm; rfl; rfl; intro _ _ _; k_sweep) | ((with_reducible refine' item_int ?_ ?_ ?_ ?_ ?_ ?_ ?_ ?_); rotate_left 6; k_asm; (first | k_asm | k_mem); k_asm; (first | exact ix0 _ | omega); (first | (refine ix1 ?_ ?_ <;> assumption) | omega | (simp only [List.length_append, List.length_cons, List.length_nil]; omega)); (first | omega | (simp only [List.length_append, List.length_cons, List.length_nil]; omega)); rotate_left; with_unfolding_all rfl; intro _) | ((with_reducible refine' sit ?_ ?_ ?_ ?_ ?_ ?_ ?_); rotate_left; (first | with_reducible assumption | omega | assumption); (first | with_reducible assumption | omega | assumption); (first | with_reducible assumption | omega | assumption); with_reducible assumption; with_unfolding_all rfl; kmk_pure) | walk1 | (dsimp only; first | ((fail_if_success (fail_if_success (with_reducible refine st_guard ?_))); refine' store_L ?_ ?_ ?_ ?_ ?_ ?_ ?_; rotate_left 5; (first | dsimp only | rfl); (first | dsimp only | rfl); k_asm; k_asm; rfl; rfl; intro _ _ _; k_sweep) | ((with_reducible refine' item_int ?_ ?_ ?_ ?_ ?_ ?_ ?_ ?_); rotate_left 6; k_asm; (first | k_asm | k_mem); k_asm; (first | exact ix0 _ | omega); (first | (refine ix1 ?_ ?_ <;> assumption) | omega | (simp only [List.length_append, List.length_cons, List.length_nil]; omega)); (first | omega | (simp only [List.length_append, List.length_cons, List.length_nil]; omega)); rotate_left; with_unfolding_all rfl; intro _) | ((with_reducible refine' sit ?_ ?_ ?_ ?_ ?_ ?_ ?_); rotate_left; (first | with_reducible assumption | omega | assumption); (first | with_reducible assumption | omega | assumption); (first | with_reducible assumption | omega | assumption); with_reducible assumption; with_unfolding_all rfl; kmk_pure) | walk1) | (leave1; try dsimp only))))
    have hbc : lb.getD j 0 = 32 ∨ lb.getD j 0 = 9 := h29' _ (by rw [List.getD_eq_getElem?_getD, List.getElem?_eq_getElem (by rw [hlb]; exact hj), Option.getD_some]; exact List.getElem_mem _)
    refine For_invVF (by k_asm) rfl rfl ?_
    (repeat' (first | (k_unfold; (try dsimp only)) | (k_end; wrow_close) | ((fail_if_success with_reducible (first | refine KswEnd_stop ?_ | refine call_stop ?_ | refine pyIter_stop ?_ | refine while_stop ?_ | refine for_stop ?_ | refine def_stop ?_ | refine CompSrcT_stop ?_ | refine CompSrc_stop ?_ | refine lca_stop ?_ | refine lce_stop ?_ | refine dsp_stop ?_ | refine lam_stop ?_ | refine cmp_stop ?_)); first | ((fail_if_success (fail_if_success (with_reducible refine st_guard ?_))); refine' store_L ?_ ?_ ?_ ?_ ?_ ?_ ?_; rotate_left 5; (first | dsimp only | rfl); (first | dsimp only | rfl); k_asm; k_asm; rfl; rfl; intro _ _ _; k_sweep) | ((with_reducible refine' item_int ?_ ?_ ?_ ?_ ?_ ?_ ?_ ?_); rotate_left 6; k_asm; (first | k_asm | k_mem); k_asm; (first | exact ix0 _ | omega); (first | (refine ix1 ?_ ?_ <;> assumption) | omega | (simp only [List.length_append, List.length_cons, List.length_nil]; omega)); (first | omega | (simp only [List.length_append, List.length_cons, List.length_nil]; omega)); rotate_left; with_unfolding_all rfl; intro _) | ((with_reducible refine' sit ?_ ?_ ?_ ?_ ?_ ?_ ?_); rotate_left; (first | with_reducible assumption | omega | assumption); (first | with_reducible assumption | omega | assumption); (first | with_reducible assumption | omega | assumption); with_reducible assumption; with_unfolding_all rfl; kmk_pure) | walk1 | (dsimp only; first | ((fail_if_success (fail_if_success (with_reducible refine st_guard ?_))); refine' store_L ?_ ?_ ?_ ?_ ?_ ?_ ?_; rotate_left 5; (first | dsimp only | rfl); (first | dsimp only | rfl); k_asm; k_asm; rfl; rfl; intro _ _ _; k_sweep) | ((with_reducible refine' item_int ?_ ?_ ?_ ?_ ?_ ?_ ?_ ?_); rotate_left 6; k_asm; (first | k_asm | k_mem); k_asm; (first | exact ix0 _ | omega); (first | (refine ix1 ?_ ?_ <;> assumption) | omega | (simp only [List.length_append, List.length_cons, List.length_nil]; omega)); (first | omega | (simp only [List.length_append, List.length_cons, List.length_nil]; omega)); rotate_left; with_unfolding_all rfl; intro _) | ((with_reducible refine' sit ?_ ?_ ?_ ?_ ?_ ?_ ?_); rotate_left; (first | with_reducible assumption | omega | assumption); (first | with_reducible assumption | omega | assumption); (first | with_reducible assumption | omega | assumption); with_reducible assumption; with_unfolding_all rfl; kmk_pure) | walk1) | (leave1; try dsimp only))))
    rename_i h6 F6 N6 h7 tk7 t₁' u₁' v₁' hr7 F7 N7 hk7
    rw [hxl] at hr7
    refine' loop_range (σ := InSg) (n := n) (fun c => (I, it) :: (Row, PySem.W.listOf c.vs.toArray c.k) :: news) (fun c => [(Str.ofString "distance", .int c.st.dist c.td), (Str.ofString "result", .int c.st.res c.tr), (Str.ofString "minimum", .int c.st.mn c.tm)]) [Str.ofString "substitute", Str.ofString "insert_delete"] (fun i c => c.st = inN (lb.getD j 0) la ⟨(j : Int) * 2, (j : Int) * 2, 9223372036854775807, row⟩ i ∧ IntsAre c.vs c.st.row ∧ c.st.row.length = n) ⟨⟨(0 + (j : Int)) * 2, (0 + (j : Int)) * 2, 9223372036854775807, row⟩, _, _, _, vs, k⟩ rfl hr7 ?hsm ?hrs F7 N7 ?hk ?hp ?_ ?_
    case hsm => exact (rng8 _ hn8).1
    case hrs => exact (rng8 _ hn8).2
    case hk => kst_all
    case hp => exact ⟨by rw [Int.zero_add]; rfl, P2, P3⟩
    · rintro ⟨⟨dist, res2, mn, row2⟩, td, tr2, tm, vs2, k2⟩ i tk9 u9 h9 tk10 I2 it2 hi hPP hoff2 F'' N''
      refine q_any fun Q9 hQ9 => ?_
      refine and3 hPP ?_
      clear hPP
      intro Q1 Q2 Q3
      dsimp only [kstB] at F''
      dsimp only at Q1 Q2 Q3 N'' hoff2
      have ei : (0 + (i : Int)).toNat = i := z_toNat i
      have ia := it_at hx (i := 0 + (i : Int)) (ix0 i) (ix1 hi hla)
      rw [ei] at ia
      have ri := rng0 hi hn8
      have nX := neg0 x.length i
      have hac : la.getD i 0 = 32 ∨ la.getD i 0 = 9 := h29 _ (by rw [List.getD_eq_getElem?_getD, List.getElem?_eq_getElem (by rw [hla]; exact hi), Option.getD_some]; exact List.getElem_mem _)
      (repeat' (first | (k_unfold; (try dsimp only)) | (k_end; wrow_close) | ((fail_if_success with_reducible (first | refine KswEnd_stop ?_ | refine call_stop ?_ | refine pyIter_stop ?_ | refine while_stop ?_ | refine for_stop ?_ | refine def_stop ?_ | refine CompSrcT_stop ?_ | refine CompSrc_stop ?_ | refine lca_stop ?_ | refine lce_stop ?_ | refine dsp_stop ?_ | refine lam_stop ?_ | refine cmp_stop ?_)); first | ((fail_if_success (fail_if_success (with_reducible refine st_guard ?_))); refine' store_L ?_ ?_ ?_ ?_ ?_ ?_ ?_; rotate_left 5; (first | dsimp only | rfl); (first | dsimp only | rfl); k_asm; k_asm; rfl; rfl; intro _ _ _; k_sweep) | ((with_reducible refine' item_int ?_ ?_ ?_ ?_ ?_ ?_ ?_ ?_); rotate_left 6; k_asm; (first | k_asm | k_mem); k_asm; (first | exact ix0 _ | omega); (first | (refine ix1 ?_ ?_ <;> assumption) | omega | (simp only [List.length_append, List.length_cons, List.length_nil]; omega)); (first | omega | (simp only [List.length_append, List.length_cons, List.length_nil]; omega)); rotate_left; with_unfolding_all rfl; intro _) | ((with_reducible refine' sit ?_ ?_ ?_ ?_ ?_ ?_ ?_); rotate_left; (first | with_reducible assumption | omega | assumption); (first | with_reducible assumption | omega | assumption); (first | with_reducible assumption | omega | assumption); with_reducible assumption; with_unfolding_all rfl; kmk_pure) | walk1 | (dsimp only; first | ((fail_if_success (fail_if_success (with_reducible refine st_guard ?_))); refine' store_L ?_ ?_ ?_ ?_ ?_ ?_ ?_; rotate_left 5; (first | dsimp only | rfl); (first | dsimp only | rfl); k_asm; k_asm; rfl; rfl; intro _ _ _; k_sweep) | ((with_reducible refine' item_int ?_ ?_ ?_ ?_ ?_ ?_ ?_ ?_); rotate_left 6; k_asm; (first | k_asm | k_mem); k_asm; (first | exact ix0 _ | omega); (first | (refine ix1 ?_ ?_ <;> assumption) | omega | (simp only [List.length_append, List.length_cons, List.length_nil]; omega)); (first | omega | (simp only [List.length_append, List.length_cons, List.length_nil]; omega)); rotate_left; with_unfolding_all rfl; intro _) | ((with_reducible refine' sit ?_ ?_ ?_ ?_ ?_ ?_ ?_); rotate_left; (first | with_reducible assumption | omega | assumption); (first | with_reducible assumption | omega | assumption); (first | with_reducible assumption | omega | assumption); with_reducible assumption; with_unfolding_all rfl; kmk_pure) | walk1) | (leave1; try dsimp only))))
      (with_unfolding_all refine' Does.use (subst_cost w _ (lb.getD j 0) (la.getD i 0) _ _ hbc hac) (by k_asm) (by k_asm) (by k_asm) (by k_asm) (by k_asm) (by assumption) (by assumption) (by first | exact rfl | assumption) (by ktr_room) (by ktr_units) ?_)
      intro r9 news9 h9 tk9 F9 N9 O9
      revert N9
      apply int_elim O9
      clear O9
      intro ts N9
      dsimp only
      generalize hsub : (if lb.getD j 0 = la.getD i 0 then (0 : Int) else 2) = sb
      (repeat' (first | (k_unfold; (try dsimp only)) | (k_end; wrow_close) | ((fail_if_success with_reducible (first | refine KswEnd_stop ?_ | refine call_stop ?_ | refine pyIter_stop ?_ | refine while_stop ?_ | refine for_stop ?_ | refine def_stop ?_ | refine CompSrcT_stop ?_ | refine CompSrc_stop ?_ | refine lca_stop ?_ | refine lce_stop ?_ | refine dsp_stop ?_ | refine lam_stop ?_ | refine cmp_stop ?_)); first | ((fail_if_success (fail_if_success (with_reducible refine st_guard ?_))); refine' store_L ?_ ?_ ?_ ?_ ?_ ?_ ?_; rotate_left 5; (first | dsimp only | rfl); (first | dsimp only | rfl); k_asm; k_asm; rfl; rfl; intro _ _ _; k_sweep) | ((with_reducible refine' item_int ?_ ?_ ?_ ?_ ?_ ?_ ?_ ?_); rotate_left 6; k_asm; (first | k_asm | k_mem); k_asm; (first | exact ix0 _ | omega); (first | (refine ix1 ?_ ?_ <;> assumption) | omega | (simp only [List.length_append, List.length_cons, List.length_nil]; omega)); (first | omega | (simp only [List.length_append, List.length_cons, List.length_nil]; omega)); rotate_left; with_unfolding_all rfl; intro _) | ((with_reducible refine' sit ?_ ?_ ?_ ?_ ?_ ?_ ?_); rotate_left; (first | with_reducible assumption | omega | assumption); (first | with_reducible assumption | omega | assumption); (first | with_reducible assumption | omega | assumption); with_reducible assumption; with_unfolding_all rfl; kmk_pure) | walk1 | (dsimp only; first | ((fail_if_success (fail_if_success (with_reducible refine st_guard ?_))); refine' store_L ?_ ?_ ?_ ?_ ?_ ?_ ?_; rotate_left 5; (first | dsimp only | rfl); (first | dsimp only | rfl); k_asm; k_asm; rfl; rfl; intro _ _ _; k_sweep) | ((with_reducible refine' item_int ?_ ?_ ?_ ?_ ?_ ?_ ?_ ?_); rotate_left 6; k_asm; (first | k_asm | k_mem); k_asm; (first | exact ix0 _ | omega); (first | (refine ix1 ?_ ?_ <;> assumption) | omega | (simp only [List.length_append, List.length_cons, List.length_nil]; omega)); (first | omega | (simp only [List.length_append, List.length_cons, List.length_nil]; omega)); rotate_left; with_unfolding_all rfl; intro _) | ((with_reducible refine' sit ?_ ?_ ?_ ?_ ?_ ?_ ?_); rotate_left; (first | with_reducible assumption | omega | assumption); (first | with_reducible assumption | omega | assumption); (first | with_reducible assumption | omega | assumption); with_reducible assumption; with_unfolding_all rfl; kmk_pure) | walk1) | (leave1; try dsimp only))))
      have hval : (if dist + sb < (if row2.getD (0 + (i : Int)).toNat 0 < res2 then row2.getD (0 + (i : Int)).toNat 0 else res2) + 2 then dist + sb else (if row2.getD (0 + (i : Int)).toNat 0 < res2 then row2.getD (0 + (i : Int)).toNat 0 else res2) + 2) = stepR (lb.getD j 0) la ⟨dist, res2, mn, row2⟩ i := by
        rw [← hsub, ei]; rfl
      generalize (if dist + sb < (if row2.getD (0 + (i : Int)).toNat 0 < res2 then row2.getD (0 + (i : Int)).toNat 0 else res2) + 2 then dist + sb else (if row2.getD (0 + (i : Int)).toNat 0 < res2 then row2.getD (0 + (i : Int)).toNat 0 else res2) + 2) = rv at *
      have nI2 : @Ne Nat I2 Row := (hoff2 _ (.tail _ (.head _))).symm
      have nI : @Ne Nat I Row := (hoff _ (.head _)).symm
      refine' set_led ?F ?N ?U Q2 ?z0 ?z1 ?z2 ?_
      case F => k_asm
      case N => k_asm
      case U => exact Upd.tail nI2 (Upd.tail nI (Upd.head hnews))
      case z0 => first | exact ix0 _ | exact ix1 hi Q3 | omega
      case z1 => first | exact ix0 _ | exact ix1 hi Q3 | omega
      case z2 => omega
      intro h11 F11 N11 hi11
      have hin := inN_succ (lb.getD j 0) la ⟨(j : Int) * 2, (j : Int) * 2, 9223372036854775807, row⟩ i
      rw [← Q1] at hin
      rw [ei] at hi11
      (repeat' (first | (k_unfold; (try dsimp only)) | (k_end; wrow_close) | ((fail_if_success with_reducible (first | refine KswEnd_stop ?_ | refine call_stop ?_ | refine pyIter_stop ?_ | refine while_stop ?_ | refine for_stop ?_ | refine def_stop ?_ | refine CompSrcT_stop ?_ | refine CompSrc_stop ?_ | refine lca_stop ?_ | refine lce_stop ?_ | refine dsp_stop ?_ | refine lam_stop ?_ | refine cmp_stop ?_)); first | ((fail_if_success (fail_if_success (with_reducible refine st_guard ?_))); refine' store_L ?_ ?_ ?_ ?_ ?_ ?_ ?_; rotate_left 5; (first | dsimp only | rfl); (first | dsimp only | rfl); k_asm; k_asm; rfl; rfl; intro _ _ _; k_sweep) | ((with_reducible refine' item_int ?_ ?_ ?_ ?_ ?_ ?_ ?_ ?_); rotate_left 6; k_asm; (first | k_asm | k_mem); k_asm; (first | exact ix0 _ | omega); (first | (refine ix1 ?_ ?_ <;> assumption) | omega | (simp only [List.length_append, List.length_cons, List.length_nil]; omega)); (first | omega | (simp only [List.length_append, List.length_cons, List.length_nil]; omega)); rotate_left; with_unfolding_all rfl; intro _) | ((with_reducible refine' sit ?_ ?_ ?_ ?_ ?_ ?_ ?_); rotate_left; (first | with_reducible assumption | omega | assumption); (first | with_reducible assumption | omega | assumption); (first | with_reducible assumption | omega | assumption); with_reducible assumption; with_unfolding_all rfl; kmk_pure) | walk1 | (dsimp only; first | ((fail_if_success (fail_if_success (with_reducible refine st_guard ?_))); refine' store_L ?_ ?_ ?_ ?_ ?_ ?_ ?_; rotate_left 5; (first | dsimp only | rfl); (first | dsimp only | rfl); k_asm; k_asm; rfl; rfl; intro _ _ _; k_sweep) | ((with_reducible refine' item_int ?_ ?_ ?_ ?_ ?_ ?_ ?_ ?_); rotate_left 6; k_asm; (first | k_asm | k_mem); k_asm; (first | exact ix0 _ | omega); (first | (refine ix1 ?_ ?_ <;> assumption) | omega | (simp only [List.length_append, List.length_cons, List.length_nil]; omega)); (first | omega | (simp only [List.length_append, List.length_cons, List.length_nil]; omega)); rotate_left; with_unfolding_all rfl; intro _) | ((with_reducible refine' sit ?_ ?_ ?_ ?_ ?_ ?_ ?_); rotate_left; (first | with_reducible assumption | omega | assumption); (first | with_reducible assumption | omega | assumption); (first | with_reducible assumption | omega | assumption); with_reducible assumption; with_unfolding_all rfl; kmk_pure) | walk1) | (leave1; try dsimp only))))
      all_goals
        rename Fr _ _ _ _ => F12
        rename News _ _ _ _ => N12
      · have hlt : rv < mn := by assumption
        refine hQ9 _ _ ?_
        refine tpost_next (tend ⟨⟨row2.getD i 0, rv, rv, row2.set i rv⟩, _, _, _, _, _⟩ (by rw [ei] at F12; exact F12) (by rw [ei] at N12; exact N12) (.head _) (fun p hp => .tail _ hp) ?_ (by kst_all) (by kst_same) ⟨?_, hi11, by dsimp only; rw [List.length_set]; exact Q3⟩)
        · exact fa_cons (hoff2 _ (.head _)) (fa_cons nI2.symm (fun p hp => hoff2 p (.tail _ (.tail _ hp))))
        · rw [hin]
          unfold inStep
          rw [← hval]
          dsimp only
          rw [if_pos hlt]
      · have hlt : ¬ rv < mn := by assumption
        refine hQ9 _ _ ?_
        refine tpost_next (tend ⟨⟨row2.getD i 0, rv, mn, row2.set i rv⟩, _, _, _, _, _⟩ (by rw [ei] at F12; exact F12) (by rw [ei] at N12; exact N12) (.head _) (fun p hp => .tail _ hp) ?_ (by kst_all) (by kst_same) ⟨?_, hi11, by dsimp only; rw [List.length_set]; exact Q3⟩)
        · exact fa_cons (hoff2 _ (.head _)) (fa_cons nI2.symm (fun p hp => hoff2 p (.tail _ (.tail _ hp))))
        · rw [hin]
          unfold inStep
          rw [← hval]
          dsimp only
          rw [if_neg hlt]
    · rintro ⟨⟨dist, res2, mn, row2⟩, td, tr2, tm, vs2, k2⟩ u9 h9 tk10 hPP F'' N''
      refine and3 hPP ?_
      clear hPP
      intro Q1 Q2 Q3
      dsimp only [kstB] at F''
      dsimp only at Q1 Q2 Q3 N''
      have hstep : outN la lb mc (j + 1) = if mc < mn then none else some (res2, row2) := by
        have e : outN la lb mc (j + 1) = (match outN la lb mc j with
          | none => none
          | some (_, row) => if mc < (inN (lb.getD j 0) la ⟨(j : Int) * 2, (j : Int) * 2, 9223372036854775807, row⟩ la.length).mn then none else some ((inN (lb.getD j 0) la ⟨(j : Int) * 2, (j : Int) * 2, 9223372036854775807, row⟩ la.length).res, (inN (lb.getD j 0) la ⟨(j : Int) * 2, (j : Int) * 2, 9223372036854775807, row⟩ la.length).row)) := rfl
        rw [e, P1]
        dsimp only
        rw [hla, ← Q1]
      (repeat' (first | (k_unfold; (try dsimp only)) | (k_end; wrow_close) | ((fail_if_success with_reducible (first | refine KswEnd_stop ?_ | refine call_stop ?_ | refine pyIter_stop ?_ | refine while_stop ?_ | refine for_stop ?_ | refine def_stop ?_ | refine CompSrcT_stop ?_ | refine CompSrc_stop ?_ | refine lca_stop ?_ | refine lce_stop ?_ | refine dsp_stop ?_ | refine lam_stop ?_ | refine cmp_stop ?_)); first | ((fail_if_success (fail_if_success (with_reducible refine st_guard ?_))); refine' store_L ?_ ?_ ?_ ?_ ?_ ?_ ?_; rotate_left 5; (first | dsimp only | rfl); (first | dsimp only | rfl); k_asm; k_asm; rfl; rfl; intro _ _ _; k_sweep) | ((with_reducible refine' item_int ?_ ?_ ?_ ?_ ?_ ?_ ?_ ?_); rotate_left 6; k_asm; (first | k_asm | k_mem); k_asm; (first | exact ix0 _ | omega); (first | (refine ix1 ?_ ?_ <;> assumption) | omega | (simp only [List.length_append, List.length_cons, List.length_nil]; omega)); (first | omega | (simp only [List.length_append, List.length_cons, List.length_nil]; omega)); rotate_left; with_unfolding_all rfl; intro _) | ((with_reducible refine' sit ?_ ?_ ?_ ?_ ?_ ?_ ?_); rotate_left; (first | with_reducible assumption | omega | assumption); (first | with_reducible assumption | omega | assumption); (first | with_reducible assumption | omega | assumption); with_reducible assumption; with_unfolding_all rfl; kmk_pure) | walk1 | (dsimp only; first | ((fail_if_success (fail_if_success (with_reducible refine st_guard ?_))); refine' store_L ?_ ?_ ?_ ?_ ?_ ?_ ?_; rotate_left 5; (first | dsimp only | rfl); (first | dsimp only | rfl); k_asm; k_asm; rfl; rfl; intro _ _ _; k_sweep) | ((with_reducible refine' item_int ?_ ?_ ?_ ?_ ?_ ?_ ?_ ?_); rotate_left 6; k_asm; (first | k_asm | k_mem); k_asm; (first | exact ix0 _ | omega); (first | (refine ix1 ?_ ?_ <;> assumption) | omega | (simp only [List.length_append, List.length_cons, List.length_nil]; omega)); (first | omega | (simp only [List.length_append, List.length_cons, List.length_nil]; omega)); rotate_left; with_unfolding_all rfl; intro _) | ((with_reducible refine' sit ?_ ?_ ?_ ?_ ?_ ?_ ?_); rotate_left; (first | with_reducible assumption | omega | assumption); (first | with_reducible assumption | omega | assumption); (first | with_reducible assumption | omega | assumption); with_reducible assumption; with_unfolding_all rfl; kmk_pure) | walk1) | (leave1; try dsimp only))))
      all_goals
        rename Fr _ _ _ _ => F12
        rename News _ _ _ _ => N12
      · have hlt : mc < mn := by assumption
        rw [if_pos hlt] at hstep
        have hl : levD la lb mc = mc + 1 := by
          have e2 : lb.length = (j + 1) + (n - j - 1) := by rw [hlb, Nat.sub_sub]; exact (Nat.add_sub_cancel' hj).symm
          unfold levD
          rw [e2, outN_none hstep]
        refine hQ9 _ _ ?_
        refine tpost_ret ?_
        have h := fun tr tk' => hret tr _ tk' _ F12 (news_sub N12 fun p hp => .tail _ (.tail _ hp))
        simp only [hl] at h
        exact h _ _
      · have hlt : ¬ mc < mn := by assumption
        rw [if_neg hlt] at hstep
        refine hQ9 _ _ ?_
        refine tpost_next (tend ⟨res2, _, vs2, _, row2⟩ F12 N12 (.head _) (fun p hp => .tail _ hp) ?_ (by kst_all) (by kst_same) ⟨hstep, Q2, Q3⟩)
        exact fa_cons (by have e := hoff _ (.head _); exact e) (fun p hp => hoff p (.tail _ hp))
  · rintro ⟨res, tr, vs, k, row⟩ u h tk hPP F'' N''
    refine and3 hPP ?_
    clear hPP
    intro P1 P2 P3
    dsimp only [kstB] at F''
    dsimp only at P1 P2 P3 N''
    (repeat' (first | (k_unfold; (try dsimp only)) | (k_end; wrow_close) | ((fail_if_success with_reducible (first | refine KswEnd_stop ?_ | refine call_stop ?_ | refine pyIter_stop ?_ | refine while_stop ?_ | refine for_stop ?_ | refine def_stop ?_ | refine CompSrcT_stop ?_ | refine CompSrc_stop ?_ | refine lca_stop ?_ | refine lce_stop ?_ | refine dsp_stop ?_ | refine lam_stop ?_ | refine cmp_stop ?_)); first | ((fail_if_success (fail_if_success (with_reducible refine st_guard ?_))); refine' store_L ?_ ?_ ?_ ?_ ?_ ?_ ?_; rotate_left 5; (first | dsimp only | rfl); (first | dsimp only | rfl); k_asm; k_asm; rfl; rfl; intro _ _ _; k_sweep) | ((with_reducible refine' item_int ?_ ?_ ?_ ?_ ?_ ?_ ?_ ?_); rotate_left 6; k_asm; (first | k_asm | k_mem); k_asm; (first | exact ix0 _ | omega); (first | (refine ix1 ?_ ?_ <;> assumption) | omega | (simp only [List.length_append, List.length_cons, List.length_nil]; omega)); (first | omega | (simp only [List.length_append, List.length_cons, List.length_nil]; omega)); rotate_left; with_unfolding_all rfl; intro _) | ((with_reducible refine' sit ?_ ?_ ?_ ?_ ?_ ?_ ?_); rotate_left; (first | with_reducible assumption | omega | assumption); (first | with_reducible assumption | omega | assumption); (first | with_reducible assumption | omega | assumption); with_reducible assumption; with_unfolding_all rfl; kmk_pure) | walk1 | (dsimp only; first | ((fail_if_success (fail_if_success (with_reducible refine st_guard ?_))); refine' store_L ?_ ?_ ?_ ?_ ?_ ?_ ?_; rotate_left 5; (first | dsimp only | rfl); (first | dsimp only | rfl); k_asm; k_asm; rfl; rfl; intro _ _ _; k_sweep) | ((with_reducible refine' item_int ?_ ?_ ?_ ?_ ?_ ?_ ?_ ?_); rotate_left 6; k_asm; (first | k_asm | k_mem); k_asm; (first | exact ix0 _ | omega); (first | (refine ix1 ?_ ?_ <;> assumption) | omega | (simp only [List.length_append, List.length_cons, List.length_nil]; omega)); (first | omega | (simp only [List.length_append, List.length_cons, List.length_nil]; omega)); rotate_left; with_unfolding_all rfl; intro _) | ((with_reducible refine' sit ?_ ?_ ?_ ?_ ?_ ?_ ?_); rotate_left; (first | with_reducible assumption | omega | assumption); (first | with_reducible assumption | omega | assumption); (first | with_reducible assumption | omega | assumption); with_reducible assumption; with_unfolding_all rfl; kmk_pure) | walk1) | (leave1; try dsimp only))))
    rename Fr _ _ _ _ => F12
    rename News _ _ _ _ => N12
    have hl : levD la lb mc = res := by
      unfold levD
      rw [hlb, P1]
    have h := fun tr tk' => hret tr _ tk' _ F12 (news_sub N12 fun p hp => .tail _ hp)
    simp only [hl] at h
    exact h _ _

end
section
theorem rst_LevC : True := by w_top off; trivial
noncomputable def preN : List Nat → List Nat → Nat
  | a :: r, b :: t => if a = b then preN r t + 1 else 0
  | _, _ => 0
theorem preN_eq : ∀ {la lb : List Nat} {k : Nat}, k < la.length → k < lb.length → la.take k = lb.take k → la.getD k 0 ≠ lb.getD k 0 → preN la lb = k
  | a :: r, b :: t, 0, _, _, _, h => by
    unfold preN
    rw [if_neg (by simpa using h)]
  | a :: r, b :: t, k + 1, h1, h2, h3, h4 => by
    rw [List.take_succ_cons, List.take_succ_cons] at h3
    injection h3 with e1 e2
    unfold preN
    rw [if_pos e1, preN_eq (by simpa using h1) (by simpa using h2) e2 (by simpa using h4)]
/-- the distance of two texts of eight signs -/
noncomputable def levN (la lb : List Nat) (mc : Int) : Int :=
  if la = lb then 0 else if mc < 0 then mc + 1 else
    levD ((la.drop (preN la lb)).take (8 - preN la lb - preN (la.drop (preN la lb)).reverse (lb.drop (preN la lb)).reverse)) ((lb.drop (preN la lb)).take (8 - preN la lb - preN (la.drop (preN la lb)).reverse (lb.drop (preN la lb)).reverse)) mc
theorem rev_take {l : List Nat} {n k : Nat} (h : l.length = n) (hk : k ≤ n) : l.reverse.take k = (l.drop (n - k)).reverse := by
  subst h
  rw [List.take_reverse]
theorem rev_getD {l : List Nat} {n k : Nat} (h : l.length = n) (hk : k < n) : l.reverse.getD k 0 = l.getD (n - k - 1) 0 := by
  subst h
  rw [List.getD_eq_getElem?_getD, List.getD_eq_getElem?_getD, List.getElem?_reverse hk]
  rw [Nat.sub_right_comm]
theorem lev_c (w : World) (news : Led) (a b : Str) (ta tb t : Tok) (mc : Int) (la lb : List Nat) (ha : a.cps.toList = la) (hb : b.cps.toList = lb) (hla : la.length = 8) (hlb : lb.length = 8) (h29 : ∀ c ∈ la, c = 32 ∨ c = 9) (h29' : ∀ c ∈ lb, c = 32 ∨ c = 9) :
   Does w 179 7 120 news [.str a ta, .str b tb, .int mc t]
     (fun r news' => (∃ tk, r = .int (levN la lb mc) tk) ∧ news' = news) := by
  unfold Does
  intro p loose mean mg mb dp un gd cn cs ad ccd cl outer A₀ base h₀ L m s Q E B F X N T C1 C2 hk hd hu hret
  refine wpAny_call ?_
  k_dflt (refine code_def (by k_asm) (by k_asm) (by k_asm) (by k_asm) (by k_asm) (by exact rfl) (by exact rfl) (by first | exact rfl | assumption) (by k_is) (by k_is) (by ktr_room) (by first | exact BindsTo.of_eq rfl | exact kp_binds (by k_in) (fun _ => rfl)) (by exact locs rfl) ?_ (by exact rfl) (by exact rfl) (by exact rfl) (by decide); intro _ _ _ _ _ _ _ _ _; (try dsimp only); (try k_fold))
  refine st_conv (by dsimp only) ?_
  refine tk_any fun tk9 => ?_
  refine lev1 (p := p) (loose := loose) (mean := mean) (mg := mg) (mb := mb) (base := base) (ta := ta) (tb := tb) (t := t) (mc := mc) (E := E) ha hb hla hlb (by k_asm) ?hm (by k_asm) (by k_asm) ?h0 ?h1
  case hm => kst_all1
  case h0 =>
    intro he tr h' tk' m' F' N'
    have e9 : levN la lb mc = 0 := by unfold levN; rw [if_pos he]
    dsimp only; (repeat' (first | (k_unfold; (try dsimp only)) | (k_end; wrow_close) | ((fail_if_success with_reducible (first | refine KswEnd_stop ?_ | refine call_stop ?_ | refine pyIter_stop ?_ | refine while_stop ?_ | refine for_stop ?_ | refine def_stop ?_ | refine CompSrcT_stop ?_ | refine CompSrc_stop ?_ | refine lca_stop ?_ | refine lce_stop ?_ | refine dsp_stop ?_ | refine lam_stop ?_ | refine cmp_stop ?_)); first | ((fail_if_success (fail_if_success (with_reducible refine st_guard ?_))); refine' store_L ?_ ?_ ?_ ?_ ?_ ?_ ?_; rotate_left 5; (first | dsimp only | rfl); (first | dsimp only | rfl); k_asm; k_asm; rfl; rfl; intro _ _ _; k_sweep) | walk1 | (dsimp only; first | ((fail_if_success (fail_if_success (with_reducible refine st_guard ?_))); refine' store_L ?_ ?_ ?_ ?_ ?_ ?_ ?_; rotate_left 5; (first | dsimp only | rfl); (first | dsimp only | rfl); k_asm; k_asm; rfl; rfl; intro _ _ _; k_sweep) | walk1) | (leave1; try dsimp only))))
    exact hret _ _ _ _ (by k_asm) (by k_asm) ⟨⟨_, by rw [e9]⟩, rfl⟩
  case h1 =>
    intro k ta' tb' x' y' m' h' tk' hk8 htk hne hx' hy' hm' F' N'
    have hab : la ≠ lb := fun e => hne (by rw [e])
    have hp : preN la lb = k := preN_eq (by omega) (by omega) htk hne
    have hl1 : (la.drop k).length = 8 - k := by rw [List.length_drop, hla]
    have hl2 : (lb.drop k).length = 8 - k := by rw [List.length_drop, hlb]
    have g1 : (la.drop k).getD 0 0 = la.getD k 0 := by rw [List.getD_eq_getElem?_getD, List.getD_eq_getElem?_getD, List.getElem?_drop]; rfl
    have g2 : (lb.drop k).getD 0 0 = lb.getD k 0 := by rw [List.getD_eq_getElem?_getD, List.getD_eq_getElem?_getD, List.getElem?_drop]; rfl
    refine lev2 (p := p) (loose := loose) (mean := mean) (mg := mg) (mb := mb) (base := base) (ta := ta') (tb := tb') (t := t) (mc := mc) (n := 8 - k) (E := E) hx' hy' hl1 hl2 (Nat.sub_pos_of_lt hk8) (Nat.sub_le _ _) (by rw [g1, g2]; exact hne) hm' F' N' ?_
    intro j tp m2 h2 tk2 hj hdj hnj hm2 F2 N2
    have hq : preN (la.drop k).reverse (lb.drop k).reverse = j := by
      refine preN_eq (by rw [List.length_reverse]; omega) (by rw [List.length_reverse]; omega) ?_ ?_
      · rw [rev_take hl1 (by omega), rev_take hl2 (by omega), hdj]
      · rw [rev_getD hl1 hj, rev_getD hl2 hj]; exact hnj
    refine lev3 (p := p) (loose := loose) (mean := mean) (mg := mg) (mb := mb) (base := base) (ta := ta') (tb := tb') (t := t) (mc := mc) (n := 8 - k) (k := j) (tp := tp) (E := E) hx' hy' hl1 hl2 (Nat.sub_le _ _) hj hm2 F2 N2 ?_
    intro ta3 tb3 x3 y3 m3 h3 tk3 hx3 hy3 hm3 F3 N3
    have hl3 : ((la.drop k).take (8 - k - j)).length = 8 - k - j := by rw [List.length_take, hl1]; exact Nat.min_eq_left (Nat.sub_le _ _)
    have hl4 : ((lb.drop k).take (8 - k - j)).length = 8 - k - j := by rw [List.length_take, hl2]; exact Nat.min_eq_left (Nat.sub_le _ _)
    refine lev4 (p := p) (loose := loose) (mean := mean) (mg := mg) (mb := mb) (base := base) (ta := ta3) (tb := tb3) (t := t) (mc := mc) (n := 8 - k - j) (k := j) (tp := tp) (E := E) hx3 hy3 hl3 hl4 (by first | exact Nat.sub_pos_of_lt hj | exact Nat.le_trans (Nat.sub_le _ _) (Nat.sub_le _ _) | omega) (by first | exact Nat.sub_pos_of_lt hj | exact Nat.le_trans (Nat.sub_le _ _) (Nat.sub_le _ _) | omega) (by k_asm) (by k_asm) hm3 F3 N3 ?_ ?_
    · intro hmc tr h4 tk4 m4 F4 N4
      have e9 : levN la lb mc = mc + 1 := by unfold levN; rw [if_neg hab, if_pos hmc]
      dsimp only; (repeat' (first | (k_unfold; (try dsimp only)) | (k_end; wrow_close) | ((fail_if_success with_reducible (first | refine KswEnd_stop ?_ | refine call_stop ?_ | refine pyIter_stop ?_ | refine while_stop ?_ | refine for_stop ?_ | refine def_stop ?_ | refine CompSrcT_stop ?_ | refine CompSrc_stop ?_ | refine lca_stop ?_ | refine lce_stop ?_ | refine dsp_stop ?_ | refine lam_stop ?_ | refine cmp_stop ?_)); first | ((fail_if_success (fail_if_success (with_reducible refine st_guard ?_))); refine' store_L ?_ ?_ ?_ ?_ ?_ ?_ ?_; rotate_left 5; (first | dsimp only | rfl); (first | dsimp only | rfl); k_asm; k_asm; rfl; rfl; intro _ _ _; k_sweep) | walk1 | (dsimp only; first | ((fail_if_success (fail_if_success (with_reducible refine st_guard ?_))); refine' store_L ?_ ?_ ?_ ?_ ?_ ?_ ?_; rotate_left 5; (first | dsimp only | rfl); (first | dsimp only | rfl); k_asm; k_asm; rfl; rfl; intro _ _ _; k_sweep) | walk1) | (leave1; try dsimp only))))
      exact hret _ _ _ _ (by k_asm) (by k_asm) ⟨⟨_, by rw [e9]⟩, rfl⟩
    · intro m4 h4 tk4 hmc hm4 F4 N4
      have e9 : levN la lb mc = levD ((la.drop k).take (8 - k - j)) ((lb.drop k).take (8 - k - j)) mc := by
        unfold levN; rw [if_neg hab, if_neg (by omega), hp, hq]
      refine lev5 (p := p) (loose := loose) (mean := mean) (mg := mg) (mb := mb) (base := base) (ta := ta3) (tb := tb3) (t := t) (mc := mc) (n := 8 - k - j) (k := j) (tp := tp) (E := E) hx3 hy3 hl3 hl4 (by first | exact Nat.sub_pos_of_lt hj | exact Nat.le_trans (Nat.sub_le _ _) (Nat.sub_le _ _) | omega) (by first | exact Nat.sub_pos_of_lt hj | exact Nat.le_trans (Nat.sub_le _ _) (Nat.sub_le _ _) | omega) (by k_asm) (by k_asm) hm4 F4 N4 (by k_asm) (by k_asm) (by k_asm) (by omega) (by omega) ?_ ?_ ?_
      · intro c hc; exact h29 c (List.mem_of_mem_drop (List.mem_of_mem_take hc))
      · intro c hc; exact h29' c (List.mem_of_mem_drop (List.mem_of_mem_take hc))
      · intro tr h5 tk5 m5 F5 N5
        dsimp only; (repeat' (first | (k_unfold; (try dsimp only)) | (k_end; wrow_close) | ((fail_if_success with_reducible (first | refine KswEnd_stop ?_ | refine call_stop ?_ | refine pyIter_stop ?_ | refine while_stop ?_ | refine for_stop ?_ | refine def_stop ?_ | refine CompSrcT_stop ?_ | refine CompSrc_stop ?_ | refine lca_stop ?_ | refine lce_stop ?_ | refine dsp_stop ?_ | refine lam_stop ?_ | refine cmp_stop ?_)); first | ((fail_if_success (fail_if_success (with_reducible refine st_guard ?_))); refine' store_L ?_ ?_ ?_ ?_ ?_ ?_ ?_; rotate_left 5; (first | dsimp only | rfl); (first | dsimp only | rfl); k_asm; k_asm; rfl; rfl; intro _ _ _; k_sweep) | walk1 | (dsimp only; first | ((fail_if_success (fail_if_success (with_reducible refine st_guard ?_))); refine' store_L ?_ ?_ ?_ ?_ ?_ ?_ ?_; rotate_left 5; (first | dsimp only | rfl); (first | dsimp only | rfl); k_asm; k_asm; rfl; rfl; intro _ _ _; k_sweep) | walk1) | (leave1; try dsimp only))))
        exact hret _ _ _ _ (by k_asm) (by k_asm) ⟨⟨_, by rw [e9]⟩, rfl⟩
/-- a straight rim: tabs, then blanks -/
noncomputable def strL (p : Nat) : List Nat := List.replicate p 9 ++ List.replicate (8 - p) 32

end
section
-- a fast form of the distance's table, in halves, on Nat
noncomputable def mnF (a b : Nat) : Nat := a - (a - b)
theorem mnF_eq (a b : Nat) : mnF a b = min a b := by unfold mnF; exact Nat.sub_sub_eq_min a b
noncomputable def bne (a b : Nat) : Nat := match Nat.beq a b with | true => 0 | false => 1
noncomputable def cellF (b a d res r : Nat) : Nat := mnF (mnF res r + 1) (d + bne b a)
noncomputable def rowF (b : Nat) : List Nat → List Nat → Nat → Nat → List Nat
  | a :: la, r :: row, d, res => cellF b a d res r :: rowF b la row r (cellF b a d res r)
  | _, _, _, _ => []
theorem rowF_len (b : Nat) : ∀ (la row : List Nat) (d res : Nat), la.length = row.length → (rowF b la row d res).length = la.length
  | [], _, _, _, _ => by simp [rowF]
  | a :: la, [], _, _, h => by simp at h
  | a :: la, r :: row, d, res, h => by
    rw [rowF, List.length_cons, rowF_len b la row _ _ (by simpa using h), List.length_cons]
theorem rowF_get (b : Nat) : ∀ (la row : List Nat) (d res i : Nat), la.length = row.length → i < la.length →
    (rowF b la row d res).getD i 0 = cellF b (la.getD i 0) (if i = 0 then d else row.getD (i - 1) 0) (if i = 0 then res else (rowF b la row d res).getD (i - 1) 0) (row.getD i 0)
  | [], _, _, _, _, _, hi => by simp at hi
  | a :: la, [], _, _, _, h, _ => by simp at h
  | a :: la, r :: row, d, res, 0, h, hi => by simp [rowF]
  | a :: la, r :: row, d, res, i + 1, h, hi => by
    rw [rowF, List.getD_cons_succ, List.getD_cons_succ, List.getD_cons_succ, if_neg (by omega), if_neg (by omega), rowF_get b la row _ _ i (by simpa using h) (by simpa using hi)]
    cases i with
    | zero => simp
    | succ j => simp
theorem mnI_two (a b : Nat) : mnI (2 * (a : Int)) (2 * (b : Int)) = 2 * ((mnF a b : Nat) : Int) := by
  rw [mnF_eq]; unfold mnI; split <;> omega
theorem bne_two (b a : Nat) : (if b = a then (0 : Int) else 2) = 2 * ((bne b a : Nat) : Int) := by
  unfold bne
  by_cases h : b = a
  · subst h; simp
  · rw [if_neg h]
    have : Nat.beq b a = false := by
      rcases hb : Nat.beq b a with _ | _
      · rfl
      · exact absurd (Nat.eq_of_beq_eq_true hb) h
    rw [this]; rfl
noncomputable def tw (l : List Nat) : List Int := l.map fun (x : Nat) => 2 * (x : Int)
theorem tw_get (l : List Nat) (i : Nat) : (tw l).getD i 0 = 2 * ((l.getD i 0 : Nat) : Int) := by
  unfold tw
  rw [List.getD_eq_getElem?_getD, List.getElem?_map, List.getD_eq_getElem?_getD]
  cases l[i]? <;> simp
structure InI (bc : Nat) (la row : List Nat) (j : Nat) (s : LSt) (i : Nat) : Prop where
  dist : s.dist = 2 * ((if i = 0 then j else row.getD (i - 1) 0 : Nat) : Int)
  res : s.res = 2 * ((if i = 0 then j else (rowF bc la row j j).getD (i - 1) 0 : Nat) : Int)
  mn : ∀ k < i, s.mn ≤ 2 * (((rowF bc la row j j).getD k 0 : Nat) : Int)
  len : s.row.length = la.length
  row : ∀ k, s.row.getD k 0 = 2 * ((if k < i then (rowF bc la row j j).getD k 0 else row.getD k 0 : Nat) : Int)
theorem inN_ok (bc : Nat) (la row : List Nat) (j : Nat) (hl : la.length = row.length) : ∀ i ≤ la.length, InI bc la row j (inN bc la ⟨(j : Int) * 2, (j : Int) * 2, 9223372036854775807, tw row⟩ i) i
  | 0, _ => ⟨by show (j : Int) * 2 = _; rw [if_pos rfl]; omega, by show (j : Int) * 2 = _; rw [if_pos rfl]; omega, fun k hk => by omega, by show (tw row).length = _; rw [tw, List.length_map, hl], fun k => by rw [if_neg (by omega)]; exact tw_get row k⟩
  | i + 1, hi => by
    have h := inN_ok bc la row j hl i (by omega)
    rw [inN_succ]
    generalize inN bc la ⟨(j : Int) * 2, (j : Int) * 2, 9223372036854775807, tw row⟩ i = s at h
    have e : stepR bc la s i = 2 * (((rowF bc la row j j).getD i 0 : Nat) : Int) := by
      unfold stepR
      rw [h.res, h.dist, h.row i, if_neg (show ¬ i < i by omega), bne_two, mnI_two, rowF_get bc la row j j i hl (by omega)]
      rw [show (2 : Int) * ((mnF (if i = 0 then j else (rowF bc la row j j).getD (i - 1) 0) (row.getD i 0) : Nat) : Int) + 2 = 2 * (((mnF (if i = 0 then j else (rowF bc la row j j).getD (i - 1) 0) (row.getD i 0) + 1 : Nat)) : Int) by omega]
      rw [show (2 : Int) * ((if i = 0 then j else row.getD (i - 1) 0 : Nat) : Int) + 2 * ((bne bc (la.getD i 0) : Nat) : Int) = 2 * (((if i = 0 then j else row.getD (i - 1) 0) + bne bc (la.getD i 0) : Nat) : Int) by omega]
      rw [mnI_two]
      rfl
    unfold inStep
    refine ⟨?_, ?_, ?_, ?_, ?_⟩
    · show s.row.getD i 0 = _
      rw [h.row i, if_neg (show ¬ i < i by omega), if_neg (by omega)]; rfl
    · show stepR bc la s i = _
      rw [e, if_neg (by omega)]; rfl
    · intro k hk
      show (if stepR bc la s i < s.mn then stepR bc la s i else s.mn) ≤ _
      by_cases hki : k = i
      · subst hki; rw [← e]; split <;> omega
      · have := h.mn k (by omega)
        split <;> omega
    · show (s.row.set i _).length = _
      rw [List.length_set, h.len]
    · intro k
      show (s.row.set i (stepR bc la s i)).getD k 0 = _
      by_cases hki : k = i
      · subst hki
        rw [if_pos (by omega), ← e, List.getD_eq_getElem?_getD, List.getElem?_set_self (by rw [h.len]; omega)]; rfl
      · rw [List.getD_eq_getElem?_getD, List.getElem?_set_ne (fun e => hki e.symm), ← List.getD_eq_getElem?_getD, h.row k]
        have : (k < i) = (k < i + 1) := by apply propext; omega
        simp only [this]
noncomputable def rowsF (la lb : List Nat) : Nat → List Nat
  | 0 => (List.range la.length).map (· + 1)
  | j + 1 => rowF (lb.getD j 0) la (rowsF la lb j) j j
theorem rowsF_len (la lb : List Nat) : ∀ j, (rowsF la lb j).length = la.length
  | 0 => by simp [rowsF]
  | j + 1 => by rw [rowsF, rowF_len _ _ _ _ _ (rowsF_len la lb j).symm]
theorem tw_rows0 (la lb : List Nat) : (List.range la.length).map (fun (i : Nat) => 2 + (i : Int) * 2) = tw (rowsF la lb 0) := by
  unfold tw rowsF
  rw [List.map_map]
  refine List.map_congr_left fun i _ => ?_
  show 2 + (i : Int) * 2 = 2 * ((i + 1 : Nat) : Int)
  omega
theorem tw_of {l : List Int} {r : List Nat} (hl : l.length = r.length) (h : ∀ k, l.getD k 0 = 2 * ((r.getD k 0 : Nat) : Int)) : l = tw r := by
  refine List.ext_getElem? fun k => ?_
  by_cases hk : k < l.length
  · have := h k
    rw [← tw_get] at this
    rw [List.getD_eq_getElem?_getD, List.getD_eq_getElem?_getD] at this
    have hk' : k < (tw r).length := by rw [tw, List.length_map]; omega
    rw [List.getElem?_eq_getElem hk, List.getElem?_eq_getElem hk'] at this ⊢
    simpa using this
  · rw [List.getElem?_eq_none (by omega), List.getElem?_eq_none (by rw [tw, List.length_map]; omega)]
theorem outN_ok (la lb : List Nat) (mc : Int) (hn : 0 < la.length) : ∀ j, outN la lb mc j = none ∨
    ∃ res, outN la lb mc j = some (res, tw (rowsF la lb j)) ∧ (0 < j → res = 2 * (((rowsF la lb j).getD (la.length - 1) 0 : Nat) : Int))
  | 0 => .inr ⟨0, by unfold outN; rw [tw_rows0 la lb], fun h => by omega⟩
  | j + 1 => by
    rcases outN_ok la lb mc hn j with h | ⟨res, h, _⟩
    · left; unfold outN; rw [h]
    · have I := inN_ok (lb.getD j 0) la (rowsF la lb j) j (rowsF_len la lb j).symm la.length (Nat.le_refl _)
      unfold outN; rw [h]
      dsimp only
      generalize inN (lb.getD j 0) la ⟨(j : Int) * 2, (j : Int) * 2, 9223372036854775807, tw (rowsF la lb j)⟩ la.length = s at I ⊢
      by_cases hm : mc < s.mn
      · left; rw [if_pos hm]
      · right
        refine ⟨s.res, ?_, fun _ => ?_⟩
        · rw [if_neg hm]
          congr 2
          refine tw_of (by rw [I.len, rowsF_len]) fun k => ?_
          rw [I.row k]
          by_cases hk : k < la.length
          · rw [if_pos hk]; rfl
          · rw [if_neg hk, List.getD_eq_getElem?_getD, List.getD_eq_getElem?_getD, List.getElem?_eq_none (by rw [rowsF_len]; omega), List.getElem?_eq_none (by rw [rowsF_len]; omega)]
        · rw [I.res, if_neg (by omega)]; rfl
theorem outN_some (la lb : List Nat) (mc : Int) (hn : 0 < la.length) : ∀ n, (∀ j < n, ∃ k < la.length, 2 * (((rowsF la lb (j + 1)).getD k 0 : Nat) : Int) ≤ mc) → outN la lb mc n ≠ none
  | 0, _ => by unfold outN; simp
  | n + 1, h => by
    have h0 := outN_some la lb mc hn n fun j hj => h j (by omega)
    rcases outN_ok la lb mc hn n with h1 | ⟨res, h1, _⟩
    · exact absurd h1 h0
    · have I := inN_ok (lb.getD n 0) la (rowsF la lb n) n (rowsF_len la lb n).symm la.length (Nat.le_refl _)
      unfold outN; rw [h1]
      dsimp only
      generalize inN (lb.getD n 0) la ⟨(n : Int) * 2, (n : Int) * 2, 9223372036854775807, tw (rowsF la lb n)⟩ la.length = s at I ⊢
      obtain ⟨k, hk, hle⟩ := h n (by omega)
      have := I.mn k hk
      have hle' : 2 * (((rowF (lb.getD n 0) la (rowsF la lb n) n n).getD k 0 : Nat) : Int) ≤ mc := hle
      rw [if_neg (by omega)]
      simp
noncomputable def okF (la : List Nat) (l : Nat) : List Nat → Nat → List Nat → Bool
  | [], _, row => Nat.beq (row.getLastD 0) l
  | b :: lb, j, row => (rowF b la row j j).any (fun x => Nat.ble x l) && okF la l lb (j + 1) (rowF b la row j j)
theorem okF_ok (la lb : List Nat) (l : Nat) : ∀ (lc : List Nat) (j : Nat), lb.drop j = lc → okF la l lc j (rowsF la lb j) = true →
    (∀ i, j ≤ i → i < lb.length → ∃ k < la.length, (rowsF la lb (i + 1)).getD k 0 ≤ l) ∧ (j ≤ lb.length → (rowsF la lb lb.length).getLastD 0 = l)
  | [], j, hd, h => by
    have hj : lb.length ≤ j := List.drop_eq_nil_iff.mp hd
    refine ⟨fun i hi h2 => by omega, fun h2 => ?_⟩
    have e : lb.length = j := by omega
    rw [e]
    exact Nat.eq_of_beq_eq_true h
  | b :: lc, j, hd, h => by
    have hj : j < lb.length := by
      rcases Nat.lt_or_ge j lb.length with h | h
      · exact h
      · rw [List.drop_eq_nil_of_le h] at hd; simp at hd
    have e1 : lb.drop j = lb.getD j 0 :: lb.drop (j + 1) := by
      rw [List.drop_eq_getElem_cons hj, List.getD_eq_getElem?_getD, List.getElem?_eq_getElem hj]; rfl
    rw [e1] at hd
    obtain ⟨hb, hd2⟩ := List.cons.inj hd
    subst hb
    have h' : ((rowsF la lb (j + 1)).any (fun x => Nat.ble x l) && okF la l lc (j + 1) (rowsF la lb (j + 1))) = true := h
    rw [Bool.and_eq_true] at h'
    have h3 := okF_ok la lb l lc (j + 1) hd2 h'.2
    refine ⟨fun i hi h2 => ?_, fun _ => h3.2 hj⟩
    by_cases hij : i = j
    · subst hij
      obtain ⟨x, hx, hle⟩ := List.any_eq_true.mp h'.1
      obtain ⟨k, hk, e⟩ := List.getElem_of_mem hx
      refine ⟨k, by rw [← rowsF_len la lb (i + 1)]; exact hk, ?_⟩
      rw [List.getD_eq_getElem?_getD, List.getElem?_eq_getElem hk, Option.getD_some, e]
      exact Nat.le_of_ble_eq_true hle
    · exact h3.1 i (by omega) h2
theorem levD_ok {la lb : List Nat} {l : Nat} (hn : 0 < la.length) (he : lb.length = la.length) (h : okF la l lb 0 ((List.range la.length).map (· + 1)) = true) {sp : Int} (h0 : 0 ≤ sp) :
    levD la lb (2 * (l : Int) - 1 + sp) = 2 * (l : Int) := by
  obtain ⟨h1, h2⟩ := okF_ok la lb l lb 0 rfl h
  have h3 := h2 (Nat.zero_le _)
  have hres : (rowsF la lb lb.length).getD (la.length - 1) 0 = l := by
    rw [← h3, List.getLastD_eq_getLast?, List.getLast?_eq_getElem?, List.getD_eq_getElem?_getD, rowsF_len]
  rcases outN_ok la lb (2 * (l : Int) - 1 + sp) hn lb.length with e | ⟨res, e, hr⟩
  · have hsp : sp = 0 := by
      rcases Int.lt_or_le 0 sp with hp | hp
      · refine absurd e (outN_some la lb _ hn lb.length fun j hj => ?_)
        obtain ⟨k, hk, hle⟩ := h1 j (Nat.zero_le _) hj
        exact ⟨k, hk, by omega⟩
      · omega
    unfold levD
    rw [e]
    dsimp only
    omega
  · unfold levD
    rw [e]
    dsimp only
    rw [hr (by omega), hres]
noncomputable def eqL : List Nat → List Nat → Bool
  | a :: r, b :: t => Nat.beq a b && eqL r t
  | [], [] => true
  | _, _ => false
theorem eqL_iff : ∀ (a b : List Nat), eqL a b = true ↔ a = b
  | a :: r, b :: t => by
    rw [eqL, Bool.and_eq_true, eqL_iff r t, List.cons.injEq, Nat.beq_eq]
  | [], [] => by simp [eqL]
  | a :: r, [] => by simp [eqL]
  | [], a :: r => by simp [eqL]
/-- the common part in front taken off, k letters at most -/
noncomputable def cutF : List Nat → List Nat → List Nat × List Nat
  | a :: r, b :: t => match Nat.beq a b with | true => cutF r t | false => (a :: r, b :: t)
  | l, t => (l, t)
theorem cutF_eq : ∀ (a b : List Nat), cutF a b = (a.drop (preN a b), b.drop (preN a b))
  | a :: r, b :: t => by
    rw [cutF, preN]
    by_cases h : a = b
    · subst h
      rw [Nat.beq_refl, if_pos rfl]
      exact cutF_eq r t
    · have h2 : Nat.beq a b = false := by
        rcases hb : Nat.beq a b with _ | _
        · rfl
        · exact absurd (Nat.eq_of_beq_eq_true hb) h
      rw [h2, if_neg h]; rfl
  | [], [] => by simp [cutF, preN]
  | a :: r, [] => by simp [cutF, preN]
  | [], a :: r => by simp [cutF, preN]
noncomputable def okL (la lb : List Nat) (l : Nat) : Bool :=
  let c := cutF la lb
  let d := cutF c.1.reverse c.2.reverse
  let x := d.1.reverse
  let y := d.2.reverse
  match eqL la lb with
  | true => Nat.beq l 0
  | false => match x, y with
    | a :: x, b :: y => Nat.beq x.length y.length && okF (a :: x) l (b :: y) 0 ((List.range (a :: x).length).map (· + 1))
    | _, _ => false
theorem drop_rev (a : List Nat) (k : Nat) : (a.reverse.drop k).reverse = a.take (a.length - k) := by
  rw [List.drop_reverse, List.reverse_reverse]
theorem levN_ok {la lb : List Nat} {l : Nat} (ha : la.length = 8) (hb : lb.length = 8) (h : okL la lb l = true) {sp : Int} (h0 : 0 ≤ sp) : levN la lb (2 * (l : Int) - 1 + sp) = 2 * (l : Int) := by
  unfold okL at h
  dsimp only at h
  rw [cutF_eq la lb] at h
  dsimp only at h
  rw [cutF_eq (la.drop (preN la lb)).reverse (lb.drop (preN la lb)).reverse] at h
  dsimp only at h
  rw [drop_rev, drop_rev, List.length_drop, List.length_drop, ha, hb] at h
  by_cases e : la = lb
  · rw [(eqL_iff la lb).mpr e] at h
    dsimp only at h
    have := Nat.eq_of_beq_eq_true h
    subst this
    unfold levN
    rw [if_pos e]; rfl
  · have e2 : eqL la lb = false := by
      rcases hb : eqL la lb with _ | _
      · rfl
      · exact absurd ((eqL_iff la lb).mp hb) e
    rw [e2] at h
    dsimp only at h
    unfold levN
    rw [if_neg e]
    by_cases hm : (2 * (l : Int) - 1 + sp) < 0
    · rw [if_pos hm]; omega
    · rw [if_neg hm]
      generalize (la.drop (preN la lb)).take (8 - preN la lb - preN (la.drop (preN la lb)).reverse (lb.drop (preN la lb)).reverse) = x at h ⊢
      generalize (lb.drop (preN la lb)).take (8 - preN la lb - preN (la.drop (preN la lb)).reverse (lb.drop (preN la lb)).reverse) = y at h ⊢
      rcases x with _ | ⟨a, x⟩
      · simp at h
      rcases y with _ | ⟨b, y⟩
      · simp at h
      dsimp only at h
      rw [Bool.and_eq_true] at h
      exact levD_ok (by simp) (by rw [List.length_cons, List.length_cons, Nat.eq_of_beq_eq_true h.1]) h.2 h0

end
section
noncomputable def chkL (r : Rw) : Bool := (List.range 9).all fun p => decide (0 ≤ (linesF (rimL r.R)).getD p 0) && okL (rimL r.R) (strL p) ((linesF (rimL r.R)).getD p 0).toNat
theorem t_lev : tbl.all chkL = true := by decide +kernel
theorem t_rot : tbl.all (fun r => okL (rimL r.R) ((rimL r.R).drop 1 ++ [(rimL r.R).getD 0 0]) 2) = true := by decide +kernel
theorem rim8 {r : Rw} (h : r ∈ tbl) : (rimL r.R).length = 8 := (f_rim h).2.2.2.2
theorem strL_eight {p : Nat} (h : p < 9) : (strL p).length = 8 := by
  unfold strL
  rw [List.length_append, List.length_replicate, List.length_replicate]; omega
theorem f_lev {r : Rw} (h : r ∈ tbl) {p : Nat} (hp : p < 9) {sp : Int} (h0 : 0 ≤ sp) : levN (rimL r.R) (strL p) (2 * (linesF (rimL r.R)).getD p 0 - 1 + sp) = 2 * (linesF (rimL r.R)).getD p 0 := by
  have h1 := all_mem (all_mem t_lev h) (List.mem_range.mpr hp)
  rw [Bool.and_eq_true] at h1
  have h2 : 0 ≤ (linesF (rimL r.R)).getD p 0 := of_decide_eq_true h1.1
  have h3 := levN_ok (rim8 h) (strL_eight hp) h1.2 h0
  rwa [Int.toNat_of_nonneg h2] at h3
theorem f_rot {r : Rw} (h : r ∈ tbl) {sp : Int} (h0 : 0 ≤ sp) : levN (rimL r.R) ((rimL r.R).drop 1 ++ [(rimL r.R).getD 0 0]) (3 + sp) = 4 := by
  have h1 := all_mem t_rot h
  have h8 := rim8 h
  exact levN_ok (l := 2) h8 (by rw [List.length_append, List.length_drop, h8]; rfl) h1 h0

end
section
theorem rst_Sg1 : True := by w_top off; trivial
open PyProof.Rows.LCg PyProof.Rows.LCt
theorem seg1 {w : World} {fl : Addr} {p : Program} {loose : List Str} {mean : ExcName → Option Value} {mg mb : Str → Option Value} {g : Heap} {L ax : Addr} {s : Shared} {m : Str → Option Value} {Q : Flow → Shared → Prop} {E : Value → Shared → Prop} {vs : List Value} {xs : List Int} {o1 o2 o3 : Obj}
    (G : LawG w p loose mean mg mb g L) (hls : g.IsList ax vs.toArray) (hi : IntsAre vs xs) (h63 : xs.length ≤ 63)
    (hm : ∀ p ∈ [(Str.ofString "script", Value.ref ax)], m p.1 = some p.2) (F : Fr g L s.heap m)
    (d1 : o1.data = .cell none) (d2 : o2.data = .cell none) (d3 : o3.data = .cell none)
    (N : News g L s.heap [(L + 3, o3), (L + 2, o2), (L + 1, o1), (110, tabObj #[]), (103, tabObj #[]), (205, tabObj #[])])
    (hnext : ∀ (nums : List Int) (D : Addr) (t1 t2 : Tok) (us : List Value) (kk : Nat) (m' : Str → Option Value) (h' : Heap) (tk' : Nat), IntsAre us nums → nums.length = 8 → (∀ x ∈ nums, 0 ≤ x ∧ x ≤ 4) →
      (∀ p ∈ [(Str.ofString "numbers", Value.ref D), (Str.ofString "spare", .int (xs.sum.fmod 3) t2), (Str.ofString "total", .int xs.sum t1)], m' p.1 = some p.2) → Fr g L h' m' →
      News g L h' ((D, W.listOf us.toArray kk) :: [(L + 3, o3), (L + 2, o2), (L + 1, o1), (110, tabObj #[]), (103, tabObj #[]), (205, tabObj #[])]) → Off1 D [(L + 3, o3), (L + 2, o2), (L + 1, o1), (110, tabObj #[]), (103, tabObj #[]), (205, tabObj #[])] → LawAt w fl L 3 Q E { s with heap := h', toks := tk' }) :
    LawAt w fl L 0 Q E s := by
  obtain ⟨B, X, T, C1, C2, C3, hL⟩ := G
  have F1 := fr_ps _ hm F
  clear F hm
  refine' seg_start ?e1 ?e2 ?_
  case e1 => exact rfl
  case e2 => exact rfl
  intro ek
  dsimp only [kstB] at F1
  (repeat' (first | (k_unfold; (try dsimp only)) | (k_end; wrow_close) | ((fail_if_success with_reducible (first | refine KswEnd_stop ?_ | refine call_stop ?_ | refine pyIter_stop ?_ | refine while_stop ?_ | refine for_stop ?_ | refine def_stop ?_ | refine CompSrcT_stop ?_ | refine CompSrc_stop ?_ | refine lca_stop ?_ | refine lce_stop ?_ | refine dsp_stop ?_ | refine lam_stop ?_ | refine cmp_stop ?_)); first | ((fail_if_success (fail_if_success (with_reducible refine st_guard ?_))); refine' store_L ?_ ?_ ?_ ?_ ?_ ?_ ?_; rotate_left 5; (first | dsimp only | rfl); (first | dsimp only | rfl); k_asm; k_asm; rfl; rfl; intro _ _ _; k_sweep) | ((with_reducible refine' len_base ?_ ?_ ?_ ?_ ?_); rotate_left 5; k_asm; assumption; assumption; omega) | ((with_reducible refine' add_ints ?_ ?_ ?_ ?_ ?_ ?_ ?_ ?_); rotate_left 10; k_asm; k_asm; k_mem; (first | k_mem | (refine List.Mem.tail _ ?_; assumption)); (first | k_asm | l_ints | exact IntsAre.cons _ _ IntsAre.nil); (first | k_asm | l_ints | exact IntsAre.cons _ _ IntsAre.nil); (first | omega | (simp only [List.length_append, List.length_take, List.length_drop, List.length_cons, List.length_nil]; omega)); lsm_bools) | ((with_reducible refine' slice_led ?_ ?_ ?_ ?_ ?_ ?_ ?_ ?_ ?_ ?_ ?_ ?_ ?_); rotate_left 12; rfl; rfl; k_asm; k_asm; kmk_list; kmk_part; kmk_part; (first | k_asm | l_ints | exact IntsAre.cons _ _ IntsAre.nil); kmk_nums; with_unfolding_all rfl; kmk_pure; (first | omega | (simp only [List.length_append, List.length_take, List.length_drop, List.length_cons, List.length_nil]; omega)); lsm_bools) | walk1 | (dsimp only; first | ((fail_if_success (fail_if_success (with_reducible refine st_guard ?_))); refine' store_L ?_ ?_ ?_ ?_ ?_ ?_ ?_; rotate_left 5; (first | dsimp only | rfl); (first | dsimp only | rfl); k_asm; k_asm; rfl; rfl; intro _ _ _; k_sweep) | ((with_reducible refine' len_base ?_ ?_ ?_ ?_ ?_); rotate_left 5; k_asm; assumption; assumption; omega) | ((with_reducible refine' add_ints ?_ ?_ ?_ ?_ ?_ ?_ ?_ ?_); rotate_left 10; k_asm; k_asm; k_mem; (first | k_mem | (refine List.Mem.tail _ ?_; assumption)); (first | k_asm | l_ints | exact IntsAre.cons _ _ IntsAre.nil); (first | k_asm | l_ints | exact IntsAre.cons _ _ IntsAre.nil); (first | omega | (simp only [List.length_append, List.length_take, List.length_drop, List.length_cons, List.length_nil]; omega)); lsm_bools) | ((with_reducible refine' slice_led ?_ ?_ ?_ ?_ ?_ ?_ ?_ ?_ ?_ ?_ ?_ ?_ ?_); rotate_left 12; rfl; rfl; k_asm; k_asm; kmk_list; kmk_part; kmk_part; (first | k_asm | l_ints | exact IntsAre.cons _ _ IntsAre.nil); kmk_nums; with_unfolding_all rfl; kmk_pure; (first | omega | (simp only [List.length_append, List.length_take, List.length_drop, List.length_cons, List.length_nil]; omega)); lsm_bools) | walk1) | (leave1; try dsimp only))))
  refine LCg.Assign_ListComp_U (F₀ := by k_asm) (by rfl) (by with_unfolding_all rfl) (by with_unfolding_all rfl) (by decide) (by rfl) (by decide) (by rfl) (by rfl) (by rfl) ?_
  (repeat' (first | (k_unfold; (try dsimp only)) | (k_end; wrow_close) | ((fail_if_success with_reducible (first | refine KswEnd_stop ?_ | refine call_stop ?_ | refine pyIter_stop ?_ | refine while_stop ?_ | refine for_stop ?_ | refine def_stop ?_ | refine CompSrcT_stop ?_ | refine CompSrc_stop ?_ | refine lca_stop ?_ | refine lce_stop ?_ | refine dsp_stop ?_ | refine lam_stop ?_ | refine cmp_stop ?_)); first | ((fail_if_success (fail_if_success (with_reducible refine st_guard ?_))); refine' store_L ?_ ?_ ?_ ?_ ?_ ?_ ?_; rotate_left 5; (first | dsimp only | rfl); (first | dsimp only | rfl); k_asm; k_asm; rfl; rfl; intro _ _ _; k_sweep) | ((with_reducible refine' len_base ?_ ?_ ?_ ?_ ?_); rotate_left 5; k_asm; assumption; assumption; omega) | ((with_reducible refine' add_ints ?_ ?_ ?_ ?_ ?_ ?_ ?_ ?_); rotate_left 10; k_asm; k_asm; k_mem; (first | k_mem | (refine List.Mem.tail _ ?_; assumption)); (first | k_asm | l_ints | exact IntsAre.cons _ _ IntsAre.nil); (first | k_asm | l_ints | exact IntsAre.cons _ _ IntsAre.nil); (first | omega | (simp only [List.length_append, List.length_take, List.length_drop, List.length_cons, List.length_nil]; omega)); lsm_bools) | ((with_reducible refine' slice_led ?_ ?_ ?_ ?_ ?_ ?_ ?_ ?_ ?_ ?_ ?_ ?_ ?_); rotate_left 12; rfl; rfl; k_asm; k_asm; kmk_list; kmk_part; kmk_part; (first | k_asm | l_ints | exact IntsAre.cons _ _ IntsAre.nil); kmk_nums; with_unfolding_all rfl; kmk_pure; (first | omega | (simp only [List.length_append, List.length_take, List.length_drop, List.length_cons, List.length_nil]; omega)); lsm_bools) | walk1 | (dsimp only; first | ((fail_if_success (fail_if_success (with_reducible refine st_guard ?_))); refine' store_L ?_ ?_ ?_ ?_ ?_ ?_ ?_; rotate_left 5; (first | dsimp only | rfl); (first | dsimp only | rfl); k_asm; k_asm; rfl; rfl; intro _ _ _; k_sweep) | ((with_reducible refine' len_base ?_ ?_ ?_ ?_ ?_); rotate_left 5; k_asm; assumption; assumption; omega) | ((with_reducible refine' add_ints ?_ ?_ ?_ ?_ ?_ ?_ ?_ ?_); rotate_left 10; k_asm; k_asm; k_mem; (first | k_mem | (refine List.Mem.tail _ ?_; assumption)); (first | k_asm | l_ints | exact IntsAre.cons _ _ IntsAre.nil); (first | k_asm | l_ints | exact IntsAre.cons _ _ IntsAre.nil); (first | omega | (simp only [List.length_append, List.length_take, List.length_drop, List.length_cons, List.length_nil]; omega)); lsm_bools) | ((with_reducible refine' slice_led ?_ ?_ ?_ ?_ ?_ ?_ ?_ ?_ ?_ ?_ ?_ ?_ ?_); rotate_left 12; rfl; rfl; k_asm; k_asm; kmk_list; kmk_part; kmk_part; (first | k_asm | l_ints | exact IntsAre.cons _ _ IntsAre.nil); kmk_nums; with_unfolding_all rfl; kmk_pure; (first | omega | (simp only [List.length_append, List.length_take, List.length_drop, List.length_cons, List.length_nil]; omega)); lsm_bools) | walk1) | (leave1; try dsimp only))))
  k_dflt (refine kba_turn (value' := PySem.Expr.Name (PySem.Str.ofString "_") ⟨0, 0, 0, 0⟩) (fun _ => rfl) ?_)
  rename_i h3 F3 N3 l3
  have hLit : ∀ t1 t2 t3 t4 t5 t6 t7 t8, IntsAre [.int 3 t1, .int 1 t2, .int 3 t3, .int 1 t4, .int 4 t5, .int 0 t6, .int 3 t7, .int 1 t8] [3, 1, 3, 1, 4, 0, 3, 1] := fun _ _ _ _ _ _ _ _ => .cons _ _ (.cons _ _ (.cons _ _ (.cons _ _ (.cons _ _ (.cons _ _ (.cons _ _ (.cons _ _ .nil)))))))
  refine' slice_led ?ha9 ?e9 F3 N3 (News.isList N3 (.head _)) (IsPart.int _ _) IsPart.none (hLit _ _ _ _ _ _ _ _) (kmk_from (hLit _ _ _ _ _ _ _ _) ?x9) ?s9 ?t9 ?z9 ?_
  case ha9 => exact rfl
  case e9 => exact rfl
  case x9 => exact Int.natCast_nonneg _
  case z9 => decide
  case s9 => with_unfolding_all rfl
  case t9 => kmk_pure
  intro D6 ws6 h6 F6 N6 l6 hI6
  k_lt l6
  (repeat' (first | (k_unfold; (try dsimp only)) | (k_end; wrow_close) | ((fail_if_success with_reducible (first | refine KswEnd_stop ?_ | refine call_stop ?_ | refine pyIter_stop ?_ | refine while_stop ?_ | refine for_stop ?_ | refine def_stop ?_ | refine CompSrcT_stop ?_ | refine CompSrc_stop ?_ | refine lca_stop ?_ | refine lce_stop ?_ | refine dsp_stop ?_ | refine lam_stop ?_ | refine cmp_stop ?_)); first | ((fail_if_success (fail_if_success (with_reducible refine st_guard ?_))); refine' store_L ?_ ?_ ?_ ?_ ?_ ?_ ?_; rotate_left 5; (first | dsimp only | rfl); (first | dsimp only | rfl); k_asm; k_asm; rfl; rfl; intro _ _ _; k_sweep) | ((with_reducible refine' len_base ?_ ?_ ?_ ?_ ?_); rotate_left 5; k_asm; assumption; assumption; omega) | ((with_reducible refine' add_ints ?_ ?_ ?_ ?_ ?_ ?_ ?_ ?_); rotate_left 10; k_asm; k_asm; k_mem; (first | k_mem | (refine List.Mem.tail _ ?_; assumption)); (first | k_asm | l_ints | exact IntsAre.cons _ _ IntsAre.nil); (first | k_asm | l_ints | exact IntsAre.cons _ _ IntsAre.nil); (first | omega | (simp only [List.length_append, List.length_take, List.length_drop, List.length_cons, List.length_nil]; omega)); lsm_bools) | ((with_reducible refine' slice_led ?_ ?_ ?_ ?_ ?_ ?_ ?_ ?_ ?_ ?_ ?_ ?_ ?_); rotate_left 12; rfl; rfl; k_asm; k_asm; kmk_list; kmk_part; kmk_part; (first | k_asm | l_ints | exact IntsAre.cons _ _ IntsAre.nil); kmk_nums; with_unfolding_all rfl; kmk_pure; (first | omega | (simp only [List.length_append, List.length_take, List.length_drop, List.length_cons, List.length_nil]; omega)); lsm_bools) | walk1 | (dsimp only; first | ((fail_if_success (fail_if_success (with_reducible refine st_guard ?_))); refine' store_L ?_ ?_ ?_ ?_ ?_ ?_ ?_; rotate_left 5; (first | dsimp only | rfl); (first | dsimp only | rfl); k_asm; k_asm; rfl; rfl; intro _ _ _; k_sweep) | ((with_reducible refine' len_base ?_ ?_ ?_ ?_ ?_); rotate_left 5; k_asm; assumption; assumption; omega) | ((with_reducible refine' add_ints ?_ ?_ ?_ ?_ ?_ ?_ ?_ ?_); rotate_left 10; k_asm; k_asm; k_mem; (first | k_mem | (refine List.Mem.tail _ ?_; assumption)); (first | k_asm | l_ints | exact IntsAre.cons _ _ IntsAre.nil); (first | k_asm | l_ints | exact IntsAre.cons _ _ IntsAre.nil); (first | omega | (simp only [List.length_append, List.length_take, List.length_drop, List.length_cons, List.length_nil]; omega)); lsm_bools) | ((with_reducible refine' slice_led ?_ ?_ ?_ ?_ ?_ ?_ ?_ ?_ ?_ ?_ ?_ ?_ ?_); rotate_left 12; rfl; rfl; k_asm; k_asm; kmk_list; kmk_part; kmk_part; (first | k_asm | l_ints | exact IntsAre.cons _ _ IntsAre.nil); kmk_nums; with_unfolding_all rfl; kmk_pure; (first | omega | (simp only [List.length_append, List.length_take, List.length_drop, List.length_cons, List.length_nil]; omega)); lsm_bools) | walk1) | (leave1; try dsimp only))))
  rename_i D7 ws7 h7 F7 N7 hI7 l7
  have hlen8 : (List.take 8 xs ++ List.drop (xs.length : Int).toNat [3, 1, 3, 1, 4, 0, 3, 1]).length = 8 := by
    rw [Int.toNat_natCast, List.length_append, List.length_take, List.length_drop]
    simp only [List.length_cons, List.length_nil]
    omega
  generalize (List.take 8 xs ++ List.drop (xs.length : Int).toNat [3, 1, 3, 1, 4, 0, 3, 1]) = bs at hI7 hlen8
  have hw7 := hI7.length
  have N9 : News g L h7 ((D7, W.listOf ws7.toArray 0) :: [(L + 3, o3), (L + 2, o2), (L + 1, o1), (110, tabObj #[]), (103, tabObj #[]), (205, tabObj #[])]) := news_sub N7 (by
    intro p hp
    simp only [List.mem_cons] at hp ⊢
    rcases hp with h | h
    · exact .inl h
    · exact .inr (.inr (.inr (.inr h))))
  refine LCg.CompSrc.ledger rfl F7 N9 (.head _) (by rw [List.size_toArray, sizeLine_eq]; omega) ?_
  intro g8
  refine restU_ind 8 (fun i ys nw => nw = (D7, W.listOf ws7.toArray 0) :: [(L + 3, o3), (L + 2, o2), (L + 1, o1), (110, tabObj #[]), (103, tabObj #[]), (205, tabObj #[])] ∧ IntsAre ys ((bs.take i).map fun (x : Int) => x.fmod 5)) ?turn ?fin _ 0 [] _ (by rw [List.size_toArray, hw7, hlen8]) ⟨rfl, .nil⟩
  case turn =>
    rintro j ys nw hj ⟨rfl, hys⟩ v I2 oI2 C oC2 D m₂ h tk E' hv hC hx FF NN off nn
    obtain ⟨bj, hbj⟩ : ∃ b, bs[j]? = some b := ⟨_, List.getElem?_eq_getElem (by omega)⟩
    obtain ⟨t, ht⟩ := hI7.get j _ hbj
    have hv2 : v = Value.int bj t := by
      have hv3 : ws7[j]? = some v := by simpa using hv
      exact Option.some.inj (hv3.symm.trans ht)
    subst hv2
    (repeat' (first | (k_unfold; (try dsimp only)) | (k_end; wrow_close) | ((fail_if_success with_reducible (first | refine KswEnd_stop ?_ | refine call_stop ?_ | refine pyIter_stop ?_ | refine while_stop ?_ | refine for_stop ?_ | refine def_stop ?_ | refine CompSrcT_stop ?_ | refine CompSrc_stop ?_ | refine lca_stop ?_ | refine lce_stop ?_ | refine dsp_stop ?_ | refine lam_stop ?_ | refine cmp_stop ?_)); first | ((fail_if_success (fail_if_success (with_reducible refine st_guard ?_))); refine' store_L ?_ ?_ ?_ ?_ ?_ ?_ ?_; rotate_left 5; (first | dsimp only | rfl); (first | dsimp only | rfl); k_asm; k_asm; rfl; rfl; intro _ _ _; k_sweep) | ((with_reducible refine' len_base ?_ ?_ ?_ ?_ ?_); rotate_left 5; k_asm; assumption; assumption; omega) | ((with_reducible refine' add_ints ?_ ?_ ?_ ?_ ?_ ?_ ?_ ?_); rotate_left 10; k_asm; k_asm; k_mem; (first | k_mem | (refine List.Mem.tail _ ?_; assumption)); (first | k_asm | l_ints | exact IntsAre.cons _ _ IntsAre.nil); (first | k_asm | l_ints | exact IntsAre.cons _ _ IntsAre.nil); (first | omega | (simp only [List.length_append, List.length_take, List.length_drop, List.length_cons, List.length_nil]; omega)); lsm_bools) | ((with_reducible refine' slice_led ?_ ?_ ?_ ?_ ?_ ?_ ?_ ?_ ?_ ?_ ?_ ?_ ?_); rotate_left 12; rfl; rfl; k_asm; k_asm; kmk_list; kmk_part; kmk_part; (first | k_asm | l_ints | exact IntsAre.cons _ _ IntsAre.nil); kmk_nums; with_unfolding_all rfl; kmk_pure; (first | omega | (simp only [List.length_append, List.length_take, List.length_drop, List.length_cons, List.length_nil]; omega)); lsm_bools) | walk1 | (dsimp only; first | ((fail_if_success (fail_if_success (with_reducible refine st_guard ?_))); refine' store_L ?_ ?_ ?_ ?_ ?_ ?_ ?_; rotate_left 5; (first | dsimp only | rfl); (first | dsimp only | rfl); k_asm; k_asm; rfl; rfl; intro _ _ _; k_sweep) | ((with_reducible refine' len_base ?_ ?_ ?_ ?_ ?_); rotate_left 5; k_asm; assumption; assumption; omega) | ((with_reducible refine' add_ints ?_ ?_ ?_ ?_ ?_ ?_ ?_ ?_); rotate_left 10; k_asm; k_asm; k_mem; (first | k_mem | (refine List.Mem.tail _ ?_; assumption)); (first | k_asm | l_ints | exact IntsAre.cons _ _ IntsAre.nil); (first | k_asm | l_ints | exact IntsAre.cons _ _ IntsAre.nil); (first | omega | (simp only [List.length_append, List.length_take, List.length_drop, List.length_cons, List.length_nil]; omega)); lsm_bools) | ((with_reducible refine' slice_led ?_ ?_ ?_ ?_ ?_ ?_ ?_ ?_ ?_ ?_ ?_ ?_ ?_); rotate_left 12; rfl; rfl; k_asm; k_asm; kmk_list; kmk_part; kmk_part; (first | k_asm | l_ints | exact IntsAre.cons _ _ IntsAre.nil); kmk_nums; with_unfolding_all rfl; kmk_pure; (first | omega | (simp only [List.length_append, List.length_take, List.length_drop, List.length_cons, List.length_nil]; omega)); lsm_bools) | walk1) | (leave1; try dsimp only))))
    refine CompEnd.intro FF NN _ (fun p h => h) off (.inr ⟨_, .head _, rfl, _, rfl⟩) ⟨rfl, ?_⟩
    rw [List.take_add_one, hbj, List.map_append]
    exact intsAre_append hys (.cons _ _ .nil)
  case fin =>
    rintro ys nw ⟨rfl, hys⟩
    rw [List.take_of_length_le (by omega)] at hys
    intro D8 h8 tk8 F8 N8 off8
    refine' hnext (bs.map fun (x : Int) => x.fmod 5) D8 _ _ ys ys.length _ h8 tk8 hys (by rw [List.length_map, hlen8]) ?_ ?hps F8 ?_ off8.2
    case hps => kst_all1
    · intro x hx
      obtain ⟨b, _, rfl⟩ := List.mem_map.mp hx
      have h1 := Int.fmod_nonneg_of_pos b (b := 5) (by decide)
      have h2 := Int.fmod_lt_of_pos b (b := 5) (by decide)
      omega
    · exact news_sub N8 fun p hp => by
        rcases List.mem_cons.mp hp with h | h
        · subst h; exact List.Mem.head _
        · exact .tail _ (.tail _ h)

end
section
theorem rst_Sg14 : True := by w_top off; trivial
theorem strL_len (q : Nat) (h : q ≤ 8) : (strL q).length = 8 := by
  unfold strL; rw [List.length_append, List.length_replicate, List.length_replicate]; omega
theorem strL_two (q : Nat) : ∀ c ∈ strL q, c = 32 ∨ c = 9 := by
  intro c hc
  unfold strL at hc
  rcases List.mem_append.mp hc with h | h
  · exact .inr (List.mem_replicate.mp h).2
  · exact .inl (List.mem_replicate.mp h).2
theorem strL_of {y : Str} {x : Int} (h0 : 0 ≤ x) (h8 : x ≤ 8) (h : y.cps.toList = List.replicate x.toNat 9 ++ List.replicate (8 - x).toNat 32) : y.cps.toList = strL x.toNat := by
  have e : (8 - x).toNat = 8 - x.toNat := by
    obtain ⟨k, rfl⟩ := Int.eq_ofNat_of_zero_le h0
    exact Int.toNat_sub 8 k
  unfold strL; rw [← e]; exact h
theorem seg14 {w : World} {fl : Addr} {p : Program} {loose : List Str} {mean : ExcName → Option Value} {mg mb : Str → Option Value} {g : Heap} {L Li : Addr} {s : Shared} {m : Str → Option Value} {Q : Flow → Shared → Prop} {E : Value → Shared → Prop} {t1 t2 ty tf tm : Tok} {y : Str} {tot spa most fst : Int} {vsL : List Value} {nL : List Int} {la : List Nat} {kL : Nat} {o2 : Obj} {pa pb pc : Array Value}
    (G : LawG w p loose mean mg mb g L) (hy : y.cps.toList = la) (hl8 : la.length = 8) (h29 : ∀ c ∈ la, c = 32 ∨ c = 9) (hiL : IntsAre vsL nL) (hL9 : nL.length = 9) (hs0 : 0 ≤ spa) (hs2 : spa ≤ 2) (hf0 : 0 ≤ fst) (hf8 : fst ≤ 8) (hmost : most = nL.getD fst.toNat 0)
    (d2 : o2.data = .cell (some (.ref Li))) (nLi : @Ne Nat Li (L + 2))
    (hlev : ∀ q : Nat, q < 9 → levN la (strL q) (2 * nL.getD q 0 - 1 + spa) = 2 * nL.getD q 0) (hrot : levN la (la.drop 1 ++ [la.getD 0 0]) (3 + spa) = 4)
    (hm : ∀ p ∈ [(Str.ofString "most", Value.int most tm), (Str.ofString "first", Value.int fst tf), (Str.ofString "rim", Value.str y ty), (Str.ofString "spare", .int spa t2), (Str.ofString "total", .int tot t1)], m p.1 = some p.2) (F : Fr g L s.heap m)
    (N : News g L s.heap [(Li, W.listOf vsL.toArray kL), (L + 2, o2), (110, tabObj pa), (103, tabObj pb), (205, tabObj pc)])
    (hret : ∀ (tr : Tok) (m' : Str → Option Value) (h' : Heap) (tk' : Nat), Fr g L h' m' → News g L h' [(110, tabObj pa), (103, tabObj pb), (205, tabObj pc)] → Q (.ret (.bool true)) { s with heap := h', toks := tk' }) :
    LawAt w fl L 38 Q E s := by
  obtain ⟨B, X, T, C1, C2, C3, hL⟩ := G
  have F1 := fr_ps _ hm F
  clear F hm
  refine' seg_start ?e1 ?e2 ?_
  case e1 => exact rfl
  case e2 => exact rfl
  intro ek
  dsimp only [kstB] at F1
  (repeat' (first | (k_unfold; (try dsimp only)) | (k_end; wrow_close) | ((fail_if_success with_reducible (first | refine KswEnd_stop ?_ | refine call_stop ?_ | refine pyIter_stop ?_ | refine while_stop ?_ | refine for_stop ?_ | refine def_stop ?_ | refine CompSrcT_stop ?_ | refine CompSrc_stop ?_ | refine lca_stop ?_ | refine lce_stop ?_ | refine dsp_stop ?_ | refine lam_stop ?_ | refine cmp_stop ?_)); first | ((fail_if_success (fail_if_success (with_reducible refine st_guard ?_))); refine' store_L ?_ ?_ ?_ ?_ ?_ ?_ ?_; rotate_left 5; (first | dsimp only | rfl); (first | dsimp only | rfl); k_asm; k_asm; rfl; rfl; intro _ _ _; k_sweep) | ((with_reducible refine' sit ?_ ?_ ?_ ?_ ?_ ?_ ?_); rotate_left; (first | with_reducible assumption | omega | assumption); (first | with_reducible assumption | omega | assumption); (first | with_reducible assumption | omega | assumption); with_reducible assumption; with_unfolding_all rfl; kmk_pure) | ((with_reducible refine' ssn ?_ ?_ ?_ ?_ ?_ ?_ ?_ ?_); rotate_left 7; rfl; rfl; k_asm; k_asm; (first | with_reducible assumption | omega | assumption); with_unfolding_all rfl; kmk_pure; intro _ _ _ _ _; k_sweep) | ((with_reducible refine' sadd_led ?_ ?_ ?_ ?_); rotate_left 2; (first | exact lit_tab | exact lit_sp | exact lit_x | assumption); (first | exact lit_tab | exact lit_sp | exact lit_x | assumption); (simp only [List.length_append, List.length_replicate, List.length_drop, List.length_cons, List.length_nil]; omega); intro _ _ _ _) | ((with_reducible refine' smul_led ?_ ?_ ?_ ?_); rotate_left; (first | exact lit_tab | exact lit_sp | exact lit_x | assumption); (first | with_reducible assumption | omega | assumption); omega; intro _ _ _ _) | ((with_reducible refine' item_int ?_ ?_ ?_ ?_ ?_ ?_ ?_ ?_); rotate_left 6; k_asm; (first | k_asm | k_mem); k_asm; (first | exact ix0 _ | omega); (first | (refine ix1 ?_ ?_ <;> assumption) | omega | (simp only [List.length_append, List.length_cons, List.length_nil]; omega)); (first | omega | (simp only [List.length_append, List.length_cons, List.length_nil]; omega)); rotate_left; with_unfolding_all rfl; intro _) | ((with_reducible refine' floordiv_D ?_ ?_ ?_); (first | k_asm | omega | decide); (first | k_asm | omega | decide +kernel)) | walk1 | (dsimp only; first | ((fail_if_success (fail_if_success (with_reducible refine st_guard ?_))); refine' store_L ?_ ?_ ?_ ?_ ?_ ?_ ?_; rotate_left 5; (first | dsimp only | rfl); (first | dsimp only | rfl); k_asm; k_asm; rfl; rfl; intro _ _ _; k_sweep) | ((with_reducible refine' sit ?_ ?_ ?_ ?_ ?_ ?_ ?_); rotate_left; (first | with_reducible assumption | omega | assumption); (first | with_reducible assumption | omega | assumption); (first | with_reducible assumption | omega | assumption); with_reducible assumption; with_unfolding_all rfl; kmk_pure) | ((with_reducible refine' ssn ?_ ?_ ?_ ?_ ?_ ?_ ?_ ?_); rotate_left 7; rfl; rfl; k_asm; k_asm; (first | with_reducible assumption | omega | assumption); with_unfolding_all rfl; kmk_pure; intro _ _ _ _ _; k_sweep) | ((with_reducible refine' sadd_led ?_ ?_ ?_ ?_); rotate_left 2; (first | exact lit_tab | exact lit_sp | exact lit_x | assumption); (first | exact lit_tab | exact lit_sp | exact lit_x | assumption); (simp only [List.length_append, List.length_replicate, List.length_drop, List.length_cons, List.length_nil]; omega); intro _ _ _ _) | ((with_reducible refine' smul_led ?_ ?_ ?_ ?_); rotate_left; (first | exact lit_tab | exact lit_sp | exact lit_x | assumption); (first | with_reducible assumption | omega | assumption); omega; intro _ _ _ _) | ((with_reducible refine' item_int ?_ ?_ ?_ ?_ ?_ ?_ ?_ ?_); rotate_left 6; k_asm; (first | k_asm | k_mem); k_asm; (first | exact ix0 _ | omega); (first | (refine ix1 ?_ ?_ <;> assumption) | omega | (simp only [List.length_append, List.length_cons, List.length_nil]; omega)); (first | omega | (simp only [List.length_append, List.length_cons, List.length_nil]; omega)); rotate_left; with_unfolding_all rfl; intro _) | ((with_reducible refine' floordiv_D ?_ ?_ ?_); (first | k_asm | omega | decide); (first | k_asm | omega | decide +kernel)) | walk1) | (leave1; try dsimp only))))
  have hdr : 0 ≤ (tot.fdiv 3).fmod 9 ∧ (tot.fdiv 3).fmod 9 < 9 := ⟨Int.fmod_nonneg_of_pos _ (by decide), Int.fmod_lt_of_pos _ (by decide)⟩
  refine For_turns (by k_asm) ?_
  (repeat' (first | (k_unfold; (try dsimp only)) | (k_end; wrow_close) | ((fail_if_success with_reducible (first | refine KswEnd_stop ?_ | refine call_stop ?_ | refine pyIter_stop ?_ | refine while_stop ?_ | refine for_stop ?_ | refine def_stop ?_ | refine CompSrcT_stop ?_ | refine CompSrc_stop ?_ | refine lca_stop ?_ | refine lce_stop ?_ | refine dsp_stop ?_ | refine lam_stop ?_ | refine cmp_stop ?_)); first | ((fail_if_success (fail_if_success (with_reducible refine st_guard ?_))); refine' store_L ?_ ?_ ?_ ?_ ?_ ?_ ?_; rotate_left 5; (first | dsimp only | rfl); (first | dsimp only | rfl); k_asm; k_asm; rfl; rfl; intro _ _ _; k_sweep) | ((with_reducible refine' sit ?_ ?_ ?_ ?_ ?_ ?_ ?_); rotate_left; (first | with_reducible assumption | omega | assumption); (first | with_reducible assumption | omega | assumption); (first | with_reducible assumption | omega | assumption); with_reducible assumption; with_unfolding_all rfl; kmk_pure) | ((with_reducible refine' ssn ?_ ?_ ?_ ?_ ?_ ?_ ?_ ?_); rotate_left 7; rfl; rfl; k_asm; k_asm; (first | with_reducible assumption | omega | assumption); with_unfolding_all rfl; kmk_pure; intro _ _ _ _ _; k_sweep) | ((with_reducible refine' sadd_led ?_ ?_ ?_ ?_); rotate_left 2; (first | exact lit_tab | exact lit_sp | exact lit_x | assumption); (first | exact lit_tab | exact lit_sp | exact lit_x | assumption); (simp only [List.length_append, List.length_replicate, List.length_drop, List.length_cons, List.length_nil]; omega); intro _ _ _ _) | ((with_reducible refine' smul_led ?_ ?_ ?_ ?_); rotate_left; (first | exact lit_tab | exact lit_sp | exact lit_x | assumption); (first | with_reducible assumption | omega | assumption); omega; intro _ _ _ _) | ((with_reducible refine' item_int ?_ ?_ ?_ ?_ ?_ ?_ ?_ ?_); rotate_left 6; k_asm; (first | k_asm | k_mem); k_asm; (first | exact ix0 _ | omega); (first | (refine ix1 ?_ ?_ <;> assumption) | omega | (simp only [List.length_append, List.length_cons, List.length_nil]; omega)); (first | omega | (simp only [List.length_append, List.length_cons, List.length_nil]; omega)); rotate_left; with_unfolding_all rfl; intro _) | ((with_reducible refine' floordiv_D ?_ ?_ ?_); (first | k_asm | omega | decide); (first | k_asm | omega | decide +kernel)) | walk1 | (dsimp only; first | ((fail_if_success (fail_if_success (with_reducible refine st_guard ?_))); refine' store_L ?_ ?_ ?_ ?_ ?_ ?_ ?_; rotate_left 5; (first | dsimp only | rfl); (first | dsimp only | rfl); k_asm; k_asm; rfl; rfl; intro _ _ _; k_sweep) | ((with_reducible refine' sit ?_ ?_ ?_ ?_ ?_ ?_ ?_); rotate_left; (first | with_reducible assumption | omega | assumption); (first | with_reducible assumption | omega | assumption); (first | with_reducible assumption | omega | assumption); with_reducible assumption; with_unfolding_all rfl; kmk_pure) | ((with_reducible refine' ssn ?_ ?_ ?_ ?_ ?_ ?_ ?_ ?_); rotate_left 7; rfl; rfl; k_asm; k_asm; (first | with_reducible assumption | omega | assumption); with_unfolding_all rfl; kmk_pure; intro _ _ _ _ _; k_sweep) | ((with_reducible refine' sadd_led ?_ ?_ ?_ ?_); rotate_left 2; (first | exact lit_tab | exact lit_sp | exact lit_x | assumption); (first | exact lit_tab | exact lit_sp | exact lit_x | assumption); (simp only [List.length_append, List.length_replicate, List.length_drop, List.length_cons, List.length_nil]; omega); intro _ _ _ _) | ((with_reducible refine' smul_led ?_ ?_ ?_ ?_); rotate_left; (first | exact lit_tab | exact lit_sp | exact lit_x | assumption); (first | with_reducible assumption | omega | assumption); omega; intro _ _ _ _) | ((with_reducible refine' item_int ?_ ?_ ?_ ?_ ?_ ?_ ?_ ?_); rotate_left 6; k_asm; (first | k_asm | k_mem); k_asm; (first | exact ix0 _ | omega); (first | (refine ix1 ?_ ?_ <;> assumption) | omega | (simp only [List.length_append, List.length_cons, List.length_nil]; omega)); (first | omega | (simp only [List.length_append, List.length_cons, List.length_nil]; omega)); rotate_left; with_unfolding_all rfl; intro _) | ((with_reducible refine' floordiv_D ?_ ?_ ?_); (first | k_asm | omega | decide); (first | k_asm | omega | decide +kernel)) | walk1) | (leave1; try dsimp only))))
  rename _ = List.replicate fst.toNat 9 ++ List.replicate (8 - fst).toNat 32 => e1
  have e2 := strL_of hf0 hf8 e1
  clear e1
  (with_unfolding_all refine' Does.use (lev_c w _ y _ ty _ _ (2 * most - 1 + spa) la (strL fst.toNat) hy e2 hl8 (strL_len _ (by omega)) h29 (strL_two _)) (by k_asm) (by k_asm) (by k_asm) (by k_asm) (by k_asm) (by assumption) (by assumption) (by first | exact rfl | assumption) (by ktr_room) (by ktr_units) ?_)
  intro r9 news9 h9 tk9 F9 N9 O9
  revert N9
  apply int_elim O9
  clear O9
  intro tk8 N9
  have hl := hlev fst.toNat (by omega)
  rw [← hmost] at hl
  rw [hl]
  dsimp only
  (repeat' (first | (k_unfold; (try dsimp only)) | (k_end; wrow_close) | ((fail_if_success with_reducible (first | refine KswEnd_stop ?_ | refine call_stop ?_ | refine pyIter_stop ?_ | refine while_stop ?_ | refine for_stop ?_ | refine def_stop ?_ | refine CompSrcT_stop ?_ | refine CompSrc_stop ?_ | refine lca_stop ?_ | refine lce_stop ?_ | refine dsp_stop ?_ | refine lam_stop ?_ | refine cmp_stop ?_)); first | ((fail_if_success (fail_if_success (with_reducible refine st_guard ?_))); refine' store_L ?_ ?_ ?_ ?_ ?_ ?_ ?_; rotate_left 5; (first | dsimp only | rfl); (first | dsimp only | rfl); k_asm; k_asm; rfl; rfl; intro _ _ _; k_sweep) | ((with_reducible refine' sit ?_ ?_ ?_ ?_ ?_ ?_ ?_); rotate_left; (first | with_reducible assumption | omega | assumption); (first | with_reducible assumption | omega | assumption); (first | with_reducible assumption | omega | assumption); with_reducible assumption; with_unfolding_all rfl; kmk_pure) | ((with_reducible refine' ssn ?_ ?_ ?_ ?_ ?_ ?_ ?_ ?_); rotate_left 7; rfl; rfl; k_asm; k_asm; (first | with_reducible assumption | omega | assumption); with_unfolding_all rfl; kmk_pure; intro _ _ _ _ _; k_sweep) | ((with_reducible refine' sadd_led ?_ ?_ ?_ ?_); rotate_left 2; (first | exact lit_tab | exact lit_sp | exact lit_x | assumption); (first | exact lit_tab | exact lit_sp | exact lit_x | assumption); (simp only [List.length_append, List.length_replicate, List.length_drop, List.length_cons, List.length_nil]; omega); intro _ _ _ _) | ((with_reducible refine' smul_led ?_ ?_ ?_ ?_); rotate_left; (first | exact lit_tab | exact lit_sp | exact lit_x | assumption); (first | with_reducible assumption | omega | assumption); omega; intro _ _ _ _) | ((with_reducible refine' item_int ?_ ?_ ?_ ?_ ?_ ?_ ?_ ?_); rotate_left 6; k_asm; (first | k_asm | k_mem); k_asm; (first | exact ix0 _ | omega); (first | (refine ix1 ?_ ?_ <;> assumption) | omega | (simp only [List.length_append, List.length_cons, List.length_nil]; omega)); (first | omega | (simp only [List.length_append, List.length_cons, List.length_nil]; omega)); rotate_left; with_unfolding_all rfl; intro _) | ((with_reducible refine' floordiv_D ?_ ?_ ?_); (first | k_asm | omega | decide); (first | k_asm | omega | decide +kernel)) | walk1 | (dsimp only; first | ((fail_if_success (fail_if_success (with_reducible refine st_guard ?_))); refine' store_L ?_ ?_ ?_ ?_ ?_ ?_ ?_; rotate_left 5; (first | dsimp only | rfl); (first | dsimp only | rfl); k_asm; k_asm; rfl; rfl; intro _ _ _; k_sweep) | ((with_reducible refine' sit ?_ ?_ ?_ ?_ ?_ ?_ ?_); rotate_left; (first | with_reducible assumption | omega | assumption); (first | with_reducible assumption | omega | assumption); (first | with_reducible assumption | omega | assumption); with_reducible assumption; with_unfolding_all rfl; kmk_pure) | ((with_reducible refine' ssn ?_ ?_ ?_ ?_ ?_ ?_ ?_ ?_); rotate_left 7; rfl; rfl; k_asm; k_asm; (first | with_reducible assumption | omega | assumption); with_unfolding_all rfl; kmk_pure; intro _ _ _ _ _; k_sweep) | ((with_reducible refine' sadd_led ?_ ?_ ?_ ?_); rotate_left 2; (first | exact lit_tab | exact lit_sp | exact lit_x | assumption); (first | exact lit_tab | exact lit_sp | exact lit_x | assumption); (simp only [List.length_append, List.length_replicate, List.length_drop, List.length_cons, List.length_nil]; omega); intro _ _ _ _) | ((with_reducible refine' smul_led ?_ ?_ ?_ ?_); rotate_left; (first | exact lit_tab | exact lit_sp | exact lit_x | assumption); (first | with_reducible assumption | omega | assumption); omega; intro _ _ _ _) | ((with_reducible refine' item_int ?_ ?_ ?_ ?_ ?_ ?_ ?_ ?_); rotate_left 6; k_asm; (first | k_asm | k_mem); k_asm; (first | exact ix0 _ | omega); (first | (refine ix1 ?_ ?_ <;> assumption) | omega | (simp only [List.length_append, List.length_cons, List.length_nil]; omega)); (first | omega | (simp only [List.length_append, List.length_cons, List.length_nil]; omega)); rotate_left; with_unfolding_all rfl; intro _) | ((with_reducible refine' floordiv_D ?_ ?_ ?_); (first | k_asm | omega | decide); (first | k_asm | omega | decide +kernel)) | walk1) | (leave1; try dsimp only))))
  · exact absurd rfl ‹2 * most ≠ 2 * most›
  rename _ = List.replicate ((tot.fdiv 3).fmod 9).toNat 9 ++ List.replicate (8 - (tot.fdiv 3).fmod 9).toNat 32 => e1
  have e3 := strL_of hdr.1 (by omega) e1
  clear e1
  (with_unfolding_all refine' Does.use (lev_c w _ y _ ty _ _ (2 * nL.getD ((tot.fdiv 3).fmod 9).toNat 0 - 1 + spa) la (strL ((tot.fdiv 3).fmod 9).toNat) hy e3 hl8 (strL_len _ (by omega)) h29 (strL_two _)) (by k_asm) (by k_asm) (by k_asm) (by k_asm) (by k_asm) (by assumption) (by assumption) (by first | exact rfl | assumption) (by ktr_room) (by ktr_units) ?_)
  intro r9 news9 h9 tk9 F9 N9 O9
  revert N9
  apply int_elim O9
  clear O9
  intro tk8 N9
  have hl2 := hlev ((tot.fdiv 3).fmod 9).toNat (by omega)
  rw [hl2]
  dsimp only
  (repeat' (first | (k_unfold; (try dsimp only)) | (k_end; wrow_close) | ((fail_if_success with_reducible (first | refine KswEnd_stop ?_ | refine call_stop ?_ | refine pyIter_stop ?_ | refine while_stop ?_ | refine for_stop ?_ | refine def_stop ?_ | refine CompSrcT_stop ?_ | refine CompSrc_stop ?_ | refine lca_stop ?_ | refine lce_stop ?_ | refine dsp_stop ?_ | refine lam_stop ?_ | refine cmp_stop ?_)); first | ((fail_if_success (fail_if_success (with_reducible refine st_guard ?_))); refine' store_L ?_ ?_ ?_ ?_ ?_ ?_ ?_; rotate_left 5; (first | dsimp only | rfl); (first | dsimp only | rfl); k_asm; k_asm; rfl; rfl; intro _ _ _; k_sweep) | ((with_reducible refine' sit ?_ ?_ ?_ ?_ ?_ ?_ ?_); rotate_left; (first | with_reducible assumption | omega | assumption); (first | with_reducible assumption | omega | assumption); (first | with_reducible assumption | omega | assumption); with_reducible assumption; with_unfolding_all rfl; kmk_pure) | ((with_reducible refine' ssn ?_ ?_ ?_ ?_ ?_ ?_ ?_ ?_); rotate_left 7; rfl; rfl; k_asm; k_asm; (first | with_reducible assumption | omega | assumption); with_unfolding_all rfl; kmk_pure; intro _ _ _ _ _; k_sweep) | ((with_reducible refine' sadd_led ?_ ?_ ?_ ?_); rotate_left 2; (first | exact lit_tab | exact lit_sp | exact lit_x | assumption); (first | exact lit_tab | exact lit_sp | exact lit_x | assumption); (simp only [List.length_append, List.length_replicate, List.length_drop, List.length_cons, List.length_nil]; omega); intro _ _ _ _) | ((with_reducible refine' smul_led ?_ ?_ ?_ ?_); rotate_left; (first | exact lit_tab | exact lit_sp | exact lit_x | assumption); (first | with_reducible assumption | omega | assumption); omega; intro _ _ _ _) | ((with_reducible refine' item_int ?_ ?_ ?_ ?_ ?_ ?_ ?_ ?_); rotate_left 6; k_asm; (first | k_asm | k_mem); k_asm; (first | exact ix0 _ | omega); (first | (refine ix1 ?_ ?_ <;> assumption) | omega | (simp only [List.length_append, List.length_cons, List.length_nil]; omega)); (first | omega | (simp only [List.length_append, List.length_cons, List.length_nil]; omega)); rotate_left; with_unfolding_all rfl; intro _) | ((with_reducible refine' floordiv_D ?_ ?_ ?_); (first | k_asm | omega | decide); (first | k_asm | omega | decide +kernel)) | walk1 | (dsimp only; first | ((fail_if_success (fail_if_success (with_reducible refine st_guard ?_))); refine' store_L ?_ ?_ ?_ ?_ ?_ ?_ ?_; rotate_left 5; (first | dsimp only | rfl); (first | dsimp only | rfl); k_asm; k_asm; rfl; rfl; intro _ _ _; k_sweep) | ((with_reducible refine' sit ?_ ?_ ?_ ?_ ?_ ?_ ?_); rotate_left; (first | with_reducible assumption | omega | assumption); (first | with_reducible assumption | omega | assumption); (first | with_reducible assumption | omega | assumption); with_reducible assumption; with_unfolding_all rfl; kmk_pure) | ((with_reducible refine' ssn ?_ ?_ ?_ ?_ ?_ ?_ ?_ ?_); rotate_left 7; rfl; rfl; k_asm; k_asm; (first | with_reducible assumption | omega | assumption); with_unfolding_all rfl; kmk_pure; intro _ _ _ _ _; k_sweep) | ((with_reducible refine' sadd_led ?_ ?_ ?_ ?_); rotate_left 2; (first | exact lit_tab | exact lit_sp | exact lit_x | assumption); (first | exact lit_tab | exact lit_sp | exact lit_x | assumption); (simp only [List.length_append, List.length_replicate, List.length_drop, List.length_cons, List.length_nil]; omega); intro _ _ _ _) | ((with_reducible refine' smul_led ?_ ?_ ?_ ?_); rotate_left; (first | exact lit_tab | exact lit_sp | exact lit_x | assumption); (first | with_reducible assumption | omega | assumption); omega; intro _ _ _ _) | ((with_reducible refine' item_int ?_ ?_ ?_ ?_ ?_ ?_ ?_ ?_); rotate_left 6; k_asm; (first | k_asm | k_mem); k_asm; (first | exact ix0 _ | omega); (first | (refine ix1 ?_ ?_ <;> assumption) | omega | (simp only [List.length_append, List.length_cons, List.length_nil]; omega)); (first | omega | (simp only [List.length_append, List.length_cons, List.length_nil]; omega)); rotate_left; with_unfolding_all rfl; intro _) | ((with_reducible refine' floordiv_D ?_ ?_ ?_); (first | k_asm | omega | decide); (first | k_asm | omega | decide +kernel)) | walk1) | (leave1; try dsimp only))))
  · exact absurd rfl ‹2 * nL.getD ((tot.fdiv 3).fmod 9).toNat 0 ≠ 2 * nL.getD ((tot.fdiv 3).fmod 9).toNat 0›
  have hyl : y.length = 8 := by rw [← hl8, ← hy]; rfl
  have hit : Txt.item y 0 = ⟨#[la.getD 0 0]⟩ := it_at hy (by decide) (by omega)
  have hit2 : (⟨#[la.getD 0 0]⟩ : Str).cps.toList = [la.getD 0 0] := rfl
  have hsl : (Txt.slice y (some 1) none).cps.toList = la.drop 1 := stl_from hy (by decide) (by omega)
  (repeat' (first | (k_unfold; (try dsimp only)) | (k_end; wrow_close) | ((fail_if_success with_reducible (first | refine KswEnd_stop ?_ | refine call_stop ?_ | refine pyIter_stop ?_ | refine while_stop ?_ | refine for_stop ?_ | refine def_stop ?_ | refine CompSrcT_stop ?_ | refine CompSrc_stop ?_ | refine lca_stop ?_ | refine lce_stop ?_ | refine dsp_stop ?_ | refine lam_stop ?_ | refine cmp_stop ?_)); first | ((fail_if_success (fail_if_success (with_reducible refine st_guard ?_))); refine' store_L ?_ ?_ ?_ ?_ ?_ ?_ ?_; rotate_left 5; (first | dsimp only | rfl); (first | dsimp only | rfl); k_asm; k_asm; rfl; rfl; intro _ _ _; k_sweep) | ((with_reducible refine' sit ?_ ?_ ?_ ?_ ?_ ?_ ?_); rotate_left; (first | with_reducible assumption | omega | assumption); (first | with_reducible assumption | omega | assumption); (first | with_reducible assumption | omega | assumption); with_reducible assumption; with_unfolding_all rfl; kmk_pure) | ((with_reducible refine' ssn ?_ ?_ ?_ ?_ ?_ ?_ ?_ ?_); rotate_left 7; rfl; rfl; k_asm; k_asm; (first | with_reducible assumption | omega | assumption); with_unfolding_all rfl; kmk_pure; intro _ _ _ _ _; k_sweep) | ((with_reducible refine' sadd_led ?_ ?_ ?_ ?_); rotate_left 2; (first | exact lit_tab | exact lit_sp | exact lit_x | assumption); (first | exact lit_tab | exact lit_sp | exact lit_x | assumption); (simp only [List.length_append, List.length_replicate, List.length_drop, List.length_cons, List.length_nil]; omega); intro _ _ _ _) | ((with_reducible refine' smul_led ?_ ?_ ?_ ?_); rotate_left; (first | exact lit_tab | exact lit_sp | exact lit_x | assumption); (first | with_reducible assumption | omega | assumption); omega; intro _ _ _ _) | ((with_reducible refine' item_int ?_ ?_ ?_ ?_ ?_ ?_ ?_ ?_); rotate_left 6; k_asm; (first | k_asm | k_mem); k_asm; (first | exact ix0 _ | omega); (first | (refine ix1 ?_ ?_ <;> assumption) | omega | (simp only [List.length_append, List.length_cons, List.length_nil]; omega)); (first | omega | (simp only [List.length_append, List.length_cons, List.length_nil]; omega)); rotate_left; with_unfolding_all rfl; intro _) | ((with_reducible refine' floordiv_D ?_ ?_ ?_); (first | k_asm | omega | decide); (first | k_asm | omega | decide +kernel)) | walk1 | (dsimp only; first | ((fail_if_success (fail_if_success (with_reducible refine st_guard ?_))); refine' store_L ?_ ?_ ?_ ?_ ?_ ?_ ?_; rotate_left 5; (first | dsimp only | rfl); (first | dsimp only | rfl); k_asm; k_asm; rfl; rfl; intro _ _ _; k_sweep) | ((with_reducible refine' sit ?_ ?_ ?_ ?_ ?_ ?_ ?_); rotate_left; (first | with_reducible assumption | omega | assumption); (first | with_reducible assumption | omega | assumption); (first | with_reducible assumption | omega | assumption); with_reducible assumption; with_unfolding_all rfl; kmk_pure) | ((with_reducible refine' ssn ?_ ?_ ?_ ?_ ?_ ?_ ?_ ?_); rotate_left 7; rfl; rfl; k_asm; k_asm; (first | with_reducible assumption | omega | assumption); with_unfolding_all rfl; kmk_pure; intro _ _ _ _ _; k_sweep) | ((with_reducible refine' sadd_led ?_ ?_ ?_ ?_); rotate_left 2; (first | exact lit_tab | exact lit_sp | exact lit_x | assumption); (first | exact lit_tab | exact lit_sp | exact lit_x | assumption); (simp only [List.length_append, List.length_replicate, List.length_drop, List.length_cons, List.length_nil]; omega); intro _ _ _ _) | ((with_reducible refine' smul_led ?_ ?_ ?_ ?_); rotate_left; (first | exact lit_tab | exact lit_sp | exact lit_x | assumption); (first | with_reducible assumption | omega | assumption); omega; intro _ _ _ _) | ((with_reducible refine' item_int ?_ ?_ ?_ ?_ ?_ ?_ ?_ ?_); rotate_left 6; k_asm; (first | k_asm | k_mem); k_asm; (first | exact ix0 _ | omega); (first | (refine ix1 ?_ ?_ <;> assumption) | omega | (simp only [List.length_append, List.length_cons, List.length_nil]; omega)); (first | omega | (simp only [List.length_append, List.length_cons, List.length_nil]; omega)); rotate_left; with_unfolding_all rfl; intro _) | ((with_reducible refine' floordiv_D ?_ ?_ ?_); (first | k_asm | omega | decide); (first | k_asm | omega | decide +kernel)) | walk1) | (leave1; try dsimp only))))
  rename _ = List.drop 1 la ++ [la.getD 0 0] => e5
  (with_unfolding_all refine' Does.use (lev_c w _ y _ ty _ _ (3 + spa) la (la.drop 1 ++ [la.getD 0 0]) hy e5 hl8 (by rw [List.length_append, List.length_drop, hl8]; rfl) h29 ?hz) (by k_asm) (by k_asm) (by k_asm) (by k_asm) (by k_asm) (by assumption) (by assumption) (by first | exact rfl | assumption) (by ktr_room) (by ktr_units) ?_)
  case hz =>
    intro c hc
    rcases List.mem_append.mp hc with h | h
    · exact h29 c (List.mem_of_mem_drop h)
    · rw [List.mem_singleton] at h
      subst h
      refine h29 _ ?_
      have e : la.getD 0 0 = la[0] := by rw [List.getD_eq_getElem?_getD, List.getElem?_eq_getElem (by omega)]; rfl
      rw [e]; exact List.getElem_mem _
  intro r9 news9 h9 tk9 F9 N9 O9
  revert N9
  apply int_elim O9
  clear O9
  intro tk8 N9
  rw [hrot]
  dsimp only
  (repeat' (first | (k_unfold; (try dsimp only)) | (k_end; wrow_close) | ((fail_if_success with_reducible (first | refine KswEnd_stop ?_ | refine call_stop ?_ | refine pyIter_stop ?_ | refine while_stop ?_ | refine for_stop ?_ | refine def_stop ?_ | refine CompSrcT_stop ?_ | refine CompSrc_stop ?_ | refine lca_stop ?_ | refine lce_stop ?_ | refine dsp_stop ?_ | refine lam_stop ?_ | refine cmp_stop ?_)); first | ((fail_if_success (fail_if_success (with_reducible refine st_guard ?_))); refine' store_L ?_ ?_ ?_ ?_ ?_ ?_ ?_; rotate_left 5; (first | dsimp only | rfl); (first | dsimp only | rfl); k_asm; k_asm; rfl; rfl; intro _ _ _; k_sweep) | ((with_reducible refine' sit ?_ ?_ ?_ ?_ ?_ ?_ ?_); rotate_left; (first | with_reducible assumption | omega | assumption); (first | with_reducible assumption | omega | assumption); (first | with_reducible assumption | omega | assumption); with_reducible assumption; with_unfolding_all rfl; kmk_pure) | ((with_reducible refine' ssn ?_ ?_ ?_ ?_ ?_ ?_ ?_ ?_); rotate_left 7; rfl; rfl; k_asm; k_asm; (first | with_reducible assumption | omega | assumption); with_unfolding_all rfl; kmk_pure; intro _ _ _ _ _; k_sweep) | ((with_reducible refine' sadd_led ?_ ?_ ?_ ?_); rotate_left 2; (first | exact lit_tab | exact lit_sp | exact lit_x | assumption); (first | exact lit_tab | exact lit_sp | exact lit_x | assumption); (simp only [List.length_append, List.length_replicate, List.length_drop, List.length_cons, List.length_nil]; omega); intro _ _ _ _) | ((with_reducible refine' smul_led ?_ ?_ ?_ ?_); rotate_left; (first | exact lit_tab | exact lit_sp | exact lit_x | assumption); (first | with_reducible assumption | omega | assumption); omega; intro _ _ _ _) | ((with_reducible refine' item_int ?_ ?_ ?_ ?_ ?_ ?_ ?_ ?_); rotate_left 6; k_asm; (first | k_asm | k_mem); k_asm; (first | exact ix0 _ | omega); (first | (refine ix1 ?_ ?_ <;> assumption) | omega | (simp only [List.length_append, List.length_cons, List.length_nil]; omega)); (first | omega | (simp only [List.length_append, List.length_cons, List.length_nil]; omega)); rotate_left; with_unfolding_all rfl; intro _) | ((with_reducible refine' floordiv_D ?_ ?_ ?_); (first | k_asm | omega | decide); (first | k_asm | omega | decide +kernel)) | walk1 | (dsimp only; first | ((fail_if_success (fail_if_success (with_reducible refine st_guard ?_))); refine' store_L ?_ ?_ ?_ ?_ ?_ ?_ ?_; rotate_left 5; (first | dsimp only | rfl); (first | dsimp only | rfl); k_asm; k_asm; rfl; rfl; intro _ _ _; k_sweep) | ((with_reducible refine' sit ?_ ?_ ?_ ?_ ?_ ?_ ?_); rotate_left; (first | with_reducible assumption | omega | assumption); (first | with_reducible assumption | omega | assumption); (first | with_reducible assumption | omega | assumption); with_reducible assumption; with_unfolding_all rfl; kmk_pure) | ((with_reducible refine' ssn ?_ ?_ ?_ ?_ ?_ ?_ ?_ ?_); rotate_left 7; rfl; rfl; k_asm; k_asm; (first | with_reducible assumption | omega | assumption); with_unfolding_all rfl; kmk_pure; intro _ _ _ _ _; k_sweep) | ((with_reducible refine' sadd_led ?_ ?_ ?_ ?_); rotate_left 2; (first | exact lit_tab | exact lit_sp | exact lit_x | assumption); (first | exact lit_tab | exact lit_sp | exact lit_x | assumption); (simp only [List.length_append, List.length_replicate, List.length_drop, List.length_cons, List.length_nil]; omega); intro _ _ _ _) | ((with_reducible refine' smul_led ?_ ?_ ?_ ?_); rotate_left; (first | exact lit_tab | exact lit_sp | exact lit_x | assumption); (first | with_reducible assumption | omega | assumption); omega; intro _ _ _ _) | ((with_reducible refine' item_int ?_ ?_ ?_ ?_ ?_ ?_ ?_ ?_); rotate_left 6; k_asm; (first | k_asm | k_mem); k_asm; (first | exact ix0 _ | omega); (first | (refine ix1 ?_ ?_ <;> assumption) | omega | (simp only [List.length_append, List.length_cons, List.length_nil]; omega)); (first | omega | (simp only [List.length_append, List.length_cons, List.length_nil]; omega)); rotate_left; with_unfolding_all rfl; intro _) | ((with_reducible refine' floordiv_D ?_ ?_ ?_); (first | k_asm | omega | decide); (first | k_asm | omega | decide +kernel)) | walk1) | (leave1; try dsimp only))))
  exact hret default _ _ _ F9 (news_sub N9 (by repeat (first | exact sub_nil | refine sub_cons (by k_mem) ?_)))

end
section
theorem rst_Sg2 : True := by w_top off; trivial
open PyProof.Rows.LCg PyProof.Rows.LCt
structure RSg where
  vs : List Value
  k : Nat
theorem seg2 {w : World} {fl : Addr} {p : Program} {loose : List Str} {mean : ExcName → Option Value} {mg mb : Str → Option Value} {g : Heap} {L D : Addr} {s : Shared} {m : Str → Option Value} {Q : Flow → Shared → Prop} {E : Value → Shared → Prop} {us : List Value} {nums : List Int} {kk : Nat} {t1 t2 : Tok} {tot spa : Int} {o1 o2 o3 : Obj}
    (G : LawG w p loose mean mg mb g L) (hi : IntsAre us nums) (h8 : nums.length = 8) (h4 : ∀ x ∈ nums, 0 ≤ x ∧ x ≤ 4)
    (hm : ∀ p ∈ [(Str.ofString "numbers", Value.ref D), (Str.ofString "spare", .int spa t2), (Str.ofString "total", .int tot t1)], m p.1 = some p.2) (F : Fr g L s.heap m)
    (N : News g L s.heap ((D, W.listOf us.toArray kk) :: [(L + 3, o3), (L + 2, o2), (L + 1, o1), (110, tabObj #[]), (103, tabObj #[]), (205, tabObj #[])])) (off : Off1 D [(L + 3, o3), (L + 2, o2), (L + 1, o1), (110, tabObj #[]), (103, tabObj #[]), (205, tabObj #[])])
    (hnext : ∀ (R : Addr) (vsR : List Value) (kR : Nat) (m' : Str → Option Value) (h' : Heap) (tk' : Nat), IntsAre vsR (srtR (nums.take 4)) →
      (∀ p ∈ [(Str.ofString "rows", Value.ref R), (Str.ofString "numbers", Value.ref D), (Str.ofString "spare", .int spa t2), (Str.ofString "total", .int tot t1)], m' p.1 = some p.2) → Fr g L h' m' →
      News g L h' ((R, W.listOf vsR.toArray kR) :: (D, W.listOf us.toArray kk) :: [(L + 3, o3), (L + 2, o2), (L + 1, o1), (110, tabObj #[]), (103, tabObj #[]), (205, tabObj #[])]) → 
      Off1 R ((D, W.listOf us.toArray kk) :: [(L + 3, o3), (L + 2, o2), (L + 1, o1), (110, tabObj #[]), (103, tabObj #[]), (205, tabObj #[])]) → LawAt w fl L 5 Q E { s with heap := h', toks := tk' }) :
    LawAt w fl L 3 Q E s := by
  obtain ⟨B, X, T, C1, C2, C3, hL⟩ := G
  have F1 := fr_ps _ hm F
  clear F hm
  refine' seg_start ?e1 ?e2 ?_
  case e1 => exact rfl
  case e2 => exact rfl
  intro ek
  dsimp only [kstB] at F1
  simp only [Off1, and_true] at off
  (repeat' (first | (k_unfold; (try dsimp only)) | (k_end; wrow_close) | ((fail_if_success with_reducible (first | refine KswEnd_stop ?_ | refine call_stop ?_ | refine pyIter_stop ?_ | refine while_stop ?_ | refine for_stop ?_ | refine def_stop ?_ | refine CompSrcT_stop ?_ | refine CompSrc_stop ?_ | refine lca_stop ?_ | refine lce_stop ?_ | refine dsp_stop ?_ | refine lam_stop ?_ | refine cmp_stop ?_)); first | ((fail_if_success (fail_if_success (with_reducible refine st_guard ?_))); refine' store_L ?_ ?_ ?_ ?_ ?_ ?_ ?_; rotate_left 5; (first | dsimp only | rfl); (first | dsimp only | rfl); k_asm; k_asm; rfl; rfl; intro _ _ _; k_sweep) | ((with_reducible refine' slice_led ?_ ?_ ?_ ?_ ?_ ?_ ?_ ?_ ?_ ?_ ?_ ?_ ?_); rotate_left 12; rfl; rfl; k_asm; k_asm; kmk_list; kmk_part; kmk_part; (first | k_asm | l_ints | exact IntsAre.cons _ _ IntsAre.nil); kmk_nums; with_unfolding_all rfl; kmk_pure; (first | omega | (simp only [List.length_append, List.length_take, List.length_drop, List.length_cons, List.length_nil]; omega)); lsm_bools) | walk1 | (dsimp only; first | ((fail_if_success (fail_if_success (with_reducible refine st_guard ?_))); refine' store_L ?_ ?_ ?_ ?_ ?_ ?_ ?_; rotate_left 5; (first | dsimp only | rfl); (first | dsimp only | rfl); k_asm; k_asm; rfl; rfl; intro _ _ _; k_sweep) | ((with_reducible refine' slice_led ?_ ?_ ?_ ?_ ?_ ?_ ?_ ?_ ?_ ?_ ?_ ?_ ?_); rotate_left 12; rfl; rfl; k_asm; k_asm; kmk_list; kmk_part; kmk_part; (first | k_asm | l_ints | exact IntsAre.cons _ _ IntsAre.nil); kmk_nums; with_unfolding_all rfl; kmk_pure; (first | omega | (simp only [List.length_append, List.length_take, List.length_drop, List.length_cons, List.length_nil]; omega)); lsm_bools) | walk1) | (leave1; try dsimp only))))
  refine For_invVF (by k_asm) rfl rfl ?_
  (repeat' (first | (k_unfold; (try dsimp only)) | (k_end; wrow_close) | ((fail_if_success with_reducible (first | refine KswEnd_stop ?_ | refine call_stop ?_ | refine pyIter_stop ?_ | refine while_stop ?_ | refine for_stop ?_ | refine def_stop ?_ | refine CompSrcT_stop ?_ | refine CompSrc_stop ?_ | refine lca_stop ?_ | refine lce_stop ?_ | refine dsp_stop ?_ | refine lam_stop ?_ | refine cmp_stop ?_)); first | ((fail_if_success (fail_if_success (with_reducible refine st_guard ?_))); refine' store_L ?_ ?_ ?_ ?_ ?_ ?_ ?_; rotate_left 5; (first | dsimp only | rfl); (first | dsimp only | rfl); k_asm; k_asm; rfl; rfl; intro _ _ _; k_sweep) | ((with_reducible refine' slice_led ?_ ?_ ?_ ?_ ?_ ?_ ?_ ?_ ?_ ?_ ?_ ?_ ?_); rotate_left 12; rfl; rfl; k_asm; k_asm; kmk_list; kmk_part; kmk_part; (first | k_asm | l_ints | exact IntsAre.cons _ _ IntsAre.nil); kmk_nums; with_unfolding_all rfl; kmk_pure; (first | omega | (simp only [List.length_append, List.length_take, List.length_drop, List.length_cons, List.length_nil]; omega)); lsm_bools) | walk1 | (dsimp only; first | ((fail_if_success (fail_if_success (with_reducible refine st_guard ?_))); refine' store_L ?_ ?_ ?_ ?_ ?_ ?_ ?_; rotate_left 5; (first | dsimp only | rfl); (first | dsimp only | rfl); k_asm; k_asm; rfl; rfl; intro _ _ _; k_sweep) | ((with_reducible refine' slice_led ?_ ?_ ?_ ?_ ?_ ?_ ?_ ?_ ?_ ?_ ?_ ?_ ?_); rotate_left 12; rfl; rfl; k_asm; k_asm; kmk_list; kmk_part; kmk_part; (first | k_asm | l_ints | exact IntsAre.cons _ _ IntsAre.nil); kmk_nums; with_unfolding_all rfl; kmk_pure; (first | omega | (simp only [List.length_append, List.length_take, List.length_drop, List.length_cons, List.length_nil]; omega)); lsm_bools) | walk1) | (leave1; try dsimp only))))
  rename_i R h2 l2 h3 S wsS hS FS NS hiS lS
  have hT := srtR_facts
  have nSR : @Ne Nat R S := by omega
  refine' loop_led (σ := RSg) (vs := wsS) (fun c => (R, W.listOf c.vs.toArray c.k) :: (S, W.listOf wsS.toArray 0) :: (D, W.listOf us.toArray kk) :: [(L + 3, o3), (L + 2, o2), (L + 1, o1), (110, tabObj #[]), (103, tabObj #[]), (205, tabObj #[])]) (fun _ => []) [] (fun i c => IntsAre c.vs (srtR ((nums.take 4).take i))) ⟨[], 0⟩ rfl (fun c => .tail _ (.head _)) FS (news_swap NS) ?hk ?hp ?_ ?_
  case hk => kst_all
  case hp => exact .nil
  · rintro ⟨vR, kR⟩ i v u h tk I it hv P hoff F'' N''
    refine q_any fun Q9 hQ9 => ?_
    dsimp only [kstB] at F''
    dsimp only at P N'' hoff
    obtain ⟨xi, hxi⟩ : ∃ b, (nums.take 4)[i]? = some b := by
      have : i < wsS.length := (List.getElem?_eq_some_iff.mp hv).1
      rw [hiS.length] at this
      exact ⟨_, List.getElem?_eq_getElem this⟩
    obtain ⟨t, ht⟩ := hiS.get i _ hxi
    have hv2 : v = Value.int xi t := Option.some.inj (hv.symm.trans ht)
    subst hv2
    have nI : @Ne Nat I R := (hoff _ (.head _)).symm
    have hsf := srtR_facts ((nums.take 4).take i)
    have hl4 : ((nums.take 4).take i).length ≤ 4 := by rw [List.length_take, List.length_take]; omega
    have nRest : ∀ p ∈ ((S, W.listOf wsS.toArray 0) :: (D, W.listOf us.toArray kk) :: [(L + 3, o3), (L + 2, o2), (L + 1, o1), (110, tabObj #[]), (103, tabObj #[]), (205, tabObj #[])] : Led), p.1 ≠ R := by
      refine fa_cons nSR.symm ?_
      exact fresh1 (by simp only [AllLt, and_true]; exact l2)
    (repeat' (first | (k_unfold; (try dsimp only)) | (k_end; wrow_close) | ((fail_if_success with_reducible (first | refine KswEnd_stop ?_ | refine call_stop ?_ | refine pyIter_stop ?_ | refine while_stop ?_ | refine for_stop ?_ | refine def_stop ?_ | refine CompSrcT_stop ?_ | refine CompSrc_stop ?_ | refine lca_stop ?_ | refine lce_stop ?_ | refine dsp_stop ?_ | refine lam_stop ?_ | refine cmp_stop ?_)); first | ((fail_if_success (fail_if_success (with_reducible refine st_guard ?_))); refine' store_L ?_ ?_ ?_ ?_ ?_ ?_ ?_; rotate_left 5; (first | dsimp only | rfl); (first | dsimp only | rfl); k_asm; k_asm; rfl; rfl; intro _ _ _; k_sweep) | ((with_reducible refine' slice_led ?_ ?_ ?_ ?_ ?_ ?_ ?_ ?_ ?_ ?_ ?_ ?_ ?_); rotate_left 12; rfl; rfl; k_asm; k_asm; kmk_list; kmk_part; kmk_part; (first | k_asm | l_ints | exact IntsAre.cons _ _ IntsAre.nil); kmk_nums; with_unfolding_all rfl; kmk_pure; (first | omega | (simp only [List.length_append, List.length_take, List.length_drop, List.length_cons, List.length_nil]; omega)); lsm_bools) | walk1 | (dsimp only; first | ((fail_if_success (fail_if_success (with_reducible refine st_guard ?_))); refine' store_L ?_ ?_ ?_ ?_ ?_ ?_ ?_; rotate_left 5; (first | dsimp only | rfl); (first | dsimp only | rfl); k_asm; k_asm; rfl; rfl; intro _ _ _; k_sweep) | ((with_reducible refine' slice_led ?_ ?_ ?_ ?_ ?_ ?_ ?_ ?_ ?_ ?_ ?_ ?_ ?_); rotate_left 12; rfl; rfl; k_asm; k_asm; kmk_list; kmk_part; kmk_part; (first | k_asm | l_ints | exact IntsAre.cons _ _ IntsAre.nil); kmk_nums; with_unfolding_all rfl; kmk_pure; (first | omega | (simp only [List.length_append, List.length_take, List.length_drop, List.length_cons, List.length_nil]; omega)); lsm_bools) | walk1) | (leave1; try dsimp only))))
    (with_unfolding_all refine' Does.use (insort_r w (fun vs n => (I, it) :: (R, W.listOf vs.toArray n) :: (S, W.listOf wsS.toArray 0) :: (D, W.listOf us.toArray kk) :: [(L + 3, o3), (L + 2, o2), (L + 1, o1), (110, tabObj #[]), (103, tabObj #[]), (205, tabObj #[])]) R vR (srtR ((nums.take 4).take i)) kR xi t (fun _ _ _ _ => Upd.tail nI (Upd.head nRest)) (fun _ _ => .tail _ (.head _)) P (by omega) (pw_idx hsf.1)) (by k_asm) (by k_asm) (by k_asm) (by k_asm) (by k_asm) (by assumption) (by assumption) (by first | exact rfl | assumption) (by ktr_room) (by ktr_units) ?_)
    intro r9 news9 h9 tk9 F9 N9 O9
    revert N9
    apply rv2 O9
    clear O9
    intro vs' n' hI' N9
    dsimp only
    (repeat' (first | (k_unfold; (try dsimp only)) | (k_end; wrow_close) | ((fail_if_success with_reducible (first | refine KswEnd_stop ?_ | refine call_stop ?_ | refine pyIter_stop ?_ | refine while_stop ?_ | refine for_stop ?_ | refine def_stop ?_ | refine CompSrcT_stop ?_ | refine CompSrc_stop ?_ | refine lca_stop ?_ | refine lce_stop ?_ | refine dsp_stop ?_ | refine lam_stop ?_ | refine cmp_stop ?_)); first | ((fail_if_success (fail_if_success (with_reducible refine st_guard ?_))); refine' store_L ?_ ?_ ?_ ?_ ?_ ?_ ?_; rotate_left 5; (first | dsimp only | rfl); (first | dsimp only | rfl); k_asm; k_asm; rfl; rfl; intro _ _ _; k_sweep) | ((with_reducible refine' slice_led ?_ ?_ ?_ ?_ ?_ ?_ ?_ ?_ ?_ ?_ ?_ ?_ ?_); rotate_left 12; rfl; rfl; k_asm; k_asm; kmk_list; kmk_part; kmk_part; (first | k_asm | l_ints | exact IntsAre.cons _ _ IntsAre.nil); kmk_nums; with_unfolding_all rfl; kmk_pure; (first | omega | (simp only [List.length_append, List.length_take, List.length_drop, List.length_cons, List.length_nil]; omega)); lsm_bools) | walk1 | (dsimp only; first | ((fail_if_success (fail_if_success (with_reducible refine st_guard ?_))); refine' store_L ?_ ?_ ?_ ?_ ?_ ?_ ?_; rotate_left 5; (first | dsimp only | rfl); (first | dsimp only | rfl); k_asm; k_asm; rfl; rfl; intro _ _ _; k_sweep) | ((with_reducible refine' slice_led ?_ ?_ ?_ ?_ ?_ ?_ ?_ ?_ ?_ ?_ ?_ ?_ ?_); rotate_left 12; rfl; rfl; k_asm; k_asm; kmk_list; kmk_part; kmk_part; (first | k_asm | l_ints | exact IntsAre.cons _ _ IntsAre.nil); kmk_nums; with_unfolding_all rfl; kmk_pure; (first | omega | (simp only [List.length_append, List.length_take, List.length_drop, List.length_cons, List.length_nil]; omega)); lsm_bools) | walk1) | (leave1; try dsimp only))))
    refine hQ9 _ _ ?_
    refine tpost_next (tend ⟨vs', n'⟩ (by k_asm) (by k_asm) (.head _) (fun p hp => .tail _ hp) ?_ (by kst_all) (by kst_same) ?_)
    · exact fa_cons nI.symm (fun p hp => hoff p (.tail _ hp))
    · dsimp only
      rw [List.take_add_one, hxi]
      show IntsAre vs' (srtR (_ ++ [xi]))
      rw [srtR_snoc]; exact hI'
  · rintro ⟨vR, kR⟩ u h tk P F'' N''
    dsimp only [kstB] at F''
    dsimp only at P N''
    rw [hiS.length, List.take_length] at P
    refine' hnext R vR kR _ _ _ P ?hps F'' (news_sub N'' ?_) ?_
    case hps => kst_all1
    · intro p hp
      rcases List.mem_cons.mp hp with h | h
      · exact h ▸ .head _
      · exact .tail _ (.tail _ h)
    · simp only [Off1, and_true]
      exact off7 (by assumption)

end
section
theorem rst_Sg3 : True := by w_top off; trivial
open PyProof.Rows.LCg PyProof.Rows.LCt
structure FaSg where
  vs : List Value
  k : Nat
  tabs : Led
theorem TabSt.memT {P : Addr} {ln cl : Nat} {qual : Str} {l : Led} (h : TabSt P ln cl qual l) : ∃ ps, (P, tabObj ps) ∈ l := by cases h <;> exact ⟨_, .head _⟩
theorem seg3 {w : World} {fl : Addr} {p : Program} {loose : List Str} {mean : ExcName → Option Value} {mg mb : Str → Option Value} {g : Heap} {L D R : Addr} {s : Shared} {m : Str → Option Value} {Q : Flow → Shared → Prop} {E : Value → Shared → Prop} {us vsR : List Value} {nums : List Int} {kk kR : Nat} {t1 t2 : Tok} {tot spa : Int} {o1 o2 o3 : Obj} {cv1 : Option Value}
    (G : LawG w p loose mean mg mb g L) (hi : IntsAre us nums) (h8 : nums.length = 8) (d1 : o1.data = .cell cv1)
    (hm : ∀ p ∈ [(Str.ofString "rows", Value.ref R), (Str.ofString "numbers", Value.ref D), (Str.ofString "spare", .int spa t2), (Str.ofString "total", .int tot t1)], m p.1 = some p.2) (F : Fr g L s.heap m)
    (N : News g L s.heap ((R, W.listOf vsR.toArray kR) :: (D, W.listOf us.toArray kk) :: [(L + 3, o3), (L + 2, o2), (L + 1, o1), (110, tabObj #[]), (103, tabObj #[]), (205, tabObj #[])])) (off : Off1 D [(L + 3, o3), (L + 2, o2), (L + 1, o1), (110, tabObj #[]), (103, tabObj #[]), (205, tabObj #[])])
    (offR : Off1 R ((D, W.listOf us.toArray kk) :: [(L + 3, o3), (L + 2, o2), (L + 1, o1), (110, tabObj #[]), (103, tabObj #[]), (205, tabObj #[])]))
    (hnext : ∀ (Fa : Addr) (vsF : List Value) (kF : Nat) (o1' : Obj) (pc : Array Value) (m' : Str → Option Value) (h' : Heap) (tk' : Nat), IntsAre vsF (srtL (nums.drop 4)) → o1'.data = .cell (some (.ref Fa)) →
      (∀ p ∈ [(Str.ofString "rows", Value.ref R), (Str.ofString "spare", .int spa t2), (Str.ofString "total", .int tot t1)], m' p.1 = some p.2) → Fr g L h' m' →
      News g L h' ((Fa, W.listOf vsF.toArray kF) :: (R, W.listOf vsR.toArray kR) :: [(L + 3, o3), (L + 2, o2), (L + 1, o1'), (110, tabObj #[]), (103, tabObj #[]), (205, tabObj pc)]) → 
      Off1 Fa ((R, W.listOf vsR.toArray kR) :: [(L + 3, o3), (L + 2, o2), (L + 1, o1'), (110, tabObj #[]), (103, tabObj #[]), (205, tabObj pc)]) → LawAt w fl L 7 Q E { s with heap := h', toks := tk' }) :
    LawAt w fl L 5 Q E s := by
  obtain ⟨B, X, T, C1, C2, C3, hL⟩ := G
  have F1 := fr_ps _ hm F
  clear F hm
  refine' seg_start ?e1 ?e2 ?_
  case e1 => exact rfl
  case e2 => exact rfl
  intro ek
  dsimp only [kstB] at F1
  simp only [Off1, and_true] at off offR
  have nD1 : @Ne Nat D (L + 1) := fun e => off.2.2.1 e.symm
  have nR1 : @Ne Nat R (L + 1) := fun e => offR.2.2.2.1 e.symm
  (repeat' (first | (k_unfold; (try dsimp only)) | (k_end; wrow_close) | ((fail_if_success with_reducible (first | refine KswEnd_stop ?_ | refine call_stop ?_ | refine pyIter_stop ?_ | refine while_stop ?_ | refine for_stop ?_ | refine def_stop ?_ | refine CompSrcT_stop ?_ | refine CompSrc_stop ?_ | refine lca_stop ?_ | refine lce_stop ?_ | refine dsp_stop ?_ | refine lam_stop ?_ | refine cmp_stop ?_)); first | ((fail_if_success (fail_if_success (with_reducible refine st_guard ?_))); refine' store_L ?_ ?_ ?_ ?_ ?_ ?_ ?_; rotate_left 5; (first | dsimp only | rfl); (first | dsimp only | rfl); k_asm; k_asm; rfl; rfl; intro _ _ _; k_sweep) | ((with_reducible refine' slice_led ?_ ?_ ?_ ?_ ?_ ?_ ?_ ?_ ?_ ?_ ?_ ?_ ?_); rotate_left 12; rfl; rfl; k_asm; k_asm; kmk_list; kmk_part; kmk_part; (first | k_asm | l_ints | exact IntsAre.cons _ _ IntsAre.nil); kmk_nums; with_unfolding_all rfl; kmk_pure; (first | omega | (simp only [List.length_append, List.length_take, List.length_drop, List.length_cons, List.length_nil]; omega)); lsm_bools) | walk1 | (dsimp only; first | ((fail_if_success (fail_if_success (with_reducible refine st_guard ?_))); refine' store_L ?_ ?_ ?_ ?_ ?_ ?_ ?_; rotate_left 5; (first | dsimp only | rfl); (first | dsimp only | rfl); k_asm; k_asm; rfl; rfl; intro _ _ _; k_sweep) | ((with_reducible refine' slice_led ?_ ?_ ?_ ?_ ?_ ?_ ?_ ?_ ?_ ?_ ?_ ?_ ?_); rotate_left 12; rfl; rfl; k_asm; k_asm; kmk_list; kmk_part; kmk_part; (first | k_asm | l_ints | exact IntsAre.cons _ _ IntsAre.nil); kmk_nums; with_unfolding_all rfl; kmk_pure; (first | omega | (simp only [List.length_append, List.length_take, List.length_drop, List.length_cons, List.length_nil]; omega)); lsm_bools) | walk1) | (leave1; try dsimp only))))
  refine For_invVF (by k_asm) rfl rfl ?_
  (repeat' (first | (k_unfold; (try dsimp only)) | (k_end; wrow_close) | ((fail_if_success with_reducible (first | refine KswEnd_stop ?_ | refine call_stop ?_ | refine pyIter_stop ?_ | refine while_stop ?_ | refine for_stop ?_ | refine def_stop ?_ | refine CompSrcT_stop ?_ | refine CompSrc_stop ?_ | refine lca_stop ?_ | refine lce_stop ?_ | refine dsp_stop ?_ | refine lam_stop ?_ | refine cmp_stop ?_)); first | ((fail_if_success (fail_if_success (with_reducible refine st_guard ?_))); refine' store_L ?_ ?_ ?_ ?_ ?_ ?_ ?_; rotate_left 5; (first | dsimp only | rfl); (first | dsimp only | rfl); k_asm; k_asm; rfl; rfl; intro _ _ _; k_sweep) | ((with_reducible refine' slice_led ?_ ?_ ?_ ?_ ?_ ?_ ?_ ?_ ?_ ?_ ?_ ?_ ?_); rotate_left 12; rfl; rfl; k_asm; k_asm; kmk_list; kmk_part; kmk_part; (first | k_asm | l_ints | exact IntsAre.cons _ _ IntsAre.nil); kmk_nums; with_unfolding_all rfl; kmk_pure; (first | omega | (simp only [List.length_append, List.length_take, List.length_drop, List.length_cons, List.length_nil]; omega)); lsm_bools) | walk1 | (dsimp only; first | ((fail_if_success (fail_if_success (with_reducible refine st_guard ?_))); refine' store_L ?_ ?_ ?_ ?_ ?_ ?_ ?_; rotate_left 5; (first | dsimp only | rfl); (first | dsimp only | rfl); k_asm; k_asm; rfl; rfl; intro _ _ _; k_sweep) | ((with_reducible refine' slice_led ?_ ?_ ?_ ?_ ?_ ?_ ?_ ?_ ?_ ?_ ?_ ?_ ?_); rotate_left 12; rfl; rfl; k_asm; k_asm; kmk_list; kmk_part; kmk_part; (first | k_asm | l_ints | exact IntsAre.cons _ _ IntsAre.nil); kmk_nums; with_unfolding_all rfl; kmk_pure; (first | omega | (simp only [List.length_append, List.length_take, List.length_drop, List.length_cons, List.length_nil]; omega)); lsm_bools) | walk1) | (leave1; try dsimp only))))
  rename_i Fa h2 l2 h3 oF dF S wsS hS FS NS hiS lS
  have NT : News g L hS ((Fa, W.listOf #[] 0) :: (S, W.listOf wsS.toArray 0) :: (R, W.listOf vsR.toArray kR) :: (L + 3, o3) :: (L + 2, o2) :: (L + 1, oF) :: (110, tabObj #[]) :: (103, tabObj #[]) :: [(205, tabObj #[])]) := news_sub NS (by repeat (first | exact sub_nil | refine sub_cons (by k_mem) ?_))
  refine' loop_led (σ := FaSg) (vs := wsS) (fun c => (Fa, W.listOf c.vs.toArray c.k) :: (S, W.listOf wsS.toArray 0) :: (R, W.listOf vsR.toArray kR) :: (L + 3, o3) :: (L + 2, o2) :: (L + 1, oF) :: (110, tabObj #[]) :: (103, tabObj #[]) :: c.tabs) (fun _ => []) [] (fun i c => IntsAre c.vs (srtL ((nums.drop 4).take i)) ∧ TabSt 205 272 36 (Str.ofString "law" ++ ".<locals>." ++ "<lambda>") c.tabs ∧ ∀ q ∈ c.tabs, (@Ne Nat q.1 Fa) ∧ (@Ne Nat q.1 S) ∧ (@Ne Nat q.1 R) ∧ (@Ne Nat q.1 (L + 3)) ∧ (@Ne Nat q.1 (L + 2)) ∧ (@Ne Nat q.1 (L + 1)) ∧ (@Ne Nat q.1 110) ∧ (@Ne Nat q.1 103)) ⟨[], 0, [(205, tabObj #[])]⟩ rfl (fun c => .tail _ (.head _)) FS NT ?hk ?hp ?_ ?_
  case hk => kst_all
  case hp =>
    refine ⟨.nil, .none, fun q hq => ?_⟩
    rw [List.mem_singleton.mp hq]
    dsimp only
    exact ⟨Nat.ne_of_lt l2.2.2.2.2.2.2.2, by first | exact Nat.ne_of_lt lS.2.2.2.2.2.2.2.2 | omega, offR.2.2.2.2.2.2, Nat.ne_of_lt (Nat.lt_add_right 3 hL), Nat.ne_of_lt (Nat.lt_add_right 2 hL), Nat.ne_of_lt (Nat.lt_add_right 1 hL), by decide, by decide⟩
  · rintro ⟨vF, kF, tb⟩ i v u h tk I it hv hPP hoff F'' N''
    refine q_any fun Q9 hQ9 => ?_
    refine and3 hPP ?_
    clear hPP
    intro P1 P2 P3
    dsimp only [kstB] at F''
    dsimp only at P1 P2 P3 N'' hoff
    obtain ⟨xi, hxi⟩ : ∃ b, (nums.drop 4)[i]? = some b := by
      have : i < wsS.length := (List.getElem?_eq_some_iff.mp hv).1
      rw [hiS.length] at this
      exact ⟨_, List.getElem?_eq_getElem this⟩
    obtain ⟨t, ht⟩ := hiS.get i _ hxi
    have hv2 : v = Value.int xi t := Option.some.inj (hv.symm.trans ht)
    subst hv2
    have nI : @Ne Nat I Fa := (hoff _ (.head _)).symm
    have hsf := srtL_facts ((nums.drop 4).take i)
    have hl4 : ((nums.drop 4).take i).length ≤ 4 := by rw [List.length_take, List.length_drop]; omega
    (repeat' (first | (k_unfold; (try dsimp only)) | (k_end; wrow_close) | ((fail_if_success with_reducible (first | refine KswEnd_stop ?_ | refine call_stop ?_ | refine pyIter_stop ?_ | refine while_stop ?_ | refine for_stop ?_ | refine def_stop ?_ | refine CompSrcT_stop ?_ | refine CompSrc_stop ?_ | refine lca_stop ?_ | refine lce_stop ?_ | refine dsp_stop ?_ | refine lam_stop ?_ | refine cmp_stop ?_)); first | ((fail_if_success (fail_if_success (with_reducible refine st_guard ?_))); refine' store_L ?_ ?_ ?_ ?_ ?_ ?_ ?_; rotate_left 5; (first | dsimp only | rfl); (first | dsimp only | rfl); k_asm; k_asm; rfl; rfl; intro _ _ _; k_sweep) | ((with_reducible refine' slice_led ?_ ?_ ?_ ?_ ?_ ?_ ?_ ?_ ?_ ?_ ?_ ?_ ?_); rotate_left 12; rfl; rfl; k_asm; k_asm; kmk_list; kmk_part; kmk_part; (first | k_asm | l_ints | exact IntsAre.cons _ _ IntsAre.nil); kmk_nums; with_unfolding_all rfl; kmk_pure; (first | omega | (simp only [List.length_append, List.length_take, List.length_drop, List.length_cons, List.length_nil]; omega)); lsm_bools) | walk1 | (dsimp only; first | ((fail_if_success (fail_if_success (with_reducible refine st_guard ?_))); refine' store_L ?_ ?_ ?_ ?_ ?_ ?_ ?_; rotate_left 5; (first | dsimp only | rfl); (first | dsimp only | rfl); k_asm; k_asm; rfl; rfl; intro _ _ _; k_sweep) | ((with_reducible refine' slice_led ?_ ?_ ?_ ?_ ?_ ?_ ?_ ?_ ?_ ?_ ?_ ?_ ?_); rotate_left 12; rfl; rfl; k_asm; k_asm; kmk_list; kmk_part; kmk_part; (first | k_asm | l_ints | exact IntsAre.cons _ _ IntsAre.nil); kmk_nums; with_unfolding_all rfl; kmk_pure; (first | omega | (simp only [List.length_append, List.length_take, List.length_drop, List.length_cons, List.length_nil]; omega)); lsm_bools) | walk1) | (leave1; try dsimp only))))
    k_dflt (refine' kla_eval ?d0 ?_; (case d0 => exact rfl))
    have N9 : News g L h ([(I, it), (Fa, W.listOf vF.toArray kF), (S, W.listOf wsS.toArray 0), (R, W.listOf vsR.toArray kR), (L + 3, o3), (L + 2, o2), (L + 1, oF), (110, tabObj #[]), (103, tabObj #[])] ++ tb) := by k_asm
    have hDI : ∀ q ∈ tb, (@Ne Nat q.1 I) := fun q hq => hoff q (List.mem_append_right [(Fa, W.listOf vF.toArray kF), (S, W.listOf wsS.toArray 0), (R, W.listOf vsR.toArray kR), (L + 3, o3), (L + 2, o2), (L + 1, oF), (110, tabObj #[]), (103, tabObj #[])] hq)
    refine lam_any2 (P := 205) (c := 207) (tabs := tb) (by k_asm) N9 T C3 rfl P2 ?hD rfl ?_
    case hD =>
      intro q hq p hp
      obtain ⟨e1, e2, e3, e4, e5, e6, e7, e8⟩ := P3 q hq
      have e0 := hDI q hq
      simp only [List.mem_cons, List.not_mem_nil, or_false] at hp
      rcases hp with rfl | rfl | rfl | rfl | rfl | rfl | rfl | rfl | rfl
      · exact e0.symm
      · exact e1.symm
      · exact e2.symm
      · exact e3.symm
      · exact e4.symm
      · exact e5.symm
      · exact e6.symm
      · exact e7.symm
      · exact e8.symm
    intro f c' oc vs9 t9 ctv h9 tk9 fo hfo F9 N10 hd9 hv9 q1 q2 q3 q4
    dsimp only [List.cons_append, List.nil_append] at N10
    have fF : @Ne Nat f Fa := Nat.ne_of_gt (q2 _ (.tail _ (.head _)))
    have cF : @Ne Nat c' Fa := (q1 _ (.tail _ (.head _))).symm
    have nRest : ∀ p ∈ ((S, W.listOf wsS.toArray 0) :: (R, W.listOf vsR.toArray kR) :: (L + 3, o3) :: (L + 2, o2) :: (L + 1, oF) :: (110, tabObj #[]) :: (103, tabObj #[]) :: [(205, tabObj #[rawInt 272, rawInt 36, .ref c']), (c', oc)] : Led), p.1 ≠ Fa := by
      simp only [List.forall_mem_cons]
      refine ⟨Nat.ne_of_gt lS.1, Nat.ne_of_lt l2.1, Nat.ne_of_lt l2.2.2.1, Nat.ne_of_lt l2.2.2.2.1, Nat.ne_of_lt l2.2.2.2.2.1, Nat.ne_of_lt l2.2.2.2.2.2.1, Nat.ne_of_lt l2.2.2.2.2.2.2.1, Nat.ne_of_lt l2.2.2.2.2.2.2.2, cF, fun _ h => nomatch h⟩
    have key : Key w f ((f, fo.obj) :: (I, it) :: (Fa, W.listOf vF.toArray kF) :: (S, W.listOf wsS.toArray 0) :: (R, W.listOf vsR.toArray kR) :: (L + 3, o3) :: (L + 2, o2) :: (L + 1, oF) :: (110, tabObj #[]) :: (103, tabObj #[]) :: [(205, tabObj #[rawInt 272, rawInt 36, .ref c']), (c', oc)]) := by
      subst hfo
      exact neg_key w _ f c' oc vs9 t9 _ _ _ _ _ _ _ _ (.head _) (by k_mem) hd9 hv9
    clear hfo
    (repeat' (first | (k_unfold; (try dsimp only)) | (k_end; wrow_close) | ((fail_if_success with_reducible (first | refine KswEnd_stop ?_ | refine call_stop ?_ | refine pyIter_stop ?_ | refine while_stop ?_ | refine for_stop ?_ | refine def_stop ?_ | refine CompSrcT_stop ?_ | refine CompSrc_stop ?_ | refine lca_stop ?_ | refine lce_stop ?_ | refine dsp_stop ?_ | refine lam_stop ?_ | refine cmp_stop ?_)); first | ((fail_if_success (fail_if_success (with_reducible refine st_guard ?_))); refine' store_L ?_ ?_ ?_ ?_ ?_ ?_ ?_; rotate_left 5; (first | dsimp only | rfl); (first | dsimp only | rfl); k_asm; k_asm; rfl; rfl; intro _ _ _; k_sweep) | ((with_reducible refine' slice_led ?_ ?_ ?_ ?_ ?_ ?_ ?_ ?_ ?_ ?_ ?_ ?_ ?_); rotate_left 12; rfl; rfl; k_asm; k_asm; kmk_list; kmk_part; kmk_part; (first | k_asm | l_ints | exact IntsAre.cons _ _ IntsAre.nil); kmk_nums; with_unfolding_all rfl; kmk_pure; (first | omega | (simp only [List.length_append, List.length_take, List.length_drop, List.length_cons, List.length_nil]; omega)); lsm_bools) | walk1 | (dsimp only; first | ((fail_if_success (fail_if_success (with_reducible refine st_guard ?_))); refine' store_L ?_ ?_ ?_ ?_ ?_ ?_ ?_; rotate_left 5; (first | dsimp only | rfl); (first | dsimp only | rfl); k_asm; k_asm; rfl; rfl; intro _ _ _; k_sweep) | ((with_reducible refine' slice_led ?_ ?_ ?_ ?_ ?_ ?_ ?_ ?_ ?_ ?_ ?_ ?_ ?_); rotate_left 12; rfl; rfl; k_asm; k_asm; kmk_list; kmk_part; kmk_part; (first | k_asm | l_ints | exact IntsAre.cons _ _ IntsAre.nil); kmk_nums; with_unfolding_all rfl; kmk_pure; (first | omega | (simp only [List.length_append, List.length_take, List.length_drop, List.length_cons, List.length_nil]; omega)); lsm_bools) | walk1) | (leave1; try dsimp only))))
    (with_unfolding_all refine' DoesK.use (insort_l w (fun vs n => (f, fo.obj) :: (I, it) :: (Fa, W.listOf vs.toArray n) :: (S, W.listOf wsS.toArray 0) :: (R, W.listOf vsR.toArray kR) :: (L + 3, o3) :: (L + 2, o2) :: (L + 1, oF) :: (110, tabObj #[]) :: (103, tabObj #[]) :: [(205, tabObj #[rawInt 272, rawInt 36, .ref c']), (c', oc)]) Fa vF (srtL ((nums.drop 4).take i)) kF xi t f fo (.head _) key (fun _ _ _ _ => Upd.tail fF (Upd.tail nI (Upd.head nRest))) (fun _ _ => .tail _ (.tail _ (.head _))) P1 (by omega) (pw_idx' hsf.1)) (by k_asm) (by k_asm) (by k_asm) (by k_asm) (by k_asm) (by assumption) (by assumption) (by first | exact rfl | assumption) (by ktr_room) (by ktr_units) ?_)
    intro r9 news9 h9 tk9 F9 N9 O9
    revert N9
    apply rv2 O9
    clear O9
    intro vs' n' hI' N9
    dsimp only
    (repeat' (first | (k_unfold; (try dsimp only)) | (k_end; wrow_close) | ((fail_if_success with_reducible (first | refine KswEnd_stop ?_ | refine call_stop ?_ | refine pyIter_stop ?_ | refine while_stop ?_ | refine for_stop ?_ | refine def_stop ?_ | refine CompSrcT_stop ?_ | refine CompSrc_stop ?_ | refine lca_stop ?_ | refine lce_stop ?_ | refine dsp_stop ?_ | refine lam_stop ?_ | refine cmp_stop ?_)); first | ((fail_if_success (fail_if_success (with_reducible refine st_guard ?_))); refine' store_L ?_ ?_ ?_ ?_ ?_ ?_ ?_; rotate_left 5; (first | dsimp only | rfl); (first | dsimp only | rfl); k_asm; k_asm; rfl; rfl; intro _ _ _; k_sweep) | ((with_reducible refine' slice_led ?_ ?_ ?_ ?_ ?_ ?_ ?_ ?_ ?_ ?_ ?_ ?_ ?_); rotate_left 12; rfl; rfl; k_asm; k_asm; kmk_list; kmk_part; kmk_part; (first | k_asm | l_ints | exact IntsAre.cons _ _ IntsAre.nil); kmk_nums; with_unfolding_all rfl; kmk_pure; (first | omega | (simp only [List.length_append, List.length_take, List.length_drop, List.length_cons, List.length_nil]; omega)); lsm_bools) | walk1 | (dsimp only; first | ((fail_if_success (fail_if_success (with_reducible refine st_guard ?_))); refine' store_L ?_ ?_ ?_ ?_ ?_ ?_ ?_; rotate_left 5; (first | dsimp only | rfl); (first | dsimp only | rfl); k_asm; k_asm; rfl; rfl; intro _ _ _; k_sweep) | ((with_reducible refine' slice_led ?_ ?_ ?_ ?_ ?_ ?_ ?_ ?_ ?_ ?_ ?_ ?_ ?_); rotate_left 12; rfl; rfl; k_asm; k_asm; kmk_list; kmk_part; kmk_part; (first | k_asm | l_ints | exact IntsAre.cons _ _ IntsAre.nil); kmk_nums; with_unfolding_all rfl; kmk_pure; (first | omega | (simp only [List.length_append, List.length_take, List.length_drop, List.length_cons, List.length_nil]; omega)); lsm_bools) | walk1) | (leave1; try dsimp only))))
    refine hQ9 _ _ ?_
    refine tpost_next (tend ⟨vs', n', [(205, tabObj #[rawInt 272, rawInt 36, .ref c']), (c', oc)]⟩ (by k_asm) (by k_asm) (.tail _ (.head _)) (fun p hp => .tail _ (.tail _ hp)) ?_ (by kst_all) (by kst_same) ⟨?_, .one c' oc vs9 t9 hd9 hv9, ?_⟩)
    · have hc'I : @Ne Nat c' I := (q1 _ (.head _)).symm
      have h205 : ∃ o, (205, o) ∈ tb := P2.mem
      obtain ⟨ot, hot⟩ := h205
      refine fa_cons nI.symm ?_
      simp only [List.forall_mem_cons]
      exact ⟨hoff _ (.tail _ (.head _)), hoff _ (.tail _ (.tail _ (.head _))), hoff _ (.tail _ (.tail _ (.tail _ (.head _)))), hoff _ (.tail _ (.tail _ (.tail _ (.tail _ (.head _))))), hoff _ (.tail _ (.tail _ (.tail _ (.tail _ (.tail _ (.head _)))))), hoff _ (.tail _ (.tail _ (.tail _ (.tail _ (.tail _ (.tail _ (.head _))))))), hoff _ (.tail _ (.tail _ (.tail _ (.tail _ (.tail _ (.tail _ (.tail _ (.head _)))))))), hDI _ hot, hc'I, fun _ h => nomatch h⟩
    · dsimp only
      rw [List.take_add_one, hxi]
      show IntsAre vs' (srtL (_ ++ [xi]))
      rw [srtL_snoc]; exact hI'
    · obtain ⟨ot, hot⟩ := P2.mem
      intro q hq
      rcases List.mem_cons.mp hq with rfl | hq
      · have e := P3 (205, ot) hot; exact e
      · rw [List.mem_singleton.mp hq]
        exact ⟨cF, (q1 _ (.tail _ (.tail _ (.head _)))).symm, (q1 _ (.tail _ (.tail _ (.tail _ (.head _))))).symm, (q1 _ (.tail _ (.tail _ (.tail _ (.tail _ (.head _)))))).symm, (q1 _ (.tail _ (.tail _ (.tail _ (.tail _ (.tail _ (.head _))))))).symm, (q1 _ (.tail _ (.tail _ (.tail _ (.tail _ (.tail _ (.tail _ (.head _)))))))).symm, (q1 _ (.tail _ (.tail _ (.tail _ (.tail _ (.tail _ (.tail _ (.tail _ (.head _))))))))).symm, (q1 _ (.tail _ (.tail _ (.tail _ (.tail _ (.tail _ (.tail _ (.tail _ (.tail _ (.head _)))))))))).symm⟩
  · rintro ⟨vF, kF, tb⟩ u h tk hPP F'' N''
    refine and3 hPP ?_
    clear hPP
    intro P1 P2 P3
    dsimp only [kstB] at F''
    dsimp only at P1 N''
    rw [hiS.length, List.take_length] at P1
    obtain ⟨pc, hpc⟩ := P2.memT
    have n5 : @Ne Nat 205 Fa := (P3 _ hpc).1
    refine' hnext Fa vF kF oF pc _ _ _ P1 dF ?hps F'' (news_sub N'' (by repeat (first | exact sub_nil | refine sub_cons (by first | k_mem | exact .tail _ (.tail _ (.tail _ (.tail _ (.tail _ (.tail _ (.tail _ (.tail _ hpc)))))))) ?_))) ?_
    case hps => kst_all1
    · simp only [Off1, and_true]
      exact off7 ⟨l2.1, l2.2.2⟩

end
section
theorem rst_Sg4 : True := by w_top off; trivial
open PyProof.Rows.LCg PyProof.Rows.LCt
theorem seg4 {w : World} {fl : Addr} {p : Program} {loose : List Str} {mean : ExcName → Option Value} {mg mb : Str → Option Value} {g : Heap} {L Fa R : Addr} {s : Shared} {m : Str → Option Value} {Q : Flow → Shared → Prop} {E : Value → Shared → Prop} {vsF vsR : List Value} {nF nR : List Int} {kF kR : Nat} {t1 t2 : Tok} {tot spa : Int} {o1 o2 o3 : Obj} {pc : Array Value}
    (G : LawG w p loose mean mg mb g L) (hiF : IntsAre vsF nF) (hiR : IntsAre vsR nR) (hF4 : nF.length = 4) (hR4 : nR.length = 4) (d1 : o1.data = .cell (some (.ref Fa)))
    (hm : ∀ p ∈ [(Str.ofString "rows", Value.ref R), (Str.ofString "spare", .int spa t2), (Str.ofString "total", .int tot t1)], m p.1 = some p.2) (F : Fr g L s.heap m)
    (N : News g L s.heap ((Fa, W.listOf vsF.toArray kF) :: (R, W.listOf vsR.toArray kR) :: [(L + 3, o3), (L + 2, o2), (L + 1, o1), (110, tabObj #[]), (103, tabObj #[]), (205, tabObj pc)]))
    (offF : Off1 Fa ((R, W.listOf vsR.toArray kR) :: [(L + 3, o3), (L + 2, o2), (L + 1, o1), (110, tabObj #[]), (103, tabObj #[]), (205, tabObj pc)]))
    (offR : Off1 R [(L + 3, o3), (L + 2, o2), (L + 1, o1), (110, tabObj #[]), (103, tabObj #[]), (205, tabObj pc)])
    (hnext : ∀ (O M : Addr) (vsO vsM : List Value) (kO kM : Nat) (m' : Str → Option Value) (h' : Heap) (tk' : Nat), IntsAre vsO ((List.range 4).map fun i => nF.getD (3 - i) 0) → IntsAre vsM (nF.take 2 ++ nR ++ nF.drop 2) → 
      (∀ p ∈ [(Str.ofString "amid", Value.ref M), (Str.ofString "others", Value.ref O), (Str.ofString "rows", Value.ref R), (Str.ofString "spare", .int spa t2), (Str.ofString "total", .int tot t1)], m' p.1 = some p.2) → Fr g L h' m' →
      News g L h' ((M, W.listOf vsM.toArray kM) :: (O, W.listOf vsO.toArray kO) :: (R, W.listOf vsR.toArray kR) :: [(L + 3, o3), (L + 2, o2), (110, tabObj #[]), (103, tabObj #[]), (205, tabObj pc)]) →
      Off1 O ((R, W.listOf vsR.toArray kR) :: [(L + 3, o3), (L + 2, o2), (110, tabObj #[]), (103, tabObj #[]), (205, tabObj pc)]) → 
      Off1 M ((O, W.listOf vsO.toArray kO) :: (R, W.listOf vsR.toArray kR) :: [(L + 3, o3), (L + 2, o2), (110, tabObj #[]), (103, tabObj #[]), (205, tabObj pc)]) → LawAt w fl L 9 Q E { s with heap := h', toks := tk' }) :
    LawAt w fl L 7 Q E s := by
  have hS0 : StopAt (Str.ofString "turned") := trivial
  obtain ⟨B, X, T, C1, C2, C3, hL⟩ := G
  have F1 := fr_ps _ hm F
  clear F hm
  refine' seg_start ?e1 ?e2 ?_
  case e1 => exact rfl
  case e2 => exact rfl
  intro ek
  dsimp only [kstB] at F1
  simp only [Off1, and_true] at offF offR
  (repeat' (first | (k_unfold; (try dsimp only)) | (k_end; wrow_close) | ((fail_if_success with_reducible (first | refine KswEnd_stop ?_ | refine call_stop ?_ | refine pyIter_stop ?_ | refine while_stop ?_ | refine for_stop ?_ | refine def_stop ?_ | refine CompSrcT_stop ?_ | refine CompSrc_stop ?_ | refine lca_stop ?_ | refine lce_stop ?_ | refine dsp_stop ?_ | refine lam_stop ?_ | refine cmp_stop ?_ | (refine stopAt ?_ ?_; assumption))); first | ((fail_if_success (fail_if_success (with_reducible refine st_guard ?_))); refine' store_L ?_ ?_ ?_ ?_ ?_ ?_ ?_; rotate_left 5; (first | dsimp only | rfl); (first | dsimp only | rfl); k_asm; k_asm; rfl; rfl; intro _ _ _; k_sweep) | ((with_reducible refine' add_ints ?_ ?_ ?_ ?_ ?_ ?_ ?_ ?_); rotate_left 10; k_asm; k_asm; k_mem; (first | k_mem | (refine List.Mem.tail _ ?_; assumption)); (first | k_asm | l_ints | exact IntsAre.cons _ _ IntsAre.nil); (first | k_asm | l_ints | exact IntsAre.cons _ _ IntsAre.nil); (first | omega | (simp only [List.length_append, List.length_take, List.length_drop, List.length_cons, List.length_nil]; omega)); lsm_bools) | ((with_reducible refine' slice_led ?_ ?_ ?_ ?_ ?_ ?_ ?_ ?_ ?_ ?_ ?_ ?_ ?_); rotate_left 12; rfl; rfl; k_asm; k_asm; kmk_list; kmk_part; kmk_part; (first | k_asm | l_ints | exact IntsAre.cons _ _ IntsAre.nil); kmk_nums; with_unfolding_all rfl; kmk_pure; (first | omega | (simp only [List.length_append, List.length_take, List.length_drop, List.length_cons, List.length_nil]; omega)); lsm_bools) | ((with_reducible refine' item_int ?_ ?_ ?_ ?_ ?_ ?_ ?_ ?_); rotate_left 6; k_asm; (first | k_asm | k_mem); k_asm; (first | exact ix0 _ | omega); (first | (refine ix1 ?_ ?_ <;> assumption) | omega | (simp only [List.length_append, List.length_cons, List.length_nil]; omega)); (first | omega | (simp only [List.length_append, List.length_cons, List.length_nil]; omega)); rotate_left; with_unfolding_all rfl; intro _) | walk1 | (dsimp only; first | ((fail_if_success (fail_if_success (with_reducible refine st_guard ?_))); refine' store_L ?_ ?_ ?_ ?_ ?_ ?_ ?_; rotate_left 5; (first | dsimp only | rfl); (first | dsimp only | rfl); k_asm; k_asm; rfl; rfl; intro _ _ _; k_sweep) | ((with_reducible refine' add_ints ?_ ?_ ?_ ?_ ?_ ?_ ?_ ?_); rotate_left 10; k_asm; k_asm; k_mem; (first | k_mem | (refine List.Mem.tail _ ?_; assumption)); (first | k_asm | l_ints | exact IntsAre.cons _ _ IntsAre.nil); (first | k_asm | l_ints | exact IntsAre.cons _ _ IntsAre.nil); (first | omega | (simp only [List.length_append, List.length_take, List.length_drop, List.length_cons, List.length_nil]; omega)); lsm_bools) | ((with_reducible refine' slice_led ?_ ?_ ?_ ?_ ?_ ?_ ?_ ?_ ?_ ?_ ?_ ?_ ?_); rotate_left 12; rfl; rfl; k_asm; k_asm; kmk_list; kmk_part; kmk_part; (first | k_asm | l_ints | exact IntsAre.cons _ _ IntsAre.nil); kmk_nums; with_unfolding_all rfl; kmk_pure; (first | omega | (simp only [List.length_append, List.length_take, List.length_drop, List.length_cons, List.length_nil]; omega)); lsm_bools) | ((with_reducible refine' item_int ?_ ?_ ?_ ?_ ?_ ?_ ?_ ?_); rotate_left 6; k_asm; (first | k_asm | k_mem); k_asm; (first | exact ix0 _ | omega); (first | (refine ix1 ?_ ?_ <;> assumption) | omega | (simp only [List.length_append, List.length_cons, List.length_nil]; omega)); (first | omega | (simp only [List.length_append, List.length_cons, List.length_nil]; omega)); rotate_left; with_unfolding_all rfl; intro _) | walk1) | (leave1; try dsimp only))))
  refine LCg.Assign_ListComp_U (F₀ := by k_asm) (by rfl) (by with_unfolding_all rfl) (by with_unfolding_all rfl) (by decide) (by rfl) (by decide) (by rfl) (by rfl) (by rfl) ?_
  (repeat' (first | (k_unfold; (try dsimp only)) | (k_end; wrow_close) | ((fail_if_success with_reducible (first | refine KswEnd_stop ?_ | refine call_stop ?_ | refine pyIter_stop ?_ | refine while_stop ?_ | refine for_stop ?_ | refine def_stop ?_ | refine CompSrcT_stop ?_ | refine CompSrc_stop ?_ | refine lca_stop ?_ | refine lce_stop ?_ | refine dsp_stop ?_ | refine lam_stop ?_ | refine cmp_stop ?_ | (refine stopAt ?_ ?_; assumption))); first | ((fail_if_success (fail_if_success (with_reducible refine st_guard ?_))); refine' store_L ?_ ?_ ?_ ?_ ?_ ?_ ?_; rotate_left 5; (first | dsimp only | rfl); (first | dsimp only | rfl); k_asm; k_asm; rfl; rfl; intro _ _ _; k_sweep) | ((with_reducible refine' add_ints ?_ ?_ ?_ ?_ ?_ ?_ ?_ ?_); rotate_left 10; k_asm; k_asm; k_mem; (first | k_mem | (refine List.Mem.tail _ ?_; assumption)); (first | k_asm | l_ints | exact IntsAre.cons _ _ IntsAre.nil); (first | k_asm | l_ints | exact IntsAre.cons _ _ IntsAre.nil); (first | omega | (simp only [List.length_append, List.length_take, List.length_drop, List.length_cons, List.length_nil]; omega)); lsm_bools) | ((with_reducible refine' slice_led ?_ ?_ ?_ ?_ ?_ ?_ ?_ ?_ ?_ ?_ ?_ ?_ ?_); rotate_left 12; rfl; rfl; k_asm; k_asm; kmk_list; kmk_part; kmk_part; (first | k_asm | l_ints | exact IntsAre.cons _ _ IntsAre.nil); kmk_nums; with_unfolding_all rfl; kmk_pure; (first | omega | (simp only [List.length_append, List.length_take, List.length_drop, List.length_cons, List.length_nil]; omega)); lsm_bools) | ((with_reducible refine' item_int ?_ ?_ ?_ ?_ ?_ ?_ ?_ ?_); rotate_left 6; k_asm; (first | k_asm | k_mem); k_asm; (first | exact ix0 _ | omega); (first | (refine ix1 ?_ ?_ <;> assumption) | omega | (simp only [List.length_append, List.length_cons, List.length_nil]; omega)); (first | omega | (simp only [List.length_append, List.length_cons, List.length_nil]; omega)); rotate_left; with_unfolding_all rfl; intro _) | walk1 | (dsimp only; first | ((fail_if_success (fail_if_success (with_reducible refine st_guard ?_))); refine' store_L ?_ ?_ ?_ ?_ ?_ ?_ ?_; rotate_left 5; (first | dsimp only | rfl); (first | dsimp only | rfl); k_asm; k_asm; rfl; rfl; intro _ _ _; k_sweep) | ((with_reducible refine' add_ints ?_ ?_ ?_ ?_ ?_ ?_ ?_ ?_); rotate_left 10; k_asm; k_asm; k_mem; (first | k_mem | (refine List.Mem.tail _ ?_; assumption)); (first | k_asm | l_ints | exact IntsAre.cons _ _ IntsAre.nil); (first | k_asm | l_ints | exact IntsAre.cons _ _ IntsAre.nil); (first | omega | (simp only [List.length_append, List.length_take, List.length_drop, List.length_cons, List.length_nil]; omega)); lsm_bools) | ((with_reducible refine' slice_led ?_ ?_ ?_ ?_ ?_ ?_ ?_ ?_ ?_ ?_ ?_ ?_ ?_); rotate_left 12; rfl; rfl; k_asm; k_asm; kmk_list; kmk_part; kmk_part; (first | k_asm | l_ints | exact IntsAre.cons _ _ IntsAre.nil); kmk_nums; with_unfolding_all rfl; kmk_pure; (first | omega | (simp only [List.length_append, List.length_take, List.length_drop, List.length_cons, List.length_nil]; omega)); lsm_bools) | ((with_reducible refine' item_int ?_ ?_ ?_ ?_ ?_ ?_ ?_ ?_); rotate_left 6; k_asm; (first | k_asm | k_mem); k_asm; (first | exact ix0 _ | omega); (first | (refine ix1 ?_ ?_ <;> assumption) | omega | (simp only [List.length_append, List.length_cons, List.length_nil]; omega)); (first | omega | (simp only [List.length_append, List.length_cons, List.length_nil]; omega)); rotate_left; with_unfolding_all rfl; intro _) | walk1) | (leave1; try dsimp only))))
  rename_i h8 tk8 t₁ u₁ v₁ hr F9 N9 hk9
  refine LCg.CompSrc.range (n := 4) rfl F9 N9 hr rfl rfl (by decide) ?_
  intro g9
  refine restU_ind 4 (fun i ys nw => nw = (Fa, W.listOf vsF.toArray kF) :: (R, W.listOf vsR.toArray kR) :: [(L + 3, o3), (L + 2, o2), (L + 1, o1), (110, tabObj #[]), (103, tabObj #[]), (205, tabObj pc)] ∧ IntsAre ys ((List.range i).map fun i => nF.getD (3 - i) 0)) ?turn ?fin 4 0 [] _ rfl ⟨rfl, .nil⟩
  case turn =>
    rintro j ys nw hj ⟨rfl, hys⟩ v I2 oI2 C oC2 D m₂ h tk E' ⟨t, rfl⟩ hC hx FF NN off nn
    (repeat' (first | (k_unfold; (try dsimp only)) | (k_end; wrow_close) | ((fail_if_success with_reducible (first | refine KswEnd_stop ?_ | refine call_stop ?_ | refine pyIter_stop ?_ | refine while_stop ?_ | refine for_stop ?_ | refine def_stop ?_ | refine CompSrcT_stop ?_ | refine CompSrc_stop ?_ | refine lca_stop ?_ | refine lce_stop ?_ | refine dsp_stop ?_ | refine lam_stop ?_ | refine cmp_stop ?_ | (refine stopAt ?_ ?_; assumption))); first | ((fail_if_success (fail_if_success (with_reducible refine st_guard ?_))); refine' store_L ?_ ?_ ?_ ?_ ?_ ?_ ?_; rotate_left 5; (first | dsimp only | rfl); (first | dsimp only | rfl); k_asm; k_asm; rfl; rfl; intro _ _ _; k_sweep) | ((with_reducible refine' add_ints ?_ ?_ ?_ ?_ ?_ ?_ ?_ ?_); rotate_left 10; k_asm; k_asm; k_mem; (first | k_mem | (refine List.Mem.tail _ ?_; assumption)); (first | k_asm | l_ints | exact IntsAre.cons _ _ IntsAre.nil); (first | k_asm | l_ints | exact IntsAre.cons _ _ IntsAre.nil); (first | omega | (simp only [List.length_append, List.length_take, List.length_drop, List.length_cons, List.length_nil]; omega)); lsm_bools) | ((with_reducible refine' slice_led ?_ ?_ ?_ ?_ ?_ ?_ ?_ ?_ ?_ ?_ ?_ ?_ ?_); rotate_left 12; rfl; rfl; k_asm; k_asm; kmk_list; kmk_part; kmk_part; (first | k_asm | l_ints | exact IntsAre.cons _ _ IntsAre.nil); kmk_nums; with_unfolding_all rfl; kmk_pure; (first | omega | (simp only [List.length_append, List.length_take, List.length_drop, List.length_cons, List.length_nil]; omega)); lsm_bools) | ((with_reducible refine' item_int ?_ ?_ ?_ ?_ ?_ ?_ ?_ ?_); rotate_left 6; k_asm; (first | k_asm | k_mem); k_asm; (first | exact ix0 _ | omega); (first | (refine ix1 ?_ ?_ <;> assumption) | omega | (simp only [List.length_append, List.length_cons, List.length_nil]; omega)); (first | omega | (simp only [List.length_append, List.length_cons, List.length_nil]; omega)); rotate_left; with_unfolding_all rfl; intro _) | walk1 | (dsimp only; first | ((fail_if_success (fail_if_success (with_reducible refine st_guard ?_))); refine' store_L ?_ ?_ ?_ ?_ ?_ ?_ ?_; rotate_left 5; (first | dsimp only | rfl); (first | dsimp only | rfl); k_asm; k_asm; rfl; rfl; intro _ _ _; k_sweep) | ((with_reducible refine' add_ints ?_ ?_ ?_ ?_ ?_ ?_ ?_ ?_); rotate_left 10; k_asm; k_asm; k_mem; (first | k_mem | (refine List.Mem.tail _ ?_; assumption)); (first | k_asm | l_ints | exact IntsAre.cons _ _ IntsAre.nil); (first | k_asm | l_ints | exact IntsAre.cons _ _ IntsAre.nil); (first | omega | (simp only [List.length_append, List.length_take, List.length_drop, List.length_cons, List.length_nil]; omega)); lsm_bools) | ((with_reducible refine' slice_led ?_ ?_ ?_ ?_ ?_ ?_ ?_ ?_ ?_ ?_ ?_ ?_ ?_); rotate_left 12; rfl; rfl; k_asm; k_asm; kmk_list; kmk_part; kmk_part; (first | k_asm | l_ints | exact IntsAre.cons _ _ IntsAre.nil); kmk_nums; with_unfolding_all rfl; kmk_pure; (first | omega | (simp only [List.length_append, List.length_take, List.length_drop, List.length_cons, List.length_nil]; omega)); lsm_bools) | ((with_reducible refine' item_int ?_ ?_ ?_ ?_ ?_ ?_ ?_ ?_); rotate_left 6; k_asm; (first | k_asm | k_mem); k_asm; (first | exact ix0 _ | omega); (first | (refine ix1 ?_ ?_ <;> assumption) | omega | (simp only [List.length_append, List.length_cons, List.length_nil]; omega)); (first | omega | (simp only [List.length_append, List.length_cons, List.length_nil]; omega)); rotate_left; with_unfolding_all rfl; intro _) | walk1) | (leave1; try dsimp only))))
    rename_i tA
    refine CompEnd.intro FF NN _ (fun p h => h) off trivial ⟨rfl, ?_⟩
    have e : (3 - (0 + (j : Int))).toNat = 3 - j := sub_toNat 3 j
    rw [e, List.range_succ, List.map_append]
    exact intsAre_append hys (.cons _ _ .nil)
  case fin =>
    rintro ys nw ⟨rfl, hys⟩
    intro D8 h8 tk8 F8 N8 off8
    dsimp only
    simp only [Off1, and_true] at off8
    (repeat' (first | (k_unfold; (try dsimp only)) | (k_end; wrow_close) | ((fail_if_success with_reducible (first | refine KswEnd_stop ?_ | refine call_stop ?_ | refine pyIter_stop ?_ | refine while_stop ?_ | refine for_stop ?_ | refine def_stop ?_ | refine CompSrcT_stop ?_ | refine CompSrc_stop ?_ | refine lca_stop ?_ | refine lce_stop ?_ | refine dsp_stop ?_ | refine lam_stop ?_ | refine cmp_stop ?_ | (refine stopAt ?_ ?_; assumption))); first | ((fail_if_success (fail_if_success (with_reducible refine st_guard ?_))); refine' store_L ?_ ?_ ?_ ?_ ?_ ?_ ?_; rotate_left 5; (first | dsimp only | rfl); (first | dsimp only | rfl); k_asm; k_asm; rfl; rfl; intro _ _ _; k_sweep) | ((with_reducible refine' add_ints ?_ ?_ ?_ ?_ ?_ ?_ ?_ ?_); rotate_left 10; k_asm; k_asm; k_mem; (first | k_mem | (refine List.Mem.tail _ ?_; assumption)); (first | k_asm | l_ints | exact IntsAre.cons _ _ IntsAre.nil); (first | k_asm | l_ints | exact IntsAre.cons _ _ IntsAre.nil); (first | omega | (simp only [List.length_append, List.length_take, List.length_drop, List.length_cons, List.length_nil]; omega)); lsm_bools) | ((with_reducible refine' slice_led ?_ ?_ ?_ ?_ ?_ ?_ ?_ ?_ ?_ ?_ ?_ ?_ ?_); rotate_left 12; rfl; rfl; k_asm; k_asm; kmk_list; kmk_part; kmk_part; (first | k_asm | l_ints | exact IntsAre.cons _ _ IntsAre.nil); kmk_nums; with_unfolding_all rfl; kmk_pure; (first | omega | (simp only [List.length_append, List.length_take, List.length_drop, List.length_cons, List.length_nil]; omega)); lsm_bools) | ((with_reducible refine' item_int ?_ ?_ ?_ ?_ ?_ ?_ ?_ ?_); rotate_left 6; k_asm; (first | k_asm | k_mem); k_asm; (first | exact ix0 _ | omega); (first | (refine ix1 ?_ ?_ <;> assumption) | omega | (simp only [List.length_append, List.length_cons, List.length_nil]; omega)); (first | omega | (simp only [List.length_append, List.length_cons, List.length_nil]; omega)); rotate_left; with_unfolding_all rfl; intro _) | walk1 | (dsimp only; first | ((fail_if_success (fail_if_success (with_reducible refine st_guard ?_))); refine' store_L ?_ ?_ ?_ ?_ ?_ ?_ ?_; rotate_left 5; (first | dsimp only | rfl); (first | dsimp only | rfl); k_asm; k_asm; rfl; rfl; intro _ _ _; k_sweep) | ((with_reducible refine' add_ints ?_ ?_ ?_ ?_ ?_ ?_ ?_ ?_); rotate_left 10; k_asm; k_asm; k_mem; (first | k_mem | (refine List.Mem.tail _ ?_; assumption)); (first | k_asm | l_ints | exact IntsAre.cons _ _ IntsAre.nil); (first | k_asm | l_ints | exact IntsAre.cons _ _ IntsAre.nil); (first | omega | (simp only [List.length_append, List.length_take, List.length_drop, List.length_cons, List.length_nil]; omega)); lsm_bools) | ((with_reducible refine' slice_led ?_ ?_ ?_ ?_ ?_ ?_ ?_ ?_ ?_ ?_ ?_ ?_ ?_); rotate_left 12; rfl; rfl; k_asm; k_asm; kmk_list; kmk_part; kmk_part; (first | k_asm | l_ints | exact IntsAre.cons _ _ IntsAre.nil); kmk_nums; with_unfolding_all rfl; kmk_pure; (first | omega | (simp only [List.length_append, List.length_take, List.length_drop, List.length_cons, List.length_nil]; omega)); lsm_bools) | ((with_reducible refine' item_int ?_ ?_ ?_ ?_ ?_ ?_ ?_ ?_); rotate_left 6; k_asm; (first | k_asm | k_mem); k_asm; (first | exact ix0 _ | omega); (first | (refine ix1 ?_ ?_ <;> assumption) | omega | (simp only [List.length_append, List.length_cons, List.length_nil]; omega)); (first | omega | (simp only [List.length_append, List.length_cons, List.length_nil]; omega)); rotate_left; with_unfolding_all rfl; intro _) | walk1) | (leave1; try dsimp only))))
    rename_i S1 v1 h1 i1 q1 S2 v2 h2 i2 q2 S3 v3 h3 i3 q3 M v4 h4 i4 q4 h5 F5 N5
    refine' hnext D8 M ys v4 ys.length 0 _ _ _ hys i4 ?hps F5 (news_sub N5 (by repeat (first | exact sub_nil | refine sub_cons (by k_mem) ?_))) ?_ ?_
    case hps => kst_all1
    · exact ⟨off8.2.1, off8.2.2.1, off8.2.2.2.1, off8.2.2.2.2.2.1, off8.2.2.2.2.2.2.1, off8.2.2.2.2.2.2.2, trivial⟩
    · simp only [Off1, and_true]
      rename S3 < M ∧ _ => z
      exact off7 ⟨z.2.2.2.1, z.2.2.2.2.2.1, z.2.2.2.2.2.2.1, z.2.2.2.2.2.2.2.1, z.2.2.2.2.2.2.2.2.2⟩

end
section
theorem rst_Sg8 : True := by w_top off; trivial
theorem seg8 {w : World} {fl : Addr} {p : Program} {loose : List Str} {mean : ExcName → Option Value} {mg mb : Str → Option Value} {g : Heap} {L R x9 Fi : Addr} {s : Shared} {m : Str → Option Value} {Q : Flow → Shared → Prop} {E : Value → Shared → Prop} {t1 t2 : Tok} {tot spa : Int} {led : Led}
    (G : LawG w p loose mean mg mb g L)
    (hm : ∀ p ∈ [(Str.ofString "figures", Value.ref Fi), (Str.ofString "board", Value.ref x9), (Str.ofString "rows", Value.ref R), (Str.ofString "spare", .int spa t2), (Str.ofString "total", .int tot t1)], m p.1 = some p.2) (F : Fr g L s.heap m)
    (N : News g L s.heap led)
    (hnext : ∀ (W : Int) (tw : Tok) (m' : Str → Option Value) (h' : Heap) (tk' : Nat), 8 ≤ W → W ≤ 4143 →
      (∀ p ∈ [(Str.ofString "width", Value.int W tw), (Str.ofString "figures", Value.ref Fi), (Str.ofString "board", Value.ref x9), (Str.ofString "rows", Value.ref R), (Str.ofString "spare", .int spa t2), (Str.ofString "total", .int tot t1)], m' p.1 = some p.2) → Fr g L h' m' →
      News g L h' led → LawAt w fl L 19 Q E { s with heap := h', toks := tk' }) :
    LawAt w fl L 17 Q E s := by
  have hS0 : StopAt (Str.ofString "base") := trivial
  obtain ⟨B, X, T, C1, C2, C3, hL⟩ := G
  have F1 := fr_ps _ hm F
  clear F hm
  have h40 := Int.fmod_nonneg_of_pos tot (b := 40) (by decide)
  have h41 := Int.fmod_lt_of_pos tot (b := 40) (by decide)
  refine' seg_start ?e1 ?e2 ?_
  case e1 => exact rfl
  case e2 => exact rfl
  intro ek
  dsimp only [kstB] at F1
  (repeat' (first | (k_unfold; (try dsimp only)) | (k_end; wrow_close) | ((fail_if_success with_reducible (first | refine KswEnd_stop ?_ | refine call_stop ?_ | refine pyIter_stop ?_ | refine while_stop ?_ | refine for_stop ?_ | refine def_stop ?_ | refine CompSrcT_stop ?_ | refine CompSrc_stop ?_ | refine lca_stop ?_ | refine lce_stop ?_ | refine dsp_stop ?_ | refine lam_stop ?_ | refine cmp_stop ?_ | (refine stopAt ?_ ?_; assumption))); first | ((fail_if_success (fail_if_success (with_reducible refine st_guard ?_))); refine' store_L ?_ ?_ ?_ ?_ ?_ ?_ ?_; rotate_left 5; (first | dsimp only | rfl); (first | dsimp only | rfl); k_asm; k_asm; rfl; rfl; intro _ _ _; k_sweep) | ((with_reducible refine' floordiv_D ?_ ?_ ?_); (first | k_asm | omega | decide); (first | k_asm | omega | decide +kernel)) | walk1 | (dsimp only; first | ((fail_if_success (fail_if_success (with_reducible refine st_guard ?_))); refine' store_L ?_ ?_ ?_ ?_ ?_ ?_ ?_; rotate_left 5; (first | dsimp only | rfl); (first | dsimp only | rfl); k_asm; k_asm; rfl; rfl; intro _ _ _; k_sweep) | ((with_reducible refine' floordiv_D ?_ ?_ ?_); (first | k_asm | omega | decide); (first | k_asm | omega | decide +kernel)) | walk1) | (leave1; try dsimp only))))
  all_goals
    rename News _ _ _ _ => N7
    rename Fr _ _ _ _ => F7
    refine' hnext _ _ _ _ _ ?_ ?_ ?hps F7 N7
    case hps => kst_all1
    all_goals omega

end
section
theorem l4 {l : List Int} (h : l.length = 4) : ∃ a b c d, l = [a, b, c, d] := by
  match l, h with
  | [a, b, c, d], _ => exact ⟨a, b, c, d, rfl⟩
theorem rows_tbl {nums : List Int} (h8 : nums.length = 8) (h4 : ∀ x ∈ nums, 0 ≤ x ∧ x ≤ 4) : ∃ r ∈ tbl, r.R = srtR (nums.take 4) := by
  obtain ⟨h1, h2, h3⟩ := srtR_facts (nums.take 4)
  refine tbl_mem (by rw [h2, List.length_take]; omega) h1 fun x hx => h4 x (List.mem_of_mem_take (h3 x hx))
theorem fall_facts {nums : List Int} (h8 : nums.length = 8) (h4 : ∀ x ∈ nums, 0 ≤ x ∧ x ≤ 4) : (srtL (nums.drop 4)).length = 4 ∧ ∀ x ∈ srtL (nums.drop 4), 0 ≤ x ∧ x ≤ 4 := by
  obtain ⟨h1, h2, h3⟩ := srtL_facts (nums.drop 4)
  exact ⟨by rw [h2, List.length_drop]; omega, fun x hx => h4 x (List.mem_of_mem_drop (h3 x hx))⟩
theorem oth_tbl {nums : List Int} (h8 : nums.length = 8) (h4 : ∀ x ∈ nums, 0 ≤ x ∧ x ≤ 4) : ∃ q ∈ tbl, q.R = (List.range 4).map fun i => (srtL (nums.drop 4)).getD (3 - i) 0 := by
  obtain ⟨f1, f2⟩ := fall_facts h8 h4
  obtain ⟨h1, -, -⟩ := srtL_facts (nums.drop 4)
  obtain ⟨a, b, c, d, e⟩ := l4 f1
  rw [e] at f2 h1 ⊢
  have e2 : ((List.range 4).map fun i => [a, b, c, d].getD (3 - i) 0) = [d, c, b, a] := rfl
  rw [e2]
  simp only [List.pairwise_cons, List.mem_cons, List.not_mem_nil, or_false] at h1 f2
  refine tbl_mem rfl ?_ fun x hx => f2 x (by simp only [List.mem_cons, List.not_mem_nil, or_false] at hx; rcases hx with h | h | h | h <;> simp [h])
  simp only [List.pairwise_cons, List.mem_cons, List.not_mem_nil, or_false]
  obtain ⟨p1, p2, p3, -⟩ := h1
  refine ⟨?_, ?_, ?_, fun _ h => h.elim, List.Pairwise.nil⟩
  · rintro x (rfl | rfl | rfl)
    · exact p3 _ rfl
    · exact p2 _ (.inr rfl)
    · exact p1 _ (.inr (.inr rfl))
  · rintro x (rfl | rfl)
    · exact p2 _ (.inl rfl)
    · exact p1 _ (.inr (.inl rfl))
  · rintro x rfl
    exact p1 _ (.inl rfl)
theorem mid_get {f r : List Int} (hf : f.length = 4) (hr : r.length = 4) : (f.take 2 ++ r ++ f.drop 2).length = 8 ∧ ∀ i : Nat, i < 4 → (f.take 2 ++ r ++ f.drop 2).getD (2 + i) 0 = r.getD i 0 := by
  obtain ⟨a, b, c, d, rfl⟩ := l4 hf
  obtain ⟨a', b', c', d', rfl⟩ := l4 hr
  refine ⟨rfl, fun i hi => ?_⟩
  match i, hi with
  | 0, _ => rfl
  | 1, _ => rfl
  | 2, _ => rfl
  | 3, _ => rfl
theorem row_facts {r : Rw} (h : r ∈ tbl) : r.R.length = 4 ∧ (∀ x ∈ r.R, 0 ≤ x ∧ x ≤ 4) ∧ r.R.Pairwise (· ≤ ·) := by
  have h1 := all_mem (f := fun r : Rw => decide (r.R.length = 4 ∧ (∀ x ∈ r.R, 0 ≤ x ∧ x ≤ 4) ∧ r.R.Pairwise (· ≤ ·))) (by decide +kernel : tbl.all _ = true) h
  exact of_decide_eq_true h1
theorem fmod3 (x : Int) : 0 ≤ x.fmod 3 ∧ x.fmod 3 ≤ 2 := by
  rw [Int.fmod_eq_emod_of_nonneg _ (by omega)]; omega
theorem sign2 (x : Int) : 2 * x.fmod 2 - 1 = 1 ∨ 2 * x.fmod 2 - 1 = -1 := by
  rw [Int.fmod_eq_emod_of_nonneg _ (by omega)]; omega

end
section
theorem rst_Join : True := by w_top off; trivial
theorem off_ne {D : Addr} : ∀ {l : Led}, PyProof.Rows.LCg.Off1 D l → ∀ p ∈ l, @Ne Nat p.1 D
  | [], _, _, h => by cases h
  | q :: l, h, p, hp => by
    rcases List.mem_cons.mp hp with rfl | h2
    · exact h.1
    · exact off_ne h.2 p h2
theorem la_conv {w : World} {fl L : Addr} {k : Nat} {Q : Flow → Shared → Prop} {E : Value → Shared → Prop} {s s' : Shared} (e : s = s') (h : LawAt w fl L k Q E s') : LawAt w fl L k Q E s := e ▸ h
theorem off_base {L b k : Nat} (hL : 205 < L) (hb : b ≤ 205) : @Ne Nat (L + k) b := by omega
/-- the law answers True -/
theorem law_all {w : World} {fl : Addr} {p : Program} {loose : List Str} {mean : ExcName → Option Value} {mg mb : Str → Option Value} {g : Heap} {L ax : Addr} {s : Shared} {m : Str → Option Value} {Q : Flow → Shared → Prop} {E : Value → Shared → Prop} {vs : List Value} {xs : List Int} {o1 o2 o3 : Obj}
    (G : LawG w p loose mean mg mb g L) (hls : g.IsList ax vs.toArray) (hi : IntsAre vs xs) (h63 : xs.length ≤ 63)
    (hm : ∀ p ∈ [(Str.ofString "script", Value.ref ax)], m p.1 = some p.2) (F : Fr g L s.heap m)
    (d1 : o1.data = .cell none) (d2 : o2.data = .cell none) (d3 : o3.data = .cell none)
    (N : News g L s.heap [(L + 3, o3), (L + 2, o2), (L + 1, o1), (110, tabObj #[]), (103, tabObj #[]), (205, tabObj #[])])
    (hret : ∀ (tr : Tok) (pa pb pc : Array Value) (m' : Str → Option Value) (h' : Heap) (tk' : Nat), Fr g L h' m' → News g L h' [(110, tabObj pa), (103, tabObj pb), (205, tabObj pc)] → Q (.ret (.bool true)) { s with heap := h', toks := tk' }) :
    LawAt w fl L 0 Q E s := by
  have hL := G.hL
  refine seg1 G hls hi h63 hm F d1 d2 d3 N ?_
  intro nums D t1 t2 us kk m1 h1 tk1 hiU h8 h4 hm1 F1 N1 O1
  obtain ⟨s0, s2⟩ := fmod3 xs.sum
  generalize xs.sum.fmod 3 = spa at *
  generalize xs.sum = tot at *
  refine la_conv (by first | dsimp only | rfl) ?_
  refine seg2 G hiU h8 h4 hm1 F1 N1 O1 ?_
  intro R vsR kR m2 h2 tk2 hiR hm2 F2 N2 O2
  refine la_conv (by first | dsimp only | rfl) ?_
  refine seg3 G hiU h8 d1 hm2 F2 N2 O1 O2 ?_
  intro Fa vsF kF o1' pc m3 h3 tk3 hiF d1' hm3 F3 N3 O3
  obtain ⟨f4, fc⟩ := fall_facts h8 h4
  obtain ⟨q, hq, eq⟩ := oth_tbl h8 h4
  obtain ⟨r, hr, er⟩ := rows_tbl h8 h4
  rw [← er] at hiR
  generalize srtL (nums.drop 4) = nF at *
  obtain ⟨r4, rc, rp⟩ := row_facts hr
  obtain ⟨q4, qc, -⟩ := row_facts hq
  have oR' : PyProof.Rows.LCg.Off1 R [(L + 3, o3), (L + 2, o2), (L + 1, o1'), (110, tabObj #[]), (103, tabObj #[]), (205, tabObj pc)] := ⟨O2.2.1, O2.2.2.1, O2.2.2.2.1, O2.2.2.2.2.1, O2.2.2.2.2.2.1, O2.2.2.2.2.2.2.1, trivial⟩
  refine la_conv (by first | dsimp only | rfl) ?_
  refine seg4 G hiF hiR f4 r4 d1' hm3 F3 N3 O3 oR' ?_
  intro O M vsO vsM kO kM m4 h4' tk4 hiO hiM hm4 F4 N4 O4 O5
  rw [← eq] at hiO
  obtain ⟨m8, mget⟩ := mid_get f4 r4
  refine la_conv (by first | dsimp only | rfl) ?_
  refine seg5 G hiM m8 r4 mget (fun x hx => (rc x hx).2) (pw_idx rp) hm4 F4 N4 ?_
  intro Tu vsT kT m5 h5 tk5 hiT hm5 F5 N5 O6
  obtain ⟨tl, tc⟩ := f_t hr
  refine la_conv (by first | dsimp only | rfl) ?_
  refine seg6 G hiT hiR tl r4 rc tc s0 s2 hm5 F5 N5 (.tail _ (.head _)) (fun lo mo hh => f_tn hr s0 s2 lo mo hh) ?_
  intro x9 d9 c9 n9 vs9 v1 v2 v3 v4 k1 k2 k3 k4 k5 t9 m6 h6 tk6 hi9 hm6 F6 N6 l1 l2 l3 l4
  refine la_conv (by first | dsimp only | rfl) ?_
  refine seg7 G hiO hiR q4 r4 qc s0 s2 hi9 hm6 F6 N6 (.tail _ (.head _)) (.head _) ?_ ?_ (f_pair hr hq s0 s2) ?_
  · rw [f_cn hr]; exact (f_e hr).1
  · rw [f_cn hq]; exact (f_e hq).1
  intro Fi vsG kG m7 h7 tk7 hiG hm7 F7 N7 hFi
  refine la_conv (by first | dsimp only | rfl) ?_
  refine seg8 G hm7 F7 N7 ?_
  intro Wd tw m8' h8' tk8 hW8 hW9 hm8 F8 N8
  obtain ⟨e1, -⟩ := f_wz hr s0 s2
  rw [e1] at hi9
  obtain ⟨rs5, rsc, -, cl, cc⟩ := f_d hr
  have N8' := news_sub (b := (n9, tup2 (.ref c9) (.int (wz (leadL 0 r.R spa)).b t9)) :: (c9, tupOf vs9) :: (x9, instObj 83 d9) :: (d9, wsDict w n9 v1 v2 v3 v4 k1 k2 k3 k4 k5) :: [(103, tabObj #[]), (110, tabObj #[]), (Fi, W.listOf vsG.toArray kG), (R, W.listOf vsR.toArray kR), (L + 3, o3), (L + 2, o2), (205, tabObj pc)]) N8 (by repeat (first | exact sub_nil | refine sub_cons (by k_mem) ?_))
  refine la_conv (by first | dsimp only | rfl) ?_
  refine seg9 G hW8 hW9 hi9 cl (fun j => getD_all (by omega) (by omega) cc j) hm8 F8 N8' ?_
  intro tb ts tp m9 h9 tk9 hm9 F9 N9
  have w8 : 8 ≤ Wd.toNat := by omega
  obtain ⟨er1, P0, P1⟩ := f_rook hr w8
  have hled : ∀ p ∈ [(Fi, W.listOf vsG.toArray kG), (R, W.listOf vsR.toArray kR), (L + 3, o3), (L + 2, o2), (205, tabObj pc)], (@Ne Nat p.1 103) ∧ (@Ne Nat p.1 110) :=
    fa_cons ⟨(hFi _ (.tail _ (.tail _ (.tail _ (.tail _ (.tail _ (.head _))))))).symm, (hFi _ (.tail _ (.tail _ (.tail _ (.tail _ (.head _)))))).symm⟩ (fa_cons ⟨oR'.2.2.2.2.1.symm, oR'.2.2.2.1.symm⟩ (fa_cons ⟨off_base hL (by decide), off_base hL (by decide)⟩ (fa_cons ⟨off_base hL (by decide), off_base hL (by decide)⟩ (fa_cons ⟨(by decide : @Ne Nat 205 103), (by decide : @Ne Nat 205 110)⟩ (List.forall_mem_nil _)))))
  refine la_conv (by first | dsimp only | rfl) ?_
  refine seg10 G hW8 hW9 (sign2 tot) P0 P1 hm9 F9 N9 hled ?_
  intro Ro vsS k T m10 h10 tk10 hiS hT hRo hm10 F10 N10
  rw [er1] at hiS
  obtain ⟨n0, n1, n2, n3, n4⟩ := f_num hr hW8
  refine la_conv (by first | dsimp only | rfl) ?_
  refine seg11 G hW8 hW9 hiS rs5 (fun j => ?_) hiG (.head _) hT hRo hm10 F10 N10 n0 n1 n2 n3 n4 ?_
  · have := getD_all (a := 0) (b := 199) (by omega) (by omega) (fun x hx => by have := rsc x hx; omega) j
    omega
  intro T' m11 h11 tk11 hT' hm11 F11 N11
  obtain ⟨u1, u2, u3, u4, u5⟩ := f_rim hr
  obtain ⟨ta, tb', eT, ha, hb, -, -⟩ := hT'
  obtain ⟨pb, hpb⟩ := ha.memT
  obtain ⟨pa, hpa⟩ := hb.memT
  have hpb' : (103, tabObj pb) ∈ T' := by rw [eT]; exact List.mem_append_left _ hpb
  have hpa' : (110, tabObj pa) ∈ T' := by rw [eT]; exact List.mem_append_right _ hpa
  have N11' := news_sub (b := (L + 2, o2) :: [(R, W.listOf vsR.toArray kR), (L + 3, o3), (Ro, W.listOf vsS.toArray k), (110, tabObj pa), (103, tabObj pb), (205, tabObj pc)]) N11 (by
    refine sub_cons (.tail _ (List.mem_append_right _ (.tail _ (.tail _ (.tail _ (.head _)))))) (sub_cons (.tail _ (List.mem_append_right _ (.tail _ (.head _)))) (sub_cons (.tail _ (List.mem_append_right _ (.tail _ (.tail _ (.head _))))) (sub_cons (.head _) (sub_cons (.tail _ (List.mem_append_left _ hpa')) (sub_cons (.tail _ (List.mem_append_left _ hpb')) (sub_cons (.tail _ (List.mem_append_right _ (.tail _ (.tail _ (.tail _ (.tail _ (.head _))))))) sub_nil)))))))
  have hRo3 : @LT.lt Nat _ (L + 3) Ro := hRo _ (.tail _ (.tail _ (.head _)))
  have hRo2 : @LT.lt Nat _ (L + 2) Ro := hRo _ (.tail _ (.tail _ (.tail _ (.head _))))
  have oR2 : @Ne Nat (L + 2) R := oR'.2.1
  refine la_conv (by first | dsimp only | rfl) ?_
  refine seg12 G hiR r4 u1 u2 u3 u4 (by omega) d2 (.head _) ?_ hm11 F11 N11' ?_
  · exact fa_cons oR2.symm (fa_cons (Nat.ne_of_gt (Nat.lt_succ_self _)) (fa_cons (Nat.ne_of_gt hRo2) (fa_cons ((off_base hL (by decide : 110 ≤ 205)).symm) (fa_cons ((off_base hL (by decide : 103 ≤ 205)).symm) (fa_cons ((off_base hL (by decide : 205 ≤ 205)).symm) (List.forall_mem_nil _))))))
  intro y ty Li vsL kL o2' m12 h12 tk12 hy hiL d2' hm12 F12 N12 oLi
  have oLi2 : @Ne Nat (L + 2) Li := oLi _ (.head _)
  have oLi3 : @Ne Nat (L + 3) Li := oLi _ (.tail _ (.tail _ (.head _)))
  have oLi4 : @Ne Nat Ro Li := oLi _ (.tail _ (.tail _ (.tail _ (.head _))))
  have N12' := news_sub (b := [(Li, W.listOf vsL.toArray kL), (L + 2, o2'), (L + 3, o3), (Ro, W.listOf vsS.toArray k), (110, tabObj pa), (103, tabObj pb), (205, tabObj pc)]) N12 (by repeat (first | exact sub_nil | refine sub_cons (by k_mem) ?_))
  obtain ⟨few, fst⟩ := f_few hr
  have l9 : (linesF (rimL r.R)).length = 9 := by rw [linesF_len]; omega
  refine la_conv (by first | dsimp only | rfl) ?_
  refine seg13 G hiL l9 hiS rs5 d2' d3 ⟨oLi3.symm, oLi2.symm, oLi4.symm⟩ ⟨Nat.ne_of_gt hRo3, Nat.ne_of_gt hRo2⟩ hm12 F12 N12' few fst ?_
  intro tf tm m13 h13 tk13 hm13 F13 N13
  obtain ⟨g0, g1, g2⟩ := f_most hr
  refine la_conv (by first | dsimp only | rfl) ?_
  refine seg14 G hy u5 u4 hiL l9 s0 s2 g0 g1 g2 d2' oLi2.symm (fun q hq => f_lev hr hq s0) (f_rot hr s0) hm13 F13 N13 ?_
  intro tr m' h' tk' F' N'
  exact hret tr pa pb pc m' h' tk' F' N'

end
end Mine
end
set_option maxRecDepth 100000 in
set_option maxHeartbeats 8000000 in
theorem PySem.Challenge.cw_tv0053_01_holds : PySem.Challenge.rw_tv0053_01.Holds := by
  refine Mine.hd ?_
  w_strict (k_go0; (all_goals try k_fold))
  rename_i w1 s₀ s₁ mg mb G Y fa o pm doc ho hg X V T B TE TW hcd xs hs hlay0 hL1 hr1 hl2 as1 as2 ax vs as3 hL ra w1' r0 hI hr hcond1 hcond2 hD h₁ tk₁ o3 o2 o1 d3 d2 d1 X0 X' T' K' F' c1 c2 N' l0
  refine Mine.law_enter rfl rfl rfl ?_
  refine Mine.law_all (w := w1) (g := ghostOf s₁.heap [(114, 110), (107, 103), (207, 205)]) (L := s₁.heap.objs.size) (s := { s₁ with heap := h₁, toks := tk₁ }) (ax := ax) (vs := vs) (xs := xs) (o1 := o1) (o2 := o2) (o3 := o3) ⟨K', X', T', c2, c1, codeHd, l0.2.2⟩ lifted hI ?_ ?_ F' d1 d2 d3 N' ?_
  · omega
  · kst_all1
  intro tr pa pb pc m' h' tk' F9 N9
  dsimp only
  refine ⟨?_, GrownAt.of N9 (.head _), GrownAt.of N9 (.tail _ (.head _)), GrownAt.of N9 (.tail _ (.tail _ (.head _))), trivial⟩
  kc_close
