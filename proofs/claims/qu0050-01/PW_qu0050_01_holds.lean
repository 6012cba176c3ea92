import PyProof.Rows.All
import Wide.All
import OpenK.AllK
import Wide.FinOn
import PySem.Challenge.RW_qu0050_01
open PySem PySem.W PyProof.Rows PySem.Calls
set_option Elab.async false
set_option maxRecDepth 100000
set_option maxHeartbeats 8000000
set_option compiler.extract_closed false
namespace Mine
noncomputable def bdy : List Stmt := (RowW.prog (OpenRow.toRowW PySem.Challenge.rw_qu0050_01.row)).main.body
/-- the text without its four rows that name the file -/
noncomputable def seen : Program := { RowW.prog (OpenRow.toRowW PySem.Challenge.rw_qu0050_01.row) with main := { (RowW.prog (OpenRow.toRowW PySem.Challenge.rw_qu0050_01.row)).main with body := (bdy.drop 1).take 7 ++ ((bdy.drop 9).take 1 ++ ((bdy.drop 11).take 51 ++ bdy.drop 63)) } }
theorem holds_both {r : OpenRow} {q : Program} {loose : List Str} {Xt : Shared → Bool} {XP : (Str → Option Value) → Heap → Prop} {α : Type} {Yf : Shared → α} {Ya : World → α} {YP : World → Heap → Prop} {d : DefRec} {kwd : List (Str × Expr)} {N : Nat}
    (hY : ∀ w s, Yf s = Ya w → YP w s.heap) (hYk : ∀ w h h', YP w h → (∀ b o, h.get? b = some o → h'.get? b = some o) → YP w h')
    (hX : ∀ s, Xt s = true → XP (s.heap.nsMap mainGlobals) s.heap) (hXk : ∀ mg h h', XP mg h → (∀ b o, h.get? b = some o → h'.get? b = some o) → XP mg h')
    (hdef : defOf q r.name = some (d, kwd)) (hp : r.prog.theDef r.name = some (d.params, d.body, d.scope)) (hk : kwWritten? d.params.kwonlyargs d.params.kw_defaults = some kwd) (hRf : ∀ s, Xt s = true → RecFacts r.records s.heap) (hwr : (!r.writes || r.records.isEmpty) = true)
    (k1 : r.wellSaid = true) (ok : (chainsOk q && opensWell r.prog && (frees r.toRowW && r.within.isEmpty)) = true) (hb : r.prog.bare) (hw : r.toRowW.promised)
    (lc : LeftO r.prog q loose Xt Yf Ya N ∧ WalkO q loose XP YP r.toRowW d kwd fun f vs => PySem.call f vs) : r.Holds :=
  holds_open lc.1 hY hYk hX hXk hdef hp hk hRf hwr k1 ok hb hw lc.2
section
local macro_rules | `(tactic| o_law) => `(tactic| (refine holds_law (by decide +kernel) fun said => ?_))
local macro_rules | `(tactic| o_head $H) => do
  let hw := Lean.mkIdent `hw
  let hc := Lean.mkIdent `hc
  `(tactic| (refine holds_both (q := Mine.seen) (loose := [Str.ofString "EXACT_TOKEN_TYPES"]) (Xt := fun s => xlAt Mine.seen [] s && recOk (RowW.records (OpenRow.toRowW PySem.Challenge.rw_qu0050_01.row)) s) (XP := XL Mine.seen []) (Yf := Hook.obs $H) (Ya := Hook.val $H) (YP := Hook.says $H) (N := 4608) (Hook.of $H) (Hook.keeps $H) (fun s e => xl_of s (Bool.and_eq_true_iff.mp e).1) XL.keeps (by rfl) (by rfl) (by rfl) (fun s e => recFacts_of (Bool.and_eq_true_iff.mp e).2) (by rfl) (by first | assumption | decide +kernel) (by decide +kernel) ⟨rfl, rfl, rfl, rfl, rfl, by decide +kernel⟩ ?$hw ?$hc))
open_top hd for PySem.Challenge.rw_qu0050_01
end
noncomputable def both : { P : Prop × Prop // P.1 ∧ P.2 → PySem.Challenge.rw_qu0050_01.Holds } := ⟨(_, _), hd⟩
noncomputable def left_at : { P : World → Prop // both.1.1 = ∀ w, P w } := ⟨fun w => _, rfl⟩
theorem left_f (w : World) : left_at.1 (w.withFollow "special-get-raises" false) := by
  show Option.map _ (openEnds _ _ _ _) = _
  unfold openEnds fencedOpening topFrom
  rw [PySem.W.Fast.te10274390034422433532, PySem.W.Fast.te14364793385576792824, PySem.W.Fast.te1435165496053646825, PySem.W.Fast.te14289696077712309145, PySem.W.Fast.te14082659384304107361, PySem.W.Fast.te4187177175401517315, PySem.W.Fast.te5923862056798008813, PySem.W.Fast.te8920871248978507458]
  kernel_rfl
theorem left_t (w : World) : left_at.1 (w.withFollow "special-get-raises" true) := by
  show Option.map _ (openEnds _ _ _ _) = _
  unfold openEnds fencedOpening topFrom
  rw [PySem.W.Fast.te10274390034422433532, PySem.W.Fast.te14364793385576792824, PySem.W.Fast.te1435165496053646825, PySem.W.Fast.te14289696077712309145, PySem.W.Fast.te14082659384304107361, PySem.W.Fast.te4187177175401517315, PySem.W.Fast.te5923862056798008813, PySem.W.Fast.te8920871248978507458]
  kernel_rfl
theorem left : both.1.1 := left_at.2 ▸ byRow2 "special-get-raises" left_f left_t
theorem top (h : both.1.2) : PySem.Challenge.rw_qu0050_01.Holds := both.2 ⟨left, h⟩
end Mine
theorem Mine.w_off : True := by
  w_top off
  trivial
local macro_rules | `(tactic| omega) => `(tactic| lia)
section
namespace Mine
theorem hideC {C : Prop} (h : ∀ D : Prop, (C → D) → D) : C := h C id
end Mine
end
section
/-! plain: the signs and how the longest one is taken -/
namespace Mine
noncomputable def sgn : Nat → List Nat
  | 0 => [43]
  | 1 => [45]
  | 2 => [42, 42, 61]
  | 3 => [47, 47]
  | 4 => [44]
  | _ => [126]
noncomputable def num : Nat → Nat
  | 0 => 14
  | 1 => 15
  | 2 => 46
  | 3 => 47
  | 4 => 12
  | _ => 31
noncomputable def sgns (l : List Nat) : List Nat := l.flatMap sgn
theorem sgns_cons (i : Nat) (l : List Nat) : sgns (i :: l) = sgn i ++ sgns l := by simp [sgns]
theorem sgns_nil : sgns [] = [] := rfl
theorem six {i : Nat} (h : i < 6) : i = 0 ∨ i = 1 ∨ i = 2 ∨ i = 3 ∨ i = 4 ∨ i = 5 := by omega
theorem sgn_len {i : Nat} (h : i < 6) : 1 ≤ (sgn i).length ∧ (sgn i).length ≤ 3 := by
  rcases six h with rfl | rfl | rfl | rfl | rfl | rfl <;> decide
theorem sgn_head {i : Nat} (h : i < 6) : ∃ b t, sgn i = b :: t ∧ b ≠ 61 ∧ b ≠ 62 := by
  rcases six h with rfl | rfl | rfl | rfl | rfl | rfl
  · exact ⟨43, [], rfl, by decide, by decide⟩
  · exact ⟨45, [], rfl, by decide, by decide⟩
  · exact ⟨42, [42, 61], rfl, by decide, by decide⟩
  · exact ⟨47, [47], rfl, by decide, by decide⟩
  · exact ⟨44, [], rfl, by decide, by decide⟩
  · exact ⟨126, [], rfl, by decide, by decide⟩
theorem sgns_len : ∀ {l : List Nat}, (∀ j ∈ l, j < 6) → (sgns l).length ≤ 3 * l.length
  | [], _ => by simp [sgns]
  | i :: l, h => by
    have h1 := (sgn_len (h i (.head _))).2
    have h2 := sgns_len (l := l) fun j hj => h j (.tail _ hj)
    rw [sgns_cons, List.length_append, List.length_cons]
    omega
theorem sgns_head {l : List Nat} (h : ∀ j ∈ l, j < 6) (hl : l ≠ []) : ∃ b t, sgns l = b :: t ∧ b ≠ 61 ∧ b ≠ 62 := by
  cases l with
  | nil => exact absurd rfl hl
  | cons i l =>
    obtain ⟨b, t, e, h1, h2⟩ := sgn_head (h i (.head _))
    exact ⟨b, t ++ sgns l, by rw [sgns_cons, e]; rfl, h1, h2⟩
/-- the operators that the table knows -/
noncomputable def keys99 : List (List Nat) := ["!", "!=", "%", "%=", "&", "&=", "(", ")", "*", "**", "**=", "*=", "+", "+=", ",", "-", "-=", "->", ".", "...", "/", "//", "//=", "/=", ":", ":=", ";", "<", "<<", "<<=", "<=", "=", "==", ">", ">=", ">>", ">>=", "@", "@=", "[", "]", "^", "^=", "{", "|", "|=", "}", "~"].map fun s => s.toList.map Char.toNat
theorem keys_two {a b : Nat} {t : List Nat} (h : a :: b :: t ∈ keys99) (ha : a ∈ [43, 45, 44, 126]) : b = 61 ∨ b = 62 := by
  have all : keys99.all (fun k => match k with | a :: b :: _ => !(decide (a ∈ [43, 45, 44, 126])) || decide (b = 61 ∨ b = 62) | _ => true) = true := by decide
  have := List.all_eq_true.mp all _ h
  simp only [decide_eq_true ha, Bool.not_true, Bool.false_or] at this
  exact of_decide_eq_true this
theorem keys_three {b : Nat} {t : List Nat} (h : 47 :: 47 :: b :: t ∈ keys99) : b = 61 := by
  have all : keys99.all (fun k => match k with | a :: a' :: b :: _ => !(decide (a = 47 ∧ a' = 47)) || decide (b = 61) | _ => true) = true := by decide
  have := List.all_eq_true.mp all _ h
  simpa using this
noncomputable def munches (l : List Nat) : List Nat := [1, 2, 3].filter fun k => decide (l.take k ∈ keys99)
theorem mem_munches {l : List Nat} {k : Nat} : k ∈ munches l ↔ (k = 1 ∨ k = 2 ∨ k = 3) ∧ l.take k ∈ keys99 := by
  simp [munches]
theorem munch {i : Nat} {rest : List Nat} (hi : i < 6) (hr : ∀ j ∈ rest, j < 6) {M : Nat} (hM : M ∈ munches (sgns (i :: rest))) (hmax : ∀ a ∈ munches (sgns (i :: rest)), a ≤ M) :
    (sgns (i :: rest)).take M = sgn i ∧ (rest ≠ [] → M = (sgn i).length) ∧ (rest = [] → (sgn i).length ≤ M) := by
  have up : ∀ k, (k = 1 ∨ k = 2 ∨ k = 3) → (sgns (i :: rest)).take k ∈ keys99 → k ≤ M := fun k h1 h2 => hmax k (mem_munches.mpr ⟨h1, h2⟩)
  obtain ⟨hM1, hM2⟩ := mem_munches.mp hM
  rw [sgns_cons] at *
  by_cases hn : rest = []
  · subst hn
    rw [sgns_nil, List.append_nil] at *
    have h3 : 3 ≤ M := up 3 (by omega) (by rcases six hi with rfl | rfl | rfl | rfl | rfl | rfl <;> decide)
    have hl := sgn_len hi
    exact ⟨List.take_of_length_le (by omega), fun h => absurd rfl h, fun _ => by omega⟩
  · obtain ⟨b, t, e, hb1, hb2⟩ := sgns_head hr hn
    rw [e] at hM2 up ⊢
    have done : M = (sgn i).length → (sgn i ++ b :: t).take M = sgn i ∧ (rest ≠ [] → M = (sgn i).length) ∧ (rest = [] → (sgn i).length ≤ M) := by
      intro h
      refine ⟨by rw [h]; simp, fun _ => h, fun _ => by omega⟩
    have one : ∀ a, sgn i = [a] → a ∈ [43, 45, 44, 126] → M = (sgn i).length := by
      intro a ha hm
      rw [ha] at hM2 ⊢
      rcases hM1 with rfl | rfl | rfl
      · rfl
      · exfalso
        rcases keys_two hM2 hm with h | h
        · exact hb1 h
        · exact hb2 h
      · exfalso
        rcases keys_two hM2 hm with h | h
        · exact hb1 h
        · exact hb2 h
    apply done
    rcases six hi with rfl | rfl | rfl | rfl | rfl | rfl
    · exact one 43 rfl (by decide)
    · exact one 45 rfl (by decide)
    · have := up 3 (by omega) (by show [42, 42, 61] ∈ keys99; decide)
      show M = 3
      omega
    · have := up 2 (by omega) (by show [47, 47] ∈ keys99; decide)
      show M = 2
      rcases hM1 with rfl | rfl | rfl
      · omega
      · rfl
      · exact absurd (keys_three hM2) hb1
    · exact one 44 rfl (by decide)
    · exact one 126 rfl (by decide)
theorem munches_ne {i : Nat} {rest : List Nat} (hi : i < 6) : munches (sgns (i :: rest)) ≠ [] := by
  intro h
  have : 1 ∈ munches (sgns (i :: rest)) := by
    rw [mem_munches, sgns_cons]
    refine ⟨.inl rfl, ?_⟩
    rcases six hi with rfl | rfl | rfl | rfl | rfl | rfl
    all_goals (simp only [sgn, List.cons_append, List.nil_append, List.take_succ_cons, List.take_zero]; decide)
  rw [h] at this; cases this
end Mine
end
section
set_option linter.unusedVariables false
namespace Mine
/-- the word of a heap -/
noncomputable def wordOf (q n H : Nat) : List Nat := (List.range n).map fun k => H / q ^ k % q
noncomputable def dot (q : Nat) (a b : List Nat) : Nat := ((a.zip b).map fun p => p.1 * p.2).sum % q
noncomputable def fv (x y : Int) : List Nat → Int
  | [] => 1
  | a :: w => (if a = 0 then x else y) * fv x y w
/-- a sum over all words -/
noncomputable def SR (q : Nat) : Nat → (List Nat → Int) → Int
  | 0, F => F []
  | n + 1, F => SR q n fun w => ((List.range q).map fun b => F (b :: w)).sum
theorem SR_congr {q : Nat} : ∀ {n : Nat} {F G : List Nat → Int}, (∀ w, w.length = n → F w = G w) → SR q n F = SR q n G
  | 0, F, G, h => h [] rfl
  | n + 1, F, G, h => by
    refine SR_congr (n := n) fun w hw => ?_
    refine congrArg List.sum (List.map_congr_left fun b _ => ?_)
    exact h _ (by simp [hw])
theorem sum_add (f g : Nat → Int) : ∀ l : List Nat, (l.map fun b => f b + g b).sum = (l.map f).sum + (l.map g).sum
  | [] => rfl
  | a :: l => by simp only [List.map_cons, List.sum_cons, sum_add f g l]; omega
theorem sum_mul (c : Int) (f : Nat → Int) : ∀ l : List Nat, (l.map fun b => c * f b).sum = c * (l.map f).sum
  | [] => by simp
  | a :: l => by simp only [List.map_cons, List.sum_cons, sum_mul c f l, Int.mul_add]
theorem SR_mulL (c : Int) (f : List Nat → Int) : ∀ l : List (List Nat), (l.map fun b => c * f b).sum = c * (l.map f).sum
  | [] => by simp
  | a :: l => by simp only [List.map_cons, List.sum_cons, SR_mulL c f l, Int.mul_add]
theorem SR_add {q : Nat} : ∀ {n : Nat} (F G : List Nat → Int), SR q n (fun w => F w + G w) = SR q n F + SR q n G
  | 0, F, G => rfl
  | n + 1, F, G => by
    simp only [SR]
    rw [← SR_add]
    congr 1; funext w
    exact sum_add _ _ _
theorem SR_mul {q : Nat} (c : Int) : ∀ {n : Nat} (F : List Nat → Int), SR q n (fun w => c * F w) = c * SR q n F
  | 0, F => rfl
  | n + 1, F => by
    simp only [SR]
    rw [← SR_mul]
    congr 1; funext w
    exact sum_mul _ _ _
theorem SR_zero {q : Nat} : ∀ {n : Nat}, SR q n (fun _ => 0) = 0 := by
  intro n
  have := SR_mul (q := q) 0 (n := n) (fun _ => 0)
  simpa using this
theorem wordOf_succ (q n H b : Nat) (hb : b < q) : wordOf q (n + 1) (q * H + b) = b :: wordOf q n H := by
  unfold wordOf
  rw [List.range_succ_eq_map, List.map_cons, List.map_map]
  congr 1
  · rw [Nat.pow_zero, Nat.div_one, Nat.mul_add_mod, Nat.mod_eq_of_lt hb]
  · apply List.map_congr_left
    intro k _
    show (q * H + b) / q ^ (k + 1) % q = _
    rw [Nat.pow_succ', ← Nat.div_div_eq_div_mul, Nat.mul_add_div (by omega), Nat.div_eq_of_lt hb, Nat.add_zero]
theorem range_sum_mul (q : Nat) (g : Nat → Int) : ∀ N, ((List.range (q * N)).map g).sum = ((List.range N).map fun H => ((List.range q).map fun b => g (q * H + b)).sum).sum
  | 0 => by simp
  | N + 1 => by
    rw [Nat.mul_succ, List.range_add, List.map_append, List.sum_append, range_sum_mul q g N, List.range_succ, List.map_append, List.sum_append, List.map_map]
    simp [Function.comp_def]
theorem SR_range (q : Nat) (hq : 0 < q) : ∀ (n : Nat) (F : List Nat → Int), ((List.range (q ^ n)).map fun H => F (wordOf q n H)).sum = SR q n F
  | 0, F => by simp [SR, wordOf]
  | n + 1, F => by
    rw [Nat.pow_succ', range_sum_mul, SR, ← SR_range q hq n]
    congr 1
    apply List.map_congr_left
    intro H _
    congr 1
    apply List.map_congr_left
    intro b hb
    rw [wordOf_succ _ _ _ _ (List.mem_range.mp hb)]
theorem dot_lt {q : Nat} (hq : 0 < q) (a b : List Nat) : dot q a b < q := Nat.mod_lt _ hq
theorem dot_cons (q b a : Nat) (v w : List Nat) : dot q (b :: v) (a :: w) = (b * a + dot q v w) % q := by
  simp [dot]
noncomputable def WW (q : Nat) (x y : Int) : Int := x + ((q : Int) - 1) * y
noncomputable def NN (q : Nat) (x y : Int) (w : List Nat) (s : Nat) : Int := SR q w.length fun v => if dot q v w = s then fv x y v else 0
theorem ite_mul' (p : Prop) [Decidable p] (c a : Int) : (if p then c * a else 0) = c * (if p then a else 0) := by split <;> simp
theorem NN2 (x y : Int) (a : Nat) (w : List Nat) (s : Nat) : NN 2 x y (a :: w) s = SR 2 w.length fun v => x * (if (0 * a + dot 2 v w) % 2 = s then fv x y v else 0) + y * (if (1 * a + dot 2 v w) % 2 = s then fv x y v else 0) := by
  unfold NN
  simp only [List.length_cons, SR]
  apply SR_congr
  intro v _
  simp only [List.range_succ, List.range_zero, List.map_nil, List.nil_append, List.map_cons, List.cons_append, List.sum_cons, List.sum_nil, dot_cons, fv, ite_mul']
  simp
theorem NN3 (x y : Int) (a : Nat) (w : List Nat) (s : Nat) : NN 3 x y (a :: w) s = SR 3 w.length fun v => x * (if (0 * a + dot 3 v w) % 3 = s then fv x y v else 0) + (y * (if (1 * a + dot 3 v w) % 3 = s then fv x y v else 0) + y * (if (2 * a + dot 3 v w) % 3 = s then fv x y v else 0)) := by
  unfold NN
  simp only [List.length_cons, SR]
  apply SR_congr
  intro v _
  simp only [List.range_succ, List.range_zero, List.map_nil, List.nil_append, List.map_cons, List.cons_append, List.sum_cons, List.sum_nil, dot_cons, fv, ite_mul']
  simp
theorem NN_at {q : Nat} (x y : Int) (w : List Nat) (k s s' : Nat) (h : ∀ d, d < q → ((k + d) % q = s ↔ d = s')) (hq : 0 < q) : (SR q w.length fun v => if (k + dot q v w) % q = s then fv x y v else 0) = NN q x y w s' := by
  unfold NN
  apply SR_congr
  intro v _
  have := h _ (dot_lt hq v w)
  by_cases c : dot q v w = s'
  · rw [if_pos (this.mpr c), if_pos c]
  · rw [if_neg (fun e => c (this.mp e)), if_neg c]
theorem NN2' (x y : Int) (a : Nat) (w : List Nat) (s : Nat) (ha : a < 2) (hs : s < 2) : NN 2 x y (a :: w) s = x * NN 2 x y w s + y * NN 2 x y w ((s + a) % 2) := by
  rw [NN2, SR_add, SR_mul, SR_mul, NN_at x y w _ s s (by omega) (by omega), NN_at x y w _ s ((s + a) % 2) (by omega) (by omega)]
theorem NN3' (x y : Int) (a : Nat) (w : List Nat) (s : Nat) (ha : a < 3) (hs : s < 3) : NN 3 x y (a :: w) s = x * NN 3 x y w s + (y * NN 3 x y w ((s + 2 * a) % 3) + y * NN 3 x y w ((s + a) % 3)) := by
  rw [NN3, SR_add, SR_add, SR_mul, SR_mul, SR_mul, NN_at x y w _ s s (by omega) (by omega), NN_at x y w (1 * a) s ((s + 2 * a) % 3) (by omega) (by omega), NN_at x y w (2 * a) s ((s + a) % 3) (by omega) (by omega)]
theorem key2 (x y : Int) : ∀ w : List Nat, (∀ a ∈ w, a < 2) → 2 * NN 2 x y w 0 = (x + y) ^ w.length + fv (x + y) (x - y) w ∧ 2 * NN 2 x y w 1 = (x + y) ^ w.length - fv (x + y) (x - y) w
  | [], _ => by simp [NN, SR, fv, dot]
  | a :: w, h => by
    obtain ⟨k0, k1⟩ := key2 x y w fun b hb => h b (.tail _ hb)
    have ha := h a (.head _)
    have e : a = 0 ∨ a = 1 := by omega
    rw [NN2' x y a w 0 ha (by omega), NN2' x y a w 1 ha (by omega), List.length_cons, fv, Int.pow_succ]
    generalize (x + y) ^ w.length = W at *
    generalize fv (x + y) (x - y) w = P at *
    rcases e with rfl | rfl <;> simp <;> constructor <;> grind
theorem key3 (x y : Int) : ∀ w : List Nat, (∀ a ∈ w, a < 3) → 3 * NN 3 x y w 0 = (x + 2 * y) ^ w.length + 2 * fv (x + 2 * y) (x - y) w ∧ 3 * NN 3 x y w 1 = (x + 2 * y) ^ w.length - fv (x + 2 * y) (x - y) w ∧ 3 * NN 3 x y w 2 = (x + 2 * y) ^ w.length - fv (x + 2 * y) (x - y) w
  | [], _ => by simp [NN, SR, fv, dot]
  | a :: w, h => by
    obtain ⟨k0, k1, k2⟩ := key3 x y w fun b hb => h b (.tail _ hb)
    have ha := h a (.head _)
    have e : a = 0 ∨ a = 1 ∨ a = 2 := by omega
    rw [NN3' x y a w 0 ha (by omega), NN3' x y a w 1 ha (by omega), NN3' x y a w 2 ha (by omega), List.length_cons, fv, Int.pow_succ]
    generalize (x + 2 * y) ^ w.length = W at *
    generalize fv (x + 2 * y) (x - y) w = P at *
    rcases e with rfl | rfl | rfl <;> simp <;> refine ⟨?_, ?_, ?_⟩ <;> grind

/-- one row taken t times, put on a word -/
noncomputable def addRow (q : Nat) (w row : List Nat) (t : Nat) : List Nat := (w.zip row).map fun p => (p.1 + t * p.2) % q
noncomputable def spread (q : Nat) (ws : List (List Nat)) (row : List Nat) : List (List Nat) := ws.flatMap fun w => (List.range q).map fun t => addRow q w row t
noncomputable def codeOf (q n : Nat) (rows : List (List Nat)) : List (List Nat) := rows.foldl (spread q) [List.replicate n 0]
theorem addRow_length {q : Nat} {w row : List Nat} {t : Nat} (h : w.length = row.length) : (addRow q w row t).length = row.length := by simp [addRow, h]
theorem addRow_lt {q : Nat} (hq : 0 < q) {w row : List Nat} {t : Nat} : ∀ a ∈ addRow q w row t, a < q := by
  intro a ha
  obtain ⟨p, _, rfl⟩ := List.mem_map.mp ha
  exact Nat.mod_lt _ hq
theorem dot_addRow (q t : Nat) : ∀ (v w row : List Nat), w.length = row.length → dot q v (addRow q w row t) = (dot q v w + t * dot q v row) % q
  | [], _, _, _ => by simp [dot]
  | _ :: _, [], [], _ => by simp [dot, addRow]
  | _ :: _, [], _ :: _, h => by simp at h
  | _ :: _, _ :: _, [], h => by simp at h
  | b :: v, a :: w, r :: row, h => by
    have ih := dot_addRow q t v w row (by simpa using h)
    have e : addRow q (a :: w) (r :: row) t = (a + t * r) % q :: addRow q w row t := by simp [addRow]
    rw [e, dot_cons, dot_cons, dot_cons, ih]
    rw [Nat.add_mod, Nat.mul_mod, Nat.mod_mod, ← Nat.mul_mod, Nat.mod_mod, ← Nat.add_mod]
    have e2 : (t * ((b * r + dot q v row) % q)) % q = (t * (b * r + dot q v row)) % q := by rw [Nat.mul_mod, Nat.mod_mod, ← Nat.mul_mod]
    rw [Nat.add_mod ((b * a + dot q v w) % q), Nat.mod_mod, e2, ← Nat.add_mod]
    congr 1
    rw [Nat.mul_add, Nat.mul_add, Nat.mul_left_comm]; omega
noncomputable def ind (q : Nat) (v w : List Nat) : Int := (q : Int) * (if dot q v w = 0 then 1 else 0) - 1
noncomputable def gs (q : Nat) (v : List Nat) (ws : List (List Nat)) : Int := (ws.map (ind q v)).sum
theorem gs_append (q : Nat) (v : List Nat) (a b : List (List Nat)) : gs q v (a ++ b) = gs q v a + gs q v b := by simp [gs]
theorem gs_cons (q : Nat) (v a : List Nat) (b : List (List Nat)) : gs q v (a :: b) = ind q v a + gs q v b := by simp [gs]
theorem turn_gs {q : Nat} (hq : q = 2 ∨ q = 3) (v w row : List Nat) (h : w.length = row.length) : gs q v ((List.range q).map fun t => addRow q w row t) = if dot q v row = 0 then (q : Int) * ind q v w else 0 := by
  have d1 := dot_lt (q := q) (by omega) v w
  have d2 := dot_lt (q := q) (by omega) v row
  have d := fun t => dot_addRow q t v w row h
  rcases hq with rfl | rfl
  · simp only [List.range_succ, List.range_zero, List.map_nil, List.nil_append, List.map_cons, List.cons_append, gs, List.sum_cons, List.sum_nil, ind, d]
    generalize dot 2 v w = x at *
    generalize dot 2 v row = y at *
    have ex : x = 0 ∨ x = 1 := by omega
    have ey : y = 0 ∨ y = 1 := by omega
    rcases ex with rfl | rfl <;> rcases ey with rfl | rfl <;> decide
  · simp only [List.range_succ, List.range_zero, List.map_nil, List.nil_append, List.map_cons, List.cons_append, gs, List.sum_cons, List.sum_nil, ind, d]
    generalize dot 3 v w = x at *
    generalize dot 3 v row = y at *
    have ex : x = 0 ∨ x = 1 ∨ x = 2 := by omega
    have ey : y = 0 ∨ y = 1 ∨ y = 2 := by omega
    rcases ex with rfl | rfl | rfl <;> rcases ey with rfl | rfl | rfl <;> decide
theorem gs_spread {q : Nat} (hq : q = 2 ∨ q = 3) (v row : List Nat) : ∀ ws : List (List Nat), (∀ w ∈ ws, w.length = row.length) → gs q v (spread q ws row) = if dot q v row = 0 then (q : Int) * gs q v ws else 0
  | [], _ => by simp [spread, gs]
  | w :: ws, h => by
    have ih := gs_spread hq v row ws fun x hx => h x (.tail _ hx)
    have e : spread q (w :: ws) row = (List.range q).map (fun t => addRow q w row t) ++ spread q ws row := by simp [spread]
    rw [e, gs_append, turn_gs hq v w row (h w (.head _)), ih, gs_cons]
    split
    · rw [Int.mul_add]
    · rfl
theorem spread_len {q : Nat} {ws : List (List Nat)} {row : List Nat} (h : ∀ w ∈ ws, w.length = row.length) : ∀ w ∈ spread q ws row, w.length = row.length := by
  intro w hw
  obtain ⟨x, hx, hw⟩ := List.mem_flatMap.mp hw
  obtain ⟨t, _, rfl⟩ := List.mem_map.mp hw
  exact addRow_length (h x hx)
theorem spread_lt {q : Nat} (hq : 0 < q) {ws : List (List Nat)} {row : List Nat} : ∀ w ∈ spread q ws row, ∀ a ∈ w, a < q := by
  intro w hw
  obtain ⟨x, hx, hw⟩ := List.mem_flatMap.mp hw
  obtain ⟨t, _, rfl⟩ := List.mem_map.mp hw
  exact addRow_lt hq
noncomputable def orth (q : Nat) (rows : List (List Nat)) (v : List Nat) : Bool := rows.all fun r => dot q v r == 0
theorem gs_fold {q n : Nat} (hq : q = 2 ∨ q = 3) (v : List Nat) : ∀ (rows ws : List (List Nat)), (∀ r ∈ rows, r.length = n) → (∀ w ∈ ws, w.length = n) → gs q v (rows.foldl (spread q) ws) = if orth q rows v then (q : Int) ^ rows.length * gs q v ws else 0
  | [], ws, _, _ => by simp [orth]
  | r :: rows, ws, hr, hw => by
    have h1 : ∀ w ∈ ws, w.length = r.length := fun w hx => (hw w hx).trans (hr r (.head _)).symm
    rw [List.foldl_cons, gs_fold hq v rows (spread q ws r) (fun x hx => hr x (.tail _ hx)) (fun w hx => (spread_len h1 w hx).trans (hr r (.head _))), gs_spread hq v r ws h1]
    simp only [orth, List.all_cons, List.length_cons]
    by_cases c : dot q v r = 0
    · simp only [c, beq_self_eq_true, Bool.true_and, if_true, Int.pow_succ]
      split
      · rw [Int.mul_assoc]
      · rfl
    · have : (dot q v r == 0) = false := by simpa using c
      simp [c]
theorem fold_len {q n : Nat} : ∀ (rows ws : List (List Nat)), (∀ r ∈ rows, r.length = n) → (∀ w ∈ ws, w.length = n) → ∀ w ∈ rows.foldl (spread q) ws, w.length = n
  | [], _, _, hw => hw
  | r :: rows, ws, hr, hw => by
    have h1 : ∀ w ∈ ws, w.length = r.length := fun w hx => (hw w hx).trans (hr r (.head _)).symm
    exact fold_len rows _ (fun x hx => hr x (.tail _ hx)) fun w hx => (spread_len h1 w hx).trans (hr r (.head _))
theorem fold_lt {q : Nat} (hq : 0 < q) : ∀ (rows ws : List (List Nat)), (∀ w ∈ ws, ∀ a ∈ w, a < q) → ∀ w ∈ rows.foldl (spread q) ws, ∀ a ∈ w, a < q
  | [], _, hw => hw
  | r :: rows, ws, _ => by
    rw [List.foldl_cons]
    exact fold_lt hq rows _ (spread_lt hq)
theorem dot_zeros (q : Nat) : ∀ (n : Nat) (v : List Nat), dot q v (List.replicate n 0) = 0
  | 0, v => by simp [dot]
  | n + 1, [] => by simp [dot]
  | n + 1, b :: v => by rw [List.replicate_succ, dot_cons, dot_zeros q n v]; simp
theorem gs_code {q n : Nat} (hq : q = 2 ∨ q = 3) (v : List Nat) (rows : List (List Nat)) (hr : ∀ r ∈ rows, r.length = n) : gs q v (codeOf q n rows) = if orth q rows v then (q : Int) ^ rows.length * ((q : Int) - 1) else 0 := by
  have := gs_fold hq v rows [List.replicate n 0] hr (by simp)
  rw [codeOf, this]
  simp [gs, ind, dot_zeros]
theorem SR_fv {q : Nat} (hq : q = 2 ∨ q = 3) (x y : Int) : ∀ n, SR q n (fv x y) = (WW q x y) ^ n
  | 0 => by simp [SR, fv]
  | n + 1 => by
    have e : SR q (n + 1) (fv x y) = SR q n (fun w => WW q x y * fv x y w) := by
      simp only [SR]
      refine SR_congr fun w _ => ?_
      rcases hq with rfl | rfl <;> simp [List.range_succ, fv, WW] <;> grind
    rw [e, SR_mul, SR_fv hq x y n, Int.pow_succ, Int.mul_comm]
theorem key {q : Nat} (hq : q = 2 ∨ q = 3) (x y : Int) (w : List Nat) (hw : ∀ a ∈ w, a < q) : SR q w.length (fun v => ind q v w * fv x y v) = ((q : Int) - 1) * fv (WW q x y) (x - y) w := by
  have e : SR q w.length (fun v => ind q v w * fv x y v) = (q : Int) * NN q x y w 0 + (-1) * SR q w.length (fv x y) := by
    unfold NN
    rw [← SR_mul, ← SR_mul, ← SR_add]
    refine SR_congr fun v _ => ?_
    unfold ind
    split <;> grind
  rw [e, SR_fv hq]
  rcases hq with rfl | rfl
  · have := (key2 x y w hw).1
    have e2 : WW 2 x y = x + y := by unfold WW; omega
    rw [e2]
    generalize fv (x + y) (x - y) w = P at *
    generalize (x + y) ^ w.length = W at *
    omega
  · have := (key3 x y w hw).1
    have e2 : WW 3 x y = x + 2 * y := by unfold WW; omega
    rw [e2]
    generalize fv (x + 2 * y) (x - y) w = P at *
    generalize (x + 2 * y) ^ w.length = W at *
    omega
theorem swap {q n : Nat} (x y : Int) : ∀ ws : List (List Nat), (ws.map fun w => SR q n fun v => ind q v w * fv x y v).sum = SR q n fun v => gs q v ws * fv x y v
  | [] => by simp [gs, SR_zero]
  | w :: ws => by
    rw [List.map_cons, List.sum_cons, swap x y ws, ← SR_add]
    refine SR_congr fun v _ => ?_
    rw [gs_cons, Int.add_mul]
/-- MacWilliams over the words themselves -/
theorem macW {q n : Nat} (hq : q = 2 ∨ q = 3) (x y : Int) (rows : List (List Nat)) (hr : ∀ r ∈ rows, r.length = n) :
    ((codeOf q n rows).map (fv (WW q x y) (x - y))).sum = (q : Int) ^ rows.length * SR q n (fun v => if orth q rows v then fv x y v else 0) := by
  have hlen : ∀ w ∈ codeOf q n rows, w.length = n := fold_len rows _ hr (by simp)
  have hlt : ∀ w ∈ codeOf q n rows, ∀ a ∈ w, a < q := fold_lt (by omega) rows _ (by
    intro w hw a ha
    rw [List.mem_singleton.mp hw] at ha
    rw [(List.mem_replicate.mp ha).2]; omega)
  have e1 : ((codeOf q n rows).map fun w => SR q n fun v => ind q v w * fv x y v).sum = ((q : Int) - 1) * ((codeOf q n rows).map (fv (WW q x y) (x - y))).sum := by
    rw [← SR_mulL]
    refine congrArg List.sum (List.map_congr_left fun w hw => ?_)
    have := key hq x y w (hlt w hw)
    rw [hlen w hw] at this
    exact this
  rw [swap] at e1
  have e2 : SR q n (fun v => gs q v (codeOf q n rows) * fv x y v) = ((q : Int) - 1) * ((q : Int) ^ rows.length * SR q n (fun v => if orth q rows v then fv x y v else 0)) := by
    rw [← SR_mul, ← SR_mul]
    refine SR_congr fun v _ => ?_
    rw [gs_code hq v rows hr]
    split
    · rw [Int.mul_comm ((q : Int) ^ _), Int.mul_assoc]
    · simp
  rw [e2] at e1
  have hq1 : (q : Int) - 1 ≠ 0 := by omega
  exact (Int.eq_of_mul_eq_mul_left hq1 e1).symm

/-- how many letters aren't nought -/
noncomputable def wt (w : List Nat) : Nat := w.length - w.count 0
theorem wt_cons (a : Nat) (w : List Nat) : wt (a :: w) = (if a = 0 then 0 else 1) + wt w := by
  unfold wt
  have : w.count 0 ≤ w.length := List.count_le_length
  rw [List.length_cons, List.count_cons]
  by_cases c : a = 0
  · simp [c]
  · simp [c]; omega
theorem wt_le (w : List Nat) : wt w ≤ w.length := Nat.sub_le _ _
theorem fv_wt (x y : Int) : ∀ w : List Nat, fv x y w = x ^ (w.length - wt w) * y ^ wt w
  | [] => by simp [fv, wt]
  | a :: w => by
    have := wt_le w
    rw [fv, fv_wt x y w, wt_cons, List.length_cons]
    split
    · have e : w.length + 1 - (0 + wt w) = (w.length - wt w) + 1 := by omega
      rw [e, Int.pow_succ, Nat.zero_add, Int.mul_comm (x ^ _) x, Int.mul_assoc]
    · have e : w.length + 1 - (1 + wt w) = (w.length - wt w) := by omega
      rw [e, Nat.add_comm 1, Int.pow_succ]; grind
/-- the number that counts tell, put in two numbers -/
noncomputable def tell (n : Nat) (cs : List Nat) (a b : Int) : Int := ((List.range (n + 1)).map fun k => (cs.getD k 0 : Int) * (a ^ (n - k) * b ^ k)).sum
theorem sum_zero (f : Nat → Int) : ∀ l : List Nat, (∀ k ∈ l, f k = 0) → (l.map f).sum = 0
  | [], _ => rfl
  | a :: l, h => by rw [List.map_cons, List.sum_cons, h a (.head _), sum_zero f l fun k hk => h k (.tail _ hk)]; rfl
theorem sum_ind (f : Nat → Int) (i : Nat) : ∀ N, i < N → ((List.range N).map fun k => if k = i then f k else 0).sum = f i
  | 0, h => by omega
  | N + 1, h => by
    rw [List.range_succ, List.map_append, List.sum_append]
    by_cases c : i = N
    · subst c
      rw [sum_zero _ _ fun k hk => if_neg (by have := List.mem_range.mp hk; omega)]
      simp
    · rw [sum_ind f i N (by omega)]
      have : N ≠ i := fun e => c e.symm
      simp [this]
theorem sum_count (f : Nat → Int) (N : Nat) : ∀ ks : List Nat, (∀ k ∈ ks, k < N) → ((List.range N).map fun k => (ks.count k : Int) * f k).sum = (ks.map f).sum
  | [], _ => by simp; exact sum_zero _ _ fun _ _ => rfl
  | a :: ks, h => by
    rw [List.map_cons, List.sum_cons, ← sum_count f N ks fun k hk => h k (.tail _ hk), ← sum_ind f a N (h a (.head _)), ← sum_add]
    refine congrArg List.sum (List.map_congr_left fun k _ => ?_)
    rw [List.count_cons]
    by_cases c : k = a
    · subst c; simp; grind
    · have : (a == k) = false := by simpa using fun e => c e.symm
      simp [c, this]
noncomputable def countsOf (n : Nat) (ws : List (List Nat)) : List Nat := (List.range (n + 1)).map fun k => (ws.map wt).count k
theorem countsOf_length (n : Nat) (ws : List (List Nat)) : (countsOf n ws).length = n + 1 := by simp [countsOf]
theorem tell_counts {n : Nat} {ws : List (List Nat)} (h : ∀ w ∈ ws, w.length = n) (a b : Int) : tell n (countsOf n ws) a b = (ws.map (fv a b)).sum := by
  have e : (ws.map (fv a b)).sum = ((ws.map wt).map fun k => a ^ (n - k) * b ^ k).sum := by
    rw [List.map_map]
    refine congrArg List.sum (List.map_congr_left fun w hw => ?_)
    rw [fv_wt, h w hw]; rfl
  rw [e, ← sum_count _ (n + 1)]
  · refine congrArg List.sum (List.map_congr_left fun k hk => ?_)
    have := List.mem_range.mp hk
    simp [countsOf, this]
  · intro k hk
    obtain ⟨w, hw, rfl⟩ := List.mem_map.mp hk
    have := wt_le w
    rw [h w hw] at this; omega
noncomputable def zeros (a : List Nat) : Nat := a.count 0
noncomputable def sqStep (q n : Nat) (rows : List (List Nat)) (H : Nat) (cs : List Nat) : List Nat :=
  if orth q rows (wordOf q n H) then cs.set (n - zeros (wordOf q n H)) (cs.getD (n - zeros (wordOf q n H)) 0 + 1) else cs
noncomputable def sqFold (q n : Nat) (rows : List (List Nat)) : Nat → List Nat
  | 0 => List.replicate (n + 1) 0
  | H + 1 => sqStep q n rows H (sqFold q n rows H)
theorem wordOf_length (q n H : Nat) : (wordOf q n H).length = n := by simp [wordOf]
theorem sqStep_length (q n : Nat) (rows : List (List Nat)) (H : Nat) (cs : List Nat) : (sqStep q n rows H cs).length = cs.length := by
  unfold sqStep; split <;> simp
theorem sqFold_length (q n : Nat) (rows : List (List Nat)) : ∀ N, (sqFold q n rows N).length = n + 1
  | 0 => by simp [sqFold]
  | N + 1 => by rw [sqFold, sqStep_length, sqFold_length q n rows N]
theorem getD_set (cs : List Nat) (i k v : Nat) (hi : i < cs.length) : (cs.set i v).getD k 0 = if k = i then v else cs.getD k 0 := by
  rw [List.getD_eq_getElem?_getD, List.getElem?_set, List.getD_eq_getElem?_getD]
  by_cases c : k = i
  · subst c; simp [hi]
  · have : i ≠ k := fun e => c e.symm
    simp [c, this]
theorem tell_fold (q n : Nat) (rows : List (List Nat)) (x y : Int) : ∀ N, tell n (sqFold q n rows N) x y = ((List.range N).map fun H => if orth q rows (wordOf q n H) then fv x y (wordOf q n H) else 0).sum
  | 0 => by
    simp [sqFold, tell]
    refine sum_zero _ _ fun k hk => ?_
    have := List.mem_range.mp hk
    simp [this]
  | N + 1 => by
    rw [List.range_succ, List.map_append, List.sum_append, ← tell_fold q n rows x y N, sqFold]
    have hl := sqFold_length q n rows N
    have hw := wordOf_length q n N
    unfold sqStep
    by_cases c : orth q rows (wordOf q n N) = true
    · simp only [c, if_true, List.map_cons, List.map_nil, List.sum_cons, List.sum_nil, Int.add_zero]
      have ez : n - zeros (wordOf q n N) = wt (wordOf q n N) := by unfold wt zeros; rw [hw]
      have hwt := wt_le (wordOf q n N)
      rw [ez, fv_wt, hw]
      have e := sum_ind (fun k => x ^ (n - k) * y ^ k) (wt (wordOf q n N)) (n + 1) (by omega)
      rw [← e]
      unfold tell
      rw [← sum_add]
      refine congrArg List.sum (List.map_congr_left fun k _ => ?_)
      rw [getD_set _ _ _ _ (by omega)]
      split
      · next h => subst h; simp; grind
      · simp
    · simp [c]
theorem sq_le (q n : Nat) (rows : List (List Nat)) : ∀ N k, (sqFold q n rows N).getD k 0 ≤ N
  | 0, k => by simp [sqFold, List.getD_eq_getElem?_getD, List.getElem?_replicate]; split <;> simp
  | N + 1, k => by
    rw [sqFold]; unfold sqStep
    split
    · by_cases c : n - zeros (wordOf q n N) < (sqFold q n rows N).length
      · rw [getD_set _ _ _ _ c]
        have := sq_le q n rows N k
        have := sq_le q n rows N (n - zeros (wordOf q n N))
        split <;> omega
      · rw [List.set_eq_of_length_le (by omega)]
        have := sq_le q n rows N k; omega
    · have := sq_le q n rows N k; omega
theorem dot_zerosL (q : Nat) : ∀ (n : Nat) (v : List Nat), dot q (List.replicate n 0) v = 0
  | 0, v => by simp [dot]
  | n + 1, [] => by simp [dot]
  | n + 1, b :: v => by rw [List.replicate_succ, dot_cons, dot_zerosL q n v]; simp
theorem wordOf_zero (q n : Nat) : wordOf q n 0 = List.replicate n 0 := by
  unfold wordOf
  apply List.ext_getElem
  · simp
  · intro i h1 h2; simp
theorem sq_top (q n : Nat) (rows : List (List Nat)) : ∀ N, 1 ≤ (sqFold q n rows (N + 1)).getD 0 0
  | 0 => by
    have e : orth q rows (List.replicate n 0) = true := by
      unfold orth
      rw [List.all_eq_true]
      intro r _
      simp [dot_zerosL]
    simp [sqFold, sqStep, wordOf_zero, e, zeros]
  | N + 1 => by
    have ih := sq_top q n rows N
    rw [sqFold]; unfold sqStep
    split
    · by_cases c : n - zeros (wordOf q n (N + 1)) < (sqFold q n rows (N + 1)).length
      · rw [getD_set _ _ _ _ c]
        split
        · omega
        · exact ih
      · rw [List.set_eq_of_length_le (by omega)]; exact ih
    · exact ih
/-- there: the code's counts put in X give q ^ m times the square's figures -/
theorem mac_there {q n : Nat} (hq : q = 2 ∨ q = 3) (X : Int) (rows : List (List Nat)) (hr : ∀ r ∈ rows, r.length = n) :
    tell n (countsOf n (codeOf q n rows)) (X + (q : Int) - 1) (X - 1) = (q : Int) ^ rows.length * tell n (sqFold q n rows (q ^ n)) X 1 := by
  have hlen : ∀ w ∈ codeOf q n rows, w.length = n := fold_len rows _ hr (by simp)
  rw [tell_counts hlen, tell_fold, SR_range q (by omega) n (fun v => if orth q rows v then fv X 1 v else 0), ← macW hq X 1 rows hr]
  have e : WW q X 1 = X + (q : Int) - 1 := by unfold WW; omega
  rw [e]
theorem tell_scale (n : Nat) (cs : List Nat) (c a : Int) : tell n cs (c * a) c = c ^ n * tell n cs a 1 := by
  unfold tell
  rw [← sum_mul]
  refine congrArg List.sum (List.map_congr_left fun k hk => ?_)
  have hk := List.mem_range.mp hk
  have e : c ^ n = c ^ (n - k) * c ^ k := by rw [← Int.pow_add]; congr 1; omega
  rw [e, Int.mul_pow, Int.one_pow]; grind
/-- and back -/
theorem mac_back {q n : Nat} (hq : q = 2 ∨ q = 3) (X : Int) (rows : List (List Nat)) (hr : ∀ r ∈ rows, r.length = n) :
    tell n (sqFold q n rows (q ^ n)) (X + (q : Int) - 1) (X - 1) * (q : Int) ^ rows.length = (q : Int) ^ n * tell n (countsOf n (codeOf q n rows)) X 1 := by
  have hlen : ∀ w ∈ codeOf q n rows, w.length = n := fold_len rows _ hr (by simp)
  rw [tell_fold, SR_range q (by omega) n (fun v => if orth q rows v then fv (X + (q : Int) - 1) (X - 1) v else 0), Int.mul_comm, ← macW hq _ _ rows hr, ← tell_counts hlen, ← tell_scale]
  have e : WW q (X + (q : Int) - 1) (X - 1) = q * X := by unfold WW; rcases hq with rfl | rfl <;> grind
  have e2 : X + (q : Int) - 1 - (X - 1) = q := by omega
  rw [e, e2]
end Mine
end
section
open PySem PySem.W PyProof.Rows PySem.Calls
set_option maxRecDepth 100000
set_option maxHeartbeats 8000000
namespace Mine

/-- the ground: the written part of the top and what the top says -/
structure Gd (w : World) (loose : List Str) (mean : ExcName → Option Value) (mg mb : Str → Option Value) (g : Heap) : Prop where
  X : (hd.heap_1 w.params).In g
  T : Top topProg loose mean mg mb g
  c1 : CodeHd g 114 110
  c2 : CodeHd g 41 37
  c3 : CodeHd g 34 30

noncomputable def Sub (g h : Heap) : Prop := ∀ b o, g.get? b = some o → h.get? b = some o
theorem Sub.refl (h : Heap) : Sub h h := fun _ _ e => e
theorem Sub.trans {a b c : Heap} (x : Sub a b) (y : Sub b c) : Sub a c := fun p o e => y p o (x p o e)
theorem Sub.push {a b : Heap} (x : Sub a b) (o : Obj) : Sub a (b.push o) := fun p o e => Heap.get?_push_of_some _ (x p o e)
/-- all but ms is kept -/
noncomputable def But (ms : List Addr) (h h' : Heap) : Prop := ∀ b o, b ∉ ms → h.get? b = some o → h'.get? b = some o
theorem Sub.but {h h' : Heap} (x : Sub h h') (l : List Addr) : But l h h' := fun b o _ e => x b o e
theorem But.sub {h h' : Heap} (x : But [] h h') : Sub h h' := fun b o e => x b o List.not_mem_nil e
theorem But.trans {l : List Addr} {a b c : Heap} (x : But l a b) (y : But l b c) : But l a c := fun p o hp e => y p o hp (x p o hp e)
theorem But.mono {l l' : List Addr} {a b : Heap} (x : But l a b) (hl : ∀ p ∈ l, p ∈ l') : But l' a b := fun p o hp e => x p o (fun q => hp (hl p q)) e
theorem But.refl (l : List Addr) (h : Heap) : But l h h := fun _ _ _ e => e
theorem But.fresh {l : List Addr} {h g' : Heap} {r : Addr} (x : But l h g') (hr : r ∉ l) (e : g'.get? r = none) : h.get? r = none := by
  cases q : h.get? r with
  | none => rfl
  | some o => rw [x r o hr q] at e; cases e
theorem But.ground {l : List Addr} {g h h' : Heap} (x : But l h h') (k : Sub g h) (hl : ∀ a ∈ l, g.get? a = none) : Sub g h' := fun b o e => x b o (fun q => by rw [hl b q] at e; cases e) (k b o e)
theorem Sub.none {g h : Heap} {r : Addr} (k : Sub g h) (e : h.get? r = none) : g.get? r = none := by
  cases q : g.get? r with
  | none => rfl
  | some o => rw [k r o q] at e; cases e

section
variable {w : World} {loose : List Str} {mean : ExcName → Option Value} {mg mb : Str → Option Value} {g : Heap}
theorem Gd.keeps {g' : Heap} (G : Gd w loose mean mg mb g) (k : Sub g g') : Gd w loose mean mg mb g' :=
  ⟨G.X.keeps k, G.T.keeps k, G.c1.keeps k, G.c2.keeps k, G.c3.keeps k⟩
theorem Gd.hide {h : Heap} (G : Gd w loose mean mg mb g) (k : Sub g h) {l : List Addr} (hl : ∀ a ∈ l, g.get? a = none) : Gd w loose mean mg mb (hideAll h l) :=
  G.keeps fun b o e => hideAll_get _ (k b o e) fun q => by rw [hl b q] at e; cases e

variable {prog : Program} {A : Around} {s : Shared} {Q E : Value → Shared → Prop} {name qual : Str} {params : Arguments} {body : List Stmt} {scope : Scope} {dV kV doc pm cdv ct oc : Value} {an od : Option Addr} {osl : Array (Option Value)} {f : Addr} {args : List Value} {binds : List (Str × Value)} {cl : List (Str × Addr)} {fo : Obj}

/-- a call of a function object without cells of its own -/
theorem call_raw (ms : List (Addr × Obj)) (G : Gd w loose mean mg mb g) (hg : Sub g s.heap) (hm : ∀ p ∈ ms, s.heap.get? p.1 = some p.2 ∧ g.get? p.1 = none)
    (ho : s.heap.get? f = some fo) (hd : fo.data = .func (fnX name qual params body scope cl dV kV doc pm an cdv ct)) (hcd : s.heap.CodeRec cdv qual)
    (hbind : bindArgs (fnX name qual params body scope cl dV kV doc pm an cdv ct) ⟨args, []⟩ = pure binds) (hloc : ∀ y ∈ binds, scope.names.lookup y.1 = some .local)
    (hroom : A.depth < recursionLimit)
    (h : ∀ g' L h₁ tk, Gd w loose mean mg mb g' → But (ms.map (·.1)) s.heap g' → (∀ b, s.heap.get? b = none → g'.get? b = none) → L = s.heap.objs.size → Fr g' L h₁ (fun y => binds.reverse.lookup y) → News g' L h₁ ms → (∀ p ∈ ms, p.1 < L) →
      wpAny (model prog w) (A.deeper (envX qual scope L f cdv cl)) (execs body (envX qual scope L f cdv cl))
        (fun fl s' => Q (match fl with | .ret v => v | _ => .none) s') (fun _ _ => False) { s with heap := h₁, toks := tk })
    (hco : scope.isCoroutine = false := by rfl) (hgen : scope.isGenerator = false := by rfl) (hk : scope.kind = .function := by rfl)
    (hcell : ∀ x ∈ scope.names, x.2 ≠ .cell := by decide) : wpAny (model prog w) A (call (.ref f) args) Q E s := by
  have G' : Gd w loose mean mg mb (hideAll s.heap (ms.map (·.1))) := G.hide hg fun a ha => by
    obtain ⟨p, hp, rfl⟩ := List.mem_map.mp ha
    exact (hm p hp).2
  refine wpAny_call (codeAny_call_def (fd := fnX name qual params body scope cl dV kV doc pm an cdv ct) hroom ho hd (G.T.nolimit.keeps hg) hcd rfl (BindsTo.of_eq hbind) hcell hloc (fun h₁ hns keep => ?_) hco hgen hk)
  refine wpAny_mono (h _ _ h₁ _ G' (fun b o hb e => hideAll_get _ e hb) (fun b e => ?_) rfl ⟨hns, fun b o e => keep b o (of_hideAll _ e), Nat.le_of_eq (hideAll_size _ _)⟩
    (fun p hp => ⟨keep _ _ (hm p hp).1, Nat.ne_of_lt (Heap.lt_size (hm p hp).1), hideAll_none _ (List.mem_map_of_mem hp)⟩) fun p hp => Heap.lt_size (hm p hp).1) (fun _ _ x => x) fun _ _ x => x.elim
  cases q : (hideAll s.heap (ms.map (·.1))).get? b with
  | none => rfl
  | some o => rw [of_hideAll _ q] at e; cases e

/-- a call of a def of the top without cells -/
theorem call_top (ms : List (Addr × Obj)) (G : Gd w loose mean mg mb g) (hg : Sub g s.heap) (hm : ∀ p ∈ ms, s.heap.get? p.1 = some p.2 ∧ g.get? p.1 = none)
    (ho : (hd.heap_1 w.params).lookup f = some ⟨oc, od, .func (fnOf name qual params body scope dV kV doc pm an cdv ct), osl⟩) (hcd : codeIn (hd.heap_1 w.params) cdv qual = true)
    (hbind : bindArgs (fnOf name qual params body scope dV kV doc pm an cdv ct) ⟨args, []⟩ = pure binds) (hloc : ∀ y ∈ binds, scope.names.lookup y.1 = some .local)
    (hroom : A.depth < recursionLimit)
    (h : ∀ g' L h₁ tk, Gd w loose mean mg mb g' → But (ms.map (·.1)) s.heap g' → (∀ b, s.heap.get? b = none → g'.get? b = none) → L = s.heap.objs.size → Fr g' L h₁ (fun y => binds.reverse.lookup y) → News g' L h₁ ms → (∀ p ∈ ms, p.1 < L) →
      wpAny (model prog w) (A.deeper (envOf qual scope L f cdv)) (execs body (envOf qual scope L f cdv))
        (fun fl s' => Q (match fl with | .ret v => v | _ => .none) s') (fun _ _ => False) { s with heap := h₁, toks := tk })
    (hco : scope.isCoroutine = false := by rfl) (hgen : scope.isGenerator = false := by rfl) (hk : scope.kind = .function := by rfl)
    (hcell : ∀ x ∈ scope.names, x.2 ≠ .cell := by decide) : wpAny (model prog w) A (call (.ref f) args) Q E s :=
  call_raw (cl := []) ms G hg hm ((G.X.keeps hg) f _ ho) rfl (codeRec_of (G.X.keeps hg) hcd) hbind hloc hroom h hco hgen hk hcell

/-- a call of a def of the top with cells -/
theorem call_topC (ms : List (Addr × Obj)) (G : Gd w loose mean mg mb g) (hg : Sub g s.heap) (hm : ∀ p ∈ ms, s.heap.get? p.1 = some p.2 ∧ g.get? p.1 = none)
    (ho : (hd.heap_1 w.params).lookup f = some ⟨oc, od, .func (fnOf name qual params body scope dV kV doc pm an cdv ct), osl⟩) (hcd : codeIn (hd.heap_1 w.params) cdv qual = true)
    (hbind : bindArgs (fnOf name qual params body scope dV kV doc pm an cdv ct) ⟨args, []⟩ = pure binds) (hkind : (binds.all fun y => scope.names.lookup y.1 == some .local || scope.names.lookup y.1 == some .cell) = true)
    (hnd : ((cellsFrom 0 scope.names []).map (·.1)).Nodup) (hroom : A.depth < recursionLimit)
    (h : ∀ g' L h₁ tk cells, Gd w loose mean mg mb g' → But (ms.map (·.1)) s.heap g' → (∀ b, s.heap.get? b = none → g'.get? b = none) → L = s.heap.objs.size → Fr g' L h₁ (bindL (envOfC qual scope L f cdv).kindOf binds fun _ => none) → News g' L h₁ (cells ++ ms) →
      CellsAre (bindC (envOfC qual scope L f cdv).kindOf binds fun _ => none) (cellsFrom (L + 1) scope.names []) cells → (∀ p ∈ ms, p.1 < L) →
      wpAny (model prog w) (A.deeper (envOfC qual scope L f cdv)) (execs body (envOfC qual scope L f cdv))
        (fun fl s' => Q (match fl with | .ret v => v | _ => .none) s') (fun _ _ => False) { s with heap := h₁, toks := tk })
    (hco : scope.isCoroutine = false := by rfl) (hgen : scope.isGenerator = false := by rfl) (hk : scope.kind = .function := by rfl) : wpAny (model prog w) A (call (.ref f) args) Q E s := by
  have G' : Gd w loose mean mg mb (hideAll s.heap (ms.map (·.1))) := G.hide hg fun a ha => by
    obtain ⟨p, hp, rfl⟩ := List.mem_map.mp ha
    exact (hm p hp).2
  have hnone : ∀ b, s.heap.get? b = none → (hideAll s.heap (ms.map (·.1))).get? b = none := fun b e => by
    cases q : (hideAll s.heap (ms.map (·.1))).get? b with
    | none => rfl
    | some o => rw [of_hideAll _ q] at e; cases e
  refine wpAny_call (codeAny_call_function hroom ((G.X.keeps hg) f _ ho) rfl hco hgen rfl (codeRec_of (G.X.keeps hg) hcd) (BindsTo.of_eq hbind _ _ _ _ ?_))
  refine wpAny_newFunctionEnv_cells hk (kindsX hkind _) fun env' he s' x => ?_
  subst he
  refine ⟨(G.T.nolimit.keeps hg).keeps x.toInCall.keep, codeAny_func ?_⟩
  obtain ⟨h₁, tk, rfl, _⟩ := x.done
  have hk₁ := x.toInCall.keep
  obtain ⟨cells, NC, Y⟩ := Cl.news (h₀ := s.heap) (Nat.le_refl _) fun n c hm => ⟨x.cell n c (lookup_of_mem_nodup (cellsFrom_names scope.names 0 (s.heap.objs.size + 1) [] [] rfl ▸ hnd) hm), x.above n c hm⟩
  refine wpAny_mono (h _ s.heap.objs.size h₁ tk cells G' (fun b o hb e => hideAll_get _ e hb) hnone rfl ⟨x.toInCall.ns, fun b o e => hk₁ b o (of_hideAll _ e), Nat.le_of_eq (hideAll_size _ _)⟩ (fun p hp => ?_) Y (fun p hp => Heap.lt_size (hm p hp).1)) (fun fl s' hl => hl) fun _ _ y => y.elim
  rcases List.mem_append.mp hp with hp | hp
  · exact ⟨(NC p hp).1, (NC p hp).2.1, hnone _ (NC p hp).2.2⟩
  · exact ⟨hk₁ _ _ (hm p hp).1, Nat.ne_of_lt (Heap.lt_size (hm p hp).1), hideAll_none _ (List.mem_map_of_mem hp)⟩
end

/-- what a call of another left, seen from the frame -/
theorem after_fr {h₀ h h' : Heap} {L : Addr} {m : Str → Option Value} {news : List (Addr × Obj)} (ms : List Addr) (F : Fr h₀ L h m) (N : News h₀ L h news) (k : But ms h h') (hm : ∀ a ∈ ms, a ≠ L ∧ h₀.get? a = none) : Fr h₀ L h' m :=
  ⟨F.ns.at' fun o e => k L o (fun q => (hm L q).1 rfl) e, fun b o e => k b o (fun q => by rw [(hm b q).2] at e; cases e) (F.keep b o e), F.above⟩
theorem after_news {h₀ h h' : Heap} {L : Addr} {news : List (Addr × Obj)} (ms : List Addr) (N : News h₀ L h news) (k : But ms h h') (hm : ∀ p ∈ news, p.1 ∉ ms) : News h₀ L h' news :=
  fun p hp => ⟨k _ _ (hm p hp) (N p hp).1, (N p hp).2⟩
theorem news_cons {h₀ h : Heap} {L a : Addr} {o : Obj} {news : List (Addr × Obj)} (N : News h₀ L h news) (e : h.get? a = some o) (hL : a ≠ L) (hn : h₀.get? a = none) : News h₀ L h ((a, o) :: news) := fun p hp => by
  rcases List.mem_cons.mp hp with rfl | hp
  · exact ⟨e, hL, hn⟩
  · exact N p hp
theorem fr_ne {h₀ h : Heap} {L r : Addr} {m : Str → Option Value} (F : Fr h₀ L h m) (e : h.get? r = none) : r ≠ L := fun q => by
  obtain ⟨o, es, ep, e2, _⟩ := F.ns
  rw [q, e2] at e; cases e
end Mine
namespace Mine
theorem foldl_rep1 (v : Value) : ∀ k : Nat, List.foldl (fun x1 x2 => x1 ++ x2) #[] (List.replicate k #[v]) = (List.replicate k v).toArray := by
  have gen : ∀ (k : Nat) (acc : Array Value), List.foldl (fun x1 x2 => x1 ++ x2) acc (List.replicate k #[v]) = acc ++ (List.replicate k v).toArray := by
    intro k
    induction k with
    | zero => intro acc; simp
    | succ k ih =>
      intro acc
      rw [List.replicate_succ, List.foldl_cons, ih, List.replicate_succ]
      apply Array.ext'
      simp
  intro k
  rw [gen]; simp
/-- [v] * k -/
theorem mul_rep {prog : Program} {w : World} {A : Around} {E : Value → Shared → Prop} {s : Shared} {h₀ : Heap} {L l : Addr} {m : Str → Option Value} {news : List (Addr × Obj)} {v : Value} {k : Nat} {x : Int} {u : Tok} {Q : Value → Shared → Prop}
    (F : Fr h₀ L s.heap m) (N : News h₀ L s.heap news) (hm : (l, listOf #[v] k) ∈ news) (hlo : 0 ≤ x) (hhi : x < 1000)
    (h : ∀ D h', Fr h₀ L h' m → News h₀ L h' ((D, listOf (List.replicate x.toNat v).toArray 0) :: news) → (∀ p ∈ news, p.1 < D) → Q (.ref D) { s with heap := h' }) :
    wpAny (model prog w) A (binaryOp .Mult (.ref l) (.int x u)) Q E s := by
  refine mul_list F N (N.get hm) (by omega) (by omega) (by simp; omega) fun h' F' N' => ?_
  have e : List.foldl (fun x1 x2 => x1 ++ x2) #[] (List.replicate (if (#[v] : Array Value).isEmpty = true then 0 else x.toNat) #[v]) = (List.replicate x.toNat v).toArray := by
    rw [if_neg (by simp), foldl_rep1]
  rw [e] at N'
  exact h _ h' F' N' fun p hp => Heap.lt_size (N p hp).1
theorem adapt {h₀ h h' : Heap} {L D : Addr} {m : Str → Option Value} {news : List (Addr × Obj)} {o o' : Obj} {gg : Obj → List (Addr × Obj)} (F : Fr h₀ L h m) (N : News h₀ L h news) (U : UpdF D o news gg) (k : But [D] h h') (e : h'.get? D = some o') :
    Fr h₀ L h' m ∧ News h₀ L h' (gg o') := by
  obtain ⟨pre, post, rfl, hg, h1, h2⟩ := U.split
  have z := N (D, o) (List.mem_append.mpr (.inr (.head _)))
  have ne : ∀ b, b ≠ D → b ∉ [D] := fun b hb q => hb (List.mem_singleton.mp q)
  refine ⟨after_fr [D] F N k (fun a ha => by rw [List.mem_singleton.mp ha]; exact z.2), ?_⟩
  rw [hg]
  intro p hp
  rcases List.mem_append.mp hp with hp | hp
  · have n := N p (List.mem_append_left _ hp)
    exact ⟨k _ _ (ne _ (h1 p hp)) n.1, n.2⟩
  · rcases List.mem_cons.mp hp with rfl | hp
    · exact ⟨e, z.2⟩
    · have n := N p (List.mem_append_right _ (.tail _ hp))
      exact ⟨k _ _ (ne _ (h2 p hp)) n.1, n.2⟩
end Mine
end
section
open PySem PySem.W PyProof.Rows PySem.Calls
set_option maxRecDepth 100000
set_option maxHeartbeats 8000000
namespace Mine
section
variable {w : World} {loose : List Str} {mean : ExcName → Option Value} {mg mb : Str → Option Value} {g : Heap}
variable {prog : Program} {A : Around} {s : Shared} {Q E : Value → Shared → Prop} {name qual : Str} {params : Arguments} {body : List Stmt} {scope : Scope} {dV kV doc pm cdv ct oc : Value} {an od : Option Addr} {osl : Array (Option Value)} {f : Addr} {args : List Value} {binds : List (Str × Value)} {cl : List (Str × Addr)} {fo : Obj}

/-- a call with its ghost and its frame's address told ahead -/
theorem call_rawE (ms : List (Addr × Obj)) {g' : Heap} {L : Addr} (eg : g' = hideAll s.heap (ms.map (·.1))) (hL : L = s.heap.objs.size) (G : Gd w loose mean mg mb g) (hg : Sub g s.heap) (hm : ∀ p ∈ ms, s.heap.get? p.1 = some p.2 ∧ g.get? p.1 = none)
    (ho : s.heap.get? f = some fo) (hd : fo.data = .func (fnX name qual params body scope cl dV kV doc pm an cdv ct)) (hcd : s.heap.CodeRec cdv qual)
    (hbind : bindArgs (fnX name qual params body scope cl dV kV doc pm an cdv ct) ⟨args, []⟩ = pure binds) (hloc : ∀ y ∈ binds, scope.names.lookup y.1 = some .local)
    (hroom : A.depth < recursionLimit)
    (h : ∀ h₁ tk, Gd w loose mean mg mb g' → But (ms.map (·.1)) s.heap g' → (∀ b, s.heap.get? b = none → g'.get? b = none) → Fr g' L h₁ (fun y => binds.reverse.lookup y) → News g' L h₁ ms → (∀ p ∈ ms, p.1 < L) →
      wpAny (model prog w) (A.deeper (envX qual scope L f cdv cl)) (execs body (envX qual scope L f cdv cl))
        (fun fl s' => Q (match fl with | .ret v => v | _ => .none) s') (fun _ _ => False) { s with heap := h₁, toks := tk })
    (hco : scope.isCoroutine = false := by rfl) (hgen : scope.isGenerator = false := by rfl) (hk : scope.kind = .function := by rfl)
    (hcell : ∀ x ∈ scope.names, x.2 ≠ .cell := by decide) : wpAny (model prog w) A (call (.ref f) args) Q E s := by
  have G' : Gd w loose mean mg mb (hideAll s.heap (ms.map (·.1))) := G.hide hg fun a ha => by
    obtain ⟨p, hp, rfl⟩ := List.mem_map.mp ha
    exact (hm p hp).2
  subst eg hL
  refine wpAny_call (codeAny_call_def (fd := fnX name qual params body scope cl dV kV doc pm an cdv ct) hroom ho hd (G.T.nolimit.keeps hg) hcd rfl (BindsTo.of_eq hbind) hcell hloc (fun h₁ hns keep => ?_) hco hgen hk)
  refine wpAny_mono (h h₁ _ G' (fun b o hb e => hideAll_get _ e hb) (fun b e => ?_) ⟨hns, fun b o e => keep b o (of_hideAll _ e), Nat.le_of_eq (hideAll_size _ _)⟩
    (fun p hp => ⟨keep _ _ (hm p hp).1, Nat.ne_of_lt (Heap.lt_size (hm p hp).1), hideAll_none _ (List.mem_map_of_mem hp)⟩) fun p hp => Heap.lt_size (hm p hp).1) (fun _ _ x => x) fun _ _ x => x.elim
  cases q : (hideAll s.heap (ms.map (·.1))).get? b with
  | none => rfl
  | some o => rw [of_hideAll _ q] at e; cases e

theorem call_topE (ms : List (Addr × Obj)) {g' : Heap} {L : Addr} (eg : g' = hideAll s.heap (ms.map (·.1))) (hL : L = s.heap.objs.size) (G : Gd w loose mean mg mb g) (hg : Sub g s.heap) (hm : ∀ p ∈ ms, s.heap.get? p.1 = some p.2 ∧ g.get? p.1 = none)
    (ho : (hd.heap_1 w.params).lookup f = some ⟨oc, od, .func (fnOf name qual params body scope dV kV doc pm an cdv ct), osl⟩) (hcd : codeIn (hd.heap_1 w.params) cdv qual = true)
    (hbind : bindArgs (fnOf name qual params body scope dV kV doc pm an cdv ct) ⟨args, []⟩ = pure binds) (hloc : ∀ y ∈ binds, scope.names.lookup y.1 = some .local)
    (hroom : A.depth < recursionLimit)
    (h : ∀ h₁ tk, Gd w loose mean mg mb g' → But (ms.map (·.1)) s.heap g' → (∀ b, s.heap.get? b = none → g'.get? b = none) → Fr g' L h₁ (fun y => binds.reverse.lookup y) → News g' L h₁ ms → (∀ p ∈ ms, p.1 < L) →
      wpAny (model prog w) (A.deeper (envOf qual scope L f cdv)) (execs body (envOf qual scope L f cdv))
        (fun fl s' => Q (match fl with | .ret v => v | _ => .none) s') (fun _ _ => False) { s with heap := h₁, toks := tk })
    (hco : scope.isCoroutine = false := by rfl) (hgen : scope.isGenerator = false := by rfl) (hk : scope.kind = .function := by rfl)
    (hcell : ∀ x ∈ scope.names, x.2 ≠ .cell := by decide) : wpAny (model prog w) A (call (.ref f) args) Q E s :=
  call_rawE (cl := []) ms eg hL G hg hm ((G.X.keeps hg) f _ ho) rfl (codeRec_of (G.X.keeps hg) hcd) hbind hloc hroom h hco hgen hk hcell

theorem call_topCE (ms : List (Addr × Obj)) {g' : Heap} {L : Addr} (eg : g' = hideAll s.heap (ms.map (·.1))) (hL : L = s.heap.objs.size) (G : Gd w loose mean mg mb g) (hg : Sub g s.heap) (hm : ∀ p ∈ ms, s.heap.get? p.1 = some p.2 ∧ g.get? p.1 = none)
    (ho : (hd.heap_1 w.params).lookup f = some ⟨oc, od, .func (fnOf name qual params body scope dV kV doc pm an cdv ct), osl⟩) (hcd : codeIn (hd.heap_1 w.params) cdv qual = true)
    (hbind : bindArgs (fnOf name qual params body scope dV kV doc pm an cdv ct) ⟨args, []⟩ = pure binds) (hkind : (binds.all fun y => scope.names.lookup y.1 == some .local || scope.names.lookup y.1 == some .cell) = true)
    (hnd : ((cellsFrom 0 scope.names []).map (·.1)).Nodup) (hroom : A.depth < recursionLimit)
    (h : ∀ h₁ tk cells, Gd w loose mean mg mb g' → But (ms.map (·.1)) s.heap g' → (∀ b, s.heap.get? b = none → g'.get? b = none) → Fr g' L h₁ (bindL (envOfC qual scope L f cdv).kindOf binds fun _ => none) → News g' L h₁ (cells ++ ms) →
      CellsAre (bindC (envOfC qual scope L f cdv).kindOf binds fun _ => none) (cellsFrom (L + 1) scope.names []) cells → (∀ p ∈ ms, p.1 < L) →
      wpAny (model prog w) (A.deeper (envOfC qual scope L f cdv)) (execs body (envOfC qual scope L f cdv))
        (fun fl s' => Q (match fl with | .ret v => v | _ => .none) s') (fun _ _ => False) { s with heap := h₁, toks := tk })
    (hco : scope.isCoroutine = false := by rfl) (hgen : scope.isGenerator = false := by rfl) (hk : scope.kind = .function := by rfl) : wpAny (model prog w) A (call (.ref f) args) Q E s := by
  have G' : Gd w loose mean mg mb (hideAll s.heap (ms.map (·.1))) := G.hide hg fun a ha => by
    obtain ⟨p, hp, rfl⟩ := List.mem_map.mp ha
    exact (hm p hp).2
  have hnone : ∀ b, s.heap.get? b = none → (hideAll s.heap (ms.map (·.1))).get? b = none := fun b e => by
    cases q : (hideAll s.heap (ms.map (·.1))).get? b with
    | none => rfl
    | some o => rw [of_hideAll _ q] at e; cases e
  subst eg hL
  refine wpAny_call (codeAny_call_function hroom ((G.X.keeps hg) f _ ho) rfl hco hgen rfl (codeRec_of (G.X.keeps hg) hcd) (BindsTo.of_eq hbind _ _ _ _ ?_))
  refine wpAny_newFunctionEnv_cells hk (kindsX hkind _) fun env' he s' x => ?_
  subst he
  refine ⟨(G.T.nolimit.keeps hg).keeps x.toInCall.keep, codeAny_func ?_⟩
  obtain ⟨h₁, tk, rfl, _⟩ := x.done
  have hk₁ := x.toInCall.keep
  obtain ⟨cells, NC, Y⟩ := Cl.news (h₀ := s.heap) (Nat.le_refl _) fun n c hm => ⟨x.cell n c (lookup_of_mem_nodup (cellsFrom_names scope.names 0 (s.heap.objs.size + 1) [] [] rfl ▸ hnd) hm), x.above n c hm⟩
  refine wpAny_mono (h h₁ tk cells G' (fun b o hb e => hideAll_get _ e hb) hnone ⟨x.toInCall.ns, fun b o e => hk₁ b o (of_hideAll _ e), Nat.le_of_eq (hideAll_size _ _)⟩ (fun p hp => ?_) Y (fun p hp => Heap.lt_size (hm p hp).1)) (fun fl s' hl => hl) fun _ _ y => y.elim
  rcases List.mem_append.mp hp with hp | hp
  · exact ⟨(NC p hp).1, (NC p hp).2.1, hnone _ (NC p hp).2.2⟩
  · exact ⟨hk₁ _ _ (hm p hp).1, Nat.ne_of_lt (Heap.lt_size (hm p hp).1), hideAll_none _ (List.mem_map_of_mem hp)⟩
end
end Mine
end
section
open PySem PySem.W PyProof.Rows PySem.Calls
set_option maxRecDepth 100000
set_option maxHeartbeats 8000000
namespace Mine
noncomputable def defParts : Stmt → Option (Arguments × List Stmt × Scope × Pos)
  | .FunctionDef _ a b _ _ _ sc _ _ p => some (a, b, sc, p)
  | _ => none
noncomputable def topDef (i : Nat) : Option (Arguments × List Stmt × Scope × Pos) := (PySem.Challenge.pw_qu0050_01.main.body[i]?).bind defParts
noncomputable def inDef (i j : Nat) : Option (Arguments × List Stmt × Scope × Pos) := ((topDef i).bind fun t => t.2.1[j]?).bind defParts
noncomputable def p1 : { t : Arguments × List Stmt × Scope × Pos // inDef 4 1 = some t } := ⟨(_, _, _, _), rfl⟩
noncomputable def p2 : { t : Arguments × List Stmt × Scope × Pos // inDef 5 0 = some t } := ⟨(_, _, _, _), rfl⟩
end Mine
end
section
open PySem PySem.W PyProof.Rows PySem.Calls
namespace Mine
/-- k figures of x by two to the n, the lowest first -/
noncomputable def digs (n k X : Nat) : List Int := (List.range k).map fun j => ((X / 2 ^ (n * j) % 2 ^ n : Nat) : Int)
theorem digs_length (n k X : Nat) : (digs n k X).length = k := by simp [digs]
theorem digs_one {n X : Nat} (h : X < 2 ^ n) : digs n 1 X = [(X : Int)] := by
  have e : X / 2 ^ (n * 0) % 2 ^ n = X := by rw [Nat.mul_zero, Nat.pow_zero, Nat.div_one, Nat.mod_eq_of_lt h]
  show [((X / 2 ^ (n * 0) % 2 ^ n : Nat) : Int)] = _
  rw [e]
theorem digs_split (n k1 k2 X : Nat) : digs n (k1 + k2) X = digs n k1 (X % 2 ^ (n * k1)) ++ digs n k2 (X / 2 ^ (n * k1)) := by
  unfold digs
  rw [List.range_add, List.map_append, List.map_map]
  congr 1
  · apply List.map_congr_left
    intro j hj
    have hj' : j < k1 := List.mem_range.mp hj
    have e : 2 ^ (n * k1) = 2 ^ (n * j) * (2 ^ n * 2 ^ (n * (k1 - j - 1))) := by
      rw [← Nat.pow_add, ← Nat.pow_add]
      congr 1
      obtain ⟨d, rfl⟩ : ∃ d, k1 = j + 1 + d := ⟨k1 - j - 1, by omega⟩
      rw [show j + 1 + d - j - 1 = d by omega]
      rw [Nat.mul_add, Nat.mul_add, Nat.mul_one, Nat.add_assoc]
    rw [e, Nat.mod_mul_right_div_self, Nat.mod_mul_right_mod]
  · apply List.map_congr_left
    intro j _
    show ((X / 2 ^ (n * (k1 + j)) % 2 ^ n : Nat) : Int) = _
    rw [Nat.div_div_eq_div_mul, ← Nat.pow_add, ← Nat.mul_add]
theorem and_high (X s : Nat) : X &&& (X / 2 ^ s * 2 ^ s) = X / 2 ^ s * 2 ^ s := by
  apply Nat.eq_of_testBit_eq
  intro i
  rw [Nat.testBit_and, Nat.testBit_mul_two_pow, Nat.testBit_div_two_pow]
  by_cases h : i < s
  · simp [Nat.not_le.mpr h]
  · have h' : s ≤ i := Nat.le_of_not_lt h
    simp [h', Nat.sub_add_cancel h']
theorem fdiv_pow (X s : Nat) : ((X : Int)).fdiv (2 ^ s) = ((X / 2 ^ s : Nat) : Int) := by
  have e : ((2 : Int) ^ s) = ((2 ^ s : Nat) : Int) := by rw [Int.natCast_pow]; rfl
  rw [Int.fdiv_eq_ediv_of_nonneg _ (by rw [e]; exact Int.natCast_nonneg _), e, Int.natCast_ediv]
theorem high_pow (X s : Nat) : ((X : Int)).fdiv (2 ^ s) * 2 ^ s = ((X / 2 ^ s * 2 ^ s : Nat) : Int) := by
  rw [fdiv_pow, Int.natCast_mul, Int.natCast_pow]; rfl
theorem xor_low (X s : Nat) : Builtin.bitXor (X : Int) (((X : Int)).fdiv (2 ^ s) * 2 ^ s) = ((X % 2 ^ s : Nat) : Int) := by
  rw [bitXor_and, high_pow, bitAnd_pp (Int.natCast_nonneg _) (Int.natCast_nonneg _)]
  simp only [Int.toNat_natCast]
  rw [and_high]
  have := Nat.div_add_mod X (2 ^ s)
  rw [Nat.mul_comm] at this
  omega
theorem digs_join {ns : List Int} {n a M b X : Nat} (h1 : a ≤ M) (h2 : M ≤ b) (h3 : b ≤ ns.length) :
    (ns.take a ++ digs n (M - a) (X % 2 ^ (n * (M - a))) ++ ns.drop M).take M ++ digs n (b - M) (X / 2 ^ (n * (M - a))) ++ (ns.take a ++ digs n (M - a) (X % 2 ^ (n * (M - a))) ++ ns.drop M).drop b = ns.take a ++ digs n (b - a) X ++ ns.drop b := by
  have l1 : (ns.take a ++ digs n (M - a) (X % 2 ^ (n * (M - a)))).length = M := by rw [List.length_append, List.length_take, digs_length]; omega
  have e1 : (ns.take a ++ digs n (M - a) (X % 2 ^ (n * (M - a))) ++ ns.drop M).take M = ns.take a ++ digs n (M - a) (X % 2 ^ (n * (M - a))) := by
    rw [List.take_append_of_le_length (by omega), List.take_of_length_le (by omega)]
  have e2 : (ns.take a ++ digs n (M - a) (X % 2 ^ (n * (M - a))) ++ ns.drop M).drop b = ns.drop b := by
    rw [List.drop_append, List.drop_of_length_le (by omega), l1, List.drop_drop, List.nil_append]
    congr 1; omega
  have e3 : b - a = (M - a) + (b - M) := by omega
  rw [e1, e2, e3, digs_split]
  simp only [List.append_assoc]
theorem div_lt_pow {n a M b X : Nat} (h1 : a ≤ M) (h2 : M ≤ b) (hX : X < 2 ^ (n * (b - a))) : X / 2 ^ (n * (M - a)) < 2 ^ (n * (b - M)) := by
  apply Nat.div_lt_of_lt_mul
  rw [← Nat.pow_add, ← Nat.mul_add]
  have : M - a + (b - M) = b - a := by omega
  rw [this]; exact hX
end Mine
end
section
open PySem PySem.W PyProof.Rows PySem.Calls
namespace Mine
/-- the number that figures tell, the lowest first -/
noncomputable def und (n : Nat) : List Nat → Nat
  | [] => 0
  | x :: xs => x + 2 ^ n * und n xs
theorem und_append (n : Nat) : ∀ xs ys : List Nat, und n (xs ++ ys) = und n xs + 2 ^ (n * xs.length) * und n ys
  | [], ys => by simp [und]
  | x :: xs, ys => by
    rw [List.cons_append, und, und, und_append n xs ys, List.length_cons, Nat.mul_add, Nat.mul_add, Nat.mul_one, Nat.pow_add]
    rw [← Nat.mul_assoc, Nat.mul_comm (2 ^ n) (2 ^ (n * xs.length)), Nat.add_assoc]
theorem und_lt (n : Nat) : ∀ xs : List Nat, (∀ x ∈ xs, x < 2 ^ n) → und n xs < 2 ^ (n * xs.length)
  | [], _ => by simp [und]
  | x :: xs, h => by
    have h1 := h x (.head _)
    have h2 := und_lt n xs fun y hy => h y (.tail _ hy)
    rw [und, List.length_cons, Nat.mul_add, Nat.mul_one, Nat.pow_add]
    have h3 : 2 ^ n * (und n xs + 1) ≤ 2 ^ n * 2 ^ (n * xs.length) := Nat.mul_le_mul_left _ h2
    rw [Nat.mul_add, Nat.mul_one] at h3
    rw [Nat.mul_comm (2 ^ (n * xs.length))]
    omega
theorem und_split (n : Nat) (xs : List Nat) {a M b : Nat} (h1 : a ≤ M) (h2 : M ≤ b) (h3 : b ≤ xs.length) :
    und n ((xs.drop a).take (b - a)) = und n ((xs.drop a).take (M - a)) + 2 ^ (n * (M - a)) * und n ((xs.drop M).take (b - M)) := by
  have e : (xs.drop a).take (b - a) = (xs.drop a).take (M - a) ++ (xs.drop M).take (b - M) := by
    have e1 : b - a = (M - a) + (b - M) := by omega
    rw [e1, List.take_add, List.drop_drop]
    congr 3; omega
  rw [e, und_append]
  congr 4
  rw [List.length_take, List.length_drop]; omega
/-- figures tell their number -/
theorem und_digs (n : Nat) : ∀ (k X : Nat), X < 2 ^ (n * k) → und n ((digs n k X).map Int.toNat) = X
  | 0, X, h => by simp at h; subst h; rfl
  | k + 1, X, h => by
    have e : k + 1 = 1 + k := by omega
    rw [e, digs_split, List.map_append, und_append]
    rw [Nat.mul_one]
    have h1 : X % 2 ^ n < 2 ^ n := Nat.mod_lt _ (Nat.two_pow_pos _)
    rw [digs_one h1]
    have h2 : X / 2 ^ n < 2 ^ (n * k) := by
      apply Nat.div_lt_of_lt_mul
      rw [← Nat.pow_add]
      have : n + n * k = n * (k + 1) := by rw [Nat.mul_add]; omega
      rw [this]; exact h
    rw [und_digs n k _ h2]
    simp [und]
    exact Nat.mod_add_div X (2 ^ n)
end Mine
end
section
open PySem PySem.W PyProof.Rows PySem.Calls
set_option maxRecDepth 100000
set_option maxHeartbeats 8000000
namespace Mine
theorem fill_here : ∀ (w : World) (h : Heap), (hd.heap_1 w.params).In h → PySem.Challenge.rw_qu0050_01.foot = 8 := by
  k_fill; intros; rfl
noncomputable abbrev q1 : Str := Str.ofString "_int2digits.<locals>.inner"
noncomputable abbrev inO1 (cn ci ca : Addr) (doc pm : Value) (c' : Addr) (ctv : Value) : Obj :=
  fnMade (Str.ofString "inner") q1 p1.1.1 p1.1.2.1 p1.1.2.2.1 [(Str.ofString "n", cn), (Str.ofString "inner", ci), (Str.ofString "a_digits", ca)] doc pm c' ctv
theorem codeRec_but {h g' : Heap} {ms : List (Addr × Obj)} {cd : Value} {q : Str} (hbut : But (ms.map (·.1)) h g') (hm : ∀ p ∈ ms, h.get? p.1 = some p.2 ∧ ∀ vs, p.2.data ≠ .fields vs) (hc : h.CodeRec cd q) : g'.CodeRec cd q := by
  obtain ⟨c, o, vs, t, e, ho, hd, hv⟩ := hc
  refine ⟨c, o, vs, t, e, hbut c o (fun hq => ?_) ho, hd, hv⟩
  obtain ⟨p, hp, rfl⟩ := List.mem_map.mp hq
  have := hm p hp
  rw [ho] at this
  cases this.1
  exact this.2 vs hd
theorem codeRec_sub {h g' : Heap} {cd : Value} {q : Str} (k : Sub h g') (hc : h.CodeRec cd q) : g'.CodeRec cd q := by
  obtain ⟨c, o, vs, t, e, ho, r⟩ := hc
  exact ⟨c, o, vs, t, e, k _ _ ho, r⟩
section
local macro_rules | `(tactic| walk_at "go") => `(tactic| first | (k_unfold; (try dsimp only)) | walk1 | (dsimp only; walk1))
local macro_rules | `(tactic| walk_at "eval Name") => `(tactic| (k_dflt (first
  | (refine' nameX_L ?F ?v ?_ ?a ?b; (case b => rfl); (case a => rfl); (case F => k_asm); (case v => rfl); k_whole)
  | (refine' nameX_F ?N ?c ?m ?d ?_ ?a ?b; (case b => rfl); (case a => rfl); (case N => k_asm); (case c => rfl); (case m => k_mem); (case d => k_asm); k_whole)
  | (refine' nameX_C ?N ?c ?m ?d ?_ ?a ?b; (case b => rfl); (case a => rfl); (case N => k_asm); (case c => rfl); (case m => k_mem); (case d => k_asm); k_whole)
  | (refine' nameX_K ?F ?X ?T ?e ?_ ?a ?b; (case b => rfl); (case a => rfl); (case F => k_asm); (case X => k_asm); (case T => k_asm); (case e => k_is); k_whole))))
local macro_rules | `(tactic| walk_at "binaryOp RShift int int") => `(tactic| (refine rshift_int (by first | omega | assumption) ?_))
local macro_rules | `(tactic| walk_at "binaryOp LShift int int") => `(tactic| (refine lshift_int (by first | omega | assumption) (by first | assumption) ?_))
local macro_rules | `(tactic| walk_at "binaryOp Mult int int") => `(tactic| (refine PyProof.Rows.mul_int (hm := IntMulOk.of_right (intBits_le_iff.mpr (by omega))) ?_))
local macro_rules | `(tactic| walk_at "setItem ref int int") => `(tactic| (refine ksa_set (by k_asm) (by k_asm) (by k_upd) (by assumption) (by omega) (by omega) (by omega) ?_; intro h' F' N'; (try k_sweep)))

noncomputable def Inner1 (w : World) (loose : List Str) (mean : ExcName → Option Value) (mg mb : Str → Option Value) (prog : Program) (K : Nat) : Prop :=
   ∀ {A : Around} {s : Shared} {Q E : Value → Shared → Prop} {g : Heap} (_ : Gd w loose mean mg mb g) (_ : Sub g s.heap) {f cn ci ca D c' : Addr} {doc pm ctv : Value} {on oi oa : Obj} {tn : Tok} {x lo hi : Int} (X a b n : Nat) {tx tl th : Tok} {vs : List Value} {ns : List Int} {ep : Nat}
   (_ : b - a ≤ K) (_ : A.depth + K ≤ 900) (_ : x = X) (_ : lo = a) (_ : hi = b) (_ : a < b) (_ : b ≤ ns.length) (_ : ns.length < 1000) (_ : X < 2 ^ (n * (b - a))) (_ : 0 < n) (_ : n < 1000)
   (_ : s.heap.get? f = some (inO1 cn ci ca doc pm c' ctv)) (_ : g.get? f = none) (_ : s.heap.CodeRec (.ref c') q1)
   (_ : s.heap.get? cn = some on) (_ : s.heap.get? ci = some oi) (_ : s.heap.get? ca = some oa) (_ : g.get? cn = none) (_ : g.get? ci = none) (_ : g.get? ca = none)
   (_ : on.data = .cell (some (.int n tn))) (_ : oi.data = .cell (some (.ref f))) (_ : oa.data = .cell (some (.ref D)))
   (_ : s.heap.get? D = some (listOf vs.toArray ep)) (_ : g.get? D = none) (_ : IntsAre vs ns)
   (_ : ∀ h' tk vs', But [D] s.heap h' → h'.get? D = some (listOf vs'.toArray ep) → IntsAre vs' (ns.take a ++ digs n (b - a) X ++ ns.drop b) → Q .none { s with heap := h', toks := tk }),
   wpAny (model prog w) A (call (.ref f) [.int x tx, .int lo tl, .int hi th]) Q E s

theorem inner1_use {w : World} {loose : List Str} {mean : ExcName → Option Value} {mg mb : Str → Option Value} {prog : Program} {K : Nat} (IH : Inner1 w loose mean mg mb prog K) {A : Around} {s : Shared} {Q E : Value → Shared → Prop} {h₀ : Heap} {L : Addr} {m : Str → Option Value} {news : List (Addr × Obj)} {gg : Obj → List (Addr × Obj)}
   {f cn ci ca D c' : Addr} {doc pm ctv : Value} {on oi oa : Obj} {tn : Tok} {x lo hi : Int} (X a b n : Nat) {tx tl th : Tok} {vs : List Value} {ns : List Int} {ep : Nat}
   (G : Gd w loose mean mg mb h₀) (F : Fr h₀ L s.heap m) (N : News h₀ L s.heap news) (U : UpdF D (listOf vs.toArray ep) news gg)
   (h1 : b - a ≤ K) (h2 : A.depth + K ≤ 900) (h3 : x = X) (h4 : lo = a) (h5 : hi = b) (h6 : a < b) (h7 : b ≤ ns.length) (h8 : ns.length < 1000) (h9 : X < 2 ^ (n * (b - a))) (h10 : 0 < n) (h11 : n < 1000)
   (hf : (f, inO1 cn ci ca doc pm c' ctv) ∈ news) (hcd : s.heap.CodeRec (.ref c') q1)
   (hon : (cn, on) ∈ news) (hoi : (ci, oi) ∈ news) (hoa : (ca, oa) ∈ news)
   (don : on.data = .cell (some (.int n tn))) (doi : oi.data = .cell (some (.ref f))) (doa : oa.data = .cell (some (.ref D)))
   (hI : IntsAre vs ns)
   (post : ∀ h' tk vs', Fr h₀ L h' m → News h₀ L h' (gg (listOf vs'.toArray ep)) → IntsAre vs' (ns.take a ++ digs n (b - a) X ++ ns.drop b) → Q .none { s with heap := h', toks := tk }) :
   wpAny (model prog w) A (call (.ref f) [.int x tx, .int lo tl, .int hi th]) Q E s := by
  obtain ⟨pre, suf, e, _, _, _⟩ := U.split
  have hD : (D, listOf vs.toArray ep) ∈ news := by rw [e]; simp
  refine IH G F.keep X a b n h1 h2 h3 h4 h5 h6 h7 h8 h9 h10 h11 (N.get hf) (N.fresh hf) hcd (N.get hon) (N.get hoi) (N.get hoa) (N.fresh hon) (N.fresh hoi) (N.fresh hoa) don doi doa (N.get hD) (N.fresh hD) hI ?_
  intro h' tk vs' hb hD' hI'
  obtain ⟨F', N'⟩ := adapt F N U hb hD'
  exact post h' tk vs' F' N' hI'

theorem inner1_all (w : World) (loose : List Str) (mean : ExcName → Option Value) (mg mb : Str → Option Value) (prog : Program) : ∀ K, Inner1 w loose mean mg mb prog K := by
  intro K
  induction K with
  | zero =>
    intro A s Q E g G hg f cn ci ca D c' doc pm ctv on oi oa tn x lo hi X a b n tx tl th vs ns ep hK hA hx ha hb hab
    omega
  | succ K IH =>
  intro A s Q E g G hg f cn ci ca D c' doc pm ctv on oi oa tn x lo hi X a b n tx tl th vs ns ep hK hA hx ha hb hab hbl hl hX hn hn2 hf hgf hcd hon hoi hoa gon goi goa don doi doa hD gD hI post
  have n1 : @Ne Nat D cn := by rintro rfl; rw [hD] at hon; cases hon; cases don
  have n2 : @Ne Nat D ci := by rintro rfl; rw [hD] at hoi; cases hoi; cases doi
  have n3 : @Ne Nat D ca := by rintro rfl; rw [hD] at hoa; cases hoa; cases doa
  have n4 : @Ne Nat D f := by rintro rfl; rw [hD] at hf; simp [W.listOf] at hf
  have hms : ∀ p ∈ [(D, listOf vs.toArray ep), (cn, on), (ci, oi), (ca, oa), (f, inO1 cn ci ca doc pm c' ctv)], (s.heap.get? p.1 = some p.2 ∧ g.get? p.1 = none) ∧ ∀ vs, p.2.data ≠ .fields vs := by
    intro p hp
    simp only [List.mem_cons, List.not_mem_nil, or_false] at hp
    rcases hp with rfl | rfl | rfl | rfl | rfl
    · exact ⟨⟨hD, gD⟩, fun _ => nofun⟩
    · exact ⟨⟨hon, gon⟩, fun _ => by rw [don]; nofun⟩
    · exact ⟨⟨hoi, goi⟩, fun _ => by rw [doi]; nofun⟩
    · exact ⟨⟨hoa, goa⟩, fun _ => by rw [doa]; nofun⟩
    · exact ⟨⟨hf, hgf⟩, fun _ => nofun⟩
  refine call_raw [(D, listOf vs.toArray ep), (cn, on), (ci, oi), (ca, oa), (f, inO1 cn ci ca doc pm c' ctv)] G hg (fun p hp => (hms p hp).1) hf rfl hcd rfl (locs rfl) (by show A.depth < 1000; omega) ?_
  intro g' L h₁ tk G' hbut hnone hL F N l1
  k_lt l1
  have hcd' := codeRec_but hbut (fun p hp => ⟨(hms p hp).1.1, (hms p hp).2⟩) hcd
  have fin : ∀ {L' : Addr} {m' : Str → Option Value} {h' : Heap} {o' : Obj}, Fr g' L' h' m' → News g' L' h' [(D, o'), (cn, on), (ci, oi), (ca, oa), (f, inO1 cn ci ca doc pm c' ctv)] → But [D] s.heap h' := by
    intro L' m' h' o' F' N' q o hq e
    by_cases hm : q ∈ [D, cn, ci, ca, f]
    · simp only [List.mem_cons, List.not_mem_nil, or_false] at hm hq
      rcases hm with rfl | rfl | rfl | rfl | rfl
      · exact absurd rfl hq
      · rw [hon] at e; cases e; exact N'.get (by simp)
      · rw [hoi] at e; cases e; exact N'.get (by simp)
      · rw [hoa] at e; cases e; exact N'.get (by simp)
      · rw [hf] at e; cases e; exact N'.get (by simp)
    · exact F'.keep q o (hbut q o hm e)
  have XX := G'.X
  have T := G'.T
  have C3 := G'.c3
  have hvl := hI.length
  dsimp only [p1]
  have eM : (lo + hi).fdiv (2 ^ Int.toNat 1) = (((a + b) / 2 : Nat) : Int) := by
    rw [show (2 : Int) ^ Int.toNat 1 = 2 from rfl, Int.fdiv_eq_ediv_of_nonneg _ (by decide), ha, hb]; omega
  have hM1 : a ≤ (a + b) / 2 := by omega
  have hM2 : (a + b) / 2 < b := by omega
  have eS : ((lo + hi).fdiv (2 ^ Int.toNat 1) - lo) * (n : Int) = ((n * ((a + b) / 2 - a) : Nat) : Int) := by
    rw [eM, ha, Int.mul_comm, Int.natCast_mul, Int.natCast_sub hM1]
  have hS : 0 ≤ ((lo + hi).fdiv (2 ^ Int.toNat 1) - lo) * (n : Int) := by rw [eS]; exact Int.natCast_nonneg _
  have eT : (((lo + hi).fdiv (2 ^ Int.toNat 1) - lo) * (n : Int)).toNat = n * ((a + b) / 2 - a) := by rw [eS]; exact Int.toNat_natCast _
  have hSb : n * ((a + b) / 2 - a) ≤ 1000 * 1000 := Nat.mul_le_mul (by omega) (by omega)
  have hSx : n * ((a + b) / 2 - a) ≤ n * (b - a) := Nat.mul_le_mul (Nat.le_refl _) (by omega)
  have hbx : n * (b - a) ≤ 1000 * 1000 := Nat.mul_le_mul (by omega) (by omega)
  have hLs : (Builtin.Int.intBits (x.fdiv (2 ^ (((lo + hi).fdiv (2 ^ Int.toNat 1) - lo) * (n : Int)).toNat)) : Int) + ((lo + hi).fdiv (2 ^ Int.toNat 1) - lo) * (n : Int) ≤ 2 ^ 27 := by
    rw [eT, eS, hx, fdiv_pow]
    have h1 : Builtin.Int.intBits (((X / 2 ^ (n * ((a + b) / 2 - a)) : Nat) : Int)) ≤ n * (b - a) :=
      intBits_le_iff.mpr (by rw [Int.natAbs_natCast]; exact Nat.lt_of_le_of_lt (Nat.div_le_self _ _) hX)
    have h2 : (2 : Int) ^ 27 = 134217728 := by decide
    rw [h2]; omega
  have eX : Builtin.bitXor x (x.fdiv (2 ^ (((lo + hi).fdiv (2 ^ Int.toNat 1) - lo) * (n : Int)).toNat) * 2 ^ (((lo + hi).fdiv (2 ^ Int.toNat 1) - lo) * (n : Int)).toNat) = ((X % 2 ^ (n * ((a + b) / 2 - a)) : Nat) : Int) := by
    rw [eT, hx]; exact xor_low _ _
  have eU : x.fdiv (2 ^ (((lo + hi).fdiv (2 ^ Int.toNat 1) - lo) * (n : Int)).toNat) = ((X / 2 ^ (n * ((a + b) / 2 - a)) : Nat) : Int) := by
    rw [eT, hx]; exact fdiv_pow _ _
  clear hSb hSx hbx
  have hX' := PySem.Flt.Hid.mk hX
  clear hX
  iterate 13 walk_at "go"
  · iterate 4 walk_at "go"
    with_reducible rename Fr _ _ _ _ => F9
    with_reducible rename News _ _ _ _ => N9
    refine' ksa_set F9 N9 ?u hI (by omega) (by omega) (by omega) ?_
    case u => k_upd
    intro h' F' N'
    clear F9 N9
    intro hI2 hlen
    repeat walk_at "go"
    refine post _ _ _ (fin F' N') (N'.get (.head _)) ?_
    have e1 : b - a = 1 := by omega
    have hX := hX'.out
    rw [e1, Nat.mul_one] at hX
    have e2 : lo.toNat = a := by omega
    have e3 : b = a + 1 := by omega
    rw [e1, digs_one hX, e3, ← hx]
    have e4 : ns.set a x = ns.take a ++ x :: ns.drop (a + 1) := by rw [List.set_eq_take_append_cons_drop, if_pos (by omega)]
    rw [e2, e4] at hI2
    rw [e2]
    simpa using hI2
  · iterate 53 walk_at "go"
    with_reducible rename Fr _ _ _ _ => F9
    with_reducible rename News _ _ _ _ => N9
    refine' inner1_use IH (X % 2 ^ (n * ((a + b) / 2 - a))) a ((a + b) / 2) n G' F9 N9 ?u (by omega) (by show A.depth + 1 + K ≤ 900; omega) eX ha eM (by omega) (by omega) hl (Nat.mod_lt _ (Nat.two_pow_pos _)) hn hn2
      (by k_mem) (codeRec_sub F9.keep hcd') (by k_mem) (by k_mem) (by k_mem) don doi doa hI ?_
    case u => k_updF
    intro h2 tk2 vs2 F3 N3 hI2
    clear F9 N9
    dsimp only at F3 N3 ⊢
    iterate 14 walk_at "go"
    have hX := hX'.out
    have hlen2 : (ns.take a ++ digs n ((a + b) / 2 - a) (X % 2 ^ (n * ((a + b) / 2 - a))) ++ ns.drop ((a + b) / 2)).length = ns.length := by
      rw [List.length_append, List.length_append, List.length_take, digs_length, List.length_drop]; omega
    refine' inner1_use IH (X / 2 ^ (n * ((a + b) / 2 - a))) ((a + b) / 2) b n G' F3 N3 ?u (by omega) (by show A.depth + 1 + K ≤ 900; omega) eU eM hb (by omega) (by omega) (by omega) (div_lt_pow hM1 (by omega) hX) hn hn2
      (by k_mem) (codeRec_sub F3.keep hcd') (by k_mem) (by k_mem) (by k_mem) don doi doa hI2 ?_
    case u => k_updF
    intro h3 tk3 vs3 F4 N4 hI3
    clear F3 N3
    dsimp only at F4 N4 ⊢
    repeat walk_at "go"
    rw [digs_join hM1 (by omega) hbl] at hI3
    exact post _ _ _ (fin F4 N4) (N4.get (.head _)) hI3
end
end Mine
end
section
open PySem PySem.W PyProof.Rows PySem.Calls
set_option maxRecDepth 100000
set_option maxHeartbeats 8000000
namespace Mine
theorem fill_here2 : ∀ (w : World) (h : Heap), (hd.heap_1 w.params).In h → PySem.Challenge.rw_qu0050_01.foot = 8 := by
  k_fill; intros; rfl
/-- a code table of one def: as laid, or with its one entry -/
noncomputable def TabS (g h : Heap) (P line col : Nat) (q : Str) : Prop :=
  g.get? P = none ∧ ∃ ps, h.get? P = some (tabObj ps) ∧ (ps = #[] ∨ ∃ c oc vs t, ps = #[rawInt line, rawInt col, .ref c] ∧ h.get? c = some oc ∧ oc.data = .fields vs ∧ vs[1]? = some (.str q t) ∧ @Ne Nat c P)
theorem TabS.keeps {g h h' : Heap} {P line col : Nat} {q : Str} (x : TabS g h P line col q) (k : Sub h h') : TabS g h' P line col q := by
  obtain ⟨h1, ps, h2, h3⟩ := x
  refine ⟨h1, ps, k _ _ h2, ?_⟩
  rcases h3 with h3 | ⟨c, oc, vs, t, e1, e2, r⟩
  · exact .inl h3
  · exact .inr ⟨c, oc, vs, t, e1, k _ _ e2, r⟩
theorem TabS.ground {g g' h : Heap} {P line col : Nat} {q : Str} (x : TabS g h P line col q) (k : Sub g' g) : TabS g' h P line col q := by
  obtain ⟨h1, ps, h2, h3⟩ := x
  refine ⟨k.none h1, ps, h2, ?_⟩
  rcases h3 with h3 | ⟨c, oc, vs, t, e1, e2, e3, r⟩
  · exact .inl h3
  · exact .inr ⟨c, oc, vs, t, e1, e2, e3, r⟩
theorem nmem1 {a b : Nat} (h : @Ne Nat a b) : a ∉ [b] := fun q => h (List.mem_singleton.mp q)
theorem nmem2 {a b c : Nat} (h : @Ne Nat a b) (h2 : @Ne Nat a c) : a ∉ [b, c] := fun q => by
  rcases List.mem_cons.mp q with q | q
  · exact h q
  · exact h2 (List.mem_singleton.mp q)
/-- how many figures -/
noncomputable def nd (n X : Nat) : Nat := (Builtin.Int.intBits (X : Int) + n - 1) / n
theorem lt_pow_bits (X : Nat) : X < 2 ^ Builtin.Int.intBits (X : Int) := by
  have := (intBits_le_iff (m := Builtin.Int.intBits (X : Int)) (x := (X : Int))).mp (Nat.le_refl _)
  simpa using this
theorem lt_pow_nd {n X : Nat} (hn : 0 < n) : X < 2 ^ (n * nd n X) := by
  refine Nat.lt_of_lt_of_le (lt_pow_bits X) (Nat.pow_le_pow_right (by decide) ?_)
  unfold nd
  have h := Nat.div_add_mod (Builtin.Int.intBits (X : Int) + n - 1) n
  have h2 := Nat.mod_lt (Builtin.Int.intBits (X : Int) + n - 1) hn
  omega
theorem nd_le {n X : Nat} (hn : 0 < n) : nd n X ≤ Builtin.Int.intBits (X : Int) := by
  unfold nd
  rw [Nat.div_le_iff_le_mul_add_pred hn]
  have : Builtin.Int.intBits (X : Int) ≤ n * Builtin.Int.intBits (X : Int) := Nat.le_mul_of_pos_left _ hn
  omega
theorem nd_pos {n X : Nat} (hn : 0 < n) (hX : X ≠ 0) : 0 < nd n X := by
  have : 0 < Builtin.Int.intBits (X : Int) := by
    unfold Builtin.Int.intBits
    rw [if_neg (by simpa using hX)]; omega
  unfold nd
  exact Nat.div_pos (by omega) hn
theorem nd_zero {n : Nat} (hn : 0 < n) : nd n 0 = 0 := by
  have e : Builtin.Int.intBits ((0 : Nat) : Int) = 0 := by decide
  unfold nd
  rw [e]
  exact Nat.div_eq_of_lt (by omega)
theorem nd_fdiv (n X : Nat) (hn : 0 < n) : ((Builtin.Int.intBits (X : Int) : Int) + (n : Int) - 1).fdiv (n : Int) = (nd n X : Int) := by
  rw [Int.fdiv_eq_ediv_of_nonneg _ (Int.natCast_nonneg _)]
  have e : (Builtin.Int.intBits (X : Int) : Int) + (n : Int) - 1 = ((Builtin.Int.intBits (X : Int) + n - 1 : Nat) : Int) := by omega
  rw [e]; rfl
theorem ints_rep (t : Tok) : ∀ k : Nat, IntsAre (List.replicate k (.int 0 t)) (List.replicate k 0)
  | 0 => .nil
  | k + 1 => by rw [List.replicate_succ, List.replicate_succ]; exact .cons _ _ (ints_rep t k)
theorem len_led {prog : Program} {w : World} {A : Around} {E : Value → Shared → Prop} {s : Shared} {h₀ : Heap} {L D : Addr} {news : List (Addr × Obj)} {its : Array Value} {ep : Nat} {Q : Value → Shared → Prop}
    (N : News h₀ L s.heap news) (hm : (D, listOf its ep) ∈ news) (hsz : its.size < 1000000) (h : ∀ t tk, Q (.int (its.size : Int) t) { s with toks := tk }) :
    wpAny (model prog w) A (call (.builtin "len") [.ref D]) Q E s :=
  PyProof.Rows.len_list ⟨_, N.get hm, rfl, _, rfl⟩ (by omega) (h _ _)
section
local macro_rules | `(tactic| walk_at "go") => `(tactic| first | (k_unfold; (try dsimp only)) | walk1 | (dsimp only; walk1))
local macro_rules | `(tactic| walk_at "eval Name") => `(tactic| (k_dflt (first
  | (refine' nameX_L ?F ?v ?_ ?a ?b; (case b => rfl); (case a => rfl); (case F => k_asm); (case v => rfl); k_whole)
  | (refine' nameX_F ?N ?c ?m ?d ?_ ?a ?b; (case b => rfl); (case a => rfl); (case N => k_asm); (case c => rfl); (case m => k_mem); (case d => k_asm); k_whole)
  | (refine' nameX_C ?N ?c ?m ?d ?_ ?a ?b; (case b => rfl); (case a => rfl); (case N => k_asm); (case c => rfl); (case m => k_mem); (case d => k_asm); k_whole)
  | (refine' nameX_K ?F ?X ?T ?e ?_ ?a ?b; (case b => rfl); (case a => rfl); (case F => k_asm); (case X => k_asm); (case T => k_asm); (case e => k_is); k_whole))))
local macro_rules | `(tactic| walk_at "binaryOp Mult ref int") => `(tactic| (refine mul_rep (by k_asm) (by k_asm) (by k_mem) (by omega) (by omega) ?_; intro D' h' F' N' l1; (try k_lt l1); (try k_sweep)))
local macro_rules | `(tactic| walk_at "call builtin:len") => `(tactic| (refine len_led (by k_asm) (by k_mem) (by simp only [List.size_toArray, List.length_replicate]; omega) ?_; intro t' tk'))
theorem int2_spec {w : World} {loose : List Str} {mean : ExcName → Option Value} {mg mb : Str → Option Value} {g : Heap} {prog : Program} {A : Around} {s : Shared} {Q E : Value → Shared → Prop} (G : Gd w loose mean mg mb g) (hg : Sub g s.heap) (hA : A.depth ≤ 600) {X n : Nat} {ta tn : Tok} (hn : 0 < n) (hn2 : n < 1000) (hbits : Builtin.Int.intBits (X : Int) < 200)
   (tab : TabS g s.heap 30 32 4 q1)
   (post : ∀ h' tk r vs, But [30] s.heap h' → TabS g h' 30 32 4 q1 → s.heap.get? r = none → h'.get? r = some (listOf vs.toArray 0) → IntsAre vs (digs n (nd n X) X) → Q (.ref r) { s with heap := h', toks := tk }) :
   wpAny (model prog w) A (call (.ref 35) [.int (X : Int) ta, .int (n : Int) tn]) Q E s := by
  obtain ⟨hg30, ps, h30, tab⟩ := tab
  have e0 := nd_fdiv n X hn
  have hk2 := nd_le (X := X) hn
  have hk0 : 0 ≤ ((Builtin.Int.intBits (X : Int) : Int) + (n : Int) - 1).fdiv (n : Int) := by omega
  have hk1 : ((Builtin.Int.intBits (X : Int) : Int) + (n : Int) - 1).fdiv (n : Int) < 1000 := by omega
  rcases tab with rfl | ⟨c, oc, vs, t, rfl, hc, hcd, hcv, hcP⟩
  · refine call_topC [(30, tabObj #[])] G hg (fun p hp => by cases List.mem_singleton.mp hp; exact ⟨h30, hg30⟩) (by k_is) (by k_is) rfl rfl (by decide +kernel) (by show A.depth < 1000; omega) ?_
    intro g' L h₁ tk cells G' hbut hnone hL F N Y l1
    simp only [List.map_cons, List.map_nil] at hbut
    k_lt l1; k_cells Y; (try simp only [List.cons_append, List.nil_append] at N); (try dsimp only)
    have XX := G'.X
    have T := G'.T
    have C3 := G'.c3
    repeat walk_at "go"
    · with_reducible rename Fr _ _ _ _ => F9
      with_reducible rename News _ _ _ _ => N9
      refine' inner1_use (inner1_all w loose mean mg mb prog (nd n X)) X 0 (nd n X) n G' F9 N9 ?u (by omega) (by show A.depth + 1 + nd n X ≤ 900; omega) rfl rfl (by simp only [List.size_toArray, List.length_replicate]; omega) (nd_pos hn (by omega)) (ns := List.replicate (nd n X) 0) (by simp) (by simp; omega) (lt_pow_nd hn) hn hn2
        (by k_mem) ?cd (by k_mem) (by k_mem) (by k_mem) (by assumption) (by assumption) (by assumption) ?hI ?_
      case u => k_updF
      case hI => rw [e0]; exact ints_rep _ _
      case cd => exact codeRec_news N9 (by k_mem) (by assumption) (by assumption)
      intro h2 tk2 vs2 F4 N4 hI4
      clear F9 N9
      dsimp only at F4 N4 ⊢
      repeat walk_at "go"
      have hI5 : IntsAre vs2 (digs n (nd n X) X) := by simpa using hI4
      refine post _ _ _ (_ : List Value) (fun b o hb e => F4.keep b o (hbut b o hb e)) ?_ (hbut.fresh (nmem1 (by omega)) (N4.fresh (by k_mem))) (N4.get (by k_mem)) hI5
      · refine ⟨hg30, _, N4.get (by k_mem), .inr ⟨_, _, _, _, rfl, N4.get (by k_mem), by assumption, by assumption, ?_⟩⟩
        omega
    · repeat walk_at "go"
      with_reducible rename Fr _ _ _ _ => F9
      with_reducible rename News _ _ _ _ => N9
      have hX0 : X = 0 := by omega
      subst hX0
      have hI5 : ∀ t0, IntsAre (List.replicate (((Builtin.Int.intBits ((0 : Nat) : Int) : Int) + (n : Int) - 1).fdiv (n : Int)).toNat (Value.int 0 t0)) (digs n (nd n 0) 0) := by
        intro t0; rw [e0, nd_zero hn]; exact .nil
      refine post _ _ _ (_ : List Value) (fun b o hb e => F9.keep b o (hbut b o hb e)) ?_ (hbut.fresh (nmem1 (by omega)) (N9.fresh (by k_mem))) (N9.get (by k_mem)) (hI5 _)
      · refine ⟨hg30, _, N9.get (by k_mem), .inr ⟨_, _, _, _, rfl, N9.get (by k_mem), by assumption, by assumption, ?_⟩⟩
        omega
  · refine call_topC [(30, tabObj #[rawInt ((32 : Nat) : Int), rawInt ((4 : Nat) : Int), .ref c])] G hg (fun p hp => by cases List.mem_singleton.mp hp; exact ⟨h30, hg30⟩) (by k_is) (by k_is) rfl rfl (by decide +kernel) (by show A.depth < 1000; omega) ?_
    intro g' L h₁ tk cells G' hbut hnone hL F N Y l1
    simp only [List.map_cons, List.map_nil] at hbut
    k_lt l1; k_cells Y; (try simp only [List.cons_append, List.nil_append] at N); (try dsimp only)
    have XX := G'.X
    have T := G'.T
    have C3 := G'.c3
    repeat walk_at "go"
    · with_reducible rename Fr _ _ _ _ => F9
      with_reducible rename News _ _ _ _ => N9
      refine' inner1_use (inner1_all w loose mean mg mb prog (nd n X)) X 0 (nd n X) n G' F9 N9 ?u (by omega) (by show A.depth + 1 + nd n X ≤ 900; omega) rfl rfl (by simp only [List.size_toArray, List.length_replicate]; omega) (nd_pos hn (by omega)) (ns := List.replicate (nd n X) 0) (by simp) (by simp; omega) (lt_pow_nd hn) hn hn2
        (by k_mem) ?cd (by k_mem) (by k_mem) (by k_mem) (by assumption) (by assumption) (by assumption) ?hI ?_
      case u => k_updF
      case hI => rw [e0]; exact ints_rep _ _
      case cd => exact ⟨c, oc, vs, t, rfl, F9.keep _ _ (hbut c oc (nmem1 hcP) hc), hcd, hcv⟩
      intro h2 tk2 vs2 F4 N4 hI4
      clear F9 N9
      dsimp only at F4 N4 ⊢
      repeat walk_at "go"
      have hI5 : IntsAre vs2 (digs n (nd n X) X) := by simpa using hI4
      refine post _ _ _ (_ : List Value) (fun b o hb e => F4.keep b o (hbut b o hb e)) ?_ (hbut.fresh (nmem1 (by omega)) (N4.fresh (by k_mem))) (N4.get (by k_mem)) hI5
      · exact ⟨hg30, _, N4.get (by k_mem), .inr ⟨c, oc, vs, t, rfl, F4.keep _ _ (hbut c oc (nmem1 hcP) hc), hcd, hcv, hcP⟩⟩
    · repeat walk_at "go"
      with_reducible rename Fr _ _ _ _ => F9
      with_reducible rename News _ _ _ _ => N9
      have hX0 : X = 0 := by omega
      subst hX0
      have hI5 : ∀ t0, IntsAre (List.replicate (((Builtin.Int.intBits ((0 : Nat) : Int) : Int) + (n : Int) - 1).fdiv (n : Int)).toNat (Value.int 0 t0)) (digs n (nd n 0) 0) := by
        intro t0; rw [e0, nd_zero hn]; exact .nil
      refine post _ _ _ (_ : List Value) (fun b o hb e => F9.keep b o (hbut b o hb e)) ?_ (hbut.fresh (nmem1 (by omega)) (N9.fresh (by k_mem))) (N9.get (by k_mem)) (hI5 _)
      · exact ⟨hg30, _, N9.get (by k_mem), .inr ⟨c, oc, vs, t, rfl, F9.keep _ _ (hbut c oc (nmem1 hcP) hc), hcd, hcv, hcP⟩⟩
end
end Mine
end
section
open PySem PySem.W PyProof.Rows PySem.Calls
set_option maxRecDepth 100000
set_option maxHeartbeats 8000000
set_option linter.unusedVariables false
set_option linter.unusedSimpArgs false
namespace Mine
theorem fill_F4 : ∀ (w : World) (h : Heap), (hd.heap_1 w.params).In h → PySem.Challenge.rw_qu0050_01.foot = 8 := by
  k_fill; intros; rfl
section
local macro_rules | `(tactic| walk_at "go") => `(tactic| first | (k_unfold; (try dsimp only)) | walk1 | (dsimp only; walk1))
local macro_rules | `(tactic| walk_at "eval Name") => `(tactic| (k_dflt (first
  | (refine' nameX_L ?F ?v ?_ ?a ?b; (case b => rfl); (case a => rfl); (case F => k_asm); (case v => rfl); k_whole)
  | (refine' nameX_F ?N ?c ?m ?d ?_ ?a ?b; (case b => rfl); (case a => rfl); (case N => k_asm); (case c => rfl); (case m => k_mem); (case d => k_asm); k_whole)
  | (refine' nameX_C ?N ?c ?m ?d ?_ ?a ?b; (case b => rfl); (case a => rfl); (case N => k_asm); (case c => rfl); (case m => k_mem); (case d => k_asm); k_whole)
  | (refine' nameX_K ?F ?X ?T ?e ?_ ?a ?b; (case b => rfl); (case a => rfl); (case F => k_asm); (case X => k_asm); (case T => k_asm); (case e => k_is); k_whole))))
local macro_rules | `(tactic| walk_at "binaryOp RShift int int") => `(tactic| (refine rshift_int (by first | omega | assumption) ?_))
local macro_rules | `(tactic| walk_at "binaryOp LShift int int") => `(tactic| (refine lshift_int (by first | omega | assumption) (by first | assumption) ?_))
local macro_rules | `(tactic| walk_at "binaryOp Mult int int") => `(tactic| (refine PyProof.Rows.mul_int (hm := by first | exact IntMulOk.of_right (intBits_le_iff.mpr (by omega)) | exact IntMulOk.of_left (intBits_le_iff.mpr (by omega)) | assumption) ?_))
local macro_rules | `(tactic| walk_at "setItem ref int int") => `(tactic| (refine ksa_set (by k_asm) (by k_asm) (by k_upd) (by assumption) (by omega) (by omega) (by omega) ?_; intro h' F' N'; (try k_sweep)))
local macro_rules | `(tactic| walk_at "binaryOp Mult ref int") => `(tactic| (refine mul_rep (by k_asm) (by k_asm) (by k_mem) (by omega) (by omega) ?_; intro D' h' F' N' l1; (try k_lt l1); (try k_sweep)))
local macro_rules | `(tactic| walk_at "call builtin:len") => `(tactic| (refine len_led (by k_asm) (by k_mem) (by first | omega | (simp only [List.size_toArray, List.length_replicate]; omega) | (simp only [List.size_toArray]; omega)) ?_; intro t' tk'))
noncomputable abbrev q2 : Str := Str.ofString "_digits2int.<locals>.inner"
noncomputable abbrev inO2 (cn ci ca : Addr) (doc pm : Value) (c' : Addr) (ctv : Value) : Obj :=
  fnMade (Str.ofString "inner") q2 p2.1.1 p2.1.2.1 p2.1.2.2.1 [(Str.ofString "n", cn), (Str.ofString "inner", ci), (Str.ofString "digits", ca)] doc pm c' ctv
/-- nothing of ms was changed -/
theorem sub_of {h g' h' : Heap} {L : Addr} {m : Str → Option Value} {ms news : List (Addr × Obj)} (hbut : But (ms.map (·.1)) h g') (hm : ∀ p ∈ ms, h.get? p.1 = some p.2) (F : Fr g' L h' m) (N : News g' L h' news) (hs : ∀ p ∈ ms, p ∈ news) : Sub h h' := fun b o e => by
  by_cases hb : b ∈ ms.map (·.1)
  · obtain ⟨p, hp, rfl⟩ := List.mem_map.mp hb
    rw [hm p hp] at e
    cases e
    exact N.get (hs p hp)
  · exact F.keep b o (hbut b o hb e)
noncomputable def Inner2 (w : World) (loose : List Str) (mean : ExcName → Option Value) (mg mb : Str → Option Value) (prog : Program) (K : Nat) : Prop :=
   ∀ {A : Around} {s : Shared} {Q E : Value → Shared → Prop} {g : Heap} (_ : Gd w loose mean mg mb g) (_ : Sub g s.heap) {f cn ci ca D c' : Addr} {doc pm ctv : Value} {on oi oa : Obj} {tn : Tok} {lo hi : Int} (a b n : Nat) {tl th : Tok} {vs : List Value} {ns : List Nat} {ep : Nat}
   (_ : b - a ≤ K) (_ : A.depth + K ≤ 900) (_ : lo = a) (_ : hi = b) (_ : a < b) (_ : b ≤ ns.length) (_ : ns.length < 1000) (_ : ∀ x ∈ ns, x < 2 ^ n) (_ : 0 < n) (_ : n < 1000)
   (_ : s.heap.get? f = some (inO2 cn ci ca doc pm c' ctv)) (_ : g.get? f = none) (_ : s.heap.CodeRec (.ref c') q2)
   (_ : s.heap.get? cn = some on) (_ : s.heap.get? ci = some oi) (_ : s.heap.get? ca = some oa) (_ : g.get? cn = none) (_ : g.get? ci = none) (_ : g.get? ca = none)
   (_ : on.data = .cell (some (.int n tn))) (_ : oi.data = .cell (some (.ref f))) (_ : oa.data = .cell (some (.ref D)))
   (_ : s.heap.get? D = some (listOf vs.toArray ep)) (_ : g.get? D = none) (_ : IntsAre vs (ns.map Int.ofNat))
   (_ : ∀ h' tk t, Sub s.heap h' → Q (.int (und n ((ns.drop a).take (b - a)) : Nat) t) { s with heap := h', toks := tk }),
   wpAny (model prog w) A (call (.ref f) [.int lo tl, .int hi th]) Q E s
theorem inner2_use {w : World} {loose : List Str} {mean : ExcName → Option Value} {mg mb : Str → Option Value} {prog : Program} {K : Nat} (IH : Inner2 w loose mean mg mb prog K) {A : Around} {s : Shared} {Q E : Value → Shared → Prop} {h₀ : Heap} {L : Addr} {m : Str → Option Value} {news : List (Addr × Obj)}
   {f cn ci ca D c' : Addr} {doc pm ctv : Value} {on oi oa : Obj} {tn : Tok} {lo hi : Int} (a b n : Nat) {tl th : Tok} {vs : List Value} {ns : List Nat} {ep : Nat}
   (G : Gd w loose mean mg mb h₀) (F : Fr h₀ L s.heap m) (N : News h₀ L s.heap news)
   (h1 : b - a ≤ K) (h2 : A.depth + K ≤ 900) (h4 : lo = a) (h5 : hi = b) (h6 : a < b) (h7 : b ≤ ns.length) (h8 : ns.length < 1000) (h9 : ∀ x ∈ ns, x < 2 ^ n) (h10 : 0 < n) (h11 : n < 1000)
   (hf : (f, inO2 cn ci ca doc pm c' ctv) ∈ news) (hcd : s.heap.CodeRec (.ref c') q2)
   (hon : (cn, on) ∈ news) (hoi : (ci, oi) ∈ news) (hoa : (ca, oa) ∈ news)
   (don : on.data = .cell (some (.int n tn))) (doi : oi.data = .cell (some (.ref f))) (doa : oa.data = .cell (some (.ref D)))
   (hD : (D, listOf vs.toArray ep) ∈ news) (hI : IntsAre vs (ns.map Int.ofNat))
   (post : ∀ h' tk t, Fr h₀ L h' m → News h₀ L h' news → Q (.int (und n ((ns.drop a).take (b - a)) : Nat) t) { s with heap := h', toks := tk }) :
   wpAny (model prog w) A (call (.ref f) [.int lo tl, .int hi th]) Q E s := by
  refine IH G F.keep a b n h1 h2 h4 h5 h6 h7 h8 h9 h10 h11 (N.get hf) (N.fresh hf) hcd (N.get hon) (N.get hoi) (N.get hoa) (N.fresh hon) (N.fresh hoi) (N.fresh hoa) don doi doa (N.get hD) (N.fresh hD) hI ?_
  intro h' tk t hs
  exact post h' tk t (after_fr [] F N (hs.but _) (fun _ h => nomatch h)) (after_news [] N (hs.but _) fun _ _ => List.not_mem_nil)
local macro_rules | `(tactic| walk_at "subscriptTail") => `(tactic| (refine ksa_sub (by k_asm) (by k_mem) (by assumption) (by omega) (by omega) (by omega) ?_; intro t'))
theorem inner2_all (w : World) (loose : List Str) (mean : ExcName → Option Value) (mg mb : Str → Option Value) (prog : Program) : ∀ K, Inner2 w loose mean mg mb prog K := by
  intro K
  induction K with
  | zero =>
    intro A s Q E g G hg f cn ci ca D c' doc pm ctv on oi oa tn lo hi a b n tl th vs ns ep hK hA ha hb hab
    omega
  | succ K IH =>
  intro A s Q E g G hg f cn ci ca D c' doc pm ctv on oi oa tn lo hi a b n tl th vs ns ep hK hA ha hb hab hbl hl hX hn hn2 hf hgf hcd hon hoi hoa gon goi goa don doi doa hD gD hI post
  have hms : ∀ p ∈ [(D, listOf vs.toArray ep), (cn, on), (ci, oi), (ca, oa), (f, inO2 cn ci ca doc pm c' ctv)], (s.heap.get? p.1 = some p.2 ∧ g.get? p.1 = none) ∧ ∀ vs, p.2.data ≠ .fields vs := by
    intro p hp
    simp only [List.mem_cons, List.not_mem_nil, or_false] at hp
    rcases hp with rfl | rfl | rfl | rfl | rfl
    · exact ⟨⟨hD, gD⟩, fun _ => nofun⟩
    · exact ⟨⟨hon, gon⟩, fun _ => by rw [don]; nofun⟩
    · exact ⟨⟨hoi, goi⟩, fun _ => by rw [doi]; nofun⟩
    · exact ⟨⟨hoa, goa⟩, fun _ => by rw [doa]; nofun⟩
    · exact ⟨⟨hf, hgf⟩, fun _ => nofun⟩
  refine call_raw [(D, listOf vs.toArray ep), (cn, on), (ci, oi), (ca, oa), (f, inO2 cn ci ca doc pm c' ctv)] G hg (fun p hp => (hms p hp).1) hf rfl hcd rfl (locs rfl) (by show A.depth < 1000; omega) ?_
  intro g' L h₁ tk G' hbut hnone hL F N l1
  k_lt l1
  have hcd' := codeRec_but hbut (fun p hp => ⟨(hms p hp).1.1, (hms p hp).2⟩) hcd
  have fin := @sub_of s.heap g'
  have XX := G'.X
  have T := G'.T
  have C2 := G'.c2
  have hvl := hI.length
  simp only [List.length_map] at hvl
  have hnl : (ns.map Int.ofNat).length = ns.length := by simp
  dsimp only [p2]
  have eM : (lo + hi).fdiv (2 ^ Int.toNat 1) = (((a + b) / 2 : Nat) : Int) := by
    rw [show (2 : Int) ^ Int.toNat 1 = 2 from rfl, Int.fdiv_eq_ediv_of_nonneg _ (by decide), ha, hb]; omega
  have hM1 : a ≤ (a + b) / 2 := by omega
  have hM2 : (a + b) / 2 < b := by omega
  have eS : ((lo + hi).fdiv (2 ^ Int.toNat 1) - lo) * (n : Int) = ((n * ((a + b) / 2 - a) : Nat) : Int) := by
    rw [eM, ha, Int.mul_comm, Int.natCast_mul, Int.natCast_sub hM1]
  have hS : 0 ≤ ((lo + hi).fdiv (2 ^ Int.toNat 1) - lo) * (n : Int) := by rw [eS]; exact Int.natCast_nonneg _
  have eT : (((lo + hi).fdiv (2 ^ Int.toNat 1) - lo) * (n : Int)).toNat = n * ((a + b) / 2 - a) := by rw [eS]; exact Int.toNat_natCast _
  have hLs : (Builtin.Int.intBits ((und n ((ns.drop ((a + b) / 2)).take (b - (a + b) / 2)) : Nat) : Int) : Int) + ((lo + hi).fdiv (2 ^ Int.toNat 1) - lo) * (n : Int) ≤ 2 ^ 27 := by
    rw [eS]
    have h0 : ((ns.drop ((a + b) / 2)).take (b - (a + b) / 2)).length = b - (a + b) / 2 := by rw [List.length_take, List.length_drop]; omega
    have h1 := und_lt n ((ns.drop ((a + b) / 2)).take (b - (a + b) / 2)) fun x hx => hX x (List.mem_of_mem_drop (List.mem_of_mem_take hx))
    rw [h0] at h1
    have h2 : Builtin.Int.intBits ((und n ((ns.drop ((a + b) / 2)).take (b - (a + b) / 2)) : Nat) : Int) ≤ n * (b - (a + b) / 2) := intBits_le_iff.mpr (by rw [Int.natAbs_natCast]; exact h1)
    have h3 : n * (b - (a + b) / 2) ≤ 1000 * 1000 := Nat.mul_le_mul (by omega) (by omega)
    have h4 : n * ((a + b) / 2 - a) ≤ 1000 * 1000 := Nat.mul_le_mul (by omega) (by omega)
    have h5 : (2 : Int) ^ 27 = 134217728 := by decide
    rw [h5]; omega
  have hX' := PySem.Flt.Hid.mk hX
  clear hX
  iterate 13 walk_at "go"
  · repeat walk_at "go"
    with_reducible rename Fr _ _ _ _ => F9
    with_reducible rename News _ _ _ _ => N9
    have e : (List.map Int.ofNat ns).getD lo.toNat 0 = ((und n ((ns.drop a).take (b - a)) : Nat) : Int) := by
      have e1 : b - a = 1 := by omega
      have e2 : lo.toNat = a := by omega
      have e3 : (ns.drop a).take 1 = [ns[a]'(by omega)] := by
        rw [List.drop_eq_getElem_cons (by omega), List.take_succ_cons, List.take_zero]
      rw [e1, e2, e3, und, und, List.getD_eq_getElem?_getD, List.getElem?_map, List.getElem?_eq_getElem (by omega)]
      simp
    rw [e]
    exact post _ _ _ (fin hbut (fun p hp => (hms p hp).1.1) F9 N9 fun p hp => hp)
  · repeat walk_at "go"
    with_reducible rename Fr _ _ _ _ => F9
    with_reducible rename News _ _ _ _ => N9
    refine inner2_use IH ((a + b) / 2) b n G' F9 N9 (by omega) (by show A.depth + 1 + K ≤ 900; omega) eM hb (by omega) (by omega) hl hX'.out hn hn2
      (by k_mem) (codeRec_sub F9.keep hcd') (by k_mem) (by k_mem) (by k_mem) don doi doa (by k_mem) hI ?_
    intro h2 tk2 t2 F3 N3
    clear F9 N9
    dsimp only at F3 N3 ⊢
    repeat walk_at "go"
    refine inner2_use IH a ((a + b) / 2) n G' F3 N3 (by omega) (by show A.depth + 1 + K ≤ 900; omega) ha eM (by omega) (by omega) hl hX'.out hn hn2
      (by k_mem) (codeRec_sub F3.keep hcd') (by k_mem) (by k_mem) (by k_mem) don doi doa (by k_mem) hI ?_
    intro h3 tk3 t3 F4 N4
    clear F3 N3
    dsimp only at F4 N4 ⊢
    repeat walk_at "go"
    trace_state
    have e : ((und n ((ns.drop ((a + b) / 2)).take (b - (a + b) / 2)) : Nat) : Int) * 2 ^ (((lo + hi).fdiv (2 ^ Int.toNat 1) - lo) * (n : Int)).toNat + ((und n ((ns.drop a).take ((a + b) / 2 - a)) : Nat) : Int) = ((und n ((ns.drop a).take (b - a)) : Nat) : Int) := by
      rw [eT, und_split n ns hM1 (Nat.le_of_lt hM2) hbl, Int.natCast_add, Int.natCast_mul, Int.natCast_pow, Int.mul_comm, Int.add_comm]; rfl
    rw [e]
    exact post _ _ _ (fin hbut (fun p hp => (hms p hp).1.1) F4 N4 fun p hp => hp)
end
end Mine
end
section
open PySem PySem.W PyProof.Rows PySem.Calls
set_option maxRecDepth 100000
set_option maxHeartbeats 8000000
set_option linter.unusedVariables false
set_option linter.unusedSimpArgs false
namespace Mine
theorem fill_F5 : ∀ (w : World) (h : Heap), (hd.heap_1 w.params).In h → PySem.Challenge.rw_qu0050_01.foot = 8 := by
  k_fill; intros; rfl
section
local macro_rules | `(tactic| walk_at "go") => `(tactic| first | (k_unfold; (try dsimp only)) | walk1 | (dsimp only; walk1))
local macro_rules | `(tactic| walk_at "eval Name") => `(tactic| (k_dflt (first
  | (refine' nameX_L ?F ?v ?_ ?a ?b; (case b => rfl); (case a => rfl); (case F => k_asm); (case v => rfl); k_whole)
  | (refine' nameX_F ?N ?c ?m ?d ?_ ?a ?b; (case b => rfl); (case a => rfl); (case N => k_asm); (case c => rfl); (case m => k_mem); (case d => k_asm); k_whole)
  | (refine' nameX_C ?N ?c ?m ?d ?_ ?a ?b; (case b => rfl); (case a => rfl); (case N => k_asm); (case c => rfl); (case m => k_mem); (case d => k_asm); k_whole)
  | (refine' nameX_K ?F ?X ?T ?e ?_ ?a ?b; (case b => rfl); (case a => rfl); (case F => k_asm); (case X => k_asm); (case T => k_asm); (case e => k_is); k_whole))))
local macro_rules | `(tactic| walk_at "binaryOp RShift int int") => `(tactic| (refine rshift_int (by first | omega | assumption) ?_))
local macro_rules | `(tactic| walk_at "binaryOp LShift int int") => `(tactic| (refine lshift_int (by first | omega | assumption) (by first | assumption) ?_))
local macro_rules | `(tactic| walk_at "binaryOp Mult int int") => `(tactic| (refine PyProof.Rows.mul_int (hm := by first | exact IntMulOk.of_right (intBits_le_iff.mpr (by omega)) | exact IntMulOk.of_left (intBits_le_iff.mpr (by omega)) | assumption) ?_))
local macro_rules | `(tactic| walk_at "setItem ref int int") => `(tactic| (refine ksa_set (by k_asm) (by k_asm) (by k_upd) (by assumption) (by omega) (by omega) (by omega) ?_; intro h' F' N'; (try k_sweep)))
local macro_rules | `(tactic| walk_at "binaryOp Mult ref int") => `(tactic| (refine mul_rep (by k_asm) (by k_asm) (by k_mem) (by omega) (by omega) ?_; intro D' h' F' N' l1; (try k_lt l1); (try k_sweep)))
local macro_rules | `(tactic| walk_at "call builtin:len") => `(tactic| (refine len_led (by k_asm) (by k_mem) (by first | omega | (simp only [List.size_toArray, List.length_replicate]; omega) | (simp only [List.size_toArray]; omega)) ?_; intro t' tk'))
theorem nmem3 {a b c d : Nat} (h : @Ne Nat a b) (h2 : @Ne Nat a c) (h3 : @Ne Nat a d) : a ∉ [b, c, d] := fun q => by
  rcases List.mem_cons.mp q with q | q
  · exact h q
  · exact nmem2 h2 h3 q
theorem digits2int_spec {w : World} {loose : List Str} {mean : ExcName → Option Value} {mg mb : Str → Option Value} {g : Heap} {prog : Program} {A : Around} {s : Shared} {Q E : Value → Shared → Prop} (G : Gd w loose mean mg mb g) (hg : Sub g s.heap) (hA : A.depth ≤ 600) {D : Addr} {n : Nat} {tn : Tok} {vs : List Value} {ns : List Nat} {ep : Nat} (hn : 0 < n) (hn2 : n < 1000) (hl : ns.length < 200)
   (hX : ∀ x ∈ ns, x < 2 ^ n) (hD : s.heap.get? D = some (listOf vs.toArray ep)) (gD : g.get? D = none) (hI : IntsAre vs (ns.map Int.ofNat))
   (tab : TabS g s.heap 37 47 4 q2)
   (post : ∀ h' tk t, But [37] s.heap h' → TabS g h' 37 47 4 q2 → Q (.int (und n ns : Nat) t) { s with heap := h', toks := tk }) :
   wpAny (model prog w) A (call (.ref 42) [.ref D, .int (n : Int) tn]) Q E s := by
  obtain ⟨hgP, ps, hP, tab⟩ := tab
  have hDP : @Ne Nat D 37 := by rintro rfl; rw [hP] at hD; cases hD
  have hX' := PySem.Flt.Hid.mk hX
  clear hX
  have hvl := hI.length
  simp only [List.length_map] at hvl
  have hnl : (ns.map Int.ofNat).length = ns.length := by simp
  rcases tab with rfl | ⟨c, oc, vc, t, rfl, hc, hcd, hcv, hcP⟩
  · refine call_topC [(D, listOf vs.toArray ep), (37, tabObj #[])] G hg (fun p hp => by simp only [List.mem_cons, List.not_mem_nil, or_false] at hp; rcases hp with rfl | rfl; exact ⟨hD, gD⟩; exact ⟨hP, hgP⟩) (by k_is) (by k_is) rfl rfl (by decide +kernel) (by show A.depth < 1000; omega) ?_
    intro g' L h₁ tk cells G' hbut hnone hL F N Y l1
    simp only [List.map_cons, List.map_nil] at hbut
    k_lt l1; k_cells Y; (try simp only [List.cons_append, List.nil_append] at N); (try dsimp only)
    have XX := G'.X
    have T := G'.T
    have C2 := G'.c2
    repeat walk_at "go"
    · with_reducible rename Fr _ _ _ _ => F9
      with_reducible rename News _ _ _ _ => N9
      refine inner2_use (inner2_all w loose mean mg mb prog ns.length) 0 ns.length n G' F9 N9 (by omega) (by show A.depth + 1 + ns.length ≤ 900; omega) rfl (by omega) ?pos (Nat.le_refl _) (by omega) hX'.out hn hn2
        (by k_mem) ?cd (by k_mem) (by k_mem) (by k_mem) (by assumption) (by assumption) (by assumption) (by k_mem) hI ?_
      case pos => omega
      case cd => exact codeRec_news N9 (by k_mem) (by assumption) (by assumption)
      intro h2 tk2 t2 F4 N4
      clear F9 N9
      dsimp only at F4 N4 ⊢
      rw [List.drop_zero, Nat.sub_zero, List.take_length]
      refine post _ _ _ (fun b o hb e => if hc' : b = D then (by subst hc'; rw [hD] at e; cases e; exact N4.get (by k_mem)) else F4.keep b o (hbut b o (nmem2 hc' (fun q => hb (by rw [q]; exact .head _))) e)) ?_
      · refine ⟨hgP, _, N4.get (by k_mem), .inr ⟨_, _, _, _, rfl, N4.get (by k_mem), by assumption, by assumption, ?_⟩⟩
        omega
    · repeat walk_at "go"
      with_reducible rename Fr _ _ _ _ => F9
      with_reducible rename News _ _ _ _ => N9
      have hnil : ns = [] := by
        have : ns.length = 0 := by omega
        exact List.length_eq_zero_iff.mp this
      subst hnil
      refine post _ _ _ (fun b o hb e => if hc' : b = D then (by subst hc'; rw [hD] at e; cases e; exact N9.get (by k_mem)) else F9.keep b o (hbut b o (nmem2 hc' (fun q => hb (by rw [q]; exact .head _))) e)) ?_
      · refine ⟨hgP, _, N9.get (by k_mem), .inr ⟨_, _, _, _, rfl, N9.get (by k_mem), by assumption, by assumption, ?_⟩⟩
        omega
  · refine call_topC [(D, listOf vs.toArray ep), (37, tabObj #[rawInt ((47 : Nat) : Int), rawInt ((4 : Nat) : Int), .ref c])] G hg (fun p hp => by simp only [List.mem_cons, List.not_mem_nil, or_false] at hp; rcases hp with rfl | rfl; exact ⟨hD, gD⟩; exact ⟨hP, hgP⟩) (by k_is) (by k_is) rfl rfl (by decide +kernel) (by show A.depth < 1000; omega) ?_
    intro g' L h₁ tk cells G' hbut hnone hL F N Y l1
    simp only [List.map_cons, List.map_nil] at hbut
    k_lt l1; k_cells Y; (try simp only [List.cons_append, List.nil_append] at N); (try dsimp only)
    have hcD : @Ne Nat c D := by rintro rfl; rw [hD] at hc; cases hc; cases hcd
    have XX := G'.X
    have T := G'.T
    have C2 := G'.c2
    repeat walk_at "go"
    · with_reducible rename Fr _ _ _ _ => F9
      with_reducible rename News _ _ _ _ => N9
      refine inner2_use (inner2_all w loose mean mg mb prog ns.length) 0 ns.length n G' F9 N9 (by omega) (by show A.depth + 1 + ns.length ≤ 900; omega) rfl (by omega) ?pos (Nat.le_refl _) (by omega) hX'.out hn hn2
        (by k_mem) ?cd (by k_mem) (by k_mem) (by k_mem) (by assumption) (by assumption) (by assumption) (by k_mem) hI ?_
      case pos => omega
      case cd => exact ⟨c, oc, vc, t, rfl, F9.keep _ _ (hbut c oc (nmem2 hcD hcP) hc), hcd, hcv⟩
      intro h2 tk2 t2 F4 N4
      clear F9 N9
      dsimp only at F4 N4 ⊢
      rw [List.drop_zero, Nat.sub_zero, List.take_length]
      refine post _ _ _ (fun b o hb e => if hc' : b = D then (by subst hc'; rw [hD] at e; cases e; exact N4.get (by k_mem)) else F4.keep b o (hbut b o (nmem2 hc' (fun q => hb (by rw [q]; exact .head _))) e)) ?_
      · exact ⟨hgP, _, N4.get (by k_mem), .inr ⟨c, oc, vc, t, rfl, F4.keep _ _ (hbut c oc (nmem2 hcD hcP) hc), hcd, hcv, hcP⟩⟩
    · repeat walk_at "go"
      with_reducible rename Fr _ _ _ _ => F9
      with_reducible rename News _ _ _ _ => N9
      have hnil : ns = [] := by
        have : ns.length = 0 := by omega
        exact List.length_eq_zero_iff.mp this
      subst hnil
      refine post _ _ _ (fun b o hb e => if hc' : b = D then (by subst hc'; rw [hD] at e; cases e; exact N9.get (by k_mem)) else F9.keep b o (hbut b o (nmem2 hc' (fun q => hb (by rw [q]; exact .head _))) e)) ?_
      · exact ⟨hgP, _, N9.get (by k_mem), .inr ⟨c, oc, vc, t, rfl, F9.keep _ _ (hbut c oc (nmem2 hcD hcP) hc), hcd, hcv, hcP⟩⟩
end
end Mine
end
section
open PySem PySem.W PyProof.Rows PySem.Calls
namespace Mine
/-- locals: a few told, the rest as before -/
noncomputable def upd (l : List (Str × Option Value)) (m : Str → Option Value) : Str → Option Value := fun y => match l.lookup y with | some v => v | none => m y
theorem upd_nil (m : Str → Option Value) : upd [] m = m := rfl
theorem upd_if (l : List (Str × Option Value)) (m : Str → Option Value) (x : Str) (v : Value) : (fun y => if y = x then some v else upd l m y) = upd ((x, some v) :: l) m := by
  funext y
  unfold upd
  by_cases h : y = x
  · subst h; simp [List.lookup_cons]
  · have : (y == x) = false := by simpa using h
    simp [List.lookup_cons, h, this]
theorem upd_if1 {f : Str → Option Value} {l : List (Str × Option Value)} {m : Str → Option Value} {x : Str} {v : Value} (h : f = upd l m) : (fun y => if y = x then some v else f y) = upd ((x, some v) :: l) m := by rw [h]; exact upd_if l m x v
theorem lookup_append' (y : Str) : ∀ (a b : List (Str × Option Value)), (a ++ b).lookup y = (a.lookup y).or (b.lookup y)
  | [], b => by simp
  | (x, v) :: a, b => by
    rw [List.cons_append, List.lookup_cons, List.lookup_cons]
    cases y == x with
    | true => rfl
    | false => exact lookup_append' y a b
theorem lookup_none' (y : Str) : ∀ (b : List (Str × Option Value)), (∀ x ∈ b, y ≠ x.1) → b.lookup y = none
  | [], _ => rfl
  | (x, v) :: b, h => by
    rw [List.lookup_cons]
    have : (y == x) = false := by simpa using h (x, v) (.head _)
    rw [this]
    exact lookup_none' y b fun z hz => h z (.tail _ hz)
theorem upd_trim (a b : List (Str × Option Value)) (m : Str → Option Value) (h : (b.all fun x => (a.lookup x.1).isSome) = true) : upd (a ++ b) m = upd a m := by
  funext y
  unfold upd
  rw [lookup_append']
  cases e : a.lookup y with
  | some v => rfl
  | none =>
    rw [lookup_none' y b fun x hx q => ?_]
    · rfl
    · have := List.all_eq_true.mp h x hx
      rw [← q, e] at this; cases this
/-- the end of a turn -/
noncomputable def TurnEnd (h₀ : Heap) (L : Addr) (wr : List Addr) (own : List (Addr × Obj)) (Jn : (Str → Option Value) → List (Addr × Obj) → Prop) (s : Shared) (Q : Flow → Shared → Prop) (f : Flow) (s' : Shared) : Prop :=
  match f with
  | .ret v => Q (.ret v) s'
  | .brk => Q .next s'
  | _ => ∃ h' tk' m₂ news₂ all, s' = { s with heap := h', toks := tk' } ∧ Fr h₀ L h' m₂ ∧ News h₀ L h' all ∧ (∀ p ∈ own, p ∈ all) ∧ (∀ p ∈ news₂, p ∈ all) ∧ (∀ p ∈ news₂, p.1 ∉ wr) ∧ Jn m₂ news₂
theorem walk_loop {prog : Program} {w : World} {A : Around} {E : Value → Shared → Prop} {s : Shared} {env : Env} {h₀ : Heap} {x : Str} {body : List Stmt} {Q : Flow → Shared → Prop}
    {I : Addr} {fp wr : List Addr} {n : Nat} {P : Nat → Value → Prop} {St : Nat → Heap → Prop} {m₀ : Str → Option Value} {news : List (Addr × Obj)} (J : Nat → (Str → Option Value) → List (Addr × Obj) → Prop)
    (W : Walks prog w A I fp wr n P St) (hLf : env.locals ∉ fp) (hwr : ∀ b ∈ wr, h₀.get? b = none) (hnw : ∀ p ∈ news, p.1 ∉ wr) (hst : St 0 s.heap) (F : Fr h₀ env.locals s.heap m₀) (N : News h₀ env.locals s.heap news) (hj : J 0 m₀ news)
    (turn : ∀ i v m₁ news₁ h tk own, i < n → P i v → J i m₁ news₁ → (∀ p ∈ own, p.1 ∈ fp) → (∀ p ∈ news₁, p.1 ∉ wr) → Fr h₀ env.locals h (fun y => if y = x then some v else m₁ y) → News h₀ env.locals h (news₁ ++ own) →
      wpAny (model prog w) A (execs body env) (TurnEnd h₀ env.locals wr own (J (i + 1)) { s with heap := h, toks := tk } Q) E { s with heap := h, toks := tk })
    (done : ∀ m' news' h' tk, J n m' news' → Fr h₀ env.locals h' m' → News h₀ env.locals h' news' → Q .next { s with heap := h', toks := tk }) :
    LoopAtV prog w A h₀ env x body Q E (.ref I) s := by
  refine ⟨I, fp, wr, n, P, St, m₀, news, J, rfl, W, hLf, hwr, hnw, hst, F, N, hj, ?_, fun h' tk m' news' F' N' _ hJ => done m' news' h' tk hJ F' N'⟩
  rintro i v m₁ news₁ s₁ own ⟨hh', tk', rfl⟩ hin hP hJ hoff hown _ _ _ F₁ N₁
  have N₂ : News h₀ env.locals hh' (news₁ ++ own) := fun p hp => N₁ p ((List.mem_append.mp hp).elim (fun h => List.mem_append.mpr (.inr h)) fun h => List.mem_append.mpr (.inl h))
  refine wpAny_mono (turn i v m₁ news₁ hh' tk' own hin hP hJ hown hoff F₁ N₂) (fun f s₂ p => ?_) fun _ _ e => e
  have fin : (∃ h' tk' m₂ news₂ all, s₂ = { ({ s with heap := hh', toks := tk' } : Shared) with heap := h', toks := tk' } ∧ Fr h₀ env.locals h' m₂ ∧ News h₀ env.locals h' all ∧ (∀ p ∈ own, p ∈ all) ∧ (∀ p ∈ news₂, p ∈ all) ∧ (∀ p ∈ news₂, p.1 ∉ wr) ∧ J (i + 1) m₂ news₂) →
      LoopStepU h₀ env.locals wr own (J (i + 1)) { s with heap := hh', toks := tk' } .next s₂ := by
    rintro ⟨h', tk, m', news', all, e, F', N', ho, hn, ha, hm⟩
    refine ⟨rfl, h', tk, m', news', e, F', fun p hp => ?_, ha, hm⟩
    rcases List.mem_append.mp hp with hp | hp
    · exact N' p (ho p hp)
    · exact N' p (hn p hp)
  cases f with
  | ret v => exact .ret p
  | brk => exact .brk p
  | next => exact .next (fin p)
  | cont => exact .cont (fin p)
theorem upd_self (l : List (Str × Option Value)) (m : Str → Option Value) (h : ∀ x ∈ l, x.2 = m x.1) : upd l m = m := by
  funext y
  unfold upd
  cases e : l.lookup y with
  | none => rfl
  | some v =>
    have : ∀ (l : List (Str × Option Value)), l.lookup y = some v → (y, v) ∈ l := by
      intro l
      induction l with
      | nil => intro h; cases h
      | cons p l ih =>
        intro h
        obtain ⟨x, u⟩ := p
        rw [List.lookup_cons] at h
        cases q : y == x with
        | true => rw [q] at h; cases h; rw [eq_of_beq q]; exact .head _
        | false => rw [q] at h; exact .tail _ (ih h)
    exact h _ (this l e)
theorem walk_loopU {prog : Program} {w : World} {A : Around} {E : Value → Shared → Prop} {s : Shared} {env : Env} {h₀ : Heap} {x : Str} {body : List Stmt} {Q : Flow → Shared → Prop}
    {I : Addr} {fp wr : List Addr} {n : Nat} {P : Nat → Value → Prop} {St : Nat → Heap → Prop} {m₀ : Str → Option Value} {news : List (Addr × Obj)} (J : Nat → List (Str × Option Value) → List (Addr × Obj) → Prop)
    (W : Walks prog w A I fp wr n P St) (hLf : env.locals ∉ fp) (hwr : ∀ b ∈ wr, h₀.get? b = none) (hnw : ∀ p ∈ news, p.1 ∉ wr) (hst : St 0 s.heap) (F : Fr h₀ env.locals s.heap m₀) (N : News h₀ env.locals s.heap news)
    (ks : List Str) (hj : J 0 (ks.map fun k => (k, m₀ k)) news)
    (turn : ∀ i v l news₁ h tk own, i < n → P i v → J i l news₁ → (∀ p ∈ own, p.1 ∈ fp) → (∀ p ∈ news₁, p.1 ∉ wr) → Fr h₀ env.locals h (fun y => if y = x then some v else upd l m₀ y) → News h₀ env.locals h (news₁ ++ own) →
      wpAny (model prog w) A (execs body env) (TurnEnd h₀ env.locals wr own (fun m₂ news₂ => ∃ l', m₂ = upd l' m₀ ∧ J (i + 1) l' news₂) { s with heap := h, toks := tk } Q) E { s with heap := h, toks := tk })
    (done : ∀ l news' h' tk, J n l news' → Fr h₀ env.locals h' (upd l m₀) → News h₀ env.locals h' news' → Q .next { s with heap := h', toks := tk }) :
    LoopAtV prog w A h₀ env x body Q E (.ref I) s := by
  refine walk_loop (fun i m₁ news₁ => ∃ l', m₁ = upd l' m₀ ∧ J i l' news₁) W hLf hwr hnw hst F N ⟨_, (upd_self _ m₀ (fun x hx => by obtain ⟨k, _, rfl⟩ := List.mem_map.mp hx; rfl)).symm, hj⟩ ?_ ?_
  · rintro i v m₁ news₁ h tk own hi hP ⟨l, rfl, hJ⟩ ho hn F' N'
    exact turn i v l news₁ h tk own hi hP hJ ho hn F' N'
  · rintro m' news' h' tk ⟨l, rfl, hJ⟩ F' N'
    exact done l news' h' tk hJ F' N'
end Mine
end
section
open PySem PySem.W PyProof.Rows PySem.Calls
set_option maxRecDepth 100000
set_option maxHeartbeats 8000000
set_option linter.unusedVariables false
set_option linter.unusedSimpArgs false
namespace Mine
theorem fill_F6a : ∀ (w : World) (h : Heap), (hd.heap_1 w.params).In h → PySem.Challenge.rw_qu0050_01.foot = 8 := by
  k_fill; intros; rfl
section
local macro_rules | `(tactic| walk_at "go") => `(tactic| first | (k_unfold; (try dsimp only)) | walk1 | (dsimp only; walk1))
local macro_rules | `(tactic| walk_at "eval Name") => `(tactic| (k_dflt (first
  | (refine' nameX_L ?F ?v ?_ ?a ?b; (case b => rfl); (case a => rfl); (case F => k_asm); (case v => rfl); k_whole)
  | (refine' nameX_F ?N ?c ?m ?d ?_ ?a ?b; (case b => rfl); (case a => rfl); (case N => k_asm); (case c => rfl); (case m => k_mem); (case d => k_asm); k_whole)
  | (refine' nameX_C ?N ?c ?m ?d ?_ ?a ?b; (case b => rfl); (case a => rfl); (case N => k_asm); (case c => rfl); (case m => k_mem); (case d => k_asm); k_whole)
  | (refine' nameX_K ?F ?X ?T ?e ?_ ?a ?b; (case b => rfl); (case a => rfl); (case F => k_asm); (case X => k_asm); (case T => k_asm); (case e => k_is); k_whole))))
local macro_rules | `(tactic| walk_at "binaryOp RShift int int") => `(tactic| (refine rshift_int (by first | omega | assumption) ?_))
local macro_rules | `(tactic| walk_at "binaryOp LShift int int") => `(tactic| (refine lshift_int (by first | omega | assumption) (by first | assumption) ?_))
local macro_rules | `(tactic| walk_at "binaryOp Mult int int") => `(tactic| (refine PyProof.Rows.mul_int (hm := by first | exact IntMulOk.of_right (intBits_le_iff.mpr (by omega)) | exact IntMulOk.of_left (intBits_le_iff.mpr (by omega)) | assumption) ?_))
local macro_rules | `(tactic| walk_at "setItem ref int int") => `(tactic| (refine ksa_set (by k_asm) (by k_asm) (by k_upd) (by assumption) (by omega) (by omega) (by omega) ?_; intro h' F' N'; (try k_sweep)))
local macro_rules | `(tactic| walk_at "binaryOp Mult ref int") => `(tactic| (refine mul_rep (by k_asm) (by k_asm) (by k_mem) (by omega) (by omega) ?_; intro D' h' F' N' l1; (try k_lt l1); (try k_sweep)))
local macro_rules | `(tactic| walk_at "call builtin:len") => `(tactic| (refine len_led (by k_asm) (by k_mem) (by first | omega | (simp only [List.size_toArray, List.length_replicate]; omega) | (simp only [List.size_toArray]; omega)) ?_; intro t' tk'))
/-- the number that figures tell, the highest first -/
noncomputable def hv (n : Nat) (ds : List Nat) : Nat := ds.foldl (fun acc d => acc * 2 ^ n + d) 0
theorem hv_snoc (n : Nat) (ds : List Nat) (d : Nat) : hv n (ds ++ [d]) = hv n ds * 2 ^ n + d := by simp [hv]
theorem und_rev (n : Nat) (ds : List Nat) : und n ds.reverse = hv n ds := by
  have gen : ∀ (ds : List Nat) (acc : Nat), ds.foldl (fun acc d => acc * 2 ^ n + d) acc = und n ds.reverse + 2 ^ (n * ds.length) * acc := by
    intro ds
    induction ds with
    | nil => intro acc; simp [und]
    | cons d ds ih =>
      intro acc
      rw [List.foldl_cons, ih, List.reverse_cons, und_append, und, und, List.length_reverse, List.length_cons, Nat.mul_add n, Nat.mul_one, Nat.pow_add]
      rw [Nat.mul_add, Nat.mul_add]
      have : 2 ^ (n * ds.length) * (acc * 2 ^ n) = 2 ^ (n * ds.length) * 2 ^ n * acc := by rw [Nat.mul_comm acc, Nat.mul_assoc]
      omega
  have := gen ds 0
  simp at this
  exact this.symm
theorem hv_step {n v b d : Nat} (hb : 0 < b) (hd : d < 2 ^ n) : (v * 2 ^ n + d) / b = (v / b) * 2 ^ n + ((v % b) * 2 ^ n + d) / b ∧ (v * 2 ^ n + d) % b = ((v % b) * 2 ^ n + d) % b ∧ ((v % b) * 2 ^ n + d) / b < 2 ^ n := by
  have e : v * 2 ^ n + d = b * ((v / b) * 2 ^ n) + ((v % b) * 2 ^ n + d) := by
    conv => lhs; rw [← Nat.div_add_mod v b]
    rw [Nat.add_mul, Nat.mul_assoc]; omega
  refine ⟨?_, ?_, ?_⟩
  · rw [e, Nat.mul_add_div hb]
  · rw [e, Nat.mul_add_mod]
  · apply Nat.div_lt_of_lt_mul
    have h1 : v % b + 1 ≤ b := Nat.mod_lt v hb
    have h2 : (v % b + 1) * 2 ^ n ≤ b * 2 ^ n := Nat.mul_le_mul_right _ h1
    rw [Nat.add_mul, Nat.one_mul] at h2
    omega
noncomputable def dn (n k X : Nat) : List Nat := (List.range k).map fun j => X / 2 ^ (n * j) % 2 ^ n
theorem digs_dn (n k X : Nat) : digs n k X = (dn n k X).map Int.ofNat := by simp [digs, dn, List.map_map]
theorem dn_length (n k X : Nat) : (dn n k X).length = k := by simp [dn]
theorem dn_lt (n k X : Nat) : ∀ x ∈ dn n k X, x < 2 ^ n := by
  intro x hx
  obtain ⟨j, _, rfl⟩ := List.mem_map.mp hx
  exact Nat.mod_lt _ (Nat.two_pow_pos _)
theorem und_dn (n k X : Nat) (h : X < 2 ^ (n * k)) : und n (dn n k X) = X := by
  have := und_digs n k X h
  rw [digs_dn, List.map_map] at this
  have e : (dn n k X).map (Int.toNat ∘ Int.ofNat) = dn n k X := by
    conv => rhs; rw [← List.map_id (dn n k X)]
    apply List.map_congr_left; intro a _; rfl
  rw [e] at this; exact this

noncomputable def isCode (o : Obj) : Prop := ∃ vs q t, o.data = .fields vs ∧ vs[1]? = some (.str q t)
noncomputable def TabF (g' : Heap) (ex : List (Addr × Obj)) (P : Nat) (ps : Array Value) (line col : Nat) (q : Str) : Prop :=
  ps = #[] ∨ ∃ c oc vs t, ps = #[rawInt line, rawInt col, .ref c] ∧ (g'.get? c = some oc ∨ (c, oc) ∈ ex) ∧ oc.data = .fields vs ∧ vs[1]? = some (.str q t) ∧ @Ne Nat c P
theorem TabF.tabS {g g' h : Heap} {L P line col : Nat} {m : Str → Option Value} {q : Str} {ex news : List (Addr × Obj)} {ps : Array Value} (x : TabF g' ex P ps line col q) (F : Fr g' L h m) (N : News g' L h news) (hP : (P, tabObj ps) ∈ news) (hex : ∀ p ∈ ex, p ∈ news) (hg : g.get? P = none) : TabS g h P line col q := by
  refine ⟨hg, ps, N.get hP, ?_⟩
  rcases x with rfl | ⟨c, oc, vs, t, e, h1, r⟩
  · exact .inl rfl
  · refine .inr ⟨c, oc, vs, t, e, ?_, r⟩
    rcases h1 with h1 | h1
    · exact F.keep _ _ h1
    · exact N.get (hex _ h1)
theorem TabF.entry {g g' h : Heap} {P line col : Nat} {q : Str} {l : List Addr} (x : TabS g h P line col q) (hbut : But l h g') (hl : ∀ a ∈ l, ∃ o, h.get? a = some o ∧ ¬ isCode o) : ∃ ps, h.get? P = some (tabObj ps) ∧ TabF g' [] P ps line col q := by
  obtain ⟨_, ps, h2, h3⟩ := x
  refine ⟨ps, h2, ?_⟩
  rcases h3 with h3 | ⟨c, oc, vs, t, e1, e2, e3, e4, r⟩
  · exact .inl h3
  · refine .inr ⟨c, oc, vs, t, e1, .inl (hbut c oc (fun hc => ?_) e2), e3, e4, r⟩
    obtain ⟨o, ho, hn⟩ := hl c hc
    rw [e2] at ho; cases ho
    exact hn ⟨_, _, _, e3, e4⟩
theorem tab_not_code {g h : Heap} {P line col : Nat} {q : Str} (x : TabS g h P line col q) : ∃ ps, h.get? P = some (tabObj ps) ∧ ¬ isCode (tabObj ps) := by
  obtain ⟨_, ps, h2, h3⟩ := x
  refine ⟨ps, h2, ?_⟩
  rintro ⟨vs, q', t, e1, e2⟩
  rcases h3 with rfl | ⟨c, oc, vs', t', rfl, _⟩
  · cases e1; cases e2
  · cases e1; simp [rawInt] at e2
theorem tab_after {g' h' : Heap} {L P line col : Nat} {m : Str → Option Value} {q : Str} (F : Fr g' L h' m) {g : Heap} (x : TabS g h' P line col q) : ∃ ps ex, h'.get? P = some (tabObj ps) ∧ TabF g' ex P ps line col q ∧ ∀ p ∈ ex, (h'.get? p.1 = some p.2 ∧ p.1 ≠ L ∧ g'.get? p.1 = none) ∧ isCode p.2 := by
  obtain ⟨_, ps, h2, h3⟩ := x
  rcases h3 with rfl | ⟨c, oc, vs, t, rfl, e2, e3, e4, e5⟩
  · exact ⟨_, [], h2, .inl rfl, fun _ h => nomatch h⟩
  · cases hc : g'.get? c with
    | some o =>
      have := F.keep _ _ hc
      rw [e2] at this; cases this
      exact ⟨_, [], h2, .inr ⟨c, oc, vs, t, rfl, .inl hc, e3, e4, e5⟩, fun _ h => nomatch h⟩
    | none =>
      refine ⟨_, [(c, oc)], h2, .inr ⟨c, oc, vs, t, rfl, .inr (.head _), e3, e4, e5⟩, fun p hp => ?_⟩
      cases List.mem_singleton.mp hp
      refine ⟨⟨e2, fun q => ?_, hc⟩, _, _, _, e3, e4⟩
      obtain ⟨o, es, ep, ho, hd, _⟩ := F.ns
      rw [← q, e2] at ho; cases ho
      rw [e3] at hd; cases hd
theorem code_ne {h : Heap} {c d : Addr} {oc o : Obj} (h1 : h.get? c = some oc) (h2 : isCode oc) (h3 : h.get? d = some o) (h4 : ¬ isCode o) : @Ne Nat c d := fun q => by
  rw [q, h3] at h1; cases h1; exact h4 h2
theorem ex_ne {h : Heap} {ex : List (Addr × Obj)} {d : Addr} {o : Obj} (hex : ∀ p ∈ ex, h.get? p.1 = some p.2 ∧ isCode p.2) (h3 : h.get? d = some o) (h4 : ¬ isCode o) : ∀ p ∈ ex, p.1 ≠ d := fun p hp => code_ne (hex p hp).1 (hex p hp).2 h3 h4
theorem not_code_seq {o : Obj} {its : Array Value} {n : Nat} (h : o.data = .seq its n) : ¬ isCode o := by rintro ⟨vs, q, t, e, _⟩; rw [h] at e; cases e
theorem not_code_tab {ps : Array Value} {g' : Heap} {ex : List (Addr × Obj)} {P line col : Nat} {q : Str} (x : TabF g' ex P ps line col q) : ¬ isCode (tabObj ps) := by
  rintro ⟨vs, q', t, e1, e2⟩
  rcases x with rfl | ⟨c, oc, vs', t', rfl, _⟩
  · cases e1; cases e2
  · cases e1; simp [rawInt] at e2
/-- the call of _int2digits, seen from a frame -/
theorem int2_use {w : World} {loose : List Str} {mean : ExcName → Option Value} {mg mb : Str → Option Value} {prog : Program} {A : Around} {s : Shared} {Q E : Value → Shared → Prop} {h₀ : Heap} {L : Addr} {m : Str → Option Value} {news ex₀ : List (Addr × Obj)} {gg : Obj → List (Addr × Obj)} {ps : Array Value}
   (G : Gd w loose mean mg mb h₀) (F : Fr h₀ L s.heap m) (N : News h₀ L s.heap news) (U : UpdF 30 (tabObj ps) news gg) (TF : TabF h₀ ex₀ 30 ps 32 4 q1) (hex₀ : ∀ p ∈ ex₀, p ∈ news) (hA : A.depth ≤ 600) {X n : Nat} {ta tn : Tok} (hn : 0 < n) (hn2 : n < 1000) (hbits : Builtin.Int.intBits (X : Int) < 200)
   (post : ∀ h' tk r vs ps' ex, Fr h₀ L h' m → News h₀ L h' ((r, listOf vs.toArray 0) :: gg (tabObj ps') ++ ex) → TabF h₀ ex 30 ps' 32 4 q1 → (∀ p ∈ ex, h'.get? p.1 = some p.2 ∧ isCode p.2) → (∀ p ∈ news, @Ne Nat p.1 r) → IntsAre vs (digs n (nd n X) X) → Q (.ref r) { s with heap := h', toks := tk }) :
   wpAny (model prog w) A (call (.ref 35) [.int (X : Int) ta, .int (n : Int) tn]) Q E s := by
  obtain ⟨pre, suf, e, _, _, _⟩ := U.split
  have hP : (30, tabObj ps) ∈ news := by rw [e]; simp
  refine int2_spec G F.keep hA hn hn2 hbits (TF.tabS F N hP hex₀ (N.fresh hP)) ?_
  intro h' tk r vs hb tab hr hr' hI
  obtain ⟨ps', ex, h30, TF', hex⟩ := tab_after (F := after_fr [30] F N hb (fun a ha => by rw [List.mem_singleton.mp ha]; exact (N _ hP).2)) tab
  obtain ⟨F', N'⟩ := adapt F N U hb h30
  refine post h' tk r vs ps' ex F' (fun p hp => ?_) TF' (fun p hp => ⟨(hex p hp).1.1, (hex p hp).2⟩) (fun p hp q => ?_) hI
  · rcases List.mem_append.mp hp with hp | hp
    · rcases List.mem_cons.mp hp with rfl | hp
      · exact ⟨hr', fr_ne F hr, (show Sub h₀ s.heap from F.keep).none hr⟩
      · exact N' p hp
    · exact (hex p hp).1
  · have := (N p hp).1
    rw [q, hr] at this; cases this
/-- the call of _digits2int, seen from a frame -/
theorem digits2int_use {w : World} {loose : List Str} {mean : ExcName → Option Value} {mg mb : Str → Option Value} {prog : Program} {A : Around} {s : Shared} {Q E : Value → Shared → Prop} {h₀ : Heap} {L : Addr} {m : Str → Option Value} {news ex₀ : List (Addr × Obj)} {gg : Obj → List (Addr × Obj)} {ps : Array Value}
   (G : Gd w loose mean mg mb h₀) (F : Fr h₀ L s.heap m) (N : News h₀ L s.heap news) (U : UpdF 37 (tabObj ps) news gg) (TF : TabF h₀ ex₀ 37 ps 47 4 q2) (hex₀ : ∀ p ∈ ex₀, p ∈ news) (hA : A.depth ≤ 600) {D : Addr} {n : Nat} {tn : Tok} {vs : List Value} {ns : List Nat} {ep : Nat} (hn : 0 < n) (hn2 : n < 1000) (hl : ns.length < 200)
   (hX : ∀ x ∈ ns, x < 2 ^ n) (hD : (D, listOf vs.toArray ep) ∈ news) (hI : IntsAre vs (ns.map Int.ofNat))
   (post : ∀ h' tk t ps' ex, Fr h₀ L h' m → News h₀ L h' (gg (tabObj ps') ++ ex) → TabF h₀ ex 37 ps' 47 4 q2 → (∀ p ∈ ex, h'.get? p.1 = some p.2 ∧ isCode p.2) → Q (.int (und n ns : Nat) t) { s with heap := h', toks := tk }) :
   wpAny (model prog w) A (call (.ref 42) [.ref D, .int (n : Int) tn]) Q E s := by
  obtain ⟨pre, suf, e, _, _, _⟩ := U.split
  have hP : (37, tabObj ps) ∈ news := by rw [e]; simp
  refine digits2int_spec G F.keep hA hn hn2 hl hX (N.get hD) (N.fresh hD) hI (TF.tabS F N hP hex₀ (N.fresh hP)) ?_
  intro h' tk t hb tab
  obtain ⟨ps', ex, h37, TF', hex⟩ := tab_after (F := after_fr [37] F N hb (fun a ha => by rw [List.mem_singleton.mp ha]; exact (N _ hP).2)) tab
  obtain ⟨F', N'⟩ := adapt F N U hb h37
  refine post h' tk t ps' ex F' (fun p hp => ?_) TF' (fun p hp => ⟨(hex p hp).1.1, (hex p hp).2⟩)
  rcases List.mem_append.mp hp with hp | hp
  · exact N' p hp
  · exact (hex p hp).1
end
end Mine
end
section
open PySem PySem.W PyProof.Rows PySem.Calls Mine
local macro_rules | `(tactic| walk_at "go") => `(tactic| first | (k_unfold; (try dsimp only)) | walk1 | (dsimp only; walk1))
local macro_rules | `(tactic| walk_at "eval Name") => `(tactic| (k_dflt (first
  | (refine' nameX_L ?F ?v ?_ ?a ?b; (case b => rfl); (case a => rfl); (case F => k_asm); (case v => rfl); k_whole)
  | (refine' nameX_F ?N ?c ?m ?d ?_ ?a ?b; (case b => rfl); (case a => rfl); (case N => k_asm); (case c => rfl); (case m => k_mem); (case d => k_asm); k_whole)
  | (refine' nameX_C ?N ?c ?m ?d ?_ ?a ?b; (case b => rfl); (case a => rfl); (case N => k_asm); (case c => rfl); (case m => k_mem); (case d => k_asm); k_whole)
  | (refine' nameX_K ?F ?X ?T ?e ?_ ?a ?b; (case b => rfl); (case a => rfl); (case F => k_asm); (case X => k_asm); (case T => k_asm); (case e => k_is); k_whole))))
local macro_rules | `(tactic| walk_at "binaryOp RShift int int") => `(tactic| (refine rshift_int (by first | omega | assumption) ?_))
local macro_rules | `(tactic| walk_at "binaryOp LShift int int") => `(tactic| (refine lshift_int (by first | omega | assumption) (by first | assumption) ?_))
local macro_rules | `(tactic| walk_at "binaryOp Mult int int") => `(tactic| (refine PyProof.Rows.mul_int (hm := by first | exact IntMulOk.of_right (intBits_le_iff.mpr (by omega)) | exact IntMulOk.of_left (intBits_le_iff.mpr (by omega)) | assumption) ?_))
local macro_rules | `(tactic| walk_at "setItem ref int int") => `(tactic| (refine ksa_set (by k_asm) (by k_asm) (by k_upd) (by assumption) (by omega) (by omega) (by omega) ?_; intro h' F' N'; (try k_sweep)))
local macro_rules | `(tactic| walk_at "binaryOp Mult ref int") => `(tactic| (refine mul_rep (by k_asm) (by k_asm) (by k_mem) (by omega) (by omega) ?_; intro D' h' F' N' l1; (try k_lt l1); (try k_sweep)))
local macro_rules | `(tactic| walk_at "call builtin:len") => `(tactic| (refine len_led (by k_asm) (by k_mem) (by first | omega | (simp only [List.size_toArray, List.length_replicate]; omega) | (simp only [List.size_toArray]; omega)) ?_; intro t' tk'))
local macro_rules | `(tactic| k_all) => `(tactic| with_reducible assumption)
local macro_rules | `(tactic| walk_at "assign Tuple") => `(tactic| ((with_reducible show wpAny _ _ (assign (Expr.Tuple _ _ _) _ (Value.ref _)) _ _ _); k_dflt (refine' unpackN_ ?F ?N ?T ?k1 ?k2 ?k3 ?_; (case F => k_asm); (case N => k_asm); (case T => exact News.isTup (by k_asm) (by k_mem)); (case k1 => first | exact rfl | assumption); (case k2 => exact rfl); (case k3 => exact rfl); k_whole); intro h' F' N'; (try k_sweep)))
local macro_rules | `(tactic| walk_at "binaryOp Pow int int") => `(tactic| (refine PyProof.Rows.pow_int_small (by omega) (by omega) (by omega) ?_))
section
open PySem PySem.W PyProof.Rows PySem.Calls
set_option maxRecDepth 100000
set_option maxHeartbeats 8000000
set_option linter.unusedVariables false
set_option linter.unusedSimpArgs false
namespace Mine
theorem fill_F6x : ∀ (w : World) (h : Heap), (hd.heap_1 w.params).In h → PySem.Challenge.rw_qu0050_01.foot = 8 := by
  k_fill; intros; rfl
section
theorem after_pure {h₀ h h' : Heap} {L r : Addr} {o : Obj} {m : Str → Option Value} {news : List (Addr × Obj)} (F : Fr h₀ L h m) (N : News h₀ L h news) (hs : Sub h h') (hr : h.get? r = none) (hr' : h'.get? r = some o) :
    Fr h₀ L h' m ∧ News h₀ L h' ((r, o) :: news) ∧ ∀ p ∈ news, @Ne Nat p.1 r :=
  ⟨after_fr [] F N (hs.but _) (fun _ h => nomatch h), news_cons (after_news [] N (hs.but _) fun _ _ => List.not_mem_nil) hr' (fr_ne F hr) ((show Sub h₀ h from F.keep).none hr), fun p hp q => by
    have := (N p hp).1
    rw [q, hr] at this; cases this⟩
noncomputable abbrev tupO (vs : Array Value) : Obj := { cls := .type "tuple", data := .seq vs }
theorem div2n1n_spec {w : World} {loose : List Str} {mean : ExcName → Option Value} {mg mb : Str → Option Value} {g : Heap} {prog : Program} {A : Around} {s : Shared} {Q E : Value → Shared → Prop} (G : Gd w loose mean mg mb g) (hg : Sub g s.heap) (hA : A.depth ≤ 900) {a b n : Int} {ta tb tn : Tok} (hb : 0 < b) (hb2 : b < 1000000)
   (hbits : (Builtin.Int.intBits a : Int) - n ≤ 4000)
   (post : ∀ h' tk r t1 t2, Sub s.heap h' → s.heap.get? r = none → h'.get? r = some (tupO #[.int (a.fdiv b) t1, .int (a.fmod b) t2]) → Q (.ref r) { s with heap := h', toks := tk }) :
   wpAny (model prog w) A (call (.ref 21) [.int a ta, .int b tb, .int n tn]) Q E s := by
  refine call_top [] G hg (fun _ h => nomatch h) (by k_is) (by k_is) rfl (locs rfl) (Nat.lt_of_le_of_lt hA (by decide)) ?_
  intro g' L h₁ tk G' hbut hnone hL F N _
  have X := G'.X
  have T := G'.T
  repeat walk_at "go"
  rename_i F' N'
  exact post _ _ _ _ _ (fun b o e => F'.keep b o (hbut b o List.not_mem_nil e)) (hbut.fresh List.not_mem_nil (N'.fresh (List.Mem.head _))) (N'.get (List.Mem.head _))
theorem div2n1n_use {w : World} {loose : List Str} {mean : ExcName → Option Value} {mg mb : Str → Option Value} {prog : Program} {A : Around} {s : Shared} {Q E : Value → Shared → Prop} {h₀ : Heap} {L : Addr} {m : Str → Option Value} {news : List (Addr × Obj)}
   (G : Gd w loose mean mg mb h₀) (F : Fr h₀ L s.heap m) (N : News h₀ L s.heap news) (hA : A.depth ≤ 900) {a b n : Int} {ta tb tn : Tok} (hb : 0 < b) (hb2 : b < 1000000)
   (hbits : (Builtin.Int.intBits a : Int) - n ≤ 4000)
   (post : ∀ h' tk r t1 t2, Fr h₀ L h' m → News h₀ L h' ((r, tupO #[.int (a.fdiv b) t1, .int (a.fmod b) t2]) :: news) → (∀ p ∈ news, @Ne Nat p.1 r) → Q (.ref r) { s with heap := h', toks := tk }) :
   wpAny (model prog w) A (call (.ref 21) [.int a ta, .int b tb, .int n tn]) Q E s := by
  refine div2n1n_spec G F.keep hA hb hb2 hbits ?_
  intro h' tk r t1 t2 hs hr hr'
  obtain ⟨F', N', hne⟩ := after_pure F N hs hr hr'
  exact post h' tk r t1 t2 F' N' hne
theorem allLt_mem {d : Nat} : ∀ {l : List (Addr × Obj)}, AllLt d l → ∀ p ∈ l, @LT.lt Nat _ p.1 d
  | [], _, _, hp => nomatch hp
  | q :: l, h, p, hp => (List.mem_cons.mp hp).elim (fun e => by rw [e]; exact h.1) fun e => allLt_mem h.2 p e
namespace F6c
noncomputable def P0 (w : World) (loose : List Str) (mean : ExcName → Option Value) (mg : Str → Option Value) (mb : Str → Option Value) (g : Heap) (prog : Program) (dep : Nat) (fra : Option (List Env)) (gua : Option (List Code)) (uni : Nat) (hp0 : Heap) (gn : Array GenState) (dr : Drawn) (tk0 : Nat) (os0 : OsState) (Q : Value → Shared → Prop) (E : Value → Shared → Prop) (X : Nat) (b : Nat) (ta : Tok) (tb : Tok) : Prop :=
  ∀ (G : Gd w loose mean mg mb g) (hg : Sub g hp0) (hA : dep ≤ 550) (hb : 0 < b) (hb2 : b < 1000) (hbits : Builtin.Int.intBits (X : Int) < 150) (tab1 : TabS g hp0 30 32 4 q1) (tab2 : TabS g hp0 37 47 4 q2) (post : ∀ h' tk r t1 t2, But [30, 37] hp0 h' → TabS g h' 30 32 4 q1 → TabS g h' 37 47 4 q2 → hp0.get? r = none → h'.get? r = some (tupO #[.int (X / b : Nat) t1, .int (X % b : Nat) t2]) → Q (.ref r) ⟨h', gn, dr, tk, os0⟩),
   wpAny (model prog w) ⟨none, dep, fra, gua, uni⟩ (call (.ref 49) [.int (X : Int) ta, .int (b : Int) tb]) Q E ⟨hp0, gn, dr, tk0, os0⟩
noncomputable abbrev Par : Type := (World) × (List Str) × (ExcName → Option Value) × (Str → Option Value) × (Str → Option Value) × (Heap) × (Program) × (Nat) × (Option (List Env)) × (Option (List Code)) × (Nat) × (Heap) × (Array GenState) × (Drawn) × (Nat) × (OsState) × (Value → Shared → Prop) × (Value → Shared → Prop) × (Nat) × (Nat) × (Tok) × (Tok)
noncomputable def P1 (p : Par) : Prop := P0 p.1 p.2.1 p.2.2.1 p.2.2.2.1 p.2.2.2.2.1 p.2.2.2.2.2.1 p.2.2.2.2.2.2.1 p.2.2.2.2.2.2.2.1 p.2.2.2.2.2.2.2.2.1 p.2.2.2.2.2.2.2.2.2.1 p.2.2.2.2.2.2.2.2.2.2.1 p.2.2.2.2.2.2.2.2.2.2.2.1 p.2.2.2.2.2.2.2.2.2.2.2.2.1 p.2.2.2.2.2.2.2.2.2.2.2.2.2.1 p.2.2.2.2.2.2.2.2.2.2.2.2.2.2.1 p.2.2.2.2.2.2.2.2.2.2.2.2.2.2.2.1 p.2.2.2.2.2.2.2.2.2.2.2.2.2.2.2.2.1 p.2.2.2.2.2.2.2.2.2.2.2.2.2.2.2.2.2.1 p.2.2.2.2.2.2.2.2.2.2.2.2.2.2.2.2.2.2.1 p.2.2.2.2.2.2.2.2.2.2.2.2.2.2.2.2.2.2.2.1 p.2.2.2.2.2.2.2.2.2.2.2.2.2.2.2.2.2.2.2.2.1 p.2.2.2.2.2.2.2.2.2.2.2.2.2.2.2.2.2.2.2.2.2
theorem some_par : Nonempty Par := ⟨⟨aWorld 1, [], fun _ => none, fun _ => none, fun _ => none, default, default, 0, none, none, 0, default, #[], (start (default : Program)).1.drawn, 0, (start (default : Program)).1.os, fun _ _ => True, fun _ _ => True, 0, 0, 0, 0⟩⟩
@[irreducible] noncomputable def cc : Par := @Classical.epsilon Par some_par fun p => ¬ P1 p
@[irreducible] noncomputable def w : World := by with_unfolding_all exact cc.1
@[irreducible] noncomputable def loose : List Str := by with_unfolding_all exact cc.2.1
@[irreducible] noncomputable def mean : ExcName → Option Value := by with_unfolding_all exact cc.2.2.1
@[irreducible] noncomputable def mg : Str → Option Value := by with_unfolding_all exact cc.2.2.2.1
@[irreducible] noncomputable def mb : Str → Option Value := by with_unfolding_all exact cc.2.2.2.2.1
@[irreducible] noncomputable def g : Heap := by with_unfolding_all exact cc.2.2.2.2.2.1
@[irreducible] noncomputable def prog : Program := by with_unfolding_all exact cc.2.2.2.2.2.2.1
@[irreducible] noncomputable def dep : Nat := by with_unfolding_all exact cc.2.2.2.2.2.2.2.1
@[irreducible] noncomputable def fra : Option (List Env) := by with_unfolding_all exact cc.2.2.2.2.2.2.2.2.1
@[irreducible] noncomputable def gua : Option (List Code) := by with_unfolding_all exact cc.2.2.2.2.2.2.2.2.2.1
@[irreducible] noncomputable def uni : Nat := by with_unfolding_all exact cc.2.2.2.2.2.2.2.2.2.2.1
@[irreducible] noncomputable def hp0 : Heap := by with_unfolding_all exact cc.2.2.2.2.2.2.2.2.2.2.2.1
@[irreducible] noncomputable def gn : Array GenState := by with_unfolding_all exact cc.2.2.2.2.2.2.2.2.2.2.2.2.1
@[irreducible] noncomputable def dr : Drawn := by with_unfolding_all exact cc.2.2.2.2.2.2.2.2.2.2.2.2.2.1
@[irreducible] noncomputable def tk0 : Nat := by with_unfolding_all exact cc.2.2.2.2.2.2.2.2.2.2.2.2.2.2.1
@[irreducible] noncomputable def os0 : OsState := by with_unfolding_all exact cc.2.2.2.2.2.2.2.2.2.2.2.2.2.2.2.1
@[irreducible] noncomputable def Q : Value → Shared → Prop := by with_unfolding_all exact cc.2.2.2.2.2.2.2.2.2.2.2.2.2.2.2.2.1
@[irreducible] noncomputable def E : Value → Shared → Prop := by with_unfolding_all exact cc.2.2.2.2.2.2.2.2.2.2.2.2.2.2.2.2.2.1
@[irreducible] noncomputable def X : Nat := by with_unfolding_all exact cc.2.2.2.2.2.2.2.2.2.2.2.2.2.2.2.2.2.2.1
@[irreducible] noncomputable def b : Nat := by with_unfolding_all exact cc.2.2.2.2.2.2.2.2.2.2.2.2.2.2.2.2.2.2.2.1
@[irreducible] noncomputable def ta : Tok := by with_unfolding_all exact cc.2.2.2.2.2.2.2.2.2.2.2.2.2.2.2.2.2.2.2.2.1
@[irreducible] noncomputable def tb : Tok := by with_unfolding_all exact cc.2.2.2.2.2.2.2.2.2.2.2.2.2.2.2.2.2.2.2.2.2
@[irreducible] noncomputable def g' : Heap := hideAll hp0 [30, 37]
@[irreducible] noncomputable def L : Addr := hp0.objs.size
theorem core : P0 w loose mean mg mb g prog dep fra gua uni hp0 gn dr tk0 os0 Q E X b ta tb := by
  unfold P0
  intro G hg hA hb hb2 hbits tab1 tab2 post
  have g30 := tab1.1
  have g37 := tab2.1
  obtain ⟨ps1, h30, nc1⟩ := tab_not_code tab1
  obtain ⟨ps2, h37, nc2⟩ := tab_not_code tab2
  have hL : L = hp0.objs.size := by unfold L; rfl
  refine call_topE [(30, tabObj ps1), (37, tabObj ps2)] (g' := g') (L := L) (by unfold g'; rfl) hL G hg (fun p hp => by simp only [List.mem_cons, List.not_mem_nil, or_false] at hp; rcases hp with rfl | rfl; exact ⟨h30, g30⟩; exact ⟨h37, g37⟩) (by k_is) (by k_is) rfl (locs rfl) (by show dep < 1000; omega) ?_
  intro h₁ tk G' hbut hnone F N l1
  simp only [List.map_cons, List.map_nil] at hbut
  k_lt l1
  have hl : ∀ a ∈ [30, 37], ∃ o, hp0.get? a = some o ∧ ¬ isCode o := by
    intro a ha
    simp only [List.mem_cons, List.not_mem_nil, or_false] at ha
    rcases ha with rfl | rfl
    · exact ⟨_, h30, nc1⟩
    · exact ⟨_, h37, nc2⟩
  obtain ⟨ps1', e1, TF1⟩ := TabF.entry tab1 hbut hl
  obtain ⟨ps2', e2, TF2⟩ := TabF.entry tab2 hbut hl
  rw [h30] at e1; cases e1
  rw [h37] at e2; cases e2
  have XX := G'.X
  have T := G'.T
  have C2 := G'.c2
  have hnb : Builtin.Int.intBits (b : Int) ≤ 10 := intBits_le_iff.mpr (by rw [Int.natAbs_natCast]; omega)
  have hnp : 0 < Builtin.Int.intBits (b : Int) := by
    unfold Builtin.Int.intBits
    rw [if_neg (by simp; omega)]; omega
  repeat walk_at "go"
  with_reducible rename Fr _ _ _ _ => F9
  with_reducible rename News _ _ _ _ => N9
  refine' int2_use G' F9 N9 ?u TF1 (fun _ h => nomatch h) (by show dep + 1 ≤ 600; omega) (n := Builtin.Int.intBits (b : Int)) hnp (by omega) (by omega) ?_
  case u => k_updF
  intro h2 tk2 r1 vs1 ps3 ex1 F2 N2 TF3 hex1 hne1 hI1
  clear F9 N9
  dsimp only [List.cons_append, List.nil_append] at F2 N2 ⊢
  simp only [List.forall_mem_cons, List.not_mem_nil, false_imp_iff, implies_true, and_true] at hne1
  repeat walk_at "go"
  rename_i lq _ hlq _ D hH FD ND hlD
  generalize hn : Builtin.Int.intBits (b : Int) = n at *
  refine wpAny_pyIter_revIter (it := D) ⟨_, ND.get (.head _), rfl, rfl⟩ ?_
  have hvl := hI1.length
  rw [digs_length] at hvl
  have hlit : ∀ i v, i < vs1.toArray.size → vs1.toArray[vs1.toArray.size - 1 - i]? = some v → ∃ d t, (dn n (nd n X) X).reverse[i]? = some d ∧ v = .int ((d : Nat) : Int) t ∧ d < 2 ^ n := by
    intro i v hi hv
    rw [List.size_toArray] at hi hv
    rw [List.getElem?_toArray] at hv
    refine hideC fun D_ K_ => ?_
    obtain ⟨d, t, e1_, hd⟩ := hI1.at _ _ hv
    refine K_ ?_
    clear K_ D_
    subst e1_
    rw [digs_dn, List.getElem?_map] at hd
    obtain ⟨d', h1, h2⟩ := Option.map_eq_some_iff.mp hd
    refine ⟨d', t, ?_, ?_, dn_lt _ _ _ _ (List.mem_of_getElem? h1)⟩
    · rw [List.getElem?_reverse (by rw [dn_length]; omega), dn_length]
      have e : nd n X - 1 - i = vs1.length - 1 - i := by omega
      rw [e]; exact h1
    · rw [← h2]; rfl
  refine walk_loopU (news := (lq, listOf #[] 0) :: (30, tabObj ps3) :: (37, tabObj ps2) :: ex1)
    (fun i l nw => ∃ tr uq ua qs qvs ep, l = [(Str.ofString "r", some (.int ((hv n ((dn n (nd n X) X).reverse.take i) % b : Nat) : Int) tr)), (Str.ofString "q_digit", uq), (Str.ofString "a_digit", ua)] ∧ nw = (lq, listOf (qvs : List Value).toArray ep) :: (30, tabObj ps3) :: (37, tabObj ps2) :: ex1 ∧
      IntsAre qvs ((qs : List Nat).map Int.ofNat) ∧ hv n qs = hv n ((dn n (nd n X) X).reverse.take i) / b ∧ (∀ x ∈ qs, x < 2 ^ n) ∧ qs.length = i)
    (Walks.listRev (show ((⟨none, dep, fra, gua, uni⟩ : Around).deeper _).handled = none from rfl) D r1 (Nat.ne_of_lt hlD.2.1) vs1.toArray) ?_ ?_ ?_ ?_ FD (fun p hp => ND p ?_) [Str.ofString "r", Str.ofString "q_digit", Str.ofString "a_digit"] ?_ ?_ ?_
  · intro hm
    have := FD.ns.lt
    rcases List.mem_cons.mp hm with e | hm
    · exact absurd ((ND _ (.head _)).2.1) (by rw [show D = L from e.symm]; simp)
    · exact absurd ((ND (r1, _) (.tail _ (.tail _ (.head _)))).2.1) (by rw [show r1 = L from (List.mem_singleton.mp hm).symm]; simp)
  · intro p hp; rw [List.mem_singleton.mp hp]; exact ND.fresh (.head _)
  · intro p hp hD
    have e := List.mem_singleton.mp hD
    have : @LT.lt Nat _ p.1 D := by
      rcases List.mem_cons.mp hp with rfl | hp
      · exact hlD.1
      · rcases List.mem_cons.mp hp with rfl | hp
        · exact hlD.2.2.1
        · rcases List.mem_cons.mp hp with rfl | hp
          · exact hlD.2.2.2.1
          · exact allLt_mem hlD.2.2.2.2 p hp
    rw [e] at this; exact absurd this (Nat.lt_irrefl _)
  · exact ⟨Nat.zero_le _, ⟨_, ND.get (.head _), rfl, by simp [revObj]⟩, ⟨_, ND.get (.tail _ (.tail _ (.head _))), rfl, _, rfl⟩⟩
  · rcases List.mem_cons.mp hp with rfl | hp
    · exact .tail _ (.head _)
    · exact .tail _ (.tail _ (.tail _ hp))
  · exact ⟨_, _, _, [], [], 0, rfl, rfl, .nil, by simp [hv], fun _ h => (nomatch h), rfl⟩
  · intro i v l nw h tk3 own hi hP H_
    refine hideC fun D_ K_ => ?_
    obtain ⟨tr, uq, ua, qs, qvs, ep, e2_, e3_, hIq, hq, hqlt, hql⟩ := H_
    refine K_ ?_
    clear K_ D_
    subst e2_
    subst e3_
    intro hown hnw F5 N5
    refine hideC fun D_ K_ => ?_
    obtain ⟨d, td, hd, e4_, hdlt⟩ := hlit i v hi hP
    refine K_ ?_
    clear K_ D_
    subst e4_
    replace F5 : Fr g' L h _ := F5
    replace N5 : News g' L h ((lq, listOf qvs.toArray ep) :: (30, tabObj ps3) :: (37, tabObj ps2) :: (ex1 ++ own)) := N5
    have hv1 : hv n ((dn n (nd n X) X).reverse.take i) % b < b := Nat.mod_lt _ hb
    generalize hvv : hv n ((dn n (nd n X) X).reverse.take i) = vv at hq F5 hv1
    have hoth : ∀ p ∈ ex1 ++ own, p.1 ≠ lq := by
      intro p hp
      rcases List.mem_append.mp hp with hp | hp
      · exact Nat.ne_of_lt (allLt_mem hlq.2.2.2 p hp)
      · intro q
        have := hown p hp
        rw [q] at this
        rcases List.mem_cons.mp this with e | e
        · exact absurd hlD.1 (by rw [e]; exact Nat.lt_irrefl _)
        · exact absurd hlq.1 (by rw [List.mem_singleton.mp e]; exact Nat.lt_irrefl _)
    have hlq' : @LT.lt Nat _ 30 lq ∧ @LT.lt Nat _ 37 lq := ⟨hlq.2.1, hlq.2.2.1⟩
    have hLs : (Builtin.Int.intBits ((vv % b : Nat) : Int) : Int) + (n : Int) ≤ 2 ^ 27 := by
      have : Builtin.Int.intBits ((vv % b : Nat) : Int) ≤ 10 := intBits_le_iff.mpr (by rw [Int.natAbs_natCast]; omega)
      have h5 : (2 : Int) ^ 27 = 134217728 := by decide
      rw [h5]; omega
    repeat walk_at "go"
    have ea : ((vv % b : Nat) : Int) * 2 ^ ((n : Nat) : Int).toNat + ((d : Nat) : Int) = ((vv % b * 2 ^ n + d : Nat) : Int) := by
      rw [Int.toNat_natCast, Int.natCast_add, Int.natCast_mul, Int.natCast_pow]; rfl
    obtain ⟨hs1, hs2, hs3⟩ := hv_step (v := vv) hb hdlt
    refine div2n1n_use G' F5 N5 (by show dep + 1 ≤ 900; omega) (by omega) (by omega) ?_ ?_
    · rw [ea]
      have h1 : vv % b * 2 ^ n + d < 2 ^ (10 + n) := by
        have h2 : (vv % b + 1) * 2 ^ n ≤ 2 ^ 10 * 2 ^ n := Nat.mul_le_mul_right _ (by omega)
        rw [Nat.add_mul, Nat.one_mul] at h2
        rw [Nat.pow_add]; omega
      have h3 : Builtin.Int.intBits ((vv % b * 2 ^ n + d : Nat) : Int) ≤ 10 + n := intBits_le_iff.mpr (by rw [Int.natAbs_natCast]; exact h1)
      omega
    intro h6 tk6 rt t1 t2 F6 N6 hne6
    rw [ea] at N6
    have e1 : (((vv % b * 2 ^ n + d : Nat) : Int)).fdiv (b : Int) = (((vv % b * 2 ^ n + d) / b : Nat) : Int) := by
      rw [Int.fdiv_eq_ediv_of_nonneg _ (Int.natCast_nonneg _)]; rfl
    have e2 : (((vv % b * 2 ^ n + d : Nat) : Int)).fmod (b : Int) = (((vv % b * 2 ^ n + d) % b : Nat) : Int) := by
      rw [Int.fmod_eq_emod_of_nonneg _ (Int.natCast_nonneg _)]; rfl
    rw [e1, e2] at N6
    clear F5 N5 ea
    have hrt : @Ne Nat rt lq := fun q => hne6 _ (.head _) q.symm
    dsimp only at F6 N6 ⊢
    repeat walk_at "go"
    with_reducible rename Fr _ _ _ _ => F6
    with_reducible rename News _ _ _ _ => N6
    have hqvl : qvs.length = i := by rw [hIq.length, List.length_map, hql]
    have hbnd := nd_le (X := X) hnp
    rw [List.size_toArray, hvl] at hi
    refine' append_K (its := qvs.toArray) (n := ep) F6 N6 ?u ?_ (hsz := by simp [sizeLine]; omega)
    case u => k_upd
    intro h7 F7 N7
    clear F6 N6
    dsimp only at F7 N7 ⊢
    repeat walk_at "go"
    refine ⟨h7, _, _, (lq, W.listOf (qvs ++ [Value.int (((vv % b * 2 ^ n + d) / b : Nat) : Int) t1]).toArray (ep + 1)) :: (30, tabObj ps3) :: (37, tabObj ps2) :: ex1, _, rfl, F7, N7, ?_, ?_, ?_, ?_⟩
    · intro p hp; exact .tail _ (.tail _ (.tail _ (.tail _ (List.mem_append_right _ hp))))
    · intro p hp
      rcases List.mem_cons.mp hp with rfl | hp
      · simp [W.listOf]
      · rcases List.mem_cons.mp hp with rfl | hp
        · exact .tail _ (.tail _ (.head _))
        · rcases List.mem_cons.mp hp with rfl | hp
          · exact .tail _ (.tail _ (.tail _ (.head _)))
          · exact .tail _ (.tail _ (.tail _ (.tail _ (List.mem_append_left _ hp))))
    · intro p hp
      rcases List.mem_cons.mp hp with rfl | hp
      · exact hnw (lq, listOf qvs.toArray ep) (.head _)
      · exact hnw p (.tail _ hp)
    · have hd2 : (dn n (nd n X) X).reverse.take (i + 1) = (dn n (nd n X) X).reverse.take i ++ [d] := by rw [List.take_add_one, hd]; rfl
      refine ⟨[(Str.ofString "r", some (.int (((vv % b * 2 ^ n + d) % b : Nat) : Int) t2)), (Str.ofString "q_digit", some (.int (((vv % b * 2 ^ n + d) / b : Nat) : Int) t1)), (Str.ofString "a_digit", some (.int ((d : Nat) : Int) td))], ?_, t2, some (.int (((vv % b * 2 ^ n + d) / b : Nat) : Int) t1), some (.int ((d : Nat) : Int) td), qs ++ [(vv % b * 2 ^ n + d) / b], qvs ++ [Value.int (((vv % b * 2 ^ n + d) / b : Nat) : Int) t1], ep + 1, ?_, rfl, ?_, ?_, ?_, ?_⟩
      · exact (upd_if1 (upd_if1 (upd_if1 rfl))).trans (upd_trim [_, _, _] [_, _, _] _ rfl)
      · rw [hd2, hv_snoc, hvv, hs2]
      · rw [List.map_append]; exact hIq.append (.cons _ _ .nil)
      · rw [hd2, hv_snoc, hv_snoc, hvv, hs1, hq]
      · intro x hx
        rcases List.mem_append.mp hx with hx | hx
        · exact hqlt x hx
        · rw [List.mem_singleton.mp hx]; exact hs3
      · rw [List.length_append, hql]; rfl
  · intro l nw h' tk4 H_
    refine hideC fun D_ K_ => ?_
    obtain ⟨tr, uq, ua, qs, qvs, ep, e5_, e6_, hIq, hq, hqlt, hql⟩ := H_
    refine K_ ?_
    clear K_ D_
    subst e5_
    subst e6_
    intro F5 N5
    replace F5 : Fr g' L h' _ := F5
    replace N5 : News g' L h' _ := N5
    dsimp only
    have hlen : qvs.length = nd n X := by
      rw [hIq.length, List.length_map, hql]; simpa using hvl
    have hX' : hv n ((dn n (nd n X) X).reverse.take (vs1.toArray.size)) = X := by
      rw [List.take_of_length_le (by simp [dn_length, hvl]), ← und_rev, List.reverse_reverse]
      exact und_dn _ _ _ (lt_pow_nd hnp)
    have hndb := nd_le (X := X) hnp
    have hexq : ∀ p ∈ ex1, p.1 ≠ lq := fun p hp => Nat.ne_of_lt (allLt_mem hlq.2.2.2 p hp)
    have hlq' : @LT.lt Nat _ 30 lq ∧ @LT.lt Nat _ 37 lq := ⟨hlq.2.1, hlq.2.2.1⟩
    have hex37 : ∀ p ∈ ex1, p.1 ≠ 37 := ex_ne (h := h') (fun p hp => ⟨N5.get (.tail _ (.tail _ (.tail _ hp))), (hex1 p hp).2⟩) (N5.get (by k_mem)) nc2
    iterate 6 walk_at "go"
    refine' kl_reverse (its := qvs.toArray) (n := ep) F5 N5 (l := qvs.reverse) (by simp) ?U (by simp [sizeLine]; omega) ?_
    case U => k_upd
    intro h7 F7 N7
    clear F5 N5
    dsimp only at F7 N7 ⊢
    repeat walk_at "go"
    have hex37' : ∀ p ∈ (37, tabObj ps2) :: ex1, p.1 ≠ lq := List.forall_mem_cons.mpr ⟨Nat.ne_of_lt hlq'.2, hexq⟩
    refine' digits2int_use G' F7 N7 ?u TF2 (fun _ h => nomatch h) (by show dep + 1 ≤ 600; omega) (ns := qs.reverse) hnp (by omega) (by rw [List.length_reverse, hql]; simp; omega) (fun x hx => hqlt x (List.mem_reverse.mp hx)) (by k_mem) (by rw [List.map_reverse]; exact hIq.reverse) ?_
    case u => k_updF
    intro h8 tk8 t8 ps8 ex8 F8 N8 TF8 hex8
    clear F7 N7
    dsimp only [List.cons_append] at F8 N8 ⊢
    repeat walk_at "go"
    have eq : und n qs.reverse = X / b := by rw [und_rev, hq, hX']
    with_reducible rename Fr _ _ _ _ => F9
    with_reducible rename News _ _ _ _ => N9
    rw [eq] at N9
    rw [hX'] at N9
    have hbut' : But [30, 37] hp0 _ := fun q o hq' e => F9.keep q o (hbut q o hq' e)
    refine post _ _ _ _ _ hbut' (TF3.tabS F9 N9 (by k_mem) (fun p hp => ?_) g30) (TF8.tabS F9 N9 (by k_mem) (fun p hp => ?_) g37) (hbut.fresh (nmem2 (by omega) (by omega)) (N9.fresh (.head _))) (N9.get (.head _))
    · exact .tail _ (.tail _ (.tail _ (.tail _ (List.mem_append_left _ hp))))
    · exact .tail _ (.tail _ (.tail _ (.tail _ (List.mem_append_right _ hp))))
theorem all : ∀ p : Par, P1 p := fun p => Classical.byContradiction fun hn => (@Classical.epsilon_spec Par (fun p => ¬ P1 p) ⟨p, hn⟩) (by with_unfolding_all exact core)
end F6c
theorem divmod_pos_spec {w : World} {loose : List Str} {mean : ExcName → Option Value} {mg mb : Str → Option Value} {g : Heap} {prog : Program} {A : Around} {s : Shared} {Q E : Value → Shared → Prop} (G : Gd w loose mean mg mb g) (hg : Sub g s.heap) (hA : A.depth ≤ 550) (hh : A.handled = none) {X b : Nat} {ta tb : Tok} (hb : 0 < b) (hb2 : b < 1000) (hbits : Builtin.Int.intBits (X : Int) < 150)
   (tab1 : TabS g s.heap 30 32 4 q1) (tab2 : TabS g s.heap 37 47 4 q2)
   (post : ∀ h' tk r t1 t2, But [30, 37] s.heap h' → TabS g h' 30 32 4 q1 → TabS g h' 37 47 4 q2 → s.heap.get? r = none → h'.get? r = some (tupO #[.int (X / b : Nat) t1, .int (X % b : Nat) t2]) → Q (.ref r) { s with heap := h', toks := tk }) :
   wpAny (model prog w) A (call (.ref 49) [.int (X : Int) ta, .int (b : Int) tb]) Q E s := by
  refine hideC fun D_ K_ => ?_
  obtain ⟨hand, dep, fra, gua, uni⟩ := A
  refine K_ ?_
  clear K_ D_
  refine hideC fun D_ K_ => ?_
  obtain ⟨hp0, gn, dr, tk0, os0⟩ := s
  refine K_ ?_
  clear K_ D_
  dsimp only at hh
  subst hh
  exact F6c.all ⟨w, loose, mean, mg, mb, g, prog, dep, fra, gua, uni, hp0, gn, dr, tk0, os0, Q, E, X, b, ta, tb⟩ G hg hA hb hb2 hbits tab1 tab2 post
end
end Mine
end
section
open PySem PySem.W PyProof.Rows PySem.Calls
set_option maxRecDepth 100000
set_option maxHeartbeats 8000000
set_option linter.unusedVariables false
set_option linter.unusedSimpArgs false
namespace Mine
theorem fill_F7 : ∀ (w : World) (h : Heap), (hd.heap_1 w.params).In h → PySem.Challenge.rw_qu0050_01.foot = 8 := by
  k_fill; intros; rfl
section
local macro_rules | `(tactic| walk_at "go") => `(tactic| first | (k_unfold; (try dsimp only)) | walk1 | (dsimp only; walk1))
local macro_rules | `(tactic| walk_at "eval Name") => `(tactic| (k_dflt (first
  | (refine' nameX_L ?F ?v ?_ ?a ?b; (case b => rfl); (case a => rfl); (case F => k_asm); (case v => rfl); k_whole)
  | (refine' nameX_F ?N ?c ?m ?d ?_ ?a ?b; (case b => rfl); (case a => rfl); (case N => k_asm); (case c => rfl); (case m => k_mem); (case d => k_asm); k_whole)
  | (refine' nameX_C ?N ?c ?m ?d ?_ ?a ?b; (case b => rfl); (case a => rfl); (case N => k_asm); (case c => rfl); (case m => k_mem); (case d => k_asm); k_whole)
  | (refine' nameX_K ?F ?X ?T ?e ?_ ?a ?b; (case b => rfl); (case a => rfl); (case F => k_asm); (case X => k_asm); (case T => k_asm); (case e => k_is); k_whole))))
local macro_rules | `(tactic| walk_at "binaryOp RShift int int") => `(tactic| (refine rshift_int (by first | omega | assumption) ?_))
local macro_rules | `(tactic| walk_at "binaryOp LShift int int") => `(tactic| (refine lshift_int (by first | omega | assumption) (by first | assumption) ?_))
local macro_rules | `(tactic| walk_at "binaryOp Mult int int") => `(tactic| (refine PyProof.Rows.mul_int (hm := by first | exact IntMulOk.of_right (intBits_le_iff.mpr (by omega)) | exact IntMulOk.of_left (intBits_le_iff.mpr (by omega)) | assumption) ?_))
local macro_rules | `(tactic| walk_at "setItem ref int int") => `(tactic| (refine ksa_set (by k_asm) (by k_asm) (by k_upd) (by assumption) (by omega) (by omega) (by omega) ?_; intro h' F' N'; (try k_sweep)))
local macro_rules | `(tactic| walk_at "binaryOp Mult ref int") => `(tactic| (refine mul_rep (by k_asm) (by k_asm) (by k_mem) (by omega) (by omega) ?_; intro D' h' F' N' l1; (try k_lt l1); (try k_sweep)))
local macro_rules | `(tactic| walk_at "call builtin:len") => `(tactic| (refine len_led (by k_asm) (by k_mem) (by first | omega | (simp only [List.size_toArray, List.length_replicate]; omega) | (simp only [List.size_toArray]; omega)) ?_; intro t' tk'))
local macro_rules | `(tactic| k_all) => `(tactic| with_reducible assumption)
local macro_rules | `(tactic| walk_at "assign Tuple") => `(tactic| ((with_reducible show wpAny _ _ (assign (Expr.Tuple _ _ _) _ (Value.ref _)) _ _ _); k_dflt (refine' unpackN_ ?F ?N ?T ?k1 ?k2 ?k3 ?_; (case F => k_asm); (case N => k_asm); (case T => exact News.isTup (by k_asm) (by k_mem)); (case k1 => first | exact rfl | assumption); (case k2 => exact rfl); (case k3 => exact rfl); k_whole); intro h' F' N'; (try k_sweep)))
theorem TabF.mono {g' : Heap} {ex ex' : List (Addr × Obj)} {P line col : Nat} {ps : Array Value} {q : Str} (x : TabF g' ex P ps line col q) (h : ∀ p ∈ ex, p ∈ ex') : TabF g' ex' P ps line col q := by
  rcases x with rfl | ⟨c, oc, vs, t, e, h1, r⟩
  · exact .inl rfl
  · exact .inr ⟨c, oc, vs, t, e, h1.imp id (h _), r⟩
theorem divmod_pos_use {w : World} {loose : List Str} {mean : ExcName → Option Value} {mg mb : Str → Option Value} {prog : Program} {A : Around} {s : Shared} {Q E : Value → Shared → Prop} {h₀ : Heap} {L : Addr} {m : Str → Option Value} {ps1 ps2 : Array Value} {rest : List (Addr × Obj)}
   (G : Gd w loose mean mg mb h₀) (F : Fr h₀ L s.heap m) (N : News h₀ L s.heap ((30, tabObj ps1) :: (37, tabObj ps2) :: rest)) (hr1 : ∀ p ∈ rest, @Ne Nat p.1 30 ∧ @Ne Nat p.1 37) (hA : A.depth ≤ 550) (hh : A.handled = none) {X b : Nat} {ta tb : Tok} (hb : 0 < b) (hb2 : b < 1000) (hbits : Builtin.Int.intBits (X : Int) < 150)
   (tab1 : TabS h₀ s.heap 30 32 4 q1) (tab2 : TabS h₀ s.heap 37 47 4 q2)
   (post : ∀ h' tk r t1 t2 ps1' ps2' ex, Fr h₀ L h' m → News h₀ L h' ((r, tupO #[.int (X / b : Nat) t1, .int (X % b : Nat) t2]) :: (30, tabObj ps1') :: (37, tabObj ps2') :: (rest ++ ex)) → TabF h₀ ex 30 ps1' 32 4 q1 → TabF h₀ ex 37 ps2' 47 4 q2 → (∀ p ∈ ex, h'.get? p.1 = some p.2 ∧ isCode p.2) → But [30, 37] s.heap h' → s.heap.get? r = none → Q (.ref r) { s with heap := h', toks := tk }) :
   wpAny (model prog w) A (call (.ref 49) [.int (X : Int) ta, .int (b : Int) tb]) Q E s := by
  refine divmod_pos_spec G F.keep hA hh hb hb2 hbits tab1 tab2 ?_
  intro h' tk r t1 t2 hbut tb1 tb2 hr hr'
  have F' : Fr h₀ L h' m := after_fr [30, 37] F N hbut (by
    intro a ha
    simp only [List.mem_cons, List.not_mem_nil, or_false] at ha
    rcases ha with rfl | rfl
    · exact (N _ (.head _)).2
    · exact (N _ (.tail _ (.head _))).2)
  obtain ⟨ps1', ex1, e1, TF1, hex1⟩ := tab_after F' tb1
  obtain ⟨ps2', ex2, e2, TF2, hex2⟩ := tab_after F' tb2
  have hex : ∀ p ∈ ex1 ++ ex2, (h'.get? p.1 = some p.2 ∧ p.1 ≠ L ∧ h₀.get? p.1 = none) ∧ isCode p.2 := fun p hp => (List.mem_append.mp hp).elim (hex1 p) (hex2 p)
  refine post h' tk r t1 t2 ps1' ps2' (ex1 ++ ex2) F' ?_ (TF1.mono fun p hp => List.mem_append_left _ hp) (TF2.mono fun p hp => List.mem_append_right _ hp) (fun p hp => ⟨(hex p hp).1.1, (hex p hp).2⟩) hbut hr
  intro p hp
  rcases List.mem_cons.mp hp with rfl | hp
  · exact ⟨hr', fr_ne F hr, (show Sub h₀ s.heap from F.keep).none hr⟩
  rcases List.mem_cons.mp hp with rfl | hp
  · exact ⟨e1, (N _ (.head _)).2⟩
  rcases List.mem_cons.mp hp with rfl | hp
  · exact ⟨e2, (N _ (.tail _ (.head _))).2⟩
  rcases List.mem_append.mp hp with hp | hp
  · have n := N p (.tail _ (.tail _ hp))
    exact ⟨hbut _ _ (nmem2 (hr1 p hp).1 (hr1 p hp).2) n.1, n.2⟩
  · exact (hex p hp).1
theorem int_divmod_pos {w : World} {loose : List Str} {mean : ExcName → Option Value} {mg mb : Str → Option Value} {g : Heap} {prog : Program} {A : Around} {s : Shared} {Q E : Value → Shared → Prop} (G : Gd w loose mean mg mb g) (hg : Sub g s.heap) (hA : A.depth ≤ 540) (hh : A.handled = none) {X b : Nat} {ta tb : Tok} (hb : 0 < b) (hb2 : b < 1000) (hbits : Builtin.Int.intBits (X : Int) < 150)
   (tab1 : TabS g s.heap 30 32 4 q1) (tab2 : TabS g s.heap 37 47 4 q2)
   (post : ∀ h' tk r t1 t2, But [30, 37] s.heap h' → TabS g h' 30 32 4 q1 → TabS g h' 37 47 4 q2 → s.heap.get? r = none → h'.get? r = some (tupO #[.int (X / b : Nat) t1, .int (X % b : Nat) t2]) → Q (.ref r) { s with heap := h', toks := tk }) :
   wpAny (model prog w) A (call (.ref 56) [.int (X : Int) ta, .int (b : Int) tb]) Q E s := by
  have g30 := tab1.1
  have g37 := tab2.1
  obtain ⟨ps1, h30, nc1⟩ := tab_not_code tab1
  obtain ⟨ps2, h37, nc2⟩ := tab_not_code tab2
  refine call_top [(30, tabObj ps1), (37, tabObj ps2)] G hg (fun p hp => by simp only [List.mem_cons, List.not_mem_nil, or_false] at hp; rcases hp with rfl | rfl; exact ⟨h30, g30⟩; exact ⟨h37, g37⟩) (by k_is) (by k_is) rfl (locs rfl) (by show A.depth < 1000; omega) ?_
  intro g' L h₁ tk G' hbut hnone hL F N l1
  simp only [List.map_cons, List.map_nil] at hbut
  k_lt l1
  have XX := G'.X
  have T := G'.T
  have C2 := G'.c2
  have hbz : (b : Int) ≠ 0 := by omega
  have hbn : ¬ ((b : Int) < 0) := by omega
  have hxn : ¬ ((X : Int) < 0) := by omega
  have hl : ∀ a ∈ [30, 37], ∃ o, s.heap.get? a = some o ∧ ¬ isCode o := by
    intro a ha
    simp only [List.mem_cons, List.not_mem_nil, or_false] at ha
    rcases ha with rfl | rfl
    · exact ⟨_, h30, nc1⟩
    · exact ⟨_, h37, nc2⟩
  obtain ⟨ps1', e1, TF1⟩ := TabF.entry tab1 hbut hl
  obtain ⟨ps2', e2, TF2⟩ := TabF.entry tab2 hbut hl
  rw [h30] at e1; cases e1
  rw [h37] at e2; cases e2
  obtain ⟨hand, dep, fra, gua, uni⟩ := A
  dsimp only at hh hA
  subst hh
  repeat walk_at "go"
  all_goals (try (exfalso; omega; done))
  repeat walk_at "go"
  with_reducible rename Fr _ _ _ _ => F9
  with_reducible rename News _ _ _ _ => N9
  refine divmod_pos_use (rest := []) G' F9 N9 (fun _ h => nomatch h) (by show dep + 1 ≤ 550; omega) rfl hb hb2 hbits (TF1.tabS F9 N9 (by k_mem) (fun _ h => nomatch h) (N9.fresh (by k_mem))) (TF2.tabS F9 N9 (by k_mem) (fun _ h => nomatch h) (N9.fresh (by k_mem))) ?_
  intro h' tk r t1 t2 ps3 ps4 ex F2 N2 tb1 tb2 hex hb2' hr
  exact post _ _ _ _ _ (fun q o hq e => F2.keep q o (hbut q o hq e)) (tb1.tabS F2 N2 (by k_mem) (fun p hp => .tail _ (.tail _ (.tail _ hp))) g30) (tb2.tabS F2 N2 (by k_mem) (fun p hp => .tail _ (.tail _ (.tail _ hp))) g37) (hbut.fresh (fun q => by
    have e := hb2'
    have := N2.get (.head _)
    simp only [List.mem_cons, List.not_mem_nil, or_false] at q
    rcases q with rfl | rfl
    · rw [N9.get (.head _)] at hr; cases hr
    · rw [N9.get (.tail _ (.head _))] at hr; cases hr) (N2.fresh (.head _))) (N2.get (.head _))
theorem int_divmod_use {w : World} {loose : List Str} {mean : ExcName → Option Value} {mg mb : Str → Option Value} {prog : Program} {A : Around} {s : Shared} {Q E : Value → Shared → Prop} {h₀ : Heap} {L : Addr} {m : Str → Option Value} {ps1 ps2 : Array Value} {rest : List (Addr × Obj)}
   (G : Gd w loose mean mg mb h₀) (F : Fr h₀ L s.heap m) (N : News h₀ L s.heap ((30, tabObj ps1) :: (37, tabObj ps2) :: rest)) (hr1 : ∀ p ∈ rest, @Ne Nat p.1 30 ∧ @Ne Nat p.1 37) (hA : A.depth ≤ 540) (hh : A.handled = none) {X b : Nat} {ta tb : Tok} (hb : 0 < b) (hb2 : b < 1000) (hbits : Builtin.Int.intBits (X : Int) < 150)
   (tab1 : TabS h₀ s.heap 30 32 4 q1) (tab2 : TabS h₀ s.heap 37 47 4 q2)
   (post : ∀ h' tk r t1 t2 ps1' ps2' ex, Fr h₀ L h' m → News h₀ L h' ((r, tupO #[.int (X / b : Nat) t1, .int (X % b : Nat) t2]) :: (30, tabObj ps1') :: (37, tabObj ps2') :: (rest ++ ex)) → TabF h₀ ex 30 ps1' 32 4 q1 → TabF h₀ ex 37 ps2' 47 4 q2 → (∀ p ∈ ex, h'.get? p.1 = some p.2 ∧ isCode p.2) → But [30, 37] s.heap h' → s.heap.get? r = none → Q (.ref r) { s with heap := h', toks := tk }) :
   wpAny (model prog w) A (call (.ref 56) [.int (X : Int) ta, .int (b : Int) tb]) Q E s := by
  refine int_divmod_pos G F.keep hA hh hb hb2 hbits tab1 tab2 ?_
  intro h' tk r t1 t2 hbut tb1 tb2 hr hr'
  have F' : Fr h₀ L h' m := after_fr [30, 37] F N hbut (by
    intro a ha
    simp only [List.mem_cons, List.not_mem_nil, or_false] at ha
    rcases ha with rfl | rfl
    · exact (N _ (.head _)).2
    · exact (N _ (.tail _ (.head _))).2)
  obtain ⟨ps1', ex1, e1, TF1, hex1⟩ := tab_after F' tb1
  obtain ⟨ps2', ex2, e2, TF2, hex2⟩ := tab_after F' tb2
  have hex : ∀ p ∈ ex1 ++ ex2, (h'.get? p.1 = some p.2 ∧ p.1 ≠ L ∧ h₀.get? p.1 = none) ∧ isCode p.2 := fun p hp => (List.mem_append.mp hp).elim (hex1 p) (hex2 p)
  refine post h' tk r t1 t2 ps1' ps2' (ex1 ++ ex2) F' ?_ (TF1.mono fun p hp => List.mem_append_left _ hp) (TF2.mono fun p hp => List.mem_append_right _ hp) (fun p hp => ⟨(hex p hp).1.1, (hex p hp).2⟩) hbut hr
  intro p hp
  rcases List.mem_cons.mp hp with rfl | hp
  · exact ⟨hr', fr_ne F hr, (show Sub h₀ s.heap from F.keep).none hr⟩
  rcases List.mem_cons.mp hp with rfl | hp
  · exact ⟨e1, (N _ (.head _)).2⟩
  rcases List.mem_cons.mp hp with rfl | hp
  · exact ⟨e2, (N _ (.tail _ (.head _))).2⟩
  rcases List.mem_append.mp hp with hp | hp
  · have n := N p (.tail _ (.tail _ hp))
    exact ⟨hbut _ _ (nmem2 (hr1 p hp).1 (hr1 p hp).2) n.1, n.2⟩
  · exact (hex p hp).1
theorem int_divmod_neg {w : World} {loose : List Str} {mean : ExcName → Option Value} {mg mb : Str → Option Value} {g : Heap} {prog : Program} {A : Around} {s : Shared} {Q E : Value → Shared → Prop} (G : Gd w loose mean mg mb g) (hg : Sub g s.heap) (hA : A.depth ≤ 530) (hh : A.handled = none) {Y b : Nat} {ta tb : Tok} (hY : 0 < Y) (hb : 0 < b) (hb2 : b < 1000) (hbits : Builtin.Int.intBits ((Y - 1 : Nat) : Int) < 150)
   (tab1 : TabS g s.heap 30 32 4 q1) (tab2 : TabS g s.heap 37 47 4 q2)
   (post : ∀ h' tk r t1 t2, But [30, 37] s.heap h' → TabS g h' 30 32 4 q1 → TabS g h' 37 47 4 q2 → s.heap.get? r = none → h'.get? r = some (tupO #[.int (-(((Y - 1) / b : Nat) : Int) - 1) t1, .int ((b : Int) - 1 - (((Y - 1) % b : Nat) : Int)) t2]) → Q (.ref r) { s with heap := h', toks := tk }) :
   wpAny (model prog w) A (call (.ref 56) [.int (-(Y : Int)) ta, .int (b : Int) tb]) Q E s := by
  have g30 := tab1.1
  have g37 := tab2.1
  obtain ⟨ps1, h30, nc1⟩ := tab_not_code tab1
  obtain ⟨ps2, h37, nc2⟩ := tab_not_code tab2
  refine call_top [(30, tabObj ps1), (37, tabObj ps2)] G hg (fun p hp => by simp only [List.mem_cons, List.not_mem_nil, or_false] at hp; rcases hp with rfl | rfl; exact ⟨h30, g30⟩; exact ⟨h37, g37⟩) (by k_is) (by k_is) rfl (locs rfl) (by show A.depth < 1000; omega) ?_
  intro g' L h₁ tk G' hbut hnone hL F N l1
  simp only [List.map_cons, List.map_nil] at hbut
  k_lt l1
  have XX := G'.X
  have T := G'.T
  have C2 := G'.c2
  have hbz : (b : Int) ≠ 0 := by omega
  have hbn : ¬ ((b : Int) < 0) := by omega
  have hxn : (-(Y : Int)) < 0 := by omega
  have hl : ∀ a ∈ [30, 37], ∃ o, s.heap.get? a = some o ∧ ¬ isCode o := by
    intro a ha
    simp only [List.mem_cons, List.not_mem_nil, or_false] at ha
    rcases ha with rfl | rfl
    · exact ⟨_, h30, nc1⟩
    · exact ⟨_, h37, nc2⟩
  obtain ⟨ps1', e1, TF1⟩ := TabF.entry tab1 hbut hl
  obtain ⟨ps2', e2, TF2⟩ := TabF.entry tab2 hbut hl
  rw [h30] at e1; cases e1
  rw [h37] at e2; cases e2
  obtain ⟨hand, dep, fra, gua, uni⟩ := A
  dsimp only at hh hA
  subst hh
  repeat walk_at "go"
  all_goals (try (exfalso; omega; done))
  repeat walk_at "go"
  with_reducible rename Fr _ _ _ _ => F9
  with_reducible rename News _ _ _ _ => N9
  have eN : Builtin.bitNot (-(Y : Int)) = ((Y - 1 : Nat) : Int) := by unfold Builtin.bitNot; omega
  rw [eN]
  refine int_divmod_use (rest := []) G' F9 N9 (fun _ h => nomatch h) (by show dep + 1 ≤ 540; omega) rfl hb hb2 hbits (TF1.tabS F9 N9 (by k_mem) (fun _ h => nomatch h) (N9.fresh (by k_mem))) (TF2.tabS F9 N9 (by k_mem) (fun _ h => nomatch h) (N9.fresh (by k_mem))) ?_
  intro h' tk r t1 t2 ps3 ps4 ex F2 N2 tb1 tb2 hex hb2' hr
  clear F9 N9
  dsimp only [List.nil_append] at F2 N2 ⊢
  repeat walk_at "go"
  with_reducible rename Fr _ _ _ _ => F9
  with_reducible rename News _ _ _ _ => N9
  have ev1 : Builtin.bitNot (((Y - 1) / b : Nat) : Int) = -(((Y - 1) / b : Nat) : Int) - 1 := rfl
  have ev2 : (b : Int) + Builtin.bitNot (((Y - 1) % b : Nat) : Int) = (b : Int) - 1 - (((Y - 1) % b : Nat) : Int) := by unfold Builtin.bitNot; omega
  rw [ev1, ev2] at N9
  exact post _ _ _ _ _ (fun q o hq e => F9.keep q o (hbut q o hq e)) (tb1.tabS F9 N9 (by k_mem) (fun p hp => .tail _ (.tail _ (.tail _ (.tail _ hp)))) g30) (tb2.tabS F9 N9 (by k_mem) (fun p hp => .tail _ (.tail _ (.tail _ (.tail _ hp)))) g37) (hbut.fresh (nmem2 (by omega) (by omega)) (N9.fresh (.head _))) (N9.get (.head _))
end
end Mine
end
section
open PySem PySem.W PyProof.Rows PySem.Calls
set_option maxRecDepth 100000
set_option maxHeartbeats 8000000
set_option linter.unusedVariables false
set_option linter.unusedSimpArgs false
namespace Mine
theorem fill_F8 : ∀ (w : World) (h : Heap), (hd.heap_1 w.params).In h → PySem.Challenge.rw_qu0050_01.foot = 8 := by
  k_fill; intros; rfl
section
theorem range_ok {b : Int} {n : Nat} (hb : b = n) (hn : n < 1000000) : Builtin.Range.small 0 b 1 = true ∧ Builtin.Range.rangeSize 0 b 1 = (n : Int) := by
  subst hb
  have e : Builtin.Range.rangeSize 0 (n : Int) 1 = (n : Int) := by
    unfold Builtin.Range.rangeSize
    rw [if_pos (by decide)]
    split
    · rw [Int.ediv_one]; omega
    · omega
  refine ⟨?_, e⟩
  have f : ∀ x : Int, 0 ≤ x → x < 1000000 → Builtin.Range.rangeFitsLong x = true := by
    intro x h1 h2
    unfold Builtin.Range.rangeFitsLong
    simp; omega
  simp only [Builtin.Range.small, e, f 0 (by omega) (by omega), f 1 (by omega) (by omega), f n (by omega) (by omega), Bool.and_true, Bool.true_and, Bool.or_eq_true]
  right
  exact f _ (by omega) (by omega)
/-- what put_in sums at k -/
noncomputable def putAt (cs : List Nat) (q big : Nat) (k : Int) : Int := (cs.map Int.ofNat).getD k.toNat 0 * ((big : Int) + (q : Int) - 1) ^ ((((cs.map Int.ofNat).length : Int) - 1) - k).toNat * ((big : Int) - 1) ^ k.toNat
theorem mulOk_bits {a b : Int} {m : Nat} (ha : Builtin.Int.intBits a ≤ m) (hm : m ≤ 1000000) (hb : Builtin.Int.intBits b ≤ m) : IntMulOk a b := by
  unfold IntMulOk
  have : Builtin.Int.intTooBig ((Builtin.Int.intBits a : Int) + Builtin.Int.intBits b) = false := by
    unfold Builtin.Int.intTooBig
    simp [bitsLine]; omega
  rw [this]; simp
theorem put_in_spec {w : World} {loose : List Str} {mean : ExcName → Option Value} {mg mb : Str → Option Value} {g : Heap} {prog : Program} {A : Around} {s : Shared} {Q E : Value → Shared → Prop} (G : Gd w loose mean mg mb g) (hg : Sub g s.heap) (hA : A.depth ≤ 600) (hh : A.handled = none) {D : Addr} {vs : List Value} {cs : List Nat} {ep n q big : Nat} {tq tb : Tok}
   (hD : s.heap.get? D = some (listOf vs.toArray ep)) (gD : g.get? D = none) (hI : IntsAre vs (cs.map Int.ofNat)) (hcn : cs.length = n + 1) (hn : n ≤ 10) (hq : 1 ≤ q) (hq2 : q < 10) (hbig : 1 ≤ big) (hbig2 : big < 100000) (hcs : ∀ x ∈ cs, x < 1000000)
   (post : ∀ h' tk t, Sub s.heap h' → Q (.int (((rangeKs 0 (n + 1)).map fun k => putAt cs q big k).sum) t) { s with heap := h', toks := tk }) :
   wpAny (model prog w) A (call (.ref 145) [.ref D, .int (q : Int) tq, .int (big : Int) tb]) Q E s := by
  refine call_topC [(D, listOf vs.toArray ep)] G hg (fun p hp => by cases List.mem_singleton.mp hp; exact ⟨hD, gD⟩) (by k_is) (by k_is) rfl rfl (by decide +kernel) (by show A.depth < 1000; omega) ?_
  intro g' L h₁ tk cells G' hbut hnone hL F N Y l1
  simp only [List.map_cons, List.map_nil] at hbut
  k_lt l1; k_cells Y; (try simp only [List.cons_append, List.nil_append] at N); (try dsimp only)
  have XX := G'.X
  have T := G'.T
  obtain ⟨hand, dep, fra, gua, uni⟩ := A
  dsimp only at hh hA
  subst hh
  iterate 31 walk_at "go"
  have hcl : (cs.map Int.ofNat).length = n + 1 := by simpa using hcn
  obtain ⟨r1, r2⟩ := range_ok (b := ((cs.map Int.ofNat).length : Int) - 1 + 1) (n := n + 1) (by omega) (by omega)
  refine LCg.CompSrc.range (n := n + 1) rfl (by assumption) (by assumption) (by assumption) r1 r2 (by simp [sizeLine]; omega) ?_
  intro g2
  refine kcf_range (fun k => putAt cs q big k) ?_ ?_
  · intro k t I oI C oC D2 m₂ ys h tk2 E' hk1 hk2 hC hx F N off ne mk
    obtain ⟨hm1, hm2⟩ : IntMulOk ((cs.map Int.ofNat).getD k.toNat 0) (((big : Int) + (q : Int) - 1) ^ ((((cs.map Int.ofNat).length : Int) - 1) - k).toNat) ∧ IntMulOk ((cs.map Int.ofNat).getD k.toNat 0 * ((big : Int) + (q : Int) - 1) ^ ((((cs.map Int.ofNat).length : Int) - 1) - k).toNat) (((big : Int) - 1) ^ k.toNat) := by
      have hb1 : Builtin.Int.intBits ((big : Int) + (q : Int) - 1) ≤ 20 := intBits_le_iff.mpr (by omega)
      have hb2 : Builtin.Int.intBits ((big : Int) - 1) ≤ 20 := intBits_le_iff.mpr (by omega)
      have hc0 : 0 ≤ (cs.map Int.ofNat).getD k.toNat 0 ∧ (cs.map Int.ofNat).getD k.toNat 0 < 1000000 := by
        rw [List.getD_eq_getElem?_getD, List.getElem?_map]
        cases e : cs[k.toNat]? with
        | none => simp
        | some x =>
          have := hcs x (List.mem_of_getElem? e)
          simp; omega
      have hm0 : Builtin.Int.intBits ((cs.map Int.ofNat).getD k.toNat 0) ≤ 20 := intBits_le_iff.mpr (by omega)
      have hp1 := intBits_pow_le hb1 ((((cs.map Int.ofNat).length : Int) - 1) - k).toNat
      have hp2 := intBits_pow_le hb2 k.toNat
      have e1 : ((((cs.map Int.ofNat).length : Int) - 1) - k).toNat ≤ 100 := by omega
      have e2 : k.toNat ≤ 100 := by omega
      exact ⟨IntMulOk.of_left (by omega), mulOk_bits (m := 10000) (Nat.le_trans (intBits_mul_le hm0 hp1) (by omega)) (by omega) (Nat.le_trans hp2 (by omega))⟩
    iterate 28 walk_at "go"
    exact LCg.CompEnd.intro F N _ (fun p hp => hp) off trivial ⟨rfl, _, rfl⟩
  · unfold KPfDone
    intro ys hys
    unfold LCg.FinE
    intro D3 h3 tk3 F3 N3 o1
    simp only [LCg.Off1, and_true] at o1
    dsimp only
    repeat walk_at "go"
    with_reducible rename Fr _ _ _ _ => F9
    with_reducible rename News _ _ _ _ => N9
    refine post _ _ _ (sub_of (ms := [(D, listOf vs.toArray ep)]) hbut (fun p hp => by cases List.mem_singleton.mp hp; exact hD) F9 N9 (fun p hp => by cases List.mem_singleton.mp hp; k_mem))
end
end Mine
end
section
open PySem PySem.W PyProof.Rows PySem.Calls
set_option linter.unusedVariables false
namespace Mine
/-- a comprehension of pairs over a zip, its element without effect -/
theorem block_Z {prog : Program} {w : World} {A : Around} {E : Value → Shared → Prop} {env : Env} {elt iter : Expr} {x x₂ : Str} {px px₂ tp : Pos} {tk0 : Nat} {scope : Scope} {cl : List (Str × Addr)} {pos : Pos} {s₂ : Shared} {I : Addr} {fp wr : List Addr} {n : Nat} {Pt : Nat → Array Value → Prop} {St : Nat → Heap → Prop} {Mid : Nat → Addr → Heap → Prop}
    {RR : Value → Addr → Result → Shared → Prop} (f : Nat → Value → Prop) (v1 v2 : Nat → Value)
    (W : WalksT prog w A I fp wr n Pt St Mid) (hPt : ∀ i vals, Pt i vals → vals = #[v1 i, v2 i]) (hsz : n ≤ sizeLine) (hh : A.handled = none)
    (hcell : ∀ y ∈ scope.names, y.2 ≠ .cell) (hkind : scope.kind = .function) (hx : scope.names.lookup x = some .local) (hx₂ : scope.names.lookup x₂ = some .local) (hxx : x ≠ x₂) (hst : St 0 s₂.heap) (hfp : ∀ b ∈ fp, b < s₂.heap.objs.size)
    (helt : ∀ i C m₃ h tk E', i < n → h.Ns C m₃ → m₃ x = some (v1 i) → m₃ x₂ = some (v2 i) → (∀ b o, b ∉ wr → s₂.heap.get? b = some o → h.get? b = some o) →
      wpAny (model prog w) A (eval elt (compEnvC scope cl C env)) (fun y s₄ => f i y ∧ ∃ tk', s₄ = { s₂ with heap := h, toks := tk' }) E' { s₂ with heap := h, toks := tk })
    (hRR : ∀ D C h tk m' ys, s₂.heap.get? D = none → s₂.heap.get? C = none → D ≠ C → h.Ns C m' → h.get? D = some (LCg.lst ys) → ys.length = n → (∀ j y, ys[j]? = some y → f j y) → (∀ b o, b ∉ wr → s₂.heap.get? b = some o → h.get? b = some o) → RR (.ref D) C (.ok .next) { s₂ with heap := h, toks := tk }) :
    wpAny (model prog w) A (newList []) (fun acc s₃ => wpAny (model prog w) A (newFunctionEnv scope env.globals cl [] env.qual none .none (some env)) (fun cenv s₄ =>
      codeAny (model prog w) A (.compStart (.ListComp elt [⟨.Tuple [.Name x px, .Name x₂ px₂] tk0 tp, iter, [], 0⟩] scope pos) 0 (.ref I) acc { cenv with scope := relabel scope env }) (RR acc cenv.locals) s₄) E s₃) E s₂ := by
  refine wpAny_newObj_type (wpAny_newFunctionEnv hcell (by intro y hy; simp at hy) (fun h₁ hns₁ hsb₁ => ?_) hkind)
  dsimp only at hns₁ hsb₁ ⊢
  generalize hH2 : s₂.heap.push { cls := .type "list", dict := none, data := .seq ([] : List Value).toArray } = H2 at hns₁ hsb₁ ⊢
  have hC : H2.objs.size = s₂.heap.objs.size + 1 := by rw [← hH2, Heap.size_push]
  have hDC : s₂.heap.objs.size ≠ H2.objs.size := by rw [hC]; exact Nat.ne_of_lt (Nat.lt_succ_self _)
  have below : ∀ b, b < s₂.heap.objs.size → b ≠ H2.objs.size ∧ b ≠ s₂.heap.objs.size := fun b hb => ⟨by rw [hC]; exact Nat.ne_of_lt (Nat.lt_succ_of_lt hb), Nat.ne_of_lt hb⟩
  have hDf : s₂.heap.objs.size ∉ fp := fun hm => Nat.lt_irrefl _ (hfp _ hm)
  have hCf : H2.objs.size ∉ fp := fun hm => by have := hfp _ hm; rw [hC] at this; exact Nat.lt_irrefl _ (Nat.lt_of_succ_lt this)
  have hDw : s₂.heap.objs.size ∉ wr := fun h => hDf (W.sub _ h)
  have hCw : H2.objs.size ∉ wr := fun h => hCf (W.sub _ h)
  have old : ∀ b o, s₂.heap.get? b = some o → h₁.get? b = some o := fun b o e => hsb₁.extBut b o (below b (Heap.lt_size e)).1 (Heap.get?_push_of_some _ (hH2 ▸ Heap.get?_push_of_some _ e))
  have hacc : h₁.get? s₂.heap.objs.size = some (LCg.lst []) := hsb₁.extBut _ _ hDC (Heap.get?_push_of_some _ (hH2 ▸ Heap.get?_push_size _ rfl))
  have hst₁ : St 0 h₁ := W.frame _ _ _ hst fun b _ o e => old b o e
  have fresh : ∀ a, s₂.heap.objs.size ≤ a → s₂.heap.get? a = none := fun a ha => by
    cases e : s₂.heap.get? a with
    | none => rfl
    | some o' => exact absurd (Heap.lt_size e) (Nat.not_lt.mpr ha)
  have loop : ∀ s₃ : Shared, s₃ = { s₂ with heap := h₁, toks := s₂.toks + ([] : List (Str × Value)).length } →
      codeAny (model prog w) A (.compLoop (.ListComp elt [⟨.Tuple [.Name x px, .Name x₂ px₂] tk0 tp, iter, [], 0⟩] scope pos) 0 (.ref I) (.ref s₂.heap.objs.size) (compEnvC scope cl H2.objs.size env))
        (RR (.ref s₂.heap.objs.size) H2.objs.size) s₃ := by
    rintro s₃ rfl
    refine LCp.codeAny_compLoop_pair
      (fun k s' => ∃ h' tk i ys m', s' = { s₂ with heap := h', toks := tk } ∧ i ≤ n ∧ k = n + 1 - i ∧ ys.length = i ∧ St i h' ∧ h'.Ns H2.objs.size m' ∧ h'.get? s₂.heap.objs.size = some (LCg.lst ys) ∧ (∀ j y, ys[j]? = some y → f j y) ∧ (∀ b o, b ∉ wr → s₂.heap.get? b = some o → h'.get? b = some o)) ?_ (n + 1)
      ⟨h₁, _, 0, [], _, rfl, Nat.zero_le _, rfl, rfl, hst₁, hns₁, hacc, fun j y e => by simp at e, fun b o _ e => old b o e⟩
    intro k s' H_
    refine hideC fun D_ K_ => ?_
    obtain ⟨h', tk, i, ys, m', e5_, hi, e6_, hyl, hst', hn', hD', hys, hk'⟩ := H_
    refine K_ ?_
    clear K_ D_
    subst e5_
    subst e6_
    by_cases hlt : i < n
    · refine W.item i _ _ _ hlt hst' fun T vals h₂ tk₂ hPv hT hTup hMid hk₂ => ?_
      have hv := hPt i vals hPv
      subst hv
      refine W.go _ _ _ i T _ _ _ hMid fun h₄ hst₄ hk₄ => ?_
      have hTw := W.apart i T h₂ hMid
      have hTup' : IsTup h₄ T #[v1 i, v2 i] := by
        obtain ⟨o, e, r⟩ := hTup
        exact ⟨o, hk₄ T o hTw e, r⟩
      refine assign_Tuple_tuple hh hTup' rfl rfl fun h₅ he => ?_
      have he' : ∀ b o, h₄.get? b = some o → h₅.get? b = some o := fun b o e => he b o (Nat.ne_of_lt (Heap.lt_size e)) e
      have up5 : ∀ b o, b ∉ wr → h'.get? b = some o → h₅.get? b = some o := fun b o hb e => he' b o (hk₄ b o hb (hk₂ b o hb e))
      refine assignInOrder_cons (wpAny_assign_Name (wpAny_storeName_local (lookup_relabel_local hx) (hn'.at' fun o e => up5 _ o hCw e) (fun h₆ hn₆ hs₆ => ?_) (by simp [compEnvC, relabel, hkind])))
      refine assignInOrder_cons (wpAny_assign_Name (wpAny_storeName_local (lookup_relabel_local hx₂) hn₆ (fun h₃ hn₃ hs₃ => ?_) (by simp [compEnvC, relabel, hkind])))
      refine assignInOrder_nil ?_
      have up3 : ∀ b o, b ≠ H2.objs.size → h₅.get? b = some o → h₃.get? b = some o := fun b o hb e => hs₃.extBut b o hb (hs₆.extBut b o hb e)
      have hst₃ : St (i + 1) h₃ := W.frame _ _ _ hst₄ fun b hb o e => up3 b o (fun q => hCf (by rw [← q]; exact hb)) (he' b o e)
      have hD₃ : h₃.get? s₂.heap.objs.size = some (LCg.lst ys) := up3 _ _ hDC (up5 _ _ hDw hD')
      have hk₃ : ∀ b o, b ∉ wr → s₂.heap.get? b = some o → h₃.get? b = some o := fun b o hb e => up3 b o (below b (Heap.lt_size e)).1 (up5 b o hb (hk' b o hb e))
      refine wpAny_mono (helt i H2.objs.size _ h₃ _ _ hlt hn₃ (by simp [hxx]) (by simp) hk₃) (fun y s₄ h₄ => ?_) fun _ _ e => e
      obtain ⟨hfy, tk₄, rfl⟩ := h₄
      refine append_at (hsz := by show ys.toArray.size ≤ sizeLine; rw [List.size_toArray, hyl]; exact Nat.le_trans hi hsz) hD₃ fun h₇ hs₇ hD₇ => ?_
      refine ⟨n + 1 - (i + 1), by omega, h₇, tk₄, i + 1, ys ++ [y], _, rfl, hlt, rfl, by rw [List.length_append, List.length_singleton, hyl], W.frame _ _ _ hst₃ fun b hb o e => hs₇.extBut b o (fun q => hDf (q ▸ hb)) e, hn₃.sameBut hs₇ (Ne.symm hDC), hD₇.trans (congrArg some (LCg.lst_snoc ys y)), ?_, ?_⟩
      · intro j z e
        by_cases hj : j < ys.length
        · rw [List.getElem?_append_left hj] at e; exact hys j z e
        · rw [List.getElem?_append_right (Nat.not_lt.mp hj)] at e
          have hj0 : j - ys.length = 0 := by
            cases q : j - ys.length with
            | zero => rfl
            | succ q' => rw [q] at e; simp at e
          rw [hj0] at e
          simp at e
          have : j = i := by omega
          rw [← e, this]; exact hfy
      · intro b o hb e
        exact hs₇.extBut b o (below b (Heap.lt_size e)).2 (hk₃ b o hb e)
    · obtain rfl : i = n := Nat.le_antisymm hi (Nat.not_lt.mp hlt)
      refine W.done _ _ _ hst' fun h₂ tk₂ hk₂ => ?_
      exact hRR _ _ h₂ tk₂ m' ys (fresh _ (Nat.le_refl _)) (fresh _ (by rw [hC]; exact Nat.le_succ _)) hDC (hn'.at' fun o e => hk₂ _ o hCw e) (hk₂ _ _ hDw hD') hyl hys fun b o hb e => hk₂ b o hb (hk' b o hb e)
  exact codeAny_compStart_list (loop _ rfl) (W.self 0 _ _ _ hst₁ (loop _ rfl))
theorem zip_comp {prog : Program} {w : World} {A : Around} {E : Value → Shared → Prop} {s : Shared} {env : Env} {elt iter : Expr} {x x₂ : Str} {px px₂ tp : Pos} {tk0 : Nat} {scope : Scope} {cl : List (Str × Addr)} {pos : Pos} {Q : Value → Shared → Prop}
    {l1 l2 : Addr} {xs ys : List Value} (f : Nat → Value → Prop) (hh : A.handled = none) (hl1 : s.heap.IsList l1 xs.toArray) (hl2 : s.heap.IsList l2 ys.toArray) (hsz : xs.length ≤ 1000)
    (hcell : ∀ y ∈ scope.names, y.2 ≠ .cell) (hkind : scope.kind = .function) (hx : scope.names.lookup x = some .local) (hx₂ : scope.names.lookup x₂ = some .local) (hxx : x ≠ x₂)
    (helt : ∀ i C m₃ h tk E' a b, xs[i]? = some a → ys[i]? = some b → h.Ns C m₃ → m₃ x = some a → m₃ x₂ = some b → (∀ b o, s.heap.get? b = some o → h.get? b = some o) →
      wpAny (model prog w) A (eval elt (compEnvC scope cl C env)) (fun y s₄ => f i y ∧ ∃ tk', s₄ = { s with heap := h, toks := tk' }) E' { s with heap := h, toks := tk })
    (fin : ∀ D h tk zs, s.heap.get? D = none → h.get? D = some (LCg.lst zs) → zs.length = min xs.length ys.length → (∀ j y, zs[j]? = some y → f j y) → Sub s.heap h → Q (.ref D) { s with heap := h, toks := tk }) :
    wpAny (model prog w) A (call (.type "zip") [.ref l1, .ref l2]) (fun xv s₁ => wpAny (model prog w) A (pyIter xv) (fun it s₂ => wpAny (model prog w) A (newList []) (fun acc s₃ => wpAny (model prog w) A (newFunctionEnv scope env.globals cl [] env.qual none .none (some env)) (fun cenv s₄ =>
      codeAny (model prog w) A (.compStart (.ListComp elt [⟨.Tuple [.Name x px, .Name x₂ px₂] tk0 tp, iter, [], 0⟩] scope pos) 0 it acc { cenv with scope := relabel scope env }) (compPost (model prog w) A E none Q acc cenv.locals) s₄) E s₃) E s₂) E s₁) E s := by
  obtain ⟨o1, e1, r1⟩ := id hl1
  obtain ⟨o2, e2, r2⟩ := id hl2
  have b1 := Heap.lt_size e1
  have b2 := Heap.lt_size e2
  have ne : ∀ {a b : Nat}, a < b → a ≠ b := fun h => Nat.ne_of_lt h
  refine call_zip_2 hl1 hl2 fun h' hz hTI hTO hi1 hi2 hsize hk => ?_
  refine wpAny_pyIter_zip hz ?_
  have D : ZipApart (s.heap.objs.size + 4) (s.heap.objs.size + 2) (s.heap.objs.size + 3) s.heap.objs.size (s.heap.objs.size + 1) l1 l2 := by
    have b1' : @LT.lt Nat _ l1 s.heap.objs.size := b1
    have b2' : @LT.lt Nat _ l2 s.heap.objs.size := b2
    constructor <;> (refine neN ?_; omega)
  have new : ∀ b o, s.heap.get? b = some o → b ∉ [s.heap.objs.size + 4, s.heap.objs.size + 3, s.heap.objs.size, s.heap.objs.size + 1] := by
    intro b o e hm
    have q : @LT.lt Nat _ b s.heap.objs.size := Heap.lt_size e
    simp only [List.mem_cons, List.not_mem_nil, or_false] at hm
    rcases hm with e | e | e | e <;> (rw [e] at q; omega)
  refine block_Z (RR := fun acc C => compPost (model prog w) A E none Q acc C) f (fun i => xs.getD i .none) (fun i => ys.getD i .none) (WalksT.zip2 hh _ _ _ _ _ _ _ D xs.toArray ys.toArray) ?_ ?_ hh hcell hkind hx hx₂ hxx ?_ ?_ ?_ ?_
  · intro i vals H_
    refine hideC fun D_ K_ => ?_
    obtain ⟨a, b, ha, hb, e7_⟩ := H_
    refine K_ ?_
    clear K_ D_
    subst e7_
    rw [List.getElem?_toArray] at ha hb
    simp [List.getD_eq_getElem?_getD, ha, hb]
  · simp [sizeLine]; omega
  · exact ⟨hz, hTI, ⟨_, _, hTO⟩, hi1, hi2, hl1.at fun o e => hk _ o e, hl2.at fun o e => hk _ o e⟩
  · intro b hb
    show b < h'.objs.size
    rw [hsize]
    simp only [List.mem_cons, List.not_mem_nil, or_false] at hb
    have b1' : @LT.lt Nat _ l1 s.heap.objs.size := b1
    have b2' : @LT.lt Nat _ l2 s.heap.objs.size := b2
    refine ltN ?_
    rcases hb with e | e | e | e | e | e | e <;> (rw [e]; omega)
  · intro i C m₃ h tk E' hi hn h1 h2 hkk
    simp only [List.size_toArray] at hi
    have g1 : xs[i]? = some (xs.getD i .none) := by rw [List.getD_eq_getElem?_getD, List.getElem?_eq_getElem (by omega)]; rfl
    have g2 : ys[i]? = some (ys.getD i .none) := by rw [List.getD_eq_getElem?_getD, List.getElem?_eq_getElem (by omega)]; rfl
    exact helt i C m₃ h tk E' _ _ g1 g2 hn h1 h2 fun b o e => hkk b o (new b o e) (hk b o e)
  · intro D' C h tk m' zs hD hC hDC hn hget hlen hf hkk
    simp only [List.size_toArray] at hlen
    have sub : Sub s.heap h := fun b o e => hkk b o (new b o e) (hk b o e)
    refine ⟨m', hn, fun h'' hs'' => fin D' h'' tk zs ?_ (hs''.extBut _ _ hDC hget) hlen hf ?_⟩
    · exact (show Sub s.heap h' from hk).none hD
    · intro b o e
      exact hs''.extBut b o (fun q => by rw [q] at e; have := hk _ _ e; rw [hC] at this; cases this) (sub b o e)
end Mine
end
section
open PySem PySem.W PyProof.Rows PySem.Calls
set_option linter.unusedVariables false
namespace Mine
/-- where a for loop stands, whatever its target -/
noncomputable def ForAt (prog : Program) (w : World) (A : Around) (env : Env) (target : Expr) (body : List Stmt) (Q : Flow → Shared → Prop) (E : Value → Shared → Prop) (it : Value) (s : Shared) : Prop :=
  codeAny (model prog w) A (.forLoop target it body [] env) (fun r s' => match r with | .ok f => Q f s' | .error e => cameBackBy (model prog w) A env E e s') s
theorem for_open {prog : Program} {w : World} {A : Around} {E : Value → Shared → Prop} {s : Shared} {env : Env} {target iter : Expr} {body : List Stmt} {pos : Pos} {Q : Flow → Shared → Prop}
    (h : wpAny (model prog w) A (eval iter env) (fun x s₁ => wpAny (model prog w) A (pyIter x) (fun it s₂ => ForAt prog w A env target body Q E it s₂) E s₁) E s)
    (hs : ∀ x, foldedSetIterable iter env x = pure x := by intro _; rfl) : wpAny (model prog w) A (exec (.For target iter body [] pos) env) Q E s := wpAny_For h hs
theorem for_any {prog : Program} {w : World} {A : Around} {E : Value → Shared → Prop} {s : Shared} {env : Env} {h₀ : Heap} {target : Expr} {body : List Stmt} {Q : Flow → Shared → Prop}
    {I : Addr} {fp wr : List Addr} {n : Nat} {P : Nat → Value → Prop} {St : Nat → Heap → Prop} {m₀ : Str → Option Value} {news : List (Addr × Obj)} (J : Nat → List (Str × Option Value) → List (Addr × Obj) → Prop)
    (W : Walks prog w A I fp wr n P St) (hLf : env.locals ∉ fp) (hwr : ∀ b ∈ wr, h₀.get? b = none) (hnw : ∀ p ∈ news, p.1 ∉ wr) (hst : St 0 s.heap) (F : Fr h₀ env.locals s.heap m₀) (N : News h₀ env.locals s.heap news)
    (ks : List Str) (hj : J 0 (ks.map fun k => (k, m₀ k)) news)
    (turn : ∀ i v l news₁ h tk own, i < n → P i v → J i l news₁ → (∀ p ∈ own, p.1 ∈ fp) → (∀ b ∈ fp, h₀.get? b = none → ∀ o, h.get? b = some o → (b, o) ∈ own) → St (i + 1) h → (∀ p ∈ news₁, p.1 ∉ wr) → Fr h₀ env.locals h (upd l m₀) → News h₀ env.locals h (news₁ ++ own) →
      wpAny (model prog w) A (assign target env v) (fun _ s₂ => wpAny (model prog w) A (execs body env) (TurnEnd h₀ env.locals wr own (fun m₂ news₂ => ∃ l', m₂ = upd l' m₀ ∧ J (i + 1) l' news₂) { s with heap := h, toks := tk } Q) E s₂) E { s with heap := h, toks := tk })
    (done : ∀ l news' h' tk, J n l news' → Fr h₀ env.locals h' (upd l m₀) → News h₀ env.locals h' news' → Q .next { s with heap := h', toks := tk })
    (ht : ∀ v, letOwnedTupleGo target (.ref I) v = pure () := by intro _; rfl)
    (hE : PassesOwn (model prog w) A env E := by passes_own) :
    ForAt prog w A env target body Q E (.ref I) s := by
  have hLw : env.locals ∉ wr := fun h => hLf (W.sub _ h)
  have old : ∀ b o, h₀.get? b = some o → b ∉ wr := fun b o e hb => by rw [hwr b hb] at e; cases e
  have F₀ : Fr h₀ env.locals s.heap (upd (ks.map fun k => (k, m₀ k)) m₀) := by
    rw [upd_self _ m₀ (fun x hx => by obtain ⟨k, _, rfl⟩ := List.mem_map.mp hx; rfl)]; exact F
  refine codeAny_forLoop
    (fun k s' => ∃ h' tk l' news' i, s' = { s with heap := h', toks := tk } ∧ St i h' ∧ Fr h₀ env.locals h' (upd l' m₀) ∧ News h₀ env.locals h' news' ∧ (∀ p ∈ news', p.1 ∉ wr) ∧ J i l' news' ∧ i ≤ n ∧ k = n + 1 - i) ?_ (n + 1)
    ⟨s.heap, s.toks, ks.map fun k => (k, m₀ k), news, 0, rfl, hst, F₀, N, hnw, hj, Nat.zero_le _, rfl⟩ ht
  intro k s' H_
  refine hideC fun D_ K_ => ?_
  obtain ⟨h', tk, l', news', i, e8_, hst', F', N', hnw', hJ, hi, e9_⟩ := H_
  refine K_ ?_
  clear K_ D_
  subst e8_
  subst e9_
  have next : ∀ h₁ : Heap, (∀ b o, b ∉ wr → h'.get? b = some o → h₁.get? b = some o) → Fr h₀ env.locals h₁ (upd l' m₀) ∧ News h₀ env.locals h₁ news' := fun h₁ hk₁ =>
    ⟨⟨F'.ns.at' fun o e => hk₁ _ o hLw e, fun b o e => hk₁ b o (old b o e) (F'.keep b o e), F'.above⟩, fun p hp => ⟨hk₁ _ _ (hnw' p hp) (N' p hp).1, (N' p hp).2⟩⟩
  by_cases hlt : i < n
  · refine W.item i _ _ _ hlt hst' fun v h₁ tk₁ hP hst₁ hk₁ => ?_
    obtain ⟨F₁, N₁⟩ := next h₁ hk₁
    have Nown : News h₀ env.locals h₁ (PyProof.Rows.ownOf h₀ fp h₁) := news_ownOf hLf
    refine wpAny_passesOwn hE (wpAny_mono (turn i v l' news' h₁ tk₁ (PyProof.Rows.ownOf h₀ fp h₁) hlt hP hJ ownOf_sub (fun b hb hn o e => PyProof.Rows.mem_ownOf hb hn e) hst₁ hnw' F₁ (N₁.append Nown)) (fun _ s₂ h₂ => wpAny_passesOwn hE (wpAny_mono h₂ (fun f s₃ h₃ => ?_) fun _ _ e => e)) fun _ _ e => e)
    have fin : (∃ h' tk' m₂ news₂ all, s₃ = { ({ s with heap := h₁, toks := tk₁ } : Shared) with heap := h', toks := tk' } ∧ Fr h₀ env.locals h' m₂ ∧ News h₀ env.locals h' all ∧ (∀ p ∈ PyProof.Rows.ownOf h₀ fp h₁, p ∈ all) ∧ (∀ p ∈ news₂, p ∈ all) ∧ (∀ p ∈ news₂, p.1 ∉ wr) ∧ ∃ l', m₂ = upd l' m₀ ∧ J (i + 1) l' news₂) →
        ∃ m, m < n + 1 - i ∧ ∃ h' tk l' news' i, s₃ = { s with heap := h', toks := tk } ∧ St i h' ∧ Fr h₀ env.locals h' (upd l' m₀) ∧ News h₀ env.locals h' news' ∧ (∀ p ∈ news', p.1 ∉ wr) ∧ J i l' news' ∧ i ≤ n ∧ m = n + 1 - i := by
      intro H_
      refine hideC fun D_ K_ => ?_
      obtain ⟨h₃', tk₃, m₂, news₂, all, e10_, F₃, N₃, ho₃, hn₃, ha₃, l₂, e11_, hJ₃⟩ := H_
      refine K_ ?_
      clear K_ D_
      subst e10_
      subst e11_
      refine ⟨n + 1 - (i + 1), by omega, h₃', tk₃, l₂, news₂, i + 1, rfl, ?_, F₃, fun p hp => N₃ p (hn₃ p hp), ha₃, hJ₃, hlt, rfl⟩
      refine W.frame _ _ _ hst₁ fun b hb o e => ?_
      cases hn : h₀.get? b with
      | some o₀ =>
        have : o₀ = o := by have := F₁.keep b o₀ hn; rw [e] at this; exact (Option.some.inj this).symm
        exact this ▸ F₃.keep b o₀ hn
      | none => exact (N₃ _ (ho₃ _ (PyProof.Rows.mem_ownOf hb hn e))).1
    cases f with
    | ret v => exact h₃
    | brk => exact h₃
    | cont => exact fin h₃
    | next => exact fin h₃
  · have hin : i = n := by omega
    subst hin
    refine W.done _ _ _ hst' fun h₁ tk₁ hk₁ => wpAny_execs_nil ?_
    obtain ⟨F₁, N₁⟩ := next h₁ hk₁
    exact done _ news' h₁ tk₁ hJ F₁ N₁
/-- a for loop over a range, whatever its target -/
theorem for_range {prog : Program} {w : World} {A : Around} {E : Value → Shared → Prop} {s : Shared} {env : Env} {h₀ : Heap} {target : Expr} {body : List Stmt} {Q : Flow → Shared → Prop}
    {r : Addr} {a₀ b₀ : Int} {t₀ u₀ v₀ : Tok} {n : Nat} {m₀ : Str → Option Value} {news : List (Addr × Obj)} (J : Nat → List (Str × Option Value) → List (Addr × Obj) → Prop)
    (hh : A.handled = none) (hr : IsRange s.heap r a₀ b₀ 1 t₀ u₀ v₀) (hsmall : Builtin.Range.small a₀ b₀ 1 = true) (hn : Builtin.Range.rangeSize a₀ b₀ 1 = (n : Int)) (F : Fr h₀ env.locals s.heap m₀) (N : News h₀ env.locals s.heap news)
    (ks : List Str) (hj : J 0 (ks.map fun k => (k, m₀ k)) news)
    (turn : ∀ i t l nw h tk I oI, i < n → J i l nw → (∀ p ∈ nw, p.1 ≠ I) → (∀ p ∈ news, p.1 < I) → Fr h₀ env.locals h (upd l m₀) → News h₀ env.locals h ((I, oI) :: nw) →
      wpAny (model prog w) A (assign target env (.int (a₀ + (i : Nat)) t)) (fun _ s₂ => wpAny (model prog w) A (execs body env) (TurnEnd h₀ env.locals [I] [(I, oI)] (fun m₂ news₂ => ∃ l', m₂ = upd l' m₀ ∧ J (i + 1) l' news₂) { s with heap := h, toks := tk } Q) E s₂) E { s with heap := h, toks := tk })
    (done : ∀ l news' h' tk, J n l news' → Fr h₀ env.locals h' (upd l m₀) → News h₀ env.locals h' news' → Q .next { s with heap := h', toks := tk })
    (ht : ∀ I v, letOwnedTupleGo target (.ref I) v = pure () := by intro _ _; rfl)
    (hE : PassesOwn (model prog w) A env E := by passes_own) :
    wpAny (model prog w) A (pyIter (.ref r)) (fun it s₂ => ForAt prog w A env target body Q E it s₂) E s := by
  refine wpAny_pyIter_range hr hsmall ?_
  have W : Walks prog w A s.heap.objs.size [s.heap.objs.size] [s.heap.objs.size] n (fun i v => i < n ∧ ∃ t, v = .int (a₀ + i * 1) t)
      (fun i h => IsRangeIter h s.heap.objs.size (a₀ + (i : Nat) * 1) ((n : Int) - (i : Nat)) 1) := (Walks.range hh _ a₀ 1 n).bound
  refine for_any J W ?_ ?_ ?_ (by show IsRangeIter _ _ _ _ _; rw [hn]; simpa using Heap.get?_push_size _ rfl) (F.push _) (fun p hp => ⟨Heap.get?_push_of_some _ (N p hp).1, (N p hp).2⟩) ks hj ?_ done (ht _) hE
  · intro hm
    exact absurd F.ns.lt ((List.mem_singleton.mp hm) ▸ Nat.lt_irrefl _)
  · intro b hb
    rw [List.mem_singleton.mp hb]
    exact next_is_new F
  · intro p hp hI
    exact absurd (Heap.lt_size (N p hp).1) ((List.mem_singleton.mp hI) ▸ Nat.lt_irrefl _)
  · rintro i v l nw h tk own hi ⟨_, t, rfl⟩ hJ ho ho2 hst hw F₁ N₁
    obtain ⟨oI, hoI⟩ : ∃ oI, h.get? s.heap.objs.size = some oI := ⟨_, hst⟩
    have hmem := ho2 s.heap.objs.size (.head _) (next_is_new F) oI hoI
    have hall : ∀ p ∈ own, p = (s.heap.objs.size, oI) := fun p hp => by
      have e1 := List.mem_singleton.mp (ho p hp)
      have e2 := (N₁ p (List.mem_append.mpr (.inr hp))).1
      rw [e1, hoI] at e2
      exact Prod.ext e1 (Option.some.inj e2).symm
    have := turn i t l nw h tk s.heap.objs.size oI hi hJ (fun p hp => fun e => hw p hp (by rw [e]; exact .head _)) (fun p hp => Heap.lt_size (N p hp).1) F₁ (fun p hp => by
      rcases List.mem_cons.mp hp with rfl | hp
      · exact N₁ _ (List.mem_append.mpr (.inr hmem))
      · exact N₁ _ (List.mem_append.mpr (.inl hp)))
    rw [Int.mul_one]
    refine wpAny_mono this (fun _ s₂ h₂ => wpAny_mono h₂ (fun f s₃ h₃ => ?_) fun _ _ e => e) fun _ _ e => e
    cases f with
    | ret v => exact h₃
    | brk => exact h₃
    | cont =>
      refine hideC fun D_ K_ => ?_
      obtain ⟨h', tk', m₂, news₂, all, a1, a2, a3, a4, a5⟩ := h₃
      refine K_ ?_
      clear K_ D_
      exact ⟨h', tk', m₂, news₂, all, a1, a2, a3, fun p hp => by rw [hall p hp]; exact a4 _ (.head _), a5⟩
    | next =>
      refine hideC fun D_ K_ => ?_
      obtain ⟨h', tk', m₂, news₂, all, a1, a2, a3, a4, a5⟩ := h₃
      refine K_ ?_
      clear K_ D_
      exact ⟨h', tk', m₂, news₂, all, a1, a2, a3, fun p hp => by rw [hall p hp]; exact a4 _ (.head _), a5⟩
end Mine
end
section
open PySem PySem.W PyProof.Rows PySem.Calls
set_option linter.unusedVariables false
namespace Mine
section
variable {prog : Program} {w : World} {A : Around} {s : Shared} {h₀ : Heap} {L : Addr} {m : Str → Option Value} {env : Env} {ct elt : Expr} {x : Str} {scope : Scope} {cl : List (Str × Addr)} {S : List (Addr × Obj) → Prop} {P : Nat → Value → Prop} {Fin : List Value → List (Addr × Obj) → Prop}
theorem compEnd_mono {s₁ : Shared} {I C D : Addr} {oI oC oD : Obj} {r r' : Value → List (Addr × Obj) → Prop} {y : Value} {s₂ : Shared} (h : LCg.CompEnd h₀ L m s₁ I oI C oC D oD S r y s₂) (hr : ∀ n, r y n → r' y n) : LCg.CompEnd h₀ L m s₁ I oI C oC D oD S r' y s₂ := by
  obtain ⟨h', tk, n, a, b, c, d, e, f⟩ := h
  exact ⟨h', tk, n, a, b, c, d, e, hr n f⟩
/-- a comprehension with effects, by an invariant -/
theorem rest_inv (J : Nat → List Value → List (Addr × Obj) → Prop) (n : Nat)
    (turn : ∀ i ys news, i < n → J i ys news → ∀ v I oI C oC D m₂ h tk (E' : Value → Shared → Prop), P i v → LCg.NsObj oC m₂ → m₂ x = some v → Fr h₀ L h m → News h₀ L h ((I, oI) :: (C, oC) :: (D, LCg.lst ys) :: news) → LCg.Off3 I C D news → ((@Ne Nat I C) ∧ (@Ne Nat I D) ∧ (@Ne Nat C D)) →
      wpAny (model prog w) A (eval elt (compEnvC scope cl C env)) (LCg.CompEnd h₀ L m { s with heap := h, toks := tk } I oI C oC D (LCg.lst ys) S (fun y news' => J (i + 1) (ys ++ [y]) news')) E' { s with heap := h, toks := tk })
    (fin : ∀ ys news, J n ys news → Fin ys news) : ∀ k i ys news, i + k = n → J i ys news → LCg.CompRest prog w A h₀ L m env elt x scope cl s S P Fin k i ys news
  | 0, i, ys, news, e, hJ => fin ys news (by have : i = n := e; exact this ▸ hJ)
  | k + 1, i, ys, news, e, hJ => fun v I oI C oC D m₂ h tk E' a1 a2 a3 a4 a5 a6 a7 =>
    wpAny_mono (turn i ys news (by omega) hJ v I oI C oC D m₂ h tk E' a1 a2 a3 a4 a5 a6 a7) (fun y s' h' => compEnd_mono h' fun n' hn => rest_inv J n turn fin k (i + 1) _ n' (by omega) hn) fun _ _ e => e
/-- with one test -/
theorem restT_inv (J : Nat → List Value → List (Addr × Obj) → Prop) (n : Nat)
    (turn : ∀ i ys news, i < n → J i ys news → ∀ v I oI C oC D m₂ h tk (E' : Value → Shared → Prop), P i v → LCg.NsObj oC m₂ → m₂ x = some v → Fr h₀ L h m → News h₀ L h ((I, oI) :: (C, oC) :: (D, LCg.lst ys) :: news) → LCg.Off3 I C D news → ((@Ne Nat I C) ∧ (@Ne Nat I D) ∧ (@Ne Nat C D)) →
      wpAny (model prog w) A (isTrue ct (compEnvC scope cl C env) (eval ct (compEnvC scope cl C env))) (fun ok s' => if ok = true then
        wpAny (model prog w) A (eval elt (compEnvC scope cl C env)) (LCg.CompEnd h₀ L m { s with heap := h, toks := tk } I oI C oC D (LCg.lst ys) S (fun y news' => J (i + 1) (ys ++ [y]) news')) E' s'
        else LCg.CompEnd h₀ L m { s with heap := h, toks := tk } I oI C oC D (LCg.lst ys) S (fun _ news' => J (i + 1) ys news') Value.none s') E' { s with heap := h, toks := tk })
    (fin : ∀ ys news, J n ys news → Fin ys news) : ∀ k i ys news, i + k = n → J i ys news → LCt.CompRestT prog w A h₀ L m env ct elt x scope cl s S P Fin k i ys news
  | 0, i, ys, news, e, hJ => fin ys news (by have : i = n := e; exact this ▸ hJ)
  | k + 1, i, ys, news, e, hJ => fun v I oI C oC D m₂ h tk E' a1 a2 a3 a4 a5 a6 a7 =>
    wpAny_mono (turn i ys news (by omega) hJ v I oI C oC D m₂ h tk E' a1 a2 a3 a4 a5 a6 a7) (fun ok s' h' => by
      cases ok with
      | true => exact wpAny_mono (show wpAny _ _ _ _ _ _ from by simpa only [if_true] using h') (fun y s'' h'' => compEnd_mono h'' fun n' hn => restT_inv J n turn fin k (i + 1) _ n' (by omega) hn) fun _ _ e => e
      | false =>
        refine compEnd_mono (r := fun _ news' => J (i + 1) ys news') (r' := fun _ news' => LCt.CompRestT prog w A h₀ L m env ct elt x scope cl s S P Fin k (i + 1) ys news') (y := Value.none) (by simpa only [Bool.false_eq_true, if_false] using h') fun n' hn => restT_inv J n turn fin k (i + 1) _ n' (by omega) hn) fun _ _ e => e
end
end Mine
end
section
open PySem PySem.W PyProof.Rows PySem.Calls PySem.Spec
set_option linter.unusedVariables false
namespace Mine
section
variable {M : Model} {A : Around} {E : Value → Shared → Prop} {s : Shared} {K : Frag} {h₀ : Heap} {L : Addr} {m mg mb : Str → Option Value} {p : Program} {loose : List Str} {x : Str} {pos : Pos} {v : Value} {Q : Value → Shared → Prop} {scope : Scope} {cl cl₀ : List (Str × Addr)} {C a : Addr} {cn : Str} {cs : Scope} {ccd : Value} {L₀ : Addr}
/-- a builtin's name in a comprehension -/
theorem nameE_B (F : Fr h₀ L s.heap m) (X : K.In h₀) (T : TopRead p loose mg mb h₀) (e : nsIn K mainGlobals x = some none) (hv : bootBuiltins x = some v) (hn : x ≠ "__name__") (h : Q v s)
    (hk : scope.kind = .function := by rfl) (hx : (compEnvC scope cl C (envX cn cs L₀ a ccd cl₀)).kindOf x = some .globalImplicit := by rfl) (hd : (x == ("__debug__" : Str)) = false := by decide) :
    wpAny M A (eval (.Name x pos) (compEnvC scope cl C (envX cn cs L₀ a ccd cl₀))) Q E s :=
  Name_function_global (by simp [compEnvC, relabel, hk]) hx (loadGlobal_builtin (env := compEnvC scope cl C (envX cn cs L₀ a ccd cl₀)) (T.g.keeps F.keep) (mg_none_of X T.g e) (T.b.keeps F.keep) ((T.builtins x hn).trans hv) h) hd
theorem nameE_K (F : Fr h₀ L s.heap m) (X : K.In h₀) (T : TopRead p loose mg mb h₀) (e : nsIn K mainGlobals x = some (some v)) (h : Q v s)
    (hk : scope.kind = .function := by rfl) (hx : (compEnvC scope cl C (envX cn cs L₀ a ccd cl₀)).kindOf x = some .globalImplicit := by rfl) (hd : (x == ("__debug__" : Str)) = false := by decide) :
    wpAny M A (eval (.Name x pos) (compEnvC scope cl C (envX cn cs L₀ a ccd cl₀))) Q E s :=
  Name_function_global (by simp [compEnvC, relabel, hk]) hx (loadGlobal_global (env := compEnvC scope cl C (envX cn cs L₀ a ccd cl₀)) (T.g.keeps F.keep) (mg_of X T.g e) h) hd
end
end Mine
end
section
open PySem PySem.W PyProof.Rows PySem.Calls PySem.Spec
set_option linter.unusedVariables false
namespace Mine
theorem sum_raw {prog : Program} {w : World} {A : Around} {E : Value → Shared → Prop} {s : Shared} {l : Addr} {vs : List Value} {ns : List Int} {Q : Value → Shared → Prop} (hh : A.handled = none) (hl : s.heap.IsList l vs.toArray) (hi : IntsAre vs ns)
    (h : ∀ h' tk t, Sub s.heap h' → Q (.int ns.sum t) { s with heap := h', toks := tk }) :
    wpAny (model prog w) A (call (.builtin "sum") [.ref l]) Q E s := by
  obtain ⟨xs, hx⟩ := hi.allInts.items
  rw [hx] at hl
  have e := hi.numsOf
  rw [← show vs.toArray.toList = vs from rfl, hx, nums_intItems] at e
  refine sum_intListG hh hl fun h' tk t' hk => ?_
  have := h h' tk t' hk
  rw [preSum_eq, List.take_of_length_le (by simp), e]; exact this
theorem subN {h₀ h h' : Heap} {L : Addr} {news : List (Addr × Obj)} (N : News h₀ L h news) (k : Sub h h') : News h₀ L h' news := N.grown k
theorem subF {h₀ h h' : Heap} {L : Addr} {m : Str → Option Value} (F : Fr h₀ L h m) (k : Sub h h') : Fr h₀ L h' m := F.keeps k
theorem isList_sub {h h' : Heap} {a : Addr} {vs : Array Value} (x : h.IsList a vs) (k : Sub h h') : h'.IsList a vs := x.at fun o e => k _ o e
/-- the entries of two lists of ints -/
theorem ints_get {vs : List Value} {ns : List Nat} (x : IntsAre vs (ns.map Int.ofNat)) {i : Nat} {v : Value} (e : vs[i]? = some v) : ∃ t, v = Value.int ((ns.getD i 0 : Nat) : Int) t := by
  obtain ⟨n, t, rfl, hn⟩ := x.at i v e
  rw [List.getElem?_map] at hn
  obtain ⟨a, h1, h2⟩ := Option.map_eq_some_iff.mp hn
  refine ⟨t, ?_⟩
  rw [List.getD_eq_getElem?_getD, h1, ← h2]; rfl
theorem ints_ofL : ∀ (vs : List Value) (f : Nat → Int), (∀ j y, vs[j]? = some y → ∃ t, y = Value.int (f j) t) → IntsAre vs ((List.range vs.length).map f)
  | [], _, _ => .nil
  | v :: vs, f, h => by
    obtain ⟨t, rfl⟩ := h 0 v rfl
    rw [List.length_cons, List.range_succ_eq_map, List.map_cons, List.map_map]
    exact .cons _ _ (ints_ofL vs (f ∘ Nat.succ) fun j y e => h (j + 1) y (by simpa using e))
theorem ints_of {f : Nat → Int} {n : Nat} {vs : List Value} (hl : vs.length = n) (h : ∀ j y, vs[j]? = some y → ∃ t, y = Value.int (f j) t) : IntsAre vs ((List.range n).map f) := by
  subst hl; exact ints_ofL vs f h
/-- a list against a list without items -/
theorem eq_nil {prog : Program} {w : World} {A : Around} {E : Value → Shared → Prop} {s : Shared} {l b : Addr} {ys : List Value} {Q : Value → Shared → Prop} (hl : s.heap.IsList l ys.toArray) (hb : s.heap.IsList b #[]) (hu : A.units < cLine)
    (h : Q (.bool ys.isEmpty) s) : wpAny (model prog w) A (compareOp .Eq (.ref l) (.ref b)) Q E s := by
  cases ys with
  | nil => exact SeqAt.eq_listAt (e := fun _ => true) hl hb rfl hu (fun j h1 _ => absurd h1 (by simp)) (by simpa using h)
  | cons y ys => exact SeqAt.eq_list_lengthsAt hl hb (by simp) hu h
end Mine
end
section
open PySem PySem.W PyProof.Rows PySem.Calls
set_option maxRecDepth 100000
set_option maxHeartbeats 8000000
set_option linter.unusedVariables false
set_option linter.unusedSimpArgs false
namespace Mine
theorem fill_F9x : ∀ (w : World) (h : Heap), (hd.heap_1 w.params).In h → PySem.Challenge.rw_qu0050_01.foot = 8 := by
  k_fill; intros; rfl
section
theorem getD_lt {l : List Nat} {q : Nat} (hq : 0 < q) (h : ∀ x ∈ l, x < q) (k : Nat) : l.getD k 0 < q := by
  rw [List.getD_eq_getElem?_getD]
  cases e : l[k]? with
  | none => exact hq
  | some x => exact h x (List.mem_of_getElem? e)
theorem count_ints (a : Nat) : ∀ l : List Nat, (l.map Int.ofNat).count (a : Int) = l.count a
  | [] => rfl
  | b :: l => by
    rw [List.map_cons, List.count_cons, List.count_cons, count_ints a l]
    congr 1
    by_cases h : b = a
    · subst h; simp
    · have : ¬ ((b : Int) = (a : Int)) := by omega
      simp [h, this]
theorem getD_map (l : List Nat) (k : Nat) : (l.map Int.ofNat).getD k 0 = ((l.getD k 0 : Nat) : Int) := by
  rw [List.getD_eq_getElem?_getD, List.getD_eq_getElem?_getD, List.getElem?_map]
  cases l[k]? <;> rfl
theorem zip_sum : ∀ (a b : List Nat), ((List.range (min a.length b.length)).map fun k => ((a.getD k 0 * b.getD k 0 : Nat) : Int)).sum = ((((a.zip b).map fun p => p.1 * p.2).sum : Nat) : Int)
  | [], b => by simp
  | a :: as, [] => by simp
  | a :: as, b :: bs => by
    have e : min (a :: as).length (b :: bs).length = min as.length bs.length + 1 := by simp only [List.length_cons]; omega
    rw [e, List.range_succ_eq_map, List.map_cons, List.map_map, List.sum_cons]
    have h := zip_sum as bs
    rw [List.zip_cons_cons, List.map_cons, List.sum_cons, Int.natCast_add, ← h]
    rfl
theorem wordOf_ints (q n i : Nat) : ((rangeKs 0 n).map fun k => ((i / q ^ k.toNat % q : Nat) : Int)) = (wordOf q n i).map Int.ofNat := by
  unfold rangeKs wordOf
  rw [List.map_map, List.map_map]
  apply List.map_congr_left
  intro k _
  simp
theorem comp_first {M : Model} {A : Around} {E : Value → Shared → Prop} {s : Shared} {Q : Value → Shared → Prop} {env : Env} {t iter : Expr} {ifs : List Expr} {k} {rest} (h : wpAny M A (eval iter env) Q E s) : wpAny M A (firstIter (⟨t, iter, ifs, k⟩ :: rest) env) Q E s := h
/-- rows of ints on a heap -/
noncomputable def RowsAt (h : Heap) (vs : List Value) (rows : List (List Nat)) : Prop :=
  vs.length = rows.length ∧ ∀ (i : Nat) (r : List Nat), rows[i]? = some r → ∃ (a : Addr) (xs : List Value), vs[i]? = some (.ref a) ∧ h.IsList a xs.toArray ∧ IntsAre xs (r.map Int.ofNat)
namespace F9c
noncomputable def P0 (w : World) (loose : List Str) (mean : ExcName → Option Value) (mg : Str → Option Value) (mb : Str → Option Value) (g : Heap) (prog : Program) (dep : Nat) (fra : Option (List Env)) (gua : Option (List Code)) (uni : Nat) (hp0 : Heap) (gn : Array GenState) (dr : Drawn) (tk0 : Nat) (os0 : OsState) (Q : Value → Shared → Prop) (E : Value → Shared → Prop) (D : Addr) (vs : List Value) (rows : List (List Nat)) (n : Nat) (q : Nat) (tq : Tok) (tn : Tok) : Prop :=
  ∀ (G : Gd w loose mean mg mb g) (hg : Sub g hp0) (hA : dep ≤ 600) (hu : uni ≤ 4000) (hD : hp0.IsList D vs.toArray) (hR : RowsAt hp0 vs rows) (hr3 : rows.length ≤ 3) (hrl : ∀ r ∈ rows, r.length = n ∧ ∀ x ∈ r, x < q) (hn : n ≤ 5) (hn1 : 1 ≤ n) (hq : 2 ≤ q) (hq2 : q ≤ 3) (post : ∀ h' tk D' vs' ep, hp0.get? D' = none → h'.get? D' = some (listOf (vs' : List Value).toArray ep) → IntsAre vs' ((sqFold q n rows (q ^ n)).map Int.ofNat) → Sub hp0 h' → Q (.ref D') ⟨h', gn, dr, tk, os0⟩),
   wpAny (model prog w) ⟨none, dep, fra, gua, uni⟩ (call (.ref 140) [.ref D, .int (q : Int) tq, .int (n : Int) tn]) Q E ⟨hp0, gn, dr, tk0, os0⟩
noncomputable abbrev Par : Type := (World) × (List Str) × (ExcName → Option Value) × (Str → Option Value) × (Str → Option Value) × (Heap) × (Program) × (Nat) × (Option (List Env)) × (Option (List Code)) × (Nat) × (Heap) × (Array GenState) × (Drawn) × (Nat) × (OsState) × (Value → Shared → Prop) × (Value → Shared → Prop) × (Addr) × (List Value) × (List (List Nat)) × (Nat) × (Nat) × (Tok) × (Tok)
noncomputable def P1 (p : Par) : Prop := P0 p.1 p.2.1 p.2.2.1 p.2.2.2.1 p.2.2.2.2.1 p.2.2.2.2.2.1 p.2.2.2.2.2.2.1 p.2.2.2.2.2.2.2.1 p.2.2.2.2.2.2.2.2.1 p.2.2.2.2.2.2.2.2.2.1 p.2.2.2.2.2.2.2.2.2.2.1 p.2.2.2.2.2.2.2.2.2.2.2.1 p.2.2.2.2.2.2.2.2.2.2.2.2.1 p.2.2.2.2.2.2.2.2.2.2.2.2.2.1 p.2.2.2.2.2.2.2.2.2.2.2.2.2.2.1 p.2.2.2.2.2.2.2.2.2.2.2.2.2.2.2.1 p.2.2.2.2.2.2.2.2.2.2.2.2.2.2.2.2.1 p.2.2.2.2.2.2.2.2.2.2.2.2.2.2.2.2.2.1 p.2.2.2.2.2.2.2.2.2.2.2.2.2.2.2.2.2.2.1 p.2.2.2.2.2.2.2.2.2.2.2.2.2.2.2.2.2.2.2.1 p.2.2.2.2.2.2.2.2.2.2.2.2.2.2.2.2.2.2.2.2.1 p.2.2.2.2.2.2.2.2.2.2.2.2.2.2.2.2.2.2.2.2.2.1 p.2.2.2.2.2.2.2.2.2.2.2.2.2.2.2.2.2.2.2.2.2.2.1 p.2.2.2.2.2.2.2.2.2.2.2.2.2.2.2.2.2.2.2.2.2.2.2.1 p.2.2.2.2.2.2.2.2.2.2.2.2.2.2.2.2.2.2.2.2.2.2.2.2
theorem some_par : Nonempty Par := ⟨⟨aWorld 1, [], fun _ => none, fun _ => none, fun _ => none, default, default, 0, none, none, 0, default, #[], (start (default : Program)).1.drawn, 0, (start (default : Program)).1.os, fun _ _ => True, fun _ _ => True, 0, [], [], 0, 0, 0, 0⟩⟩
@[irreducible] noncomputable def cc : Par := @Classical.epsilon Par some_par fun p => ¬ P1 p
@[irreducible] noncomputable def w : World := by with_unfolding_all exact cc.1
@[irreducible] noncomputable def loose : List Str := by with_unfolding_all exact cc.2.1
@[irreducible] noncomputable def mean : ExcName → Option Value := by with_unfolding_all exact cc.2.2.1
@[irreducible] noncomputable def mg : Str → Option Value := by with_unfolding_all exact cc.2.2.2.1
@[irreducible] noncomputable def mb : Str → Option Value := by with_unfolding_all exact cc.2.2.2.2.1
@[irreducible] noncomputable def g : Heap := by with_unfolding_all exact cc.2.2.2.2.2.1
@[irreducible] noncomputable def prog : Program := by with_unfolding_all exact cc.2.2.2.2.2.2.1
@[irreducible] noncomputable def dep : Nat := by with_unfolding_all exact cc.2.2.2.2.2.2.2.1
@[irreducible] noncomputable def fra : Option (List Env) := by with_unfolding_all exact cc.2.2.2.2.2.2.2.2.1
@[irreducible] noncomputable def gua : Option (List Code) := by with_unfolding_all exact cc.2.2.2.2.2.2.2.2.2.1
@[irreducible] noncomputable def uni : Nat := by with_unfolding_all exact cc.2.2.2.2.2.2.2.2.2.2.1
@[irreducible] noncomputable def hp0 : Heap := by with_unfolding_all exact cc.2.2.2.2.2.2.2.2.2.2.2.1
@[irreducible] noncomputable def gn : Array GenState := by with_unfolding_all exact cc.2.2.2.2.2.2.2.2.2.2.2.2.1
@[irreducible] noncomputable def dr : Drawn := by with_unfolding_all exact cc.2.2.2.2.2.2.2.2.2.2.2.2.2.1
@[irreducible] noncomputable def tk0 : Nat := by with_unfolding_all exact cc.2.2.2.2.2.2.2.2.2.2.2.2.2.2.1
@[irreducible] noncomputable def os0 : OsState := by with_unfolding_all exact cc.2.2.2.2.2.2.2.2.2.2.2.2.2.2.2.1
@[irreducible] noncomputable def Q : Value → Shared → Prop := by with_unfolding_all exact cc.2.2.2.2.2.2.2.2.2.2.2.2.2.2.2.2.1
@[irreducible] noncomputable def E : Value → Shared → Prop := by with_unfolding_all exact cc.2.2.2.2.2.2.2.2.2.2.2.2.2.2.2.2.2.1
@[irreducible] noncomputable def D : Addr := by with_unfolding_all exact cc.2.2.2.2.2.2.2.2.2.2.2.2.2.2.2.2.2.2.1
@[irreducible] noncomputable def vs : List Value := by with_unfolding_all exact cc.2.2.2.2.2.2.2.2.2.2.2.2.2.2.2.2.2.2.2.1
@[irreducible] noncomputable def rows : List (List Nat) := by with_unfolding_all exact cc.2.2.2.2.2.2.2.2.2.2.2.2.2.2.2.2.2.2.2.2.1
@[irreducible] noncomputable def n : Nat := by with_unfolding_all exact cc.2.2.2.2.2.2.2.2.2.2.2.2.2.2.2.2.2.2.2.2.2.1
@[irreducible] noncomputable def q : Nat := by with_unfolding_all exact cc.2.2.2.2.2.2.2.2.2.2.2.2.2.2.2.2.2.2.2.2.2.2.1
@[irreducible] noncomputable def tq : Tok := by with_unfolding_all exact cc.2.2.2.2.2.2.2.2.2.2.2.2.2.2.2.2.2.2.2.2.2.2.2.1
@[irreducible] noncomputable def tn : Tok := by with_unfolding_all exact cc.2.2.2.2.2.2.2.2.2.2.2.2.2.2.2.2.2.2.2.2.2.2.2.2
@[irreducible] noncomputable def g' : Heap := hideAll hp0 (([] : List (Addr × Obj)).map (·.1))
@[irreducible] noncomputable def L : Addr := hp0.objs.size
theorem core : P0 w loose mean mg mb g prog dep fra gua uni hp0 gn dr tk0 os0 Q E D vs rows n q tq tn := by
  unfold P0
  intro G hg hA hu hD hR hr3 hrl hn hn1 hq hq2 post
  have hL : L = hp0.objs.size := by unfold L; rfl
  refine call_topCE [] (g' := g') (L := L) (by unfold g'; rfl) hL G hg (fun p hp => nomatch hp) (by k_is) (by k_is) rfl rfl (by decide +kernel) (by show dep < 1000; omega) ?_
  intro h₁ tk cells G' hbut hnone F N Y l1
  simp only [List.map_nil] at hbut
  clear l1
  k_cells Y; (try simp only [List.cons_append, List.nil_append, List.append_nil] at N); (try dsimp only)
  have XX := G'.X
  have T := G'.T
  rename_i oW oH oQ dW dH dQ
  have dQ : oQ.data = .cell (some (.int (q : Int) tq)) := dQ
  have dW : ∃ u, oW.data = .cell u := ⟨_, dW⟩
  have dH : ∃ u, oH.data = .cell u := ⟨_, dH⟩
  repeat walk_at "go"
  refine for_open ?_
  have hpw : q ^ n ≤ 243 := by
    have : q ^ n ≤ 3 ^ 5 := Nat.le_trans (Nat.pow_le_pow_left hq2 n) (Nat.pow_le_pow_right (by decide) hn)
    simpa using this
  repeat walk_at "go"
  with_reducible rename IsRange _ _ _ _ _ _ _ _ => hrg
  with_reducible rename Fr _ _ _ _ => F9
  with_reducible rename News _ _ _ _ => N9
  rename_i l0 _ l1 D0 _ l2 _ _ _ _ _ _ _ _ _
  obtain ⟨r1, r2⟩ := range_ok (b := (q : Int) ^ (n : Int).toNat) (n := q ^ n) (by simp) (by omega)
  refine for_range (fun i l nw => ∃ oW oH vsC ep o0, l = [] ∧ nw = [(D0, listOf (vsC : List Value).toArray ep), (l0, o0), (L + 1 + 1 + 1, oW), (L + 1 + 1, oH), (L + 1, oQ)] ∧ (∃ u, oW.data = .cell u) ∧ (∃ u, oH.data = .cell u) ∧ IntsAre vsC ((sqFold q n rows i).map Int.ofNat)) rfl hrg r1 r2 F9 N9 [] ?_ ?_ ?_
  · refine ⟨oW, oH, _, _, _, rfl, rfl, dW, dH, ?_⟩
    have e : (sqFold q n rows 0).map Int.ofNat = List.replicate (n + 1) 0 := by simp [sqFold]
    rw [e]
    exact ints_rep _ _
  · intro i t l nw h tk2 I oI hi H_
    refine hideC fun D_ K_ => ?_
    obtain ⟨oW, oH, vsC, ep, o0, e1_, e2_, ⟨uW, dW⟩, ⟨uH, dH⟩, hIC⟩ := H_
    refine K_ ?_
    clear K_ D_
    subst e1_
    subst e2_
    intro hne hlt F1 N1
    rw [upd_nil] at F1
    clear F9 N9
    k_lt hlt
    iterate 13 walk_at "go"
    obtain ⟨r3, r4⟩ := range_ok (b := (n : Int)) (n := n) rfl (by omega)
    with_reducible rename IsRange _ _ _ _ _ _ _ _ => hrg2
    with_reducible rename Fr _ _ _ _ => F3
    with_reducible rename News _ _ _ _ => N3
    clear hrg
    refine LCg.CompSrc.range (n := n) rfl F3 N3 hrg2 r3 r4 (by simp [sizeLine]; omega) ?_
    intro g2
    refine kcf_range (fun k => ((i / q ^ k.toNat % q : Nat) : Int)) ?_ ?_
    · intro k t I oI C oC D2 m₂ ys h tk2 E' hk1 hk2 hC hx F N off ne mk
      have hqk : (1 : Int) ≤ (q : Int) ^ k.toNat := by
        have : 1 ≤ q ^ k.toNat := Nat.one_le_pow _ _ (by omega)
        have e : ((q ^ k.toNat : Nat) : Int) = (q : Int) ^ k.toNat := by simp
        omega
      have hqk2 : (q : Int) ^ k.toNat ≤ 243 := by
        have : q ^ k.toNat ≤ q ^ n := Nat.pow_le_pow_right (by omega) (by omega)
        have e : ((q ^ k.toNat : Nat) : Int) = (q : Int) ^ k.toNat := by simp
        omega
      iterate 7 walk_at "go"
      refine floordiv_int (hp := .inl (PyProof.noPylong_small (by omega))) (by omega) ?_
      iterate 1 walk_at "go"
      refine PyProof.Rows.mod_int (by omega) ?_
      have e : ((0 + (i : Int)).fdiv ((q : Int) ^ k.toNat)).fmod (q : Int) = ((i / q ^ k.toNat % q : Nat) : Int) := by
        have e : ((q ^ k.toNat : Nat) : Int) = (q : Int) ^ k.toNat := by simp
        rw [Int.zero_add, ← e, Int.fdiv_eq_ediv_of_nonneg _ (by omega), Int.fmod_eq_emod_of_nonneg _ (by omega)]
        simp
      rw [e]
      exact LCg.CompEnd.intro F N _ (fun p hp => hp) off trivial ⟨rfl, _, rfl⟩
    · unfold KPfDone
      intro wys hwys
      unfold LCg.FinE
      intro D3 h3 tk3 F3 N3 o1
      simp only [LCg.Off1, and_true] at o1
      dsimp only
      iterate 5 walk_at "go"
      with_reducible rename Fr _ _ _ _ => F4
      with_reducible rename News _ _ _ _ => N4
      refine LCt.ListComp_T F4 rfl (by decide) rfl (by decide) rfl ?_
      iterate 1 walk_at "go"
      have hD' : g'.IsList D vs.toArray := hD.at fun o e => hbut.sub _ o e
      have hvl : vs.length = rows.length := hR.1
      refine LCt.CompSrcT.base rfl F4 N4 hD' (by simp [sizeLine]; omega) ?_
      intro g3
      refine restT_inv (fun j ys nw => nw = _ ∧ (ys = [] ↔ ∀ r ∈ rows.take j, dot q (wordOf q n i) r = 0)) vs.toArray.size ?_ ?_ _ 0 _ _ (by simp) ⟨rfl, by simp⟩
      · rintro j ys nw hj ⟨rfl, hys⟩ v I2 oI2 C oC D4 m₂ h4 tk4 E' hv hC hx F N off ne
        iterate 4 walk_at "go"
        refine nameE_B (by k_asm) XX (by k_asm) (by k_is) (by boot_fast) (by decide) ?_
        iterate 2 walk_at "go"
        rw [eval_ListComp]
        refine wpAny_comprehension_free (use := none) rfl (by intro _; rfl) rfl rfl (by decide) ?_
        refine comp_first ?_
        iterate 1 walk_at "go"
        refine nameE_B (by k_asm) XX (by k_asm) (by k_is) (by boot_fast) (by decide) ?_
        have hwi : IntsAre wys ((wordOf q n i).map Int.ofNat) := by rw [← wordOf_ints]; exact hwys
        have hwl : wys.length = n := by rw [hwi.length]; simp [wordOf]
        have hjr : j < rows.length := by rw [List.size_toArray] at hj; omega
        obtain ⟨r, hr⟩ : ∃ r, rows[j]? = some r := ⟨_, List.getElem?_eq_getElem hjr⟩
        refine hideC fun D_ K_ => ?_
        obtain ⟨a, xs, ea, la, ia⟩ := hR.2 j r hr
        refine K_ ?_
        clear K_ D_
        have hva : v = .ref a := by
          rw [List.getElem?_toArray] at hv
          rw [hv] at ea; exact Option.some.inj ea
        subst hva
        have hxl : xs.length = n := by rw [ia.length, List.length_map]; exact (hrl r (List.mem_of_getElem? hr)).1
        iterate 5 walk_at "go"
        iterate 1 walk_at "go"
        refine zip_comp (xs := wys) (ys := xs) (fun k y => ∃ t, y = Value.int (((wordOf q n i).getD k 0 * r.getD k 0 : Nat) : Int) t) rfl (N.isList (by k_mem)) (isList_sub la (hbut.sub.trans F.keep)) (by omega) (by decide) rfl rfl rfl (by decide) ?_ ?_
        · intro k C2 m3 h5 tk5 E5 a' b' ha hb hns ha' hb' hkk
          obtain ⟨t1, rfl⟩ := ints_get hwi ha
          obtain ⟨t2, rfl⟩ := ints_get ia hb
          iterate 1 walk_at "go"
          refine ldVarK hns ha' ?_
          refine ldVarK hns hb' ?_
          have hwk : (wordOf q n i).getD k 0 < q := getD_lt (by omega) (fun x hx => by
            obtain ⟨_, _, rfl⟩ := List.mem_map.mp hx
            exact Nat.mod_lt _ (by omega)) k
          have hrk : r.getD k 0 < q := getD_lt (by omega) (hrl r (List.mem_of_getElem? hr)).2 k
          refine PyProof.Rows.mul_int (hm := IntMulOk.of_right (intBits_le_iff.mpr (by omega))) ?_
          exact ⟨⟨_, by rw [← Int.natCast_mul]⟩, _, rfl⟩
        · intro D5 h5 tk5 zs hD5 hD5' hzl hzs hsub
          obtain ⟨F5, N5, hne5⟩ := after_pure F N hsub hD5 hD5'
          simp only [List.forall_mem_cons, List.not_mem_nil, false_imp_iff, implies_true, and_true] at hne5
          have hrn : r.length = n := (hrl r (List.mem_of_getElem? hr)).1
          obtain ⟨Lz, hzi, hLz⟩ : ∃ Lz, IntsAre zs Lz ∧ Lz.sum = ((((wordOf q n i).zip r).map fun p => p.1 * p.2).sum : Nat) := ⟨_, ints_of hzl hzs, by
            rw [← zip_sum, hwl, hxl, wordOf_length, hrn]⟩
          clear F N
          have hqz : (q : Int) ≠ 0 := by omega
          iterate 7 walk_at "go"
          k_unfold
          dsimp only
          have hfm : Lz.sum.fmod (q : Int) = ((dot q (wordOf q n i) r : Nat) : Int) := by
            rw [hLz, Int.fmod_eq_emod_of_nonneg _ (by omega)]; rfl
          rw [hfm]
          have ht2 : rows.take (j + 1) = rows.take j ++ [r] := by rw [List.take_add_one, hr]; rfl
          by_cases hd0 : dot q (wordOf q n i) r = 0
          · rw [hd0]
            rw [if_neg (by decide)]
            refine LCg.CompEnd.intro (by k_asm) (by k_asm) _ (fun p hp => .tail _ hp) off (.inl hD') ⟨rfl, ?_⟩
            rw [hys, ht2]
            constructor
            · intro h x hx
              rcases List.mem_append.mp hx with hx | hx
              · exact h x hx
              · rw [List.mem_singleton.mp hx]; exact hd0
            · intro h x hx
              exact h x (List.mem_append_left _ hx)
          · rw [if_pos (by simpa using hd0)]
            iterate 1 walk_at "go"
            refine LCg.CompEnd.intro (by k_asm) (by k_asm) _ (fun p hp => .tail _ hp) off (.inl hD') ⟨rfl, ?_⟩
            rw [ht2]
            constructor
            · intro h; simp at h
            · intro h
              exact absurd (h r (List.mem_append_right _ (.head _))) hd0
      · rintro ys nw ⟨rfl, hys⟩
        have hys : ys = [] ↔ orth q rows (wordOf q n i) = true := by
          rw [hys, List.take_of_length_le (by rw [List.size_toArray]; omega)]
          simp [orth]
        unfold LCg.FinE
        intro D6 h6 tk6 F6 N6 o6
        simp only [LCg.Off1, and_true] at o6
        dsimp only
        iterate 3 walk_at "go"
        with_reducible rename Fr _ _ _ _ => F7
        with_reducible rename News _ _ _ _ => N7
        refine eq_nil (N7.isList (by k_mem)) (N7.isList (by k_mem)) (by show uni + 3 < 9900; omega) ?_
        iterate 2 walk_at "go"
        · have hcz : List.count 0 ((rangeKs 0 n).map fun k => ((i / q ^ k.toNat % q : Nat) : Int)) = zeros (wordOf q n i) := by
            rw [wordOf_ints]; exact count_ints _ _
          have hzn : zeros (wordOf q n i) ≤ n := by
            have := List.count_le_length (a := 0) (l := wordOf q n i)
            rw [wordOf_length] at this; exact this
          have hvC := hIC.length
          rw [List.length_map, sqFold_length] at hvC
          iterate 13 walk_at "go"
          rw [hcz]
          iterate 1 walk_at "go"
          refine ksa_get N7 (by k_mem) hIC (by omega) (by rw [List.length_map, sqFold_length]; omega) (by omega) ?_
          intro t8
          iterate 2 walk_at "go"
          refine ksa_set F7 N7 (by k_upd) hIC (by omega) (by rw [List.length_map, sqFold_length]; omega) (by omega) ?_
          intro h8 F8 N8 hI8 _ _
          clear F7 N7
          generalize hv8 : vsC.set _ _ = vs8 at N8 hI8
          repeat walk_at "go"
          have ho : orth q rows (wordOf q n i) = true := by
            with_reducible rename List.isEmpty ys = true => hye
            exact hys.mp (List.isEmpty_iff.mp hye)
          with_reducible rename Obj.data _ = Data.cell (some (Value.ref D3)) => dW'
          with_reducible rename Obj.data _ = Data.cell (some (Value.int (0 + (i : Int)) t)) => dH'
          refine ⟨_, _, _, [(D0, listOf (vs8 : List Value).toArray ep), (l0, o0), (L + 1 + 1 + 1, _), (L + 1 + 1, _), (L + 1, oQ)], _, rfl, F8, N8, ?_, ?_, ?_, [], rfl, _, _, vs8, ep, o0, rfl, rfl, ⟨_, dW'⟩, ⟨_, dH'⟩, ?_⟩
          · intro p hp
            rw [List.mem_singleton.mp hp]; k_mem
          · intro p hp
            exact .tail _ (.tail _ (.tail _ (.tail _ hp)))
          · intro p hp
            simp only [List.mem_cons, List.not_mem_nil, or_false] at hp
            rcases hp with rfl | rfl | rfl | rfl | rfl <;> refine nmem1 ?_ <;> dsimp only <;> omega
          · have e1 : ((n : Int) - ((zeros (wordOf q n i) : Nat) : Int)).toNat = n - zeros (wordOf q n i) := by omega
            show IntsAre _ ((sqStep q n rows i (sqFold q n rows i)).map Int.ofNat)
            unfold sqStep
            rw [ho, if_pos rfl, List.map_set]
            rw [e1] at hI8
            have e2 : ((sqFold q n rows i).map Int.ofNat).getD (n - zeros (wordOf q n i)) 0 = (((sqFold q n rows i).getD (n - zeros (wordOf q n i)) 0 : Nat) : Int) := getD_map _ _
            rw [e2] at hI8
            exact hI8
        · repeat walk_at "go"
          have hne : ys ≠ [] := fun q => by rename_i a; rw [q] at a; cases a
          have ho : orth q rows (wordOf q n i) = false := by
            cases e : orth q rows (wordOf q n i) with
            | false => rfl
            | true => exact absurd (hys.mpr e) hne
          with_reducible rename Obj.data _ = Data.cell (some (Value.ref D3)) => dW'
          with_reducible rename Obj.data _ = Data.cell (some (Value.int (0 + (i : Int)) t)) => dH'
          refine ⟨_, _, _, [(D0, listOf (vsC : List Value).toArray ep), (l0, o0), (L + 1 + 1 + 1, _), (L + 1 + 1, _), (L + 1, oQ)], _, rfl, F7, N7, ?_, ?_, ?_, [], rfl, _, _, vsC, ep, o0, rfl, rfl, ⟨_, dW'⟩, ⟨_, dH'⟩, ?_⟩
          · intro p hp
            rw [List.mem_singleton.mp hp]; k_mem
          · intro p hp
            exact .tail _ (.tail _ (.tail _ (.tail _ hp)))
          · intro p hp
            simp only [List.mem_cons, List.not_mem_nil, or_false] at hp
            rcases hp with rfl | rfl | rfl | rfl | rfl <;> refine nmem1 ?_ <;> dsimp only <;> omega
          · show IntsAre vsC ((sqStep q n rows i (sqFold q n rows i)).map Int.ofNat)
            unfold sqStep
            rw [ho]
            exact hIC
  · intro l nw h' tk9 H_
    refine hideC fun D_ K_ => ?_
    obtain ⟨oW, oH, vsC, ep, o0, e3_, e4_, hdW, hdH, hIC⟩ := H_
    refine K_ ?_
    clear K_ D_
    subst e3_
    subst e4_
    intro F8 N8
    rw [upd_nil] at F8
    clear F9 N9
    repeat walk_at "go"
    refine post _ _ _ vsC ep (hbut.sub.none (N8.fresh (by k_mem))) (N8.get (by k_mem)) hIC (hbut.sub.trans F8.keep)
theorem all : ∀ p : Par, P1 p := fun p => Classical.byContradiction fun hn => (@Classical.epsilon_spec Par (fun p => ¬ P1 p) ⟨p, hn⟩) (by with_unfolding_all exact core)
end F9c
theorem square_spec {w : World} {loose : List Str} {mean : ExcName → Option Value} {mg mb : Str → Option Value} {g : Heap} {prog : Program} {A : Around} {s : Shared} {Q E : Value → Shared → Prop} (G : Gd w loose mean mg mb g) (hg : Sub g s.heap) (hA : A.depth ≤ 600) (hu : A.units ≤ 4000) (hh : A.handled = none) {D : Addr} {vs : List Value} {rows : List (List Nat)} {n q : Nat} {tq tn : Tok}
   (hD : s.heap.IsList D vs.toArray) (hR : RowsAt s.heap vs rows) (hr3 : rows.length ≤ 3) (hrl : ∀ r ∈ rows, r.length = n ∧ ∀ x ∈ r, x < q) (hn : n ≤ 5) (hn1 : 1 ≤ n) (hq : 2 ≤ q) (hq2 : q ≤ 3)
   (post : ∀ h' tk D' vs' ep, s.heap.get? D' = none → h'.get? D' = some (listOf (vs' : List Value).toArray ep) → IntsAre vs' ((sqFold q n rows (q ^ n)).map Int.ofNat) → Sub s.heap h' → Q (.ref D') { s with heap := h', toks := tk }) :
   wpAny (model prog w) A (call (.ref 140) [.ref D, .int (q : Int) tq, .int (n : Int) tn]) Q E s := by
  refine hideC fun D_ K_ => ?_
  obtain ⟨hand, dep, fra, gua, uni⟩ := A
  refine K_ ?_
  clear K_ D_
  refine hideC fun D_ K_ => ?_
  obtain ⟨hp0, gn, dr, tk0, os0⟩ := s
  refine K_ ?_
  clear K_ D_
  dsimp only at hh
  subst hh
  exact F9c.all ⟨w, loose, mean, mg, mb, g, prog, dep, fra, gua, uni, hp0, gn, dr, tk0, os0, Q, E, D, vs, rows, n, q, tq, tn⟩ G hg hA hu hD hR hr3 hrl hn hn1 hq hq2 post
end
end Mine
end
section
open PySem PySem.W PyProof.Rows PySem.Calls PySem.Spec
set_option linter.unusedVariables false
set_option maxRecDepth 100000
namespace Mine
open Builtin Builtin.ObjectAttr
theorem fslot_set : Slot "function" "__setattr__" "object.__setattr__" :=
  .of (owner := "object") (n := "__setattr__") (by rw [typeLookup_type, builtinLookup_eq_fast]; kernel_rfl) (by decide +kernel) (by decide +kernel) (by decide +kernel)
    (by first | exact .inl (by decide +kernel) | exact .inr (by decide +kernel)) (by rw [isSubtype_type]; kernel_rfl)
theorem fmro : mroOf (.type "function") = pure [.type "function", .type "object"] := by rw [mroOf_type]; kernel_rfl
theorem fread : typeLookup (.type "function") "read" = pure none := by rw [typeLookup_type, builtinLookup_eq_fast]; kernel_rfl
theorem fpass (self : Value) : refuseLoop self "__setattr__" [.type "function", .type "object"] = pure () := by
  unfold refuseLoop
  simp only [List.forIn_cons]
  have e1 : classOwn (.type "function") "__setattr__" = pure none := by
    show (pure (builtinOwn "function" "__setattr__") : Sem (Option Value)) = _
    rw [builtinOwn_eq_fast]; kernel_rfl
  rw [e1, F.own_object_setattr]
  rfl
theorem upd_get {h : Heap} {a : Addr} {o : Obj} {f : Obj → Obj} (e : h.get? a = some o) (hf : (f o).isFreed = false) : (h.update a f).get? a = some (f o) := Heap.get?_update_self _ e hf
/-- a name stored in a dict that is written out -/
theorem nsSet_raw {prog : Program} {w : World} {A : Around} {E : Value → Shared → Prop} {s : Shared} {D : Addr} {es : List DictEntry} {n : Nat} {name : Str} {v : Value} {Q : Unit → Shared → Prop}
  (hD : s.heap.get? D = some (dictOf es n)) (hl : (getL name es).isSome = true)
  (h : ∀ h', h'.get? D = some (dictOf (putL name (PyData.keyHash w.params name) (.str name s.toks) v es) (putN name es n)) → (∀ b o, b ≠ D → s.heap.get? b = some o → h'.get? b = some o) → h'.objs.size = s.heap.objs.size →
    Q () { s with heap := h', toks := s.toks + 1 }) :
  wpAny (model prog w) A (nsSet D name v) Q E s := by
  unfold nsSet
  refine wpAny_bind (wpAny_bind (wpAny_askSetting (wpAny_pure (wpAny_bind (wpAny_mkText (wpAny_bind (wpAny_loadPart hD ?_)))))))
  have c : (!es.toArray.any (·.key.isStr name) && es.toArray.any (·.refKey)) = false := by
    rw [← Array.any_toList, ← Array.any_toList]
    unfold getL at hl
    split at hl
    · rename_i en he
      rw [List.any_eq_true.mpr ⟨en, List.mem_of_find?_eq_some he, List.find?_some he⟩]; rfl
    · split at hl
      · cases hl
      · rename_i z; rw [Bool.not_eq_true] at z; rw [z, Bool.and_false]
  dsimp only
  rw [aRefKeyMayBeTheName_at, c]
  refine wpAny_updatePart hD ?_
  refine h _ ?_ ?_ ?_
  · rw [upd_get hD (by rw [putName_dict]; rfl), putName_dict]; rfl
  · intro b o hb e
    exact (Heap.get?_update_ne _ _ _ _ hb).trans e
  · exact Heap.size_update _ _ _
theorem news_lt {h₀ h : Heap} {L : Addr} {news : List (Addr × Obj)} (N : News h₀ L h news) : ∀ p ∈ news, p.1 < h.objs.size := fun p hp => Heap.lt_size (N p hp).1
/-- the first attribute of a function -/
theorem fn_setattr {prog : Program} {w : World} {A : Around} {E : Value → Shared → Prop} {s : Shared} {f : Addr} {fd : FuncData} {v : Value} {Q : Unit → Shared → Prop} (ho : s.heap.get? f = some { cls := .type "function", data := .func fd })
  (h : ∀ h' D a k, h'.get? f = some { cls := .type "function", dict := some D, data := .func fd } → h'.get? D = some (dictOf [⟨a, .str "read" k, v⟩] 1) → D = s.heap.objs.size → (∀ b o, b ≠ f → s.heap.get? b = some o → h'.get? b = some o) →
    Q () { s with heap := h', toks := s.toks + 2 }) :
  wpAny (model prog w) A (setAttr (.ref f) "read" v) Q E s := by
  unfold setAttr
  refine wpAny_bind (wpAny_mkText ?_)
  refine wpAny_bind (wpAny_callSpecial?_slot ⟨_, ho, rfl⟩ fslot_set ?_)
  refine wpAny_call ?_
  refine codeAny_call_builtin fslot_set.plain F.entry_object_setattr ?_
  refine fslot_set.check _ _ _ _ _ _ _ _ ⟨_, ho, rfl⟩ (F.args_object_setattr_3 _ _ _) ?_
  unfold Builtin.«object.__setattr__»
  iterate 40 (first | rw [refuse_eq] | (rw [fmro]) | (rw [fread]) | (rw [fpass]) | (with_reducible refine wpAny_loadPart_at ho ?_; dsimp only) | wp_step)
  rw [if_neg (by decide +kernel)]
  have hfl := Heap.lt_size ho
  have ho1 : (s.heap.push { cls := .type "dict", data := .dict #[] }).get? f = some { cls := .type "function", data := .func fd } := Heap.get?_push_of_some _ ho
  have hfs : f ≠ s.heap.objs.size := Nat.ne_of_lt hfl
  refine wpAny_bind (wpAny_alloc' ?_)
  refine wpAny_bind (wpAny_update' ho1 ?_)
  iterate 3 wp_step
  dsimp only
  unfold storeInDict newKeyGuard
  have hgd : ((s.heap.push { cls := .type "dict", data := .dict #[] }).update f fun o => { cls := o.cls, dict := some s.heap.objs.size, data := o.data, slots := o.slots }).get? s.heap.objs.size = some (dictOf [] 0) :=
    (Heap.get?_update_ne _ _ _ _ hfs.symm).trans (Heap.get?_push_at rfl rfl)
  have hx1 : ((s.heap.push { cls := .type "dict", data := .dict #[] }).update f fun o => { cls := o.cls, dict := some s.heap.objs.size, data := o.data, slots := o.slots }).get? f = some { cls := .type "function", dict := some s.heap.objs.size, data := .func fd } := upd_get ho1 rfl
  refine wpAny_bind (wpAny_pure (wpAny_bind (nsSet_raw hgd rfl fun h' hD hk hsz => ?_)))
  refine wpAny_bind (wpAny_lookBehind hD (pastItsLine_dict (by rw [sizeLine_eq]; simp [putL])) ?_)
  refine wpAny_pure ?_
  refine wpAny_pure ?_
  refine h h' _ _ _ (hk _ _ hfs hx1) hD rfl fun b o hb e => ?_
  refine hk _ _ (Nat.ne_of_lt (Heap.lt_size e)) ((Heap.get?_update_ne _ _ _ _ hb).trans (Heap.get?_push_of_some _ e))
section
variable {w : World} {loose : List Str} {mean : ExcName → Option Value} {mg mb : Str → Option Value} {g : Heap} {prog : Program} {A : Around} {s : Shared} {R : Result → Shared → Prop} {name qual : Str} {params : Arguments} {body : List Stmt} {scope : Scope} {dV kV doc pm cdv ct oc : Value} {an od : Option Addr} {osl : Array (Option Value)} {f : Addr} {args : List Value} {binds : List (Str × Value)} {cl : List (Str × Addr)} {fo : Obj}
/-- a call of a def of the top without cells, as code -/
theorem code_top (ms : List (Addr × Obj)) (G : Gd w loose mean mg mb g) (hg : Sub g s.heap) (hm : ∀ p ∈ ms, s.heap.get? p.1 = some p.2 ∧ g.get? p.1 = none)
    (ho : (hd.heap_1 w.params).lookup f = some ⟨oc, od, .func (fnOf name qual params body scope dV kV doc pm an cdv ct), osl⟩) (hcd : codeIn (hd.heap_1 w.params) cdv qual = true)
    (hbind : bindArgs (fnOf name qual params body scope dV kV doc pm an cdv ct) ⟨args, []⟩ = pure binds) (hloc : ∀ y ∈ binds, scope.names.lookup y.1 = some .local)
    (hroom : A.depth < recursionLimit)
    (h : ∀ g' L h₁ tk, Gd w loose mean mg mb g' → But (ms.map (·.1)) s.heap g' → (∀ b, s.heap.get? b = none → g'.get? b = none) → L = s.heap.objs.size → Fr g' L h₁ (fun y => binds.reverse.lookup y) → News g' L h₁ ms → (∀ p ∈ ms, p.1 < L) →
      wpAny (model prog w) (A.deeper (envOf qual scope L f cdv)) (execs body (envOf qual scope L f cdv))
        (fun fl s' => R (.ok (.ret (match fl with | .ret v => v | _ => .none))) s') (fun _ _ => False) { s with heap := h₁, toks := tk })
    (hco : scope.isCoroutine = false := by rfl) (hgen : scope.isGenerator = false := by rfl) (hk : scope.kind = .function := by rfl)
    (hcell : ∀ x ∈ scope.names, x.2 ≠ .cell := by decide) : codeAny (model prog w) A (.call (.ref f) ⟨args, []⟩) R s := by
  have G' : Gd w loose mean mg mb (hideAll s.heap (ms.map (·.1))) := G.hide hg fun a ha => by
    obtain ⟨p, hp, rfl⟩ := List.mem_map.mp ha
    exact (hm p hp).2
  refine codeAny_call_def (fd := fnX name qual params body scope [] dV kV doc pm an cdv ct) hroom ((G.X.keeps hg) f _ ho) rfl (G.T.nolimit.keeps hg) (codeRec_of (G.X.keeps hg) hcd) rfl (BindsTo.of_eq hbind) hcell hloc (fun h₁ hns keep => ?_) hco hgen hk
  refine wpAny_mono (h _ _ h₁ _ G' (fun b o hb e => hideAll_get _ e hb) (fun b e => ?_) rfl ⟨hns, fun b o e => keep b o (of_hideAll _ e), Nat.le_of_eq (hideAll_size _ _)⟩
    (fun p hp => ⟨keep _ _ (hm p hp).1, Nat.ne_of_lt (Heap.lt_size (hm p hp).1), hideAll_none _ (List.mem_map_of_mem hp)⟩) fun p hp => Heap.lt_size (hm p hp).1) (fun _ _ x => x) fun _ _ x => x.elim
  cases q : (hideAll s.heap (ms.map (·.1))).get? b with
  | none => rfl
  | some o => rw [of_hideAll _ q] at e; cases e
end
end Mine
end
section
open PySem PySem.W PyProof.Rows PySem.Calls PySem.Spec
set_option linter.unusedVariables false
set_option maxRecDepth 100000
namespace Mine
noncomputable def p3 : { t : Arguments × List Stmt × Scope × Pos // inDef 63 1 = some t } := ⟨(_, _, _, _), rfl⟩
noncomputable abbrev q3 : Str := Str.ofString "_law_lexer.<locals>._law_read_on"
set_option genInjectivity false in
set_option genSizeOfSpec false in
/-- the lexer's objects: where they stand -/
structure LexP (text : Str) where
  (c1 c2 AT fr st sd dx lx pb : Nat)
  (o1 o2 : Obj)
  (fd : FuncData)
  (doc pm ctv : Value)
  (c' : Addr)
  (a0 a1 a2 a3 a4 : Int)
  (k0 k1 k2 k3 k4 tw tt : Tok)
  d1 : o1.data = .cell (some (.str text tt))
  d2 : o2.data = .cell (some (.ref AT))
  lt : c1 < c2 ∧ c2 < AT ∧ AT < fr ∧ fr < st ∧ st < sd ∧ sd < dx ∧ dx < lx ∧ lx < pb
noncomputable abbrev LexP.rd {text : Str} (P : LexP text) : Obj := fnMade (Str.ofString "_law_read_on") q3 p3.1.1 p3.1.2.1 p3.1.2.2.1 [(Str.ofString "text", P.c1), (Str.ofString "at", P.c2)] P.doc P.pm P.c' P.ctv
noncomputable abbrev LexP.fields {text : Str} (P : LexP text) (line : Int) (tl : Tok) : Obj := dictOf [⟨P.a1, .str (Str.ofString "lineno") P.k1, .int line tl⟩, ⟨P.a2, .str (Str.ofString "instream") P.k2, .ref P.st⟩, ⟨P.a3, .str (Str.ofString "whitespace") P.k3, .str (Str.ofString "\n\t\r ") P.tw⟩, ⟨P.a4, .str (Str.ofString "pushback") P.k4, .ref P.pb⟩] 4
noncomputable abbrev LexP.strm {text : Str} (P : LexP text) : Obj := { cls := .type "function", dict := some P.sd, data := .func P.fd }
noncomputable abbrev LexP.sdict {text : Str} (P : LexP text) : Obj := dictOf [⟨P.a0, .str (Str.ofString "read") P.k0, .ref P.fr⟩] 1
noncomputable abbrev LexP.objs {text : Str} (P : LexP text) (p : Nat) (tp : Tok) (ea : Nat) (line : Int) (tl : Tok) (pv : List Value) (ep : Nat) : List (Addr × Obj) :=
  [(P.AT, listOf #[.int (p : Int) tp] ea), (P.dx, P.fields line tl), (P.pb, listOf pv.toArray ep), (P.lx, instObj 94 P.dx), (P.st, P.strm), (P.sd, P.sdict), (P.fr, P.rd), (P.c1, P.o1), (P.c2, P.o2)]
end Mine
end
section
open PySem PySem.W PyProof.Rows PySem.Calls
namespace Mine
theorem lexP0_ex {t : Str} : Nonempty (LexP t) := ⟨{ c1 := 0, c2 := 1, AT := 2, fr := 3, st := 4, sd := 5, dx := 6, lx := 7, pb := 8, o1 := { cls := .none, data := .cell (some (.str t 0)) }, o2 := { cls := .none, data := .cell (some (.ref 2)) }, fd := default, doc := .none, pm := .none, ctv := .none, c' := 0, a0 := 0, a1 := 0, a2 := 0, a3 := 0, a4 := 0, k0 := 0, k1 := 0, k2 := 0, k3 := 0, k4 := 0, tw := 0, tt := 0, d1 := rfl, d2 := rfl, lt := by decide }⟩
noncomputable def lexP0 {t : Str} : LexP t := Classical.choice lexP0_ex
end Mine
end
section
open PySem PySem.W PyProof.Rows PySem.Calls
set_option maxRecDepth 100000
set_option maxHeartbeats 8000000
set_option linter.unusedVariables false
set_option linter.unusedSimpArgs false
namespace Mine
theorem fill_F10x : ∀ (w : World) (h : Heap), (hd.heap_1 w.params).In h → PySem.Challenge.rw_qu0050_01.foot = 8 := by
  k_fill; intros; rfl
section
namespace F10c
noncomputable def P0 (w : World) (loose : List Str) (mean : ExcName → Option Value) (mg : Str → Option Value) (mb : Str → Option Value) (g : Heap) (prog : Program) (dep : Nat) (fra : Option (List Env)) (gua : Option (List Code)) (uni : Nat) (hp0 : Heap) (gn : Array GenState) (dr : Drawn) (tk0 : Nat) (os0 : OsState) (Q : Value → Shared → Prop) (E : Value → Shared → Prop) (text : Str) (tt : Tok) : Prop :=
  ∀ (G : Gd w loose mean mg mb g) (hg : Sub g hp0) (hA : dep ≤ 600) (hu : uni ≤ 4000) (h110 : hp0.get? 110 = some (tabObj #[])) (g110 : g.get? 110 = none) (post : ∀ h' tk (P : LexP text) tp tl ea ep, But [110] hp0 h' → (∃ ps, h'.get? 110 = some (tabObj ps)) → (∀ q ∈ P.objs 0 tp ea 1 tl [] ep, h'.get? q.1 = some q.2 ∧ hp0.get? q.1 = none) → (∃ oc vs t, (h'.get? P.c' = some oc ∧ hp0.get? P.c' = none) ∧ oc.data = .fields vs ∧ vs[1]? = some (.str q3 t)) → Q (.ref P.lx) ⟨h', gn, dr, tk, os0⟩),
   wpAny (model prog w) ⟨none, dep, fra, gua, uni⟩ (call (.ref 115) [.str text tt]) Q E ⟨hp0, gn, dr, tk0, os0⟩
noncomputable abbrev Par : Type := (World) × (List Str) × (ExcName → Option Value) × (Str → Option Value) × (Str → Option Value) × (Heap) × (Program) × (Nat) × (Option (List Env)) × (Option (List Code)) × (Nat) × (Heap) × (Array GenState) × (Drawn) × (Nat) × (OsState) × (Value → Shared → Prop) × (Value → Shared → Prop) × (Str) × (Tok)
noncomputable def P1 (p : Par) : Prop := P0 p.1 p.2.1 p.2.2.1 p.2.2.2.1 p.2.2.2.2.1 p.2.2.2.2.2.1 p.2.2.2.2.2.2.1 p.2.2.2.2.2.2.2.1 p.2.2.2.2.2.2.2.2.1 p.2.2.2.2.2.2.2.2.2.1 p.2.2.2.2.2.2.2.2.2.2.1 p.2.2.2.2.2.2.2.2.2.2.2.1 p.2.2.2.2.2.2.2.2.2.2.2.2.1 p.2.2.2.2.2.2.2.2.2.2.2.2.2.1 p.2.2.2.2.2.2.2.2.2.2.2.2.2.2.1 p.2.2.2.2.2.2.2.2.2.2.2.2.2.2.2.1 p.2.2.2.2.2.2.2.2.2.2.2.2.2.2.2.2.1 p.2.2.2.2.2.2.2.2.2.2.2.2.2.2.2.2.2.1 p.2.2.2.2.2.2.2.2.2.2.2.2.2.2.2.2.2.2.1 p.2.2.2.2.2.2.2.2.2.2.2.2.2.2.2.2.2.2.2
theorem some_par : Nonempty Par := ⟨⟨aWorld 1, [], fun _ => none, fun _ => none, fun _ => none, default, default, 0, none, none, 0, default, #[], (start (default : Program)).1.drawn, 0, (start (default : Program)).1.os, fun _ _ => True, fun _ _ => True, (Str.ofString ""), 0⟩⟩
@[irreducible] noncomputable def cc : Par := @Classical.epsilon Par some_par fun p => ¬ P1 p
@[irreducible] noncomputable def w : World := by with_unfolding_all exact cc.1
@[irreducible] noncomputable def loose : List Str := by with_unfolding_all exact cc.2.1
@[irreducible] noncomputable def mean : ExcName → Option Value := by with_unfolding_all exact cc.2.2.1
@[irreducible] noncomputable def mg : Str → Option Value := by with_unfolding_all exact cc.2.2.2.1
@[irreducible] noncomputable def mb : Str → Option Value := by with_unfolding_all exact cc.2.2.2.2.1
@[irreducible] noncomputable def g : Heap := by with_unfolding_all exact cc.2.2.2.2.2.1
@[irreducible] noncomputable def prog : Program := by with_unfolding_all exact cc.2.2.2.2.2.2.1
@[irreducible] noncomputable def dep : Nat := by with_unfolding_all exact cc.2.2.2.2.2.2.2.1
@[irreducible] noncomputable def fra : Option (List Env) := by with_unfolding_all exact cc.2.2.2.2.2.2.2.2.1
@[irreducible] noncomputable def gua : Option (List Code) := by with_unfolding_all exact cc.2.2.2.2.2.2.2.2.2.1
@[irreducible] noncomputable def uni : Nat := by with_unfolding_all exact cc.2.2.2.2.2.2.2.2.2.2.1
@[irreducible] noncomputable def hp0 : Heap := by with_unfolding_all exact cc.2.2.2.2.2.2.2.2.2.2.2.1
@[irreducible] noncomputable def gn : Array GenState := by with_unfolding_all exact cc.2.2.2.2.2.2.2.2.2.2.2.2.1
@[irreducible] noncomputable def dr : Drawn := by with_unfolding_all exact cc.2.2.2.2.2.2.2.2.2.2.2.2.2.1
@[irreducible] noncomputable def tk0 : Nat := by with_unfolding_all exact cc.2.2.2.2.2.2.2.2.2.2.2.2.2.2.1
@[irreducible] noncomputable def os0 : OsState := by with_unfolding_all exact cc.2.2.2.2.2.2.2.2.2.2.2.2.2.2.2.1
@[irreducible] noncomputable def Q : Value → Shared → Prop := by with_unfolding_all exact cc.2.2.2.2.2.2.2.2.2.2.2.2.2.2.2.2.1
@[irreducible] noncomputable def E : Value → Shared → Prop := by with_unfolding_all exact cc.2.2.2.2.2.2.2.2.2.2.2.2.2.2.2.2.2.1
@[irreducible] noncomputable def text : Str := by with_unfolding_all exact cc.2.2.2.2.2.2.2.2.2.2.2.2.2.2.2.2.2.2.1
@[irreducible] noncomputable def tt : Tok := by with_unfolding_all exact cc.2.2.2.2.2.2.2.2.2.2.2.2.2.2.2.2.2.2.2
@[irreducible] noncomputable def g' : Heap := hideAll hp0 ([(110, tabObj #[])].map (·.1))
@[irreducible] noncomputable def L : Addr := hp0.objs.size
theorem core : P0 w loose mean mg mb g prog dep fra gua uni hp0 gn dr tk0 os0 Q E text tt := by
  unfold P0
  intro G hg hA hu h110 g110 post
  have hL : L = hp0.objs.size := by unfold L; rfl
  refine call_topCE [(110, tabObj #[])] (g' := g') (L := L) (by unfold g'; rfl) hL G hg (fun p hp => by cases List.mem_singleton.mp hp; exact ⟨h110, g110⟩) (by k_is) (by k_is) rfl rfl (by decide +kernel) (by show dep < 1000; omega) ?_
  intro h₁ tk cells G' hbut hnone F N Y l1
  simp only [List.map_cons, List.map_nil] at hbut
  k_lt l1; k_cells Y; rename_i oA0 oT dA0 dT; (try simp only [List.cons_append, List.nil_append] at N); (try dsimp only)
  have XX := G'.X
  have T := G'.T
  have C1 := G'.c1
  iterate 20 walk_at "go"
  with_reducible rename Fr _ _ _ _ => F2
  with_reducible rename News _ _ _ _ => N2
  rename_i AT hq1 lq1 hq2 oA dA fr cF ocF vF tF ctF dcF hq3 tkq1 dF1 dF2 lF1 lF2 hq4 st cS ocS vS tS ctS hq5 tkq2 dS1 dS2 lS1 lS2 hq6
  refine fn_setattr (N2.get (by k_mem)) ?_
  intro h3 D3 a3 k3 e3 d3 hD3 hk3
  obtain ⟨F3, N3⟩ := adapt F2 N2 (by k_updF) (fun b o hb e => hk3 b o (fun q => hb (by rw [q]; exact .head _)) e) e3
  dsimp only at hD3
  have hlD := news_lt N2
  rw [← hD3] at hlD
  k_lt hlD
  replace N3 := news_cons N3 d3 (fun q => by
    have := F2.ns.lt
    rw [← q, hD3] at this; exact absurd this (Nat.lt_irrefl _)) (by rw [hD3]; exact next_is_new F2)
  clear F2 N2
  dsimp only at F3 N3
  iterate 9 walk_at "go"
  refine call_cls F3 XX N3 (by k_is) (by k_is) (by k_is) ?_
  intro lx dx h4 F4 N4 l4 l5
  k_lt l4; k_lt2 l5
  clear F3 N3
  refine code_top [(lx, instObj 94 dx), (dx, dictOf [] 0)] G' F4.keep (fun p hp => by
    simp only [List.mem_cons, List.not_mem_nil, or_false] at hp
    rcases hp with rfl | rfl
    · exact ⟨N4.get (by k_mem), N4.fresh (by k_mem)⟩
    · exact ⟨N4.get (by k_mem), N4.fresh (by k_mem)⟩) (by k_is) (by k_is) rfl (locs rfl) (by rw [depth_under_make]; show dep + 1 + 1 < 1000; omega) ?_
  intro g5 L5 h5 tk5 G5 hb5 hn5 hL5 F5 N5 l6
  simp only [List.map_cons, List.map_nil] at hb5
  k_lt l6
  have XX5 := G5.X
  have T5 := G5.T
  repeat walk_at "go"
  refine ⟨rfl, ?_⟩
  with_reducible rename Fr _ _ _ _ => F6
  with_reducible rename News _ _ _ _ => N6
  have hb6 : But [lx, dx] h4 _ := fun b o hb e => F6.keep b o (hb5 b o hb e)
  have hb7 : But [110] hp0 _ := fun b o hb e => hb6 b o (fun q => by
    have := F4.keep b o (hbut b o hb e)
    rcases List.mem_cons.mp q with q | q
    · have z := N4.fresh (a := lx) (by k_mem)
      rw [← q, hbut b o hb e] at z; cases z
    · have z := N4.fresh (a := dx) (by k_mem)
      rw [← List.mem_singleton.mp q, hbut b o hb e] at z; cases z) (F4.keep b o (hbut b o hb e))
  have dT : oT.data = .cell (some (.str text tt)) := dT
  rename_i pb hq10 l10 hq11
  have up : ∀ a o, (a, o) ∈ _ → @Ne Nat a lx → @Ne Nat a dx → @Ne Nat a 110 → _ := fun a o hm h1 h2 h3 => (⟨hb6 a o (nmem2 h1 h2) (N4.get hm), hbut.fresh (nmem1 h3) (N4.fresh hm)⟩ : hq11.get? a = some o ∧ hp0.get? a = none)
  have hcd := (⟨ocF, vF, tF, up cF ocF (by k_mem) (by omega) (by omega) (by omega), dF1, dF2⟩ : ∃ oc vs t, (hq11.get? cF = some oc ∧ hp0.get? cF = none) ∧ oc.data = .fields vs ∧ vs[1]? = some (.str q3 t))
  refine' post _ _ { c1 := L + 1, c2 := L + 1 + 1, AT := AT, fr := fr, st := st, sd := D3, dx := dx, lx := lx, pb := pb, o1 := oT, o2 := oA, fd := ?fd, doc := dcF, pm := ?pm, ctv := ctF, c' := cF, a0 := a3, a1 := ?a1, a2 := ?a2, a3 := ?a3, a4 := ?a4, k0 := k3, k1 := ?k1, k2 := ?k2, k3 := ?k3, k4 := ?k4, tw := ?tw, tt := tt, d1 := dT, d2 := dA, lt := by omega } ?tp ?tl 0 0 hb7 ⟨_, hb6 110 _ (nmem2 (by omega) (by omega)) (N4.get (a := 110) (by k_mem))⟩ ?main hcd
  case main =>
    have frs : ∀ a o, (a, o) ∈ _ → @Ne Nat a 110 → hp0.get? a = none := fun a o hm h3 => hbut.fresh (nmem1 h3) (N4.fresh (a := a) (o := o) hm)
    have hpb : hp0.get? pb = none := by
      cases e : hp0.get? pb with
      | none => rfl
      | some o =>
        have := N6.fresh (a := pb) (by k_mem)
        rw [hb5 pb o (nmem2 (by omega) (by omega)) (F4.keep pb o (hbut pb o (nmem1 (by omega)) e))] at this
        cases this
    intro q hq
    simp only [List.mem_cons, List.not_mem_nil, or_false] at hq
    rcases hq with rfl | rfl | rfl | rfl | rfl | rfl | rfl | rfl | rfl
    · exact up _ _ (by k_mem) (by omega) (by omega) (by omega)
    · exact ⟨N6.get (by k_mem), frs dx _ (by k_mem) (by omega)⟩
    · exact ⟨N6.get (by k_mem), hpb⟩
    · exact ⟨N6.get (by k_mem), frs lx _ (by k_mem) (by omega)⟩
    · exact up _ _ (by k_mem) (by omega) (by omega) (by omega)
    · exact up _ _ (by k_mem) (by omega) (by omega) (by omega)
    · exact up _ _ (by k_mem) (by omega) (by omega) (by omega)
    · exact up _ _ (by k_mem) (by omega) (by omega) (by omega)
    · exact up _ _ (by k_mem) (by omega) (by omega) (by omega)
theorem all : ∀ p : Par, P1 p := fun p => Classical.byContradiction fun hn => (@Classical.epsilon_spec Par (fun p => ¬ P1 p) ⟨p, hn⟩) (by with_unfolding_all exact core)
end F10c
theorem lexer_spec {w : World} {loose : List Str} {mean : ExcName → Option Value} {mg mb : Str → Option Value} {g : Heap} {prog : Program} {A : Around} {s : Shared} {Q E : Value → Shared → Prop} (G : Gd w loose mean mg mb g) (hg : Sub g s.heap) (hA : A.depth ≤ 600) (hu : A.units ≤ 4000) (hh : A.handled = none) {text : Str} {tt : Tok}
   (h110 : s.heap.get? 110 = some (tabObj #[])) (g110 : g.get? 110 = none)
   (post : ∀ h' tk (P : LexP text) tp tl ea ep, But [110] s.heap h' → (∃ ps, h'.get? 110 = some (tabObj ps)) → (∀ q ∈ P.objs 0 tp ea 1 tl [] ep, h'.get? q.1 = some q.2 ∧ s.heap.get? q.1 = none) → (∃ oc vs t, (h'.get? P.c' = some oc ∧ s.heap.get? P.c' = none) ∧ oc.data = .fields vs ∧ vs[1]? = some (.str q3 t)) → Q (.ref P.lx) { s with heap := h', toks := tk }) :
   wpAny (model prog w) A (call (.ref 115) [.str text tt]) Q E s := by
  refine hideC fun D_ K_ => ?_
  obtain ⟨hand, dep, fra, gua, uni⟩ := A
  refine K_ ?_
  clear K_ D_
  refine hideC fun D_ K_ => ?_
  obtain ⟨hp0, gn, dr, tk0, os0⟩ := s
  refine K_ ?_
  clear K_ D_
  dsimp only at hh
  subst hh
  exact F10c.all ⟨w, loose, mean, mg, mb, g, prog, dep, fra, gua, uni, hp0, gn, dr, tk0, os0, Q, E, text, tt⟩ G hg hA hu h110 g110 post
end
end Mine
end
section
open PySem PySem.W PyProof.Rows PySem.Calls PySem.Spec PySem.Builtin PySem.Builtin.Str
set_option linter.unusedVariables false
set_option maxRecDepth 100000
namespace Mine
/-- a str by its signs -/
noncomputable abbrev S (l : List Nat) : Str := ⟨l.toArray⟩
theorem S_len (l : List Nat) : (S l).length = l.length := by show l.toArray.size = _; simp
theorem S_app (a b : List Nat) : S a ++ S b = S (a ++ b) := by show Str.mk (a.toArray ++ b.toArray) = _; simp
theorem S_inj {a b : List Nat} (h : S a = S b) : a = b := by
  injection h with h; simpa using h
theorem S_beq (a b : List Nat) : (S a == S b) = decide (a = b) := by
  by_cases h : a = b
  · subst h; simp
  · rw [decide_eq_false h]
    exact beq_eq_false_iff_ne.mpr fun q => h (S_inj q)
theorem S_of (s : String) : Str.ofString s = S (s.toList.map Char.toNat) := Str.ofString_eq_toList s
theorem indices_hi {n a b : Nat} (h : n ≤ b) : strSliceIndices (some (a : Int)) (some (b : Int)) 1 n = strSliceIndices (some (a : Int)) (some (n : Int)) 1 n := by
  have h0 : ¬ (b : Int) < 0 := by omega
  have h1 : ¬ ((n : Int) < 0) := by omega
  have h2 : (1 : Int) > 0 := by decide
  have h3 : (n : Int) ≤ (b : Int) := by omega
  simp only [strSliceIndices, h0, h1, h2, if_false, if_true, Int.min_eq_right h3, Int.min_self]
theorem slice_S (cs : List Nat) (a b : Nat) (ha : a ≤ b) (hl : a ≤ cs.length) : Txt.slice (S cs) (some (a : Int)) (some (b : Int)) = S ((cs.drop a).take (b - a)) := by
  by_cases hb : b ≤ cs.length
  · have := beq_iff_eq.mp (slice_closes (x := S cs) (i := (a : Int)) (j := (b : Int)) ⟨by omega, by omega, by simp; omega⟩)
    rw [this]
    have e : ((b : Int) - (a : Int)).toNat = b - a := by omega
    simp [S, e]
  · have e2 : Txt.slice (S cs) (some (a : Int)) (some (b : Int)) = Txt.slice (S cs) (some (a : Int)) (some (cs.length : Int)) := by
      unfold Txt.slice
      rw [S_len, indices_hi (by omega)]
    have := beq_iff_eq.mp (slice_closes (x := S cs) (i := (a : Int)) (j := (cs.length : Int)) ⟨by omega, by omega, by simp⟩)
    rw [e2, this]
    have e : ((cs.length : Int) - (a : Int)).toNat = cs.length - a := by omega
    rw [e]
    simp only [S, Int.toNat_natCast]
    rw [List.take_of_length_le (by simp), List.take_of_length_le (by simp; omega)]
/-- all but ch was kept -/
theorem but_of {h g' h' : Heap} {L : Addr} {m : Str → Option Value} {ms news : List (Addr × Obj)} (ch : List Addr) (hbut : But (ms.map (·.1)) h g') (hm : ∀ p ∈ ms, h.get? p.1 = some p.2) (F : Fr g' L h' m) (N : News g' L h' news) (hs : ∀ p ∈ ms, p.1 ∈ ch ∨ p ∈ news) : But ch h h' := fun b o hb e => by
  by_cases hq : b ∈ ms.map (·.1)
  · obtain ⟨p, hp, rfl⟩ := List.mem_map.mp hq
    rcases hs p hp with z | z
    · exact absurd z hb
    · rw [hm p hp] at e
      cases e
      exact N.get z
  · exact F.keep b o (hbut b o hq e)
end Mine
end
section
open PySem PySem.W PyProof.Rows PySem.Calls PySem.Spec
set_option linter.unusedVariables false
set_option maxRecDepth 100000
namespace Mine
open Builtin Builtin.ObjectAttr
theorem fslot_ga : Slot "function" "__getattribute__" "object.__getattribute__" :=
  .of (owner := "object") (n := "__getattribute__") (by rw [typeLookup_type, builtinLookup_eq_fast]; kernel_rfl) (by decide +kernel) (by decide +kernel) (by decide +kernel)
    (by first | exact .inl (by decide +kernel) | exact .inr (by decide +kernel)) (by rw [isSubtype_type]; kernel_rfl)
theorem fslot_getattr : typeLookup (.type "function") "__getattr__" = pure none := by rw [typeLookup_type, builtinLookup_eq_fast]; kernel_rfl
theorem fcanon : (Manifest.canonical "object.__getattribute__" != "object.__getattribute__") = false := by decide +kernel
theorem fn_find {M : Model} {A : Around} {E : Value → Shared → Prop} {s : Shared} {f d : Addr} {fd : FuncData} {v : Value} {a : Int} {k : Tok} {n : Nat} {Q : Found → Shared → Prop} (ho : s.heap.get? f = some { cls := .type "function", dict := some d, data := .func fd })
  (hd : s.heap.get? d = some (dictOf [⟨a, .str (Str.ofString "read") k, v⟩] n)) (h : Q (.value v) s) : wpAny M A (find (.ref f) (.type "function") "read") Q E s := by
  unfold find
  refine wpAny_bind (wpAny_of_eq fread ?_)
  refine wpAny_bind (wpAny_pure (wpAny_bind (wpAny_pure ?_)))
  show wpAny _ _ (ownThenClass _ _ _ _) _ _ _
  unfold ownThenClass
  refine wpAny_bind ?_
  unfold inOwnDict ObjectAttr.ownDict
  refine wpAny_bind (wpAny_bind (wpAny_loadPart ho ?_))
  dsimp only
  unfold instanceDict
  refine wpAny_bind (wpAny_loadPart ho ?_)
  dsimp only
  refine wpAny_pure ?_
  refine wpAny_bind (wpAny_loadPart hd ?_)
  rw [nsLook_of (r := some v) (show lookIn (Str.ofString "read") (dictOf _ _) = _ from rfl)]
  refine wpAny_pure ?_
  exact wpAny_bind (wpAny_rule (wpAny_pure h))
theorem fn_getattr {prog : Program} {w : World} {A : Around} {E : Value → Shared → Prop} {s : Shared} {f d r : Addr} {fd : FuncData} {a : Int} {k : Tok} {n : Nat} {ex : Bool} {Q : Value → Shared → Prop} (ho : s.heap.get? f = some { cls := .type "function", dict := some d, data := .func fd })
  (hd : s.heap.get? d = some (dictOf [⟨a, .str (Str.ofString "read") k, .ref r⟩] n)) (h : Q (.ref r) { s with toks := s.toks + 1 }) :
  wpAny (model prog w) A (getAttr (.ref f) "read" ex) Q E s := by
  obtain ⟨hp, g, dd, t, os⟩ := s
  have hT : ∀ t', Shared.TypeIs ⟨hp, g, dd, t', os⟩ (.ref f) "function" := fun _ => ⟨_, ho, rfl⟩
  unfold getAttr getAttrBy
  refine wpAny_bind (wpAny_mkText (wpAny_holding (wpAny_bind (wpAny_typeOf (hT _) (wpAny_bind (wpAny_of_eq fslot_ga.lookup ?_))))))
  show wpAny _ _ (getAttrByItsOwn (.ref f) (.str "read" t) (.type "function") (.builtin "object.__getattribute__") true ex) _ _ _
  unfold getAttrByItsOwn hookBefore callGetattribute boundAndCalled
  refine wpAny_bind (wpAny_of_eq (show (if onTheHeap (.type "function") then typeLookup (.type "function") "__getattr__" else pure none) = pure none from rfl) ?_)
  refine wpAny_bind (wpAny_attempt (wpAny_holding ?_))
  have e0 : (ex && onTheHeap (.builtin "object.__getattribute__")) = false := by cases ex <;> rfl
  rw [e0]
  show wpAny _ _ (bindSpecial (.builtin "object.__getattribute__") (.ref f) >>= _) _ _ _
  refine wpAny_bind (wpAny_of_eq (fslot_ga.bind _) ?_)
  refine wpAny_mono (Q := fun v s' => v = .ref r ∧ s' = ⟨hp, g, dd, t + 1, os⟩) (E := fun _ _ => False)
    (wpAny_call_entry fslot_ga (hT _) F.entry_object_getattribute ?_ (F.args_object_getattribute_2 _ _)) (fun v s' hv => ?_) fun _ _ z => z.elim
  · unfold Builtin.«object.__getattribute__»
    refine wpAny_bind (wpAny_pure ?_)
    refine wpAny_bind (wpAny_pure ?_)
    refine wpAny_bind (wpAny_typeOf (hT _) ?_)
    refine wpAny_bind (fn_find ho hd ?_)
    exact wpAny_pure ⟨_, rfl, rfl, rfl⟩
  · obtain ⟨rfl, rfl⟩ := hv
    exact wpAny_pure h
theorem fn_getMethod {prog : Program} {w : World} {A : Around} {E : Value → Shared → Prop} {s : Shared} {f d r : Addr} {fd : FuncData} {a : Int} {k : Tok} {n : Nat} {pl : Sem Bool} {Q : Value × List Value → Shared → Prop} (ho : s.heap.get? f = some { cls := .type "function", dict := some d, data := .func fd })
  (hd : s.heap.get? d = some (dictOf [⟨a, .str (Str.ofString "read") k, .ref r⟩] n)) (h : Q (.ref r, []) { s with toks := s.toks + 1 }) :
  wpAny (model prog w) A (getMethod (.ref f) "read" pl) Q E s := by
  obtain ⟨hp, g, dd, t, os⟩ := s
  have hT : ∀ t', Shared.TypeIs ⟨hp, g, dd, t', os⟩ (.ref f) "function" := fun _ => ⟨_, ho, rfl⟩
  unfold getMethod
  refine wpAny_bind (wpAny_specialOf (hT _) fslot_ga.lookup ?_)
  show wpAny _ _ (if (Manifest.canonical "object.__getattribute__" != "object.__getattribute__") = true then _ else _) _ _ _
  rw [if_neg (by rw [fcanon]; decide)]
  refine wpAny_bind (wpAny_specialOf (hT _) fslot_getattr ?_)
  dsimp only
  rw [if_neg (by decide)]
  refine wpAny_bind (wpAny_specialOf (hT _) fread ?_)
  dsimp only
  refine wpAny_bind (fn_getattr ho hd ?_)
  exact wpAny_pure h
end Mine
end
section
open PySem PySem.W PyProof.Rows PySem.Calls PySem.Spec
set_option linter.unusedVariables false
set_option maxRecDepth 100000
namespace Mine
open Builtin Builtin.ObjectAttr
theorem cislot_next : Slot "callable_iterator" "__next__" "callable_iterator.__next__" :=
  .of (owner := "callable_iterator") (n := "__next__") (by rw [typeLookup_type, builtinLookup_eq_fast]; kernel_rfl) (by decide +kernel) (by decide +kernel) (by decide +kernel)
    (by first | exact .inl (by decide +kernel) | exact .inr (by decide +kernel)) (by rw [isSubtype_type]; kernel_rfl)
theorem ciowner : Manifest.owners.lookup (String.ofList ['r', 'o', 't', 'a', 'r', 'e', 't', 'i', '_', 'e', 'l', 'b', 'a', 'l', 'l', 'a', 'c'].reverse) = some Manifest.sig_callable_iterator := by kernel_rfl
theorem cislot_iter : Slot "callable_iterator" "__iter__" "callable_iterator.__iter__" :=
  .of (owner := "callable_iterator") (n := "__iter__") (by rw [typeLookup_type, builtinLookup_eq_fast]; kernel_rfl) (by decide +kernel) (by decide +kernel) (by decide +kernel)
    (by first | exact .inl (by decide +kernel) | exact .inr (by decide +kernel)) (by rw [isSubtype_type]; kernel_rfl)
theorem cientry : entryFor table "callable_iterator.__next__" = some Builtin.«callable_iterator.__next__» := entryFor_of_tree (by kernel_rfl)
theorem ciargs (a : Value) : argsOk "callable_iterator.__next__" ⟨[a], []⟩ := by
  unfold argsOk; rw [signature?_of (id := "callable_iterator.__next__") (n := ['_', '_', 't', 'x', 'e', 'n', '_', '_']) (o := ['r', 'o', 't', 'a', 'r', 'e', 't', 'i', '_', 'e', 'l', 'b', 'a', 'l', 'l', 'a', 'c']) (by kernel_rfl) ciowner]; kernel_rfl
theorem ciargs_iter (a : Value) : argsOk "callable_iterator.__iter__" ⟨[a], []⟩ := by
  unfold argsOk; rw [signature?_of (id := "callable_iterator.__iter__") (n := ['_', '_', 'r', 'e', 't', 'i', '_', '_']) (o := ['r', 'o', 't', 'a', 'r', 'e', 't', 'i', '_', 'e', 'l', 'b', 'a', 'l', 'l', 'a', 'c']) (by kernel_rfl) ciowner]; kernel_rfl
theorem cientry_iter : entryFor table "callable_iterator.__iter__" = some Builtin.«dict_keyiterator.__iter__» :=
  entryFor_alias (id' := "dict_keyiterator.__iter__") (by kernel_rfl) (by first | rfl | decide +kernel | (unfold String.splitOn; simp +decide [String.splitOnAux])) (by decide +kernel) (by kernel_rfl)
/-- the iterator of a bound method up to the empty str -/
noncomputable abbrev ciObj (mo : Addr) (t : Tok) : Obj := { cls := .type "callable_iterator", data := .fields #[.ref mo, .str (Str.ofString "") t, .bool false] }
noncomputable abbrev ciOver : Obj := { cls := .type "callable_iterator", data := .fields #[.none, .none, .bool true] }
section
variable {prog : Program} {w : World} {A : Around} {E : Value → Shared → Prop} {s : Shared}
theorem ci_iter {it : Addr} {o : Obj} {Q : Value → Shared → Prop} (hit : s.heap.get? it = some o) (hc : o.cls = .type "callable_iterator") (h : Q (.ref it) s) : wpAny (model prog w) A (pyIter (.ref it)) Q E s := by
  have hT : s.TypeIs (.ref it) "callable_iterator" := ⟨_, hit, hc⟩
  refine wpAny_pyIter_slot hT cislot_iter (wpAny_call_entry cislot_iter hT cientry_iter ?_ (ciargs_iter _))
  show wpAny _ _ (ret (.ref it)) _ _ s
  exact wpAny_pure ⟨_, rfl, "callable_iterator", _, hT, cislot_next.lookup, h⟩
theorem wpAny_callBorrowed {f : Value} {pos : List Value} {Q : Value → Shared → Prop} (h : wpAny (model prog w) A (call f pos) Q E s) : wpAny (model prog w) A (callBorrowed f pos) Q E s := fun Γ p hΓ => by
  have := h Γ p hΓ
  unfold callBorrowed
  unfold call at this
  rw [Sem.wp_call]
  rw [Sem.wp_runValue] at this
  refine wpCode_mono (fun r s' hr => ?_) this
  rcases r with e | (_ | _ | _ | _)
  all_goals first | exact hr.elim | (simp only [Sem.wp]; exact hr)
/-- a callable that C borrows: a bound method of a def -/
theorem borrows {mo f : Addr} {self : Value} {fo : Obj} {fd : FuncData} {Q : Bool → Shared → Prop} (hm : s.heap.get? mo = some (methodObj (.ref f) self)) (hf : s.heap.get? f = some fo) (hd : fo.data = .func fd) (h : Q true s) : wpAny (model prog w) A (borrowsExactly (.ref mo)) Q E s := by
  unfold borrowsExactly
  refine wpAny_bind (wpAny_load hm ?_)
  dsimp only
  rw [if_pos (by rfl)]
  refine wpAny_bind (wpAny_load hf ?_)
  rw [hd]
  exact wpAny_pure h
theorem ci_next {it mo f : Addr} {self : Value} {t : Tok} {fo : Obj} {fd : FuncData} {Q : Option Value → Shared → Prop} (hh : A.handled = none) (hit : s.heap.get? it = some (ciObj mo t)) (hm : s.heap.get? mo = some (methodObj (.ref f) self)) (hf : s.heap.get? f = some fo) (hd : fo.data = .func fd)
   (h : codeAny (model prog w) A.in1 (.call (.ref f) ⟨[self], []⟩) (fun r s₁ => ∃ x u, r = .ok (.ret (.str x u)) ∧ s₁.heap.get? it = some (ciObj mo t) ∧ s₁.heap.get? mo = some (methodObj (.ref f) self) ∧ s₁.heap.get? f = some fo ∧
      (x ≠ Str.ofString "" → Q (some (.str x u)) s₁) ∧ (x = Str.ofString "" → ∀ h', h'.get? it = some ciOver → (∀ b o, b ≠ it → s₁.heap.get? b = some o → h'.get? b = some o) → Q none { s₁ with heap := h' })) s) :
   wpAny (model prog w) A (pyNext (.ref it)) Q E s := by
  have hT : s.TypeIs (.ref it) "callable_iterator" := ⟨_, hit, rfl⟩
  unfold pyNext
  refine wpAny_bind (wpAny_attempt (wpAny_callSpecial?_slot (name := Str.ofString "__next__") hT cislot_next
    (wpAny_call_entry cislot_next hT cientry ?_ (ciargs _))))
  unfold Builtin.«callable_iterator.__next__»
  refine wpAny_bind (wpAny_of_eq (a := (Value.ref it, [])) rfl ?_)
  try dsimp only
  refine wpAny_bind (wpAny_field hit rfl (x := .bool false) rfl ?_)
  rw [if_neg (show ¬ ((Value.bool false == Value.bool true) = true) from Bool.false_ne_true)]
  refine wpAny_bind (wpAny_field hit rfl (x := .ref mo) rfl ?_)
  unfold callOutOfASlot
  refine wpAny_bind (wpAny_attempt (wpAny_bind (borrows hm hf hd ?_)))
  rw [if_pos rfl]
  refine wpAny_callBorrowed (wpAny_call (method_call hm ?_))
  refine codeAny_mono h fun r s₁ hr => ?_
  obtain ⟨x, u, rfl, hit', hm', hf', hq1, hq2⟩ := hr
  show wpAny _ _ (field (.ref it) 2 >>= _) _ _ _
  refine wpAny_bind (wpAny_field hit' rfl (x := .bool false) rfl ?_)
  rw [if_neg (show ¬ ((Value.bool false == Value.bool true) = true) from Bool.false_ne_true)]
  refine wpAny_bind (wpAny_field hit' rfl (x := .str (Str.ofString "") t) rfl ?_)
  refine wpAny_bind (wpAny_holding (wpAny_eqBool_str ?_))
  by_cases hx : x = Str.ofString ""
  · rw [decide_eq_true hx.symm]
    rw [if_neg (by decide)]
    refine wpAny_bind (wpAny_rule ?_)
    refine wpAny_bind ?_
    show wpAny _ _ (field (.ref it) 0 >>= _) _ _ _
    refine wpAny_bind (wpAny_field hit' rfl (x := .ref mo) rfl ?_)
    refine wpAny_bind ?_
    unfold slotLetsGo
    refine wpAny_bind (borrows hm' hf' hd ?_)
    rw [if_pos rfl]
    refine wpAny_pure ?_
    refine wpAny_bind (wpAny_setField_rec hit' (by simp) fun h1 e1 k1 => ?_)
    refine wpAny_bind (wpAny_setField_rec e1 (by simp) fun h2 e2 k2 => ?_)
    refine wpAny_setField_rec e2 (by simp) fun h3 e3 k3 => ?_
    show wpAny _ _ (newExc (.type "StopIteration") [] >>= _) _ _ _
    refine wpAny_bind ?_
    simp only [newExc, newTuple]
    refine wpAny_bind (wpAny_newObj_type ?_ (by size_fits))
    refine wpAny_bind (m := firstArgMember _ _) (wpAny_of_eq (a := Value.none) (by first | rfl | (simp only [firstArgMember]; rfl)) ?_)
    refine wpAny_newObj_type ?_ (by size_fits)
    simp only [raiseNew]
    refine wpAny_bind (wpAny_handled ?_)
    first | rw [show A.in1.handled = none from hh] | rw [hh]
    refine wpAny_bind (wpAny_pure (wpAny_throw ?_))
    refine wpAny_bind (wpAny_isInstance (T := "StopIteration") (b := true) ⟨_, Heap.get?_push_size _ rfl, rfl⟩ isSubtype_stop ?_)
    refine wpAny_pure (hq2 hx _ (Heap.get?_push_of_some _ (Heap.get?_push_of_some _ e3)) fun b o hb e => ?_)
    exact Heap.get?_push_of_some _ (Heap.get?_push_of_some _ (k3.extBut b o hb (k2.extBut b o hb (k1.extBut b o hb e))))
  · rw [decide_eq_false (Ne.symm hx)]
    rw [if_pos (by decide)]
    exact wpAny_pure ⟨_, rfl, wpAny_pure (hq1 hx)⟩
theorem ci_over {it : Addr} {Q : Option Value → Shared → Prop} (hh : A.handled = none) (hit : s.heap.get? it = some ciOver) (h : ∀ h', (∀ b o, s.heap.get? b = some o → h'.get? b = some o) → Q none { s with heap := h' }) :
   wpAny (model prog w) A (pyNext (.ref it)) Q E s := by
  have hT : s.TypeIs (.ref it) "callable_iterator" := ⟨_, hit, rfl⟩
  unfold pyNext
  refine wpAny_bind (wpAny_attempt (wpAny_callSpecial?_slot (name := Str.ofString "__next__") hT cislot_next
    (wpAny_call_entry cislot_next hT cientry ?_ (ciargs _))))
  unfold Builtin.«callable_iterator.__next__»
  refine wpAny_bind (wpAny_of_eq (a := (Value.ref it, [])) rfl ?_)
  try dsimp only
  refine wpAny_bind (wpAny_field hit rfl (x := .bool true) rfl ?_)
  rw [if_pos (by rfl)]
  refine wpAny_bind (wpAny_rule ?_)
  refine wpAny_bind ?_
  show wpAny _ _ (newExc (.type "StopIteration") [] >>= _) _ _ _
  refine wpAny_bind ?_
  simp only [newExc, newTuple]
  refine wpAny_bind (wpAny_newObj_type ?_ (by size_fits))
  refine wpAny_bind (m := firstArgMember _ _) (wpAny_of_eq (a := Value.none) (by first | rfl | (simp only [firstArgMember]; rfl)) ?_)
  refine wpAny_newObj_type ?_ (by size_fits)
  simp only [raiseNew]
  refine wpAny_bind (wpAny_handled ?_)
  first | rw [show A.in1.handled = none from hh] | rw [hh]
  refine wpAny_bind (wpAny_pure (wpAny_throw ?_))
  refine wpAny_bind (wpAny_isInstance (T := "StopIteration") (b := true) ⟨_, Heap.get?_push_size _ rfl, rfl⟩ isSubtype_stop ?_)
  exact wpAny_pure (h _ fun b o e => Heap.get?_push_of_some _ (Heap.get?_push_of_some _ e))
theorem mcall : typeLookup (.type "method") "__call__" = pure (some (.builtin "method.__call__")) := by rw [typeLookup_type, builtinLookup_eq_fast]; kernel_rfl
theorem iter_two {mo : Addr} {f self : Value} {t : Tok} {Q : Value → Shared → Prop} (hm : s.heap.get? mo = some (methodObj f self)) (h : Q (.ref s.heap.objs.size) { s with heap := s.heap.push (ciObj mo t) }) :
   wpAny (model prog w) A (call (.builtin "iter") [.ref mo, .str (Str.ofString "") t]) Q E s := by
  have hT : s.TypeIs (.ref mo) "method" := ⟨_, hm, rfl⟩
  refine call_function_entry (by decide +kernel) (by decide +kernel) kdk_entry_iter (by unfold argsOk; kernel_rfl) ?_
  unfold Builtin.«iter»
  refine wpAny_bind (m := someArgs "iter" 1 2 _) (wpAny_of_eq (a := [Value.ref mo, Value.str (Str.ofString "") t]) (by first | rfl | kernel_rfl!) ?_)
  dsimp only
  refine wpAny_bind (wpAny_specialOf hT mcall ?_)
  rw [if_neg (by decide)]
  refine wpAny_bind (wpAny_rule ?_)
  refine wpAny_bind (wpAny_newObj_type ?_ (by size_fits))
  exact wpAny_pure ⟨_, rfl, h⟩
end
end Mine
end
section
open PySem PySem.W PyProof.Rows PySem.Calls
set_option maxRecDepth 100000
set_option maxHeartbeats 8000000
set_option linter.unusedVariables false
set_option linter.unusedSimpArgs false
namespace Mine
theorem fill_F11 : ∀ (w : World) (h : Heap), (hd.heap_1 w.params).In h → PySem.Challenge.rw_qu0050_01.foot = 8 := by
  k_fill; intros; rfl
section
theorem read_on_spec {w : World} {loose : List Str} {mean : ExcName → Option Value} {mg mb : Str → Option Value} {g : Heap} {prog : Program} {A : Around} {s : Shared} {Q E : Value → Shared → Prop} (G : Gd w loose mean mg mb g) (hg : Sub g s.heap) (hA : A.depth ≤ 800) (hh : A.handled = none) {cs : List Nat} (P : LexP (S cs)) {p : Nat} {tp ts : Tok} {ea : Nat} (hp : p ≤ cs.length) (htl : cs.length < 1000)
   (hm : ∀ q ∈ [(P.AT, listOf #[.int (p : Int) tp] ea), (P.fr, P.rd), (P.c1, P.o1), (P.c2, P.o2)], s.heap.get? q.1 = some q.2 ∧ g.get? q.1 = none) (hcd : s.heap.CodeRec (.ref P.c') q3)
   (post : ∀ h' tk t tp', But [P.AT] s.heap h' → h'.get? P.AT = some (listOf #[.int ((p + ((cs.drop p).take 1).length : Nat) : Int) tp'] ea) → Q (.str (S ((cs.drop p).take 1)) t) { s with heap := h', toks := tk }) :
   wpAny (model prog w) A (call (.ref P.fr) [.int 1 ts]) Q E s := by
  refine call_raw [(P.AT, listOf #[.int (p : Int) tp] ea), (P.fr, P.rd), (P.c1, P.o1), (P.c2, P.o2)] G hg hm (hm (P.fr, P.rd) (by k_mem)).1 rfl hcd rfl (locs rfl) (by show A.depth < 1000; omega) ?_
  intro g' L h₁ tk G' hbut hnone hL F N l1
  k_lt l1
  have hlt := P.lt
  have d1 := P.d1
  have d2 := P.d2
  have XX := G'.X
  have T := G'.T
  have C2 := G'.c2
  obtain ⟨hand, dep, fra, gua, uni⟩ := A
  dsimp only at hh hA
  subst hh
  dsimp only [p3]
  have hSl : (S cs).length < 1000 := by rw [S_len]; exact htl
  repeat walk_at "go"
  with_reducible rename Fr _ _ _ _ => F9
  with_reducible rename News _ _ _ _ => N9
  have e : Txt.slice (S cs) (some ([(p : Int)].getD (Int.toNat 0) 0)) (some ([(p : Int)].getD (Int.toNat 0) 0 + 1)) = S ((cs.drop p).take 1) := by
    have := slice_S cs p (p + 1) (by omega) hp
    have e : p + 1 - p = 1 := by omega
    rw [e] at this
    rw [← this]; rfl
  dsimp only
  rw [e] at N9 ⊢
  have e2 : ([(p : Int)].getD (Int.toNat 0) 0 + ((S ((cs.drop p).take 1)).length : Int)) = ((p + ((cs.drop p).take 1).length : Nat) : Int) := by rw [S_len]; rfl
  rw [e2] at N9
  refine post _ _ _ _ (but_of [P.AT] hbut (fun q hq => (hm q hq).1) F9 N9 (fun q hq => ?_)) (N9.get (by k_mem))
  simp only [List.mem_cons, List.not_mem_nil, or_false] at hq
  rcases hq with rfl | rfl | rfl | rfl
  · exact .inl (.head _)
  · exact .inr (by k_mem)
  · exact .inr (by k_mem)
  · exact .inr (by k_mem)
theorem read_on_use {w : World} {loose : List Str} {mean : ExcName → Option Value} {mg mb : Str → Option Value} {prog : Program} {A : Around} {s : Shared} {Q E : Value → Shared → Prop} {h₀ : Heap} {L : Addr} {m : Str → Option Value} {news : List (Addr × Obj)} {gg : Obj → List (Addr × Obj)}
   (G : Gd w loose mean mg mb h₀) (F : Fr h₀ L s.heap m) (N : News h₀ L s.heap news) {cs : List Nat} (P : LexP (S cs)) {p : Nat} {tp ts : Tok} {ea : Nat} (U : UpdF P.AT (listOf #[.int (p : Int) tp] ea) news gg) (hA : A.depth ≤ 800) (hh : A.handled = none) (hp : p ≤ cs.length) (htl : cs.length < 1000)
   (h1 : (P.AT, listOf #[.int (p : Int) tp] ea) ∈ news) (h2 : (P.fr, P.rd) ∈ news) (h3 : (P.c1, P.o1) ∈ news) (h4 : (P.c2, P.o2) ∈ news) (hcd : s.heap.CodeRec (.ref P.c') q3)
   (post : ∀ h' tk t tp', Fr h₀ L h' m → News h₀ L h' (gg (listOf #[.int ((p + ((cs.drop p).take 1).length : Nat) : Int) tp'] ea)) → h'.CodeRec (.ref P.c') q3 → Q (.str (S ((cs.drop p).take 1)) t) { s with heap := h', toks := tk }) :
   wpAny (model prog w) A (call (.ref P.fr) [.int 1 ts]) Q E s := by
  refine read_on_spec (tp := tp) (ea := ea) G F.keep hA hh P hp htl (fun q hq => ?_) hcd ?_
  · simp only [List.mem_cons, List.not_mem_nil, or_false] at hq
    rcases hq with rfl | rfl | rfl | rfl
    · exact ⟨N.get h1, N.fresh h1⟩
    · exact ⟨N.get h2, N.fresh h2⟩
    · exact ⟨N.get h3, N.fresh h3⟩
    · exact ⟨N.get h4, N.fresh h4⟩
  · intro h' tk t tp' hb e
    obtain ⟨F', N'⟩ := adapt F N U hb e
    exact post h' tk t tp' F' N' (codeRec_but (ms := [(P.AT, listOf #[.int (p : Int) tp] ea)]) hb (fun q hq => by cases List.mem_singleton.mp hq; exact ⟨N.get h1, fun _ => nofun⟩) hcd)
end
end Mine
end
section
open PySem PySem.W PyProof.Rows PySem.Calls
set_option maxRecDepth 100000
set_option maxHeartbeats 8000000
set_option linter.unusedVariables false
set_option linter.unusedSimpArgs false
namespace Mine
theorem fill_F12 : ∀ (w : World) (h : Heap), (hd.heap_1 w.params).In h → PySem.Challenge.rw_qu0050_01.foot = 8 := by
  k_fill; intros; rfl
section
theorem read_char_code {w : World} {loose : List Str} {mean : ExcName → Option Value} {mg mb : Str → Option Value} {g : Heap} {prog : Program} {A : Around} {s : Shared} {R : Result → Shared → Prop} (G : Gd w loose mean mg mb g) (hg : Sub g s.heap) (hA : A.depth ≤ 790) (hh : A.handled = none) {cs : List Nat} (P : LexP (S cs)) {p : Nat} {tp tl : Tok} {ea ep : Nat} {line : Int} {pv : List Value} (hp : p ≤ cs.length) (htl : cs.length < 1000)
   (hm : ∀ q ∈ P.objs p tp ea line tl pv ep, s.heap.get? q.1 = some q.2 ∧ g.get? q.1 = none) (hcd : s.heap.CodeRec (.ref P.c') q3)
   (post : ∀ h' tk t tp' tl', But [P.AT, P.dx] s.heap h' → h'.get? P.AT = some (listOf #[.int ((p + ((cs.drop p).take 1).length : Nat) : Int) tp'] ea) → h'.get? P.dx = some (P.fields (line + (if (cs.drop p).take 1 = [10] then 1 else 0)) tl') → R (.ok (.ret (.str (S ((cs.drop p).take 1)) t))) { s with heap := h', toks := tk }) :
   codeAny (model prog w) A (.call (.ref 77) ⟨[.ref P.lx], []⟩) R s := by
  refine code_top (P.objs p tp ea line tl pv ep) G hg hm (by k_is) (by k_is) rfl (locs rfl) (by show A.depth < 1000; omega) ?_
  intro g' L h₁ tk G' hbut hnone hL F N l1
  k_lt l1
  have hlt := P.lt
  have d1 := P.d1
  have d2 := P.d2
  have XX := G'.X
  have T := G'.T
  have C1 := G'.c1
  obtain ⟨hand, dep, fra, gua, uni⟩ := A
  dsimp only at hh hA
  subst hh
  dsimp only [LexP.objs] at N hm hbut
  have hcd' : g'.CodeRec (.ref P.c') q3 := codeRec_but hbut (fun q hq => ⟨(hm q hq).1, by
    simp only [List.mem_cons, List.not_mem_nil, or_false] at hq
    rcases hq with rfl | rfl | rfl | rfl | rfl | rfl | rfl | rfl | rfl
    · exact fun _ => nofun
    · exact fun _ => nofun
    · exact fun _ => nofun
    · exact fun _ => nofun
    · exact fun _ => nofun
    · exact fun _ => nofun
    · exact fun _ => nofun
    · exact fun _ => by rw [d1]; nofun
    · exact fun _ => by rw [d2]; nofun⟩) hcd
  have fin : ∀ {L' : Addr} {m' : Str → Option Value} {h' : Heap} {o1 o2 : Obj}, Fr g' L' h' m' → News g' L' h' [(P.AT, o1), (P.dx, o2), (P.pb, listOf pv.toArray ep), (P.lx, instObj 94 P.dx), (P.st, P.strm), (P.sd, P.sdict), (P.fr, P.rd), (P.c1, P.o1), (P.c2, P.o2)] → But [P.AT, P.dx] s.heap h' := by
    intro L' m' h' o1 o2 F' N'
    refine but_of [P.AT, P.dx] hbut (fun q hq => (hm q hq).1) F' N' fun q hq => ?_
    rcases List.mem_cons.mp hq with rfl | hq
    · exact .inl (.head _)
    rcases List.mem_cons.mp hq with rfl | hq
    · exact .inl (.tail _ (.head _))
    · exact .inr (.tail _ (.tail _ hq))
  iterate 6 walk_at "go"
  refine fn_getMethod (N.get (by k_mem)) (N.get (by k_mem)) ?_
  dsimp only
  iterate 4 walk_at "go"
  refine ⟨FnAt.of N (by k_mem), ?_⟩
  refine read_on_use G' F N P (by k_updF) (by show dep + 1 ≤ 800; omega) rfl hp htl (by k_mem) (by k_mem) (by k_mem) (by k_mem) (codeRec_sub F.keep hcd') ?_
  intro h2 tk2 t2 tp2 F2 N2 hcd2
  clear F N
  dsimp only at F2 N2 ⊢
  repeat walk_at "go"
  · with_reducible rename Fr _ _ _ _ => F9
    with_reducible rename News _ _ _ _ => N9
    have he : (cs.drop p).take 1 = [10] := by
      with_reducible rename (S ((cs.drop p).take 1) == Str.ofString "\n") = true => a
      rw [S_of, S_beq] at a
      exact of_decide_eq_true a
    exact post _ _ _ _ _ (fin F9 N9) (N9.get (by k_mem)) (by rw [if_pos he]; exact N9.get (by k_mem))
  · repeat walk_at "go"
    with_reducible rename Fr _ _ _ _ => F9
    with_reducible rename News _ _ _ _ => N9
    have he : ¬ (cs.drop p).take 1 = [10] := by
      with_reducible rename (S ((cs.drop p).take 1) == Str.ofString "\n") = false => a
      rw [S_of, S_beq] at a
      exact of_decide_eq_false a
    exact post _ _ _ _ _ (fin F9 N9) (N9.get (by k_mem)) (by rw [if_neg he, Int.add_zero]; exact N9.get (by k_mem))
/-- the line behind a sign -/
noncomputable def lineOf (line : Int) (l : List Nat) : Int := line + (if l = [10] then 1 else 0)
theorem news_lex {h₀ h h' : Heap} {L : Addr} {pre : List (Addr × Obj)} {cs : List Nat} (P : LexP (S cs)) {p p' : Nat} {tp tp' tl tl' : Tok} {ea ep ea' : Nat} {line line' : Int} {pv : List Value}
   (N : News h₀ L h (pre ++ P.objs p tp ea line tl pv ep)) (hpre : ∀ q ∈ pre, @Ne Nat q.1 P.AT ∧ @Ne Nat q.1 P.dx) (hb : But [P.AT, P.dx] h h') (e1 : h'.get? P.AT = some (listOf #[.int (p' : Int) tp'] ea')) (e2 : h'.get? P.dx = some (P.fields line' tl')) :
   News h₀ L h' (pre ++ P.objs p' tp' ea' line' tl' pv ep) := by
  have hlt := P.lt
  intro q hq
  rcases List.mem_append.mp hq with hq | hq
  · have n := N q (List.mem_append_left _ hq)
    exact ⟨hb _ _ (nmem2 (hpre q hq).1 (hpre q hq).2) n.1, n.2⟩
  · rcases List.mem_cons.mp hq with rfl | hq
    · exact ⟨e1, (N (P.AT, listOf #[.int (p : Int) tp] ea) (List.mem_append_right _ (.head _))).2⟩
    rcases List.mem_cons.mp hq with rfl | hq
    · exact ⟨e2, (N (P.dx, P.fields line tl) (List.mem_append_right _ (.tail _ (.head _)))).2⟩
    · have n := N q (List.mem_append_right _ (.tail _ (.tail _ hq)))
      refine ⟨hb _ _ (nmem2 ?_ ?_) n.1, n.2⟩
      · simp only [List.mem_cons, List.not_mem_nil, or_false] at hq
        rcases hq with rfl | rfl | rfl | rfl | rfl | rfl | rfl <;> dsimp only <;> omega
      · simp only [List.mem_cons, List.not_mem_nil, or_false] at hq
        rcases hq with rfl | rfl | rfl | rfl | rfl | rfl | rfl <;> dsimp only <;> omega
theorem lex_code {h₀ h h' : Heap} {L : Addr} {pre : List (Addr × Obj)} {cs : List Nat} (P : LexP (S cs)) {p : Nat} {tp tl : Tok} {ea ep : Nat} {line : Int} {pv : List Value}
   (N : News h₀ L h (pre ++ P.objs p tp ea line tl pv ep)) (hb : But [P.AT, P.dx] h h') (hcd : h.CodeRec (.ref P.c') q3) : h'.CodeRec (.ref P.c') q3 :=
  codeRec_but (ms := [(P.AT, listOf #[.int (p : Int) tp] ea), (P.dx, P.fields line tl)]) hb (fun q hq => by
    simp only [List.mem_cons, List.not_mem_nil, or_false] at hq
    rcases hq with rfl | rfl
    · exact ⟨N.get (List.mem_append_right _ (.head _)), fun _ => nofun⟩
    · exact ⟨N.get (List.mem_append_right _ (.tail _ (.head _))), fun _ => nofun⟩) hcd
theorem read_char_use {w : World} {loose : List Str} {mean : ExcName → Option Value} {mg mb : Str → Option Value} {prog : Program} {A : Around} {s : Shared} {Q E : Value → Shared → Prop} {h₀ : Heap} {L : Addr} {m : Str → Option Value} {pre : List (Addr × Obj)}
   (G : Gd w loose mean mg mb h₀) (F : Fr h₀ L s.heap m) {cs : List Nat} (P : LexP (S cs)) {p : Nat} {tp tl : Tok} {ea ep : Nat} {line : Int} {pv : List Value} (N : News h₀ L s.heap (pre ++ P.objs p tp ea line tl pv ep)) (hpre : ∀ q ∈ pre, @Ne Nat q.1 P.AT ∧ @Ne Nat q.1 P.dx)
   (hA : A.depth ≤ 790) (hh : A.handled = none) (hp : p ≤ cs.length) (htl : cs.length < 1000) (hcd : s.heap.CodeRec (.ref P.c') q3)
   (post : ∀ h' tk t tp' tl', But [P.AT, P.dx] s.heap h' → Fr h₀ L h' m → News h₀ L h' (pre ++ P.objs (p + ((cs.drop p).take 1).length) tp' ea (lineOf line ((cs.drop p).take 1)) tl' pv ep) → h'.CodeRec (.ref P.c') q3 → Q (.str (S ((cs.drop p).take 1)) t) { s with heap := h', toks := tk }) :
   wpAny (model prog w) A (call (.ref 77) [.ref P.lx]) Q E s := by
  refine wpAny_call (read_char_code (tp := tp) (tl := tl) (ea := ea) (ep := ep) (line := line) (pv := pv) G F.keep hA hh P hp htl (fun q hq => ⟨N.get (List.mem_append_right _ hq), N.fresh (List.mem_append_right _ hq)⟩) hcd ?_)
  intro h' tk t tp' tl' hb e1 e2
  refine post h' tk t tp' tl' hb (after_fr [P.AT, P.dx] F N hb fun a ha => ?_) (news_lex P N hpre hb e1 e2) (lex_code P N hb hcd)
  simp only [List.mem_cons, List.not_mem_nil, or_false] at ha
  rcases ha with rfl | rfl
  · exact (N (P.AT, listOf #[.int (p : Int) tp] ea) (List.mem_append_right _ (.head _))).2
  · exact (N (P.dx, P.fields line tl) (List.mem_append_right _ (.tail _ (.head _)))).2
end
end Mine
end
section
open PySem PySem.W PyProof.Rows PySem.Calls
set_option maxRecDepth 100000
set_option maxHeartbeats 8000000
set_option linter.unusedVariables false
set_option linter.unusedSimpArgs false
namespace Mine
theorem fill_B12 : ∀ (w : World) (h : Heap), (hd.heap_1 w.params).In h → PySem.Challenge.rw_qu0050_01.foot = 8 := by
  k_fill; intros; rfl
section
open Builtin Builtin.Str in
theorem ws_in (c : Nat) : (!(occurrences (Str.ofString "\n\t\r ") (S [c]) 0 (Str.ofString "\n\t\r ").length 1).isEmpty) = decide (c ∈ [10, 9, 13, 32]) := by
  rw [StrLaws.found_one, S_of]
  rfl
/-- a for loop by an invariant and a measure -/
theorem for_meas {prog : Program} {w : World} {A : Around} {E : Value → Shared → Prop} {s : Shared} {env : Env} {target : Expr} {body : List Stmt} {Q : Flow → Shared → Prop} {it : Value} (I : Nat → Shared → Prop)
    (turn : ∀ n s, I n s → wpAny (model prog w) A (pyNext it) (fun r s₁ => match r with
      | none => Q .next s₁
      | some v => wpAny (model prog w) A (assign target env v) (fun _ s₂ => wpAny (model prog w) A (execs body env) (fun f s₃ => match f with
          | .next | .cont => ∃ m, m < n ∧ I m s₃
          | .brk => Q .next s₃
          | .ret v => Q (.ret v) s₃) (fun _ _ => False) s₂) (fun _ _ => False) s₁) (fun _ _ => False) s)
    (n : Nat) (h : I n s) (ht : ∀ v, letOwnedTupleGo target it v = pure () := by intro _; rfl) : ForAt prog w A env target body Q E it s := by
  refine codeAny_forLoop I (fun n s hI => ?_) n h ht
  refine wpAny_mono (turn n s hI) (fun r s₁ h₁ => ?_) fun _ _ e => e.elim
  cases r with
  | none => exact wpAny_execs_nil h₁
  | some v =>
    refine wpAny_mono h₁ (fun _ s₂ h₂ => wpAny_mono h₂ (fun f s₃ h₃ => ?_) fun _ _ e => e.elim) fun _ _ e => e.elim
    cases f <;> exact h₃
/-- the line at a place -/
noncomputable def lineAt (cs : List Nat) (p : Nat) : Int := 1 + ((cs.take p).count 10 : Nat)
theorem take_one (cs : List Nat) (p : Nat) : (cs.drop p).take 1 = [] ∧ cs.length ≤ p ∨ ∃ c, (cs.drop p).take 1 = [c] ∧ cs.drop p = c :: cs.drop (p + 1) ∧ p < cs.length := by
  rcases Nat.lt_or_ge p cs.length with h | h
  · refine .inr ⟨cs[p], ?_, ?_, h⟩
    · rw [List.drop_eq_getElem_cons h]; rfl
    · rw [List.drop_eq_getElem_cons h]
  · refine .inl ⟨?_, h⟩
    rw [List.drop_of_length_le h]; rfl
theorem lineAt_succ (cs : List Nat) (p c : Nat) (h : cs.drop p = c :: cs.drop (p + 1)) (hp : p < cs.length) : lineOf (lineAt cs p) [c] = lineAt cs (p + 1) := by
  have e : cs[p] = c := by
    rw [List.drop_eq_getElem_cons hp] at h
    exact (List.cons.inj h).1
  unfold lineOf lineAt
  rw [List.take_add_one, List.getElem?_eq_getElem hp, e]
  by_cases hc : c = 10
  · subst hc; simp; omega
  · have : ¬ [c] = [10] := by simpa using hc
    rw [if_neg this]
    simp [List.count_cons, hc]
noncomputable def LexP.addrs {text : Str} (P : LexP text) : List Nat := [P.AT, P.dx, P.pb, P.lx, P.st, P.sd, P.fr, P.c1, P.c2]
theorem LexP.objs_addr {text : Str} (P : LexP text) {p : Nat} {tp : Tok} {ea : Nat} {line : Int} {tl : Tok} {pv : List Value} {ep : Nat} {q : Addr × Obj} (h : q ∈ P.objs p tp ea line tl pv ep) : q.1 ∈ P.addrs := by
  have := List.mem_map_of_mem (f := (·.1)) h
  exact this
/-- one sign of the lexer's stream -/
theorem lex_next {w : World} {loose : List Str} {mean : ExcName → Option Value} {mg mb : Str → Option Value} {prog : Program} {A : Around} {s : Shared} {Q : Option Value → Shared → Prop} {E : Value → Shared → Prop} {h₀ : Heap} {L : Addr} {m : Str → Option Value}
   (G : Gd w loose mean mg mb h₀) (F : Fr h₀ L s.heap m) {cs : List Nat} (P : LexP (S cs)) {p it mo : Nat} {tp tl t : Tok} {ea ep : Nat} {pv : List Value} (N : News h₀ L s.heap ((it, ciObj mo t) :: (mo, methodObj (.ref 77) (.ref P.lx)) :: P.objs p tp ea (lineAt cs p) tl pv ep))
   (hit : it ≠ mo ∧ it ≠ P.AT ∧ it ≠ P.dx ∧ mo ≠ P.AT ∧ mo ≠ P.dx) (hoff : ∀ a ∈ P.addrs, a ≠ it)
   (hA : A.depth ≤ 780) (hh : A.handled = none) (hp : p ≤ cs.length) (htl : cs.length < 1000) (hcd : s.heap.CodeRec (.ref P.c') q3)
   (item : ∀ c h' tk u tp' tl', cs.drop p = c :: cs.drop (p + 1) → p < cs.length → Fr h₀ L h' m → News h₀ L h' ((it, ciObj mo t) :: (mo, methodObj (.ref 77) (.ref P.lx)) :: P.objs (p + 1) tp' ea (lineAt cs (p + 1)) tl' pv ep) → h'.CodeRec (.ref P.c') q3 → Q (some (.str (S [c]) u)) { s with heap := h', toks := tk })
   (done : ∀ h' tk tp' tl', cs.drop p = [] → Fr h₀ L h' m → News h₀ L h' ((it, ciOver) :: (mo, methodObj (.ref 77) (.ref P.lx)) :: P.objs p tp' ea (lineAt cs p) tl' pv ep) → h'.CodeRec (.ref P.c') q3 → Q none { s with heap := h', toks := tk }) :
   wpAny (model prog w) A (pyNext (.ref it)) Q E s := by
  obtain ⟨fo, fd, hfo, hfd⟩ : ∃ fo fd, h₀.get? 77 = some fo ∧ fo.data = .func fd := by
    have := G.X 77 _ (by k_is)
    exact ⟨_, _, this, rfl⟩
  have hs77 := F.keep _ _ hfo
  refine ci_next (t := t) hh (N.get (.head _)) (N.get (.tail _ (.head _))) hs77 hfd ?_
  refine read_char_code (A := A.in1) (tp := tp) (tl := tl) (ea := ea) (ep := ep) (line := lineAt cs p) (pv := pv) G F.keep (by show A.depth ≤ 790; omega) hh P hp htl (fun q hq => ⟨N.get (.tail _ (.tail _ hq)), N.fresh (.tail _ (.tail _ hq))⟩) hcd ?_
  intro h' tk u tp' tl' hb e1 e2
  have hpre : ∀ q ∈ [(it, ciObj mo t), (mo, methodObj (.ref 77) (.ref P.lx))], @Ne Nat q.1 P.AT ∧ @Ne Nat q.1 P.dx := by
    intro q hq
    simp only [List.mem_cons, List.not_mem_nil, or_false] at hq
    rcases hq with rfl | rfl
    · exact ⟨hit.2.1, hit.2.2.1⟩
    · exact ⟨hit.2.2.2.1, hit.2.2.2.2⟩
  have N0 : News h₀ L s.heap ([(it, ciObj mo t), (mo, methodObj (.ref 77) (.ref P.lx))] ++ P.objs p tp ea (lineAt cs p) tl pv ep) := N
  have N' := news_lex P N0 hpre hb e1 e2
  have hcd' := lex_code P N0 hb hcd
  have F' : Fr h₀ L h' m := after_fr [P.AT, P.dx] F N0 hb (fun a ha => by
    simp only [List.mem_cons, List.not_mem_nil, or_false] at ha
    rcases ha with rfl | rfl
    · exact (N0 (P.AT, listOf #[.int (p : Int) tp] ea) (List.mem_append_right _ (.head _))).2
    · exact (N0 (P.dx, P.fields (lineAt cs p) tl) (List.mem_append_right _ (.tail _ (.head _)))).2)
  refine ⟨_, u, rfl, N'.get (.head _), N'.get (.tail _ (.head _)), F'.keep _ _ hfo, ?_, ?_⟩
  · intro hne
    rcases take_one cs p with ⟨e, _⟩ | ⟨c, e, ed, hpl⟩
    · exact absurd (by rw [e, S_of]; rfl) hne
    · rw [e] at N' ⊢
      have := lineAt_succ cs p c ed hpl
      change News h₀ L h' (_ ++ P.objs (p + 1) tp' ea (lineOf (lineAt cs p) [c]) tl' pv ep) at N'
      rw [this] at N'
      exact item c h' tk u tp' tl' ed hpl F' N' hcd'
  · intro he h2 ho hk
    rcases take_one cs p with ⟨e, hl⟩ | ⟨c, e, ed, hpl⟩
    · rw [e] at N'
      have el : (if ([] : List Nat) = [10] then (1 : Int) else 0) = 0 := by decide
      change News h₀ L h' (_ ++ P.objs p tp' ea (lineAt cs p + (if ([] : List Nat) = [10] then (1 : Int) else 0)) tl' pv ep) at N'
      rw [el, Int.add_zero] at N'
      have nIt := N' _ (.head _)
      have hk2 : But [it] h' h2 := fun b o hb e => hk b o (fun q => hb (by rw [q]; exact .head _)) e
      have hcd2 : h2.CodeRec (.ref P.c') q3 := by
        obtain ⟨c, oc, vs, tv, ec, ho', hd', hv'⟩ := hcd'
        refine ⟨c, oc, vs, tv, ec, hk c oc (fun q => ?_) ho', hd', hv'⟩
        rw [q, nIt.1] at ho'
        cases ho'
        cases hd'
        simp at hv'
        exact absurd hv'.1 (by decide)
      refine done h2 tk tp' tl' (List.drop_of_length_le hl) (after_fr [it] F' N' hk2 fun a ha => by rw [List.mem_singleton.mp ha]; exact nIt.2) (fun q hq => ?_) hcd2
      · rcases List.mem_cons.mp hq with rfl | hq
        · exact ⟨ho, nIt.2⟩
        · have n := N' q (.tail _ hq)
          refine ⟨hk _ _ ?_ n.1, n.2⟩
          rcases List.mem_cons.mp hq with rfl | hq
          · exact fun q => hit.1 q.symm
          · exact hoff _ (P.objs_addr hq)
    · rw [e, S_of] at he
      have := S_inj he
      cases this
end
end Mine
end
section
open PySem PySem.W PyProof.Rows PySem.Calls
set_option maxRecDepth 100000
set_option maxHeartbeats 8000000
set_option linter.unusedVariables false
set_option linter.unusedSimpArgs false
namespace Mine
theorem fill_F13bx : ∀ (w : World) (h : Heap), (hd.heap_1 w.params).In h → PySem.Challenge.rw_qu0050_01.foot = 8 := by
  k_fill; intros; rfl
section
noncomputable def wsL : List Nat := [10, 9, 13, 32]
inductive LexQ : List Nat → List Nat → List Nat → Prop
  | fin {r} : LexQ (34 :: r) [] r
  | esc {d r t r'} : LexQ r t r' → LexQ (92 :: d :: r) (d :: t) r'
  | sgn {c r t r'} : c ≠ 34 → c ≠ 92 → LexQ r t r' → LexQ (c :: r) (c :: t) r'
inductive LexB : List Nat → List Nat → List Nat → Prop
  | eof : LexB [] [] []
  | ws {c r} : c ∈ wsL → LexB (c :: r) [] r
  | esc {d r t r'} : LexB r t r' → LexB (92 :: d :: r) (d :: t) r'
  | sgn {c r t r'} : c ∉ wsL → c ≠ 92 → LexB r t r' → LexB (c :: r) (c :: t) r'
inductive LexT : List Nat → List Nat → List Nat → Prop
  | eof : LexT [] [] []
  | skip {c r t r'} : c ∈ wsL → LexT r t r' → LexT (c :: r) t r'
  | quo {r t r'} : LexQ r t r' → LexT (34 :: r) t r'
  | esc {d r t r'} : LexB r t r' → LexT (92 :: d :: r) (d :: t) r'
  | sgn {c r t r'} : c ∉ wsL → c ≠ 34 → c ≠ 92 → LexB r t r' → LexT (c :: r) (c :: t) r'
noncomputable abbrev chS : Str := Str.ofString "ch"
noncomputable abbrev tokS : Str := Str.ofString "token"
theorem upd_ch {f : Str → Option Value} {u t : Option Value} {m : Str → Option Value} {v : Value} (h : f = upd [(chS, u), (tokS, t)] m) : (fun y => if y = chS then some v else f y) = upd [(chS, some v), (tokS, t)] m := by
  subst h
  funext y
  unfold upd
  by_cases h : y = chS
  · subst h; simp [List.lookup_cons]
  · have : (y == chS) = false := by simpa using h
    simp [List.lookup_cons, h, this]
theorem upd_tok {f : Str → Option Value} {u t : Option Value} {m : Str → Option Value} {v : Value} (h : f = upd [(chS, u), (tokS, t)] m) : (fun y => if y = tokS then some v else f y) = upd [(chS, u), (tokS, some v)] m := by
  subst h
  funext y
  unfold upd
  have hct : (tokS == chS) = false := by decide
  by_cases h : y = tokS
  · subst h; simp [List.lookup_cons, hct]
  · have : (y == tokS) = false := by simpa using h
    by_cases hc : y = chS
    · subst hc; simp [List.lookup_cons, h]
    · have hc' : (y == chS) = false := by simpa using hc
      simp [List.lookup_cons, h, this, hc']
theorem iter_use {prog : Program} {w : World} {A : Around} {E : Value → Shared → Prop} {s : Shared} {h₀ : Heap} {L : Addr} {m : Str → Option Value} {news : List (Addr × Obj)} {mo : Addr} {f self : Value} {t : Tok} {Q : Value → Shared → Prop} (F : Fr h₀ L s.heap m) (N : News h₀ L s.heap news) (hm : (mo, methodObj f self) ∈ news)
   (h : ∀ it h', Fr h₀ L h' m → News h₀ L h' ((it, ciObj mo t) :: news) → (∀ p ∈ news, p.1 < it) → Q (.ref it) { s with heap := h' }) :
   wpAny (model prog w) A (call (.builtin "iter") [.ref mo, .str (Str.ofString "") t]) Q E s :=
  iter_two (N.get hm) (h _ _ (F.push _) (News.push F N _ rfl) (news_lt N))
noncomputable def LexSt (h₀ : Heap) (L : Addr) (M : Str → Option Value) {cs : List Nat} (P : LexP (S cs)) (it mo : Nat) (t : Tok) (ea ep : Nat) (s : Shared) (over : Bool) (p : Nat) (u tv : Option Value) (s' : Shared) : Prop :=
  ∃ h' tk tp tl, s' = { s with heap := h', toks := tk } ∧ Fr h₀ L h' (upd [(chS, u), (tokS, tv)] M) ∧ News h₀ L h' ((it, if over then ciOver else ciObj mo t) :: (mo, methodObj (.ref 77) (.ref P.lx)) :: P.objs p tp ea (lineAt cs p) tl [] ep) ∧ h'.CodeRec (.ref P.c') q3
theorem LexSt.intro {h₀ h' : Heap} {L : Addr} {M : Str → Option Value} {cs : List Nat} {P : LexP (S cs)} {it mo : Nat} {t tp tl : Tok} {ea ep : Nat} {s : Shared} {over : Bool} {p : Nat} {u tv : Option Value} {tk : Nat} {all : List (Addr × Obj)} {m' : Str → Option Value}
   (F : Fr h₀ L h' m') (hm : m' = upd [(chS, u), (tokS, tv)] M) (N : News h₀ L h' all) (hs : ∀ q ∈ (it, if over then ciOver else ciObj mo t) :: (mo, methodObj (.ref 77) (.ref P.lx)) :: P.objs p tp ea (lineAt cs p) tl [] ep, q ∈ all) (hc : h'.CodeRec (.ref P.c') q3) :
   LexSt h₀ L M P it mo t ea ep s over p u tv { s with heap := h', toks := tk } := ⟨h', tk, tp, tl, rfl, hm ▸ F, fun q hq => N q (hs q hq), hc⟩
/-- for ch in the stream -/
theorem for_stream {w : World} {loose : List Str} {mean : ExcName → Option Value} {mg mb : Str → Option Value} {prog : Program} {A : Around} {E : Value → Shared → Prop} {s s₀ : Shared} {env : Env} {px : Pos} {body : List Stmt} {Q : Flow → Shared → Prop} {h₀ : Heap} {M : Str → Option Value}
   (G : Gd w loose mean mg mb h₀) {cs : List Nat} (P : LexP (S cs)) {it mo : Nat} {t : Tok} {ea ep : Nat} {p₀ : Nat} {u₀ t₀ : Option Value} (K KO : Nat → Option Value → Prop)
   (h : LexSt h₀ env.locals M P it mo t ea ep s₀ false p₀ u₀ t₀ s) (hp₀ : p₀ ≤ cs.length) (h0 : K p₀ t₀)
   (hit : it ≠ mo ∧ it ≠ P.AT ∧ it ≠ P.dx ∧ mo ≠ P.AT ∧ mo ≠ P.dx) (hoff : ∀ a ∈ P.addrs, a ≠ it) (hA : A.depth ≤ 780) (hh : A.handled = none) (htl : cs.length < 1000)
   (hx : env.kindOf chS = some .local) (hcls : (env.scope.kind == .class || (env.scope.kind == .module && env.locals != env.globals)) = false)
   (turn : ∀ p tv c h' tk tp tl u', K p tv → cs.drop p = c :: cs.drop (p + 1) → p < cs.length → Fr h₀ env.locals h' (upd [(chS, some (.str (S [c]) u')), (tokS, tv)] M) → News h₀ env.locals h' ((it, ciObj mo t) :: (mo, methodObj (.ref 77) (.ref P.lx)) :: P.objs (p + 1) tp ea (lineAt cs (p + 1)) tl [] ep) → h'.CodeRec (.ref P.c') q3 →
      wpAny (model prog w) A (execs body env) (fun f s₃ => match f with
          | .next | .cont => (∃ p' u tv', p < p' ∧ p' ≤ cs.length ∧ LexSt h₀ env.locals M P it mo t ea ep s₀ false p' u tv' s₃ ∧ K p' tv') ∨ (∃ p' u tv', LexSt h₀ env.locals M P it mo t ea ep s₀ true p' u tv' s₃ ∧ KO p' tv')
          | .brk => Q .next s₃
          | .ret v => Q (.ret v) s₃) (fun _ _ => False) { s₀ with heap := h', toks := tk })
   (fin : ∀ p u tv s', LexSt h₀ env.locals M P it mo t ea ep s₀ true p u tv s' → (K p tv ∧ cs.drop p = [] ∨ KO p tv) → Q .next s') :
   ForAt prog w A env (.Name chS px) body Q E (.ref it) s := by
  refine for_meas (fun n s' => (∃ p u tv, LexSt h₀ env.locals M P it mo t ea ep s₀ false p u tv s' ∧ p ≤ cs.length ∧ K p tv ∧ n = cs.length + 1 - p) ∨ (∃ p u tv, LexSt h₀ env.locals M P it mo t ea ep s₀ true p u tv s' ∧ KO p tv ∧ n = 0)) ?_ (cs.length + 1 - p₀) (.inl ⟨p₀, u₀, t₀, h, hp₀, h0, rfl⟩)
  rintro n s' (⟨p, u, tv, ⟨h', tk, tp, tl, rfl, F, N, hc⟩, hp, hK, rfl⟩ | ⟨p, u, tv, ⟨h', tk, tp, tl, rfl, F, N, hc⟩, hK, rfl⟩)
  · refine lex_next G F P N hit hoff hA hh hp htl hc ?_ ?_
    · intro c h2 tk2 u2 tp2 tl2 hd hpl F2 N2 hc2
      refine wpAny_assign_Name (wpAny_storeName_local hx F2.ns (fun h3 hn3 hs3 => ?_) hcls)
      have F3 := F2.set hn3 hs3
      have N3 := N2.set hs3
      have hc3 : h3.CodeRec (.ref P.c') q3 := by
        refine hideC fun D_ K_ => ?_
        obtain ⟨cc, oc, vs, tv', ec, ho', hd', hv'⟩ := hc2
        refine K_ ?_
        clear K_ D_
        refine ⟨cc, oc, vs, tv', ec, (hs3.2 cc (fun q => ?_)).trans ho', hd', hv'⟩
        refine hideC fun D_ K_ => ?_
        obtain ⟨oL, es, ep', eL, hdL, _⟩ := F2.ns
        refine K_ ?_
        clear K_ D_
        rw [← q, ho'] at eL
        cases eL
        rw [hd'] at hdL; cases hdL
      rw [upd_ch rfl] at F3
      refine wpAny_mono (turn p tv c h3 _ tp2 tl2 u2 hK hd hpl F3 N3 hc3) (fun f s₃ h₃ => ?_) fun _ _ e => e
      have conv : ((∃ p' u tv', p < p' ∧ p' ≤ cs.length ∧ LexSt h₀ env.locals M P it mo t ea ep s₀ false p' u tv' s₃ ∧ K p' tv') ∨ (∃ p' u tv', LexSt h₀ env.locals M P it mo t ea ep s₀ true p' u tv' s₃ ∧ KO p' tv')) →
          ∃ m, m < cs.length + 1 - p ∧ ((∃ p u tv, LexSt h₀ env.locals M P it mo t ea ep s₀ false p u tv s₃ ∧ p ≤ cs.length ∧ K p tv ∧ m = cs.length + 1 - p) ∨ (∃ p u tv, LexSt h₀ env.locals M P it mo t ea ep s₀ true p u tv s₃ ∧ KO p tv ∧ m = 0)) := by
        rintro (⟨p', u', tv', h1, h2, h3, h4⟩ | ⟨p', u', tv', h1, h2⟩)
        · exact ⟨cs.length + 1 - p', by omega, .inl ⟨p', u', tv', h3, h2, h4, rfl⟩⟩
        · exact ⟨0, by omega, .inr ⟨p', u', tv', h1, h2, rfl⟩⟩
      cases f with
      | next => exact conv h₃
      | cont => exact conv h₃
      | brk => exact h₃
      | ret v => exact h₃
    · intro h2 tk2 tp2 tl2 hd F2 N2 hc2
      exact fin p u tv _ ⟨h2, tk2, tp2, tl2, rfl, F2, N2, hc2⟩ (.inl ⟨hK, hd⟩)
  · refine ci_over hh (N.get (.head _)) fun h2 hk => ?_
    exact fin p u tv _ ⟨h2, tk, tp, tl, rfl, F.keeps hk, N.grown hk, codeRec_sub hk hc⟩ (.inr hK)
theorem iadd_S {prog : Program} {w : World} {A : Around} {E : Value → Shared → Prop} {s : Shared} {a b : List Nat} {t u : Tok} {Q : Value → Shared → Prop} (h : ∀ t' tk, Q (.str (S (a ++ b)) t') { s with toks := tk }) (hsz : a.length + b.length ≤ 100000) :
   wpAny (model prog w) A (inplaceOp .Add (.str (S a) t) (.str (S b) u)) Q E s :=
  PyProof.Rows.iadd_str (by rw [S_app]; exact h) (hsz := by rw [S_len, S_len, sizeLine_eq]; omega)
noncomputable def LexCut (h₀ : Heap) (L : Addr) (M : Str → Option Value) {cs : List Nat} (P : LexP (S cs)) (it mo : Nat) (t : Tok) (ea ep : Nat) (s₀ : Shared) (t₀ : Option Value) (K : Nat → Nat → Prop) (f : Flow) (s' : Shared) : Prop :=
  f = .next ∧ ∃ p' c' u', K p' c' ∧ LexSt h₀ L M P it mo t ea ep s₀ false p' (some (.str (S [c']) u')) t₀ s'
theorem lex_cut {w : World} {prog : Program} {A : Around} {E : Value → Shared → Prop} {s s₀ : Shared} {env : Env} {st : Stmt} {Q : Flow → Shared → Prop} {h₀ h : Heap} {L : Addr} {M : Str → Option Value} {cs : List Nat} {P : LexP (S cs)} {it mo : Nat} {t : Tok} {ea ep : Nat} {u₀ t₀ : Option Value}
   (F : Fr h₀ L h (upd [(chS, u₀), (tokS, t₀)] M)) (_ci : h.get? it = some (ciObj mo t)) (K : Nat → Nat → Prop)
   (h1 : wpAny (model prog w) A (exec st env) (LexCut h₀ L M P it mo t ea ep s₀ t₀ K) (fun _ _ => False) s)
   (h2 : ∀ s' p' c' u', K p' c' → LexSt h₀ L M P it mo t ea ep s₀ false p' (some (.str (S [c']) u')) t₀ s' → Q .next s') : wpAny (model prog w) A (exec st env) Q E s :=
  wpAny_mono h1 (fun f s' h => by obtain ⟨rfl, p', c', u', hk, hl⟩ := h; exact h2 s' p' c' u' hk hl) fun _ _ e => e.elim
theorem read_char_item {w : World} {loose : List Str} {mean : ExcName → Option Value} {mg mb : Str → Option Value} {prog : Program} {A : Around} {s : Shared} {Q E : Value → Shared → Prop} {h₀ : Heap} {L : Addr} {m : Str → Option Value} {it mo d : Nat} {oi om : Obj}
   (G : Gd w loose mean mg mb h₀) (F : Fr h₀ L s.heap m) {cs : List Nat} (P : LexP (S cs)) {p : Nat} {tp tl : Tok} {ea ep : Nat} {pv : List Value} (N : News h₀ L s.heap ((it, oi) :: (mo, om) :: P.objs p tp ea (lineAt cs p) tl pv ep))
   (hit : it ≠ mo ∧ it ≠ P.AT ∧ it ≠ P.dx ∧ mo ≠ P.AT ∧ mo ≠ P.dx) (hd : cs.drop p = d :: cs.drop (p + 1)) (hpl : p < cs.length)
   (hA : A.depth ≤ 790) (hh : A.handled = none) (htl : cs.length < 1000) (hcd : s.heap.CodeRec (.ref P.c') q3)
   (post : ∀ h' tk t tp' tl', Fr h₀ L h' m → News h₀ L h' ((it, oi) :: (mo, om) :: P.objs (p + 1) tp' ea (lineAt cs (p + 1)) tl' pv ep) → h'.CodeRec (.ref P.c') q3 → Q (.str (S [d]) t) { s with heap := h', toks := tk }) :
   wpAny (model prog w) A (call (.ref 77) [.ref P.lx]) Q E s := by
  refine read_char_use (pre := [(it, oi), (mo, om)]) (tp := tp) (tl := tl) (ea := ea) (ep := ep) (line := lineAt cs p) (pv := pv) G F P N ?_ hA hh (Nat.le_of_lt hpl) htl hcd ?_
  · intro q hq
    simp only [List.mem_cons, List.not_mem_nil, or_false] at hq
    rcases hq with rfl | rfl
    · exact ⟨hit.2.1, hit.2.2.1⟩
    · exact ⟨hit.2.2.2.1, hit.2.2.2.2⟩
  · intro h' tk t tp' tl' hb F' N' hc'
    have e : (cs.drop p).take 1 = [d] := by rw [hd]; rfl
    rw [e] at N' ⊢
    rw [lineAt_succ cs p d hd hpl] at N'
    exact post h' tk t tp' tl' F' N' hc'
theorem drop_tail {cs : List Nat} {p d : Nat} {r : List Nat} (h : cs.drop p = d :: r) : cs.drop p = d :: cs.drop (p + 1) ∧ r = cs.drop (p + 1) ∧ p < cs.length := by
  rcases take_one cs p with ⟨e, _⟩ | ⟨c, e, ed, hpl⟩
  · rw [h] at e; cases e
  · rw [h] at ed
    injection ed with e1 e2
    subst e1 e2
    exact ⟨h, rfl, hpl⟩
theorem tok_quote (c : Nat) (x : String) (k : Nat) (hx : Str.ofString x = S [k]) (b : Bool) (h : (S [c] == Str.ofString x) = b) : decide (c = k) = b := by
  rw [hx, S_beq] at h
  rw [← h]
  simp
local macro_rules | `(tactic| walk_at "exec For Name Name cons nil") => `(tactic| (k_dflt (refine for_open ?_)))
open Builtin Builtin.Str in
theorem ws_not {c : Nat} (h : (occurrences (Str.ofString "\n\t\r ") (S [c]) 0 (Str.ofString "\n\t\r ").length 1).isEmpty = true) : c ∉ wsL := by
  intro hin
  have := ws_in c
  rw [h] at this
  have h2 : decide (c ∈ [10, 9, 13, 32]) = true := decide_eq_true hin
  rw [h2] at this; cases this
open Builtin Builtin.Str in
theorem ws_yes {c : Nat} (h : (occurrences (Str.ofString "\n\t\r ") (S [c]) 0 (Str.ofString "\n\t\r ").length 1).isEmpty = false) : c ∈ wsL := by
  have := ws_in c
  rw [h] at this
  exact of_decide_eq_true this.symm
namespace F13c
noncomputable def P0 (cs : List Nat) (P : LexP (S cs)) (w : World) (loose : List Str) (mean : ExcName → Option Value) (mg : Str → Option Value) (mb : Str → Option Value) (g : Heap) (prog : Program) (dep : Nat) (fra : Option (List Env)) (gua : Option (List Code)) (uni : Nat) (hp0 : Heap) (gn : Array GenState) (dr : Drawn) (tk0 : Nat) (os0 : OsState) (Q : Value → Shared → Prop) (E : Value → Shared → Prop) (p : Nat) (tp : Tok) (tl : Tok) (ea : Nat) (ep : Nat) : Prop :=
  ∀ (G : Gd w loose mean mg mb g) (hg : Sub g hp0) (hA : dep ≤ 700) (hu : uni ≤ 4000) (T : List Nat) (R : List Nat) (hp : p ≤ cs.length) (htl : cs.length < 1000) (hT : LexT (cs.drop p) T R) (hTl : T.length < 1000) (hm : ∀ q ∈ P.objs p tp ea (lineAt cs p) tl [] ep, hp0.get? q.1 = some q.2 ∧ g.get? q.1 = none) (hcd : hp0.CodeRec (.ref P.c') q3) (post : ∀ h' tk t p' tp' tl', p' ≤ cs.length → cs.drop p' = R → But [P.AT, P.dx] hp0 h' → (∀ q ∈ P.objs p' tp' ea (lineAt cs p') tl' [] ep, h'.get? q.1 = some q.2) → h'.CodeRec (.ref P.c') q3 → Q (.str (S T) t) ⟨h', gn, dr, tk, os0⟩),
   wpAny (model prog w) ⟨none, dep, fra, gua, uni⟩ (call (.ref 84) [.ref P.lx]) Q E ⟨hp0, gn, dr, tk0, os0⟩
noncomputable abbrev Par : Type := (cs : List Nat) × ((LexP (S cs)) × (World) × (List Str) × (ExcName → Option Value) × (Str → Option Value) × (Str → Option Value) × (Heap) × (Program) × (Nat) × (Option (List Env)) × (Option (List Code)) × (Nat) × (Heap) × (Array GenState) × (Drawn) × (Nat) × (OsState) × (Value → Shared → Prop) × (Value → Shared → Prop) × (Nat) × (Tok) × (Tok) × (Nat) × (Nat))
noncomputable def P1 (p : Par) : Prop := P0 p.1 p.2.1 p.2.2.1 p.2.2.2.1 p.2.2.2.2.1 p.2.2.2.2.2.1 p.2.2.2.2.2.2.1 p.2.2.2.2.2.2.2.1 p.2.2.2.2.2.2.2.2.1 p.2.2.2.2.2.2.2.2.2.1 p.2.2.2.2.2.2.2.2.2.2.1 p.2.2.2.2.2.2.2.2.2.2.2.1 p.2.2.2.2.2.2.2.2.2.2.2.2.1 p.2.2.2.2.2.2.2.2.2.2.2.2.2.1 p.2.2.2.2.2.2.2.2.2.2.2.2.2.2.1 p.2.2.2.2.2.2.2.2.2.2.2.2.2.2.2.1 p.2.2.2.2.2.2.2.2.2.2.2.2.2.2.2.2.1 p.2.2.2.2.2.2.2.2.2.2.2.2.2.2.2.2.2.1 p.2.2.2.2.2.2.2.2.2.2.2.2.2.2.2.2.2.2.1 p.2.2.2.2.2.2.2.2.2.2.2.2.2.2.2.2.2.2.2.1 p.2.2.2.2.2.2.2.2.2.2.2.2.2.2.2.2.2.2.2.2.1 p.2.2.2.2.2.2.2.2.2.2.2.2.2.2.2.2.2.2.2.2.2.1 p.2.2.2.2.2.2.2.2.2.2.2.2.2.2.2.2.2.2.2.2.2.2.1 p.2.2.2.2.2.2.2.2.2.2.2.2.2.2.2.2.2.2.2.2.2.2.2.1 p.2.2.2.2.2.2.2.2.2.2.2.2.2.2.2.2.2.2.2.2.2.2.2.2
theorem some_par : Nonempty Par := ⟨⟨[], lexP0, aWorld 1, [], fun _ => none, fun _ => none, fun _ => none, default, default, 0, none, none, 0, default, #[], (start (default : Program)).1.drawn, 0, (start (default : Program)).1.os, fun _ _ => True, fun _ _ => True, 0, 0, 0, 0, 0⟩⟩
@[irreducible] noncomputable def cc : Par := @Classical.epsilon Par some_par fun p => ¬ P1 p
@[irreducible] noncomputable def cs : List Nat := by with_unfolding_all exact cc.1
@[irreducible] noncomputable def P : LexP (S cs) := by with_unfolding_all exact cc.2.1
@[irreducible] noncomputable def w : World := by with_unfolding_all exact cc.2.2.1
@[irreducible] noncomputable def loose : List Str := by with_unfolding_all exact cc.2.2.2.1
@[irreducible] noncomputable def mean : ExcName → Option Value := by with_unfolding_all exact cc.2.2.2.2.1
@[irreducible] noncomputable def mg : Str → Option Value := by with_unfolding_all exact cc.2.2.2.2.2.1
@[irreducible] noncomputable def mb : Str → Option Value := by with_unfolding_all exact cc.2.2.2.2.2.2.1
@[irreducible] noncomputable def g : Heap := by with_unfolding_all exact cc.2.2.2.2.2.2.2.1
@[irreducible] noncomputable def prog : Program := by with_unfolding_all exact cc.2.2.2.2.2.2.2.2.1
@[irreducible] noncomputable def dep : Nat := by with_unfolding_all exact cc.2.2.2.2.2.2.2.2.2.1
@[irreducible] noncomputable def fra : Option (List Env) := by with_unfolding_all exact cc.2.2.2.2.2.2.2.2.2.2.1
@[irreducible] noncomputable def gua : Option (List Code) := by with_unfolding_all exact cc.2.2.2.2.2.2.2.2.2.2.2.1
@[irreducible] noncomputable def uni : Nat := by with_unfolding_all exact cc.2.2.2.2.2.2.2.2.2.2.2.2.1
@[irreducible] noncomputable def hp0 : Heap := by with_unfolding_all exact cc.2.2.2.2.2.2.2.2.2.2.2.2.2.1
@[irreducible] noncomputable def gn : Array GenState := by with_unfolding_all exact cc.2.2.2.2.2.2.2.2.2.2.2.2.2.2.1
@[irreducible] noncomputable def dr : Drawn := by with_unfolding_all exact cc.2.2.2.2.2.2.2.2.2.2.2.2.2.2.2.1
@[irreducible] noncomputable def tk0 : Nat := by with_unfolding_all exact cc.2.2.2.2.2.2.2.2.2.2.2.2.2.2.2.2.1
@[irreducible] noncomputable def os0 : OsState := by with_unfolding_all exact cc.2.2.2.2.2.2.2.2.2.2.2.2.2.2.2.2.2.1
@[irreducible] noncomputable def Q : Value → Shared → Prop := by with_unfolding_all exact cc.2.2.2.2.2.2.2.2.2.2.2.2.2.2.2.2.2.2.1
@[irreducible] noncomputable def E : Value → Shared → Prop := by with_unfolding_all exact cc.2.2.2.2.2.2.2.2.2.2.2.2.2.2.2.2.2.2.2.1
@[irreducible] noncomputable def p : Nat := by with_unfolding_all exact cc.2.2.2.2.2.2.2.2.2.2.2.2.2.2.2.2.2.2.2.2.1
@[irreducible] noncomputable def tp : Tok := by with_unfolding_all exact cc.2.2.2.2.2.2.2.2.2.2.2.2.2.2.2.2.2.2.2.2.2.1
@[irreducible] noncomputable def tl : Tok := by with_unfolding_all exact cc.2.2.2.2.2.2.2.2.2.2.2.2.2.2.2.2.2.2.2.2.2.2.1
@[irreducible] noncomputable def ea : Nat := by with_unfolding_all exact cc.2.2.2.2.2.2.2.2.2.2.2.2.2.2.2.2.2.2.2.2.2.2.2.1
@[irreducible] noncomputable def ep : Nat := by with_unfolding_all exact cc.2.2.2.2.2.2.2.2.2.2.2.2.2.2.2.2.2.2.2.2.2.2.2.2
@[irreducible] noncomputable def g' : Heap := hideAll hp0 ((P.objs p tp ea (lineAt cs p) tl [] ep).map (·.1))
@[irreducible] noncomputable def L : Addr := hp0.objs.size
theorem core : P0 cs P w loose mean mg mb g prog dep fra gua uni hp0 gn dr tk0 os0 Q E p tp tl ea ep := by
  unfold P0
  intro G hg hA hu T R hp htl hT hTl hm hcd post
  have hL : L = hp0.objs.size := by unfold L; rfl
  refine call_topE (P.objs p tp ea (lineAt cs p) tl [] ep) (g' := g') (L := L) (by unfold g'; rfl) hL G hg hm (by k_is) (by k_is) rfl (locs rfl) (by show dep < 1000; omega) ?_
  intro h₁ tk G' hbut hnone F N l1
  k_lt l1
  have hlt := P.lt
  have d1 := P.d1
  have d2 := P.d2
  have XX := G'.X
  have T' := G'.T
  dsimp only [LexP.objs] at N hm hbut
  have hcd' : g'.CodeRec (.ref P.c') q3 := codeRec_but hbut (fun q hq => ⟨(hm q hq).1, by
    simp only [List.mem_cons, List.not_mem_nil, or_false] at hq
    rcases hq with rfl | rfl | rfl | rfl | rfl | rfl | rfl | rfl | rfl
    · exact fun _ => nofun
    · exact fun _ => nofun
    · exact fun _ => nofun
    · exact fun _ => nofun
    · exact fun _ => nofun
    · exact fun _ => nofun
    · exact fun _ => nofun
    · exact fun _ => by rw [d1]; nofun
    · exact fun _ => by rw [d2]; nofun⟩) hcd
  have fin : ∀ {L' : Addr} {m' : Str → Option Value} {h' : Heap} {p' it' : Nat} {o1 : Obj} {o2' : Addr × Obj} {tp' tl' : Tok}, Fr g' L' h' m' → News g' L' h' ((it', o1) :: o2' :: P.objs p' tp' ea (lineAt cs p') tl' [] ep) → But [P.AT, P.dx] hp0 h' := by
    intro L' m' h' p' it' o1 o2' tp' tl' F' N'
    refine but_of [P.AT, P.dx] hbut (fun q hq => (hm q hq).1) F' N' fun q hq => ?_
    rcases List.mem_cons.mp hq with rfl | hq
    · exact .inl (.head _)
    rcases List.mem_cons.mp hq with rfl | hq
    · exact .inl (.tail _ (.head _))
    · exact .inr (.tail _ (.tail _ (.tail _ (.tail _ hq))))
  iterate 26 walk_at "go"
  with_reducible rename Fr _ _ _ _ => F2
  with_reducible rename News _ _ _ _ => N2
  rename_i mo _ lmo
  refine iter_use F2 N2 (by k_mem) ?_
  intro it h3 F3 N3 lit
  k_lt lit
  clear F2 N2
  iterate 3 walk_at "go"
  refine for_open ?_
  iterate 1 walk_at "go"
  with_reducible rename Fr _ _ _ _ => F4
  with_reducible rename News _ _ _ _ => N4
  refine ci_iter (N4.get (by k_mem)) rfl ?_
  have hitm : it ≠ mo ∧ it ≠ P.AT ∧ it ≠ P.dx ∧ mo ≠ P.AT ∧ mo ≠ P.dx := by
    refine ⟨?_, ?_, ?_, ?_, ?_⟩ <;> refine neN ?_ <;> omega
  have hoff : ∀ a ∈ P.addrs, a ≠ it := by
    intro a ha
    simp only [LexP.addrs, List.mem_cons, List.not_mem_nil, or_false] at ha
    rcases ha with rfl | rfl | rfl | rfl | rfl | rfl | rfl | rfl | rfl <;> refine neN ?_ <;> omega
  have hcd4 := codeRec_sub F4.keep hcd'
  refine for_stream (s₀ := ⟨hp0, gn, dr, tk0, os0⟩) G' P (fun p tv => p ≤ cs.length ∧ LexT (cs.drop p) T R ∧ ∃ t, tv = some (.str (S []) t)) (fun p tv => p ≤ cs.length ∧ cs.drop p = R ∧ ∃ t, tv = some (.str (S T) t))
    (LexSt.intro (u := none) F4 (upd_self [(chS, none), (tokS, some (.str (S []) ?tk0))] _ ?ups).symm N4 (fun q hq => hq) hcd4) hp ⟨hp, hT, ?tk0, rfl⟩ hitm hoff (by show dep + 1 ≤ 780; omega) rfl htl rfl rfl ?turn ?fin
  case ups =>
    intro x hx
    simp only [List.mem_cons, List.not_mem_nil, or_false] at hx
    rcases hx with rfl | rfl
    · rfl
    · rfl
  case fin =>
    clear F4 N4
    intro p1 u tv s' H_
    refine hideC fun D_ K_ => ?_
    obtain ⟨h5, tk5, tp5, tl5, e1_, F5, N5, hc5⟩ := H_
    refine K_ ?_
    clear K_ D_
    subst e1_
    intro hk
    refine hideC fun D_ K_ => ?_
    obtain ⟨tT, e2_, hR, hp1⟩ : ∃ tT, tv = some (.str (S T) tT) ∧ cs.drop p1 = R ∧ p1 ≤ cs.length := by
      rcases hk with ⟨⟨hk1, hk2, t, rfl⟩, hk4⟩ | ⟨hk1, hk2, t, rfl⟩
      · rw [hk4] at hk2
        cases hk2
        exact ⟨t, rfl, hk4, hk1⟩
      · exact ⟨t, rfl, hk2, hk1⟩
    refine K_ ?_
    clear K_ D_
    subst e2_
    dsimp only
    repeat walk_at "go"
    exact post _ _ _ p1 tp5 tl5 hp1 hR (fin F5 N5) (fun q hq => N5.get (.tail _ (.tail _ hq))) hc5
  case turn =>
    clear F4 N4
    intro p1 tv c h5 tk5 tp5 tl5 u5 H_
    refine hideC fun D_ K_ => ?_
    obtain ⟨_, hL1, t1, e3_⟩ := H_
    refine K_ ?_
    clear K_ D_
    subst e3_
    intro hd hpl F5 N5 hc5
    dsimp only [LexP.objs] at N5
    repeat walk_at "go"
    · with_reducible rename (S [c] == Str.ofString "\"") = true => hq
      have hc34 : c = 34 := of_decide_eq_true (tok_quote c _ 34 (by decide) _ hq)
      rw [hc34] at hd
      have hLQ : LexQ (cs.drop (p1 + 1)) T R := by
        rw [hd] at hL1
        cases hL1 with
        | skip h _ => exact absurd h (by decide)
        | quo h => exact h
        | sgn _ h _ _ => exact absurd rfl h
      with_reducible rename Fr _ _ _ _ => F5
      refine ci_iter (N5.get (by k_mem)) rfl ?_
      refine for_stream (s₀ := ⟨hp0, gn, dr, tk0, os0⟩) G' P (fun p tv => p ≤ cs.length ∧ ∃ t T1 T2, tv = some (.str (S T1) t) ∧ LexQ (cs.drop p) T2 R ∧ T1 ++ T2 = T) (fun _ _ => False)
        (LexSt.intro F5 rfl N5 (fun q hq => hq) hc5) (by omega) ⟨by omega, _, [], T, rfl, hLQ, rfl⟩ hitm hoff (by show dep + 1 ≤ 780; omega) rfl htl rfl rfl ?_ ?_
      · clear F5 N5 hc5
        intro p2 tv c2 h6 tk6 tp6 tl6 u6 H_
        refine hideC fun D_ K_ => ?_
        obtain ⟨_, t2, T1, T2, e4_, hL2, hTT⟩ := H_
        refine K_ ?_
        clear K_ D_
        subst e4_
        intro hd2 hpl2 F6 N6 hc6
        dsimp only [LexP.objs] at N6
        repeat walk_at "go"
        · with_reducible rename (S [c2] == Str.ofString "\"") = true => hq2
          with_reducible rename Fr _ _ _ _ => F6
          have hc34 : c2 = 34 := of_decide_eq_true (tok_quote c2 _ 34 (by decide) _ hq2)
          rw [hc34] at hd2
          rw [hd2] at hL2
          cases hL2 with
          | fin =>
            rw [List.append_nil] at hTT
            subst hTT
            exact post _ _ _ (p2 + 1) tp6 tl6 (by omega) rfl (fin F6 N6) (fun q hq => N6.get (.tail _ (.tail _ hq))) hc6
          | sgn h _ _ => exact absurd rfl h
        · with_reducible rename (S [c2] == Str.ofString "\"") = false => hq2
          have hc34 : ¬ c2 = 34 := of_decide_eq_false (tok_quote c2 _ 34 (by decide) _ hq2)
          repeat walk_at "go"
          · with_reducible rename (S [c2] == Str.ofString "\\") = true => hq3
            with_reducible rename Fr _ _ _ _ => F6
            have hc92 : c2 = 92 := of_decide_eq_true (tok_quote c2 _ 92 (by decide) _ hq3)
            rw [hc92] at hd2
            refine hideC fun D_ K_ => ?_
            obtain ⟨d, T3, eT_, hd3, hpl3, hL3⟩ : ∃ d T3, T2 = d :: T3 ∧ cs.drop (p2 + 1) = d :: cs.drop (p2 + 1 + 1) ∧ p2 + 1 < cs.length ∧ LexQ (cs.drop (p2 + 1 + 1)) T3 R := by
              rw [hd2] at hL2
              generalize hr : cs.drop (p2 + 1) = r at hL2
              cases hL2 with
              | esc h =>
                obtain ⟨e1, e2, e3⟩ := drop_tail hr
                exact ⟨_, _, rfl, hr ▸ e1, e3, e2 ▸ h⟩
              | sgn _ h _ => exact absurd rfl h
            refine K_ ?_
            clear K_ D_
            rw [eT_] at hTT
            refine read_char_item G' F6 P N6 hitm hd3 hpl3 (by show dep + 1 ≤ 790; omega) rfl htl hc6 ?_
            intro h7 tk7 t7 tp7 tl7 F7 N7 hc7
            clear F6 N6 hc6
            dsimp only [LexP.objs] at N7
            repeat walk_at "go"
            have hTl1 : T1.length + (d :: T3).length < 1000 := by rw [← List.length_append, hTT]; exact hTl
            refine iadd_S ?_ (by simp at hTl1 ⊢; omega)
            intro t8 tk8
            repeat walk_at "go"
            with_reducible rename Fr _ _ _ _ => F8
            with_reducible rename News _ _ _ _ => N8
            exact .inl ⟨p2 + 1 + 1, _, _, by omega, by omega, LexSt.intro F8 (upd_tok (upd_ch rfl)) N8 (fun q hq => hq) (codeRec_sub F8.keep hcd'), by omega, _, T1 ++ [d], T3, rfl, hL3, by rw [← hTT]; simp⟩
          · with_reducible rename (S [c2] == Str.ofString "\\") = false => hq3
            have hc92 : ¬ c2 = 92 := of_decide_eq_false (tok_quote c2 _ 92 (by decide) _ hq3)
            obtain ⟨T3, eT_, hL3⟩ : ∃ T3, T2 = c2 :: T3 ∧ LexQ (cs.drop (p2 + 1)) T3 R := by
              rw [hd2] at hL2
              generalize cs.drop (p2 + 1) = r at hL2 ⊢
              cases hL2 with
              | fin => exact absurd rfl hc34
              | esc _ => exact absurd rfl hc92
              | sgn _ _ h => exact ⟨_, rfl, h⟩
            rw [eT_] at hTT
            repeat walk_at "go"
            have hTl1 : T1.length + (c2 :: T3).length < 1000 := by rw [← List.length_append, hTT]; exact hTl
            refine iadd_S ?_ (by simp at hTl1 ⊢; omega)
            intro t8 tk8
            repeat walk_at "go"
            with_reducible rename Fr _ _ _ _ => F8
            with_reducible rename News _ _ _ _ => N8
            exact .inl ⟨p2 + 1, _, _, by omega, by omega, LexSt.intro F8 (upd_tok rfl) N8 (fun q hq => hq) (codeRec_sub F8.keep hcd'), by omega, _, T1 ++ [c2], T3, rfl, hL3, by rw [← hTT]; simp⟩
      · rintro p2 u tv s' - (⟨⟨_, t2, T1, T2, rfl, hL2, hTT⟩, hd2⟩ | h)
        · rw [hd2] at hL2; cases hL2
        · exact h.elim
    · with_reducible rename (S [c] == Str.ofString "\"") = false => hq
      have hc34 : ¬ c = 34 := of_decide_eq_false (tok_quote c _ 34 (by decide) _ hq)
      have hws : c ∉ wsL := ws_not (by with_reducible assumption)
      obtain hLB : (c ≠ 92 ∧ ∃ T3, T = c :: T3 ∧ LexB (cs.drop (p1 + 1)) T3 R) ∨ (c = 92 ∧ ∃ d T3, T = d :: T3 ∧ cs.drop (p1 + 1) = d :: cs.drop (p1 + 1 + 1) ∧ p1 + 1 < cs.length ∧ LexB (cs.drop (p1 + 1 + 1)) T3 R) := by
        rw [hd] at hL1
        generalize hr : cs.drop (p1 + 1) = r at hL1 ⊢
        cases hL1 with
        | skip h _ => exact absurd h hws
        | quo _ => exact absurd rfl hc34
        | esc h =>
          obtain ⟨e1, e2, e3⟩ := drop_tail hr
          exact .inr ⟨rfl, _, _, rfl, by rw [← e2], e3, e2 ▸ h⟩
        | sgn _ _ h1 h2 => exact .inl ⟨h1, _, rfl, h2⟩
      with_reducible rename Fr _ _ _ _ => F5
      iterate 1 walk_at "go"
      refine lex_cut (s₀ := ⟨hp0, gn, dr, tk0, os0⟩) (P := P) (ea := ea) (ep := ep) F5 (N5.get (.head _)) (fun p' c' => p' ≤ cs.length ∧ ∃ T3, T = c' :: T3 ∧ LexB (cs.drop p') T3 R) ?_ ?_
      · repeat walk_at "go"
        · with_reducible rename (S [c] == Str.ofString "\\") = true => hq3
          have hc92 : c = 92 := of_decide_eq_true (tok_quote c _ 92 (by decide) _ hq3)
          rcases hLB with ⟨h, _⟩ | ⟨_, d, T3, hT3, hd3, hpl3, hL3⟩
          · exact absurd hc92 h
          with_reducible rename Fr _ _ _ _ => F5
          refine read_char_item G' F5 P N5 hitm hd3 hpl3 (by show dep + 1 ≤ 790; omega) rfl htl hc5 ?_
          intro h7 tk7 t7 tp7 tl7 F7 N7 hc7
          clear F5 N5 hc5
          dsimp only [LexP.objs] at N7
          repeat walk_at "go"
          with_reducible rename Fr _ _ _ _ => F8
          with_reducible rename News _ _ _ _ => N8
          unfold LexCut
          exact ⟨rfl, p1 + 1 + 1, d, _, ⟨by omega, T3, hT3, hL3⟩, LexSt.intro F8 (upd_ch rfl) N8 (fun q hq => hq) (codeRec_sub F8.keep hcd')⟩
        · with_reducible rename (S [c] == Str.ofString "\\") = false => hq3
          have hc92 : ¬ c = 92 := of_decide_eq_false (tok_quote c _ 92 (by decide) _ hq3)
          rcases hLB with ⟨_, T3, hT3, hL3⟩ | ⟨h, _⟩
          · repeat walk_at "go"
            with_reducible rename Fr _ _ _ _ => F5
            unfold LexCut
            exact ⟨rfl, p1 + 1, c, _, ⟨by omega, T3, hT3, hL3⟩, LexSt.intro F5 rfl N5 (fun q hq => hq) hc5⟩
          · exact absurd h hc92
      · clear F5 N5 hc5
        intro s' p2 c2 u2 H_
        refine hideC fun D_ K_ => ?_
        obtain ⟨hp2, T3, hT3, hL3⟩ := H_
        refine K_ ?_
        clear K_ D_
        intro H_
        refine hideC fun D_ K_ => ?_
        obtain ⟨h6, tk6, tp6, tl6, e5_, F6, N6, hc6⟩ := H_
        refine K_ ?_
        clear K_ D_
        subst e5_
        dsimp only [LexP.objs] at N6
        iterate 4 walk_at "go"
        refine iadd_S ?_ (by simp)
        intro t8 tk8
        iterate 4 walk_at "go"
        with_reducible rename Fr _ _ _ _ => F8
        with_reducible rename News _ _ _ _ => N8
        refine ci_iter (N8.get (by k_mem)) rfl ?_
        refine for_stream (s₀ := ⟨hp0, gn, dr, tk0, os0⟩) G' P (fun p tv => p ≤ cs.length ∧ ∃ t T1 T2, tv = some (.str (S T1) t) ∧ LexB (cs.drop p) T2 R ∧ T1 ++ T2 = T) (fun _ _ => False)
          (LexSt.intro F8 (upd_tok rfl) N8 (fun q hq => hq) (codeRec_sub F8.keep hcd')) hp2 ⟨hp2, _, [c2], T3, rfl, hL3, hT3.symm⟩ hitm hoff (by show dep + 1 ≤ 780; omega) rfl htl rfl rfl ?_ ?_
        · clear F8 N8
          intro p3 tv c3 h9 tk9 tp9 tl9 u9 H_
          refine hideC fun D_ K_ => ?_
          obtain ⟨_, t9, T1, T2, e6_, hL9, hTT⟩ := H_
          refine K_ ?_
          clear K_ D_
          subst e6_
          intro hd9 hpl9 F9 N9 hc9
          dsimp only [LexP.objs] at N9
          repeat walk_at "go"
          · with_reducible rename (S [c3] == Str.ofString "\\") = true => hq3
            with_reducible rename Fr _ _ _ _ => F9
            have hc92 : c3 = 92 := of_decide_eq_true (tok_quote c3 _ 92 (by decide) _ hq3)
            rw [hc92] at hd9
            refine hideC fun D_ K_ => ?_
            obtain ⟨d, T4, eT_, hd3, hpl3, hL3⟩ : ∃ d T4, T2 = d :: T4 ∧ cs.drop (p3 + 1) = d :: cs.drop (p3 + 1 + 1) ∧ p3 + 1 < cs.length ∧ LexB (cs.drop (p3 + 1 + 1)) T4 R := by
              rw [hd9] at hL9
              generalize hr : cs.drop (p3 + 1) = r at hL9
              cases hL9 with
              | ws h => exact absurd h (by decide)
              | esc h =>
                obtain ⟨e1, e2, e3⟩ := drop_tail hr
                exact ⟨_, _, rfl, hr ▸ e1, e3, e2 ▸ h⟩
              | sgn _ h _ => exact absurd rfl h
            refine K_ ?_
            clear K_ D_
            rw [eT_] at hTT
            refine read_char_item G' F9 P N9 hitm hd3 hpl3 (by show dep + 1 ≤ 790; omega) rfl htl hc9 ?_
            intro h7 tk7 t7 tp7 tl7 F7 N7 hc7
            clear F9 N9 hc9
            dsimp only [LexP.objs] at N7
            repeat walk_at "go"
            have hTl1 : T1.length + (d :: T4).length < 1000 := by rw [← List.length_append, hTT]; exact hTl
            refine iadd_S ?_ (by simp at hTl1 ⊢; omega)
            intro t8 tk8
            repeat walk_at "go"
            with_reducible rename Fr _ _ _ _ => F8
            with_reducible rename News _ _ _ _ => N8
            exact .inl ⟨p3 + 1 + 1, _, _, by omega, by omega, LexSt.intro F8 (upd_tok (upd_ch rfl)) N8 (fun q hq => hq) (codeRec_sub F8.keep hcd'), by omega, _, T1 ++ [d], T4, rfl, hL3, by rw [← hTT]; simp⟩
          · with_reducible rename (S [c3] == Str.ofString "\\") = false => hq3
            have hc92 : ¬ c3 = 92 := of_decide_eq_false (tok_quote c3 _ 92 (by decide) _ hq3)
            have hws3 : c3 ∉ wsL := ws_not (by with_reducible assumption)
            obtain ⟨T4, eT_, hL3⟩ : ∃ T4, T2 = c3 :: T4 ∧ LexB (cs.drop (p3 + 1)) T4 R := by
              rw [hd9] at hL9
              generalize cs.drop (p3 + 1) = r at hL9 ⊢
              cases hL9 with
              | ws h => exact absurd h hws3
              | esc _ => exact absurd rfl hc92
              | sgn _ _ h => exact ⟨_, rfl, h⟩
            rw [eT_] at hTT
            repeat walk_at "go"
            have hTl1 : T1.length + (c3 :: T4).length < 1000 := by rw [← List.length_append, hTT]; exact hTl
            refine iadd_S ?_ (by simp at hTl1 ⊢; omega)
            intro t8 tk8
            repeat walk_at "go"
            with_reducible rename Fr _ _ _ _ => F8
            with_reducible rename News _ _ _ _ => N8
            exact .inl ⟨p3 + 1, _, _, by omega, by omega, LexSt.intro F8 (upd_tok rfl) N8 (fun q hq => hq) (codeRec_sub F8.keep hcd'), by omega, _, T1 ++ [c3], T4, rfl, hL3, by rw [← hTT]; simp⟩
          · have hws3 : c3 ∈ wsL := ws_yes (by with_reducible assumption)
            have hR : T2 = [] ∧ R = cs.drop (p3 + 1) := by
              rw [hd9] at hL9
              generalize cs.drop (p3 + 1) = r at hL9 ⊢
              cases hL9 with
              | ws h => exact ⟨rfl, rfl⟩
              | esc _ => exact absurd hws3 (by decide)
              | sgn h _ _ => exact absurd hws3 h
            obtain ⟨rfl, hR⟩ := hR
            rw [List.append_nil] at hTT
            subst hTT
            repeat walk_at "go"
            with_reducible rename Fr _ _ _ _ => F9
            exact post _ _ _ (p3 + 1) tp9 tl9 (by omega) hR.symm (fin F9 N9) (fun q hq => N9.get (.tail _ (.tail _ hq))) hc9
        · rintro p3 u tv s' hls (⟨⟨hp3, t2, T1, T2, rfl, hL9, hTT⟩, hd9⟩ | h)
          · rw [hd9] at hL9
            cases hL9 with
            | eof =>
              rw [List.append_nil] at hTT
              subst hTT
              dsimp only
              refine hideC fun D_ K_ => ?_
              obtain ⟨h6, tk6, tp6, tl6, e7_, F6, N6, hc6⟩ := hls
              refine K_ ?_
              clear K_ D_
              subst e7_
              repeat walk_at "go"
              exact .inr ⟨p3, _, _, ⟨h6, tk6, tp6, tl6, rfl, F6, N6, hc6⟩, hp3, hd9, _, rfl⟩
          · exact h.elim
    · have hws : c ∈ wsL := ws_yes (by with_reducible assumption)
      have hLT : LexT (cs.drop (p1 + 1)) T R := by
        rw [hd] at hL1
        generalize cs.drop (p1 + 1) = r at hL1 ⊢
        cases hL1 with
        | skip _ h => exact h
        | quo _ => exact absurd hws (by decide)
        | esc _ => exact absurd hws (by decide)
        | sgn h _ _ _ => exact absurd hws h
      repeat walk_at "go"
      with_reducible rename Fr _ _ _ _ => F5
      exact .inl ⟨p1 + 1, _, _, by omega, by omega, LexSt.intro F5 rfl N5 (fun q hq => hq) hc5, by omega, hLT, _, rfl⟩
theorem all : ∀ p : Par, P1 p := fun p => Classical.byContradiction fun hn => (@Classical.epsilon_spec Par (fun p => ¬ P1 p) ⟨p, hn⟩) (by with_unfolding_all exact core)
end F13c
theorem token_text_spec {w : World} {loose : List Str} {mean : ExcName → Option Value} {mg mb : Str → Option Value} {g : Heap} {prog : Program} {A : Around} {s : Shared} {Q E : Value → Shared → Prop} (G : Gd w loose mean mg mb g) (hg : Sub g s.heap) (hA : A.depth ≤ 700) (hu : A.units ≤ 4000) (hh : A.handled = none) {cs : List Nat} (P : LexP (S cs)) {p : Nat} {tp tl : Tok} {ea ep : Nat} {T R : List Nat} (hp : p ≤ cs.length) (htl : cs.length < 1000) (hT : LexT (cs.drop p) T R) (hTl : T.length < 1000)
   (hm : ∀ q ∈ P.objs p tp ea (lineAt cs p) tl [] ep, s.heap.get? q.1 = some q.2 ∧ g.get? q.1 = none) (hcd : s.heap.CodeRec (.ref P.c') q3)
   (post : ∀ h' tk t p' tp' tl', p' ≤ cs.length → cs.drop p' = R → But [P.AT, P.dx] s.heap h' → (∀ q ∈ P.objs p' tp' ea (lineAt cs p') tl' [] ep, h'.get? q.1 = some q.2) → h'.CodeRec (.ref P.c') q3 → Q (.str (S T) t) { s with heap := h', toks := tk }) :
   wpAny (model prog w) A (call (.ref 84) [.ref P.lx]) Q E s := by
  refine hideC fun D_ K_ => ?_
  obtain ⟨hand, dep, fra, gua, uni⟩ := A
  refine K_ ?_
  clear K_ D_
  refine hideC fun D_ K_ => ?_
  obtain ⟨hp0, gn, dr, tk0, os0⟩ := s
  refine K_ ?_
  clear K_ D_
  dsimp only at hh
  subst hh
  exact F13c.all ⟨cs, P, w, loose, mean, mg, mb, g, prog, dep, fra, gua, uni, hp0, gn, dr, tk0, os0, Q, E, p, tp, tl, ea, ep⟩ G hg hA hu T R hp htl hT hTl hm hcd post
end
end Mine
end
section
open PySem PySem.W PyProof.Rows PySem.Calls
set_option maxRecDepth 100000
set_option maxHeartbeats 8000000
set_option linter.unusedVariables false
set_option linter.unusedSimpArgs false
namespace Mine
theorem fill_F14 : ∀ (w : World) (h : Heap), (hd.heap_1 w.params).In h → PySem.Challenge.rw_qu0050_01.foot = 8 := by
  k_fill; intros; rfl
section
theorem token_pop_spec {w : World} {loose : List Str} {mean : ExcName → Option Value} {mg mb : Str → Option Value} {g : Heap} {prog : Program} {A : Around} {s : Shared} {Q E : Value → Shared → Prop} (G : Gd w loose mean mg mb g) (hg : Sub g s.heap) (hA : A.depth ≤ 700) (hu : A.units ≤ 4000) (hh : A.handled = none) {cs : List Nat} (P : LexP (S cs)) {p : Nat} {tp tl : Tok} {ea ep : Nat} {line : Int} {v : Value} {pv : List Value} (hpl : pv.length < 1000)
   (hm : ∀ q ∈ P.objs p tp ea line tl (v :: pv) ep, s.heap.get? q.1 = some q.2 ∧ g.get? q.1 = none)
   (post : ∀ h' tk ep', But [P.pb] s.heap h' → h'.get? P.pb = some (listOf pv.toArray ep') → Q v { s with heap := h', toks := tk }) :
   wpAny (model prog w) A (call (.ref 84) [.ref P.lx]) Q E s := by
  refine call_top (P.objs p tp ea line tl (v :: pv) ep) G hg hm (by k_is) (by k_is) rfl (locs rfl) (by show A.depth < 1000; omega) ?_
  intro g' L h₁ tk G' hbut hnone hL F N l1
  k_lt l1
  have hlt := P.lt
  have d1 := P.d1
  have d2 := P.d2
  have XX := G'.X
  have T' := G'.T
  obtain ⟨hand, dep, fra, gua, uni⟩ := A
  dsimp only at hh hA hu
  subst hh
  dsimp only [LexP.objs] at N hm hbut
  have fin : ∀ {L' : Addr} {m' : Str → Option Value} {h' : Heap} {o : Obj}, Fr g' L' h' m' → News g' L' h' [(P.AT, listOf #[.int (p : Int) tp] ea), (P.dx, P.fields line tl), (P.pb, o), (P.lx, instObj 94 P.dx), (P.st, P.strm), (P.sd, P.sdict), (P.fr, P.rd), (P.c1, P.o1), (P.c2, P.o2)] → But [P.pb] s.heap h' := by
    intro L' m' h' o F' N'
    refine but_of [P.pb] hbut (fun q hq => (hm q hq).1) F' N' fun q hq => ?_
    simp only [List.mem_cons, List.not_mem_nil, or_false] at hq
    rcases hq with rfl | rfl | rfl | rfl | rfl | rfl | rfl | rfl | rfl
    · exact .inr (by k_mem)
    · exact .inr (by k_mem)
    · exact .inl (.head _)
    all_goals exact .inr (by k_mem)
  iterate 6 walk_at "go"
  refine wpAny_truthy_list (N.isList (a := P.pb) (by k_mem)) (by simp; omega) ?_
  dsimp only
  rw [if_pos (by simp)]
  iterate 12 walk_at "go"
  with_reducible rename Fr _ _ _ _ => F5
  with_reducible rename News _ _ _ _ => N5
  refine kl_popAt (its := (v :: pv).toArray) (n := ep) (p := []) (q := pv) (y := v) (k := 0) F5 N5 rfl (by simp [seqIndex?]) (by rfl) (by k_upd) (by simp [sizeLine]; omega) ?_
  intro h6 F6 N6
  clear F5 N5
  repeat walk_at "go"
  exact post _ _ _ (fin F6 N6) (N6.get (a := P.pb) (by k_mem))
theorem push_spec {w : World} {loose : List Str} {mean : ExcName → Option Value} {mg mb : Str → Option Value} {g : Heap} {prog : Program} {A : Around} {s : Shared} {Q E : Value → Shared → Prop} (G : Gd w loose mean mg mb g) (hg : Sub g s.heap) (hA : A.depth ≤ 700) (hu : A.units ≤ 4000) (hh : A.handled = none) {cs : List Nat} (P : LexP (S cs)) {p : Nat} {tp tl : Tok} {ea ep : Nat} {line : Int} {x : Str} {t : Tok} {pv : List Value} (hpl : pv.length < 1000)
   (hm : ∀ q ∈ P.objs p tp ea line tl pv ep, s.heap.get? q.1 = some q.2 ∧ g.get? q.1 = none)
   (post : ∀ h' tk ep', But [P.pb] s.heap h' → h'.get? P.pb = some (listOf (pv ++ [Value.str x t]).toArray ep') → Q .none { s with heap := h', toks := tk }) :
   wpAny (model prog w) A (call (.ref 91) [.ref P.lx, .str x t]) Q E s := by
  refine call_top (P.objs p tp ea line tl pv ep) G hg hm (by k_is) (by k_is) rfl (locs rfl) (by show A.depth < 1000; omega) ?_
  intro g' L h₁ tk G' hbut hnone hL F N l1
  k_lt l1
  have hlt := P.lt
  have d1 := P.d1
  have d2 := P.d2
  have XX := G'.X
  have T' := G'.T
  obtain ⟨hand, dep, fra, gua, uni⟩ := A
  dsimp only at hh hA hu
  subst hh
  dsimp only [LexP.objs] at N hm hbut
  have fin : ∀ {L' : Addr} {m' : Str → Option Value} {h' : Heap} {o : Obj}, Fr g' L' h' m' → News g' L' h' [(P.AT, listOf #[.int (p : Int) tp] ea), (P.dx, P.fields line tl), (P.pb, o), (P.lx, instObj 94 P.dx), (P.st, P.strm), (P.sd, P.sdict), (P.fr, P.rd), (P.c1, P.o1), (P.c2, P.o2)] → But [P.pb] s.heap h' := by
    intro L' m' h' o F' N'
    refine but_of [P.pb] hbut (fun q hq => (hm q hq).1) F' N' fun q hq => ?_
    simp only [List.mem_cons, List.not_mem_nil, or_false] at hq
    rcases hq with rfl | rfl | rfl | rfl | rfl | rfl | rfl | rfl | rfl
    · exact .inr (by k_mem)
    · exact .inr (by k_mem)
    · exact .inl (.head _)
    all_goals exact .inr (by k_mem)
  repeat walk_at "go"
  with_reducible rename Fr _ _ _ _ => F9
  with_reducible rename News _ _ _ _ => N9
  have e9 := N9.get (a := P.pb) (o := listOf _ _) (by k_mem)
  have ea : pv.toArray.push (Value.str x t) = (pv ++ [Value.str x t]).toArray := by simp
  rw [ea] at e9
  exact post _ _ _ (fin F9 N9) e9
end
end Mine
end
section
open PySem PySem.W PyProof.Rows PySem.Calls
set_option maxRecDepth 100000
set_option maxHeartbeats 8000000
set_option linter.unusedVariables false
set_option linter.unusedSimpArgs false
namespace Mine
theorem fill_B13 : ∀ (w : World) (h : Heap), (hd.heap_1 w.params).In h → PySem.Challenge.rw_qu0050_01.foot = 8 := by
  k_fill; intros; rfl
section
noncomputable def keysOf (es : List DictEntry) : List (List Nat) := es.filterMap fun e => match e.key with | .str x _ => some x.cps.toList | _ => none
theorem dict99 (w : World) : ∃ es n, (hd.heap_1 w.params).lookup 99 = some ⟨.type "dict", none, .dict es n, #[]⟩ ∧ KeysLit w.params es.toList ∧ keysOf es.toList = keys99 := by
  refine ⟨_, _, by k_is, by k_keys, ?_⟩
  rfl
theorem keys_find {P : Params} (l : List Nat) : ∀ es : List DictEntry, KeysLit P es → (es.find? (·.key.isStr (S l))).isSome = decide (l ∈ keysOf es)
  | [], _ => by simp [keysOf]
  | e :: r, ⟨⟨x, t, hx, _⟩, h⟩ => by
    have ih := keys_find l r h
    obtain ⟨xs, rfl⟩ : ∃ xs, x = S xs := ⟨x.cps.toList, by cases x; simp [S]⟩
    have e1 : e.key.isStr (S l) = decide (xs = l) := by rw [hx]; exact S_beq xs l
    rw [List.find?_cons, e1]
    have e2 : keysOf (e :: r) = xs :: keysOf r := by simp [keysOf, hx, S]
    rw [e2]
    by_cases hl : xs = l
    · subst hl; simp
    · rw [decide_eq_false hl]
      simp only [ih]
      simp [Ne.symm hl]
theorem in99 (w : World) (l : List Nat) : ∃ r, nsIn (hd.heap_1 w.params) 99 (S l) = some r ∧ r.isSome = decide (l ∈ keys99) := by
  obtain ⟨es, n, hl, hk, he⟩ := dict99 w
  have h := keys_find l es.toList hk
  rw [he] at h
  have hr : es.toList.any (·.refKey) = false := by
    rw [List.any_eq_false]
    intro e hm
    obtain ⟨x, t, hx, _⟩ := hk.all e hm
    simp [DictEntry.refKey, hx]
  unfold nsIn
  rw [hl]
  dsimp only
  cases hf : es.toList.find? (·.key.isStr (S l)) with
  | none => rw [hf] at h; exact ⟨none, by rw [hr]; rfl, h⟩
  | some e => rw [hf] at h; exact ⟨some e.val, rfl, h⟩
theorem item99 (w : World) {i : Nat} (hi : i < 6) : ∃ t, nsIn (hd.heap_1 w.params) 99 (S (sgn i)) = some (some (.int ((num i : Nat) : Int) t)) := by
  rcases six hi with rfl | rfl | rfl | rfl | rfl | rfl
  · exact ⟨_, by show nsIn (hd.heap_1 w.params) 99 (S [43]) = some (some (.int ((14 : Nat) : Int) _)); k_is⟩
  · exact ⟨_, by show nsIn (hd.heap_1 w.params) 99 (S [45]) = some (some (.int ((15 : Nat) : Int) _)); k_is⟩
  · exact ⟨_, by show nsIn (hd.heap_1 w.params) 99 (S [42, 42, 61]) = some (some (.int ((46 : Nat) : Int) _)); k_is⟩
  · exact ⟨_, by show nsIn (hd.heap_1 w.params) 99 (S [47, 47]) = some (some (.int ((47 : Nat) : Int) _)); k_is⟩
  · exact ⟨_, by show nsIn (hd.heap_1 w.params) 99 (S [44]) = some (some (.int ((12 : Nat) : Int) _)); k_is⟩
  · exact ⟨_, by show nsIn (hd.heap_1 w.params) 99 (S [126]) = some (some (.int ((31 : Nat) : Int) _)); k_is⟩
theorem while_upd {prog : Program} {w : World} {A : Around} {E : Value → Shared → Prop} {Q : Flow → Shared → Prop} {s : Shared} {env : Env} {h₀ : Heap} {L : Addr} {test : Expr} {body : List Stmt} {pos : Pos} {m₀ : Str → Option Value} {news : List (Addr × Obj)} (J : Nat → List (Str × Option Value) → List (Addr × Obj) → Prop) {n₀ : Nat}
    (F : Fr h₀ L s.heap m₀) (N : News h₀ L s.heap news) (ks : List Str) (hJ : J n₀ (ks.map fun k => (k, m₀ k)) news)
    (turn : ∀ n l news₁ h₁ tk₁, Fr h₀ L h₁ (upd l m₀) → News h₀ L h₁ news₁ → J n l news₁ →
      wpAny (model prog w) A (isTrue test env (eval test env)) (fun b s₂ =>
        if b = true then wpAny (model prog w) A (execs body env) (fun f s₃ => f = .next ∧ ∃ h' tk m₂ news₂ n' all, s₃ = { s with heap := h', toks := tk } ∧ Fr h₀ L h' m₂ ∧ News h₀ L h' all ∧ (∀ p ∈ news₂, p ∈ all) ∧ n' < n ∧ ∃ l', m₂ = upd l' m₀ ∧ J n' l' news₂) E s₂ else Q .next s₂) E { s with heap := h₁, toks := tk₁ })
    (hE : PassesOwn (model prog w) A env E := by passes_own) :
    wpAny (model prog w) A (exec (.While test body [] pos) env) Q E s := by
  refine While_inv (fun n m₁ nw => ∃ l, m₁ = upd l m₀ ∧ J n l nw) F N ⟨_, (upd_self _ m₀ (fun x hx => by obtain ⟨k, _, rfl⟩ := List.mem_map.mp hx; rfl)).symm, hJ⟩ ?_ hE
  rintro n m₁ nw h₁ tk₁ F₁ N₁ ⟨l, rfl, hj⟩
  refine wpAny_mono (turn n l nw h₁ tk₁ F₁ N₁ hj) (fun b s₂ h₂ => ?_) fun _ _ e => e
  cases b with
  | false => simpa using h₂
  | true =>
    simp only [if_true] at h₂ ⊢
    refine wpAny_mono h₂ (fun f s₃ h₃ => ?_) fun _ _ e => e
    obtain ⟨rfl, h', tk, m₂, news₂, n', all, rfl, F₂, N₂, hs, hn, l', rfl, J₂⟩ := h₃
    exact ⟨rfl, h', tk, _, news₂, n', rfl, F₂, fun p hp => N₂ p (hs p hp), hn, l', rfl, J₂⟩
end
end Mine
end
section
open PySem PySem.W PyProof.Rows PySem.Calls
set_option maxRecDepth 100000
set_option maxHeartbeats 8000000
set_option linter.unusedVariables false
set_option linter.unusedSimpArgs false
namespace Mine
theorem fill_F15x : ∀ (w : World) (h : Heap), (hd.heap_1 w.params).In h → PySem.Challenge.rw_qu0050_01.foot = 8 := by
  k_fill; intros; rfl
section
namespace F15c
noncomputable def P0 (w : World) (loose : List Str) (mean : ExcName → Option Value) (mg : Str → Option Value) (mb : Str → Option Value) (g : Heap) (prog : Program) (dep : Nat) (fra : Option (List Env)) (gua : Option (List Code)) (uni : Nat) (hp0 : Heap) (gn : Array GenState) (dr : Drawn) (tk0 : Nat) (os0 : OsState) (Q : Value → Shared → Prop) (E : Value → Shared → Prop) (idx : List Nat) (q : Nat) (tw : Tok) (tq : Tok) : Prop :=
  ∀ (G : Gd w loose mean mg mb g) (hg : Sub g hp0) (hA : dep ≤ 700) (hu : uni ≤ 4000) (hidx : ∀ i ∈ idx, i < 6) (hlen : idx.length ≤ 5) (hq : 2 ≤ q) (hq2 : q ≤ 3) (post : ∀ h' tk r vs ep, hp0.get? r = none → h'.get? r = some (listOf (vs : List Value).toArray ep) → IntsAre vs ((idx.map fun i => num i % q).map Int.ofNat) → Sub hp0 h' → Q (.ref r) ⟨h', gn, dr, tk, os0⟩),
   wpAny (model prog w) ⟨none, dep, fra, gua, uni⟩ (call (.ref 130) [.str (S (sgns idx)) tw, .int (q : Int) tq]) Q E ⟨hp0, gn, dr, tk0, os0⟩
noncomputable abbrev Par : Type := (World) × (List Str) × (ExcName → Option Value) × (Str → Option Value) × (Str → Option Value) × (Heap) × (Program) × (Nat) × (Option (List Env)) × (Option (List Code)) × (Nat) × (Heap) × (Array GenState) × (Drawn) × (Nat) × (OsState) × (Value → Shared → Prop) × (Value → Shared → Prop) × (List Nat) × (Nat) × (Tok) × (Tok)
noncomputable def P1 (p : Par) : Prop := P0 p.1 p.2.1 p.2.2.1 p.2.2.2.1 p.2.2.2.2.1 p.2.2.2.2.2.1 p.2.2.2.2.2.2.1 p.2.2.2.2.2.2.2.1 p.2.2.2.2.2.2.2.2.1 p.2.2.2.2.2.2.2.2.2.1 p.2.2.2.2.2.2.2.2.2.2.1 p.2.2.2.2.2.2.2.2.2.2.2.1 p.2.2.2.2.2.2.2.2.2.2.2.2.1 p.2.2.2.2.2.2.2.2.2.2.2.2.2.1 p.2.2.2.2.2.2.2.2.2.2.2.2.2.2.1 p.2.2.2.2.2.2.2.2.2.2.2.2.2.2.2.1 p.2.2.2.2.2.2.2.2.2.2.2.2.2.2.2.2.1 p.2.2.2.2.2.2.2.2.2.2.2.2.2.2.2.2.2.1 p.2.2.2.2.2.2.2.2.2.2.2.2.2.2.2.2.2.2.1 p.2.2.2.2.2.2.2.2.2.2.2.2.2.2.2.2.2.2.2.1 p.2.2.2.2.2.2.2.2.2.2.2.2.2.2.2.2.2.2.2.2.1 p.2.2.2.2.2.2.2.2.2.2.2.2.2.2.2.2.2.2.2.2.2
theorem some_par : Nonempty Par := ⟨⟨aWorld 1, [], fun _ => none, fun _ => none, fun _ => none, default, default, 0, none, none, 0, default, #[], (start (default : Program)).1.drawn, 0, (start (default : Program)).1.os, fun _ _ => True, fun _ _ => True, [], 0, 0, 0⟩⟩
@[irreducible] noncomputable def cc : Par := @Classical.epsilon Par some_par fun p => ¬ P1 p
@[irreducible] noncomputable def w : World := by with_unfolding_all exact cc.1
@[irreducible] noncomputable def loose : List Str := by with_unfolding_all exact cc.2.1
@[irreducible] noncomputable def mean : ExcName → Option Value := by with_unfolding_all exact cc.2.2.1
@[irreducible] noncomputable def mg : Str → Option Value := by with_unfolding_all exact cc.2.2.2.1
@[irreducible] noncomputable def mb : Str → Option Value := by with_unfolding_all exact cc.2.2.2.2.1
@[irreducible] noncomputable def g : Heap := by with_unfolding_all exact cc.2.2.2.2.2.1
@[irreducible] noncomputable def prog : Program := by with_unfolding_all exact cc.2.2.2.2.2.2.1
@[irreducible] noncomputable def dep : Nat := by with_unfolding_all exact cc.2.2.2.2.2.2.2.1
@[irreducible] noncomputable def fra : Option (List Env) := by with_unfolding_all exact cc.2.2.2.2.2.2.2.2.1
@[irreducible] noncomputable def gua : Option (List Code) := by with_unfolding_all exact cc.2.2.2.2.2.2.2.2.2.1
@[irreducible] noncomputable def uni : Nat := by with_unfolding_all exact cc.2.2.2.2.2.2.2.2.2.2.1
@[irreducible] noncomputable def hp0 : Heap := by with_unfolding_all exact cc.2.2.2.2.2.2.2.2.2.2.2.1
@[irreducible] noncomputable def gn : Array GenState := by with_unfolding_all exact cc.2.2.2.2.2.2.2.2.2.2.2.2.1
@[irreducible] noncomputable def dr : Drawn := by with_unfolding_all exact cc.2.2.2.2.2.2.2.2.2.2.2.2.2.1
@[irreducible] noncomputable def tk0 : Nat := by with_unfolding_all exact cc.2.2.2.2.2.2.2.2.2.2.2.2.2.2.1
@[irreducible] noncomputable def os0 : OsState := by with_unfolding_all exact cc.2.2.2.2.2.2.2.2.2.2.2.2.2.2.2.1
@[irreducible] noncomputable def Q : Value → Shared → Prop := by with_unfolding_all exact cc.2.2.2.2.2.2.2.2.2.2.2.2.2.2.2.2.1
@[irreducible] noncomputable def E : Value → Shared → Prop := by with_unfolding_all exact cc.2.2.2.2.2.2.2.2.2.2.2.2.2.2.2.2.2.1
@[irreducible] noncomputable def idx : List Nat := by with_unfolding_all exact cc.2.2.2.2.2.2.2.2.2.2.2.2.2.2.2.2.2.2.1
@[irreducible] noncomputable def q : Nat := by with_unfolding_all exact cc.2.2.2.2.2.2.2.2.2.2.2.2.2.2.2.2.2.2.2.1
@[irreducible] noncomputable def tw : Tok := by with_unfolding_all exact cc.2.2.2.2.2.2.2.2.2.2.2.2.2.2.2.2.2.2.2.2.1
@[irreducible] noncomputable def tq : Tok := by with_unfolding_all exact cc.2.2.2.2.2.2.2.2.2.2.2.2.2.2.2.2.2.2.2.2.2
@[irreducible] noncomputable def g' : Heap := hideAll hp0 (([] : List (Addr × Obj)).map (·.1))
@[irreducible] noncomputable def L : Addr := hp0.objs.size
theorem core : P0 w loose mean mg mb g prog dep fra gua uni hp0 gn dr tk0 os0 Q E idx q tw tq := by
  unfold P0
  intro G hg hA hu hidx hlen hq hq2 post
  have hL : L = hp0.objs.size := by unfold L; rfl
  refine call_topCE [] (g' := g') (L := L) (by unfold g'; rfl) hL G hg (fun p hp => nomatch hp) (by k_is) (by k_is) rfl rfl (by decide +kernel) (by show dep < 1000; omega) ?_
  intro h₁ tk cells G' hbut hnone F N Y l1
  simp only [List.map_nil] at hbut
  clear l1
  k_cells Y; (try simp only [List.cons_append, List.nil_append, List.append_nil] at N); (try dsimp only)
  rename_i oA oW dA dW
  have XX := G'.X
  have T := G'.T
  have dW : oW.data = .cell (some (.str (S (sgns idx)) tw)) := dW
  iterate 12 walk_at "go"
  with_reducible rename Fr _ _ _ _ => F2
  with_reducible rename News _ _ _ _ => N2
  rename_i lt _ l1 _ _ oA0 dA0
  refine while_upd (fun n l nw => ∃ j p vs ep oA' uS t', l = [(Str.ofString "size", uS)] ∧ nw = [(lt, listOf (vs : List Value).toArray ep), (L + 1 + 1, oA'), (L + 1, oW)] ∧ oA'.data = .cell (some (.int ((p : Nat) : Int) t')) ∧ IntsAre vs (((idx.take j).map fun i => num i % q).map Int.ofNat) ∧ j ≤ idx.length ∧
    (j < idx.length ∧ (sgns idx).drop p = sgns (idx.drop j) ∧ p < (sgns idx).length ∨ j = idx.length ∧ (sgns idx).length ≤ p) ∧ n = idx.length - j ∧ p ≤ 20) (n₀ := idx.length) F2 N2 [Str.ofString "size"] ?_ ?_
  · refine ⟨0, 0, [], 0, oA0, _, _, rfl, rfl, dA0, .nil, Nat.zero_le _, ?_, rfl, by omega⟩
    rcases ei : idx with _ | ⟨i, r⟩
    · exact .inr ⟨rfl, Nat.zero_le _⟩
    ·
      refine .inl ⟨by simp, rfl, ?_⟩
      rw [sgns_cons, List.length_append]
      have := (sgn_len (hidx i (by rw [ei]; exact .head _))).1
      omega
  · intro n l nw h2 tk2 F3 N3 H_
    refine hideC fun D_ K_ => ?_
    obtain ⟨j, p, vs, ep, oA', uS, t', e1_, e2_, dA', hI, hj, hjp, e3_, hp20⟩ := H_
    refine K_ ?_
    clear K_ D_
    subst e1_
    subst e2_
    subst e3_
    clear F2 N2
    have hsl0 : (sgns idx).length ≤ 15 := by
      have := sgns_len hidx
      omega
    have hsl : (S (sgns idx)).length ≤ 15 := by rw [S_len]; exact hsl0
    iterate 13 walk_at "go"
    · have hjl : j < idx.length ∧ (sgns idx).drop p = sgns (idx.drop j) ∧ p < (sgns idx).length := by
        rcases hjp with h | ⟨_, h⟩
        · exact h
        · exfalso
          have e := S_len (sgns idx)
          omega
      obtain ⟨hj1, hdr, hpl⟩ := hjl
      obtain ⟨i0, hi0⟩ : ∃ i0, idx.drop j = i0 :: idx.drop (j + 1) := ⟨idx[j], List.drop_eq_getElem_cons hj1⟩
      rw [hi0] at hdr
      iterate 6 walk_at "go"
      refine LCt.ListComp_T F3 rfl (by decide) rfl (by decide) rfl ?_
      iterate 9 walk_at "go"
      with_reducible rename IsRange _ _ _ _ _ _ _ _ => hrg
      with_reducible rename Fr _ _ _ _ => F3
      with_reducible rename News _ _ _ _ => N3
      refine LCt.CompSrcT.range (n := 3) rfl F3 N3 hrg (by decide) (by decide) (by simp [sizeLine]) ?_
      intro g3
      refine restT_inv (fun k ys nw => nw = _ ∧ IntsAre ys ((([1, 2, 3].take k).filter fun a => decide ((sgns (i0 :: idx.drop (j + 1))).take a ∈ keys99)).map Int.ofNat)) 3 ?_ ?_ _ 0 _ _ (by simp) ⟨rfl, .nil⟩
      · rintro k ys nw hk ⟨rfl, hys⟩ v I2 oI2 C oC D4 m₂ h4 tk4 E' ⟨tv, rfl⟩ hC hx F N off ne
        iterate 14 walk_at "go"
        have hes : Txt.slice (S (sgns idx)) (some ((p : Nat) : Int)) (some (((p : Nat) : Int) + (1 + ((k : Nat) : Int)))) = S ((sgns (i0 :: idx.drop (j + 1))).take (k + 1)) := by
          have := slice_S (sgns idx) p (p + (k + 1)) (by omega) (by omega)
          rw [hdr] at this
          have e : p + (k + 1) - p = k + 1 := by omega
          rw [e] at this
          rw [← this]
          congr 2
          omega
        rw [hes]
        refine hideC fun D_ K_ => ?_
        obtain ⟨ees, en, hel, hek, -⟩ := dict99 w
        refine K_ ?_
        clear K_ D_
        obtain ⟨rr, hr1, hr2⟩ := in99 w ((sgns (i0 :: idx.drop (j + 1))).take (k + 1))
        with_reducible rename Fr _ _ _ _ => F
        with_reducible rename News _ _ _ _ => N
        refine topIn_K F XX hel hek hr1 (by decide) ?_
        iterate 1 walk_at "go"
        (try k_unfold)
        (try dsimp only)
        rw [hr2]
        have hfl : ([1, 2, 3].take (k + 1)).filter (fun a => decide ((sgns (i0 :: idx.drop (j + 1))).take a ∈ keys99)) = ([1, 2, 3].take k).filter (fun a => decide ((sgns (i0 :: idx.drop (j + 1))).take a ∈ keys99)) ++ (if (sgns (i0 :: idx.drop (j + 1))).take (k + 1) ∈ keys99 then [k + 1] else []) := by
          have e : [1, 2, 3].take (k + 1) = [1, 2, 3].take k ++ [k + 1] := by
            have : k = 0 ∨ k = 1 ∨ k = 2 := by omega
            rcases this with rfl | rfl | rfl <;> rfl
          rw [e, List.filter_append]
          congr 1
          by_cases h : (sgns (i0 :: idx.drop (j + 1))).take (k + 1) ∈ keys99 <;> simp [h]
        by_cases hin : (sgns (i0 :: idx.drop (j + 1))).take (k + 1) ∈ keys99
        · rw [if_pos (decide_eq_true hin)]
          iterate 1 walk_at "go"
          refine LCg.CompEnd.intro F N _ (fun p hp => hp) off trivial ⟨rfl, ?_⟩
          rw [hfl, if_pos hin, List.map_append]
          have e : (1 : Int) + (k : Int) = Int.ofNat (k + 1) := by simp; omega
          rw [e]
          exact hys.append (.cons _ _ .nil)
        · rw [if_neg (by simpa using hin)]
          refine LCg.CompEnd.intro F N _ (fun p hp => hp) off trivial ⟨rfl, ?_⟩
          rw [hfl, if_neg hin, List.append_nil]
          exact hys
      · rintro ys nw ⟨rfl, hys⟩
        unfold LCg.FinE
        intro D6 h6 tk6 F6 N6 o6
        simp only [LCg.Off1, and_true] at o6
        dsimp only
        iterate 1 walk_at "go"
        have hall : ([1, 2, 3].take 3).filter (fun a => decide ((sgns (i0 :: idx.drop (j + 1))).take a ∈ keys99)) = munches (sgns (i0 :: idx.drop (j + 1))) := rfl
        rw [hall] at hys
        have hi6 : i0 < 6 := hidx i0 (by
          have : i0 ∈ idx.drop j := by rw [hi0]; exact .head _
          exact List.mem_of_mem_drop this)
        have hr6 : ∀ a ∈ idx.drop (j + 1), a < 6 := fun a ha => hidx a (List.mem_of_mem_drop ha)
        refine max_list_N rfl F6 N6 (N6.isList (by k_mem)) hys (by
          rw [List.length_map]
          exact List.length_pos_iff.mpr (munches_ne hi6)) ?_
        intro h7 M0 tM tk7 F7 N7 hM hmax
        clear F6 N6
        obtain ⟨M, hMm, rfl⟩ := List.mem_map.mp hM
        have hmax' : ∀ a ∈ munches (sgns (i0 :: idx.drop (j + 1))), a ≤ M := fun a ha => by
          have := hmax (Int.ofNat a) (List.mem_map_of_mem ha)
          simpa using this
        obtain ⟨hm1, hm2, hm3⟩ := munch hi6 hr6 hMm hmax'
        have hM3 : 1 ≤ M ∧ M ≤ 3 := by
          have := (mem_munches.mp hMm).1
          omega
        change wpAny _ _ _ _ _ _
        iterate 24 walk_at "go"
        have hes2 : Txt.slice (S (sgns idx)) (some ((p : Nat) : Int)) (some (((p : Nat) : Int) + Int.ofNat M)) = S (sgn i0) := by
          have := slice_S (sgns idx) p (p + M) (by omega) (by omega)
          rw [hdr] at this
          have e : p + M - p = M := by omega
          rw [e, hm1] at this
          rw [← this]
          congr 2
        rw [hes2]
        refine hideC fun D_ K_ => ?_
        obtain ⟨ees, en, hel, hek, -⟩ := dict99 w
        refine K_ ?_
        clear K_ D_
        obtain ⟨tn, hit⟩ := item99 w hi6
        with_reducible rename Fr _ _ _ _ => F8
        with_reducible rename News _ _ _ _ => N8
        refine topItem_K F8 XX hel hek hit ?_
        have hqz : (q : Int) ≠ 0 := by omega
        iterate 4 walk_at "go"
        iterate 7 walk_at "go"
        with_reducible rename Fr _ _ _ _ => F9
        with_reducible rename News _ _ _ _ => N9
        have hpe : (((num i0 : Nat) : Int)).fmod (q : Int) = ((num i0 % q : Nat) : Int) := by
          rw [Int.fmod_eq_emod_of_nonneg _ (by omega)]; rfl
        rw [hpe] at N9
        have hpush : ∀ v : Value, vs.toArray.push v = (vs ++ [v]).toArray := fun v => by simp
        rw [hpush] at N9
        rename_i oA9 dA9
        refine wpAny_execs_nil ⟨rfl, _, _, _, [(lt, listOf (_ : List Value).toArray (ep + 1)), (L + 1 + 1, oA9), (L + 1, oW)], idx.length - (j + 1), _, rfl, F9, N9, (fun p hp => .tail _ hp), by omega, _, (upd_if1 rfl).trans (upd_trim [_] [_] _ rfl), j + 1, p + M, _, ep + 1, oA9, _, _, rfl, rfl, by rw [Int.natCast_add]; exact dA9, ?_, by omega, ?_, rfl, by omega⟩
        · have ht : idx.take (j + 1) = idx.take j ++ [i0] := by
            rw [List.take_add_one]
            have : idx[j]? = some i0 := by
              have := congrArg List.head? hi0
              rw [List.head?_drop] at this
              exact this
            rw [this]; rfl
          rw [ht, List.map_append, List.map_append]
          exact hI.append (.cons _ _ .nil)
        · have hll : (sgns idx).length = p + (sgn i0).length + (sgns (idx.drop (j + 1))).length := by
            have := congrArg List.length hdr
            rw [List.length_drop, sgns_cons, List.length_append] at this
            omega
          by_cases hr : idx.drop (j + 1) = []
          · have h3 := hm3 hr
            have hjl : idx.length ≤ j + 1 := List.drop_eq_nil_iff.mp hr
            rw [hr, sgns_nil, List.length_nil] at hll
            exact .inr ⟨by omega, by omega⟩
          · have h2 := hm2 hr
            have hjl : ¬ idx.length ≤ j + 1 := fun h => hr (List.drop_eq_nil_iff.mpr h)
            have hne : 0 < (sgns (idx.drop (j + 1))).length := by
              refine hideC fun D_ K_ => ?_
              obtain ⟨b, t, e, _⟩ := sgns_head hr6 hr
              refine K_ ?_
              clear K_ D_
              rw [e]; simp
            refine .inl ⟨by omega, ?_, by omega⟩
            rw [← List.drop_drop, hdr, sgns_cons, h2, List.drop_left]
    · have hjl : j = idx.length := by
        rcases hjp with ⟨_, _, h⟩ | ⟨h, _⟩
        · exfalso
          have e := S_len (sgns idx)
          omega
        · exact h
      subst hjl
      rw [List.take_length] at hI
      repeat walk_at "go"
      with_reducible rename Fr _ _ _ _ => F9
      with_reducible rename News _ _ _ _ => N9
      exact post _ _ _ vs ep (hbut.sub.none (N9.fresh (by k_mem))) (N9.get (by k_mem)) hI (hbut.sub.trans F9.keep)
theorem all : ∀ p : Par, P1 p := fun p => Classical.byContradiction fun hn => (@Classical.epsilon_spec Par (fun p => ¬ P1 p) ⟨p, hn⟩) (by with_unfolding_all exact core)
end F15c
theorem letters_spec {w : World} {loose : List Str} {mean : ExcName → Option Value} {mg mb : Str → Option Value} {g : Heap} {prog : Program} {A : Around} {s : Shared} {Q E : Value → Shared → Prop} (G : Gd w loose mean mg mb g) (hg : Sub g s.heap) (hA : A.depth ≤ 700) (hu : A.units ≤ 4000) (hh : A.handled = none) {idx : List Nat} (hidx : ∀ i ∈ idx, i < 6) (hlen : idx.length ≤ 5) {q : Nat} (hq : 2 ≤ q) (hq2 : q ≤ 3) {tw tq : Tok}
   (post : ∀ h' tk r vs ep, s.heap.get? r = none → h'.get? r = some (listOf (vs : List Value).toArray ep) → IntsAre vs ((idx.map fun i => num i % q).map Int.ofNat) → Sub s.heap h' → Q (.ref r) { s with heap := h', toks := tk }) :
   wpAny (model prog w) A (call (.ref 130) [.str (S (sgns idx)) tw, .int (q : Int) tq]) Q E s := by
  refine hideC fun D_ K_ => ?_
  obtain ⟨hand, dep, fra, gua, uni⟩ := A
  refine K_ ?_
  clear K_ D_
  refine hideC fun D_ K_ => ?_
  obtain ⟨hp0, gn, dr, tk0, os0⟩ := s
  refine K_ ?_
  clear K_ D_
  dsimp only at hh
  subst hh
  exact F15c.all ⟨w, loose, mean, mg, mb, g, prog, dep, fra, gua, uni, hp0, gn, dr, tk0, os0, Q, E, idx, q, tw, tq⟩ G hg hA hu hidx hlen hq hq2 post
end
end Mine
end
section
open PySem PySem.W PyProof.Rows PySem.Calls
set_option maxRecDepth 100000
set_option maxHeartbeats 8000000
set_option linter.unusedVariables false
set_option linter.unusedSimpArgs false
namespace Mine
theorem fill_F16 : ∀ (w : World) (h : Heap), (hd.heap_1 w.params).In h → PySem.Challenge.rw_qu0050_01.foot = 8 := by
  k_fill; intros; rfl
section
theorem objs_ne {cs : List Nat} (P : LexP (S cs)) : P.AT ≠ P.dx ∧ P.AT ≠ P.pb ∧ P.dx ≠ P.pb := by
  have := P.lt
  refine ⟨?_, ?_, ?_⟩ <;> omega
theorem news_pb {h₀ h h' : Heap} {L : Addr} {pre : List (Addr × Obj)} {cs : List Nat} (P : LexP (S cs)) {p : Nat} {tp tl : Tok} {ea ep ep' : Nat} {line : Int} {pv pv' : List Value}
   (N : News h₀ L h (pre ++ P.objs p tp ea line tl pv ep)) (hpre : ∀ q ∈ pre, q.1 ∉ P.addrs) (hb : But [P.pb] h h') (e : h'.get? P.pb = some (listOf pv'.toArray ep')) :
   News h₀ L h' (pre ++ P.objs p tp ea line tl pv' ep') := by
  have hlt := P.lt
  intro q hq
  rcases List.mem_append.mp hq with hq | hq
  · have n := N q (List.mem_append_left _ hq)
    refine ⟨hb _ _ (fun z => hpre q hq ?_) n.1, n.2⟩
    rw [List.mem_singleton.mp z]
    simp [LexP.addrs]
  · have keep : ∀ o a, (a, o) ∈ P.objs p tp ea line tl pv ep → @Ne Nat a P.pb → h'.get? a = some o ∧ a ≠ L ∧ h₀.get? a = none := fun o a hm hne => by
      have n := N (a, o) (List.mem_append_right _ hm)
      exact ⟨hb _ _ (fun z => hne (List.mem_singleton.mp z)) n.1, n.2⟩
    simp only [List.mem_cons, List.not_mem_nil, or_false] at hq
    rcases hq with rfl | rfl | rfl | rfl | rfl | rfl | rfl | rfl | rfl
    · exact keep _ _ (by k_mem) (by omega)
    · exact keep _ _ (by k_mem) (by omega)
    · exact ⟨e, (N (P.pb, listOf pv.toArray ep) (List.mem_append_right _ (by k_mem))).2⟩
    · exact keep _ _ (by k_mem) (by omega)
    · exact keep _ _ (by k_mem) (by omega)
    · exact keep _ _ (by k_mem) (by omega)
    · exact keep _ _ (by k_mem) (by omega)
    · exact keep _ _ (by k_mem) (by omega)
    · exact keep _ _ (by k_mem) (by omega)
theorem pop_use {w : World} {loose : List Str} {mean : ExcName → Option Value} {mg mb : Str → Option Value} {prog : Program} {A : Around} {s : Shared} {Q E : Value → Shared → Prop} {h₀ : Heap} {L : Addr} {m : Str → Option Value} {pre : List (Addr × Obj)}
   (G : Gd w loose mean mg mb h₀) (F : Fr h₀ L s.heap m) {cs : List Nat} (P : LexP (S cs)) {p : Nat} {tp tl : Tok} {ea ep : Nat} {line : Int} {v : Value} {pv : List Value} (N : News h₀ L s.heap (pre ++ P.objs p tp ea line tl (v :: pv) ep)) (hpre : ∀ q ∈ pre, q.1 ∉ P.addrs)
   (hA : A.depth ≤ 700) (hu : A.units ≤ 4000) (hh : A.handled = none) (hpl : pv.length < 1000)
   (post : ∀ h' tk ep', But [P.pb] s.heap h' → Fr h₀ L h' m → News h₀ L h' (pre ++ P.objs p tp ea line tl pv ep') → Q v { s with heap := h', toks := tk }) :
   wpAny (model prog w) A (call (.ref 84) [.ref P.lx]) Q E s := by
  refine token_pop_spec G F.keep hA hu hh P hpl (fun q hq => ⟨N.get (List.mem_append_right _ hq), N.fresh (List.mem_append_right _ hq)⟩) ?_
  intro h' tk ep' hb e
  exact post h' tk ep' hb (after_fr [P.pb] F N hb fun a ha => by rw [List.mem_singleton.mp ha]; exact (N (P.pb, listOf (v :: pv).toArray ep) (List.mem_append_right _ (by k_mem))).2) (news_pb P N hpre hb e)
theorem push_use {w : World} {loose : List Str} {mean : ExcName → Option Value} {mg mb : Str → Option Value} {prog : Program} {A : Around} {s : Shared} {Q E : Value → Shared → Prop} {h₀ : Heap} {L : Addr} {m : Str → Option Value} {pre : List (Addr × Obj)}
   (G : Gd w loose mean mg mb h₀) (F : Fr h₀ L s.heap m) {cs : List Nat} (P : LexP (S cs)) {p : Nat} {tp tl : Tok} {ea ep : Nat} {line : Int} {x : Str} {t : Tok} {pv : List Value} (N : News h₀ L s.heap (pre ++ P.objs p tp ea line tl pv ep)) (hpre : ∀ q ∈ pre, q.1 ∉ P.addrs)
   (hA : A.depth ≤ 700) (hu : A.units ≤ 4000) (hh : A.handled = none) (hpl : pv.length < 1000)
   (post : ∀ h' tk ep', But [P.pb] s.heap h' → Fr h₀ L h' m → News h₀ L h' (pre ++ P.objs p tp ea line tl (pv ++ [Value.str x t]) ep') → Q .none { s with heap := h', toks := tk }) :
   wpAny (model prog w) A (call (.ref 91) [.ref P.lx, .str x t]) Q E s := by
  refine push_spec G F.keep hA hu hh P hpl (fun q hq => ⟨N.get (List.mem_append_right _ hq), N.fresh (List.mem_append_right _ hq)⟩) ?_
  intro h' tk ep' hb e
  exact post h' tk ep' hb (after_fr [P.pb] F N hb fun a ha => by rw [List.mem_singleton.mp ha]; exact (N (P.pb, listOf pv.toArray ep) (List.mem_append_right _ (by k_mem))).2) (news_pb P N hpre hb e)
theorem text_use {w : World} {loose : List Str} {mean : ExcName → Option Value} {mg mb : Str → Option Value} {prog : Program} {A : Around} {s : Shared} {Q E : Value → Shared → Prop} {h₀ : Heap} {L : Addr} {m : Str → Option Value} {pre : List (Addr × Obj)}
   (G : Gd w loose mean mg mb h₀) (F : Fr h₀ L s.heap m) {cs : List Nat} (P : LexP (S cs)) {p : Nat} {tp tl : Tok} {ea ep : Nat} {T R : List Nat} (N : News h₀ L s.heap (pre ++ P.objs p tp ea (lineAt cs p) tl [] ep)) (hpre : ∀ q ∈ pre, q.1 ∉ P.addrs)
   (hA : A.depth ≤ 700) (hu : A.units ≤ 4000) (hh : A.handled = none) (hp : p ≤ cs.length) (htl : cs.length < 1000) (hT : LexT (cs.drop p) T R) (hTl : T.length < 1000) (hcd : s.heap.CodeRec (.ref P.c') q3)
   (post : ∀ h' tk t p' tp' tl', p' ≤ cs.length → cs.drop p' = R → But [P.AT, P.dx] s.heap h' → Fr h₀ L h' m → News h₀ L h' (pre ++ P.objs p' tp' ea (lineAt cs p') tl' [] ep) → h'.CodeRec (.ref P.c') q3 → Q (.str (S T) t) { s with heap := h', toks := tk }) :
   wpAny (model prog w) A (call (.ref 84) [.ref P.lx]) Q E s := by
  refine token_text_spec (tp := tp) (tl := tl) (ea := ea) (ep := ep) G F.keep hA hu hh P hp htl hT hTl (fun q hq => ⟨N.get (List.mem_append_right _ hq), N.fresh (List.mem_append_right _ hq)⟩) hcd ?_
  intro h' tk t p' tp' tl' hp' hR hb ho hc'
  refine post h' tk t p' tp' tl' hp' hR hb (after_fr [P.AT, P.dx] F N hb fun a ha => ?_) (news_lex P N (fun q hq => ⟨fun z => hpre q hq (by rw [z]; simp [LexP.addrs]), fun z => hpre q hq (by rw [z]; simp [LexP.addrs])⟩) hb (ho (P.AT, listOf #[.int (p' : Int) tp'] ea) (by k_mem)) (ho (P.dx, P.fields (lineAt cs p') tl') (by k_mem))) hc'
  simp only [List.mem_cons, List.not_mem_nil, or_false] at ha
  rcases ha with rfl | rfl
  · exact (N (P.AT, listOf #[.int (p : Int) tp] ea) (List.mem_append_right _ (.head _))).2
  · exact (N (P.dx, P.fields (lineAt cs p) tl) (List.mem_append_right _ (.tail _ (.head _)))).2
theorem letters_use {w : World} {loose : List Str} {mean : ExcName → Option Value} {mg mb : Str → Option Value} {prog : Program} {A : Around} {s : Shared} {Q E : Value → Shared → Prop} {h₀ : Heap} {L : Addr} {m : Str → Option Value} {news : List (Addr × Obj)}
   (G : Gd w loose mean mg mb h₀) (F : Fr h₀ L s.heap m) (N : News h₀ L s.heap news) (hA : A.depth ≤ 700) (hu : A.units ≤ 4000) (hh : A.handled = none) {idx : List Nat} (hidx : ∀ i ∈ idx, i < 6) (hlen : idx.length ≤ 5) {q : Nat} (hq : 2 ≤ q) (hq2 : q ≤ 3) {tw tq : Tok}
   (post : ∀ h' tk r vs ep, Sub s.heap h' → Fr h₀ L h' m → News h₀ L h' ((r, listOf (vs : List Value).toArray ep) :: news) → (∀ p ∈ news, @Ne Nat p.1 r) → IntsAre vs ((idx.map fun i => num i % q).map Int.ofNat) → Q (.ref r) { s with heap := h', toks := tk }) :
   wpAny (model prog w) A (call (.ref 130) [.str (S (sgns idx)) tw, .int (q : Int) tq]) Q E s := by
  refine letters_spec G F.keep hA hu hh hidx hlen hq hq2 ?_
  intro h' tk r vs ep hr hr' hI hs
  obtain ⟨F', N', hne⟩ := after_pure F N hs hr hr'
  exact post h' tk r vs ep hs F' N' hne hI
end
end Mine
end
section
open PySem PySem.W PyProof.Rows PySem.Calls
set_option maxRecDepth 100000
set_option maxHeartbeats 8000000
set_option linter.unusedVariables false
set_option linter.unusedSimpArgs false
namespace Mine
theorem fill_B14 : ∀ (w : World) (h : Heap), (hd.heap_1 w.params).In h → PySem.Challenge.rw_qu0050_01.foot = 8 := by
  k_fill; intros; rfl
section
theorem foldl_reps (l : List Nat) : ∀ k : Nat, ∀ acc : Array Nat, (List.replicate k l.toArray).foldl (· ++ ·) acc = acc ++ ((List.replicate k l).flatten).toArray
  | 0, acc => by simp
  | k + 1, acc => by
    rw [List.replicate_succ, List.foldl_cons, foldl_reps l k, List.replicate_succ, List.flatten_cons]
    apply Array.ext'
    simp
theorem mul_S {prog : Program} {w : World} {A : Around} {E : Value → Shared → Prop} {s : Shared} {l : List Nat} {n : Nat} {t u : Tok} {Q : Value → Shared → Prop} (hn : 1 ≤ n) (hn2 : n < 100) (hl : l.length < 100) (hl0 : 1 ≤ l.length) (h : ∀ t' k, Q (.str (S (List.replicate n l).flatten) t') { s with toks := k }) :
    wpAny (model prog w) A (binaryOp .Mult (.str (S l) t) (.int (n : Int) u)) Q E s := by
  have e : Txt.mul (S l) (n : Int) = S (List.replicate n l).flatten := by
    unfold Txt.mul
    rw [if_neg (by omega)]
    by_cases h1 : n = 1
    · subst h1; simp
    · have hc : (((n : Int) == 1) || (S l).length == 0) = false := by
        rw [S_len]
        have a : ((n : Int) == 1) = false := by simpa using (by omega : ¬ (n : Int) = 1)
        have b : (l.length == 0) = false := by simpa using (by omega : ¬ l.length = 0)
        rw [a, b]; rfl
      rw [if_neg (by rw [hc]; decide)]
      have := foldl_reps l n #[]
      rw [Int.toNat_natCast]
      show Str.mk (List.foldl (fun x1 x2 => x1 ++ x2) #[] (List.replicate n l.toArray)) = _
      rw [this]; simp [S]
  have hm : l.length * n < 10000 := Nat.lt_of_le_of_lt (Nat.mul_le_mul (Nat.le_of_lt_succ (by omega : l.length < 100)) (Nat.le_of_lt_succ (by omega : n < 100))) (by decide)
  refine SB.mul ⟨?_, ?_, ?_⟩ (by rw [e]; exact h)
  · rw [Bool.or_eq_false_iff]
    exact ⟨decide_eq_false (by omega), decide_eq_false (by omega)⟩
  · intro _ _
    rw [S_len]
    have h2 : (l.length : Int) * (n : Int) ≤ 2 ^ 63 - 1 := by
      have : ((l.length * n : Nat) : Int) < 10000 := by omega
      rw [Int.natCast_mul] at this; omega
    have := (Int.le_ediv_iff_mul_le (by omega : (0 : Int) < (n : Int))).mpr h2
    omega
  · intro _ _
    rw [S_len, Int.toNat_natCast]
    unfold Builtin.Str.tooLong
    simp [sizeLine]
    omega
theorem join_S0 : ∀ ls : List (List Nat), Str.join (Str.ofString "") (ls.map S) = S ls.flatten
  | [] => rfl
  | [x] => by simp [Str.join]
  | x :: y :: r => by
    have ih := join_S0 (y :: r)
    rw [List.map_cons, List.map_cons]
    show S x ++ Str.ofString "" ++ Str.join (Str.ofString "") ((y :: r).map S) = _
    rw [ih]
    have e : Str.ofString "" = S [] := by rw [S_of]; rfl
    rw [e, S_app, S_app]
    simp
theorem join_S (ls : List (List Nat)) : Txt.join (Str.ofString "") (ls.map S) = S ls.flatten := by
  rw [← join_S0]
  exact StrLaws.glued_eq_join _ _
theorem sum_lens : ∀ ls : List (List Nat), ((ls.map S).map (·.length)).sum = ls.flatten.length
  | [] => rfl
  | l :: ls => by
    rw [List.map_cons, List.map_cons, List.sum_cons, sum_lens ls, List.flatten_cons, List.length_append, S_len]
theorem join_use {prog : Program} {w : World} {A : Around} {E : Value → Shared → Prop} {s : Shared} {D : Addr} {vs : List Value} {ls : List (List Nat)} {t : Tok} {Q : Value → Shared → Prop} (hl : s.heap.IsList D vs.toArray) (hi : StrsAre vs (ls.map S)) (hsz : ls.flatten.length ≤ 100000)
   (h : ∀ t' k, Q (.str (S ls.flatten) t') { s with toks := k }) : wpAny (model prog w) A (call (.builtin "str.join") [.str (Str.ofString "") t, .ref D]) Q E s := by
  have e0 : (Str.ofString "").length = 0 := rfl
  refine join_list hl hi ?_ (by rw [join_S]; exact h)
  rw [sum_lens, e0]; omega
theorem StrsAre.app : ∀ {a : List Value} {xs : List Str} {b : List Value} {ys : List Str}, StrsAre a xs → StrsAre b ys → StrsAre (a ++ b) (xs ++ ys)
  | _, _, _, _, .nil, h => h
  | _, _, _, _, .cons y t r, h => .cons y t (StrsAre.app r h)
/-- a for loop over a list of the ledger, whatever its target -/
theorem for_list {prog : Program} {w : World} {A : Around} {E : Value → Shared → Prop} {s : Shared} {env : Env} {h₀ : Heap} {target : Expr} {body : List Stmt} {Q : Flow → Shared → Prop}
    {l : Addr} {vs : List Value} {k : Nat} {m₀ : Str → Option Value} {news : List (Addr × Obj)} (J : Nat → List (Str × Option Value) → List (Addr × Obj) → Prop)
    (hh : A.handled = none) (hm : (l, ({ cls := .type "list", data := .seq vs.toArray k } : Obj)) ∈ news) (F : Fr h₀ env.locals s.heap m₀) (N : News h₀ env.locals s.heap news)
    (ks : List Str) (hj : J 0 (ks.map fun k => (k, m₀ k)) news) (hJl : ∀ i l' nw, J i l' nw → (l, ({ cls := .type "list", data := .seq vs.toArray k } : Obj)) ∈ nw)
    (turn : ∀ i v l' nw h tk I oI, i < vs.length → vs[i]? = some v → J i l' nw → (∀ p ∈ nw, p.1 ≠ I) → (∀ p ∈ news, p.1 < I) → Fr h₀ env.locals h (upd l' m₀) → News h₀ env.locals h ((I, oI) :: nw) →
      wpAny (model prog w) A (assign target env v) (fun _ s₂ => wpAny (model prog w) A (execs body env) (TurnEnd h₀ env.locals [I] [(I, oI), (l, ({ cls := .type "list", data := .seq vs.toArray k } : Obj))] (fun m₂ news₂ => ∃ l', m₂ = upd l' m₀ ∧ J (i + 1) l' news₂) { s with heap := h, toks := tk } Q) E s₂) E { s with heap := h, toks := tk })
    (done : ∀ l' news' h' tk, J vs.length l' news' → Fr h₀ env.locals h' (upd l' m₀) → News h₀ env.locals h' news' → Q .next { s with heap := h', toks := tk })
    (ht : ∀ I v, letOwnedTupleGo target (.ref I) v = pure () := by intro _ _; rfl)
    (hE : PassesOwn (model prog w) A env E := by passes_own) :
    wpAny (model prog w) A (pyIter (.ref l)) (fun it s₂ => ForAt prog w A env target body Q E it s₂) E s := by
  have hl : s.heap.IsList l vs.toArray := N.isList hm
  have hlt : l < s.heap.objs.size := Heap.lt_size (N _ hm).1
  refine wpAny_pyIter_list hl ?_
  have up : ∀ b o, s.heap.get? b = some o → (s.heap.push { cls := .type "list_iterator", data := .fields #[.ref l, .int 0 0] }).get? b = some o := fun b o e => Heap.get?_push_of_some _ e
  refine for_any (n := vs.toArray.size) J (Walks.list hh s.heap.objs.size l (Nat.ne_of_lt hlt) vs.toArray) ?_ ?_ ?_ ⟨⟨_, Heap.get?_push_size _ rfl, rfl, rfl⟩, hl.push _⟩ (F.keeps up) (N.grown up) ks hj ?_ (by rw [List.size_toArray]; exact done) (ht _) hE
  · intro hm'
    rcases List.mem_cons.mp hm' with e | hm'
    · exact absurd F.ns.lt (e ▸ Nat.lt_irrefl _)
    · exact (N _ hm).2.1 (List.mem_singleton.mp hm').symm
  · intro b hb
    rw [List.mem_singleton.mp hb]
    exact next_is_new F
  · intro p hp hI
    exact absurd (Heap.lt_size (N p hp).1) ((List.mem_singleton.mp hI) ▸ Nat.lt_irrefl _)
  · rintro i v l' nw h tk own hi hv hJ ho ho2 hst hw F₁ N₁
    obtain ⟨oI, hoI, _⟩ : ∃ oI, h.get? s.heap.objs.size = some oI ∧ True := by
      obtain ⟨o, e, _⟩ := hst.1
      exact ⟨o, e, trivial⟩
    have hmI := ho2 s.heap.objs.size (.head _) (next_is_new F) oI hoI
    have hln := hJl i l' nw hJ
    have hall : ∀ p ∈ own, p = (s.heap.objs.size, oI) ∨ p = (l, ({ cls := .type "list", data := .seq vs.toArray k } : Obj)) := fun p hp => by
      have e2 := (N₁ p (List.mem_append.mpr (.inr hp))).1
      rcases List.mem_cons.mp (ho p hp) with e1 | e1
      · rw [e1, hoI] at e2
        exact .inl (Prod.ext e1 (Option.some.inj e2).symm)
      · have e1 := List.mem_singleton.mp e1
        have e3 := (N₁ _ (List.mem_append.mpr (.inl hln))).1
        rw [e1] at e2
        dsimp only at e3
        rw [e3] at e2
        exact .inr (Prod.ext e1 (Option.some.inj e2).symm)
    have := turn i v l' nw h tk s.heap.objs.size oI (by simpa using hi) (by simpa using hv) hJ (fun p hp => fun e => hw p hp (by rw [e]; exact .head _)) (fun p hp => Heap.lt_size (N p hp).1) F₁ (fun p hp => by
      rcases List.mem_cons.mp hp with rfl | hp
      · exact N₁ _ (List.mem_append.mpr (.inr hmI))
      · exact N₁ _ (List.mem_append.mpr (.inl hp)))
    refine wpAny_mono this (fun _ s₂ h₂ => wpAny_mono h₂ (fun f s₃ h₃ => ?_) fun _ _ e => e) fun _ _ e => e
    have conv : ∀ {all : List (Addr × Obj)}, (∀ p ∈ [(s.heap.objs.size, oI), (l, ({ cls := .type "list", data := .seq vs.toArray k } : Obj))], p ∈ all) → ∀ p ∈ own, p ∈ all := fun h4 p hp => by
      rcases hall p hp with e | e
      · rw [e]; exact h4 _ (.head _)
      · rw [e]; exact h4 _ (.tail _ (.head _))
    cases f with
    | ret v => exact h₃
    | brk => exact h₃
    | cont =>
      obtain ⟨h', tk', m₂, news₂, all, a1, a2, a3, a4, a5⟩ := h₃
      exact ⟨h', tk', m₂, news₂, all, a1, a2, a3, conv a4, a5⟩
    | next =>
      obtain ⟨h', tk', m₂, news₂, all, a1, a2, a3, a4, a5⟩ := h₃
      exact ⟨h', tk', m₂, news₂, all, a1, a2, a3, conv a4, a5⟩
end
end Mine
end
section
open PySem PySem.W PyProof.Rows PySem.Calls
set_option maxRecDepth 100000
set_option maxHeartbeats 8000000
set_option linter.unusedVariables false
set_option linter.unusedSimpArgs false
namespace Mine
theorem fill_F17k : ∀ (w : World) (h : Heap), (hd.heap_1 w.params).In h → PySem.Challenge.rw_qu0050_01.foot = 8 := by
  k_fill; intros; rfl
section
noncomputable def Reads (l : List Nat) : List (List Nat) → List Nat → Prop
  | [], R => l = R
  | T :: Ts, R => ∃ l', LexT l T l' ∧ Reads l' Ts R
/-- the sign of a letter -/
noncomputable def mk (q : Nat) (a : Nat) : Nat := if q = 2 then a else (a + 1) % 3
noncomputable def enc (q : Nat) (w : List Nat) : List Nat := w.map (mk q)
noncomputable def MarksAre (q : Nat) (mv : List Value) : Prop := mv.length = q ∧ ∀ a, a < q → ∃ t, mv[a]? = some (Value.str (S (sgn (mk q a))) t)
noncomputable def lets (q : Nat) (l : List Nat) : List Nat := l.map fun i => num i % q
theorem sub_list {prog : Program} {w : World} {A : Around} {E : Value → Shared → Prop} {s : Shared} {value slice : Expr} {l : Addr} {vs : List Value} {j : Nat} {k : Int} {u : Tok} {v : Value} {Q : Value → Shared → Prop} (hl : s.heap.IsList l vs.toArray) (hk : k = (j : Int)) (hj : j < 1000) (hx : vs[j]? = some v) (h : Q v s)
    (hs : subscripted slice false (.ref l) (.int k u) = operate [.ref l, .int k u] (getItem (.ref l) (.int k u)) := by with_unfolding_all rfl) : wpAny (model prog w) A (subscriptTail value slice (.ref l) (.int k u)) Q E s := by
  subst hk
  exact tail_any hl.typeIs slot_list_getitem.lookup (wpAny_getItem_list hl (by omega) (by omega) (by simpa using hx) h) hs
theorem upd_upd (a b : List (Str × Option Value)) (m : Str → Option Value) : upd a (upd b m) = upd (a ++ b) m := by
  funext y
  unfold upd
  rw [lookup_append']
  cases a.lookup y <;> rfl
theorem lookup_keys (f : Str → Option Value) (y : Str) : ∀ K : List Str, (K.map fun k => (k, f k)).lookup y = if y ∈ K then some (f y) else none
  | [] => by simp
  | k :: K => by
    rw [List.map_cons, List.lookup_cons, lookup_keys f y K]
    by_cases h : y = k
    · subst h; simp
    · have : (y == k) = false := by simpa using h
      rw [this]
      simp [h]
theorem upd_keys (K : List Str) (a : List (Str × Option Value)) (m : Str → Option Value) (h : (a.all fun x => K.contains x.1) = true) : upd a m = upd (K.map fun k => (k, upd a m k)) m := by
  funext y
  conv => rhs; unfold upd
  rw [lookup_keys]
  by_cases hy : y ∈ K
  · rw [if_pos hy]; rfl
  · rw [if_neg hy]
    unfold upd
    rw [lookup_none' y a fun x hx q => hy (by
      have := List.all_eq_true.mp h x hx
      rw [q]
      simpa using this)]
theorem enc_zero (q : Nat) : ∀ n : Nat, (List.replicate n (sgn (mk q 0))).flatten = sgns (enc q (List.replicate n 0))
  | 0 => rfl
  | n + 1 => by
    rw [List.replicate_succ, List.flatten_cons, enc_zero q n, List.replicate_succ]
    show _ = sgns (mk q 0 :: enc q (List.replicate n 0))
    rw [sgns_cons]
noncomputable def wordS (q : Nat) (w : List Nat) : Str := S (sgns (enc q w))
theorem mk_lt {q a : Nat} (hq : q = 2 ∨ q = 3) (ha : a < q) : mk q a < 6 := by
  unfold mk; rcases hq with rfl | rfl <;> simp <;> omega
theorem spread_length (q : Nat) (row : List Nat) : ∀ ws : List (List Nat), (spread q ws row).length = ws.length * q
  | [] => by simp [spread]
  | w :: ws => by
    have := spread_length q row ws
    unfold spread at this ⊢
    rw [List.flatMap_cons, List.length_append, this, List.length_map, List.length_range, List.length_cons, Nat.add_mul, Nat.one_mul, Nat.add_comm]
theorem foldl_spread_length (q : Nat) : ∀ (rows ws : List (List Nat)), (rows.foldl (spread q) ws).length = ws.length * q ^ rows.length
  | [], ws => by simp
  | r :: rows, ws => by
    rw [List.foldl_cons, foldl_spread_length q rows, spread_length, List.length_cons, Nat.pow_succ, Nat.mul_assoc, Nat.mul_comm q]
theorem off1_mem {D : Addr} : ∀ {l : List (Addr × Obj)}, LCg.Off1 D l → ∀ p ∈ l, p.1 ≠ D
  | [], _, _, hp => nomatch hp
  | q :: l, h, p, hp => by
    rcases List.mem_cons.mp hp with rfl | hp
    · exact h.1
    · exact off1_mem h.2 p hp
theorem lets_enc {q : Nat} (hq : q = 2 ∨ q = 3) : ∀ {w : List Nat}, (∀ a ∈ w, a < q) → lets q (enc q w) = w
  | [], _ => rfl
  | a :: w, h => by
    have ih := lets_enc hq (w := w) fun b hb => h b (.tail _ hb)
    show num (mk q a) % q :: lets q (enc q w) = _
    rw [ih]
    have ha := h a (.head _)
    congr 1
    rcases hq with rfl | rfl
    · have : a = 0 ∨ a = 1 := by omega
      rcases this with rfl | rfl <;> rfl
    · have : a = 0 ∨ a = 1 ∨ a = 2 := by omega
      rcases this with rfl | rfl | rfl <;> rfl
theorem enc_lt {q : Nat} (hq : q = 2 ∨ q = 3) {w : List Nat} (h : ∀ a ∈ w, a < q) : ∀ i ∈ enc q w, i < 6 := by
  intro i hi
  obtain ⟨a, ha, rfl⟩ := List.mem_map.mp hi
  exact mk_lt hq (h a ha)
theorem enc_length (q : Nat) (w : List Nat) : (enc q w).length = w.length := by simp [enc]
theorem lets_lt {q : Nat} (hq : 0 < q) (l : List Nat) : ∀ a ∈ lets q l, a < q := by
  intro a ha
  obtain ⟨i, _, rfl⟩ := List.mem_map.mp ha
  exact Nat.mod_lt _ hq
theorem spread_snoc (q : Nat) (ws : List (List Nat)) (w row : List Nat) : spread q (ws ++ [w]) row = spread q ws row ++ (List.range q).map fun t => addRow q w row t := by
  unfold spread
  rw [List.flatMap_append]
  simp
theorem notin_cons {A : List Nat} {a : Addr} {o : Obj} {l : List (Addr × Obj)} (h : a ∉ A) (hl : ∀ x ∈ l, x.1 ∉ A) : ∀ x ∈ (a, o) :: l, x.1 ∉ A := fun x hx => by
  rcases List.mem_cons.mp hx with rfl | hx
  · exact h
  · exact hl x hx
theorem addr_obj {cs : List Nat} (P : LexP (S cs)) {p : Nat} {tp : Tok} {ea : Nat} {line : Int} {tl : Tok} {pv : List Value} {ep : Nat} {a : Nat} (h : a ∈ P.addrs) : ∃ o, (a, o) ∈ P.objs p tp ea line tl pv ep := by
  have e : P.addrs = (P.objs p tp ea line tl pv ep).map (·.1) := rfl
  rw [e] at h
  obtain ⟨y, hy, rfl⟩ := List.mem_map.mp h
  exact ⟨y.2, hy⟩
theorem ne_objs {a : Addr} {heads heads' seg : List (Addr × Obj)} {cs : List Nat} (P : LexP (S cs)) {p : Nat} {tp tl : Tok} {ea ep ep' : Nat} {line : Int} {pv pv' : List Value} (h : ∀ x ∈ heads ++ (P.objs p tp ea line tl pv ep ++ seg), x.1 ≠ a) (hh : heads'.map (·.1) = heads.map (·.1)) : ∀ x ∈ heads' ++ (P.objs p tp ea line tl pv' ep' ++ seg), x.1 ≠ a := by
  intro x hx
  rcases List.mem_append.mp hx with hx | hx
  · have := List.mem_map_of_mem (f := (·.1)) hx
    rw [hh] at this
    obtain ⟨y, hy, e⟩ := List.mem_map.mp this
    rw [← e]; exact h y (List.mem_append_left _ hy)
  rcases List.mem_append.mp hx with hx | hx
  · obtain ⟨o, ho⟩ := addr_obj P (p := p) (tp := tp) (ea := ea) (line := line) (tl := tl) (pv := pv) (ep := ep) (P.objs_addr hx)
    exact h (x.1, o) (List.mem_append_right _ (List.mem_append_left seg ho))
  · exact h x (List.mem_append_right _ (List.mem_append_right _ hx))
theorem comp_first2 {M : Model} {A : Around} {E : Value → Shared → Prop} {s : Shared} {Q : Value → Shared → Prop} {env : Env} {t iter : Expr} {ifs : List Expr} {k} {rest} (h : wpAny M A (eval iter env) Q E s) : wpAny M A (firstIter (⟨t, iter, ifs, k⟩ :: rest) env) Q E s := h
theorem getD_lt2 {l : List Nat} {q : Nat} (hq : 0 < q) (h : ∀ x ∈ l, x < q) (k : Nat) : l.getD k 0 < q := by
  rw [List.getD_eq_getElem?_getD]
  cases e : l[k]? with
  | none => exact hq
  | some x => exact h x (List.mem_of_getElem? e)
theorem strs_ofL : ∀ (vs : List Value) (f : Nat → List Nat), (∀ j y, vs[j]? = some y → ∃ t, y = Value.str (S (f j)) t) → StrsAre vs (((List.range vs.length).map f).map S)
  | [], _, _ => .nil
  | v :: vs, f, h => by
    obtain ⟨t, rfl⟩ := h 0 v rfl
    rw [List.length_cons, List.range_succ_eq_map, List.map_cons, List.map_cons, show List.map f (List.map Nat.succ (List.range vs.length)) = List.map (f ∘ Nat.succ) (List.range vs.length) from List.map_map]
    exact .cons _ _ (strs_ofL vs (f ∘ Nat.succ) fun j y e => h (j + 1) y (by simpa using e))
theorem zip_range {β : Type} (f : Nat → Nat → β) : ∀ (a b : List Nat), (List.range (min a.length b.length)).map (fun i => f (a.getD i 0) (b.getD i 0)) = (a.zip b).map fun p => f p.1 p.2
  | [], b => by simp
  | a :: as, [] => by simp
  | a :: as, b :: bs => by
    have e : min (a :: as).length (b :: bs).length = min as.length bs.length + 1 := by simp only [List.length_cons]; omega
    rw [e, List.range_succ_eq_map, List.map_cons, List.map_map, List.zip_cons_cons, List.map_cons, ← zip_range f as bs]
    rfl
theorem row_flat (q t : Nat) (w row : List Nat) : ((List.range (min w.length row.length)).map fun i => sgn (mk q ((w.getD i 0 + t * row.getD i 0) % q))).flatten = sgns (enc q (addRow q w row t)) := by
  rw [zip_range (fun a b => sgn (mk q ((a + t * b) % q)))]
  unfold sgns enc addRow
  rw [List.flatMap_def, List.map_map, List.map_map]
  rfl
theorem mem_swap {α : Type} {a b c : List α} {x : α} (h : x ∈ a ++ (b ++ c)) : x ∈ a ++ (c ++ b) := by
  rcases List.mem_append.mp h with h | h
  · exact List.mem_append_left _ h
  · rcases List.mem_append.mp h with h | h
    · exact List.mem_append_right _ (List.mem_append_right _ h)
    · exact List.mem_append_right _ (List.mem_append_left _ h)
/-- a ledger's lists of ints -/
noncomputable def Lists (seg : List (Addr × Obj)) (ys : List Value) (rows : List (List Nat)) : Prop :=
  ys.length = rows.length ∧ ∀ (i : Nat) (r : List Nat), rows[i]? = some r → ∃ (a : Addr) (vs : List Value) (ep : Nat), ys[i]? = some (.ref a) ∧ (a, listOf vs.toArray ep) ∈ seg ∧ IntsAre vs (r.map Int.ofNat)
theorem Lists.nil : Lists [] [] [] := ⟨rfl, fun i r h => by simp at h⟩
theorem Lists.snoc {seg : List (Addr × Obj)} {ys : List Value} {rows : List (List Nat)} (h : Lists seg ys rows) {a : Addr} {vs : List Value} {ep : Nat} {r : List Nat} (hI : IntsAre vs (r.map Int.ofNat)) : Lists ((a, listOf vs.toArray ep) :: seg) (ys ++ [.ref a]) (rows ++ [r]) := by
  refine ⟨by simp [h.1], fun i r' hr => ?_⟩
  rcases Nat.lt_trichotomy i rows.length with hi | hi | hi
  · rw [List.getElem?_append_left hi] at hr
    refine hideC fun D_ K_ => ?_
    obtain ⟨b, us, ep', e1, e2, e3⟩ := h.2 i r' hr
    refine K_ ?_
    clear K_ D_
    exact ⟨b, us, ep', by rw [List.getElem?_append_left (by rw [h.1]; exact hi)]; exact e1, .tail _ e2, e3⟩
  · subst hi
    rw [List.getElem?_append_right (Nat.le_refl _), Nat.sub_self] at hr
    cases hr
    refine ⟨a, vs, ep, ?_, .head _, hI⟩
    rw [List.getElem?_append_right (by rw [h.1]; exact Nat.le_refl _), h.1, Nat.sub_self]; rfl
  · rw [List.getElem?_eq_none (by rw [List.length_append]; simp; omega)] at hr; cases hr
theorem Lists.mono {seg seg' : List (Addr × Obj)} {ys : List Value} {rows : List (List Nat)} (h : Lists seg ys rows) (hs : ∀ x ∈ seg, x ∈ seg') : Lists seg' ys rows :=
  ⟨h.1, fun i r hr => by
    refine hideC fun D_ K_ => ?_
    obtain ⟨a, vs, ep, e1, e2, e3⟩ := h.2 i r hr
    refine K_ ?_
    clear K_ D_
    exact ⟨a, vs, ep, e1, hs _ e2, e3⟩⟩
theorem fresh_but {ms : List Addr} {h g' : Heap} (hb : But ms h g') {a : Addr} (e : g'.get? a = none) (ha : a ∉ ms) : h.get? a = none := by
  cases q : h.get? a with
  | none => rfl
  | some o => rw [hb a o ha q] at e; cases e
local macro_rules | `(tactic| walk_at "exec For Name Name cons nil") => `(tactic| (k_dflt (refine for_open ?_)))
local macro_rules | `(tactic| walk_at "exec For Name Call cons nil") => `(tactic| (k_dflt (refine for_open ?_)))
namespace F17c
noncomputable def P0 (cs : List Nat) (P : LexP (S cs)) (w : World) (loose : List Str) (mean : ExcName → Option Value) (mg : Str → Option Value) (mb : Str → Option Value) (g : Heap) (prog : Program) (dep : Nat) (fra : Option (List Env)) (gua : Option (List Code)) (uni : Nat) (hp0 : Heap) (gn : Array GenState) (dr : Drawn) (tk0 : Nat) (os0 : OsState) (Q : Value → Shared → Prop) (E : Value → Shared → Prop) (tp : Tok) (tl : Tok) (ea : Nat) (ep : Nat) (idxs : List (List Nat)) (q : Nat) (n : Nat) (R : List Nat) (M : Addr) (mv : List Value) (tc : Tok) (tq : Tok) (tn : Tok) : Prop :=
  ∀ (G : Gd w loose mean mg mb g) (hg : Sub g hp0) (hA : dep ≤ 600) (hu : uni ≤ 3000) (hq : q = 2 ∨ q = 3) (hn : 1 ≤ n) (hn5 : n ≤ 5) (hm3 : idxs.length ≤ 3) (hqm : q ^ idxs.length ≤ 9) (hix : ∀ r ∈ idxs, r.length = n ∧ ∀ i ∈ r, i < 6) (htl : cs.length < 1000) (hR : Reads cs (idxs.map sgns) R) (hM : hp0.IsList M mv.toArray) (gM : ∀ a ∈ P.addrs, a ≠ M) (hmv : MarksAre q mv) (hm : ∀ o ∈ P.objs 0 tp ea (lineAt cs 0) tl [] ep, hp0.get? o.1 = some o.2 ∧ g.get? o.1 = none) (hcd : hp0.CodeRec (.ref P.c') q3) (post : ∀ h' tk r D1 D2 ys ys2 seg p' tp' tl' ep', But [P.AT, P.dx, P.pb] hp0 h' → (∀ x ∈ (r, tupO #[.ref D1, .ref D2]) :: (D1, LCg.lst ys) :: (D2, LCg.lst ys2) :: seg, h'.get? x.1 = some x.2 ∧ hp0.get? x.1 = none) →
     Lists seg ys (idxs.map (lets q)) → Lists seg ys2 ((idxs.map (lets q)).foldl (spread q) [List.replicate n 0]) → p' ≤ cs.length → cs.drop p' = R → (∀ x ∈ P.objs p' tp' ea (lineAt cs p') tl' [] ep', h'.get? x.1 = some x.2) → h'.CodeRec (.ref P.c') q3 → Q (.ref r) ⟨h', gn, dr, tk, os0⟩),
   wpAny (model prog w) ⟨none, dep, fra, gua, uni⟩ (call (.ref 135) [.ref P.lx, .int (idxs.length : Int) tc, .int (q : Int) tq, .int (n : Int) tn, .ref M]) Q E ⟨hp0, gn, dr, tk0, os0⟩
noncomputable abbrev Par : Type := (cs : List Nat) × ((LexP (S cs)) × (World) × (List Str) × (ExcName → Option Value) × (Str → Option Value) × (Str → Option Value) × (Heap) × (Program) × (Nat) × (Option (List Env)) × (Option (List Code)) × (Nat) × (Heap) × (Array GenState) × (Drawn) × (Nat) × (OsState) × (Value → Shared → Prop) × (Value → Shared → Prop) × (Tok) × (Tok) × (Nat) × (Nat) × (List (List Nat)) × (Nat) × (Nat) × (List Nat) × (Addr) × (List Value) × (Tok) × (Tok) × (Tok))
noncomputable def P1 (p : Par) : Prop := P0 p.1 p.2.1 p.2.2.1 p.2.2.2.1 p.2.2.2.2.1 p.2.2.2.2.2.1 p.2.2.2.2.2.2.1 p.2.2.2.2.2.2.2.1 p.2.2.2.2.2.2.2.2.1 p.2.2.2.2.2.2.2.2.2.1 p.2.2.2.2.2.2.2.2.2.2.1 p.2.2.2.2.2.2.2.2.2.2.2.1 p.2.2.2.2.2.2.2.2.2.2.2.2.1 p.2.2.2.2.2.2.2.2.2.2.2.2.2.1 p.2.2.2.2.2.2.2.2.2.2.2.2.2.2.1 p.2.2.2.2.2.2.2.2.2.2.2.2.2.2.2.1 p.2.2.2.2.2.2.2.2.2.2.2.2.2.2.2.2.1 p.2.2.2.2.2.2.2.2.2.2.2.2.2.2.2.2.2.1 p.2.2.2.2.2.2.2.2.2.2.2.2.2.2.2.2.2.2.1 p.2.2.2.2.2.2.2.2.2.2.2.2.2.2.2.2.2.2.2.1 p.2.2.2.2.2.2.2.2.2.2.2.2.2.2.2.2.2.2.2.2.1 p.2.2.2.2.2.2.2.2.2.2.2.2.2.2.2.2.2.2.2.2.2.1 p.2.2.2.2.2.2.2.2.2.2.2.2.2.2.2.2.2.2.2.2.2.2.1 p.2.2.2.2.2.2.2.2.2.2.2.2.2.2.2.2.2.2.2.2.2.2.2.1 p.2.2.2.2.2.2.2.2.2.2.2.2.2.2.2.2.2.2.2.2.2.2.2.2.1 p.2.2.2.2.2.2.2.2.2.2.2.2.2.2.2.2.2.2.2.2.2.2.2.2.2.1 p.2.2.2.2.2.2.2.2.2.2.2.2.2.2.2.2.2.2.2.2.2.2.2.2.2.2.1 p.2.2.2.2.2.2.2.2.2.2.2.2.2.2.2.2.2.2.2.2.2.2.2.2.2.2.2.1 p.2.2.2.2.2.2.2.2.2.2.2.2.2.2.2.2.2.2.2.2.2.2.2.2.2.2.2.2.1 p.2.2.2.2.2.2.2.2.2.2.2.2.2.2.2.2.2.2.2.2.2.2.2.2.2.2.2.2.2.1 p.2.2.2.2.2.2.2.2.2.2.2.2.2.2.2.2.2.2.2.2.2.2.2.2.2.2.2.2.2.2.1 p.2.2.2.2.2.2.2.2.2.2.2.2.2.2.2.2.2.2.2.2.2.2.2.2.2.2.2.2.2.2.2.1 p.2.2.2.2.2.2.2.2.2.2.2.2.2.2.2.2.2.2.2.2.2.2.2.2.2.2.2.2.2.2.2.2
theorem some_par : Nonempty Par := ⟨⟨[], lexP0, aWorld 1, [], fun _ => none, fun _ => none, fun _ => none, default, default, 0, none, none, 0, default, #[], (start (default : Program)).1.drawn, 0, (start (default : Program)).1.os, fun _ _ => True, fun _ _ => True, 0, 0, 0, 0, [], 0, 0, [], 0, [], 0, 0, 0⟩⟩
@[irreducible] noncomputable def cc : Par := @Classical.epsilon Par some_par fun p => ¬ P1 p
@[irreducible] noncomputable def cs : List Nat := by with_unfolding_all exact cc.1
@[irreducible] noncomputable def P : LexP (S cs) := by with_unfolding_all exact cc.2.1
@[irreducible] noncomputable def w : World := by with_unfolding_all exact cc.2.2.1
@[irreducible] noncomputable def loose : List Str := by with_unfolding_all exact cc.2.2.2.1
@[irreducible] noncomputable def mean : ExcName → Option Value := by with_unfolding_all exact cc.2.2.2.2.1
@[irreducible] noncomputable def mg : Str → Option Value := by with_unfolding_all exact cc.2.2.2.2.2.1
@[irreducible] noncomputable def mb : Str → Option Value := by with_unfolding_all exact cc.2.2.2.2.2.2.1
@[irreducible] noncomputable def g : Heap := by with_unfolding_all exact cc.2.2.2.2.2.2.2.1
@[irreducible] noncomputable def prog : Program := by with_unfolding_all exact cc.2.2.2.2.2.2.2.2.1
@[irreducible] noncomputable def dep : Nat := by with_unfolding_all exact cc.2.2.2.2.2.2.2.2.2.1
@[irreducible] noncomputable def fra : Option (List Env) := by with_unfolding_all exact cc.2.2.2.2.2.2.2.2.2.2.1
@[irreducible] noncomputable def gua : Option (List Code) := by with_unfolding_all exact cc.2.2.2.2.2.2.2.2.2.2.2.1
@[irreducible] noncomputable def uni : Nat := by with_unfolding_all exact cc.2.2.2.2.2.2.2.2.2.2.2.2.1
@[irreducible] noncomputable def hp0 : Heap := by with_unfolding_all exact cc.2.2.2.2.2.2.2.2.2.2.2.2.2.1
@[irreducible] noncomputable def gn : Array GenState := by with_unfolding_all exact cc.2.2.2.2.2.2.2.2.2.2.2.2.2.2.1
@[irreducible] noncomputable def dr : Drawn := by with_unfolding_all exact cc.2.2.2.2.2.2.2.2.2.2.2.2.2.2.2.1
@[irreducible] noncomputable def tk0 : Nat := by with_unfolding_all exact cc.2.2.2.2.2.2.2.2.2.2.2.2.2.2.2.2.1
@[irreducible] noncomputable def os0 : OsState := by with_unfolding_all exact cc.2.2.2.2.2.2.2.2.2.2.2.2.2.2.2.2.2.1
@[irreducible] noncomputable def Q : Value → Shared → Prop := by with_unfolding_all exact cc.2.2.2.2.2.2.2.2.2.2.2.2.2.2.2.2.2.2.1
@[irreducible] noncomputable def E : Value → Shared → Prop := by with_unfolding_all exact cc.2.2.2.2.2.2.2.2.2.2.2.2.2.2.2.2.2.2.2.1
@[irreducible] noncomputable def tp : Tok := by with_unfolding_all exact cc.2.2.2.2.2.2.2.2.2.2.2.2.2.2.2.2.2.2.2.2.1
@[irreducible] noncomputable def tl : Tok := by with_unfolding_all exact cc.2.2.2.2.2.2.2.2.2.2.2.2.2.2.2.2.2.2.2.2.2.1
@[irreducible] noncomputable def ea : Nat := by with_unfolding_all exact cc.2.2.2.2.2.2.2.2.2.2.2.2.2.2.2.2.2.2.2.2.2.2.1
@[irreducible] noncomputable def ep : Nat := by with_unfolding_all exact cc.2.2.2.2.2.2.2.2.2.2.2.2.2.2.2.2.2.2.2.2.2.2.2.1
@[irreducible] noncomputable def idxs : List (List Nat) := by with_unfolding_all exact cc.2.2.2.2.2.2.2.2.2.2.2.2.2.2.2.2.2.2.2.2.2.2.2.2.1
@[irreducible] noncomputable def q : Nat := by with_unfolding_all exact cc.2.2.2.2.2.2.2.2.2.2.2.2.2.2.2.2.2.2.2.2.2.2.2.2.2.1
@[irreducible] noncomputable def n : Nat := by with_unfolding_all exact cc.2.2.2.2.2.2.2.2.2.2.2.2.2.2.2.2.2.2.2.2.2.2.2.2.2.2.1
@[irreducible] noncomputable def R : List Nat := by with_unfolding_all exact cc.2.2.2.2.2.2.2.2.2.2.2.2.2.2.2.2.2.2.2.2.2.2.2.2.2.2.2.1
@[irreducible] noncomputable def M : Addr := by with_unfolding_all exact cc.2.2.2.2.2.2.2.2.2.2.2.2.2.2.2.2.2.2.2.2.2.2.2.2.2.2.2.2.1
@[irreducible] noncomputable def mv : List Value := by with_unfolding_all exact cc.2.2.2.2.2.2.2.2.2.2.2.2.2.2.2.2.2.2.2.2.2.2.2.2.2.2.2.2.2.1
@[irreducible] noncomputable def tc : Tok := by with_unfolding_all exact cc.2.2.2.2.2.2.2.2.2.2.2.2.2.2.2.2.2.2.2.2.2.2.2.2.2.2.2.2.2.2.1
@[irreducible] noncomputable def tq : Tok := by with_unfolding_all exact cc.2.2.2.2.2.2.2.2.2.2.2.2.2.2.2.2.2.2.2.2.2.2.2.2.2.2.2.2.2.2.2.1
@[irreducible] noncomputable def tn : Tok := by with_unfolding_all exact cc.2.2.2.2.2.2.2.2.2.2.2.2.2.2.2.2.2.2.2.2.2.2.2.2.2.2.2.2.2.2.2.2
@[irreducible] noncomputable def g' : Heap := hideAll hp0 ((P.objs 0 tp ea (lineAt cs 0) tl [] ep).map (·.1))
@[irreducible] noncomputable def L : Addr := hp0.objs.size
noncomputable def cap_top : (T_A1 : (Heap) → (Nat) → (Obj) → (Obj) → (Obj) → (Obj) → Prop) ×' ((∀ (h₁ : Heap) (tk : Nat) (oT : Obj) (oM : Obj) (oQ : Obj) (oX : Obj), T_A1 h₁ tk oT oM oQ oX) → P0 cs P w loose mean mg mb g prog dep fra gua uni hp0 gn dr tk0 os0 Q E tp tl ea ep idxs q n R M mv tc tq tn) := ⟨_, by
  intro K_A1
  unfold P0
  intro G hg hA hu hq hn hn5 hm3 hqm hix htl hR hM gM hmv hm hcd post
  have hL : L = hp0.objs.size := by unfold L; rfl
  refine call_topCE (P.objs 0 tp ea (lineAt cs 0) tl [] ep) (g' := g') (L := L) (by unfold g'; rfl) hL G hg hm (by k_is) (by k_is) rfl rfl (by decide +kernel) (by show dep < 1000; omega) ?_
  intro h₁ tk cells G' hbut hnone F N Y l1
  k_lt l1; k_cells Y; (try simp only [List.cons_append, List.nil_append] at N); (try dsimp only)
  have hlt := P.lt
  have XX := G'.X
  have T := G'.T
  rename_i oT oM oQ oX dT dM dQ dX
  have dX : oX.data = .cell (some (.ref P.lx)) := dX
  have dQ : oQ.data = .cell (some (.int (q : Int) tq)) := dQ
  have dM : oM.data = .cell (some (.ref M)) := dM
  have hqq : 2 ≤ q ∧ q ≤ 3 := by omega
  have hcd' : g'.CodeRec (.ref P.c') q3 := codeRec_but hbut (fun x hx => ⟨(hm x hx).1, by
    simp only [List.mem_cons, List.not_mem_nil, or_false] at hx
    rcases hx with rfl | rfl | rfl | rfl | rfl | rfl | rfl | rfl | rfl
    · exact fun _ => nofun
    · exact fun _ => nofun
    · exact fun _ => nofun
    · exact fun _ => nofun
    · exact fun _ => nofun
    · exact fun _ => nofun
    · exact fun _ => nofun
    · exact fun _ => by rw [P.d1]; nofun
    · exact fun _ => by rw [P.d2]; nofun⟩) hcd
  have hMl : g'.IsList M mv.toArray := by
    obtain ⟨o, e, r⟩ := hM
    refine ⟨o, hbut M o (fun hin => ?_) e, r⟩
    exact gM M hin rfl
  have hcells : ∀ a ∈ P.addrs, a < L := by
    intro a ha
    simp only [LexP.addrs, List.mem_cons, List.not_mem_nil, or_false] at ha
    rcases ha with rfl | rfl | rfl | rfl | rfl | rfl | rfl | rfl | rfl <;> refine ltN ?_ <;> omega
  rename_i xA1_1 xA1_2 xA1_3
  revert G hg hA hu hq hn hn5 hm3 hqm hix htl hR hM gM hmv hm hcd post hL G' hbut hnone F l1 dT xA1_1 xA1_2 xA1_3 N hlt XX T dX dQ dM hqq hcd' hMl hcells
  exact K_A1 h₁ tk oT oM oQ oX⟩
namespace A1
noncomputable abbrev Par : Type := (Heap) × (Nat) × (Obj) × (Obj) × (Obj) × (Obj)
noncomputable def P1 (p : Par) : Prop := cap_top.1 p.1 p.2.1 p.2.2.1 p.2.2.2.1 p.2.2.2.2.1 p.2.2.2.2.2
theorem some_par : Nonempty Par := ⟨⟨default, 0, { cls := .none, data := .seq #[] }, { cls := .none, data := .seq #[] }, { cls := .none, data := .seq #[] }, { cls := .none, data := .seq #[] }⟩⟩
@[irreducible] noncomputable def cc : Par := @Classical.epsilon Par some_par fun p => ¬ P1 p
@[irreducible] noncomputable def h₁ : Heap := by with_unfolding_all exact cc.1
@[irreducible] noncomputable def tk : Nat := by with_unfolding_all exact cc.2.1
@[irreducible] noncomputable def oT : Obj := by with_unfolding_all exact cc.2.2.1
@[irreducible] noncomputable def oM : Obj := by with_unfolding_all exact cc.2.2.2.1
@[irreducible] noncomputable def oQ : Obj := by with_unfolding_all exact cc.2.2.2.2.1
@[irreducible] noncomputable def oX : Obj := by with_unfolding_all exact cc.2.2.2.2.2
noncomputable def cap_A1 : (T_B1 : (Heap) → (Nat) → (Tok) → (Tok) → (Tok) → (Heap) → (Nat) → (List Value) → (Nat) → (Tok) → (Tok) → (List (Addr × Obj)) → (Addr) → (Obj) → (Addr) → (Obj) → (Addr) → (Str → Option Value) → (Heap) → (Nat) → (Value → Shared → Prop) → (Tok) → (List Nat) → (List Nat) → Prop) ×' (T_B2 : (Heap) → (Nat) → (Tok) → (Tok) → (Tok) → (Heap) → (List Value) → (Nat) → (Tok) → (Tok) → (List (Addr × Obj)) → (Addr) → (Heap) → (Nat) → Prop) ×' ((∀ (xB1_3 : Heap) (xB1_4 : Nat) (xB1_5 : Tok) (xB1_6 : Tok) (xB1_7 : Tok) (g2 : Heap) (k : Nat) (ys : List Value) (p : Nat) (tp1 : Tok) (tl1 : Tok) (seg : List (Addr × Obj)) (I2 : Addr) (oI2 : Obj) (C : Addr) (oC : Obj) (D : Addr) (m₂ : Str → Option Value) (h4 : Heap) (tk4 : Nat) (E' : Value → Shared → Prop) (tv : Tok) (rk : List Nat) (l' : List Nat), T_B1 xB1_3 xB1_4 xB1_5 xB1_6 xB1_7 g2 k ys p tp1 tl1 seg I2 oI2 C oC D m₂ h4 tk4 E' tv rk l') → (∀ (xB2_3 : Heap) (xB2_4 : Nat) (xB2_5 : Tok) (xB2_6 : Tok) (xB2_7 : Tok) (g2 : Heap) (ys : List Value) (p : Nat) (tp1 : Tok) (tl1 : Tok) (seg : List (Addr × Obj)) (D3 : Addr) (h3 : Heap) (tk3 : Nat), T_B2 xB2_3 xB2_4 xB2_5 xB2_6 xB2_7 g2 ys p tp1 tl1 seg D3 h3 tk3) → cap_top.1 h₁ tk oT oM oQ oX) := ⟨_, _, by
  intro K_B1 K_B2
  intro G hg hA hu hq hn hn5 hm3 hqm hix htl hR hM gM hmv hm hcd post hL G' hbut hnone F l1 dT xA1_1 xA1_2 xA1_3 N hlt XX T dX dQ dM hqq hcd' hMl hcells
  iterate 9 walk_at "go"
  obtain ⟨r1, r2⟩ := range_ok (b := (idxs.length : Int)) (n := idxs.length) rfl (by omega)
  with_reducible rename IsRange _ _ _ _ _ _ _ _ => hrg
  with_reducible rename Fr _ _ _ _ => F
  with_reducible rename News _ _ _ _ => N
  refine LCg.CompSrc.range (n := idxs.length) rfl F N hrg r1 r2 (by simp [sizeLine]; omega) ?_
  intro g2
  refine rest_inv (fun k ys nw => ∃ p tp tl seg, nw = (L + 1 + 1 + 1 + 1, oT) :: (L + 1 + 1 + 1, oM) :: (L + 1 + 1, oQ) :: (L + 1, oX) :: (P.objs p tp ea (lineAt cs p) tl [] ep ++ seg) ∧ p ≤ cs.length ∧ Reads (cs.drop p) ((idxs.drop k).map sgns) R ∧ Lists seg ys ((idxs.take k).map (lets q)) ∧ (∀ x ∈ seg, x.1 ∉ P.addrs) ∧ (∀ x ∈ seg, @Ne Nat x.1 (L + 1 + 1 + 1 + 1))) idxs.length ?_ ?_ _ 0 _ _ (by simp) ⟨0, tp, tl, [], rfl, Nat.zero_le _, hR, Lists.nil, (fun _ h => nomatch h), fun _ h => nomatch h⟩
  · intro k ys nw hk H_
    refine hideC fun D_ K_ => ?_
    obtain ⟨p, tp1, tl1, seg, e1_, hp, hRd, hLs, hseg, hseg4⟩ := H_
    refine K_ ?_
    clear K_ D_
    subst e1_
    intro v I2 oI2 C oC D m₂ h4 tk4 E'
    rintro ⟨tv, rfl⟩
    intro hC hx F4 N4 off ne
    have hoff := off.mem
    clear F N
    have hk' : k < idxs.length := hk
    have hpre : ∀ x ∈ (I2, oI2) :: (C, oC) :: (D, LCg.lst ys) :: (L + 1 + 1 + 1 + 1, oT) :: (L + 1 + 1 + 1, oM) :: (L + 1 + 1, oQ) :: (L + 1, oX) :: seg, x.1 ∉ P.addrs := by
      intro x hx hin
      obtain ⟨o, hP⟩ := addr_obj P (p := p) (tp := tp1) (ea := ea) (line := lineAt cs p) (tl := tl1) (pv := []) (ep := ep) hin
      have h3 := hoff (x.1, o) (List.mem_append_right [(L + 1 + 1 + 1 + 1, oT), (L + 1 + 1 + 1, oM), (L + 1 + 1, oQ), (L + 1, oX)] (List.mem_append_left seg hP))
      have hL := hcells _ hin
      have hL' : @LT.lt Nat _ x.1 L := hL
      rcases List.mem_cons.mp hx with rfl | hx
      · exact h3.1 rfl
      rcases List.mem_cons.mp hx with rfl | hx
      · exact h3.2.1 rfl
      rcases List.mem_cons.mp hx with rfl | hx
      · exact h3.2.2 rfl
      rcases List.mem_cons.mp hx with rfl | hx
      · dsimp only at hL'; omega
      rcases List.mem_cons.mp hx with rfl | hx
      · dsimp only at hL'; omega
      rcases List.mem_cons.mp hx with rfl | hx
      · dsimp only at hL'; omega
      rcases List.mem_cons.mp hx with rfl | hx
      · dsimp only at hL'; omega
      · exact hseg x hx hin
    obtain ⟨rk, hrk⟩ : ∃ rk, idxs.drop k = rk :: idxs.drop (k + 1) := ⟨idxs[k], List.drop_eq_getElem_cons hk'⟩
    have hrkm : rk ∈ idxs := List.mem_of_mem_drop (by rw [hrk]; exact .head _)
    rw [hrk, List.map_cons] at hRd
    obtain ⟨l', hT1, hRd⟩ := hRd
    have hsl := sgns_len (hix rk hrkm).2
    have hrl := (hix rk hrkm).1
    rename_i xB1_1 xB1_2 xB1_3 xB1_4 xB1_5 xB1_6 xB1_7 xB1_8
    revert G hg hA hu hq hn hn5 hm3 hqm hix htl hR hM gM hmv hm hcd post hL G' hbut hnone xB1_1 l1 dT xA1_1 xA1_2 xA1_3 xB1_2 hlt XX T dX dQ dM hqq hcd' hMl hcells hrg xB1_8 r1 r2 hk hp hLs hseg hseg4 hC hx F4 N4 off ne hoff hk' hpre hrk hrkm hT1 hRd hsl hrl
    exact K_B1 xB1_3 xB1_4 xB1_5 xB1_6 xB1_7 g2 k ys p tp1 tl1 seg I2 oI2 C oC D m₂ h4 tk4 E' tv rk l'
  · intro ys nw H_
    refine hideC fun D_ K_ => ?_
    obtain ⟨p, tp1, tl1, seg, e2_, hp, hRd, hLs, hseg, hseg4⟩ := H_
    refine K_ ?_
    clear K_ D_
    subst e2_
    unfold LCg.FinA
    intro D3 h3 tk3 F3 N3 o3
    clear F N
    rename_i xB2_1 xB2_2 xB2_3 xB2_4 xB2_5 xB2_6 xB2_7 xB2_8
    revert G hg hA hu hq hn hn5 hm3 hqm hix htl hR hM gM hmv hm hcd post hL G' hbut hnone xB2_1 l1 dT xA1_1 xA1_2 xA1_3 xB2_2 hlt XX T dX dQ dM hqq hcd' hMl hcells hrg xB2_8 r1 r2 hp hRd hLs hseg hseg4 F3 N3 o3
    exact K_B2 xB2_3 xB2_4 xB2_5 xB2_6 xB2_7 g2 ys p tp1 tl1 seg D3 h3 tk3⟩
namespace B1
noncomputable abbrev Par : Type := (Heap) × (Nat) × (Tok) × (Tok) × (Tok) × (Heap) × (Nat) × (List Value) × (Nat) × (Tok) × (Tok) × (List (Addr × Obj)) × (Addr) × (Obj) × (Addr) × (Obj) × (Addr) × (Str → Option Value) × (Heap) × (Nat) × (Value → Shared → Prop) × (Tok) × (List Nat) × (List Nat)
noncomputable def P1 (p : Par) : Prop := cap_A1.1 p.1 p.2.1 p.2.2.1 p.2.2.2.1 p.2.2.2.2.1 p.2.2.2.2.2.1 p.2.2.2.2.2.2.1 p.2.2.2.2.2.2.2.1 p.2.2.2.2.2.2.2.2.1 p.2.2.2.2.2.2.2.2.2.1 p.2.2.2.2.2.2.2.2.2.2.1 p.2.2.2.2.2.2.2.2.2.2.2.1 p.2.2.2.2.2.2.2.2.2.2.2.2.1 p.2.2.2.2.2.2.2.2.2.2.2.2.2.1 p.2.2.2.2.2.2.2.2.2.2.2.2.2.2.1 p.2.2.2.2.2.2.2.2.2.2.2.2.2.2.2.1 p.2.2.2.2.2.2.2.2.2.2.2.2.2.2.2.2.1 p.2.2.2.2.2.2.2.2.2.2.2.2.2.2.2.2.2.1 p.2.2.2.2.2.2.2.2.2.2.2.2.2.2.2.2.2.2.1 p.2.2.2.2.2.2.2.2.2.2.2.2.2.2.2.2.2.2.2.1 p.2.2.2.2.2.2.2.2.2.2.2.2.2.2.2.2.2.2.2.2.1 p.2.2.2.2.2.2.2.2.2.2.2.2.2.2.2.2.2.2.2.2.2.1 p.2.2.2.2.2.2.2.2.2.2.2.2.2.2.2.2.2.2.2.2.2.2.1 p.2.2.2.2.2.2.2.2.2.2.2.2.2.2.2.2.2.2.2.2.2.2.2
theorem some_par : Nonempty Par := ⟨⟨default, 0, 0, 0, 0, default, 0, [], 0, 0, 0, [], 0, { cls := .none, data := .seq #[] }, 0, { cls := .none, data := .seq #[] }, 0, (fun _ => none), default, 0, (fun _ _ => True), 0, [], []⟩⟩
@[irreducible] noncomputable def cc : Par := @Classical.epsilon Par some_par fun p => ¬ P1 p
@[irreducible] noncomputable def xB1_3 : Heap := by with_unfolding_all exact cc.1
@[irreducible] noncomputable def xB1_4 : Nat := by with_unfolding_all exact cc.2.1
@[irreducible] noncomputable def xB1_5 : Tok := by with_unfolding_all exact cc.2.2.1
@[irreducible] noncomputable def xB1_6 : Tok := by with_unfolding_all exact cc.2.2.2.1
@[irreducible] noncomputable def xB1_7 : Tok := by with_unfolding_all exact cc.2.2.2.2.1
@[irreducible] noncomputable def g2 : Heap := by with_unfolding_all exact cc.2.2.2.2.2.1
@[irreducible] noncomputable def k : Nat := by with_unfolding_all exact cc.2.2.2.2.2.2.1
@[irreducible] noncomputable def ys : List Value := by with_unfolding_all exact cc.2.2.2.2.2.2.2.1
@[irreducible] noncomputable def p : Nat := by with_unfolding_all exact cc.2.2.2.2.2.2.2.2.1
@[irreducible] noncomputable def tp1 : Tok := by with_unfolding_all exact cc.2.2.2.2.2.2.2.2.2.1
@[irreducible] noncomputable def tl1 : Tok := by with_unfolding_all exact cc.2.2.2.2.2.2.2.2.2.2.1
@[irreducible] noncomputable def seg : List (Addr × Obj) := by with_unfolding_all exact cc.2.2.2.2.2.2.2.2.2.2.2.1
@[irreducible] noncomputable def I2 : Addr := by with_unfolding_all exact cc.2.2.2.2.2.2.2.2.2.2.2.2.1
@[irreducible] noncomputable def oI2 : Obj := by with_unfolding_all exact cc.2.2.2.2.2.2.2.2.2.2.2.2.2.1
@[irreducible] noncomputable def C : Addr := by with_unfolding_all exact cc.2.2.2.2.2.2.2.2.2.2.2.2.2.2.1
@[irreducible] noncomputable def oC : Obj := by with_unfolding_all exact cc.2.2.2.2.2.2.2.2.2.2.2.2.2.2.2.1
@[irreducible] noncomputable def D : Addr := by with_unfolding_all exact cc.2.2.2.2.2.2.2.2.2.2.2.2.2.2.2.2.1
@[irreducible] noncomputable def m₂ : Str → Option Value := by with_unfolding_all exact cc.2.2.2.2.2.2.2.2.2.2.2.2.2.2.2.2.2.1
@[irreducible] noncomputable def h4 : Heap := by with_unfolding_all exact cc.2.2.2.2.2.2.2.2.2.2.2.2.2.2.2.2.2.2.1
@[irreducible] noncomputable def tk4 : Nat := by with_unfolding_all exact cc.2.2.2.2.2.2.2.2.2.2.2.2.2.2.2.2.2.2.2.1
@[irreducible] noncomputable def E' : Value → Shared → Prop := by with_unfolding_all exact cc.2.2.2.2.2.2.2.2.2.2.2.2.2.2.2.2.2.2.2.2.1
@[irreducible] noncomputable def tv : Tok := by with_unfolding_all exact cc.2.2.2.2.2.2.2.2.2.2.2.2.2.2.2.2.2.2.2.2.2.1
@[irreducible] noncomputable def rk : List Nat := by with_unfolding_all exact cc.2.2.2.2.2.2.2.2.2.2.2.2.2.2.2.2.2.2.2.2.2.2.1
@[irreducible] noncomputable def l' : List Nat := by with_unfolding_all exact cc.2.2.2.2.2.2.2.2.2.2.2.2.2.2.2.2.2.2.2.2.2.2.2
noncomputable def cap_B1 : (T_B3 : (Heap) → (Nat) → (Tok) → (Nat) → (Tok) → (Tok) → (Heap) → (Nat) → (Addr) → (List Value) → (Nat) → Prop) ×' ((∀ (h5 : Heap) (tk5 : Nat) (t5 : Tok) (p5 : Nat) (tp5 : Tok) (tl5 : Tok) (h6 : Heap) (tk6 : Nat) (r6 : Addr) (vs6 : List Value) (ep6 : Nat), T_B3 h5 tk5 t5 p5 tp5 tl5 h6 tk6 r6 vs6 ep6) → cap_A1.1 xB1_3 xB1_4 xB1_5 xB1_6 xB1_7 g2 k ys p tp1 tl1 seg I2 oI2 C oC D m₂ h4 tk4 E' tv rk l') := ⟨_, by
  intro K_B3
  intro G hg hA hu hq hn hn5 hm3 hqm hix htl hR hM gM hmv hm hcd post hL G' hbut hnone xB1_1 l1 dT xA1_1 xA1_2 xA1_3 xB1_2 hlt XX T dX dQ dM hqq hcd' hMl hcells hrg xB1_8 r1 r2 hk hp hLs hseg hseg4 hC hx F4 N4 off ne hoff hk' hpre hrk hrkm hT1 hRd hsl hrl
  iterate 9 walk_at "go"
  with_reducible rename Fr _ _ _ _ => F4
  with_reducible rename News _ _ _ _ => N4
  refine text_use (pre := (I2, oI2) :: (C, oC) :: (D, LCg.lst ys) :: (L + 1 + 1 + 1 + 1, oT) :: (L + 1 + 1 + 1, oM) :: (L + 1 + 1, oQ) :: (L + 1, oX) :: seg) (tp := tp1) (tl := tl1) (ea := ea) (ep := ep) G' F4 P (fun x hx => N4 x (mem_swap (a := [(I2, oI2), (C, oC), (D, LCg.lst ys), (L + 1 + 1 + 1 + 1, oT), (L + 1 + 1 + 1, oM), (L + 1 + 1, oQ), (L + 1, oX)]) hx)) hpre (by show dep + 1 ≤ 700; omega) (by show uni + 3 ≤ 4000; omega) rfl hp htl hT1 (by omega) (codeRec_sub F4.keep hcd') ?_
  intro h5 tk5 t5 p5 tp5 tl5 hp5 hR5 hb5 F5 N5 hc5
  replace N5 : News g' L h5 ([(I2, oI2), (C, oC), (D, LCg.lst ys), (L + 1 + 1 + 1 + 1, oT), (L + 1 + 1 + 1, oM), (L + 1 + 1, oQ), (L + 1, oX)] ++ (P.objs p5 tp5 ea (lineAt cs p5) tl5 [] ep ++ seg)) := fun x hx => N5 x (mem_swap hx)
  clear F4 N4
  dsimp only [List.cons_append, List.nil_append] at N5
  iterate 4 walk_at "go"
  (try k_unfold)
  refine letters_use G' F5 N5 (by show dep + 1 ≤ 700; omega) (by show uni + 3 ≤ 4000; omega) rfl (hix rk hrkm).2 (by omega) hqq.1 hqq.2 ?_
  intro h6 tk6 r6 vs6 ep6 hs6 F6 N6 hne6 hI6
  clear F5 N5
  rename_i xB3_1
  revert G hg hA hu hq hn hn5 hm3 hqm hix htl hR hM gM hmv hm hcd post hL G' hbut hnone xB1_1 l1 dT xA1_1 xA1_2 xA1_3 xB1_2 hlt XX T dX dQ dM hqq hcd' hMl hcells hrg xB1_8 r1 r2 hk hp hLs hseg hseg4 hC hx off ne hoff hk' hpre hrk hrkm hT1 hRd hsl hrl xB3_1 qk ek hp5 hR5 hb5 hc5 hs6 F6 N6 hne6 hI6
  exact K_B3 h5 tk5 t5 p5 tp5 tl5 h6 tk6 r6 vs6 ep6⟩
namespace B3
noncomputable abbrev Par : Type := (Heap) × (Nat) × (Tok) × (Nat) × (Tok) × (Tok) × (Heap) × (Nat) × (Addr) × (List Value) × (Nat)
noncomputable def P1 (p : Par) : Prop := cap_B1.1 p.1 p.2.1 p.2.2.1 p.2.2.2.1 p.2.2.2.2.1 p.2.2.2.2.2.1 p.2.2.2.2.2.2.1 p.2.2.2.2.2.2.2.1 p.2.2.2.2.2.2.2.2.1 p.2.2.2.2.2.2.2.2.2.1 p.2.2.2.2.2.2.2.2.2.2
theorem some_par : Nonempty Par := ⟨⟨default, 0, 0, 0, 0, 0, default, 0, 0, [], 0⟩⟩
@[irreducible] noncomputable def cc : Par := @Classical.epsilon Par some_par fun p => ¬ P1 p
@[irreducible] noncomputable def h5 : Heap := by with_unfolding_all exact cc.1
@[irreducible] noncomputable def tk5 : Nat := by with_unfolding_all exact cc.2.1
@[irreducible] noncomputable def t5 : Tok := by with_unfolding_all exact cc.2.2.1
@[irreducible] noncomputable def p5 : Nat := by with_unfolding_all exact cc.2.2.2.1
@[irreducible] noncomputable def tp5 : Tok := by with_unfolding_all exact cc.2.2.2.2.1
@[irreducible] noncomputable def tl5 : Tok := by with_unfolding_all exact cc.2.2.2.2.2.1
@[irreducible] noncomputable def h6 : Heap := by with_unfolding_all exact cc.2.2.2.2.2.2.1
@[irreducible] noncomputable def tk6 : Nat := by with_unfolding_all exact cc.2.2.2.2.2.2.2.1
@[irreducible] noncomputable def r6 : Addr := by with_unfolding_all exact cc.2.2.2.2.2.2.2.2.1
@[irreducible] noncomputable def vs6 : List Value := by with_unfolding_all exact cc.2.2.2.2.2.2.2.2.2.1
@[irreducible] noncomputable def ep6 : Nat := by with_unfolding_all exact cc.2.2.2.2.2.2.2.2.2.2
theorem core : cap_B1.1 h5 tk5 t5 p5 tp5 tl5 h6 tk6 r6 vs6 ep6 := by
  intro G hg hA hu hq hn hn5 hm3 hqm hix htl hR hM gM hmv hm hcd post hL G' hbut hnone xB1_1 l1 dT xA1_1 xA1_2 xA1_3 xB1_2 hlt XX T dX dQ dM hqq hcd' hMl hcells hrg xB1_8 r1 r2 hk hp hLs hseg hseg4 hC hx off ne hoff hk' hpre hrk hrkm hT1 hRd hsl hrl xB3_1 qk ek hp5 hR5 hb5 hc5 hs6 F6 N6 hne6 hI6
  have hr6 : r6 ∉ P.addrs := fun hin => by
    obtain ⟨o, ho⟩ := addr_obj P (p := p5) (tp := tp5) (ea := ea) (line := lineAt cs p5) (tl := tl5) (pv := []) (ep := ep) hin
    exact hne6 _ (List.mem_append_right [(I2, oI2), (C, oC), (D, LCg.lst ys), (L + 1 + 1 + 1 + 1, oT), (L + 1 + 1 + 1, oM), (L + 1 + 1, oQ), (L + 1, oX)] (List.mem_append_left seg ho)) rfl
  have hoff6 : LCg.Off3 I2 C D ((L + 1 + 1 + 1 + 1, oT) :: (L + 1 + 1 + 1, oM) :: (L + 1 + 1, oQ) :: (L + 1, oX) :: (P.objs p5 tp5 ea (lineAt cs p5) tl5 [] ep ++ ((r6, listOf vs6.toArray ep6) :: seg))) := LCg.Off3.of fun x hx => by
    rcases List.mem_append.mp (show x ∈ [(L + 1 + 1 + 1 + 1, oT), (L + 1 + 1 + 1, oM), (L + 1 + 1, oQ), (L + 1, oX)] ++ (P.objs p5 tp5 ea (lineAt cs p5) tl5 [] ep ++ ((r6, listOf vs6.toArray ep6) :: seg)) from hx) with hx | hx
    · exact hoff x (List.mem_append_left (P.objs p tp1 ea (lineAt cs p) tl1 [] ep ++ seg) hx)
    rcases List.mem_append.mp hx with hx | hx
    · obtain ⟨o, ho⟩ := addr_obj P (p := p) (tp := tp1) (ea := ea) (line := lineAt cs p) (tl := tl1) (pv := []) (ep := ep) (P.objs_addr hx)
      exact hoff (x.1, o) (List.mem_append_right [(L + 1 + 1 + 1 + 1, oT), (L + 1 + 1 + 1, oM), (L + 1 + 1, oQ), (L + 1, oX)] (List.mem_append_left seg ho))
    rcases List.mem_cons.mp hx with rfl | hx
    · exact ⟨fun z => hne6 (I2, oI2) (by k_mem) z.symm, fun z => hne6 (C, oC) (by k_mem) z.symm, fun z => hne6 (D, LCg.lst ys) (by k_mem) z.symm⟩
    · exact hoff x (List.mem_append_right [(L + 1 + 1 + 1 + 1, oT), (L + 1 + 1 + 1, oM), (L + 1 + 1, oQ), (L + 1, oX)] (List.mem_append_right (P.objs p tp1 ea (lineAt cs p) tl1 [] ep) hx))
  refine LCg.CompEnd.intro F6 N6 ((L + 1 + 1 + 1 + 1, oT) :: (L + 1 + 1 + 1, oM) :: (L + 1 + 1, oQ) :: (L + 1, oX) :: (P.objs p5 tp5 ea (lineAt cs p5) tl5 [] ep ++ ((r6, listOf vs6.toArray ep6) :: seg))) (fun x hx => ?_) hoff6 trivial ⟨p5, tp5, tl5, _, rfl, hp5, by rw [hR5]; exact hRd, ?_, ?_, ?_⟩
  · rcases List.mem_append.mp (show x ∈ [(I2, oI2), (C, oC), (D, LCg.lst ys), (L + 1 + 1 + 1 + 1, oT), (L + 1 + 1 + 1, oM), (L + 1 + 1, oQ), (L + 1, oX)] ++ (P.objs p5 tp5 ea (lineAt cs p5) tl5 [] ep ++ ((r6, listOf vs6.toArray ep6) :: seg)) from hx) with hx | hx
    · exact .tail _ (List.mem_append_left (P.objs p5 tp5 ea (lineAt cs p5) tl5 [] ep ++ seg) hx)
    rcases List.mem_append.mp hx with hx | hx
    · exact .tail _ (List.mem_append_right [(I2, oI2), (C, oC), (D, LCg.lst ys), (L + 1 + 1 + 1 + 1, oT), (L + 1 + 1 + 1, oM), (L + 1 + 1, oQ), (L + 1, oX)] (List.mem_append_left seg hx))
    rcases List.mem_cons.mp hx with rfl | hx
    · exact .head _
    · exact .tail _ (List.mem_append_right [(I2, oI2), (C, oC), (D, LCg.lst ys), (L + 1 + 1 + 1 + 1, oT), (L + 1 + 1 + 1, oM), (L + 1 + 1, oQ), (L + 1, oX)] (List.mem_append_right (P.objs p5 tp5 ea (lineAt cs p5) tl5 [] ep) hx))
  · have ht : idxs.take (k + 1) = idxs.take k ++ [rk] := by
      rw [List.take_add_one]
      have : idxs[k]? = some rk := by
        have := congrArg List.head? hrk
        rw [List.head?_drop] at this
        exact this
      rw [this]; rfl
    rw [ht, List.map_append]
    exact hLs.snoc hI6
  · intro x hx
    rcases List.mem_cons.mp hx with rfl | hx
    · exact hr6
    · exact hseg x hx
  · intro x hx
    rcases List.mem_cons.mp hx with rfl | hx
    · exact fun z => hne6 (L + 1 + 1 + 1 + 1, oT) (by k_mem) z.symm
    · exact hseg4 x hx
theorem all : ∀ p : Par, P1 p := fun p => Classical.byContradiction fun hn => (@Classical.epsilon_spec Par (fun p => ¬ P1 p) ⟨p, hn⟩) (by with_unfolding_all exact core)
end B3
theorem core : cap_A1.1 xB1_3 xB1_4 xB1_5 xB1_6 xB1_7 g2 k ys p tp1 tl1 seg I2 oI2 C oC D m₂ h4 tk4 E' tv rk l' := cap_B1.2 (fun h5 tk5 t5 p5 tp5 tl5 h6 tk6 r6 vs6 ep6 => B3.all ⟨h5, tk5, t5, p5, tp5, tl5, h6, tk6, r6, vs6, ep6⟩)
theorem all : ∀ p : Par, P1 p := fun p => Classical.byContradiction fun hn => (@Classical.epsilon_spec Par (fun p => ¬ P1 p) ⟨p, hn⟩) (by with_unfolding_all exact core)
end B1
namespace B2
noncomputable abbrev Par : Type := (Heap) × (Nat) × (Tok) × (Tok) × (Tok) × (Heap) × (List Value) × (Nat) × (Tok) × (Tok) × (List (Addr × Obj)) × (Addr) × (Heap) × (Nat)
noncomputable def P1 (p : Par) : Prop := cap_A1.2.1 p.1 p.2.1 p.2.2.1 p.2.2.2.1 p.2.2.2.2.1 p.2.2.2.2.2.1 p.2.2.2.2.2.2.1 p.2.2.2.2.2.2.2.1 p.2.2.2.2.2.2.2.2.1 p.2.2.2.2.2.2.2.2.2.1 p.2.2.2.2.2.2.2.2.2.2.1 p.2.2.2.2.2.2.2.2.2.2.2.1 p.2.2.2.2.2.2.2.2.2.2.2.2.1 p.2.2.2.2.2.2.2.2.2.2.2.2.2
theorem some_par : Nonempty Par := ⟨⟨default, 0, 0, 0, 0, default, [], 0, 0, 0, [], 0, default, 0⟩⟩
@[irreducible] noncomputable def cc : Par := @Classical.epsilon Par some_par fun p => ¬ P1 p
@[irreducible] noncomputable def xB2_3 : Heap := by with_unfolding_all exact cc.1
@[irreducible] noncomputable def xB2_4 : Nat := by with_unfolding_all exact cc.2.1
@[irreducible] noncomputable def xB2_5 : Tok := by with_unfolding_all exact cc.2.2.1
@[irreducible] noncomputable def xB2_6 : Tok := by with_unfolding_all exact cc.2.2.2.1
@[irreducible] noncomputable def xB2_7 : Tok := by with_unfolding_all exact cc.2.2.2.2.1
@[irreducible] noncomputable def g2 : Heap := by with_unfolding_all exact cc.2.2.2.2.2.1
@[irreducible] noncomputable def ys : List Value := by with_unfolding_all exact cc.2.2.2.2.2.2.1
@[irreducible] noncomputable def p : Nat := by with_unfolding_all exact cc.2.2.2.2.2.2.2.1
@[irreducible] noncomputable def tp1 : Tok := by with_unfolding_all exact cc.2.2.2.2.2.2.2.2.1
@[irreducible] noncomputable def tl1 : Tok := by with_unfolding_all exact cc.2.2.2.2.2.2.2.2.2.1
@[irreducible] noncomputable def seg : List (Addr × Obj) := by with_unfolding_all exact cc.2.2.2.2.2.2.2.2.2.2.1
@[irreducible] noncomputable def D3 : Addr := by with_unfolding_all exact cc.2.2.2.2.2.2.2.2.2.2.2.1
@[irreducible] noncomputable def h3 : Heap := by with_unfolding_all exact cc.2.2.2.2.2.2.2.2.2.2.2.2.1
@[irreducible] noncomputable def tk3 : Nat := by with_unfolding_all exact cc.2.2.2.2.2.2.2.2.2.2.2.2.2
noncomputable def cap_B2 : (T_C1 : (Tok) → (Tok) → (Nat) → (Heap) → (Nat) → (Nat) → Prop) ×' ((∀ (t0 : Tok) (t5 : Tok) (k5 : Nat) (h5 : Heap) (tk5 : Nat) (ep5 : Nat), T_C1 t0 t5 k5 h5 tk5 ep5) → cap_A1.2.1 xB2_3 xB2_4 xB2_5 xB2_6 xB2_7 g2 ys p tp1 tl1 seg D3 h3 tk3) := ⟨_, by
  intro K_C1
  intro G hg hA hu hq hn hn5 hm3 hqm hix htl hR hM gM hmv hm hcd post hL G' hbut hnone xB2_1 l1 dT xA1_1 xA1_2 xA1_3 xB2_2 hlt XX T dX dQ dM hqq hcd' hMl hcells hrg xB2_8 r1 r2 hp hRd hLs hseg hseg4 F3 N3 o3
  dsimp only
  dsimp only [LexP.objs, List.cons_append, List.nil_append] at N3
  have hMl : g'.IsList M mv.toArray := hMl
  obtain ⟨t0, hm0⟩ := hmv.2 0 (by omega)
  iterate 11 walk_at "go"
  with_reducible rename Fr _ _ _ _ => F4
  with_reducible rename News _ _ _ _ => N4
  refine sub_list (j := 0) (isList_sub hMl F4.keep) rfl (by omega) hm0 ?_
  iterate 1 walk_at "go"
  have hs0 := sgn_len (mk_lt hq (by omega : 0 < q))
  refine mul_S hn (by omega) (by omega) hs0.1 ?_
  intro t5 k5
  rw [enc_zero]
  iterate 2 walk_at "go"
  have hD3 : D3 ∉ P.addrs := fun hin => by
    obtain ⟨o, ho⟩ := addr_obj P (p := p) (tp := tp1) (ea := ea) (line := lineAt cs p) (tl := tl1) (pv := []) (ep := ep) hin
    exact off1_mem o3 _ (List.mem_append_right [(L + 1 + 1 + 1 + 1, oT), (L + 1 + 1 + 1, oM), (L + 1 + 1, oQ), (L + 1, oX)] (List.mem_append_left seg ho)) rfl
  have hnc : ∀ (D : Addr) (oD oT' : Obj), D ∉ P.addrs → ∀ x ∈ (D, oD) :: (L + 1 + 1 + 1 + 1, oT') :: (L + 1 + 1 + 1, oM) :: (L + 1 + 1, oQ) :: (L + 1, oX) :: seg, x.1 ∉ P.addrs := by
    intro D oD oT' hD x hx hin
    have hL' : @LT.lt Nat _ x.1 L := hcells _ hin
    rcases List.mem_cons.mp hx with rfl | hx
    · exact hD hin
    rcases List.mem_cons.mp hx with rfl | hx
    · dsimp only at hL'; omega
    rcases List.mem_cons.mp hx with rfl | hx
    · dsimp only at hL'; omega
    rcases List.mem_cons.mp hx with rfl | hx
    · dsimp only at hL'; omega
    rcases List.mem_cons.mp hx with rfl | hx
    · dsimp only at hL'; omega
    · exact hseg x hx hin
  with_reducible rename Fr _ _ _ _ => F4
  with_reducible rename News _ _ _ _ => N4
  refine push_use (pre := (D3, LCg.lst ys) :: (L + 1 + 1 + 1 + 1, oT) :: (L + 1 + 1 + 1, oM) :: (L + 1 + 1, oQ) :: (L + 1, oX) :: seg) (p := p) (tp := tp1) (tl := tl1) (ea := ea) (ep := ep) (line := lineAt cs p) (pv := []) G' F4 P (fun x hx => N4 x (mem_swap (a := [(D3, LCg.lst ys), (L + 1 + 1 + 1 + 1, oT), (L + 1 + 1 + 1, oM), (L + 1 + 1, oQ), (L + 1, oX)]) hx)) (hnc D3 _ _ hD3) (by show dep + 1 ≤ 700; omega) (by show uni + 3 ≤ 4000; omega) rfl (by simp) ?_
  intro h5 tk5 ep5 hb5 F5 N5
  replace N5 : News g' L h5 ([(D3, LCg.lst ys), (L + 1 + 1 + 1 + 1, oT), (L + 1 + 1 + 1, oM), (L + 1 + 1, oQ), (L + 1, oX)] ++ (P.objs p tp1 ea (lineAt cs p) tl1 [Value.str (wordS q (List.replicate n 0)) t5] ep5 ++ seg)) := fun x hx => N5 x (mem_swap hx)
  clear F4 N4
  rename_i xC1_1
  revert G hg hA hu hq hn hn5 hm3 hqm hix htl hR hM gM hmv hm hcd post hL G' hbut hnone xB2_1 l1 dT xA1_1 xA1_2 xA1_3 xB2_2 hlt XX T dX dQ dM hqq hcd' xC1_1 hcells hrg xB2_8 r1 r2 hp hRd hLs hseg hseg4 o3 hMl hm0 hs0 hD3 hnc hb5 F5 N5
  exact K_C1 t0 t5 k5 h5 tk5 ep5⟩
namespace C1
noncomputable abbrev Par : Type := (Tok) × (Tok) × (Nat) × (Heap) × (Nat) × (Nat)
noncomputable def P1 (p : Par) : Prop := cap_B2.1 p.1 p.2.1 p.2.2.1 p.2.2.2.1 p.2.2.2.2.1 p.2.2.2.2.2
theorem some_par : Nonempty Par := ⟨⟨0, 0, 0, default, 0, 0⟩⟩
@[irreducible] noncomputable def cc : Par := @Classical.epsilon Par some_par fun p => ¬ P1 p
@[irreducible] noncomputable def t0 : Tok := by with_unfolding_all exact cc.1
@[irreducible] noncomputable def t5 : Tok := by with_unfolding_all exact cc.2.1
@[irreducible] noncomputable def k5 : Nat := by with_unfolding_all exact cc.2.2.1
@[irreducible] noncomputable def h5 : Heap := by with_unfolding_all exact cc.2.2.2.1
@[irreducible] noncomputable def tk5 : Nat := by with_unfolding_all exact cc.2.2.2.2.1
@[irreducible] noncomputable def ep5 : Nat := by with_unfolding_all exact cc.2.2.2.2.2
noncomputable def cap_C1 : (T_D1 : (Heap) → (Nat) → (Heap) → (Nat) → (Addr) → (Obj) → (Option Value) → (Option Value) → (Option Value) → (Tok) → (List Value) → (Nat) → (Obj) → (Option Value) → (List Nat) → (Addr) → (List Value) → (Nat) → (List (List Nat)) → Prop) ×' (T_C2 : (Heap) → (Heap) → (Nat) → (Option Value) → (Option Value) → (Option Value) → (Tok) → (List Value) → (Nat) → (Obj) → (Option Value) → Prop) ×' ((∀ (xD1_1 : Heap) (i : Nat) (h7 : Heap) (tk7 : Nat) (I : Addr) (oI : Obj) (uR : Option Value) (uK : Option Value) (uL : Option Value) (tW : Tok) (pv : List Value) (ep6 : Nat) (oT' : Obj) (uT : Option Value) (row : List Nat) (aR : Addr) (vsR : List Value) (epR : Nat) (ws : List (List Nat)), T_D1 xD1_1 i h7 tk7 I oI uR uK uL tW pv ep6 oT' uT row aR vsR epR ws) → (∀ (xC2_1 : Heap) (h7 : Heap) (tk7 : Nat) (uR : Option Value) (uK : Option Value) (uL : Option Value) (tW : Tok) (pv : List Value) (ep6 : Nat) (oT' : Obj) (uT : Option Value), T_C2 xC2_1 h7 tk7 uR uK uL tW pv ep6 oT' uT) → cap_B2.1 t0 t5 k5 h5 tk5 ep5) := ⟨_, _, by
  intro K_D1 K_C2
  intro G hg hA hu hq hn hn5 hm3 hqm hix htl hR hM gM hmv hm hcd post hL G' hbut hnone xB2_1 l1 dT xA1_1 xA1_2 xA1_3 xB2_2 hlt XX T dX dQ dM hqq hcd' xC1_1 hcells hrg xB2_8 r1 r2 hp hRd hLs hseg hseg4 o3 hMl hm0 hs0 hD3 hnc hb5 F5 N5
  dsimp only [List.cons_append, List.nil_append] at N5
  iterate 5 walk_at "go"
  refine for_open ?_
  iterate 1 walk_at "go"
  with_reducible rename Fr _ _ _ _ => F6
  with_reducible rename News _ _ _ _ => N6
  refine for_list (k := ys.length) (fun i l nw => ∃ uR uK uL tW pv ep6 oT', l = [(Str.ofString "row", uR), (Str.ofString "waiting", some (.int ((q ^ i : Nat) : Int) tW)), (Str.ofString "k", uK), (Str.ofString "letters", uL)] ∧
    nw = (D3, LCg.lst ys) :: (L + 1 + 1 + 1 + 1, oT') :: (L + 1 + 1 + 1, oM) :: (L + 1 + 1, oQ) :: (L + 1, oX) :: (P.objs p tp1 ea (lineAt cs p) tl1 pv ep6 ++ seg) ∧ (∃ u, oT'.data = .cell u) ∧
    StrsAre pv (((((idxs.map (lets q)).take i).foldl (spread q) [List.replicate n 0])).map (wordS q))) rfl (by k_mem) F6 N6 [Str.ofString "row", Str.ofString "waiting", Str.ofString "k", Str.ofString "letters"] ?_ ?_ ?_ ?_
  · exact ⟨_, _, _, _, _, _, _, rfl, rfl, ⟨_, dT⟩, .cons _ _ .nil⟩
  · intro i l nw H_
    refine hideC fun D_ K_ => ?_
    obtain ⟨uR, uK, uL, tW, pv, ep6, oT', e3_, e4_, _, _⟩ := H_
    refine K_ ?_
    clear K_ D_
    subst e3_
    subst e4_
    exact .head _
  · intro i v l nw h7 tk7 I oI hi hv H_
    refine hideC fun D_ K_ => ?_
    obtain ⟨uR, uK, uL, tW, pv, ep6, oT', e5_, e6_, ⟨uT, dT'⟩, hpv⟩ := H_
    refine K_ ?_
    clear K_ D_
    subst e5_
    subst e6_
    intro hne hlt7 F7 N7
    clear F6 N6
    have hyl := hLs.1
    rw [List.take_length, List.length_map] at hyl
    rw [List.take_length] at hLs
    have hi' : i < idxs.length := by omega
    obtain ⟨row, hrow⟩ : ∃ row, (idxs.map (lets q))[i]? = some row := ⟨_, List.getElem?_eq_getElem (by rw [List.length_map]; exact hi')⟩
    refine hideC fun D_ K_ => ?_
    obtain ⟨aR, vsR, epR, eR, mR, iR⟩ := hLs.2 i row hrow
    refine K_ ?_
    clear K_ D_
    have hva : v = .ref aR := by rw [hv] at eR; exact Option.some.inj eR
    subst hva
    have hrowm : row ∈ idxs.map (lets q) := List.mem_of_getElem? hrow
    have hrl : row.length = n ∧ ∀ a ∈ row, a < q := by
      obtain ⟨r0, hr0, rfl⟩ := List.mem_map.mp hrowm
      exact ⟨by rw [lets, List.length_map]; exact (hix r0 hr0).1, lets_lt (by omega) _⟩
    generalize hws : ((idxs.map (lets q)).take i).foldl (spread q) [List.replicate n 0] = ws at hpv
    have hwl : ws.length = q ^ i := by
      rw [← hws, foldl_spread_length, List.length_singleton, Nat.one_mul, List.length_take, List.length_map, Nat.min_eq_left (by omega)]
    have hqi : q ^ i ≤ 9 := Nat.le_trans (Nat.pow_le_pow_right (by omega) (by omega)) hqm
    have hwn : ∀ w ∈ ws, w.length = n := by
      rw [← hws]
      refine fold_len _ _ (fun r hr => ?_) (fun w hw => by rw [List.mem_singleton.mp hw]; simp)
      obtain ⟨r0, hr0, rfl⟩ := List.mem_map.mp (List.mem_of_mem_take hr)
      rw [lets, List.length_map]; exact (hix r0 hr0).1
    have hwq : ∀ w ∈ ws, ∀ a ∈ w, a < q := by
      rw [← hws]
      exact fold_lt (by omega) _ _ (fun w hw a ha => by
        rw [List.mem_singleton.mp hw] at ha
        rw [(List.mem_replicate.mp ha).2]; omega)
    have hIa : I ∉ P.addrs := fun hin => by
      obtain ⟨o, ho⟩ := addr_obj P (p := p) (tp := tp1) (ea := ea) (line := lineAt cs p) (tl := tl1) (pv := pv) (ep := ep6) hin
      exact hne _ (List.mem_append_right [(D3, LCg.lst ys), (L + 1 + 1 + 1 + 1, oT'), (L + 1 + 1 + 1, oM), (L + 1 + 1, oQ), (L + 1, oX)] (List.mem_append_left seg ho)) rfl
    rename_i xD1_1
    revert G hg hA hu hq hn hn5 hm3 hqm hix htl hR hM gM hmv hm hcd post hL G' hbut hnone l1 dT xA1_1 xA1_2 xA1_3 hlt XX T dX dQ dM hqq hcd' xC1_1 hcells hrg xB2_8 r1 r2 hp hRd hLs hseg hseg4 o3 hMl hm0 hs0 hD3 hnc hb5 hi dT' hne hlt7 F7 N7 hyl hi' hrow eR mR iR hv hrowm hrl hws hpv hwl hqi hwn hwq hIa
    exact K_D1 xD1_1 i h7 tk7 I oI uR uK uL tW pv ep6 oT' uT row aR vsR epR ws
  · intro l nw h7 tk7 H_
    refine hideC fun D_ K_ => ?_
    obtain ⟨uR, uK, uL, tW, pv, ep6, oT', e15_, e16_, ⟨uT, dT'⟩, hpv⟩ := H_
    refine K_ ?_
    clear K_ D_
    subst e15_
    subst e16_
    intro F7 N7
    clear F6 N6
    dsimp only
    dsimp only [LexP.objs, List.cons_append, List.nil_append] at N7
    rename_i xC2_1
    revert G hg hA hu hq hn hn5 hm3 hqm hix htl hR hM gM hmv hm hcd post hL G' hbut hnone l1 dT xA1_1 xA1_2 xA1_3 hlt XX T dX dQ dM hqq hcd' xC1_1 hcells hrg xB2_8 r1 r2 hp hRd hLs hseg hseg4 o3 hMl hm0 hs0 hD3 hnc hb5 hpv dT' F7 N7
    exact K_C2 xC2_1 h7 tk7 uR uK uL tW pv ep6 oT' uT⟩
namespace D1
noncomputable abbrev Par : Type := (Heap) × (Nat) × (Heap) × (Nat) × (Addr) × (Obj) × (Option Value) × (Option Value) × (Option Value) × (Tok) × (List Value) × (Nat) × (Obj) × (Option Value) × (List Nat) × (Addr) × (List Value) × (Nat) × (List (List Nat))
noncomputable def P1 (p : Par) : Prop := cap_C1.1 p.1 p.2.1 p.2.2.1 p.2.2.2.1 p.2.2.2.2.1 p.2.2.2.2.2.1 p.2.2.2.2.2.2.1 p.2.2.2.2.2.2.2.1 p.2.2.2.2.2.2.2.2.1 p.2.2.2.2.2.2.2.2.2.1 p.2.2.2.2.2.2.2.2.2.2.1 p.2.2.2.2.2.2.2.2.2.2.2.1 p.2.2.2.2.2.2.2.2.2.2.2.2.1 p.2.2.2.2.2.2.2.2.2.2.2.2.2.1 p.2.2.2.2.2.2.2.2.2.2.2.2.2.2.1 p.2.2.2.2.2.2.2.2.2.2.2.2.2.2.2.1 p.2.2.2.2.2.2.2.2.2.2.2.2.2.2.2.2.1 p.2.2.2.2.2.2.2.2.2.2.2.2.2.2.2.2.2.1 p.2.2.2.2.2.2.2.2.2.2.2.2.2.2.2.2.2.2
theorem some_par : Nonempty Par := ⟨⟨default, 0, default, 0, 0, { cls := .none, data := .seq #[] }, none, none, none, 0, [], 0, { cls := .none, data := .seq #[] }, none, [], 0, [], 0, []⟩⟩
@[irreducible] noncomputable def cc : Par := @Classical.epsilon Par some_par fun p => ¬ P1 p
@[irreducible] noncomputable def xD1_1 : Heap := by with_unfolding_all exact cc.1
@[irreducible] noncomputable def i : Nat := by with_unfolding_all exact cc.2.1
@[irreducible] noncomputable def h7 : Heap := by with_unfolding_all exact cc.2.2.1
@[irreducible] noncomputable def tk7 : Nat := by with_unfolding_all exact cc.2.2.2.1
@[irreducible] noncomputable def I : Addr := by with_unfolding_all exact cc.2.2.2.2.1
@[irreducible] noncomputable def oI : Obj := by with_unfolding_all exact cc.2.2.2.2.2.1
@[irreducible] noncomputable def uR : Option Value := by with_unfolding_all exact cc.2.2.2.2.2.2.1
@[irreducible] noncomputable def uK : Option Value := by with_unfolding_all exact cc.2.2.2.2.2.2.2.1
@[irreducible] noncomputable def uL : Option Value := by with_unfolding_all exact cc.2.2.2.2.2.2.2.2.1
@[irreducible] noncomputable def tW : Tok := by with_unfolding_all exact cc.2.2.2.2.2.2.2.2.2.1
@[irreducible] noncomputable def pv : List Value := by with_unfolding_all exact cc.2.2.2.2.2.2.2.2.2.2.1
@[irreducible] noncomputable def ep6 : Nat := by with_unfolding_all exact cc.2.2.2.2.2.2.2.2.2.2.2.1
@[irreducible] noncomputable def oT' : Obj := by with_unfolding_all exact cc.2.2.2.2.2.2.2.2.2.2.2.2.1
@[irreducible] noncomputable def uT : Option Value := by with_unfolding_all exact cc.2.2.2.2.2.2.2.2.2.2.2.2.2.1
@[irreducible] noncomputable def row : List Nat := by with_unfolding_all exact cc.2.2.2.2.2.2.2.2.2.2.2.2.2.2.1
@[irreducible] noncomputable def aR : Addr := by with_unfolding_all exact cc.2.2.2.2.2.2.2.2.2.2.2.2.2.2.2.1
@[irreducible] noncomputable def vsR : List Value := by with_unfolding_all exact cc.2.2.2.2.2.2.2.2.2.2.2.2.2.2.2.2.1
@[irreducible] noncomputable def epR : Nat := by with_unfolding_all exact cc.2.2.2.2.2.2.2.2.2.2.2.2.2.2.2.2.2.1
@[irreducible] noncomputable def ws : List (List Nat) := by with_unfolding_all exact cc.2.2.2.2.2.2.2.2.2.2.2.2.2.2.2.2.2.2
noncomputable def cap_D1 : (T_E1 : (Heap) → (Nat) → (Heap) → (Nat) → (Tok) → (Tok) → (Tok) → (Nat) → (Tok) → (Heap) → (Nat) → (Addr) → (Obj) → (Option Value) → (Option Value) → (Nat) → (Obj) → (Option Value) → (List Nat) → (List Value) → (Tok) → Prop) ×' (T_D2 : (Heap) → (Nat) → (Heap) → (Nat) → (Tok) → (Tok) → (Tok) → (Heap) → (Nat) → (Option Value) → (Option Value) → (List Value) → (Nat) → (Obj) → (Option Value) → Prop) ×' ((∀ (xE1_1 : Heap) (tk : Nat) (xE1_4 : Heap) (xE1_5 : Nat) (xE1_6 : Tok) (xE1_7 : Tok) (xE1_8 : Tok) (kk : Nat) (tK : Tok) (h9 : Heap) (tk9 : Nat) (I2 : Addr) (oI2 : Obj) (uK2 : Option Value) (uL2 : Option Value) (ep7 : Nat) (oT2 : Obj) (uT2 : Option Value) (w0 : List Nat) (pv3 : List Value) (tv0 : Tok), T_E1 xE1_1 tk xE1_4 xE1_5 xE1_6 xE1_7 xE1_8 kk tK h9 tk9 I2 oI2 uK2 uL2 ep7 oT2 uT2 w0 pv3 tv0) → (∀ (xD2_1 : Heap) (tk : Nat) (xD2_4 : Heap) (xD2_5 : Nat) (xD2_6 : Tok) (xD2_7 : Tok) (xD2_8 : Tok) (h13 : Heap) (tk13 : Nat) (uK2 : Option Value) (uL2 : Option Value) (pv4 : List Value) (ep13 : Nat) (oT3 : Obj) (uT3 : Option Value), T_D2 xD2_1 tk xD2_4 xD2_5 xD2_6 xD2_7 xD2_8 h13 tk13 uK2 uL2 pv4 ep13 oT3 uT3) → cap_C1.1 xD1_1 i h7 tk7 I oI uR uK uL tW pv ep6 oT' uT row aR vsR epR ws) := ⟨_, _, by
  intro K_E1 K_D2
  intro G hg hA hu hq hn hn5 hm3 hqm hix htl hR hM gM hmv hm hcd post hL G' hbut hnone l1 dT xA1_1 xA1_2 xA1_3 hlt XX T dX dQ dM hqq hcd' xC1_1 hcells hrg xB2_8 r1 r2 hp hRd hLs hseg hseg4 o3 hMl hm0 hs0 hD3 hnc hb5 hi dT' hne hlt7 F7 N7 hyl hi' hrow eR mR iR hv hrowm hrl hws hpv hwl hqi hwn hwq hIa
  iterate 12 walk_at "go"
  obtain ⟨r3, r4⟩ := range_ok (b := ((q ^ i : Nat) : Int)) (n := q ^ i) rfl (by omega)
  with_reducible rename IsRange _ _ _ _ _ _ _ _ => hrg2
  with_reducible rename Fr _ _ _ _ => F8
  with_reducible rename News _ _ _ _ => N8
  refine for_range (fun kk l nw => ∃ uK uL pv ep oT', l = [(Str.ofString "k", uK), (Str.ofString "letters", uL)] ∧
    nw = (I, oI) :: (D3, LCg.lst ys) :: (L + 1 + 1 + 1 + 1, oT') :: (L + 1 + 1 + 1, oM) :: (L + 1 + 1, oQ) :: (L + 1, oX) :: (P.objs p tp1 ea (lineAt cs p) tl1 pv ep ++ seg) ∧ (∃ u, oT'.data = .cell u) ∧
    StrsAre pv ((ws.drop kk ++ spread q (ws.take kk) row).map (wordS q))) rfl hrg2 r3 r4 F8 N8 [Str.ofString "k", Str.ofString "letters"] ?_ ?_ ?_
  · exact ⟨_, _, pv, ep6, oT', rfl, rfl, ⟨_, dT'⟩, by simpa [spread] using hpv⟩
  · intro kk tK l nw h9 tk9 I2 oI2 hkk H_
    refine hideC fun D_ K_ => ?_
    obtain ⟨uK2, uL2, pv2, ep7, oT2, e7_, e8_, ⟨uT2, dT2⟩, hpv2⟩ := H_
    refine K_ ?_
    clear K_ D_
    subst e7_
    subst e8_
    intro hne9 hlt9 F9 N9
    clear F8 N8
    have hkw : kk < ws.length := by omega
    obtain ⟨w0, hw0⟩ : ∃ w0, ws.drop kk = w0 :: ws.drop (kk + 1) := ⟨ws[kk], List.drop_eq_getElem_cons hkw⟩
    have hw0m : w0 ∈ ws := List.mem_of_mem_drop (by rw [hw0]; exact .head _)
    have hw0l := hwn w0 hw0m
    have hw0q := hwq w0 hw0m
    rw [hw0, List.cons_append, List.map_cons] at hpv2
    obtain ⟨v0, pv3, rfl⟩ : ∃ v0 pv3, pv2 = v0 :: pv3 := by
      cases hpv2 with
      | cons y t r => exact ⟨_, _, rfl⟩
    obtain ⟨tv0, hv0, hpv3⟩ : ∃ tv0, v0 = Value.str (wordS q w0) tv0 ∧ StrsAre pv3 ((ws.drop (kk + 1) ++ spread q (ws.take kk) row).map (wordS q)) := by
      cases hpv2 with
      | cons y t r => exact ⟨t, rfl, r⟩
    subst hv0
    have hlenp : ∀ {vs : List Value} {xs : List Str}, StrsAre vs xs → vs.length = xs.length := fun h => by
      induction h with
      | nil => rfl
      | cons _ _ _ ih => simp [ih]
    have hpl3 : pv3.length < 500 := by
      rw [hlenp hpv3, List.length_map, List.length_append, spread_length, List.length_drop, List.length_take]
      have : min kk ws.length * q ≤ 9 * 3 := Nat.mul_le_mul (by omega) (by omega)
      omega
    have hI2a : I2 ∉ P.addrs := fun hin => by
      obtain ⟨o, ho⟩ := addr_obj P (p := p) (tp := tp1) (ea := ea) (line := lineAt cs p) (tl := tl1) (pv := Value.str (wordS q w0) tv0 :: pv3) (ep := ep7) hin
      exact hne9 _ (List.mem_append_right [(I, oI), (D3, LCg.lst ys), (L + 1 + 1 + 1 + 1, oT2), (L + 1 + 1 + 1, oM), (L + 1 + 1, oQ), (L + 1, oX)] (List.mem_append_left seg ho)) rfl
    dsimp only [LexP.objs, List.cons_append, List.nil_append] at N9
    rename_i xE1_1 xE1_2 xE1_3 xE1_4 xE1_5 xE1_6 xE1_7 xE1_8 xE1_9
    revert G hg hA hu hq hn hn5 hm3 hqm hix htl hR hM gM hmv hm hcd post hL G' hbut hnone l1 dT xA1_1 xA1_2 xA1_3 hlt XX T dX dQ dM hqq hcd' xC1_1 hcells hrg xB2_8 r1 r2 hp hRd hLs hseg hseg4 o3 hMl hm0 hs0 hD3 hnc hb5 hi dT' hne hlt7 F7 N7 hyl hi' hrow eR mR iR hv hrowm hrl hws hpv hwl hqi hwn hwq hIa xE1_2 xE1_3 hrg2 xE1_9 r3 r4 hkk dT2 hlt9 F9 hkw hw0 hw0m hw0l hw0q hpv3 hne9 N9 hpv2 hlenp hpl3 hI2a
    exact K_E1 xE1_1 tk xE1_4 xE1_5 xE1_6 xE1_7 xE1_8 kk tK h9 tk9 I2 oI2 uK2 uL2 ep7 oT2 uT2 w0 pv3 tv0
  · intro l nw h13 tk13 H_
    refine hideC fun D_ K_ => ?_
    obtain ⟨uK2, uL2, pv4, ep13, oT3, e13_, e14_, ⟨uT3, dT3⟩, hpv4⟩ := H_
    refine K_ ?_
    clear K_ D_
    subst e13_
    subst e14_
    intro F13 N13
    dsimp only
    rename_i xD2_1 xD2_2 xD2_3 xD2_4 xD2_5 xD2_6 xD2_7 xD2_8 xD2_9
    revert G hg hA hu hq hn hn5 hm3 hqm hix htl hR hM gM hmv hm hcd post hL G' hbut hnone l1 dT xA1_1 xA1_2 xA1_3 hlt XX T dX dQ dM hqq hcd' xC1_1 hcells hrg xB2_8 r1 r2 hp hRd hLs hseg hseg4 o3 hMl hm0 hs0 hD3 hnc hb5 hi dT' hne hlt7 F7 N7 hyl hi' hrow eR mR iR hv hrowm hrl hws hpv hwl hqi hwn hwq hIa xD2_2 xD2_3 hrg2 F8 N8 xD2_9 r3 r4 hpv4 dT3 F13 N13
    exact K_D2 xD2_1 tk xD2_4 xD2_5 xD2_6 xD2_7 xD2_8 h13 tk13 uK2 uL2 pv4 ep13 oT3 uT3⟩
namespace E1
noncomputable abbrev Par : Type := (Heap) × (Nat) × (Heap) × (Nat) × (Tok) × (Tok) × (Tok) × (Nat) × (Tok) × (Heap) × (Nat) × (Addr) × (Obj) × (Option Value) × (Option Value) × (Nat) × (Obj) × (Option Value) × (List Nat) × (List Value) × (Tok)
noncomputable def P1 (p : Par) : Prop := cap_D1.1 p.1 p.2.1 p.2.2.1 p.2.2.2.1 p.2.2.2.2.1 p.2.2.2.2.2.1 p.2.2.2.2.2.2.1 p.2.2.2.2.2.2.2.1 p.2.2.2.2.2.2.2.2.1 p.2.2.2.2.2.2.2.2.2.1 p.2.2.2.2.2.2.2.2.2.2.1 p.2.2.2.2.2.2.2.2.2.2.2.1 p.2.2.2.2.2.2.2.2.2.2.2.2.1 p.2.2.2.2.2.2.2.2.2.2.2.2.2.1 p.2.2.2.2.2.2.2.2.2.2.2.2.2.2.1 p.2.2.2.2.2.2.2.2.2.2.2.2.2.2.2.1 p.2.2.2.2.2.2.2.2.2.2.2.2.2.2.2.2.1 p.2.2.2.2.2.2.2.2.2.2.2.2.2.2.2.2.2.1 p.2.2.2.2.2.2.2.2.2.2.2.2.2.2.2.2.2.2.1 p.2.2.2.2.2.2.2.2.2.2.2.2.2.2.2.2.2.2.2.1 p.2.2.2.2.2.2.2.2.2.2.2.2.2.2.2.2.2.2.2.2
theorem some_par : Nonempty Par := ⟨⟨default, 0, default, 0, 0, 0, 0, 0, 0, default, 0, 0, { cls := .none, data := .seq #[] }, none, none, 0, { cls := .none, data := .seq #[] }, none, [], [], 0⟩⟩
@[irreducible] noncomputable def cc : Par := @Classical.epsilon Par some_par fun p => ¬ P1 p
@[irreducible] noncomputable def xE1_1 : Heap := by with_unfolding_all exact cc.1
@[irreducible] noncomputable def tk : Nat := by with_unfolding_all exact cc.2.1
@[irreducible] noncomputable def xE1_4 : Heap := by with_unfolding_all exact cc.2.2.1
@[irreducible] noncomputable def xE1_5 : Nat := by with_unfolding_all exact cc.2.2.2.1
@[irreducible] noncomputable def xE1_6 : Tok := by with_unfolding_all exact cc.2.2.2.2.1
@[irreducible] noncomputable def xE1_7 : Tok := by with_unfolding_all exact cc.2.2.2.2.2.1
@[irreducible] noncomputable def xE1_8 : Tok := by with_unfolding_all exact cc.2.2.2.2.2.2.1
@[irreducible] noncomputable def kk : Nat := by with_unfolding_all exact cc.2.2.2.2.2.2.2.1
@[irreducible] noncomputable def tK : Tok := by with_unfolding_all exact cc.2.2.2.2.2.2.2.2.1
@[irreducible] noncomputable def h9 : Heap := by with_unfolding_all exact cc.2.2.2.2.2.2.2.2.2.1
@[irreducible] noncomputable def tk9 : Nat := by with_unfolding_all exact cc.2.2.2.2.2.2.2.2.2.2.1
@[irreducible] noncomputable def I2 : Addr := by with_unfolding_all exact cc.2.2.2.2.2.2.2.2.2.2.2.1
@[irreducible] noncomputable def oI2 : Obj := by with_unfolding_all exact cc.2.2.2.2.2.2.2.2.2.2.2.2.1
@[irreducible] noncomputable def uK2 : Option Value := by with_unfolding_all exact cc.2.2.2.2.2.2.2.2.2.2.2.2.2.1
@[irreducible] noncomputable def uL2 : Option Value := by with_unfolding_all exact cc.2.2.2.2.2.2.2.2.2.2.2.2.2.2.1
@[irreducible] noncomputable def ep7 : Nat := by with_unfolding_all exact cc.2.2.2.2.2.2.2.2.2.2.2.2.2.2.2.1
@[irreducible] noncomputable def oT2 : Obj := by with_unfolding_all exact cc.2.2.2.2.2.2.2.2.2.2.2.2.2.2.2.2.1
@[irreducible] noncomputable def uT2 : Option Value := by with_unfolding_all exact cc.2.2.2.2.2.2.2.2.2.2.2.2.2.2.2.2.2.1
@[irreducible] noncomputable def w0 : List Nat := by with_unfolding_all exact cc.2.2.2.2.2.2.2.2.2.2.2.2.2.2.2.2.2.2.1
@[irreducible] noncomputable def pv3 : List Value := by with_unfolding_all exact cc.2.2.2.2.2.2.2.2.2.2.2.2.2.2.2.2.2.2.2.1
@[irreducible] noncomputable def tv0 : Tok := by with_unfolding_all exact cc.2.2.2.2.2.2.2.2.2.2.2.2.2.2.2.2.2.2.2.2
noncomputable def cap_E1 : (T_E2 : (Heap) → (Nat) → (Heap) → (Nat) → (Nat) → (Heap) → (Nat) → (Addr) → (List Value) → (Nat) → Prop) ×' ((∀ (xE2_1 : Heap) (tk : Nat) (h10 : Heap) (tk10 : Nat) (ep10 : Nat) (h11 : Heap) (tk11 : Nat) (rL : Addr) (vsL : List Value) (epL : Nat), T_E2 xE2_1 tk h10 tk10 ep10 h11 tk11 rL vsL epL) → cap_D1.1 xE1_1 tk xE1_4 xE1_5 xE1_6 xE1_7 xE1_8 kk tK h9 tk9 I2 oI2 uK2 uL2 ep7 oT2 uT2 w0 pv3 tv0) := ⟨_, by
  intro K_E2
  intro G hg hA hu hq hn hn5 hm3 hqm hix htl hR hM gM hmv hm hcd post hL G' hbut hnone l1 dT xA1_1 xA1_2 xA1_3 hlt XX T dX dQ dM hqq hcd' xC1_1 hcells hrg xB2_8 r1 r2 hp hRd hLs hseg hseg4 o3 hMl hm0 hs0 hD3 hnc hb5 hi dT' hne hlt7 F7 N7 hyl hi' hrow eR mR iR hv hrowm hrl hws hpv hwl hqi hwn hwq hIa xE1_2 xE1_3 hrg2 xE1_9 r3 r4 hkk dT2 hlt9 F9 hkw hw0 hw0m hw0l hw0q hpv3 hne9 N9 hpv2 hlenp hpl3 hI2a
  iterate 13 walk_at "go"
  with_reducible rename Fr _ _ _ _ => F9
  with_reducible rename News _ _ _ _ => N9
  refine pop_use (pre := (I2, oI2) :: (I, oI) :: (D3, LCg.lst ys) :: (L + 1 + 1 + 1 + 1, oT2) :: (L + 1 + 1 + 1, oM) :: (L + 1 + 1, oQ) :: (L + 1, oX) :: seg) (p := p) (tp := tp1) (tl := tl1) (ea := ea) (ep := ep7) (line := lineAt cs p) (pv := pv3) G' F9 P (fun x hx => N9 x (mem_swap (a := [(I2, oI2), (I, oI), (D3, LCg.lst ys), (L + 1 + 1 + 1 + 1, oT2), (L + 1 + 1 + 1, oM), (L + 1 + 1, oQ), (L + 1, oX)]) hx)) (notin_cons hI2a (notin_cons hIa (hnc D3 _ _ hD3))) (by show dep + 1 ≤ 700; omega) (by show uni + 3 ≤ 4000; omega) rfl (by omega) ?_
  intro h10 tk10 ep10 hb10 F10 N10
  replace N10 : News g' L h10 ([(I2, oI2), (I, oI), (D3, LCg.lst ys), (L + 1 + 1 + 1 + 1, oT2), (L + 1 + 1 + 1, oM), (L + 1 + 1, oQ), (L + 1, oX)] ++ (P.objs p tp1 ea (lineAt cs p) tl1 pv3 ep10 ++ seg)) := fun x hx => N10 x (mem_swap hx)
  clear F9 N9
  dsimp only [List.cons_append, List.nil_append] at N10
  iterate 4 walk_at "go"
  refine letters_use (idx := enc q w0) G' F10 N10 (by show dep + 1 ≤ 700; omega) (by show uni + 3 ≤ 4000; omega) rfl (enc_lt hq hw0q) (by rw [enc_length]; omega) hqq.1 hqq.2 ?_
  intro h11 tk11 rL vsL epL hs11 F11 N11 hne11 hI11
  clear F10 N10
  have hI11 : IntsAre vsL (w0.map Int.ofNat) := by
    have := lets_enc hq hw0q
    unfold lets at this
    rw [this] at hI11; exact hI11
  have hrLa : rL ∉ P.addrs := fun hin => by
    obtain ⟨o, ho⟩ := addr_obj P (p := p) (tp := tp1) (ea := ea) (line := lineAt cs p) (tl := tl1) (pv := pv3) (ep := ep10) hin
    exact hne11 _ (List.mem_append_right [(I2, oI2), (I, oI), (D3, LCg.lst ys), (L + 1 + 1 + 1 + 1, oT2), (L + 1 + 1 + 1, oM), (L + 1 + 1, oQ), (L + 1, oX)] (List.mem_append_left seg ho)) rfl
  (try dsimp only [LexP.objs, List.cons_append, List.nil_append] at N11)
  rename_i xE2_1 xE2_2
  revert G hg hA hu hq hn hn5 hm3 hqm hix htl hR hM gM hmv hm hcd post hL G' hbut hnone l1 dT xA1_1 xA1_2 xA1_3 hlt XX T dX dQ dM hqq hcd' xC1_1 hcells hrg xB2_8 r1 r2 hp hRd hLs hseg hseg4 o3 hMl hm0 hs0 hD3 hnc hb5 hi dT' hne hlt7 F7 N7 hyl hi' hrow eR mR iR hv hrowm hrl hws hpv hwl hqi hwn hwq hIa hrg2 xE1_9 r3 r4 hkk dT2 hlt9 F9 hkw hw0 hw0m hw0l hw0q hpv3 hne9 N9 hpv2 hlenp hpl3 hI2a hb10 hs11 F11 N11 hne11 xE2_2 hI11 hrLa
  exact K_E2 xE2_1 tk h10 tk10 ep10 h11 tk11 rL vsL epL⟩
namespace E2
noncomputable abbrev Par : Type := (Heap) × (Nat) × (Heap) × (Nat) × (Nat) × (Heap) × (Nat) × (Addr) × (List Value) × (Nat)
noncomputable def P1 (p : Par) : Prop := cap_E1.1 p.1 p.2.1 p.2.2.1 p.2.2.2.1 p.2.2.2.2.1 p.2.2.2.2.2.1 p.2.2.2.2.2.2.1 p.2.2.2.2.2.2.2.1 p.2.2.2.2.2.2.2.2.1 p.2.2.2.2.2.2.2.2.2
theorem some_par : Nonempty Par := ⟨⟨default, 0, default, 0, 0, default, 0, 0, [], 0⟩⟩
@[irreducible] noncomputable def cc : Par := @Classical.epsilon Par some_par fun p => ¬ P1 p
@[irreducible] noncomputable def xE2_1 : Heap := by with_unfolding_all exact cc.1
@[irreducible] noncomputable def tk : Nat := by with_unfolding_all exact cc.2.1
@[irreducible] noncomputable def h10 : Heap := by with_unfolding_all exact cc.2.2.1
@[irreducible] noncomputable def tk10 : Nat := by with_unfolding_all exact cc.2.2.2.1
@[irreducible] noncomputable def ep10 : Nat := by with_unfolding_all exact cc.2.2.2.2.1
@[irreducible] noncomputable def h11 : Heap := by with_unfolding_all exact cc.2.2.2.2.2.1
@[irreducible] noncomputable def tk11 : Nat := by with_unfolding_all exact cc.2.2.2.2.2.2.1
@[irreducible] noncomputable def rL : Addr := by with_unfolding_all exact cc.2.2.2.2.2.2.2.1
@[irreducible] noncomputable def vsL : List Value := by with_unfolding_all exact cc.2.2.2.2.2.2.2.2.1
@[irreducible] noncomputable def epL : Nat := by with_unfolding_all exact cc.2.2.2.2.2.2.2.2.2
noncomputable def cap_E2 : (T_G1 : (Heap) → (Nat) → (Heap) → (Nat) → (Tok) → (Tok) → (Tok) → (Nat) → (Tok) → (Heap) → (Nat) → (Addr) → (Obj) → (List Value) → (Nat) → (Obj) → (Option Value) → Prop) ×' (T_E3 : (Heap) → (Nat) → (Heap) → (Nat) → (Tok) → (Tok) → (Tok) → (Heap) → (Nat) → (List Value) → (Nat) → (Obj) → (Option Value) → Prop) ×' ((∀ (xG1_1 : Heap) (tk : Nat) (xG1_4 : Heap) (xG1_5 : Nat) (xG1_6 : Tok) (xG1_7 : Tok) (xG1_8 : Tok) (tt : Nat) (tT : Tok) (h13 : Heap) (tk13 : Nat) (I3 : Addr) (oI3 : Obj) (pv4 : List Value) (ep13 : Nat) (oT3 : Obj) (uT3 : Option Value), T_G1 xG1_1 tk xG1_4 xG1_5 xG1_6 xG1_7 xG1_8 tt tT h13 tk13 I3 oI3 pv4 ep13 oT3 uT3) → (∀ (xE3_1 : Heap) (tk : Nat) (xE3_4 : Heap) (xE3_5 : Nat) (xE3_6 : Tok) (xE3_7 : Tok) (xE3_8 : Tok) (h13 : Heap) (tk13 : Nat) (pv4 : List Value) (ep13 : Nat) (oT3 : Obj) (uT3 : Option Value), T_E3 xE3_1 tk xE3_4 xE3_5 xE3_6 xE3_7 xE3_8 h13 tk13 pv4 ep13 oT3 uT3) → cap_E1.1 xE2_1 tk h10 tk10 ep10 h11 tk11 rL vsL epL) := ⟨_, _, by
  intro K_G1 K_E3
  intro G hg hA hu hq hn hn5 hm3 hqm hix htl hR hM gM hmv hm hcd post hL G' hbut hnone l1 dT xA1_1 xA1_2 xA1_3 hlt XX T dX dQ dM hqq hcd' xC1_1 hcells hrg xB2_8 r1 r2 hp hRd hLs hseg hseg4 o3 hMl hm0 hs0 hD3 hnc hb5 hi dT' hne hlt7 F7 N7 hyl hi' hrow eR mR iR hv hrowm hrl hws hpv hwl hqi hwn hwq hIa hrg2 xE1_9 r3 r4 hkk dT2 hlt9 F9 hkw hw0 hw0m hw0l hw0q hpv3 hne9 N9 hpv2 hlenp hpl3 hI2a hb10 hs11 F11 N11 hne11 xE2_2 hI11 hrLa
  iterate 11 walk_at "go"
  obtain ⟨r5, r6⟩ := range_ok (b := (q : Int)) (n := q) rfl (by omega)
  with_reducible rename IsRange _ _ _ _ _ _ _ _ => hrg3
  with_reducible rename Fr _ _ _ _ => F12
  with_reducible rename News _ _ _ _ => N12
  refine for_range (fun tt l nw => ∃ pv ep oT', l = [] ∧
    nw = (rL, listOf vsL.toArray epL) :: (I2, oI2) :: (I, oI) :: (D3, LCg.lst ys) :: (L + 1 + 1 + 1 + 1, oT') :: (L + 1 + 1 + 1, oM) :: (L + 1 + 1, oQ) :: (L + 1, oX) :: (P.objs p tp1 ea (lineAt cs p) tl1 pv ep ++ seg) ∧ (∃ u, oT'.data = .cell u) ∧
    StrsAre pv (((ws.drop (kk + 1) ++ spread q (ws.take kk) row) ++ (List.range tt).map fun t => addRow q w0 row t).map (wordS q))) rfl hrg3 r5 r6 F12 N12 [] ?_ ?_ ?_
  · exact ⟨pv3, ep10, oT2, rfl, rfl, ⟨_, dT2⟩, by simpa using hpv3⟩
  · intro tt tT l nw h13 tk13 I3 oI3 htt H_
    refine hideC fun D_ K_ => ?_
    obtain ⟨pv4, ep13, oT3, e9_, e10_, ⟨uT3, dT3⟩, hpv4⟩ := H_
    refine K_ ?_
    clear K_ D_
    subst e9_
    subst e10_
    intro hne13 hlt13 F13 N13
    rw [upd_nil] at F13
    clear F12 N12
    have hpl4 : pv4.length < 600 := by
      rw [hlenp hpv4, List.length_map, List.length_append, List.length_append, spread_length, List.length_drop, List.length_take, List.length_map, List.length_range]
      have : min kk ws.length * q ≤ 9 * 3 := Nat.mul_le_mul (by omega) (by omega)
      omega
    have hI3a : I3 ∉ P.addrs := fun hin => by
      obtain ⟨o, ho⟩ := addr_obj P (p := p) (tp := tp1) (ea := ea) (line := lineAt cs p) (tl := tl1) (pv := pv4) (ep := ep13) hin
      exact hne13 _ (List.mem_append_right [(rL, listOf vsL.toArray epL), (I2, oI2), (I, oI), (D3, LCg.lst ys), (L + 1 + 1 + 1 + 1, oT3), (L + 1 + 1 + 1, oM), (L + 1 + 1, oQ), (L + 1, oX)] (List.mem_append_left seg ho)) rfl
    dsimp only [LexP.objs, List.cons_append, List.nil_append] at N13
    have e1 : @Ne Nat I (L + 1 + 1 + 1 + 1) := fun z => hne (L + 1 + 1 + 1 + 1, oT') (by k_mem) z.symm
    have e2 : @Ne Nat I2 (L + 1 + 1 + 1 + 1) := fun z => hne9 (L + 1 + 1 + 1 + 1, oT2) (by k_mem) z.symm
    have e3 : @Ne Nat I3 (L + 1 + 1 + 1 + 1) := fun z => hne13 (L + 1 + 1 + 1 + 1, oT3) (by k_mem) z.symm
    have e4 : @Ne Nat rL (L + 1 + 1 + 1 + 1) := fun z => hne11 (L + 1 + 1 + 1 + 1, oT2) (by k_mem) z.symm
    have e5 : @Ne Nat D3 (L + 1 + 1 + 1 + 1) := fun z => off1_mem o3 (L + 1 + 1 + 1 + 1, oT) (by k_mem) z.symm
    rename_i xG1_1 xG1_2 xG1_3 xG1_4 xG1_5 xG1_6 xG1_7 xG1_8 xG1_9
    revert G hg hA hu hq hn hn5 hm3 hqm hix htl hR hM gM hmv hm hcd post hL G' hbut hnone l1 dT xA1_1 xA1_2 xA1_3 hlt XX T dX dQ dM hqq hcd' xC1_1 hcells hrg xB2_8 r1 r2 hp hRd hLs hseg hseg4 o3 hMl hm0 hs0 hD3 hnc hb5 hi dT' hne hlt7 F7 N7 hyl hi' hrow eR mR iR hv hrowm hrl hws hpv hwl hqi hwn hwq hIa hrg2 xE1_9 r3 r4 hkk dT2 hlt9 F9 hkw hw0 hw0m hw0l hw0q hpv3 hne9 N9 hpv2 hlenp hpl3 hI2a hb10 hs11 hne11 xE2_2 hI11 hrLa xG1_2 xG1_3 hrg3 xG1_9 r5 r6 htt hpv4 dT3 hne13 hlt13 F13 N13 hpl4 hI3a e1 e2 e3 e4 e5
    exact K_G1 xG1_1 tk xG1_4 xG1_5 xG1_6 xG1_7 xG1_8 tt tT h13 tk13 I3 oI3 pv4 ep13 oT3 uT3
  · intro l nw h13 tk13 H_
    refine hideC fun D_ K_ => ?_
    obtain ⟨pv4, ep13, oT3, e11_, e12_, ⟨uT3, dT3⟩, hpv4⟩ := H_
    refine K_ ?_
    clear K_ D_
    subst e11_
    subst e12_
    intro F13 N13
    rename_i xE3_1 xE3_2 xE3_3 xE3_4 xE3_5 xE3_6 xE3_7 xE3_8 xE3_9
    revert G hg hA hu hq hn hn5 hm3 hqm hix htl hR hM gM hmv hm hcd post hL G' hbut hnone l1 dT xA1_1 xA1_2 xA1_3 hlt XX T dX dQ dM hqq hcd' xC1_1 hcells hrg xB2_8 r1 r2 hp hRd hLs hseg hseg4 o3 hMl hm0 hs0 hD3 hnc hb5 hi dT' hne hlt7 F7 N7 hyl hi' hrow eR mR iR hv hrowm hrl hws hpv hwl hqi hwn hwq hIa hrg2 xE1_9 r3 r4 hkk dT2 hlt9 F9 hkw hw0 hw0m hw0l hw0q hpv3 hne9 N9 hpv2 hlenp hpl3 hI2a hb10 hs11 hne11 xE2_2 hI11 hrLa xE3_2 xE3_3 hrg3 F12 N12 xE3_9 r5 r6 hpv4 dT3 F13 N13
    exact K_E3 xE3_1 tk xE3_4 xE3_5 xE3_6 xE3_7 xE3_8 h13 tk13 pv4 ep13 oT3 uT3⟩
namespace G1
noncomputable abbrev Par : Type := (Heap) × (Nat) × (Heap) × (Nat) × (Tok) × (Tok) × (Tok) × (Nat) × (Tok) × (Heap) × (Nat) × (Addr) × (Obj) × (List Value) × (Nat) × (Obj) × (Option Value)
noncomputable def P1 (p : Par) : Prop := cap_E2.1 p.1 p.2.1 p.2.2.1 p.2.2.2.1 p.2.2.2.2.1 p.2.2.2.2.2.1 p.2.2.2.2.2.2.1 p.2.2.2.2.2.2.2.1 p.2.2.2.2.2.2.2.2.1 p.2.2.2.2.2.2.2.2.2.1 p.2.2.2.2.2.2.2.2.2.2.1 p.2.2.2.2.2.2.2.2.2.2.2.1 p.2.2.2.2.2.2.2.2.2.2.2.2.1 p.2.2.2.2.2.2.2.2.2.2.2.2.2.1 p.2.2.2.2.2.2.2.2.2.2.2.2.2.2.1 p.2.2.2.2.2.2.2.2.2.2.2.2.2.2.2.1 p.2.2.2.2.2.2.2.2.2.2.2.2.2.2.2.2
theorem some_par : Nonempty Par := ⟨⟨default, 0, default, 0, 0, 0, 0, 0, 0, default, 0, 0, { cls := .none, data := .seq #[] }, [], 0, { cls := .none, data := .seq #[] }, none⟩⟩
@[irreducible] noncomputable def cc : Par := @Classical.epsilon Par some_par fun p => ¬ P1 p
@[irreducible] noncomputable def xG1_1 : Heap := by with_unfolding_all exact cc.1
@[irreducible] noncomputable def tk : Nat := by with_unfolding_all exact cc.2.1
@[irreducible] noncomputable def xG1_4 : Heap := by with_unfolding_all exact cc.2.2.1
@[irreducible] noncomputable def xG1_5 : Nat := by with_unfolding_all exact cc.2.2.2.1
@[irreducible] noncomputable def xG1_6 : Tok := by with_unfolding_all exact cc.2.2.2.2.1
@[irreducible] noncomputable def xG1_7 : Tok := by with_unfolding_all exact cc.2.2.2.2.2.1
@[irreducible] noncomputable def xG1_8 : Tok := by with_unfolding_all exact cc.2.2.2.2.2.2.1
@[irreducible] noncomputable def tt : Nat := by with_unfolding_all exact cc.2.2.2.2.2.2.2.1
@[irreducible] noncomputable def tT : Tok := by with_unfolding_all exact cc.2.2.2.2.2.2.2.2.1
@[irreducible] noncomputable def h13 : Heap := by with_unfolding_all exact cc.2.2.2.2.2.2.2.2.2.1
@[irreducible] noncomputable def tk13 : Nat := by with_unfolding_all exact cc.2.2.2.2.2.2.2.2.2.2.1
@[irreducible] noncomputable def I3 : Addr := by with_unfolding_all exact cc.2.2.2.2.2.2.2.2.2.2.2.1
@[irreducible] noncomputable def oI3 : Obj := by with_unfolding_all exact cc.2.2.2.2.2.2.2.2.2.2.2.2.1
@[irreducible] noncomputable def pv4 : List Value := by with_unfolding_all exact cc.2.2.2.2.2.2.2.2.2.2.2.2.2.1
@[irreducible] noncomputable def ep13 : Nat := by with_unfolding_all exact cc.2.2.2.2.2.2.2.2.2.2.2.2.2.2.1
@[irreducible] noncomputable def oT3 : Obj := by with_unfolding_all exact cc.2.2.2.2.2.2.2.2.2.2.2.2.2.2.2.1
@[irreducible] noncomputable def uT3 : Option Value := by with_unfolding_all exact cc.2.2.2.2.2.2.2.2.2.2.2.2.2.2.2.2
noncomputable def cap_G1 : (T_G3 : (Heap) → (Obj) → (Nat) → (Nat) → (Addr) → (Str → Option Value) → (Heap) → (Nat) → (Value → Shared → Prop) → (Tok) → (Tok) → Prop) ×' (T_G4 : (Heap) → (Obj) → (Nat) → (Addr) → (Heap) → (Nat) → (List Value) → Prop) ×' ((∀ (xG3_2 : Heap) (oT4 : Obj) (tk : Nat) (ii : Nat) (C5 : Addr) (m5 : Str → Option Value) (h15 : Heap) (tk15 : Nat) (E5 : Value → Shared → Prop) (t1 : Tok) (t2 : Tok), T_G3 xG3_2 oT4 tk ii C5 m5 h15 tk15 E5 t1 t2) → (∀ (xG4_1 : Heap) (oT4 : Obj) (tk : Nat) (D5 : Addr) (h15 : Heap) (tk15 : Nat) (zs : List Value), T_G4 xG4_1 oT4 tk D5 h15 tk15 zs) → cap_E2.1 xG1_1 tk xG1_4 xG1_5 xG1_6 xG1_7 xG1_8 tt tT h13 tk13 I3 oI3 pv4 ep13 oT3 uT3) := ⟨_, _, by
  intro K_G3 K_G4
  intro G hg hA hu hq hn hn5 hm3 hqm hix htl hR hM gM hmv hm hcd post hL G' hbut hnone l1 dT xA1_1 xA1_2 xA1_3 hlt XX T dX dQ dM hqq hcd' xC1_1 hcells hrg xB2_8 r1 r2 hp hRd hLs hseg hseg4 o3 hMl hm0 hs0 hD3 hnc hb5 hi dT' hne hlt7 F7 N7 hyl hi' hrow eR mR iR hv hrowm hrl hws hpv hwl hqi hwn hwq hIa hrg2 xE1_9 r3 r4 hkk dT2 hlt9 F9 hkw hw0 hw0m hw0l hw0q hpv3 hne9 N9 hpv2 hlenp hpl3 hI2a hb10 hs11 hne11 xE2_2 hI11 hrLa xG1_2 xG1_3 hrg3 xG1_9 r5 r6 htt hpv4 dT3 hne13 hlt13 F13 N13 hpl4 hI3a e1 e2 e3 e4 e5
  iterate 15 walk_at "go"
  with_reducible rename Fr _ _ _ _ => F14
  with_reducible rename News _ _ _ _ => N14
  rename_i oT4 dT4
  have hvLl : vsL.length = n := by rw [hI11.length, List.length_map, hw0l]
  have hvRl : vsR.length = n := by rw [iR.length, List.length_map]; exact hrl.1
  have mR' : (aR, listOf vsR.toArray epR) ∈ [(I3, oI3), (rL, listOf vsL.toArray epL), (I2, oI2), (I, oI), (D3, LCg.lst ys), (L + 1 + 1 + 1 + 1, oT4), (L + 1 + 1 + 1, oM), (L + 1 + 1, oQ), (L + 1, oX)] ++ (P.objs p tp1 ea (lineAt cs p) tl1 pv4 ep13 ++ seg) := List.mem_append_right _ (List.mem_append_right _ mR)
  rw [eval_ListComp]
  refine wpAny_comprehension_free (use := none) rfl (by intro _; rfl) rfl rfl (by decide) ?_
  refine comp_first2 ?_
  iterate 8 walk_at "go"
  refine zip_comp (xs := vsL) (ys := vsR) (fun i y => ∃ t', y = Value.str (S (sgn (mk q ((w0.getD i 0 + tt * row.getD i 0) % q)))) t') rfl (N14.isList (by k_mem)) (N14.isList mR') (by omega) (by decide) rfl rfl rfl (by decide) ?_ ?_
  · intro ii C5 m5 h15 tk15 E5 a' b' ha hb hns ha' hb' hkk
    obtain ⟨t1, rfl⟩ := ints_get hI11 ha
    obtain ⟨t2, rfl⟩ := ints_get iR hb
    have F15 := subF F14 hkk
    have N15 := subN N14 hkk
    clear F14 N14
    have hq1 : w0.getD ii 0 < q := getD_lt2 (by omega) hw0q ii
    have hq2' : row.getD ii 0 < q := getD_lt2 (by omega) hrl.2 ii
    have hqz : (q : Int) ≠ 0 := by omega
    rename_i xG3_1 xG3_2
    revert G hg hA hu hq hn hn5 hm3 hqm hix htl hR hM gM hmv hm hcd post hL G' hbut hnone l1 dT xA1_1 xA1_2 xA1_3 hlt XX T dX dQ dM hqq hcd' xC1_1 hcells hrg xB2_8 r1 r2 hp hRd hLs hseg hseg4 o3 hMl hm0 hs0 hD3 hnc hb5 hi dT' hne hlt7 F7 N7 hyl hi' hrow eR mR iR hv hrowm hrl hws hpv hwl hqi hwn hwq hIa hrg2 xE1_9 r3 r4 xG3_1 dT2 hlt9 F9 hkw hw0 hw0m hw0l hw0q hpv3 hne9 N9 hpv2 hlenp hpl3 hI2a hb10 hs11 hne11 xE2_2 hI11 hrLa hrg3 xG1_9 r5 r6 htt hpv4 dT3 hne13 hlt13 F13 N13 hpl4 hI3a e1 e2 e3 e4 e5 dT4 hvLl hvRl mR' hns hkk ha ha' hb hb' F15 N15 hq1 hq2' hqz
    exact K_G3 xG3_2 oT4 tk ii C5 m5 h15 tk15 E5 t1 t2
  · intro D5 h15 tk15 zs hD5 hD5' hzl hzs hsub
    obtain ⟨F16, N16, hne16⟩ := after_pure F14 N14 hsub hD5 hD5'
    clear F14 N14
    rename_i xG4_1
    revert G hg hA hu hq hn hn5 hm3 hqm hix htl hR hM gM hmv hm hcd post hL G' hbut hnone l1 dT xA1_1 xA1_2 xA1_3 hlt XX T dX dQ dM hqq hcd' xC1_1 hcells hrg xB2_8 r1 r2 hp hRd hLs hseg hseg4 o3 hMl hm0 hs0 hD3 hnc hb5 hi dT' hne hlt7 F7 N7 hyl hi' hrow eR mR iR hv hrowm hrl hws hpv hwl hqi hwn hwq hIa hrg2 xE1_9 r3 r4 hkk dT2 hlt9 F9 hkw hw0 hw0m hw0l hw0q hpv3 hne9 N9 hpv2 hlenp hpl3 hI2a hb10 hs11 hne11 xE2_2 hI11 hrLa hrg3 xG1_9 r5 r6 htt hpv4 dT3 hne13 hlt13 F13 N13 hpl4 hI3a e1 e2 e3 e4 e5 dT4 hvLl hvRl mR' hD5 hD5' hzl hzs hsub F16 N16 hne16
    exact K_G4 xG4_1 oT4 tk D5 h15 tk15 zs⟩
namespace G3
noncomputable abbrev Par : Type := (Heap) × (Obj) × (Nat) × (Nat) × (Addr) × (Str → Option Value) × (Heap) × (Nat) × (Value → Shared → Prop) × (Tok) × (Tok)
noncomputable def P1 (p : Par) : Prop := cap_G1.1 p.1 p.2.1 p.2.2.1 p.2.2.2.1 p.2.2.2.2.1 p.2.2.2.2.2.1 p.2.2.2.2.2.2.1 p.2.2.2.2.2.2.2.1 p.2.2.2.2.2.2.2.2.1 p.2.2.2.2.2.2.2.2.2.1 p.2.2.2.2.2.2.2.2.2.2
theorem some_par : Nonempty Par := ⟨⟨default, { cls := .none, data := .seq #[] }, 0, 0, 0, (fun _ => none), default, 0, (fun _ _ => True), 0, 0⟩⟩
@[irreducible] noncomputable def cc : Par := @Classical.epsilon Par some_par fun p => ¬ P1 p
@[irreducible] noncomputable def xG3_2 : Heap := by with_unfolding_all exact cc.1
@[irreducible] noncomputable def oT4 : Obj := by with_unfolding_all exact cc.2.1
@[irreducible] noncomputable def tk : Nat := by with_unfolding_all exact cc.2.2.1
@[irreducible] noncomputable def ii : Nat := by with_unfolding_all exact cc.2.2.2.1
@[irreducible] noncomputable def C5 : Addr := by with_unfolding_all exact cc.2.2.2.2.1
@[irreducible] noncomputable def m5 : Str → Option Value := by with_unfolding_all exact cc.2.2.2.2.2.1
@[irreducible] noncomputable def h15 : Heap := by with_unfolding_all exact cc.2.2.2.2.2.2.1
@[irreducible] noncomputable def tk15 : Nat := by with_unfolding_all exact cc.2.2.2.2.2.2.2.1
@[irreducible] noncomputable def E5 : Value → Shared → Prop := by with_unfolding_all exact cc.2.2.2.2.2.2.2.2.1
@[irreducible] noncomputable def t1 : Tok := by with_unfolding_all exact cc.2.2.2.2.2.2.2.2.2.1
@[irreducible] noncomputable def t2 : Tok := by with_unfolding_all exact cc.2.2.2.2.2.2.2.2.2.2
theorem core : cap_G1.1 xG3_2 oT4 tk ii C5 m5 h15 tk15 E5 t1 t2 := by
  intro G hg hA hu hq hn hn5 hm3 hqm hix htl hR hM gM hmv hm hcd post hL G' hbut hnone l1 dT xA1_1 xA1_2 xA1_3 hlt XX T dX dQ dM hqq hcd' xC1_1 hcells hrg xB2_8 r1 r2 hp hRd hLs hseg hseg4 o3 hMl hm0 hs0 hD3 hnc hb5 hi dT' hne hlt7 F7 N7 hyl hi' hrow eR mR iR hv hrowm hrl hws hpv hwl hqi hwn hwq hIa hrg2 xE1_9 r3 r4 xG3_1 dT2 hlt9 F9 hkw hw0 hw0m hw0l hw0q hpv3 hne9 N9 hpv2 hlenp hpl3 hI2a hb10 hs11 hne11 xE2_2 hI11 hrLa hrg3 xG1_9 r5 r6 htt hpv4 dT3 hne13 hlt13 F13 N13 hpl4 hI3a e1 e2 e3 e4 e5 dT4 hvLl hvRl mR' hns hkk ha ha' hb hb' F15 N15 hq1 hq2' hqz
  iterate 8 walk_at "go"
  refine PyProof.Rows.mul_int (hm := IntMulOk.of_right (intBits_le_iff.mpr (by omega))) ?_
  iterate 3 walk_at "go"
  have hlm : (w0.getD ii 0 + tt * row.getD ii 0) % q < q := Nat.mod_lt _ (by omega)
  obtain ⟨tm, htm⟩ := hmv.2 _ hlm
  have hfm : (((w0.getD ii 0 : Nat) : Int) + (0 + ((tt : Nat) : Int)) * ((row.getD ii 0 : Nat) : Int)).fmod (q : Int) = (((w0.getD ii 0 + tt * row.getD ii 0) % q : Nat) : Int) := by
    rw [Int.fmod_eq_emod_of_nonneg _ (by omega), Int.zero_add]; simp
  refine sub_list (j := (w0.getD ii 0 + tt * row.getD ii 0) % q) (isList_sub hMl F15.keep) hfm (by omega) htm ?_
  exact ⟨⟨_, rfl⟩, _, rfl⟩
theorem all : ∀ p : Par, P1 p := fun p => Classical.byContradiction fun hn => (@Classical.epsilon_spec Par (fun p => ¬ P1 p) ⟨p, hn⟩) (by with_unfolding_all exact core)
end G3
namespace G4
noncomputable abbrev Par : Type := (Heap) × (Obj) × (Nat) × (Addr) × (Heap) × (Nat) × (List Value)
noncomputable def P1 (p : Par) : Prop := cap_G1.2.1 p.1 p.2.1 p.2.2.1 p.2.2.2.1 p.2.2.2.2.1 p.2.2.2.2.2.1 p.2.2.2.2.2.2
theorem some_par : Nonempty Par := ⟨⟨default, { cls := .none, data := .seq #[] }, 0, 0, default, 0, []⟩⟩
@[irreducible] noncomputable def cc : Par := @Classical.epsilon Par some_par fun p => ¬ P1 p
@[irreducible] noncomputable def xG4_1 : Heap := by with_unfolding_all exact cc.1
@[irreducible] noncomputable def oT4 : Obj := by with_unfolding_all exact cc.2.1
@[irreducible] noncomputable def tk : Nat := by with_unfolding_all exact cc.2.2.1
@[irreducible] noncomputable def D5 : Addr := by with_unfolding_all exact cc.2.2.2.1
@[irreducible] noncomputable def h15 : Heap := by with_unfolding_all exact cc.2.2.2.2.1
@[irreducible] noncomputable def tk15 : Nat := by with_unfolding_all exact cc.2.2.2.2.2.1
@[irreducible] noncomputable def zs : List Value := by with_unfolding_all exact cc.2.2.2.2.2.2
noncomputable def cap_G4 : (T_G5 : (Tok) → (Nat) → (Heap) → (Nat) → (Nat) → Prop) ×' ((∀ (t17 : Tok) (k17 : Nat) (h18 : Heap) (tk18 : Nat) (ep18 : Nat), T_G5 t17 k17 h18 tk18 ep18) → cap_G1.2.1 xG4_1 oT4 tk D5 h15 tk15 zs) := ⟨_, by
  intro K_G5
  intro G hg hA hu hq hn hn5 hm3 hqm hix htl hR hM gM hmv hm hcd post hL G' hbut hnone l1 dT xA1_1 xA1_2 xA1_3 hlt XX T dX dQ dM hqq hcd' xC1_1 hcells hrg xB2_8 r1 r2 hp hRd hLs hseg hseg4 o3 hMl hm0 hs0 hD3 hnc hb5 hi dT' hne hlt7 F7 N7 hyl hi' hrow eR mR iR hv hrowm hrl hws hpv hwl hqi hwn hwq hIa hrg2 xE1_9 r3 r4 hkk dT2 hlt9 F9 hkw hw0 hw0m hw0l hw0q hpv3 hne9 N9 hpv2 hlenp hpl3 hI2a hb10 hs11 hne11 xE2_2 hI11 hrLa hrg3 xG1_9 r5 r6 htt hpv4 dT3 hne13 hlt13 F13 N13 hpl4 hI3a e1 e2 e3 e4 e5 dT4 hvLl hvRl mR' hD5 hD5' hzl hzs hsub F16 N16 hne16
  iterate 1 walk_at "go"
  have hzi := strs_ofL zs _ hzs
  have hrf : ((List.range zs.length).map fun i => sgn (mk q ((w0.getD i 0 + tt * row.getD i 0) % q))).flatten = sgns (enc q (addRow q w0 row tt)) := by
    rw [← row_flat, hzl, hvLl, hvRl, hw0l, hrl.1]
  have har := addRow_length (q := q) (t := tt) (hw0l.trans hrl.1.symm)
  have harq := addRow_lt (q := q) (by omega) (w := w0) (row := row) (t := tt)
  have hsl5 := sgns_len (enc_lt hq harq)
  rw [enc_length, har] at hsl5
  refine join_use (N16.isList (by k_mem)) hzi (by rw [hrf]; omega) ?_
  intro t17 k17
  rw [hrf]
  iterate 2 walk_at "go"
  with_reducible rename Fr _ _ _ _ => F16
  with_reducible rename News _ _ _ _ => N16
  refine push_use (pre := (I3, oI3) :: (rL, listOf vsL.toArray epL) :: (I2, oI2) :: (I, oI) :: (D3, LCg.lst ys) :: (L + 1 + 1 + 1 + 1, oT4) :: (L + 1 + 1 + 1, oM) :: (L + 1 + 1, oQ) :: (L + 1, oX) :: seg) (p := p) (tp := tp1) (tl := tl1) (ea := ea) (ep := ep13) (line := lineAt cs p) (pv := pv4) G' F16 P
    (fun x hx => N16 x (.tail _ (mem_swap (a := [(I3, oI3), (rL, listOf vsL.toArray epL), (I2, oI2), (I, oI), (D3, LCg.lst ys), (L + 1 + 1 + 1 + 1, oT4), (L + 1 + 1 + 1, oM), (L + 1 + 1, oQ), (L + 1, oX)]) hx)))
    (notin_cons hI3a (notin_cons hrLa (notin_cons hI2a (notin_cons hIa (hnc D3 _ _ hD3))))) (by show dep + 1 ≤ 700; omega) (by show uni + 3 ≤ 4000; omega) rfl (by omega) ?_
  intro h18 tk18 ep18 hb18 F18 N18
  replace N18 : News g' L h18 ([(I3, oI3), (rL, listOf vsL.toArray epL), (I2, oI2), (I, oI), (D3, LCg.lst ys), (L + 1 + 1 + 1 + 1, oT4), (L + 1 + 1 + 1, oM), (L + 1 + 1, oQ), (L + 1, oX)] ++ (P.objs p tp1 ea (lineAt cs p) tl1 (pv4 ++ [Value.str (wordS q (addRow q w0 row tt)) t17]) ep18 ++ seg)) := fun x hx => N18 x (mem_swap hx)
  clear F16 N16
  revert G hg hA hu hq hn hn5 hm3 hqm hix htl hR hM gM hmv hm hcd post hL G' hbut hnone l1 dT xA1_1 xA1_2 xA1_3 hlt XX T dX dQ dM hqq hcd' xC1_1 hcells hrg xB2_8 r1 r2 hp hRd hLs hseg hseg4 o3 hMl hm0 hs0 hD3 hnc hb5 hi dT' hne hlt7 F7 N7 hyl hi' hrow eR mR iR hv hrowm hrl hws hpv hwl hqi hwn hwq hIa hrg2 xE1_9 r3 r4 hkk dT2 hlt9 F9 hkw hw0 hw0m hw0l hw0q hpv3 hne9 N9 hpv2 hlenp hpl3 hI2a hb10 hs11 hne11 xE2_2 hI11 hrLa hrg3 xG1_9 r5 r6 htt hpv4 dT3 hne13 hlt13 F13 N13 hpl4 hI3a e1 e2 e3 e4 e5 dT4 hvLl hvRl mR' hD5 hD5' hzl hzs hsub hne16 hzi hrf har harq hsl5 hb18 F18 N18
  exact K_G5 t17 k17 h18 tk18 ep18⟩
namespace G5
noncomputable abbrev Par : Type := (Tok) × (Nat) × (Heap) × (Nat) × (Nat)
noncomputable def P1 (p : Par) : Prop := cap_G4.1 p.1 p.2.1 p.2.2.1 p.2.2.2.1 p.2.2.2.2
theorem some_par : Nonempty Par := ⟨⟨0, 0, default, 0, 0⟩⟩
@[irreducible] noncomputable def cc : Par := @Classical.epsilon Par some_par fun p => ¬ P1 p
@[irreducible] noncomputable def t17 : Tok := by with_unfolding_all exact cc.1
@[irreducible] noncomputable def k17 : Nat := by with_unfolding_all exact cc.2.1
@[irreducible] noncomputable def h18 : Heap := by with_unfolding_all exact cc.2.2.1
@[irreducible] noncomputable def tk18 : Nat := by with_unfolding_all exact cc.2.2.2.1
@[irreducible] noncomputable def ep18 : Nat := by with_unfolding_all exact cc.2.2.2.2
theorem core : cap_G4.1 t17 k17 h18 tk18 ep18 := by
  intro G hg hA hu hq hn hn5 hm3 hqm hix htl hR hM gM hmv hm hcd post hL G' hbut hnone l1 dT xA1_1 xA1_2 xA1_3 hlt XX T dX dQ dM hqq hcd' xC1_1 hcells hrg xB2_8 r1 r2 hp hRd hLs hseg hseg4 o3 hMl hm0 hs0 hD3 hnc hb5 hi dT' hne hlt7 F7 N7 hyl hi' hrow eR mR iR hv hrowm hrl hws hpv hwl hqi hwn hwq hIa hrg2 xE1_9 r3 r4 hkk dT2 hlt9 F9 hkw hw0 hw0m hw0l hw0q hpv3 hne9 N9 hpv2 hlenp hpl3 hI2a hb10 hs11 hne11 xE2_2 hI11 hrLa hrg3 xG1_9 r5 r6 htt hpv4 dT3 hne13 hlt13 F13 N13 hpl4 hI3a e1 e2 e3 e4 e5 dT4 hvLl hvRl mR' hD5 hD5' hzl hzs hsub hne16 hzi hrf har harq hsl5 hb18 F18 N18
  iterate 1 walk_at "go"
  refine ⟨_, _, _, (rL, listOf vsL.toArray epL) :: (I2, oI2) :: (I, oI) :: (D3, LCg.lst ys) :: (L + 1 + 1 + 1 + 1, oT4) :: (L + 1 + 1 + 1, oM) :: (L + 1 + 1, oQ) :: (L + 1, oX) :: (P.objs p tp1 ea (lineAt cs p) tl1 (pv4 ++ [Value.str (wordS q (addRow q w0 row tt)) t17]) ep18 ++ seg), _, rfl, F18, N18, ?_, ?_, ?_, [], rfl, _, ep18, oT4, rfl, rfl, ⟨_, dT4⟩, ?_⟩
  · intro x hx
    rw [List.mem_singleton.mp hx]; exact .head _
  · intro x hx
    exact .tail _ hx
  · intro x hx
    exact nmem1 (ne_objs (heads := [(rL, listOf vsL.toArray epL), (I2, oI2), (I, oI), (D3, LCg.lst ys), (L + 1 + 1 + 1 + 1, oT3), (L + 1 + 1 + 1, oM), (L + 1 + 1, oQ), (L + 1, oX)]) (heads' := [(rL, listOf vsL.toArray epL), (I2, oI2), (I, oI), (D3, LCg.lst ys), (L + 1 + 1 + 1 + 1, oT4), (L + 1 + 1 + 1, oM), (L + 1 + 1, oQ), (L + 1, oX)]) P hne13 rfl x hx)
  · have e : ((ws.drop (kk + 1) ++ spread q (ws.take kk) row) ++ (List.range (tt + 1)).map fun t => addRow q w0 row t) = ((ws.drop (kk + 1) ++ spread q (ws.take kk) row) ++ (List.range tt).map fun t => addRow q w0 row t) ++ [addRow q w0 row tt] := by
      rw [List.range_succ, List.map_append, ← List.append_assoc]; rfl
    rw [e, List.map_append]
    exact Mine.StrsAre.app hpv4 (.cons _ _ .nil)
theorem all : ∀ p : Par, P1 p := fun p => Classical.byContradiction fun hn => (@Classical.epsilon_spec Par (fun p => ¬ P1 p) ⟨p, hn⟩) (by with_unfolding_all exact core)
end G5
theorem core : cap_G1.2.1 xG4_1 oT4 tk D5 h15 tk15 zs := cap_G4.2 (fun t17 k17 h18 tk18 ep18 => G5.all ⟨t17, k17, h18, tk18, ep18⟩)
theorem all : ∀ p : Par, P1 p := fun p => Classical.byContradiction fun hn => (@Classical.epsilon_spec Par (fun p => ¬ P1 p) ⟨p, hn⟩) (by with_unfolding_all exact core)
end G4
theorem core : cap_E2.1 xG1_1 tk xG1_4 xG1_5 xG1_6 xG1_7 xG1_8 tt tT h13 tk13 I3 oI3 pv4 ep13 oT3 uT3 := cap_G1.2.2 (fun xG3_2 oT4 tk ii C5 m5 h15 tk15 E5 t1 t2 => G3.all ⟨xG3_2, oT4, tk, ii, C5, m5, h15, tk15, E5, t1, t2⟩) (fun xG4_1 oT4 tk D5 h15 tk15 zs => G4.all ⟨xG4_1, oT4, tk, D5, h15, tk15, zs⟩)
theorem all : ∀ p : Par, P1 p := fun p => Classical.byContradiction fun hn => (@Classical.epsilon_spec Par (fun p => ¬ P1 p) ⟨p, hn⟩) (by with_unfolding_all exact core)
end G1
namespace E3
noncomputable abbrev Par : Type := (Heap) × (Nat) × (Heap) × (Nat) × (Tok) × (Tok) × (Tok) × (Heap) × (Nat) × (List Value) × (Nat) × (Obj) × (Option Value)
noncomputable def P1 (p : Par) : Prop := cap_E2.2.1 p.1 p.2.1 p.2.2.1 p.2.2.2.1 p.2.2.2.2.1 p.2.2.2.2.2.1 p.2.2.2.2.2.2.1 p.2.2.2.2.2.2.2.1 p.2.2.2.2.2.2.2.2.1 p.2.2.2.2.2.2.2.2.2.1 p.2.2.2.2.2.2.2.2.2.2.1 p.2.2.2.2.2.2.2.2.2.2.2.1 p.2.2.2.2.2.2.2.2.2.2.2.2
theorem some_par : Nonempty Par := ⟨⟨default, 0, default, 0, 0, 0, 0, default, 0, [], 0, { cls := .none, data := .seq #[] }, none⟩⟩
@[irreducible] noncomputable def cc : Par := @Classical.epsilon Par some_par fun p => ¬ P1 p
@[irreducible] noncomputable def xE3_1 : Heap := by with_unfolding_all exact cc.1
@[irreducible] noncomputable def tk : Nat := by with_unfolding_all exact cc.2.1
@[irreducible] noncomputable def xE3_4 : Heap := by with_unfolding_all exact cc.2.2.1
@[irreducible] noncomputable def xE3_5 : Nat := by with_unfolding_all exact cc.2.2.2.1
@[irreducible] noncomputable def xE3_6 : Tok := by with_unfolding_all exact cc.2.2.2.2.1
@[irreducible] noncomputable def xE3_7 : Tok := by with_unfolding_all exact cc.2.2.2.2.2.1
@[irreducible] noncomputable def xE3_8 : Tok := by with_unfolding_all exact cc.2.2.2.2.2.2.1
@[irreducible] noncomputable def h13 : Heap := by with_unfolding_all exact cc.2.2.2.2.2.2.2.1
@[irreducible] noncomputable def tk13 : Nat := by with_unfolding_all exact cc.2.2.2.2.2.2.2.2.1
@[irreducible] noncomputable def pv4 : List Value := by with_unfolding_all exact cc.2.2.2.2.2.2.2.2.2.1
@[irreducible] noncomputable def ep13 : Nat := by with_unfolding_all exact cc.2.2.2.2.2.2.2.2.2.2.1
@[irreducible] noncomputable def oT3 : Obj := by with_unfolding_all exact cc.2.2.2.2.2.2.2.2.2.2.2.1
@[irreducible] noncomputable def uT3 : Option Value := by with_unfolding_all exact cc.2.2.2.2.2.2.2.2.2.2.2.2
theorem core : cap_E2.2.1 xE3_1 tk xE3_4 xE3_5 xE3_6 xE3_7 xE3_8 h13 tk13 pv4 ep13 oT3 uT3 := by
  intro G hg hA hu hq hn hn5 hm3 hqm hix htl hR hM gM hmv hm hcd post hL G' hbut hnone l1 dT xA1_1 xA1_2 xA1_3 hlt XX T dX dQ dM hqq hcd' xC1_1 hcells hrg xB2_8 r1 r2 hp hRd hLs hseg hseg4 o3 hMl hm0 hs0 hD3 hnc hb5 hi dT' hne hlt7 F7 N7 hyl hi' hrow eR mR iR hv hrowm hrl hws hpv hwl hqi hwn hwq hIa hrg2 xE1_9 r3 r4 hkk dT2 hlt9 F9 hkw hw0 hw0m hw0l hw0q hpv3 hne9 N9 hpv2 hlenp hpl3 hI2a hb10 hs11 hne11 xE2_2 hI11 hrLa xE3_2 xE3_3 hrg3 F12 N12 xE3_9 r5 r6 hpv4 dT3 F13 N13
  rw [upd_nil] at F13
  dsimp only
  iterate 1 walk_at "go"
  refine ⟨_, _, _, (I, oI) :: (D3, LCg.lst ys) :: (L + 1 + 1 + 1 + 1, oT3) :: (L + 1 + 1 + 1, oM) :: (L + 1 + 1, oQ) :: (L + 1, oX) :: (P.objs p tp1 ea (lineAt cs p) tl1 pv4 ep13 ++ seg), _, rfl, F13, N13, ?_, ?_, ?_, _, (upd_if1 (upd_if1 rfl)).trans (upd_keys [Str.ofString "k", Str.ofString "letters"] _ _ rfl), _, _, pv4, ep13, oT3, rfl, rfl, ⟨_, dT3⟩, ?_⟩
  · intro x hx
    rw [List.mem_singleton.mp hx]; exact .tail _ (.head _)
  · intro x hx
    exact .tail _ (.tail _ hx)
  · intro x hx
    exact nmem1 (ne_objs (heads := [(I, oI), (D3, LCg.lst ys), (L + 1 + 1 + 1 + 1, oT2), (L + 1 + 1 + 1, oM), (L + 1 + 1, oQ), (L + 1, oX)]) (heads' := [(I, oI), (D3, LCg.lst ys), (L + 1 + 1 + 1 + 1, oT3), (L + 1 + 1 + 1, oM), (L + 1 + 1, oQ), (L + 1, oX)]) P hne9 rfl x hx)
  · have ht : ws.take (kk + 1) = ws.take kk ++ [w0] := by
      rw [List.take_add_one]
      have : ws[kk]? = some w0 := by
        have := congrArg List.head? hw0
        rw [List.head?_drop] at this
        exact this
      rw [this]; rfl
    rw [ht, spread_snoc, ← List.append_assoc]
    exact hpv4
theorem all : ∀ p : Par, P1 p := fun p => Classical.byContradiction fun hn => (@Classical.epsilon_spec Par (fun p => ¬ P1 p) ⟨p, hn⟩) (by with_unfolding_all exact core)
end E3
theorem core : cap_E1.1 xE2_1 tk h10 tk10 ep10 h11 tk11 rL vsL epL := cap_E2.2.2 (fun xG1_1 tk xG1_4 xG1_5 xG1_6 xG1_7 xG1_8 tt tT h13 tk13 I3 oI3 pv4 ep13 oT3 uT3 => G1.all ⟨xG1_1, tk, xG1_4, xG1_5, xG1_6, xG1_7, xG1_8, tt, tT, h13, tk13, I3, oI3, pv4, ep13, oT3, uT3⟩) (fun xE3_1 tk xE3_4 xE3_5 xE3_6 xE3_7 xE3_8 h13 tk13 pv4 ep13 oT3 uT3 => E3.all ⟨xE3_1, tk, xE3_4, xE3_5, xE3_6, xE3_7, xE3_8, h13, tk13, pv4, ep13, oT3, uT3⟩)
theorem all : ∀ p : Par, P1 p := fun p => Classical.byContradiction fun hn => (@Classical.epsilon_spec Par (fun p => ¬ P1 p) ⟨p, hn⟩) (by with_unfolding_all exact core)
end E2
theorem core : cap_D1.1 xE1_1 tk xE1_4 xE1_5 xE1_6 xE1_7 xE1_8 kk tK h9 tk9 I2 oI2 uK2 uL2 ep7 oT2 uT2 w0 pv3 tv0 := cap_E1.2 (fun xE2_1 tk h10 tk10 ep10 h11 tk11 rL vsL epL => E2.all ⟨xE2_1, tk, h10, tk10, ep10, h11, tk11, rL, vsL, epL⟩)
theorem all : ∀ p : Par, P1 p := fun p => Classical.byContradiction fun hn => (@Classical.epsilon_spec Par (fun p => ¬ P1 p) ⟨p, hn⟩) (by with_unfolding_all exact core)
end E1
namespace D2
noncomputable abbrev Par : Type := (Heap) × (Nat) × (Heap) × (Nat) × (Tok) × (Tok) × (Tok) × (Heap) × (Nat) × (Option Value) × (Option Value) × (List Value) × (Nat) × (Obj) × (Option Value)
noncomputable def P1 (p : Par) : Prop := cap_D1.2.1 p.1 p.2.1 p.2.2.1 p.2.2.2.1 p.2.2.2.2.1 p.2.2.2.2.2.1 p.2.2.2.2.2.2.1 p.2.2.2.2.2.2.2.1 p.2.2.2.2.2.2.2.2.1 p.2.2.2.2.2.2.2.2.2.1 p.2.2.2.2.2.2.2.2.2.2.1 p.2.2.2.2.2.2.2.2.2.2.2.1 p.2.2.2.2.2.2.2.2.2.2.2.2.1 p.2.2.2.2.2.2.2.2.2.2.2.2.2.1 p.2.2.2.2.2.2.2.2.2.2.2.2.2.2
theorem some_par : Nonempty Par := ⟨⟨default, 0, default, 0, 0, 0, 0, default, 0, none, none, [], 0, { cls := .none, data := .seq #[] }, none⟩⟩
@[irreducible] noncomputable def cc : Par := @Classical.epsilon Par some_par fun p => ¬ P1 p
@[irreducible] noncomputable def xD2_1 : Heap := by with_unfolding_all exact cc.1
@[irreducible] noncomputable def tk : Nat := by with_unfolding_all exact cc.2.1
@[irreducible] noncomputable def xD2_4 : Heap := by with_unfolding_all exact cc.2.2.1
@[irreducible] noncomputable def xD2_5 : Nat := by with_unfolding_all exact cc.2.2.2.1
@[irreducible] noncomputable def xD2_6 : Tok := by with_unfolding_all exact cc.2.2.2.2.1
@[irreducible] noncomputable def xD2_7 : Tok := by with_unfolding_all exact cc.2.2.2.2.2.1
@[irreducible] noncomputable def xD2_8 : Tok := by with_unfolding_all exact cc.2.2.2.2.2.2.1
@[irreducible] noncomputable def h13 : Heap := by with_unfolding_all exact cc.2.2.2.2.2.2.2.1
@[irreducible] noncomputable def tk13 : Nat := by with_unfolding_all exact cc.2.2.2.2.2.2.2.2.1
@[irreducible] noncomputable def uK2 : Option Value := by with_unfolding_all exact cc.2.2.2.2.2.2.2.2.2.1
@[irreducible] noncomputable def uL2 : Option Value := by with_unfolding_all exact cc.2.2.2.2.2.2.2.2.2.2.1
@[irreducible] noncomputable def pv4 : List Value := by with_unfolding_all exact cc.2.2.2.2.2.2.2.2.2.2.2.1
@[irreducible] noncomputable def ep13 : Nat := by with_unfolding_all exact cc.2.2.2.2.2.2.2.2.2.2.2.2.1
@[irreducible] noncomputable def oT3 : Obj := by with_unfolding_all exact cc.2.2.2.2.2.2.2.2.2.2.2.2.2.1
@[irreducible] noncomputable def uT3 : Option Value := by with_unfolding_all exact cc.2.2.2.2.2.2.2.2.2.2.2.2.2.2
theorem core : cap_D1.2.1 xD2_1 tk xD2_4 xD2_5 xD2_6 xD2_7 xD2_8 h13 tk13 uK2 uL2 pv4 ep13 oT3 uT3 := by
  intro G hg hA hu hq hn hn5 hm3 hqm hix htl hR hM gM hmv hm hcd post hL G' hbut hnone l1 dT xA1_1 xA1_2 xA1_3 hlt XX T dX dQ dM hqq hcd' xC1_1 hcells hrg xB2_8 r1 r2 hp hRd hLs hseg hseg4 o3 hMl hm0 hs0 hD3 hnc hb5 hi dT' hne hlt7 F7 N7 hyl hi' hrow eR mR iR hv hrowm hrl hws hpv hwl hqi hwn hwq hIa xD2_2 xD2_3 hrg2 F8 N8 xD2_9 r3 r4 hpv4 dT3 F13 N13
  iterate 8 walk_at "go"
  with_reducible rename Fr _ _ _ _ => F15
  with_reducible rename News _ _ _ _ => N15
  have eW : ((q ^ i : Nat) : Int) * (q : Int) = ((q ^ (i + 1) : Nat) : Int) := by rw [Nat.pow_succ, Int.natCast_mul]
  rw [eW] at F15
  refine ⟨_, _, _, (D3, LCg.lst ys) :: (L + 1 + 1 + 1 + 1, oT3) :: (L + 1 + 1 + 1, oM) :: (L + 1 + 1, oQ) :: (L + 1, oX) :: (P.objs p tp1 ea (lineAt cs p) tl1 pv4 ep13 ++ seg), _, rfl, F15, N15, ?_, ?_, ?_, _, (upd_if1 ((congrArg (upd _) (upd_if1 rfl)).trans (upd_upd _ _ _))).trans (upd_keys [Str.ofString "row", Str.ofString "waiting", Str.ofString "k", Str.ofString "letters"] _ _ rfl), _, _, _, _, pv4, ep13, oT3, rfl, rfl, ⟨_, dT3⟩, ?_⟩
  · intro x hx
    simp only [List.mem_cons, List.not_mem_nil, or_false] at hx
    rcases hx with rfl | rfl
    · exact .head _
    · exact .tail _ (.head _)
  · intro x hx
    exact .tail _ hx
  · intro x hx
    exact nmem1 (ne_objs (heads := [(D3, LCg.lst ys), (L + 1 + 1 + 1 + 1, oT'), (L + 1 + 1 + 1, oM), (L + 1 + 1, oQ), (L + 1, oX)]) (heads' := [(D3, LCg.lst ys), (L + 1 + 1 + 1 + 1, oT3), (L + 1 + 1 + 1, oM), (L + 1 + 1, oQ), (L + 1, oX)]) P hne rfl x hx)
  · have ht : (idxs.map (lets q)).take (i + 1) = (idxs.map (lets q)).take i ++ [row] := by
      rw [List.take_add_one, hrow]; rfl
    rw [ht, List.foldl_append, hws]
    rw [← hwl, List.drop_length, List.take_length, List.nil_append] at hpv4
    exact hpv4
theorem all : ∀ p : Par, P1 p := fun p => Classical.byContradiction fun hn => (@Classical.epsilon_spec Par (fun p => ¬ P1 p) ⟨p, hn⟩) (by with_unfolding_all exact core)
end D2
theorem core : cap_C1.1 xD1_1 i h7 tk7 I oI uR uK uL tW pv ep6 oT' uT row aR vsR epR ws := cap_D1.2.2 (fun xE1_1 tk xE1_4 xE1_5 xE1_6 xE1_7 xE1_8 kk tK h9 tk9 I2 oI2 uK2 uL2 ep7 oT2 uT2 w0 pv3 tv0 => E1.all ⟨xE1_1, tk, xE1_4, xE1_5, xE1_6, xE1_7, xE1_8, kk, tK, h9, tk9, I2, oI2, uK2, uL2, ep7, oT2, uT2, w0, pv3, tv0⟩) (fun xD2_1 tk xD2_4 xD2_5 xD2_6 xD2_7 xD2_8 h13 tk13 uK2 uL2 pv4 ep13 oT3 uT3 => D2.all ⟨xD2_1, tk, xD2_4, xD2_5, xD2_6, xD2_7, xD2_8, h13, tk13, uK2, uL2, pv4, ep13, oT3, uT3⟩)
theorem all : ∀ p : Par, P1 p := fun p => Classical.byContradiction fun hn => (@Classical.epsilon_spec Par (fun p => ¬ P1 p) ⟨p, hn⟩) (by with_unfolding_all exact core)
end D1
namespace C2
noncomputable abbrev Par : Type := (Heap) × (Heap) × (Nat) × (Option Value) × (Option Value) × (Option Value) × (Tok) × (List Value) × (Nat) × (Obj) × (Option Value)
noncomputable def P1 (p : Par) : Prop := cap_C1.2.1 p.1 p.2.1 p.2.2.1 p.2.2.2.1 p.2.2.2.2.1 p.2.2.2.2.2.1 p.2.2.2.2.2.2.1 p.2.2.2.2.2.2.2.1 p.2.2.2.2.2.2.2.2.1 p.2.2.2.2.2.2.2.2.2.1 p.2.2.2.2.2.2.2.2.2.2
theorem some_par : Nonempty Par := ⟨⟨default, default, 0, none, none, none, 0, [], 0, { cls := .none, data := .seq #[] }, none⟩⟩
@[irreducible] noncomputable def cc : Par := @Classical.epsilon Par some_par fun p => ¬ P1 p
@[irreducible] noncomputable def xC2_1 : Heap := by with_unfolding_all exact cc.1
@[irreducible] noncomputable def h7 : Heap := by with_unfolding_all exact cc.2.1
@[irreducible] noncomputable def tk7 : Nat := by with_unfolding_all exact cc.2.2.1
@[irreducible] noncomputable def uR : Option Value := by with_unfolding_all exact cc.2.2.2.1
@[irreducible] noncomputable def uK : Option Value := by with_unfolding_all exact cc.2.2.2.2.1
@[irreducible] noncomputable def uL : Option Value := by with_unfolding_all exact cc.2.2.2.2.2.1
@[irreducible] noncomputable def tW : Tok := by with_unfolding_all exact cc.2.2.2.2.2.2.1
@[irreducible] noncomputable def pv : List Value := by with_unfolding_all exact cc.2.2.2.2.2.2.2.1
@[irreducible] noncomputable def ep6 : Nat := by with_unfolding_all exact cc.2.2.2.2.2.2.2.2.1
@[irreducible] noncomputable def oT' : Obj := by with_unfolding_all exact cc.2.2.2.2.2.2.2.2.2.1
@[irreducible] noncomputable def uT : Option Value := by with_unfolding_all exact cc.2.2.2.2.2.2.2.2.2.2
noncomputable def cap_C2 : (T_H1 : (Heap) → (Nat) → (Tok) → (Tok) → (Tok) → (List (List Nat)) → (Heap) → (Nat) → (List Value) → (Nat) → (List (Addr × Obj)) → (Addr) → (Obj) → (Addr) → (Obj) → (Addr) → (Str → Option Value) → (Heap) → (Nat) → (Value → Shared → Prop) → (Tok) → (List Nat) → (List Value) → (Tok) → Prop) ×' (T_H3 : (Heap) → (Nat) → (Tok) → (Tok) → (Tok) → (List (List Nat)) → (Heap) → (List Value) → (Nat) → (List (Addr × Obj)) → (Addr) → (Heap) → (Nat) → Prop) ×' ((∀ (xH1_3 : Heap) (xH1_4 : Nat) (xH1_5 : Tok) (xH1_6 : Tok) (xH1_7 : Tok) (words : List (List Nat)) (g8 : Heap) (k : Nat) (ys2 : List Value) (ep9 : Nat) (seg2 : List (Addr × Obj)) (I2 : Addr) (oI2 : Obj) (C : Addr) (oC : Obj) (D : Addr) (m₂ : Str → Option Value) (h9 : Heap) (tk9 : Nat) (E' : Value → Shared → Prop) (tv : Tok) (w0 : List Nat) (pv3 : List Value) (tv0 : Tok), T_H1 xH1_3 xH1_4 xH1_5 xH1_6 xH1_7 words g8 k ys2 ep9 seg2 I2 oI2 C oC D m₂ h9 tk9 E' tv w0 pv3 tv0) → (∀ (xH3_3 : Heap) (xH3_4 : Nat) (xH3_5 : Tok) (xH3_6 : Tok) (xH3_7 : Tok) (words : List (List Nat)) (g8 : Heap) (ys2 : List Value) (ep9 : Nat) (seg2 : List (Addr × Obj)) (D8 : Addr) (h9 : Heap) (tk9 : Nat), T_H3 xH3_3 xH3_4 xH3_5 xH3_6 xH3_7 words g8 ys2 ep9 seg2 D8 h9 tk9) → cap_C1.2.1 xC2_1 h7 tk7 uR uK uL tW pv ep6 oT' uT) := ⟨_, _, by
  intro K_H1 K_H3
  intro G hg hA hu hq hn hn5 hm3 hqm hix htl hR hM gM hmv hm hcd post hL G' hbut hnone l1 dT xA1_1 xA1_2 xA1_3 hlt XX T dX dQ dM hqq hcd' xC1_1 hcells hrg xB2_8 r1 r2 hp hRd hLs hseg hseg4 o3 hMl hm0 hs0 hD3 hnc hb5 hpv dT' F7 N7
  iterate 14 walk_at "go"
  have hyl : ys.length = idxs.length := by
    have := hLs.1
    rwa [List.take_length, List.length_map] at this
  obtain ⟨words, hW⟩ : ∃ W, W = (idxs.map (lets q)).foldl (spread q) [List.replicate n 0] := ⟨_, rfl⟩
  have hwl : words.length = q ^ ys.length := by
    rw [hW, foldl_spread_length, List.length_singleton, Nat.one_mul, List.length_map, hyl]
  have hwn : ∀ w ∈ words, w.length = n := by
    rw [hW]
    refine fold_len _ _ (fun r hr => ?_) (fun w hw => by rw [List.mem_singleton.mp hw]; simp)
    obtain ⟨r0, hr0, rfl⟩ := List.mem_map.mp hr
    rw [lets, List.length_map]; exact (hix r0 hr0).1
  have hwq : ∀ w ∈ words, ∀ a ∈ w, a < q := by
    rw [hW]
    exact fold_lt (by omega) _ _ (fun w hw a ha => by
      rw [List.mem_singleton.mp hw] at ha
      rw [(List.mem_replicate.mp ha).2]; omega)
  have htk : (idxs.map (lets q)).take ys.length = idxs.map (lets q) := by rw [hyl, ← List.length_map (f := lets q), List.take_length]
  rw [htk, ← hW] at hpv
  rw [List.take_length] at hLs
  have hq9 : q ^ ys.length ≤ 9 := by rw [hyl]; exact hqm
  obtain ⟨r7, r8⟩ := range_ok (b := ((q ^ ys.length : Nat) : Int)) (n := q ^ ys.length) rfl (by omega)
  with_reducible rename IsRange _ _ _ _ _ _ _ _ => hrg7
  with_reducible rename Fr _ _ _ _ => F8
  with_reducible rename News _ _ _ _ => N8
  have hsz : q ^ ys.length ≤ sizeLine := by simp [sizeLine]; omega
  refine LCg.CompSrc.range (n := q ^ ys.length) rfl F8 N8 hrg7 r7 r8 hsz ?_
  intro g8
  refine rest_inv (fun k ys2 nw => ∃ pv ep seg2, nw = (D3, LCg.lst ys) :: (L + 1 + 1 + 1 + 1, oT') :: (L + 1 + 1 + 1, oM) :: (L + 1 + 1, oQ) :: (L + 1, oX) :: (P.objs p tp1 ea (lineAt cs p) tl1 pv ep ++ (seg2 ++ seg)) ∧ StrsAre pv ((words.drop k).map (wordS q)) ∧ Lists seg2 ys2 (words.take k) ∧ (∀ x ∈ seg2, x.1 ∉ P.addrs)) (q ^ ys.length) ?_ ?_ _ 0 _ _ (by simp) ⟨pv, ep6, [], rfl, hpv, Lists.nil, fun _ h => nomatch h⟩
  · intro k ys2 nw hk H_
    refine hideC fun D_ K_ => ?_
    obtain ⟨pv4, ep9, seg2, e17_, hpv4, hLs2, hseg2⟩ := H_
    refine K_ ?_
    clear K_ D_
    subst e17_
    intro v I2 oI2 C oC D m₂ h9 tk9 E'
    rintro ⟨tv, rfl⟩
    intro hC hx F9 N9 off ne9
    have hoff := off.mem
    clear F8 N8
    have hk' : k < words.length := by rw [hwl]; exact hk
    obtain ⟨w0, hw0⟩ : ∃ w0, words.drop k = w0 :: words.drop (k + 1) := ⟨words[k], List.drop_eq_getElem_cons hk'⟩
    have hw0m : w0 ∈ words := List.mem_of_mem_drop (by rw [hw0]; exact .head _)
    have hw0l := hwn w0 hw0m
    have hw0q := hwq w0 hw0m
    rw [hw0, List.map_cons] at hpv4
    obtain ⟨v0, pv3, rfl⟩ : ∃ v0 pv3, pv4 = v0 :: pv3 := by
      cases hpv4 with
      | cons y t r => exact ⟨_, _, rfl⟩
    obtain ⟨tv0, hv0, hpv3⟩ : ∃ tv0, v0 = Value.str (wordS q w0) tv0 ∧ StrsAre pv3 ((words.drop (k + 1)).map (wordS q)) := by
      cases hpv4 with
      | cons y t r => exact ⟨t, rfl, r⟩
    subst hv0
    have hlenp : ∀ {vs : List Value} {xs : List Str}, StrsAre vs xs → vs.length = xs.length := fun h => by
      induction h with
      | nil => rfl
      | cons _ _ _ ih => simp [ih]
    have hpl3 : pv3.length < 500 := by
      rw [hlenp hpv3, List.length_map, List.length_drop]
      omega
    have hsegs : ∀ x ∈ seg2 ++ seg, x.1 ∉ P.addrs := fun x hx => by
      rcases List.mem_append.mp hx with hx | hx
      · exact hseg2 x hx
      · exact hseg x hx
    have hpre : ∀ x ∈ (I2, oI2) :: (C, oC) :: (D, LCg.lst ys2) :: (D3, LCg.lst ys) :: (L + 1 + 1 + 1 + 1, oT') :: (L + 1 + 1 + 1, oM) :: (L + 1 + 1, oQ) :: (L + 1, oX) :: (seg2 ++ seg), x.1 ∉ P.addrs := by
      intro x hx hin
      obtain ⟨o, hP⟩ := addr_obj P (p := p) (tp := tp1) (ea := ea) (line := lineAt cs p) (tl := tl1) (pv := Value.str (wordS q w0) tv0 :: pv3) (ep := ep9) hin
      have h3 := hoff (x.1, o) (List.mem_append_right [(D3, LCg.lst ys), (L + 1 + 1 + 1 + 1, oT'), (L + 1 + 1 + 1, oM), (L + 1 + 1, oQ), (L + 1, oX)] (List.mem_append_left (seg2 ++ seg) hP))
      rcases List.mem_cons.mp hx with rfl | hx
      · exact h3.1 rfl
      rcases List.mem_cons.mp hx with rfl | hx
      · exact h3.2.1 rfl
      rcases List.mem_cons.mp hx with rfl | hx
      · exact h3.2.2 rfl
      have hL' : @LT.lt Nat _ x.1 L := hcells _ hin
      rcases List.mem_cons.mp hx with rfl | hx
      · exact hD3 hin
      rcases List.mem_cons.mp hx with rfl | hx
      · dsimp only at hL'; omega
      rcases List.mem_cons.mp hx with rfl | hx
      · dsimp only at hL'; omega
      rcases List.mem_cons.mp hx with rfl | hx
      · dsimp only at hL'; omega
      rcases List.mem_cons.mp hx with rfl | hx
      · dsimp only at hL'; omega
      · exact hsegs x hx hin
    dsimp only [LexP.objs, List.cons_append, List.nil_append] at N9
    rename_i xH1_1 xH1_2 xH1_3 xH1_4 xH1_5 xH1_6 xH1_7 xH1_8
    revert G hg hA hu hq hn hn5 hm3 hqm hix htl hR hM gM hmv hm hcd post hL G' hbut hnone l1 dT xA1_1 xA1_2 xA1_3 hlt XX T dX dQ dM hqq hcd' xC1_1 hcells hrg xB2_8 r1 r2 hp hRd hLs hseg hseg4 o3 hMl hm0 hs0 hD3 hnc hb5 dT' xH1_1 xH1_2 hrg7 xH1_8 hyl hpv hW hwl hwn hwq htk hq9 r7 r8 hsz hk hLs2 hseg2 hC hx F9 ne9 hk' hw0 hw0m hw0l hw0q hpv3 N9 off hoff hpv4 hlenp hpl3 hsegs hpre
    exact K_H1 xH1_3 xH1_4 xH1_5 xH1_6 xH1_7 words g8 k ys2 ep9 seg2 I2 oI2 C oC D m₂ h9 tk9 E' tv w0 pv3 tv0
  · intro ys2 nw H_
    refine hideC fun D_ K_ => ?_
    obtain ⟨pv4, ep9, seg2, e18_, hpv4, hLs2, hseg2⟩ := H_
    refine K_ ?_
    clear K_ D_
    subst e18_
    unfold LCg.FinE
    intro D8 h9 tk9 F9 N9 o9
    clear F8 N8
    rw [← hwl, List.drop_length] at hpv4
    obtain rfl : pv4 = [] := by cases hpv4; rfl
    rw [← hwl, List.take_length] at hLs2
    rename_i xH3_1 xH3_2 xH3_3 xH3_4 xH3_5 xH3_6 xH3_7 xH3_8
    revert G hg hA hu hq hn hn5 hm3 hqm hix htl hR hM gM hmv hm hcd post hL G' hbut hnone l1 dT xA1_1 xA1_2 xA1_3 hlt XX T dX dQ dM hqq hcd' xC1_1 hcells hrg xB2_8 r1 r2 hp hRd hLs hseg hseg4 o3 hMl hm0 hs0 hD3 hnc hb5 dT' xH3_1 xH3_2 hrg7 xH3_8 hyl hpv hW hwl hwn hwq htk hq9 r7 r8 hsz hLs2 hseg2 F9 hpv4 N9 o9
    exact K_H3 xH3_3 xH3_4 xH3_5 xH3_6 xH3_7 words g8 ys2 ep9 seg2 D8 h9 tk9⟩
namespace H1
noncomputable abbrev Par : Type := (Heap) × (Nat) × (Tok) × (Tok) × (Tok) × (List (List Nat)) × (Heap) × (Nat) × (List Value) × (Nat) × (List (Addr × Obj)) × (Addr) × (Obj) × (Addr) × (Obj) × (Addr) × (Str → Option Value) × (Heap) × (Nat) × (Value → Shared → Prop) × (Tok) × (List Nat) × (List Value) × (Tok)
noncomputable def P1 (p : Par) : Prop := cap_C2.1 p.1 p.2.1 p.2.2.1 p.2.2.2.1 p.2.2.2.2.1 p.2.2.2.2.2.1 p.2.2.2.2.2.2.1 p.2.2.2.2.2.2.2.1 p.2.2.2.2.2.2.2.2.1 p.2.2.2.2.2.2.2.2.2.1 p.2.2.2.2.2.2.2.2.2.2.1 p.2.2.2.2.2.2.2.2.2.2.2.1 p.2.2.2.2.2.2.2.2.2.2.2.2.1 p.2.2.2.2.2.2.2.2.2.2.2.2.2.1 p.2.2.2.2.2.2.2.2.2.2.2.2.2.2.1 p.2.2.2.2.2.2.2.2.2.2.2.2.2.2.2.1 p.2.2.2.2.2.2.2.2.2.2.2.2.2.2.2.2.1 p.2.2.2.2.2.2.2.2.2.2.2.2.2.2.2.2.2.1 p.2.2.2.2.2.2.2.2.2.2.2.2.2.2.2.2.2.2.1 p.2.2.2.2.2.2.2.2.2.2.2.2.2.2.2.2.2.2.2.1 p.2.2.2.2.2.2.2.2.2.2.2.2.2.2.2.2.2.2.2.2.1 p.2.2.2.2.2.2.2.2.2.2.2.2.2.2.2.2.2.2.2.2.2.1 p.2.2.2.2.2.2.2.2.2.2.2.2.2.2.2.2.2.2.2.2.2.2.1 p.2.2.2.2.2.2.2.2.2.2.2.2.2.2.2.2.2.2.2.2.2.2.2
theorem some_par : Nonempty Par := ⟨⟨default, 0, 0, 0, 0, [], default, 0, [], 0, [], 0, { cls := .none, data := .seq #[] }, 0, { cls := .none, data := .seq #[] }, 0, (fun _ => none), default, 0, (fun _ _ => True), 0, [], [], 0⟩⟩
@[irreducible] noncomputable def cc : Par := @Classical.epsilon Par some_par fun p => ¬ P1 p
@[irreducible] noncomputable def xH1_3 : Heap := by with_unfolding_all exact cc.1
@[irreducible] noncomputable def xH1_4 : Nat := by with_unfolding_all exact cc.2.1
@[irreducible] noncomputable def xH1_5 : Tok := by with_unfolding_all exact cc.2.2.1
@[irreducible] noncomputable def xH1_6 : Tok := by with_unfolding_all exact cc.2.2.2.1
@[irreducible] noncomputable def xH1_7 : Tok := by with_unfolding_all exact cc.2.2.2.2.1
@[irreducible] noncomputable def words : List (List Nat) := by with_unfolding_all exact cc.2.2.2.2.2.1
@[irreducible] noncomputable def g8 : Heap := by with_unfolding_all exact cc.2.2.2.2.2.2.1
@[irreducible] noncomputable def k : Nat := by with_unfolding_all exact cc.2.2.2.2.2.2.2.1
@[irreducible] noncomputable def ys2 : List Value := by with_unfolding_all exact cc.2.2.2.2.2.2.2.2.1
@[irreducible] noncomputable def ep9 : Nat := by with_unfolding_all exact cc.2.2.2.2.2.2.2.2.2.1
@[irreducible] noncomputable def seg2 : List (Addr × Obj) := by with_unfolding_all exact cc.2.2.2.2.2.2.2.2.2.2.1
@[irreducible] noncomputable def I2 : Addr := by with_unfolding_all exact cc.2.2.2.2.2.2.2.2.2.2.2.1
@[irreducible] noncomputable def oI2 : Obj := by with_unfolding_all exact cc.2.2.2.2.2.2.2.2.2.2.2.2.1
@[irreducible] noncomputable def C : Addr := by with_unfolding_all exact cc.2.2.2.2.2.2.2.2.2.2.2.2.2.1
@[irreducible] noncomputable def oC : Obj := by with_unfolding_all exact cc.2.2.2.2.2.2.2.2.2.2.2.2.2.2.1
@[irreducible] noncomputable def D : Addr := by with_unfolding_all exact cc.2.2.2.2.2.2.2.2.2.2.2.2.2.2.2.1
@[irreducible] noncomputable def m₂ : Str → Option Value := by with_unfolding_all exact cc.2.2.2.2.2.2.2.2.2.2.2.2.2.2.2.2.1
@[irreducible] noncomputable def h9 : Heap := by with_unfolding_all exact cc.2.2.2.2.2.2.2.2.2.2.2.2.2.2.2.2.2.1
@[irreducible] noncomputable def tk9 : Nat := by with_unfolding_all exact cc.2.2.2.2.2.2.2.2.2.2.2.2.2.2.2.2.2.2.1
@[irreducible] noncomputable def E' : Value → Shared → Prop := by with_unfolding_all exact cc.2.2.2.2.2.2.2.2.2.2.2.2.2.2.2.2.2.2.2.1
@[irreducible] noncomputable def tv : Tok := by with_unfolding_all exact cc.2.2.2.2.2.2.2.2.2.2.2.2.2.2.2.2.2.2.2.2.1
@[irreducible] noncomputable def w0 : List Nat := by with_unfolding_all exact cc.2.2.2.2.2.2.2.2.2.2.2.2.2.2.2.2.2.2.2.2.2.1
@[irreducible] noncomputable def pv3 : List Value := by with_unfolding_all exact cc.2.2.2.2.2.2.2.2.2.2.2.2.2.2.2.2.2.2.2.2.2.2.1
@[irreducible] noncomputable def tv0 : Tok := by with_unfolding_all exact cc.2.2.2.2.2.2.2.2.2.2.2.2.2.2.2.2.2.2.2.2.2.2.2
noncomputable def cap_H1 : (T_H2 : (Heap) → (Nat) → (Nat) → (Heap) → (Nat) → (Addr) → (List Value) → (Nat) → Prop) ×' ((∀ (h10 : Heap) (tk10 : Nat) (ep10 : Nat) (h11 : Heap) (tk11 : Nat) (rL : Addr) (vsL : List Value) (epL : Nat), T_H2 h10 tk10 ep10 h11 tk11 rL vsL epL) → cap_C2.1 xH1_3 xH1_4 xH1_5 xH1_6 xH1_7 words g8 k ys2 ep9 seg2 I2 oI2 C oC D m₂ h9 tk9 E' tv w0 pv3 tv0) := ⟨_, by
  intro K_H2
  intro G hg hA hu hq hn hn5 hm3 hqm hix htl hR hM gM hmv hm hcd post hL G' hbut hnone l1 dT xA1_1 xA1_2 xA1_3 hlt XX T dX dQ dM hqq hcd' xC1_1 hcells hrg xB2_8 r1 r2 hp hRd hLs hseg hseg4 o3 hMl hm0 hs0 hD3 hnc hb5 dT' xH1_1 xH1_2 hrg7 xH1_8 hyl hpv hW hwl hwn hwq htk hq9 r7 r8 hsz hk hLs2 hseg2 hC hx F9 ne9 hk' hw0 hw0m hw0l hw0q hpv3 N9 off hoff hpv4 hlenp hpl3 hsegs hpre
  iterate 9 walk_at "go"
  with_reducible rename Fr _ _ _ _ => F9
  with_reducible rename News _ _ _ _ => N9
  refine pop_use (pre := (I2, oI2) :: (C, oC) :: (D, LCg.lst ys2) :: (D3, LCg.lst ys) :: (L + 1 + 1 + 1 + 1, oT') :: (L + 1 + 1 + 1, oM) :: (L + 1 + 1, oQ) :: (L + 1, oX) :: (seg2 ++ seg)) (p := p) (tp := tp1) (tl := tl1) (ea := ea) (ep := ep9) (line := lineAt cs p) (pv := pv3) G' F9 P (fun x hx => N9 x (mem_swap (a := [(I2, oI2), (C, oC), (D, LCg.lst ys2), (D3, LCg.lst ys), (L + 1 + 1 + 1 + 1, oT'), (L + 1 + 1 + 1, oM), (L + 1 + 1, oQ), (L + 1, oX)]) hx)) hpre (by show dep + 1 ≤ 700; omega) (by show uni + 3 ≤ 4000; omega) rfl (by omega) ?_
  intro h10 tk10 ep10 hb10 F10 N10
  replace N10 : News g' L h10 ([(I2, oI2), (C, oC), (D, LCg.lst ys2), (D3, LCg.lst ys), (L + 1 + 1 + 1 + 1, oT'), (L + 1 + 1 + 1, oM), (L + 1 + 1, oQ), (L + 1, oX)] ++ (P.objs p tp1 ea (lineAt cs p) tl1 pv3 ep10 ++ (seg2 ++ seg))) := fun x hx => N10 x (mem_swap hx)
  clear F9 N9
  dsimp only [List.cons_append, List.nil_append] at N10
  iterate 4 walk_at "go"
  (try k_unfold)
  refine letters_use (idx := enc q w0) G' F10 N10 (by show dep + 1 ≤ 700; omega) (by show uni + 3 ≤ 4000; omega) rfl (enc_lt hq hw0q) (by rw [enc_length]; omega) hqq.1 hqq.2 ?_
  intro h11 tk11 rL vsL epL hs11 F11 N11 hne11 hI11
  clear F10 N10
  rename_i xH2_1
  revert G hg hA hu hq hn hn5 hm3 hqm hix htl hR hM gM hmv hm hcd post hL G' hbut hnone l1 dT xA1_1 xA1_2 xA1_3 hlt XX T dX dQ dM hqq hcd' xC1_1 hcells hrg xB2_8 r1 r2 hp hRd hLs hseg hseg4 o3 hMl hm0 hs0 hD3 hnc hb5 dT' xH1_1 xH1_2 hrg7 xH1_8 hyl hpv hW hwl hwn hwq htk hq9 r7 r8 hsz hk hLs2 hseg2 hC hx ne9 hk' hw0 hw0m hw0l hw0q hpv3 off hoff hpv4 hlenp hpl3 hsegs hpre xH2_1 qk ek hb10 hs11 F11 N11 hne11 hI11
  exact K_H2 h10 tk10 ep10 h11 tk11 rL vsL epL⟩
namespace H2
noncomputable abbrev Par : Type := (Heap) × (Nat) × (Nat) × (Heap) × (Nat) × (Addr) × (List Value) × (Nat)
noncomputable def P1 (p : Par) : Prop := cap_H1.1 p.1 p.2.1 p.2.2.1 p.2.2.2.1 p.2.2.2.2.1 p.2.2.2.2.2.1 p.2.2.2.2.2.2.1 p.2.2.2.2.2.2.2
theorem some_par : Nonempty Par := ⟨⟨default, 0, 0, default, 0, 0, [], 0⟩⟩
@[irreducible] noncomputable def cc : Par := @Classical.epsilon Par some_par fun p => ¬ P1 p
@[irreducible] noncomputable def h10 : Heap := by with_unfolding_all exact cc.1
@[irreducible] noncomputable def tk10 : Nat := by with_unfolding_all exact cc.2.1
@[irreducible] noncomputable def ep10 : Nat := by with_unfolding_all exact cc.2.2.1
@[irreducible] noncomputable def h11 : Heap := by with_unfolding_all exact cc.2.2.2.1
@[irreducible] noncomputable def tk11 : Nat := by with_unfolding_all exact cc.2.2.2.2.1
@[irreducible] noncomputable def rL : Addr := by with_unfolding_all exact cc.2.2.2.2.2.1
@[irreducible] noncomputable def vsL : List Value := by with_unfolding_all exact cc.2.2.2.2.2.2.1
@[irreducible] noncomputable def epL : Nat := by with_unfolding_all exact cc.2.2.2.2.2.2.2
theorem core : cap_H1.1 h10 tk10 ep10 h11 tk11 rL vsL epL := by
  intro G hg hA hu hq hn hn5 hm3 hqm hix htl hR hM gM hmv hm hcd post hL G' hbut hnone l1 dT xA1_1 xA1_2 xA1_3 hlt XX T dX dQ dM hqq hcd' xC1_1 hcells hrg xB2_8 r1 r2 hp hRd hLs hseg hseg4 o3 hMl hm0 hs0 hD3 hnc hb5 dT' xH1_1 xH1_2 hrg7 xH1_8 hyl hpv hW hwl hwn hwq htk hq9 r7 r8 hsz hk hLs2 hseg2 hC hx ne9 hk' hw0 hw0m hw0l hw0q hpv3 off hoff hpv4 hlenp hpl3 hsegs hpre xH2_1 qk ek hb10 hs11 F11 N11 hne11 hI11
  have hI11 : IntsAre vsL (w0.map Int.ofNat) := by
    have := lets_enc hq hw0q
    unfold lets at this
    rw [this] at hI11; exact hI11
  have hrLa : rL ∉ P.addrs := fun hin => by
    obtain ⟨o, ho⟩ := addr_obj P (p := p) (tp := tp1) (ea := ea) (line := lineAt cs p) (tl := tl1) (pv := pv3) (ep := ep10) hin
    exact hne11 _ (List.mem_append_right [(I2, oI2), (C, oC), (D, LCg.lst ys2), (D3, LCg.lst ys), (L + 1 + 1 + 1 + 1, oT'), (L + 1 + 1 + 1, oM), (L + 1 + 1, oQ), (L + 1, oX)] (List.mem_append_left (seg2 ++ seg) ho)) rfl
  have hoff6 : LCg.Off3 I2 C D ((D3, LCg.lst ys) :: (L + 1 + 1 + 1 + 1, oT') :: (L + 1 + 1 + 1, oM) :: (L + 1 + 1, oQ) :: (L + 1, oX) :: (P.objs p tp1 ea (lineAt cs p) tl1 pv3 ep10 ++ ((rL, listOf vsL.toArray epL) :: (seg2 ++ seg)))) := LCg.Off3.of fun x hx => by
    rcases List.mem_append.mp (show x ∈ [(D3, LCg.lst ys), (L + 1 + 1 + 1 + 1, oT'), (L + 1 + 1 + 1, oM), (L + 1 + 1, oQ), (L + 1, oX)] ++ (P.objs p tp1 ea (lineAt cs p) tl1 pv3 ep10 ++ ((rL, listOf vsL.toArray epL) :: (seg2 ++ seg))) from hx) with hx | hx
    · exact hoff x (List.mem_append_left (P.objs p tp1 ea (lineAt cs p) tl1 (Value.str (wordS q w0) tv0 :: pv3) ep9 ++ (seg2 ++ seg)) hx)
    rcases List.mem_append.mp hx with hx | hx
    · obtain ⟨o, ho⟩ := addr_obj P (p := p) (tp := tp1) (ea := ea) (line := lineAt cs p) (tl := tl1) (pv := Value.str (wordS q w0) tv0 :: pv3) (ep := ep9) (P.objs_addr hx)
      exact hoff (x.1, o) (List.mem_append_right [(D3, LCg.lst ys), (L + 1 + 1 + 1 + 1, oT'), (L + 1 + 1 + 1, oM), (L + 1 + 1, oQ), (L + 1, oX)] (List.mem_append_left (seg2 ++ seg) ho))
    rcases List.mem_cons.mp hx with rfl | hx
    · exact ⟨fun z => hne11 (I2, oI2) (by k_mem) z.symm, fun z => hne11 (C, oC) (by k_mem) z.symm, fun z => hne11 (D, LCg.lst ys2) (by k_mem) z.symm⟩
    · exact hoff x (List.mem_append_right [(D3, LCg.lst ys), (L + 1 + 1 + 1 + 1, oT'), (L + 1 + 1 + 1, oM), (L + 1 + 1, oQ), (L + 1, oX)] (List.mem_append_right (P.objs p tp1 ea (lineAt cs p) tl1 (Value.str (wordS q w0) tv0 :: pv3) ep9) hx))
  refine LCg.CompEnd.intro F11 N11 ((D3, LCg.lst ys) :: (L + 1 + 1 + 1 + 1, oT') :: (L + 1 + 1 + 1, oM) :: (L + 1 + 1, oQ) :: (L + 1, oX) :: (P.objs p tp1 ea (lineAt cs p) tl1 pv3 ep10 ++ ((rL, listOf vsL.toArray epL) :: (seg2 ++ seg)))) (fun x hx => ?_) hoff6 trivial ⟨pv3, ep10, (rL, listOf vsL.toArray epL) :: seg2, rfl, hpv3, ?_, ?_⟩
  · rcases List.mem_append.mp (show x ∈ [(I2, oI2), (C, oC), (D, LCg.lst ys2), (D3, LCg.lst ys), (L + 1 + 1 + 1 + 1, oT'), (L + 1 + 1 + 1, oM), (L + 1 + 1, oQ), (L + 1, oX)] ++ (P.objs p tp1 ea (lineAt cs p) tl1 pv3 ep10 ++ ((rL, listOf vsL.toArray epL) :: (seg2 ++ seg))) from hx) with hx | hx
    · exact .tail _ (List.mem_append_left (P.objs p tp1 ea (lineAt cs p) tl1 pv3 ep10 ++ (seg2 ++ seg)) hx)
    rcases List.mem_append.mp hx with hx | hx
    · exact .tail _ (List.mem_append_right [(I2, oI2), (C, oC), (D, LCg.lst ys2), (D3, LCg.lst ys), (L + 1 + 1 + 1 + 1, oT'), (L + 1 + 1 + 1, oM), (L + 1 + 1, oQ), (L + 1, oX)] (List.mem_append_left (seg2 ++ seg) hx))
    rcases List.mem_cons.mp hx with rfl | hx
    · exact .head _
    · exact .tail _ (List.mem_append_right [(I2, oI2), (C, oC), (D, LCg.lst ys2), (D3, LCg.lst ys), (L + 1 + 1 + 1 + 1, oT'), (L + 1 + 1 + 1, oM), (L + 1 + 1, oQ), (L + 1, oX)] (List.mem_append_right (P.objs p tp1 ea (lineAt cs p) tl1 pv3 ep10) hx))
  · have ht : words.take (k + 1) = words.take k ++ [w0] := by
      rw [List.take_add_one]
      have : words[k]? = some w0 := by
        have := congrArg List.head? hw0
        rw [List.head?_drop] at this
        exact this
      rw [this]; rfl
    rw [ht]
    exact hLs2.snoc hI11
  · intro x hx
    rcases List.mem_cons.mp hx with rfl | hx
    · exact hrLa
    · exact hseg2 x hx
theorem all : ∀ p : Par, P1 p := fun p => Classical.byContradiction fun hn => (@Classical.epsilon_spec Par (fun p => ¬ P1 p) ⟨p, hn⟩) (by with_unfolding_all exact core)
end H2
theorem core : cap_C2.1 xH1_3 xH1_4 xH1_5 xH1_6 xH1_7 words g8 k ys2 ep9 seg2 I2 oI2 C oC D m₂ h9 tk9 E' tv w0 pv3 tv0 := cap_H1.2 (fun h10 tk10 ep10 h11 tk11 rL vsL epL => H2.all ⟨h10, tk10, ep10, h11, tk11, rL, vsL, epL⟩)
theorem all : ∀ p : Par, P1 p := fun p => Classical.byContradiction fun hn => (@Classical.epsilon_spec Par (fun p => ¬ P1 p) ⟨p, hn⟩) (by with_unfolding_all exact core)
end H1
namespace H3
noncomputable abbrev Par : Type := (Heap) × (Nat) × (Tok) × (Tok) × (Tok) × (List (List Nat)) × (Heap) × (List Value) × (Nat) × (List (Addr × Obj)) × (Addr) × (Heap) × (Nat)
noncomputable def P1 (p : Par) : Prop := cap_C2.2.1 p.1 p.2.1 p.2.2.1 p.2.2.2.1 p.2.2.2.2.1 p.2.2.2.2.2.1 p.2.2.2.2.2.2.1 p.2.2.2.2.2.2.2.1 p.2.2.2.2.2.2.2.2.1 p.2.2.2.2.2.2.2.2.2.1 p.2.2.2.2.2.2.2.2.2.2.1 p.2.2.2.2.2.2.2.2.2.2.2.1 p.2.2.2.2.2.2.2.2.2.2.2.2
theorem some_par : Nonempty Par := ⟨⟨default, 0, 0, 0, 0, [], default, [], 0, [], 0, default, 0⟩⟩
@[irreducible] noncomputable def cc : Par := @Classical.epsilon Par some_par fun p => ¬ P1 p
@[irreducible] noncomputable def xH3_3 : Heap := by with_unfolding_all exact cc.1
@[irreducible] noncomputable def xH3_4 : Nat := by with_unfolding_all exact cc.2.1
@[irreducible] noncomputable def xH3_5 : Tok := by with_unfolding_all exact cc.2.2.1
@[irreducible] noncomputable def xH3_6 : Tok := by with_unfolding_all exact cc.2.2.2.1
@[irreducible] noncomputable def xH3_7 : Tok := by with_unfolding_all exact cc.2.2.2.2.1
@[irreducible] noncomputable def words : List (List Nat) := by with_unfolding_all exact cc.2.2.2.2.2.1
@[irreducible] noncomputable def g8 : Heap := by with_unfolding_all exact cc.2.2.2.2.2.2.1
@[irreducible] noncomputable def ys2 : List Value := by with_unfolding_all exact cc.2.2.2.2.2.2.2.1
@[irreducible] noncomputable def ep9 : Nat := by with_unfolding_all exact cc.2.2.2.2.2.2.2.2.1
@[irreducible] noncomputable def seg2 : List (Addr × Obj) := by with_unfolding_all exact cc.2.2.2.2.2.2.2.2.2.1
@[irreducible] noncomputable def D8 : Addr := by with_unfolding_all exact cc.2.2.2.2.2.2.2.2.2.2.1
@[irreducible] noncomputable def h9 : Heap := by with_unfolding_all exact cc.2.2.2.2.2.2.2.2.2.2.2.1
@[irreducible] noncomputable def tk9 : Nat := by with_unfolding_all exact cc.2.2.2.2.2.2.2.2.2.2.2.2
theorem core : cap_C2.2.1 xH3_3 xH3_4 xH3_5 xH3_6 xH3_7 words g8 ys2 ep9 seg2 D8 h9 tk9 := by
  intro G hg hA hu hq hn hn5 hm3 hqm hix htl hR hM gM hmv hm hcd post hL G' hbut hnone l1 dT xA1_1 xA1_2 xA1_3 hlt XX T dX dQ dM hqq hcd' xC1_1 hcells hrg xB2_8 r1 r2 hp hRd hLs hseg hseg4 o3 hMl hm0 hs0 hD3 hnc hb5 dT' xH3_1 xH3_2 hrg7 xH3_8 hyl hpv hW hwl hwn hwq htk hq9 r7 r8 hsz hLs2 hseg2 F9 hpv4 N9 o9
  have hD8 : D8 ∉ P.addrs := fun hin => by
    obtain ⟨o, ho⟩ := addr_obj P (p := p) (tp := tp1) (ea := ea) (line := lineAt cs p) (tl := tl1) (pv := []) (ep := ep9) hin
    exact off1_mem o9 _ (List.mem_append_right [(D3, LCg.lst ys), (L + 1 + 1 + 1 + 1, oT'), (L + 1 + 1 + 1, oM), (L + 1 + 1, oQ), (L + 1, oX)] (List.mem_append_left (seg2 ++ seg) ho)) rfl
  dsimp only [LexP.objs, List.cons_append, List.nil_append] at N9
  repeat walk_at "go"
  with_reducible rename Fr _ _ _ _ => F10
  with_reducible rename News _ _ _ _ => N10
  rename_i D9 h10 l10
  have hD9 : D9 ∉ P.addrs := fun hin => by
    simp only [LexP.addrs, List.mem_cons, List.not_mem_nil, or_false] at hin
    rcases hin with rfl | rfl | rfl | rfl | rfl | rfl | rfl | rfl | rfl <;> first | exact Nat.lt_irrefl _ (by k_mem : @LT.lt Nat _ _ _) | (have l10 := l10; simp only [LexP.c'] at l10; omega) | omega
  have old9 : ∀ {a : Nat} {o : Obj}, (a, o) ∈ [(D9, tupO #[.ref D3, .ref D8]), (D8, LCg.lst ys2), (D3, LCg.lst ys), (L + 1 + 1 + 1 + 1, oT'), (L + 1 + 1 + 1, oM), (L + 1 + 1, oQ), (L + 1, oX)] ++ (P.objs p tp1 ea (lineAt cs p) tl1 [] ep9 ++ (seg2 ++ seg)) → a ∉ P.addrs → h10.get? a = some o ∧ hp0.get? a = none := fun hin ha => ⟨N10.get hin, fresh_but hbut (N10.fresh hin) ha⟩
  refine post h10 _ D9 D3 D8 ys ys2 (seg2 ++ seg) p tp1 tl1 ep9 (but_of [P.AT, P.dx, P.pb] hbut (fun x hx => (hm x hx).1) F10 N10 ?_) ?_ ?_ ?_ hp ?_ ?_ (codeRec_sub F10.keep hcd')
  · intro x hx
    simp only [List.mem_cons, List.not_mem_nil, or_false] at hx
    rcases hx with rfl | rfl | rfl | rfl | rfl | rfl | rfl | rfl | rfl
    · exact .inl (.head _)
    · exact .inl (.tail _ (.head _))
    · exact .inl (.tail _ (.tail _ (.head _)))
    · exact .inr (by k_mem)
    · exact .inr (by k_mem)
    · exact .inr (by k_mem)
    · exact .inr (by k_mem)
    · exact .inr (by k_mem)
    · exact .inr (by k_mem)
  · intro x hx
    rcases List.mem_cons.mp hx with rfl | hx
    · exact old9 (.head _) hD9
    rcases List.mem_cons.mp hx with rfl | hx
    · exact old9 (.tail _ (.tail _ (.head _))) hD3
    rcases List.mem_cons.mp hx with rfl | hx
    · exact old9 (.tail _ (.head _)) hD8
    · refine old9 (List.mem_append_right _ (List.mem_append_right _ hx)) ?_
      rcases List.mem_append.mp hx with hx | hx
      · exact hseg2 x hx
      · exact hseg x hx
  · exact hLs.mono fun x hx => List.mem_append_right _ hx
  · rw [← hW]
    exact hLs2.mono fun x hx => List.mem_append_left _ hx
  · rw [List.drop_length] at hRd
    exact hRd
  · exact fun x hx => N10.get (List.mem_append_right [(D9, tupO #[.ref D3, .ref D8]), (D8, LCg.lst ys2), (D3, LCg.lst ys), (L + 1 + 1 + 1 + 1, oT'), (L + 1 + 1 + 1, oM), (L + 1 + 1, oQ), (L + 1, oX)] (List.mem_append_left (seg2 ++ seg) hx))
theorem all : ∀ p : Par, P1 p := fun p => Classical.byContradiction fun hn => (@Classical.epsilon_spec Par (fun p => ¬ P1 p) ⟨p, hn⟩) (by with_unfolding_all exact core)
end H3
theorem core : cap_C1.2.1 xC2_1 h7 tk7 uR uK uL tW pv ep6 oT' uT := cap_C2.2.2 (fun xH1_3 xH1_4 xH1_5 xH1_6 xH1_7 words g8 k ys2 ep9 seg2 I2 oI2 C oC D m₂ h9 tk9 E' tv w0 pv3 tv0 => H1.all ⟨xH1_3, xH1_4, xH1_5, xH1_6, xH1_7, words, g8, k, ys2, ep9, seg2, I2, oI2, C, oC, D, m₂, h9, tk9, E', tv, w0, pv3, tv0⟩) (fun xH3_3 xH3_4 xH3_5 xH3_6 xH3_7 words g8 ys2 ep9 seg2 D8 h9 tk9 => H3.all ⟨xH3_3, xH3_4, xH3_5, xH3_6, xH3_7, words, g8, ys2, ep9, seg2, D8, h9, tk9⟩)
theorem all : ∀ p : Par, P1 p := fun p => Classical.byContradiction fun hn => (@Classical.epsilon_spec Par (fun p => ¬ P1 p) ⟨p, hn⟩) (by with_unfolding_all exact core)
end C2
theorem core : cap_B2.1 t0 t5 k5 h5 tk5 ep5 := cap_C1.2.2 (fun xD1_1 i h7 tk7 I oI uR uK uL tW pv ep6 oT' uT row aR vsR epR ws => D1.all ⟨xD1_1, i, h7, tk7, I, oI, uR, uK, uL, tW, pv, ep6, oT', uT, row, aR, vsR, epR, ws⟩) (fun xC2_1 h7 tk7 uR uK uL tW pv ep6 oT' uT => C2.all ⟨xC2_1, h7, tk7, uR, uK, uL, tW, pv, ep6, oT', uT⟩)
theorem all : ∀ p : Par, P1 p := fun p => Classical.byContradiction fun hn => (@Classical.epsilon_spec Par (fun p => ¬ P1 p) ⟨p, hn⟩) (by with_unfolding_all exact core)
end C1
theorem core : cap_A1.2.1 xB2_3 xB2_4 xB2_5 xB2_6 xB2_7 g2 ys p tp1 tl1 seg D3 h3 tk3 := cap_B2.2 (fun t0 t5 k5 h5 tk5 ep5 => C1.all ⟨t0, t5, k5, h5, tk5, ep5⟩)
theorem all : ∀ p : Par, P1 p := fun p => Classical.byContradiction fun hn => (@Classical.epsilon_spec Par (fun p => ¬ P1 p) ⟨p, hn⟩) (by with_unfolding_all exact core)
end B2
theorem core : cap_top.1 h₁ tk oT oM oQ oX := cap_A1.2.2 (fun xB1_3 xB1_4 xB1_5 xB1_6 xB1_7 g2 k ys p tp1 tl1 seg I2 oI2 C oC D m₂ h4 tk4 E' tv rk l' => B1.all ⟨xB1_3, xB1_4, xB1_5, xB1_6, xB1_7, g2, k, ys, p, tp1, tl1, seg, I2, oI2, C, oC, D, m₂, h4, tk4, E', tv, rk, l'⟩) (fun xB2_3 xB2_4 xB2_5 xB2_6 xB2_7 g2 ys p tp1 tl1 seg D3 h3 tk3 => B2.all ⟨xB2_3, xB2_4, xB2_5, xB2_6, xB2_7, g2, ys, p, tp1, tl1, seg, D3, h3, tk3⟩)
theorem all : ∀ p : Par, P1 p := fun p => Classical.byContradiction fun hn => (@Classical.epsilon_spec Par (fun p => ¬ P1 p) ⟨p, hn⟩) (by with_unfolding_all exact core)
end A1
theorem core : P0 cs P w loose mean mg mb g prog dep fra gua uni hp0 gn dr tk0 os0 Q E tp tl ea ep idxs q n R M mv tc tq tn := cap_top.2 (fun h₁ tk oT oM oQ oX => A1.all ⟨h₁, tk, oT, oM, oQ, oX⟩)
theorem all : ∀ p : Par, P1 p := fun p => Classical.byContradiction fun hn => (@Classical.epsilon_spec Par (fun p => ¬ P1 p) ⟨p, hn⟩) (by with_unfolding_all exact core)
end F17c
theorem line_spec {w : World} {loose : List Str} {mean : ExcName → Option Value} {mg mb : Str → Option Value} {g : Heap} {prog : Program} {A : Around} {s : Shared} {Q E : Value → Shared → Prop} (G : Gd w loose mean mg mb g) (hg : Sub g s.heap) (hA : A.depth ≤ 600) (hu : A.units ≤ 3000) (hh : A.handled = none) {cs : List Nat} (P : LexP (S cs)) {tp tl : Tok} {ea ep : Nat} {idxs : List (List Nat)} {q n : Nat} {R : List Nat} (hq : q = 2 ∨ q = 3) (hn : 1 ≤ n) (hn5 : n ≤ 5) (hm3 : idxs.length ≤ 3) (hqm : q ^ idxs.length ≤ 9) (hix : ∀ r ∈ idxs, r.length = n ∧ ∀ i ∈ r, i < 6)
   (htl : cs.length < 1000) (hR : Reads cs (idxs.map sgns) R) {M : Addr} {mv : List Value} (hM : s.heap.IsList M mv.toArray) (gM : ∀ a ∈ P.addrs, a ≠ M) (hmv : MarksAre q mv) {tc tq tn : Tok}
   (hm : ∀ o ∈ P.objs 0 tp ea (lineAt cs 0) tl [] ep, s.heap.get? o.1 = some o.2 ∧ g.get? o.1 = none) (hcd : s.heap.CodeRec (.ref P.c') q3)
   (post : ∀ h' tk r D1 D2 ys ys2 seg p' tp' tl' ep', But [P.AT, P.dx, P.pb] s.heap h' → (∀ x ∈ (r, tupO #[.ref D1, .ref D2]) :: (D1, LCg.lst ys) :: (D2, LCg.lst ys2) :: seg, h'.get? x.1 = some x.2 ∧ s.heap.get? x.1 = none) →
     Lists seg ys (idxs.map (lets q)) → Lists seg ys2 ((idxs.map (lets q)).foldl (spread q) [List.replicate n 0]) → p' ≤ cs.length → cs.drop p' = R → (∀ x ∈ P.objs p' tp' ea (lineAt cs p') tl' [] ep', h'.get? x.1 = some x.2) → h'.CodeRec (.ref P.c') q3 → Q (.ref r) { s with heap := h', toks := tk }) :
   wpAny (model prog w) A (call (.ref 135) [.ref P.lx, .int (idxs.length : Int) tc, .int (q : Int) tq, .int (n : Int) tn, .ref M]) Q E s := by
  refine hideC fun D_ K_ => ?_
  obtain ⟨hand, dep, fra, gua, uni⟩ := A
  refine K_ ?_
  clear K_ D_
  refine hideC fun D_ K_ => ?_
  obtain ⟨hp0, gn, dr, tk0, os0⟩ := s
  refine K_ ?_
  clear K_ D_
  dsimp only at hh
  subst hh
  exact F17c.all ⟨cs, P, w, loose, mean, mg, mb, g, prog, dep, fra, gua, uni, hp0, gn, dr, tk0, os0, Q, E, tp, tl, ea, ep, idxs, q, n, R, M, mv, tc, tq, tn⟩ G hg hA hu hq hn hn5 hm3 hqm hix htl hR hM gM hmv hm hcd post
end
end Mine
end
section
open PySem PySem.W PyProof.Rows PySem.Calls
set_option maxRecDepth 100000
set_option maxHeartbeats 8000000
set_option linter.unusedVariables false
set_option linter.unusedSimpArgs false
namespace Mine
theorem fill_F18 : ∀ (w : World) (h : Heap), (hd.heap_1 w.params).In h → PySem.Challenge.rw_qu0050_01.foot = 8 := by
  k_fill; intros; rfl
section
theorem iseof_spec {w : World} {loose : List Str} {mean : ExcName → Option Value} {mg mb : Str → Option Value} {g : Heap} {prog : Program} {A : Around} {s : Shared} {Q E : Value → Shared → Prop} (G : Gd w loose mean mg mb g) (hg : Sub g s.heap) (hA : A.depth ≤ 700) (hh : A.handled = none) {x : Nat} {tx : Tok}
   (post : ∀ h' tk, Sub s.heap h' → Q (.bool (decide (x = 0))) { s with heap := h', toks := tk }) :
   wpAny (model prog w) A (call (.ref 108) [.int (x : Int) tx]) Q E s := by
  refine call_top [] G hg (fun p hp => nomatch hp) (by k_is) (by k_is) rfl (locs rfl) (by show A.depth < 1000; omega) ?_
  intro g' L h₁ tk G' hbut hnone hL F N
  simp only [List.map_nil] at hbut
  have XX := G'.X
  have T := G'.T
  obtain ⟨hand, dep, fra, gua, uni⟩ := A
  dsimp only at hh hA
  subst hh
  (try dsimp only)
  repeat walk_at "go"
  (try dsimp only)
  have e : (((x : Nat) : Int) == 0) = decide (x = 0) := by
    by_cases h : x = 0
    · subst h; rfl
    · have : ¬ ((x : Int) = 0) := by omega
      simp [h]
  rw [e]
  exact post _ _ (hbut.sub.trans F.keep)
theorem add_S {prog : Program} {w : World} {A : Around} {E : Value → Shared → Prop} {s : Shared} {a b : List Nat} {x y : Str} {t u : Tok} {Q : Value → Shared → Prop} (h : ∀ t' tk, Q (.str (S (a ++ b)) t') { s with toks := tk }) (hsz : a.length + b.length ≤ 100000) (ex : x = S a := by exact S_of _) (ey : y = S b := by exact S_of _) :
   wpAny (model prog w) A (binaryOp .Add (.str x t) (.str y u)) Q E s := by
  subst ex ey
  exact PyProof.Rows.add_str (by rw [S_app]; exact h) (hsz := by rw [S_len, S_len, sizeLine_eq]; omega)
theorem paired_S {l : List Nat} {f : Nat → List Nat} : ∀ (cs : List Nat) (vs ys : List Value), vs.length = cs.length → (∀ (j : Nat) (v : Value), vs[j]? = some v → ∃ c u, cs[j]? = some c ∧ v = Value.str (S [c]) u) → Paired (fun v r => ∃ c u t, v = Value.str (S [c]) u ∧ r = Value.str (S (f c)) t) vs ys → StrsAre ys ((cs.map f).map S)
  | [], [], _, _, _, h => by cases h; exact .nil
  | [], _ :: _, _, e, _, _ => by cases e
  | _ :: _, [], _, e, _, _ => by cases e
  | c :: cs, v :: vs, ys, e, hv, h => by
    cases h with
    | cons h1 h2 =>
      obtain ⟨c', u, t, e1, rfl⟩ := h1
      obtain ⟨c2, u2, e2, e3⟩ := hv 0 v rfl
      simp only [List.getElem?_cons_zero, Option.some.injEq] at e2
      subst e2
      have : c' = c := by
        rw [e3] at e1
        have := congrArg (fun v : Value => match v with | Value.str x _ => x | _ => S []) e1
        have := S_inj this
        simpa using this.symm
      subst this
      exact .cons _ _ (paired_S (l := l) cs vs _ (by simpa using e) (fun j v hj => by simpa using hv (j + 1) v (by simpa using hj)) h2)
theorem ListComp_S {prog : Program} {w : World} {A : Around} {E : Value → Shared → Prop} {s : Shared} {env : Env} {h₀ : Heap} {L : Addr} {m : Str → Option Value} {news : List (Addr × Obj)} {elt iter : Expr} {x : Str} {px : Pos} {scope : Scope} {pos : Pos} {Q : Value → Shared → Prop} {l : List Nat} (f : Nat → List Nat)
    (hh : A.handled = none) (hfree : ∀ y ∈ scope.names, y.2 ≠ .free) (hcell : ∀ y ∈ scope.names, y.2 ≠ .cell) (hkind : scope.kind = .function)
    (hnames : ∀ y ∈ scope.names, y.2 = .local → scope.names.lookup y.1 = some .local) (hx : scope.names.lookup x = some .local)
    (h : wpAny (model prog w) A (eval iter env) (fun xv s₁ => ∃ t, xv = .str (S l) t ∧ l.length ≤ 1000 ∧ Fr h₀ L s₁.heap m ∧ News h₀ L s₁.heap news ∧
      (∀ C c u s₂ m₂ E', s₂.heap.Ns (compEnv scope C env).locals m₂ → m₂ x = some (.str (S [c]) u) → wpAny (model prog w) A (eval elt (compEnv scope C env)) (fun r s₃ => (∃ t, r = .str (S (f c)) t) ∧ Keeps s₂ s₃) E' s₂) ∧
      (∀ D (ys : List Value) h' tk, Fr h₀ L h' m → News h₀ L h' news → h'.IsList D ys.toArray → StrsAre ys ((l.map f).map S) → Q (.ref D) { s₁ with heap := h', toks := tk })) E s)
    (hs : ∀ x, foldedSetIterable iter env x = pure x) :
    wpAny (model prog w) A (eval (.ListComp elt [⟨.Name x px, iter, [], 0⟩] scope pos) env) Q E s := by
  refine wpAny_ListComp_walk (fun _ => true) (fun v r => ∃ c u t, v = Value.str (S [c]) u ∧ r = Value.str (S (f c)) t) hfree hcell hkind hnames hx
    (wpAny_mono h (fun xv s₁ h₁ => ?_) fun _ _ e => e) hs
  obtain ⟨t, rfl, hsz, F, N, helt, hQ⟩ := h₁
  refine wpAny_pyIter_str fun o St W hst => ?_
  have up : ∀ (h' : Heap), (∀ b o', b ∉ [s₁.heap.objs.size] → (s₁.heap.push o).get? b = some o' → h'.get? b = some o') → ∀ b o', s₁.heap.get? b = some o' → h'.get? b = some o' :=
    fun h' hk b o' e => hk b o' (old_not_new e) (Heap.get?_push_of_some _ e)
  refine ⟨s₁.heap.objs.size, [s₁.heap.objs.size], [s₁.heap.objs.size], (S l).cps.size, SignAt (S l), St, rfl, W A hh, ?_, hst, ?_, ⟨?_, ?_⟩, ?_⟩
  · have e : (S l).cps.size = l.length := S_len l
    rw [e, sizeLine_eq]; omega
  · intro b hb
    show b < (s₁.heap.push o).objs.size
    rw [Heap.size_push, List.mem_singleton.mp hb]
    exact Nat.lt_succ_self _
  · intro C i v s₃ m₃ E' hP hn hm _ _
    show wpAny _ _ (pure true) _ _ _
    exact wpAny_pure ⟨rfl, s₃.heap, s₃.toks, rfl, fun _ _ e => e⟩
  · intro C i v s₃ m₃ E' hP hp hn hm _ _
    obtain ⟨c, u, _, rfl⟩ := hP
    exact wpAny_mono (helt C c u s₃ m₃ E' hn hm) (fun r s₄ h₄ => by
      obtain ⟨⟨t', e⟩, k⟩ := h₄
      exact ⟨⟨c, u, t', rfl, e⟩, k⟩) fun _ _ e => e
  · intro D h' tk ys vs hnew hlD hplD hlen hP hF hk
    refine hQ D ys.toList h' tk (F.keeps (up h' hk)) (N.grown (up h' hk)) (by rw [Array.toArray_toList]; exact hlD) ?_
    have hF' : Paired (fun v r => ∃ c u t, v = Value.str (S [c]) u ∧ r = Value.str (S (f c)) t) vs ys.toList := by
      have e : vs.filter (fun _ => true) = vs := List.filter_eq_self.mpr fun _ _ => rfl
      rw [e] at hF
      exact hF
    refine paired_S (l := l) l vs ys.toList (by rw [hlen]; exact S_len l) (fun j v hj => ?_) hF'
    obtain ⟨c, u, hc, rfl⟩ := hP j v hj
    exact ⟨c, u, by simpa [S] using hc, rfl⟩
noncomputable def wr (mode : Nat) (l : List Nat) : List Nat := if mode = 0 then 34 :: (l ++ [34]) else if mode = 1 then l.flatMap (fun c => [92, c]) else l
theorem written_spec {w : World} {loose : List Str} {mean : ExcName → Option Value} {mg mb : Str → Option Value} {g : Heap} {prog : Program} {A : Around} {s : Shared} {Q E : Value → Shared → Prop} (G : Gd w loose mean mg mb g) (hg : Sub g s.heap) (hA : A.depth ≤ 700) (hh : A.handled = none) {l : List Nat} (hl : l.length ≤ 100) {mode : Nat} {tx tm : Tok} (hm : mode < 3)
   (post : ∀ h' tk t, Sub s.heap h' → Q (.str (S (wr mode l)) t) { s with heap := h', toks := tk }) :
   wpAny (model prog w) A (call (.ref 120) [.str (S l) tx, .int (mode : Int) tm]) Q E s := by
  refine call_top [] G hg (fun p hp => nomatch hp) (by k_is) (by k_is) rfl (locs rfl) (by show A.depth < 1000; omega) ?_
  intro g' L h₁ tk G' hbut hnone hL F N
  simp only [List.map_nil] at hbut
  have XX := G'.X
  have T := G'.T
  obtain ⟨hand, dep, fra, gua, uni⟩ := A
  dsimp only at hh hA
  subst hh
  (try dsimp only)
  iterate 9 walk_at "go"
  · rename_i h0
    have h0 : mode = 0 := by omega
    subst h0
    iterate 6 walk_at "go"
    refine add_S (a := [34]) (b := l) ?_ (by simp; omega) (by exact S_of _) rfl
    intro t2 k2
    iterate 1 walk_at "go"
    refine add_S (a := [34] ++ l) (b := [34]) ?_ (by simp; omega) rfl (by exact S_of _)
    intro t3 k3
    repeat walk_at "go"
    exact post _ _ _ (hbut.sub.trans F.keep)
  · rename_i h0
    have h0 : ¬ mode = 0 := by omega
    iterate 9 walk_at "go"
    · rename_i h1
      have h1 : mode = 1 := by omega
      subst h1
      iterate 7 walk_at "go"
      refine ListComp_S (h₀ := g') (L := L) (m := fun y => List.lookup y (List.reverse [(Str.ofString "word", Value.str (S l) tx), (Str.ofString "mode", Value.int ((1 : Nat) : Int) tm)])) (news := []) (l := l) (fun c => [92, c]) rfl (by decide) (by decide) rfl (by decide) rfl ?_ (by intro x; rfl)
      iterate 1 walk_at "go"
      refine ⟨_, rfl, by omega, F, N, ?_, ?_⟩
      · intro C c u s₂ m₂ E' hns hx
        iterate 3 walk_at "go"
        refine add_S (a := [92]) (b := [c]) ?_ (by simp) (by exact S_of _) rfl
        intro t4 tk4
        exact ⟨⟨_, rfl⟩, _, _, rfl, fun _ _ e => e⟩
      · intro D ys h2 tk2 F2 N2 hlD hc
        iterate 1 walk_at "go"
        have hll : (l.map (fun c => [92, c])).flatten.length ≤ 100000 := by
          have : ∀ l : List Nat, (l.map (fun c => [92, c])).flatten.length = 2 * l.length := fun l => by
            induction l with
            | nil => rfl
            | cons a l ih => rw [List.map_cons, List.flatten_cons, List.length_append, ih]; simp; omega
          rw [this]; omega
        refine join_use hlD hc hll ?_
        intro t5 k5
        repeat walk_at "go"
        have e : (l.map (fun c => [92, c])).flatten = wr 1 l := by
          rw [← List.flatMap_def]; rfl
        rw [e]
        exact post _ _ _ (hbut.sub.trans F2.keep)
    · rename_i h1
      have h1 : mode = 2 := by omega
      subst h1
      repeat walk_at "go"
      exact post _ _ _ (hbut.sub.trans F.keep)
end
end Mine
end
section
open PySem PySem.W PyProof.Rows PySem.Calls
set_option maxRecDepth 100000
set_option maxHeartbeats 8000000
set_option linter.unusedVariables false
set_option linter.unusedSimpArgs false
namespace Mine
theorem fill_B15 : ∀ (w : World) (h : Heap), (hd.heap_1 w.params).In h → PySem.Challenge.rw_qu0050_01.foot = 8 := by
  k_fill; intros; rfl
section
theorem off1_of {D : Addr} : ∀ {l : List (Addr × Obj)}, (∀ p ∈ l, p.1 ≠ D) → LCg.Off1 D l
  | [], _ => trivial
  | p :: l, h => ⟨h p (.head _), off1_of fun q hq => h q (.tail _ hq)⟩
section
variable {prog : Program} {w : World} {A : Around} {E : Value → Shared → Prop} {env : Env}
theorem newEnv_cell {scope : Scope} {globals : Addr} {cl : List (Str × Addr)} {qual : Str} {x : Str} {s : Shared} {Q : Env → Shared → Prop}
    (hcs : ∀ k acc, cellsFrom k scope.names acc = (x, k) :: acc) (hpc : ∀ h, pushCells h scope.names = h.push { cls := .type "cell", data := .cell none })
    (hQ : Q { scope, locals := s.heap.objs.size, globals, cells := (x, s.heap.objs.size + 1) :: cl, qual, func := none, code := env.code, frame := env.frame, builtins := env.builtins } { s with heap := (s.heap.push { cls := .type "dict", data := .dict #[] }).push { cls := .type "cell", data := .cell none } }) :
    wpAny (model prog w) A (newFunctionEnv scope globals cl [] qual none .none (some env)) Q E s := by
  simp only [newFunctionEnv, Option.isSome_some, if_true]
  refine wpAny_bind (wpAny_alloc ?_)
  refine wpAny_bind (wpAny_layCells _ (fun name kind cells => by cases hkc : kind == NameKind.cell <;> simp [hkc]) _ _ _ _ ?_)
  rw [hcs, hpc]
  refine wpAny_bind ?_
  rw [List.forIn_nil]
  refine wpAny_pure (wpAny_pure ?_)
  rw [show ({ s with heap := s.heap.push { cls := .type "dict", data := .dict #[] } } : Shared).heap.objs.size = s.heap.objs.size + 1 from Heap.size_push ..]
  exact hQ
theorem block_C {h₀ : Heap} {L : Addr} {m : Str → Option Value} {news : List (Addr × Obj)} {elt iter : Expr} {x : Str} {px : Pos} {scope : Scope} {cl : List (Str × Addr)} {pos : Pos} {s₂ : Shared} {I : Addr} {n : Nat} {P : Nat → Value → Prop} {St : Nat → Heap → Prop} (f : Nat → Value → Prop) {RR : Value → Addr → Result → Shared → Prop}
    (W : Walks prog w A I [I] [I] n P St) (hsz : n ≤ sizeLine) (hIo : ∀ i h, St i h → ∃ o, h.get? I = some o) (hcs : ∀ k acc, cellsFrom k scope.names acc = (x, k) :: acc) (hpc : ∀ h, pushCells h scope.names = h.push { cls := .type "cell", data := .cell none })
    (hkind : scope.kind = .function) (hx : (relabel scope env).names.lookup x = some .cell) (hst : St 0 s₂.heap) (hfp : I < s₂.heap.objs.size)
    (F : Fr h₀ L s₂.heap m) (N : News h₀ L s₂.heap news) (hIL : L ≠ I) (hI₀ : h₀.get? I = none) (off : ∀ p ∈ news, p.1 ≠ I)
    (helt : ∀ i v C c D oc oC oI ys h tk E', i < n → P i v → Fr h₀ L h m → News h₀ L h ((c, oc) :: (C, oC) :: (I, oI) :: (D, LCg.lst ys) :: news) → oc.data = .cell (some v) →
      wpAny (model prog w) A (eval elt (compEnvC scope ((x, c) :: cl) C env)) (fun y s₄ => f i y ∧ ∃ h' tk', s₄ = { s₂ with heap := h', toks := tk' } ∧ Fr h₀ L h' m ∧ News h₀ L h' ((c, oc) :: (C, oC) :: (I, oI) :: (D, LCg.lst ys) :: news)) E' { s₂ with heap := h, toks := tk })
    (hRR : ∀ D C h tk m' ys, Fr h₀ L h m → News h₀ L h ((D, LCg.lst ys) :: news) → C ≠ L → h₀.get? C = none → (@Ne Nat D C) → (∀ p ∈ news, @Ne Nat p.1 C) → (∀ p ∈ news, p.1 ≠ D) → h.Ns C m' → ys.length = n → (∀ j y, ys[j]? = some y → f j y) → RR (.ref D) C (.ok .next) { s₂ with heap := h, toks := tk }) :
    wpAny (model prog w) A (newList []) (fun acc s₃ => wpAny (model prog w) A (newFunctionEnv scope env.globals cl [] env.qual none .none (some env)) (fun cenv s₄ =>
      codeAny (model prog w) A (.compStart (.ListComp elt [⟨.Name x px, iter, [], 0⟩] scope pos) 0 (.ref I) acc { cenv with scope := relabel scope env }) (RR acc cenv.locals) s₄) E s₃) E s₂ := by
  refine wpAny_newObj_type (newEnv_cell hcs hpc ?_)
  dsimp only
  generalize hH2 : s₂.heap.push { cls := .type "list", dict := none, data := .seq ([] : List Value).toArray } = H2
  have hC : H2.objs.size = s₂.heap.objs.size + 1 := by rw [← hH2, Heap.size_push]
  generalize hH3 : (H2.push { cls := .type "dict", data := .dict #[] }).push { cls := .type "cell", data := .cell none } = h₁
  have hDC : @Ne Nat s₂.heap.objs.size H2.objs.size := by omega
  have below : ∀ b, b < s₂.heap.objs.size → @Ne Nat b H2.objs.size ∧ @Ne Nat b s₂.heap.objs.size ∧ @Ne Nat b (H2.objs.size + 1) := fun b hb => by
    have hb : @LT.lt Nat _ b s₂.heap.objs.size := hb
    omega
  have hIb := below I hfp
  have hbn : ∀ p ∈ news, @Ne Nat p.1 H2.objs.size ∧ @Ne Nat p.1 s₂.heap.objs.size ∧ @Ne Nat p.1 (H2.objs.size + 1) := fun p hp => below _ (Heap.lt_size (N p hp).1)
  have hbL := below L F.ns.lt
  have up2 : ∀ b o, H2.get? b = some o → h₁.get? b = some o := fun b o e => by rw [← hH3]; exact Heap.get?_push_of_some _ (Heap.get?_push_of_some _ e)
  have old : ∀ b o, s₂.heap.get? b = some o → h₁.get? b = some o := fun b o e => up2 b o (hH2 ▸ Heap.get?_push_of_some _ e)
  have hacc : h₁.get? s₂.heap.objs.size = some (LCg.lst []) := up2 _ _ (hH2 ▸ Heap.get?_push_size _ rfl)
  have hns₁ : h₁.Ns H2.objs.size (fun _ => none) := by
    rw [← hH3]
    exact (Heap.Ns.new H2 (.type "dict")).keeps fun b o e => Heap.get?_push_of_some _ e
  have hcell₁ : h₁.IsCell (H2.objs.size + 1) none := by
    rw [← hH3]
    have e : ((H2.push { cls := .type "dict", data := .dict #[] }).push { cls := .type "cell", data := .cell none }).get? (H2.push { cls := .type "dict", data := .dict #[] }).objs.size = some { cls := .type "cell", data := .cell none } := Heap.get?_push_size _ rfl
    rw [Heap.size_push] at e
    exact ⟨_, e, rfl⟩
  have hst₁ : St 0 h₁ := W.frame _ _ _ hst fun b _ o e => old b o e
  have fresh₀ : ∀ a, s₂.heap.objs.size ≤ a → h₀.get? a = none := fun a ha => by
    cases e : h₀.get? a with
    | none => rfl
    | some o' => exact absurd (Heap.lt_size (F.keep a o' e)) (Nat.not_lt.mpr ha)
  have hD₀ : h₀.get? s₂.heap.objs.size = none := fresh₀ _ (Nat.le_refl _)
  have hC₀ : h₀.get? H2.objs.size = none := fresh₀ _ (by omega)
  have hc₀ : h₀.get? (H2.objs.size + 1) = none := fresh₀ _ (by omega)
  have nI : ∀ {b : Nat}, @Ne Nat b I → b ∉ [I] := fun h q => h (List.mem_singleton.mp q)
  have loop : ∀ s₃ : Shared, s₃ = { s₂ with heap := h₁ } →
      codeAny (model prog w) A (.compLoop (.ListComp elt [⟨.Name x px, iter, [], 0⟩] scope pos) 0 (.ref I) (.ref s₂.heap.objs.size) (compEnvC scope ((x, H2.objs.size + 1) :: cl) H2.objs.size env))
        (RR (.ref s₂.heap.objs.size) H2.objs.size) s₃ := by
    rintro s₃ rfl
    refine codeAny_compLoop_tests
      (fun k s' => ∃ h' tk i ys m' vc, s' = { s₂ with heap := h', toks := tk } ∧ i ≤ n ∧ k = n + 1 - i ∧ ys.length = i ∧ St i h' ∧ h'.Ns H2.objs.size m' ∧ h'.IsCell (H2.objs.size + 1) vc ∧ h'.get? s₂.heap.objs.size = some (LCg.lst ys) ∧ (∀ j y, ys[j]? = some y → f j y) ∧ Fr h₀ L h' m ∧ News h₀ L h' news) ?_ (n + 1)
      ⟨h₁, _, 0, [], _, _, rfl, Nat.zero_le _, rfl, rfl, hst₁, hns₁, hcell₁, hacc, fun j y e => by simp at e, F.keeps old, fun p hp => ⟨old _ _ (N p hp).1, (N p hp).2⟩⟩
    intro k s' H_
    refine hideC fun D_ K_ => ?_
    obtain ⟨h', tk, i, ys, m', vc, e1_, hi, e2_, hyl, hst', hn', hc', hD', hys, F', N'⟩ := H_
    refine K_ ?_
    clear K_ D_
    subst e1_
    subst e2_
    by_cases hlt : i < n
    · refine W.item i _ _ _ hlt hst' fun v h₂ tk₂ hPv hst₂ hk₂ => ?_
      have F₂ := LCg.fr_but F' hk₂ hIL hI₀
      have N₂ := LCg.news_but N' hk₂ off
      have hc₂ : h₂.IsCell (H2.objs.size + 1) vc := by
        obtain ⟨o, e, r⟩ := hc'
        exact ⟨o, hk₂ _ o (nI (Ne.symm hIb.2.2)) e, r⟩
      refine wpAny_assign_Name (wpAny_storeName_cell (by simpa [compEnvC, relabel] using hkind) hx (by simp [compEnvC]) hc₂ fun h₃ hc₃ hs₃ => ?_)
      refine wpAny_tests_nil ?_
      simp only [if_true]
      have up3 : ∀ b o, @Ne Nat b (H2.objs.size + 1) → h₂.get? b = some o → h₃.get? b = some o := fun b o hb e => hs₃.extBut b o hb e
      have hst₃ : St (i + 1) h₃ := W.frame _ _ _ hst₂ fun b hb o e => up3 b o (by rw [List.mem_singleton.mp hb]; exact hIb.2.2) e
      have F₃ : Fr h₀ L h₃ m := F₂.change hs₃ (Ne.symm hbL.2.2) hc₀
      have N₃ : News h₀ L h₃ news := fun p hp => ⟨up3 _ _ (hbn p hp).2.2 (N₂ p hp).1, (N₂ p hp).2⟩
      have hD₃ : h₃.get? s₂.heap.objs.size = some (LCg.lst ys) := up3 _ _ (by omega) (hk₂ _ _ (nI (Ne.symm hIb.2.1)) hD')
      have hn₃ : h₃.Ns H2.objs.size m' := hn'.at' fun o e => up3 _ o (by omega) (hk₂ _ o (nI (Ne.symm hIb.1)) e)
      obtain ⟨oI, heI⟩ := hIo _ _ hst₃
      obtain ⟨oC, heC, hoC⟩ := LCg.ns_obj hn₃
      obtain ⟨oc, hec, hoc⟩ := hc₃
      have N₃' : News h₀ L h₃ ((H2.objs.size + 1, oc) :: (H2.objs.size, oC) :: (I, oI) :: (s₂.heap.objs.size, LCg.lst ys) :: news) := fun p hp => by
        rcases List.mem_cons.mp hp with rfl | hp
        · exact ⟨hec, Ne.symm hbL.2.2, hc₀⟩
        rcases List.mem_cons.mp hp with rfl | hp
        · exact ⟨heC, Ne.symm hbL.1, hC₀⟩
        rcases List.mem_cons.mp hp with rfl | hp
        · exact ⟨heI, Ne.symm hIL, hI₀⟩
        rcases List.mem_cons.mp hp with rfl | hp
        · exact ⟨hD₃, Ne.symm hbL.2.1, hD₀⟩
        · exact N₃ p hp
      refine wpAny_mono (helt i v H2.objs.size (H2.objs.size + 1) s₂.heap.objs.size oc oC oI ys h₃ _ _ hlt hPv F₃ N₃' hoc) (fun y s₄ h₄ => ?_) fun _ _ e => e
      refine hideC fun D_ K_ => ?_
      obtain ⟨hfy, h₄, tk₄, e3_, F₄, N₄⟩ := h₄
      refine K_ ?_
      clear K_ D_
      subst e3_
      have zc := (N₄ _ (.head _)).1
      have zC := (N₄ _ (.tail _ (.head _))).1
      have zI := (N₄ _ (.tail _ (.tail _ (.head _)))).1
      have zD := (N₄ _ (.tail _ (.tail _ (.tail _ (.head _))))).1
      have N₄' : News h₀ L h₄ news := fun p hp => N₄ p (.tail _ (.tail _ (.tail _ (.tail _ hp))))
      have hst₄ : St (i + 1) h₄ := W.frame _ _ _ hst₃ fun b hb o e => by
        rw [List.mem_singleton.mp hb] at e ⊢
        rw [heI] at e; cases e; exact zI
      refine append_at (hsz := by show ys.toArray.size ≤ sizeLine; rw [List.size_toArray, hyl]; exact Nat.le_trans hi hsz) zD fun h₅ hs₅ hD₅ => ?_
      have up5 : ∀ b o, @Ne Nat b s₂.heap.objs.size → h₄.get? b = some o → h₅.get? b = some o := fun b o hb e => hs₅.extBut b o hb e
      refine ⟨n + 1 - (i + 1), by omega, h₅, tk₄, i + 1, ys ++ [y], _, some v, rfl, hlt, rfl, by rw [List.length_append, List.length_singleton, hyl], W.frame _ _ _ hst₄ fun b hb o e => up5 b o (by rw [List.mem_singleton.mp hb]; exact hIb.2.1) e, (hoC.ns zC).at' fun o e => up5 _ o (Ne.symm hDC) e, ⟨oc, up5 _ _ (by omega) zc, hoc⟩, hD₅.trans (congrArg some (LCg.lst_snoc ys y)), ?_, F₄.change hs₅ (Ne.symm hbL.2.1) hD₀, fun p hp => ⟨up5 _ _ (hbn p hp).2.1 (N₄' p hp).1, (N₄' p hp).2⟩⟩
      intro j z e
      by_cases hj : j < ys.length
      · rw [List.getElem?_append_left hj] at e; exact hys j z e
      · rw [List.getElem?_append_right (Nat.not_lt.mp hj)] at e
        have hj0 : j - ys.length = 0 := by
          cases q : j - ys.length with
          | zero => rfl
          | succ q' => rw [q] at e; simp at e
        rw [hj0] at e
        simp at e
        have : j = i := by omega
        rw [← e, this]; exact hfy
    · obtain rfl : i = n := Nat.le_antisymm hi (Nat.not_lt.mp hlt)
      refine W.done _ _ _ hst' fun h₂ tk₂ hk₂ => ?_
      refine hRR _ _ h₂ tk₂ m' ys (LCg.fr_but F' hk₂ hIL hI₀) (fun p hp => ?_) (Ne.symm hbL.1) hC₀ hDC (fun p hp => (hbn p hp).1) (fun p hp => (hbn p hp).2.1) (hn'.at' fun o e => hk₂ _ o (nI (Ne.symm hIb.1)) e) hyl hys
      rcases List.mem_cons.mp hp with rfl | hp
      · exact ⟨hk₂ _ _ (nI (Ne.symm hIb.2.1)) hD', Ne.symm hbL.2.1, hD₀⟩
      · exact LCg.news_but N' hk₂ off p hp
  exact codeAny_compStart_list (loop _ rfl) (W.self 0 _ _ _ hst₁ (loop _ rfl))
theorem Assign_cellComp {s : Shared} {h₀ : Heap} {m : Str → Option Value} {elt iter : Expr} {x y : Str} {px py : Pos} {scope : Scope} {cl : List (Str × Addr)} {pos spos : Pos} {Q : Flow → Shared → Prop} {n : Nat} (f : Nat → Value → Prop) (F₀ : Fr h₀ env.locals s.heap m)
    (hsw : swapsWith (.ListComp elt [⟨.Name x px, iter, [], 0⟩] scope pos) (some (.Name y py)) spos.line env = pure true)
    (hclos : closureFor scope env = pure cl) (hkind : scope.kind = .function)
    (hnames : ∀ z ∈ scope.names, z.2 = .local → scope.names.lookup z.1 = some .local) (hcs : ∀ k acc, cellsFrom k scope.names acc = (x, k) :: acc) (hpc : ∀ h, pushCells h scope.names = h.push { cls := .type "cell", data := .cell none })
    (hx : (relabel scope env).names.lookup x = some .cell)
    (hy : env.kindOf y = some .local) (hp : (env.scope.kind == .class || (env.scope.kind == .module && env.locals != env.globals)) = false)
    (h : wpAny (model prog w) A (eval iter env) (fun xv s₁ => ∃ r t u v news, xv = .ref r ∧ A.handled = none ∧ Fr h₀ env.locals s₁.heap m ∧ News h₀ env.locals s₁.heap news ∧ IsRange s₁.heap r 0 (n : Int) 1 t u v ∧ n ≤ 1000 ∧
      (∀ i v C c D I oc oC oI ys h tk E', i < n → (∃ t, v = Value.int (i : Int) t) → Fr h₀ env.locals h m → News h₀ env.locals h ((c, oc) :: (C, oC) :: (I, oI) :: (D, LCg.lst ys) :: news) → oc.data = .cell (some v) →
        wpAny (model prog w) A (eval elt (compEnvC scope ((x, c) :: cl) C env)) (fun y s₄ => f i y ∧ ∃ h' tk', s₄ = { s₁ with heap := h', toks := tk' } ∧ Fr h₀ env.locals h' m ∧ News h₀ env.locals h' ((c, oc) :: (C, oC) :: (I, oI) :: (D, LCg.lst ys) :: news)) E' { s₁ with heap := h, toks := tk }) ∧
      (∀ D h tk ys, Fr h₀ env.locals h (fun z => if z = y then some (.ref D) else m z) → News h₀ env.locals h ((D, LCg.lst ys) :: news) → LCg.Off1 D news → ys.length = n → (∀ j y, ys[j]? = some y → f j y) → Q .next { s₁ with heap := h, toks := tk })) E s)
    (hs : ∀ x, foldedSetIterable iter env x = pure x := by intro _; rfl) :
    wpAny (model prog w) A (exec (.Assign [.Name y py] (.ListComp elt [⟨.Name x px, iter, [], 0⟩] scope pos) spos) env) Q E s := by
  rw [exec_Assign_Name_used _ _ _ _ hsw]
  refine wpAny_bind (wpAny_standAt (wpAny_bind ?_))
  show wpAny _ A (do let _ ← comprehension (.ListComp elt [⟨.Name x px, iter, [], 0⟩] scope pos) scope env _ (newList []) false (eval iter env) (some (assign (.Name y py) env))) _ _ s
  refine wpAny_bind (wpAny_mono (wpAny_comprehension_free (use := some (assign (.Name y py) env)) (Q := fun _ s' => Q .next s') rfl hs hclos hkind hnames
    (wpAny_mono h (fun xv s₁ h₁ => ?_) fun _ _ e => e)) (fun _ s' hq => wpAny_pure (wpAny_pure hq)) fun _ _ e => e)
  refine hideC fun D_ K_ => ?_
  obtain ⟨r, t, u, v, news, e4_, hh, F, N, hr, hn1, helt, fin⟩ := h₁
  refine K_ ?_
  clear K_ D_
  subst e4_
  obtain ⟨r1, r2⟩ := range_ok (b := ((n : Nat) : Int)) (n := n) rfl (by omega)
  refine wpAny_pyIter_range hr r1 ?_
  refine block_C (h₀ := h₀) (L := env.locals) (m := m) (news := news) f (LCg.range_walks hh 0 n) (by simp [sizeLine]; omega) (fun i h st => ⟨_, st⟩) hcs hpc hkind hx (by show IsRangeIter _ _ _ _ _; rw [r2]; simpa using Heap.get?_push_size _ rfl) ?_
    (F.keeps fun _ _ e => Heap.get?_push_of_some _ e) (N.grown fun _ _ e => Heap.get?_push_of_some _ e) (Nat.ne_of_lt F.ns.lt) (next_is_new F) (fun p hp => Nat.ne_of_lt (Heap.lt_size (N p hp).1)) ?_ ?_
  · show s₁.heap.objs.size < (s₁.heap.push _).objs.size
    rw [Heap.size_push]; exact Nat.lt_succ_self _
  · rintro i v C c D oc oC oI ys h tk E' hi ⟨tv, rfl⟩ F1 N1 dc
    exact helt i _ C c D _ oc oC oI ys h tk E' hi ⟨tv, by rw [Int.zero_add]⟩ F1 N1 dc
  · intro D C h tk m' ys F1 N1 hCL hC₀ hDC hnC hnD hn hlen hf
    show wpAny _ A (assign (.Name y py) env (.ref D)) _ _ _
    refine wpAny_assign_Name (wpAny_storeName_local hy F1.ns (fun h₂ hn₂ hs₂ => ?_) hp)
    have hL₀ : h₀.get? env.locals = none := Heap.get?_none_of_le F1.above
    have F₂ : Fr h₀ env.locals h₂ (fun z => if z = y then some (.ref D) else m z) := ⟨hn₂, fun b o e => hs₂.extBut b o (fun q => by rw [q, hL₀] at e; cases e) (F1.keep b o e), F1.above⟩
    refine ⟨m', hn.sameBut hs₂ hCL, fun h'' hs'' => fin D h'' _ ys (F₂.change hs'' hCL hC₀) (fun p hp => ?_) (off1_of hnD) hlen hf⟩
    have z : h₂.get? p.1 = some p.2 := hs₂.extBut _ _ (N1 p hp).2.1 (N1 p hp).1
    refine ⟨hs''.extBut _ _ ?_ z, (N1 p hp).2⟩
    rcases List.mem_cons.mp hp with rfl | hp
    · exact hDC
    · exact hnC p hp
end
end
end Mine
end
section
open PySem PySem.W PyProof.Rows PySem.Calls
set_option maxRecDepth 100000
set_option maxHeartbeats 8000000
set_option linter.unusedVariables false
set_option linter.unusedSimpArgs false
namespace Mine
theorem fill_F19k : ∀ (w : World) (h : Heap), (hd.heap_1 w.params).In h → PySem.Challenge.rw_qu0050_01.foot = 8 := by
  k_fill; intros; rfl
section
noncomputable def textOf (ps : List (List Nat × Nat × Nat)) : List Nat := ps.flatMap fun p => wr p.2.1 (sgns p.1) ++ [p.2.2]
noncomputable def PartOk (n : Nat) (p : List Nat × Nat × Nat) : Prop := p.1.length = n ∧ (∀ j ∈ p.1, j < 6) ∧ p.2.1 < 3 ∧ (p.2.2 = 10 ∨ p.2.2 = 32 ∨ p.2.2 = 9)
theorem written_use {w : World} {loose : List Str} {mean : ExcName → Option Value} {mg mb : Str → Option Value} {prog : Program} {A : Around} {s : Shared} {Q E : Value → Shared → Prop} {h₀ : Heap} {L : Addr} {m : Str → Option Value} {news : List (Addr × Obj)}
   (G : Gd w loose mean mg mb h₀) (F : Fr h₀ L s.heap m) (N : News h₀ L s.heap news) (hA : A.depth ≤ 700) (hh : A.handled = none) {l : List Nat} (hl : l.length ≤ 100) {mode : Nat} {tx tm : Tok} (hm : mode < 3)
   (post : ∀ h' tk t, Fr h₀ L h' m → News h₀ L h' news → Q (.str (S (wr mode l)) t) { s with heap := h', toks := tk }) :
   wpAny (model prog w) A (call (.ref 120) [.str (S l) tx, .int (mode : Int) tm]) Q E s :=
  written_spec G F.keep hA hh hl hm fun h' tk t hs => post h' tk t (after_fr [] F N (hs.but _) (fun _ h => nomatch h)) (after_news [] N (hs.but _) fun _ _ => List.not_mem_nil)
theorem wr_len (m : Nat) (l : List Nat) : (wr m l).length ≤ 2 * l.length + 2 := by
  unfold wr
  split
  · simp; omega
  · split
    · have : ∀ l : List Nat, (l.flatMap (fun c => [92, c])).length = 2 * l.length := fun l => by
        induction l with
        | nil => rfl
        | cons a l ih => rw [List.flatMap_cons, List.length_append, ih]; simp; omega
      rw [this]; omega
    · omega
theorem text_snoc (ps : List (List Nat × Nat × Nat)) (p : List Nat × Nat × Nat) : textOf ps ++ (wr p.2.1 (sgns p.1) ++ [p.2.2]) = textOf (ps ++ [p]) := by
  unfold textOf
  rw [List.flatMap_append]
  simp
theorem text_len {n : Nat} (hn : n ≤ 5) : ∀ ps : List (List Nat × Nat × Nat), (∀ p ∈ ps, PartOk n p) → (textOf ps).length ≤ 33 * ps.length
  | [], _ => Nat.le_refl _
  | p :: ps, h => by
    have ih := text_len hn ps fun x hx => h x (.tail _ hx)
    obtain ⟨a, b, _⟩ := h p (.head _)
    have h1 := wr_len p.2.1 (sgns p.1)
    have h2 := sgns_len b
    rw [a] at h2
    unfold textOf at ih ⊢
    rw [List.flatMap_cons, List.length_append, List.length_append, List.length_singleton, List.length_cons]
    omega
theorem sep_item {r : Nat} (hr : r < 3) : ∃ sp, Txt.item (Str.ofString "\n \t") ((r : Nat) : Int) = S [sp] ∧ (sp = 10 ∨ sp = 32 ∨ sp = 9) := by
  have : r = 0 ∨ r = 1 ∨ r = 2 := by omega
  rcases this with rfl | rfl | rfl
  · exact ⟨10, by rw [S_of]; rfl, .inl rfl⟩
  · exact ⟨32, by rw [S_of]; rfl, .inr (.inl rfl)⟩
  · exact ⟨9, by rw [S_of]; rfl, .inr (.inr rfl)⟩
theorem mem4 {P : Addr × Obj → Prop} {a b c : Addr × Obj} {l : List (Addr × Obj)} (h1 : P a) (h2 : P b) (h3 : P c) (h4 : ∀ x ∈ l, P x) : ∀ x ∈ a :: b :: c :: l, P x := fun x hx => by
  rcases List.mem_cons.mp hx with rfl | hx
  · exact h1
  rcases List.mem_cons.mp hx with rfl | hx
  · exact h2
  rcases List.mem_cons.mp hx with rfl | hx
  · exact h3
  · exact h4 x hx
theorem marks0 {q i : Nat} (hq : 2 ≤ q ∧ q ≤ 3) (hi : i < q) : ((([0, 1, 2, 3, 4, 5].take 6).filter fun a => decide (num a % q = i)).map fun a => S (sgn a))[0]? = some (S (sgn (mk q i))) := by
  have : (q = 2 ∧ (i = 0 ∨ i = 1)) ∨ (q = 3 ∧ (i = 0 ∨ i = 1 ∨ i = 2)) := by omega
  rcases this with ⟨rfl, rfl | rfl⟩ | ⟨rfl, rfl | rfl | rfl⟩ <;> rfl
theorem take6 {k : Nat} (hk : k < 6) (p : Nat → Bool) : ([0, 1, 2, 3, 4, 5].take (k + 1)).filter p = ([0, 1, 2, 3, 4, 5].take k).filter p ++ (if p k = true then [k] else []) := by
  have e : [0, 1, 2, 3, 4, 5].take (k + 1) = [0, 1, 2, 3, 4, 5].take k ++ [k] := by
    have : k = 0 ∨ k = 1 ∨ k = 2 ∨ k = 3 ∨ k = 4 ∨ k = 5 := by omega
    rcases this with rfl | rfl | rfl | rfl | rfl | rfl <;> rfl
  rw [e, List.filter_append]
  congr 1
  by_cases h : p k = true <;> simp [h]
theorem eqmod {a q i : Nat} : ((((a : Nat) : Int).fmod (q : Int)) == ((i : Nat) : Int)) = decide (a % q = i) := by
  have e : ((a : Nat) : Int).fmod (q : Int) = ((a % q : Nat) : Int) := by
    rw [Int.fmod_eq_emod_of_nonneg _ (by omega)]; rfl
  rw [e]
  by_cases h : a % q = i
  · simp [h]
  · have : ¬ ((a % q : Nat) : Int) = (i : Int) := by omega
    rw [decide_eq_false h]
    exact beq_false_of_ne this
local macro_rules | `(tactic| walk_at "exec For Name Name cons nil") => `(tactic| (k_dflt (refine for_open ?_)))
local macro_rules | `(tactic| walk_at "exec For Name Call cons nil") => `(tactic| (k_dflt (refine for_open ?_)))
theorem sub_tup {prog : Program} {w : World} {A : Around} {E : Value → Shared → Prop} {s : Shared} {value slice : Expr} {l : Addr} {vs : List Value} {j : Nat} {k : Int} {u : Tok} {v : Value} {Q : Value → Shared → Prop} (hl : IsTup s.heap l vs.toArray) (hk : k = (j : Int)) (hj : j < 1000) (hx : vs[j]? = some v) (h : Q v s)
    (hs : subscripted slice false (.ref l) (.int k u) = operate [.ref l, .int k u] (getItem (.ref l) (.int k u)) := by with_unfolding_all rfl) : wpAny (model prog w) A (subscriptTail value slice (.ref l) (.int k u)) Q E s := by
  subst hk
  have hlt : j < vs.length := (List.getElem?_eq_some_iff.mp hx).1
  exact tail_any hl.typeIs slot_tuple_getitem.lookup (getItem_tuple hl (by omega) (by omega) (seqIndex_of (by omega) (by rw [List.size_toArray]; omega)) (by simpa using hx) h) hs
theorem ints_at {vs : List Value} {ns : List Nat} (x : IntsAre vs (ns.map Int.ofNat)) {i : Nat} (hi : i < ns.length) : ∃ t, vs[i]? = some (Value.int ((ns.getD i 0 : Nat) : Int) t) := by
  have hl := x.length
  rw [List.length_map] at hl
  obtain ⟨t, e⟩ := ints_get x (List.getElem?_eq_getElem (by omega : i < vs.length))
  exact ⟨t, by rw [List.getElem?_eq_getElem (by omega : i < vs.length), e]⟩
namespace F19c
noncomputable def P0 (w : World) (loose : List Str) (mean : ExcName → Option Value) (mg : Str → Option Value) (mb : Str → Option Value) (g : Heap) (prog : Program) (dep : Nat) (fra : Option (List Env)) (gua : Option (List Code)) (uni : Nat) (hp0 : Heap) (gn : Array GenState) (dr : Drawn) (tk0 : Nat) (os0 : OsState) (Q : Value → Shared → Prop) (E : Value → Shared → Prop) (SC : Addr) (sv : List Value) (xs : List Int) : Prop :=
  ∀ (G : Gd w loose mean mg mb g) (hg : Sub g hp0) (hA : dep ≤ 600) (hu : uni ≤ 3000) (hS : hp0.IsList SC sv.toArray) (hI : IntsAre sv xs) (hl : xs.length ≤ 63) (post : ∀ h' tk r D1 D2 ys mv seg ps q n wd tq tn tw tt ep, (q = 2 ∨ q = 3) → 3 ≤ n → n ≤ 5 → 6 ≤ n + q → n + q ≤ 7 → 7 ≤ wd → wd ≤ 16 → (ps : List (List Nat × Nat × Nat)).length = 5 - q → (∀ p ∈ ps, PartOk n p) → Lists seg ys (ps.map fun p => lets q p.1) → MarksAre q mv →
     (∀ x ∈ (r, tupO #[.int ((q : Nat) : Int) tq, .int ((n : Nat) : Int) tn, .int ((wd : Nat) : Int) tw, .ref D1, .ref D2, .str (S (textOf ps ++ [101, 110, 100])) tt]) :: (D1, listOf ys.toArray ep) :: (D2, LCg.lst mv) :: seg, h'.get? x.1 = some x.2 ∧ hp0.get? x.1 = none) → Sub hp0 h' → Q (.ref r) ⟨h', gn, dr, tk, os0⟩),
   wpAny (model prog w) ⟨none, dep, fra, gua, uni⟩ (call (.ref 125) [.ref SC]) Q E ⟨hp0, gn, dr, tk0, os0⟩
noncomputable abbrev Par : Type := (World) × (List Str) × (ExcName → Option Value) × (Str → Option Value) × (Str → Option Value) × (Heap) × (Program) × (Nat) × (Option (List Env)) × (Option (List Code)) × (Nat) × (Heap) × (Array GenState) × (Drawn) × (Nat) × (OsState) × (Value → Shared → Prop) × (Value → Shared → Prop) × (Addr) × (List Value) × (List Int)
noncomputable def P1 (p : Par) : Prop := P0 p.1 p.2.1 p.2.2.1 p.2.2.2.1 p.2.2.2.2.1 p.2.2.2.2.2.1 p.2.2.2.2.2.2.1 p.2.2.2.2.2.2.2.1 p.2.2.2.2.2.2.2.2.1 p.2.2.2.2.2.2.2.2.2.1 p.2.2.2.2.2.2.2.2.2.2.1 p.2.2.2.2.2.2.2.2.2.2.2.1 p.2.2.2.2.2.2.2.2.2.2.2.2.1 p.2.2.2.2.2.2.2.2.2.2.2.2.2.1 p.2.2.2.2.2.2.2.2.2.2.2.2.2.2.1 p.2.2.2.2.2.2.2.2.2.2.2.2.2.2.2.1 p.2.2.2.2.2.2.2.2.2.2.2.2.2.2.2.2.1 p.2.2.2.2.2.2.2.2.2.2.2.2.2.2.2.2.2.1 p.2.2.2.2.2.2.2.2.2.2.2.2.2.2.2.2.2.2.1 p.2.2.2.2.2.2.2.2.2.2.2.2.2.2.2.2.2.2.2.1 p.2.2.2.2.2.2.2.2.2.2.2.2.2.2.2.2.2.2.2.2
theorem some_par : Nonempty Par := ⟨⟨aWorld 1, [], fun _ => none, fun _ => none, fun _ => none, default, default, 0, none, none, 0, default, #[], (start (default : Program)).1.drawn, 0, (start (default : Program)).1.os, fun _ _ => True, fun _ _ => True, 0, [], []⟩⟩
@[irreducible] noncomputable def cc : Par := @Classical.epsilon Par some_par fun p => ¬ P1 p
@[irreducible] noncomputable def w : World := by with_unfolding_all exact cc.1
@[irreducible] noncomputable def loose : List Str := by with_unfolding_all exact cc.2.1
@[irreducible] noncomputable def mean : ExcName → Option Value := by with_unfolding_all exact cc.2.2.1
@[irreducible] noncomputable def mg : Str → Option Value := by with_unfolding_all exact cc.2.2.2.1
@[irreducible] noncomputable def mb : Str → Option Value := by with_unfolding_all exact cc.2.2.2.2.1
@[irreducible] noncomputable def g : Heap := by with_unfolding_all exact cc.2.2.2.2.2.1
@[irreducible] noncomputable def prog : Program := by with_unfolding_all exact cc.2.2.2.2.2.2.1
@[irreducible] noncomputable def dep : Nat := by with_unfolding_all exact cc.2.2.2.2.2.2.2.1
@[irreducible] noncomputable def fra : Option (List Env) := by with_unfolding_all exact cc.2.2.2.2.2.2.2.2.1
@[irreducible] noncomputable def gua : Option (List Code) := by with_unfolding_all exact cc.2.2.2.2.2.2.2.2.2.1
@[irreducible] noncomputable def uni : Nat := by with_unfolding_all exact cc.2.2.2.2.2.2.2.2.2.2.1
@[irreducible] noncomputable def hp0 : Heap := by with_unfolding_all exact cc.2.2.2.2.2.2.2.2.2.2.2.1
@[irreducible] noncomputable def gn : Array GenState := by with_unfolding_all exact cc.2.2.2.2.2.2.2.2.2.2.2.2.1
@[irreducible] noncomputable def dr : Drawn := by with_unfolding_all exact cc.2.2.2.2.2.2.2.2.2.2.2.2.2.1
@[irreducible] noncomputable def tk0 : Nat := by with_unfolding_all exact cc.2.2.2.2.2.2.2.2.2.2.2.2.2.2.1
@[irreducible] noncomputable def os0 : OsState := by with_unfolding_all exact cc.2.2.2.2.2.2.2.2.2.2.2.2.2.2.2.1
@[irreducible] noncomputable def Q : Value → Shared → Prop := by with_unfolding_all exact cc.2.2.2.2.2.2.2.2.2.2.2.2.2.2.2.2.1
@[irreducible] noncomputable def E : Value → Shared → Prop := by with_unfolding_all exact cc.2.2.2.2.2.2.2.2.2.2.2.2.2.2.2.2.2.1
@[irreducible] noncomputable def SC : Addr := by with_unfolding_all exact cc.2.2.2.2.2.2.2.2.2.2.2.2.2.2.2.2.2.2.1
@[irreducible] noncomputable def sv : List Value := by with_unfolding_all exact cc.2.2.2.2.2.2.2.2.2.2.2.2.2.2.2.2.2.2.2.1
@[irreducible] noncomputable def xs : List Int := by with_unfolding_all exact cc.2.2.2.2.2.2.2.2.2.2.2.2.2.2.2.2.2.2.2.2
@[irreducible] noncomputable def g' : Heap := hideAll hp0 (([] : List (Addr × Obj)).map (·.1))
@[irreducible] noncomputable def L : Addr := hp0.objs.size
noncomputable def cap_top : (T_A1 : (Heap) → (Nat) → (Obj) → (Obj) → (Obj) → (Obj) → (Obj) → (Obj) → (Obj) → (Addr) → (Heap) → (Heap) → (Obj) → (Nat) → (Addr) → (Heap) → (Heap) → (Obj) → (Nat) → (Addr) → (Heap) → (Heap) → (Obj) → (Nat) → (List Value) → (List Value) → (List Value) → Prop) ×' ((∀ (h₁ : Heap) (xA1_1 : Nat) (oQ : Obj) (oC : Obj) (oK : Obj) (oB : Obj) (oN : Obj) (oG : Obj) (oX : Obj) (lS : Addr) (xA1_3 : Heap) (xA1_4 : Heap) (oG' : Obj) (xA1_5 : Nat) (tN : Addr) (xA1_6 : Heap) (xA1_7 : Heap) (oN' : Obj) (xA1_8 : Nat) (tB : Addr) (xA1_9 : Heap) (xA1_10 : Heap) (oB' : Obj) (tk : Nat) (sgv : List Value) (nv : List Value) (bv : List Value), T_A1 h₁ xA1_1 oQ oC oK oB oN oG oX lS xA1_3 xA1_4 oG' xA1_5 tN xA1_6 xA1_7 oN' xA1_8 tB xA1_9 xA1_10 oB' tk sgv nv bv) → P0 w loose mean mg mb g prog dep fra gua uni hp0 gn dr tk0 os0 Q E SC sv xs) := ⟨_, by
  intro K_A1
  unfold P0
  intro G hg hA hu hS hI hl post
  have hL : L = hp0.objs.size := by unfold L; rfl
  refine call_topCE [] (g' := g') (L := L) (by unfold g'; rfl) hL G hg (fun p hp => nomatch hp) (by k_is) (by k_is) rfl rfl (by decide +kernel) (by show dep < 1000; omega) ?_
  intro h₁ tk cells G' hbut hnone F N Y l1
  simp only [List.map_nil] at hbut
  clear l1
  k_cells Y; (try simp only [List.cons_append, List.nil_append, List.append_nil] at N); (try dsimp only)
  have XX := G'.X
  have T := G'.T
  rename_i oQ oC oK oB oN oG oX dQ dC dK dB dN dG dX
  have dX : oX.data = .cell (some (.ref SC)) := dX
  iterate 82 walk_at "go"
  with_reducible rename Fr _ _ _ _ => F1
  with_reducible rename News _ _ _ _ => N1
  rename_i lS _ lt1 _ oG' dG' _ tN _ lt2 _ oN' dN' _ tB _ lt3 _ oB' dB'
  obtain ⟨sgv, nv, bv, hsg, hnv, hbv, N2⟩ : ∃ (sgv nv bv : List Value), StrsAre sgv ([0, 1, 2, 3, 4, 5].map fun i => S (sgn i)) ∧ IntsAre nv ([14, 15, 46, 47, 12, 31].map Int.ofNat) ∧ IntsAre bv ([1, 1, 2, 5, 0, 4, 3, 2, 1, 2, 5, 0, 3, 4, 1, 3, 0, 5].map Int.ofNat) ∧
     News g' L _ [(tB, tupO bv.toArray), (tN, tupO nv.toArray), (lS, listOf sgv.toArray 0), (L + 1 + 1 + 1 + 1 + 1 + 1 + 1, oQ), (L + 1 + 1 + 1 + 1 + 1 + 1, oC), (L + 1 + 1 + 1 + 1 + 1, oK), (L + 1 + 1 + 1 + 1, oB'), (L + 1 + 1 + 1, oN'), (L + 1 + 1, oG'), (L + 1, oX)] := by
    refine ⟨_, _, _, ?_, ?_, ?_, N1⟩
    · have e : ([0, 1, 2, 3, 4, 5].map fun i => S (sgn i)) = [Str.ofString "+", Str.ofString "-", Str.ofString "**=", Str.ofString "//", Str.ofString ",", Str.ofString "~"] := by
        simp only [S_of]; rfl
      rw [e]
      repeat first | exact .nil | refine .cons _ _ ?_
    · repeat first | exact .nil | refine .cons _ _ ?_
    · repeat first | exact .nil | refine .cons _ _ ?_
  clear N1
  rename_i xA1_1 xA1_2 xA1_3 xA1_4 xA1_5 xA1_6 xA1_7 xA1_8 xA1_9 xA1_10
  revert G hg hA hu hS hI hl post hL G' hnone hbut dQ dC dK dB dN dG xA1_2 XX T dX lt1 dG' lt2 dN' lt3 F1 dB' hsg hnv hbv N2
  exact K_A1 h₁ xA1_1 oQ oC oK oB oN oG oX lS xA1_3 xA1_4 oG' xA1_5 tN xA1_6 xA1_7 oN' xA1_8 tB xA1_9 xA1_10 oB' tk sgv nv bv⟩
namespace A1
noncomputable abbrev Par : Type := (Heap) × (Nat) × (Obj) × (Obj) × (Obj) × (Obj) × (Obj) × (Obj) × (Obj) × (Addr) × (Heap) × (Heap) × (Obj) × (Nat) × (Addr) × (Heap) × (Heap) × (Obj) × (Nat) × (Addr) × (Heap) × (Heap) × (Obj) × (Nat) × (List Value) × (List Value) × (List Value)
noncomputable def P1 (p : Par) : Prop := cap_top.1 p.1 p.2.1 p.2.2.1 p.2.2.2.1 p.2.2.2.2.1 p.2.2.2.2.2.1 p.2.2.2.2.2.2.1 p.2.2.2.2.2.2.2.1 p.2.2.2.2.2.2.2.2.1 p.2.2.2.2.2.2.2.2.2.1 p.2.2.2.2.2.2.2.2.2.2.1 p.2.2.2.2.2.2.2.2.2.2.2.1 p.2.2.2.2.2.2.2.2.2.2.2.2.1 p.2.2.2.2.2.2.2.2.2.2.2.2.2.1 p.2.2.2.2.2.2.2.2.2.2.2.2.2.2.1 p.2.2.2.2.2.2.2.2.2.2.2.2.2.2.2.1 p.2.2.2.2.2.2.2.2.2.2.2.2.2.2.2.2.1 p.2.2.2.2.2.2.2.2.2.2.2.2.2.2.2.2.2.1 p.2.2.2.2.2.2.2.2.2.2.2.2.2.2.2.2.2.2.1 p.2.2.2.2.2.2.2.2.2.2.2.2.2.2.2.2.2.2.2.1 p.2.2.2.2.2.2.2.2.2.2.2.2.2.2.2.2.2.2.2.2.1 p.2.2.2.2.2.2.2.2.2.2.2.2.2.2.2.2.2.2.2.2.2.1 p.2.2.2.2.2.2.2.2.2.2.2.2.2.2.2.2.2.2.2.2.2.2.1 p.2.2.2.2.2.2.2.2.2.2.2.2.2.2.2.2.2.2.2.2.2.2.2.1 p.2.2.2.2.2.2.2.2.2.2.2.2.2.2.2.2.2.2.2.2.2.2.2.2.1 p.2.2.2.2.2.2.2.2.2.2.2.2.2.2.2.2.2.2.2.2.2.2.2.2.2.1 p.2.2.2.2.2.2.2.2.2.2.2.2.2.2.2.2.2.2.2.2.2.2.2.2.2.2
theorem some_par : Nonempty Par := ⟨⟨default, 0, { cls := .none, data := .seq #[] }, { cls := .none, data := .seq #[] }, { cls := .none, data := .seq #[] }, { cls := .none, data := .seq #[] }, { cls := .none, data := .seq #[] }, { cls := .none, data := .seq #[] }, { cls := .none, data := .seq #[] }, 0, default, default, { cls := .none, data := .seq #[] }, 0, 0, default, default, { cls := .none, data := .seq #[] }, 0, 0, default, default, { cls := .none, data := .seq #[] }, 0, [], [], []⟩⟩
@[irreducible] noncomputable def cc : Par := @Classical.epsilon Par some_par fun p => ¬ P1 p
@[irreducible] noncomputable def h₁ : Heap := by with_unfolding_all exact cc.1
@[irreducible] noncomputable def xA1_1 : Nat := by with_unfolding_all exact cc.2.1
@[irreducible] noncomputable def oQ : Obj := by with_unfolding_all exact cc.2.2.1
@[irreducible] noncomputable def oC : Obj := by with_unfolding_all exact cc.2.2.2.1
@[irreducible] noncomputable def oK : Obj := by with_unfolding_all exact cc.2.2.2.2.1
@[irreducible] noncomputable def oB : Obj := by with_unfolding_all exact cc.2.2.2.2.2.1
@[irreducible] noncomputable def oN : Obj := by with_unfolding_all exact cc.2.2.2.2.2.2.1
@[irreducible] noncomputable def oG : Obj := by with_unfolding_all exact cc.2.2.2.2.2.2.2.1
@[irreducible] noncomputable def oX : Obj := by with_unfolding_all exact cc.2.2.2.2.2.2.2.2.1
@[irreducible] noncomputable def lS : Addr := by with_unfolding_all exact cc.2.2.2.2.2.2.2.2.2.1
@[irreducible] noncomputable def xA1_3 : Heap := by with_unfolding_all exact cc.2.2.2.2.2.2.2.2.2.2.1
@[irreducible] noncomputable def xA1_4 : Heap := by with_unfolding_all exact cc.2.2.2.2.2.2.2.2.2.2.2.1
@[irreducible] noncomputable def oG' : Obj := by with_unfolding_all exact cc.2.2.2.2.2.2.2.2.2.2.2.2.1
@[irreducible] noncomputable def xA1_5 : Nat := by with_unfolding_all exact cc.2.2.2.2.2.2.2.2.2.2.2.2.2.1
@[irreducible] noncomputable def tN : Addr := by with_unfolding_all exact cc.2.2.2.2.2.2.2.2.2.2.2.2.2.2.1
@[irreducible] noncomputable def xA1_6 : Heap := by with_unfolding_all exact cc.2.2.2.2.2.2.2.2.2.2.2.2.2.2.2.1
@[irreducible] noncomputable def xA1_7 : Heap := by with_unfolding_all exact cc.2.2.2.2.2.2.2.2.2.2.2.2.2.2.2.2.1
@[irreducible] noncomputable def oN' : Obj := by with_unfolding_all exact cc.2.2.2.2.2.2.2.2.2.2.2.2.2.2.2.2.2.1
@[irreducible] noncomputable def xA1_8 : Nat := by with_unfolding_all exact cc.2.2.2.2.2.2.2.2.2.2.2.2.2.2.2.2.2.2.1
@[irreducible] noncomputable def tB : Addr := by with_unfolding_all exact cc.2.2.2.2.2.2.2.2.2.2.2.2.2.2.2.2.2.2.2.1
@[irreducible] noncomputable def xA1_9 : Heap := by with_unfolding_all exact cc.2.2.2.2.2.2.2.2.2.2.2.2.2.2.2.2.2.2.2.2.1
@[irreducible] noncomputable def xA1_10 : Heap := by with_unfolding_all exact cc.2.2.2.2.2.2.2.2.2.2.2.2.2.2.2.2.2.2.2.2.2.1
@[irreducible] noncomputable def oB' : Obj := by with_unfolding_all exact cc.2.2.2.2.2.2.2.2.2.2.2.2.2.2.2.2.2.2.2.2.2.2.1
@[irreducible] noncomputable def tk : Nat := by with_unfolding_all exact cc.2.2.2.2.2.2.2.2.2.2.2.2.2.2.2.2.2.2.2.2.2.2.2.1
@[irreducible] noncomputable def sgv : List Value := by with_unfolding_all exact cc.2.2.2.2.2.2.2.2.2.2.2.2.2.2.2.2.2.2.2.2.2.2.2.2.1
@[irreducible] noncomputable def nv : List Value := by with_unfolding_all exact cc.2.2.2.2.2.2.2.2.2.2.2.2.2.2.2.2.2.2.2.2.2.2.2.2.2.1
@[irreducible] noncomputable def bv : List Value := by with_unfolding_all exact cc.2.2.2.2.2.2.2.2.2.2.2.2.2.2.2.2.2.2.2.2.2.2.2.2.2.2
noncomputable def cap_A1 : (T_B1 : (Heap) → (Nat) → (Tok) → (Tok) → (Tok) → (Heap) → (Nat) → (List Value) → (List Nat) → (Addr) → (Obj) → (Addr) → (Obj) → (Addr) → (Str → Option Value) → (Heap) → (Nat) → (Value → Shared → Prop) → (Tok) → Prop) ×' (T_B2 : (Heap) → (Nat) → (Tok) → (Tok) → (Tok) → (Heap) → (List Value) → (List Nat) → (Addr) → (Heap) → (Nat) → Prop) ×' ((∀ (xB1_3 : Heap) (xB1_4 : Nat) (xB1_5 : Tok) (xB1_6 : Tok) (xB1_7 : Tok) (g2 : Heap) (k : Nat) (ys : List Value) (c : List Nat) (I2 : Addr) (oI2 : Obj) (C : Addr) (oC : Obj) (D4 : Addr) (m₂ : Str → Option Value) (h4 : Heap) (tk4 : Nat) (E' : Value → Shared → Prop) (tv : Tok), T_B1 xB1_3 xB1_4 xB1_5 xB1_6 xB1_7 g2 k ys c I2 oI2 C oC D4 m₂ h4 tk4 E' tv) → (∀ (xB2_3 : Heap) (xB2_4 : Nat) (xB2_5 : Tok) (xB2_6 : Tok) (xB2_7 : Tok) (g2 : Heap) (ys : List Value) (c : List Nat) (D6 : Addr) (h6 : Heap) (tk6 : Nat), T_B2 xB2_3 xB2_4 xB2_5 xB2_6 xB2_7 g2 ys c D6 h6 tk6) → cap_top.1 h₁ xA1_1 oQ oC oK oB oN oG oX lS xA1_3 xA1_4 oG' xA1_5 tN xA1_6 xA1_7 oN' xA1_8 tB xA1_9 xA1_10 oB' tk sgv nv bv) := ⟨_, _, by
  intro K_B1 K_B2
  intro G hg hA hu hS hI hl post hL G' hnone hbut dQ dC dK dB dN dG xA1_2 XX T dX lt1 dG' lt2 dN' lt3 F1 dB' hsg hnv hbv N2
  iterate 9 walk_at "go"
  with_reducible rename IsRange _ _ _ _ _ _ _ _ => hrg
  with_reducible rename Fr _ _ _ _ => F
  with_reducible rename News _ _ _ _ => N
  refine LCg.CompSrc.range (n := 18) rfl F N hrg (by decide) (by decide) (by simp [sizeLine]) ?_
  intro g2
  refine rest_inv (fun k ys nw => nw = _ ∧ ∃ c : List Nat, c.length = k ∧ IntsAre ys (c.map Int.ofNat)) 18 ?_ ?_ _ 0 _ _ (by simp) ⟨rfl, [], rfl, .nil⟩
  · rintro k ys nw hk ⟨rfl, c, hck, hys⟩ v I2 oI2 C oC D4 m₂ h4 tk4 E' ⟨tv, rfl⟩ hC hx F4 N4 off ne
    rename_i xB1_1 xB1_2 xB1_3 xB1_4 xB1_5 xB1_6 xB1_7 xB1_8
    revert G hg hA hu hS hI hl post hL G' hnone hbut dQ dC dK dB dN dG xA1_2 XX T dX lt1 dG' lt2 dN' lt3 xB1_1 dB' hsg hnv hbv xB1_2 hrg F N xB1_8 hk hck hys hC hx F4 N4 off ne
    exact K_B1 xB1_3 xB1_4 xB1_5 xB1_6 xB1_7 g2 k ys c I2 oI2 C oC D4 m₂ h4 tk4 E' tv
  · rintro ys nw ⟨rfl, c, hck, hys⟩
    unfold LCg.FinE
    intro D6 h6 tk6 F6 N6 o6
    clear F N
    dsimp only
    have e6 : @Ne Nat D6 (L + 1 + 1 + 1 + 1 + 1 + 1) := fun z => off1_mem o6 (L + 1 + 1 + 1 + 1 + 1 + 1, oC) (by k_mem) z.symm
    have e7 : @Ne Nat D6 (L + 1 + 1 + 1 + 1 + 1 + 1 + 1) := fun z => off1_mem o6 (L + 1 + 1 + 1 + 1 + 1 + 1 + 1, oQ) (by k_mem) z.symm
    have e5 : @Ne Nat D6 (L + 1 + 1 + 1 + 1 + 1) := fun z => off1_mem o6 (L + 1 + 1 + 1 + 1 + 1, oK) (by k_mem) z.symm
    have hcell : ∀ i, (List.map Int.ofNat c).getD i 0 = ((c.getD i 0 : Nat) : Int) := fun i => by
      simp only [List.getD_eq_getElem?_getD, List.getElem?_map]
      cases c[i]? <;> rfl
    have hmod2 : ∀ a : Nat, ((a : Nat) : Int).fmod 2 = ((a % 2 : Nat) : Int) := fun a => by
      rw [Int.fmod_eq_emod_of_nonneg _ (by omega)]; rfl
    rename_i xB2_1 xB2_2 xB2_3 xB2_4 xB2_5 xB2_6 xB2_7 xB2_8
    revert G hg hA hu hS hI hl post hL G' hnone hbut dQ dC dK dB dN dG xA1_2 XX T dX lt1 dG' lt2 dN' lt3 xB2_1 dB' hsg hnv hbv xB2_2 hrg xB2_8 hck hys F6 N6 o6 e6 e7 e5 hcell hmod2
    exact K_B2 xB2_3 xB2_4 xB2_5 xB2_6 xB2_7 g2 ys c D6 h6 tk6⟩
namespace B1
noncomputable abbrev Par : Type := (Heap) × (Nat) × (Tok) × (Tok) × (Tok) × (Heap) × (Nat) × (List Value) × (List Nat) × (Addr) × (Obj) × (Addr) × (Obj) × (Addr) × (Str → Option Value) × (Heap) × (Nat) × (Value → Shared → Prop) × (Tok)
noncomputable def P1 (p : Par) : Prop := cap_A1.1 p.1 p.2.1 p.2.2.1 p.2.2.2.1 p.2.2.2.2.1 p.2.2.2.2.2.1 p.2.2.2.2.2.2.1 p.2.2.2.2.2.2.2.1 p.2.2.2.2.2.2.2.2.1 p.2.2.2.2.2.2.2.2.2.1 p.2.2.2.2.2.2.2.2.2.2.1 p.2.2.2.2.2.2.2.2.2.2.2.1 p.2.2.2.2.2.2.2.2.2.2.2.2.1 p.2.2.2.2.2.2.2.2.2.2.2.2.2.1 p.2.2.2.2.2.2.2.2.2.2.2.2.2.2.1 p.2.2.2.2.2.2.2.2.2.2.2.2.2.2.2.1 p.2.2.2.2.2.2.2.2.2.2.2.2.2.2.2.2.1 p.2.2.2.2.2.2.2.2.2.2.2.2.2.2.2.2.2.1 p.2.2.2.2.2.2.2.2.2.2.2.2.2.2.2.2.2.2
theorem some_par : Nonempty Par := ⟨⟨default, 0, 0, 0, 0, default, 0, [], [], 0, { cls := .none, data := .seq #[] }, 0, { cls := .none, data := .seq #[] }, 0, (fun _ => none), default, 0, (fun _ _ => True), 0⟩⟩
@[irreducible] noncomputable def cc : Par := @Classical.epsilon Par some_par fun p => ¬ P1 p
@[irreducible] noncomputable def xB1_3 : Heap := by with_unfolding_all exact cc.1
@[irreducible] noncomputable def xB1_4 : Nat := by with_unfolding_all exact cc.2.1
@[irreducible] noncomputable def xB1_5 : Tok := by with_unfolding_all exact cc.2.2.1
@[irreducible] noncomputable def xB1_6 : Tok := by with_unfolding_all exact cc.2.2.2.1
@[irreducible] noncomputable def xB1_7 : Tok := by with_unfolding_all exact cc.2.2.2.2.1
@[irreducible] noncomputable def g2 : Heap := by with_unfolding_all exact cc.2.2.2.2.2.1
@[irreducible] noncomputable def k : Nat := by with_unfolding_all exact cc.2.2.2.2.2.2.1
@[irreducible] noncomputable def ys : List Value := by with_unfolding_all exact cc.2.2.2.2.2.2.2.1
@[irreducible] noncomputable def c : List Nat := by with_unfolding_all exact cc.2.2.2.2.2.2.2.2.1
@[irreducible] noncomputable def I2 : Addr := by with_unfolding_all exact cc.2.2.2.2.2.2.2.2.2.1
@[irreducible] noncomputable def oI2 : Obj := by with_unfolding_all exact cc.2.2.2.2.2.2.2.2.2.2.1
@[irreducible] noncomputable def C : Addr := by with_unfolding_all exact cc.2.2.2.2.2.2.2.2.2.2.2.1
@[irreducible] noncomputable def oC : Obj := by with_unfolding_all exact cc.2.2.2.2.2.2.2.2.2.2.2.2.1
@[irreducible] noncomputable def D4 : Addr := by with_unfolding_all exact cc.2.2.2.2.2.2.2.2.2.2.2.2.2.1
@[irreducible] noncomputable def m₂ : Str → Option Value := by with_unfolding_all exact cc.2.2.2.2.2.2.2.2.2.2.2.2.2.2.1
@[irreducible] noncomputable def h4 : Heap := by with_unfolding_all exact cc.2.2.2.2.2.2.2.2.2.2.2.2.2.2.2.1
@[irreducible] noncomputable def tk4 : Nat := by with_unfolding_all exact cc.2.2.2.2.2.2.2.2.2.2.2.2.2.2.2.2.1
@[irreducible] noncomputable def E' : Value → Shared → Prop := by with_unfolding_all exact cc.2.2.2.2.2.2.2.2.2.2.2.2.2.2.2.2.2.1
@[irreducible] noncomputable def tv : Tok := by with_unfolding_all exact cc.2.2.2.2.2.2.2.2.2.2.2.2.2.2.2.2.2.2
theorem core : cap_A1.1 xB1_3 xB1_4 xB1_5 xB1_6 xB1_7 g2 k ys c I2 oI2 C oC D4 m₂ h4 tk4 E' tv := by
  intro G hg hA hu hS hI hl post hL G' hnone hbut dQ dC dK dB dN dG xA1_2 XX T dX lt1 dG' lt2 dN' lt3 xB1_1 dB' hsg hnv hbv xB1_2 hrg F N xB1_8 hk hck hys hC hx F4 N4 off ne
  clear F N
  obtain ⟨tb, htb⟩ := ints_at hbv (i := k) (by simpa using hk)
  have hSg : g'.IsList SC sv.toArray := by
    obtain ⟨o, e, r⟩ := hS
    exact ⟨o, hbut SC o (fun h => nomatch h) e, r⟩
  have hsl := hI.length
  iterate 4 walk_at "go"
  refine sub_tup (j := k) (N4.isTup (by k_mem)) (by omega) (by omega) htb ?_
  iterate 9 walk_at "go"
  refine PyProof.Rows.len_list (isList_sub hSg F4.keep) (by rw [List.size_toArray]; omega) ?_
  iterate 3 walk_at "go"
  · have hkl : k < sv.length := by
      simp only [List.size_toArray] at *
      omega
    obtain ⟨xk, txk, hxv, hxk⟩ := hI.at k sv[k] (List.getElem?_eq_getElem hkl)
    have hxs : sv[k]? = some (Value.int xk txk) := by rw [List.getElem?_eq_getElem hkl, hxv]
    iterate 4 walk_at "go"
    refine sub_list (j := k) (isList_sub hSg F4.keep) (by omega) (by omega) hxs ?_
    iterate 3 walk_at "go"
    have hx0 : 0 ≤ xk.fmod 54 := Int.fmod_nonneg_of_pos _ (by decide)
    refine LCg.CompEnd.intro F4 N4 _ (fun p hp => hp) off trivial ⟨rfl, c ++ [[1, 1, 2, 5, 0, 4, 3, 2, 1, 2, 5, 0, 3, 4, 1, 3, 0, 5].getD k 0 + (xk.fmod 54).toNat], by simp [hck], ?_⟩
    rw [List.map_append]
    refine hys.append ?_
    have e : ((([1, 1, 2, 5, 0, 4, 3, 2, 1, 2, 5, 0, 3, 4, 1, 3, 0, 5] : List Nat).getD k 0 : Nat) : Int) + xk.fmod 54 = Int.ofNat (([1, 1, 2, 5, 0, 4, 3, 2, 1, 2, 5, 0, 3, 4, 1, 3, 0, 5] : List Nat).getD k 0 + (xk.fmod 54).toNat) := by
      simp only [Int.ofNat_eq_natCast, Int.natCast_add]; omega
    rw [e]
    exact .cons _ _ .nil
  · iterate 2 walk_at "go"
    refine LCg.CompEnd.intro F4 N4 _ (fun p hp => hp) off trivial ⟨rfl, c ++ [[1, 1, 2, 5, 0, 4, 3, 2, 1, 2, 5, 0, 3, 4, 1, 3, 0, 5].getD k 0 + 0], by simp [hck], ?_⟩
    rw [List.map_append]
    refine hys.append ?_
    exact .cons _ _ .nil
theorem all : ∀ p : Par, P1 p := fun p => Classical.byContradiction fun hn => (@Classical.epsilon_spec Par (fun p => ¬ P1 p) ⟨p, hn⟩) (by with_unfolding_all exact core)
end B1
namespace B2
noncomputable abbrev Par : Type := (Heap) × (Nat) × (Tok) × (Tok) × (Tok) × (Heap) × (List Value) × (List Nat) × (Addr) × (Heap) × (Nat)
noncomputable def P1 (p : Par) : Prop := cap_A1.2.1 p.1 p.2.1 p.2.2.1 p.2.2.2.1 p.2.2.2.2.1 p.2.2.2.2.2.1 p.2.2.2.2.2.2.1 p.2.2.2.2.2.2.2.1 p.2.2.2.2.2.2.2.2.1 p.2.2.2.2.2.2.2.2.2.1 p.2.2.2.2.2.2.2.2.2.2
theorem some_par : Nonempty Par := ⟨⟨default, 0, 0, 0, 0, default, [], [], 0, default, 0⟩⟩
@[irreducible] noncomputable def cc : Par := @Classical.epsilon Par some_par fun p => ¬ P1 p
@[irreducible] noncomputable def xB2_3 : Heap := by with_unfolding_all exact cc.1
@[irreducible] noncomputable def xB2_4 : Nat := by with_unfolding_all exact cc.2.1
@[irreducible] noncomputable def xB2_5 : Tok := by with_unfolding_all exact cc.2.2.1
@[irreducible] noncomputable def xB2_6 : Tok := by with_unfolding_all exact cc.2.2.2.1
@[irreducible] noncomputable def xB2_7 : Tok := by with_unfolding_all exact cc.2.2.2.2.1
@[irreducible] noncomputable def g2 : Heap := by with_unfolding_all exact cc.2.2.2.2.2.1
@[irreducible] noncomputable def ys : List Value := by with_unfolding_all exact cc.2.2.2.2.2.2.1
@[irreducible] noncomputable def c : List Nat := by with_unfolding_all exact cc.2.2.2.2.2.2.2.1
@[irreducible] noncomputable def D6 : Addr := by with_unfolding_all exact cc.2.2.2.2.2.2.2.2.1
@[irreducible] noncomputable def h6 : Heap := by with_unfolding_all exact cc.2.2.2.2.2.2.2.2.2.1
@[irreducible] noncomputable def tk6 : Nat := by with_unfolding_all exact cc.2.2.2.2.2.2.2.2.2.2
noncomputable def cap_B2 : (T_C1 : (Heap) → (Obj) → (Nat) → (Tok) → (Heap) → (Obj) → (Nat) → (Tok) → (Nat) → Prop) ×' ((∀ (xC1_1 : Heap) (oC' : Obj) (tk : Nat) (xC1_2 : Tok) (xC1_3 : Heap) (oQ' : Obj) (q : Nat) (xC1_4 : Tok) (n : Nat), T_C1 xC1_1 oC' tk xC1_2 xC1_3 oQ' q xC1_4 n) → cap_A1.2.1 xB2_3 xB2_4 xB2_5 xB2_6 xB2_7 g2 ys c D6 h6 tk6) := ⟨_, by
  intro K_C1
  intro G hg hA hu hS hI hl post hL G' hnone hbut dQ dC dK dB dN dG xA1_2 XX T dX lt1 dG' lt2 dN' lt3 xB2_1 dB' hsg hnv hbv xB2_2 hrg xB2_8 hck hys F6 N6 o6 e6 e7 e5 hcell hmod2
  iterate 12 walk_at "go"
  rw [hcell]
  iterate 1 walk_at "go"
  rw [hmod2]
  iterate 2 walk_at "go"
  with_reducible rename Fr _ _ _ _ => F7
  with_reducible rename News _ _ _ _ => N7
  rename_i oC' dC' _ _ oQ' dQ'
  obtain ⟨q, hqe⟩ : ∃ q : Nat, q = 2 + c.getD (Int.toNat 0) 0 % 2 := ⟨_, rfl⟩
  have hqq : 2 ≤ q ∧ q ≤ 3 := by omega
  have eq2 : (2 : Int) + ((c.getD (Int.toNat 0) 0 % 2 : Nat) : Int) = ((q : Nat) : Int) := by rw [hqe]; simp
  rw [eq2] at dQ'
  clear dQ
  iterate 13 walk_at "go"
  rw [hcell]
  iterate 1 walk_at "go"
  rw [hmod2]
  obtain ⟨n, hne⟩ : ∃ n : Nat, n = 7 - q - c.getD (Int.toNat 1) 0 % 2 := ⟨_, rfl⟩
  have eqn : (7 : Int) - (q : Int) - ((c.getD (Int.toNat 1) 0 % 2 : Nat) : Int) = ((n : Nat) : Int) := by omega
  rename_i xC1_1 xC1_2 xC1_3 xC1_4
  revert G hg hA hu hS hI hl post hL G' hnone hbut dC dK dB dN dG xA1_2 XX T dX lt1 dG' lt2 dN' lt3 dB' hsg hnv hbv hrg xB2_8 hck hys o6 e6 e7 e5 hcell hmod2 dC' F7 N7 dQ' hqe hqq eq2 hne eqn
  exact K_C1 xC1_1 oC' tk xC1_2 xC1_3 oQ' q xC1_4 n⟩
namespace C1
noncomputable abbrev Par : Type := (Heap) × (Obj) × (Nat) × (Tok) × (Heap) × (Obj) × (Nat) × (Tok) × (Nat)
noncomputable def P1 (p : Par) : Prop := cap_B2.1 p.1 p.2.1 p.2.2.1 p.2.2.2.1 p.2.2.2.2.1 p.2.2.2.2.2.1 p.2.2.2.2.2.2.1 p.2.2.2.2.2.2.2.1 p.2.2.2.2.2.2.2.2
theorem some_par : Nonempty Par := ⟨⟨default, { cls := .none, data := .seq #[] }, 0, 0, default, { cls := .none, data := .seq #[] }, 0, 0, 0⟩⟩
@[irreducible] noncomputable def cc : Par := @Classical.epsilon Par some_par fun p => ¬ P1 p
@[irreducible] noncomputable def xC1_1 : Heap := by with_unfolding_all exact cc.1
@[irreducible] noncomputable def oC' : Obj := by with_unfolding_all exact cc.2.1
@[irreducible] noncomputable def tk : Nat := by with_unfolding_all exact cc.2.2.1
@[irreducible] noncomputable def xC1_2 : Tok := by with_unfolding_all exact cc.2.2.2.1
@[irreducible] noncomputable def xC1_3 : Heap := by with_unfolding_all exact cc.2.2.2.2.1
@[irreducible] noncomputable def oQ' : Obj := by with_unfolding_all exact cc.2.2.2.2.2.1
@[irreducible] noncomputable def q : Nat := by with_unfolding_all exact cc.2.2.2.2.2.2.1
@[irreducible] noncomputable def xC1_4 : Tok := by with_unfolding_all exact cc.2.2.2.2.2.2.2.1
@[irreducible] noncomputable def n : Nat := by with_unfolding_all exact cc.2.2.2.2.2.2.2.2
noncomputable def cap_C1 : (T_D1 : (Heap) → (Addr) → (Heap) → (Heap) → (Nat) → (Heap) → (Heap) → (Nat) → (Tok) → (Tok) → (Tok) → (Nat) → (Nat) → (Tok) → (Heap) → (Nat) → (Addr) → (Obj) → (Option Value) → (Option Value) → (Tok) → (Obj) → (Nat) → (List Value) → (List (Addr × Obj)) → (List (List Nat × Nat × Nat)) → (Option Value) → Prop) ×' (T_D2 : (Heap) → (Addr) → (Heap) → (Heap) → (Nat) → (Heap) → (Heap) → (Nat) → (Tok) → (Tok) → (Tok) → (Nat) → (Heap) → (Nat) → (Option Value) → (Option Value) → (Tok) → (Obj) → (Nat) → (List Value) → (List (Addr × Obj)) → (List (List Nat × Nat × Nat)) → (Option Value) → Prop) ×' ((∀ (xD1_1 : Heap) (lR : Addr) (xD1_2 : Heap) (xD1_3 : Heap) (tk : Nat) (xD1_4 : Heap) (xD1_7 : Heap) (xD1_8 : Nat) (xD1_9 : Tok) (xD1_10 : Tok) (xD1_11 : Tok) (m : Nat) (k : Nat) (tK : Tok) (h9 : Heap) (tk9 : Nat) (I : Addr) (oI : Obj) (uP : Option Value) (uW : Option Value) (tT : Tok) (oK' : Obj) (epR : Nat) (ys2 : List Value) (seg : List (Addr × Obj)) (ps : List (List Nat × Nat × Nat)) (uK : Option Value), T_D1 xD1_1 lR xD1_2 xD1_3 tk xD1_4 xD1_7 xD1_8 xD1_9 xD1_10 xD1_11 m k tK h9 tk9 I oI uP uW tT oK' epR ys2 seg ps uK) → (∀ (xD2_1 : Heap) (lR : Addr) (xD2_2 : Heap) (xD2_3 : Heap) (tk : Nat) (xD2_4 : Heap) (xD2_7 : Heap) (xD2_8 : Nat) (xD2_9 : Tok) (xD2_10 : Tok) (xD2_11 : Tok) (m : Nat) (h9 : Heap) (tk9 : Nat) (uP : Option Value) (uW : Option Value) (tT : Tok) (oK' : Obj) (epR : Nat) (ys2 : List Value) (seg : List (Addr × Obj)) (ps : List (List Nat × Nat × Nat)) (uK : Option Value), T_D2 xD2_1 lR xD2_2 xD2_3 tk xD2_4 xD2_7 xD2_8 xD2_9 xD2_10 xD2_11 m h9 tk9 uP uW tT oK' epR ys2 seg ps uK) → cap_B2.1 xC1_1 oC' tk xC1_2 xC1_3 oQ' q xC1_4 n) := ⟨_, _, by
  intro K_D1 K_D2
  intro G hg hA hu hS hI hl post hL G' hnone hbut dC dK dB dN dG xA1_2 XX T dX lt1 dG' lt2 dN' lt3 dB' hsg hnv hbv hrg xB2_8 hck hys o6 e6 e7 e5 hcell hmod2 dC' F7 N7 dQ' hqe hqq eq2 hne eqn
  iterate 1 walk_at "go"
  rw [eqn]
  iterate 24 walk_at "go"
  with_reducible rename IsRange _ _ _ _ _ _ _ _ => hrg8
  with_reducible rename Fr _ _ _ _ => F8
  with_reducible rename News _ _ _ _ => N8
  rename_i _ lR _ ltR _ _ _ _ _ _ _ _ _ _
  rw [show Str.ofString "" = S (textOf []) from S_of _] at F8
  obtain ⟨m, hm⟩ : ∃ m : Nat, m = 5 - q := ⟨_, rfl⟩
  have em : (5 : Int) - (q : Int) = ((m : Nat) : Int) := by omega
  rw [em] at hrg8
  obtain ⟨r1, r2⟩ := range_ok (b := ((m : Nat) : Int)) (n := m) rfl (by omega)
  have hNe : ∀ a ∈ [(lR : Nat), D6, tB, tN, lS, L + 1 + 1 + 1 + 1 + 1 + 1 + 1, L + 1 + 1 + 1 + 1 + 1 + 1, L + 1 + 1 + 1 + 1, L + 1 + 1 + 1, L + 1 + 1, L + 1], @Ne Nat a (L + 1 + 1 + 1 + 1 + 1) := by
    intro a ha
    simp only [List.mem_cons, List.not_mem_nil, or_false] at ha
    rcases ha with rfl | rfl | rfl | rfl | rfl | rfl | rfl | rfl | rfl | rfl | rfl <;> omega
  refine for_range (fun i l nw => ∃ uP uW tT oK' epR ys2 seg, ∃ ps : List (List Nat × Nat × Nat), l = [(Str.ofString "picks", uP), (Str.ofString "word", uW), (Str.ofString "text", some (.str (S (textOf ps)) tT))] ∧
    nw = (lR, listOf (ys2 : List Value).toArray epR) :: (D6, LCg.lst ys) :: (tB, tupO bv.toArray) :: (tN, tupO nv.toArray) :: (lS, listOf sgv.toArray 0) :: (L + 1 + 1 + 1 + 1 + 1 + 1 + 1, oQ') :: (L + 1 + 1 + 1 + 1 + 1 + 1, oC') :: (L + 1 + 1 + 1 + 1 + 1, oK') :: (L + 1 + 1 + 1 + 1, oB') :: (L + 1 + 1 + 1, oN') :: (L + 1 + 1, oG') :: (L + 1, oX) :: seg ∧
    (∃ u, oK'.data = .cell u) ∧ Lists seg ys2 (ps.map fun p => lets q p.1) ∧ ps.length = i ∧ (∀ p ∈ ps, PartOk n p) ∧ (∀ x ∈ seg, @Ne Nat x.1 (L + 1 + 1 + 1 + 1 + 1) ∧ @Ne Nat x.1 lR)) rfl hrg8 r1 r2 F8 N8 [Str.ofString "picks", Str.ofString "word", Str.ofString "text"] ?_ ?_ ?_
  · exact ⟨_, _, _, oK, 0, [], [], [], rfl, rfl, ⟨_, dK⟩, Lists.nil, rfl, (fun _ h => nomatch h), fun _ h => nomatch h⟩
  · rintro k tK l nw h9 tk9 I oI hk ⟨uP, uW, tT, oK', epR, ys2, seg, ps, rfl, rfl, ⟨uK, dK'⟩, hLs, hpl, hps, hseg⟩ hne9 hlt9 F9 N9
    rename_i xD1_1 xD1_2 xD1_3 xD1_4 xD1_5 xD1_6 xD1_7 xD1_8 xD1_9 xD1_10 xD1_11 xD1_12
    revert G hg hA hu hS hI hl post hL G' hnone hbut dC dK dB dN dG xA1_2 XX T dX lt1 dG' lt2 dN' lt3 dB' hsg hnv hbv hrg xB2_8 hck hys o6 e6 e7 e5 hcell hmod2 dC' dQ' hqe hqq eq2 hne eqn ltR xD1_5 xD1_6 F8 N8 xD1_12 hrg8 hm em r1 r2 hNe hk dK' hLs hpl hps hseg hne9 hlt9 F9 N9
    exact K_D1 xD1_1 lR xD1_2 xD1_3 tk xD1_4 xD1_7 xD1_8 xD1_9 xD1_10 xD1_11 m k tK h9 tk9 I oI uP uW tT oK' epR ys2 seg ps uK
  · rintro l nw h9 tk9 ⟨uP, uW, tT, oK', epR, ys2, seg, ps, rfl, rfl, ⟨uK, dK'⟩, hLs, hpl, hps, hseg⟩ F9 N9
    rename_i xD2_1 xD2_2 xD2_3 xD2_4 xD2_5 xD2_6 xD2_7 xD2_8 xD2_9 xD2_10 xD2_11 xD2_12
    revert G hg hA hu hS hI hl post hL G' hnone hbut dC dK dB dN dG xA1_2 XX T dX lt1 dG' lt2 dN' lt3 dB' hsg hnv hbv hrg xB2_8 hck hys o6 e6 e7 e5 hcell hmod2 dC' dQ' hqe hqq eq2 hne eqn ltR xD2_5 xD2_6 F8 N8 xD2_12 hrg8 hm em r1 r2 hNe dK' hLs hpl hps hseg F9 N9
    exact K_D2 xD2_1 lR xD2_2 xD2_3 tk xD2_4 xD2_7 xD2_8 xD2_9 xD2_10 xD2_11 m h9 tk9 uP uW tT oK' epR ys2 seg ps uK⟩
namespace D1
noncomputable abbrev Par : Type := (Heap) × (Addr) × (Heap) × (Heap) × (Nat) × (Heap) × (Heap) × (Nat) × (Tok) × (Tok) × (Tok) × (Nat) × (Nat) × (Tok) × (Heap) × (Nat) × (Addr) × (Obj) × (Option Value) × (Option Value) × (Tok) × (Obj) × (Nat) × (List Value) × (List (Addr × Obj)) × (List (List Nat × Nat × Nat)) × (Option Value)
noncomputable def P1 (p : Par) : Prop := cap_C1.1 p.1 p.2.1 p.2.2.1 p.2.2.2.1 p.2.2.2.2.1 p.2.2.2.2.2.1 p.2.2.2.2.2.2.1 p.2.2.2.2.2.2.2.1 p.2.2.2.2.2.2.2.2.1 p.2.2.2.2.2.2.2.2.2.1 p.2.2.2.2.2.2.2.2.2.2.1 p.2.2.2.2.2.2.2.2.2.2.2.1 p.2.2.2.2.2.2.2.2.2.2.2.2.1 p.2.2.2.2.2.2.2.2.2.2.2.2.2.1 p.2.2.2.2.2.2.2.2.2.2.2.2.2.2.1 p.2.2.2.2.2.2.2.2.2.2.2.2.2.2.2.1 p.2.2.2.2.2.2.2.2.2.2.2.2.2.2.2.2.1 p.2.2.2.2.2.2.2.2.2.2.2.2.2.2.2.2.2.1 p.2.2.2.2.2.2.2.2.2.2.2.2.2.2.2.2.2.2.1 p.2.2.2.2.2.2.2.2.2.2.2.2.2.2.2.2.2.2.2.1 p.2.2.2.2.2.2.2.2.2.2.2.2.2.2.2.2.2.2.2.2.1 p.2.2.2.2.2.2.2.2.2.2.2.2.2.2.2.2.2.2.2.2.2.1 p.2.2.2.2.2.2.2.2.2.2.2.2.2.2.2.2.2.2.2.2.2.2.1 p.2.2.2.2.2.2.2.2.2.2.2.2.2.2.2.2.2.2.2.2.2.2.2.1 p.2.2.2.2.2.2.2.2.2.2.2.2.2.2.2.2.2.2.2.2.2.2.2.2.1 p.2.2.2.2.2.2.2.2.2.2.2.2.2.2.2.2.2.2.2.2.2.2.2.2.2.1 p.2.2.2.2.2.2.2.2.2.2.2.2.2.2.2.2.2.2.2.2.2.2.2.2.2.2
theorem some_par : Nonempty Par := ⟨⟨default, 0, default, default, 0, default, default, 0, 0, 0, 0, 0, 0, 0, default, 0, 0, { cls := .none, data := .seq #[] }, none, none, 0, { cls := .none, data := .seq #[] }, 0, [], [], [], none⟩⟩
@[irreducible] noncomputable def cc : Par := @Classical.epsilon Par some_par fun p => ¬ P1 p
@[irreducible] noncomputable def xD1_1 : Heap := by with_unfolding_all exact cc.1
@[irreducible] noncomputable def lR : Addr := by with_unfolding_all exact cc.2.1
@[irreducible] noncomputable def xD1_2 : Heap := by with_unfolding_all exact cc.2.2.1
@[irreducible] noncomputable def xD1_3 : Heap := by with_unfolding_all exact cc.2.2.2.1
@[irreducible] noncomputable def tk : Nat := by with_unfolding_all exact cc.2.2.2.2.1
@[irreducible] noncomputable def xD1_4 : Heap := by with_unfolding_all exact cc.2.2.2.2.2.1
@[irreducible] noncomputable def xD1_7 : Heap := by with_unfolding_all exact cc.2.2.2.2.2.2.1
@[irreducible] noncomputable def xD1_8 : Nat := by with_unfolding_all exact cc.2.2.2.2.2.2.2.1
@[irreducible] noncomputable def xD1_9 : Tok := by with_unfolding_all exact cc.2.2.2.2.2.2.2.2.1
@[irreducible] noncomputable def xD1_10 : Tok := by with_unfolding_all exact cc.2.2.2.2.2.2.2.2.2.1
@[irreducible] noncomputable def xD1_11 : Tok := by with_unfolding_all exact cc.2.2.2.2.2.2.2.2.2.2.1
@[irreducible] noncomputable def m : Nat := by with_unfolding_all exact cc.2.2.2.2.2.2.2.2.2.2.2.1
@[irreducible] noncomputable def k : Nat := by with_unfolding_all exact cc.2.2.2.2.2.2.2.2.2.2.2.2.1
@[irreducible] noncomputable def tK : Tok := by with_unfolding_all exact cc.2.2.2.2.2.2.2.2.2.2.2.2.2.1
@[irreducible] noncomputable def h9 : Heap := by with_unfolding_all exact cc.2.2.2.2.2.2.2.2.2.2.2.2.2.2.1
@[irreducible] noncomputable def tk9 : Nat := by with_unfolding_all exact cc.2.2.2.2.2.2.2.2.2.2.2.2.2.2.2.1
@[irreducible] noncomputable def I : Addr := by with_unfolding_all exact cc.2.2.2.2.2.2.2.2.2.2.2.2.2.2.2.2.1
@[irreducible] noncomputable def oI : Obj := by with_unfolding_all exact cc.2.2.2.2.2.2.2.2.2.2.2.2.2.2.2.2.2.1
@[irreducible] noncomputable def uP : Option Value := by with_unfolding_all exact cc.2.2.2.2.2.2.2.2.2.2.2.2.2.2.2.2.2.2.1
@[irreducible] noncomputable def uW : Option Value := by with_unfolding_all exact cc.2.2.2.2.2.2.2.2.2.2.2.2.2.2.2.2.2.2.2.1
@[irreducible] noncomputable def tT : Tok := by with_unfolding_all exact cc.2.2.2.2.2.2.2.2.2.2.2.2.2.2.2.2.2.2.2.2.1
@[irreducible] noncomputable def oK' : Obj := by with_unfolding_all exact cc.2.2.2.2.2.2.2.2.2.2.2.2.2.2.2.2.2.2.2.2.2.1
@[irreducible] noncomputable def epR : Nat := by with_unfolding_all exact cc.2.2.2.2.2.2.2.2.2.2.2.2.2.2.2.2.2.2.2.2.2.2.1
@[irreducible] noncomputable def ys2 : List Value := by with_unfolding_all exact cc.2.2.2.2.2.2.2.2.2.2.2.2.2.2.2.2.2.2.2.2.2.2.2.1
@[irreducible] noncomputable def seg : List (Addr × Obj) := by with_unfolding_all exact cc.2.2.2.2.2.2.2.2.2.2.2.2.2.2.2.2.2.2.2.2.2.2.2.2.1
@[irreducible] noncomputable def ps : List (List Nat × Nat × Nat) := by with_unfolding_all exact cc.2.2.2.2.2.2.2.2.2.2.2.2.2.2.2.2.2.2.2.2.2.2.2.2.2.1
@[irreducible] noncomputable def uK : Option Value := by with_unfolding_all exact cc.2.2.2.2.2.2.2.2.2.2.2.2.2.2.2.2.2.2.2.2.2.2.2.2.2.2
noncomputable def cap_D1 : (T_E1 : (Heap) → (Obj) → (Nat) → (Heap) → (Nat) → (Tok) → (Tok) → (Tok) → (Heap) → (Nat) → (List Value) → (List Nat) → (Addr) → (Obj) → (Addr) → (Obj) → (Addr) → (Str → Option Value) → (Heap) → (Nat) → (Value → Shared → Prop) → (Tok) → Prop) ×' (T_E2 : (Heap) → (Obj) → (Nat) → (Heap) → (Nat) → (Tok) → (Tok) → (Tok) → (Heap) → (List Value) → (List Nat) → (Addr) → (Heap) → (Nat) → Prop) ×' ((∀ (xE1_1 : Heap) (xE1_2 : Obj) (tk : Nat) (xE1_6 : Heap) (xE1_7 : Nat) (xE1_8 : Tok) (xE1_9 : Tok) (xE1_10 : Tok) (g11 : Heap) (j : Nat) (zs : List Value) (idx : List Nat) (I2 : Addr) (oI2 : Obj) (C : Addr) (oC : Obj) (D4 : Addr) (m₂ : Str → Option Value) (h4 : Heap) (tk4 : Nat) (E' : Value → Shared → Prop) (tv : Tok), T_E1 xE1_1 xE1_2 tk xE1_6 xE1_7 xE1_8 xE1_9 xE1_10 g11 j zs idx I2 oI2 C oC D4 m₂ h4 tk4 E' tv) → (∀ (xE2_1 : Heap) (xE2_2 : Obj) (tk : Nat) (xE2_6 : Heap) (xE2_7 : Nat) (xE2_8 : Tok) (xE2_9 : Tok) (xE2_10 : Tok) (g11 : Heap) (zs : List Value) (idx : List Nat) (D12 : Addr) (h12 : Heap) (tk12 : Nat), T_E2 xE2_1 xE2_2 tk xE2_6 xE2_7 xE2_8 xE2_9 xE2_10 g11 zs idx D12 h12 tk12) → cap_C1.1 xD1_1 lR xD1_2 xD1_3 tk xD1_4 xD1_7 xD1_8 xD1_9 xD1_10 xD1_11 m k tK h9 tk9 I oI uP uW tT oK' epR ys2 seg ps uK) := ⟨_, _, by
  intro K_E1 K_E2
  intro G hg hA hu hS hI hl post hL G' hnone hbut dC dK dB dN dG xA1_2 XX T dX lt1 dG' lt2 dN' lt3 dB' hsg hnv hbv hrg xB2_8 hck hys o6 e6 e7 e5 hcell hmod2 dC' dQ' hqe hqq eq2 hne eqn ltR xD1_5 xD1_6 F8 N8 xD1_12 hrg8 hm em r1 r2 hNe hk dK' hLs hpl hps hseg hne9 hlt9 F9 N9
  clear F8 N8
  have e9 : @Ne Nat I (L + 1 + 1 + 1 + 1 + 1) := fun z => hne9 (L + 1 + 1 + 1 + 1 + 1, oK') (by k_mem) z.symm
  have e8 : @Ne Nat lR (L + 1 + 1 + 1 + 1 + 1) := hNe _ (by simp)
  have hseg' : ∀ x ∈ seg, @Ne Nat x.1 (L + 1 + 1 + 1 + 1 + 1) := fun x hx => (hseg x hx).1
  have hcl : c.length = 18 := hck
  have hmq : k < 5 - q := by omega
  have hn5 : 3 ≤ n ∧ n ≤ 5 ∧ n + q ≤ 7 := by omega
  have hIc : IntsAre ys (c.map Int.ofNat) := hys
  iterate 12 walk_at "go"
  with_reducible rename IsRange _ _ _ _ _ _ _ _ => hrg10
  with_reducible rename Fr _ _ _ _ => F10
  with_reducible rename News _ _ _ _ => N10
  obtain ⟨r3, r4⟩ := range_ok (b := ((n : Nat) : Int)) (n := n) rfl (by omega)
  refine LCg.CompSrc.range (n := n) rfl F10 N10 hrg10 r3 r4 (by simp [sizeLine]; omega) ?_
  intro g11
  refine rest_inv (fun j zs nw => nw = _ ∧ ∃ idx : List Nat, idx.length = j ∧ (∀ a ∈ idx, a < 6) ∧ IntsAre zs (idx.map Int.ofNat)) n ?_ ?_ _ 0 _ _ (by simp) ⟨rfl, [], rfl, (fun _ h => nomatch h), .nil⟩
  · rintro j zs nw hj ⟨rfl, idx, hil, hi6, hzs⟩ v I2 oI2 C oC D4 m₂ h4 tk4 E' ⟨tv, rfl⟩ hC hx F11 N11 off ne
    rename_i xE1_1 xE1_2 xE1_3 xE1_4 xE1_5 xE1_6 xE1_7 xE1_8 xE1_9 xE1_10 xE1_11
    revert G hg hA hu hS hI hl post hL G' hnone hbut dC dK dB dN dG xA1_2 XX T dX lt1 dG' lt2 dN' lt3 dB' hsg hnv hbv hrg xB2_8 hck hys o6 e6 e7 e5 hcell hmod2 dC' dQ' hqe hqq eq2 hne eqn ltR xD1_12 hrg8 hm em r1 r2 hNe hk dK' hLs hpl hps hseg hne9 hlt9 F9 N9 e9 e8 hseg' hcl hmq hn5 hIc xE1_3 xE1_4 xE1_5 hrg10 F10 N10 xE1_11 r3 r4 hj hil hi6 hzs hC hx F11 N11 off ne
    exact K_E1 xE1_1 xE1_2 tk xE1_6 xE1_7 xE1_8 xE1_9 xE1_10 g11 j zs idx I2 oI2 C oC D4 m₂ h4 tk4 E' tv
  · rintro zs nw ⟨rfl, idx, hil, hi6, hzs⟩
    unfold LCg.FinA
    intro D12 h12 tk12 F12 N12 o12
    clear F9 N9 F10 N10
    dsimp only
    iterate 9 walk_at "go"
    have hzl : zs.length = n := by rw [hzs.length, List.length_map, hil]
    rename_i xE2_1 xE2_2 xE2_3 xE2_4 xE2_5 xE2_6 xE2_7 xE2_8 xE2_9 xE2_10 xE2_11
    revert G hg hA hu hS hI hl post hL G' hnone hbut dC dK dB dN dG xA1_2 XX T dX lt1 dG' lt2 dN' lt3 dB' hsg hnv hbv hrg xB2_8 hck hys o6 e6 e7 e5 hcell hmod2 dC' dQ' hqe hqq eq2 hne eqn ltR xD1_12 hrg8 hm em r1 r2 hNe hk dK' hLs hpl hps hseg hne9 hlt9 e9 e8 hseg' hcl hmq hn5 hIc xE2_3 xE2_4 xE2_5 hrg10 xE2_11 r3 r4 hil hi6 hzs F12 N12 o12 hzl
    exact K_E2 xE2_1 xE2_2 tk xE2_6 xE2_7 xE2_8 xE2_9 xE2_10 g11 zs idx D12 h12 tk12⟩
namespace E1
noncomputable abbrev Par : Type := (Heap) × (Obj) × (Nat) × (Heap) × (Nat) × (Tok) × (Tok) × (Tok) × (Heap) × (Nat) × (List Value) × (List Nat) × (Addr) × (Obj) × (Addr) × (Obj) × (Addr) × (Str → Option Value) × (Heap) × (Nat) × (Value → Shared → Prop) × (Tok)
noncomputable def P1 (p : Par) : Prop := cap_D1.1 p.1 p.2.1 p.2.2.1 p.2.2.2.1 p.2.2.2.2.1 p.2.2.2.2.2.1 p.2.2.2.2.2.2.1 p.2.2.2.2.2.2.2.1 p.2.2.2.2.2.2.2.2.1 p.2.2.2.2.2.2.2.2.2.1 p.2.2.2.2.2.2.2.2.2.2.1 p.2.2.2.2.2.2.2.2.2.2.2.1 p.2.2.2.2.2.2.2.2.2.2.2.2.1 p.2.2.2.2.2.2.2.2.2.2.2.2.2.1 p.2.2.2.2.2.2.2.2.2.2.2.2.2.2.1 p.2.2.2.2.2.2.2.2.2.2.2.2.2.2.2.1 p.2.2.2.2.2.2.2.2.2.2.2.2.2.2.2.2.1 p.2.2.2.2.2.2.2.2.2.2.2.2.2.2.2.2.2.1 p.2.2.2.2.2.2.2.2.2.2.2.2.2.2.2.2.2.2.1 p.2.2.2.2.2.2.2.2.2.2.2.2.2.2.2.2.2.2.2.1 p.2.2.2.2.2.2.2.2.2.2.2.2.2.2.2.2.2.2.2.2.1 p.2.2.2.2.2.2.2.2.2.2.2.2.2.2.2.2.2.2.2.2.2
theorem some_par : Nonempty Par := ⟨⟨default, { cls := .none, data := .seq #[] }, 0, default, 0, 0, 0, 0, default, 0, [], [], 0, { cls := .none, data := .seq #[] }, 0, { cls := .none, data := .seq #[] }, 0, (fun _ => none), default, 0, (fun _ _ => True), 0⟩⟩
@[irreducible] noncomputable def cc : Par := @Classical.epsilon Par some_par fun p => ¬ P1 p
@[irreducible] noncomputable def xE1_1 : Heap := by with_unfolding_all exact cc.1
@[irreducible] noncomputable def xE1_2 : Obj := by with_unfolding_all exact cc.2.1
@[irreducible] noncomputable def tk : Nat := by with_unfolding_all exact cc.2.2.1
@[irreducible] noncomputable def xE1_6 : Heap := by with_unfolding_all exact cc.2.2.2.1
@[irreducible] noncomputable def xE1_7 : Nat := by with_unfolding_all exact cc.2.2.2.2.1
@[irreducible] noncomputable def xE1_8 : Tok := by with_unfolding_all exact cc.2.2.2.2.2.1
@[irreducible] noncomputable def xE1_9 : Tok := by with_unfolding_all exact cc.2.2.2.2.2.2.1
@[irreducible] noncomputable def xE1_10 : Tok := by with_unfolding_all exact cc.2.2.2.2.2.2.2.1
@[irreducible] noncomputable def g11 : Heap := by with_unfolding_all exact cc.2.2.2.2.2.2.2.2.1
@[irreducible] noncomputable def j : Nat := by with_unfolding_all exact cc.2.2.2.2.2.2.2.2.2.1
@[irreducible] noncomputable def zs : List Value := by with_unfolding_all exact cc.2.2.2.2.2.2.2.2.2.2.1
@[irreducible] noncomputable def idx : List Nat := by with_unfolding_all exact cc.2.2.2.2.2.2.2.2.2.2.2.1
@[irreducible] noncomputable def I2 : Addr := by with_unfolding_all exact cc.2.2.2.2.2.2.2.2.2.2.2.2.1
@[irreducible] noncomputable def oI2 : Obj := by with_unfolding_all exact cc.2.2.2.2.2.2.2.2.2.2.2.2.2.1
@[irreducible] noncomputable def C : Addr := by with_unfolding_all exact cc.2.2.2.2.2.2.2.2.2.2.2.2.2.2.1
@[irreducible] noncomputable def oC : Obj := by with_unfolding_all exact cc.2.2.2.2.2.2.2.2.2.2.2.2.2.2.2.1
@[irreducible] noncomputable def D4 : Addr := by with_unfolding_all exact cc.2.2.2.2.2.2.2.2.2.2.2.2.2.2.2.2.1
@[irreducible] noncomputable def m₂ : Str → Option Value := by with_unfolding_all exact cc.2.2.2.2.2.2.2.2.2.2.2.2.2.2.2.2.2.1
@[irreducible] noncomputable def h4 : Heap := by with_unfolding_all exact cc.2.2.2.2.2.2.2.2.2.2.2.2.2.2.2.2.2.2.1
@[irreducible] noncomputable def tk4 : Nat := by with_unfolding_all exact cc.2.2.2.2.2.2.2.2.2.2.2.2.2.2.2.2.2.2.2.1
@[irreducible] noncomputable def E' : Value → Shared → Prop := by with_unfolding_all exact cc.2.2.2.2.2.2.2.2.2.2.2.2.2.2.2.2.2.2.2.2.1
@[irreducible] noncomputable def tv : Tok := by with_unfolding_all exact cc.2.2.2.2.2.2.2.2.2.2.2.2.2.2.2.2.2.2.2.2.2
theorem core : cap_D1.1 xE1_1 xE1_2 tk xE1_6 xE1_7 xE1_8 xE1_9 xE1_10 g11 j zs idx I2 oI2 C oC D4 m₂ h4 tk4 E' tv := by
  intro G hg hA hu hS hI hl post hL G' hnone hbut dC dK dB dN dG xA1_2 XX T dX lt1 dG' lt2 dN' lt3 dB' hsg hnv hbv hrg xB2_8 hck hys o6 e6 e7 e5 hcell hmod2 dC' dQ' hqe hqq eq2 hne eqn ltR xD1_12 hrg8 hm em r1 r2 hNe hk dK' hLs hpl hps hseg hne9 hlt9 F9 N9 e9 e8 hseg' hcl hmq hn5 hIc xE1_3 xE1_4 xE1_5 hrg10 F10 N10 xE1_11 r3 r4 hj hil hi6 hzs hC hx F11 N11 off ne
  clear F9 N9 F10 N10
  iterate 13 walk_at "go"
  obtain ⟨ta, hta⟩ := ints_at hIc (i := 3 + 5 * k + j) (by omega)
  refine sub_list (j := 3 + 5 * k + j) (N11.isList (by k_mem)) (by omega) (by omega) hta ?_
  iterate 2 walk_at "go"
  have em6 : ((c.getD (3 + 5 * k + j) 0 : Nat) : Int).fmod 6 = Int.ofNat (c.getD (3 + 5 * k + j) 0 % 6) := by
    rw [Int.fmod_eq_emod_of_nonneg _ (by omega)]; rfl
  rw [em6]
  refine LCg.CompEnd.intro F11 N11 _ (fun p hp => hp) off trivial ⟨rfl, idx ++ [c.getD (3 + 5 * k + j) 0 % 6], by simp [hil], ?_, ?_⟩
  · intro a ha
    rcases List.mem_append.mp ha with ha | ha
    · exact hi6 a ha
    · rw [List.mem_singleton.mp ha]; exact Nat.mod_lt _ (by decide)
  · rw [List.map_append]
    exact hzs.append (.cons _ _ .nil)
theorem all : ∀ p : Par, P1 p := fun p => Classical.byContradiction fun hn => (@Classical.epsilon_spec Par (fun p => ¬ P1 p) ⟨p, hn⟩) (by with_unfolding_all exact core)
end E1
namespace E2
noncomputable abbrev Par : Type := (Heap) × (Obj) × (Nat) × (Heap) × (Nat) × (Tok) × (Tok) × (Tok) × (Heap) × (List Value) × (List Nat) × (Addr) × (Heap) × (Nat)
noncomputable def P1 (p : Par) : Prop := cap_D1.2.1 p.1 p.2.1 p.2.2.1 p.2.2.2.1 p.2.2.2.2.1 p.2.2.2.2.2.1 p.2.2.2.2.2.2.1 p.2.2.2.2.2.2.2.1 p.2.2.2.2.2.2.2.2.1 p.2.2.2.2.2.2.2.2.2.1 p.2.2.2.2.2.2.2.2.2.2.1 p.2.2.2.2.2.2.2.2.2.2.2.1 p.2.2.2.2.2.2.2.2.2.2.2.2.1 p.2.2.2.2.2.2.2.2.2.2.2.2.2
theorem some_par : Nonempty Par := ⟨⟨default, { cls := .none, data := .seq #[] }, 0, default, 0, 0, 0, 0, default, [], [], 0, default, 0⟩⟩
@[irreducible] noncomputable def cc : Par := @Classical.epsilon Par some_par fun p => ¬ P1 p
@[irreducible] noncomputable def xE2_1 : Heap := by with_unfolding_all exact cc.1
@[irreducible] noncomputable def xE2_2 : Obj := by with_unfolding_all exact cc.2.1
@[irreducible] noncomputable def tk : Nat := by with_unfolding_all exact cc.2.2.1
@[irreducible] noncomputable def xE2_6 : Heap := by with_unfolding_all exact cc.2.2.2.1
@[irreducible] noncomputable def xE2_7 : Nat := by with_unfolding_all exact cc.2.2.2.2.1
@[irreducible] noncomputable def xE2_8 : Tok := by with_unfolding_all exact cc.2.2.2.2.2.1
@[irreducible] noncomputable def xE2_9 : Tok := by with_unfolding_all exact cc.2.2.2.2.2.2.1
@[irreducible] noncomputable def xE2_10 : Tok := by with_unfolding_all exact cc.2.2.2.2.2.2.2.1
@[irreducible] noncomputable def g11 : Heap := by with_unfolding_all exact cc.2.2.2.2.2.2.2.2.1
@[irreducible] noncomputable def zs : List Value := by with_unfolding_all exact cc.2.2.2.2.2.2.2.2.2.1
@[irreducible] noncomputable def idx : List Nat := by with_unfolding_all exact cc.2.2.2.2.2.2.2.2.2.2.1
@[irreducible] noncomputable def D12 : Addr := by with_unfolding_all exact cc.2.2.2.2.2.2.2.2.2.2.2.1
@[irreducible] noncomputable def h12 : Heap := by with_unfolding_all exact cc.2.2.2.2.2.2.2.2.2.2.2.2.1
@[irreducible] noncomputable def tk12 : Nat := by with_unfolding_all exact cc.2.2.2.2.2.2.2.2.2.2.2.2.2
noncomputable def cap_E2 : (T_G1 : (Heap) → (Nat) → (List Value) → (Addr) → (Obj) → (Addr) → (Obj) → (Addr) → (Str → Option Value) → (Heap) → (Nat) → (Value → Shared → Prop) → (Tok) → (Nat) → (Tok) → Prop) ×' (T_G2 : (Heap) → (List Value) → (Addr) → (Heap) → (Nat) → Prop) ×' ((∀ (g13 : Heap) (j : Nat) (ws : List Value) (I2 : Addr) (oI2 : Obj) (C : Addr) (oC : Obj) (D4 : Addr) (m₂ : Str → Option Value) (h4 : Heap) (tk4 : Nat) (E' : Value → Shared → Prop) (tv : Tok) (a : Nat) (ta : Tok), T_G1 g13 j ws I2 oI2 C oC D4 m₂ h4 tk4 E' tv a ta) → (∀ (g13 : Heap) (ws : List Value) (D14 : Addr) (h14 : Heap) (tk14 : Nat), T_G2 g13 ws D14 h14 tk14) → cap_D1.2.1 xE2_1 xE2_2 tk xE2_6 xE2_7 xE2_8 xE2_9 xE2_10 g11 zs idx D12 h12 tk12) := ⟨_, _, by
  intro K_G1 K_G2
  intro G hg hA hu hS hI hl post hL G' hnone hbut dC dK dB dN dG xA1_2 XX T dX lt1 dG' lt2 dN' lt3 dB' hsg hnv hbv hrg xB2_8 hck hys o6 e6 e7 e5 hcell hmod2 dC' dQ' hqe hqq eq2 hne eqn ltR xD1_12 hrg8 hm em r1 r2 hNe hk dK' hLs hpl hps hseg hne9 hlt9 e9 e8 hseg' hcl hmq hn5 hIc xE2_3 xE2_4 xE2_5 hrg10 xE2_11 r3 r4 hil hi6 hzs F12 N12 o12 hzl
  refine LCg.CompSrc.ledger (k := zs.length) (its := zs.toArray) rfl F12 N12 (.head _) (by rw [List.size_toArray, hzl, sizeLine_eq]; omega) ?_
  intro g13
  refine rest_inv (fun j ws nw => nw = _ ∧ IntsAre ws (((idx.take j).map fun i => num i % q).map Int.ofNat)) zs.toArray.size ?_ ?_ _ 0 _ _ (by simp) ⟨rfl, .nil⟩
  · rintro j ws nw hj ⟨rfl, hws⟩ v I2 oI2 C oC D4 m₂ h4 tk4 E' hv hC hx F11 N11 off ne
    clear F12 N12
    rw [List.size_toArray] at hj
    rw [List.getElem?_toArray] at hv
    obtain ⟨tv, rfl⟩ := ints_get hzs hv
    have hji : j < idx.length := by omega
    obtain ⟨a, ha⟩ : ∃ a, idx[j]? = some a := ⟨_, List.getElem?_eq_getElem hji⟩
    have hga : idx.getD j 0 = a := by rw [List.getD_eq_getElem?_getD, ha]; rfl
    rw [hga] at hx
    have ha6 := hi6 a (List.mem_of_getElem? ha)
    obtain ⟨ta, hta⟩ := ints_at hnv (i := a) ha6
    have hnum : ([14, 15, 46, 47, 12, 31] : List Nat).getD a 0 = num a := by
      have : a = 0 ∨ a = 1 ∨ a = 2 ∨ a = 3 ∨ a = 4 ∨ a = 5 := by omega
      rcases this with rfl | rfl | rfl | rfl | rfl | rfl <;> rfl
    rw [hnum] at hta
    revert G hg hA hu hS hI hl post hL G' hnone hbut dC dK dB dN dG xA1_2 XX T dX lt1 dG' lt2 dN' lt3 dB' hsg hnv hbv hrg xB2_8 hck hys o6 e6 e7 e5 hcell hmod2 dC' dQ' hqe hqq eq2 hne eqn ltR xD1_12 hrg8 hm em r1 r2 hNe hk dK' hLs hpl hps hseg hne9 hlt9 e9 e8 hseg' hcl hmq hn5 hIc xE2_3 xE2_4 xE2_5 hrg10 xE2_11 r3 r4 hil hi6 hzs o12 hzl hj hws hC F11 N11 off ne hv hji hx ha hga ha6 hta hnum
    exact K_G1 g13 j ws I2 oI2 C oC D4 m₂ h4 tk4 E' tv a ta
  · rintro ws nw ⟨rfl, hws⟩
    unfold LCg.FinE
    intro D14 h14 tk14 F14 N14 o14
    clear F12 N12
    dsimp only
    have hsegR : ∀ x ∈ seg, @Ne Nat x.1 lR := fun x hx => (hseg x hx).2
    have e14 : @Ne Nat D14 lR := fun z => off1_mem o14 (lR, listOf ys2.toArray epR) (by k_mem) z.symm
    revert G hg hA hu hS hI hl post hL G' hnone hbut dC dK dB dN dG xA1_2 XX T dX lt1 dG' lt2 dN' lt3 dB' hsg hnv hbv hrg xB2_8 hck hys o6 e6 e7 e5 hcell hmod2 dC' dQ' hqe hqq eq2 hne eqn ltR xD1_12 hrg8 hm em r1 r2 hNe hk dK' hLs hpl hps hseg hne9 hlt9 e9 e8 hseg' hcl hmq hn5 hIc xE2_3 xE2_4 xE2_5 hrg10 xE2_11 r3 r4 hil hi6 hzs o12 hzl hws F14 N14 o14 hsegR e14
    exact K_G2 g13 ws D14 h14 tk14⟩
namespace G1
noncomputable abbrev Par : Type := (Heap) × (Nat) × (List Value) × (Addr) × (Obj) × (Addr) × (Obj) × (Addr) × (Str → Option Value) × (Heap) × (Nat) × (Value → Shared → Prop) × (Tok) × (Nat) × (Tok)
noncomputable def P1 (p : Par) : Prop := cap_E2.1 p.1 p.2.1 p.2.2.1 p.2.2.2.1 p.2.2.2.2.1 p.2.2.2.2.2.1 p.2.2.2.2.2.2.1 p.2.2.2.2.2.2.2.1 p.2.2.2.2.2.2.2.2.1 p.2.2.2.2.2.2.2.2.2.1 p.2.2.2.2.2.2.2.2.2.2.1 p.2.2.2.2.2.2.2.2.2.2.2.1 p.2.2.2.2.2.2.2.2.2.2.2.2.1 p.2.2.2.2.2.2.2.2.2.2.2.2.2.1 p.2.2.2.2.2.2.2.2.2.2.2.2.2.2
theorem some_par : Nonempty Par := ⟨⟨default, 0, [], 0, { cls := .none, data := .seq #[] }, 0, { cls := .none, data := .seq #[] }, 0, (fun _ => none), default, 0, (fun _ _ => True), 0, 0, 0⟩⟩
@[irreducible] noncomputable def cc : Par := @Classical.epsilon Par some_par fun p => ¬ P1 p
@[irreducible] noncomputable def g13 : Heap := by with_unfolding_all exact cc.1
@[irreducible] noncomputable def j : Nat := by with_unfolding_all exact cc.2.1
@[irreducible] noncomputable def ws : List Value := by with_unfolding_all exact cc.2.2.1
@[irreducible] noncomputable def I2 : Addr := by with_unfolding_all exact cc.2.2.2.1
@[irreducible] noncomputable def oI2 : Obj := by with_unfolding_all exact cc.2.2.2.2.1
@[irreducible] noncomputable def C : Addr := by with_unfolding_all exact cc.2.2.2.2.2.1
@[irreducible] noncomputable def oC : Obj := by with_unfolding_all exact cc.2.2.2.2.2.2.1
@[irreducible] noncomputable def D4 : Addr := by with_unfolding_all exact cc.2.2.2.2.2.2.2.1
@[irreducible] noncomputable def m₂ : Str → Option Value := by with_unfolding_all exact cc.2.2.2.2.2.2.2.2.1
@[irreducible] noncomputable def h4 : Heap := by with_unfolding_all exact cc.2.2.2.2.2.2.2.2.2.1
@[irreducible] noncomputable def tk4 : Nat := by with_unfolding_all exact cc.2.2.2.2.2.2.2.2.2.2.1
@[irreducible] noncomputable def E' : Value → Shared → Prop := by with_unfolding_all exact cc.2.2.2.2.2.2.2.2.2.2.2.1
@[irreducible] noncomputable def tv : Tok := by with_unfolding_all exact cc.2.2.2.2.2.2.2.2.2.2.2.2.1
@[irreducible] noncomputable def a : Nat := by with_unfolding_all exact cc.2.2.2.2.2.2.2.2.2.2.2.2.2.1
@[irreducible] noncomputable def ta : Tok := by with_unfolding_all exact cc.2.2.2.2.2.2.2.2.2.2.2.2.2.2
theorem core : cap_E2.1 g13 j ws I2 oI2 C oC D4 m₂ h4 tk4 E' tv a ta := by
  intro G hg hA hu hS hI hl post hL G' hnone hbut dC dK dB dN dG xA1_2 XX T dX lt1 dG' lt2 dN' lt3 dB' hsg hnv hbv hrg xB2_8 hck hys o6 e6 e7 e5 hcell hmod2 dC' dQ' hqe hqq eq2 hne eqn ltR xD1_12 hrg8 hm em r1 r2 hNe hk dK' hLs hpl hps hseg hne9 hlt9 e9 e8 hseg' hcl hmq hn5 hIc xE2_3 xE2_4 xE2_5 hrg10 xE2_11 r3 r4 hil hi6 hzs o12 hzl hj hws hC F11 N11 off ne hv hji hx ha hga ha6 hta hnum
  iterate 4 walk_at "go"
  refine sub_tup (j := a) (N11.isTup (by k_mem)) rfl (by omega) hta ?_
  have hqz : (q : Int) ≠ 0 := by omega
  iterate 2 walk_at "go"
  have emq : ((num a : Nat) : Int).fmod (q : Int) = Int.ofNat (num a % q) := by
    rw [Int.fmod_eq_emod_of_nonneg _ (by omega)]; rfl
  rw [emq]
  refine LCg.CompEnd.intro F11 N11 _ (fun p hp => hp) off (.inr ⟨LCg.lst zs, by k_mem, rfl, _, rfl⟩) ⟨rfl, ?_⟩
  rw [List.take_add_one, ha, Option.toList_some, List.map_append, List.map_append]
  exact hws.append (.cons _ _ .nil)
theorem all : ∀ p : Par, P1 p := fun p => Classical.byContradiction fun hn => (@Classical.epsilon_spec Par (fun p => ¬ P1 p) ⟨p, hn⟩) (by with_unfolding_all exact core)
end G1
namespace G2
noncomputable abbrev Par : Type := (Heap) × (List Value) × (Addr) × (Heap) × (Nat)
noncomputable def P1 (p : Par) : Prop := cap_E2.2.1 p.1 p.2.1 p.2.2.1 p.2.2.2.1 p.2.2.2.2
theorem some_par : Nonempty Par := ⟨⟨default, [], 0, default, 0⟩⟩
@[irreducible] noncomputable def cc : Par := @Classical.epsilon Par some_par fun p => ¬ P1 p
@[irreducible] noncomputable def g13 : Heap := by with_unfolding_all exact cc.1
@[irreducible] noncomputable def ws : List Value := by with_unfolding_all exact cc.2.1
@[irreducible] noncomputable def D14 : Addr := by with_unfolding_all exact cc.2.2.1
@[irreducible] noncomputable def h14 : Heap := by with_unfolding_all exact cc.2.2.2.1
@[irreducible] noncomputable def tk14 : Nat := by with_unfolding_all exact cc.2.2.2.2
noncomputable def cap_G2 : (T_H1 : (Heap) → (Nat) → (Heap) → (Nat) → (List Value) → (Addr) → (Obj) → (Addr) → (Obj) → (Addr) → (Str → Option Value) → (Heap) → (Nat) → (Value → Shared → Prop) → (Tok) → (Nat) → (Tok) → Prop) ×' (T_H2 : (Heap) → (Nat) → (Heap) → (List Value) → (Addr) → (Heap) → (Nat) → Prop) ×' ((∀ (h' : Heap) (tk : Nat) (g16 : Heap) (j : Nat) (us : List Value) (I2 : Addr) (oI2 : Obj) (C : Addr) (oC : Obj) (D4 : Addr) (m₂ : Str → Option Value) (h4 : Heap) (tk4 : Nat) (E' : Value → Shared → Prop) (tv : Tok) (a : Nat) (ta : Tok), T_H1 h' tk g16 j us I2 oI2 C oC D4 m₂ h4 tk4 E' tv a ta) → (∀ (h' : Heap) (tk : Nat) (g16 : Heap) (us : List Value) (D17 : Addr) (h17 : Heap) (tk17 : Nat), T_H2 h' tk g16 us D17 h17 tk17) → cap_E2.2.1 g13 ws D14 h14 tk14) := ⟨_, _, by
  intro K_H1 K_H2
  intro G hg hA hu hS hI hl post hL G' hnone hbut dC dK dB dN dG xA1_2 XX T dX lt1 dG' lt2 dN' lt3 dB' hsg hnv hbv hrg xB2_8 hck hys o6 e6 e7 e5 hcell hmod2 dC' dQ' hqe hqq eq2 hne eqn ltR xD1_12 hrg8 hm em r1 r2 hNe hk dK' hLs hpl hps hseg hne9 hlt9 e9 e8 hseg' hcl hmq hn5 hIc xE2_3 xE2_4 xE2_5 hrg10 xE2_11 r3 r4 hil hi6 hzs o12 hzl hws F14 N14 o14 hsegR e14
  have e12 : @Ne Nat D12 lR := fun z => off1_mem o12 (lR, listOf ys2.toArray epR) (by k_mem) z.symm
  have eI : @Ne Nat I lR := fun z => hne9 (lR, listOf ys2.toArray epR) (by k_mem) z.symm
  have hy2 : ys2.length ≤ 3 := by
    have := hLs.1
    rw [List.length_map] at this
    omega
  iterate 1 walk_at "go"
  refine append_K F14 (by k_asm) (by k_upd) ?_ (by simp [sizeLine]; omega)
  intro h' F' N'
  (try k_sweep)
  iterate 10 walk_at "go"
  with_reducible rename Fr _ _ _ _ => F15
  with_reducible rename News _ _ _ _ => N15
  refine LCg.CompSrc.ledger (k := zs.length) (its := zs.toArray) rfl F15 N15 (.tail _ (.head _)) (by rw [List.size_toArray, hzl, sizeLine_eq]; omega) ?_
  intro g16
  refine rest_inv (fun j us nw => nw = _ ∧ StrsAre us (((idx.take j).map sgn).map S)) zs.toArray.size ?_ ?_ _ 0 _ _ (by simp) ⟨rfl, .nil⟩
  · rintro j us nw hj ⟨rfl, hus⟩ v I2 oI2 C oC D4 m₂ h4 tk4 E' hv hC hx F11 N11 off ne
    clear F15 N15
    rw [List.size_toArray] at hj
    rw [List.getElem?_toArray] at hv
    obtain ⟨tv, rfl⟩ := ints_get hzs hv
    have hji : j < idx.length := by omega
    obtain ⟨a, ha⟩ : ∃ a, idx[j]? = some a := ⟨_, List.getElem?_eq_getElem hji⟩
    have hga : idx.getD j 0 = a := by rw [List.getD_eq_getElem?_getD, ha]; rfl
    rw [hga] at hx
    have ha6 := hi6 a (List.mem_of_getElem? ha)
    obtain ⟨ta, hta⟩ := hsg.get a (S (sgn a)) (by
      have : a = 0 ∨ a = 1 ∨ a = 2 ∨ a = 3 ∨ a = 4 ∨ a = 5 := by omega
      rcases this with rfl | rfl | rfl | rfl | rfl | rfl <;> rfl)
    revert G hg hA hu hS hI hl post hL G' hnone hbut dC dK dB dN dG xA1_2 XX T dX lt1 dG' lt2 dN' lt3 dB' hsg hnv hbv hrg xB2_8 hck hys o6 e6 e7 e5 hcell hmod2 dC' dQ' hqe hqq eq2 hne eqn ltR xD1_12 hrg8 hm em r1 r2 hNe hk dK' hLs hpl hps hseg hne9 hlt9 e9 e8 hseg' hcl hmq hn5 hIc xE2_5 hrg10 xE2_11 r3 r4 hil hi6 hzs o12 hzl hws o14 hsegR e14 e12 eI hy2 hj hus hC F11 N11 off ne hv hji hx ha hga ha6 hta
    exact K_H1 h' tk g16 j us I2 oI2 C oC D4 m₂ h4 tk4 E' tv a ta
  · rintro us nw ⟨rfl, hus⟩
    unfold LCg.FinE
    intro D17 h17 tk17 F17 N17 o17
    clear F15 N15
    dsimp only
    iterate 1 walk_at "go"
    have hul : idx.take zs.toArray.size = idx := by rw [List.size_toArray, hzl, ← hil, List.take_length]
    rw [hul] at hus
    have hsgl : (idx.map sgn).flatten = sgns idx := by rw [← List.flatMap_def]; rfl
    have hsl15 := sgns_len hi6
    rw [hil] at hsl15
    revert G hg hA hu hS hI hl post hL G' hnone hbut dC dK dB dN dG xA1_2 XX T dX lt1 dG' lt2 dN' lt3 dB' hsg hnv hbv hrg xB2_8 hck hys o6 e6 e7 e5 hcell hmod2 dC' dQ' hqe hqq eq2 hne eqn ltR xD1_12 hrg8 hm em r1 r2 hNe hk dK' hLs hpl hps hseg hne9 hlt9 e9 e8 hseg' hcl hmq hn5 hIc xE2_5 hrg10 xE2_11 r3 r4 hil hi6 hzs o12 hzl hws o14 hsegR e14 e12 eI hy2 hus F17 N17 o17 hul hsgl hsl15
    exact K_H2 h' tk g16 us D17 h17 tk17⟩
namespace H1
noncomputable abbrev Par : Type := (Heap) × (Nat) × (Heap) × (Nat) × (List Value) × (Addr) × (Obj) × (Addr) × (Obj) × (Addr) × (Str → Option Value) × (Heap) × (Nat) × (Value → Shared → Prop) × (Tok) × (Nat) × (Tok)
noncomputable def P1 (p : Par) : Prop := cap_G2.1 p.1 p.2.1 p.2.2.1 p.2.2.2.1 p.2.2.2.2.1 p.2.2.2.2.2.1 p.2.2.2.2.2.2.1 p.2.2.2.2.2.2.2.1 p.2.2.2.2.2.2.2.2.1 p.2.2.2.2.2.2.2.2.2.1 p.2.2.2.2.2.2.2.2.2.2.1 p.2.2.2.2.2.2.2.2.2.2.2.1 p.2.2.2.2.2.2.2.2.2.2.2.2.1 p.2.2.2.2.2.2.2.2.2.2.2.2.2.1 p.2.2.2.2.2.2.2.2.2.2.2.2.2.2.1 p.2.2.2.2.2.2.2.2.2.2.2.2.2.2.2.1 p.2.2.2.2.2.2.2.2.2.2.2.2.2.2.2.2
theorem some_par : Nonempty Par := ⟨⟨default, 0, default, 0, [], 0, { cls := .none, data := .seq #[] }, 0, { cls := .none, data := .seq #[] }, 0, (fun _ => none), default, 0, (fun _ _ => True), 0, 0, 0⟩⟩
@[irreducible] noncomputable def cc : Par := @Classical.epsilon Par some_par fun p => ¬ P1 p
@[irreducible] noncomputable def h' : Heap := by with_unfolding_all exact cc.1
@[irreducible] noncomputable def tk : Nat := by with_unfolding_all exact cc.2.1
@[irreducible] noncomputable def g16 : Heap := by with_unfolding_all exact cc.2.2.1
@[irreducible] noncomputable def j : Nat := by with_unfolding_all exact cc.2.2.2.1
@[irreducible] noncomputable def us : List Value := by with_unfolding_all exact cc.2.2.2.2.1
@[irreducible] noncomputable def I2 : Addr := by with_unfolding_all exact cc.2.2.2.2.2.1
@[irreducible] noncomputable def oI2 : Obj := by with_unfolding_all exact cc.2.2.2.2.2.2.1
@[irreducible] noncomputable def C : Addr := by with_unfolding_all exact cc.2.2.2.2.2.2.2.1
@[irreducible] noncomputable def oC : Obj := by with_unfolding_all exact cc.2.2.2.2.2.2.2.2.1
@[irreducible] noncomputable def D4 : Addr := by with_unfolding_all exact cc.2.2.2.2.2.2.2.2.2.1
@[irreducible] noncomputable def m₂ : Str → Option Value := by with_unfolding_all exact cc.2.2.2.2.2.2.2.2.2.2.1
@[irreducible] noncomputable def h4 : Heap := by with_unfolding_all exact cc.2.2.2.2.2.2.2.2.2.2.2.1
@[irreducible] noncomputable def tk4 : Nat := by with_unfolding_all exact cc.2.2.2.2.2.2.2.2.2.2.2.2.1
@[irreducible] noncomputable def E' : Value → Shared → Prop := by with_unfolding_all exact cc.2.2.2.2.2.2.2.2.2.2.2.2.2.1
@[irreducible] noncomputable def tv : Tok := by with_unfolding_all exact cc.2.2.2.2.2.2.2.2.2.2.2.2.2.2.1
@[irreducible] noncomputable def a : Nat := by with_unfolding_all exact cc.2.2.2.2.2.2.2.2.2.2.2.2.2.2.2.1
@[irreducible] noncomputable def ta : Tok := by with_unfolding_all exact cc.2.2.2.2.2.2.2.2.2.2.2.2.2.2.2.2
theorem core : cap_G2.1 h' tk g16 j us I2 oI2 C oC D4 m₂ h4 tk4 E' tv a ta := by
  intro G hg hA hu hS hI hl post hL G' hnone hbut dC dK dB dN dG xA1_2 XX T dX lt1 dG' lt2 dN' lt3 dB' hsg hnv hbv hrg xB2_8 hck hys o6 e6 e7 e5 hcell hmod2 dC' dQ' hqe hqq eq2 hne eqn ltR xD1_12 hrg8 hm em r1 r2 hNe hk dK' hLs hpl hps hseg hne9 hlt9 e9 e8 hseg' hcl hmq hn5 hIc xE2_5 hrg10 xE2_11 r3 r4 hil hi6 hzs o12 hzl hws o14 hsegR e14 e12 eI hy2 hj hus hC F11 N11 off ne hv hji hx ha hga ha6 hta
  iterate 3 walk_at "go"
  refine sub_list (j := a) (N11.isList (by k_mem)) rfl (by omega) hta ?_
  refine LCg.CompEnd.intro F11 N11 _ (fun p hp => hp) off (.inr ⟨LCg.lst zs, by k_mem, rfl, _, rfl⟩) ⟨rfl, ?_⟩
  rw [List.take_add_one, ha, Option.toList_some, List.map_append, List.map_append]
  exact Mine.StrsAre.app hus (.cons _ _ .nil)
theorem all : ∀ p : Par, P1 p := fun p => Classical.byContradiction fun hn => (@Classical.epsilon_spec Par (fun p => ¬ P1 p) ⟨p, hn⟩) (by with_unfolding_all exact core)
end H1
namespace H2
noncomputable abbrev Par : Type := (Heap) × (Nat) × (Heap) × (List Value) × (Addr) × (Heap) × (Nat)
noncomputable def P1 (p : Par) : Prop := cap_G2.2.1 p.1 p.2.1 p.2.2.1 p.2.2.2.1 p.2.2.2.2.1 p.2.2.2.2.2.1 p.2.2.2.2.2.2
theorem some_par : Nonempty Par := ⟨⟨default, 0, default, [], 0, default, 0⟩⟩
@[irreducible] noncomputable def cc : Par := @Classical.epsilon Par some_par fun p => ¬ P1 p
@[irreducible] noncomputable def h' : Heap := by with_unfolding_all exact cc.1
@[irreducible] noncomputable def tk : Nat := by with_unfolding_all exact cc.2.1
@[irreducible] noncomputable def g16 : Heap := by with_unfolding_all exact cc.2.2.1
@[irreducible] noncomputable def us : List Value := by with_unfolding_all exact cc.2.2.2.1
@[irreducible] noncomputable def D17 : Addr := by with_unfolding_all exact cc.2.2.2.2.1
@[irreducible] noncomputable def h17 : Heap := by with_unfolding_all exact cc.2.2.2.2.2.1
@[irreducible] noncomputable def tk17 : Nat := by with_unfolding_all exact cc.2.2.2.2.2.2
noncomputable def cap_H2 : (T_J1 : (Tok) → (Nat) → (Heap) → (Nat) → (Tok) → (Heap) → (Nat) → (Tok) → (Tok) → (Nat) → Prop) ×' ((∀ (t18 : Tok) (k18 : Nat) (xJ1_1 : Heap) (tk : Nat) (xJ1_2 : Tok) (h20 : Heap) (tk20 : Nat) (t20 : Tok) (xJ1_3 : Tok) (sp : Nat), T_J1 t18 k18 xJ1_1 tk xJ1_2 h20 tk20 t20 xJ1_3 sp) → cap_G2.2.1 h' tk g16 us D17 h17 tk17) := ⟨_, by
  intro K_J1
  intro G hg hA hu hS hI hl post hL G' hnone hbut dC dK dB dN dG xA1_2 XX T dX lt1 dG' lt2 dN' lt3 dB' hsg hnv hbv hrg xB2_8 hck hys o6 e6 e7 e5 hcell hmod2 dC' dQ' hqe hqq eq2 hne eqn ltR xD1_12 hrg8 hm em r1 r2 hNe hk dK' hLs hpl hps hseg hne9 hlt9 e9 e8 hseg' hcl hmq hn5 hIc xE2_5 hrg10 xE2_11 r3 r4 hil hi6 hzs o12 hzl hws o14 hsegR e14 e12 eI hy2 hus F17 N17 o17 hul hsgl hsl15
  refine join_use (N17.isList (by k_mem)) hus (by rw [hsgl]; omega) ?_
  intro t18 k18
  rw [hsgl]
  have hdiv2 : ∀ a : Nat, ((a : Nat) : Int).fdiv 2 = ((a / 2 : Nat) : Int) := fun a => by
    rw [Int.fdiv_eq_ediv_of_nonneg _ (by omega)]; rfl
  have hmod3 : ∀ a b : Nat, (((a : Nat) : Int) + (0 + (b : Int))).fmod 3 = (((a + b) % 3 : Nat) : Int) := fun a b => by
    rw [Int.fmod_eq_emod_of_nonneg _ (by omega), Int.zero_add]; rfl
  iterate 19 walk_at "go"
  rw [hcell]
  iterate 2 walk_at "go"
  rw [hdiv2]
  iterate 4 walk_at "go"
  rw [hmod3]
  iterate 2 walk_at "go"
  with_reducible rename Fr _ _ _ _ => F19
  with_reducible rename News _ _ _ _ => N19
  refine written_use (l := sgns idx) G' F19 N19 (by show dep + 1 ≤ 700; omega) rfl (by omega) (Nat.mod_lt _ (by decide)) ?_
  intro h20 tk20 t20 F20 N20
  clear F19 N19
  iterate 8 walk_at "go"
  rw [hcell]
  iterate 4 walk_at "go"
  rw [hmod3]
  iterate 1 walk_at "go"
  obtain ⟨sp, hsp, hsp3⟩ := sep_item (r := (c.getD (Int.toNat 2) 0 + k) % 3) (Nat.mod_lt _ (by decide))
  rw [hsp]
  have hwl := wr_len ((c.getD (Int.toNat 1) 0 / 2 + k) % 3) (sgns idx)
  have htl := text_len hn5.2.1 ps hps
  rename_i xJ1_1 xJ1_2 xJ1_3 xJ1_4
  revert G hg hA hu hS hI hl post hL G' hnone hbut dC dK dB dN dG xA1_2 XX T dX lt1 dG' lt2 dN' lt3 dB' hsg hnv hbv hrg xB2_8 hck hys o6 e6 e7 e5 hcell hmod2 dC' dQ' hqe hqq eq2 hne eqn ltR xD1_12 hrg8 hm em r1 r2 hNe hk dK' hLs hpl hps hseg hne9 hlt9 e9 e8 hseg' hcl hmq hn5 hIc xE2_5 hrg10 xE2_11 r3 r4 hil hi6 hzs o12 hzl hws o14 hsegR e14 e12 eI hy2 hus o17 hul hsgl hsl15 hdiv2 hmod3 F20 N20 xJ1_4 hsp hsp3 hwl htl
  exact K_J1 t18 k18 xJ1_1 tk xJ1_2 h20 tk20 t20 xJ1_3 sp⟩
namespace J1
noncomputable abbrev Par : Type := (Tok) × (Nat) × (Heap) × (Nat) × (Tok) × (Heap) × (Nat) × (Tok) × (Tok) × (Nat)
noncomputable def P1 (p : Par) : Prop := cap_H2.1 p.1 p.2.1 p.2.2.1 p.2.2.2.1 p.2.2.2.2.1 p.2.2.2.2.2.1 p.2.2.2.2.2.2.1 p.2.2.2.2.2.2.2.1 p.2.2.2.2.2.2.2.2.1 p.2.2.2.2.2.2.2.2.2
theorem some_par : Nonempty Par := ⟨⟨0, 0, default, 0, 0, default, 0, 0, 0, 0⟩⟩
@[irreducible] noncomputable def cc : Par := @Classical.epsilon Par some_par fun p => ¬ P1 p
@[irreducible] noncomputable def t18 : Tok := by with_unfolding_all exact cc.1
@[irreducible] noncomputable def k18 : Nat := by with_unfolding_all exact cc.2.1
@[irreducible] noncomputable def xJ1_1 : Heap := by with_unfolding_all exact cc.2.2.1
@[irreducible] noncomputable def tk : Nat := by with_unfolding_all exact cc.2.2.2.1
@[irreducible] noncomputable def xJ1_2 : Tok := by with_unfolding_all exact cc.2.2.2.2.1
@[irreducible] noncomputable def h20 : Heap := by with_unfolding_all exact cc.2.2.2.2.2.1
@[irreducible] noncomputable def tk20 : Nat := by with_unfolding_all exact cc.2.2.2.2.2.2.1
@[irreducible] noncomputable def t20 : Tok := by with_unfolding_all exact cc.2.2.2.2.2.2.2.1
@[irreducible] noncomputable def xJ1_3 : Tok := by with_unfolding_all exact cc.2.2.2.2.2.2.2.2.1
@[irreducible] noncomputable def sp : Nat := by with_unfolding_all exact cc.2.2.2.2.2.2.2.2.2
theorem core : cap_H2.1 t18 k18 xJ1_1 tk xJ1_2 h20 tk20 t20 xJ1_3 sp := by
  intro G hg hA hu hS hI hl post hL G' hnone hbut dC dK dB dN dG xA1_2 XX T dX lt1 dG' lt2 dN' lt3 dB' hsg hnv hbv hrg xB2_8 hck hys o6 e6 e7 e5 hcell hmod2 dC' dQ' hqe hqq eq2 hne eqn ltR xD1_12 hrg8 hm em r1 r2 hNe hk dK' hLs hpl hps hseg hne9 hlt9 e9 e8 hseg' hcl hmq hn5 hIc xE2_5 hrg10 xE2_11 r3 r4 hil hi6 hzs o12 hzl hws o14 hsegR e14 e12 eI hy2 hus o17 hul hsgl hsl15 hdiv2 hmod3 F20 N20 xJ1_4 hsp hsp3 hwl htl
  refine add_S (a := wr ((c.getD (Int.toNat 1) 0 / 2 + k) % 3) (sgns idx)) (b := [sp]) ?_ (by rw [List.length_singleton]; omega) rfl rfl
  intro t21 k21
  refine iadd_S ?_ (by rw [List.length_append, List.length_singleton]; omega)
  intro t22 k22
  rw [text_snoc ps (idx, (c.getD (Int.toNat 1) 0 / 2 + k) % 3, sp)]
  iterate 1 walk_at "go"
  with_reducible rename Fr _ _ _ _ => F21
  with_reducible rename News _ _ _ _ => N21
  have hpush : ∀ v : Value, ys2.toArray.push v = (ys2 ++ [v]).toArray := fun v => by simp
  rw [hpush] at N21
  rw [hul] at hws
  have dK2 : ∃ u, xE2_2.data = .cell u := ⟨_, xE2_5⟩
  iterate 1 walk_at "go"
  refine ⟨_, _, _, (lR, listOf (ys2 ++ [Value.ref D14]).toArray (epR + 1)) :: (D6, LCg.lst ys) :: (tB, tupO bv.toArray) :: (tN, tupO nv.toArray) :: (lS, listOf sgv.toArray 0) :: (L + 1 + 1 + 1 + 1 + 1 + 1 + 1, oQ') :: (L + 1 + 1 + 1 + 1 + 1 + 1, oC') :: (L + 1 + 1 + 1 + 1 + 1, xE2_2) :: (L + 1 + 1 + 1 + 1, oB') :: (L + 1 + 1 + 1, oN') :: (L + 1 + 1, oG') :: (L + 1, oX) :: ((D14, LCg.lst ws) :: seg), _, rfl, F21, N21, ?_, ?_, ?_, _, (upd_if1 (upd_if1 (upd_if1 rfl))).trans (upd_keys [Str.ofString "picks", Str.ofString "word", Str.ofString "text"] _ _ rfl), _, _, _, xE2_2, epR + 1, ys2 ++ [Value.ref D14], (D14, LCg.lst ws) :: seg, ps ++ [(idx, (c.getD (Int.toNat 1) 0 / 2 + k) % 3, sp)], rfl, rfl, dK2, ?_, ?_, ?_, ?_⟩
  · intro x hx
    rw [List.mem_singleton.mp hx]
    exact .tail _ (.tail _ (.tail _ (.head _)))
  · intro x hx
    rcases List.mem_append.mp (show x ∈ [(lR, listOf (ys2 ++ [Value.ref D14]).toArray (epR + 1)), (D6, LCg.lst ys), (tB, tupO bv.toArray), (tN, tupO nv.toArray), (lS, listOf sgv.toArray 0), (L + 1 + 1 + 1 + 1 + 1 + 1 + 1, oQ'), (L + 1 + 1 + 1 + 1 + 1 + 1, oC'), (L + 1 + 1 + 1 + 1 + 1, xE2_2), (L + 1 + 1 + 1 + 1, oB'), (L + 1 + 1 + 1, oN'), (L + 1 + 1, oG'), (L + 1, oX)] ++ ((D14, LCg.lst ws) :: seg) from hx) with hx | hx
    · exact .tail _ (.tail _ (.tail _ (.tail _ (List.mem_append_left seg hx))))
    rcases List.mem_cons.mp hx with rfl | hx
    · exact .tail _ (.head _)
    · exact .tail _ (.tail _ (.tail _ (.tail _ (List.mem_append_right [(lR, listOf (ys2 ++ [Value.ref D14]).toArray (epR + 1)), (D6, LCg.lst ys), (tB, tupO bv.toArray), (tN, tupO nv.toArray), (lS, listOf sgv.toArray 0), (L + 1 + 1 + 1 + 1 + 1 + 1 + 1, oQ'), (L + 1 + 1 + 1 + 1 + 1 + 1, oC'), (L + 1 + 1 + 1 + 1 + 1, xE2_2), (L + 1 + 1 + 1 + 1, oB'), (L + 1 + 1 + 1, oN'), (L + 1 + 1, oG'), (L + 1, oX)] hx))))
  · intro x hx
    refine nmem1 ?_
    rcases List.mem_append.mp (show x ∈ [(lR, listOf (ys2 ++ [Value.ref D14]).toArray (epR + 1)), (D6, LCg.lst ys), (tB, tupO bv.toArray), (tN, tupO nv.toArray), (lS, listOf sgv.toArray 0), (L + 1 + 1 + 1 + 1 + 1 + 1 + 1, oQ'), (L + 1 + 1 + 1 + 1 + 1 + 1, oC'), (L + 1 + 1 + 1 + 1 + 1, xE2_2), (L + 1 + 1 + 1 + 1, oB'), (L + 1 + 1 + 1, oN'), (L + 1 + 1, oG'), (L + 1, oX)] ++ ((D14, LCg.lst ws) :: seg) from hx) with hx | hx
    · have hm1 := List.mem_map_of_mem (f := fun y : Addr × Obj => y.1) hx
      simp only [List.map_cons, List.map_nil, List.mem_cons, List.not_mem_nil, or_false] at hm1
      rcases hm1 with e | e | e | e | e | e | e | e | e | e | e | e
      · rw [e]; exact hne9 (lR, listOf ys2.toArray epR) (by k_mem)
      · rw [e]; exact hne9 (D6, LCg.lst ys) (by k_mem)
      · rw [e]; exact hne9 (tB, tupO bv.toArray) (by k_mem)
      · rw [e]; exact hne9 (tN, tupO nv.toArray) (by k_mem)
      · rw [e]; exact hne9 (lS, listOf sgv.toArray 0) (by k_mem)
      · rw [e]; exact hne9 (L + 1 + 1 + 1 + 1 + 1 + 1 + 1, oQ') (by k_mem)
      · rw [e]; exact hne9 (L + 1 + 1 + 1 + 1 + 1 + 1, oC') (by k_mem)
      · rw [e]; exact hne9 (L + 1 + 1 + 1 + 1 + 1, oK') (by k_mem)
      · rw [e]; exact hne9 (L + 1 + 1 + 1 + 1, oB') (by k_mem)
      · rw [e]; exact hne9 (L + 1 + 1 + 1, oN') (by k_mem)
      · rw [e]; exact hne9 (L + 1 + 1, oG') (by k_mem)
      · rw [e]; exact hne9 (L + 1, oX) (by k_mem)
    rcases List.mem_cons.mp hx with rfl | hx
    · exact fun z => off1_mem o14 (I, oI) (by k_mem) z.symm
    · exact hne9 x (.tail _ (.tail _ (.tail _ (.tail _ (.tail _ (.tail _ (.tail _ (.tail _ (.tail _ (.tail _ (.tail _ (.tail _ hx))))))))))))
  · rw [List.map_append]
    exact hLs.snoc hws
  · simp [hpl]
  · intro p hp
    rcases List.mem_append.mp hp with hp | hp
    · exact hps p hp
    · rw [List.mem_singleton.mp hp]
      exact ⟨hil, hi6, Nat.mod_lt _ (by decide), hsp3⟩
  · intro x hx
    rcases List.mem_cons.mp hx with rfl | hx
    · exact ⟨fun z => off1_mem o14 (L + 1 + 1 + 1 + 1 + 1, xE2_2) (by k_mem) z.symm, e14⟩
    · exact hseg x hx
theorem all : ∀ p : Par, P1 p := fun p => Classical.byContradiction fun hn => (@Classical.epsilon_spec Par (fun p => ¬ P1 p) ⟨p, hn⟩) (by with_unfolding_all exact core)
end J1
theorem core : cap_G2.2.1 h' tk g16 us D17 h17 tk17 := cap_H2.2 (fun t18 k18 xJ1_1 tk xJ1_2 h20 tk20 t20 xJ1_3 sp => J1.all ⟨t18, k18, xJ1_1, tk, xJ1_2, h20, tk20, t20, xJ1_3, sp⟩)
theorem all : ∀ p : Par, P1 p := fun p => Classical.byContradiction fun hn => (@Classical.epsilon_spec Par (fun p => ¬ P1 p) ⟨p, hn⟩) (by with_unfolding_all exact core)
end H2
theorem core : cap_E2.2.1 g13 ws D14 h14 tk14 := cap_G2.2.2 (fun h' tk g16 j us I2 oI2 C oC D4 m₂ h4 tk4 E' tv a ta => H1.all ⟨h', tk, g16, j, us, I2, oI2, C, oC, D4, m₂, h4, tk4, E', tv, a, ta⟩) (fun h' tk g16 us D17 h17 tk17 => H2.all ⟨h', tk, g16, us, D17, h17, tk17⟩)
theorem all : ∀ p : Par, P1 p := fun p => Classical.byContradiction fun hn => (@Classical.epsilon_spec Par (fun p => ¬ P1 p) ⟨p, hn⟩) (by with_unfolding_all exact core)
end G2
theorem core : cap_D1.2.1 xE2_1 xE2_2 tk xE2_6 xE2_7 xE2_8 xE2_9 xE2_10 g11 zs idx D12 h12 tk12 := cap_E2.2.2 (fun g13 j ws I2 oI2 C oC D4 m₂ h4 tk4 E' tv a ta => G1.all ⟨g13, j, ws, I2, oI2, C, oC, D4, m₂, h4, tk4, E', tv, a, ta⟩) (fun g13 ws D14 h14 tk14 => G2.all ⟨g13, ws, D14, h14, tk14⟩)
theorem all : ∀ p : Par, P1 p := fun p => Classical.byContradiction fun hn => (@Classical.epsilon_spec Par (fun p => ¬ P1 p) ⟨p, hn⟩) (by with_unfolding_all exact core)
end E2
theorem core : cap_C1.1 xD1_1 lR xD1_2 xD1_3 tk xD1_4 xD1_7 xD1_8 xD1_9 xD1_10 xD1_11 m k tK h9 tk9 I oI uP uW tT oK' epR ys2 seg ps uK := cap_D1.2.2 (fun xE1_1 xE1_2 tk xE1_6 xE1_7 xE1_8 xE1_9 xE1_10 g11 j zs idx I2 oI2 C oC D4 m₂ h4 tk4 E' tv => E1.all ⟨xE1_1, xE1_2, tk, xE1_6, xE1_7, xE1_8, xE1_9, xE1_10, g11, j, zs, idx, I2, oI2, C, oC, D4, m₂, h4, tk4, E', tv⟩) (fun xE2_1 xE2_2 tk xE2_6 xE2_7 xE2_8 xE2_9 xE2_10 g11 zs idx D12 h12 tk12 => E2.all ⟨xE2_1, xE2_2, tk, xE2_6, xE2_7, xE2_8, xE2_9, xE2_10, g11, zs, idx, D12, h12, tk12⟩)
theorem all : ∀ p : Par, P1 p := fun p => Classical.byContradiction fun hn => (@Classical.epsilon_spec Par (fun p => ¬ P1 p) ⟨p, hn⟩) (by with_unfolding_all exact core)
end D1
namespace D2
noncomputable abbrev Par : Type := (Heap) × (Addr) × (Heap) × (Heap) × (Nat) × (Heap) × (Heap) × (Nat) × (Tok) × (Tok) × (Tok) × (Nat) × (Heap) × (Nat) × (Option Value) × (Option Value) × (Tok) × (Obj) × (Nat) × (List Value) × (List (Addr × Obj)) × (List (List Nat × Nat × Nat)) × (Option Value)
noncomputable def P1 (p : Par) : Prop := cap_C1.2.1 p.1 p.2.1 p.2.2.1 p.2.2.2.1 p.2.2.2.2.1 p.2.2.2.2.2.1 p.2.2.2.2.2.2.1 p.2.2.2.2.2.2.2.1 p.2.2.2.2.2.2.2.2.1 p.2.2.2.2.2.2.2.2.2.1 p.2.2.2.2.2.2.2.2.2.2.1 p.2.2.2.2.2.2.2.2.2.2.2.1 p.2.2.2.2.2.2.2.2.2.2.2.2.1 p.2.2.2.2.2.2.2.2.2.2.2.2.2.1 p.2.2.2.2.2.2.2.2.2.2.2.2.2.2.1 p.2.2.2.2.2.2.2.2.2.2.2.2.2.2.2.1 p.2.2.2.2.2.2.2.2.2.2.2.2.2.2.2.2.1 p.2.2.2.2.2.2.2.2.2.2.2.2.2.2.2.2.2.1 p.2.2.2.2.2.2.2.2.2.2.2.2.2.2.2.2.2.2.1 p.2.2.2.2.2.2.2.2.2.2.2.2.2.2.2.2.2.2.2.1 p.2.2.2.2.2.2.2.2.2.2.2.2.2.2.2.2.2.2.2.2.1 p.2.2.2.2.2.2.2.2.2.2.2.2.2.2.2.2.2.2.2.2.2.1 p.2.2.2.2.2.2.2.2.2.2.2.2.2.2.2.2.2.2.2.2.2.2
theorem some_par : Nonempty Par := ⟨⟨default, 0, default, default, 0, default, default, 0, 0, 0, 0, 0, default, 0, none, none, 0, { cls := .none, data := .seq #[] }, 0, [], [], [], none⟩⟩
@[irreducible] noncomputable def cc : Par := @Classical.epsilon Par some_par fun p => ¬ P1 p
@[irreducible] noncomputable def xD2_1 : Heap := by with_unfolding_all exact cc.1
@[irreducible] noncomputable def lR : Addr := by with_unfolding_all exact cc.2.1
@[irreducible] noncomputable def xD2_2 : Heap := by with_unfolding_all exact cc.2.2.1
@[irreducible] noncomputable def xD2_3 : Heap := by with_unfolding_all exact cc.2.2.2.1
@[irreducible] noncomputable def tk : Nat := by with_unfolding_all exact cc.2.2.2.2.1
@[irreducible] noncomputable def xD2_4 : Heap := by with_unfolding_all exact cc.2.2.2.2.2.1
@[irreducible] noncomputable def xD2_7 : Heap := by with_unfolding_all exact cc.2.2.2.2.2.2.1
@[irreducible] noncomputable def xD2_8 : Nat := by with_unfolding_all exact cc.2.2.2.2.2.2.2.1
@[irreducible] noncomputable def xD2_9 : Tok := by with_unfolding_all exact cc.2.2.2.2.2.2.2.2.1
@[irreducible] noncomputable def xD2_10 : Tok := by with_unfolding_all exact cc.2.2.2.2.2.2.2.2.2.1
@[irreducible] noncomputable def xD2_11 : Tok := by with_unfolding_all exact cc.2.2.2.2.2.2.2.2.2.2.1
@[irreducible] noncomputable def m : Nat := by with_unfolding_all exact cc.2.2.2.2.2.2.2.2.2.2.2.1
@[irreducible] noncomputable def h9 : Heap := by with_unfolding_all exact cc.2.2.2.2.2.2.2.2.2.2.2.2.1
@[irreducible] noncomputable def tk9 : Nat := by with_unfolding_all exact cc.2.2.2.2.2.2.2.2.2.2.2.2.2.1
@[irreducible] noncomputable def uP : Option Value := by with_unfolding_all exact cc.2.2.2.2.2.2.2.2.2.2.2.2.2.2.1
@[irreducible] noncomputable def uW : Option Value := by with_unfolding_all exact cc.2.2.2.2.2.2.2.2.2.2.2.2.2.2.2.1
@[irreducible] noncomputable def tT : Tok := by with_unfolding_all exact cc.2.2.2.2.2.2.2.2.2.2.2.2.2.2.2.2.1
@[irreducible] noncomputable def oK' : Obj := by with_unfolding_all exact cc.2.2.2.2.2.2.2.2.2.2.2.2.2.2.2.2.2.1
@[irreducible] noncomputable def epR : Nat := by with_unfolding_all exact cc.2.2.2.2.2.2.2.2.2.2.2.2.2.2.2.2.2.2.1
@[irreducible] noncomputable def ys2 : List Value := by with_unfolding_all exact cc.2.2.2.2.2.2.2.2.2.2.2.2.2.2.2.2.2.2.2.1
@[irreducible] noncomputable def seg : List (Addr × Obj) := by with_unfolding_all exact cc.2.2.2.2.2.2.2.2.2.2.2.2.2.2.2.2.2.2.2.2.1
@[irreducible] noncomputable def ps : List (List Nat × Nat × Nat) := by with_unfolding_all exact cc.2.2.2.2.2.2.2.2.2.2.2.2.2.2.2.2.2.2.2.2.2.1
@[irreducible] noncomputable def uK : Option Value := by with_unfolding_all exact cc.2.2.2.2.2.2.2.2.2.2.2.2.2.2.2.2.2.2.2.2.2.2
noncomputable def cap_D2 : (T_K1 : (Heap) → (Nat) → (Tok) → (Tok) → (Tok) → (Nat) → (Addr) → (Addr) → (Addr) → (Addr) → (Obj) → (Obj) → (Obj) → (List Value) → (Heap) → (Nat) → (Value → Shared → Prop) → (Tok) → Prop) ×' (T_K2 : (Heap) → (Nat) → (Tok) → (Tok) → (Tok) → (Addr) → (Heap) → (Nat) → (List Value) → Prop) ×' ((∀ (xK1_3 : Heap) (xK1_4 : Nat) (xK1_5 : Tok) (xK1_6 : Tok) (xK1_7 : Tok) (i : Nat) (C : Addr) (c5 : Addr) (D5 : Addr) (I5 : Addr) (oc : Obj) (oC5 : Obj) (oI5 : Obj) (ys5 : List Value) (h5 : Heap) (tk5 : Nat) (E5 : Value → Shared → Prop) (tv : Tok), T_K1 xK1_3 xK1_4 xK1_5 xK1_6 xK1_7 i C c5 D5 I5 oc oC5 oI5 ys5 h5 tk5 E5 tv) → (∀ (xK2_3 : Heap) (xK2_4 : Nat) (xK2_5 : Tok) (xK2_6 : Tok) (xK2_7 : Tok) (D14 : Addr) (h14 : Heap) (tk14 : Nat) (mv : List Value), T_K2 xK2_3 xK2_4 xK2_5 xK2_6 xK2_7 D14 h14 tk14 mv) → cap_C1.2.1 xD2_1 lR xD2_2 xD2_3 tk xD2_4 xD2_7 xD2_8 xD2_9 xD2_10 xD2_11 m h9 tk9 uP uW tT oK' epR ys2 seg ps uK) := ⟨_, _, by
  intro K_K1 K_K2
  intro G hg hA hu hS hI hl post hL G' hnone hbut dC dK dB dN dG xA1_2 XX T dX lt1 dG' lt2 dN' lt3 dB' hsg hnv hbv hrg xB2_8 hck hys o6 e6 e7 e5 hcell hmod2 dC' dQ' hqe hqq eq2 hne eqn ltR xD2_5 xD2_6 F8 N8 xD2_12 hrg8 hm em r1 r2 hNe dK' hLs hpl hps hseg F9 N9
  dsimp only
  iterate 1 walk_at "go"
  refine Assign_cellComp (h₀ := g') (n := q) (fun i y => ∃ t, y = Value.str (S (sgn (mk q i))) t) F9 (by with_unfolding_all rfl) (by with_unfolding_all rfl) rfl (by decide) (by intro _ _; rfl) (by intro _; rfl) rfl rfl rfl ?_
  iterate 7 walk_at "go"
  with_reducible rename IsRange _ _ _ _ _ _ _ _ => hrg10
  with_reducible rename Fr _ _ _ _ => F10
  with_reducible rename News _ _ _ _ => N10
  refine ⟨_, _, _, _, _, rfl, rfl, F10, N10, hrg10, by omega, ?_, ?_⟩
  · rintro i v C c5 D5 I5 oc oC5 oI5 ys5 h5 tk5 E5 hi ⟨tv, rfl⟩ F5 N5 dc
    rename_i xK1_1 xK1_2 xK1_3 xK1_4 xK1_5 xK1_6 xK1_7 xK1_8
    revert G hg hA hu hS hI hl post hL G' hnone hbut dC dK dB dN dG xA1_2 XX T dX lt1 dG' lt2 dN' lt3 dB' hsg hnv hbv hrg xB2_8 hck hys o6 e6 e7 e5 hcell hmod2 dC' dQ' hqe hqq eq2 hne eqn ltR xD2_5 xD2_6 F8 N8 xD2_12 hrg8 hm em r1 r2 hNe dK' hLs hpl hps hseg xK1_1 xK1_2 hrg10 F10 N10 xK1_8 hi F5 N5 dc
    exact K_K1 xK1_3 xK1_4 xK1_5 xK1_6 xK1_7 i C c5 D5 I5 oc oC5 oI5 ys5 h5 tk5 E5 tv
  · intro D14 h14 tk14 mv F14 N14 o14 hml hmf
    rename_i xK2_1 xK2_2 xK2_3 xK2_4 xK2_5 xK2_6 xK2_7 xK2_8
    revert G hg hA hu hS hI hl post hL G' hnone hbut dC dK dB dN dG xA1_2 XX T dX lt1 dG' lt2 dN' lt3 dB' hsg hnv hbv hrg xB2_8 hck hys o6 e6 e7 e5 hcell hmod2 dC' dQ' hqe hqq eq2 hne eqn ltR xD2_5 xD2_6 F8 N8 xD2_12 hrg8 hm em r1 r2 hNe dK' hLs hpl hps hseg xK2_1 xK2_2 hrg10 F10 N10 xK2_8 F14 N14 o14 hml hmf
    exact K_K2 xK2_3 xK2_4 xK2_5 xK2_6 xK2_7 D14 h14 tk14 mv⟩
namespace K1
noncomputable abbrev Par : Type := (Heap) × (Nat) × (Tok) × (Tok) × (Tok) × (Nat) × (Addr) × (Addr) × (Addr) × (Addr) × (Obj) × (Obj) × (Obj) × (List Value) × (Heap) × (Nat) × (Value → Shared → Prop) × (Tok)
noncomputable def P1 (p : Par) : Prop := cap_D2.1 p.1 p.2.1 p.2.2.1 p.2.2.2.1 p.2.2.2.2.1 p.2.2.2.2.2.1 p.2.2.2.2.2.2.1 p.2.2.2.2.2.2.2.1 p.2.2.2.2.2.2.2.2.1 p.2.2.2.2.2.2.2.2.2.1 p.2.2.2.2.2.2.2.2.2.2.1 p.2.2.2.2.2.2.2.2.2.2.2.1 p.2.2.2.2.2.2.2.2.2.2.2.2.1 p.2.2.2.2.2.2.2.2.2.2.2.2.2.1 p.2.2.2.2.2.2.2.2.2.2.2.2.2.2.1 p.2.2.2.2.2.2.2.2.2.2.2.2.2.2.2.1 p.2.2.2.2.2.2.2.2.2.2.2.2.2.2.2.2.1 p.2.2.2.2.2.2.2.2.2.2.2.2.2.2.2.2.2
theorem some_par : Nonempty Par := ⟨⟨default, 0, 0, 0, 0, 0, 0, 0, 0, 0, { cls := .none, data := .seq #[] }, { cls := .none, data := .seq #[] }, { cls := .none, data := .seq #[] }, [], default, 0, (fun _ _ => True), 0⟩⟩
@[irreducible] noncomputable def cc : Par := @Classical.epsilon Par some_par fun p => ¬ P1 p
@[irreducible] noncomputable def xK1_3 : Heap := by with_unfolding_all exact cc.1
@[irreducible] noncomputable def xK1_4 : Nat := by with_unfolding_all exact cc.2.1
@[irreducible] noncomputable def xK1_5 : Tok := by with_unfolding_all exact cc.2.2.1
@[irreducible] noncomputable def xK1_6 : Tok := by with_unfolding_all exact cc.2.2.2.1
@[irreducible] noncomputable def xK1_7 : Tok := by with_unfolding_all exact cc.2.2.2.2.1
@[irreducible] noncomputable def i : Nat := by with_unfolding_all exact cc.2.2.2.2.2.1
@[irreducible] noncomputable def C : Addr := by with_unfolding_all exact cc.2.2.2.2.2.2.1
@[irreducible] noncomputable def c5 : Addr := by with_unfolding_all exact cc.2.2.2.2.2.2.2.1
@[irreducible] noncomputable def D5 : Addr := by with_unfolding_all exact cc.2.2.2.2.2.2.2.2.1
@[irreducible] noncomputable def I5 : Addr := by with_unfolding_all exact cc.2.2.2.2.2.2.2.2.2.1
@[irreducible] noncomputable def oc : Obj := by with_unfolding_all exact cc.2.2.2.2.2.2.2.2.2.2.1
@[irreducible] noncomputable def oC5 : Obj := by with_unfolding_all exact cc.2.2.2.2.2.2.2.2.2.2.2.1
@[irreducible] noncomputable def oI5 : Obj := by with_unfolding_all exact cc.2.2.2.2.2.2.2.2.2.2.2.2.1
@[irreducible] noncomputable def ys5 : List Value := by with_unfolding_all exact cc.2.2.2.2.2.2.2.2.2.2.2.2.2.1
@[irreducible] noncomputable def h5 : Heap := by with_unfolding_all exact cc.2.2.2.2.2.2.2.2.2.2.2.2.2.2.1
@[irreducible] noncomputable def tk5 : Nat := by with_unfolding_all exact cc.2.2.2.2.2.2.2.2.2.2.2.2.2.2.2.1
@[irreducible] noncomputable def E5 : Value → Shared → Prop := by with_unfolding_all exact cc.2.2.2.2.2.2.2.2.2.2.2.2.2.2.2.2.1
@[irreducible] noncomputable def tv : Tok := by with_unfolding_all exact cc.2.2.2.2.2.2.2.2.2.2.2.2.2.2.2.2.2
noncomputable def cap_K1 : (T_M1 : (Heap) → (Nat) → (Tok) → (Tok) → (Tok) → (Heap) → (Nat) → (List Value) → (Addr) → (Obj) → (Addr) → (Obj) → (Addr) → (Str → Option Value) → (Heap) → (Nat) → (Value → Shared → Prop) → (Tok) → (Tok) → (Tok) → Prop) ×' ((∀ (xM1_3 : Heap) (xM1_4 : Nat) (xM1_5 : Tok) (xM1_6 : Tok) (xM1_7 : Tok) (g7 : Heap) (k : Nat) (us : List Value) (I2 : Addr) (oI2 : Obj) (C2 : Addr) (oC2 : Obj) (D4 : Addr) (m₂ : Str → Option Value) (h4 : Heap) (tk4 : Nat) (E' : Value → Shared → Prop) (tv2 : Tok) (ta : Tok) (tg : Tok), T_M1 xM1_3 xM1_4 xM1_5 xM1_6 xM1_7 g7 k us I2 oI2 C2 oC2 D4 m₂ h4 tk4 E' tv2 ta tg) → cap_D2.1 xK1_3 xK1_4 xK1_5 xK1_6 xK1_7 i C c5 D5 I5 oc oC5 oI5 ys5 h5 tk5 E5 tv) := ⟨_, by
  intro K_M1
  intro G hg hA hu hS hI hl post hL G' hnone hbut dC dK dB dN dG xA1_2 XX T dX lt1 dG' lt2 dN' lt3 dB' hsg hnv hbv hrg xB2_8 hck hys o6 e6 e7 e5 hcell hmod2 dC' dQ' hqe hqq eq2 hne eqn ltR xD2_5 xD2_6 F8 N8 xD2_12 hrg8 hm em r1 r2 hNe dK' hLs hpl hps hseg xK1_1 xK1_2 hrg10 F10 N10 xK1_8 hi F5 N5 dc
  clear F10 N10
  iterate 1 walk_at "go"
  refine LCt.ListComp_T F5 rfl (by decide) rfl (by decide) rfl ?_
  iterate 7 walk_at "go"
  with_reducible rename IsRange _ _ _ _ _ _ _ _ => hrg11
  with_reducible rename Fr _ _ _ _ => F6
  with_reducible rename News _ _ _ _ => N6
  refine LCt.CompSrcT.range (n := 6) rfl F6 N6 hrg11 (by decide) (by decide) (by simp [sizeLine]) ?_
  intro g7
  refine restT_inv (fun k us nw => nw = _ ∧ StrsAre us ((([0, 1, 2, 3, 4, 5].take k).filter fun a => decide (num a % q = i)).map fun a => S (sgn a))) 6 ?_ ?_ _ 0 _ _ (by simp) ⟨rfl, .nil⟩
  · rintro k us nw hk ⟨rfl, hus⟩ v I2 oI2 C2 oC2 D4 m₂ h4 tk4 E' ⟨tv2, rfl⟩ hC hx F11 N11 off ne
    clear F6 N6
    obtain ⟨ta, hta⟩ := ints_at hnv (i := k) hk
    have hk6 : k = 0 ∨ k = 1 ∨ k = 2 ∨ k = 3 ∨ k = 4 ∨ k = 5 := by omega
    have hnum : ([14, 15, 46, 47, 12, 31] : List Nat).getD k 0 = num k := by
      rcases hk6 with rfl | rfl | rfl | rfl | rfl | rfl <;> rfl
    rw [hnum] at hta
    obtain ⟨tg, htg⟩ := hsg.get k (S (sgn k)) (by
      rcases hk6 with rfl | rfl | rfl | rfl | rfl | rfl <;> rfl)
    rename_i xM1_1 xM1_2 xM1_3 xM1_4 xM1_5 xM1_6 xM1_7 xM1_8
    revert G hg hA hu hS hI hl post hL G' hnone hbut dC dK dB dN dG xA1_2 XX T dX lt1 dG' lt2 dN' lt3 dB' hsg hnv hbv hrg xB2_8 hck hys o6 e6 e7 e5 hcell hmod2 dC' dQ' hqe hqq eq2 hne eqn ltR xD2_5 xD2_6 F8 N8 xD2_12 hrg8 hm em r1 r2 hNe dK' hLs hpl hps hseg xK1_1 xK1_2 hrg10 xK1_8 hi xM1_1 xM1_2 dc hrg11 xM1_8 hk hus hC hx F11 N11 off ne hta hk6 hnum htg
    exact K_M1 xM1_3 xM1_4 xM1_5 xM1_6 xM1_7 g7 k us I2 oI2 C2 oC2 D4 m₂ h4 tk4 E' tv2 ta tg
  · rintro us nw ⟨rfl, hus⟩
    unfold LCg.FinE
    intro D6' h6' tk6' F12 N12 o12
    clear F6 N6
    dsimp only
    iterate 1 walk_at "go"
    obtain ⟨t0, h0⟩ := hus.get 0 _ (marks0 hqq hi)
    refine sub_list (j := 0) (N12.isList (by k_mem)) rfl (by decide) h0 ?_
    exact ⟨⟨_, rfl⟩, _, _, rfl, F12, fun p hp => N12 p (.tail _ hp)⟩⟩
namespace M1
noncomputable abbrev Par : Type := (Heap) × (Nat) × (Tok) × (Tok) × (Tok) × (Heap) × (Nat) × (List Value) × (Addr) × (Obj) × (Addr) × (Obj) × (Addr) × (Str → Option Value) × (Heap) × (Nat) × (Value → Shared → Prop) × (Tok) × (Tok) × (Tok)
noncomputable def P1 (p : Par) : Prop := cap_K1.1 p.1 p.2.1 p.2.2.1 p.2.2.2.1 p.2.2.2.2.1 p.2.2.2.2.2.1 p.2.2.2.2.2.2.1 p.2.2.2.2.2.2.2.1 p.2.2.2.2.2.2.2.2.1 p.2.2.2.2.2.2.2.2.2.1 p.2.2.2.2.2.2.2.2.2.2.1 p.2.2.2.2.2.2.2.2.2.2.2.1 p.2.2.2.2.2.2.2.2.2.2.2.2.1 p.2.2.2.2.2.2.2.2.2.2.2.2.2.1 p.2.2.2.2.2.2.2.2.2.2.2.2.2.2.1 p.2.2.2.2.2.2.2.2.2.2.2.2.2.2.2.1 p.2.2.2.2.2.2.2.2.2.2.2.2.2.2.2.2.1 p.2.2.2.2.2.2.2.2.2.2.2.2.2.2.2.2.2.1 p.2.2.2.2.2.2.2.2.2.2.2.2.2.2.2.2.2.2.1 p.2.2.2.2.2.2.2.2.2.2.2.2.2.2.2.2.2.2.2
theorem some_par : Nonempty Par := ⟨⟨default, 0, 0, 0, 0, default, 0, [], 0, { cls := .none, data := .seq #[] }, 0, { cls := .none, data := .seq #[] }, 0, (fun _ => none), default, 0, (fun _ _ => True), 0, 0, 0⟩⟩
@[irreducible] noncomputable def cc : Par := @Classical.epsilon Par some_par fun p => ¬ P1 p
@[irreducible] noncomputable def xM1_3 : Heap := by with_unfolding_all exact cc.1
@[irreducible] noncomputable def xM1_4 : Nat := by with_unfolding_all exact cc.2.1
@[irreducible] noncomputable def xM1_5 : Tok := by with_unfolding_all exact cc.2.2.1
@[irreducible] noncomputable def xM1_6 : Tok := by with_unfolding_all exact cc.2.2.2.1
@[irreducible] noncomputable def xM1_7 : Tok := by with_unfolding_all exact cc.2.2.2.2.1
@[irreducible] noncomputable def g7 : Heap := by with_unfolding_all exact cc.2.2.2.2.2.1
@[irreducible] noncomputable def k : Nat := by with_unfolding_all exact cc.2.2.2.2.2.2.1
@[irreducible] noncomputable def us : List Value := by with_unfolding_all exact cc.2.2.2.2.2.2.2.1
@[irreducible] noncomputable def I2 : Addr := by with_unfolding_all exact cc.2.2.2.2.2.2.2.2.1
@[irreducible] noncomputable def oI2 : Obj := by with_unfolding_all exact cc.2.2.2.2.2.2.2.2.2.1
@[irreducible] noncomputable def C2 : Addr := by with_unfolding_all exact cc.2.2.2.2.2.2.2.2.2.2.1
@[irreducible] noncomputable def oC2 : Obj := by with_unfolding_all exact cc.2.2.2.2.2.2.2.2.2.2.2.1
@[irreducible] noncomputable def D4 : Addr := by with_unfolding_all exact cc.2.2.2.2.2.2.2.2.2.2.2.2.1
@[irreducible] noncomputable def m₂ : Str → Option Value := by with_unfolding_all exact cc.2.2.2.2.2.2.2.2.2.2.2.2.2.1
@[irreducible] noncomputable def h4 : Heap := by with_unfolding_all exact cc.2.2.2.2.2.2.2.2.2.2.2.2.2.2.1
@[irreducible] noncomputable def tk4 : Nat := by with_unfolding_all exact cc.2.2.2.2.2.2.2.2.2.2.2.2.2.2.2.1
@[irreducible] noncomputable def E' : Value → Shared → Prop := by with_unfolding_all exact cc.2.2.2.2.2.2.2.2.2.2.2.2.2.2.2.2.1
@[irreducible] noncomputable def tv2 : Tok := by with_unfolding_all exact cc.2.2.2.2.2.2.2.2.2.2.2.2.2.2.2.2.2.1
@[irreducible] noncomputable def ta : Tok := by with_unfolding_all exact cc.2.2.2.2.2.2.2.2.2.2.2.2.2.2.2.2.2.2.1
@[irreducible] noncomputable def tg : Tok := by with_unfolding_all exact cc.2.2.2.2.2.2.2.2.2.2.2.2.2.2.2.2.2.2.2
theorem core : cap_K1.1 xM1_3 xM1_4 xM1_5 xM1_6 xM1_7 g7 k us I2 oI2 C2 oC2 D4 m₂ h4 tk4 E' tv2 ta tg := by
  intro G hg hA hu hS hI hl post hL G' hnone hbut dC dK dB dN dG xA1_2 XX T dX lt1 dG' lt2 dN' lt3 dB' hsg hnv hbv hrg xB2_8 hck hys o6 e6 e7 e5 hcell hmod2 dC' dQ' hqe hqq eq2 hne eqn ltR xD2_5 xD2_6 F8 N8 xD2_12 hrg8 hm em r1 r2 hNe dK' hLs hpl hps hseg xK1_1 xK1_2 hrg10 xK1_8 hi xM1_1 xM1_2 dc hrg11 xM1_8 hk hus hC hx F11 N11 off ne hta hk6 hnum htg
  iterate 5 walk_at "go"
  refine sub_tup (j := k) (N11.isTup (by k_mem)) (by omega) (by omega) hta ?_
  have hqz : (q : Int) ≠ 0 := by omega
  iterate 4 walk_at "go"
  rw [eqmod]
  iterate 1 walk_at "go"
  (try k_unfold)
  (try dsimp only)
  by_cases hin : num k % q = i
  · rw [if_pos (decide_eq_true hin)]
    iterate 3 walk_at "go"
    refine sub_list (j := k) (N11.isList (by k_mem)) (by omega) (by omega) htg ?_
    refine LCg.CompEnd.intro F11 N11 _ (fun p hp => hp) off trivial ⟨rfl, ?_⟩
    rw [take6 hk, if_pos (decide_eq_true hin), List.map_append]
    exact Mine.StrsAre.app hus (.cons _ _ .nil)
  · rw [if_neg (by simpa using hin)]
    refine LCg.CompEnd.intro F11 N11 _ (fun p hp => hp) off trivial ⟨rfl, ?_⟩
    rw [take6 hk, if_neg (by simpa using hin), List.append_nil]
    exact hus
theorem all : ∀ p : Par, P1 p := fun p => Classical.byContradiction fun hn => (@Classical.epsilon_spec Par (fun p => ¬ P1 p) ⟨p, hn⟩) (by with_unfolding_all exact core)
end M1
theorem core : cap_D2.1 xK1_3 xK1_4 xK1_5 xK1_6 xK1_7 i C c5 D5 I5 oc oC5 oI5 ys5 h5 tk5 E5 tv := cap_K1.2 (fun xM1_3 xM1_4 xM1_5 xM1_6 xM1_7 g7 k us I2 oI2 C2 oC2 D4 m₂ h4 tk4 E' tv2 ta tg => M1.all ⟨xM1_3, xM1_4, xM1_5, xM1_6, xM1_7, g7, k, us, I2, oI2, C2, oC2, D4, m₂, h4, tk4, E', tv2, ta, tg⟩)
theorem all : ∀ p : Par, P1 p := fun p => Classical.byContradiction fun hn => (@Classical.epsilon_spec Par (fun p => ¬ P1 p) ⟨p, hn⟩) (by with_unfolding_all exact core)
end K1
namespace K2
noncomputable abbrev Par : Type := (Heap) × (Nat) × (Tok) × (Tok) × (Tok) × (Addr) × (Heap) × (Nat) × (List Value)
noncomputable def P1 (p : Par) : Prop := cap_D2.2.1 p.1 p.2.1 p.2.2.1 p.2.2.2.1 p.2.2.2.2.1 p.2.2.2.2.2.1 p.2.2.2.2.2.2.1 p.2.2.2.2.2.2.2.1 p.2.2.2.2.2.2.2.2
theorem some_par : Nonempty Par := ⟨⟨default, 0, 0, 0, 0, 0, default, 0, []⟩⟩
@[irreducible] noncomputable def cc : Par := @Classical.epsilon Par some_par fun p => ¬ P1 p
@[irreducible] noncomputable def xK2_3 : Heap := by with_unfolding_all exact cc.1
@[irreducible] noncomputable def xK2_4 : Nat := by with_unfolding_all exact cc.2.1
@[irreducible] noncomputable def xK2_5 : Tok := by with_unfolding_all exact cc.2.2.1
@[irreducible] noncomputable def xK2_6 : Tok := by with_unfolding_all exact cc.2.2.2.1
@[irreducible] noncomputable def xK2_7 : Tok := by with_unfolding_all exact cc.2.2.2.2.1
@[irreducible] noncomputable def D14 : Addr := by with_unfolding_all exact cc.2.2.2.2.2.1
@[irreducible] noncomputable def h14 : Heap := by with_unfolding_all exact cc.2.2.2.2.2.2.1
@[irreducible] noncomputable def tk14 : Nat := by with_unfolding_all exact cc.2.2.2.2.2.2.2.1
@[irreducible] noncomputable def mv : List Value := by with_unfolding_all exact cc.2.2.2.2.2.2.2.2
theorem core : cap_D2.2.1 xK2_3 xK2_4 xK2_5 xK2_6 xK2_7 D14 h14 tk14 mv := by
  intro G hg hA hu hS hI hl post hL G' hnone hbut dC dK dB dN dG xA1_2 XX T dX lt1 dG' lt2 dN' lt3 dB' hsg hnv hbv hrg xB2_8 hck hys o6 e6 e7 e5 hcell hmod2 dC' dQ' hqe hqq eq2 hne eqn ltR xD2_5 xD2_6 F8 N8 xD2_12 hrg8 hm em r1 r2 hNe dK' hLs hpl hps hseg xK2_1 xK2_2 hrg10 F10 N10 xK2_8 F14 N14 o14 hml hmf
  clear F10 N10
  iterate 15 walk_at "go"
  rw [hcell]
  iterate 2 walk_at "go"
  have hmod10 : ∀ a : Nat, (7 : Int) + ((a : Nat) : Int).fmod 10 = ((7 + a % 10 : Nat) : Int) := fun a => by
    rw [Int.fmod_eq_emod_of_nonneg _ (by omega)]; simp
  iterate 1 walk_at "go"
  rw [hmod10]
  iterate 8 walk_at "go"
  have htl := text_len (n := n) (by omega) ps hps
  refine add_S (a := textOf ps) (b := [101, 110, 100]) ?_ (by simp; omega) rfl (by exact S_of _)
  intro t15 k15
  repeat walk_at "go"
  with_reducible rename Fr _ _ _ _ => F16
  with_reducible rename News _ _ _ _ => N16
  rename_i D16 h16 _
  have old9 : ∀ {p : Addr × Obj}, p ∈ _ → h16.get? p.1 = some p.2 ∧ hp0.get? p.1 = none := fun {p} hin => ⟨(N16 p hin).1, hbut.sub.none (N16 p hin).2.2⟩
  refine post h16 _ D16 lR D14 ys2 mv seg ps q n (7 + c.getD (Int.toNat 2) 0 % 10) _ _ _ _ epR (by omega) (by omega) (by omega) (by omega) (by omega) (Nat.le_add_right _ _) (by omega) (by omega) hps hLs ⟨hml, fun a ha => ?_⟩
    (mem4 (P := fun x => h16.get? x.1 = some x.2 ∧ hp0.get? x.1 = none) (old9 (.head _)) (old9 (.tail _ (.tail _ (.head _)))) (old9 (.tail _ (.head _))) fun x hx => old9 (.tail _ (.tail _ (.tail _ (.tail _ (.tail _ (.tail _ (.tail _ (.tail _ (.tail _ (.tail _ (.tail _ (.tail _ (.tail _ (.tail _ hx))))))))))))))) (hbut.sub.trans F16.keep)
  have hal : a < mv.length := by omega
  obtain ⟨t, e⟩ := hmf a mv[a] (List.getElem?_eq_getElem hal)
  exact ⟨t, by rw [List.getElem?_eq_getElem hal, e]⟩
theorem all : ∀ p : Par, P1 p := fun p => Classical.byContradiction fun hn => (@Classical.epsilon_spec Par (fun p => ¬ P1 p) ⟨p, hn⟩) (by with_unfolding_all exact core)
end K2
theorem core : cap_C1.2.1 xD2_1 lR xD2_2 xD2_3 tk xD2_4 xD2_7 xD2_8 xD2_9 xD2_10 xD2_11 m h9 tk9 uP uW tT oK' epR ys2 seg ps uK := cap_D2.2.2 (fun xK1_3 xK1_4 xK1_5 xK1_6 xK1_7 i C c5 D5 I5 oc oC5 oI5 ys5 h5 tk5 E5 tv => K1.all ⟨xK1_3, xK1_4, xK1_5, xK1_6, xK1_7, i, C, c5, D5, I5, oc, oC5, oI5, ys5, h5, tk5, E5, tv⟩) (fun xK2_3 xK2_4 xK2_5 xK2_6 xK2_7 D14 h14 tk14 mv => K2.all ⟨xK2_3, xK2_4, xK2_5, xK2_6, xK2_7, D14, h14, tk14, mv⟩)
theorem all : ∀ p : Par, P1 p := fun p => Classical.byContradiction fun hn => (@Classical.epsilon_spec Par (fun p => ¬ P1 p) ⟨p, hn⟩) (by with_unfolding_all exact core)
end D2
theorem core : cap_B2.1 xC1_1 oC' tk xC1_2 xC1_3 oQ' q xC1_4 n := cap_C1.2.2 (fun xD1_1 lR xD1_2 xD1_3 tk xD1_4 xD1_7 xD1_8 xD1_9 xD1_10 xD1_11 m k tK h9 tk9 I oI uP uW tT oK' epR ys2 seg ps uK => D1.all ⟨xD1_1, lR, xD1_2, xD1_3, tk, xD1_4, xD1_7, xD1_8, xD1_9, xD1_10, xD1_11, m, k, tK, h9, tk9, I, oI, uP, uW, tT, oK', epR, ys2, seg, ps, uK⟩) (fun xD2_1 lR xD2_2 xD2_3 tk xD2_4 xD2_7 xD2_8 xD2_9 xD2_10 xD2_11 m h9 tk9 uP uW tT oK' epR ys2 seg ps uK => D2.all ⟨xD2_1, lR, xD2_2, xD2_3, tk, xD2_4, xD2_7, xD2_8, xD2_9, xD2_10, xD2_11, m, h9, tk9, uP, uW, tT, oK', epR, ys2, seg, ps, uK⟩)
theorem all : ∀ p : Par, P1 p := fun p => Classical.byContradiction fun hn => (@Classical.epsilon_spec Par (fun p => ¬ P1 p) ⟨p, hn⟩) (by with_unfolding_all exact core)
end C1
theorem core : cap_A1.2.1 xB2_3 xB2_4 xB2_5 xB2_6 xB2_7 g2 ys c D6 h6 tk6 := cap_B2.2 (fun xC1_1 oC' tk xC1_2 xC1_3 oQ' q xC1_4 n => C1.all ⟨xC1_1, oC', tk, xC1_2, xC1_3, oQ', q, xC1_4, n⟩)
theorem all : ∀ p : Par, P1 p := fun p => Classical.byContradiction fun hn => (@Classical.epsilon_spec Par (fun p => ¬ P1 p) ⟨p, hn⟩) (by with_unfolding_all exact core)
end B2
theorem core : cap_top.1 h₁ xA1_1 oQ oC oK oB oN oG oX lS xA1_3 xA1_4 oG' xA1_5 tN xA1_6 xA1_7 oN' xA1_8 tB xA1_9 xA1_10 oB' tk sgv nv bv := cap_A1.2.2 (fun xB1_3 xB1_4 xB1_5 xB1_6 xB1_7 g2 k ys c I2 oI2 C oC D4 m₂ h4 tk4 E' tv => B1.all ⟨xB1_3, xB1_4, xB1_5, xB1_6, xB1_7, g2, k, ys, c, I2, oI2, C, oC, D4, m₂, h4, tk4, E', tv⟩) (fun xB2_3 xB2_4 xB2_5 xB2_6 xB2_7 g2 ys c D6 h6 tk6 => B2.all ⟨xB2_3, xB2_4, xB2_5, xB2_6, xB2_7, g2, ys, c, D6, h6, tk6⟩)
theorem all : ∀ p : Par, P1 p := fun p => Classical.byContradiction fun hn => (@Classical.epsilon_spec Par (fun p => ¬ P1 p) ⟨p, hn⟩) (by with_unfolding_all exact core)
end A1
theorem core : P0 w loose mean mg mb g prog dep fra gua uni hp0 gn dr tk0 os0 Q E SC sv xs := cap_top.2 (fun h₁ xA1_1 oQ oC oK oB oN oG oX lS xA1_3 xA1_4 oG' xA1_5 tN xA1_6 xA1_7 oN' xA1_8 tB xA1_9 xA1_10 oB' tk sgv nv bv => A1.all ⟨h₁, xA1_1, oQ, oC, oK, oB, oN, oG, oX, lS, xA1_3, xA1_4, oG', xA1_5, tN, xA1_6, xA1_7, oN', xA1_8, tB, xA1_9, xA1_10, oB', tk, sgv, nv, bv⟩)
theorem all : ∀ p : Par, P1 p := fun p => Classical.byContradiction fun hn => (@Classical.epsilon_spec Par (fun p => ¬ P1 p) ⟨p, hn⟩) (by with_unfolding_all exact core)
end F19c
theorem drawn_spec {w : World} {loose : List Str} {mean : ExcName → Option Value} {mg mb : Str → Option Value} {g : Heap} {prog : Program} {A : Around} {s : Shared} {Q E : Value → Shared → Prop} (G : Gd w loose mean mg mb g) (hg : Sub g s.heap) (hA : A.depth ≤ 600) (hu : A.units ≤ 3000) (hh : A.handled = none)
   {SC : Addr} {sv : List Value} {xs : List Int} (hS : s.heap.IsList SC sv.toArray) (hI : IntsAre sv xs) (hl : xs.length ≤ 63)
   (post : ∀ h' tk r D1 D2 ys mv seg ps q n wd tq tn tw tt ep, (q = 2 ∨ q = 3) → 3 ≤ n → n ≤ 5 → 6 ≤ n + q → n + q ≤ 7 → 7 ≤ wd → wd ≤ 16 → (ps : List (List Nat × Nat × Nat)).length = 5 - q → (∀ p ∈ ps, PartOk n p) → Lists seg ys (ps.map fun p => lets q p.1) → MarksAre q mv →
     (∀ x ∈ (r, tupO #[.int ((q : Nat) : Int) tq, .int ((n : Nat) : Int) tn, .int ((wd : Nat) : Int) tw, .ref D1, .ref D2, .str (S (textOf ps ++ [101, 110, 100])) tt]) :: (D1, listOf ys.toArray ep) :: (D2, LCg.lst mv) :: seg, h'.get? x.1 = some x.2 ∧ s.heap.get? x.1 = none) → Sub s.heap h' → Q (.ref r) { s with heap := h', toks := tk }) :
   wpAny (model prog w) A (call (.ref 125) [.ref SC]) Q E s := by
  obtain ⟨hand, dep, fra, gua, uni⟩ := A
  obtain ⟨hp0, gn, dr, tk0, os0⟩ := s
  dsimp only at hh
  subst hh
  exact F19c.all ⟨w, loose, mean, mg, mb, g, prog, dep, fra, gua, uni, hp0, gn, dr, tk0, os0, Q, E, SC, sv, xs⟩ G hg hA hu hS hI hl post
end
end Mine
end
section
open PySem PySem.W PyProof.Rows PySem.Calls
set_option maxRecDepth 100000
set_option maxHeartbeats 8000000
set_option linter.unusedVariables false
set_option linter.unusedSimpArgs false
namespace Mine
theorem fill_F20 : ∀ (w : World) (h : Heap), (hd.heap_1 w.params).In h → PySem.Challenge.rw_qu0050_01.foot = 8 := by
  k_fill; intros; rfl
section
noncomputable def OkC (c : Nat) : Prop := c ∉ wsL ∧ c ≠ 34 ∧ c ≠ 92
theorem ok_sgn {i : Nat} (h : i < 6) : ∀ c ∈ sgn i, OkC c := by
  rcases six h with rfl | rfl | rfl | rfl | rfl | rfl <;> (unfold OkC; decide)
theorem ok_sgns : ∀ {l : List Nat}, (∀ j ∈ l, j < 6) → ∀ c ∈ sgns l, OkC c
  | [], _, c, hc => by rw [sgns_nil] at hc; cases hc
  | i :: l, h, c, hc => by
    rw [sgns_cons] at hc
    rcases List.mem_append.mp hc with hc | hc
    · exact ok_sgn (h i (.head _)) c hc
    · exact ok_sgns (fun j hj => h j (.tail _ hj)) c hc
theorem lexQ_word {r : List Nat} : ∀ {l : List Nat}, (∀ c ∈ l, OkC c) → LexQ (l ++ 34 :: r) l r
  | [], _ => .fin
  | c :: l, h => .sgn (h c (.head _)).2.1 (h c (.head _)).2.2 (lexQ_word fun d hd => h d (.tail _ hd))
theorem lexB_word {r : List Nat} {sp : Nat} (hs : sp ∈ wsL) : ∀ {l : List Nat}, (∀ c ∈ l, OkC c) → LexB (l ++ sp :: r) l r
  | [], _ => .ws hs
  | c :: l, h => .sgn (h c (.head _)).1 (h c (.head _)).2.2 (lexB_word hs fun d hd => h d (.tail _ hd))
theorem lexB_esc {r : List Nat} {sp : Nat} (hs : sp ∈ wsL) : ∀ {l : List Nat}, LexB (l.flatMap (fun c => [92, c]) ++ sp :: r) l r
  | [] => .ws hs
  | c :: l => .esc (lexB_esc hs)
theorem lexT_wr {l r : List Nat} {sp m : Nat} (hl : l ≠ []) (ho : ∀ c ∈ l, OkC c) (hs : sp ∈ wsL) : ∃ r', LexT (wr m l ++ [sp] ++ r) l r' ∧ (r' = r ∨ r' = sp :: r) := by
  cases l with
  | nil => exact absurd rfl hl
  | cons c l =>
    unfold wr
    by_cases h0 : m = 0
    · rw [if_pos h0]
      refine ⟨sp :: r, ?_, .inr rfl⟩
      have := LexT.quo (lexQ_word (r := sp :: r) ho)
      simpa using this
    · rw [if_neg h0]
      by_cases h1 : m = 1
      · rw [if_pos h1]
        refine ⟨r, ?_, .inl rfl⟩
        have := LexT.esc (d := c) (lexB_esc (r := r) (l := l) hs)
        simpa using this
      · rw [if_neg h1]
        refine ⟨r, ?_, .inl rfl⟩
        obtain ⟨a, b, d⟩ := ho c (.head _)
        have := LexT.sgn a b d (lexB_word (r := r) hs fun x hx => ho x (.tail _ hx))
        simpa using this
theorem reads_text {n : Nat} (hn : 1 ≤ n) : ∀ (ps : List (List Nat × Nat × Nat)) (pre : List Nat), (pre = [] ∨ ∃ c, c ∈ wsL ∧ pre = [c]) → (∀ p ∈ ps, PartOk n p) → ∃ R, Reads (pre ++ (textOf ps ++ [101, 110, 100])) (ps.map fun p => sgns p.1) R ∧ LexT R [101, 110, 100] []
  | [], pre, hp, _ => by
    refine ⟨_, rfl, ?_⟩
    have he : LexT [101, 110, 100] [101, 110, 100] [] := .sgn (by decide) (by decide) (by decide) (.sgn (by decide) (by decide) (.sgn (by decide) (by decide) .eof))
    rcases hp with rfl | ⟨c, hc, rfl⟩
    · exact he
    · exact .skip hc he
  | p :: ps, pre, hp, h => by
    obtain ⟨a, b, _, d⟩ := h p (.head _)
    have hs : p.2.2 ∈ wsL := by rcases d with e | e | e <;> (rw [e]; decide)
    have hne : sgns p.1 ≠ [] := by
      have : p.1 ≠ [] := fun e => by rw [e] at a; simp at a; omega
      obtain ⟨x, t, e, _⟩ := sgns_head b this
      rw [e]; exact List.cons_ne_nil _ _
    obtain ⟨r', hT, hr⟩ := lexT_wr (r := textOf ps ++ [101, 110, 100]) (m := p.2.1) hne (ok_sgns b) hs
    have hT2 : LexT (pre ++ (textOf (p :: ps) ++ [101, 110, 100])) (sgns p.1) r' := by
      have e : textOf (p :: ps) ++ [101, 110, 100] = wr p.2.1 (sgns p.1) ++ [p.2.2] ++ (textOf ps ++ [101, 110, 100]) := by
        unfold textOf
        rw [List.flatMap_cons, List.append_assoc]
      rw [e]
      rcases hp with rfl | ⟨c, hc, rfl⟩
      · exact hT
      · exact .skip hc hT
    have ih : ∃ R, Reads r' (ps.map fun p => sgns p.1) R ∧ LexT R [101, 110, 100] [] := by
      rcases hr with rfl | rfl
      · exact reads_text hn ps [] (.inl rfl) fun x hx => h x (.tail _ hx)
      · exact reads_text hn ps [p.2.2] (.inr ⟨_, hs, rfl⟩) fun x hx => h x (.tail _ hx)
    obtain ⟨R, h1, h2⟩ := ih
    exact ⟨R, ⟨r', hT2, h1⟩, h2⟩
end
end Mine
end
section
open PySem PySem.W PyProof.Rows PySem.Calls
set_option maxRecDepth 100000
set_option maxHeartbeats 8000000
set_option linter.unusedVariables false
set_option linter.unusedSimpArgs false
namespace Mine
theorem fill_F21 : ∀ (w : World) (h : Heap), (hd.heap_1 w.params).In h → PySem.Challenge.rw_qu0050_01.foot = 8 := by
  k_fill; intros; rfl
section
/-- many new objects at once, and cells of ours changed -/
theorem add_new {h₀ h h' : Heap} {L : Addr} {m : Str → Option Value} {news keep new : List (Addr × Obj)} (ch : List Addr) (F : Fr h₀ L h m) (N : News h₀ L h news) (hb : But ch h h') (hch : ∀ a ∈ ch, ∃ o, (a, o) ∈ news) (hkeep : ∀ p ∈ keep, p ∈ news ∧ p.1 ∉ ch)
    (hn : ∀ x ∈ new, h'.get? x.1 = some x.2 ∧ h.get? x.1 = none) : Fr h₀ L h' m ∧ News h₀ L h' (new ++ keep) ∧ ∀ x ∈ new, ∀ p ∈ news, @Ne Nat p.1 x.1 := by
  refine ⟨after_fr ch F N hb fun a ha => ?_, fun p hp => ?_, fun x hx p hp q => ?_⟩
  · obtain ⟨o, ho⟩ := hch a ha
    exact (N _ ho).2
  · rcases List.mem_append.mp hp with hp | hp
    · obtain ⟨e1, e2⟩ := hn p hp
      exact ⟨e1, fr_ne F e2, (show Sub h₀ h from F.keep).none e2⟩
    · obtain ⟨e1, e2⟩ := hkeep p hp
      exact ⟨hb _ _ e2 (N p e1).1, (N p e1).2⟩
  · have e := (N p hp).1
    rw [q, (hn x hx).2] at e
    cases e
theorem mem_rot {α : Type} {a b c : List α} {x : α} (h : x ∈ a ++ (b ++ c)) : x ∈ (a ++ c) ++ b := by
  rcases List.mem_append.mp h with h | h
  · exact List.mem_append_left _ (List.mem_append_left _ h)
  · rcases List.mem_append.mp h with h | h
    · exact List.mem_append_right _ h
    · exact List.mem_append_left _ (List.mem_append_right _ h)
end
end Mine
end
section
open PySem PySem.W PyProof.Rows PySem.Calls
set_option linter.unusedVariables false
namespace Mine
theorem digs_und (n : Nat) : ∀ xs : List Nat, (∀ x ∈ xs, x < 2 ^ n) → digs n xs.length (und n xs) = xs.map Int.ofNat
  | [], _ => rfl
  | x :: xs, h => by
    have h1 := h x (.head _)
    have ih := digs_und n xs fun y hy => h y (.tail _ hy)
    have e : (x :: xs).length = 1 + xs.length := by rw [List.length_cons]; omega
    have e1 : und n (x :: xs) % 2 ^ (n * 1) = x := by
      rw [Nat.mul_one, und, Nat.add_mul_mod_self_left, Nat.mod_eq_of_lt h1]
    have e2 : und n (x :: xs) / 2 ^ (n * 1) = und n xs := by
      rw [Nat.mul_one, und, Nat.add_mul_div_left _ _ (Nat.two_pow_pos _), Nat.div_eq_of_lt h1, Nat.zero_add]
    rw [e, digs_split, e1, e2, ih, digs_one h1]
    rfl
theorem nd_und {n : Nat} (hn : 0 < n) {xs : List Nat} {y : Nat} (h : ∀ x ∈ xs ++ [y], x < 2 ^ n) (hy : 1 ≤ y) : nd n (und n (xs ++ [y])) = xs.length + 1 := by
  have h1 := und_lt n (xs ++ [y]) h
  have h2 : 2 ^ (n * xs.length) ≤ und n (xs ++ [y]) := by
    rw [und_append]
    have : 2 ^ (n * xs.length) * 1 ≤ 2 ^ (n * xs.length) * und n [y] := Nat.mul_le_mul_left _ (by simp [und]; omega)
    omega
  rw [List.length_append, List.length_singleton] at h1
  have b1 : Builtin.Int.intBits ((und n (xs ++ [y]) : Nat) : Int) ≤ n * (xs.length + 1) := intBits_le_iff.mpr (by simpa using h1)
  have b2 : ¬ Builtin.Int.intBits ((und n (xs ++ [y]) : Nat) : Int) ≤ n * xs.length := fun q => by
    have := intBits_le_iff.mp q
    rw [Int.natAbs_natCast] at this
    omega
  unfold nd
  generalize Builtin.Int.intBits ((und n (xs ++ [y]) : Nat) : Int) = B at *
  rw [Nat.mul_add, Nat.mul_one] at b1
  have e1 : (xs.length + 1) * n = n * xs.length + n := by rw [Nat.add_mul, Nat.one_mul, Nat.mul_comm]
  have e2 : (xs.length + 1 + 1) * n = n * xs.length + n + n := by rw [Nat.add_mul, Nat.one_mul, e1]
  refine Nat.div_eq_of_lt_le ?_ ?_
  · rw [e1]; omega
  · rw [e2]; omega
theorem tell_cons (n c : Nat) (cs : List Nat) (a : Int) (hn : cs.length = n + 1) : tell (n + 1) (c :: cs) a 1 = (c : Int) * a ^ (n + 1) + tell n cs a 1 := by
  unfold tell
  rw [List.range_succ_eq_map, List.map_cons, List.sum_cons, List.map_map]
  congr 1
  · simp
  · refine congrArg List.sum (List.map_congr_left fun k hk => ?_)
    have := List.mem_range.mp hk
    have e : n + 1 - (k + 1) = n - k := by omega
    simp [e, Int.one_pow]
theorem und_tell (w : Nat) : ∀ (n : Nat) (cs : List Nat), cs.length = n + 1 → ((und w cs.reverse : Nat) : Int) = tell n cs ((2 ^ w : Nat) : Int) 1
  | 0, [c], _ => by simp [und, tell]
  | n + 1, c :: cs, h => by
    have hl : cs.length = n + 1 := by simpa using h
    rw [List.reverse_cons, und_append, Int.natCast_add, und_tell w n cs hl, tell_cons n c cs _ hl, List.length_reverse, hl]
    have e : und w [c] = c := by simp [und]
    rw [e, Int.natCast_mul, Nat.pow_mul, Int.natCast_pow ((2 : Nat) ^ w), Int.mul_comm (c : Int), Int.add_comm]
theorem wt_filter (w : List Nat) : (w.filter fun a => !decide (a = 0)).length = wt w := by
  induction w with
  | nil => rfl
  | cons a w ih =>
    rw [wt_cons, ← ih]
    by_cases h : a = 0
    · simp [h]
    · simp [h]; omega
end Mine
end
section
open PySem PySem.W PyProof.Rows PySem.Calls
set_option linter.unusedVariables false
namespace Mine
theorem put_tell {cs : List Nat} {n q big : Nat} (h : cs.length = n + 1) : ((rangeKs 0 (n + 1)).map fun k => putAt cs q big k).sum = tell n cs ((big : Int) + (q : Int) - 1) ((big : Int) - 1) := by
  unfold rangeKs tell
  rw [List.map_map]
  refine congrArg List.sum (List.map_congr_left fun k hk => ?_)
  have hk := List.mem_range.mp hk
  show putAt cs q big (0 + (k : Int)) = _
  unfold putAt
  rw [Int.zero_add, Int.toNat_natCast, getD_map, List.length_map, h]
  have e : (((n + 1 : Nat) : Int) - 1 - (k : Int)).toNat = n - k := by omega
  rw [e, Int.mul_assoc]
theorem there_math {q n wd : Nat} (hq : q = 2 ∨ q = 3) {rows : List (List Nat)} (hr : ∀ r ∈ rows, r.length = n) :
    ((rangeKs 0 (n + 1)).map fun k => putAt (countsOf n (codeOf q n rows)) q (2 ^ wd) k).sum = ((q ^ rows.length * und wd (sqFold q n rows (q ^ n)).reverse : Nat) : Int) := by
  rw [put_tell (countsOf_length _ _), mac_there hq _ rows hr, Int.natCast_mul, und_tell wd n _ (sqFold_length _ _ _ _), Int.natCast_pow q]
theorem back_math {q n wd : Nat} (hq : q = 2 ∨ q = 3) {rows : List (List Nat)} (hr : ∀ r ∈ rows, r.length = n) :
    ((rangeKs 0 (n + 1)).map fun k => putAt (sqFold q n rows (q ^ n)) q (2 ^ wd) k).sum * (q : Int) ^ rows.length = ((q ^ n * und wd (countsOf n (codeOf q n rows)).reverse : Nat) : Int) := by
  rw [put_tell (sqFold_length _ _ _ _), mac_back hq _ rows hr, Int.natCast_mul, und_tell wd n _ (countsOf_length _ _), Int.natCast_pow q]
theorem qn_lt {q n : Nat} (hq : q = 2 ∨ q = 3) (h : n + q ≤ 7) : q ^ n < 100 := by
  rcases hq with rfl | rfl
  · exact Nat.lt_of_le_of_lt (Nat.pow_le_pow_right (by decide) (show n ≤ 5 by omega)) (by decide)
  · exact Nat.lt_of_le_of_lt (Nat.pow_le_pow_right (by decide) (show n ≤ 4 by omega)) (by decide)
theorem sq_fig {q n wd : Nat} (hq : q = 2 ∨ q = 3) (h : n + q ≤ 7) (hw : 7 ≤ wd) (rows : List (List Nat)) : ∀ x ∈ sqFold q n rows (q ^ n), x < 2 ^ wd := by
  intro x hx
  obtain ⟨k, hk⟩ := List.getElem?_of_mem hx
  have h1 := sq_le q n rows (q ^ n) k
  rw [List.getD_eq_getElem?_getD, hk] at h1
  have h2 := qn_lt hq h
  have h3 : 2 ^ 7 ≤ 2 ^ wd := Nat.pow_le_pow_right (by decide) hw
  have h1 : x ≤ q ^ n := h1
  omega
theorem sq_digs {q n wd : Nat} (hq : q = 2 ∨ q = 3) (h : n + q ≤ 7) (hw : 7 ≤ wd) (rows : List (List Nat)) :
    digs wd (nd wd (und wd (sqFold q n rows (q ^ n)).reverse)) (und wd (sqFold q n rows (q ^ n)).reverse) = (sqFold q n rows (q ^ n)).reverse.map Int.ofNat := by
  have hf := sq_fig hq h hw rows
  have hp : 0 < q ^ n := Nat.pow_pos (by omega)
  obtain ⟨N, hN⟩ : ∃ N, q ^ n = N + 1 := ⟨q ^ n - 1, by omega⟩
  have ht := sq_top q n rows N
  rw [← hN] at ht
  have hl := sqFold_length q n rows (q ^ n)
  generalize sqFold q n rows (q ^ n) = sq at *
  cases sq with
  | nil => cases hl
  | cons c cs =>
    have ht : 1 ≤ c := ht
    have hf' : ∀ x ∈ (c :: cs).reverse, x < 2 ^ wd := fun x hx => hf x (List.mem_reverse.mp hx)
    rw [List.reverse_cons] at hf' ⊢
    rw [nd_und (by omega) hf' ht]
    have := digs_und wd (cs.reverse ++ [c]) hf'
    rw [List.length_append, List.length_singleton] at this
    exact this
theorem und_pos {q n wd : Nat} (hq : q = 2 ∨ q = 3) (rows : List (List Nat)) : 0 < und wd (sqFold q n rows (q ^ n)).reverse := by
  have hp : 0 < q ^ n := Nat.pow_pos (by omega)
  obtain ⟨N, hN⟩ : ∃ N, q ^ n = N + 1 := ⟨q ^ n - 1, by omega⟩
  have ht := sq_top q n rows N
  rw [← hN] at ht
  generalize sqFold q n rows (q ^ n) = sq at *
  cases sq with
  | nil => cases ht
  | cons c cs =>
    have ht : 1 ≤ c := ht
    rw [List.reverse_cons, und_append]
    have : 0 < 2 ^ (wd * cs.reverse.length) * und wd [c] := Nat.mul_pos (Nat.two_pow_pos _) (by simp [und]; omega)
    omega
theorem cnt_fig {q n wd : Nat} (hw : 7 ≤ wd) (rows : List (List Nat)) (h : q ^ rows.length ≤ 9) : ∀ x ∈ countsOf n (codeOf q n rows), x ≤ 9 ∧ x < 2 ^ wd := by
  intro x hx
  obtain ⟨k, _, rfl⟩ := List.mem_map.mp hx
  have h1 : ((codeOf q n rows).map wt).count k ≤ _ := List.count_le_length
  rw [List.length_map, codeOf, foldl_spread_length, List.length_singleton, Nat.one_mul] at h1
  have h3 : 2 ^ 7 ≤ 2 ^ wd := Nat.pow_le_pow_right (by decide) hw
  unfold codeOf
  omega
theorem und_bits {n wd : Nat} {xs : List Nat} (hl : xs.length = n + 1) (hn : n ≤ 5) (hw : wd ≤ 16) (h : ∀ x ∈ xs, x < 2 ^ wd) {c : Nat} (hc : c < 100) : Builtin.Int.intBits ((c * und wd xs : Nat) : Int) < 110 := by
  have h1 := und_lt wd xs h
  have h2 : 2 ^ (wd * xs.length) ≤ 2 ^ 96 := by
    rw [hl]
    exact Nat.pow_le_pow_right (by decide) (Nat.mul_le_mul hw (show n + 1 ≤ 6 by omega))
  have h3 : c * und wd xs ≤ 100 * 2 ^ 96 := Nat.mul_le_mul (by omega) (by omega)
  refine Nat.lt_of_le_of_lt (intBits_le_iff (m := 109).mpr ?_) (by decide)
  rw [Int.natAbs_natCast]
  exact Nat.lt_of_le_of_lt h3 (by decide)
theorem neg_div {b U : Nat} (hb : 0 < b) (hU : 0 < U) : -(((b * U - 1) / b : Nat) : Int) - 1 = -(U : Int) ∧ (b : Int) - 1 - (((b * U - 1) % b : Nat) : Int) = 0 := by
  obtain ⟨V, rfl⟩ : ∃ V, U = V + 1 := ⟨U - 1, by omega⟩
  have e : b * (V + 1) - 1 = (b - 1) + b * V := by rw [Nat.mul_add, Nat.mul_one]; omega
  rw [e, Nat.add_mul_div_left _ _ hb, Nat.add_mul_mod_self_left, Nat.div_eq_of_lt (by omega), Nat.mod_eq_of_lt (by omega)]
  omega
end Mine
end
section
open PySem PySem.W PyProof.Rows PySem.Calls
set_option linter.unusedVariables false
namespace Mine
theorem Lists.tail {seg : List (Addr × Obj)} {y : Value} {ys : List Value} {r : List Nat} {rows : List (List Nat)} (h : Lists seg (y :: ys) (r :: rows)) : Lists seg ys rows :=
  ⟨by simpa using h.1, fun i r' hr => h.2 (i + 1) r' (by simpa using hr)⟩
noncomputable def datOf (rows : List (List Nat)) : List PyData := rows.map fun r => PyData.list ((r.map Int.ofNat).map PyData.int)
theorem Lists.reads {seg : List (Addr × Obj)} {h : Heap} (hs : ∀ x ∈ seg, h.get? x.1 = some x.2) : ∀ {rows : List (List Nat)} {ys : List Value}, Lists seg ys rows → ∃ as, PySem.ReadsAll h ys (datOf rows) as
  | [], [], _ => ⟨_, .nil⟩
  | [], _ :: _, l => by cases l.1
  | _ :: _, [], l => by cases l.1
  | r :: rows, y :: ys, l => by
    obtain ⟨as, ih⟩ := Lists.reads hs l.tail
    obtain ⟨a, vs, ep, e1, e2, e3⟩ := l.2 0 r rfl
    simp only [List.getElem?_cons_zero, Option.some.injEq] at e1
    subst e1
    exact ⟨_, .cons (reads_newData ⟨_, hs _ e2, rfl, _, rfl⟩ (ke_carried e3)) ih⟩
theorem datOf_lay : ∀ rows : List (List Nat), PyData.canLayAll0 (datOf rows) = true
  | [] => rfl
  | r :: rows => by
    rw [datOf, List.map_cons, ← datOf, PyData.canLayAll0, datOf_lay rows, PyData.canLay0, ke_canLayAll0]; rfl
theorem datOf_depth : ∀ rows : List (List Nat), PyData.depthAll (datOf rows) ≤ 1
  | [] => Nat.zero_le _
  | r :: rows => by
    rw [datOf, List.map_cons, ← datOf, PyData.depthAll, PyData.depth, ke_depthAll]
    have := datOf_depth rows
    omega
theorem datOf_shaped (rows : List (List Nat)) : SeqAt.shaped (.list (datOf rows)) = true := by
  have := datOf_depth rows
  unfold SeqAt.shaped
  rw [PyData.canLay0, datOf_lay, PyData.depth, Bool.true_and, decide_eq_true_eq]
  omega
theorem datOf_eqv : ∀ rows : List (List Nat), PyData.eqvAll (datOf rows) (datOf rows) = true
  | [] => by rw [datOf, List.map_nil, PyData.eqvAll]
  | r :: rows => by
    rw [datOf, List.map_cons, ← datOf, PyData.eqvAll, datOf_eqv rows, PyData.eqv, ked_eqvAll]
    simp
/-- two lists of the same lists of ints -/
theorem ne_lists {prog : Program} {w : World} {A : Around} {E : Value → Shared → Prop} {s : Shared} {D1 D2 : Addr} {ys ys2 : List Value} {seg seg2 : List (Addr × Obj)} {rows : List (List Nat)} {Q : Value → Shared → Prop}
    (h1 : s.heap.IsList D1 ys.toArray) (h2 : s.heap.IsList D2 ys2.toArray) (l1 : Lists seg ys rows) (l2 : Lists seg2 ys2 rows) (s1 : ∀ x ∈ seg, s.heap.get? x.1 = some x.2) (s2 : ∀ x ∈ seg2, s.heap.get? x.1 = some x.2)
    (hu : A.units + 64 < cLine) (h : Q (.bool false) s) : wpAny (model prog w) A (compareOp .NotEq (.ref D1) (.ref D2)) Q E s := by
  obtain ⟨o1, e1, c1, n1, d1⟩ := h1
  obtain ⟨o2, e2, c2, n2, d2⟩ := h2
  obtain ⟨as, r1⟩ := l1.reads s1
  obtain ⟨bs, r2⟩ := l2.reads s2
  refine ne_dataH (reads_list_at e1 c1 d1 r1) (reads_list_at e2 c2 d2 r2) (datOf_shaped rows) (datOf_shaped rows) hu ?_
  rw [PyData.eqv, datOf_eqv]
  exact h
theorem Lists.rowsAt {seg : List (Addr × Obj)} {h : Heap} (hs : ∀ x ∈ seg, h.get? x.1 = some x.2) {rows : List (List Nat)} {ys : List Value} (l : Lists seg ys rows) : RowsAt h ys rows :=
  ⟨l.1, fun i r hr => by
    obtain ⟨a, vs, ep, e1, e2, e3⟩ := l.2 i r hr
    exact ⟨a, vs, e1, ⟨_, hs _ e2, rfl, _, rfl⟩, e3⟩⟩
end Mine
end
section
open PySem PySem.W PyProof.Rows PySem.Calls
set_option linter.unusedVariables false
namespace Mine
/-- many new objects at once, objects of ours changed -/
theorem add_chg {h₀ h h' : Heap} {L : Addr} {m : Str → Option Value} {news keep new chg : List (Addr × Obj)} (F : Fr h₀ L h m) (N : News h₀ L h news) (hb : But (chg.map (·.1)) h h') (hchg : ∀ x ∈ chg, (∃ o, (x.1, o) ∈ news) ∧ h'.get? x.1 = some x.2) (hkeep : ∀ p ∈ keep, p ∈ news ∧ p.1 ∉ chg.map (·.1))
    (hn : ∀ x ∈ new, h'.get? x.1 = some x.2 ∧ h.get? x.1 = none) : Fr h₀ L h' m ∧ News h₀ L h' (chg ++ (new ++ keep)) ∧ ∀ x ∈ new, ∀ p ∈ news, @Ne Nat p.1 x.1 := by
  obtain ⟨F', N', hne⟩ := add_new (chg.map (·.1)) F N hb (fun a ha => by
    obtain ⟨x, hx, rfl⟩ := List.mem_map.mp ha
    exact (hchg x hx).1) hkeep hn
  refine ⟨F', fun p hp => ?_, hne⟩
  rcases List.mem_append.mp hp with hp | hp
  · obtain ⟨⟨o, ho⟩, e⟩ := hchg p hp
    exact ⟨e, (N _ ho).2⟩
  · exact N' p hp
theorem mem_front {α : Type} {a b c : List α} {x : α} (h : x ∈ a ++ (b ++ c)) : x ∈ b ++ (a ++ c) := by
  rcases List.mem_append.mp h with h | h
  · exact List.mem_append_right _ (List.mem_append_left _ h)
  · rcases List.mem_append.mp h with h | h
    · exact List.mem_append_left _ h
    · exact List.mem_append_right _ (List.mem_append_right _ h)
theorem Lists.len {seg : List (Addr × Obj)} {ys : List Value} {rows : List (List Nat)} (h : Lists seg ys rows) : ys.toArray.size = rows.length := by rw [List.size_toArray]; exact h.1
theorem objs_nocode {cs : List Nat} (P : LexP (S cs)) {p : Nat} {tp : Tok} {ea : Nat} {line : Int} {tl : Tok} {pv : List Value} {ep : Nat} : ∀ x ∈ P.objs p tp ea line tl pv ep, ¬ isCode x.2 := by
  intro x hx
  simp only [LexP.objs, List.mem_cons, List.not_mem_nil, or_false] at hx
  rcases hx with rfl | rfl | rfl | rfl | rfl | rfl | rfl | rfl | rfl <;> rintro ⟨vs, q, t, e, _⟩
  · cases e
  · cases e
  · cases e
  · cases e
  · cases e
  · cases e
  · cases e
  · have := P.d1; rw [this] at e; cases e
  · have := P.d2; rw [this] at e; cases e
theorem line_led {h₀ h h' : Heap} {L : Addr} {m : Str → Option Value} {cs : List Nat} (P : LexP (S cs)) {tp tl tp6 tl6 : Tok} {ea ep4 p6 ep6 : Nat} {line6 : Int} {Lc D1 D2 r6 DR DW : Addr} {oF o1 o2 oc or oR oW : Obj} {ps4 : Array Value} {seg seg2 : List (Addr × Obj)}
   (F : Fr h₀ L h m) (N : News h₀ L h ((110, tabObj ps4) :: (P.c', oc) :: (P.objs 0 tp ea 1 tl [] ep4 ++ ((D1, o1) :: (D2, o2) :: (Lc, oF) :: (37, tabObj #[]) :: (30, tabObj #[]) :: seg))))
   (hne : ∀ x ∈ (P.c', oc) :: P.objs 0 tp ea 1 tl [] ep4, ∀ p ∈ (110, tabObj #[]) :: (D1, o1) :: (D2, o2) :: (Lc, oF) :: (37, tabObj #[]) :: (30, tabObj #[]) :: seg, @Ne Nat p.1 x.1)
   (hcode : isCode oc) (hb : But [P.AT, P.dx, P.pb] h h') (hobj : ∀ x ∈ P.objs p6 tp6 ea line6 tl6 [] ep6, h'.get? x.1 = some x.2)
   (hnew : ∀ x ∈ (r6, or) :: (DR, oR) :: (DW, oW) :: seg2, h'.get? x.1 = some x.2 ∧ h.get? x.1 = none)
   (hD : ∀ p ∈ (110, tabObj ps4) :: (D1, o1) :: seg, @Ne Nat p.1 Lc ∧ @Ne Nat p.1 30 ∧ @Ne Nat p.1 37) :
   Fr h₀ L h' m ∧ News h₀ L h' ((r6, or) :: (Lc, oF) :: (30, tabObj #[]) :: (37, tabObj #[]) :: (P.objs p6 tp6 ea line6 tl6 [] ep6 ++ ((D1, o1) :: (DR, oR) :: (DW, oW) :: (P.c', oc) :: (110, tabObj ps4) :: (seg2 ++ seg)))) ∧
   (∀ a ∈ P.addrs, @Ne Nat a Lc ∧ @Ne Nat a 30 ∧ @Ne Nat a 37) ∧
   (∀ p ∈ (D1, o1) :: (DR, oR) :: (DW, oW) :: (P.c', oc) :: (110, tabObj ps4) :: (seg2 ++ seg), (@Ne Nat p.1 Lc ∧ @Ne Nat p.1 30 ∧ @Ne Nat p.1 37) ∧ p.1 ∉ P.addrs) := by
  obtain ⟨lt1, lt2, lt3, lt4, lt5, lt6, lt7, lt8⟩ := P.lt
  have hO : ∀ a ∈ P.addrs, ∀ p ∈ (110, tabObj #[]) :: (D1, o1) :: (D2, o2) :: (Lc, oF) :: (37, tabObj #[]) :: (30, tabObj #[]) :: seg, @Ne Nat p.1 a := fun a ha p hp => by
    obtain ⟨o, ho⟩ := addr_obj P (p := 0) (tp := tp) (ea := ea) (line := 1) (tl := tl) (pv := []) (ep := ep4) ha
    exact hne (a, o) (.tail _ ho) p hp
  have hcN := N (P.c', oc) (.tail _ (.head _))
  have hcO : ∀ a ∈ P.addrs, @Ne Nat P.c' a := fun a ha => by
    obtain ⟨o, ho⟩ := addr_obj P (p := 0) (tp := tp) (ea := ea) (line := 1) (tl := tl) (pv := []) (ep := ep4) ha
    exact code_ne hcN.1 hcode (N (a, o) (.tail _ (.tail _ (List.mem_append_left _ ho)))).1 (objs_nocode P _ ho)
  have hin : ∀ a ∈ [P.AT, P.dx, P.pb], a ∈ P.addrs := fun a ha => by
    simp only [List.mem_cons, List.not_mem_nil, or_false] at ha
    rcases ha with rfl | rfl | rfl <;> simp [LexP.addrs]
  have hobjN : ∀ x ∈ P.objs 0 tp ea 1 tl [] ep4, h.get? x.1 = some x.2 ∧ x.1 ≠ L ∧ h₀.get? x.1 = none := fun x hx => N x (.tail _ (.tail _ (List.mem_append_left _ hx)))
  have hadr : ∀ a ∈ P.addrs, a ≠ L ∧ h₀.get? a = none := fun a ha => by
    obtain ⟨o, ho⟩ := addr_obj P (p := 0) (tp := tp) (ea := ea) (line := 1) (tl := tl) (pv := []) (ep := ep4) ha
    exact (hobjN _ ho).2
  have F' : Fr h₀ L h' m := after_fr [P.AT, P.dx, P.pb] F N hb fun a ha => hadr a (hin a ha)
  have old : ∀ p, p ∈ (D1, o1) :: (D2, o2) :: (Lc, oF) :: (37, tabObj #[]) :: (30, tabObj #[]) :: seg → h'.get? p.1 = some p.2 ∧ p.1 ≠ L ∧ h₀.get? p.1 = none := fun p hp => by
    have n := N p (.tail _ (.tail _ (List.mem_append_right _ hp)))
    exact ⟨hb _ _ (fun q => hO p.1 (hin _ q) p (.tail _ hp) rfl) n.1, n.2⟩
  have new : ∀ x ∈ (r6, or) :: (DR, oR) :: (DW, oW) :: seg2, h'.get? x.1 = some x.2 ∧ x.1 ≠ L ∧ h₀.get? x.1 = none := fun x hx =>
    ⟨(hnew x hx).1, fr_ne F (hnew x hx).2, (show Sub h₀ h from F.keep).none (hnew x hx).2⟩
  have newne : ∀ x ∈ (r6, or) :: (DR, oR) :: (DW, oW) :: seg2, ∀ p ∈ (110, tabObj ps4) :: (P.c', oc) :: (P.objs 0 tp ea 1 tl [] ep4 ++ ((D1, o1) :: (D2, o2) :: (Lc, oF) :: (37, tabObj #[]) :: (30, tabObj #[]) :: seg)), @Ne Nat p.1 x.1 := fun x hx p hp q => by
    have e := (N p hp).1
    rw [q, (hnew x hx).2] at e
    cases e
  have newD : ∀ x ∈ (r6, or) :: (DR, oR) :: (DW, oW) :: seg2, (@Ne Nat x.1 Lc ∧ @Ne Nat x.1 30 ∧ @Ne Nat x.1 37) ∧ x.1 ∉ P.addrs := fun x hx =>
    ⟨⟨fun z => newne x hx (Lc, oF) (.tail _ (.tail _ (List.mem_append_right _ (.tail _ (.tail _ (.head _)))))) z.symm,
      fun z => newne x hx (30, tabObj #[]) (.tail _ (.tail _ (List.mem_append_right _ (.tail _ (.tail _ (.tail _ (.tail _ (.head _)))))))) z.symm,
      fun z => newne x hx (37, tabObj #[]) (.tail _ (.tail _ (List.mem_append_right _ (.tail _ (.tail _ (.tail _ (.head _))))))) z.symm⟩, fun hin => by
      obtain ⟨o, ho⟩ := addr_obj P (p := 0) (tp := tp) (ea := ea) (line := 1) (tl := tl) (pv := []) (ep := ep4) hin
      exact newne x hx (x.1, o) (.tail _ (.tail _ (List.mem_append_left _ ho))) rfl⟩
  have oldD : ∀ p ∈ (110, tabObj ps4) :: (D1, o1) :: seg, p.1 ∉ P.addrs := fun p hp hin => by
    rcases List.mem_cons.mp hp with rfl | hp
    · exact hO _ hin (110, tabObj #[]) (.head _) rfl
    rcases List.mem_cons.mp hp with rfl | hp
    · exact hO _ hin (D1, o1) (.tail _ (.head _)) rfl
    · exact hO _ hin p (.tail _ (.tail _ (.tail _ (.tail _ (.tail _ (.tail _ hp)))))) rfl
  refine ⟨F', ?_, fun a ha => ⟨fun z => hO a ha (Lc, oF) (.tail _ (.tail _ (.tail _ (.head _)))) z.symm, fun z => hO a ha (30, tabObj #[]) (.tail _ (.tail _ (.tail _ (.tail _ (.tail _ (.head _)))))) z.symm, fun z => hO a ha (37, tabObj #[]) (.tail _ (.tail _ (.tail _ (.tail _ (.head _))))) z.symm⟩, ?_⟩
  · intro p hp
    rcases List.mem_cons.mp hp with rfl | hp
    · exact new _ (.head _)
    rcases List.mem_cons.mp hp with rfl | hp
    · exact old _ (.tail _ (.tail _ (.head _)))
    rcases List.mem_cons.mp hp with rfl | hp
    · exact old _ (.tail _ (.tail _ (.tail _ (.tail _ (.head _)))))
    rcases List.mem_cons.mp hp with rfl | hp
    · exact old _ (.tail _ (.tail _ (.tail _ (.head _))))
    rcases List.mem_append.mp hp with hp | hp
    · exact ⟨hobj p hp, hadr _ (P.objs_addr hp)⟩
    rcases List.mem_cons.mp hp with rfl | hp
    · exact old _ (.head _)
    rcases List.mem_cons.mp hp with rfl | hp
    · exact new _ (.tail _ (.head _))
    rcases List.mem_cons.mp hp with rfl | hp
    · exact new _ (.tail _ (.tail _ (.head _)))
    rcases List.mem_cons.mp hp with rfl | hp
    · exact ⟨hb _ _ (fun q => hcO _ (hin _ q) rfl) hcN.1, hcN.2⟩
    rcases List.mem_cons.mp hp with rfl | hp
    · have n := N (110, tabObj ps4) (.head _)
      exact ⟨hb _ _ (fun q => oldD _ (.head _) (hin _ q)) n.1, n.2⟩
    rcases List.mem_append.mp hp with hp | hp
    · exact new _ (.tail _ (.tail _ (.tail _ hp)))
    · exact old _ (.tail _ (.tail _ (.tail _ (.tail _ (.tail _ hp)))))
  · intro p hp
    rcases List.mem_cons.mp hp with rfl | hp
    · exact ⟨hD _ (.tail _ (.head _)), oldD _ (.tail _ (.head _))⟩
    rcases List.mem_cons.mp hp with rfl | hp
    · exact newD _ (.tail _ (.head _))
    rcases List.mem_cons.mp hp with rfl | hp
    · exact newD _ (.tail _ (.tail _ (.head _)))
    rcases List.mem_cons.mp hp with rfl | hp
    · refine ⟨⟨fun z => hne (P.c', oc) (.head _) (Lc, oF) (.tail _ (.tail _ (.tail _ (.head _)))) z.symm, fun z => hne (P.c', oc) (.head _) (30, tabObj #[]) (.tail _ (.tail _ (.tail _ (.tail _ (.tail _ (.head _)))))) z.symm, fun z => hne (P.c', oc) (.head _) (37, tabObj #[]) (.tail _ (.tail _ (.tail _ (.tail _ (.head _))))) z.symm⟩, fun hin => hcO _ hin rfl⟩
    rcases List.mem_cons.mp hp with rfl | hp
    · exact ⟨hD _ (.head _), oldD _ (.head _)⟩
    rcases List.mem_append.mp hp with hp | hp
    · exact newD _ (.tail _ (.tail _ (.tail _ hp)))
    · exact ⟨hD _ (.tail _ (.tail _ hp)), oldD _ (.tail _ (.tail _ hp))⟩
end Mine
end
section
open PySem PySem.W PyProof.Rows PySem.Calls
set_option maxRecDepth 100000
set_option maxHeartbeats 8000000
set_option linter.unusedVariables false
set_option linter.unusedSimpArgs false
namespace Mine
theorem fill_TAx : ∀ (w : World) (h : Heap), (hd.heap_1 w.params).In h → PySem.Challenge.rw_qu0050_01.foot = 8 := by
  k_fill; intros; rfl
section
theorem nameEE_K {M : Model} {A : Around} {E : Value → Shared → Prop} {s : Shared} {K : Frag} {h₀ : Heap} {L : Addr} {m mg mb : Str → Option Value} {p : Program} {loose : List Str} {x : Str} {pos : Pos} {v : Value} {Q : Value → Shared → Prop} {scope scope2 : Scope} {cl cl2 cl₀ : List (Str × Addr)} {C C2 a : Addr} {cn : Str} {cs : Scope} {ccd : Value} {L₀ : Addr}
    (F : Fr h₀ L s.heap m) (X : K.In h₀) (T : TopRead p loose mg mb h₀) (e : nsIn K mainGlobals x = some (some v)) (h : Q v s)
    (hk : scope.kind = .function := by rfl) (hx : (compEnvC scope cl C (compEnvC scope2 cl2 C2 (envX cn cs L₀ a ccd cl₀))).kindOf x = some .globalImplicit := by rfl) (hd : (x == ("__debug__" : Str)) = false := by decide) :
    wpAny M A (eval (.Name x pos) (compEnvC scope cl C (compEnvC scope2 cl2 C2 (envX cn cs L₀ a ccd cl₀)))) Q E s :=
  Name_function_global (by simp [compEnvC, relabel, hk]) hx (loadGlobal_global (env := compEnvC scope cl C (compEnvC scope2 cl2 C2 (envX cn cs L₀ a ccd cl₀))) (T.g.keeps F.keep) (mg_of X T.g e) h) hd
noncomputable def p4 : { t : Arguments × List Stmt × Scope × Pos // topDef 70 = some t } := ⟨(_, _, _, _), rfl⟩
noncomputable abbrev lawEnv (L f : Addr) (cdv : Value) : Env := envOfC (Str.ofString "law") p4.1.2.2.1 L f cdv
structure Num (q n wd : Nat) (rows : List (List Nat)) : Prop where
  hq : q = 2 ∨ q = 3
  hn3 : 3 ≤ n
  hn5 : n ≤ 5
  hnq7 : n + q ≤ 7
  hwd7 : 7 ≤ wd
  hwd16 : wd ≤ 16
  hrl : ∀ r ∈ rows, r.length = n ∧ ∀ x ∈ r, x < q
  hm3 : rows.length ≤ 3
  hqm : q ^ rows.length ≤ 9
namespace TAc
noncomputable def P0 (cs : List Nat) (P : LexP (S cs)) (w : World) (loose : List Str) (mean : ExcName → Option Value) (mg : Str → Option Value) (mb : Str → Option Value) (prog : Program) (dep : Nat) (fra : Option (List Env)) (gua : Option (List Code)) (uni : Nat) (hp0 : Heap) (gn : Array GenState) (dr : Drawn) (tk0 : Nat) (os0 : OsState) (Q : Flow → Shared → Prop) (E : Value → Shared → Prop) (h₀ : Heap) (L : Addr) (f : Addr) (cdv : Value) (m₀ : Str → Option Value) (q : Nat) (n : Nat) (wd : Nat) (rows : List (List Nat)) (tq : Tok) (tn : Tok) (tw : Tok) (tt : Tok) (D1 : Addr) (D2 : Addr) (DR : Addr) (DW : Addr) (ys : List Value) (ysR : List Value) (ysW : List Value) (e1 : Nat) (oF : Obj) (R : List (Addr × Obj)) : Prop :=
  ∀ (G : Gd w loose mean mg mb h₀) (hA : dep ≤ 400) (hu : uni ≤ 2000) (K : Num q n wd rows) (F : Fr h₀ L hp0 (upd [(Str.ofString "words", some (.ref DW)), (Str.ofString "read", some (.ref DR)), (Str.ofString "lexer", some (.ref P.lx)), (Str.ofString "text", some (.str (S cs) tt)), (Str.ofString "marks", some (.ref D2)), (Str.ofString "rows", some (.ref D1)), (Str.ofString "width", some (.int ((wd : Nat) : Int) tw)), (Str.ofString "n", some (.int ((n : Nat) : Int) tn)), (Str.ofString "q", some (.int ((q : Nat) : Int) tq))] m₀)) (N : News h₀ L hp0 ((L + 1, oF) :: (D1, listOf ys.toArray e1) :: (DR, LCg.lst ysR) :: (DW, LCg.lst ysW) :: R)) (dF : ∃ u, oF.data = .cell u) (hR : ∀ x ∈ (D1, listOf ys.toArray e1) :: (DR, LCg.lst ysR) :: (DW, LCg.lst ysW) :: R, @Ne Nat x.1 (L + 1)) (hLs : Lists R ys rows) (hLR : Lists R ysR rows) (hLW : Lists R ysW (codeOf q n rows)) (post : ∀ h' tk oF' DC vsC eC, Fr h₀ L h' (upd [(Str.ofString "counts", some (.ref DC)), (Str.ofString "words", some (.ref DW)), (Str.ofString "read", some (.ref DR)), (Str.ofString "lexer", some (.ref P.lx)), (Str.ofString "text", some (.str (S cs) tt)), (Str.ofString "marks", some (.ref D2)), (Str.ofString "rows", some (.ref D1)), (Str.ofString "width", some (.int ((wd : Nat) : Int) tw)), (Str.ofString "n", some (.int ((n : Nat) : Int) tn)), (Str.ofString "q", some (.int ((q : Nat) : Int) tq))] m₀) →
     News h₀ L h' ((DC, listOf (vsC : List Value).toArray eC) :: (L + 1, oF') :: (D1, listOf ys.toArray e1) :: R) → (∀ x ∈ (L + 1, oF') :: (D1, listOf ys.toArray e1) :: R, @Ne Nat x.1 DC) → IntsAre vsC ((countsOf n (codeOf q n rows)).map Int.ofNat) →
     wpAny (model prog w) ⟨none, dep, fra, gua, uni⟩ (execs (p4.1.2.1.drop 6) (lawEnv L f cdv)) Q E ⟨h', gn, dr, tk, os0⟩),
   wpAny (model prog w) ⟨none, dep, fra, gua, uni⟩ (execs (p4.1.2.1.drop 3) (lawEnv L f cdv)) Q E ⟨hp0, gn, dr, tk0, os0⟩
noncomputable abbrev Par : Type := (cs : List Nat) × ((LexP (S cs)) × (World) × (List Str) × (ExcName → Option Value) × (Str → Option Value) × (Str → Option Value) × (Program) × (Nat) × (Option (List Env)) × (Option (List Code)) × (Nat) × (Heap) × (Array GenState) × (Drawn) × (Nat) × (OsState) × (Flow → Shared → Prop) × (Value → Shared → Prop) × (Heap) × (Addr) × (Addr) × (Value) × (Str → Option Value) × (Nat) × (Nat) × (Nat) × (List (List Nat)) × (Tok) × (Tok) × (Tok) × (Tok) × (Addr) × (Addr) × (Addr) × (Addr) × (List Value) × (List Value) × (List Value) × (Nat) × (Obj) × (List (Addr × Obj)))
noncomputable def P1 (p : Par) : Prop := P0 p.1 p.2.1 p.2.2.1 p.2.2.2.1 p.2.2.2.2.1 p.2.2.2.2.2.1 p.2.2.2.2.2.2.1 p.2.2.2.2.2.2.2.1 p.2.2.2.2.2.2.2.2.1 p.2.2.2.2.2.2.2.2.2.1 p.2.2.2.2.2.2.2.2.2.2.1 p.2.2.2.2.2.2.2.2.2.2.2.1 p.2.2.2.2.2.2.2.2.2.2.2.2.1 p.2.2.2.2.2.2.2.2.2.2.2.2.2.1 p.2.2.2.2.2.2.2.2.2.2.2.2.2.2.1 p.2.2.2.2.2.2.2.2.2.2.2.2.2.2.2.1 p.2.2.2.2.2.2.2.2.2.2.2.2.2.2.2.2.1 p.2.2.2.2.2.2.2.2.2.2.2.2.2.2.2.2.2.1 p.2.2.2.2.2.2.2.2.2.2.2.2.2.2.2.2.2.2.1 p.2.2.2.2.2.2.2.2.2.2.2.2.2.2.2.2.2.2.2.1 p.2.2.2.2.2.2.2.2.2.2.2.2.2.2.2.2.2.2.2.2.1 p.2.2.2.2.2.2.2.2.2.2.2.2.2.2.2.2.2.2.2.2.2.1 p.2.2.2.2.2.2.2.2.2.2.2.2.2.2.2.2.2.2.2.2.2.2.1 p.2.2.2.2.2.2.2.2.2.2.2.2.2.2.2.2.2.2.2.2.2.2.2.1 p.2.2.2.2.2.2.2.2.2.2.2.2.2.2.2.2.2.2.2.2.2.2.2.2.1 p.2.2.2.2.2.2.2.2.2.2.2.2.2.2.2.2.2.2.2.2.2.2.2.2.2.1 p.2.2.2.2.2.2.2.2.2.2.2.2.2.2.2.2.2.2.2.2.2.2.2.2.2.2.1 p.2.2.2.2.2.2.2.2.2.2.2.2.2.2.2.2.2.2.2.2.2.2.2.2.2.2.2.1 p.2.2.2.2.2.2.2.2.2.2.2.2.2.2.2.2.2.2.2.2.2.2.2.2.2.2.2.2.1 p.2.2.2.2.2.2.2.2.2.2.2.2.2.2.2.2.2.2.2.2.2.2.2.2.2.2.2.2.2.1 p.2.2.2.2.2.2.2.2.2.2.2.2.2.2.2.2.2.2.2.2.2.2.2.2.2.2.2.2.2.2.1 p.2.2.2.2.2.2.2.2.2.2.2.2.2.2.2.2.2.2.2.2.2.2.2.2.2.2.2.2.2.2.2.1 p.2.2.2.2.2.2.2.2.2.2.2.2.2.2.2.2.2.2.2.2.2.2.2.2.2.2.2.2.2.2.2.2.1 p.2.2.2.2.2.2.2.2.2.2.2.2.2.2.2.2.2.2.2.2.2.2.2.2.2.2.2.2.2.2.2.2.2.1 p.2.2.2.2.2.2.2.2.2.2.2.2.2.2.2.2.2.2.2.2.2.2.2.2.2.2.2.2.2.2.2.2.2.2.1 p.2.2.2.2.2.2.2.2.2.2.2.2.2.2.2.2.2.2.2.2.2.2.2.2.2.2.2.2.2.2.2.2.2.2.2.1 p.2.2.2.2.2.2.2.2.2.2.2.2.2.2.2.2.2.2.2.2.2.2.2.2.2.2.2.2.2.2.2.2.2.2.2.2.1 p.2.2.2.2.2.2.2.2.2.2.2.2.2.2.2.2.2.2.2.2.2.2.2.2.2.2.2.2.2.2.2.2.2.2.2.2.2.1 p.2.2.2.2.2.2.2.2.2.2.2.2.2.2.2.2.2.2.2.2.2.2.2.2.2.2.2.2.2.2.2.2.2.2.2.2.2.2.1 p.2.2.2.2.2.2.2.2.2.2.2.2.2.2.2.2.2.2.2.2.2.2.2.2.2.2.2.2.2.2.2.2.2.2.2.2.2.2.2.1 p.2.2.2.2.2.2.2.2.2.2.2.2.2.2.2.2.2.2.2.2.2.2.2.2.2.2.2.2.2.2.2.2.2.2.2.2.2.2.2.2.1 p.2.2.2.2.2.2.2.2.2.2.2.2.2.2.2.2.2.2.2.2.2.2.2.2.2.2.2.2.2.2.2.2.2.2.2.2.2.2.2.2.2
theorem some_par : Nonempty Par := ⟨⟨[], lexP0, aWorld 1, [], fun _ => none, fun _ => none, fun _ => none, default, 0, none, none, 0, default, #[], (start (default : Program)).1.drawn, 0, (start (default : Program)).1.os, fun _ _ => True, fun _ _ => True, default, 0, 0, .none, fun _ => none, 0, 0, 0, [], 0, 0, 0, 0, 0, 0, 0, 0, [], [], [], 0, { cls := .none, data := .seq #[] }, []⟩⟩
@[irreducible] noncomputable def cc : Par := @Classical.epsilon Par some_par fun p => ¬ P1 p
@[irreducible] noncomputable def cs : List Nat := by with_unfolding_all exact cc.1
@[irreducible] noncomputable def P : LexP (S cs) := by with_unfolding_all exact cc.2.1
@[irreducible] noncomputable def w : World := by with_unfolding_all exact cc.2.2.1
@[irreducible] noncomputable def loose : List Str := by with_unfolding_all exact cc.2.2.2.1
@[irreducible] noncomputable def mean : ExcName → Option Value := by with_unfolding_all exact cc.2.2.2.2.1
@[irreducible] noncomputable def mg : Str → Option Value := by with_unfolding_all exact cc.2.2.2.2.2.1
@[irreducible] noncomputable def mb : Str → Option Value := by with_unfolding_all exact cc.2.2.2.2.2.2.1
@[irreducible] noncomputable def prog : Program := by with_unfolding_all exact cc.2.2.2.2.2.2.2.1
@[irreducible] noncomputable def dep : Nat := by with_unfolding_all exact cc.2.2.2.2.2.2.2.2.1
@[irreducible] noncomputable def fra : Option (List Env) := by with_unfolding_all exact cc.2.2.2.2.2.2.2.2.2.1
@[irreducible] noncomputable def gua : Option (List Code) := by with_unfolding_all exact cc.2.2.2.2.2.2.2.2.2.2.1
@[irreducible] noncomputable def uni : Nat := by with_unfolding_all exact cc.2.2.2.2.2.2.2.2.2.2.2.1
@[irreducible] noncomputable def hp0 : Heap := by with_unfolding_all exact cc.2.2.2.2.2.2.2.2.2.2.2.2.1
@[irreducible] noncomputable def gn : Array GenState := by with_unfolding_all exact cc.2.2.2.2.2.2.2.2.2.2.2.2.2.1
@[irreducible] noncomputable def dr : Drawn := by with_unfolding_all exact cc.2.2.2.2.2.2.2.2.2.2.2.2.2.2.1
@[irreducible] noncomputable def tk0 : Nat := by with_unfolding_all exact cc.2.2.2.2.2.2.2.2.2.2.2.2.2.2.2.1
@[irreducible] noncomputable def os0 : OsState := by with_unfolding_all exact cc.2.2.2.2.2.2.2.2.2.2.2.2.2.2.2.2.1
@[irreducible] noncomputable def Q : Flow → Shared → Prop := by with_unfolding_all exact cc.2.2.2.2.2.2.2.2.2.2.2.2.2.2.2.2.2.1
@[irreducible] noncomputable def E : Value → Shared → Prop := by with_unfolding_all exact cc.2.2.2.2.2.2.2.2.2.2.2.2.2.2.2.2.2.2.1
@[irreducible] noncomputable def h₀ : Heap := by with_unfolding_all exact cc.2.2.2.2.2.2.2.2.2.2.2.2.2.2.2.2.2.2.2.1
@[irreducible] noncomputable def L : Addr := by with_unfolding_all exact cc.2.2.2.2.2.2.2.2.2.2.2.2.2.2.2.2.2.2.2.2.1
@[irreducible] noncomputable def f : Addr := by with_unfolding_all exact cc.2.2.2.2.2.2.2.2.2.2.2.2.2.2.2.2.2.2.2.2.2.1
@[irreducible] noncomputable def cdv : Value := by with_unfolding_all exact cc.2.2.2.2.2.2.2.2.2.2.2.2.2.2.2.2.2.2.2.2.2.2.1
@[irreducible] noncomputable def m₀ : Str → Option Value := by with_unfolding_all exact cc.2.2.2.2.2.2.2.2.2.2.2.2.2.2.2.2.2.2.2.2.2.2.2.1
@[irreducible] noncomputable def q : Nat := by with_unfolding_all exact cc.2.2.2.2.2.2.2.2.2.2.2.2.2.2.2.2.2.2.2.2.2.2.2.2.1
@[irreducible] noncomputable def n : Nat := by with_unfolding_all exact cc.2.2.2.2.2.2.2.2.2.2.2.2.2.2.2.2.2.2.2.2.2.2.2.2.2.1
@[irreducible] noncomputable def wd : Nat := by with_unfolding_all exact cc.2.2.2.2.2.2.2.2.2.2.2.2.2.2.2.2.2.2.2.2.2.2.2.2.2.2.1
@[irreducible] noncomputable def rows : List (List Nat) := by with_unfolding_all exact cc.2.2.2.2.2.2.2.2.2.2.2.2.2.2.2.2.2.2.2.2.2.2.2.2.2.2.2.1
@[irreducible] noncomputable def tq : Tok := by with_unfolding_all exact cc.2.2.2.2.2.2.2.2.2.2.2.2.2.2.2.2.2.2.2.2.2.2.2.2.2.2.2.2.1
@[irreducible] noncomputable def tn : Tok := by with_unfolding_all exact cc.2.2.2.2.2.2.2.2.2.2.2.2.2.2.2.2.2.2.2.2.2.2.2.2.2.2.2.2.2.1
@[irreducible] noncomputable def tw : Tok := by with_unfolding_all exact cc.2.2.2.2.2.2.2.2.2.2.2.2.2.2.2.2.2.2.2.2.2.2.2.2.2.2.2.2.2.2.1
@[irreducible] noncomputable def tt : Tok := by with_unfolding_all exact cc.2.2.2.2.2.2.2.2.2.2.2.2.2.2.2.2.2.2.2.2.2.2.2.2.2.2.2.2.2.2.2.1
@[irreducible] noncomputable def D1 : Addr := by with_unfolding_all exact cc.2.2.2.2.2.2.2.2.2.2.2.2.2.2.2.2.2.2.2.2.2.2.2.2.2.2.2.2.2.2.2.2.1
@[irreducible] noncomputable def D2 : Addr := by with_unfolding_all exact cc.2.2.2.2.2.2.2.2.2.2.2.2.2.2.2.2.2.2.2.2.2.2.2.2.2.2.2.2.2.2.2.2.2.1
@[irreducible] noncomputable def DR : Addr := by with_unfolding_all exact cc.2.2.2.2.2.2.2.2.2.2.2.2.2.2.2.2.2.2.2.2.2.2.2.2.2.2.2.2.2.2.2.2.2.2.1
@[irreducible] noncomputable def DW : Addr := by with_unfolding_all exact cc.2.2.2.2.2.2.2.2.2.2.2.2.2.2.2.2.2.2.2.2.2.2.2.2.2.2.2.2.2.2.2.2.2.2.2.1
@[irreducible] noncomputable def ys : List Value := by with_unfolding_all exact cc.2.2.2.2.2.2.2.2.2.2.2.2.2.2.2.2.2.2.2.2.2.2.2.2.2.2.2.2.2.2.2.2.2.2.2.2.1
@[irreducible] noncomputable def ysR : List Value := by with_unfolding_all exact cc.2.2.2.2.2.2.2.2.2.2.2.2.2.2.2.2.2.2.2.2.2.2.2.2.2.2.2.2.2.2.2.2.2.2.2.2.2.1
@[irreducible] noncomputable def ysW : List Value := by with_unfolding_all exact cc.2.2.2.2.2.2.2.2.2.2.2.2.2.2.2.2.2.2.2.2.2.2.2.2.2.2.2.2.2.2.2.2.2.2.2.2.2.2.1
@[irreducible] noncomputable def e1 : Nat := by with_unfolding_all exact cc.2.2.2.2.2.2.2.2.2.2.2.2.2.2.2.2.2.2.2.2.2.2.2.2.2.2.2.2.2.2.2.2.2.2.2.2.2.2.2.1
@[irreducible] noncomputable def oF : Obj := by with_unfolding_all exact cc.2.2.2.2.2.2.2.2.2.2.2.2.2.2.2.2.2.2.2.2.2.2.2.2.2.2.2.2.2.2.2.2.2.2.2.2.2.2.2.2.1
@[irreducible] noncomputable def R : List (Addr × Obj) := by with_unfolding_all exact cc.2.2.2.2.2.2.2.2.2.2.2.2.2.2.2.2.2.2.2.2.2.2.2.2.2.2.2.2.2.2.2.2.2.2.2.2.2.2.2.2.2
theorem core : P0 cs P w loose mean mg mb prog dep fra gua uni hp0 gn dr tk0 os0 Q E h₀ L f cdv m₀ q n wd rows tq tn tw tt D1 D2 DR DW ys ysR ysW e1 oF R := by
  unfold P0
  intro G hA hu K F N dF hR hLs hLR hLW post
  refine hideC fun D_ K_ => ?_
  obtain ⟨hq, hn3, hn5, hnq7, hwd7, hwd16, hrl, hm3, hqm⟩ := K
  refine K_ ?_
  clear K_ D_
  have XX := G.X
  have T := G.T
  obtain ⟨uF, dF⟩ := dF
  dsimp only [p4, lawEnv, List.drop] at post ⊢
  iterate 5 walk_at "go"
  have hRg : ∀ x ∈ R, hp0.get? x.1 = some x.2 := fun x hx => (N x (.tail _ (.tail _ (.tail _ (.tail _ hx))))).1
  refine ne_lists (N.isList (by k_mem)) (N.isList (by k_mem)) hLR hLs hRg hRg (by show uni + 64 < 9900; omega) ?_
  iterate 5 walk_at "go"
  refine LCg.ListComp_U F rfl (by decide) rfl (by decide) rfl ?_
  iterate 1 walk_at "go"
  have hcl : (codeOf q n rows).length ≤ 9 := by
    rw [codeOf, foldl_spread_length, List.length_singleton, Nat.one_mul]; exact hqm
  have hWl : ysW.toArray.size = (codeOf q n rows).length := hLW.len
  have hws : ∀ x ∈ codeOf q n rows, x.length = n ∧ ∀ a ∈ x, a < q := fun x hx => ⟨fold_len rows _ (fun r hr => (hrl r hr).1) (by simp) x hx, fold_lt (by omega) rows _ (fun y hy a ha => by
    rw [List.mem_singleton.mp hy] at ha
    rw [(List.mem_replicate.mp ha).2]; omega) x hx⟩
  refine LCg.CompSrc.ledger (its := ysW.toArray) rfl F N (by k_mem) (by rw [hWl, sizeLine_eq]; omega) ?_
  intro g1
  generalize codeOf q n rows = W at *
  refine rest_inv (fun i zs nw => nw = (L + 1, oF) :: (D1, listOf ys.toArray e1) :: (DR, LCg.lst ysR) :: (DW, LCg.lst ysW) :: R ∧ IntsAre zs ((W.take i).map fun x => ((wt x : Nat) : Int))) ysW.toArray.size ?_ ?_ _ 0 _ _ (by simp) ⟨rfl, by rw [List.take_zero]; exact .nil⟩
  · rintro i zs nw hi ⟨rfl, hzs⟩ v I oI C oC D m₂ h tk E' hv hC hx F1 N1 off ne
    clear F N
    have hiW : i < W.length := by omega
    obtain ⟨x, hxi⟩ : ∃ x, W[i]? = some x := ⟨_, List.getElem?_eq_getElem hiW⟩
    refine hideC fun D_ K_ => ?_
    obtain ⟨a, vs, epa, ea1, ea2, ea3⟩ := hLW.2 i x hxi
    refine K_ ?_
    clear K_ D_
    obtain ⟨hxl, hxq⟩ := hws x (List.mem_of_getElem? hxi)
    have hva : v = .ref a := by
      rw [List.getElem?_toArray] at hv
      rw [hv] at ea1; exact Option.some.inj ea1
    subst hva
    iterate 2 walk_at "go"
    refine nameE_B (by k_asm) XX (by k_asm) (by k_is) (by boot_fast) (by decide) ?_
    iterate 2 walk_at "go"
    refine LCt.ListComp_T F1 rfl (by decide) rfl (by decide) rfl ?_
    iterate 1 walk_at "go"
    have hvl : vs.toArray.size = x.length := by rw [List.size_toArray, ea3.length, List.length_map]
    refine LCt.CompSrcT.ledger (its := vs.toArray) (k := epa) rfl F1 N1 (.tail _ (.tail _ (.tail _ (.tail _ (.tail _ (.tail _ (.tail _ ea2))))))) (by rw [hvl, sizeLine_eq]; omega) ?_
    intro g2
    refine restT_inv (fun j zs2 nw => nw = (I, oI) :: (C, oC) :: (D, LCg.lst zs) :: (L + 1, oF) :: (D1, listOf ys.toArray e1) :: (DR, LCg.lst ysR) :: (DW, LCg.lst ysW) :: R ∧ zs2.length = ((x.take j).filter fun b => !decide (b = 0)).length) vs.toArray.size ?_ ?_ _ 0 _ _ (by simp) ⟨rfl, rfl⟩
    · rintro j zs2 nw hj ⟨rfl, hzs2⟩ v2 I2 oI2 C2 oC2 D2' m3 h2 tk2 E2 hv2 hC2 hx2 F2 N2 off2 ne2
      clear F1 N1
      have hjx : j < x.length := by omega
      obtain ⟨b, hb⟩ : ∃ b, x[j]? = some b := ⟨_, List.getElem?_eq_getElem hjx⟩
      have hv2' : vs[j]? = some v2 := by rw [List.getElem?_toArray] at hv2; exact hv2
      obtain ⟨tb, hvb⟩ := ints_get ea3 hv2'
      rw [List.getD_eq_getElem?_getD, hb] at hvb
      have hvb : v2 = Value.int ((b : Nat) : Int) tb := hvb
      subst hvb
      iterate 4 walk_at "go"
      refine nameEE_K (by k_asm) XX (by k_asm) (by k_is) ?_
      iterate 5 walk_at "go"
      have hsub2 : Sub h₀ h2 := F2.keep
      refine iseof_spec G hsub2 (by show dep ≤ 700; omega) rfl ?_
      intro h5 tk5 hs5
      replace hs5 : Sub h2 h5 := hs5
      have F5 := subF F2 hs5
      have N5 := subN N2 hs5
      clear F2 N2 hs5
      iterate 1 walk_at "go"
      k_unfold
      dsimp only
      have ht2 : x.take (j + 1) = x.take j ++ [b] := by rw [List.take_add_one, hb]; rfl
      by_cases hb0 : b = 0
      · subst hb0
        rw [if_neg (by decide)]
        refine LCg.CompEnd.intro F5 N5 _ (fun p hp => hp) off2 ?_ ⟨rfl, ?_⟩
        · exact .inr ⟨_, .tail _ (.tail _ (.tail _ (.tail _ (.tail _ (.tail _ (.tail _ ea2)))))), rfl, _, rfl⟩
        · rw [ht2, List.filter_append, List.length_append, hzs2]; rfl
      · rw [if_pos (by simpa using hb0)]
        iterate 1 walk_at "go"
        refine LCg.CompEnd.intro F5 N5 _ (fun p hp => hp) off2 ?_ ⟨rfl, ?_⟩
        · exact .inr ⟨_, .tail _ (.tail _ (.tail _ (.tail _ (.tail _ (.tail _ (.tail _ ea2)))))), rfl, _, rfl⟩
        · rw [ht2, List.filter_append, List.length_append, List.length_append, hzs2]
          simp [hb0]
    · rintro zs2 nw ⟨rfl, hzs2⟩
      rw [hvl, List.take_length, wt_filter] at hzs2
      unfold LCg.FinE
      intro D5 h5 tk5 F5 N5 o5
      clear F1 N1
      dsimp only
      iterate 1 walk_at "go"
      have hwx := wt_le x
      refine len_led (its := zs2.toArray) (ep := zs2.length) N5 (.head _) (by rw [List.size_toArray]; omega) ?_
      intro t6 tk6
      (try k_unfold)
      refine LCg.CompEnd.intro F5 N5 _ (fun p hp => .tail _ hp) off ?_ ⟨rfl, ?_⟩
      · exact .inr ⟨_, .tail _ (.tail _ (.tail _ (.head _))), rfl, _, rfl⟩
      · have ht1 : W.take (i + 1) = W.take i ++ [x] := by rw [List.take_add_one, hxi]; rfl
        rw [ht1, List.map_append, List.size_toArray, hzs2]
        exact hzs.append (.cons _ _ .nil)
  · rintro zs nw ⟨rfl, hzs⟩
    rw [hWl, List.take_length] at hzs
    unfold LCg.FinE
    intro DF h5 tk5 F5 N5 o5
    clear F N
    dsimp only
    refine storeX_C F5 N5 (by rfl) (UpdF.tail (fun z => o5.1 z.symm) (.head hR)) dF ?_
    intro h6 oF6 F6 N6 dF6
    clear F5 N5
    dsimp only at N6
    have hneF : ∀ x ∈ (L + 1, oF6) :: (D1, listOf ys.toArray e1) :: (DR, LCg.lst ysR) :: (DW, LCg.lst ysW) :: R, @Ne Nat x.1 DF := fun x hx => off1_mem (l := (L + 1, oF) :: (D1, listOf ys.toArray e1) :: (DR, LCg.lst ysR) :: (DW, LCg.lst ysW) :: R) o5 (x.1, if x.1 = L + 1 then oF else x.2) (by
      rcases List.mem_cons.mp hx with rfl | hx
      · rw [if_pos rfl]; exact .head _
      · rw [if_neg (hR x hx)]; exact .tail _ hx)
    iterate 12 walk_at "go"
    obtain ⟨r3, r4⟩ := range_ok (b := (n : Int) + 1) (n := n + 1) (by omega) (by omega)
    with_reducible rename IsRange _ _ _ _ _ _ _ _ => hrg
    with_reducible rename Fr _ _ _ _ => F7
    with_reducible rename News _ _ _ _ => N7
    refine LCg.CompSrc.range (n := n + 1) rfl F7 N7 hrg r3 r4 (by rw [sizeLine_eq]; omega) ?_
    intro g7
    refine kcf_range (fun k => (((W.map wt).count k.toNat : Nat) : Int)) ?_ ?_
    · intro k t I oI C oC D2 m₂ zs2 h tk2 E' hk1 hk2 hC hx F8 N8 off ne mk
      clear F7 N7 hrg
      iterate 8 walk_at "go"
      have hzl : zs.length ≤ 9 := by rw [hzs.length, List.length_map]; exact hcl
      refine count_list_ints (N8.isList (a := DF) (by k_mem)) hzs ?_
      have e : List.count k (W.map fun x => ((wt x : Nat) : Int)) = (W.map wt).count k.toNat := by
        have e1 : (W.map fun x => ((wt x : Nat) : Int)) = (W.map wt).map Int.ofNat := by rw [List.map_map]; rfl
        have e2 : k = ((k.toNat : Nat) : Int) := by omega
        rw [e1]
        conv => lhs; rw [e2]
        exact count_ints _ _
      rw [e]
      (try k_unfold)
      exact LCg.CompEnd.intro F8 N8 _ (fun p hp => hp) off trivial ⟨rfl, _, rfl⟩
    · unfold KPfDone
      intro wys hwys
      unfold LCg.FinA
      intro D3 h8 tk8 F8 N8 o8
      clear F7 N7
      dsimp only
      rw [upd_if] at F8
      have e : ((rangeKs 0 (n + 1)).map fun k => (((W.map wt).count k.toNat : Nat) : Int)) = (countsOf n W).map Int.ofNat := by
        unfold rangeKs countsOf
        rw [List.map_map, List.map_map]
        apply List.map_congr_left
        intro k _
        show (((W.map wt).count (0 + (k : Int)).toNat : Nat) : Int) = _
        rw [Int.zero_add, Int.toNat_natCast]; rfl
      rw [e] at hwys
      refine post h8 tk8 oF6 D3 wys wys.length F8 (fun x hx => N8 x ?_) (fun x hx => off1_mem o8 x ?_) hwys
      · rcases List.mem_cons.mp hx with rfl | hx
        · exact .head _
        rcases List.mem_cons.mp hx with rfl | hx
        · exact .tail _ (.tail _ (.head _))
        rcases List.mem_cons.mp hx with rfl | hx
        · exact .tail _ (.tail _ (.tail _ (.head _)))
        · exact .tail _ (.tail _ (.tail _ (.tail _ (.tail _ (.tail _ hx)))))
      · rcases List.mem_cons.mp hx with rfl | hx
        · exact .tail _ (.head _)
        rcases List.mem_cons.mp hx with rfl | hx
        · exact .tail _ (.tail _ (.head _))
        · exact .tail _ (.tail _ (.tail _ (.tail _ (.tail _ hx))))
theorem all : ∀ p : Par, P1 p := fun p => Classical.byContradiction fun hn => (@Classical.epsilon_spec Par (fun p => ¬ P1 p) ⟨p, hn⟩) (by with_unfolding_all exact core)
end TAc
theorem tailA {w : World} {loose : List Str} {mean : ExcName → Option Value} {mg mb : Str → Option Value} {prog : Program} {A : Around} {s : Shared} {Q : Flow → Shared → Prop} {E : Value → Shared → Prop} {h₀ : Heap} {L f : Addr} {cdv : Value} {m₀ : Str → Option Value} (G : Gd w loose mean mg mb h₀) (hA : A.depth ≤ 400) (hu : A.units ≤ 2000) (hh : A.handled = none)
   {cs : List Nat} (P : LexP (S cs)) {q n wd : Nat} {rows : List (List Nat)} (K : Num q n wd rows) {tq tn tw tt : Tok} {D1 D2 DR DW : Addr} {ys ysR ysW : List Value} {e1 : Nat} {oF : Obj} {R : List (Addr × Obj)}
   (F : Fr h₀ L s.heap (upd [(Str.ofString "words", some (.ref DW)), (Str.ofString "read", some (.ref DR)), (Str.ofString "lexer", some (.ref P.lx)), (Str.ofString "text", some (.str (S cs) tt)), (Str.ofString "marks", some (.ref D2)), (Str.ofString "rows", some (.ref D1)), (Str.ofString "width", some (.int ((wd : Nat) : Int) tw)), (Str.ofString "n", some (.int ((n : Nat) : Int) tn)), (Str.ofString "q", some (.int ((q : Nat) : Int) tq))] m₀))
   (N : News h₀ L s.heap ((L + 1, oF) :: (D1, listOf ys.toArray e1) :: (DR, LCg.lst ysR) :: (DW, LCg.lst ysW) :: R)) (dF : ∃ u, oF.data = .cell u) (hR : ∀ x ∈ (D1, listOf ys.toArray e1) :: (DR, LCg.lst ysR) :: (DW, LCg.lst ysW) :: R, @Ne Nat x.1 (L + 1))
   (hLs : Lists R ys rows) (hLR : Lists R ysR rows) (hLW : Lists R ysW (codeOf q n rows))
   (post : ∀ h' tk oF' DC vsC eC, Fr h₀ L h' (upd [(Str.ofString "counts", some (.ref DC)), (Str.ofString "words", some (.ref DW)), (Str.ofString "read", some (.ref DR)), (Str.ofString "lexer", some (.ref P.lx)), (Str.ofString "text", some (.str (S cs) tt)), (Str.ofString "marks", some (.ref D2)), (Str.ofString "rows", some (.ref D1)), (Str.ofString "width", some (.int ((wd : Nat) : Int) tw)), (Str.ofString "n", some (.int ((n : Nat) : Int) tn)), (Str.ofString "q", some (.int ((q : Nat) : Int) tq))] m₀) →
     News h₀ L h' ((DC, listOf (vsC : List Value).toArray eC) :: (L + 1, oF') :: (D1, listOf ys.toArray e1) :: R) → (∀ x ∈ (L + 1, oF') :: (D1, listOf ys.toArray e1) :: R, @Ne Nat x.1 DC) → IntsAre vsC ((countsOf n (codeOf q n rows)).map Int.ofNat) →
     wpAny (model prog w) A (execs (p4.1.2.1.drop 6) (lawEnv L f cdv)) Q E { s with heap := h', toks := tk }) :
   wpAny (model prog w) A (execs (p4.1.2.1.drop 3) (lawEnv L f cdv)) Q E s := by
  refine hideC fun D_ K_ => ?_
  obtain ⟨hand, dep, fra, gua, uni⟩ := A
  refine K_ ?_
  clear K_ D_
  refine hideC fun D_ K_ => ?_
  obtain ⟨hp0, gn, dr, tk0, os0⟩ := s
  refine K_ ?_
  clear K_ D_
  dsimp only at hh
  subst hh
  exact TAc.all ⟨cs, P, w, loose, mean, mg, mb, prog, dep, fra, gua, uni, hp0, gn, dr, tk0, os0, Q, E, h₀, L, f, cdv, m₀, q, n, wd, rows, tq, tn, tw, tt, D1, D2, DR, DW, ys, ysR, ysW, e1, oF, R⟩ G hA hu K F N dF hR hLs hLR hLW post
end
end Mine
end
section
open PySem PySem.W PyProof.Rows PySem.Calls
set_option maxRecDepth 100000
set_option maxHeartbeats 8000000
set_option linter.unusedVariables false
set_option linter.unusedSimpArgs false
namespace Mine
theorem fill_TBx : ∀ (w : World) (h : Heap), (hd.heap_1 w.params).In h → PySem.Challenge.rw_qu0050_01.foot = 8 := by
  k_fill; intros; rfl
section
theorem int_divmod_neg_use {w : World} {loose : List Str} {mean : ExcName → Option Value} {mg mb : Str → Option Value} {prog : Program} {A : Around} {s : Shared} {Q E : Value → Shared → Prop} {h₀ : Heap} {L : Addr} {m : Str → Option Value} {ps1 ps2 : Array Value} {rest : List (Addr × Obj)}
   (G : Gd w loose mean mg mb h₀) (F : Fr h₀ L s.heap m) (N : News h₀ L s.heap ((30, tabObj ps1) :: (37, tabObj ps2) :: rest)) (hr1 : ∀ p ∈ rest, @Ne Nat p.1 30 ∧ @Ne Nat p.1 37) (hA : A.depth ≤ 530) (hh : A.handled = none) {Y b : Nat} {ta tb : Tok} (hY : 0 < Y) (hb : 0 < b) (hb2 : b < 1000) (hbits : Builtin.Int.intBits ((Y - 1 : Nat) : Int) < 150)
   (tab1 : TabS h₀ s.heap 30 32 4 q1) (tab2 : TabS h₀ s.heap 37 47 4 q2)
   (post : ∀ h' tk r t1 t2 ps1' ps2' ex, Fr h₀ L h' m → News h₀ L h' ((r, tupO #[.int (-(((Y - 1) / b : Nat) : Int) - 1) t1, .int ((b : Int) - 1 - (((Y - 1) % b : Nat) : Int)) t2]) :: (30, tabObj ps1') :: (37, tabObj ps2') :: (rest ++ ex)) → TabF h₀ ex 30 ps1' 32 4 q1 → TabF h₀ ex 37 ps2' 47 4 q2 → (∀ p ∈ ex, h'.get? p.1 = some p.2 ∧ isCode p.2) → But [30, 37] s.heap h' → s.heap.get? r = none → Q (.ref r) { s with heap := h', toks := tk }) :
   wpAny (model prog w) A (call (.ref 56) [.int (-(Y : Int)) ta, .int (b : Int) tb]) Q E s := by
  refine int_divmod_neg G F.keep hA hh hY hb hb2 hbits tab1 tab2 ?_
  intro h' tk r t1 t2 hbut tb1 tb2 hr hr'
  have F' : Fr h₀ L h' m := after_fr [30, 37] F N hbut (by
    intro a ha
    simp only [List.mem_cons, List.not_mem_nil, or_false] at ha
    rcases ha with rfl | rfl
    · exact (N _ (.head _)).2
    · exact (N _ (.tail _ (.head _))).2)
  refine hideC fun D_ K_ => ?_
  obtain ⟨ps1', ex1, e1, TF1, hex1⟩ := tab_after F' tb1
  refine K_ ?_
  clear K_ D_
  refine hideC fun D_ K_ => ?_
  obtain ⟨ps2', ex2, e2, TF2, hex2⟩ := tab_after F' tb2
  refine K_ ?_
  clear K_ D_
  have hex : ∀ p ∈ ex1 ++ ex2, (h'.get? p.1 = some p.2 ∧ p.1 ≠ L ∧ h₀.get? p.1 = none) ∧ isCode p.2 := fun p hp => (List.mem_append.mp hp).elim (hex1 p) (hex2 p)
  refine post h' tk r t1 t2 ps1' ps2' (ex1 ++ ex2) F' ?_ (TF1.mono fun p hp => List.mem_append_left _ hp) (TF2.mono fun p hp => List.mem_append_right _ hp) (fun p hp => ⟨(hex p hp).1.1, (hex p hp).2⟩) hbut hr
  intro p hp
  rcases List.mem_cons.mp hp with rfl | hp
  · exact ⟨hr', fr_ne F hr, (show Sub h₀ s.heap from F.keep).none hr⟩
  rcases List.mem_cons.mp hp with rfl | hp
  · exact ⟨e1, (N _ (.head _)).2⟩
  rcases List.mem_cons.mp hp with rfl | hp
  · exact ⟨e2, (N _ (.tail _ (.head _))).2⟩
  rcases List.mem_append.mp hp with hp | hp
  · have n := N p (.tail _ (.tail _ hp))
    exact ⟨hbut _ _ (nmem2 (hr1 p hp).1 (hr1 p hp).2) n.1, n.2⟩
  · exact (hex p hp).1
theorem bits_mono {a b : Nat} (h : a ≤ b) : Builtin.Int.intBits (a : Int) ≤ Builtin.Int.intBits (b : Int) := by
  have := lt_pow_bits b
  refine intBits_le_iff.mpr ?_
  rw [Int.natAbs_natCast]; omega
theorem fr_upd1 {h₀ h : Heap} {L : Addr} {f m : Str → Option Value} {l : List (Str × Option Value)} {x : Str} {v : Value} (F : Fr h₀ L h (fun y => if y = x then some v else f y)) (e : f = upd l m) : Fr h₀ L h (upd ((x, some v) :: l) m) := by
  rw [← upd_if1 e]; exact F
noncomputable abbrev mC (DC DW DR : Addr) (lx : Addr) (cs : List Nat) (tt : Tok) (D2 D1 : Addr) (wd : Nat) (tw : Tok) (n : Nat) (tn : Tok) (q : Nat) (tq : Tok) : List (Str × Option Value) := [(Str.ofString "counts", some (.ref DC)), (Str.ofString "words", some (.ref DW)), (Str.ofString "read", some (.ref DR)), (Str.ofString "lexer", some (.ref lx)), (Str.ofString "text", some (.str (S cs) tt)), (Str.ofString "marks", some (.ref D2)), (Str.ofString "rows", some (.ref D1)), (Str.ofString "width", some (.int ((wd : Nat) : Int) tw)), (Str.ofString "n", some (.int ((n : Nat) : Int) tn)), (Str.ofString "q", some (.int ((q : Nat) : Int) tq))]
namespace TBc
noncomputable def P0 (cs : List Nat) (w : World) (loose : List Str) (mean : ExcName → Option Value) (mg : Str → Option Value) (mb : Str → Option Value) (prog : Program) (dep : Nat) (fra : Option (List Env)) (gua : Option (List Code)) (uni : Nat) (hp0 : Heap) (gn : Array GenState) (dr : Drawn) (tk0 : Nat) (os0 : OsState) (Q : Flow → Shared → Prop) (E : Value → Shared → Prop) (h₀ : Heap) (L : Addr) (f : Addr) (cdv : Value) (m₀ : Str → Option Value) (lx : Addr) (q : Nat) (n : Nat) (wd : Nat) (rows : List (List Nat)) (tq : Tok) (tn : Tok) (tw : Tok) (tt : Tok) (D1 : Addr) (D2 : Addr) (DR : Addr) (DW : Addr) (DC : Addr) (ys : List Value) (vsC : List Value) (e1 : Nat) (eC : Nat) (R : List (Addr × Obj)) : Prop :=
  ∀ (G : Gd w loose mean mg mb h₀) (hA : dep ≤ 400) (hu : uni ≤ 2000) (K : Num q n wd rows) (F : Fr h₀ L hp0 (upd (mC DC DW DR lx cs tt D2 D1 wd tw n tn q tq) m₀)) (N : News h₀ L hp0 ((DC, listOf vsC.toArray eC) :: (D1, listOf ys.toArray e1) :: (30, tabObj #[]) :: (37, tabObj #[]) :: R)) (hR : ∀ x ∈ (DC, listOf vsC.toArray eC) :: (D1, listOf ys.toArray e1) :: R, @Ne Nat x.1 30 ∧ @Ne Nat x.1 37) (hLs : Lists R ys rows) (hI : IntsAre vsC ((countsOf n (codeOf q n rows)).map Int.ofNat)) (post : ∀ h' tk DS vsS eS ps1 ps2 ex there rest, Fr h₀ L h' (upd ([(Str.ofString "rest", rest), (Str.ofString "there", there), (Str.ofString "square", some (.ref DS))] ++ mC DC DW DR lx cs tt D2 D1 wd tw n tn q tq) m₀) →
     News h₀ L h' ((30, tabObj ps1) :: (37, tabObj ps2) :: (DS, listOf (vsS : List Value).toArray eS) :: (DC, listOf vsC.toArray eC) :: (D1, listOf ys.toArray e1) :: (R ++ ex)) → (∀ x ∈ (DS, listOf (vsS : List Value).toArray eS) :: (DC, listOf vsC.toArray eC) :: (D1, listOf ys.toArray e1) :: (R ++ ex), @Ne Nat x.1 30 ∧ @Ne Nat x.1 37) →
     TabF h₀ ex 30 ps1 32 4 q1 → TabF h₀ ex 37 ps2 47 4 q2 →
     IntsAre vsS ((sqFold q n rows (q ^ n)).map Int.ofNat) →
     wpAny (model prog w) ⟨none, dep, fra, gua, uni⟩ (execs (p4.1.2.1.drop 9) (lawEnv L f cdv)) Q E ⟨h', gn, dr, tk, os0⟩),
   wpAny (model prog w) ⟨none, dep, fra, gua, uni⟩ (execs (p4.1.2.1.drop 6) (lawEnv L f cdv)) Q E ⟨hp0, gn, dr, tk0, os0⟩
noncomputable abbrev Par : Type := (List Nat) × (World) × (List Str) × (ExcName → Option Value) × (Str → Option Value) × (Str → Option Value) × (Program) × (Nat) × (Option (List Env)) × (Option (List Code)) × (Nat) × (Heap) × (Array GenState) × (Drawn) × (Nat) × (OsState) × (Flow → Shared → Prop) × (Value → Shared → Prop) × (Heap) × (Addr) × (Addr) × (Value) × (Str → Option Value) × (Addr) × (Nat) × (Nat) × (Nat) × (List (List Nat)) × (Tok) × (Tok) × (Tok) × (Tok) × (Addr) × (Addr) × (Addr) × (Addr) × (Addr) × (List Value) × (List Value) × (Nat) × (Nat) × (List (Addr × Obj))
noncomputable def P1 (p : Par) : Prop := P0 p.1 p.2.1 p.2.2.1 p.2.2.2.1 p.2.2.2.2.1 p.2.2.2.2.2.1 p.2.2.2.2.2.2.1 p.2.2.2.2.2.2.2.1 p.2.2.2.2.2.2.2.2.1 p.2.2.2.2.2.2.2.2.2.1 p.2.2.2.2.2.2.2.2.2.2.1 p.2.2.2.2.2.2.2.2.2.2.2.1 p.2.2.2.2.2.2.2.2.2.2.2.2.1 p.2.2.2.2.2.2.2.2.2.2.2.2.2.1 p.2.2.2.2.2.2.2.2.2.2.2.2.2.2.1 p.2.2.2.2.2.2.2.2.2.2.2.2.2.2.2.1 p.2.2.2.2.2.2.2.2.2.2.2.2.2.2.2.2.1 p.2.2.2.2.2.2.2.2.2.2.2.2.2.2.2.2.2.1 p.2.2.2.2.2.2.2.2.2.2.2.2.2.2.2.2.2.2.1 p.2.2.2.2.2.2.2.2.2.2.2.2.2.2.2.2.2.2.2.1 p.2.2.2.2.2.2.2.2.2.2.2.2.2.2.2.2.2.2.2.2.1 p.2.2.2.2.2.2.2.2.2.2.2.2.2.2.2.2.2.2.2.2.2.1 p.2.2.2.2.2.2.2.2.2.2.2.2.2.2.2.2.2.2.2.2.2.2.1 p.2.2.2.2.2.2.2.2.2.2.2.2.2.2.2.2.2.2.2.2.2.2.2.1 p.2.2.2.2.2.2.2.2.2.2.2.2.2.2.2.2.2.2.2.2.2.2.2.2.1 p.2.2.2.2.2.2.2.2.2.2.2.2.2.2.2.2.2.2.2.2.2.2.2.2.2.1 p.2.2.2.2.2.2.2.2.2.2.2.2.2.2.2.2.2.2.2.2.2.2.2.2.2.2.1 p.2.2.2.2.2.2.2.2.2.2.2.2.2.2.2.2.2.2.2.2.2.2.2.2.2.2.2.1 p.2.2.2.2.2.2.2.2.2.2.2.2.2.2.2.2.2.2.2.2.2.2.2.2.2.2.2.2.1 p.2.2.2.2.2.2.2.2.2.2.2.2.2.2.2.2.2.2.2.2.2.2.2.2.2.2.2.2.2.1 p.2.2.2.2.2.2.2.2.2.2.2.2.2.2.2.2.2.2.2.2.2.2.2.2.2.2.2.2.2.2.1 p.2.2.2.2.2.2.2.2.2.2.2.2.2.2.2.2.2.2.2.2.2.2.2.2.2.2.2.2.2.2.2.1 p.2.2.2.2.2.2.2.2.2.2.2.2.2.2.2.2.2.2.2.2.2.2.2.2.2.2.2.2.2.2.2.2.1 p.2.2.2.2.2.2.2.2.2.2.2.2.2.2.2.2.2.2.2.2.2.2.2.2.2.2.2.2.2.2.2.2.2.1 p.2.2.2.2.2.2.2.2.2.2.2.2.2.2.2.2.2.2.2.2.2.2.2.2.2.2.2.2.2.2.2.2.2.2.1 p.2.2.2.2.2.2.2.2.2.2.2.2.2.2.2.2.2.2.2.2.2.2.2.2.2.2.2.2.2.2.2.2.2.2.2.1 p.2.2.2.2.2.2.2.2.2.2.2.2.2.2.2.2.2.2.2.2.2.2.2.2.2.2.2.2.2.2.2.2.2.2.2.2.1 p.2.2.2.2.2.2.2.2.2.2.2.2.2.2.2.2.2.2.2.2.2.2.2.2.2.2.2.2.2.2.2.2.2.2.2.2.2.1 p.2.2.2.2.2.2.2.2.2.2.2.2.2.2.2.2.2.2.2.2.2.2.2.2.2.2.2.2.2.2.2.2.2.2.2.2.2.2.1 p.2.2.2.2.2.2.2.2.2.2.2.2.2.2.2.2.2.2.2.2.2.2.2.2.2.2.2.2.2.2.2.2.2.2.2.2.2.2.2.1 p.2.2.2.2.2.2.2.2.2.2.2.2.2.2.2.2.2.2.2.2.2.2.2.2.2.2.2.2.2.2.2.2.2.2.2.2.2.2.2.2.1 p.2.2.2.2.2.2.2.2.2.2.2.2.2.2.2.2.2.2.2.2.2.2.2.2.2.2.2.2.2.2.2.2.2.2.2.2.2.2.2.2.2
theorem some_par : Nonempty Par := ⟨⟨[], aWorld 1, [], fun _ => none, fun _ => none, fun _ => none, default, 0, none, none, 0, default, #[], (start (default : Program)).1.drawn, 0, (start (default : Program)).1.os, fun _ _ => True, fun _ _ => True, default, 0, 0, .none, fun _ => none, 0, 0, 0, 0, [], 0, 0, 0, 0, 0, 0, 0, 0, 0, [], [], 0, 0, []⟩⟩
@[irreducible] noncomputable def cc : Par := @Classical.epsilon Par some_par fun p => ¬ P1 p
@[irreducible] noncomputable def cs : List Nat := by with_unfolding_all exact cc.1
@[irreducible] noncomputable def w : World := by with_unfolding_all exact cc.2.1
@[irreducible] noncomputable def loose : List Str := by with_unfolding_all exact cc.2.2.1
@[irreducible] noncomputable def mean : ExcName → Option Value := by with_unfolding_all exact cc.2.2.2.1
@[irreducible] noncomputable def mg : Str → Option Value := by with_unfolding_all exact cc.2.2.2.2.1
@[irreducible] noncomputable def mb : Str → Option Value := by with_unfolding_all exact cc.2.2.2.2.2.1
@[irreducible] noncomputable def prog : Program := by with_unfolding_all exact cc.2.2.2.2.2.2.1
@[irreducible] noncomputable def dep : Nat := by with_unfolding_all exact cc.2.2.2.2.2.2.2.1
@[irreducible] noncomputable def fra : Option (List Env) := by with_unfolding_all exact cc.2.2.2.2.2.2.2.2.1
@[irreducible] noncomputable def gua : Option (List Code) := by with_unfolding_all exact cc.2.2.2.2.2.2.2.2.2.1
@[irreducible] noncomputable def uni : Nat := by with_unfolding_all exact cc.2.2.2.2.2.2.2.2.2.2.1
@[irreducible] noncomputable def hp0 : Heap := by with_unfolding_all exact cc.2.2.2.2.2.2.2.2.2.2.2.1
@[irreducible] noncomputable def gn : Array GenState := by with_unfolding_all exact cc.2.2.2.2.2.2.2.2.2.2.2.2.1
@[irreducible] noncomputable def dr : Drawn := by with_unfolding_all exact cc.2.2.2.2.2.2.2.2.2.2.2.2.2.1
@[irreducible] noncomputable def tk0 : Nat := by with_unfolding_all exact cc.2.2.2.2.2.2.2.2.2.2.2.2.2.2.1
@[irreducible] noncomputable def os0 : OsState := by with_unfolding_all exact cc.2.2.2.2.2.2.2.2.2.2.2.2.2.2.2.1
@[irreducible] noncomputable def Q : Flow → Shared → Prop := by with_unfolding_all exact cc.2.2.2.2.2.2.2.2.2.2.2.2.2.2.2.2.1
@[irreducible] noncomputable def E : Value → Shared → Prop := by with_unfolding_all exact cc.2.2.2.2.2.2.2.2.2.2.2.2.2.2.2.2.2.1
@[irreducible] noncomputable def h₀ : Heap := by with_unfolding_all exact cc.2.2.2.2.2.2.2.2.2.2.2.2.2.2.2.2.2.2.1
@[irreducible] noncomputable def L : Addr := by with_unfolding_all exact cc.2.2.2.2.2.2.2.2.2.2.2.2.2.2.2.2.2.2.2.1
@[irreducible] noncomputable def f : Addr := by with_unfolding_all exact cc.2.2.2.2.2.2.2.2.2.2.2.2.2.2.2.2.2.2.2.2.1
@[irreducible] noncomputable def cdv : Value := by with_unfolding_all exact cc.2.2.2.2.2.2.2.2.2.2.2.2.2.2.2.2.2.2.2.2.2.1
@[irreducible] noncomputable def m₀ : Str → Option Value := by with_unfolding_all exact cc.2.2.2.2.2.2.2.2.2.2.2.2.2.2.2.2.2.2.2.2.2.2.1
@[irreducible] noncomputable def lx : Addr := by with_unfolding_all exact cc.2.2.2.2.2.2.2.2.2.2.2.2.2.2.2.2.2.2.2.2.2.2.2.1
@[irreducible] noncomputable def q : Nat := by with_unfolding_all exact cc.2.2.2.2.2.2.2.2.2.2.2.2.2.2.2.2.2.2.2.2.2.2.2.2.1
@[irreducible] noncomputable def n : Nat := by with_unfolding_all exact cc.2.2.2.2.2.2.2.2.2.2.2.2.2.2.2.2.2.2.2.2.2.2.2.2.2.1
@[irreducible] noncomputable def wd : Nat := by with_unfolding_all exact cc.2.2.2.2.2.2.2.2.2.2.2.2.2.2.2.2.2.2.2.2.2.2.2.2.2.2.1
@[irreducible] noncomputable def rows : List (List Nat) := by with_unfolding_all exact cc.2.2.2.2.2.2.2.2.2.2.2.2.2.2.2.2.2.2.2.2.2.2.2.2.2.2.2.1
@[irreducible] noncomputable def tq : Tok := by with_unfolding_all exact cc.2.2.2.2.2.2.2.2.2.2.2.2.2.2.2.2.2.2.2.2.2.2.2.2.2.2.2.2.1
@[irreducible] noncomputable def tn : Tok := by with_unfolding_all exact cc.2.2.2.2.2.2.2.2.2.2.2.2.2.2.2.2.2.2.2.2.2.2.2.2.2.2.2.2.2.1
@[irreducible] noncomputable def tw : Tok := by with_unfolding_all exact cc.2.2.2.2.2.2.2.2.2.2.2.2.2.2.2.2.2.2.2.2.2.2.2.2.2.2.2.2.2.2.1
@[irreducible] noncomputable def tt : Tok := by with_unfolding_all exact cc.2.2.2.2.2.2.2.2.2.2.2.2.2.2.2.2.2.2.2.2.2.2.2.2.2.2.2.2.2.2.2.1
@[irreducible] noncomputable def D1 : Addr := by with_unfolding_all exact cc.2.2.2.2.2.2.2.2.2.2.2.2.2.2.2.2.2.2.2.2.2.2.2.2.2.2.2.2.2.2.2.2.1
@[irreducible] noncomputable def D2 : Addr := by with_unfolding_all exact cc.2.2.2.2.2.2.2.2.2.2.2.2.2.2.2.2.2.2.2.2.2.2.2.2.2.2.2.2.2.2.2.2.2.1
@[irreducible] noncomputable def DR : Addr := by with_unfolding_all exact cc.2.2.2.2.2.2.2.2.2.2.2.2.2.2.2.2.2.2.2.2.2.2.2.2.2.2.2.2.2.2.2.2.2.2.1
@[irreducible] noncomputable def DW : Addr := by with_unfolding_all exact cc.2.2.2.2.2.2.2.2.2.2.2.2.2.2.2.2.2.2.2.2.2.2.2.2.2.2.2.2.2.2.2.2.2.2.2.1
@[irreducible] noncomputable def DC : Addr := by with_unfolding_all exact cc.2.2.2.2.2.2.2.2.2.2.2.2.2.2.2.2.2.2.2.2.2.2.2.2.2.2.2.2.2.2.2.2.2.2.2.2.1
@[irreducible] noncomputable def ys : List Value := by with_unfolding_all exact cc.2.2.2.2.2.2.2.2.2.2.2.2.2.2.2.2.2.2.2.2.2.2.2.2.2.2.2.2.2.2.2.2.2.2.2.2.2.1
@[irreducible] noncomputable def vsC : List Value := by with_unfolding_all exact cc.2.2.2.2.2.2.2.2.2.2.2.2.2.2.2.2.2.2.2.2.2.2.2.2.2.2.2.2.2.2.2.2.2.2.2.2.2.2.1
@[irreducible] noncomputable def e1 : Nat := by with_unfolding_all exact cc.2.2.2.2.2.2.2.2.2.2.2.2.2.2.2.2.2.2.2.2.2.2.2.2.2.2.2.2.2.2.2.2.2.2.2.2.2.2.2.1
@[irreducible] noncomputable def eC : Nat := by with_unfolding_all exact cc.2.2.2.2.2.2.2.2.2.2.2.2.2.2.2.2.2.2.2.2.2.2.2.2.2.2.2.2.2.2.2.2.2.2.2.2.2.2.2.2.1
@[irreducible] noncomputable def R : List (Addr × Obj) := by with_unfolding_all exact cc.2.2.2.2.2.2.2.2.2.2.2.2.2.2.2.2.2.2.2.2.2.2.2.2.2.2.2.2.2.2.2.2.2.2.2.2.2.2.2.2.2
theorem core : P0 cs w loose mean mg mb prog dep fra gua uni hp0 gn dr tk0 os0 Q E h₀ L f cdv m₀ lx q n wd rows tq tn tw tt D1 D2 DR DW DC ys vsC e1 eC R := by
  unfold P0
  intro G hA hu K F N hR hLs hI post
  refine hideC fun D_ K_ => ?_
  obtain ⟨hq, hn3, hn5, hnq7, hwd7, hwd16, hrl, hm3, hqm⟩ := K
  refine K_ ?_
  clear K_ D_
  have XX := G.X
  have T := G.T
  dsimp only [p4, lawEnv, List.drop] at post ⊢
  have hq23 : 2 ≤ q ∧ q ≤ 3 := by omega
  iterate 13 walk_at "go"
  have hRg : ∀ x ∈ R, hp0.get? x.1 = some x.2 := fun x hx => (N x (.tail _ (.tail _ (.tail _ (.tail _ hx))))).1
  have hsub : Sub h₀ hp0 := F.keep
  refine square_spec (A := ⟨none, dep, fra, gua, uni⟩) (s := ⟨_, _, _, _, _⟩) (rows := rows) G hsub (by show dep ≤ 600; omega) (by show uni ≤ 4000; omega) rfl (N.isList (by k_mem)) (hLs.rowsAt hRg) hm3 hrl hn5 (by omega) hq23.1 hq23.2 ?_
  intro h1 tk1 DS vsS eS hDS hDS' hIS hs1
  obtain ⟨F1, N1, hne1⟩ := after_pure F N hs1 hDS hDS'
  have hne30 : @Ne Nat DS 30 ∧ @Ne Nat DS 37 := ⟨fun z => hne1 (30, tabObj #[]) (by k_mem) z.symm, fun z => hne1 (37, tabObj #[]) (by k_mem) z.symm⟩
  clear F N
  iterate 23 walk_at "go"
  have e2 : (2 : Int) ^ ((wd : Nat) : Int).toNat = ((2 ^ wd : Nat) : Int) := by rw [Int.toNat_natCast, Int.natCast_pow]; rfl
  rw [e2]
  have hb1 : 1 ≤ 2 ^ wd := Nat.one_le_two_pow
  have hb2 : 2 ^ wd < 100000 := Nat.lt_of_le_of_lt (Nat.pow_le_pow_right (by decide) hwd16) (by decide)
  with_reducible rename Fr _ _ _ _ => F2
  with_reducible rename News _ _ _ _ => N2
  have hsub2 : Sub h₀ _ := F2.keep
  have hcf := cnt_fig (n := n) hwd7 rows hqm
  refine put_in_spec (A := ⟨none, dep, fra, gua, uni⟩) (s := ⟨_, _, _, _, _⟩) (cs := countsOf n (codeOf q n rows)) (n := n) G hsub2 (by show dep ≤ 600; omega) rfl (N2.get (a := DC) (by k_mem)) (N2.fresh (a := DC) (by k_mem)) hI (countsOf_length _ _) (by omega) (by omega) (by omega) hb1 hb2 (fun x hx => by have := (hcf x hx).1; omega) ?_
  intro h3 tk3 t3 hs3
  rw [there_math hq (fun r hr => (hrl r hr).1)]
  have F3 := subF F2 hs3
  have N3 := subN N2 hs3
  clear F2 N2
  iterate 10 walk_at "go"
  refine len_led (its := ys.toArray) (ep := e1) N3 (by k_mem) (by rw [hLs.len]; omega) ?_
  intro t4 tk4
  rw [hLs.len]
  clear hb1 hb2 e2 hcf
  iterate 1 walk_at "go"
  have e4 : (q : Int) ^ ((rows.length : Nat) : Int).toNat = ((q ^ rows.length : Nat) : Int) := by rw [Int.toNat_natCast, Int.natCast_pow]
  rw [e4]
  clear e4
  iterate 2 walk_at "go"
  have hU := und_pos (wd := wd) (n := n) hq rows
  have hsl : (sqFold q n rows (q ^ n)).reverse.length = n + 1 := by rw [List.length_reverse, sqFold_length]
  have hsf : ∀ x ∈ (sqFold q n rows (q ^ n)).reverse, x < 2 ^ wd := fun x hx => sq_fig hq hnq7 hwd7 rows x (List.mem_reverse.mp hx)
  have hq1 : 0 < q ^ rows.length := Nat.pow_pos (by omega)
  have hbY := und_bits hsl hn5 hwd16 hsf (c := q ^ rows.length) (by omega)
  have hbU := und_bits hsl hn5 hwd16 hsf (c := 1) (by decide)
  rw [Nat.one_mul] at hbU
  have hbY1 := bits_mono (show q ^ rows.length * und wd (sqFold q n rows (q ^ n)).reverse - 1 ≤ q ^ rows.length * und wd (sqFold q n rows (q ^ n)).reverse from Nat.sub_le _ _)
  have N4 : News h₀ L h3 ((30, tabObj #[]) :: (37, tabObj #[]) :: (DS, listOf vsS.toArray eS) :: (DC, listOf vsC.toArray eC) :: (D1, listOf ys.toArray e1) :: R) := fun x hx => N3 x (by
    rcases List.mem_cons.mp hx with rfl | hx
    · k_mem
    rcases List.mem_cons.mp hx with rfl | hx
    · k_mem
    rcases List.mem_cons.mp hx with rfl | hx
    · k_mem
    rcases List.mem_cons.mp hx with rfl | hx
    · k_mem
    rcases List.mem_cons.mp hx with rfl | hx
    · k_mem
    exact .tail _ (.tail _ (.tail _ (.tail _ (.tail _ hx)))))
  have hR4 : ∀ x ∈ (DS, listOf vsS.toArray eS) :: (DC, listOf vsC.toArray eC) :: (D1, listOf ys.toArray e1) :: R, @Ne Nat x.1 30 ∧ @Ne Nat x.1 37 := fun x hx => by
    rcases List.mem_cons.mp hx with rfl | hx
    · exact hne30
    · exact hR x hx
  refine int_divmod_neg_use (A := ⟨none, dep, fra, gua, uni⟩) (s := ⟨_, _, _, _, _⟩) (Y := q ^ rows.length * und wd (sqFold q n rows (q ^ n)).reverse) (b := q ^ rows.length) G F3 N4 hR4 (by show dep ≤ 530; omega) rfl (Nat.mul_pos hq1 hU) hq1 (by omega) (by omega) ⟨N4.fresh (.head _), _, N4.get (.head _), .inl rfl⟩ ⟨N4.fresh (.tail _ (.head _)), _, N4.get (.tail _ (.head _)), .inl rfl⟩ ?_
  intro h5 tk5 r5 t5 t6 ps1 ps2 ex F5 N5 TF1 TF2 hex hb5 hr5
  obtain ⟨d1, d2⟩ := neg_div (b := q ^ rows.length) (U := und wd (sqFold q n rows (q ^ n)).reverse) hq1 hU
  rw [d1, d2] at N5
  clear F3 N3 N4
  have hb5k := And.intro (N5.get (a := 30) (.tail _ (.head _))) (N5.get (a := 37) (.tail _ (.tail _ (.head _))))
  iterate 20 walk_at "go"
  iterate 11 walk_at "go"
  rw [Int.neg_neg]
  with_reducible rename Fr _ _ _ _ => F6
  with_reducible rename News _ _ _ _ => N6
  replace N6 : News _ _ _ ((30, tabObj ps1) :: (37, tabObj ps2) :: (DS, listOf vsS.toArray eS) :: (DC, listOf vsC.toArray eC) :: (D1, listOf ys.toArray e1) :: (R ++ ex)) := fun x hx => N6 x (.tail _ hx)
  have hexR : ∀ x ∈ ex, @Ne Nat x.1 30 ∧ @Ne Nat x.1 37 := fun x hx => ⟨ex_ne hex ((hb5k).1) (not_code_tab TF1) x hx, ex_ne hex ((hb5k).2) (not_code_tab TF2) x hx⟩
  have hR6 : ∀ x ∈ (DS, listOf vsS.toArray eS) :: (DC, listOf vsC.toArray eC) :: (D1, listOf ys.toArray e1) :: (R ++ ex), @Ne Nat x.1 30 ∧ @Ne Nat x.1 37 := fun x hx => by
    rcases List.mem_append.mp (show x ∈ ((DS, listOf vsS.toArray eS) :: (DC, listOf vsC.toArray eC) :: (D1, listOf ys.toArray e1) :: R) ++ ex from hx) with hx | hx
    · exact hR4 x hx
    · exact hexR x hx
  refine int2_use (A := ⟨none, dep, fra, gua, uni⟩) (s := ⟨_, _, _, _, _⟩) G F6 N6 (UpdF.head (fun x hx => by
    rcases List.mem_cons.mp hx with rfl | hx
    · exact (by decide : @Ne Nat 37 30)
    · exact (hR6 x hx).1)) TF1 (fun x hx => .tail _ (.tail _ (.tail _ (.tail _ (.tail _ (List.mem_append_right _ hx)))))) (by show dep ≤ 600; omega) (by omega) (by omega) (by omega) ?_
  intro h7 tk7 r7 vs7 ps3 ex7 F7 N7 TF7 hex7 hne7 hI7
  rw [sq_digs hq hnq7 hwd7 rows] at hI7
  simp only [List.cons_append, List.append_assoc] at N7
  clear F6 N6
  have hex7R : ∀ x ∈ ex7, @Ne Nat x.1 30 ∧ @Ne Nat x.1 37 := fun x hx => ⟨ex_ne hex7 (N7.get (a := 30) (by k_mem)) (not_code_tab TF7) x hx, ex_ne hex7 (N7.get (a := 37) (by k_mem)) (not_code_tab TF2) x hx⟩
  iterate 10 walk_at "go"
  with_reducible rename IntsAre _ (List.reverse _) => hI8
  rw [← List.map_reverse] at hI8
  with_reducible rename Fr _ _ _ _ => F8
  with_reducible rename News _ _ _ _ => N8
  refine ke_ne_ints (N8.isList (a := r7) (by k_mem)) (N8.isList (by k_mem)) hI7 hI8 (by show uni + 64 < 9900; omega) ?_
  simp only [decide_true, Bool.not_true]
  iterate 6 walk_at "go"
  refine post _ _ DS vsS eS ps3 ps2 (ex ++ ex7) _ _ (fr_upd1 F8 (upd_if1 (upd_if1 rfl))) (fun x hx => N8 x (.tail _ (.tail _ ?_))) (fun x hx => ?_) (TF7.mono fun x hx => List.mem_append_right _ hx) (TF2.mono fun x hx => List.mem_append_left _ hx) hIS
  · exact hx
  · rw [← List.append_assoc] at hx
    rcases List.mem_append.mp (show x ∈ ((DS, listOf vsS.toArray eS) :: (DC, listOf vsC.toArray eC) :: (D1, listOf ys.toArray e1) :: (R ++ ex)) ++ ex7 from hx) with hx | hx
    · exact hR6 x hx
    · exact hex7R x hx

theorem all : ∀ p : Par, P1 p := fun p => Classical.byContradiction fun hn => (@Classical.epsilon_spec Par (fun p => ¬ P1 p) ⟨p, hn⟩) (by with_unfolding_all exact core)
end TBc
theorem tailB {w : World} {loose : List Str} {mean : ExcName → Option Value} {mg mb : Str → Option Value} {prog : Program} {A : Around} {s : Shared} {Q : Flow → Shared → Prop} {E : Value → Shared → Prop} {h₀ : Heap} {L f : Addr} {cdv : Value} {m₀ : Str → Option Value} (G : Gd w loose mean mg mb h₀) (hA : A.depth ≤ 400) (hu : A.units ≤ 2000) (hh : A.handled = none)
   {cs : List Nat} {lx : Addr} {q n wd : Nat} {rows : List (List Nat)} (K : Num q n wd rows) {tq tn tw tt : Tok} {D1 D2 DR DW DC : Addr} {ys vsC : List Value} {e1 eC : Nat} {R : List (Addr × Obj)}
   (F : Fr h₀ L s.heap (upd (mC DC DW DR lx cs tt D2 D1 wd tw n tn q tq) m₀))
   (N : News h₀ L s.heap ((DC, listOf vsC.toArray eC) :: (D1, listOf ys.toArray e1) :: (30, tabObj #[]) :: (37, tabObj #[]) :: R)) (hR : ∀ x ∈ (DC, listOf vsC.toArray eC) :: (D1, listOf ys.toArray e1) :: R, @Ne Nat x.1 30 ∧ @Ne Nat x.1 37)
   (hLs : Lists R ys rows) (hI : IntsAre vsC ((countsOf n (codeOf q n rows)).map Int.ofNat))
   (post : ∀ h' tk DS vsS eS ps1 ps2 ex there rest, Fr h₀ L h' (upd ([(Str.ofString "rest", rest), (Str.ofString "there", there), (Str.ofString "square", some (.ref DS))] ++ mC DC DW DR lx cs tt D2 D1 wd tw n tn q tq) m₀) →
     News h₀ L h' ((30, tabObj ps1) :: (37, tabObj ps2) :: (DS, listOf (vsS : List Value).toArray eS) :: (DC, listOf vsC.toArray eC) :: (D1, listOf ys.toArray e1) :: (R ++ ex)) → (∀ x ∈ (DS, listOf (vsS : List Value).toArray eS) :: (DC, listOf vsC.toArray eC) :: (D1, listOf ys.toArray e1) :: (R ++ ex), @Ne Nat x.1 30 ∧ @Ne Nat x.1 37) →
     TabF h₀ ex 30 ps1 32 4 q1 → TabF h₀ ex 37 ps2 47 4 q2 →
     IntsAre vsS ((sqFold q n rows (q ^ n)).map Int.ofNat) →
     wpAny (model prog w) A (execs (p4.1.2.1.drop 9) (lawEnv L f cdv)) Q E { s with heap := h', toks := tk }) :
   wpAny (model prog w) A (execs (p4.1.2.1.drop 6) (lawEnv L f cdv)) Q E s := by
  refine hideC fun D_ K_ => ?_
  obtain ⟨hand, dep, fra, gua, uni⟩ := A
  refine K_ ?_
  clear K_ D_
  refine hideC fun D_ K_ => ?_
  obtain ⟨hp0, gn, dr, tk0, os0⟩ := s
  refine K_ ?_
  clear K_ D_
  dsimp only at hh
  subst hh
  exact TBc.all ⟨cs, w, loose, mean, mg, mb, prog, dep, fra, gua, uni, hp0, gn, dr, tk0, os0, Q, E, h₀, L, f, cdv, m₀, lx, q, n, wd, rows, tq, tn, tw, tt, D1, D2, DR, DW, DC, ys, vsC, e1, eC, R⟩ G hA hu K F N hR hLs hI post
end
end Mine
end
section
open PySem PySem.W PyProof.Rows PySem.Calls
set_option maxRecDepth 100000
set_option maxHeartbeats 8000000
set_option linter.unusedVariables false
set_option linter.unusedSimpArgs false
namespace Mine
theorem fill_TCx : ∀ (w : World) (h : Heap), (hd.heap_1 w.params).In h → PySem.Challenge.rw_qu0050_01.foot = 8 := by
  k_fill; intros; rfl
section
noncomputable abbrev mS (rest there : Option Value) (DS DC DW DR : Addr) (lx : Addr) (cs : List Nat) (tt : Tok) (D2 D1 : Addr) (wd : Nat) (tw : Tok) (n : Nat) (tn : Tok) (q : Nat) (tq : Tok) : List (Str × Option Value) := [(Str.ofString "rest", rest), (Str.ofString "there", there), (Str.ofString "square", some (.ref DS))] ++ mC DC DW DR lx cs tt D2 D1 wd tw n tn q tq
namespace TCc
noncomputable def P0 (cs : List Nat) (w : World) (loose : List Str) (mean : ExcName → Option Value) (mg : Str → Option Value) (mb : Str → Option Value) (prog : Program) (dep : Nat) (fra : Option (List Env)) (gua : Option (List Code)) (uni : Nat) (hp0 : Heap) (gn : Array GenState) (dr : Drawn) (tk0 : Nat) (os0 : OsState) (Q : Flow → Shared → Prop) (E : Value → Shared → Prop) (h₀ : Heap) (L : Addr) (f : Addr) (cdv : Value) (m₀ : Str → Option Value) (lx : Addr) (q : Nat) (n : Nat) (wd : Nat) (rows : List (List Nat)) (tq : Tok) (tn : Tok) (tw : Tok) (tt : Tok) (D1 : Addr) (D2 : Addr) (DR : Addr) (DW : Addr) (DC : Addr) (DS : Addr) (ys : List Value) (vsC : List Value) (vsS : List Value) (e1 : Nat) (eC : Nat) (eS : Nat) (R : List (Addr × Obj)) (ex : List (Addr × Obj)) (rest : Option Value) (there : Option Value) (ps1 : Array Value) (ps2 : Array Value) : Prop :=
  ∀ (G : Gd w loose mean mg mb h₀) (hA : dep ≤ 400) (hu : uni ≤ 2000) (K : Num q n wd rows) (F : Fr h₀ L hp0 (upd (mS rest there DS DC DW DR lx cs tt D2 D1 wd tw n tn q tq) m₀)) (N : News h₀ L hp0 ((30, tabObj ps1) :: (37, tabObj ps2) :: (DS, listOf vsS.toArray eS) :: (DC, listOf vsC.toArray eC) :: (D1, listOf ys.toArray e1) :: (R ++ ex))) (hR : ∀ x ∈ (DS, listOf vsS.toArray eS) :: (DC, listOf vsC.toArray eC) :: (D1, listOf ys.toArray e1) :: (R ++ ex), @Ne Nat x.1 30 ∧ @Ne Nat x.1 37) (TF1 : TabF h₀ ex 30 ps1 32 4 q1) (TF2 : TabF h₀ ex 37 ps2 47 4 q2) (hyl : ys.toArray.size = rows.length) (hIS : IntsAre vsS ((sqFold q n rows (q ^ n)).map Int.ofNat)) (hIC : IntsAre vsC ((countsOf n (codeOf q n rows)).map Int.ofNat)) (post : ∀ h' tk ps1 ps2 back, Fr h₀ L h' (upd ((Str.ofString "back", back) :: mS rest there DS DC DW DR lx cs tt D2 D1 wd tw n tn q tq) m₀) →
     News h₀ L h' ((30, tabObj ps1) :: (37, tabObj ps2) :: R) →
     wpAny (model prog w) ⟨none, dep, fra, gua, uni⟩ (execs (p4.1.2.1.drop 11) (lawEnv L f cdv)) Q E ⟨h', gn, dr, tk, os0⟩),
   wpAny (model prog w) ⟨none, dep, fra, gua, uni⟩ (execs (p4.1.2.1.drop 9) (lawEnv L f cdv)) Q E ⟨hp0, gn, dr, tk0, os0⟩
noncomputable abbrev Par : Type := (List Nat) × (World) × (List Str) × (ExcName → Option Value) × (Str → Option Value) × (Str → Option Value) × (Program) × (Nat) × (Option (List Env)) × (Option (List Code)) × (Nat) × (Heap) × (Array GenState) × (Drawn) × (Nat) × (OsState) × (Flow → Shared → Prop) × (Value → Shared → Prop) × (Heap) × (Addr) × (Addr) × (Value) × (Str → Option Value) × (Addr) × (Nat) × (Nat) × (Nat) × (List (List Nat)) × (Tok) × (Tok) × (Tok) × (Tok) × (Addr) × (Addr) × (Addr) × (Addr) × (Addr) × (Addr) × (List Value) × (List Value) × (List Value) × (Nat) × (Nat) × (Nat) × (List (Addr × Obj)) × (List (Addr × Obj)) × (Option Value) × (Option Value) × (Array Value) × (Array Value)
noncomputable def P1 (p : Par) : Prop := P0 p.1 p.2.1 p.2.2.1 p.2.2.2.1 p.2.2.2.2.1 p.2.2.2.2.2.1 p.2.2.2.2.2.2.1 p.2.2.2.2.2.2.2.1 p.2.2.2.2.2.2.2.2.1 p.2.2.2.2.2.2.2.2.2.1 p.2.2.2.2.2.2.2.2.2.2.1 p.2.2.2.2.2.2.2.2.2.2.2.1 p.2.2.2.2.2.2.2.2.2.2.2.2.1 p.2.2.2.2.2.2.2.2.2.2.2.2.2.1 p.2.2.2.2.2.2.2.2.2.2.2.2.2.2.1 p.2.2.2.2.2.2.2.2.2.2.2.2.2.2.2.1 p.2.2.2.2.2.2.2.2.2.2.2.2.2.2.2.2.1 p.2.2.2.2.2.2.2.2.2.2.2.2.2.2.2.2.2.1 p.2.2.2.2.2.2.2.2.2.2.2.2.2.2.2.2.2.2.1 p.2.2.2.2.2.2.2.2.2.2.2.2.2.2.2.2.2.2.2.1 p.2.2.2.2.2.2.2.2.2.2.2.2.2.2.2.2.2.2.2.2.1 p.2.2.2.2.2.2.2.2.2.2.2.2.2.2.2.2.2.2.2.2.2.1 p.2.2.2.2.2.2.2.2.2.2.2.2.2.2.2.2.2.2.2.2.2.2.1 p.2.2.2.2.2.2.2.2.2.2.2.2.2.2.2.2.2.2.2.2.2.2.2.1 p.2.2.2.2.2.2.2.2.2.2.2.2.2.2.2.2.2.2.2.2.2.2.2.2.1 p.2.2.2.2.2.2.2.2.2.2.2.2.2.2.2.2.2.2.2.2.2.2.2.2.2.1 p.2.2.2.2.2.2.2.2.2.2.2.2.2.2.2.2.2.2.2.2.2.2.2.2.2.2.1 p.2.2.2.2.2.2.2.2.2.2.2.2.2.2.2.2.2.2.2.2.2.2.2.2.2.2.2.1 p.2.2.2.2.2.2.2.2.2.2.2.2.2.2.2.2.2.2.2.2.2.2.2.2.2.2.2.2.1 p.2.2.2.2.2.2.2.2.2.2.2.2.2.2.2.2.2.2.2.2.2.2.2.2.2.2.2.2.2.1 p.2.2.2.2.2.2.2.2.2.2.2.2.2.2.2.2.2.2.2.2.2.2.2.2.2.2.2.2.2.2.1 p.2.2.2.2.2.2.2.2.2.2.2.2.2.2.2.2.2.2.2.2.2.2.2.2.2.2.2.2.2.2.2.1 p.2.2.2.2.2.2.2.2.2.2.2.2.2.2.2.2.2.2.2.2.2.2.2.2.2.2.2.2.2.2.2.2.1 p.2.2.2.2.2.2.2.2.2.2.2.2.2.2.2.2.2.2.2.2.2.2.2.2.2.2.2.2.2.2.2.2.2.1 p.2.2.2.2.2.2.2.2.2.2.2.2.2.2.2.2.2.2.2.2.2.2.2.2.2.2.2.2.2.2.2.2.2.2.1 p.2.2.2.2.2.2.2.2.2.2.2.2.2.2.2.2.2.2.2.2.2.2.2.2.2.2.2.2.2.2.2.2.2.2.2.1 p.2.2.2.2.2.2.2.2.2.2.2.2.2.2.2.2.2.2.2.2.2.2.2.2.2.2.2.2.2.2.2.2.2.2.2.2.1 p.2.2.2.2.2.2.2.2.2.2.2.2.2.2.2.2.2.2.2.2.2.2.2.2.2.2.2.2.2.2.2.2.2.2.2.2.2.1 p.2.2.2.2.2.2.2.2.2.2.2.2.2.2.2.2.2.2.2.2.2.2.2.2.2.2.2.2.2.2.2.2.2.2.2.2.2.2.1 p.2.2.2.2.2.2.2.2.2.2.2.2.2.2.2.2.2.2.2.2.2.2.2.2.2.2.2.2.2.2.2.2.2.2.2.2.2.2.2.1 p.2.2.2.2.2.2.2.2.2.2.2.2.2.2.2.2.2.2.2.2.2.2.2.2.2.2.2.2.2.2.2.2.2.2.2.2.2.2.2.2.1 p.2.2.2.2.2.2.2.2.2.2.2.2.2.2.2.2.2.2.2.2.2.2.2.2.2.2.2.2.2.2.2.2.2.2.2.2.2.2.2.2.2.1 p.2.2.2.2.2.2.2.2.2.2.2.2.2.2.2.2.2.2.2.2.2.2.2.2.2.2.2.2.2.2.2.2.2.2.2.2.2.2.2.2.2.2.1 p.2.2.2.2.2.2.2.2.2.2.2.2.2.2.2.2.2.2.2.2.2.2.2.2.2.2.2.2.2.2.2.2.2.2.2.2.2.2.2.2.2.2.2.1 p.2.2.2.2.2.2.2.2.2.2.2.2.2.2.2.2.2.2.2.2.2.2.2.2.2.2.2.2.2.2.2.2.2.2.2.2.2.2.2.2.2.2.2.2.1 p.2.2.2.2.2.2.2.2.2.2.2.2.2.2.2.2.2.2.2.2.2.2.2.2.2.2.2.2.2.2.2.2.2.2.2.2.2.2.2.2.2.2.2.2.2.1 p.2.2.2.2.2.2.2.2.2.2.2.2.2.2.2.2.2.2.2.2.2.2.2.2.2.2.2.2.2.2.2.2.2.2.2.2.2.2.2.2.2.2.2.2.2.2.1 p.2.2.2.2.2.2.2.2.2.2.2.2.2.2.2.2.2.2.2.2.2.2.2.2.2.2.2.2.2.2.2.2.2.2.2.2.2.2.2.2.2.2.2.2.2.2.2.1 p.2.2.2.2.2.2.2.2.2.2.2.2.2.2.2.2.2.2.2.2.2.2.2.2.2.2.2.2.2.2.2.2.2.2.2.2.2.2.2.2.2.2.2.2.2.2.2.2.1 p.2.2.2.2.2.2.2.2.2.2.2.2.2.2.2.2.2.2.2.2.2.2.2.2.2.2.2.2.2.2.2.2.2.2.2.2.2.2.2.2.2.2.2.2.2.2.2.2.2
theorem some_par : Nonempty Par := ⟨⟨[], aWorld 1, [], fun _ => none, fun _ => none, fun _ => none, default, 0, none, none, 0, default, #[], (start (default : Program)).1.drawn, 0, (start (default : Program)).1.os, fun _ _ => True, fun _ _ => True, default, 0, 0, .none, fun _ => none, 0, 0, 0, 0, [], 0, 0, 0, 0, 0, 0, 0, 0, 0, 0, [], [], [], 0, 0, 0, [], [], none, none, #[], #[]⟩⟩
@[irreducible] noncomputable def cc : Par := @Classical.epsilon Par some_par fun p => ¬ P1 p
@[irreducible] noncomputable def cs : List Nat := by with_unfolding_all exact cc.1
@[irreducible] noncomputable def w : World := by with_unfolding_all exact cc.2.1
@[irreducible] noncomputable def loose : List Str := by with_unfolding_all exact cc.2.2.1
@[irreducible] noncomputable def mean : ExcName → Option Value := by with_unfolding_all exact cc.2.2.2.1
@[irreducible] noncomputable def mg : Str → Option Value := by with_unfolding_all exact cc.2.2.2.2.1
@[irreducible] noncomputable def mb : Str → Option Value := by with_unfolding_all exact cc.2.2.2.2.2.1
@[irreducible] noncomputable def prog : Program := by with_unfolding_all exact cc.2.2.2.2.2.2.1
@[irreducible] noncomputable def dep : Nat := by with_unfolding_all exact cc.2.2.2.2.2.2.2.1
@[irreducible] noncomputable def fra : Option (List Env) := by with_unfolding_all exact cc.2.2.2.2.2.2.2.2.1
@[irreducible] noncomputable def gua : Option (List Code) := by with_unfolding_all exact cc.2.2.2.2.2.2.2.2.2.1
@[irreducible] noncomputable def uni : Nat := by with_unfolding_all exact cc.2.2.2.2.2.2.2.2.2.2.1
@[irreducible] noncomputable def hp0 : Heap := by with_unfolding_all exact cc.2.2.2.2.2.2.2.2.2.2.2.1
@[irreducible] noncomputable def gn : Array GenState := by with_unfolding_all exact cc.2.2.2.2.2.2.2.2.2.2.2.2.1
@[irreducible] noncomputable def dr : Drawn := by with_unfolding_all exact cc.2.2.2.2.2.2.2.2.2.2.2.2.2.1
@[irreducible] noncomputable def tk0 : Nat := by with_unfolding_all exact cc.2.2.2.2.2.2.2.2.2.2.2.2.2.2.1
@[irreducible] noncomputable def os0 : OsState := by with_unfolding_all exact cc.2.2.2.2.2.2.2.2.2.2.2.2.2.2.2.1
@[irreducible] noncomputable def Q : Flow → Shared → Prop := by with_unfolding_all exact cc.2.2.2.2.2.2.2.2.2.2.2.2.2.2.2.2.1
@[irreducible] noncomputable def E : Value → Shared → Prop := by with_unfolding_all exact cc.2.2.2.2.2.2.2.2.2.2.2.2.2.2.2.2.2.1
@[irreducible] noncomputable def h₀ : Heap := by with_unfolding_all exact cc.2.2.2.2.2.2.2.2.2.2.2.2.2.2.2.2.2.2.1
@[irreducible] noncomputable def L : Addr := by with_unfolding_all exact cc.2.2.2.2.2.2.2.2.2.2.2.2.2.2.2.2.2.2.2.1
@[irreducible] noncomputable def f : Addr := by with_unfolding_all exact cc.2.2.2.2.2.2.2.2.2.2.2.2.2.2.2.2.2.2.2.2.1
@[irreducible] noncomputable def cdv : Value := by with_unfolding_all exact cc.2.2.2.2.2.2.2.2.2.2.2.2.2.2.2.2.2.2.2.2.2.1
@[irreducible] noncomputable def m₀ : Str → Option Value := by with_unfolding_all exact cc.2.2.2.2.2.2.2.2.2.2.2.2.2.2.2.2.2.2.2.2.2.2.1
@[irreducible] noncomputable def lx : Addr := by with_unfolding_all exact cc.2.2.2.2.2.2.2.2.2.2.2.2.2.2.2.2.2.2.2.2.2.2.2.1
@[irreducible] noncomputable def q : Nat := by with_unfolding_all exact cc.2.2.2.2.2.2.2.2.2.2.2.2.2.2.2.2.2.2.2.2.2.2.2.2.1
@[irreducible] noncomputable def n : Nat := by with_unfolding_all exact cc.2.2.2.2.2.2.2.2.2.2.2.2.2.2.2.2.2.2.2.2.2.2.2.2.2.1
@[irreducible] noncomputable def wd : Nat := by with_unfolding_all exact cc.2.2.2.2.2.2.2.2.2.2.2.2.2.2.2.2.2.2.2.2.2.2.2.2.2.2.1
@[irreducible] noncomputable def rows : List (List Nat) := by with_unfolding_all exact cc.2.2.2.2.2.2.2.2.2.2.2.2.2.2.2.2.2.2.2.2.2.2.2.2.2.2.2.1
@[irreducible] noncomputable def tq : Tok := by with_unfolding_all exact cc.2.2.2.2.2.2.2.2.2.2.2.2.2.2.2.2.2.2.2.2.2.2.2.2.2.2.2.2.1
@[irreducible] noncomputable def tn : Tok := by with_unfolding_all exact cc.2.2.2.2.2.2.2.2.2.2.2.2.2.2.2.2.2.2.2.2.2.2.2.2.2.2.2.2.2.1
@[irreducible] noncomputable def tw : Tok := by with_unfolding_all exact cc.2.2.2.2.2.2.2.2.2.2.2.2.2.2.2.2.2.2.2.2.2.2.2.2.2.2.2.2.2.2.1
@[irreducible] noncomputable def tt : Tok := by with_unfolding_all exact cc.2.2.2.2.2.2.2.2.2.2.2.2.2.2.2.2.2.2.2.2.2.2.2.2.2.2.2.2.2.2.2.1
@[irreducible] noncomputable def D1 : Addr := by with_unfolding_all exact cc.2.2.2.2.2.2.2.2.2.2.2.2.2.2.2.2.2.2.2.2.2.2.2.2.2.2.2.2.2.2.2.2.1
@[irreducible] noncomputable def D2 : Addr := by with_unfolding_all exact cc.2.2.2.2.2.2.2.2.2.2.2.2.2.2.2.2.2.2.2.2.2.2.2.2.2.2.2.2.2.2.2.2.2.1
@[irreducible] noncomputable def DR : Addr := by with_unfolding_all exact cc.2.2.2.2.2.2.2.2.2.2.2.2.2.2.2.2.2.2.2.2.2.2.2.2.2.2.2.2.2.2.2.2.2.2.1
@[irreducible] noncomputable def DW : Addr := by with_unfolding_all exact cc.2.2.2.2.2.2.2.2.2.2.2.2.2.2.2.2.2.2.2.2.2.2.2.2.2.2.2.2.2.2.2.2.2.2.2.1
@[irreducible] noncomputable def DC : Addr := by with_unfolding_all exact cc.2.2.2.2.2.2.2.2.2.2.2.2.2.2.2.2.2.2.2.2.2.2.2.2.2.2.2.2.2.2.2.2.2.2.2.2.1
@[irreducible] noncomputable def DS : Addr := by with_unfolding_all exact cc.2.2.2.2.2.2.2.2.2.2.2.2.2.2.2.2.2.2.2.2.2.2.2.2.2.2.2.2.2.2.2.2.2.2.2.2.2.1
@[irreducible] noncomputable def ys : List Value := by with_unfolding_all exact cc.2.2.2.2.2.2.2.2.2.2.2.2.2.2.2.2.2.2.2.2.2.2.2.2.2.2.2.2.2.2.2.2.2.2.2.2.2.2.1
@[irreducible] noncomputable def vsC : List Value := by with_unfolding_all exact cc.2.2.2.2.2.2.2.2.2.2.2.2.2.2.2.2.2.2.2.2.2.2.2.2.2.2.2.2.2.2.2.2.2.2.2.2.2.2.2.1
@[irreducible] noncomputable def vsS : List Value := by with_unfolding_all exact cc.2.2.2.2.2.2.2.2.2.2.2.2.2.2.2.2.2.2.2.2.2.2.2.2.2.2.2.2.2.2.2.2.2.2.2.2.2.2.2.2.1
@[irreducible] noncomputable def e1 : Nat := by with_unfolding_all exact cc.2.2.2.2.2.2.2.2.2.2.2.2.2.2.2.2.2.2.2.2.2.2.2.2.2.2.2.2.2.2.2.2.2.2.2.2.2.2.2.2.2.1
@[irreducible] noncomputable def eC : Nat := by with_unfolding_all exact cc.2.2.2.2.2.2.2.2.2.2.2.2.2.2.2.2.2.2.2.2.2.2.2.2.2.2.2.2.2.2.2.2.2.2.2.2.2.2.2.2.2.2.1
@[irreducible] noncomputable def eS : Nat := by with_unfolding_all exact cc.2.2.2.2.2.2.2.2.2.2.2.2.2.2.2.2.2.2.2.2.2.2.2.2.2.2.2.2.2.2.2.2.2.2.2.2.2.2.2.2.2.2.2.1
@[irreducible] noncomputable def R : List (Addr × Obj) := by with_unfolding_all exact cc.2.2.2.2.2.2.2.2.2.2.2.2.2.2.2.2.2.2.2.2.2.2.2.2.2.2.2.2.2.2.2.2.2.2.2.2.2.2.2.2.2.2.2.2.1
@[irreducible] noncomputable def ex : List (Addr × Obj) := by with_unfolding_all exact cc.2.2.2.2.2.2.2.2.2.2.2.2.2.2.2.2.2.2.2.2.2.2.2.2.2.2.2.2.2.2.2.2.2.2.2.2.2.2.2.2.2.2.2.2.2.1
@[irreducible] noncomputable def rest : Option Value := by with_unfolding_all exact cc.2.2.2.2.2.2.2.2.2.2.2.2.2.2.2.2.2.2.2.2.2.2.2.2.2.2.2.2.2.2.2.2.2.2.2.2.2.2.2.2.2.2.2.2.2.2.1
@[irreducible] noncomputable def there : Option Value := by with_unfolding_all exact cc.2.2.2.2.2.2.2.2.2.2.2.2.2.2.2.2.2.2.2.2.2.2.2.2.2.2.2.2.2.2.2.2.2.2.2.2.2.2.2.2.2.2.2.2.2.2.2.1
@[irreducible] noncomputable def ps1 : Array Value := by with_unfolding_all exact cc.2.2.2.2.2.2.2.2.2.2.2.2.2.2.2.2.2.2.2.2.2.2.2.2.2.2.2.2.2.2.2.2.2.2.2.2.2.2.2.2.2.2.2.2.2.2.2.2.1
@[irreducible] noncomputable def ps2 : Array Value := by with_unfolding_all exact cc.2.2.2.2.2.2.2.2.2.2.2.2.2.2.2.2.2.2.2.2.2.2.2.2.2.2.2.2.2.2.2.2.2.2.2.2.2.2.2.2.2.2.2.2.2.2.2.2.2
theorem core : P0 cs w loose mean mg mb prog dep fra gua uni hp0 gn dr tk0 os0 Q E h₀ L f cdv m₀ lx q n wd rows tq tn tw tt D1 D2 DR DW DC DS ys vsC vsS e1 eC eS R ex rest there ps1 ps2 := by
  unfold P0
  intro G hA hu K F N hR TF1 TF2 hyl hIS hIC post
  refine hideC fun D_ K_ => ?_
  obtain ⟨hq, hn3, hn5, hnq7, hwd7, hwd16, hrl, hm3, hqm⟩ := K
  refine K_ ?_
  clear K_ D_
  have XX := G.X
  have T := G.T
  dsimp only [p4, lawEnv, List.drop] at post ⊢
  have hq23 : 2 ≤ q ∧ q ≤ 3 := by omega
  iterate 21 walk_at "go"
  have e2 : (2 : Int) ^ ((wd : Nat) : Int).toNat = ((2 ^ wd : Nat) : Int) := by rw [Int.toNat_natCast, Int.natCast_pow]; rfl
  rw [e2]
  have hb1 : 1 ≤ 2 ^ wd := Nat.one_le_two_pow
  have hb2 : 2 ^ wd < 100000 := Nat.lt_of_le_of_lt (Nat.pow_le_pow_right (by decide) hwd16) (by decide)
  have hsub2 : Sub h₀ hp0 := F.keep
  have hcf := sq_fig hq hnq7 hwd7 rows
  refine put_in_spec (A := ⟨none, dep, fra, gua, uni⟩) (s := ⟨_, _, _, _, _⟩) (cs := sqFold q n rows (q ^ n)) (n := n) (q := q) (big := 2 ^ wd) G hsub2 (by show dep ≤ 600; omega) rfl (N.get (a := DS) (by k_mem)) (N.fresh (a := DS) (by k_mem)) hIS (sqFold_length _ _ _ _) (by omega) (by omega) (by omega) hb1 hb2 (fun x hx => by have := hcf x hx; omega) ?_
  intro h3 tk3 t3 hs3
  have F3 := subF F hs3
  have N3 := subN N hs3
  clear hb1 hb2 e2 hcf
  iterate 8 walk_at "go"
  refine len_led (its := ys.toArray) (ep := e1) N3 (by k_mem) (by rw [hyl]; omega) ?_
  intro t4 tk4
  rw [hyl]
  iterate 1 walk_at "go"
  have e4 : (q : Int) ^ ((rows.length : Nat) : Int).toNat = ((q ^ rows.length : Nat) : Int) := by rw [Int.toNat_natCast, Int.natCast_pow]
  rw [e4]
  have hq1 : 0 < q ^ rows.length := Nat.pow_pos (by omega)
  refine PyProof.Rows.mul_int (hm := IntMulOk.of_right (intBits_le_iff.mpr (by rw [Int.natAbs_natCast]; exact Nat.lt_of_le_of_lt hqm (by decide)))) ?_
  rw [← e4, Int.toNat_natCast, back_math hq (fun r hr => (hrl r hr).1)]
  clear e4
  iterate 7 walk_at "go"
  have e5 : (q : Int) ^ ((n : Nat) : Int).toNat = ((q ^ n : Nat) : Int) := by rw [Int.toNat_natCast, Int.natCast_pow]
  rw [e5]
  clear e5
  have hcl : (countsOf n (codeOf q n rows)).reverse.length = n + 1 := by rw [List.length_reverse, countsOf_length]
  have hcf : ∀ x ∈ (countsOf n (codeOf q n rows)).reverse, x < 2 ^ wd := fun x hx => (cnt_fig hwd7 rows hqm x (List.mem_reverse.mp hx)).2
  have hqn := qn_lt hq hnq7
  have hqn0 : 0 < q ^ n := Nat.pow_pos (by omega)
  have hbV := und_bits hcl hn5 hwd16 hcf hqn
  refine int_divmod_use (A := ⟨none, dep, fra, gua, uni⟩) (s := ⟨_, _, _, _, _⟩) (X := q ^ n * und wd (countsOf n (codeOf q n rows)).reverse) (b := q ^ n) G F3 N3 hR (by show dep ≤ 540; omega) rfl hqn0 (by omega) (by omega) (TF1.tabS F3 N3 (.head _) (fun x hx => .tail _ (.tail _ (.tail _ (.tail _ (.tail _ (List.mem_append_right _ hx)))))) (N3.fresh (.head _))) (TF2.tabS F3 N3 (.tail _ (.head _)) (fun x hx => .tail _ (.tail _ (.tail _ (.tail _ (.tail _ (List.mem_append_right _ hx)))))) (N3.fresh (.tail _ (.head _)))) ?_
  intro h5 tk5 r5 t5 t6 ps3 ps4 ex2 F5 N5 TF3 TF4 hex2 hb5 hr5
  rw [Nat.mul_div_cancel_left _ hqn0, Nat.mul_mod_right] at N5
  simp only [List.cons_append, List.append_assoc] at N5
  have hex2R : ∀ x ∈ ex2, @Ne Nat x.1 30 ∧ @Ne Nat x.1 37 := fun x hx => ⟨ex_ne hex2 (N5.get (a := 30) (.tail _ (.head _))) (not_code_tab TF3) x hx, ex_ne hex2 (N5.get (a := 37) (.tail _ (.tail _ (.head _)))) (not_code_tab TF4) x hx⟩
  have hr5n : @Ne Nat r5 30 ∧ @Ne Nat r5 37 := by
    constructor
    · intro z
      have := N3.get (a := 30) (.head _)
      rw [← z, hr5] at this; cases this
    · intro z
      have := N3.get (a := 37) (.tail _ (.head _))
      rw [← z, hr5] at this; cases this
  clear F3 N3
  iterate 21 walk_at "go"
  with_reducible rename Fr _ _ _ _ => F7
  with_reducible rename News _ _ _ _ => N7
  have hvl : vsC.length = n + 1 := by rw [hIC.length, List.length_map, countsOf_length]
  refine' krv_ints F7 N7 (N7.isList (a := DC) (by k_mem)) (IsPart.int _ _) hIC ?_ ?s ?t ?z
  case s => with_unfolding_all rfl
  case t => kmk_pure
  case z => rw [List.size_toArray, hvl, sizeLine_eq]; omega
  intro D8 ws8 h8 F8 N8 l8 hI8 _
  rw [← List.map_reverse] at hI8
  clear F7 N7
  have hD8 : @Ne Nat D8 30 ∧ @Ne Nat D8 37 := ⟨Nat.ne_of_gt (l8 (30, tabObj ps3) (by k_mem)), Nat.ne_of_gt (l8 (37, tabObj ps4) (by k_mem))⟩
  iterate 4 walk_at "go"
  have hrest : ∀ x ∈ (DS, listOf vsS.toArray eS) :: (DC, listOf vsC.toArray eC) :: (D1, listOf ys.toArray e1) :: (R ++ (ex ++ ex2)), @Ne Nat x.1 37 := fun x hx => by
    rw [← List.append_assoc] at hx
    rcases List.mem_append.mp (show x ∈ ((DS, listOf vsS.toArray eS) :: (DC, listOf vsC.toArray eC) :: (D1, listOf ys.toArray e1) :: (R ++ ex)) ++ ex2 from hx) with hx | hx
    · exact (hR x hx).2
    · exact (hex2R x hx).2
  refine digits2int_use (A := ⟨none, dep, fra, gua, uni⟩) (s := ⟨_, _, _, _, _⟩) (ns := (countsOf n (codeOf q n rows)).reverse) G F8 N8 (UpdF.tail hD8.2 (UpdF.tail hr5n.2 (UpdF.tail (by decide : @Ne Nat 30 37) (UpdF.head hrest)))) TF4 (fun x hx => .tail _ (.tail _ (.tail _ (.tail _ (.tail _ (.tail _ (.tail _ (List.mem_append_right _ (List.mem_append_right _ hx))))))))) (by show dep ≤ 600; omega) (by omega) (by omega) (by omega) hcf (.head _) hI8 ?_
  intro h9 tk9 t9 ps5 ex3 F9 N9 TF9 hex9
  simp only [List.cons_append, List.append_assoc] at N9
  clear F8 N8
  have h30 := N9.get (a := 30) (by k_mem)
  iterate 6 walk_at "go"
  rw [if_neg (by decide)]
  iterate 2 walk_at "go"
  with_reducible rename Fr _ _ _ _ => F10
  with_reducible rename News _ _ _ _ => N10
  refine post _ _ ps3 ps5 _ (fr_upd1 F10 rfl) (fun x hx => N10 x ?_)
  rcases List.mem_cons.mp hx with rfl | hx
  · k_mem
  rcases List.mem_cons.mp hx with rfl | hx
  · k_mem
  exact .tail _ (.tail _ (.tail _ (.tail _ (.tail _ (.tail _ (.tail _ (.tail _ (List.mem_append_left _ hx))))))))
theorem all : ∀ p : Par, P1 p := fun p => Classical.byContradiction fun hn => (@Classical.epsilon_spec Par (fun p => ¬ P1 p) ⟨p, hn⟩) (by with_unfolding_all exact core)
end TCc
theorem tailC {w : World} {loose : List Str} {mean : ExcName → Option Value} {mg mb : Str → Option Value} {prog : Program} {A : Around} {s : Shared} {Q : Flow → Shared → Prop} {E : Value → Shared → Prop} {h₀ : Heap} {L f : Addr} {cdv : Value} {m₀ : Str → Option Value} (G : Gd w loose mean mg mb h₀) (hA : A.depth ≤ 400) (hu : A.units ≤ 2000) (hh : A.handled = none)
   {cs : List Nat} {lx : Addr} {q n wd : Nat} {rows : List (List Nat)} (K : Num q n wd rows) {tq tn tw tt : Tok} {D1 D2 DR DW DC DS : Addr} {ys vsC vsS : List Value} {e1 eC eS : Nat} {R ex : List (Addr × Obj)} {rest there : Option Value} {ps1 ps2 : Array Value}
   (F : Fr h₀ L s.heap (upd (mS rest there DS DC DW DR lx cs tt D2 D1 wd tw n tn q tq) m₀))
   (N : News h₀ L s.heap ((30, tabObj ps1) :: (37, tabObj ps2) :: (DS, listOf vsS.toArray eS) :: (DC, listOf vsC.toArray eC) :: (D1, listOf ys.toArray e1) :: (R ++ ex)))
   (hR : ∀ x ∈ (DS, listOf vsS.toArray eS) :: (DC, listOf vsC.toArray eC) :: (D1, listOf ys.toArray e1) :: (R ++ ex), @Ne Nat x.1 30 ∧ @Ne Nat x.1 37) (TF1 : TabF h₀ ex 30 ps1 32 4 q1) (TF2 : TabF h₀ ex 37 ps2 47 4 q2)
   (hyl : ys.toArray.size = rows.length) (hIS : IntsAre vsS ((sqFold q n rows (q ^ n)).map Int.ofNat)) (hIC : IntsAre vsC ((countsOf n (codeOf q n rows)).map Int.ofNat))
   (post : ∀ h' tk ps1 ps2 back, Fr h₀ L h' (upd ((Str.ofString "back", back) :: mS rest there DS DC DW DR lx cs tt D2 D1 wd tw n tn q tq) m₀) →
     News h₀ L h' ((30, tabObj ps1) :: (37, tabObj ps2) :: R) →
     wpAny (model prog w) A (execs (p4.1.2.1.drop 11) (lawEnv L f cdv)) Q E { s with heap := h', toks := tk }) :
   wpAny (model prog w) A (execs (p4.1.2.1.drop 9) (lawEnv L f cdv)) Q E s := by
  refine hideC fun D_ K_ => ?_
  obtain ⟨hand, dep, fra, gua, uni⟩ := A
  refine K_ ?_
  clear K_ D_
  refine hideC fun D_ K_ => ?_
  obtain ⟨hp0, gn, dr, tk0, os0⟩ := s
  refine K_ ?_
  clear K_ D_
  dsimp only at hh
  subst hh
  exact TCc.all ⟨cs, w, loose, mean, mg, mb, prog, dep, fra, gua, uni, hp0, gn, dr, tk0, os0, Q, E, h₀, L, f, cdv, m₀, lx, q, n, wd, rows, tq, tn, tw, tt, D1, D2, DR, DW, DC, DS, ys, vsC, vsS, e1, eC, eS, R, ex, rest, there, ps1, ps2⟩ G hA hu K F N hR TF1 TF2 hyl hIS hIC post
end
end Mine
end
section
open PySem PySem.W PyProof.Rows PySem.Calls
set_option maxRecDepth 100000
set_option maxHeartbeats 8000000
set_option linter.unusedVariables false
set_option linter.unusedSimpArgs false
namespace Mine
theorem fill_TDx : ∀ (w : World) (h : Heap), (hd.heap_1 w.params).In h → PySem.Challenge.rw_qu0050_01.foot = 8 := by
  k_fill; intros; rfl
section
theorem cnt_count (c : Nat) : ∀ l : List Nat, cnt c l = ((l.count c : Nat) : Int)
  | [] => by rw [cnt_nil]; rfl
  | n :: r => by
    rw [cnt_cons, cnt_count c r, List.count_cons]
    by_cases h : n = c
    · subst h; simp; omega
    · simp [h]
namespace TDc
noncomputable def P0 (cs : List Nat) (P : LexP (S cs)) (w : World) (loose : List Str) (mean : ExcName → Option Value) (mg : Str → Option Value) (mb : Str → Option Value) (prog : Program) (dep : Nat) (fra : Option (List Env)) (gua : Option (List Code)) (uni : Nat) (hp0 : Heap) (gn : Array GenState) (dr : Drawn) (tk0 : Nat) (os0 : OsState) (Q : Flow → Shared → Prop) (E : Value → Shared → Prop) (h₀ : Heap) (L : Addr) (f : Addr) (cdv : Value) (m₀ : Str → Option Value) (q : Nat) (n : Nat) (wd : Nat) (tq : Tok) (tn : Tok) (tw : Tok) (tt : Tok) (tp : Tok) (tl : Tok) (D1 : Addr) (D2 : Addr) (DR : Addr) (DW : Addr) (DC : Addr) (DS : Addr) (rest : Option Value) (there : Option Value) (back : Option Value) (ps1 : Array Value) (ps2 : Array Value) (ps4 : Array Value) (ea : Nat) (ep : Nat) (p : Nat) (oc : Obj) (cvs : Array Value) (ct : Tok) : Prop :=
  ∀ (G : Gd w loose mean mg mb h₀) (hA : dep ≤ 400) (hu : uni ≤ 2000) (F : Fr h₀ L hp0 (upd ((Str.ofString "back", back) :: mS rest there DS DC DW DR P.lx cs tt D2 D1 wd tw n tn q tq) m₀)) (N : News h₀ L hp0 ((30, tabObj ps1) :: (37, tabObj ps2) :: (P.c', oc) :: (110, tabObj ps4) :: P.objs p tp ea (lineAt cs p) tl [] ep)) (hpre : ∀ x ∈ (30, tabObj ps1) :: (37, tabObj ps2) :: (P.c', oc) :: [(110, tabObj ps4)], x.1 ∉ P.addrs) (d1 : oc.data = .fields cvs) (d2 : cvs[1]? = some (.str q3 ct)) (hcs : cs.length < 1000) (hp : p ≤ cs.length) (hT : LexT (cs.drop p) [101, 110, 100] []) (post : ∀ h' tk, Sub h₀ h' → (∃ ps, h'.get? 110 = some (tabObj ps)) → (∃ ps, h'.get? 37 = some (tabObj ps)) → (∃ ps, h'.get? 30 = some (tabObj ps)) → Q (.ret (.bool true)) ⟨h', gn, dr, tk, os0⟩),
   wpAny (model prog w) ⟨none, dep, fra, gua, uni⟩ (execs (p4.1.2.1.drop 11) (lawEnv L f cdv)) Q E ⟨hp0, gn, dr, tk0, os0⟩
noncomputable abbrev Par : Type := (cs : List Nat) × ((LexP (S cs)) × (World) × (List Str) × (ExcName → Option Value) × (Str → Option Value) × (Str → Option Value) × (Program) × (Nat) × (Option (List Env)) × (Option (List Code)) × (Nat) × (Heap) × (Array GenState) × (Drawn) × (Nat) × (OsState) × (Flow → Shared → Prop) × (Value → Shared → Prop) × (Heap) × (Addr) × (Addr) × (Value) × (Str → Option Value) × (Nat) × (Nat) × (Nat) × (Tok) × (Tok) × (Tok) × (Tok) × (Tok) × (Tok) × (Addr) × (Addr) × (Addr) × (Addr) × (Addr) × (Addr) × (Option Value) × (Option Value) × (Option Value) × (Array Value) × (Array Value) × (Array Value) × (Nat) × (Nat) × (Nat) × (Obj) × (Array Value) × (Tok))
noncomputable def P1 (p : Par) : Prop := P0 p.1 p.2.1 p.2.2.1 p.2.2.2.1 p.2.2.2.2.1 p.2.2.2.2.2.1 p.2.2.2.2.2.2.1 p.2.2.2.2.2.2.2.1 p.2.2.2.2.2.2.2.2.1 p.2.2.2.2.2.2.2.2.2.1 p.2.2.2.2.2.2.2.2.2.2.1 p.2.2.2.2.2.2.2.2.2.2.2.1 p.2.2.2.2.2.2.2.2.2.2.2.2.1 p.2.2.2.2.2.2.2.2.2.2.2.2.2.1 p.2.2.2.2.2.2.2.2.2.2.2.2.2.2.1 p.2.2.2.2.2.2.2.2.2.2.2.2.2.2.2.1 p.2.2.2.2.2.2.2.2.2.2.2.2.2.2.2.2.1 p.2.2.2.2.2.2.2.2.2.2.2.2.2.2.2.2.2.1 p.2.2.2.2.2.2.2.2.2.2.2.2.2.2.2.2.2.2.1 p.2.2.2.2.2.2.2.2.2.2.2.2.2.2.2.2.2.2.2.1 p.2.2.2.2.2.2.2.2.2.2.2.2.2.2.2.2.2.2.2.2.1 p.2.2.2.2.2.2.2.2.2.2.2.2.2.2.2.2.2.2.2.2.2.1 p.2.2.2.2.2.2.2.2.2.2.2.2.2.2.2.2.2.2.2.2.2.2.1 p.2.2.2.2.2.2.2.2.2.2.2.2.2.2.2.2.2.2.2.2.2.2.2.1 p.2.2.2.2.2.2.2.2.2.2.2.2.2.2.2.2.2.2.2.2.2.2.2.2.1 p.2.2.2.2.2.2.2.2.2.2.2.2.2.2.2.2.2.2.2.2.2.2.2.2.2.1 p.2.2.2.2.2.2.2.2.2.2.2.2.2.2.2.2.2.2.2.2.2.2.2.2.2.2.1 p.2.2.2.2.2.2.2.2.2.2.2.2.2.2.2.2.2.2.2.2.2.2.2.2.2.2.2.1 p.2.2.2.2.2.2.2.2.2.2.2.2.2.2.2.2.2.2.2.2.2.2.2.2.2.2.2.2.1 p.2.2.2.2.2.2.2.2.2.2.2.2.2.2.2.2.2.2.2.2.2.2.2.2.2.2.2.2.2.1 p.2.2.2.2.2.2.2.2.2.2.2.2.2.2.2.2.2.2.2.2.2.2.2.2.2.2.2.2.2.2.1 p.2.2.2.2.2.2.2.2.2.2.2.2.2.2.2.2.2.2.2.2.2.2.2.2.2.2.2.2.2.2.2.1 p.2.2.2.2.2.2.2.2.2.2.2.2.2.2.2.2.2.2.2.2.2.2.2.2.2.2.2.2.2.2.2.2.1 p.2.2.2.2.2.2.2.2.2.2.2.2.2.2.2.2.2.2.2.2.2.2.2.2.2.2.2.2.2.2.2.2.2.1 p.2.2.2.2.2.2.2.2.2.2.2.2.2.2.2.2.2.2.2.2.2.2.2.2.2.2.2.2.2.2.2.2.2.2.1 p.2.2.2.2.2.2.2.2.2.2.2.2.2.2.2.2.2.2.2.2.2.2.2.2.2.2.2.2.2.2.2.2.2.2.2.1 p.2.2.2.2.2.2.2.2.2.2.2.2.2.2.2.2.2.2.2.2.2.2.2.2.2.2.2.2.2.2.2.2.2.2.2.2.1 p.2.2.2.2.2.2.2.2.2.2.2.2.2.2.2.2.2.2.2.2.2.2.2.2.2.2.2.2.2.2.2.2.2.2.2.2.2.1 p.2.2.2.2.2.2.2.2.2.2.2.2.2.2.2.2.2.2.2.2.2.2.2.2.2.2.2.2.2.2.2.2.2.2.2.2.2.2.1 p.2.2.2.2.2.2.2.2.2.2.2.2.2.2.2.2.2.2.2.2.2.2.2.2.2.2.2.2.2.2.2.2.2.2.2.2.2.2.2.1 p.2.2.2.2.2.2.2.2.2.2.2.2.2.2.2.2.2.2.2.2.2.2.2.2.2.2.2.2.2.2.2.2.2.2.2.2.2.2.2.2.1 p.2.2.2.2.2.2.2.2.2.2.2.2.2.2.2.2.2.2.2.2.2.2.2.2.2.2.2.2.2.2.2.2.2.2.2.2.2.2.2.2.2.1 p.2.2.2.2.2.2.2.2.2.2.2.2.2.2.2.2.2.2.2.2.2.2.2.2.2.2.2.2.2.2.2.2.2.2.2.2.2.2.2.2.2.2.1 p.2.2.2.2.2.2.2.2.2.2.2.2.2.2.2.2.2.2.2.2.2.2.2.2.2.2.2.2.2.2.2.2.2.2.2.2.2.2.2.2.2.2.2.1 p.2.2.2.2.2.2.2.2.2.2.2.2.2.2.2.2.2.2.2.2.2.2.2.2.2.2.2.2.2.2.2.2.2.2.2.2.2.2.2.2.2.2.2.2.1 p.2.2.2.2.2.2.2.2.2.2.2.2.2.2.2.2.2.2.2.2.2.2.2.2.2.2.2.2.2.2.2.2.2.2.2.2.2.2.2.2.2.2.2.2.2.1 p.2.2.2.2.2.2.2.2.2.2.2.2.2.2.2.2.2.2.2.2.2.2.2.2.2.2.2.2.2.2.2.2.2.2.2.2.2.2.2.2.2.2.2.2.2.2.1 p.2.2.2.2.2.2.2.2.2.2.2.2.2.2.2.2.2.2.2.2.2.2.2.2.2.2.2.2.2.2.2.2.2.2.2.2.2.2.2.2.2.2.2.2.2.2.2.1 p.2.2.2.2.2.2.2.2.2.2.2.2.2.2.2.2.2.2.2.2.2.2.2.2.2.2.2.2.2.2.2.2.2.2.2.2.2.2.2.2.2.2.2.2.2.2.2.2.1 p.2.2.2.2.2.2.2.2.2.2.2.2.2.2.2.2.2.2.2.2.2.2.2.2.2.2.2.2.2.2.2.2.2.2.2.2.2.2.2.2.2.2.2.2.2.2.2.2.2.1 p.2.2.2.2.2.2.2.2.2.2.2.2.2.2.2.2.2.2.2.2.2.2.2.2.2.2.2.2.2.2.2.2.2.2.2.2.2.2.2.2.2.2.2.2.2.2.2.2.2.2
theorem some_par : Nonempty Par := ⟨⟨[], lexP0, aWorld 1, [], fun _ => none, fun _ => none, fun _ => none, default, 0, none, none, 0, default, #[], (start (default : Program)).1.drawn, 0, (start (default : Program)).1.os, fun _ _ => True, fun _ _ => True, default, 0, 0, .none, fun _ => none, 0, 0, 0, 0, 0, 0, 0, 0, 0, 0, 0, 0, 0, 0, 0, none, none, none, #[], #[], #[], 0, 0, 0, { cls := .none, data := .seq #[] }, #[], 0⟩⟩
@[irreducible] noncomputable def cc : Par := @Classical.epsilon Par some_par fun p => ¬ P1 p
@[irreducible] noncomputable def cs : List Nat := by with_unfolding_all exact cc.1
@[irreducible] noncomputable def P : LexP (S cs) := by with_unfolding_all exact cc.2.1
@[irreducible] noncomputable def w : World := by with_unfolding_all exact cc.2.2.1
@[irreducible] noncomputable def loose : List Str := by with_unfolding_all exact cc.2.2.2.1
@[irreducible] noncomputable def mean : ExcName → Option Value := by with_unfolding_all exact cc.2.2.2.2.1
@[irreducible] noncomputable def mg : Str → Option Value := by with_unfolding_all exact cc.2.2.2.2.2.1
@[irreducible] noncomputable def mb : Str → Option Value := by with_unfolding_all exact cc.2.2.2.2.2.2.1
@[irreducible] noncomputable def prog : Program := by with_unfolding_all exact cc.2.2.2.2.2.2.2.1
@[irreducible] noncomputable def dep : Nat := by with_unfolding_all exact cc.2.2.2.2.2.2.2.2.1
@[irreducible] noncomputable def fra : Option (List Env) := by with_unfolding_all exact cc.2.2.2.2.2.2.2.2.2.1
@[irreducible] noncomputable def gua : Option (List Code) := by with_unfolding_all exact cc.2.2.2.2.2.2.2.2.2.2.1
@[irreducible] noncomputable def uni : Nat := by with_unfolding_all exact cc.2.2.2.2.2.2.2.2.2.2.2.1
@[irreducible] noncomputable def hp0 : Heap := by with_unfolding_all exact cc.2.2.2.2.2.2.2.2.2.2.2.2.1
@[irreducible] noncomputable def gn : Array GenState := by with_unfolding_all exact cc.2.2.2.2.2.2.2.2.2.2.2.2.2.1
@[irreducible] noncomputable def dr : Drawn := by with_unfolding_all exact cc.2.2.2.2.2.2.2.2.2.2.2.2.2.2.1
@[irreducible] noncomputable def tk0 : Nat := by with_unfolding_all exact cc.2.2.2.2.2.2.2.2.2.2.2.2.2.2.2.1
@[irreducible] noncomputable def os0 : OsState := by with_unfolding_all exact cc.2.2.2.2.2.2.2.2.2.2.2.2.2.2.2.2.1
@[irreducible] noncomputable def Q : Flow → Shared → Prop := by with_unfolding_all exact cc.2.2.2.2.2.2.2.2.2.2.2.2.2.2.2.2.2.1
@[irreducible] noncomputable def E : Value → Shared → Prop := by with_unfolding_all exact cc.2.2.2.2.2.2.2.2.2.2.2.2.2.2.2.2.2.2.1
@[irreducible] noncomputable def h₀ : Heap := by with_unfolding_all exact cc.2.2.2.2.2.2.2.2.2.2.2.2.2.2.2.2.2.2.2.1
@[irreducible] noncomputable def L : Addr := by with_unfolding_all exact cc.2.2.2.2.2.2.2.2.2.2.2.2.2.2.2.2.2.2.2.2.1
@[irreducible] noncomputable def f : Addr := by with_unfolding_all exact cc.2.2.2.2.2.2.2.2.2.2.2.2.2.2.2.2.2.2.2.2.2.1
@[irreducible] noncomputable def cdv : Value := by with_unfolding_all exact cc.2.2.2.2.2.2.2.2.2.2.2.2.2.2.2.2.2.2.2.2.2.2.1
@[irreducible] noncomputable def m₀ : Str → Option Value := by with_unfolding_all exact cc.2.2.2.2.2.2.2.2.2.2.2.2.2.2.2.2.2.2.2.2.2.2.2.1
@[irreducible] noncomputable def q : Nat := by with_unfolding_all exact cc.2.2.2.2.2.2.2.2.2.2.2.2.2.2.2.2.2.2.2.2.2.2.2.2.1
@[irreducible] noncomputable def n : Nat := by with_unfolding_all exact cc.2.2.2.2.2.2.2.2.2.2.2.2.2.2.2.2.2.2.2.2.2.2.2.2.2.1
@[irreducible] noncomputable def wd : Nat := by with_unfolding_all exact cc.2.2.2.2.2.2.2.2.2.2.2.2.2.2.2.2.2.2.2.2.2.2.2.2.2.2.1
@[irreducible] noncomputable def tq : Tok := by with_unfolding_all exact cc.2.2.2.2.2.2.2.2.2.2.2.2.2.2.2.2.2.2.2.2.2.2.2.2.2.2.2.1
@[irreducible] noncomputable def tn : Tok := by with_unfolding_all exact cc.2.2.2.2.2.2.2.2.2.2.2.2.2.2.2.2.2.2.2.2.2.2.2.2.2.2.2.2.1
@[irreducible] noncomputable def tw : Tok := by with_unfolding_all exact cc.2.2.2.2.2.2.2.2.2.2.2.2.2.2.2.2.2.2.2.2.2.2.2.2.2.2.2.2.2.1
@[irreducible] noncomputable def tt : Tok := by with_unfolding_all exact cc.2.2.2.2.2.2.2.2.2.2.2.2.2.2.2.2.2.2.2.2.2.2.2.2.2.2.2.2.2.2.1
@[irreducible] noncomputable def tp : Tok := by with_unfolding_all exact cc.2.2.2.2.2.2.2.2.2.2.2.2.2.2.2.2.2.2.2.2.2.2.2.2.2.2.2.2.2.2.2.1
@[irreducible] noncomputable def tl : Tok := by with_unfolding_all exact cc.2.2.2.2.2.2.2.2.2.2.2.2.2.2.2.2.2.2.2.2.2.2.2.2.2.2.2.2.2.2.2.2.1
@[irreducible] noncomputable def D1 : Addr := by with_unfolding_all exact cc.2.2.2.2.2.2.2.2.2.2.2.2.2.2.2.2.2.2.2.2.2.2.2.2.2.2.2.2.2.2.2.2.2.1
@[irreducible] noncomputable def D2 : Addr := by with_unfolding_all exact cc.2.2.2.2.2.2.2.2.2.2.2.2.2.2.2.2.2.2.2.2.2.2.2.2.2.2.2.2.2.2.2.2.2.2.1
@[irreducible] noncomputable def DR : Addr := by with_unfolding_all exact cc.2.2.2.2.2.2.2.2.2.2.2.2.2.2.2.2.2.2.2.2.2.2.2.2.2.2.2.2.2.2.2.2.2.2.2.1
@[irreducible] noncomputable def DW : Addr := by with_unfolding_all exact cc.2.2.2.2.2.2.2.2.2.2.2.2.2.2.2.2.2.2.2.2.2.2.2.2.2.2.2.2.2.2.2.2.2.2.2.2.1
@[irreducible] noncomputable def DC : Addr := by with_unfolding_all exact cc.2.2.2.2.2.2.2.2.2.2.2.2.2.2.2.2.2.2.2.2.2.2.2.2.2.2.2.2.2.2.2.2.2.2.2.2.2.1
@[irreducible] noncomputable def DS : Addr := by with_unfolding_all exact cc.2.2.2.2.2.2.2.2.2.2.2.2.2.2.2.2.2.2.2.2.2.2.2.2.2.2.2.2.2.2.2.2.2.2.2.2.2.2.1
@[irreducible] noncomputable def rest : Option Value := by with_unfolding_all exact cc.2.2.2.2.2.2.2.2.2.2.2.2.2.2.2.2.2.2.2.2.2.2.2.2.2.2.2.2.2.2.2.2.2.2.2.2.2.2.2.1
@[irreducible] noncomputable def there : Option Value := by with_unfolding_all exact cc.2.2.2.2.2.2.2.2.2.2.2.2.2.2.2.2.2.2.2.2.2.2.2.2.2.2.2.2.2.2.2.2.2.2.2.2.2.2.2.2.1
@[irreducible] noncomputable def back : Option Value := by with_unfolding_all exact cc.2.2.2.2.2.2.2.2.2.2.2.2.2.2.2.2.2.2.2.2.2.2.2.2.2.2.2.2.2.2.2.2.2.2.2.2.2.2.2.2.2.1
@[irreducible] noncomputable def ps1 : Array Value := by with_unfolding_all exact cc.2.2.2.2.2.2.2.2.2.2.2.2.2.2.2.2.2.2.2.2.2.2.2.2.2.2.2.2.2.2.2.2.2.2.2.2.2.2.2.2.2.2.1
@[irreducible] noncomputable def ps2 : Array Value := by with_unfolding_all exact cc.2.2.2.2.2.2.2.2.2.2.2.2.2.2.2.2.2.2.2.2.2.2.2.2.2.2.2.2.2.2.2.2.2.2.2.2.2.2.2.2.2.2.2.1
@[irreducible] noncomputable def ps4 : Array Value := by with_unfolding_all exact cc.2.2.2.2.2.2.2.2.2.2.2.2.2.2.2.2.2.2.2.2.2.2.2.2.2.2.2.2.2.2.2.2.2.2.2.2.2.2.2.2.2.2.2.2.1
@[irreducible] noncomputable def ea : Nat := by with_unfolding_all exact cc.2.2.2.2.2.2.2.2.2.2.2.2.2.2.2.2.2.2.2.2.2.2.2.2.2.2.2.2.2.2.2.2.2.2.2.2.2.2.2.2.2.2.2.2.2.1
@[irreducible] noncomputable def ep : Nat := by with_unfolding_all exact cc.2.2.2.2.2.2.2.2.2.2.2.2.2.2.2.2.2.2.2.2.2.2.2.2.2.2.2.2.2.2.2.2.2.2.2.2.2.2.2.2.2.2.2.2.2.2.1
@[irreducible] noncomputable def p : Nat := by with_unfolding_all exact cc.2.2.2.2.2.2.2.2.2.2.2.2.2.2.2.2.2.2.2.2.2.2.2.2.2.2.2.2.2.2.2.2.2.2.2.2.2.2.2.2.2.2.2.2.2.2.2.1
@[irreducible] noncomputable def oc : Obj := by with_unfolding_all exact cc.2.2.2.2.2.2.2.2.2.2.2.2.2.2.2.2.2.2.2.2.2.2.2.2.2.2.2.2.2.2.2.2.2.2.2.2.2.2.2.2.2.2.2.2.2.2.2.2.1
@[irreducible] noncomputable def cvs : Array Value := by with_unfolding_all exact cc.2.2.2.2.2.2.2.2.2.2.2.2.2.2.2.2.2.2.2.2.2.2.2.2.2.2.2.2.2.2.2.2.2.2.2.2.2.2.2.2.2.2.2.2.2.2.2.2.2.1
@[irreducible] noncomputable def ct : Tok := by with_unfolding_all exact cc.2.2.2.2.2.2.2.2.2.2.2.2.2.2.2.2.2.2.2.2.2.2.2.2.2.2.2.2.2.2.2.2.2.2.2.2.2.2.2.2.2.2.2.2.2.2.2.2.2.2
theorem core : P0 cs P w loose mean mg mb prog dep fra gua uni hp0 gn dr tk0 os0 Q E h₀ L f cdv m₀ q n wd tq tn tw tt tp tl D1 D2 DR DW DC DS rest there back ps1 ps2 ps4 ea ep p oc cvs ct := by
  unfold P0
  intro G hA hu F N hpre d1 d2 hcs hp hT post
  have XX := G.X
  have T := G.T
  dsimp only [p4, lawEnv, List.drop] at post ⊢
  dsimp only [LexP.objs, List.cons_append, List.nil_append] at N
  iterate 9 walk_at "go"
  with_reducible rename Fr _ _ _ _ => F1
  with_reducible rename News _ _ _ _ => N1
  refine text_use (A := ⟨none, dep, fra, gua, uni⟩) (s := ⟨_, _, _, _, _⟩) (pre := [(30, tabObj ps1), (37, tabObj ps2), (P.c', oc), (110, tabObj ps4)]) (p := p) (tp := tp) (tl := tl) (ea := ea) (ep := ep) (T := [101, 110, 100]) (R := []) G F1 P N1 hpre (by show dep ≤ 700; omega) (by show uni ≤ 4000; omega) rfl hp hcs hT (by decide) ⟨P.c', oc, cvs, ct, rfl, N1.get (by k_mem), d1, d2⟩ ?_
  intro h2 tk2 t2 p2 tp2 tl2 hp2 hd2 _ F2 N2 hcd2
  clear F1 N1
  dsimp only [LexP.objs, List.cons_append, List.nil_append] at N2
  iterate 5 walk_at "go"
  with_reducible rename Fr _ _ _ _ => F3
  with_reducible rename News _ _ _ _ => N3
  have hT2 : LexT (cs.drop p2) [] [] := by rw [hd2]; exact .eof
  refine text_use (A := ⟨none, dep, fra, gua, uni⟩) (s := ⟨_, _, _, _, _⟩) (pre := [(30, tabObj ps1), (37, tabObj ps2), (P.c', oc), (110, tabObj ps4)]) (p := p2) (tp := tp2) (tl := tl2) (ea := ea) (ep := ep) (T := []) (R := []) G F3 P N3 hpre (by show dep ≤ 700; omega) (by show uni ≤ 4000; omega) rfl hp2 hcs hT2 (by decide) ⟨P.c', oc, cvs, ct, rfl, N3.get (by k_mem), d1, d2⟩ ?_
  intro h4 tk4 t4 p4' tp4 tl4 hp4 hd4 _ F4 N4 hcd4
  clear F3 N3
  have hpl : cs.length ≤ p4' := List.drop_eq_nil_iff.mp hd4
  obtain rfl : p4' = cs.length := by omega
  dsimp only [LexP.objs, List.cons_append, List.nil_append] at N4
  have el : lineAt cs cs.length = 1 + ((cs.count 10 : Nat) : Int) := by unfold lineAt; rw [List.take_length]
  rw [el] at N4
  have ec : Txt.count (S cs) (Str.ofString "\n") = ((cs.count 10 : Nat) : Int) := by
    rw [show Str.ofString "\n" = (⟨#[10]⟩ : Str) from rfl, count_cnt, cnt_count]
  iterate 22 walk_at "go"
  rw [ec]
  iterate 3 walk_at "go"
  iterate 1 walk_at "go"
  with_reducible rename Fr _ _ _ _ => F9
  with_reducible rename News _ _ _ _ => N9
  have eb : ((S [101, 110, 100] == Str.ofString "end") && (S [] == Str.ofString "")) = true := by decide +kernel
  rw [eb]
  exact post _ _ F9.keep ⟨_, N9.get (a := 110) (by k_mem)⟩ ⟨_, N9.get (a := 37) (by k_mem)⟩ ⟨_, N9.get (a := 30) (by k_mem)⟩
theorem all : ∀ p : Par, P1 p := fun p => Classical.byContradiction fun hn => (@Classical.epsilon_spec Par (fun p => ¬ P1 p) ⟨p, hn⟩) (by with_unfolding_all exact core)
end TDc
theorem tailD {w : World} {loose : List Str} {mean : ExcName → Option Value} {mg mb : Str → Option Value} {prog : Program} {A : Around} {s : Shared} {Q : Flow → Shared → Prop} {E : Value → Shared → Prop} {h₀ : Heap} {L f : Addr} {cdv : Value} {m₀ : Str → Option Value} (G : Gd w loose mean mg mb h₀) (hA : A.depth ≤ 400) (hu : A.units ≤ 2000) (hh : A.handled = none)
   {cs : List Nat} (P : LexP (S cs)) {q n wd : Nat} {tq tn tw tt tp tl : Tok} {D1 D2 DR DW DC DS : Addr} {rest there back : Option Value} {ps1 ps2 ps4 : Array Value} {ea ep p : Nat} {oc : Obj} {cvs : Array Value} {ct : Tok}
   (F : Fr h₀ L s.heap (upd ((Str.ofString "back", back) :: mS rest there DS DC DW DR P.lx cs tt D2 D1 wd tw n tn q tq) m₀))
   (N : News h₀ L s.heap ((30, tabObj ps1) :: (37, tabObj ps2) :: (P.c', oc) :: (110, tabObj ps4) :: P.objs p tp ea (lineAt cs p) tl [] ep))
   (hpre : ∀ x ∈ (30, tabObj ps1) :: (37, tabObj ps2) :: (P.c', oc) :: [(110, tabObj ps4)], x.1 ∉ P.addrs) (d1 : oc.data = .fields cvs) (d2 : cvs[1]? = some (.str q3 ct))
   (hcs : cs.length < 1000) (hp : p ≤ cs.length) (hT : LexT (cs.drop p) [101, 110, 100] [])
   (post : ∀ h' tk, Sub h₀ h' → (∃ ps, h'.get? 110 = some (tabObj ps)) → (∃ ps, h'.get? 37 = some (tabObj ps)) → (∃ ps, h'.get? 30 = some (tabObj ps)) → Q (.ret (.bool true)) { s with heap := h', toks := tk }) :
   wpAny (model prog w) A (execs (p4.1.2.1.drop 11) (lawEnv L f cdv)) Q E s := by
  refine hideC fun D_ K_ => ?_
  obtain ⟨hand, dep, fra, gua, uni⟩ := A
  refine K_ ?_
  clear K_ D_
  refine hideC fun D_ K_ => ?_
  obtain ⟨hp0, gn, dr, tk0, os0⟩ := s
  refine K_ ?_
  clear K_ D_
  dsimp only at hh
  subst hh
  exact TDc.all ⟨cs, P, w, loose, mean, mg, mb, prog, dep, fra, gua, uni, hp0, gn, dr, tk0, os0, Q, E, h₀, L, f, cdv, m₀, q, n, wd, tq, tn, tw, tt, tp, tl, D1, D2, DR, DW, DC, DS, rest, there, back, ps1, ps2, ps4, ea, ep, p, oc, cvs, ct⟩ G hA hu F N hpre d1 d2 hcs hp hT post
end
end Mine
end
section
open PySem PySem.W PyProof.Rows PySem.Calls
set_option maxRecDepth 100000
set_option maxHeartbeats 8000000
set_option linter.unusedVariables false
set_option linter.unusedSimpArgs false
namespace Mine
theorem fill_TE : ∀ (w : World) (h : Heap), (hd.heap_1 w.params).In h → PySem.Challenge.rw_qu0050_01.foot = 8 := by
  k_fill; intros; rfl
section
theorem tail_all {w : World} {loose : List Str} {mean : ExcName → Option Value} {mg mb : Str → Option Value} {prog : Program} {A : Around} {s : Shared} {Q : Flow → Shared → Prop} {E : Value → Shared → Prop} {h₀ : Heap} {L f : Addr} {cdv : Value} {m₀ : Str → Option Value} (G : Gd w loose mean mg mb h₀) (hA : A.depth ≤ 400) (hu : A.units ≤ 2000) (hh : A.handled = none)
   {cs : List Nat} (P : LexP (S cs)) {q n wd : Nat} {rows : List (List Nat)} (K : Num q n wd rows) {tq tn tw tt tp tl : Tok} {D1 D2 DR DW : Addr} {ys ysR ysW : List Value} {e1 ea ep p : Nat} {oF oc : Obj} {cvs ps4 : Array Value} {ct : Tok} {R : List (Addr × Obj)}
   (F : Fr h₀ L s.heap (upd [(Str.ofString "words", some (.ref DW)), (Str.ofString "read", some (.ref DR)), (Str.ofString "lexer", some (.ref P.lx)), (Str.ofString "text", some (.str (S cs) tt)), (Str.ofString "marks", some (.ref D2)), (Str.ofString "rows", some (.ref D1)), (Str.ofString "width", some (.int ((wd : Nat) : Int) tw)), (Str.ofString "n", some (.int ((n : Nat) : Int) tn)), (Str.ofString "q", some (.int ((q : Nat) : Int) tq))] m₀))
   (N : News h₀ L s.heap ((L + 1, oF) :: (30, tabObj #[]) :: (37, tabObj #[]) :: (P.objs p tp ea (lineAt cs p) tl [] ep ++ ((D1, listOf ys.toArray e1) :: (DR, LCg.lst ysR) :: (DW, LCg.lst ysW) :: (P.c', oc) :: (110, tabObj ps4) :: R)))) (dF : ∃ u, oF.data = .cell u)
   (hL : @Ne Nat (L + 1) 30 ∧ @Ne Nat (L + 1) 37)
   (hO : ∀ a ∈ P.addrs, @Ne Nat a (L + 1) ∧ @Ne Nat a 30 ∧ @Ne Nat a 37)
   (hR : ∀ x ∈ (D1, listOf ys.toArray e1) :: (DR, LCg.lst ysR) :: (DW, LCg.lst ysW) :: (P.c', oc) :: (110, tabObj ps4) :: R, (@Ne Nat x.1 (L + 1) ∧ @Ne Nat x.1 30 ∧ @Ne Nat x.1 37) ∧ x.1 ∉ P.addrs)
   (hLs : Lists R ys rows) (hLR : Lists R ysR rows) (hLW : Lists R ysW (codeOf q n rows)) (d1 : oc.data = .fields cvs) (d2 : cvs[1]? = some (.str q3 ct))
   (hcs : cs.length < 1000) (hp : p ≤ cs.length) (hT : LexT (cs.drop p) [101, 110, 100] [])
   (post : ∀ h' tk, Sub h₀ h' → (∃ ps, h'.get? 110 = some (tabObj ps)) → (∃ ps, h'.get? 37 = some (tabObj ps)) → (∃ ps, h'.get? 30 = some (tabObj ps)) → Q (.ret (.bool true)) { s with heap := h', toks := tk }) :
   wpAny (model prog w) A (execs (p4.1.2.1.drop 3) (lawEnv L f cdv)) Q E s := by
  have hob : ∀ x ∈ P.objs p tp ea (lineAt cs p) tl [] ep, x.1 ∈ P.addrs := fun x hx => P.objs_addr hx
  have htl : ∀ x ∈ P.objs p tp ea (lineAt cs p) tl [] ep ++ ((P.c', oc) :: (110, tabObj ps4) :: R), @Ne Nat x.1 (L + 1) ∧ @Ne Nat x.1 30 ∧ @Ne Nat x.1 37 := fun x hx => by
    rcases List.mem_append.mp hx with hx | hx
    · exact hO _ (hob x hx)
    · exact (hR x (.tail _ (.tail _ (.tail _ hx)))).1
  have hmR : ∀ x ∈ R, x ∈ (30, tabObj #[]) :: (37, tabObj #[]) :: (P.objs p tp ea (lineAt cs p) tl [] ep ++ ((P.c', oc) :: (110, tabObj ps4) :: R)) := fun x hx => .tail _ (.tail _ (List.mem_append_right _ (.tail _ (.tail _ hx))))
  refine tailA (e1 := e1) (R := (30, tabObj #[]) :: (37, tabObj #[]) :: (P.objs p tp ea (lineAt cs p) tl [] ep ++ ((P.c', oc) :: (110, tabObj ps4) :: R))) G hA hu hh P K F (fun x hx => N x ?_) dF (fun x hx => ?_) (hLs.mono hmR) (hLR.mono hmR) (hLW.mono hmR) ?_
  · rcases List.mem_cons.mp hx with rfl | hx
    · exact .head _
    rcases List.mem_cons.mp hx with rfl | hx
    · exact .tail _ (.tail _ (.tail _ (List.mem_append_right _ (.head _))))
    rcases List.mem_cons.mp hx with rfl | hx
    · exact .tail _ (.tail _ (.tail _ (List.mem_append_right _ (.tail _ (.head _)))))
    rcases List.mem_cons.mp hx with rfl | hx
    · exact .tail _ (.tail _ (.tail _ (List.mem_append_right _ (.tail _ (.tail _ (.head _))))))
    rcases List.mem_cons.mp hx with rfl | hx
    · exact .tail _ (.head _)
    rcases List.mem_cons.mp hx with rfl | hx
    · exact .tail _ (.tail _ (.head _))
    rcases List.mem_append.mp hx with hx | hx
    · exact .tail _ (.tail _ (.tail _ (List.mem_append_left _ hx)))
    · exact .tail _ (.tail _ (.tail _ (List.mem_append_right _ (.tail _ (.tail _ (.tail _ hx))))))
  · rcases List.mem_cons.mp hx with rfl | hx
    · exact (hR _ (.head _)).1.1
    rcases List.mem_cons.mp hx with rfl | hx
    · exact (hR _ (.tail _ (.head _))).1.1
    rcases List.mem_cons.mp hx with rfl | hx
    · exact (hR _ (.tail _ (.tail _ (.head _)))).1.1
    rcases List.mem_cons.mp hx with rfl | hx
    · exact hL.1.symm
    rcases List.mem_cons.mp hx with rfl | hx
    · exact hL.2.symm
    · exact (htl x hx).1
  intro h1 tk1 oF1 DC vsC eC F1 N1 hne1 hIC
  refine tailB (eC := eC) (R := (L + 1, oF1) :: (P.objs p tp ea (lineAt cs p) tl [] ep ++ ((P.c', oc) :: (110, tabObj ps4) :: R))) (ys := ys) (e1 := e1) G hA hu hh K F1 (fun x hx => N1 x ?_) (fun x hx => ?_) (hLs.mono fun x hx => .tail _ (List.mem_append_right _ (.tail _ (.tail _ hx)))) hIC ?_
  · rcases List.mem_cons.mp hx with rfl | hx
    · exact .head _
    rcases List.mem_cons.mp hx with rfl | hx
    · exact .tail _ (.tail _ (.head _))
    rcases List.mem_cons.mp hx with rfl | hx
    · exact .tail _ (.tail _ (.tail _ (.head _)))
    rcases List.mem_cons.mp hx with rfl | hx
    · exact .tail _ (.tail _ (.tail _ (.tail _ (.head _))))
    rcases List.mem_cons.mp hx with rfl | hx
    · exact .tail _ (.head _)
    · exact .tail _ (.tail _ (.tail _ (.tail _ (.tail _ hx))))
  · rcases List.mem_cons.mp hx with rfl | hx
    · exact ⟨fun z => hne1 (30, tabObj #[]) (.tail _ (.tail _ (.head _))) z.symm, fun z => hne1 (37, tabObj #[]) (.tail _ (.tail _ (.tail _ (.head _)))) z.symm⟩
    rcases List.mem_cons.mp hx with rfl | hx
    · exact (hR _ (.head _)).1.2
    rcases List.mem_cons.mp hx with rfl | hx
    · exact hL
    · exact (htl x hx).2
  intro h2 tk2 DS vsS eS ps1 ps2 ex there rest F2 N2 hR2 TF1 TF2 hIS
  refine tailC (R := (L + 1, oF1) :: (P.objs p tp ea (lineAt cs p) tl [] ep ++ ((P.c', oc) :: (110, tabObj ps4) :: R))) (ys := ys) (e1 := e1) G hA hu hh K F2 N2 hR2 TF1 TF2 hLs.len hIS hIC ?_
  intro h3 tk3 ps5 ps6 back F3 N3
  refine tailD (oc := oc) (ps4 := ps4) (ps1 := ps5) (ps2 := ps6) (tp := tp) (tl := tl) (ea := ea) (ep := ep) (p := p) G hA hu hh P F3 (fun x hx => N3 x ?_) (fun x hx => ?_) d1 d2 hcs hp hT post
  · rcases List.mem_cons.mp hx with rfl | hx
    · exact .head _
    rcases List.mem_cons.mp hx with rfl | hx
    · exact .tail _ (.head _)
    rcases List.mem_cons.mp hx with rfl | hx
    · exact .tail _ (.tail _ (.tail _ (List.mem_append_right _ (.head _))))
    rcases List.mem_cons.mp hx with rfl | hx
    · exact .tail _ (.tail _ (.tail _ (List.mem_append_right _ (.tail _ (.head _)))))
    · exact .tail _ (.tail _ (.tail _ (List.mem_append_left _ hx)))
  · rcases List.mem_cons.mp hx with rfl | hx
    · exact fun hin => (hO _ hin).2.1 rfl
    rcases List.mem_cons.mp hx with rfl | hx
    · exact fun hin => (hO _ hin).2.2 rfl
    rcases List.mem_cons.mp hx with rfl | hx
    · exact (hR _ (.tail _ (.tail _ (.tail _ (.head _))))).2
    · rw [List.mem_singleton.mp hx]
      exact (hR _ (.tail _ (.tail _ (.tail _ (.tail _ (.head _)))))).2
end
end Mine
end
section
open PySem PySem.W PyProof.Rows PySem.Calls
set_option maxRecDepth 100000
set_option maxHeartbeats 8000000
set_option linter.unusedVariables false
set_option linter.unusedSimpArgs false
namespace Mine
theorem fill_T1c : ∀ (w : World) (h : Heap), (hd.heap_1 w.params).In h → PySem.Challenge.rw_qu0050_01.foot = 8 := by
  k_fill; intros; rfl
section
theorem t1 : PySem.Challenge.rw_qu0050_01.Holds := by
  refine hd ⟨left, ?_⟩
  k_go0
  with_reducible rename Frag.In _ _ => XX
  with_reducible rename Fr _ _ _ _ => F
  with_reducible rename News _ _ _ _ => N
  with_reducible rename IntsAre _ _ => hI
  with_reducible rename Top topProg _ _ _ _ _ => T
  with_reducible rename CodeHd _ (114, 110).1 _ => c1
  with_reducible rename CodeHd _ (41, 37).1 _ => c2
  with_reducible rename CodeHd _ (34, 30).1 _ => c3
  with_reducible rename ¬ _ < _ => hlen
  rename_i w s₀ s₁ mg mb G0 Y0 fa oo pm cd doc ho hcd0 hg0 X0 V0 T0 B0 TE0 TW0 sc hs0 hlay0 hL0 hr0 hl20 as1 as2 SC sv as3 hSC ra0 w10 r00 hr1 hc1 hD0 h₁ tk₁ oF dF X01 K0 lf
  have G := Gd.mk XX T c1 c2 c3
  iterate 9 walk_at "go"
  with_reducible rename Fr _ _ _ _ => F1
  with_reducible rename News _ _ _ _ => N1
  have hsub1 : Sub _ _ := F1.keep
  refine drawn_spec G hsub1 (Nat.le_of_ble_eq_true rfl) (Nat.le_of_ble_eq_true rfl) rfl (isList_sub (by assumption) F1.keep) hI (by omega) ?_
  intro h2 tk2 r2 D1 D2 ys mv seg ps q n wd tq tn tw tt ep hq hn3 hn5 hnq hnq7 hwd7 hwd16 hpl hps hLs hmk hnew hs
  obtain ⟨F2, N2, ne2⟩ := add_new [] F1 N1 (hs.but _) (fun _ h => nomatch h) (fun p hp => ⟨hp, List.not_mem_nil⟩) hnew
  replace N2 := fun x hx => N2 x (mem_rot (a := [_, _, _]) hx)
  change News _ _ _ ([(r2, _), (D1, _), (D2, _)] ++ ([_, _, _, _] ++ seg)) at N2
  dsimp only [List.cons_append, List.nil_append] at N2
  clear F1 N1
  iterate 30 walk_at "go"
  with_reducible rename Fr _ _ _ _ => F3
  with_reducible rename News _ _ _ _ => N3
  have hsub3 : Sub _ _ := F3.keep
  refine lexer_spec (text := S (textOf ps ++ [101, 110, 100])) G hsub3 (Nat.le_of_ble_eq_true rfl) (Nat.le_of_ble_eq_true rfl) rfl (N3.get (a := 110) (by k_mem)) (N3.fresh (a := 110) (by k_mem)) ?_
  intro h4 tk4 P tp tl ea ep4 hb4 hT4 hobj hcd4
  obtain ⟨ps4, hT4⟩ := hT4
  obtain ⟨oc, cvs, ct, hoc, docd, dov⟩ := hcd4
  replace N3 : News _ _ _ ((110, tabObj #[]) :: (D1, listOf ys.toArray ep) :: (D2, LCg.lst mv) :: (s₁.heap.objs.size + 1, oF) :: (37, tabObj #[]) :: (30, tabObj #[]) :: seg) := fun x hx => N3 x (by
    rcases List.mem_cons.mp hx with rfl | hx
    · k_mem
    rcases List.mem_cons.mp hx with rfl | hx
    · k_mem
    rcases List.mem_cons.mp hx with rfl | hx
    · k_mem
    rcases List.mem_cons.mp hx with rfl | hx
    · k_mem
    exact .tail _ (.tail _ (.tail _ (.tail _ (.tail _ hx)))))
  have n110 : ∀ x ∈ (D1, listOf ys.toArray ep) :: (D2, LCg.lst mv) :: (s₁.heap.objs.size + 1, oF) :: (37, tabObj #[]) :: (30, tabObj #[]) :: seg, x ∈ (110, tabObj #[]) :: (D1, listOf ys.toArray ep) :: (D2, LCg.lst mv) :: (s₁.heap.objs.size + 1, oF) :: (37, tabObj #[]) :: (30, tabObj #[]) :: seg ∧ x.1 ∉ [((110 : Nat), tabObj ps4)].map (·.1) := fun x hx => ⟨.tail _ hx, nmem1 (by
    rcases List.mem_cons.mp hx with rfl | hx
    · exact fun z => ne2 (D1, _) (by k_mem) (110, tabObj #[]) (by k_mem) z.symm
    rcases List.mem_cons.mp hx with rfl | hx
    · exact fun z => ne2 (D2, _) (by k_mem) (110, tabObj #[]) (by k_mem) z.symm
    rcases List.mem_cons.mp hx with rfl | hx
    · dsimp only; omega
    rcases List.mem_cons.mp hx with rfl | hx
    · dsimp only; omega
    rcases List.mem_cons.mp hx with rfl | hx
    · dsimp only; omega
    exact fun z => ne2 x (.tail _ (.tail _ (.tail _ hx))) (110, tabObj #[]) (by k_mem) z.symm)⟩
  obtain ⟨F4, N4, ne4⟩ := add_chg (chg := [(110, tabObj ps4)]) (new := (P.c', oc) :: P.objs 0 tp ea 1 tl [] ep4) F3 N3 hb4 (fun x hx => by rw [List.mem_singleton.mp hx]; exact ⟨⟨_, .head _⟩, hT4⟩) n110 (fun x hx => by
    rcases List.mem_cons.mp hx with rfl | hx
    · exact hoc
    · exact hobj x hx)
  clear F3 N3 n110
  dsimp only [List.cons_append, List.nil_append, LexP.objs] at N4
  iterate 16 walk_at "go"
  have hyl : ys.toArray.size = (ps.map (·.1)).length := by rw [hLs.len, List.length_map, List.length_map]
  have hpl3 : (ps.map (·.1)).length ≤ 3 := by rw [List.length_map]; omega
  refine len_led (its := ys.toArray) (ep := ep) (by k_asm) (by k_mem) (by omega) ?_
  intro t7 tk7
  iterate 8 walk_at "go"
  rw [hyl]
  have htl : (textOf ps ++ [101, 110, 100]).length < 1000 := by
    have := text_len hn5 ps hps
    rw [List.length_map] at hpl3
    rw [List.length_append, List.length_cons, List.length_cons, List.length_cons, List.length_nil]; omega
  obtain ⟨R, hR, hRe⟩ := reads_text (n := n) (by omega) ps [] (.inl rfl) hps
  rw [List.nil_append] at hR
  have hqm : q ^ (ps.map (·.1)).length ≤ 9 := by
    rw [List.length_map, hpl]
    rcases hq with rfl | rfl <;> decide
  have hl0 : lineAt (textOf ps ++ [101, 110, 100]) 0 = 1 := by simp [lineAt]
  with_reducible rename Fr _ _ _ _ => F5
  with_reducible rename News _ _ _ _ => N5
  have hix : ∀ r ∈ ps.map (·.1), r.length = n ∧ ∀ i ∈ r, i < 6 := fun r hr => by
    obtain ⟨p, hp, rfl⟩ := List.mem_map.mp hr
    exact ⟨(hps p hp).1, (hps p hp).2.1⟩
  refine line_spec (A := callerA.deeper _) (s := ⟨_, _, _, _, _⟩) (cs := textOf ps ++ [101, 110, 100]) (idxs := ps.map (·.1)) (q := q) (n := n) (R := R) (mv := mv) (tp := tp) (tl := tl) (ea := ea) (ep := ep4) G F5.keep (Nat.le_of_ble_eq_true rfl) (Nat.le_of_ble_eq_true rfl) rfl P hq (by omega) hn5 hpl3 hqm hix htl (by rw [List.map_map]; exact hR) (N5.isList (a := D2) (by k_mem)) (fun a ha z => by
    obtain ⟨o, ho⟩ := addr_obj P (p := 0) (tp := tp) (ea := ea) (line := 1) (tl := tl) (pv := []) (ep := ep4) ha
    exact ne4 _ (.tail _ ho) (D2, LCg.lst mv) (by k_mem) z.symm) hmk (fun o ho => by
    rw [hl0] at ho
    have := N5 o (List.mem_append_right [(110, tabObj ps4), (P.c', oc)] (List.mem_append_left _ ho))
    exact ⟨this.1, this.2.2⟩) ⟨P.c', oc, cvs, ct, rfl, N5.get (by k_mem), docd, dov⟩ ?_
  intro h6 tk6 r6 DR DW ysR ysW seg2 p6 tp6 tl6 ep6 hb6 hnew6 hLR hLW hp6 hd6 hobj6 hcd6
  try dsimp only at hb6 hnew6
  have hD6 : ∀ p ∈ (110, tabObj ps4) :: (D1, listOf ys.toArray ep) :: seg, @Ne Nat p.1 (s₁.heap.objs.size + 1) ∧ @Ne Nat p.1 30 ∧ @Ne Nat p.1 37 := fun x hx => by
    rcases List.mem_cons.mp hx with rfl | hx
    · dsimp only; omega
    rcases List.mem_cons.mp hx with rfl | hx
    · exact ⟨fun z => ne2 (D1, _) (by k_mem) (s₁.heap.objs.size + 1, oF) (by k_mem) z.symm, fun z => ne2 (D1, _) (by k_mem) (30, tabObj #[]) (by k_mem) z.symm, fun z => ne2 (D1, _) (by k_mem) (37, tabObj #[]) (by k_mem) z.symm⟩
    · exact ⟨fun z => ne2 x (.tail _ (.tail _ (.tail _ hx))) (s₁.heap.objs.size + 1, oF) (by k_mem) z.symm, fun z => ne2 x (.tail _ (.tail _ (.tail _ hx))) (30, tabObj #[]) (by k_mem) z.symm, fun z => ne2 x (.tail _ (.tail _ (.tail _ hx))) (37, tabObj #[]) (by k_mem) z.symm⟩
  obtain ⟨F6, N6, hO6, hR6⟩ := line_led P F5 N5 ne4 ⟨cvs, q3, ct, docd, dov⟩ hb6 hobj6 hnew6 hD6
  clear F5 N5
  iterate 9 walk_at "go"
  with_reducible rename Fr _ _ _ _ => F7
  with_reducible rename News _ _ _ _ => N7
  have hrl : ∀ r ∈ (ps.map (·.1)).map (lets q), r.length = n ∧ ∀ x ∈ r, x < q := fun r hr => by
    obtain ⟨r0, hr0, rfl⟩ := List.mem_map.mp hr
    exact ⟨by rw [lets, List.length_map]; exact (hix r0 hr0).1, lets_lt (by omega) _⟩
  have hml : ((ps.map (·.1)).map (lets q)).length = (ps.map (·.1)).length := List.length_map _
  have KK : Num q n wd ((ps.map (·.1)).map (lets q)) := ⟨hq, hn3, hn5, hnq7, hwd7, hwd16, hrl, by rw [hml]; exact hpl3, by rw [hml]; exact hqm⟩
  have hLs' : Lists seg ys ((ps.map (·.1)).map (lets q)) := by rw [List.map_map]; exact hLs
  refine tail_all (A := callerA.deeper _) (s := ⟨_, _, _, _, _⟩) (cs := textOf ps ++ [101, 110, 100]) (p := p6) (tp := tp6) (tl := tl6) (ea := ea) (ep := ep6) (e1 := ep) (R := seg2 ++ seg) (oc := oc) (ps4 := ps4) G (Nat.le_of_ble_eq_true rfl) (Nat.le_of_ble_eq_true rfl) rfl P KK (fr_upd1 F7 (upd_if1 (upd_if1 (upd_if1 (upd_if1 (upd_if1 (upd_if1 (upd_if1 (upd_if1 (upd_nil _).symm))))))))) (fun x hx => N7 x (.tail _ hx)) ⟨_, dF⟩ (by constructor <;> omega) hO6 hR6 (hLs'.mono fun x hx => List.mem_append_right _ hx) (hLR.mono fun x hx => List.mem_append_left _ hx) (hLW.mono fun x hx => List.mem_append_left _ hx) docd dov htl hp6 (by rw [hd6]; exact hRe) ?_
  intro h9 tk9 hs9 t110 t37 t30
  refine ⟨⟨.inl ⟨.bool true, .bool true, [], rfl, ?_, .bool true, ?_, unshared_nil⟩, hs9, rfl, hg0⟩, t110, t37, t30, trivial⟩
  · intro cls
    first | rfl | kernel_rfl
  · first | rfl | kernel_rfl
end
end Mine
end
end
set_option maxRecDepth 100000 in
set_option maxHeartbeats 8000000 in
theorem PySem.Challenge.cw_qu0050_01_holds : PySem.Challenge.rw_qu0050_01.Holds := by
  exact Mine.t1
