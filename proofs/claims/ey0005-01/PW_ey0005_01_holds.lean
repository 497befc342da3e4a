import PyProof.Rows.All
import Wide.All
import OpenK.AllK
import Wide.FinOn
import PySem.Challenge.RW_ey0005_01
open PySem PySem.W PyProof.Rows
set_option Elab.async false

section
open PySem PySem.W PyProof.Rows
set_option maxRecDepth 100000
set_option maxHeartbeats 8000000
namespace Mine
open_top hd for PySem.Challenge.rw_ey0005_01

end Mine
end

section
open PySem PySem.W PySem.Spec PySem.Calls PyProof.Rows
set_option maxRecDepth 100000
set_option maxHeartbeats 8000000
namespace Mine

/-- a text by the numbers of its signs -/
abbrev S (x : List Nat) : Str := ⟨x.toArray⟩
/-- the law's letters -/
def lets : List Nat := [71, 121, 89, 117, 81, 113, 77, 76, 119, 87, 100, 68, 70, 103, 69, 101, 99, 97, 98, 66, 104, 72, 75, 107, 109, 115, 83, 65, 122, 90, 79, 118, 86, 120, 88]
inductive Piece where
  | field (c : Nat) (n : Nat)
  | chars (x : List Nat)
  | quoted (x : List Nat)
  deriving DecidableEq
def Piece.dat : Piece → Dat
  | .field c n => .tuple [.str (Str.ofString "field"), .tuple [.str (S [c]), .int n]]
  | .chars x => .tuple [.str (Str.ofString "chars"), .str (S x)]
  | .quoted x => .tuple [.str (Str.ofString "quoted"), .str (S x)]
/-- the texts of way 1, the lone quote, the ' - ' -/
def plains : List (List Nat) := [[32], [44, 32], [46], [47, 32], [45], [37], [73, 78, 32], [32, 37, 32, 105, 116, 32], [39], [32, 45, 32]]
def quoteds : List (List Nat) := [[100, 97, 121], [111, 102], [111, 39, 99, 108, 111, 99, 107], [37, 100], [32, 97, 116, 32], [77, 39], [85, 104, 114, 32]]
def Piece.ok : Piece → Prop
  | .field c n => c ∈ lets ∧ 1 ≤ n ∧ n ≤ 5
  | .chars x => x ∈ plains
  | .quoted x => x ∈ quoteds
inductive Token where
  | field (c : Nat) (n : Nat)
  | chars (x : List Nat)
  deriving DecidableEq
def Token.dat : Token → Dat
  | .field c n => .tuple [.str (Str.ofString "field"), .tuple [.str (S [c]), .int n]]
  | .chars x => .tuple [.str (Str.ofString "chars"), .str (S x)]

section
variable {h₀ h : Heap} {L : Addr} {news l l' : List (Addr × Obj)} {p q r t u : Addr × Obj}
theorem news_sub (N : News h₀ L h l) (s : ∀ p ∈ l', p ∈ l) : News h₀ L h l' := fun p hp => N p (s p hp)
theorem tl0 (N : News h₀ L h news) : News h₀ L h (news ++ []) := by rw [List.append_nil]; exact N
theorem tl1 (N : News h₀ L h (p :: news)) : News h₀ L h (news ++ [p]) := news_sub N fun x hx => by
  simp only [List.mem_append, List.mem_cons, List.not_mem_nil, or_false] at hx ⊢
  simpa only [or_comm, or_left_comm, or_assoc] using hx
theorem tl2 (N : News h₀ L h (p :: q :: news)) : News h₀ L h (news ++ [p, q]) := news_sub N fun x hx => by
  simp only [List.mem_append, List.mem_cons, List.not_mem_nil, or_false] at hx ⊢
  simpa only [or_comm, or_left_comm, or_assoc] using hx
theorem tl3 (N : News h₀ L h (p :: q :: r :: news)) : News h₀ L h (news ++ [p, q, r]) := news_sub N fun x hx => by
  simp only [List.mem_append, List.mem_cons, List.not_mem_nil, or_false] at hx ⊢
  simpa only [or_comm, or_left_comm, or_assoc] using hx
theorem tl4 (N : News h₀ L h (p :: q :: r :: t :: news)) : News h₀ L h (news ++ [p, q, r, t]) := news_sub N fun x hx => by
  simp only [List.mem_append, List.mem_cons, List.not_mem_nil, or_false] at hx ⊢
  simpa only [or_comm, or_left_comm, or_assoc] using hx
theorem ord_cons {a : Addr} {o : Obj} (h1 : ∀ q ∈ news, q.1 < a) (h2 : ∀ q ∈ news, ∀ p ∈ l, q.1 < p.1) : ∀ q ∈ news, ∀ p ∈ (a, o) :: l, q.1 < p.1 := by
  intro q hq p hp
  rcases List.mem_cons.mp hp with rfl | hp
  · exact h1 q hq
  · exact h2 q hq p hp
theorem ord_nil : ∀ q ∈ news, ∀ p ∈ ([] : List (Addr × Obj)), q.1 < p.1 := fun _ _ _ h => nomatch h
end
end Mine
end

section
open PySem PySem.W PySem.Spec PySem.Calls PyProof.Rows
set_option maxRecDepth 100000
set_option maxHeartbeats 8000000
namespace Mine

/-- _law_cell: an int that is no less than nought -/
theorem cell_c {w : World} {mean : ExcName → Option Value} {mg mb : Str → Option Value} {dp un : Nat} {gd : Option (List Code)} {cn : Str} {cs : Scope} {a : Addr} {ccd : Value} {cl : List (Str × Addr)} {outer : List Env} {A₀ : Around} {base h₀ : Heap} {L : Addr} {m : Str → Option Value} {news : List (Addr × Obj)} {s : Shared} {Q E : Value → Shared → Prop} {l : Addr} {vs : List Value} {ns : List Int} {i : Int} {tk : Tok} (B : Below A₀ base outer h₀) (F : Fr h₀ L s.heap m) (X : (hd.heap_39 w.params).In h₀) (N : News h₀ L s.heap news) (T : Top topProg (looseW hd.view_39 [Str.ofString "PATTERN_CHARS"] ++ (recsOf hd.view_39).map (·.name) ++ (litsOf hd.view_39).map (·.1) ++ (clssOf hd.view_39 (looseW hd.view_39 [Str.ofString "PATTERN_CHARS"])).map (·.name)) mean mg mb h₀) (hk : cs.kind = .function)
    (hl : base.IsList l vs.toArray) (hi : IntsAre vs ns) (hfit : ns.length < 2 ^ 62) (h0 : 0 ≤ i) (hi2 : i < 2 ^ 60) (hd : dp + 1 < recursionLimit) (hu : un + 8 < cLine)
    (hret : ∀ c t h' tk', 0 ≤ c → Fr h₀ L h' m → News h₀ L h' news → Q (.int c t) { s with heap := h', toks := tk' }) :
    wpAny (model PySem.Challenge.rw_ey0005_01.row.prog w) (ktrTop dp un gd cn cs L a ccd cl outer) (call (.ref 81) [.ref l, .int i tk]) Q E s := by
  w_top off
  revert X; k_fill; intro X
  refine wpAny_call ?_
  k_dflt cell_enter
  k_steps
  all_goals exact hret _ _ _ _ (by omega) (by k_asm) (by k_asm)
end Mine
end

section
open PySem PySem.W PySem.Spec PySem.Calls PyProof.Rows
set_option maxRecDepth 100000
set_option maxHeartbeats 8000000
namespace Mine

theorem item_let : ∀ j : Nat, j < 35 → Txt.item (Str.ofString "GyYuQqMLwWdDFgEecabBhHKkmsSAzZOvVxX") (j : Int) = S [lets.getD j 0] ∧ lets.getD j 0 ∈ lets := by decide +kernel
theorem tab_plain : ∀ j : Nat, j < 8 → [Str.ofString " ", Str.ofString ", ", Str.ofString ".", Str.ofString "/ ", Str.ofString "-", Str.ofString "%", Str.ofString "IN ", Str.ofString " % it "].getD j Str.empty = S (plains.getD j []) ∧ plains.getD j [] ∈ plains := by decide +kernel
theorem tab_quoted : ∀ j : Nat, j < 7 → [Str.ofString "day", Str.ofString "of", Str.ofString "o'clock", Str.ofString "%d", Str.ofString " at ", Str.ofString "M'", Str.ofString "Uhr "].getD j Str.empty = S (quoteds.getD j []) ∧ quoteds.getD j [] ∈ quoteds := by decide +kernel
theorem fmod_fit {i k : Int} (h0 : 0 ≤ i) (h : 0 < k) : 0 ≤ i.fmod k ∧ i.fmod k < k := by
  rw [Int.fmod_eq_emod_of_nonneg _ (by omega)]
  exact ⟨Int.emod_nonneg _ (by omega), Int.emod_lt_of_pos _ h⟩
theorem fdiv_nn {i k : Int} (h0 : 0 ≤ i) (h : 0 < k) : 0 ≤ i.fdiv k := by
  rw [Int.fdiv_eq_ediv_of_nonneg _ (by omega)]
  exact Int.ediv_nonneg h0 (by omega)
/-- what _law_piece hands back -/
def PieceOut (l : List (Addr × Obj)) (v : Value) : Prop := ∃ p : Piece, p.ok ∧ DatIn l v p.dat
section
variable {l : List (Addr × Obj)} {a b : Addr} {n k : Nat} {t t' t'' : Tok} {i : Int}
theorem out_field (h0 : 0 ≤ i) (m1 : (a, ({ cls := .type "tuple", data := .seq #[Value.str (Str.ofString "field") t, Value.ref b] n } : Obj)) ∈ l)
    (m2 : (b, ({ cls := .type "tuple", data := .seq #[Value.str (Txt.item (Str.ofString "GyYuQqMLwWdDFgEecabBhHKkmsSAzZOvVxX") (i.fmod 35)) t', Value.int (1 + (i.fdiv 35).fmod 5) t''] k } : Obj)) ∈ l) : PieceOut l (.ref a) := by
  have h1 := fmod_fit (k := 35) h0 (by omega)
  have h2 := fmod_fit (k := 5) (fdiv_nn (k := 35) h0 (by omega)) (by omega)
  have h3 := item_let (i.fmod 35).toNat (by omega)
  rw [Int.toNat_of_nonneg h1.1] at h3
  refine ⟨.field (lets.getD (i.fmod 35).toNat 0) (1 + (i.fdiv 35).fmod 5).toNat, ⟨h3.2, by omega, by omega⟩, DatIn.tuple (vs := [_, _]) m1 (.cons (.str _ _) (.cons (DatIn.tuple (vs := [_, _]) m2 (.cons ?_ (.cons ?_ .nil))) .nil))⟩
  · rw [h3.1]; exact .str _ _
  · have e : (((1 + (i.fdiv 35).fmod 5).toNat : Nat) : Int) = 1 + (i.fdiv 35).fmod 5 := by omega
    rw [e]; exact .int _ _
theorem out_plain (h0 : 0 ≤ i) (m1 : (a, ({ cls := .type "tuple", data := .seq #[Value.str (Str.ofString "chars") t, Value.str ([Str.ofString " ", Str.ofString ", ", Str.ofString ".", Str.ofString "/ ", Str.ofString "-", Str.ofString "%", Str.ofString "IN ", Str.ofString " % it "].getD (i.fmod 8).toNat Str.empty) t'] n } : Obj)) ∈ l) : PieceOut l (.ref a) := by
  have h1 := fmod_fit (k := 8) h0 (by omega)
  have h3 := tab_plain (i.fmod 8).toNat (by omega)
  refine ⟨.chars (plains.getD (i.fmod 8).toNat []), h3.2, DatIn.tuple (vs := [_, _]) m1 (.cons (.str _ _) (.cons ?_ .nil))⟩
  rw [h3.1]; exact .str _ _
theorem out_quote (m1 : (a, ({ cls := .type "tuple", data := .seq #[Value.str (Str.ofString "chars") t, Value.str (Str.ofString "'") t'] n } : Obj)) ∈ l) : PieceOut l (.ref a) :=
  ⟨.chars [39], by show [39] ∈ plains; decide, DatIn.tuple (vs := [_, _]) m1 (.cons (.str _ _) (.cons (.str _ _) .nil))⟩
theorem out_quoted (h0 : 0 ≤ i) (m1 : (a, ({ cls := .type "tuple", data := .seq #[Value.str (Str.ofString "quoted") t, Value.str ([Str.ofString "day", Str.ofString "of", Str.ofString "o'clock", Str.ofString "%d", Str.ofString " at ", Str.ofString "M'", Str.ofString "Uhr "].getD (i.fmod 7).toNat Str.empty) t'] n } : Obj)) ∈ l) : PieceOut l (.ref a) := by
  have h1 := fmod_fit (k := 7) h0 (by omega)
  have h3 := tab_quoted (i.fmod 7).toNat (by omega)
  refine ⟨.quoted (quoteds.getD (i.fmod 7).toNat []), h3.2, DatIn.tuple (vs := [_, _]) m1 (.cons (.str _ _) (.cons ?_ .nil))⟩
  rw [h3.1]; exact .str _ _
end
theorem piece_c {w : World} {mean : ExcName → Option Value} {mg mb : Str → Option Value} {dp un : Nat} {gd : Option (List Code)} {cn : Str} {cs : Scope} {a : Addr} {ccd : Value} {cl : List (Str × Addr)} {outer : List Env} {A₀ : Around} {base h₀ : Heap} {L : Addr} {m : Str → Option Value} {news : List (Addr × Obj)} {s : Shared} {Q E : Value → Shared → Prop} {i : Int} {tk : Tok} (B : Below A₀ base outer h₀) (F : Fr h₀ L s.heap m) (X : (hd.heap_39 w.params).In h₀) (N : News h₀ L s.heap news) (T : Top topProg (looseW hd.view_39 [Str.ofString "PATTERN_CHARS"] ++ (recsOf hd.view_39).map (·.name) ++ (litsOf hd.view_39).map (·.1) ++ (clssOf hd.view_39 (looseW hd.view_39 [Str.ofString "PATTERN_CHARS"])).map (·.name)) mean mg mb h₀) (hk : cs.kind = .function)
    (h0 : 0 ≤ i) (hd : dp + 1 < recursionLimit) (hu : un + 8 < cLine)
    (hret : ∀ v tl h' tk', Fr h₀ L h' m → News h₀ L h' (news ++ tl) → (∀ q ∈ news, ∀ p ∈ tl, q.1 < p.1) → PieceOut tl v → Q v { s with heap := h', toks := tk' }) :
    wpAny (model PySem.Challenge.rw_ey0005_01.row.prog w) (ktrTop dp un gd cn cs L a ccd cl outer) (call (.ref 88) [.int i tk]) Q E s := by
  w_top off
  revert X; k_fill; intro X
  refine wpAny_call ?_
  k_dflt cell_enter
  k_with "table" => skip
  k_steps
  all_goals (
    have h4 := fdiv_nn (k := 4) h0 (by omega)
    with_reducible rename ∀ p ∈ news, p.1 < _ => hlow
    first
    | refine hret _ _ _ _ (by k_asm) (tl3 (by k_asm)) ?_ ?_
    | refine hret _ _ _ _ (by k_asm) (tl2 (by k_asm)) ?_ ?_
    · repeat' (first | exact ord_nil | (refine ord_cons (fun q hq => ?_) ?_; (have h9 := ltN (hlow q hq); refine ltN ?_; omega)))
    · first
      | exact out_field h4 (by k_mem) (by k_mem)
      | exact out_plain h4 (by k_mem)
      | exact out_quoted h4 (by k_mem)
      | exact out_quote (by k_mem))
end Mine
end

section
open PySem PySem.W PySem.Spec PySem.Calls PyProof.Rows
set_option maxRecDepth 100000
set_option maxHeartbeats 8000000
namespace Mine

section
variable {prog : Program} {w : World} {A : Around} {E : Value → Shared → Prop} {s : Shared} {env : Env} {h₀ : Heap} {x : Str} {body : List Stmt} {Q : Flow → Shared → Prop}
theorem fr_know {L : Addr} {h : Heap} {m : Str → Option Value} {y : Str} {v : Value} (F : Fr h₀ L h m) (e : m y = some v) : Fr h₀ L h (fun z => if z = y then some v else m z) := by
  have em : (fun z => if z = y then some v else m z) = m := by
    funext z
    by_cases hz : z = y
    · rw [if_pos hz, hz, e]
    · rw [if_neg hz]
  rw [em]; exact F

/-- the names that are known, ahead of what is not -/
theorem know_eq {m : Str → Option Value} : ∀ {ps : List (Str × Value)}, (∀ p ∈ ps, m p.1 = some p.2) → kstB m ps = m
  | [], _ => rfl
  | p :: r, h => by
    funext z
    show (if z = p.1 then some p.2 else kstB m r z) = m z
    rw [know_eq fun q hq => h q (.tail _ hq)]
    by_cases hz : z = p.1
    · rw [if_pos hz, hz]; exact (h p (.head _)).symm
    · rw [if_neg hz]
theorem fr_knows {L : Addr} {h : Heap} {m : Str → Option Value} (ps : List (Str × Value)) (F : Fr h₀ L h m) (e : ∀ p ∈ ps, m p.1 = some p.2) : Fr h₀ L h (kstB m ps) := by
  rw [know_eq e]; exact F
theorem fr_turn {L : Addr} {h : Heap} {m : Str → Option Value} {v : Value} (ps : List (Str × Value)) (F : Fr h₀ L h (fun y => if y = x then some v else m y)) (e : ∀ p ∈ ps, m p.1 = some p.2) : Fr h₀ L h (fun y => if y = x then some v else kstB m ps y) := by
  rw [know_eq e]; exact F
theorem forall1 {P : Str × Value → Prop} {a : Str × Value} (h1 : P a) : ∀ p ∈ [a], P p := by simpa using h1
theorem forall2 {P : Str × Value → Prop} {a b : Str × Value} (h1 : P a) (h2 : P b) : ∀ p ∈ [a, b], P p := by simpa using And.intro h1 h2
theorem forall3 {P : Str × Value → Prop} {a b c : Str × Value} (h1 : P a) (h2 : P b) (h3 : P c) : ∀ p ∈ [a, b, c], P p := by simpa using And.intro h1 (And.intro h2 h3)

theorem my_range {r : Addr} {a₀ b₀ : Int} {t₀ u₀ v₀ : Tok} {n : Nat} {m₀ : Str → Option Value} {news : List (Addr × Obj)} (J : Nat → (Str → Option Value) → List (Addr × Obj) → Prop)
    (hh : A.handled = none) (hr : IsRange s.heap r a₀ b₀ 1 t₀ u₀ v₀) (hsmall : Builtin.Range.small a₀ b₀ 1 = true) (hsz : Builtin.Range.rangeSize a₀ b₀ 1 = (n : Int))
    (F : Fr h₀ env.locals s.heap m₀) (N : News h₀ env.locals s.heap news) (hj : J 0 m₀ news)
    (turn : ∀ i t m₁ nx h tk own, i < n → OwnOff own (nx.map (·.1)) → J i m₁ nx → Fr h₀ env.locals h (fun y => if y = x then some (.int (a₀ + (i : Int)) t) else m₁ y) → News h₀ env.locals h (nx ++ own) →
      wpAny (model prog w) A (execs body env) (InvPostG h₀ env.locals (J (i + 1)) own { s with heap := h, toks := tk } Q) E { s with heap := h, toks := tk })
    (done : ∀ m₁ nx h tk, J n m₁ nx → Fr h₀ env.locals h m₁ → News h₀ env.locals h nx → Q .next { s with heap := h, toks := tk }) :
    wpAny (model prog w) A (pyIter (.ref r)) (fun it s₂ => LoopAtV prog w A h₀ env x body Q E it s₂) E s := by
  refine wpAny_pyIter_range hr hsmall ?_
  have fresh : ∀ p ∈ news, p.1 ∉ [s.heap.objs.size] := fun p hp hI => absurd (Heap.lt_size (N p hp).1) ((List.mem_singleton.mp hI) ▸ Nat.lt_irrefl _)
  refine kdr_loop J (Walks.range hh s.heap.objs.size a₀ 1 n) (fun _ h => h) (fun _ h => h) ?_ (fun hm => absurd F.ns.lt ((List.mem_singleton.mp hm) ▸ Nat.lt_irrefl _)) ?_ fresh ?_ (F.push _) (fun p hp => ⟨Heap.get?_push_of_some _ (N p hp).1, (N p hp).2⟩) hj ?_ done
  · intro i h hi b hb
    rw [List.mem_singleton.mp hb]
    exact ⟨_, hi⟩
  · intro b hb
    rw [List.mem_singleton.mp hb]
    exact next_is_new F
  · show IsRangeIter _ _ _ _ _
    rw [hsz]
    simpa using Heap.get?_push_size _ rfl
  · rintro i v m₁ nx h tk own hi ⟨t, rfl⟩ hoff hJ F₁ N₁
    rw [Int.mul_one] at F₁
    exact turn i t m₁ nx h tk own hi hoff hJ F₁ N₁

theorem my_ascii {xt : Str} {tx : Tok} {m₀ : Str → Option Value} {news : List (Addr × Obj)} (J : Nat → (Str → Option Value) → List (Addr × Obj) → Prop)
    (hh : A.handled = none) (hx : xt.cps.all (· < 128) = true) (F : Fr h₀ env.locals s.heap m₀) (N : News h₀ env.locals s.heap news) (hj : J 0 m₀ news)
    (turn : ∀ i c t m₁ nx h tk own, xt.cps[i]? = some c → OwnOff own (nx.map (·.1)) → J i m₁ nx → Fr h₀ env.locals h (fun y => if y = x then some (.str ⟨#[c]⟩ t) else m₁ y) → News h₀ env.locals h (nx ++ own) →
      wpAny (model prog w) A (execs body env) (InvPostG h₀ env.locals (J (i + 1)) own { s with heap := h, toks := tk } Q) E { s with heap := h, toks := tk })
    (done : ∀ m₁ nx h tk, J xt.cps.size m₁ nx → Fr h₀ env.locals h m₁ → News h₀ env.locals h nx → Q .next { s with heap := h, toks := tk }) :
    wpAny (model prog w) A (pyIter (.str xt tx)) (fun it s₂ => LoopAtV prog w A h₀ env x body Q E it s₂) E s := by
  refine wpAny_pyIter_ascii hx ?_
  have fresh : ∀ p ∈ news, p.1 ∉ [s.heap.objs.size] := fun p hp hI => absurd (Heap.lt_size (N p hp).1) ((List.mem_singleton.mp hI) ▸ Nat.lt_irrefl _)
  refine kdr_loop J (Walks.strAscii hh s.heap.objs.size xt tx) (fun _ h => h) (fun _ h => h) ?_ (fun hm => absurd F.ns.lt ((List.mem_singleton.mp hm) ▸ Nat.lt_irrefl _)) ?_ fresh ⟨_, Heap.get?_push_size _ rfl, rfl, rfl⟩ (F.push _) (fun p hp => ⟨Heap.get?_push_of_some _ (N p hp).1, (N p hp).2⟩) hj ?_ done
  · intro i h hi b hb
    rw [List.mem_singleton.mp hb]
    obtain ⟨o, ho, _⟩ := hi
    exact ⟨o, ho⟩
  · intro b hb
    rw [List.mem_singleton.mp hb]
    exact next_is_new F
  · rintro i v m₁ nx h tk own hi ⟨c, t, hc, rfl⟩ hoff hJ F₁ N₁
    exact turn i c t m₁ nx h tk own hc hoff hJ F₁ N₁

/-- the end of a turn that goes on -/
def TurnEnd (h₀ : Heap) (L : Addr) (J : (Str → Option Value) → List (Addr × Obj) → Prop) (own : List (Addr × Obj)) (s₁ : Shared) (f : Flow) (s₂ : Shared) : Prop :=
  match f with
  | .next => InvEndG h₀ L J own s₁ s₂
  | _ => False

theorem loop_core {target : Expr} {I : Addr} {fp : List Addr} {n : Nat} {P : Nat → Value → Prop} {St : Nat → Heap → Prop} {m₀ : Str → Option Value} {news : List (Addr × Obj)} (J : Nat → (Str → Option Value) → List (Addr × Obj) → Prop)
    (W : Walks prog w A I fp [I] n P St) (hLf : env.locals ∉ fp) (hI : h₀.get? I = none) (hfp : ∀ b ∈ fp, b = I ∨ ∃ o, ∀ i m nx, J i m nx → (b, o) ∈ nx) (hIf : I ∈ fp) (hob : ∀ i h, St i h → ∃ o, h.get? I = some o)
    (hnew : ∀ p ∈ news, p.1 ≠ I) (hst : St 0 s.heap) (F : Fr h₀ env.locals s.heap m₀) (N : News h₀ env.locals s.heap news)
    (hgo : ∀ i (s' : Shared) v (Q' : Unit → Shared → Prop), St i s'.heap → Q' () s' → wpAny (model prog w) A (letOwnedTupleGo target (.ref I) v) Q' E s') (hj : J 0 m₀ news) (hE : PassesOwn (model prog w) A env E)
    (turn : ∀ i v m₁ nx h tk own, i < n → P i v → OwnOff own (nx.map (·.1)) → J i m₁ nx → s.toks ≤ tk → Fr h₀ env.locals h m₁ → News h₀ env.locals h (nx ++ own) →
      wpAny (model prog w) A (assign target env v) (fun _ s₃ => wpAny (model prog w) A (execs body env) (TurnEnd h₀ env.locals (J (i + 1)) own { s with heap := h, toks := tk }) E s₃) E { s with heap := h, toks := tk })
    (done : ∀ m₁ nx h tk, s.toks ≤ tk → J n m₁ nx → Fr h₀ env.locals h m₁ → News h₀ env.locals h nx → Q .next { s with heap := h, toks := tk }) :
    codeAny (model prog w) A (.forLoop target (.ref I) body [] env) (fun r s' => match r with | .ok f => Q f s' | .error e => cameBackBy (model prog w) A env E e s') s := by
  have old : ∀ b o, h₀.get? b = some o → b ∉ [I] := fun b o e hb => by rw [List.mem_singleton.mp hb, hI] at e; cases e
  refine codeAny_forLoop_any (R := fun r s' => match r with | .ok f => Q f s' | .error e => cameBackBy (model prog w) A env E e s')
    (fun k s' => ∃ h' tk m' nx i, s' = { s with heap := h', toks := tk } ∧ St i h' ∧ Fr h₀ env.locals h' m' ∧ News h₀ env.locals h' nx ∧ (∀ p ∈ nx, p.1 ≠ I) ∧ J i m' nx ∧ s.toks ≤ tk ∧ i ≤ n ∧ k = n + 1 - i) ?_ (n + 1)
    ⟨s.heap, s.toks, m₀, news, 0, rfl, hst, F, N, hnew, hj, Nat.le_refl _, Nat.zero_le _, rfl⟩
  rintro k s' ⟨h', tk, m', nx, i, rfl, st, F', N', off', j, htk, hi, rfl⟩
  have keep : ∀ h₁ : Heap, (∀ b o, b ∉ [I] → h'.get? b = some o → h₁.get? b = some o) → Fr h₀ env.locals h₁ m' ∧ News h₀ env.locals h₁ nx := fun h₁ k₁ =>
    ⟨⟨F'.ns.at' fun o e => k₁ _ o (fun h => hLf (W.sub _ h)) e, fun b o e => k₁ b o (old b o e) (F'.keep b o e), F'.above⟩,
     fun p hp => ⟨k₁ _ _ (fun h => off' p hp (List.mem_singleton.mp h)) (N' p hp).1, (N' p hp).2⟩⟩
  by_cases hlt : i < n
  · refine wpAny_passesOwn hE (wpAny_with_toks (n := s.toks) htk (W.item i _ _ _ hlt st fun v h₁ tk₁ hP st₁ k₁ ht₁ => ?_))
    obtain ⟨F₁, N₁⟩ := keep h₁ k₁
    obtain ⟨oI, hoI⟩ := hob _ _ st₁
    have N₂ : News h₀ env.locals h₁ (nx ++ [(I, oI)]) := fun p hp => by
      rcases List.mem_append.mp hp with h | h
      · exact N₁ p h
      · rw [List.mem_singleton.mp h]
        exact ⟨hoI, fun e => hLf (e ▸ hIf), hI⟩
    have off₁ : OwnOff [(I, oI)] (nx.map (·.1)) := by
      intro p hp b hb e
      obtain ⟨q, hq, rfl⟩ := List.mem_map.mp hb
      rw [List.mem_singleton.mp hp] at e
      exact off' q hq e.symm
    refine wpAny_passesOwn hE (hgo (i + 1) _ v _ st₁ ?_)
    refine wpAny_passesOwn hE (wpAny_mono (wpAny_with_toks (n := s.toks) (Q := fun _ s₃ => wpAny (model prog w) A (execs body env) (fun f s₂ => s.toks ≤ s₂.toks ∧ TurnEnd h₀ env.locals (J (i + 1)) [(I, oI)] { s with heap := h₁, toks := tk₁ } f s₂) E s₃) ht₁
      (wpAny_mono (turn i v m' nx h₁ tk₁ [(I, oI)] hlt hP off₁ j ht₁ F₁ N₂) (fun _ s₃ h₃ ht₃ => wpAny_mono (wpAny_toks_of ht₃ h₃) (fun _ _ x => x) fun _ _ x => x.2) fun _ _ x _ => x))
      (fun _ s₃ h₃ => wpAny_passesOwn hE (wpAny_mono h₃ (fun f s₂ h₂ => ?_) fun _ _ x => x)) fun _ _ x => x)
    obtain ⟨ht₂, h₂⟩ := h₂
    cases f with
    | next =>
      obtain ⟨h₃, tk₃, m₂, news₂, nx₂, rfl, F₂, N₃, hn, ho, ha, j₂⟩ := h₂
      refine ⟨n + 1 - (i + 1), by omega, h₃, tk₃, m₂, nx₂, i + 1, rfl, ?_, F₂, fun p hp => N₃ p (hn p hp), ?_, j₂, ht₂, hlt, rfl⟩
      · refine W.frame _ _ _ st₁ fun b hb o e => ?_
        rcases hfp b hb with rfl | ⟨o', ho'⟩
        · rw [hoI] at e; cases e
          exact (N₃ _ (ho _ (List.mem_singleton.mpr rfl))).1
        · have e1 := (N₁ _ (ho' _ _ _ j)).1
          rw [e1] at e; cases e
          exact (N₃ _ (hn _ (ho' _ _ _ j₂))).1
      · intro p hp e
        exact ha _ (List.mem_singleton.mpr rfl) p.1 (List.mem_map.mpr ⟨p, hp, rfl⟩) e.symm
    | brk => exact h₂.elim
    | cont => exact h₂.elim
    | ret v => exact h₂.elim
  · have hin : i = n := by omega
    subst hin
    refine wpAny_passesOwn hE (wpAny_with_toks (n := s.toks) htk (W.done _ _ _ st fun h₁ tk₁ k₁ ht₁ => wpAny_execs_nil ?_))
    obtain ⟨F₁, N₁⟩ := keep h₁ k₁
    exact done m' nx h₁ tk₁ ht₁ j F₁ N₁

theorem lp_list {target : Expr} {l : Addr} {vs : List Value} {nn : Nat} {m₀ : Str → Option Value} {news : List (Addr × Obj)} (J : Nat → (Str → Option Value) → List (Addr × Obj) → Prop)
    (hh : A.handled = none) (hl : (l, listOf vs.toArray nn) ∈ news) (F : Fr h₀ env.locals s.heap m₀) (N : News h₀ env.locals s.heap news) (hj : J 0 m₀ news)
    (stays : ∀ i m nx, J i m nx → (l, listOf vs.toArray nn) ∈ nx) (hE : PassesOwn (model prog w) A env E)
    (turn : ∀ i v m₁ nx h tk own, vs[i]? = some v → OwnOff own (nx.map (·.1)) → J i m₁ nx → s.toks ≤ tk → Fr h₀ env.locals h m₁ → News h₀ env.locals h (nx ++ own) →
      wpAny (model prog w) A (assign target env v) (fun _ s₃ => wpAny (model prog w) A (execs body env) (TurnEnd h₀ env.locals (J (i + 1)) own { s with heap := h, toks := tk }) E s₃) E { s with heap := h, toks := tk })
    (done : ∀ m₁ nx h tk, s.toks ≤ tk → J vs.length m₁ nx → Fr h₀ env.locals h m₁ → News h₀ env.locals h nx → Q .next { s with heap := h, toks := tk }) :
    wpAny (model prog w) A (pyIter (.ref l)) (fun it s₂ => codeAny (model prog w) A (.forLoop target it body [] env) (fun r s' => match r with | .ok f => Q f s' | .error e => cameBackBy (model prog w) A env E e s') s₂) E s := by
  have ol := (N _ hl).1
  have isl : s.heap.IsList l vs.toArray := ⟨_, ol, rfl, nn, rfl⟩
  have ne : l ≠ s.heap.objs.size := Nat.ne_of_lt (Heap.lt_size ol)
  refine wpAny_pyIter_list isl ?_
  refine loop_core J (Walks.list hh s.heap.objs.size l ne vs.toArray) ?_ (next_is_new F) ?_ (by simp) ?_ (fun p hp e => absurd (Heap.lt_size (N p hp).1) (e ▸ Nat.lt_irrefl _))
    ⟨⟨_, Heap.get?_push_size _ rfl, rfl, rfl⟩, isl.at fun o e => Heap.get?_push_of_some _ e⟩ (F.push _) (fun p hp => ⟨Heap.get?_push_of_some _ (N p hp).1, (N p hp).2⟩) (fun i s' v Q' st hQ' => letGo_listiter st.1 hQ') hj hE ?_ ?_
  · intro hm
    simp only [List.mem_cons, List.not_mem_nil, or_false] at hm
    rcases hm with e | e
    · exact absurd F.ns.lt (e ▸ Nat.lt_irrefl _)
    · exact (N _ hl).2.1 e.symm
  · intro b hb
    simp only [List.mem_cons, List.not_mem_nil, or_false] at hb
    rcases hb with e | e
    · exact .inl e
    · exact .inr ⟨_, by rw [e]; exact stays⟩
  · rintro i h ⟨⟨o, ho, _⟩, _⟩
    exact ⟨o, ho⟩
  · intro i v m₁ nx h tk own _ hP
    exact turn i v m₁ nx h tk own (by simpa using hP)
  · rw [List.size_toArray]
    exact done

theorem lp_ascii {y : Str} {py : Pos} {xt : Str} {tx : Tok} {m₀ : Str → Option Value} {news : List (Addr × Obj)} (J : Nat → (Str → Option Value) → List (Addr × Obj) → Prop)
    (hh : A.handled = none) (hx : xt.cps.all (· < 128) = true) (F : Fr h₀ env.locals s.heap m₀) (N : News h₀ env.locals s.heap news) (hj : J 0 m₀ news) (hE : PassesOwn (model prog w) A env E)
    (turn : ∀ i c t m₁ nx h tk own, xt.cps[i]? = some c → OwnOff own (nx.map (·.1)) → J i m₁ nx → s.toks ≤ tk → Fr h₀ env.locals h m₁ → News h₀ env.locals h (nx ++ own) →
      wpAny (model prog w) A (assign (.Name y py) env (.str ⟨#[c]⟩ t)) (fun _ s₃ => wpAny (model prog w) A (execs body env) (TurnEnd h₀ env.locals (J (i + 1)) own { s with heap := h, toks := tk }) E s₃) E { s with heap := h, toks := tk })
    (done : ∀ m₁ nx h tk, s.toks ≤ tk → J xt.cps.size m₁ nx → Fr h₀ env.locals h m₁ → News h₀ env.locals h nx → Q .next { s with heap := h, toks := tk }) :
    wpAny (model prog w) A (pyIter (.str xt tx)) (fun it s₂ => codeAny (model prog w) A (.forLoop (.Name y py) it body [] env) (fun r s' => match r with | .ok f => Q f s' | .error e => cameBackBy (model prog w) A env E e s') s₂) E s := by
  refine wpAny_pyIter_ascii hx ?_
  refine loop_core J (Walks.strAscii hh s.heap.objs.size xt tx) (fun hm => absurd F.ns.lt ((List.mem_singleton.mp hm) ▸ Nat.lt_irrefl _)) (next_is_new F) (fun b hb => .inl (List.mem_singleton.mp hb)) (.head _) ?_ (fun p hp e => absurd (Heap.lt_size (N p hp).1) (e ▸ Nat.lt_irrefl _))
    ⟨_, Heap.get?_push_size _ rfl, rfl, rfl⟩ (F.push _) (fun p hp => ⟨Heap.get?_push_of_some _ (N p hp).1, (N p hp).2⟩) (fun i s' v Q' _ hQ' => wpAny_pure hQ') hj hE ?_ done
  · rintro i h ⟨o, ho, _⟩
    exact ⟨o, ho⟩
  · rintro i v m₁ nx h tk own _ ⟨c, t, hc, rfl⟩
    exact turn i c t m₁ nx h tk own hc
end
end Mine
end

section
open PySem PySem.W PySem.Spec PySem.Calls PyProof.Rows
set_option maxRecDepth 100000
set_option maxHeartbeats 8000000
namespace Mine

/-- the last one is a text between quotes -/
def lastQ (ps : List Piece) : Bool := match ps.getLast? with
  | some (.quoted _) => true
  | _ => false
/-- what the law's writer hands out -/
inductive Good : List Piece → Prop where
  | nil : Good []
  | snoc {ps : List Piece} {p : Piece} : Good ps → p.ok → (lastQ ps = true → (∀ x, p ≠ .quoted x) ∧ p ≠ .chars [39]) → Good (ps ++ [p])
def PiecesOut (l : List (Addr × Obj)) (v : Value) : Prop := ∃ (a : Addr) (us : List Value) (n : Nat) (ps : List Piece), v = .ref a ∧ (a, listOf us.toArray n) ∈ l ∧ DatAll l us (ps.map Piece.dat) ∧ Good ps ∧ 1 ≤ ps.length ∧ ps.length ≤ 7


theorem tl2' {h₀ h : Heap} {L : Addr} {news l : List (Addr × Obj)} {p : Addr × Obj} (N : News h₀ L h (p :: (news ++ l))) : News h₀ L h (news ++ (p :: l)) := news_sub N fun x hx => by
  simp only [List.mem_append, List.mem_cons] at hx ⊢
  simpa only [or_comm, or_left_comm, or_assoc] using hx
theorem piece_open {l : List (Addr × Obj)} {v : Value} {p : Piece} (hD : DatIn l v p.dat) : (∃ c n t b k k' t1 t2 t3, p = .field c n ∧ v = .ref t ∧ (t, ({ cls := .type "tuple", data := .seq [Value.str (Str.ofString "field") t1, .ref b].toArray k } : Obj)) ∈ l ∧ (b, ({ cls := .type "tuple", data := .seq [Value.str (S [c]) t2, .int n t3].toArray k' } : Obj)) ∈ l) ∨
    (∃ x t k t1 t2, p = .chars x ∧ v = .ref t ∧ (t, ({ cls := .type "tuple", data := .seq [Value.str (Str.ofString "chars") t1, .str (S x) t2].toArray k } : Obj)) ∈ l) ∨
    (∃ x t k t1 t2, p = .quoted x ∧ v = .ref t ∧ (t, ({ cls := .type "tuple", data := .seq [Value.str (Str.ofString "quoted") t1, .str (S x) t2].toArray k } : Obj)) ∈ l) := by
  cases p with
  | field c n =>
    left
    cases hD with
    | tuple m1 a1 =>
      cases a1 with
      | cons d1 a2 =>
        cases d1; cases a2 with
        | cons d2 a3 =>
          cases a3; cases d2 with
          | tuple m2 b1 =>
            cases b1 with
            | cons e1 b2 =>
              cases e1; cases b2 with
              | cons e2 b3 => cases b3; cases e2; exact ⟨_, _, _, _, _, _, _, _, _, rfl, rfl, m1, m2⟩
  | chars x =>
    right; left
    cases hD with
    | tuple m1 a1 =>
      cases a1 with
      | cons d1 a2 =>
        cases d1; cases a2 with
        | cons d2 a3 => cases a3; cases d2; exact ⟨_, _, _, _, _, rfl, rfl, m1⟩
  | quoted x =>
    right; right
    cases hD with
    | tuple m1 a1 =>
      cases a1 with
      | cons d1 a2 =>
        cases d1; cases a2 with
        | cons d2 a3 => cases a3; cases d2; exact ⟨_, _, _, _, _, rfl, rfl, m1⟩

local macro_rules | `(tactic| k_updF) => `(tactic| first
  | with_reducible assumption
  | with_reducible exact List.mem_cons_self
  | (with_reducible refine List.mem_cons_of_mem _ ?_; k_updF)
  | (with_reducible refine List.mem_append.mpr (Or.inr ?_); k_updF)
  | (with_reducible refine List.mem_append.mpr (Or.inl ?_); k_updF))
local macro_rules | `(tactic| k_mem) => `(tactic| k_updF)
local macro_rules | `(tactic| walk_at "call ref") => `(tactic| (
  (with_reducible show wpAny _ _ (call (Value.ref 81) _ _) _ _ _);
  k_dflt (refine' cell_c ?k1 ?k2 ?k3 ?k4 ?k5 ?k6 ?k7 ?k8 ?k9 ?k10 ?k11 ?k12 ?k13 ?_);
  (case k1 => k_asm); (case k2 => k_asm); (case k3 => k_asm); (case k4 => k_asm); (case k5 => k_asm); (case k6 => first | exact rfl | assumption);
  (case k7 => k_asm); (case k8 => k_asm); (case k9 => k_asm); (case k10 => omega); (case k11 => omega); (case k12 => ktr_room); (case k13 => ktr_units);
  intro c9 t9 h9 tk9 hc9 F9 N9; (try dsimp only); (try k_fold)))
local macro_rules | `(tactic| walk_at "call type:range") => `(tactic| ((rename Fr _ _ _ _ => F'); (rename News _ _ _ _ => N'); (with_unfolding_all refine range1_rows F' N' ?_; intro h9 tk9 t9 u9 v9 R9 F9 N9 K9)))

/-- what lies behind the list of pieces, in one letter -/
structure Pk (news tl own tl9 Z : List (Addr × Obj)) (fa : Addr) : Prop where
  off : OwnOff Z [fa]
  n : ∀ p ∈ news, p ∈ Z
  t : ∀ p ∈ tl, p ∈ Z
  o : ∀ p ∈ own, p ∈ Z
  c : ∀ p ∈ tl9, p ∈ Z
  up : ∀ p ∈ tl9, fa < p.1
  apart : ∀ q ∈ own, ∀ p ∈ tl9, q.1 ≠ p.1
theorem pack {g h : Heap} {L fa : Addr} {o : Obj} {news tl own tl9 : List (Addr × Obj)} (h1 : ∀ p ∈ news, p.1 < fa) (h2 : ∀ p ∈ tl, fa < p.1) (h3 : OwnOff own (((fa, o) :: (news ++ tl)).map (·.1)))
    (O9 : ∀ q ∈ (fa, o) :: (news ++ (tl ++ own)), ∀ p ∈ tl9, q.1 < p.1) (N9 : News g L h (((fa, o) :: (news ++ (tl ++ own))) ++ tl9)) : ∃ Z, News g L h ((fa, o) :: Z) ∧ Pk news tl own tl9 Z fa := by
  refine ⟨news ++ (tl ++ (own ++ tl9)), by simpa only [List.cons_append, List.append_assoc] using N9, ?_, ?_, ?_, ?_, ?_, O9 _ (.head _), ?_⟩
  · intro p hp b hb
    rw [List.mem_singleton.mp hb]
    rcases List.mem_append.mp hp with hp | hp
    · exact Nat.ne_of_lt (h1 p hp)
    rcases List.mem_append.mp hp with hp | hp
    · exact Nat.ne_of_gt (h2 p hp)
    rcases List.mem_append.mp hp with hp | hp
    · exact h3 p hp fa (.head _)
    · exact Nat.ne_of_gt (O9 _ (.head _) p hp)
  all_goals try (intro p h; simp only [List.mem_append, h, true_or, or_true]; done)
  intro q hq p hp
  exact Nat.ne_of_lt (O9 q (List.mem_cons_of_mem _ (by simp only [List.mem_append, hq, or_true])) p hp)
local macro_rules | `(tactic| walk_at "call ref") => `(tactic| (
  (with_reducible show wpAny _ _ (call (Value.ref 88) _ _) _ _ _);
  k_dflt (refine' piece_c ?k1 ?k2 ?k3 ?k4 ?k5 ?k6 ?k7 ?k8 ?k9 ?_);
  (case k1 => k_asm); (case k2 => k_asm); (case k3 => k_asm); (case k4 => k_asm); (case k5 => k_asm); (case k6 => first | exact rfl | assumption);
  (case k7 => assumption); (case k8 => ktr_room); (case k9 => ktr_units);
  intro v9 tl9 h9 tk9 F9 N9 O9 P9;
  (obtain ⟨Z, N8, K9⟩ := pack (by assumption) (by assumption) (by assumption) O9 N9);
  (have Z9 := K9.off); clear O9 N9;
  (obtain ⟨p9, hp9, hD9⟩ := P9);
  (try have m3' := K9.t (_, _) (by assumption));
  (obtain ⟨c8, n8, t8, b8, k8, k7, t7, t6, t5, e1, e2, m1, m2⟩ | ⟨x8, t8, k8, t7, t6, e1, e2, m1⟩ | ⟨x8, t8, k8, t7, t6, e1, e2, m1⟩ := piece_open hD9) <;> subst e1 <;> subst e2 <;> (have m1' := K9.c _ m1) <;> (try have m2' := K9.c _ m2) <;> (try dsimp only) <;> (try k_fold)))
section
variable {prog : Program} {w : World} {A : Around} {E : Value → Shared → Prop} {s : Shared} {h₀ : Heap} {L l b : Addr} {news l9 : List (Addr × Obj)} {us : List Value} {v : Value} {n k : Nat} {Q : Value → Shared → Prop}
theorem last_item {value slice : PySem.Expr} {u : Tok} (N : News h₀ L s.heap news) (hm : (l, listOf (us ++ [v]).toArray n) ∈ news) (h : Q v s)
    (hs : subscripted slice false (.ref l) (.int (-1) u) = operate [.ref l, .int (-1) u] (getItem (.ref l) (.int (-1) u)) := by with_unfolding_all rfl) :
    wpAny (model prog w) A (subscriptTail value slice (.ref l) (.int (-1) u)) Q E s :=
  kde_neg (j := us.length) ⟨_, N.get hm, rfl, n, rfl⟩ (by decide) (by decide) (by rw [seqIndex_neg (by decide) (by simp; omega)]; simp; omega) (by simp) h hs
theorem piece_kqd {p : Piece} (h : p.ok) : kqdOk 8 p.dat = true := by
  cases p with
  | field c n =>
    have : ∀ c ∈ lets, PyData.strOk (S [c]) = true := by decide +kernel
    have h1 := this c h.1
    simp only [Piece.dat, kqdOk, List.all_cons, List.all_nil, Bool.and_true, h1, Bool.and_true]
    decide +kernel
  | chars x =>
    have : ∀ x ∈ plains, PyData.strOk (S x) = true := by decide +kernel
    have h1 := this x h
    simp only [Piece.dat, kqdOk, List.all_cons, List.all_nil, Bool.and_true, h1, Bool.and_true]
    decide +kernel
  | quoted x =>
    have : ∀ x ∈ quoteds, PyData.strOk (S x) = true := by decide +kernel
    have h1 := this x h
    simp only [Piece.dat, kqdOk, List.all_cons, List.all_nil, Bool.and_true, h1, Bool.and_true]
    decide +kernel
theorem ne_made {ps : List Piece} (N : News h₀ L s.heap news) (hm : (l, listOf us.toArray n) ∈ news) (hb : (b, listOf #[] k) ∈ news) (D : DatAll l9 us (ps.map Piece.dat)) (sub : ∀ p ∈ l9, p ∈ news) (ok : ∀ p ∈ ps, p.ok) (hu : A.units + 64 < cLine)
    (h : Q (.bool (!decide (ps = []))) s) : wpAny (model prog w) A (compareOp .NotEq (.ref l) (.ref b)) Q E s := by
  refine kqd_ne N hm rfl rfl D sub hb rfl (ys := []) rfl .nil (fun _ h => h) (fun d hd => ?_) (fun _ h => nomatch h) hu ?_
  · obtain ⟨p, hp, rfl⟩ := List.mem_map.mp hd
    exact piece_kqd (ok p hp)
  · have e : (decide (ps.map Piece.dat = [])) = decide (ps = []) := by simp
    simpa only [e] using h
theorem ne_snoc {ps : List Piece} {p : Piece} (N : News h₀ L s.heap news) (hm : (l, listOf us.toArray n) ∈ news) (hb : (b, listOf #[] k) ∈ news) (D : DatAll l9 us ((ps ++ [p]).map Piece.dat)) (sub : ∀ p ∈ l9, p ∈ news) (ok : ∀ q ∈ ps ++ [p], q.ok) (hu : A.units + 64 < cLine)
    (h : Q (.bool true) s) : wpAny (model prog w) A (compareOp .NotEq (.ref l) (.ref b)) Q E s :=
  ne_made N hm hb D sub ok hu (by simpa using h)
theorem datAll_snoc {ds : List Dat} {d : Dat} : ∀ {us : List Value}, DatAll l9 us (ds ++ [d]) → ∃ us' v, us = us' ++ [v] ∧ DatAll l9 us' ds ∧ DatIn l9 v d := by
  induction ds with
  | nil => intro us h; cases h with | cons h1 h2 => cases h2; exact ⟨[], _, rfl, .nil, h1⟩
  | cons e ds ih =>
    intro us h
    cases h with
    | cons h1 h2 =>
      obtain ⟨us', v, rfl, h3, h4⟩ := ih h2
      exact ⟨_ :: us', v, rfl, .cons h1 h3, h4⟩
end
theorem Good.all {ps : List Piece} (h : Good ps) : ∀ p ∈ ps, p.ok := by
  induction h with
  | nil => intro p hp; cases hp
  | snoc _ hp _ ih =>
    intro p h
    rcases List.mem_append.mp h with h | h
    · exact ih p h
    · rw [List.mem_singleton.mp h]; exact hp
local macro_rules | `(tactic| walk_at "compareOp NotEq ref ref") => `(tactic| (
  refine' ne_made ?k1 ?k2 ?k3 ?k4 ?k5 ?k6 ?k7 ?_; (case k1 => k_asm); (case k2 => k_mem); (case k3 => k_mem); (case k4 => assumption); (case k5 => (intro p9 h9; exact List.mem_cons_of_mem _ (List.mem_cons_of_mem _ (Pk.t (by assumption) p9 h9)))); (case k6 => assumption); (case k7 => ktr_units)))
local macro_rules | `(tactic| walk_at "compareOp NotEq ref ref") => `(tactic| (
  refine' ne_snoc ?k1 ?k2 ?k3 ?k4 ?k5 ?k6 ?k7 ?_; (case k1 => k_asm); (case k2 => k_mem); (case k3 => k_mem); (case k4 => assumption); (case k5 => (intro p9 h9; exact List.mem_cons_of_mem _ (List.mem_cons_of_mem _ (Pk.t (by assumption) p9 h9)))); (case k6 => assumption); (case k7 => ktr_units)))
local macro_rules | `(tactic| walk_at "subscriptTail Name UnaryOp ref int") => `(tactic| (
  refine' last_item ?k1 ?k2 ?_ ?k3; (case k1 => k_asm); (case k2 => k_mem); (case k3 => with_unfolding_all rfl)))
/-- between the turns of _law_pieces -/
def PJ (l : Addr) (fa : Addr) (news : List (Addr × Obj)) (i : Nat) (m : Str → Option Value) (nx : List (Addr × Obj)) : Prop :=
  ∃ (us : List Value) (n : Nat) (ps : List Piece) (tl : List (Addr × Obj)), m (Str.ofString "found") = some (.ref fa) ∧ m (Str.ofString "script") = some (.ref l) ∧
    nx = (fa, listOf us.toArray n) :: (news ++ tl) ∧ (∀ p ∈ tl, fa < p.1) ∧ DatAll tl us (ps.map Piece.dat) ∧ Good ps ∧ ps.length = i

theorem PJ_end {g h' : Heap} {L fa l D : Addr} {i n' tk : Nat} {m' : Str → Option Value} {news tl own tl9 Z news' : List (Addr × Obj)} {us' : List Value} {xs : Array Value} {ps : List Piece} {od o : Obj} {s₁ : Shared}
    (F : Fr g L h' m') (N : News g L h' news') (K : Pk news tl own tl9 Z fa) (hoff : OwnOff own (((fa, o) :: (news ++ tl)).map (·.1))) (h3 : ∀ p ∈ tl, fa < p.1)
    (e1 : m' (Str.ofString "found") = some (.ref fa)) (e2 : m' (Str.ofString "script") = some (.ref l))
    (hm : (fa, listOf xs n') ∈ news') (hx : xs = us'.toArray) (hsub : ∀ p ∈ Z, p ∈ news') (hD : (D, od) ∈ news') (hlt : fa < D) (hall : AllLt D Z)
    (hdat : DatAll ((D, od) :: (tl ++ tl9)) us' (ps.map Piece.dat)) (hg : Good ps) (hi : ps.length = i) :
    InvEndG g L (PJ l fa news i) own s₁ { s₁ with heap := h', toks := tk } := by
  subst hx
  refine InvEndG.intro (nx := (fa, listOf us'.toArray n') :: (news ++ ((D, od) :: (tl ++ tl9)))) F N ⟨us', n', ps, _, e1, e2, rfl, ?_, hdat, hg, hi⟩ ?_ ?_ fun p hp => hsub p (K.o p hp)
  · intro p hp
    rcases List.mem_cons.mp hp with rfl | hp
    · exact hlt
    rcases List.mem_append.mp hp with hp | hp
    · exact h3 p hp
    · exact K.up p hp
  · intro q hq b hb
    obtain ⟨p, hp, rfl⟩ := List.mem_map.mp hb
    rcases List.mem_cons.mp hp with rfl | hp
    · exact hoff q hq _ (.head _)
    rcases List.mem_append.mp hp with hp | hp
    · exact hoff q hq _ (List.mem_map.mpr ⟨p, List.mem_cons_of_mem _ (List.mem_append.mpr (.inl hp)), rfl⟩)
    rcases List.mem_cons.mp hp with rfl | hp
    · exact Nat.ne_of_lt (ktn_ltOf hall q (K.o q hq))
    rcases List.mem_append.mp hp with hp | hp
    · exact hoff q hq _ (List.mem_map.mpr ⟨p, List.mem_cons_of_mem _ (List.mem_append.mpr (.inr hp)), rfl⟩)
    · exact K.apart q hq p hp
  · intro p hp
    rcases List.mem_cons.mp hp with rfl | hp
    · exact hm
    rcases List.mem_append.mp hp with hp | hp
    · exact hsub p (K.n p hp)
    rcases List.mem_cons.mp hp with rfl | hp
    · exact hD
    rcases List.mem_append.mp hp with hp | hp
    · exact hsub p (K.t p hp)
    · exact hsub p (K.c p hp)

local macro_rules | `(tactic| walk_at "call builtin:list.append") => `(tactic| (k_here; (with_reducible show wpAny _ _ (call (Value.builtin _) [Value.ref _, _]) _ _ _); k_dflt (refine' append_K ?k1 ?k2 ?k3 ?_ ?z; (case k1 => k_asm); (case k2 => k_asm); (case k3 => k_upd); (case z => (simp only [List.size_toArray, List.length_append, List.length_cons, List.length_nil, PySem.sizeLine_eq]; omega)); k_whole); intro h' F' N'; (try k_sweep)))
section
variable {l : List (Addr × Obj)} {D b : Addr} {k k' c n : Nat} {t t1 t2 : Tok} {x : List Nat}
theorem dat_field (m1 : (D, ({ cls := .type "tuple", data := .seq [Value.str (Str.ofString "field") t, .ref b].toArray k } : Obj)) ∈ l) (m2 : (b, ({ cls := .type "tuple", data := .seq [Value.str (S [c]) t1, .int n t2].toArray k' } : Obj)) ∈ l) : DatIn l (.ref D) (Piece.field c n).dat :=
  .tuple m1 (.cons (.str _ _) (.cons (.tuple m2 (.cons (.str _ _) (.cons (.int _ _) .nil))) .nil))
theorem dat_chars (m1 : (D, ({ cls := .type "tuple", data := .seq [Value.str (Str.ofString "chars") t, .str (S x) t1].toArray k } : Obj)) ∈ l) : DatIn l (.ref D) (Piece.chars x).dat := .tuple m1 (.cons (.str _ _) (.cons (.str _ _) .nil))
theorem dat_quoted (m1 : (D, ({ cls := .type "tuple", data := .seq [Value.str (Str.ofString "quoted") t, .str (S x) t1].toArray k } : Obj)) ∈ l) : DatIn l (.ref D) (Piece.quoted x).dat := .tuple m1 (.cons (.str _ _) (.cons (.str _ _) .nil))
theorem dat_dash (m1 : (D, ({ cls := .type "tuple", data := .seq [Value.str (Str.ofString "chars") t, .str (Str.ofString " - ") t1].toArray k } : Obj)) ∈ l) : DatIn l (.ref D) (Piece.chars [32, 45, 32]).dat := .tuple m1 (.cons (.str _ _) (.cons (.str _ _) .nil))
end
section
variable {prog : Program} {w : World} {A : Around} {E : Value → Shared → Prop} {s : Shared} {h₀ : Heap} {L b : Addr} {news : List (Addr × Obj)} {c n k' : Nat} {t1 t2 t3 : Tok} {Q : Value → Shared → Prop}
/-- a field's pair is no text -/
theorem pair_ne_quote (N : News h₀ L s.heap news) (m2 : (b, ({ cls := .type "tuple", data := .seq [Value.str (S [c]) t1, .int n t2].toArray k' } : Obj)) ∈ news) (hc : (Piece.field c n).ok) (hu : A.units + 64 < cLine) (h : Q (.bool false) s) :
    wpAny (model prog w) A (compareOp .Eq (.ref b) (.str (Str.ofString "'") t3)) Q E s := by
  have hc : ∀ c ∈ lets, PyData.strOk (S [c]) = true := by decide +kernel
  have hc := hc c (by rename (Piece.field c n).ok => h1; exact h1.1)
  have ok : kqdOk 8 (.tuple [.str (S [c]), .int n]) = true := by
    simp only [kqdOk, List.all_cons, List.all_nil, hc, Bool.and_true]
  obtain ⟨as, ra⟩ := kqd_in N 8 (DatIn.tuple m2 (.cons (.str _ _) (.cons (.int _ _) .nil))) ok
  have la := kqd_lay 8 _ ok
  refine eq_dataH ra (Reads.str (Str.ofString "'") t3) ?_ ?_ hu (by rw [kqdP]; exact h)
  · unfold SeqAt.shaped; rw [la.1, Bool.true_and]; exact decide_eq_true (Nat.le_trans la.2 (by decide))
  · unfold SeqAt.shaped; decide +kernel
end
local macro_rules | `(tactic| walk_at "compareOp Eq ref str") => `(tactic| (refine' pair_ne_quote ?k1 ?k2 ?k3 ?k4 ?_; (case k1 => k_asm); (case k2 => k_mem); (case k3 => assumption); (case k4 => ktr_units)))
theorem push_eq (us : List Value) (v : Value) : us.toArray.push v = (us ++ [v]).toArray := by simp
theorem not_quote {x : List Nat} (h : (S x == Str.ofString "'") = false) : Piece.chars x ≠ .chars [39] := by
  intro e
  injection e with e
  subst e
  revert h; decide +kernel
theorem lastQ_snoc (ps : List Piece) (p : Piece) : lastQ (ps ++ [p]) = (match p with | .quoted _ => true | _ => false) := by
  unfold lastQ
  rw [List.getLast?_append]
  cases p <;> rfl
theorem pieces_c {w : World} {mean : ExcName → Option Value} {mg mb : Str → Option Value} {dp un : Nat} {gd : Option (List Code)} {cn : Str} {cs : Scope} {a : Addr} {ccd : Value} {cl : List (Str × Addr)} {outer : List Env} {A₀ : Around} {base h₀ : Heap} {L : Addr} {m : Str → Option Value} {news : List (Addr × Obj)} {s : Shared} {Q E : Value → Shared → Prop} {l : Addr} {vs : List Value} {ns : List Int} (B : Below A₀ base outer h₀) (F : Fr h₀ L s.heap m) (X : (hd.heap_39 w.params).In h₀) (N : News h₀ L s.heap news) (T : Top topProg (looseW hd.view_39 [Str.ofString "PATTERN_CHARS"] ++ (recsOf hd.view_39).map (·.name) ++ (litsOf hd.view_39).map (·.1) ++ (clssOf hd.view_39 (looseW hd.view_39 [Str.ofString "PATTERN_CHARS"])).map (·.name)) mean mg mb h₀) (hk : cs.kind = .function)
    (hl : base.IsList l vs.toArray) (hi : IntsAre vs ns) (hfit : ns.length < 2 ^ 62) (hd : dp + 4 < recursionLimit) (hu : un + 100 < cLine)
    (hret : ∀ v tl h' tk', Fr h₀ L h' m → News h₀ L h' (news ++ tl) → (∀ q ∈ news, ∀ p ∈ tl, q.1 < p.1) → PiecesOut tl v → Q v { s with heap := h', toks := tk' }) :
    wpAny (model PySem.Challenge.rw_ey0005_01.row.prog w) (ktrTop dp un gd cn cs L a ccd cl outer) (call (.ref 95) [.ref l]) Q E s := by
  w_top off
  revert X; k_fill; intro X
  refine wpAny_call ?_
  k_dflt cell_enter
  repeat' ((fail_if_success (with_reducible show wpAny _ _ (exec (Stmt.For _ _ _ _ _) _) _ _ _)); (fail_if_success (with_reducible show wpAny _ _ (pyIter _) _ _ _)); first | (k_unfold; (try dsimp only)) | (k_end; wrow_close) | walk1 | (dsimp only; walk1) | (leave1; walk_say "STEP leave1"; try dsimp only) | fail "no step")
  ((rename Fr _ _ _ _ => lF'); (with_unfolding_all refine' For_invVF lF' ?k1 ?k2 ?_; (case k1 => exact rfl); (case k2 => exact rfl)))
  repeat' ((fail_if_success (with_reducible show wpAny _ _ (exec (Stmt.For _ _ _ _ _) _) _ _ _)); (fail_if_success (with_reducible show wpAny _ _ (pyIter _) _ _ _)); first | (k_unfold; (try dsimp only)) | (k_end; wrow_close) | walk1 | (dsimp only; walk1) | (leave1; walk_say "STEP leave1"; try dsimp only) | fail "no step")
  rename IsRange _ _ _ _ _ _ _ _ => R9


  rename ∀ p ∈ news, p.1 < _ => hlow
  rename (0 : Int) ≤ _ => hc9
  have hc7 := fmod_fit (k := 7) hc9 (by omega)
  rename News _ _ _ (_ :: news) => N9
  rename Fr _ _ _ _ => F9
  with_unfolding_all refine' my_range (PJ l _ news) rfl R9 (small_one (by omega) (by omega) (by omega) (by omega)) (rangeSize_nat _ _) F9 N9 ?kj ?turn ?done
  case kj => exact ⟨[], 0, [], [], rfl, rfl, by rw [List.append_nil], fun _ h => (nomatch h), .nil, .nil, rfl⟩
  case done =>
    clear F9 N9 R9
    rintro m₁ nx h1 tk1 ⟨us, n, ps, tl, e1, e2, rfl, h3, h4, h5, h6⟩ F1 N1
    have F1 := fr_knows [(Str.ofString "found", .ref _)] F1 (forall1 e1)
    dsimp only [kstB] at F1
    repeat' ((fail_if_success (with_reducible show wpAny _ _ (exec (Stmt.For _ _ _ _ _) _) _ _ _)); (fail_if_success (with_reducible show wpAny _ _ (pyIter _) _ _ _)); first | (k_unfold; (try dsimp only)) | (k_end; wrow_close) | walk1 | (dsimp only; walk1) | (leave1; walk_say "STEP leave1"; try dsimp only) | fail "no step")
    refine hret _ ((_, _) :: tl) _ _ (by k_asm) (tl2' (by k_asm)) ?_ ?_
    · refine ord_cons hlow fun q hq p hp => Nat.lt_trans (hlow q hq) (h3 p hp)
    · exact ⟨_, us, n, ps, rfl, .head _, h4.mono fun p hp => List.mem_cons_of_mem _ hp, h5, by omega, by omega⟩
  case turn =>
    clear F9 N9 R9
    rintro i t m₁ nx h1 tk1 own hi9 hoff ⟨us, n, ps, tl, e1, e2, rfl, h3, h4, h5, h6⟩ F1 N1
    have hi7 : i < 7 := by omega
    have F1 := fr_turn [(Str.ofString "found", .ref _), (Str.ofString "script", .ref _)] F1 (forall2 e1 e2)
    dsimp only [kstB] at F1
    simp only [List.cons_append, List.append_assoc] at N1
    have hok := h5.all
    have hG := h5
    rcases h5 with _ | ⟨h5, hp0, hq0⟩
    · cases h4
      repeat' ((fail_if_success (with_reducible show wpAny _ _ (exec (Stmt.For _ _ _ _ _) _) _ _ _)); (fail_if_success (with_reducible show wpAny _ _ (pyIter _) _ _ _)); first | (k_unfold; (try dsimp only)) | (k_end; wrow_close) | walk1 | (dsimp only; walk1) | (leave1; walk_say "STEP leave1"; try dsimp only) | fail "no step")
      all_goals (
        have m9 := (‹_ < _ ∧ _ < _ ∧ AllLt _ _›)
        refine PJ_end (by k_asm) (by k_asm) (by assumption) (by assumption) (by assumption) (by with_unfolding_all rfl) (by with_unfolding_all rfl) (by k_mem) (us' := [Value.ref _]) (by first | rfl | simp) (fun p hp => by simp only [List.mem_cons, hp, or_true]) (by k_mem) m9.2.1 m9.2.2 (ps := [] ++ [_]) (.cons ?_ .nil) (Good.snoc .nil (by assumption) fun h => absurd h (by decide)) (by rw [← h6]; rfl)
        first
        | exact dat_field List.mem_cons_self (by k_mem)
        | exact dat_chars List.mem_cons_self
        | exact dat_quoted List.mem_cons_self)
    · obtain ⟨us0, v0, rfl, _, hv0⟩ := datAll_snoc (by rw [List.map_append] at h4; exact h4)
      have hlen := DatAll.length h4
      rw [List.length_map, h6, List.length_append, List.length_singleton] at hlen
      have h6' := h6
      obtain ⟨c8, n8, t8, b8, k8, k7, t7, t6, t5, e1, e2, m1, m2⟩ | ⟨x8, t8, k8, t7, t6, e1, e2, m1⟩ | ⟨x8, t8, k8, t7, t6, e1, e2, m1⟩ := piece_open hv0 <;> subst e1 <;> subst e2

      all_goals (
        try clear m2
        repeat' ((fail_if_success (with_reducible show wpAny _ _ (exec (Stmt.For _ _ _ _ _) _) _ _ _)); (fail_if_success (with_reducible show wpAny _ _ (pyIter _) _ _ _)); first | (k_unfold; (try dsimp only)) | (k_end; wrow_close) | walk1 | (dsimp only; walk1) | (leave1; walk_say "STEP leave1"; try dsimp only) | fail "no step")
        all_goals (
          refine PJ_end (by k_asm) (by k_asm) (by assumption) (by assumption) (by assumption) (by with_unfolding_all rfl) (by with_unfolding_all rfl) (by k_mem) (push_eq _ _) (fun p hp => by simp only [List.mem_cons, hp, or_true]) (by k_mem)
            (by first | exact And.left (And.right (by assumption)) | exact And.left (And.right (And.right (by assumption)))) (by first | exact And.right (And.right (by assumption)) | exact And.right (And.right (And.right (by assumption))))
            (ps := (_ ++ [_]) ++ [_]) (by rw [List.map_append]; refine DatAll.append (h4.mono fun p hp => by simp only [List.mem_cons, List.mem_append, hp, true_or, or_true]) (.cons (by first
              | exact dat_field List.mem_cons_self (by k_mem)
              | exact dat_dash List.mem_cons_self
              | exact dat_chars List.mem_cons_self
              | exact dat_quoted List.mem_cons_self) .nil)) ?_ (by rw [List.length_append, h6]; rfl)
          first
          | exact Good.snoc hG (by assumption) fun h => absurd h (by rw [lastQ_snoc]; exact Bool.false_ne_true)
          | exact Good.snoc hG (by show [32, 45, 32] ∈ plains; decide) fun _ => ⟨fun x e => by (injection e), fun e => by (injection e with e; injection e with e; exact absurd e (by decide))⟩
          | exact Good.snoc hG (by assumption) fun _ => ⟨fun x e => by (injection e), not_quote (by assumption)⟩
          | exact Good.snoc hG (by assumption) fun _ => ⟨fun x e => by (injection e), fun e => by (injection e)⟩))
end Mine
end

section
open PySem PySem.W PySem.Spec PySem.Calls PyProof.Rows
set_option maxRecDepth 100000
set_option maxHeartbeats 8000000
namespace Mine

theorem gen_toks {α : Type} {M : Model} {A : Around} {E : Value → Shared → Prop} {T : Sem α} {Q : α → Shared → Prop} {h : Heap} {g : Array GenState} {d : Drawn} {os : OsState} {k : Nat} (H : ∀ k', k' ≠ 0 → wpAny M A T Q E ⟨h, g, d, k', os⟩) : wpAny M A T Q E ⟨h, g, d, k + 1, os⟩ := H _ (Nat.succ_ne_zero k)
theorem S_append (x y : List Nat) : S x ++ S y = S (x ++ y) := by
  show Str.mk (x.toArray ++ y.toArray) = Str.mk (x ++ y).toArray
  exact congrArg Str.mk (by simp)
theorem S_length (x : List Nat) : (S x).length = x.length := by
  show x.toArray.size = _
  rw [List.size_toArray]
theorem S_inj {x y : List Nat} (h : S x = S y) : x = y := by
  have h2 := congrArg (fun s : Str => s.cps.toList) h
  simpa using h2
theorem lit_q : Str.ofString "'" = S [39] := by decide +kernel
theorem lit_0 : Str.ofString "\x00" = S [0] := by decide +kernel
theorem mul_S_eq (c n : Nat) (h : 1 ≤ n) : Txt.mul (S [c]) (n : Int) = S (List.replicate n c) := by
  unfold Txt.mul
  rw [if_neg (by omega)]
  have key : ∀ k (a : Array Nat), (List.replicate k (#[c] : Array Nat)).foldl (· ++ ·) a = a ++ (List.replicate k c).toArray := by
    intro k
    induction k with
    | zero => intro a; simp
    | succ k ih => intro a; rw [List.replicate_succ, List.foldl_cons, ih]; apply Array.toList_inj.mp; simp [List.replicate_succ]
  by_cases h1 : n = 1
  · subst h1; rfl
  · rw [if_neg (by
      have e1 : ((n : Int) == 1) = false := by rw [beq_eq_false_iff_ne]; omega
      rw [e1]; show ¬ ((false || false) = true); decide)]
    show Str.mk _ = Str.mk _
    rw [Int.toNat_natCast]
    exact congrArg Str.mk ((key n #[]).trans (by simp))
section
variable {prog : Program} {w : World} {A : Around} {E : Value → Shared → Prop} {s : Shared} {X Y : Str} {x y : List Nat} {t u v : Tok} {c n : Nat} {Q : Value → Shared → Prop}
/-- a fact of the counter, kept over a step -/
theorem keep_pos {α : Type} {M : Model} {T : Sem α} {R : α → Shared → Prop} (h0 : s.toks ≠ 0) (H : wpAny M A T (fun a s' => s'.toks ≠ 0 → R a s') (fun e s' => s'.toks ≠ 0 → E e s') s) : wpAny M A T R E s := by
  refine wpAny_with_toks (n := 1) (Nat.pos_of_ne_zero h0) (wpAny_mono H (fun a s' h h1 => h ?_) fun e s' h h1 => h ?_) <;> omega
theorem add_S (h0 : s.toks ≠ 0) (hx : X = S x) (hy : Y = S y) (hl : x.length + y.length ≤ 10000) (h : ∀ t' tk, tk ≠ 0 → Q (.str (S (x ++ y)) t') { s with toks := tk }) : wpAny (model prog w) A (binaryOp .Add (.str X t) (.str Y u)) Q E s := by
  subst hx; subst hy
  exact keep_pos h0 (PyProof.Rows.add_str (fun t' tk h1 => by rw [S_append]; exact h t' tk h1) (by rw [S_length, S_length, sizeLine_eq]; omega))
theorem mul_S (h0 : s.toks ≠ 0) (h1 : 1 ≤ n) (h2 : n ≤ 1000) (h : ∀ t' tk, tk ≠ 0 → Q (.str (S (List.replicate n c)) t') { s with toks := tk }) : wpAny (model prog w) A (binaryOp .Mult (.str (S [c]) t) (.int (n : Int) u)) Q E s := by
  refine keep_pos h0 (SB.mul (mulOk_of 16 1048576 ?_ ?_ ?_ ?_ ?_) fun t' k h3 => by rw [mul_S_eq c n h1]; exact h t' k h3)
  · rw [S_length]; exact (by decide : (1 : Nat) ≤ 16)
  · omega
  · omega
  · omega
  · omega
theorem rep_q (h0 : s.toks ≠ 0) (hu : u ≠ 0) (hv : v ≠ 0) (huv : u ≠ v) (hl : x.length ≤ 10000) (h : ∀ t' tk, tk ≠ 0 → Q (.str (S (StrLaws.dbl 39 x)) t') { s with toks := tk }) :
    wpAny (model prog w) A (call (.builtin "str.replace") [.str (S x) t, .str (Str.ofString "'") u, .str (Str.ofString "''") v]) Q E s := by
  have e2 : Str.ofString "''" = S [39, 39] := by decide +kernel
  rw [lit_q, e2]
  refine keep_pos h0 (SC.replaceW hu hv huv (by decide +kernel) (by rw [S_length]; omega) (by decide) fun t' k h3 => ?_)
  have e : Txt.replace (S x) (S [39]) (S [39, 39]) = S (StrLaws.dbl 39 x) := by
    have e3 := StrLaws.replace_double (S x) 39
    refine Str.ext' (Array.toList_inj.mp ?_)
    simpa using e3
  rw [e]; exact h t' k h3
end
end Mine
end

section
open PySem PySem.W PySem.Spec PySem.Calls PyProof.Rows
set_option maxRecDepth 100000
set_option maxHeartbeats 8000000
namespace Mine

open StrLaws in
def Piece.text : Piece → List Nat
  | .field c n => List.replicate n c
  | .chars x => dbl 39 x
  | .quoted x => 39 :: (dbl 39 x ++ [39])
def textOf (ps : List Piece) : List Nat := ps.flatMap Piece.text
theorem text_len {p : Piece} (h : p.ok) : p.text.length ≤ 10 := by
  cases p with
  | field c n => simp only [Piece.text, List.length_replicate]; have := h.2.2; omega
  | chars x =>
    have : ∀ x ∈ plains, (StrLaws.dbl 39 x).length ≤ 10 := by decide
    exact this x h
  | quoted x =>
    have : ∀ x ∈ quoteds, (StrLaws.dbl 39 x).length ≤ 8 := by decide
    have := this x h
    simp only [Piece.text, List.length_cons, List.length_append, List.length_nil]; omega
theorem textOf_len {ps : List Piece} (h : ∀ p ∈ ps, p.ok) : (textOf ps).length ≤ 10 * ps.length := by
  induction ps with
  | nil => simp [textOf]
  | cons p ps ih =>
    have h1 := text_len (h p (.head _))
    have h2 := ih fun q hq => h q (.tail _ hq)
    simp only [textOf, List.flatMap_cons, List.length_append, List.length_cons] at h2 ⊢
    omega
local macro_rules | `(tactic| k_updF) => `(tactic| first
  | with_reducible assumption
  | with_reducible exact List.mem_cons_self
  | (with_reducible refine List.mem_cons_of_mem _ ?_; k_updF)
  | (with_reducible refine List.mem_append.mpr (Or.inr ?_); k_updF)
  | (with_reducible refine List.mem_append.mpr (Or.inl ?_); k_updF))
local macro_rules | `(tactic| k_mem) => `(tactic| k_updF)
local macro_rules | `(tactic| walk_at "execs cons") => `(tactic| (with_reducible refine gen_toks ?_; intro tk9 htk9))
local macro_rules | `(tactic| walk_at "execs nil") => `(tactic| (with_reducible refine gen_toks ?_; intro tk9 htk9))
local macro_rules | `(tactic| walk_at "binaryOp Add str str") => `(tactic| (
  refine' add_S ?k0 ?k1 ?k2 ?k3 ?_; (case k0 => first | assumption | exact Nat.succ_ne_zero _); (case k1 => first | exact lit_q | exact rfl); (case k2 => first | exact lit_q | exact rfl); (case k3 => ((try simp only [List.length_append, List.length_cons, List.length_nil, List.length_replicate]); omega)); intro t9 k9 hk9))
local macro_rules | `(tactic| walk_at "binaryOp Mult str int") => `(tactic| (refine' mul_S ?k0 ?k1 ?k2 ?_; (case k0 => first | assumption | exact Nat.succ_ne_zero _); (case k1 => omega); (case k2 => omega); intro t9 k9 hk9))
local macro_rules | `(tactic| walk_at "call builtin:str.replace") => `(tactic| (refine' rep_q ?k0 ?k1 ?k2 ?k3 ?k4 ?_; (case k0 => first | assumption | exact Nat.succ_ne_zero _); (case k1 => first | assumption | exact Nat.succ_ne_zero _); (case k2 => exact Nat.succ_ne_zero _); (case k3 => exact Nat.ne_of_lt (Nat.lt_succ_self _)); (case k4 => omega); intro t9 k9 hk9))

/-- between the turns of _law_text -/
def TJ (news : List (Addr × Obj)) (ps : List Piece) (i : Nat) (m : Str → Option Value) (nx : List (Addr × Obj)) : Prop :=
  ∃ t, m (Str.ofString "text") = some (.str (S (textOf (ps.take i))) t) ∧ nx = news
theorem text_c {w : World} {mean : ExcName → Option Value} {mg mb : Str → Option Value} {dp un : Nat} {gd : Option (List Code)} {cn : Str} {cs : Scope} {a : Addr} {ccd : Value} {cl : List (Str × Addr)} {outer : List Env} {A₀ : Around} {base h₀ : Heap} {L : Addr} {m : Str → Option Value} {news : List (Addr × Obj)} {s : Shared} {Q E : Value → Shared → Prop} {l : Addr} {us : List Value} {nn : Nat} {ps : List Piece} {l9 : List (Addr × Obj)} (B : Below A₀ base outer h₀) (F : Fr h₀ L s.heap m) (X : (hd.heap_39 w.params).In h₀) (N : News h₀ L s.heap news) (T : Top topProg (looseW hd.view_39 [Str.ofString "PATTERN_CHARS"] ++ (recsOf hd.view_39).map (·.name) ++ (litsOf hd.view_39).map (·.1) ++ (clssOf hd.view_39 (looseW hd.view_39 [Str.ofString "PATTERN_CHARS"])).map (·.name)) mean mg mb h₀) (hk : cs.kind = .function)
    (hm : (l, listOf us.toArray nn) ∈ news) (hD : DatAll l9 us (ps.map Piece.dat)) (hs : ∀ p ∈ l9, p ∈ news) (hok : ∀ p ∈ ps, p.ok) (hlen : ps.length ≤ 7) (hd : dp + 1 < recursionLimit) (hu : un + 100 < cLine)
    (hret : ∀ t h' tk', Fr h₀ L h' m → News h₀ L h' news → Q (.str (S (textOf ps)) t) { s with heap := h', toks := tk' }) :
    wpAny (model PySem.Challenge.rw_ey0005_01.row.prog w) (ktrTop dp un gd cn cs L a ccd cl outer) (call (.ref 102) [.ref l]) Q E s := by
  w_top off
  revert X; k_fill; intro X
  refine wpAny_call ?_
  k_dflt cell_enter
  repeat' ((fail_if_success (with_reducible show wpAny _ _ (exec (Stmt.For _ _ _ _ _) _) _ _ _)); (fail_if_success (with_reducible show wpAny _ _ (pyIter _) _ _ _)); first | (k_unfold; (try dsimp only)) | (k_end; wrow_close) | walk1 | (dsimp only; walk1) | (leave1; walk_say "STEP leave1"; try dsimp only) | fail "no step")
  (with_unfolding_all refine' wpAny_For ?_ ?k1; (case k1 => (intro x9; rfl)))
  repeat' ((fail_if_success (with_reducible show wpAny _ _ (exec (Stmt.For _ _ _ _ _) _) _ _ _)); (fail_if_success (with_reducible show wpAny _ _ (pyIter _) _ _ _)); first | (k_unfold; (try dsimp only)) | (k_end; wrow_close) | walk1 | (dsimp only; walk1) | (leave1; walk_say "STEP leave1"; try dsimp only) | fail "no step")
  rename News _ _ _ _ => N9
  rename Fr _ _ _ _ => F9
  with_unfolding_all refine' lp_list (TJ news ps) rfl hm F9 N9 ?kj ?stay ?kE ?turn ?done
  case kE => passes_own
  case kj => exact ⟨_, rfl, rfl⟩
  case stay => rintro i m nx ⟨t, _, rfl⟩; exact hm
  case done =>
    clear F9 N9
    rintro m₁ nx h1 tk1 _ ⟨t, e1, rfl⟩ F1 N1
    have F1 := fr_knows [(Str.ofString "text", .str _ _)] F1 (forall1 e1)
    dsimp only [kstB] at F1
    repeat' ((fail_if_success (with_reducible show wpAny _ _ (exec (Stmt.For _ _ _ _ _) _) _ _ _)); (fail_if_success (with_reducible show wpAny _ _ (pyIter _) _ _ _)); first | (k_unfold; (try dsimp only)) | (k_end; wrow_close) | walk1 | (dsimp only; walk1) | (leave1; walk_say "STEP leave1"; try dsimp only) | fail "no step")
    rw [hD.length, List.length_map, List.take_length]
    exact hret _ _ _ (by k_asm) (by k_asm)
  case turn =>
    clear F9 N9
    rintro i v m₁ nx h1 tk1 own hv hoff ⟨t, e1, rfl⟩ htk F1 N1
    have F1 := fr_knows [(Str.ofString "text", .str _ _)] F1 (forall1 e1)
    dsimp only [kstB] at F1
    have hi : i < ps.length := by
      have := (List.getElem?_eq_some_iff.mp hv).1
      rw [hD.length, List.length_map] at this; exact this
    obtain ⟨v', hv1, hv2⟩ := hD.get (k := i) (by rw [List.length_map]; exact hi)
    rw [hv] at hv1
    cases hv1
    rw [List.getElem_map] at hv2
    have hp : ps[i].ok := hok _ (List.getElem_mem hi)
    have ht : textOf (ps.take (i + 1)) = textOf (ps.take i) ++ ps[i].text := by
      rw [List.take_add_one, List.getElem?_eq_getElem hi]
      simp only [textOf, List.flatMap_append, List.flatMap_cons, List.flatMap_nil, List.append_nil, Option.toList]
    have hT : (textOf (ps.take i)).length ≤ 70 := by
      have h1 := textOf_len (ps := ps.take i) fun p hp => hok p (List.mem_of_mem_take hp)
      rw [List.length_take] at h1; omega
    generalize ps[i] = p at hv2 hp ht
    obtain ⟨c8, n8, t8, b8, k8, k7, t7, t6, t5, e1, e2, m1, m2⟩ | ⟨x8, t8, k8, t7, t6, e1, e2, m1⟩ | ⟨x8, t8, k8, t7, t6, e1, e2, m1⟩ := piece_open hv2 <;> subst e1 <;> subst e2 <;> have m1' := hs _ m1
    · have m2' := hs _ m2
      have hn := hp.2
      repeat' ((fail_if_success (with_reducible show wpAny _ _ (exec (Stmt.For _ _ _ _ _) _) _ _ _)); (fail_if_success (with_reducible show wpAny _ _ (pyIter _) _ _ _)); first | (k_unfold; (try dsimp only)) | (k_end; wrow_close) | walk1 | (dsimp only; walk1) | (leave1; walk_say "STEP leave1"; try dsimp only) | fail "no step")
      refine InvEndG.intro (by k_asm) (by k_asm) ⟨_, Eq.trans (b := some (Value.str (S _) _)) (by with_unfolding_all rfl) (congrArg (fun x => some (Value.str (S x) _)) ?_), rfl⟩ hoff (fun p hp => List.mem_append.mpr (.inl hp)) (fun p hp => List.mem_append.mpr (.inr hp))
      rw [ht]; simp only [Piece.text, List.append_assoc, List.singleton_append, List.cons_append, List.nil_append]
    · have hx : x8.length ≤ 10 := (by decide : ∀ x ∈ plains, x.length ≤ 10) _ hp
      have hy : (StrLaws.dbl 39 x8).length ≤ 10 := (by decide : ∀ x ∈ plains, (StrLaws.dbl 39 x).length ≤ 10) _ hp
      repeat' ((fail_if_success (with_reducible show wpAny _ _ (exec (Stmt.For _ _ _ _ _) _) _ _ _)); (fail_if_success (with_reducible show wpAny _ _ (pyIter _) _ _ _)); first | (k_unfold; (try dsimp only)) | (k_end; wrow_close) | walk1 | (dsimp only; walk1) | (leave1; walk_say "STEP leave1"; try dsimp only) | fail "no step")
      refine InvEndG.intro (by k_asm) (by k_asm) ⟨_, Eq.trans (b := some (Value.str (S _) _)) (by with_unfolding_all rfl) (congrArg (fun x => some (Value.str (S x) _)) ?_), rfl⟩ hoff (fun p hp => List.mem_append.mpr (.inl hp)) (fun p hp => List.mem_append.mpr (.inr hp))
      rw [ht]; simp only [Piece.text, List.append_assoc, List.singleton_append, List.cons_append, List.nil_append]
    · have hx : x8.length ≤ 10 := (by decide : ∀ x ∈ quoteds, x.length ≤ 10) _ hp
      have hy : (StrLaws.dbl 39 x8).length ≤ 10 := (by decide : ∀ x ∈ quoteds, (StrLaws.dbl 39 x).length ≤ 10) _ hp
      repeat' ((fail_if_success (with_reducible show wpAny _ _ (exec (Stmt.For _ _ _ _ _) _) _ _ _)); (fail_if_success (with_reducible show wpAny _ _ (pyIter _) _ _ _)); first | (k_unfold; (try dsimp only)) | (k_end; wrow_close) | walk1 | (dsimp only; walk1) | (leave1; walk_say "STEP leave1"; try dsimp only) | fail "no step")
      refine InvEndG.intro (by k_asm) (by k_asm) ⟨_, Eq.trans (b := some (Value.str (S _) _)) (by with_unfolding_all rfl) (congrArg (fun x => some (Value.str (S x) _)) ?_), rfl⟩ hoff (fun p hp => List.mem_append.mpr (.inl hp)) (fun p hp => List.mem_append.mpr (.inr hp))
      rw [ht]; simp only [Piece.text, List.append_assoc, List.singleton_append, List.cons_append, List.nil_append]
end Mine
end

section
open PySem PySem.W PySem.Spec PySem.Calls PyProof.Rows
set_option maxRecDepth 100000
set_option maxHeartbeats 8000000
namespace Mine

set_option pp.deepTerms false
set_option pp.deepTerms.threshold 12
def tokStep (ts : List Token) : Piece → List Token
  | .field c n => match ts.getLast? with
    | some (.field c' n') => if c' = c then ts.dropLast ++ [.field c (n' + n)] else ts ++ [.field c n]
    | _ => ts ++ [.field c n]
  | .chars x => match ts.getLast? with
    | some (.chars y) => ts.dropLast ++ [.chars (y ++ x)]
    | _ => ts ++ [.chars x]
  | .quoted x => ts ++ [.chars x]
def tokensOf (ps : List Piece) : List Token := ps.foldl tokStep []
def Token.fit (k : Nat) : Token → Prop
  | .field c _ => c ∈ lets
  | .chars x => (∀ s ∈ x, s < 128) ∧ x.length ≤ k
theorem fit_mono {k k' : Nat} (h : k ≤ k') {t : Token} (ht : t.fit k) : t.fit k' := by
  cases t with
  | field c n => exact ht
  | chars x => exact ⟨ht.1, Nat.le_trans ht.2 h⟩
theorem plain_fit : ∀ x ∈ plains, (∀ s ∈ x, s < 128) ∧ x.length ≤ 10 := by decide
theorem quoted_fit : ∀ x ∈ quoteds, (∀ s ∈ x, s < 128) ∧ x.length ≤ 10 := by decide
theorem tokStep_fit {k : Nat} {ts : List Token} {p : Piece} (h : ∀ t ∈ ts, t.fit k) (hp : p.ok) : ∀ t ∈ tokStep ts p, t.fit (k + 10) := by
  have hm : ∀ t ∈ ts, t.fit (k + 10) := fun t ht => fit_mono (Nat.le_add_right _ _) (h t ht)
  have hd : ∀ t ∈ ts.dropLast, t.fit (k + 10) := fun t ht => hm t (List.dropLast_subset _ ht)
  have put : ∀ (l : List Token) (t : Token), (∀ t ∈ l, t.fit (k + 10)) → t.fit (k + 10) → ∀ u ∈ l ++ [t], u.fit (k + 10) := by
    intro l t h1 h2 u hu
    rcases List.mem_append.mp hu with hu | hu
    · exact h1 u hu
    · rw [List.mem_singleton.mp hu]; exact h2
  cases p with
  | field c n =>
    simp only [tokStep]
    split
    · split
      · exact put _ (.field _ _) hd hp.1
      · exact put _ (.field _ _) hm hp.1
    · exact put _ (.field _ _) hm hp.1
  | chars x =>
    have hx := plain_fit x hp
    simp only [tokStep]
    split
    · rename_i y hy
      have hy := h _ (List.mem_of_getLast? hy)
      refine put _ (.chars _) hd ⟨fun s hs => ?_, ?_⟩
      · rcases List.mem_append.mp hs with hs | hs
        · exact hy.1 s hs
        · exact hx.1 s hs
      · rw [List.length_append]; have := hy.2; have := hx.2; omega
    · exact put _ (.chars _) hm ⟨hx.1, by omega⟩
  | quoted x =>
    have hx := quoted_fit x hp
    exact put _ (.chars _) hm ⟨hx.1, by omega⟩
theorem tokStep_len (ts : List Token) (p : Piece) : (tokStep ts p).length ≤ ts.length + 1 := by
  cases p with
  | field c n =>
    simp only [tokStep]
    split
    · split <;> simp <;> omega
    · simp
  | chars x =>
    simp only [tokStep]
    split <;> simp <;> omega
  | quoted x => simp [tokStep]
theorem foldl_len {ps : List Piece} : ∀ {ts : List Token}, (ps.foldl tokStep ts).length ≤ ts.length + ps.length := by
  induction ps with
  | nil => intro ts; simp
  | cons p ps ih =>
    intro ts
    have h1 := ih (ts := tokStep ts p)
    have h2 := tokStep_len ts p
    rw [List.foldl_cons, List.length_cons]; omega
theorem nil_or_snoc {α : Type} (l : List α) : l = [] ∨ ∃ a b, l = a ++ [b] := by
  rcases List.eq_nil_or_concat l with h | ⟨a, b, h⟩
  · exact .inl h
  · exact .inr ⟨a, b, by rw [h, List.concat_eq_append]⟩
theorem tokensOf_len (ps : List Piece) : (tokensOf ps).length ≤ ps.length := by
  have := foldl_len (ps := ps) (ts := [])
  simpa [tokensOf] using this
theorem snoc_nil {c n : Nat} : tokStep [] (.field c n) = [] ++ [.field c n] := rfl
theorem step_f_same (ts : List Token) (c n k : Nat) : tokStep (ts ++ [.field c k]) (.field c n) = ts ++ [.field c (k + n)] := by simp [tokStep]
theorem step_f_other (ts : List Token) {c d : Nat} (n k : Nat) (h : d ≠ c) : tokStep (ts ++ [.field d k]) (.field c n) = ts ++ [.field d k] ++ [.field c n] := by simp [tokStep, h]
theorem step_f_chars (ts : List Token) (c n : Nat) (y : List Nat) : tokStep (ts ++ [.chars y]) (.field c n) = ts ++ [.chars y] ++ [.field c n] := by simp [tokStep]
theorem step_c_chars (ts : List Token) (x y : List Nat) : tokStep (ts ++ [.chars y]) (.chars x) = ts ++ [.chars (y ++ x)] := by simp [tokStep]
theorem step_c_field (ts : List Token) (c n : Nat) (x : List Nat) : tokStep (ts ++ [.field c n]) (.chars x) = ts ++ [.field c n] ++ [.chars x] := by simp [tokStep]
theorem foldl_fit {ps : List Piece} : ∀ {k : Nat} {ts : List Token}, (∀ p ∈ ps, p.ok) → (∀ t ∈ ts, t.fit k) → ∀ t ∈ ps.foldl tokStep ts, t.fit (k + 10 * ps.length) := by
  induction ps with
  | nil => intro k ts _ h; simpa using h
  | cons p ps ih =>
    intro k ts hp h t ht
    have := ih (fun q hq => hp q (.tail _ hq)) (tokStep_fit h (hp p (.head _))) t ht
    rw [List.length_cons]
    have e : k + 10 + 10 * ps.length = k + 10 * (ps.length + 1) := by omega
    rw [← e]; exact this
theorem tokensOf_fit {ps : List Piece} (h : ∀ p ∈ ps, p.ok) : ∀ t ∈ tokensOf ps, t.fit (10 * ps.length) := fun t ht => by
  have := foldl_fit (k := 0) (ts := []) h (fun _ h => nomatch h) t ht
  rwa [Nat.zero_add] at this
theorem tok_kqd {k : Nat} {t : Token} (h : t.fit k) : kqdOk 8 t.dat = true := by
  have w1 : PyData.strOk (Str.ofString "field") = true := by decide +kernel
  have w2 : PyData.strOk (Str.ofString "chars") = true := by decide +kernel
  cases t with
  | field c n =>
    have : ∀ c ∈ lets, PyData.strOk (S [c]) = true := by decide +kernel
    have h1 := this c h
    simp only [Token.dat, kqdOk, List.all_cons, List.all_nil, Bool.and_true, h1, w1]
  | chars x =>
    have h1 : PyData.strOk (S x) = true := by
      show x.toArray.all (· < 0x110000) = true
      rw [List.all_toArray, List.all_eq_true]
      intro s hs
      have := h.1 s hs
      exact decide_eq_true (by omega)
    simp only [Token.dat, kqdOk, List.all_cons, List.all_nil, Bool.and_true, h1, w2]
section
variable {prog : Program} {w : World} {A : Around} {E : Value → Shared → Prop} {s : Shared} {h₀ : Heap} {L l b D : Addr} {m : Str → Option Value} {news news' l9 : List (Addr × Obj)} {us : List Value} {v x : Value} {n k : Nat} {t : Tok}
theorem tne_made {Q : Value → Shared → Prop} {ts : List Token} {kk : Nat} (N : News h₀ L s.heap news) (hm : (l, listOf us.toArray n) ∈ news) (hb : (b, listOf #[] k) ∈ news) (D : DatAll l9 us (ts.map Token.dat)) (sub : ∀ p ∈ l9, p ∈ news) (ok : ∀ t ∈ ts, t.fit kk) (hu : A.units + 64 < cLine)
    (h : Q (.bool (!decide (ts = []))) s) : wpAny (model prog w) A (compareOp .NotEq (.ref l) (.ref b)) Q E s := by
  refine kqd_ne N hm rfl rfl D sub hb rfl (ys := []) rfl .nil (fun _ h => h) (fun d hd => ?_) (fun _ h => nomatch h) hu ?_
  · obtain ⟨p, hp, rfl⟩ := List.mem_map.mp hd
    exact tok_kqd (ok p hp)
  · have e : (decide (ts.map Token.dat = [])) = decide (ts = []) := by simp
    simpa only [e] using h
theorem tne_snoc {Q : Value → Shared → Prop} {ts : List Token} {p : Token} {kk : Nat} (N : News h₀ L s.heap news) (hm : (l, listOf us.toArray n) ∈ news) (hb : (b, listOf #[] k) ∈ news) (D : DatAll l9 us ((ts ++ [p]).map Token.dat)) (sub : ∀ p ∈ l9, p ∈ news) (ok : ∀ q ∈ ts ++ [p], q.fit kk) (hu : A.units + 64 < cLine)
    (h : Q (.bool true) s) : wpAny (model prog w) A (compareOp .NotEq (.ref l) (.ref b)) Q E s :=
  tne_made N hm hb D sub ok hu (by simpa using h)
theorem setL_last {v x : Value} : ∀ (us : List Value), ki_setL (us ++ [v]) us.length x = some (us ++ [x])
  | [] => rfl
  | u :: us => by
    show (match ki_setL (us ++ [v]) us.length x with | some q => some (u :: q) | none => none) = _
    rw [setL_last us]; rfl
theorem set_last {Q : Unit → Shared → Prop} (F : Fr h₀ L s.heap m) (N : News h₀ L s.heap news) (U : Upd D (listOf (us ++ [v]).toArray n) (listOf (us ++ [x]).toArray n) news news') (h : ∀ h', Fr h₀ L h' m → News h₀ L h' news' → Q () { s with heap := h' }) :
    wpAny (model prog w) A (setItem (.ref D) (.int (-1) t) x) Q E s :=
  ki_setNeg (its := (us ++ [v]).toArray) (j := us.length) (q := us ++ [x]) F N (by decide) (by decide) (by rw [seqIndex_neg (by decide) (by simp; omega)]; simp; omega) (setL_last us) U h
end
theorem tok_open {l : List (Addr × Obj)} {v : Value} {p : Token} (hD : DatIn l v p.dat) : (∃ c n t b k k' t1 t2 t3, p = .field c n ∧ v = .ref t ∧ (t, ({ cls := .type "tuple", data := .seq [Value.str (Str.ofString "field") t1, .ref b].toArray k } : Obj)) ∈ l ∧ (b, ({ cls := .type "tuple", data := .seq [Value.str (S [c]) t2, .int n t3].toArray k' } : Obj)) ∈ l) ∨
    (∃ x t k t1 t2, p = .chars x ∧ v = .ref t ∧ (t, ({ cls := .type "tuple", data := .seq [Value.str (Str.ofString "chars") t1, .str (S x) t2].toArray k } : Obj)) ∈ l) := by
  cases p with
  | field c n =>
    left
    cases hD with
    | tuple m1 a1 =>
      cases a1 with
      | cons d1 a2 =>
        cases d1; cases a2 with
        | cons d2 a3 =>
          cases a3; cases d2 with
          | tuple m2 b1 =>
            cases b1 with
            | cons e1 b2 =>
              cases e1; cases b2 with
              | cons e2 b3 => cases b3; cases e2; exact ⟨_, _, _, _, _, _, _, _, _, rfl, rfl, m1, m2⟩
  | chars x =>
    right
    cases hD with
    | tuple m1 a1 =>
      cases a1 with
      | cons d1 a2 =>
        cases d1; cases a2 with
        | cons d2 a3 => cases a3; cases d2; exact ⟨_, _, _, _, _, rfl, rfl, m1⟩
/-- between the turns of _law_tokens -/
def KJ (fa : Addr) (news : List (Addr × Obj)) (ps : List Piece) (i : Nat) (m : Str → Option Value) (nx : List (Addr × Obj)) : Prop :=
  ∃ (us : List Value) (n : Nat) (tl : List (Addr × Obj)), m (Str.ofString "found") = some (.ref fa) ∧ nx = (fa, listOf us.toArray n) :: (news ++ tl) ∧ (∀ p ∈ tl, fa < p.1) ∧ DatAll (news ++ tl) us ((tokensOf (ps.take i)).map Token.dat)
/-- one letter for what lies behind the list -/
structure Bk (news tl own Z : List (Addr × Obj)) (fa : Addr) : Prop where
  off : OwnOff Z [fa]
  d : ∀ p ∈ news ++ tl, p ∈ Z
  o : ∀ p ∈ own, p ∈ Z
theorem bpack {g h : Heap} {L fa : Addr} {o : Obj} {news tl own : List (Addr × Obj)} (h1 : ∀ p ∈ news, p.1 < fa) (h2 : ∀ p ∈ tl, fa < p.1) (h3 : OwnOff own (((fa, o) :: (news ++ tl)).map (·.1)))
    (N9 : News g L h (((fa, o) :: (news ++ tl)) ++ own)) : ∃ Z, News g L h ((fa, o) :: Z) ∧ Bk news tl own Z fa := by
  refine ⟨(news ++ tl) ++ own, by simpa only [List.cons_append] using N9, ?_, fun p h => List.mem_append.mpr (.inl h), fun p h => List.mem_append.mpr (.inr h)⟩
  intro p hp b hb
  rw [List.mem_singleton.mp hb]
  rcases List.mem_append.mp hp with hp | hp
  · rcases List.mem_append.mp hp with hp | hp
    · exact Nat.ne_of_lt (h1 p hp)
    · exact Nat.ne_of_gt (h2 p hp)
  · exact h3 p hp fa (.head _)
theorem turn_end {J : (Str → Option Value) → List (Addr × Obj) → Prop} {g h' : Heap} {L fa : Addr} {n' tk : Nat} {m' : Str → Option Value} {news tl own Z news' add : List (Addr × Obj)} {us' : List Value} {xs : Array Value} {o : Obj} {s₁ : Shared}
    (F : Fr g L h' m') (N : News g L h' news') (K : Bk news tl own Z fa) (hoff : OwnOff own (((fa, o) :: (news ++ tl)).map (·.1)))
    (hm : (fa, listOf xs n') ∈ news') (hx : xs = us'.toArray) (hsub : ∀ p ∈ Z, p ∈ news') (hadd : ∀ q ∈ add, q ∈ news' ∧ AllLt q.1 Z)
    (hJ : J m' ((fa, listOf us'.toArray n') :: (news ++ (add ++ tl)))) :
    TurnEnd g L J own s₁ .next { s₁ with heap := h', toks := tk } := by
  subst hx
  refine InvEndG.intro F N hJ ?_ ?_ fun p hp => hsub p (K.o p hp)
  · intro q hq b hb
    obtain ⟨p, hp, rfl⟩ := List.mem_map.mp hb
    rcases List.mem_cons.mp hp with rfl | hp
    · exact hoff q hq _ (.head _)
    rcases List.mem_append.mp hp with hp | hp
    · exact hoff q hq _ (List.mem_map.mpr ⟨p, List.mem_cons_of_mem _ (List.mem_append.mpr (.inl hp)), rfl⟩)
    rcases List.mem_append.mp hp with hp | hp
    · exact Nat.ne_of_lt (ktn_ltOf (hadd p hp).2 q (K.o q hq))
    · exact hoff q hq _ (List.mem_map.mpr ⟨p, List.mem_cons_of_mem _ (List.mem_append.mpr (.inr hp)), rfl⟩)
  · intro p hp
    rcases List.mem_cons.mp hp with rfl | hp
    · exact hm
    rcases List.mem_append.mp hp with hp | hp
    · exact hsub p (K.d p (List.mem_append.mpr (.inl hp)))
    rcases List.mem_append.mp hp with hp | hp
    · exact (hadd p hp).1
    · exact hsub p (K.d p (List.mem_append.mpr (.inr hp)))
local macro_rules | `(tactic| k_updF) => `(tactic| first
  | with_reducible assumption
  | with_reducible exact List.mem_cons_self
  | (with_reducible refine List.mem_cons_of_mem _ ?_; k_updF)
  | (with_reducible refine List.mem_append.mpr (Or.inr ?_); k_updF)
  | (with_reducible refine List.mem_append.mpr (Or.inl ?_); k_updF))
local macro_rules | `(tactic| k_mem) => `(tactic| k_updF)
local macro_rules | `(tactic| walk_at "execs cons") => `(tactic| (with_reducible refine gen_toks ?_; intro tk9 htk9))
local macro_rules | `(tactic| walk_at "execs nil") => `(tactic| (with_reducible refine gen_toks ?_; intro tk9 htk9))
local macro_rules | `(tactic| walk_at "binaryOp Add str str") => `(tactic| (
  refine' add_S ?k0 ?k1 ?k2 ?k3 ?_; (case k0 => first | assumption | exact Nat.succ_ne_zero _); (case k1 => first | exact lit_q | exact rfl); (case k2 => first | exact lit_q | exact rfl); (case k3 => ((try simp only [List.length_append, List.length_cons, List.length_nil, List.length_replicate]); omega)); intro t9 k9 hk9))
local macro_rules | `(tactic| walk_at "binaryOp Mult str int") => `(tactic| (refine' mul_S ?k0 ?k1 ?k2 ?_; (case k0 => first | assumption | exact Nat.succ_ne_zero _); (case k1 => omega); (case k2 => omega); intro t9 k9 hk9))
local macro_rules | `(tactic| walk_at "call builtin:str.replace") => `(tactic| (refine' rep_q ?k0 ?k1 ?k2 ?k3 ?k4 ?_; (case k0 => first | assumption | exact Nat.succ_ne_zero _); (case k1 => first | assumption | exact Nat.succ_ne_zero _); (case k2 => exact Nat.succ_ne_zero _); (case k3 => exact Nat.ne_of_lt (Nat.lt_succ_self _)); (case k4 => omega); intro t9 k9 hk9))

local macro_rules | `(tactic| walk_at "compareOp NotEq ref ref") => `(tactic| (
  refine' tne_made ?k1 ?k2 ?k3 ?k4 ?k5 ?k6 ?k7 ?_; (case k1 => k_asm); (case k2 => k_mem); (case k3 => k_mem); (case k4 => assumption); (case k5 => (intro p9 h9; exact List.mem_cons_of_mem _ (List.mem_cons_of_mem _ (Bk.d (by assumption) p9 h9)))); (case k6 => assumption); (case k7 => ktr_units)))
local macro_rules | `(tactic| walk_at "compareOp NotEq ref ref") => `(tactic| (
  refine' tne_snoc ?k1 ?k2 ?k3 ?k4 ?k5 ?k6 ?k7 ?_; (case k1 => k_asm); (case k2 => k_mem); (case k3 => k_mem); (case k4 => assumption); (case k5 => (intro p9 h9; exact List.mem_cons_of_mem _ (List.mem_cons_of_mem _ (Bk.d (by assumption) p9 h9)))); (case k6 => assumption); (case k7 => ktr_units)))
local macro_rules | `(tactic| walk_at "subscriptTail Name UnaryOp ref int") => `(tactic| (
  refine' last_item ?k1 ?k2 ?_ ?k3; (case k1 => k_asm); (case k2 => k_mem); (case k3 => with_unfolding_all rfl)))
local macro_rules | `(tactic| walk_at "call builtin:list.append") => `(tactic| (k_here; (with_reducible show wpAny _ _ (call (Value.builtin _) [Value.ref _, _]) _ _ _); k_dflt (refine' append_K ?k1 ?k2 ?k3 ?_ ?z; (case k1 => k_asm); (case k2 => k_asm); (case k3 => k_upd); (case z => (simp only [List.size_toArray, List.length_append, List.length_cons, List.length_nil, PySem.sizeLine_eq]; omega)); k_whole); intro h' F' N'; (try k_sweep)))
local macro_rules | `(tactic| walk_at "setItem ref int") => `(tactic| (k_here; k_dflt (refine' set_last ?k1 ?k2 ?k3 ?_; (case k1 => k_asm); (case k2 => k_asm); (case k3 => k_upd); k_whole); intro h' F' N'; (try k_sweep)))

section
variable {l news tl add : List (Addr × Obj)} {D b : Addr} {k k' c n : Nat} {i : Int} {t t1 t2 : Tok} {x : List Nat}
theorem tdat_field (m1 : (D, ({ cls := .type "tuple", data := .seq [Value.str (Str.ofString "field") t, .ref b].toArray k } : Obj)) ∈ l) (m2 : (b, ({ cls := .type "tuple", data := .seq [Value.str (S [c]) t1, .int i t2].toArray k' } : Obj)) ∈ l) (e : i = n) : DatIn l (.ref D) (Token.field c n).dat := by
  subst e
  exact .tuple m1 (.cons (.str _ _) (.cons (.tuple m2 (.cons (.str _ _) (.cons (.int _ _) .nil))) .nil))
theorem tdat_chars (m1 : (D, ({ cls := .type "tuple", data := .seq [Value.str (Str.ofString "chars") t, .str (S x) t1].toArray k } : Obj)) ∈ l) : DatIn l (.ref D) (Token.chars x).dat := .tuple m1 (.cons (.str _ _) (.cons (.str _ _) .nil))
theorem sub_add : ∀ p ∈ news ++ tl, p ∈ news ++ (add ++ tl) := fun p hp => by
  simp only [List.mem_append] at hp ⊢
  rcases hp with h | h <;> simp only [h, true_or, or_true]
end
theorem tokens_c {w : World} {mean : ExcName → Option Value} {mg mb : Str → Option Value} {dp un : Nat} {gd : Option (List Code)} {cn : Str} {cs : Scope} {a : Addr} {ccd : Value} {cl : List (Str × Addr)} {outer : List Env} {A₀ : Around} {base h₀ : Heap} {L : Addr} {m : Str → Option Value} {news : List (Addr × Obj)} {s : Shared} {Q E : Value → Shared → Prop} {l : Addr} {us : List Value} {nn : Nat} {ps : List Piece} {l9 : List (Addr × Obj)} (B : Below A₀ base outer h₀) (F : Fr h₀ L s.heap m) (X : (hd.heap_39 w.params).In h₀) (N : News h₀ L s.heap news) (T : Top topProg (looseW hd.view_39 [Str.ofString "PATTERN_CHARS"] ++ (recsOf hd.view_39).map (·.name) ++ (litsOf hd.view_39).map (·.1) ++ (clssOf hd.view_39 (looseW hd.view_39 [Str.ofString "PATTERN_CHARS"])).map (·.name)) mean mg mb h₀) (hk : cs.kind = .function)
    (hm : (l, listOf us.toArray nn) ∈ news) (hD : DatAll l9 us (ps.map Piece.dat)) (hs : ∀ p ∈ l9, p ∈ news) (hok : ∀ p ∈ ps, p.ok) (hlen : ps.length ≤ 7) (hd : dp + 1 < recursionLimit) (hu : un + 100 < cLine)
    (hret : ∀ a us' n' tl h' tk', Fr h₀ L h' m → News h₀ L h' (news ++ tl) → (∀ q ∈ news, ∀ p ∈ tl, q.1 < p.1) → (a, listOf us'.toArray n') ∈ tl → DatAll (news ++ tl) us' ((tokensOf ps).map Token.dat) → Q (.ref a) { s with heap := h', toks := tk' }) :
    wpAny (model PySem.Challenge.rw_ey0005_01.row.prog w) (ktrTop dp un gd cn cs L a ccd cl outer) (call (.ref 109) [.ref l]) Q E s := by
  w_top off
  revert X; k_fill; intro X
  refine wpAny_call ?_
  k_dflt cell_enter
  repeat' ((fail_if_success (with_reducible show wpAny _ _ (exec (Stmt.For _ _ _ _ _) _) _ _ _)); (fail_if_success (with_reducible show wpAny _ _ (pyIter _) _ _ _)); first | (k_unfold; (try dsimp only)) | (k_end; wrow_close) | walk1 | (dsimp only; walk1) | (leave1; walk_say "STEP leave1"; try dsimp only) | fail "no step")
  (with_unfolding_all refine' wpAny_For ?_ ?k1; (case k1 => (intro x9; rfl)))
  repeat' ((fail_if_success (with_reducible show wpAny _ _ (exec (Stmt.For _ _ _ _ _) _) _ _ _)); (fail_if_success (with_reducible show wpAny _ _ (pyIter _) _ _ _)); first | (k_unfold; (try dsimp only)) | (k_end; wrow_close) | walk1 | (dsimp only; walk1) | (leave1; walk_say "STEP leave1"; try dsimp only) | fail "no step")
  rename News _ _ _ (_ :: news) => N9
  rename Fr _ _ _ _ => F9
  rename ∀ p ∈ news, p.1 < _ => hlow
  with_unfolding_all refine' lp_list (KJ _ news ps) rfl (List.mem_cons_of_mem _ hm) F9 N9 ?kj ?stay ?kE ?turn ?done
  case kE => passes_own
  case kj => exact ⟨[], 0, [], rfl, by rw [List.append_nil], (fun _ h => nomatch h), .nil⟩
  case stay => rintro i m nx ⟨_, _, _, _, rfl, _, _⟩; exact List.mem_cons_of_mem _ (List.mem_append.mpr (.inl hm))
  case done =>
    clear F9 N9
    rintro m₁ nx h1 tk1 _ ⟨us', n', tl, e1, rfl, h3, h4⟩ F1 N1
    have F1 := fr_knows [(Str.ofString "found", .ref _)] F1 (forall1 e1)
    dsimp only [kstB] at F1
    repeat' ((fail_if_success (with_reducible show wpAny _ _ (exec (Stmt.For _ _ _ _ _) _) _ _ _)); (fail_if_success (with_reducible show wpAny _ _ (pyIter _) _ _ _)); first | (k_unfold; (try dsimp only)) | (k_end; wrow_close) | walk1 | (dsimp only; walk1) | (leave1; walk_say "STEP leave1"; try dsimp only) | fail "no step")
    rw [hD.length, List.length_map, List.take_length] at h4
    refine hret _ us' n' ((_, _) :: tl) _ _ (by k_asm) (tl2' (by k_asm)) (ord_cons hlow fun q hq p hp => Nat.lt_trans (hlow q hq) (h3 p hp)) (.head _) (h4.mono fun p hp => ?_)
    rcases List.mem_append.mp hp with hp | hp
    · exact List.mem_append.mpr (.inl hp)
    · exact List.mem_append.mpr (.inr (List.mem_cons_of_mem _ hp))
  case turn =>
    clear F9 N9
    rintro i v m₁ nx h1 tk1 own hv hoff ⟨us', n', tl, e1, rfl, h3, h4⟩ htk F1 N1
    have F1 := fr_knows [(Str.ofString "found", .ref _)] F1 (forall1 e1)
    dsimp only [kstB] at F1
    have hi : i < ps.length := by
      have := (List.getElem?_eq_some_iff.mp hv).1
      rw [hD.length, List.length_map] at this; exact this
    obtain ⟨v', hv1, hv2⟩ := hD.get (k := i) (by rw [List.length_map]; exact hi)
    rw [hv] at hv1
    cases hv1
    rw [List.getElem_map] at hv2
    have hp : ps[i].ok := hok _ (List.getElem_mem hi)
    have ht : tokensOf (ps.take (i + 1)) = tokStep (tokensOf (ps.take i)) ps[i] := by
      rw [List.take_add_one, List.getElem?_eq_getElem hi]
      simp only [tokensOf, List.foldl_append, Option.toList, List.foldl_cons, List.foldl_nil]
    have hfit : ∀ t ∈ tokensOf (ps.take i), t.fit 70 := fun t ht => by
      refine fit_mono ?_ (tokensOf_fit (fun p hp => hok p (List.mem_of_mem_take hp)) t ht)
      rw [List.length_take]; omega
    obtain ⟨Z, N2, K9⟩ := bpack hlow h3 hoff N1
    clear N1
    have Z9 := K9.off
    have hulen := h4.length
    have hlts := tokensOf_len (ps.take i)
    rw [List.length_take] at hlts
    generalize tokensOf (ps.take i) = ts at h4 hfit ht hulen hlts
    generalize ps[i] = p at hv2 hp ht
    rw [List.length_map] at hulen
    obtain ⟨c8, n8, t8, b8, k8, k7, t7, t6, t5, e1, e2, m1, m2⟩ | ⟨x8, t8, k8, t7, t6, e1, e2, m1⟩ | ⟨x8, t8, k8, t7, t6, e1, e2, m1⟩ := piece_open hv2 <;> subst e1 <;> subst e2 <;> have m1' := K9.d _ (List.mem_append.mpr (.inl (hs _ m1)))
    · have m2n := hs _ m2
      have m2' := K9.d _ (List.mem_append.mpr (.inl m2n))
      rcases nil_or_snoc ts with rfl | ⟨ts0, t0, rfl⟩
      · cases h4
        repeat' ((fail_if_success (with_reducible show wpAny _ _ (exec (Stmt.For _ _ _ _ _) _) _ _ _)); (fail_if_success (with_reducible show wpAny _ _ (pyIter _) _ _ _)); first | (k_unfold; (try dsimp only)) | (k_end; wrow_close) | walk1 | (dsimp only; walk1) | (leave1; walk_say "STEP leave1"; try dsimp only) | fail "no step")
        refine turn_end (by k_asm) (by k_asm) K9 hoff (by k_mem) (push_eq _ _) (fun p hp => by simp only [List.mem_cons, hp, or_true]) (add := [(_, _)]) (List.forall_mem_cons.mpr ⟨⟨List.mem_cons_self, by (first | exact And.right (by assumption) | exact And.right (And.right (by assumption)) | exact And.right (And.right (And.right (by assumption))) | exact And.right (And.right (And.right (And.right (by assumption)))) | exact And.right (And.right (And.right (And.right (And.right (by assumption))))) | exact And.right (And.right (And.right (And.right (And.right (And.right (by assumption)))))) | exact And.right (And.right (And.right (And.right (And.right (And.right (And.right (by assumption))))))))⟩, List.forall_mem_nil _⟩) ⟨_, _, _, by with_unfolding_all rfl, rfl, List.forall_mem_append.mpr ⟨List.forall_mem_cons.mpr ⟨by (first | exact And.left (by assumption) | exact And.left (And.right (by assumption)) | exact And.left (And.right (And.right (by assumption))) | exact And.left (And.right (And.right (And.right (by assumption)))) | exact And.left (And.right (And.right (And.right (And.right (by assumption))))) | exact And.left (And.right (And.right (And.right (And.right (And.right (by assumption)))))) | exact And.left (And.right (And.right (And.right (And.right (And.right (And.right (by assumption)))))))), List.forall_mem_nil _⟩, h3⟩, ?_⟩
        rw [ht, snoc_nil, List.map_append]
        exact DatAll.append (.nil) (.cons (tdat_field (by k_mem) (by k_mem) rfl) .nil)
      · obtain ⟨us0, v0, rfl, h40, hv0⟩ := datAll_snoc (by rw [List.map_append] at h4; exact h4)
        rw [List.length_append, List.length_append, List.length_singleton, List.length_singleton] at hulen
        have hf0 := hfit t0 (List.mem_append.mpr (.inr (List.mem_singleton.mpr rfl)))
        obtain ⟨c0, n0, q0, b0, k0, j0, r0, r1, r2, e1, e2, w1, w2⟩ | ⟨y0, q0, k0, r0, r1, e1, e2, w1⟩ := tok_open hv0 <;> subst e1 <;> subst e2 <;> have w1' := K9.d _ w1
        · have w2' := K9.d _ w2
          repeat' ((fail_if_success (with_reducible show wpAny _ _ (exec (Stmt.For _ _ _ _ _) _) _ _ _)); (fail_if_success (with_reducible show wpAny _ _ (pyIter _) _ _ _)); first | (k_unfold; (try dsimp only)) | (k_end; wrow_close) | walk1 | (dsimp only; walk1) | (leave1; walk_say "STEP leave1"; try dsimp only) | fail "no step")
          · rename (S [c0] == S [c8]) = true => hc
            cases S_inj (eq_of_beq hc)
            refine turn_end (by k_asm) (by k_asm) K9 hoff (by k_mem) rfl (fun p hp => by simp only [List.mem_cons, hp, or_true]) (add := [(_, _), (_, _)]) (List.forall_mem_cons.mpr ⟨⟨List.mem_cons_self, by (first | exact And.right (by assumption) | exact And.right (And.right (by assumption)) | exact And.right (And.right (And.right (by assumption))) | exact And.right (And.right (And.right (And.right (by assumption)))) | exact And.right (And.right (And.right (And.right (And.right (by assumption))))) | exact And.right (And.right (And.right (And.right (And.right (And.right (by assumption)))))) | exact And.right (And.right (And.right (And.right (And.right (And.right (And.right (by assumption))))))))⟩, List.forall_mem_cons.mpr ⟨⟨List.mem_cons_of_mem _ List.mem_cons_self, by (first | exact And.right (by assumption) | exact And.right (And.right (by assumption)) | exact And.right (And.right (And.right (by assumption))) | exact And.right (And.right (And.right (And.right (by assumption)))) | exact And.right (And.right (And.right (And.right (And.right (by assumption))))) | exact And.right (And.right (And.right (And.right (And.right (And.right (by assumption)))))) | exact And.right (And.right (And.right (And.right (And.right (And.right (And.right (by assumption))))))))⟩, List.forall_mem_nil _⟩⟩) ⟨_, _, _, by with_unfolding_all rfl, rfl, List.forall_mem_append.mpr ⟨List.forall_mem_cons.mpr ⟨by (first | exact And.left (by assumption) | exact And.left (And.right (by assumption)) | exact And.left (And.right (And.right (by assumption))) | exact And.left (And.right (And.right (And.right (by assumption)))) | exact And.left (And.right (And.right (And.right (And.right (by assumption))))) | exact And.left (And.right (And.right (And.right (And.right (And.right (by assumption)))))) | exact And.left (And.right (And.right (And.right (And.right (And.right (And.right (by assumption)))))))), List.forall_mem_cons.mpr ⟨by (first | exact And.left (by assumption) | exact And.left (And.right (by assumption)) | exact And.left (And.right (And.right (by assumption))) | exact And.left (And.right (And.right (And.right (by assumption)))) | exact And.left (And.right (And.right (And.right (And.right (by assumption))))) | exact And.left (And.right (And.right (And.right (And.right (And.right (by assumption)))))) | exact And.left (And.right (And.right (And.right (And.right (And.right (And.right (by assumption)))))))), List.forall_mem_nil _⟩⟩, h3⟩, ?_⟩
            rw [ht, step_f_same, List.map_append]
            exact DatAll.append (h40.mono sub_add) (.cons (tdat_field (by k_mem) (by k_mem) (by omega)) .nil)
          · rename (S [c0] == S [c8]) = false => hc
            have hne : c0 ≠ c8 := fun e => by subst e; simp at hc
            refine turn_end (by k_asm) (by k_asm) K9 hoff (by k_mem) (push_eq _ _) (fun p hp => by simp only [List.mem_cons, hp, or_true]) (add := [(_, _)]) (List.forall_mem_cons.mpr ⟨⟨List.mem_cons_self, by (first | exact And.right (by assumption) | exact And.right (And.right (by assumption)) | exact And.right (And.right (And.right (by assumption))) | exact And.right (And.right (And.right (And.right (by assumption)))) | exact And.right (And.right (And.right (And.right (And.right (by assumption))))) | exact And.right (And.right (And.right (And.right (And.right (And.right (by assumption)))))) | exact And.right (And.right (And.right (And.right (And.right (And.right (And.right (by assumption))))))))⟩, List.forall_mem_nil _⟩) ⟨_, _, _, by with_unfolding_all rfl, rfl, List.forall_mem_append.mpr ⟨List.forall_mem_cons.mpr ⟨by (first | exact And.left (by assumption) | exact And.left (And.right (by assumption)) | exact And.left (And.right (And.right (by assumption))) | exact And.left (And.right (And.right (And.right (by assumption)))) | exact And.left (And.right (And.right (And.right (And.right (by assumption))))) | exact And.left (And.right (And.right (And.right (And.right (And.right (by assumption)))))) | exact And.left (And.right (And.right (And.right (And.right (And.right (And.right (by assumption)))))))), List.forall_mem_nil _⟩, h3⟩, ?_⟩
            rw [ht, step_f_other _ _ _ hne, List.map_append]
            exact DatAll.append (h4.mono sub_add) (.cons (tdat_field (by k_mem) (by k_mem) rfl) .nil)
        · repeat' ((fail_if_success (with_reducible show wpAny _ _ (exec (Stmt.For _ _ _ _ _) _) _ _ _)); (fail_if_success (with_reducible show wpAny _ _ (pyIter _) _ _ _)); first | (k_unfold; (try dsimp only)) | (k_end; wrow_close) | walk1 | (dsimp only; walk1) | (leave1; walk_say "STEP leave1"; try dsimp only) | fail "no step")
          refine turn_end (by k_asm) (by k_asm) K9 hoff (by k_mem) (push_eq _ _) (fun p hp => by simp only [List.mem_cons, hp, or_true]) (add := [(_, _)]) (List.forall_mem_cons.mpr ⟨⟨List.mem_cons_self, by (first | exact And.right (by assumption) | exact And.right (And.right (by assumption)) | exact And.right (And.right (And.right (by assumption))) | exact And.right (And.right (And.right (And.right (by assumption)))) | exact And.right (And.right (And.right (And.right (And.right (by assumption))))) | exact And.right (And.right (And.right (And.right (And.right (And.right (by assumption)))))) | exact And.right (And.right (And.right (And.right (And.right (And.right (And.right (by assumption))))))))⟩, List.forall_mem_nil _⟩) ⟨_, _, _, by with_unfolding_all rfl, rfl, List.forall_mem_append.mpr ⟨List.forall_mem_cons.mpr ⟨by (first | exact And.left (by assumption) | exact And.left (And.right (by assumption)) | exact And.left (And.right (And.right (by assumption))) | exact And.left (And.right (And.right (And.right (by assumption)))) | exact And.left (And.right (And.right (And.right (And.right (by assumption))))) | exact And.left (And.right (And.right (And.right (And.right (And.right (by assumption)))))) | exact And.left (And.right (And.right (And.right (And.right (And.right (And.right (by assumption)))))))), List.forall_mem_nil _⟩, h3⟩, ?_⟩
          rw [ht, step_f_chars, List.map_append]
          exact DatAll.append (h4.mono sub_add) (.cons (tdat_field (by k_mem) (by k_mem) rfl) .nil)
    · have hx8 := plain_fit x8 hp
      rcases nil_or_snoc ts with rfl | ⟨ts0, t0, rfl⟩
      · cases h4
        repeat' ((fail_if_success (with_reducible show wpAny _ _ (exec (Stmt.For _ _ _ _ _) _) _ _ _)); (fail_if_success (with_reducible show wpAny _ _ (pyIter _) _ _ _)); first | (k_unfold; (try dsimp only)) | (k_end; wrow_close) | walk1 | (dsimp only; walk1) | (leave1; walk_say "STEP leave1"; try dsimp only) | fail "no step")
        refine turn_end (by k_asm) (by k_asm) K9 hoff (by k_mem) (push_eq _ _) (fun p hp => by simp only [List.mem_cons, hp, or_true]) (add := [(_, _)]) (List.forall_mem_cons.mpr ⟨⟨List.mem_cons_self, by (first | exact And.right (by assumption) | exact And.right (And.right (by assumption)) | exact And.right (And.right (And.right (by assumption))) | exact And.right (And.right (And.right (And.right (by assumption)))) | exact And.right (And.right (And.right (And.right (And.right (by assumption))))) | exact And.right (And.right (And.right (And.right (And.right (And.right (by assumption)))))) | exact And.right (And.right (And.right (And.right (And.right (And.right (And.right (by assumption))))))))⟩, List.forall_mem_nil _⟩) ⟨_, _, _, by with_unfolding_all rfl, rfl, List.forall_mem_append.mpr ⟨List.forall_mem_cons.mpr ⟨by (first | exact And.left (by assumption) | exact And.left (And.right (by assumption)) | exact And.left (And.right (And.right (by assumption))) | exact And.left (And.right (And.right (And.right (by assumption)))) | exact And.left (And.right (And.right (And.right (And.right (by assumption))))) | exact And.left (And.right (And.right (And.right (And.right (And.right (by assumption)))))) | exact And.left (And.right (And.right (And.right (And.right (And.right (And.right (by assumption)))))))), List.forall_mem_nil _⟩, h3⟩, ?_⟩
        rw [ht, show tokStep [] (.chars x8) = [] ++ [.chars x8] from rfl, List.map_append]
        exact DatAll.append (.nil) (.cons (tdat_chars (by k_mem)) .nil)
      · obtain ⟨us0, v0, rfl, h40, hv0⟩ := datAll_snoc (by rw [List.map_append] at h4; exact h4)
        rw [List.length_append, List.length_append, List.length_singleton, List.length_singleton] at hulen
        have hf0 := hfit t0 (List.mem_append.mpr (.inr (List.mem_singleton.mpr rfl)))
        obtain ⟨c0, n0, q0, b0, k0, j0, r0, r1, r2, e1, e2, w1, w2⟩ | ⟨y0, q0, k0, r0, r1, e1, e2, w1⟩ := tok_open hv0 <;> subst e1 <;> subst e2 <;> have w1' := K9.d _ w1
        · have w2' := K9.d _ w2
          repeat' ((fail_if_success (with_reducible show wpAny _ _ (exec (Stmt.For _ _ _ _ _) _) _ _ _)); (fail_if_success (with_reducible show wpAny _ _ (pyIter _) _ _ _)); first | (k_unfold; (try dsimp only)) | (k_end; wrow_close) | walk1 | (dsimp only; walk1) | (leave1; walk_say "STEP leave1"; try dsimp only) | fail "no step")
          refine turn_end (by k_asm) (by k_asm) K9 hoff (by k_mem) (push_eq _ _) (fun p hp => by simp only [List.mem_cons, hp, or_true]) (add := [(_, _)]) (List.forall_mem_cons.mpr ⟨⟨List.mem_cons_self, by (first | exact And.right (by assumption) | exact And.right (And.right (by assumption)) | exact And.right (And.right (And.right (by assumption))) | exact And.right (And.right (And.right (And.right (by assumption)))) | exact And.right (And.right (And.right (And.right (And.right (by assumption))))) | exact And.right (And.right (And.right (And.right (And.right (And.right (by assumption)))))) | exact And.right (And.right (And.right (And.right (And.right (And.right (And.right (by assumption))))))))⟩, List.forall_mem_nil _⟩) ⟨_, _, _, by with_unfolding_all rfl, rfl, List.forall_mem_append.mpr ⟨List.forall_mem_cons.mpr ⟨by (first | exact And.left (by assumption) | exact And.left (And.right (by assumption)) | exact And.left (And.right (And.right (by assumption))) | exact And.left (And.right (And.right (And.right (by assumption)))) | exact And.left (And.right (And.right (And.right (And.right (by assumption))))) | exact And.left (And.right (And.right (And.right (And.right (And.right (by assumption)))))) | exact And.left (And.right (And.right (And.right (And.right (And.right (And.right (by assumption)))))))), List.forall_mem_nil _⟩, h3⟩, ?_⟩
          rw [ht, step_c_field, List.map_append]
          exact DatAll.append (h4.mono sub_add) (.cons (tdat_chars (by k_mem)) .nil)
        · have hy := hf0.2
          have hx := hx8.2
          repeat' ((fail_if_success (with_reducible show wpAny _ _ (exec (Stmt.For _ _ _ _ _) _) _ _ _)); (fail_if_success (with_reducible show wpAny _ _ (pyIter _) _ _ _)); first | (k_unfold; (try dsimp only)) | (k_end; wrow_close) | walk1 | (dsimp only; walk1) | (leave1; walk_say "STEP leave1"; try dsimp only) | fail "no step")
          refine turn_end (by k_asm) (by k_asm) K9 hoff (by k_mem) rfl (fun p hp => by simp only [List.mem_cons, hp, or_true]) (add := [(_, _)]) (List.forall_mem_cons.mpr ⟨⟨List.mem_cons_self, by (first | exact And.right (by assumption) | exact And.right (And.right (by assumption)) | exact And.right (And.right (And.right (by assumption))) | exact And.right (And.right (And.right (And.right (by assumption)))) | exact And.right (And.right (And.right (And.right (And.right (by assumption))))) | exact And.right (And.right (And.right (And.right (And.right (And.right (by assumption)))))) | exact And.right (And.right (And.right (And.right (And.right (And.right (And.right (by assumption))))))))⟩, List.forall_mem_nil _⟩) ⟨_, _, _, by with_unfolding_all rfl, rfl, List.forall_mem_append.mpr ⟨List.forall_mem_cons.mpr ⟨by (first | exact And.left (by assumption) | exact And.left (And.right (by assumption)) | exact And.left (And.right (And.right (by assumption))) | exact And.left (And.right (And.right (And.right (by assumption)))) | exact And.left (And.right (And.right (And.right (And.right (by assumption))))) | exact And.left (And.right (And.right (And.right (And.right (And.right (by assumption)))))) | exact And.left (And.right (And.right (And.right (And.right (And.right (And.right (by assumption)))))))), List.forall_mem_nil _⟩, h3⟩, ?_⟩
          rw [ht, step_c_chars, List.map_append]
          exact DatAll.append (h40.mono sub_add) (.cons (tdat_chars (by k_mem)) .nil)
    · have hx8 := quoted_fit x8 hp
      rcases nil_or_snoc ts with rfl | ⟨ts0, t0, rfl⟩
      · cases h4
        repeat' ((fail_if_success (with_reducible show wpAny _ _ (exec (Stmt.For _ _ _ _ _) _) _ _ _)); (fail_if_success (with_reducible show wpAny _ _ (pyIter _) _ _ _)); first | (k_unfold; (try dsimp only)) | (k_end; wrow_close) | walk1 | (dsimp only; walk1) | (leave1; walk_say "STEP leave1"; try dsimp only) | fail "no step")
        refine turn_end (by k_asm) (by k_asm) K9 hoff (by k_mem) (push_eq _ _) (fun p hp => by simp only [List.mem_cons, hp, or_true]) (add := [(_, _)]) (List.forall_mem_cons.mpr ⟨⟨List.mem_cons_self, by (first | exact And.right (by assumption) | exact And.right (And.right (by assumption)) | exact And.right (And.right (And.right (by assumption))) | exact And.right (And.right (And.right (And.right (by assumption)))) | exact And.right (And.right (And.right (And.right (And.right (by assumption))))) | exact And.right (And.right (And.right (And.right (And.right (And.right (by assumption)))))) | exact And.right (And.right (And.right (And.right (And.right (And.right (And.right (by assumption))))))))⟩, List.forall_mem_nil _⟩) ⟨_, _, _, by with_unfolding_all rfl, rfl, List.forall_mem_append.mpr ⟨List.forall_mem_cons.mpr ⟨by (first | exact And.left (by assumption) | exact And.left (And.right (by assumption)) | exact And.left (And.right (And.right (by assumption))) | exact And.left (And.right (And.right (And.right (by assumption)))) | exact And.left (And.right (And.right (And.right (And.right (by assumption))))) | exact And.left (And.right (And.right (And.right (And.right (And.right (by assumption)))))) | exact And.left (And.right (And.right (And.right (And.right (And.right (And.right (by assumption)))))))), List.forall_mem_nil _⟩, h3⟩, ?_⟩
        rw [ht, show tokStep [] (.quoted x8) = [] ++ [.chars x8] from rfl, List.map_append]
        exact DatAll.append (.nil) (.cons (tdat_chars (by k_mem)) .nil)
      · obtain ⟨us0, v0, rfl, h40, hv0⟩ := datAll_snoc (by rw [List.map_append] at h4; exact h4)
        rw [List.length_append, List.length_append, List.length_singleton, List.length_singleton] at hulen
        have hf0 := hfit t0 (List.mem_append.mpr (.inr (List.mem_singleton.mpr rfl)))
        obtain ⟨c0, n0, q0, b0, k0, j0, r0, r1, r2, e1, e2, w1, w2⟩ | ⟨y0, q0, k0, r0, r1, e1, e2, w1⟩ := tok_open hv0 <;> subst e1 <;> subst e2 <;> have w1' := K9.d _ w1
        · have w2' := K9.d _ w2
          repeat' ((fail_if_success (with_reducible show wpAny _ _ (exec (Stmt.For _ _ _ _ _) _) _ _ _)); (fail_if_success (with_reducible show wpAny _ _ (pyIter _) _ _ _)); first | (k_unfold; (try dsimp only)) | (k_end; wrow_close) | walk1 | (dsimp only; walk1) | (leave1; walk_say "STEP leave1"; try dsimp only) | fail "no step")
          refine turn_end (by k_asm) (by k_asm) K9 hoff (by k_mem) (push_eq _ _) (fun p hp => by simp only [List.mem_cons, hp, or_true]) (add := [(_, _)]) (List.forall_mem_cons.mpr ⟨⟨List.mem_cons_self, by (first | exact And.right (by assumption) | exact And.right (And.right (by assumption)) | exact And.right (And.right (And.right (by assumption))) | exact And.right (And.right (And.right (And.right (by assumption)))) | exact And.right (And.right (And.right (And.right (And.right (by assumption))))) | exact And.right (And.right (And.right (And.right (And.right (And.right (by assumption)))))) | exact And.right (And.right (And.right (And.right (And.right (And.right (And.right (by assumption))))))))⟩, List.forall_mem_nil _⟩) ⟨_, _, _, by with_unfolding_all rfl, rfl, List.forall_mem_append.mpr ⟨List.forall_mem_cons.mpr ⟨by (first | exact And.left (by assumption) | exact And.left (And.right (by assumption)) | exact And.left (And.right (And.right (by assumption))) | exact And.left (And.right (And.right (And.right (by assumption)))) | exact And.left (And.right (And.right (And.right (And.right (by assumption))))) | exact And.left (And.right (And.right (And.right (And.right (And.right (by assumption)))))) | exact And.left (And.right (And.right (And.right (And.right (And.right (And.right (by assumption)))))))), List.forall_mem_nil _⟩, h3⟩, ?_⟩
          rw [ht, show ∀ ts, tokStep ts (.quoted x8) = ts ++ [.chars x8] from fun _ => rfl, List.map_append]
          exact DatAll.append (h4.mono sub_add) (.cons (tdat_chars (by k_mem)) .nil)
        · repeat' ((fail_if_success (with_reducible show wpAny _ _ (exec (Stmt.For _ _ _ _ _) _) _ _ _)); (fail_if_success (with_reducible show wpAny _ _ (pyIter _) _ _ _)); first | (k_unfold; (try dsimp only)) | (k_end; wrow_close) | walk1 | (dsimp only; walk1) | (leave1; walk_say "STEP leave1"; try dsimp only) | fail "no step")
          refine turn_end (by k_asm) (by k_asm) K9 hoff (by k_mem) (push_eq _ _) (fun p hp => by simp only [List.mem_cons, hp, or_true]) (add := [(_, _)]) (List.forall_mem_cons.mpr ⟨⟨List.mem_cons_self, by (first | exact And.right (by assumption) | exact And.right (And.right (by assumption)) | exact And.right (And.right (And.right (by assumption))) | exact And.right (And.right (And.right (And.right (by assumption)))) | exact And.right (And.right (And.right (And.right (And.right (by assumption))))) | exact And.right (And.right (And.right (And.right (And.right (And.right (by assumption)))))) | exact And.right (And.right (And.right (And.right (And.right (And.right (And.right (by assumption))))))))⟩, List.forall_mem_nil _⟩) ⟨_, _, _, by with_unfolding_all rfl, rfl, List.forall_mem_append.mpr ⟨List.forall_mem_cons.mpr ⟨by (first | exact And.left (by assumption) | exact And.left (And.right (by assumption)) | exact And.left (And.right (And.right (by assumption))) | exact And.left (And.right (And.right (And.right (by assumption)))) | exact And.left (And.right (And.right (And.right (And.right (by assumption))))) | exact And.left (And.right (And.right (And.right (And.right (And.right (by assumption)))))) | exact And.left (And.right (And.right (And.right (And.right (And.right (And.right (by assumption)))))))), List.forall_mem_nil _⟩, h3⟩, ?_⟩
          rw [ht, show ∀ ts, tokStep ts (.quoted x8) = ts ++ [.chars x8] from fun _ => rfl, List.map_append]
          exact DatAll.append (h4.mono sub_add) (.cons (tdat_chars (by k_mem)) .nil)
end Mine
end

section
open PySem PySem.W PySem.Spec PySem.Calls PyProof.Rows
set_option maxRecDepth 100000
set_option maxHeartbeats 8000000
namespace Mine

open StrLaws Builtin.Str
section
variable {l y z : List Nat} {R : List Nat → List Nat}
theorem at_iff (k : Nat) : At (S l) (S y) (S l).length k ↔ k + y.length ≤ l.length ∧ (l.drop k).take y.length = y := by
  unfold At
  rw [subAt_eq, S_length, S_length]
  simp
theorem not_at (hy : 1 ≤ y.length) {k : Nat} (h : ¬ At (S l) (S y) (S l).length k) : ¬ y <+: l.drop k := by
  intro hp
  refine h ((at_iff k).mpr ⟨?_, ?_⟩)
  · have := hp.length_le
    rw [List.length_drop] at this
    omega
  · exact (List.prefix_iff_eq_take.mp hp).symm
theorem free_run (hy : 1 ≤ y.length) (h2 : ∀ c r, ¬ y <+: c :: r → R (c :: r) = c :: R r) : ∀ (d a : Nat), a + d ≤ l.length → (∀ k, a ≤ k → k < a + d → ¬ At (S l) (S y) (S l).length k) → R (l.drop a) = (l.drop a).take d ++ R (l.drop (a + d))
  | 0, a, _, _ => by simp
  | d + 1, a, hb, hn => by
    have ha : a < l.length := by omega
    have e : l.drop a = l[a] :: l.drop (a + 1) := List.drop_eq_getElem_cons ha
    have h3 := not_at hy (hn a (Nat.le_refl _) (by omega))
    rw [e] at h3
    have ih := free_run hy h2 d (a + 1) (by omega) fun k h4 h5 => hn k (by omega) (by omega)
    rw [e, h2 _ _ h3, ih, List.take_succ_cons, List.cons_append, Nat.add_assoc, Nat.add_comm 1 d]
theorem sub_list (i j : Nat) : (strSub (S l) i j).cps.toList = (l.drop i).take (j - i) := strSub_toList _ i j
theorem parts_rep (hy : 1 ≤ y.length) (h0 : R [] = []) (h1 : ∀ r, R (y ++ r) = z ++ R r) (h2 : ∀ c r, ¬ y <+: c :: r → R (c :: r) = c :: R r) : ∀ (cuts : List Nat) (a f : Nat), a ≤ l.length → ChainG (S l) (S y) (S l).length a cuts f →
    (∀ k, f ≤ k → ¬ At (S l) (S y) (S l).length k) → (Str.join (S z) (partsFrom (S l) (S y).length a cuts)).cps.toList = R (l.drop a)
  | [], a, f, ha, hc, hn => by
    have e : f = a := hc
    subst e
    have h3 := free_run (R := R) hy h2 (l.length - f) f (by omega) fun k h4 _ => hn k h4
    rw [h3, show f + (l.length - f) = l.length by omega, List.drop_length, h0, List.append_nil]
    show (strSub (S l) f (S l).length).cps.toList = _
    rw [sub_list, S_length]
  | c :: r, a, f, ha, hc, hn => by
    obtain ⟨h3, h4, h5, h6⟩ := hc
    obtain ⟨h7, h8⟩ := (at_iff c).mp h4
    have ih := parts_rep hy h0 h1 h2 r (c + (S y).length) f (by rw [S_length]; exact h7) h6 hn
    obtain ⟨p, q, e⟩ := partsFrom_ne (S l) (S y).length (c + (S y).length) r
    have h9 := free_run (R := R) hy h2 (c - a) a (by omega) fun k h4 h6 => h5 k h4 (by omega)
    rw [show a + (c - a) = c by omega] at h9
    have h10 : l.drop c = y ++ l.drop (c + y.length) := by
      have := List.take_append_drop y.length (l.drop c)
      rw [h8, List.drop_drop] at this
      exact this.symm
    show (Str.join (S z) (strSub (S l) a c :: partsFrom (S l) (S y).length (c + (S y).length) r)).cps.toList = _
    rw [e] at ih ⊢
    show (strSub (S l) a c ++ S z ++ Str.join (S z) (p :: q)).cps.toList = _
    rw [Str.cps_append, Str.cps_append, Array.toList_append, Array.toList_append, ih, sub_list, h9, h10, h1, S_length]
    simp
theorem rep_gen (hy : 1 ≤ y.length) (h0 : R [] = []) (h1 : ∀ r, R (y ++ r) = z ++ R r) (h2 : ∀ c r, ¬ y <+: c :: r → R (c :: r) = c :: R r) : Txt.replace (S l) (S y) (S z) = S (R l) := by
  obtain ⟨f, hc, hn⟩ := occ_tight (S l) (S y) (by rw [S_length]; exact hy)
  have key := parts_rep (l := l) hy h0 h1 h2 _ 0 f (Nat.zero_le _) hc hn
  rw [List.drop_zero] at key
  have fin : Str.join (S z) (partsBetween (S l) (occurrences (S l) (S y) 0 (S l).length ((S l).length + 1)) (S y).length) = S (R l) := by
    refine Str.ext' (Array.toList_inj.mp ?_)
    rw [partsBetween_eq, key]
  unfold Txt.replace
  have hz : ((S y).length == 0 && (S z).length == 0) = false := by
    rw [S_length]
    have : (y.length == 0) = false := by rw [beq_eq_false_iff_ne]; omega
    rw [this]; rfl
  rw [hz, Bool.or_false]
  split
  · rename_i he
    have e := List.isEmpty_iff.mp he
    rw [e] at key
    have h3 : (strSub (S l) 0 (S l).length).cps.toList = R l := key
    rw [sub_list, S_length] at h3
    simp only [List.drop_zero, Nat.sub_zero, List.take_length] at h3
    exact congrArg S h3
  · rw [glued_eq_join]; exact fin
end
/-- a sign for another -/
def swap0 (c : Nat) : Nat := if c = 0 then 39 else c
theorem rep_0 (l : List Nat) : Txt.replace (S l) (S [0]) (S [39]) = S (l.map swap0) := by
  refine rep_gen (R := fun l => l.map swap0) (by decide) rfl (fun r => rfl) fun c r h => ?_
  show swap0 c :: r.map swap0 = c :: r.map swap0
  have : swap0 c = c := if_neg fun e => h (by subst e; exact ⟨r, rfl⟩)
  rw [this]
/-- two quotes side by side are one nought -/
def rep2 : List Nat → List Nat
  | 39 :: 39 :: r => 0 :: rep2 r
  | c :: r => c :: rep2 r
  | [] => []
theorem rep_2 (l : List Nat) : Txt.replace (S l) (S [39, 39]) (S [0]) = S (rep2 l) := by
  refine rep_gen (R := rep2) (by decide) rfl (fun r => by simp [rep2]) fun c r h => ?_
  cases r with
  | nil => simp [rep2]
  | cons d r =>
    by_cases h1 : c = 39 ∧ d = 39
    · obtain ⟨rfl, rfl⟩ := h1
      exact absurd ⟨r, rfl⟩ h
    · rw [rep2]
      intro r' e1 e2
      injection e2 with e2 e3
      exact h1 ⟨e1, e2⟩
section
variable {prog : Program} {w : World} {A : Around} {E : Value → Shared → Prop} {s : Shared} {h₀ : Heap} {L D : Addr} {news : List (Addr × Obj)} {x : List Nat} {t u v : Tok} {n : Nat} {Q : Value → Shared → Prop}
theorem call_rep0 (h0 : s.toks ≠ 0) (hu : u ≠ 0) (hv : v ≠ 0) (huv : u ≠ v) (hl : x.length ≤ 10000) (h : ∀ t' tk, tk ≠ 0 → Q (.str (S (x.map swap0)) t') { s with toks := tk }) :
    wpAny (model prog w) A (call (.builtin "str.replace") [.str (S x) t, .str (Str.ofString "\x00") u, .str (Str.ofString "'") v]) Q E s := by
  rw [lit_q, lit_0]
  exact keep_pos h0 (SC.replaceW hu hv huv (by decide +kernel) (by rw [S_length]; omega) (by decide) fun t' k h3 => by rw [rep_0]; exact h t' k h3)
theorem call_rep2 (h0 : s.toks ≠ 0) (hu : u ≠ 0) (hv : v ≠ 0) (huv : u ≠ v) (hl : x.length ≤ 10000) (h : ∀ t' tk, tk ≠ 0 → Q (.str (S (rep2 x)) t') { s with toks := tk }) :
    wpAny (model prog w) A (call (.builtin "str.replace") [.str (S x) t, .str (Str.ofString "''") u, .str (Str.ofString "\x00") v]) Q E s := by
  have e2 : Str.ofString "''" = S [39, 39] := by decide +kernel
  rw [e2, lit_0]
  exact keep_pos h0 (SC.replaceW hu hv huv (by decide +kernel) (by rw [S_length]; omega) (by decide) fun t' k h3 => by rw [rep_2]; exact h t' k h3)
theorem join_S_eq (xs : List (List Nat)) : Txt.join (Str.ofString "") (xs.map S) = S xs.flatten := by
  show glued (Str.ofString "") (xs.map S) = _
  rw [glued_eq_join, show Str.ofString "" = S [] by decide +kernel]
  refine Str.ext' (Array.toList_inj.mp ?_)
  induction xs with
  | nil => rfl
  | cons x xs ih =>
    cases xs with
    | nil => simp [Str.join]
    | cons y ys =>
      show (S x ++ S [] ++ Str.join (S []) (S y :: ys.map S)).cps.toList = _
      have ih : (Str.join (S []) (S y :: ys.map S)).cps.toList = _ := ih
      rw [Str.cps_append, Str.cps_append, Array.toList_append, Array.toList_append, ih]
      simp
theorem join_S {xs : List (List Nat)} {us : List Value} (h0 : s.toks ≠ 0) (N : News h₀ L s.heap news) (hm : (D, listOf us.toArray n) ∈ news) (hs : StrsAre us (xs.map S)) (hl : xs.flatten.length ≤ 10000) (h : ∀ t' tk, tk ≠ 0 → Q (.str (S xs.flatten) t') { s with toks := tk }) :
    wpAny (model prog w) A (call (.builtin "str.join") [.str (Str.ofString "") t, .ref D]) Q E s := by
  refine keep_pos h0 (PyProof.Rows.join_list (items := us.toArray) (ys := xs.map S) ⟨_, N.get hm, rfl, n, rfl⟩ hs ?_ fun t' k h3 => by rw [join_S_eq]; exact h t' k h3)
  have e : ((xs.map S).map (·.length)).sum = xs.flatten.length := by
    rw [List.length_flatten, List.map_map]
    exact congrArg List.sum (List.map_congr_left fun a _ => S_length a)
  have e0 : (Str.ofString "").length = 0 := by decide +kernel
  rw [e, e0, Nat.mul_zero]
  omega
end
end Mine
end

section
open PySem PySem.W PySem.Spec PySem.Calls PyProof.Rows
set_option maxRecDepth 100000
set_option maxHeartbeats 8000000
namespace Mine

open PySem.Builtin PySem.Builtin.List in
theorem del_whole {prog : Program} {w : World} {A : Around} {E : Value → Shared → Prop} {s : Shared} {D sl : Addr} {vb : List Value} {n : Nat} {Q : Unit → Shared → Prop}
    (ho : s.heap.get? D = some (listOf vb.toArray n)) (hs : s.heap.IsSliceOf sl .none .none .none) (hlen : vb.length ≤ 10000)
    (h : ∀ f : Array Value → Array Value, f vb.toArray = #[] → Q () { s with heap := s.heap.update D (Obj.mapSeq f) }) :
    wpAny (model prog w) A (delItem (.ref D) (.ref sl)) Q E s := by
  obtain ⟨os, hos, hcs, hds⟩ := id hs
  have hTs : s.TypeIs (.ref sl) "slice" := ⟨os, hos, hcs⟩
  have hT : s.TypeIs (.ref D) "list" := ⟨_, ho, rfl⟩
  refine wpAny_delItem_slot hT (by decide) F.slot_list_delitem (wpAny_call_entry F.slot_list_delitem hT F.entry_list_delitem ?_ (F.args_list_delitem_2 _ _))
  show wpAny _ _ (Builtin.List.listSubscript? (.ref sl) >>= _) _ _ s
  refine wpAny_bind ?_
  unfold Builtin.List.listSubscript?
  refine wpAny_bind (wpAny_specialOf hTs slice_no_index ?_)
  simp only [Option.isNone_none, if_true]
  refine wpAny_pure ?_
  show wpAny _ _ (typeOf (.ref sl) >>= _) _ _ s
  refine wpAny_bind (wpAny_typeOf hTs ?_)
  rw [if_neg (by decide)]
  rw [listSliceParts_eq]
  refine wpAny_bind (wpAny_bind (wpAny_field hos hds (x := .none) rfl (wpAny_bind (wpAny_listPart .none ?_))))
  rw [if_neg (show ¬ ((rawPart Option.none == rawInt 0) = true) from Bool.false_ne_true)]
  refine wpAny_bind (wpAny_field hos hds (x := .none) rfl (wpAny_bind (wpAny_listPart .none ?_)))
  refine wpAny_bind (wpAny_field hos hds (x := .none) rfl (wpAny_bind (wpAny_listPart .none (wpAny_pure ?_))))
  refine wpAny_bind (m := Builtin.List.listItems (.ref D)) ?_
  unfold Builtin.List.listItems
  refine wpAny_bind (wpAny_seqItems ho rfl (wpAny_pure ?_))
  refine wpAny_bind (wpAny_of_eq (sliceIndices_raw Option.none Option.none Option.none vb.toArray.size (by simp)) ?_)
  refine wpAny_bind (wpAny_rule ?_)
  have inside : ∀ p ∈ vb.toArray.toList.zipIdx, (if (1 : Int) > 0 then decide ((0 : Int) ≤ (p.2 : Int)) && decide ((p.2 : Int) < (vb.toArray.size : Int)) && (((p.2 : Int) - 0) % 1 == 0) else false) = true := by
    rintro ⟨x, k⟩ hp
    have h1 := (List.mem_zipIdx hp).2.1
    have h2 : k < vb.length := by simpa using h1
    rw [if_pos (by decide)]
    simp only [Bool.and_eq_true, decide_eq_true_eq, beq_iff_eq, List.size_toArray]
    omega
  refine wpAny_bind (wpAny_updateSeq ho rfl (wpAny_bind (wpAny_letGo (wpAny_pure ⟨_, rfl, h _ ?_⟩))) (by rw [List.size_toArray, sizeLine_eq]; omega) ?_)
  · exact congrArg List.toArray (List.filterMap_eq_nil_iff.mpr fun p hp => if_pos (inside p hp))
  · exact Nat.le_trans (Nat.le_of_eq (congrArg (fun l : List Value => l.toArray.size) (List.filterMap_eq_nil_iff.mpr fun p hp => if_pos (inside p hp)))) (Nat.zero_le _)
theorem del_all {prog : Program} {w : World} {A : Around} {E : Value → Shared → Prop} {h₀ h : Heap} {L D : Addr} {m : Str → Option Value} {news news' : List (Addr × Obj)} {vb : List Value} {n : Nat} {g : Array GenState} {d : Drawn} {tk : Nat} {os : OsState} {Q : Unit → Shared → Prop}
    (F : Fr h₀ L h m) (N : News h₀ L h news) (U : Upd D (listOf vb.toArray n) (listOf #[] (if (0 : Nat) == vb.length then n else n + 1)) news news') (hlen : vb.length ≤ 10000)
    (hq : ∀ h', Fr h₀ L h' m → News h₀ L h' news' → Q () ⟨h', g, d, tk, os⟩) :
    wpAny (model prog w) A (delItem (.ref D) (.ref h.objs.size)) Q E ⟨h.push { cls := .type "slice", data := .fields #[.none, .none, .none] }, g, d, tk, os⟩ := by
  obtain ⟨pre, post, rfl, rfl, a, b⟩ := U.split
  have N2 : News h₀ L (h.push { cls := .type "slice", data := .fields #[.none, .none, .none] }) (pre ++ (D, listOf vb.toArray n) :: post) := fun p hp => ⟨Heap.get?_push_of_some _ (N p hp).1, (N p hp).2⟩
  have z := N2 (D, listOf vb.toArray n) (List.mem_append.mpr (.inr (.head _)))
  refine del_whole z.1 (Heap.IsSliceOf.new ..) hlen fun f hf => ?_
  refine hq _ ((F.push _).change (Heap.SameBut.update ..) z.2.1 z.2.2) (ki_turn f N2 a b hf ?_)
  rw [List.size_toArray]
  rfl
end Mine
end

section
open PySem PySem.W PySem.Spec PySem.Calls PyProof.Rows
set_option maxRecDepth 100000
set_option maxHeartbeats 8000000
namespace Mine

def keyStr : Value → Str
  | .str y _ => y
  | _ => Str.empty
theorem find_keys1 {c : Nat} : ∀ {l : List DictEntry} {ks : List Nat}, (∀ d ∈ l, ∃ y t, d.key = .str y t) → l.map (fun d => keyStr d.key) = ks.map (fun c => S [c]) → (l.find? fun d => Value.isStrOf (⟨#[c]⟩ : Str) d.key).isSome = decide (c ∈ ks)
  | [], [], _, _ => rfl
  | [], _ :: _, _, e => nomatch e
  | _ :: _, [], _, e => nomatch e
  | d :: l, k :: ks, h1, e => by
    rw [List.map_cons, List.map_cons] at e
    injection e with e1 e2
    have ih := find_keys1 (c := c) (fun d hd => h1 d (.tail _ hd)) e2
    obtain ⟨y, t, hy⟩ := h1 d (.head _)
    rw [hy] at e1
    have e1 : y = S [k] := e1
    subst e1
    by_cases hc : c = k
    · subst hc
      have : Value.isStrOf (⟨#[c]⟩ : Str) d.key = true := by rw [hy]; exact beq_self_eq_true (S [c])
      rw [List.find?_cons, this]; simp
    · have : Value.isStrOf (⟨#[c]⟩ : Str) d.key = false := by
        rw [hy]
        refine beq_eq_false_iff_ne.mpr fun e => hc ?_
        have := S_inj (x := [k]) (y := [c]) e
        injection this with this
        exact this.symm
      rw [List.find?_cons, this]
      show (l.find? _).isSome = _
      rw [ih]
      simp [hc]
section
variable {prog : Program} {w : World} {A : Around} {E : Value → Shared → Prop} {s : Shared} {h₀ : Heap} {L a : Addr} {m : Str → Option Value} {c n : Nat} {t : Tok} {K : Frag} {l : List DictEntry} {ks : List Nat}
theorem truthy_S {Q : Bool → Shared → Prop} (h : ∀ k, Q true { s with toks := k }) : wpAny (model prog w) A (truthy (.str (S [c]) t)) Q E s :=
  SBL.truthy (by rw [S_length]; show (1 : Int) < _; decide) (by rw [S_length]; exact h _)
theorem in_keys {Q : Value → Shared → Prop} (F : Fr h₀ L s.heap m) (X₀ : K.In h₀) (hl : K.lookup a = some ⟨.type "dict", none, .dict l.toArray n, #[]⟩) (hk : KeysLit w.params l) (e : l.map (fun d => keyStr d.key) = ks.map fun c => S [c]) (lo : (a == sysModules) = false)
    (h : ∀ k, Q (.bool (decide (c ∈ ks))) { s with toks := k }) : wpAny (model prog w) A (compareOp .In (.str ⟨#[c]⟩ t) (.ref a)) Q E s := by
  refine wpAny_in_of (strKind_is prog w _ t) lo (mapOf_K (prog := prog) (X₀.keeps F.keep) hl hk) ?_
  have h1 : (findBy Value.isStrOf l.toArray ⟨#[c]⟩).isSome = decide (c ∈ ks) := by
    unfold findBy
    rw [List.find?_toArray, Option.isSome_map]
    exact find_keys1 (fun d hd => (hk.all d hd).imp fun y h => h.imp fun t h => h.1) e
  rw [h1]; exact h _
theorem in_pat {Q : Value → Shared → Prop} (F : Fr h₀ L s.heap m) (X : (hd.heap_39 w.params).In h₀) (h : ∀ k, Q (.bool (decide (c ∈ lets))) { s with toks := k }) : wpAny (model PySem.Challenge.rw_ey0005_01.row.prog w) A (compareOp .In (.str ⟨#[c]⟩ t) (.ref 15)) Q E s := by
  revert X; k_fill; intro X
  refine' in_keys (ks := lets) F X ?hl ?hk ?e ?o h
  case hl => k_is
  case hk => k_keys
  case e => with_unfolding_all rfl
  case o => decide
end
end Mine
end

section
open PySem PySem.W PySem.Spec PySem.Calls PyProof.Rows
set_option maxRecDepth 100000
set_option maxHeartbeats 8000000
namespace Mine

set_option pp.deepTerms false
set_option pp.deepTerms.threshold 12
local macro_rules | `(tactic| k_updF) => `(tactic| first
  | with_reducible assumption
  | with_reducible exact List.mem_cons_self
  | (with_reducible refine List.mem_cons_of_mem _ ?_; k_updF)
  | (with_reducible refine List.mem_append.mpr (Or.inr ?_); k_updF)
  | (with_reducible refine List.mem_append.mpr (Or.inl ?_); k_updF))
local macro_rules | `(tactic| k_mem) => `(tactic| k_updF)
local macro_rules | `(tactic| walk_at "execs cons") => `(tactic| (with_reducible refine gen_toks ?_; intro tk9 htk9))
local macro_rules | `(tactic| walk_at "execs nil") => `(tactic| (with_reducible refine gen_toks ?_; intro tk9 htk9))
local macro_rules | `(tactic| walk_at "binaryOp Add str str") => `(tactic| (
  refine' add_S ?k0 ?k1 ?k2 ?k3 ?_; (case k0 => first | assumption | exact Nat.succ_ne_zero _); (case k1 => first | exact lit_q | exact rfl); (case k2 => first | exact lit_q | exact rfl); (case k3 => ((try simp only [List.length_append, List.length_cons, List.length_nil, List.length_replicate]); omega)); intro t9 k9 hk9))
local macro_rules | `(tactic| walk_at "binaryOp Mult str int") => `(tactic| (refine' mul_S ?k0 ?k1 ?k2 ?_; (case k0 => first | assumption | exact Nat.succ_ne_zero _); (case k1 => omega); (case k2 => omega); intro t9 k9 hk9))
local macro_rules | `(tactic| walk_at "call builtin:str.replace") => `(tactic| (refine' rep_q ?k0 ?k1 ?k2 ?k3 ?k4 ?_; (case k0 => first | assumption | exact Nat.succ_ne_zero _); (case k1 => first | assumption | exact Nat.succ_ne_zero _); (case k2 => exact Nat.succ_ne_zero _); (case k3 => exact Nat.ne_of_lt (Nat.lt_succ_self _)); (case k4 => omega); intro t9 k9 hk9))

section
theorem strs_len {us : List Value} {ts : List Str} (h : StrsAre us ts) : us.length = ts.length := by
  exact h.len_eq
variable {prog : Program} {w : World} {A : Around} {E : Value → Shared → Prop} {s : Shared} {h₀ : Heap} {L D : Addr} {news : List (Addr × Obj)} {x : List Nat} {us : List Value} {t : Tok} {n : Nat} {Q : Value → Shared → Prop}
theorem flat_one : ∀ x : List Nat, (x.map fun c => [c]).flatten = x
  | [] => rfl
  | a :: x => by rw [List.map_cons, List.flatten_cons, flat_one x]; rfl
theorem join_C (h0 : s.toks ≠ 0) (N : News h₀ L s.heap news) (hm : (D, listOf us.toArray n) ∈ news) (hs : StrsAre us (x.map fun c => S [c])) (hl : x.length ≤ 10000) (h : ∀ t' tk, tk ≠ 0 → Q (.str (S x) t') { s with toks := tk }) :
    wpAny (model prog w) A (call (.builtin "str.join") [.str (Str.ofString "") t, .ref D]) Q E s := by
  have e := flat_one x
  refine join_S (xs := x.map fun c => [c]) h0 N hm (by rw [List.map_map]; exact hs) (by rw [e]; exact hl) ?_
  rw [e]; exact h
end
local macro_rules | `(tactic| walk_at "call builtin:str.join") => `(tactic| (refine' join_C ?k0 ?k1 ?k2 ?k3 ?k4 ?_; (case k0 => first | assumption | exact Nat.succ_ne_zero _); (case k1 => k_asm); (case k2 => k_mem); (case k3 => assumption); (case k4 => omega); intro t9 k9 hk9))
local macro_rules | `(tactic| walk_at "call builtin:str.replace") => `(tactic| (refine' call_rep0 ?k0 ?k1 ?k2 ?k3 ?k4 ?_; (case k0 => first | assumption | exact Nat.succ_ne_zero _); (case k1 => first | assumption | exact Nat.succ_ne_zero _); (case k2 => exact Nat.succ_ne_zero _); (case k3 => exact Nat.ne_of_lt (Nat.lt_succ_self _)); (case k4 => omega); intro t9 k9 hk9))
/-- the four lists of tokenize_pattern, one behind the other -/
abbrev Four (fn fc cb r : Nat) (vn vc : Value) (vb vr : List Value) (n1 n2 n3 n4 : Nat) (Z : List (Addr × Obj)) : List (Addr × Obj) :=
  (fn, listOf [vn].toArray n1) :: (fc, listOf [vc].toArray n2) :: (cb, listOf vb.toArray n3) :: (r, listOf vr.toArray n4) :: Z
local macro_rules | `(tactic| walk_at "call builtin:list.append") => `(tactic| (k_here; (with_reducible show wpAny _ _ (call (Value.builtin _) [Value.ref _, _]) _ _ _); k_dflt (refine' append_K ?k1 ?k2 ?k3 ?_ ?z; (case k1 => k_asm); (case k2 => k_asm); (case k3 => k_upd); (case z => (simp only [List.size_toArray, List.length_append, List.length_cons, List.length_nil, PySem.sizeLine_eq]; omega)); k_whole); intro h' F' N'; (try k_sweep)))
local macro_rules | `(tactic| walk_at "delItem ref ref") => `(tactic| ((try dsimp only); (refine' del_all ?k1 ?k2 ?k3 ?k4 ?_; (case k1 => k_asm); (case k2 => k_asm); (case k3 => k_upd); (case k4 => omega)); intro h' F' N'; (try k_sweep)))
theorem append_field_c {w : World} {mean : ExcName → Option Value} {mg mb : Str → Option Value} {dp un : Nat} {gd : Option (List Code)} {cn : Str} {cs : Scope} {a : Addr} {ccd : Value} {cl : List (Str × Addr)} {outer : List Env} {A₀ : Around} {base h₀ : Heap} {L : Addr} {m : Str → Option Value} {news : List (Addr × Obj)} {s : Shared} {Q E : Value → Shared → Prop} {fn fc cb r : Nat} {vn vc : Value} {vb vr : List Value} {n1 n2 n3 n4 : Nat} {Z : List (Addr × Obj)}
    (B : Below A₀ base outer h₀) (F : Fr h₀ L s.heap m) (X : (hd.heap_39 w.params).In h₀) (N : News h₀ L s.heap (Four fn fc cb r vn vc vb vr n1 n2 n3 n4 Z)) (T : Top topProg (looseW hd.view_39 [Str.ofString "PATTERN_CHARS"] ++ (recsOf hd.view_39).map (·.name) ++ (litsOf hd.view_39).map (·.1) ++ (clssOf hd.view_39 (looseW hd.view_39 [Str.ofString "PATTERN_CHARS"])).map (·.name)) mean mg mb h₀) (hk : cs.kind = .function)
    (h1 : r < cb) (h2 : cb < fc) (h3 : fc < fn) (hZ : OwnOff Z [fn, fc, cb, r]) (hlen : vr.length ≤ 1000) (hd : dp + 1 < recursionLimit) (hu : un + 100 < cLine)
    (hret : ∀ (D b k k' : Nat) t1 t2 t3 h' tk', Fr h₀ L h' m → fn < b → b < D → AllLt b Z → AllLt D Z →
      News h₀ L h' ((D, ({ cls := .type "tuple", data := .seq [Value.str (Str.ofString "field") t1, .ref b].toArray k } : Obj)) :: (b, ({ cls := .type "tuple", data := .seq [vc, vn].toArray k' } : Obj)) :: Four fn fc cb r (.int 0 t2) (.str (Str.ofString "") t3) vb (vr ++ [.ref D]) n1 n2 n3 (n4 + 1) Z) → Q .none { s with heap := h', toks := tk' }) :
    wpAny (model PySem.Challenge.rw_ey0005_01.row.prog w) (ktrTop dp un gd cn cs L a ccd cl outer) (call (.ref 60) [.ref r, .ref fc, .ref fn]) Q E s := by
  dsimp only [Four] at N hret
  w_top off
  revert X; k_fill; intro X
  refine wpAny_call ?_
  k_dflt cell_enter
  repeat' ((fail_if_success (with_reducible show wpAny _ _ (exec (Stmt.For _ _ _ _ _) _) _ _ _)); (fail_if_success (with_reducible show wpAny _ _ (pyIter _) _ _ _)); first | (k_unfold; (try dsimp only)) | (k_end; wrow_close) | walk1 | (dsimp only; walk1) | (leave1; walk_say "STEP leave1"; try dsimp only) | fail "no step")
  refine' hret ?_ ?_ ?_ ?_ ?_ ?_ ?_ ?_ ?_ ?f ?l1 ?l2 ?a1 ?a2 ?n
  case n => rw [← push_eq]; k_asm
  case f => k_asm
  case l1 => omega
  case l2 => omega
  case a1 => (first | exact And.right (by assumption) | exact And.right (And.right (by assumption)) | exact And.right (And.right (And.right (by assumption))) | exact And.right (And.right (And.right (And.right (by assumption)))) | exact And.right (And.right (And.right (And.right (And.right (by assumption))))) | exact And.right (And.right (And.right (And.right (And.right (And.right (by assumption)))))) | exact And.right (And.right (And.right (And.right (And.right (And.right (And.right (by assumption))))))))
  case a2 => (first | exact And.right (by assumption) | exact And.right (And.right (by assumption)) | exact And.right (And.right (And.right (by assumption))) | exact And.right (And.right (And.right (And.right (by assumption)))) | exact And.right (And.right (And.right (And.right (And.right (by assumption))))) | exact And.right (And.right (And.right (And.right (And.right (And.right (by assumption)))))) | exact And.right (And.right (And.right (And.right (And.right (And.right (And.right (by assumption))))))))
theorem append_chars_c {w : World} {mean : ExcName → Option Value} {mg mb : Str → Option Value} {dp un : Nat} {gd : Option (List Code)} {cn : Str} {cs : Scope} {a : Addr} {ccd : Value} {cl : List (Str × Addr)} {outer : List Env} {A₀ : Around} {base h₀ : Heap} {L : Addr} {m : Str → Option Value} {news : List (Addr × Obj)} {s : Shared} {Q E : Value → Shared → Prop} {fn fc cb r : Nat} {vn vc : Value} {x : List Nat} {vb vr : List Value} {n1 n2 n3 n4 : Nat} {Z : List (Addr × Obj)}
    (B : Below A₀ base outer h₀) (F : Fr h₀ L s.heap m) (X : (hd.heap_39 w.params).In h₀) (N : News h₀ L s.heap (Four fn fc cb r vn vc vb vr n1 n2 n3 n4 Z)) (T : Top topProg (looseW hd.view_39 [Str.ofString "PATTERN_CHARS"] ++ (recsOf hd.view_39).map (·.name) ++ (litsOf hd.view_39).map (·.1) ++ (clssOf hd.view_39 (looseW hd.view_39 [Str.ofString "PATTERN_CHARS"])).map (·.name)) mean mg mb h₀) (hk : cs.kind = .function)
    (hb : StrsAre vb (x.map fun c => S [c])) (hx : x.length ≤ 1000)
    (h1 : r < cb) (h2 : cb < fc) (h3 : fc < fn) (hZ : OwnOff Z [fn, fc, cb, r]) (hlen : vr.length ≤ 1000) (hd : dp + 1 < recursionLimit) (hu : un + 100 < cLine)
    (hret : ∀ (D k n3' : Nat) t1 t2 h' tk', Fr h₀ L h' m → fn < D → AllLt D Z →
      News h₀ L h' ((D, ({ cls := .type "tuple", data := .seq [Value.str (Str.ofString "chars") t1, .str (S (x.map swap0)) t2].toArray k } : Obj)) :: Four fn fc cb r vn vc [] (vr ++ [.ref D]) n1 n2 n3' (n4 + 1) Z) → Q .none { s with heap := h', toks := tk' }) :
    wpAny (model PySem.Challenge.rw_ey0005_01.row.prog w) (ktrTop dp un gd cn cs L a ccd cl outer) (call (.ref 53) [.ref r, .ref cb]) Q E s := by
  dsimp only [Four] at N hret
  have hbl : vb.length ≤ 1000 := by rw [strs_len hb, List.length_map]; exact hx
  w_top off
  revert X; k_fill; intro X
  refine wpAny_call ?_
  k_dflt cell_enter
  repeat' ((fail_if_success (with_reducible show wpAny _ _ (exec (Stmt.For _ _ _ _ _) _) _ _ _)); (fail_if_success (with_reducible show wpAny _ _ (pyIter _) _ _ _)); first | (k_unfold; (try dsimp only)) | (k_end; wrow_close) | walk1 | (dsimp only; walk1) | (leave1; walk_say "STEP leave1"; try dsimp only) | fail "no step")
  refine' hret ?_ ?_ ?_ ?_ ?_ ?_ ?_ ?f ?l1 ?a1 ?n
  case n => rw [← push_eq]; k_asm
  case f => k_asm
  case l1 => omega
  case a1 => (first | exact And.right (by assumption) | exact And.right (And.right (by assumption)) | exact And.right (And.right (And.right (by assumption))) | exact And.right (And.right (And.right (And.right (by assumption)))) | exact And.right (And.right (And.right (And.right (And.right (by assumption))))) | exact And.right (And.right (And.right (And.right (And.right (And.right (by assumption)))))) | exact And.right (And.right (And.right (And.right (And.right (And.right (And.right (by assumption))))))))
end Mine
end

section
open PySem PySem.W PySem.Spec PySem.Calls PyProof.Rows
set_option maxRecDepth 100000
set_option maxHeartbeats 8000000
namespace Mine

inductive Mode where
  | fld (c n : Nat)
  | txt (x : List Nat)
  | quo (x : List Nat)
def flush (ts : List Token) (x : List Nat) : List Token := if x = [] then ts else ts ++ [.chars (x.map swap0)]
def tzStep : List Token × Mode → Nat → List Token × Mode
  | (ts, .fld c n), d => if d = 39 then (ts ++ [.field c n], .quo []) else if d ∈ lets then (if d = c then (ts, .fld c (n + 1)) else (ts ++ [.field c n], .fld d 1)) else (ts ++ [.field c n], .txt [d])
  | (ts, .txt x), d => if d = 39 then (flush ts x, .quo []) else if d ∈ lets then (flush ts x, .fld d 1) else (ts, .txt (x ++ [d]))
  | (ts, .quo x), d => if d = 39 then (ts, .txt x) else (ts, .quo (x ++ [d]))
def tzEnd : List Token × Mode → List Token
  | (ts, .fld c n) => ts ++ [.field c n]
  | (ts, .txt x) => flush ts x
  | (ts, .quo _) => ts
/-- what tokenize_pattern makes of a text without side by side quotes -/
def tz (x : List Nat) : List Token := tzEnd ((rep2 x).foldl tzStep ([], .txt []))
theorem rep2_len : ∀ x : List Nat, (rep2 x).length ≤ x.length
  | 39 :: 39 :: r => by have := rep2_len r; simp only [rep2, List.length_cons]; omega
  | [] => by simp [rep2]
  | [c] => by simp [rep2]
  | c :: d :: r => by
    by_cases h : c = 39 ∧ d = 39
    · obtain ⟨rfl, rfl⟩ := h; have := rep2_len r; simp only [rep2, List.length_cons]; omega
    · have := rep2_len (d :: r)
      rw [rep2]
      · simp only [List.length_cons] at this ⊢; omega
      · intro r' e1 e2; injection e2 with e2 e3; exact h ⟨e1, e2⟩
theorem flush_nil (ts : List Token) : flush ts [] = ts := rfl
theorem flush_cons (ts : List Token) (a : Nat) (x : List Nat) : flush ts (a :: x) = ts ++ [.chars ((a :: x).map swap0)] := if_neg (by simp)
end Mine
end

section
open PySem PySem.W PySem.Spec PySem.Calls PyProof.Rows
set_option maxRecDepth 100000
set_option maxHeartbeats 8000000
namespace Mine
local macro_rules | `(tactic| walk_at "mine none") => `(tactic| fail)
local macro_rules | `(tactic| walk_at "mine none") => `(tactic| fail)

set_option pp.deepTerms false
set_option pp.deepTerms.threshold 12
/-- what lies behind the lists at work, in one letter -/
structure Ck (news tl own Z : List (Addr × Obj)) (as : List Addr) : Prop where
  off : OwnOff Z as
  d : ∀ p ∈ news ++ tl, p ∈ Z
  o : ∀ p ∈ own, p ∈ Z
  ap : OwnOff own ((news ++ tl).map (·.1))
theorem cpack {g h : Heap} {L : Addr} {news tl own : List (Addr × Obj)} (head : List (Addr × Obj)) (h1 : ∀ p ∈ news ++ tl, ∀ a ∈ head.map (·.1), p.1 ≠ a) (h3 : OwnOff own ((head ++ (news ++ tl)).map (·.1)))
    (N : News g L h ((head ++ (news ++ tl)) ++ own)) : ∃ Z, News g L h (head ++ Z) ∧ Ck news tl own Z (head.map (·.1)) := by
  refine ⟨news ++ tl ++ own, by simpa only [List.append_assoc] using N, ?_, fun p hp => List.mem_append.mpr (.inl hp), fun p hp => List.mem_append.mpr (.inr hp), ?_⟩
  · intro p hp b hb
    rcases List.mem_append.mp hp with hp | hp
    · exact h1 p hp b hb
    · exact h3 p hp b (by rw [List.map_append]; exact List.mem_append.mpr (.inl hb))
  · intro p hp b hb
    exact h3 p hp b (by rw [List.map_append]; exact List.mem_append.mpr (.inr hb))
theorem four_off {fn fc cb r : Nat} {news tl : List (Addr × Obj)} (h1 : r < cb) (h2 : cb < fc) (h3 : fc < fn) (hl : ∀ p ∈ news, p.1 < r) (ht : ∀ p ∈ tl, fn < p.1) : ∀ p ∈ news ++ tl, ∀ a ∈ [fn, fc, cb, r], p.1 ≠ a := by
  intro p hp a ha
  have e1 : a ≤ fn ∧ r ≤ a := by
    simp only [List.mem_cons, List.not_mem_nil, or_false] at ha
    omega
  rcases List.mem_append.mp hp with hp | hp
  · have := ltN (hl p hp); intro e; rw [e] at this; omega
  · have := ltN (ht p hp); intro e; rw [e] at this; omega
/-- between the turns of tokenize_pattern -/
def ZM (fn fc cb r : Nat) (i : Nat) (m : Str → Option Value) (nx Z tl : List (Addr × Obj)) (vr : List Value) (n1 n2 n3 n4 : Nat) : Mode → Prop
  | .fld c n => ∃ t1 t2, m (Str.ofString "quotebuf") = some .none ∧ n ≤ i ∧ nx = Four fn fc cb r (.int (n : Int) t1) (.str (S [c]) t2) [] vr n1 n2 n3 n4 Z
  | .txt x => ∃ t1 t2 vb, m (Str.ofString "quotebuf") = some .none ∧ x.length ≤ i ∧ StrsAre vb (x.map fun c => S [c]) ∧ nx = Four fn fc cb r (.int 0 t1) (.str (Str.ofString "") t2) vb vr n1 n2 n3 n4 Z
  | .quo x => ∃ t1 t2 qa vq nq, m (Str.ofString "quotebuf") = some (.ref qa) ∧ @LT.lt Nat _ fn qa ∧ (∀ p ∈ tl, p.1 < qa) ∧ x.length ≤ i ∧ StrsAre vq (x.map fun c => S [c]) ∧ nx = (qa, listOf vq.toArray nq) :: Four fn fc cb r (.int 0 t1) (.str (Str.ofString "") t2) [] vr n1 n2 n3 n4 Z
def ZJ (fn fc cb r : Nat) (news : List (Addr × Obj)) (xs : List Nat) (i : Nat) (m : Str → Option Value) (nx : List (Addr × Obj)) : Prop :=
  ∃ ts md vr n1 n2 n3 n4 tl, m (Str.ofString "result") = some (.ref r) ∧ m (Str.ofString "charbuf") = some (.ref cb) ∧ m (Str.ofString "fieldchar") = some (.ref fc) ∧ m (Str.ofString "fieldnum") = some (.ref fn) ∧
    (xs.take i).foldl tzStep ([], .txt []) = (ts, md) ∧ DatAll tl vr (ts.map Token.dat) ∧ vr.length ≤ i ∧ (∀ p ∈ tl, fn < p.1) ∧ ZM fn fc cb r i m nx (news ++ tl) tl vr n1 n2 n3 n4 md
theorem tz_end {g h' : Heap} {L : Addr} {m' : Str → Option Value} {news tl own add Z news' hs : List (Addr × Obj)} {as : List Addr} {J : (Str → Option Value) → List (Addr × Obj) → Prop} {tk : Nat} {s₁ : Shared}
    (F : Fr g L h' m') (N : News g L h' news') (K : Ck news tl own Z as) (hh : ∀ p ∈ hs, p ∈ news' ∧ (p.1 ∈ as ∨ AllLt p.1 Z)) (hsub : ∀ p ∈ Z, p ∈ news') (hadd : ∀ q ∈ add, q ∈ news' ∧ AllLt q.1 Z)
    (hJ : J m' (hs ++ (news ++ (add ++ tl)))) : TurnEnd g L J own s₁ .next { s₁ with heap := h', toks := tk } := by
  refine InvEndG.intro F N hJ ?_ ?_ fun p hp => hsub p (K.o p hp)
  · intro q hq b hb
    obtain ⟨p, hp, rfl⟩ := List.mem_map.mp hb
    rcases List.mem_append.mp hp with hp | hp
    · rcases (hh p hp).2 with h | h
      · exact K.off q (K.o q hq) _ h
      · exact Nat.ne_of_lt (ktn_ltOf h q (K.o q hq))
    rcases List.mem_append.mp hp with hp | hp
    · exact K.ap q hq _ (List.mem_map.mpr ⟨p, List.mem_append.mpr (.inl hp), rfl⟩)
    rcases List.mem_append.mp hp with hp | hp
    · exact Nat.ne_of_lt (ktn_ltOf (hadd p hp).2 q (K.o q hq))
    · exact K.ap q hq _ (List.mem_map.mpr ⟨p, List.mem_append.mpr (.inr hp), rfl⟩)
  · intro p hp
    rcases List.mem_append.mp hp with hp | hp
    · exact (hh p hp).1
    rcases List.mem_append.mp hp with hp | hp
    · exact hsub p (K.d p (List.mem_append.mpr (.inl hp)))
    rcases List.mem_append.mp hp with hp | hp
    · exact (hadd p hp).1
    · exact hsub p (K.d p (List.mem_append.mpr (.inr hp)))
section
variable {g h' : Heap} {L : Addr} {m' : Str → Option Value} {news tl own add Z news' : List (Addr × Obj)} {as : List Addr} {tk i fn fc cb r n1 n2 n3 n4 n5 c n qa : Nat} {s₁ : Shared} {xs x : List Nat} {ts : List Token} {x1 x2 x3 x4 x5 : Array Value} {vr vb : List Value} {t1 t2 : Tok}
theorem four_in (m1 : (fn, listOf x1 n1) ∈ news') (m2 : (fc, listOf x2 n2) ∈ news') (m3 : (cb, listOf x3 n3) ∈ news') (m4 : (r, listOf x4 n4) ∈ news') (ha : ∀ a ∈ [fn, fc, cb, r], a ∈ as) :
    ∀ p ∈ [(fn, listOf x1 n1), (fc, listOf x2 n2), (cb, listOf x3 n3), (r, listOf x4 n4)], p ∈ news' ∧ (p.1 ∈ as ∨ AllLt p.1 Z) := by
  have h1 := ha fn (by simp); have h2 := ha fc (by simp); have h3 := ha cb (by simp); have h4 := ha r (by simp)
  exact List.forall_mem_cons.mpr ⟨⟨m1, .inl h1⟩, List.forall_mem_cons.mpr ⟨⟨m2, .inl h2⟩, List.forall_mem_cons.mpr ⟨⟨m3, .inl h3⟩, List.forall_mem_cons.mpr ⟨⟨m4, .inl h4⟩, List.forall_mem_nil _⟩⟩⟩⟩
theorem tz_fld (F : Fr g L h' m') (N : News g L h' news') (K : Ck news tl own Z as)
    (e1 : m' (Str.ofString "result") = some (.ref r)) (e2 : m' (Str.ofString "charbuf") = some (.ref cb)) (e3 : m' (Str.ofString "fieldchar") = some (.ref fc)) (e4 : m' (Str.ofString "fieldnum") = some (.ref fn)) (e5 : m' (Str.ofString "quotebuf") = some .none)
    (m1 : (fn, listOf x1 n1) ∈ news') (m2 : (fc, listOf x2 n2) ∈ news') (m3 : (cb, listOf x3 n3) ∈ news') (m4 : (r, listOf x4 n4) ∈ news')
    (q1 : x1 = [Value.int (n : Int) t1].toArray) (q2 : x2 = [Value.str (S [c]) t2].toArray) (q3 : x3 = [].toArray) (q4 : x4 = vr.toArray) (ha : ∀ a ∈ [fn, fc, cb, r], a ∈ as)
    (hsub : ∀ p ∈ Z, p ∈ news') (hadd : ∀ q ∈ add, q ∈ news' ∧ AllLt q.1 Z) (hf : (xs.take (i + 1)).foldl tzStep ([], .txt []) = (ts, .fld c n)) (hD : DatAll (add ++ tl) vr (ts.map Token.dat)) (hl : vr.length ≤ i + 1) (ht : ∀ p ∈ add ++ tl, fn < p.1) (hn : n ≤ i + 1) :
    TurnEnd g L (ZJ fn fc cb r news xs (i + 1)) own s₁ .next { s₁ with heap := h', toks := tk } := by
  subst q1; subst q2; subst q3; subst q4
  refine tz_end F N K (four_in m1 m2 m3 m4 ha) hsub hadd ⟨ts, _, vr, _, _, _, _, add ++ tl, e1, e2, e3, e4, hf, hD, hl, ht, t1, t2, e5, hn, rfl⟩
theorem tz_txt (F : Fr g L h' m') (N : News g L h' news') (K : Ck news tl own Z as)
    (e1 : m' (Str.ofString "result") = some (.ref r)) (e2 : m' (Str.ofString "charbuf") = some (.ref cb)) (e3 : m' (Str.ofString "fieldchar") = some (.ref fc)) (e4 : m' (Str.ofString "fieldnum") = some (.ref fn)) (e5 : m' (Str.ofString "quotebuf") = some .none)
    (m1 : (fn, listOf x1 n1) ∈ news') (m2 : (fc, listOf x2 n2) ∈ news') (m3 : (cb, listOf x3 n3) ∈ news') (m4 : (r, listOf x4 n4) ∈ news')
    (q1 : x1 = [Value.int 0 t1].toArray) (q2 : x2 = [Value.str (Str.ofString "") t2].toArray) (q3 : x3 = vb.toArray) (q4 : x4 = vr.toArray) (ha : ∀ a ∈ [fn, fc, cb, r], a ∈ as)
    (hsub : ∀ p ∈ Z, p ∈ news') (hadd : ∀ q ∈ add, q ∈ news' ∧ AllLt q.1 Z) (hf : (xs.take (i + 1)).foldl tzStep ([], .txt []) = (ts, .txt x)) (hD : DatAll (add ++ tl) vr (ts.map Token.dat)) (hl : vr.length ≤ i + 1) (ht : ∀ p ∈ add ++ tl, fn < p.1)
    (hx : x.length ≤ i + 1) (hS : StrsAre vb (x.map fun c => S [c])) :
    TurnEnd g L (ZJ fn fc cb r news xs (i + 1)) own s₁ .next { s₁ with heap := h', toks := tk } := by
  subst q1; subst q2; subst q3; subst q4
  refine tz_end F N K (four_in m1 m2 m3 m4 ha) hsub hadd ⟨ts, _, vr, _, _, _, _, add ++ tl, e1, e2, e3, e4, hf, hD, hl, ht, t1, t2, vb, e5, hx, hS, rfl⟩
theorem tz_quo (F : Fr g L h' m') (N : News g L h' news') (K : Ck news tl own Z as)
    (e1 : m' (Str.ofString "result") = some (.ref r)) (e2 : m' (Str.ofString "charbuf") = some (.ref cb)) (e3 : m' (Str.ofString "fieldchar") = some (.ref fc)) (e4 : m' (Str.ofString "fieldnum") = some (.ref fn)) (e5 : m' (Str.ofString "quotebuf") = some (.ref qa))
    (m1 : (fn, listOf x1 n1) ∈ news') (m2 : (fc, listOf x2 n2) ∈ news') (m3 : (cb, listOf x3 n3) ∈ news') (m4 : (r, listOf x4 n4) ∈ news') (m5 : (qa, listOf x5 n5) ∈ news')
    (q1 : x1 = [Value.int 0 t1].toArray) (q2 : x2 = [Value.str (Str.ofString "") t2].toArray) (q3 : x3 = [].toArray) (q4 : x4 = vr.toArray) (q5 : x5 = vb.toArray) (ha : ∀ a ∈ [fn, fc, cb, r], a ∈ as)
    (hsub : ∀ p ∈ Z, p ∈ news') (hadd : ∀ q ∈ add, q ∈ news' ∧ AllLt q.1 Z) (hf : (xs.take (i + 1)).foldl tzStep ([], .txt []) = (ts, .quo x)) (hD : DatAll (add ++ tl) vr (ts.map Token.dat)) (hl : vr.length ≤ i + 1) (ht : ∀ p ∈ add ++ tl, fn < p.1)
    (hx : x.length ≤ i + 1) (hS : StrsAre vb (x.map fun c => S [c])) (hq : qa ∈ as ∨ AllLt qa Z) (hlt : fn < qa) (hq2 : ∀ p ∈ add ++ tl, p.1 < qa) :
    TurnEnd g L (ZJ fn fc cb r news xs (i + 1)) own s₁ .next { s₁ with heap := h', toks := tk } := by
  subst q1; subst q2; subst q3; subst q4; subst q5
  refine tz_end F N K (List.forall_mem_cons.mpr ⟨⟨m5, hq⟩, four_in m1 m2 m3 m4 ha⟩) hsub hadd ⟨ts, _, vr, _, _, _, _, add ++ tl, e1, e2, e3, e4, hf, hD, hl, ht, t1, t2, qa, vb, _, e5, hlt, hq2, hx, hS, rfl⟩
end
theorem tl_lt {news tl own Z : List (Addr × Obj)} {as : List Addr} {q : Nat} (K : Ck news tl own Z as) (h : AllLt q Z) : ∀ p ∈ tl, p.1 < q := fun p hp => ktn_ltOf h p (K.d p (List.mem_append.mpr (.inr hp)))
local macro_rules | `(tactic| k_updF) => `(tactic| first
  | with_reducible assumption
  | with_reducible exact List.mem_cons_self
  | (with_reducible refine List.mem_cons_of_mem _ ?_; k_updF)
  | (with_reducible refine List.mem_append.mpr (Or.inr ?_); k_updF)
  | (with_reducible refine List.mem_append.mpr (Or.inl ?_); k_updF))
local macro_rules | `(tactic| k_mem) => `(tactic| k_updF)
local macro_rules | `(tactic| walk_at "execs cons") => `(tactic| (with_reducible refine gen_toks ?_; intro tk9 htk9))
local macro_rules | `(tactic| walk_at "execs nil") => `(tactic| (with_reducible refine gen_toks ?_; intro tk9 htk9))

local macro_rules | `(tactic| walk_at "call builtin:str.replace") => `(tactic| (refine' call_rep2 ?k0 ?k1 ?k2 ?k3 ?k4 ?_; (case k0 => first | assumption | exact Nat.succ_ne_zero _); (case k1 => first | assumption | exact Nat.succ_ne_zero _); (case k2 => exact Nat.succ_ne_zero _); (case k3 => exact Nat.ne_of_lt (Nat.lt_succ_self _)); (case k4 => omega); intro t9 k9 hk9))
local macro_rules | `(tactic| walk_at "call ref") => `(tactic| (
  (with_reducible show wpAny _ _ (call (Value.ref 60) _ _) _ _ _);
  k_dflt (refine' append_field_c (news := []) ?k1 ?k2 ?k3 ?k4 ?k5 ?k6 ?k7 ?k8 ?k9 ?k10 ?k11 ?k12 ?k13 ?_);
  (case k1 => k_asm); (case k2 => k_asm); (case k3 => k_asm); (case k4 => k_asm); (case k5 => k_asm); (case k6 => first | exact rfl | assumption);
  (case k7 => omega); (case k8 => omega); (case k9 => omega); (case k10 => assumption); (case k11 => omega); (case k12 => ktr_room); (case k13 => ktr_units);
  intro D9 b9 k9 k9' t9 u9 v9 h9 tk9 F9 f9 d9 a9 A9 N9; (dsimp only [Four] at N9); (try dsimp only); (try k_fold)))
local macro_rules | `(tactic| walk_at "call ref") => `(tactic| (
  (with_reducible show wpAny _ _ (call (Value.ref 53) _ _) _ _ _);
  k_dflt (refine' append_chars_c (news := []) ?k1 ?k2 ?k3 ?k4 ?k5 ?k6 ?kb ?kx ?k7 ?k8 ?k9 ?k10 ?k11 ?k12 ?k13 ?_);
  (case k1 => k_asm); (case k2 => k_asm); (case k3 => k_asm); (case k4 => k_asm); (case k5 => k_asm); (case k6 => first | exact rfl | assumption); (case kb => assumption); (case kx => omega);
  (case k7 => omega); (case k8 => omega); (case k9 => omega); (case k10 => assumption); (case k11 => omega); (case k12 => ktr_room); (case k13 => ktr_units);
  intro D9 k9 m9 t9 u9 h9 tk9 F9 d9 A9 N9; (dsimp only [Four] at N9); (try dsimp only); (try k_fold)))
local macro_rules | `(tactic| walk_at "truthy str") => `(tactic| (refine truthy_S ?_; intro k9; (try dsimp only)))
local macro_rules | `(tactic| walk_at "compareOp In str ref") => `(tactic| (refine' in_pat ?k1 ?k2 ?_; (case k1 => k_asm); (case k2 => k_asm); intro k9; (try dsimp only)))
section
variable {prog : Program} {w : World} {A : Around} {E : Value → Shared → Prop} {s : Shared} {h₀ : Heap} {L D b : Addr} {m : Str → Option Value} {news news' : List (Addr × Obj)} {v : Value} {vs : List Value} {n n2 : Nat}
theorem truthy_cons {Q : Bool → Shared → Prop} (N : News h₀ L s.heap news) (hm : (D, listOf (v :: vs).toArray n) ∈ news) (hl : (v :: vs).length ≤ 10000) (h : ∀ k, Q true { s with toks := k }) : wpAny (model prog w) A (truthy (.ref D)) Q E s :=
  wpAny_truthy_list (N.isList hm) (by rw [List.size_toArray]; omega) (h _)
theorem ext_K {Q : Value → Shared → Prop} (F : Fr h₀ L s.heap m) (N : News h₀ L s.heap news) (hb : (b, listOf vs.toArray n2) ∈ news) (U : Upd D (listOf #[] n) (listOf vs.toArray (if vs.isEmpty then n else n + 1)) news news') (hz : vs.length ≤ 10000)
    (h : ∀ h', Fr h₀ L h' m → News h₀ L h' news' → Q .none { s with heap := h' }) : wpAny (model prog w) A (call (.builtin "list.extend") [.ref D, .ref b]) Q E s := by
  cases vs with
  | nil => exact kxn_extend F N hb rfl U Bool.false_ne_true (by decide) (by decide) h
  | cons v vs => exact kl_extend (l := v :: vs) F N hb rfl (Nat.succ_ne_zero _) U Bool.false_ne_true (by decide) (by rw [sizeLine_eq]; show 0 + (v :: vs).length ≤ _; omega) h
end
local macro_rules | `(tactic| walk_at "truthy ref") => `(tactic| (refine' truthy_cons ?k1 ?k2 ?k3 ?_; (case k1 => k_asm); (case k2 => k_mem); (case k3 => omega); intro k9; (try dsimp only)))
local macro_rules | `(tactic| walk_at "call builtin:list.extend") => `(tactic| (refine' ext_K ?k1 ?k2 ?k3 ?k4 ?k5 ?_; (case k1 => k_asm); (case k2 => k_asm); (case k3 => k_mem); (case k4 => k_upd); (case k5 => omega); intro h' F' N'; (try k_sweep)))
theorem step_tq0 {ts : List Token} {c : Nat} (h : c = 39) : tzStep (ts, .txt []) c = (ts, .quo []) := if_pos h
theorem step_tl0 {ts : List Token} {c : Nat} (h : c ≠ 39) (h2 : c ∈ lets) : tzStep (ts, .txt []) c = (ts, .fld c 1) := (if_neg h).trans (if_pos h2)
theorem step_tq1 {ts : List Token} {a c : Nat} {x : List Nat} (h : c = 39) : tzStep (ts, .txt (a :: x)) c = (ts ++ [.chars ((a :: x).map swap0)], .quo []) := by rw [← flush_cons]; exact if_pos h
theorem step_tl1 {ts : List Token} {a c : Nat} {x : List Nat} (h : c ≠ 39) (h2 : c ∈ lets) : tzStep (ts, .txt (a :: x)) c = (ts ++ [.chars ((a :: x).map swap0)], .fld c 1) := by rw [← flush_cons]; exact (if_neg h).trans (if_pos h2)
theorem empty_ne {c : Nat} (h : ((⟨#[c]⟩ : Str) == Str.ofString "") = true) : False := by
  have h := eq_of_beq h
  rw [show Str.ofString "" = S [] by decide +kernel] at h
  have := S_inj (x := [c]) (y := []) h
  cases this
theorem five_off {fn fc cb r qa : Nat} {news tl : List (Addr × Obj)} (h1 : r < cb) (h2 : cb < fc) (h3 : fc < fn) (h4 : fn < qa) (hl : ∀ p ∈ news, p.1 < r) (ht : ∀ p ∈ tl, fn < p.1) (hq : ∀ p ∈ tl, p.1 < qa) : ∀ p ∈ news ++ tl, ∀ a ∈ [qa, fn, fc, cb, r], p.1 ≠ a := by
  intro p hp a ha
  rcases List.mem_cons.mp ha with rfl | ha
  · rcases List.mem_append.mp hp with hp | hp
    · have := ltN (hl p hp); intro e; rw [e] at this; omega
    · have := ltN (hq p hp); intro e; rw [e] at this; omega
  · exact four_off h1 h2 h3 hl ht p hp a ha
theorem sub_mid {news tl as l : List (Addr × Obj)} (hb : ∀ p ∈ as, p ∈ l) (hz : ∀ p ∈ news ++ tl, p ∈ l) : ∀ p ∈ news ++ (as ++ tl), p ∈ l := by
  intro p hp
  rcases List.mem_append.mp hp with hp | hp
  · exact hz p (List.mem_append.mpr (.inl hp))
  rcases List.mem_append.mp hp with hp | hp
  · exact hb p hp
  · exact hz p (List.mem_append.mpr (.inr hp))
theorem quote_eq {c : Nat} (h : ((⟨#[c]⟩ : Str) == Str.ofString "'") = true) : c = 39 := by
  have h := eq_of_beq h
  rw [lit_q] at h
  have := S_inj (x := [c]) (y := [39]) h
  injection this
theorem quote_ne {c : Nat} (h : ((⟨#[c]⟩ : Str) == Str.ofString "'") = false) : c ≠ 39 := by
  rintro rfl
  revert h; decide +kernel
theorem forall5 {P : Str × Value → Prop} {a b c d e : Str × Value} (h1 : P a) (h2 : P b) (h3 : P c) (h4 : P d) (h5 : P e) : ∀ p ∈ [a, b, c, d, e], P p := by simpa using And.intro h1 (And.intro h2 (And.intro h3 (And.intro h4 h5)))
theorem leN {a b : Nat} (h : a ≤ b) : a ≤ b := h
theorem ge_all {fn fc cb r : Nat} {as tl : List (Addr × Obj)} (g1 : r < cb) (g2 : cb < fc) (g3 : fc < fn) (h3 : ∀ p ∈ tl, fn < p.1) (h : ∀ p ∈ as, r ≤ p.1) : ∀ p ∈ as ++ tl, r ≤ p.1 := by
  intro p hp
  rcases List.mem_append.mp hp with hp | hp
  · exact h p hp
  · have := ltN (h3 p hp)
    have e : r ≤ fn := by omega
    exact Nat.le_trans e (Nat.le_of_lt this)
theorem ord_done {r : Nat} {news tl : List (Addr × Obj)} (hlow : ∀ p ∈ news, p.1 < r) (hge : ∀ p ∈ tl, r ≤ p.1) : ∀ q ∈ news, ∀ p ∈ tl, q.1 < p.1 := fun q hq p hp => Nat.lt_of_lt_of_le (hlow q hq) (hge p hp)
section
variable {h₀ h : Heap} {L : Addr} {news tl : List (Addr × Obj)} {pD pb p1 p2 p3 p4 pq : Addr × Obj}
theorem fin_fld (N : News h₀ L h (pD :: pb :: p1 :: p2 :: p3 :: p4 :: (news ++ tl))) : News h₀ L h (news ++ ([p4, pD, pb] ++ tl)) := news_sub N fun x hx => by
  simp only [List.mem_append, List.mem_cons, List.not_mem_nil, or_false] at hx ⊢
  rcases hx with h | (h | h | h) | h <;> simp only [h, true_or, or_true]
theorem fin_chars (N : News h₀ L h (pD :: p1 :: p2 :: p3 :: p4 :: (news ++ tl))) : News h₀ L h (news ++ ([p4, pD] ++ tl)) := news_sub N fun x hx => by
  simp only [List.mem_append, List.mem_cons, List.not_mem_nil, or_false] at hx ⊢
  rcases hx with h | (h | h) | h <;> simp only [h, true_or, or_true]
theorem fin_none (N : News h₀ L h (p1 :: p2 :: p3 :: p4 :: (news ++ tl))) : News h₀ L h (news ++ ([p4] ++ tl)) := news_sub N fun x hx => by
  simp only [List.mem_append, List.mem_cons, List.not_mem_nil, or_false] at hx ⊢
  rcases hx with h | h | h <;> simp only [h, true_or, or_true]
end
theorem tokenize_c {w : World} {mean : ExcName → Option Value} {mg mb : Str → Option Value} {dp un : Nat} {gd : Option (List Code)} {cn : Str} {cs : Scope} {a : Addr} {ccd : Value} {cl : List (Str × Addr)} {outer : List Env} {A₀ : Around} {base h₀ : Heap} {L : Addr} {m : Str → Option Value} {news : List (Addr × Obj)} {s : Shared} {Q E : Value → Shared → Prop} {x : List Nat} {tx : Tok} (B : Below A₀ base outer h₀) (F : Fr h₀ L s.heap m) (X : (hd.heap_39 w.params).In h₀) (N : News h₀ L s.heap news) (T : Top topProg (looseW hd.view_39 [Str.ofString "PATTERN_CHARS"] ++ (recsOf hd.view_39).map (·.name) ++ (litsOf hd.view_39).map (·.1) ++ (clssOf hd.view_39 (looseW hd.view_39 [Str.ofString "PATTERN_CHARS"])).map (·.name)) mean mg mb h₀) (hk : cs.kind = .function)
    (hx : x.length ≤ 1000) (h128 : ∀ c ∈ rep2 x, c < 128) (hd : dp + 2 < recursionLimit) (hu : un + 200 < cLine)
    (hret : ∀ a us' n' tl h' tk', Fr h₀ L h' m → News h₀ L h' (news ++ tl) → (∀ q ∈ news, ∀ p ∈ tl, q.1 < p.1) → (a, listOf us'.toArray n') ∈ tl → DatAll tl us' ((tz x).map Token.dat) → Q (.ref a) { s with heap := h', toks := tk' }) :
    wpAny (model PySem.Challenge.rw_ey0005_01.row.prog w) (ktrTop dp un gd cn cs L a ccd cl outer) (call (.ref 67) [.str (S x) tx]) Q E s := by
  w_top off
  revert X; k_fill; intro X
  refine wpAny_call ?_
  k_dflt cell_enter
  repeat' ((fail_if_success (with_reducible show wpAny _ _ (exec (Stmt.For _ _ _ _ _) _) _ _ _)); (fail_if_success (with_reducible show wpAny _ _ (pyIter _) _ _ _)); first | (k_unfold; (try dsimp only)) | (k_end; wrow_close) | walk1 | (dsimp only; walk1) | (leave1; walk_say "STEP leave1"; try dsimp only) | fail "no step")
  (with_unfolding_all refine' wpAny_For ?_ ?k1; (case k1 => (intro x9; rfl)))
  repeat' ((fail_if_success (with_reducible show wpAny _ _ (exec (Stmt.For _ _ _ _ _) _) _ _ _)); (fail_if_success (with_reducible show wpAny _ _ (pyIter _) _ _ _)); first | (k_unfold; (try dsimp only)) | (k_end; wrow_close) | walk1 | (dsimp only; walk1) | (leave1; walk_say "STEP leave1"; try dsimp only) | fail "no step")
  with_reducible rename _ ∧ _ ∧ _ ∧ AllLt _ news => l4
  with_reducible rename _ ∧ _ ∧ AllLt _ news => l3
  with_reducible rename _ ∧ AllLt _ news => l2
  rename ∀ p ∈ news, p.1 < _ => hlow
  have g1 := l2.1
  have g2 := l3.1
  have g3 := l4.1
  clear l2 l3 l4
  rename News _ _ _ (_ :: _) => N9
  rename Fr _ _ _ _ => F9
  with_unfolding_all refine' lp_ascii (ZJ _ _ _ _ news (rep2 x)) rfl ?k128 F9 N9 ?kj ?kE ?turn ?done
  case kE => passes_own
  case k128 => rw [List.all_toArray, List.all_eq_true]; exact fun c hc => decide_eq_true (h128 c hc)
  case kj => exact ⟨[], .txt [], [], _, _, _, _, [], rfl, rfl, rfl, rfl, rfl, .nil, Nat.zero_le _, fun _ h => (nomatch h), _, _, [], rfl, Nat.zero_le _, .nil, by rw [List.append_nil]⟩
  case done =>
    clear F9 N9
    rintro m₁ nx h1 tk1 htk ⟨ts, md, vr, n1, n2, n3, n4, tl, e1, e2, e3, e4, hf, hD, hl, h3, hM⟩ F1 N1
    have hsz : (S (rep2 x)).cps.size = (rep2 x).length := List.size_toArray
    rw [hsz] at hl hf hM
    rw [List.take_length] at hf
    have hlen := rep2_len x
    have hi : vr.length ≤ 1000 := by omega
    have htz : tz x = tzEnd (ts, md) := by unfold tz; rw [hf]
    have hZ : OwnOff (news ++ tl) _ := four_off g1 g2 g3 hlow h3
    cases md with
    | fld c0 n =>
      obtain ⟨t1, t2, e5, hn, rfl⟩ := hM
      dsimp only [Four] at N1
      have F1 := fr_knows [(Str.ofString "result", .ref _), (Str.ofString "charbuf", .ref _), (Str.ofString "fieldchar", .ref _), (Str.ofString "fieldnum", .ref _), (Str.ofString "quotebuf", .none)] F1 (forall5 e1 e2 e3 e4 e5)
      dsimp only [kstB] at F1
      repeat' ((fail_if_success (with_reducible show wpAny _ _ (exec (Stmt.For _ _ _ _ _) _) _ _ _)); (fail_if_success (with_reducible show wpAny _ _ (pyIter _) _ _ _)); first | (k_unfold; (try dsimp only)) | (k_end; wrow_close) | walk1 | (dsimp only; walk1) | (leave1; walk_say "STEP leave1"; try dsimp only) | fail "no step")
      refine hret _ _ _ _ _ _ (by k_asm) (fin_fld (by k_asm)) (ord_done hlow (ge_all g1 g2 g3 h3 (List.forall_mem_cons.mpr ⟨Nat.le_refl _, List.forall_mem_cons.mpr ⟨leN (by omega), List.forall_mem_cons.mpr ⟨leN (by omega), List.forall_mem_nil _⟩⟩⟩))) (.head _) ?_
      rw [htz]
      show DatAll _ _ ((ts ++ [Token.field c0 n]).map Token.dat)
      rw [List.map_append]
      exact DatAll.append (hD.mono fun p hp => List.mem_append.mpr (.inr hp)) (.cons (tdat_field (by k_mem) (by k_mem) rfl) .nil)
    | txt y =>
      obtain ⟨t1, t2, vb, e5, hn, hS, rfl⟩ := hM
      dsimp only [Four] at N1
      have F1 := fr_knows [(Str.ofString "result", .ref _), (Str.ofString "charbuf", .ref _), (Str.ofString "fieldchar", .ref _), (Str.ofString "fieldnum", .ref _), (Str.ofString "quotebuf", .none)] F1 (forall5 e1 e2 e3 e4 e5)
      dsimp only [kstB] at F1
      have hbl := strs_len hS
      rw [List.length_map] at hbl
      cases y with
      | nil =>
        cases hS
        repeat' ((fail_if_success (with_reducible show wpAny _ _ (exec (Stmt.For _ _ _ _ _) _) _ _ _)); (fail_if_success (with_reducible show wpAny _ _ (pyIter _) _ _ _)); first | (k_unfold; (try dsimp only)) | (k_end; wrow_close) | walk1 | (dsimp only; walk1) | (leave1; walk_say "STEP leave1"; try dsimp only) | fail "no step")
        refine hret _ _ _ _ _ _ (by k_asm) (fin_none (by k_asm)) (ord_done hlow (ge_all g1 g2 g3 h3 (List.forall_mem_cons.mpr ⟨Nat.le_refl _, List.forall_mem_nil _⟩))) (.head _) ?_
        rw [htz]
        exact hD.mono fun p hp => List.mem_append.mpr (.inr hp)
      | cons y0 y =>
        have hS' := hS
        obtain ⟨v0, vb0, rfl⟩ : ∃ v0 vb0, vb = v0 :: vb0 := by cases vb with | nil => cases hS | cons a b => exact ⟨a, b, rfl⟩
        repeat' ((fail_if_success (with_reducible show wpAny _ _ (exec (Stmt.For _ _ _ _ _) _) _ _ _)); (fail_if_success (with_reducible show wpAny _ _ (pyIter _) _ _ _)); first | (k_unfold; (try dsimp only)) | (k_end; wrow_close) | walk1 | (dsimp only; walk1) | (leave1; walk_say "STEP leave1"; try dsimp only) | fail "no step")
        refine hret _ _ _ _ _ _ (by k_asm) (fin_chars (by k_asm)) (ord_done hlow (ge_all g1 g2 g3 h3 (List.forall_mem_cons.mpr ⟨Nat.le_refl _, List.forall_mem_cons.mpr ⟨leN (by omega), List.forall_mem_nil _⟩⟩))) (.head _) ?_
        rw [htz]
        show DatAll _ _ ((flush ts (y0 :: y)).map Token.dat)
        rw [flush_cons, List.map_append]
        exact DatAll.append (hD.mono fun p hp => List.mem_append.mpr (.inr hp)) (.cons (tdat_chars (by k_mem)) .nil)
    | quo y =>
      obtain ⟨t1, t2, qa, vq, nq, e5, hqa, hq2, hn, hS, rfl⟩ := hM
      dsimp only [Four] at N1
      have F1 := fr_knows [(Str.ofString "result", .ref _), (Str.ofString "charbuf", .ref _), (Str.ofString "fieldchar", .ref _), (Str.ofString "fieldnum", .ref _), (Str.ofString "quotebuf", .ref _)] F1 (forall5 e1 e2 e3 e4 e5)
      dsimp only [kstB] at F1
      repeat' ((fail_if_success (with_reducible show wpAny _ _ (exec (Stmt.For _ _ _ _ _) _) _ _ _)); (fail_if_success (with_reducible show wpAny _ _ (pyIter _) _ _ _)); first | (k_unfold; (try dsimp only)) | (k_end; wrow_close) | walk1 | (dsimp only; walk1) | (leave1; walk_say "STEP leave1"; try dsimp only) | fail "no step")
      refine hret _ _ _ _ _ _ (by k_asm) (fin_none (news_sub (by k_asm) fun p hp => List.mem_cons_of_mem _ hp)) (ord_done hlow (ge_all g1 g2 g3 h3 (List.forall_mem_cons.mpr ⟨Nat.le_refl _, List.forall_mem_nil _⟩))) (.head _) ?_
      rw [htz]
      exact hD.mono fun p hp => List.mem_append.mpr (.inr hp)
  case turn =>
    clear F9 N9
    rintro i c t m₁ nx h1 tk1 own hv hoff ⟨ts, md, vr, n1, n2, n3, n4, tl, e1, e2, e3, e4, hf, hD, hl, h3, hM⟩ htk F1 N1
    have hv' : (rep2 x)[i]? = some c := by rw [← List.getElem?_toArray]; exact hv
    have hstep : ((rep2 x).take (i + 1)).foldl tzStep ([], .txt []) = tzStep (ts, md) c := by
      rw [List.take_add_one, hv', List.foldl_append, hf]; rfl
    have hi : i < 1000 := by
      have h7 := (List.getElem?_eq_some_iff.mp hv').1
      have h8 := rep2_len x
      omega
    cases md with
    | fld c0 n =>
      obtain ⟨t1, t2, e5, hn, rfl⟩ := hM
      have F1 := fr_knows [(Str.ofString "result", .ref _), (Str.ofString "charbuf", .ref _), (Str.ofString "fieldchar", .ref _), (Str.ofString "fieldnum", .ref _), (Str.ofString "quotebuf", .none)] F1 (forall5 e1 e2 e3 e4 e5)
      dsimp only [kstB] at F1
      obtain ⟨Z, N2, K9⟩ := cpack [_, _, _, _] (four_off g1 g2 g3 hlow h3) hoff N1
      clear N1
      have Z9 := K9.off
      dsimp only [List.map, List.cons_append, List.nil_append] at N2 Z9
      repeat' ((fail_if_success (with_reducible show wpAny _ _ (exec (Stmt.For _ _ _ _ _) _) _ _ _)); (fail_if_success (with_reducible show wpAny _ _ (pyIter _) _ _ _)); first | (k_unfold; (try dsimp only)) | (k_end; wrow_close) | walk1 | (dsimp only; walk1) | (leave1; walk_say "STEP leave1"; try dsimp only) | fail "no step")
      · rename (_ == _) = true => hc
        have hc := quote_eq hc
        refine tz_quo (by k_asm) (by k_asm) K9 (by with_unfolding_all rfl) (by with_unfolding_all rfl) (by with_unfolding_all rfl) (by with_unfolding_all rfl) (by with_unfolding_all rfl) (by k_mem) (by k_mem) (by k_mem) (by k_mem) (by k_mem) rfl rfl rfl rfl (vb := []) rfl (fun a h => h) (fun p hp => by simp only [List.mem_cons, hp, or_true])
          (add := [(_, _), (_, _)]) (List.forall_mem_cons.mpr ⟨⟨List.mem_cons_of_mem _ List.mem_cons_self, by assumption⟩, List.forall_mem_cons.mpr ⟨⟨List.mem_cons_of_mem _ (List.mem_cons_of_mem _ List.mem_cons_self), by assumption⟩, List.forall_mem_nil _⟩⟩)
          (hstep.trans (if_pos hc)) ?d (by rw [List.length_append, List.length_singleton]; omega) (List.forall_mem_append.mpr ⟨List.forall_mem_cons.mpr ⟨ltN (by omega), List.forall_mem_cons.mpr ⟨ltN (by omega), List.forall_mem_nil _⟩⟩, h3⟩) (x := []) (Nat.zero_le _) .nil (.inr (by (first | exact And.right (by assumption) | exact And.right (And.right (by assumption)) | exact And.right (And.right (And.right (by assumption))) | exact And.right (And.right (And.right (And.right (by assumption)))) | exact And.right (And.right (And.right (And.right (And.right (by assumption))))) | exact And.right (And.right (And.right (And.right (And.right (And.right (by assumption)))))) | exact And.right (And.right (And.right (And.right (And.right (And.right (And.right (by assumption)))))))))) (ltN (by omega)) (List.forall_mem_append.mpr ⟨List.forall_mem_cons.mpr ⟨ltN (by omega), List.forall_mem_cons.mpr ⟨ltN (by omega), List.forall_mem_nil _⟩⟩, tl_lt K9 (by (first | exact And.right (by assumption) | exact And.right (And.right (by assumption)) | exact And.right (And.right (And.right (by assumption))) | exact And.right (And.right (And.right (And.right (by assumption)))) | exact And.right (And.right (And.right (And.right (And.right (by assumption))))) | exact And.right (And.right (And.right (And.right (And.right (And.right (by assumption)))))) | exact And.right (And.right (And.right (And.right (And.right (And.right (And.right (by assumption)))))))))⟩)
        rw [List.map_append]
        exact DatAll.append (hD.mono fun p hp => List.mem_append.mpr (.inr hp)) (.cons (tdat_field (by k_mem) (by k_mem) rfl) .nil)
      · rename (_ == S [c0]) = true => hs
        rename (_ == Str.ofString "'") = false => hc
        rename c ∈ lets => hi7
        have hc := quote_ne hc
        have hs := S_inj (x := [c]) (y := [c0]) (eq_of_beq hs)
        injection hs with hs
        subst hs
        exact tz_fld (by k_asm) (by k_asm) K9 (by with_unfolding_all rfl) (by with_unfolding_all rfl) (by with_unfolding_all rfl) (by with_unfolding_all rfl) (by with_unfolding_all rfl) (by k_mem) (by k_mem) (by k_mem) (by k_mem) (n := n + 1) rfl rfl rfl rfl (fun a h => h) (fun p hp => by simp only [List.mem_cons, hp, or_true])
          (add := []) (List.forall_mem_nil _) (hstep.trans ((if_neg hc).trans ((if_pos hi7).trans (if_pos rfl)))) hD (by omega) h3 (by omega)
      · rename (_ == S [c0]) = false => hs
        rename (_ == Str.ofString "'") = false => hc
        rename c ∈ lets => hi7
        have hc := quote_ne hc
        have hs : c ≠ c0 := fun e => by subst e; exact absurd hs (by rw [beq_self_eq_true]; decide)
        refine tz_fld (by k_asm) (by k_asm) K9 (by with_unfolding_all rfl) (by with_unfolding_all rfl) (by with_unfolding_all rfl) (by with_unfolding_all rfl) (by with_unfolding_all rfl) (by k_mem) (by k_mem) (by k_mem) (by k_mem) (n := 1) rfl rfl rfl rfl (fun a h => h) (fun p hp => by simp only [List.mem_cons, hp, or_true])
          (add := [(_, _), (_, _)]) (List.forall_mem_cons.mpr ⟨⟨List.mem_cons_self, by assumption⟩, List.forall_mem_cons.mpr ⟨⟨List.mem_cons_of_mem _ List.mem_cons_self, by assumption⟩, List.forall_mem_nil _⟩⟩) (hstep.trans ((if_neg hc).trans ((if_pos hi7).trans (if_neg hs)))) ?_ (by rw [List.length_append, List.length_singleton]; omega) (List.forall_mem_append.mpr ⟨List.forall_mem_cons.mpr ⟨ltN (by omega), List.forall_mem_cons.mpr ⟨ltN (by omega), List.forall_mem_nil _⟩⟩, h3⟩) (by omega)
        rw [List.map_append]
        exact DatAll.append (hD.mono fun p hp => List.mem_append.mpr (.inr hp)) (.cons (tdat_field (by k_mem) (by k_mem) rfl) .nil)
      · rename (_ == Str.ofString "'") = false => hc
        rename ¬ c ∈ lets => hi7
        have hc := quote_ne hc
        refine tz_txt (by k_asm) (by k_asm) K9 (by with_unfolding_all rfl) (by with_unfolding_all rfl) (by with_unfolding_all rfl) (by with_unfolding_all rfl) (by with_unfolding_all rfl) (by k_mem) (by k_mem) (by k_mem) (by k_mem) rfl rfl (vb := [_]) rfl rfl (fun a h => h) (fun p hp => by simp only [List.mem_cons, hp, or_true])
          (add := [(_, _), (_, _)]) (List.forall_mem_cons.mpr ⟨⟨List.mem_cons_self, by assumption⟩, List.forall_mem_cons.mpr ⟨⟨List.mem_cons_of_mem _ List.mem_cons_self, by assumption⟩, List.forall_mem_nil _⟩⟩) (hstep.trans ((if_neg hc).trans (if_neg hi7))) ?_ (by rw [List.length_append, List.length_singleton]; omega) (List.forall_mem_append.mpr ⟨List.forall_mem_cons.mpr ⟨ltN (by omega), List.forall_mem_cons.mpr ⟨ltN (by omega), List.forall_mem_nil _⟩⟩, h3⟩) (by rw [List.length_singleton]; omega) (.cons _ _ .nil)
        rw [List.map_append]
        exact DatAll.append (hD.mono fun p hp => List.mem_append.mpr (.inr hp)) (.cons (tdat_field (by k_mem) (by k_mem) rfl) .nil)
    | txt y =>
      obtain ⟨t1, t2, vb, e5, hn, hS, rfl⟩ := hM
      have F1 := fr_knows [(Str.ofString "result", .ref _), (Str.ofString "charbuf", .ref _), (Str.ofString "fieldchar", .ref _), (Str.ofString "fieldnum", .ref _), (Str.ofString "quotebuf", .none)] F1 (forall5 e1 e2 e3 e4 e5)
      dsimp only [kstB] at F1
      obtain ⟨Z, N2, K9⟩ := cpack [_, _, _, _] (four_off g1 g2 g3 hlow h3) hoff N1
      clear N1
      have Z9 := K9.off
      dsimp only [List.map, List.cons_append, List.nil_append] at N2 Z9
      have hbl := strs_len hS
      rw [List.length_map] at hbl
      cases y with
      | nil =>
        cases hS
        repeat' ((fail_if_success (with_reducible show wpAny _ _ (exec (Stmt.For _ _ _ _ _) _) _ _ _)); (fail_if_success (with_reducible show wpAny _ _ (pyIter _) _ _ _)); first | (k_unfold; (try dsimp only)) | (k_end; wrow_close) | walk1 | (dsimp only; walk1) | (leave1; walk_say "STEP leave1"; try dsimp only) | fail "no step")
        · rename (_ == Str.ofString "'") = true => hc
          have hc := quote_eq hc
          exact tz_quo (by k_asm) (by k_asm) K9 (by with_unfolding_all rfl) (by with_unfolding_all rfl) (by with_unfolding_all rfl) (by with_unfolding_all rfl) (by with_unfolding_all rfl) (by k_mem) (by k_mem) (by k_mem) (by k_mem) (by k_mem) rfl rfl rfl rfl (vb := []) rfl (fun a h => h) (fun p hp => by simp only [List.mem_cons, hp, or_true])
            (add := []) (List.forall_mem_nil _) (hstep.trans (step_tq0 hc)) hD (by omega) h3 (x := []) (Nat.zero_le _) .nil (.inr (by (first | exact And.right (by assumption) | exact And.right (And.right (by assumption)) | exact And.right (And.right (And.right (by assumption))) | exact And.right (And.right (And.right (And.right (by assumption)))) | exact And.right (And.right (And.right (And.right (And.right (by assumption))))) | exact And.right (And.right (And.right (And.right (And.right (And.right (by assumption)))))) | exact And.right (And.right (And.right (And.right (And.right (And.right (And.right (by assumption)))))))))) (ltN (by omega)) (tl_lt K9 (by (first | exact And.right (by assumption) | exact And.right (And.right (by assumption)) | exact And.right (And.right (And.right (by assumption))) | exact And.right (And.right (And.right (And.right (by assumption)))) | exact And.right (And.right (And.right (And.right (And.right (by assumption))))) | exact And.right (And.right (And.right (And.right (And.right (And.right (by assumption)))))) | exact And.right (And.right (And.right (And.right (And.right (And.right (And.right (by assumption))))))))))
        · rename (_ == Str.ofString "") = true => hc
          exact (empty_ne hc).elim
        · rename (_ == Str.ofString "'") = false => hc
          rename c ∈ lets => hi7
          have hc := quote_ne hc
          exact tz_fld (by k_asm) (by k_asm) K9 (by with_unfolding_all rfl) (by with_unfolding_all rfl) (by with_unfolding_all rfl) (by with_unfolding_all rfl) (by with_unfolding_all rfl) (by k_mem) (by k_mem) (by k_mem) (by k_mem) (n := 1) rfl rfl rfl rfl (fun a h => h) (fun p hp => by simp only [List.mem_cons, hp, or_true])
            (add := []) (List.forall_mem_nil _) (hstep.trans (step_tl0 hc hi7)) hD (by omega) h3 (by omega)
        · rename (_ == Str.ofString "'") = false => hc
          rename ¬ c ∈ lets => hi7
          have hc := quote_ne hc
          exact tz_txt (by k_asm) (by k_asm) K9 (by with_unfolding_all rfl) (by with_unfolding_all rfl) (by with_unfolding_all rfl) (by with_unfolding_all rfl) (by with_unfolding_all rfl) (by k_mem) (by k_mem) (by k_mem) (by k_mem) rfl rfl (vb := [_]) rfl rfl (fun a h => h) (fun p hp => by simp only [List.mem_cons, hp, or_true])
            (add := []) (List.forall_mem_nil _) (hstep.trans ((if_neg hc).trans (if_neg hi7))) hD (by omega) h3 (by rw [List.length_append, List.length_singleton]; omega) (.cons _ _ .nil)
      | cons y0 y =>
        have hS' := hS
        obtain ⟨v0, vb0, rfl⟩ : ∃ v0 vb0, vb = v0 :: vb0 := by cases vb with | nil => cases hS | cons a b => exact ⟨a, b, rfl⟩
        repeat' ((fail_if_success (with_reducible show wpAny _ _ (exec (Stmt.For _ _ _ _ _) _) _ _ _)); (fail_if_success (with_reducible show wpAny _ _ (pyIter _) _ _ _)); first | (k_unfold; (try dsimp only)) | (k_end; wrow_close) | walk1 | (dsimp only; walk1) | (leave1; walk_say "STEP leave1"; try dsimp only) | fail "no step")
        · rename (_ == Str.ofString "'") = true => hc
          have hc := quote_eq hc
          refine tz_quo (by k_asm) (by k_asm) K9 (by with_unfolding_all rfl) (by with_unfolding_all rfl) (by with_unfolding_all rfl) (by with_unfolding_all rfl) (by with_unfolding_all rfl) (by k_mem) (by k_mem) (by k_mem) (by k_mem) (by k_mem) rfl rfl rfl rfl (vb := []) rfl (fun a h => h) (fun p hp => by simp only [List.mem_cons, hp, or_true])
            (add := [(_, _)]) (List.forall_mem_cons.mpr ⟨⟨List.mem_cons_of_mem _ List.mem_cons_self, by assumption⟩, List.forall_mem_nil _⟩) (hstep.trans (step_tq1 hc)) ?_ (by rw [List.length_append, List.length_singleton]; omega) (List.forall_mem_append.mpr ⟨List.forall_mem_cons.mpr ⟨ltN (by omega), List.forall_mem_nil _⟩, h3⟩) (x := []) (Nat.zero_le _) .nil (.inr (by (first | exact And.right (by assumption) | exact And.right (And.right (by assumption)) | exact And.right (And.right (And.right (by assumption))) | exact And.right (And.right (And.right (And.right (by assumption)))) | exact And.right (And.right (And.right (And.right (And.right (by assumption))))) | exact And.right (And.right (And.right (And.right (And.right (And.right (by assumption)))))) | exact And.right (And.right (And.right (And.right (And.right (And.right (And.right (by assumption)))))))))) (ltN (by omega)) (List.forall_mem_append.mpr ⟨List.forall_mem_cons.mpr ⟨ltN (by omega), List.forall_mem_nil _⟩, tl_lt K9 (by (first | exact And.right (by assumption) | exact And.right (And.right (by assumption)) | exact And.right (And.right (And.right (by assumption))) | exact And.right (And.right (And.right (And.right (by assumption)))) | exact And.right (And.right (And.right (And.right (And.right (by assumption))))) | exact And.right (And.right (And.right (And.right (And.right (And.right (by assumption)))))) | exact And.right (And.right (And.right (And.right (And.right (And.right (And.right (by assumption)))))))))⟩)
          rw [List.map_append]
          exact DatAll.append (hD.mono fun p hp => List.mem_append.mpr (.inr hp)) (.cons (tdat_chars (by k_mem)) .nil)
        · rename (_ == Str.ofString "") = true => hc
          exact (empty_ne hc).elim
        · rename (_ == Str.ofString "'") = false => hc
          rename c ∈ lets => hi7
          have hc := quote_ne hc
          refine tz_fld (by k_asm) (by k_asm) K9 (by with_unfolding_all rfl) (by with_unfolding_all rfl) (by with_unfolding_all rfl) (by with_unfolding_all rfl) (by with_unfolding_all rfl) (by k_mem) (by k_mem) (by k_mem) (by k_mem) (n := 1) rfl rfl rfl rfl (fun a h => h) (fun p hp => by simp only [List.mem_cons, hp, or_true])
            (add := [(_, _)]) (List.forall_mem_cons.mpr ⟨⟨List.mem_cons_self, by assumption⟩, List.forall_mem_nil _⟩) (hstep.trans (step_tl1 hc hi7)) ?_ (by rw [List.length_append, List.length_singleton]; omega) (List.forall_mem_append.mpr ⟨List.forall_mem_cons.mpr ⟨ltN (by omega), List.forall_mem_nil _⟩, h3⟩) (by omega)
          rw [List.map_append]
          exact DatAll.append (hD.mono fun p hp => List.mem_append.mpr (.inr hp)) (.cons (tdat_chars (by k_mem)) .nil)
        · rename (_ == Str.ofString "'") = false => hc
          rename ¬ c ∈ lets => hi7
          have hc := quote_ne hc
          exact tz_txt (by k_asm) (by k_asm) K9 (by with_unfolding_all rfl) (by with_unfolding_all rfl) (by with_unfolding_all rfl) (by with_unfolding_all rfl) (by with_unfolding_all rfl) (by k_mem) (by k_mem) (by k_mem) (by k_mem) rfl rfl (vb := (v0 :: vb0) ++ [_]) (push_eq _ _) rfl (fun a h => h) (fun p hp => by simp only [List.mem_cons, hp, or_true])
            (add := []) (List.forall_mem_nil _) (hstep.trans ((if_neg hc).trans (if_neg hi7))) hD (by omega) h3 (by rw [List.length_append, List.length_singleton]; omega) (by rw [List.map_append]; exact hS'.append' (.cons _ _ .nil))
    | quo y =>
      obtain ⟨t1, t2, qa, vq, nq, e5, hqa, hq2, hn, hS, rfl⟩ := hM
      have F1 := fr_knows [(Str.ofString "result", .ref _), (Str.ofString "charbuf", .ref _), (Str.ofString "fieldchar", .ref _), (Str.ofString "fieldnum", .ref _), (Str.ofString "quotebuf", .ref _)] F1 (forall5 e1 e2 e3 e4 e5)
      dsimp only [kstB] at F1
      obtain ⟨Z, N2, K9⟩ := cpack [_, _, _, _, _] (five_off g1 g2 g3 hqa hlow h3 hq2) hoff N1
      clear N1
      have Z9 := K9.off
      dsimp only [List.map, List.cons_append, List.nil_append] at N2 Z9
      have hbl := strs_len hS
      rw [List.length_map] at hbl
      repeat' ((fail_if_success (with_reducible show wpAny _ _ (exec (Stmt.For _ _ _ _ _) _) _ _ _)); (fail_if_success (with_reducible show wpAny _ _ (pyIter _) _ _ _)); first | (k_unfold; (try dsimp only)) | (k_end; wrow_close) | walk1 | (dsimp only; walk1) | (leave1; walk_say "STEP leave1"; try dsimp only) | fail "no step")
      · rename (_ == Str.ofString "'") = true => hc
        have hc := quote_eq hc
        exact tz_txt (by k_asm) (by k_asm) K9 (by with_unfolding_all rfl) (by with_unfolding_all rfl) (by with_unfolding_all rfl) (by with_unfolding_all rfl) (by with_unfolding_all rfl) (by k_mem) (by k_mem) (by k_mem) (by k_mem) rfl rfl rfl rfl (fun a h => List.mem_cons_of_mem _ h) (fun p hp => by simp only [List.mem_cons, hp, or_true])
          (add := []) (List.forall_mem_nil _) (hstep.trans (if_pos hc)) hD (by omega) h3 (by omega) hS
      · rename (_ == Str.ofString "'") = false => hc
        have hc := quote_ne hc
        exact tz_quo (by k_asm) (by k_asm) K9 (by with_unfolding_all rfl) (by with_unfolding_all rfl) (by with_unfolding_all rfl) (by with_unfolding_all rfl) (by with_unfolding_all rfl) (by k_mem) (by k_mem) (by k_mem) (by k_mem) (by k_mem) rfl rfl rfl rfl (push_eq _ _) (fun a h => List.mem_cons_of_mem _ h) (fun p hp => by simp only [List.mem_cons, hp, or_true])
          (add := []) (List.forall_mem_nil _) (hstep.trans (if_neg hc)) hD (by omega) h3 (by rw [List.length_append, List.length_singleton]; omega) (by rw [List.map_append]; exact hS.append' (.cons _ _ .nil)) (.inl List.mem_cons_self) hqa hq2
end Mine
end

section
open PySem PySem.W PySem.Spec PySem.Calls PyProof.Rows
set_option maxRecDepth 100000
set_option maxHeartbeats 8000000
namespace Mine

open StrLaws
/-- the signs of a piece, once two quotes side by side are one nought -/
def q0 (x : List Nat) : List Nat := x.map fun c => if c = 39 then 0 else c
def Piece.marks : Piece → List Nat
  | .field c n => List.replicate n c
  | .chars x => q0 x
  | .quoted x => 39 :: (q0 x ++ [39])
/-- no lone quote stands last -/
def closed : List Nat → Bool
  | 39 :: 39 :: r => closed r
  | [39] => false
  | _ :: r => closed r
  | [] => true
theorem rep2_qq (r : List Nat) : rep2 (39 :: 39 :: r) = 0 :: rep2 r := by simp [rep2]
theorem rep2_c {c : Nat} {r : List Nat} (h : ¬ (c = 39 ∧ r.head? = some 39)) : rep2 (c :: r) = c :: rep2 r := by
  cases r with
  | nil => simp [rep2]
  | cons d r =>
    rw [rep2]
    intro r' e1 e2; injection e2 with e2 e3; exact h ⟨e1, by rw [e2]; rfl⟩
theorem closed_qq (r : List Nat) : closed (39 :: 39 :: r) = closed r := by simp [closed]
theorem closed_c {c : Nat} {r : List Nat} (h : ¬ (c = 39 ∧ r.head? = some 39)) (h2 : ¬ (c = 39 ∧ r = [])) : closed (c :: r) = closed r := by
  rw [closed]
  · intro r' e1 e2; subst e2; exact h ⟨e1, rfl⟩
  · intro e1 e2; exact h2 ⟨e1, e2⟩
theorem rep2_app : ∀ (u v : List Nat), (closed u = true ∨ v.head? ≠ some 39) → rep2 (u ++ v) = rep2 u ++ rep2 v
  | [], v, _ => rfl
  | [c], v, h => by
    have hn : ¬ (c = 39 ∧ v.head? = some 39) := by
      rintro ⟨rfl, e⟩
      rcases h with h | h
      · simp [closed] at h
      · exact h e
    show rep2 (c :: v) = _
    rw [rep2_c hn, rep2_c (r := []) (by simp)]; rfl
  | c :: d :: r, v, h => by
    by_cases h2 : c = 39 ∧ d = 39
    · obtain ⟨rfl, rfl⟩ := h2
      rw [closed_qq] at h
      show rep2 (39 :: 39 :: (r ++ v)) = _
      rw [rep2_qq, rep2_qq, rep2_app r v h]; rfl
    · have h3 : ∀ l : List Nat, ¬ (c = 39 ∧ (d :: l).head? = some 39) := fun l ⟨e1, e2⟩ => h2 ⟨e1, Option.some.inj e2⟩
      rw [closed_c (h3 r) (by simp)] at h
      show rep2 (c :: d :: (r ++ v)) = _
      rw [rep2_c (h3 _), rep2_c (h3 _)]
      have := rep2_app (d :: r) v h
      rw [List.cons_append] at this
      rw [this]; rfl
theorem closed_app : ∀ (u v : List Nat), (closed u = true ∨ v.head? ≠ some 39) → v ≠ [] → closed (u ++ v) = closed v
  | [], v, _, _ => rfl
  | [c], v, h, hv => by
    have hn : ¬ (c = 39 ∧ v.head? = some 39) := by
      rintro ⟨rfl, e⟩
      rcases h with h | h
      · simp [closed] at h
      · exact h e
    show closed (c :: v) = _
    rw [closed_c hn fun e => hv e.2]
  | c :: d :: r, v, h, hv => by
    by_cases h2 : c = 39 ∧ d = 39
    · obtain ⟨rfl, rfl⟩ := h2
      rw [closed_qq] at h
      show closed (39 :: 39 :: (r ++ v)) = _
      rw [closed_qq, closed_app r v h hv]
    · have h3 : ∀ l : List Nat, ¬ (c = 39 ∧ (d :: l).head? = some 39) := fun l ⟨e1, e2⟩ => h2 ⟨e1, Option.some.inj e2⟩
      rw [closed_c (h3 r) (by simp)] at h
      show closed (c :: d :: (r ++ v)) = _
      rw [closed_c (h3 _) (by simp)]
      exact closed_app (d :: r) v h hv
theorem rep2_free : ∀ {u : List Nat}, (∀ c ∈ u, c ≠ 39) → rep2 u = u ∧ closed u = true
  | [], _ => ⟨rfl, rfl⟩
  | c :: r, h => by
    have hc := h c (.head _)
    have ih := rep2_free fun d hd => h d (.tail _ hd)
    rw [rep2_c fun e => hc e.1, closed_c (fun e => hc e.1) fun e => hc e.1, ih.1, ih.2]
    exact ⟨rfl, rfl⟩
theorem lets_ne : ∀ c ∈ lets, c ≠ 39 := by decide
theorem plain_facts : ∀ x ∈ plains, rep2 (dbl 39 x) = q0 x ∧ closed (dbl 39 x) = true ∧ dbl 39 x ≠ [] ∧ x ≠ [] ∧ (x ≠ [39] → (dbl 39 x).head? ≠ some 39) ∧ (∀ d ∈ q0 x, d ≠ 39 ∧ d ∉ lets) ∧ (q0 x).map swap0 = x ∧ 0 ∉ x := by decide
theorem quoted_facts : ∀ x ∈ quoteds, rep2 (39 :: (dbl 39 x ++ [39])) = 39 :: (q0 x ++ [39]) ∧ closed (39 :: (dbl 39 x ++ [39])) = false ∧ x ≠ [] ∧ (∀ d ∈ q0 x, d ≠ 39) ∧ (q0 x).map swap0 = x ∧ 0 ∉ x := by decide
theorem textOf_snoc (ps : List Piece) (p : Piece) : textOf (ps ++ [p]) = textOf ps ++ p.text := by simp [textOf]
theorem text_marks {ps : List Piece} (h : Good ps) : rep2 (textOf ps) = ps.flatMap Piece.marks ∧ closed (textOf ps) = !lastQ ps := by
  induction h with
  | nil => exact ⟨rfl, rfl⟩
  | @snoc ps p _ hp hq ih =>
    have hp1 : rep2 p.text = p.marks ∧ p.text ≠ [] ∧ closed p.text = !lastQ (ps ++ [p]) := by
      rw [lastQ_snoc]
      clear hq
      cases p with
      | field c n =>
        have h3 : ∀ d ∈ List.replicate n c, d ≠ 39 := fun d hd => by rw [List.eq_of_mem_replicate hd]; exact lets_ne c hp.1
        refine ⟨(rep2_free h3).1, ?_, (rep2_free h3).2⟩
        intro e
        have := congrArg List.length e
        simp only [Piece.text, List.length_replicate, List.length_nil] at this
        have := hp.2.1; omega
      | chars x => have := plain_facts x hp; exact ⟨this.1, this.2.2.1, this.2.1⟩
      | quoted x => have := quoted_facts x hp; exact ⟨this.1, by simp [Piece.text], this.2.1⟩
    have hc : closed (textOf ps) = true ∨ p.text.head? ≠ some 39 := by
      cases hl : lastQ ps with
      | false => left; rw [ih.2, hl]; rfl
      | true =>
        right
        obtain ⟨h1, h2⟩ := hq hl
        cases p with
        | field c n =>
          have h3 := hp.2.1
          cases n with
          | zero => omega
          | succ n =>
            show (List.replicate (n + 1) c).head? ≠ some 39
            rw [List.replicate_succ]
            intro e
            exact lets_ne c hp.1 (Option.some.inj e)
        | chars x => exact (plain_facts x hp).2.2.2.2.1 fun e => h2 (by rw [e])
        | quoted x => exact absurd rfl (h1 x)
    rw [textOf_snoc, rep2_app _ _ hc, closed_app _ _ hc hp1.2.1, ih.1, hp1.1, hp1.2.2]
    refine ⟨by simp, rfl⟩
/-- how the machine stands to the tokens that are due -/
inductive Rel : List Token × Mode → List Token → Prop where
  | start : Rel ([], .txt []) []
  | fld (ts : List Token) (c n : Nat) : Rel (ts, .fld c n) (ts ++ [.field c n])
  | txt (ts : List Token) {x y : List Nat} : x ≠ [] → x.map swap0 = y → Rel (ts, .txt x) (ts ++ [.chars y])
theorem step_ff {ts : List Token} {c d k : Nat} (h : c ∈ lets) (h2 : c ≠ d) : tzStep (ts, .fld d k) c = (ts ++ [.field d k], .fld c 1) := (if_neg (lets_ne c h)).trans ((if_pos h).trans (if_neg h2))
theorem step_tf {ts : List Token} {x : List Nat} {c : Nat} (h : c ∈ lets) : tzStep (ts, .txt x) c = (flush ts x, .fld c 1) := (if_neg (lets_ne c h)).trans (if_pos h)
theorem step_fx {ts : List Token} {c d k : Nat} (h : c ≠ 39 ∧ c ∉ lets) : tzStep (ts, .fld d k) c = (ts ++ [.field d k], .txt [c]) := (if_neg h.1).trans (if_neg h.2)
theorem step_tq {ts : List Token} {x : List Nat} : tzStep (ts, .txt x) 39 = (flush ts x, .quo []) := rfl
theorem step_fq {ts : List Token} {d k : Nat} : tzStep (ts, .fld d k) 39 = (ts ++ [.field d k], .quo []) := rfl
theorem step_qq {ts : List Token} {x : List Nat} : tzStep (ts, .quo x) 39 = (ts, .txt x) := rfl
theorem run_same {ts : List Token} {c : Nat} (h : c ∈ lets) : ∀ (n k : Nat), (List.replicate n c).foldl tzStep (ts, .fld c k) = (ts, .fld c (k + n))
  | 0, k => rfl
  | n + 1, k => by
    rw [List.replicate_succ, List.foldl_cons]
    have : tzStep (ts, .fld c k) c = (ts, .fld c (k + 1)) := (if_neg (lets_ne c h)).trans ((if_pos h).trans (if_pos rfl))
    rw [this, run_same h n (k + 1)]
    have : k + 1 + n = k + (n + 1) := by omega
    rw [this]
theorem run_txt {ts : List Token} : ∀ {x y : List Nat}, (∀ d ∈ x, d ≠ 39 ∧ d ∉ lets) → x.foldl tzStep (ts, .txt y) = (ts, .txt (y ++ x))
  | [], y, _ => by rw [List.append_nil]; rfl
  | d :: x, y, h => by
    have hd := h d (.head _)
    rw [List.foldl_cons]
    have : tzStep (ts, .txt y) d = (ts, .txt (y ++ [d])) := (if_neg hd.1).trans (if_neg hd.2)
    rw [this, run_txt fun e he => h e (.tail _ he), List.append_assoc]; rfl
theorem run_quo {ts : List Token} : ∀ {x y : List Nat}, (∀ d ∈ x, d ≠ 39) → x.foldl tzStep (ts, .quo y) = (ts, .quo (y ++ x))
  | [], y, _ => by rw [List.append_nil]; rfl
  | d :: x, y, h => by
    rw [List.foldl_cons]
    have : tzStep (ts, .quo y) d = (ts, .quo (y ++ [d])) := if_neg (h d (.head _))
    rw [this, run_quo fun e he => h e (.tail _ he), List.append_assoc]; rfl
theorem run_quoted {ts ts' : List Token} {md : Mode} {x : List Nat} (h : tzStep (ts, md) 39 = (ts', .quo [])) (hx : ∀ d ∈ x, d ≠ 39) : (39 :: (x ++ [39])).foldl tzStep (ts, md) = (ts', .txt x) := by
  rw [List.foldl_cons, h, List.foldl_append, run_quo hx, List.nil_append]
  exact step_qq
theorem flush_ne {ts : List Token} {x : List Nat} (h : x ≠ []) : flush ts x = ts ++ [.chars (x.map swap0)] := if_neg h
/-- a run of one letter -/
theorem run_field {ts ts' : List Token} {md : Mode} {c n : Nat} (h : tzStep (ts, md) c = (ts', .fld c 1)) (hc : c ∈ lets) (hn : 1 ≤ n) : (List.replicate n c).foldl tzStep (ts, md) = (ts', .fld c n) := by
  cases n with
  | zero => omega
  | succ n =>
    rw [List.replicate_succ, List.foldl_cons, h, run_same hc]
    have : 1 + n = n + 1 := by omega
    rw [this]
theorem run_free {ts ts' : List Token} {md : Mode} {d : Nat} {x : List Nat} (h : tzStep (ts, md) d = (ts', .txt [d])) (hx : ∀ e ∈ d :: x, e ≠ 39 ∧ e ∉ lets) : (d :: x).foldl tzStep (ts, md) = (ts', .txt (d :: x)) := by
  rw [List.foldl_cons, h, run_txt fun e he => hx e (.tail _ he)]; rfl
theorem rel_step {st : List Token × Mode} {us : List Token} {p : Piece} (R : Rel st us) (hp : p.ok) : Rel (p.marks.foldl tzStep st) (tokStep us p) := by
  cases p with
  | field c n =>
    show Rel ((List.replicate n c).foldl tzStep st) _
    cases R with
    | start =>
      rw [run_field (ts' := []) (step_tf hp.1) hp.1 hp.2.1]
      exact .fld [] c n
    | fld ts d k =>
      by_cases h : d = c
      · subst h
        rw [run_same hp.1, step_f_same]; exact .fld ts d _
      · rw [run_field (step_ff hp.1 fun e => h e.symm) hp.1 hp.2.1, step_f_other _ _ _ h]
        exact .fld _ c n
    | @txt ts x y hx hy =>
      rw [run_field (step_tf hp.1) hp.1 hp.2.1, flush_ne hx, hy, step_f_chars]
      exact .fld _ c n
  | chars x =>
    obtain ⟨_, _, _, hx, _, hf, hm, _⟩ := plain_facts x hp
    have hne : q0 x ≠ [] := fun e => hx (List.map_eq_nil_iff.mp e)
    show Rel ((q0 x).foldl tzStep st) _
    cases R with
    | start =>
      rw [run_txt hf]
      exact .txt [] hne hm
    | fld ts d k =>
      cases hq : q0 x with
      | nil => exact absurd hq hne
      | cons e r =>
        rw [hq] at hf hm
        have he := hf e (.head _)
        rw [run_free (step_fx he) hf, step_c_field]
        exact .txt _ (by simp) hm
    | @txt ts y z hy hz =>
      rw [run_txt hf, step_c_chars]
      exact .txt _ (by simp [hy]) (by rw [List.map_append, hz, hm])
  | quoted x =>
    obtain ⟨_, _, hx, hf, hm, _⟩ := quoted_facts x hp
    have hne : q0 x ≠ [] := fun e => hx (List.map_eq_nil_iff.mp e)
    show Rel ((39 :: (q0 x ++ [39])).foldl tzStep st) (us ++ [.chars x])
    cases R with
    | start => rw [run_quoted (ts' := []) step_tq hf]; exact .txt [] hne hm
    | fld ts d k => rw [run_quoted step_fq hf]; exact .txt _ hne hm
    | @txt ts y z hy hz => rw [run_quoted step_tq hf, flush_ne hy, hz]; exact .txt _ hne hm
theorem rel_run {ps : List Piece} : ∀ {st : List Token × Mode} {us : List Token}, Rel st us → (∀ p ∈ ps, p.ok) → Rel ((ps.flatMap Piece.marks).foldl tzStep st) (ps.foldl tokStep us) := by
  induction ps with
  | nil => intro st us R _; exact R
  | cons p ps ih =>
    intro st us R h
    rw [List.flatMap_cons, List.foldl_append, List.foldl_cons]
    exact ih (rel_step R (h p (.head _))) fun q hq => h q (.tail _ hq)
/-- tokenize_pattern finds what is due -/
theorem tz_text {ps : List Piece} (h : Good ps) : tz (textOf ps) = tokensOf ps := by
  have R := rel_run (ps := ps) .start h.all
  unfold tz
  rw [(text_marks h).1]
  show tzEnd _ = ps.foldl tokStep []
  revert R
  generalize (ps.flatMap Piece.marks).foldl tzStep ([], .txt []) = st
  generalize ps.foldl tokStep [] = us
  intro R
  cases R with
  | start => rfl
  | fld ts c n => rfl
  | @txt ts x y hx hy => rw [← hy]; exact flush_ne hx

/-- a token as text, with quotes where a letter stands in it -/
def Token.text : Token → List Nat
  | .field c n => List.replicate n c
  | .chars x => if x.any (fun c => decide (c ∈ lets)) then 39 :: (dbl 39 x ++ [39]) else x
def written (ts : List Token) : List Nat := ts.flatMap Token.text
theorem written_snoc (ts : List Token) (t : Token) : written (ts ++ [t]) = written ts ++ t.text := by simp [written]
def Token.good : Token → Prop
  | .field c n => c ∈ lets ∧ 1 ≤ n
  | .chars x => x ≠ [] ∧ 0 ∉ x
/-- no two fields of one letter side by side -/
inductive Fine : List Token → Prop where
  | nil : Fine []
  | snoc {ts : List Token} {t : Token} : Fine ts → t.good → (∀ c n k, ts.getLast? = some (.field c k) → t ≠ .field c n) → Fine (ts ++ [t])
theorem snoc_inj {α : Type} {a b : List α} {x y : α} (h : a ++ [x] = b ++ [y]) : a = b ∧ x = y := by
  have := List.append_inj' h rfl
  exact ⟨this.1, (List.cons.inj this.2).1⟩
theorem Fine.inv {ts : List Token} {t : Token} (h : Fine (ts ++ [t])) : Fine ts ∧ t.good ∧ (∀ c n k, ts.getLast? = some (.field c k) → t ≠ .field c n) := by
  generalize e : ts ++ [t] = l at h
  cases h with
  | nil => simp at e
  | snoc h1 h2 h3 => obtain ⟨rfl, rfl⟩ := snoc_inj e; exact ⟨h1, h2, h3⟩
theorem fine_step {us : List Token} {p : Piece} (h : Fine us) (hp : p.ok) : Fine (tokStep us p) := by
  rcases nil_or_snoc us with rfl | ⟨us, u, rfl⟩
  · cases p with
    | field c n => exact Fine.snoc (ts := []) .nil ⟨hp.1, hp.2.1⟩ fun _ _ _ e => nomatch e
    | chars x => have := plain_facts x hp; exact Fine.snoc (ts := []) .nil ⟨this.2.2.2.1, this.2.2.2.2.2.2.2⟩ fun _ _ _ e => nomatch e
    | quoted x => have := quoted_facts x hp; exact Fine.snoc (ts := []) .nil ⟨this.2.2.1, this.2.2.2.2.2⟩ fun _ _ _ e => nomatch e
  · have h9 := h
    obtain ⟨h1, h2, h3⟩ := h.inv
    cases p with
    | field c n =>
      cases u with
      | field d k =>
        by_cases e : d = c
        · subst e
          rw [step_f_same]
          refine .snoc h1 ⟨hp.1, by have := hp.2.1; omega⟩ fun c' n' k' hl => ?_
          intro e
          injection e with e1 e2
          subst e1
          exact h3 d k k' hl rfl
        · rw [step_f_other _ _ _ e]
          refine .snoc h9 ⟨hp.1, hp.2.1⟩ fun c' n' k' hl => ?_
          rw [List.getLast?_concat] at hl
          injection hl with hl
          injection hl with hl hl2
          intro e2
          injection e2 with e2 e3
          exact e (hl.trans e2.symm)
      | chars y =>
        rw [step_f_chars]
        refine .snoc h9 ⟨hp.1, hp.2.1⟩ fun c' n' k' hl => ?_
        rw [List.getLast?_concat] at hl
        injection hl with hl
        cases hl
    | chars x =>
      have hx := plain_facts x hp
      cases u with
      | field d k => rw [step_c_field]; exact .snoc h9 ⟨hx.2.2.2.1, hx.2.2.2.2.2.2.2⟩ fun _ _ _ _ e => by cases e
      | chars y =>
        rw [step_c_chars]
        refine .snoc h1 ⟨by simp [h2.1], ?_⟩ fun _ _ _ _ e => by cases e
        intro h0
        rcases List.mem_append.mp h0 with h0 | h0
        · exact h2.2 h0
        · exact hx.2.2.2.2.2.2.2 h0
    | quoted x =>
      have hx := quoted_facts x hp
      exact .snoc h9 ⟨hx.2.2.1, hx.2.2.2.2.2⟩ fun _ _ _ _ e => by cases e
theorem fine_run {ps : List Piece} : ∀ {us : List Token}, Fine us → (∀ p ∈ ps, p.ok) → Fine (ps.foldl tokStep us) := by
  induction ps with
  | nil => intro us h _; exact h
  | cons p ps ih => intro us h hp; exact ih (fine_step h (hp p (.head _))) fun q hq => hp q (.tail _ hq)
theorem fine_tokens {ps : List Piece} (h : ∀ p ∈ ps, p.ok) : Fine (tokensOf ps) := fine_run .nil h
/-- the law's word for plain tokens -/
def PlainT (ts : List Token) : Prop := ∀ (i : Nat) (x : List Nat), ts[i]? = some (.chars x) → 39 ∉ x ∧ ∀ y, ts[i + 1]? ≠ some (.chars y)
/-- how the machine stands after the written text of the tokens -/
inductive Rel2 : List Token × Mode → List Token → Prop where
  | start : Rel2 ([], .txt []) []
  | fld (ts : List Token) (c n : Nat) : Rel2 (ts, .fld c n) (ts ++ [.field c n])
  | txt (ts : List Token) (x : List Nat) : x ≠ [] → x.map swap0 = x → Rel2 (ts, .txt x) (ts ++ [.chars x])
theorem swap_free {x : List Nat} (h : 0 ∉ x) : x.map swap0 = x := by
  induction x with
  | nil => rfl
  | cons c x ih =>
    rw [List.map_cons, ih fun q => h (.tail _ q)]
    have : swap0 c = c := if_neg fun e => h (by rw [e]; exact .head _)
    rw [this]
theorem dbl_free {x : List Nat} (h : 39 ∉ x) : dbl 39 x = x := by
  induction x with
  | nil => rfl
  | cons c x ih =>
    show (if c = 39 then c :: c :: dbl 39 x else c :: dbl 39 x) = _
    rw [if_neg fun e => h (by rw [e]; exact .head _), ih fun q => h (.tail _ q)]
theorem rel2_all {ts : List Token} (h : Fine ts) : PlainT ts → rep2 (written ts) = written ts ∧ (closed (written ts) = true ∨ ∃ y, ts.getLast? = some (.chars y)) ∧ Rel2 ((written ts).foldl tzStep ([], .txt [])) ts := by
  induction h with
  | nil => intro _; exact ⟨rfl, .inl rfl, .start⟩
  | @snoc ts t _ ht hn ih =>
    intro hP
    have hP' : PlainT ts := by
      intro i x hx
      have hi := (List.getElem?_eq_some_iff.mp hx).1
      obtain ⟨h1, h2⟩ := hP i x (by rw [List.getElem?_append_left hi]; exact hx)
      refine ⟨h1, fun y hy => h2 y ?_⟩
      have hi2 := (List.getElem?_eq_some_iff.mp hy).1
      rw [List.getElem?_append_left hi2]; exact hy
    obtain ⟨i1, i2, i3⟩ := ih hP'
    rw [written_snoc, List.foldl_append]
    cases t with
    | field c n =>
      have hf : ∀ d ∈ List.replicate n c, d ≠ 39 := fun d hd => by rw [List.eq_of_mem_replicate hd]; exact lets_ne c ht.1
      obtain ⟨r1, r2⟩ := rep2_free hf
      have hh : (List.replicate n c).head? ≠ some 39 := by
        intro e
        exact hf 39 (List.mem_of_mem_head? e) rfl
      have hne : List.replicate n c ≠ [] := by
        intro e
        have := congrArg List.length e
        simp only [List.length_replicate, List.length_nil] at this
        have := ht.2; omega
      have e1 : (Token.field c n).text = List.replicate n c := rfl
      rw [e1, rep2_app _ _ (.inr hh), i1, r1, closed_app _ _ (.inr hh) hne, r2]
      refine ⟨rfl, .inl rfl, ?_⟩
      revert i3
      generalize (written ts).foldl tzStep ([], .txt []) = st
      intro i3
      cases i3 with
      | start => rw [run_field (ts' := []) (step_tf ht.1) ht.1 ht.2]; exact .fld [] c n
      | fld ts d k =>
        have hd : c ≠ d := fun e => by
          subst e
          exact hn c n k (by rw [List.getLast?_concat]) rfl
        rw [run_field (step_ff ht.1 hd) ht.1 ht.2]; exact .fld _ c n
      | txt ts x hx hs => rw [run_field (step_tf ht.1) ht.1 ht.2, flush_ne hx, hs]; exact .fld _ c n
    | chars x =>
      have hx39 : 39 ∉ x := (hP ts.length x (by simp)).1
      have hno : ∀ y, ts.getLast? ≠ some (.chars y) := by
        intro y hy
        rcases nil_or_snoc ts with e | ⟨us, u, e⟩
        · rw [e] at hy; cases hy
        · rw [e, List.getLast?_concat] at hy
          injection hy with hy
          subst hy
          refine (hP us.length y ?_).2 x ?_
          · rw [e]; simp
          · rw [e]; simp
      have hcl : closed (written ts) = true := by
        rcases i2 with h | ⟨y, h⟩
        · exact h
        · exact absurd h (hno y)
      have hfree : ∀ d ∈ x, d ≠ 39 := fun d hd e => hx39 (e ▸ hd)
      obtain ⟨r1, r2⟩ := rep2_free hfree
      obtain ⟨d0, x0, e0⟩ : ∃ d x0, x = d :: x0 := by
        cases x with
        | nil => exact absurd rfl ht.1
        | cons d x0 => exact ⟨d, x0, rfl⟩
      have hsw := swap_free ht.2
      rw [rep2_app _ _ (.inl hcl), i1]
      refine ⟨?_, .inr ⟨x, by rw [List.getLast?_concat]⟩, ?_⟩
      · congr 1
        show rep2 (if x.any (fun c => decide (c ∈ lets)) then 39 :: (dbl 39 x ++ [39]) else x) = if x.any (fun c => decide (c ∈ lets)) then 39 :: (dbl 39 x ++ [39]) else x
        split
        · rw [dbl_free hx39, rep2_c (by rw [e0]; rintro ⟨_, q⟩; exact hfree d0 (by rw [e0]; exact .head _) (Option.some.inj q)), rep2_app _ _ (.inl r2), r1]
          rfl
        · exact r1
      · show Rel2 (List.foldl tzStep _ (if x.any (fun c => decide (c ∈ lets)) then 39 :: (dbl 39 x ++ [39]) else x)) _
        split
        · rw [dbl_free hx39]
          revert i3 hno
          generalize (written ts).foldl tzStep ([], .txt []) = st
          intro i3 hno
          cases i3 with
          | start => rw [run_quoted (ts' := []) step_tq hfree]; exact .txt [] x ht.1 hsw
          | fld ts d k => rw [run_quoted step_fq hfree]; exact .txt _ x ht.1 hsw
          | txt ts y hy hs => exact absurd (by rw [List.getLast?_concat]) (hno y)
        · rename_i hany
          have hl : ∀ d ∈ x, d ≠ 39 ∧ d ∉ lets := fun d hd => ⟨hfree d hd, fun q => hany (List.any_eq_true.mpr ⟨d, hd, decide_eq_true q⟩)⟩
          revert i3 hno
          generalize (written ts).foldl tzStep ([], .txt []) = st
          intro i3 hno
          cases i3 with
          | start => rw [run_txt hl]; exact .txt [] x ht.1 hsw
          | fld ts d k =>
            rw [e0] at hl hsw ⊢
            rw [run_free (step_fx (hl d0 (.head _))) hl]; exact .txt _ _ (by simp) hsw
          | txt ts y hy hs => exact absurd (by rw [List.getLast?_concat]) (hno y)
/-- what is written of plain tokens is read back -/
theorem tz_written {ts : List Token} (h : Fine ts) (hP : PlainT ts) : tz (written ts) = ts := by
  obtain ⟨h1, _, R⟩ := rel2_all h hP
  unfold tz
  rw [h1]
  revert R
  generalize (written ts).foldl tzStep ([], .txt []) = st
  intro R
  cases R with
  | start => rfl
  | fld ts c n => rfl
  | txt ts x hx hs => show flush ts x = _; rw [flush_ne hx, hs]
end Mine
end

section
open PySem PySem.W PySem.Spec PySem.Calls PyProof.Rows
set_option maxRecDepth 100000
set_option maxHeartbeats 8000000
namespace Mine

/-- what a list comprehension asks of its source -/
def MyComp (prog : Program) (w : World) (A : Around) (env : Env) (scope : Scope) (cl : List (Str × Addr)) (x : Str) (ifs : List Expr) (elt : Expr) (p : Value → Bool) (F : Value → Value → Prop) (Q : Value → Shared → Prop) (it : Value) (s₂ : Shared) : Prop :=
  ∃ I fp wr n P St, it = .ref I ∧ Walks prog w A I fp wr n P St ∧ n ≤ sizeLine ∧ St 0 s₂.heap ∧ (∀ b ∈ fp, b < s₂.heap.objs.size) ∧
      QuietOnC prog w A env scope cl x ifs elt wr P p F s₂ ∧
      (∀ D h' tk ys (vs : List Value), s₂.heap.get? D = none → h'.IsList D ys → h'.PlainList D ys → vs.length = n → (∀ j v, vs[j]? = some v → P j v) → Paired F (vs.filter p) ys.toList →
        (∀ b o, b ∉ wr → s₂.heap.get? b = some o → h'.get? b = some o) → Q (.ref D) { s₂ with heap := h', toks := tk })
def keepSign (q : Nat → Bool) : Value → Bool
  | .str z _ => q (z.cps.getD 0 0)
  | _ => false
def sameSign (v r : Value) : Prop := ∃ c u u', v = .str (⟨#[c]⟩ : Str) u ∧ r = .str (⟨#[c]⟩ : Str) u'
theorem paired_signs {q : Nat → Bool} : ∀ {y : List Nat} {vs us : List Value}, StrsAre vs (y.map fun c => S [c]) → Paired sameSign (vs.filter (keepSign q)) us → StrsAre us ((y.filter q).map fun c => S [c])
  | [], vs, us, h, P => by
    cases h; cases P; exact .nil
  | c :: y, vs, us, h, P => by
    rw [List.map_cons] at h
    cases h with
    | cons _ t h =>
      have hk : keepSign q (.str (S [c]) t) = q c := rfl
      rw [List.filter_cons, hk] at P
      rw [List.filter_cons]
      cases hq : q c with
      | false => rw [hq] at P; exact paired_signs h P
      | true =>
        rw [hq] at P
        cases P with
        | cons h1 h2 =>
          obtain ⟨d, u, u', e1, e2⟩ := h1
          injection e1 with e1 _
          have : c = d := by
            have := S_inj (x := [c]) (y := [d]) e1
            injection this
          subst this
          rw [e2]
          exact .cons _ _ (paired_signs h h2)
theorem signs_at {y : List Nat} {vs : List Value} (hl : vs.length = y.length) (hP : ∀ j v, vs[j]? = some v → SignAt (S y) j v) : StrsAre vs (y.map fun c => S [c]) := by
  induction y generalizing vs with
  | nil => rw [List.length_nil, List.length_eq_zero_iff] at hl; subst hl; exact .nil
  | cons c y ih =>
    cases vs with
    | nil => cases hl
    | cons v vs =>
      obtain ⟨d, u, e, rfl⟩ := hP 0 v rfl
      have e : c = d := by simpa using e
      subst e
      refine .cons _ _ (ih (by simpa using hl) fun j v hv => ?_)
      obtain ⟨d, u, e, rfl⟩ := hP (j + 1) v (by simpa using hv)
      exact ⟨d, u, by simpa using e, rfl⟩
theorem mem_at {y : List Nat} {i c : Nat} (h : (S y).cps[i]? = some c) : c ∈ y := by
  have h : y.toArray[i]? = some c := h
  rw [List.getElem?_toArray] at h
  exact List.mem_of_getElem? h
theorem in_lets : ∀ c < 128, (!(Builtin.Str.occurrences (Str.ofString "GyYuQqMLwWdDFgEecabBhHKkmsSAzZOvVxX") (⟨#[c]⟩ : Str) 0 (Str.ofString "GyYuQqMLwWdDFgEecabBhHKkmsSAzZOvVxX").length 1).isEmpty) = decide (c ∈ lets) := by decide +kernel
section
variable {prog : Program} {w : World} {A : Around} {E : Value → Shared → Prop} {s : Shared} {env : Env} {h₀ : Heap} {C : Addr} {m₂ : Str → Option Value} {x : Str} {pos : Pos} {scope : Scope} {cl : List (Str × Addr)} {v : Value} {c : Nat} {t u : Tok} {Q : Value → Shared → Prop}
theorem my_own (F : Fr h₀ C s.heap m₂) (hx : m₂ x = some v) (h : Q v s)
    (hk : (compEnvC scope cl C env).scope.kind = .function := by rfl) (hl : (compEnvC scope cl C env).kindOf x = some .local := by rfl) (hd : (x == ("__debug__" : Str)) = false := by decide) :
    wpAny (model prog w) A (eval (.Name x pos) (compEnvC scope cl C env)) Q E s := ldVarK F.ns hx h hk hl hd
theorem in_letters (hc : c < 128) (h : Q (.bool (decide (c ∈ lets))) s) : wpAny (model prog w) A (compareOp .In (.str (⟨#[c]⟩ : Str) t) (.str (Str.ofString "GyYuQqMLwWdDFgEecabBhHKkmsSAzZOvVxX") u)) Q E s :=
  in_str (by rw [in_lets c hc]; exact h)
theorem keeps_toks {s : Shared} {k : Nat} : Keeps s { s with toks := k } := ⟨s.heap, k, rfl, fun _ _ e => e⟩
theorem keeps_same {s : Shared} : Keeps s s := ⟨s.heap, s.toks, rfl, fun _ _ e => e⟩
end
section
variable {prog : Program} {w : World} {A : Around} {E : Value → Shared → Prop} {s s₁ : Shared} {env : Env} {h₀ : Heap} {L : Addr} {m : Str → Option Value} {news : List (Addr × Obj)}
theorem my_ListComp {elt iter : Expr} {x : Str} {px : Pos} {ifs : List Expr} {scope : Scope} {cl : List (Str × Addr)} {pos : Pos} {Q : Value → Shared → Prop} (p : Value → Bool) (F : Value → Value → Prop)
    (hclos : closureFor scope env = pure cl) (hcell : ∀ y ∈ scope.names, y.2 ≠ .cell) (hkind : scope.kind = .function)
    (hnames : ∀ y ∈ scope.names, y.2 = .local → scope.names.lookup y.1 = some .local) (hx : scope.names.lookup x = some .local)
    (h : wpAny (model prog w) A (eval iter env) (fun xv s₁ => wpAny (model prog w) A (pyIter xv) (MyComp prog w A env scope cl x ifs elt p F Q) E s₁) E s)
    (hs : ∀ x, foldedSetIterable iter env x = pure x := by intro _; rfl) :
    wpAny (model prog w) A (eval (.ListComp elt [⟨.Name x px, iter, ifs, 0⟩] scope pos) env) Q E s := wpAny_ListComp_free p F hclos hcell hkind hnames hx h hs
theorem my_src {elt : Expr} {x : Str} {ifs : List Expr} {scope : Scope} {cl : List (Str × Addr)} {Q : Value → Shared → Prop} {y : List Nat} {t : Tok} {q : Nat → Bool} (hh : A.handled = none) (F : Fr h₀ L s₁.heap m) (N : News h₀ L s₁.heap news) (hsz : y.length ≤ 10000)
    (g1 : ∀ C c u s₂ m₂ E', c ∈ y → Fr h₀ C s₂.heap m₂ → m₂ x = some (.str (⟨#[c]⟩ : Str) u) → (∀ b o, s₁.heap.get? b = some o → s₂.heap.get? b = some o) →
      wpAny (model prog w) A (forIn ifs true fun c r => if r = true then do let ok ← isTrue c (compEnvC scope cl C env) (eval c (compEnvC scope cl C env)); pure (ForInStep.yield ok) else pure (ForInStep.yield r)) (fun ok s₃ => ok = q c ∧ Keeps s₂ s₃) E' s₂)
    (g2 : ∀ C c u s₂ m₂ E', c ∈ y → Fr h₀ C s₂.heap m₂ → m₂ x = some (.str (⟨#[c]⟩ : Str) u) → wpAny (model prog w) A (eval elt (compEnvC scope cl C env)) (fun r s₃ => (∃ u', r = .str (⟨#[c]⟩ : Str) u') ∧ Keeps s₂ s₃) E' s₂)
    (g3 : ∀ D us n h' tk, Fr h₀ L h' m → News h₀ L h' ((D, listOf us.toArray n) :: news) → StrsAre us ((y.filter q).map fun c => S [c]) → Q (.ref D) { s₁ with heap := h', toks := tk }) :
    wpAny (model prog w) A (pyIter (.str (S y) t)) (MyComp prog w A env scope cl x ifs elt (keepSign q) sameSign Q) E s₁ := by
  refine wpAny_pyIter_str fun o St W hst => ?_
  have up : ∀ (h' : Heap), (∀ b o', b ∉ [s₁.heap.objs.size] → (s₁.heap.push o).get? b = some o' → h'.get? b = some o') → ∀ b o', s₁.heap.get? b = some o' → h'.get? b = some o' :=
    fun h' hk b o' e => hk b o' (old_not_new e) (Heap.get?_push_of_some _ e)
  have frC : ∀ (C : Addr) (s₃ : Shared) m₃, (s₁.heap.push o).objs.size ≤ C → s₃.heap.Ns C m₃ → (∀ b o', b ∉ [s₁.heap.objs.size] → (s₁.heap.push o).get? b = some o' → s₃.heap.get? b = some o') → Fr h₀ C s₃.heap m₃ :=
    fun C s₃ m₃ hC hn hk => ⟨hn, fun b o' e => up _ hk b o' (F.keep b o' e), Nat.le_trans F.above (Nat.le_trans (Nat.le_of_lt F.ns.lt) (Nat.le_trans (by rw [Heap.size_push]; exact Nat.le_succ _) hC))⟩
  have hlen : (S y).cps.size = y.length := List.size_toArray
  refine ⟨s₁.heap.objs.size, [s₁.heap.objs.size], [s₁.heap.objs.size], (S y).cps.size, SignAt (S y), St, rfl, W A hh, by rw [hlen, sizeLine_eq]; omega, hst, ?_, ⟨?_, ?_⟩, ?_⟩
  · intro b hb
    show b < (s₁.heap.push o).objs.size
    rw [Heap.size_push, List.mem_singleton.mp hb]
    exact Nat.lt_succ_self _
  · intro C i v s₃ m₃ E' hC hP hn hm hk _
    obtain ⟨c, u, hc, rfl⟩ := hP
    exact g1 C c u s₃ m₃ E' (mem_at hc) (frC C s₃ m₃ hC hn hk) hm (up _ hk)
  · intro C i v s₃ m₃ E' hC hP hp hn hm hk _
    obtain ⟨c, u, hc, rfl⟩ := hP
    exact wpAny_mono (g2 C c u s₃ m₃ E' (mem_at hc) (frC C s₃ m₃ hC hn hk) hm) (fun r s₄ h₄ => ⟨by obtain ⟨u', e⟩ := h₄.1; exact ⟨c, u, u', rfl, e⟩, h₄.2⟩) fun _ _ e => e
  · intro D h' tk ys vs hnew _ hplD hlD hP hF hk
    obtain ⟨n, hn⟩ := hplD
    have hs := signs_at (by rw [hlD, hlen]) hP
    have hD : s₁.heap.get? D = none := by
      cases e : s₁.heap.get? D with
      | none => rfl
      | some o' => rw [Heap.get?_push_of_some _ e] at hnew; cases hnew
    refine g3 D ys.toList n h' tk (F.keeps (up h' hk)) (fun p hp => ?_) (paired_signs hs hF)
    rcases List.mem_cons.mp hp with rfl | hp
    · refine ⟨by rw [Array.toArray_toList]; exact hn, fun e => ?_, ?_⟩
      · have h1 := F.ns.lt
        obtain ⟨o', es, ep, ho, _⟩ := F.ns
        rw [show D = L from e, ho] at hD; cases hD
      · cases e : h₀.get? D with
        | none => rfl
        | some o' => rw [F.keep _ _ e] at hD; cases hD
    · exact N.grown (up h' hk) p hp
end
end Mine
end

section
open PySem PySem.W PySem.Spec PySem.Calls PyProof.Rows
set_option maxRecDepth 100000
set_option maxHeartbeats 8000000
namespace Mine
local macro_rules | `(tactic| walk_at "mine none") => `(tactic| fail)
local macro_rules | `(tactic| walk_at "mine none") => `(tactic| fail)
local macro_rules | `(tactic| walk_at "mine none") => `(tactic| fail)

set_option pp.deepTerms false
set_option pp.deepTerms.threshold 12
local macro_rules | `(tactic| k_updF) => `(tactic| first
  | with_reducible assumption
  | with_reducible exact List.mem_cons_self
  | (with_reducible refine List.mem_cons_of_mem _ ?_; k_updF)
  | (with_reducible refine List.mem_append.mpr (Or.inr ?_); k_updF)
  | (with_reducible refine List.mem_append.mpr (Or.inl ?_); k_updF))
local macro_rules | `(tactic| k_mem) => `(tactic| k_updF)
local macro_rules | `(tactic| walk_at "execs cons") => `(tactic| (with_reducible refine gen_toks ?_; intro tk9 htk9))
local macro_rules | `(tactic| walk_at "execs nil") => `(tactic| (with_reducible refine gen_toks ?_; intro tk9 htk9))
local macro_rules | `(tactic| walk_at "binaryOp Add str str") => `(tactic| (
  refine' add_S ?k0 ?k1 ?k2 ?k3 ?_; (case k0 => first | assumption | exact Nat.succ_ne_zero _); (case k1 => first | exact lit_q | exact rfl); (case k2 => first | exact lit_q | exact rfl); (case k3 => ((try simp only [List.length_append, List.length_cons, List.length_nil, List.length_replicate]); omega)); intro t9 k9 hk9))
local macro_rules | `(tactic| walk_at "binaryOp Mult str int") => `(tactic| (refine' mul_S ?k0 ?k1 ?k2 ?_; (case k0 => first | assumption | exact Nat.succ_ne_zero _); (case k1 => omega); (case k2 => omega); intro t9 k9 hk9))
local macro_rules | `(tactic| walk_at "call builtin:str.replace") => `(tactic| (refine' rep_q ?k0 ?k1 ?k2 ?k3 ?k4 ?_; (case k0 => first | assumption | exact Nat.succ_ne_zero _); (case k1 => first | assumption | exact Nat.succ_ne_zero _); (case k2 => exact Nat.succ_ne_zero _); (case k3 => exact Nat.ne_of_lt (Nat.lt_succ_self _)); (case k4 => omega); intro t9 k9 hk9))

def Token.okay : Token → Prop
  | .field c n => c ∈ lets ∧ 1 ≤ n ∧ n ≤ 100
  | .chars x => (∀ s ∈ x, s < 128) ∧ x.length ≤ 100
theorem dbl_len (x : List Nat) : (StrLaws.dbl 39 x).length ≤ 2 * x.length := by
  induction x with
  | nil => simp [StrLaws.dbl]
  | cons c x ih =>
    show (if c = 39 then c :: c :: StrLaws.dbl 39 x else c :: StrLaws.dbl 39 x).length ≤ _
    split <;> simp only [List.length_cons] <;> omega
theorem ttext_len {t : Token} (h : t.okay) : t.text.length ≤ 210 := by
  cases t with
  | field c n => simp only [Token.text, List.length_replicate]; have := h.2.2; omega
  | chars x =>
    have h1 := dbl_len x
    have h2 := h.2
    simp only [Token.text]
    split
    · simp only [List.length_cons, List.length_append, List.length_nil]; omega
    · omega
theorem written_len {ts : List Token} (h : ∀ t ∈ ts, t.okay) : (written ts).length ≤ 210 * ts.length := by
  induction ts with
  | nil => simp [written]
  | cons p ps ih =>
    have h1 := ttext_len (h p (.head _))
    have h2 := ih fun q hq => h q (.tail _ hq)
    simp only [written, List.flatMap_cons, List.length_append, List.length_cons] at h2 ⊢
    omega
theorem strs_dat {l : List (Addr × Obj)} : ∀ {us : List Value} {zs : List Nat}, StrsAre us (zs.map fun c => S [c]) → DatAll l us (zs.map fun c => .str (S [c]))
  | _, [], h => by cases h; exact .nil
  | _, c :: zs, h => by
    rw [List.map_cons] at h
    cases h with
    | cons _ t h => exact .cons (.str _ _) (strs_dat h)
section
variable {prog : Program} {w : World} {A : Around} {E : Value → Shared → Prop} {s : Shared} {h₀ : Heap} {L D b : Addr} {news : List (Addr × Obj)} {us : List Value} {zs : List Nat} {n k : Nat} {Q : Value → Shared → Prop}
theorem strs_eq_nil (N : News h₀ L s.heap news) (hm : (D, listOf us.toArray n) ∈ news) (hb : (b, listOf #[] k) ∈ news) (hs : StrsAre us (zs.map fun c => S [c])) (h128 : ∀ c ∈ zs, c < 128) (hu : A.units + 64 < cLine)
    (h : Q (.bool (decide (zs = []))) s) : wpAny (model prog w) A (compareOp .Eq (.ref D) (.ref b)) Q E s := by
  refine kqd_eq N hm rfl rfl (strs_dat (l := []) hs) (fun _ h => nomatch h) hb rfl (ys := []) rfl .nil (n₂ := []) (fun _ h => nomatch h) (fun d hd => ?_) (fun _ h => nomatch h) hu ?_
  · obtain ⟨c, hc, rfl⟩ := List.mem_map.mp hd
    have h1 : PyData.strOk (S [c]) = true := by
      show [c].toArray.all (· < 0x110000) = true
      rw [List.all_toArray, List.all_eq_true]
      intro s hs
      rw [List.mem_singleton.mp hs]
      have := h128 c hc
      exact decide_eq_true (by omega)
    simp only [kqdOk, h1]
  · have e : (decide (zs.map (fun c => (Dat.str (S [c]))) = [])) = decide (zs = []) := by simp
    simpa only [e] using h
end
local macro_rules | `(tactic| walk_at "eval ListComp") => `(tactic| (with_reducible apply my_ListComp (keepSign fun c => decide (c ∈ lets)) sameSign; (case hclos => with_unfolding_all rfl); (case hcell => decide); (case hkind => with_unfolding_all rfl); (case hnames => decide); (case hx => with_unfolding_all rfl)))
local macro_rules | `(tactic| walk_at "eval Name") => `(tactic| ((with_reducible show wpAny _ _ (eval (Expr.Name _ _) (compEnvC _ _ _ _)) _ _ _); k_dflt (first
  | refine my_own (by assumption) (by assumption) ?_
  | refine LCgL.ld_global (by assumption) (by k_asm) (by k_asm) (by k_is) ?_)))
local macro_rules | `(tactic| walk_at "compareOp In str str") => `(tactic| (refine in_letters (by assumption) ?_))
local macro_rules | `(tactic| walk_at "compareOp Eq ref ref") => `(tactic| (refine' strs_eq_nil ?k1 ?k2 ?k3 ?k4 ?k5 ?k6 ?_; (case k1 => k_asm); (case k2 => k_mem); (case k3 => k_mem); (case k4 => assumption); (case k5 => assumption); (case k6 => ktr_units)))
/-- between the turns of _law_written -/
def WJ (news : List (Addr × Obj)) (ts : List Token) (i : Nat) (m : Str → Option Value) (nx : List (Addr × Obj)) : Prop :=
  ∃ t, m (Str.ofString "text") = some (.str (S (written (ts.take i))) t) ∧ nx = news
theorem written_c {w : World} {mean : ExcName → Option Value} {mg mb : Str → Option Value} {dp un : Nat} {gd : Option (List Code)} {cn : Str} {cs : Scope} {a : Addr} {ccd : Value} {cl : List (Str × Addr)} {outer : List Env} {A₀ : Around} {base h₀ : Heap} {L : Addr} {m : Str → Option Value} {news : List (Addr × Obj)} {s : Shared} {Q E : Value → Shared → Prop} {l : Addr} {us : List Value} {nn : Nat} {ts : List Token} {l9 : List (Addr × Obj)} (B : Below A₀ base outer h₀) (F : Fr h₀ L s.heap m) (X : (hd.heap_39 w.params).In h₀) (N : News h₀ L s.heap news) (T : Top topProg (looseW hd.view_39 [Str.ofString "PATTERN_CHARS"] ++ (recsOf hd.view_39).map (·.name) ++ (litsOf hd.view_39).map (·.1) ++ (clssOf hd.view_39 (looseW hd.view_39 [Str.ofString "PATTERN_CHARS"])).map (·.name)) mean mg mb h₀) (hk : cs.kind = .function)
    (hm : (l, listOf us.toArray nn) ∈ news) (hD : DatAll l9 us (ts.map Token.dat)) (hs : ∀ p ∈ l9, p ∈ news) (hok : ∀ t ∈ ts, t.okay) (hlen : ts.length ≤ 7) (hd : dp + 1 < recursionLimit) (hu : un + 100 < cLine)
    (hret : ∀ t h' tk', Fr h₀ L h' m → News h₀ L h' news → Q (.str (S (written ts)) t) { s with heap := h', toks := tk' }) :
    wpAny (model PySem.Challenge.rw_ey0005_01.row.prog w) (ktrTop dp un gd cn cs L a ccd cl outer) (call (.ref 114) [.ref l]) Q E s := by
  w_top off
  revert X; k_fill; intro X
  refine wpAny_call ?_
  k_dflt cell_enter
  repeat' ((fail_if_success (with_reducible show wpAny _ _ (exec (Stmt.For _ _ _ _ _) _) _ _ _)); (fail_if_success (with_reducible show wpAny _ _ (pyIter _) _ _ _)); first | (k_unfold; (try dsimp only)) | (k_end; wrow_close) | walk1 | (dsimp only; walk1) | (leave1; walk_say "STEP leave1"; try dsimp only) | fail "no step")
  (with_unfolding_all refine' wpAny_For ?_ ?k1; (case k1 => (intro x9; rfl)))
  repeat' ((fail_if_success (with_reducible show wpAny _ _ (exec (Stmt.For _ _ _ _ _) _) _ _ _)); (fail_if_success (with_reducible show wpAny _ _ (pyIter _) _ _ _)); first | (k_unfold; (try dsimp only)) | (k_end; wrow_close) | walk1 | (dsimp only; walk1) | (leave1; walk_say "STEP leave1"; try dsimp only) | fail "no step")
  rename News _ _ _ _ => N9
  rename Fr _ _ _ _ => F9
  with_unfolding_all refine' lp_list (WJ news ts) rfl hm F9 N9 ?kj ?stay ?kE ?turn ?done
  case kE => passes_own
  case kj => exact ⟨_, rfl, rfl⟩
  case stay => rintro i m nx ⟨t, _, rfl⟩; exact hm
  case done =>
    clear F9 N9
    rintro m₁ nx h1 tk1 _ ⟨t, e1, rfl⟩ F1 N1
    have F1 := fr_knows [(Str.ofString "text", .str _ _)] F1 (forall1 e1)
    dsimp only [kstB] at F1
    repeat' ((fail_if_success (with_reducible show wpAny _ _ (exec (Stmt.For _ _ _ _ _) _) _ _ _)); (fail_if_success (with_reducible show wpAny _ _ (pyIter _) _ _ _)); first | (k_unfold; (try dsimp only)) | (k_end; wrow_close) | walk1 | (dsimp only; walk1) | (leave1; walk_say "STEP leave1"; try dsimp only) | fail "no step")
    rw [hD.length, List.length_map, List.take_length]
    exact hret _ _ _ (by k_asm) (by k_asm)
  case turn =>
    clear F9 N9
    rintro i v m₁ nx h1 tk1 own hv hoff ⟨t, e1, rfl⟩ htk F1 N1
    have F1 := fr_knows [(Str.ofString "text", .str _ _)] F1 (forall1 e1)
    dsimp only [kstB] at F1
    have hi : i < ts.length := by
      have := (List.getElem?_eq_some_iff.mp hv).1
      rw [hD.length, List.length_map] at this; exact this
    obtain ⟨v', hv1, hv2⟩ := hD.get (k := i) (by rw [List.length_map]; exact hi)
    rw [hv] at hv1
    cases hv1
    rw [List.getElem_map] at hv2
    have hp : ts[i].okay := hok _ (List.getElem_mem hi)
    have ht : written (ts.take (i + 1)) = written (ts.take i) ++ ts[i].text := by
      rw [List.take_add_one, List.getElem?_eq_getElem hi]
      exact written_snoc _ _
    have hT : (written (ts.take i)).length ≤ 1500 := by
      have h1 := written_len (ts := ts.take i) fun p hp => hok p (List.mem_of_mem_take hp)
      rw [List.length_take] at h1; omega
    generalize ts[i] = p at hv2 hp ht
    obtain ⟨c8, n8, t8, b8, k8, k7, t7, t6, t5, e1, e2, m1, m2⟩ | ⟨x8, t8, k8, t7, t6, e1, e2, m1⟩ := tok_open hv2 <;> subst e1 <;> subst e2 <;> have m1' := hs _ m1
    · have m2' := hs _ m2
      have hn := hp.2
      repeat' ((fail_if_success (with_reducible show wpAny _ _ (exec (Stmt.For _ _ _ _ _) _) _ _ _)); (fail_if_success (with_reducible show wpAny _ _ (pyIter _) _ _ _)); first | (k_unfold; (try dsimp only)) | (k_end; wrow_close) | walk1 | (dsimp only; walk1) | (leave1; walk_say "STEP leave1"; try dsimp only) | fail "no step")
      refine InvEndG.intro (by k_asm) (by k_asm) ⟨_, Eq.trans (b := some (Value.str (S _) _)) (by with_unfolding_all rfl) (congrArg (fun x => some (Value.str (S x) _)) ?_), rfl⟩ hoff (fun p hp => List.mem_append.mpr (.inl hp)) (fun p hp => List.mem_append.mpr (.inr hp))
      rw [ht]; rfl
    · have hx8 := hp.1
      have hx9 := hp.2
      have hy8 : (StrLaws.dbl 39 x8).length ≤ 200 := Nat.le_trans (dbl_len x8) (by omega)
      repeat' ((fail_if_success (with_reducible show wpAny _ _ (eval (Expr.ListComp _ _ _ _) _) _ _ _)); (fail_if_success (with_reducible show wpAny _ _ (pyIter _) _ _ _)); first | (k_unfold; (try dsimp only)) | (k_end; wrow_close) | walk1 | (dsimp only; walk1) | (leave1; walk_say "STEP leave1"; try dsimp only) | fail "no step")
      apply my_ListComp (keepSign fun c => decide (c ∈ lets)) sameSign
      case hclos => with_unfolding_all rfl
      case hcell => decide
      case hkind => with_unfolding_all rfl
      case hnames => decide
      case hx => with_unfolding_all rfl
      repeat' ((fail_if_success (with_reducible show wpAny _ _ (exec (Stmt.For _ _ _ _ _) _) _ _ _)); (fail_if_success (with_reducible show wpAny _ _ (pyIter _) _ _ _)); first | (k_unfold; (try dsimp only)) | (k_end; wrow_close) | walk1 | (dsimp only; walk1) | (leave1; walk_say "STEP leave1"; try dsimp only) | fail "no step")
      refine' my_src (q := fun c => decide (c ∈ lets)) ?k0 ?k1 ?k2 ?k3 ?g1 ?g2 ?g3
      case k0 => rfl
      case k1 => k_asm
      case k2 => k_asm
      case k3 => omega
      case g1 =>
        intro C c u s₂ m₂ E' hcy F2 hm2 hk2
        have hc8 := hx8 c hcy
        repeat' ((fail_if_success (with_reducible show wpAny _ _ (exec (Stmt.For _ _ _ _ _) _) _ _ _)); (fail_if_success (with_reducible show wpAny _ _ (pyIter _) _ _ _)); first | (k_unfold; (try dsimp only)) | (k_end; wrow_close) | walk1 | (dsimp only; walk1) | (leave1; walk_say "STEP leave1"; try dsimp only) | fail "no step")
        all_goals first | exact keeps_same | exact ⟨rfl, keeps_same⟩ | rfl
      case g2 =>
        intro C c u s₂ m₂ E' hcy F2 hm2
        repeat' ((fail_if_success (with_reducible show wpAny _ _ (exec (Stmt.For _ _ _ _ _) _) _ _ _)); (fail_if_success (with_reducible show wpAny _ _ (pyIter _) _ _ _)); first | (k_unfold; (try dsimp only)) | (k_end; wrow_close) | walk1 | (dsimp only; walk1) | (leave1; walk_say "STEP leave1"; try dsimp only) | fail "no step")
        all_goals first | exact keeps_same | exact ⟨⟨_, rfl⟩, keeps_same⟩ | exact ⟨_, rfl⟩
      case g3 =>
        intro D us n h' tk F3 N3 hs3
        have hf8 : ∀ c ∈ x8.filter (fun c => decide (c ∈ lets)), c < 128 := fun c hc => hx8 c (List.mem_filter.mp hc).1
        repeat' ((fail_if_success (with_reducible show wpAny _ _ (exec (Stmt.For _ _ _ _ _) _) _ _ _)); (fail_if_success (with_reducible show wpAny _ _ (pyIter _) _ _ _)); first | (k_unfold; (try dsimp only)) | (k_end; wrow_close) | walk1 | (dsimp only; walk1) | (leave1; walk_say "STEP leave1"; try dsimp only) | fail "no step")
        · rename List.filter _ x8 = [] => he
          have hany : x8.any (fun c => decide (c ∈ lets)) = false := by
            rw [List.any_eq_false]
            exact fun c hc => List.filter_eq_nil_iff.mp he c hc
          refine InvEndG.intro (by k_asm) (by k_asm) ⟨_, Eq.trans (b := some (Value.str (S _ ++ S _) _)) (by with_unfolding_all rfl) (congrArg (fun x => some (Value.str x _)) ?_), rfl⟩ hoff (fun p hp => by simp only [List.mem_cons, List.mem_append, hp, true_or, or_true]) (fun p hp => by simp only [List.mem_cons, List.mem_append, hp, true_or, or_true])
          rw [ht, S_append]
          show _ = S (_ ++ (if x8.any (fun c => decide (c ∈ lets)) then 39 :: (StrLaws.dbl 39 x8 ++ [39]) else x8))
          rw [hany]; rfl
        · rename ¬ List.filter _ x8 = [] => he
          have hany : x8.any (fun c => decide (c ∈ lets)) = true := by
            cases h : x8.any (fun c => decide (c ∈ lets)) with
            | true => rfl
            | false => exact absurd (List.filter_eq_nil_iff.mpr fun c hc => (List.any_eq_false.mp h) c hc) he
          refine InvEndG.intro (by k_asm) (by k_asm) ⟨_, Eq.trans (b := some (Value.str (S _) _)) (by with_unfolding_all rfl) (congrArg (fun x => some (Value.str (S x) _)) ?_), rfl⟩ hoff (fun p hp => by simp only [List.mem_cons, List.mem_append, hp, true_or, or_true]) (fun p hp => by simp only [List.mem_cons, List.mem_append, hp, true_or, or_true])
          rw [ht]
          show _ = _ ++ (if x8.any (fun c => decide (c ∈ lets)) then 39 :: (StrLaws.dbl 39 x8 ++ [39]) else x8)
          rw [hany]; simp only [if_true, List.append_assoc, List.singleton_append, List.cons_append, List.nil_append]
end Mine
end

section
open PySem PySem.W PySem.Spec PySem.Calls PyProof.Rows
set_option maxRecDepth 100000
set_option maxHeartbeats 8000000
namespace Mine

set_option pp.deepTerms false
set_option pp.deepTerms.threshold 12
/-- the table of a def's code: empty, or with the one generator expression's code -/
def TabOk (pos : Pos) (ps : Array Value) : Prop := ps = #[] ∨ ∃ c' : Addr, ps = #[rawInt pos.line, rawInt pos.col, .ref c']
theorem TabOk.triples {pos : Pos} {ps : Array Value} (h : TabOk pos ps) : TriplesOk ps.toList := by
  rcases h with rfl | ⟨c', rfl⟩
  · exact True.intro
  · exact True.intro
section
variable {prog : Program} {w : World} {A : Around} {E : Value → Shared → Prop} {s : Shared} {h₀ : Heap} {L c P : Addr} {m : Str → Option Value} {news : List (Addr × Obj)} {ps : Array Value} {g : Obj → List (Addr × Obj)} {p : Program} {loose : List Str} {mean : ExcName → Option Value} {mg mb : Str → Option Value}
/-- the code of the generator expression: made, or found -/
theorem gen_code {env : Env} {pos : Pos} {qn : Str} {scope : Scope} {Q : Value → Shared → Prop} (F : Fr h₀ L s.heap m) (N : News h₀ L s.heap news) (C : CodeHd h₀ c P) (U : UpdF P (tabObj ps) news g) (hps : TabOk pos ps) (hcode : env.code = .ref c)
    (h : ∀ c' ps' h' tk, TabOk pos ps' → Heap.ExtBut P s.heap h' → s.heap.objs.size ≤ h'.objs.size → h'.get? P = some (tabObj ps') → Q (.ref c') { s with heap := h', toks := tk }) : wpAny (model prog w) A (genexprCode env pos qn scope) Q E s := by
  obtain ⟨own, rest, rfl, hgr, h1, h2⟩ := U.split
  have hm := N (P, tabObj ps) (List.mem_append_right _ (.head _))
  have Cs := C.keeps F.keep
  rcases hps with rfl | ⟨c', rfl⟩
  · refine wpAny_genexprCodeX hcode (Cs.code hm.1 True.intro) (Cs.tab hm.1) rfl fun c' h' tk hx hge hlt _ _ htb _ => ?_
    exact h c' _ h' tk (.inr ⟨c', rfl⟩) hx (Nat.le_trans hge (Nat.le_of_lt hlt)) htb.2
  · refine wpAny_genexprCode_hit hcode (Cs.code hm.1 True.intro) (c' := .ref c') ?_ ?_
    · simp [codeAmong, rawInt]
    · exact h c' _ s.heap s.toks (.inr ⟨c', rfl⟩) (fun b o _ e => e) (Nat.le_refl _) hm.1
theorem genexp_K {env : Env} {elt iter : Expr} {xn : Str} {px pos : Pos} {scope : Scope} {cl : List (Str × Addr)} {x : List Nat} {t : Tok} {q : Nat → Bool} {Q : Value → Shared → Prop}
    (F : Fr h₀ L s.heap m) (N : News h₀ L s.heap news) (T : Top p loose mean mg mb h₀) (C : CodeHd h₀ c P) (U : UpdF P (tabObj ps) news g) (hps : TabOk pos ps) (G : AllBare s.gens)
    (hcode : env.code = .ref c) (hge : env.globals = mainGlobals)
    (hh : A.handled = none) (hco : scope.isCoroutine = false) (hclos : closureFor scope env = pure cl) (hcell : ∀ y ∈ scope.names, y.2 ≠ .cell) (h0 : scope.names.lookup (".0" : Str) = some NameKind.local)
    (hx : scope.names.lookup xn = some .local) (hkind : scope.kind = .function) (hroom : A.depth < recursionLimit)
    (hiter : ∀ (Q' : Value → Shared → Prop), Q' (.str (S x) t) s → wpAny (model prog w) A (eval iter env) Q' E s)
    (helt : ∀ (code : Value) (C : Addr) (A' : Around) (E' : Value → Shared → Prop) c₀ u (s₂ : Shared) m₂, A'.handled = none → A'.depth ≤ A.depth + 1 → A'.units ≤ A.units + 8 → c₀ ∈ x → Fr h₀ C s₂.heap m₂ → m₂ xn = some (.str (⟨#[c₀]⟩ : Str) u) →
      wpAny (model prog w) A' (eval elt (genEnv scope cl C code builtinsNs env)) (fun y s₃ => y = .bool (q c₀) ∧ Keeps s₂ s₃) E' s₂)
    (h : ∀ a K ps' h' tk gs, TabOk pos ps' → Fr h₀ L h' m → News h₀ L h' (g (tabObj ps')) → AllBare gs → L ≤ K → (∀ b ∈ g (tabObj ps'), b.1 ≤ K) →
      Gen prog w A K a x.length (fun i v => ∃ c, x[i]? = some c ∧ v = .bool (q c)) { s with heap := h', toks := tk, gens := gs } → Q (.ref a) { s with heap := h', toks := tk, gens := gs })
    (hs : ∀ x, genFold iter env x = pure x) :
    wpAny (model prog w) A (eval (.GeneratorExp elt [⟨.Name xn px, iter, [], 0⟩] scope pos) env) Q E s := by
  refine wpAny_GeneratorExp_walksQD hh hco hclos hcell h0 hx hkind hroom (hiter _ (wpAny_pyIter_str fun o St W hst => ?_)) hs
  have hsL : L < s.heap.objs.size := F.ns.lt
  have hlim : (s.heap.push o).NoLimit := (T.nolimit.keeps F.keep).push o
  have F₂ : Fr h₀ L (s.heap.push o) m := F.push o
  have N₂ : News h₀ L (s.heap.push o) news := N.grown fun b o e => Heap.get?_push_of_some _ e
  have hszp : (s.heap.push o).objs.size = s.heap.objs.size + 1 := Heap.size_push ..
  refine ⟨hlim, gen_code (s := { s with heap := s.heap.push o }) F₂ N₂ C U hps hcode fun c' ps' h₃ tk₃ hps' hx₃ hsz hP₃ => ?_⟩
  obtain ⟨own, rest, rfl, hgr, h1, h2⟩ := U.split
  have hm := N (P, tabObj ps) (List.mem_append_right _ (.head _))
  have hm₂ := N₂ (P, tabObj ps) (List.mem_append_right _ (.head _))
  have hPlt : P < s.heap.objs.size := Heap.lt_size hm.1
  have hPI : P ≠ s.heap.objs.size := Nat.ne_of_lt hPlt
  have htab : (s.heap.push o).TableAt c P ps := (C.keeps F₂.keep).tab hm₂.1
  obtain ⟨bm, ob, M⟩ := bmod_of_top T
  have M₃ : BMod h₃ mainGlobals mg bm ob := (M.keeps F₂.keep).extBut htab hx₃
  have hcP : cStatics ≠ P := fun e => by
    obtain ⟨_, hns, _⟩ := hlim
    obtain ⟨o, es, ep, ho, hd, _⟩ := hns
    rw [e, hm₂.1] at ho; cases ho; cases hd
  have hl₃ : h₃.NoLimit := hlim.extBut hx₃ hcP
  have hcs : cStatics < s.heap.objs.size := let ⟨_, hn, _⟩ := T.nolimit.keeps F.keep; hn.lt
  rw [hge]
  refine wpAny_builtinsFor M₃.ns M₃.name M₃.ne M₃.obj M₃.cls M₃.dict M₃.data ?_
  have sz3 : s.heap.objs.size < h₃.objs.size := Nat.lt_of_lt_of_le (by show s.heap.objs.size < (s.heap.push o).objs.size; rw [hszp]; exact Nat.lt_succ_self _) hsz
  have keep₃ : ∀ b o', h₀.get? b = some o' → h₃.get? b = some o' := fun b o' e => hx₃ b o' (fun q => by rw [q, hm.2.2] at e; cases e) (F₂.keep b o' e)
  have F₃ : Fr h₀ L h₃ m := ⟨F₂.ns.extBut hx₃ hm.2.1.symm, keep₃, F.above⟩
  have N₃ : News h₀ L h₃ (g (tabObj ps')) := fun b hb => by
    rw [hgr] at hb
    rcases List.mem_append.mp hb with hb | hb
    · have n := N₂ b (List.mem_append_left _ hb)
      exact ⟨hx₃ _ _ (h1 b hb) n.1, n.2⟩
    · rcases List.mem_cons.mp hb with rfl | hb
      · exact ⟨hP₃, hm.2⟩
      · have n := N₂ b (List.mem_append_right _ (.tail _ hb))
        exact ⟨hx₃ _ _ (h2 b hb) n.1, n.2⟩
  have hlen : (S x).cps.size = x.length := List.size_toArray
  have hpass : passing (fun _ => true) (S x).cps.size 0 = List.range x.length := by
    rw [hlen]; unfold passing; rw [List.drop_zero]
    exact List.filter_eq_self.mpr fun _ _ => rfl
  refine ⟨s.heap.objs.size, [s.heap.objs.size], [s.heap.objs.size], (S x).cps.size, SignAt (S x), St, (fun _ => true), (fun i v => ∃ c, x[i]? = some c ∧ v = .bool (q c)), rfl, W,
    (W A hh).frame _ _ _ hst (fun b hb o' e => hx₃ b o' (fun e' => hPI ((List.mem_singleton.mp hb ▸ e').symm)) e), (fun b hb => ?_), hl₃, ?_, (fun href hhref => ⟨?_, ?_⟩), fun a h₅ tk gs hgb hag hsz₅ hk₅ W' hat => ?_⟩
  · rw [List.mem_singleton.mp hb]; exact sz3
  · intro hmem
    exact absurd (List.mem_singleton.mp hmem) (Nat.ne_of_lt hcs)
  · intro A' E' i v s₂ m₂ _ _ _ _ _ _ _
    exact wpAny_tests_nil ⟨rfl, keeps_same⟩
  · intro A' E' i v s₂ m₂ hA hD hU hPv _ hn hmx hkp
    obtain ⟨c₀, u, hc₀, rfl⟩ := hPv
    have F' : Fr h₀ h₃.objs.size s₂.heap m₂ := by
      refine ⟨hn, fun b o' e => ?_, Nat.le_trans F.above (Nat.le_of_lt (Nat.lt_trans hsL sz3))⟩
      have hb3 := keep₃ b o' e
      refine hkp b (List.mem_range.mpr (Heap.lt_size hb3)) (fun q => ?_) o' (hhref b o' hb3)
      rw [List.mem_singleton.mp q] at e
      exact absurd (Nat.lt_of_lt_of_le (Heap.lt_size e) F.above) (Nat.lt_asymm hsL)
    refine wpAny_mono (helt (.ref c') _ A' E' c₀ u s₂ m₂ hA hD hU (mem_at hc₀) F' hmx) (fun y s₃ hy => ⟨⟨c₀, ?_, hy.1⟩, hy.2⟩) fun _ _ e => e
    have h9 : x.toArray[i]? = some c₀ := hc₀
    rw [List.getElem?_toArray] at h9
    exact h9
  · have hfun : (fun j y => ∃ i, (passing (fun _ => true) (S x).cps.size 0)[j]? = some i ∧ ∃ c : Nat, x[i]? = some c ∧ y = Value.bool (q c)) = fun (i : Nat) (v : Value) => ∃ c : Nat, x[i]? = some c ∧ v = .bool (q c) := by
      funext j y
      rw [hpass]
      refine propext ⟨?_, ?_⟩
      · rintro ⟨i, hi, r⟩
        rw [List.getElem?_range] at hi
        · injection hi with hi; rw [hi]; exact r
        · by_cases hj : j < x.length
          · exact hj
          · rw [List.getElem?_eq_none (by rw [List.length_range]; omega)] at hi; cases hi
      · rintro ⟨c, hc, r⟩
        exact ⟨j, List.getElem?_range (List.getElem?_eq_some_iff.mp hc).1, c, hc, r⟩
    have hplen : (passing (fun _ => true) (S x).cps.size 0).length = x.length := by rw [hpass, List.length_range]
    rw [hfun, hplen] at W'
    refine h a (s.heap.objs.size - 1) ps' h₅ tk _ hps' (F₃.keeps hk₅) (N₃.grown hk₅) (G.push hgb) (Nat.le_sub_one_of_lt hsL) (fun b hb => ?_) ⟨_, _, _, _, W', hat, (fun i s' st => st.1.typeIs), List.mem_cons_self, ?_, ?_⟩
    · rw [hgr] at hb
      refine Nat.le_sub_one_of_lt ?_
      rcases List.mem_append.mp hb with hb | hb
      · exact Heap.lt_size (N b (List.mem_append_left _ hb)).1
      · rcases List.mem_cons.mp hb with rfl | hb
        · exact hPlt
        · exact Heap.lt_size (N b (List.mem_append_right _ (.tail _ hb))).1
    · intro b hb
      show b < h₅.objs.size
      rw [hsz₅]
      rcases List.mem_cons.mp hb with rfl | hb
      · exact Nat.lt_succ_self _
      · rcases List.mem_cons.mp hb with rfl | hb
        · exact Nat.lt_succ_of_lt hag
        · exact Nat.lt_succ_of_lt (Nat.lt_trans (List.mem_range.mp hb) hag)
    · intro b hb
      rcases List.mem_cons.mp hb with rfl | hb
      · have h8 : s.heap.objs.size < h₃.objs.size := sz3
        exact Nat.lt_of_le_of_lt (Nat.sub_le _ _) h8
      · rw [List.mem_singleton.mp hb]; exact Nat.sub_lt (Nat.lt_of_le_of_lt (Nat.zero_le _) hsL) Nat.one_pos
section
variable {K : Frag} {scope : Scope} {cl : List (Str × Addr)} {C : Addr} {code : Value} {env : Env} {m₂ : Str → Option Value} {x : Str} {pos : Pos} {v : Value} {Q : Value → Shared → Prop}
theorem gen_own (F : Fr h₀ C s.heap m₂) (hx : m₂ x = some v) (h : Q v s)
    (hk : (genEnv scope cl C code builtinsNs env).scope.kind = .function := by rfl) (hl : (genEnv scope cl C code builtinsNs env).kindOf x = some .local := by rfl) (hd : (x == ("__debug__" : Str)) = false := by decide) :
    wpAny (model prog w) A (eval (.Name x pos) (genEnv scope cl C code builtinsNs env)) Q E s := wpAny_Name (wpAny_loadName_local hk hl F.ns hx h) hd
theorem gen_global (F : Fr h₀ C s.heap m₂) (X : K.In h₀) (T : Top p loose mean mg mb h₀) (e : nsIn K mainGlobals x = some (some v)) (h : Q v s) (hg : env.globals = mainGlobals := by rfl)
    (hk : (genEnv scope cl C code builtinsNs env).scope.kind = .function := by rfl) (hx : (genEnv scope cl C code builtinsNs env).kindOf x = some .globalImplicit := by rfl) (hd : (x == ("__debug__" : Str)) = false := by decide) :
    wpAny (model prog w) A (eval (.Name x pos) (genEnv scope cl C code builtinsNs env)) Q E s :=
  Name_function_global hk hx (loadGlobal_global (env := genEnv scope cl C code builtinsNs env) (show s.heap.Ns env.globals mg from hg ▸ (T.keeps F.keep).g) (mg_of X T.g e) h) hd
end
/-- any over the generator -/
theorem any_K {a K : Addr} {x : List Nat} {q : Nat → Bool} {Q : Value → Shared → Prop} (F : Fr h₀ L s.heap m) (N : News h₀ L s.heap news) (G : AllBare s.gens) (hLK : L ≤ K) (hn : ∀ b ∈ news, b.1 ≤ K)
    (X : Gen prog w A K a x.length (fun i v => ∃ c, x[i]? = some c ∧ v = .bool (q c)) s)
    (h : ∀ h' tk gs, Fr h₀ L h' m → News h₀ L h' news → AllBare gs → Q (.bool (x.any q)) { s with heap := h', toks := tk, gens := gs }) : wpAny (model prog w) A (call (.builtin "any") [.ref a]) Q E s := by
  obtain ⟨fp, wr, gg, St, W, hst, _, _, hfp, hwr⟩ := X
  have W := W.in4_1
  refine call_any_walkS (W.self 0 _ _ _ hst ⟨a, _, _, _, _, _, _, (fun j => match x[j]? with | some c => q c | none => false), rfl, W, hst, (fun i v s' Q' E' hv hQ => ?_), fun s' hm => ?_⟩)
  · obtain ⟨c, hc, rfl⟩ := hv
    simp only [hc] at hQ
    exact wpAny_truthy_bool hQ
  · have e : ((List.range x.length).any fun j => match x[j]? with | some c => q c | none => false) = x.any q := by
      rw [Bool.eq_iff_iff, List.any_eq_true, List.any_eq_true]
      constructor
      · rintro ⟨j, hj, hq⟩
        have hj := List.mem_range.mp hj
        rw [List.getElem?_eq_getElem hj] at hq
        exact ⟨x[j], List.getElem_mem hj, hq⟩
      · rintro ⟨c, hc, hq⟩
        obtain ⟨j, hj, e⟩ := List.mem_iff_getElem.mp hc
        exact ⟨j, List.mem_range.mpr hj, by rw [List.getElem?_eq_getElem hj, e]; exact hq⟩
    rw [e]
    have hs' : s' = { s with heap := s'.heap, toks := s'.toks, gens := s'.gens } := by
      have h1 := hm.drawn; have h2 := hm.os
      cases s'; cases s
      simp only at h1 h2
      subst h1; subst h2; rfl
    rw [hs']
    refine h _ _ _ (F.moved hm fun b hb => Nat.lt_of_le_of_lt hLK (hwr b hb)) (fun b hb => ⟨hm.heap _ _ (fun hmem => ?_) (N b hb).1, (N b hb).2⟩) (G.movedS hm)
    exact absurd (hwr _ hmem) (Nat.not_lt.mpr (hn b hb))
end
end Mine
end

section
open PySem PySem.W PySem.Spec PySem.Calls PyProof.Rows
set_option maxRecDepth 100000
set_option maxHeartbeats 8000000
namespace Mine

section
variable {prog : Program} {w : World} {A : Around} {E : Value → Shared → Prop} {s : Shared} {env : Env} {h₀ : Heap} {x : Str} {body : List Stmt} {Q : Flow → Shared → Prop}
/-- the end of a turn that goes on; generators may have been made -/
def TurnEndG (h₀ : Heap) (L : Addr) (J : (Str → Option Value) → List (Addr × Obj) → Prop) (own : List (Addr × Obj)) (s₁ : Shared) (f : Flow) (s₂ : Shared) : Prop :=
  match f with
  | .next => ∃ h' tk' gs m' news nx, s₂ = { s₁ with heap := h', toks := tk', gens := gs } ∧ AllBare gs ∧ Fr h₀ L h' m' ∧ News h₀ L h' news ∧ (∀ p ∈ nx, p ∈ news) ∧ (∀ p ∈ own, p ∈ news) ∧ OwnOff own (nx.map (·.1)) ∧ J m' nx
  | _ => False
theorem loop_coreG {target : Expr} {I : Addr} {fp : List Addr} {n : Nat} {P : Nat → Value → Prop} {St : Nat → Heap → Prop} {m₀ : Str → Option Value} {news : List (Addr × Obj)} (J : Nat → (Str → Option Value) → List (Addr × Obj) → Prop)
    (W : Walks prog w A I fp [I] n P St) (hLf : env.locals ∉ fp) (hI : h₀.get? I = none) (hfp : ∀ b ∈ fp, b = I ∨ ∃ o, ∀ i m nx, J i m nx → (b, o) ∈ nx) (hIf : I ∈ fp) (hob : ∀ i h, St i h → ∃ o, h.get? I = some o)
    (hnew : ∀ p ∈ news, p.1 ≠ I) (hst : St 0 s.heap) (F : Fr h₀ env.locals s.heap m₀) (N : News h₀ env.locals s.heap news)
    (hgo : ∀ i (s' : Shared) v (Q' : Unit → Shared → Prop), St i s'.heap → Q' () s' → wpAny (model prog w) A (letOwnedTupleGo target (.ref I) v) Q' E s') (hj : J 0 m₀ news) (hE : PassesOwn (model prog w) A env E) (G : AllBare s.gens)
    (turn : ∀ i v m₁ nx h tk gs own, i < n → P i v → AllBare gs → OwnOff own (nx.map (·.1)) → J i m₁ nx → s.toks ≤ tk → Fr h₀ env.locals h m₁ → News h₀ env.locals h (nx ++ own) →
      wpAny (model prog w) A (assign target env v) (fun _ s₃ => wpAny (model prog w) A (execs body env) (TurnEndG h₀ env.locals (J (i + 1)) own { s with heap := h, toks := tk, gens := gs }) E s₃) E { s with heap := h, toks := tk, gens := gs })
    (done : ∀ m₁ nx h tk gs, AllBare gs → s.toks ≤ tk → J n m₁ nx → Fr h₀ env.locals h m₁ → News h₀ env.locals h nx → Q .next { s with heap := h, toks := tk, gens := gs }) :
    codeAny (model prog w) A (.forLoop target (.ref I) body [] env) (fun r s' => match r with | .ok f => Q f s' | .error e => cameBackBy (model prog w) A env E e s') s := by
  have old : ∀ b o, h₀.get? b = some o → b ∉ [I] := fun b o e hb => by rw [List.mem_singleton.mp hb, hI] at e; cases e
  refine codeAny_forLoop_any (R := fun r s' => match r with | .ok f => Q f s' | .error e => cameBackBy (model prog w) A env E e s')
    (fun k s' => ∃ h' tk gs m' nx i, s' = { s with heap := h', toks := tk, gens := gs } ∧ AllBare gs ∧ St i h' ∧ Fr h₀ env.locals h' m' ∧ News h₀ env.locals h' nx ∧ (∀ p ∈ nx, p.1 ≠ I) ∧ J i m' nx ∧ s.toks ≤ tk ∧ i ≤ n ∧ k = n + 1 - i) ?_ (n + 1)
    ⟨s.heap, s.toks, s.gens, m₀, news, 0, rfl, G, hst, F, N, hnew, hj, Nat.le_refl _, Nat.zero_le _, rfl⟩
  rintro k s' ⟨h', tk, gs, m', nx, i, rfl, hgs, st, F', N', off', j, htk, hi, rfl⟩
  have keep : ∀ h₁ : Heap, (∀ b o, b ∉ [I] → h'.get? b = some o → h₁.get? b = some o) → Fr h₀ env.locals h₁ m' ∧ News h₀ env.locals h₁ nx := fun h₁ k₁ =>
    ⟨⟨F'.ns.at' fun o e => k₁ _ o (fun h => hLf (W.sub _ h)) e, fun b o e => k₁ b o (old b o e) (F'.keep b o e), F'.above⟩,
     fun p hp => ⟨k₁ _ _ (fun h => off' p hp (List.mem_singleton.mp h)) (N' p hp).1, (N' p hp).2⟩⟩
  by_cases hlt : i < n
  · refine wpAny_passesOwn hE (wpAny_with_toks (n := s.toks) htk (W.item i _ _ _ hlt st fun v h₁ tk₁ hP st₁ k₁ ht₁ => ?_))
    obtain ⟨F₁, N₁⟩ := keep h₁ k₁
    obtain ⟨oI, hoI⟩ := hob _ _ st₁
    have N₂ : News h₀ env.locals h₁ (nx ++ [(I, oI)]) := fun p hp => by
      rcases List.mem_append.mp hp with h | h
      · exact N₁ p h
      · rw [List.mem_singleton.mp h]
        exact ⟨hoI, fun e => hLf (e ▸ hIf), hI⟩
    have off₁ : OwnOff [(I, oI)] (nx.map (·.1)) := by
      intro p hp b hb e
      obtain ⟨q, hq, rfl⟩ := List.mem_map.mp hb
      rw [List.mem_singleton.mp hp] at e
      exact off' q hq e.symm
    refine wpAny_passesOwn hE (hgo (i + 1) _ v _ st₁ ?_)
    refine wpAny_passesOwn hE (wpAny_mono (wpAny_with_toks (n := s.toks) (Q := fun _ s₃ => wpAny (model prog w) A (execs body env) (fun f s₂ => s.toks ≤ s₂.toks ∧ TurnEndG h₀ env.locals (J (i + 1)) [(I, oI)] { s with heap := h₁, toks := tk₁, gens := gs } f s₂) E s₃) ht₁
      (wpAny_mono (turn i v m' nx h₁ tk₁ gs [(I, oI)] hlt hP hgs off₁ j ht₁ F₁ N₂) (fun _ s₃ h₃ ht₃ => wpAny_mono (wpAny_toks_of ht₃ h₃) (fun _ _ x => x) fun _ _ x => x.2) fun _ _ x _ => x))
      (fun _ s₃ h₃ => wpAny_passesOwn hE (wpAny_mono h₃ (fun f s₂ h₂ => ?_) fun _ _ x => x)) fun _ _ x => x)
    obtain ⟨ht₂, h₂⟩ := h₂
    cases f with
    | next =>
      obtain ⟨h₃, tk₃, gs₃, m₂, news₂, nx₂, rfl, hgs₃, F₂, N₃, hn, ho, ha, j₂⟩ := h₂
      refine ⟨n + 1 - (i + 1), by omega, h₃, tk₃, gs₃, m₂, nx₂, i + 1, rfl, hgs₃, ?_, F₂, fun p hp => N₃ p (hn p hp), ?_, j₂, ht₂, hlt, rfl⟩
      · refine W.frame _ _ _ st₁ fun b hb o e => ?_
        rcases hfp b hb with rfl | ⟨o', ho'⟩
        · rw [hoI] at e; cases e
          exact (N₃ _ (ho _ (List.mem_singleton.mpr rfl))).1
        · have e1 := (N₁ _ (ho' _ _ _ j)).1
          rw [e1] at e; cases e
          exact (N₃ _ (hn _ (ho' _ _ _ j₂))).1
      · intro p hp e
        exact ha _ (List.mem_singleton.mpr rfl) p.1 (List.mem_map.mpr ⟨p, hp, rfl⟩) e.symm
    | brk => exact h₂.elim
    | cont => exact h₂.elim
    | ret v => exact h₂.elim
  · have hin : i = n := by omega
    subst hin
    refine wpAny_passesOwn hE (wpAny_with_toks (n := s.toks) htk (W.done _ _ _ st fun h₁ tk₁ k₁ ht₁ => wpAny_execs_nil ?_))
    obtain ⟨F₁, N₁⟩ := keep h₁ k₁
    exact done m' nx h₁ tk₁ gs hgs ht₁ j F₁ N₁

theorem lp_listG {target : Expr} {l : Addr} {vs : List Value} {nn : Nat} {m₀ : Str → Option Value} {news : List (Addr × Obj)} (J : Nat → (Str → Option Value) → List (Addr × Obj) → Prop)
    (hh : A.handled = none) (G : AllBare s.gens) (hl : (l, listOf vs.toArray nn) ∈ news) (F : Fr h₀ env.locals s.heap m₀) (N : News h₀ env.locals s.heap news) (hj : J 0 m₀ news)
    (stays : ∀ i m nx, J i m nx → (l, listOf vs.toArray nn) ∈ nx) (hE : PassesOwn (model prog w) A env E)
    (turn : ∀ i v m₁ nx h tk gs own, vs[i]? = some v → AllBare gs → OwnOff own (nx.map (·.1)) → J i m₁ nx → s.toks ≤ tk → Fr h₀ env.locals h m₁ → News h₀ env.locals h (nx ++ own) →
      wpAny (model prog w) A (assign target env v) (fun _ s₃ => wpAny (model prog w) A (execs body env) (TurnEndG h₀ env.locals (J (i + 1)) own { s with heap := h, toks := tk, gens := gs }) E s₃) E { s with heap := h, toks := tk, gens := gs })
    (done : ∀ m₁ nx h tk gs, AllBare gs → s.toks ≤ tk → J vs.length m₁ nx → Fr h₀ env.locals h m₁ → News h₀ env.locals h nx → Q .next { s with heap := h, toks := tk, gens := gs }) :
    wpAny (model prog w) A (pyIter (.ref l)) (fun it s₂ => codeAny (model prog w) A (.forLoop target it body [] env) (fun r s' => match r with | .ok f => Q f s' | .error e => cameBackBy (model prog w) A env E e s') s₂) E s := by
  have ol := (N _ hl).1
  have isl : s.heap.IsList l vs.toArray := ⟨_, ol, rfl, nn, rfl⟩
  have ne : l ≠ s.heap.objs.size := Nat.ne_of_lt (Heap.lt_size ol)
  refine wpAny_pyIter_list isl ?_
  refine loop_coreG J (Walks.list hh s.heap.objs.size l ne vs.toArray) ?_ (next_is_new F) ?_ (by simp) ?_ (fun p hp e => absurd (Heap.lt_size (N p hp).1) (e ▸ Nat.lt_irrefl _))
    ⟨⟨_, Heap.get?_push_size _ rfl, rfl, rfl⟩, isl.at fun o e => Heap.get?_push_of_some _ e⟩ (F.push _) (fun p hp => ⟨Heap.get?_push_of_some _ (N p hp).1, (N p hp).2⟩) (fun i s' v Q' st hQ' => letGo_listiter st.1 hQ') hj hE G ?_ ?_
  · intro hm
    simp only [List.mem_cons, List.not_mem_nil, or_false] at hm
    rcases hm with e | e
    · exact absurd F.ns.lt (e ▸ Nat.lt_irrefl _)
    · exact (N _ hl).2.1 e.symm
  · intro b hb
    simp only [List.mem_cons, List.not_mem_nil, or_false] at hb
    rcases hb with e | e
    · exact .inl e
    · exact .inr ⟨_, by rw [e]; exact stays⟩
  · rintro i h ⟨⟨o, ho, _⟩, _⟩
    exact ⟨o, ho⟩
  · intro i v m₁ nx h tk gs own _ hP
    exact turn i v m₁ nx h tk gs own (by simpa using hP)
  · rw [List.size_toArray]
    exact done

end
end Mine
end

section
open PySem PySem.W PySem.Spec PySem.Calls PyProof.Rows
set_option maxRecDepth 100000
set_option maxHeartbeats 8000000
namespace Mine

section
variable {prog : Program} {w : World} {A : Around} {E : Value → Shared → Prop} {s : Shared} {z : List Nat} {t u : Tok} {Q : Value → Shared → Prop}
theorem mod_q (hl : z.length ≤ 1000) (h : ∀ t' k, Q (.str (S (39 :: (z ++ [39]))) t') { s with toks := k }) : wpAny (model prog w) A (binaryOp .Mod (.str (Str.ofString "'%s'") t) (.str (S z) u)) Q E s := by
  refine' KPc.mod_str ?kpcF ?kpcl ?kpcm ?_
  case kpcF => kpc_eq
  case kpcl => rw [S_length]; omega
  case kpcm => k_dflt kpc_run_s
  intro t' k
  rw [lit_q, S_append, S_append]
  exact h t' k
end
end Mine
end

section
open PySem PySem.W PySem.Spec PySem.Calls PyProof.Rows
set_option maxRecDepth 100000
set_option maxHeartbeats 8000000
namespace Mine
local macro_rules | `(tactic| walk_at "mine none") => `(tactic| fail)
local macro_rules | `(tactic| walk_at "mine none") => `(tactic| fail)

set_option pp.deepTerms false
set_option pp.deepTerms.threshold 12
local macro_rules | `(tactic| k_updF) => `(tactic| first
  | with_reducible assumption
  | with_reducible exact List.mem_cons_self
  | (with_reducible refine List.mem_cons_of_mem _ ?_; k_updF)
  | (with_reducible refine List.mem_append.mpr (Or.inr ?_); k_updF)
  | (with_reducible refine List.mem_append.mpr (Or.inl ?_); k_updF))
local macro_rules | `(tactic| k_mem) => `(tactic| k_updF)
local macro_rules | `(tactic| walk_at "execs cons") => `(tactic| (with_reducible refine gen_toks ?_; intro tk9 htk9))
local macro_rules | `(tactic| walk_at "execs nil") => `(tactic| (with_reducible refine gen_toks ?_; intro tk9 htk9))
local macro_rules | `(tactic| walk_at "binaryOp Add str str") => `(tactic| (
  refine' add_S ?k0 ?k1 ?k2 ?k3 ?_; (case k0 => first | assumption | exact Nat.succ_ne_zero _); (case k1 => first | exact lit_q | exact rfl); (case k2 => first | exact lit_q | exact rfl); (case k3 => ((try simp only [List.length_append, List.length_cons, List.length_nil, List.length_replicate]); omega)); intro t9 k9 hk9))
local macro_rules | `(tactic| walk_at "binaryOp Mult str int") => `(tactic| (refine' mul_S ?k0 ?k1 ?k2 ?_; (case k0 => first | assumption | exact Nat.succ_ne_zero _); (case k1 => omega); (case k2 => omega); intro t9 k9 hk9))
local macro_rules | `(tactic| walk_at "call builtin:str.replace") => `(tactic| (refine' rep_q ?k0 ?k1 ?k2 ?k3 ?k4 ?_; (case k0 => first | assumption | exact Nat.succ_ne_zero _); (case k1 => first | assumption | exact Nat.succ_ne_zero _); (case k2 => exact Nat.succ_ne_zero _); (case k3 => exact Nat.ne_of_lt (Nat.lt_succ_self _)); (case k4 => omega); intro t9 k9 hk9))

abbrev gpos : Pos := ⟨55, 23, 55, 64⟩
/-- between the turns of untokenize_pattern -/
def UJ (oa : Addr) (news : List (Addr × Obj)) (ts : List Token) (i : Nat) (m : Str → Option Value) (nx : List (Addr × Obj)) : Prop :=
  ∃ outs n ps, m (Str.ofString "output") = some (.ref oa) ∧ TabOk gpos ps ∧ StrsAre outs ((ts.take i).map fun t => S t.text) ∧ nx = (oa, listOf outs.toArray n) :: (69, tabObj ps) :: news
theorem two_off {oa : Addr} {news : List (Addr × Obj)} (h1 : ∀ p ∈ news, p.1 < oa) (h2 : OwnOff news [69]) : ∀ p ∈ news ++ [], ∀ a ∈ [oa, 69], p.1 ≠ a := by
  intro p hp a ha
  rw [List.append_nil] at hp
  rcases List.mem_cons.mp ha with rfl | ha
  · exact Nat.ne_of_lt (h1 p hp)
  · exact h2 p hp a ha
theorem ug_end {g h' : Heap} {L oa : Addr} {m' : Str → Option Value} {news own Z news' : List (Addr × Obj)} {ts : List Token} {i n tk : Nat} {s₁ : Shared} {xs ps : Array Value} {outs : List Value} {gs : Array GenState}
    (F : Fr g L h' m') (N : News g L h' news') (K : Ck news [] own Z [oa, 69]) (G : AllBare gs) (e1 : m' (Str.ofString "output") = some (.ref oa)) (m1 : (oa, listOf xs n) ∈ news') (q1 : xs = outs.toArray) (m2 : (69, tabObj ps) ∈ news') (hps : TabOk gpos ps) (hsub : ∀ p ∈ Z, p ∈ news')
    (hS : StrsAre outs ((ts.take (i + 1)).map fun t => S t.text)) : TurnEndG g L (UJ oa news ts (i + 1)) own s₁ .next { s₁ with heap := h', toks := tk, gens := gs } := by
  subst q1
  refine ⟨h', tk, gs, m', news', (oa, listOf outs.toArray n) :: (69, tabObj ps) :: news, rfl, G, F, N, fun p hp => ?_, fun p hp => hsub p (K.o p hp), fun q hq b hb => ?_, outs, n, ps, e1, hps, hS, rfl⟩
  · rcases List.mem_cons.mp hp with rfl | hp
    · exact m1
    rcases List.mem_cons.mp hp with rfl | hp
    · exact m2
    · exact hsub p (K.d p (List.mem_append.mpr (.inl hp)))
  · rcases List.mem_cons.mp hb with rfl | hb
    · exact K.off q (K.o q hq) _ (.head _)
    rcases List.mem_cons.mp hb with rfl | hb
    · exact K.off q (K.o q hq) _ (.tail _ (.head _))
    · exact K.ap q hq b (by rw [List.append_nil]; exact hb)
local macro_rules | `(tactic| walk_at "call builtin:str.join") => `(tactic| (refine' join_S ?k0 ?k1 ?k2 ?k3 ?k4 ?_; (case k0 => first | assumption | exact Nat.succ_ne_zero _); (case k1 => k_asm); (case k2 => k_mem); (case k3 => assumption); (case k4 => omega); intro t9 k9 hk9))
local macro_rules | `(tactic| walk_at "call builtin:list.append") => `(tactic| (k_here; (with_reducible show wpAny _ _ (call (Value.builtin _) [Value.ref _, _]) _ _ _); k_dflt (refine' append_K ?k1 ?k2 ?k3 ?_ ?z; (case k1 => k_asm); (case k2 => k_asm); (case k3 => k_upd); (case z => (simp only [List.size_toArray, List.length_append, List.length_cons, List.length_nil, PySem.sizeLine_eq]; omega)); k_whole); intro h' F' N'; (try k_sweep)))
local macro_rules | `(tactic| walk_at "eval Name") => `(tactic| ((with_reducible show wpAny _ _ (eval (Expr.Name _ _) (genEnv _ _ _ _ _ _)) _ _ _); k_dflt (first
  | refine gen_own (by assumption) (by assumption) ?_
  | refine gen_global (by assumption) (by k_asm) (by k_asm) (by k_is) ?_)))
local macro_rules | `(tactic| walk_at "compareOp In str ref") => `(tactic| (refine' in_pat ?k1 ?k2 ?_; (case k1 => k_asm); (case k2 => k_asm); intro k9; (try dsimp only)))
local macro_rules | `(tactic| walk_at "call builtin:any") => `(tactic| (refine' any_K ?k1 ?k2 ?k3 ?k4 ?k5 ?k6 ?_; (case k1 => k_asm); (case k2 => k_asm); (case k3 => assumption); (case k4 => assumption); (case k5 => assumption); (case k6 => assumption); intro h' tk' gs' F' N' G'; (try k_sweep)))
local macro_rules | `(tactic| walk_at "binaryOp Mod str str") => `(tactic| (refine' mod_q ?k1 ?_; (case k1 => omega); intro t9 k9))
theorem untokenize_c {w : World} {mean : ExcName → Option Value} {mg mb : Str → Option Value} {dp un : Nat} {gd : Option (List Code)} {cn : Str} {cs : Scope} {a : Addr} {ccd : Value} {cl : List (Str × Addr)} {outer : List Env} {A₀ : Around} {base h₀ : Heap} {L : Addr} {m : Str → Option Value} {news : List (Addr × Obj)} {s : Shared} {Q E : Value → Shared → Prop} {l : Addr} {us : List Value} {nn : Nat} {ts : List Token} {l9 : List (Addr × Obj)} {ps : Array Value}
    (B : Below A₀ base outer h₀) (F : Fr h₀ L s.heap m) (X : (hd.heap_39 w.params).In h₀) (N : News h₀ L s.heap ((69, tabObj ps) :: news)) (T : Top topProg (looseW hd.view_39 [Str.ofString "PATTERN_CHARS"] ++ (recsOf hd.view_39).map (·.name) ++ (litsOf hd.view_39).map (·.1) ++ (clssOf hd.view_39 (looseW hd.view_39 [Str.ofString "PATTERN_CHARS"])).map (·.name)) mean mg mb h₀) (hk : cs.kind = .function)
    (C : CodeHd h₀ 73 69) (hps : TabOk gpos ps) (G : AllBare s.gens) (h69 : OwnOff news [69])
    (hm : (l, listOf us.toArray nn) ∈ news) (hD : DatAll l9 us (ts.map Token.dat)) (hs : ∀ p ∈ l9, p ∈ news) (hok : ∀ t ∈ ts, t.okay) (hlen : ts.length ≤ 7) (hd : dp + 2 < recursionLimit) (hu : un + 100 < cLine)
    (hret : ∀ t h' tk' gs' ps', TabOk gpos ps' → AllBare gs' → Fr h₀ L h' m → News h₀ L h' ((69, tabObj ps') :: news) → Q (.str (S (written ts)) t) { s with heap := h', toks := tk', gens := gs' }) :
    wpAny (model PySem.Challenge.rw_ey0005_01.row.prog w) (ktrTop dp un gd cn cs L a ccd cl outer) (call (.ref 74) [.ref l]) Q E s := by
  w_top off
  revert X; k_fill; intro X
  refine wpAny_call ?_
  k_dflt cell_enter
  repeat' ((fail_if_success (with_reducible show wpAny _ _ (exec (Stmt.For _ _ _ _ _) _) _ _ _)); (fail_if_success (with_reducible show wpAny _ _ (pyIter _) _ _ _)); first | (k_unfold; (try dsimp only)) | (k_end; wrow_close) | walk1 | (dsimp only; walk1) | (leave1; walk_say "STEP leave1"; try dsimp only) | fail "no step")
  (with_unfolding_all refine' wpAny_For ?_ ?k1; (case k1 => (intro x9; rfl)))
  repeat' ((fail_if_success (with_reducible show wpAny _ _ (exec (Stmt.For _ _ _ _ _) _) _ _ _)); (fail_if_success (with_reducible show wpAny _ _ (pyIter _) _ _ _)); first | (k_unfold; (try dsimp only)) | (k_end; wrow_close) | walk1 | (dsimp only; walk1) | (leave1; walk_say "STEP leave1"; try dsimp only) | fail "no step")
  with_reducible rename _ ∧ AllLt _ news => l1
  have hlow := ktn_ltOf l1.2
  rename News _ _ _ (_ :: _ :: news) => N9
  rename Fr _ _ _ _ => F9
  with_unfolding_all refine' lp_listG (UJ _ news ts) rfl G (List.mem_cons_of_mem _ (List.mem_cons_of_mem _ hm)) F9 N9 ?kj ?stay ?kE ?turn ?done
  case kE => passes_own
  case kj => exact ⟨[], _, _, rfl, hps, .nil, by rfl⟩
  case stay => rintro i m nx ⟨_, _, _, _, _, _, rfl⟩; exact List.mem_cons_of_mem _ (List.mem_cons_of_mem _ hm)
  case done =>
    clear F9 N9
    rintro m₁ nx h1 tk1 gs G1 _ ⟨outs, n, ps', e1, hps', hS, rfl⟩ F1 N1
    have F1 := fr_knows [(Str.ofString "output", .ref _)] F1 (forall1 e1)
    dsimp only [kstB] at F1
    rw [hD.length, List.length_map, List.take_length] at hS
    have hS' : StrsAre outs ((ts.map Token.text).map S) := by rw [List.map_map]; exact hS
    have hfl : (ts.map Token.text).flatten = written ts := (List.flatMap_def ..).symm
    have hwl : (ts.map Token.text).flatten.length ≤ 10000 := by
      rw [hfl]
      have := written_len hok
      omega
    repeat' ((fail_if_success (with_reducible show wpAny _ _ (exec (Stmt.For _ _ _ _ _) _) _ _ _)); (fail_if_success (with_reducible show wpAny _ _ (pyIter _) _ _ _)); first | (k_unfold; (try dsimp only)) | (k_end; wrow_close) | walk1 | (dsimp only; walk1) | (leave1; walk_say "STEP leave1"; try dsimp only) | fail "no step")
    rw [hfl]
    exact hret _ _ _ _ _ hps' G1 (by k_asm) (news_sub (by k_asm) fun p hp => List.mem_cons_of_mem _ hp)
  case turn =>
    clear F9 N9
    rintro i v m₁ nx h1 tk1 gs own hv G1 hoff ⟨outs, n, ps', e1, hps', hS, rfl⟩ htk F1 N1
    have F1 := fr_knows [(Str.ofString "output", .ref _)] F1 (forall1 e1)
    dsimp only [kstB] at F1
    have hi : i < ts.length := by
      have := (List.getElem?_eq_some_iff.mp hv).1
      rw [hD.length, List.length_map] at this; exact this
    obtain ⟨v', hv1, hv2⟩ := hD.get (k := i) (by rw [List.length_map]; exact hi)
    rw [hv] at hv1
    cases hv1
    rw [List.getElem_map] at hv2
    have hp : ts[i].okay := hok _ (List.getElem_mem hi)
    have hlt := strs_len hS
    rw [List.length_map, List.length_take] at hlt
    have ht : (ts.take (i + 1)).map (fun t => S t.text) = (ts.take i).map (fun t => S t.text) ++ [S ts[i].text] := by
      rw [List.take_add_one, List.getElem?_eq_getElem hi, List.map_append]; rfl
    generalize ts[i] = p at hv2 hp ht
    obtain ⟨Z, N2, K9⟩ := cpack (tl := []) [_, _] (two_off hlow h69) (by rw [List.append_nil]; exact hoff) (by rw [List.append_nil]; exact N1)
    clear N1
    have Z9 := K9.off
    dsimp only [List.map, List.cons_append, List.nil_append] at N2 Z9
    obtain ⟨c8, n8, t8, b8, k8, k7, t7, t6, t5, e1, e2, m1, m2⟩ | ⟨x8, t8, k8, t7, t6, e1, e2, m1⟩ := tok_open hv2 <;> subst e1 <;> subst e2 <;> have m1' := K9.d _ (List.mem_append.mpr (.inl (hs _ m1)))
    · have m2' := K9.d _ (List.mem_append.mpr (.inl (hs _ m2)))
      have hn := hp.2
      repeat' ((fail_if_success (with_reducible show wpAny _ _ (exec (Stmt.For _ _ _ _ _) _) _ _ _)); (fail_if_success (with_reducible show wpAny _ _ (pyIter _) _ _ _)); first | (k_unfold; (try dsimp only)) | (k_end; wrow_close) | walk1 | (dsimp only; walk1) | (leave1; walk_say "STEP leave1"; try dsimp only) | fail "no step")
      refine ug_end (by k_asm) (by k_asm) K9 (by assumption) (by with_unfolding_all rfl) (by k_mem) (push_eq _ _) (by k_mem) (by assumption) (fun p hp => by simp only [List.mem_cons, hp, or_true]) ?_
      rw [ht]; exact hS.append' (.cons _ _ .nil)
    · have hx8 := hp.1
      have hx9 := hp.2
      have hy8 : (StrLaws.dbl 39 x8).length ≤ 200 := Nat.le_trans (dbl_len x8) (by omega)
      repeat' ((fail_if_success (with_reducible show wpAny _ _ (eval (Expr.GeneratorExp _ _ _ _) _) _ _ _)); (fail_if_success (with_reducible show wpAny _ _ (pyIter _) _ _ _)); first | (k_unfold; (try dsimp only)) | (k_end; wrow_close) | walk1 | (dsimp only; walk1) | (leave1; walk_say "STEP leave1"; try dsimp only) | fail "no step")
      refine' genexp_K (q := fun c => decide (c ∈ lets)) (pos := gpos) ?F ?N ?T ?C ?U ?hps ?G ?hcode ?hge ?hh ?hco ?hclos ?hcell ?h0 ?hx ?hkind ?hroom ?hiter ?helt ?go ?hs
      case F => k_asm
      case N => k_asm
      case T => k_asm
      case C => exact CodeHd.keeps C (Fr.keep (by assumption))
      case U => k_updF
      case hps => assumption
      case G => assumption
      case hcode => rfl
      case hge => rfl
      case hh => rfl
      case hco => rfl
      case hclos => with_unfolding_all rfl
      case hcell => decide
      case h0 => with_unfolding_all rfl
      case hx => with_unfolding_all rfl
      case hkind => with_unfolding_all rfl
      case hroom => ktr_room
      case hs => intro x9; with_unfolding_all rfl
      case hiter => intro Q' hq; walk1; exact hq
      case helt =>
        intro code C2 A' E' c₀ u s₂ m₂ hA hD9 hU hc F2 hm2
        repeat' ((fail_if_success (with_reducible show wpAny _ _ (exec (Stmt.For _ _ _ _ _) _) _ _ _)); (fail_if_success (with_reducible show wpAny _ _ (pyIter _) _ _ _)); first | (k_unfold; (try dsimp only)) | (k_end; wrow_close) | walk1 | (dsimp only; walk1) | (leave1; walk_say "STEP leave1"; try dsimp only) | fail "no step")
        all_goals first | exact keeps_toks | exact ⟨rfl, keeps_toks⟩ | rfl
      case go =>
        intro ga gK ps2 h2 tk2 gs2 hps2 F2 N2' G2 hLK hKn X2
        repeat' ((fail_if_success (with_reducible show wpAny _ _ (exec (Stmt.For _ _ _ _ _) _) _ _ _)); (fail_if_success (with_reducible show wpAny _ _ (pyIter _) _ _ _)); first | (k_unfold; (try dsimp only)) | (k_end; wrow_close) | walk1 | (dsimp only; walk1) | (leave1; walk_say "STEP leave1"; try dsimp only) | fail "no step")
        · rename x8.any _ = true => hany
          refine ug_end (by k_asm) (by k_asm) K9 (by assumption) (by with_unfolding_all rfl) (by k_mem) (push_eq _ _) (by k_mem) (by assumption) (fun p hp => by simp only [List.mem_cons, hp, or_true]) ?_
          rw [ht]
          refine hS.append' ?_
          have e : (Token.chars x8).text = 39 :: (StrLaws.dbl 39 x8 ++ [39]) := by
            show (if x8.any (fun c => decide (c ∈ lets)) then 39 :: (StrLaws.dbl 39 x8 ++ [39]) else x8) = _
            rw [hany]; rfl
          rw [e]; exact .cons _ _ .nil
        · rename x8.any _ = false => hany
          refine ug_end (by k_asm) (by k_asm) K9 (by assumption) (by with_unfolding_all rfl) (by k_mem) (push_eq _ _) (by k_mem) (by assumption) (fun p hp => by simp only [List.mem_cons, hp, or_true]) ?_
          rw [ht]
          refine hS.append' ?_
          have e : (Token.chars x8).text = x8 := by
            show (if x8.any (fun c => decide (c ∈ lets)) then 39 :: (StrLaws.dbl 39 x8 ++ [39]) else x8) = x8
            rw [hany]; rfl
          rw [e]; exact .cons _ _ .nil
end Mine
end

section
open PySem PySem.W PySem.Spec PySem.Calls PyProof.Rows
set_option maxRecDepth 100000
set_option maxHeartbeats 8000000
namespace Mine

open PyProof.Rows.LCg
/-- what the comprehension over an enumerate asks of its source -/
def EnumSrc (prog : Program) (w : World) (A : Around) (env : Env) (scope : Scope) (cl : List (Str × Addr)) (a b : Str) (c elt : PySem.Expr) (Q : Value → Shared → Prop) (it : Value) (s₂ : Shared) : Prop :=
  ∃ I fp wr n St Mid, ∃ (items : Array Value) (q : Nat → Bool), it = .ref I ∧ A.handled = none ∧ WalksT prog w A I fp wr n (fun i vals => ∃ t x, items[i]? = some x ∧ vals = #[.int i t, x]) St Mid ∧ n ≤ sizeLine ∧ St 0 s₂.heap ∧ (∀ b ∈ fp, b < s₂.heap.objs.size) ∧
  (∀ C (i : Nat) t x s₃ m₃ E', items[i]? = some x → s₂.heap.objs.size ≤ C → s₃.heap.Ns C m₃ → m₃ a = some (.int (i : Int) t) → m₃ b = some x → (∀ b o, b ∉ wr → s₂.heap.get? b = some o → s₃.heap.get? b = some o) →
    wpAny (model prog w) A (isTrue c (compEnvC scope cl C env) (eval c (compEnvC scope cl C env))) (fun ok s₄ => ok = q i ∧ Keeps s₃ s₄) E' s₃) ∧
  (∀ C (i : Nat) t x s₃ m₃ E', items[i]? = some x → s₂.heap.objs.size ≤ C → s₃.heap.Ns C m₃ → m₃ a = some (.int (i : Int) t) → m₃ b = some x → (∀ b o, b ∉ wr → s₂.heap.get? b = some o → s₃.heap.get? b = some o) →
    wpAny (model prog w) A (eval elt (compEnvC scope cl C env)) (fun r s₄ => (∃ t', r = .int (i : Int) t') ∧ Keeps s₃ s₄) E' s₃) ∧
  (∀ D h' tk ys, s₂.heap.objs.size ≤ D → h'.get? D = some (lst ys) → IntsAre ys (((List.range n).filter q).map fun i : Nat => (i : Int)) → (∀ b o, b ∉ wr → s₂.heap.get? b = some o → h'.get? b = some o) → Q (.ref D) { s₂ with heap := h', toks := tk })
theorem ints_snoc {ys : List Value} {ns : List Int} {i : Int} {t : Tok} (h : IntsAre ys ns) : IntsAre (ys ++ [.int i t]) (ns ++ [i]) := by
  induction h with
  | nil => exact .cons _ _ .nil
  | cons n u _ ih => exact .cons _ _ ih
section
variable {prog : Program} {w : World} {A : Around} {E : Value → Shared → Prop} {s : Shared} {env : Env}
theorem enum_ListComp {elt iter c : PySem.Expr} {a b : Str} {pa pb tp : Pos} {kk : Nat} {scope : Scope} {cl : List (Str × Addr)} {pos : Pos} {Q : Value → Shared → Prop}
    (hclos : closureFor scope env = pure cl) (hcell : ∀ y ∈ scope.names, y.2 ≠ .cell) (hkind : scope.kind = .function)
    (hnames : ∀ y ∈ scope.names, y.2 = .local → scope.names.lookup y.1 = some .local) (hxa : scope.names.lookup a = some .local) (hxb : scope.names.lookup b = some .local) (hab : ¬ a = b)
    (h : wpAny (model prog w) A (eval iter env) (fun xv s₁ => wpAny (model prog w) A (pyIter xv) (EnumSrc prog w A env scope cl a b c elt Q) E s₁) E s)
    (hs : ∀ x, foldedSetIterable iter env x = pure x := by intro _; rfl) :
    wpAny (model prog w) A (eval (.ListComp elt [⟨.Tuple [.Name a pa, .Name b pb] kk tp, iter, [c], 0⟩] scope pos) env) Q E s := by
  rw [eval_ListComp]
  refine wpAny_comprehension_free (use := none) rfl hs hclos hkind hnames (wpAny_mono h (fun xv s₁ h₁ => wpAny_mono h₁ (fun it s₂ h₂ => ?_) fun _ _ e => e) fun _ _ e => e)
  obtain ⟨I, fp, wr, n, St, Mid, items, q, rfl, hh, W, hsz, hst, hfp, htest, helt, hdone⟩ := h₂
  refine wpAny_newObj_type (wpAny_newFunctionEnv hcell (by intro y hy; simp at hy) (fun h₁ hns₁ hsb₁ => ?_) hkind)
  dsimp only at hns₁ hsb₁ ⊢
  generalize hH2 : s₂.heap.push { cls := .type "list", dict := none, data := .seq ([] : List Value).toArray } = H2 at hns₁ hsb₁ ⊢
  have hC : H2.objs.size = s₂.heap.objs.size + 1 := by rw [← hH2, Heap.size_push]
  have hDC : s₂.heap.objs.size ≠ H2.objs.size := by rw [hC]; exact Nat.ne_of_lt (Nat.lt_succ_self _)
  have hCge : s₂.heap.objs.size ≤ H2.objs.size := by rw [hC]; exact Nat.le_succ _
  have below : ∀ b, b < s₂.heap.objs.size → b ≠ H2.objs.size ∧ b ≠ s₂.heap.objs.size := fun b hb => ⟨by rw [hC]; exact Nat.ne_of_lt (Nat.lt_succ_of_lt hb), Nat.ne_of_lt hb⟩
  have old : ∀ b o, s₂.heap.get? b = some o → h₁.get? b = some o := fun b o e => hsb₁.extBut b o (below b (Heap.lt_size e)).1 (Heap.get?_push_of_some _ (hH2 ▸ Heap.get?_push_of_some _ e))
  have hacc : h₁.get? s₂.heap.objs.size = some (lst []) := hsb₁.extBut _ _ hDC (Heap.get?_push_of_some _ (hH2 ▸ Heap.get?_push_size _ rfl))
  have fresh : ∀ a, s₂.heap.objs.size ≤ a → s₂.heap.get? a = none := fun a ha => by
    cases e : s₂.heap.get? a with
    | none => rfl
    | some o' => exact absurd (Heap.lt_size e) (Nat.not_lt.mpr ha)
  have hwlt : ∀ b ∈ wr, b < s₂.heap.objs.size := fun b hb => hfp b (W.sub b hb)
  have hDw : s₂.heap.objs.size ∉ wr := fun hm => absurd (hwlt _ hm) (Nat.lt_irrefl _)
  have hCw : H2.objs.size ∉ wr := fun hm => absurd (Nat.lt_of_lt_of_le (hwlt _ hm) hCge) (Nat.lt_irrefl _)
  have hst₁ : St 0 h₁ := W.frame _ _ _ hst fun b hb o e => old b o e
  have loop : ∀ s₃ : Shared, s₃ = { s₂ with heap := h₁, toks := s₂.toks + ([] : List (Str × Value)).length } →
      codeAny (model prog w) A (.compLoop (.ListComp elt [⟨.Tuple [.Name a pa, .Name b pb] kk tp, iter, [c], 0⟩] scope pos) 0 (.ref I) (.ref s₂.heap.objs.size) (compEnvC scope cl H2.objs.size env))
        (compPost (model prog w) A E none Q (.ref s₂.heap.objs.size) H2.objs.size) s₃ := by
    rintro s₃ rfl
    refine kct_loop
      (fun k s' => ∃ h' tk i ys m', s' = { s₂ with heap := h', toks := tk } ∧ i ≤ n ∧ k = n + 1 - i ∧ ys.length ≤ i ∧ St i h' ∧ h'.Ns H2.objs.size m' ∧ h'.get? s₂.heap.objs.size = some (lst ys) ∧
        IntsAre ys (((List.range i).filter q).map fun i : Nat => (i : Int)) ∧ (∀ b o, b ∉ wr → s₂.heap.get? b = some o → h'.get? b = some o)) ?_ (n + 1)
      ⟨h₁, _, 0, [], _, rfl, Nat.zero_le _, rfl, Nat.le_refl _, hst₁, hns₁, hacc, .nil, fun b o _ e => old b o e⟩
    rintro k s' ⟨h', tk, i, ys, m', rfl, hi, rfl, hyl, hst', hn', hD', hI', hk'⟩
    by_cases hlt : i < n
    · refine W.item i _ _ _ hlt hst' fun T vals h₂ tk₂ hP hTge hT hMid hk₂ => ?_
      have hTw := W.apart _ _ _ hMid
      refine W.go _ _ _ i T _ _ _ hMid fun h₃ hst₃ hk₃ => ?_
      obtain ⟨t, x, hx, rfl⟩ := hP
      have hT₃ : h₃.IsTuple T #[.int (i : Int) t, x] := hT.at fun o e => hk₃ T o hTw e
      have hn₃ : h₃.Ns H2.objs.size m' := hn'.at' fun o e => hk₃ _ o hCw (hk₂ _ o hCw e)
      refine kcp_assign (env := compEnvC scope cl H2.objs.size env) hh hT₃ (lookup_relabel_local hxa) (lookup_relabel_local hxb) (by simp [compEnvC, relabel, hkind]) hn₃ fun h₄ tk₄ hn₄ hs₄ => ?_
      have up₄ : ∀ b o, b ∉ wr → b ≠ H2.objs.size → h'.get? b = some o → h₄.get? b = some o := fun b o hb hc e => hs₄ b o hc (hk₃ b o hb (hk₂ b o hb e))
      have hk₄ : ∀ b o, b ∉ wr → s₂.heap.get? b = some o → h₄.get? b = some o := fun b o hb e => up₄ b o hb (below b (Heap.lt_size e)).1 (hk' b o hb e)
      have hst₄ : St (i + 1) h₄ := W.frame _ _ _ hst₃ fun b hb o e => hs₄ b o (below b (hfp b hb)).1 e
      have hD₄ : h₄.get? s₂.heap.objs.size = some (lst ys) := up₄ _ _ hDw hDC hD'
      have ma : (fun z => if z = b then some x else if z = a then some (Value.int (i : Int) t) else m' z) a = some (.int (i : Int) t) := by
        show (if a = b then _ else _) = _
        rw [if_neg hab, if_pos rfl]
      have mb : (fun z => if z = b then some x else if z = a then some (Value.int (i : Int) t) else m' z) b = some x := if_pos rfl
      refine wpAny_mono (htest _ i t x { s₂ with heap := h₄, toks := tk₄ } _ _ hx hCge hn₄ ma mb hk₄) (fun okb s₅ h₅ => ?_) fun _ _ e => e
      obtain ⟨rfl, h₅, tk₅, rfl, hk₅⟩ := h₅
      have go : ∀ (ys' : List Value) (h₆ : Heap) (tk₆ : Nat), ys'.length ≤ i + 1 → (∀ b o, b ≠ s₂.heap.objs.size → h₄.get? b = some o → h₆.get? b = some o) → h₆.get? s₂.heap.objs.size = some (lst ys') →
          IntsAre ys' (((List.range (i + 1)).filter q).map fun i : Nat => (i : Int)) →
          ∃ m, m < n + 1 - i ∧ ∃ h' tk i ys m', ({ s₂ with heap := h₆, toks := tk₆ } : Shared) = { s₂ with heap := h', toks := tk } ∧ i ≤ n ∧ m = n + 1 - i ∧ ys.length ≤ i ∧ St i h' ∧ h'.Ns H2.objs.size m' ∧ h'.get? s₂.heap.objs.size = some (lst ys) ∧
            IntsAre ys (((List.range i).filter q).map fun i : Nat => (i : Int)) ∧ (∀ b o, b ∉ wr → s₂.heap.get? b = some o → h'.get? b = some o) := by
        intro ys' h₆ tk₆ hl hk₆ hD₆ hI₆
        exact ⟨n + 1 - (i + 1), by omega, h₆, tk₆, i + 1, ys', _, rfl, hlt, rfl, hl, W.frame _ _ _ hst₄ (fun b hb o e => hk₆ b o (below b (hfp b hb)).2 e), hn₄.at' (fun o e => hk₆ _ o (Ne.symm hDC) e), hD₆, hI₆,
          fun b o hb e => hk₆ b o (below b (Heap.lt_size e)).2 (hk₄ b o hb e)⟩
      have hr : ((List.range (i + 1)).filter q).map (fun i : Nat => (i : Int)) = ((List.range i).filter q).map (fun i : Nat => (i : Int)) ++ (if q i then [(i : Int)] else []) := by
        rw [List.range_succ, List.filter_append, List.map_append]
        congr 1
        cases hq : q i <;> simp [hq]
      cases hq : q i with
      | false =>
        simp only [Bool.false_eq_true, if_false]
        refine go ys h₅ tk₅ (Nat.le_succ_of_le hyl) (fun b o _ e => hk₅ b o e) (hk₅ _ _ hD₄) ?_
        rw [hr, hq]; simpa using hI'
      | true =>
        simp only [if_true]
        refine wpAny_mono (helt _ i t x { s₂ with heap := h₅, toks := tk₅ } _ _ hx hCge (hn₄.keeps hk₅) ma mb fun b o hb e => hk₅ b o (hk₄ b o hb e)) (fun y s₆ h₆ => ?_) fun _ _ e => e
        obtain ⟨⟨t', rfl⟩, h₆, tk₆, rfl, hk₆⟩ := h₆
        refine append_at (hsz := by show ys.toArray.size ≤ sizeLine; rw [List.size_toArray]; exact Nat.le_trans hyl (Nat.le_trans hi hsz)) (hk₆ _ _ (hk₅ _ _ hD₄)) fun h₇ hs₇ hD₇ => ?_
        refine go (ys ++ [.int (i : Int) t']) h₇ _ (by rw [List.length_append, List.length_singleton]; exact Nat.succ_le_succ hyl) (fun b o hb e => hs₇.extBut b o hb (hk₆ b o (hk₅ b o e))) (hD₇.trans (congrArg some (lst_snoc ys _))) ?_
        rw [hr, hq]
        exact ints_snoc hI'
    · have hin : i = n := Nat.le_antisymm hi (Nat.not_lt.mp hlt)
      subst hin
      refine W.done _ _ _ hst' fun h₂ tk₂ hk₂ => ?_
      refine ⟨m', hn'.at' fun o e => hk₂ _ o hCw e, fun h'' hs'' => hdone _ h'' tk₂ ys (Nat.le_refl _) (hs''.extBut _ _ hDC (hk₂ _ _ hDw hD')) hI' fun b o hb e => hs''.extBut b o (below b (Heap.lt_size e)).1 (hk₂ b o hb (hk' b o hb e))⟩
  exact codeAny_compStart_list (loop _ rfl) (W.self 0 _ _ _ hst₁ (loop _ rfl))

theorem news_up {h₀ h h' : Heap} {L C : Addr} {news : List (Addr × Obj)} (N : News h₀ L h news) (hC : h.objs.size ≤ C) (hk : ∀ p ∈ news, h'.get? p.1 = some p.2) : News h₀ C h' news := fun p hp =>
  ⟨hk p hp, Nat.ne_of_lt (Nat.lt_of_lt_of_le (Heap.lt_size (N p hp).1) hC), (N p hp).2.2⟩
theorem news_cons {h₀ h h' : Heap} {L D : Addr} {o : Obj} {m : Str → Option Value} {news : List (Addr × Obj)} (F : Fr h₀ L h m) (N : News h₀ L h' news) (hD : h.objs.size ≤ D) (ho : h'.get? D = some o) : News h₀ L h' ((D, o) :: news) := fun p hp => by
  rcases List.mem_cons.mp hp with rfl | hp
  · exact ⟨ho, Nat.ne_of_gt (Nat.lt_of_lt_of_le F.ns.lt hD), Heap.get?_none_of_le (Nat.le_trans F.above (Nat.le_trans (Nat.le_of_lt F.ns.lt) hD))⟩
  · exact N p hp
theorem enum_src {h₀ : Heap} {L l : Addr} {m : Str → Option Value} {news : List (Addr × Obj)} {vs : List Value} {nn : Nat} {elt c : PySem.Expr} {a b : Str} {scope : Scope} {cl : List (Str × Addr)} {q : Nat → Bool} {Q : Value → Shared → Prop}
    (hh : A.handled = none) (F : Fr h₀ L s.heap m) (N : News h₀ L s.heap news) (hm : (l, listOf vs.toArray nn) ∈ news) (hsz : vs.length ≤ 10000)
    (g1 : ∀ C (i : Nat) t x s₃ m₃ E', vs[i]? = some x → Fr h₀ C s₃.heap m₃ → News h₀ C s₃.heap news → m₃ a = some (.int (i : Int) t) → m₃ b = some x →
      wpAny (model prog w) A (isTrue c (compEnvC scope cl C env) (eval c (compEnvC scope cl C env))) (fun ok s₄ => ok = q i ∧ Keeps s₃ s₄) E' s₃)
    (g2 : ∀ C (i : Nat) t x s₃ m₃ E', vs[i]? = some x → Fr h₀ C s₃.heap m₃ → News h₀ C s₃.heap news → m₃ a = some (.int (i : Int) t) → m₃ b = some x →
      wpAny (model prog w) A (eval elt (compEnvC scope cl C env)) (fun r s₄ => (∃ t', r = .int (i : Int) t') ∧ Keeps s₃ s₄) E' s₃)
    (g3 : ∀ D us n h' tk, Fr h₀ L h' m → News h₀ L h' ((D, listOf us.toArray n) :: news) → AllLt D news → IntsAre us (((List.range vs.length).filter q).map fun i : Nat => (i : Int)) → Q (.ref D) { s with heap := h', toks := tk }) :
    wpAny (model prog w) A (call (.type "enumerate") [.ref l]) (fun xv s₁ => wpAny (model prog w) A (pyIter xv) (EnumSrc prog w A env scope cl a b c elt Q) E s₁) E s := by
  have hl := N.isList hm
  have hlt : l < s.heap.objs.size := Heap.lt_size (N _ hm).1
  refine call_enumerate_list hl fun h' he hi hsz' hk => wpAny_pyIter_enum he ?_
  have kp : ∀ (h₃ : Heap), (∀ b o, b ∉ [s.heap.objs.size + 1, s.heap.objs.size] → h'.get? b = some o → h₃.get? b = some o) → ∀ b o, s.heap.get? b = some o → h₃.get? b = some o := fun h₃ hk₃ b o e => by
    have hb := Heap.lt_size e
    exact hk₃ b o (by
      intro hm
      rcases List.mem_cons.mp hm with q | hm
      · rw [q] at hb; exact absurd hb (Nat.not_lt.mpr (Nat.le_succ _))
      · rw [List.mem_singleton.mp hm] at hb; exact absurd hb (Nat.lt_irrefl _)) (hk b o e)
  have le' : s.heap.objs.size ≤ h'.objs.size := by rw [hsz']; exact Nat.le_add_right _ _
  have frC : ∀ (C : Addr) (s₃ : Shared) m₃, h'.objs.size ≤ C → s₃.heap.Ns C m₃ → (∀ b o, b ∉ [s.heap.objs.size + 1, s.heap.objs.size] → h'.get? b = some o → s₃.heap.get? b = some o) → Fr h₀ C s₃.heap m₃ ∧ News h₀ C s₃.heap news :=
    fun C s₃ m₃ hC hn hk₃ => ⟨⟨hn, fun b o e => kp _ hk₃ b o (F.keep b o e), Nat.le_trans F.above (Nat.le_trans (Nat.le_of_lt F.ns.lt) (Nat.le_trans le' hC))⟩,
      news_up N (Nat.le_trans le' hC) fun p hp => kp _ hk₃ _ _ (N p hp).1⟩
  refine ⟨s.heap.objs.size + 1, [s.heap.objs.size + 1, s.heap.objs.size, l], [s.heap.objs.size + 1, s.heap.objs.size], vs.toArray.size, _, _, vs.toArray, q, rfl, hh,
    WalksT.enumerate hh _ _ l (Nat.succ_ne_self _) (Nat.ne_of_lt (Nat.lt_succ_of_lt hlt)) (Nat.ne_of_lt hlt) vs.toArray, by rw [List.size_toArray, sizeLine_eq]; omega, ⟨⟨_, he⟩, hi, hl.at fun o e => hk l o e⟩, ?_, ?_, ?_, ?_⟩
  · intro b hb
    show b < h'.objs.size
    rw [hsz']
    rcases List.mem_cons.mp hb with rfl | hb
    · exact Nat.lt_succ_self _
    rcases List.mem_cons.mp hb with rfl | hb
    · exact Nat.lt_succ_of_lt (Nat.lt_succ_self _)
    · rw [List.mem_singleton.mp hb]; exact Nat.lt_succ_of_lt (Nat.lt_succ_of_lt hlt)
  · intro C i t x s₃ m₃ E' hx hC hn ha hb hk₃
    obtain ⟨F₃, N₃⟩ := frC C s₃ m₃ hC hn hk₃
    exact g1 C i t x s₃ m₃ E' (by simpa using hx) F₃ N₃ ha hb
  · intro C i t x s₃ m₃ E' hx hC hn ha hb hk₃
    obtain ⟨F₃, N₃⟩ := frC C s₃ m₃ hC hn hk₃
    exact g2 C i t x s₃ m₃ E' (by simpa using hx) F₃ N₃ ha hb
  · intro D h'' tk ys hD ho hI hk₃
    rw [List.size_toArray] at hI
    refine g3 D ys _ h'' tk (F.keeps (kp _ hk₃)) (news_cons F (N.grown (kp _ hk₃)) (Nat.le_trans le' hD) ho) (allLt_of fun p hp => Nat.lt_of_lt_of_le (Heap.lt_size (N p hp).1) (Nat.le_trans le' hD)) hI
/-- a list comprehension over a list of ints -/
def keepInt (q : Int → Bool) : Value → Bool
  | .int n _ => q n
  | _ => false
def sameInt (v r : Value) : Prop := ∃ n t t', v = .int n t ∧ r = .int n t'
theorem paired_ints {q : Int → Bool} : ∀ {ns : List Int} {vs us : List Value}, IntsAre vs ns → Paired sameInt (vs.filter (keepInt q)) us → IntsAre us (ns.filter q)
  | [], vs, us, h, P => by
    cases h; cases P; exact .nil
  | n :: ns, vs, us, h, P => by
    cases h with
    | cons _ t h =>
      have hk : keepInt q (.int n t) = q n := rfl
      rw [List.filter_cons, hk] at P
      rw [List.filter_cons]
      cases hq : q n with
      | false => rw [hq] at P; exact paired_ints h P
      | true =>
        rw [hq] at P
        cases P with
        | cons h1 h2 =>
          obtain ⟨d, u, u', e1, e2⟩ := h1
          injection e1 with e1 _
          subst e1
          rw [e2]
          exact .cons _ _ (paired_ints h h2)
theorem ints_src {h₀ : Heap} {L l : Addr} {m : Str → Option Value} {news : List (Addr × Obj)} {vs : List Value} {ns : List Int} {nn : Nat} {elt : PySem.Expr} {x : Str} {ifs : List PySem.Expr} {scope : Scope} {cl : List (Str × Addr)} {q : Int → Bool} {Q : Value → Shared → Prop}
    (hh : A.handled = none) (F : Fr h₀ L s.heap m) (N : News h₀ L s.heap news) (hm : (l, listOf vs.toArray nn) ∈ news) (hv : IntsAre vs ns) (hsz : vs.length ≤ 10000)
    (g1 : ∀ C n t s₃ m₃ E', n ∈ ns → Fr h₀ C s₃.heap m₃ → News h₀ C s₃.heap news → m₃ x = some (.int n t) → (∀ b o, s.heap.get? b = some o → s₃.heap.get? b = some o) →
      wpAny (model prog w) A (forIn ifs true fun c r => if r = true then do let ok ← isTrue c (compEnvC scope cl C env) (eval c (compEnvC scope cl C env)); pure (ForInStep.yield ok) else pure (ForInStep.yield r)) (fun ok s₄ => ok = q n ∧ Keeps s₃ s₄) E' s₃)
    (g2 : ∀ C n t s₃ m₃ E', n ∈ ns → Fr h₀ C s₃.heap m₃ → News h₀ C s₃.heap news → m₃ x = some (.int n t) →
      wpAny (model prog w) A (eval elt (compEnvC scope cl C env)) (fun r s₄ => (∃ t', r = .int n t') ∧ Keeps s₃ s₄) E' s₃)
    (g3 : ∀ D us n h' tk, Fr h₀ L h' m → News h₀ L h' ((D, listOf us.toArray n) :: news) → IntsAre us (ns.filter q) → Q (.ref D) { s with heap := h', toks := tk }) :
    wpAny (model prog w) A (pyIter (.ref l)) (MyComp prog w A env scope cl x ifs elt (keepInt q) sameInt Q) E s := by
  have hl := N.isList hm
  have hlt : l < s.heap.objs.size := Heap.lt_size (N _ hm).1
  refine wpAny_pyIter_list hl ?_
  have szp : (s.heap.push { cls := .type "list_iterator", data := .fields #[.ref l, .int 0 0] }).objs.size = s.heap.objs.size + 1 := Heap.size_push ..
  have up : ∀ (h' : Heap), (∀ b o', b ∉ [s.heap.objs.size] → (s.heap.push { cls := .type "list_iterator", data := .fields #[.ref l, .int 0 0] }).get? b = some o' → h'.get? b = some o') → ∀ b o', s.heap.get? b = some o' → h'.get? b = some o' :=
    fun h' hk b o' e => hk b o' (old_not_new e) (Heap.get?_push_of_some _ e)
  have frC : ∀ (C : Addr) (s₃ : Shared) m₃, (s.heap.push { cls := .type "list_iterator", data := .fields #[.ref l, .int 0 0] }).objs.size ≤ C → s₃.heap.Ns C m₃ → (∀ b o, b ∉ [s.heap.objs.size] → (s.heap.push { cls := .type "list_iterator", data := .fields #[.ref l, .int 0 0] }).get? b = some o → s₃.heap.get? b = some o) → Fr h₀ C s₃.heap m₃ ∧ News h₀ C s₃.heap news :=
    fun C s₃ m₃ hC hn hk₃ => by
      have hC' : s.heap.objs.size ≤ C := Nat.le_trans (by rw [szp]; exact Nat.le_succ _) hC
      exact ⟨⟨hn, fun b o e => up _ hk₃ b o (F.keep b o e), Nat.le_trans F.above (Nat.le_trans (Nat.le_of_lt F.ns.lt) hC')⟩, news_up N hC' fun p hp => up _ hk₃ _ _ (N p hp).1⟩
  have mem : ∀ (i : Nat) v, vs.toArray[i]? = some v → ∃ n t, n ∈ ns ∧ v = .int n t := fun i v e => by
    obtain ⟨n, t, e1, e2⟩ := IntsAre.at hv i v (by simpa using e)
    exact ⟨n, t, List.mem_of_getElem? e2, e1⟩
  refine ⟨s.heap.objs.size, [s.heap.objs.size, l], [s.heap.objs.size], vs.toArray.size, _, _, rfl, Walks.list hh _ _ (Nat.ne_of_lt hlt) vs.toArray, by rw [List.size_toArray, sizeLine_eq]; omega, ⟨⟨_, Heap.get?_push_size _ rfl, rfl, rfl⟩, hl.push _⟩, ?_, ⟨?_, ?_⟩, ?_⟩
  · intro b hb
    show b < (s.heap.push _).objs.size
    rw [Heap.size_push]
    rcases List.mem_cons.mp hb with rfl | hb
    · exact Nat.lt_succ_self _
    · rw [List.mem_singleton.mp hb]; exact Nat.lt_succ_of_lt hlt
  · intro C i v s₃ m₃ E' hC hP hn hx hk _
    obtain ⟨n, t, hn', rfl⟩ := mem i v hP
    obtain ⟨F₃, N₃⟩ := frC C s₃ m₃ hC hn hk
    exact g1 C n t s₃ m₃ E' hn' F₃ N₃ hx (up _ hk)
  · intro C i v s₃ m₃ E' hC hP hp hn hx hk _
    obtain ⟨n, t, hn', rfl⟩ := mem i v hP
    obtain ⟨F₃, N₃⟩ := frC C s₃ m₃ hC hn hk
    exact wpAny_mono (g2 C n t s₃ m₃ E' hn' F₃ N₃ hx) (fun r s₄ h₄ => ⟨by obtain ⟨t', e⟩ := h₄.1; exact ⟨n, t, t', rfl, e⟩, h₄.2⟩) fun _ _ e => e
  · intro D h' tk ys ws hnew _ hplD hlD hP hF hk
    obtain ⟨n, hn⟩ := hplD
    have hws : ws = vs := by
      refine List.ext_getElem? fun j => ?_
      by_cases hj : j < ws.length
      · have h1 := hP j ws[j] (List.getElem?_eq_getElem hj)
        rw [List.getElem?_eq_getElem hj, ← h1]; simp
      · have hj2 : ¬ j < vs.length := by rw [hlD, List.size_toArray] at hj; exact hj
        rw [List.getElem?_eq_none (Nat.not_lt.mp hj), List.getElem?_eq_none (Nat.not_lt.mp hj2)]
    subst hws
    have hD : s.heap.get? D = none := by
      cases e : s.heap.get? D with
      | none => rfl
      | some o' => rw [Heap.get?_push_of_some _ e] at hnew; cases hnew
    refine g3 D ys.toList n h' tk (F.keeps (up h' hk)) (fun p hp => ?_) (paired_ints hv hF)
    rcases List.mem_cons.mp hp with rfl | hp
    · refine ⟨by rw [Array.toArray_toList]; exact hn, fun e => ?_, ?_⟩
      · obtain ⟨o', es, ep, ho, _⟩ := F.ns
        rw [show D = L from e, ho] at hD; cases hD
      · cases e : h₀.get? D with
        | none => rfl
        | some o' => rw [F.keep _ _ e] at hD; cases hD
    · exact N.grown (up h' hk) p hp
end
end Mine
end

section
open PySem PySem.W PySem.Spec PySem.Calls PyProof.Rows
set_option maxRecDepth 100000
set_option maxHeartbeats 8000000
namespace Mine

theorem tok_move {l l' : List (Addr × Obj)} {v : Value} {t : Token} (h : ∀ (a : Addr) xs k, (a, ({ cls := .type "tuple", data := .seq xs k } : Obj)) ∈ l → (a, ({ cls := .type "tuple", data := .seq xs k } : Obj)) ∈ l') (hD : DatIn l v t.dat) : DatIn l' v t.dat := by
  obtain ⟨c8, n8, t8, b8, k8, k7, t7, t6, t5, e1, e2, m1, m2⟩ | ⟨x8, t8, k8, t7, t6, e1, e2, m1⟩ := tok_open hD <;> subst e1 <;> subst e2
  · exact tdat_field (h _ _ _ m1) (h _ _ _ m2) rfl
  · exact tdat_chars (h _ _ _ m1)
theorem tok_moves {l l' : List (Addr × Obj)} (h : ∀ (a : Addr) xs k, (a, ({ cls := .type "tuple", data := .seq xs k } : Obj)) ∈ l → (a, ({ cls := .type "tuple", data := .seq xs k } : Obj)) ∈ l') : ∀ {ts : List Token} {us : List Value}, DatAll l us (ts.map Token.dat) → DatAll l' us (ts.map Token.dat)
  | [], us, D => by cases D; exact .nil
  | t :: ts, us, D => by
    rw [List.map_cons] at D
    cases D with
    | cons h1 h2 => exact .cons (tok_move h h1) (tok_moves h h2)
theorem offs {news tl : List (Addr × Obj)} (O : ∀ q ∈ news, ∀ p ∈ tl, q.1 < p.1) : OwnOff tl (news.map (·.1)) := fun p hp b hb => by
  obtain ⟨q, hq, rfl⟩ := List.mem_map.mp hb
  exact Nat.ne_of_gt (O q hq p hp)
/-- the ledger of the law: two cells, the table, and the rest in one letter -/
theorem wpack {h₀ h : Heap} {L a1 a2 a3 : Addr} {o1 o2 o3 : Obj} {Z tl : List (Addr × Obj)} (N : News h₀ L h (((a1, o1) :: (a2, o2) :: (a3, o3) :: Z) ++ tl)) (Z9 : OwnOff Z [a1, a2, a3]) (O : ∀ q ∈ (a1, o1) :: (a2, o2) :: (a3, o3) :: Z, ∀ p ∈ tl, q.1 < p.1) :
    ∃ Z', News h₀ L h ((a1, o1) :: (a2, o2) :: (a3, o3) :: Z') ∧ OwnOff Z' [a1, a2, a3] ∧ (∀ p ∈ Z, p ∈ Z') ∧ (∀ p ∈ tl, p ∈ Z') := by
  refine ⟨Z ++ tl, N, fun p hp b hb => ?_, fun p hp => List.mem_append.mpr (.inl hp), fun p hp => List.mem_append.mpr (.inr hp)⟩
  rcases List.mem_append.mp hp with hp | hp
  · exact Z9 p hp b hb
  · refine offs O p hp b ?_
    simp only [List.map_cons, List.mem_cons, List.not_mem_nil, or_false] at hb ⊢
    rcases hb with h | h | h <;> simp only [h, true_or, or_true]
theorem wdat {a1 a2 a3 : Addr} {o1 o2 o3 : Obj} {Z Z' tl : List (Addr × Obj)} {us : List Value} {ts : List Token} (D : DatAll (((a1, o1) :: (a2, o2) :: (a3, o3) :: Z) ++ tl) us (ts.map Token.dat)) (h1 : ∀ xs k, o1.data ≠ .seq xs k) (h2 : ∀ xs k, o2.data ≠ .seq xs k) (h3 : ∀ xs k, o3.data ≠ .seq xs k)
    (hZ : ∀ p ∈ Z, p ∈ Z') (ht : ∀ p ∈ tl, p ∈ Z') : DatAll Z' us (ts.map Token.dat) := by
  refine tok_moves (fun a xs k hm => ?_) D
  rcases List.mem_append.mp hm with hm | hm
  · rcases List.mem_cons.mp hm with e | hm
    · injection e with _ e; exact absurd (congrArg Obj.data e).symm (h1 _ _)
    rcases List.mem_cons.mp hm with e | hm
    · injection e with _ e; exact absurd (congrArg Obj.data e).symm (h2 _ _)
    rcases List.mem_cons.mp hm with e | hm
    · injection e with _ e; exact absurd (congrArg Obj.data e).symm (h3 _ _)
    · exact hZ _ hm
  · exact ht _ hm
theorem cell_ne {o : Obj} {v : Option Value} (h : o.data = .cell v) : ∀ xs k, o.data ≠ .seq xs k := fun xs k e => by rw [h] at e; cases e
theorem tab_ne {ps : Array Value} : ∀ xs k, (tabObj ps).data ≠ .seq xs k := fun xs k e => by cases e
theorem perm_in {a b c : Addr × Obj} {Z : List (Addr × Obj)} : ∀ p ∈ c :: a :: b :: Z, p ∈ a :: b :: c :: Z := fun p hp => by
  simp only [List.mem_cons] at hp ⊢
  rcases hp with h | h | h | h <;> simp only [h, true_or, or_true]
theorem perm_out {a b c : Addr × Obj} {Z : List (Addr × Obj)} : ∀ p ∈ a :: b :: c :: Z, p ∈ c :: a :: b :: Z := fun p hp => by
  simp only [List.mem_cons] at hp ⊢
  rcases hp with h | h | h | h <;> simp only [h, true_or, or_true]
theorem off69 {a1 a2 : Addr} {o1 o2 : Obj} {Z : List (Addr × Obj)} (h1 : @LT.lt Nat _ 69 a1) (h2 : @LT.lt Nat _ 69 a2) (Z9 : OwnOff Z [a1, a2, 69]) : OwnOff ((a1, o1) :: (a2, o2) :: Z) [69] := fun p hp b hb => by
  rw [List.mem_singleton.mp hb]
  rcases List.mem_cons.mp hp with rfl | hp
  · exact Nat.ne_of_gt h1
  rcases List.mem_cons.mp hp with rfl | hp
  · exact Nat.ne_of_gt h2
  · exact Z9 p hp 69 (by simp)
/-- the bound of a field's count -/
def Token.le (k : Nat) : Token → Prop
  | .field _ n => n ≤ k
  | .chars _ => True
theorem le_mono {k k' : Nat} (h : k ≤ k') {t : Token} (ht : t.le k) : t.le k' := by
  cases t with
  | field c n => exact Nat.le_trans ht h
  | chars x => exact ht
theorem le_step {k : Nat} {us : List Token} {p : Piece} (h : ∀ t ∈ us, t.le k) (hp : p.ok) : ∀ t ∈ tokStep us p, t.le (k + 5) := by
  have hm : ∀ t ∈ us, t.le (k + 5) := fun t ht => le_mono (Nat.le_add_right _ _) (h t ht)
  have put : ∀ (l : List Token) (t : Token), (∀ t ∈ l, t.le (k + 5)) → t.le (k + 5) → ∀ u ∈ l ++ [t], u.le (k + 5) := by
    intro l t h1 h2 u hu
    rcases List.mem_append.mp hu with hu | hu
    · exact h1 u hu
    · rw [List.mem_singleton.mp hu]; exact h2
  rcases nil_or_snoc us with rfl | ⟨us, u, rfl⟩
  · cases p with
    | field c n => exact put [] (.field c n) (fun _ h => nomatch h) (by show n ≤ k + 5; have := hp.2.2; omega)
    | chars x => exact put [] (.chars x) (fun _ h => nomatch h) trivial
    | quoted x => exact put [] (.chars x) (fun _ h => nomatch h) trivial
  · have hm1 : ∀ t ∈ us, t.le (k + 5) := fun t ht => hm t (List.mem_append.mpr (.inl ht))
    cases p with
    | field c n =>
      have hn : n ≤ 5 := hp.2.2
      cases u with
      | field d j =>
        have hj : j ≤ k := h (.field d j) (List.mem_append.mpr (.inr (.head _)))
        by_cases e : d = c
        · subst e; rw [step_f_same]; exact put us (.field d (j + n)) hm1 (by show j + n ≤ k + 5; omega)
        · rw [step_f_other _ _ _ e]; exact put _ (.field c n) hm (by show n ≤ k + 5; omega)
      | chars y => rw [step_f_chars]; exact put _ (.field c n) hm (by show n ≤ k + 5; omega)
    | chars x =>
      cases u with
      | field d j => rw [step_c_field]; exact put _ (.chars x) hm trivial
      | chars y => rw [step_c_chars]; exact put us (.chars (y ++ x)) hm1 trivial
    | quoted x => exact put _ (.chars x) hm trivial
theorem le_run {ps : List Piece} : ∀ {k : Nat} {us : List Token}, (∀ t ∈ us, t.le k) → (∀ p ∈ ps, p.ok) → ∀ t ∈ ps.foldl tokStep us, t.le (k + 5 * ps.length) := by
  induction ps with
  | nil => intro k us h _; exact h
  | cons p ps ih =>
    intro k us h hp t ht
    have := ih (le_step h (hp p (.head _))) (fun q hq => hp q (.tail _ hq)) t ht
    have e : k + 5 + 5 * ps.length = k + 5 * (p :: ps).length := by rw [List.length_cons]; omega
    rw [← e]; exact this
theorem written_le {ts : List Token} (h1 : ∀ t ∈ ts, t.fit 70) (h2 : ∀ t ∈ ts, t.le 35) : (written ts).length ≤ 142 * ts.length := by
  induction ts with
  | nil => simp [written]
  | cons t ts ih =>
    have ih := ih (fun u hu => h1 u (.tail _ hu)) fun u hu => h2 u (.tail _ hu)
    have ht : t.text.length ≤ 142 := by
      have a1 := h1 t (.head _)
      have a2 := h2 t (.head _)
      cases t with
      | field c n => simp only [Token.text, List.length_replicate]; exact Nat.le_trans a2 (by omega)
      | chars x =>
        have b1 := dbl_len x
        have b2 := a1.2
        simp only [Token.text]
        split
        · simp only [List.length_cons, List.length_append, List.length_nil]; omega
        · omega
    simp only [written, List.flatMap_cons, List.length_append, List.length_cons] at ih ⊢
    omega
theorem tokens_written {ps : List Piece} (h : ∀ p ∈ ps, p.ok) (hl : ps.length ≤ 7) : (written (tokensOf ps)).length ≤ 1000 := by
  have h1 : ∀ t ∈ tokensOf ps, t.fit 70 := fun t ht => fit_mono (by omega) (tokensOf_fit h t ht)
  have h2 : ∀ t ∈ tokensOf ps, t.le 35 := fun t ht => le_mono (by omega) (le_run (us := []) (k := 0) (fun _ h => nomatch h) h t ht)
  have h3 := tokensOf_len ps
  have h4 := written_le h1 h2
  omega
theorem fine_good {ts : List Token} (h : Fine ts) : ∀ t ∈ ts, t.good := by
  induction h with
  | nil => intro t h; cases h
  | snoc _ ht _ ih =>
    intro t h
    rcases List.mem_append.mp h with h | h
    · exact ih t h
    · rw [List.mem_singleton.mp h]; exact ht
theorem tokens_okay {ps : List Piece} (h : ∀ p ∈ ps, p.ok) (hl : ps.length ≤ 7) : ∀ t ∈ tokensOf ps, t.okay := by
  intro t ht
  have h1 := tokensOf_fit h t ht
  have h2 := fine_good (fine_tokens h) t ht
  have h3 : t.le (0 + 5 * ps.length) := le_run (us := []) (fun _ h => nomatch h) h t ht
  cases t with
  | field c n => exact ⟨h2.1, h2.2, Nat.le_trans h3 (by omega)⟩
  | chars x => exact ⟨h1.1, Nat.le_trans h1.2 (by omega)⟩
theorem rep2_lt : ∀ {x : List Nat}, (∀ c ∈ x, c < 128) → ∀ c ∈ rep2 x, c < 128
  | [], _, c, hc => by simp [rep2] at hc
  | [a], h, c, hc => by
    rw [rep2_c (by simp)] at hc
    rcases List.mem_cons.mp hc with rfl | hc
    · exact h _ (.head _)
    · simp [rep2] at hc
  | a :: b :: r, h, c, hc => by
    by_cases e : a = 39 ∧ b = 39
    · obtain ⟨rfl, rfl⟩ := e
      rw [rep2_qq] at hc
      rcases List.mem_cons.mp hc with rfl | hc
      · decide
      · exact rep2_lt (x := r) (fun d hd => h d (.tail _ (.tail _ hd))) c hc
    · rw [rep2_c (by rintro ⟨e1, e2⟩; exact e ⟨e1, Option.some.inj e2⟩)] at hc
      rcases List.mem_cons.mp hc with rfl | hc
      · exact h _ (.head _)
      · exact rep2_lt (x := b :: r) (fun d hd => h d (.tail _ hd)) c hc
theorem text_lt {ps : List Piece} (h : ∀ p ∈ ps, p.ok) : ∀ c ∈ textOf ps, c < 128 := by
  intro c hc
  obtain ⟨p, hp, hc⟩ := List.mem_flatMap.mp hc
  have hp := h p hp
  cases p with
  | field d n => rw [List.eq_of_mem_replicate hc]; exact (by decide : ∀ c ∈ lets, c < 128) d hp.1
  | chars x => exact (by decide : ∀ x ∈ plains, ∀ c ∈ StrLaws.dbl 39 x, c < 128) x hp c hc
  | quoted x => exact (by decide : ∀ x ∈ quoteds, ∀ c ∈ 39 :: (StrLaws.dbl 39 x ++ [39]), c < 128) x hp c hc
theorem dbl_lt {x : List Nat} (h : ∀ c ∈ x, c < 128) : ∀ c ∈ StrLaws.dbl 39 x, c < 128 := by
  induction x with
  | nil => intro c hc; cases hc
  | cons a x ih =>
    intro c hc
    have h1 : c ∈ (if a = 39 then a :: a :: StrLaws.dbl 39 x else a :: StrLaws.dbl 39 x) := hc
    have ih := ih fun d hd => h d (.tail _ hd)
    have ha := h a (.head _)
    split at h1
    · rcases List.mem_cons.mp h1 with rfl | h1
      · exact ha
      rcases List.mem_cons.mp h1 with rfl | h1
      · exact ha
      · exact ih c h1
    · rcases List.mem_cons.mp h1 with rfl | h1
      · exact ha
      · exact ih c h1
theorem written_lt {ts : List Token} (h : ∀ t ∈ ts, t.okay) : ∀ c ∈ written ts, c < 128 := by
  intro c hc
  obtain ⟨t, ht, hc⟩ := List.mem_flatMap.mp hc
  have ht := h t ht
  cases t with
  | field d n => rw [List.eq_of_mem_replicate hc]; exact (by decide : ∀ c ∈ lets, c < 128) d ht.1
  | chars x =>
    have hc : c ∈ (if x.any (fun c => decide (c ∈ lets)) then 39 :: (StrLaws.dbl 39 x ++ [39]) else x) := hc
    split at hc
    · rcases List.mem_cons.mp hc with rfl | hc
      · decide
      rcases List.mem_append.mp hc with hc | hc
      · exact dbl_lt ht.1 c hc
      · rw [List.mem_singleton.mp hc]; decide
    · exact ht.1 c hc
section
variable {prog : Program} {w : World} {A : Around} {E : Value → Shared → Prop} {s : Shared} {h₀ : Heap} {L l b : Addr} {news l9 l8 : List (Addr × Obj)} {us vs : List Value} {ts : List Token} {n k : Nat} {Q : Value → Shared → Prop}
theorem toks_ne {kk : Nat} (N : News h₀ L s.heap news) (hm : (l, listOf us.toArray n) ∈ news) (hb : (b, listOf vs.toArray k) ∈ news) (D : DatAll l9 us (ts.map Token.dat)) (sub : ∀ p ∈ l9, p ∈ news) (D2 : DatAll l8 vs (ts.map Token.dat)) (sub2 : ∀ p ∈ l8, p ∈ news) (ok : ∀ t ∈ ts, t.fit kk) (hu : A.units + 64 < cLine)
    (h : Q (.bool false) s) : wpAny (model prog w) A (compareOp .NotEq (.ref l) (.ref b)) Q E s := by
  have ho : ∀ d ∈ ts.map Token.dat, kqdOk 8 d = true := fun d hd => by
    obtain ⟨p, hp, rfl⟩ := List.mem_map.mp hd
    exact tok_kqd (ok p hp)
  refine kqd_ne N hm rfl rfl D sub hb rfl rfl D2 sub2 ho ho hu ?_
  simpa using h
theorem toks_eq {kk : Nat} (N : News h₀ L s.heap news) (hm : (l, listOf us.toArray n) ∈ news) (hb : (b, listOf vs.toArray k) ∈ news) (D : DatAll l9 us (ts.map Token.dat)) (sub : ∀ p ∈ l9, p ∈ news) (D2 : DatAll l8 vs (ts.map Token.dat)) (sub2 : ∀ p ∈ l8, p ∈ news) (ok : ∀ t ∈ ts, t.fit kk) (hu : A.units + 64 < cLine)
    (h : Q (.bool true) s) : wpAny (model prog w) A (compareOp .Eq (.ref l) (.ref b)) Q E s := by
  have ho : ∀ d ∈ ts.map Token.dat, kqdOk 8 d = true := fun d hd => by
    obtain ⟨p, hp, rfl⟩ := List.mem_map.mp hd
    exact tok_kqd (ok p hp)
  refine kqd_eq N hm rfl rfl D sub hb rfl rfl D2 sub2 ho ho hu ?_
  simpa using h
theorem ints_dat {l : List (Addr × Obj)} : ∀ {us : List Value} {zs : List Int}, IntsAre us zs → DatAll l us (zs.map fun z => .int z)
  | _, [], h => by cases h; exact .nil
  | _, z :: zs, h => by
    cases h with
    | cons _ t h => exact .cons (.int _ _) (ints_dat h)
theorem ints_eq_nil {zs : List Int} (N : News h₀ L s.heap news) (hm : (l, listOf us.toArray n) ∈ news) (hb : (b, listOf #[] k) ∈ news) (hs : IntsAre us zs) (hu : A.units + 64 < cLine)
    (h : Q (.bool (decide (zs = []))) s) : wpAny (model prog w) A (compareOp .Eq (.ref l) (.ref b)) Q E s := by
  refine kqd_eq N hm rfl rfl (ints_dat (l := []) hs) (fun _ h => nomatch h) hb rfl (ys := []) rfl .nil (n₂ := []) (fun _ h => nomatch h) (fun d hd => ?_) (fun _ h => nomatch h) hu ?_
  · obtain ⟨z, hz, rfl⟩ := List.mem_map.mp hd
    rfl
  · have e : (decide (zs.map (fun z => (Dat.int z)) = [])) = decide (zs = []) := by simp
    simpa only [e] using h
theorem in_quote {x : List Nat} {t u : Tok} (h : Q (.bool (decide (39 ∈ x))) s) : wpAny (model prog w) A (compareOp .In (.str (Str.ofString "'") t) (.str (S x) u)) Q E s := by
  refine in_str ?_
  have e := StrLaws.found_one (S x) 39
  rw [lit_q]
  rw [show S [39] = (⟨#[39]⟩ : Str) from rfl, e]
  exact h
end
end Mine
end

section
open PySem PySem.W PySem.Spec PySem.Calls PyProof.Rows
set_option maxRecDepth 100000
set_option maxHeartbeats 8000000
namespace Mine
local macro_rules | `(tactic| walk_at "mine none") => `(tactic| fail)
local macro_rules | `(tactic| walk_at "mine none") => `(tactic| fail)
local macro_rules | `(tactic| walk_at "mine none") => `(tactic| fail)
local macro_rules | `(tactic| walk_at "mine none") => `(tactic| fail)
local macro_rules | `(tactic| walk_at "mine none") => `(tactic| fail)
local macro_rules | `(tactic| walk_at "mine none") => `(tactic| fail)

set_option pp.deepTerms false
set_option pp.deepTerms.threshold 8
theorem my_post {M : Model} {A : Around} {cd : Code} {s s₁ : Shared} {cw : ClaimW} {cl : Str → Option Addr} {mean : ExcName → Option Value} {args : List WData} {tabs : List (Addr × Addr)} (hT : TabsAt tabs s₁.heap) (hr : ∀ a x, cw.raises a x = false)
    (hp : cw.post args (.bool true) args = true)
    (h : codeAny M A cd (fun r s' => r = .ok (.ret (.bool true)) ∧ (∀ b o, (ghostOf s₁.heap tabs).get? b = some o → s'.heap.get? b = some o) ∧ s'.os = s₁.os ∧ AllBare s'.gens ∧ GrownAll tabs s'.heap) s) : codeAny M A cd (GoodWG cw cl mean args s₁) s :=
  codeAny_mono h fun r s' ⟨hc, hk, hos, hg, hgr⟩ => by
    have keep : ∀ b o, b ∉ tabs.map (·.2) → s₁.heap.get? b = some o → s'.heap.get? b = some o := fun b o hb e => hk b o (ghost_ne e hb)
    have grown : ∀ b o, b ∈ tabs.map (·.2) → s₁.heap.get? b = some o → isCodeTable s₁.heap b ∧ o = tabObj #[] ∧ ∃ ps, s'.heap.get? b = some (tabObj ps) := fun b o hb e => by
      obtain ⟨q, hq, rfl⟩ := List.mem_map.mp hb
      have e2 := (hT q hq).2
      rw [e] at e2
      exact ⟨((hT q hq).1.tab (hT q hq).2).isCodeTable, Option.some.inj e2, hgr.get q hq⟩
    refine ⟨.inl ⟨.bool true, .bool true, [], hc, fun x => hr _ x, .bool _, hp, fun _ => ⟨List.nodup_nil, fun a ha => nomatch ha⟩⟩, ⟨fun b o e => ?_, fun b o e => ?_⟩, hos, hg⟩
    · by_cases hb : b ∈ tabs.map (·.2)
      · obtain ⟨ht, rfl, ps, hP⟩ := grown b o hb e
        exact .inr (.inl ⟨ht, rfl, #[], ps, rfl, by rw [Array.empty_append]; exact hP⟩)
      · exact .inl (keep b o hb e)
    · by_cases hb : b ∈ tabs.map (·.2)
      · obtain ⟨_, _, ps, hP⟩ := grown b o hb e
        exact ⟨_, hP⟩
      · exact ⟨o, keep b o hb e⟩
local macro_rules | `(tactic| k_updF) => `(tactic| first
  | with_reducible assumption
  | with_reducible exact List.mem_cons_self
  | (with_reducible refine List.mem_cons_of_mem _ ?_; k_updF)
  | (with_reducible refine List.mem_append.mpr (Or.inr ?_); k_updF)
  | (with_reducible refine List.mem_append.mpr (Or.inl ?_); k_updF))
local macro_rules | `(tactic| k_mem) => `(tactic| k_updF)
local macro_rules | `(tactic| walk_at "execs cons") => `(tactic| (with_reducible refine gen_toks ?_; intro tk9 htk9))
local macro_rules | `(tactic| walk_at "execs nil") => `(tactic| (with_reducible refine gen_toks ?_; intro tk9 htk9))


def isCh (ts : List Token) (i : Nat) : Bool := match ts[i]? with
  | some (.chars _) => true
  | _ => false
def q2 (ts : List Token) (n : Int) : Bool := (match ts[n.toNat]? with
  | some (.chars x) => decide (39 ∈ x)
  | _ => false) || isCh ts (n.toNat + 1)
theorem q2_c {ts : List Token} {i : Nat} {x : List Nat} (h : ts[i]? = some (.chars x)) : q2 ts (i : Int) = (decide (39 ∈ x) || isCh ts (i + 1)) := by
  unfold q2; rw [Int.toNat_natCast, h]
theorem isCh_inv {ts : List Token} {i : Nat} (h : isCh ts i = true) : ∃ x, ts[i]? = some (.chars x) := by
  unfold isCh at h
  split at h
  · rename_i x e; exact ⟨x, e⟩
  · cases h
theorem isCh_f {ts : List Token} {i c n : Nat} (h : ts[i]? = some (.field c n)) : isCh ts i = false := by unfold isCh; rw [h]
theorem isCh_c {ts : List Token} {i : Nat} {x : List Nat} (h : ts[i]? = some (.chars x)) : isCh ts i = true := by unfold isCh; rw [h]
theorem any_isCh {ts : List Token} {n i : Nat} (hn : n = ts.length) : ((List.map (fun i : Nat => (i : Int)) (List.filter (isCh ts) (List.range n))).any fun x => x == (i : Int) + 1) = isCh ts (i + 1) := by
  rw [Bool.eq_iff_iff, List.any_eq_true]
  constructor
  · rintro ⟨x, hx, he⟩
    obtain ⟨k, hk, rfl⟩ := List.mem_map.mp hx
    have h1 := (List.mem_filter.mp hk).2
    have h2 := eq_of_beq he
    have h3 : k = i + 1 := by omega
    rw [← h3]; exact h1
  · intro h
    obtain ⟨x, hx⟩ := isCh_inv h
    have hlt := (List.getElem?_eq_some_iff.mp hx).1
    exact ⟨((i + 1 : Nat) : Int), List.mem_map.mpr ⟨i + 1, List.mem_filter.mpr ⟨List.mem_range.mpr (by omega), h⟩, rfl⟩, beq_iff_eq.mpr (by omega)⟩
theorem plainT_of {ts : List Token} {n : Nat} (hn : n = ts.length) (h : (List.map (fun i : Nat => (i : Int)) (List.filter (isCh ts) (List.range n))).filter (q2 ts) = []) : PlainT ts := by
  intro i x hx
  have hlt := (List.getElem?_eq_some_iff.mp hx).1
  have hm : (i : Int) ∈ List.map (fun i : Nat => (i : Int)) (List.filter (isCh ts) (List.range n)) := List.mem_map.mpr ⟨i, List.mem_filter.mpr ⟨List.mem_range.mpr (by omega), isCh_c hx⟩, rfl⟩
  have h2 := List.filter_eq_nil_iff.mp h _ hm
  rw [q2_c hx] at h2
  simp only [Bool.or_eq_true, decide_eq_true_eq, not_or] at h2
  exact ⟨h2.1, fun y hy => h2.2 (isCh_c hy)⟩
section
variable {prog : Program} {w : World} {A : Around} {E : Value → Shared → Prop} {s : Shared} {h₀ : Heap} {L l : Addr} {news : List (Addr × Obj)} {us : List Value} {v : Value} {n i : Nat} {Q : Value → Shared → Prop}
theorem item_at {value slice : PySem.Expr} {u : Tok} (N : News h₀ L s.heap news) (hm : (l, listOf us.toArray n) ∈ news) (hx : us[i]? = some v) (hi : i < 1000) (h : Q v s)
    (hs : subscripted slice false (.ref l) (.int (i : Int) u) = operate [.ref l, .int (i : Int) u] (getItem (.ref l) (.int (i : Int) u)) := by with_unfolding_all rfl) :
    wpAny (model prog w) A (subscriptTail value slice (.ref l) (.int (i : Int) u)) Q E s :=
  have hL := N.isList hm
  tail_any hL.typeIs slot_list_getitem.lookup (wpAny_getItem_list hL (by omega) (by omega) (by simpa using hx) h) hs
end
local macro_rules | `(tactic| walk_at "eval Name") => `(tactic| ((with_reducible show wpAny _ _ (eval (Expr.Name _ _) (compEnvC _ _ _ _)) _ _ _); k_dflt (first
  | refine my_own (by k_asm) (by assumption) ?_
  | refine LCgL.ld_global (by k_asm) (by k_asm) (by k_asm) (by k_is) ?_
  | refine kcf_cell (by k_asm) (by rfl) (by k_mem) (by k_asm) ?_)))
local macro_rules | `(tactic| walk_at "compareOp In str str") => `(tactic| (refine in_quote ?_))
local macro_rules | `(tactic| walk_at "subscriptTail Name Name ref int") => `(tactic| (refine' item_at ?k1 ?k2 ?k3 ?k4 ?_ ?k5; (case k1 => k_asm); (case k2 => k_mem); (case k3 => assumption); (case k4 => omega); (case k5 => with_unfolding_all rfl)))
local macro_rules | `(tactic| walk_at "compareOp Eq ref ref") => `(tactic| (
  refine' toks_eq ?k1 ?k2 ?k3 ?k4 ?k5 ?k6 ?k7 ?k8 ?k9 ?_; (case k1 => k_asm); (case k2 => k_mem); (case k3 => k_mem); (case k4 => assumption); (case k5 => (intro p9 h9; simp only [List.mem_append, List.mem_cons, h9, or_true, true_or])); (case k6 => assumption); (case k7 => (intro p9 h9; simp only [List.mem_append, List.mem_cons, h9, or_true, true_or])); (case k8 => assumption); (case k9 => ktr_units)))
local macro_rules | `(tactic| walk_at "compareOp Eq ref ref") => `(tactic| (refine' ints_eq_nil ?k2 ?k3 ?k4 ?k5 ?k6 ?_; (case k2 => k_asm); (case k3 => k_mem); (case k4 => k_mem); (case k5 => assumption); (case k6 => ktr_units)))
local macro_rules | `(tactic| walk_at "compareOp NotEq ref ref") => `(tactic| (
  refine' toks_ne ?k1 ?k2 ?k3 ?k4 ?k5 ?k6 ?k7 ?k8 ?k9 ?_; (case k1 => k_asm); (case k2 => k_mem); (case k3 => k_mem); (case k4 => assumption); (case k5 => (intro p9 h9; simp only [List.mem_cons, h9, or_true])); (case k6 => assumption); (case k7 => (intro p9 h9; simp only [List.mem_cons, h9, or_true])); (case k8 => assumption); (case k9 => ktr_units)))
theorem law_h : PySem.Challenge.rw_ey0005_01.Holds := hd (by
  w_top off
  k_fill
  intro w s₀ s₁ mg mb G Y fa o pm cd doc dV kV ho hd hcd hD hmg hg args vals as hpre hlay hrd hwl hlo
  have KX := kIn_of Y
  have X := (Ground.X G).1
  have V := (Ground.X G).2
  refine Ground.open G ?_
  intro T B D TE TW
  try (refine guard_noD D (by decide +kernel) ?_; clear D)
  have hT9 : TabsAt [(73, 69)] _ := List.forall_mem_cons.mpr ⟨tab_of (x := PySem.Str.ofString "untokenize_pattern") (c := 73) (P := 69) T KX rfl (by kernel_rfl), fun _ h => nomatch h⟩
  clear hmg
  wrow_args hpre hlay hrd hwl hlo
  refine enter_call ?_
  w_top on
  refine my_post hT9 (fun _ _ => rfl) ?hp ?_
  case hp => first | rfl | wrow_post
  w_call any ho hd hcd hD T F
  clear hd
  kn_ghosts F T
  k_drop
  repeat' ((fail_if_success (with_reducible show wpAny _ _ (call (Value.ref _) _ _) _ _ _)); (fail_if_success (with_reducible show wpAny _ _ (eval (Expr.ListComp _ _ _ _) _) _ _ _)); (fail_if_success (with_reducible show wpAny _ _ (exec (Stmt.Assign _ (Expr.ListComp _ _ _ _) _) _) _ _ _)); (fail_if_success (with_reducible show wpAny _ _ (call (Value.type _) _ _) _ _ _)); (fail_if_success (with_reducible show wpAny _ _ (pyIter _) _ _ _)); first | (k_unfold; (try dsimp only)) | (k_end; wrow_close) | walk1 | (dsimp only; walk1) | (leave1; walk_say "STEP leave1"; try dsimp only) | fail "no step")
  k_dflt (refine' pieces_c ?k1 ?k2 ?k3 ?k4 ?k5 ?k6 ?k7 ?k8 ?k9 ?k10 ?k11 ?_)
  case k1 => k_asm
  case k2 => k_asm
  case k3 => k_asm
  case k4 => k_asm
  case k5 => k_asm
  case k6 => first | exact rfl | assumption
  case k7 => k_asm
  case k8 => k_asm
  case k9 => omega
  case k10 => ktr_room
  case k11 => ktr_units
  intro v9 tl9 h9 tk9 F9 N9 O9 P9
  obtain ⟨pa, pus, pn, ps, e9, pm, pD, pG, pl1, pl2⟩ := P9
  subst e9
  have Z9 := offs O9
  dsimp only [List.map, List.cons_append, List.nil_append] at N9 Z9
  repeat' ((fail_if_success (with_reducible show wpAny _ _ (call (Value.ref _) _ _) _ _ _)); (fail_if_success (with_reducible show wpAny _ _ (eval (Expr.ListComp _ _ _ _) _) _ _ _)); (fail_if_success (with_reducible show wpAny _ _ (exec (Stmt.Assign _ (Expr.ListComp _ _ _ _) _) _) _ _ _)); (fail_if_success (with_reducible show wpAny _ _ (call (Value.type _) _ _) _ _ _)); (fail_if_success (with_reducible show wpAny _ _ (pyIter _) _ _ _)); first | (k_unfold; (try dsimp only)) | (k_end; wrow_close) | walk1 | (dsimp only; walk1) | (leave1; walk_say "STEP leave1"; try dsimp only) | fail "no step")
  k_dflt (refine' tokens_c ?k1 ?k2 ?k3 ?k4 ?k5 ?k6 ?k7 pD ?k8 pG.all pl2 ?k10 ?k11 ?_)
  case k1 => k_asm
  case k2 => k_asm
  case k3 => k_asm
  case k4 => k_asm
  case k5 => k_asm
  case k6 => first | exact rfl | assumption
  case k7 => k_mem
  case k8 => exact fun p hp => by simp only [List.mem_cons, hp, or_true]
  case k10 => ktr_room
  case k11 => ktr_units
  intro da dus dn tl10 h10 tk10 F10 N10 O10 dm dD
  rename Obj.data _ = Data.cell _ => hcR
  revert hcR
  rename Obj.data _ = Data.cell _ => hcL
  intro hcR
  obtain ⟨Z1, N11, Z11, hZ1, hT1⟩ := wpack N10 Z9 O10
  have dD1 := wdat dD (cell_ne hcL) (cell_ne hcR) tab_ne hZ1 hT1
  have dm1 := hT1 _ dm
  have pm1 := hZ1 _ pm
  clear N10 dm dD
  repeat' ((fail_if_success (with_reducible show wpAny _ _ (call (Value.ref _) _ _) _ _ _)); (fail_if_success (with_reducible show wpAny _ _ (eval (Expr.ListComp _ _ _ _) _) _ _ _)); (fail_if_success (with_reducible show wpAny _ _ (exec (Stmt.Assign _ (Expr.ListComp _ _ _ _) _) _) _ _ _)); (fail_if_success (with_reducible show wpAny _ _ (call (Value.type _) _ _) _ _ _)); (fail_if_success (with_reducible show wpAny _ _ (pyIter _) _ _ _)); first | (k_unfold; (try dsimp only)) | (k_end; wrow_close) | walk1 | (dsimp only; walk1) | (leave1; walk_say "STEP leave1"; try dsimp only) | fail "no step")
  k_dflt (refine' text_c ?k1 ?k2 ?k3 ?k4 ?k5 ?k6 ?k7 pD ?k8 pG.all pl2 ?k10 ?k11 ?_)
  case k1 => k_asm
  case k2 => k_asm
  case k3 => k_asm
  case k4 => k_asm
  case k5 => k_asm
  case k6 => first | exact rfl | assumption
  case k7 => k_mem
  case k8 => exact fun p hp => by simp only [List.mem_cons, hZ1 p hp, or_true]
  case k10 => ktr_room
  case k11 => ktr_units
  intro tt h12 tk12 F12 N12
  repeat' ((fail_if_success (with_reducible show wpAny _ _ (call (Value.ref _) _ _) _ _ _)); (fail_if_success (with_reducible show wpAny _ _ (eval (Expr.ListComp _ _ _ _) _) _ _ _)); (fail_if_success (with_reducible show wpAny _ _ (exec (Stmt.Assign _ (Expr.ListComp _ _ _ _) _) _) _ _ _)); (fail_if_success (with_reducible show wpAny _ _ (call (Value.type _) _ _) _ _ _)); (fail_if_success (with_reducible show wpAny _ _ (pyIter _) _ _ _)); first | (k_unfold; (try dsimp only)) | (k_end; wrow_close) | walk1 | (dsimp only; walk1) | (leave1; walk_say "STEP leave1"; try dsimp only) | fail "no step")
  have htl := textOf_len pG.all
  k_dflt (refine' tokenize_c (x := textOf ps) ?k1 ?k2 ?k3 ?k4 ?k5 ?k6 ?k7 (rep2_lt (text_lt pG.all)) ?k10 ?k11 ?_)
  case k1 => k_asm
  case k2 => k_asm
  case k3 => k_asm
  case k4 => k_asm
  case k5 => k_asm
  case k6 => first | exact rfl | assumption
  case k7 => omega
  case k10 => ktr_room
  case k11 => ktr_units
  intro ta tus tn tl13 h13 tk13 F13 N13 O13 tm tD
  rw [tz_text pG] at tD
  obtain ⟨Z2, N14, Z14, hZ2, hT2⟩ := wpack N13 Z11 O13
  have dD2 := dD1.mono hZ2
  have tD2 := tD.mono hT2
  have dm2 := hZ2 _ dm1
  have tm2 := hT2 _ tm
  have hfit := tokensOf_fit pG.all
  clear N13 tm tD dD1
  repeat' ((fail_if_success (with_reducible show wpAny _ _ (call (Value.ref _) _ _) _ _ _)); (fail_if_success (with_reducible show wpAny _ _ (eval (Expr.ListComp _ _ _ _) _) _ _ _)); (fail_if_success (with_reducible show wpAny _ _ (exec (Stmt.Assign _ (Expr.ListComp _ _ _ _) _) _) _ _ _)); (fail_if_success (with_reducible show wpAny _ _ (call (Value.type _) _ _) _ _ _)); (fail_if_success (with_reducible show wpAny _ _ (pyIter _) _ _ _)); first | (k_unfold; (try dsimp only)) | (k_end; wrow_close) | walk1 | (dsimp only; walk1) | (leave1; walk_say "STEP leave1"; try dsimp only) | fail "no step")
  have hok := tokens_okay pG.all pl2
  have htlen : (tokensOf ps).length ≤ 7 := Nat.le_trans (tokensOf_len ps) pl2
  k_dflt (refine' untokenize_c ?k1 ?k2 ?k3 ?k4 ?k5 ?k6 ?kC (.inl rfl) (AllBare.of_eq hg) (off69 ?o1 ?o2 Z14) ?k7 tD2 ?k8 hok htlen ?k10 ?k11 ?_)
  case k4 => exact news_sub (by k_asm) perm_in
  case k1 => k_asm
  case k2 => k_asm
  case k3 => k_asm
  case k5 => k_asm
  case k6 => first | exact rfl | assumption
  case kC => assumption
  case o1 => omega
  case o2 => omega
  case k7 => k_mem
  case k8 => exact fun p hp => by simp only [List.mem_cons, hp, or_true]
  case k10 => ktr_room
  case k11 => ktr_units
  intro ut h16 tk16 gs16 ps16 hps16 G16 F16 N16
  have N17 := news_sub N16 perm_out
  clear N16
  repeat' ((fail_if_success (with_reducible show wpAny _ _ (call (Value.ref _) _ _) _ _ _)); (fail_if_success (with_reducible show wpAny _ _ (eval (Expr.ListComp _ _ _ _) _) _ _ _)); (fail_if_success (with_reducible show wpAny _ _ (exec (Stmt.Assign _ (Expr.ListComp _ _ _ _) _) _) _ _ _)); (fail_if_success (with_reducible show wpAny _ _ (call (Value.type _) _ _) _ _ _)); (fail_if_success (with_reducible show wpAny _ _ (pyIter _) _ _ _)); first | (k_unfold; (try dsimp only)) | (k_end; wrow_close) | walk1 | (dsimp only; walk1) | (leave1; walk_say "STEP leave1"; try dsimp only) | fail "no step")
  refine wpAny_Assign_Name ?as ?sw
  case sw => with_unfolding_all rfl
  apply enum_ListComp
  case hclos => with_unfolding_all rfl
  case hcell => decide
  case hkind => with_unfolding_all rfl
  case hnames => decide
  case hxa => with_unfolding_all rfl
  case hxb => with_unfolding_all rfl
  case hab => decide
  repeat' ((fail_if_success (with_reducible show wpAny _ _ (call (Value.ref _) _ _) _ _ _)); (fail_if_success (with_reducible show wpAny _ _ (eval (Expr.ListComp _ _ _ _) _) _ _ _)); (fail_if_success (with_reducible show wpAny _ _ (exec (Stmt.Assign _ (Expr.ListComp _ _ _ _) _) _) _ _ _)); (fail_if_success (with_reducible show wpAny _ _ (call (Value.type _) _ _) _ _ _)); (fail_if_success (with_reducible show wpAny _ _ (pyIter _) _ _ _)); first | (k_unfold; (try dsimp only)) | (k_end; wrow_close) | walk1 | (dsimp only; walk1) | (leave1; walk_say "STEP leave1"; try dsimp only) | fail "no step")
  have hdl := dD2.length
  rw [List.length_map] at hdl
  refine' enum_src (q := isCh (tokensOf ps)) ?k0 ?k1 ?k2 ?k3 ?k4 ?g1 ?g2 ?g3
  case k0 => rfl
  case k1 => k_asm
  case k2 => k_asm
  case k3 => k_mem
  case k4 => omega
  case g1 =>
    intro C i t x s₃ m₃ E' hx F3 N3 ha hb
    have hi : i < (tokensOf ps).length := by
      have := (List.getElem?_eq_some_iff.mp hx).1
      omega
    obtain ⟨v', hv1, hv2⟩ := dD2.get (k := i) (by rw [List.length_map]; exact hi)
    rw [hx] at hv1
    cases hv1
    rw [List.getElem_map] at hv2
    have hti := List.getElem?_eq_getElem hi
    generalize (tokensOf ps)[i] = p at hv2 hti
    obtain ⟨c8, n8, t8, b8, k8, k7, t7, t6, t5, e1, e2, m1, m2⟩ | ⟨x8, t8, k8, t7, t6, e1, e2, m1⟩ := tok_open hv2 <;> subst e1 <;> subst e2
    · repeat' ((fail_if_success (with_reducible show wpAny _ _ (call (Value.ref _) _ _) _ _ _)); (fail_if_success (with_reducible show wpAny _ _ (eval (Expr.ListComp _ _ _ _) _) _ _ _)); (fail_if_success (with_reducible show wpAny _ _ (exec (Stmt.Assign _ (Expr.ListComp _ _ _ _) _) _) _ _ _)); (fail_if_success (with_reducible show wpAny _ _ (call (Value.type _) _ _) _ _ _)); (fail_if_success (with_reducible show wpAny _ _ (pyIter _) _ _ _)); first | (k_unfold; (try dsimp only)) | (k_end; wrow_close) | walk1 | (dsimp only; walk1) | (leave1; walk_say "STEP leave1"; try dsimp only) | fail "no step")
      · rw [isCh_f hti]; decide
      · exact keeps_toks
    · repeat' ((fail_if_success (with_reducible show wpAny _ _ (call (Value.ref _) _ _) _ _ _)); (fail_if_success (with_reducible show wpAny _ _ (eval (Expr.ListComp _ _ _ _) _) _ _ _)); (fail_if_success (with_reducible show wpAny _ _ (exec (Stmt.Assign _ (Expr.ListComp _ _ _ _) _) _) _ _ _)); (fail_if_success (with_reducible show wpAny _ _ (call (Value.type _) _ _) _ _ _)); (fail_if_success (with_reducible show wpAny _ _ (pyIter _) _ _ _)); first | (k_unfold; (try dsimp only)) | (k_end; wrow_close) | walk1 | (dsimp only; walk1) | (leave1; walk_say "STEP leave1"; try dsimp only) | fail "no step")
      · rw [isCh_c hti]; decide
      · exact keeps_toks
  case g2 =>
    intro C i t x s₃ m₃ E' hx F3 N3 ha hb
    repeat' ((fail_if_success (with_reducible show wpAny _ _ (call (Value.ref _) _ _) _ _ _)); (fail_if_success (with_reducible show wpAny _ _ (eval (Expr.ListComp _ _ _ _) _) _ _ _)); (fail_if_success (with_reducible show wpAny _ _ (exec (Stmt.Assign _ (Expr.ListComp _ _ _ _) _) _) _ _ _)); (fail_if_success (with_reducible show wpAny _ _ (call (Value.type _) _ _) _ _ _)); (fail_if_success (with_reducible show wpAny _ _ (pyIter _) _ _ _)); first | (k_unfold; (try dsimp only)) | (k_end; wrow_close) | walk1 | (dsimp only; walk1) | (leave1; walk_say "STEP leave1"; try dsimp only) | fail "no step")
    all_goals first | exact ⟨⟨_, rfl⟩, keeps_same⟩ | exact ⟨_, rfl⟩ | exact keeps_same
  case g3 =>
    intro xa xus xn h18 tk18 F18 N18 l18 hI
    simp only [AllLt] at l18
    repeat' ((fail_if_success (with_reducible show wpAny _ _ (call (Value.ref _) _ _) _ _ _)); (fail_if_success (with_reducible show wpAny _ _ (eval (Expr.ListComp _ _ _ _) _) _ _ _)); (fail_if_success (with_reducible show wpAny _ _ (exec (Stmt.Assign _ (Expr.ListComp _ _ _ _) _) _) _ _ _)); (fail_if_success (with_reducible show wpAny _ _ (call (Value.type _) _ _) _ _ _)); (fail_if_success (with_reducible show wpAny _ _ (pyIter _) _ _ _)); first | (k_unfold; (try dsimp only)) | (k_end; wrow_close) | walk1 | (dsimp only; walk1) | (leave1; walk_say "STEP leave1"; try dsimp only) | fail "no step")
    apply my_ListComp (keepInt (q2 (tokensOf ps))) sameInt
    case hclos => with_unfolding_all rfl
    case hcell => decide
    case hkind => with_unfolding_all rfl
    case hnames => decide
    case hx => with_unfolding_all rfl
    repeat' ((fail_if_success (with_reducible show wpAny _ _ (call (Value.ref _) _ _) _ _ _)); (fail_if_success (with_reducible show wpAny _ _ (eval (Expr.ListComp _ _ _ _) _) _ _ _)); (fail_if_success (with_reducible show wpAny _ _ (exec (Stmt.Assign _ (Expr.ListComp _ _ _ _) _) _) _ _ _)); (fail_if_success (with_reducible show wpAny _ _ (call (Value.type _) _ _) _ _ _)); (fail_if_success (with_reducible show wpAny _ _ (pyIter _) _ _ _)); first | (k_unfold; (try dsimp only)) | (k_end; wrow_close) | walk1 | (dsimp only; walk1) | (leave1; walk_say "STEP leave1"; try dsimp only) | fail "no step")
    have hxl : xus.length ≤ 7 := by
      rw [hI.length, List.length_map]
      refine Nat.le_trans (List.length_filter_le _ _) ?_
      rw [List.length_range]; omega
    refine' ints_src (q := q2 (tokensOf ps)) ?k0 ?k1 ?k2 ?k3 hI ?k5 ?g1 ?g2 ?g3
    case k0 => rfl
    case k1 => k_asm
    case k2 => k_asm
    case k3 => k_mem
    case k5 => omega
    case g1 =>
      intro C n t s₃ m₃ E' hn F3 N3 hx hk3
      obtain ⟨i, hi, rfl⟩ := List.mem_map.mp hn
      obtain ⟨hi1, hi2⟩ := List.mem_filter.mp hi
      have hi1 := List.mem_range.mp hi1
      rw [hdl] at hi1
      obtain ⟨x9, hx9⟩ := isCh_inv hi2
      obtain ⟨v', hv1, hv2⟩ := dD2.get (k := i) (by rw [List.length_map]; exact hi1)
      rw [List.getElem_map, (List.getElem?_eq_some_iff.mp hx9).2] at hv2
      obtain ⟨c8, n8, t8, b8, k8, k7, t7, t6, t5, e1, e2, m1, m2⟩ | ⟨x8, t8, k8, t7, t6, e1, e2, m1⟩ := tok_open hv2
      · cases e1
      · cases e1
        subst e2
        have hi9 : i < 1000 := by omega
        repeat' ((fail_if_success (with_reducible show wpAny _ _ (call (Value.ref _) _ _) _ _ _)); (fail_if_success (with_reducible show wpAny _ _ (eval (Expr.ListComp _ _ _ _) _) _ _ _)); (fail_if_success (with_reducible show wpAny _ _ (exec (Stmt.Assign _ (Expr.ListComp _ _ _ _) _) _) _ _ _)); (fail_if_success (with_reducible show wpAny _ _ (call (Value.type _) _ _) _ _ _)); (fail_if_success (with_reducible show wpAny _ _ (pyIter _) _ _ _)); first | (k_unfold; (try dsimp only)) | (k_end; wrow_close) | walk1 | (dsimp only; walk1) | (leave1; walk_say "STEP leave1"; try dsimp only) | fail "no step")
        · rename 39 ∈ x9 => h39
          rw [q2_c hx9, decide_eq_true h39]; rfl
        · exact keeps_toks
        · rename ¬ 39 ∈ x9 => h39
          rename List.any _ _ = true => hany
          rw [any_isCh hdl] at hany
          rw [q2_c hx9, decide_eq_false h39, hany]; rfl
        · exact keeps_toks
        · rename ¬ 39 ∈ x9 => h39
          rename List.any _ _ = false => hany
          rw [any_isCh hdl] at hany
          rw [q2_c hx9, decide_eq_false h39, hany]; rfl
        · exact keeps_toks
    case g2 =>
      intro C n t s₃ m₃ E' hn F3 N3 hx
      repeat' ((fail_if_success (with_reducible show wpAny _ _ (call (Value.ref _) _ _) _ _ _)); (fail_if_success (with_reducible show wpAny _ _ (eval (Expr.ListComp _ _ _ _) _) _ _ _)); (fail_if_success (with_reducible show wpAny _ _ (exec (Stmt.Assign _ (Expr.ListComp _ _ _ _) _) _) _ _ _)); (fail_if_success (with_reducible show wpAny _ _ (call (Value.type _) _ _) _ _ _)); (fail_if_success (with_reducible show wpAny _ _ (pyIter _) _ _ _)); first | (k_unfold; (try dsimp only)) | (k_end; wrow_close) | walk1 | (dsimp only; walk1) | (leave1; walk_say "STEP leave1"; try dsimp only) | fail "no step")
      all_goals first | exact ⟨⟨_, rfl⟩, keeps_same⟩ | exact ⟨_, rfl⟩ | exact keeps_same
    case g3 =>
      intro ya yus yn h19 tk19 F19 N19 hI2
      repeat' ((fail_if_success (with_reducible show wpAny _ _ (call (Value.ref _) _ _) _ _ _)); (fail_if_success (with_reducible show wpAny _ _ (eval (Expr.ListComp _ _ _ _) _) _ _ _)); (fail_if_success (with_reducible show wpAny _ _ (exec (Stmt.Assign _ (Expr.ListComp _ _ _ _) _) _) _ _ _)); (fail_if_success (with_reducible show wpAny _ _ (call (Value.type _) _ _) _ _ _)); (fail_if_success (with_reducible show wpAny _ _ (pyIter _) _ _ _)); first | (k_unfold; (try dsimp only)) | (k_end; wrow_close) | walk1 | (dsimp only; walk1) | (leave1; walk_say "STEP leave1"; try dsimp only) | fail "no step")
      k_dflt (refine' written_c ?k1 ?k2 ?k3 ?k4 ?k5 ?k6 ?k7 dD2 ?k8 hok htlen ?k10 ?k11 ?_)
      ((case k1 => k_asm); (case k2 => k_asm); (case k3 => k_asm); (case k4 => k_asm); (case k5 => k_asm); (case k6 => first | exact rfl | assumption))
      case k7 => k_mem
      case k8 => exact fun p hp => by simp only [List.mem_cons, hp, or_true]
      case k10 => ktr_room
      case k11 => ktr_units
      intro wt h20 tk20 F20 N20
      repeat' ((fail_if_success (with_reducible show wpAny _ _ (call (Value.ref _) _ _) _ _ _)); (fail_if_success (with_reducible show wpAny _ _ (eval (Expr.ListComp _ _ _ _) _) _ _ _)); (fail_if_success (with_reducible show wpAny _ _ (exec (Stmt.Assign _ (Expr.ListComp _ _ _ _) _) _) _ _ _)); (fail_if_success (with_reducible show wpAny _ _ (call (Value.type _) _ _) _ _ _)); (fail_if_success (with_reducible show wpAny _ _ (pyIter _) _ _ _)); first | (k_unfold; (try dsimp only)) | (k_end; wrow_close) | walk1 | (dsimp only; walk1) | (leave1; walk_say "STEP leave1"; try dsimp only) | fail "no step")
      · rename List.filter _ _ = [] => hpl
        have hP := plainT_of hdl hpl
        have hback := tz_written (fine_tokens pG.all) hP
        k_dflt (refine' tokenize_c (x := written (tokensOf ps)) ?k1 ?k2 ?k3 ?k4 ?k5 ?k6 (tokens_written pG.all pl2) (rep2_lt (written_lt hok)) ?k10 ?k11 ?_)
        ((case k1 => k_asm); (case k2 => k_asm); (case k3 => k_asm); (case k4 => k_asm); (case k5 => k_asm); (case k6 => first | exact rfl | assumption))
        case k10 => ktr_room
        case k11 => ktr_units
        intro ra rus rn tl21 h21 tk21 F21 N21 O21 rm rD
        rw [hback] at rD
        have rD2 := rD
        repeat' ((fail_if_success (with_reducible show wpAny _ _ (call (Value.ref _) _ _) _ _ _)); (fail_if_success (with_reducible show wpAny _ _ (eval (Expr.ListComp _ _ _ _) _) _ _ _)); (fail_if_success (with_reducible show wpAny _ _ (exec (Stmt.Assign _ (Expr.ListComp _ _ _ _) _) _) _ _ _)); (fail_if_success (with_reducible show wpAny _ _ (call (Value.type _) _ _) _ _ _)); (fail_if_success (with_reducible show wpAny _ _ (pyIter _) _ _ _)); first | (k_unfold; (try dsimp only)) | (k_end; wrow_close) | walk1 | (dsimp only; walk1) | (leave1; walk_say "STEP leave1"; try dsimp only) | fail "no step")
        exact G16
      · rename ¬ List.filter _ _ = [] => hpl
        rw [decide_eq_false hpl]; rfl
      · exact G16
      · rw [beq_self_eq_true]
      · exact G16)
end Mine
end

theorem PySem.Challenge.cw_ey0005_01_holds : PySem.Challenge.rw_ey0005_01.Holds := by
  exact Mine.law_h
