import PyProof.Rows.All
import Wide.All
import OpenK.AllK
import Wide.FinOn
import PySem.Challenge.RW_yi0059_01
set_option Elab.async false
set_option maxRecDepth 100000
set_option linter.unusedVariables false
namespace Mine
section P1
open PySem PySem.W PyProof.Rows PySem.Calls
theorem pow_kind : builtinKind "pow" = none := by decide +kernel
theorem pow_plain : plainId "pow" = true := by decide +kernel
theorem pow_entry : entryFor table "pow" = some Builtin.«pow» := entryFor_of_fast (by kernel_rfl)
theorem pow_args (a b c : Value) : argsOk "pow" ⟨[a, b, c], []⟩ := by unfold argsOk; kernel_rfl
theorem gives_pow3 (e : Int) (t u v : Tok) (he : 0 ≤ e) :
    Gives (Builtin.«int.__pow__» ⟨[.int 17 t, .int e u, .int 3329 v], []⟩) (.int (Builtin.powMod 17 e.natAbs 3329)) :=
  .of_wp fun M A E s Q h => by
    have h1 : ¬ e < 0 := by omega
    obtain ⟨hp, g, d, tk, os⟩ := s
    wp_walk
    exact ⟨_, rfl, h⟩
theorem gives_powinv (t u v : Tok) :
    Gives (Builtin.«int.__pow__» ⟨[.int 128 t, .int (-1) u, .int 3329 v], []⟩) (.int 3303) :=
  .of_wp fun M A E s Q h => by
    obtain ⟨hp, g, d, tk, os⟩ := s
    wp_walk
    exact ⟨_, rfl, h⟩
section
variable {prog : Program} {w : World} {A : Around} {E : Value → Shared → Prop} {s : Shared} {t u v : Tok} {Q : Value → Shared → Prop}
set_option maxHeartbeats 1000000 in
theorem call_pow_gen {a e m r : Int} (g : Gives (Builtin.«int.__pow__» ⟨[.int a t, .int e u, .int m v], []⟩) (.int r)) (h : ∀ t tk, Q (.int r t) { s with toks := tk }) :
    wpAny (model prog w) A (call (.builtin "pow") [.int a t, .int e u, .int m v]) Q E s := by
  refine call_function_entry pow_kind pow_plain pow_entry (pow_args _ _ _) ?_
  obtain ⟨hp, gs, d, tk, os⟩ := s
  have hT : (⟨hp, gs, d, tk, os⟩ : Shared).TypeIs (.int a t) "int" := rfl
  have f3 : typeLookup (Value.type "int") (Str.ofString "__pow__") = pure (some (Value.builtin "int.__pow__")) := F.slot_int_pow.lookup
  have f4 : bindSpecial (Value.builtin "int.__pow__") (Value.int a t) = pure (Value.builtin "int.__pow__", [Value.int a t]) := F.slot_int_pow.bind (.int a t)
  repeat (any_goals (first | assumption | ((with_reducible show wpAny _ _ (call (Value.builtin "int.__pow__") _) _ _ _); refine call_gives F.slot_int_pow hT F.entry_int_pow (F.args_int_pow_3 _ _ _) g ?_; dsimp only [Made.post]) | wp_step))
  exact ⟨_, rfl, h _ _⟩
theorem call_pow3 {e : Int} (he : 0 ≤ e) (h : ∀ t tk, Q (.int (Builtin.powMod 17 e.natAbs 3329) t) { s with toks := tk }) :
    wpAny (model prog w) A (call (.builtin "pow") [.int 17 t, .int e u, .int 3329 v]) Q E s := call_pow_gen (gives_pow3 e t u v he) h
theorem call_powinv (h : ∀ t tk, Q (.int 3303 t) { s with toks := tk }) :
    wpAny (model prog w) A (call (.builtin "pow") [.int 128 t, .int (-1) u, .int 3329 v]) Q E s := call_pow_gen (gives_powinv t u v) h
end
end P1
section P2
open PySem PySem.W PyProof.Rows PySem.Calls PySem.NumText
/-- the texts of _br, and its value -/
def tA (k : Int) : PySem.Str := baseText "0b" 2 (Builtin.bitAnd k (2 ^ Int.toNat 7 - 1))
def tB (k : Int) : PySem.Str := Txt.slice (tA k) (some 2) none
def tC (k : Int) : PySem.Str := Txt.zfill (tB k) 7
def brN (k : Nat) : Nat := (List.range 7).foldl (fun a j => 2 * a + (k / 2 ^ j) % 2) 0
def brZ (k : Int) : Int := (brN k.toNat : Nat)

theorem brZ_nonneg (k : Int) : 0 ≤ brZ k := Int.natCast_nonneg _
theorem seen_table : (List.range 128).map (fun i => numTextOf (Txt.sliceBy (tC ((i : Nat) : Int)) none none (-1, 0))) = (List.range 128).map (fun i => (List.range 7).map (fun j => 48 + (i / 2 ^ j) % 2)) := by
  kernel_rfl
theorem at_table {α : Type} {f g : Nat → α} (h : (List.range 128).map f = (List.range 128).map g) {n : Nat} (hn : n < 128) : f n = g n := by
  have e := congrArg (fun l => l[n]?) h
  simpa [hn] using e
theorem to_nat {k : Int} (h0 : 0 ≤ k) (h1 : k < 128) : ∃ n : Nat, n < 128 ∧ k = (n : Int) := ⟨k.toNat, by omega, by omega⟩
theorem lenA : ∀ n : Nat, n < 128 → (tA (n : Int)).length ≤ 16 ∧ (tB (n : Int)).length ≤ 16 ∧ (tC (n : Int)).length ≤ 16 := by decide +kernel
theorem len_tA {k : Int} (h0 : 0 ≤ k) (h1 : k < 128) : (tA k).length ≤ sizeLine := by
  obtain ⟨n, hn, rfl⟩ := to_nat h0 h1
  exact Nat.le_trans (lenA n hn).1 (by decide)
theorem len_tC {k : Int} (h0 : 0 ≤ k) (h1 : k < 128) : (tC k).length ≤ sizeLine := by
  obtain ⟨n, hn, rfl⟩ := to_nat h0 h1
  exact Nat.le_trans (lenA n hn).2.2 (by decide)
theorem by_tok (x : PySem.Str) (u : Tok) : Txt.sliceBy x none none (-1, u) = Txt.sliceBy x none none (-1, 0) := rfl
theorem seen_at {k : Int} (h0 : 0 ≤ k) (h1 : k < 128) (u : Tok) : numTextOf (Txt.sliceBy (tC k) none none (-1, u)) = (List.range 7).map (fun j => 48 + (k.toNat / 2 ^ j) % 2) := by
  obtain ⟨n, hn, rfl⟩ := to_nat h0 h1
  rw [by_tok]
  exact at_table seen_table hn
theorem read_table : (List.range 128).map (fun i => (int_private% "readNumeral") 0 2 (((List.range 7).map (fun j => 48 + (i / 2 ^ j) % 2)).takeWhile (· != 0))) = (List.range 128).map (fun i => (int_private% "Numeral.value") (brN i : Nat)) := by
  kernel_rfl
theorem seen_len : ∀ i : Nat, i < 128 → (((List.range 7).map (fun j => 48 + (i / 2 ^ j) % 2)).takeWhile (· != 0)).length = 7 ∧ ((List.range 7).map (fun j => 48 + (i / 2 ^ j) % 2)).length = 7 := by decide +kernel
theorem wp_text2 {M : Model} {A : Around} {E : Value → Shared → Prop} {s : Shared} {Q : Value → Shared → Prop} {v : Value} {text : List Nat} {n : Int}
    (hs : (text.takeWhile (· != 0)).length ≤ 640) (hr : (int_private% "readNumeral") 0 2 (text.takeWhile (· != 0)) = (int_private% "Numeral.value") n)
    (ha : ((text.takeWhile (· != 0)).length == text.length) = true) (h : Q (.int n s.toks) { s with toks := s.toks + 1 }) :
    wpAny M A ((int_private% "intFromText") v text 2) Q E s := by
  obtain ⟨hp, g, d, tk, os⟩ := s
  repeat (any_goals (first
    | assumption
    | (with_reducible refine wpAny_ite_true (decide_eq_true hs) ?_)
    | (with_reducible refine wpAny_ite_true (decide_eq_true ha) ?_)
    | wp_step))
  all_goals (try rw [hr])
  all_goals (try dsimp only)
  repeat (any_goals (first
    | assumption
    | (with_reducible refine wpAny_ite_true (decide_eq_true hs) ?_)
    | (with_reducible refine wpAny_ite_true (decide_eq_true ha) ?_)
    | wp_step))
structure Hid (p : Prop) : Prop where
  out : p
set_option maxHeartbeats 4000000 in
theorem gives_int2 {x : PySem.Str} {u v : Tok} {n : Int} (hk : Hid (((numTextOf x).takeWhile (· != 0)).length ≤ 640 ∧ (int_private% "readNumeral") 0 2 ((numTextOf x).takeWhile (· != 0)) = (int_private% "Numeral.value") n ∧ (((numTextOf x).takeWhile (· != 0)).length == (numTextOf x).length) = true)) :
    Gives (Builtin.«int.__new__» ⟨[.type "int", .str x u, .int 2 v], []⟩) (.int n) :=
  .of_wp fun M A E s Q h => by
    obtain ⟨hp, g, d, tk, os⟩ := s
    have f1 := F.conv_sub_int
    have f2 := F.madeHere_int
    have f6 : typeOf (.str x u) = pure (.type "str") := rfl
    repeat (any_goals (first
      | assumption
      | ((with_reducible show wpAny _ _ ((int_private% "intFromText") _ _ _) _ _ _); refine wp_text2 hk.out.1 hk.out.2.1 hk.out.2.2 ?_)
      | wp_step))
    all_goals first | exact ⟨_, rfl, h⟩ | skip
theorem initArgs3 (a b c : Value) : argsOk "object.__init__" ⟨[a, b, c], []⟩ := by
  unfold argsOk; rw [signature?_of (id := "object.__init__") (n := ['_', '_', 't', 'i', 'n', 'i', '_', '_']) (o := ['t', 'c', 'e', 'j', 'b', 'o']) (by kernel_rfl) F.owner_object]; kernel_rfl
theorem typeCall_int_2 (a b : Value) : checkTypeCall "int" ⟨[a, b], []⟩ = pure () := by kernel_rfl
theorem newCall_int_2 (a b : Value) : checkBuiltinCall "int.__new__" ⟨[.type "int", a, b], []⟩ = pure () := by kernel_rfl
section
variable {prog : Program} {w : World} {A : Around} {E : Value → Shared → Prop} {s : Shared} {t u v : Tok} {Q : Value → Shared → Prop}
theorem call_int2 {x : PySem.Str} {n : Int} (hk : Hid (((numTextOf x).takeWhile (· != 0)).length ≤ 640 ∧ (int_private% "readNumeral") 0 2 ((numTextOf x).takeWhile (· != 0)) = (int_private% "Numeral.value") n ∧ (((numTextOf x).takeWhile (· != 0)).length == (numTextOf x).length) = true))
    (h : Q (.int n s.toks) { s with toks := s.toks + 1 }) : wpAny (model prog w) A (call (.type "int") [.str x u, .int 2 v]) Q E s :=
  callType_new F.called_int F.newNe_int (typeCall_int_2 _ _) (newCall_int_2 _ _) (fun obj => initArgs3 obj _ _) F.entry_int_new (gives_int2 hk).meets (show (Made.int n).post _ s from ⟨rfl, h⟩)
theorem call_br {k : Int} {uk : Tok} (h0 : 0 ≤ k) (h1 : k < 128) (h : ∀ t tk, Q (.int (brZ k) t) { s with toks := tk }) :
    wpAny (model prog w) A (call (.type "int") [.str (Txt.sliceBy (tC k) none none (-1, uk)) u, .int 2 v]) Q E s := by
  refine call_int2 (n := brZ k) ⟨?_⟩ (h _ _)
  rw [seen_at h0 h1]
  obtain ⟨n, hn, rfl⟩ := to_nat h0 h1
  obtain ⟨e1, e2⟩ := seen_len n hn
  refine ⟨?_, ?_, ?_⟩
  · show ((List.map (fun j => 48 + (n / 2 ^ j) % 2) (List.range 7)).takeWhile (· != 0)).length ≤ 640
    rw [e1]; decide
  · exact at_table read_table hn
  · show (((List.map (fun j => 48 + (n / 2 ^ j) % 2) (List.range 7)).takeWhile (· != 0)).length == (List.map (fun j => 48 + (n / 2 ^ j) % 2) (List.range 7)).length) = true
    rw [e1, e2]; rfl
theorem call_binK {k : Int} (h0 : 0 ≤ k) (h1 : k < 128) (h : ∀ t tk, Q (.str (tA k) t) { s with toks := tk }) :
    wpAny (model prog w) A (call (.builtin "bin") [.int (Builtin.bitAnd k (2 ^ Int.toNat 7 - 1)) u]) Q E s :=
  P.bin_of_int (h _ _) (len_tA h0 h1)
theorem call_zf {k : Int} (h : ∀ t' c, Q (.str (tC k) t') { s with toks := c }) : wpAny (model prog w) A (call (.builtin "str.zfill") [.str (tB k) t, .int 7 u]) Q E s :=
  SC.zfill (by decide +kernel) h
variable {h₀ : Heap} {L : Addr} {m : Str → Option Value} {news : List (Addr × Obj)} {value slice : PySem.Expr}
theorem slice_tB {k i : Int} {ui : Tok} (hF : Fr h₀ L s.heap m) (hN : News h₀ L s.heap news) (h0 : 0 ≤ k) (h1 : k < 128) (hi : i = 2) (h : ∀ h' t' c, Fr h₀ L h' m → News h₀ L h' news → Q (.str (tB k) t') { s with heap := h', toks := c })
    (hs : subscripted slice false (.str (tA k) t) (.ref s.heap.objs.size) = operate [.ref s.heap.objs.size, .str (tA k) t] (getItem (.str (tA k) t) (.ref s.heap.objs.size)) := by with_unfolding_all rfl)
    (ht : ∀ r, letTemporaryGo value (.str (tA k) t) r = pure () := by intro _; with_unfolding_all rfl) :
    wpAny (model prog w) A (subscriptTail value slice (.str (tA k) t) (.ref s.heap.objs.size)) Q E { s with heap := s.heap.push { cls := .type "slice", data := .fields #[.int i ui, .none, .none] } } := by
  subst hi
  exact slice_strN_sn hF hN h hs ht (len_tA h0 h1)
theorem slice_tD {k i : Int} {ui : Tok} (hF : Fr h₀ L s.heap m) (hN : News h₀ L s.heap news) (h0 : 0 ≤ k) (h1 : k < 128) (hi : i = -1) (h : ∀ h' t' c, Fr h₀ L h' m → News h₀ L h' news → Q (.str (Txt.sliceBy (tC k) none none (-1, ui)) t') { s with heap := h', toks := c })
    (hs : subscripted slice false (.str (tC k) t) (.ref s.heap.objs.size) = operate [.ref s.heap.objs.size, .str (tC k) t] (getItem (.str (tC k) t) (.ref s.heap.objs.size)) := by with_unfolding_all rfl)
    (ht : ∀ r, letTemporaryGo value (.str (tC k) t) r = pure () := by intro _; with_unfolding_all rfl) :
    wpAny (model prog w) A (subscriptTail value slice (.str (tC k) t) (.ref s.heap.objs.size)) Q E { s with heap := s.heap.push { cls := .type "slice", data := .fields #[.none, .none, .int i ui] } } := by
  subst hi
  exact slice_strK_nn hF hN (by decide) h hs ht (len_tC h0 h1)
end
end P2
section P3
open PySem PySem.W PyProof.Rows PySem.Calls PySem.Spec
def drawF (ns : List Int) (k : Int) : Int := if k < (ns.length : Int) then ns.getD k.toNat 0 else 62 + 11 * k + 23 * k * k
section
variable {M : Model} {A : Around} {E : Value → Shared → Prop} {s : Shared} {K : Frag} {env : Env} {pos : Pos} {x C : Addr} {ox : Obj} {od : Option Obj} {first : List Value} {Q : Value → Shared → Prop}
theorem callWith_ownKW {f : Addr} {e : Expr} {rest : List Expr} {kws : List Keyword} (kX0 : K.In s.heap) (kI0 : InstAt s.heap x ox C od) (hd : ox.data = .plain) (hs0 : findIn K (.ref C) "__call__" = some (some (.ref f)))
    (hall : (backToKw pos (keywordEach kws env)).all (·.1.isSome) = true)
    (h : wpAny M A (spliced (backTo pos (starEach (e :: rest) env))) (fun vs s₁ => wpAny M A (evalAll ((backToKw pos (keywordEach kws env)).map (·.2)))
      (fun ks s₂ => kco_P K x C ox od s₂.heap ∧ wpAny M A (call (.ref x) (first ++ vs) (((backToKw pos (keywordEach kws env)).filterMap (·.1)).zip ks)) Q E s₂) E s₁) E s)
    (hplain : ((backTo pos (starEach (e :: rest) env)).any (·.1) || (backToKw pos (keywordEach kws env)).any (·.1.isNone)) = false := by rfl) (he : starEach (e :: rest) env = (false, eval e env) :: starEach rest env := by rfl) :
    wpAny M A (callWith pos (.ref x) first (backTo pos (starEach (e :: rest) env)) (backToKw pos (keywordEach kws env))) Q E s :=
  kco_callWith_of hplain hd (evalArgs_kw2 hall h he)
end
end P3
section P4
open PySem PySem.W PyProof.Rows PySem.Calls PySem.Spec
/-- one butterfly forward -/
def fb (z l : Int) (c : List Int) (j : Int) : List Int :=
  (c.set (j + l).toNat (c.getD j.toNat 0 - z * c.getD (j + l).toNat 0)).set j.toNat
    ((c.set (j + l).toNat (c.getD j.toNat 0 - z * c.getD (j + l).toNat 0)).getD j.toNat 0 + z * c.getD (j + l).toNat 0)
/-- one butterfly backward, its three stores -/
def ib1 (l : Int) (c : List Int) (j : Int) : List Int := c.set j.toNat (c.getD j.toNat 0 + c.getD (j + l).toNat 0)
def ib2 (l t : Int) (c : List Int) (j : Int) : List Int := c.set (j + l).toNat (c.getD (j + l).toNat 0 - t)
def ib3 (z l : Int) (c : List Int) (j : Int) : List Int := c.set (j + l).toNat (z * c.getD (j + l).toNat 0)
def ib (z l : Int) (c : List Int) (j : Int) : List Int := ib3 z l (ib2 l (c.getD j.toNat 0) (ib1 l c j) j) j
/-- 256 ints -/
structure L256 (ns : List Int) : Prop where
  out : ns.length = 256
theorem L256.set {ns : List Int} (h : L256 ns) (i : Nat) (x : Int) : L256 (ns.set i x) := ⟨by rw [List.length_set]; exact h.out⟩
theorem L256.fb {ns : List Int} (h : L256 ns) (z l j : Int) : L256 (fb z l ns j) := (h.set _ _).set _ _
theorem L256.ib {ns : List Int} (h : L256 ns) (z l j : Int) : L256 (ib z l ns j) := ((h.set _ _).set _ _).set _ _
/-- an index pair that lies within -/
structure Idx (k l : Int) : Prop where
  a : 0 ≤ k
  b : k < 256
  c : 0 ≤ k + l
  d : k + l < 256

/-- what holds between two turns of a for over a range that stores into one list -/
def FJ (Led : List Value → List (Addr × Obj)) (x : Str) (stored : List Str) (m₀ : Str → Option Value) (ns : List Int) (k : Int) (m : Str → Option Value) (nx : List (Addr × Obj)) : Prop :=
  ∃ vs, nx = Led vs ∧ IntsAre vs ns ∧ (∃ t, m x = some (.int k t)) ∧ (∀ z, z ≠ x → stored.contains z = false → m z = m₀ z)

theorem rangeKs_snoc (a : Int) (n : Nat) : rangeKs a (n + 1) = rangeKs a n ++ [a + (n : Int)] := by
  unfold rangeKs
  rw [List.range_succ, List.map_append]
  rfl
theorem rangeKs_take (a : Int) {n i : Nat} (h : i ≤ n) : (rangeKs a n).take i = rangeKs a i := by
  unfold rangeKs
  rw [← List.map_take, List.take_range, Nat.min_eq_left h]

section
variable {prog : Program} {w : World} {A : Around} {E : Value → Shared → Prop} {s : Shared} {env : Env} {h₀ : Heap} {x : Str} {body : List Stmt} {Q : Flow → Shared → Prop}
theorem for_fold {r : Addr} {a₀ b₀ : Int} {t₀ u₀ v₀ : Tok} {m₀ : Str → Option Value} {vs₀ : List Value} {ns₀ : List Int} {adr : List Addr} {led : List (Addr × Obj)} (Led : List Value → List (Addr × Obj)) (f : List Int → Int → List Int) (stored : List Str) (P : List Int → Prop)
    (hh : A.handled = none) (hr : IsRange s.heap r a₀ b₀ 1 t₀ u₀ v₀) (hlo : 0 ≤ a₀) (hhi : b₀ ≤ 256) (hlt : a₀ < b₀) (F : Fr h₀ env.locals s.heap m₀) (N : News h₀ env.locals s.heap led) (hled : led = Led vs₀) (hadr : ∀ vs, (Led vs).map (·.1) = adr)
    (hi : IntsAre vs₀ ns₀) (hP : P ns₀) (hf : ∀ ns k, P ns → P (f ns k))
    (turn : ∀ k t vs ns (u : Str → Option Value) h tk own, a₀ ≤ k → k < b₀ → P ns → IntsAre vs ns → OwnOff own adr → Fr h₀ env.locals h (fun y => if y = x then some (.int k t) else if stored.contains y then u y else m₀ y) → News h₀ env.locals h (Led vs ++ own) →
      wpAny (model prog w) A (execs body env) (InvPostN h₀ env.locals (FJ Led x stored m₀ (f ns k) k) own adr { s with heap := h, toks := tk } Q) E { s with heap := h, toks := tk })
    (done : ∀ vs (u : Str → Option Value) t h tk, IntsAre vs ((rangeKs a₀ (b₀ - a₀).toNat).foldl f ns₀) → P ((rangeKs a₀ (b₀ - a₀).toNat).foldl f ns₀) → Fr h₀ env.locals h (fun y => if y = x then some (.int (b₀ - 1) t) else if stored.contains y then u y else m₀ y) → News h₀ env.locals h (Led vs) →
      Q .next { s with heap := h, toks := tk }) :
    wpAny (model prog w) A (pyIter (.ref r)) (fun it s₂ => LoopAtV prog w A h₀ env x body Q E it s₂) E s := by
  subst hled
  let ns (i : Nat) : List Int := (rangeKs a₀ i).foldl f ns₀
  have hns : ∀ i, ns (i + 1) = f (ns i) (a₀ + (i : Int)) := by
    intro i
    show (rangeKs a₀ (i + 1)).foldl f ns₀ = _
    rw [rangeKs_snoc, List.foldl_append]
    rfl
  have hPs : ∀ i, P (ns i) := by
    intro i
    induction i with
    | zero => exact hP
    | succ i ih => rw [hns]; exact hf _ _ ih
  refine kpr_invN (n := (b₀ - a₀).toNat) (fun i m nx => ∃ vs, nx = Led vs ∧ IntsAre vs (ns i) ∧ (0 < i → ∃ t, m x = some (.int (a₀ + (i : Int) - 1) t)) ∧ (∀ z, z ≠ x → stored.contains z = false → m z = m₀ z)) hh hr (small_one (by omega) (by omega) (by omega) (by omega)) (rangeSize_nat _ _) F N
    ⟨vs₀, rfl, hi, fun h => absurd h (Nat.lt_irrefl 0), fun _ _ _ => rfl⟩ ?_ ?_
  · rintro i k t m₁ nx h tk own hk hoff ⟨vs, rfl, hv, -, hm⟩ F₁ N₁
    have hlen : i < (b₀ - a₀).toNat := by
      have h1 := (List.getElem?_eq_some_iff.mp hk).1
      rwa [rangeKs_length] at h1
    have hk' : k = a₀ + (i : Int) := by
      have h1 : (rangeKs a₀ (b₀ - a₀).toNat)[i]? = some (a₀ + (i : Int)) := by simp [rangeKs, hlen]
      rw [h1] at hk
      exact (Option.some.inj hk).symm
    subst hk'
    rw [hadr] at hoff ⊢
    have em : (fun y => if y = x then some (Value.int (a₀ + (i : Int)) t) else m₁ y) = fun y => if y = x then some (Value.int (a₀ + (i : Int)) t) else if stored.contains y = true then m₁ y else m₀ y := by
      funext y
      by_cases hy : y = x
      · rw [if_pos hy, if_pos hy]
      · rw [if_neg hy, if_neg hy]
        cases hs : stored.contains y with
        | true => rfl
        | false => exact hm y hy hs
    rw [em] at F₁
    refine wpAny_mono (turn (a₀ + (i : Int)) t vs (ns i) m₁ h tk own (by omega) (by omega) (hPs i) hv hoff F₁ N₁) (fun fl s₂ p => ?_) fun _ _ e => e
    have up : InvEndN h₀ env.locals (FJ Led x stored m₀ (f (ns i) (a₀ + (i : Int))) (a₀ + (i : Int))) own adr { s with heap := h, toks := tk } s₂ →
        InvEndN h₀ env.locals (fun m nx => ∃ vs, nx = Led vs ∧ IntsAre vs (ns (i + 1)) ∧ (0 < i + 1 → ∃ t, m x = some (.int (a₀ + ((i + 1 : Nat) : Int) - 1) t)) ∧ (∀ z, z ≠ x → stored.contains z = false → m z = m₀ z)) own adr { s with heap := h, toks := tk } s₂ := by
      rintro ⟨h', tk', m', news', nx, e, F', N', hn', ho', ha, vs', hnx, hI, ⟨t', ht'⟩, hz⟩
      refine ⟨h', tk', m', news', nx, e, F', N', hn', ho', ha, vs', hnx, ?_, fun _ => ⟨t', ?_⟩, hz⟩
      · rw [hns]; exact hI
      · rw [ht']
        congr 2
        omega
    cases fl with
    | ret v => exact p
    | brk => exact p
    | next => exact up p
    | cont => exact up p
  · rintro m₁ nx h tk ⟨vs, rfl, hv, hx1, hm⟩ F₁ N₁
    rw [rangeKs_length] at hv hx1
    obtain ⟨t, ht⟩ := hx1 (by omega)
    have e1 : a₀ + (((b₀ - a₀).toNat : Nat) : Int) - 1 = b₀ - 1 := by omega
    rw [e1] at ht
    refine done vs m₁ t h tk hv (hPs _) ?_ N₁
    have em : (fun y => if y = x then some (Value.int (b₀ - 1) t) else if stored.contains y = true then m₁ y else m₀ y) = m₁ := by
      funext y
      by_cases hy : y = x
      · rw [if_pos hy, hy]; exact ht.symm
      · rw [if_neg hy]
        cases hs : stored.contains y with
        | true => rfl
        | false => exact (hm y hy hs).symm
    rw [em]
    exact F₁
end
end P4
section P5
open PySem PySem.W PyProof.Rows PySem.Calls PySem.Spec
/-- the zetas, as the comprehension makes them -/
def zet (k : Int) : Int := ((Builtin.powMod 17 (brZ k).natAbs 3329 : Nat) : Int)
theorem zet_bits (k : Int) : Builtin.Int.intBits (zet k) ≤ 64 := by
  have h : Builtin.powMod 17 (brZ k).natAbs 3329 < 3329 := by
    unfold Builtin.powMod
    have key : ∀ (l : List Nat) (p : Nat), p < 3329 → l.foldl (fun p i => if (brZ k).natAbs.testBit i then p * p % 3329 * 17 % 3329 else p * p % 3329) p < 3329 := by
      intro l
      induction l with
      | nil => intro p hp; exact hp
      | cons a r ih =>
        intro p hp
        rw [List.foldl_cons]
        refine ih _ ?_
        split <;> exact Nat.mod_lt _ (by decide)
    exact key _ _ (by decide)
  unfold zet
  generalize Builtin.powMod 17 (brZ k).natAbs 3329 = q at h ⊢
  exact intBits_le_64 (by omega) (by omega)
section
variable {prog : Program} {w : World} {A : Around} {E : Value → Shared → Prop} {s : Shared} {h₀ : Heap} {L D : Addr} {m : Str → Option Value} {news news' : List (Addr × Obj)} {vs : List Value} {ns : List Int} {n : Nat} {k x : Int} {t u : Tok}
theorem get_zet {value slice : PySem.Expr} {Q : Value → Shared → Prop} (N : News h₀ L s.heap news) (hm : (D, listOf vs.toArray n) ∈ news) (hi : IntsAre vs (List.map (fun k' => ((Builtin.powMod 17 (brZ k').natAbs 3329 : Nat) : Int)) (rangeKs 0 (128 - 0 : Int).toNat))) (hk : 0 ≤ k ∧ k < 128) (h : ∀ t, Q (.int (zet k) t) s)
    (hs : subscripted slice false (.ref D) (.int k u) = operate [.ref D, .int k u] (getItem (.ref D) (.int k u)) := by with_unfolding_all rfl) :
    wpAny (model prog w) A (subscriptTail value slice (.ref D) (.int k u)) Q E s := by
  refine ksa_sub N hm hi hk.1 (by rw [List.length_map, rangeKs_length]; exact hk.2) (by omega) (fun t => ?_) hs
  have e : (List.map (fun k' => ((Builtin.powMod 17 (brZ k').natAbs 3329 : Nat) : Int)) (rangeKs 0 (128 - 0 : Int).toNat)).getD k.toNat 0 = zet k := by
    have h1 : k.toNat < 128 := by omega
    have h2 : ((k.toNat : Nat) : Int) = k := by omega
    simp [rangeKs, h1, h2, zet]
  rw [e]
  exact h t
theorem get256 {value slice : PySem.Expr} {Q : Value → Shared → Prop} (N : News h₀ L s.heap news) (hm : (D, listOf vs.toArray n) ∈ news) (hi : IntsAre vs ns) (hl : L256 ns) (hk : 0 ≤ k ∧ k < 256) (h : ∀ t, Q (.int (ns.getD k.toNat 0) t) s)
    (hs : subscripted slice false (.ref D) (.int k u) = operate [.ref D, .int k u] (getItem (.ref D) (.int k u)) := by with_unfolding_all rfl) :
    wpAny (model prog w) A (subscriptTail value slice (.ref D) (.int k u)) Q E s :=
  ksa_sub N hm hi hk.1 (by have := hl.out; omega) (by omega) h hs
theorem set256 {Q : Unit → Shared → Prop} (F : Fr h₀ L s.heap m) (N : News h₀ L s.heap news) (U : Upd D (listOf vs.toArray n) (listOf (vs.set k.toNat (.int x u)).toArray n) news news') (hi : IntsAre vs ns) (hl : L256 ns) (hk : 0 ≤ k ∧ k < 256)
    (h : ∀ h', Fr h₀ L h' m → News h₀ L h' news' → IntsAre (vs.set k.toNat (.int x u)) (ns.set k.toNat x) → L256 (ns.set k.toNat x) → Q () { s with heap := h' }) :
    wpAny (model prog w) A (setItem (.ref D) (.int k t) (.int x u)) Q E s :=
  ksa_set F N U hi hk.1 (by have := hl.out; omega) (by omega) fun h' F' N' hi' _ _ => h h' F' N' hi' (hl.set _ _)
theorem mul_zet {b : Int} {Q : Value → Shared → Prop} (h : Q (.int (zet k * b) s.toks) { s with toks := s.toks + 1 }) : wpAny (model prog w) A (binaryOp .Mult (.int (zet k) t) (.int b u)) Q E s :=
  mul_int h (IntMulOk.of_left (zet_bits k))
theorem mul_inv {a : Int} {Q : Value → Shared → Prop} (h : Q (.int (a * 3303) s.toks) { s with toks := s.toks + 1 }) : wpAny (model prog w) A (binaryOp .Mult (.int a t) (.int 3303 u)) Q E s :=
  mul_int h (IntMulOk.of_right (by decide))
end
/-- the blocks of one layer, the layers -/
def fblocks (l k0 : Int) : Nat → List Int → List Int
  | 0, c => c
  | b + 1, c => (rangeKs (2 * l * (b : Int)) l.toNat).foldl (fb (zet (k0 + (b : Int))) l) (fblocks l k0 b c)
def iblocks (l k0 : Int) : Nat → List Int → List Int
  | 0, c => c
  | b + 1, c => (rangeKs (2 * l * (b : Int)) l.toNat).foldl (ib (zet (k0 - (b : Int))) l) (iblocks l k0 b c)
def flayers : Nat → List Int → List Int
  | 0, c => c
  | m + 1, c => fblocks ((128 / 2 ^ m : Nat) : Int) ((2 ^ m : Nat) : Int) (2 ^ m) (flayers m c)
def ilayers : Nat → List Int → List Int
  | 0, c => c
  | m + 1, c => iblocks ((2 * 2 ^ m : Nat) : Int) ((128 / 2 ^ m - 1 : Nat) : Int) (64 / 2 ^ m) (ilayers m c)
/-- l and the number of its blocks -/
def LN (l : Int) (n : Nat) : Prop := (l = 128 ∧ n = 1) ∨ (l = 64 ∧ n = 2) ∨ (l = 32 ∧ n = 4) ∨ (l = 16 ∧ n = 8) ∨ (l = 8 ∧ n = 16) ∨ (l = 4 ∧ n = 32) ∨ (l = 2 ∧ n = 64)
structure InF (l : Int) (c0 : List Int) (k0 start k : Int) (c : List Int) : Prop where
  out : L256 c ∧ ∃ n b : Nat, LN l n ∧ b ≤ n ∧ k0 = (n : Int) ∧ start = 2 * l * (b : Int) ∧ k = k0 + (b : Int) ∧ c = fblocks l k0 b c0
structure InB (l : Int) (c0 : List Int) (k0 start k : Int) (c : List Int) : Prop where
  out : L256 c ∧ ∃ n b : Nat, LN l n ∧ b ≤ n ∧ k0 = 2 * (n : Int) - 1 ∧ start = 2 * l * (b : Int) ∧ k = k0 - (b : Int) ∧ c = iblocks l k0 b c0
structure InFact (l start k : Int) : Prop where
  l0 : 0 ≤ start
  l1 : start + l ≤ 256
  l2 : start < start + l
  l3 : 2 ≤ l
  l4 : start + 2 * l ≤ 256
  kk : 0 ≤ k ∧ k < 128
theorem InF.fact {l : Int} {c0 : List Int} {k0 start k : Int} {c : List Int} (h : InF l c0 k0 start k c) (hs : start < 256) : InFact l start k := by
  obtain ⟨_, n, b, hl, hb, h1, h2, h3, _⟩ := h
  rcases hl with ⟨rfl, rfl⟩ | ⟨rfl, rfl⟩ | ⟨rfl, rfl⟩ | ⟨rfl, rfl⟩ | ⟨rfl, rfl⟩ | ⟨rfl, rfl⟩ | ⟨rfl, rfl⟩ <;> exact ⟨by omega, by omega, by omega, by omega, by omega, by omega⟩
theorem InB.fact {l : Int} {c0 : List Int} {k0 start k : Int} {c : List Int} (h : InB l c0 k0 start k c) (hs : start < 256) : InFact l start k := by
  obtain ⟨_, n, b, hl, hb, h1, h2, h3, _⟩ := h
  rcases hl with ⟨rfl, rfl⟩ | ⟨rfl, rfl⟩ | ⟨rfl, rfl⟩ | ⟨rfl, rfl⟩ | ⟨rfl, rfl⟩ | ⟨rfl, rfl⟩ | ⟨rfl, rfl⟩ <;> exact ⟨by omega, by omega, by omega, by omega, by omega, by omega⟩
theorem InFact.idx {l start k j : Int} (h : InFact l start k) (h0 : start ≤ j) (h1 : j < start + l) : Idx j l := by
  have a := h.l0
  have b := h.l4
  have c := h.l3
  exact ⟨by omega, by omega, by omega, by omega⟩
theorem foldl_L256 {f : List Int → Int → List Int} (hf : ∀ ns k, L256 ns → L256 (f ns k)) : ∀ (ks : List Int) {ns : List Int}, L256 ns → L256 (ks.foldl f ns)
  | [], _, h => h
  | _ :: ks, _, h => foldl_L256 hf ks (hf _ _ h)
theorem sub_self_add (a l : Int) : (a + l - a).toNat = l.toNat := by congr 1; omega
theorem InF.next {l : Int} {c0 : List Int} {k0 start k start' : Int} {c : List Int} (h : InF l c0 k0 start k c) (hs : start < 256) (he : start' = start + 2 * l) : InF l c0 k0 start' (k + 1) ((rangeKs start (start + l - start).toNat).foldl (fb (zet k) l) c) := by
  have hl2 := (h.fact hs).l4
  obtain ⟨h0, n, b, hl, hb, h1, h2, h3, rfl⟩ := h
  refine ⟨foldl_L256 (fun ns k h => h.fb _ _ _) _ h0, n, b + 1, hl, ?_, h1, ?_, by omega, ?_⟩
  · rcases hl with ⟨rfl, rfl⟩ | ⟨rfl, rfl⟩ | ⟨rfl, rfl⟩ | ⟨rfl, rfl⟩ | ⟨rfl, rfl⟩ | ⟨rfl, rfl⟩ | ⟨rfl, rfl⟩ <;> omega
  · rw [he, h2, Int.natCast_succ, Int.mul_add, Int.mul_one]
  · rw [sub_self_add]
    subst h2 h3
    rfl
theorem InB.next {l : Int} {c0 : List Int} {k0 start k start' : Int} {c : List Int} (h : InB l c0 k0 start k c) (hs : start < 256) (he : start' = start + 2 * l) : InB l c0 k0 start' (k - 1) ((rangeKs start (start + l - start).toNat).foldl (ib (zet k) l) c) := by
  have hl2 := (h.fact hs).l4
  obtain ⟨h0, n, b, hl, hb, h1, h2, h3, rfl⟩ := h
  refine ⟨foldl_L256 (fun ns k h => h.ib _ _ _) _ h0, n, b + 1, hl, ?_, h1, ?_, by omega, ?_⟩
  · rcases hl with ⟨rfl, rfl⟩ | ⟨rfl, rfl⟩ | ⟨rfl, rfl⟩ | ⟨rfl, rfl⟩ | ⟨rfl, rfl⟩ | ⟨rfl, rfl⟩ | ⟨rfl, rfl⟩ <;> omega
  · rw [he, h2, Int.natCast_succ, Int.mul_add, Int.mul_one]
  · rw [sub_self_add]
    subst h2 h3
    rfl
theorem in_less {l start k start' : Int} (h : InFact l start k) (hs : start < 256) (he : start' = start + 2 * l) : (256 - start').toNat < (256 - start).toNat := by
  have a := h.l3
  omega
def OL (m : Nat) (l k : Int) : Prop := (m = 0 ∧ l = 128 ∧ k = 1) ∨ (m = 1 ∧ l = 64 ∧ k = 2) ∨ (m = 2 ∧ l = 32 ∧ k = 4) ∨ (m = 3 ∧ l = 16 ∧ k = 8) ∨ (m = 4 ∧ l = 8 ∧ k = 16) ∨ (m = 5 ∧ l = 4 ∧ k = 32) ∨ (m = 6 ∧ l = 2 ∧ k = 64) ∨ (m = 7 ∧ l = 1 ∧ k = 128)
def OB (m : Nat) (l k : Int) : Prop := (m = 0 ∧ l = 2 ∧ k = 127) ∨ (m = 1 ∧ l = 4 ∧ k = 63) ∨ (m = 2 ∧ l = 8 ∧ k = 31) ∨ (m = 3 ∧ l = 16 ∧ k = 15) ∨ (m = 4 ∧ l = 32 ∧ k = 7) ∨ (m = 5 ∧ l = 64 ∧ k = 3) ∨ (m = 6 ∧ l = 128 ∧ k = 1) ∨ (m = 7 ∧ l = 256 ∧ k = 0)
structure OuF (c0 : List Int) (l k : Int) (c : List Int) : Prop where
  out : L256 c ∧ ∃ m : Nat, OL m l k ∧ c = flayers m c0
structure OuB (c0 : List Int) (l k : Int) (c : List Int) : Prop where
  out : L256 c ∧ ∃ m : Nat, OB m l k ∧ c = ilayers m c0
theorem OuF.start {c0 : List Int} (h : L256 c0) : OuF c0 128 1 c0 := ⟨h, 0, .inl ⟨rfl, rfl, rfl⟩, rfl⟩
theorem OuB.start {c0 : List Int} (h : L256 c0) : OuB c0 2 (128 - 1) c0 := ⟨h, 0, .inl ⟨rfl, rfl, rfl⟩, rfl⟩
theorem OuF.inner {c0 : List Int} {l k : Int} {c : List Int} (h : OuF c0 l k c) (hl : 2 ≤ l) : InF l c k 0 k c := by
  obtain ⟨h0, m, hm, -⟩ := h
  have key : ∃ n : Nat, LN l n ∧ k = (n : Int) := by
    rcases hm with ⟨-, rfl, rfl⟩ | ⟨-, rfl, rfl⟩ | ⟨-, rfl, rfl⟩ | ⟨-, rfl, rfl⟩ | ⟨-, rfl, rfl⟩ | ⟨-, rfl, rfl⟩ | ⟨-, rfl, rfl⟩ | ⟨-, rfl, rfl⟩
    · exact ⟨1, by unfold LN; omega, rfl⟩
    · exact ⟨2, by unfold LN; omega, rfl⟩
    · exact ⟨4, by unfold LN; omega, rfl⟩
    · exact ⟨8, by unfold LN; omega, rfl⟩
    · exact ⟨16, by unfold LN; omega, rfl⟩
    · exact ⟨32, by unfold LN; omega, rfl⟩
    · exact ⟨64, by unfold LN; omega, rfl⟩
    · omega
  obtain ⟨n, h1, h2⟩ := key
  exact ⟨h0, n, 0, h1, Nat.zero_le n, h2, by simp, by simp, rfl⟩
theorem OuB.inner {c0 : List Int} {l k : Int} {c : List Int} (h : OuB c0 l k c) (hl : l ≤ 128) : InB l c k 0 k c := by
  obtain ⟨h0, m, hm, -⟩ := h
  have key : ∃ n : Nat, LN l n ∧ k = 2 * (n : Int) - 1 := by
    rcases hm with ⟨-, rfl, rfl⟩ | ⟨-, rfl, rfl⟩ | ⟨-, rfl, rfl⟩ | ⟨-, rfl, rfl⟩ | ⟨-, rfl, rfl⟩ | ⟨-, rfl, rfl⟩ | ⟨-, rfl, rfl⟩ | ⟨-, rfl, rfl⟩
    · exact ⟨64, by unfold LN; omega, rfl⟩
    · exact ⟨32, by unfold LN; omega, rfl⟩
    · exact ⟨16, by unfold LN; omega, rfl⟩
    · exact ⟨8, by unfold LN; omega, rfl⟩
    · exact ⟨4, by unfold LN; omega, rfl⟩
    · exact ⟨2, by unfold LN; omega, rfl⟩
    · exact ⟨1, by unfold LN; omega, rfl⟩
    · omega
  obtain ⟨n, h1, h2⟩ := key
  exact ⟨h0, n, 0, h1, Nat.zero_le n, h2, by simp, by simp, rfl⟩
theorem InF.last {l : Int} {c0 : List Int} {k0 start k : Int} {c : List Int} (h : InF l c0 k0 start k c) (hs : ¬ start < 256) : ∃ n : Nat, LN l n ∧ k0 = (n : Int) ∧ k = 2 * (n : Int) ∧ c = fblocks l k0 n c0 ∧ L256 c := by
  obtain ⟨h0, n, b, hl, hb, h1, h2, h3, h4⟩ := h
  have e : b = n := by rcases hl with ⟨rfl, rfl⟩ | ⟨rfl, rfl⟩ | ⟨rfl, rfl⟩ | ⟨rfl, rfl⟩ | ⟨rfl, rfl⟩ | ⟨rfl, rfl⟩ | ⟨rfl, rfl⟩ <;> omega
  subst e
  exact ⟨b, hl, h1, by omega, h4, h0⟩
theorem InB.last {l : Int} {c0 : List Int} {k0 start k : Int} {c : List Int} (h : InB l c0 k0 start k c) (hs : ¬ start < 256) : ∃ n : Nat, LN l n ∧ k0 = 2 * (n : Int) - 1 ∧ k = (n : Int) - 1 ∧ c = iblocks l k0 n c0 ∧ L256 c := by
  obtain ⟨h0, n, b, hl, hb, h1, h2, h3, h4⟩ := h
  have e : b = n := by rcases hl with ⟨rfl, rfl⟩ | ⟨rfl, rfl⟩ | ⟨rfl, rfl⟩ | ⟨rfl, rfl⟩ | ⟨rfl, rfl⟩ | ⟨rfl, rfl⟩ | ⟨rfl, rfl⟩ <;> omega
  subst e
  exact ⟨b, hl, h1, by omega, h4, h0⟩
theorem OuF.next {c0 : List Int} {l k l' k' start : Int} {c c' : List Int} (h : OuF c0 l k c) (hi : InF l c k start k' c') (hs : ¬ start < 256) (hl : l' = l / 2) : OuF c0 l' k' c' := by
  obtain ⟨n, hn, h1, h2, h3, h4⟩ := hi.last hs
  obtain ⟨h0, m, hm, rfl⟩ := h
  subst hl
  rcases hm with ⟨rfl, rfl, rfl⟩ | ⟨rfl, rfl, rfl⟩ | ⟨rfl, rfl, rfl⟩ | ⟨rfl, rfl, rfl⟩ | ⟨rfl, rfl, rfl⟩ | ⟨rfl, rfl, rfl⟩ | ⟨rfl, rfl, rfl⟩ | ⟨rfl, rfl, rfl⟩
  · obtain rfl : n = 1 := by omega
    exact ⟨h4, 1, .inr (.inl ⟨rfl, by decide, by omega⟩), h3⟩
  · obtain rfl : n = 2 := by omega
    exact ⟨h4, 2, .inr (.inr (.inl ⟨rfl, by decide, by omega⟩)), h3⟩
  · obtain rfl : n = 4 := by omega
    exact ⟨h4, 3, .inr (.inr (.inr (.inl ⟨rfl, by decide, by omega⟩))), h3⟩
  · obtain rfl : n = 8 := by omega
    exact ⟨h4, 4, .inr (.inr (.inr (.inr (.inl ⟨rfl, by decide, by omega⟩)))), h3⟩
  · obtain rfl : n = 16 := by omega
    exact ⟨h4, 5, .inr (.inr (.inr (.inr (.inr (.inl ⟨rfl, by decide, by omega⟩))))), h3⟩
  · obtain rfl : n = 32 := by omega
    exact ⟨h4, 6, .inr (.inr (.inr (.inr (.inr (.inr (.inl ⟨rfl, by decide, by omega⟩)))))), h3⟩
  · obtain rfl : n = 64 := by omega
    exact ⟨h4, 7, .inr (.inr (.inr (.inr (.inr (.inr (.inr (⟨rfl, by decide, by omega⟩))))))), h3⟩
  · exfalso; unfold LN at hn; omega
theorem OuB.next {c0 : List Int} {l k l' k' start : Int} {c c' : List Int} (h : OuB c0 l k c) (hi : InB l c k start k' c') (hs : ¬ start < 256) (hl : l' = 2 * l) : OuB c0 l' k' c' := by
  obtain ⟨n, hn, h1, h2, h3, h4⟩ := hi.last hs
  obtain ⟨h0, m, hm, rfl⟩ := h
  subst hl
  rcases hm with ⟨rfl, rfl, rfl⟩ | ⟨rfl, rfl, rfl⟩ | ⟨rfl, rfl, rfl⟩ | ⟨rfl, rfl, rfl⟩ | ⟨rfl, rfl, rfl⟩ | ⟨rfl, rfl, rfl⟩ | ⟨rfl, rfl, rfl⟩ | ⟨rfl, rfl, rfl⟩
  · obtain rfl : n = 64 := by omega
    exact ⟨h4, 1, .inr (.inl ⟨rfl, by decide, by omega⟩), h3⟩
  · obtain rfl : n = 32 := by omega
    exact ⟨h4, 2, .inr (.inr (.inl ⟨rfl, by decide, by omega⟩)), h3⟩
  · obtain rfl : n = 16 := by omega
    exact ⟨h4, 3, .inr (.inr (.inr (.inl ⟨rfl, by decide, by omega⟩))), h3⟩
  · obtain rfl : n = 8 := by omega
    exact ⟨h4, 4, .inr (.inr (.inr (.inr (.inl ⟨rfl, by decide, by omega⟩)))), h3⟩
  · obtain rfl : n = 4 := by omega
    exact ⟨h4, 5, .inr (.inr (.inr (.inr (.inr (.inl ⟨rfl, by decide, by omega⟩))))), h3⟩
  · obtain rfl : n = 2 := by omega
    exact ⟨h4, 6, .inr (.inr (.inr (.inr (.inr (.inr (.inl ⟨rfl, by decide, by omega⟩)))))), h3⟩
  · obtain rfl : n = 1 := by omega
    exact ⟨h4, 7, .inr (.inr (.inr (.inr (.inr (.inr (.inr (⟨rfl, by decide, by omega⟩))))))), h3⟩
  · exfalso; unfold LN at hn; omega
theorem OuF.last {c0 : List Int} {l k : Int} {c : List Int} (h : OuF c0 l k c) (hl : ¬ 2 ≤ l) : c = flayers 7 c0 ∧ L256 c := by
  obtain ⟨h0, m, hm, rfl⟩ := h
  have e : m = 7 := by unfold OL at hm; omega
  subst e
  exact ⟨rfl, h0⟩
theorem OuB.last {c0 : List Int} {l k : Int} {c : List Int} (h : OuB c0 l k c) (hl : ¬ l ≤ 128) : c = ilayers 7 c0 ∧ L256 c := by
  obtain ⟨h0, m, hm, rfl⟩ := h
  have e : m = 7 := by unfold OB at hm; omega
  subst e
  exact ⟨rfl, h0⟩
theorem row_L256 {g : Int → Int} {x : Int} : L256 (List.map g (rangeKs 0 ((if 256 < x.fmod 300 then 256 else x.fmod 300) - 0).toNat) ++ (List.replicate (256 - if 256 < x.fmod 300 then 256 else x.fmod 300).toNat [0]).flatten) := by
  have h0 := fmod_lo x (n := 300) (by decide)
  refine ⟨?_⟩
  rw [List.length_append, List.length_map, rangeKs_length]
  have e : ∀ n : Nat, (List.replicate n [(0 : Int)]).flatten.length = n := by
    intro n
    induction n with
    | zero => rfl
    | succ n ih => rw [List.replicate_succ, List.flatten_cons, List.length_append, ih, List.length_singleton]; omega
  rw [e]
  split <;> omega
end P5
section P6
open PySem PySem.W PyProof.Rows PySem.Calls PySem.Spec
theorem Idx.lo {k l : Int} (h : Idx k l) : 0 ≤ k ∧ k < 256 := ⟨h.a, h.b⟩
theorem Idx.hi {k l : Int} (h : Idx k l) : 0 ≤ k + l ∧ k + l < 256 := ⟨h.c, h.d⟩
/-- the index of a loop over the whole list -/
structure Ix (k : Int) : Prop where
  a : 0 ≤ k ∧ k < 256
def fm (c : List Int) (j : Int) : List Int := c.set j.toNat ((c.getD j.toNat 0).fmod 3329)
def sm (c : List Int) (j : Int) : List Int := c.set j.toNat ((c.getD j.toNat 0 * 3303).fmod 3329)
section
variable {prog : Program} {w : World} {A : Around} {E : Value → Shared → Prop} {s : Shared} {env : Env} {h₀ : Heap} {body : List Stmt} {Q : Flow → Shared → Prop}
variable {cap : Nat} {U : Obj → List (Addr × Obj)} {r c : Addr} {t₀ u₀ v₀ tz tl : Tok} {m₀ : Str → Option Value} {vs₀ : List Value} {ns₀ : List Int} {led : List (Addr × Obj)} {l start k : Int}
theorem updF_same {d : Addr} {o : Obj} {l : List (Addr × Obj)} {U : Obj → List (Addr × Obj)} (h : UpdF d o l U) : l = U o := by
  induction h with
  | head _ => rfl
  | tail _ _ ih => exact congrArg (List.cons _) ih
theorem updF_adr {d : Addr} {o : Obj} {l : List (Addr × Obj)} {U : Obj → List (Addr × Obj)} (h : UpdF d o l U) (o' : Obj) : (U o').map (·.1) = l.map (·.1) := by
  induction h with
  | head _ => rfl
  | tail _ _ ih => simp only [List.map_cons, ih]
theorem for_fwd (I : InFact l start k) (hh : A.handled = none) (hr : IsRange s.heap r start (start + l) 1 t₀ u₀ v₀)
    (hz0 : m₀ (Str.ofString "zeta") = some (.int (zet k) tz)) (hl0 : m₀ (Str.ofString "l") = some (.int l tl)) (F : Fr h₀ env.locals s.heap m₀) (N : News h₀ env.locals s.heap led) (hc0 : m₀ (Str.ofString "coeffs") = some (.ref c)) (hm0 : (c, listOf vs₀.toArray cap) ∈ led) (hU : UpdF c (listOf vs₀.toArray cap) led U)
    (hi : IntsAre vs₀ ns₀) (hlen : L256 ns₀)
    (turn : ∀ j t vs ns (u : Str → Option Value) h tk own, Idx j l → L256 ns → IntsAre vs ns → OwnOff own (led.map (·.1)) → Fr h₀ env.locals h (fun y => if y = Str.ofString "j" then some (.int j t) else if [Str.ofString "t"].contains y then u y else m₀ y) → News h₀ env.locals h (U (listOf vs.toArray cap) ++ own) →
      wpAny (model prog w) A (execs body env) (InvPostN h₀ env.locals (FJ (fun vs => U (listOf vs.toArray cap)) (Str.ofString "j") [Str.ofString "t"] m₀ (fb (zet k) l ns j) j) own (led.map (·.1)) { s with heap := h, toks := tk } Q) E { s with heap := h, toks := tk })
    (done : ∀ vs (u : Str → Option Value) t h tk, IntsAre vs ((rangeKs start (start + l - start).toNat).foldl (fb (zet k) l) ns₀) → L256 ((rangeKs start (start + l - start).toNat).foldl (fb (zet k) l) ns₀) →
      Fr h₀ env.locals h (fun y => if y = Str.ofString "j" then some (.int (start + l - 1) t) else if [Str.ofString "t"].contains y then u y else m₀ y) → News h₀ env.locals h (U (listOf vs.toArray cap)) → Q .next { s with heap := h, toks := tk }) :
    wpAny (model prog w) A (pyIter (.ref r)) (fun it s₂ => LoopAtV prog w A h₀ env (Str.ofString "j") body Q E it s₂) E s :=
  for_fold (fun vs => U (listOf vs.toArray cap)) (fb (zet k) l) [Str.ofString "t"] L256 hh hr I.l0 I.l1 I.l2 F N (updF_same hU) (fun vs => updF_adr hU _) hi hlen (fun _ _ h => h.fb _ _ _)
    (fun j t vs ns u h tk own h1 h2 h3 h4 h5 h6 h7 => turn j t vs ns u h tk own (I.idx h1 h2) h3 h4 h5 h6 h7) done
theorem for_inv (I : InFact l start k) (hh : A.handled = none) (hr : IsRange s.heap r start (start + l) 1 t₀ u₀ v₀)
    (hz0 : m₀ (Str.ofString "zeta") = some (.int (zet k) tz)) (hl0 : m₀ (Str.ofString "l") = some (.int l tl)) (F : Fr h₀ env.locals s.heap m₀) (N : News h₀ env.locals s.heap led) (hc0 : m₀ (Str.ofString "coeffs") = some (.ref c)) (hm0 : (c, listOf vs₀.toArray cap) ∈ led) (hU : UpdF c (listOf vs₀.toArray cap) led U)
    (hi : IntsAre vs₀ ns₀) (hlen : L256 ns₀)
    (turn : ∀ j t vs ns (u : Str → Option Value) h tk own, Idx j l → L256 ns → IntsAre vs ns → OwnOff own (led.map (·.1)) → Fr h₀ env.locals h (fun y => if y = Str.ofString "j" then some (.int j t) else if [Str.ofString "t"].contains y then u y else m₀ y) → News h₀ env.locals h (U (listOf vs.toArray cap) ++ own) →
      wpAny (model prog w) A (execs body env) (InvPostN h₀ env.locals (FJ (fun vs => U (listOf vs.toArray cap)) (Str.ofString "j") [Str.ofString "t"] m₀ (ib (zet k) l ns j) j) own (led.map (·.1)) { s with heap := h, toks := tk } Q) E { s with heap := h, toks := tk })
    (done : ∀ vs (u : Str → Option Value) t h tk, IntsAre vs ((rangeKs start (start + l - start).toNat).foldl (ib (zet k) l) ns₀) → L256 ((rangeKs start (start + l - start).toNat).foldl (ib (zet k) l) ns₀) →
      Fr h₀ env.locals h (fun y => if y = Str.ofString "j" then some (.int (start + l - 1) t) else if [Str.ofString "t"].contains y then u y else m₀ y) → News h₀ env.locals h (U (listOf vs.toArray cap)) → Q .next { s with heap := h, toks := tk }) :
    wpAny (model prog w) A (pyIter (.ref r)) (fun it s₂ => LoopAtV prog w A h₀ env (Str.ofString "j") body Q E it s₂) E s :=
  for_fold (fun vs => U (listOf vs.toArray cap)) (ib (zet k) l) [Str.ofString "t"] L256 hh hr I.l0 I.l1 I.l2 F N (updF_same hU) (fun vs => updF_adr hU _) hi hlen (fun _ _ h => h.ib _ _ _)
    (fun j t vs ns u h tk own h1 h2 h3 h4 h5 h6 h7 => turn j t vs ns u h tk own (I.idx h1 h2) h3 h4 h5 h6 h7) done
theorem for_all (f : List Int → Int → List Int) (hf : ∀ ns k, L256 ns → L256 (f ns k)) (hh : A.handled = none) (hr : IsRange s.heap r 0 256 1 t₀ u₀ v₀)
    (F : Fr h₀ env.locals s.heap m₀) (N : News h₀ env.locals s.heap led) (hc0 : m₀ (Str.ofString "coeffs") = some (.ref c)) (hm0 : (c, listOf vs₀.toArray cap) ∈ led) (hU : UpdF c (listOf vs₀.toArray cap) led U)
    (hi : IntsAre vs₀ ns₀) (hlen : L256 ns₀)
    (turn : ∀ j t vs ns (u : Str → Option Value) h tk own, Ix j → L256 ns → IntsAre vs ns → OwnOff own (led.map (·.1)) → Fr h₀ env.locals h (fun y => if y = Str.ofString "j" then some (.int j t) else if ([] : List Str).contains y then u y else m₀ y) → News h₀ env.locals h (U (listOf vs.toArray cap) ++ own) →
      wpAny (model prog w) A (execs body env) (InvPostN h₀ env.locals (FJ (fun vs => U (listOf vs.toArray cap)) (Str.ofString "j") [] m₀ (f ns j) j) own (led.map (·.1)) { s with heap := h, toks := tk } Q) E { s with heap := h, toks := tk })
    (done : ∀ vs (u : Str → Option Value) t h tk, IntsAre vs ((rangeKs 0 256).foldl f ns₀) → L256 ((rangeKs 0 256).foldl f ns₀) →
      Fr h₀ env.locals h (fun y => if y = Str.ofString "j" then some (.int 255 t) else if ([] : List Str).contains y then u y else m₀ y) → News h₀ env.locals h (U (listOf vs.toArray cap)) → Q .next { s with heap := h, toks := tk }) :
    wpAny (model prog w) A (pyIter (.ref r)) (fun it s₂ => LoopAtV prog w A h₀ env (Str.ofString "j") body Q E it s₂) E s :=
  for_fold (fun vs => U (listOf vs.toArray cap)) f [] L256 hh hr (by decide) (by decide) (by decide) F N (updF_same hU) (fun vs => updF_adr hU _) hi hlen hf
    (fun j t vs ns u h tk own h1 h2 h3 h4 h5 h6 h7 => turn j t vs ns u h tk own ⟨h1, h2⟩ h3 h4 h5 h6 h7) done
/-- a turn's end -/
theorem fj_end {Led : List Value → List (Addr × Obj)} {x : Str} {stored : List Str} {ns : List Int} {k : Int} {L : Addr} {m' : Str → Option Value} {own news' : List (Addr × Obj)} {adr : List Addr} {s₁ : Shared} {h' : Heap} {tk : Nat} (vs : List Value)
    (F : Fr h₀ L h' m') (N : News h₀ L h' news') (hi : IntsAre vs ns) (hn : ∀ p ∈ Led vs, p ∈ news') (ho : ∀ p ∈ own, p ∈ news') (ha : (Led vs).map (·.1) = adr) (hx : ∃ t, m' x = some (.int k t)) (hz : ∀ z, z ≠ x → stored.contains z = false → m' z = m₀ z) :
    InvEndN h₀ L (FJ Led x stored m₀ ns k) own adr s₁ { s₁ with heap := h', toks := tk } :=
  ⟨h', tk, m', news', Led vs, rfl, F, N, hn, ho, ha, vs, rfl, hi, hx, hz⟩
end
end P6
section P7
open PySem PySem.W PyProof.Rows PySem.Calls PySem.Spec
theorem e_fwd (l s : Int) : l + (s + l - 1 + 1) = s + 2 * l := by omega
theorem e_inv (l s : Int) : s + l - 1 + l + 1 = s + 2 * l := by omega
theorem InF.len {l : Int} {c0 : List Int} {k0 start k : Int} {c : List Int} (h : InF l c0 k0 start k c) : L256 c := h.out.1
theorem InB.len {l : Int} {c0 : List Int} {k0 start k : Int} {c : List Int} (h : InB l c0 k0 start k c) : L256 c := h.out.1
theorem L256.fm (ns : List Int) (k : Int) (h : L256 ns) : L256 (fm ns k) := h.set _ _
theorem L256.sm (ns : List Int) (k : Int) (h : L256 ns) : L256 (sm ns k) := h.set _ _
theorem OuF.small {c0 : List Int} {l k : Int} {c : List Int} (h : OuF c0 l k c) : 1 ≤ l ∧ l ≤ 128 := by
  obtain ⟨_, m, hm, _⟩ := h
  unfold OL at hm
  omega
theorem OuB.small {c0 : List Int} {l k : Int} {c : List Int} (h : OuB c0 l k c) : 2 ≤ l ∧ l ≤ 256 := by
  obtain ⟨_, m, hm, _⟩ := h
  unfold OB at hm
  omega
theorem ou_lessF {l : Int} (h : 2 ≤ l) : (l / 2).toNat < l.toNat := by omega
theorem ou_lessB {c0 : List Int} {l k : Int} {c : List Int} (h : OuB c0 l k c) (hl : l ≤ 128) : (300 - 2 * l).toNat < (300 - l).toNat := by
  have := h.small
  omega
section
variable {prog : Program} {w : World} {A : Around} {E : Value → Shared → Prop} {s : Shared} {h₀ : Heap} {L D : Addr} {news : List (Addr × Obj)} {vs : List Value} {ns : List Int} {n : Nat}
theorem len256 {Q : Value → Shared → Prop} (N : News h₀ L s.heap news) (hm : (D, listOf vs.toArray n) ∈ news) (hi : IntsAre vs ns) (hl : L256 ns) (h : ∀ t tk, Q (.int 256 t) { s with toks := tk }) :
    wpAny (model prog w) A (call (.builtin "len") [.ref D]) Q E s :=
  kst_len (k := 256) N hm (by rw [hi.length]; exact hl.out) (by decide) (h _ _)
theorem shl1 {A : Around} {E : Value → Shared → Prop} {a : Int} {t u : Tok} {c0 c : List Int} {k : Int} (hb : OuB c0 a k c) {Q : Value → Shared → Prop} (h : Q (.int (2 * a) s.toks) { s with toks := s.toks + 1 }) : wpAny (model prog w) A (binaryOp .LShift (.int a t) (.int 1 u)) Q E s := by
  have hs := hb.small
  refine lshift_int_small (by decide) (by decide) (by omega) ?_
  have e : a * 2 ^ (1 : Int).toNat = 2 * a := by
    show a * 2 ^ 1 = 2 * a
    omega
  rw [e]
  exact h
theorem shr1 {A : Around} {E : Value → Shared → Prop} {a : Int} {t u : Tok} {Q : Value → Shared → Prop} (h : Q (.int (a / 2) s.toks) { s with toks := s.toks + 1 }) : wpAny (model prog w) A (binaryOp .RShift (.int a t) (.int 1 u)) Q E s := by
  refine rshift_int (by decide) ?_
  have e : a.fdiv (2 ^ (1 : Int).toNat) = a / 2 := Int.fdiv_eq_ediv_of_nonneg a (by decide)
  rw [e]
  exact h
end
end P7
section P8
open PySem PySem.W PyProof.Rows
/-- the plain law, pointwise -/
def at' (c : List Int) (i : Nat) : Int := c.getD i 0
theorem at_set (c : List Int) (i j : Nat) (x : Int) (hi : i < c.length) : at' (c.set i x) j = if j = i then x else at' c j := by
  unfold at'
  rw [List.getD_eq_getElem?_getD, List.getD_eq_getElem?_getD, List.getElem?_set]
  by_cases h : i = j
  · subst h
    simp [hi]
  · have h' : ¬ j = i := fun e => h e.symm
    simp [h, h']
/-- a layer's loop over one block, pointwise: forward -/
theorem fb_at {z : Int} {l a : Nat} {c : List Int} (h : c.length = 256) (ha : a + l < 256) (hl : 0 < l) (i : Nat) :
    at' (fb z (l : Int) c (a : Int)) i = if i = a then at' c a + z * at' c (a + l) else if i = a + l then at' c a - z * at' c (a + l) else at' c i := by
  have e1 : ((a : Int) + (l : Int)).toNat = a + l := by omega
  have e2 : (a : Int).toNat = a := by omega
  unfold fb
  rw [e1, e2]
  show at' ((c.set (a + l) (at' c a - z * at' c (a + l))).set a (at' (c.set (a + l) (at' c a - z * at' c (a + l))) a + z * at' c (a + l))) i = _
  rw [at_set _ _ _ _ (by rw [List.length_set]; omega), at_set _ _ _ _ (by omega), at_set _ _ _ _ (by omega)]
  have h1 : ¬ a = a + l := by omega
  rw [if_neg h1]
theorem ib_at {z : Int} {l a : Nat} {c : List Int} (h : c.length = 256) (ha : a + l < 256) (hl : 0 < l) (i : Nat) :
    at' (ib z (l : Int) c (a : Int)) i = if i = a then at' c a + at' c (a + l) else if i = a + l then z * (at' c (a + l) - at' c a) else at' c i := by
  have e1 : ((a : Int) + (l : Int)).toNat = a + l := by omega
  have e2 : (a : Int).toNat = a := by omega
  have h1 : ¬ a = a + l := by omega
  have h2 : ¬ a + l = a := by omega
  unfold ib ib3 ib2 ib1
  rw [e1, e2]
  show at' (((c.set a (at' c a + at' c (a + l))).set (a + l) (at' (c.set a (at' c a + at' c (a + l))) (a + l) - at' c a)).set (a + l)
    (z * at' ((c.set a (at' c a + at' c (a + l))).set (a + l) (at' (c.set a (at' c a + at' c (a + l))) (a + l) - at' c a)) (a + l))) i = _
  have g1 : ∀ j x, at' (c.set a x) j = if j = a then x else at' c j := fun j x => at_set _ _ _ _ (by omega)
  have g2 : ∀ j x y, at' ((c.set a x).set (a + l) y) j = if j = a + l then y else at' (c.set a x) j := fun j x y => at_set _ _ _ _ (by rw [List.length_set]; omega)
  have g3 : ∀ j x y w, at' (((c.set a x).set (a + l) y).set (a + l) w) j = if j = a + l then w else at' ((c.set a x).set (a + l) y) j := fun j x y w => at_set _ _ _ _ (by rw [List.length_set, List.length_set]; omega)
  rw [g3, g2, g2, g1, g1, if_pos rfl, if_neg h2]
  by_cases hi : i = a + l
  · subst hi
    rw [if_pos rfl, if_neg h2, if_pos rfl]
  · simp [hi]
theorem rangeKs_cast (a n : Nat) : rangeKs ((a : Nat) : Int) n = (List.range n).map (fun i => ((a + i : Nat) : Int)) := by
  unfold rangeKs
  apply List.map_congr_left
  intro i _
  omega
theorem len_foldl {f : List Int → Int → List Int} (hf : ∀ ns k, ns.length = 256 → (f ns k).length = 256) : ∀ (ks : List Int) (ns : List Int), ns.length = 256 → (ks.foldl f ns).length = 256
  | [], _, h => h
  | _ :: ks, _, h => len_foldl hf ks _ (hf _ _ h)
theorem fb_len (z l : Int) (ns : List Int) (k : Int) (h : ns.length = 256) : (fb z l ns k).length = 256 := by simp [fb, h]
theorem ib_len (z l : Int) (ns : List Int) (k : Int) (h : ns.length = 256) : (ib z l ns k).length = 256 := by simp [ib, ib1, ib2, ib3, h]
theorem fblock_at {z : Int} {l a : Nat} {c : List Int} (h : c.length = 256) (hl : 0 < l) : ∀ n : Nat, n ≤ l → a + n + l ≤ 256 → ∀ i : Nat,
    at' ((rangeKs (a : Int) n).foldl (fb z (l : Int)) c) i = if a ≤ i ∧ i < a + n then at' c i + z * at' c (i + l) else if a + l ≤ i ∧ i < a + l + n then at' c (i - l) - z * at' c i else at' c i := by
  intro n
  induction n with
  | zero =>
    intro _ _ i
    have h1 : ¬ (a ≤ i ∧ i < a + 0) := by omega
    have h2 : ¬ (a + l ≤ i ∧ i < a + l + 0) := by omega
    rw [if_neg h1, if_neg h2]
    rfl
  | succ n ih =>
    intro hn ha i
    have hlen := len_foldl (fb_len z (l : Int)) (rangeKs (a : Int) n) c h
    have e : (a : Int) + (n : Int) = ((a + n : Nat) : Int) := by omega
    rw [rangeKs_snoc, List.foldl_append, List.foldl_cons, List.foldl_nil, e, fb_at hlen (by omega) hl i]
    rw [ih (by omega) (by omega) i, ih (by omega) (by omega) (a + n), ih (by omega) (by omega) (a + n + l)]
    have h1 : ¬ (a ≤ a + n ∧ a + n < a + n) := by omega
    have h2 : ¬ (a + l ≤ a + n ∧ a + n < a + l + n) := by omega
    have h3 : ¬ (a ≤ a + n + l ∧ a + n + l < a + n) := by omega
    have h4 : ¬ (a + l ≤ a + n + l ∧ a + n + l < a + l + n) := by omega
    rw [if_neg h1, if_neg h2, if_neg h3, if_neg h4]
    by_cases c1 : i = a + n
    · subst c1
      rw [if_pos rfl, if_pos (by omega)]
    · rw [if_neg c1]
      by_cases c2 : i = a + n + l
      · subst c2
        have e5 : a + n + l - l = a + n := by omega
        rw [if_pos rfl, if_neg (by omega), if_pos (by omega), e5]
      · rw [if_neg c2]
        by_cases c3 : a ≤ i ∧ i < a + n
        · rw [if_pos c3, if_pos (by omega)]
        · rw [if_neg c3, if_neg (show ¬ (a ≤ i ∧ i < a + (n + 1)) by omega)]
          by_cases c4 : a + l ≤ i ∧ i < a + l + n
          · rw [if_pos c4, if_pos (by omega)]
          · rw [if_neg c4, if_neg (by omega)]
theorem iblock_at {z : Int} {l a : Nat} {c : List Int} (h : c.length = 256) (hl : 0 < l) : ∀ n : Nat, n ≤ l → a + n + l ≤ 256 → ∀ i : Nat,
    at' ((rangeKs (a : Int) n).foldl (ib z (l : Int)) c) i = if a ≤ i ∧ i < a + n then at' c i + at' c (i + l) else if a + l ≤ i ∧ i < a + l + n then z * (at' c i - at' c (i - l)) else at' c i := by
  intro n
  induction n with
  | zero =>
    intro _ _ i
    have h1 : ¬ (a ≤ i ∧ i < a + 0) := by omega
    have h2 : ¬ (a + l ≤ i ∧ i < a + l + 0) := by omega
    rw [if_neg h1, if_neg h2]
    rfl
  | succ n ih =>
    intro hn ha i
    have hlen := len_foldl (ib_len z (l : Int)) (rangeKs (a : Int) n) c h
    have e : (a : Int) + (n : Int) = ((a + n : Nat) : Int) := by omega
    rw [rangeKs_snoc, List.foldl_append, List.foldl_cons, List.foldl_nil, e, ib_at hlen (by omega) hl i]
    rw [ih (by omega) (by omega) i, ih (by omega) (by omega) (a + n), ih (by omega) (by omega) (a + n + l)]
    have h1 : ¬ (a ≤ a + n ∧ a + n < a + n) := by omega
    have h2 : ¬ (a + l ≤ a + n ∧ a + n < a + l + n) := by omega
    have h3 : ¬ (a ≤ a + n + l ∧ a + n + l < a + n) := by omega
    have h4 : ¬ (a + l ≤ a + n + l ∧ a + n + l < a + l + n) := by omega
    rw [if_neg h1, if_neg h2, if_neg h3, if_neg h4]
    by_cases c1 : i = a + n
    · subst c1
      rw [if_pos rfl, if_pos (by omega)]
    · rw [if_neg c1]
      by_cases c2 : i = a + n + l
      · subst c2
        have e5 : a + n + l - l = a + n := by omega
        rw [if_pos rfl, if_neg (by omega), if_pos (by omega), e5]
      · rw [if_neg c2]
        by_cases c3 : a ≤ i ∧ i < a + n
        · rw [if_pos c3, if_pos (by omega)]
        · rw [if_neg c3, if_neg (show ¬ (a ≤ i ∧ i < a + (n + 1)) by omega)]
          by_cases c4 : a + l ≤ i ∧ i < a + l + n
          · rw [if_pos c4, if_pos (by omega)]
          · rw [if_neg c4, if_neg (by omega)]
/-- all blocks of a layer -/
theorem fblocks_len (l k0 : Int) : ∀ (b : Nat) (c : List Int), c.length = 256 → (fblocks l k0 b c).length = 256
  | 0, _, h => h
  | b + 1, c, h => len_foldl (fb_len _ _) _ _ (fblocks_len l k0 b c h)
theorem iblocks_len (l k0 : Int) : ∀ (b : Nat) (c : List Int), c.length = 256 → (iblocks l k0 b c).length = 256
  | 0, _, h => h
  | b + 1, c, h => len_foldl (ib_len _ _) _ _ (iblocks_len l k0 b c h)
end P8
section P9
open PySem PySem.W PyProof.Rows
theorem block_place {l b i : Nat} (hl : 0 < l) (h0 : 2 * l * b ≤ i) (h1 : i < 2 * l * b + 2 * l) : i / (2 * l) = b ∧ i % (2 * l) = i - 2 * l * b := by
  have e : i = 2 * l * b + (i - 2 * l * b) := by omega
  have hr : i - 2 * l * b < 2 * l := by omega
  generalize i - 2 * l * b = r at e hr
  subst e
  constructor
  · rw [Nat.mul_add_div (by omega), Nat.div_eq_of_lt hr, Nat.add_zero]
  · rw [Nat.mul_add_mod, Nat.mod_eq_of_lt hr]
theorem cast_mul (l b : Nat) : (2 * (l : Int) * (b : Int)) = ((2 * l * b : Nat) : Int) := by push_cast; rfl
theorem fblocks_at {l : Nat} (hl : 0 < l) (k0 : Int) {c : List Int} (h : c.length = 256) : ∀ b : Nat, 2 * l * b ≤ 256 → ∀ i : Nat,
    at' (fblocks (l : Int) k0 b c) i = if i < 2 * l * b then (if i % (2 * l) < l then at' c i + zet (k0 + ((i / (2 * l) : Nat) : Int)) * at' c (i + l) else at' c (i - l) - zet (k0 + ((i / (2 * l) : Nat) : Int)) * at' c i) else at' c i := by
  intro b
  induction b with
  | zero =>
    intro _ i
    rw [if_neg (by omega)]
    rfl
  | succ b ih =>
    intro hb i
    have hb' : 2 * l * (b + 1) = 2 * l * b + 2 * l := by rw [Nat.mul_add, Nat.mul_one]
    rw [hb'] at hb ⊢
    have hlen := fblocks_len (l : Int) k0 b c h
    show at' ((rangeKs (2 * (l : Int) * (b : Int)) (l : Int).toNat).foldl (fb (zet (k0 + (b : Int))) (l : Int)) (fblocks (l : Int) k0 b c)) i = _
    rw [cast_mul, Int.toNat_natCast, fblock_at hlen hl l (Nat.le_refl l) (by omega) i, ih (by omega) i]
    by_cases c1 : 2 * l * b ≤ i ∧ i < 2 * l * b + l
    · obtain ⟨p1, p2⟩ := block_place hl c1.1 (by omega)
      rw [if_pos c1, if_neg (by omega), ih (by omega) (i + l), if_neg (by omega), if_pos (by omega), if_pos (by omega), p1]
    · rw [if_neg c1]
      by_cases c2 : 2 * l * b + l ≤ i ∧ i < 2 * l * b + l + l
      · obtain ⟨p1, p2⟩ := block_place hl (show 2 * l * b ≤ i by omega) (by omega)
        rw [if_pos c2, if_neg (show ¬ i < 2 * l * b by omega), ih (by omega) (i - l), if_neg (by omega), if_pos (by omega), if_neg (by omega), p1]
      · rw [if_neg c2]
        by_cases c3 : i < 2 * l * b
        · rw [if_pos c3, if_pos (show i < 2 * l * b + 2 * l by omega)]
        · rw [if_neg c3, if_neg (by omega)]
theorem iblocks_at {l : Nat} (hl : 0 < l) (k0 : Int) {c : List Int} (h : c.length = 256) : ∀ b : Nat, 2 * l * b ≤ 256 → ∀ i : Nat,
    at' (iblocks (l : Int) k0 b c) i = if i < 2 * l * b then (if i % (2 * l) < l then at' c i + at' c (i + l) else zet (k0 - ((i / (2 * l) : Nat) : Int)) * (at' c i - at' c (i - l))) else at' c i := by
  intro b
  induction b with
  | zero =>
    intro _ i
    rw [if_neg (by omega)]
    rfl
  | succ b ih =>
    intro hb i
    have hb' : 2 * l * (b + 1) = 2 * l * b + 2 * l := by rw [Nat.mul_add, Nat.mul_one]
    rw [hb'] at hb ⊢
    have hlen := iblocks_len (l : Int) k0 b c h
    show at' ((rangeKs (2 * (l : Int) * (b : Int)) (l : Int).toNat).foldl (ib (zet (k0 - (b : Int))) (l : Int)) (iblocks (l : Int) k0 b c)) i = _
    rw [cast_mul, Int.toNat_natCast, iblock_at hlen hl l (Nat.le_refl l) (by omega) i, ih (by omega) i]
    by_cases c1 : 2 * l * b ≤ i ∧ i < 2 * l * b + l
    · obtain ⟨p1, p2⟩ := block_place hl c1.1 (by omega)
      rw [if_pos c1, if_neg (by omega), ih (by omega) (i + l), if_neg (by omega), if_pos (by omega), if_pos (by omega)]
    · rw [if_neg c1]
      by_cases c2 : 2 * l * b + l ≤ i ∧ i < 2 * l * b + l + l
      · obtain ⟨p1, p2⟩ := block_place hl (show 2 * l * b ≤ i by omega) (by omega)
        rw [if_pos c2, if_neg (show ¬ i < 2 * l * b by omega), ih (by omega) (i - l), if_neg (by omega), if_pos (by omega), if_neg (by omega), p1]
      · rw [if_neg c2]
        by_cases c3 : i < 2 * l * b
        · rw [if_pos c3, if_pos (show i < 2 * l * b + 2 * l by omega)]
        · rw [if_neg c3, if_neg (by omega)]
theorem dist (z s b y : Int) : z * (3329 * b + s * y) = 3329 * (z * b) + s * (z * y) := by rw [Int.mul_add, Int.mul_left_comm z 3329 b, Int.mul_left_comm z s y]
/-- c is s times d, modulo 3329 -/
def CongS (s : Int) (c d : List Int) : Prop := ∀ i : Nat, i < 256 → (3329 : Int) ∣ at' c i - s * at' d i
theorem mod_lt_add {l i n : Nat} (hl : 0 < l) (hn : 2 * l * n = 256) (hi : i < 256) (h : i % (2 * l) < l) : i + l < 256 ∧ (i + l) % (2 * l) = i % (2 * l) + l ∧ (i + l) / (2 * l) = i / (2 * l) := by
  have e := Nat.div_add_mod i (2 * l)
  have hq : i / (2 * l) < n := Nat.div_lt_of_lt_mul (by omega)
  have hm : 2 * l * (i / (2 * l)) + 2 * l ≤ 256 := by
    have : 2 * l * (i / (2 * l) + 1) ≤ 2 * l * n := Nat.mul_le_mul_left _ hq
    rw [Nat.mul_add, Nat.mul_one] at this
    omega
  obtain ⟨p1, p2⟩ := block_place (i := i + l) (b := i / (2 * l)) hl (by omega) (by omega)
  exact ⟨by omega, by omega, p1⟩
theorem mod_ge_sub {l i : Nat} (hl : 0 < l) (h : ¬ i % (2 * l) < l) : l ≤ i ∧ (i - l) % (2 * l) = i % (2 * l) - l ∧ (i - l) / (2 * l) = i / (2 * l) := by
  have e := Nat.div_add_mod i (2 * l)
  have hlt := Nat.mod_lt i (show 2 * l > 0 by omega)
  have hle := Nat.mod_le i (2 * l)
  obtain ⟨p1, p2⟩ := block_place (i := i - l) (b := i / (2 * l)) hl (by omega) (by omega)
  exact ⟨by omega, by omega, p1⟩
theorem f_lin {l n : Nat} (hl : 0 < l) (hn : 2 * l * n = 256) {k0 s : Int} {c d : List Int} (hc : c.length = 256) (hd : d.length = 256) (h : CongS s c d) : CongS s (fblocks (l : Int) k0 n c) (fblocks (l : Int) k0 n d) := by
  intro i hi
  rw [fblocks_at hl k0 hc n (by omega), fblocks_at hl k0 hd n (by omega), hn, if_pos hi, if_pos hi]
  generalize zet (k0 + ((i / (2 * l) : Nat) : Int)) = z
  by_cases c1 : i % (2 * l) < l
  · rw [if_pos c1, if_pos c1]
    obtain ⟨a, ha⟩ := h i hi
    obtain ⟨b, hb⟩ := h (i + l) (mod_lt_add hl hn hi c1).1
    refine ⟨a + z * b, ?_⟩
    rw [show at' c i = 3329 * a + s * at' d i by omega, show at' c (i + l) = 3329 * b + s * at' d (i + l) by omega, dist, Int.mul_add s]
    omega
  · rw [if_neg c1, if_neg c1]
    obtain ⟨a, ha⟩ := h i hi
    obtain ⟨b, hb⟩ := h (i - l) (by omega)
    refine ⟨b - z * a, ?_⟩
    rw [show at' c i = 3329 * a + s * at' d i by omega, show at' c (i - l) = 3329 * b + s * at' d (i - l) by omega, dist, Int.mul_sub s]
    omega
theorem i_lin {l n : Nat} (hl : 0 < l) (hn : 2 * l * n = 256) {k0 s : Int} {c d : List Int} (hc : c.length = 256) (hd : d.length = 256) (h : CongS s c d) : CongS s (iblocks (l : Int) k0 n c) (iblocks (l : Int) k0 n d) := by
  intro i hi
  rw [iblocks_at hl k0 hc n (by omega), iblocks_at hl k0 hd n (by omega), hn, if_pos hi, if_pos hi]
  generalize zet (k0 - ((i / (2 * l) : Nat) : Int)) = z
  by_cases c1 : i % (2 * l) < l
  · rw [if_pos c1, if_pos c1]
    obtain ⟨a, ha⟩ := h i hi
    obtain ⟨b, hb⟩ := h (i + l) (mod_lt_add hl hn hi c1).1
    refine ⟨a + b, ?_⟩
    rw [show at' c i = 3329 * a + s * at' d i by omega, show at' c (i + l) = 3329 * b + s * at' d (i + l) by omega]
    simp only [Int.mul_add]
    omega
  · rw [if_neg c1, if_neg c1]
    obtain ⟨a, ha⟩ := h i hi
    obtain ⟨b, hb⟩ := h (i - l) (by omega)
    refine ⟨z * (a - b), ?_⟩
    rw [show at' c i = 3329 * a + s * at' d i by omega, show at' c (i - l) = 3329 * b + s * at' d (i - l) by omega, Int.mul_sub z, dist, dist, Int.mul_sub z, Int.mul_sub z, Int.mul_sub s]
    omega
theorem zz : ∀ n ∈ [1, 2, 4, 8, 16, 32, 64], ∀ q : Nat, q < n → (3329 : Int) ∣ zet ((n : Nat) + (q : Nat) : Int) * zet (2 * (n : Nat) - 1 - (q : Nat) : Int) + 1 := by decide +kernel
theorem if_pair {l n : Nat} (hl : 0 < l) (hn : 2 * l * n = 256) (hm : n ∈ [1, 2, 4, 8, 16, 32, 64]) {d : List Int} (hd : d.length = 256) : CongS 2 (iblocks (l : Int) (2 * (n : Int) - 1) n (fblocks (l : Int) (n : Int) n d)) d := by
  intro i hi
  have hq : i / (2 * l) < n := Nat.div_lt_of_lt_mul (by omega)
  rw [iblocks_at hl _ (fblocks_len _ _ _ _ hd) n (by omega), hn, if_pos hi, fblocks_at hl _ hd n (by omega) i, hn, if_pos hi]
  obtain ⟨v, hv⟩ := zz n hm (i / (2 * l)) hq
  by_cases c1 : i % (2 * l) < l
  · obtain ⟨p0, p1, p2⟩ := mod_lt_add hl hn hi c1
    rw [if_pos c1, if_pos c1, fblocks_at hl _ hd n (by omega) (i + l), hn, if_pos p0, if_neg (by omega), p2, show i + l - l = i by omega]
    exact ⟨0, by omega⟩
  · obtain ⟨p0, p1, p2⟩ := mod_ge_sub hl c1
    have hlt := Nat.mod_lt i (show 2 * l > 0 by omega)
    rw [if_neg c1, if_neg c1, fblocks_at hl _ hd n (by omega) (i - l), hn, if_pos (by omega), if_pos (by omega), p2, show i - l + l = i by omega]
    generalize zet ((n : Int) + ((i / (2 * l) : Nat) : Int)) = z at hv ⊢
    generalize zet (2 * (n : Int) - 1 - ((i / (2 * l) : Nat) : Int)) = y at hv ⊢
    generalize at' d (i - l) = p
    generalize at' d i = q
    refine ⟨-(2 * (v * q)), ?_⟩
    have e1 : y * (p - z * q - (p + z * q)) = -(2 * (z * y * q)) := by
      rw [show p - z * q - (p + z * q) = -(2 * (z * q)) by omega, Int.mul_neg]
      congr 1
      simp only [Int.mul_assoc, Int.mul_comm, Int.mul_left_comm]
    have e2 : z * y * q = 3329 * (v * q) - q := by
      rw [show z * y = 3329 * v - 1 by omega, Int.sub_mul, Int.one_mul, Int.mul_assoc]
    rw [e1, e2]
    omega
theorem fi_pair {l n : Nat} (hl : 0 < l) (hn : 2 * l * n = 256) (hm : n ∈ [1, 2, 4, 8, 16, 32, 64]) {d : List Int} (hd : d.length = 256) : CongS 2 (fblocks (l : Int) (n : Int) n (iblocks (l : Int) (2 * (n : Int) - 1) n d)) d := by
  intro i hi
  have hq : i / (2 * l) < n := Nat.div_lt_of_lt_mul (by omega)
  rw [fblocks_at hl _ (iblocks_len _ _ _ _ hd) n (by omega), hn, if_pos hi, iblocks_at hl _ hd n (by omega) i, hn, if_pos hi]
  obtain ⟨v, hv⟩ := zz n hm (i / (2 * l)) hq
  by_cases c1 : i % (2 * l) < l
  · obtain ⟨p0, p1, p2⟩ := mod_lt_add hl hn hi c1
    rw [if_pos c1, if_pos c1, iblocks_at hl _ hd n (by omega) (i + l), hn, if_pos p0, if_neg (by omega), p2, show i + l - l = i by omega]
    generalize zet ((n : Int) + ((i / (2 * l) : Nat) : Int)) = z at hv ⊢
    generalize zet (2 * (n : Int) - 1 - ((i / (2 * l) : Nat) : Int)) = y at hv ⊢
    generalize at' d (i + l) = p
    generalize at' d i = q
    refine ⟨v * (p - q), ?_⟩
    have e1 : z * (y * (p - q)) = 3329 * (v * (p - q)) - (p - q) := by
      rw [← Int.mul_assoc, show z * y = 3329 * v - 1 by omega, Int.sub_mul, Int.one_mul, Int.mul_assoc]
    rw [e1]
    omega
  · obtain ⟨p0, p1, p2⟩ := mod_ge_sub hl c1
    have hlt := Nat.mod_lt i (show 2 * l > 0 by omega)
    rw [if_neg c1, if_neg c1, iblocks_at hl _ hd n (by omega) (i - l), hn, if_pos (by omega), if_pos (by omega), show i - l + l = i by omega]
    generalize zet ((n : Int) + ((i / (2 * l) : Nat) : Int)) = z at hv ⊢
    generalize zet (2 * (n : Int) - 1 - ((i / (2 * l) : Nat) : Int)) = y at hv ⊢
    generalize at' d (i - l) = p
    generalize at' d i = q
    refine ⟨-(v * (q - p)), ?_⟩
    have e1 : z * (y * (q - p)) = 3329 * (v * (q - p)) - (q - p) := by
      rw [← Int.mul_assoc, show z * y = 3329 * v - 1 by omega, Int.sub_mul, Int.one_mul, Int.mul_assoc]
    rw [e1]
    omega
end P9
section P10
open PySem PySem.W PyProof.Rows
theorem flayers_len : ∀ (m : Nat) (c : List Int), c.length = 256 → (flayers m c).length = 256
  | 0, _, h => h
  | m + 1, c, h => fblocks_len _ _ _ _ (flayers_len m c h)
theorem ilayers_len : ∀ (m : Nat) (c : List Int), c.length = 256 → (ilayers m c).length = 256
  | 0, _, h => h
  | m + 1, c, h => iblocks_len _ _ _ _ (ilayers_len m c h)
theorem CongS.comp {s r : Int} {c d e : List Int} (h : CongS s c d) (h2 : CongS r d e) : CongS (s * r) c e := by
  intro i hi
  obtain ⟨a, ha⟩ := h i hi
  obtain ⟨b, hb⟩ := h2 i hi
  refine ⟨a + s * b, ?_⟩
  have e2 : at' d i = 3329 * b + r * at' e i := by omega
  rw [e2, dist, Int.mul_left_comm r s, ← Int.mul_assoc s r] at ha
  omega
/-- one layer off, backward upon forward -/
theorem step_if {l n : Nat} (hl : 0 < l) (hn : 2 * l * n = 256) (hm : n ∈ [1, 2, 4, 8, 16, 32, 64]) {s : Int} {x c : List Int} (hx : x.length = 256) (hc : c.length = 256) (h : CongS s x (fblocks (l : Int) (n : Int) n c)) :
    CongS (s * 2) (iblocks (l : Int) (2 * (n : Int) - 1) n x) c :=
  (i_lin hl hn hx (fblocks_len _ _ _ _ hc) h).comp (if_pair hl hn hm hc)
theorem step_fi {l n : Nat} (hl : 0 < l) (hn : 2 * l * n = 256) (hm : n ∈ [1, 2, 4, 8, 16, 32, 64]) {s : Int} {x c : List Int} (hx : x.length = 256) (hc : c.length = 256) (h : CongS s x (iblocks (l : Int) (2 * (n : Int) - 1) n c)) :
    CongS (s * 2) (fblocks (l : Int) (n : Int) n x) c :=
  (f_lin hl hn hx (iblocks_len _ _ _ _ hc) h).comp (fi_pair hl hn hm hc)
theorem back_forth {s : Int} {x c : List Int} (hx : x.length = 256) (hc : c.length = 256) (h : CongS s x (flayers 7 c)) : CongS (s * 2 * 2 * 2 * 2 * 2 * 2 * 2) (ilayers 7 x) c := by
  have h1 := step_if (l := 2) (n := 64) (by decide) (by decide) (by decide) hx (flayers_len 6 c hc) h
  have h2 := step_if (l := 4) (n := 32) (by decide) (by decide) (by decide) (ilayers_len 1 x hx) (flayers_len 5 c hc) h1
  have h3 := step_if (l := 8) (n := 16) (by decide) (by decide) (by decide) (ilayers_len 2 x hx) (flayers_len 4 c hc) h2
  have h4 := step_if (l := 16) (n := 8) (by decide) (by decide) (by decide) (ilayers_len 3 x hx) (flayers_len 3 c hc) h3
  have h5 := step_if (l := 32) (n := 4) (by decide) (by decide) (by decide) (ilayers_len 4 x hx) (flayers_len 2 c hc) h4
  have h6 := step_if (l := 64) (n := 2) (by decide) (by decide) (by decide) (ilayers_len 5 x hx) (flayers_len 1 c hc) h5
  exact step_if (l := 128) (n := 1) (by decide) (by decide) (by decide) (ilayers_len 6 x hx) hc h6
theorem forth_back {s : Int} {x c : List Int} (hx : x.length = 256) (hc : c.length = 256) (h : CongS s x (ilayers 7 c)) : CongS (s * 2 * 2 * 2 * 2 * 2 * 2 * 2) (flayers 7 x) c := by
  have h1 := step_fi (l := 128) (n := 1) (by decide) (by decide) (by decide) hx (ilayers_len 6 c hc) h
  have h2 := step_fi (l := 64) (n := 2) (by decide) (by decide) (by decide) (flayers_len 1 x hx) (ilayers_len 5 c hc) h1
  have h3 := step_fi (l := 32) (n := 4) (by decide) (by decide) (by decide) (flayers_len 2 x hx) (ilayers_len 4 c hc) h2
  have h4 := step_fi (l := 16) (n := 8) (by decide) (by decide) (by decide) (flayers_len 3 x hx) (ilayers_len 3 c hc) h3
  have h5 := step_fi (l := 8) (n := 16) (by decide) (by decide) (by decide) (flayers_len 4 x hx) (ilayers_len 2 c hc) h4
  have h6 := step_fi (l := 4) (n := 32) (by decide) (by decide) (by decide) (flayers_len 5 x hx) (ilayers_len 1 c hc) h5
  exact step_fi (l := 2) (n := 64) (by decide) (by decide) (by decide) (flayers_len 6 x hx) hc h6
/-- the last loops: each number by itself -/
theorem each_at {g : Int → Int} {c : List Int} (h : c.length = 256) : ∀ n : Nat, n ≤ 256 → ∀ i : Nat,
    at' ((rangeKs 0 n).foldl (fun (c : List Int) (j : Int) => c.set j.toNat (g (c.getD j.toNat 0))) c) i = if i < n then g (at' c i) else at' c i := by
  intro n
  induction n with
  | zero => intro _ i; rw [if_neg (by omega)]; rfl
  | succ n ih =>
    intro hn i
    have hlen := len_foldl (f := fun (c : List Int) (j : Int) => c.set j.toNat (g (c.getD j.toNat 0))) (fun ns k h => by simp [h]) (rangeKs 0 n) c h
    rw [rangeKs_snoc, List.foldl_append, List.foldl_cons, List.foldl_nil]
    have e : (0 + (n : Int)).toNat = n := by omega
    show at' (List.set _ (0 + (n : Int)).toNat (g (at' _ (0 + (n : Int)).toNat))) i = _
    rw [e, at_set _ _ _ _ (by rw [hlen]; omega), ih (by omega) n, ih (by omega) i, if_neg (Nat.lt_irrefl n)]
    by_cases c1 : i = n
    · subst c1
      rw [if_pos rfl, if_pos (Nat.lt_succ_self i)]
    · rw [if_neg c1]
      by_cases c2 : i < n
      · rw [if_pos c2, if_pos (by omega)]
      · rw [if_neg c2, if_neg (by omega)]
theorem fm_at {c : List Int} (h : c.length = 256) {i : Nat} (hi : i < 256) : at' ((rangeKs 0 256).foldl fm c) i = (at' c i).fmod 3329 := by
  have e := each_at (g := fun x => x.fmod 3329) h 256 (Nat.le_refl _) i
  rw [if_pos hi] at e
  exact e
theorem sm_at {c : List Int} (h : c.length = 256) {i : Nat} (hi : i < 256) : at' ((rangeKs 0 256).foldl sm c) i = (at' c i * 3303).fmod 3329 := by
  have e := each_at (g := fun x => (x * 3303).fmod 3329) h 256 (Nat.le_refl _) i
  rw [if_pos hi] at e
  exact e
theorem fm_len (ns : List Int) (k : Int) (h : ns.length = 256) : (fm ns k).length = 256 := by simp [fm, h]
theorem sm_len (ns : List Int) (k : Int) (h : ns.length = 256) : (sm ns k).length = 256 := by simp [sm, h]
theorem eq_map {r c : List Int} {g : Int → Int} (hr : r.length = 256) (hc : c.length = 256) (h : ∀ i, i < 256 → at' r i = g (at' c i)) : r = c.map g := by
  apply List.ext_getElem
  · rw [List.length_map, hr, hc]
  · intro i h1 h2
    have hi : i < 256 := by omega
    have e := h i hi
    unfold at' at e
    rw [List.getD_eq_getElem?_getD, List.getD_eq_getElem?_getD, List.getElem?_eq_getElem h1, List.getElem?_eq_getElem (by omega)] at e
    rw [List.getElem_map]
    exact e
theorem fmod_dvd (x : Int) : (3329 : Int) ∣ x.fmod 3329 - 1 * x := by
  have e := Int.fmod_eq_emod_of_nonneg x (show (0 : Int) ≤ 3329 by decide)
  rw [e]
  omega
theorem there {c : List Int} (hc : c.length = 256) : CongS 1 ((rangeKs 0 256).foldl fm c) c := by
  intro i hi
  rw [fm_at hc hi]
  exact fmod_dvd _
theorem scaled {c : List Int} (hc : c.length = 256) : CongS 3303 ((rangeKs 0 256).foldl sm c) c := by
  intro i hi
  rw [sm_at hc hi]
  have e := Int.fmod_eq_emod_of_nonneg (at' c i * 3303) (show (0 : Int) ≤ 3329 by decide)
  rw [e]
  omega
/-- to_ntt, then from_ntt -/
theorem forth_core {row : List Int} (hr : row.length = 256) : (rangeKs 0 256).foldl sm (ilayers 7 ((rangeKs 0 256).foldl fm (flayers 7 row))) = row.map (fun c => c.fmod 3329) := by
  have hF := flayers_len 7 row hr
  generalize hc : flayers 7 row = c at hF
  have hT := len_foldl fm_len (rangeKs 0 256) c hF
  have h1 : CongS 1 ((rangeKs 0 256).foldl fm c) (flayers 7 row) := by rw [hc]; exact there hF
  generalize (rangeKs 0 256).foldl fm c = x at hT h1
  have h2 := back_forth hT hr h1
  have hI := ilayers_len 7 x hT
  generalize ilayers 7 x = y at h2 hI
  refine eq_map (len_foldl sm_len _ _ hI) hr fun i hi => ?_
  obtain ⟨a, ha⟩ := h2 i hi
  rw [sm_at hI hi]
  have e1 := Int.fmod_eq_emod_of_nonneg (at' y i * 3303) (show (0 : Int) ≤ 3329 by decide)
  have e2 := Int.fmod_eq_emod_of_nonneg (at' row i) (show (0 : Int) ≤ 3329 by decide)
  rw [e1, e2]
  omega
/-- from_ntt, then to_ntt -/
theorem back_core {row : List Int} (hr : row.length = 256) : (rangeKs 0 256).foldl fm (flayers 7 ((rangeKs 0 256).foldl sm (ilayers 7 row))) = row.map (fun c => c.fmod 3329) := by
  have hF := ilayers_len 7 row hr
  generalize hc : ilayers 7 row = c at hF
  have hT := len_foldl sm_len (rangeKs 0 256) c hF
  have h1 : CongS 3303 ((rangeKs 0 256).foldl sm c) (ilayers 7 row) := by rw [hc]; exact scaled hF
  generalize (rangeKs 0 256).foldl sm c = x at hT h1
  have h2 := forth_back hT hr h1
  have hI := flayers_len 7 x hT
  generalize flayers 7 x = y at h2 hI
  refine eq_map (len_foldl fm_len _ _ hI) hr fun i hi => ?_
  obtain ⟨a, ha⟩ := h2 i hi
  rw [fm_at hI hi]
  have e1 := Int.fmod_eq_emod_of_nonneg (at' y i) (show (0 : Int) ≤ 3329 by decide)
  have e2 := Int.fmod_eq_emod_of_nonneg (at' row i) (show (0 : Int) ≤ 3329 by decide)
  rw [e1, e2]
  omega
theorem law_forth {row c c2 : List Int} {l k l' k' : Int} (hrow : L256 row) (h1 : OuF row l k c) (n1 : ¬ 2 ≤ l) (h2 : OuB ((rangeKs 0 256).foldl fm c) l' k' c2) (n2 : ¬ l' ≤ 128) : (rangeKs 0 256).foldl sm c2 = row.map (fun c => c.fmod 3329) := by
  rw [(h2.last n2).1, (h1.last n1).1]
  exact forth_core hrow.out
theorem law_back {row c c2 : List Int} {l k l' k' : Int} (hrow : L256 row) (h1 : OuB row l k c) (n1 : ¬ l ≤ 128) (h2 : OuF ((rangeKs 0 256).foldl sm c) l' k' c2) (n2 : ¬ 2 ≤ l') : (rangeKs 0 256).foldl fm c2 = row.map (fun c => c.fmod 3329) := by
  rw [(h2.last n2).1, (h1.last n1).1]
  exact back_core hrow.out
end P10
section P11
open PySem PySem.W PyProof.Rows PySem.Calls PySem.Spec
section
variable {prog : Program} {w : World} {A : Around} {E : Value → Shared → Prop} {s : Shared} {h₀ : Heap} {L a b : Addr} {news : List (Addr × Obj)} {vs us : List Value} {ns ms : List Int} {n k : Nat}
/-- two lists of ints that are shown equal -/
theorem eq_now {Q : Value → Shared → Prop} (N : News h₀ L s.heap news) (ha : (a, listOf vs.toArray n) ∈ news) (hb : (b, listOf us.toArray k) ∈ news) (hi : IntsAre vs ns) (hj : IntsAre us ms) (hu : A.units + 64 < cLine) (e : ns = ms) (h : Q (.bool true) s) :
    wpAny (model prog w) A (compareOp .Eq (.ref a) (.ref b)) Q E s :=
  ke_eq_ints (PySem.IsL.isList (n := n) (N _ ha).1) (PySem.IsL.isList (n := k) (N _ hb).1) hi hj hu (by rw [decide_eq_true e]; exact h)
end
end P11
section head
open PySem PySem.W PyProof.Rows
/-- short words for the objects that the text's top leaves -/
abbrev o (s : String) : Str := Str.ofString s
abbrev n : Value := .none
noncomputable abbrev e (P : Params) (x : Str) (t : Tok) (v : Value) : DictEntry := ⟨PyData.keyHash P x, .str x t, v⟩
noncomputable def top (i : Nat) : Stmt := PySem.Challenge.pw_yi0059_01.main.body.getD i (.Pass ⟨0, 0, 0, 0⟩)
noncomputable def sub (i j : Nat) : Stmt := match top i with
  | .ClassDef _ _ _ b .. => b.getD j (.Pass ⟨0, 0, 0, 0⟩)
  | _ => .Pass ⟨0, 0, 0, 0⟩
noncomputable def f (s : Stmt) (name qual : Str) (globals : Addr) (closure : List (Str × Addr)) (dv kv doc pm : Value) (ann : Option Addr) (code ct : Value) (bi : Addr) : FuncData := match s with
  | .FunctionDef _ a b _ _ _ sc .. => ⟨name, qual, a, .stmts b, sc, globals, closure, dv, kv, doc, pm, ann, code, ct, bi⟩
  | _ => default
/-- the statements that the view keeps -/
noncomputable def view : Program := { PySem.Challenge.pw_yi0059_01 with main := { PySem.Challenge.pw_yi0059_01.main with body := [top 0, top 2, top 3, top 5, top 6, top 7, top 9, top 10] } }
noncomputable def K : Params → Frag := fun P =>
(nat_lit 2, ⟨n, .none, .dict [].toArray 0, [].toArray⟩) ::
(nat_lit 3, ⟨(.type "dict"), .none, .dict [e P (o "__name__") 165 (.str (o "law_yi0059_01") 750), e P (o "__doc__") 166 n, e P (o "__package__") 167 n, e P (o "__loader__") 168 (.builtin "__main__.__loader__#opaque"), e P (o "__spec__") 169 n, e P (o "__annotations__") 170 (.ref 6), e P (o "__builtins__") 171 (.ref 4), e P (o "__file__") 173 (.str (o "/claim/cut.py") 172), e P (o "__cached__") 174 n, e P (o "_wall") 193 (.ref 21), e P (o "GenericPolynomialRing") 248 (.ref 59), e P (o "GenericPolynomial") 447 (.ref 222), e P (o "PolynomialRing") 533 (.ref 282), e P (o "Polynomial") 624 (.ref 350), e P (o "PolynomialNTT") 749 (.ref 426), e P (o "_law_draw") 759 (.ref 435), e P (o "law") 765 (.ref 440)].toArray 17, [].toArray⟩) ::
(nat_lit 15, ⟨(.type "tuple"), .none, .seq [].toArray 0, [].toArray⟩) ::
(nat_lit 17, ⟨(.type "tuple"), .none, .seq [(.str (o "k") 190)].toArray 0, [].toArray⟩) ::
(nat_lit 18, ⟨(.type "tuple"), .none, .seq [].toArray 0, [].toArray⟩) ::
(nat_lit 20, ⟨(.type "code"), .none, .fields [(.str (o "_wall") 187), (.str (o "_wall") 188), (.str (o "/claim/cut.py") 189), (.int (1) 0), (.int (1) 0), (.int (0) 0), (.int (0) 0), (.int (3) 0), (.ref 15), (.bool true), (.int (181) 0), (.ref 16), n, (.ref 17), (.ref 18), (.ref 19), (.int (191) 0), (.int (1) 0), (.str (o "/claim/cut.py") 192)].toArray, [].toArray⟩) ::
(nat_lit 21, ⟨(.type "function"), .none, .func (f (top 0) (o "_wall") (o "_wall") 3 [] n n n (.str (o "__main__") 164) .none (.ref 20) n 0), [].toArray⟩) ::
(nat_lit 29, ⟨(.type "tuple"), .none, .seq [].toArray 0, [].toArray⟩) ::
(nat_lit 31, ⟨(.type "tuple"), .none, .seq [(.str (o "self") 211), (.str (o "q") 212), (.str (o "n") 213)].toArray 0, [].toArray⟩) ::
(nat_lit 32, ⟨(.type "tuple"), .none, .seq [].toArray 0, [].toArray⟩) ::
(nat_lit 34, ⟨(.type "code"), .none, .fields [(.str (o "__init__") 208), (.str (o "GenericPolynomialRing.__init__") 209), (.str (o "/claim/cut.py") 210), (.int (7) 0), (.int (3) 0), (.int (0) 0), (.int (0) 0), (.int (3) 0), (.ref 29), (.bool true), (.int (181) 0), (.ref 30), n, (.ref 31), (.ref 32), (.ref 33), (.int (214) 0), (.int (7) 0), (.str (o "/claim/cut.py") 215)].toArray, [].toArray⟩) ::
(nat_lit 35, ⟨(.type "function"), .none, .func (f (sub 2 0) (o "__init__") (o "GenericPolynomialRing.__init__") 3 [] n n n (.str (o "kyber_py.polynomials.polynomials_generic") 194) .none (.ref 34) n 0), [].toArray⟩) ::
(nat_lit 36, ⟨(.type "tuple"), .none, .seq [].toArray 0, [].toArray⟩) ::
(nat_lit 38, ⟨(.type "tuple"), .none, .seq [(.str (o "self") 220)].toArray 0, [].toArray⟩) ::
(nat_lit 39, ⟨(.type "tuple"), .none, .seq [].toArray 0, [].toArray⟩) ::
(nat_lit 41, ⟨(.type "code"), .none, .fields [(.str (o "zero") 217), (.str (o "GenericPolynomialRing.zero") 218), (.str (o "/claim/cut.py") 219), (.int (11) 0), (.int (1) 0), (.int (0) 0), (.int (0) 0), (.int (3) 0), (.ref 36), (.bool true), (.int (181) 0), (.ref 37), n, (.ref 38), (.ref 39), (.ref 40), (.int (221) 0), (.int (11) 0), (.str (o "/claim/cut.py") 222)].toArray, [].toArray⟩) ::
(nat_lit 42, ⟨(.type "function"), .none, .func (f (sub 2 1) (o "zero") (o "GenericPolynomialRing.zero") 3 [] n n n (.str (o "kyber_py.polynomials.polynomials_generic") 194) .none (.ref 41) n 0), [].toArray⟩) ::
(nat_lit 43, ⟨(.type "tuple"), .none, .seq [].toArray 0, [].toArray⟩) ::
(nat_lit 45, ⟨(.type "tuple"), .none, .seq [(.str (o "self") 227)].toArray 0, [].toArray⟩) ::
(nat_lit 46, ⟨(.type "tuple"), .none, .seq [].toArray 0, [].toArray⟩) ::
(nat_lit 48, ⟨(.type "code"), .none, .fields [(.str (o "gen") 224), (.str (o "GenericPolynomialRing.gen") 225), (.str (o "/claim/cut.py") 226), (.int (14) 0), (.int (1) 0), (.int (0) 0), (.int (0) 0), (.int (3) 0), (.ref 43), (.bool true), (.int (181) 0), (.ref 44), n, (.ref 45), (.ref 46), (.ref 47), (.int (228) 0), (.int (14) 0), (.str (o "/claim/cut.py") 229)].toArray, [].toArray⟩) ::
(nat_lit 49, ⟨(.type "function"), .none, .func (f (sub 2 2) (o "gen") (o "GenericPolynomialRing.gen") 3 [] n n n (.str (o "kyber_py.polynomials.polynomials_generic") 194) .none (.ref 48) n 0), [].toArray⟩) ::
(nat_lit 50, ⟨(.type "tuple"), .none, .seq [].toArray 0, [].toArray⟩) ::
(nat_lit 52, ⟨(.type "tuple"), .none, .seq [(.str (o "self") 234), (.str (o "coefficients") 235)].toArray 0, [].toArray⟩) ::
(nat_lit 53, ⟨(.type "tuple"), .none, .seq [].toArray 0, [].toArray⟩) ::
(nat_lit 55, ⟨(.type "code"), .none, .fields [(.str (o "__call__") 231), (.str (o "GenericPolynomialRing.__call__") 232), (.str (o "/claim/cut.py") 233), (.int (17) 0), (.int (2) 0), (.int (0) 0), (.int (0) 0), (.int (3) 0), (.ref 50), (.bool true), (.int (181) 0), (.ref 51), n, (.ref 52), (.ref 53), (.ref 54), (.int (236) 0), (.int (17) 0), (.str (o "/claim/cut.py") 237)].toArray, [].toArray⟩) ::
(nat_lit 56, ⟨(.type "function"), .none, .func (f (sub 2 3) (o "__call__") (o "GenericPolynomialRing.__call__") 3 [] n n n (.str (o "kyber_py.polynomials.polynomials_generic") 194) .none (.ref 55) n 0), [].toArray⟩) ::
(nat_lit 57, ⟨(.type "tuple"), .none, .seq [(.str (o "n") 239), (.str (o "q") 240)].toArray 0, [].toArray⟩) ::
(nat_lit 58, ⟨(.type "dict"), .none, .dict [e P (o "__module__") 203 (.str (o "kyber_py.polynomials.polynomials_generic") 194), e P (o "__firstlineno__") 207 (.int (5) 206), e P (o "__init__") 216 (.ref 35), e P (o "zero") 223 (.ref 42), e P (o "gen") 230 (.ref 49), e P (o "__call__") 238 (.ref 56), e P (o "__static_attributes__") 241 (.ref 57), e P (o "__dict__") 243 (.ref 60), e P (o "__weakref__") 245 (.ref 61), e P (o "__doc__") 246 n].toArray 4, [].toArray⟩) ::
(nat_lit 59, ⟨(.type "type"), .none, .cls ⟨(o "GenericPolynomialRing"), [(.type "object")], [(.ref 59), (.type "object")], 58, (o "GenericPolynomialRing"), true, [], [(.ref 282)], false, .none, false⟩, [.none, .none, (.some (.str (o "GenericPolynomialRing") 196)), (.some (.str (o "GenericPolynomialRing") 204)), (.some (.builtin "object.__new__")), (.some (.bool true))].toArray⟩) ::
(nat_lit 60, ⟨(.type "getset_descriptor"), .none, .fields [(.str (o "__dict__") 242), (.ref 59), (.builtin "function.__dict__"), (.builtin "function.__dict__#set")].toArray, [].toArray⟩) ::
(nat_lit 61, ⟨(.type "getset_descriptor"), .none, .fields [(.str (o "__weakref__") 244), (.ref 59), (.builtin "ExceptionGroup.__weakref__"), n].toArray, [].toArray⟩) ::
(nat_lit 71, ⟨(.type "tuple"), .none, .seq [].toArray 0, [].toArray⟩) ::
(nat_lit 73, ⟨(.type "tuple"), .none, .seq [(.str (o "self") 264), (.str (o "parent") 265), (.str (o "coefficients") 266)].toArray 0, [].toArray⟩) ::
(nat_lit 74, ⟨(.type "tuple"), .none, .seq [].toArray 0, [].toArray⟩) ::
(nat_lit 76, ⟨(.type "code"), .none, .fields [(.str (o "__init__") 261), (.str (o "GenericPolynomial.__init__") 262), (.str (o "/claim/cut.py") 263), (.int (25) 0), (.int (3) 0), (.int (0) 0), (.int (0) 0), (.int (3) 0), (.ref 71), (.bool true), (.int (181) 0), (.ref 72), n, (.ref 73), (.ref 74), (.ref 75), (.int (267) 0), (.int (25) 0), (.str (o "/claim/cut.py") 268)].toArray, [].toArray⟩) ::
(nat_lit 77, ⟨(.type "function"), .none, .func (f (sub 3 0) (o "__init__") (o "GenericPolynomial.__init__") 3 [] n n n (.str (o "kyber_py.polynomials.polynomials_generic") 194) .none (.ref 76) n 0), [].toArray⟩) ::
(nat_lit 78, ⟨(.type "tuple"), .none, .seq [].toArray 0, [].toArray⟩) ::
(nat_lit 80, ⟨(.type "tuple"), .none, .seq [(.str (o "self") 273)].toArray 0, [].toArray⟩) ::
(nat_lit 81, ⟨(.type "tuple"), .none, .seq [].toArray 0, [].toArray⟩) ::
(nat_lit 83, ⟨(.type "code"), .none, .fields [(.str (o "is_zero") 270), (.str (o "GenericPolynomial.is_zero") 271), (.str (o "/claim/cut.py") 272), (.int (29) 0), (.int (1) 0), (.int (0) 0), (.int (0) 0), (.int (3) 0), (.ref 78), (.bool true), (.int (181) 0), (.ref 79), n, (.ref 80), (.ref 81), (.ref 82), (.int (274) 0), (.int (29) 0), (.str (o "/claim/cut.py") 275)].toArray, [].toArray⟩) ::
(nat_lit 84, ⟨(.type "function"), .none, .func (f (sub 3 1) (o "is_zero") (o "GenericPolynomial.is_zero") 3 [] n n n (.str (o "kyber_py.polynomials.polynomials_generic") 194) .none (.ref 83) n 0), [].toArray⟩) ::
(nat_lit 85, ⟨(.type "tuple"), .none, .seq [].toArray 0, [].toArray⟩) ::
(nat_lit 87, ⟨(.type "tuple"), .none, .seq [(.str (o "self") 280)].toArray 0, [].toArray⟩) ::
(nat_lit 88, ⟨(.type "tuple"), .none, .seq [].toArray 0, [].toArray⟩) ::
(nat_lit 90, ⟨(.type "code"), .none, .fields [(.str (o "is_constant") 277), (.str (o "GenericPolynomial.is_constant") 278), (.str (o "/claim/cut.py") 279), (.int (32) 0), (.int (1) 0), (.int (0) 0), (.int (0) 0), (.int (3) 0), (.ref 85), (.bool true), (.int (181) 0), (.ref 86), n, (.ref 87), (.ref 88), (.ref 89), (.int (281) 0), (.int (32) 0), (.str (o "/claim/cut.py") 282)].toArray, [].toArray⟩) ::
(nat_lit 91, ⟨(.type "function"), .none, .func (f (sub 3 2) (o "is_constant") (o "GenericPolynomial.is_constant") 3 [] n n n (.str (o "kyber_py.polynomials.polynomials_generic") 194) .none (.ref 90) n 0), [].toArray⟩) ::
(nat_lit 92, ⟨(.type "tuple"), .none, .seq [].toArray 0, [].toArray⟩) ::
(nat_lit 95, ⟨(.type "code"), .none, .fields [(.str (o "_parse_coefficients") 284), (.str (o "GenericPolynomial._parse_coefficients") 285), (.str (o "/claim/cut.py") 286), (.int (35) 0), (.int (2) 0), (.int (0) 0), (.int (0) 0), (.int (3) 0), (.ref 92), (.bool true), (.int (181) 0), (.ref 93), n, n, n, (.ref 94), (.int (287) 0), (.int (35) 0), (.str (o "/claim/cut.py") 288)].toArray, [].toArray⟩) ::
(nat_lit 96, ⟨(.type "function"), .none, .func (f (sub 3 3) (o "_parse_coefficients") (o "GenericPolynomial._parse_coefficients") 3 [] n n n (.str (o "kyber_py.polynomials.polynomials_generic") 194) .none (.ref 95) n 0), [].toArray⟩) ::
(nat_lit 97, ⟨(.type "tuple"), .none, .seq [].toArray 0, [].toArray⟩) ::
(nat_lit 99, ⟨(.type "tuple"), .none, .seq [(.str (o "self") 293)].toArray 0, [].toArray⟩) ::
(nat_lit 100, ⟨(.type "tuple"), .none, .seq [].toArray 0, [].toArray⟩) ::
(nat_lit 102, ⟨(.type "code"), .none, .fields [(.str (o "reduce_coefficients") 290), (.str (o "GenericPolynomial.reduce_coefficients") 291), (.str (o "/claim/cut.py") 292), (.int (43) 0), (.int (1) 0), (.int (0) 0), (.int (0) 0), (.int (3) 0), (.ref 97), (.bool true), (.int (181) 0), (.ref 98), n, (.ref 99), (.ref 100), (.ref 101), (.int (294) 0), (.int (43) 0), (.str (o "/claim/cut.py") 295)].toArray, [].toArray⟩) ::
(nat_lit 103, ⟨(.type "function"), .none, .func (f (sub 3 4) (o "reduce_coefficients") (o "GenericPolynomial.reduce_coefficients") 3 [] n n n (.str (o "kyber_py.polynomials.polynomials_generic") 194) .none (.ref 102) n 0), [].toArray⟩) ::
(nat_lit 104, ⟨(.type "tuple"), .none, .seq [].toArray 0, [].toArray⟩) ::
(nat_lit 106, ⟨(.type "tuple"), .none, .seq [(.str (o "self") 300), (.str (o "x") 301), (.str (o "y") 302)].toArray 0, [].toArray⟩) ::
(nat_lit 107, ⟨(.type "tuple"), .none, .seq [].toArray 0, [].toArray⟩) ::
(nat_lit 109, ⟨(.type "code"), .none, .fields [(.str (o "_add_mod_q") 297), (.str (o "GenericPolynomial._add_mod_q") 298), (.str (o "/claim/cut.py") 299), (.int (46) 0), (.int (3) 0), (.int (0) 0), (.int (0) 0), (.int (3) 0), (.ref 104), (.bool true), (.int (181) 0), (.ref 105), n, (.ref 106), (.ref 107), (.ref 108), (.int (303) 0), (.int (46) 0), (.str (o "/claim/cut.py") 304)].toArray, [].toArray⟩) ::
(nat_lit 110, ⟨(.type "function"), .none, .func (f (sub 3 5) (o "_add_mod_q") (o "GenericPolynomial._add_mod_q") 3 [] n n n (.str (o "kyber_py.polynomials.polynomials_generic") 194) .none (.ref 109) n 0), [].toArray⟩) ::
(nat_lit 111, ⟨(.type "tuple"), .none, .seq [].toArray 0, [].toArray⟩) ::
(nat_lit 113, ⟨(.type "tuple"), .none, .seq [(.str (o "self") 309), (.str (o "x") 310), (.str (o "y") 311)].toArray 0, [].toArray⟩) ::
(nat_lit 114, ⟨(.type "tuple"), .none, .seq [].toArray 0, [].toArray⟩) ::
(nat_lit 116, ⟨(.type "code"), .none, .fields [(.str (o "_sub_mod_q") 306), (.str (o "GenericPolynomial._sub_mod_q") 307), (.str (o "/claim/cut.py") 308), (.int (49) 0), (.int (3) 0), (.int (0) 0), (.int (0) 0), (.int (3) 0), (.ref 111), (.bool true), (.int (181) 0), (.ref 112), n, (.ref 113), (.ref 114), (.ref 115), (.int (312) 0), (.int (49) 0), (.str (o "/claim/cut.py") 313)].toArray, [].toArray⟩) ::
(nat_lit 117, ⟨(.type "function"), .none, .func (f (sub 3 6) (o "_sub_mod_q") (o "GenericPolynomial._sub_mod_q") 3 [] n n n (.str (o "kyber_py.polynomials.polynomials_generic") 194) .none (.ref 116) n 0), [].toArray⟩) ::
(nat_lit 118, ⟨(.type "tuple"), .none, .seq [].toArray 0, [].toArray⟩) ::
(nat_lit 121, ⟨(.type "code"), .none, .fields [(.str (o "_schoolbook_multiplication") 315), (.str (o "GenericPolynomial._schoolbook_multiplication") 316), (.str (o "/claim/cut.py") 317), (.int (52) 0), (.int (2) 0), (.int (0) 0), (.int (0) 0), (.int (3) 0), (.ref 118), (.bool true), (.int (181) 0), (.ref 119), n, n, n, (.ref 120), (.int (318) 0), (.int (52) 0), (.str (o "/claim/cut.py") 319)].toArray, [].toArray⟩) ::
(nat_lit 122, ⟨(.type "function"), .none, .func (f (sub 3 7) (o "_schoolbook_multiplication") (o "GenericPolynomial._schoolbook_multiplication") 3 [] n n n (.str (o "kyber_py.polynomials.polynomials_generic") 194) .none (.ref 121) n 0), [].toArray⟩) ::
(nat_lit 123, ⟨(.type "tuple"), .none, .seq [].toArray 0, [].toArray⟩) ::
(nat_lit 126, ⟨(.type "code"), .none, .fields [(.str (o "__neg__") 321), (.str (o "GenericPolynomial.__neg__") 322), (.str (o "/claim/cut.py") 323), (.int (65) 0), (.int (1) 0), (.int (0) 0), (.int (0) 0), (.int (3) 0), (.ref 123), (.bool true), (.int (181) 0), (.ref 124), n, n, n, (.ref 125), (.int (324) 0), (.int (65) 0), (.str (o "/claim/cut.py") 325)].toArray, [].toArray⟩) ::
(nat_lit 127, ⟨(.type "function"), .none, .func (f (sub 3 8) (o "__neg__") (o "GenericPolynomial.__neg__") 3 [] n n n (.str (o "kyber_py.polynomials.polynomials_generic") 194) .none (.ref 126) n 0), [].toArray⟩) ::
(nat_lit 128, ⟨(.type "tuple"), .none, .seq [].toArray 0, [].toArray⟩) ::
(nat_lit 131, ⟨(.type "code"), .none, .fields [(.str (o "_add_") 327), (.str (o "GenericPolynomial._add_") 328), (.str (o "/claim/cut.py") 329), (.int (69) 0), (.int (2) 0), (.int (0) 0), (.int (0) 0), (.int (3) 0), (.ref 128), (.bool true), (.int (181) 0), (.ref 129), n, n, n, (.ref 130), (.int (330) 0), (.int (69) 0), (.str (o "/claim/cut.py") 331)].toArray, [].toArray⟩) ::
(nat_lit 132, ⟨(.type "function"), .none, .func (f (sub 3 9) (o "_add_") (o "GenericPolynomial._add_") 3 [] n n n (.str (o "kyber_py.polynomials.polynomials_generic") 194) .none (.ref 131) n 0), [].toArray⟩) ::
(nat_lit 133, ⟨(.type "tuple"), .none, .seq [].toArray 0, [].toArray⟩) ::
(nat_lit 135, ⟨(.type "tuple"), .none, .seq [(.str (o "self") 336), (.str (o "other") 337), (.str (o "new_coeffs") 338)].toArray 0, [].toArray⟩) ::
(nat_lit 136, ⟨(.type "tuple"), .none, .seq [].toArray 0, [].toArray⟩) ::
(nat_lit 138, ⟨(.type "code"), .none, .fields [(.str (o "__add__") 333), (.str (o "GenericPolynomial.__add__") 334), (.str (o "/claim/cut.py") 335), (.int (79) 0), (.int (2) 0), (.int (0) 0), (.int (0) 0), (.int (3) 0), (.ref 133), (.bool true), (.int (181) 0), (.ref 134), n, (.ref 135), (.ref 136), (.ref 137), (.int (339) 0), (.int (79) 0), (.str (o "/claim/cut.py") 340)].toArray, [].toArray⟩) ::
(nat_lit 139, ⟨(.type "function"), .none, .func (f (sub 3 10) (o "__add__") (o "GenericPolynomial.__add__") 3 [] n n n (.str (o "kyber_py.polynomials.polynomials_generic") 194) .none (.ref 138) n 0), [].toArray⟩) ::
(nat_lit 140, ⟨(.type "tuple"), .none, .seq [].toArray 0, [].toArray⟩) ::
(nat_lit 142, ⟨(.type "tuple"), .none, .seq [(.str (o "self") 345), (.str (o "other") 346)].toArray 0, [].toArray⟩) ::
(nat_lit 143, ⟨(.type "tuple"), .none, .seq [].toArray 0, [].toArray⟩) ::
(nat_lit 145, ⟨(.type "code"), .none, .fields [(.str (o "__radd__") 342), (.str (o "GenericPolynomial.__radd__") 343), (.str (o "/claim/cut.py") 344), (.int (83) 0), (.int (2) 0), (.int (0) 0), (.int (0) 0), (.int (3) 0), (.ref 140), (.bool true), (.int (181) 0), (.ref 141), n, (.ref 142), (.ref 143), (.ref 144), (.int (347) 0), (.int (83) 0), (.str (o "/claim/cut.py") 348)].toArray, [].toArray⟩) ::
(nat_lit 146, ⟨(.type "function"), .none, .func (f (sub 3 11) (o "__radd__") (o "GenericPolynomial.__radd__") 3 [] n n n (.str (o "kyber_py.polynomials.polynomials_generic") 194) .none (.ref 145) n 0), [].toArray⟩) ::
(nat_lit 147, ⟨(.type "tuple"), .none, .seq [].toArray 0, [].toArray⟩) ::
(nat_lit 149, ⟨(.type "tuple"), .none, .seq [(.str (o "self") 353), (.str (o "other") 354)].toArray 0, [].toArray⟩) ::
(nat_lit 150, ⟨(.type "tuple"), .none, .seq [].toArray 0, [].toArray⟩) ::
(nat_lit 152, ⟨(.type "code"), .none, .fields [(.str (o "__iadd__") 350), (.str (o "GenericPolynomial.__iadd__") 351), (.str (o "/claim/cut.py") 352), (.int (86) 0), (.int (2) 0), (.int (0) 0), (.int (0) 0), (.int (3) 0), (.ref 147), (.bool true), (.int (181) 0), (.ref 148), n, (.ref 149), (.ref 150), (.ref 151), (.int (355) 0), (.int (86) 0), (.str (o "/claim/cut.py") 356)].toArray, [].toArray⟩) ::
(nat_lit 153, ⟨(.type "function"), .none, .func (f (sub 3 12) (o "__iadd__") (o "GenericPolynomial.__iadd__") 3 [] n n n (.str (o "kyber_py.polynomials.polynomials_generic") 194) .none (.ref 152) n 0), [].toArray⟩) ::
(nat_lit 154, ⟨(.type "tuple"), .none, .seq [].toArray 0, [].toArray⟩) ::
(nat_lit 157, ⟨(.type "code"), .none, .fields [(.str (o "_sub_") 358), (.str (o "GenericPolynomial._sub_") 359), (.str (o "/claim/cut.py") 360), (.int (90) 0), (.int (2) 0), (.int (0) 0), (.int (0) 0), (.int (3) 0), (.ref 154), (.bool true), (.int (181) 0), (.ref 155), n, n, n, (.ref 156), (.int (361) 0), (.int (90) 0), (.str (o "/claim/cut.py") 362)].toArray, [].toArray⟩) ::
(nat_lit 158, ⟨(.type "function"), .none, .func (f (sub 3 13) (o "_sub_") (o "GenericPolynomial._sub_") 3 [] n n n (.str (o "kyber_py.polynomials.polynomials_generic") 194) .none (.ref 157) n 0), [].toArray⟩) ::
(nat_lit 159, ⟨(.type "tuple"), .none, .seq [].toArray 0, [].toArray⟩) ::
(nat_lit 161, ⟨(.type "tuple"), .none, .seq [(.str (o "self") 367), (.str (o "other") 368), (.str (o "new_coeffs") 369)].toArray 0, [].toArray⟩) ::
(nat_lit 162, ⟨(.type "tuple"), .none, .seq [].toArray 0, [].toArray⟩) ::
(nat_lit 164, ⟨(.type "code"), .none, .fields [(.str (o "__sub__") 364), (.str (o "GenericPolynomial.__sub__") 365), (.str (o "/claim/cut.py") 366), (.int (100) 0), (.int (2) 0), (.int (0) 0), (.int (0) 0), (.int (3) 0), (.ref 159), (.bool true), (.int (181) 0), (.ref 160), n, (.ref 161), (.ref 162), (.ref 163), (.int (370) 0), (.int (100) 0), (.str (o "/claim/cut.py") 371)].toArray, [].toArray⟩) ::
(nat_lit 165, ⟨(.type "function"), .none, .func (f (sub 3 14) (o "__sub__") (o "GenericPolynomial.__sub__") 3 [] n n n (.str (o "kyber_py.polynomials.polynomials_generic") 194) .none (.ref 164) n 0), [].toArray⟩) ::
(nat_lit 166, ⟨(.type "tuple"), .none, .seq [].toArray 0, [].toArray⟩) ::
(nat_lit 168, ⟨(.type "tuple"), .none, .seq [(.str (o "self") 376), (.str (o "other") 377)].toArray 0, [].toArray⟩) ::
(nat_lit 169, ⟨(.type "tuple"), .none, .seq [].toArray 0, [].toArray⟩) ::
(nat_lit 171, ⟨(.type "code"), .none, .fields [(.str (o "__rsub__") 373), (.str (o "GenericPolynomial.__rsub__") 374), (.str (o "/claim/cut.py") 375), (.int (104) 0), (.int (2) 0), (.int (0) 0), (.int (0) 0), (.int (3) 0), (.ref 166), (.bool true), (.int (181) 0), (.ref 167), n, (.ref 168), (.ref 169), (.ref 170), (.int (378) 0), (.int (104) 0), (.str (o "/claim/cut.py") 379)].toArray, [].toArray⟩) ::
(nat_lit 172, ⟨(.type "function"), .none, .func (f (sub 3 15) (o "__rsub__") (o "GenericPolynomial.__rsub__") 3 [] n n n (.str (o "kyber_py.polynomials.polynomials_generic") 194) .none (.ref 171) n 0), [].toArray⟩) ::
(nat_lit 173, ⟨(.type "tuple"), .none, .seq [].toArray 0, [].toArray⟩) ::
(nat_lit 175, ⟨(.type "tuple"), .none, .seq [(.str (o "self") 384), (.str (o "other") 385)].toArray 0, [].toArray⟩) ::
(nat_lit 176, ⟨(.type "tuple"), .none, .seq [].toArray 0, [].toArray⟩) ::
(nat_lit 178, ⟨(.type "code"), .none, .fields [(.str (o "__isub__") 381), (.str (o "GenericPolynomial.__isub__") 382), (.str (o "/claim/cut.py") 383), (.int (107) 0), (.int (2) 0), (.int (0) 0), (.int (0) 0), (.int (3) 0), (.ref 173), (.bool true), (.int (181) 0), (.ref 174), n, (.ref 175), (.ref 176), (.ref 177), (.int (386) 0), (.int (107) 0), (.str (o "/claim/cut.py") 387)].toArray, [].toArray⟩) ::
(nat_lit 179, ⟨(.type "function"), .none, .func (f (sub 3 16) (o "__isub__") (o "GenericPolynomial.__isub__") 3 [] n n n (.str (o "kyber_py.polynomials.polynomials_generic") 194) .none (.ref 178) n 0), [].toArray⟩) ::
(nat_lit 180, ⟨(.type "tuple"), .none, .seq [].toArray 0, [].toArray⟩) ::
(nat_lit 183, ⟨(.type "code"), .none, .fields [(.str (o "__mul__") 389), (.str (o "GenericPolynomial.__mul__") 390), (.str (o "/claim/cut.py") 391), (.int (111) 0), (.int (2) 0), (.int (0) 0), (.int (0) 0), (.int (3) 0), (.ref 180), (.bool true), (.int (181) 0), (.ref 181), n, n, n, (.ref 182), (.int (392) 0), (.int (111) 0), (.str (o "/claim/cut.py") 393)].toArray, [].toArray⟩) ::
(nat_lit 184, ⟨(.type "function"), .none, .func (f (sub 3 17) (o "__mul__") (o "GenericPolynomial.__mul__") 3 [] n n n (.str (o "kyber_py.polynomials.polynomials_generic") 194) .none (.ref 183) n 0), [].toArray⟩) ::
(nat_lit 185, ⟨(.type "tuple"), .none, .seq [].toArray 0, [].toArray⟩) ::
(nat_lit 187, ⟨(.type "tuple"), .none, .seq [(.str (o "self") 398), (.str (o "other") 399)].toArray 0, [].toArray⟩) ::
(nat_lit 188, ⟨(.type "tuple"), .none, .seq [].toArray 0, [].toArray⟩) ::
(nat_lit 190, ⟨(.type "code"), .none, .fields [(.str (o "__rmul__") 395), (.str (o "GenericPolynomial.__rmul__") 396), (.str (o "/claim/cut.py") 397), (.int (120) 0), (.int (2) 0), (.int (0) 0), (.int (0) 0), (.int (3) 0), (.ref 185), (.bool true), (.int (181) 0), (.ref 186), n, (.ref 187), (.ref 188), (.ref 189), (.int (400) 0), (.int (120) 0), (.str (o "/claim/cut.py") 401)].toArray, [].toArray⟩) ::
(nat_lit 191, ⟨(.type "function"), .none, .func (f (sub 3 18) (o "__rmul__") (o "GenericPolynomial.__rmul__") 3 [] n n n (.str (o "kyber_py.polynomials.polynomials_generic") 194) .none (.ref 190) n 0), [].toArray⟩) ::
(nat_lit 192, ⟨(.type "tuple"), .none, .seq [].toArray 0, [].toArray⟩) ::
(nat_lit 194, ⟨(.type "tuple"), .none, .seq [(.str (o "self") 406), (.str (o "other") 407)].toArray 0, [].toArray⟩) ::
(nat_lit 195, ⟨(.type "tuple"), .none, .seq [].toArray 0, [].toArray⟩) ::
(nat_lit 197, ⟨(.type "code"), .none, .fields [(.str (o "__imul__") 403), (.str (o "GenericPolynomial.__imul__") 404), (.str (o "/claim/cut.py") 405), (.int (123) 0), (.int (2) 0), (.int (0) 0), (.int (0) 0), (.int (3) 0), (.ref 192), (.bool true), (.int (181) 0), (.ref 193), n, (.ref 194), (.ref 195), (.ref 196), (.int (408) 0), (.int (123) 0), (.str (o "/claim/cut.py") 409)].toArray, [].toArray⟩) ::
(nat_lit 198, ⟨(.type "function"), .none, .func (f (sub 3 19) (o "__imul__") (o "GenericPolynomial.__imul__") 3 [] n n n (.str (o "kyber_py.polynomials.polynomials_generic") 194) .none (.ref 197) n 0), [].toArray⟩) ::
(nat_lit 199, ⟨(.type "tuple"), .none, .seq [].toArray 0, [].toArray⟩) ::
(nat_lit 201, ⟨(.type "tuple"), .none, .seq [(.str (o "self") 414), (.str (o "n") 415), (.str (o "f") 416), (.str (o "g") 417)].toArray 0, [].toArray⟩) ::
(nat_lit 202, ⟨(.type "tuple"), .none, .seq [].toArray 0, [].toArray⟩) ::
(nat_lit 204, ⟨(.type "code"), .none, .fields [(.str (o "__pow__") 411), (.str (o "GenericPolynomial.__pow__") 412), (.str (o "/claim/cut.py") 413), (.int (127) 0), (.int (2) 0), (.int (0) 0), (.int (0) 0), (.int (3) 0), (.ref 199), (.bool true), (.int (181) 0), (.ref 200), n, (.ref 201), (.ref 202), (.ref 203), (.int (418) 0), (.int (127) 0), (.str (o "/claim/cut.py") 419)].toArray, [].toArray⟩) ::
(nat_lit 205, ⟨(.type "function"), .none, .func (f (sub 3 20) (o "__pow__") (o "GenericPolynomial.__pow__") 3 [] n n n (.str (o "kyber_py.polynomials.polynomials_generic") 194) .none (.ref 204) n 0), [].toArray⟩) ::
(nat_lit 206, ⟨(.type "tuple"), .none, .seq [].toArray 0, [].toArray⟩) ::
(nat_lit 208, ⟨(.type "tuple"), .none, .seq [(.str (o "self") 424), (.str (o "other") 425)].toArray 0, [].toArray⟩) ::
(nat_lit 209, ⟨(.type "tuple"), .none, .seq [].toArray 0, [].toArray⟩) ::
(nat_lit 211, ⟨(.type "code"), .none, .fields [(.str (o "__eq__") 421), (.str (o "GenericPolynomial.__eq__") 422), (.str (o "/claim/cut.py") 423), (.int (141) 0), (.int (2) 0), (.int (0) 0), (.int (0) 0), (.int (3) 0), (.ref 206), (.bool true), (.int (181) 0), (.ref 207), n, (.ref 208), (.ref 209), (.ref 210), (.int (426) 0), (.int (141) 0), (.str (o "/claim/cut.py") 427)].toArray, [].toArray⟩) ::
(nat_lit 212, ⟨(.type "function"), .none, .func (f (sub 3 21) (o "__eq__") (o "GenericPolynomial.__eq__") 3 [] n n n (.str (o "kyber_py.polynomials.polynomials_generic") 194) .none (.ref 211) n 0), [].toArray⟩) ::
(nat_lit 213, ⟨(.type "tuple"), .none, .seq [].toArray 0, [].toArray⟩) ::
(nat_lit 215, ⟨(.type "tuple"), .none, .seq [(.str (o "self") 432), (.str (o "idx") 433)].toArray 0, [].toArray⟩) ::
(nat_lit 216, ⟨(.type "tuple"), .none, .seq [].toArray 0, [].toArray⟩) ::
(nat_lit 218, ⟨(.type "code"), .none, .fields [(.str (o "__getitem__") 429), (.str (o "GenericPolynomial.__getitem__") 430), (.str (o "/claim/cut.py") 431), (.int (149) 0), (.int (2) 0), (.int (0) 0), (.int (0) 0), (.int (3) 0), (.ref 213), (.bool true), (.int (181) 0), (.ref 214), n, (.ref 215), (.ref 216), (.ref 217), (.int (434) 0), (.int (149) 0), (.str (o "/claim/cut.py") 435)].toArray, [].toArray⟩) ::
(nat_lit 219, ⟨(.type "function"), .none, .func (f (sub 3 22) (o "__getitem__") (o "GenericPolynomial.__getitem__") 3 [] n n n (.str (o "kyber_py.polynomials.polynomials_generic") 194) .none (.ref 218) n 0), [].toArray⟩) ::
(nat_lit 220, ⟨(.type "tuple"), .none, .seq [(.str (o "coeffs") 437), (.str (o "parent") 438)].toArray 0, [].toArray⟩) ::
(nat_lit 221, ⟨(.type "dict"), .none, .dict [e P (o "__module__") 256 (.str (o "kyber_py.polynomials.polynomials_generic") 194), e P (o "__firstlineno__") 260 (.int (23) 259), e P (o "__init__") 269 (.ref 77), e P (o "is_zero") 276 (.ref 84), e P (o "is_constant") 283 (.ref 91), e P (o "_parse_coefficients") 289 (.ref 96), e P (o "reduce_coefficients") 296 (.ref 103), e P (o "_add_mod_q") 305 (.ref 110), e P (o "_sub_mod_q") 314 (.ref 117), e P (o "_schoolbook_multiplication") 320 (.ref 122), e P (o "__neg__") 326 (.ref 127), e P (o "_add_") 332 (.ref 132), e P (o "__add__") 341 (.ref 139), e P (o "__radd__") 349 (.ref 146), e P (o "__iadd__") 357 (.ref 153), e P (o "_sub_") 363 (.ref 158), e P (o "__sub__") 372 (.ref 165), e P (o "__rsub__") 380 (.ref 172), e P (o "__isub__") 388 (.ref 179), e P (o "__mul__") 394 (.ref 184), e P (o "__rmul__") 402 (.ref 191), e P (o "__imul__") 410 (.ref 198), e P (o "__pow__") 420 (.ref 205), e P (o "__eq__") 428 (.ref 212), e P (o "__getitem__") 436 (.ref 219), e P (o "__static_attributes__") 439 (.ref 220), e P (o "__dict__") 441 (.ref 223), e P (o "__weakref__") 443 (.ref 224), e P (o "__doc__") 444 n, e P (o "__hash__") 445 n].toArray 5, [].toArray⟩) ::
(nat_lit 222, ⟨(.type "type"), .none, .cls ⟨(o "GenericPolynomial"), [(.type "object")], [(.ref 222), (.type "object")], 221, (o "GenericPolynomial"), true, [], [(.ref 350)], false, .none, false⟩, [.none, .none, (.some (.str (o "GenericPolynomial") 249)), (.some (.str (o "GenericPolynomial") 257)), (.some (.builtin "object.__new__")), (.some (.bool true))].toArray⟩) ::
(nat_lit 223, ⟨(.type "getset_descriptor"), .none, .fields [(.str (o "__dict__") 440), (.ref 222), (.builtin "function.__dict__"), (.builtin "function.__dict__#set")].toArray, [].toArray⟩) ::
(nat_lit 224, ⟨(.type "getset_descriptor"), .none, .fields [(.str (o "__weakref__") 442), (.ref 222), (.builtin "ExceptionGroup.__weakref__"), n].toArray, [].toArray⟩) ::
(nat_lit 227, ⟨(.type "tuple"), .none, .seq [(.ref 59)].toArray 0, [].toArray⟩) ::
(nat_lit 234, ⟨(.type "tuple"), .none, .seq [].toArray 0, [].toArray⟩) ::
(nat_lit 237, ⟨(.type "code"), .none, .fields [(.str (o "__init__") 462), (.str (o "PolynomialRing.__init__") 463), (.str (o "/claim/cut.py") 464), (.int (154) 0), (.int (1) 0), (.int (0) 0), (.int (0) 0), (.int (3) 0), (.ref 234), (.bool true), (.int (181) 0), (.ref 235), n, n, n, (.ref 236), (.int (465) 0), (.int (154) 0), (.str (o "/claim/cut.py") 466)].toArray, [].toArray⟩) ::
(nat_lit 238, ⟨(.type "function"), .none, .func (f (sub 5 0) (o "__init__") (o "PolynomialRing.__init__") 3 [] n n n (.str (o "kyber_py.polynomials.polynomials") 448) .none (.ref 237) n 0), [].toArray⟩) ::
(nat_lit 239, ⟨(.type "tuple"), .none, .seq [].toArray 0, [].toArray⟩) ::
(nat_lit 241, ⟨(.type "tuple"), .none, .seq [(.str (o "i") 471), (.str (o "k") 472), (.str (o "bin_i") 473)].toArray 0, [].toArray⟩) ::
(nat_lit 242, ⟨(.type "tuple"), .none, .seq [].toArray 0, [].toArray⟩) ::
(nat_lit 244, ⟨(.type "code"), .none, .fields [(.str (o "_br") 468), (.str (o "PolynomialRing._br") 469), (.str (o "/claim/cut.py") 470), (.int (161) 0), (.int (2) 0), (.int (0) 0), (.int (0) 0), (.int (3) 0), (.ref 239), (.bool true), (.int (181) 0), (.ref 240), n, (.ref 241), (.ref 242), (.ref 243), (.int (474) 0), (.int (161) 0), (.str (o "/claim/cut.py") 475)].toArray, [].toArray⟩) ::
(nat_lit 245, ⟨(.type "function"), .none, .func (f (sub 5 1) (o "_br") (o "PolynomialRing._br") 3 [] n n n (.str (o "kyber_py.polynomials.polynomials") 448) (.some 248) (.ref 244) n 0), [].toArray⟩) ::
(nat_lit 246, ⟨(.type "dict"), .none, .dict [e P (o "__module__") 477 (.str (o "kyber_py.polynomials.polynomials") 448), e P (o "__name__") 480 (.str (o "_br") 479), e P (o "__qualname__") 483 (.str (o "PolynomialRing._br") 482), e P (o "__doc__") 485 n, e P (o "__annotations__") 487 (.ref 248)].toArray 5, [].toArray⟩) ::
(nat_lit 247, ⟨(.type "staticmethod"), (.some 246), .fields [(.ref 245), (.bool false)].toArray, [].toArray⟩) ::
(nat_lit 248, ⟨(.type "dict"), .none, .dict [].toArray 0, [].toArray⟩) ::
(nat_lit 249, ⟨(.type "tuple"), .none, .seq [].toArray 0, [].toArray⟩) ::
(nat_lit 251, ⟨(.type "tuple"), .none, .seq [(.str (o "self") 492), (.str (o "input_bytes") 493)].toArray 0, [].toArray⟩) ::
(nat_lit 252, ⟨(.type "tuple"), .none, .seq [].toArray 0, [].toArray⟩) ::
(nat_lit 254, ⟨(.type "code"), .none, .fields [(.str (o "ntt_sample") 489), (.str (o "PolynomialRing.ntt_sample") 490), (.str (o "/claim/cut.py") 491), (.int (166) 0), (.int (2) 0), (.int (0) 0), (.int (0) 0), (.int (3) 0), (.ref 249), (.bool true), (.int (181) 0), (.ref 250), n, (.ref 251), (.ref 252), (.ref 253), (.int (494) 0), (.int (166) 0), (.str (o "/claim/cut.py") 495)].toArray, [].toArray⟩) ::
(nat_lit 255, ⟨(.type "function"), .none, .func (f (sub 5 2) (o "ntt_sample") (o "PolynomialRing.ntt_sample") 3 [] n n n (.str (o "kyber_py.polynomials.polynomials") 448) .none (.ref 254) n 0), [].toArray⟩) ::
(nat_lit 256, ⟨(.type "tuple"), .none, .seq [(.bool false)].toArray 0, [].toArray⟩) ::
(nat_lit 257, ⟨(.type "tuple"), .none, .seq [].toArray 0, [].toArray⟩) ::
(nat_lit 259, ⟨(.type "tuple"), .none, .seq [(.str (o "self") 500), (.str (o "input_bytes") 501), (.str (o "eta") 502), (.str (o "is_ntt") 503)].toArray 0, [].toArray⟩) ::
(nat_lit 260, ⟨(.type "tuple"), .none, .seq [].toArray 0, [].toArray⟩) ::
(nat_lit 262, ⟨(.type "code"), .none, .fields [(.str (o "cbd") 497), (.str (o "PolynomialRing.cbd") 498), (.str (o "/claim/cut.py") 499), (.int (169) 0), (.int (4) 0), (.int (0) 0), (.int (0) 0), (.int (3) 0), (.ref 257), (.bool true), (.int (181) 0), (.ref 258), n, (.ref 259), (.ref 260), (.ref 261), (.int (504) 0), (.int (169) 0), (.str (o "/claim/cut.py") 505)].toArray, [].toArray⟩) ::
(nat_lit 263, ⟨(.type "function"), .none, .func (f (sub 5 3) (o "cbd") (o "PolynomialRing.cbd") 3 [] (.ref 256) n n (.str (o "kyber_py.polynomials.polynomials") 448) .none (.ref 262) n 0), [].toArray⟩) ::
(nat_lit 264, ⟨(.type "tuple"), .none, .seq [(.bool false)].toArray 0, [].toArray⟩) ::
(nat_lit 265, ⟨(.type "tuple"), .none, .seq [].toArray 0, [].toArray⟩) ::
(nat_lit 267, ⟨(.type "tuple"), .none, .seq [(.str (o "self") 510), (.str (o "input_bytes") 511), (.str (o "d") 512), (.str (o "is_ntt") 513)].toArray 0, [].toArray⟩) ::
(nat_lit 268, ⟨(.type "tuple"), .none, .seq [].toArray 0, [].toArray⟩) ::
(nat_lit 270, ⟨(.type "code"), .none, .fields [(.str (o "decode") 507), (.str (o "PolynomialRing.decode") 508), (.str (o "/claim/cut.py") 509), (.int (172) 0), (.int (4) 0), (.int (0) 0), (.int (0) 0), (.int (3) 0), (.ref 265), (.bool true), (.int (181) 0), (.ref 266), n, (.ref 267), (.ref 268), (.ref 269), (.int (514) 0), (.int (172) 0), (.str (o "/claim/cut.py") 515)].toArray, [].toArray⟩) ::
(nat_lit 271, ⟨(.type "function"), .none, .func (f (sub 5 4) (o "decode") (o "PolynomialRing.decode") 3 [] (.ref 264) n n (.str (o "kyber_py.polynomials.polynomials") 448) .none (.ref 270) n 0), [].toArray⟩) ::
(nat_lit 272, ⟨(.type "tuple"), .none, .seq [(.bool false)].toArray 0, [].toArray⟩) ::
(nat_lit 273, ⟨(.type "tuple"), .none, .seq [].toArray 0, [].toArray⟩) ::
(nat_lit 275, ⟨(.type "tuple"), .none, .seq [(.str (o "self") 520), (.str (o "coefficients") 521), (.str (o "is_ntt") 522)].toArray 0, [].toArray⟩) ::
(nat_lit 276, ⟨(.type "tuple"), .none, .seq [].toArray 0, [].toArray⟩) ::
(nat_lit 278, ⟨(.type "code"), .none, .fields [(.str (o "__call__") 517), (.str (o "PolynomialRing.__call__") 518), (.str (o "/claim/cut.py") 519), (.int (175) 0), (.int (3) 0), (.int (0) 0), (.int (0) 0), (.int (3) 0), (.ref 273), (.bool true), (.int (181) 0), (.ref 274), n, (.ref 275), (.ref 276), (.ref 277), (.int (523) 0), (.int (175) 0), (.str (o "/claim/cut.py") 524)].toArray, [].toArray⟩) ::
(nat_lit 279, ⟨(.type "function"), .none, .func (f (sub 5 5) (o "__call__") (o "PolynomialRing.__call__") 3 [] (.ref 272) n n (.str (o "kyber_py.polynomials.polynomials") 448) .none (.ref 278) n 0), [].toArray⟩) ::
(nat_lit 280, ⟨(.type "tuple"), .none, .seq [(.str (o "n") 526), (.str (o "ntt_f") 527), (.str (o "ntt_zetas") 528), (.str (o "q") 529)].toArray 0, [].toArray⟩) ::
(nat_lit 281, ⟨(.type "dict"), .none, .dict [e P (o "__module__") 457 (.str (o "kyber_py.polynomials.polynomials") 448), e P (o "__firstlineno__") 461 (.int (152) 460), e P (o "__init__") 467 (.ref 238), e P (o "_br") 488 (.ref 247), e P (o "ntt_sample") 496 (.ref 255), e P (o "cbd") 506 (.ref 263), e P (o "decode") 516 (.ref 271), e P (o "__call__") 525 (.ref 279), e P (o "__static_attributes__") 530 (.ref 280), e P (o "__doc__") 531 n].toArray 2, [].toArray⟩) ::
(nat_lit 282, ⟨(.type "type"), .none, .cls ⟨(o "PolynomialRing"), [(.ref 59)], [(.ref 282), (.ref 59), (.type "object")], 281, (o "PolynomialRing"), true, [], [], false, .none, false⟩, [(.some (.ref 227)), .none, (.some (.str (o "PolynomialRing") 450)), (.some (.str (o "PolynomialRing") 458)), (.some (.builtin "object.__new__")), (.some (.bool true))].toArray⟩) ::
(nat_lit 285, ⟨(.type "tuple"), .none, .seq [(.ref 222)].toArray 0, [].toArray⟩) ::
(nat_lit 292, ⟨(.type "tuple"), .none, .seq [].toArray 0, [].toArray⟩) ::
(nat_lit 294, ⟨(.type "tuple"), .none, .seq [(.str (o "self") 549), (.str (o "parent") 550), (.str (o "coefficients") 551)].toArray 0, [].toArray⟩) ::
(nat_lit 295, ⟨(.type "tuple"), .none, .seq [].toArray 0, [].toArray⟩) ::
(nat_lit 297, ⟨(.type "code"), .none, .fields [(.str (o "__init__") 546), (.str (o "Polynomial.__init__") 547), (.str (o "/claim/cut.py") 548), (.int (185) 0), (.int (3) 0), (.int (0) 0), (.int (0) 0), (.int (3) 0), (.ref 292), (.bool true), (.int (181) 0), (.ref 293), n, (.ref 294), (.ref 295), (.ref 296), (.int (552) 0), (.int (185) 0), (.str (o "/claim/cut.py") 553)].toArray, [].toArray⟩) ::
(nat_lit 298, ⟨(.type "function"), .none, .func (f (sub 6 0) (o "__init__") (o "Polynomial.__init__") 3 [] n n n (.str (o "kyber_py.polynomials.polynomials") 448) .none (.ref 297) n 0), [].toArray⟩) ::
(nat_lit 299, ⟨(.type "tuple"), .none, .seq [].toArray 0, [].toArray⟩) ::
(nat_lit 301, ⟨(.type "tuple"), .none, .seq [(.str (o "self") 558), (.str (o "d") 559)].toArray 0, [].toArray⟩) ::
(nat_lit 302, ⟨(.type "tuple"), .none, .seq [].toArray 0, [].toArray⟩) ::
(nat_lit 304, ⟨(.type "code"), .none, .fields [(.str (o "encode") 555), (.str (o "Polynomial.encode") 556), (.str (o "/claim/cut.py") 557), (.int (189) 0), (.int (2) 0), (.int (0) 0), (.int (0) 0), (.int (3) 0), (.ref 299), (.bool true), (.int (181) 0), (.ref 300), n, (.ref 301), (.ref 302), (.ref 303), (.int (560) 0), (.int (189) 0), (.str (o "/claim/cut.py") 561)].toArray, [].toArray⟩) ::
(nat_lit 305, ⟨(.type "function"), .none, .func (f (sub 6 1) (o "encode") (o "Polynomial.encode") 3 [] n n n (.str (o "kyber_py.polynomials.polynomials") 448) .none (.ref 304) n 0), [].toArray⟩) ::
(nat_lit 306, ⟨(.type "tuple"), .none, .seq [].toArray 0, [].toArray⟩) ::
(nat_lit 308, ⟨(.type "tuple"), .none, .seq [(.str (o "self") 566), (.str (o "x") 567), (.str (o "d") 568)].toArray 0, [].toArray⟩) ::
(nat_lit 309, ⟨(.type "tuple"), .none, .seq [].toArray 0, [].toArray⟩) ::
(nat_lit 311, ⟨(.type "code"), .none, .fields [(.str (o "_compress_ele") 563), (.str (o "Polynomial._compress_ele") 564), (.str (o "/claim/cut.py") 565), (.int (192) 0), (.int (3) 0), (.int (0) 0), (.int (0) 0), (.int (3) 0), (.ref 306), (.bool true), (.int (181) 0), (.ref 307), n, (.ref 308), (.ref 309), (.ref 310), (.int (569) 0), (.int (192) 0), (.str (o "/claim/cut.py") 570)].toArray, [].toArray⟩) ::
(nat_lit 312, ⟨(.type "function"), .none, .func (f (sub 6 2) (o "_compress_ele") (o "Polynomial._compress_ele") 3 [] n n n (.str (o "kyber_py.polynomials.polynomials") 448) .none (.ref 311) n 0), [].toArray⟩) ::
(nat_lit 313, ⟨(.type "tuple"), .none, .seq [].toArray 0, [].toArray⟩) ::
(nat_lit 315, ⟨(.type "tuple"), .none, .seq [(.str (o "self") 575), (.str (o "x") 576), (.str (o "d") 577)].toArray 0, [].toArray⟩) ::
(nat_lit 316, ⟨(.type "tuple"), .none, .seq [].toArray 0, [].toArray⟩) ::
(nat_lit 318, ⟨(.type "code"), .none, .fields [(.str (o "_decompress_ele") 572), (.str (o "Polynomial._decompress_ele") 573), (.str (o "/claim/cut.py") 574), (.int (195) 0), (.int (3) 0), (.int (0) 0), (.int (0) 0), (.int (3) 0), (.ref 313), (.bool true), (.int (181) 0), (.ref 314), n, (.ref 315), (.ref 316), (.ref 317), (.int (578) 0), (.int (195) 0), (.str (o "/claim/cut.py") 579)].toArray, [].toArray⟩) ::
(nat_lit 319, ⟨(.type "function"), .none, .func (f (sub 6 3) (o "_decompress_ele") (o "Polynomial._decompress_ele") 3 [] n n n (.str (o "kyber_py.polynomials.polynomials") 448) .none (.ref 318) n 0), [].toArray⟩) ::
(nat_lit 320, ⟨(.type "tuple"), .none, .seq [].toArray 0, [].toArray⟩) ::
(nat_lit 322, ⟨(.type "tuple"), .none, .seq [(.str (o "self") 584), (.str (o "d") 585)].toArray 0, [].toArray⟩) ::
(nat_lit 323, ⟨(.type "tuple"), .none, .seq [].toArray 0, [].toArray⟩) ::
(nat_lit 325, ⟨(.type "code"), .none, .fields [(.str (o "compress") 581), (.str (o "Polynomial.compress") 582), (.str (o "/claim/cut.py") 583), (.int (198) 0), (.int (2) 0), (.int (0) 0), (.int (0) 0), (.int (3) 0), (.ref 320), (.bool true), (.int (181) 0), (.ref 321), n, (.ref 322), (.ref 323), (.ref 324), (.int (586) 0), (.int (198) 0), (.str (o "/claim/cut.py") 587)].toArray, [].toArray⟩) ::
(nat_lit 326, ⟨(.type "function"), .none, .func (f (sub 6 4) (o "compress") (o "Polynomial.compress") 3 [] n n n (.str (o "kyber_py.polynomials.polynomials") 448) .none (.ref 325) n 0), [].toArray⟩) ::
(nat_lit 327, ⟨(.type "tuple"), .none, .seq [].toArray 0, [].toArray⟩) ::
(nat_lit 329, ⟨(.type "tuple"), .none, .seq [(.str (o "self") 592), (.str (o "d") 593)].toArray 0, [].toArray⟩) ::
(nat_lit 330, ⟨(.type "tuple"), .none, .seq [].toArray 0, [].toArray⟩) ::
(nat_lit 332, ⟨(.type "code"), .none, .fields [(.str (o "decompress") 589), (.str (o "Polynomial.decompress") 590), (.str (o "/claim/cut.py") 591), (.int (201) 0), (.int (2) 0), (.int (0) 0), (.int (0) 0), (.int (3) 0), (.ref 327), (.bool true), (.int (181) 0), (.ref 328), n, (.ref 329), (.ref 330), (.ref 331), (.int (594) 0), (.int (201) 0), (.str (o "/claim/cut.py") 595)].toArray, [].toArray⟩) ::
(nat_lit 333, ⟨(.type "function"), .none, .func (f (sub 6 5) (o "decompress") (o "Polynomial.decompress") 3 [] n n n (.str (o "kyber_py.polynomials.polynomials") 448) .none (.ref 332) n 0), [].toArray⟩) ::
(nat_lit 334, ⟨(.type "tuple"), .none, .seq [].toArray 0, [].toArray⟩) ::
(nat_lit 336, ⟨(.type "tuple"), .none, .seq [(.str (o "self") 600), (.str (o "k") 601), (.str (o "l") 602), (.str (o "coeffs") 603), (.str (o "zetas") 604), (.str (o "start") 605), (.str (o "zeta") 606), (.str (o "j") 607), (.str (o "t") 608)].toArray 0, [].toArray⟩) ::
(nat_lit 337, ⟨(.type "tuple"), .none, .seq [].toArray 0, [].toArray⟩) ::
(nat_lit 339, ⟨(.type "code"), .none, .fields [(.str (o "to_ntt") 597), (.str (o "Polynomial.to_ntt") 598), (.str (o "/claim/cut.py") 599), (.int (204) 0), (.int (1) 0), (.int (0) 0), (.int (0) 0), (.int (3) 0), (.ref 334), (.bool true), (.int (181) 0), (.ref 335), n, (.ref 336), (.ref 337), (.ref 338), (.int (609) 0), (.int (204) 0), (.str (o "/claim/cut.py") 610)].toArray, [].toArray⟩) ::
(nat_lit 340, ⟨(.type "function"), .none, .func (f (sub 6 6) (o "to_ntt") (o "Polynomial.to_ntt") 3 [] n n n (.str (o "kyber_py.polynomials.polynomials") 448) .none (.ref 339) n 0), [].toArray⟩) ::
(nat_lit 341, ⟨(.type "tuple"), .none, .seq [].toArray 0, [].toArray⟩) ::
(nat_lit 343, ⟨(.type "tuple"), .none, .seq [(.str (o "self") 615)].toArray 0, [].toArray⟩) ::
(nat_lit 344, ⟨(.type "tuple"), .none, .seq [].toArray 0, [].toArray⟩) ::
(nat_lit 346, ⟨(.type "code"), .none, .fields [(.str (o "from_ntt") 612), (.str (o "Polynomial.from_ntt") 613), (.str (o "/claim/cut.py") 614), (.int (224) 0), (.int (1) 0), (.int (0) 0), (.int (0) 0), (.int (3) 0), (.ref 341), (.bool true), (.int (181) 0), (.ref 342), n, (.ref 343), (.ref 344), (.ref 345), (.int (616) 0), (.int (224) 0), (.str (o "/claim/cut.py") 617)].toArray, [].toArray⟩) ::
(nat_lit 347, ⟨(.type "function"), .none, .func (f (sub 6 7) (o "from_ntt") (o "Polynomial.from_ntt") 3 [] n n n (.str (o "kyber_py.polynomials.polynomials") 448) .none (.ref 346) n 0), [].toArray⟩) ::
(nat_lit 348, ⟨(.type "tuple"), .none, .seq [(.str (o "coeffs") 619), (.str (o "parent") 620)].toArray 0, [].toArray⟩) ::
(nat_lit 349, ⟨(.type "dict"), .none, .dict [e P (o "__module__") 541 (.str (o "kyber_py.polynomials.polynomials") 448), e P (o "__firstlineno__") 545 (.int (183) 544), e P (o "__init__") 554 (.ref 298), e P (o "encode") 562 (.ref 305), e P (o "_compress_ele") 571 (.ref 312), e P (o "_decompress_ele") 580 (.ref 319), e P (o "compress") 588 (.ref 326), e P (o "decompress") 596 (.ref 333), e P (o "to_ntt") 611 (.ref 340), e P (o "from_ntt") 618 (.ref 347), e P (o "__static_attributes__") 621 (.ref 348), e P (o "__doc__") 622 n].toArray 2, [].toArray⟩) ::
(nat_lit 350, ⟨(.type "type"), .none, .cls ⟨(o "Polynomial"), [(.ref 222)], [(.ref 350), (.ref 222), (.type "object")], 349, (o "Polynomial"), true, [], [(.ref 426)], false, .none, false⟩, [(.some (.ref 285)), .none, (.some (.str (o "Polynomial") 534)), (.some (.str (o "Polynomial") 542)), (.some (.builtin "object.__new__")), (.some (.bool true))].toArray⟩) ::
(nat_lit 353, ⟨(.type "tuple"), .none, .seq [(.ref 350)].toArray 0, [].toArray⟩) ::
(nat_lit 360, ⟨(.type "tuple"), .none, .seq [].toArray 0, [].toArray⟩) ::
(nat_lit 362, ⟨(.type "tuple"), .none, .seq [(.str (o "self") 640), (.str (o "parent") 641), (.str (o "coefficients") 642)].toArray 0, [].toArray⟩) ::
(nat_lit 363, ⟨(.type "tuple"), .none, .seq [].toArray 0, [].toArray⟩) ::
(nat_lit 365, ⟨(.type "code"), .none, .fields [(.str (o "__init__") 637), (.str (o "PolynomialNTT.__init__") 638), (.str (o "/claim/cut.py") 639), (.int (228) 0), (.int (3) 0), (.int (0) 0), (.int (0) 0), (.int (3) 0), (.ref 360), (.bool true), (.int (181) 0), (.ref 361), n, (.ref 362), (.ref 363), (.ref 364), (.int (643) 0), (.int (228) 0), (.str (o "/claim/cut.py") 644)].toArray, [].toArray⟩) ::
(nat_lit 366, ⟨(.type "function"), .none, .func (f (sub 7 0) (o "__init__") (o "PolynomialNTT.__init__") 3 [] n n n (.str (o "kyber_py.polynomials.polynomials") 448) .none (.ref 365) n 0), [].toArray⟩) ::
(nat_lit 367, ⟨(.type "tuple"), .none, .seq [].toArray 0, [].toArray⟩) ::
(nat_lit 369, ⟨(.type "tuple"), .none, .seq [(.str (o "self") 649)].toArray 0, [].toArray⟩) ::
(nat_lit 370, ⟨(.type "tuple"), .none, .seq [].toArray 0, [].toArray⟩) ::
(nat_lit 372, ⟨(.type "code"), .none, .fields [(.str (o "to_ntt") 646), (.str (o "PolynomialNTT.to_ntt") 647), (.str (o "/claim/cut.py") 648), (.int (232) 0), (.int (1) 0), (.int (0) 0), (.int (0) 0), (.int (3) 0), (.ref 367), (.bool true), (.int (181) 0), (.ref 368), n, (.ref 369), (.ref 370), (.ref 371), (.int (650) 0), (.int (232) 0), (.str (o "/claim/cut.py") 651)].toArray, [].toArray⟩) ::
(nat_lit 373, ⟨(.type "function"), .none, .func (f (sub 7 1) (o "to_ntt") (o "PolynomialNTT.to_ntt") 3 [] n n n (.str (o "kyber_py.polynomials.polynomials") 448) .none (.ref 372) n 0), [].toArray⟩) ::
(nat_lit 374, ⟨(.type "tuple"), .none, .seq [].toArray 0, [].toArray⟩) ::
(nat_lit 376, ⟨(.type "tuple"), .none, .seq [(.str (o "self") 656), (.str (o "l") 657), (.str (o "l_upper") 658), (.str (o "k") 659), (.str (o "coeffs") 660), (.str (o "zetas") 661), (.str (o "start") 662), (.str (o "zeta") 663), (.str (o "j") 664), (.str (o "t") 665), (.str (o "f") 666)].toArray 0, [].toArray⟩) ::
(nat_lit 377, ⟨(.type "tuple"), .none, .seq [].toArray 0, [].toArray⟩) ::
(nat_lit 379, ⟨(.type "code"), .none, .fields [(.str (o "from_ntt") 653), (.str (o "PolynomialNTT.from_ntt") 654), (.str (o "/claim/cut.py") 655), (.int (235) 0), (.int (1) 0), (.int (0) 0), (.int (0) 0), (.int (3) 0), (.ref 374), (.bool true), (.int (181) 0), (.ref 375), n, (.ref 376), (.ref 377), (.ref 378), (.int (667) 0), (.int (235) 0), (.str (o "/claim/cut.py") 668)].toArray, [].toArray⟩) ::
(nat_lit 380, ⟨(.type "function"), .none, .func (f (sub 7 2) (o "from_ntt") (o "PolynomialNTT.from_ntt") 3 [] n n n (.str (o "kyber_py.polynomials.polynomials") 448) .none (.ref 379) n 0), [].toArray⟩) ::
(nat_lit 381, ⟨(.type "tuple"), .none, .seq [].toArray 0, [].toArray⟩) ::
(nat_lit 383, ⟨(.type "tuple"), .none, .seq [(.str (o "a0") 673), (.str (o "a1") 674), (.str (o "b0") 675), (.str (o "b1") 676), (.str (o "zeta") 677), (.str (o "r0") 678), (.str (o "r1") 679)].toArray 0, [].toArray⟩) ::
(nat_lit 384, ⟨(.type "tuple"), .none, .seq [].toArray 0, [].toArray⟩) ::
(nat_lit 386, ⟨(.type "code"), .none, .fields [(.str (o "_ntt_base_multiplication") 670), (.str (o "PolynomialNTT._ntt_base_multiplication") 671), (.str (o "/claim/cut.py") 672), (.int (258) 0), (.int (5) 0), (.int (0) 0), (.int (0) 0), (.int (3) 0), (.ref 381), (.bool true), (.int (181) 0), (.ref 382), n, (.ref 383), (.ref 384), (.ref 385), (.int (680) 0), (.int (258) 0), (.str (o "/claim/cut.py") 681)].toArray, [].toArray⟩) ::
(nat_lit 387, ⟨(.type "function"), .none, .func (f (sub 7 3) (o "_ntt_base_multiplication") (o "PolynomialNTT._ntt_base_multiplication") 3 [] n n n (.str (o "kyber_py.polynomials.polynomials") 448) (.some 390) (.ref 386) n 0), [].toArray⟩) ::
(nat_lit 388, ⟨(.type "dict"), .none, .dict [e P (o "__module__") 683 (.str (o "kyber_py.polynomials.polynomials") 448), e P (o "__name__") 686 (.str (o "_ntt_base_multiplication") 685), e P (o "__qualname__") 689 (.str (o "PolynomialNTT._ntt_base_multiplication") 688), e P (o "__doc__") 691 n, e P (o "__annotations__") 693 (.ref 390)].toArray 5, [].toArray⟩) ::
(nat_lit 389, ⟨(.type "staticmethod"), (.some 388), .fields [(.ref 387), (.bool false)].toArray, [].toArray⟩) ::
(nat_lit 390, ⟨(.type "dict"), .none, .dict [].toArray 0, [].toArray⟩) ::
(nat_lit 391, ⟨(.type "tuple"), .none, .seq [].toArray 0, [].toArray⟩) ::
(nat_lit 393, ⟨(.type "tuple"), .none, .seq [(.str (o "self") 698), (.str (o "f_coeffs") 699), (.str (o "g_coeffs") 700), (.str (o "new_coeffs") 701), (.str (o "zetas") 702), (.str (o "i") 703), (.str (o "r0") 704), (.str (o "r1") 705), (.str (o "r2") 706), (.str (o "r3") 707)].toArray 0, [].toArray⟩) ::
(nat_lit 394, ⟨(.type "tuple"), .none, .seq [].toArray 0, [].toArray⟩) ::
(nat_lit 396, ⟨(.type "code"), .none, .fields [(.str (o "_ntt_coefficient_multiplication") 695), (.str (o "PolynomialNTT._ntt_coefficient_multiplication") 696), (.str (o "/claim/cut.py") 697), (.int (264) 0), (.int (3) 0), (.int (0) 0), (.int (0) 0), (.int (3) 0), (.ref 391), (.bool true), (.int (181) 0), (.ref 392), n, (.ref 393), (.ref 394), (.ref 395), (.int (708) 0), (.int (264) 0), (.str (o "/claim/cut.py") 709)].toArray, [].toArray⟩) ::
(nat_lit 397, ⟨(.type "function"), .none, .func (f (sub 7 4) (o "_ntt_coefficient_multiplication") (o "PolynomialNTT._ntt_coefficient_multiplication") 3 [] n n n (.str (o "kyber_py.polynomials.polynomials") 448) .none (.ref 396) n 0), [].toArray⟩) ::
(nat_lit 398, ⟨(.type "tuple"), .none, .seq [].toArray 0, [].toArray⟩) ::
(nat_lit 400, ⟨(.type "tuple"), .none, .seq [(.str (o "self") 714), (.str (o "other") 715), (.str (o "new_coeffs") 716)].toArray 0, [].toArray⟩) ::
(nat_lit 401, ⟨(.type "tuple"), .none, .seq [].toArray 0, [].toArray⟩) ::
(nat_lit 403, ⟨(.type "code"), .none, .fields [(.str (o "_ntt_multiplication") 711), (.str (o "PolynomialNTT._ntt_multiplication") 712), (.str (o "/claim/cut.py") 713), (.int (273) 0), (.int (2) 0), (.int (0) 0), (.int (0) 0), (.int (3) 0), (.ref 398), (.bool true), (.int (181) 0), (.ref 399), n, (.ref 400), (.ref 401), (.ref 402), (.int (717) 0), (.int (273) 0), (.str (o "/claim/cut.py") 718)].toArray, [].toArray⟩) ::
(nat_lit 404, ⟨(.type "function"), .none, .func (f (sub 7 5) (o "_ntt_multiplication") (o "PolynomialNTT._ntt_multiplication") 3 [] n n n (.str (o "kyber_py.polynomials.polynomials") 448) .none (.ref 403) n 0), [].toArray⟩) ::
(nat_lit 405, ⟨(.type "tuple"), .none, .seq [].toArray 0, [].toArray⟩) ::
(nat_lit 407, ⟨(.type "tuple"), .none, .seq [(.str (o "self") 723), (.str (o "other") 724), (.str (o "new_coeffs") 725)].toArray 0, [].toArray⟩) ::
(nat_lit 408, ⟨(.type "tuple"), .none, .seq [].toArray 0, [].toArray⟩) ::
(nat_lit 410, ⟨(.type "code"), .none, .fields [(.str (o "__add__") 720), (.str (o "PolynomialNTT.__add__") 721), (.str (o "/claim/cut.py") 722), (.int (277) 0), (.int (2) 0), (.int (0) 0), (.int (0) 0), (.int (3) 0), (.ref 405), (.bool true), (.int (181) 0), (.ref 406), n, (.ref 407), (.ref 408), (.ref 409), (.int (726) 0), (.int (277) 0), (.str (o "/claim/cut.py") 727)].toArray, [].toArray⟩) ::
(nat_lit 411, ⟨(.type "function"), .none, .func (f (sub 7 6) (o "__add__") (o "PolynomialNTT.__add__") 3 [] n n n (.str (o "kyber_py.polynomials.polynomials") 448) .none (.ref 410) n 0), [].toArray⟩) ::
(nat_lit 412, ⟨(.type "tuple"), .none, .seq [].toArray 0, [].toArray⟩) ::
(nat_lit 414, ⟨(.type "tuple"), .none, .seq [(.str (o "self") 732), (.str (o "other") 733), (.str (o "new_coeffs") 734)].toArray 0, [].toArray⟩) ::
(nat_lit 415, ⟨(.type "tuple"), .none, .seq [].toArray 0, [].toArray⟩) ::
(nat_lit 417, ⟨(.type "code"), .none, .fields [(.str (o "__sub__") 729), (.str (o "PolynomialNTT.__sub__") 730), (.str (o "/claim/cut.py") 731), (.int (281) 0), (.int (2) 0), (.int (0) 0), (.int (0) 0), (.int (3) 0), (.ref 412), (.bool true), (.int (181) 0), (.ref 413), n, (.ref 414), (.ref 415), (.ref 416), (.int (735) 0), (.int (281) 0), (.str (o "/claim/cut.py") 736)].toArray, [].toArray⟩) ::
(nat_lit 418, ⟨(.type "function"), .none, .func (f (sub 7 7) (o "__sub__") (o "PolynomialNTT.__sub__") 3 [] n n n (.str (o "kyber_py.polynomials.polynomials") 448) .none (.ref 417) n 0), [].toArray⟩) ::
(nat_lit 419, ⟨(.type "tuple"), .none, .seq [].toArray 0, [].toArray⟩) ::
(nat_lit 422, ⟨(.type "code"), .none, .fields [(.str (o "__mul__") 738), (.str (o "PolynomialNTT.__mul__") 739), (.str (o "/claim/cut.py") 740), (.int (285) 0), (.int (2) 0), (.int (0) 0), (.int (0) 0), (.int (3) 0), (.ref 419), (.bool true), (.int (181) 0), (.ref 420), n, n, n, (.ref 421), (.int (741) 0), (.int (285) 0), (.str (o "/claim/cut.py") 742)].toArray, [].toArray⟩) ::
(nat_lit 423, ⟨(.type "function"), .none, .func (f (sub 7 8) (o "__mul__") (o "PolynomialNTT.__mul__") 3 [] n n n (.str (o "kyber_py.polynomials.polynomials") 448) .none (.ref 422) n 0), [].toArray⟩) ::
(nat_lit 424, ⟨(.type "tuple"), .none, .seq [(.str (o "coeffs") 744), (.str (o "parent") 745)].toArray 0, [].toArray⟩) ::
(nat_lit 425, ⟨(.type "dict"), .none, .dict [e P (o "__module__") 632 (.str (o "kyber_py.polynomials.polynomials") 448), e P (o "__firstlineno__") 636 (.int (226) 635), e P (o "__init__") 645 (.ref 366), e P (o "to_ntt") 652 (.ref 373), e P (o "from_ntt") 669 (.ref 380), e P (o "_ntt_base_multiplication") 694 (.ref 389), e P (o "_ntt_coefficient_multiplication") 710 (.ref 397), e P (o "_ntt_multiplication") 719 (.ref 404), e P (o "__add__") 728 (.ref 411), e P (o "__sub__") 737 (.ref 418), e P (o "__mul__") 743 (.ref 423), e P (o "__static_attributes__") 746 (.ref 424), e P (o "__doc__") 747 n].toArray 2, [].toArray⟩) ::
(nat_lit 426, ⟨(.type "type"), .none, .cls ⟨(o "PolynomialNTT"), [(.ref 350)], [(.ref 426), (.ref 350), (.ref 222), (.type "object")], 425, (o "PolynomialNTT"), true, [], [], false, .none, false⟩, [(.some (.ref 353)), .none, (.some (.str (o "PolynomialNTT") 625)), (.some (.str (o "PolynomialNTT") 633)), (.some (.builtin "object.__new__")), (.some (.bool true))].toArray⟩) ::
(nat_lit 429, ⟨(.type "tuple"), .none, .seq [].toArray 0, [].toArray⟩) ::
(nat_lit 431, ⟨(.type "tuple"), .none, .seq [(.str (o "script") 755), (.str (o "k") 756)].toArray 0, [].toArray⟩) ::
(nat_lit 432, ⟨(.type "tuple"), .none, .seq [].toArray 0, [].toArray⟩) ::
(nat_lit 434, ⟨(.type "code"), .none, .fields [(.str (o "_law_draw") 752), (.str (o "_law_draw") 753), (.str (o "/claim/cut.py") 754), (.int (294) 0), (.int (2) 0), (.int (0) 0), (.int (0) 0), (.int (3) 0), (.ref 429), (.bool true), (.int (181) 0), (.ref 430), n, (.ref 431), (.ref 432), (.ref 433), (.int (757) 0), (.int (294) 0), (.str (o "/claim/cut.py") 758)].toArray, [].toArray⟩) ::
(nat_lit 435, ⟨(.type "function"), .none, .func (f (top 9) (o "_law_draw") (o "_law_draw") 3 [] n n n (.str (o "law_yi0059_01") 750) .none (.ref 434) n 0), [].toArray⟩) ::
(nat_lit 436, ⟨(.type "tuple"), .none, .seq [].toArray 0, [].toArray⟩) ::
(nat_lit 439, ⟨(.type "code"), .none, .fields [(.str (o "law") 760), (.str (o "law") 761), (.str (o "/claim/cut.py") 762), (.int (298) 0), (.int (1) 0), (.int (0) 0), (.int (0) 0), (.int (3) 0), (.ref 436), (.bool true), (.int (181) 0), (.ref 437), n, n, n, (.ref 438), (.int (763) 0), (.int (298) 0), (.str (o "/claim/cut.py") 764)].toArray, [].toArray⟩) ::
(nat_lit 440, ⟨(.type "function"), .none, .func (f (top 10) (o "law") (o "law") 3 [] n n n (.str (o "law_yi0059_01") 750) .none (.ref 439) n 0), [].toArray⟩) ::
[]
noncomputable def as : List Addr :=
nat_lit 2 :: nat_lit 3 :: nat_lit 15 :: nat_lit 17 :: nat_lit 18 :: nat_lit 20 :: nat_lit 21 :: nat_lit 29 :: nat_lit 31 :: nat_lit 32 :: nat_lit 34 :: nat_lit 35 :: nat_lit 36 :: nat_lit 38 :: nat_lit 39 :: nat_lit 41 :: nat_lit 42 :: nat_lit 43 :: nat_lit 45 :: nat_lit 46 :: nat_lit 48 :: nat_lit 49 :: nat_lit 50 :: nat_lit 52 :: nat_lit 53 :: nat_lit 55 :: nat_lit 56 :: nat_lit 57 :: nat_lit 58 :: nat_lit 59 :: nat_lit 60 :: nat_lit 61 :: nat_lit 71 :: nat_lit 73 :: nat_lit 74 :: nat_lit 76 :: nat_lit 77 :: nat_lit 78 :: nat_lit 80 :: nat_lit 81 :: nat_lit 83 :: nat_lit 84 :: nat_lit 85 :: nat_lit 87 :: nat_lit 88 :: nat_lit 90 :: nat_lit 91 :: nat_lit 92 :: nat_lit 95 :: nat_lit 96 :: nat_lit 97 :: nat_lit 99 :: nat_lit 100 :: nat_lit 102 :: nat_lit 103 :: nat_lit 104 :: nat_lit 106 :: nat_lit 107 :: nat_lit 109 :: nat_lit 110 :: nat_lit 111 :: nat_lit 113 :: nat_lit 114 :: nat_lit 116 :: nat_lit 117 :: nat_lit 118 :: nat_lit 121 :: nat_lit 122 :: nat_lit 123 :: nat_lit 126 :: nat_lit 127 :: nat_lit 128 :: nat_lit 131 :: nat_lit 132 :: nat_lit 133 :: nat_lit 135 :: nat_lit 136 :: nat_lit 138 :: nat_lit 139 :: nat_lit 140 :: nat_lit 142 :: nat_lit 143 :: nat_lit 145 :: nat_lit 146 :: nat_lit 147 :: nat_lit 149 :: nat_lit 150 :: nat_lit 152 :: nat_lit 153 :: nat_lit 154 :: nat_lit 157 :: nat_lit 158 :: nat_lit 159 :: nat_lit 161 :: nat_lit 162 :: nat_lit 164 :: nat_lit 165 :: nat_lit 166 :: nat_lit 168 :: nat_lit 169 :: nat_lit 171 :: nat_lit 172 :: nat_lit 173 :: nat_lit 175 :: nat_lit 176 :: nat_lit 178 :: nat_lit 179 :: nat_lit 180 :: nat_lit 183 :: nat_lit 184 :: nat_lit 185 :: nat_lit 187 :: nat_lit 188 :: nat_lit 190 :: nat_lit 191 :: nat_lit 192 :: nat_lit 194 :: nat_lit 195 :: nat_lit 197 :: nat_lit 198 :: nat_lit 199 :: nat_lit 201 :: nat_lit 202 :: nat_lit 204 :: nat_lit 205 :: nat_lit 206 :: nat_lit 208 :: nat_lit 209 :: nat_lit 211 :: nat_lit 212 :: nat_lit 213 :: nat_lit 215 :: nat_lit 216 :: nat_lit 218 :: nat_lit 219 :: nat_lit 220 :: nat_lit 221 :: nat_lit 222 :: nat_lit 223 :: nat_lit 224 :: nat_lit 227 :: nat_lit 234 :: nat_lit 237 :: nat_lit 238 :: nat_lit 239 :: nat_lit 241 :: nat_lit 242 :: nat_lit 244 :: nat_lit 245 :: nat_lit 246 :: nat_lit 247 :: nat_lit 248 :: nat_lit 249 :: nat_lit 251 :: nat_lit 252 :: nat_lit 254 :: nat_lit 255 :: nat_lit 256 :: nat_lit 257 :: nat_lit 259 :: nat_lit 260 :: nat_lit 262 :: nat_lit 263 :: nat_lit 264 :: nat_lit 265 :: nat_lit 267 :: nat_lit 268 :: nat_lit 270 :: nat_lit 271 :: nat_lit 272 :: nat_lit 273 :: nat_lit 275 :: nat_lit 276 :: nat_lit 278 :: nat_lit 279 :: nat_lit 280 :: nat_lit 281 :: nat_lit 282 :: nat_lit 285 :: nat_lit 292 :: nat_lit 294 :: nat_lit 295 :: nat_lit 297 :: nat_lit 298 :: nat_lit 299 :: nat_lit 301 :: nat_lit 302 :: nat_lit 304 :: nat_lit 305 :: nat_lit 306 :: nat_lit 308 :: nat_lit 309 :: nat_lit 311 :: nat_lit 312 :: nat_lit 313 :: nat_lit 315 :: nat_lit 316 :: nat_lit 318 :: nat_lit 319 :: nat_lit 320 :: nat_lit 322 :: nat_lit 323 :: nat_lit 325 :: nat_lit 326 :: nat_lit 327 :: nat_lit 329 :: nat_lit 330 :: nat_lit 332 :: nat_lit 333 :: nat_lit 334 :: nat_lit 336 :: nat_lit 337 :: nat_lit 339 :: nat_lit 340 :: nat_lit 341 :: nat_lit 343 :: nat_lit 344 :: nat_lit 346 :: nat_lit 347 :: nat_lit 348 :: nat_lit 349 :: nat_lit 350 :: nat_lit 353 :: nat_lit 360 :: nat_lit 362 :: nat_lit 363 :: nat_lit 365 :: nat_lit 366 :: nat_lit 367 :: nat_lit 369 :: nat_lit 370 :: nat_lit 372 :: nat_lit 373 :: nat_lit 374 :: nat_lit 376 :: nat_lit 377 :: nat_lit 379 :: nat_lit 380 :: nat_lit 381 :: nat_lit 383 :: nat_lit 384 :: nat_lit 386 :: nat_lit 387 :: nat_lit 388 :: nat_lit 389 :: nat_lit 390 :: nat_lit 391 :: nat_lit 393 :: nat_lit 394 :: nat_lit 396 :: nat_lit 397 :: nat_lit 398 :: nat_lit 400 :: nat_lit 401 :: nat_lit 403 :: nat_lit 404 :: nat_lit 405 :: nat_lit 407 :: nat_lit 408 :: nat_lit 410 :: nat_lit 411 :: nat_lit 412 :: nat_lit 414 :: nat_lit 415 :: nat_lit 417 :: nat_lit 418 :: nat_lit 419 :: nat_lit 422 :: nat_lit 423 :: nat_lit 424 :: nat_lit 425 :: nat_lit 426 :: nat_lit 429 :: nat_lit 431 :: nat_lit 432 :: nat_lit 434 :: nat_lit 435 :: nat_lit 436 :: nat_lit 439 :: nat_lit 440 :: []
theorem as_K : ∀ P, as = (K P).map (·.1) := fun _ => by kernel_rfl
noncomputable def Xt (s : Shared) : Bool := xlAt view [] s && recOk (RowW.records (OpenRow.toRowW (OpenLaw.row PySem.Challenge.rw_yi0059_01))) s
/-- what is asked of the top's end (this text loads no module) -/
def endOk (h₀ : Heap) (s : Shared) : Bool := staticsOk [] h₀ s.heap && namesBound PySem.Challenge.pw_yi0059_01 s.heap && gensDone s && laidKept h₀ s.heap
theorem topFrom_of {w : World} {N m₀ : Nat} {ann : Option Value} {s₀ s₁ : Shared} (g : (s₀.heap.isNs mainGlobals && s₀.gens.size == 0) = true) (hm : s₀.heap.objs.size = m₀) (ha : s₀.heap.nsMap mainGlobals "__annotations__" = ann)
    (r : topRun treeTable PySem.Challenge.pw_yi0059_01 w m₀ ann N s₀ (topStub PySem.Challenge.pw_yi0059_01) = some s₁) (k : endOk s₀.heap s₁ = true) : topFrom treeTable PySem.Challenge.pw_yi0059_01 w N s₀ = some s₁ := by
  subst hm ha
  unfold endOk at k
  unfold topFrom
  simp only [g, r, Option.bind_some]
  split
  · rfl
  · rename_i h
    exact absurd (k.symm.trans h) (by decide)
/-- the top's run by checks, its end left as it comes -/
theorem left_of {q : Program} {loose : List Str} {Xt : Shared → Bool} {α : Type} {Yf : Shared → α} {Ya : World → α} {N m₀ : Nat} {ann : Option Value} {S₀ : World → OsState → Shared}
    (opens : ∀ w, ∃ os, fencedOpening treeTable PySem.Challenge.pw_yi0059_01 w N = some (S₀ w os)) (sized : ∀ w os, ((S₀ w os).heap.isNs mainGlobals && (S₀ w os).gens.size == 0) = true ∧ (S₀ w os).heap.objs.size = m₀ ∧ (S₀ w os).heap.nsMap mainGlobals "__annotations__" = ann)
    (run : ∀ w os, (topRun treeTable PySem.Challenge.pw_yi0059_01 w m₀ ann N (S₀ w os) (topStub PySem.Challenge.pw_yi0059_01)).map (fun s => (endOk (S₀ w os).heap s, openSeen q loose [] Xt true s, Yf s)) = some (true, openGood q loose, Ya w)) :
    LeftO PySem.Challenge.pw_yi0059_01 q loose Xt Yf Ya N true := by
  intro w
  obtain ⟨os, ho⟩ := opens w
  obtain ⟨g, hm, ha⟩ := sized w os
  obtain ⟨s₁, r, l⟩ := Option.map_eq_some_iff.mp (run w os)
  have k := congrArg Prod.fst l
  have l2 := congrArg Prod.snd l
  show ((fencedOpening treeTable PySem.Challenge.pw_yi0059_01 w N).bind (topFrom treeTable PySem.Challenge.pw_yi0059_01 w N)).map _ = _
  rw [ho, Option.bind_some, topFrom_of g hm ha r k, Option.map_some]
  exact congrArg some l2
/-- the state at the top's start -/
noncomputable def begins (w : World) (os : OsState) : Shared := ⟨boot_heap w.params, Array.mk [], boot_drawn, boot_toks, os⟩
theorem opens : ∀ w, ∃ os, fencedOpening treeTable PySem.Challenge.pw_yi0059_01 w 3453 = some (begins w os) := by
  intro w
  have b : (fencedOpening treeTable PySem.Challenge.pw_yi0059_01 w 3453).map (fun s => (s.heap, s.gens, s.drawn, s.toks)) = some (boot_heap w.params, Array.mk [], boot_drawn, boot_toks) :=
    boot_open (by kernel_rfl) (by decide) (fun s => by kernel_rfl) w
  obtain ⟨⟨h, gs, d, k, os⟩, e1, e2⟩ := Option.map_eq_some_iff.mp b
  simp only [Prod.mk.injEq] at e2
  obtain ⟨rfl, rfl, rfl, rfl⟩ := e2
  exact ⟨os, e1⟩
noncomputable def ob_11_0 (_ : Params) : Obj := ⟨(.type "tuple"), .none, .seq [].toArray 0, [].toArray⟩
noncomputable def ob_12_0 (_ : Params) : Obj := ⟨n, .none, .fields [].toArray, [].toArray⟩
noncomputable def ob_13_0 (_ : Params) : Obj := ⟨(.type "code"), .none, .fields [(.str (o "<module>") 182), (.str (o "<module>") 183), (.str (o "/claim/cut.py") 184), (.int (1) 0), (.int (0) 0), (.int (0) 0), (.int (0) 0), (.int (0) 0), (.ref 11), (.bool false), (.int (181) 0), (.ref 12), n, n, n, n, (.int (185) 0), (.int (1) 0), (.str (o "/claim/cut.py") 186)].toArray, [].toArray⟩
noncomputable def ob_14_0 (_ : Params) : Obj := ⟨(.type "frame"), .none, .plain, [(.some (.ref 13)), (.some (.ref 3)), (.some (.ref 3)), .none, (.some (.str (o "__main__") 164)), .none, (.some (.ref 0))].toArray⟩
noncomputable def hp_a (P : Params) : Heap := ⟨Array.mk (boot_o_0 P :: boot_o_1 P :: boot_o_2 P :: boot_o_3 P :: boot_o_4 P :: boot_o_5 P :: boot_o_6 P :: boot_o_7 P :: boot_o_8 P :: boot_o_9 P :: boot_o_10 P :: ob_11_0 P :: ob_12_0 P :: ob_13_0 P :: ob_14_0 P :: []), { }⟩
noncomputable def hp_b (P : Params) : Heap := ⟨Array.mk (boot_o_0 P :: boot_o_1 P :: boot_o_2 P :: boot_o_3 P :: boot_o_4 P :: boot_o_5 P :: boot_o_6 P :: boot_o_7 P :: boot_o_8 P :: boot_o_9 P :: boot_o_10 P :: ob_11_0 P :: ob_12_0 P :: ob_13_0 P :: ob_14_0 P :: []), { }⟩
noncomputable def ob_3_1 (P : Params) : Obj := ⟨(.type "dict"), .none, .dict [e P (o "__name__") 165 (.str (o "kyber_py.polynomials.polynomials_generic") 194), e P (o "__doc__") 166 n, e P (o "__package__") 167 n, e P (o "__loader__") 168 (.builtin "__main__.__loader__#opaque"), e P (o "__spec__") 169 n, e P (o "__annotations__") 170 (.ref 6), e P (o "__builtins__") 171 (.ref 4), e P (o "__file__") 173 (.str (o "/claim/cut.py") 172), e P (o "__cached__") 174 n, e P (o "_wall") 193 (.ref 21), e P (o "GenericPolynomialRing") 248 (.ref 59)].toArray 11, [].toArray⟩
noncomputable def ob_12_1 (_ : Params) : Obj := ⟨n, .none, .fields [(.int (1) 0), (.int (0) 0), (.ref 20), (.int (5) 0), (.int (0) 0), (.ref 27)].toArray, [].toArray⟩
noncomputable def ob_15_0 (_ : Params) : Obj := ⟨(.type "tuple"), .none, .seq [].toArray 0, [].toArray⟩
noncomputable def ob_16_0 (_ : Params) : Obj := ⟨n, .none, .fields [].toArray, [].toArray⟩
noncomputable def ob_17_0 (_ : Params) : Obj := ⟨(.type "tuple"), .none, .seq [(.str (o "k") 190)].toArray 0, [].toArray⟩
noncomputable def ob_18_0 (_ : Params) : Obj := ⟨(.type "tuple"), .none, .seq [].toArray 0, [].toArray⟩
noncomputable def ob_19_0 (_ : Params) : Obj := ⟨n, .none, .func (f (top 0) (o "_wall") (o "_wall") 0 [] n n n n .none n n 0), [].toArray⟩
noncomputable def ob_20_0 (_ : Params) : Obj := ⟨(.type "code"), .none, .fields [(.str (o "_wall") 187), (.str (o "_wall") 188), (.str (o "/claim/cut.py") 189), (.int (1) 0), (.int (1) 0), (.int (0) 0), (.int (0) 0), (.int (3) 0), (.ref 15), (.bool true), (.int (181) 0), (.ref 16), n, (.ref 17), (.ref 18), (.ref 19), (.int (191) 0), (.int (1) 0), (.str (o "/claim/cut.py") 192)].toArray, [].toArray⟩
noncomputable def ob_21_0 (_ : Params) : Obj := ⟨(.type "function"), .none, .func (f (top 0) (o "_wall") (o "_wall") 3 [] n n n (.str (o "__main__") 164) .none (.ref 20) n 0), [].toArray⟩
noncomputable def ob_22_0 (_ : Params) : Obj := ⟨(.type "tuple"), .none, .seq [].toArray 0, [].toArray⟩
noncomputable def ob_23_0 (_ : Params) : Obj := ⟨(.type "builtin_function_or_method"), .none, .fields [(.builtin "type.__prepare__"), (.type "type")].toArray, [].toArray⟩
noncomputable def ob_24_0 (P : Params) : Obj := ⟨(.type "dict"), .none, .dict [e P (o "__module__") 203 (.str (o "kyber_py.polynomials.polynomials_generic") 194), e P (o "__qualname__") 205 (.str (o "GenericPolynomialRing") 204), e P (o "__firstlineno__") 207 (.int (5) 206), e P (o "__init__") 216 (.ref 35), e P (o "zero") 223 (.ref 42), e P (o "gen") 230 (.ref 49), e P (o "__call__") 238 (.ref 56), e P (o "__static_attributes__") 241 (.ref 57)].toArray 8, [].toArray⟩
noncomputable def ob_25_0 (_ : Params) : Obj := ⟨(.type "tuple"), .none, .seq [].toArray 0, [].toArray⟩
noncomputable def ob_26_0 (_ : Params) : Obj := ⟨n, .none, .fields [(.int (7) 0), (.int (4) 0), (.ref 34), (.int (11) 0), (.int (4) 0), (.ref 41), (.int (14) 0), (.int (4) 0), (.ref 48), (.int (17) 0), (.int (4) 0), (.ref 55)].toArray, [].toArray⟩
noncomputable def ob_27_0 (_ : Params) : Obj := ⟨(.type "code"), .none, .fields [(.str (o "GenericPolynomialRing") 198), (.str (o "GenericPolynomialRing") 199), (.str (o "/claim/cut.py") 200), (.int (5) 0), (.int (0) 0), (.int (0) 0), (.int (0) 0), (.int (0) 0), (.ref 25), (.bool false), (.int (181) 0), (.ref 26), n, n, n, n, (.int (201) 0), (.int (5) 0), (.str (o "/claim/cut.py") 202)].toArray, [].toArray⟩
noncomputable def ob_28_0 (_ : Params) : Obj := ⟨(.type "frame"), .none, .plain, [(.some (.ref 27)), (.some (.ref 3)), (.some (.ref 24)), .none, (.some (.str (o "kyber_py.polynomials.polynomials_generic") 194)), .none, (.some (.ref 0))].toArray⟩
noncomputable def ob_29_0 (_ : Params) : Obj := ⟨(.type "tuple"), .none, .seq [].toArray 0, [].toArray⟩
noncomputable def ob_30_0 (_ : Params) : Obj := ⟨n, .none, .fields [].toArray, [].toArray⟩
noncomputable def ob_31_0 (_ : Params) : Obj := ⟨(.type "tuple"), .none, .seq [(.str (o "self") 211), (.str (o "q") 212), (.str (o "n") 213)].toArray 0, [].toArray⟩
noncomputable def ob_32_0 (_ : Params) : Obj := ⟨(.type "tuple"), .none, .seq [].toArray 0, [].toArray⟩
noncomputable def ob_33_0 (_ : Params) : Obj := ⟨n, .none, .func (f (sub 2 0) (o "__init__") (o "GenericPolynomialRing.__init__") 0 [] n n n n .none n n 0), [].toArray⟩
noncomputable def ob_34_0 (_ : Params) : Obj := ⟨(.type "code"), .none, .fields [(.str (o "__init__") 208), (.str (o "GenericPolynomialRing.__init__") 209), (.str (o "/claim/cut.py") 210), (.int (7) 0), (.int (3) 0), (.int (0) 0), (.int (0) 0), (.int (3) 0), (.ref 29), (.bool true), (.int (181) 0), (.ref 30), n, (.ref 31), (.ref 32), (.ref 33), (.int (214) 0), (.int (7) 0), (.str (o "/claim/cut.py") 215)].toArray, [].toArray⟩
noncomputable def ob_35_0 (_ : Params) : Obj := ⟨(.type "function"), .none, .func (f (sub 2 0) (o "__init__") (o "GenericPolynomialRing.__init__") 3 [] n n n (.str (o "kyber_py.polynomials.polynomials_generic") 194) .none (.ref 34) n 0), [].toArray⟩
noncomputable def ob_36_0 (_ : Params) : Obj := ⟨(.type "tuple"), .none, .seq [].toArray 0, [].toArray⟩
noncomputable def ob_37_0 (_ : Params) : Obj := ⟨n, .none, .fields [].toArray, [].toArray⟩
noncomputable def ob_38_0 (_ : Params) : Obj := ⟨(.type "tuple"), .none, .seq [(.str (o "self") 220)].toArray 0, [].toArray⟩
noncomputable def ob_39_0 (_ : Params) : Obj := ⟨(.type "tuple"), .none, .seq [].toArray 0, [].toArray⟩
noncomputable def ob_40_0 (_ : Params) : Obj := ⟨n, .none, .func (f (sub 2 1) (o "zero") (o "GenericPolynomialRing.zero") 0 [] n n n n .none n n 0), [].toArray⟩
noncomputable def ob_41_0 (_ : Params) : Obj := ⟨(.type "code"), .none, .fields [(.str (o "zero") 217), (.str (o "GenericPolynomialRing.zero") 218), (.str (o "/claim/cut.py") 219), (.int (11) 0), (.int (1) 0), (.int (0) 0), (.int (0) 0), (.int (3) 0), (.ref 36), (.bool true), (.int (181) 0), (.ref 37), n, (.ref 38), (.ref 39), (.ref 40), (.int (221) 0), (.int (11) 0), (.str (o "/claim/cut.py") 222)].toArray, [].toArray⟩
noncomputable def ob_42_0 (_ : Params) : Obj := ⟨(.type "function"), .none, .func (f (sub 2 1) (o "zero") (o "GenericPolynomialRing.zero") 3 [] n n n (.str (o "kyber_py.polynomials.polynomials_generic") 194) .none (.ref 41) n 0), [].toArray⟩
noncomputable def ob_43_0 (_ : Params) : Obj := ⟨(.type "tuple"), .none, .seq [].toArray 0, [].toArray⟩
noncomputable def ob_44_0 (_ : Params) : Obj := ⟨n, .none, .fields [].toArray, [].toArray⟩
noncomputable def ob_45_0 (_ : Params) : Obj := ⟨(.type "tuple"), .none, .seq [(.str (o "self") 227)].toArray 0, [].toArray⟩
noncomputable def ob_46_0 (_ : Params) : Obj := ⟨(.type "tuple"), .none, .seq [].toArray 0, [].toArray⟩
noncomputable def ob_47_0 (_ : Params) : Obj := ⟨n, .none, .func (f (sub 2 2) (o "gen") (o "GenericPolynomialRing.gen") 0 [] n n n n .none n n 0), [].toArray⟩
noncomputable def ob_48_0 (_ : Params) : Obj := ⟨(.type "code"), .none, .fields [(.str (o "gen") 224), (.str (o "GenericPolynomialRing.gen") 225), (.str (o "/claim/cut.py") 226), (.int (14) 0), (.int (1) 0), (.int (0) 0), (.int (0) 0), (.int (3) 0), (.ref 43), (.bool true), (.int (181) 0), (.ref 44), n, (.ref 45), (.ref 46), (.ref 47), (.int (228) 0), (.int (14) 0), (.str (o "/claim/cut.py") 229)].toArray, [].toArray⟩
noncomputable def ob_49_0 (_ : Params) : Obj := ⟨(.type "function"), .none, .func (f (sub 2 2) (o "gen") (o "GenericPolynomialRing.gen") 3 [] n n n (.str (o "kyber_py.polynomials.polynomials_generic") 194) .none (.ref 48) n 0), [].toArray⟩
noncomputable def ob_50_0 (_ : Params) : Obj := ⟨(.type "tuple"), .none, .seq [].toArray 0, [].toArray⟩
noncomputable def ob_51_0 (_ : Params) : Obj := ⟨n, .none, .fields [].toArray, [].toArray⟩
noncomputable def ob_52_0 (_ : Params) : Obj := ⟨(.type "tuple"), .none, .seq [(.str (o "self") 234), (.str (o "coefficients") 235)].toArray 0, [].toArray⟩
noncomputable def ob_53_0 (_ : Params) : Obj := ⟨(.type "tuple"), .none, .seq [].toArray 0, [].toArray⟩
noncomputable def ob_54_0 (_ : Params) : Obj := ⟨n, .none, .func (f (sub 2 3) (o "__call__") (o "GenericPolynomialRing.__call__") 0 [] n n n n .none n n 0), [].toArray⟩
noncomputable def ob_55_0 (_ : Params) : Obj := ⟨(.type "code"), .none, .fields [(.str (o "__call__") 231), (.str (o "GenericPolynomialRing.__call__") 232), (.str (o "/claim/cut.py") 233), (.int (17) 0), (.int (2) 0), (.int (0) 0), (.int (0) 0), (.int (3) 0), (.ref 50), (.bool true), (.int (181) 0), (.ref 51), n, (.ref 52), (.ref 53), (.ref 54), (.int (236) 0), (.int (17) 0), (.str (o "/claim/cut.py") 237)].toArray, [].toArray⟩
noncomputable def ob_56_0 (_ : Params) : Obj := ⟨(.type "function"), .none, .func (f (sub 2 3) (o "__call__") (o "GenericPolynomialRing.__call__") 3 [] n n n (.str (o "kyber_py.polynomials.polynomials_generic") 194) .none (.ref 55) n 0), [].toArray⟩
noncomputable def ob_57_0 (_ : Params) : Obj := ⟨(.type "tuple"), .none, .seq [(.str (o "n") 239), (.str (o "q") 240)].toArray 0, [].toArray⟩
noncomputable def ob_58_0 (P : Params) : Obj := ⟨(.type "dict"), .none, .dict [e P (o "__module__") 203 (.str (o "kyber_py.polynomials.polynomials_generic") 194), e P (o "__firstlineno__") 207 (.int (5) 206), e P (o "__init__") 216 (.ref 35), e P (o "zero") 223 (.ref 42), e P (o "gen") 230 (.ref 49), e P (o "__call__") 238 (.ref 56), e P (o "__static_attributes__") 241 (.ref 57), e P (o "__dict__") 243 (.ref 60), e P (o "__weakref__") 245 (.ref 61), e P (o "__doc__") 246 n].toArray 4, [].toArray⟩
noncomputable def ob_59_0 (_ : Params) : Obj := ⟨(.type "type"), .none, .cls ⟨(o "GenericPolynomialRing"), [(.type "object")], [(.ref 59), (.type "object")], 58, (o "GenericPolynomialRing"), true, [], [], false, .none, false⟩, [.none, .none, (.some (.str (o "GenericPolynomialRing") 196)), (.some (.str (o "GenericPolynomialRing") 204)), (.some (.builtin "object.__new__")), (.some (.bool true))].toArray⟩
noncomputable def ob_60_0 (_ : Params) : Obj := ⟨(.type "getset_descriptor"), .none, .fields [(.str (o "__dict__") 242), (.ref 59), (.builtin "function.__dict__"), (.builtin "function.__dict__#set")].toArray, [].toArray⟩
noncomputable def ob_61_0 (_ : Params) : Obj := ⟨(.type "getset_descriptor"), .none, .fields [(.str (o "__weakref__") 244), (.ref 59), (.builtin "ExceptionGroup.__weakref__"), n].toArray, [].toArray⟩
noncomputable def ob_62_0 (_ : Params) : Obj := ⟨(.type "super"), .none, .fields [(.ref 59), (.ref 59), (.ref 59)].toArray, [].toArray⟩
noncomputable def ob_63_0 (_ : Params) : Obj := ⟨(.type "builtin_function_or_method"), .none, .fields [(.builtin "object.__init_subclass__"), (.ref 59)].toArray, [].toArray⟩
noncomputable def hp_2 (P : Params) : Heap := ⟨Array.mk (boot_o_0 P :: boot_o_1 P :: boot_o_2 P :: ob_3_1 P :: boot_o_4 P :: boot_o_5 P :: boot_o_6 P :: boot_o_7 P :: boot_o_8 P :: boot_o_9 P :: boot_o_10 P :: ob_11_0 P :: ob_12_1 P :: ob_13_0 P :: ob_14_0 P :: ob_15_0 P :: ob_16_0 P :: ob_17_0 P :: ob_18_0 P :: ob_19_0 P :: ob_20_0 P :: ob_21_0 P :: ob_22_0 P :: ob_23_0 P :: ob_24_0 P :: ob_25_0 P :: ob_26_0 P :: ob_27_0 P :: ob_28_0 P :: ob_29_0 P :: ob_30_0 P :: ob_31_0 P :: ob_32_0 P :: ob_33_0 P :: ob_34_0 P :: ob_35_0 P :: ob_36_0 P :: ob_37_0 P :: ob_38_0 P :: ob_39_0 P :: ob_40_0 P :: ob_41_0 P :: ob_42_0 P :: ob_43_0 P :: ob_44_0 P :: ob_45_0 P :: ob_46_0 P :: ob_47_0 P :: ob_48_0 P :: ob_49_0 P :: ob_50_0 P :: ob_51_0 P :: ob_52_0 P :: ob_53_0 P :: ob_54_0 P :: ob_55_0 P :: ob_56_0 P :: ob_57_0 P :: ob_58_0 P :: ob_59_0 P :: ob_60_0 P :: ob_61_0 P :: ob_62_0 P :: ob_63_0 P :: []), { }⟩
noncomputable def ob_3_2 (P : Params) : Obj := ⟨(.type "dict"), .none, .dict [e P (o "__name__") 165 (.str (o "kyber_py.polynomials.polynomials_generic") 194), e P (o "__doc__") 166 n, e P (o "__package__") 167 n, e P (o "__loader__") 168 (.builtin "__main__.__loader__#opaque"), e P (o "__spec__") 169 n, e P (o "__annotations__") 170 (.ref 6), e P (o "__builtins__") 171 (.ref 4), e P (o "__file__") 173 (.str (o "/claim/cut.py") 172), e P (o "__cached__") 174 n, e P (o "_wall") 193 (.ref 21), e P (o "GenericPolynomialRing") 248 (.ref 59), e P (o "GenericPolynomial") 447 (.ref 222)].toArray 12, [].toArray⟩
noncomputable def ob_12_2 (_ : Params) : Obj := ⟨n, .none, .fields [(.int (1) 0), (.int (0) 0), (.ref 20), (.int (5) 0), (.int (0) 0), (.ref 27), (.int (23) 0), (.int (0) 0), (.ref 69)].toArray, [].toArray⟩
noncomputable def ob_64_0 (_ : Params) : Obj := ⟨(.type "tuple"), .none, .seq [].toArray 0, [].toArray⟩
noncomputable def ob_65_0 (_ : Params) : Obj := ⟨(.type "builtin_function_or_method"), .none, .fields [(.builtin "type.__prepare__"), (.type "type")].toArray, [].toArray⟩
noncomputable def ob_66_0 (P : Params) : Obj := ⟨(.type "dict"), .none, .dict [e P (o "__module__") 256 (.str (o "kyber_py.polynomials.polynomials_generic") 194), e P (o "__qualname__") 258 (.str (o "GenericPolynomial") 257), e P (o "__firstlineno__") 260 (.int (23) 259), e P (o "__init__") 269 (.ref 77), e P (o "is_zero") 276 (.ref 84), e P (o "is_constant") 283 (.ref 91), e P (o "_parse_coefficients") 289 (.ref 96), e P (o "reduce_coefficients") 296 (.ref 103), e P (o "_add_mod_q") 305 (.ref 110), e P (o "_sub_mod_q") 314 (.ref 117), e P (o "_schoolbook_multiplication") 320 (.ref 122), e P (o "__neg__") 326 (.ref 127), e P (o "_add_") 332 (.ref 132), e P (o "__add__") 341 (.ref 139), e P (o "__radd__") 349 (.ref 146), e P (o "__iadd__") 357 (.ref 153), e P (o "_sub_") 363 (.ref 158), e P (o "__sub__") 372 (.ref 165), e P (o "__rsub__") 380 (.ref 172), e P (o "__isub__") 388 (.ref 179), e P (o "__mul__") 394 (.ref 184), e P (o "__rmul__") 402 (.ref 191), e P (o "__imul__") 410 (.ref 198), e P (o "__pow__") 420 (.ref 205), e P (o "__eq__") 428 (.ref 212), e P (o "__getitem__") 436 (.ref 219), e P (o "__static_attributes__") 439 (.ref 220)].toArray 27, [].toArray⟩
noncomputable def ob_67_0 (_ : Params) : Obj := ⟨(.type "tuple"), .none, .seq [].toArray 0, [].toArray⟩
noncomputable def ob_68_0 (_ : Params) : Obj := ⟨n, .none, .fields [(.int (25) 0), (.int (4) 0), (.ref 76), (.int (29) 0), (.int (4) 0), (.ref 83), (.int (32) 0), (.int (4) 0), (.ref 90), (.int (35) 0), (.int (4) 0), (.ref 95), (.int (43) 0), (.int (4) 0), (.ref 102), (.int (46) 0), (.int (4) 0), (.ref 109), (.int (49) 0), (.int (4) 0), (.ref 116), (.int (52) 0), (.int (4) 0), (.ref 121), (.int (65) 0), (.int (4) 0), (.ref 126), (.int (69) 0), (.int (4) 0), (.ref 131), (.int (79) 0), (.int (4) 0), (.ref 138), (.int (83) 0), (.int (4) 0), (.ref 145), (.int (86) 0), (.int (4) 0), (.ref 152), (.int (90) 0), (.int (4) 0), (.ref 157), (.int (100) 0), (.int (4) 0), (.ref 164), (.int (104) 0), (.int (4) 0), (.ref 171), (.int (107) 0), (.int (4) 0), (.ref 178), (.int (111) 0), (.int (4) 0), (.ref 183), (.int (120) 0), (.int (4) 0), (.ref 190), (.int (123) 0), (.int (4) 0), (.ref 197), (.int (127) 0), (.int (4) 0), (.ref 204), (.int (141) 0), (.int (4) 0), (.ref 211), (.int (149) 0), (.int (4) 0), (.ref 218)].toArray, [].toArray⟩
noncomputable def ob_69_0 (_ : Params) : Obj := ⟨(.type "code"), .none, .fields [(.str (o "GenericPolynomial") 251), (.str (o "GenericPolynomial") 252), (.str (o "/claim/cut.py") 253), (.int (23) 0), (.int (0) 0), (.int (0) 0), (.int (0) 0), (.int (0) 0), (.ref 67), (.bool false), (.int (181) 0), (.ref 68), n, n, n, n, (.int (254) 0), (.int (23) 0), (.str (o "/claim/cut.py") 255)].toArray, [].toArray⟩
noncomputable def ob_70_0 (_ : Params) : Obj := ⟨(.type "frame"), .none, .plain, [(.some (.ref 69)), (.some (.ref 3)), (.some (.ref 66)), .none, (.some (.str (o "kyber_py.polynomials.polynomials_generic") 194)), .none, (.some (.ref 0))].toArray⟩
noncomputable def ob_71_0 (_ : Params) : Obj := ⟨(.type "tuple"), .none, .seq [].toArray 0, [].toArray⟩
noncomputable def ob_72_0 (_ : Params) : Obj := ⟨n, .none, .fields [].toArray, [].toArray⟩
noncomputable def ob_73_0 (_ : Params) : Obj := ⟨(.type "tuple"), .none, .seq [(.str (o "self") 264), (.str (o "parent") 265), (.str (o "coefficients") 266)].toArray 0, [].toArray⟩
noncomputable def ob_74_0 (_ : Params) : Obj := ⟨(.type "tuple"), .none, .seq [].toArray 0, [].toArray⟩
noncomputable def ob_75_0 (_ : Params) : Obj := ⟨n, .none, .func (f (sub 3 0) (o "__init__") (o "GenericPolynomial.__init__") 0 [] n n n n .none n n 0), [].toArray⟩
noncomputable def ob_76_0 (_ : Params) : Obj := ⟨(.type "code"), .none, .fields [(.str (o "__init__") 261), (.str (o "GenericPolynomial.__init__") 262), (.str (o "/claim/cut.py") 263), (.int (25) 0), (.int (3) 0), (.int (0) 0), (.int (0) 0), (.int (3) 0), (.ref 71), (.bool true), (.int (181) 0), (.ref 72), n, (.ref 73), (.ref 74), (.ref 75), (.int (267) 0), (.int (25) 0), (.str (o "/claim/cut.py") 268)].toArray, [].toArray⟩
noncomputable def ob_77_0 (_ : Params) : Obj := ⟨(.type "function"), .none, .func (f (sub 3 0) (o "__init__") (o "GenericPolynomial.__init__") 3 [] n n n (.str (o "kyber_py.polynomials.polynomials_generic") 194) .none (.ref 76) n 0), [].toArray⟩
noncomputable def ob_78_0 (_ : Params) : Obj := ⟨(.type "tuple"), .none, .seq [].toArray 0, [].toArray⟩
noncomputable def ob_79_0 (_ : Params) : Obj := ⟨n, .none, .fields [].toArray, [].toArray⟩
noncomputable def ob_80_0 (_ : Params) : Obj := ⟨(.type "tuple"), .none, .seq [(.str (o "self") 273)].toArray 0, [].toArray⟩
noncomputable def ob_81_0 (_ : Params) : Obj := ⟨(.type "tuple"), .none, .seq [].toArray 0, [].toArray⟩
noncomputable def ob_82_0 (_ : Params) : Obj := ⟨n, .none, .func (f (sub 3 1) (o "is_zero") (o "GenericPolynomial.is_zero") 0 [] n n n n .none n n 0), [].toArray⟩
noncomputable def ob_83_0 (_ : Params) : Obj := ⟨(.type "code"), .none, .fields [(.str (o "is_zero") 270), (.str (o "GenericPolynomial.is_zero") 271), (.str (o "/claim/cut.py") 272), (.int (29) 0), (.int (1) 0), (.int (0) 0), (.int (0) 0), (.int (3) 0), (.ref 78), (.bool true), (.int (181) 0), (.ref 79), n, (.ref 80), (.ref 81), (.ref 82), (.int (274) 0), (.int (29) 0), (.str (o "/claim/cut.py") 275)].toArray, [].toArray⟩
noncomputable def ob_84_0 (_ : Params) : Obj := ⟨(.type "function"), .none, .func (f (sub 3 1) (o "is_zero") (o "GenericPolynomial.is_zero") 3 [] n n n (.str (o "kyber_py.polynomials.polynomials_generic") 194) .none (.ref 83) n 0), [].toArray⟩
noncomputable def ob_85_0 (_ : Params) : Obj := ⟨(.type "tuple"), .none, .seq [].toArray 0, [].toArray⟩
noncomputable def ob_86_0 (_ : Params) : Obj := ⟨n, .none, .fields [].toArray, [].toArray⟩
noncomputable def ob_87_0 (_ : Params) : Obj := ⟨(.type "tuple"), .none, .seq [(.str (o "self") 280)].toArray 0, [].toArray⟩
noncomputable def ob_88_0 (_ : Params) : Obj := ⟨(.type "tuple"), .none, .seq [].toArray 0, [].toArray⟩
noncomputable def ob_89_0 (_ : Params) : Obj := ⟨n, .none, .func (f (sub 3 2) (o "is_constant") (o "GenericPolynomial.is_constant") 0 [] n n n n .none n n 0), [].toArray⟩
noncomputable def ob_90_0 (_ : Params) : Obj := ⟨(.type "code"), .none, .fields [(.str (o "is_constant") 277), (.str (o "GenericPolynomial.is_constant") 278), (.str (o "/claim/cut.py") 279), (.int (32) 0), (.int (1) 0), (.int (0) 0), (.int (0) 0), (.int (3) 0), (.ref 85), (.bool true), (.int (181) 0), (.ref 86), n, (.ref 87), (.ref 88), (.ref 89), (.int (281) 0), (.int (32) 0), (.str (o "/claim/cut.py") 282)].toArray, [].toArray⟩
noncomputable def ob_91_0 (_ : Params) : Obj := ⟨(.type "function"), .none, .func (f (sub 3 2) (o "is_constant") (o "GenericPolynomial.is_constant") 3 [] n n n (.str (o "kyber_py.polynomials.polynomials_generic") 194) .none (.ref 90) n 0), [].toArray⟩
noncomputable def ob_92_0 (_ : Params) : Obj := ⟨(.type "tuple"), .none, .seq [].toArray 0, [].toArray⟩
noncomputable def ob_93_0 (_ : Params) : Obj := ⟨n, .none, .fields [].toArray, [].toArray⟩
noncomputable def ob_94_0 (_ : Params) : Obj := ⟨n, .none, .func (f (sub 3 3) (o "_parse_coefficients") (o "GenericPolynomial._parse_coefficients") 0 [] n n n n .none n n 0), [].toArray⟩
noncomputable def ob_95_0 (_ : Params) : Obj := ⟨(.type "code"), .none, .fields [(.str (o "_parse_coefficients") 284), (.str (o "GenericPolynomial._parse_coefficients") 285), (.str (o "/claim/cut.py") 286), (.int (35) 0), (.int (2) 0), (.int (0) 0), (.int (0) 0), (.int (3) 0), (.ref 92), (.bool true), (.int (181) 0), (.ref 93), n, n, n, (.ref 94), (.int (287) 0), (.int (35) 0), (.str (o "/claim/cut.py") 288)].toArray, [].toArray⟩
noncomputable def ob_96_0 (_ : Params) : Obj := ⟨(.type "function"), .none, .func (f (sub 3 3) (o "_parse_coefficients") (o "GenericPolynomial._parse_coefficients") 3 [] n n n (.str (o "kyber_py.polynomials.polynomials_generic") 194) .none (.ref 95) n 0), [].toArray⟩
noncomputable def ob_97_0 (_ : Params) : Obj := ⟨(.type "tuple"), .none, .seq [].toArray 0, [].toArray⟩
noncomputable def ob_98_0 (_ : Params) : Obj := ⟨n, .none, .fields [].toArray, [].toArray⟩
noncomputable def ob_99_0 (_ : Params) : Obj := ⟨(.type "tuple"), .none, .seq [(.str (o "self") 293)].toArray 0, [].toArray⟩
noncomputable def ob_100_0 (_ : Params) : Obj := ⟨(.type "tuple"), .none, .seq [].toArray 0, [].toArray⟩
noncomputable def ob_101_0 (_ : Params) : Obj := ⟨n, .none, .func (f (sub 3 4) (o "reduce_coefficients") (o "GenericPolynomial.reduce_coefficients") 0 [] n n n n .none n n 0), [].toArray⟩
noncomputable def ob_102_0 (_ : Params) : Obj := ⟨(.type "code"), .none, .fields [(.str (o "reduce_coefficients") 290), (.str (o "GenericPolynomial.reduce_coefficients") 291), (.str (o "/claim/cut.py") 292), (.int (43) 0), (.int (1) 0), (.int (0) 0), (.int (0) 0), (.int (3) 0), (.ref 97), (.bool true), (.int (181) 0), (.ref 98), n, (.ref 99), (.ref 100), (.ref 101), (.int (294) 0), (.int (43) 0), (.str (o "/claim/cut.py") 295)].toArray, [].toArray⟩
noncomputable def ob_103_0 (_ : Params) : Obj := ⟨(.type "function"), .none, .func (f (sub 3 4) (o "reduce_coefficients") (o "GenericPolynomial.reduce_coefficients") 3 [] n n n (.str (o "kyber_py.polynomials.polynomials_generic") 194) .none (.ref 102) n 0), [].toArray⟩
noncomputable def ob_104_0 (_ : Params) : Obj := ⟨(.type "tuple"), .none, .seq [].toArray 0, [].toArray⟩
noncomputable def ob_105_0 (_ : Params) : Obj := ⟨n, .none, .fields [].toArray, [].toArray⟩
noncomputable def ob_106_0 (_ : Params) : Obj := ⟨(.type "tuple"), .none, .seq [(.str (o "self") 300), (.str (o "x") 301), (.str (o "y") 302)].toArray 0, [].toArray⟩
noncomputable def ob_107_0 (_ : Params) : Obj := ⟨(.type "tuple"), .none, .seq [].toArray 0, [].toArray⟩
noncomputable def ob_108_0 (_ : Params) : Obj := ⟨n, .none, .func (f (sub 3 5) (o "_add_mod_q") (o "GenericPolynomial._add_mod_q") 0 [] n n n n .none n n 0), [].toArray⟩
noncomputable def ob_109_0 (_ : Params) : Obj := ⟨(.type "code"), .none, .fields [(.str (o "_add_mod_q") 297), (.str (o "GenericPolynomial._add_mod_q") 298), (.str (o "/claim/cut.py") 299), (.int (46) 0), (.int (3) 0), (.int (0) 0), (.int (0) 0), (.int (3) 0), (.ref 104), (.bool true), (.int (181) 0), (.ref 105), n, (.ref 106), (.ref 107), (.ref 108), (.int (303) 0), (.int (46) 0), (.str (o "/claim/cut.py") 304)].toArray, [].toArray⟩
noncomputable def ob_110_0 (_ : Params) : Obj := ⟨(.type "function"), .none, .func (f (sub 3 5) (o "_add_mod_q") (o "GenericPolynomial._add_mod_q") 3 [] n n n (.str (o "kyber_py.polynomials.polynomials_generic") 194) .none (.ref 109) n 0), [].toArray⟩
noncomputable def ob_111_0 (_ : Params) : Obj := ⟨(.type "tuple"), .none, .seq [].toArray 0, [].toArray⟩
noncomputable def ob_112_0 (_ : Params) : Obj := ⟨n, .none, .fields [].toArray, [].toArray⟩
noncomputable def ob_113_0 (_ : Params) : Obj := ⟨(.type "tuple"), .none, .seq [(.str (o "self") 309), (.str (o "x") 310), (.str (o "y") 311)].toArray 0, [].toArray⟩
noncomputable def ob_114_0 (_ : Params) : Obj := ⟨(.type "tuple"), .none, .seq [].toArray 0, [].toArray⟩
noncomputable def ob_115_0 (_ : Params) : Obj := ⟨n, .none, .func (f (sub 3 6) (o "_sub_mod_q") (o "GenericPolynomial._sub_mod_q") 0 [] n n n n .none n n 0), [].toArray⟩
noncomputable def ob_116_0 (_ : Params) : Obj := ⟨(.type "code"), .none, .fields [(.str (o "_sub_mod_q") 306), (.str (o "GenericPolynomial._sub_mod_q") 307), (.str (o "/claim/cut.py") 308), (.int (49) 0), (.int (3) 0), (.int (0) 0), (.int (0) 0), (.int (3) 0), (.ref 111), (.bool true), (.int (181) 0), (.ref 112), n, (.ref 113), (.ref 114), (.ref 115), (.int (312) 0), (.int (49) 0), (.str (o "/claim/cut.py") 313)].toArray, [].toArray⟩
noncomputable def ob_117_0 (_ : Params) : Obj := ⟨(.type "function"), .none, .func (f (sub 3 6) (o "_sub_mod_q") (o "GenericPolynomial._sub_mod_q") 3 [] n n n (.str (o "kyber_py.polynomials.polynomials_generic") 194) .none (.ref 116) n 0), [].toArray⟩
noncomputable def ob_118_0 (_ : Params) : Obj := ⟨(.type "tuple"), .none, .seq [].toArray 0, [].toArray⟩
noncomputable def ob_119_0 (_ : Params) : Obj := ⟨n, .none, .fields [].toArray, [].toArray⟩
noncomputable def ob_120_0 (_ : Params) : Obj := ⟨n, .none, .func (f (sub 3 7) (o "_schoolbook_multiplication") (o "GenericPolynomial._schoolbook_multiplication") 0 [] n n n n .none n n 0), [].toArray⟩
noncomputable def ob_121_0 (_ : Params) : Obj := ⟨(.type "code"), .none, .fields [(.str (o "_schoolbook_multiplication") 315), (.str (o "GenericPolynomial._schoolbook_multiplication") 316), (.str (o "/claim/cut.py") 317), (.int (52) 0), (.int (2) 0), (.int (0) 0), (.int (0) 0), (.int (3) 0), (.ref 118), (.bool true), (.int (181) 0), (.ref 119), n, n, n, (.ref 120), (.int (318) 0), (.int (52) 0), (.str (o "/claim/cut.py") 319)].toArray, [].toArray⟩
noncomputable def ob_122_0 (_ : Params) : Obj := ⟨(.type "function"), .none, .func (f (sub 3 7) (o "_schoolbook_multiplication") (o "GenericPolynomial._schoolbook_multiplication") 3 [] n n n (.str (o "kyber_py.polynomials.polynomials_generic") 194) .none (.ref 121) n 0), [].toArray⟩
noncomputable def ob_123_0 (_ : Params) : Obj := ⟨(.type "tuple"), .none, .seq [].toArray 0, [].toArray⟩
noncomputable def ob_124_0 (_ : Params) : Obj := ⟨n, .none, .fields [].toArray, [].toArray⟩
noncomputable def ob_125_0 (_ : Params) : Obj := ⟨n, .none, .func (f (sub 3 8) (o "__neg__") (o "GenericPolynomial.__neg__") 0 [] n n n n .none n n 0), [].toArray⟩
noncomputable def ob_126_0 (_ : Params) : Obj := ⟨(.type "code"), .none, .fields [(.str (o "__neg__") 321), (.str (o "GenericPolynomial.__neg__") 322), (.str (o "/claim/cut.py") 323), (.int (65) 0), (.int (1) 0), (.int (0) 0), (.int (0) 0), (.int (3) 0), (.ref 123), (.bool true), (.int (181) 0), (.ref 124), n, n, n, (.ref 125), (.int (324) 0), (.int (65) 0), (.str (o "/claim/cut.py") 325)].toArray, [].toArray⟩
noncomputable def ob_127_0 (_ : Params) : Obj := ⟨(.type "function"), .none, .func (f (sub 3 8) (o "__neg__") (o "GenericPolynomial.__neg__") 3 [] n n n (.str (o "kyber_py.polynomials.polynomials_generic") 194) .none (.ref 126) n 0), [].toArray⟩
noncomputable def ob_128_0 (_ : Params) : Obj := ⟨(.type "tuple"), .none, .seq [].toArray 0, [].toArray⟩
noncomputable def ob_129_0 (_ : Params) : Obj := ⟨n, .none, .fields [].toArray, [].toArray⟩
noncomputable def ob_130_0 (_ : Params) : Obj := ⟨n, .none, .func (f (sub 3 9) (o "_add_") (o "GenericPolynomial._add_") 0 [] n n n n .none n n 0), [].toArray⟩
noncomputable def ob_131_0 (_ : Params) : Obj := ⟨(.type "code"), .none, .fields [(.str (o "_add_") 327), (.str (o "GenericPolynomial._add_") 328), (.str (o "/claim/cut.py") 329), (.int (69) 0), (.int (2) 0), (.int (0) 0), (.int (0) 0), (.int (3) 0), (.ref 128), (.bool true), (.int (181) 0), (.ref 129), n, n, n, (.ref 130), (.int (330) 0), (.int (69) 0), (.str (o "/claim/cut.py") 331)].toArray, [].toArray⟩
noncomputable def ob_132_0 (_ : Params) : Obj := ⟨(.type "function"), .none, .func (f (sub 3 9) (o "_add_") (o "GenericPolynomial._add_") 3 [] n n n (.str (o "kyber_py.polynomials.polynomials_generic") 194) .none (.ref 131) n 0), [].toArray⟩
noncomputable def ob_133_0 (_ : Params) : Obj := ⟨(.type "tuple"), .none, .seq [].toArray 0, [].toArray⟩
noncomputable def ob_134_0 (_ : Params) : Obj := ⟨n, .none, .fields [].toArray, [].toArray⟩
noncomputable def ob_135_0 (_ : Params) : Obj := ⟨(.type "tuple"), .none, .seq [(.str (o "self") 336), (.str (o "other") 337), (.str (o "new_coeffs") 338)].toArray 0, [].toArray⟩
noncomputable def ob_136_0 (_ : Params) : Obj := ⟨(.type "tuple"), .none, .seq [].toArray 0, [].toArray⟩
noncomputable def ob_137_0 (_ : Params) : Obj := ⟨n, .none, .func (f (sub 3 10) (o "__add__") (o "GenericPolynomial.__add__") 0 [] n n n n .none n n 0), [].toArray⟩
noncomputable def ob_138_0 (_ : Params) : Obj := ⟨(.type "code"), .none, .fields [(.str (o "__add__") 333), (.str (o "GenericPolynomial.__add__") 334), (.str (o "/claim/cut.py") 335), (.int (79) 0), (.int (2) 0), (.int (0) 0), (.int (0) 0), (.int (3) 0), (.ref 133), (.bool true), (.int (181) 0), (.ref 134), n, (.ref 135), (.ref 136), (.ref 137), (.int (339) 0), (.int (79) 0), (.str (o "/claim/cut.py") 340)].toArray, [].toArray⟩
noncomputable def ob_139_0 (_ : Params) : Obj := ⟨(.type "function"), .none, .func (f (sub 3 10) (o "__add__") (o "GenericPolynomial.__add__") 3 [] n n n (.str (o "kyber_py.polynomials.polynomials_generic") 194) .none (.ref 138) n 0), [].toArray⟩
noncomputable def ob_140_0 (_ : Params) : Obj := ⟨(.type "tuple"), .none, .seq [].toArray 0, [].toArray⟩
noncomputable def ob_141_0 (_ : Params) : Obj := ⟨n, .none, .fields [].toArray, [].toArray⟩
noncomputable def ob_142_0 (_ : Params) : Obj := ⟨(.type "tuple"), .none, .seq [(.str (o "self") 345), (.str (o "other") 346)].toArray 0, [].toArray⟩
noncomputable def ob_143_0 (_ : Params) : Obj := ⟨(.type "tuple"), .none, .seq [].toArray 0, [].toArray⟩
noncomputable def ob_144_0 (_ : Params) : Obj := ⟨n, .none, .func (f (sub 3 11) (o "__radd__") (o "GenericPolynomial.__radd__") 0 [] n n n n .none n n 0), [].toArray⟩
noncomputable def ob_145_0 (_ : Params) : Obj := ⟨(.type "code"), .none, .fields [(.str (o "__radd__") 342), (.str (o "GenericPolynomial.__radd__") 343), (.str (o "/claim/cut.py") 344), (.int (83) 0), (.int (2) 0), (.int (0) 0), (.int (0) 0), (.int (3) 0), (.ref 140), (.bool true), (.int (181) 0), (.ref 141), n, (.ref 142), (.ref 143), (.ref 144), (.int (347) 0), (.int (83) 0), (.str (o "/claim/cut.py") 348)].toArray, [].toArray⟩
noncomputable def ob_146_0 (_ : Params) : Obj := ⟨(.type "function"), .none, .func (f (sub 3 11) (o "__radd__") (o "GenericPolynomial.__radd__") 3 [] n n n (.str (o "kyber_py.polynomials.polynomials_generic") 194) .none (.ref 145) n 0), [].toArray⟩
noncomputable def ob_147_0 (_ : Params) : Obj := ⟨(.type "tuple"), .none, .seq [].toArray 0, [].toArray⟩
noncomputable def ob_148_0 (_ : Params) : Obj := ⟨n, .none, .fields [].toArray, [].toArray⟩
noncomputable def ob_149_0 (_ : Params) : Obj := ⟨(.type "tuple"), .none, .seq [(.str (o "self") 353), (.str (o "other") 354)].toArray 0, [].toArray⟩
noncomputable def ob_150_0 (_ : Params) : Obj := ⟨(.type "tuple"), .none, .seq [].toArray 0, [].toArray⟩
noncomputable def ob_151_0 (_ : Params) : Obj := ⟨n, .none, .func (f (sub 3 12) (o "__iadd__") (o "GenericPolynomial.__iadd__") 0 [] n n n n .none n n 0), [].toArray⟩
noncomputable def ob_152_0 (_ : Params) : Obj := ⟨(.type "code"), .none, .fields [(.str (o "__iadd__") 350), (.str (o "GenericPolynomial.__iadd__") 351), (.str (o "/claim/cut.py") 352), (.int (86) 0), (.int (2) 0), (.int (0) 0), (.int (0) 0), (.int (3) 0), (.ref 147), (.bool true), (.int (181) 0), (.ref 148), n, (.ref 149), (.ref 150), (.ref 151), (.int (355) 0), (.int (86) 0), (.str (o "/claim/cut.py") 356)].toArray, [].toArray⟩
noncomputable def ob_153_0 (_ : Params) : Obj := ⟨(.type "function"), .none, .func (f (sub 3 12) (o "__iadd__") (o "GenericPolynomial.__iadd__") 3 [] n n n (.str (o "kyber_py.polynomials.polynomials_generic") 194) .none (.ref 152) n 0), [].toArray⟩
noncomputable def ob_154_0 (_ : Params) : Obj := ⟨(.type "tuple"), .none, .seq [].toArray 0, [].toArray⟩
noncomputable def ob_155_0 (_ : Params) : Obj := ⟨n, .none, .fields [].toArray, [].toArray⟩
noncomputable def ob_156_0 (_ : Params) : Obj := ⟨n, .none, .func (f (sub 3 13) (o "_sub_") (o "GenericPolynomial._sub_") 0 [] n n n n .none n n 0), [].toArray⟩
noncomputable def ob_157_0 (_ : Params) : Obj := ⟨(.type "code"), .none, .fields [(.str (o "_sub_") 358), (.str (o "GenericPolynomial._sub_") 359), (.str (o "/claim/cut.py") 360), (.int (90) 0), (.int (2) 0), (.int (0) 0), (.int (0) 0), (.int (3) 0), (.ref 154), (.bool true), (.int (181) 0), (.ref 155), n, n, n, (.ref 156), (.int (361) 0), (.int (90) 0), (.str (o "/claim/cut.py") 362)].toArray, [].toArray⟩
noncomputable def ob_158_0 (_ : Params) : Obj := ⟨(.type "function"), .none, .func (f (sub 3 13) (o "_sub_") (o "GenericPolynomial._sub_") 3 [] n n n (.str (o "kyber_py.polynomials.polynomials_generic") 194) .none (.ref 157) n 0), [].toArray⟩
noncomputable def ob_159_0 (_ : Params) : Obj := ⟨(.type "tuple"), .none, .seq [].toArray 0, [].toArray⟩
noncomputable def ob_160_0 (_ : Params) : Obj := ⟨n, .none, .fields [].toArray, [].toArray⟩
noncomputable def ob_161_0 (_ : Params) : Obj := ⟨(.type "tuple"), .none, .seq [(.str (o "self") 367), (.str (o "other") 368), (.str (o "new_coeffs") 369)].toArray 0, [].toArray⟩
noncomputable def ob_162_0 (_ : Params) : Obj := ⟨(.type "tuple"), .none, .seq [].toArray 0, [].toArray⟩
noncomputable def ob_163_0 (_ : Params) : Obj := ⟨n, .none, .func (f (sub 3 14) (o "__sub__") (o "GenericPolynomial.__sub__") 0 [] n n n n .none n n 0), [].toArray⟩
noncomputable def ob_164_0 (_ : Params) : Obj := ⟨(.type "code"), .none, .fields [(.str (o "__sub__") 364), (.str (o "GenericPolynomial.__sub__") 365), (.str (o "/claim/cut.py") 366), (.int (100) 0), (.int (2) 0), (.int (0) 0), (.int (0) 0), (.int (3) 0), (.ref 159), (.bool true), (.int (181) 0), (.ref 160), n, (.ref 161), (.ref 162), (.ref 163), (.int (370) 0), (.int (100) 0), (.str (o "/claim/cut.py") 371)].toArray, [].toArray⟩
noncomputable def ob_165_0 (_ : Params) : Obj := ⟨(.type "function"), .none, .func (f (sub 3 14) (o "__sub__") (o "GenericPolynomial.__sub__") 3 [] n n n (.str (o "kyber_py.polynomials.polynomials_generic") 194) .none (.ref 164) n 0), [].toArray⟩
noncomputable def ob_166_0 (_ : Params) : Obj := ⟨(.type "tuple"), .none, .seq [].toArray 0, [].toArray⟩
noncomputable def ob_167_0 (_ : Params) : Obj := ⟨n, .none, .fields [].toArray, [].toArray⟩
noncomputable def ob_168_0 (_ : Params) : Obj := ⟨(.type "tuple"), .none, .seq [(.str (o "self") 376), (.str (o "other") 377)].toArray 0, [].toArray⟩
noncomputable def ob_169_0 (_ : Params) : Obj := ⟨(.type "tuple"), .none, .seq [].toArray 0, [].toArray⟩
noncomputable def ob_170_0 (_ : Params) : Obj := ⟨n, .none, .func (f (sub 3 15) (o "__rsub__") (o "GenericPolynomial.__rsub__") 0 [] n n n n .none n n 0), [].toArray⟩
noncomputable def ob_171_0 (_ : Params) : Obj := ⟨(.type "code"), .none, .fields [(.str (o "__rsub__") 373), (.str (o "GenericPolynomial.__rsub__") 374), (.str (o "/claim/cut.py") 375), (.int (104) 0), (.int (2) 0), (.int (0) 0), (.int (0) 0), (.int (3) 0), (.ref 166), (.bool true), (.int (181) 0), (.ref 167), n, (.ref 168), (.ref 169), (.ref 170), (.int (378) 0), (.int (104) 0), (.str (o "/claim/cut.py") 379)].toArray, [].toArray⟩
noncomputable def ob_172_0 (_ : Params) : Obj := ⟨(.type "function"), .none, .func (f (sub 3 15) (o "__rsub__") (o "GenericPolynomial.__rsub__") 3 [] n n n (.str (o "kyber_py.polynomials.polynomials_generic") 194) .none (.ref 171) n 0), [].toArray⟩
noncomputable def ob_173_0 (_ : Params) : Obj := ⟨(.type "tuple"), .none, .seq [].toArray 0, [].toArray⟩
noncomputable def ob_174_0 (_ : Params) : Obj := ⟨n, .none, .fields [].toArray, [].toArray⟩
noncomputable def ob_175_0 (_ : Params) : Obj := ⟨(.type "tuple"), .none, .seq [(.str (o "self") 384), (.str (o "other") 385)].toArray 0, [].toArray⟩
noncomputable def ob_176_0 (_ : Params) : Obj := ⟨(.type "tuple"), .none, .seq [].toArray 0, [].toArray⟩
noncomputable def ob_177_0 (_ : Params) : Obj := ⟨n, .none, .func (f (sub 3 16) (o "__isub__") (o "GenericPolynomial.__isub__") 0 [] n n n n .none n n 0), [].toArray⟩
noncomputable def ob_178_0 (_ : Params) : Obj := ⟨(.type "code"), .none, .fields [(.str (o "__isub__") 381), (.str (o "GenericPolynomial.__isub__") 382), (.str (o "/claim/cut.py") 383), (.int (107) 0), (.int (2) 0), (.int (0) 0), (.int (0) 0), (.int (3) 0), (.ref 173), (.bool true), (.int (181) 0), (.ref 174), n, (.ref 175), (.ref 176), (.ref 177), (.int (386) 0), (.int (107) 0), (.str (o "/claim/cut.py") 387)].toArray, [].toArray⟩
noncomputable def ob_179_0 (_ : Params) : Obj := ⟨(.type "function"), .none, .func (f (sub 3 16) (o "__isub__") (o "GenericPolynomial.__isub__") 3 [] n n n (.str (o "kyber_py.polynomials.polynomials_generic") 194) .none (.ref 178) n 0), [].toArray⟩
noncomputable def ob_180_0 (_ : Params) : Obj := ⟨(.type "tuple"), .none, .seq [].toArray 0, [].toArray⟩
noncomputable def ob_181_0 (_ : Params) : Obj := ⟨n, .none, .fields [].toArray, [].toArray⟩
noncomputable def ob_182_0 (_ : Params) : Obj := ⟨n, .none, .func (f (sub 3 17) (o "__mul__") (o "GenericPolynomial.__mul__") 0 [] n n n n .none n n 0), [].toArray⟩
noncomputable def ob_183_0 (_ : Params) : Obj := ⟨(.type "code"), .none, .fields [(.str (o "__mul__") 389), (.str (o "GenericPolynomial.__mul__") 390), (.str (o "/claim/cut.py") 391), (.int (111) 0), (.int (2) 0), (.int (0) 0), (.int (0) 0), (.int (3) 0), (.ref 180), (.bool true), (.int (181) 0), (.ref 181), n, n, n, (.ref 182), (.int (392) 0), (.int (111) 0), (.str (o "/claim/cut.py") 393)].toArray, [].toArray⟩
noncomputable def ob_184_0 (_ : Params) : Obj := ⟨(.type "function"), .none, .func (f (sub 3 17) (o "__mul__") (o "GenericPolynomial.__mul__") 3 [] n n n (.str (o "kyber_py.polynomials.polynomials_generic") 194) .none (.ref 183) n 0), [].toArray⟩
noncomputable def ob_185_0 (_ : Params) : Obj := ⟨(.type "tuple"), .none, .seq [].toArray 0, [].toArray⟩
noncomputable def ob_186_0 (_ : Params) : Obj := ⟨n, .none, .fields [].toArray, [].toArray⟩
noncomputable def ob_187_0 (_ : Params) : Obj := ⟨(.type "tuple"), .none, .seq [(.str (o "self") 398), (.str (o "other") 399)].toArray 0, [].toArray⟩
noncomputable def ob_188_0 (_ : Params) : Obj := ⟨(.type "tuple"), .none, .seq [].toArray 0, [].toArray⟩
noncomputable def ob_189_0 (_ : Params) : Obj := ⟨n, .none, .func (f (sub 3 18) (o "__rmul__") (o "GenericPolynomial.__rmul__") 0 [] n n n n .none n n 0), [].toArray⟩
noncomputable def ob_190_0 (_ : Params) : Obj := ⟨(.type "code"), .none, .fields [(.str (o "__rmul__") 395), (.str (o "GenericPolynomial.__rmul__") 396), (.str (o "/claim/cut.py") 397), (.int (120) 0), (.int (2) 0), (.int (0) 0), (.int (0) 0), (.int (3) 0), (.ref 185), (.bool true), (.int (181) 0), (.ref 186), n, (.ref 187), (.ref 188), (.ref 189), (.int (400) 0), (.int (120) 0), (.str (o "/claim/cut.py") 401)].toArray, [].toArray⟩
noncomputable def ob_191_0 (_ : Params) : Obj := ⟨(.type "function"), .none, .func (f (sub 3 18) (o "__rmul__") (o "GenericPolynomial.__rmul__") 3 [] n n n (.str (o "kyber_py.polynomials.polynomials_generic") 194) .none (.ref 190) n 0), [].toArray⟩
noncomputable def ob_192_0 (_ : Params) : Obj := ⟨(.type "tuple"), .none, .seq [].toArray 0, [].toArray⟩
noncomputable def ob_193_0 (_ : Params) : Obj := ⟨n, .none, .fields [].toArray, [].toArray⟩
noncomputable def ob_194_0 (_ : Params) : Obj := ⟨(.type "tuple"), .none, .seq [(.str (o "self") 406), (.str (o "other") 407)].toArray 0, [].toArray⟩
noncomputable def ob_195_0 (_ : Params) : Obj := ⟨(.type "tuple"), .none, .seq [].toArray 0, [].toArray⟩
noncomputable def ob_196_0 (_ : Params) : Obj := ⟨n, .none, .func (f (sub 3 19) (o "__imul__") (o "GenericPolynomial.__imul__") 0 [] n n n n .none n n 0), [].toArray⟩
noncomputable def ob_197_0 (_ : Params) : Obj := ⟨(.type "code"), .none, .fields [(.str (o "__imul__") 403), (.str (o "GenericPolynomial.__imul__") 404), (.str (o "/claim/cut.py") 405), (.int (123) 0), (.int (2) 0), (.int (0) 0), (.int (0) 0), (.int (3) 0), (.ref 192), (.bool true), (.int (181) 0), (.ref 193), n, (.ref 194), (.ref 195), (.ref 196), (.int (408) 0), (.int (123) 0), (.str (o "/claim/cut.py") 409)].toArray, [].toArray⟩
noncomputable def ob_198_0 (_ : Params) : Obj := ⟨(.type "function"), .none, .func (f (sub 3 19) (o "__imul__") (o "GenericPolynomial.__imul__") 3 [] n n n (.str (o "kyber_py.polynomials.polynomials_generic") 194) .none (.ref 197) n 0), [].toArray⟩
noncomputable def ob_199_0 (_ : Params) : Obj := ⟨(.type "tuple"), .none, .seq [].toArray 0, [].toArray⟩
noncomputable def ob_200_0 (_ : Params) : Obj := ⟨n, .none, .fields [].toArray, [].toArray⟩
noncomputable def ob_201_0 (_ : Params) : Obj := ⟨(.type "tuple"), .none, .seq [(.str (o "self") 414), (.str (o "n") 415), (.str (o "f") 416), (.str (o "g") 417)].toArray 0, [].toArray⟩
noncomputable def ob_202_0 (_ : Params) : Obj := ⟨(.type "tuple"), .none, .seq [].toArray 0, [].toArray⟩
noncomputable def ob_203_0 (_ : Params) : Obj := ⟨n, .none, .func (f (sub 3 20) (o "__pow__") (o "GenericPolynomial.__pow__") 0 [] n n n n .none n n 0), [].toArray⟩
noncomputable def ob_204_0 (_ : Params) : Obj := ⟨(.type "code"), .none, .fields [(.str (o "__pow__") 411), (.str (o "GenericPolynomial.__pow__") 412), (.str (o "/claim/cut.py") 413), (.int (127) 0), (.int (2) 0), (.int (0) 0), (.int (0) 0), (.int (3) 0), (.ref 199), (.bool true), (.int (181) 0), (.ref 200), n, (.ref 201), (.ref 202), (.ref 203), (.int (418) 0), (.int (127) 0), (.str (o "/claim/cut.py") 419)].toArray, [].toArray⟩
noncomputable def ob_205_0 (_ : Params) : Obj := ⟨(.type "function"), .none, .func (f (sub 3 20) (o "__pow__") (o "GenericPolynomial.__pow__") 3 [] n n n (.str (o "kyber_py.polynomials.polynomials_generic") 194) .none (.ref 204) n 0), [].toArray⟩
noncomputable def ob_206_0 (_ : Params) : Obj := ⟨(.type "tuple"), .none, .seq [].toArray 0, [].toArray⟩
noncomputable def ob_207_0 (_ : Params) : Obj := ⟨n, .none, .fields [].toArray, [].toArray⟩
noncomputable def ob_208_0 (_ : Params) : Obj := ⟨(.type "tuple"), .none, .seq [(.str (o "self") 424), (.str (o "other") 425)].toArray 0, [].toArray⟩
noncomputable def ob_209_0 (_ : Params) : Obj := ⟨(.type "tuple"), .none, .seq [].toArray 0, [].toArray⟩
noncomputable def ob_210_0 (_ : Params) : Obj := ⟨n, .none, .func (f (sub 3 21) (o "__eq__") (o "GenericPolynomial.__eq__") 0 [] n n n n .none n n 0), [].toArray⟩
noncomputable def ob_211_0 (_ : Params) : Obj := ⟨(.type "code"), .none, .fields [(.str (o "__eq__") 421), (.str (o "GenericPolynomial.__eq__") 422), (.str (o "/claim/cut.py") 423), (.int (141) 0), (.int (2) 0), (.int (0) 0), (.int (0) 0), (.int (3) 0), (.ref 206), (.bool true), (.int (181) 0), (.ref 207), n, (.ref 208), (.ref 209), (.ref 210), (.int (426) 0), (.int (141) 0), (.str (o "/claim/cut.py") 427)].toArray, [].toArray⟩
noncomputable def ob_212_0 (_ : Params) : Obj := ⟨(.type "function"), .none, .func (f (sub 3 21) (o "__eq__") (o "GenericPolynomial.__eq__") 3 [] n n n (.str (o "kyber_py.polynomials.polynomials_generic") 194) .none (.ref 211) n 0), [].toArray⟩
noncomputable def ob_213_0 (_ : Params) : Obj := ⟨(.type "tuple"), .none, .seq [].toArray 0, [].toArray⟩
noncomputable def ob_214_0 (_ : Params) : Obj := ⟨n, .none, .fields [].toArray, [].toArray⟩
noncomputable def ob_215_0 (_ : Params) : Obj := ⟨(.type "tuple"), .none, .seq [(.str (o "self") 432), (.str (o "idx") 433)].toArray 0, [].toArray⟩
noncomputable def ob_216_0 (_ : Params) : Obj := ⟨(.type "tuple"), .none, .seq [].toArray 0, [].toArray⟩
noncomputable def ob_217_0 (_ : Params) : Obj := ⟨n, .none, .func (f (sub 3 22) (o "__getitem__") (o "GenericPolynomial.__getitem__") 0 [] n n n n .none n n 0), [].toArray⟩
noncomputable def ob_218_0 (_ : Params) : Obj := ⟨(.type "code"), .none, .fields [(.str (o "__getitem__") 429), (.str (o "GenericPolynomial.__getitem__") 430), (.str (o "/claim/cut.py") 431), (.int (149) 0), (.int (2) 0), (.int (0) 0), (.int (0) 0), (.int (3) 0), (.ref 213), (.bool true), (.int (181) 0), (.ref 214), n, (.ref 215), (.ref 216), (.ref 217), (.int (434) 0), (.int (149) 0), (.str (o "/claim/cut.py") 435)].toArray, [].toArray⟩
noncomputable def ob_219_0 (_ : Params) : Obj := ⟨(.type "function"), .none, .func (f (sub 3 22) (o "__getitem__") (o "GenericPolynomial.__getitem__") 3 [] n n n (.str (o "kyber_py.polynomials.polynomials_generic") 194) .none (.ref 218) n 0), [].toArray⟩
noncomputable def ob_220_0 (_ : Params) : Obj := ⟨(.type "tuple"), .none, .seq [(.str (o "coeffs") 437), (.str (o "parent") 438)].toArray 0, [].toArray⟩
noncomputable def ob_221_0 (P : Params) : Obj := ⟨(.type "dict"), .none, .dict [e P (o "__module__") 256 (.str (o "kyber_py.polynomials.polynomials_generic") 194), e P (o "__firstlineno__") 260 (.int (23) 259), e P (o "__init__") 269 (.ref 77), e P (o "is_zero") 276 (.ref 84), e P (o "is_constant") 283 (.ref 91), e P (o "_parse_coefficients") 289 (.ref 96), e P (o "reduce_coefficients") 296 (.ref 103), e P (o "_add_mod_q") 305 (.ref 110), e P (o "_sub_mod_q") 314 (.ref 117), e P (o "_schoolbook_multiplication") 320 (.ref 122), e P (o "__neg__") 326 (.ref 127), e P (o "_add_") 332 (.ref 132), e P (o "__add__") 341 (.ref 139), e P (o "__radd__") 349 (.ref 146), e P (o "__iadd__") 357 (.ref 153), e P (o "_sub_") 363 (.ref 158), e P (o "__sub__") 372 (.ref 165), e P (o "__rsub__") 380 (.ref 172), e P (o "__isub__") 388 (.ref 179), e P (o "__mul__") 394 (.ref 184), e P (o "__rmul__") 402 (.ref 191), e P (o "__imul__") 410 (.ref 198), e P (o "__pow__") 420 (.ref 205), e P (o "__eq__") 428 (.ref 212), e P (o "__getitem__") 436 (.ref 219), e P (o "__static_attributes__") 439 (.ref 220), e P (o "__dict__") 441 (.ref 223), e P (o "__weakref__") 443 (.ref 224), e P (o "__doc__") 444 n, e P (o "__hash__") 445 n].toArray 5, [].toArray⟩
noncomputable def ob_222_0 (_ : Params) : Obj := ⟨(.type "type"), .none, .cls ⟨(o "GenericPolynomial"), [(.type "object")], [(.ref 222), (.type "object")], 221, (o "GenericPolynomial"), true, [], [], false, .none, false⟩, [.none, .none, (.some (.str (o "GenericPolynomial") 249)), (.some (.str (o "GenericPolynomial") 257)), (.some (.builtin "object.__new__")), (.some (.bool true))].toArray⟩
noncomputable def ob_223_0 (_ : Params) : Obj := ⟨(.type "getset_descriptor"), .none, .fields [(.str (o "__dict__") 440), (.ref 222), (.builtin "function.__dict__"), (.builtin "function.__dict__#set")].toArray, [].toArray⟩
noncomputable def ob_224_0 (_ : Params) : Obj := ⟨(.type "getset_descriptor"), .none, .fields [(.str (o "__weakref__") 442), (.ref 222), (.builtin "ExceptionGroup.__weakref__"), n].toArray, [].toArray⟩
noncomputable def ob_225_0 (_ : Params) : Obj := ⟨(.type "super"), .none, .fields [(.ref 222), (.ref 222), (.ref 222)].toArray, [].toArray⟩
noncomputable def ob_226_0 (_ : Params) : Obj := ⟨(.type "builtin_function_or_method"), .none, .fields [(.builtin "object.__init_subclass__"), (.ref 222)].toArray, [].toArray⟩
noncomputable def hp_3 (P : Params) : Heap := ⟨Array.mk (boot_o_0 P :: boot_o_1 P :: boot_o_2 P :: ob_3_2 P :: boot_o_4 P :: boot_o_5 P :: boot_o_6 P :: boot_o_7 P :: boot_o_8 P :: boot_o_9 P :: boot_o_10 P :: ob_11_0 P :: ob_12_2 P :: ob_13_0 P :: ob_14_0 P :: ob_15_0 P :: ob_16_0 P :: ob_17_0 P :: ob_18_0 P :: ob_19_0 P :: ob_20_0 P :: ob_21_0 P :: ob_22_0 P :: ob_23_0 P :: ob_24_0 P :: ob_25_0 P :: ob_26_0 P :: ob_27_0 P :: ob_28_0 P :: ob_29_0 P :: ob_30_0 P :: ob_31_0 P :: ob_32_0 P :: ob_33_0 P :: ob_34_0 P :: ob_35_0 P :: ob_36_0 P :: ob_37_0 P :: ob_38_0 P :: ob_39_0 P :: ob_40_0 P :: ob_41_0 P :: ob_42_0 P :: ob_43_0 P :: ob_44_0 P :: ob_45_0 P :: ob_46_0 P :: ob_47_0 P :: ob_48_0 P :: ob_49_0 P :: ob_50_0 P :: ob_51_0 P :: ob_52_0 P :: ob_53_0 P :: ob_54_0 P :: ob_55_0 P :: ob_56_0 P :: ob_57_0 P :: ob_58_0 P :: ob_59_0 P :: ob_60_0 P :: ob_61_0 P :: ob_62_0 P :: ob_63_0 P :: ob_64_0 P :: ob_65_0 P :: ob_66_0 P :: ob_67_0 P :: ob_68_0 P :: ob_69_0 P :: ob_70_0 P :: ob_71_0 P :: ob_72_0 P :: ob_73_0 P :: ob_74_0 P :: ob_75_0 P :: ob_76_0 P :: ob_77_0 P :: ob_78_0 P :: ob_79_0 P :: ob_80_0 P :: ob_81_0 P :: ob_82_0 P :: ob_83_0 P :: ob_84_0 P :: ob_85_0 P :: ob_86_0 P :: ob_87_0 P :: ob_88_0 P :: ob_89_0 P :: ob_90_0 P :: ob_91_0 P :: ob_92_0 P :: ob_93_0 P :: ob_94_0 P :: ob_95_0 P :: ob_96_0 P :: ob_97_0 P :: ob_98_0 P :: ob_99_0 P :: ob_100_0 P :: ob_101_0 P :: ob_102_0 P :: ob_103_0 P :: ob_104_0 P :: ob_105_0 P :: ob_106_0 P :: ob_107_0 P :: ob_108_0 P :: ob_109_0 P :: ob_110_0 P :: ob_111_0 P :: ob_112_0 P :: ob_113_0 P :: ob_114_0 P :: ob_115_0 P :: ob_116_0 P :: ob_117_0 P :: ob_118_0 P :: ob_119_0 P :: ob_120_0 P :: ob_121_0 P :: ob_122_0 P :: ob_123_0 P :: ob_124_0 P :: ob_125_0 P :: ob_126_0 P :: ob_127_0 P :: ob_128_0 P :: ob_129_0 P :: ob_130_0 P :: ob_131_0 P :: ob_132_0 P :: ob_133_0 P :: ob_134_0 P :: ob_135_0 P :: ob_136_0 P :: ob_137_0 P :: ob_138_0 P :: ob_139_0 P :: ob_140_0 P :: ob_141_0 P :: ob_142_0 P :: ob_143_0 P :: ob_144_0 P :: ob_145_0 P :: ob_146_0 P :: ob_147_0 P :: ob_148_0 P :: ob_149_0 P :: ob_150_0 P :: ob_151_0 P :: ob_152_0 P :: ob_153_0 P :: ob_154_0 P :: ob_155_0 P :: ob_156_0 P :: ob_157_0 P :: ob_158_0 P :: ob_159_0 P :: ob_160_0 P :: ob_161_0 P :: ob_162_0 P :: ob_163_0 P :: ob_164_0 P :: ob_165_0 P :: ob_166_0 P :: ob_167_0 P :: ob_168_0 P :: ob_169_0 P :: ob_170_0 P :: ob_171_0 P :: ob_172_0 P :: ob_173_0 P :: ob_174_0 P :: ob_175_0 P :: ob_176_0 P :: ob_177_0 P :: ob_178_0 P :: ob_179_0 P :: ob_180_0 P :: ob_181_0 P :: ob_182_0 P :: ob_183_0 P :: ob_184_0 P :: ob_185_0 P :: ob_186_0 P :: ob_187_0 P :: ob_188_0 P :: ob_189_0 P :: ob_190_0 P :: ob_191_0 P :: ob_192_0 P :: ob_193_0 P :: ob_194_0 P :: ob_195_0 P :: ob_196_0 P :: ob_197_0 P :: ob_198_0 P :: ob_199_0 P :: ob_200_0 P :: ob_201_0 P :: ob_202_0 P :: ob_203_0 P :: ob_204_0 P :: ob_205_0 P :: ob_206_0 P :: ob_207_0 P :: ob_208_0 P :: ob_209_0 P :: ob_210_0 P :: ob_211_0 P :: ob_212_0 P :: ob_213_0 P :: ob_214_0 P :: ob_215_0 P :: ob_216_0 P :: ob_217_0 P :: ob_218_0 P :: ob_219_0 P :: ob_220_0 P :: ob_221_0 P :: ob_222_0 P :: ob_223_0 P :: ob_224_0 P :: ob_225_0 P :: ob_226_0 P :: []), { }⟩
noncomputable def ob_3_3 (P : Params) : Obj := ⟨(.type "dict"), .none, .dict [e P (o "__name__") 165 (.str (o "kyber_py.polynomials.polynomials") 448), e P (o "__doc__") 166 n, e P (o "__package__") 167 n, e P (o "__loader__") 168 (.builtin "__main__.__loader__#opaque"), e P (o "__spec__") 169 n, e P (o "__annotations__") 170 (.ref 6), e P (o "__builtins__") 171 (.ref 4), e P (o "__file__") 173 (.str (o "/claim/cut.py") 172), e P (o "__cached__") 174 n, e P (o "_wall") 193 (.ref 21), e P (o "GenericPolynomialRing") 248 (.ref 59), e P (o "GenericPolynomial") 447 (.ref 222), e P (o "PolynomialRing") 533 (.ref 282)].toArray 13, [].toArray⟩
noncomputable def ob_12_3 (_ : Params) : Obj := ⟨n, .none, .fields [(.int (1) 0), (.int (0) 0), (.ref 20), (.int (5) 0), (.int (0) 0), (.ref 27), (.int (23) 0), (.int (0) 0), (.ref 69), (.int (152) 0), (.int (0) 0), (.ref 232)].toArray, [].toArray⟩
noncomputable def ob_59_1 (_ : Params) : Obj := ⟨(.type "type"), .none, .cls ⟨(o "GenericPolynomialRing"), [(.type "object")], [(.ref 59), (.type "object")], 58, (o "GenericPolynomialRing"), true, [], [(.ref 282)], false, .none, false⟩, [.none, .none, (.some (.str (o "GenericPolynomialRing") 196)), (.some (.str (o "GenericPolynomialRing") 204)), (.some (.builtin "object.__new__")), (.some (.bool true))].toArray⟩
noncomputable def ob_227_0 (_ : Params) : Obj := ⟨(.type "tuple"), .none, .seq [(.ref 59)].toArray 0, [].toArray⟩
noncomputable def ob_228_0 (_ : Params) : Obj := ⟨(.type "builtin_function_or_method"), .none, .fields [(.builtin "type.__prepare__"), (.type "type")].toArray, [].toArray⟩
noncomputable def ob_229_0 (P : Params) : Obj := ⟨(.type "dict"), .none, .dict [e P (o "__module__") 457 (.str (o "kyber_py.polynomials.polynomials") 448), e P (o "__qualname__") 459 (.str (o "PolynomialRing") 458), e P (o "__firstlineno__") 461 (.int (152) 460), e P (o "__init__") 467 (.ref 238), e P (o "_br") 488 (.ref 247), e P (o "ntt_sample") 496 (.ref 255), e P (o "cbd") 506 (.ref 263), e P (o "decode") 516 (.ref 271), e P (o "__call__") 525 (.ref 279), e P (o "__static_attributes__") 530 (.ref 280)].toArray 10, [].toArray⟩
noncomputable def ob_230_0 (_ : Params) : Obj := ⟨(.type "tuple"), .none, .seq [].toArray 0, [].toArray⟩
noncomputable def ob_231_0 (_ : Params) : Obj := ⟨n, .none, .fields [(.int (154) 0), (.int (4) 0), (.ref 237), (.int (162) 0), (.int (4) 0), (.ref 244), (.int (166) 0), (.int (4) 0), (.ref 254), (.int (169) 0), (.int (4) 0), (.ref 262), (.int (172) 0), (.int (4) 0), (.ref 270), (.int (175) 0), (.int (4) 0), (.ref 278)].toArray, [].toArray⟩
noncomputable def ob_232_0 (_ : Params) : Obj := ⟨(.type "code"), .none, .fields [(.str (o "PolynomialRing") 452), (.str (o "PolynomialRing") 453), (.str (o "/claim/cut.py") 454), (.int (152) 0), (.int (0) 0), (.int (0) 0), (.int (0) 0), (.int (0) 0), (.ref 230), (.bool false), (.int (181) 0), (.ref 231), n, n, n, n, (.int (455) 0), (.int (152) 0), (.str (o "/claim/cut.py") 456)].toArray, [].toArray⟩
noncomputable def ob_233_0 (_ : Params) : Obj := ⟨(.type "frame"), .none, .plain, [(.some (.ref 232)), (.some (.ref 3)), (.some (.ref 229)), .none, (.some (.str (o "kyber_py.polynomials.polynomials") 448)), .none, (.some (.ref 0))].toArray⟩
noncomputable def ob_234_0 (_ : Params) : Obj := ⟨(.type "tuple"), .none, .seq [].toArray 0, [].toArray⟩
noncomputable def ob_235_0 (_ : Params) : Obj := ⟨n, .none, .fields [].toArray, [].toArray⟩
noncomputable def ob_236_0 (_ : Params) : Obj := ⟨n, .none, .func (f (sub 5 0) (o "__init__") (o "PolynomialRing.__init__") 0 [] n n n n .none n n 0), [].toArray⟩
noncomputable def ob_237_0 (_ : Params) : Obj := ⟨(.type "code"), .none, .fields [(.str (o "__init__") 462), (.str (o "PolynomialRing.__init__") 463), (.str (o "/claim/cut.py") 464), (.int (154) 0), (.int (1) 0), (.int (0) 0), (.int (0) 0), (.int (3) 0), (.ref 234), (.bool true), (.int (181) 0), (.ref 235), n, n, n, (.ref 236), (.int (465) 0), (.int (154) 0), (.str (o "/claim/cut.py") 466)].toArray, [].toArray⟩
noncomputable def ob_238_0 (_ : Params) : Obj := ⟨(.type "function"), .none, .func (f (sub 5 0) (o "__init__") (o "PolynomialRing.__init__") 3 [] n n n (.str (o "kyber_py.polynomials.polynomials") 448) .none (.ref 237) n 0), [].toArray⟩
noncomputable def ob_239_0 (_ : Params) : Obj := ⟨(.type "tuple"), .none, .seq [].toArray 0, [].toArray⟩
noncomputable def ob_240_0 (_ : Params) : Obj := ⟨n, .none, .fields [].toArray, [].toArray⟩
noncomputable def ob_241_0 (_ : Params) : Obj := ⟨(.type "tuple"), .none, .seq [(.str (o "i") 471), (.str (o "k") 472), (.str (o "bin_i") 473)].toArray 0, [].toArray⟩
noncomputable def ob_242_0 (_ : Params) : Obj := ⟨(.type "tuple"), .none, .seq [].toArray 0, [].toArray⟩
noncomputable def ob_243_0 (_ : Params) : Obj := ⟨n, .none, .func (f (sub 5 1) (o "_br") (o "PolynomialRing._br") 0 [] n n n n .none n n 0), [].toArray⟩
noncomputable def ob_244_0 (_ : Params) : Obj := ⟨(.type "code"), .none, .fields [(.str (o "_br") 468), (.str (o "PolynomialRing._br") 469), (.str (o "/claim/cut.py") 470), (.int (161) 0), (.int (2) 0), (.int (0) 0), (.int (0) 0), (.int (3) 0), (.ref 239), (.bool true), (.int (181) 0), (.ref 240), n, (.ref 241), (.ref 242), (.ref 243), (.int (474) 0), (.int (161) 0), (.str (o "/claim/cut.py") 475)].toArray, [].toArray⟩
noncomputable def ob_245_0 (_ : Params) : Obj := ⟨(.type "function"), .none, .func (f (sub 5 1) (o "_br") (o "PolynomialRing._br") 3 [] n n n (.str (o "kyber_py.polynomials.polynomials") 448) (.some 248) (.ref 244) n 0), [].toArray⟩
noncomputable def ob_246_0 (P : Params) : Obj := ⟨(.type "dict"), .none, .dict [e P (o "__module__") 477 (.str (o "kyber_py.polynomials.polynomials") 448), e P (o "__name__") 480 (.str (o "_br") 479), e P (o "__qualname__") 483 (.str (o "PolynomialRing._br") 482), e P (o "__doc__") 485 n, e P (o "__annotations__") 487 (.ref 248)].toArray 5, [].toArray⟩
noncomputable def ob_247_0 (_ : Params) : Obj := ⟨(.type "staticmethod"), (.some 246), .fields [(.ref 245), (.bool false)].toArray, [].toArray⟩
noncomputable def ob_248_0 (_ : Params) : Obj := ⟨(.type "dict"), .none, .dict [].toArray 0, [].toArray⟩
noncomputable def ob_249_0 (_ : Params) : Obj := ⟨(.type "tuple"), .none, .seq [].toArray 0, [].toArray⟩
noncomputable def ob_250_0 (_ : Params) : Obj := ⟨n, .none, .fields [].toArray, [].toArray⟩
noncomputable def ob_251_0 (_ : Params) : Obj := ⟨(.type "tuple"), .none, .seq [(.str (o "self") 492), (.str (o "input_bytes") 493)].toArray 0, [].toArray⟩
noncomputable def ob_252_0 (_ : Params) : Obj := ⟨(.type "tuple"), .none, .seq [].toArray 0, [].toArray⟩
noncomputable def ob_253_0 (_ : Params) : Obj := ⟨n, .none, .func (f (sub 5 2) (o "ntt_sample") (o "PolynomialRing.ntt_sample") 0 [] n n n n .none n n 0), [].toArray⟩
noncomputable def ob_254_0 (_ : Params) : Obj := ⟨(.type "code"), .none, .fields [(.str (o "ntt_sample") 489), (.str (o "PolynomialRing.ntt_sample") 490), (.str (o "/claim/cut.py") 491), (.int (166) 0), (.int (2) 0), (.int (0) 0), (.int (0) 0), (.int (3) 0), (.ref 249), (.bool true), (.int (181) 0), (.ref 250), n, (.ref 251), (.ref 252), (.ref 253), (.int (494) 0), (.int (166) 0), (.str (o "/claim/cut.py") 495)].toArray, [].toArray⟩
noncomputable def ob_255_0 (_ : Params) : Obj := ⟨(.type "function"), .none, .func (f (sub 5 2) (o "ntt_sample") (o "PolynomialRing.ntt_sample") 3 [] n n n (.str (o "kyber_py.polynomials.polynomials") 448) .none (.ref 254) n 0), [].toArray⟩
noncomputable def ob_256_0 (_ : Params) : Obj := ⟨(.type "tuple"), .none, .seq [(.bool false)].toArray 0, [].toArray⟩
noncomputable def ob_257_0 (_ : Params) : Obj := ⟨(.type "tuple"), .none, .seq [].toArray 0, [].toArray⟩
noncomputable def ob_258_0 (_ : Params) : Obj := ⟨n, .none, .fields [].toArray, [].toArray⟩
noncomputable def ob_259_0 (_ : Params) : Obj := ⟨(.type "tuple"), .none, .seq [(.str (o "self") 500), (.str (o "input_bytes") 501), (.str (o "eta") 502), (.str (o "is_ntt") 503)].toArray 0, [].toArray⟩
noncomputable def ob_260_0 (_ : Params) : Obj := ⟨(.type "tuple"), .none, .seq [].toArray 0, [].toArray⟩
noncomputable def ob_261_0 (_ : Params) : Obj := ⟨n, .none, .func (f (sub 5 3) (o "cbd") (o "PolynomialRing.cbd") 0 [] n n n n .none n n 0), [].toArray⟩
noncomputable def ob_262_0 (_ : Params) : Obj := ⟨(.type "code"), .none, .fields [(.str (o "cbd") 497), (.str (o "PolynomialRing.cbd") 498), (.str (o "/claim/cut.py") 499), (.int (169) 0), (.int (4) 0), (.int (0) 0), (.int (0) 0), (.int (3) 0), (.ref 257), (.bool true), (.int (181) 0), (.ref 258), n, (.ref 259), (.ref 260), (.ref 261), (.int (504) 0), (.int (169) 0), (.str (o "/claim/cut.py") 505)].toArray, [].toArray⟩
noncomputable def ob_263_0 (_ : Params) : Obj := ⟨(.type "function"), .none, .func (f (sub 5 3) (o "cbd") (o "PolynomialRing.cbd") 3 [] (.ref 256) n n (.str (o "kyber_py.polynomials.polynomials") 448) .none (.ref 262) n 0), [].toArray⟩
noncomputable def ob_264_0 (_ : Params) : Obj := ⟨(.type "tuple"), .none, .seq [(.bool false)].toArray 0, [].toArray⟩
noncomputable def ob_265_0 (_ : Params) : Obj := ⟨(.type "tuple"), .none, .seq [].toArray 0, [].toArray⟩
noncomputable def ob_266_0 (_ : Params) : Obj := ⟨n, .none, .fields [].toArray, [].toArray⟩
noncomputable def ob_267_0 (_ : Params) : Obj := ⟨(.type "tuple"), .none, .seq [(.str (o "self") 510), (.str (o "input_bytes") 511), (.str (o "d") 512), (.str (o "is_ntt") 513)].toArray 0, [].toArray⟩
noncomputable def ob_268_0 (_ : Params) : Obj := ⟨(.type "tuple"), .none, .seq [].toArray 0, [].toArray⟩
noncomputable def ob_269_0 (_ : Params) : Obj := ⟨n, .none, .func (f (sub 5 4) (o "decode") (o "PolynomialRing.decode") 0 [] n n n n .none n n 0), [].toArray⟩
noncomputable def ob_270_0 (_ : Params) : Obj := ⟨(.type "code"), .none, .fields [(.str (o "decode") 507), (.str (o "PolynomialRing.decode") 508), (.str (o "/claim/cut.py") 509), (.int (172) 0), (.int (4) 0), (.int (0) 0), (.int (0) 0), (.int (3) 0), (.ref 265), (.bool true), (.int (181) 0), (.ref 266), n, (.ref 267), (.ref 268), (.ref 269), (.int (514) 0), (.int (172) 0), (.str (o "/claim/cut.py") 515)].toArray, [].toArray⟩
noncomputable def ob_271_0 (_ : Params) : Obj := ⟨(.type "function"), .none, .func (f (sub 5 4) (o "decode") (o "PolynomialRing.decode") 3 [] (.ref 264) n n (.str (o "kyber_py.polynomials.polynomials") 448) .none (.ref 270) n 0), [].toArray⟩
noncomputable def ob_272_0 (_ : Params) : Obj := ⟨(.type "tuple"), .none, .seq [(.bool false)].toArray 0, [].toArray⟩
noncomputable def ob_273_0 (_ : Params) : Obj := ⟨(.type "tuple"), .none, .seq [].toArray 0, [].toArray⟩
noncomputable def ob_274_0 (_ : Params) : Obj := ⟨n, .none, .fields [].toArray, [].toArray⟩
noncomputable def ob_275_0 (_ : Params) : Obj := ⟨(.type "tuple"), .none, .seq [(.str (o "self") 520), (.str (o "coefficients") 521), (.str (o "is_ntt") 522)].toArray 0, [].toArray⟩
noncomputable def ob_276_0 (_ : Params) : Obj := ⟨(.type "tuple"), .none, .seq [].toArray 0, [].toArray⟩
noncomputable def ob_277_0 (_ : Params) : Obj := ⟨n, .none, .func (f (sub 5 5) (o "__call__") (o "PolynomialRing.__call__") 0 [] n n n n .none n n 0), [].toArray⟩
noncomputable def ob_278_0 (_ : Params) : Obj := ⟨(.type "code"), .none, .fields [(.str (o "__call__") 517), (.str (o "PolynomialRing.__call__") 518), (.str (o "/claim/cut.py") 519), (.int (175) 0), (.int (3) 0), (.int (0) 0), (.int (0) 0), (.int (3) 0), (.ref 273), (.bool true), (.int (181) 0), (.ref 274), n, (.ref 275), (.ref 276), (.ref 277), (.int (523) 0), (.int (175) 0), (.str (o "/claim/cut.py") 524)].toArray, [].toArray⟩
noncomputable def ob_279_0 (_ : Params) : Obj := ⟨(.type "function"), .none, .func (f (sub 5 5) (o "__call__") (o "PolynomialRing.__call__") 3 [] (.ref 272) n n (.str (o "kyber_py.polynomials.polynomials") 448) .none (.ref 278) n 0), [].toArray⟩
noncomputable def ob_280_0 (_ : Params) : Obj := ⟨(.type "tuple"), .none, .seq [(.str (o "n") 526), (.str (o "ntt_f") 527), (.str (o "ntt_zetas") 528), (.str (o "q") 529)].toArray 0, [].toArray⟩
noncomputable def ob_281_0 (P : Params) : Obj := ⟨(.type "dict"), .none, .dict [e P (o "__module__") 457 (.str (o "kyber_py.polynomials.polynomials") 448), e P (o "__firstlineno__") 461 (.int (152) 460), e P (o "__init__") 467 (.ref 238), e P (o "_br") 488 (.ref 247), e P (o "ntt_sample") 496 (.ref 255), e P (o "cbd") 506 (.ref 263), e P (o "decode") 516 (.ref 271), e P (o "__call__") 525 (.ref 279), e P (o "__static_attributes__") 530 (.ref 280), e P (o "__doc__") 531 n].toArray 2, [].toArray⟩
noncomputable def ob_282_0 (_ : Params) : Obj := ⟨(.type "type"), .none, .cls ⟨(o "PolynomialRing"), [(.ref 59)], [(.ref 282), (.ref 59), (.type "object")], 281, (o "PolynomialRing"), true, [], [], false, .none, false⟩, [(.some (.ref 227)), .none, (.some (.str (o "PolynomialRing") 450)), (.some (.str (o "PolynomialRing") 458)), (.some (.builtin "object.__new__")), (.some (.bool true))].toArray⟩
noncomputable def ob_283_0 (_ : Params) : Obj := ⟨(.type "super"), .none, .fields [(.ref 282), (.ref 282), (.ref 282)].toArray, [].toArray⟩
noncomputable def ob_284_0 (_ : Params) : Obj := ⟨(.type "builtin_function_or_method"), .none, .fields [(.builtin "object.__init_subclass__"), (.ref 282)].toArray, [].toArray⟩
noncomputable def hp_5 (P : Params) : Heap := ⟨Array.mk (boot_o_0 P :: boot_o_1 P :: boot_o_2 P :: ob_3_3 P :: boot_o_4 P :: boot_o_5 P :: boot_o_6 P :: boot_o_7 P :: boot_o_8 P :: boot_o_9 P :: boot_o_10 P :: ob_11_0 P :: ob_12_3 P :: ob_13_0 P :: ob_14_0 P :: ob_15_0 P :: ob_16_0 P :: ob_17_0 P :: ob_18_0 P :: ob_19_0 P :: ob_20_0 P :: ob_21_0 P :: ob_22_0 P :: ob_23_0 P :: ob_24_0 P :: ob_25_0 P :: ob_26_0 P :: ob_27_0 P :: ob_28_0 P :: ob_29_0 P :: ob_30_0 P :: ob_31_0 P :: ob_32_0 P :: ob_33_0 P :: ob_34_0 P :: ob_35_0 P :: ob_36_0 P :: ob_37_0 P :: ob_38_0 P :: ob_39_0 P :: ob_40_0 P :: ob_41_0 P :: ob_42_0 P :: ob_43_0 P :: ob_44_0 P :: ob_45_0 P :: ob_46_0 P :: ob_47_0 P :: ob_48_0 P :: ob_49_0 P :: ob_50_0 P :: ob_51_0 P :: ob_52_0 P :: ob_53_0 P :: ob_54_0 P :: ob_55_0 P :: ob_56_0 P :: ob_57_0 P :: ob_58_0 P :: ob_59_1 P :: ob_60_0 P :: ob_61_0 P :: ob_62_0 P :: ob_63_0 P :: ob_64_0 P :: ob_65_0 P :: ob_66_0 P :: ob_67_0 P :: ob_68_0 P :: ob_69_0 P :: ob_70_0 P :: ob_71_0 P :: ob_72_0 P :: ob_73_0 P :: ob_74_0 P :: ob_75_0 P :: ob_76_0 P :: ob_77_0 P :: ob_78_0 P :: ob_79_0 P :: ob_80_0 P :: ob_81_0 P :: ob_82_0 P :: ob_83_0 P :: ob_84_0 P :: ob_85_0 P :: ob_86_0 P :: ob_87_0 P :: ob_88_0 P :: ob_89_0 P :: ob_90_0 P :: ob_91_0 P :: ob_92_0 P :: ob_93_0 P :: ob_94_0 P :: ob_95_0 P :: ob_96_0 P :: ob_97_0 P :: ob_98_0 P :: ob_99_0 P :: ob_100_0 P :: ob_101_0 P :: ob_102_0 P :: ob_103_0 P :: ob_104_0 P :: ob_105_0 P :: ob_106_0 P :: ob_107_0 P :: ob_108_0 P :: ob_109_0 P :: ob_110_0 P :: ob_111_0 P :: ob_112_0 P :: ob_113_0 P :: ob_114_0 P :: ob_115_0 P :: ob_116_0 P :: ob_117_0 P :: ob_118_0 P :: ob_119_0 P :: ob_120_0 P :: ob_121_0 P :: ob_122_0 P :: ob_123_0 P :: ob_124_0 P :: ob_125_0 P :: ob_126_0 P :: ob_127_0 P :: ob_128_0 P :: ob_129_0 P :: ob_130_0 P :: ob_131_0 P :: ob_132_0 P :: ob_133_0 P :: ob_134_0 P :: ob_135_0 P :: ob_136_0 P :: ob_137_0 P :: ob_138_0 P :: ob_139_0 P :: ob_140_0 P :: ob_141_0 P :: ob_142_0 P :: ob_143_0 P :: ob_144_0 P :: ob_145_0 P :: ob_146_0 P :: ob_147_0 P :: ob_148_0 P :: ob_149_0 P :: ob_150_0 P :: ob_151_0 P :: ob_152_0 P :: ob_153_0 P :: ob_154_0 P :: ob_155_0 P :: ob_156_0 P :: ob_157_0 P :: ob_158_0 P :: ob_159_0 P :: ob_160_0 P :: ob_161_0 P :: ob_162_0 P :: ob_163_0 P :: ob_164_0 P :: ob_165_0 P :: ob_166_0 P :: ob_167_0 P :: ob_168_0 P :: ob_169_0 P :: ob_170_0 P :: ob_171_0 P :: ob_172_0 P :: ob_173_0 P :: ob_174_0 P :: ob_175_0 P :: ob_176_0 P :: ob_177_0 P :: ob_178_0 P :: ob_179_0 P :: ob_180_0 P :: ob_181_0 P :: ob_182_0 P :: ob_183_0 P :: ob_184_0 P :: ob_185_0 P :: ob_186_0 P :: ob_187_0 P :: ob_188_0 P :: ob_189_0 P :: ob_190_0 P :: ob_191_0 P :: ob_192_0 P :: ob_193_0 P :: ob_194_0 P :: ob_195_0 P :: ob_196_0 P :: ob_197_0 P :: ob_198_0 P :: ob_199_0 P :: ob_200_0 P :: ob_201_0 P :: ob_202_0 P :: ob_203_0 P :: ob_204_0 P :: ob_205_0 P :: ob_206_0 P :: ob_207_0 P :: ob_208_0 P :: ob_209_0 P :: ob_210_0 P :: ob_211_0 P :: ob_212_0 P :: ob_213_0 P :: ob_214_0 P :: ob_215_0 P :: ob_216_0 P :: ob_217_0 P :: ob_218_0 P :: ob_219_0 P :: ob_220_0 P :: ob_221_0 P :: ob_222_0 P :: ob_223_0 P :: ob_224_0 P :: ob_225_0 P :: ob_226_0 P :: ob_227_0 P :: ob_228_0 P :: ob_229_0 P :: ob_230_0 P :: ob_231_0 P :: ob_232_0 P :: ob_233_0 P :: ob_234_0 P :: ob_235_0 P :: ob_236_0 P :: ob_237_0 P :: ob_238_0 P :: ob_239_0 P :: ob_240_0 P :: ob_241_0 P :: ob_242_0 P :: ob_243_0 P :: ob_244_0 P :: ob_245_0 P :: ob_246_0 P :: ob_247_0 P :: ob_248_0 P :: ob_249_0 P :: ob_250_0 P :: ob_251_0 P :: ob_252_0 P :: ob_253_0 P :: ob_254_0 P :: ob_255_0 P :: ob_256_0 P :: ob_257_0 P :: ob_258_0 P :: ob_259_0 P :: ob_260_0 P :: ob_261_0 P :: ob_262_0 P :: ob_263_0 P :: ob_264_0 P :: ob_265_0 P :: ob_266_0 P :: ob_267_0 P :: ob_268_0 P :: ob_269_0 P :: ob_270_0 P :: ob_271_0 P :: ob_272_0 P :: ob_273_0 P :: ob_274_0 P :: ob_275_0 P :: ob_276_0 P :: ob_277_0 P :: ob_278_0 P :: ob_279_0 P :: ob_280_0 P :: ob_281_0 P :: ob_282_0 P :: ob_283_0 P :: ob_284_0 P :: []), { }⟩
noncomputable def ob_3_4 (P : Params) : Obj := ⟨(.type "dict"), .none, .dict [e P (o "__name__") 165 (.str (o "kyber_py.polynomials.polynomials") 448), e P (o "__doc__") 166 n, e P (o "__package__") 167 n, e P (o "__loader__") 168 (.builtin "__main__.__loader__#opaque"), e P (o "__spec__") 169 n, e P (o "__annotations__") 170 (.ref 6), e P (o "__builtins__") 171 (.ref 4), e P (o "__file__") 173 (.str (o "/claim/cut.py") 172), e P (o "__cached__") 174 n, e P (o "_wall") 193 (.ref 21), e P (o "GenericPolynomialRing") 248 (.ref 59), e P (o "GenericPolynomial") 447 (.ref 222), e P (o "PolynomialRing") 533 (.ref 282), e P (o "Polynomial") 624 (.ref 350)].toArray 14, [].toArray⟩
noncomputable def ob_12_4 (_ : Params) : Obj := ⟨n, .none, .fields [(.int (1) 0), (.int (0) 0), (.ref 20), (.int (5) 0), (.int (0) 0), (.ref 27), (.int (23) 0), (.int (0) 0), (.ref 69), (.int (152) 0), (.int (0) 0), (.ref 232), (.int (183) 0), (.int (0) 0), (.ref 290)].toArray, [].toArray⟩
noncomputable def ob_222_1 (_ : Params) : Obj := ⟨(.type "type"), .none, .cls ⟨(o "GenericPolynomial"), [(.type "object")], [(.ref 222), (.type "object")], 221, (o "GenericPolynomial"), true, [], [(.ref 350)], false, .none, false⟩, [.none, .none, (.some (.str (o "GenericPolynomial") 249)), (.some (.str (o "GenericPolynomial") 257)), (.some (.builtin "object.__new__")), (.some (.bool true))].toArray⟩
noncomputable def ob_285_0 (_ : Params) : Obj := ⟨(.type "tuple"), .none, .seq [(.ref 222)].toArray 0, [].toArray⟩
noncomputable def ob_286_0 (_ : Params) : Obj := ⟨(.type "builtin_function_or_method"), .none, .fields [(.builtin "type.__prepare__"), (.type "type")].toArray, [].toArray⟩
noncomputable def ob_287_0 (P : Params) : Obj := ⟨(.type "dict"), .none, .dict [e P (o "__module__") 541 (.str (o "kyber_py.polynomials.polynomials") 448), e P (o "__qualname__") 543 (.str (o "Polynomial") 542), e P (o "__firstlineno__") 545 (.int (183) 544), e P (o "__init__") 554 (.ref 298), e P (o "encode") 562 (.ref 305), e P (o "_compress_ele") 571 (.ref 312), e P (o "_decompress_ele") 580 (.ref 319), e P (o "compress") 588 (.ref 326), e P (o "decompress") 596 (.ref 333), e P (o "to_ntt") 611 (.ref 340), e P (o "from_ntt") 618 (.ref 347), e P (o "__static_attributes__") 621 (.ref 348)].toArray 12, [].toArray⟩
noncomputable def ob_288_0 (_ : Params) : Obj := ⟨(.type "tuple"), .none, .seq [].toArray 0, [].toArray⟩
noncomputable def ob_289_0 (_ : Params) : Obj := ⟨n, .none, .fields [(.int (185) 0), (.int (4) 0), (.ref 297), (.int (189) 0), (.int (4) 0), (.ref 304), (.int (192) 0), (.int (4) 0), (.ref 311), (.int (195) 0), (.int (4) 0), (.ref 318), (.int (198) 0), (.int (4) 0), (.ref 325), (.int (201) 0), (.int (4) 0), (.ref 332), (.int (204) 0), (.int (4) 0), (.ref 339), (.int (224) 0), (.int (4) 0), (.ref 346)].toArray, [].toArray⟩
noncomputable def ob_290_0 (_ : Params) : Obj := ⟨(.type "code"), .none, .fields [(.str (o "Polynomial") 536), (.str (o "Polynomial") 537), (.str (o "/claim/cut.py") 538), (.int (183) 0), (.int (0) 0), (.int (0) 0), (.int (0) 0), (.int (0) 0), (.ref 288), (.bool false), (.int (181) 0), (.ref 289), n, n, n, n, (.int (539) 0), (.int (183) 0), (.str (o "/claim/cut.py") 540)].toArray, [].toArray⟩
noncomputable def ob_291_0 (_ : Params) : Obj := ⟨(.type "frame"), .none, .plain, [(.some (.ref 290)), (.some (.ref 3)), (.some (.ref 287)), .none, (.some (.str (o "kyber_py.polynomials.polynomials") 448)), .none, (.some (.ref 0))].toArray⟩
noncomputable def ob_292_0 (_ : Params) : Obj := ⟨(.type "tuple"), .none, .seq [].toArray 0, [].toArray⟩
noncomputable def ob_293_0 (_ : Params) : Obj := ⟨n, .none, .fields [].toArray, [].toArray⟩
noncomputable def ob_294_0 (_ : Params) : Obj := ⟨(.type "tuple"), .none, .seq [(.str (o "self") 549), (.str (o "parent") 550), (.str (o "coefficients") 551)].toArray 0, [].toArray⟩
noncomputable def ob_295_0 (_ : Params) : Obj := ⟨(.type "tuple"), .none, .seq [].toArray 0, [].toArray⟩
noncomputable def ob_296_0 (_ : Params) : Obj := ⟨n, .none, .func (f (sub 6 0) (o "__init__") (o "Polynomial.__init__") 0 [] n n n n .none n n 0), [].toArray⟩
noncomputable def ob_297_0 (_ : Params) : Obj := ⟨(.type "code"), .none, .fields [(.str (o "__init__") 546), (.str (o "Polynomial.__init__") 547), (.str (o "/claim/cut.py") 548), (.int (185) 0), (.int (3) 0), (.int (0) 0), (.int (0) 0), (.int (3) 0), (.ref 292), (.bool true), (.int (181) 0), (.ref 293), n, (.ref 294), (.ref 295), (.ref 296), (.int (552) 0), (.int (185) 0), (.str (o "/claim/cut.py") 553)].toArray, [].toArray⟩
noncomputable def ob_298_0 (_ : Params) : Obj := ⟨(.type "function"), .none, .func (f (sub 6 0) (o "__init__") (o "Polynomial.__init__") 3 [] n n n (.str (o "kyber_py.polynomials.polynomials") 448) .none (.ref 297) n 0), [].toArray⟩
noncomputable def ob_299_0 (_ : Params) : Obj := ⟨(.type "tuple"), .none, .seq [].toArray 0, [].toArray⟩
noncomputable def ob_300_0 (_ : Params) : Obj := ⟨n, .none, .fields [].toArray, [].toArray⟩
noncomputable def ob_301_0 (_ : Params) : Obj := ⟨(.type "tuple"), .none, .seq [(.str (o "self") 558), (.str (o "d") 559)].toArray 0, [].toArray⟩
noncomputable def ob_302_0 (_ : Params) : Obj := ⟨(.type "tuple"), .none, .seq [].toArray 0, [].toArray⟩
noncomputable def ob_303_0 (_ : Params) : Obj := ⟨n, .none, .func (f (sub 6 1) (o "encode") (o "Polynomial.encode") 0 [] n n n n .none n n 0), [].toArray⟩
noncomputable def ob_304_0 (_ : Params) : Obj := ⟨(.type "code"), .none, .fields [(.str (o "encode") 555), (.str (o "Polynomial.encode") 556), (.str (o "/claim/cut.py") 557), (.int (189) 0), (.int (2) 0), (.int (0) 0), (.int (0) 0), (.int (3) 0), (.ref 299), (.bool true), (.int (181) 0), (.ref 300), n, (.ref 301), (.ref 302), (.ref 303), (.int (560) 0), (.int (189) 0), (.str (o "/claim/cut.py") 561)].toArray, [].toArray⟩
noncomputable def ob_305_0 (_ : Params) : Obj := ⟨(.type "function"), .none, .func (f (sub 6 1) (o "encode") (o "Polynomial.encode") 3 [] n n n (.str (o "kyber_py.polynomials.polynomials") 448) .none (.ref 304) n 0), [].toArray⟩
noncomputable def ob_306_0 (_ : Params) : Obj := ⟨(.type "tuple"), .none, .seq [].toArray 0, [].toArray⟩
noncomputable def ob_307_0 (_ : Params) : Obj := ⟨n, .none, .fields [].toArray, [].toArray⟩
noncomputable def ob_308_0 (_ : Params) : Obj := ⟨(.type "tuple"), .none, .seq [(.str (o "self") 566), (.str (o "x") 567), (.str (o "d") 568)].toArray 0, [].toArray⟩
noncomputable def ob_309_0 (_ : Params) : Obj := ⟨(.type "tuple"), .none, .seq [].toArray 0, [].toArray⟩
noncomputable def ob_310_0 (_ : Params) : Obj := ⟨n, .none, .func (f (sub 6 2) (o "_compress_ele") (o "Polynomial._compress_ele") 0 [] n n n n .none n n 0), [].toArray⟩
noncomputable def ob_311_0 (_ : Params) : Obj := ⟨(.type "code"), .none, .fields [(.str (o "_compress_ele") 563), (.str (o "Polynomial._compress_ele") 564), (.str (o "/claim/cut.py") 565), (.int (192) 0), (.int (3) 0), (.int (0) 0), (.int (0) 0), (.int (3) 0), (.ref 306), (.bool true), (.int (181) 0), (.ref 307), n, (.ref 308), (.ref 309), (.ref 310), (.int (569) 0), (.int (192) 0), (.str (o "/claim/cut.py") 570)].toArray, [].toArray⟩
noncomputable def ob_312_0 (_ : Params) : Obj := ⟨(.type "function"), .none, .func (f (sub 6 2) (o "_compress_ele") (o "Polynomial._compress_ele") 3 [] n n n (.str (o "kyber_py.polynomials.polynomials") 448) .none (.ref 311) n 0), [].toArray⟩
noncomputable def ob_313_0 (_ : Params) : Obj := ⟨(.type "tuple"), .none, .seq [].toArray 0, [].toArray⟩
noncomputable def ob_314_0 (_ : Params) : Obj := ⟨n, .none, .fields [].toArray, [].toArray⟩
noncomputable def ob_315_0 (_ : Params) : Obj := ⟨(.type "tuple"), .none, .seq [(.str (o "self") 575), (.str (o "x") 576), (.str (o "d") 577)].toArray 0, [].toArray⟩
noncomputable def ob_316_0 (_ : Params) : Obj := ⟨(.type "tuple"), .none, .seq [].toArray 0, [].toArray⟩
noncomputable def ob_317_0 (_ : Params) : Obj := ⟨n, .none, .func (f (sub 6 3) (o "_decompress_ele") (o "Polynomial._decompress_ele") 0 [] n n n n .none n n 0), [].toArray⟩
noncomputable def ob_318_0 (_ : Params) : Obj := ⟨(.type "code"), .none, .fields [(.str (o "_decompress_ele") 572), (.str (o "Polynomial._decompress_ele") 573), (.str (o "/claim/cut.py") 574), (.int (195) 0), (.int (3) 0), (.int (0) 0), (.int (0) 0), (.int (3) 0), (.ref 313), (.bool true), (.int (181) 0), (.ref 314), n, (.ref 315), (.ref 316), (.ref 317), (.int (578) 0), (.int (195) 0), (.str (o "/claim/cut.py") 579)].toArray, [].toArray⟩
noncomputable def ob_319_0 (_ : Params) : Obj := ⟨(.type "function"), .none, .func (f (sub 6 3) (o "_decompress_ele") (o "Polynomial._decompress_ele") 3 [] n n n (.str (o "kyber_py.polynomials.polynomials") 448) .none (.ref 318) n 0), [].toArray⟩
noncomputable def ob_320_0 (_ : Params) : Obj := ⟨(.type "tuple"), .none, .seq [].toArray 0, [].toArray⟩
noncomputable def ob_321_0 (_ : Params) : Obj := ⟨n, .none, .fields [].toArray, [].toArray⟩
noncomputable def ob_322_0 (_ : Params) : Obj := ⟨(.type "tuple"), .none, .seq [(.str (o "self") 584), (.str (o "d") 585)].toArray 0, [].toArray⟩
noncomputable def ob_323_0 (_ : Params) : Obj := ⟨(.type "tuple"), .none, .seq [].toArray 0, [].toArray⟩
noncomputable def ob_324_0 (_ : Params) : Obj := ⟨n, .none, .func (f (sub 6 4) (o "compress") (o "Polynomial.compress") 0 [] n n n n .none n n 0), [].toArray⟩
noncomputable def ob_325_0 (_ : Params) : Obj := ⟨(.type "code"), .none, .fields [(.str (o "compress") 581), (.str (o "Polynomial.compress") 582), (.str (o "/claim/cut.py") 583), (.int (198) 0), (.int (2) 0), (.int (0) 0), (.int (0) 0), (.int (3) 0), (.ref 320), (.bool true), (.int (181) 0), (.ref 321), n, (.ref 322), (.ref 323), (.ref 324), (.int (586) 0), (.int (198) 0), (.str (o "/claim/cut.py") 587)].toArray, [].toArray⟩
noncomputable def ob_326_0 (_ : Params) : Obj := ⟨(.type "function"), .none, .func (f (sub 6 4) (o "compress") (o "Polynomial.compress") 3 [] n n n (.str (o "kyber_py.polynomials.polynomials") 448) .none (.ref 325) n 0), [].toArray⟩
noncomputable def ob_327_0 (_ : Params) : Obj := ⟨(.type "tuple"), .none, .seq [].toArray 0, [].toArray⟩
noncomputable def ob_328_0 (_ : Params) : Obj := ⟨n, .none, .fields [].toArray, [].toArray⟩
noncomputable def ob_329_0 (_ : Params) : Obj := ⟨(.type "tuple"), .none, .seq [(.str (o "self") 592), (.str (o "d") 593)].toArray 0, [].toArray⟩
noncomputable def ob_330_0 (_ : Params) : Obj := ⟨(.type "tuple"), .none, .seq [].toArray 0, [].toArray⟩
noncomputable def ob_331_0 (_ : Params) : Obj := ⟨n, .none, .func (f (sub 6 5) (o "decompress") (o "Polynomial.decompress") 0 [] n n n n .none n n 0), [].toArray⟩
noncomputable def ob_332_0 (_ : Params) : Obj := ⟨(.type "code"), .none, .fields [(.str (o "decompress") 589), (.str (o "Polynomial.decompress") 590), (.str (o "/claim/cut.py") 591), (.int (201) 0), (.int (2) 0), (.int (0) 0), (.int (0) 0), (.int (3) 0), (.ref 327), (.bool true), (.int (181) 0), (.ref 328), n, (.ref 329), (.ref 330), (.ref 331), (.int (594) 0), (.int (201) 0), (.str (o "/claim/cut.py") 595)].toArray, [].toArray⟩
noncomputable def ob_333_0 (_ : Params) : Obj := ⟨(.type "function"), .none, .func (f (sub 6 5) (o "decompress") (o "Polynomial.decompress") 3 [] n n n (.str (o "kyber_py.polynomials.polynomials") 448) .none (.ref 332) n 0), [].toArray⟩
noncomputable def ob_334_0 (_ : Params) : Obj := ⟨(.type "tuple"), .none, .seq [].toArray 0, [].toArray⟩
noncomputable def ob_335_0 (_ : Params) : Obj := ⟨n, .none, .fields [].toArray, [].toArray⟩
noncomputable def ob_336_0 (_ : Params) : Obj := ⟨(.type "tuple"), .none, .seq [(.str (o "self") 600), (.str (o "k") 601), (.str (o "l") 602), (.str (o "coeffs") 603), (.str (o "zetas") 604), (.str (o "start") 605), (.str (o "zeta") 606), (.str (o "j") 607), (.str (o "t") 608)].toArray 0, [].toArray⟩
noncomputable def ob_337_0 (_ : Params) : Obj := ⟨(.type "tuple"), .none, .seq [].toArray 0, [].toArray⟩
noncomputable def ob_338_0 (_ : Params) : Obj := ⟨n, .none, .func (f (sub 6 6) (o "to_ntt") (o "Polynomial.to_ntt") 0 [] n n n n .none n n 0), [].toArray⟩
noncomputable def ob_339_0 (_ : Params) : Obj := ⟨(.type "code"), .none, .fields [(.str (o "to_ntt") 597), (.str (o "Polynomial.to_ntt") 598), (.str (o "/claim/cut.py") 599), (.int (204) 0), (.int (1) 0), (.int (0) 0), (.int (0) 0), (.int (3) 0), (.ref 334), (.bool true), (.int (181) 0), (.ref 335), n, (.ref 336), (.ref 337), (.ref 338), (.int (609) 0), (.int (204) 0), (.str (o "/claim/cut.py") 610)].toArray, [].toArray⟩
noncomputable def ob_340_0 (_ : Params) : Obj := ⟨(.type "function"), .none, .func (f (sub 6 6) (o "to_ntt") (o "Polynomial.to_ntt") 3 [] n n n (.str (o "kyber_py.polynomials.polynomials") 448) .none (.ref 339) n 0), [].toArray⟩
noncomputable def ob_341_0 (_ : Params) : Obj := ⟨(.type "tuple"), .none, .seq [].toArray 0, [].toArray⟩
noncomputable def ob_342_0 (_ : Params) : Obj := ⟨n, .none, .fields [].toArray, [].toArray⟩
noncomputable def ob_343_0 (_ : Params) : Obj := ⟨(.type "tuple"), .none, .seq [(.str (o "self") 615)].toArray 0, [].toArray⟩
noncomputable def ob_344_0 (_ : Params) : Obj := ⟨(.type "tuple"), .none, .seq [].toArray 0, [].toArray⟩
noncomputable def ob_345_0 (_ : Params) : Obj := ⟨n, .none, .func (f (sub 6 7) (o "from_ntt") (o "Polynomial.from_ntt") 0 [] n n n n .none n n 0), [].toArray⟩
noncomputable def ob_346_0 (_ : Params) : Obj := ⟨(.type "code"), .none, .fields [(.str (o "from_ntt") 612), (.str (o "Polynomial.from_ntt") 613), (.str (o "/claim/cut.py") 614), (.int (224) 0), (.int (1) 0), (.int (0) 0), (.int (0) 0), (.int (3) 0), (.ref 341), (.bool true), (.int (181) 0), (.ref 342), n, (.ref 343), (.ref 344), (.ref 345), (.int (616) 0), (.int (224) 0), (.str (o "/claim/cut.py") 617)].toArray, [].toArray⟩
noncomputable def ob_347_0 (_ : Params) : Obj := ⟨(.type "function"), .none, .func (f (sub 6 7) (o "from_ntt") (o "Polynomial.from_ntt") 3 [] n n n (.str (o "kyber_py.polynomials.polynomials") 448) .none (.ref 346) n 0), [].toArray⟩
noncomputable def ob_348_0 (_ : Params) : Obj := ⟨(.type "tuple"), .none, .seq [(.str (o "coeffs") 619), (.str (o "parent") 620)].toArray 0, [].toArray⟩
noncomputable def ob_349_0 (P : Params) : Obj := ⟨(.type "dict"), .none, .dict [e P (o "__module__") 541 (.str (o "kyber_py.polynomials.polynomials") 448), e P (o "__firstlineno__") 545 (.int (183) 544), e P (o "__init__") 554 (.ref 298), e P (o "encode") 562 (.ref 305), e P (o "_compress_ele") 571 (.ref 312), e P (o "_decompress_ele") 580 (.ref 319), e P (o "compress") 588 (.ref 326), e P (o "decompress") 596 (.ref 333), e P (o "to_ntt") 611 (.ref 340), e P (o "from_ntt") 618 (.ref 347), e P (o "__static_attributes__") 621 (.ref 348), e P (o "__doc__") 622 n].toArray 2, [].toArray⟩
noncomputable def ob_350_0 (_ : Params) : Obj := ⟨(.type "type"), .none, .cls ⟨(o "Polynomial"), [(.ref 222)], [(.ref 350), (.ref 222), (.type "object")], 349, (o "Polynomial"), true, [], [], false, .none, false⟩, [(.some (.ref 285)), .none, (.some (.str (o "Polynomial") 534)), (.some (.str (o "Polynomial") 542)), (.some (.builtin "object.__new__")), (.some (.bool true))].toArray⟩
noncomputable def ob_351_0 (_ : Params) : Obj := ⟨(.type "super"), .none, .fields [(.ref 350), (.ref 350), (.ref 350)].toArray, [].toArray⟩
noncomputable def ob_352_0 (_ : Params) : Obj := ⟨(.type "builtin_function_or_method"), .none, .fields [(.builtin "object.__init_subclass__"), (.ref 350)].toArray, [].toArray⟩
noncomputable def hp_6 (P : Params) : Heap := ⟨Array.mk (boot_o_0 P :: boot_o_1 P :: boot_o_2 P :: ob_3_4 P :: boot_o_4 P :: boot_o_5 P :: boot_o_6 P :: boot_o_7 P :: boot_o_8 P :: boot_o_9 P :: boot_o_10 P :: ob_11_0 P :: ob_12_4 P :: ob_13_0 P :: ob_14_0 P :: ob_15_0 P :: ob_16_0 P :: ob_17_0 P :: ob_18_0 P :: ob_19_0 P :: ob_20_0 P :: ob_21_0 P :: ob_22_0 P :: ob_23_0 P :: ob_24_0 P :: ob_25_0 P :: ob_26_0 P :: ob_27_0 P :: ob_28_0 P :: ob_29_0 P :: ob_30_0 P :: ob_31_0 P :: ob_32_0 P :: ob_33_0 P :: ob_34_0 P :: ob_35_0 P :: ob_36_0 P :: ob_37_0 P :: ob_38_0 P :: ob_39_0 P :: ob_40_0 P :: ob_41_0 P :: ob_42_0 P :: ob_43_0 P :: ob_44_0 P :: ob_45_0 P :: ob_46_0 P :: ob_47_0 P :: ob_48_0 P :: ob_49_0 P :: ob_50_0 P :: ob_51_0 P :: ob_52_0 P :: ob_53_0 P :: ob_54_0 P :: ob_55_0 P :: ob_56_0 P :: ob_57_0 P :: ob_58_0 P :: ob_59_1 P :: ob_60_0 P :: ob_61_0 P :: ob_62_0 P :: ob_63_0 P :: ob_64_0 P :: ob_65_0 P :: ob_66_0 P :: ob_67_0 P :: ob_68_0 P :: ob_69_0 P :: ob_70_0 P :: ob_71_0 P :: ob_72_0 P :: ob_73_0 P :: ob_74_0 P :: ob_75_0 P :: ob_76_0 P :: ob_77_0 P :: ob_78_0 P :: ob_79_0 P :: ob_80_0 P :: ob_81_0 P :: ob_82_0 P :: ob_83_0 P :: ob_84_0 P :: ob_85_0 P :: ob_86_0 P :: ob_87_0 P :: ob_88_0 P :: ob_89_0 P :: ob_90_0 P :: ob_91_0 P :: ob_92_0 P :: ob_93_0 P :: ob_94_0 P :: ob_95_0 P :: ob_96_0 P :: ob_97_0 P :: ob_98_0 P :: ob_99_0 P :: ob_100_0 P :: ob_101_0 P :: ob_102_0 P :: ob_103_0 P :: ob_104_0 P :: ob_105_0 P :: ob_106_0 P :: ob_107_0 P :: ob_108_0 P :: ob_109_0 P :: ob_110_0 P :: ob_111_0 P :: ob_112_0 P :: ob_113_0 P :: ob_114_0 P :: ob_115_0 P :: ob_116_0 P :: ob_117_0 P :: ob_118_0 P :: ob_119_0 P :: ob_120_0 P :: ob_121_0 P :: ob_122_0 P :: ob_123_0 P :: ob_124_0 P :: ob_125_0 P :: ob_126_0 P :: ob_127_0 P :: ob_128_0 P :: ob_129_0 P :: ob_130_0 P :: ob_131_0 P :: ob_132_0 P :: ob_133_0 P :: ob_134_0 P :: ob_135_0 P :: ob_136_0 P :: ob_137_0 P :: ob_138_0 P :: ob_139_0 P :: ob_140_0 P :: ob_141_0 P :: ob_142_0 P :: ob_143_0 P :: ob_144_0 P :: ob_145_0 P :: ob_146_0 P :: ob_147_0 P :: ob_148_0 P :: ob_149_0 P :: ob_150_0 P :: ob_151_0 P :: ob_152_0 P :: ob_153_0 P :: ob_154_0 P :: ob_155_0 P :: ob_156_0 P :: ob_157_0 P :: ob_158_0 P :: ob_159_0 P :: ob_160_0 P :: ob_161_0 P :: ob_162_0 P :: ob_163_0 P :: ob_164_0 P :: ob_165_0 P :: ob_166_0 P :: ob_167_0 P :: ob_168_0 P :: ob_169_0 P :: ob_170_0 P :: ob_171_0 P :: ob_172_0 P :: ob_173_0 P :: ob_174_0 P :: ob_175_0 P :: ob_176_0 P :: ob_177_0 P :: ob_178_0 P :: ob_179_0 P :: ob_180_0 P :: ob_181_0 P :: ob_182_0 P :: ob_183_0 P :: ob_184_0 P :: ob_185_0 P :: ob_186_0 P :: ob_187_0 P :: ob_188_0 P :: ob_189_0 P :: ob_190_0 P :: ob_191_0 P :: ob_192_0 P :: ob_193_0 P :: ob_194_0 P :: ob_195_0 P :: ob_196_0 P :: ob_197_0 P :: ob_198_0 P :: ob_199_0 P :: ob_200_0 P :: ob_201_0 P :: ob_202_0 P :: ob_203_0 P :: ob_204_0 P :: ob_205_0 P :: ob_206_0 P :: ob_207_0 P :: ob_208_0 P :: ob_209_0 P :: ob_210_0 P :: ob_211_0 P :: ob_212_0 P :: ob_213_0 P :: ob_214_0 P :: ob_215_0 P :: ob_216_0 P :: ob_217_0 P :: ob_218_0 P :: ob_219_0 P :: ob_220_0 P :: ob_221_0 P :: ob_222_1 P :: ob_223_0 P :: ob_224_0 P :: ob_225_0 P :: ob_226_0 P :: ob_227_0 P :: ob_228_0 P :: ob_229_0 P :: ob_230_0 P :: ob_231_0 P :: ob_232_0 P :: ob_233_0 P :: ob_234_0 P :: ob_235_0 P :: ob_236_0 P :: ob_237_0 P :: ob_238_0 P :: ob_239_0 P :: ob_240_0 P :: ob_241_0 P :: ob_242_0 P :: ob_243_0 P :: ob_244_0 P :: ob_245_0 P :: ob_246_0 P :: ob_247_0 P :: ob_248_0 P :: ob_249_0 P :: ob_250_0 P :: ob_251_0 P :: ob_252_0 P :: ob_253_0 P :: ob_254_0 P :: ob_255_0 P :: ob_256_0 P :: ob_257_0 P :: ob_258_0 P :: ob_259_0 P :: ob_260_0 P :: ob_261_0 P :: ob_262_0 P :: ob_263_0 P :: ob_264_0 P :: ob_265_0 P :: ob_266_0 P :: ob_267_0 P :: ob_268_0 P :: ob_269_0 P :: ob_270_0 P :: ob_271_0 P :: ob_272_0 P :: ob_273_0 P :: ob_274_0 P :: ob_275_0 P :: ob_276_0 P :: ob_277_0 P :: ob_278_0 P :: ob_279_0 P :: ob_280_0 P :: ob_281_0 P :: ob_282_0 P :: ob_283_0 P :: ob_284_0 P :: ob_285_0 P :: ob_286_0 P :: ob_287_0 P :: ob_288_0 P :: ob_289_0 P :: ob_290_0 P :: ob_291_0 P :: ob_292_0 P :: ob_293_0 P :: ob_294_0 P :: ob_295_0 P :: ob_296_0 P :: ob_297_0 P :: ob_298_0 P :: ob_299_0 P :: ob_300_0 P :: ob_301_0 P :: ob_302_0 P :: ob_303_0 P :: ob_304_0 P :: ob_305_0 P :: ob_306_0 P :: ob_307_0 P :: ob_308_0 P :: ob_309_0 P :: ob_310_0 P :: ob_311_0 P :: ob_312_0 P :: ob_313_0 P :: ob_314_0 P :: ob_315_0 P :: ob_316_0 P :: ob_317_0 P :: ob_318_0 P :: ob_319_0 P :: ob_320_0 P :: ob_321_0 P :: ob_322_0 P :: ob_323_0 P :: ob_324_0 P :: ob_325_0 P :: ob_326_0 P :: ob_327_0 P :: ob_328_0 P :: ob_329_0 P :: ob_330_0 P :: ob_331_0 P :: ob_332_0 P :: ob_333_0 P :: ob_334_0 P :: ob_335_0 P :: ob_336_0 P :: ob_337_0 P :: ob_338_0 P :: ob_339_0 P :: ob_340_0 P :: ob_341_0 P :: ob_342_0 P :: ob_343_0 P :: ob_344_0 P :: ob_345_0 P :: ob_346_0 P :: ob_347_0 P :: ob_348_0 P :: ob_349_0 P :: ob_350_0 P :: ob_351_0 P :: ob_352_0 P :: []), { }⟩
noncomputable def ob_3_5 (P : Params) : Obj := ⟨(.type "dict"), .none, .dict [e P (o "__name__") 165 (.str (o "kyber_py.polynomials.polynomials") 448), e P (o "__doc__") 166 n, e P (o "__package__") 167 n, e P (o "__loader__") 168 (.builtin "__main__.__loader__#opaque"), e P (o "__spec__") 169 n, e P (o "__annotations__") 170 (.ref 6), e P (o "__builtins__") 171 (.ref 4), e P (o "__file__") 173 (.str (o "/claim/cut.py") 172), e P (o "__cached__") 174 n, e P (o "_wall") 193 (.ref 21), e P (o "GenericPolynomialRing") 248 (.ref 59), e P (o "GenericPolynomial") 447 (.ref 222), e P (o "PolynomialRing") 533 (.ref 282), e P (o "Polynomial") 624 (.ref 350), e P (o "PolynomialNTT") 749 (.ref 426)].toArray 15, [].toArray⟩
noncomputable def ob_12_5 (_ : Params) : Obj := ⟨n, .none, .fields [(.int (1) 0), (.int (0) 0), (.ref 20), (.int (5) 0), (.int (0) 0), (.ref 27), (.int (23) 0), (.int (0) 0), (.ref 69), (.int (152) 0), (.int (0) 0), (.ref 232), (.int (183) 0), (.int (0) 0), (.ref 290), (.int (226) 0), (.int (0) 0), (.ref 358)].toArray, [].toArray⟩
noncomputable def ob_350_1 (_ : Params) : Obj := ⟨(.type "type"), .none, .cls ⟨(o "Polynomial"), [(.ref 222)], [(.ref 350), (.ref 222), (.type "object")], 349, (o "Polynomial"), true, [], [(.ref 426)], false, .none, false⟩, [(.some (.ref 285)), .none, (.some (.str (o "Polynomial") 534)), (.some (.str (o "Polynomial") 542)), (.some (.builtin "object.__new__")), (.some (.bool true))].toArray⟩
noncomputable def ob_353_0 (_ : Params) : Obj := ⟨(.type "tuple"), .none, .seq [(.ref 350)].toArray 0, [].toArray⟩
noncomputable def ob_354_0 (_ : Params) : Obj := ⟨(.type "builtin_function_or_method"), .none, .fields [(.builtin "type.__prepare__"), (.type "type")].toArray, [].toArray⟩
noncomputable def ob_355_0 (P : Params) : Obj := ⟨(.type "dict"), .none, .dict [e P (o "__module__") 632 (.str (o "kyber_py.polynomials.polynomials") 448), e P (o "__qualname__") 634 (.str (o "PolynomialNTT") 633), e P (o "__firstlineno__") 636 (.int (226) 635), e P (o "__init__") 645 (.ref 366), e P (o "to_ntt") 652 (.ref 373), e P (o "from_ntt") 669 (.ref 380), e P (o "_ntt_base_multiplication") 694 (.ref 389), e P (o "_ntt_coefficient_multiplication") 710 (.ref 397), e P (o "_ntt_multiplication") 719 (.ref 404), e P (o "__add__") 728 (.ref 411), e P (o "__sub__") 737 (.ref 418), e P (o "__mul__") 743 (.ref 423), e P (o "__static_attributes__") 746 (.ref 424)].toArray 13, [].toArray⟩
noncomputable def ob_356_0 (_ : Params) : Obj := ⟨(.type "tuple"), .none, .seq [].toArray 0, [].toArray⟩
noncomputable def ob_357_0 (_ : Params) : Obj := ⟨n, .none, .fields [(.int (228) 0), (.int (4) 0), (.ref 365), (.int (232) 0), (.int (4) 0), (.ref 372), (.int (235) 0), (.int (4) 0), (.ref 379), (.int (259) 0), (.int (4) 0), (.ref 386), (.int (264) 0), (.int (4) 0), (.ref 396), (.int (273) 0), (.int (4) 0), (.ref 403), (.int (277) 0), (.int (4) 0), (.ref 410), (.int (281) 0), (.int (4) 0), (.ref 417), (.int (285) 0), (.int (4) 0), (.ref 422)].toArray, [].toArray⟩
noncomputable def ob_358_0 (_ : Params) : Obj := ⟨(.type "code"), .none, .fields [(.str (o "PolynomialNTT") 627), (.str (o "PolynomialNTT") 628), (.str (o "/claim/cut.py") 629), (.int (226) 0), (.int (0) 0), (.int (0) 0), (.int (0) 0), (.int (0) 0), (.ref 356), (.bool false), (.int (181) 0), (.ref 357), n, n, n, n, (.int (630) 0), (.int (226) 0), (.str (o "/claim/cut.py") 631)].toArray, [].toArray⟩
noncomputable def ob_359_0 (_ : Params) : Obj := ⟨(.type "frame"), .none, .plain, [(.some (.ref 358)), (.some (.ref 3)), (.some (.ref 355)), .none, (.some (.str (o "kyber_py.polynomials.polynomials") 448)), .none, (.some (.ref 0))].toArray⟩
noncomputable def ob_360_0 (_ : Params) : Obj := ⟨(.type "tuple"), .none, .seq [].toArray 0, [].toArray⟩
noncomputable def ob_361_0 (_ : Params) : Obj := ⟨n, .none, .fields [].toArray, [].toArray⟩
noncomputable def ob_362_0 (_ : Params) : Obj := ⟨(.type "tuple"), .none, .seq [(.str (o "self") 640), (.str (o "parent") 641), (.str (o "coefficients") 642)].toArray 0, [].toArray⟩
noncomputable def ob_363_0 (_ : Params) : Obj := ⟨(.type "tuple"), .none, .seq [].toArray 0, [].toArray⟩
noncomputable def ob_364_0 (_ : Params) : Obj := ⟨n, .none, .func (f (sub 7 0) (o "__init__") (o "PolynomialNTT.__init__") 0 [] n n n n .none n n 0), [].toArray⟩
noncomputable def ob_365_0 (_ : Params) : Obj := ⟨(.type "code"), .none, .fields [(.str (o "__init__") 637), (.str (o "PolynomialNTT.__init__") 638), (.str (o "/claim/cut.py") 639), (.int (228) 0), (.int (3) 0), (.int (0) 0), (.int (0) 0), (.int (3) 0), (.ref 360), (.bool true), (.int (181) 0), (.ref 361), n, (.ref 362), (.ref 363), (.ref 364), (.int (643) 0), (.int (228) 0), (.str (o "/claim/cut.py") 644)].toArray, [].toArray⟩
noncomputable def ob_366_0 (_ : Params) : Obj := ⟨(.type "function"), .none, .func (f (sub 7 0) (o "__init__") (o "PolynomialNTT.__init__") 3 [] n n n (.str (o "kyber_py.polynomials.polynomials") 448) .none (.ref 365) n 0), [].toArray⟩
noncomputable def ob_367_0 (_ : Params) : Obj := ⟨(.type "tuple"), .none, .seq [].toArray 0, [].toArray⟩
noncomputable def ob_368_0 (_ : Params) : Obj := ⟨n, .none, .fields [].toArray, [].toArray⟩
noncomputable def ob_369_0 (_ : Params) : Obj := ⟨(.type "tuple"), .none, .seq [(.str (o "self") 649)].toArray 0, [].toArray⟩
noncomputable def ob_370_0 (_ : Params) : Obj := ⟨(.type "tuple"), .none, .seq [].toArray 0, [].toArray⟩
noncomputable def ob_371_0 (_ : Params) : Obj := ⟨n, .none, .func (f (sub 7 1) (o "to_ntt") (o "PolynomialNTT.to_ntt") 0 [] n n n n .none n n 0), [].toArray⟩
noncomputable def ob_372_0 (_ : Params) : Obj := ⟨(.type "code"), .none, .fields [(.str (o "to_ntt") 646), (.str (o "PolynomialNTT.to_ntt") 647), (.str (o "/claim/cut.py") 648), (.int (232) 0), (.int (1) 0), (.int (0) 0), (.int (0) 0), (.int (3) 0), (.ref 367), (.bool true), (.int (181) 0), (.ref 368), n, (.ref 369), (.ref 370), (.ref 371), (.int (650) 0), (.int (232) 0), (.str (o "/claim/cut.py") 651)].toArray, [].toArray⟩
noncomputable def ob_373_0 (_ : Params) : Obj := ⟨(.type "function"), .none, .func (f (sub 7 1) (o "to_ntt") (o "PolynomialNTT.to_ntt") 3 [] n n n (.str (o "kyber_py.polynomials.polynomials") 448) .none (.ref 372) n 0), [].toArray⟩
noncomputable def ob_374_0 (_ : Params) : Obj := ⟨(.type "tuple"), .none, .seq [].toArray 0, [].toArray⟩
noncomputable def ob_375_0 (_ : Params) : Obj := ⟨n, .none, .fields [].toArray, [].toArray⟩
noncomputable def ob_376_0 (_ : Params) : Obj := ⟨(.type "tuple"), .none, .seq [(.str (o "self") 656), (.str (o "l") 657), (.str (o "l_upper") 658), (.str (o "k") 659), (.str (o "coeffs") 660), (.str (o "zetas") 661), (.str (o "start") 662), (.str (o "zeta") 663), (.str (o "j") 664), (.str (o "t") 665), (.str (o "f") 666)].toArray 0, [].toArray⟩
noncomputable def ob_377_0 (_ : Params) : Obj := ⟨(.type "tuple"), .none, .seq [].toArray 0, [].toArray⟩
noncomputable def ob_378_0 (_ : Params) : Obj := ⟨n, .none, .func (f (sub 7 2) (o "from_ntt") (o "PolynomialNTT.from_ntt") 0 [] n n n n .none n n 0), [].toArray⟩
noncomputable def ob_379_0 (_ : Params) : Obj := ⟨(.type "code"), .none, .fields [(.str (o "from_ntt") 653), (.str (o "PolynomialNTT.from_ntt") 654), (.str (o "/claim/cut.py") 655), (.int (235) 0), (.int (1) 0), (.int (0) 0), (.int (0) 0), (.int (3) 0), (.ref 374), (.bool true), (.int (181) 0), (.ref 375), n, (.ref 376), (.ref 377), (.ref 378), (.int (667) 0), (.int (235) 0), (.str (o "/claim/cut.py") 668)].toArray, [].toArray⟩
noncomputable def ob_380_0 (_ : Params) : Obj := ⟨(.type "function"), .none, .func (f (sub 7 2) (o "from_ntt") (o "PolynomialNTT.from_ntt") 3 [] n n n (.str (o "kyber_py.polynomials.polynomials") 448) .none (.ref 379) n 0), [].toArray⟩
noncomputable def ob_381_0 (_ : Params) : Obj := ⟨(.type "tuple"), .none, .seq [].toArray 0, [].toArray⟩
noncomputable def ob_382_0 (_ : Params) : Obj := ⟨n, .none, .fields [].toArray, [].toArray⟩
noncomputable def ob_383_0 (_ : Params) : Obj := ⟨(.type "tuple"), .none, .seq [(.str (o "a0") 673), (.str (o "a1") 674), (.str (o "b0") 675), (.str (o "b1") 676), (.str (o "zeta") 677), (.str (o "r0") 678), (.str (o "r1") 679)].toArray 0, [].toArray⟩
noncomputable def ob_384_0 (_ : Params) : Obj := ⟨(.type "tuple"), .none, .seq [].toArray 0, [].toArray⟩
noncomputable def ob_385_0 (_ : Params) : Obj := ⟨n, .none, .func (f (sub 7 3) (o "_ntt_base_multiplication") (o "PolynomialNTT._ntt_base_multiplication") 0 [] n n n n .none n n 0), [].toArray⟩
noncomputable def ob_386_0 (_ : Params) : Obj := ⟨(.type "code"), .none, .fields [(.str (o "_ntt_base_multiplication") 670), (.str (o "PolynomialNTT._ntt_base_multiplication") 671), (.str (o "/claim/cut.py") 672), (.int (258) 0), (.int (5) 0), (.int (0) 0), (.int (0) 0), (.int (3) 0), (.ref 381), (.bool true), (.int (181) 0), (.ref 382), n, (.ref 383), (.ref 384), (.ref 385), (.int (680) 0), (.int (258) 0), (.str (o "/claim/cut.py") 681)].toArray, [].toArray⟩
noncomputable def ob_387_0 (_ : Params) : Obj := ⟨(.type "function"), .none, .func (f (sub 7 3) (o "_ntt_base_multiplication") (o "PolynomialNTT._ntt_base_multiplication") 3 [] n n n (.str (o "kyber_py.polynomials.polynomials") 448) (.some 390) (.ref 386) n 0), [].toArray⟩
noncomputable def ob_388_0 (P : Params) : Obj := ⟨(.type "dict"), .none, .dict [e P (o "__module__") 683 (.str (o "kyber_py.polynomials.polynomials") 448), e P (o "__name__") 686 (.str (o "_ntt_base_multiplication") 685), e P (o "__qualname__") 689 (.str (o "PolynomialNTT._ntt_base_multiplication") 688), e P (o "__doc__") 691 n, e P (o "__annotations__") 693 (.ref 390)].toArray 5, [].toArray⟩
noncomputable def ob_389_0 (_ : Params) : Obj := ⟨(.type "staticmethod"), (.some 388), .fields [(.ref 387), (.bool false)].toArray, [].toArray⟩
noncomputable def ob_390_0 (_ : Params) : Obj := ⟨(.type "dict"), .none, .dict [].toArray 0, [].toArray⟩
noncomputable def ob_391_0 (_ : Params) : Obj := ⟨(.type "tuple"), .none, .seq [].toArray 0, [].toArray⟩
noncomputable def ob_392_0 (_ : Params) : Obj := ⟨n, .none, .fields [].toArray, [].toArray⟩
noncomputable def ob_393_0 (_ : Params) : Obj := ⟨(.type "tuple"), .none, .seq [(.str (o "self") 698), (.str (o "f_coeffs") 699), (.str (o "g_coeffs") 700), (.str (o "new_coeffs") 701), (.str (o "zetas") 702), (.str (o "i") 703), (.str (o "r0") 704), (.str (o "r1") 705), (.str (o "r2") 706), (.str (o "r3") 707)].toArray 0, [].toArray⟩
noncomputable def ob_394_0 (_ : Params) : Obj := ⟨(.type "tuple"), .none, .seq [].toArray 0, [].toArray⟩
noncomputable def ob_395_0 (_ : Params) : Obj := ⟨n, .none, .func (f (sub 7 4) (o "_ntt_coefficient_multiplication") (o "PolynomialNTT._ntt_coefficient_multiplication") 0 [] n n n n .none n n 0), [].toArray⟩
noncomputable def ob_396_0 (_ : Params) : Obj := ⟨(.type "code"), .none, .fields [(.str (o "_ntt_coefficient_multiplication") 695), (.str (o "PolynomialNTT._ntt_coefficient_multiplication") 696), (.str (o "/claim/cut.py") 697), (.int (264) 0), (.int (3) 0), (.int (0) 0), (.int (0) 0), (.int (3) 0), (.ref 391), (.bool true), (.int (181) 0), (.ref 392), n, (.ref 393), (.ref 394), (.ref 395), (.int (708) 0), (.int (264) 0), (.str (o "/claim/cut.py") 709)].toArray, [].toArray⟩
noncomputable def ob_397_0 (_ : Params) : Obj := ⟨(.type "function"), .none, .func (f (sub 7 4) (o "_ntt_coefficient_multiplication") (o "PolynomialNTT._ntt_coefficient_multiplication") 3 [] n n n (.str (o "kyber_py.polynomials.polynomials") 448) .none (.ref 396) n 0), [].toArray⟩
noncomputable def ob_398_0 (_ : Params) : Obj := ⟨(.type "tuple"), .none, .seq [].toArray 0, [].toArray⟩
noncomputable def ob_399_0 (_ : Params) : Obj := ⟨n, .none, .fields [].toArray, [].toArray⟩
noncomputable def ob_400_0 (_ : Params) : Obj := ⟨(.type "tuple"), .none, .seq [(.str (o "self") 714), (.str (o "other") 715), (.str (o "new_coeffs") 716)].toArray 0, [].toArray⟩
noncomputable def ob_401_0 (_ : Params) : Obj := ⟨(.type "tuple"), .none, .seq [].toArray 0, [].toArray⟩
noncomputable def ob_402_0 (_ : Params) : Obj := ⟨n, .none, .func (f (sub 7 5) (o "_ntt_multiplication") (o "PolynomialNTT._ntt_multiplication") 0 [] n n n n .none n n 0), [].toArray⟩
noncomputable def ob_403_0 (_ : Params) : Obj := ⟨(.type "code"), .none, .fields [(.str (o "_ntt_multiplication") 711), (.str (o "PolynomialNTT._ntt_multiplication") 712), (.str (o "/claim/cut.py") 713), (.int (273) 0), (.int (2) 0), (.int (0) 0), (.int (0) 0), (.int (3) 0), (.ref 398), (.bool true), (.int (181) 0), (.ref 399), n, (.ref 400), (.ref 401), (.ref 402), (.int (717) 0), (.int (273) 0), (.str (o "/claim/cut.py") 718)].toArray, [].toArray⟩
noncomputable def ob_404_0 (_ : Params) : Obj := ⟨(.type "function"), .none, .func (f (sub 7 5) (o "_ntt_multiplication") (o "PolynomialNTT._ntt_multiplication") 3 [] n n n (.str (o "kyber_py.polynomials.polynomials") 448) .none (.ref 403) n 0), [].toArray⟩
noncomputable def ob_405_0 (_ : Params) : Obj := ⟨(.type "tuple"), .none, .seq [].toArray 0, [].toArray⟩
noncomputable def ob_406_0 (_ : Params) : Obj := ⟨n, .none, .fields [].toArray, [].toArray⟩
noncomputable def ob_407_0 (_ : Params) : Obj := ⟨(.type "tuple"), .none, .seq [(.str (o "self") 723), (.str (o "other") 724), (.str (o "new_coeffs") 725)].toArray 0, [].toArray⟩
noncomputable def ob_408_0 (_ : Params) : Obj := ⟨(.type "tuple"), .none, .seq [].toArray 0, [].toArray⟩
noncomputable def ob_409_0 (_ : Params) : Obj := ⟨n, .none, .func (f (sub 7 6) (o "__add__") (o "PolynomialNTT.__add__") 0 [] n n n n .none n n 0), [].toArray⟩
noncomputable def ob_410_0 (_ : Params) : Obj := ⟨(.type "code"), .none, .fields [(.str (o "__add__") 720), (.str (o "PolynomialNTT.__add__") 721), (.str (o "/claim/cut.py") 722), (.int (277) 0), (.int (2) 0), (.int (0) 0), (.int (0) 0), (.int (3) 0), (.ref 405), (.bool true), (.int (181) 0), (.ref 406), n, (.ref 407), (.ref 408), (.ref 409), (.int (726) 0), (.int (277) 0), (.str (o "/claim/cut.py") 727)].toArray, [].toArray⟩
noncomputable def ob_411_0 (_ : Params) : Obj := ⟨(.type "function"), .none, .func (f (sub 7 6) (o "__add__") (o "PolynomialNTT.__add__") 3 [] n n n (.str (o "kyber_py.polynomials.polynomials") 448) .none (.ref 410) n 0), [].toArray⟩
noncomputable def ob_412_0 (_ : Params) : Obj := ⟨(.type "tuple"), .none, .seq [].toArray 0, [].toArray⟩
noncomputable def ob_413_0 (_ : Params) : Obj := ⟨n, .none, .fields [].toArray, [].toArray⟩
noncomputable def ob_414_0 (_ : Params) : Obj := ⟨(.type "tuple"), .none, .seq [(.str (o "self") 732), (.str (o "other") 733), (.str (o "new_coeffs") 734)].toArray 0, [].toArray⟩
noncomputable def ob_415_0 (_ : Params) : Obj := ⟨(.type "tuple"), .none, .seq [].toArray 0, [].toArray⟩
noncomputable def ob_416_0 (_ : Params) : Obj := ⟨n, .none, .func (f (sub 7 7) (o "__sub__") (o "PolynomialNTT.__sub__") 0 [] n n n n .none n n 0), [].toArray⟩
noncomputable def ob_417_0 (_ : Params) : Obj := ⟨(.type "code"), .none, .fields [(.str (o "__sub__") 729), (.str (o "PolynomialNTT.__sub__") 730), (.str (o "/claim/cut.py") 731), (.int (281) 0), (.int (2) 0), (.int (0) 0), (.int (0) 0), (.int (3) 0), (.ref 412), (.bool true), (.int (181) 0), (.ref 413), n, (.ref 414), (.ref 415), (.ref 416), (.int (735) 0), (.int (281) 0), (.str (o "/claim/cut.py") 736)].toArray, [].toArray⟩
noncomputable def ob_418_0 (_ : Params) : Obj := ⟨(.type "function"), .none, .func (f (sub 7 7) (o "__sub__") (o "PolynomialNTT.__sub__") 3 [] n n n (.str (o "kyber_py.polynomials.polynomials") 448) .none (.ref 417) n 0), [].toArray⟩
noncomputable def ob_419_0 (_ : Params) : Obj := ⟨(.type "tuple"), .none, .seq [].toArray 0, [].toArray⟩
noncomputable def ob_420_0 (_ : Params) : Obj := ⟨n, .none, .fields [].toArray, [].toArray⟩
noncomputable def ob_421_0 (_ : Params) : Obj := ⟨n, .none, .func (f (sub 7 8) (o "__mul__") (o "PolynomialNTT.__mul__") 0 [] n n n n .none n n 0), [].toArray⟩
noncomputable def ob_422_0 (_ : Params) : Obj := ⟨(.type "code"), .none, .fields [(.str (o "__mul__") 738), (.str (o "PolynomialNTT.__mul__") 739), (.str (o "/claim/cut.py") 740), (.int (285) 0), (.int (2) 0), (.int (0) 0), (.int (0) 0), (.int (3) 0), (.ref 419), (.bool true), (.int (181) 0), (.ref 420), n, n, n, (.ref 421), (.int (741) 0), (.int (285) 0), (.str (o "/claim/cut.py") 742)].toArray, [].toArray⟩
noncomputable def ob_423_0 (_ : Params) : Obj := ⟨(.type "function"), .none, .func (f (sub 7 8) (o "__mul__") (o "PolynomialNTT.__mul__") 3 [] n n n (.str (o "kyber_py.polynomials.polynomials") 448) .none (.ref 422) n 0), [].toArray⟩
noncomputable def ob_424_0 (_ : Params) : Obj := ⟨(.type "tuple"), .none, .seq [(.str (o "coeffs") 744), (.str (o "parent") 745)].toArray 0, [].toArray⟩
noncomputable def ob_425_0 (P : Params) : Obj := ⟨(.type "dict"), .none, .dict [e P (o "__module__") 632 (.str (o "kyber_py.polynomials.polynomials") 448), e P (o "__firstlineno__") 636 (.int (226) 635), e P (o "__init__") 645 (.ref 366), e P (o "to_ntt") 652 (.ref 373), e P (o "from_ntt") 669 (.ref 380), e P (o "_ntt_base_multiplication") 694 (.ref 389), e P (o "_ntt_coefficient_multiplication") 710 (.ref 397), e P (o "_ntt_multiplication") 719 (.ref 404), e P (o "__add__") 728 (.ref 411), e P (o "__sub__") 737 (.ref 418), e P (o "__mul__") 743 (.ref 423), e P (o "__static_attributes__") 746 (.ref 424), e P (o "__doc__") 747 n].toArray 2, [].toArray⟩
noncomputable def ob_426_0 (_ : Params) : Obj := ⟨(.type "type"), .none, .cls ⟨(o "PolynomialNTT"), [(.ref 350)], [(.ref 426), (.ref 350), (.ref 222), (.type "object")], 425, (o "PolynomialNTT"), true, [], [], false, .none, false⟩, [(.some (.ref 353)), .none, (.some (.str (o "PolynomialNTT") 625)), (.some (.str (o "PolynomialNTT") 633)), (.some (.builtin "object.__new__")), (.some (.bool true))].toArray⟩
noncomputable def ob_427_0 (_ : Params) : Obj := ⟨(.type "super"), .none, .fields [(.ref 426), (.ref 426), (.ref 426)].toArray, [].toArray⟩
noncomputable def ob_428_0 (_ : Params) : Obj := ⟨(.type "builtin_function_or_method"), .none, .fields [(.builtin "object.__init_subclass__"), (.ref 426)].toArray, [].toArray⟩
noncomputable def hp_7 (P : Params) : Heap := ⟨Array.mk (boot_o_0 P :: boot_o_1 P :: boot_o_2 P :: ob_3_5 P :: boot_o_4 P :: boot_o_5 P :: boot_o_6 P :: boot_o_7 P :: boot_o_8 P :: boot_o_9 P :: boot_o_10 P :: ob_11_0 P :: ob_12_5 P :: ob_13_0 P :: ob_14_0 P :: ob_15_0 P :: ob_16_0 P :: ob_17_0 P :: ob_18_0 P :: ob_19_0 P :: ob_20_0 P :: ob_21_0 P :: ob_22_0 P :: ob_23_0 P :: ob_24_0 P :: ob_25_0 P :: ob_26_0 P :: ob_27_0 P :: ob_28_0 P :: ob_29_0 P :: ob_30_0 P :: ob_31_0 P :: ob_32_0 P :: ob_33_0 P :: ob_34_0 P :: ob_35_0 P :: ob_36_0 P :: ob_37_0 P :: ob_38_0 P :: ob_39_0 P :: ob_40_0 P :: ob_41_0 P :: ob_42_0 P :: ob_43_0 P :: ob_44_0 P :: ob_45_0 P :: ob_46_0 P :: ob_47_0 P :: ob_48_0 P :: ob_49_0 P :: ob_50_0 P :: ob_51_0 P :: ob_52_0 P :: ob_53_0 P :: ob_54_0 P :: ob_55_0 P :: ob_56_0 P :: ob_57_0 P :: ob_58_0 P :: ob_59_1 P :: ob_60_0 P :: ob_61_0 P :: ob_62_0 P :: ob_63_0 P :: ob_64_0 P :: ob_65_0 P :: ob_66_0 P :: ob_67_0 P :: ob_68_0 P :: ob_69_0 P :: ob_70_0 P :: ob_71_0 P :: ob_72_0 P :: ob_73_0 P :: ob_74_0 P :: ob_75_0 P :: ob_76_0 P :: ob_77_0 P :: ob_78_0 P :: ob_79_0 P :: ob_80_0 P :: ob_81_0 P :: ob_82_0 P :: ob_83_0 P :: ob_84_0 P :: ob_85_0 P :: ob_86_0 P :: ob_87_0 P :: ob_88_0 P :: ob_89_0 P :: ob_90_0 P :: ob_91_0 P :: ob_92_0 P :: ob_93_0 P :: ob_94_0 P :: ob_95_0 P :: ob_96_0 P :: ob_97_0 P :: ob_98_0 P :: ob_99_0 P :: ob_100_0 P :: ob_101_0 P :: ob_102_0 P :: ob_103_0 P :: ob_104_0 P :: ob_105_0 P :: ob_106_0 P :: ob_107_0 P :: ob_108_0 P :: ob_109_0 P :: ob_110_0 P :: ob_111_0 P :: ob_112_0 P :: ob_113_0 P :: ob_114_0 P :: ob_115_0 P :: ob_116_0 P :: ob_117_0 P :: ob_118_0 P :: ob_119_0 P :: ob_120_0 P :: ob_121_0 P :: ob_122_0 P :: ob_123_0 P :: ob_124_0 P :: ob_125_0 P :: ob_126_0 P :: ob_127_0 P :: ob_128_0 P :: ob_129_0 P :: ob_130_0 P :: ob_131_0 P :: ob_132_0 P :: ob_133_0 P :: ob_134_0 P :: ob_135_0 P :: ob_136_0 P :: ob_137_0 P :: ob_138_0 P :: ob_139_0 P :: ob_140_0 P :: ob_141_0 P :: ob_142_0 P :: ob_143_0 P :: ob_144_0 P :: ob_145_0 P :: ob_146_0 P :: ob_147_0 P :: ob_148_0 P :: ob_149_0 P :: ob_150_0 P :: ob_151_0 P :: ob_152_0 P :: ob_153_0 P :: ob_154_0 P :: ob_155_0 P :: ob_156_0 P :: ob_157_0 P :: ob_158_0 P :: ob_159_0 P :: ob_160_0 P :: ob_161_0 P :: ob_162_0 P :: ob_163_0 P :: ob_164_0 P :: ob_165_0 P :: ob_166_0 P :: ob_167_0 P :: ob_168_0 P :: ob_169_0 P :: ob_170_0 P :: ob_171_0 P :: ob_172_0 P :: ob_173_0 P :: ob_174_0 P :: ob_175_0 P :: ob_176_0 P :: ob_177_0 P :: ob_178_0 P :: ob_179_0 P :: ob_180_0 P :: ob_181_0 P :: ob_182_0 P :: ob_183_0 P :: ob_184_0 P :: ob_185_0 P :: ob_186_0 P :: ob_187_0 P :: ob_188_0 P :: ob_189_0 P :: ob_190_0 P :: ob_191_0 P :: ob_192_0 P :: ob_193_0 P :: ob_194_0 P :: ob_195_0 P :: ob_196_0 P :: ob_197_0 P :: ob_198_0 P :: ob_199_0 P :: ob_200_0 P :: ob_201_0 P :: ob_202_0 P :: ob_203_0 P :: ob_204_0 P :: ob_205_0 P :: ob_206_0 P :: ob_207_0 P :: ob_208_0 P :: ob_209_0 P :: ob_210_0 P :: ob_211_0 P :: ob_212_0 P :: ob_213_0 P :: ob_214_0 P :: ob_215_0 P :: ob_216_0 P :: ob_217_0 P :: ob_218_0 P :: ob_219_0 P :: ob_220_0 P :: ob_221_0 P :: ob_222_1 P :: ob_223_0 P :: ob_224_0 P :: ob_225_0 P :: ob_226_0 P :: ob_227_0 P :: ob_228_0 P :: ob_229_0 P :: ob_230_0 P :: ob_231_0 P :: ob_232_0 P :: ob_233_0 P :: ob_234_0 P :: ob_235_0 P :: ob_236_0 P :: ob_237_0 P :: ob_238_0 P :: ob_239_0 P :: ob_240_0 P :: ob_241_0 P :: ob_242_0 P :: ob_243_0 P :: ob_244_0 P :: ob_245_0 P :: ob_246_0 P :: ob_247_0 P :: ob_248_0 P :: ob_249_0 P :: ob_250_0 P :: ob_251_0 P :: ob_252_0 P :: ob_253_0 P :: ob_254_0 P :: ob_255_0 P :: ob_256_0 P :: ob_257_0 P :: ob_258_0 P :: ob_259_0 P :: ob_260_0 P :: ob_261_0 P :: ob_262_0 P :: ob_263_0 P :: ob_264_0 P :: ob_265_0 P :: ob_266_0 P :: ob_267_0 P :: ob_268_0 P :: ob_269_0 P :: ob_270_0 P :: ob_271_0 P :: ob_272_0 P :: ob_273_0 P :: ob_274_0 P :: ob_275_0 P :: ob_276_0 P :: ob_277_0 P :: ob_278_0 P :: ob_279_0 P :: ob_280_0 P :: ob_281_0 P :: ob_282_0 P :: ob_283_0 P :: ob_284_0 P :: ob_285_0 P :: ob_286_0 P :: ob_287_0 P :: ob_288_0 P :: ob_289_0 P :: ob_290_0 P :: ob_291_0 P :: ob_292_0 P :: ob_293_0 P :: ob_294_0 P :: ob_295_0 P :: ob_296_0 P :: ob_297_0 P :: ob_298_0 P :: ob_299_0 P :: ob_300_0 P :: ob_301_0 P :: ob_302_0 P :: ob_303_0 P :: ob_304_0 P :: ob_305_0 P :: ob_306_0 P :: ob_307_0 P :: ob_308_0 P :: ob_309_0 P :: ob_310_0 P :: ob_311_0 P :: ob_312_0 P :: ob_313_0 P :: ob_314_0 P :: ob_315_0 P :: ob_316_0 P :: ob_317_0 P :: ob_318_0 P :: ob_319_0 P :: ob_320_0 P :: ob_321_0 P :: ob_322_0 P :: ob_323_0 P :: ob_324_0 P :: ob_325_0 P :: ob_326_0 P :: ob_327_0 P :: ob_328_0 P :: ob_329_0 P :: ob_330_0 P :: ob_331_0 P :: ob_332_0 P :: ob_333_0 P :: ob_334_0 P :: ob_335_0 P :: ob_336_0 P :: ob_337_0 P :: ob_338_0 P :: ob_339_0 P :: ob_340_0 P :: ob_341_0 P :: ob_342_0 P :: ob_343_0 P :: ob_344_0 P :: ob_345_0 P :: ob_346_0 P :: ob_347_0 P :: ob_348_0 P :: ob_349_0 P :: ob_350_1 P :: ob_351_0 P :: ob_352_0 P :: ob_353_0 P :: ob_354_0 P :: ob_355_0 P :: ob_356_0 P :: ob_357_0 P :: ob_358_0 P :: ob_359_0 P :: ob_360_0 P :: ob_361_0 P :: ob_362_0 P :: ob_363_0 P :: ob_364_0 P :: ob_365_0 P :: ob_366_0 P :: ob_367_0 P :: ob_368_0 P :: ob_369_0 P :: ob_370_0 P :: ob_371_0 P :: ob_372_0 P :: ob_373_0 P :: ob_374_0 P :: ob_375_0 P :: ob_376_0 P :: ob_377_0 P :: ob_378_0 P :: ob_379_0 P :: ob_380_0 P :: ob_381_0 P :: ob_382_0 P :: ob_383_0 P :: ob_384_0 P :: ob_385_0 P :: ob_386_0 P :: ob_387_0 P :: ob_388_0 P :: ob_389_0 P :: ob_390_0 P :: ob_391_0 P :: ob_392_0 P :: ob_393_0 P :: ob_394_0 P :: ob_395_0 P :: ob_396_0 P :: ob_397_0 P :: ob_398_0 P :: ob_399_0 P :: ob_400_0 P :: ob_401_0 P :: ob_402_0 P :: ob_403_0 P :: ob_404_0 P :: ob_405_0 P :: ob_406_0 P :: ob_407_0 P :: ob_408_0 P :: ob_409_0 P :: ob_410_0 P :: ob_411_0 P :: ob_412_0 P :: ob_413_0 P :: ob_414_0 P :: ob_415_0 P :: ob_416_0 P :: ob_417_0 P :: ob_418_0 P :: ob_419_0 P :: ob_420_0 P :: ob_421_0 P :: ob_422_0 P :: ob_423_0 P :: ob_424_0 P :: ob_425_0 P :: ob_426_0 P :: ob_427_0 P :: ob_428_0 P :: []), { }⟩
noncomputable def env : Env := { scope := PySem.Challenge.pw_yi0059_01.main.scope, locals := mainNs, globals := mainNs, cells := [], code := .ref 13, frame := some 14 }
noncomputable def cE : Code := .body (behindTheImports PySem.Challenge.pw_yi0059_01) env
theorem run_pre : ∀ (w : World) (os : OsState), topGo treeTable PySem.Challenge.pw_yi0059_01 w 11 (some (Value.ref 6)) 12 (begins w os) (topStub PySem.Challenge.pw_yi0059_01) = some (⟨hp_a w.params, Array.mk [], {}, 187, os⟩, ⟨denote treeTable cE, cE, ⟨0, 0, 0, 0⟩, [topFrame ⟨0, 0, 0, 0⟩]⟩) := by
  intro w os
  rewrite [PySem.W.Fast.te15667345088766844465, PySem.W.Fast.te14364793385576792824, PySem.W.Fast.te11892475500146522536]
  kernel_rfl
theorem run_block : ∀ (w : World) (os : OsState), segRun treeTable PySem.Challenge.pw_yi0059_01 w 11 (some (Value.ref 6)) 1 1 ⟨hp_a w.params, Array.mk [], {}, 187, os⟩ (blockOf (behindTheImports PySem.Challenge.pw_yi0059_01) env cE ⟨0, 0, 0, 0⟩ [topFrame ⟨0, 0, 0, 0⟩]) = some (.next, ⟨hp_b w.params, Array.mk [], {}, 187, os⟩, cE, ⟨0, 0, 0, 0⟩) := by
  intro w os
  rewrite [PySem.W.Fast.te14374325043358763698, PySem.W.Fast.te14364793385576792824]
  kernel_rfl
theorem run_seg0 : ∀ (w : World) (os : OsState), segRun treeTable PySem.Challenge.pw_yi0059_01 w 11 (some (Value.ref 6)) 1 400 ⟨hp_b w.params, Array.mk [], {}, 187, os⟩ (piecesOf [top 0, top 1, top 2] env cE ⟨0, 0, 0, 0⟩ [topFrame ⟨0, 0, 0, 0⟩]) = some (.next, ⟨hp_2 w.params, Array.mk [], {}, 249, os⟩, cE, ⟨5, 0, 22, 52⟩) := by
  intro w os
  rewrite [PySem.W.Fast.te14374325043358763698, PySem.W.Fast.te14364793385576792824]
  kernel_rfl
theorem run_seg1 : ∀ (w : World) (os : OsState), segRun treeTable PySem.Challenge.pw_yi0059_01 w 11 (some (Value.ref 6)) 1 1000 ⟨hp_2 w.params, Array.mk [], {}, 249, os⟩ (piecesOf [top 3] env cE ⟨5, 0, 22, 52⟩ [topFrame ⟨0, 0, 0, 0⟩]) = some (.next, ⟨hp_3 w.params, Array.mk [], {}, 448, os⟩, cE, ⟨23, 0, 150, 31⟩) := by
  intro w os
  rewrite [PySem.W.Fast.te14374325043358763698, PySem.W.Fast.te14364793385576792824]
  kernel_rfl
theorem run_seg2 : ∀ (w : World) (os : OsState), segRun treeTable PySem.Challenge.pw_yi0059_01 w 11 (some (Value.ref 6)) 1 600 ⟨hp_3 w.params, Array.mk [], {}, 448, os⟩ (piecesOf [top 4, top 5] env cE ⟨23, 0, 150, 31⟩ [topFrame ⟨0, 0, 0, 0⟩]) = some (.next, ⟨hp_5 w.params, Array.mk [], {}, 534, os⟩, cE, ⟨152, 0, 182, 48⟩) := by
  intro w os
  rewrite [PySem.W.Fast.te14374325043358763698, PySem.W.Fast.te14364793385576792824]
  kernel_rfl
theorem run_seg3 : ∀ (w : World) (os : OsState), segRun treeTable PySem.Challenge.pw_yi0059_01 w 11 (some (Value.ref 6)) 1 520 ⟨hp_5 w.params, Array.mk [], {}, 534, os⟩ (piecesOf [top 6] env cE ⟨152, 0, 182, 48⟩ [topFrame ⟨0, 0, 0, 0⟩]) = some (.next, ⟨hp_6 w.params, Array.mk [], {}, 625, os⟩, cE, ⟨183, 0, 225, 59⟩) := by
  intro w os
  rewrite [PySem.W.Fast.te14374325043358763698, PySem.W.Fast.te14364793385576792824]
  kernel_rfl
theorem run_seg4 : ∀ (w : World) (os : OsState), segRun treeTable PySem.Challenge.pw_yi0059_01 w 11 (some (Value.ref 6)) 1 720 ⟨hp_6 w.params, Array.mk [], {}, 625, os⟩ (piecesOf [top 7] env cE ⟨183, 0, 225, 59⟩ [topFrame ⟨0, 0, 0, 0⟩]) = some (.next, ⟨hp_7 w.params, Array.mk [], {}, 750, os⟩, cE, ⟨226, 0, 292, 51⟩) := by
  intro w os
  rewrite [PySem.W.Fast.te14374325043358763698, PySem.W.Fast.te14364793385576792824]
  kernel_rfl
theorem run_tail : ∀ (w : World) (os : OsState), (topRun treeTable PySem.Challenge.pw_yi0059_01 w 11 (some (Value.ref 6)) 200 ⟨hp_7 w.params, Array.mk [], {}, 750, os⟩ (restOf [top 8, top 9, top 10] env cE ⟨226, 0, 292, 51⟩ [topFrame ⟨0, 0, 0, 0⟩])).map (fun s => (endOk (boot_heap w.params) s, openSeen view [Str.ofString "PolynomialRing", Str.ofString "PolynomialNTT"] [] Xt true s, (kHook K as as_K).obs s)) = some (true, openGood view [Str.ofString "PolynomialRing", Str.ofString "PolynomialNTT"], (kHook K as as_K).val w) := by
  intro w os
  rewrite [PySem.W.Fast.te14082659384304107361, PySem.W.Fast.te14364793385576792824, PySem.W.Fast.te4187177175401517315]
  kernel_rfl
theorem the_body : behindTheImports PySem.Challenge.pw_yi0059_01 = [top 0, top 1, top 2] ++ ([top 3] ++ ([top 4, top 5] ++ ([top 6] ++ ([top 7] ++ [top 8, top 9, top 10])))) := by kernel_rfl
theorem run_now : ∀ (w : World) (os : OsState), (topRun treeTable PySem.Challenge.pw_yi0059_01 w 11 (some (Value.ref 6)) 3453 (begins w os) (topStub PySem.Challenge.pw_yi0059_01)).map (fun s => (endOk (boot_heap w.params) s, openSeen view [Str.ofString "PolynomialRing", Str.ofString "PolynomialNTT"] [] Xt true s, (kHook K as as_K).obs s)) = some (true, openGood view [Str.ofString "PolynomialRing", Str.ofString "PolynomialNTT"], (kHook K as as_K).val w) := by
  intro w os
  obtain ⟨r, hr, hF⟩ := Option.map_eq_some_iff.mp (run_tail w os)
  have k4 := piece_app (run_seg4 w os) hr
  have k3 := piece_app (run_seg3 w os) k4
  have k2 := piece_app (run_seg2 w os) k3
  have k1 := piece_app (run_seg1 w os) k2
  have k0 := piece_app (run_seg0 w os) k1
  rw [← the_body] at k0
  have kb := piece_block (run_block w os) k0
  have kp := go_top (run_pre w os) kb
  exact Option.map_eq_some_iff.mpr ⟨r, kp, hF⟩
theorem sized : ∀ w os, ((begins w os).heap.isNs mainGlobals && (begins w os).gens.size == 0) = true ∧ (begins w os).heap.objs.size = 11 ∧ (begins w os).heap.nsMap mainGlobals "__annotations__" = some (Value.ref 6) := fun w os => ⟨by kernel_rfl, by kernel_rfl, by kernel_rfl⟩
theorem left : LeftO PySem.Challenge.pw_yi0059_01 view [Str.ofString "PolynomialRing", Str.ofString "PolynomialNTT"] Xt (kHook K as as_K).obs (kHook K as as_K).val 3453 true := left_of opens sized run_now
end head
section walk
open PySem PySem.W PyProof.Rows
local macro_rules | `(tactic| k_in) => `(tactic| first | with_reducible assumption | (refine' Frag.In.keeps ?kfX (Fr.keep ?kfF); (case kfF => with_reducible assumption); (case kfX => with_reducible assumption)))
local macro_rules | `(tactic| walk_at "call builtin:bin") => `(tactic| (k_here; (refine' call_binK ?k1 ?k2 ?_); (case k1 => omega); (case k2 => omega); intro _ _))
local macro_rules | `(tactic| walk_at "subscriptTail Call Name cons nil Slice str ref") => `(tactic| (k_here; (with_reducible show wpAny _ _ (subscriptTail _ _ (Value.str (tA _) _) _) _ _ _); (refine slice_tB (s := ⟨_, _, _, _, _⟩) (by k_asm) (by k_asm) (by omega) (by omega) (by rfl) ?_); intro h' t' c' F' N'; (try k_sweep)))
local macro_rules | `(tactic| walk_at "subscriptTail Name Slice str ref") => `(tactic| (k_here; (with_reducible show wpAny _ _ (subscriptTail _ _ (Value.str (tC _) _) _) _ _ _); (refine slice_tD (s := ⟨_, _, _, _, _⟩) (by k_asm) (by k_asm) (by omega) (by omega) (by rfl) ?_); intro h' t' c' F' N'; (try k_sweep)))
local macro_rules | `(tactic| walk_at "call builtin:str.zfill") => `(tactic| (k_here; (with_reducible show wpAny _ _ (call _ [Value.str (tB _) _, _]) _ _ _); (refine call_zf ?_); intro _ _))
local macro_rules | `(tactic| walk_at "call type:int") => `(tactic| (k_here; (with_reducible show wpAny _ _ (call _ [Value.str _ _, _]) _ _ _); (refine' call_br ?k1 ?k2 ?_); (case k1 => omega); (case k2 => omega); intro _ _))
local macro_rules | `(tactic| walk_at "call builtin:pow") => `(tactic| (k_here; first | ((refine call_powinv ?_); intro _ _) | ((refine call_pow3 (by exact brZ_nonneg _) ?_); intro _ _)))
local macro_rules | `(tactic| walk_at "callWith ref") => `(tactic| (k_here; kco_any "__call__"; kco_here; k_dflt (refine' callWith_ownKW ?k1 ?k2 ?k3 ?k4 ?k5 ?_; (case k1 => k_in); (case k2 => k_inst); (case k3 => rfl); (case k4 => k_is); (case k5 => exact rfl); k_whole)))
local macro_rules | `(tactic| walk_at "subscriptTail Name Name ref int") => `(tactic| (k_here; (with_reducible show wpAny _ _ (subscriptTail (Expr.Name (Str.ofString "zetas") _) _ (Value.ref _) (Value.int _ _)) _ _ _); k_dflt (refine' get_zet ?k1 ?k2 ?k3 ?k4 ?_ ?k7; (case k1 => k_asm); (case k2 => k_mem); (case k3 => with_reducible assumption); (case k4 => first | exact InFact.kk (InF.fact (by assumption) (by assumption)) | exact InFact.kk (InB.fact (by assumption) (by assumption))); (case k7 => with_unfolding_all rfl); k_whole); intro _))
local macro_rules | `(tactic| walk_at "subscriptTail Name Name ref int") => `(tactic| (k_here; (with_reducible show wpAny _ _ (subscriptTail (Expr.Name (Str.ofString "coeffs") _) _ (Value.ref _) (Value.int _ _)) _ _ _); k_dflt (refine' get256 ?k1 ?k2 ?k3 ?k4 ?k5 ?_ ?k7; (case k1 => k_asm); (case k2 => k_mem); (case k3 => with_reducible assumption); (case k4 => with_reducible assumption); (case k5 => first | exact Idx.lo (by assumption) | exact Ix.a (by assumption)); (case k7 => with_unfolding_all rfl); k_whole); intro _))
local macro_rules | `(tactic| walk_at "subscriptTail Name BinOp ref int") => `(tactic| (k_here; (with_reducible show wpAny _ _ (subscriptTail (Expr.Name (Str.ofString "coeffs") _) _ (Value.ref _) (Value.int _ _)) _ _ _); k_dflt (refine' get256 ?k1 ?k2 ?k3 ?k4 ?k5 ?_ ?k7; (case k1 => k_asm); (case k2 => k_mem); (case k3 => with_reducible assumption); (case k4 => with_reducible assumption); (case k5 => exact Idx.hi (by assumption)); (case k7 => with_unfolding_all rfl); k_whole); intro _))
local macro_rules | `(tactic| walk_at "setItem ref int int") => `(tactic| (k_here; (with_reducible show wpAny _ _ (setItem (Value.ref _) (Value.int _ _) (Value.int _ _)) _ _ _); k_dflt (refine' set256 ?k1 ?k2 ?k3 ?k4 ?k5 ?k6 ?_; (case k1 => k_asm); (case k2 => k_asm); (case k3 => k_upd); (case k4 => with_reducible assumption); (case k5 => with_reducible assumption); (case k6 => first | exact Idx.lo (by assumption) | exact Idx.hi (by assumption) | exact Ix.a (by assumption)); k_whole); intro h' F' N' hi' hl'; (try k_sweep)))
local macro_rules | `(tactic| walk_at "binaryOp Mult int int") => `(tactic| first | with_reducible refine mul_zet ?_ | with_reducible refine mul_inv ?_)
local macro_rules | `(tactic| walk_at "pyIter ref") => `(tactic| ((with_reducible show wpAny _ _ (pyIter (Value.ref _)) (fun it s₂ => LoopAtV _ _ _ _ _ _ _ _ _ it s₂) _ _); k_here; (have I9 := InF.fact (by assumption) (by assumption)); (rename Fr _ _ _ _ => lF'); (rename News _ _ _ _ => lN'); (rename IsRange _ _ _ _ _ _ _ _ => rgX); (with_unfolding_all refine' for_fwd I9 (by rfl) rgX ?kz ?kl lF' lN' ?kc ?km ?kU ?ki ?klen (fun j' t' vs' ns' u' h' tk' own' hIdx' hLen' hI' hOff' F' N' => ?_) (fun vs' u' t' h' tk' hI' hLen' F' N' => ?_); (case kz => exact rfl); (case kl => exact rfl); (case kc => exact rfl); (case km => k_mem); (case kU => k_updF); (case ki => assumption); (case klen => exact InF.len (by assumption))); (all_goals (try clear lF' lN')); (all_goals (try dsimp only at N')); (all_goals (try simp only [List.nil_append, List.cons_append] at N')); (all_goals (try k_fold))))
local macro_rules | `(tactic| walk_at "pyIter ref") => `(tactic| ((with_reducible show wpAny _ _ (pyIter (Value.ref _)) (fun it s₂ => LoopAtV _ _ _ _ _ _ _ _ _ it s₂) _ _); k_here; (have I9 := InB.fact (by assumption) (by assumption)); (rename Fr _ _ _ _ => lF'); (rename News _ _ _ _ => lN'); (rename IsRange _ _ _ _ _ _ _ _ => rgX); (with_unfolding_all refine' for_inv I9 (by rfl) rgX ?kz ?kl lF' lN' ?kc ?km ?kU ?ki ?klen (fun j' t' vs' ns' u' h' tk' own' hIdx' hLen' hI' hOff' F' N' => ?_) (fun vs' u' t' h' tk' hI' hLen' F' N' => ?_); (case kz => exact rfl); (case kl => exact rfl); (case kc => exact rfl); (case km => k_mem); (case kU => k_updF); (case ki => assumption); (case klen => exact InB.len (by assumption))); (all_goals (try clear lF' lN')); (all_goals (try dsimp only at N')); (all_goals (try simp only [List.nil_append, List.cons_append] at N')); (all_goals (try k_fold))))
local macro_rules | `(tactic| walk_at "InvEndN") => `(tactic| (k_dflt ((rename News _ _ _ _ => nE'); (with_reducible rename Fr _ _ _ _ => fE'); (with_reducible rename IntsAre _ _ => iE'); (refine fj_end _ fE' nE' iE' (by kst_in) (by (intro p hp; kst_mem)) (by rfl) ⟨_, by rfl⟩ (by (intro z h1 h3; first | rfl | (simp [h1]; done) | ((simp only [List.contains_cons, List.contains_nil, Bool.or_false, Bool.or_eq_false_iff, beq_eq_false_iff_ne, ne_eq] at h3); (simp [h1, h3]; done))))))))
local macro_rules | `(tactic| walk_at "exec While Compare cons nil") => `(tactic| (k_here; (with_reducible show wpAny _ _ (exec (Stmt.While (Expr.Compare (Expr.Name (Str.ofString "l") _) [CmpOp.LtE] _ _) _ _ _) _) _ _ _); k_while_given ["coeffs!"] (fun c0 script l k c => OuB c0 l k c) (fun c0 script l k c => (300 - l).toNat) "l" "k" "coeffs"))
local macro_rules | `(tactic| walk_at "exec While Compare cons nil") => `(tactic| (k_here; (with_reducible show wpAny _ _ (exec (Stmt.While (Expr.Compare (Expr.Name (Str.ofString "l") _) [CmpOp.GtE] _ _) _ _ _) _) _ _ _); k_while_given ["coeffs!"] (fun c0 script l k c => OuF c0 l k c) (fun c0 script l k c => l.toNat) "l" "k" "coeffs"))
local macro_rules | `(tactic| walk_at "exec While Compare cons nil") => `(tactic| (k_here; (with_reducible show wpAny _ _ (exec (Stmt.While (Expr.Compare (Expr.Name (Str.ofString "start") _) _ _ _) _ _ _) _) _ _ _); first | ((have h9 := OuF.inner (by assumption) (by assumption)); clear h9; k_while_given ["l", "coeffs!", "k!"] (fun l c0 k0 script start k c => InF l c0 k0 start k c) (fun l c0 k0 script start k c => (256 - start).toNat) "start" "k" "coeffs") | ((have h9 := OuB.inner (by assumption) (by assumption)); clear h9; k_while_given ["l", "coeffs!", "k!"] (fun l c0 k0 script start k c => InB l c0 k0 start k c) (fun l c0 k0 script start k c => (256 - start).toNat) "start" "k" "coeffs")))
local macro_rules | `(tactic| walk_at "call builtin:isinstance") => `(tactic| (k_here; (with_reducible show wpAny _ _ (call _ [Value.ref _, Value.type _]) _ _ _); kit_cont; k_dflt kit_objs))
local macro_rules | `(tactic| walk_at "call builtin:len") => `(tactic| (k_here; (with_reducible show wpAny _ _ (call (Value.builtin "len") [Value.ref _]) _ _ _); k_dflt (refine' len256 ?k1 ?k2 ?k3 ?k4 ?_; (case k1 => k_asm); (case k2 => k_mem); (case k3 => with_reducible assumption); (case k4 => first | with_reducible assumption | with_reducible exact row_L256); k_whole); intro _ _))
local macro_rules | `(tactic| walk_at "pyIter ref") => `(tactic| ((with_reducible show wpAny _ _ (pyIter (Value.ref _)) (fun it s₂ => LoopAtV _ _ _ _ _ _ [Stmt.Assign _ (Expr.BinOp (Expr.Subscript _ _ _) Operator.Mod _ _) _] _ _ it s₂) _ _); k_here; (have hL9 := (OuF.last (by assumption) (by assumption)).2); (rename Fr _ _ _ _ => lF'); (rename News _ _ _ _ => lN'); (rename IsRange _ _ _ _ _ _ _ _ => rgX); (with_unfolding_all refine' for_all fm L256.fm (by rfl) rgX lF' lN' ?kc ?km ?kU ?ki ?klen (fun j' t' vs' ns' u' h' tk' own' hIdx' hLen' hI' hOff' F' N' => ?_) (fun vs' u' t' h' tk' hI' hLen' F' N' => ?_); (case kc => exact rfl); (case km => k_mem); (case kU => k_updF); (case ki => assumption); (case klen => exact hL9)); (all_goals (try clear lF' lN')); (all_goals (try dsimp only at N')); (all_goals (try simp only [List.nil_append, List.cons_append] at N')); (all_goals (try k_fold))))
local macro_rules | `(tactic| walk_at "pyIter ref") => `(tactic| ((with_reducible show wpAny _ _ (pyIter (Value.ref _)) (fun it s₂ => LoopAtV _ _ _ _ _ _ [Stmt.Assign _ (Expr.BinOp (Expr.BinOp _ Operator.Mult _ _) Operator.Mod _ _) _] _ _ it s₂) _ _); k_here; (have hL9 := (OuB.last (by assumption) (by assumption)).2); (rename Fr _ _ _ _ => lF'); (rename News _ _ _ _ => lN'); (rename IsRange _ _ _ _ _ _ _ _ => rgX); (with_unfolding_all refine' for_all sm L256.sm (by rfl) rgX lF' lN' ?kc ?km ?kU ?ki ?klen (fun j' t' vs' ns' u' h' tk' own' hIdx' hLen' hI' hOff' F' N' => ?_) (fun vs' u' t' h' tk' hI' hLen' F' N' => ?_); (case kc => exact rfl); (case km => k_mem); (case kU => k_updF); (case ki => assumption); (case klen => exact hL9)); (all_goals (try clear lF' lN')); (all_goals (try dsimp only at N')); (all_goals (try simp only [List.nil_append, List.cons_append] at N')); (all_goals (try k_fold))))
local macro_rules | `(tactic| walk_at "binaryOp LShift int int") => `(tactic| (k_here; (refine shl1 (by assumption) ?_)))
local macro_rules | `(tactic| walk_at "binaryOp RShift int int") => `(tactic| (k_here; (refine shr1 ?_)))
local macro_rules | `(tactic| walk_at "compareOp Eq ref ref") => `(tactic| (k_here; (with_reducible show wpAny _ _ (compareOp CmpOp.Eq (Value.ref _) (Value.ref _)) _ _ _); k_dflt (refine' eq_now ?k1 ?k2 ?k3 ?k4 ?k5 ?k6 ?k7 ?_; (case k1 => k_asm); (case k2 => k_mem); (case k3 => k_mem); (case k4 => with_reducible assumption); (case k5 => with_reducible assumption); (case k6 => ke_room); (case k7 => first | with_reducible exact law_forth row_L256 (by with_reducible assumption) (by with_reducible assumption) (by with_reducible assumption) (by with_reducible assumption) | with_reducible exact law_back row_L256 (by with_reducible assumption) (by with_reducible assumption) (by with_reducible assumption) (by with_reducible assumption)); k_whole)))
local macro_rules | `(tactic| walk_at "exec Raise some none") => `(tactic| (k_here; exact absurd (show Int.fmod _ 2 = 1 by with_reducible assumption) (by with_reducible assumption)))
local macro_rules | `(tactic| walk_at "getMethod ref") => `(tactic| (k_here; (with_reducible show wpAny _ _ (getMethod (Value.ref _) (Str.ofString "parent") _) _ _ _); walk_at "last getMethod ref"))
local macro_rules | `(tactic| walk_at "getMethod ref") => `(tactic| (k_here; (with_reducible show wpAny _ _ (getMethod (Value.ref _) (Str.ofString "_br") _) _ _ _); walk_at "last getMethod ref"))
set_option maxHeartbeats 40000000 in
theorem walked : PySem.Challenge.rw_yi0059_01.Holds := by
  clear walked
  w_on
  o_law
  refine holds_open (q := view) (loose := [Str.ofString "PolynomialRing", Str.ofString "PolynomialNTT"]) (Xt := Xt) (XP := XL view []) (Yf := (kHook K as as_K).obs) (Ya := (kHook K as as_K).val) (YP := (kHook K as as_K).says) (N := 3453) left (kHook K as as_K).of (kHook K as as_K).keeps (fun s e => xl_of s (Bool.and_eq_true_iff.mp e).1) XL.keeps (by rfl) (by rfl) (by rfl) (fun s e => recFacts_of (Bool.and_eq_true_iff.mp e).2) (by rfl) (by first | assumption | decide +kernel) (by decide +kernel) ⟨rfl, rfl, rfl, rfl, rfl, by decide +kernel⟩ ?hw ?hc
  case hw => w_witness2
  (rename _ = true => said9; clear said9)
  w_strict ((k_with "tree" => simp only [drawF]); (k_with "call ref" => k_call_by "_law_draw" drawF (fun (_ : List Int) (k : Int) => 0 ≤ k ∧ k ≤ 300)); (k_with "state" => first | (with_reducible refine OuF.start ?_; first | assumption | exact row_L256) | (with_reducible refine OuB.start ?_; first | assumption | exact row_L256) | with_reducible exact OuF.inner (by assumption) (by assumption) | with_reducible exact OuB.inner (by assumption) (by assumption) | with_reducible exact InF.next (by assumption) (by assumption) (e_fwd _ _) | with_reducible exact InB.next (by assumption) (by assumption) (e_inv _ _) | with_reducible exact OuF.next (by assumption) (by assumption) (by assumption) rfl | with_reducible exact OuB.next (by assumption) (by assumption) (by assumption) rfl); (k_with "measure" => first | with_reducible exact in_less (InF.fact (by assumption) (by assumption)) (by assumption) (e_fwd _ _) | with_reducible exact in_less (InB.fact (by assumption) (by assumption)) (by assumption) (e_inv _ _) | with_reducible exact ou_lessF (by assumption) | with_reducible exact ou_lessB (by assumption) (by assumption)); k_go)
end walk
end Mine
theorem PySem.Challenge.cw_yi0059_01_holds : PySem.Challenge.rw_yi0059_01.Holds := by
  exact Mine.walked
