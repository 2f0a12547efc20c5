import PyProof.Rows.All
import Wide.All
import OpenK.AllK
import Wide.FinOn
import PySem.Challenge.RW_yi0064_01
open PySem PySem.W PyProof.Rows
set_option Elab.async false
set_option maxRecDepth 100000
set_option maxHeartbeats 40000000
section
open PySem.Calls
namespace Mine

theorem gives_pow3 (a b c : Int) (t u v : Tok) (hb : ¬ b < 0) (hc0 : ¬(c == 0) = true) (hc1 : ¬(c.natAbs == 1) = true) (hc2 : ¬ (decide (c < 0) && (((Builtin.powMod (a % (c.natAbs : Int)).toNat b.natAbs c.natAbs : Nat) : Int) != 0)) = true) :
    Gives (Builtin.«int.__pow__» ⟨[.int a t, .int b u, .int c v], []⟩) (.int ((Builtin.powMod (a % (c.natAbs : Int)).toNat b.natAbs c.natAbs : Nat) : Int)) :=
  .of_wp fun M A E s Q h => by
    obtain ⟨hp, g, d, tk, os⟩ := s
    wp_walk
    refine ⟨_, rfl, ?_⟩
    rw [if_neg hc2]
    exact h

theorem gives_inv (t u v : Tok) :
    Gives (Builtin.«int.__pow__» ⟨[.int 128 t, .int (-1) u, .int 3329 v], []⟩) (.int 3303) :=
  .of_wp fun M A E s Q h => by
    obtain ⟨hp, g, d, tk, os⟩ := s
    wp_walk
    refine ⟨_, rfl, ?_⟩
    rw [show (if (decide ((3329 : Int) < 0) && ((Builtin.powMod ((0 - ((Int.natAbs 3329 : Nat) : Int) / (((128 % ((Int.natAbs 3329 : Nat) : Int)).toNat : Nat) : Int) * 1) % ((Int.natAbs 3329 : Nat) : Int)).toNat (-1 : Int).natAbs (Int.natAbs 3329) : Nat) : Int) != 0) = true then
                ((Builtin.powMod ((0 - ((Int.natAbs 3329 : Nat) : Int) / (((128 % ((Int.natAbs 3329 : Nat) : Int)).toNat : Nat) : Int) * 1) % ((Int.natAbs 3329 : Nat) : Int)).toNat (-1 : Int).natAbs (Int.natAbs 3329) : Nat) : Int) - ((Int.natAbs 3329 : Nat) : Int)
              else ((Builtin.powMod ((0 - ((Int.natAbs 3329 : Nat) : Int) / (((128 % ((Int.natAbs 3329 : Nat) : Int)).toNat : Nat) : Int) * 1) % ((Int.natAbs 3329 : Nat) : Int)).toNat (-1 : Int).natAbs (Int.natAbs 3329) : Nat) : Int)) = 3303 from by decide +kernel]
    exact h

theorem kind_pow : builtinKind "pow" = none := by decide +kernel
theorem plain_pow : plainId "pow" = true := by decide +kernel
theorem entry_pow : entryFor table "pow" = some Builtin.«pow» := entryFor_of_fast (by kernel_rfl)
theorem args_pow (a b c : Value) : argsOk "pow" ⟨[a, b, c], []⟩ := by unfold argsOk; kernel_rfl
theorem args_int_pow_3 (a b c : Value) : argsOk "int.__pow__" ⟨[a, b, c], []⟩ := by unfold argsOk; kernel_rfl

section
variable {prog : Program} {w : World} {A : Around} {E : Value → Shared → Prop} {s : Shared} {a b c n : Int} {t u v : Tok} {Q : Value → Shared → Prop}
set_option maxHeartbeats 4000000 in
theorem call_pow (g : Gives (Builtin.«int.__pow__» ⟨[.int a t, .int b u, .int c v], []⟩) (.int n)) (h : Q (.int n s.toks) { s with toks := s.toks + 1 }) :
    wpAny (model prog w) A (call (.builtin "pow") [.int a t, .int b u, .int c v]) Q E s := by
  refine call_function_entry kind_pow plain_pow entry_pow (args_pow _ _ _) ?_
  obtain ⟨hp, gg, d, tk, os⟩ := s
  have hT : (⟨hp, gg, d, tk, os⟩ : Shared).TypeIs (.int a t) "int" := rfl
  have f3 : typeLookup (.type "int") (Str.ofString "__pow__") = pure (some (.builtin "int.__pow__")) := F.slot_int_pow.lookup
  have f5 : ((.int n t : Value) != .notImplemented) = true := rfl
  have f4 := F.slot_int_pow.bind (.int a t)
  repeat (any_goals (first | assumption | (with_reducible refine wpAny_callSpecial?_slot hT F.slot_int_pow ?_) | ((with_reducible show wpAny _ _ (call (Value.builtin "int.__pow__") _ _) _ _ _); refine call_gives F.slot_int_pow hT F.entry_int_pow (args_int_pow_3 _ _ _) g ?_; dsimp only [Made.post]) | wp_step))
  all_goals exact ⟨_, rfl, h⟩
end

theorem wp_text2 {M : Model} {A : Around} {E : Value → Shared → Prop} {s : Shared} {Q : Value → Shared → Prop} {v : Value} {text : List Nat} {n : Int}
    (hs : (text.takeWhile (· != 0)).length ≤ 640) (hr : (int_private% "readNumeral") 0 2 (text.takeWhile (· != 0)) = (int_private% "Numeral.value") n)
    (ha : ((text.takeWhile (· != 0)).length == text.length) = true) (h : Q (.int n s.toks) { s with toks := s.toks + 1 }) :
    wpAny M A ((int_private% "intFromText") v text 2) Q E s := by
  obtain ⟨hp, g, d, tk, os⟩ := s
  repeat (any_goals (first
    | assumption
    | (with_reducible refine wpAny_ite_true (decide_eq_true hs) ?_)
    | (with_reducible refine wpAny_ite_true (decide_eq_true ha) ?_)
    | wp_step))
  all_goals (try rw [hr])
  all_goals (try dsimp only)
  repeat (any_goals (first
    | assumption
    | (with_reducible refine wpAny_ite_true (decide_eq_true hs) ?_)
    | (with_reducible refine wpAny_ite_true (decide_eq_true ha) ?_)
    | wp_step))

structure Hide (p : Prop) : Prop where
  out : p

def numOf (x : Str) : List Nat := if x.cps.all (· < 128) then x.cps.toList else Unicode.numberText x.cps.toList
set_option maxHeartbeats 4000000 in
theorem gives_text2 {x : PySem.Str} {u v : Tok} {n : Int} (hs : ((numOf x).takeWhile (· != 0)).length ≤ 640) (hr : (int_private% "readNumeral") 0 2 ((numOf x).takeWhile (· != 0)) = (int_private% "Numeral.value") n)
    (ha : (((numOf x).takeWhile (· != 0)).length == (numOf x).length) = true) : Gives (Builtin.«int.__new__» ⟨[.type "int", .str x u, .int 2 v], []⟩) (.int n) :=
  .of_wp fun M A E s Q h => by
    obtain ⟨hp, g, d, tk, os⟩ := s
    have f1 := F.conv_sub_int
    have f2 := F.madeHere_int
    have hk := Hide.mk (And.intro hs (And.intro hr ha))
    clear hs hr ha
    repeat (any_goals (first
      | assumption
      | ((with_reducible show wpAny _ _ ((int_private% "intFromText") _ _ _) _ _ _); refine wp_text2 hk.out.1 hk.out.2.1 hk.out.2.2 ?_)
      | wp_step))
    all_goals first | exact ⟨_, rfl, h⟩ | skip
theorem typeCall_int_2 (a b : Value) : checkTypeCall "int" ⟨[a, b], []⟩ = pure () := by kernel_rfl
theorem newCall_int_2 (a b : Value) : checkBuiltinCall "int.__new__" ⟨[.type "int", a, b], []⟩ = pure () := by kernel_rfl
theorem args_init_3 (obj a b : Value) : argsOk "object.__init__" ⟨[obj, a, b], []⟩ := by unfold argsOk; kernel_rfl
section
variable {prog : Program} {w : World} {A : Around} {E : Value → Shared → Prop} {s : Shared}
theorem call_int_2 {x : Str} {u v : Tok} {n : Int} {Q : Value → Shared → Prop} (g : Gives (Builtin.«int.__new__» ⟨[.type "int", .str x u, .int 2 v], []⟩) (.int n)) (h : Q (.int n s.toks) { s with toks := s.toks + 1 }) :
    wpAny (model prog w) A (call (.type "int") [.str x u, .int 2 v]) Q E s :=
  callType_new F.called_int F.newNe_int (typeCall_int_2 _ _) (newCall_int_2 _ _) (fun obj => args_init_3 obj _ _) F.entry_int_new g.meets (show (Made.int n).post _ s from ⟨rfl, h⟩)
end
end Mine
namespace Mine
open PySem.NumText

theorem reads2 {cs t : List Nat} {ds : Array Nat} {m : Nat} (h1 : (sign (cs.dropWhile blank)).1 = false) (h2 : based 2 (sign (cs.dropWhile blank)).2 = (2, false, t))
    (h3 : digits? 2 ((t.reverse.dropWhile blank).reverse) = some ds) (h4 : ds.foldl (fun acc d => acc * 2 + d) 0 = m) :
    (int_private% "readNumeral") 0 2 cs = (int_private% "Numeral.value") (m : Int) := by
  rw [readNumeral_eq, h1, h2]
  dsimp only
  rw [h3]
  show (int_private% "Numeral.value") ((ds.foldl (fun acc d => acc * 2 + d) 0 : Nat) : Int) = _
  rw [h4]

/-- the seven bits of j, the other way round -/
def brN (j : Nat) : Nat := 64 * (j % 2) + 32 * (j / 2 % 2) + 16 * (j / 4 % 2) + 8 * (j / 8 % 2) + 4 * (j / 16 % 2) + 2 * (j / 32 % 2) + j / 64 % 2
def brA (k : Int) : Str := baseText "0b" 2 (k % 128)
def brB (x : Str) : Str := Txt.slice x (some 2) none
def brZ (x : Str) : Str := Txt.zfill x 7
def brR (x : Str) : Str := Txt.sliceBy x none none (-1, 0)
def brX (j : Nat) : Str := brR (brZ (brB (baseText "0b" 2 ((j : Nat) : Int))))

def brOk (j : Nat) : Bool :=
  let x := numOf (brX j)
  let cs := x.takeWhile (· != 0)
  let sg := sign (cs.dropWhile blank)
  decide (cs.length ≤ 640) && (cs.length == x.length) && (sg.1 == false) && (based 2 sg.2 == (2, false, (based 2 sg.2).2.2)) &&
    (match digits? 2 (((based 2 sg.2).2.2.reverse.dropWhile blank).reverse) with
      | some ds => ds.foldl (fun acc d => acc * 2 + d) 0 == brN j
      | none => false) && decide ((brZ (brB (baseText "0b" 2 ((j : Nat) : Int)))).length ≤ 7)
theorem brOk_all : (List.range 128).all brOk = true := by decide +kernel
theorem br_all (j : Nat) (h : j < 128) : brOk j = true := List.all_eq_true.mp brOk_all j (List.mem_range.mpr h)

theorem gives_br (j : Nat) (hj : j < 128) (u v : Tok) : Gives (Builtin.«int.__new__» ⟨[.type "int", .str (brX j) u, .int 2 v], []⟩) (.int ((brN j : Nat) : Int)) := by
  have h := br_all j hj
  unfold brOk at h
  simp only [Bool.and_eq_true, decide_eq_true_eq] at h
  obtain ⟨⟨⟨⟨⟨h1, h2⟩, h3⟩, h4⟩, h5⟩, h6⟩ := h
  split at h5
  · rename_i ds hd
    exact gives_text2 h1 (reads2 (eq_of_beq h3) (eq_of_beq h4) hd (eq_of_beq h5)) h2
  · cases h5
theorem emod_nat (k : Int) : ∃ j : Nat, j < 128 ∧ k % 128 = (j : Int) ∧ j = (k % 128).toNat := by
  refine ⟨(k % 128).toNat, ?_, ?_, rfl⟩ <;> omega
theorem brA_sz (k : Int) : (brA k).length ≤ sizeLine := by
  unfold brA
  exact baseText_under (by decide) (by decide) (by omega)
theorem brZ_sz (k : Int) : (Txt.zfill (Txt.slice (brA k) (some 2) none) 7).length ≤ sizeLine := by
  obtain ⟨j, hj, e, _⟩ := emod_nat k
  have h := br_all j hj
  unfold brOk at h
  simp only [Bool.and_eq_true, decide_eq_true_eq] at h
  have h6 := h.2
  unfold brA
  rw [e]
  exact Nat.le_trans h6 (by rw [sizeLine_eq]; decide)
/-- what «_br(k, 7)» hands back -/
def brV (k : Int) : Int := ((brN (k % 128).toNat : Nat) : Int)
section
variable {prog : Program} {w : World} {A : Around} {E : Value → Shared → Prop} {s : Shared}
theorem call_brInt {k : Int} {u v uk : Tok} {Q : Value → Shared → Prop} (h : Q (.int (brV k) s.toks) { s with toks := s.toks + 1 }) :
    wpAny (model prog w) A (call (.type "int") [.str (Txt.sliceBy (Txt.zfill (Txt.slice (brA k) (some 2) none) 7) none none (-1, uk)) u, .int 2 v]) Q E s := by
  obtain ⟨j, hj, e, e'⟩ := emod_nat k
  unfold brV at h
  rw [← e'] at h
  unfold brA
  rw [e]
  exact call_int_2 (gives_br j hj u v) h
theorem call_brBin {k : Int} {t : Tok} {Q : Value → Shared → Prop} (h0 : 0 ≤ k) (h1 : k < 128) (h : Q (.str (brA k) s.toks) { s with toks := s.toks + 1 }) :
    wpAny (model prog w) A (call (.builtin "bin") [.int (Builtin.bitAnd k (2 ^ Int.toNat 7 - 1)) t]) Q E s := by
  have e : Builtin.bitAnd k (2 ^ Int.toNat 7 - 1) = k % 128 := by
    obtain ⟨n, rfl⟩ := Int.eq_ofNat_of_zero_le h0
    have hn : n < 128 := by omega
    have all : ∀ n : Fin 128, Builtin.bitAnd ((n.val : Nat) : Int) (2 ^ Int.toNat 7 - 1) = ((n.val : Nat) : Int) % 128 := by decide +kernel
    exact all ⟨n, hn⟩
  rw [e]
  exact P.bin_of_int h (brA_sz k)
theorem call_powP {a b c : Int} {t u v : Tok} {Q : Value → Shared → Prop} (hb : 0 ≤ b) (hc : 1 < c) (h : Q (.int ((Builtin.powMod (a % c).toNat b.toNat c.toNat : Nat) : Int) s.toks) { s with toks := s.toks + 1 }) :
    wpAny (model prog w) A (call (.builtin "pow") [.int a t, .int b u, .int c v]) Q E s := by
  have hc' : ((c.natAbs : Nat) : Int) = c := by omega
  have g := gives_pow3 a b c t u v (by omega) (by simp; omega) (by simp; omega) (by simp; omega)
  rw [hc', show b.natAbs = b.toNat by omega, show c.natAbs = c.toNat by omega] at g
  exact call_pow g h
theorem call_powI {t u v : Tok} {Q : Value → Shared → Prop} (h : Q (.int 3303 s.toks) { s with toks := s.toks + 1 }) :
    wpAny (model prog w) A (call (.builtin "pow") [.int 128 t, .int (-1) u, .int 3329 v]) Q E s := call_pow (gives_inv t u v) h
end
end Mine
theorem Mine.brV_nonneg (k : Int) : 0 ≤ Mine.brV k := Int.natCast_nonneg _
namespace Mine
theorem lists_iadd : typeLookup (.type "list") (dunderI "add") = pure (some (.builtin "list.__iadd__")) := PySem.F.slot_list_iadd.lookup
theorem lists_isSeq : isSeqSlot (some (.builtin "list.__iadd__")) = true := by decide +kernel
section
variable {M : Model} {A : Around} {E : Value → Shared → Prop} {s : Shared}
theorem inplace_seq {a b : Value} {Q : Value → Shared → Prop} (ha : s.TypeIs a "list") (hb : s.TypeIs b "list") (hfill : fillsNumberSlot (.type "list") "add" = pure false)
    (hc : wpAny M A (call (.builtin "list.__iadd__") [a, b]) Q E s) : wpAny M A (inplaceOp .Add a b) Q E s := by
  unfold inplaceOp
  refine wpAny_holding ?_
  have hfi : fillsInplaceSlot (.type "list") "add" (Operator.Add == .Add) = pure false := by
    unfold fillsInplaceSlot
    show (typeLookup (.type "list") (dunderI "add") >>= fun fi => pure (fi.isSome && !isSeqSlot fi)) = pure false
    rw [lists_iadd, pure_bind, lists_isSeq]; rfl
  have hsi : seqSlot? (.type "list") (dunderI "add") = pure (some (.builtin "list.__iadd__")) := PySem.seqSlot_of lists_iadd lists_isSeq
  refine wpAny_bind (wpAny_typeOf ha (wpAny_bind (wpAny_of_eq hfi ?_)))
  show wpAny M A (if false = true then _ else _) Q E s
  rw [if_neg Bool.false_ne_true]
  refine wpAny_bind (binaryOp1_none (nm := "add") ha hb hfill ?_)
  refine wpAny_bind (wpAny_of_eq hsi ?_)
  exact wpAny_bind (wpAny_rule hc)
end
section
variable {prog : Program} {w : World} {A : Around} {E : Value → Shared → Prop} {s : Shared} {h₀ h : Heap} {L D b : Addr} {m : Str → Option Value} {news news' : List (Addr × Obj)} {its its2 : List Value} {n n2 : Nat} {Q : Value → Shared → Prop}
theorem iadd_K (F : Fr h₀ L s.heap m) (N : News h₀ L s.heap news) (hb : (b, listOf its2.toArray n2) ∈ news) (hne : its2.length ≠ 0)
    (U : Upd D (listOf its.toArray n) (listOf (its ++ its2).toArray (n + 1)) news news') (hz : its.length + its2.length ≤ 65536)
    (h : ∀ h', Fr h₀ L h' m → News h₀ L h' news' → Q (.ref D) { s with heap := h' }) : wpAny (model prog w) A (inplaceOp .Add (.ref D) (.ref b)) Q E s := by
  obtain ⟨pre, post, rfl, rfl, a, c⟩ := U.split
  have z := N (D, listOf its.toArray n) (List.mem_append.mpr (.inr (.head _)))
  have hs : (its.toArray.size + its2.toArray.size) ≤ 65536 := by simpa using hz
  have hd : ¬(!its.toArray.isEmpty && Builtin.List.listTooLong (its.toArray.size + its2.toArray.size)) = true := by
    unfold Builtin.List.listTooLong
    have h2 : ¬ (its.toArray.size + its2.toArray.size > sizeLine) := by rw [sizeLine_eq]; omega
    simp only [Bool.and_eq_true, decide_eq_true_eq]
    exact fun q => h2 q.2
  refine inplace_seq ⟨_, z.1, rfl⟩ ⟨_, (N _ hb).1, rfl⟩ PySem.noFill_list_add ?_
  refine call_meets PySem.F.slot_list_iadd ⟨_, z.1, rfl⟩ PySem.F.entry_list_iadd (PySem.F.args_list_iadd_2 _ _) (PySem.AutoSeq1.list___iadd___list_list_0 D its.toArray n b its2.toArray n2 hd (by rw [sizeLine_eq]; simp; omega) (by rw [sizeLine_eq]; simp; omega)) ⟨z.1, (N _ hb).1, h _ (F.change (Heap.SameBut.update ..) z.2.1 z.2.2) (kl_turn _ N a c ?_ ?_)⟩
  · apply Array.toList_inj.mp
    simp
  · simpa using hne
end
end Mine
namespace Mine
/-- one number's two halves, as the law's own table of exponents grows -/
def rs (e : Int) : List Int := [Int.fdiv e 2, Int.fdiv e 2 + 128]
def rsL (l : List Int) : List Int := l.flatMap rs
theorem rsL_snoc (l : List Int) (n : Int) : rsL (l ++ [n]) = rsL l ++ [Int.fdiv n 2, Int.fdiv n 2 + 128] := by simp [rsL, rs]
theorem rsL_len (l : List Int) : (rsL l).length = 2 * l.length := by
  induction l with
  | nil => rfl
  | cons a r ih => simp [rsL, rs] at *; omega
theorem rs_turn {pre w : List Int} {n : Int} (h : w = rsL pre ∧ w.length = 2 * pre.length) : w ++ [Int.fdiv n 2, Int.fdiv n 2 + 128] = rsL (pre ++ [n]) ∧ (w ++ [Int.fdiv n 2, Int.fdiv n 2 + 128]).length = 2 * (pre ++ [n]).length := by
  obtain ⟨rfl, h⟩ := h
  exact ⟨(rsL_snoc pre n).symm, by simp; omega⟩
theorem rs_start : ([] : List Int) = rsL [] ∧ ([] : List Int).length = 2 * ([] : List Int).length := ⟨rfl, rfl⟩
section
variable {h₀ h : Heap} {L a : Addr} {p q : Addr × Obj} {rest : List (Addr × Obj)} {n : Int} {t : Tok} {k : Nat}
theorem lit3 (N : News h₀ L h (p :: q :: (a, listOf [.int n t].toArray k) :: rest)) : ∃ vs, News h₀ L h (p :: q :: (a, listOf vs.toArray k) :: rest) ∧ IntsAre vs [n] := ⟨[.int n t], N, .cons n t .nil⟩
end
theorem roots_nonneg {n1 n2 n3 n4 n5 n6 n7 : List Int} {p1 p2 p3 p4 p5 p6 p7 : Prop} {k : Int} (h1 : n1 = rsL [128] ∧ p1) (h2 : n2 = rsL n1 ∧ p2) (h3 : n3 = rsL n2 ∧ p3) (h4 : n4 = rsL n3 ∧ p4) (h5 : n5 = rsL n4 ∧ p5) (h6 : n6 = rsL n5 ∧ p6) (h7 : n7 = rsL n6 ∧ p7)
    (hk : k ∈ n7) : 0 ≤ k := by
  obtain ⟨rfl, -⟩ := h1; obtain ⟨rfl, -⟩ := h2; obtain ⟨rfl, -⟩ := h3; obtain ⟨rfl, -⟩ := h4; obtain ⟨rfl, -⟩ := h5; obtain ⟨rfl, -⟩ := h6; obtain ⟨rfl, -⟩ := h7
  have all : ∀ k ∈ rsL (rsL (rsL (rsL (rsL (rsL (rsL [128])))))), (0 : Int) ≤ k := by decide +kernel
  exact all k hk
/-- the law's own reader -/
def draw (ns : List Int) (k : Int) : Int := if k < (ns.length : Int) then ns.getD k.toNat 0 else 62 + 11 * k + 23 * k * k
end Mine
namespace Mine
section
variable {prog : Program} {w : World} {A : Around} {E : Value → Shared → Prop} {s : Shared} {env : Env} {h₀ : Heap} {x : Str} {body : List Stmt} {Q : Flow → Shared → Prop}

/-- a loop over a made list of ints that lets one list of ints grow by «y += ..» -/
theorem grow1L {l d : Addr} {vs : List Value} {ns : List Int} {nn k₀ : Nat} {m₀ : Str → Option Value} {rest : List (Addr × Obj)} {y : Str} (stored : List Str) (P : List Int → List Int → Prop)
    (hh : A.handled = none) (hl : (l, listOf vs.toArray nn) ∈ rest) (hi : IntsAre vs ns) (F : Fr h₀ env.locals s.heap m₀) (N : News h₀ env.locals s.heap ((d, listOf #[] k₀) :: rest)) (hy : m₀ y = some (.ref d)) (hp : P [] [])
    (turn : ∀ (us : List Value) (os : List Int) (k : Nat) (pre post : List Int) (n : Int) (t : Tok) (u : Str → Option Value) (h : Heap) (tk : Nat) (own : List (Addr × Obj)), ns = pre ++ n :: post → OwnOff own (d :: rest.map (·.1)) → IntsAre us os → P pre os →
      Fr h₀ env.locals h (fun z => if z = x then some (.int n t) else if z = y then some (.ref d) else if stored.contains z then u z else m₀ z) → News h₀ env.locals h ((d, listOf us.toArray k) :: rest ++ own) → KstMark →
      wpAny (model prog w) A (execs body env) (InvPostN h₀ env.locals (KstS (σ := List Value × List Int × Nat) (fun c => (d, listOf c.1.toArray c.2.2) :: rest) (fun _ => [(y, .ref d)]) (fun c => IntsAre c.1 c.2.1) x stored m₀ (fun pre c => P pre c.2.1) (pre ++ [n])) own (d :: rest.map (·.1)) { s with heap := h, toks := tk } Q) E { s with heap := h, toks := tk })
    (done : ∀ (us : List Value) (os : List Int) (k : Nat) (u : Str → Option Value) (h : Heap) (tk : Nat), IntsAre us os → P ns os → Fr h₀ env.locals h (fun z => if z = x then u z else if z = y then some (.ref d) else if stored.contains z then u z else m₀ z) →
      News h₀ env.locals h ((d, listOf us.toArray k) :: rest) → KstMark → Q .next { s with heap := h, toks := tk }) :
    wpAny (model prog w) A (pyIter (.ref l)) (fun it s₂ => LoopAtV prog w A h₀ env x body Q E it s₂) E s :=
  kst_listL (σ := List Value × List Int × Nat) (fun c => (d, listOf c.1.toArray c.2.2) :: rest) (fun _ => [(y, .ref d)]) (fun c => IntsAre c.1 c.2.1) stored (fun pre c => P pre c.2.1) ([], [], k₀) hh
    (fun _ => .tail _ hl) hi F N .nil (fun p hp => by rw [List.mem_singleton.mp hp]; exact hy) hp
    (fun c pre post n t u h tk own e _ off hf hP hF hN => turn c.1 c.2.1 c.2.2 pre post n t u h tk own e off hf hP hF hN kstMark)
    (fun c u h tk hf hP hF hN => done c.1 c.2.1 c.2.2 u h tk hf hP hF hN kstMark)

/-- the same over a range -/
theorem grow1R {r d : Addr} {a₀ b₀ : Int} {t₀ u₀ v₀ : Tok} {n k₀ : Nat} {m₀ : Str → Option Value} {rest : List (Addr × Obj)} {y : Str} (stored : List Str) (P : List Int → List Int → Prop)
    (hh : A.handled = none) (hr : IsRange s.heap r a₀ b₀ 1 t₀ u₀ v₀) (hsmall : Builtin.Range.small a₀ b₀ 1 = true) (hn : Builtin.Range.rangeSize a₀ b₀ 1 = (n : Int)) (F : Fr h₀ env.locals s.heap m₀) (N : News h₀ env.locals s.heap ((d, listOf #[] k₀) :: rest)) (hy : m₀ y = some (.ref d)) (hp : P [] [])
    (turn : ∀ (us : List Value) (os : List Int) (k : Nat) (pre : List Int) (i : Int) (t : Tok) (u : Str → Option Value) (h : Heap) (tk : Nat) (own : List (Addr × Obj)), i = a₀ + (pre.length : Int) → pre.length < n → OwnOff own (d :: rest.map (·.1)) → IntsAre us os → P pre os →
      Fr h₀ env.locals h (fun z => if z = x then some (.int i t) else if z = y then some (.ref d) else if stored.contains z then u z else m₀ z) → News h₀ env.locals h ((d, listOf us.toArray k) :: rest ++ own) → KstMark →
      wpAny (model prog w) A (execs body env) (InvPostN h₀ env.locals (KstS (σ := List Value × List Int × Nat) (fun c => (d, listOf c.1.toArray c.2.2) :: rest) (fun _ => [(y, .ref d)]) (fun c => IntsAre c.1 c.2.1) x stored m₀ (fun pre c => P pre c.2.1) (pre ++ [i])) own (d :: rest.map (·.1)) { s with heap := h, toks := tk } Q) E { s with heap := h, toks := tk })
    (done : ∀ (us : List Value) (os : List Int) (k : Nat) (u : Str → Option Value) (h : Heap) (tk : Nat), IntsAre us os → P (rangeKs a₀ n) os → Fr h₀ env.locals h (fun z => if z = x then u z else if z = y then some (.ref d) else if stored.contains z then u z else m₀ z) →
      News h₀ env.locals h ((d, listOf us.toArray k) :: rest) → KstMark → Q .next { s with heap := h, toks := tk }) :
    wpAny (model prog w) A (pyIter (.ref r)) (fun it s₂ => LoopAtV prog w A h₀ env x body Q E it s₂) E s :=
  kst_range (σ := List Value × List Int × Nat) (fun c => (d, listOf c.1.toArray c.2.2) :: rest) (fun _ => [(y, .ref d)]) (fun c => IntsAre c.1 c.2.1) stored (fun pre c => P pre c.2.1) ([], [], k₀) hh
    hr hsmall hn F N .nil (fun p hp => by rw [List.mem_singleton.mp hp]; exact hy) hp
    (fun c pre i t u h tk own e hlt off hf hP hF hN => turn c.1 c.2.1 c.2.2 pre i t u h tk own e hlt off hf hP hF hN kstMark)
    (fun c u h tk hf hP hF hN => done c.1 c.2.1 c.2.2 u h tk hf hP hF hN kstMark)

abbrev Three := List Value × List Int × Nat × List Value × List Int × Nat × List Value × List Int × Nat
/-- the same over a range, three lists (the youngest first) -/
theorem grow3R {r d₁ d₂ d₃ : Addr} {a₀ b₀ : Int} {t₀ u₀ v₀ : Tok} {n k₁ k₂ k₃ : Nat} {m₀ : Str → Option Value} {rest : List (Addr × Obj)} {y₁ y₂ y₃ : Str} (stored : List Str) (P : List Int → List Int → List Int → List Int → Prop)
    (hh : A.handled = none) (hr : IsRange s.heap r a₀ b₀ 1 t₀ u₀ v₀) (hsmall : Builtin.Range.small a₀ b₀ 1 = true) (hn : Builtin.Range.rangeSize a₀ b₀ 1 = (n : Int)) (F : Fr h₀ env.locals s.heap m₀)
    (N : News h₀ env.locals s.heap ((d₁, listOf #[] k₁) :: (d₂, listOf #[] k₂) :: (d₃, listOf #[] k₃) :: rest)) (hy₁ : m₀ y₁ = some (.ref d₁)) (hy₂ : m₀ y₂ = some (.ref d₂)) (hy₃ : m₀ y₃ = some (.ref d₃)) (hp : P [] [] [] [])
    (turn : ∀ (us₁ : List Value) (os₁ : List Int) (j₁ : Nat) (us₂ : List Value) (os₂ : List Int) (j₂ : Nat) (us₃ : List Value) (os₃ : List Int) (j₃ : Nat) (pre : List Int) (i : Int) (t : Tok) (u : Str → Option Value) (h : Heap) (tk : Nat) (own : List (Addr × Obj)),
      i = a₀ + (pre.length : Int) → pre.length < n → OwnOff own (d₁ :: d₂ :: d₃ :: rest.map (·.1)) → IntsAre us₁ os₁ → IntsAre us₂ os₂ → IntsAre us₃ os₃ → P pre os₁ os₂ os₃ →
      Fr h₀ env.locals h (fun z => if z = x then some (.int i t) else if z = y₁ then some (.ref d₁) else if z = y₂ then some (.ref d₂) else if z = y₃ then some (.ref d₃) else if stored.contains z then u z else m₀ z) →
      News h₀ env.locals h ((d₁, listOf us₁.toArray j₁) :: (d₂, listOf us₂.toArray j₂) :: (d₃, listOf us₃.toArray j₃) :: rest ++ own) → KstMark →
      wpAny (model prog w) A (execs body env) (InvPostN h₀ env.locals (KstS (σ := Three) (fun c => (d₁, listOf c.1.toArray c.2.2.1) :: (d₂, listOf c.2.2.2.1.toArray c.2.2.2.2.2.1) :: (d₃, listOf c.2.2.2.2.2.2.1.toArray c.2.2.2.2.2.2.2.2) :: rest)
        (fun _ => [(y₁, .ref d₁), (y₂, .ref d₂), (y₃, .ref d₃)]) (fun c => IntsAre c.1 c.2.1 ∧ IntsAre c.2.2.2.1 c.2.2.2.2.1 ∧ IntsAre c.2.2.2.2.2.2.1 c.2.2.2.2.2.2.2.1) x stored m₀ (fun pre c => P pre c.2.1 c.2.2.2.2.1 c.2.2.2.2.2.2.2.1) (pre ++ [i]))
        own (d₁ :: d₂ :: d₃ :: rest.map (·.1)) { s with heap := h, toks := tk } Q) E { s with heap := h, toks := tk })
    (done : ∀ (us₁ : List Value) (os₁ : List Int) (j₁ : Nat) (us₂ : List Value) (os₂ : List Int) (j₂ : Nat) (us₃ : List Value) (os₃ : List Int) (j₃ : Nat) (u : Str → Option Value) (h : Heap) (tk : Nat),
      IntsAre us₁ os₁ → IntsAre us₂ os₂ → IntsAre us₃ os₃ → P (rangeKs a₀ n) os₁ os₂ os₃ →
      Fr h₀ env.locals h (fun z => if z = x then u z else if z = y₁ then some (.ref d₁) else if z = y₂ then some (.ref d₂) else if z = y₃ then some (.ref d₃) else if stored.contains z then u z else m₀ z) →
      News h₀ env.locals h ((d₁, listOf us₁.toArray j₁) :: (d₂, listOf us₂.toArray j₂) :: (d₃, listOf us₃.toArray j₃) :: rest) → KstMark → Q .next { s with heap := h, toks := tk }) :
    wpAny (model prog w) A (pyIter (.ref r)) (fun it s₂ => LoopAtV prog w A h₀ env x body Q E it s₂) E s :=
  kst_range (σ := Three) (fun c => (d₁, listOf c.1.toArray c.2.2.1) :: (d₂, listOf c.2.2.2.1.toArray c.2.2.2.2.2.1) :: (d₃, listOf c.2.2.2.2.2.2.1.toArray c.2.2.2.2.2.2.2.2) :: rest)
    (fun _ => [(y₁, .ref d₁), (y₂, .ref d₂), (y₃, .ref d₃)]) (fun c => IntsAre c.1 c.2.1 ∧ IntsAre c.2.2.2.1 c.2.2.2.2.1 ∧ IntsAre c.2.2.2.2.2.2.1 c.2.2.2.2.2.2.2.1) stored (fun pre c => P pre c.2.1 c.2.2.2.2.1 c.2.2.2.2.2.2.2.1)
    ([], [], k₁, [], [], k₂, [], [], k₃) hh hr hsmall hn F N ⟨.nil, .nil, .nil⟩
    (fun p hp => by
      rcases List.mem_cons.mp hp with rfl | hp
      · exact hy₁
      rcases List.mem_cons.mp hp with rfl | hp
      · exact hy₂
      rcases List.mem_singleton.mp hp with rfl
      exact hy₃) hp
    (fun c pre i t u h tk own e hlt off hf hP hF hN => turn c.1 c.2.1 c.2.2.1 c.2.2.2.1 c.2.2.2.2.1 c.2.2.2.2.2.1 c.2.2.2.2.2.2.1 c.2.2.2.2.2.2.2.1 c.2.2.2.2.2.2.2.2 pre i t u h tk own e hlt off hf.1 hf.2.1 hf.2.2 hP hF hN kstMark)
    (fun c u h tk hf hP hF hN => done c.1 c.2.1 c.2.2.1 c.2.2.2.1 c.2.2.2.2.1 c.2.2.2.2.2.1 c.2.2.2.2.2.2.1 c.2.2.2.2.2.2.2.1 c.2.2.2.2.2.2.2.2 u h tk hf.1 hf.2.1 hf.2.2 hP hF hN kstMark)
end
end Mine
namespace Mine
/-- how many numbers the law draws -/
def cut (x : Int) : Int := if 256 < x.fmod 300 then 256 else x.fmod 300
theorem cut_lo (x : Int) : 0 ≤ cut x := by
  unfold cut
  have := Int.fmod_nonneg_of_pos x (b := 300) (by decide)
  split <;> omega
theorem cut_hi (x : Int) : cut x ≤ 256 := by
  unfold cut
  split <;> omega
section
variable {prog : Program} {w : World} {A : Around} {E : Value → Shared → Prop} {s : Shared} {h₀ : Heap} {L : Addr} {m : Str → Option Value} {news : List (Addr × Obj)} {x : Int} {t u : Tok} {Q : Value → Shared → Prop}
theorem call_cut (hh : A.handled = none) (F : Fr h₀ L s.heap m) (N : News h₀ L s.heap news)
    (h : ∀ h' tk (t' : Tok), Fr h₀ L h' m → News h₀ L h' news → 0 ≤ cut x → cut x ≤ 256 → Q (.int (cut x) t') { s with heap := h', toks := tk }) :
    wpAny (model prog w) A (call (.builtin "min") [.int (x.fmod 300) t, .int 256 u]) Q E s :=
  min_two_N hh F N fun h' tk F' N' => h h' tk _ F' N' (cut_lo x) (cut_hi x)
end
theorem call_have {M : Model} {A : Around} {E : Value → Shared → Prop} {s : Shared} {f l : Addr} {k : Int} {t : Tok} {Q : Value → Shared → Prop} (a : 0 ≤ k ∧ k < 100000) (h : 0 ≤ k ∧ k < 100000 → wpAny M A (call (.ref f) [.ref l, .int k t]) Q E s) :
    wpAny M A (call (.ref f) [.ref l, .int k t]) Q E s := h a

def ZET : List Int := List.map (fun k' => ((Builtin.powMod ((17 : Int) % 3329).toNat (brV k').toNat (Int.toNat 3329) : Nat) : Int)) (rangeKs 0 ((128 : Int) - 0).toNat)
def EXPS : List Int := rsL (rsL (rsL (rsL (rsL (rsL (rsL [128]))))))
def ROOTS : List Int := List.map (fun k' => ((Builtin.powMod ((17 : Int) % 3329).toNat k'.toNat (Int.toNat 3329) : Nat) : Int)) EXPS
theorem ZET_len : ZET.length = 128 := by unfold ZET; rw [List.length_map, rangeKs_length]; rfl
theorem EXPS_len : EXPS.length = 128 := by unfold EXPS; simp only [rsL_len]; rfl
theorem ROOTS_len : ROOTS.length = 128 := by unfold ROOTS; rw [List.length_map, EXPS_len]
structure RootsMark : Prop where
theorem hook_roots {yz yr : List Value} {n1 n2 n3 n4 n5 n6 n7 : List Int} {p1 p2 p3 p4 p5 p6 p7 : Prop} (h1 : n1 = rsL [128] ∧ p1) (h2 : n2 = rsL n1 ∧ p2) (h3 : n3 = rsL n2 ∧ p3) (h4 : n4 = rsL n3 ∧ p4) (h5 : n5 = rsL n4 ∧ p5) (h6 : n6 = rsL n5 ∧ p6) (h7 : n7 = rsL n6 ∧ p7)
    (hz : IntsAre yz (List.map (fun k' => ((Builtin.powMod ((17 : Int) % 3329).toNat (brV k').toNat (Int.toNat 3329) : Nat) : Int)) (rangeKs 0 ((128 : Int) - 0).toNat)))
    (hr : IntsAre yr (List.map (fun k' => ((Builtin.powMod ((17 : Int) % 3329).toNat k'.toNat (Int.toNat 3329) : Nat) : Int)) n7)) :
    ∃ zs rs, IntsAre yz zs ∧ IntsAre yr rs ∧ yz.length = 128 ∧ yr.length = 128 ∧ zs.length = 128 ∧ rs.length = 128 ∧ Hide (zs = ZET ∧ rs = ROOTS) := by
  obtain ⟨rfl, -⟩ := h1; obtain ⟨rfl, -⟩ := h2; obtain ⟨rfl, -⟩ := h3; obtain ⟨rfl, -⟩ := h4; obtain ⟨rfl, -⟩ := h5; obtain ⟨rfl, -⟩ := h6; obtain ⟨rfl, -⟩ := h7
  exact ⟨ZET, ROOTS, hz, hr, hz.length.trans ZET_len, hr.length.trans ROOTS_len, ZET_len, ROOTS_len, ⟨rfl, rfl⟩⟩
theorem drop8 {h₀ h : Heap} {L : Addr} {a b1 b2 b3 b4 b5 b6 b7 b8 : Addr × Obj} {rest : List (Addr × Obj)} (N : News h₀ L h (a :: b1 :: b2 :: b3 :: b4 :: b5 :: b6 :: b7 :: b8 :: rest)) : News h₀ L h (a :: rest) := fun p hp => by
  refine N p ?_
  rcases List.mem_cons.mp hp with rfl | hp
  · exact .head _
  · exact .tail _ (.tail _ (.tail _ (.tail _ (.tail _ (.tail _ (.tail _ (.tail _ (.tail _ hp))))))))
/-- the law's own reader -/
def drawAt (ns : List Int) (k : Int) : Int := if k < (ns.length : Int) then ns.getD k.toNat 0 else 62 + 11 * k + 23 * k * k
end Mine
namespace Mine
/-- what a call of the law's reader hands back, whatever else was made -/
def DrawClaim (prog : Program) (w : World) (K : Frag) (p : Program) (loose : List Str) (mean : ExcName → Option Value) (mg mb : Str → Option Value) (f : Addr) : Prop :=
  ∀ (l : Addr) (vs : List Value) (ns : List Int) (k : Int) (t : Tok) (news : List (Addr × Obj)) (dp un : Nat) (gd : Option (List Code)) (cn : Str) (cs : Scope) (a : Addr) (ccd : Value) (cl : List (Str × Addr)) (outer : List Env) (A₀ : Around) (base h₀ : Heap) (L : Addr) (m : Str → Option Value) (s : Shared) (Q E : Value → Shared → Prop),
    Below A₀ base outer h₀ → Fr h₀ L s.heap m → K.In h₀ → News h₀ L s.heap news → Top p loose mean mg mb h₀ → cs.kind = .function → base.IsList l vs.toArray → IntsAre vs ns → ns.length < 2 ^ 62 → 0 ≤ k ∧ k < 100000 → dp + 1 < recursionLimit → un + 8 < cLine →
    (∀ (t : Tok) (h' : Heap) (tk' : Nat), Fr h₀ L h' m → News h₀ L h' news → Q (.int (drawAt ns k) t) { s with heap := h', toks := tk' }) →
    wpAny (model prog w) (ktrTop dp un gd cn cs L a ccd cl outer) (call (.ref f) [.ref l, .int k t]) Q E s
end Mine
namespace Mine
theorem DrawClaim.use {prog : Program} {w : World} {K : Frag} {p : Program} {loose : List Str} {mean : ExcName → Option Value} {mg mb : Str → Option Value} {f : Addr} (c : DrawClaim prog w K p loose mean mg mb f)
    {l : Addr} {vs : List Value} {ns : List Int} {k : Int} {t : Tok} {news : List (Addr × Obj)} {dp un : Nat} {gd : Option (List Code)} {cn : Str} {cs : Scope} {a : Addr} {ccd : Value} {cl : List (Str × Addr)} {outer : List Env} {A₀ : Around} {base h₀ : Heap} {L : Addr} {m : Str → Option Value} {s : Shared} {Q E : Value → Shared → Prop}
    (B : Below A₀ base outer h₀) (F : Fr h₀ L s.heap m) (X : K.In h₀) (N : News h₀ L s.heap news) (T : Top p loose mean mg mb h₀) (hk : cs.kind = .function) (hl : base.IsList l vs.toArray) (hi : IntsAre vs ns) (hn : ns.length < 2 ^ 62) (hb : 0 ≤ k ∧ k < 100000) (hd : dp + 1 < recursionLimit) (hu : un + 8 < cLine)
    (h : ∀ (t : Tok) (h' : Heap) (tk' : Nat), Fr h₀ L h' m → News h₀ L h' news → Q (.int (drawAt ns k) t) { s with heap := h', toks := tk' }) :
    wpAny (model prog w) (ktrTop dp un gd cn cs L a ccd cl outer) (call (.ref f) [.ref l, .int k t]) Q E s :=
  c l vs ns k t news dp un gd cn cs a ccd cl outer A₀ base h₀ L m s Q E B F X N T hk hl hi hn hb hd hu h

abbrev ringDict (w : World) (D : Addr) (t1 t2 t3 t4 u1 u2 u4 : Tok) : Obj :=
  dictOf [{ hash := PyData.keyHash w.params (Str.ofString "q"), key := .str (Str.ofString "q") t1, val := .int 3329 u1 }, { hash := PyData.keyHash w.params (Str.ofString "n"), key := .str (Str.ofString "n") t2, val := .int 256 u2 },
    { hash := PyData.keyHash w.params (Str.ofString "ntt_zetas"), key := .str (Str.ofString "ntt_zetas") t3, val := .ref D }, { hash := PyData.keyHash w.params (Str.ofString "ntt_f"), key := .str (Str.ofString "ntt_f") t4, val := .int 3303 u4 }] 4

/-- «PolynomialRing()»: f is the class -/
def RingClaim (prog : Program) (w : World) (K : Frag) (p : Program) (loose : List Str) (mean : ExcName → Option Value) (mg mb : Str → Option Value) (f : Addr) : Prop :=
  ∀ (news : List (Addr × Obj)) (dp un : Nat) (gd : Option (List Code)) (cn : Str) (cs : Scope) (a : Addr) (ccd : Value) (cl : List (Str × Addr)) (outer : List Env) (A₀ : Around) (base h₀ : Heap) (L : Addr) (m : Str → Option Value) (s : Shared) (Q E : Value → Shared → Prop),
    Below A₀ base outer h₀ → Fr h₀ L s.heap m → K.In h₀ → News h₀ L s.heap news → Top p loose mean mg mb h₀ → cs.kind = .function → dp + 4 < recursionLimit → un + 64 < cLine →
    (∀ (x dx D : Addr) (ys : List Value) (t1 t2 t3 t4 u1 u2 u4 : Tok) (h' : Heap) (tk' : Nat), Fr h₀ L h' m → News h₀ L h' ((D, LCg.lst ys) :: (x, instObj f dx) :: (dx, ringDict w D t1 t2 t3 t4 u1 u2 u4) :: news) → IntsAre ys ZET → Q (.ref x) { s with heap := h', toks := tk' }) →
    wpAny (model prog w) (ktrTop dp un gd cn cs L a ccd cl outer) (call (.ref f) []) Q E s
/-- «_law_roots()» -/
def RootsClaim (prog : Program) (w : World) (K : Frag) (p : Program) (loose : List Str) (mean : ExcName → Option Value) (mg mb : Str → Option Value) (f : Addr) : Prop :=
  ∀ (news : List (Addr × Obj)) (dp un : Nat) (gd : Option (List Code)) (cn : Str) (cs : Scope) (a : Addr) (ccd : Value) (cl : List (Str × Addr)) (outer : List Env) (A₀ : Around) (base h₀ : Heap) (L : Addr) (m : Str → Option Value) (s : Shared) (Q E : Value → Shared → Prop),
    Below A₀ base outer h₀ → Fr h₀ L s.heap m → K.In h₀ → News h₀ L s.heap news → Top p loose mean mg mb h₀ → cs.kind = .function → dp + 4 < recursionLimit → un + 64 < cLine →
    (∀ (D : Addr) (ys : List Value) (n : Nat) (h' : Heap) (tk' : Nat), Fr h₀ L h' m → News h₀ L h' ((D, listOf ys.toArray n) :: news) → IntsAre ys ROOTS → Q (.ref D) { s with heap := h', toks := tk' }) →
    wpAny (model prog w) (ktrTop dp un gd cn cs L a ccd cl outer) (call (.ref f) []) Q E s
end Mine
namespace Mine
theorem unr_keep {h₀ : Heap} {L I d c : Addr} {it o : Obj} {restP : (Str → Option Value) → List (Addr × Obj) → Prop} {s₁ : Shared} {h' : Heap} {tk : Nat} {m' : Str → Option Value} {rest news : List (Addr × Obj)}
    (F : Fr h₀ L h' m') (N : News h₀ L h' ((d, o) :: (I, it) :: rest)) (hA : ∀ p ∈ news, p.1 < c) (hs : ∀ p ∈ news, p ∈ rest) (h1 : @Ne Nat d I) (hc : @LE.le Nat _ c I) (r : restP m' ((d, o) :: news)) : UnrEnd h₀ L s₁ I it restP { s₁ with heap := h', toks := tk } :=
  UnrEnd.intro F N ((d, o) :: news) (fun p hp => by
    rcases List.mem_cons.mp hp with rfl | hp
    · exact .tail _ (.head _)
    rcases List.mem_cons.mp hp with rfl | hp
    · exact .head _
    · exact .tail _ (.tail _ (hs p hp))) (fun p hp => by
    rcases List.mem_cons.mp hp with rfl | hp
    · exact h1
    · exact Nat.ne_of_lt (Nat.lt_of_lt_of_le (hA p hp) hc)) r
end Mine

namespace Mine
theorem roots_end {yr : List Value} {n1 n2 n3 n4 n5 n6 n7 : List Int} {p1 p2 p3 p4 p5 p6 p7 : Prop} (h1 : n1 = rsL [128] ∧ p1) (h2 : n2 = rsL n1 ∧ p2) (h3 : n3 = rsL n2 ∧ p3) (h4 : n4 = rsL n3 ∧ p4) (h5 : n5 = rsL n4 ∧ p5) (h6 : n6 = rsL n5 ∧ p6) (h7 : n7 = rsL n6 ∧ p7)
    (hr : IntsAre yr (List.map (fun k' => ((Builtin.powMod ((17 : Int) % 3329).toNat k'.toNat (Int.toNat 3329) : Nat) : Int)) n7)) : IntsAre yr ROOTS := by
  obtain ⟨rfl, -⟩ := h1; obtain ⟨rfl, -⟩ := h2; obtain ⟨rfl, -⟩ := h3; obtain ⟨rfl, -⟩ := h4; obtain ⟨rfl, -⟩ := h5; obtain ⟨rfl, -⟩ := h6; obtain ⟨rfl, -⟩ := h7
  exact hr
end Mine
namespace Mine
/-- ints that may be multiplied with one another -/
def Sm (n : Nat) (x : Int) : Prop := Builtin.Int.intBits x ≤ n
theorem Sm.mulOk {a b : Int} (ha : Sm 60000000 a) (hb : Sm 60000000 b) : IntMulOk a b := by
  unfold Sm at *
  unfold IntMulOk Builtin.Int.intTooBig bitsLine
  have e : (2 : Nat) ^ 27 = 134217728 := by decide
  rw [e]
  simp only [Bool.and_eq_true, decide_eq_true_eq, not_and, gt_iff_lt, Int.not_lt]
  intro _
  omega
theorem Sm.mono {m n : Nat} {x : Int} (h : Sm m x) (hmn : m ≤ n) : Sm n x := Nat.le_trans h hmn
theorem Sm.mul {m n : Nat} {x y : Int} (hx : Sm m x) (hy : Sm n y) : Sm (m + n) (x * y) := PySem.intBits_mul_le hx hy
theorem Sm.small {x : Int} (h0 : -3329 ≤ x) (h1 : x ≤ 3329) : Sm 64 x := PySem.intBits_le_64 (by omega) (by omega)
theorem Sm.neg {m : Nat} {x : Int} (h : Sm m x) : Sm m (-x) := PySem.intBits_neg_le h

/-- one pair's product: the remainders by r at x^2 = c -/
def pairMul (a0 a1 b0 b1 c : Int) : List Int := [(a0 * b0 + c * a1 * b1).fmod 3329, (a1 * b0 + a0 * b1).fmod 3329]
def stepMul (z f g : List Int) (i : Int) : List Int :=
  pairMul (f.getD (4 * i + 0).toNat 0) (f.getD (4 * i + 1).toNat 0) (g.getD (4 * i + 0).toNat 0) (g.getD (4 * i + 1).toNat 0) (z.getD (64 + i).toNat 0) ++
  pairMul (f.getD (4 * i + 2).toNat 0) (f.getD (4 * i + 3).toNat 0) (g.getD (4 * i + 2).toNat 0) (g.getD (4 * i + 3).toNat 0) (-(z.getD (64 + i).toNat 0))
def mulTo (z f g : List Int) (l : List Int) : List Int := l.flatMap (stepMul z f g)
theorem stepMul_len (z f g : List Int) (i : Int) : (stepMul z f g i).length = 4 := rfl
theorem mulTo_snoc (z f g l : List Int) (i : Int) : mulTo z f g (l ++ [i]) = mulTo z f g l ++ stepMul z f g i := by simp [mulTo]
theorem mul_start (z f g : List Int) : ([] : List Int) = mulTo z f g [] ∧ ([] : List Int).length = 4 * ([] : List Int).length := ⟨rfl, rfl⟩
theorem mul_turn {z f g pre w : List Int} {i : Int} (h : w = mulTo z f g pre ∧ w.length = 4 * pre.length) :
    w ++ stepMul z f g i = mulTo z f g (pre ++ [i]) ∧ (w ++ stepMul z f g i).length = 4 * (pre ++ [i]).length := by
  obtain ⟨rfl, h⟩ := h
  refine ⟨(mulTo_snoc z f g pre i).symm, ?_⟩
  rw [List.length_append, stepMul_len, List.length_append]
  simp only [List.length_cons, List.length_nil]
  omega

abbrev polyDict (w : World) (ring lc : Addr) (t1 t2 : Tok) : Obj :=
  dictOf [{ hash := PyData.keyHash w.params (Str.ofString "parent"), key := .str (Str.ofString "parent") t1, val := .ref ring }, { hash := PyData.keyHash w.params (Str.ofString "coeffs"), key := .str (Str.ofString "coeffs") t2, val := .ref lc }] 2

/-- «self._ntt_coefficient_multiplication(f, g)»: c is the class of self, f the def -/
def MulClaim (prog : Program) (w : World) (K : Frag) (p : Program) (loose : List Str) (mean : ExcName → Option Value) (mg mb : Str → Option Value) (rc c f : Addr) : Prop :=
  ∀ (self dx ring rdx D lc l1 l2 : Addr) (zs fs gs : List Int) (vz vf vg : List Value) (kz kf kg : Nat) (t1 t2 t3 t4 u1 u2 u4 q1 q2 : Tok) (news : List (Addr × Obj)) (dp un : Nat) (gd : Option (List Code)) (cn : Str) (cs : Scope) (a : Addr) (ccd : Value) (cl : List (Str × Addr)) (outer : List Env) (A₀ : Around) (base h₀ : Heap) (L : Addr) (m : Str → Option Value) (s : Shared) (Q E : Value → Shared → Prop),
    Below A₀ base outer h₀ → Fr h₀ L s.heap m → K.In h₀ →
    News h₀ L s.heap ((self, instObj c dx) :: (dx, polyDict w ring lc q1 q2) :: (ring, instObj rc rdx) :: (rdx, ringDict w D t1 t2 t3 t4 u1 u2 u4) :: (D, listOf vz.toArray kz) :: (l1, listOf vf.toArray kf) :: (l2, listOf vg.toArray kg) :: news) →
    Top p loose mean mg mb h₀ → cs.kind = .function → IntsAre vz zs → IntsAre vf fs → IntsAre vg gs → vz.length = 128 → vf.length = 256 → vg.length = 256 →
    (∀ j : Nat, Sm 64 (zs.getD j 0)) → (∀ j : Nat, Sm 30000000 (fs.getD j 0)) → (∀ j : Nat, Sm 30000000 (gs.getD j 0)) → dp + 4 < recursionLimit → un + 64 < cLine →
    (∀ (R : Addr) (vo : List Value) (n : Nat) (h' : Heap) (tk' : Nat), Fr h₀ L h' m → News h₀ L h' ((R, listOf vo.toArray n) :: news) → IntsAre vo (mulTo zs fs gs (rangeKs 0 64)) → vo.length = 256 → Q (.ref R) { s with heap := h', toks := tk' }) →
    wpAny (model prog w) (ktrTop dp un gd cn cs L a ccd cl outer) (call (.ref f) [.ref self, .ref l1, .ref l2]) Q E s
section
variable {prog : Program} {w : World} {A : Around} {E : Value → Shared → Prop} {s : Shared} {h₀ : Heap} {L l : Addr} {news : List (Addr × Obj)} {vs : List Value} {ns : List Int} {k : Nat} {i : Int} {u : Tok} {value slice : PySem.Expr} {Q : Value → Shared → Prop}
theorem item_led (N : News h₀ L s.heap news) (hm : (l, listOf vs.toArray k) ∈ news) (hi : IntsAre vs ns) (h0 : 0 ≤ i) (h1 : i < (vs.length : Int)) (hf : vs.length ≤ 65536) (h : ∀ t : Tok, Q (.int (ns.getD i.toNat 0) t) s)
    (hs : subscripted slice false (.ref l) (.int i u) = operate [.ref l, .int i u] (getItem (.ref l) (.int i u)) := by with_unfolding_all rfl) :
    wpAny (model prog w) A (subscriptTail value slice (.ref l) (.int i u)) Q E s := by
  have hl : s.heap.IsList l vs.toArray := ⟨_, (N _ hm).1, rfl, k, rfl⟩
  have hlt : i.toNat < vs.length := by omega
  obtain ⟨n, t, e2, e1⟩ := IntsAre.at hi i.toNat (vs[i.toNat]) (by simp [hlt])
  have hx : vs[i.toNat]? = some (.int n t) := by rw [List.getElem?_eq_getElem hlt, e2]
  have hq : ns.getD i.toNat 0 = n := by simp [List.getD, e1]
  have h' := h t
  rw [hq] at h'
  exact tail_any hl.typeIs slot_list_getitem.lookup (wpAny_getItem_list hl h0 (by omega) (by simpa using hx) h') hs
end
theorem mulOk_ff {f g : List Int} {i j : Nat} (hf : ∀ j : Nat, Sm 30000000 (f.getD j 0)) (hg : ∀ j : Nat, Sm 30000000 (g.getD j 0)) : IntMulOk (f.getD i 0) (g.getD j 0) := Sm.mulOk ((hf i).mono (by decide)) ((hg j).mono (by decide))
theorem mulOk_z {z : List Int} {i : Nat} {x : Int} (hz : ∀ j : Nat, Sm 64 (z.getD j 0)) : IntMulOk (z.getD i 0) x := IntMulOk.of_left (hz i)
theorem mulOk_zn {z : List Int} {i : Nat} {x : Int} (hz : ∀ j : Nat, Sm 64 (z.getD j 0)) : IntMulOk (-(z.getD i 0)) x := IntMulOk.of_left (hz i).neg
theorem mulOk_zf {z f g : List Int} {i j k : Nat} (hz : ∀ j : Nat, Sm 64 (z.getD j 0)) (hf : ∀ j : Nat, Sm 30000000 (f.getD j 0)) (hg : ∀ j : Nat, Sm 30000000 (g.getD j 0)) : IntMulOk (z.getD i 0 * f.getD j 0) (g.getD k 0) := Sm.mulOk (((hz i).mul (hf j)).mono (by decide)) ((hg k).mono (by decide))
theorem mulOk_znf {z f g : List Int} {i j k : Nat} (hz : ∀ j : Nat, Sm 64 (z.getD j 0)) (hf : ∀ j : Nat, Sm 30000000 (f.getD j 0)) (hg : ∀ j : Nat, Sm 30000000 (g.getD j 0)) : IntMulOk (-(z.getD i 0) * f.getD j 0) (g.getD k 0) := Sm.mulOk (((hz i).neg.mul (hf j)).mono (by decide)) ((hg k).mono (by decide))
theorem mul_end {us : List Value} {os X : List Int} (h : IntsAre us os) (e : os = X ∧ os.length = 4 * (rangeKs 0 64).length) : IntsAre us X ∧ us.length = 256 := by
  obtain ⟨rfl, e⟩ := e
  refine ⟨h, ?_⟩
  rw [h.length, e, rangeKs_length]
end Mine
namespace Mine
/-- «ring(list, is_ntt=True)» for a list of 256 ints: rc the ring's class, c the class of what is made -/
def MakeClaim (prog : Program) (w : World) (K : Frag) (p : Program) (loose : List Str) (mean : ExcName → Option Value) (mg mb : Str → Option Value) (rc c : Addr) : Prop :=
  ∀ (ring rdx D l : Addr) (fs : List Int) (vf : List Value) (kf : Nat) (t1 t2 t3 t4 u1 u2 u4 : Tok) (news : List (Addr × Obj)) (dp un : Nat) (gd : Option (List Code)) (cn : Str) (cs : Scope) (a : Addr) (ccd : Value) (cl : List (Str × Addr)) (outer : List Env) (A₀ : Around) (base h₀ : Heap) (L : Addr) (m : Str → Option Value) (s : Shared) (Q E : Value → Shared → Prop),
    Below A₀ base outer h₀ → Fr h₀ L s.heap m → K.In h₀ →
    News h₀ L s.heap ((ring, instObj rc rdx) :: (rdx, ringDict w D t1 t2 t3 t4 u1 u2 u4) :: (l, listOf vf.toArray kf) :: news) →
    Top p loose mean mg mb h₀ → cs.kind = .function → IntsAre vf fs → vf.length = 256 → dp + 8 < recursionLimit → un + 128 < cLine →
    (∀ (x dx : Addr) (q1 q2 : Tok) (h' : Heap) (tk' : Nat), Fr h₀ L h' m → News h₀ L h' ((x, instObj c dx) :: (dx, polyDict w ring l q1 q2) :: news) → Q (.ref x) { s with heap := h', toks := tk' }) →
    wpAny (model prog w) (ktrTop dp un gd cn cs L a ccd cl outer) (call (.ref ring) [.ref l] [(Str.ofString "is_ntt", .bool true)]) Q E s
theorem len256 {prog : Program} {w : World} {A : Around} {E : Value → Shared → Prop} {s : Shared} {h₀ : Heap} {L l : Addr} {news : List (Addr × Obj)} {us : List Value} {c : Nat} {Q : Value → Shared → Prop} (N : News h₀ L s.heap news) (hm : (l, listOf us.toArray c) ∈ news) (e : us.length = 256)
    (h : Q (.int 256 (s.toks + 1)) { s with toks := s.toks + 1 + 1 }) : wpAny (model prog w) A (call (.builtin "len") [.ref l]) Q E s := kst_len N hm e (by decide) h
end Mine
namespace Mine
theorem MakeClaim.use {prog : Program} {w : World} {K : Frag} {p : Program} {loose : List Str} {mean : ExcName → Option Value} {mg mb : Str → Option Value} {rc c : Addr} (C : MakeClaim prog w K p loose mean mg mb rc c)
    {ring rdx D l : Addr} {fs : List Int} {vf : List Value} {kf : Nat} {t1 t2 t3 t4 u1 u2 u4 : Tok} {news : List (Addr × Obj)} {dp un : Nat} {gd : Option (List Code)} {cn : Str} {cs : Scope} {a : Addr} {ccd : Value} {cl : List (Str × Addr)} {outer : List Env} {A₀ : Around} {base h₀ : Heap} {L : Addr} {m : Str → Option Value} {s : Shared} {Q E : Value → Shared → Prop}
    (B : Below A₀ base outer h₀) (F : Fr h₀ L s.heap m) (X : K.In h₀) (N : News h₀ L s.heap news) (T : Top p loose mean mg mb h₀) (hk : cs.kind = .function)
    (m1 : (ring, instObj rc rdx) ∈ news) (m2 : (rdx, ringDict w D t1 t2 t3 t4 u1 u2 u4) ∈ news) (m3 : (l, listOf vf.toArray kf) ∈ news) (hf : IntsAre vf fs) (lf : vf.length = 256) (hd : dp + 8 < recursionLimit) (hu : un + 128 < cLine)
    (h : ∀ (x dx : Addr) (q1 q2 : Tok) (h' : Heap) (tk' : Nat), Fr h₀ L h' m → News h₀ L h' ((x, instObj c dx) :: (dx, polyDict w ring l q1 q2) :: news) → Q (.ref x) { s with heap := h', toks := tk' }) :
    wpAny (model prog w) (ktrTop dp un gd cn cs L a ccd cl outer) (call (.ref ring) [.ref l] [(Str.ofString "is_ntt", .bool true)]) Q E s :=
  C ring rdx D l fs vf kf t1 t2 t3 t4 u1 u2 u4 news dp un gd cn cs a ccd cl outer A₀ base h₀ L m s Q E B F X (fun p hp => by
    rcases List.mem_cons.mp hp with rfl | hp
    · exact N _ m1
    rcases List.mem_cons.mp hp with rfl | hp
    · exact N _ m2
    rcases List.mem_cons.mp hp with rfl | hp
    · exact N _ m3
    exact N p hp) T hk hf lf hd hu h
theorem MulClaim.use {prog : Program} {w : World} {K : Frag} {p : Program} {loose : List Str} {mean : ExcName → Option Value} {mg mb : Str → Option Value} {rc c f : Addr} (C : MulClaim prog w K p loose mean mg mb rc c f)
    {self dx ring rdx D lc l1 l2 : Addr} {zs fs gs : List Int} {vz vf vg : List Value} {kz kf kg : Nat} {t1 t2 t3 t4 u1 u2 u4 q1 q2 : Tok} {news : List (Addr × Obj)} {dp un : Nat} {gd : Option (List Code)} {cn : Str} {cs : Scope} {a : Addr} {ccd : Value} {cl : List (Str × Addr)} {outer : List Env} {A₀ : Around} {base h₀ : Heap} {L : Addr} {m : Str → Option Value} {s : Shared} {Q E : Value → Shared → Prop}
    (B : Below A₀ base outer h₀) (F : Fr h₀ L s.heap m) (X : K.In h₀) (N : News h₀ L s.heap news) (T : Top p loose mean mg mb h₀) (hk : cs.kind = .function)
    (m1 : (self, instObj c dx) ∈ news) (m2 : (dx, polyDict w ring lc q1 q2) ∈ news) (m3 : (ring, instObj rc rdx) ∈ news) (m4 : (rdx, ringDict w D t1 t2 t3 t4 u1 u2 u4) ∈ news) (m5 : (D, listOf vz.toArray kz) ∈ news) (m6 : (l1, listOf vf.toArray kf) ∈ news) (m7 : (l2, listOf vg.toArray kg) ∈ news)
    (hz : IntsAre vz zs) (hf : IntsAre vf fs) (hg : IntsAre vg gs) (lz : vz.length = 128) (lf : vf.length = 256) (lg : vg.length = 256)
    (sz : ∀ j : Nat, Sm 64 (zs.getD j 0)) (sf : ∀ j : Nat, Sm 30000000 (fs.getD j 0)) (sg : ∀ j : Nat, Sm 30000000 (gs.getD j 0)) (hd : dp + 4 < recursionLimit) (hu : un + 64 < cLine)
    (h : ∀ (R : Addr) (vo : List Value) (n : Nat) (h' : Heap) (tk' : Nat), Fr h₀ L h' m → News h₀ L h' ((R, listOf vo.toArray n) :: news) → IntsAre vo (mulTo zs fs gs (rangeKs 0 64)) → vo.length = 256 → Q (.ref R) { s with heap := h', toks := tk' }) :
    wpAny (model prog w) (ktrTop dp un gd cn cs L a ccd cl outer) (call (.ref f) [.ref self, .ref l1, .ref l2]) Q E s :=
  C self dx ring rdx D lc l1 l2 zs fs gs vz vf vg kz kf kg t1 t2 t3 t4 u1 u2 u4 q1 q2 news dp un gd cn cs a ccd cl outer A₀ base h₀ L m s Q E B F X (fun p hp => by
    rcases List.mem_cons.mp hp with rfl | hp
    · exact N _ m1
    rcases List.mem_cons.mp hp with rfl | hp
    · exact N _ m2
    rcases List.mem_cons.mp hp with rfl | hp
    · exact N _ m3
    rcases List.mem_cons.mp hp with rfl | hp
    · exact N _ m4
    rcases List.mem_cons.mp hp with rfl | hp
    · exact N _ m5
    rcases List.mem_cons.mp hp with rfl | hp
    · exact N _ m6
    rcases List.mem_cons.mp hp with rfl | hp
    · exact N _ m7
    exact N p hp) T hk hz hf hg lz lf lg sz sf sg hd hu h
end Mine
namespace Mine
/-- the ledger of two transforms x, y over one ring -/
abbrev twoPolys (w : World) (rc c x dx y dy ring rdx D l1 l2 : Addr) (vz vf vg : List Value) (kz kf kg : Nat) (t1 t2 t3 t4 u1 u2 u4 q1 q2 q3 q4 : Tok) (news : List (Addr × Obj)) : List (Addr × Obj) :=
  (x, instObj c dx) :: (dx, polyDict w ring l1 q1 q2) :: (y, instObj c dy) :: (dy, polyDict w ring l2 q3 q4) :: (ring, instObj rc rdx) :: (rdx, ringDict w D t1 t2 t3 t4 u1 u2 u4) :: (D, listOf vz.toArray kz) :: (l1, listOf vf.toArray kf) :: (l2, listOf vg.toArray kg) :: news
/-- «x._ntt_multiplication(y)» by the def f -/
def NttClaim (prog : Program) (w : World) (K : Frag) (p : Program) (loose : List Str) (mean : ExcName → Option Value) (mg mb : Str → Option Value) (rc c f : Addr) : Prop :=
  ∀ (x dx y dy ring rdx D l1 l2 : Addr) (zs fs gs : List Int) (vz vf vg : List Value) (kz kf kg : Nat) (t1 t2 t3 t4 u1 u2 u4 q1 q2 q3 q4 : Tok) (news : List (Addr × Obj)) (dp un : Nat) (gd : Option (List Code)) (cn : Str) (cs : Scope) (a : Addr) (ccd : Value) (cl : List (Str × Addr)) (outer : List Env) (A₀ : Around) (base h₀ : Heap) (L : Addr) (m : Str → Option Value) (s : Shared) (Q E : Value → Shared → Prop),
    Below A₀ base outer h₀ → Fr h₀ L s.heap m → K.In h₀ → News h₀ L s.heap (twoPolys w rc c x dx y dy ring rdx D l1 l2 vz vf vg kz kf kg t1 t2 t3 t4 u1 u2 u4 q1 q2 q3 q4 news) →
    Top p loose mean mg mb h₀ → cs.kind = .function → IntsAre vz zs → IntsAre vf fs → IntsAre vg gs → vz.length = 128 → vf.length = 256 → vg.length = 256 →
    (∀ j : Nat, Sm 64 (zs.getD j 0)) → (∀ j : Nat, Sm 30000000 (fs.getD j 0)) → (∀ j : Nat, Sm 30000000 (gs.getD j 0)) → dp + 8 < recursionLimit → un + 128 < cLine →
    (∀ (R : Addr) (vo : List Value) (n : Nat) (h' : Heap) (tk' : Nat), Fr h₀ L h' m → News h₀ L h' ((R, listOf vo.toArray n) :: news) → IntsAre vo (mulTo zs fs gs (rangeKs 0 64)) → vo.length = 256 → Q (.ref R) { s with heap := h', toks := tk' }) →
    wpAny (model prog w) (ktrTop dp un gd cn cs L a ccd cl outer) (call (.ref f) [.ref x, .ref y]) Q E s
/-- «x * y» -/
def StarClaim (prog : Program) (w : World) (K : Frag) (p : Program) (loose : List Str) (mean : ExcName → Option Value) (mg mb : Str → Option Value) (rc c : Addr) : Prop :=
  ∀ (x dx y dy ring rdx D l1 l2 : Addr) (zs fs gs : List Int) (vz vf vg : List Value) (kz kf kg : Nat) (t1 t2 t3 t4 u1 u2 u4 q1 q2 q3 q4 : Tok) (news : List (Addr × Obj)) (dp un : Nat) (gd : Option (List Code)) (cn : Str) (cs : Scope) (a : Addr) (ccd : Value) (cl : List (Str × Addr)) (outer : List Env) (A₀ : Around) (base h₀ : Heap) (L : Addr) (m : Str → Option Value) (s : Shared) (Q E : Value → Shared → Prop),
    Below A₀ base outer h₀ → Fr h₀ L s.heap m → K.In h₀ → News h₀ L s.heap (twoPolys w rc c x dx y dy ring rdx D l1 l2 vz vf vg kz kf kg t1 t2 t3 t4 u1 u2 u4 q1 q2 q3 q4 news) →
    Top p loose mean mg mb h₀ → cs.kind = .function → IntsAre vz zs → IntsAre vf fs → IntsAre vg gs → vz.length = 128 → vf.length = 256 → vg.length = 256 →
    (∀ j : Nat, Sm 64 (zs.getD j 0)) → (∀ j : Nat, Sm 30000000 (fs.getD j 0)) → (∀ j : Nat, Sm 30000000 (gs.getD j 0)) → dp + 12 < recursionLimit → un + 192 < cLine →
    (∀ (r rx R : Addr) (vo : List Value) (n : Nat) (p1 p2 : Tok) (h' : Heap) (tk' : Nat), Fr h₀ L h' m → News h₀ L h' ((r, instObj c rx) :: (rx, polyDict w ring R p1 p2) :: (R, listOf vo.toArray n) :: news) → IntsAre vo (mulTo zs fs gs (rangeKs 0 64)) → vo.length = 256 → Q (.ref r) { s with heap := h', toks := tk' }) →
    wpAny (model prog w) (ktrTop dp un gd cn cs L a ccd cl outer) (binaryOp .Mult (.ref x) (.ref y)) Q E s
end Mine
namespace Mine
theorem NttClaim.use {prog : Program} {w : World} {K : Frag} {p : Program} {loose : List Str} {mean : ExcName → Option Value} {mg mb : Str → Option Value} {rc c f : Addr} (C : NttClaim prog w K p loose mean mg mb rc c f)
    {x dx y dy ring rdx D l1 l2 : Addr} {zs fs gs : List Int} {vz vf vg : List Value} {kz kf kg : Nat} {t1 t2 t3 t4 u1 u2 u4 q1 q2 q3 q4 : Tok} {news : List (Addr × Obj)} {dp un : Nat} {gd : Option (List Code)} {cn : Str} {cs : Scope} {a : Addr} {ccd : Value} {cl : List (Str × Addr)} {outer : List Env} {A₀ : Around} {base h₀ : Heap} {L : Addr} {m : Str → Option Value} {s : Shared} {Q E : Value → Shared → Prop}
    (B : Below A₀ base outer h₀) (F : Fr h₀ L s.heap m) (X : K.In h₀) (N : News h₀ L s.heap news) (T : Top p loose mean mg mb h₀) (hk : cs.kind = .function)
    (m1 : (x, instObj c dx) ∈ news) (m2 : (dx, polyDict w ring l1 q1 q2) ∈ news) (m3 : (y, instObj c dy) ∈ news) (m4 : (dy, polyDict w ring l2 q3 q4) ∈ news) (m5 : (ring, instObj rc rdx) ∈ news) (m6 : (rdx, ringDict w D t1 t2 t3 t4 u1 u2 u4) ∈ news) (m7 : (D, listOf vz.toArray kz) ∈ news) (m8 : (l1, listOf vf.toArray kf) ∈ news) (m9 : (l2, listOf vg.toArray kg) ∈ news)
    (hz : IntsAre vz zs) (hf : IntsAre vf fs) (hg : IntsAre vg gs) (lz : vz.length = 128) (lf : vf.length = 256) (lg : vg.length = 256)
    (sz : ∀ j : Nat, Sm 64 (zs.getD j 0)) (sf : ∀ j : Nat, Sm 30000000 (fs.getD j 0)) (sg : ∀ j : Nat, Sm 30000000 (gs.getD j 0)) (hd : dp + 8 < recursionLimit) (hu : un + 128 < cLine)
    (h : ∀ (R : Addr) (vo : List Value) (n : Nat) (h' : Heap) (tk' : Nat), Fr h₀ L h' m → News h₀ L h' ((R, listOf vo.toArray n) :: news) → IntsAre vo (mulTo zs fs gs (rangeKs 0 64)) → vo.length = 256 → Q (.ref R) { s with heap := h', toks := tk' }) :
    wpAny (model prog w) (ktrTop dp un gd cn cs L a ccd cl outer) (call (.ref f) [.ref x, .ref y]) Q E s :=
  C x dx y dy ring rdx D l1 l2 zs fs gs vz vf vg kz kf kg t1 t2 t3 t4 u1 u2 u4 q1 q2 q3 q4 news dp un gd cn cs a ccd cl outer A₀ base h₀ L m s Q E B F X (fun p hp => by
    rcases List.mem_cons.mp hp with rfl | hp
    · exact N _ m1
    rcases List.mem_cons.mp hp with rfl | hp
    · exact N _ m2
    rcases List.mem_cons.mp hp with rfl | hp
    · exact N _ m3
    rcases List.mem_cons.mp hp with rfl | hp
    · exact N _ m4
    rcases List.mem_cons.mp hp with rfl | hp
    · exact N _ m5
    rcases List.mem_cons.mp hp with rfl | hp
    · exact N _ m6
    rcases List.mem_cons.mp hp with rfl | hp
    · exact N _ m7
    rcases List.mem_cons.mp hp with rfl | hp
    · exact N _ m8
    rcases List.mem_cons.mp hp with rfl | hp
    · exact N _ m9
    exact N p hp) T hk hz hf hg lz lf lg sz sf sg hd hu h
end Mine
namespace Mine
section
variable {M : Model} {A : Around} {E : Value → Shared → Prop} {s : Shared} {K : Frag} {env : Env} {pos : Pos} {x C : Addr} {ox : Obj} {od : Option Obj} {first : List Value} {Q : Value → Shared → Prop}
/-- a call of an object of one's own with keywords -/
theorem own_callWith_KW {f : Addr} {e : Expr} {rest : List Expr} {kws : List Keyword} (_X : K.In s.heap) (_I : InstAt s.heap x ox C od) (hd : ox.data = .plain) (_hs : findIn K (.ref C) "__call__" = some (some (.ref f)))
    (hall : (backToKw pos (keywordEach kws env)).all (·.1.isSome) = true)
    (h : wpAny M A (spliced (backTo pos (starEach (e :: rest) env))) (fun vs s₁ => wpAny M A (evalAll ((backToKw pos (keywordEach kws env)).map (·.2)))
      (fun ks s₂ => kco_P K x C ox od s₂.heap ∧ wpAny M A (call (.ref x) (first ++ vs) (((backToKw pos (keywordEach kws env)).filterMap (·.1)).zip ks)) Q E s₂) E s₁) E s)
    (hplain : ((backTo pos (starEach (e :: rest) env)).any (·.1) || (backToKw pos (keywordEach kws env)).any (·.1.isNone)) = false := by rfl) (he : starEach (e :: rest) env = (false, eval e env) :: starEach rest env := by rfl) :
    wpAny M A (callWith pos (.ref x) first (backTo pos (starEach (e :: rest) env)) (backToKw pos (keywordEach kws env))) Q E s :=
  kco_callWith_of hplain hd (evalArgs_kw2 hall h he)
end
end Mine
namespace Mine
theorem RingClaim.use {prog : Program} {w : World} {K : Frag} {p : Program} {loose : List Str} {mean : ExcName → Option Value} {mg mb : Str → Option Value} {f : Addr} (C : RingClaim prog w K p loose mean mg mb f)
    {news : List (Addr × Obj)} {dp un : Nat} {gd : Option (List Code)} {cn : Str} {cs : Scope} {a : Addr} {ccd : Value} {cl : List (Str × Addr)} {outer : List Env} {A₀ : Around} {base h₀ : Heap} {L : Addr} {m : Str → Option Value} {s : Shared} {Q E : Value → Shared → Prop}
    (B : Below A₀ base outer h₀) (F : Fr h₀ L s.heap m) (X : K.In h₀) (N : News h₀ L s.heap news) (T : Top p loose mean mg mb h₀) (hk : cs.kind = .function) (hd : dp + 4 < recursionLimit) (hu : un + 64 < cLine)
    (h : ∀ (x dx D : Addr) (ys : List Value) (t1 t2 t3 t4 u1 u2 u4 : Tok) (h' : Heap) (tk' : Nat), Fr h₀ L h' m → News h₀ L h' ((D, listOf ys.toArray ys.length) :: (x, instObj f dx) :: (dx, ringDict w D t1 t2 t3 t4 u1 u2 u4) :: news) → IntsAre ys ZET → ys.length = 128 → Q (.ref x) { s with heap := h', toks := tk' }) :
    wpAny (model prog w) (ktrTop dp un gd cn cs L a ccd cl outer) (call (.ref f) []) Q E s :=
  C news dp un gd cn cs a ccd cl outer A₀ base h₀ L m s Q E B F X N T hk hd hu fun x dx D ys t1 t2 t3 t4 u1 u2 u4 h' tk' F' N' I' => h x dx D ys t1 t2 t3 t4 u1 u2 u4 h' tk' F' N' I' (I'.length.trans ZET_len)
theorem RootsClaim.use {prog : Program} {w : World} {K : Frag} {p : Program} {loose : List Str} {mean : ExcName → Option Value} {mg mb : Str → Option Value} {f : Addr} (C : RootsClaim prog w K p loose mean mg mb f)
    {news : List (Addr × Obj)} {dp un : Nat} {gd : Option (List Code)} {cn : Str} {cs : Scope} {a : Addr} {ccd : Value} {cl : List (Str × Addr)} {outer : List Env} {A₀ : Around} {base h₀ : Heap} {L : Addr} {m : Str → Option Value} {s : Shared} {Q E : Value → Shared → Prop}
    (B : Below A₀ base outer h₀) (F : Fr h₀ L s.heap m) (X : K.In h₀) (N : News h₀ L s.heap news) (T : Top p loose mean mg mb h₀) (hk : cs.kind = .function) (hd : dp + 4 < recursionLimit) (hu : un + 64 < cLine)
    (h : ∀ (D : Addr) (ys : List Value) (n : Nat) (h' : Heap) (tk' : Nat), Fr h₀ L h' m → News h₀ L h' ((D, listOf ys.toArray n) :: news) → IntsAre ys ROOTS → ys.length = 128 → Q (.ref D) { s with heap := h', toks := tk' }) :
    wpAny (model prog w) (ktrTop dp un gd cn cs L a ccd cl outer) (call (.ref f) []) Q E s :=
  C news dp un gd cn cs a ccd cl outer A₀ base h₀ L m s Q E B F X N T hk hd hu fun D ys n h' tk' F' N' I' => h D ys n h' tk' F' N' I' (I'.length.trans ROOTS_len)
theorem StarClaim.use {prog : Program} {w : World} {K : Frag} {p : Program} {loose : List Str} {mean : ExcName → Option Value} {mg mb : Str → Option Value} {rc c : Addr} (C : StarClaim prog w K p loose mean mg mb rc c)
    {x dx y dy ring rdx D l1 l2 : Addr} {zs fs gs : List Int} {vz vf vg : List Value} {kz kf kg : Nat} {t1 t2 t3 t4 u1 u2 u4 q1 q2 q3 q4 : Tok} {news : List (Addr × Obj)} {dp un : Nat} {gd : Option (List Code)} {cn : Str} {cs : Scope} {a : Addr} {ccd : Value} {cl : List (Str × Addr)} {outer : List Env} {A₀ : Around} {base h₀ : Heap} {L : Addr} {m : Str → Option Value} {s : Shared} {Q E : Value → Shared → Prop}
    (B : Below A₀ base outer h₀) (F : Fr h₀ L s.heap m) (X : K.In h₀) (N : News h₀ L s.heap news) (T : Top p loose mean mg mb h₀) (hk : cs.kind = .function)
    (m1 : (x, instObj c dx) ∈ news) (m2 : (dx, polyDict w ring l1 q1 q2) ∈ news) (m3 : (y, instObj c dy) ∈ news) (m4 : (dy, polyDict w ring l2 q3 q4) ∈ news) (m5 : (ring, instObj rc rdx) ∈ news) (m6 : (rdx, ringDict w D t1 t2 t3 t4 u1 u2 u4) ∈ news) (m7 : (D, listOf vz.toArray kz) ∈ news) (m8 : (l1, listOf vf.toArray kf) ∈ news) (m9 : (l2, listOf vg.toArray kg) ∈ news)
    (hz : IntsAre vz zs) (hf : IntsAre vf fs) (hg : IntsAre vg gs) (lz : vz.length = 128) (lf : vf.length = 256) (lg : vg.length = 256)
    (sz : ∀ j : Nat, Sm 64 (zs.getD j 0)) (sf : ∀ j : Nat, Sm 30000000 (fs.getD j 0)) (sg : ∀ j : Nat, Sm 30000000 (gs.getD j 0)) (hd : dp + 12 < recursionLimit) (hu : un + 192 < cLine)
    (h : ∀ (r rx R : Addr) (vo : List Value) (n : Nat) (p1 p2 : Tok) (h' : Heap) (tk' : Nat), Fr h₀ L h' m → News h₀ L h' ((r, instObj c rx) :: (rx, polyDict w ring R p1 p2) :: (R, listOf vo.toArray n) :: news) → IntsAre vo (mulTo zs fs gs (rangeKs 0 64)) → vo.length = 256 → Q (.ref r) { s with heap := h', toks := tk' }) :
    wpAny (model prog w) (ktrTop dp un gd cn cs L a ccd cl outer) (binaryOp .Mult (.ref x) (.ref y)) Q E s :=
  C x dx y dy ring rdx D l1 l2 zs fs gs vz vf vg kz kf kg t1 t2 t3 t4 u1 u2 u4 q1 q2 q3 q4 news dp un gd cn cs a ccd cl outer A₀ base h₀ L m s Q E B F X (fun p hp => by
    rcases List.mem_cons.mp hp with rfl | hp
    · exact N _ m1
    rcases List.mem_cons.mp hp with rfl | hp
    · exact N _ m2
    rcases List.mem_cons.mp hp with rfl | hp
    · exact N _ m3
    rcases List.mem_cons.mp hp with rfl | hp
    · exact N _ m4
    rcases List.mem_cons.mp hp with rfl | hp
    · exact N _ m5
    rcases List.mem_cons.mp hp with rfl | hp
    · exact N _ m6
    rcases List.mem_cons.mp hp with rfl | hp
    · exact N _ m7
    rcases List.mem_cons.mp hp with rfl | hp
    · exact N _ m8
    rcases List.mem_cons.mp hp with rfl | hp
    · exact N _ m9
    exact N p hp) T hk hz hf hg lz lf lg sz sf sg hd hu h
def noCell : Data → Bool
  | .cell _ => false
  | _ => true
theorem ne_cellR {h₀ h : Heap} {L b : Addr} {news : List (Addr × Obj)} {p : Addr × Obj} {ob : Obj} {v : Option Value} (N : News h₀ L h news) (ha : p ∈ news) (hb : (b, ob) ∈ news) (hc : ob.data = .cell v) (hd : noCell p.2.data = true) : p.1 ≠ b := fun e => by
  have e1 := (N _ ha).1
  have e2 := (N _ hb).1
  rw [e] at e1
  have e3 := Option.some.inj (e1.symm.trans e2)
  rw [e3] at hd
  dsimp only at hd
  rw [hc] at hd
  cases hd
theorem bnd0 : 0 ≤ (0 : Int) ∧ (0 : Int) < 100000 := by decide
theorem bnd1 : 0 ≤ (1 : Int) ∧ (1 : Int) < 100000 := by decide
theorem bnd2 {k c : Int} (h1 : 0 ≤ k) (h2 : k < 0 + ((c - 0).toNat : Int)) (h4 : c ≤ 256) : 0 ≤ 2 + k ∧ 2 + k < 100000 := by omega
theorem bnd3 {k c d : Int} (h1 : 0 ≤ k) (h2 : k < 0 + ((c - 0).toNat : Int)) (h4 : c ≤ 256) (h5 : 0 ≤ d) (h6 : d ≤ 256) : 0 ≤ 2 + d + k ∧ 2 + d + k < 100000 := by omega
end Mine
namespace Mine
theorem powMod_lt {b e m : Nat} (h : 0 < m) : Builtin.powMod b e m < m := by
  unfold Builtin.powMod
  have key : ∀ (l : List Nat) (a : Nat), a < m → l.foldl (fun p i => if e.testBit i then p * p % m * b % m else p * p % m) a < m := by
    intro l
    induction l with
    | nil => intro a ha; exact ha
    | cons x l ih =>
      intro a _
      refine ih _ ?_
      show (if e.testBit x = true then a * a % m * b % m else a * a % m) < m
      split
      · exact Nat.mod_lt _ h
      · exact Nat.mod_lt _ h
  exact key _ _ (Nat.mod_lt _ h)
theorem fermat_all : (List.range 3329).all (fun x => x * Builtin.powMod x 3327 3329 % 3329 == if x == 0 then 0 else 1) = true := by decide +kernel
theorem sq_all : (List.range 3329).all (fun w => (w * w) ^ 128 % 3329 != 3328) = true := by decide +kernel
theorem roots_ok : (List.range 128).all (fun i => (ROOTS.getD i 0) ^ 128 % 3329 == 3328) = true := by decide +kernel
theorem link_ok : (List.range 64).all (fun i => (ROOTS.getD (2 * i) 0 - ZET.getD (64 + i) 0) % 3329 == 0 && (ROOTS.getD (2 * i + 1) 0 + ZET.getD (64 + i) 0) % 3329 == 0) = true := by decide +kernel
theorem sizes_ok : ROOTS.all (fun x => decide (0 ≤ x ∧ x ≤ 3329)) = true ∧ ZET.all (fun x => decide (0 ≤ x ∧ x ≤ 3329)) = true := by decide +kernel

theorem fermat (x : Nat) (h : x < 3329) (h0 : x ≠ 0) : x * Builtin.powMod x 3327 3329 % 3329 = 1 := by
  have a := List.all_eq_true.mp fermat_all x (List.mem_range.mpr h)
  simpa [h0] using a
theorem cg_of {a b : Int} (k : Int) (h : a - b = 3329 * k) : a % 3329 = b % 3329 := by omega
/-- an inverse modulo 3329 -/
theorem inv_of (v : Int) (h : v % 3329 ≠ 0) : (v * ((Builtin.powMod (v % 3329).toNat 3327 3329 : Nat) : Int)) % 3329 = 1 := by
  have f := fermat (v % 3329).toNat (by omega) (by omega)
  generalize Builtin.powMod (v % 3329).toNat 3327 3329 = y at f
  have f2 : (((v % 3329).toNat * y : Nat) : Int) % 3329 = 1 := by omega
  rw [Int.natCast_mul, Int.toNat_of_nonneg (by omega)] at f2
  rw [Int.mul_emod]
  rw [Int.mul_emod, Int.emod_emod] at f2
  exact f2
theorem has_inv (v : Int) (h : v % 3329 ≠ 0) : ∃ y k : Int, v * y = 1 + 3329 * k := by
  have f := inv_of v h
  generalize ((Builtin.powMod (v % 3329).toNat 3327 3329 : Nat) : Int) = y at f
  refine ⟨y, v * y / 3329, ?_⟩
  generalize v * y = z at f
  omega
theorem pow_cong (a b : Int) (n : Nat) (e : a % 3329 = b % 3329) : a ^ n % 3329 = b ^ n % 3329 := by
  induction n with
  | zero => simp
  | succ n ih => rw [Int.pow_succ, Int.pow_succ, Int.mul_emod, ih, e, ← Int.mul_emod]
theorem nonsq_id (u v r y : Int) : (u * y) * (u * y) - r = (u * u - r * v * v) * (y * y) + r * (v * y - 1) * (v * y + 1) := by grind
theorem nonsq_w (w : Int) : (w * w) ^ 128 % 3329 ≠ 3328 := by
  intro h
  have e : (w * w) % 3329 = ((w % 3329) * (w % 3329)) % 3329 := Int.mul_emod _ _ _
  rw [pow_cong _ _ 128 e] at h
  obtain ⟨n, hn⟩ := Int.eq_ofNat_of_zero_le (Int.emod_nonneg w (by decide : (3329 : Int) ≠ 0))
  have a := List.all_eq_true.mp sq_all n (List.mem_range.mpr (by omega))
  rw [hn] at h
  have c : (((n * n) ^ 128 % 3329 : Nat) : Int) = 3328 := by
    rw [← h, Int.natCast_emod, Int.natCast_pow, Int.natCast_mul]; rfl
  have d : (n * n) ^ 128 % 3329 = 3328 := by omega
  simp [d] at a
/-- r is no square -/
theorem nonsq (u v r : Int) (hr : r ^ 128 % 3329 = 3328) (h : (u * u - r * v * v) % 3329 = 0) : u % 3329 = 0 ∧ v % 3329 = 0 := by
  obtain ⟨l, hl⟩ := Int.dvd_of_emod_eq_zero h
  have hv : v % 3329 = 0 := by
    refine Classical.byContradiction fun hv => ?_
    obtain ⟨y, k, hk⟩ := has_inv v hv
    have e1 := nonsq_id u v r y
    rw [hl, hk] at e1
    have e2 : (u * y) * (u * y) - r = 3329 * (l * (y * y) + r * k * (1 + 3329 * k + 1)) := by rw [e1]; clear e1 hk hv hl h hr; grind
    refine nonsq_w (u * y) ?_
    rw [pow_cong _ _ 128 (cg_of _ e2), hr]
  refine ⟨?_, hv⟩
  refine Classical.byContradiction fun hu => ?_
  obtain ⟨y, k, hk⟩ := has_inv u hu
  obtain ⟨j, hj⟩ := Int.dvd_of_emod_eq_zero hv
  have e0 : (u * y) * (u * y) = (u * u - r * v * v) * (y * y) + r * v * v * (y * y) := by clear hk hu hj hv hl h hr; grind
  rw [hk, hl, hj] at e0
  have e1 : (1 : Int) = 3329 * (l * (y * y) + r * j * j * 3329 * (y * y) - k * (2 + 3329 * k)) := by
    clear hu hk hl hj h hr hv
    grind
  omega
end Mine
namespace Mine
theorem sm_draw {ns : List Int} {k : Int} (h : PyData.layable0 (.list (ns.map .int)) = true) (h0 : 0 ≤ k) (h1 : k < 100000) : Sm 1048576 (drawAt ns k) := by
  unfold drawAt
  split
  · have := bits_getD (i := k.toNat) h
    exact this
  · refine Nat.le_trans (PySem.intBits_le_64 ?_ ?_) (by decide)
    · have := Int.mul_nonneg (Int.mul_nonneg (by decide : (0 : Int) ≤ 23) h0) h0
      omega
    · have a := Int.mul_le_mul_of_nonneg_left (Int.le_of_lt h1) (Int.mul_nonneg (by decide : (0 : Int) ≤ 23) h0)
      have b : (23 * k) * 100000 ≤ (23 * 100000) * 100000 := by omega
      omega
theorem sm_zero (n : Nat) : Sm n 0 := Nat.zero_le _
theorem sm_getD {n : Nat} {l : List Int} (h : ∀ x ∈ l, Sm n x) (j : Nat) : Sm n (l.getD j 0) := by
  rw [List.getD_eq_getElem?_getD]
  cases e : l[j]? with
  | none => exact sm_zero n
  | some x => exact h x (List.mem_of_getElem? e)
theorem rangeKs_bound {n : Nat} {k : Int} (h : k ∈ rangeKs 0 n) : 0 ≤ k ∧ k < n := by
  unfold rangeKs at h
  obtain ⟨i, hi, rfl⟩ := List.mem_map.mp h
  have := List.mem_range.mp hi
  omega
theorem hook_list {ns : List Int} {vs : List Value} {c d : Int} (hi : IntsAre vs (List.map (fun k' => drawAt ns (d + k')) (rangeKs 0 (c - 0).toNat) ++ (List.replicate (256 - c).toNat [0]).flatten))
    (h0 : 0 ≤ c) (h1 : c ≤ 256) (d0 : 0 ≤ d) (d1 : d ≤ 258) (hlay : PyData.layable0 (.list (ns.map .int)) = true) :
    ∃ l : List Int, IntsAre vs l ∧ vs.length = 256 ∧ l.length = 256 ∧ ∀ j : Nat, Sm 1048576 (l.getD j 0) := by
  have hl : (List.map (fun k' => drawAt ns (d + k')) (rangeKs 0 (c - 0).toNat) ++ (List.replicate (256 - c).toNat [(0 : Int)]).flatten).length = 256 := by
    rw [List.length_append, List.length_map, rangeKs_length]
    have : (List.replicate (256 - c).toNat [(0 : Int)]).flatten.length = (256 - c).toNat := by
      simp [List.length_flatten]
    rw [this]
    omega
  refine ⟨_, hi, hi.length.trans hl, hl, sm_getD fun x hx => ?_⟩
  rcases List.mem_append.mp hx with hx | hx
  · obtain ⟨k, hk, rfl⟩ := List.mem_map.mp hx
    have b := rangeKs_bound hk
    exact sm_draw hlay (by omega) (by omega)
  · have : x = 0 := by
      obtain ⟨l, hl, hx⟩ := List.mem_flatten.mp hx
      rw [List.eq_of_mem_replicate hl] at hx
      exact List.mem_singleton.mp hx
    rw [this]
    exact sm_zero _
theorem hook_two {ns : List Int} {va vb : List Value} {c d : Int}
    (ha : IntsAre va (List.map (fun k' => drawAt ns (2 + k')) (rangeKs 0 (c - 0).toNat) ++ (List.replicate (256 - c).toNat [0]).flatten))
    (hb : IntsAre vb (List.map (fun k' => drawAt ns (2 + c + k')) (rangeKs 0 (d - 0).toNat) ++ (List.replicate (256 - d).toNat [0]).flatten))
    (h0 : 0 ≤ c) (h1 : c ≤ 256) (d0 : 0 ≤ d) (d1 : d ≤ 256) (hlay : PyData.layable0 (.list (ns.map .int)) = true) :
    ∃ al bl : List Int, IntsAre va al ∧ IntsAre vb bl ∧ va.length = 256 ∧ vb.length = 256 ∧ al.length = 256 ∧ bl.length = 256 ∧ (∀ j : Nat, Sm 1048576 (al.getD j 0)) ∧ (∀ j : Nat, Sm 1048576 (bl.getD j 0)) := by
  obtain ⟨l, a1, a2, a3, a4⟩ := hook_list ha h0 h1 (by decide) (by decide) hlay
  obtain ⟨r, b1, b2, b3, b4⟩ := hook_list hb d0 d1 (by omega) (by omega) hlay
  exact ⟨l, r, a1, b1, a2, b2, a3, b3, a4, b4⟩
structure LoopMark : Prop where
/-- the ledger ahead of the main loop, without what is dropped -/
theorem hook_led {h₀ h : Heap} {L : Addr} {e1 e2 e3 e4 e5 e6 e7 e8 e9 e10 e11 e12 e13 e14 e15 : Addr × Obj} {rest : List (Addr × Obj)} {X Y : Prop} (N : News h₀ L h (e1 :: e2 :: e3 :: e4 :: e5 :: e6 :: e7 :: e8 :: e9 :: e10 :: e11 :: e12 :: e13 :: e14 :: e15 :: rest))
    (h3 : e4.1 < e3.1 ∧ e5.1 < e3.1 ∧ e6.1 < e3.1 ∧ e7.1 < e3.1 ∧ e8.1 < e3.1 ∧ e9.1 < e3.1 ∧ e10.1 < e3.1 ∧ e11.1 < e3.1 ∧ e12.1 < e3.1 ∧ e13.1 < e3.1 ∧ e14.1 < e3.1 ∧ e15.1 < e3.1 ∧ Y) (h2 : e3.1 < e2.1 ∧ X) {Z : Prop} (h1 : e2.1 < e1.1 ∧ Z) :
    News h₀ L h (e1 :: e2 :: e3 :: e4 :: e8 :: e12 :: e13 :: e14 :: e15 :: []) ∧ @LT.lt Nat _ e4.1 e3.1 ∧ @LT.lt Nat _ e8.1 e3.1 ∧ @LT.lt Nat _ e12.1 e3.1 ∧ @LT.lt Nat _ e13.1 e3.1 ∧ @LT.lt Nat _ e14.1 e3.1 ∧ @LT.lt Nat _ e15.1 e3.1 ∧ @LT.lt Nat _ e3.1 e2.1 ∧ @LT.lt Nat _ e2.1 e1.1 := by
  refine ⟨fun p hp => N p ?_, h3.1, h3.2.2.2.2.1, h3.2.2.2.2.2.2.2.2.1, h3.2.2.2.2.2.2.2.2.2.1, h3.2.2.2.2.2.2.2.2.2.2.1, h3.2.2.2.2.2.2.2.2.2.2.2.1, h2.1, h1.1⟩
  simp only [List.mem_cons, List.not_mem_nil, or_false] at hp ⊢
  rcases hp with h | h | h | h | h | h | h | h | h <;> simp [h]

/-- the law's own inverse -/
def underI (u v r : Int) : Int := ((Builtin.powMod ((Int.fmod (u * u - r * v * v) 3329) % 3329).toNat (Int.toNat 3327) (Int.toNat 3329) : Nat) : Int)
def atI (l : List Int) (i : Int) : Int := l.getD i.toNat 0
def invS (r b : List Int) (i : Int) : List Int :=
  [atI b (2 * i) * underI (atI b (2 * i)) (atI b (2 * i + 1)) (atI r i), -(atI b (2 * i + 1)) * underI (atI b (2 * i)) (atI b (2 * i + 1)) (atI r i)]
abbrev nil2 (b : List Int) (i : Int) : Prop := Int.fmod (atI b (2 * i)) 3329 = 0 ∧ Int.fmod (atI b (2 * i + 1)) 3329 = 0
def unitS (b : List Int) (i : Int) : List Int := if nil2 b i then [0, 0] else [1, 0]
def wantS (a b : List Int) (i : Int) : List Int := if nil2 b i then [0, 0] else [Int.fmod (atI a (2 * i)) 3329, Int.fmod (atI a (2 * i + 1)) 3329]
def growTo (S : Int → List Int) (l : List Int) : List Int := l.flatMap S
/-- what holds between the turns: want, unit, inverse -/
def MainP (r a b : List Int) (pre w u i : List Int) : Prop :=
  (w = growTo (wantS a b) pre ∧ w.length = 2 * pre.length) ∧ (u = growTo (unitS b) pre ∧ u.length = 2 * pre.length) ∧ (i = growTo (invS r b) pre ∧ i.length = 2 * pre.length)
theorem main_start (r a b : List Int) : MainP r a b [] [] [] [] := ⟨⟨rfl, rfl⟩, ⟨rfl, rfl⟩, ⟨rfl, rfl⟩⟩
theorem grow_snoc (S : Int → List Int) (l : List Int) (i : Int) : growTo S (l ++ [i]) = growTo S l ++ S i := by simp [growTo]
theorem grow_turn {S : Int → List Int} {pre w o : List Int} {i : Int} (h : w = growTo S pre ∧ w.length = 2 * pre.length) (e : o = S i) (e2 : (S i).length = 2) : w ++ o = growTo S (pre ++ [i]) ∧ (w ++ o).length = 2 * (pre ++ [i]).length := by
  obtain ⟨rfl, h⟩ := h
  subst e
  refine ⟨(grow_snoc S pre i).symm, ?_⟩
  rw [List.length_append, h, e2, List.length_append, List.length_singleton]
  omega
theorem unitS_len (b : List Int) (i : Int) : (unitS b i).length = 2 := by unfold unitS; split <;> rfl
theorem wantS_len (a b : List Int) (i : Int) : (wantS a b i).length = 2 := by unfold wantS; split <;> rfl
theorem main_turnN {r a b pre w u i : List Int} {k x y : Int} (h : MainP r a b pre w u i) (hx : x = (invS r b k).getD 0 0) (hy : y = (invS r b k).getD 1 0) (hn : nil2 b k) :
    MainP r a b (pre ++ [k]) (w ++ [0, 0]) (u ++ [0, 0]) (i ++ [x, y]) := by
  refine ⟨grow_turn h.1 ?_ (wantS_len ..), grow_turn h.2.1 ?_ (unitS_len ..), grow_turn h.2.2 ?_ rfl⟩
  · unfold wantS; rw [if_pos hn]
  · unfold unitS; rw [if_pos hn]
  · rw [hx, hy]; rfl
theorem main_turnS {r a b pre w u i : List Int} {k x y : Int} (h : MainP r a b pre w u i) (hx : x = (invS r b k).getD 0 0) (hy : y = (invS r b k).getD 1 0) (hn : ¬ nil2 b k) :
    MainP r a b (pre ++ [k]) (w ++ [Int.fmod (atI a (2 * k)) 3329, Int.fmod (atI a (2 * k + 1)) 3329]) (u ++ [1, 0]) (i ++ [x, y]) := by
  refine ⟨grow_turn h.1 ?_ (wantS_len ..), grow_turn h.2.1 ?_ (unitS_len ..), grow_turn h.2.2 ?_ rfl⟩
  · unfold wantS; rw [if_neg hn]
  · unfold unitS; rw [if_neg hn]
  · rw [hx, hy]; rfl
theorem sm_all {l : List Int} (h : l.all (fun x => decide (0 ≤ x ∧ x ≤ 3329)) = true) (j : Nat) : Sm 64 (l.getD j 0) :=
  sm_getD (fun x hx => by
    have a := List.all_eq_true.mp h x hx
    have b := of_decide_eq_true a
    exact Sm.small (by omega) b.2) j
theorem sm_roots (j : Nat) : Sm 64 (ROOTS.getD j 0) := sm_all sizes_ok.1 j
theorem sm_zet (j : Nat) : Sm 64 (ZET.getD j 0) := sm_all sizes_ok.2 j
theorem sm_under {b e : Nat} : Sm 64 ((Builtin.powMod b e (Int.toNat 3329) : Nat) : Int) := by
  have h : Builtin.powMod b e (Int.toNat 3329) < 3329 := powMod_lt (m := 3329) (by decide)
  exact Sm.small (by omega) (by omega)
theorem mulOk_bb {f g : List Int} {i j : Nat} (hf : ∀ j : Nat, Sm 1048576 (f.getD j 0)) (hg : ∀ j : Nat, Sm 1048576 (g.getD j 0)) : IntMulOk (f.getD i 0) (g.getD j 0) := Sm.mulOk ((hf i).mono (by decide)) ((hg j).mono (by decide))
theorem mulOk_r {i : Nat} {x : Int} : IntMulOk (ROOTS.getD i 0) x := IntMulOk.of_left (sm_roots i)
theorem mulOk_rbb {f g : List Int} {i j k : Nat} (hf : ∀ j : Nat, Sm 1048576 (f.getD j 0)) (hg : ∀ j : Nat, Sm 1048576 (g.getD j 0)) : IntMulOk (ROOTS.getD i 0 * f.getD j 0) (g.getD k 0) := Sm.mulOk (((sm_roots i).mul (hf j)).mono (by decide)) ((hg k).mono (by decide))
theorem mulOk_under {x : Int} {b e : Nat} : IntMulOk x ((Builtin.powMod b e (Int.toNat 3329) : Nat) : Int) := IntMulOk.of_right sm_under
theorem fmod_eq {x : Int} : x.fmod 3329 = x % 3329 := Int.fmod_eq_emod_of_nonneg x (by decide)
theorem main_sz1 {r a b pre w u i : List Int} {us : List Value} {x y : Value} (h : MainP r a b pre w u i) (hI : IntsAre us w) (hp : pre.length < 128) : us.length + [x, y].length ≤ 65536 := by
  rw [hI.length, h.1.2]; simp only [List.length_cons, List.length_nil]; omega
theorem main_sz2 {r a b pre w u i : List Int} {us : List Value} {x y : Value} (h : MainP r a b pre w u i) (hI : IntsAre us u) (hp : pre.length < 128) : us.length + [x, y].length ≤ 65536 := by
  rw [hI.length, h.2.1.2]; simp only [List.length_cons, List.length_nil]; omega
theorem main_sz3 {r a b pre w u i : List Int} {us : List Value} {x y : Value} (h : MainP r a b pre w u i) (hI : IntsAre us i) (hp : pre.length < 128) : us.length + [x, y].length ≤ 65536 := by
  rw [hI.length, h.2.2.2]; simp only [List.length_cons, List.length_nil]; omega
theorem three_end {h₀ : Heap} {L d₁ d₂ d₃ : Addr} {m₀ m' : Str → Option Value} {rest own news' : List (Addr × Obj)} {x y₁ y₂ y₃ : Str} {stored : List Str} {P : List Int → List Int → List Int → List Int → Prop} {pre : List Int} {s₁ : Shared} {h' : Heap} {tk : Nat}
    {us₁ us₂ us₃ : List Value} {os₁ os₂ os₃ : List Int} {j₁ j₂ j₃ : Nat} (F : Fr h₀ L h' m') (N : News h₀ L h' news')
    (n₁ : (d₁, listOf us₁.toArray j₁) ∈ news') (n₂ : (d₂, listOf us₂.toArray j₂) ∈ news') (n₃ : (d₃, listOf us₃.toArray j₃) ∈ news') (hr : ∀ p ∈ rest, p ∈ news') (ho : ∀ p ∈ own, p ∈ news')
    (i₁ : IntsAre us₁ os₁) (i₂ : IntsAre us₂ os₂) (i₃ : IntsAre us₃ os₃) (hy₁ : m' y₁ = some (.ref d₁)) (hy₂ : m' y₂ = some (.ref d₂)) (hy₃ : m' y₃ = some (.ref d₃))
    (hs : ∀ z, z ≠ x → z ≠ y₁ → z ≠ y₂ → z ≠ y₃ → stored.contains z = false → m' z = m₀ z) (hp : P pre os₁ os₂ os₃) :
    InvEndN h₀ L (KstS (σ := Three) (fun c => (d₁, listOf c.1.toArray c.2.2.1) :: (d₂, listOf c.2.2.2.1.toArray c.2.2.2.2.2.1) :: (d₃, listOf c.2.2.2.2.2.2.1.toArray c.2.2.2.2.2.2.2.2) :: rest)
        (fun _ => [(y₁, .ref d₁), (y₂, .ref d₂), (y₃, .ref d₃)]) (fun c => IntsAre c.1 c.2.1 ∧ IntsAre c.2.2.2.1 c.2.2.2.2.1 ∧ IntsAre c.2.2.2.2.2.2.1 c.2.2.2.2.2.2.2.1) x stored m₀ (fun pre c => P pre c.2.1 c.2.2.2.2.1 c.2.2.2.2.2.2.2.1) pre)
        own (d₁ :: d₂ :: d₃ :: rest.map (·.1)) s₁ { s₁ with heap := h', toks := tk } :=
  kst_end (us₁, os₁, j₁, us₂, os₂, j₂, us₃, os₃, j₃) F N
    (fun p hp => by
      rcases List.mem_cons.mp hp with rfl | hp
      · exact n₁
      rcases List.mem_cons.mp hp with rfl | hp
      · exact n₂
      rcases List.mem_cons.mp hp with rfl | hp
      · exact n₃
      exact hr p hp) ho rfl ⟨i₁, i₂, i₃⟩
    (fun p hp => by
      rcases List.mem_cons.mp hp with rfl | hp
      · exact hy₁
      rcases List.mem_cons.mp hp with rfl | hp
      · exact hy₂
      rcases List.mem_singleton.mp hp with rfl
      exact hy₃)
    (fun z h1 h2 h3 => hs z h1 (h2 (y₁, .ref d₁) (.head _)) (h2 (y₂, .ref d₂) (.tail _ (.head _))) (h2 (y₃, .ref d₃) (.tail _ (.tail _ (.head _)))) h3) hp
theorem fmod_range (x : Int) : 0 ≤ x.fmod 3329 ∧ x.fmod 3329 < 3329 := by
  rw [fmod_eq]; exact ⟨Int.emod_nonneg _ (by decide), Int.emod_lt_of_pos _ (by decide)⟩
theorem sm_fmod {n : Nat} (h : 64 ≤ n) (x : Int) : Sm n (x.fmod 3329) := Sm.mono (Sm.small (by have := (fmod_range x).1; omega) (by have := (fmod_range x).2; omega)) h
theorem mem_mulTo {z f g l : List Int} {x : Int} (h : x ∈ mulTo z f g l) : ∃ y : Int, x = y.fmod 3329 := by
  obtain ⟨i, -, hx⟩ := List.mem_flatMap.mp h
  simp only [stepMul, pairMul, List.cons_append, List.nil_append, List.mem_cons, List.not_mem_nil, or_false] at hx
  rcases hx with h | h | h | h <;> exact ⟨_, h⟩
theorem sm_mulTo {vo : List Value} {z f g l : List Int} (_ : IntsAre vo (mulTo z f g l)) (j : Nat) : Sm 30000000 ((mulTo z f g l).getD j 0) :=
  sm_getD (fun x hx => by obtain ⟨y, rfl⟩ := mem_mulTo hx; exact sm_fmod (by decide) y) j
theorem Sm.add {n : Nat} {x y : Int} (hx : Sm n x) (hy : Sm n y) : Sm (n + 1) (x + y) := by
  have := bits_add hx hy
  rw [Nat.max_self] at this
  exact this
theorem sm_invS {r b : List Int} (hb : ∀ j : Nat, Sm 1048576 (b.getD j 0)) {i x : Int} (h : x ∈ invS r b i) : Sm 30000000 x := by
  unfold invS at h
  simp only [List.mem_cons, List.not_mem_nil, or_false] at h
  rcases h with rfl | rfl
  · exact ((hb _).mul sm_under).mono (by decide)
  · exact ((hb _).neg.mul sm_under).mono (by decide)
theorem main_done {al bl w u i : List Int} {vw vu vi : List Value} (h : MainP ROOTS al bl (rangeKs 0 128) w u i) (hw : IntsAre vw w) (hu : IntsAre vu u) (hi : IntsAre vi i) (hb : ∀ j : Nat, Sm 1048576 (bl.getD j 0)) :
    vw.length = 256 ∧ vu.length = 256 ∧ vi.length = 256 ∧ w.length = 256 ∧ u.length = 256 ∧ i.length = 256 ∧ ∀ j : Nat, Sm 30000000 (i.getD j 0) := by
  obtain ⟨⟨_, a⟩, ⟨_, b⟩, ⟨e, c⟩⟩ := h
  rw [rangeKs_length] at a b c
  refine ⟨hw.length.trans a, hu.length.trans b, hi.length.trans c, a, b, c, sm_getD fun x hx => ?_⟩
  rw [e] at hx
  obtain ⟨k, -, hx⟩ := List.mem_flatMap.mp hx
  exact sm_invS hb hx
end Mine
namespace Mine
theorem under_eq (u v r : Int) : underI u v r = ((Builtin.powMod ((u * u - r * v * v) % 3329).toNat 3327 3329 : Nat) : Int) := by
  unfold underI
  rw [fmod_eq, Int.emod_emod]
  rfl
theorem under_ne {u v r : Int} (h : (u * u - r * v * v) % 3329 ≠ 0) : ∃ m : Int, (u * u - r * v * v) * underI u v r = 1 + 3329 * m := by
  have a := inv_of _ h
  rw [← under_eq] at a
  generalize (u * u - r * v * v) * underI u v r = z at a
  exact ⟨z / 3329, by omega⟩
theorem under_nil {u v r : Int} (h : (u * u - r * v * v) % 3329 = 0) : ∃ m : Int, (u * u - r * v * v) * underI u v r = 0 + 3329 * m := by
  obtain ⟨l, hl⟩ := Int.dvd_of_emod_eq_zero h
  exact ⟨l * underI u v r, by rw [hl, Int.zero_add, Int.mul_assoc]⟩
abbrev nilP (u v : Int) : Prop := u.fmod 3329 = 0 ∧ v.fmod 3329 = 0
theorem under_spec {u v r : Int} (hr : r ^ 128 % 3329 = 3328) : ∃ m : Int, (u * u - r * v * v) * underI u v r = (if nilP u v then 0 else 1) + 3329 * m := by
  by_cases h : (u * u - r * v * v) % 3329 = 0
  · have a := nonsq u v r hr h
    rw [if_pos ⟨by rw [fmod_eq]; exact a.1, by rw [fmod_eq]; exact a.2⟩]
    exact under_nil h
  · rw [if_neg fun q => h ?_]
    · exact under_ne h
    · rw [nilP, fmod_eq, fmod_eq] at q
      obtain ⟨a, ha⟩ := Int.dvd_of_emod_eq_zero q.1
      obtain ⟨b, hb⟩ := Int.dvd_of_emod_eq_zero q.2
      have e : u * u - r * v * v = 3329 * (a * u - r * b * v) := by
        rw [Int.mul_sub, ← Int.mul_assoc, ← ha, ← Int.mul_assoc, Int.mul_comm 3329, Int.mul_assoc r b, Int.mul_comm b, ← hb]
      rw [e]
      exact Int.mul_emod_right _ _
theorem fmod_add (x k : Int) : (x + 3329 * k).fmod 3329 = x.fmod 3329 := by
  rw [fmod_eq, fmod_eq, Int.add_mul_emod_self_left]
theorem fmod_wit (x : Int) : ∃ k : Int, x.fmod 3329 - x = 3329 * k := by
  rw [fmod_eq]
  exact ⟨-(x / 3329), by omega⟩
theorem if_times (p : Prop) [Decidable p] (x : Int) : x * (if p then 0 else 1) = if p then 0 else x := by split <;> simp
theorem fmod_if (p : Prop) [Decidable p] (x : Int) : (if p then 0 else x : Int).fmod 3329 = if p then 0 else x.fmod 3329 := by split <;> simp
theorem id1 (u v r c U : Int) : u * (u * U) + c * v * (-v * U) = (u * u - r * v * v) * U + -((c - r) * (v * v * U)) := by grind
theorem id1' (u v U : Int) : v * (u * U) + u * (-v * U) = 0 := by grind
theorem id2 (x y u v r c U p s : Int) : p * (u * U) + c * s * (-v * U) = x * ((u * u - r * v * v) * U) + ((p - (x * u + c * y * v)) * (u * U) + c * (s - (y * u + x * v)) * (-v * U) - x * (c - r) * v * v * U) := by grind
theorem id2' (x y u v r c U p s : Int) : s * (u * U) + p * (-v * U) = y * ((u * u - r * v * v) * U) + ((s - (y * u + x * v)) * (u * U) + (p - (x * u + c * y * v)) * (-v * U) - y * (c - r) * v * v * U) := by grind
theorem id3 (x y u v r c U p s : Int) : (u * U) * p + c * (-v * U) * s = x * ((u * u - r * v * v) * U) + ((p - (u * x + c * v * y)) * (u * U) + c * (s - (v * x + u * y)) * (-v * U) - x * (c - r) * v * v * U) := by grind
theorem id3' (x y u v r c U p s : Int) : (-v * U) * p + (u * U) * s = y * ((u * u - r * v * v) * U) + ((s - (v * x + u * y)) * (u * U) + (p - (u * x + c * v * y)) * (-v * U) - y * (c - r) * v * v * U) := by grind
theorem wit2 (x e m k0 k1 k u v U c : Int) : x * (e + 3329 * m) + (3329 * k0 * (u * U) + c * (3329 * k1) * (-v * U) - x * (3329 * k) * v * v * U) = x * e + 3329 * (x * m + (k0 * (u * U) + c * k1 * (-v * U) - x * k * v * v * U)) := by grind
theorem wit3 (x e m k0 k1 k u v U : Int) : x * (e + 3329 * m) + (3329 * k0 * (u * U) + 3329 * k1 * (-v * U) - x * (3329 * k) * v * v * U) = x * e + 3329 * (x * m + (k0 * (u * U) + k1 * (-v * U) - x * k * v * v * U)) := by grind
theorem pair1 {u v r c : Int} (hr : r ^ 128 % 3329 = 3328) (hc : (c - r) % 3329 = 0) : pairMul u v (u * underI u v r) (-v * underI u v r) c = if nilP u v then [0, 0] else [1, 0] := by
  obtain ⟨m, hm⟩ := under_spec (u := u) (v := v) hr
  obtain ⟨k, hk⟩ := Int.dvd_of_emod_eq_zero hc
  unfold pairMul
  rw [id1 u v r, id1', hm, hk]
  generalize underI u v r = U
  rw [show ∀ e : Int, e + 3329 * m + -(3329 * k * (v * v * U)) = e + 3329 * (m - k * (v * v * U)) from fun e => by rw [Int.mul_sub, ← Int.mul_assoc 3329 k]; omega]
  rw [fmod_add]
  split <;> rfl
theorem pair2 {x y u v r c : Int} (hr : r ^ 128 % 3329 = 3328) (hc : (c - r) % 3329 = 0) :
    pairMul ((x * u + c * y * v).fmod 3329) ((y * u + x * v).fmod 3329) (u * underI u v r) (-v * underI u v r) c = if nilP u v then [0, 0] else [x.fmod 3329, y.fmod 3329] := by
  obtain ⟨m, hm⟩ := under_spec (u := u) (v := v) hr
  obtain ⟨k, hk⟩ := Int.dvd_of_emod_eq_zero hc
  obtain ⟨k0, h0⟩ := fmod_wit (x * u + c * y * v)
  obtain ⟨k1, h1⟩ := fmod_wit (y * u + x * v)
  unfold pairMul
  rw [id2 x y u v r c _ ((x * u + c * y * v).fmod 3329) ((y * u + x * v).fmod 3329), id2' x y u v r c _ ((x * u + c * y * v).fmod 3329) ((y * u + x * v).fmod 3329), hm, hk, h0, h1, wit2, wit3, fmod_add, fmod_add, if_times, if_times, fmod_if, fmod_if]
  split <;> rfl
theorem pair3 {x y u v r c : Int} (hr : r ^ 128 % 3329 = 3328) (hc : (c - r) % 3329 = 0) :
    pairMul (u * underI u v r) (-v * underI u v r) ((u * x + c * v * y).fmod 3329) ((v * x + u * y).fmod 3329) c = if nilP u v then [0, 0] else [x.fmod 3329, y.fmod 3329] := by
  obtain ⟨m, hm⟩ := under_spec (u := u) (v := v) hr
  obtain ⟨k, hk⟩ := Int.dvd_of_emod_eq_zero hc
  obtain ⟨k0, h0⟩ := fmod_wit (u * x + c * v * y)
  obtain ⟨k1, h1⟩ := fmod_wit (v * x + u * y)
  unfold pairMul
  rw [id3 x y u v r c _ ((u * x + c * v * y).fmod 3329) ((v * x + u * y).fmod 3329), id3' x y u v r c _ ((u * x + c * v * y).fmod 3329) ((v * x + u * y).fmod 3329), hm, hk, h0, h1, wit2, wit3, fmod_add, fmod_add, if_times, if_times, fmod_if, fmod_if]
  split <;> rfl
theorem rangeKs_getD {n k : Nat} (h : k < n) : (rangeKs 0 n).getD k 0 = (k : Int) := by
  unfold rangeKs
  rw [List.getD_eq_getElem?_getD, List.getElem?_map, List.getElem?_range h]
  show (0 : Int) + (k : Int) = k
  omega
theorem flat_getD {S : Int → List Int} {n : Nat} (hn : ∀ x, (S x).length = n) : ∀ (l : List Int) (k t : Nat), k < l.length → t < n → (l.flatMap S).getD (n * k + t) 0 = (S (l.getD k 0)).getD t 0
  | [], _, _, h, _ => absurd h (Nat.not_lt_zero _)
  | x :: l, 0, t, _, ht => by
    rw [List.flatMap_cons, List.getD_eq_getElem?_getD, Nat.mul_zero, Nat.zero_add, List.getElem?_append_left (by rw [hn]; exact ht), ← List.getD_eq_getElem?_getD]
    rfl
  | x :: l, k + 1, t, h, ht => by
    rw [List.flatMap_cons, List.getD_eq_getElem?_getD, List.getElem?_append_right (by rw [hn, Nat.mul_succ]; omega), ← List.getD_eq_getElem?_getD, hn, show n * (k + 1) + t - n = n * k + t by rw [Nat.mul_succ]; omega]
    rw [flat_getD hn l k t (Nat.lt_of_succ_lt_succ h) ht]
    rfl
theorem at_grow {S : Int → List Int} (hn : ∀ x, (S x).length = 2) {k : Nat} {t : Nat} (hk : k < 128) (ht : t < 2) : (growTo S (rangeKs 0 128)).getD (2 * k + t) 0 = (S (k : Int)).getD t 0 := by
  unfold growTo
  rw [flat_getD hn _ _ _ (by rw [rangeKs_length]; exact hk) ht, rangeKs_getD hk]
theorem at_mul {z f g : List Int} {j : Nat} {t : Nat} (hj : j < 64) (ht : t < 4) : (mulTo z f g (rangeKs 0 64)).getD (4 * j + t) 0 = (stepMul z f g (j : Int)).getD t 0 := by
  unfold mulTo
  rw [flat_getD (stepMul_len z f g) _ _ _ (by rw [rangeKs_length]; exact hj) ht, rangeKs_getD hj]
theorem range_two : rangeKs 0 128 = (rangeKs 0 64).flatMap fun j => [2 * j, 2 * j + 1] := by decide +kernel
theorem flat_congr {S T : Int → List Int} : ∀ {l : List Int}, (∀ x ∈ l, S x = T x) → l.flatMap S = l.flatMap T
  | [], _ => rfl
  | x :: l, h => by rw [List.flatMap_cons, List.flatMap_cons, h x (.head _), flat_congr fun y hy => h y (.tail _ hy)]
theorem grow_two (S : Int → List Int) : growTo S (rangeKs 0 128) = (rangeKs 0 64).flatMap fun j => S (2 * j) ++ S (2 * j + 1) := by
  unfold growTo
  rw [range_two, List.flatMap_assoc]
  exact flat_congr fun j _ => by simp
theorem mul_two {z f g : List Int} {S : Int → List Int} (h : ∀ j : Nat, j < 64 → stepMul z f g (j : Int) = S (2 * (j : Int)) ++ S (2 * (j : Int) + 1)) : mulTo z f g (rangeKs 0 64) = growTo S (rangeKs 0 128) := by
  rw [grow_two]
  refine flat_congr fun x hx => ?_
  obtain ⟨a, b⟩ := rangeKs_bound hx
  obtain ⟨j, rfl⟩ := Int.eq_ofNat_of_zero_le a
  exact h j (by omega)
end Mine
namespace Mine
theorem link (j : Nat) (h : j < 64) : (ZET.getD (64 + j) 0 - ROOTS.getD (2 * j) 0) % 3329 = 0 ∧ (-(ZET.getD (64 + j) 0) - ROOTS.getD (2 * j + 1) 0) % 3329 = 0 := by
  have a := List.all_eq_true.mp link_ok j (List.mem_range.mpr h)
  rw [Bool.and_eq_true] at a
  have b := eq_of_beq a.1
  have c := eq_of_beq a.2
  generalize ZET.getD (64 + j) 0 = z at b c ⊢
  generalize ROOTS.getD (2 * j) 0 = r at b c ⊢
  generalize ROOTS.getD (2 * j + 1) 0 = s at b c ⊢
  omega
theorem root (k : Nat) (h : k < 128) : (ROOTS.getD k 0) ^ 128 % 3329 = 3328 := eq_of_beq (List.all_eq_true.mp roots_ok k (List.mem_range.mpr h))
theorem invS_nat (r b : List Int) (k : Nat) : invS r b (k : Int) = [b.getD (2 * k) 0 * underI (b.getD (2 * k) 0) (b.getD (2 * k + 1) 0) (r.getD k 0), -(b.getD (2 * k + 1) 0) * underI (b.getD (2 * k) 0) (b.getD (2 * k + 1) 0) (r.getD k 0)] := by
  unfold invS atI
  rw [show (2 * (k : Int)).toNat = 2 * k by omega, show (2 * (k : Int) + 1).toNat = 2 * k + 1 by omega, Int.toNat_natCast]
theorem unitS_nat (b : List Int) (k : Nat) : unitS b (k : Int) = if nilP (b.getD (2 * k) 0) (b.getD (2 * k + 1) 0) then [0, 0] else [1, 0] := by
  unfold unitS nil2 atI
  simp only [show (2 * (k : Int)).toNat = 2 * k by omega, show (2 * (k : Int) + 1).toNat = 2 * k + 1 by omega]
theorem wantS_nat (a b : List Int) (k : Nat) : wantS a b (k : Int) = if nilP (b.getD (2 * k) 0) (b.getD (2 * k + 1) 0) then [0, 0] else [(a.getD (2 * k) 0).fmod 3329, (a.getD (2 * k + 1) 0).fmod 3329] := by
  unfold wantS nil2 atI
  simp only [show (2 * (k : Int)).toNat = 2 * k by omega, show (2 * (k : Int) + 1).toNat = 2 * k + 1 by omega]
theorem stepMul_nat (z f g : List Int) (j : Nat) : stepMul z f g (j : Int) =
    pairMul (f.getD (2 * (2 * j)) 0) (f.getD (2 * (2 * j) + 1) 0) (g.getD (2 * (2 * j)) 0) (g.getD (2 * (2 * j) + 1) 0) (z.getD (64 + j) 0) ++
    pairMul (f.getD (2 * (2 * j + 1)) 0) (f.getD (2 * (2 * j + 1) + 1) 0) (g.getD (2 * (2 * j + 1)) 0) (g.getD (2 * (2 * j + 1) + 1) 0) (-(z.getD (64 + j) 0)) := by
  unfold stepMul
  rw [show (4 * (j : Int) + 0).toNat = 2 * (2 * j) by omega, show (4 * (j : Int) + 1).toNat = 2 * (2 * j) + 1 by omega, show (4 * (j : Int) + 2).toNat = 2 * (2 * j + 1) by omega, show (4 * (j : Int) + 3).toNat = 2 * (2 * j + 1) + 1 by omega, show (64 + (j : Int)).toNat = 64 + j by omega]
theorem mul_at (z f g : List Int) {j : Nat} (hj : j < 64) :
    (mulTo z f g (rangeKs 0 64)).getD (2 * (2 * j)) 0 = (f.getD (2 * (2 * j)) 0 * g.getD (2 * (2 * j)) 0 + z.getD (64 + j) 0 * f.getD (2 * (2 * j) + 1) 0 * g.getD (2 * (2 * j) + 1) 0).fmod 3329 ∧
    (mulTo z f g (rangeKs 0 64)).getD (2 * (2 * j) + 1) 0 = (f.getD (2 * (2 * j) + 1) 0 * g.getD (2 * (2 * j)) 0 + f.getD (2 * (2 * j)) 0 * g.getD (2 * (2 * j) + 1) 0).fmod 3329 ∧
    (mulTo z f g (rangeKs 0 64)).getD (2 * (2 * j + 1)) 0 = (f.getD (2 * (2 * j + 1)) 0 * g.getD (2 * (2 * j + 1)) 0 + -(z.getD (64 + j) 0) * f.getD (2 * (2 * j + 1) + 1) 0 * g.getD (2 * (2 * j + 1) + 1) 0).fmod 3329 ∧
    (mulTo z f g (rangeKs 0 64)).getD (2 * (2 * j + 1) + 1) 0 = (f.getD (2 * (2 * j + 1) + 1) 0 * g.getD (2 * (2 * j + 1)) 0 + f.getD (2 * (2 * j + 1)) 0 * g.getD (2 * (2 * j + 1) + 1) 0).fmod 3329 := by
  have a0 := at_mul (z := z) (f := f) (g := g) (t := 0) hj (by decide)
  have a1 := at_mul (z := z) (f := f) (g := g) (t := 1) hj (by decide)
  have a2 := at_mul (z := z) (f := f) (g := g) (t := 2) hj (by decide)
  have a3 := at_mul (z := z) (f := f) (g := g) (t := 3) hj (by decide)
  rw [stepMul_nat] at a0 a1 a2 a3
  rw [show 4 * j + 0 = 2 * (2 * j) by omega] at a0
  rw [show 4 * j + 1 = 2 * (2 * j) + 1 by omega] at a1
  rw [show 4 * j + 2 = 2 * (2 * j + 1) by omega] at a2
  rw [show 4 * j + 3 = 2 * (2 * j + 1) + 1 by omega] at a3
  exact ⟨a0, a1, a2, a3⟩
theorem inv_at (r b : List Int) {k : Nat} (hk : k < 128) :
    (growTo (invS r b) (rangeKs 0 128)).getD (2 * k) 0 = b.getD (2 * k) 0 * underI (b.getD (2 * k) 0) (b.getD (2 * k + 1) 0) (r.getD k 0) ∧
    (growTo (invS r b) (rangeKs 0 128)).getD (2 * k + 1) 0 = -(b.getD (2 * k + 1) 0) * underI (b.getD (2 * k) 0) (b.getD (2 * k + 1) 0) (r.getD k 0) := by
  have a0 := at_grow (S := invS r b) (fun _ => rfl) (t := 0) hk (by decide)
  have a1 := at_grow (S := invS r b) (fun _ => rfl) (t := 1) hk (by decide)
  rw [invS_nat] at a0 a1
  exact ⟨a0, a1⟩
theorem law1 (b : List Int) : mulTo ZET b (growTo (invS ROOTS b) (rangeKs 0 128)) (rangeKs 0 64) = growTo (unitS b) (rangeKs 0 128) := by
  refine mul_two fun j hj => ?_
  have l := link j hj
  have e := inv_at ROOTS b (k := 2 * j) (by omega)
  have o := inv_at ROOTS b (k := 2 * j + 1) (by omega)
  rw [show 2 * (j : Int) + 1 = ((2 * j + 1 : Nat) : Int) by omega, show 2 * (j : Int) = ((2 * j : Nat) : Int) by omega, unitS_nat, unitS_nat, stepMul_nat, e.1, e.2, o.1, o.2]
  rw [pair1 (root _ (by omega)) l.1, pair1 (root _ (by omega)) l.2]
theorem law2 (a b : List Int) : mulTo ZET (mulTo ZET a b (rangeKs 0 64)) (growTo (invS ROOTS b) (rangeKs 0 128)) (rangeKs 0 64) = growTo (wantS a b) (rangeKs 0 128) := by
  refine mul_two fun j hj => ?_
  have l := link j hj
  have e := inv_at ROOTS b (k := 2 * j) (by omega)
  have o := inv_at ROOTS b (k := 2 * j + 1) (by omega)
  have m := mul_at ZET a b hj
  rw [show 2 * (j : Int) + 1 = ((2 * j + 1 : Nat) : Int) by omega, show 2 * (j : Int) = ((2 * j : Nat) : Int) by omega, wantS_nat, wantS_nat, stepMul_nat, e.1, e.2, o.1, o.2, m.1, m.2.1, m.2.2.1, m.2.2.2]
  rw [pair2 (root _ (by omega)) l.1, pair2 (root _ (by omega)) l.2]
theorem law3 (a b : List Int) : mulTo ZET (growTo (invS ROOTS b) (rangeKs 0 128)) (mulTo ZET b a (rangeKs 0 64)) (rangeKs 0 64) = growTo (wantS a b) (rangeKs 0 128) := by
  refine mul_two fun j hj => ?_
  have l := link j hj
  have e := inv_at ROOTS b (k := 2 * j) (by omega)
  have o := inv_at ROOTS b (k := 2 * j + 1) (by omega)
  have m := mul_at ZET b a hj
  rw [show 2 * (j : Int) + 1 = ((2 * j + 1 : Nat) : Int) by omega, show 2 * (j : Int) = ((2 * j : Nat) : Int) by omega, wantS_nat, wantS_nat, stepMul_nat, e.1, e.2, o.1, o.2, m.1, m.2.1, m.2.2.1, m.2.2.2]
  rw [pair3 (root _ (by omega)) l.1, pair3 (root _ (by omega)) l.2]
theorem main_law {al bl w u i : List Int} (h : MainP ROOTS al bl (rangeKs 0 128) w u i) :
    Hide (mulTo ZET bl i (rangeKs 0 64) = u) ∧ Hide (mulTo ZET (mulTo ZET al bl (rangeKs 0 64)) i (rangeKs 0 64) = w) ∧ Hide (mulTo ZET i (mulTo ZET bl al (rangeKs 0 64)) (rangeKs 0 64) = w) := by
  obtain ⟨⟨rfl, -⟩, ⟨rfl, -⟩, ⟨rfl, -⟩⟩ := h
  exact ⟨⟨law1 bl⟩, ⟨law2 al bl⟩, ⟨law3 al bl⟩⟩
theorem ite_nd {X Y : List Int} [d : Decidable (X = Y)] (e : Hide (X = Y)) {a b : Prop} (h : b) : if (!decide (X = Y)) = true then a else b := by
  rw [decide_eq_true e.out]
  exact h
end Mine
end
namespace Mine
def HX.tw1005739257345663962 : Unit := ()
def HX.tw10116299807953677147 : Unit := ()
def HX.tw10167991107088212922 : Unit := ()
def HX.tw10206718992814418814 : Unit := ()
def HX.tw10266734271901348218 : Unit := ()
def HX.tw10303628372564017166 : Unit := ()
def HX.tw10352357595911019491 : Unit := ()
def HX.tw10400748598229281204 : Unit := ()
def HX.tw10402790686708758925 : Unit := ()
def HX.tw10407234314660129795 : Unit := ()
def HX.tw10505391750374022234 : Unit := ()
def HX.tw10547456234635440245 : Unit := ()
def HX.tw10568856179517436369 : Unit := ()
def HX.tw1058698987492407941 : Unit := ()
def HX.tw10644540839950065061 : Unit := ()
def HX.tw1069046399135685561 : Unit := ()
def HX.tw10770792462379620061 : Unit := ()
def HX.tw1078959357234826833 : Unit := ()
def HX.tw10791707137132476764 : Unit := ()
def HX.tw10815071682701091102 : Unit := ()
def HX.tw10840238301746195917 : Unit := ()
def HX.tw10860771951826754870 : Unit := ()
def HX.tw10862343590691108025 : Unit := ()
def HX.tw10896322882042035407 : Unit := ()
def HX.tw10993730557150885184 : Unit := ()
def HX.tw11146022829235334633 : Unit := ()
def HX.tw11153467836775643059 : Unit := ()
def HX.tw11154524310426993969 : Unit := ()
def HX.tw11209799075759876457 : Unit := ()
def HX.tw11211591761864509241 : Unit := ()
def HX.tw11294402626963831020 : Unit := ()
def HX.tw11299385591540408373 : Unit := ()
def HX.tw11314333828649062549 : Unit := ()
def HX.tw11318185235026315947 : Unit := ()
def HX.tw11327603223192430342 : Unit := ()
def HX.tw1135564148158460543 : Unit := ()
def HX.tw11369647990994751170 : Unit := ()
def HX.tw11406452123839295269 : Unit := ()
def HX.tw11419956490273102217 : Unit := ()
def HX.tw11470257746079602850 : Unit := ()
def HX.tw11475781058875352675 : Unit := ()
def HX.tw1150226226191634892 : Unit := ()
def HX.tw11522388641161945266 : Unit := ()
def HX.tw1162759730437353940 : Unit := ()
def HX.tw11629074927225708723 : Unit := ()
def HX.tw11652700398552316032 : Unit := ()
def HX.tw11763767264658239979 : Unit := ()
def HX.tw11791985802322521827 : Unit := ()
def HX.tw11807352264668690584 : Unit := ()
def HX.tw11809864068293280045 : Unit := ()
def HX.tw11872277872059618836 : Unit := ()
def HX.tw11918802459620973903 : Unit := ()
def HX.tw11924023365421950912 : Unit := ()
def HX.tw1194347628302726175 : Unit := ()
def HX.tw12020501320452152026 : Unit := ()
def HX.tw12042564789364020729 : Unit := ()
def HX.tw12056087708466729703 : Unit := ()
def HX.tw120633948543461722 : Unit := ()
def HX.tw12073650521637930702 : Unit := ()
def HX.tw12074684630107489216 : Unit := ()
def HX.tw1210174340480559039 : Unit := ()
def HX.tw12103463094006769978 : Unit := ()
def HX.tw12105364583260294553 : Unit := ()
def HX.tw12159277146537694075 : Unit := ()
def HX.tw12169091313461629452 : Unit := ()
def HX.tw12256370049662728504 : Unit := ()
def HX.tw12269230003007334729 : Unit := ()
def HX.tw12300451649074474747 : Unit := ()
def HX.tw12307114950149921381 : Unit := ()
def HX.tw12337108934387459750 : Unit := ()
def HX.tw12372792085728335836 : Unit := ()
def HX.tw12395316190355644425 : Unit := ()
def HX.tw12421160098893856000 : Unit := ()
def HX.tw12497561894322038817 : Unit := ()
def HX.tw12539557411187398351 : Unit := ()
def HX.tw12567474094415692310 : Unit := ()
def HX.tw12579950754048836067 : Unit := ()
def HX.tw12596173875062811958 : Unit := ()
def HX.tw12603990673128414989 : Unit := ()
def HX.tw1262813199175813531 : Unit := ()
def HX.tw12629909121235310283 : Unit := ()
def HX.tw12651088222993425160 : Unit := ()
def HX.tw12655215946524994690 : Unit := ()
def HX.tw12690847185604177134 : Unit := ()
def HX.tw12736116108060703215 : Unit := ()
def HX.tw12737283873007135934 : Unit := ()
def HX.tw12784044099440200396 : Unit := ()
def HX.tw12807654835692904153 : Unit := ()
def HX.tw12867510851663127382 : Unit := ()
def HX.tw12938049647424638781 : Unit := ()
def HX.tw13082194661200692764 : Unit := ()
def HX.tw1309775165612323442 : Unit := ()
def HX.tw13109919434188058477 : Unit := ()
def HX.tw13114178247407170622 : Unit := ()
def HX.tw13118456093389167904 : Unit := ()
def HX.tw13124309086626498392 : Unit := ()
def HX.tw1314757502405136308 : Unit := ()
def HX.tw13175417812114956178 : Unit := ()
def HX.tw13177087733452812468 : Unit := ()
def HX.tw13185872655840121080 : Unit := ()
def HX.tw13234639223223319486 : Unit := ()
def HX.tw13236562406876493789 : Unit := ()
def HX.tw13270859943756054188 : Unit := ()
def HX.tw13285395021859453703 : Unit := ()
def HX.tw13313648152176603650 : Unit := ()
def HX.tw13346130400331126438 : Unit := ()
def HX.tw13356493576144542034 : Unit := ()
def HX.tw1342525508401125165 : Unit := ()
def HX.tw13443709641245640722 : Unit := ()
def HX.tw134706699657354788 : Unit := ()
def HX.tw13471337998052814293 : Unit := ()
def HX.tw13498711084616601067 : Unit := ()
def HX.tw13559589350389740042 : Unit := ()
def HX.tw13600908628049021401 : Unit := ()
def HX.tw13611203832645167945 : Unit := ()
def HX.tw1363877672746435590 : Unit := ()
def HX.tw1375620725389473965 : Unit := ()
def HX.tw13757944438747733266 : Unit := ()
def HX.tw13771373634835324289 : Unit := ()
def HX.tw13828053065502632052 : Unit := ()
def HX.tw13847655002884406998 : Unit := ()
def HX.tw13950487325002669435 : Unit := ()
def HX.tw13989139359655210486 : Unit := ()
def HX.tw14000195572020662936 : Unit := ()
def HX.tw14041395650977388618 : Unit := ()
def HX.tw14074317129393060675 : Unit := ()
def HX.tw14089742075023532256 : Unit := ()
def HX.tw14152248175266835161 : Unit := ()
def HX.tw14225539115197059278 : Unit := ()
def HX.tw14237695682636865320 : Unit := ()
def HX.tw14303584500827230500 : Unit := ()
def HX.tw14321381778892099594 : Unit := ()
def HX.tw14348098645499801467 : Unit := ()
def HX.tw14353460394489874197 : Unit := ()
def HX.tw14355502184978684409 : Unit := ()
def HX.tw14363352039251382243 : Unit := ()
def HX.tw14379709753820268393 : Unit := ()
def HX.tw14392084388849886757 : Unit := ()
def HX.tw14413649551993556514 : Unit := ()
def HX.tw14465423464986450927 : Unit := ()
def HX.tw14492493340135869367 : Unit := ()
def HX.tw14496066143429651525 : Unit := ()
def HX.tw14527778394122380411 : Unit := ()
def HX.tw14528357192500920599 : Unit := ()
def HX.tw14548589519425096954 : Unit := ()
def HX.tw14553200541569146869 : Unit := ()
def HX.tw14572183055511787244 : Unit := ()
def HX.tw1461876527178006116 : Unit := ()
def HX.tw14726870857599532500 : Unit := ()
def HX.tw14841669401315160749 : Unit := ()
def HX.tw14861520133329947431 : Unit := ()
def HX.tw14883686555757876410 : Unit := ()
def HX.tw14947364453209446715 : Unit := ()
def HX.tw14953150638472353027 : Unit := ()
def HX.tw14993078689184963292 : Unit := ()
def HX.tw15065194501881144760 : Unit := ()
def HX.tw15103100858130882843 : Unit := ()
def HX.tw15118407470090566496 : Unit := ()
def HX.tw15187032746615294840 : Unit := ()
def HX.tw15207309026115409776 : Unit := ()
def HX.tw15269024570605746950 : Unit := ()
def HX.tw15269894347313355850 : Unit := ()
def HX.tw15300379946209849149 : Unit := ()
def HX.tw15352637746144314409 : Unit := ()
def HX.tw15353167606833816949 : Unit := ()
def HX.tw15376965923077976831 : Unit := ()
def HX.tw15389386022862030531 : Unit := ()
def HX.tw15400310358184665817 : Unit := ()
def HX.tw15438251431677043141 : Unit := ()
def HX.tw15466303081874271426 : Unit := ()
def HX.tw15498329410410170115 : Unit := ()
def HX.tw15556210393230229134 : Unit := ()
def HX.tw15583674111709327303 : Unit := ()
def HX.tw1562596321998126918 : Unit := ()
def HX.tw1564180994808720156 : Unit := ()
def HX.tw15676733429264555580 : Unit := ()
def HX.tw1571501978681165650 : Unit := ()
def HX.tw15749114846287268201 : Unit := ()
def HX.tw15763054972280285671 : Unit := ()
def HX.tw15768022107548768829 : Unit := ()
def HX.tw15792159357730038139 : Unit := ()
def HX.tw15876161153315840272 : Unit := ()
def HX.tw15887845858641796622 : Unit := ()
def HX.tw15944325276653006818 : Unit := ()
def HX.tw15986189262705924130 : Unit := ()
def HX.tw15988297843734852417 : Unit := ()
def HX.tw16020393878055239252 : Unit := ()
def HX.tw16039806720897260404 : Unit := ()
def HX.tw16040338555465630985 : Unit := ()
def HX.tw16082256625140627217 : Unit := ()
def HX.tw16133874470802223092 : Unit := ()
def HX.tw16179649790802755703 : Unit := ()
def HX.tw16212532234113121762 : Unit := ()
def HX.tw16215450851408232778 : Unit := ()
def HX.tw16215935699343973930 : Unit := ()
def HX.tw16248483017811826828 : Unit := ()
def HX.tw16293927288887234141 : Unit := ()
def HX.tw16468025045579030574 : Unit := ()
def HX.tw16576948408054338693 : Unit := ()
def HX.tw16587436712020443606 : Unit := ()
def HX.tw16662703219695449181 : Unit := ()
def HX.tw16774379666043247424 : Unit := ()
def HX.tw16780619106686233044 : Unit := ()
def HX.tw16802046688756559825 : Unit := ()
def HX.tw1680904550749974059 : Unit := ()
def HX.tw16844146521531895067 : Unit := ()
def HX.tw16897262633323632258 : Unit := ()
def HX.tw16913664933145063594 : Unit := ()
def HX.tw1695547133501861584 : Unit := ()
def HX.tw16984785943345018652 : Unit := ()
def HX.tw170574576167500779 : Unit := ()
def HX.tw17091652499829673886 : Unit := ()
def HX.tw17130613061875671323 : Unit := ()
def HX.tw17156183789598701289 : Unit := ()
def HX.tw17160940130171712235 : Unit := ()
def HX.tw17184391616707897695 : Unit := ()
def HX.tw17189622903959021706 : Unit := ()
def HX.tw17230603830941947316 : Unit := ()
def HX.tw17265070805377457266 : Unit := ()
def HX.tw17281788192907960459 : Unit := ()
def HX.tw17352143519946237455 : Unit := ()
def HX.tw17367568303737121873 : Unit := ()
def HX.tw17381968073084115109 : Unit := ()
def HX.tw17402071419231935961 : Unit := ()
def HX.tw17525540423922884716 : Unit := ()
def HX.tw1755495160777005742 : Unit := ()
def HX.tw17575438162563083209 : Unit := ()
def HX.tw17586170298568700991 : Unit := ()
def HX.tw17586176576171127463 : Unit := ()
def HX.tw17610445915280124567 : Unit := ()
def HX.tw17618347355210669252 : Unit := ()
def HX.tw17650834325797086983 : Unit := ()
def HX.tw17676556545605477922 : Unit := ()
def HX.tw17717443872474800330 : Unit := ()
def HX.tw17742456455850460337 : Unit := ()
def HX.tw17752875308688269010 : Unit := ()
def HX.tw17776373614151489317 : Unit := ()
def HX.tw17776447603858048438 : Unit := ()
def HX.tw17780561100027084758 : Unit := ()
def HX.tw17787228941824372518 : Unit := ()
def HX.tw17848522882381922273 : Unit := ()
def HX.tw17924203022594819477 : Unit := ()
def HX.tw17967688497666451253 : Unit := ()
def HX.tw17979814854948778805 : Unit := ()
def HX.tw18006930275970257599 : Unit := ()
def HX.tw18025296481111936409 : Unit := ()
def HX.tw18044362672853968709 : Unit := ()
def HX.tw18064878607545294361 : Unit := ()
def HX.tw18070310271048802683 : Unit := ()
def HX.tw18072865274488423011 : Unit := ()
def HX.tw18081553851133216354 : Unit := ()
def HX.tw1808303667240042763 : Unit := ()
def HX.tw18135252711591459324 : Unit := ()
def HX.tw18137537014106568597 : Unit := ()
def HX.tw18167500200110309854 : Unit := ()
def HX.tw18182954343710501276 : Unit := ()
def HX.tw18210708123677181136 : Unit := ()
def HX.tw18278208058375771196 : Unit := ()
def HX.tw18443624647448342207 : Unit := ()
def HX.tw18584263514533041 : Unit := ()
def HX.tw185842907908156384 : Unit := ()
def HX.tw1864803454859178443 : Unit := ()
def HX.tw1867894045267301728 : Unit := ()
def HX.tw1884050102232483711 : Unit := ()
def HX.tw1898690754351675286 : Unit := ()
def HX.tw1936699395645039994 : Unit := ()
def HX.tw205698185925225089 : Unit := ()
def HX.tw2151321429538280259 : Unit := ()
def HX.tw215849129673069615 : Unit := ()
def HX.tw2176004464030294399 : Unit := ()
def HX.tw2195881455861758345 : Unit := ()
def HX.tw2222743225837948515 : Unit := ()
def HX.tw2233906131384677161 : Unit := ()
def HX.tw2245295917494513357 : Unit := ()
def HX.tw2262659125586692771 : Unit := ()
def HX.tw2273929253405728243 : Unit := ()
def HX.tw2279263398789994468 : Unit := ()
def HX.tw2350424926186804239 : Unit := ()
def HX.tw2382391618734669682 : Unit := ()
def HX.tw2392825037741714109 : Unit := ()
def HX.tw2452912653124782389 : Unit := ()
def HX.tw2461829616855386554 : Unit := ()
def HX.tw2476035441270807662 : Unit := ()
def HX.tw2507392280061683653 : Unit := ()
def HX.tw2549281598711266994 : Unit := ()
def HX.tw2552922988754346625 : Unit := ()
def HX.tw2555752295557618824 : Unit := ()
def HX.tw2561964113527964720 : Unit := ()
def HX.tw2620550638691800998 : Unit := ()
def HX.tw2624888650211897321 : Unit := ()
def HX.tw2750765839756038119 : Unit := ()
def HX.tw2859710389607656911 : Unit := ()
def HX.tw2925158000595137192 : Unit := ()
def HX.tw2978053319006037104 : Unit := ()
def HX.tw2989284962469518986 : Unit := ()
def HX.tw3023299560403481775 : Unit := ()
def HX.tw303071359154492641 : Unit := ()
def HX.tw3067247004188820428 : Unit := ()
def HX.tw3093098350826413917 : Unit := ()
def HX.tw3232245925849870763 : Unit := ()
def HX.tw3234350980146395283 : Unit := ()
def HX.tw3289999966436361507 : Unit := ()
def HX.tw3310937692786854784 : Unit := ()
def HX.tw331849359040870303 : Unit := ()
def HX.tw3328330866397052628 : Unit := ()
def HX.tw3343575013274504881 : Unit := ()
def HX.tw3384695319860562536 : Unit := ()
def HX.tw3397255294685496640 : Unit := ()
def HX.tw3406735672006465488 : Unit := ()
def HX.tw3437700538299416345 : Unit := ()
def HX.tw3557032414621317568 : Unit := ()
def HX.tw3567958808130874820 : Unit := ()
def HX.tw3585679987304106218 : Unit := ()
def HX.tw3600178076106968305 : Unit := ()
def HX.tw3607352456146710617 : Unit := ()
def HX.tw367950272671659514 : Unit := ()
def HX.tw3710485983851315066 : Unit := ()
def HX.tw3753580698267470943 : Unit := ()
def HX.tw3769600969020432034 : Unit := ()
def HX.tw3775076066260797082 : Unit := ()
def HX.tw3803604057868355563 : Unit := ()
def HX.tw3814018098137937217 : Unit := ()
def HX.tw3835404834793092136 : Unit := ()
def HX.tw3854032201953543510 : Unit := ()
def HX.tw3905302704107650975 : Unit := ()
def HX.tw392982577579983095 : Unit := ()
def HX.tw3942503808553941835 : Unit := ()
def HX.tw3965191623758420309 : Unit := ()
def HX.tw3992031692224615881 : Unit := ()
def HX.tw4013029628667200691 : Unit := ()
def HX.tw4059477626684214552 : Unit := ()
def HX.tw4102107852069526677 : Unit := ()
def HX.tw4125328727191677180 : Unit := ()
def HX.tw4151362661574889177 : Unit := ()
def HX.tw4158010229415056072 : Unit := ()
def HX.tw4169974120876508759 : Unit := ()
def HX.tw419432781860820713 : Unit := ()
def HX.tw4230627402571110879 : Unit := ()
def HX.tw4249727623914145764 : Unit := ()
def HX.tw4306968520612419322 : Unit := ()
def HX.tw43236785455843469 : Unit := ()
def HX.tw4377233325094944045 : Unit := ()
def HX.tw4420359438379964717 : Unit := ()
def HX.tw4429453851770096613 : Unit := ()
def HX.tw4504863513785036116 : Unit := ()
def HX.tw4570162437755736010 : Unit := ()
def HX.tw4588443378059954431 : Unit := ()
def HX.tw4610134566329638950 : Unit := ()
def HX.tw4623861944339949972 : Unit := ()
def HX.tw4631675463391374236 : Unit := ()
def HX.tw4632815248568333910 : Unit := ()
def HX.tw4698586462902432844 : Unit := ()
def HX.tw4707721296013287779 : Unit := ()
def HX.tw4719630898622804718 : Unit := ()
def HX.tw4725188419942520036 : Unit := ()
def HX.tw4728133498309587212 : Unit := ()
def HX.tw4762757825327039443 : Unit := ()
def HX.tw4786981665615755785 : Unit := ()
def HX.tw479310944684089285 : Unit := ()
def HX.tw4795439488328117305 : Unit := ()
def HX.tw4855348343640994203 : Unit := ()
def HX.tw4872693106670222920 : Unit := ()
def HX.tw488186455824828491 : Unit := ()
def HX.tw4905308136771252605 : Unit := ()
def HX.tw4978707011662311381 : Unit := ()
def HX.tw5021718437580230773 : Unit := ()
def HX.tw5023167820852893498 : Unit := ()
def HX.tw5102140691979393897 : Unit := ()
def HX.tw5117205992287770597 : Unit := ()
def HX.tw511898078336835204 : Unit := ()
def HX.tw5165762416815387823 : Unit := ()
def HX.tw5183696622065262122 : Unit := ()
def HX.tw5211836050757253408 : Unit := ()
def HX.tw5331241606189826140 : Unit := ()
def HX.tw5342338680720681516 : Unit := ()
def HX.tw5373081732497182247 : Unit := ()
def HX.tw5402836281381768668 : Unit := ()
def HX.tw5413779300837929133 : Unit := ()
def HX.tw5416724213922731819 : Unit := ()
def HX.tw5422288856972424227 : Unit := ()
def HX.tw5489519950646279797 : Unit := ()
def HX.tw5515006904048969945 : Unit := ()
def HX.tw5548522261603520162 : Unit := ()
def HX.tw5562089921357396017 : Unit := ()
def HX.tw5613028525143508040 : Unit := ()
def HX.tw5614936444500820615 : Unit := ()
def HX.tw5651043918245257987 : Unit := ()
def HX.tw5675423295386394052 : Unit := ()
def HX.tw5683822673822298959 : Unit := ()
def HX.tw5715735335461831969 : Unit := ()
def HX.tw5791365069372061117 : Unit := ()
def HX.tw5799089442743710030 : Unit := ()
def HX.tw5807771610593876775 : Unit := ()
def HX.tw5811267809616342269 : Unit := ()
def HX.tw582634279203791427 : Unit := ()
def HX.tw5832046054131478049 : Unit := ()
def HX.tw586267428361545450 : Unit := ()
def HX.tw5874073472008069164 : Unit := ()
def HX.tw5971576419451627183 : Unit := ()
def HX.tw6037707800002442964 : Unit := ()
def HX.tw6057790111613130950 : Unit := ()
def HX.tw6124164056137472481 : Unit := ()
def HX.tw6145977213108495593 : Unit := ()
def HX.tw6229432267796148902 : Unit := ()
def HX.tw6236548322310133527 : Unit := ()
def HX.tw6307507342236859581 : Unit := ()
def HX.tw6314756237830753141 : Unit := ()
def HX.tw634867928032393336 : Unit := ()
def HX.tw63663107720891781 : Unit := ()
def HX.tw6385505639984687292 : Unit := ()
def HX.tw6393167700003626844 : Unit := ()
def HX.tw6399256268392689002 : Unit := ()
def HX.tw6401042445494268749 : Unit := ()
def HX.tw6520364335907743643 : Unit := ()
def HX.tw6556517706248427550 : Unit := ()
def HX.tw6567885749494925028 : Unit := ()
def HX.tw6576926272253635116 : Unit := ()
def HX.tw6579184900898042617 : Unit := ()
def HX.tw6587367094754259158 : Unit := ()
def HX.tw6588570559985287613 : Unit := ()
def HX.tw6611817039424113283 : Unit := ()
def HX.tw6622598708835561258 : Unit := ()
def HX.tw6800629032865493111 : Unit := ()
def HX.tw6812862021910940776 : Unit := ()
def HX.tw6840925629475669687 : Unit := ()
def HX.tw6871973206601743952 : Unit := ()
def HX.tw6879251806593402071 : Unit := ()
def HX.tw6892930215977774288 : Unit := ()
def HX.tw6946605586032248754 : Unit := ()
def HX.tw6987189044013412541 : Unit := ()
def HX.tw7006271195955974261 : Unit := ()
def HX.tw701937455019284818 : Unit := ()
def HX.tw7020951593554909234 : Unit := ()
def HX.tw7095513749406490839 : Unit := ()
def HX.tw7117159956903319478 : Unit := ()
def HX.tw7130355321944127786 : Unit := ()
def HX.tw7152265815649284010 : Unit := ()
def HX.tw7236179373234994110 : Unit := ()
def HX.tw725582717230388895 : Unit := ()
def HX.tw7308385995344625982 : Unit := ()
def HX.tw7331324884126019978 : Unit := ()
def HX.tw7331428544236872532 : Unit := ()
def HX.tw7380847206804797869 : Unit := ()
def HX.tw7390092399603007021 : Unit := ()
def HX.tw7444754737181980048 : Unit := ()
def HX.tw7448982925015142661 : Unit := ()
def HX.tw7451610074654891585 : Unit := ()
def HX.tw7467021936476271447 : Unit := ()
def HX.tw7468801421277178164 : Unit := ()
def HX.tw7476120583780301878 : Unit := ()
def HX.tw752710859977982836 : Unit := ()
def HX.tw7610737918818833099 : Unit := ()
def HX.tw761230429039927621 : Unit := ()
def HX.tw7614858432161556873 : Unit := ()
def HX.tw7825088402126946331 : Unit := ()
def HX.tw7894569672308515287 : Unit := ()
def HX.tw7909170253678830938 : Unit := ()
def HX.tw7954230872072011495 : Unit := ()
def HX.tw7978316359095009057 : Unit := ()
def HX.tw8024160885799963390 : Unit := ()
def HX.tw8024562838859183133 : Unit := ()
def HX.tw8028154487314109652 : Unit := ()
def HX.tw808202690490123367 : Unit := ()
def HX.tw8123409268390508166 : Unit := ()
def HX.tw8160634477820659017 : Unit := ()
def HX.tw817722033912481489 : Unit := ()
def HX.tw8234719960011217141 : Unit := ()
def HX.tw8269462131063609635 : Unit := ()
def HX.tw8300339225058122469 : Unit := ()
def HX.tw8308717280685547064 : Unit := ()
def HX.tw8315835551929962717 : Unit := ()
def HX.tw8330334217289803381 : Unit := ()
def HX.tw8351594762282596096 : Unit := ()
def HX.tw8419954314244627844 : Unit := ()
def HX.tw847796093962955596 : Unit := ()
def HX.tw8478288673371312899 : Unit := ()
def HX.tw8561805145727741423 : Unit := ()
def HX.tw8599076395944970359 : Unit := ()
def HX.tw8653417931188012951 : Unit := ()
def HX.tw8678714354719995816 : Unit := ()
def HX.tw8746474682669172280 : Unit := ()
def HX.tw8747578246323561231 : Unit := ()
def HX.tw876326740738182665 : Unit := ()
def HX.tw8826567847382276891 : Unit := ()
def HX.tw8836738826281041353 : Unit := ()
def HX.tw8846984266139780907 : Unit := ()
def HX.tw8866483952932350291 : Unit := ()
def HX.tw8873446267238834030 : Unit := ()
def HX.tw8901432643441696950 : Unit := ()
def HX.tw892903529291504892 : Unit := ()
def HX.tw8936665116653579084 : Unit := ()
def HX.tw9005242901762271999 : Unit := ()
def HX.tw9025516297627977844 : Unit := ()
def HX.tw9111693449698224490 : Unit := ()
def HX.tw9136632427700251867 : Unit := ()
def HX.tw9136643715477671835 : Unit := ()
def HX.tw9251819261898845524 : Unit := ()
def HX.tw9261447244308235960 : Unit := ()
def HX.tw9264200061485286559 : Unit := ()
def HX.tw9279110643210447601 : Unit := ()
def HX.tw9324763215628541565 : Unit := ()
def HX.tw9328174212403588316 : Unit := ()
def HX.tw9352255226448969036 : Unit := ()
def HX.tw9372948568556390302 : Unit := ()
def HX.tw9399388343912252476 : Unit := ()
def HX.tw9477546870846175738 : Unit := ()
def HX.tw9509579488837251692 : Unit := ()
def HX.tw9551387454167396524 : Unit := ()
def HX.tw9563259737182443563 : Unit := ()
def HX.tw9585252181391113679 : Unit := ()
def HX.tw9605303555545685805 : Unit := ()
def HX.tw9703551578813736651 : Unit := ()
def HX.tw9743037106570590465 : Unit := ()
def HX.tw9821184814985554813 : Unit := ()
def HX.tw9821513611357759744 : Unit := ()
def HX.tw985135908188894248 : Unit := ()
def HX.tw9890828316359662138 : Unit := ()
def HX.tw9924017657376471601 : Unit := ()
def HX.tw9953427583672609014 : Unit := ()
def HX.tw9981978542963750825 : Unit := ()
set_option Elab.async true in
theorem HX : True := by
  first
  | (have hd := (with_decl_name% Mine.HX.hd ((by (w_on; o_law; k_head; (case hw => w_witness2)); fail "no" : PySem.Challenge.rw_yi0064_01.Holds) :))
     fail "no")
  | trivial
set_option Elab.async true in
open_top HX.hd for PySem.Challenge.rw_yi0064_01
end Mine
open Mine
section
namespace Mine
theorem draw_claim (w : World) (mean : ExcName → Option Value) (mg mb : Str → Option Value) : DrawClaim PySem.Challenge.rw_yi0064_01.row.prog w (HX.hd.heap_39 w.params) HX.hd.view_40 (looseW HX.hd.view_40 [Str.ofString "PolynomialRing", Str.ofString "PolynomialNTT"]) mean mg mb 435 := by
  clear draw_claim
  k_fill
  (k_with "tree" => simp only [drawAt])
  w_on
  w_strict (
  unfold DrawClaim
  intros
  rename_i hret
  (have cbI : CbIn 435 := CbIn.mk)
  refine wpAny_call ?_
  (k_dflt cell_enter)
  k_steps
  all_goals cb_end hret)
end Mine
end
section
local macro_rules | `(tactic| walk_at "call builtin:bin") => `(tactic| (k_here; (with_reducible refine call_brBin (by omega) (by omega) ?_)))
local macro_rules | `(tactic| size_fits) => `(tactic| first | (with_reducible exact brA_sz _) | (with_reducible exact brZ_sz _))
local macro_rules | `(tactic| walk_at "call type:int") => `(tactic| (k_here; (with_reducible refine call_brInt ?_)))
local macro_rules | `(tactic| walk_at "call builtin:pow") => `(tactic| (k_here; first | (with_reducible refine call_powI ?_) | (with_reducible refine call_powP (by first | decide | omega | exact Int.natCast_nonneg _) (by decide) ?_)))
local macro_rules | `(tactic| walk_at "inplaceOp Add ref ref") => `(tactic| (k_here; (with_reducible show wpAny _ _ (inplaceOp Operator.Add (Value.ref _) (Value.ref _)) _ _ _); k_dflt (refine' iadd_K ?F ?N ?b ?ne ?U ?z ?_; (case F => k_asm); (case N => k_asm); (case b => k_mem); (case ne => exact Nat.succ_ne_zero _); (case U => k_upd); (case z => ((try law_lens); simp only [List.length_cons, List.length_nil, List.length_append] at *; omega)); k_whole); intro h' F' N'; (try k_sweep)))
local macro_rules | `(tactic| walk_at "call builtin:pow") => `(tactic| (k_here; first | (with_reducible refine call_powP (by exact brV_nonneg _) (by decide) ?_) | (with_reducible refine call_powP (by exact roots_nonneg (by assumption) (by assumption) (by assumption) (by assumption) (by assumption) (by assumption) (by assumption) (by assumption)) (by decide) ?_)))
local macro_rules | `(tactic| kst_facts1) => `(tactic| first | exact IntsAre.append (by assumption) (.cons _ _ (.cons _ _ .nil)) | exact IntsAre.append (by assumption) (.cons _ _ (.cons _ _ (.cons _ _ (.cons _ _ .nil)))))
local macro_rules | `(tactic| walk_at "pyIter ref") => `(tactic| (
  k_here
  k_dflt (
    k_of "e" => (
      try ((with_reducible rename News _ _ _ _ => nn9); (obtain ⟨vs9, nn9, hI9⟩ := lit3 nn9))
      rename Fr _ _ _ _ => lF'
      rename News _ _ _ _ => lN'
      with_unfolding_all refine' grow1L (y := Str.ofString "wide") [] (fun pre w => w = rsL pre ∧ w.length = 2 * pre.length) (by rfl) ?kl (by assumption) lF' lN' ?ky ?kp ?_ ?_
      case kl => k_mem
      case ky => rfl
      case kp => exact rs_start
      try clear lF' lN'
      all_goals first
        | (intro us9 os9 k9 pre9 post9 n9 t9 u9 h9 tk9 own9 e9 off9 hI9 hP9 F9 N9 mk9; (simp only [List.cons_append, List.nil_append] at N9); (simp only [List.map_cons, List.map_nil] at off9); (have hP9' := hP9.2); (have e9' := congrArg List.length e9); (simp only [List.length_append, List.length_cons] at e9'))
        | (intro us9 os9 k9 u9 h9 tk9 hI9 hP9 F9 N9 mk9; (have hP9' := hP9.2))
      all_goals (try k_fold)))))
local macro_rules | `(tactic| k_all) => `(tactic| exact fun p9 h9 => Nat.ne_of_lt (Nat.lt_of_lt_of_le (kst_ltOf (by with_reducible assumption) p9 h9) (by omega)))
local macro_rules | `(tactic| k_room) => `(tactic| ktr_room)
local macro_rules | `(tactic| walk_at "call ref") => `(tactic| (
  k_here
  k_dflt (
    refine' call_cls ?k1 ?k2 ?k3 ?k4 ?k5 ?k6 ?_
    case k1 => k_asm
    case k2 => k_asm
    case k3 => k_asm
    case k4 => k_is
    case k5 => k_is
    case k6 => k_is
    k_whole
    intro x' d' h' F' N' l1 l2
    try k_lt l1
    try k_lt2 l2
    try k_sweep
    refine' code_defC ?k1 ?k2 ?k3 ?k4 ?k5 ?kA ?kF ?kK ?k6 ?k7 ?k8 ?k9 ?kB ?kD ?_ ?c2 ?c3 ?c4
    case kA => exact rfl
    case kF => exact rfl
    case kK => assumption
    case k1 => k_asm
    case k2 => k_asm
    case k3 => k_asm
    case k4 => k_asm
    case k5 => k_asm
    case k6 => k_is
    case k7 => k_is
    case k8 => ktr_room
    case k9 => exact BindsTo.of_eq rfl
    case kB => exact rfl
    case kD => decide +kernel
    case c2 => exact rfl
    case c3 => exact rfl
    case c4 => exact rfl
    k_whole
    intro g' L' h' tk' cells' FG' F' N' Y' B' X' T' l1
    k_lt l1
    (have hA9 := l1.2.2)
    k_cells Y'
    try simp only [List.cons_append, List.nil_append] at N'
    try dsimp only
    try k_fold)))
local macro_rules | `(tactic| walk_at "getMethod ref") => `(tactic| walk_at "last getMethod ref")
local macro_rules | `(tactic| walk_at "exec Assign cons ListComp") => `(tactic| walk_at "exec Assign")
namespace Mine
theorem ring_claim (w : World) (mean : ExcName → Option Value) (mg mb : Str → Option Value) : RingClaim PySem.Challenge.rw_yi0064_01.row.prog w (HX.hd.heap_39 w.params) HX.hd.view_40 (looseW HX.hd.view_40 [Str.ofString "PolynomialRing", Str.ofString "PolynomialNTT"]) mean mg mb 282 := by
  clear ring_claim
  k_fill
  w_on
  w_strict (
  unfold RingClaim
  intros
  rename_i hret
  k_steps
  all_goals (
    refine' hret _ _ _ _ _ _ _ _ _ _ _ _ _ ?e1 ?e2 ?e3
    case e1 => k_asm
    case e2 => (refine cb_drop (by k_asm) ?_; kcf_all)
    case e3 => assumption))
end Mine
end
section
local macro_rules | `(tactic| walk_at "call builtin:bin") => `(tactic| (k_here; (with_reducible refine call_brBin (by omega) (by omega) ?_)))
local macro_rules | `(tactic| size_fits) => `(tactic| first | (with_reducible exact brA_sz _) | (with_reducible exact brZ_sz _))
local macro_rules | `(tactic| walk_at "call type:int") => `(tactic| (k_here; (with_reducible refine call_brInt ?_)))
local macro_rules | `(tactic| walk_at "call builtin:pow") => `(tactic| (k_here; first | (with_reducible refine call_powI ?_) | (with_reducible refine call_powP (by first | decide | omega | exact Int.natCast_nonneg _) (by decide) ?_)))
local macro_rules | `(tactic| walk_at "inplaceOp Add ref ref") => `(tactic| (k_here; (with_reducible show wpAny _ _ (inplaceOp Operator.Add (Value.ref _) (Value.ref _)) _ _ _); k_dflt (refine' iadd_K ?F ?N ?b ?ne ?U ?z ?_; (case F => k_asm); (case N => k_asm); (case b => k_mem); (case ne => exact Nat.succ_ne_zero _); (case U => k_upd); (case z => ((try law_lens); simp only [List.length_cons, List.length_nil, List.length_append] at *; omega)); k_whole); intro h' F' N'; (try k_sweep)))
local macro_rules | `(tactic| walk_at "call builtin:pow") => `(tactic| (k_here; first | (with_reducible refine call_powP (by exact brV_nonneg _) (by decide) ?_) | (with_reducible refine call_powP (by exact roots_nonneg (by assumption) (by assumption) (by assumption) (by assumption) (by assumption) (by assumption) (by assumption) (by assumption)) (by decide) ?_)))
local macro_rules | `(tactic| kst_facts1) => `(tactic| first | exact IntsAre.append (by assumption) (.cons _ _ (.cons _ _ .nil)) | exact IntsAre.append (by assumption) (.cons _ _ (.cons _ _ (.cons _ _ (.cons _ _ .nil)))))
local macro_rules | `(tactic| walk_at "pyIter ref") => `(tactic| (
  k_here
  k_dflt (
    k_of "e" => (
      try ((with_reducible rename News _ _ _ _ => nn9); (obtain ⟨vs9, nn9, hI9⟩ := lit3 nn9))
      rename Fr _ _ _ _ => lF'
      rename News _ _ _ _ => lN'
      with_unfolding_all refine' grow1L (y := Str.ofString "wide") [] (fun pre w => w = rsL pre ∧ w.length = 2 * pre.length) (by rfl) ?kl (by assumption) lF' lN' ?ky ?kp ?_ ?_
      case kl => k_mem
      case ky => rfl
      case kp => exact rs_start
      try clear lF' lN'
      all_goals first
        | (intro us9 os9 k9 pre9 post9 n9 t9 u9 h9 tk9 own9 e9 off9 hI9 hP9 F9 N9 mk9; (simp only [List.cons_append, List.nil_append] at N9); (simp only [List.map_cons, List.map_nil] at off9); (have hP9' := hP9.2); (have e9' := congrArg List.length e9); (simp only [List.length_append, List.length_cons] at e9'))
        | (intro us9 os9 k9 u9 h9 tk9 hI9 hP9 F9 N9 mk9; (have hP9' := hP9.2))
      all_goals (try k_fold)))))
local macro_rules | `(tactic| k_all) => `(tactic| exact fun p9 h9 => Nat.ne_of_lt (Nat.lt_of_lt_of_le (kst_ltOf (by with_reducible assumption) p9 h9) (by omega)))
local macro_rules | `(tactic| k_room) => `(tactic| ktr_room)
local macro_rules | `(tactic| walk_at "exec For Name Name cons nil") => `(tactic| (k_here; k_dflt ((rename Fr _ _ _ _ => lF'); (with_unfolding_all refine' For_invVF lF' ?k1 ?k2 ?_); (case k1 => exact rfl); (case k2 => exact rfl); k_whole)))
local macro_rules | `(tactic| walk_at "UnrEnd") => `(tactic| (
  k_here
  k_dflt (
    refine' unr_keep ?kF ?kN ?kA ?ks ?k1 ?kc ?_
    case kF => k_asm
    case kN => k_asm
    case kA => with_reducible assumption
    case ks => kcf_all
    case k1 => k_ne
    case kc => omega
    k_whole)))
local macro_rules | `(tactic| walk_at "call ref") => `(tactic| (
  k_here
  k_dflt (
    refine wpAny_call ?_
    cell_enter)))
local macro_rules | `(tactic| walk_at "InvEndN cons") => `(tactic| k_dflt kst_close)
namespace Mine
theorem roots_claim (w : World) (mean : ExcName → Option Value) (mg mb : Str → Option Value) : RootsClaim PySem.Challenge.rw_yi0064_01.row.prog w (HX.hd.heap_39 w.params) HX.hd.view_40 (looseW HX.hd.view_40 [Str.ofString "PolynomialRing", Str.ofString "PolynomialNTT"]) mean mg mb 440 := by
  clear roots_claim
  k_fill
  (k_with "state" => first | exact rs_turn (by assumption))
  w_on
  w_strict (
  unfold RootsClaim
  intros
  rename_i hret
  k_steps
  all_goals (
    refine' hret _ _ _ _ _ ?e1 ?e2 ?e3
    case e1 => k_asm
    case e2 => (refine cb_drop (by k_asm) ?_; kcf_all)
    case e3 => exact roots_end (by with_reducible assumption) (by with_reducible assumption) (by with_reducible assumption) (by with_reducible assumption) (by with_reducible assumption) (by with_reducible assumption) (by with_reducible assumption) (by with_reducible assumption)))
end Mine
end
section
local macro_rules | `(tactic| walk_at "call builtin:bin") => `(tactic| (k_here; (with_reducible refine call_brBin (by omega) (by omega) ?_)))
local macro_rules | `(tactic| size_fits) => `(tactic| first | (with_reducible exact brA_sz _) | (with_reducible exact brZ_sz _))
local macro_rules | `(tactic| walk_at "call type:int") => `(tactic| (k_here; (with_reducible refine call_brInt ?_)))
local macro_rules | `(tactic| walk_at "call builtin:pow") => `(tactic| (k_here; first | (with_reducible refine call_powI ?_) | (with_reducible refine call_powP (by first | decide | omega | exact Int.natCast_nonneg _) (by decide) ?_)))
local macro_rules | `(tactic| walk_at "inplaceOp Add ref ref") => `(tactic| (k_here; (with_reducible show wpAny _ _ (inplaceOp Operator.Add (Value.ref _) (Value.ref _)) _ _ _); k_dflt (refine' iadd_K ?F ?N ?b ?ne ?U ?z ?_; (case F => k_asm); (case N => k_asm); (case b => k_mem); (case ne => exact Nat.succ_ne_zero _); (case U => k_upd); (case z => ((try law_lens); simp only [List.length_cons, List.length_nil, List.length_append] at *; omega)); k_whole); intro h' F' N'; (try k_sweep)))
local macro_rules | `(tactic| walk_at "call builtin:pow") => `(tactic| (k_here; first | (with_reducible refine call_powP (by exact brV_nonneg _) (by decide) ?_) | (with_reducible refine call_powP (by exact roots_nonneg (by assumption) (by assumption) (by assumption) (by assumption) (by assumption) (by assumption) (by assumption) (by assumption)) (by decide) ?_)))
local macro_rules | `(tactic| kst_facts1) => `(tactic| first | exact IntsAre.append (by assumption) (.cons _ _ (.cons _ _ .nil)) | exact IntsAre.append (by assumption) (.cons _ _ (.cons _ _ (.cons _ _ (.cons _ _ .nil)))))
local macro_rules | `(tactic| k_all) => `(tactic| exact fun p9 h9 => Nat.ne_of_lt (Nat.lt_of_lt_of_le (kst_ltOf (by with_reducible assumption) p9 h9) (by omega)))
local macro_rules | `(tactic| k_room) => `(tactic| ktr_room)
local macro_rules | `(tactic| walk_at "call ref") => `(tactic| (
  k_here
  k_dflt (
    refine wpAny_call ?_
    cell_enter)))
local macro_rules | `(tactic| walk_at "subscriptTail Name BinOp ref int") => `(tactic| (
  k_here
  k_dflt (
    with_reducible show wpAny _ _ (subscriptTail _ _ (Value.ref _) (Value.int _ _)) _ _ _
    refine' item_led ?N ?m ?i ?a ?b ?c ?_
    case N => k_asm
    case m => k_mem
    case i => with_reducible assumption
    case a => omega
    case b => omega
    case c => omega
    intro t9)))
local macro_rules | `(tactic| walk_at "subscriptTail Name Name ref int") => `(tactic| (
  k_here
  k_dflt (
    with_reducible show wpAny _ _ (subscriptTail _ _ (Value.ref _) (Value.int _ _)) _ _ _
    refine' item_led ?N ?m ?i ?a ?b ?c ?_
    case N => k_asm
    case m => k_mem
    case i => with_reducible assumption
    case a => omega
    case b => omega
    case c => omega
    intro t9)))
local macro_rules | `(tactic| mul_fits) => `(tactic| first
  | (with_reducible exact mulOk_ff (by assumption) (by assumption))
  | (with_reducible exact mulOk_z (by assumption))
  | (with_reducible exact mulOk_zn (by assumption))
  | (with_reducible exact mulOk_zf (by assumption) (by assumption) (by assumption))
  | (with_reducible exact mulOk_znf (by assumption) (by assumption) (by assumption)))
local macro_rules | `(tactic| walk_at "getMethod ref") => `(tactic| walk_at "last getMethod ref")
local macro_rules | `(tactic| walk_at "InvEndN cons") => `(tactic| k_dflt kst_close)
local macro_rules | `(tactic| walk_at "pad") => `(tactic| fail)
namespace Mine
theorem mul_claim (w : World) (mean : ExcName → Option Value) (mg mb : Str → Option Value) : MulClaim PySem.Challenge.rw_yi0064_01.row.prog w (HX.hd.heap_39 w.params) HX.hd.view_40 (looseW HX.hd.view_40 [Str.ofString "PolynomialRing", Str.ofString "PolynomialNTT"]) mean mg mb 282 426 397 := by
  clear mul_claim
  k_fill
  unfold MulClaim
  intro self dx ring rdx D lc l1 l2 zs fs gs vz vf vg kz kf kg t1 t2 t3 t4 u1 u2 u4 q1 q2 news dp un gd cn cs a ccd cl outer A₀ base h₀ L m s Q E B F X N T hk hz hf hg lz lf lg sz sf sg hdp hun hret
  (k_with "state" => first | exact mul_turn (by assumption))
  (k_with "pyIter ref" => (k_of "i" => (k_dflt (
      (rename Fr _ _ _ _ => lF'); (rename News _ _ _ _ => lN'); (rename IsRange _ _ _ _ _ _ _ _ => rgX);
      (with_unfolding_all refine' grow1R (n := 64) (y := Str.ofString "new_coeffs") [Str.ofString "r0", Str.ofString "r1", Str.ofString "r2", Str.ofString "r3"] (fun pre w => w = mulTo zs fs gs pre ∧ w.length = 4 * pre.length) (by rfl) rgX (by decide) (by rfl) lF' lN' ?ky ?kp ?_ ?_);
      (case ky => rfl); (case kp => exact mul_start _ _ _); (try clear lF' lN');
      (all_goals first
        | (intro us9 os9 k9 pre9 i9 t9 u9 h9 tk9 own9 e9 e9' off9 hI9 hP9 F9 N9 mk9; (simp only [List.cons_append, List.nil_append] at N9); (simp only [List.map_cons, List.map_nil] at off9); (have hP9' := hP9.2))
        | (intro us9 os9 k9 u9 h9 tk9 hI9 hP9 F9 N9 mk9; (have hP9' := hP9.2)));
      (all_goals (try k_fold))))))
  w_on
  w_strict (
  k_steps
  all_goals (
    (have hE9 := mul_end (by with_reducible assumption) (by with_reducible assumption))
    refine' hret _ _ _ _ _ ?e1 ?e2 ?e3 ?e4
    case e1 => k_asm
    case e2 => (refine cb_drop (by k_asm) ?_; kcf_all)
    case e3 => exact hE9.1
    case e4 => exact hE9.2))
end Mine
end
section
local macro_rules | `(tactic| walk_at "call builtin:bin") => `(tactic| (k_here; (with_reducible refine call_brBin (by omega) (by omega) ?_)))
local macro_rules | `(tactic| size_fits) => `(tactic| first | (with_reducible exact brA_sz _) | (with_reducible exact brZ_sz _))
local macro_rules | `(tactic| walk_at "call type:int") => `(tactic| (k_here; (with_reducible refine call_brInt ?_)))
local macro_rules | `(tactic| walk_at "call builtin:pow") => `(tactic| (k_here; first | (with_reducible refine call_powI ?_) | (with_reducible refine call_powP (by first | decide | omega | exact Int.natCast_nonneg _) (by decide) ?_)))
local macro_rules | `(tactic| walk_at "inplaceOp Add ref ref") => `(tactic| (k_here; (with_reducible show wpAny _ _ (inplaceOp Operator.Add (Value.ref _) (Value.ref _)) _ _ _); k_dflt (refine' iadd_K ?F ?N ?b ?ne ?U ?z ?_; (case F => k_asm); (case N => k_asm); (case b => k_mem); (case ne => exact Nat.succ_ne_zero _); (case U => k_upd); (case z => ((try law_lens); simp only [List.length_cons, List.length_nil, List.length_append] at *; omega)); k_whole); intro h' F' N'; (try k_sweep)))
local macro_rules | `(tactic| walk_at "call builtin:pow") => `(tactic| (k_here; first | (with_reducible refine call_powP (by exact brV_nonneg _) (by decide) ?_) | (with_reducible refine call_powP (by exact roots_nonneg (by assumption) (by assumption) (by assumption) (by assumption) (by assumption) (by assumption) (by assumption) (by assumption)) (by decide) ?_)))
local macro_rules | `(tactic| kst_facts1) => `(tactic| first | exact IntsAre.append (by assumption) (.cons _ _ (.cons _ _ .nil)) | exact IntsAre.append (by assumption) (.cons _ _ (.cons _ _ (.cons _ _ (.cons _ _ .nil)))))
local macro_rules | `(tactic| k_all) => `(tactic| exact fun p9 h9 => Nat.ne_of_lt (Nat.lt_of_lt_of_le (kst_ltOf (by with_reducible assumption) p9 h9) (by omega)))
local macro_rules | `(tactic| k_room) => `(tactic| ktr_room)
local macro_rules | `(tactic| walk_at "call ref") => `(tactic| (
  k_here
  k_dflt (
    refine wpAny_call ?_
    cell_enter)))
local macro_rules | `(tactic| walk_at "call ref") => `(tactic| (
  k_here
  k_dflt (
    refine wpAny_call ?_
    refine' kco_code ?k1 ?k2 ?k3 ?k4 ?k5 ?k6 ?_
    case k1 => k_in
    case k2 => k_inst
    case k3 => rfl
    case k4 => k_is
    case k5 => k_is
    case k6 => k_is
    try dsimp only
    refine' code_def ?k1 ?k2 ?k3 ?k4 ?k5 ?kA ?kF ?kK ?k6 ?k7 ?k8 ?k9 ?kB ?_ ?c2 ?c3 ?c4 ?c5
    case kA => exact rfl
    case kF => exact rfl
    case kK => assumption
    case k1 => k_asm
    case k2 => k_asm
    case k3 => k_asm
    case k4 => k_asm
    case k5 => k_asm
    case k6 => k_is
    case k7 => k_is
    case k8 => ktr_room
    case k9 => first | exact BindsTo.of_eq rfl | exact binds_K (by k_in) rfl (by k_is) rfl rfl rfl
    case c5 => decide
    case kB => exact locs rfl
    case c2 => exact rfl
    case c3 => exact rfl
    case c4 => exact rfl
    k_whole
    intro g' L' h' FG' F' N' B' X' T'
    try dsimp only
    try k_fold)))
local macro_rules | `(tactic| walk_at "subscriptTail Name BinOp ref int") => `(tactic| (
  k_here
  k_dflt (
    with_reducible show wpAny _ _ (subscriptTail _ _ (Value.ref _) (Value.int _ _)) _ _ _
    refine' item_led ?N ?m ?i ?a ?b ?c ?_
    case N => k_asm
    case m => k_mem
    case i => with_reducible assumption
    case a => omega
    case b => omega
    case c => omega
    intro t9)))
local macro_rules | `(tactic| walk_at "subscriptTail Name Name ref int") => `(tactic| (
  k_here
  k_dflt (
    with_reducible show wpAny _ _ (subscriptTail _ _ (Value.ref _) (Value.int _ _)) _ _ _
    refine' item_led ?N ?m ?i ?a ?b ?c ?_
    case N => k_asm
    case m => k_mem
    case i => with_reducible assumption
    case a => omega
    case b => omega
    case c => omega
    intro t9)))
local macro_rules | `(tactic| mul_fits) => `(tactic| first
  | (with_reducible exact mulOk_ff (by assumption) (by assumption))
  | (with_reducible exact mulOk_z (by assumption))
  | (with_reducible exact mulOk_zn (by assumption))
  | (with_reducible exact mulOk_zf (by assumption) (by assumption) (by assumption))
  | (with_reducible exact mulOk_znf (by assumption) (by assumption) (by assumption)))
local macro_rules | `(tactic| walk_at "call builtin:len") => `(tactic| (
  k_here
  k_dflt (
    refine' len256 ?N ?m ?e ?_
    case N => k_asm
    case m => k_mem
    case e => with_reducible assumption)))
local macro_rules | `(tactic| walk_at "pad") => `(tactic| fail)
local macro_rules | `(tactic| walk_at "pad") => `(tactic| fail)
namespace Mine
theorem make_claim (w : World) (mean : ExcName → Option Value) (mg mb : Str → Option Value) : MakeClaim PySem.Challenge.rw_yi0064_01.row.prog w (HX.hd.heap_39 w.params) HX.hd.view_40 (looseW HX.hd.view_40 [Str.ofString "PolynomialRing", Str.ofString "PolynomialNTT"]) mean mg mb 282 426 := by
  clear make_claim
  k_fill
  unfold MakeClaim
  intro ring rdx D l fs vf kf t1 t2 t3 t4 u1 u2 u4 news dp un gd cn cs a ccd cl outer A₀ base h₀ L m s Q E B F X N T hk hf lf hdp hun hret
  w_on
  w_strict (
  k_steps
  all_goals (
    refine' hret _ _ _ _ _ _ ?e1 ?e2
    case e1 => k_asm
    case e2 => (refine cb_drop (by k_asm) ?_; kcf_all)))
end Mine
end
section
local macro_rules | `(tactic| k_room) => `(tactic| ktr_room)
local macro_rules | `(tactic| walk_at "call ref") => `(tactic| (
  k_here
  k_dflt (
    with_reducible show wpAny _ _ (call (Value.ref 397) [Value.ref _, Value.ref _, Value.ref _]) _ _ _
    refine' MulClaim.use (mul_claim _ _ _ _) ?k1 ?k2 ?k3 ?k4 ?k5 ?k6 ?m1 ?m2 ?m3 ?m4 ?m5 ?m6 ?m7 ?hz ?hf ?hg ?lz ?lf ?lg ?sz ?sf ?sg ?hd ?hu ?_
    case k1 => k_asm
    case k2 => k_asm
    case k3 => k_asm
    case k4 => k_asm
    case k5 => k_asm
    case k6 => first | exact rfl | assumption
    case m1 => k_mem
    case m2 => k_mem
    case m3 => k_mem
    case m4 => k_mem
    case m5 => k_mem
    case m6 => k_mem
    case m7 => k_mem
    case hz => with_reducible assumption
    case hf => with_reducible assumption
    case hg => with_reducible assumption
    case lz => with_reducible assumption
    case lf => with_reducible assumption
    case lg => with_reducible assumption
    case sz => with_reducible assumption
    case sf => with_reducible assumption
    case sg => with_reducible assumption
    case hd => ktr_room
    case hu => ktr_units
    intro R9 vo9 n9 h9 tk9 F9 N9 hI9 lI9
    try dsimp only
    try k_fold)))
local macro_rules | `(tactic| walk_at "call ref") => `(tactic| (
  k_here
  fail_if_success (with_reducible rename CbIn 404 => cI9)
  k_dflt (
    refine wpAny_call ?_
    cell_enter
    have cI9 : CbIn 404 := CbIn.mk)))
local macro_rules | `(tactic| walk_at "pad") => `(tactic| fail)
local macro_rules | `(tactic| walk_at "pad") => `(tactic| fail)
local macro_rules | `(tactic| walk_at "pad") => `(tactic| fail)
local macro_rules | `(tactic| walk_at "pad") => `(tactic| fail)
local macro_rules | `(tactic| walk_at "pad") => `(tactic| fail)
local macro_rules | `(tactic| walk_at "pad") => `(tactic| fail)
local macro_rules | `(tactic| walk_at "pad") => `(tactic| fail)
local macro_rules | `(tactic| walk_at "pad") => `(tactic| fail)
local macro_rules | `(tactic| walk_at "pad") => `(tactic| fail)
local macro_rules | `(tactic| walk_at "pad") => `(tactic| fail)
local macro_rules | `(tactic| walk_at "pad") => `(tactic| fail)
namespace Mine
theorem ntt_claim (w : World) (mean : ExcName → Option Value) (mg mb : Str → Option Value) : NttClaim PySem.Challenge.rw_yi0064_01.row.prog w (HX.hd.heap_39 w.params) HX.hd.view_40 (looseW HX.hd.view_40 [Str.ofString "PolynomialRing", Str.ofString "PolynomialNTT"]) mean mg mb 282 426 404 := by
  clear ntt_claim
  k_fill
  unfold NttClaim
  intro x dx y dy ring rdx D l1 l2 zs fs gs vz vf vg kz kf kg t1 t2 t3 t4 u1 u2 u4 q1 q2 q3 q4 news dp un gd cn cs a ccd cl outer A₀ base h₀ L m s Q E B F X N T hk hz hf hg lz lf lg sz sf sg hdp hun hret
  unfold twoPolys at N
  w_on
  w_strict (
  k_steps
  all_goals (
    refine' hret _ _ _ _ _ ?e1 ?e2 ?e3 ?e4
    case e1 => k_asm
    case e2 => (refine cb_drop (by k_asm) ?_; kcf_all)
    case e3 => with_reducible assumption
    case e4 => with_reducible assumption))
end Mine
end
section
local macro_rules | `(tactic| k_room) => `(tactic| ktr_room)
local macro_rules | `(tactic| walk_at "call ref") => `(tactic| (
  k_here
  k_dflt (
    with_reducible show wpAny _ _ (call (Value.ref 397) [Value.ref _, Value.ref _, Value.ref _]) _ _ _
    refine' MulClaim.use (mul_claim _ _ _ _) ?k1 ?k2 ?k3 ?k4 ?k5 ?k6 ?m1 ?m2 ?m3 ?m4 ?m5 ?m6 ?m7 ?hz ?hf ?hg ?lz ?lf ?lg ?sz ?sf ?sg ?hd ?hu ?_
    case k1 => k_asm
    case k2 => k_asm
    case k3 => k_asm
    case k4 => k_asm
    case k5 => k_asm
    case k6 => first | exact rfl | assumption
    case m1 => k_mem
    case m2 => k_mem
    case m3 => k_mem
    case m4 => k_mem
    case m5 => k_mem
    case m6 => k_mem
    case m7 => k_mem
    case hz => with_reducible assumption
    case hf => with_reducible assumption
    case hg => with_reducible assumption
    case lz => with_reducible assumption
    case lf => with_reducible assumption
    case lg => with_reducible assumption
    case sz => with_reducible assumption
    case sf => with_reducible assumption
    case sg => with_reducible assumption
    case hd => ktr_room
    case hu => ktr_units
    intro R9 vo9 n9 h9 tk9 F9 N9 hI9 lI9
    try dsimp only
    try k_fold)))
local macro_rules | `(tactic| k_all) => `(tactic| exact fun p9 h9 => Nat.ne_of_lt (Nat.lt_of_lt_of_le (kst_ltOf (by with_reducible assumption) p9 h9) (by omega)))
local macro_rules | `(tactic| walk_at "call ref") => `(tactic| (
  k_here
  k_dflt (
    with_reducible show wpAny _ _ (call (Value.ref 423) [Value.ref _, Value.ref _]) _ _ _
    refine wpAny_call ?_
    refine' code_defC ?k1 ?k2 ?k3 ?k4 ?k5 ?kA ?kF ?kK ?k6 ?k7 ?k8 ?k9 ?kB ?kD ?_ ?c2 ?c3 ?c4
    case kA => exact rfl
    case kF => exact rfl
    case kK => assumption
    case k1 => k_asm
    case k2 => k_asm
    case k3 => k_asm
    case k4 => k_asm
    case k5 => k_asm
    case k6 => k_is
    case k7 => k_is
    case k8 => ktr_room
    case k9 => exact BindsTo.of_eq rfl
    case kB => exact rfl
    case kD => decide +kernel
    case c2 => exact rfl
    case c3 => exact rfl
    case c4 => exact rfl
    k_whole
    intro g' L' h' tk' cells' FG' F' N' Y' B' X' T' l1
    k_lt l1
    (have hA9 := l1.2.2.2.2.2.2.2.2.2)
    k_cells Y'
    try simp only [List.cons_append, List.nil_append] at N'
    try dsimp only
    try k_fold)))
local macro_rules | `(tactic| walk_at "call ref") => `(tactic| (
  k_here
  k_dflt (
    with_reducible show wpAny _ _ (call (Value.ref 404) [Value.ref _, Value.ref _]) _ _ _
    refine' NttClaim.use (ntt_claim _ _ _ _) ?k1 ?k2 ?k3 ?k4 ?k5 ?k6 ?m1 ?m2 ?m3 ?m4 ?m5 ?m6 ?m7 ?m8 ?m9 ?hz ?hf ?hg ?lz ?lf ?lg ?sz ?sf ?sg ?hd ?hu ?_
    case k1 => k_asm
    case k2 => k_asm
    case k3 => k_asm
    case k4 => k_asm
    case k5 => k_asm
    case k6 => first | exact rfl | assumption
    case m1 => k_mem
    case m2 => k_mem
    case m3 => k_mem
    case m4 => k_mem
    case m5 => k_mem
    case m6 => k_mem
    case m7 => k_mem
    case m8 => k_mem
    case m9 => k_mem
    case hz => with_reducible assumption
    case hf => with_reducible assumption
    case hg => with_reducible assumption
    case lz => with_reducible assumption
    case lf => with_reducible assumption
    case lg => with_reducible assumption
    case sz => with_reducible assumption
    case sf => with_reducible assumption
    case sg => with_reducible assumption
    case hd => ktr_room
    case hu => ktr_units
    intro R9 vo9 n9 h9 tk9 F9 N9 hI9 lI9
    try dsimp only
    try k_fold)))
local macro_rules | `(tactic| walk_at "call ref") => `(tactic| (
  k_here
  k_dflt (
    fail_if_success (with_reducible show wpAny _ _ (call (Value.ref _) _ []) _ _ _)
    show wpAny _ _ (call (Value.ref _) [Value.ref _] [(Str.ofString "is_ntt", Value.bool true)]) _ _ _
    refine' MakeClaim.use (make_claim _ _ _ _) ?k1 ?k2 ?k3 ?k4 ?k5 ?k6 ?m1 ?m2 ?m3 ?hf ?lf ?hd ?hu ?_
    case k1 => k_asm
    case k2 => k_asm
    case k3 => k_asm
    case k4 => k_asm
    case k5 => k_asm
    case k6 => first | exact rfl | assumption
    case m1 => k_mem
    case m2 => k_mem
    case m3 => k_mem
    case hf => with_reducible assumption
    case lf => with_reducible assumption
    case hd => ktr_room
    case hu => ktr_units
    intro x9 dx9 q9 q9' h9 tk9 F9 N9
    try dsimp only
    try k_fold)))
local macro_rules | `(tactic| walk_at "callWith ref nil") => `(tactic| (
  k_here
  k_dflt (
    with_reducible show wpAny _ _ (callWith _ (Value.ref _) _ (backTo _ (starEach (_ :: _) _)) (backToKw _ (keywordEach (_ :: _) _))) _ _ _
    refine' own_callWith_KW ?k1 ?k2 ?k3 ?k4 ?k5 ?_
    case k1 => k_in
    case k2 => k_inst
    case k3 => rfl
    case k4 => k_is
    case k5 => exact rfl
    k_whole)))
local macro_rules | `(tactic| walk_at "getMethod ref") => `(tactic| walk_at "last getMethod ref")
local macro_rules | `(tactic| walk_at "pad") => `(tactic| fail)
local macro_rules | `(tactic| walk_at "pad") => `(tactic| fail)
local macro_rules | `(tactic| walk_at "pad") => `(tactic| fail)
local macro_rules | `(tactic| walk_at "pad") => `(tactic| fail)
local macro_rules | `(tactic| walk_at "pad") => `(tactic| fail)
local macro_rules | `(tactic| walk_at "pad") => `(tactic| fail)
local macro_rules | `(tactic| walk_at "pad") => `(tactic| fail)
local macro_rules | `(tactic| walk_at "pad") => `(tactic| fail)
namespace Mine
theorem star_claim (w : World) (mean : ExcName → Option Value) (mg mb : Str → Option Value) : StarClaim PySem.Challenge.rw_yi0064_01.row.prog w (HX.hd.heap_39 w.params) HX.hd.view_40 (looseW HX.hd.view_40 [Str.ofString "PolynomialRing", Str.ofString "PolynomialNTT"]) mean mg mb 282 426 := by
  clear star_claim
  k_fill
  unfold StarClaim
  intro x dx y dy ring rdx D l1 l2 zs fs gs vz vf vg kz kf kg t1 t2 t3 t4 u1 u2 u4 q1 q2 q3 q4 news dp un gd cn cs a ccd cl outer A₀ base h₀ L m s Q E B F X N T hk hz hf hg lz lf lg sz sf sg hdp hun hret
  unfold twoPolys at N
  w_on
  w_strict (
  k_steps
  all_goals (
    refine' hret _ _ _ _ _ _ _ _ _ ?e1 ?e2 ?e3 ?e4
    case e1 => k_asm
    case e2 => (refine cb_drop (by k_asm) ?_; kcf_all)
    case e3 => with_reducible assumption
    case e4 => with_reducible assumption))
end Mine
end
section
local macro_rules | `(tactic| walk_at "call builtin:min") => `(tactic| (k_here; k_dflt (refine' call_cut ?kh ?kF ?kN ?_; (case kh => with_unfolding_all rfl); (case kF => k_asm); (case kN => k_asm); k_whole); intro h' tk' t' F' N' lo9 hi9; (try k_sweep)))
local macro_rules | `(tactic| k_ne) => `(tactic| (
  refine' ne_cellR ?N ?a ?b ?c ?d
  case N => k_asm
  case a => k_mem
  case b => k_mem
  case c => with_reducible assumption
  case d => with_unfolding_all rfl))
local macro_rules | `(tactic| walk_at "call ref") => `(tactic| (
  k_here
  k_dflt (
    show wpAny _ _ (call (Value.ref 282) []) _ _ _
    refine' RingClaim.use (ring_claim _ _ _ _) ?k1 ?k2 ?k3 ?k4 ?k5 ?k6 ?hd ?hu ?_
    case k1 => k_asm
    case k2 => k_asm
    case k3 => k_asm
    case k4 => k_asm
    case k5 => k_asm
    case k6 => first | exact rfl | assumption
    case hd => ktr_room
    case hu => ktr_units
    intro x9 dx9 D9 ys9 t91 t92 t93 t94 u91 u92 u94 h9 tk9 F9 N9 hI9 lI9
    try dsimp only
    try k_fold)))
local macro_rules | `(tactic| walk_at "call ref") => `(tactic| (
  k_here
  k_dflt (
    show wpAny _ _ (call (Value.ref 440) []) _ _ _
    refine' RootsClaim.use (roots_claim _ _ _ _) ?k1 ?k2 ?k3 ?k4 ?k5 ?k6 ?hd ?hu ?_
    case k1 => k_asm
    case k2 => k_asm
    case k3 => k_asm
    case k4 => k_asm
    case k5 => k_asm
    case k6 => first | exact rfl | assumption
    case hd => ktr_room
    case hu => ktr_units
    intro D9 ys9 n9 h9 tk9 F9 N9 hI9 lI9
    try dsimp only
    try k_fold)))
local macro_rules | `(tactic| walk_at "call ref") => `(tactic| (
  k_here
  k_dflt (
    show wpAny _ _ (call (Value.ref 435) [Value.ref _, Value.int _ _]) _ _ _
    refine' DrawClaim.use (draw_claim _ _ _ _) ?k1 ?k2 ?k3 ?k4 ?k5 ?k6 ?hl ?hi ?hn ?hb ?hd ?hu ?_
    case k1 => k_asm
    case k2 => k_asm
    case k3 => k_asm
    case k4 => k_asm
    case k5 => k_asm
    case k6 => first | exact rfl | assumption
    case hl => k_asm
    case hi => with_reducible assumption
    case hn => omega
    case hb => first | exact bnd0 | exact bnd1 | (with_reducible exact bnd2 (by assumption) (by assumption) (by assumption)) | (with_reducible exact bnd3 (by assumption) (by assumption) (by assumption) (by assumption) (by assumption))
    case hd => ktr_room
    case hu => ktr_units
    intro t9 h9 tk9 F9 N9
    try dsimp only
    try k_fold)))
local macro_rules | `(tactic| walk_at "pyIter ref") => `(tactic| (
  k_here
  fail_if_success (with_reducible rename LoopMark => lM9)
  k_dflt (
    with_reducible rename IsRange _ _ _ _ _ _ _ _ => rgX
    with_reducible rename Fr _ _ _ _ => lF'
    with_reducible rename News _ _ _ _ => nO9
    have hH9 := hook_led nO9 (by with_reducible assumption) (by with_reducible assumption) (by with_reducible assumption)
    clear nO9
    have hL9 := hook_two (by with_reducible assumption) (by with_reducible assumption) (by with_reducible assumption) (by with_reducible assumption) (by with_reducible assumption) (by with_reducible assumption) (by with_reducible assumption)
    repeat ((with_reducible rename (_ < _ ∧ _) => hx9); clear hx9)
    repeat ((with_reducible rename (IntsAre _ (_ ++ _)) => hx9); clear hx9)
    repeat ((with_reducible rename (_ ≠ _ ∧ _) => hx9); clear hx9)
    repeat ((with_reducible rename (0 ≤ cut _) => hx9); clear hx9)
    repeat ((with_reducible rename (cut _ ≤ _) => hx9); clear hx9)
    repeat ((with_reducible rename (256 - _ < 0 → _) => hx9); clear hx9)
    repeat ((with_reducible rename (0 ≤ 256 - _ → _) => hx9); clear hx9)
    repeat ((with_reducible rename (List.length (List.flatten _) = _) => hx9); clear hx9)
    repeat ((with_reducible rename (Array.size _ = _) => hx9); clear hx9)
    repeat ((with_reducible rename (List.length _ = List.length _) => hx9); clear hx9)
    repeat ((with_reducible rename (List.length _ = Int.toNat _) => hx9); clear hx9)
    repeat ((with_reducible rename (IntsAre _ (List.flatten _)) => hx9); clear hx9)
    repeat ((with_reducible rename (IntsAre _ (List.map _ _)) => hx9); clear hx9)
    obtain ⟨al9, bl9, hIa9, hIb9, hla9, hlb9, hma9, hmb9, hsa9, hsb9⟩ := hL9
    obtain ⟨lN', hO9⟩ := hH9
    dsimp only at hO9
    have lM9 : LoopMark := LoopMark.mk
    with_unfolding_all refine' grow3R (n := 128) (y₁ := Str.ofString "want") (y₂ := Str.ofString "unit") (y₃ := Str.ofString "inverse") [Str.ofString "u", Str.ofString "v", Str.ofString "under"] (MainP ROOTS al9 bl9) (by rfl) rgX (by decide) (by rfl) lF' lN' ?ky1 ?ky2 ?ky3 ?kp ?_ ?_
    case ky1 => rfl
    case ky2 => rfl
    case ky3 => rfl
    case kp => exact main_start _ _ _
    try clear lF' lN'
    all_goals first
      | (intro us9 os9 k9 us9' os9' k9' us9'' os9'' k9'' pre9 i9 t9 u9 h9 tk9 own9 e9 e9' off9 hI9 hI9' hI9'' hP9 F9 N9 mk9; (simp only [List.cons_append, List.nil_append] at N9); (simp only [List.map_cons, List.map_nil] at off9))
      | (intro us9 os9 k9 us9' os9' k9' us9'' os9'' k9'' u9 h9 tk9 hI9 hI9' hI9'' hP9 F9 N9 mk9; (have hD9 := main_done hP9 hI9 hI9' hI9'' (by with_reducible assumption)); (obtain ⟨dl9, dl9', dl9'', dm9, dm9', dm9'', ds9⟩ := hD9); (have hE9 := main_law hP9); (obtain ⟨hE9a, hE9b, hE9c⟩ := hE9); clear hP9)
    all_goals (try k_fold))))
local macro_rules | `(tactic| walk_at "subscriptTail") => `(tactic| (
  k_here
  k_dflt (
    with_reducible show wpAny _ _ (subscriptTail _ _ (Value.ref _) (Value.int _ _)) _ _ _
    refine' item_led ?N ?m ?i ?a ?b ?c ?_
    case N => k_asm
    case m => k_mem
    case i => with_reducible assumption
    case a => omega
    case b => omega
    case c => omega
    intro t9)))
local macro_rules | `(tactic| mul_fits) => `(tactic| first
  | (with_reducible exact mulOk_under)
  | (with_reducible exact mulOk_r)
  | (with_reducible exact mulOk_bb (by assumption) (by assumption))
  | (with_reducible exact mulOk_rbb (by assumption) (by assumption)))
local macro_rules | `(tactic| walk_at "call builtin:pow") => `(tactic| (k_here; (with_reducible refine call_powP (by decide) (by decide) ?_)))
local macro_rules | `(tactic| walk_at "inplaceOp Add ref ref") => `(tactic| (k_here; (with_reducible show wpAny _ _ (inplaceOp Operator.Add (Value.ref _) (Value.ref _)) _ _ _); k_dflt (refine' iadd_K ?F ?N ?b ?ne ?U ?z ?_; (case F => k_asm); (case N => k_asm); (case b => k_mem); (case ne => exact Nat.succ_ne_zero _); (case U => k_upd); (case z => first | (with_reducible exact main_sz1 (by assumption) (by assumption) (by assumption)) | (with_reducible exact main_sz2 (by assumption) (by assumption) (by assumption)) | (with_reducible exact main_sz3 (by assumption) (by assumption) (by assumption))); k_whole); intro h' F' N'; (try k_sweep)))
local macro_rules | `(tactic| kst_facts1) => `(tactic| exact IntsAre.append (by assumption) (.cons _ _ (.cons _ _ .nil)))
local macro_rules | `(tactic| walk_at "execs cons AugAssign") => `(tactic| (k_here; dsimp only; k_gentoks))
local macro_rules | `(tactic| walk_at "InvEndN") => `(tactic| (
  k_here
  k_dflt (
    refine' three_end ?F ?N ?n1 ?n2 ?n3 ?r ?o ?i1 ?i2 ?i3 ?y1 ?y2 ?y3 ?s ?p
    case F => k_asm
    case N => k_asm
    case n1 => k_mem
    case n2 => k_mem
    case n3 => k_mem
    case r => kcf_all
    case o => (intro p9 h9; kst_mem)
    case i1 => first | with_reducible assumption | exact IntsAre.append (by assumption) (.cons _ _ (.cons _ _ .nil))
    case i2 => first | with_reducible assumption | exact IntsAre.append (by assumption) (.cons _ _ (.cons _ _ .nil))
    case i3 => first | with_reducible assumption | exact IntsAre.append (by assumption) (.cons _ _ (.cons _ _ .nil))
    case y1 => rfl
    case y2 => rfl
    case y3 => rfl
    case s => (intro z9 g1 g2 g3 g4 g5; (simp only [List.contains_cons, List.contains_nil, Bool.or_false, Bool.or_eq_false_iff, beq_eq_false_iff_ne, ne_eq] at g5); (simp [g1, g2, g3, g4, g5]))
    case p => first | exact main_turnN (by assumption) rfl rfl (by first | exact ⟨by assumption, by assumption⟩ | assumption) | exact main_turnS (by assumption) rfl rfl (by first | assumption | exact fun q => absurd q.1 (by assumption) | exact fun q => absurd q.2 (by assumption)))))
local macro_rules | `(tactic| walk_at "callWith ref nil") => `(tactic| (
  k_here
  k_dflt (
    with_reducible show wpAny _ _ (callWith _ (Value.ref _) _ (backTo _ (starEach (_ :: _) _)) (backToKw _ (keywordEach (_ :: _) _))) _ _ _
    refine' own_callWith_KW ?k1 ?k2 ?k3 ?k4 ?k5 ?_
    case k1 => k_in
    case k2 => k_inst
    case k3 => rfl
    case k4 => k_is
    case k5 => exact rfl
    k_whole)))
local macro_rules | `(tactic| walk_at "call ref") => `(tactic| (
  k_here
  k_dflt (
    show wpAny _ _ (call (Value.ref 404) [Value.ref _, Value.ref _]) _ _ _
    refine' NttClaim.use (ntt_claim _ _ _ _) ?k1 ?k2 ?k3 ?k4 ?k5 ?k6 ?m1 ?m2 ?m3 ?m4 ?m5 ?m6 ?m7 ?m8 ?m9 ?hz ?hf ?hg ?lz ?lf ?lg ?sz ?sf ?sg ?hd ?hu ?_
    case k1 => k_asm
    case k2 => k_asm
    case k3 => k_asm
    case k4 => k_asm
    case k5 => k_asm
    case k6 => first | exact rfl | assumption
    case m1 => k_mem
    case m2 => k_mem
    case m3 => k_mem
    case m4 => k_mem
    case m5 => k_mem
    case m6 => k_mem
    case m7 => k_mem
    case m8 => k_mem
    case m9 => k_mem
    case hz => with_reducible assumption
    case hf => with_reducible assumption
    case hg => with_reducible assumption
    case lz => with_reducible assumption
    case lf => with_reducible assumption
    case lg => with_reducible assumption
    case sz => exact sm_zet
    case sf => first | exact (fun j9 => Sm.mono ((by with_reducible assumption : ∀ j : Nat, Sm 1048576 (List.getD _ j 0)) j9) (by decide)) | with_reducible assumption
    case sg => first | exact (fun j9 => Sm.mono ((by with_reducible assumption : ∀ j : Nat, Sm 1048576 (List.getD _ j 0)) j9) (by decide)) | with_reducible assumption
    case hd => ktr_room
    case hu => ktr_units
    intro R9 vo9 n9 h9 tk9 F9 N9 hI9 lI9
    have sI9 : ∀ j : Nat, Sm 30000000 (List.getD (mulTo _ _ _ _) j 0) := sm_mulTo hI9
    try dsimp only
    try k_fold)))
local macro_rules | `(tactic| walk_at "binaryOp Mult ref ref") => `(tactic| (
  k_here
  k_dflt (
    refine' StarClaim.use (star_claim _ _ _ _) ?k1 ?k2 ?k3 ?k4 ?k5 ?k6 ?m1 ?m2 ?m3 ?m4 ?m5 ?m6 ?m7 ?m8 ?m9 ?hz ?hf ?hg ?lz ?lf ?lg ?sz ?sf ?sg ?hd ?hu ?_
    case k1 => k_asm
    case k2 => k_asm
    case k3 => k_asm
    case k4 => k_asm
    case k5 => k_asm
    case k6 => first | exact rfl | assumption
    case m1 => k_mem
    case m2 => k_mem
    case m3 => k_mem
    case m4 => k_mem
    case m5 => k_mem
    case m6 => k_mem
    case m7 => k_mem
    case m8 => k_mem
    case m9 => k_mem
    case hz => with_reducible assumption
    case hf => with_reducible assumption
    case hg => with_reducible assumption
    case lz => with_reducible assumption
    case lf => with_reducible assumption
    case lg => with_reducible assumption
    case sz => exact sm_zet
    case sf => first | exact (fun j9 => Sm.mono ((by with_reducible assumption : ∀ j : Nat, Sm 1048576 (List.getD _ j 0)) j9) (by decide)) | with_reducible assumption
    case sg => first | exact (fun j9 => Sm.mono ((by with_reducible assumption : ∀ j : Nat, Sm 1048576 (List.getD _ j 0)) j9) (by decide)) | with_reducible assumption
    case hd => ktr_room
    case hu => ktr_units
    intro r9 rx9 R9 vo9 n9 p9 p9' h9 tk9 F9 N9 hI9 lI9
    have sI9 : ∀ j : Nat, Sm 30000000 (List.getD (mulTo _ _ _ _) j 0) := sm_mulTo hI9
    try dsimp only
    try k_fold)))
local macro_rules | `(tactic| walk_at "call ref") => `(tactic| (
  k_here
  k_dflt (
    fail_if_success (with_reducible show wpAny _ _ (call (Value.ref _) _ []) _ _ _)
    show wpAny _ _ (call (Value.ref _) [Value.ref _] [(Str.ofString "is_ntt", Value.bool true)]) _ _ _
    refine' MakeClaim.use (make_claim _ _ _ _) ?k1 ?k2 ?k3 ?k4 ?k5 ?k6 ?m1 ?m2 ?m3 ?hf ?lf ?hd ?hu ?_
    case k1 => k_asm
    case k2 => k_asm
    case k3 => k_asm
    case k4 => k_asm
    case k5 => k_asm
    case k6 => first | exact rfl | assumption
    case m1 => k_mem
    case m2 => k_mem
    case m3 => k_mem
    case hf => with_reducible assumption
    case lf => with_reducible assumption
    case hd => ktr_room
    case hu => ktr_units
    intro x9 dx9 q9 q9' h9 tk9 F9 N9
    try dsimp only
    try k_fold)))
local macro_rules | `(tactic| walk_at "ite") => `(tactic| (k_here; (with_reducible refine ite_nd (by with_reducible assumption) ?_)))
local macro_rules | `(tactic| walk_at "call builtin:isinstance cons nil") => `(tactic| (
  k_here
  k_dflt (
    refine' isi_call ?k1 ?k2 ?k3 ?k4 ?_
    case k1 => k_in
    case k2 => k_types
    case k3 => k_is
    case k4 => intro e; cases e
    k_whole)))
local macro_rules | `(tactic| k_in) => `(tactic| first | with_reducible assumption | exact Frag.In.keeps (by with_reducible assumption) (Fr.keep (by with_reducible assumption)))
namespace Mine
theorem law_holds : PySem.Challenge.rw_yi0064_01.Holds := HX.hd (by
  clear law_holds
  w_on
  w_strict (
  k_go0
  all_goals try k_fold
  k_steps))
end Mine
end
theorem PySem.Challenge.cw_yi0064_01_holds : PySem.Challenge.rw_yi0064_01.Holds := by
  exact Mine.law_holds
