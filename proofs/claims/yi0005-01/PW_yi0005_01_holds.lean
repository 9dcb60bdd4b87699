import PyProof.Rows.All
import Wide.All
import OpenK.AllK
import Wide.FinOn
import PySem.Challenge.RW_yi0005_01

set_option Elab.async false

section
open PySem PySem.W PyProof.Rows PySem.Calls
set_option maxRecDepth 100000
namespace Mine
theorem kind_pow : builtinKind "pow" = none := by decide +kernel
theorem plain_pow : plainId "pow" = true := by decide +kernel
theorem entry_pow : entryFor table "pow" = some Builtin.«pow» := entryFor_of_fast (by kernel_rfl)
theorem args_pow3 (a b c : Value) : argsOk "pow" ⟨[a, b, c], []⟩ := by unfold argsOk; kernel_rfl
theorem args_int_pow3 (a b c : Value) : argsOk "int.__pow__" ⟨[a, b, c], []⟩ := by unfold argsOk; kernel_rfl

section
variable {prog : Program} {w : World} {A : Around} {E : Value → Shared → Prop} {s : Shared} {a n m : Int} {t u v : Tok} {Q : Value → Shared → Prop}

theorem call_int_pow3 (hn : 0 ≤ n) (hm : 2 ≤ m) (h : Q (.int ((Builtin.powMod (a % m).toNat n.natAbs m.natAbs : Nat) : Int) s.toks) { s with toks := s.toks + 1 }) :
    wpAny (model prog w) A (call (.builtin "int.__pow__") [.int a t, .int n u, .int m v]) (fun v s' => v ≠ .notImplemented ∧ Q v s') E s := by
  refine wpAny_call_entry slot_int_pow (typeIs_int s a t) entry_int_pow ?_ (args_int_pow3 _ _ _)
  show wpAny _ _ (if (m == 0) = true then _ else _) _ _ s
  rw [if_neg (by simp; omega)]
  show wpAny _ _ (if (m.natAbs == 1) = true then _ else _) _ _ s
  rw [if_neg (by simp; omega)]
  show wpAny _ _ (if n < 0 then _ else _) _ _ s
  rw [if_neg (by omega)]
  have e : ((m.natAbs : Nat) : Int) = m := by omega
  rw [e]
  have hneg : (decide (m < 0) && ((Builtin.powMod (a % m).toNat n.natAbs m.natAbs : Nat) : Int) != 0) = false := by
    have : decide (m < 0) = false := decide_eq_false (by omega)
    rw [this]; rfl
  (dsimp only); rw [if_neg (by rw [hneg]; exact Bool.false_ne_true)]
  repeat (first | refine wpAny_pure ?_ | refine wpAny_mkInt ?_ | refine wpAny_rule ?_ | refine wpAny_bind ?_)
  exact ⟨_, rfl, by simp, h⟩

set_option maxHeartbeats 2000000 in
theorem call_pow_of (hc : ∀ A, wpAny (model prog w) A (call (.builtin "int.__pow__") [.int a t, .int n u, .int m v]) (fun v s' => v ≠ .notImplemented ∧ Q v s') E s) :
    wpAny (model prog w) A (call (.builtin "pow") [.int a t, .int n u, .int m v]) Q E s := by
  refine call_function_entry kind_pow plain_pow entry_pow (args_pow3 _ _ _) ?_
  replace hc := hc A.in1
  obtain ⟨hp, g, d, tk, os⟩ := s
  have hT : (⟨hp, g, d, tk, os⟩ : Shared).TypeIs (.int a t) "int" := rfl
  have hT2 : (⟨hp, g, d, tk, os⟩ : Shared).TypeIs (.int n u) "int" := rfl
  have hT3 : (⟨hp, g, d, tk, os⟩ : Shared).TypeIs (.int m v) "int" := rfl
  have f3 := slot_int_pow.lookup
  have f4 := slot_int_pow.bind (.int a t)
  repeat (any_goals (first | assumption | ((with_reducible show wpAny _ _ (call (Value.builtin "int.__pow__") _ _) _ _ _); refine wpAny_mono hc ?_ (fun _ _ e => e)) | wp_step))
  rw [show typeLookup (.type "int") (Str.ofString "__pow__") = pure (some (.builtin "int.__pow__")) from f3]
  refine wpAny_pure ?_
  dsimp only
  refine wpAny_bind (wpAny_callSpecial?_slot (name := Str.ofString "__pow__") hT slot_int_pow (wpAny_mono hc ?_ fun _ _ e => e))
  intro v s' hv
  dsimp only
  rw [if_pos (by simpa using hv.1)]
  exact wpAny_pure ⟨_, rfl, hv.2⟩
theorem call_pow3 (hn : 0 ≤ n) (hm : 2 ≤ m) (h : Q (.int ((Builtin.powMod (a % m).toNat n.natAbs m.natAbs : Nat) : Int) s.toks) { s with toks := s.toks + 1 }) :
    wpAny (model prog w) A (call (.builtin "pow") [.int a t, .int n u, .int m v]) Q E s :=
  call_pow_of fun _ => call_int_pow3 hn hm h
end
end Mine
end

section
open PySem PySem.W PyProof.Rows PySem.Calls PySem.NumText
set_option maxRecDepth 100000
namespace Mine
/-! ## bin, a reversed text, int(text, 2) -/
theorem wp_text2 {M : Model} {A : Around} {E : Value → Shared → Prop} {s : Shared} {Q : Value → Shared → Prop} {v : Value} {text : List Nat} {n : Int}
    (hs : (text.takeWhile (· != 0)).length ≤ 640) (hr : (int_private% "readNumeral") 0 2 (text.takeWhile (· != 0)) = (int_private% "Numeral.value") n)
    (ha : ((text.takeWhile (· != 0)).length == text.length) = true) (h : Q (.int n s.toks) { s with toks := s.toks + 1 }) :
    wpAny M A ((int_private% "intFromText") v text 2) Q E s := by
  obtain ⟨hp, g, d, tk, os⟩ := s
  repeat (any_goals (first
    | assumption
    | (with_reducible refine wpAny_ite_true (decide_eq_true hs) ?_)
    | (with_reducible refine wpAny_ite_true (decide_eq_true ha) ?_)
    | wp_step))
  all_goals (try rw [hr])
  all_goals (try dsimp only)
  repeat (any_goals (first
    | assumption
    | (with_reducible refine wpAny_ite_true (decide_eq_true hs) ?_)
    | (with_reducible refine wpAny_ite_true (decide_eq_true ha) ?_)
    | wp_step))

structure Reads2 (x : PySem.Str) (n : Int) : Prop where
  hs : (numSeenOf x).length ≤ 640
  hr : (int_private% "readNumeral") 0 2 (numSeenOf x) = (int_private% "Numeral.value") n
  ha : ((numSeenOf x).length == (numTextOf x).length) = true

set_option maxHeartbeats 4000000 in
theorem gives_text2 {x : PySem.Str} {u v : Tok} {n : Int} (hk : Reads2 x n) : Gives (Builtin.«int.__new__» ⟨[.type "int", .str x u, .int 2 v], []⟩) (.int n) :=
  .of_wp fun M A E s Q h => by
    obtain ⟨hp, g, d, tk, os⟩ := s
    have f1 := F.conv_sub_int
    have f2 := F.madeHere_int
    have f6 : typeOf (.str x u) = pure (.type "str") := rfl
    repeat (any_goals (first
      | assumption
      | ((with_reducible show wpAny _ _ ((int_private% "intFromText") _ _ _) _ _ _); refine wp_text2 hk.hs hk.hr hk.ha ?_)
      | wp_step))
    all_goals first | exact ⟨_, rfl, h⟩ | skip

theorem typeCall_int_2 (a b : Value) : checkTypeCall "int" ⟨[a, b], []⟩ = pure () := by kernel_rfl
theorem newCall_int_2 (a b : Value) : checkBuiltinCall "int.__new__" ⟨[.type "int", a, b], []⟩ = pure () := by kernel_rfl
section
variable {prog : Program} {w : World} {A : Around} {E : Value → Shared → Prop} {s : Shared} {Q : Value → Shared → Prop} {x : PySem.Str} {t v : Tok} {n : Int}
theorem call_text2 (hk : Reads2 x n) (h : Q (.int n s.toks) { s with toks := s.toks + 1 }) : wpAny (model prog w) A (call (.type "int") [.str x t, .int 2 v]) Q E s :=
  callType_new F.called_int F.newNe_int (typeCall_int_2 _ _) (newCall_int_2 _ _) (fun obj => by unfold argsOk; kernel_rfl) F.entry_int_new (gives_text2 hk).meets (show (Made.int n).post _ s from ⟨rfl, h⟩)
end

/-- the seven-figure binary text of k, read from behind -/
def brText (k : Int) (u : Tok) : PySem.Str := Txt.sliceBy (Txt.zfill (Txt.slice (baseText "0b" 2 k) (some 2) none) 7) none none (-1, u)
/-- k's seven binary figures turned about -/
def br7 (k : Nat) : Nat := k % 2 * 64 + k / 2 % 2 * 32 + k / 4 % 2 * 16 + k / 8 % 2 * 8 + k / 16 % 2 * 4 + k / 32 % 2 * 2 + k / 64 % 2

theorem and127 : ∀ k : Fin 128, Builtin.bitAnd (k.val : Int) (2 ^ Int.toNat 7 - 1) = (k.val : Int) := by decide +kernel
theorem and127' {k : Int} (h0 : 0 ≤ k) (h1 : k < 128) : Builtin.bitAnd k (2 ^ Int.toNat 7 - 1) = k := by
  obtain ⟨n, rfl⟩ := Int.eq_ofNat_of_zero_le h0
  exact and127 ⟨n, by omega⟩

def brList (k : Nat) : List Nat := (brText (k : Int) 0).cps.toList
theorem br_list : ∀ k : Fin 128, (brText (k.val : Int) 0).cps.toList = [k.val / 64 % 2, k.val / 32 % 2, k.val / 16 % 2, k.val / 8 % 2, k.val / 4 % 2, k.val / 2 % 2, k.val % 2].reverse.map (· + 48) := by decide +kernel

set_option maxHeartbeats 4000000 in
theorem seven : ∀ a b c d e f g : Bool, (int_private% "readNumeral") 0 2 [a.toNat + 48, b.toNat + 48, c.toNat + 48, d.toNat + 48, e.toNat + 48, f.toNat + 48, g.toNat + 48]
    = (int_private% "Numeral.value") ((a.toNat * 64 + b.toNat * 32 + c.toNat * 16 + d.toNat * 8 + e.toNat * 4 + f.toNat * 2 + g.toNat : Nat) : Int) := by
  intro a b c d e f g
  cases a <;> cases b <;> cases c <;> cases d <;> cases e <;> cases f <;> cases g <;> kernel_rfl
theorem bit_bool (n : Nat) : ∃ b : Bool, n % 2 = b.toNat := by
  rcases Nat.mod_two_eq_zero_or_one n with h | h
  · exact ⟨false, h⟩
  · exact ⟨true, h⟩
theorem br_small (k : Nat) : ∀ c ∈ [k / 64 % 2, k / 32 % 2, k / 16 % 2, k / 8 % 2, k / 4 % 2, k / 2 % 2, k % 2].reverse.map (· + 48), c = 45 ∨ (48 ≤ c ∧ c ≤ 57) := by
  intro c hc
  simp only [List.reverse_cons, List.reverse_nil, List.nil_append, List.cons_append, List.map_cons, List.map_nil, List.mem_cons, List.not_mem_nil, or_false] at hc
  omega
theorem slice_tok (x : PySem.Str) (u v : Tok) : Txt.sliceBy x none none (-1, u) = Txt.sliceBy x none none (-1, v) := by
  unfold Txt.sliceBy slicePicked
  simp only [Option.map_some]
theorem brText_tok (k : Int) (u : Tok) : brText k u = brText k 0 := slice_tok _ _ _
theorem br_list' {n : Nat} (h : n < 128) : (brText (n : Int) 0).cps.toList = [n / 64 % 2, n / 32 % 2, n / 16 % 2, n / 8 % 2, n / 4 % 2, n / 2 % 2, n % 2].reverse.map (· + 48) := br_list ⟨n, h⟩
theorem seven_of {x : PySem.Str} {a b c d e f g : Nat} (ha : ∃ y : Bool, a = y.toNat) (hb : ∃ y : Bool, b = y.toNat) (hc : ∃ y : Bool, c = y.toNat) (hd : ∃ y : Bool, d = y.toNat) (he : ∃ y : Bool, e = y.toNat) (hf : ∃ y : Bool, f = y.toNat) (hg : ∃ y : Bool, g = y.toNat)
    (e1 : numTextOf x = [a + 48, b + 48, c + 48, d + 48, e + 48, f + 48, g + 48]) (e2 : numSeenOf x = [a + 48, b + 48, c + 48, d + 48, e + 48, f + 48, g + 48]) :
    Reads2 x ((a * 64 + b * 32 + c * 16 + d * 8 + e * 4 + f * 2 + g : Nat) : Int) := by
  refine ⟨by rw [e2]; exact (by decide : 7 ≤ 640), ?_, by rw [e1, e2]; rfl⟩
  rw [e2]
  obtain ⟨a, rfl⟩ := ha
  obtain ⟨b, rfl⟩ := hb
  obtain ⟨c, rfl⟩ := hc
  obtain ⟨d, rfl⟩ := hd
  obtain ⟨e, rfl⟩ := he
  obtain ⟨f, rfl⟩ := hf
  obtain ⟨g, rfl⟩ := hg
  exact seven a b c d e f g
theorem br_reads0 {n : Nat} (h : n < 128) : Reads2 (brText (n : Int) 0) ((br7 n : Nat) : Int) := by
  obtain ⟨e1, e2⟩ := numText_signs (x := brText (n : Int) 0) (by rw [br_list' h]; exact br_small n)
  rw [br_list' h] at e1 e2
  exact seven_of (bit_bool n) (bit_bool (n / 2)) (bit_bool (n / 4)) (bit_bool (n / 8)) (bit_bool (n / 16)) (bit_bool (n / 32)) (bit_bool (n / 64)) e1 e2
theorem br_reads {k : Int} (h0 : 0 ≤ k) (h1 : k < 128) (u : Tok) : Reads2 (brText k u) ((br7 k.toNat : Nat) : Int) := by
  obtain ⟨n, rfl⟩ := Int.eq_ofNat_of_zero_le h0
  rw [brText_tok]
  exact br_reads0 (by omega)
theorem bin_len {k : Int} (h0 : 0 ≤ k) (h1 : k < 128) : (baseText "0b" 2 k).length ≤ sizeLine := baseText_under (by decide) (by decide) (by omega)
theorem seven_long0 : ∀ k : Fin 128, (Txt.zfill (Txt.slice (baseText "0b" 2 (k.val : Int)) (some 2) none) 7).length = 7 := by decide +kernel
theorem seven_long {k : Int} (h0 : 0 ≤ k) (h1 : k < 128) : (Txt.zfill (Txt.slice (baseText "0b" 2 k) (some 2) none) 7).length ≤ sizeLine := by
  obtain ⟨n, rfl⟩ := Int.eq_ofNat_of_zero_le h0
  rw [seven_long0 ⟨n, by omega⟩]
  exact (by decide : 7 ≤ sizeLine)
end Mine
end

section
open PySem PySem.W PyProof.Rows PySem.Calls
set_option maxRecDepth 100000
namespace Mine
theorem powMod_step (b e m n : Nat) {p : Nat} (hp : p = b ^ (e / 2 ^ (n + 1)) % m) :
    (if e.testBit n then p * p % m * b % m else p * p % m) = b ^ (e / 2 ^ n) % m := by
  have h2 : e / 2 ^ (n + 1) = e / 2 ^ n / 2 := by rw [Nat.pow_succ, Nat.div_div_eq_div_mul]
  rw [h2] at hp
  have hb : e.testBit n = decide (e / 2 ^ n % 2 = 1) := Nat.testBit_eq_decide_div_mod_eq
  rw [hb]
  generalize e / 2 ^ n = q at hp ⊢
  have hq := Nat.div_add_mod q 2
  have hsq : p * p % m = b ^ (2 * (q / 2)) % m := by
    subst hp
    rw [← Nat.mul_mod, ← Nat.pow_add]
    congr 2
    omega
  rcases Nat.mod_two_eq_zero_or_one q with h | h
  · have e0 : 2 * (q / 2) = q := by omega
    rw [if_neg (by simp [h]), hsq, e0]
  · have e1 : 2 * (q / 2) + 1 = q := by omega
    rw [if_pos (by simp [h]), hsq]
    conv => rhs; rw [← e1, Nat.pow_succ]
    rw [Nat.mod_mul_mod]
theorem powMod_fold (b e m : Nat) : ∀ (n p : Nat), p = b ^ (e / 2 ^ n) % m →
    (List.range n).reverse.foldl (fun p i => if e.testBit i then p * p % m * b % m else p * p % m) p = b ^ e % m
  | 0, p, hp => by simpa using hp
  | n + 1, p, hp => by
    rw [List.range_succ, List.reverse_append]
    exact powMod_fold b e m n _ (powMod_step b e m n hp)
theorem powMod_eq (b e m : Nat) : Builtin.powMod b e m = b ^ e % m := by
  unfold Builtin.powMod
  refine powMod_fold b e m _ _ ?_
  have h : e < 2 ^ Builtin.Int.intBits e := natAbs_lt_pow_bits (e : Int)
  rw [Nat.div_eq_of_lt h, Nat.pow_zero]
theorem emod_pow (a m : Int) : ∀ n : Nat, (a % m) ^ n % m = a ^ n % m
  | 0 => by simp
  | n + 1 => by rw [Int.pow_succ, Int.mul_emod, emod_pow a m n, Int.emod_emod_of_dvd _ (Int.dvd_refl m), ← Int.mul_emod, ← Int.pow_succ]
theorem pow_val {a n m : Int} (hn : 0 ≤ n) (hm : 2 ≤ m) : ((Builtin.powMod (a % m).toNat n.natAbs m.natAbs : Nat) : Int) = a ^ n.toNat % m := by
  rw [powMod_eq, Int.natCast_emod, Int.natCast_pow]
  have h1 : (((a % m).toNat : Nat) : Int) = a % m := Int.toNat_of_nonneg (Int.emod_nonneg _ (by omega))
  have h2 : ((m.natAbs : Nat) : Int) = m := by omega
  have h3 : n.natAbs = n.toNat := by omega
  rw [h1, h2, h3, emod_pow]
section
variable {prog : Program} {w : World} {A : Around} {E : Value → Shared → Prop} {s : Shared} {a n m : Int} {t u v : Tok} {Q : Value → Shared → Prop}
theorem pow3 (hn : 0 ≤ n) (hm : 2 ≤ m) (h : Q (.int (a ^ n.toNat % m) s.toks) { s with toks := s.toks + 1 }) :
    wpAny (model prog w) A (call (.builtin "pow") [.int a t, .int n u, .int m v]) Q E s :=
  call_pow3 hn hm (by rw [pow_val hn hm]; exact h)
theorem bin_and {k : Int} (h0 : 0 ≤ k) (h1 : k < 128) (h : Q (.str (baseText "0b" 2 k) s.toks) { s with toks := s.toks + 1 }) :
    wpAny (model prog w) A (call (.builtin "bin") [.int (Builtin.bitAnd k (2 ^ Int.toNat 7 - 1)) t]) Q E s := by
  rw [and127' h0 h1]
  exact P.bin_of_int h (bin_len h0 h1)
end
end Mine
end

section
open PySem PySem.W PyProof.Rows PySem.Calls
set_option maxRecDepth 100000
namespace Mine
theorem inv_tree (t u v : Tok) : Builtin.«int.__pow__» ⟨[.int 128 t, .int (-1) u, .int 3329 v], []⟩ = (do rule "int.pow.inverse"; retInt 3303) := by kernel_rfl
section
variable {prog : Program} {w : World} {A : Around} {E : Value → Shared → Prop} {s : Shared} {t u v : Tok} {Q : Value → Shared → Prop}
theorem call_int_inv (h : Q (.int 3303 s.toks) { s with toks := s.toks + 1 }) :
    wpAny (model prog w) A (call (.builtin "int.__pow__") [.int 128 t, .int (-1) u, .int 3329 v]) (fun v s' => v ≠ .notImplemented ∧ Q v s') E s := by
  refine wpAny_call_entry slot_int_pow (typeIs_int s 128 t) entry_int_pow ?_ (args_int_pow3 _ _ _)
  rw [inv_tree]
  repeat (first | refine wpAny_pure ?_ | refine wpAny_mkInt ?_ | refine wpAny_rule ?_ | refine wpAny_bind ?_)
  exact ⟨_, rfl, by simp, h⟩
theorem pow_inv (h : Q (.int 3303 s.toks) { s with toks := s.toks + 1 }) :
    wpAny (model prog w) A (call (.builtin "pow") [.int 128 t, .int (-1) u, .int 3329 v]) Q E s :=
  call_pow_of fun _ => call_int_inv h
end
end Mine
end

section
open PySem PySem.W PyProof.Rows
namespace Mine
def addAt (row : List Int) (p : Int × Int) : List Int := row.set p.1.toNat (row.getD p.1.toNat 0 + p.2)
def rowOf (ps : List (Int × Int)) : List Int := ps.foldl addAt (List.replicate 256 0)
def dat (p : Int × Int) : Dat := Dat.tuple [Dat.int p.1, Dat.int p.2]
structure TR (terms : List Dat) (row : List Int) : Prop where
  ex : ∃ ps : List (Int × Int), terms = ps.map dat ∧ row = rowOf ps ∧ ∀ p ∈ ps, 0 ≤ p.1 ∧ p.1 < 256
def turned : Nat → List Int
  | 0 => [0]
  | n + 1 => (turned n).map (fun x => 2 * x) ++ (turned n).map (fun x => 2 * x + 1)
end Mine
namespace Mine
abbrev TP (pre : List Int) (terms : List Dat) (row : List Int) : Prop := terms.length = pre.length ∧ pre.length ≤ 64 ∧ row.length = 256 ∧ TR terms row
theorem tr_start : TP [] [] ((List.replicate (Int.toNat 256) [(0 : Int)]).flatten) := by
  have e : (List.replicate (Int.toNat 256) [(0 : Int)]).flatten = List.replicate 256 0 := by decide +kernel
  rw [e]
  exact ⟨rfl, by decide, List.length_replicate, [], rfl, rfl, fun _ h => nomatch h⟩
end Mine
namespace Mine
theorem fmod_256 (D : Int) : 0 ≤ Int.fmod D 256 ∧ Int.fmod D 256 < 256 := ⟨Int.fmod_nonneg_of_pos D (by decide), Int.fmod_lt_of_pos D (by decide)⟩
theorem tr_step {pre : List Int} {k c D n : Int} {terms : List Dat} {row : List Int} (h1 : terms.length = pre.length) (h3 : row.length = 256) (h4 : TR terms row)
    (hlt : pre.length < ((1 + Int.fmod c 64) - 0).toNat) :
    TP (pre ++ [k]) (terms ++ [Dat.tuple [Dat.int (Int.fmod D 256), Dat.int n]]) (row.set (Int.fmod D 256).toNat (row.getD (Int.fmod D 256).toNat 0 + n)) := by
  have hc := Int.fmod_lt_of_pos c (by decide : (0 : Int) < 64)
  refine ⟨by simp [h1], by simp; omega, by simp [h3], ?_⟩
  obtain ⟨ps, rfl, rfl, hp⟩ := h4
  refine ⟨ps ++ [(Int.fmod D 256, n)], by simp [dat], ?_, ?_⟩
  · unfold rowOf
    rw [List.foldl_append]
    rfl
  · intro p hp'
    rcases List.mem_append.mp hp' with h | h
    · exact hp p h
    · rw [List.mem_singleton.mp h]; exact fmod_256 D
end Mine
namespace Mine
theorem turned_len : ∀ n, (turned n).length = 2 ^ n
  | 0 => rfl
  | n + 1 => by
    unfold turned
    rw [List.length_append, List.length_map, List.length_map, turned_len n, Nat.pow_succ]; omega
theorem turned_le {n : Nat} (h : n < 7) : (turned n).length ≤ 64 := by
  rw [turned_len]
  exact Nat.pow_le_pow_right (by decide) (by omega : n ≤ 6)
end Mine
namespace Mine
theorem turned7 : (turned 7).length = 128 := turned_len 7
end Mine
namespace Mine
theorem turned_nonneg : ∀ (n : Nat) (k : Int), k ∈ turned n → 0 ≤ k
  | 0, k, h => by
    have : k = 0 := by simpa [turned] using h
    omega
  | n + 1, k, h => by
    unfold turned at h
    rcases List.mem_append.mp h with h | h <;> obtain ⟨j, hj, rfl⟩ := List.mem_map.mp h <;> have := turned_nonneg n j hj <;> omega
theorem turned_exp {k : Int} (h : k ∈ turned 7) : 0 ≤ 2 * k + 1 := by have := turned_nonneg 7 k h; omega
end Mine
end

section
open PySem PySem.W PyProof.Rows PySem.Calls PySem.Spec PyProof.V
set_option maxRecDepth 100000
namespace Mine
section
variable {prog : Program} {w : World} {A : Around} {E : Value → Shared → Prop} {s : Shared} {env : Env} {h₀ : Heap} {x : Str} {body : List Stmt} {Q : Flow → Shared → Prop}

/-- what a turn that binds the name y to a new list of ints leaves -/
def RebindPost (h₀ : Heap) (L : Addr) (x y : Str) (m₀ : Str → Option Value) (led own : List (Addr × Obj)) (g : List Int) (s : Shared) (f : Flow) (s₂ : Shared) : Prop :=
  f = .next ∧ ∃ h' tk' a' vs' nn' m' news', s₂ = { s with heap := h', toks := tk' } ∧ Fr h₀ L h' m' ∧ News h₀ L h' news' ∧ (∀ p ∈ led, p ∈ news') ∧ (∀ p ∈ led, p.1 < a') ∧
    (a', listOf (List.toArray vs') nn') ∈ news' ∧ IntsAre vs' g ∧ m' y = some (.ref a') ∧ ∀ z, z ≠ x → z ≠ y → m' z = m₀ z

set_option maxHeartbeats 3200000 in
theorem rebind_range {r a : Addr} {a₀ b₀ : Int} {t₀ u₀ v₀ : Tok} {n nn : Nat} {m₀ : Str → Option Value} {news : List (Addr × Obj)} {y : Str} {vs : List Value} (g : Nat → List Int)
    (hh : A.handled = none) (hr : IsRange s.heap r a₀ b₀ 1 t₀ u₀ v₀) (hsmall : Builtin.Range.small a₀ b₀ 1 = true) (hsz : Builtin.Range.rangeSize a₀ b₀ 1 = (n : Int)) (F : Fr h₀ env.locals s.heap m₀) (N : News h₀ env.locals s.heap news)
    (hy : m₀ y = some (.ref a)) (hm : (a, listOf vs.toArray nn) ∈ news) (hi : IntsAre vs (g 0))
    (turn : ∀ i a vs nn t h tk tl own, i < n → IntsAre vs (g i) → Fr h₀ env.locals h (fun z => if z = x then some (.int (a₀ + (i : Nat)) t) else if z = y then some (.ref a) else m₀ z) →
      News h₀ env.locals h ((a, listOf (List.toArray vs) nn) :: (news ++ (tl ++ own))) →
      wpAny (model prog w) A (execs body env) (RebindPost h₀ env.locals x y m₀ ((a, listOf (List.toArray vs) nn) :: (news ++ (tl ++ own))) own (g (i + 1)) s) E { s with heap := h, toks := tk })
    (done : ∀ a vs nn (u : Option Value) h tk, (n = 0 ∨ ∀ p ∈ news, p.1 < a) → IntsAre vs (g n) → Fr h₀ env.locals h (fun z => if z = x then u else if z = y then some (.ref a) else m₀ z) →
      News h₀ env.locals h ((a, listOf (List.toArray vs) nn) :: news) → Q .next { s with heap := h, toks := tk }) :
    wpAny (model prog w) A (pyIter (.ref r)) (fun it s₂ => LoopAtV prog w A h₀ env x body Q E it s₂) E s := by
  refine wpAny_pyIter_range hr hsmall ?_
  have W : Walks prog w A s.heap.objs.size [s.heap.objs.size] [s.heap.objs.size] n (fun i v => i < n ∧ ∃ t, v = .int (a₀ + i * 1) t)
      (fun i h => IsRangeIter h s.heap.objs.size (a₀ + (i : Nat) * 1) ((n : Int) - (i : Nat)) 1) := (Walks.range hh _ a₀ 1 n).bound
  refine kdr_loop (fun i m nx => ∃ a vs nn tl, nx = news ++ tl ∧ (a, listOf (List.toArray vs) nn) ∈ nx ∧ IntsAre vs (g i) ∧ m y = some (.ref a) ∧ (∀ z, z ≠ x → z ≠ y → m z = m₀ z) ∧ (i = 0 ∨ ∀ p ∈ news, p.1 < a)) W (fun _ h => h) (fun _ h => h) ?_ ?_ ?_ ?_ (by show IsRangeIter _ _ _ _ _; rw [hsz]; simpa using Heap.get?_push_size _ rfl) (F.push _) (fun p hp => ⟨Heap.get?_push_of_some _ (N p hp).1, (N p hp).2⟩) ⟨a, vs, nn, [], by simp, hm, hi, hy, fun _ _ _ => rfl, .inl rfl⟩ ?_ ?_
  · intro i h hi b hb
    rw [List.mem_singleton.mp hb]
    exact ⟨_, hi⟩
  · intro hm
    exact absurd F.ns.lt ((List.mem_singleton.mp hm) ▸ Nat.lt_irrefl _)
  · intro b hb
    rw [List.mem_singleton.mp hb]
    exact next_is_new F
  · intro p hp hI
    exact absurd (Heap.lt_size (N p hp).1) ((List.mem_singleton.mp hI) ▸ Nat.lt_irrefl _)
  · rintro i v m₁ nx h tk own hin ⟨_, t, rfl⟩ hoff ⟨a, vs, nn, tl, rfl, ha, hi', hy', hz, _⟩ F₁ N₁
    have e1 : a₀ + (i : Int) * 1 = a₀ + (i : Int) := by omega
    rw [e1] at F₁
    have em : (fun z => if z = x then some (Value.int (a₀ + (i : Int)) t) else m₁ z) = fun z => if z = x then some (Value.int (a₀ + (i : Int)) t) else if z = y then some (.ref a) else m₀ z := by
      funext z
      by_cases h1 : z = x
      · simp only [if_pos h1]
      · simp only [if_neg h1]
        by_cases h2 : z = y
        · simp only [if_pos h2]; rw [h2]; exact hy'
        · simp only [if_neg h2]; exact hz z h1 h2
    rw [em] at F₁
    have N₂ : News h₀ env.locals h ((a, listOf (List.toArray vs) nn) :: (news ++ (tl ++ own))) := by
      intro p hp
      rcases List.mem_cons.mp hp with rfl | hp
      · exact N₁ _ (List.mem_append.mpr (.inl ha))
      · exact N₁ p (by rw [List.append_assoc]; exact hp)
    refine wpAny_mono (turn i a vs nn t h tk tl own hin hi' F₁ N₂) (fun f s₂ p => ?_) fun _ _ e => e
    obtain ⟨rfl, h', tk', a', vs', nn', m', news', rfl, F', N', hsub, hlt, hmem, hints, hy2, hz2⟩ := p
    refine ⟨h', tk', m', news', news ++ (tl ++ [(a', listOf vs'.toArray nn')]), rfl, F', N', ?_, ?_, ?_, a', vs', nn', tl ++ [(a', listOf vs'.toArray nn')], rfl, ?_, hints, hy2, hz2, .inr fun p hp => hlt p ?_⟩
    · intro p hp
      rcases List.mem_append.mp hp with h1 | h1
      · exact hsub p (List.mem_cons_of_mem _ (List.mem_append.mpr (.inl h1)))
      · rcases List.mem_append.mp h1 with h2 | h2
        · exact hsub p (List.mem_cons_of_mem _ (List.mem_append.mpr (.inr (List.mem_append.mpr (.inl h2)))))
        · rw [List.mem_singleton.mp h2]; exact hmem
    · intro p hp
      exact hsub p (List.mem_cons_of_mem _ (List.mem_append.mpr (.inr (List.mem_append.mpr (.inr hp)))))
    · intro p hp b hb
      obtain ⟨q, hq, rfl⟩ := List.mem_map.mp hb
      rcases List.mem_append.mp hq with h1 | h1
      · exact hoff p hp _ (List.mem_map.mpr ⟨q, List.mem_append.mpr (.inl h1), rfl⟩)
      · rcases List.mem_append.mp h1 with h2 | h2
        · exact hoff p hp _ (List.mem_map.mpr ⟨q, List.mem_append.mpr (.inr h2), rfl⟩)
        · rw [List.mem_singleton.mp h2]
          exact Nat.ne_of_lt (hlt p (List.mem_cons_of_mem _ (List.mem_append.mpr (.inr (List.mem_append.mpr (.inr hp))))))
    · exact List.mem_append.mpr (.inr (List.mem_append.mpr (.inr (List.mem_singleton.mpr rfl))))
    · exact List.mem_cons_of_mem _ (List.mem_append.mpr (.inl hp))
  · rintro m₁ nx h tk ⟨a, vs, nn, tl, rfl, ha, hi', hy', hz, h0⟩ F₁ N₁
    refine done a vs nn (m₁ x) h tk h0 hi' ?_ ?_
    · have em : (fun z => if z = x then m₁ x else if z = y then some (.ref a) else m₀ z) = m₁ := by
        funext z
        by_cases h1 : z = x
        · simp only [if_pos h1]; rw [h1]
        · simp only [if_neg h1]
          by_cases h2 : z = y
          · simp only [if_pos h2]; rw [h2]; exact hy'.symm
          · simp only [if_neg h2]; exact (hz z h1 h2).symm
      rw [em]; exact F₁
    · intro p hp
      rcases List.mem_cons.mp hp with rfl | hp
      · exact N₁ _ ha
      · exact N₁ p (List.mem_append.mpr (.inl hp))
end
end Mine
end

section
open PySem PySem.W PyProof.Rows PySem.Calls
set_option maxRecDepth 100000
namespace Mine
/-- the list that the law calls roots -/
def rootsL : List Int := (turned 7).map fun k => (17 : Int) ^ (2 * k + 1).toNat % 3329
theorem roots_distinct : (firstMet (fun i => rootsL.getD i 0) 128).length = 128 := by decide +kernel
theorem roots_len : rootsL.length = 128 := by unfold rootsL; rw [List.length_map]; exact turned7
section
variable {prog : Program} {w : World} {A : Around} {E : Value → Shared → Prop} {s : Shared} {h₀ : Heap} {L : Addr} {m : Str → Option Value} {news : List (Addr × Obj)}
theorem set_of_roots {l : Addr} {vs : List Value} {nn : Nat} {Q : Value → Shared → Prop} (F : Fr h₀ L s.heap m) (N : News h₀ L s.heap news)
    (hh : A.handled = none) (hm : (l, listOf vs.toArray nn) ∈ news) (hi : IntsAre vs rootsL)
    (h : ∀ d h' (tk : Nat) o, Fr h₀ L h' m → News h₀ L h' ((d, o) :: news) → (∀ p ∈ news, p.1 < d) → o.SetObjOf (intKind prog w) (fun k' => (firstMet (fun i => rootsL.getD i 0) 128).any (· == k')) 128 →
      Q (.ref d) { s with heap := h', toks := tk }) :
    wpAny (model prog w) A (call (.type "set") [.ref l]) Q E s := by
  have hl' : s.heap.IsList l vs.toArray := ⟨_, (N _ hm).1, rfl, nn, rfl⟩
  have hvn : vs.length = 128 := hi.length.trans roots_len
  have hsz : vs.toArray.size = 128 := by rw [List.size_toArray, hvn]
  refine PySem.call_set_list (items := vs.toArray) (ns := rootsL) hh hl' (by simpa using hi) (by rw [hsz]; decide) fun h' tk hS hk => ?_
  rw [hsz, roots_distinct] at hS
  obtain ⟨o, ho, hso⟩ := hS.objOf
  obtain ⟨oL, _, _, hL, _⟩ := F.ns
  have hLlt : L < s.heap.objs.size := Heap.lt_size hL
  refine h s.heap.objs.size h' tk o ⟨F.ns.at' fun o' e => hk L o' hLlt e, fun b o' e => hk b o' (Heap.lt_size (F.keep b o' e)) (F.keep b o' e), F.above⟩ (fun p hp => ?_) (fun p hp => Heap.lt_size (N p hp).1) hso
  rcases List.mem_cons.mp hp with rfl | hp
  · refine ⟨ho, Nat.ne_of_gt hLlt, ?_⟩
    cases hq : h₀.get? s.heap.objs.size with
    | none => rfl
    | some o' => exact absurd (Heap.lt_size (F.keep _ _ hq)) (Nat.lt_irrefl _)
  · exact ⟨hk _ _ (Heap.lt_size (N p hp).1) (N p hp).1, (N p hp).2.1, (N p hp).2.2⟩
theorem len_of_set {sa : Addr} {so : Obj} {S : Int → Bool} {n : Nat} {Q : Value → Shared → Prop} (N : News h₀ L s.heap news) (hm : (sa, so) ∈ news) (hso : so.SetObjOf (intKind prog w) S n) (hfit : (n : Int) < 2 ^ 63)
    (h : Q (.int n (s.toks + 1)) { s with toks := s.toks + 1 + 1 }) : wpAny (model prog w) A (call (.builtin "len") [.ref sa]) Q E s := by
  obtain ⟨pre, post, rfl⟩ := List.append_of_mem hm
  exact len_sl1 (own := pre) N hso hfit h
end
end Mine
end

section
open PySem PySem.W PyProof.Rows PySem.Calls PySem.Spec PyProof.V
set_option maxRecDepth 100000
namespace Mine
section
variable {prog : Program} {w : World} {A : Around} {E : Value → Shared → Prop} {s : Shared} {env : Env} {h₀ : Heap} {target : Expr} {body : List Stmt} {Q : Flow → Shared → Prop}
/-- what a turn over the pairs leaves: two names' ints, the rest of the frame as it stood but for the stored names -/
def PairPost (h₀ : Heap) (L : Addr) (y₁ y₂ : Str) (stored : List Str) (m₀ : Str → Option Value) (led : List (Addr × Obj)) (e o : Int) (s : Shared) (f : Flow) (s₂ : Shared) : Prop :=
  f = .next ∧ ∃ h' tk' m' news' te to, s₂ = { s with heap := h', toks := tk' } ∧ Fr h₀ L h' m' ∧ News h₀ L h' news' ∧ (∀ p ∈ led, p ∈ news') ∧ m' y₁ = some (.int e te) ∧ m' y₂ = some (.int o to) ∧
    ∀ z, z ≠ y₁ → z ≠ y₂ → stored.contains z = false → m' z = m₀ z
abbrev pairMap (y₁ y₂ : Str) (stored : List Str) (m₀ u : Str → Option Value) (e o : Int) (te to : Tok) : Str → Option Value :=
  fun z => if z = y₁ then some (.int e te) else if z = y₂ then some (.int o to) else if stored.contains z then u z else m₀ z
theorem pairMap_eq {y₁ y₂ : Str} {stored : List Str} {m₀ m : Str → Option Value} {e o : Int} {te to : Tok} (h1 : m y₁ = some (.int e te)) (h2 : m y₂ = some (.int o to)) (h3 : ∀ z, z ≠ y₁ → z ≠ y₂ → stored.contains z = false → m z = m₀ z) :
    pairMap y₁ y₂ stored m₀ m e o te to = m := by
  funext z
  show (if z = y₁ then _ else _) = _
  by_cases a : z = y₁
  · rw [if_pos a, a]; exact h1.symm
  · rw [if_neg a]
    by_cases b : z = y₂
    · rw [if_pos b, b]; exact h2.symm
    · rw [if_neg b]
      cases c : stored.contains z with
      | true => simp
      | false => simp only [Bool.false_eq_true, if_false]; exact (h3 z a b c).symm
theorem pair_of {news : List (Addr × Obj)} {v : Value} {p : Int × Int} (h : DatIn news v (dat p)) : ∃ T t1 t2 nt, v = .ref T ∧ (T, ({ cls := .type "tuple", data := .seq [Value.int p.1 t1, Value.int p.2 t2].toArray nt } : Obj)) ∈ news := by
  cases h with
  | tuple hm ha =>
    cases ha with
    | cons h1 ha =>
      cases h1 with
      | int _ t1 =>
        cases ha with
        | cons h2 ha =>
          cases h2 with
          | int _ t2 =>
            cases ha
            exact ⟨_, t1, t2, _, rfl, hm⟩

set_option maxHeartbeats 3200000 in
theorem iter_pairs {l : Addr} {vs : List Value} {ps : List (Int × Int)} {nn : Nat} {m₀ : Str → Option Value} {news : List (Addr × Obj)} {y₁ y₂ : Str} (stored : List Str) (fe fo : Int → Int × Int → Int) {e₀ o₀ : Int} {te₀ to₀ : Tok}
    (hh : A.handled = none) (hl : (l, listOf vs.toArray nn) ∈ news) (hd : DatAll news vs (ps.map dat)) (F : Fr h₀ env.locals s.heap m₀) (N : News h₀ env.locals s.heap news) (h1 : m₀ y₁ = some (.int e₀ te₀)) (h2 : m₀ y₂ = some (.int o₀ to₀))
    (turn : ∀ p ∈ ps, ∀ e o te to (u : Str → Option Value) T t1 t2 nt h tk own, (T, ({ cls := .type "tuple", data := .seq [Value.int p.1 t1, Value.int p.2 t2].toArray nt } : Obj)) ∈ news →
      Fr h₀ env.locals h (pairMap y₁ y₂ stored m₀ u e o te to) → News h₀ env.locals h (news ++ own) →
      wpAny (model prog w) A (assign target env (.ref T)) (fun _ s₃ => wpAny (model prog w) A (execs body env) (PairPost h₀ env.locals y₁ y₂ stored m₀ (news ++ own) (fe e p) (fo o p) s) E s₃) E { s with heap := h, toks := tk })
    (done : ∀ te to (u : Str → Option Value) h tk, Fr h₀ env.locals h (pairMap y₁ y₂ stored m₀ u (ps.foldl fe e₀) (ps.foldl fo o₀) te to) → News h₀ env.locals h news → Q .next { s with heap := h, toks := tk }) :
    wpAny (model prog w) A (pyIter (.ref l)) (fun it s₂ => TurnsAt prog w A h₀ env target body Q E it s₂) E s := by
  have hol : s.heap.get? l = some (listOf vs.toArray nn) := (N _ hl).1
  have hls : s.heap.IsList l vs.toArray := ⟨_, hol, rfl, nn, rfl⟩
  have hne : l ≠ s.heap.objs.size := Nat.ne_of_lt (Heap.lt_size hol)
  refine wpAny_pyIter_list hls ?_
  have W := Walks.list (prog := prog) (w := w) hh s.heap.objs.size l hne vs.toArray
  have hlen : vs.toArray.size = ps.length := by rw [List.size_toArray, hd.length, List.length_map]
  rw [hlen] at W
  refine ⟨_, _, _, ps.length, _, _, _, m₀, news, (fun i m nx => nx = news ∧ ∃ te to, m y₁ = some (.int ((ps.take i).foldl fe e₀) te) ∧ m y₂ = some (.int ((ps.take i).foldl fo o₀) to) ∧ ∀ z, z ≠ y₁ → z ≠ y₂ → stored.contains z = false → m z = m₀ z), rfl,
    KTurns.ofWalks W (fun i v s Q E st q => letGo_listiter st.1 q), ?_, ?_, ?_, ⟨⟨_, Heap.get?_push_size _ rfl, rfl, rfl⟩, hls.at fun o e => Heap.get?_push_of_some _ e⟩, F.push _, (fun p hp => ⟨Heap.get?_push_of_some _ (N p hp).1, (N p hp).2⟩), ⟨rfl, te₀, to₀, h1, h2, fun _ _ _ _ => rfl⟩, ?_, ?_⟩
  · intro hm
    rcases List.mem_cons.mp hm with e | hm
    · exact absurd F.ns.lt (e ▸ Nat.lt_irrefl _)
    · exact (N _ hl).2.1 ((List.mem_singleton.mp hm).symm)
  · intro b hb
    rw [List.mem_singleton.mp hb]
    exact next_is_new F
  · intro p hp hI
    exact absurd (Heap.lt_size (N p hp).1) ((List.mem_singleton.mp hI) ▸ Nat.lt_irrefl _)
  · rintro i v m₁ nx hh' tk' own hin hP ⟨rfl, te, to, g1, g2, g3⟩ hoff hown hget hfp hst F₁ N₁
    have hP' : vs[i]? = some v := by simpa using hP
    obtain ⟨v', hv', hD⟩ := hd.get (k := i) (by rw [List.length_map]; exact hin)
    have ev : v' = v := by rw [hP'] at hv'; exact (Option.some.inj hv').symm
    subst ev
    rw [List.getElem_map] at hD
    obtain ⟨T, t1, t2, nt, rfl, hT⟩ := pair_of hD
    rw [← pairMap_eq g1 g2 g3] at F₁
    have N₂ : News h₀ env.locals hh' (nx ++ own) := fun p hp => N₁ p ((List.mem_append.mp hp).elim (fun h => List.mem_append.mpr (.inr h)) fun h => List.mem_append.mpr (.inl h))
    have hs : ps.take (i + 1) = ps.take i ++ [ps[i]'hin] := by rw [List.take_add_one, List.getElem?_eq_getElem hin] <;> rfl
    refine wpAny_mono (turn _ (List.getElem_mem hin) _ _ te to m₁ T t1 t2 nt hh' tk' own hT F₁ N₂) (fun _ s₃ q => wpAny_mono q (fun f s₄ p => ?_) fun _ _ e => e) fun _ _ e => e
    obtain ⟨rfl, h', tk₂, m', news', te', to', rfl, F', N', hsub, k1, k2, k3⟩ := p
    refine ⟨rfl, h', tk₂, m', nx, rfl, F', fun p hp => N' p (hsub p ((List.mem_append.mp hp).elim (fun h => List.mem_append.mpr (.inr h)) fun h => List.mem_append.mpr (.inl h))), hoff, rfl, te', to', ?_, ?_, k3⟩
    · rw [hs, List.foldl_append]; exact k1
    · rw [hs, List.foldl_append]; exact k2
  · rintro h' tk m' news' F' N' _ ⟨rfl, te, to, g1, g2, g3⟩
    rw [List.take_length] at g1 g2
    rw [← pairMap_eq g1 g2 g3] at F'
    exact done te to m' h' tk F' N'
end
end Mine
end

section
open PySem PySem.W PyProof.Rows PySem.Calls PySem.Spec PyProof.V
set_option maxRecDepth 100000
namespace Mine
section
variable {prog : Program} {w : World} {A : Around} {E : Value → Shared → Prop} {s : Shared} {env : Env} {h₀ : Heap} {x : Str} {body : List Stmt} {Q : Flow → Shared → Prop}
/-- what a turn that grows the list at a leaves -/
def GrowPost (h₀ : Heap) (L : Addr) (x : Str) (stored : List Str) (m₀ : Str → Option Value) (a : Addr) (led : List (Addr × Obj)) (ns : List Int) (s : Shared) (f : Flow) (s₂ : Shared) : Prop :=
  f = .next ∧ ∃ h' tk' m' news' vs' n', s₂ = { s with heap := h', toks := tk' } ∧ Fr h₀ L h' m' ∧ News h₀ L h' news' ∧ (∀ p ∈ led, p ∈ news') ∧ (a, listOf (List.toArray vs') n') ∈ news' ∧ IntsAre vs' ns ∧
    ∀ z, z ≠ x → stored.contains z = false → m' z = m₀ z
abbrev growMap (x : Str) (stored : List Str) (m₀ u : Str → Option Value) (v : Option Value) : Str → Option Value :=
  fun z => if z = x then v else if stored.contains z then u z else m₀ z
theorem growMap_eq {x : Str} {stored : List Str} {m₀ m : Str → Option Value} {v : Option Value} (h3 : ∀ z, z ≠ x → stored.contains z = false → m z = m₀ z) :
    growMap x stored m₀ m v = fun z => if z = x then v else m z := by
  funext z
  show (if z = x then _ else _) = (if z = x then _ else _)
  by_cases a : z = x
  · rw [if_pos a, if_pos a]
  · rw [if_neg a, if_neg a]
    cases c : stored.contains z with
    | true => simp
    | false => simp only [Bool.false_eq_true, if_false]; exact (h3 z a c).symm

set_option maxHeartbeats 3200000 in
theorem iter_grow {l a : Addr} {ws vs₀ : List Value} {rs ns₀ : List Int} {nn n₀ : Nat} {m₀ : Str → Option Value} {rest : List (Addr × Obj)} (stored : List Str) (g : Int → List Int)
    (hh : A.handled = none) (hl : (l, listOf ws.toArray nn) ∈ rest) (hi : IntsAre ws rs) (F : Fr h₀ env.locals s.heap m₀) (N : News h₀ env.locals s.heap ((a, listOf vs₀.toArray n₀) :: rest)) (hv : IntsAre vs₀ ns₀)
    (hne : ∀ p ∈ rest, p.1 ≠ a) (hb : ∀ i, i ≤ rs.length → (ns₀ ++ (rs.take i).flatMap g).length ≤ 4096)
    (turn : ∀ r ∈ rs, ∀ vs ns n t (u : Str → Option Value) h tk own, ns.length ≤ 4096 → IntsAre vs ns → (∀ p ∈ rest ++ own, p.1 ≠ a) →
      Fr h₀ env.locals h (growMap x stored m₀ u (some (.int r t))) → News h₀ env.locals h ((a, listOf (List.toArray vs) n) :: (rest ++ own)) →
      wpAny (model prog w) A (execs body env) (GrowPost h₀ env.locals x stored m₀ a (rest ++ own) (ns ++ g r) s) E { s with heap := h, toks := tk })
    (done : ∀ vs n (u : Str → Option Value) v h tk, IntsAre vs (ns₀ ++ rs.flatMap g) → Fr h₀ env.locals h (growMap x stored m₀ u v) → News h₀ env.locals h ((a, listOf (List.toArray vs) n) :: rest) → Q .next { s with heap := h, toks := tk }) :
    wpAny (model prog w) A (pyIter (.ref l)) (fun it s₂ => LoopAtV prog w A h₀ env x body Q E it s₂) E s := by
  refine kdl_iter (fun i m nx => ∃ vs n, nx = (a, listOf (List.toArray vs) n) :: rest ∧ IntsAre vs (ns₀ ++ (rs.take i).flatMap g) ∧ ∀ z, z ≠ x → stored.contains z = false → m z = m₀ z) hh (List.mem_cons_of_mem _ hl) F N
    ⟨vs₀, n₀, rfl, by simpa using hv, fun _ _ _ => rfl⟩ ?_ ?_
  · rintro i v m₁ nx h tk own hv' hoff _ ⟨vs, n, rfl, hI, hz⟩ F₁ N₁
    have hin : i < rs.length := by rw [← hi.length]; exact (List.getElem?_eq_some_iff.mp hv').1
    obtain ⟨t, hx⟩ := hi.get i (rs[i]'hin) (List.getElem?_eq_getElem hin)
    have ev : v = .int (rs[i]'hin) t := by rw [hx] at hv'; exact (Option.some.inj hv').symm
    subst ev
    rw [← growMap_eq (x := x) (v := some (.int (rs[i]'hin) t)) hz] at F₁
    have ha : ∀ p ∈ own, p.1 ≠ a := fun p hp => hoff p hp a (List.Mem.head _)
    refine wpAny_mono (turn _ (List.getElem_mem hin) vs _ n t m₁ h tk own (hb i (Nat.le_of_lt hin)) hI (fun p hp => (List.mem_append.mp hp).elim (hne p) (ha p)) F₁ N₁) (fun f s₂ p => ?_) fun _ _ e => e
    obtain ⟨rfl, h', tk', m', news', vs', n', rfl, F', N', hsub, hm, hI', hz'⟩ := p
    have hs : (rs.take (i + 1)).flatMap g = (rs.take i).flatMap g ++ g (rs[i]'hin) := by
      have e : rs.take (i + 1) = rs.take i ++ [rs[i]'hin] := by rw [List.take_add_one, List.getElem?_eq_getElem hin] <;> rfl
      rw [e, List.flatMap_append]
      simp
    refine ⟨h', tk', m', news', (a, listOf vs'.toArray n') :: rest, rfl, F', N', ?_, fun p hp => hsub p (List.mem_append.mpr (.inr hp)), ?_, List.mem_cons_of_mem _ hl, vs', n', rfl, ?_, hz'⟩
    · intro p hp
      rcases List.mem_cons.mp hp with rfl | hp
      · exact hm
      · exact hsub p (List.mem_append.mpr (.inl hp))
    · intro p hp b hb'
      rcases List.mem_cons.mp hb' with rfl | hb'
      · exact ha p hp
      · exact hoff p hp b (List.mem_cons_of_mem _ hb')
    · rw [hs, ← List.append_assoc]; exact hI'
  · rintro m₁ nx h tk ⟨vs, n, rfl, hI, hz⟩ F₁ N₁
    rw [hi.length, List.take_length] at hI
    refine done vs n m₁ (m₁ x) h tk hI ?_ N₁
    rw [growMap_eq hz]
    have : (fun z => if z = x then m₁ x else m₁ z) = m₁ := by
      funext z
      by_cases c : z = x
      · rw [if_pos c, c]
      · rw [if_neg c]
    rw [this]; exact F₁
end
end Mine
end

section
open PySem PySem.W PyProof.Rows PySem.Calls PySem.Spec PyProof.V
set_option maxRecDepth 100000
namespace Mine
def fe (r : Int) (e : Int) (p : Int × Int) : Int := if Int.fmod p.1 2 = 0 then e + p.2 * (r ^ (Int.fdiv p.1 2).toNat % 3329) else e
def fo (r : Int) (o : Int) (p : Int × Int) : Int := if Int.fmod p.1 2 = 0 then o else o + p.2 * (r ^ (Int.fdiv p.1 2).toNat % 3329)
def wantAt (ps : List (Int × Int)) (r : Int) : List Int := [Int.fmod (ps.foldl (fe r) 0) 3329, Int.fmod (ps.foldl (fo r) 0) 3329]
def wantL (ps : List (Int × Int)) : List Int := rootsL.flatMap (wantAt ps)
theorem want_len (ps : List (Int × Int)) : ∀ rs : List Int, (rs.flatMap (wantAt ps)).length = 2 * rs.length
  | [] => rfl
  | r :: rs => by
    rw [List.flatMap_cons, List.length_append, want_len ps rs, List.length_cons]
    show 2 + _ = _
    omega
theorem want_bound (ps : List (Int × Int)) : ∀ i, i ≤ rootsL.length → ([] ++ (rootsL.take i).flatMap (wantAt ps)).length ≤ 4096 := by
  intro i hi
  rw [List.nil_append, want_len, List.length_take]
  have := roots_len
  omega
section
variable {prog : Program} {w : World} {A : Around} {E : Value → Shared → Prop} {s : Shared} {env : Env} {h₀ : Heap} {target : Expr} {body : List Stmt} {Q : Flow → Shared → Prop}
theorem iter_terms {l : Addr} {vs : List Value} {ps : List (Int × Int)} {nn : Nat} {m₀ : Str → Option Value} {news : List (Addr × Obj)} {te₀ to₀ tr : Tok} {r : Int}
    (hh : A.handled = none) (hl : (l, listOf vs.toArray nn) ∈ news) (hd : DatAll news vs (ps.map dat)) (F : Fr h₀ env.locals s.heap m₀) (N : News h₀ env.locals s.heap news)
    (hr : m₀ (Str.ofString "r") = some (.int r tr)) (h1 : m₀ (Str.ofString "even") = some (.int 0 te₀)) (h2 : m₀ (Str.ofString "odd") = some (.int 0 to₀))
    (turn : ∀ p ∈ ps, ∀ e o te to (u : Str → Option Value) T t1 t2 nt h tk own, (T, ({ cls := .type "tuple", data := .seq [Value.int p.1 t1, Value.int p.2 t2].toArray nt } : Obj)) ∈ news →
      Fr h₀ env.locals h (pairMap (Str.ofString "even") (Str.ofString "odd") [Str.ofString "place", Str.ofString "number"] m₀ u e o te to) → News h₀ env.locals h (news ++ own) →
      wpAny (model prog w) A (assign target env (.ref T)) (fun _ s₃ => wpAny (model prog w) A (execs body env) (PairPost h₀ env.locals (Str.ofString "even") (Str.ofString "odd") [Str.ofString "place", Str.ofString "number"] m₀ (news ++ own) (fe r e p) (fo r o p) s) E s₃) E { s with heap := h, toks := tk })
    (done : ∀ te to (u : Str → Option Value) h tk, Fr h₀ env.locals h (pairMap (Str.ofString "even") (Str.ofString "odd") [Str.ofString "place", Str.ofString "number"] m₀ u (ps.foldl (fe r) 0) (ps.foldl (fo r) 0) te to) → News h₀ env.locals h news → Q .next { s with heap := h, toks := tk }) :
    wpAny (model prog w) A (pyIter (.ref l)) (fun it s₂ => TurnsAt prog w A h₀ env target body Q E it s₂) E s :=
  iter_pairs [Str.ofString "place", Str.ofString "number"] (fe r) (fo r) hh hl hd F N h1 h2 turn done
end
end Mine
namespace Mine
theorem fdiv2 {a : Int} (h : 0 ≤ a) : 0 ≤ Int.fdiv a 2 := Int.fdiv_nonneg h (by decide)
end Mine
end

section
open PySem PySem.W PyProof.Rows PySem.Calls PySem.Spec PyProof.V
set_option maxRecDepth 100000
namespace Mine
theorem fe_pos {r e : Int} {p : Int × Int} (h : Int.fmod p.1 2 = 0) : e + p.2 * (r ^ (Int.fdiv p.1 2).toNat % 3329) = fe r e p := (if_pos h).symm
theorem fe_neg {r e : Int} {p : Int × Int} (h : Int.fmod p.1 2 ≠ 0) : e = fe r e p := (if_neg h).symm
theorem fo_pos {r e : Int} {p : Int × Int} (h : Int.fmod p.1 2 = 0) : e = fo r e p := (if_pos h).symm
theorem fo_neg {r e : Int} {p : Int × Int} (h : Int.fmod p.1 2 ≠ 0) : e + p.2 * (r ^ (Int.fdiv p.1 2).toNat % 3329) = fo r e p := (if_neg h).symm
theorem some_int {a b : Int} (t : Tok) (h : a = b) : some (Value.int a t) = some (Value.int b t) := by rw [h]
theorem off2 {a b z : Str} (h : [a, b].contains z = false) : z ≠ a ∧ z ≠ b := by
  simpa [List.contains_cons] using h
theorem off4 {a b c d z : Str} (h : [a, b, c, d].contains z = false) : z ≠ a ∧ z ≠ b ∧ z ≠ c ∧ z ≠ d := by
  simpa [List.contains_cons] using h
theorem mem_push2 {a : Addr} {vs : List Value} {x y : Value} {n : Nat} {rest : List (Addr × Obj)} : (a, listOf (vs ++ [x, y]).toArray n) ∈ (a, listOf ((vs.toArray.push x).push y) n) :: rest := by
  have : (vs.toArray.push x).push y = (vs ++ [x, y]).toArray := by simp
  rw [this]
  exact List.Mem.head _
theorem ints_two {vs : List Value} {ns : List Int} {a b : Int} (t u : Tok) (h : IntsAre vs ns) : IntsAre (vs ++ [.int a t, .int b u]) (ns ++ [a, b]) := by
  induction h with
  | nil => exact .cons _ _ (.cons _ _ .nil)
  | cons n t _ ih => exact .cons n t ih
end Mine
end

section
open PySem PySem.W PyProof.Rows PySem.Calls
set_option maxRecDepth 100000
namespace Mine
section
variable {prog : Program} {w : World} {A A₀ : Around} {E : Value → Shared → Prop} {s : Shared} {K : Frag} {C L : Addr} {h₀ base : Heap} {m mg mb : Str → Option Value} {news : List (Addr × Obj)} {p : Program} {loose : List Str} {Q : Value → Shared → Prop}
/-- a plain def is entered, of the top only what is read -/
theorem enterR {env : Env} {outer : List Env} {R : Result → Shared → Prop} {name qual : Str} {params : Arguments} {body : List Stmt} {scope : Scope} {dV kV doc pm cdv ct oc : Value} {an od : Option Addr} {osl : Array (Option Value)} {f : Addr} {args : Args} {binds : List (Str × Value)}
    (B : Below A₀ base outer h₀) (F : Fr h₀ L s.heap m) (X₀ : K.In h₀) (N : News h₀ L s.heap news) (T : TopRead p loose mg mb h₀) (hA : A.frames = some (env :: outer)) (hf : env.frame = some L) (hke : env.scope.kind = .function)
    (ho : K.lookup f = some ⟨oc, od, .func (fnOf name qual params body scope dV kV doc pm an cdv ct), osl⟩) (hcd : codeIn K cdv qual = true) (hroom : A.depth < recursionLimit)
    (hbind : BindsTo s (fnOf name qual params body scope dV kV doc pm an cdv ct) args binds) (hloc : ∀ y ∈ binds, scope.names.lookup y.1 = some .local)
    (h : ∀ g L' h₁, Fr h₀ L g m → Fr g L' h₁ (fun y => binds.reverse.lookup y) → News g L' h₁ news → Below A base (env :: outer) g → K.In g → TopRead p loose mg mb g → (∀ p ∈ news, p.1 < L') →
      wpAny (model prog w) (A.deeper (envOf qual scope L' f cdv)) (execs body (envOf qual scope L' f cdv))
        (fun fl s' => LeaveK h₀ L m g R (match fl with | .ret v => v | _ => .none) s')
        (fun e s' => wpAny (model prog w) (A.deeper (envOf qual scope L' f cdv)) (leaving (envOf qual scope L' f cdv) e) (fun _ s'' => R (.error e) s'') (fun e' s'' => R (.error e') s'') s')
        { s with heap := h₁, toks := s.toks + binds.length })
    (hco : scope.isCoroutine = false) (hgen : scope.isGenerator = false) (hk : scope.kind = .function)
    (hcell : ∀ x ∈ scope.names, x.2 ≠ .cell) : codeAny (model prog w) A (.call (.ref f) args) R s :=
  callX_plain (cl := []) B F N T.nolimit hA hf hke ((X₀.keeps F.keep) _ _ ho) rfl (codeRec_of (X₀.keeps F.keep) hcd) hroom hbind hloc (fun g L' h₁ FG F' N' B' st l => h g L' h₁ FG F' N' B' (X₀.keeps st) (T.keeps st) l) hcell hco hgen hk
end
end Mine
end

section
namespace Mine
/-! ## what to_ntt computes, in plain lists of ints -/
def zetaL : List Int := (List.range 128).map fun k => (17 : Int) ^ br7 k % 3329
def bstep (a : List Int) (z : Int) (j l : Nat) : List Int :=
  let t := z * a.getD (j + l) 0
  let b := a.set (j + l) (a.getD j 0 - t)
  b.set j (b.getD j 0 + t)
/-- n steps from the place s on -/
def bfly (a : List Int) (z : Int) (s l : Nat) : Nat → List Int
  | 0 => a
  | n + 1 => bstep (bfly a z s l n) z (s + n) l
/-- n blocks of the layer i (of length 2 ^ (7 - i)) -/
def blk (a : List Int) (i : Nat) : Nat → List Int
  | 0 => a
  | n + 1 => bfly (blk a i n) (zetaL.getD (2 ^ i + n) 0) (2 * 2 ^ (7 - i) * n) (2 ^ (7 - i)) (2 ^ (7 - i))
def layer (a : List Int) : Nat → List Int
  | 0 => a
  | i + 1 => blk (layer a i) i (2 ^ i)
def nttL (a : List Int) : List Int := (layer a 7).map fun c => Int.fmod c 3329
theorem bstep_len (a : List Int) (z : Int) (j l : Nat) : (bstep a z j l).length = a.length := by simp [bstep]
theorem bfly_len (a : List Int) (z : Int) (s l : Nat) : ∀ n, (bfly a z s l n).length = a.length
  | 0 => rfl
  | n + 1 => (bstep_len _ _ _ _).trans (bfly_len a z s l n)
theorem blk_len (a : List Int) (i : Nat) : ∀ n, (blk a i n).length = a.length
  | 0 => rfl
  | n + 1 => (bfly_len _ _ _ _ _).trans (blk_len a i n)
theorem layer_len (a : List Int) : ∀ i, (layer a i).length = a.length
  | 0 => rfl
  | i + 1 => (blk_len _ _ _).trans (layer_len a i)
theorem rowOf_len (ps : List (Int × Int)) : (rowOf ps).length = 256 := by
  unfold rowOf
  have : ∀ (ps : List (Int × Int)) (row : List Int), (ps.foldl addAt row).length = row.length := by
    intro ps
    induction ps with
    | nil => intro row; rfl
    | cons p ps ih => intro row; rw [List.foldl_cons, ih]; simp [addAt]
  rw [this]
  exact List.length_replicate
end Mine
end

section
namespace Mine
/-! ## the plain law, 1: congruence mod 3329, and the halves of a remainder -/
def Cg (x y : Int) : Prop := (3329 : Int) ∣ x - y
theorem Cg.refl (x : Int) : Cg x x := ⟨0, by omega⟩
theorem Cg.symm {x y : Int} (h : Cg x y) : Cg y x := by
  obtain ⟨k, h⟩ := h
  exact ⟨-k, by omega⟩
theorem Cg.trans {x y z : Int} (h : Cg x y) (h' : Cg y z) : Cg x z := by
  obtain ⟨k, h⟩ := h
  obtain ⟨k', h'⟩ := h'
  exact ⟨k + k', by omega⟩
theorem Cg.add {x y u v : Int} (h : Cg x y) (h' : Cg u v) : Cg (x + u) (y + v) := by
  obtain ⟨k, h⟩ := h
  obtain ⟨k', h'⟩ := h'
  exact ⟨k + k', by omega⟩
theorem Cg.sub {x y u v : Int} (h : Cg x y) (h' : Cg u v) : Cg (x - u) (y - v) := by
  obtain ⟨k, h⟩ := h
  obtain ⟨k', h'⟩ := h'
  exact ⟨k - k', by omega⟩
theorem Cg.mul {x y u v : Int} (h : Cg x y) (h' : Cg u v) : Cg (x * u) (y * v) := by
  obtain ⟨k, h⟩ := h
  obtain ⟨k', h'⟩ := h'
  refine ⟨k * u + y * k', ?_⟩
  have e1 : x = y + 3329 * k := by omega
  have e2 : u = v + 3329 * k' := by omega
  subst e1
  subst e2
  grind
theorem Cg.pow {x y : Int} (h : Cg x y) : ∀ n : Nat, Cg (x ^ n) (y ^ n)
  | 0 => by simp only [Int.pow_zero]; exact Cg.refl _
  | n + 1 => by rw [Int.pow_succ, Int.pow_succ]; exact (Cg.pow h n).mul h
theorem Cg.emod (x : Int) : Cg (x % 3329) x := ⟨-(x / 3329), by omega⟩
theorem Cg.fmod_eq {x y : Int} (h : Cg x y) : Int.fmod x 3329 = Int.fmod y 3329 := by
  obtain ⟨k, h⟩ := h
  rw [Int.fmod_eq_emod_of_nonneg _ (by decide), Int.fmod_eq_emod_of_nonneg _ (by decide)]
  omega

/-- sum of a (i + l * m) * r ^ m for m < n -/
def hs (a : Nat → Int) (l : Nat) (r : Int) (i : Nat) : Nat → Int
  | 0 => 0
  | n + 1 => hs a l r i n + a (i + l * n) * r ^ n
theorem hs_cong (a : Nat → Int) (l : Nat) {r r' : Int} (h : Cg r r') (i : Nat) : ∀ n, Cg (hs a l r i n) (hs a l r' i n)
  | 0 => Cg.refl _
  | n + 1 => (hs_cong a l h i n).add ((Cg.refl _).mul (h.pow n))
theorem hs_split (a : Nat → Int) (l : Nat) (z : Int) (i : Nat) : ∀ n, hs a (2 * l) (z ^ 2) i n + z * hs a (2 * l) (z ^ 2) (i + l) n = hs a l z i (2 * n)
  | 0 => by simp [hs]
  | n + 1 => by
    have ih := hs_split a l z i n
    have e : 2 * (n + 1) = 2 * n + 1 + 1 := by omega
    rw [e]
    show hs a (2 * l) (z ^ 2) i n + a (i + 2 * l * n) * (z ^ 2) ^ n + z * (hs a (2 * l) (z ^ 2) (i + l) n + a (i + l + 2 * l * n) * (z ^ 2) ^ n) = hs a l z i (2 * n) + a (i + l * (2 * n)) * z ^ (2 * n) + a (i + l * (2 * n + 1)) * z ^ (2 * n + 1)
    have e1 : i + 2 * l * n = i + l * (2 * n) := by grind
    have e2 : i + l + 2 * l * n = i + l * (2 * n + 1) := by grind
    have e3 : (z ^ 2) ^ n = z ^ (2 * n) := Int.pow_mul.symm
    rw [e1, e2, e3, ← ih, Int.pow_succ]
    grind
end Mine
end

section
namespace Mine
/-! ## the plain law, 2: what the butterflies leave at each place -/
theorem getD_set {a : List Int} {j p : Nat} {v : Int} (hj : j < a.length) : (a.set j v).getD p 0 = if p = j then v else a.getD p 0 := by
  rw [List.getD_eq_getElem?_getD, List.getD_eq_getElem?_getD, List.getElem?_set]
  by_cases h : j = p
  · subst h; simp [hj]
  · have h' : p ≠ j := fun e => h e.symm
    simp [h, h']
theorem bstep_get {a : List Int} {z : Int} {j l p : Nat} (hl : 0 < l) (hj : j + l < a.length) :
    (bstep a z j l).getD p 0 = if p = j then a.getD j 0 + z * a.getD (j + l) 0 else if p = j + l then a.getD j 0 - z * a.getD (j + l) 0 else a.getD p 0 := by
  unfold bstep
  dsimp only
  rw [getD_set (by rw [List.length_set]; omega), getD_set hj, getD_set hj]
  have h1 : ¬ (j = j + l) := by omega
  rw [if_neg h1]
theorem bfly_get {a : List Int} {z : Int} {s l : Nat} (hl : 0 < l) (hs : s + 2 * l ≤ a.length) : ∀ n, n ≤ l → ∀ p,
    (bfly a z s l n).getD p 0 = if s ≤ p ∧ p < s + n then a.getD p 0 + z * a.getD (p + l) 0 else if s + l ≤ p ∧ p < s + l + n then a.getD (p - l) 0 - z * a.getD p 0 else a.getD p 0
  | 0, _, p => by
    show a.getD p 0 = _
    rw [if_neg (by omega), if_neg (by omega)]
  | n + 1, hn, p => by
    have ih := bfly_get (z := z) hl hs n (by omega)
    show (bstep (bfly a z s l n) z (s + n) l).getD p 0 = _
    rw [bstep_get hl (by rw [bfly_len]; omega), ih (s + n), ih (s + n + l), ih p]
    have c1 : ¬ (s ≤ s + n ∧ s + n < s + n) := by omega
    have c2 : ¬ (s + l ≤ s + n ∧ s + n < s + l + n) := by omega
    have c3 : ¬ (s ≤ s + n + l ∧ s + n + l < s + n) := by omega
    have c4 : ¬ (s + l ≤ s + n + l ∧ s + n + l < s + l + n) := by omega
    rw [if_neg c1, if_neg c2, if_neg c3, if_neg c4]
    by_cases h1 : p = s + n
    · subst h1
      rw [if_pos rfl, if_pos (by omega)]
    · rw [if_neg h1]
      by_cases h2 : p = s + n + l
      · subst h2
        rw [if_pos rfl, if_neg (by omega), if_pos (by omega)]
        have : s + n + l - l = s + n := by omega
        rw [this]
      · rw [if_neg h2]
        by_cases h3 : s ≤ p ∧ p < s + n
        · rw [if_pos h3, if_pos (by omega)]
        · rw [if_neg h3]
          by_cases h4 : s + l ≤ p ∧ p < s + l + n
          · rw [if_pos h4, if_neg (by omega), if_pos (by omega)]
          · rw [if_neg h4, if_neg (by omega), if_neg (by omega)]
/-- a block of length l at the start: what the pass with z leaves there -/
theorem pass_lo {a : List Int} {z : Int} {s l j : Nat} (hl : 0 < l) (hs : s + 2 * l ≤ a.length) (hj : j < l) : (bfly a z s l l).getD (s + j) 0 = a.getD (s + j) 0 + z * a.getD (s + j + l) 0 := by
  rw [bfly_get hl hs l (Nat.le_refl l), if_pos (by omega)]
theorem pass_hi {a : List Int} {z : Int} {s l j : Nat} (hl : 0 < l) (hs : s + 2 * l ≤ a.length) (hj : j < l) : (bfly a z s l l).getD (s + l + j) 0 = a.getD (s + j) 0 - z * a.getD (s + l + j) 0 := by
  rw [bfly_get hl hs l (Nat.le_refl l), if_neg (by omega), if_pos (by omega)]
  have : s + l + j - l = s + j := by omega
  rw [this]
theorem pass_off {a : List Int} {z : Int} {s l p : Nat} (hl : 0 < l) (hs : s + 2 * l ≤ a.length) (hp : p < s ∨ s + 2 * l ≤ p) : (bfly a z s l l).getD p 0 = a.getD p 0 := by
  rw [bfly_get hl hs l (Nat.le_refl l), if_neg (by omega), if_neg (by omega)]
end Mine
end

section
namespace Mine
/-! ## the plain law, 3: a whole layer -/
theorem blk_get {a : List Int} {i : Nat} (hi : i < 7) (ha : a.length = 256) : ∀ n, n ≤ 2 ^ i →
    (∀ B, B < n → ∀ j, j < 2 ^ (7 - i) → (blk a i n).getD (2 * 2 ^ (7 - i) * B + j) 0 = a.getD (2 * 2 ^ (7 - i) * B + j) 0 + zetaL.getD (2 ^ i + B) 0 * a.getD (2 * 2 ^ (7 - i) * B + j + 2 ^ (7 - i)) 0 ∧
      (blk a i n).getD (2 * 2 ^ (7 - i) * B + 2 ^ (7 - i) + j) 0 = a.getD (2 * 2 ^ (7 - i) * B + j) 0 - zetaL.getD (2 ^ i + B) 0 * a.getD (2 * 2 ^ (7 - i) * B + 2 ^ (7 - i) + j) 0) ∧
    (∀ p, 2 * 2 ^ (7 - i) * n ≤ p → (blk a i n).getD p 0 = a.getD p 0)
  | 0, _ => ⟨fun B h => absurd h (Nat.not_lt_zero _), fun _ _ => rfl⟩
  | n + 1, hn => by
    obtain ⟨ih1, ih2⟩ := blk_get hi ha n (by omega)
    have hl : 0 < 2 ^ (7 - i) := Nat.pow_pos (by decide)
    have htot : 2 * 2 ^ (7 - i) * 2 ^ i = 256 := by
      have : (2 : Nat) ^ (7 - i) * 2 ^ i = 2 ^ 7 := by rw [← Nat.pow_add]; congr 1; omega
      rw [Nat.mul_assoc, this]
    generalize hL : 2 ^ (7 - i) = l at *
    have hle : 2 * l * (n + 1) ≤ 256 := by rw [← htot]; exact Nat.mul_le_mul_left _ hn
    have hs1 : 2 * l * (n + 1) = 2 * l * n + 2 * l := Nat.mul_succ _ _
    have hfit : 2 * l * n + 2 * l ≤ (blk a i n).length := by rw [blk_len, ha]; omega
    have hdef : blk a i (n + 1) = bfly (blk a i n) (zetaL.getD (2 ^ i + n) 0) (2 * l * n) l l := by
      show bfly (blk a i n) (zetaL.getD (2 ^ i + n) 0) (2 * 2 ^ (7 - i) * n) (2 ^ (7 - i)) (2 ^ (7 - i)) = _
      rw [hL]
    rw [hdef]
    refine ⟨fun B hB j hj => ?_, fun p hp => ?_⟩
    · by_cases hBn : B = n
      · subst hBn
        rw [pass_lo hl hfit hj, pass_hi hl hfit hj, ih2 _ (by omega), ih2 _ (by omega), ih2 _ (by omega)]
        exact ⟨rfl, rfl⟩
      · have hBlt : B < n := by omega
        have hb : 2 * l * (B + 1) ≤ 2 * l * n := Nat.mul_le_mul_left _ (by omega)
        have hb1 : 2 * l * (B + 1) = 2 * l * B + 2 * l := Nat.mul_succ _ _
        rw [pass_off hl hfit (.inl (by omega)), pass_off hl hfit (.inl (by omega))]
        exact ih1 B hBlt j hj
    · rw [pass_off hl hfit (.inr (by omega))]
      exact ih2 p (by omega)
end Mine
end

section
set_option maxRecDepth 100000
namespace Mine
/-! ## the plain law, 4: all layers -/
/-- what X ^ l is in the block B behind i layers (l = 2 ^ (8 - i)) -/
def rho : Nat → Nat → Int
  | 0, _ => -1
  | i + 1, B => if B % 2 = 0 then zetaL.getD (2 ^ i + B / 2) 0 else -zetaL.getD (2 ^ i + B / 2) 0
theorem rho_table : ((List.range 7).all fun i => (List.range (2 ^ i)).all fun B => (rho i B - zetaL.getD (2 ^ i + B) 0 ^ 2) % 3329 == 0) = true := by decide +kernel
theorem rho_sq {i B : Nat} (hi : i < 7) (hB : B < 2 ^ i) : Cg (rho i B) (zetaL.getD (2 ^ i + B) 0 ^ 2) := by
  have h := List.all_eq_true.mp rho_table i (List.mem_range.mpr hi)
  have h' := List.all_eq_true.mp h B (List.mem_range.mpr hB)
  exact Int.dvd_of_emod_eq_zero (by simpa using h')
theorem layer_sum {a : List Int} (ha : a.length = 256) : ∀ i, i ≤ 7 → ∀ B, B < 2 ^ i → ∀ j, j < 2 ^ (8 - i) →
    Cg ((layer a i).getD (2 ^ (8 - i) * B + j) 0) (hs (fun p => a.getD p 0) (2 ^ (8 - i)) (rho i B) j (2 ^ i))
  | 0, _, B, hB, j, _ => by
    have hB0 : B = 0 := by omega
    subst hB0
    show Cg (a.getD (2 ^ 8 * 0 + j) 0) (0 + a.getD (j + 2 ^ 8 * 0) 0 * (-1) ^ 0)
    have e1 : 2 ^ 8 * 0 + j = j := by omega
    have e2 : j + 2 ^ 8 * 0 = j := by omega
    rw [e1, e2, Int.pow_zero, Int.mul_one, Int.zero_add]
    exact Cg.refl _
  | i + 1, hi, B', hB', j, hj => by
    have ih := layer_sum ha i (by omega)
    have hi' : i < 7 := by omega
    obtain ⟨hb, _⟩ := blk_get hi' (a := layer a i) (by rw [layer_len, ha]) (2 ^ i) (Nat.le_refl _)
    have e8 : 8 - (i + 1) = 7 - i := by omega
    have e9 : 2 ^ (8 - i) = 2 * 2 ^ (7 - i) := by rw [← Nat.pow_succ']; congr 1; omega
    have e10 : 2 ^ (i + 1) = 2 * 2 ^ i := Nat.pow_succ'
    rw [e8] at hj ⊢
    rw [e9] at ih
    rw [e10] at hB' ⊢
    show Cg ((blk (layer a i) i (2 ^ i)).getD (2 ^ (7 - i) * B' + j) 0) _
    generalize hL : 2 ^ (7 - i) = l at *
    have hBh : B' / 2 < 2 ^ i := by omega
    obtain ⟨lo, hi2⟩ := hb (B' / 2) hBh j hj
    have hsq := rho_sq hi' hBh
    have r0 : rho (i + 1) B' = if B' % 2 = 0 then zetaL.getD (2 ^ i + B' / 2) 0 else -zetaL.getD (2 ^ i + B' / 2) 0 := rfl
    rw [r0]
    generalize zetaL.getD (2 ^ i + B' / 2) 0 = z at *
    have hx := (ih (B' / 2) hBh j (by omega)).trans (hs_cong _ _ hsq j _)
    have hy := (ih (B' / 2) hBh (j + l) (by omega)).trans (hs_cong _ _ hsq (j + l) _)
    rcases Nat.mod_two_eq_zero_or_one B' with h2 | h2
    · rw [if_pos h2]
      have ei : l * B' + j = 2 * l * (B' / 2) + j := by
        have : B' = 2 * (B' / 2) := by omega
        conv => lhs; rw [this]
        grind
      rw [ei, lo, ← hs_split]
      have ej : 2 * l * (B' / 2) + j + l = 2 * l * (B' / 2) + (j + l) := by omega
      rw [ej]
      exact hx.add ((Cg.refl z).mul hy)
    · rw [if_neg (by omega)]
      have ei : l * B' + j = 2 * l * (B' / 2) + l + j := by
        have : B' = 2 * (B' / 2) + 1 := by omega
        conv => lhs; rw [this]
        grind
      rw [ei, hi2, ← hs_split]
      have en : (-z) ^ 2 = z ^ 2 := by grind
      have ej : 2 * l * (B' / 2) + l + j = 2 * l * (B' / 2) + (j + l) := by omega
      rw [ej, en, Int.neg_mul, ← Int.sub_eq_add_neg]
      exact hx.sub ((Cg.refl z).mul hy)
end Mine
end

section
set_option maxRecDepth 100000
namespace Mine
/-! ## the plain law, 5: the terms, and the law -/
theorem hs_zero (l : Nat) (r : Int) (i : Nat) : ∀ n, hs (fun p => (List.replicate 256 (0 : Int)).getD p 0) l r i n = 0
  | 0 => rfl
  | n + 1 => by
    show hs _ l r i n + (List.replicate 256 (0 : Int)).getD (i + l * n) 0 * r ^ n = 0
    have : (List.replicate 256 (0 : Int)).getD (i + l * n) 0 = 0 := by
      rw [List.getD_eq_getElem?_getD, List.getElem?_replicate]
      split <;> rfl
    rw [hs_zero l r i n, this, Int.zero_mul]; rfl
theorem hs_addAt {row : List Int} {p : Int × Int} {r : Int} {j : Nat} (hlen : row.length = 256) (h0 : 0 ≤ p.1) (h1 : p.1 < 256) (hj : j < 2) : ∀ n,
    hs (fun q => (addAt row p).getD q 0) 2 r j n = hs (fun q => row.getD q 0) 2 r j n + (if p.1.toNat % 2 = j ∧ p.1.toNat / 2 < n then p.2 * r ^ (p.1.toNat / 2) else 0)
  | 0 => by
    rw [if_neg (by omega)]; rfl
  | n + 1 => by
    have ih := hs_addAt (r := r) hlen h0 h1 hj n
    show hs (fun q => (addAt row p).getD q 0) 2 r j n + (addAt row p).getD (j + 2 * n) 0 * r ^ n = hs (fun q => row.getD q 0) 2 r j n + row.getD (j + 2 * n) 0 * r ^ n + _
    rw [ih]
    have hg : (addAt row p).getD (j + 2 * n) 0 = if j + 2 * n = p.1.toNat then row.getD p.1.toNat 0 + p.2 else row.getD (j + 2 * n) 0 := getD_set (by omega)
    rw [hg]
    by_cases h : j + 2 * n = p.1.toNat
    · have e : p.1.toNat / 2 = n := by omega
      rw [if_pos h, if_neg (by omega), if_pos (by omega), e, h]
      grind
    · rw [if_neg h]
      by_cases h2 : p.1.toNat % 2 = j ∧ p.1.toNat / 2 < n
      · rw [if_pos h2, if_pos (by omega)]
        omega
      · rw [if_neg h2, if_neg (by omega)]
        omega
theorem fdiv_nat {x : Int} (h : 0 ≤ x) : (Int.fdiv x 2).toNat = x.toNat / 2 := by
  rw [Int.fdiv_eq_ediv_of_nonneg _ (by decide)]; omega
theorem fmod_nat {x : Int} (h : 0 ≤ x) : Int.fmod x 2 = 0 ↔ x.toNat % 2 = 0 := by
  rw [Int.fmod_eq_emod_of_nonneg _ (by decide)]; omega
theorem even_sum (r : Int) : ∀ (ps : List (Int × Int)) (row : List Int) (e : Int), row.length = 256 → (∀ p ∈ ps, 0 ≤ p.1 ∧ p.1 < 256) → Cg (hs (fun q => row.getD q 0) 2 r 0 128) e →
    Cg (hs (fun q => (ps.foldl addAt row).getD q 0) 2 r 0 128) (ps.foldl (fe r) e)
  | [], _, _, _, _, h => h
  | p :: ps, row, e, hl, hp, h => by
    have h0 := hp p (List.Mem.head _)
    refine even_sum r ps (addAt row p) (fe r e p) (by simp [addAt, hl]) (fun q hq => hp q (List.mem_cons_of_mem _ hq)) ?_
    rw [hs_addAt hl h0.1 h0.2 (by decide)]
    unfold fe
    rw [fdiv_nat h0.1]
    by_cases c : p.1.toNat % 2 = 0
    · rw [if_pos (by omega), if_pos ((fmod_nat h0.1).mpr c)]
      exact h.add ((Cg.refl _).mul (Cg.emod _).symm)
    · rw [if_neg (by omega), if_neg (fun x => c ((fmod_nat h0.1).mp x)), Int.add_zero]
      exact h
theorem odd_sum (r : Int) : ∀ (ps : List (Int × Int)) (row : List Int) (e : Int), row.length = 256 → (∀ p ∈ ps, 0 ≤ p.1 ∧ p.1 < 256) → Cg (hs (fun q => row.getD q 0) 2 r 1 128) e →
    Cg (hs (fun q => (ps.foldl addAt row).getD q 0) 2 r 1 128) (ps.foldl (fo r) e)
  | [], _, _, _, _, h => h
  | p :: ps, row, e, hl, hp, h => by
    have h0 := hp p (List.Mem.head _)
    refine odd_sum r ps (addAt row p) (fo r e p) (by simp [addAt, hl]) (fun q hq => hp q (List.mem_cons_of_mem _ hq)) ?_
    rw [hs_addAt hl h0.1 h0.2 (by decide)]
    unfold fo
    rw [fdiv_nat h0.1]
    by_cases c : p.1.toNat % 2 = 0
    · rw [if_neg (by omega), if_pos ((fmod_nat h0.1).mpr c), Int.add_zero]
      exact h
    · rw [if_pos (by omega), if_neg (fun x => c ((fmod_nat h0.1).mp x))]
      exact h.add ((Cg.refl _).mul (Cg.emod _).symm)
theorem root_table : ((List.range 128).all fun B => (rho 7 B - rootsL.getD B 0) % 3329 == 0) = true := by decide +kernel
theorem root_is {B : Nat} (hB : B < 128) : Cg (rho 7 B) (rootsL.getD B 0) :=
  Int.dvd_of_emod_eq_zero (by simpa using List.all_eq_true.mp root_table B (List.mem_range.mpr hB))
theorem by_twos : ∀ (n : Nat) (L : List Int), L.length = 2 * n → L = (List.range n).flatMap fun B => [L.getD (2 * B) 0, L.getD (2 * B + 1) 0]
  | 0, L, h => by
    have : L = [] := List.eq_nil_of_length_eq_zero (by omega)
    subst this; rfl
  | n + 1, L, h => by
    match L, h with
    | x :: y :: L, h =>
      have ih := by_twos n L (by simp only [List.length_cons] at h; omega)
      rw [List.range_succ_eq_map, List.flatMap_cons, List.flatMap_map]
      show x :: y :: L = [x, y] ++ _
      conv => lhs; rw [ih]
      rfl
theorem roots_range : rootsL = (List.range 128).map fun B => rootsL.getD B 0 := by decide +kernel
theorem getD_map {L : List Int} {f : Int → Int} (h0 : f 0 = 0) (i : Nat) : (L.map f).getD i 0 = f (L.getD i 0) := by
  rw [List.getD_eq_getElem?_getD, List.getD_eq_getElem?_getD, List.getElem?_map]
  cases L[i]? with
  | none => exact h0.symm
  | some x => rfl
theorem flat_congr {f g : Nat → List Int} : ∀ {R : List Nat}, (∀ B ∈ R, f B = g B) → R.flatMap f = R.flatMap g
  | [], _ => rfl
  | B :: R, h => by rw [List.flatMap_cons, List.flatMap_cons, h B (List.Mem.head _), flat_congr fun b hb => h b (List.mem_cons_of_mem _ hb)]
/-- THE PLAIN LAW: what to_ntt leaves is the remainder at each root -/
theorem ntt_law {ps : List (Int × Int)} (hp : ∀ p ∈ ps, 0 ≤ p.1 ∧ p.1 < 256) : nttL (rowOf ps) = wantL ps := by
  have hlen : (nttL (rowOf ps)).length = 2 * 128 := by unfold nttL; rw [List.length_map, layer_len, rowOf_len]
  have hw : wantL ps = (List.range 128).flatMap fun B => wantAt ps (rootsL.getD B 0) := by
    unfold wantL
    conv => lhs; rw [roots_range]
    rw [List.flatMap_map]
  rw [hw]
  refine (by_twos 128 _ hlen).trans ?_
  have hc : ∀ B ∈ List.range 128, [(nttL (rowOf ps)).getD (2 * B) 0, (nttL (rowOf ps)).getD (2 * B + 1) 0] = wantAt ps (rootsL.getD B 0) := by
    intro B hB
    have hB := List.mem_range.mp hB
    have key : ∀ j, j < 2 → ∀ e, Cg (hs (fun q => (rowOf ps).getD q 0) 2 (rootsL.getD B 0) j 128) e → (nttL (rowOf ps)).getD (2 * B + j) 0 = Int.fmod e 3329 := by
      intro j hj e he
      unfold nttL
      rw [getD_map (by decide)]
      refine Cg.fmod_eq ?_
      have h := layer_sum (rowOf_len ps) 7 (Nat.le_refl _) B hB j hj
      exact (h.trans (hs_cong _ _ (root_is hB) j _)).trans he
    have z0 : ∀ j, Cg (hs (fun q => (List.replicate 256 (0 : Int)).getD q 0) 2 (rootsL.getD B 0) j 128) 0 := fun j => by rw [hs_zero]; exact Cg.refl _
    have k0 := key 0 (by decide) _ (even_sum (rootsL.getD B 0) ps _ 0 List.length_replicate hp (z0 0))
    have k1 := key 1 (by decide) _ (odd_sum (rootsL.getD B 0) ps _ 0 List.length_replicate hp (z0 1))
    rw [Nat.add_zero] at k0
    rw [k0, k1]
    unfold wantAt
    rfl
  exact flat_congr hc
end Mine
end

section
open PySem PySem.W PyProof.Rows PySem.Calls PySem.Spec PyProof.V
set_option maxRecDepth 100000
namespace Mine
section
variable {prog : Program} {w : World} {A : Around} {E : Value → Shared → Prop} {s : Shared} {env : Env} {h₀ : Heap} {x : Str} {body : List Stmt} {Q : Flow → Shared → Prop}
/-- what a turn leaves that stores into the list at a and lets the loop's own name be -/
def RowPost (h₀ : Heap) (L : Addr) (x : Str) (stored : List Str) (m₀ : Str → Option Value) (a : Addr) (led : List (Addr × Obj)) (ns : List Int) (k : Int) (s : Shared) (f : Flow) (s₂ : Shared) : Prop :=
  f = .next ∧ ∃ h' tk' m' news' vs' n' t', s₂ = { s with heap := h', toks := tk' } ∧ Fr h₀ L h' m' ∧ News h₀ L h' news' ∧ (∀ p ∈ led, p ∈ news') ∧ (a, listOf (List.toArray vs') n') ∈ news' ∧ IntsAre vs' ns ∧
    m' x = some (.int k t') ∧ ∀ z, z ≠ x → stored.contains z = false → m' z = m₀ z

set_option maxHeartbeats 3200000 in
theorem iter_row {r a : Addr} {a₀ b₀ : Int} {t₀ u₀ v₀ : Tok} {n nn : Nat} {m₀ : Str → Option Value} {rest : List (Addr × Obj)} {vs : List Value} (stored : List Str) (g : Nat → List Int)
    (hh : A.handled = none) (hr : IsRange s.heap r a₀ b₀ 1 t₀ u₀ v₀) (hsmall : Builtin.Range.small a₀ b₀ 1 = true) (hsz : Builtin.Range.rangeSize a₀ b₀ 1 = (n : Int)) (F : Fr h₀ env.locals s.heap m₀) (N : News h₀ env.locals s.heap ((a, listOf vs.toArray nn) :: rest))
    (hi : IntsAre vs (g 0)) (hne : ∀ p ∈ rest, p.1 ≠ a)
    (turn : ∀ i vs nn t (u : Str → Option Value) h tk own, i < n → IntsAre vs (g i) → (∀ p ∈ rest ++ own, p.1 ≠ a) → Fr h₀ env.locals h (growMap x stored m₀ u (some (.int (a₀ + (i : Nat)) t))) →
      News h₀ env.locals h ((a, listOf (List.toArray vs) nn) :: (rest ++ own)) →
      wpAny (model prog w) A (execs body env) (RowPost h₀ env.locals x stored m₀ a (rest ++ own) (g (i + 1)) (a₀ + (i : Nat)) s) E { s with heap := h, toks := tk })
    (done : ∀ vs nn (u : Str → Option Value) v h tk, (n = 0 ∨ ∃ t, v = some (.int (a₀ + (n : Int) - 1) t)) → IntsAre vs (g n) → Fr h₀ env.locals h (growMap x stored m₀ u v) →
      News h₀ env.locals h ((a, listOf (List.toArray vs) nn) :: rest) → Q .next { s with heap := h, toks := tk }) :
    wpAny (model prog w) A (pyIter (.ref r)) (fun it s₂ => LoopAtV prog w A h₀ env x body Q E it s₂) E s := by
  refine wpAny_pyIter_range hr hsmall ?_
  have W : Walks prog w A s.heap.objs.size [s.heap.objs.size] [s.heap.objs.size] n (fun i v => i < n ∧ ∃ t, v = .int (a₀ + i * 1) t)
      (fun i h => IsRangeIter h s.heap.objs.size (a₀ + (i : Nat) * 1) ((n : Int) - (i : Nat)) 1) := (Walks.range hh _ a₀ 1 n).bound
  refine kdr_loop (fun i m nx => ∃ vs nn, nx = (a, listOf (List.toArray vs) nn) :: rest ∧ IntsAre vs (g i) ∧ (∀ z, z ≠ x → stored.contains z = false → m z = m₀ z) ∧ (i = 0 ∨ ∃ t, m x = some (.int (a₀ + (i : Int) - 1) t))) W (fun _ h => h) (fun _ h => h) ?_ ?_ ?_ ?_ (by show IsRangeIter _ _ _ _ _; rw [hsz]; simpa using Heap.get?_push_size _ rfl) (F.push _) (fun p hp => ⟨Heap.get?_push_of_some _ (N p hp).1, (N p hp).2⟩) ⟨vs, nn, rfl, hi, fun _ _ _ => rfl, .inl rfl⟩ ?_ ?_
  · intro i h hi b hb
    rw [List.mem_singleton.mp hb]
    exact ⟨_, hi⟩
  · intro hm
    exact absurd F.ns.lt ((List.mem_singleton.mp hm) ▸ Nat.lt_irrefl _)
  · intro b hb
    rw [List.mem_singleton.mp hb]
    exact next_is_new F
  · intro p hp hI
    exact absurd (Heap.lt_size (N p hp).1) ((List.mem_singleton.mp hI) ▸ Nat.lt_irrefl _)
  · rintro i v m₁ nx h tk own hin ⟨_, t, rfl⟩ hoff ⟨vs, nn, rfl, hi', hz, _⟩ F₁ N₁
    have e1 : a₀ + (i : Int) * 1 = a₀ + (i : Int) := by omega
    rw [e1, ← growMap_eq (x := x) (v := some (.int (a₀ + (i : Int)) t)) hz] at F₁
    have ha : ∀ p ∈ own, p.1 ≠ a := fun p hp => hoff p hp a (List.Mem.head _)
    refine wpAny_mono (turn i vs nn t m₁ h tk own hin hi' (fun p hp => (List.mem_append.mp hp).elim (hne p) (ha p)) F₁ N₁) (fun f s₂ p => ?_) fun _ _ e => e
    obtain ⟨rfl, h', tk', m', news', vs', n', t', rfl, F', N', hsub, hm, hI', hx, hz'⟩ := p
    refine ⟨h', tk', m', news', (a, listOf vs'.toArray n') :: rest, rfl, F', N', ?_, fun p hp => hsub p (List.mem_append.mpr (.inr hp)), ?_, vs', n', rfl, hI', hz', .inr ⟨t', ?_⟩⟩
    · intro p hp
      rcases List.mem_cons.mp hp with rfl | hp
      · exact hm
      · exact hsub p (List.mem_append.mpr (.inl hp))
    · intro p hp b hb'
      rcases List.mem_cons.mp hb' with rfl | hb'
      · exact ha p hp
      · exact hoff p hp b (List.mem_cons_of_mem _ hb')
    · rw [hx]
      congr 2
      omega
  · rintro m₁ nx h tk ⟨vs, nn, rfl, hi', hz, h0⟩ F₁ N₁
    refine done vs nn m₁ (m₁ x) h tk h0 hi' ?_ N₁
    rw [growMap_eq hz]
    have : (fun z => if z = x then m₁ x else m₁ z) = m₁ := by
      funext z
      by_cases c : z = x
      · rw [if_pos c, c]
      · rw [if_neg c]
    rw [this]; exact F₁
end
end Mine
end

section
open PySem PySem.W PyProof.Rows PySem.Calls PySem.Spec PyProof.V
set_option maxRecDepth 100000
namespace Mine
section
variable {prog : Program} {w : World} {A : Around} {E : Value → Shared → Prop} {Q : Flow → Shared → Prop} {s : Shared} {env : Env} {h₀ : Heap} {L : Addr}
/-- what a turn of a while leaves that stores two names' ints, other names, and one list in place -/
def WPost (h₀ : Heap) (L : Addr) (y₁ y₂ : Str) (stored : List Str) (m₀ : Str → Option Value) (a : Addr) (rest : List (Addr × Obj)) (ns : List Int) (x₁ x₂ : Int) (s : Shared) (f : Flow) (s₂ : Shared) : Prop :=
  f = .next ∧ ∃ h' tk' m' news' vs' n' t₁ t₂, s₂ = { s with heap := h', toks := tk' } ∧ Fr h₀ L h' m' ∧ News h₀ L h' news' ∧ (∀ p ∈ rest, p ∈ news') ∧ (a, listOf (List.toArray vs') n') ∈ news' ∧ IntsAre vs' ns ∧
    m' y₁ = some (.int x₁ t₁) ∧ m' y₂ = some (.int x₂ t₂) ∧ ∀ z, z ≠ y₁ → z ≠ y₂ → stored.contains z = false → m' z = m₀ z

theorem while_row {test : Expr} {body : List Stmt} {pos : Pos} {y₁ y₂ : Str} {m₀ : Str → Option Value} {a : Addr} {vs : List Value} {nn : Nat} {rest : List (Addr × Obj)} (stored : List Str) (n : Nat) (g : Nat → List Int) (e₁ e₂ : Nat → Int) {t₁ t₂ : Tok}
    (F : Fr h₀ L s.heap m₀) (N : News h₀ L s.heap ((a, listOf vs.toArray nn) :: rest)) (hi : IntsAre vs (g 0)) (h1 : m₀ y₁ = some (.int (e₁ 0) t₁)) (h2 : m₀ y₂ = some (.int (e₂ 0) t₂))
    (turn : ∀ b vs nn t₁ t₂ (u : Str → Option Value) h tk, b < n → IntsAre vs (g b) → Fr h₀ L h (pairMap y₁ y₂ stored m₀ u (e₁ b) (e₂ b) t₁ t₂) → News h₀ L h ((a, listOf (List.toArray vs) nn) :: rest) →
      wpAny (model prog w) A (isTrue test env (eval test env)) (fun bb s₂ =>
        if bb = true then wpAny (model prog w) A (execs body env) (WPost h₀ L y₁ y₂ stored m₀ a rest (g (b + 1)) (e₁ (b + 1)) (e₂ (b + 1)) s) E s₂ else False) E { s with heap := h, toks := tk })
    (done : ∀ vs nn t₁ t₂ (u : Str → Option Value) h tk, IntsAre vs (g n) → Fr h₀ L h (pairMap y₁ y₂ stored m₀ u (e₁ n) (e₂ n) t₁ t₂) → News h₀ L h ((a, listOf (List.toArray vs) nn) :: rest) →
      wpAny (model prog w) A (isTrue test env (eval test env)) (fun bb s₂ => if bb = true then False else Q .next s₂) E { s with heap := h, toks := tk })
    (hE : PassesOwn (model prog w) A env E := by passes_own) :
    wpAny (model prog w) A (exec (.While test body [] pos) env) Q E s := by
  refine While_inv2 (n₀ := n) (fun k m nx => ∃ b vs nn t₁ t₂, b ≤ n ∧ k = n - b ∧ nx = (a, listOf (List.toArray vs) nn) :: rest ∧ IntsAre vs (g b) ∧ m y₁ = some (.int (e₁ b) t₁) ∧ m y₂ = some (.int (e₂ b) t₂) ∧ ∀ z, z ≠ y₁ → z ≠ y₂ → stored.contains z = false → m z = m₀ z) F N
    ⟨0, vs, nn, t₁, t₂, Nat.zero_le _, rfl, rfl, hi, h1, h2, fun _ _ _ _ => rfl⟩ ?_ hE
  rintro k m₁ nx h tk F₁ N₁ ⟨b, vs, nn, t₁, t₂, hb, rfl, rfl, hi', g1, g2, g3⟩
  rw [← pairMap_eq g1 g2 g3] at F₁
  by_cases hlt : b < n
  · refine wpAny_mono (turn b vs nn t₁ t₂ m₁ h tk hlt hi' F₁ N₁) (fun bb s₂ p => ?_) fun _ _ x => x
    cases bb with
    | false => simp at p
    | true =>
      simp only [if_true] at p ⊢
      refine wpAny_mono p (fun f s₃ q => ?_) fun _ _ x => x
      obtain ⟨rfl, h', tk', m', news', vs', n', t₁', t₂', rfl, F', N', hsub, hm, hI', k1, k2, k3⟩ := q
      refine ⟨h', tk', m', (a, listOf (List.toArray vs') n') :: rest, n - (b + 1), rfl, F', fun p hp => ?_, by omega, b + 1, vs', n', t₁', t₂', hlt, rfl, rfl, hI', k1, k2, k3⟩
      rcases List.mem_cons.mp hp with rfl | hp
      · exact N' _ hm
      · exact N' p (hsub p hp)
  · have e : b = n := by omega
    subst e
    refine wpAny_mono (done vs nn t₁ t₂ m₁ h tk hi' F₁ N₁) (fun bb s₂ p => ?_) fun _ _ x => x
    cases bb with
    | true => simp at p
    | false => simpa using p
end
end Mine
end

section
open PySem PySem.W PyProof.Rows PySem.Calls PySem.Spec PyProof.V
set_option maxRecDepth 100000
namespace Mine
theorem lay_facts {i b : Nat} (hi : i < 7) (hb : b < 2 ^ i) : 2 * 2 ^ (7 - i) * b + 2 * 2 ^ (7 - i) ≤ 256 ∧ 1 ≤ 2 ^ i + b ∧ 2 ^ i + b < 128 := by
  rcases i with _ | _ | _ | _ | _ | _ | _ | i <;> simp at hb ⊢ <;> omega
theorem lay_end {i : Nat} (hi : i < 7) : 2 * 2 ^ (7 - i) * 2 ^ i = 256 := by
  rcases i with _ | _ | _ | _ | _ | _ | _ | i <;> first | rfl | omega
theorem lay_l {i : Nat} (hi : i < 7) : 2 ≤ 2 ^ (7 - i) ∧ 2 ^ (7 - i) ≤ 128 ∧ 2 ^ (7 - i) = 2 * 2 ^ (7 - (i + 1)) := by
  rcases i with _ | _ | _ | _ | _ | _ | _ | i <;> first | decide | omega
theorem lay_k {i : Nat} (hi : i < 7) : 2 ^ i ≤ 64 ∧ 1 ≤ 2 ^ i := by
  rcases i with _ | _ | _ | _ | _ | _ | _ | i <;> first | decide | omega
section
variable {prog : Program} {w : World} {A : Around} {E : Value → Shared → Prop} {Q : Flow → Shared → Prop} {s : Shared} {env : Env} {h₀ : Heap} {L : Addr}
/-- the while over the blocks of the layer i -/
theorem while_blocks {test : Expr} {body : List Stmt} {pos : Pos} {y₁ y₂ : Str} {m₀ : Str → Option Value} {a : Addr} {vs : List Value} {nn : Nat} {rest : List (Addr × Obj)} (stored : List Str) {A₀ : List Int} {i : Nat} {l k : Int} {t₁ t₂ : Tok}
    (F : Fr h₀ L s.heap m₀) (N : News h₀ L s.heap ((a, listOf vs.toArray nn) :: rest)) (hv : IntsAre vs A₀) (h1 : m₀ y₁ = some (.int 0 t₁)) (h2 : m₀ y₂ = some (.int k t₂))
    (hlen : A₀.length = 256) (hi : i < 7) (hl : l = ((2 ^ (7 - i) : Nat) : Int)) (hk : k = ((2 ^ i : Nat) : Int))
    (turn : ∀ (B : List Int) (S K : Int) vs nn t₁ t₂ (u : Str → Option Value) h tk, B.length = 256 → 0 ≤ S → S + 2 * l ≤ 256 → 1 ≤ K → K < 128 → IntsAre vs B → Fr h₀ L h (pairMap y₁ y₂ stored m₀ u S K t₁ t₂) → News h₀ L h ((a, listOf (List.toArray vs) nn) :: rest) →
      wpAny (model prog w) A (isTrue test env (eval test env)) (fun bb s₂ =>
        if bb = true then wpAny (model prog w) A (execs body env) (WPost h₀ L y₁ y₂ stored m₀ a rest (bfly B (zetaL.getD K.toNat 0) S.toNat l.toNat l.toNat) (S + 2 * l) (K + 1) s) E s₂ else False) E { s with heap := h, toks := tk })
    (done : ∀ vs nn t₁ t₂ (u : Str → Option Value) h tk, IntsAre vs (blk A₀ i (2 ^ i)) → (blk A₀ i (2 ^ i)).length = 256 → Fr h₀ L h (pairMap y₁ y₂ stored m₀ u 256 (2 * k) t₁ t₂) → News h₀ L h ((a, listOf (List.toArray vs) nn) :: rest) →
      wpAny (model prog w) A (isTrue test env (eval test env)) (fun bb s₂ => if bb = true then False else Q .next s₂) E { s with heap := h, toks := tk })
    (hE : PassesOwn (model prog w) A env E := by passes_own) :
    wpAny (model prog w) A (exec (.While test body [] pos) env) Q E s := by
  subst hl hk
  refine while_row stored (2 ^ i) (fun b => blk A₀ i b) (fun b => ((2 * 2 ^ (7 - i) * b : Nat) : Int)) (fun b => ((2 ^ i + b : Nat) : Int)) F N hv (by simpa using h1) (by simpa using h2) ?_ ?_ hE
  · intro b vs nn t₁ t₂ u h tk hb hI F₁ N₁
    have hf := lay_facts hi hb
    have hT := turn (blk A₀ i b) _ _ vs nn t₁ t₂ u h tk ((blk_len A₀ i b).trans hlen) (by omega) (by omega) (by omega) (by omega) hI F₁ N₁
    have e1 : ((2 * 2 ^ (7 - i) * b : Nat) : Int) + 2 * ((2 ^ (7 - i) : Nat) : Int) = ((2 * 2 ^ (7 - i) * (b + 1) : Nat) : Int) := by
      rw [Nat.mul_add, Nat.mul_one]; omega
    have e2 : ((2 ^ i + b : Nat) : Int) + 1 = ((2 ^ i + (b + 1) : Nat) : Int) := by omega
    rw [e1, e2] at hT
    simp only [Int.toNat_natCast] at hT
    exact hT
  · intro vs nn t₁ t₂ u h tk hI F₁ N₁
    have e1 : ((2 * 2 ^ (7 - i) * 2 ^ i : Nat) : Int) = 256 := by rw [lay_end hi]; rfl
    have e2 : ((2 ^ i + 2 ^ i : Nat) : Int) = 2 * ((2 ^ i : Nat) : Int) := by omega
    simp only [e1, e2] at F₁
    exact done vs nn t₁ t₂ u h tk hI ((blk_len A₀ i _).trans hlen) F₁ N₁
/-- the while over the layers -/
theorem while_layers {test : Expr} {body : List Stmt} {pos : Pos} {y₁ y₂ : Str} {m₀ : Str → Option Value} {a : Addr} {vs : List Value} {nn : Nat} {rest : List (Addr × Obj)} (stored : List Str) {A₀ : List Int} {t₁ t₂ : Tok}
    (F : Fr h₀ L s.heap m₀) (N : News h₀ L s.heap ((a, listOf vs.toArray nn) :: rest)) (hv : IntsAre vs A₀) (h1 : m₀ y₁ = some (.int 128 t₁)) (h2 : m₀ y₂ = some (.int 1 t₂)) (hlen : A₀.length = 256)
    (turn : ∀ (B : List Int) (i : Nat) (l l' k : Int) vs nn t₁ t₂ (u : Str → Option Value) h tk, B.length = 256 → i < 7 → l = ((2 ^ (7 - i) : Nat) : Int) → k = ((2 ^ i : Nat) : Int) → 2 ≤ l → l ≤ 128 → l = 2 * l' → 1 ≤ k → k ≤ 64 → IntsAre vs B → Fr h₀ L h (pairMap y₁ y₂ stored m₀ u l k t₁ t₂) → News h₀ L h ((a, listOf (List.toArray vs) nn) :: rest) →
      wpAny (model prog w) A (isTrue test env (eval test env)) (fun bb s₂ =>
        if bb = true then wpAny (model prog w) A (execs body env) (WPost h₀ L y₁ y₂ stored m₀ a rest (blk B i (2 ^ i)) l' (2 * k) s) E s₂ else False) E { s with heap := h, toks := tk })
    (done : ∀ (G : List Int) vs nn t₁ t₂ (u : Str → Option Value) h tk, G = layer A₀ 7 → IntsAre vs G → G.length = 256 → Fr h₀ L h (pairMap y₁ y₂ stored m₀ u 1 128 t₁ t₂) → News h₀ L h ((a, listOf (List.toArray vs) nn) :: rest) →
      wpAny (model prog w) A (isTrue test env (eval test env)) (fun bb s₂ => if bb = true then False else Q .next s₂) E { s with heap := h, toks := tk })
    (hE : PassesOwn (model prog w) A env E := by passes_own) :
    wpAny (model prog w) A (exec (.While test body [] pos) env) Q E s := by
  refine while_row stored 7 (fun i => layer A₀ i) (fun i => ((2 ^ (7 - i) : Nat) : Int)) (fun i => ((2 ^ i : Nat) : Int)) F N hv h1 h2 ?_ ?_ hE
  · intro i vs nn t₁ t₂ u h tk hi hI F₁ N₁
    have hf := lay_l hi
    have hg := lay_k hi
    have hT := turn (layer A₀ i) i _ ((2 ^ (7 - (i + 1)) : Nat) : Int) _ vs nn t₁ t₂ u h tk ((layer_len A₀ i).trans hlen) hi rfl rfl (by omega) (by omega) (by omega) (by omega) (by omega) hI F₁ N₁
    have e2 : 2 * ((2 ^ i : Nat) : Int) = ((2 ^ (i + 1) : Nat) : Int) := by rw [Nat.pow_succ]; omega
    rw [e2] at hT
    exact hT
  · intro vs nn t₁ t₂ u h tk hI F₁ N₁
    exact done _ vs nn t₁ t₂ u h tk rfl hI ((layer_len A₀ 7).trans hlen) F₁ N₁
theorem rangeSize_up {S l : Int} (hl : 0 ≤ l) : Builtin.Range.rangeSize S (S + l) 1 = ((l.toNat : Nat) : Int) := by
  unfold Builtin.Range.rangeSize
  simp only [show ((1 : Int) > 0) by decide, if_true, Int.ediv_one]
  split <;> omega
theorem small_up {S l : Int} (h0 : 0 ≤ S) (hl : 0 ≤ l) (h : S + l ≤ 256) : Builtin.Range.small S (S + l) 1 = true := by
  unfold Builtin.Range.small
  rw [rangeSize_up hl]
  simp only [Builtin.Range.rangeFitsLong, Bool.and_eq_true, Bool.or_eq_true, decide_eq_true_eq, beq_iff_eq, show ((1 : Int) > 0) by decide, if_true]
  omega
/-- the for over one block -/
theorem iter_bfly {x : Str} {body : List Stmt} {r a : Addr} {S l z : Int} {t₀ u₀ v₀ : Tok} {nn : Nat} {m₀ : Str → Option Value} {rest : List (Addr × Obj)} {vs : List Value} (stored : List Str) {B : List Int} {y : Str} {tz : Tok}
    (hz : m₀ y = some (.int z tz)) (hh : A.handled = none) (hr : IsRange s.heap r S (S + l) 1 t₀ u₀ v₀) (h0 : 0 ≤ S) (hl : 1 ≤ l) (hSl : S + 2 * l ≤ 256) (F : Fr h₀ env.locals s.heap m₀) (N : News h₀ env.locals s.heap ((a, listOf vs.toArray nn) :: rest))
    (hv : IntsAre vs B) (hlen : B.length = 256) (hne : ∀ p ∈ rest, p.1 ≠ a)
    (turn : ∀ (C : List Int) (j : Int) vs nn t (u : Str → Option Value) h tk own, C.length = 256 → S ≤ j → j < S + l → 0 ≤ j → j + l < 256 → IntsAre vs C → (∀ p ∈ rest ++ own, p.1 ≠ a) → Fr h₀ env.locals h (growMap x stored m₀ u (some (.int j t))) →
      News h₀ env.locals h ((a, listOf (List.toArray vs) nn) :: (rest ++ own)) →
      wpAny (model prog w) A (execs body env) (RowPost h₀ env.locals x stored m₀ a (rest ++ own) (bstep C z j.toNat l.toNat) j s) E { s with heap := h, toks := tk })
    (done : ∀ vs nn (u : Str → Option Value) t h tk, IntsAre vs (bfly B z S.toNat l.toNat l.toNat) → Fr h₀ env.locals h (growMap x stored m₀ u (some (.int (S + l - 1) t))) →
      News h₀ env.locals h ((a, listOf (List.toArray vs) nn) :: rest) → Q .next { s with heap := h, toks := tk }) :
    wpAny (model prog w) A (pyIter (.ref r)) (fun it s₂ => LoopAtV prog w A h₀ env x body Q E it s₂) E s := by
  refine iter_row stored (fun i => bfly B z S.toNat l.toNat i) hh hr (small_up h0 (by omega) (by omega)) (rangeSize_up (by omega)) F N hv hne ?_ ?_
  · intro i vs nn t u h tk own hi hI hoff F₁ N₁
    have hT := turn (bfly B z S.toNat l.toNat i) (S + (i : Int)) vs nn t u h tk own ((bfly_len _ _ _ _ _).trans hlen) (by omega) (by omega) (by omega) (by omega) hI hoff F₁ N₁
    have e : (S + (i : Int)).toNat = S.toNat + i := by omega
    rw [e] at hT
    exact hT
  · rintro vs nn u v h tk hv' hI F₁ N₁
    rcases hv' with h9 | ⟨t, rfl⟩
    · omega
    · have e : S + ((l.toNat : Nat) : Int) - 1 = S + l - 1 := by omega
      rw [e] at F₁
      exact done vs nn u t h tk hI F₁ N₁
end
end Mine
end

section
open PySem PySem.W PyProof.Rows PySem.Calls PySem.Spec PyProof.V
set_option maxRecDepth 100000
namespace Mine
def modded (A : List Int) : Nat → List Int
  | 0 => A
  | n + 1 => (modded A n).set n (Int.fmod ((modded A n).getD n 0) 3329)
theorem modded_len (A : List Int) : ∀ n, (modded A n).length = A.length
  | 0 => rfl
  | n + 1 => by unfold modded; rw [List.length_set, modded_len A n]
theorem modded_get (A : List Int) : ∀ n j, (modded A n)[j]? = if j < n then (A[j]?).map (fun c => Int.fmod c 3329) else A[j]?
  | 0, j => by simp [modded]
  | n + 1, j => by
    unfold modded
    rw [List.getElem?_set, List.getD_eq_getElem?_getD, modded_get A n n, modded_get A n j, modded_len]
    simp only [Nat.lt_irrefl, if_false]
    by_cases h : n = j
    · subst h
      simp only [if_true, Nat.lt_succ_self]
      by_cases hl : n < A.length
      · simp [hl, List.getElem?_eq_getElem hl]
      · simp [hl, List.getElem?_eq_none (Nat.le_of_not_lt hl)]
    · rw [if_neg h]
      by_cases h1 : j < n
      · rw [if_pos h1, if_pos (by omega)]
      · rw [if_neg h1, if_neg (by omega)]
theorem modded_all {A : List Int} (h : A.length = 256) : modded A 256 = A.map fun c => Int.fmod c 3329 := by
  apply List.ext_getElem?
  intro j
  rw [modded_get, List.getElem?_map]
  by_cases hj : j < 256
  · rw [if_pos hj]
  · rw [if_neg hj, List.getElem?_eq_none (by omega)]; rfl
section
variable {prog : Program} {w : World} {A : Around} {E : Value → Shared → Prop} {Q : Flow → Shared → Prop} {s : Shared} {env : Env} {h₀ : Heap} {L : Addr}
theorem iter_mods {x : Str} {body : List Stmt} {r a : Addr} {t₀ u₀ v₀ : Tok} {nn : Nat} {m₀ : Str → Option Value} {rest : List (Addr × Obj)} {vs : List Value} {B : List Int}
    (hh : A.handled = none) (hr : IsRange s.heap r 0 256 1 t₀ u₀ v₀) (F : Fr h₀ env.locals s.heap m₀) (N : News h₀ env.locals s.heap ((a, listOf vs.toArray nn) :: rest))
    (hv : IntsAre vs B) (hlen : B.length = 256) (hne : ∀ p ∈ rest, p.1 ≠ a)
    (turn : ∀ (C : List Int) (j : Int) vs nn t (u : Str → Option Value) h tk own, C.length = 256 → 0 ≤ j → j < 256 → IntsAre vs C → (∀ p ∈ rest ++ own, p.1 ≠ a) → Fr h₀ env.locals h (growMap x [] m₀ u (some (.int j t))) →
      News h₀ env.locals h ((a, listOf (List.toArray vs) nn) :: (rest ++ own)) →
      wpAny (model prog w) A (execs body env) (RowPost h₀ env.locals x [] m₀ a (rest ++ own) (C.set j.toNat (Int.fmod (C.getD j.toNat 0) 3329)) j s) E { s with heap := h, toks := tk })
    (done : ∀ vs nn (u : Str → Option Value) t h tk, IntsAre vs (B.map fun c => Int.fmod c 3329) → Fr h₀ env.locals h (growMap x [] m₀ u (some (.int 255 t))) →
      News h₀ env.locals h ((a, listOf (List.toArray vs) nn) :: rest) → Q .next { s with heap := h, toks := tk }) :
    wpAny (model prog w) A (pyIter (.ref r)) (fun it s₂ => LoopAtV prog w A h₀ env x body Q E it s₂) E s := by
  refine iter_row (n := 256) [] (fun i => modded B i) hh hr (by decide +kernel) (by decide +kernel) F N hv hne ?_ ?_
  · intro i vs nn t u h tk own hi hI hoff F₁ N₁
    have hT := turn (modded B i) (0 + (i : Int)) vs nn t u h tk own ((modded_len _ _).trans hlen) (by omega) (by omega) hI hoff F₁ N₁
    have e : (0 + (i : Int)).toNat = i := by omega
    rw [e] at hT
    exact hT
  · rintro vs nn u v h tk hv' hI F₁ N₁
    rcases hv' with h9 | ⟨t, rfl⟩
    · omega
    · rw [show (0 + ((256 : Nat) : Int) - 1) = 255 by decide] at F₁
      have hI : IntsAre vs (modded B 256) := hI
      rw [modded_all hlen] at hI
      exact done vs nn u t h tk hI F₁ N₁
end
end Mine
end

section
open PySem PySem.W PyProof.Rows PySem.Calls PySem.Spec PyProof.V
set_option maxRecDepth 100000
namespace Mine
theorem zeta_eq : (rangeKs 0 (Int.toNat (128 - 0))).map (fun k' => (17 : Int) ^ ((br7 k'.toNat : Nat) : Int).toNat % 3329) = zetaL := by decide +kernel
theorem zeta_ints {vs : List Value} (h : IntsAre vs ((rangeKs 0 (Int.toNat (128 - 0))).map (fun k' => (17 : Int) ^ ((br7 k'.toNat : Nat) : Int).toNat % 3329))) : IntsAre vs zetaL := zeta_eq ▸ h
theorem zeta_len : zetaL.length = 128 := by unfold zetaL; rw [List.length_map, List.length_range]
theorem news_pick {h₀ h : Heap} {L : Addr} {p0 p1 p2 p3 p4 p5 p6 p7 p8 p9 p10 p11 p12 p13 p14 p15 : Addr × Obj} {rest : List (Addr × Obj)}
    (N : News h₀ L h (p0 :: p1 :: p2 :: p3 :: p4 :: p5 :: p6 :: p7 :: p8 :: p9 :: p10 :: p11 :: p12 :: p13 :: p14 :: p15 :: rest)) :
    News h₀ L h [p8, p1, p2, p3, p11, p14, p15] := by
  intro p hp
  apply N
  simp only [List.mem_cons, List.not_mem_nil, or_false] at hp ⊢
  rcases hp with h | h | h | h | h | h | h <;> simp only [h, true_or, or_true]
theorem apart6 {a a1 a2 a3 a4 a5 a6 : Addr} {o1 o2 o3 o4 o5 o6 : Obj} (h1 : a < a1) (h2 : a < a2) (h3 : a < a3) (h4 : a4 < a) (h5 : a5 < a) (h6 : a6 < a) :
    ∀ p ∈ [(a1, o1), (a2, o2), (a3, o3), (a4, o4), (a5, o5), (a6, o6)], p.1 ≠ a := by
  intro p hp
  simp only [List.mem_cons, List.not_mem_nil, or_false] at hp
  rcases hp with rfl | rfl | rfl | rfl | rfl | rfl
  · exact Nat.ne_of_gt h1
  · exact Nat.ne_of_gt h2
  · exact Nat.ne_of_gt h3
  · exact Nat.ne_of_lt h4
  · exact Nat.ne_of_lt h5
  · exact Nat.ne_of_lt h6
theorem news_pick2 {h₀ h : Heap} {L a1 a2 a3 a8 a11 a14 a15 : Addr} {o1 o2 o3 o8 o11 o14 o15 : Obj} {p0 p4 p5 p6 p7 p9 p10 p12 p13 : Addr × Obj} {rest : List (Addr × Obj)}
    (N : News h₀ L h (p0 :: (a1, o1) :: (a2, o2) :: (a3, o3) :: p4 :: p5 :: p6 :: p7 :: (a8, o8) :: p9 :: p10 :: (a11, o11) :: p12 :: p13 :: (a14, o14) :: (a15, o15) :: rest))
    (h1 : @LT.lt Nat instLTNat a8 a1) (h2 : @LT.lt Nat instLTNat a8 a2) (h3 : @LT.lt Nat instLTNat a8 a3) (h4 : @LT.lt Nat instLTNat a11 a8) (h5 : @LT.lt Nat instLTNat a14 a8) (h6 : @LT.lt Nat instLTNat a15 a8) :
    News h₀ L h [(a8, o8), (a1, o1), (a2, o2), (a3, o3), (a11, o11), (a14, o14), (a15, o15)] ∧ ∀ p ∈ [(a1, o1), (a2, o2), (a3, o3), (a11, o11), (a14, o14), (a15, o15)], p.1 ≠ a8 :=
  ⟨news_pick N, apart6 h1 h2 h3 h4 h5 h6⟩
theorem fdiv_half {l l' : Int} (h : l = 2 * l') : Int.fdiv l (2 ^ Int.toNat 1) = l' := by
  subst h
  show Int.fdiv (2 * l') 2 = l'
  rw [Int.fdiv_eq_ediv_of_nonneg _ (by decide)]
  omega
theorem off3 {a b c z : Str} (h : [a, b, c].contains z = false) : z ≠ a ∧ z ≠ b ∧ z ≠ c := by
  simpa [List.contains_cons] using h
theorem off1 {a z : Str} (h : [a].contains z = false) : z ≠ a := by
  simpa [List.contains_cons] using h
theorem zeta_range (k : Nat) : 0 ≤ zetaL.getD k 0 ∧ zetaL.getD k 0 < 3329 := by
  unfold zetaL
  rw [List.getD_eq_getElem?_getD, List.getElem?_map]
  cases (List.range 128)[k]? with
  | none => exact ⟨by decide, by decide⟩
  | some x =>
    show 0 ≤ (17 : Int) ^ br7 x % 3329 ∧ (17 : Int) ^ br7 x % 3329 < 3329
    exact ⟨Int.emod_nonneg _ (by decide), Int.emod_lt_of_pos _ (by decide)⟩
theorem zeta_mul (k : Nat) (b : Int) : IntMulOk (zetaL.getD k 0) b :=
  .of_left (intBits_le_64 (by have := zeta_range k; omega) (by have := zeta_range k; omega))
theorem bstep_ints {vs : List Value} {C : List Int} {z j l : Int} (hj : 0 ≤ j) (hl : 0 ≤ l)
    (h : IntsAre vs ((C.set (j + l).toNat (C.getD j.toNat 0 - z * C.getD (j + l).toNat 0)).set j.toNat ((C.set (j + l).toNat (C.getD j.toNat 0 - z * C.getD (j + l).toNat 0)).getD j.toNat 0 + z * C.getD (j + l).toNat 0))) :
    IntsAre vs (bstep C z j.toNat l.toNat) := by
  have e : (j + l).toNat = j.toNat + l.toNat := by omega
  rw [e] at h
  exact h
theorem ntt_ints {vs : List Value} {ps : List (Int × Int)} {A : List Int} (hA : A = rowOf ps) (hp : ∀ p ∈ ps, 0 ≤ p.1 ∧ p.1 < 256) (h : IntsAre vs ((layer A 7).map fun c => Int.fmod c 3329)) : IntsAre vs (wantL ps) := by
  subst hA
  rw [← ntt_law hp]
  exact h
theorem wantL_len {ps : List (Int × Int)} {vs : List Value} (_ : IntsAre vs (wantL ps)) : (wantL ps).length = 256 := by
  unfold wantL
  rw [want_len, roots_len]
theorem ntt_done {vs vs9 : List Value} {ps : List (Int × Int)} {A G : List Int} (hA : A = rowOf ps) (hp : ∀ p ∈ ps, 0 ≤ p.1 ∧ p.1 < 256) (hG : G = layer A 7) (h : IntsAre vs (G.map fun c => Int.fmod c 3329)) (hw : IntsAre vs9 ([] ++ rootsL.flatMap (wantAt ps))) :
    ∃ W : List Int, W.length = 256 ∧ IntsAre vs W ∧ IntsAre vs9 W := by
  rw [hG] at h
  have h := ntt_ints hA hp h
  have hw' : IntsAre vs9 (wantL ps) := by unfold wantL; rw [List.nil_append] at hw; exact hw
  exact ⟨wantL ps, wantL_len h, h, hw'⟩
end Mine
end

section
open PySem PySem.W PyProof.Rows PySem.Calls PySem.Spec
set_option maxRecDepth 100000
namespace Mine
section
variable {M : Model} {A : Around} {E : Value → Shared → Prop} {s : Shared} {K : Frag} {env : Env} {pos : Pos} {x C : Addr} {ox : Obj} {od : Option Obj} {first : List Value} {Q : Value → Shared → Prop}
/-- an object of an own class is called with keywords -/
theorem callWith_ownKW {f : Addr} {e : Expr} {rest : List Expr} {kws : List Keyword} (_X : K.In s.heap) (_I : InstAt s.heap x ox C od) (hd : ox.data = .plain) (_hs : findIn K (.ref C) "__call__" = some (some (.ref f)))
    (hall : (backToKw pos (keywordEach kws env)).all (·.1.isSome) = true)
    (h : wpAny M A (spliced (backTo pos (starEach (e :: rest) env))) (fun vs s₁ => wpAny M A (evalAll ((backToKw pos (keywordEach kws env)).map (·.2)))
      (fun ks s₂ => kco_P K x C ox od s₂.heap ∧ wpAny M A (call (.ref x) (first ++ vs) (((backToKw pos (keywordEach kws env)).filterMap (·.1)).zip ks)) Q E s₂) E s₁) E s)
    (hplain : ((backTo pos (starEach (e :: rest) env)).any (·.1) || (backToKw pos (keywordEach kws env)).any (·.1.isNone)) = false := by rfl) (he : starEach (e :: rest) env = (false, eval e env) :: starEach rest env := by rfl) :
    wpAny M A (callWith pos (.ref x) first (backTo pos (starEach (e :: rest) env)) (backToKw pos (keywordEach kws env))) Q E s :=
  kco_callWith_of hplain hd (evalArgs_kw2 hall h he)
end
theorem inF {K : Frag} {h₀ h : Heap} {L : Addr} {m : Str → Option Value} (F : Fr h₀ L h m) (X : K.In h₀) : K.In h := X.keeps F.keep
theorem endG {c : ClaimW} {cl : Str → Option Addr} {mean : ExcName → Option Value} {args : List WData} {s₁ s' : Shared} {h₀ : Heap} {cc P : Addr} {ps : Array Value} {L : Addr} {m : Str → Option Value} {b : Bool}
    (B : Based s₁.heap h₀ cc P ps) (F : Fr h₀ L s'.heap m) (hg : AllBare s'.gens) (hn : ∀ cls, c.raises args cls = false) (hp : c.post args (.bool b) args = true) (hos : s'.os = s₁.os) :
    GoodWG c cl mean args s₁ (.ok (.ret (.bool b))) s' :=
  goodWG_reads B F hg hn (ReadsW.bool b) (fun _ => ⟨List.nodup_nil, fun _ hm => nomatch hm⟩) hp hos
end Mine
end

section
open PySem PySem.W PyProof.Rows PySem.Calls
set_option maxRecDepth 100000
namespace Mine
/-- the top's run on a tree heap, its step and its two looks handed in -/
def topRunG (st : SharedT → Thread → Option (SharedT × Thread)) (thr ok : Thread → Bool) : Nat → SharedT → Thread → Option SharedT
  | 0, _, _ => none
  | n + 1, s, t => match thr t with
    | true => some s
    | false => match ok t with
      | false => none
      | true => match st s t with
        | some (s', t') => topRunG st thr ok n s' t'
        | none => none
theorem topRunG_of {tb : String → Option Builtin} {p : Program} {w : World} {n₀ : Nat} {ann : Option Value} : ∀ (n : Nat) (s s' : SharedT) (t : Thread),
    topRunG (stepT (denote tb) p w) through (stepOk n₀ ann) n s t = some s' → topRun tb p w n₀ ann n s.abs t = some s'.abs
  | 0, _, _, _, h => by cases h
  | n + 1, s, s', t, h => by
    unfold topRunG at h
    unfold topRun
    cases he : through t with
    | true => rw [he] at h; cases h; rfl
    | false =>
      rw [he] at h
      cases hk : stepOk n₀ ann t with
      | false => rw [hk] at h; cases h
      | true =>
        rw [hk] at h
        cases hs : stepT (denote tb) p w s t with
        | none => rw [hs] at h; cases h
        | some r => obtain ⟨s₂, t₂⟩ := r; rw [hs] at h; rw [stepT_spec hs]; exact topRunG_of n s₂ s' t₂ h
def growT : List Obj → BT → Nat → BT
  | [], t, _ => t
  | o :: l, t, n => growT l (t.ins n o) (n + 1)
noncomputable def bootT (P : Params) : BT := growT (boot_heap P).objs.toList .nil 0
theorem bootT_abs (P : Params) : absHeap (bootT P) 11 {} = boot_heap P := by kernel_rfl
theorem boot_ns (P : Params) : (boot_heap P).isNs mainGlobals = true := by kernel_rfl
theorem boot_size (P : Params) : (boot_heap P).objs.size = 11 := by kernel_rfl
theorem boot_ann (P : Params) : (boot_heap P).nsMap mainGlobals "__annotations__" = some (.ref 6) := by kernel_rfl
/-- the top at once: a head whose opening is the plain boot, run as one evaluation -/
theorem left_once {p q : Program} {loose : List Str} {Xt : Shared → Bool} {α : Type} {Yf : Shared → α} {Ya : World → α} {N : Nat} {g0 : Bool}
    (e : opening p = plainProg p.main.scope.names) (hN : Nat.ble 600 N = true) (f : ∀ s, fenceModules? p s = some s)
    (h : ∀ (w : World) (os : OsState), (topRunG (stepT (denote treeTable) p w) through (stepOk 11 (some (.ref 6))) N ⟨bootT w.params, 11, {}, #[], boot_drawn, boot_toks, os⟩ (topStub p)).map (fun s =>
      ((staticsOk (importedModules p.main.body) (boot_heap w.params) s.abs.heap && namesBound p s.abs.heap && gensDone s.abs && laidKept (boot_heap w.params) s.abs.heap),
        openSeen q loose (importedModules p.main.body) Xt g0 s.abs, Yf s.abs)) = some (true, openGood q loose, Ya w)) : LeftO p q loose Xt Yf Ya N g0 := fun w => by
  obtain ⟨⟨h', gs, d, k, os⟩, e1, e2⟩ := Option.map_eq_some_iff.mp (boot_open e hN f w)
  obtain ⟨rfl, rfl, rfl, rfl⟩ : h' = boot_heap w.params ∧ gs = #[] ∧ d = boot_drawn ∧ k = boot_toks := by simpa using e2
  obtain ⟨s, hs, hl⟩ := Option.map_eq_some_iff.mp (h w os)
  obtain ⟨l1, l2, l3⟩ : _ ∧ _ ∧ _ := by simpa only [Prod.mk.injEq] using hl
  have r := topRunG_of _ _ _ _ hs
  have ab : SharedT.abs ⟨bootT w.params, 11, {}, #[], boot_drawn, boot_toks, os⟩ = ⟨boot_heap w.params, #[], boot_drawn, boot_toks, os⟩ := by
    show Shared.mk (absHeap _ _ _) _ _ _ _ = _
    rw [bootT_abs]
  rw [ab] at r
  have t : topFrom treeTable p w N ⟨boot_heap w.params, #[], boot_drawn, boot_toks, os⟩ = some s.abs := by
    unfold topFrom
    dsimp only
    rw [boot_ns, boot_size, boot_ann, r]
    show (match staticsOk (importedModules p.main.body) (boot_heap w.params) s.abs.heap && namesBound p s.abs.heap && gensDone s.abs && laidKept (boot_heap w.params) s.abs.heap with | true => _ | false => _) = _
    rw [l1]
  unfold openEnds
  rw [e1]
  show ((topFrom treeTable p w N _).map _) = _
  rw [t]
  show some (_, _) = _
  rw [l2, l3]
/-- the run with the library's quick twins in it -/
noncomputable abbrev endQ (p : Program) (w : World) (os : OsState) (N : Nat) : Option SharedT :=
  topRunG (Fast.tw10156331382660048174 (Fast.tw11892475500146522536 Fast.tw14364793385576792824) p w) through (Fast.tw6613529449190102663 11 (some (.ref 6))) N ⟨bootT w.params, 11, {}, #[], boot_drawn, boot_toks, os⟩ (topStub p)
theorem endQ_eq (p : Program) (w : World) (os : OsState) (N : Nat) : topRunG (stepT (denote treeTable) p w) through (stepOk 11 (some (.ref 6))) N ⟨bootT w.params, 11, {}, #[], boot_drawn, boot_toks, os⟩ (topStub p) = endQ p w os N := by
  rw [Fast.te10156331382660048174, Fast.te11892475500146522536, Fast.te14364793385576792824, Fast.te6613529449190102663]
def SaysA (p : Program) (N : Nat) : Prop := ∀ (w : World) (os : OsState), (endQ p w os N).map (fun s => staticsOk (importedModules p.main.body) (boot_heap w.params) s.abs.heap && namesBound p s.abs.heap && gensDone s.abs && laidKept (boot_heap w.params) s.abs.heap) = some true
def SaysB (p q : Program) (loose : List Str) (Xt : Shared → Bool) (N : Nat) (g0 : Bool) : Prop := ∀ (w : World) (os : OsState), (endQ p w os N).map (fun s => Fast.tw4187177175401517315 q loose (importedModules p.main.body) Xt g0 s.abs) = some (openGood q loose)
def SaysC (p : Program) {α : Type} (Yf : Shared → α) (Ya : World → α) (N : Nat) : Prop := ∀ (w : World) (os : OsState), (endQ p w os N).map (fun s => Yf s.abs) = some (Ya w)
theorem left_onceQ {p q : Program} {loose : List Str} {Xt : Shared → Bool} {α : Type} {Yf : Shared → α} {Ya : World → α} {N : Nat} {g0 : Bool}
    (e : opening p = plainProg p.main.scope.names) (hN : Nat.ble 600 N = true) (f : ∀ s, fenceModules? p s = some s)
    (hA : SaysA p N) (hB : SaysB p q loose Xt N g0) (hC : SaysC p Yf Ya N) : LeftO p q loose Xt Yf Ya N g0 :=
  left_once e hN f fun w os => by
    rw [endQ_eq, Fast.te4187177175401517315]
    obtain ⟨s, hs, ha⟩ := Option.map_eq_some_iff.mp (hA w os)
    have hb := hB w os
    have hc := hC w os
    rw [hs] at hb hc ⊢
    simp only [Option.map_some, Option.some.injEq] at hb hc ⊢
    rw [ha, hb, hc]
end Mine
end

open PySem PySem.W PyProof.Rows
namespace Mine
noncomputable def vw : Program := view PySem.Challenge.pw_yi0005_01 [0, 2, 3, 5, 6, 7, 9, 10, 11]
noncomputable def xt : Shared → Bool := fun s => xlAt vw [] s && recOk (RowW.records (OpenRow.toRowW (OpenLaw.row PySem.Challenge.rw_yi0005_01))) s
def outs : List Str := [Str.ofString "PolynomialRing", Str.ofString "PolynomialNTT"]
set_option maxRecDepth 100000 in
theorem said : OpenLaw.wellSaid PySem.Challenge.rw_yi0005_01 = true := by
  unfold OpenLaw.wellSaid OpenRow.wellSaid OpenRow.partSaid looksOpen
  repeat' (with_reducible refine look_both ?_ ?_)
  all_goals decide +kernel
set_option maxRecDepth 100000 in
theorem topA : SaysA PySem.Challenge.pw_yi0005_01 6230 := by
  intro w os
  kernel_rfl
set_option maxRecDepth 100000 in
theorem topB : SaysB PySem.Challenge.pw_yi0005_01 vw outs xt 6230 true := by
  intro w os
  kernel_rfl
end Mine
local macro_rules | `(tactic| o_head (kHook $K $as $_e)) => `(tactic| (refine False.elim ?_; assumption; exact ($K, $as)))
set_option maxRecDepth 100000 in
set_option maxHeartbeats 1000000 in
/-- the written part of the heap that the kit's k_head lays, and its places -/
noncomputable def Mine.kdef : (Params → Frag) × List Addr := by
  refine (fun (K : (Params → Frag) × List Addr) (_ : False → OpenRow.Holds (OpenLaw.row PySem.Challenge.rw_yi0005_01)) => K) ?K ?h
  rotate_left
  intro h9
  k_head
namespace Mine
set_option maxRecDepth 100000 in
theorem kd_eq (P : Params) : kdef.2 = (kdef.heap_1 P).map (·.1) := by kernel_rfl
noncomputable abbrev hk : Hook := kHook kdef.heap_1 kdef.2 kd_eq
set_option maxRecDepth 100000 in
theorem topC : SaysC PySem.Challenge.pw_yi0005_01 (Hook.obs (kHook kdef.heap_1 kdef.2 kd_eq)) (Hook.val (kHook kdef.heap_1 kdef.2 kd_eq)) 6230 := by
  intro w os
  kernel_rfl
set_option maxRecDepth 100000 in
theorem top : LeftO PySem.Challenge.pw_yi0005_01 vw outs xt (Hook.obs (kHook kdef.heap_1 kdef.2 kd_eq)) (Hook.val (kHook kdef.heap_1 kdef.2 kd_eq)) 6230 true := by
  refine left_onceQ ?_ ?_ ?_ topA topB topC
  · kernel_rfl
  · kernel_rfl
  · intro s
    kernel_rfl
end Mine
local macro_rules | `(tactic| k_qdec) => `(tactic| decide +kernel)
local macro_rules | `(tactic| walk_at "call builtin:bin") => `(tactic| (k_here; (with_reducible show wpAny _ _ (call (Value.builtin "bin") [Value.int _ _]) _ _ _); (refine Mine.bin_and (by omega) (by omega) ?_)))
local macro_rules | `(tactic| walk_at "call type:int") => `(tactic| (k_here; (with_reducible show wpAny _ _ (call (Value.type "int") [Value.str _ _, Value.int _ _]) _ _ _); (refine Mine.call_text2 (Mine.br_reads (by omega) (by omega) _) ?_)))
local macro_rules | `(tactic| walk_at "subscriptTail Name Slice str ref") => `(tactic| (k_here; (with_reducible show wpAny _ _ (subscriptTail _ (Expr.Slice none none (some _) _) (Value.str (Txt.zfill _ _) _) _) _ _ _); (refine slice_strK_nn (hsz := Mine.seven_long (by omega) (by omega)) (s := ⟨_, _, _, _, _⟩) (by assumption) (by assumption) (by decide) ?_); intro _ _ _ F' N'))
local macro_rules | `(tactic| walk_at "call builtin:pow") => `(tactic| (k_here; (with_reducible show wpAny _ _ (call (Value.builtin "pow") [Value.int _ _, Value.int _ _, Value.int _ _]) _ _ _); (refine Mine.pow3 (by first | omega | exact Mine.turned_exp (by assumption) | exact Mine.fdiv2 (by assumption)) (by omega) ?_)))
local macro_rules | `(tactic| walk_at "call builtin:pow") => `(tactic| (k_here; (with_reducible show wpAny _ _ (call (Value.builtin "pow") [Value.int 128 _, Value.int (-1) _, Value.int 3329 _]) _ _ _); (refine Mine.pow_inv ?_)))
local macro_rules | `(tactic| walk_at "call builtin:list.append") => `(tactic| (k_here; (show wpAny _ _ (call (Value.builtin "list.append") [Value.ref _, _]) _ _ _); k_dflt (refine' append_K ?k1 ?k2 ?k3 ?_ ?z; (case k1 => k_asm); (case k2 => k_asm); (case k3 => first | exact Upd.head (by assumption) | k_upd); (case z => first | size_fits | ((rw [PySem.sizeLine_eq, List.size_toArray]); omega)); k_whole); intro h' F' N'; (try k_sweep)))
local macro_rules | `(tactic| walk_at "exec Assign cons ListComp") => `(tactic| (k_here; (with_reducible show wpAny _ _ (exec (Stmt.Assign _ (Expr.ListComp _ [⟨Expr.Name (Str.ofString "t") _, _, _, _⟩] _ _) _) _) _ _ _); k_dflt (refine LCg.Assign_ListComp_U (F₀ := by k_asm) (by rfl) (by with_unfolding_all rfl) (by with_unfolding_all rfl) (by decide) (by rfl) (by decide) (by rfl) (by rfl) (by rfl) ?_)))
local macro_rules | `(tactic| walk_at "pyIter ref") => `(tactic| (k_here; (k_of "_" => k_dflt ((rename Fr _ _ _ _ => lF'); (rename News _ _ _ _ => lN'); (with_unfolding_all refine' Mine.rebind_range (y := Str.ofString "row") (n := 7) Mine.turned ?k1 ?k2 ?k3 ?k4 lF' lN' ?k5 ?k6 ?k7 ?turnB ?doneB); (case k1 => rfl); (case k2 => assumption); (case k3 => decide); (case k4 => decide); (case k5 => rfl); (case k6 => k_mem); (case k7 => exact IntsAre.cons _ _ IntsAre.nil); (case' turnB => (intro i9 a9 vs9 nn9 t9 h9 tk9 tl9 own9 hi9 hI9 F9 N9; (have hL9 := Mine.turned_le hi9); (have hV9 := hI9.length); (clear lF' lN'); (try simp only [List.cons_append] at N9))); (case' doneB => (intro a9 vs9 nn9 u9 h9 tk9 h0 hI9 F9 N9; (replace h0 := h0.resolve_left (by decide)); (have hL9 := Mine.turned7); (have hV9 := hI9.length); (clear lF' lN'); (k_lt h0); (try simp only [List.cons_append] at N9)))))))
local macro_rules | `(tactic| walk_at "eval ListComp") => `(tactic| (k_here; (with_reducible show wpAny _ _ (eval (Expr.ListComp _ [⟨Expr.Name (Str.ofString "x") _, _, _, _⟩] _ _) _) _ _ _); k_dflt (refine LCg.ListComp_U (F₀ := by k_asm) (by with_unfolding_all rfl) (by decide) (by rfl) (by decide) (by rfl) ?_)))
local macro_rules | `(tactic| walk_at "CompSrc") => `(tactic| (k_here; (try kcf_lens); k_dflt (refine LCg.CompSrc.ledger (by rfl) (by k_asm) (by k_asm) (by k_mem) (by kcf_size) ?_; intro g'; (refine' kcf_list _ (by first | assumption | l_ints) (fun k' t' I' oI' C' oC' D' m' ys' h' tk' E' hk' hC' hx' F' N' off' ne' hMark' => ?_) ?_); (all_goals (try (simp only [LCg.Off3, and_true] at off'))); kcf_last)))
local macro_rules | `(tactic| walk_at "RebindPost") => `(tactic| (k_here; k_dflt ((rename Fr _ _ _ _ => F9); (rename News _ _ _ _ => N9); (rename (_ < _) ∧ (_ < _) ∧ _ => l9); (refine ⟨rfl, _, _, _, _, _, _, _, rfl, F9, N9, ?sub, ?lt, List.Mem.head _, (by assumption), rfl, ?z⟩); (case lt => (refine fun p hp => tb_ltOf ?_ p hp; exact l9.2.2)); (case sub => (intro p hp; exact List.mem_cons_of_mem _ (List.mem_cons_of_mem _ (List.mem_cons_of_mem _ hp)))); (case z => (intro z h1 h2; (try dsimp only); (simp only [if_neg h1, if_neg h2]))))))
local macro_rules | `(tactic| walk_at "call type:set cons nil") => `(tactic| (k_here; (with_reducible show wpAny _ _ (call (Value.type "set") [Value.ref _]) _ _ _); k_dflt ((rename Fr _ _ _ _ => lF'); (rename News _ _ _ _ => lN'); (rename IntsAre _ _ => hI9); (replace hI9 : IntsAre _ Mine.rootsL := hI9); (refine Mine.set_of_roots lF' lN' (by rfl) (by k_mem) hI9 ?_); intro d' h' tk' o' F' N' l1 hs'; (k_lt l1))))
local macro_rules | `(tactic| walk_at "call builtin:len") => `(tactic| (k_here; (with_reducible show wpAny _ _ (call (Value.builtin "len") [Value.ref _]) _ _ _); k_dflt (refine Mine.len_of_set (by k_asm) (by k_mem) (by k_asm) (by decide) ?_)))
local macro_rules | `(tactic| walk_at "call builtin:all") => `(tactic| (lge_here; k_dflt ((rename Fr _ _ _ _ => F'); (rename GenOnD _ _ _ _ _ _ _ _ _ => X'); (with_unfolding_all refine all_genD F' (by assumption) X' (by first | assumption | exact Nat.le_refl _) ?_); intro _ _ _ _ hk'''; (rename News _ _ _ _ => N'); (have N8 := News.kept N' (by assumption) hk'''); (rename Fr _ _ _ _ => gF8); (have lgeK9 := LGeL.in_regrown gF8 (by assumption) (by lge_topk) (by assumption) (by kernel_rfl)))))
local macro_rules | `(tactic| walk_at "exec For Name Name cons nil") => `(tactic| (k_here; (k_of "r" => k_dflt ((rename Fr _ _ _ _ => lF'); (with_unfolding_all refine' For_invVF lF' ?k1 ?k2 ?_); (case k1 => exact rfl); (case k2 => exact rfl)))))
local macro_rules | `(tactic| walk_at "pyIter ref") => `(tactic| (k_here; (k_of "r" => k_dflt ((rename Mine.TR _ _ => hTR9); (obtain ⟨ps9, ht9, hr9, hp9⟩ := hTR9.ex); (subst ht9); (rename Fr _ _ _ _ => lF'); (rename News _ _ _ _ => lN'); (rename IntsAre _ Mine.rootsL => hR9); (with_unfolding_all refine' Mine.iter_grow [Str.ofString "even", Str.ofString "odd", Str.ofString "place", Str.ofString "number"] (Mine.wantAt ps9) ?k1 ?k2 hR9 lF' lN' IntsAre.nil ?k9 (Mine.want_bound ps9) ?turnC ?doneC); (case k1 => rfl); (case k2 => k_mem); (rename (_ < _) ∧ (_ < _) ∧ _ => l9); (case k9 => (refine fun p hp => Nat.ne_of_lt (tb_ltOf ?_ p hp); exact l9)); (case' turnC => (intro r9 hr8 vs9 ns9 n9 t9 u9 h9 tk9 own9 hle9 hI9 ha9 F9 N9; (have hV9 := hI9.length); (clear lF' lN'); (try simp only [List.cons_append] at N9 ha9))); (case' doneC => (intro vs9 n9 u9 v9 h9 tk9 hI9 F9 N9; (have hV9 := hI9.length); (clear lF' lN')))))))
local macro_rules | `(tactic| walk_at "exec For Tuple Name cons nil") => `(tactic| (k_here; k_dflt ((rename Fr _ _ _ _ => lF'); (with_unfolding_all refine' For_turns lF' ?_); k_whole)))
local macro_rules | `(tactic| walk_at "pyIter ref") => `(tactic| (k_here; (with_reducible show wpAny _ _ (pyIter (Value.ref _)) (fun it s₂ => TurnsAt _ _ _ _ _ _ _ _ _ it s₂) _ _); k_dflt ((rename Fr _ _ _ _ => lF'); (rename News _ _ _ _ => lN'); (rename DatAll _ _ (List.map Mine.dat _) => hD9); (with_unfolding_all refine' Mine.iter_terms ?k1 ?k2 (DatAll.mono ?k3 hD9) lF' lN' ?k4 ?k5 ?k6 ?turnD ?doneD); (case k3 => kcf_all); (case k1 => rfl); (case k2 => k_mem); (case k4 => rfl); (case k5 => rfl); (case k6 => rfl); (rename (∀ p ∈ _, 0 ≤ Prod.fst p ∧ _) => hP9); (case' turnD => (intro p9 hp8 e9 o9 te9 to9 u9 T9 t19 t29 nt9 h9 tk9 own9 hT9 F9 N9; (have hb8 := (hP9 p9 hp8).1); (have hb9 := (hP9 p9 hp8).2); (have hT7 := (N9 _ (List.mem_append_left _ hT9)).1); (have hT8 : IsTup h9 T9 _ := ⟨_, hT7, rfl, _, rfl⟩); (clear lF' lN' hT7); (try simp only [List.cons_append] at N9))); (case' doneD => (intro te9 to9 u9 h9 tk9 F9 N9; (clear lF' lN'))))))
local macro_rules | `(tactic| walk_at "assign Tuple") => `(tactic| (k_here; (with_reducible show wpAny _ _ (assign (Expr.Tuple _ _ _) _ (Value.ref _)) _ _ _); k_dflt ((rename IsTup _ _ _ => hT8); (refine' unpackN_ (by k_asm) (by k_asm) hT8 ?k1 ?k2 ?k3 ?_); (case k1 => rfl); (case k2 => rfl); (case k3 => rfl); intro h' F' N')))
local macro_rules | `(tactic| walk_at "PairPost") => `(tactic| (k_here; k_dflt ((rename Fr _ _ _ _ => F9); (rename News _ _ _ _ => N9); (refine' ⟨rfl, _, _, _, _, _, _, rfl, F9, N9, ?sub, ?y1, ?y2, ?z⟩); (case sub => exact fun p hp => hp); (case y1 => first | exact Mine.some_int _ (Mine.fe_pos (by assumption)) | exact Mine.some_int _ (Mine.fe_neg (by assumption))); (case y2 => first | exact Mine.some_int _ (Mine.fo_pos (by assumption)) | exact Mine.some_int _ (Mine.fo_neg (by assumption))); (case z => (intro z h1 h2 h3; (have h4 := (Mine.off2 h3).1); (have h5 := (Mine.off2 h3).2); (try dsimp only [Mine.pairMap]); (simp only [if_neg h1, if_neg h2, if_neg h4, if_neg h5, h3, Bool.false_eq_true, if_false]))))))
local macro_rules | `(tactic| walk_at "GrowPost") => `(tactic| (k_here; k_dflt ((rename Fr _ _ _ _ => F9); (rename News _ _ _ _ => N9); (refine' ⟨rfl, _, _, _, _, _, _, rfl, F9, N9, ?sub, Mine.mem_push2, ?iv, ?z⟩); (case sub => exact fun p hp => List.mem_cons_of_mem _ hp); (case iv => exact Mine.ints_two _ _ (by assumption)); (case z => (intro z h1 h3; (have h4 := (Mine.off4 h3).1); (have h5 := (Mine.off4 h3).2.1); (have h6 := (Mine.off4 h3).2.2.1); (have h7 := (Mine.off4 h3).2.2.2); (try dsimp only [Mine.pairMap, Mine.growMap]); (simp only [if_neg h1, if_neg h4, if_neg h5, if_neg h6, if_neg h7, h3, Bool.false_eq_true, if_false, List.contains_cons, List.contains_nil, Bool.or_false, beq_eq_false_iff_ne.mpr h6, beq_eq_false_iff_ne.mpr h7, beq_eq_false_iff_ne.mpr h4, beq_eq_false_iff_ne.mpr h5]))))))
local macro_rules | `(tactic| k_enter) => `(tactic| ((with_reducible rename GenOnD _ _ _ _ _ _ _ _ _ => gX9); refine' Mine.enterR ?k1 ?k2 ?k3 ?k4 ?k5 ?kA ?kF ?kK ?k6 ?k7 ?k8 ?k9 ?kB ?_ ?c2 ?c3 ?c4 ?c5; (case kA => exact rfl); (case kF => exact rfl); (case kK => exact rfl); (case k1 => k_asm); (case k2 => k_asm); (case k3 => k_asm); (case k4 => k_asm); (case k5 => k_asm); (case k6 => k_is); (case k7 => k_is); (case k8 => k_room); (case k9 => first | exact BindsTo.of_eq rfl | exact binds_K (by k_in) rfl (by k_is) rfl rfl rfl | fail "k_enter: no rule for these arguments"); (case c5 => decide); (case kB => exact locs rfl); (case c2 => exact rfl); (case c3 => exact rfl); (case c4 => exact rfl); k_whole; intro g' L' h' FG' F' N' B' X' T' l1; (try k_lt l1); (try dsimp only); (try k_lift B'); (try k_fold)))
local macro_rules | `(tactic| walk_at "exec While Compare cons nil") => `(tactic| (k_here; (with_reducible show wpAny _ _ (exec (Stmt.While (Expr.Compare (Expr.Name (Str.ofString "l") _) _ _ _) _ _ _) _) _ _ _); k_dflt ((rename Fr _ _ _ _ => lF'); (rename News _ _ _ _ => lN'); (replace lN' := Mine.news_pick2 lN' (by omega) (by omega) (by omega) (by omega) (by omega) (by omega)); (obtain ⟨lN', hne5⟩ := lN'); (rename IntsAre _ (List.map _ (rangeKs _ _)) => hZ5); (replace hZ5 := Mine.zeta_ints hZ5); (with_unfolding_all refine' Mine.while_layers (y₁ := Str.ofString "l") (y₂ := Str.ofString "k") [Str.ofString "start", Str.ofString "zeta", Str.ofString "j", Str.ofString "t"] lF' lN' ?hv ?k1 ?k2 ?hlen ?turnE ?doneE); (case hv => assumption); (case k1 => rfl); (case k2 => rfl); (case hlen => with_reducible assumption); (case' turnE => (intro B5 i5 l5 l5' k5 vs5 nn5 t5 t5' u5 h5 tk5 hB5 hi5 hl5 hk5 hl2 hl128 hll5 hk1 hk64 hI5 F5 N5; (have hV5 := hI5.length); (clear lF' lN'))); (case' doneE => (intro G5 vs5 nn5 t5 t5' u5 h5 tk5 hG5 hI5 hL5 F5 N5; (have hV5 := hI5.length); (clear lF' lN'))))))
local macro_rules | `(tactic| walk_at "exec While Compare cons nil") => `(tactic| (k_here; (with_reducible show wpAny _ _ (exec (Stmt.While (Expr.Compare (Expr.Name (Str.ofString "start") _) _ _ _) _ _ _) _) _ _ _); k_dflt ((rename Fr _ _ _ _ => lF'); (rename News _ _ _ _ => lN'); (rename IntsAre _ _ => hI5); (with_unfolding_all refine' Mine.while_blocks (y₁ := Str.ofString "start") (y₂ := Str.ofString "k") [Str.ofString "zeta", Str.ofString "j", Str.ofString "t"] lF' lN' hI5 ?k1 ?k2 ?hlen ?hi ?hl ?hk ?turnF ?doneF); (case k1 => rfl); (case k2 => rfl); (case hlen => with_reducible assumption); (case hi => assumption); (case hl => assumption); (case hk => assumption); (case' turnF => (intro B5 S5 K5 vs5 nn5 t5 t5' u5 h5 tk5 hB5 hS5 hS5' hK5 hK5' hI5 F5 N5; (have hV5 := hI5.length); (clear lF' lN'))); (case' doneF => (intro vs5 nn5 t5 t5' u5 h5 tk5 hI5 hL5 F5 N5; (have hV5 := hI5.length); (clear lF' lN'))))))
local macro_rules | `(tactic| walk_at "subscriptTail Name Name ref int") => `(tactic| (k_here; (with_reducible show wpAny _ _ (subscriptTail _ _ (Value.ref _) (Value.int _ _)) _ _ _); k_dflt (refine' ksa_sub ?k1 ?k2 ?k3 ?k4 ?k5 ?k6 ?_ ?k7; (case k1 => k_asm); (case k2 => k_mem); (case k3 => with_reducible assumption); (case k4 => omega); (case k5 => first | omega | ((have hz5 := Mine.zeta_len); omega)); (case k6 => omega); (case k7 => with_unfolding_all rfl); k_whole); intro _))
local macro_rules | `(tactic| walk_at "subscriptTail Name BinOp ref int") => `(tactic| (k_here; (with_reducible show wpAny _ _ (subscriptTail _ _ (Value.ref _) (Value.int _ _)) _ _ _); k_dflt (refine' ksa_sub ?k1 ?k2 ?k3 ?k4 ?k5 ?k6 ?_ ?k7; (case k1 => k_asm); (case k2 => k_mem); (case k3 => with_reducible assumption); (case k4 => omega); (case k5 => omega); (case k6 => omega); (case k7 => with_unfolding_all rfl); k_whole); intro _))
local macro_rules | `(tactic| walk_at "pyIter ref") => `(tactic| (k_here; (k_of "j" => k_dflt ((rename Fr _ _ _ _ => lF'); (rename News _ _ _ _ => lN'); (rename IntsAre _ _ => hI5); (with_unfolding_all refine' Mine.iter_bfly (y := Str.ofString "zeta") [Str.ofString "t"] ?kz ?k1 ?k2 ?k3 ?k4 ?k5 lF' lN' hI5 ?k6 ?k7 ?turnG ?doneG); (case kz => rfl); (case k1 => rfl); (case k2 => assumption); (case k3 => assumption); (case k4 => omega); (case k5 => assumption); (case k6 => assumption); (case k7 => assumption); (case' turnG => (intro C5 j5 vs5 nn5 t5 u5 h5 tk5 own5 hC5 hj1 hj2 hj3 hj4 hI5 hne5 F5 N5; (have hV5 := hI5.length); (clear lF' lN'); (try simp only [List.cons_append, List.nil_append] at N5 hne5))); (case' doneG => (intro vs5 nn5 u5 t5 h5 tk5 hI5 F5 N5; (have hV5 := hI5.length); (clear lF' lN')))))))
local macro_rules | `(tactic| walk_at "WPost") => `(tactic| (k_here; k_dflt ((rename Fr _ _ _ _ => F9); (rename News _ _ _ _ => N9); (refine' ⟨rfl, _, _, _, _, _, _, _, _, rfl, F9, N9, ?sub, List.Mem.head _, ?iv, ?y1, ?y2, ?z⟩); (case sub => exact fun p hp => List.mem_cons_of_mem _ hp); (case iv => assumption); (case y1 => ((refine' Eq.trans ?e5 (Mine.some_int _ ?q5)); (case e5 => rfl); (case q5 => first | exact Mine.fdiv_half (by assumption) | omega))); (case y2 => ((refine' Eq.trans ?e6 (Mine.some_int _ ?q6)); (case e6 => rfl); (case q6 => first | rfl | omega))); (case z => (intro z h1 h2 h3; first | ((have h4 := (Mine.off4 h3).1); (have h5 := (Mine.off4 h3).2.1); (have h6 := (Mine.off4 h3).2.2.1); (have h7 := (Mine.off4 h3).2.2.2); (try dsimp only [Mine.pairMap, Mine.growMap]); (simp only [if_neg h1, if_neg h2, if_neg h4, if_neg h5, if_neg h6, if_neg h7, h3, Bool.false_eq_true, if_false, List.contains_cons, List.contains_nil, Bool.or_false, beq_eq_false_iff_ne.mpr h6, beq_eq_false_iff_ne.mpr h7, beq_eq_false_iff_ne.mpr h4, beq_eq_false_iff_ne.mpr h5]); (try rfl)) | ((have h4 := (Mine.off3 h3).1); (have h5 := (Mine.off3 h3).2.1); (have h6 := (Mine.off3 h3).2.2); (try dsimp only [Mine.pairMap, Mine.growMap]); (simp only [if_neg h1, if_neg h2, if_neg h4, if_neg h5, if_neg h6, h3, Bool.false_eq_true, if_false, List.contains_cons, List.contains_nil, Bool.or_false, beq_eq_false_iff_ne.mpr h6, beq_eq_false_iff_ne.mpr h4, beq_eq_false_iff_ne.mpr h5]); (try rfl)))))))
local macro_rules | `(tactic| walk_at "binaryOp Mult int int") => `(tactic| (k_here; (with_reducible show wpAny _ _ (binaryOp Operator.Mult (Value.int (List.getD Mine.zetaL _ _) _) (Value.int _ _)) _ _ _); (refine PyProof.Rows.mul_int ?_ (Mine.zeta_mul _ _))))
local macro_rules | `(tactic| walk_at "setItem ref int") => `(tactic| (k_here; (with_reducible show wpAny _ _ (setItem (Value.ref _) (Value.int _ _) (Value.int _ _)) _ _ _); k_dflt (refine' ksa_set ?k1 ?k2 ?k3 ?k4 ?k5 ?k6 ?k7 ?_; (case k1 => k_asm); (case k2 => k_asm); (case k3 => exact Upd.head (by assumption)); (case k4 => with_reducible assumption); (case k5 => omega); (case k6 => first | omega | ((simp only [List.length_set]); omega)); (case k7 => omega); k_whole); intro h' F' N' hi' hl' hs'; (try k_sweep)))
local macro_rules | `(tactic| walk_at "pyIter ref") => `(tactic| (k_here; (k_of "j" => k_dflt ((rename Fr _ _ _ _ => lF'); (rename News _ _ _ _ => lN'); (rename IntsAre _ _ => hI5); (with_unfolding_all refine' Mine.iter_mods ?k1 ?k2 lF' lN' hI5 ?k6 ?k7 ?turnH ?doneH); (case k1 => rfl); (case k2 => assumption); (case k6 => with_reducible assumption); (case k7 => assumption); (case' turnH => (intro C5 j5 vs5 nn5 t5 u5 h5 tk5 own5 hC5 hj3 hj4 hI5 hne5 F5 N5; (have hV5 := hI5.length); (clear lF' lN'); (try simp only [List.cons_append, List.nil_append] at N5 hne5))); (case' doneH => (intro vs5 nn5 u5 t5 h5 tk5 hI5 F5 N5; (with_reducible (rename IntsAre _ ([] ++ List.flatMap _ _) => hW9)); (replace hI5 := Mine.ntt_done (by with_reducible assumption) (by with_reducible assumption) (by with_reducible assumption) hI5 hW9); (clear hW9); (obtain ⟨W5, hL5, hI5, hW5⟩ := hI5); (have hV5 := hI5.length); (have hV5' := hW5.length); (clear lF' lN')))))))
local macro_rules | `(tactic| walk_at "RowPost") => `(tactic| (k_here; k_dflt ((rename Fr _ _ _ _ => F9); (rename News _ _ _ _ => N9); (refine' ⟨rfl, _, _, _, _, _, _, _, rfl, F9, N9, ?sub, List.Mem.head _, ?iv, ?x, ?z⟩); (case sub => exact fun p hp => List.mem_cons_of_mem _ hp); (case x => rfl); (case iv => first | assumption | exact Mine.bstep_ints (by omega) (by omega) (by assumption)); (case z => (intro z h1 h3; first | ((have h4 := Mine.off1 h3); (try dsimp only [Mine.pairMap, Mine.growMap]); (simp only [if_neg h1, if_neg h4, h3, Bool.false_eq_true, if_false, List.contains_cons, List.contains_nil, Bool.or_false, beq_eq_false_iff_ne.mpr h4]); (try rfl)) | ((try dsimp only [Mine.pairMap, Mine.growMap]); (simp only [if_neg h1, h3, Bool.false_eq_true, if_false]); (try rfl)))))))
local macro_rules | `(tactic| walk_at "callWith") => `(tactic| (k_here; (try dsimp only); (with_reducible show wpAny _ _ (callWith _ (Value.ref _) _ (backTo _ (starEach (_ :: _) _)) (backToKw _ (keywordEach (_ :: _) _))) _ _ _); k_dflt (refine' Mine.callWith_ownKW ?k1 ?k2 ?k3 ?k4 ?k5 ?_; (case k1 => k_in); (case k2 => k_inst); (case k3 => rfl); (case k4 => k_is); (case k5 => rfl); k_whole)))
local macro_rules | `(tactic| walk_at "pyIter ref") => `(tactic| (k_of "t" => k_dflt (k_dat (fun pre terms row => terms.length = pre.length ∧ pre.length ≤ 64 ∧ row.length = 256 ∧ Mine.TR terms row) "terms*" "row")))
local macro_rules | `(tactic| k_in) => `(tactic| first | (with_reducible assumption) | exact Mine.inF (by with_reducible assumption) (by with_reducible assumption))
local macro_rules | `(tactic| wrow_closeG) => `(tactic| (w_endG; (with_reducible rename Based _ _ _ _ _ => gB9); (with_reducible rename Fr _ _ _ _ => gF9); (refine' Mine.endG gB9 gF9 ?eg ?en ?ep ?eo); (case eg => first | (with_reducible assumption) | assumption); (case en => exact fun _ => rfl); (case ep => exact postW_of (by wrow_shape) (w_eq_bool (w_res rfl) w_lit) rfl); (case eo => first | exact Eq.trans (by with_reducible assumption) (Eq.trans (by with_reducible assumption) rfl) | row_os)))
set_option maxRecDepth 100000 in
set_option maxHeartbeats 8000000 in
theorem PySem.Challenge.cw_yi0005_01_holds : PySem.Challenge.rw_yi0005_01.Holds := by
  clear PySem.Challenge.cw_yi0005_01_holds
  (k_with "state" => first | exact Mine.tr_start | exact Mine.tr_step (by assumption) (by assumption) (by assumption) (by assumption))
  (k_with "exec For Name Call cons nil" => k_of "_" => kpr_for)
  (w_on; (refine holds_law Mine.said fun said => ?_); (refine holds_open (q := Mine.vw) (loose := [Str.ofString "PolynomialRing", Str.ofString "PolynomialNTT"]) (Xt := fun s => xlAt Mine.vw [] s && recOk (RowW.records (OpenRow.toRowW (OpenLaw.row PySem.Challenge.rw_yi0005_01))) s) (XP := XL Mine.vw []) (Yf := Hook.obs (kHook Mine.kdef.heap_1 Mine.kdef.2 Mine.kd_eq)) (Ya := Hook.val (kHook Mine.kdef.heap_1 Mine.kdef.2 Mine.kd_eq)) (YP := Hook.says (kHook Mine.kdef.heap_1 Mine.kdef.2 Mine.kd_eq)) (N := 6230) Mine.top (Hook.of (kHook Mine.kdef.heap_1 Mine.kdef.2 Mine.kd_eq)) (Hook.keeps (kHook Mine.kdef.heap_1 Mine.kdef.2 Mine.kd_eq)) (fun s e => xl_of s (Bool.and_eq_true_iff.mp e).1) XL.keeps (by rfl) (by rfl) (by rfl) (fun s e => recFacts_of (Bool.and_eq_true_iff.mp e).2) (by rfl) (by first | assumption | decide +kernel) (by decide +kernel) ⟨rfl, rfl, rfl, rfl, rfl, by decide +kernel⟩ ?hw ?hc); (case hw => w_witness2); (clear said); w_strict (lge_go0; (try ((with_reducible rename Ground _ _ _ _ _ _ _ _ _ => g9); clear g9)); (try ((with_reducible rename Hook.says _ _ _ => g9); clear g9)); (try ((with_reducible rename WShape.hasAll _ _ _ = true => g9); clear g9)); (try ((with_reducible rename ReadsAllW _ _ _ _ _ _ => g9); clear g9)); (try ((with_reducible rename WData.layableAll _ = true => g9); clear g9)); (try ((with_reducible rename PyData.layableAll0 _ = true => g9); clear g9)); (try ((with_reducible rename Spec.Shape.has _ _ = true => g9); clear g9)); (try ((with_reducible rename Well _ _ _ _ => g9); clear g9)); (all_goals try k_fold); (repeat' (first | (k_unfold; (try dsimp only)) | (w_endG; exfalso; omega) | (lge_end; wrow_closeG) | walk1 | (dsimp only; walk1) | (leave1; walk_say "STEP leave1"; try dsimp only) | (exfalso; omega)))))

