import PyProof.Rows.All
import Wide.All
import OpenK.AllK
import Wide.FinOn
import Lean
import PySem.Challenge.RW_op0047_01
set_option Elab.async false
set_option maxRecDepth 100000
section
namespace Mine
/-! the plain law: what the rounds make of a text is what the law tells of it -/
noncomputable def hexD (n : Nat) : Nat := if n < 10 then 48 + n else 55 + n
noncomputable def bitOf (m : Int) (k : Nat) : Int := Int.fmod (Int.fdiv m (2 ^ k)) 2
noncomputable def sign1 (m : Int) (c : Nat) : List Nat := if bitOf m (c % 16) = 1 then [c] else [hexD (c / 16), hexD (c % 16)]
noncomputable def nextT (m : Int) (t : List Nat) : List Nat := t.flatMap (sign1 m)
noncomputable def roundsT (ms : List Int) (t : List Nat) : List Nat := ms.foldl (fun t m => nextT m t) t
noncomputable def staysT (k : Nat) : List Int → Nat
  | [] => 0
  | m :: ms => if bitOf m k = 1 then staysT k ms + 1 else 0
noncomputable def threesT (d : Nat) (n : Int) (ms : List Int) : Int := ms.foldl (fun a m => a * (2 - bitOf m 3) + 1 - bitOf m d) n
noncomputable def digitT (d : Nat) (ms : List Int) : List Nat := List.replicate (threesT d 0 ms).toNat 51 ++ [48 + d]
noncomputable def figureT (v : Nat) (ms : List Int) : List Nat :=
  if v < 10 then digitT v ms
  else if staysT (v - 9) ms = ms.length then [55 + v]
  else digitT 4 (ms.drop (staysT (v - 9) ms + 1)) ++ digitT (v - 9) (ms.drop (staysT (v - 9) ms + 1))
noncomputable def octetT (o : Nat) (ms : List Int) : List Nat :=
  if staysT (o % 16) ms = ms.length then [o]
  else figureT (o / 16) (ms.drop (staysT (o % 16) ms + 1)) ++ figureT (o % 16) (ms.drop (staysT (o % 16) ms + 1))

theorem bitOf_two (m : Int) (k : Nat) : bitOf m k = 0 ∨ bitOf m k = 1 := by
  unfold bitOf
  have h1 := Int.fmod_nonneg_of_pos (Int.fdiv m (2 ^ k)) (b := 2) (by decide)
  have h2 := Int.fmod_lt_of_pos (Int.fdiv m (2 ^ k)) (b := 2) (by decide)
  omega
theorem nextT_append (m : Int) (a b : List Nat) : nextT m (a ++ b) = nextT m a ++ nextT m b := by simp [nextT]
theorem roundsT_append (ms : List Int) : ∀ a b : List Nat, roundsT ms (a ++ b) = roundsT ms a ++ roundsT ms b := by
  induction ms with
  | nil => intro a b; rfl
  | cons m ms ih => intro a b; show roundsT ms (nextT m (a ++ b)) = roundsT ms (nextT m a) ++ roundsT ms (nextT m b); rw [nextT_append, ih]
theorem nextT_threes (m : Int) (n : Nat) : nextT m (List.replicate n 51) = List.replicate (n * (2 - bitOf m 3).toNat) 51 := by
  rcases bitOf_two m 3 with h | h
  · have e : sign1 m 51 = [51, 51] := by
      unfold sign1
      rw [show 51 % 16 = 3 from rfl, h]
      rfl
    rw [h]
    show nextT m (List.replicate n 51) = List.replicate (n * 2) 51
    induction n with
    | zero => rfl
    | succ n ih =>
      rw [List.replicate_succ, show (51 :: List.replicate n 51) = [51] ++ List.replicate n 51 from rfl, nextT_append, ih, show nextT m [51] = sign1 m 51 from by simp [nextT], e]
      rw [show (n + 1) * 2 = (n * 2) + 1 + 1 from by omega]
      rfl
  · have e : sign1 m 51 = [51] := by
      unfold sign1
      rw [show 51 % 16 = 3 from rfl, h]
      rfl
    rw [h]
    show nextT m (List.replicate n 51) = List.replicate (n * 1) 51
    induction n with
    | zero => rfl
    | succ n ih =>
      rw [List.replicate_succ, show (51 :: List.replicate n 51) = [51] ++ List.replicate n 51 from rfl, nextT_append, ih, show nextT m [51] = sign1 m 51 from by simp [nextT], e]
      rw [show (n + 1) * 1 = (n * 1) + 1 from by omega]
      rfl
theorem sign1_digit (m : Int) (d : Nat) (hd : d < 10) : sign1 m (48 + d) = List.replicate (1 - bitOf m d).toNat 51 ++ [48 + d] := by
  unfold sign1
  rw [show (48 + d) % 16 = d from by omega, show (48 + d) / 16 = 3 from by omega]
  rcases bitOf_two m d with h | h
  · rw [h]
    simp [hexD, hd]
  · rw [h]
    simp
theorem threesT_nonneg (d : Nat) (ms : List Int) : ∀ n : Int, 0 ≤ n → 0 ≤ threesT d n ms := by
  induction ms with
  | nil => intro n h; exact h
  | cons m ms ih =>
    intro n h
    refine ih _ ?_
    show 0 ≤ n * (2 - bitOf m 3) + 1 - bitOf m d
    have h1 : 0 ≤ n * (2 - bitOf m 3) := Int.mul_nonneg h (by rcases bitOf_two m 3 with e | e <;> omega)
    rcases bitOf_two m d with e | e <;> omega
theorem rounds_digit (d : Nat) (hd : d < 10) (ms : List Int) : ∀ n : Nat, roundsT ms (List.replicate n 51 ++ [48 + d]) = List.replicate (threesT d n ms).toNat 51 ++ [48 + d] := by
  induction ms with
  | nil => intro n; simp [roundsT, threesT]
  | cons m ms ih =>
    intro n
    have e : nextT m (List.replicate n 51 ++ [48 + d]) = List.replicate ((n : Int) * (2 - bitOf m 3) + 1 - bitOf m d).toNat 51 ++ [48 + d] := by
      rw [nextT_append, nextT_threes, show nextT m [48 + d] = sign1 m (48 + d) from by simp [nextT], sign1_digit m d hd, ← List.append_assoc]
      congr 1
      rw [List.replicate_append_replicate]
      congr 1
      have h1 : 0 ≤ (n : Int) * (2 - bitOf m 3) := Int.mul_nonneg (by omega) (by rcases bitOf_two m 3 with e | e <;> omega)
      have h2 : ((n * (2 - bitOf m 3).toNat : Nat) : Int) = (n : Int) * (2 - bitOf m 3) := by
        rw [Int.natCast_mul, Int.toNat_of_nonneg (by rcases bitOf_two m 3 with e | e <;> omega)]
      rcases bitOf_two m d with e | e <;> rw [e] <;> omega
    show roundsT ms (nextT m (List.replicate n 51 ++ [48 + d])) = List.replicate (threesT d ((n : Int) * (2 - bitOf m 3) + 1 - bitOf m d) ms).toNat 51 ++ [48 + d]
    rw [e, ih]
    congr 3
    have h1 : 0 ≤ (n : Int) * (2 - bitOf m 3) := Int.mul_nonneg (by omega) (by rcases bitOf_two m 3 with e | e <;> omega)
    rw [Int.toNat_of_nonneg (by rcases bitOf_two m d with e | e <;> omega)]
theorem rounds_digit0 (d : Nat) (hd : d < 10) (ms : List Int) : roundsT ms [48 + d] = digitT d ms := rounds_digit d hd ms 0

theorem staysT_le (k : Nat) : ∀ ms : List Int, staysT k ms ≤ ms.length
  | [] => Nat.le_refl _
  | m :: ms => by
    have := staysT_le k ms
    unfold staysT
    split
    · simp only [List.length_cons]; omega
    · exact Nat.zero_le _
/-- a sign stays till its bit isn't set, and is then its two figures -/
theorem rounds_sign (c : Nat) : ∀ ms : List Int, roundsT ms [c] = if staysT (c % 16) ms = ms.length then [c] else roundsT (ms.drop (staysT (c % 16) ms + 1)) [hexD (c / 16)] ++ roundsT (ms.drop (staysT (c % 16) ms + 1)) [hexD (c % 16)]
  | [] => rfl
  | m :: ms => by
    show roundsT ms (nextT m [c]) = _
    rw [show nextT m [c] = sign1 m c from by simp [nextT]]
    unfold sign1
    by_cases h : bitOf m (c % 16) = 1
    · rw [if_pos h, rounds_sign c ms]
      have e : staysT (c % 16) (m :: ms) = staysT (c % 16) ms + 1 := by rw [staysT, if_pos h]
      rw [e]
      simp only [List.length_cons, Nat.add_right_cancel_iff, List.drop_succ_cons]
    · rw [if_neg h]
      have e : staysT (c % 16) (m :: ms) = 0 := by rw [staysT, if_neg h]
      rw [e, if_neg (by simp)]
      exact roundsT_append ms [hexD (c / 16)] [hexD (c % 16)]
theorem rounds_figure (v : Nat) (hv : v < 16) (ms : List Int) : roundsT ms [hexD v] = figureT v ms := by
  unfold hexD figureT
  by_cases h : v < 10
  · rw [if_pos h, if_pos h]; exact rounds_digit0 v h ms
  · rw [if_neg h, if_neg h, rounds_sign]
    rw [show (55 + v) % 16 = v - 9 from by omega, show (55 + v) / 16 = 4 from by omega]
    split
    · rfl
    · rw [show hexD 4 = 48 + 4 from rfl, show hexD (v - 9) = 48 + (v - 9) from by unfold hexD; rw [if_pos (by omega)], rounds_digit0 4 (by decide), rounds_digit0 (v - 9) (by omega)]
theorem rounds_octet (o : Nat) (ho : o < 256) (ms : List Int) : roundsT ms [o] = octetT o ms := by
  rw [rounds_sign]
  unfold octetT
  rw [rounds_figure (o / 16) (by omega), rounds_figure (o % 16) (by omega)]
theorem rounds_octets (os : List Nat) (ho : ∀ o ∈ os, o < 256) (ms : List Int) : roundsT ms os = os.flatMap (fun o => octetT o ms) := by
  induction os with
  | nil =>
    show roundsT ms [] = []
    induction ms with
    | nil => rfl
    | cons m ms ih => exact ih
  | cons o os ih =>
    rw [show (o :: os) = [o] ++ os from rfl, roundsT_append, rounds_octet o (ho o (.head _)), ih fun x hx => ho x (.tail _ hx)]
    simp
/-- sizes and signs -/
theorem hexD_lt (n : Nat) (h : n < 16) : hexD n < 128 := by unfold hexD; split <;> omega
theorem nextT_lt (m : Int) (t : List Nat) (h : ∀ c ∈ t, c < 256) : ∀ c ∈ nextT m t, c < 256 := by
  intro c hc
  simp only [nextT, List.mem_flatMap] at hc
  obtain ⟨a, ha, hc⟩ := hc
  have := h a ha
  unfold sign1 at hc
  split at hc
  · simp only [List.mem_singleton] at hc; omega
  · simp only [List.mem_cons, List.not_mem_nil, or_false] at hc
    rcases hc with rfl | rfl
    · have := hexD_lt (a / 16) (by omega); omega
    · have := hexD_lt (a % 16) (by omega); omega
theorem nextT_len (m : Int) (t : List Nat) : (nextT m t).length ≤ 2 * t.length := by
  induction t with
  | nil => exact Nat.le_refl _
  | cons c t ih =>
    have e : (nextT m (c :: t)) = sign1 m c ++ nextT m t := by simp [nextT]
    have : (sign1 m c).length ≤ 2 := by unfold sign1; split <;> simp
    rw [e, List.length_append, List.length_cons]; omega
end Mine
end
section
open PySem PySem.W PyProof.Rows
namespace Mine
/-! the states of the top, as the run leaves them (printed by a program of ours) -/
noncomputable abbrev PWc : Program := PySem.Challenge.pw_op0047_01
noncomputable def stAt (i : Nat) : Stmt := match PWc.main.body[i]? with | some s => s | none => .Pass ⟨0, 0, 0, 0⟩
noncomputable def fnD (s : Stmt) (dV pm cd : Value) : Data := match s with
  | .FunctionDef name args body _ _ _ scope _ _ _ => .func { name := name, qualname := name, params := args, body := .stmts body, scope := scope, globals := 3, closure := [], defaults := dV, kwdefaults := .none, doc := .none, pyModule := pm, annotations := none, code := cd, closureTuple := .none, builtins := 0 }
  | _ => .plain
noncomputable def fnP (s : Stmt) : Data := match s with
  | .FunctionDef name args body _ _ _ scope _ _ _ => .func { name := name, qualname := name, params := args, body := .stmts body, scope := scope, globals := 0, closure := [], defaults := .none, kwdefaults := .none, doc := .none, pyModule := .none, annotations := none, code := .none, closureTuple := .none, builtins := 0 }
  | _ => .plain
noncomputable abbrev dE (P : Params) (x : Str) (t : Nat) (v : Value) : DictEntry := ⟨PyData.keyHash P x, .str x t, v⟩
noncomputable def qV (c : Nat) : Value := .str (Str.mk #[61, hexD (c / 16), hexD (c % 16)]) (364 + 4 * c)
noncomputable def qA (n : Nat) : Array Value := ((List.range n).map qV).toArray
noncomputable def hxs : List Nat := [45, 33, 42, 43, 47] ++ (List.range 26).map (· + 97) ++ (List.range 26).map (· + 65) ++ (List.range 10).map (· + 48)
noncomputable def bxs : List Nat := (List.range 29).map (· + 32) ++ (List.range 65).map (· + 62) ++ [9]
noncomputable def setAll (t : Nat) (l : List Nat) : Nat → Array Value → Array Value
  | 0, a => a
  | k + 1, a => (setAll t l k a).setIfInBounds (l.getD k 0) (.str (Str.mk #[l.getD k 0]) (t + 3 * k))
noncomputable def hA (k : Nat) : Array Value := setAll 1412 hxs k (qA 256)
noncomputable def bA (k : Nat) : Array Value := setAll 1617 bxs k (qA 256)
noncomputable def hB : Array Value := (hA 67).setIfInBounds 32 (.str (Str.ofString "_") 1611)
noncomputable def bB : Array Value := ((bA 95).setIfInBounds 13 (.str (Str.mk #[13]) 1918)).setIfInBounds 10 (.str (Str.mk #[10]) 1921)
noncomputable def o0k0 (P : Params) (r : List DictEntry) : List DictEntry := dE P (Str.ofString "__name__") 1 (.str (Str.ofString "builtins") 160) :: dE P (Str.ofString "__doc__") 2 (.builtin "builtins.__doc__:str#opaque") :: dE P (Str.ofString "__package__") 3 (.builtin "builtins.__package__:str#opaque") :: dE P (Str.ofString "__loader__") 4 (.builtin "builtins.__loader__:shared#opaque") :: dE P (Str.ofString "__spec__") 5 (.builtin "builtins.__spec__#opaque") :: dE P (Str.ofString "__build_class__") 6 (.builtin "__build_class__") :: dE P (Str.ofString "__import__") 7 (.builtin "__import__") :: dE P (Str.ofString "abs") 8 (.builtin "abs") :: r
noncomputable def o0k1 (P : Params) (r : List DictEntry) : List DictEntry := dE P (Str.ofString "all") 9 (.builtin "all") :: dE P (Str.ofString "any") 10 (.builtin "any") :: dE P (Str.ofString "ascii") 11 (.builtin "ascii") :: dE P (Str.ofString "bin") 12 (.builtin "bin") :: dE P (Str.ofString "breakpoint") 13 (.builtin "breakpoint") :: dE P (Str.ofString "callable") 14 (.builtin "callable") :: dE P (Str.ofString "chr") 15 (.builtin "chr") :: dE P (Str.ofString "compile") 16 (.builtin "compile") :: r
noncomputable def o0k2 (P : Params) (r : List DictEntry) : List DictEntry := dE P (Str.ofString "delattr") 17 (.builtin "delattr") :: dE P (Str.ofString "dir") 18 (.builtin "dir") :: dE P (Str.ofString "divmod") 19 (.builtin "divmod") :: dE P (Str.ofString "eval") 20 (.builtin "eval") :: dE P (Str.ofString "exec") 21 (.builtin "exec") :: dE P (Str.ofString "format") 22 (.builtin "format") :: dE P (Str.ofString "getattr") 23 (.builtin "getattr") :: dE P (Str.ofString "globals") 24 (.builtin "globals") :: r
noncomputable def o0k3 (P : Params) (r : List DictEntry) : List DictEntry := dE P (Str.ofString "hasattr") 25 (.builtin "hasattr") :: dE P (Str.ofString "hash") 26 (.builtin "hash") :: dE P (Str.ofString "hex") 27 (.builtin "hex") :: dE P (Str.ofString "id") 28 (.builtin "id") :: dE P (Str.ofString "input") 29 (.builtin "input") :: dE P (Str.ofString "isinstance") 30 (.builtin "isinstance") :: dE P (Str.ofString "issubclass") 31 (.builtin "issubclass") :: dE P (Str.ofString "iter") 32 (.builtin "iter") :: r
noncomputable def o0k4 (P : Params) (r : List DictEntry) : List DictEntry := dE P (Str.ofString "aiter") 33 (.builtin "aiter") :: dE P (Str.ofString "len") 34 (.builtin "len") :: dE P (Str.ofString "locals") 35 (.builtin "locals") :: dE P (Str.ofString "max") 36 (.builtin "max") :: dE P (Str.ofString "min") 37 (.builtin "min") :: dE P (Str.ofString "next") 38 (.builtin "next") :: dE P (Str.ofString "anext") 39 (.builtin "anext") :: dE P (Str.ofString "oct") 40 (.builtin "oct") :: r
noncomputable def o0k5 (P : Params) (r : List DictEntry) : List DictEntry := dE P (Str.ofString "ord") 41 (.builtin "ord") :: dE P (Str.ofString "pow") 42 (.builtin "pow") :: dE P (Str.ofString "print") 43 (.builtin "print") :: dE P (Str.ofString "repr") 44 (.builtin "repr") :: dE P (Str.ofString "round") 45 (.builtin "round") :: dE P (Str.ofString "setattr") 46 (.builtin "setattr") :: dE P (Str.ofString "sorted") 47 (.builtin "sorted") :: dE P (Str.ofString "sum") 48 (.builtin "sum") :: r
noncomputable def o0k6 (P : Params) (r : List DictEntry) : List DictEntry := dE P (Str.ofString "vars") 49 (.builtin "vars") :: dE P (Str.ofString "None") 50 (.none) :: dE P (Str.ofString "Ellipsis") 51 (.ellipsis) :: dE P (Str.ofString "NotImplemented") 52 (.notImplemented) :: dE P (Str.ofString "False") 53 (.bool false) :: dE P (Str.ofString "True") 54 (.bool true) :: dE P (Str.ofString "bool") 55 (.type "bool") :: dE P (Str.ofString "memoryview") 56 (.type "memoryview") :: r
noncomputable def o0k7 (P : Params) (r : List DictEntry) : List DictEntry := dE P (Str.ofString "bytearray") 57 (.type "bytearray") :: dE P (Str.ofString "bytes") 58 (.type "bytes") :: dE P (Str.ofString "classmethod") 59 (.type "classmethod") :: dE P (Str.ofString "complex") 60 (.type "complex") :: dE P (Str.ofString "dict") 61 (.type "dict") :: dE P (Str.ofString "enumerate") 62 (.type "enumerate") :: dE P (Str.ofString "filter") 63 (.type "filter") :: dE P (Str.ofString "float") 64 (.type "float") :: r
noncomputable def o0k8 (P : Params) (r : List DictEntry) : List DictEntry := dE P (Str.ofString "frozenset") 65 (.type "frozenset") :: dE P (Str.ofString "property") 66 (.type "property") :: dE P (Str.ofString "int") 67 (.type "int") :: dE P (Str.ofString "list") 68 (.type "list") :: dE P (Str.ofString "map") 69 (.type "map") :: dE P (Str.ofString "object") 70 (.type "object") :: dE P (Str.ofString "range") 71 (.type "range") :: dE P (Str.ofString "reversed") 72 (.type "reversed") :: r
noncomputable def o0k9 (P : Params) (r : List DictEntry) : List DictEntry := dE P (Str.ofString "set") 73 (.type "set") :: dE P (Str.ofString "slice") 74 (.type "slice") :: dE P (Str.ofString "staticmethod") 75 (.type "staticmethod") :: dE P (Str.ofString "str") 76 (.type "str") :: dE P (Str.ofString "super") 77 (.type "super") :: dE P (Str.ofString "tuple") 78 (.type "tuple") :: dE P (Str.ofString "type") 79 (.type "type") :: dE P (Str.ofString "zip") 80 (.type "zip") :: r
noncomputable def o0k10 (P : Params) (r : List DictEntry) : List DictEntry := dE P (Str.ofString "__debug__") 81 (.bool true) :: dE P (Str.ofString "BaseException") 82 (.type "BaseException") :: dE P (Str.ofString "BaseExceptionGroup") 83 (.type "BaseExceptionGroup") :: dE P (Str.ofString "Exception") 84 (.type "Exception") :: dE P (Str.ofString "GeneratorExit") 85 (.type "GeneratorExit") :: dE P (Str.ofString "KeyboardInterrupt") 86 (.type "KeyboardInterrupt") :: dE P (Str.ofString "SystemExit") 87 (.type "SystemExit") :: dE P (Str.ofString "ArithmeticError") 88 (.type "ArithmeticError") :: r
noncomputable def o0k11 (P : Params) (r : List DictEntry) : List DictEntry := dE P (Str.ofString "AssertionError") 89 (.type "AssertionError") :: dE P (Str.ofString "AttributeError") 90 (.type "AttributeError") :: dE P (Str.ofString "BufferError") 91 (.type "BufferError") :: dE P (Str.ofString "EOFError") 92 (.type "EOFError") :: dE P (Str.ofString "ImportError") 93 (.type "ImportError") :: dE P (Str.ofString "LookupError") 94 (.type "LookupError") :: dE P (Str.ofString "MemoryError") 95 (.type "MemoryError") :: dE P (Str.ofString "NameError") 96 (.type "NameError") :: r
noncomputable def o0k12 (P : Params) (r : List DictEntry) : List DictEntry := dE P (Str.ofString "OSError") 97 (.type "OSError") :: dE P (Str.ofString "ReferenceError") 98 (.type "ReferenceError") :: dE P (Str.ofString "RuntimeError") 99 (.type "RuntimeError") :: dE P (Str.ofString "StopAsyncIteration") 100 (.type "StopAsyncIteration") :: dE P (Str.ofString "StopIteration") 101 (.type "StopIteration") :: dE P (Str.ofString "SyntaxError") 102 (.type "SyntaxError") :: dE P (Str.ofString "SystemError") 103 (.type "SystemError") :: dE P (Str.ofString "TypeError") 104 (.type "TypeError") :: r
noncomputable def o0k13 (P : Params) (r : List DictEntry) : List DictEntry := dE P (Str.ofString "ValueError") 105 (.type "ValueError") :: dE P (Str.ofString "Warning") 106 (.type "Warning") :: dE P (Str.ofString "FloatingPointError") 107 (.type "FloatingPointError") :: dE P (Str.ofString "OverflowError") 108 (.type "OverflowError") :: dE P (Str.ofString "ZeroDivisionError") 109 (.type "ZeroDivisionError") :: dE P (Str.ofString "BytesWarning") 110 (.type "BytesWarning") :: dE P (Str.ofString "DeprecationWarning") 111 (.type "DeprecationWarning") :: dE P (Str.ofString "EncodingWarning") 112 (.type "EncodingWarning") :: r
noncomputable def o0k14 (P : Params) (r : List DictEntry) : List DictEntry := dE P (Str.ofString "FutureWarning") 113 (.type "FutureWarning") :: dE P (Str.ofString "ImportWarning") 114 (.type "ImportWarning") :: dE P (Str.ofString "PendingDeprecationWarning") 115 (.type "PendingDeprecationWarning") :: dE P (Str.ofString "ResourceWarning") 116 (.type "ResourceWarning") :: dE P (Str.ofString "RuntimeWarning") 117 (.type "RuntimeWarning") :: dE P (Str.ofString "SyntaxWarning") 118 (.type "SyntaxWarning") :: dE P (Str.ofString "UnicodeWarning") 119 (.type "UnicodeWarning") :: dE P (Str.ofString "UserWarning") 120 (.type "UserWarning") :: r
noncomputable def o0k15 (P : Params) (r : List DictEntry) : List DictEntry := dE P (Str.ofString "BlockingIOError") 121 (.type "BlockingIOError") :: dE P (Str.ofString "ChildProcessError") 122 (.type "ChildProcessError") :: dE P (Str.ofString "ConnectionError") 123 (.type "ConnectionError") :: dE P (Str.ofString "FileExistsError") 124 (.type "FileExistsError") :: dE P (Str.ofString "FileNotFoundError") 125 (.type "FileNotFoundError") :: dE P (Str.ofString "InterruptedError") 126 (.type "InterruptedError") :: dE P (Str.ofString "IsADirectoryError") 127 (.type "IsADirectoryError") :: dE P (Str.ofString "NotADirectoryError") 128 (.type "NotADirectoryError") :: r
noncomputable def o0k16 (P : Params) (r : List DictEntry) : List DictEntry := dE P (Str.ofString "PermissionError") 129 (.type "PermissionError") :: dE P (Str.ofString "ProcessLookupError") 130 (.type "ProcessLookupError") :: dE P (Str.ofString "TimeoutError") 131 (.type "TimeoutError") :: dE P (Str.ofString "IndentationError") 132 (.type "IndentationError") :: dE P (Str.ofString "_IncompleteInputError") 133 (.type "_IncompleteInputError") :: dE P (Str.ofString "IndexError") 134 (.type "IndexError") :: dE P (Str.ofString "KeyError") 135 (.type "KeyError") :: dE P (Str.ofString "ModuleNotFoundError") 136 (.type "ModuleNotFoundError") :: r
noncomputable def o0k17 (P : Params) (r : List DictEntry) : List DictEntry := dE P (Str.ofString "NotImplementedError") 137 (.type "NotImplementedError") :: dE P (Str.ofString "PythonFinalizationError") 138 (.type "PythonFinalizationError") :: dE P (Str.ofString "RecursionError") 139 (.type "RecursionError") :: dE P (Str.ofString "UnboundLocalError") 140 (.type "UnboundLocalError") :: dE P (Str.ofString "UnicodeError") 141 (.type "UnicodeError") :: dE P (Str.ofString "BrokenPipeError") 142 (.type "BrokenPipeError") :: dE P (Str.ofString "ConnectionAbortedError") 143 (.type "ConnectionAbortedError") :: dE P (Str.ofString "ConnectionRefusedError") 144 (.type "ConnectionRefusedError") :: r
noncomputable def o0k18 (P : Params) (r : List DictEntry) : List DictEntry := dE P (Str.ofString "ConnectionResetError") 145 (.type "ConnectionResetError") :: dE P (Str.ofString "TabError") 146 (.type "TabError") :: dE P (Str.ofString "UnicodeDecodeError") 147 (.type "UnicodeDecodeError") :: dE P (Str.ofString "UnicodeEncodeError") 148 (.type "UnicodeEncodeError") :: dE P (Str.ofString "UnicodeTranslateError") 149 (.type "UnicodeTranslateError") :: dE P (Str.ofString "ExceptionGroup") 150 (.type "ExceptionGroup") :: dE P (Str.ofString "EnvironmentError") 151 (.type "OSError") :: dE P (Str.ofString "IOError") 152 (.type "OSError") :: r
noncomputable def o0k19 (P : Params) (r : List DictEntry) : List DictEntry := dE P (Str.ofString "open") 153 (.builtin "open") :: dE P (Str.ofString "quit") 154 (.builtin "builtins.quit#opaque") :: dE P (Str.ofString "exit") 155 (.builtin "builtins.exit#opaque") :: dE P (Str.ofString "copyright") 156 (.builtin "builtins.copyright#opaque") :: dE P (Str.ofString "credits") 157 (.builtin "builtins.credits#opaque") :: dE P (Str.ofString "license") 158 (.builtin "builtins.license#opaque") :: dE P (Str.ofString "help") 159 (.builtin "builtins.help#opaque") :: r
noncomputable def o0 (P : Params) : Obj := ⟨.type "dict", none, .dict (List.toArray (o0k0 P (o0k1 P (o0k2 P (o0k3 P (o0k4 P (o0k5 P (o0k6 P (o0k7 P (o0k8 P (o0k9 P (o0k10 P (o0k11 P (o0k12 P (o0k13 P (o0k14 P (o0k15 P (o0k16 P (o0k17 P (o0k18 P (o0k19 P []))))))))))))))))))))) 159, #[]⟩
noncomputable def o1 (P : Params) : Obj := ⟨.type "dict", none, .dict #[dE P (Str.ofString "builtins") 162 (.ref 4), dE P (Str.ofString "__main__") 163 (.ref 5), dE P (Str.ofString "_sre") 244 (.ref 12)] 3, #[]⟩
noncomputable def o2 (P : Params) : Obj := ⟨.none, none, .dict #[dE P (Str.ofString "\x69mport.loaded._sre") 183 (.bool true), dE P (Str.ofString "class._frozen_importlib.BuiltinImporter") 185 (.ref 14), dE P (Str.ofString "watched.\x69mport") 206 (.ref 18), dE P (Str.ofString "class._frozen_importlib.ModuleSpec") 216 (.ref 22), dE P (Str.ofString "sys.modules.booked-epoch") 245 (.int 3 0), dE P (Str.ofString "\x69mport.later-laid._sre") 270 (.bool true), dE P (Str.ofString "watched.library") 272 (.ref 27), dE P (Str.ofString "watched.library-objects") 0 (.str (Str.mk #[12]) 0), dE P (Str.ofString "watched.library-deep._sre") 273 (.str (Str.mk #[4, 0, 0, 11, 4, 0, 0, 11, 4, 0, 0, 3, 4, 0, 0, 11, 8, 4, 100, 105, 99, 116, 2]) 0)] 9, #[]⟩
noncomputable def o3 (P : Params) : Obj := ⟨.type "dict", none, .dict #[dE P (Str.ofString "__name__") 165 (.str (Str.ofString "__main__") 164), dE P (Str.ofString "__doc__") 166 (.none), dE P (Str.ofString "__package__") 167 (.none), dE P (Str.ofString "__loader__") 168 (.builtin "__main__.__loader__#opaque"), dE P (Str.ofString "__spec__") 169 (.none), dE P (Str.ofString "__annotations__") 170 (.ref 6), dE P (Str.ofString "__builtins__") 171 (.ref 4), dE P (Str.ofString "__file__") 173 (.str (Str.ofString "/claim/cut.py") 172), dE P (Str.ofString "__cached__") 174 (.none), dE P (Str.ofString "_sre") 275 (.ref 12)] 10, #[]⟩
noncomputable def o4 : Obj := ⟨.type "module", some (0), .plain, #[]⟩
noncomputable def o5 : Obj := ⟨.type "module", some (3), .plain, #[]⟩
noncomputable def o6 : Obj := ⟨.type "dict", none, .dict #[] 0, #[]⟩
noncomputable def o7 : Obj := ⟨.type "tuple", none, .seq #[] 0, #[]⟩
noncomputable def o8 : Obj := ⟨.none, none, .fields #[], #[]⟩
noncomputable def o9 : Obj := ⟨.type "code", none, .fields #[.str (Str.ofString "<module>") 176, .str (Str.ofString "<module>") 177, .str (Str.ofString "/claim/cut.py") 178, .int 1 0, .int 0 0, .int 0 0, .int 0 0, .int 0 0, .ref 7, .bool false, .int 175 0, .ref 8, .none, .none, .none, .none, .int 179 0, .int 1 0, .str (Str.ofString "/claim/cut.py") 180], #[]⟩
noncomputable def o10 : Obj := ⟨.type "frame", none, .plain, #[some (.ref 9), some (.ref 3), some (.ref 3), none, some (.str (Str.ofString "__main__") 164), none, some (.ref 0)]⟩
noncomputable def o11 (P : Params) : Obj := ⟨.type "dict", none, .dict #[dE P (Str.ofString "__name__") 247 (.str (Str.ofString "_sre") 246), dE P (Str.ofString "__doc__") 248 (.none), dE P (Str.ofString "__package__") 250 (.str (Str.ofString "") 249), dE P (Str.ofString "__loader__") 251 (.builtin "off-the-table:_sre.__loader__:shared#opaque"), dE P (Str.ofString "__spec__") 252 (.builtin "off-the-table:_sre.__spec__:shared#opaque"), dE P (Str.ofString "compile") 253 (.builtin "_sre.compile"), dE P (Str.ofString "template") 254 (.builtin "off-the-table:_sre.template:shared#opaque"), dE P (Str.ofString "getcodesize") 255 (.builtin "off-the-table:_sre.getcodesize:shared#opaque"), dE P (Str.ofString "ascii_iscased") 256 (.builtin "off-the-table:_sre.ascii_iscased:shared#opaque"), dE P (Str.ofString "unicode_iscased") 257 (.builtin "off-the-table:_sre.unicode_iscased:shared#opaque"), dE P (Str.ofString "ascii_tolower") 258 (.builtin "off-the-table:_sre.ascii_tolower:shared#opaque"), dE P (Str.ofString "unicode_tolower") 259 (.builtin "off-the-table:_sre.unicode_tolower:shared#opaque"), dE P (Str.ofString "MAGIC") 261 (.int 20230612 260), dE P (Str.ofString "CODESIZE") 263 (.int 4 262), dE P (Str.ofString "MAXREPEAT") 265 (.int 4294967295 264), dE P (Str.ofString "MAXGROUPS") 267 (.int 1073741823 266), dE P (Str.ofString "copyright") 269 (.str (Str.ofString " SRE 2.2.2 Copyright (c) 1997-2002 by Secret Labs AB ") 268)] 17, #[]⟩
noncomputable def o12 : Obj := ⟨.type "module", some (11), .plain, #[]⟩
noncomputable def o13 (P : Params) : Obj := ⟨.type "dict", none, .dict #[dE P (Str.ofString "__module__") 189 (.str (Str.ofString "_frozen_importlib") 186), dE P (Str.ofString "__firstlineno__") 190 (.int 971 187), dE P (Str.ofString "__doc__") 191 (.builtin "_frozen_importlib.BuiltinImporter.__doc__:str#opaque"), dE P (Str.ofString "_ORIGIN") 192 (.str (Str.ofString "built-in") 188), dE P (Str.ofString "find_spec") 193 (.builtin "_frozen_importlib.BuiltinImporter.find_spec#opaque"), dE P (Str.ofString "create_module") 194 (.builtin "_frozen_importlib.BuiltinImporter.create_module#opaque"), dE P (Str.ofString "exec_module") 195 (.builtin "_frozen_importlib.BuiltinImporter.exec_module#opaque"), dE P (Str.ofString "get_code") 196 (.builtin "_frozen_importlib.BuiltinImporter.get_code#opaque"), dE P (Str.ofString "get_source") 197 (.builtin "_frozen_importlib.BuiltinImporter.get_source#opaque"), dE P (Str.ofString "is_package") 198 (.builtin "_frozen_importlib.BuiltinImporter.is_package#opaque"), dE P (Str.ofString "load_module") 199 (.builtin "_frozen_importlib.BuiltinImporter.load_module#opaque"), dE P (Str.ofString "__static_attributes__") 200 (.ref 15), dE P (Str.ofString "__dict__") 202 (.ref 16), dE P (Str.ofString "__weakref__") 204 (.ref 17)] 14, #[]⟩
noncomputable def o14 : Obj := ⟨.type "type", none, .cls { name := (Str.ofString "BuiltinImporter"), bases := [.type "object"], mro := [.ref 14, .type "object"], ns := 13, qualname := (Str.ofString "BuiltinImporter"), hasDict := true, slotNames := [], subclasses := [], abstract := false, collection := none, hasDel := false }, #[]⟩
noncomputable def o15 : Obj := ⟨.type "tuple", none, .seq #[] 0, #[]⟩
noncomputable def o16 : Obj := ⟨.type "getset_descriptor", none, .fields #[.str (Str.ofString "__dict__") 201, .ref 14, .builtin "function.__dict__", .builtin "function.__dict__#set"], #[]⟩
noncomputable def o17 : Obj := ⟨.type "getset_descriptor", none, .fields #[.str (Str.ofString "__weakref__") 203, .ref 14, .builtin "ExceptionGroup.__weakref__", .none], #[]⟩
noncomputable def o18 : Obj := ⟨.none, none, .seq #[.int 13 0, .str (Str.mk #[6, 189, 10, 95, 95, 109, 111, 100, 117, 108, 101, 95, 95, 6, 186, 17, 95, 102, 114, 111, 122, 101, 110, 95, 105, 109, 112, 111, 114, 116, 108, 105, 98, 6, 190, 15, 95, 95, 102, 105, 114, 115, 116, 108, 105, 110, 101, 110, 111, 95, 95, 4, 187, 0, 971, 6, 191, 7, 95, 95, 100, 111, 99, 95, 95, 9, 52, 95, 102, 114, 111, 122, 101, 110, 95, 105, 109, 112, 111, 114, 116, 108, 105, 98, 46, 66, 117, 105, 108, 116, 105, 110, 73, 109, 112, 111, 114, 116, 101, 114, 46, 95, 95, 100, 111, 99, 95, 95, 58, 115, 116, 114, 35, 111, 112, 97, 113, 117, 101, 6, 192, 7, 95, 79, 82, 73, 71, 73, 78, 6, 188, 8, 98, 117, 105, 108, 116, 45, 105, 110, 6, 193, 9, 102, 105, 110, 100, 95, 115, 112, 101, 99, 9, 50, 95, 102, 114, 111, 122, 101, 110, 95, 105, 109, 112, 111, 114, 116, 108, 105, 98, 46, 66, 117, 105, 108, 116, 105, 110, 73, 109, 112, 111, 114, 116, 101, 114, 46, 102, 105, 110, 100, 95, 115, 112, 101, 99, 35, 111, 112, 97, 113, 117, 101, 6, 194, 13, 99, 114, 101, 97, 116, 101, 95, 109, 111, 100, 117, 108, 101, 9, 54, 95, 102, 114, 111, 122, 101, 110, 95, 105, 109, 112, 111, 114, 116, 108, 105, 98, 46, 66, 117, 105, 108, 116, 105, 110, 73, 109, 112, 111, 114, 116, 101, 114, 46, 99, 114, 101, 97, 116, 101, 95, 109, 111, 100, 117, 108, 101, 35, 111, 112, 97, 113, 117, 101, 6, 195, 11, 101, 120, 101, 99, 95, 109, 111, 100, 117, 108, 101, 9, 52, 95, 102, 114, 111, 122, 101, 110, 95, 105, 109, 112, 111, 114, 116, 108, 105, 98, 46, 66, 117, 105, 108, 116, 105, 110, 73, 109, 112, 111, 114, 116, 101, 114, 46, 101, 120, 101, 99, 95, 109, 111, 100, 117, 108, 101, 35, 111, 112, 97, 113, 117, 101, 6, 196, 8, 103, 101, 116, 95, 99, 111, 100, 101, 9, 49, 95, 102, 114, 111, 122, 101, 110, 95, 105, 109, 112, 111, 114, 116, 108, 105, 98, 46, 66, 117, 105, 108, 116, 105, 110, 73, 109, 112, 111, 114, 116, 101, 114, 46, 103, 101, 116, 95, 99, 111, 100, 101, 35, 111, 112, 97, 113, 117, 101, 6, 197, 10, 103, 101, 116, 95, 115, 111, 117, 114, 99, 101, 9, 51, 95, 102, 114, 111, 122, 101, 110, 95, 105, 109, 112, 111, 114, 116, 108, 105, 98, 46, 66, 117, 105, 108, 116, 105, 110, 73, 109, 112, 111, 114, 116, 101, 114, 46, 103, 101, 116, 95, 115, 111, 117, 114, 99, 101, 35, 111, 112, 97, 113, 117, 101, 6, 198, 10, 105, 115, 95, 112, 97, 99, 107, 97, 103, 101, 9, 51, 95, 102, 114, 111, 122, 101, 110, 95, 105, 109, 112, 111, 114, 116, 108, 105, 98, 46, 66, 117, 105, 108, 116, 105, 110, 73, 109, 112, 111, 114, 116, 101, 114, 46, 105, 115, 95, 112, 97, 99, 107, 97, 103, 101, 35, 111, 112, 97, 113, 117, 101, 6, 199, 11, 108, 111, 97, 100, 95, 109, 111, 100, 117, 108, 101, 9, 52, 95, 102, 114, 111, 122, 101, 110, 95, 105, 109, 112, 111, 114, 116, 108, 105, 98, 46, 66, 117, 105, 108, 116, 105, 110, 73, 109, 112, 111, 114, 116, 101, 114, 46, 108, 111, 97, 100, 95, 109, 111, 100, 117, 108, 101, 35, 111, 112, 97, 113, 117, 101, 6, 200, 21, 95, 95, 115, 116, 97, 116, 105, 99, 95, 97, 116, 116, 114, 105, 98, 117, 116, 101, 115, 95, 95, 4, 0, 0, 15, 6, 202, 8, 95, 95, 100, 105, 99, 116, 95, 95, 4, 0, 0, 16, 6, 204, 11, 95, 95, 119, 101, 97, 107, 114, 101, 102, 95, 95, 4, 0, 0, 17]) 0, .bool true, .bool true, .str (Str.ofString "") 205, .int 21 0, .str (Str.mk #[6, 227, 10, 95, 95, 109, 111, 100, 117, 108, 101, 95, 95, 6, 217, 17, 95, 102, 114, 111, 122, 101, 110, 95, 105, 109, 112, 111, 114, 116, 108, 105, 98, 6, 228, 15, 95, 95, 102, 105, 114, 115, 116, 108, 105, 110, 101, 110, 111, 95, 95, 4, 218, 0, 562, 6, 229, 7, 95, 95, 100, 111, 99, 95, 95, 9, 47, 95, 102, 114, 111, 122, 101, 110, 95, 105, 109, 112, 111, 114, 116, 108, 105, 98, 46, 77, 111, 100, 117, 108, 101, 83, 112, 101, 99, 46, 95, 95, 100, 111, 99, 95, 95, 58, 115, 116, 114, 35, 111, 112, 97, 113, 117, 101, 6, 230, 8, 95, 95, 105, 110, 105, 116, 95, 95, 9, 44, 95, 102, 114, 111, 122, 101, 110, 95, 105, 109, 112, 111, 114, 116, 108, 105, 98, 46, 77, 111, 100, 117, 108, 101, 83, 112, 101, 99, 46, 95, 95, 105, 110, 105, 116, 95, 95, 35, 111, 112, 97, 113, 117, 101, 6, 231, 8, 95, 95, 114, 101, 112, 114, 95, 95, 9, 44, 95, 102, 114, 111, 122, 101, 110, 95, 105, 109, 112, 111, 114, 116, 108, 105, 98, 46, 77, 111, 100, 117, 108, 101, 83, 112, 101, 99, 46, 95, 95, 114, 101, 112, 114, 95, 95, 35, 111, 112, 97, 113, 117, 101, 6, 232, 6, 95, 95, 101, 113, 95, 95, 9, 42, 95, 102, 114, 111, 122, 101, 110, 95, 105, 109, 112, 111, 114, 116, 108, 105, 98, 46, 77, 111, 100, 117, 108, 101, 83, 112, 101, 99, 46, 95, 95, 101, 113, 95, 95, 35, 111, 112, 97, 113, 117, 101, 6, 233, 6, 99, 97, 99, 104, 101, 100, 9, 42, 95, 102, 114, 111, 122, 101, 110, 95, 105, 109, 112, 111, 114, 116, 108, 105, 98, 46, 77, 111, 100, 117, 108, 101, 83, 112, 101, 99, 46, 99, 97, 99, 104, 101, 100, 35, 111, 112, 97, 113, 117, 101, 6, 234, 6, 112, 97, 114, 101, 110, 116, 9, 42, 95, 102, 114, 111, 122, 101, 110, 95, 105, 109, 112, 111, 114, 116, 108, 105, 98, 46, 77, 111, 100, 117, 108, 101, 83, 112, 101, 99, 46, 112, 97, 114, 101, 110, 116, 35, 111, 112, 97, 113, 117, 101, 6, 235, 12, 104, 97, 115, 95, 108, 111, 99, 97, 116, 105, 111, 110, 9, 48, 95, 102, 114, 111, 122, 101, 110, 95, 105, 109, 112, 111, 114, 116, 108, 105, 98, 46, 77, 111, 100, 117, 108, 101, 83, 112, 101, 99, 46, 104, 97, 115, 95, 108, 111, 99, 97, 116, 105, 111, 110, 35, 111, 112, 97, 113, 117, 101, 6, 236, 21, 95, 95, 115, 116, 97, 116, 105, 99, 95, 97, 116, 116, 114, 105, 98, 117, 116, 101, 115, 95, 95, 4, 0, 0, 23, 6, 238, 8, 95, 95, 100, 105, 99, 116, 95, 95, 4, 0, 0, 24, 6, 240, 11, 95, 95, 119, 101, 97, 107, 114, 101, 102, 95, 95, 4, 0, 0, 25, 6, 241, 8, 95, 95, 104, 97, 115, 104, 95, 95, 0]) 0, .bool true, .bool true, .str (Str.ofString "") 242] 1, #[]⟩
noncomputable def o19 : Obj := ⟨.type "list", none, .seq #[] 0, #[]⟩
noncomputable def o20 (P : Params) : Obj := ⟨.type "dict", none, .dict #[dE P (Str.ofString "name") 208 (.str (Str.ofString "_sre") 207), dE P (Str.ofString "loader") 209 (.ref 14), dE P (Str.ofString "origin") 210 (.str (Str.ofString "built-in") 184), dE P (Str.ofString "loader_state") 211 (.none), dE P (Str.ofString "submodule_search_locations") 212 (.none), dE P (Str.ofString "_uninitialized_submodules") 213 (.ref 19), dE P (Str.ofString "_set_fileattr") 214 (.bool false), dE P (Str.ofString "_cached") 215 (.none), dE P (Str.ofString "_initializing") 243 (.bool false)] 9, #[]⟩
noncomputable def o21 (P : Params) : Obj := ⟨.type "dict", none, .dict #[dE P (Str.ofString "__module__") 227 (.str (Str.ofString "_frozen_importlib") 217), dE P (Str.ofString "__firstlineno__") 228 (.int 562 218), dE P (Str.ofString "__doc__") 229 (.builtin "_frozen_importlib.ModuleSpec.__doc__:str#opaque"), dE P (Str.ofString "__init__") 230 (.builtin "_frozen_importlib.ModuleSpec.__init__#opaque"), dE P (Str.ofString "__repr__") 231 (.builtin "_frozen_importlib.ModuleSpec.__repr__#opaque"), dE P (Str.ofString "__eq__") 232 (.builtin "_frozen_importlib.ModuleSpec.__eq__#opaque"), dE P (Str.ofString "cached") 233 (.builtin "_frozen_importlib.ModuleSpec.cached#opaque"), dE P (Str.ofString "parent") 234 (.builtin "_frozen_importlib.ModuleSpec.parent#opaque"), dE P (Str.ofString "has_location") 235 (.builtin "_frozen_importlib.ModuleSpec.has_location#opaque"), dE P (Str.ofString "__static_attributes__") 236 (.ref 23), dE P (Str.ofString "__dict__") 238 (.ref 24), dE P (Str.ofString "__weakref__") 240 (.ref 25), dE P (Str.ofString "__hash__") 241 (.none)] 13, #[]⟩
noncomputable def o22 : Obj := ⟨.type "type", none, .cls { name := (Str.ofString "ModuleSpec"), bases := [.type "object"], mro := [.ref 22, .type "object"], ns := 21, qualname := (Str.ofString "ModuleSpec"), hasDict := true, slotNames := [], subclasses := [], abstract := false, collection := none, hasDel := false }, #[]⟩
noncomputable def o23 : Obj := ⟨.type "tuple", none, .seq #[.str (Str.ofString "_cached") 219, .str (Str.ofString "_set_fileattr") 220, .str (Str.ofString "_uninitialized_submodules") 221, .str (Str.ofString "loader") 222, .str (Str.ofString "loader_state") 223, .str (Str.ofString "name") 224, .str (Str.ofString "origin") 225, .str (Str.ofString "submodule_search_locations") 226] 0, #[]⟩
noncomputable def o24 : Obj := ⟨.type "getset_descriptor", none, .fields #[.str (Str.ofString "__dict__") 237, .ref 22, .builtin "function.__dict__", .builtin "function.__dict__#set"], #[]⟩
noncomputable def o25 : Obj := ⟨.type "getset_descriptor", none, .fields #[.str (Str.ofString "__weakref__") 239, .ref 22, .builtin "ExceptionGroup.__weakref__", .none], #[]⟩
noncomputable def o26 : Obj := ⟨.ref 22, some (20), .plain, #[]⟩
noncomputable def o27 : Obj := ⟨.none, none, .seq #[.int 11 0, .str (Str.mk #[6, 247, 8, 95, 95, 110, 97, 109, 101, 95, 95, 6, 246, 4, 95, 115, 114, 101, 6, 248, 7, 95, 95, 100, 111, 99, 95, 95, 0, 6, 250, 11, 95, 95, 112, 97, 99, 107, 97, 103, 101, 95, 95, 6, 249, 0, 6, 251, 10, 95, 95, 108, 111, 97, 100, 101, 114, 95, 95, 4, 0, 0, 14, 6, 252, 8, 95, 95, 115, 112, 101, 99, 95, 95, 4, 0, 0, 26, 6, 253, 7, 99, 111, 109, 112, 105, 108, 101, 9, 12, 95, 115, 114, 101, 46, 99, 111, 109, 112, 105, 108, 101, 6, 254, 8, 116, 101, 109, 112, 108, 97, 116, 101, 9, 13, 95, 115, 114, 101, 46, 116, 101, 109, 112, 108, 97, 116, 101, 6, 255, 11, 103, 101, 116, 99, 111, 100, 101, 115, 105, 122, 101, 9, 16, 95, 115, 114, 101, 46, 103, 101, 116, 99, 111, 100, 101, 115, 105, 122, 101, 6, 256, 13, 97, 115, 99, 105, 105, 95, 105, 115, 99, 97, 115, 101, 100, 9, 18, 95, 115, 114, 101, 46, 97, 115, 99, 105, 105, 95, 105, 115, 99, 97, 115, 101, 100, 6, 257, 15, 117, 110, 105, 99, 111, 100, 101, 95, 105, 115, 99, 97, 115, 101, 100, 9, 20, 95, 115, 114, 101, 46, 117, 110, 105, 99, 111, 100, 101, 95, 105, 115, 99, 97, 115, 101, 100, 6, 258, 13, 97, 115, 99, 105, 105, 95, 116, 111, 108, 111, 119, 101, 114, 9, 18, 95, 115, 114, 101, 46, 97, 115, 99, 105, 105, 95, 116, 111, 108, 111, 119, 101, 114, 6, 259, 15, 117, 110, 105, 99, 111, 100, 101, 95, 116, 111, 108, 111, 119, 101, 114, 9, 20, 95, 115, 114, 101, 46, 117, 110, 105, 99, 111, 100, 101, 95, 116, 111, 108, 111, 119, 101, 114, 6, 261, 5, 77, 65, 71, 73, 67, 4, 260, 0, 20230612, 6, 263, 8, 67, 79, 68, 69, 83, 73, 90, 69, 4, 262, 0, 4, 6, 265, 9, 77, 65, 88, 82, 69, 80, 69, 65, 84, 4, 264, 0, 4294967295, 6, 267, 9, 77, 65, 88, 71, 82, 79, 85, 80, 83, 4, 266, 0, 1073741823, 6, 269, 9, 99, 111, 112, 121, 114, 105, 103, 104, 116, 6, 268, 53, 32, 83, 82, 69, 32, 50, 46, 50, 46, 50, 32, 67, 111, 112, 121, 114, 105, 103, 104, 116, 32, 40, 99, 41, 32, 49, 57, 57, 55, 45, 50, 48, 48, 50, 32, 98, 121, 32, 83, 101, 99, 114, 101, 116, 32, 76, 97, 98, 115, 32, 65, 66, 32]) 0, .bool true, .bool false, .str (Str.ofString "_sre") 271] 0, #[]⟩
noncomputable def b0 (P : Params) : BT := (.node (o3 P) (.node o7 (.node o15 .nil .nil) (.node o23 .nil .nil)) (.node (o11 P) (.node o19 .nil .nil) (.node o27 .nil .nil)))
noncomputable def b1 (P : Params) : BT := (.node o5 (.node o9 (.node o17 .nil .nil) (.node o25 .nil .nil)) (.node (o13 P) (.node (o21 P) .nil .nil) .nil))
noncomputable def b2 (P : Params) : BT := (.node o4 (.node o8 (.node o16 .nil .nil) (.node o24 .nil .nil)) (.node o12 (.node (o20 P) .nil .nil) .nil))
noncomputable def b3 (P : Params) : BT := (.node o6 (.node o10 (.node o18 .nil .nil) (.node o26 .nil .nil)) (.node o14 (.node o22 .nil .nil) .nil))
noncomputable def tS0 (P : Params) : BT := (.node (o0 P) (.node (o1 P) (b0 P) (b1 P)) (.node (o2 P) (b2 P) (b3 P)))
noncomputable def S0 (w : World) (os : OsState) : SharedT := ⟨tS0 w.params, 28, {}, #[], {}, 276, os⟩
-- S0 pos { line := 0, col := 0, endLine := 0, endCol := 0 }
noncomputable def o28 : Obj := ⟨.type "tuple", none, .seq #[] 0, #[]⟩
noncomputable def o29 : Obj := ⟨.none, none, .fields #[], #[]⟩
noncomputable def o30 : Obj := ⟨.type "code", none, .fields #[.str (Str.ofString "<module>") 277, .str (Str.ofString "<module>") 278, .str (Str.ofString "/claim/cut.py") 279, .int 1 0, .int 0 0, .int 0 0, .int 0 0, .int 0 0, .ref 28, .bool false, .int 276 0, .ref 29, .none, .none, .none, .none, .int 280 0, .int 1 0, .str (Str.ofString "/claim/cut.py") 281], #[]⟩
noncomputable def o31 : Obj := ⟨.type "frame", none, .plain, #[some (.ref 30), some (.ref 3), some (.ref 3), none, some (.str (Str.ofString "__main__") 164), none, some (.ref 0)]⟩
noncomputable def b4 (P : Params) : BT := (.node (o3 P) (.node o7 (.node o15 (.node o31 .nil .nil) .nil) (.node o23 .nil .nil)) (.node (o11 P) (.node o19 .nil .nil) (.node o27 .nil .nil)))
noncomputable def b5 (P : Params) : BT := (.node o5 (.node o9 (.node o17 .nil .nil) (.node o25 .nil .nil)) (.node (o13 P) (.node (o21 P) .nil .nil) (.node o29 .nil .nil)))
noncomputable def b6 (P : Params) : BT := (.node o4 (.node o8 (.node o16 .nil .nil) (.node o24 .nil .nil)) (.node o12 (.node (o20 P) .nil .nil) (.node o28 .nil .nil)))
noncomputable def b7 (P : Params) : BT := (.node o6 (.node o10 (.node o18 .nil .nil) (.node o26 .nil .nil)) (.node o14 (.node o22 .nil .nil) (.node o30 .nil .nil)))
noncomputable def tSp (P : Params) : BT := (.node (o0 P) (.node (o1 P) (b4 P) (b5 P)) (.node (o2 P) (b6 P) (b7 P)))
noncomputable def Sp (w : World) (os : OsState) : SharedT := ⟨tSp w.params, 32, {}, #[], {}, 282, os⟩
-- Sp pos { line := 0, col := 0, endLine := 0, endCol := 0 }
noncomputable def o3v1 (P : Params) : Obj := ⟨.type "dict", none, .dict #[dE P (Str.ofString "__name__") 165 (.str (Str.ofString "cpy313.base64") 312), dE P (Str.ofString "__doc__") 166 (.none), dE P (Str.ofString "__package__") 167 (.none), dE P (Str.ofString "__loader__") 168 (.builtin "__main__.__loader__#opaque"), dE P (Str.ofString "__spec__") 169 (.none), dE P (Str.ofString "__annotations__") 170 (.ref 6), dE P (Str.ofString "__builtins__") 171 (.ref 4), dE P (Str.ofString "__file__") 173 (.str (Str.ofString "/claim/cut.py") 172), dE P (Str.ofString "__cached__") 174 (.none), dE P (Str.ofString "_sre") 275 (.ref 12), dE P (Str.ofString "_wall") 288 (.ref 38), dE P (Str.ofString "_buffer") 298 (.ref 45), dE P (Str.ofString "_NO_SEP") 299 (.ref 46), dE P (Str.ofString "b2a_hex") 310 (.ref 54), dE P (Str.ofString "hexlify") 311 (.ref 54), dE P (Str.ofString "b16encode") 320 (.ref 61), dE P (Str.ofString "_twin_re_1") 355 (.ref 66), dE P (Str.ofString "NL") 357 (.str (Str.mk #[10]) 356)] 18, #[]⟩
noncomputable def o29v1 : Obj := ⟨.none, none, .fields #[.int 2 0, .int 0 0, .ref 37, .int 6 0, .int 0 0, .ref 44, .int 14 0, .int 0 0, .ref 53, .int 32 0, .int 0 0, .ref 60], #[]⟩
noncomputable def o32 : Obj := ⟨.type "tuple", none, .seq #[] 0, #[]⟩
noncomputable def o33 : Obj := ⟨.none, none, .fields #[], #[]⟩
noncomputable def o34 : Obj := ⟨.type "tuple", none, .seq #[.str (Str.ofString "k") 285] 0, #[]⟩
noncomputable def o35 : Obj := ⟨.type "tuple", none, .seq #[] 0, #[]⟩
noncomputable def o36 : Obj := ⟨.none, none, fnP (stAt 1), #[]⟩
noncomputable def o37 : Obj := ⟨.type "code", none, .fields #[.str (Str.ofString "_wall") 282, .str (Str.ofString "_wall") 283, .str (Str.ofString "/claim/cut.py") 284, .int 2 0, .int 1 0, .int 0 0, .int 0 0, .int 3 0, .ref 32, .bool true, .int 276 0, .ref 33, .none, .ref 34, .ref 35, .ref 36, .int 286 0, .int 2 0, .str (Str.ofString "/claim/cut.py") 287], #[]⟩
noncomputable def o38 : Obj := ⟨.type "function", none, fnD (stAt 1) (.none) (.str (Str.ofString "__main__") 164) (.ref 37), #[]⟩
noncomputable def o39 : Obj := ⟨.type "tuple", none, .seq #[] 0, #[]⟩
noncomputable def o40 : Obj := ⟨.none, none, .fields #[], #[]⟩
noncomputable def o41 : Obj := ⟨.type "tuple", none, .seq #[.str (Str.ofString "data") 294, .str (Str.ofString "t") 295] 0, #[]⟩
noncomputable def o42 : Obj := ⟨.type "tuple", none, .seq #[] 0, #[]⟩
noncomputable def o43 : Obj := ⟨.none, none, fnP (stAt 3), #[]⟩
noncomputable def o44 : Obj := ⟨.type "code", none, .fields #[.str (Str.ofString "_buffer") 291, .str (Str.ofString "_buffer") 292, .str (Str.ofString "/claim/cut.py") 293, .int 6 0, .int 1 0, .int 0 0, .int 0 0, .int 3 0, .ref 39, .bool true, .int 276 0, .ref 40, .none, .ref 41, .ref 42, .ref 43, .int 296 0, .int 6 0, .str (Str.ofString "/claim/cut.py") 297], #[]⟩
noncomputable def o45 : Obj := ⟨.type "function", none, fnD (stAt 3) (.none) (.str (Str.ofString "binascii") 289) (.ref 44), #[]⟩
noncomputable def o46 : Obj := ⟨.type "object", none, .plain, #[]⟩
noncomputable def o47 : Obj := ⟨.type "tuple", none, .seq #[.ref 46, .int 1 300] 0, #[]⟩
noncomputable def o48 : Obj := ⟨.type "tuple", none, .seq #[] 0, #[]⟩
noncomputable def o49 : Obj := ⟨.none, none, .fields #[], #[]⟩
noncomputable def o50 : Obj := ⟨.type "tuple", none, .seq #[.str (Str.ofString "data") 304, .str (Str.ofString "sep") 305, .str (Str.ofString "bytes_per_sep") 306, .str (Str.ofString "t") 307] 0, #[]⟩
noncomputable def o51 : Obj := ⟨.type "tuple", none, .seq #[] 0, #[]⟩
noncomputable def o52 : Obj := ⟨.none, none, fnP (stAt 5), #[]⟩
noncomputable def o53 : Obj := ⟨.type "code", none, .fields #[.str (Str.ofString "b2a_hex") 301, .str (Str.ofString "b2a_hex") 302, .str (Str.ofString "/claim/cut.py") 303, .int 14 0, .int 3 0, .int 0 0, .int 0 0, .int 3 0, .ref 48, .bool true, .int 276 0, .ref 49, .none, .ref 50, .ref 51, .ref 52, .int 308 0, .int 14 0, .str (Str.ofString "/claim/cut.py") 309], #[]⟩
noncomputable def o54 : Obj := ⟨.type "function", none, fnD (stAt 5) (.ref 47) (.str (Str.ofString "binascii") 289) (.ref 53), #[]⟩
noncomputable def o55 : Obj := ⟨.type "tuple", none, .seq #[] 0, #[]⟩
noncomputable def o56 : Obj := ⟨.none, none, .fields #[], #[]⟩
noncomputable def o57 : Obj := ⟨.type "tuple", none, .seq #[.str (Str.ofString "s") 317] 0, #[]⟩
noncomputable def o58 : Obj := ⟨.type "tuple", none, .seq #[] 0, #[]⟩
noncomputable def o59 : Obj := ⟨.none, none, fnP (stAt 8), #[]⟩
noncomputable def o60 : Obj := ⟨.type "code", none, .fields #[.str (Str.ofString "b16encode") 314, .str (Str.ofString "b16encode") 315, .str (Str.ofString "/claim/cut.py") 316, .int 32 0, .int 1 0, .int 0 0, .int 0 0, .int 3 0, .ref 55, .bool true, .int 276 0, .ref 56, .none, .ref 57, .ref 58, .ref 59, .int 318 0, .int 32 0, .str (Str.ofString "/claim/cut.py") 319], #[]⟩
noncomputable def o61 : Obj := ⟨.type "function", none, fnD (stAt 8) (.none) (.str (Str.ofString "cpy313.base64") 312) (.ref 60), #[]⟩
noncomputable def o62 : Obj := ⟨.type "list", none, .seq #[.int 14 324, .int 8 325, .int 1 326, .int 3 327, .int 3 328, .int 1 329, .int 1 330, .int 61 331, .int 0 332, .int 16 333, .int 61 334, .int 24 335, .int 16 336, .int 2 337, .int 2 338, .int 13 339, .int 11 340, .int 9 341, .int 0 342, .int 67043328 343, .int 126 344, .int 126 345, .int 0 346, .int 0 347, .int 0 348, .int 0 349, .int 0 350, .int 1 351, .int 1 352] 0, #[]⟩
noncomputable def o63 : Obj := ⟨.type "dict", none, .dict #[] 0, #[]⟩
noncomputable def o64 : Obj := ⟨.type "tuple", none, .seq #[.none] 0, #[]⟩
noncomputable def o65 : Obj := ⟨.type "tuple", none, .seq #[.int 14 0, .int 8 0, .int 1 0, .int 3 0, .int 3 0, .int 1 0, .int 1 0, .int 61 0, .int 0 0, .int 16 0, .int 61 0, .int 24 0, .int 16 0, .int 2 0, .int 2 0, .int 13 0, .int 11 0, .int 9 0, .int 0 0, .int 67043328 0, .int 126 0, .int 126 0, .int 0 0, .int 0 0, .int 0 0, .int 0 0, .int 0 0, .int 1 0, .int 1 0] 0, #[]⟩
noncomputable def o66 : Obj := ⟨.type "re.Pattern", none, .fields #[.str (Str.ofString "=[a-fA-F0-9]{2}") 322, .int 256 354, .int 0 0, .none, .none, .ref 65, .int 0 0], #[]⟩
noncomputable def b8 (P : Params) : BT := (.node o15 (.node o31 (.node o63 .nil .nil) .nil) (.node o47 .nil .nil))
noncomputable def b9 (P : Params) : BT := (.node o23 (.node o39 .nil .nil) (.node o55 .nil .nil))
noncomputable def b10 (P : Params) : BT := (.node o19 (.node o35 .nil .nil) (.node o51 .nil .nil))
noncomputable def b11 (P : Params) : BT := (.node o27 (.node o43 .nil .nil) (.node o59 .nil .nil))
noncomputable def b12 (P : Params) : BT := (.node (o3v1 P) (.node o7 (b8 P) (b9 P)) (.node (o11 P) (b10 P) (b11 P)))
noncomputable def b13 (P : Params) : BT := (.node o17 (.node o33 (.node o65 .nil .nil) .nil) (.node o49 .nil .nil))
noncomputable def b14 (P : Params) : BT := (.node o25 (.node o41 .nil .nil) (.node o57 .nil .nil))
noncomputable def b15 (P : Params) : BT := (.node (o21 P) (.node o37 .nil .nil) (.node o53 .nil .nil))
noncomputable def b16 (P : Params) : BT := (.node o29v1 (.node o45 .nil .nil) (.node o61 .nil .nil))
noncomputable def b17 (P : Params) : BT := (.node o5 (.node o9 (b13 P) (b14 P)) (.node (o13 P) (b15 P) (b16 P)))
noncomputable def b18 (P : Params) : BT := (.node o16 (.node o32 (.node o64 .nil .nil) .nil) (.node o48 .nil .nil))
noncomputable def b19 (P : Params) : BT := (.node o24 (.node o40 .nil .nil) (.node o56 .nil .nil))
noncomputable def b20 (P : Params) : BT := (.node (o20 P) (.node o36 .nil .nil) (.node o52 .nil .nil))
noncomputable def b21 (P : Params) : BT := (.node o28 (.node o44 .nil .nil) (.node o60 .nil .nil))
noncomputable def b22 (P : Params) : BT := (.node o4 (.node o8 (b18 P) (b19 P)) (.node o12 (b20 P) (b21 P)))
noncomputable def b23 (P : Params) : BT := (.node o18 (.node o34 (.node o66 .nil .nil) .nil) (.node o50 .nil .nil))
noncomputable def b24 (P : Params) : BT := (.node o26 (.node o42 .nil .nil) (.node o58 .nil .nil))
noncomputable def b25 (P : Params) : BT := (.node o22 (.node o38 .nil .nil) (.node o54 .nil .nil))
noncomputable def b26 (P : Params) : BT := (.node o30 (.node o46 .nil .nil) (.node o62 .nil .nil))
noncomputable def b27 (P : Params) : BT := (.node o6 (.node o10 (b23 P) (b24 P)) (.node o14 (b25 P) (b26 P)))
noncomputable def tS1 (P : Params) : BT := (.node (o0 P) (.node (o1 P) (b12 P) (b17 P)) (.node (o2 P) (b22 P) (b27 P)))
noncomputable def S1 (w : World) (os : OsState) : SharedT := ⟨tS1 w.params, 67, {}, #[], {}, 358, os⟩
-- S1 pos { line := 35, col := 0, endLine := 35, endCol := 2 }
noncomputable def tX (P : Params) (x67 x68 x69 x70 : Obj) : BT := (.node (o0 P) (.node (o1 P) (.node (o3v1 P) (.node o7 (b8 P) (b9 P)) (.node (o11 P) (.node o19 (.node o35 (.node x67 .nil .nil) .nil) (.node o51 .nil .nil)) (b11 P))) (.node o5 (.node o9 (b13 P) (b14 P)) (.node (o13 P) (.node (o21 P) (.node o37 (.node x69 .nil .nil) .nil) (.node o53 .nil .nil)) (b16 P)))) (.node (o2 P) (.node o4 (.node o8 (b18 P) (b19 P)) (.node o12 (.node (o20 P) (.node o36 (.node x68 .nil .nil) .nil) (.node o52 .nil .nil)) (b21 P))) (.node o6 (.node o10 (b23 P) (b24 P)) (.node o14 (.node o22 (.node o38 (.node x70 .nil .nil) .nil) (.node o54 .nil .nil)) (b26 P)))))
noncomputable def o3v2 (P : Params) : Obj := ⟨.type "dict", none, .dict #[dE P (Str.ofString "__name__") 165 (.str (Str.ofString "cpy313.base64") 312), dE P (Str.ofString "__doc__") 166 (.none), dE P (Str.ofString "__package__") 167 (.none), dE P (Str.ofString "__loader__") 168 (.builtin "__main__.__loader__#opaque"), dE P (Str.ofString "__spec__") 169 (.none), dE P (Str.ofString "__annotations__") 170 (.ref 6), dE P (Str.ofString "__builtins__") 171 (.ref 4), dE P (Str.ofString "__file__") 173 (.str (Str.ofString "/claim/cut.py") 172), dE P (Str.ofString "__cached__") 174 (.none), dE P (Str.ofString "_sre") 275 (.ref 12), dE P (Str.ofString "_wall") 288 (.ref 38), dE P (Str.ofString "_buffer") 298 (.ref 45), dE P (Str.ofString "_NO_SEP") 299 (.ref 46), dE P (Str.ofString "b2a_hex") 310 (.ref 54), dE P (Str.ofString "hexlify") 311 (.ref 54), dE P (Str.ofString "b16encode") 320 (.ref 61), dE P (Str.ofString "_twin_re_1") 355 (.ref 66), dE P (Str.ofString "NL") 357 (.str (Str.mk #[10]) 356), dE P (Str.ofString "_QUOPRI_MAP") 1385 (.ref 69)] 19, #[]⟩
noncomputable def o67 : Obj := ⟨.type "range", none, .fields #[.int 0 359, .int 256 358, .int 1 360], #[]⟩
noncomputable def o68 : Obj := ⟨.type "range_iterator", none, .fields #[.int 256 0, .int 0 0, .int 1 0], #[]⟩
noncomputable def o69 : Obj := ⟨.type "list", none, .seq (qA 256) 256, #[]⟩
noncomputable def o70 : Obj := ⟨.type "dict", none, .dict #[] 2, #[]⟩
noncomputable def o71 : Obj := ⟨.type "tuple", none, .seq #[] 0, #[]⟩
noncomputable def o72 : Obj := ⟨.type "StopIteration", none, .fields #[.ref 71, .none, .none, .none, .bool false, .none], #[]⟩
noncomputable def b28 (P : Params) : BT := (.node o23 (.node o39 (.node o71 .nil .nil) .nil) (.node o55 .nil .nil))
noncomputable def b29 (P : Params) : BT := (.node o19 (.node o35 (.node o67 .nil .nil) .nil) (.node o51 .nil .nil))
noncomputable def b30 (P : Params) : BT := (.node (o3v2 P) (.node o7 (b8 P) (b28 P)) (.node (o11 P) (b29 P) (b11 P)))
noncomputable def b31 (P : Params) : BT := (.node (o21 P) (.node o37 (.node o69 .nil .nil) .nil) (.node o53 .nil .nil))
noncomputable def b32 (P : Params) : BT := (.node o5 (.node o9 (b13 P) (b14 P)) (.node (o13 P) (b31 P) (b16 P)))
noncomputable def b33 (P : Params) : BT := (.node o24 (.node o40 (.node o72 .nil .nil) .nil) (.node o56 .nil .nil))
noncomputable def b34 (P : Params) : BT := (.node (o20 P) (.node o36 (.node o68 .nil .nil) .nil) (.node o52 .nil .nil))
noncomputable def b35 (P : Params) : BT := (.node o4 (.node o8 (b18 P) (b33 P)) (.node o12 (b34 P) (b21 P)))
noncomputable def b36 (P : Params) : BT := (.node o22 (.node o38 (.node o70 .nil .nil) .nil) (.node o54 .nil .nil))
noncomputable def b37 (P : Params) : BT := (.node o6 (.node o10 (b23 P) (b24 P)) (.node o14 (b36 P) (b26 P)))
noncomputable def tS2 (P : Params) : BT := (.node (o0 P) (.node (o1 P) (b30 P) (b32 P)) (.node (o2 P) (b35 P) (b37 P)))
noncomputable def S2 (w : World) (os : OsState) : SharedT := ⟨tS2 w.params, 73, {}, #[], {}, 1386, os⟩
-- S2 pos { line := 36, col := 0, endLine := 36, endCol := 11 }
noncomputable def o3v3 (P : Params) : Obj := ⟨.type "dict", none, .dict #[dE P (Str.ofString "__name__") 165 (.str (Str.ofString "cpy313.email.quoprimime") 1401), dE P (Str.ofString "__doc__") 166 (.none), dE P (Str.ofString "__package__") 167 (.none), dE P (Str.ofString "__loader__") 168 (.builtin "__main__.__loader__#opaque"), dE P (Str.ofString "__spec__") 169 (.none), dE P (Str.ofString "__annotations__") 170 (.ref 6), dE P (Str.ofString "__builtins__") 171 (.ref 4), dE P (Str.ofString "__file__") 173 (.str (Str.ofString "/claim/cut.py") 172), dE P (Str.ofString "__cached__") 174 (.none), dE P (Str.ofString "_sre") 275 (.ref 12), dE P (Str.ofString "_wall") 288 (.ref 38), dE P (Str.ofString "_buffer") 298 (.ref 45), dE P (Str.ofString "_NO_SEP") 299 (.ref 46), dE P (Str.ofString "b2a_hex") 310 (.ref 54), dE P (Str.ofString "hexlify") 311 (.ref 54), dE P (Str.ofString "b16encode") 320 (.ref 61), dE P (Str.ofString "_twin_re_1") 355 (.ref 66), dE P (Str.ofString "NL") 357 (.str (Str.mk #[10]) 356), dE P (Str.ofString "_QUOPRI_MAP") 1385 (.ref 69), dE P (Str.ofString "_QUOPRI_HEADER_MAP") 1386 (.ref 74), dE P (Str.ofString "_QUOPRI_BODY_MAP") 1387 (.ref 76), dE P (Str.ofString "ascii_lowercase") 1389 (.str (Str.ofString "abcdefghijklmnopqrstuvwxyz") 1388), dE P (Str.ofString "ascii_uppercase") 1391 (.str (Str.ofString "ABCDEFGHIJKLMNOPQRSTUVWXYZ") 1390), dE P (Str.ofString "ascii_letters") 1393 (.str (Str.ofString "abcdefghijklmnopqrstuvwxyzABCDEFGHIJKLMNOPQRSTUVWXYZ") 1392), dE P (Str.ofString "digits") 1395 (.str (Str.ofString "0123456789") 1394), dE P (Str.ofString "hexdigits") 1400 (.str (Str.ofString "0123456789abcdefABCDEF") 1399)] 26, #[]⟩
noncomputable def o73 : Obj := ⟨.type "slice", none, .fields #[.none, .none, .none], #[]⟩
noncomputable def o74 : Obj := ⟨.type "list", none, .seq (qA 256) 0, #[]⟩
noncomputable def o75 : Obj := ⟨.type "slice", none, .fields #[.none, .none, .none], #[]⟩
noncomputable def o76 : Obj := ⟨.type "list", none, .seq (qA 256) 0, #[]⟩
noncomputable def b38 (P : Params) : BT := (.node o27 (.node o43 (.node o75 .nil .nil) .nil) (.node o59 .nil .nil))
noncomputable def b39 (P : Params) : BT := (.node (o3v3 P) (.node o7 (b8 P) (b28 P)) (.node (o11 P) (b29 P) (b38 P)))
noncomputable def b40 (P : Params) : BT := (.node o25 (.node o41 (.node o73 .nil .nil) .nil) (.node o57 .nil .nil))
noncomputable def b41 (P : Params) : BT := (.node o5 (.node o9 (b13 P) (b40 P)) (.node (o13 P) (b31 P) (b16 P)))
noncomputable def b42 (P : Params) : BT := (.node o28 (.node o44 (.node o76 .nil .nil) .nil) (.node o60 .nil .nil))
noncomputable def b43 (P : Params) : BT := (.node o4 (.node o8 (b18 P) (b33 P)) (.node o12 (b34 P) (b42 P)))
noncomputable def b44 (P : Params) : BT := (.node o26 (.node o42 (.node o74 .nil .nil) .nil) (.node o58 .nil .nil))
noncomputable def b45 (P : Params) : BT := (.node o6 (.node o10 (b23 P) (b44 P)) (.node o14 (b36 P) (b26 P)))
noncomputable def tS3 (P : Params) : BT := (.node (o0 P) (.node (o1 P) (b39 P) (b41 P)) (.node (o2 P) (b43 P) (b45 P)))
noncomputable def S3 (w : World) (os : OsState) : SharedT := ⟨tS3 w.params, 77, {}, #[], {}, 1403, os⟩
-- S3 pos { line := 44, col := 0, endLine := 44, endCol := 8 }
noncomputable def tY (P : Params) (x3 x74 x77 : Obj) : BT := (.node (o0 P) (.node (o1 P) (.node x3 (.node o7 (b8 P) (b28 P)) (.node (o11 P) (b29 P) (b38 P))) (.node o5 (.node o9 (b13 P) (b40 P)) (.node (o13 P) (b31 P) (.node o29v1 (.node o45 (.node x77 .nil .nil) .nil) (.node o61 .nil .nil))))) (.node (o2 P) (b43 P) (.node o6 (.node o10 (b23 P) (.node o26 (.node o42 (.node x74 .nil .nil) .nil) (.node o58 .nil .nil))) (.node o14 (b36 P) (b26 P)))))
noncomputable def o3v4 (P : Params) : Obj := ⟨.type "dict", none, .dict #[dE P (Str.ofString "__name__") 165 (.str (Str.ofString "cpy313.email.quoprimime") 1401), dE P (Str.ofString "__doc__") 166 (.none), dE P (Str.ofString "__package__") 167 (.none), dE P (Str.ofString "__loader__") 168 (.builtin "__main__.__loader__#opaque"), dE P (Str.ofString "__spec__") 169 (.none), dE P (Str.ofString "__annotations__") 170 (.ref 6), dE P (Str.ofString "__builtins__") 171 (.ref 4), dE P (Str.ofString "__file__") 173 (.str (Str.ofString "/claim/cut.py") 172), dE P (Str.ofString "__cached__") 174 (.none), dE P (Str.ofString "_sre") 275 (.ref 12), dE P (Str.ofString "_wall") 288 (.ref 38), dE P (Str.ofString "_buffer") 298 (.ref 45), dE P (Str.ofString "_NO_SEP") 299 (.ref 46), dE P (Str.ofString "b2a_hex") 310 (.ref 54), dE P (Str.ofString "hexlify") 311 (.ref 54), dE P (Str.ofString "b16encode") 320 (.ref 61), dE P (Str.ofString "_twin_re_1") 355 (.ref 66), dE P (Str.ofString "NL") 357 (.str (Str.mk #[10]) 356), dE P (Str.ofString "_QUOPRI_MAP") 1385 (.ref 69), dE P (Str.ofString "_QUOPRI_HEADER_MAP") 1386 (.ref 74), dE P (Str.ofString "_QUOPRI_BODY_MAP") 1387 (.ref 76), dE P (Str.ofString "ascii_lowercase") 1389 (.str (Str.ofString "abcdefghijklmnopqrstuvwxyz") 1388), dE P (Str.ofString "ascii_uppercase") 1391 (.str (Str.ofString "ABCDEFGHIJKLMNOPQRSTUVWXYZ") 1390), dE P (Str.ofString "ascii_letters") 1393 (.str (Str.ofString "abcdefghijklmnopqrstuvwxyzABCDEFGHIJKLMNOPQRSTUVWXYZ") 1392), dE P (Str.ofString "digits") 1395 (.str (Str.ofString "0123456789") 1394), dE P (Str.ofString "hexdigits") 1400 (.str (Str.ofString "0123456789abcdefABCDEF") 1399), dE P (Str.ofString "c") 1411 (.int 57 1608)] 27, #[]⟩
noncomputable def o74v1 : Obj := ⟨.type "list", none, .seq (hA 67) 0, #[]⟩
noncomputable def o77 : Obj := ⟨.type "bytes_iterator", none, .fields #[.none, .int 67 0], #[]⟩
noncomputable def o78 : Obj := ⟨.type "tuple", none, .seq #[] 0, #[]⟩
noncomputable def o79 : Obj := ⟨.type "StopIteration", none, .fields #[.ref 78, .none, .none, .none, .bool false, .none], #[]⟩
noncomputable def b46 (P : Params) : BT := (.node o15 (.node o31 (.node o63 .nil .nil) .nil) (.node o47 (.node o79 .nil .nil) .nil))
noncomputable def b47 (P : Params) : BT := (.node (o3v4 P) (.node o7 (b46 P) (b28 P)) (.node (o11 P) (b29 P) (b38 P)))
noncomputable def b48 (P : Params) : BT := (.node o29v1 (.node o45 (.node o77 .nil .nil) .nil) (.node o61 .nil .nil))
noncomputable def b49 (P : Params) : BT := (.node o5 (.node o9 (b13 P) (b40 P)) (.node (o13 P) (b31 P) (b48 P)))
noncomputable def b50 (P : Params) : BT := (.node o26 (.node o42 (.node o74v1 .nil .nil) .nil) (.node o58 .nil .nil))
noncomputable def b51 (P : Params) : BT := (.node o30 (.node o46 (.node o78 .nil .nil) .nil) (.node o62 .nil .nil))
noncomputable def b52 (P : Params) : BT := (.node o6 (.node o10 (b23 P) (b50 P)) (.node o14 (b36 P) (b51 P)))
noncomputable def tS4 (P : Params) : BT := (.node (o0 P) (.node (o1 P) (b47 P) (b49 P)) (.node (o2 P) (b43 P) (b52 P)))
noncomputable def S4 (w : World) (os : OsState) : SharedT := ⟨tS4 w.params, 80, {}, #[], {}, 1611, os⟩
-- S4 pos { line := 45, col := 9, endLine := 45, endCol := 74 }
noncomputable def o74v2 : Obj := ⟨.type "list", none, .seq (hB) 0, #[]⟩
noncomputable def b53 (P : Params) : BT := (.node o26 (.node o42 (.node o74v2 .nil .nil) .nil) (.node o58 .nil .nil))
noncomputable def b54 (P : Params) : BT := (.node o6 (.node o10 (b23 P) (b53 P)) (.node o14 (b36 P) (b51 P)))
noncomputable def tS5 (P : Params) : BT := (.node (o0 P) (.node (o1 P) (b47 P) (b49 P)) (.node (o2 P) (b43 P) (b54 P)))
noncomputable def S5 (w : World) (os : OsState) : SharedT := ⟨tS5 w.params, 80, {}, #[], {}, 1614, os⟩
-- S5 pos { line := 47, col := 0, endLine := 47, endCol := 28 }
noncomputable def tZ (P : Params) (x3 x76 x80 : Obj) : BT := (.node (o0 P) (.node (o1 P) (.node x3 (.node o7 (b46 P) (b28 P)) (.node (o11 P) (b29 P) (b38 P))) (b49 P)) (.node (o2 P) (.node o4 (.node o8 (.node o16 (.node o32 (.node o64 .nil .nil) .nil) (.node o48 (.node x80 .nil .nil) .nil)) (b33 P)) (.node o12 (b34 P) (.node o28 (.node o44 (.node x76 .nil .nil) .nil) (.node o60 .nil .nil)))) (b54 P)))
noncomputable def o3v5 (P : Params) : Obj := ⟨.type "dict", none, .dict #[dE P (Str.ofString "__name__") 165 (.str (Str.ofString "cpy313.email.quoprimime") 1401), dE P (Str.ofString "__doc__") 166 (.none), dE P (Str.ofString "__package__") 167 (.none), dE P (Str.ofString "__loader__") 168 (.builtin "__main__.__loader__#opaque"), dE P (Str.ofString "__spec__") 169 (.none), dE P (Str.ofString "__annotations__") 170 (.ref 6), dE P (Str.ofString "__builtins__") 171 (.ref 4), dE P (Str.ofString "__file__") 173 (.str (Str.ofString "/claim/cut.py") 172), dE P (Str.ofString "__cached__") 174 (.none), dE P (Str.ofString "_sre") 275 (.ref 12), dE P (Str.ofString "_wall") 288 (.ref 38), dE P (Str.ofString "_buffer") 298 (.ref 45), dE P (Str.ofString "_NO_SEP") 299 (.ref 46), dE P (Str.ofString "b2a_hex") 310 (.ref 54), dE P (Str.ofString "hexlify") 311 (.ref 54), dE P (Str.ofString "b16encode") 320 (.ref 61), dE P (Str.ofString "_twin_re_1") 355 (.ref 66), dE P (Str.ofString "NL") 357 (.str (Str.mk #[10]) 356), dE P (Str.ofString "_QUOPRI_MAP") 1385 (.ref 69), dE P (Str.ofString "_QUOPRI_HEADER_MAP") 1386 (.ref 74), dE P (Str.ofString "_QUOPRI_BODY_MAP") 1387 (.ref 76), dE P (Str.ofString "ascii_lowercase") 1389 (.str (Str.ofString "abcdefghijklmnopqrstuvwxyz") 1388), dE P (Str.ofString "ascii_uppercase") 1391 (.str (Str.ofString "ABCDEFGHIJKLMNOPQRSTUVWXYZ") 1390), dE P (Str.ofString "ascii_letters") 1393 (.str (Str.ofString "abcdefghijklmnopqrstuvwxyzABCDEFGHIJKLMNOPQRSTUVWXYZ") 1392), dE P (Str.ofString "digits") 1395 (.str (Str.ofString "0123456789") 1394), dE P (Str.ofString "hexdigits") 1400 (.str (Str.ofString "0123456789abcdefABCDEF") 1399), dE P (Str.ofString "c") 1411 (.int 9 1897)] 27, #[]⟩
noncomputable def o76v1 : Obj := ⟨.type "list", none, .seq (bA 95) 0, #[]⟩
noncomputable def o80 : Obj := ⟨.type "bytes_iterator", none, .fields #[.none, .int 95 0], #[]⟩
noncomputable def o81 : Obj := ⟨.type "tuple", none, .seq #[] 0, #[]⟩
noncomputable def o82 : Obj := ⟨.type "StopIteration", none, .fields #[.ref 81, .none, .none, .none, .bool false, .none], #[]⟩
noncomputable def b55 (P : Params) : BT := (.node (o3v5 P) (.node o7 (b46 P) (b28 P)) (.node (o11 P) (b29 P) (b38 P)))
noncomputable def b56 (P : Params) : BT := (.node o17 (.node o33 (.node o65 .nil .nil) .nil) (.node o49 (.node o81 .nil .nil) .nil))
noncomputable def b57 (P : Params) : BT := (.node o5 (.node o9 (b56 P) (b40 P)) (.node (o13 P) (b31 P) (b48 P)))
noncomputable def b58 (P : Params) : BT := (.node o16 (.node o32 (.node o64 .nil .nil) .nil) (.node o48 (.node o80 .nil .nil) .nil))
noncomputable def b59 (P : Params) : BT := (.node o28 (.node o44 (.node o76v1 .nil .nil) .nil) (.node o60 .nil .nil))
noncomputable def b60 (P : Params) : BT := (.node o4 (.node o8 (b58 P) (b33 P)) (.node o12 (b34 P) (b59 P)))
noncomputable def b61 (P : Params) : BT := (.node o18 (.node o34 (.node o66 .nil .nil) .nil) (.node o50 (.node o82 .nil .nil) .nil))
noncomputable def b62 (P : Params) : BT := (.node o6 (.node o10 (b61 P) (b53 P)) (.node o14 (b36 P) (b51 P)))
noncomputable def tS6 (P : Params) : BT := (.node (o0 P) (.node (o1 P) (b55 P) (b57 P)) (.node (o2 P) (b60 P) (b62 P)))
noncomputable def S6 (w : World) (os : OsState) : SharedT := ⟨tS6 w.params, 83, {}, #[], {}, 1900, os⟩
-- S6 pos { line := 48, col := 9, endLine := 48, endCol := 110 }
noncomputable def o3v6 (P : Params) : Obj := ⟨.type "dict", none, .dict #[dE P (Str.ofString "__name__") 165 (.str (Str.ofString "law_op0047_01") 1965), dE P (Str.ofString "__doc__") 166 (.none), dE P (Str.ofString "__package__") 167 (.none), dE P (Str.ofString "__loader__") 168 (.builtin "__main__.__loader__#opaque"), dE P (Str.ofString "__spec__") 169 (.none), dE P (Str.ofString "__annotations__") 170 (.ref 6), dE P (Str.ofString "__builtins__") 171 (.ref 4), dE P (Str.ofString "__file__") 173 (.str (Str.ofString "/claim/cut.py") 172), dE P (Str.ofString "__cached__") 174 (.none), dE P (Str.ofString "_sre") 275 (.ref 12), dE P (Str.ofString "_wall") 288 (.ref 38), dE P (Str.ofString "_buffer") 298 (.ref 45), dE P (Str.ofString "_NO_SEP") 299 (.ref 46), dE P (Str.ofString "b2a_hex") 310 (.ref 54), dE P (Str.ofString "hexlify") 311 (.ref 54), dE P (Str.ofString "b16encode") 320 (.ref 61), dE P (Str.ofString "_twin_re_1") 355 (.ref 66), dE P (Str.ofString "NL") 357 (.str (Str.mk #[10]) 356), dE P (Str.ofString "_QUOPRI_MAP") 1385 (.ref 69), dE P (Str.ofString "_QUOPRI_HEADER_MAP") 1386 (.ref 74), dE P (Str.ofString "_QUOPRI_BODY_MAP") 1387 (.ref 76), dE P (Str.ofString "ascii_lowercase") 1389 (.str (Str.ofString "abcdefghijklmnopqrstuvwxyz") 1388), dE P (Str.ofString "ascii_uppercase") 1391 (.str (Str.ofString "ABCDEFGHIJKLMNOPQRSTUVWXYZ") 1390), dE P (Str.ofString "ascii_letters") 1393 (.str (Str.ofString "abcdefghijklmnopqrstuvwxyzABCDEFGHIJKLMNOPQRSTUVWXYZ") 1392), dE P (Str.ofString "digits") 1395 (.str (Str.ofString "0123456789") 1394), dE P (Str.ofString "hexdigits") 1400 (.str (Str.ofString "0123456789abcdefABCDEF") 1399), dE P (Str.ofString "unquote") 1906 (.ref 89), dE P (Str.ofString "quote") 1913 (.ref 96), dE P (Str.ofString "_QUOPRI_BODY_ENCODE_MAP") 1914 (.ref 98), dE P (Str.ofString "decode") 1934 (.ref 109), dE P (Str.ofString "_unquote_match") 1942 (.ref 116), dE P (Str.ofString "header_decode") 1949 (.ref 123), dE P (Str.ofString "_initial_missing") 1952 (.ref 124), dE P (Str.ofString "reduce") 1964 (.ref 132), dE P (Str.ofString "_law_stays") 1975 (.ref 139), dE P (Str.ofString "_law_digit") 1985 (.ref 146), dE P (Str.ofString "_law_figure") 1994 (.ref 153), dE P (Str.ofString "_law_octet") 2003 (.ref 160), dE P (Str.ofString "_law_rounds") 2014 (.ref 167), dE P (Str.ofString "law") 2020 (.ref 172)] 42, #[]⟩
noncomputable def o29v2 : Obj := ⟨.none, none, .fields #[.int 2 0, .int 0 0, .ref 37, .int 6 0, .int 0 0, .ref 44, .int 14 0, .int 0 0, .ref 53, .int 32 0, .int 0 0, .ref 60, .int 50 0, .int 0 0, .ref 88, .int 52 0, .int 0 0, .ref 95, .int 58 0, .int 0 0, .ref 108, .int 88 0, .int 0 0, .ref 115, .int 91 0, .int 0 0, .ref 122, .int 96 0, .int 0 0, .ref 131, .int 109 0, .int 0 0, .ref 138, .int 114 0, .int 0 0, .ref 145, .int 119 0, .int 0 0, .ref 152, .int 126 0, .int 0 0, .ref 159, .int 131 0, .int 0 0, .ref 166, .int 148 0, .int 0 0, .ref 171], #[]⟩
noncomputable def o83 : Obj := ⟨.type "tuple", none, .seq #[] 0, #[]⟩
noncomputable def o84 : Obj := ⟨.none, none, .fields #[], #[]⟩
noncomputable def o85 : Obj := ⟨.type "tuple", none, .seq #[.str (Str.ofString "s") 1903] 0, #[]⟩
noncomputable def o86 : Obj := ⟨.type "tuple", none, .seq #[] 0, #[]⟩
noncomputable def o87 : Obj := ⟨.none, none, fnP (stAt 23), #[]⟩
noncomputable def o88 : Obj := ⟨.type "code", none, .fields #[.str (Str.ofString "unquote") 1900, .str (Str.ofString "unquote") 1901, .str (Str.ofString "/claim/cut.py") 1902, .int 50 0, .int 1 0, .int 0 0, .int 0 0, .int 3 0, .ref 83, .bool true, .int 276 0, .ref 84, .none, .ref 85, .ref 86, .ref 87, .int 1904 0, .int 50 0, .str (Str.ofString "/claim/cut.py") 1905], #[]⟩
noncomputable def o89 : Obj := ⟨.type "function", none, fnD (stAt 23) (.none) (.str (Str.ofString "cpy313.email.quoprimime") 1401) (.ref 88), #[]⟩
noncomputable def o90 : Obj := ⟨.type "tuple", none, .seq #[] 0, #[]⟩
noncomputable def o91 : Obj := ⟨.none, none, .fields #[], #[]⟩
noncomputable def o92 : Obj := ⟨.type "tuple", none, .seq #[.str (Str.ofString "c") 1910] 0, #[]⟩
noncomputable def o93 : Obj := ⟨.type "tuple", none, .seq #[] 0, #[]⟩
noncomputable def o94 : Obj := ⟨.none, none, fnP (stAt 24), #[]⟩
noncomputable def o95 : Obj := ⟨.type "code", none, .fields #[.str (Str.ofString "quote") 1907, .str (Str.ofString "quote") 1908, .str (Str.ofString "/claim/cut.py") 1909, .int 52 0, .int 1 0, .int 0 0, .int 0 0, .int 3 0, .ref 90, .bool true, .int 276 0, .ref 91, .none, .ref 92, .ref 93, .ref 94, .int 1911 0, .int 52 0, .str (Str.ofString "/claim/cut.py") 1912], #[]⟩
noncomputable def o96 : Obj := ⟨.type "function", none, fnD (stAt 24) (.none) (.str (Str.ofString "cpy313.email.quoprimime") 1401) (.ref 95), #[]⟩
noncomputable def o97 : Obj := ⟨.type "slice", none, .fields #[.none, .none, .none], #[]⟩
noncomputable def o98 : Obj := ⟨.type "list", none, .seq (bB) 0, #[]⟩
noncomputable def o99 : Obj := ⟨.type "bytes_iterator", none, .fields #[.none, .int 2 0], #[]⟩
noncomputable def o100 : Obj := ⟨.type "tuple", none, .seq #[] 0, #[]⟩
noncomputable def o101 : Obj := ⟨.type "StopIteration", none, .fields #[.ref 100, .none, .none, .none, .bool false, .none], #[]⟩
noncomputable def o102 : Obj := ⟨.type "tuple", none, .seq #[.str (Str.mk #[10]) 356] 0, #[]⟩
noncomputable def o103 : Obj := ⟨.type "tuple", none, .seq #[] 0, #[]⟩
noncomputable def o104 : Obj := ⟨.none, none, .fields #[], #[]⟩
noncomputable def o105 : Obj := ⟨.type "tuple", none, .seq #[.str (Str.ofString "encoded") 1925, .str (Str.ofString "eol") 1926, .str (Str.ofString "decoded") 1927, .str (Str.ofString "line") 1928, .str (Str.ofString "i") 1929, .str (Str.ofString "n") 1930, .str (Str.ofString "c") 1931] 0, #[]⟩
noncomputable def o106 : Obj := ⟨.type "tuple", none, .seq #[] 0, #[]⟩
noncomputable def o107 : Obj := ⟨.none, none, fnP (stAt 28), #[]⟩
noncomputable def o108 : Obj := ⟨.type "code", none, .fields #[.str (Str.ofString "decode") 1922, .str (Str.ofString "decode") 1923, .str (Str.ofString "/claim/cut.py") 1924, .int 58 0, .int 2 0, .int 0 0, .int 0 0, .int 3 0, .ref 103, .bool true, .int 276 0, .ref 104, .none, .ref 105, .ref 106, .ref 107, .int 1932 0, .int 58 0, .str (Str.ofString "/claim/cut.py") 1933], #[]⟩
noncomputable def o109 : Obj := ⟨.type "function", none, fnD (stAt 28) (.ref 102) (.str (Str.ofString "cpy313.email.quoprimime") 1401) (.ref 108), #[]⟩
noncomputable def o110 : Obj := ⟨.type "tuple", none, .seq #[] 0, #[]⟩
noncomputable def o111 : Obj := ⟨.none, none, .fields #[], #[]⟩
noncomputable def o112 : Obj := ⟨.type "tuple", none, .seq #[.str (Str.ofString "match") 1938, .str (Str.ofString "s") 1939] 0, #[]⟩
noncomputable def o113 : Obj := ⟨.type "tuple", none, .seq #[] 0, #[]⟩
noncomputable def o114 : Obj := ⟨.none, none, fnP (stAt 29), #[]⟩
noncomputable def o115 : Obj := ⟨.type "code", none, .fields #[.str (Str.ofString "_unquote_match") 1935, .str (Str.ofString "_unquote_match") 1936, .str (Str.ofString "/claim/cut.py") 1937, .int 88 0, .int 1 0, .int 0 0, .int 0 0, .int 3 0, .ref 110, .bool true, .int 276 0, .ref 111, .none, .ref 112, .ref 113, .ref 114, .int 1940 0, .int 88 0, .str (Str.ofString "/claim/cut.py") 1941], #[]⟩
noncomputable def o116 : Obj := ⟨.type "function", none, fnD (stAt 29) (.none) (.str (Str.ofString "cpy313.email.quoprimime") 1401) (.ref 115), #[]⟩
noncomputable def o117 : Obj := ⟨.type "tuple", none, .seq #[] 0, #[]⟩
noncomputable def o118 : Obj := ⟨.none, none, .fields #[], #[]⟩
noncomputable def o119 : Obj := ⟨.type "tuple", none, .seq #[.str (Str.ofString "s") 1946] 0, #[]⟩
noncomputable def o120 : Obj := ⟨.type "tuple", none, .seq #[] 0, #[]⟩
noncomputable def o121 : Obj := ⟨.none, none, fnP (stAt 30), #[]⟩
noncomputable def o122 : Obj := ⟨.type "code", none, .fields #[.str (Str.ofString "header_decode") 1943, .str (Str.ofString "header_decode") 1944, .str (Str.ofString "/claim/cut.py") 1945, .int 91 0, .int 1 0, .int 0 0, .int 0 0, .int 3 0, .ref 117, .bool true, .int 276 0, .ref 118, .none, .ref 119, .ref 120, .ref 121, .int 1947 0, .int 91 0, .str (Str.ofString "/claim/cut.py") 1948], #[]⟩
noncomputable def o123 : Obj := ⟨.type "function", none, fnD (stAt 30) (.none) (.str (Str.ofString "cpy313.email.quoprimime") 1401) (.ref 122), #[]⟩
noncomputable def o124 : Obj := ⟨.type "object", none, .plain, #[]⟩
noncomputable def o125 : Obj := ⟨.type "tuple", none, .seq #[.ref 124] 0, #[]⟩
noncomputable def o126 : Obj := ⟨.type "tuple", none, .seq #[] 0, #[]⟩
noncomputable def o127 : Obj := ⟨.none, none, .fields #[], #[]⟩
noncomputable def o128 : Obj := ⟨.type "tuple", none, .seq #[.str (Str.ofString "function") 1956, .str (Str.ofString "sequence") 1957, .str (Str.ofString "initial") 1958, .str (Str.ofString "it") 1959, .str (Str.ofString "value") 1960, .str (Str.ofString "element") 1961] 0, #[]⟩
noncomputable def o129 : Obj := ⟨.type "tuple", none, .seq #[] 0, #[]⟩
noncomputable def o130 : Obj := ⟨.none, none, fnP (stAt 33), #[]⟩
noncomputable def o131 : Obj := ⟨.type "code", none, .fields #[.str (Str.ofString "reduce") 1953, .str (Str.ofString "reduce") 1954, .str (Str.ofString "/claim/cut.py") 1955, .int 96 0, .int 3 0, .int 0 0, .int 0 0, .int 3 0, .ref 126, .bool true, .int 276 0, .ref 127, .none, .ref 128, .ref 129, .ref 130, .int 1962 0, .int 96 0, .str (Str.ofString "/claim/cut.py") 1963], #[]⟩
noncomputable def o132 : Obj := ⟨.type "function", none, fnD (stAt 33) (.ref 125) (.str (Str.ofString "cpy313.functools") 1950) (.ref 131), #[]⟩
noncomputable def o133 : Obj := ⟨.type "tuple", none, .seq #[] 0, #[]⟩
noncomputable def o134 : Obj := ⟨.none, none, .fields #[], #[]⟩
noncomputable def o135 : Obj := ⟨.type "tuple", none, .seq #[.str (Str.ofString "kind") 1970, .str (Str.ofString "masks") 1971, .str (Str.ofString "place") 1972] 0, #[]⟩
noncomputable def o136 : Obj := ⟨.type "tuple", none, .seq #[] 0, #[]⟩
noncomputable def o137 : Obj := ⟨.none, none, fnP (stAt 35), #[]⟩
noncomputable def o138 : Obj := ⟨.type "code", none, .fields #[.str (Str.ofString "_law_stays") 1967, .str (Str.ofString "_law_stays") 1968, .str (Str.ofString "/claim/cut.py") 1969, .int 109 0, .int 2 0, .int 0 0, .int 0 0, .int 3 0, .ref 133, .bool true, .int 276 0, .ref 134, .none, .ref 135, .ref 136, .ref 137, .int 1973 0, .int 109 0, .str (Str.ofString "/claim/cut.py") 1974], #[]⟩
noncomputable def o139 : Obj := ⟨.type "function", none, fnD (stAt 35) (.none) (.str (Str.ofString "law_op0047_01") 1965) (.ref 138), #[]⟩
noncomputable def o140 : Obj := ⟨.type "tuple", none, .seq #[] 0, #[]⟩
noncomputable def o141 : Obj := ⟨.none, none, .fields #[], #[]⟩
noncomputable def o142 : Obj := ⟨.type "tuple", none, .seq #[.str (Str.ofString "digit") 1979, .str (Str.ofString "masks") 1980, .str (Str.ofString "threes") 1981, .str (Str.ofString "mask") 1982] 0, #[]⟩
noncomputable def o143 : Obj := ⟨.type "tuple", none, .seq #[] 0, #[]⟩
noncomputable def o144 : Obj := ⟨.none, none, fnP (stAt 36), #[]⟩
noncomputable def o145 : Obj := ⟨.type "code", none, .fields #[.str (Str.ofString "_law_digit") 1976, .str (Str.ofString "_law_digit") 1977, .str (Str.ofString "/claim/cut.py") 1978, .int 114 0, .int 2 0, .int 0 0, .int 0 0, .int 3 0, .ref 140, .bool true, .int 276 0, .ref 141, .none, .ref 142, .ref 143, .ref 144, .int 1983 0, .int 114 0, .str (Str.ofString "/claim/cut.py") 1984], #[]⟩
noncomputable def o146 : Obj := ⟨.type "function", none, fnD (stAt 36) (.none) (.str (Str.ofString "law_op0047_01") 1965) (.ref 145), #[]⟩
noncomputable def o147 : Obj := ⟨.type "tuple", none, .seq #[] 0, #[]⟩
noncomputable def o148 : Obj := ⟨.none, none, .fields #[], #[]⟩
noncomputable def o149 : Obj := ⟨.type "tuple", none, .seq #[.str (Str.ofString "value") 1989, .str (Str.ofString "masks") 1990, .str (Str.ofString "place") 1991] 0, #[]⟩
noncomputable def o150 : Obj := ⟨.type "tuple", none, .seq #[] 0, #[]⟩
noncomputable def o151 : Obj := ⟨.none, none, fnP (stAt 37), #[]⟩
noncomputable def o152 : Obj := ⟨.type "code", none, .fields #[.str (Str.ofString "_law_figure") 1986, .str (Str.ofString "_law_figure") 1987, .str (Str.ofString "/claim/cut.py") 1988, .int 119 0, .int 2 0, .int 0 0, .int 0 0, .int 3 0, .ref 147, .bool true, .int 276 0, .ref 148, .none, .ref 149, .ref 150, .ref 151, .int 1992 0, .int 119 0, .str (Str.ofString "/claim/cut.py") 1993], #[]⟩
noncomputable def o153 : Obj := ⟨.type "function", none, fnD (stAt 37) (.none) (.str (Str.ofString "law_op0047_01") 1965) (.ref 152), #[]⟩
noncomputable def o154 : Obj := ⟨.type "tuple", none, .seq #[] 0, #[]⟩
noncomputable def o155 : Obj := ⟨.none, none, .fields #[], #[]⟩
noncomputable def o156 : Obj := ⟨.type "tuple", none, .seq #[.str (Str.ofString "octet") 1998, .str (Str.ofString "masks") 1999, .str (Str.ofString "place") 2000] 0, #[]⟩
noncomputable def o157 : Obj := ⟨.type "tuple", none, .seq #[] 0, #[]⟩
noncomputable def o158 : Obj := ⟨.none, none, fnP (stAt 38), #[]⟩
noncomputable def o159 : Obj := ⟨.type "code", none, .fields #[.str (Str.ofString "_law_octet") 1995, .str (Str.ofString "_law_octet") 1996, .str (Str.ofString "/claim/cut.py") 1997, .int 126 0, .int 2 0, .int 0 0, .int 0 0, .int 3 0, .ref 154, .bool true, .int 276 0, .ref 155, .none, .ref 156, .ref 157, .ref 158, .int 2001 0, .int 126 0, .str (Str.ofString "/claim/cut.py") 2002], #[]⟩
noncomputable def o160 : Obj := ⟨.type "function", none, fnD (stAt 38) (.none) (.str (Str.ofString "law_op0047_01") 1965) (.ref 159), #[]⟩
noncomputable def o161 : Obj := ⟨.type "tuple", none, .seq #[] 0, #[]⟩
noncomputable def o162 : Obj := ⟨.none, none, .fields #[], #[]⟩
noncomputable def o163 : Obj := ⟨.type "tuple", none, .seq #[.str (Str.ofString "start") 2007, .str (Str.ofString "masks") 2008, .str (Str.ofString "step") 2009, .str (Str.ofString "last") 2010] 0, #[]⟩
noncomputable def o164 : Obj := ⟨.type "tuple", none, .seq #[.str (Str.ofString "readings") 2011] 0, #[]⟩
noncomputable def o165 : Obj := ⟨.none, none, fnP (stAt 39), #[]⟩
noncomputable def o166 : Obj := ⟨.type "code", none, .fields #[.str (Str.ofString "_law_rounds") 2004, .str (Str.ofString "_law_rounds") 2005, .str (Str.ofString "/claim/cut.py") 2006, .int 131 0, .int 2 0, .int 0 0, .int 0 0, .int 3 0, .ref 161, .bool true, .int 276 0, .ref 162, .none, .ref 163, .ref 164, .ref 165, .int 2012 0, .int 131 0, .str (Str.ofString "/claim/cut.py") 2013], #[]⟩
noncomputable def o167 : Obj := ⟨.type "function", none, fnD (stAt 39) (.none) (.str (Str.ofString "law_op0047_01") 1965) (.ref 166), #[]⟩
noncomputable def o168 : Obj := ⟨.type "tuple", none, .seq #[] 0, #[]⟩
noncomputable def o169 : Obj := ⟨.none, none, .fields #[], #[]⟩
noncomputable def o170 : Obj := ⟨.none, none, fnP (stAt 40), #[]⟩
noncomputable def o171 : Obj := ⟨.type "code", none, .fields #[.str (Str.ofString "law") 2015, .str (Str.ofString "law") 2016, .str (Str.ofString "/claim/cut.py") 2017, .int 148 0, .int 1 0, .int 0 0, .int 0 0, .int 3 0, .ref 168, .bool true, .int 276 0, .ref 169, .none, .none, .none, .ref 170, .int 2018 0, .int 148 0, .str (Str.ofString "/claim/cut.py") 2019], #[]⟩
noncomputable def o172 : Obj := ⟨.type "function", none, fnD (stAt 40) (.none) (.str (Str.ofString "law_op0047_01") 1965) (.ref 171), #[]⟩
noncomputable def b63 (P : Params) : BT := (.node o15 (.node o31 (.node o63 (.node o127 .nil .nil) .nil) (.node o95 (.node o159 .nil .nil) .nil)) (.node o47 (.node o79 (.node o143 .nil .nil) .nil) (.node o111 .nil .nil)))
noncomputable def b64 (P : Params) : BT := (.node o23 (.node o39 (.node o71 (.node o135 .nil .nil) .nil) (.node o103 (.node o167 .nil .nil) .nil)) (.node o55 (.node o87 (.node o151 .nil .nil) .nil) (.node o119 .nil .nil)))
noncomputable def b65 (P : Params) : BT := (.node o19 (.node o35 (.node o67 (.node o131 .nil .nil) .nil) (.node o99 (.node o163 .nil .nil) .nil)) (.node o51 (.node o83 (.node o147 .nil .nil) .nil) (.node o115 .nil .nil)))
noncomputable def b66 (P : Params) : BT := (.node o27 (.node o43 (.node o75 (.node o139 .nil .nil) .nil) (.node o107 (.node o171 .nil .nil) .nil)) (.node o59 (.node o91 (.node o155 .nil .nil) .nil) (.node o123 .nil .nil)))
noncomputable def b67 (P : Params) : BT := (.node (o3v6 P) (.node o7 (b63 P) (b64 P)) (.node (o11 P) (b65 P) (b66 P)))
noncomputable def b68 (P : Params) : BT := (.node o17 (.node o33 (.node o65 (.node o129 .nil .nil) .nil) (.node o97 (.node o161 .nil .nil) .nil)) (.node o49 (.node o81 (.node o145 .nil .nil) .nil) (.node o113 .nil .nil)))
noncomputable def b69 (P : Params) : BT := (.node o25 (.node o41 (.node o73 (.node o137 .nil .nil) .nil) (.node o105 (.node o169 .nil .nil) .nil)) (.node o57 (.node o89 (.node o153 .nil .nil) .nil) (.node o121 .nil .nil)))
noncomputable def b70 (P : Params) : BT := (.node (o21 P) (.node o37 (.node o69 (.node o133 .nil .nil) .nil) (.node o101 (.node o165 .nil .nil) .nil)) (.node o53 (.node o85 (.node o149 .nil .nil) .nil) (.node o117 .nil .nil)))
noncomputable def b71 (P : Params) : BT := (.node o29v2 (.node o45 (.node o77 (.node o141 .nil .nil) .nil) (.node o109 .nil .nil)) (.node o61 (.node o93 (.node o157 .nil .nil) .nil) (.node o125 .nil .nil)))
noncomputable def b72 (P : Params) : BT := (.node o5 (.node o9 (b68 P) (b69 P)) (.node (o13 P) (b70 P) (b71 P)))
noncomputable def b73 (P : Params) : BT := (.node o16 (.node o32 (.node o64 (.node o128 .nil .nil) .nil) (.node o96 (.node o160 .nil .nil) .nil)) (.node o48 (.node o80 (.node o144 .nil .nil) .nil) (.node o112 .nil .nil)))
noncomputable def b74 (P : Params) : BT := (.node o24 (.node o40 (.node o72 (.node o136 .nil .nil) .nil) (.node o104 (.node o168 .nil .nil) .nil)) (.node o56 (.node o88 (.node o152 .nil .nil) .nil) (.node o120 .nil .nil)))
noncomputable def b75 (P : Params) : BT := (.node (o20 P) (.node o36 (.node o68 (.node o132 .nil .nil) .nil) (.node o100 (.node o164 .nil .nil) .nil)) (.node o52 (.node o84 (.node o148 .nil .nil) .nil) (.node o116 .nil .nil)))
noncomputable def b76 (P : Params) : BT := (.node o28 (.node o44 (.node o76v1 (.node o140 .nil .nil) .nil) (.node o108 (.node o172 .nil .nil) .nil)) (.node o60 (.node o92 (.node o156 .nil .nil) .nil) (.node o124 .nil .nil)))
noncomputable def b77 (P : Params) : BT := (.node o4 (.node o8 (b73 P) (b74 P)) (.node o12 (b75 P) (b76 P)))
noncomputable def b78 (P : Params) : BT := (.node o18 (.node o34 (.node o66 (.node o130 .nil .nil) .nil) (.node o98 (.node o162 .nil .nil) .nil)) (.node o50 (.node o82 (.node o146 .nil .nil) .nil) (.node o114 .nil .nil)))
noncomputable def b79 (P : Params) : BT := (.node o26 (.node o42 (.node o74v2 (.node o138 .nil .nil) .nil) (.node o106 (.node o170 .nil .nil) .nil)) (.node o58 (.node o90 (.node o154 .nil .nil) .nil) (.node o122 .nil .nil)))
noncomputable def b80 (P : Params) : BT := (.node o22 (.node o38 (.node o70 (.node o134 .nil .nil) .nil) (.node o102 (.node o166 .nil .nil) .nil)) (.node o54 (.node o86 (.node o150 .nil .nil) .nil) (.node o118 .nil .nil)))
noncomputable def b81 (P : Params) : BT := (.node o30 (.node o46 (.node o78 (.node o142 .nil .nil) .nil) (.node o110 .nil .nil)) (.node o62 (.node o94 (.node o158 .nil .nil) .nil) (.node o126 .nil .nil)))
noncomputable def b82 (P : Params) : BT := (.node o6 (.node o10 (b78 P) (b79 P)) (.node o14 (b80 P) (b81 P)))
noncomputable def tS7 (P : Params) : BT := (.node (o0 P) (.node (o1 P) (b67 P) (b72 P)) (.node (o2 P) (b77 P) (b82 P)))
noncomputable def S7 (w : World) (os : OsState) : SharedT := ⟨tS7 w.params, 173, {}, #[], {}, 2021, os⟩
-- S7 pos { line := 148, col := 0, endLine := 156, endCol := 81 }
-- last key dE P (Str.ofString "c") 1411 (.int 57 1608), size 27 epoch 27
noncomputable def g3 (P : Params) (v : Value) : Obj := ⟨.type "dict", none, .dict #[dE P (Str.ofString "__name__") 165 (.str (Str.ofString "cpy313.email.quoprimime") 1401), dE P (Str.ofString "__doc__") 166 (.none), dE P (Str.ofString "__package__") 167 (.none), dE P (Str.ofString "__loader__") 168 (.builtin "__main__.__loader__#opaque"), dE P (Str.ofString "__spec__") 169 (.none), dE P (Str.ofString "__annotations__") 170 (.ref 6), dE P (Str.ofString "__builtins__") 171 (.ref 4), dE P (Str.ofString "__file__") 173 (.str (Str.ofString "/claim/cut.py") 172), dE P (Str.ofString "__cached__") 174 (.none), dE P (Str.ofString "_sre") 275 (.ref 12), dE P (Str.ofString "_wall") 288 (.ref 38), dE P (Str.ofString "_buffer") 298 (.ref 45), dE P (Str.ofString "_NO_SEP") 299 (.ref 46), dE P (Str.ofString "b2a_hex") 310 (.ref 54), dE P (Str.ofString "hexlify") 311 (.ref 54), dE P (Str.ofString "b16encode") 320 (.ref 61), dE P (Str.ofString "_twin_re_1") 355 (.ref 66), dE P (Str.ofString "NL") 357 (.str (Str.mk #[10]) 356), dE P (Str.ofString "_QUOPRI_MAP") 1385 (.ref 69), dE P (Str.ofString "_QUOPRI_HEADER_MAP") 1386 (.ref 74), dE P (Str.ofString "_QUOPRI_BODY_MAP") 1387 (.ref 76), dE P (Str.ofString "ascii_lowercase") 1389 (.str (Str.ofString "abcdefghijklmnopqrstuvwxyz") 1388), dE P (Str.ofString "ascii_uppercase") 1391 (.str (Str.ofString "ABCDEFGHIJKLMNOPQRSTUVWXYZ") 1390), dE P (Str.ofString "ascii_letters") 1393 (.str (Str.ofString "abcdefghijklmnopqrstuvwxyzABCDEFGHIJKLMNOPQRSTUVWXYZ") 1392), dE P (Str.ofString "digits") 1395 (.str (Str.ofString "0123456789") 1394), dE P (Str.ofString "hexdigits") 1400 (.str (Str.ofString "0123456789abcdefABCDEF") 1399), dE P (Str.ofString "c") 1411 v] 27, #[]⟩
end Mine
end
section
open PySem PySem.W PyProof.Rows
namespace Mine
noncomputable def env0 : Env := { scope := PWc.main.scope, locals := 3, globals := 3, cells := [], code := .ref 30, frame := some 31 }
noncomputable def compX : Expr := match stAt 11 with | .Assign _ v _ => v | _ => .Constant .none 0 ⟨0, 0, 0, 0⟩
noncomputable def scX : Scope := match compX with | .ListComp _ _ s _ => s | _ => default
noncomputable def cenvX : Env := { scope := scX, locals := 70, globals := 3, cells := [], code := .ref 30, frame := some 31 }
noncomputable def codeX : Code := .compLoop compX 0 (.ref 68) (.ref 69) cenvX
noncomputable def x68 (i : Nat) : Obj := ⟨.type "range_iterator", none, .fields #[.int (Int.ofNat i) 0, .int (Int.ofNat (256 - i)) 0, .int 1 0], #[]⟩
noncomputable def x69 (i : Nat) : Obj := ⟨.type "list", none, .seq (qA i) i, #[]⟩
noncomputable def x70 (P : Params) : Nat → Obj
  | 0 => ⟨.type "dict", none, .dict #[] 0, #[]⟩
  | i + 1 => ⟨.type "dict", none, .dict #[dE P (Str.ofString "c") 362 (.int (Int.ofNat i) (361 + 4 * i))] 1, #[]⟩
noncomputable def Sx (w : World) (os : OsState) (i : Nat) : SharedT := ⟨tX w.params o67 (x68 i) (x69 i) (x70 w.params i), 71, {}, #[], {}, 361 + 4 * i, os⟩
noncomputable def posX : Pos := ⟨36, 15, 36, 26⟩
noncomputable def TX (pos : Pos) (k : Result → Sem Fin) (g : Bool) (l : List Value) (c : Code) (p : Pos) (kept : List Value) : Thread := ⟨denote treeTable codeX, codeX, pos, [.ret k none g l c p kept, topFrame ⟨0, 0, 0, 0⟩]⟩
noncomputable def sgr : String := "special-get-raises"
noncomputable def LX (w : World) (os : OsState) (b : Bool) (i n : Nat) (pos : Pos) (k : Result → Sem Fin) (g : Bool) (l : List Value) (c : Code) (p : Pos) (kept : List Value) : Option (SharedT × Thread) :=
  segGoT treeTable PWc (w.withFollow sgr b) 28 (some (.ref 6)) 1 (37 * n) (Sx (w.withFollow sgr b) os i) (TX pos k g l c p kept)
noncomputable def RX (w : World) (os : OsState) (b : Bool) (i n : Nat) (k : Result → Sem Fin) (g : Bool) (l : List Value) (c : Code) (p : Pos) (kept : List Value) : Option (SharedT × Thread) :=
  some (Sx (w.withFollow sgr b) os (i + n), TX posX k g l c p kept)
lay_quick Mine.LX Mine.RX
end Mine
end
section
open PySem PySem.W PyProof.Rows
namespace Mine
noncomputable def H0 (P : Params) : Heap := absHeap (tS0 P) 28 {}
noncomputable def LO (w : World) : Option (Heap × Array GenState × Drawn × Nat) := (fencedOpening treeTable PWc w 36000).map (fun s => (s.heap, s.gens, s.drawn, s.toks))
noncomputable def RO (w : World) : Option (Heap × Array GenState × Drawn × Nat) := some (H0 w.params, (#[] : Array GenState), ({} : Drawn), 276)
lay_quick Mine.LO Mine.RO
end Mine
end
section
open PySem PySem.W PyProof.Rows
namespace Mine
theorem open_tw (w : World) : PySem.W.Fast.tw16745005354979320155 w = PySem.W.Fast.tw4559885817161330186 w := by kernel_rfl
end Mine
end
section
open PySem PySem.W PyProof.Rows
namespace Mine
noncomputable def H7 (P : Params) : Heap := absHeap (tS7 P) 173 {}
noncomputable def sts (a n : Nat) : List Stmt := (List.range' a n).map stAt
noncomputable def bI : List Stmt := behindTheImports PWc
noncomputable def cB : Code := .body bI env0
noncomputable def p00 : Pos := ⟨0, 0, 0, 0⟩
noncomputable def BB : List Frame := [topFrame p00]
noncomputable def ann6 : Option Value := some (.ref 6)
noncomputable def cit : String := "comprehension-iter-twice"
-- the start of the body
noncomputable def Lpre (w : World) (os : OsState) := topGo treeTable PWc w 28 ann6 12 (S0 w os).abs (topStub PWc)
noncomputable def Rpre (w : World) (os : OsState) : Option (Shared × Thread) := some ((Sp w os).abs, ⟨denote treeTable cB, cB, p00, BB⟩)
noncomputable def Lblk (w : World) (os : OsState) := segRun treeTable PWc w 28 ann6 1 1 (Sp w os).abs (blockOf bI env0 cB p00 BB)
noncomputable def Rblk (w : World) (os : OsState) : Option (Flow × Shared × Code × Pos) := some (.next, (Sp w os).abs, cB, p00)
-- the short statements
noncomputable def LG1 (w : World) (os : OsState) := segRunT treeTable PWc w 28 ann6 1 266 (Sp w os) (piecesOf (sts 1 10) env0 cB p00 BB)
noncomputable def RG1 (w : World) (os : OsState) : Option (Flow × SharedT × Code × Pos) := some (.next, S1 w os, cB, ⟨35, 0, 35, 2⟩)
noncomputable def LG2 (w : World) (os : OsState) := segRunT treeTable PWc w 28 ann6 1 133 (S2 w os) (piecesOf (sts 12 8) env0 cB ⟨36, 0, 36, 11⟩ BB)
noncomputable def RG2 (w : World) (os : OsState) : Option (Flow × SharedT × Code × Pos) := some (.next, S3 w os, cB, ⟨44, 0, 44, 8⟩)
noncomputable def LG3 (w : World) (os : OsState) := segRunT treeTable PWc w 28 ann6 1 25 (S4 w os) (piecesOf (sts 21 1) env0 cB ⟨45, 9, 45, 74⟩ BB)
noncomputable def RG3 (w : World) (os : OsState) : Option (Flow × SharedT × Code × Pos) := some (.next, S5 w os, cB, ⟨47, 0, 47, 28⟩)
noncomputable def LG4 (w : World) (os : OsState) (b : Bool) := segRunT treeTable PWc (w.withFollow sgr b) 28 ann6 1 700 (S6 (w.withFollow sgr b) os) (piecesOf (sts 23 18) env0 cB ⟨48, 9, 48, 110⟩ BB)
noncomputable def RG4 (w : World) (os : OsState) (b : Bool) : Option (Flow × SharedT × Code × Pos) := some (.next, S7 (w.withFollow sgr b) os, cB, ⟨148, 0, 156, 81⟩)
noncomputable def Lfin (w : World) (os : OsState) := topRun treeTable PWc w 28 ann6 3 (S7 w os).abs ⟨doneF .next, cB, ⟨148, 0, 156, 81⟩, BB⟩
noncomputable def Rfin (w : World) (os : OsState) : Option Shared := some (S7 w os).abs
-- line 36
noncomputable def frameK (r : Option (SharedT × Thread)) : Result → Sem Fin := match r with
  | some (_, ⟨_, _, _, .ret k _ _ _ _ _ _ :: _⟩) => k
  | _ => fun _ => .unsupported "none"
noncomputable def w2 (w : World) (b c : Bool) : World := (w.withFollow sgr b).withFollow cit c
noncomputable def LXs (w : World) (os : OsState) (b c : Bool) := segGoT treeTable PWc (w2 w b c) 28 ann6 1 (match c with | true => 42 | false => 52) (S1 (w2 w b c) os) (piecesOf (sts 11 1) env0 cB ⟨35, 0, 35, 2⟩ BB)
noncomputable def KX (w : World) (os : OsState) (b c : Bool) : Result → Sem Fin := frameK (LXs w os b c)
noncomputable def RXs (w : World) (os : OsState) (b c : Bool) : Option (SharedT × Thread) := some (Sx (w2 w b c) os 0, TX ⟨36, 36, 36, 46⟩ (KX w os b c) true [.ref 70, .ref 69] cB ⟨36, 36, 36, 46⟩ [])
noncomputable def LXe (w : World) (os : OsState) (b c : Bool) := segRunT treeTable PWc (w2 w b c) 28 ann6 1 (match c with | true => 38 | false => 28) (Sx (w2 w b c) os 256) (TX posX (KX w os b c) true [.ref 70, .ref 69] cB ⟨36, 36, 36, 46⟩ [])
noncomputable def RXe (w : World) (os : OsState) (b c : Bool) : Option (Flow × SharedT × Code × Pos) := some (.next, S2 (w2 w b c) os, cB, ⟨36, 0, 36, 11⟩)
-- line 45
noncomputable def forOf (s : Stmt) (it : Value) : Code := match s with | .For tg _ body orelse _ => .forLoop tg it body orelse env0 | _ => .block [] env0
noncomputable def codeY : Code := forOf (stAt 20) (.ref 77)
noncomputable def y3 (P : Params) : Nat → Obj
  | 0 => o3v3 P
  | k + 1 => g3 P (.int (Int.ofNat (hxs.getD k 0)) (1410 + 3 * k))
noncomputable def y74 (k : Nat) : Obj := ⟨.type "list", none, .seq (hA k) 0, #[]⟩
noncomputable def y77 (k : Nat) : Obj := ⟨.type "bytes_iterator", none, .fields #[.bytes (hxs.map Nat.toUInt8).toArray 1409, .int (Int.ofNat k) 0], #[]⟩
noncomputable def Sy (w : World) (os : OsState) (k : Nat) : SharedT := ⟨tY w.params (y3 w.params k) (y74 k) (y77 k), 78, {}, #[], {}, 1410 + 3 * k, os⟩
noncomputable def TY (pos : Pos) (k : Result → Sem Fin) (g : Bool) (l : List Value) (c : Code) (p : Pos) (kept : List Value) : Thread := ⟨denote treeTable codeY, codeY, pos, [.ret k none g l c p kept, topFrame p00]⟩
noncomputable def LYs (w : World) (os : OsState) (b : Bool) := segGoT treeTable PWc (w.withFollow sgr b) 28 ann6 1 44 (S3 (w.withFollow sgr b) os) (piecesOf (sts 20 1) env0 cB ⟨44, 0, 44, 8⟩ BB)
noncomputable def KY (w : World) (os : OsState) (b : Bool) : Result → Sem Fin := frameK (LYs w os b)
noncomputable def RYs (w : World) (os : OsState) (b : Bool) : Option (SharedT × Thread) := some (Sy (w.withFollow sgr b) os 0, TY ⟨45, 9, 45, 74⟩ (KY w os b) false [] cB ⟨45, 9, 45, 74⟩ [])
noncomputable def LYt (w : World) (os : OsState) (b : Bool) (i n : Nat) (pos : Pos) (k : Result → Sem Fin) (g : Bool) (l : List Value) (c : Code) (p : Pos) (kept : List Value) := segGoT treeTable PWc (w.withFollow sgr b) 28 ann6 1 (45 * n) (Sy (w.withFollow sgr b) os i) (TY pos k g l c p kept)
noncomputable def RYt (w : World) (os : OsState) (b : Bool) (i n : Nat) (k : Result → Sem Fin) (g : Bool) (l : List Value) (c : Code) (p : Pos) (kept : List Value) : Option (SharedT × Thread) := some (Sy (w.withFollow sgr b) os (i + n), TY ⟨46, 4, 46, 25⟩ k g l c p kept)
noncomputable def LYe (w : World) (os : OsState) (b : Bool) := segRunT treeTable PWc (w.withFollow sgr b) 28 ann6 1 18 (Sy (w.withFollow sgr b) os 67) (TY ⟨46, 4, 46, 25⟩ (KY w os b) false [] cB ⟨45, 9, 45, 74⟩ [])
noncomputable def RYe (w : World) (os : OsState) (b : Bool) : Option (Flow × SharedT × Code × Pos) := some (.next, S4 (w.withFollow sgr b) os, cB, ⟨45, 9, 45, 74⟩)
-- line 48
noncomputable def codeZ : Code := forOf (stAt 22) (.ref 80)
noncomputable def z3 (P : Params) : Nat → Obj
  | 0 => g3 P (.int 57 1608)
  | k + 1 => g3 P (.int (Int.ofNat (bxs.getD k 0)) (1615 + 3 * k))
noncomputable def z76 (k : Nat) : Obj := ⟨.type "list", none, .seq (bA k) 0, #[]⟩
noncomputable def z80 (k : Nat) : Obj := ⟨.type "bytes_iterator", none, .fields #[.bytes (bxs.map Nat.toUInt8).toArray 1614, .int (Int.ofNat k) 0], #[]⟩
noncomputable def Sz (w : World) (os : OsState) (k : Nat) : SharedT := ⟨tZ w.params (z3 w.params k) (z76 k) (z80 k), 81, {}, #[], {}, 1615 + 3 * k, os⟩
noncomputable def TZ (pos : Pos) (k : Result → Sem Fin) (g : Bool) (l : List Value) (c : Code) (p : Pos) (kept : List Value) : Thread := ⟨denote treeTable codeZ, codeZ, pos, [.ret k none g l c p kept, topFrame p00]⟩
noncomputable def LZs (w : World) (os : OsState) (b : Bool) := segGoT treeTable PWc (w.withFollow sgr b) 28 ann6 1 10 (S5 (w.withFollow sgr b) os) (piecesOf (sts 22 1) env0 cB ⟨47, 0, 47, 28⟩ BB)
noncomputable def KZ (w : World) (os : OsState) (b : Bool) : Result → Sem Fin := frameK (LZs w os b)
noncomputable def RZs (w : World) (os : OsState) (b : Bool) : Option (SharedT × Thread) := some (Sz (w.withFollow sgr b) os 0, TZ ⟨48, 9, 48, 110⟩ (KZ w os b) false [] cB ⟨48, 9, 48, 110⟩ [])
noncomputable def LZt (w : World) (os : OsState) (b : Bool) (i n : Nat) (pos : Pos) (k : Result → Sem Fin) (g : Bool) (l : List Value) (c : Code) (p : Pos) (kept : List Value) := segGoT treeTable PWc (w.withFollow sgr b) 28 ann6 1 (45 * n) (Sz (w.withFollow sgr b) os i) (TZ pos k g l c p kept)
noncomputable def RZt (w : World) (os : OsState) (b : Bool) (i n : Nat) (k : Result → Sem Fin) (g : Bool) (l : List Value) (c : Code) (p : Pos) (kept : List Value) : Option (SharedT × Thread) := some (Sz (w.withFollow sgr b) os (i + n), TZ ⟨49, 4, 49, 23⟩ k g l c p kept)
noncomputable def LZe (w : World) (os : OsState) (b : Bool) := segRunT treeTable PWc (w.withFollow sgr b) 28 ann6 1 18 (Sz (w.withFollow sgr b) os 95) (TZ ⟨49, 4, 49, 23⟩ (KZ w os b) false [] cB ⟨48, 9, 48, 110⟩ [])
noncomputable def RZe (w : World) (os : OsState) (b : Bool) : Option (Flow × SharedT × Code × Pos) := some (.next, S6 (w.withFollow sgr b) os, cB, ⟨48, 9, 48, 110⟩)
lay_quick Mine.Lpre Mine.Rpre Mine.Lblk Mine.Rblk Mine.LG1 Mine.RG1 Mine.LG2 Mine.RG2 Mine.LG3 Mine.RG3 Mine.LG4 Mine.RG4 Mine.Lfin Mine.Rfin
lay_quick Mine.LXs Mine.RXs Mine.LXe Mine.RXe Mine.LYs Mine.RYs Mine.LYt Mine.RYt Mine.LYe Mine.RYe Mine.LZs Mine.RZs Mine.LZt Mine.RZt Mine.LZe Mine.RZe
end Mine
end
section
open PySem PySem.W PyProof.Rows


namespace Mine
theorem pre_tw (w : World) (os : OsState) : PySem.W.Fast.tw1853243158513963215 w os = PySem.W.Fast.tw17924770078311033985 w os := by kernel_rfl
theorem blk_tw (w : World) (os : OsState) : PySem.W.Fast.tw826831670020288015 w os = PySem.W.Fast.tw5068557472191515667 w os := by kernel_rfl
theorem G1_tw (w : World) (os : OsState) : PySem.W.Fast.tw16399198835140568719 w os = PySem.W.Fast.tw6817164168241964617 w os := by kernel_rfl
theorem G2_tw (w : World) (os : OsState) : PySem.W.Fast.tw6969743531802497299 w os = PySem.W.Fast.tw6788773927373431197 w os := by kernel_rfl
theorem G3_tw (w : World) (os : OsState) : PySem.W.Fast.tw12003408921314006928 w os = PySem.W.Fast.tw1381358462053217500 w os := by kernel_rfl
theorem fin_tw (w : World) (os : OsState) : PySem.W.Fast.tw14641194912256578682 w os = PySem.W.Fast.tw997586460512933155 w os := by kernel_rfl
theorem G4_tw_true (w : World) (os : OsState) : PySem.W.Fast.tw2332112370328965520 w os true = PySem.W.Fast.tw11714455196629686199 w os true := by kernel_rfl
theorem Xs_tw_true_true (w : World) (os : OsState) : PySem.W.Fast.tw13609887350510901341 w os true true = PySem.W.Fast.tw8878297456002502859 w os true true := by kernel_rfl
theorem Xe_tw_true_true (w : World) (os : OsState) : PySem.W.Fast.tw7474820200270854257 w os true true = PySem.W.Fast.tw11845206422303538919 w os true true := by kernel_rfl
theorem Xs_tw_true_false (w : World) (os : OsState) : PySem.W.Fast.tw13609887350510901341 w os true false = PySem.W.Fast.tw8878297456002502859 w os true false := by kernel_rfl
theorem Xe_tw_true_false (w : World) (os : OsState) : PySem.W.Fast.tw7474820200270854257 w os true false = PySem.W.Fast.tw11845206422303538919 w os true false := by kernel_rfl
theorem Ys_tw_true (w : World) (os : OsState) : PySem.W.Fast.tw14093341560217288045 w os true = PySem.W.Fast.tw5523684867834334814 w os true := by kernel_rfl
theorem Ye_tw_true (w : World) (os : OsState) : PySem.W.Fast.tw10590545280689024704 w os true = PySem.W.Fast.tw3801623248041462187 w os true := by kernel_rfl
theorem Zs_tw_true (w : World) (os : OsState) : PySem.W.Fast.tw17948582131715969280 w os true = PySem.W.Fast.tw9679185070341840832 w os true := by kernel_rfl
theorem Ze_tw_true (w : World) (os : OsState) : PySem.W.Fast.tw8399114933842078433 w os true = PySem.W.Fast.tw4622999297632804099 w os true := by kernel_rfl
theorem G4_tw_false (w : World) (os : OsState) : PySem.W.Fast.tw2332112370328965520 w os false = PySem.W.Fast.tw11714455196629686199 w os false := by kernel_rfl
theorem Xs_tw_false_true (w : World) (os : OsState) : PySem.W.Fast.tw13609887350510901341 w os false true = PySem.W.Fast.tw8878297456002502859 w os false true := by kernel_rfl
theorem Xe_tw_false_true (w : World) (os : OsState) : PySem.W.Fast.tw7474820200270854257 w os false true = PySem.W.Fast.tw11845206422303538919 w os false true := by kernel_rfl
theorem Xs_tw_false_false (w : World) (os : OsState) : PySem.W.Fast.tw13609887350510901341 w os false false = PySem.W.Fast.tw8878297456002502859 w os false false := by kernel_rfl
theorem Xe_tw_false_false (w : World) (os : OsState) : PySem.W.Fast.tw7474820200270854257 w os false false = PySem.W.Fast.tw11845206422303538919 w os false false := by kernel_rfl
theorem Ys_tw_false (w : World) (os : OsState) : PySem.W.Fast.tw14093341560217288045 w os false = PySem.W.Fast.tw5523684867834334814 w os false := by kernel_rfl
theorem Ye_tw_false (w : World) (os : OsState) : PySem.W.Fast.tw10590545280689024704 w os false = PySem.W.Fast.tw3801623248041462187 w os false := by kernel_rfl
theorem Zs_tw_false (w : World) (os : OsState) : PySem.W.Fast.tw17948582131715969280 w os false = PySem.W.Fast.tw9679185070341840832 w os false := by kernel_rfl
theorem Ze_tw_false (w : World) (os : OsState) : PySem.W.Fast.tw8399114933842078433 w os false = PySem.W.Fast.tw4622999297632804099 w os false := by kernel_rfl
theorem Xt_true_0 (w : World) (os : OsState) (pos k g l c p kept) : PySem.W.Fast.tw1749504995761647881 w os true 0 32 pos k g l c p kept = PySem.W.Fast.tw5880390174299408546 w os true 0 32 k g l c p kept := by kernel_rfl
theorem Xt_true_32 (w : World) (os : OsState) (pos k g l c p kept) : PySem.W.Fast.tw1749504995761647881 w os true 32 32 pos k g l c p kept = PySem.W.Fast.tw5880390174299408546 w os true 32 32 k g l c p kept := by kernel_rfl
theorem Xt_true_64 (w : World) (os : OsState) (pos k g l c p kept) : PySem.W.Fast.tw1749504995761647881 w os true 64 32 pos k g l c p kept = PySem.W.Fast.tw5880390174299408546 w os true 64 32 k g l c p kept := by kernel_rfl
theorem Xt_true_96 (w : World) (os : OsState) (pos k g l c p kept) : PySem.W.Fast.tw1749504995761647881 w os true 96 32 pos k g l c p kept = PySem.W.Fast.tw5880390174299408546 w os true 96 32 k g l c p kept := by kernel_rfl
theorem Xt_true_128 (w : World) (os : OsState) (pos k g l c p kept) : PySem.W.Fast.tw1749504995761647881 w os true 128 32 pos k g l c p kept = PySem.W.Fast.tw5880390174299408546 w os true 128 32 k g l c p kept := by kernel_rfl
theorem Xt_true_160 (w : World) (os : OsState) (pos k g l c p kept) : PySem.W.Fast.tw1749504995761647881 w os true 160 32 pos k g l c p kept = PySem.W.Fast.tw5880390174299408546 w os true 160 32 k g l c p kept := by kernel_rfl
theorem Xt_true_192 (w : World) (os : OsState) (pos k g l c p kept) : PySem.W.Fast.tw1749504995761647881 w os true 192 32 pos k g l c p kept = PySem.W.Fast.tw5880390174299408546 w os true 192 32 k g l c p kept := by kernel_rfl
theorem Xt_true_224 (w : World) (os : OsState) (pos k g l c p kept) : PySem.W.Fast.tw1749504995761647881 w os true 224 32 pos k g l c p kept = PySem.W.Fast.tw5880390174299408546 w os true 224 32 k g l c p kept := by kernel_rfl
theorem Xt_false_0 (w : World) (os : OsState) (pos k g l c p kept) : PySem.W.Fast.tw1749504995761647881 w os false 0 32 pos k g l c p kept = PySem.W.Fast.tw5880390174299408546 w os false 0 32 k g l c p kept := by kernel_rfl
theorem Xt_false_32 (w : World) (os : OsState) (pos k g l c p kept) : PySem.W.Fast.tw1749504995761647881 w os false 32 32 pos k g l c p kept = PySem.W.Fast.tw5880390174299408546 w os false 32 32 k g l c p kept := by kernel_rfl
theorem Xt_false_64 (w : World) (os : OsState) (pos k g l c p kept) : PySem.W.Fast.tw1749504995761647881 w os false 64 32 pos k g l c p kept = PySem.W.Fast.tw5880390174299408546 w os false 64 32 k g l c p kept := by kernel_rfl
theorem Xt_false_96 (w : World) (os : OsState) (pos k g l c p kept) : PySem.W.Fast.tw1749504995761647881 w os false 96 32 pos k g l c p kept = PySem.W.Fast.tw5880390174299408546 w os false 96 32 k g l c p kept := by kernel_rfl
theorem Xt_false_128 (w : World) (os : OsState) (pos k g l c p kept) : PySem.W.Fast.tw1749504995761647881 w os false 128 32 pos k g l c p kept = PySem.W.Fast.tw5880390174299408546 w os false 128 32 k g l c p kept := by kernel_rfl
theorem Xt_false_160 (w : World) (os : OsState) (pos k g l c p kept) : PySem.W.Fast.tw1749504995761647881 w os false 160 32 pos k g l c p kept = PySem.W.Fast.tw5880390174299408546 w os false 160 32 k g l c p kept := by kernel_rfl
theorem Xt_false_192 (w : World) (os : OsState) (pos k g l c p kept) : PySem.W.Fast.tw1749504995761647881 w os false 192 32 pos k g l c p kept = PySem.W.Fast.tw5880390174299408546 w os false 192 32 k g l c p kept := by kernel_rfl
theorem Xt_false_224 (w : World) (os : OsState) (pos k g l c p kept) : PySem.W.Fast.tw1749504995761647881 w os false 224 32 pos k g l c p kept = PySem.W.Fast.tw5880390174299408546 w os false 224 32 k g l c p kept := by kernel_rfl
theorem Yt_true_0 (w : World) (os : OsState) (pos k g l c p kept) : PySem.W.Fast.tw7794911000379298458 w os true 0 24 pos k g l c p kept = PySem.W.Fast.tw16461941776841395207 w os true 0 24 k g l c p kept := by kernel_rfl
theorem Yt_true_24 (w : World) (os : OsState) (pos k g l c p kept) : PySem.W.Fast.tw7794911000379298458 w os true 24 24 pos k g l c p kept = PySem.W.Fast.tw16461941776841395207 w os true 24 24 k g l c p kept := by kernel_rfl
theorem Yt_true_48 (w : World) (os : OsState) (pos k g l c p kept) : PySem.W.Fast.tw7794911000379298458 w os true 48 19 pos k g l c p kept = PySem.W.Fast.tw16461941776841395207 w os true 48 19 k g l c p kept := by kernel_rfl
theorem Yt_false_0 (w : World) (os : OsState) (pos k g l c p kept) : PySem.W.Fast.tw7794911000379298458 w os false 0 24 pos k g l c p kept = PySem.W.Fast.tw16461941776841395207 w os false 0 24 k g l c p kept := by kernel_rfl
theorem Yt_false_24 (w : World) (os : OsState) (pos k g l c p kept) : PySem.W.Fast.tw7794911000379298458 w os false 24 24 pos k g l c p kept = PySem.W.Fast.tw16461941776841395207 w os false 24 24 k g l c p kept := by kernel_rfl
theorem Yt_false_48 (w : World) (os : OsState) (pos k g l c p kept) : PySem.W.Fast.tw7794911000379298458 w os false 48 19 pos k g l c p kept = PySem.W.Fast.tw16461941776841395207 w os false 48 19 k g l c p kept := by kernel_rfl
theorem Zt_true_0 (w : World) (os : OsState) (pos k g l c p kept) : PySem.W.Fast.tw2766030011570170616 w os true 0 24 pos k g l c p kept = PySem.W.Fast.tw10150982825496503728 w os true 0 24 k g l c p kept := by kernel_rfl
theorem Zt_true_24 (w : World) (os : OsState) (pos k g l c p kept) : PySem.W.Fast.tw2766030011570170616 w os true 24 24 pos k g l c p kept = PySem.W.Fast.tw10150982825496503728 w os true 24 24 k g l c p kept := by kernel_rfl
theorem Zt_true_48 (w : World) (os : OsState) (pos k g l c p kept) : PySem.W.Fast.tw2766030011570170616 w os true 48 24 pos k g l c p kept = PySem.W.Fast.tw10150982825496503728 w os true 48 24 k g l c p kept := by kernel_rfl
theorem Zt_true_72 (w : World) (os : OsState) (pos k g l c p kept) : PySem.W.Fast.tw2766030011570170616 w os true 72 23 pos k g l c p kept = PySem.W.Fast.tw10150982825496503728 w os true 72 23 k g l c p kept := by kernel_rfl
theorem Zt_false_0 (w : World) (os : OsState) (pos k g l c p kept) : PySem.W.Fast.tw2766030011570170616 w os false 0 24 pos k g l c p kept = PySem.W.Fast.tw10150982825496503728 w os false 0 24 k g l c p kept := by kernel_rfl
theorem Zt_false_24 (w : World) (os : OsState) (pos k g l c p kept) : PySem.W.Fast.tw2766030011570170616 w os false 24 24 pos k g l c p kept = PySem.W.Fast.tw10150982825496503728 w os false 24 24 k g l c p kept := by kernel_rfl
theorem Zt_false_48 (w : World) (os : OsState) (pos k g l c p kept) : PySem.W.Fast.tw2766030011570170616 w os false 48 24 pos k g l c p kept = PySem.W.Fast.tw10150982825496503728 w os false 48 24 k g l c p kept := by kernel_rfl
theorem Zt_false_72 (w : World) (os : OsState) (pos k g l c p kept) : PySem.W.Fast.tw2766030011570170616 w os false 72 23 pos k g l c p kept = PySem.W.Fast.tw10150982825496503728 w os false 72 23 k g l c p kept := by kernel_rfl
end Mine
end
section
open PySem PySem.W PyProof.Rows
namespace Mine
/-- the part of the heap that the walk knows -/
noncomputable def KK (P : Params) : Frag := (nat_lit 3, o3v6 P) :: (nat_lit 44, o44) :: (nat_lit 45, o45) :: (nat_lit 46, o46) :: (nat_lit 47, o47) :: (nat_lit 53, o53) :: (nat_lit 54, o54) :: (nat_lit 60, o60) :: (nat_lit 61, o61) :: (nat_lit 65, o65) :: (nat_lit 66, o66) :: (nat_lit 69, o69) :: (nat_lit 88, o88) :: (nat_lit 89, o89) :: (nat_lit 95, o95) :: (nat_lit 96, o96) :: (nat_lit 102, o102) :: (nat_lit 108, o108) :: (nat_lit 109, o109) :: (nat_lit 115, o115) :: (nat_lit 116, o116) :: (nat_lit 122, o122) :: (nat_lit 123, o123) :: (nat_lit 124, o124) :: (nat_lit 125, o125) :: (nat_lit 131, o131) :: (nat_lit 132, o132) :: (nat_lit 138, o138) :: (nat_lit 139, o139) :: (nat_lit 145, o145) :: (nat_lit 146, o146) :: (nat_lit 152, o152) :: (nat_lit 153, o153) :: (nat_lit 159, o159) :: (nat_lit 160, o160) :: (nat_lit 166, o166) :: (nat_lit 167, o167) :: (nat_lit 171, o171) :: (nat_lit 172, o172) :: []
noncomputable def asK : List Addr := [3, 44, 45, 46, 47, 53, 54, 60, 61, 65, 66, 69, 88, 89, 95, 96, 102, 108, 109, 115, 116, 122, 123, 124, 125, 131, 132, 138, 139, 145, 146, 152, 153, 159, 160, 166, 167, 171, 172]
theorem asK_eq (P : Params) : asK = (KK P).map (·.1) := rfl
noncomputable def hookK : Hook := kmHook KK asK asK_eq [162]
noncomputable def qP : Program := { PWc with main := { PWc.main with body := [stAt 0, stAt 40] } }
noncomputable def looseP : List Str := ["_wall", "_buffer", "_NO_SEP", "b2a_hex", "hexlify", "b16encode", "_twin_re_1", "NL", "_QUOPRI_MAP", "_QUOPRI_HEADER_MAP", "_QUOPRI_BODY_MAP", "ascii_lowercase", "ascii_uppercase", "ascii_letters", "digits", "hexdigits",
  "unquote", "quote", "_QUOPRI_BODY_ENCODE_MAP", "decode", "_unquote_match", "header_decode", "_initial_missing", "reduce", "_law_stays", "_law_digit", "_law_figure", "_law_octet", "_law_rounds"].map Str.ofString
noncomputable def looseQ : List Str := looseW qP looseP
noncomputable def XtP (s : Shared) : Bool := xlAt qP [] s && recOk [] s
noncomputable def modsP : List Str := importedModules PWc.main.body
noncomputable def sF (w : World) (os : OsState) : Shared := ⟨H7 w.params, #[], {}, 2021, os⟩
noncomputable def Llk (w : World) (os : OsState) := ((staticsOk modsP (H0 w.params) (H7 w.params) && namesBound PWc (H7 w.params) && gensDone (sF w os) && laidKept (H0 w.params) (H7 w.params)), openSeen qP looseP modsP XtP true (sF w os))
noncomputable def Rlk (w : World) (os : OsState) := (true, openGood qP looseP)
noncomputable def LKk (w : World) (os : OsState) : List (Option Obj) × List (Option Obj) := (asK.map (sF w os).heap.get?, [162].map (sF w os).heap.get?)
noncomputable def RKk (w : World) : List (Option Obj) × List (Option Obj) := ((KK w.params).map fun p => some p.2, [162].map fun _ => some (tabObj #[]))
noncomputable def Lsz (w : World) := ((H0 w.params).isNs mainGlobals && (#[] : Array GenState).size == 0, (H0 w.params).objs.size, (H0 w.params).nsMap mainGlobals "__annotations__")
noncomputable def Rsz (w : World) := (true, 28, ann6)
lay_quick Mine.Llk Mine.Rlk Mine.LKk Mine.RKk Mine.Lsz Mine.Rsz
end Mine
end
section
open PySem PySem.W PyProof.Rows
namespace Mine
theorem sz_tw (w : World) : PySem.W.Fast.tw11163436540682336747 w = Rsz w := by kernel_rfl
theorem kk_tw (w : World) (os : OsState) : PySem.W.Fast.tw1946076556523559115 w os = PySem.W.Fast.tw13314412678857387813 w := by kernel_rfl
theorem lk_tw (w : World) (os : OsState) : PySem.W.Fast.tw13992179122848951461 w os = PySem.W.Fast.tw1335282904107728236 w os := by kernel_rfl
end Mine
end
section
open PySem PySem.W PyProof.Rows
namespace Mine
theorem open_n (w : World) : LO w = RO w := by rw [PySem.W.Fast.te16745005354979320155, PySem.W.Fast.te4559885817161330186]; exact open_tw w
theorem pre_n (w : World) (os : OsState) : Lpre w os = Rpre w os := by rw [PySem.W.Fast.te1853243158513963215, PySem.W.Fast.te17924770078311033985]; exact pre_tw w os
theorem blk_n (w : World) (os : OsState) : Lblk w os = Rblk w os := by rw [PySem.W.Fast.te826831670020288015, PySem.W.Fast.te5068557472191515667]; exact blk_tw w os
theorem G1_n (w : World) (os : OsState) : LG1 w os = RG1 w os := by rw [PySem.W.Fast.te16399198835140568719, PySem.W.Fast.te6817164168241964617]; exact G1_tw w os
theorem G2_n (w : World) (os : OsState) : LG2 w os = RG2 w os := by rw [PySem.W.Fast.te6969743531802497299, PySem.W.Fast.te6788773927373431197]; exact G2_tw w os
theorem G3_n (w : World) (os : OsState) : LG3 w os = RG3 w os := by rw [PySem.W.Fast.te12003408921314006928, PySem.W.Fast.te1381358462053217500]; exact G3_tw w os
theorem fin_n (w : World) (os : OsState) : Lfin w os = Rfin w os := by rw [PySem.W.Fast.te14641194912256578682, PySem.W.Fast.te997586460512933155]; exact fin_tw w os
theorem G4_n (w : World) (os : OsState) (b : Bool) : LG4 w os b = RG4 w os b := by rw [PySem.W.Fast.te2332112370328965520, PySem.W.Fast.te11714455196629686199]; cases b; exact G4_tw_false w os; exact G4_tw_true w os
theorem Ys_n (w : World) (os : OsState) (b : Bool) : LYs w os b = RYs w os b := by rw [PySem.W.Fast.te14093341560217288045, PySem.W.Fast.te5523684867834334814]; cases b; exact Ys_tw_false w os; exact Ys_tw_true w os
theorem Ye_n (w : World) (os : OsState) (b : Bool) : LYe w os b = RYe w os b := by rw [PySem.W.Fast.te10590545280689024704, PySem.W.Fast.te3801623248041462187]; cases b; exact Ye_tw_false w os; exact Ye_tw_true w os
theorem Zs_n (w : World) (os : OsState) (b : Bool) : LZs w os b = RZs w os b := by rw [PySem.W.Fast.te17948582131715969280, PySem.W.Fast.te9679185070341840832]; cases b; exact Zs_tw_false w os; exact Zs_tw_true w os
theorem Ze_n (w : World) (os : OsState) (b : Bool) : LZe w os b = RZe w os b := by rw [PySem.W.Fast.te8399114933842078433, PySem.W.Fast.te4622999297632804099]; cases b; exact Ze_tw_false w os; exact Ze_tw_true w os
theorem Xs_n (w : World) (os : OsState) (b : Bool) (c : Bool) : LXs w os b c = RXs w os b c := by rw [PySem.W.Fast.te13609887350510901341, PySem.W.Fast.te8878297456002502859]; cases b <;> cases c; exact Xs_tw_false_false w os; exact Xs_tw_false_true w os; exact Xs_tw_true_false w os; exact Xs_tw_true_true w os
theorem Xe_n (w : World) (os : OsState) (b : Bool) (c : Bool) : LXe w os b c = RXe w os b c := by rw [PySem.W.Fast.te7474820200270854257, PySem.W.Fast.te11845206422303538919]; cases b <;> cases c; exact Xe_tw_false_false w os; exact Xe_tw_false_true w os; exact Xe_tw_true_false w os; exact Xe_tw_true_true w os
theorem Xt_n_0 (w : World) (os : OsState) (b : Bool) (pos k g l c p kept) : LX w os b 0 32 pos k g l c p kept = RX w os b 0 32 k g l c p kept := by rw [PySem.W.Fast.te1749504995761647881, PySem.W.Fast.te5880390174299408546]; cases b; exact Xt_false_0 w os pos k g l c p kept; exact Xt_true_0 w os pos k g l c p kept
theorem Xt_n_32 (w : World) (os : OsState) (b : Bool) (pos k g l c p kept) : LX w os b 32 32 pos k g l c p kept = RX w os b 32 32 k g l c p kept := by rw [PySem.W.Fast.te1749504995761647881, PySem.W.Fast.te5880390174299408546]; cases b; exact Xt_false_32 w os pos k g l c p kept; exact Xt_true_32 w os pos k g l c p kept
theorem Xt_n_64 (w : World) (os : OsState) (b : Bool) (pos k g l c p kept) : LX w os b 64 32 pos k g l c p kept = RX w os b 64 32 k g l c p kept := by rw [PySem.W.Fast.te1749504995761647881, PySem.W.Fast.te5880390174299408546]; cases b; exact Xt_false_64 w os pos k g l c p kept; exact Xt_true_64 w os pos k g l c p kept
theorem Xt_n_96 (w : World) (os : OsState) (b : Bool) (pos k g l c p kept) : LX w os b 96 32 pos k g l c p kept = RX w os b 96 32 k g l c p kept := by rw [PySem.W.Fast.te1749504995761647881, PySem.W.Fast.te5880390174299408546]; cases b; exact Xt_false_96 w os pos k g l c p kept; exact Xt_true_96 w os pos k g l c p kept
theorem Xt_n_128 (w : World) (os : OsState) (b : Bool) (pos k g l c p kept) : LX w os b 128 32 pos k g l c p kept = RX w os b 128 32 k g l c p kept := by rw [PySem.W.Fast.te1749504995761647881, PySem.W.Fast.te5880390174299408546]; cases b; exact Xt_false_128 w os pos k g l c p kept; exact Xt_true_128 w os pos k g l c p kept
theorem Xt_n_160 (w : World) (os : OsState) (b : Bool) (pos k g l c p kept) : LX w os b 160 32 pos k g l c p kept = RX w os b 160 32 k g l c p kept := by rw [PySem.W.Fast.te1749504995761647881, PySem.W.Fast.te5880390174299408546]; cases b; exact Xt_false_160 w os pos k g l c p kept; exact Xt_true_160 w os pos k g l c p kept
theorem Xt_n_192 (w : World) (os : OsState) (b : Bool) (pos k g l c p kept) : LX w os b 192 32 pos k g l c p kept = RX w os b 192 32 k g l c p kept := by rw [PySem.W.Fast.te1749504995761647881, PySem.W.Fast.te5880390174299408546]; cases b; exact Xt_false_192 w os pos k g l c p kept; exact Xt_true_192 w os pos k g l c p kept
theorem Xt_n_224 (w : World) (os : OsState) (b : Bool) (pos k g l c p kept) : LX w os b 224 32 pos k g l c p kept = RX w os b 224 32 k g l c p kept := by rw [PySem.W.Fast.te1749504995761647881, PySem.W.Fast.te5880390174299408546]; cases b; exact Xt_false_224 w os pos k g l c p kept; exact Xt_true_224 w os pos k g l c p kept
theorem Yt_n_0 (w : World) (os : OsState) (b : Bool) (pos k g l c p kept) : LYt w os b 0 24 pos k g l c p kept = RYt w os b 0 24 k g l c p kept := by rw [PySem.W.Fast.te7794911000379298458, PySem.W.Fast.te16461941776841395207]; cases b; exact Yt_false_0 w os pos k g l c p kept; exact Yt_true_0 w os pos k g l c p kept
theorem Yt_n_24 (w : World) (os : OsState) (b : Bool) (pos k g l c p kept) : LYt w os b 24 24 pos k g l c p kept = RYt w os b 24 24 k g l c p kept := by rw [PySem.W.Fast.te7794911000379298458, PySem.W.Fast.te16461941776841395207]; cases b; exact Yt_false_24 w os pos k g l c p kept; exact Yt_true_24 w os pos k g l c p kept
theorem Yt_n_48 (w : World) (os : OsState) (b : Bool) (pos k g l c p kept) : LYt w os b 48 19 pos k g l c p kept = RYt w os b 48 19 k g l c p kept := by rw [PySem.W.Fast.te7794911000379298458, PySem.W.Fast.te16461941776841395207]; cases b; exact Yt_false_48 w os pos k g l c p kept; exact Yt_true_48 w os pos k g l c p kept
theorem Zt_n_0 (w : World) (os : OsState) (b : Bool) (pos k g l c p kept) : LZt w os b 0 24 pos k g l c p kept = RZt w os b 0 24 k g l c p kept := by rw [PySem.W.Fast.te2766030011570170616, PySem.W.Fast.te10150982825496503728]; cases b; exact Zt_false_0 w os pos k g l c p kept; exact Zt_true_0 w os pos k g l c p kept
theorem Zt_n_24 (w : World) (os : OsState) (b : Bool) (pos k g l c p kept) : LZt w os b 24 24 pos k g l c p kept = RZt w os b 24 24 k g l c p kept := by rw [PySem.W.Fast.te2766030011570170616, PySem.W.Fast.te10150982825496503728]; cases b; exact Zt_false_24 w os pos k g l c p kept; exact Zt_true_24 w os pos k g l c p kept
theorem Zt_n_48 (w : World) (os : OsState) (b : Bool) (pos k g l c p kept) : LZt w os b 48 24 pos k g l c p kept = RZt w os b 48 24 k g l c p kept := by rw [PySem.W.Fast.te2766030011570170616, PySem.W.Fast.te10150982825496503728]; cases b; exact Zt_false_48 w os pos k g l c p kept; exact Zt_true_48 w os pos k g l c p kept
theorem Zt_n_72 (w : World) (os : OsState) (b : Bool) (pos k g l c p kept) : LZt w os b 72 23 pos k g l c p kept = RZt w os b 72 23 k g l c p kept := by rw [PySem.W.Fast.te2766030011570170616, PySem.W.Fast.te10150982825496503728]; cases b; exact Zt_false_72 w os pos k g l c p kept; exact Zt_true_72 w os pos k g l c p kept
/-! line 36 -/
theorem follow_self (w : World) (r : String) : w.withFollow r (w.params.followText r) = w := World.withFollow_self w r
theorem runX (w : World) (os : OsState) : segRun treeTable PWc w 28 ann6 1 9552 (S1 w os).abs (piecesOf (sts 11 1) env0 cB ⟨35, 0, 35, 2⟩ BB) = some (.next, (S2 w os).abs, cB, ⟨36, 0, 36, 11⟩) := by
  have key : ∀ (w : World) (b c : Bool), w2 w b c = (w2 w b c).withFollow sgr ((w2 w b c).params.followText sgr) := fun w b c => (follow_self _ _).symm
  have main : ∀ (w : World) (b c : Bool), segRun treeTable PWc (w2 w b c) 28 ann6 1 9552 (S1 (w2 w b c) os).abs (piecesOf (sts 11 1) env0 cB ⟨35, 0, 35, 2⟩ BB) = some (.next, (S2 (w2 w b c) os).abs, cB, ⟨36, 0, 36, 11⟩) := by
    intro w b c
    have he := segRun_of (Xe_n w os b c)
    have hs := segGo_of (Xs_n w os b c)
    generalize KX w os b c = K at he hs
    have ch : ∀ (i n : Nat) (pos : Pos), (∀ (w : World) (b : Bool), LX w os b i n pos K true [.ref 70, .ref 69] cB ⟨36, 36, 36, 46⟩ [] = RX w os b i n K true [.ref 70, .ref 69] cB ⟨36, 36, 36, 46⟩ []) →
        segGo treeTable PWc (w2 w b c) 28 ann6 1 (37 * n) (Sx (w2 w b c) os i).abs (TX pos K true [.ref 70, .ref 69] cB ⟨36, 36, 36, 46⟩ []) = some ((Sx (w2 w b c) os (i + n)).abs, TX posX K true [.ref 70, .ref 69] cB ⟨36, 36, 36, 46⟩ []) := by
      intro i n pos h
      have h1 := h (w2 w b c) ((w2 w b c).params.followText sgr)
      unfold LX RX at h1
      rw [← key w b c] at h1
      exact segGo_of h1
    have c7 := seg_go (ch 224 32 posX fun w b => Xt_n_224 w os b posX K true _ _ _ _) he
    have c6 := seg_go (ch 192 32 posX fun w b => Xt_n_192 w os b posX K true _ _ _ _) c7
    have c5 := seg_go (ch 160 32 posX fun w b => Xt_n_160 w os b posX K true _ _ _ _) c6
    have c4 := seg_go (ch 128 32 posX fun w b => Xt_n_128 w os b posX K true _ _ _ _) c5
    have c3 := seg_go (ch 96 32 posX fun w b => Xt_n_96 w os b posX K true _ _ _ _) c4
    have c2 := seg_go (ch 64 32 posX fun w b => Xt_n_64 w os b posX K true _ _ _ _) c3
    have c1 := seg_go (ch 32 32 posX fun w b => Xt_n_32 w os b posX K true _ _ _ _) c2
    have c0 := seg_go (ch 0 32 ⟨36, 36, 36, 46⟩ fun w b => Xt_n_0 w os b ⟨36, 36, 36, 46⟩ K true _ _ _ _) c1
    have r := seg_go hs c0
    cases c <;> exact r
  have e1 := follow_self w sgr
  have e2 := follow_self (w.withFollow sgr (w.params.followText sgr)) cit
  have m := main w (w.params.followText sgr) ((w.withFollow sgr (w.params.followText sgr)).params.followText cit)
  unfold w2 at m
  rw [e2, e1] at m
  exact m
/-! lines 45, 48 -/
theorem runY (w : World) (os : OsState) : segRun treeTable PWc w 28 ann6 1 3077 (S3 w os).abs (piecesOf (sts 20 1) env0 cB ⟨44, 0, 44, 8⟩ BB) = some (.next, (S4 w os).abs, cB, ⟨45, 9, 45, 74⟩) := by
  have main : ∀ (b : Bool), segRun treeTable PWc (w.withFollow sgr b) 28 ann6 1 3077 (S3 (w.withFollow sgr b) os).abs (piecesOf (sts 20 1) env0 cB ⟨44, 0, 44, 8⟩ BB) = some (.next, (S4 (w.withFollow sgr b) os).abs, cB, ⟨45, 9, 45, 74⟩) := by
    intro b
    have he := segRun_of (Ye_n w os b)
    have hs := segGo_of (Ys_n w os b)
    generalize KY w os b = K at he hs
    have c2 := seg_go (segGo_of (Yt_n_48 w os b ⟨46, 4, 46, 25⟩ K false [] cB ⟨45, 9, 45, 74⟩ [])) he
    have c1 := seg_go (segGo_of (Yt_n_24 w os b ⟨46, 4, 46, 25⟩ K false [] cB ⟨45, 9, 45, 74⟩ [])) c2
    have c0 := seg_go (segGo_of (Yt_n_0 w os b ⟨45, 9, 45, 74⟩ K false [] cB ⟨45, 9, 45, 74⟩ [])) c1
    exact seg_go hs c0
  have m := main (w.params.followText sgr)
  rw [follow_self] at m
  exact m
theorem runZ (w : World) (os : OsState) : segRun treeTable PWc w 28 ann6 1 4303 (S5 w os).abs (piecesOf (sts 22 1) env0 cB ⟨47, 0, 47, 28⟩ BB) = some (.next, (S6 w os).abs, cB, ⟨48, 9, 48, 110⟩) := by
  have main : ∀ (b : Bool), segRun treeTable PWc (w.withFollow sgr b) 28 ann6 1 4303 (S5 (w.withFollow sgr b) os).abs (piecesOf (sts 22 1) env0 cB ⟨47, 0, 47, 28⟩ BB) = some (.next, (S6 (w.withFollow sgr b) os).abs, cB, ⟨48, 9, 48, 110⟩) := by
    intro b
    have he := segRun_of (Ze_n w os b)
    have hs := segGo_of (Zs_n w os b)
    generalize KZ w os b = K at he hs
    have c3 := seg_go (segGo_of (Zt_n_72 w os b ⟨49, 4, 49, 23⟩ K false [] cB ⟨48, 9, 48, 110⟩ [])) he
    have c2 := seg_go (segGo_of (Zt_n_48 w os b ⟨49, 4, 49, 23⟩ K false [] cB ⟨48, 9, 48, 110⟩ [])) c3
    have c1 := seg_go (segGo_of (Zt_n_24 w os b ⟨49, 4, 49, 23⟩ K false [] cB ⟨48, 9, 48, 110⟩ [])) c2
    have c0 := seg_go (segGo_of (Zt_n_0 w os b ⟨48, 9, 48, 110⟩ K false [] cB ⟨48, 9, 48, 110⟩ [])) c1
    exact seg_go hs c0
  have m := main (w.params.followText sgr)
  rw [follow_self] at m
  exact m
theorem runG4 (w : World) (os : OsState) : segRun treeTable PWc w 28 ann6 1 700 (S6 w os).abs (piecesOf (sts 23 18) env0 cB ⟨48, 9, 48, 110⟩ BB) = some (.next, (S7 w os).abs, cB, ⟨148, 0, 156, 81⟩) := by
  have m := segRun_of (G4_n w os (w.params.followText sgr))
  rw [follow_self] at m
  exact m
theorem body_eq : bI = sts 1 10 ++ (sts 11 1 ++ (sts 12 8 ++ (sts 20 1 ++ (sts 21 1 ++ (sts 22 1 ++ (sts 23 18 ++ [])))))) := by kernel_rfl
theorem run_top (w : World) (os : OsState) : topRun treeTable PWc w 28 ann6 (12 + (1 + (266 + (9552 + (133 + (3077 + (25 + (4303 + (700 + 3))))))))) (S0 w os).abs (topStub PWc) = some (S7 w os).abs := by
  have hf : topRun treeTable PWc w 28 ann6 3 (S7 w os).abs (restOf [] env0 cB ⟨148, 0, 156, 81⟩ BB) = some (S7 w os).abs := piece_nil (fin_n w os)
  have h7 : topRun treeTable PWc w 28 ann6 (700 + 3) (S6 w os).abs (restOf (sts 23 18 ++ []) env0 cB ⟨48, 9, 48, 110⟩ BB) = some (S7 w os).abs := piece_app (runG4 w os) hf
  have h6 : topRun treeTable PWc w 28 ann6 (4303 + (700 + 3)) (S5 w os).abs (restOf (sts 22 1 ++ (sts 23 18 ++ [])) env0 cB ⟨47, 0, 47, 28⟩ BB) = some (S7 w os).abs := piece_app (runZ w os) h7
  have g3 : segRun treeTable PWc w 28 ann6 1 25 (S4 w os).abs (piecesOf (sts 21 1) env0 cB ⟨45, 9, 45, 74⟩ BB) = some (.next, (S5 w os).abs, cB, ⟨47, 0, 47, 28⟩) := segRun_of (G3_n w os)
  have h5 : topRun treeTable PWc w 28 ann6 (25 + (4303 + (700 + 3))) (S4 w os).abs (restOf (sts 21 1 ++ (sts 22 1 ++ (sts 23 18 ++ []))) env0 cB ⟨45, 9, 45, 74⟩ BB) = some (S7 w os).abs := piece_app g3 h6
  have h4 : topRun treeTable PWc w 28 ann6 (3077 + (25 + (4303 + (700 + 3)))) (S3 w os).abs (restOf (sts 20 1 ++ (sts 21 1 ++ (sts 22 1 ++ (sts 23 18 ++ [])))) env0 cB ⟨44, 0, 44, 8⟩ BB) = some (S7 w os).abs := piece_app (runY w os) h5
  have g2 : segRun treeTable PWc w 28 ann6 1 133 (S2 w os).abs (piecesOf (sts 12 8) env0 cB ⟨36, 0, 36, 11⟩ BB) = some (.next, (S3 w os).abs, cB, ⟨44, 0, 44, 8⟩) := segRun_of (G2_n w os)
  have h3 : topRun treeTable PWc w 28 ann6 (133 + (3077 + (25 + (4303 + (700 + 3))))) (S2 w os).abs (restOf (sts 12 8 ++ (sts 20 1 ++ (sts 21 1 ++ (sts 22 1 ++ (sts 23 18 ++ []))))) env0 cB ⟨36, 0, 36, 11⟩ BB) = some (S7 w os).abs := piece_app g2 h4
  have h2 : topRun treeTable PWc w 28 ann6 (9552 + (133 + (3077 + (25 + (4303 + (700 + 3)))))) (S1 w os).abs (restOf (sts 11 1 ++ (sts 12 8 ++ (sts 20 1 ++ (sts 21 1 ++ (sts 22 1 ++ (sts 23 18 ++ [])))))) env0 cB ⟨35, 0, 35, 2⟩ BB) = some (S7 w os).abs := piece_app (runX w os) h3
  have g1 : segRun treeTable PWc w 28 ann6 1 266 (Sp w os).abs (piecesOf (sts 1 10) env0 cB p00 BB) = some (.next, (S1 w os).abs, cB, ⟨35, 0, 35, 2⟩) := segRun_of (G1_n w os)
  have h1 : topRun treeTable PWc w 28 ann6 (266 + (9552 + (133 + (3077 + (25 + (4303 + (700 + 3))))))) (Sp w os).abs (restOf (sts 1 10 ++ (sts 11 1 ++ (sts 12 8 ++ (sts 20 1 ++ (sts 21 1 ++ (sts 22 1 ++ (sts 23 18 ++ []))))))) env0 cB p00 BB) = some (S7 w os).abs := piece_app g1 h2
  rw [← body_eq] at h1
  have b1 : segRun treeTable PWc w 28 ann6 1 1 (Sp w os).abs (blockOf bI env0 cB p00 BB) = some (.next, (Sp w os).abs, cB, p00) := blk_n w os
  have h0 : topRun treeTable PWc w 28 ann6 (1 + (266 + (9552 + (133 + (3077 + (25 + (4303 + (700 + 3)))))))) (Sp w os).abs ⟨denote treeTable cB, cB, p00, BB⟩ = some (S7 w os).abs := piece_block b1 h1
  have e1 : topGo treeTable PWc w 28 ann6 12 (S0 w os).abs (topStub PWc) = some ((Sp w os).abs, ⟨denote treeTable cB, cB, p00, BB⟩) := pre_n w os
  exact go_top e1 h0
end Mine
end
section
open PySem PySem.W PyProof.Rows
namespace Mine
theorem size_n (w : World) : Lsz w = Rsz w := by rw [PySem.W.Fast.te11163436540682336747]; exact sz_tw w
theorem kk_n (w : World) (os : OsState) : LKk w os = RKk w := by rw [PySem.W.Fast.te1946076556523559115, PySem.W.Fast.te13314412678857387813]; exact kk_tw w os
theorem lk_n (w : World) (os : OsState) : Llk w os = Rlk w os := by rw [PySem.W.Fast.te13992179122848951461, PySem.W.Fast.te1335282904107728236]; exact lk_tw w os
theorem leftP : LeftO PWc qP looseP XtP hookK.obs hookK.val 36000 := by
  refine LeftO.of_pieces (H₀ := H0) (H₁ := H7) (gs₀ := #[]) (gs₁ := #[]) (d₀ := {}) (d₁ := {}) (k₀ := 276) (k₁ := 2021) (m₀ := 28) (ann := ann6) (M := 12 + (1 + (266 + (9552 + (133 + (3077 + (25 + (4303 + (700 + 3)))))))))
    (fun w => open_n w) (fun w => size_n w) (fun w os => run_top w os) rfl (fun w => funext fun os => ?_)
  have h1 := lk_n w os
  have h2 := kk_n w os
  unfold Llk Rlk at h1
  obtain ⟨a, b⟩ := Prod.mk.inj h1
  exact Prod.ext a (Prod.ext b h2)
end Mine
end
section
open PySem PySem.W PyProof.Rows
open PySem.Builtin
namespace Mine
/-- a text by its codes -/
noncomputable def tx (l : List Nat) : Str := ⟨l.toArray⟩
noncomputable def bs (l : List Nat) : Array UInt8 := (l.map Nat.toUInt8).toArray
theorem encode_road_latin (id : String) (self : Value) (x : Str) (errors : Option Str) : _codecs.encodeRoad id self x (Str.ofString "latin-1") errors = (do mkBytes (← _codecs.encodeNarrow id _codecs.latin1Codec errors self x)) := by
  kernel_rfl
theorem encode_road_ascii (id : String) (self : Value) (x : Str) (errors : Option Str) : _codecs.encodeRoad id self x (Str.ofString "ascii") errors = (do mkBytes (← _codecs.encodeNarrow id _codecs.asciiCodec errors self x)) := by
  kernel_rfl
theorem encode_tree_latin (x : Str) (t u : Tok) : «str.encode» ⟨[.str x t, .str (Str.ofString "latin-1") u], []⟩ = (do ret (← _codecs.encodeRoad "str.encode" (.str x t) x (Str.ofString "latin-1") none)) := by
  kernel_rfl
theorem encode_tree_ascii (x : Str) (t u : Tok) : «str.encode» ⟨[.str x t, .str (Str.ofString "ascii") u], []⟩ = (do ret (← _codecs.encodeRoad "str.encode" (.str x t) x (Str.ofString "ascii") none)) := by
  kernel_rfl
theorem forIn_two {β : Type} (n : Nat) (f : Nat → β → Sem (ForInStep β)) (b0 b1 : β) (h0 : n ≠ 0 → f 0 b0 = pure (.yield b1)) (h1 : ∀ i, f i b1 = pure (.done b1)) (hz : n = 0 → b0 = b1) :
    forIn (List.range' 0 n) b0 f = pure b1 := by
  cases n with
  | zero => rw [hz rfl]; rfl
  | succ n =>
    rw [List.range'_succ, List.forIn_cons, h0 (by omega)]
    cases n with
    | zero => rfl
    | succ n => 
      show forIn (List.range' _ (n+1)) b1 f = _
      rw [List.range'_succ, List.forIn_cons, h1]; rfl
theorem findIdx_none {p : Nat → Bool} {l : List Nat} (h : ∀ y ∈ l, p y = false) : Array.findIdx? p l.toArray = none := by
  rw [List.findIdx?_toArray, List.findIdx?_eq_none_iff]; exact h
theorem foldl_bytes (g : Nat → List UInt8) (l : List Nat) : ∀ acc : Array UInt8, l.foldl (fun acc y => acc ++ (g y).toArray) acc = acc ++ (l.flatMap g).toArray := by
  induction l with
  | nil => intro acc; simp
  | cons a l ih => intro acc; rw [List.foldl_cons, ih]; simp
theorem narrow_clean (id : String) (c : _codecs.TextCodec) (self : Value) (l : List Nat) (h : ∀ y ∈ l, c.bad y = false) (hz : (l.flatMap c.bytesOf).length ≤ sizeLine) :
    _codecs.encodeNarrow id c none self (tx l) = pure ((l.flatMap c.bytesOf).toArray) := by
  unfold _codecs.encodeNarrow
  have hs : (tx l).length = l.length := by simp [tx, Str.length]
  have hc : (tx l).cps = l.toArray := rfl
  simp only [Std.Legacy.Range.forIn_eq_forIn_range', Std.Legacy.Range.size, hs, hc]
  rw [show (l.length - 0 + 1 - 1) / 1 = l.length from by simp]
  rw [forIn_two (b1 := (l.length, (l.flatMap c.bytesOf).toArray, {}))]
  · rfl
  · intro hn
    obtain ⟨a, l', rfl⟩ := List.exists_cons_of_ne_nil (fun e => hn (by rw [e]; rfl) : l ≠ [])
    have ha : c.bad a = false := h a (.head _)
    have hf := findIdx_none (p := c.bad) h
    dsimp only
    rw [if_neg (by simp)]
    simp only [List.getElem?_toArray, List.getElem?_cons_zero, ha, Bool.not_false, if_true]
    simp only [List.size_toArray, List.extract_toArray, List.extract_eq_take_drop, List.drop_zero, Nat.sub_zero, List.take_length, hf, Option.getD_none]
    simp only [Nat.zero_add]
    rw [List.foldl_toArray' (h := by simp), foldl_bytes]
    simp
  · intro i
    dsimp only
    rw [if_neg (by simp only [List.size_toArray]; omega)]
    simp
  · intro hn
    have : l = [] := List.length_eq_zero_iff.mp hn
    subst this
    rfl

theorem bytesOf_map (l : List Nat) : l.flatMap (fun c => [c.toUInt8]) = l.map Nat.toUInt8 := by
  induction l with
  | nil => rfl
  | cons a l ih => simp [List.flatMap_cons, ih]
theorem narrow_latin (id : String) (self : Value) (l : List Nat) (h : ∀ y ∈ l, y < 256) (hz : l.length ≤ sizeLine) :
    _codecs.encodeNarrow id _codecs.latin1Codec none self (tx l) = pure (bs l) := by
  rw [narrow_clean id _codecs.latin1Codec self l (fun y hy => decide_eq_false (by have := h y hy; omega)) (by
    show (l.flatMap (fun c => [c.toUInt8])).length ≤ sizeLine
    rw [bytesOf_map, List.length_map]; exact hz)]
  show pure (l.flatMap (fun c => [c.toUInt8])).toArray = _
  rw [bytesOf_map]; rfl
theorem narrow_ascii (id : String) (self : Value) (l : List Nat) (h : ∀ y ∈ l, y < 128) (hz : l.length ≤ sizeLine) :
    _codecs.encodeNarrow id _codecs.asciiCodec none self (tx l) = pure (bs l) := by
  rw [narrow_clean id _codecs.asciiCodec self l (fun y hy => decide_eq_false (by have := h y hy; omega)) (by
    show (l.flatMap (fun c => [c.toUInt8])).length ≤ sizeLine
    rw [bytesOf_map, List.length_map]; exact hz)]
  show pure (l.flatMap (fun c => [c.toUInt8])).toArray = _
  rw [bytesOf_map]; rfl
theorem bs_size (l : List Nat) : (bs l).size = l.length := by simp [bs]
section
variable {prog : Program} {w : World} {A : Around} {E : Value → Shared → Prop} {s : Shared} {Q : Value → Shared → Prop}
theorem args_str_encode_2 (a b : Value) : argsOk "str.encode" ⟨[a, b], []⟩ := by
  unfold argsOk; rw [signature?_of (id := "str.encode") (n := ['e', 'd', 'o', 'c', 'n', 'e']) (o := ['r', 't', 's']) (by kernel_rfl) F.owner_str]; kernel_rfl
theorem encode_latin {l : List Nat} {t u : Tok} (h : ∀ y ∈ l, y < 256) (hz : l.length ≤ sizeLine) (hq : ∀ t' k, Q (.bytes (bs l) t') { s with toks := k }) :
    wpAny (model prog w) A (call (.builtin "str.encode") [.str (tx l) t, .str (Str.ofString "latin-1") u]) Q E s := by
  refine call_meets (S := fun _ R s => ∀ t' k, R (.ok (.ret (.bytes (bs l) t'))) { s with toks := k }) F.slot_str_encode (typeIs_str _ _ _) F.entry_str_encode (args_str_encode_2 _ _) ?_ hq
  refine .of_wp fun prog w A R s hS => ?_
  rw [encode_tree_latin, encode_road_latin, narrow_latin _ _ l h hz]
  refine wpAny_bind (wpAny_bind (wpAny_pure ?_))
  exact wpAny_mkBytes (wpAny_pure ⟨_, rfl, hS _ _⟩) (by rw [bs_size]; exact hz)
theorem encode_ascii {l : List Nat} {t u : Tok} (h : ∀ y ∈ l, y < 128) (hz : l.length ≤ sizeLine) (hq : ∀ t' k, Q (.bytes (bs l) t') { s with toks := k }) :
    wpAny (model prog w) A (call (.builtin "str.encode") [.str (tx l) t, .str (Str.ofString "ascii") u]) Q E s := by
  refine call_meets (S := fun _ R s => ∀ t' k, R (.ok (.ret (.bytes (bs l) t'))) { s with toks := k }) F.slot_str_encode (typeIs_str _ _ _) F.entry_str_encode (args_str_encode_2 _ _) ?_ hq
  refine .of_wp fun prog w A R s hS => ?_
  rw [encode_tree_ascii, encode_road_ascii, narrow_ascii _ _ l h hz]
  refine wpAny_bind (wpAny_bind (wpAny_pure ?_))
  exact wpAny_mkBytes (wpAny_pure ⟨_, rfl, hS _ _⟩) (by rw [bs_size]; exact hz)
end
/-! bytes.hex -/
theorem hex_tree (b : Array UInt8) (t : Tok) : «bytes.hex» ⟨[.bytes b t], []⟩ =
    retStr ⟨b.toList.zipIdx.foldl (fun (out : Array Nat) (c : UInt8 × Nat) => (out.push (Bytes.hexDigit (c.1.toNat / 16))).push (Bytes.hexDigit (c.1.toNat % 16))) #[]⟩ := by
  kernel_rfl
theorem hex_fold (l : List UInt8) : ∀ (k : Nat) (acc : List Nat), (l.zipIdx k).foldl (fun (out : Array Nat) (c : UInt8 × Nat) => (out.push (Bytes.hexDigit (c.1.toNat / 16))).push (Bytes.hexDigit (c.1.toNat % 16))) acc.toArray
    = (acc ++ l.flatMap fun c => [Bytes.hexDigit (c.toNat / 16), Bytes.hexDigit (c.toNat % 16)]).toArray := by
  induction l with
  | nil => intro k acc; simp
  | cons a l ih =>
    intro k acc
    rw [List.zipIdx_cons, List.foldl_cons, List.push_toArray, List.push_toArray, ih]
    simp
noncomputable def hexL (n : Nat) : Nat := if n < 10 then 48 + n else 87 + n
theorem toNat_u8 (c : Nat) (h : c < 256) : c.toUInt8.toNat = c := by
  show (UInt8.ofNat c).toNat = c
  rw [UInt8.toNat_ofNat']; omega
theorem hex_map (l : List Nat) (h : ∀ y ∈ l, y < 256) : (l.flatMap fun a => [Bytes.hexDigit (a.toUInt8.toNat / 16), Bytes.hexDigit (a.toUInt8.toNat % 16)]) = l.flatMap fun c => [hexL (c / 16), hexL (c % 16)] := by
  induction l with
  | nil => rfl
  | cons a l ih =>
    rw [List.flatMap_cons, List.flatMap_cons, ih fun y hy => h y (.tail _ hy), toNat_u8 a (h a (.head _))]
    rfl
theorem flat2_len (f g : Nat → Nat) (l : List Nat) : (l.flatMap fun c => [f c, g c]).length = 2 * l.length := by
  induction l with
  | nil => rfl
  | cons a l ih => rw [List.flatMap_cons, List.length_append, ih]; simp only [List.length_cons, List.length_nil]; omega
theorem hex_eq (l : List Nat) (h : ∀ y ∈ l, y < 256) : (bs l).toList.zipIdx.foldl (fun (out : Array Nat) (c : UInt8 × Nat) => (out.push (Bytes.hexDigit (c.1.toNat / 16))).push (Bytes.hexDigit (c.1.toNat % 16))) #[]
    = (l.flatMap fun c => [hexL (c / 16), hexL (c % 16)]).toArray := by
  rw [hex_fold _ 0 []]
  congr 1
  show ([] ++ (l.map Nat.toUInt8).flatMap _) = _
  rw [List.nil_append, List.flatMap_map]
  exact hex_map l h
section
variable {prog : Program} {w : World} {A : Around} {E : Value → Shared → Prop} {s : Shared} {Q : Value → Shared → Prop}
theorem bytes_hex {l : List Nat} {t : Tok} (h : ∀ y ∈ l, y < 256) (hz : 2 * l.length ≤ sizeLine) (hq : ∀ t' k, Q (.str (tx (l.flatMap fun c => [hexL (c / 16), hexL (c % 16)])) t') { s with toks := k }) :
    wpAny (model prog w) A (call (.builtin "bytes.hex") [.bytes (bs l) t]) Q E s := by
  refine call_meets (S := fun _ R s => ∀ t' k, R (.ok (.ret (.str (tx (l.flatMap fun c => [hexL (c / 16), hexL (c % 16)])) t'))) { s with toks := k }) FB.slot_bytes_hex (typeIs_bytes _ _ _) FB.entry_bytes_hex (FB.args_bytes_hex_1 _) ?_ hq
  refine .of_wp fun prog w A R s hS => ?_
  rw [hex_tree, hex_eq l h]
  refine wpAny_bind (wpAny_mkStr (wpAny_pure ⟨_, rfl, hS _ _⟩) ?_)
  show (l.flatMap fun c => [hexL (c / 16), hexL (c % 16)]).toArray.size ≤ sizeLine
  rw [List.size_toArray, flat2_len]; exact hz
end
/-! bytes.upper -/
theorem slot_bytes_upper : Slot "bytes" "upper" "bytes.upper" :=
  .of (owner := "bytes") (n := "upper") (by rw [typeLookup_type, builtinLookup_eq_fast]; kernel_rfl) (by decide +kernel) (by decide +kernel) (by decide +kernel)
    (by first | exact .inl (by decide +kernel) | exact .inr (by decide +kernel)) (by rw [isSubtype_type]; kernel_rfl)
theorem type_bytes_upper : typeOf (.builtin "bytes.upper") = pure (.type "method_descriptor") := by show builtinType _ = _; rw [builtinType_eq_fast]; kernel_rfl
theorem entry_bytes_upper : entryFor table "bytes.upper" = some Builtin.«bytes.upper» := entryFor_of_tree (by kernel_rfl)
theorem args_bytes_upper_1 (a : Value) : argsOk "bytes.upper" ⟨[a], []⟩ := by
  unfold argsOk; rw [signature?_of (id := "bytes.upper") (n := ['r', 'e', 'p', 'p', 'u']) (o := ['s', 'e', 't', 'y', 'b']) (by kernel_rfl) FB.owner_bytes]; kernel_rfl
theorem upper_tree (b : Array UInt8) (t : Tok) : «bytes.upper» ⟨[.bytes b t], []⟩ = (do ret (← mkBytes (b.toList.map Bytes.toUpper).toArray)) := by
  kernel_rfl
noncomputable def upN (c : Nat) : Nat := if 97 ≤ c ∧ c ≤ 122 then c - 32 else c
theorem upper_u8 : ∀ c : Nat, c < 256 → Bytes.toUpper c.toUInt8 = (upN c).toUInt8 := by decide +kernel
theorem upper_eq (l : List Nat) (h : ∀ y ∈ l, y < 256) : ((bs l).toList.map Bytes.toUpper).toArray = bs (l.map upN) := by
  show (((l.map Nat.toUInt8).map Bytes.toUpper)).toArray = ((l.map upN).map Nat.toUInt8).toArray
  congr 1
  rw [List.map_map, List.map_map]
  exact List.map_congr_left fun c hc => upper_u8 c (h c hc)
section
variable {prog : Program} {w : World} {A : Around} {E : Value → Shared → Prop} {s : Shared} {Q : Value → Shared → Prop}
theorem bytes_upper {l : List Nat} {t : Tok} (h : ∀ y ∈ l, y < 256) (hz : l.length ≤ sizeLine) (hq : ∀ t' k, Q (.bytes (bs (l.map upN)) t') { s with toks := k }) :
    wpAny (model prog w) A (call (.builtin "bytes.upper") [.bytes (bs l) t]) Q E s := by
  refine call_meets (S := fun _ R s => ∀ t' k, R (.ok (.ret (.bytes (bs (l.map upN)) t'))) { s with toks := k }) slot_bytes_upper (typeIs_bytes _ _ _) entry_bytes_upper (args_bytes_upper_1 _) ?_ hq
  refine .of_wp fun prog w A R s hS => ?_
  rw [upper_tree, upper_eq l h]
  refine wpAny_bind (wpAny_mkBytes (wpAny_pure ⟨_, rfl, hS _ _⟩) ?_)
  rw [bs_size, List.length_map]; exact hz
end
end Mine
end
section
open PySem PySem.W PyProof.Rows
open PySem.Builtin
namespace Mine
theorem forIn_count {β : Type} (n : Nat) (f : Nat → β → Sem (ForInStep β)) (st : Nat → β) (h : ∀ i k, i < n → f k (st i) = pure (.yield (st (i + 1)))) :
    ∀ m a i, i + m = n → forIn (List.range' a m) (st i) f = pure (st n) := by
  intro m
  induction m with
  | zero => intro a i e; rw [show i = n from by omega]; rfl
  | succ m ih =>
    intro a i e
    rw [List.range'_succ, List.forIn_cons, h i a (by omega)]
    exact ih (a + 1) (i + 1) (by omega)
theorem run_ascii (id : String) (l : List Nat) (h : ∀ y ∈ l, y < 128) (hz : l.length ≤ sizeLine) :
    _codecs.runDecoder id _codecs.asciiDecoder none true (bs l) 0 [] = pure (l.toArray, l.length) := by
  unfold _codecs.runDecoder
  simp only [Std.Legacy.Range.forIn_eq_forIn_range', Std.Legacy.Range.size, bs_size]
  rw [show (l.length - 0 + 1 - 1) / 1 = l.length from by simp]
  rw [show ((0 : Nat), (#[] : Array Nat), ({ held := [] } : _codecs.Faults)) = (fun i => (i, (l.take i).toArray, ({ held := [] } : _codecs.Faults))) 0 from rfl]
  rw [forIn_count l.length (st := fun i => (i, (l.take i).toArray, ({ held := [] } : _codecs.Faults))) (m := l.length) (a := 0) (i := 0)]
  · simp only [pure_bind, List.take_length]
  · intro i k hi
    dsimp only
    rw [if_neg (by simp only [List.size_toArray, List.length_take]; omega), if_neg (by omega)]
    have hc : ((bs l).getD i 0).toNat = l[i] := by
      have : (bs l).getD i 0 = (l[i]).toUInt8 := by simp [bs, hi]
      rw [this, toNat_u8 _ (by have := h l[i] (List.getElem_mem hi); omega)]
    have hf : _codecs.asciiDecoder.find true (bs l) i = .text [l[i]] (i + 1) := by
      show (if ((bs l).getD i 0).toNat < 128 then _ else _) = _
      rw [hc, if_pos (h l[i] (List.getElem_mem hi))]
      rfl
    rw [hf]
    have ht : (l.take i).toArray ++ [l[i]].toArray = (l.take (i + 1)).toArray := by
      rw [List.append_toArray]
      congr 1
      exact List.take_append_getElem hi
    show (pure (ForInStep.yield (i + 1, (l.take i).toArray ++ [l[i]].toArray, ({ held := [] } : _codecs.Faults))) : Sem _) = _
    rw [ht]
  · omega
theorem args_bytes_decode_2 (a b : Value) : argsOk "bytes.decode" ⟨[a, b], []⟩ := by
  unfold argsOk; rw [signature?_of (id := "bytes.decode") (n := ['e', 'd', 'o', 'c', 'e', 'd']) (o := ['s', 'e', 't', 'y', 'b']) (by kernel_rfl) FB.owner_bytes]; kernel_rfl
theorem decode_entry (c : UInt8) (cs : List UInt8) (t u : Tok) : «bytes.decode» ⟨[.bytes (c :: cs).toArray t, .str (Str.ofString "ascii") u], []⟩ = (mkStr (Str.ofString "utf-8") >>= fun _ => mkStr (Str.ofString "ascii") >>= fun e => mkStr (Str.ofString "bytes.decode") >>= fun d =>
    call (.builtin "_codecs.decode.text") [.bytes (c :: cs).toArray t, e, .none, d] >>= fun v => ret v) := by kernel_rfl
theorem decode_road (id : String) (b : Array UInt8) : _codecs.decodeRoad id b (Str.ofString "ascii") none [] = (_codecs.runDecoder id _codecs.asciiDecoder none true b 0 [] >>= fun r => mkStr ⟨r.1⟩) := by kernel_rfl
section
variable {prog : Program} {w : World} {A : Around} {E : Value → Shared → Prop} {s : Shared} {Q : Value → Shared → Prop}
theorem meets_text_ascii {l : List Nat} {t t1 t2 : Tok} {d : Str} (h : ∀ y ∈ l, y < 128) (hz : l.length ≤ sizeLine) :
    Meets («_codecs.decode.text» ⟨[.bytes (bs l) t, .str (Str.ofString "ascii") t1, .none, .str d t2], []⟩) (fun _ R s => R (.ok (.ret (.str (tx l) s.toks))) { s with toks := s.toks + 1 }) := by
  refine .of_wp fun prog w A R s hS => ?_
  show wpAny _ _ (Bytes.bytesLike _ (.bytes (bs l) t) >>= fun r => _) _ _ s
  refine wpAny_bind (wpAny_of_eq KBd.like_eq ?_)
  refine wpAny_bind (wpAny_of_eq KBd.held_eq ?_)
  show wpAny _ _ (_codecs.decodeRoad _ (bs l) (Str.ofString "ascii") none [] >>= fun v => _) _ _ s
  rw [decode_road, run_ascii _ l h hz]
  refine wpAny_bind (wpAny_bind (wpAny_pure ?_))
  exact wpAny_mkStr (wpAny_pure ⟨_, rfl, hS⟩) (by show l.toArray.size ≤ sizeLine; rw [List.size_toArray]; exact hz)
theorem decode_ascii {l : List Nat} {t u : Tok} (h : ∀ y ∈ l, y < 128) (hn : l ≠ []) (hz : l.length ≤ sizeLine) (hq : ∀ t' k, Q (.str (tx l) t') { s with toks := k }) :
    wpAny (model prog w) A (call (.builtin "bytes.decode") [.bytes (bs l) t, .str (Str.ofString "ascii") u]) Q E s := by
  refine call_meets (S := fun _ R s => ∀ t' k, R (.ok (.ret (.str (tx l) t'))) { s with toks := k }) FB.slot_bytes_decode (typeIs_bytes _ _ _) FB.entry_bytes_decode (args_bytes_decode_2 _ _) ?_ hq
  refine .of_wp fun prog w A R s hS => ?_
  obtain ⟨a, r, rfl⟩ := List.exists_cons_of_ne_nil hn
  have e : bs (a :: r) = (a.toUInt8 :: r.map Nat.toUInt8).toArray := rfl
  rw [e, decode_entry, ← e]
  refine wpAny_bind (wpAny_mkStr ?_ (by decide))
  refine wpAny_bind (wpAny_mkStr ?_ (by decide))
  refine wpAny_bind (wpAny_mkStr ?_ (by decide))
  exact wpAny_bind (call_function_meets KBd.kind_text KBd.plain_text KBd.entry_text (KBd.args_text _ _ _ _) (meets_text_ascii h hz) (wpAny_pure ⟨_, rfl, hS _ _⟩))
/-! the methods' names -/
theorem m_encode {x : Str} {t : Tok} {pl : Sem Bool} {Q : Value × List Value → Shared → Prop} {M : Model} (h : Q (.builtin "str.encode", [.str x t]) s) : wpAny M A (getMethod (.str x t) "encode" pl) Q E s :=
  getMethod_builtin (typeIs_str _ _ _) F.plainAttrs_str F.slot_str_encode F.type_str_encode (fun _ e => nomatch e) h
theorem m_hex {b : Array UInt8} {t : Tok} {pl : Sem Bool} {Q : Value × List Value → Shared → Prop} {M : Model} (h : Q (.builtin "bytes.hex", [.bytes b t]) s) : wpAny M A (getMethod (.bytes b t) "hex" pl) Q E s :=
  KBd.method_of (.bytes b t) (typeIs_bytes _ _ _) FB.slot_bytes_hex FB.type_bytes_hex KBd.noRef h
theorem m_upper {b : Array UInt8} {t : Tok} {pl : Sem Bool} {Q : Value × List Value → Shared → Prop} {M : Model} (h : Q (.builtin "bytes.upper", [.bytes b t]) s) : wpAny M A (getMethod (.bytes b t) "upper" pl) Q E s :=
  KBd.method_of (.bytes b t) (typeIs_bytes _ _ _) slot_bytes_upper type_bytes_upper KBd.noRef h
end
end Mine
end
section
open PySem PySem.W PyProof.Rows
open PySem.Builtin
namespace Mine
/-! int(text, 16) of two figures -/
theorem typeCall_int_2 (a b : Value) : checkTypeCall "int" ⟨[a, b], []⟩ = pure () := by kernel_rfl
theorem newCall_int_2 (a b : Value) : checkBuiltinCall "int.__new__" ⟨[.type "int", a, b], []⟩ = pure () := by kernel_rfl
theorem args_object_init_3 (a b c : Value) : argsOk "object.__init__" ⟨[a, b, c], []⟩ := by unfold argsOk; kernel_rfl
theorem lt16 (n : Nat) (h : n < 16) : n = 0 ∨ n = 1 ∨ n = 2 ∨ n = 3 ∨ n = 4 ∨ n = 5 ∨ n = 6 ∨ n = 7 ∨ n = 8 ∨ n = 9 ∨ n = 10 ∨ n = 11 ∨ n = 12 ∨ n = 13 ∨ n = 14 ∨ n = 15 := by omega
theorem hex_read (x y : Nat) (hx : x < 16) (hy : y < 16) : (int_private% "readNumeral") 0 16 [hexD x, hexD y] = (int_private% "Numeral.value") ((16 * x + y : Nat) : Int) := by
  rcases lt16 x hx with rfl | rfl | rfl | rfl | rfl | rfl | rfl | rfl | rfl | rfl | rfl | rfl | rfl | rfl | rfl | rfl <;> rcases lt16 y hy with rfl | rfl | rfl | rfl | rfl | rfl | rfl | rfl | rfl | rfl | rfl | rfl | rfl | rfl | rfl | rfl <;> kernel_rfl
theorem wp_text16 {M : Model} {A : Around} {E : Value → Shared → Prop} {s : Shared} {Q : Value → Shared → Prop} {v : Value} {text : List Nat} {n : Int}
    (hs : (text.takeWhile (· != 0)).length ≤ 640) (hr : (int_private% "readNumeral") 0 16 (text.takeWhile (· != 0)) = (int_private% "Numeral.value") n)
    (ha : ((text.takeWhile (· != 0)).length == text.length) = true) (h : Q (.int n s.toks) { s with toks := s.toks + 1 }) :
    wpAny M A ((int_private% "intFromText") v text 16) Q E s := by
  obtain ⟨hp, g, d, tk, os⟩ := s
  repeat (any_goals (first
    | assumption
    | (with_reducible refine wpAny_ite_true (decide_eq_true hs) ?_)
    | (with_reducible refine wpAny_ite_true (decide_eq_true ha) ?_)
    | wp_step))
  all_goals (try rw [hr])
  all_goals (try dsimp only)
  repeat (any_goals (first
    | assumption
    | (with_reducible refine wpAny_ite_true (decide_eq_true hs) ?_)
    | (with_reducible refine wpAny_ite_true (decide_eq_true ha) ?_)
    | wp_step))
theorem hexD_ne (n : Nat) : (hexD n != 0) = true := by unfold hexD; split <;> simp
theorem hexD_small (n : Nat) (h : n < 16) : hexD n < 128 := hexD_lt n h
set_option maxHeartbeats 4000000 in
theorem gives_hex {x y : Nat} {u t : Tok} (hx : x < 16) (hy : y < 16) : Gives (Builtin.«int.__new__» ⟨[.type "int", .str (tx [hexD x, hexD y]) u, .int 16 t], []⟩) (.int ((16 * x + y : Nat) : Int)) :=
  .of_wp fun M A E s Q h => by
    obtain ⟨hp, g, d, tk, os⟩ := s
    have f1 := F.conv_sub_int
    have f2 := F.madeHere_int
    have f6 : typeOf (.str (tx [hexD x, hexD y]) u) = pure (.type "str") := rfl
    have htw : [hexD x, hexD y].takeWhile (· != 0) = [hexD x, hexD y] := by simp [hexD_ne]
    have h1 : ([hexD x, hexD y].takeWhile (· != 0)).length ≤ 640 := by rw [htw]; exact (by decide : 2 ≤ 640)
    have h2 : (int_private% "readNumeral") 0 16 ([hexD x, hexD y].takeWhile (· != 0)) = (int_private% "Numeral.value") ((16 * x + y : Nat) : Int) := by rw [htw]; exact hex_read x y hx hy
    have h3 : (([hexD x, hexD y].takeWhile (· != 0)).length == [hexD x, hexD y].length) = true := by rw [htw]; rfl
    have hall : ((tx [hexD x, hexD y]).cps.all (· < 128)) = true := by
      have a := hexD_small x hx
      have b := hexD_small y hy
      simp [tx, a, b]
    repeat (any_goals (first
      | assumption
      | ((with_reducible show wpAny _ _ ((int_private% "intFromText") _ _ _) _ _ _); rw [if_pos hall]; refine wp_text16 (text := [hexD x, hexD y]) h1 h2 h3 ?_)
      | wp_step))
    all_goals first | exact ⟨_, rfl, h⟩ | skip
section
variable {prog : Program} {w : World} {A : Around} {E : Value → Shared → Prop} {s : Shared} {Q : Value → Shared → Prop}
theorem call_hex {x y : Nat} {u t : Tok} (hx : x < 16) (hy : y < 16) (h : Q (.int ((16 * x + y : Nat) : Int) s.toks) { s with toks := s.toks + 1 }) : wpAny (model prog w) A (call (.type "int") [.str (tx [hexD x, hexD y]) u, .int 16 t]) Q E s :=
  callType_new F.called_int F.newNe_int (typeCall_int_2 _ _) (newCall_int_2 _ _) (fun obj => args_object_init_3 obj _ _) F.entry_int_new (gives_hex hx hy).meets (show (Made.int _).post _ s from ⟨rfl, h⟩)
end
end Mine
end
section
open PySem PySem.W PyProof.Rows
namespace Mine
/-! a def of the top is entered: its own frame over the heap as it stands -/
noncomputable def fName (i : Nat) : Str := match stAt i with | .FunctionDef n _ _ _ _ _ _ _ _ _ => n | _ => Str.empty
noncomputable def fArgs (i : Nat) : Arguments := match stAt i with | .FunctionDef _ a _ _ _ _ _ _ _ _ => a | _ => default
noncomputable def fBody (i : Nat) : List Stmt := match stAt i with | .FunctionDef _ _ b _ _ _ _ _ _ _ => b | _ => []
noncomputable def fScope (i : Nat) : Scope := match stAt i with | .FunctionDef _ _ _ _ _ _ s _ _ _ => s | _ => default
noncomputable abbrev fEnv (i : Nat) (L f : Addr) (cd : Value) : Env := envOf (fName i) (fScope i) L f cd
section
variable {prog : Program} {w : World} {A : Around} {E : Value → Shared → Prop} {s : Shared} {Q : Value → Shared → Prop} {mg mb : Str → Option Value}
theorem enter_fn (i : Nat) (f : Addr) (dV pm : Value) (cd : Addr) {args : List Value} {binds : List (Str × Value)}
    (X : (KK w.params).In s.heap) (T : TopRead qP looseQ mg mb s.heap)
    (hl : (KK w.params).lookup f = some ⟨.type "function", none, fnD (stAt i) dV pm (.ref cd), #[]⟩)
    (hf : fnD (stAt i) dV pm (.ref cd) = .func (fnOf (fName i) (fName i) (fArgs i) (fBody i) (fScope i) dV .none .none pm none (.ref cd) .none))
    (hc : codeIn (KK w.params) (.ref cd) (fName i) = true) (hroom : A.depth < recursionLimit)
    (hbind : BindsTo s (fnOf (fName i) (fName i) (fArgs i) (fBody i) (fScope i) dV .none .none pm none (.ref cd) .none) ⟨args, []⟩ binds)
    (hcell : ∀ x ∈ (fScope i).names, x.2 ≠ .cell) (hloc : ∀ x ∈ binds, (fScope i).names.lookup x.1 = some .local)
    (hco : (fScope i).isCoroutine = false) (hgen : (fScope i).isGenerator = false) (hk : (fScope i).kind = .function)
    (h : ∀ h₁, Fr s.heap s.heap.objs.size h₁ (fun x => binds.reverse.lookup x) →
      wpAny (model prog w) (A.deeper (fEnv i s.heap.objs.size f (.ref cd))) (execs (fBody i) (fEnv i s.heap.objs.size f (.ref cd)))
        (fun fl s' => Q (match fl with | .ret v => v | _ => .none) s')
        (fun e s' => wpAny (model prog w) (A.deeper (fEnv i s.heap.objs.size f (.ref cd))) (leaving (fEnv i s.heap.objs.size f (.ref cd)) e) (fun _ s'' => E e s'') (fun e' s'' => E e' s'') s')
        { s with heap := h₁, toks := s.toks + binds.length }) :
    wpAny (model prog w) A (call (.ref f) args) Q E s := by
  refine wpAny_call (codeAny_call_def (fd := fnOf (fName i) (fName i) (fArgs i) (fBody i) (fScope i) dV .none .none pm none (.ref cd) .none) (body := fBody i) hroom (X _ _ hl) hf T.nolimit (codeRec_of X hc) rfl hbind hcell hloc (fun h₀ hns hk₀ => ?_) hco hgen hk)
  exact h h₀ ⟨hns, hk₀, Nat.le_refl _⟩
end
theorem news_nil {h₀ h : Heap} {L : Addr} : News h₀ L h [] := fun p hp => nomatch hp
theorem frag_fill : PySem.Challenge.rw_op0047_01.Holds → KK = KK → True := by
  k_fill
  intro _ _; trivial
/-- unquote -/
theorem c_unquote {prog : Program} {w : World} {A : Around} {E : Value → Shared → Prop} {s : Shared} {Q : Value → Shared → Prop} {mg mb : Str → Option Value} (X : (KK w.params).In s.heap) (T : TopRead qP looseQ mg mb s.heap) {x y : Nat} {t : Tok}
    (hx : x < 16) (hy : y < 16) (hd : A.depth < recursionLimit) (hq : ∀ t h' tk, s.heap.StaysIn h' → Q (.str (tx [16 * x + y]) t) { s with heap := h', toks := tk }) :
    wpAny (model prog w) A (call (.ref 89) [.str (tx [61, hexD x, hexD y]) t]) Q E s := by
  refine enter_fn 23 89 .none (.str (Str.ofString "cpy313.email.quoprimime") 1401) 88 (binds := [(Str.ofString "s", .str (tx [61, hexD x, hexD y]) t)]) X T rfl rfl rfl hd (.of_eq rfl) (by decide) (locs rfl) rfl rfl rfl ?_
  intro h₁ F
  have N := news_nil (h₀ := s.heap) (h := h₁) (L := s.heap.objs.size)
  k_steps
  rename_i h2 t2 k2 F2 N2
  rw [show Txt.slice (tx [61, hexD x, hexD y]) (some 1) (some 3) = tx [hexD x, hexD y] from rfl]
  refine call_hex hx hy ?_
  k_steps
  have e : ({ cps := #[((16 * x + y : Nat) : Int).toNat] } : Str) = tx [16 * x + y] := by rw [Int.toNat_natCast]; rfl
  rw [e]
  exact hq _ _ _ F2.keep
end Mine
end
section
open PySem PySem.W PyProof.Rows
namespace Mine
section
variable {prog : Program} {w : World} {A : Around} {E : Value → Shared → Prop} {s : Shared} {Q : Value → Shared → Prop} {mg mb : Str → Option Value}
theorem qA_at (n : Nat) (h : n < 256) : (qA 256)[n]? = some (qV n) := by simp [qA, h]
theorem item69 {value slice : Expr} {n : Nat} {u : Tok} (X : (KK w.params).In s.heap) (hn : n < 256) (h : Q (qV n) s)
    (hs : subscripted slice false (.ref 69) (.int (n : Int) u) = operate [.ref 69, .int (n : Int) u] (getItem (.ref 69) (.int (n : Int) u)) := by with_unfolding_all rfl) :
    wpAny (model prog w) A (subscriptTail value slice (.ref 69) (.int (n : Int) u)) Q E s := by
  have hL : s.heap.IsList 69 (qA 256) := ⟨_, X 69 o69 rfl, rfl, 256, rfl⟩
  exact tail_any hL.typeIs slot_list_getitem.lookup (wpAny_getItem_list hL (by omega) (by omega) (by simpa using qA_at n hn) h) hs
local macro_rules | `(tactic| walk_at "subscriptTail") => `(tactic| ((with_reducible show wpAny _ _ (subscriptTail _ _ (Value.ref 69) (Value.int _ _)) _ _ _); refine item69 (Frag.In.keeps (by assumption) (Fr.keep (by assumption))) (by assumption) ?_))
/-- quote -/
theorem c_quote (X : (KK w.params).In s.heap) (T : TopRead qP looseQ mg mb s.heap) {n : Nat} {t : Tok}
    (hn : n < 256) (hd : A.depth < recursionLimit) (hq : ∀ t h' tk, s.heap.StaysIn h' → Q (.str (tx [61, hexD (n / 16), hexD (n % 16)]) t) { s with heap := h', toks := tk }) :
    wpAny (model prog w) A (call (.ref 96) [.str (tx [n]) t]) Q E s := by
  refine enter_fn 24 96 .none (.str (Str.ofString "cpy313.email.quoprimime") 1401) 95 (binds := [(Str.ofString "c", .str (tx [n]) t)]) X T rfl rfl rfl hd (.of_eq rfl) (by decide) (locs rfl) rfl rfl rfl ?_
  intro h₁ F
  have N := news_nil (h₀ := s.heap) (h := h₁) (L := s.heap.objs.size)
  k_steps
  exact hq _ _ _ F.keep
end
end Mine
end
theorem Mine.anewC1 : True := by first | walk1 | trivial
section
open PySem PySem.W PyProof.Rows
namespace Mine
theorem fr_stay {h₀ h h' : Heap} {L : Addr} {m : Str → Option Value} (F : Fr h₀ L h m) (st : h.StaysIn h') : Fr h₀ L h' m := ⟨F.ns.keeps st, fun b o e => st _ _ (F.keep b o e), F.above⟩
theorem news_stay {h₀ h h' : Heap} {L : Addr} {news : List (Addr × Obj)} (N : News h₀ L h news) (st : h.StaysIn h') : News h₀ L h' news := fun p hp => ⟨st _ _ (N p hp).1, (N p hp).2⟩
/-- a call that leaves all as it was and hands back R -/
noncomputable def PureC (prog : Program) (w : World) (A : Around) (s : Shared) (f : Value) (args : List Value) (R : Tok → Value) : Prop :=
  ∀ (Q E : Value → Shared → Prop), (∀ t h' tk, s.heap.StaysIn h' → Q (R t) { s with heap := h', toks := tk }) → wpAny (model prog w) A (call f args) Q E s
section
variable {prog : Program} {w : World} {A : Around} {E : Value → Shared → Prop} {s : Shared} {Q : Value → Shared → Prop} {mg mb : Str → Option Value}
theorem pure_use {f : Value} {args : List Value} {R : Tok → Value} {h₀ : Heap} {L : Addr} {m : Str → Option Value} {news : List (Addr × Obj)} (h : PureC prog w A s f args R) (F : Fr h₀ L s.heap m) (N : News h₀ L s.heap news)
    (hq : ∀ t h' tk, Fr h₀ L h' m → News h₀ L h' news → s.heap.StaysIn h' → Q (R t) { s with heap := h', toks := tk }) : wpAny (model prog w) A (call f args) Q E s :=
  h Q E fun t h' tk st => hq t h' tk (fr_stay F st) (news_stay N st) st
theorem kk_at {h₀ h : Heap} {L : Addr} {m : Str → Option Value} (F : Fr h₀ L h m) (X : (KK w.params).In h₀) : (KK w.params).In h := X.keeps F.keep
theorem tt_at {h₀ h : Heap} {L : Addr} {m : Str → Option Value} (F : Fr h₀ L h m) (T : TopRead qP looseQ mg mb h₀) : TopRead qP looseQ mg mb h := T.keeps F.keep
end
section
variable {prog : Program} {w : World} {A : Around} {s : Shared} {mg mb : Str → Option Value}
local macro_rules | `(tactic| walk_at "call type:type") => `(tactic| ((with_reducible show wpAny _ _ (call (Value.type "type") [Value.bytes _ _]) _ _ _); refine call_type_of (typeIs_bytes _ _ _) (by decide +kernel) ?_))
local macro_rules | `(tactic| walk_at "call type:type") => `(tactic| ((with_reducible show wpAny _ _ (call (Value.type "type") [Value.int _ _]) _ _ _); refine call_type_of (typeIs_int _ _ _) (by decide +kernel) ?_))
/-- _buffer -/
theorem c_buffer (X : (KK w.params).In s.heap) (T : TopRead qP looseQ mg mb s.heap) {b : Array UInt8} {t : Tok} (hd : A.depth < recursionLimit) : PureC prog w A s (.ref 45) [.bytes b t] (fun _ => .bytes b t) := by
  intro Q E hq
  refine enter_fn 3 45 .none (.str (Str.ofString "binascii") 289) 44 (binds := [(Str.ofString "data", .bytes b t)]) X T rfl rfl rfl hd (.of_eq rfl) (by decide) (locs rfl) rfl rfl rfl ?_
  intro h₁ F
  have N := news_nil (h₀ := s.heap) (h := h₁) (L := s.heap.objs.size)
  k_steps
  rename Fr _ _ _ _ => FF
  exact hq 0 _ _ FF.keep
theorem hexL_all (l : List Nat) (hl : ∀ y ∈ l, y < 256) : ∀ y ∈ (l.flatMap fun c => [hexL (c / 16), hexL (c % 16)]), y < 128 := by
  intro y hy
  simp only [List.mem_flatMap, List.mem_cons, List.not_mem_nil, or_false] at hy
  obtain ⟨c, hc, rfl | rfl⟩ := hy <;> (have := hl c hc; unfold hexL; split <;> omega)
theorem up_hex (l : List Nat) (hl : ∀ y ∈ l, y < 256) : (l.flatMap fun c => [hexL (c / 16), hexL (c % 16)]).map upN = l.flatMap fun c => [hexD (c / 16), hexD (c % 16)] := by
  have one : ∀ n, n < 16 → upN (hexL n) = hexD n := by decide
  induction l with
  | nil => rfl
  | cons a l ih =>
    have := hl a (.head _)
    rw [List.flatMap_cons, List.map_append, ih fun y hy => hl y (.tail _ hy), List.flatMap_cons]
    show [upN (hexL (a / 16)), upN (hexL (a % 16))] ++ _ = _
    rw [one _ (by omega), one _ (by omega)]
/-- b2a_hex -/
local macro_rules | `(tactic| walk_at "call ref") => `(tactic| ((with_reducible show wpAny _ _ (call (Value.ref 45) _) _ _ _); refine pure_use (c_buffer (kk_at (by assumption) (by assumption)) (tt_at (by assumption) (by assumption)) (by assumption)) (by assumption) (by assumption) ?_; intro t8 h8 tk8 F8 N8 st8; (try dsimp only)))
local macro_rules | `(tactic| walk_at "getMethod bytes") => `(tactic| first | refine m_hex ?_ | refine m_upper ?_)
local macro_rules | `(tactic| walk_at "getMethod str") => `(tactic| refine m_encode ?_)
theorem c_b2a {l : List Nat} (X : (KK w.params).In s.heap) (T : TopRead qP looseQ mg mb s.heap) {t : Tok} (hl : ∀ y ∈ l, y < 256) (hz : 2 * l.length ≤ sizeLine) (hd : A.depth + 1 < recursionLimit) :
    PureC prog w A s (.ref 54) [.bytes (bs l) t] (fun t => .bytes (bs (l.flatMap fun c => [hexL (c / 16), hexL (c % 16)])) t) := by
  intro Q E hq
  refine enter_fn 5 54 (.ref 47) (.str (Str.ofString "binascii") 289) 53 (binds := [(Str.ofString "data", .bytes (bs l) t), (Str.ofString "sep", .ref 46), (Str.ofString "bytes_per_sep", .int 1 300)]) X T rfl rfl rfl (by omega) (binds_K X rfl (o := o47) rfl rfl rfl rfl) (by decide) (locs rfl) rfl rfl rfl ?_
  intro h₁ F
  have N := news_nil (h₀ := s.heap) (h := h₁) (L := s.heap.objs.size)
  have hd' : (A.deeper (fEnv 5 s.heap.objs.size 54 (.ref 53))).depth < recursionLimit := hd
  k_steps
  refine bytes_hex hl hz ?_
  intro t9 k9
  k_steps
  refine encode_ascii (hexL_all l hl) (by rw [flat2_len]; exact hz) ?_
  intro t10 k10
  rename Fr _ _ _ _ => FF
  exact hq _ _ _ FF.keep
/-- b16encode -/
local macro_rules | `(tactic| walk_at "call ref") => `(tactic| ((with_reducible show wpAny _ _ (call (Value.ref 54) _) _ _ _); refine pure_use (c_b2a (kk_at (by assumption) (by assumption)) (tt_at (by assumption) (by assumption)) (by assumption) (by assumption) (by assumption)) (by assumption) (by assumption) ?_; intro t8 h8 tk8 F8 N8 st8; (try dsimp only)))
theorem c_b16 {l : List Nat} (X : (KK w.params).In s.heap) (T : TopRead qP looseQ mg mb s.heap) {t : Tok} (hl : ∀ y ∈ l, y < 256) (hz : 2 * l.length ≤ sizeLine) (hd : A.depth + 2 < recursionLimit) :
    PureC prog w A s (.ref 61) [.bytes (bs l) t] (fun t => .bytes (bs (l.flatMap fun c => [hexD (c / 16), hexD (c % 16)])) t) := by
  intro Q E hq
  refine enter_fn 8 61 .none (.str (Str.ofString "cpy313.base64") 312) 60 (binds := [(Str.ofString "s", .bytes (bs l) t)]) X T rfl rfl rfl (by omega) (.of_eq rfl) (by decide) (locs rfl) rfl rfl rfl ?_
  intro h₁ F
  have N := news_nil (h₀ := s.heap) (h := h₁) (L := s.heap.objs.size)
  have hd' : (A.deeper (fEnv 8 s.heap.objs.size 61 (.ref 60))).depth + 1 < recursionLimit := hd
  k_steps
  refine bytes_upper (fun y hy => Nat.lt_trans (hexL_all l hl y hy) (by decide)) (by rw [flat2_len]; exact hz) ?_
  intro t10 k10
  rename Fr _ _ _ _ => FF
  rw [up_hex l hl]
  exact hq _ _ _ FF.keep
end
end Mine
end
theorem Mine.anewC2 : True := by first | walk1 | trivial
section
open PySem PySem.W PyProof.Rows
open PySem.Builtin
namespace Mine
/-! the pattern's machine -/
open PySem.Sre (M Frame Wait Seen)
noncomputable def reCode : Array Nat := #[14, 8, 1, 3, 3, 1, 1, 61, 0, 16, 61, 24, 16, 2, 2, 13, 11, 9, 0, 67043328, 126, 126, 0, 0, 0, 0, 0, 1, 1]
noncomputable def itM : Nat → M → M
  | 0, m => m
  | n + 1, m => itM n m.step
theorem itM_add (a b : Nat) (m : M) : itM (a + b) m = itM b (itM a m) := by
  induction a generalizing m with
  | zero => simp [itM]
  | succ a ih => rw [show a + 1 + b = (a + b) + 1 from by omega]; exact ih m.step
theorem step_out (m : M) (h : m.outcome.isSome = true) : m.step = m := by unfold M.step; rw [if_pos h]
theorem itM_out (n : Nat) (m : M) (h : m.outcome.isSome = true) : itM n m = m := by
  induction n with
  | zero => rfl
  | succ n ih => show itM n m.step = m; rw [step_out m h]; exact ih
theorem runFor_eq (n : Nat) (m : M) : m.runFor n = itM n m := by
  induction n generalizing m with
  | zero => rfl
  | succ n ih =>
    unfold M.runFor
    by_cases h : m.outcome.isSome = true
    · rw [if_pos h, itM_out _ _ h]
    · rw [if_neg h]; exact ih m.step
section
variable {Md : Model} {A : Around} {E : Value → Shared → Prop} {s : Shared}
theorem wp_drive {Q : M → Shared → Prop} : ∀ (T k : Nat) (m : M), (itM k m).outcome.isSome = true → k ≤ 4 * T → 0 < T → Q (itM k m) s → wpAny Md A (Re.reDrive T m) Q E s
  | 0, _, _, _, _, h0, _ => absurd h0 (by omega)
  | T + 1, k, m, ho, hk, _, hq => by
    show wpAny Md A (if (m.runFor 4).outcome.isSome = true then pure (m.runFor 4) else (do rule "sre.turn"; Re.reDrive T (m.runFor 4))) Q E s
    rw [runFor_eq]
    by_cases h : (itM 4 m).outcome.isSome = true
    · rw [if_pos h]
      have e : itM 4 m = itM k m := by
        rcases Nat.le_total 4 k with g | g
        · rw [show k = 4 + (k - 4) from by omega, itM_add, itM_out _ _ h]
        · rw [show 4 = k + (4 - k) from by omega, itM_add, itM_out _ _ ho]
      rw [e]
      exact wpAny_pure hq
    · rw [if_neg h]
      have hk4 : 4 < k := by
        rcases Nat.lt_or_ge 4 k with g | g
        · exact g
        · exfalso
          apply h
          rw [show 4 = k + (4 - k) from by omega, itM_add, itM_out _ _ ho]
          exact ho
      have e : itM k m = itM (k - 4) (itM 4 m) := by rw [← itM_add]; congr 1; omega
      rw [e] at ho hq
      exact wpAny_bind (wpAny_rule (wp_drive T (k - 4) (itM 4 m) ho (by omega) (by omega) hq))
end
noncomputable def frA (p : Nat) (first : Bool) : Sre.Frame := { wait := .nextStart, pc := 9, pos := p, outermost := first }
noncomputable def mAt (t : Array Nat) (p : Nat) (first : Bool) (seen : Sre.Seen) : M :=
  { code := reCode, text := t, lim := t.size, start := p, lastStart := t.size, wholeText := false, mustAdvance := false, pc := 9, pos := p, handed := p, outermost := first, marks := #[], lastmark := -1, lastindex := -1, loops := #[], inner := none, frames := [frA p first], weight := 1, answer := none, seen := seen, outcome := none }
theorem fs_at (t : Array Nat) (p : Nat) (h : p + 3 ≤ t.size) : ∃ seen, Sre.forSearch reCode t 0 p t.size false = mAt t p true seen := by
  refine ⟨({} : Sre.Seen).add 14, ?_⟩
  unfold Sre.forSearch
  rw [if_neg (by
    have : (Sre.header reCode).1 = 3 := rfl
    simp only [this, Bool.or_eq_true, decide_eq_true_eq]
    omega)]
  rfl
theorem fs_short (t : Array Nat) (p : Nat) (h : ¬ (p + 3 ≤ t.size)) : (itM 1 (Sre.forSearch reCode t 0 p t.size false)).outcome = some .failed := by
  unfold Sre.forSearch
  rw [if_pos (by
    have : (Sre.header reCode).1 = 3 := rfl
    simp only [this, Bool.or_eq_true, decide_eq_true_eq]
    omega)]
  rfl
/-- no = here: on by one -/
theorem step_no (t : Array Nat) (p : Nat) (f : Bool) (seen : Sre.Seen) (h : p < t.size) (hc : t.getD p 0 ≠ 61) : ∃ seen', itM 2 (mAt t p f seen) = mAt t (p + 1) false seen' := by
  refine ⟨seen.add 16, ?_⟩
  have h1 : (mAt t p f seen).step = { mAt t p f seen with seen := seen.add 16, answer := some false } := by
    unfold M.step
    rw [if_neg (by simp [mAt])]
    show (if 9 < reCode.size then (mAt t p f seen).exec else _) = _
    rw [if_pos (by decide)]
    unfold M.exec
    show (if p ≥ t.size then _ else match Sre.accepts reCode 9 (t.getD p 0) (seen.add 16) with | .error why => _ | .ok (false, seen) => _ | .ok (true, seen) => _) = _
    rw [if_neg (by omega)]
    show (match (Except.ok (t.getD p 0 == 61, seen.add 16) : Except String (Bool × Sre.Seen)) with | .error why => _ | .ok (false, seen) => _ | .ok (true, seen) => _) = _
    rw [beq_false_of_ne hc]
    rfl
  show (mAt t p f seen).step.step = _
  rw [h1]
  unfold M.step
  rw [if_neg (by simp [mAt])]
  show M.resume { mAt t p f seen with seen := seen.add 16, answer := none, frames := [], weight := 0, pc := 9, pos := p, outermost := f } (frA p f) false = _
  unfold M.resume
  show (if false = true then _ else if p < t.size then _ else _) = _
  rw [if_neg (by simp), if_pos h]
  rfl
theorem step_end (t : Array Nat) (f : Bool) (seen : Sre.Seen) : (itM 3 (mAt t t.size f seen)).outcome = some .failed := by
  have h1 : (mAt t t.size f seen).step = { mAt t t.size f seen with seen := seen.add 16, answer := some false } := by
    unfold M.step
    rw [if_neg (by simp [mAt])]
    show (if 9 < reCode.size then (mAt t t.size f seen).exec else _) = _
    rw [if_pos (by decide)]
    unfold M.exec
    show (if t.size ≥ t.size then _ else _) = _
    rw [if_pos (Nat.le_refl _)]
    rfl
  have h2 : ({ mAt t t.size f seen with seen := seen.add 16, answer := some false } : M).step = { mAt t t.size f seen with seen := seen.add 16, answer := some false, frames := [], weight := 0, outermost := f } := by
    unfold M.step
    rw [if_neg (by simp [mAt])]
    show M.resume { mAt t t.size f seen with seen := seen.add 16, answer := none, frames := [], weight := 0, pc := 9, pos := t.size, outermost := f } (frA t.size f) false = _
    unfold M.resume
    show (if false = true then _ else if t.size < t.size then _ else _) = _
    rw [if_neg (by simp), if_neg (Nat.lt_irrefl _)]
    rfl
  show (mAt t t.size f seen).step.step.step.outcome = _
  rw [h1, h2]
  rfl
theorem acc_set (c : Nat) (seen : Sre.Seen) (h : c < 256 ∧ (reCode.getD (18 + c / 32) 0).testBit (c % 32) = true) : Sre.accepts reCode 15 c seen = .ok (true, seen.add 9) := by
  show Sre.inSet reCode c 29 17 true seen = _
  unfold Sre.inSet
  show (if (decide (c < 256) && (reCode.getD (17 + (1 + c / 32)) 0).testBit (c % 32)) = true then _ else _) = _
  rw [if_pos (by rw [Bool.and_eq_true, decide_eq_true_eq]; exact ⟨h.1, by rw [show 17 + (1 + c / 32) = 18 + c / 32 from by omega]; exact h.2⟩)]
  rfl
theorem hex_set (n : Nat) (h : n < 16) : hexD n < 256 ∧ (reCode.getD (18 + hexD n / 32) 0).testBit (hexD n % 32) = true := by
  have : ∀ n, n < 16 → (decide (hexD n < 256) && (reCode.getD (18 + hexD n / 32) 0).testBit (hexD n % 32)) = true := by decide
  have := this n h
  rwa [Bool.and_eq_true, decide_eq_true_eq] at this
/-- a quoted sign here: found -/
theorem step_yes (t : Array Nat) (p : Nat) (f : Bool) (seen : Sre.Seen) (a b : Nat) (ha : a < 16) (hb : b < 16) (h : p + 3 ≤ t.size) (hc : t.getD p 0 = 61) (h1 : t.getD (p + 1) 0 = hexD a) (h2 : t.getD (p + 2) 0 = hexD b) :
    (itM 6 (mAt t p f seen)).outcome = some .matched ∧ (itM 6 (mAt t p f seen)).start = p ∧ (itM 6 (mAt t p f seen)).handed = p + 3 ∧ (itM 6 (mAt t p f seen)).lastindex = -1 ∧ (itM 6 (mAt t p f seen)).marks = #[] := by
  let sA := seen.add 16
  have e1 : (mAt t p f seen).step = { mAt t p f seen with seen := sA, pc := 11, pos := p + 1 } := by
    unfold M.step
    rw [if_neg (by simp [mAt])]
    show (if 9 < reCode.size then (mAt t p f seen).exec else _) = _
    rw [if_pos (by decide)]
    unfold M.exec
    show (if p ≥ t.size then _ else match Sre.accepts reCode 9 (t.getD p 0) (seen.add 16) with | .error why => _ | .ok (false, seen) => _ | .ok (true, seen) => _) = _
    rw [if_neg (by omega)]
    show (match (Except.ok (t.getD p 0 == 61, seen.add 16) : Except String (Bool × Sre.Seen)) with | .error why => _ | .ok (false, seen) => _ | .ok (true, seen) => _) = _
    rw [hc]
    rfl
  obtain ⟨sB, e2⟩ : ∃ sB, ({ mAt t p f seen with seen := sA, pc := 11, pos := p + 1 } : M).step = { mAt t p f seen with seen := sB, pc := 28, pos := p + 3, handed := p + 3, frames := [{ wait := .giveBack, pc := 11, pos := p + 3, outermost := f, count := 2, kept := { lastmark := -1, lastindex := -1, whole := false, marks := #[] } }, frA p f], weight := 2 } := by
    refine ⟨((((sA.add 24).add 13).add 9).add 9), ?_⟩
    unfold M.step
    rw [if_neg (by simp [mAt])]
    show (if 11 < reCode.size then M.exec _ else _) = _
    rw [if_pos (by decide)]
    unfold M.exec
    show (if ((2 : Nat) : Int) > (t.size : Int) - ((p + 1 : Nat) : Int) then _ else match Sre.run reCode t 15 (min 2 ((t.size : Int) - ((p + 1 : Nat) : Int)).toNat) (p + 1) 0 ((sA.add 24).add 13) with | .error why => _ | .ok (n, seen) => _) = _
    rw [if_neg (by omega), show min 2 ((t.size : Int) - ((p + 1 : Nat) : Int)).toNat = 2 from by omega]
    have hr : Sre.run reCode t 15 2 (p + 1) 0 ((sA.add 24).add 13) = .ok (2, (((sA.add 24).add 13).add 9).add 9) := by
      unfold Sre.run
      rw [h1, acc_set _ _ (hex_set a ha)]
      show Sre.run reCode t 15 1 (p + 1 + 1) (0 + 1) ((((sA.add 24).add 13)).add 9) = _
      unfold Sre.run
      rw [show p + 1 + 1 = p + 2 from rfl, h2, acc_set _ _ (hex_set b hb)]
      rfl
    rw [hr]
    rfl
  have e3 : itM 6 (mAt t p f seen) = itM 4 ({ mAt t p f seen with seen := sB, pc := 28, pos := p + 3, handed := p + 3, frames := [{ wait := .giveBack, pc := 11, pos := p + 3, outermost := f, count := 2, kept := { lastmark := -1, lastindex := -1, whole := false, marks := #[] } }, frA p f], weight := 2 } : M) := by
    show itM 4 (mAt t p f seen).step.step = _
    rw [e1, e2]
  rw [e3]
  cases f <;> exact ⟨rfl, rfl, rfl, rfl, rfl⟩
/-- the search goes on to the next = -/
theorem search_on (t : Array Nat) : ∀ (d p : Nat) (f : Bool) (seen : Sre.Seen), p + d ≤ t.size → (∀ q, p ≤ q → q < p + d → t.getD q 0 ≠ 61) → ∃ f' seen', itM (2 * d) (mAt t p f seen) = mAt t (p + d) f' seen'
  | 0, p, f, seen, _, _ => ⟨f, seen, rfl⟩
  | d + 1, p, f, seen, h, hn => by
    obtain ⟨s1, e1⟩ := step_no t p f seen (by omega) (hn p (Nat.le_refl _) (by omega))
    obtain ⟨f2, s2, e2⟩ := search_on t d (p + 1) false s1 (by omega) (fun q h1 h2 => hn q (by omega) (by omega))
    refine ⟨f2, s2, ?_⟩
    rw [show 2 * (d + 1) = 2 + 2 * d from by omega, itM_add, e1, e2, show p + 1 + d = p + (d + 1) from by omega]
theorem search_found (t : Array Nat) (p d a b : Nat) (ha : a < 16) (hb : b < 16) (h : p + d + 3 ≤ t.size) (hn : ∀ q, p ≤ q → q < p + d → t.getD q 0 ≠ 61) (hc : t.getD (p + d) 0 = 61) (h1 : t.getD (p + d + 1) 0 = hexD a) (h2 : t.getD (p + d + 2) 0 = hexD b) :
    ∃ m, itM (2 * d + 6) (Sre.forSearch reCode t 0 p t.size false) = m ∧ m.outcome = some .matched ∧ m.start = p + d ∧ m.handed = p + d + 3 ∧ m.lastindex = -1 ∧ m.marks = #[] := by
  obtain ⟨seen, e⟩ := fs_at t p (by omega)
  obtain ⟨f', s', e'⟩ := search_on t d p true seen (by omega) hn
  refine ⟨_, rfl, ?_⟩
  rw [e, itM_add, e']
  exact step_yes t (p + d) f' s' a b ha hb h hc h1 h2
theorem search_none (t : Array Nat) (p : Nat) (hn : ∀ q, p ≤ q → q < t.size → t.getD q 0 ≠ 61) :
    ∃ k, k ≤ 2 * t.size + 3 ∧ (itM k (Sre.forSearch reCode t 0 p t.size false)).outcome = some .failed := by
  by_cases h : p + 3 ≤ t.size
  · obtain ⟨seen, e⟩ := fs_at t p h
    obtain ⟨f', s', e'⟩ := search_on t (t.size - p) p true seen (by omega) (fun q h1 h2 => hn q h1 (by omega))
    refine ⟨2 * (t.size - p) + 3, by omega, ?_⟩
    rw [e, itM_add, e', show p + (t.size - p) = t.size from by omega]
    exact step_end t f' s'
  · exact ⟨1, by omega, fs_short t p h⟩
end Mine
end
section
open PySem PySem.W PyProof.Rows
open PySem.Builtin
namespace Mine
open PySem.Sre (M)
/-! the methods' places -/
theorem pa_pattern : PlainAttrs "re.Pattern" :=
  ⟨⟨"object.__getattribute__", by rw [typeLookup_type, builtinLookup_eq_fast]; kernel_rfl, by decide +kernel⟩, by rw [typeLookup_type, builtinLookup_eq_fast]; kernel_rfl⟩
theorem pa_match : PlainAttrs "re.Match" :=
  ⟨⟨"object.__getattribute__", by rw [typeLookup_type, builtinLookup_eq_fast]; kernel_rfl, by decide +kernel⟩, by rw [typeLookup_type, builtinLookup_eq_fast]; kernel_rfl⟩
theorem slot_sub : Slot "re.Pattern" "sub" "re.Pattern.sub" :=
  .of (owner := "re.Pattern") (n := "sub") (by rw [typeLookup_type, builtinLookup_eq_fast]; kernel_rfl) (by decide +kernel) (by decide +kernel) (by decide +kernel)
    (by first | exact .inl (by decide +kernel) | exact .inr (by decide +kernel)) (by rw [isSubtype_type]; kernel_rfl)
theorem type_sub : typeOf (.builtin "re.Pattern.sub") = pure (.type "method_descriptor") := by show builtinType _ = _; rw [builtinType_eq_fast]; kernel_rfl
theorem entry_sub : entryFor table "re.Pattern.sub" = some Builtin.«re.Pattern.sub» := entryFor_of_tree (by kernel_rfl)
theorem entry_loop : entryFor table "re.Pattern.sub.loop" = some Builtin.«re.Pattern.sub.loop» := entryFor_of_tree (by kernel_rfl)
theorem plain_loop : plainId "re.Pattern.sub.loop" = true := by decide +kernel
theorem slot_group : Slot "re.Match" "group" "re.Match.group" :=
  .of (owner := "re.Match") (n := "group") (by rw [typeLookup_type, builtinLookup_eq_fast]; kernel_rfl) (by decide +kernel) (by decide +kernel) (by decide +kernel)
    (by first | exact .inl (by decide +kernel) | exact .inr (by decide +kernel)) (by rw [isSubtype_type]; kernel_rfl)
theorem type_group : typeOf (.builtin "re.Match.group") = pure (.type "method_descriptor") := by show builtinType _ = _; rw [builtinType_eq_fast]; kernel_rfl
theorem entry_group : entryFor table "re.Match.group" = some Builtin.«re.Match.group» := entryFor_of_tree (by kernel_rfl)
theorem args_group (a b : Value) : argsOk "re.Match.group" ⟨[a, b], []⟩ := by unfold argsOk; kernel_rfl
theorem args_sub (a b c : Value) : argsOk "re.Pattern.sub" ⟨[a, b, c], []⟩ := by unfold argsOk; kernel_rfl
/-! the run to its end -/
section
variable {Md : Model} {A : Around} {E : Value → Shared → Prop} {s : Shared}
theorem wp_rules {Q : PUnit → Shared → Prop} (c : Nat → Bool) (nm : Nat → String) (h : Q ⟨⟩ s) : ∀ l : List Nat, wpAny Md A (forIn l PUnit.unit fun i (_ : PUnit) => if c i = true then (do rule (nm i); pure (ForInStep.yield PUnit.unit)) else pure (ForInStep.yield PUnit.unit)) Q E s
  | [] => wpAny_pure h
  | i :: l => by
    rw [List.forIn_cons]
    by_cases hc : c i = true
    · rw [if_pos hc]
      exact wpAny_bind (wpAny_bind (wpAny_rule (wpAny_pure (wp_rules c nm h l))))
    · rw [if_neg hc]
      exact wpAny_bind (wpAny_pure (wp_rules c nm h l))
theorem wp_toEnd {Q : Option M → Shared → Prop} (k : Nat) (m : M) (hk : k ≤ 2 ^ 40) (ho : (itM k m).outcome.isSome = true)
    (h : ∀ m', itM k m = m' → wpAny Md A (match m'.outcome with | some .matched => pure (some m') | some .failed => pure none | some (.stuck why) => unsupported s!"_sre:{why}" | none => unsupported "internal:sre:no-outcome") Q E s) : wpAny Md A (Re.reRunToEnd m) Q E s := by
  unfold Re.reRunToEnd
  refine wpAny_bind (wp_drive (2 ^ 64) k m ho (by omega) (by decide) ?_)
  refine wpAny_bind (wp_rules _ _ ?_ _)
  exact h _ rfl
theorem wp_found {Q : Option M → Shared → Prop} (k : Nat) (m m' : M) (hk : k ≤ 2 ^ 40) (e : itM k m = m') (ho : m'.outcome = some .matched) (h : Q (some m') s) : wpAny Md A (Re.reRunToEnd m) Q E s := by
  refine wp_toEnd k m hk (by rw [e, ho]; rfl) fun m1 e1 => ?_
  rw [e] at e1
  subst e1
  rw [ho]
  exact wpAny_pure h
theorem wp_failed {Q : Option M → Shared → Prop} (k : Nat) (m : M) (hk : k ≤ 2 ^ 40) (ho : (itM k m).outcome = some .failed) (h : Q none s) : wpAny Md A (Re.reRunToEnd m) Q E s := by
  refine wp_toEnd k m hk (by rw [ho]; rfl) fun m1 e1 => ?_
  subst e1
  rw [ho]
  exact wpAny_pure h
/-- the pattern stands as the top left it -/
structure PatAt (h : Heap) : Prop where
  p : h.get? 66 = some o66
  c : h.get? 65 = some o65
theorem PatAt.stay {h h' : Heap} (x : PatAt h) (st : h.StaysIn h') : PatAt h' := ⟨st _ _ x.p, st _ _ x.c⟩
theorem patOf {w : World} {h : Heap} (X : (KK w.params).In h) : PatAt h := ⟨X _ _ rfl, X _ _ rfl⟩
noncomputable def tgt (l : List Nat) (t : Tok) : Re.ReTarget := { pattern := .ref 66, string := .str (tx l) t, code := reCode, text := l.toArray, kind := 0, groups := 0, pos := 0, lim := l.toArray.size }
theorem wp_target {l : List Nat} {t : Tok} {Q : Re.ReTarget → Shared → Prop} (P : PatAt s.heap) (h : Q (tgt l t) s) : wpAny Md A (Re.reWholeTarget (.ref 66) (.str (tx l) t)) Q E s := by
  unfold Re.reWholeTarget
  refine wpAny_bind (wpAny_fieldsOf P.p rfl ?_)
  unfold Re.reTextOf
  refine wpAny_bind (wpAny_bind (wpAny_pure (wpAny_pure ?_)))
  show wpAny Md A (do Re.reNoCollectionInside (.str (tx l) t) 0; let c ← Re.reRawItems (.ref 65); pure _) Q E s
  unfold Re.reNoCollectionInside
  refine wpAny_bind (wpAny_pure ?_)
  unfold Re.reRawItems
  refine wpAny_bind (wpAny_bind (wpAny_seqItems P.c rfl (wpAny_pure ?_)))
  refine wpAny_pure ?_
  have e : ∀ a : Array Nat, a = reCode → Q { tgt l t with code := a } s := fun a ha => by subst ha; exact h
  exact e _ (by decide +kernel)
end
/-! what is found -/
noncomputable def mFields (l : List Nat) (t : Tok) (sp : Addr) : Array Value := #[.str (tx l) t, .ref 66, rawInt 0, rawInt l.toArray.size, rawInt (-1), .ref sp]
noncomputable def matchO (l : List Nat) (t : Tok) (sp : Addr) : Obj := { cls := .type "re.Match", data := .fields (mFields l t sp) }
noncomputable def spanO (b e : Nat) : Obj := { cls := .type "tuple", data := .seq #[rawInt b, rawInt e] }
section
variable {prog : Program} {w : World} {A : Around} {E : Value → Shared → Prop} {s : Shared}
theorem m_group {m : Addr} {o : Obj} {pl : Sem Bool} {Q : Value × List Value → Shared → Prop} {Md : Model} (ho : s.heap.get? m = some o) (hc : o.cls = .type "re.Match") (hd : o.dict = none) (h : Q (.builtin "re.Match.group", [.ref m]) s) : wpAny Md A (getMethod (.ref m) "group" pl) Q E s :=
  getMethod_builtin (T := "re.Match") ⟨_, ho, hc⟩ pa_match slot_group type_group (fun a e => by cases e; exact ⟨o, ho, hd⟩) h
theorem m_sub {pl : Sem Bool} {Q : Value × List Value → Shared → Prop} {Md : Model} (P : PatAt s.heap) (h : Q (.builtin "re.Pattern.sub", [.ref 66]) s) : wpAny Md A (getMethod (.ref 66) "sub" pl) Q E s :=
  getMethod_builtin (T := "re.Pattern") ⟨_, P.p, rfl⟩ pa_pattern slot_sub type_sub (fun a e => by cases e; exact ⟨o66, P.p, rfl⟩) h
theorem group_no {x : Re.ReFound} {u : Tok} (h : x.spans.size = 2) : Re.reGroupNumber x (.int 0 u) = pure 0 := by
  unfold Re.reGroupNumber
  show (if (decide ((0 : Int) < 0) || decide (2 * (0 : Int) ≥ (x.spans.size : Int))) = true then _ else _) = _
  rw [h]
  rfl
theorem group_text {Md : Model} {l : List Nat} {t : Tok} {b e : Nat} {fs : Array Value} {Q : Value → Shared → Prop} (hf : fs.getD 0 .none = .str (tx l) t) (hz : e ≤ l.length) (hl : l.length ≤ sizeLine)
    (h : ∀ t' k, Q (.str ⟨l.toArray.extract b e⟩ t') { s with toks := k }) : wpAny Md A (Re.reGroupText ⟨fs, #[(b : Int), (e : Int)]⟩ 0 .none) Q E s := by
  unfold Re.reGroupText
  show wpAny Md A (if (decide ((b : Int) < 0) || decide ((e : Int) < 0)) = true then _ else _) Q E s
  rw [if_neg (by simp only [Bool.or_eq_true, decide_eq_true_eq]; omega)]
  show wpAny Md A (Re.reTextOf (fs.getD 0 .none) >>= fun x => _) Q E s
  rw [hf]
  unfold Re.reTextOf
  refine wpAny_bind (wpAny_bind (wpAny_pure (wpAny_pure ?_)))
  show wpAny Md A (mkStr ⟨l.toArray.extract b e⟩) Q E s
  refine wpAny_mkStr (h _ _) ?_
  show (l.toArray.extract b e).size ≤ sizeLine
  rw [Array.size_extract]
  simp only [List.size_toArray]
  omega
theorem group0 {m sp : Addr} {l : List Nat} {t u : Tok} {b e : Nat} {Q : Value → Shared → Prop} (ho : s.heap.get? m = some (matchO l t sp)) (hs : s.heap.get? sp = some (spanO b e)) (hz : e ≤ l.length) (hl : l.length ≤ sizeLine)
    (h : ∀ t' k, Q (.str ⟨l.toArray.extract b e⟩ t') { s with toks := k }) : wpAny (model prog w) A (call (.builtin "re.Match.group") [.ref m, .int 0 u]) Q E s := by
  refine call_meets (T := "re.Match") (S := fun _ R s => s.heap.get? m = some (matchO l t sp) ∧ s.heap.get? sp = some (spanO b e) ∧ ∀ t' k, R (.ok (.ret (.str ⟨l.toArray.extract b e⟩ t'))) { s with toks := k }) slot_group ⟨_, ho, rfl⟩ entry_group (args_group _ _) ?_ ⟨ho, hs, h⟩
  refine .of_wp fun prog w A R s hS => ?_
  obtain ⟨ho, hs, h⟩ := hS
  unfold «re.Match.group»
  refine wpAny_bind (wpAny_pure ?_)
  show wpAny _ _ (Re.reFound (.ref m) >>= fun x => _) _ _ s
  unfold Re.reFound
  refine wpAny_bind (wpAny_bind (wpAny_fieldsOf ho rfl ?_))
  unfold Re.reRawItems
  refine wpAny_bind (wpAny_bind (wpAny_seqItems (a := sp) hs rfl (wpAny_pure (wpAny_pure ?_))))
  rw [show Array.map Re.reRawOf ((some #[rawInt (b : Int), rawInt (e : Int)]).getD #[]) = #[(b : Int), (e : Int)] from by simp [Re.reRawOf, rawInt]]
  show wpAny _ _ (Re.reGroupNumber ⟨mFields l t sp, #[(b : Int), (e : Int)]⟩ (.int 0 u) >>= fun n => _) _ _ s
  rw [group_no rfl]
  refine wpAny_bind (wpAny_pure ?_)
  refine wpAny_bind (group_text rfl hz hl fun t' k => wpAny_pure ⟨_, rfl, h t' k⟩)
end
end Mine
end
section
open PySem PySem.W PyProof.Rows
open PySem.Builtin
namespace Mine
open PySem.Sre (M)
section
variable {prog : Program} {w : World} {A : Around} {s : Shared} {mg mb : Str → Option Value}
theorem c_unquoteP (X : (KK w.params).In s.heap) (T : TopRead qP looseQ mg mb s.heap) {x y : Nat} {t : Tok} (hx : x < 16) (hy : y < 16) (hd : A.depth < recursionLimit) :
    PureC prog w A s (.ref 89) [.str (tx [61, hexD x, hexD y]) t] (fun t => .str (tx [16 * x + y]) t) := fun _ _ hq => c_unquote X T hx hy hd hq
local macro_rules | `(tactic| walk_at "getMethod ref") => `(tactic| ((with_reducible show wpAny _ _ (getMethod (Value.ref _) (Str.ofString "group") _) _ _ _); refine m_group (Fr.keep (by assumption) _ _ (by assumption)) rfl rfl ?_))
local macro_rules | `(tactic| walk_at "call ref") => `(tactic| ((with_reducible show wpAny _ _ (call (Value.ref 89) _) _ _ _); refine pure_use (c_unquoteP (kk_at (by assumption) (by assumption)) (tt_at (by assumption) (by assumption)) (by assumption) (by assumption) (by assumption)) (by assumption) (by assumption) ?_; intro t8 h8 tk8 F8 N8 st8; (try dsimp only)))
set_option maxHeartbeats 4000000 in
/-- _unquote_match -/
theorem c_unm {m sp : Addr} {l : List Nat} {t : Tok} {p a b : Nat} (X : (KK w.params).In s.heap) (T : TopRead qP looseQ mg mb s.heap) (ho : s.heap.get? m = some (matchO l t sp)) (hs : s.heap.get? sp = some (spanO p (p + 3))) (hz : p + 3 ≤ l.length) (hl : l.length ≤ sizeLine)
    (he : l.toArray.extract p (p + 3) = #[61, hexD a, hexD b]) (ha : a < 16) (hb : b < 16) (hd : A.depth + 1 < recursionLimit) : PureC prog w A s (.ref 116) [.ref m] (fun t => .str (tx [16 * a + b]) t) := by
  intro Q E hq
  refine enter_fn 29 116 .none (.str (Str.ofString "cpy313.email.quoprimime") 1401) 115 (binds := [(Str.ofString "match", .ref m)]) X T rfl rfl rfl (by omega) (.of_eq rfl) (by decide) (locs rfl) rfl rfl rfl ?_
  intro h₁ F
  have N := news_nil (h₀ := s.heap) (h := h₁) (L := s.heap.objs.size)
  have hd' : (A.deeper (fEnv 29 s.heap.objs.size 116 (.ref 115))).depth < recursionLimit := hd
  k_steps
  refine group0 (F.keep _ _ ho) (F.keep _ _ hs) hz hl ?_
  intro t9 k9
  rw [he]
  k_steps
  rename Fr _ _ _ _ => FF
  exact hq _ _ _ FF.keep
end
end Mine
end
theorem Mine.anewR3 : True := by first | walk1 | trivial
section
open PySem PySem.W PyProof.Rows
open PySem.Builtin
namespace Mine
open PySem.Sre (M)
/-! a text sign by sign: quoted, or by its two figures -/
noncomputable def sp1 (i : Bool × Nat) : List Nat := if i.1 then [61, hexD (i.2 / 16), hexD (i.2 % 16)] else [hexD (i.2 / 16), hexD (i.2 % 16)]
noncomputable def de1 (i : Bool × Nat) : List Nat := if i.1 then [i.2] else [hexD (i.2 / 16), hexD (i.2 % 16)]
noncomputable def spell (l : List (Bool × Nat)) : List Nat := l.flatMap sp1
noncomputable def decT (l : List (Bool × Nat)) : List Nat := l.flatMap de1
theorem spell_append (a b : List (Bool × Nat)) : spell (a ++ b) = spell a ++ spell b := by simp [spell]
theorem decT_append (a b : List (Bool × Nat)) : decT (a ++ b) = decT a ++ decT b := by simp [decT]
theorem hexD_ne61 (n : Nat) (h : n < 16) : hexD n ≠ 61 := by unfold hexD; split <;> omega
theorem spell_plain (u : List (Bool × Nat)) (hu : ∀ i ∈ u, i.1 = false) : spell u = decT u := by
  induction u with
  | nil => rfl
  | cons i u ih =>
    have h1 := hu i (.head _)
    show sp1 i ++ spell u = de1 i ++ decT u
    rw [ih fun j hj => hu j (.tail _ hj)]
    unfold sp1 de1
    rw [h1]
    rfl
theorem plain_ne61 (u : List (Bool × Nat)) (hu : ∀ i ∈ u, i.1 = false) (hc : ∀ i ∈ u, i.2 < 256) : ∀ c ∈ spell u, c ≠ 61 := by
  intro c hcm
  simp only [spell, List.mem_flatMap] at hcm
  obtain ⟨i, hi, hm⟩ := hcm
  have h1 := hu i hi
  have h2 := hc i hi
  unfold sp1 at hm
  rw [h1] at hm
  simp only [Bool.false_eq_true, if_false, List.mem_cons, List.not_mem_nil, or_false] at hm
  rcases hm with rfl | rfl
  · exact hexD_ne61 _ (by omega)
  · exact hexD_ne61 _ (by omega)
theorem split_quoted : ∀ r : List (Bool × Nat), (∀ i ∈ r, i.1 = false) ∨ ∃ u c t, r = u ++ (true, c) :: t ∧ ∀ i ∈ u, i.1 = false
  | [] => .inl fun _ h => nomatch h
  | (true, c) :: t => .inr ⟨[], c, t, rfl, fun _ h => nomatch h⟩
  | (false, c) :: t => by
    rcases split_quoted t with h | ⟨u, d, t', e, hu⟩
    · exact .inl fun i hi => by rcases List.mem_cons.mp hi with rfl | hi; rfl; exact h i hi
    · exact .inr ⟨(false, c) :: u, d, t', by rw [e]; rfl, fun i hi => by rcases List.mem_cons.mp hi with rfl | hi; rfl; exact hu i hi⟩
/-- the list of pieces over the heap that was -/
structure LI (h₀ h : Heap) (D : Addr) (vs : List Value) : Prop where
  keep : h₀.StaysIn h
  at_ : ∃ n, h.get? D = some ⟨.type "list", none, .seq vs.toArray n, #[]⟩
  new : h₀.get? D = none
theorem LI.stay {h₀ h h' : Heap} {D : Addr} {vs : List Value} (x : LI h₀ h D vs) (st : h.StaysIn h') : LI h₀ h' D vs :=
  ⟨fun b o e => st _ _ (x.keep b o e), let ⟨n, e⟩ := x.at_; ⟨n, st _ _ e⟩, x.new⟩
theorem LI.push {h₀ h : Heap} {D : Addr} {vs : List Value} {v : Value} (x : LI h₀ h D vs) : LI h₀ (h.update D (Obj.mapSeq (·.push v))) D (vs ++ [v]) := by
  obtain ⟨n, e⟩ := x.at_
  refine ⟨fun b o eb => (Heap.get?_update_ne _ _ _ _ fun q => ?_).trans (x.keep b o eb), ⟨n + 1, ?_⟩, x.new⟩
  · rw [q, x.new] at eb; cases eb
  · rw [Heap.get?_update_self _ e rfl]
    show some (Obj.mapSeq _ _) = _
    simp [Obj.mapSeq]
section
variable {prog : Program} {w : World} {A : Around} {E : Value → Shared → Prop} {s : Shared} {mg mb : Str → Option Value}
theorem wp_push {h₀ : Heap} {D : Addr} {vs : List Value} {v : Value} {Md : Model} {Q : Unit → Shared → Prop} (x : LI h₀ s.heap D vs) (hz : vs.length ≤ sizeLine) (h : ∀ h', LI h₀ h' D (vs ++ [v]) → Q () { s with heap := h' }) : wpAny Md A (updateSeq D (·.push v)) Q E s := by
  obtain ⟨n, e⟩ := x.at_
  exact wpAny_updateSeq e rfl (h _ x.push) (by simpa using hz) (by simp; omega)
theorem wp_slice {Md : Model} {Q : Value → Shared → Prop} {l : List Nat} {b e : Nat} (hl : l.length ≤ sizeLine) (h : ∀ t k, Q (.str ⟨l.toArray.extract b e⟩ t) { s with toks := k }) : wpAny Md A (Re.reSlice l.toArray 0 b e) Q E s := by
  show wpAny Md A (mkStr ⟨l.toArray.extract b e⟩) Q E s
  refine wpAny_mkStr (h _ _) ?_
  show (l.toArray.extract b e).size ≤ sizeLine
  rw [Array.size_extract]
  simp only [List.size_toArray]
  omega
theorem wp_newMatch {h₀ : Heap} {D : Addr} {vs : List Value} {Md : Model} {Q : Value → Shared → Prop} {l : List Nat} {t : Tok} {m : M} {p : Nat} (x : LI h₀ s.heap D vs) (h1 : m.start = p) (h2 : m.handed = p + 3) (h3 : m.lastindex = -1) 
    (h : ∀ a sp h', LI h₀ h' D vs → s.heap.StaysIn h' → h'.get? a = some (matchO l t sp) → h'.get? sp = some (spanO p (p + 3)) → Q (.ref a) { s with heap := h' }) : wpAny Md A (Re.reNewMatch (.ref 66) (.str (tx l) t) 0 0 l.toArray.size m) Q E s := by
  unfold Re.reNewMatch
  show wpAny Md A (newTuple (rawInt m.start :: rawInt m.handed :: []) >>= fun tp => newFields "re.Match" [.str (tx l) t, .ref 66, rawInt 0, rawInt l.toArray.size, rawInt m.lastindex, tp]) Q E s
  rw [h1, h2, h3]
  refine wpAny_bind (wpAny_newObj_type ?_ (by show (2 : Nat) ≤ sizeLine; decide))
  refine wpAny_newObj_type ?_ (by show (6 : Nat) ≤ sizeLine + 2; decide)
  have st : s.heap.StaysIn ((s.heap.push { cls := .type "tuple", data := .seq #[rawInt p, rawInt ((p + 3 : Nat) : Int)] }).push { cls := .type "re.Match", data := .fields (mFields l t s.heap.objs.size) }) := fun b o e => Heap.get?_push_of_some _ (Heap.get?_push_of_some _ e)
  exact h _ s.heap.objs.size _ (x.stay st) st (Heap.get?_push_size _ rfl) (Heap.get?_push_of_some _ (Heap.get?_push_size _ rfl))
end
end Mine
end
section
open PySem PySem.W PyProof.Rows
open PySem.Builtin
namespace Mine
open PySem.Sre (M)
theorem ext_mid (a b c : List Nat) : (a ++ b ++ c).toArray.extract a.length (a.length + b.length) = b.toArray := by
  rw [List.extract_toArray, List.extract_eq_take_drop]
  congr 1
  simp
theorem getD_mid (a b c : List Nat) (j : Nat) (h : j < b.length) : (a ++ b ++ c).toArray.getD (a.length + j) 0 = b[j] := by
  rw [Array.getD_eq_getD_getElem?]
  have : ¬ (a.length + j < a.length) := by omega
  simp [List.getElem?_append, h, this]
theorem glued_go (ys : List Str) : ∀ acc : Array Nat, ys.foldl (fun acc p => acc ++ (tx []).cps ++ p.cps) acc = acc ++ ((ys.map (·.cps.toList)).flatten).toArray := by
  induction ys with
  | nil => intro acc; simp
  | cons y ys ih =>
    intro acc
    rw [List.foldl_cons, ih]
    apply Array.ext'
    simp [tx]
theorem join_flat (ys : List Str) : Txt.join (tx []) ys = tx ((ys.map (·.cps.toList)).flatten) := by
  show Str.mk _ = Str.mk _
  congr 1
  cases ys with
  | nil => rfl
  | cons y ys =>
    show (ys.foldl (fun acc p => acc ++ (tx []).cps ++ p.cps) y.cps) = _
    rw [glued_go]
    apply Array.ext'
    simp
theorem strs_snoc {y : Str} {t : Tok} : ∀ {vs : List Value} {ys : List Str}, StrsAre vs ys → StrsAre (vs ++ [.str y t]) (ys ++ [y])
  | _, _, .nil => .cons y t .nil
  | _, _, .cons z u r => .cons z u (strs_snoc r)
theorem strs_len : ∀ {vs : List Value} {ys : List Str}, StrsAre vs ys → vs.length = ys.length
  | _, _, .nil => rfl
  | _, _, .cons z u r => by simp [strs_len r]
theorem flat_len (ys : List Str) : ((ys.map (·.cps.toList)).flatten).length = (ys.map (·.length)).sum := by
  induction ys with
  | nil => rfl
  | cons y ys ih => rw [List.map_cons, List.flatten_cons, List.length_append, ih, List.map_cons, List.sum_cons]; rfl
theorem decT_le (l : List (Bool × Nat)) : (decT l).length ≤ (spell l).length := by
  induction l with
  | nil => exact Nat.le_refl _
  | cons i l ih =>
    show (de1 i ++ decT l).length ≤ (sp1 i ++ spell l).length
    rw [List.length_append, List.length_append]
    have : (de1 i).length ≤ (sp1 i).length := by unfold de1 sp1; split <;> simp
    omega
noncomputable def loopArgs (l : List Nat) (t : Tok) (n : Int) (done : Nat) (D : Addr) : Args := ⟨[.ref 66, .str (tx l) t, .ref 116, rawInt 1, rawInt 0, rawInt n, rawInt done, rawInt done, .bool false, .ref D, .bool false], []⟩
section
variable {prog : Program} {w : World} {A : Around} {mg mb : Str → Option Value}
theorem sub_loop {its : List (Bool × Nat)} {t : Tok} {D : Addr} {h₀ : Heap} (X : (KK w.params).In h₀) (T : TopRead qP looseQ mg mb h₀) (hc : ∀ i ∈ its, i.2 < 256) (hl : (spell its).length ≤ 1000000) (hn : its.length ≤ 1000000) (hd : A.depth + 1 < recursionLimit) :
    ∀ (k : Nat) (rest pre : List (Bool × Nat)) (vs : List Value) (ys : List Str) (n : Int) (s : Shared) (R : Result → Shared → Prop), rest.length < k → its = pre ++ rest → LI h₀ s.heap D vs → StrsAre vs ys → (ys.map (·.cps.toList)).flatten = decT pre → ys.length ≤ 2 * pre.length →
      (∀ t' h' tk, h₀.StaysIn h' → R (.ok (.ret (.str (tx (decT its)) t'))) { s with heap := h', toks := tk }) →
      codeAny (model prog w) A (.builtin "re.Pattern.sub.loop" (loopArgs (spell its) t n (spell pre).length D)) R s := by
  intro k
  induction k with
  | zero => intro rest pre vs ys n s R hk; exact absurd hk (Nat.not_lt_zero _)
  | succ k ih =>
    intro rest pre vs ys n s R hk he hL hS hF hy hR
    have hpl : pre.length + rest.length = its.length := by rw [he, List.length_append]
    refine codeAny_builtin entry_loop ?_
    rw [Around.under_plainId plain_loop]
    have P := (patOf X).stay hL.keep
    show wpAny _ _ (Re.reWholeTarget (.ref 66) (.str (tx (spell its)) t) >>= fun tg => _) _ _ s
    refine wpAny_bind (wp_target P ?_)
    show wpAny _ _ (Re.reNextFound (tgt (spell its) t) (spell pre).length false >>= fun m => _) _ _ s
    have hle : (spell its).length ≤ sizeLine := Nat.le_trans hl (by decide)
    rcases split_quoted rest with hu | ⟨u, c, r, er, hu⟩
    · -- nothing more is quoted
      have esp : spell its = spell pre ++ spell rest := by rw [he, spell_append]
      obtain ⟨j, hj, ho⟩ := search_none (spell its).toArray (spell pre).length (by
        intro q h1 h2
        rw [List.size_toArray, esp, List.length_append] at h2
        have e := getD_mid (spell pre) (spell rest) [] (q - (spell pre).length) (by omega)
        rw [List.append_nil, ← esp, show (spell pre).length + (q - (spell pre).length) = q from by omega] at e
        rw [e]
        exact plain_ne61 rest hu (fun i hi => hc i (by rw [he]; exact List.mem_append_right _ hi)) _ (List.getElem_mem _))
      refine wpAny_bind (wp_failed j _ (by rw [List.size_toArray] at hj; omega) ho ?_)
      have last : ∀ (s1 : Shared) (vs1 : List Value) (ys1 : List Str), LI h₀ s1.heap D vs1 → StrsAre vs1 ys1 → (ys1.map (·.cps.toList)).flatten = decT its → ys1.length ≤ 2000001 → (∀ t' h' tk, h₀.StaysIn h' → R (.ok (.ret (.str (tx (decT its)) t'))) { s1 with heap := h', toks := tk }) → (decT its).length ≤ 1000000 →
          wpAny (model prog w) A.in1 (do
            let joiner ← Re.reSlice (spell its).toArray 0 0 0
            let its' ← seqItems? (.ref D)
            if (its'.getD #[]).isEmpty = true then (do let text ← pure joiner; ret text) else (do let text ← call (.builtin "str.join") [joiner, .ref D]; ret text))
            (fun fin s' => match fin with | .done f => R (.ok f) s' | .again c' => c'.quiet = true ∧ codeAny (model prog w) A c' R s') (fun e s' => R (.error e) s') s1 := by
        intro s1 vs1 ys1 hL1 hS1 hF1 hy1 hR1 hdl
        refine wpAny_bind (wp_slice hle ?_)
        intro tj kj
        obtain ⟨nn, eD⟩ := hL1.at_
        refine wpAny_bind (wpAny_seqItems eD rfl ?_)
        have ej : (⟨(spell its).toArray.extract 0 0⟩ : Str) = tx [] := by simp [tx]
        rw [ej]
        by_cases hv : vs1 = []
        · subst hv
          cases hS1
          have e0 : decT its = [] := hF1.symm
          rw [if_pos (by rfl)]
          refine wpAny_bind (wpAny_pure (wpAny_pure ?_))
          have := hR1 tj s1.heap kj hL1.keep
          rw [e0] at this
          exact this
        · rw [if_neg (by simpa using hv)]
          refine wpAny_bind (join_list (ys := ys1) ⟨_, eD, rfl, _, rfl⟩ hS1 ?_ ?_)
          · have := flat_len ys1
            rw [hF1] at this
            have e0 : (tx []).length = 0 := rfl
            rw [e0, Nat.mul_zero]
            omega
          · intro t' k'
            rw [join_flat, hF1]
            exact wpAny_pure (hR1 _ _ _ hL1.keep)
      have edec : decT its = decT pre ++ decT rest := by rw [he, decT_append]
      have hdl : (decT its).length ≤ 1000000 := Nat.le_trans (decT_le its) hl
      show wpAny _ _ (if (((spell pre).length : Nat) : Int).toNat < (spell its).toArray.size then _ else _) _ _ s
      rw [Int.toNat_natCast, List.size_toArray]
      by_cases hlt : (spell pre).length < (spell its).length
      · rw [if_pos hlt]
        refine wpAny_bind (wp_slice hle ?_)
        intro ts ks
        refine wpAny_bind (wp_push (x := by exact hL) (by have := strs_len hS; have : (1000000 : Nat) * 2 ≤ sizeLine := by decide
                                                          omega) ?_)
        intro h1 hL1
        have ee : (⟨(spell its).toArray.extract (spell pre).length (spell its).toArray.size⟩ : Str) = tx (decT rest) := by
          have := ext_mid (spell pre) (spell rest) []
          rw [List.append_nil, ← esp, ← List.length_append, ← esp] at this
          rw [List.size_toArray, this, spell_plain rest hu]
          rfl
        refine last _ _ _ hL1 (strs_snoc hS) ?_ (by rw [List.length_append, List.length_singleton]; omega) (fun t' h' tk st => hR t' h' tk st) hdl
        rw [List.map_append, List.flatten_append, hF, edec]
        show _ ++ (List.map (fun x : Str => x.cps.toList) [(⟨(spell its).toArray.extract (spell pre).length (spell its).toArray.size⟩ : Str)]).flatten = _
        rw [ee]
        simp [tx]
      · rw [if_neg hlt]
        have e0 : spell rest = [] := by
          have : (spell its).length = (spell pre).length + (spell rest).length := by rw [esp, List.length_append]
          exact List.length_eq_zero_iff.mp (by omega)
        refine last s vs ys hL hS ?_ (by omega) hR hdl
        rw [hF, edec, ← spell_plain rest hu, e0, List.append_nil]
    · have esp : spell its = spell pre ++ spell u ++ ([61, hexD (c / 16), hexD (c % 16)] ++ spell r) := by
        rw [he, er, spell_append, spell_append, List.append_assoc]; rfl
      have hcc : c < 256 := hc (true, c) (by rw [he, er]; simp)
      have hlen : (spell its).length = (spell pre).length + (spell u).length + 3 + (spell r).length := by rw [esp]; simp only [List.length_append, List.length_cons, List.length_nil]; omega
      have h3 : ∀ j, (hj : j < 3) → (spell its).toArray.getD ((spell pre).length + (spell u).length + j) 0 = [61, hexD (c / 16), hexD (c % 16)][j] := by
        intro j hj
        have := getD_mid (spell pre ++ spell u) [61, hexD (c / 16), hexD (c % 16)] (spell r) j hj
        rw [List.append_assoc (spell pre ++ spell u), ← esp, List.length_append] at this
        exact this
      obtain ⟨m, em, hm, hms, hmh, hmi, hmm⟩ := search_found (spell its).toArray (spell pre).length (spell u).length (c / 16) (c % 16) (by omega) (by omega) (by rw [List.size_toArray]; omega) (by
        intro q h1 h2
        have e := getD_mid (spell pre) (spell u) ([61, hexD (c / 16), hexD (c % 16)] ++ spell r) (q - (spell pre).length) (by omega)
        rw [← esp, show (spell pre).length + (q - (spell pre).length) = q from by omega] at e
        rw [e]
        exact plain_ne61 u hu (fun i hi => hc i (by rw [he, er]; simp [hi])) _ (List.getElem_mem _)) (h3 0 (by decide)) (h3 1 (by decide)) (h3 2 (by decide))
      refine wpAny_bind (wp_found _ _ m (by have : (1000000 : Nat) * 2 + 6 ≤ 2 ^ 40 := by decide
                                            omega) em hm ?_)
      have hvl := strs_len hS
      have hpu : pre.length + u.length + 1 ≤ its.length := by rw [he, er]; simp only [List.length_append, List.length_cons]; omega
      have hsz : (1000000 : Nat) * 4 ≤ sizeLine := by decide
      have tail : ∀ (s1 : Shared) (vs1 : List Value) (ys1 : List Str), LI h₀ s1.heap D vs1 → StrsAre vs1 ys1 → (ys1.map (·.cps.toList)).flatten = decT (pre ++ u) → ys1.length ≤ 2 * (pre ++ u).length + 1 → (∀ t' h' tk, h₀.StaysIn h' → R (.ok (.ret (.str (tx (decT its)) t'))) { s1 with heap := h', toks := tk }) →
          wpAny (model prog w) A.in1 (do
            let found ← Re.reNewMatch (.ref 66) (.str (tx (spell its)) t) 0 0 (spell its).toArray.size m
            let item ← holding [found] (call (.ref 116) [found])
            if item != .none then (do updateSeq D (·.push item); again (.builtin "re.Pattern.sub.loop" ⟨[.ref 66, .str (tx (spell its)) t, .ref 116, rawInt 1, rawInt 0, rawInt (n + 1), rawInt m.handed, rawInt m.handed, .bool (m.handed == m.start), .ref D, .bool false], []⟩)) else again (.builtin "re.Pattern.sub.loop" ⟨[.ref 66, .str (tx (spell its)) t, .ref 116, rawInt 1, rawInt 0, rawInt (n + 1), rawInt m.handed, rawInt m.handed, .bool (m.handed == m.start), .ref D, .bool false], []⟩))
            (fun fin s' => match fin with | .done f => R (.ok f) s' | .again c' => c'.quiet = true ∧ codeAny (model prog w) A c' R s') (fun e s' => R (.error e) s') s1 := by
        intro s1 vs1 ys1 hL1 hS1 hF1 hy1 hR1
        refine wpAny_bind (wp_newMatch hL1 hms hmh hmi ?_)
        intro a sp h2 hL2 st2 ea esp2
        refine wpAny_bind (wpAny_holding ?_)
        have hex : (spell its).toArray.extract ((spell pre).length + (spell u).length) ((spell pre).length + (spell u).length + 3) = #[61, hexD (c / 16), hexD (c % 16)] := by
          have := ext_mid (spell pre ++ spell u) [61, hexD (c / 16), hexD (c % 16)] (spell r)
          rw [List.append_assoc (spell pre ++ spell u), ← esp, List.length_append] at this
          exact this
        refine c_unm (A := A.in1) (s := { s1 with heap := h2 }) (fun b o e => hL2.keep _ _ (X b o e)) (T.keeps hL2.keep) ea esp2 (by omega) hle hex (by omega) (by omega) hd _ _ ?_
        intro t3 h3' k3 st3
        have hL3 := hL2.stay st3
        rw [if_pos (by rfl)]
        have hvl1 := strs_len hS1
        rw [List.length_append] at hy1
        refine wpAny_bind (wp_push (s := { s1 with heap := h3', toks := k3 }) hL3 (by omega) ?_)
        intro h4 hL4
        have e1 : (m.handed == m.start) = false := by rw [hms, hmh]; simp
        rw [e1]
        have e2 : (m.handed : Int) = ((spell (pre ++ u ++ [(true, c)])).length : Nat) := by
          rw [hmh, spell_append, spell_append, List.length_append, List.length_append]; rfl
        rw [e2]
        refine wpAny_pure ⟨plainId_quiet plain_loop _, ?_⟩
        refine ih r (pre ++ u ++ [(true, c)]) _ _ (n + 1) _ R (by rw [er] at hk; simp at hk; omega) (by rw [he, er]; simp) hL4 (strs_snoc hS1) ?_ ?_ (fun t' h' tk st => hR1 t' h' tk st)
        · rw [List.map_append, List.flatten_append, hF1, decT_append (pre ++ u)]
          congr 1
          show (tx [16 * (c / 16) + c % 16]).cps.toList ++ [] = [c] ++ []
          rw [show 16 * (c / 16) + c % 16 = c from by omega]
          rfl
        · simp only [List.length_append, List.length_singleton] at hy1 ⊢
          omega
      show wpAny _ _ (if (((spell pre).length : Nat) : Int).toNat < m.start then _ else _) _ _ s
      rw [Int.toNat_natCast]
      by_cases hlt : (spell pre).length < m.start
      · rw [if_pos hlt]
        refine wpAny_bind (wp_slice hle ?_)
        intro ts ks
        refine wpAny_bind (wp_push (x := by exact hL) (by omega) ?_)
        intro h1 hL1
        have ee : (⟨(spell its).toArray.extract (spell pre).length m.start⟩ : Str) = tx (decT u) := by
          rw [hms]
          have := ext_mid (spell pre) (spell u) ([61, hexD (c / 16), hexD (c % 16)] ++ spell r)
          rw [← esp] at this
          rw [this, spell_plain u hu]
          rfl
        refine tail _ _ (ys ++ [_]) hL1 (strs_snoc hS) ?_ (by rw [List.length_append, List.length_singleton, List.length_append]; omega) (fun t' h' tk st => hR t' h' tk st)
        rw [List.map_append, List.flatten_append, hF, decT_append, ee]
        simp [tx]
      · rw [if_neg hlt]
        have e0 : spell u = [] := List.length_eq_zero_iff.mp (by omega)
        refine tail s vs ys hL hS ?_ (by rw [List.length_append]; omega) hR
        rw [hF, decT_append, ← spell_plain u hu, e0, List.append_nil]
end
end Mine
end
section
open PySem PySem.W PyProof.Rows
open PySem.Builtin
namespace Mine
open PySem.Sre (M)
theorem replace_free (x z : Str) (c : Nat) (h : c ∉ x.cps.toList) : Txt.replace x ⟨#[c]⟩ z = x := by
  unfold Txt.replace
  cases ho : Str.occurrences x ⟨#[c]⟩ 0 x.length (x.length + 1) with
  | nil => rfl
  | cons i r =>
    exfalso
    obtain ⟨f, hh⟩ := StrLaws.occ_chain x ⟨#[c]⟩ (x.length + 1)
    rw [ho] at hh
    exact h (List.mem_of_getElem? ((StrLaws.subAt_one x c i).mp hh.2.1))
theorem hexD_rng (n : Nat) (h : n < 16) : (48 ≤ hexD n ∧ hexD n ≤ 57) ∨ (65 ≤ hexD n ∧ hexD n ≤ 70) := by unfold hexD; split <;> omega
theorem spell_signs (l : List (Bool × Nat)) (hc : ∀ i ∈ l, i.2 < 256) : ∀ c ∈ spell l, c = 61 ∨ (48 ≤ c ∧ c ≤ 57) ∨ (65 ≤ c ∧ c ≤ 70) := by
  intro c hcm
  simp only [spell, List.mem_flatMap] at hcm
  obtain ⟨i, hi, hm⟩ := hcm
  have h2 := hc i hi
  have a := hexD_rng (i.2 / 16) (by omega)
  have b := hexD_rng (i.2 % 16) (by omega)
  unfold sp1 at hm
  split at hm
  · simp only [List.mem_cons, List.not_mem_nil, or_false] at hm
    rcases hm with rfl | rfl | rfl
    · exact .inl rfl
    · exact .inr a
    · exact .inr b
  · simp only [List.mem_cons, List.not_mem_nil, or_false] at hm
    rcases hm with rfl | rfl
    · exact .inr a
    · exact .inr b
theorem call_function : typeLookup (.type "function") "__call__" = pure (some (.builtin "function.__call__")) := by rw [typeLookup_type, builtinLookup_eq_fast]; kernel_rfl
theorem str_noarray : isSubtype (.type "str") (.type "bytearray") = pure false := by rw [isSubtype_type]; kernel_rfl
section
variable {prog : Program} {w : World} {A : Around} {s : Shared} {mg mb : Str → Option Value} {E Q : Value → Shared → Prop}
theorem named3 (a b : Value) : Re.reNamed "re.Pattern.sub" "sub" ["repl", "string", "count"] 2 [a, b] [] = pure [some a, some b, none] := by
  rfl
theorem call_sub {its : List (Bool × Nat)} {t : Tok} (X : (KK w.params).In s.heap) (T : TopRead qP looseQ mg mb s.heap) (hc : ∀ i ∈ its, i.2 < 256) (hl : (spell its).length ≤ 1000000) (hn : its.length ≤ 1000000) (hd : A.depth + 1 < recursionLimit)
    (hq : ∀ t' h' tk, s.heap.StaysIn h' → Q (.str (tx (decT its)) t') { s with heap := h', toks := tk }) : wpAny (model prog w) A (call (.builtin "re.Pattern.sub") [.ref 66, .ref 116, .str (tx (spell its)) t]) Q E s := by
  refine call_meetsIn (T := "re.Pattern") (S := fun A' R s' => A' = A ∧ s' = s ∧ ∀ t' h' tk, s.heap.StaysIn h' → R (.ok (.ret (.str (tx (decT its)) t'))) { s with heap := h', toks := tk }) slot_sub ⟨_, (patOf X).p, rfl⟩ entry_sub (args_sub _ _ _) ?_ ⟨rfl, rfl, hq⟩
  intro A' R s' hS
  obtain ⟨rfl, rfl, h⟩ := hS
  unfold «re.Pattern.sub» Re.reSubstitute
  show wpAny _ _ (Re.reNamed "re.Pattern.sub" "sub" ["repl", "string", "count"] 2 [.ref 116, .str (tx (spell its)) t] [] >>= fun x => _) _ _ _
  rw [named3]
  refine wpAny_bind (wpAny_pure ?_)
  refine wpAny_bind (wpAny_pure ?_)
  have h116 := X 116 _ rfl
  refine wpAny_bind (wpAny_specialOf (T := "function") ⟨_, h116, rfl⟩ call_function ?_)
  refine wpAny_bind (wpAny_pure ?_)
  refine wpAny_bind (wpAny_pure ?_)
  refine wpAny_bind (wpAny_holding (wp_target (patOf X) ?_))
  show wpAny _ _ (Re.reNotHeld "re.Pattern.sub" (Value.str (tx (spell its)) t) >>= fun x => _) _ _ _
  refine wpAny_bind ?_
  unfold Re.reNotHeld
  refine wpAny_bind (wpAny_isInstance (T := "str") (typeIs_str _ _ _) str_noarray (wpAny_pure ?_))
  refine wpAny_bind (wpAny_newObj_type ?_ (by show (0 : Nat) ≤ sizeLine; decide))
  refine wpAny_pure ⟨plainId_quiet plain_loop _, ?_⟩
  refine sub_loop (h₀ := s'.heap) X T hc hl hn hd (its.length + 1) its [] [] [] 0 _ R (Nat.lt_succ_self _) rfl ⟨fun b o e => Heap.get?_push_of_some _ e, ⟨0, Heap.get?_push_size _ rfl⟩, Heap.get?_none_of_le (Nat.le_refl _)⟩ .nil rfl (Nat.zero_le _) (fun t' h' tk st => h t' h' tk st)
local macro_rules | `(tactic| walk_at "call builtin:re.Pattern.sub") => `(tactic| ((with_reducible show wpAny _ _ (call (Value.builtin "re.Pattern.sub") _) _ _ _); refine call_sub (kk_at (by assumption) (by assumption)) (tt_at (by assumption) (by assumption)) (by assumption) (by assumption) (by assumption) (by assumption) ?_; intro t8 h8 tk8 st8))
local macro_rules | `(tactic| walk_at "getMethod ref") => `(tactic| ((with_reducible show wpAny _ _ (getMethod (Value.ref 66) (Str.ofString "sub") _) _ _ _); refine m_sub (patOf (kk_at (by assumption) (by assumption))) ?_))
set_option maxHeartbeats 4000000 in
/-- header_decode -/
theorem c_header {its : List (Bool × Nat)} {t : Tok} (X : (KK w.params).In s.heap) (T : TopRead qP looseQ mg mb s.heap) (hc : ∀ i ∈ its, i.2 < 256) (hl : (spell its).length ≤ 1000000) (hn : its.length ≤ 1000000) (hd : A.depth + 2 < recursionLimit) :
    PureC prog w A s (.ref 123) [.str (tx (spell its)) t] (fun t => .str (tx (decT its)) t) := by
  intro Q E hq
  refine enter_fn 30 123 .none (.str (Str.ofString "cpy313.email.quoprimime") 1401) 122 (binds := [(Str.ofString "s", .str (tx (spell its)) t)]) X T rfl rfl rfl (by omega) (.of_eq rfl) (by decide) (locs rfl) rfl rfl rfl ?_
  intro h₁ F
  have N := news_nil (h₀ := s.heap) (h := h₁) (L := s.heap.objs.size)
  have hd' : (A.deeper (fEnv 30 s.heap.objs.size 123 (.ref 122))).depth + 1 < recursionLimit := hd
  k_steps
  refine SC.replace (Nat.succ_ne_zero _) (Nat.succ_ne_zero _) (fun e => by have := (id e : s.toks + 1 = s.toks + 1 + 1); omega) (by decide) ?_ ?_
  · show (spell its).length + ((spell its).length + 1) * 1 ≤ 16777216
    omega
  intro t7 k7
  rw [show Str.ofString "_" = ⟨#[95]⟩ from by decide, replace_free _ _ 95 (fun h => by rcases spell_signs its hc 95 h with h | h | h <;> omega)]
  k_steps
  rename Fr _ _ _ _ => FF
  rename Heap.StaysIn _ _ => ST
  exact hq _ _ _ (fun b o e => ST _ _ (FF.keep b o e))
end
end Mine
end
theorem Mine.anewR6 : True := by first | walk1 | trivial
section
open PySem PySem.W PyProof.Rows
open PySem.Builtin
namespace Mine
noncomputable def Sgn (c : Nat) : Prop := c = 61 ∨ (48 ≤ c ∧ c ≤ 57) ∨ (65 ≤ c ∧ c ≤ 70)
theorem sgn_free : ∀ c, Sgn c → Unicode.isLineBreak c = false ∧ Unicode.isSpace c = false := by
  intro c h
  have h1 : c < 71 := by rcases h with h | h | h <;> omega
  have h2 : ∀ c : Fin 71, (c.1 = 61 ∨ (48 ≤ c.1 ∧ c.1 ≤ 57) ∨ (65 ≤ c.1 ∧ c.1 ≤ 70)) → Unicode.isLineBreak c.1 = false ∧ Unicode.isSpace c.1 = false := by decide +kernel
  exact h2 ⟨c, h1⟩ h
theorem ls_none (x : Str) (h : ∀ i, i < x.length → Unicode.isLineBreak (x.cps.getD i 0) = false) : ∀ (m cur : Nat) (st : StrLaws.LsSt), cur + m ≤ x.length → Id.run (forIn (m := Id) (List.range' cur m) st (StrLaws.lsBody x)) = st
  | 0, cur, st, _ => rfl
  | m + 1, cur, (lines, start), hm => by
    rw [List.range'_succ, List.forIn_cons]
    unfold StrLaws.lsBody
    rw [h cur (by omega), Bool.and_false, if_neg Bool.false_ne_true]
    exact ls_none x h m (cur + 1) (lines, start) (by omega)
theorem cuts_one (l : List Nat) (hl : l ≠ []) (h : ∀ c ∈ l, Sgn c) : lineCuts (tx l) = [(0, (tx l).length)] := by
  have hlen : 0 < l.length := List.length_pos_iff.mpr hl
  have e : Str.lineSpans (tx l) = [(0, (tx l).length, (tx l).length)] := by
    rw [StrLaws.ls_eq, ls_none (tx l) (fun i hi => by
      have hi' : i < l.length := hi
      have : (tx l).cps.getD i 0 = l[i] := by
        show l.toArray.getD i 0 = _
        simp [Array.getD_eq_getD_getElem?, hi']
      rw [this]
      exact (sgn_free _ (h _ (List.getElem_mem _))).1) _ 0 _ (by omega)]
    unfold StrLaws.lsEnd
    rw [if_pos (by exact hlen)]
    rfl
  unfold lineCuts
  rw [e]
  rfl
theorem rstrip_id (l : List Nat) (h : ∀ c ∈ l, Sgn c) : Txt.rstrip (tx l) = tx l := by
  obtain ⟨_, h0, h1, _⟩ := hi_facts Unicode.isSpace (tx l) 0 (Nat.zero_le _)
  have e : stripHi Unicode.isSpace true (tx l) 0 = (tx l).length := by
    refine Nat.le_antisymm h0 (Nat.le_of_not_lt fun hlt => ?_)
    have hp : 0 < l.length := Nat.lt_of_le_of_lt (Nat.zero_le _) hlt
    have hlt' : stripHi Unicode.isSpace true (tx l) 0 < l.length := hlt
    have := h1 (l.length - 1) (by omega) (by show l.length - 1 < l.length; omega)
    have e : (tx l).cps.getD (l.length - 1) 0 = l[l.length - 1] := by
      show l.toArray.getD (l.length - 1) 0 = _
      rw [Array.getD_eq_getD_getElem?]
      have : l.length - 1 < l.length := by omega
      simp [this]
    rw [e, (sgn_free _ (h _ (List.getElem_mem _))).2] at this
    cases this
  unfold Txt.rstrip
  rw [PyProof.Rows.stripBy_eq]
  show Str.strSub (tx l) 0 (stripHi Unicode.isSpace true (tx l) 0) = _
  rw [e]
  exact StrLaws.sub_whole _
/-! sign by sign -/
noncomputable def units (l : List (Bool × Nat)) : List (Bool × Nat) := l.flatMap fun i => if i.1 then [i] else [(false, hexD (i.2 / 16)), (false, hexD (i.2 % 16))]
noncomputable def su1 (i : Bool × Nat) : List Nat := if i.1 then [61, hexD (i.2 / 16), hexD (i.2 % 16)] else [i.2]
noncomputable def spU (l : List (Bool × Nat)) : List Nat := l.flatMap su1
theorem spU_units (l : List (Bool × Nat)) : spU (units l) = spell l := by
  induction l with
  | nil => rfl
  | cons i l ih =>
    show spU ((if i.1 then [i] else [(false, hexD (i.2 / 16)), (false, hexD (i.2 % 16))]) ++ units l) = sp1 i ++ spell l
    unfold spU at ih ⊢
    rw [List.flatMap_append, ih]
    congr 1
    obtain ⟨q, c⟩ := i
    cases q <;> rfl
theorem dec_units (l : List (Bool × Nat)) : (units l).map (·.2) = decT l := by
  induction l with
  | nil => rfl
  | cons i l ih =>
    show ((if i.1 then [i] else [(false, hexD (i.2 / 16)), (false, hexD (i.2 % 16))]) ++ units l).map (·.2) = de1 i ++ decT l
    rw [List.map_append, ih]
    congr 1
    obtain ⟨q, c⟩ := i
    cases q <;> rfl
theorem units_ok (l : List (Bool × Nat)) (hc : ∀ i ∈ l, i.2 < 256) : ∀ i ∈ units l, (i.1 = true → i.2 < 256) ∧ (i.1 = false → Sgn i.2 ∧ i.2 ≠ 61) := by
  intro i hi
  simp only [units, List.mem_flatMap] at hi
  obtain ⟨j, hj, hm⟩ := hi
  have h2 := hc j hj
  split at hm
  · rename_i hq
    simp only [List.mem_cons, List.not_mem_nil, or_false] at hm
    subst hm
    exact ⟨fun _ => h2, fun h => by rw [hq] at h; cases h⟩
  · simp only [List.mem_cons, List.not_mem_nil, or_false] at hm
    rcases hm with rfl | rfl
    · exact ⟨fun h => Bool.noConfusion h, fun _ => ⟨.inr (hexD_rng _ (by omega)), hexD_ne61 _ (by omega)⟩⟩
    · exact ⟨fun h => Bool.noConfusion h, fun _ => ⟨.inr (hexD_rng _ (by omega)), hexD_ne61 _ (by omega)⟩⟩
theorem occ_free (x : Str) (c k : Nat) (h : c ∉ x.cps.toList) : Str.occurrences x ⟨#[c]⟩ 0 x.length k = [] := by
  cases ho : Str.occurrences x ⟨#[c]⟩ 0 x.length k with
  | nil => rfl
  | cons i r =>
    exfalso
    obtain ⟨f, hh⟩ := StrLaws.occ_chain x ⟨#[c]⟩ k
    rw [ho] at hh
    exact h (List.mem_of_getElem? ((StrLaws.subAt_one x c i).mp hh.2.1))
theorem slice_ss {l : List Nat} {a b : Nat} (h : a ≤ b) (hb : b ≤ l.length) : Txt.slice (tx l) (some (a : Int)) (some (b : Int)) = tx ((l.drop a).take (b - a)) := by
  rw [eq_of_beq (slice_closes (x := tx l) (i := a) (j := b) ⟨by omega, by omega, by show (b : Int) ≤ (l.toArray.toList.length : Nat); rw [List.toList_toArray]; omega⟩)]
  rw [show ((b : Int) - a).toNat = b - a from by omega]
  rfl
theorem slice_last (l : List Nat) : Txt.slice (tx (l ++ [10])) none (some (-((1 : Nat) : Int))) = tx l := by
  rw [slice_to_neg (by omega)]
  have e : max 0 (((tx (l ++ [10])).length : Int) + -((1 : Nat) : Int)) = (l.length : Int) := by
    have : (tx (l ++ [10])).length = l.length + 1 := by show (l ++ [10]).length = _; simp
    omega
  rw [e, eq_of_beq (slice_closes_to (x := tx (l ++ [10])) (j := l.length) ⟨by omega, by show (l.length : Int) ≤ (((l ++ [10]).toArray.toList.length : Nat) : Int); rw [List.toList_toArray, List.length_append]; omega⟩)]
  rw [show ((l.length : Int) - 0).toNat = l.length from by omega]
  show (⟨((((l ++ [10]).toArray.toList).drop 0).take l.length).toArray⟩ : Str) = _
  simp [tx]
theorem ends_nl (l : List Nat) : Txt.endswith (tx (l ++ [10])) (Str.ofString "\n") = true := by
  unfold Txt.endswith
  have e : Str.ofString "\n" = ⟨#[10]⟩ := by decide
  have : (tx (l ++ [10])).length = l.length + 1 := by show (l ++ [10]).length = _; simp
  rw [e, this]
  have e1 : (⟨#[10]⟩ : Str).length = 1 := rfl
  rw [e1, Bool.and_eq_true]
  refine ⟨by simp, ?_⟩
  rw [show l.length + 1 - 1 = l.length from rfl]
  exact ((StrLaws.subAt_one (tx (l ++ [10])) 10 l.length).mpr (by show (l ++ [10]).toArray.toList[l.length]? = _; simp)).2
theorem seq_in (i : Int) (n : Nat) (k : Nat) (h : k < n) (hi : i = k ∨ i = (k : Int) - n) : seqIndex? i n = some k := by
  unfold seqIndex?
  have : (if i < 0 then i + (n : Int) else i) = (k : Int) := by
    split <;> omega
  simp only [this]
  rw [if_pos (by simp; omega)]
  simp
theorem item_at' (l : List Nat) (i : Int) (k : Nat) (h : k < l.length) (hi : i = k ∨ i = (k : Int) - l.length) : Txt.item (tx l) i = ⟨#[l[k]]⟩ := by
  unfold Txt.item Txt.charAt
  have e : (tx l).length = l.length := rfl
  rw [e, seq_in i l.length k h hi]
  show (⟨#[(l.toArray[k]?).getD 0]⟩ : Str) = _
  simp [h]
theorem item_at (l : List Nat) (i : Nat) (h : i < l.length) : Txt.item (tx l) (i : Int) = ⟨#[l[i]]⟩ := item_at' l i i h (.inl rfl)
theorem item_last (l : List Nat) (h : l ≠ []) : ∃ c ∈ l, Txt.item (tx l) (-1) = ⟨#[c]⟩ := by
  have hp : 0 < l.length := List.length_pos_iff.mpr h
  exact ⟨l[l.length - 1], List.getElem_mem _, item_at' l (-1) (l.length - 1) (by omega) (.inr (by omega))⟩
theorem not_nl (l : List Nat) (h : l ≠ []) (hs : ∀ c ∈ l, Sgn c) : (Str.occurrences (Str.ofString "\r\n") (Txt.item (tx l) (-1)) 0 (Str.ofString "\r\n").length 1).isEmpty = true := by
  obtain ⟨c, hc, e⟩ := item_last l h
  rw [e, occ_free _ c _ (by
    have e2 : (Str.ofString "\r\n").cps.toList = [13, 10] := by decide
    rw [e2]
    have := hs c hc
    simp only [List.mem_cons, List.not_mem_nil, or_false]
    rcases this with h | h | h <;> omega)]
  rfl
/-! a while by hand -/
noncomputable def WhileJ (_J : Nat → (Str → Option Value) → List (Addr × Obj) → Prop) : Prop := True
noncomputable def WTurn (prog : Program) (w : World) (A : Around) (E : Value → Shared → Prop) (Q : Flow → Shared → Prop) (s : Shared) (env : Env) (h₀ : Heap) (L : Addr) (J : Nat → (Str → Option Value) → List (Addr × Obj) → Prop) (test : Expr) (body : List Stmt) : Prop :=
  ∀ n m₁ news₁ h₁ tk₁, Fr h₀ L h₁ m₁ → News h₀ L h₁ news₁ → J n m₁ news₁ →
      wpAny (model prog w) A (isTrue test env (eval test env)) (fun b s₂ =>
        if b = true then wpAny (model prog w) A (execs body env) (WhileStep2 h₀ L s J Q n) E s₂ else Q .next s₂) E { s with heap := h₁, toks := tk₁ }
noncomputable def Begins (J : Nat → (Str → Option Value) → List (Addr × Obj) → Prop) (m : Str → Option Value) (news : List (Addr × Obj)) : Prop := ∃ n₀, J n₀ m news
theorem While_hand {prog : Program} {w : World} {A : Around} {E : Value → Shared → Prop} {Q : Flow → Shared → Prop} {s : Shared} {env : Env} {h₀ : Heap} {L : Addr} {test : Expr} {body : List Stmt} {pos : Pos} {m : Str → Option Value} {news : List (Addr × Obj)} {J : Nat → (Str → Option Value) → List (Addr × Obj) → Prop}
    (_h : WhileJ J) (F : Fr h₀ L s.heap m) (N : News h₀ L s.heap news) (hJ : Begins J m news) (turn : WTurn prog w A E Q s env h₀ L J test body)
    (hE : PassesOwn (model prog w) A env E := by passes_own) :
    wpAny (model prog w) A (exec (.While test body [] pos) env) Q E s := let ⟨_, h⟩ := hJ; While_inv2 J F N h turn hE
/-! the names of decode -/
noncomputable def MM (b : Str → Option Value) (d lv iv nv cv : Option Value) : Str → Option Value := fun y =>
  if y = Str.ofString "decoded" then d else if y = Str.ofString "line" then lv else if y = Str.ofString "i" then iv else if y = Str.ofString "n" then nv else if y = Str.ofString "c" then cv else b y
theorem MM_d (b : Str → Option Value) (d d' lv iv nv cv : Option Value) (h : d = d') : MM b d lv iv nv cv = MM b d' lv iv nv cv := by rw [h]
theorem ext5 {f g : Str → Option Value} (h1 : f (Str.ofString "decoded") = g (Str.ofString "decoded")) (h2 : f (Str.ofString "line") = g (Str.ofString "line")) (h3 : f (Str.ofString "i") = g (Str.ofString "i")) (h4 : f (Str.ofString "n") = g (Str.ofString "n")) (h5 : f (Str.ofString "c") = g (Str.ofString "c"))
    (h : ∀ y, y ≠ Str.ofString "decoded" → y ≠ Str.ofString "line" → y ≠ Str.ofString "i" → y ≠ Str.ofString "n" → y ≠ Str.ofString "c" → f y = g y) : f = g := by
  funext y
  by_cases e1 : y = Str.ofString "decoded"
  · rw [e1, h1]
  by_cases e2 : y = Str.ofString "line"
  · rw [e2, h2]
  by_cases e3 : y = Str.ofString "i"
  · rw [e3, h3]
  by_cases e4 : y = Str.ofString "n"
  · rw [e4, h4]
  by_cases e5 : y = Str.ofString "c"
  · rw [e5, h5]
  exact h y e1 e2 e3 e4 e5
theorem begin_MM (b : Str → Option Value) (d l l2 : Value) (n : Int) (ti tn : Tok) (hb : b (Str.ofString "c") = none) :
    (fun y => if y = Str.ofString "n" then some (.int n tn) else if y = Str.ofString "i" then some (.int 0 ti) else if y = Str.ofString "line" then some l else if y = Str.ofString "line" then some l2 else (fun y => if y = Str.ofString "decoded" then some d else b y) y)
      = MM b (some d) (some l) (some (.int 0 ti)) (some (.int n tn)) none :=
  ext5 rfl rfl rfl rfl hb (fun y h1 h2 h3 h4 h5 => by simp [h1, h2, h3, h4, h5, MM])
end Mine
end
section
open PySem PySem.W PyProof.Rows
open PySem.Builtin
namespace Mine
noncomputable def decB (its : List (Bool × Nat)) (t : Tok) : Str → Option Value := fun x => List.lookup x [(Str.ofString "encoded", .str (tx (spell its)) t), (Str.ofString "eol", .str (Str.ofString "\n") 356)].reverse
noncomputable def decJ (its : List (Bool × Nat)) (t : Tok) (own : List (Addr × Obj)) (k : Nat) (m₁ : Str → Option Value) (news₁ : List (Addr × Obj)) : Prop :=
  news₁ = own ++ [] ∧ ∃ pre rest ti td tl tn cv, units its = pre ++ rest ∧ k = rest.length ∧ m₁ = MM (decB its t) (some (.str (tx (pre.map (·.2) ++ (if rest = [] then [10] else []))) td)) (some (.str (tx (spell its)) tl)) (some (.int (spU pre).length ti)) (some (.int (spell its).length tn)) cv
theorem tx_app (a b : List Nat) : tx a ++ tx b = tx (a ++ b) := by
  show Str.mk _ = Str.mk _
  congr 1
  exact List.append_toArray _ _
theorem hex_in : ∀ n, n < 16 → (Str.occurrences (Str.ofString "0123456789abcdefABCDEF") ⟨#[hexD n]⟩ 0 (Str.ofString "0123456789abcdefABCDEF").length 1).isEmpty = false := by
  have h : ∀ n : Fin 16, (Str.occurrences (Str.ofString "0123456789abcdefABCDEF") ⟨#[hexD n.1]⟩ 0 (Str.ofString "0123456789abcdefABCDEF").length 1).isEmpty = false := by decide +kernel
  exact fun n hn => h ⟨n, hn⟩
theorem len0 {r : List (Bool × Nat)} (h : (spU r).length = 0) : r = [] := by
  cases r with
  | nil => rfl
  | cons i r =>
    exfalso
    have : spU (i :: r) = su1 i ++ spU r := rfl
    rw [this, List.length_append] at h
    have : 0 < (su1 i).length := by unfold su1; split <;> simp
    omega
theorem fin_nl {its pre : List (Bool × Nat)} {q : Bool} {c : Nat} {r : List (Bool × Nat)} {t tl tn t2 ti : Tok} {own : List (Addr × Obj)} {h₀ h' : Heap} {L : Addr} {s : Shared} {Q : Flow → Shared → Prop} {tk' : Nat} {V : Str} {i : Int} {d1 d0 iv0 cv' cv : Option Value}
    (F : Fr h₀ L h' (fun y => if y = Str.ofString "decoded" then some (.str (tx (pre.map (·.2)) ++ V ++ Str.ofString "\n") t2) else if y = Str.ofString "i" then some (.int i ti) else if y = Str.ofString "decoded" then d1 else if y = Str.ofString "c" then cv' else MM (decB its t) d0 (some (.str (tx (spell its)) tl)) iv0 (some (.int (spell its).length tn)) cv y))
    (N : News h₀ L h' (own ++ [])) (hu : units its = pre ++ (q, c) :: r) (hV : V = tx [c]) (hi : i = ((spU (pre ++ [(q, c)])).length : Nat)) (hr : r = []) :
    WhileStep2 h₀ L s (decJ its t own) Q ((q, c) :: r).length .next { s with heap := h', toks := tk' } := by
  subst hV hi hr
  refine ⟨h', tk', _, _, 0, rfl, F, N, Nat.lt_succ_self _, rfl, pre ++ [(q, c)], [], ti, t2, tl, tn, cv', by rw [hu]; simp, rfl, ?_⟩
  have e : tx (pre.map (·.2)) ++ tx [c] ++ Str.ofString "\n" = tx ((pre ++ [(q, c)]).map (·.2) ++ (if ([] : List (Bool × Nat)) = [] then [10] else [])) := by
    rw [show Str.ofString "\n" = tx [10] from by decide, tx_app, tx_app, if_pos rfl]
    simp
  rw [e]
  exact ext5 rfl rfl rfl rfl rfl (fun y h1 h2 h3 h4 h5 => by simp [h1, h2, h3, h4, h5, MM])
theorem fin_no {its pre : List (Bool × Nat)} {q : Bool} {c : Nat} {r : List (Bool × Nat)} {t tl tn t2 ti : Tok} {own : List (Addr × Obj)} {h₀ h' : Heap} {L : Addr} {s : Shared} {Q : Flow → Shared → Prop} {tk' : Nat} {V : Str} {i : Int} {d0 iv0 cv' cv : Option Value}
    (F : Fr h₀ L h' (fun y => if y = Str.ofString "i" then some (.int i ti) else if y = Str.ofString "decoded" then some (.str (tx (pre.map (·.2)) ++ V) t2) else if y = Str.ofString "c" then cv' else MM (decB its t) d0 (some (.str (tx (spell its)) tl)) iv0 (some (.int (spell its).length tn)) cv y))
    (N : News h₀ L h' (own ++ [])) (hu : units its = pre ++ (q, c) :: r) (hV : V = tx [c]) (hi : i = ((spU (pre ++ [(q, c)])).length : Nat)) (hr : r ≠ []) :
    WhileStep2 h₀ L s (decJ its t own) Q ((q, c) :: r).length .next { s with heap := h', toks := tk' } := by
  subst hV hi
  refine ⟨h', tk', _, _, r.length, rfl, F, N, Nat.lt_succ_self _, rfl, pre ++ [(q, c)], r, ti, t2, tl, tn, cv', by rw [hu]; simp, rfl, ?_⟩
  have e : tx (pre.map (·.2)) ++ tx [c] = tx ((pre ++ [(q, c)]).map (·.2) ++ (if r = [] then [10] else [])) := by
    rw [tx_app, if_neg hr]
    simp
  rw [e]
  exact ext5 rfl rfl rfl rfl rfl (fun y h1 h2 h3 h4 h5 => by simp [h1, h2, h3, h4, h5, MM])
section
variable {prog : Program} {w : World} {A : Around} {E : Value → Shared → Prop} {s : Shared}
theorem call_lines {l : List Nat} {t : Tok} {h₀ : Heap} {L : Addr} {m : Str → Option Value} {news : List (Addr × Obj)} {Q : Value → Shared → Prop} (F : Fr h₀ L s.heap m) (N : News h₀ L s.heap news) (hl : l ≠ []) (hs : ∀ c ∈ l, Sgn c) (hz : l.length ≤ 1000000)
    (h : ∀ h', Fr h₀ L h' m → News h₀ L h' ((s.heap.objs.size, { cls := .type "list", data := .seq #[.str (tx l) t] }) :: news) → Q (.ref s.heap.objs.size) { s with heap := h' }) :
    wpAny (model prog w) A (call (.builtin "str.splitlines") [.str (tx l) t]) Q E s := by
  refine call_meets PySem.F.slot_str_splitlines (typeIs_str _ _ _) PySem.F.entry_str_splitlines (PySem.F.args_str_splitlines_1 _) (meets_str_splitlines (tx l) t (by show l.length ≤ sizeLine; rw [sizeLine_eq]; omega) (by rw [cuts_one l hl hs]; show 1 ≤ sizeLine; decide)) ?_
  rw [cuts_one l hl hs, if_pos (by simp)]
  exact h _ (Fr.pushS F _) (News.push F N _)
theorem Iter_listV {h₀ : Heap} {env : Env} {m : Str → Option Value} {news : List (Addr × Obj)} {x : Str} {body : List Stmt} {Q : Flow → Shared → Prop} {l : Addr} {items : Array Value} (hh : A.handled = none) (hl : s.heap.IsList l items) (hL : l ≠ env.locals) (F : Fr h₀ env.locals s.heap m) (N : News h₀ env.locals s.heap news)
    (J : Nat → (Str → Option Value) → List (Addr × Obj) → Prop) (h0 : J 0 m news)
    (turn : ∀ i v m₁ news₁ s₁ own, (∃ h tk, s₁ = { s with heap := h, toks := tk }) → i < items.size → items[i]? = some v → J i m₁ news₁ → (∀ p ∈ news₁, p.1 ∉ [s.heap.objs.size]) → s₁.heap.IsList l items →
      Fr h₀ env.locals s₁.heap (fun y => if y = x then some v else m₁ y) → News h₀ env.locals s₁.heap (own ++ news₁) → (∀ b, h₀.get? b = none → (b = s.heap.objs.size ∨ b = l) → ∀ o, s₁.heap.get? b = some o → (b, o) ∈ own) →
      wpAny (model prog w) A (execs body env) (LoopStepV h₀ env.locals [s.heap.objs.size] own (J (i + 1)) s₁ (fun v s' => Q (.ret v) s') fun s' => Q .next s') E s₁)
    (done : ∀ h' tk m' news', Fr h₀ env.locals h' m' → News h₀ env.locals h' news' → J items.size m' news' → Q .next { s with heap := h', toks := tk }) :
    wpAny (model prog w) A (pyIter (.ref l)) (fun it s₂ => LoopAtV prog w A h₀ env x body Q E it s₂) E s := by
  refine wpAny_pyIter_list hl ?_
  obtain ⟨ol, eol, hol⟩ := hl
  have hne : l ≠ s.heap.objs.size := fun e => by rw [e, Heap.get?_none_of_le (Nat.le_refl _)] at eol; cases eol
  obtain ⟨oL, es, ep, eL, hoL⟩ := F.ns
  have hLne : env.locals ≠ s.heap.objs.size := fun e => by rw [e, Heap.get?_none_of_le (Nat.le_refl _)] at eL; cases eL
  have hfr : h₀.get? s.heap.objs.size = none := Heap.StaysIn.fresh F.keep
  refine ⟨s.heap.objs.size, [s.heap.objs.size, l], [s.heap.objs.size], items.size, _, _, m, news, J, rfl, Walks.list hh _ l hne items, ?_, ?_, ?_, ?_, Fr.pushS F _, ?_, h0, ?_, ?_⟩
  · simp only [List.mem_cons, List.not_mem_nil, or_false, not_or]; exact ⟨hLne, fun e => hL e.symm⟩
  · intro b hb; simp only [List.mem_cons, List.not_mem_nil, or_false] at hb; subst hb; exact hfr
  · intro p hp hb
    simp only [List.mem_cons, List.not_mem_nil, or_false] at hb
    have := (N p hp).1
    rw [hb, Heap.get?_none_of_le (Nat.le_refl _)] at this
    cases this
  · exact ⟨⟨_, Heap.get?_push_size _ rfl, rfl, rfl⟩, ⟨ol, Heap.get?_push_of_some _ eol, hol⟩⟩
  · exact fun p hp => ⟨Heap.get?_push_of_some _ (N p hp).1, (N p hp).2⟩
  · intro i v m₁ news₁ s₁ own hs hi hP hJ hn _ _ hall hst F₁ N₁
    exact turn i v m₁ news₁ s₁ own hs hi hP hJ hn hst.2 F₁ N₁ (fun b hb hb' o e => hall b (by rcases hb' with rfl | rfl <;> simp) hb o e)
  · intro h' tk m' news' F' N' _ hJ
    exact done h' tk m' news' F' N' hJ
end
section
variable {prog : Program} {w : World} {A : Around} {s : Shared} {mg mb : Str → Option Value} {E Q : Value → Shared → Prop}
theorem call_rstrip {l : List Nat} {t : Tok} {Q : Value → Shared → Prop} (hs : ∀ c ∈ l, Sgn c) (hz : l.length ≤ 1000000) (h : ∀ t' k, Q (.str (tx l) t') { s with toks := k }) : wpAny (model prog w) A (call (.builtin "str.rstrip") [.str (tx l) t]) Q E s := by
  refine SC.rstrip ?_ (by show l.length ≤ sizeLine; rw [sizeLine_eq]; omega)
  intro t' k
  rw [rstrip_id l hs]
  exact h t' k
local macro_rules | `(tactic| walk_at "exec") => `(tactic| ((with_reducible show wpAny _ _ (exec (Stmt.While _ _ [] _) _) _ _ _); (rename WhileJ _ => hWJ); (refine While_hand hWJ (by assumption) (by assumption) ?_ ?_)))
theorem item_val {e e' : Expr} {l : List Nat} {i : Int} {t u : Tok} {c : Nat} {Q : Value → Shared → Prop} (hv : Txt.item (tx l) i = ⟨#[c]⟩) (h0 : 0 ≤ i) (h1 : i < (l.length : Nat)) (hz : l.length ≤ 1000000) (h : ∀ t' k, Q (.str ⟨#[c]⟩ t') { s with toks := k })
    (hs : subscripted e' false (.str (tx l) t) (.int i u) = operate [.str (tx l) t, .int i u] (getItem (.str (tx l) t) (.int i u)) := by with_unfolding_all rfl)
    (ht : ∀ r, letTemporaryGo e (.str (tx l) t) r = pure () := by intro _; with_unfolding_all rfl) :
    wpAny (model prog w) A (subscriptTail e e' (.str (tx l) t) (.int i u)) Q E s := by
  refine item_str (by exact fitsSsize_of (N := 9223372036854775808) (by omega) (by omega) (Int.le_refl _)) (by have : (tx l).length = l.length := rfl; omega) (by have : (tx l).length = l.length := rfl; omega) ?_ hs ht
  intro _
  rw [hv]
  exact h _ _
local macro_rules | `(tactic| walk_at "ite") => `(tactic| ((with_reducible show (if (_ != Str.ofString "=") = true then _ else _)); (rw [if_pos (by assumption)])))
local macro_rules | `(tactic| walk_at "ite") => `(tactic| ((with_reducible show (if (_ != Str.ofString "=") = true then _ else _)); (rw [if_neg (by assumption)])))
local macro_rules | `(tactic| walk_at "subscriptTail Name Name str int") => `(tactic| (refine item_val (by assumption) (by omega) (by omega) (by assumption) ?_; intro t4 k4))
local macro_rules | `(tactic| walk_at "subscriptTail Name BinOp str int") => `(tactic| (refine item_val (by assumption) (by omega) (by omega) (by assumption) ?_; intro t4 k4))
local macro_rules | `(tactic| walk_at "call builtin:str.rstrip") => `(tactic| (refine call_rstrip (by assumption) (by assumption) ?_; intro t6 k6))
local macro_rules | `(tactic| walk_at "call builtin:str.splitlines") => `(tactic| (refine call_lines (by assumption) (by assumption) (by assumption) (by assumption) (by assumption) ?_; intro h5 F5 N5))
local macro_rules | `(tactic| walk_at "call ref") => `(tactic| ((with_reducible show wpAny _ _ (call (Value.ref 89) _) _ _ _); (rw [show Txt.slice _ _ _ = tx _ from by assumption]); refine pure_use (c_unquoteP (kk_at (by assumption) (by assumption)) (tt_at (by assumption) (by assumption)) (by assumption) (by assumption) (by assumption)) (by assumption) (by assumption) ?_; intro t8 h8 tk8 F8 N8 st8; (try dsimp only)))
set_option maxHeartbeats 4000000 in
theorem c_decode {its : List (Bool × Nat)} {t : Tok} (X : (KK w.params).In s.heap) (T : TopRead qP looseQ mg mb s.heap) (hc : ∀ i ∈ its, i.2 < 256) (hl : (spell its).length ≤ 1000000) (hn : its ≠ []) (hh : A.handled = none) (hd : A.depth + 1 < recursionLimit) :
    PureC prog w A s (.ref 109) [.str (tx (spell its)) t] (fun t => .str (tx (decT its)) t) := by
  intro Q E hq
  refine enter_fn 28 109 (.ref 102) (.str (Str.ofString "cpy313.email.quoprimime") 1401) 108 (binds := [(Str.ofString "encoded", .str (tx (spell its)) t), (Str.ofString "eol", .str (Str.ofString "\n") 356)]) X T rfl rfl rfl (by omega) (binds_K X rfl (o := o102) rfl rfl rfl rfl) (by decide) (locs rfl) rfl rfl rfl ?_
  intro h₁ F
  have N := news_nil (h₀ := s.heap) (h := h₁) (L := s.heap.objs.size)
  have hd' : (A.deeper (fEnv 28 s.heap.objs.size 109 (.ref 108))).depth < recursionLimit := hd
  have hsg : ∀ c ∈ spell its, Sgn c := spell_signs its hc
  have hne : spell its ≠ [] := by
    cases its with
    | nil => exact absurd rfl hn
    | cons i r => show sp1 i ++ spell r ≠ []; unfold sp1; split <;> simp
  have hzs : (tx (spell its)).length ≤ 1000000 := hl
  have hzd : (tx (decT its ++ [10])).length ≤ 1000001 := by
    show (decT its ++ [10]).length ≤ 1000001
    rw [List.length_append, List.length_singleton]
    have := decT_le its
    omega
  have hpos : 0 < (tx (spell its)).length := List.length_pos_iff.mpr hne
  k_steps
  rotate_left 1
  · exfalso; omega
  rename Fr _ _ _ _ => F7
  rename News _ _ _ _ => N7
  refine Iter_listV (items := #[.str (tx (spell its)) t]) hh (News.isList N7 (.head _)) ?_ F7 (news_nil (L := s.heap.objs.size)) (fun i m' news' => news' = [] ∧ ((i = 0 ∧ m' = fun y => if y = Str.ofString "decoded" then some (.str (tx []) tk) else decB its t y) ∨ (i = 1 ∧ ∃ td lv iv nv cv, m' = MM (decB its t) (some (.str (tx (decT its ++ [10])) td)) lv iv nv cv))) ⟨rfl, .inl ⟨rfl, rfl⟩⟩ ?_ ?_
  · intro e
    exact (N7 _ (.head _)).2.1 e
  · intro i v m₁ news₁ s₁ own hs hi hv hJ hoff hls F₁ N₁ _
    obtain ⟨h2, tk2, rfl⟩ := hs
    obtain ⟨rfl, hJ⟩ := hJ
    have hi0 : i = 0 := Nat.lt_one_iff.mp hi
    subst hi0
    obtain ⟨_, rfl⟩ : True ∧ m₁ = fun y => if y = Str.ofString "decoded" then some (.str (tx []) tk) else decB its t y := by
      rcases hJ with ⟨_, e⟩ | ⟨e, _⟩
      · exact ⟨trivial, e⟩
      · cases e
    obtain rfl : Value.str (tx (spell its)) t = v := Option.some.inj hv
    clear F7 N7 hJ hv
    have hWJ : WhileJ (decJ its t own) := trivial
    k_steps
    · have hu0 : units its ≠ [] := fun e => hne (by rw [← spU_units, e]; rfl)
      refine ⟨_, rfl, [], units its, ?ti, ?td, ?tl, ?tn, none, rfl, rfl, (begin_MM _ _ _ _ _ _ _ rfl).trans ?eq⟩
      case eq => rw [if_neg hu0]; rfl
    · unfold WTurn
      intro k m₁ news₁ h₁ tk₁ F₁ N₁ hJ
      obtain ⟨rfl, pre, rest, ti, td, tl, tn, cv, hu, rfl, rfl⟩ := hJ
      have hsp : spell its = spU pre ++ spU rest := by rw [← spU_units, hu]; exact List.flatMap_append
      have hdc : decT its = pre.map (·.2) ++ rest.map (·.2) := by rw [← dec_units, hu, List.map_append]
      have hln : (spell its).length = (spU pre).length + (spU rest).length := by rw [hsp, List.length_append]
      cases rest with
      | nil =>
        have h0 : (spU ([] : List (Bool × Nat))).length = 0 := rfl
        k_steps
        exact LoopStepU.intro F₁ N₁ (fun _ h => nomatch h) ⟨rfl, .inr ⟨by first | trivial | rfl, td, _, _, _, _, MM_d _ _ _ _ _ _ _ (by rw [hdc]; simp)⟩⟩
      | cons i r =>
        obtain ⟨q, c⟩ := i
        rw [if_neg (List.cons_ne_nil _ _), List.append_nil] at F₁
        have hzp : (tx (pre.map (·.2))).length ≤ 1000000 := by
          show (pre.map (·.2)).length ≤ 1000000
          have e9 := decT_le its
          rw [hdc, List.length_append] at e9
          omega
        have hok := units_ok its hc (q, c) (by rw [hu]; simp)
        have hpre : (spU (pre ++ [(q, c)])).length = (spU pre).length + (su1 (q, c)).length := by
          show (List.flatMap su1 _).length = _
          rw [List.flatMap_append, List.length_append]
          simp [spU]
        have hrl : (spU ((q, c) :: r)).length = (su1 (q, c)).length + (spU r).length := by
          show (List.flatMap su1 _).length = _
          rw [List.flatMap_cons, List.length_append]; rfl
        cases q with
        | false =>
          have hs1 : (su1 (false, c)).length = 1 := rfl
          have hit : Txt.item (tx (spell its)) ((spU pre).length : Nat) = ⟨#[c]⟩ := by
            rw [item_at _ _ (by omega)]
            congr 2
            simp only [hsp]
            rw [List.getElem_append_right (Nat.le_refl _)]
            simp [spU, su1]
          have hne1 : ((⟨#[c]⟩ : Str) != Str.ofString "=") = true := by
            have h61 := (hok.2 rfl).2
            have e61 : Str.ofString "=" = ⟨#[61]⟩ := by decide
            rw [e61, bne_iff_ne]
            intro e
            injection e with e
            simp at e
            exact h61 e
          k_steps
          · rename Fr _ _ _ _ => FF
            rename News _ _ _ _ => NN
            exact fin_nl FF NN hu rfl (by rw [hpre, hs1]; rfl) (len0 (by omega))
          · rename Fr _ _ _ _ => FF
            rename News _ _ _ _ => NN
            exact fin_no FF NN hu rfl (by rw [hpre, hs1]; rfl) (fun e => by
              subst e
              have h0 : (spU ([] : List (Bool × Nat))).length = 0 := rfl
              omega)
        | true =>
          have hs1 : (su1 (true, c)).length = 3 := rfl
          have h256 := hok.1 rfl
          have hl3 : spell its = spU pre ++ ([61, hexD (c / 16), hexD (c % 16)] ++ spU r) := hsp
          have hget : ∀ j (hj : j < 3), Txt.item (tx (spell its)) (((spU pre).length + j : Nat) : Int) = ⟨#[[61, hexD (c / 16), hexD (c % 16)][j]]⟩ := by
            intro j hj
            rw [item_at _ _ (by omega)]
            congr 2
            simp only [hl3]
            rw [List.getElem_append_right (by omega), List.getElem_append_left (by simp; omega)]
            simp only [Nat.add_sub_cancel_left]
          have hit : Txt.item (tx (spell its)) ((spU pre).length : Nat) = ⟨#[61]⟩ := hget 0 (by omega)
          have hit1 : Txt.item (tx (spell its)) (((spU pre).length : Nat) + 1) = ⟨#[hexD (c / 16)]⟩ := hget 1 (by omega)
          have hit2 : Txt.item (tx (spell its)) (((spU pre).length : Nat) + 2) = ⟨#[hexD (c % 16)]⟩ := hget 2 (by omega)
          have hsl : Txt.slice (tx (spell its)) (some ((spU pre).length : Nat)) (some (((spU pre).length : Nat) + 3)) = tx [61, hexD (c / 16), hexD (c % 16)] := by
            have := slice_ss (l := spell its) (a := (spU pre).length) (b := (spU pre).length + 3) (by omega) (by omega)
            rw [show ((((spU pre).length + 3 : Nat)) : Int) = ((spU pre).length : Nat) + 3 from by omega] at this
            rw [this, hl3]
            congr 1
            simp
          have hx : c / 16 < 16 := by omega
          have hy : c % 16 < 16 := by omega
          have hne1 : ¬ ((⟨#[61]⟩ : Str) != Str.ofString "=") = true := by decide
          have hz8 : (tx [16 * (c / 16) + c % 16]).length = 1 := rfl
          have hin1 := hex_in (c / 16) hx
          have hin2 := hex_in (c % 16) hy
          k_steps
          all_goals first
            | (exfalso; omega)
            | (rename (Str.occurrences _ _ _ _ _).isEmpty = true => e9; exfalso; first | (rw [hin2] at e9; cases e9) | (rw [hin1] at e9; cases e9))
            | skip
          · rename Fr _ _ _ _ => FF
            rename News _ _ _ _ => NN
            exact fin_nl FF NN hu (by rw [show 16 * (c / 16) + c % 16 = c from by omega]) (by rw [hpre, hs1]; rfl) (len0 (by omega))
          · rename Fr _ _ _ _ => FF
            rename News _ _ _ _ => NN
            exact fin_no FF NN hu (by rw [show 16 * (c / 16) + c % 16 = c from by omega]) (by rw [hpre, hs1]; rfl) (fun e => by
              subst e
              have h0 : (spU ([] : List (Bool × Nat))).length = 0 := rfl
              omega)
    · exfalso; omega
  · intro h' tk' m' news' F' N' hJ
    obtain ⟨rfl, hJ⟩ := hJ
    obtain ⟨td, lv, iv, nv, cv, rfl⟩ : ∃ td lv iv nv cv, m' = MM (decB its t) (some (.str (tx (decT its ++ [10])) td)) lv iv nv cv := by
      rcases hJ with ⟨e, _⟩ | ⟨_, e⟩
      · cases e
      · exact e
    k_steps
    · rename Fr _ _ _ _ => FF
      rw [slice_last]
      exact hq _ _ _ FF.keep
    · rename Txt.endswith _ _ = false => e9
      rw [ends_nl] at e9
      cases e9
    · rename (Str.occurrences _ _ _ _ _).isEmpty = false => e9
      rw [not_nl _ hne hsg] at e9
      cases e9
end
end Mine
end
theorem Mine.anewD1 : True := by first | walk1 | trivial
section
open PySem PySem.W PyProof.Rows
open PySem.Builtin
namespace Mine
theorem stays_lt (k : Nat) : ∀ (ms : List Int) (p : Nat), p < staysT k ms → p < ms.length ∧ bitOf (ms.getD p 0) k = 1
  | [], p, h => absurd h (Nat.not_lt_zero _)
  | m :: ms, p, h => by
    unfold staysT at h
    split at h
    · rename_i hb
      cases p with
      | zero => exact ⟨by simp, hb⟩
      | succ p =>
        have := stays_lt k ms p (by omega)
        exact ⟨by simp only [List.length_cons]; omega, by simpa using this.2⟩
    · exact absurd h (Nat.not_lt_zero _)
theorem stays_end (k : Nat) : ∀ ms : List Int, staysT k ms < ms.length → bitOf (ms.getD (staysT k ms) 0) k ≠ 1
  | [], h => absurd h (Nat.not_lt_zero _)
  | m :: ms, h => by
    by_cases hb : bitOf m k = 1
    · have e : staysT k (m :: ms) = staysT k ms + 1 := by rw [staysT, if_pos hb]
      rw [e] at h ⊢
      have := stays_end k ms (by simp only [List.length_cons] at h; omega)
      simpa using this
    · have e : staysT k (m :: ms) = 0 := by rw [staysT, if_neg hb]
      rw [e]
      simpa using hb
theorem over1 (x : Str) (a b : Option Value) (f : Str → Option Value) : (fun y => if y = x then a else if y = x then b else f y) = fun y => if y = x then a else f y := by
  funext y
  by_cases e : y = x <;> simp [e]
section
variable {prog : Program} {w : World} {A : Around} {E : Value → Shared → Prop} {s : Shared}
theorem len_ms {l : Addr} {vs : List Value} {ms : List Int} {Q : Value → Shared → Prop} (hl : s.heap.IsList l vs.toArray) (hi : IntsAre vs ms) (hz : ms.length ≤ 100) (h : ∀ t k, Q (.int ms.length t) { s with toks := k }) : wpAny (model prog w) A (call (.builtin "len") [.ref l]) Q E s := by
  have e : vs.toArray.size = ms.length := by have := ints_size hi; omega
  refine len_list hl (by rw [e]; omega) ?_
  rw [e]
  exact h _ _
theorem item_ms {value slice : Expr} {l : Addr} {vs : List Value} {ms : List Int} {p : Nat} {u : Tok} {Q : Value → Shared → Prop} (hl : s.heap.IsList l vs.toArray) (hi : IntsAre vs ms) (hz : ms.length ≤ 100) (hp : p < ms.length) (h : ∀ t, Q (.int (ms.getD p 0) t) s)
    (hs : subscripted slice false (.ref l) (.int p u) = operate [.ref l, .int p u] (getItem (.ref l) (.int p u)) := by with_unfolding_all rfl) (hg : ∀ r, letTemporaryGo value (.ref l) r = pure () := by intro _; with_unfolding_all rfl) :
    wpAny (model prog w) A (subscriptTail value slice (.ref l) (.int p u)) Q E s :=
  item_list_ints hl hi (by omega) (by omega) (by omega) (fun t => h t) hs hg
theorem pow2_ne (k : Nat) : (2 : Int) ^ k ≠ 0 := Int.ne_of_gt (Int.pow_pos (by decide))
theorem pow_two {k : Nat} {t u : Tok} {Q : Value → Shared → Prop} (hk : k < 100) (h : Q (.int (2 ^ k) s.toks) { s with toks := s.toks + 1 }) : wpAny (model prog w) A (binaryOp .Pow (.int 2 t) (.int k u)) Q E s :=
  pow_int_small (by omega) (by omega) (by decide) h
theorem fdiv_two {a : Int} {k : Nat} {t u : Tok} {Q : Value → Shared → Prop} (hk : k < 30) (h : Q (.int (a.fdiv (2 ^ k)) s.toks) { s with toks := s.toks + 1 }) : wpAny (model prog w) A (binaryOp .FloorDiv (.int a t) (.int (2 ^ k) u)) Q E s :=
  floordiv_int (pow2_ne k) h (.inl (PyProof.noPylong_small (by
    rw [Int.natAbs_pow]
    exact Nat.pow_lt_pow_right (by decide) hk)))
end
section
variable {prog : Program} {w : World} {A : Around} {s : Shared} {mg mb : Str → Option Value} {E Q : Value → Shared → Prop}
local macro_rules | `(tactic| walk_at "binaryOp Pow int int") => `(tactic| (refine pow_two (by omega) ?_))
local macro_rules | `(tactic| walk_at "binaryOp FloorDiv int int") => `(tactic| (refine fdiv_two (by omega) ?_))
local macro_rules | `(tactic| walk_at "exec While") => `(tactic| ((rename WhileJ _ => hWJ); (refine While_hand hWJ (by assumption) (by assumption) ?_ ?_)))
local macro_rules | `(tactic| walk_at "exec") => `(tactic| ((with_reducible show wpAny _ _ (exec (Stmt.While _ _ [] _) _) _ _ _); (rename WhileJ _ => hWJ); (refine While_hand hWJ (by assumption) (by assumption) ?_ ?_)))
local macro_rules | `(tactic| walk_at "call builtin:len") => `(tactic| (refine len_ms (Fr.lst (by assumption) (by assumption)) (by assumption) (by assumption) ?_; intro t4 k4))
local macro_rules | `(tactic| walk_at "subscriptTail Name Name ref int") => `(tactic| (refine item_ms (Fr.lst (by assumption) (by assumption)) (by assumption) (by assumption) (by omega) ?_; intro t4))
noncomputable def stB (k : Nat) (u : Tok) (l : Addr) : Str → Option Value := fun x => List.lookup x [(Str.ofString "kind", .int k u), (Str.ofString "masks", .ref l)].reverse
noncomputable def stJ (k : Nat) (u : Tok) (l : Addr) (ms : List Int) (n : Nat) (m : Str → Option Value) (news : List (Addr × Obj)) : Prop :=
  news = [] ∧ ∃ (p : Nat) (tp : Tok), p ≤ staysT k ms ∧ n = staysT k ms - p ∧ m = fun y => if y = Str.ofString "place" then some (.int p tp) else stB k u l y
set_option maxHeartbeats 4000000 in
theorem c_stays {k : Nat} {u : Tok} {l : Addr} {vs : List Value} {ms : List Int} (X : (KK w.params).In s.heap) (T : TopRead qP looseQ mg mb s.heap) (hl : s.heap.IsList l vs.toArray) (hi : IntsAre vs ms) (hz : ms.length ≤ 100) (hk : k < 16) (hd : A.depth < recursionLimit) :
    PureC prog w A s (.ref 139) [.int k u, .ref l] (fun t => .int (staysT k ms) t) := by
  intro Q E hq
  refine enter_fn 35 139 .none (.str (Str.ofString "law_op0047_01") 1965) 138 (binds := [(Str.ofString "kind", .int k u), (Str.ofString "masks", .ref l)]) X T rfl rfl rfl hd (.of_eq rfl) (by decide) (locs rfl) rfl rfl rfl ?_
  intro h₁ F
  have N := news_nil (h₀ := s.heap) (h := h₁) (L := s.heap.objs.size)
  have hWJ : WhileJ (stJ k u l ms) := trivial
  k_steps
  · exact ⟨_, rfl, 0, _, Nat.zero_le _, rfl, rfl⟩
  · intro n m₁ news₁ h₁ tk₁ F₁ N₁ hJ
    obtain ⟨rfl, p, tp, hp, rfl, rfl⟩ := hJ
    have hle := staysT_le k ms
    by_cases hlt : p < staysT k ms
    · obtain ⟨h1, h2⟩ := stays_lt k ms p hlt
      unfold bitOf at h2
      k_steps
      · rename Fr _ _ _ _ => FF
        rename News _ _ _ _ => NN
        refine ⟨_, _, _, _, staysT k ms - (p + 1), rfl, FF, NN, by omega, rfl, p + 1, _, hlt, rfl, over1 _ _ _ _⟩
      · exfalso; omega
    · have hpe : p = staysT k ms := by omega
      have h3 : p < ms.length → Int.fmod ((ms.getD p 0).fdiv (2 ^ k)) 2 ≠ 1 := fun h => by
        rw [hpe] at h ⊢
        exact stays_end k ms h
      by_cases hpl : p < ms.length
      · have h4 := h3 hpl
        k_steps
        · exfalso; omega
        · rename Fr _ _ _ _ => FF
          rw [hpe]
          exact hq _ _ _ FF.keep
      · k_steps
        rename Fr _ _ _ _ => FF
        rw [hpe]
        exact hq _ _ _ FF.keep
end
end Mine
end
theorem Mine.anewL1 : True := by first | walk1 | trivial
section
open PySem PySem.W PyProof.Rows
open PySem.Builtin
namespace Mine
noncomputable def ForV : Prop := True
section
variable {prog : Program} {w : World} {A : Around} {E : Value → Shared → Prop} {s : Shared}
theorem For_V {E : Value → Shared → Prop} {Q : Flow → Shared → Prop} {env : Env} {h₀ : Heap} {L : Addr} {m : Str → Option Value} {x : Str} {px pos : Pos} {iter : Expr} {body : List Stmt} (_h : ForV) (_F : Fr h₀ L s.heap m) (hx : env.kindOf x = some .local)
    (hp : (env.scope.kind == .class || (env.scope.kind == .module && env.locals != env.globals)) = false)
    (h : wpAny (model prog w) A (PySem.eval iter env) (fun xv s₁ => wpAny (model prog w) A (pyIter xv) (fun it s₂ => LoopAtV prog w A h₀ env x body Q E it s₂) E s₁) E s)
    (hs : ∀ x, foldedSetIterable iter env x = pure x := by intro _; rfl)
    (hE : PassesOwn (model prog w) A env E := by passes_own) :
    wpAny (model prog w) A (exec (.For (.Name x px) iter body [] pos) env) Q E s := For_invV h₀ hx hp h hs hE
end
theorem lt_of_list {h : Heap} {l : Addr} {items : Array Value} (hl : h.IsList l items) : l < h.objs.size := by
  obtain ⟨o, e, _⟩ := hl
  exact Nat.lt_of_not_le fun hle => by rw [Heap.get?_none_of_le hle] at e; cases e
theorem ints_at {vs : List Value} {ms : List Int} {i : Nat} {v : Value} (hi : IntsAre vs ms) (h : i < ms.length) (hv : vs.toArray[i]? = some v) : ∃ tv, v = .int (ms.getD i 0) tv := by
  obtain ⟨t, ht⟩ := hi.get i (ms.getD i 0) (by simp [h])
  refine ⟨t, ?_⟩
  rw [List.getElem?_toArray, ht] at hv
  exact (Option.some.inj hv).symm
theorem pow_le_10 {n : Nat} (h : n ≤ 10) : (2 : Int) ^ n ≤ 2 ^ 10 := by
  have := Nat.pow_le_pow_right (n := 2) (by decide) h
  exact_mod_cast this
theorem threes_step (d : Nat) (n : Int) (ms : List Int) (m : Int) : threesT d n (ms ++ [m]) = threesT d n ms * (2 - bitOf m 3) + 1 - bitOf m d := by
  unfold threesT; rw [List.foldl_append]; rfl
theorem threes_bound (d : Nat) : ∀ (ms : List Int) (n : Int), 0 ≤ n → 0 ≤ threesT d n ms ∧ threesT d n ms + 1 ≤ (n + 1) * 2 ^ ms.length
  | [], n, h => ⟨h, by simp [threesT]⟩
  | m :: ms, n, h => by
    have e : threesT d n (m :: ms) = threesT d (n * (2 - bitOf m 3) + 1 - bitOf m d) ms := rfl
    have h1 : 0 ≤ n * (2 - bitOf m 3) + 1 - bitOf m d ∧ n * (2 - bitOf m 3) + 1 - bitOf m d + 1 ≤ 2 * (n + 1) := by
      rcases bitOf_two m 3 with a | a <;> rcases bitOf_two m d with b | b <;> rw [a, b] <;> omega
    have := threes_bound d ms _ h1.1
    rw [e]
    refine ⟨this.1, Int.le_trans this.2 ?_⟩
    rw [List.length_cons, Int.pow_succ, show (n + 1) * (2 ^ ms.length * 2) = 2 * (n + 1) * 2 ^ ms.length from by rw [Int.mul_comm (2 ^ ms.length) 2, ← Int.mul_assoc, Int.mul_comm (n + 1) 2]]
    exact Int.mul_le_mul_of_nonneg_right h1.2 (Int.le_of_lt (Int.pow_pos (by decide)))
theorem upd2 {x z : Str} {a a1 : Int} {ta : Tok} {a' b b' : Option Value} {f : Str → Option Value} (h : a = a1) :
    (fun y => if y = x then some (Value.int a ta) else if y = z then b else if y = x then a' else if y = z then b' else f y) = fun y => if y = x then some (.int a1 ta) else if y = z then b else f y := by
  subst h
  funext y
  by_cases e : y = x
  · simp [e]
  · by_cases e' : y = z
    · simp [e']
    · simp [e, e']
theorem take_snoc (ms : List Int) (i : Nat) (h : i < ms.length) : ms.take (i + 1) = ms.take i ++ [ms.getD i 0] := by
  rw [List.take_succ_eq_append_getElem h]
  simp [h]
theorem str_ext {a : Str} {l : List Nat} (h : a.cps.toList = l) : a = tx l := by
  subst h
  rfl
theorem digit_text (d : Nat) (ms : List Int) (h : d < 10) : Txt.mul (Str.ofString "3") (threesT d 0 ms) ++ Txt.item (Str.ofString "0123456789") (d : Int) = tx (digitT d ms) := by
  have e1 : Txt.mul (Str.ofString "3") (threesT d 0 ms) = tx (List.replicate (threesT d 0 ms).toNat 51) := by
    rw [show Str.ofString "3" = ⟨#[51]⟩ from by decide]
    have := mul_one_list 51 (threesT d 0 ms)
    exact str_ext this
  have e2 : ∀ d : Fin 10, Txt.item (Str.ofString "0123456789") (d.1 : Int) = tx [48 + d.1] := by decide +kernel
  rw [e1, e2 ⟨d, h⟩, tx_app]
  rfl
theorem beg2 {x z : Str} {a : Option Value} {f : Str → Option Value} (hz : f z = none) (hxz : x ≠ z) : (fun y => if y = x then a else f y) = fun y => if y = x then a else if y = z then none else f y := by
  funext y
  by_cases e : y = x
  · simp [e]
  · by_cases e' : y = z
    · subst e'; simp [hz]
    · simp [e']
section
variable {prog : Program} {w : World} {A : Around} {s : Shared} {mg mb : Str → Option Value} {E Q : Value → Shared → Prop}
local macro_rules | `(tactic| walk_at "exec For") => `(tactic| (with_unfolding_all ((rename Fr _ _ _ _ => F'); (rename ForV => V'); (refine For_V V' F' (by rfl) (by rfl) ?_))))
local macro_rules | `(tactic| walk_at "binaryOp Pow int int") => `(tactic| (refine pow_two (by omega) ?_))
local macro_rules | `(tactic| walk_at "binaryOp FloorDiv int int") => `(tactic| (refine fdiv_two (by omega) ?_))
noncomputable def dgB (d : Nat) (u : Tok) (l : Addr) : Str → Option Value := fun x => List.lookup x [(Str.ofString "digit", .int d u), (Str.ofString "masks", .ref l)].reverse
theorem beg_dg (d : Nat) (u : Tok) (l : Addr) (ms : List Int) (tt : Tok) : (fun y => if y = Str.ofString "threes" then some (.int 0 tt) else dgB d u l y) = fun y => if y = Str.ofString "threes" then some (.int (threesT d 0 (ms.take 0)) tt) else if y = Str.ofString "mask" then none else dgB d u l y :=
  beg2 rfl (by decide)
set_option maxHeartbeats 4000000 in
theorem c_digit {d : Nat} {u : Tok} {l : Addr} {vs : List Value} {ms : List Int} (X : (KK w.params).In s.heap) (T : TopRead qP looseQ mg mb s.heap) (hl : s.heap.IsList l vs.toArray) (hi : IntsAre vs ms) (hz : ms.length ≤ 10) (hk : d < 10) (hh : A.handled = none) (hd : A.depth < recursionLimit) :
    PureC prog w A s (.ref 146) [.int d u, .ref l] (fun t => .str (tx (digitT d ms)) t) := by
  intro Q E hq
  refine enter_fn 36 146 .none (.str (Str.ofString "law_op0047_01") 1965) 145 (binds := [(Str.ofString "digit", .int d u), (Str.ofString "masks", .ref l)]) X T rfl rfl rfl hd (.of_eq rfl) (by decide) (locs rfl) rfl rfl rfl ?_
  intro h₁ F
  have N := news_nil (h₀ := s.heap) (h := h₁) (L := s.heap.objs.size)
  have hFV : ForV := trivial
  k_steps
  rename Fr _ _ _ _ => F7
  have hlt : l < s.heap.objs.size := lt_of_list hl
  refine Iter_listV (items := vs.toArray) hh (F7.lst hl) (Nat.ne_of_lt hlt) F7 (news_nil (L := s.heap.objs.size)) (fun i m' news' => news' = [] ∧ ∃ tt mv, m' = fun y => if y = Str.ofString "threes" then some (.int (threesT d 0 (ms.take i)) tt) else if y = Str.ofString "mask" then mv else dgB d u l y) ⟨rfl, _, none, beg_dg d u l ms _⟩ ?_ ?_
  · intro i v m₁ news₁ s₁ own hs hiv hv hJ hoff hls F₁ N₁ _
    obtain ⟨h2, tk2, rfl⟩ := hs
    obtain ⟨rfl, tt, mv, rfl⟩ := hJ
    have hil : i < ms.length := by have := ints_size hi; omega
    obtain ⟨tv, rfl⟩ : ∃ tv, v = .int (ms.getD i 0) tv := ints_at hi hil hv
    have hb := threes_bound d (ms.take i) 0 (by omega)
    have hb2 : (2 : Int) ^ (ms.take i).length ≤ 2 ^ 10 := pow_le_10 (by rw [List.length_take]; omega)
    k_steps
    rename Fr _ _ _ _ => FF
    rename News _ _ _ _ => NN
    refine LoopStepU.intro FF NN (fun _ h => nomatch h) ⟨rfl, _, _, upd2 ?_⟩
    rw [take_snoc ms i hil, threes_step]
    rfl
  · intro h' tk' m' news' F' N' hJ
    obtain ⟨rfl, tt, mv, rfl⟩ := hJ
    have e9 : ms.take vs.toArray.size = ms := by
      have := ints_size hi
      exact List.take_of_length_le (by omega)
    rw [e9] at F'
    have hb := threes_bound d ms 0 (by omega)
    have hb2 : (2 : Int) ^ ms.length ≤ 2 ^ 10 := pow_le_10 hz
    k_steps
    rename Fr _ _ _ _ => FF
    rw [digit_text d ms hk]
    exact hq _ _ _ FF.keep
end
end Mine
end
theorem Mine.anewL2 : True := by first | walk1 | trivial
section
open PySem PySem.W PyProof.Rows
open PySem.Builtin
namespace Mine
theorem digitT_len (d : Nat) (ms : List Int) (h : ms.length ≤ 10) : (tx (digitT d ms)).length ≤ 2000 := by
  show (digitT d ms).length ≤ 2000
  have h1 := threes_bound d ms 0 (by omega)
  have h2 := pow_le_10 h
  unfold digitT
  rw [List.length_append, List.length_replicate, List.length_singleton]
  omega
theorem abc_item (v : Nat) (h : 10 ≤ v) (h2 : v < 16) : Txt.item (Str.ofString "ABCDEF") ((v : Int) - 10) = tx [55 + v] := by
  have e : ∀ d : Fin 6, Txt.item (Str.ofString "ABCDEF") (d.1 : Int) = tx [65 + d.1] := by decide +kernel
  have := e ⟨v - 10, by omega⟩
  rw [show ((v : Int) - 10) = ((v - 10 : Nat) : Int) from by omega, this]
  rw [show 65 + (v - 10) = 55 + v from by omega]
section
variable {prog : Program} {w : World} {A : Around} {E : Value → Shared → Prop} {s : Shared}
theorem slice_from {value slice : Expr} {l : Addr} {vs : List Value} {ms : List Int} {vl : Value} {x : Int} {k : Nat} {Q : Value → Shared → Prop} {h₀ : Heap} {L : Addr} {m : Str → Option Value} {news : List (Addr × Obj)}
    (F : Fr h₀ L s.heap m) (N : News h₀ L s.heap news) (hl : s.heap.IsList l vs.toArray) (hi : IntsAre vs ms) (hz : ms.length ≤ 100) (pl : IsPart vl (some x)) (hx : x = (k : Nat))
    (h : ∀ h' D vs', Fr h₀ L h' m → News h₀ L h' ((D, { cls := .type "list", data := .seq vs'.toArray }) :: news) → IntsAre vs' (ms.drop k) → Q (.ref D) { s with heap := h' })
    (hs : subscripted slice false (.ref l) (.ref s.heap.objs.size) = operate [.ref s.heap.objs.size, .ref l] (getItem (.ref l) (.ref s.heap.objs.size)) := by with_unfolding_all rfl)
    (ht : ∀ r, letTemporaryGo value (.ref l) r = pure () := by intro _; with_unfolding_all rfl) :
    wpAny (model prog w) A (subscriptTail value slice (.ref l) (.ref s.heap.objs.size)) Q E { s with heap := s.heap.push { cls := .type "slice", data := .fields #[vl, .none, .none] } } := by
  subst hx
  refine slice_list F N hl pl .none (fun h' F' N' => ?_) hs ht (by have := ints_size hi; rw [sizeLine_eq]; omega)
  have e := slice_ints_fromW hi (x := (k : Int)) (by omega)
  rw [Int.toNat_natCast] at e
  refine h h' _ (slicePick vs.toArray (some (k : Int)) none none).toList F' ?_ e
  rw [Array.toArray_toList]
  exact N'
theorem sub9 {a : Nat} {t u : Tok} {Q : Value → Shared → Prop} (h9 : 9 ≤ a) (h : ∀ t' k, Q (.int ((a - 9 : Nat) : Int) t') { s with toks := k }) : wpAny (model prog w) A (binaryOp .Sub (.int (a : Nat) t) (.int 9 u)) Q E s := by
  refine sub_int ?_
  rw [show ((a : Nat) : Int) - 9 = ((a - 9 : Nat) : Int) from by omega]
  exact h _ _
theorem add1 {a : Nat} {t u : Tok} {Q : Value → Shared → Prop} (h : ∀ t' k, Q (.int ((a + 1 : Nat) : Int) t') { s with toks := k }) : wpAny (model prog w) A (binaryOp .Add (.int (a : Nat) t) (.int 1 u)) Q E s := by
  refine add_int ?_
  exact h _ _
end
section
variable {prog : Program} {w : World} {A : Around} {s : Shared} {mg mb : Str → Option Value} {E Q : Value → Shared → Prop}
local macro_rules | `(tactic| walk_at "binaryOp Sub int int") => `(tactic| (refine sub9 (by omega) ?_; intro t4 k4))
local macro_rules | `(tactic| walk_at "binaryOp Add int int") => `(tactic| (refine add1 ?_; intro t4 k4))
local macro_rules | `(tactic| walk_at "call builtin:len") => `(tactic| (refine len_ms (Fr.lst (by assumption) (by assumption)) (by assumption) (by omega) ?_; intro t4 k4))
local macro_rules | `(tactic| walk_at "subscriptTail Name Slice ref ref") => `(tactic| (refine slice_from (by assumption) (by assumption) (Fr.lst (by assumption) (by assumption)) (by assumption) (by omega) (.int _ _) rfl ?_; intro h4 D4 v4 F4 N4 I4))
local macro_rules | `(tactic| walk_at "call ref") => `(tactic| ((with_reducible show wpAny _ _ (call (Value.ref 139) _) _ _ _); refine pure_use (c_stays (kk_at (by assumption) (by assumption)) (tt_at (by assumption) (by assumption)) (Fr.lst (by assumption) (by assumption)) (by assumption) (by omega) (by omega) (by assumption)) (by assumption) (by assumption) ?_; intro t8 h8 tk8 F8 N8 st8; (try dsimp only)))
local macro_rules | `(tactic| walk_at "call ref") => `(tactic| ((with_reducible show wpAny _ _ (call (Value.ref 146) _) _ _ _); refine pure_use (c_digit (kk_at (by assumption) (by assumption)) (tt_at (by assumption) (by assumption)) (by first | exact Fr.lst (by assumption) (by assumption) | exact News.isList (by assumption) (.head _)) (by assumption) (by first | assumption | (rw [List.length_drop]; omega)) (by omega) (by assumption) (by assumption)) (by assumption) (by assumption) ?_; intro t8 h8 tk8 F8 N8 st8; (try dsimp only)))
theorem c_digit4 {u : Tok} {l : Addr} {vs : List Value} {ms : List Int} (X : (KK w.params).In s.heap) (T : TopRead qP looseQ mg mb s.heap) (hl : s.heap.IsList l vs.toArray) (hi : IntsAre vs ms) (hz : ms.length ≤ 10) (hh : A.handled = none) (hd : A.depth < recursionLimit) :
    PureC prog w A s (.ref 146) [.int 4 u, .ref l] (fun t => .str (tx (digitT 4 ms)) t) := c_digit (d := 4) X T hl hi hz (by decide) hh hd
local macro_rules | `(tactic| walk_at "call ref") => `(tactic| ((with_reducible show wpAny _ _ (call (Value.ref 146) [Value.int 4 _, _]) _ _ _); refine pure_use (c_digit4 (kk_at (by assumption) (by assumption)) (tt_at (by assumption) (by assumption)) (News.isList (by assumption) (.head _)) (by assumption) (by rw [List.length_drop]; omega) (by assumption) (by assumption)) (by assumption) (by assumption) ?_; intro t8 h8 tk8 F8 N8 st8; (try dsimp only)))
set_option maxHeartbeats 4000000 in
theorem c_figure {v : Nat} {u : Tok} {l : Addr} {vs : List Value} {ms : List Int} (X : (KK w.params).In s.heap) (T : TopRead qP looseQ mg mb s.heap) (hl : s.heap.IsList l vs.toArray) (hi : IntsAre vs ms) (hz : ms.length ≤ 10) (hv : v < 16) (hh : A.handled = none) (hd : A.depth + 1 < recursionLimit) :
    PureC prog w A s (.ref 153) [.int v u, .ref l] (fun t => .str (tx (figureT v ms)) t) := by
  intro Q E hq
  refine enter_fn 37 153 .none (.str (Str.ofString "law_op0047_01") 1965) 152 (binds := [(Str.ofString "value", .int v u), (Str.ofString "masks", .ref l)]) X T rfl rfl rfl (by omega) (.of_eq rfl) (by decide) (locs rfl) rfl rfl rfl ?_
  intro h₁ F
  have N := news_nil (h₀ := s.heap) (h := h₁) (L := s.heap.objs.size)
  have hd' : (A.deeper (fEnv 37 s.heap.objs.size 153 (.ref 152))).depth < recursionLimit := hd
  have hh' : (A.deeper (fEnv 37 s.heap.objs.size 153 (.ref 152))).handled = none := hh
  by_cases h10 : v < 10
  · k_steps
    rename Fr _ _ _ _ => FF
    have e : figureT v ms = digitT v ms := by rw [figureT, if_pos h10]
    rw [← e]
    exact hq _ _ _ FF.keep
  · have hz4 := digitT_len 4 (ms.drop (staysT (v - 9) ms + 1)) (by rw [List.length_drop]; omega)
    have hz5 := digitT_len (v - 9) (ms.drop (staysT (v - 9) ms + 1)) (by rw [List.length_drop]; omega)
    k_steps
    · rename Fr _ _ _ _ => FF
      have e : tx (figureT v ms) = Txt.item (Str.ofString "ABCDEF") ((v : Int) - 10) := by
        rw [figureT, if_neg h10, if_pos (by omega)]
        exact (abc_item v (by omega) hv).symm
      rw [← e]
      exact hq _ _ _ FF.keep
    · rename Fr _ _ _ _ => FF
      rw [tx_app]
      have e : figureT v ms = digitT 4 (ms.drop (staysT (v - 9) ms + 1)) ++ digitT (v - 9) (ms.drop (staysT (v - 9) ms + 1)) := by
        rw [figureT, if_neg h10, if_neg (by omega)]
      rw [← e]
      exact hq _ _ _ FF.keep
end
end Mine
end
theorem Mine.anewL3 : True := by first | walk1 | trivial
section
open PySem PySem.W PyProof.Rows
open PySem.Builtin
namespace Mine
theorem figureT_len (v : Nat) (ms : List Int) (h : ms.length ≤ 10) : (tx (figureT v ms)).length ≤ 4000 := by
  show (figureT v ms).length ≤ 4000
  unfold figureT
  split
  · have : (digitT v ms).length ≤ 2000 := digitT_len v ms h
    omega
  · split
    · simp
    · rw [List.length_append]
      have h1 : (digitT 4 (ms.drop (staysT (v - 9) ms + 1))).length ≤ 2000 := digitT_len _ _ (by rw [List.length_drop]; omega)
      have h2 : (digitT (v - 9) (ms.drop (staysT (v - 9) ms + 1))).length ≤ 2000 := digitT_len _ _ (by rw [List.length_drop]; omega)
      omega
theorem octetT_len (v : Nat) (ms : List Int) (h : ms.length ≤ 10) : (tx (octetT v ms)).length ≤ 8000 := by
  show (octetT v ms).length ≤ 8000
  unfold octetT
  split
  · simp
  · rw [List.length_append]
    have h1 : (figureT (v / 16) (ms.drop (staysT (v % 16) ms + 1))).length ≤ 4000 := figureT_len _ _ (by rw [List.length_drop]; omega)
    have h2 : (figureT (v % 16) (ms.drop (staysT (v % 16) ms + 1))).length ≤ 4000 := figureT_len _ _ (by rw [List.length_drop]; omega)
    omega
section
variable {prog : Program} {w : World} {A : Around} {E : Value → Shared → Prop} {s : Shared}
theorem mod16 {a : Nat} {t u : Tok} {Q : Value → Shared → Prop} (h : ∀ t' k, Q (.int ((a % 16 : Nat) : Int) t') { s with toks := k }) : wpAny (model prog w) A (binaryOp .Mod (.int (a : Nat) t) (.int 16 u)) Q E s := by
  refine mod_int' (by decide) ?_
  rw [show Int.fmod (a : Int) 16 = ((a % 16 : Nat) : Int) from by rw [Int.fmod_eq_emod_of_nonneg _ (by decide)]; rfl]
  exact h _ _
theorem div16 {a : Nat} {t u : Tok} {Q : Value → Shared → Prop} (h : ∀ t' k, Q (.int ((a / 16 : Nat) : Int) t') { s with toks := k }) : wpAny (model prog w) A (binaryOp .FloorDiv (.int (a : Nat) t) (.int 16 u)) Q E s := by
  refine floordiv_int (by decide) ?_ (.inl (PyProof.noPylong_small (by decide)))
  rw [show Int.fdiv (a : Int) 16 = ((a / 16 : Nat) : Int) from by rw [Int.fdiv_eq_ediv_of_nonneg _ (by decide)]; rfl]
  exact h _ _
end
section
variable {prog : Program} {w : World} {A : Around} {s : Shared} {mg mb : Str → Option Value} {E Q : Value → Shared → Prop}
local macro_rules | `(tactic| walk_at "binaryOp Mod int int") => `(tactic| (refine mod16 ?_; intro t4 k4))
local macro_rules | `(tactic| walk_at "binaryOp FloorDiv int int") => `(tactic| (refine div16 ?_; intro t4 k4))
local macro_rules | `(tactic| walk_at "binaryOp Add int int") => `(tactic| (refine add1 ?_; intro t4 k4))
local macro_rules | `(tactic| walk_at "call builtin:len") => `(tactic| (refine len_ms (Fr.lst (by assumption) (by assumption)) (by assumption) (by omega) ?_; intro t4 k4))
local macro_rules | `(tactic| walk_at "subscriptTail Name Slice ref ref") => `(tactic| (refine slice_from (by assumption) (by assumption) (Fr.lst (by assumption) (by assumption)) (by assumption) (by omega) (.int _ _) rfl ?_; intro h4 D4 v4 F4 N4 I4))
local macro_rules | `(tactic| walk_at "call ref") => `(tactic| ((with_reducible show wpAny _ _ (call (Value.ref 139) _) _ _ _); refine pure_use (c_stays (kk_at (by assumption) (by assumption)) (tt_at (by assumption) (by assumption)) (Fr.lst (by assumption) (by assumption)) (by assumption) (by omega) (by omega) (by assumption)) (by assumption) (by assumption) ?_; intro t8 h8 tk8 F8 N8 st8; (try dsimp only)))
local macro_rules | `(tactic| walk_at "call ref") => `(tactic| ((with_reducible show wpAny _ _ (call (Value.ref 153) _) _ _ _); refine pure_use (c_figure (kk_at (by assumption) (by assumption)) (tt_at (by assumption) (by assumption)) (News.isList (by assumption) (.head _)) (by assumption) (by rw [List.length_drop]; omega) (by omega) (by assumption) (by assumption)) (by assumption) (by assumption) ?_; intro t8 h8 tk8 F8 N8 st8; (try dsimp only)))
set_option maxHeartbeats 4000000 in
theorem c_octet {o : Nat} {u : Tok} {l : Addr} {vs : List Value} {ms : List Int} (X : (KK w.params).In s.heap) (T : TopRead qP looseQ mg mb s.heap) (hl : s.heap.IsList l vs.toArray) (hi : IntsAre vs ms) (hz : ms.length ≤ 10) (ho : o < 256) (hh : A.handled = none) (hd : A.depth + 2 < recursionLimit) :
    PureC prog w A s (.ref 160) [.int o u, .ref l] (fun t => .str (tx (octetT o ms)) t) := by
  intro Q E hq
  refine enter_fn 38 160 .none (.str (Str.ofString "law_op0047_01") 1965) 159 (binds := [(Str.ofString "octet", .int o u), (Str.ofString "masks", .ref l)]) X T rfl rfl rfl (by omega) (.of_eq rfl) (by decide) (locs rfl) rfl rfl rfl ?_
  intro h₁ F
  have N := news_nil (h₀ := s.heap) (h := h₁) (L := s.heap.objs.size)
  have hd' : (A.deeper (fEnv 38 s.heap.objs.size 160 (.ref 159))).depth + 1 < recursionLimit := hd
  have hd2 : (A.deeper (fEnv 38 s.heap.objs.size 160 (.ref 159))).depth < recursionLimit := by omega
  have hh' : (A.deeper (fEnv 38 s.heap.objs.size 160 (.ref 159))).handled = none := hh
  have hz4 := figureT_len (o / 16) (ms.drop (staysT (o % 16) ms + 1)) (by rw [List.length_drop]; omega)
  have hz5 := figureT_len (o % 16) (ms.drop (staysT (o % 16) ms + 1)) (by rw [List.length_drop]; omega)
  k_steps
  · rename Fr _ _ _ _ => FF
    have e : tx (octetT o ms) = ⟨#[((o : Nat) : Int).toNat]⟩ := by
      rw [octetT, if_pos (by omega), Int.toNat_natCast]
      rfl
    rw [← e]
    exact hq _ _ _ FF.keep
  · rename Fr _ _ _ _ => FF
    rw [tx_app]
    have e : octetT o ms = figureT (o / 16) (ms.drop (staysT (o % 16) ms + 1)) ++ figureT (o % 16) (ms.drop (staysT (o % 16) ms + 1)) := by
      rw [octetT, if_neg (by omega)]
    rw [← e]
    exact hq _ _ _ FF.keep
end
end Mine
end
theorem Mine.anewL4 : True := by first | walk1 | trivial
section
open PySem PySem.W PyProof.Rows
open PySem.Builtin
namespace Mine
/-! a function with cells of its own and with a closure -/
section
variable {M : Model} {A : Around} {E : Value → Shared → Prop} {s : Shared}
theorem newEnvC {scope : Scope} {globals : Addr} {closure : List (Str × Addr)} {binds : List (Str × Value)} {qual : Str} {func : Option Addr} {code : Value} {builtins : Addr} {Q : Env → Shared → Prop}
    (hl : ∀ x ∈ binds, scope.names.lookup x.1 = some .local)
    (hQ : ∀ h', h'.Ns s.heap.objs.size (fun x => binds.reverse.lookup x) →
      Heap.SameBut s.heap.objs.size (pushCells (s.heap.push { cls := .type "frame", data := .dict #[] }) scope.names) h' →
      Q (newEnv scope s.heap.objs.size globals (cellsFrom (s.heap.objs.size + 1) scope.names closure) qual func code none builtins) { s with heap := h', toks := s.toks + binds.length })
    (hk : scope.kind = .function := by rfl) :
    wpAny M A (newFunctionEnv scope globals closure binds qual func code none builtins) Q E s := by
  simp only [newFunctionEnv, Option.isSome_none, Bool.false_eq_true, if_false]
  simp only [newEnv] at hQ
  refine wpAny_bind (wpAny_alloc ?_)
  refine wpAny_bind (wpAny_layCells _ (fun name kind cells => by cases hkc : kind == NameKind.cell <;> simp [hkc]) _ _ _ _ ?_)
  rw [show ({ s with heap := s.heap.push { cls := .type "frame", data := .dict #[] } } : Shared).heap.objs.size = s.heap.objs.size + 1 from Heap.size_push ..]
  refine wpAny_bind ?_
  refine wpAny_forIn_list _
      (fun rest _ s' => ∃ done h', binds = done ++ rest ∧ s' = { s with heap := h', toks := s.toks + done.length } ∧
        h'.Ns s.heap.objs.size (fun x => done.reverse.lookup x) ∧
        Heap.SameBut s.heap.objs.size (pushCells (s.heap.push { cls := .type "frame", data := .dict #[] }) scope.names) h') _ ?_ ?_ binds _
      ⟨[], _, rfl, rfl, (Heap.Ns.new s.heap (.type "frame")).keeps (pushCells_keeps _ _), Heap.SameBut.refl ..⟩
  · rintro ⟨name, v⟩ rest _ s' ⟨done, h', hb, rfl, hns, hsb⟩
    have hk' : Env.kindOf { scope, locals := s.heap.objs.size, globals, cells := cellsFrom (s.heap.objs.size + 1) scope.names closure, qual, func, code, frame := some s.heap.objs.size, builtins } name = some .local :=
        hl (name, v) (by rw [hb]; simp)
    have hp : (({ scope, locals := s.heap.objs.size, globals, cells := cellsFrom (s.heap.objs.size + 1) scope.names closure, qual, func, code, frame := some s.heap.objs.size, builtins } : Env).scope.kind == .class || (({ scope, locals := s.heap.objs.size, globals, cells := cellsFrom (s.heap.objs.size + 1) scope.names closure, qual, func, code, frame := some s.heap.objs.size, builtins } : Env).scope.kind == .module &&
          ({ scope, locals := s.heap.objs.size, globals, cells := cellsFrom (s.heap.objs.size + 1) scope.names closure, qual, func, code, frame := some s.heap.objs.size, builtins } : Env).locals != ({ scope, locals := s.heap.objs.size, globals, cells := cellsFrom (s.heap.objs.size + 1) scope.names closure, qual, func, code, frame := some s.heap.objs.size, builtins } : Env).globals)) = false := by
        show (scope.kind == .class || (scope.kind == .module && _)) = false
        rw [hk]; rfl
    simp only [storeName_local hk' hp]
    refine wpAny_bind (wpAny_nsSet hns fun h'' hns' hsb' => wpAny_pure ⟨done ++ [(name, v)], h'', by simp [hb], ?_, ?_, hsb.trans hsb'⟩)
    · simp [Nat.add_assoc]
    · rw [lookup_reverse_snoc]; exact hns'
  · rintro _ s' ⟨done, h', hb, rfl, hns, hsb⟩
    rw [List.append_nil] at hb; subst hb
    exact wpAny_pure (hQ h' hns hsb)
end
section
variable {prog : Program} {w : World} {A : Around} {E : Value → Shared → Prop} {s : Shared} {Q : Value → Shared → Prop}
  {name qual : Str} {params : Arguments} {body : List Stmt} {scope : Scope} {cl : List (Str × Addr)} {dV kV doc pm cdv ct : Value} {an : Option Addr} {fo : Obj} {f : Addr} {args : List Value} {binds : List (Str × Value)}
theorem enter_cells (ho : s.heap.get? f = some fo) (hd : fo.data = .func (fnX name qual params body scope cl dV kV doc pm an cdv ct)) (hcd : s.heap.CodeRec cdv qual) (hlim : s.heap.NoLimit) (hroom : A.depth < recursionLimit)
    (hbind : BindsTo s (fnX name qual params body scope cl dV kV doc pm an cdv ct) ⟨args, []⟩ binds) (hloc : ∀ x ∈ binds, scope.names.lookup x.1 = some .local)
    (h : ∀ h₁, h₁.Ns s.heap.objs.size (fun x => binds.reverse.lookup x) → Heap.SameBut s.heap.objs.size (pushCells (s.heap.push { cls := .type "frame", data := .dict #[] }) scope.names) h₁ →
      wpAny (model prog w) (A.deeper (envX qual scope s.heap.objs.size f cdv (cellsFrom (s.heap.objs.size + 1) scope.names cl))) (execs body (envX qual scope s.heap.objs.size f cdv (cellsFrom (s.heap.objs.size + 1) scope.names cl)))
        (fun fl s' => Q (match fl with | .ret v => v | _ => .none) s')
        (fun e s' => wpAny (model prog w) (A.deeper (envX qual scope s.heap.objs.size f cdv (cellsFrom (s.heap.objs.size + 1) scope.names cl))) (leaving (envX qual scope s.heap.objs.size f cdv (cellsFrom (s.heap.objs.size + 1) scope.names cl)) e) (fun _ s'' => E e s'') (fun e' s'' => E e' s'') s')
        { s with heap := h₁, toks := s.toks + binds.length })
    (hco : scope.isCoroutine = false := by rfl) (hgen : scope.isGenerator = false := by rfl) (hk : scope.kind = .function := by rfl) : wpAny (model prog w) A (call (.ref f) args) Q E s := by
  refine wpAny_call (codeAny_call_function hroom ho hd hco hgen rfl hcd (hbind _ _ _ _ ?_))
  refine newEnvC hloc (fun h₀ hns hsb => ⟨?_, codeAny_func (h h₀ hns hsb)⟩) hk
  have e : ∀ b o, s.heap.get? b = some o → h₀.get? b = some o := fun b o e => hsb.extBut b o (Nat.ne_of_lt (Heap.lt_size e)) (pushCells_keeps _ _ _ _ (Heap.get?_push_of_some _ e))
  exact hlim.keeps e
end
/-! a list comprehension by an invariant -/
open PyProof.Rows.LCg in
theorem rest_ind {prog : Program} {w : World} {A : Around} {s : Shared} {h₀ : Heap} {L : Addr} {m : Str → Option Value} {env : Env} {elt : Expr} {x : Str} {scope : Scope} {cl : List (Str × Addr)} {S : List (Addr × Obj) → Prop} {P : Nat → Value → Prop} {Fin : List Value → List (Addr × Obj) → Prop}
    (n : Nat) (Inv : Nat → List Value → List (Addr × Obj) → Prop)
    (turn : ∀ i ys news v I oI C oC D m₂ h tk (E' : Value → Shared → Prop), i < n → Inv i ys news → P i v → NsObj oC m₂ → m₂ x = some v → Fr h₀ L h m → News h₀ L h ((I, oI) :: (C, oC) :: (D, lst ys) :: news) → Off3 I C D news → ((@Ne Nat I C) ∧ (@Ne Nat I D) ∧ (@Ne Nat C D)) →
      wpAny (model prog w) A (PySem.eval elt (compEnvC scope cl C env)) (CompEnd h₀ L m { s with heap := h, toks := tk } I oI C oC D (lst ys) S (fun y news' => Inv (i + 1) (ys ++ [y]) news')) E' { s with heap := h, toks := tk })
    (fin : ∀ ys news, Inv n ys news → Fin ys news) : ∀ (k i : Nat) (ys : List Value) (news : List (Addr × Obj)), i + k = n → Inv i ys news → CompRest prog w A h₀ L m env elt x scope cl s S P Fin k i ys news
  | 0, i, ys, news, e, h => .zero (fin ys news (by rw [Nat.add_zero] at e; exact e ▸ h))
  | k + 1, i, ys, news, e, h => .succ fun v I oI C oC D m₂ hp tk E' h1 h2 h3 h4 h5 h6 h7 => by
    refine wpAny_mono (turn i ys news v I oI C oC D m₂ hp tk E' (by omega) h h1 h2 h3 h4 h5 h6 h7) (fun y s₂ hc => ?_) fun _ _ z => z
    obtain ⟨h', tk', news', e2, F', N', off, hS, r⟩ := hc
    exact ⟨h', tk', news', e2, F', N', off, hS, rest_ind n Inv turn fin k (i + 1) (ys ++ [y]) news' (by omega) r⟩
/-- a list comprehension over the signs of a text, its list stored under a name -/
noncomputable def SrcS (prog : Program) (w : World) (A : Around) (h₀ : Heap) (L : Addr) (m : Str → Option Value) (env : Env) (elt : Expr) (x : Str) (scope : Scope) (cl : List (Str × Addr)) (Fin : Shared → List Value → List (Addr × Obj) → Prop) (xv : Value) (s₁ : Shared) : Prop :=
  ∃ tx t news, xv = .str tx t ∧ A.handled = none ∧ Fr h₀ L s₁.heap m ∧ News h₀ L s₁.heap news ∧ tx.cps.size ≤ sizeLine ∧
    ∀ s₂ : Shared, (∃ h, s₂ = { s₁ with heap := h }) → LCg.CompRest prog w A h₀ L m env elt x scope cl s₂ (fun _ => True) (SignAt tx) (Fin s₂) tx.cps.size 0 [] news
section
variable {prog : Program} {w : World} {A : Around} {E : Value → Shared → Prop} {s : Shared} {h₀ : Heap} {L : Addr} {m : Str → Option Value} {env : Env}
open PyProof.Rows.LCg in
theorem Assign_ListComp_S {elt iter : Expr} {x y : Str} {px py : Pos} {scope : Scope} {cl : List (Str × Addr)} {pos spos : Pos} {Q : Flow → Shared → Prop} (_F₀ : Fr h₀ L s.heap m) (hLe : env.locals = L)
    (hsw : swapsWith (.ListComp elt [⟨.Name x px, iter, [], 0⟩] scope pos) (some (.Name y py)) spos.line env = pure true)
    (hclos : closureFor scope env = pure cl) (hcell : ∀ z ∈ scope.names, z.2 ≠ .cell) (hkind : scope.kind = .function)
    (hnames : ∀ z ∈ scope.names, z.2 = .local → scope.names.lookup z.1 = some .local) (hx : scope.names.lookup x = some .local)
    (hy : env.kindOf y = some .local) (hp : (env.scope.kind == .class || (env.scope.kind == .module && env.locals != env.globals)) = false)
    (h : wpAny (model prog w) A (PySem.eval iter env) (SrcS prog w A h₀ L m env elt x scope cl (fun s₂ => FinA h₀ L m s₂ y Q)) E s)
    (hs : ∀ x, foldedSetIterable iter env x = pure x := by intro _; rfl) :
    wpAny (model prog w) A (exec (.Assign [.Name y py] (.ListComp elt [⟨.Name x px, iter, [], 0⟩] scope pos) spos) env) Q E s := by
  subst hLe
  rw [exec_Assign_Name_used _ _ _ _ hsw]
  refine wpAny_bind (wpAny_standAt (wpAny_bind ?_))
  show wpAny _ A (do let _ ← comprehension (.ListComp elt [⟨.Name x px, iter, [], 0⟩] scope pos) scope env _ (newList []) false (PySem.eval iter env) (some (assign (.Name y py) env))) _ _ s
  refine wpAny_bind (wpAny_mono (wpAny_comprehension_free (use := some (assign (.Name y py) env)) (Q := fun _ s' => Q .next s') rfl hs hclos hkind hnames
    (wpAny_mono h (fun xv s₁ h₁ => ?_) fun _ _ e => e)) (fun _ s' hq => wpAny_pure (wpAny_pure hq)) fun _ _ e => e)
  obtain ⟨tx, t, news, rfl, hh, F, N, hsz, R⟩ := h₁
  have go : ∀ (ty : String) (W : Walks prog w A s₁.heap.objs.size [s₁.heap.objs.size] [s₁.heap.objs.size] tx.cps.size (SignAt tx) (fun i h => h.IsStrIter s₁.heap.objs.size ty tx t i)), _ := fun ty W =>
    block_U (px := px) (pos := pos) (iter := iter) (elt := elt) (x := x) (env := env) (E := E) (s₂ := { s₁ with heap := s₁.heap.push { cls := .type ty, data := .fields #[.str tx t, .int 0 0] } })
      (RR := fun acc C => compPost (model prog w) A E (some (assign (.Name y py) env)) (fun _ s' => Q .next s') acc C)
      W hsz (fun i h st => by obtain ⟨o, e, _⟩ := st; exact ⟨o, e⟩) (S := fun _ => True) (news := news) (Fin := FinA h₀ env.locals m { s₁ with heap := s₁.heap.push { cls := .type ty, data := .fields #[.str tx t, .int 0 0] } } y Q)
      (fun i h h' o nw st e1 e2 _ _ _ => by obtain ⟨o', e, r⟩ := st; rw [e1] at e; cases e; exact ⟨o, e2, r⟩) hcell hkind hx ⟨_, Heap.get?_push_size _ rfl, rfl, rfl⟩ (fun b hb => by
        rw [List.mem_singleton.mp hb]
        show s₁.heap.objs.size < (s₁.heap.push _).objs.size
        rw [Heap.size_push]; exact Nat.lt_succ_self _)
      (F.keeps fun _ _ e => Heap.get?_push_of_some _ e) (N.grown fun _ _ e => Heap.get?_push_of_some _ e) (Nat.ne_of_lt F.ns.lt) (next_is_new F) (fun p hp => Nat.ne_of_lt (Heap.lt_size (N p hp).1)) trivial (R _ ⟨_, rfl⟩)
      (fun D C h' tk m' ys news' F' N' o1 hn hC₀ hD₀ hCL hDL hCD offC fin => by
        show wpAny _ A (assign (.Name y py) env (.ref D)) _ _ _
        refine wpAny_assign_Name (wpAny_storeName_local hy F'.ns (fun h₂ hn₂ hs₂ => ?_) hp)
        have hL₀ : h₀.get? env.locals = none := Heap.get?_none_of_le F'.above
        have F₂ : Fr h₀ env.locals h₂ (fun z => if z = y then some (.ref D) else m z) := ⟨hn₂, fun b o e => hs₂.extBut b o (fun q => by rw [q, hL₀] at e; cases e) (F'.keep b o e), F'.above⟩
        refine ⟨m', hn.sameBut hs₂ hCL, fun h'' hs'' => fin D h'' _ (F₂.change hs'' hCL hC₀) (fun p hp => ?_) o1⟩
        have z : h₂.get? p.1 = some p.2 := hs₂.extBut _ _ (N' p hp).2.1 (N' p hp).1
        refine ⟨hs''.extBut _ _ ?_ z, (N' p hp).2⟩
        rcases List.mem_cons.mp hp with rfl | hp
        · exact Ne.symm hCD
        · exact offC p hp)
  cases ha : tx.cps.all (· < 128)
  · exact wpAny_pyIter_wide ha (go "str_iterator" (Walks.strWide hh _ tx t))
  · exact wpAny_pyIter_ascii ha (go "str_ascii_iterator" (Walks.strAscii hh _ tx t))
end
section
variable {prog : Program} {w : World} {A : Around} {E : Value → Shared → Prop} {s : Shared}
theorem Iter_rangeV {h₀ : Heap} {env : Env} {m : Str → Option Value} {news : List (Addr × Obj)} {x : Str} {body : List Stmt} {Q : Flow → Shared → Prop} {r : Addr} {a b : Int} {n : Nat} {t u v : Tok} (hh : A.handled = none) (hr : IsRange s.heap r a b 1 t u v) (hsm : Builtin.Range.small a b 1 = true) (hn : Builtin.Range.rangeSize a b 1 = (n : Nat))
    (F : Fr h₀ env.locals s.heap m) (N : News h₀ env.locals s.heap news) (J : Nat → (Str → Option Value) → List (Addr × Obj) → Prop) (h0 : J 0 m news)
    (turn : ∀ i tv m₁ news₁ s₁ own, (∃ h tk, s₁ = { s with heap := h, toks := tk }) → i < n → J i m₁ news₁ → (∀ p ∈ news₁, p.1 ∉ [s.heap.objs.size]) →
      Fr h₀ env.locals s₁.heap (fun y => if y = x then some (.int (a + (i : Nat)) tv) else m₁ y) → News h₀ env.locals s₁.heap (own ++ news₁) →
      wpAny (model prog w) A (execs body env) (LoopStepV h₀ env.locals [s.heap.objs.size] own (J (i + 1)) s₁ (fun v s' => Q (.ret v) s') fun s' => Q .next s') E s₁)
    (done : ∀ h' tk m' news', Fr h₀ env.locals h' m' → News h₀ env.locals h' news' → J n m' news' → Q .next { s with heap := h', toks := tk }) :
    wpAny (model prog w) A (pyIter (.ref r)) (fun it s₂ => LoopAtV prog w A h₀ env x body Q E it s₂) E s := by
  refine wpAny_pyIter_range hr hsm ?_
  refine ⟨s.heap.objs.size, [s.heap.objs.size], [s.heap.objs.size], n, _, _, m, news, J, rfl, LCg.range_walks hh a n, ?_, ?_, ?_, ?_, Fr.pushS F _, ?_, h0, ?_, ?_⟩
  · simp only [List.mem_cons, List.not_mem_nil, or_false]; exact Nat.ne_of_lt F.ns.lt
  · intro b hb; simp only [List.mem_cons, List.not_mem_nil, or_false] at hb; subst hb; exact Heap.StaysIn.fresh F.keep
  · intro p hp hb
    simp only [List.mem_cons, List.not_mem_nil, or_false] at hb
    have := (N p hp).1
    rw [hb, Heap.get?_none_of_le (Nat.le_refl _)] at this
    cases this
  · show IsRangeIter _ _ _ _ _; rw [hn]; simpa using Heap.get?_push_size _ rfl
  · exact fun p hp => ⟨Heap.get?_push_of_some _ (N p hp).1, (N p hp).2⟩
  · intro i v m₁ news₁ s₁ own hs hi hP hJ hnw _ _ _ _ F₁ N₁
    obtain ⟨tv, rfl⟩ := hP
    exact turn i tv m₁ news₁ s₁ own hs hi hJ hnw F₁ N₁
  · intro h' tk m' news' F' N' _ hJ
    exact done h' tk m' news' F' N' hJ
end
end Mine
end
section
open PySem PySem.W PyProof.Rows
open PySem.Builtin
namespace Mine
noncomputable def stepSt : Stmt := (fBody 39).getD 1 (.Pass default)
noncomputable def sArgs : Arguments := match stepSt with | .FunctionDef _ a _ _ _ _ _ _ _ _ => a | _ => default
noncomputable def sBody : List Stmt := match stepSt with | .FunctionDef _ _ b _ _ _ _ _ _ _ => b | _ => []
noncomputable def sScope : Scope := match stepSt with | .FunctionDef _ _ _ _ _ _ s _ _ _ => s | _ => default
noncomputable def sPos : Pos := match stepSt with | .FunctionDef _ _ _ _ _ _ _ _ _ p => p | _ => default
noncomputable def sQual : Str := Str.ofString "_law_rounds.<locals>.step"
noncomputable def listO (vs : List Value) (n : Nat) : Obj := ⟨.type "list", none, .seq vs.toArray n, #[]⟩
section
variable {prog : Program} {w : World} {A : Around} {s : Shared} {mg mb : Str → Option Value} {E Q : Value → Shared → Prop}
noncomputable def figs (l : List Nat) : List Nat := l.flatMap fun c => [hexD (c / 16), hexD (c % 16)]
theorem figs_lt (l : List Nat) (h : ∀ c ∈ l, c < 256) : ∀ y ∈ figs l, y < 128 := by
  intro y hy
  simp only [figs, List.mem_flatMap, List.mem_cons, List.not_mem_nil, or_false] at hy
  obtain ⟨c, hc, rfl | rfl⟩ := hy
  · exact hexD_lt _ (by have := h c hc; omega)
  · exact hexD_lt _ (by omega)
theorem figs_ne (l : List Nat) (h : l ≠ []) : figs l ≠ [] := by
  cases l with
  | nil => exact absurd rfl h
  | cons a l => simp [figs]
theorem figs_cut (l : List Nat) : ∀ i, i < l.length → ((figs l).drop (2 * i)).take 2 = [hexD (l.getD i 0 / 16), hexD (l.getD i 0 % 16)] := by
  induction l with
  | nil => intro i h; exact absurd h (Nat.not_lt_zero _)
  | cons a l ih =>
    intro i h
    cases i with
    | zero => rfl
    | succ i =>
      have e : figs (a :: l) = hexD (a / 16) :: hexD (a % 16) :: figs l := rfl
      rw [e, show 2 * (i + 1) = 2 * i + 1 + 1 from by omega, List.drop_succ_cons, List.drop_succ_cons, ih i (by simpa using h)]
      simp
theorem figs_len (l : List Nat) : (figs l).length = 2 * l.length := flat2_len _ _ l
theorem take_snocN (ms : List Nat) (i : Nat) (h : i < ms.length) : ms.take (i + 1) = ms.take i ++ [ms.getD i 0] := by
  rw [List.take_succ_eq_append_getElem h]
  simp [h]
noncomputable def pr1 (c : Nat) : Str := tx [hexD (c / 16), hexD (c % 16)]
theorem pair_slice (l : List Nat) (i : Nat) (h : i < l.length) : Txt.slice (tx (l.flatMap fun c => [hexD (c / 16), hexD (c % 16)])) (some (2 * (0 + (i : Int)))) (some (2 * (0 + (i : Int)) + 2)) = pr1 (l.getD i 0) := by
  have := slice_ss (l := figs l) (a := 2 * i) (b := 2 * i + 2) (by omega) (by rw [figs_len]; omega)
  rw [show (2 * (0 + (i : Int))) = ((2 * i : Nat) : Int) from by omega, show (((2 * i : Nat) : Int) + 2) = ((2 * i + 2 : Nat) : Int) from by omega]
  refine this.trans ?_
  rw [show 2 * i + 2 - 2 * i = 2 from by omega, figs_cut l i h]
  rfl
noncomputable def Stop (P : Prop) : Prop := P
theorem stopHere {P : Prop} (h : Stop P) : P := h
noncomputable def qu1 (c : Nat) : Str := tx [61, hexD (c / 16), hexD (c % 16)]
theorem sign_at {l : List Nat} {i c : Nat} (h : i < l.length) (hc : (tx l).cps[i]? = some c) : c = l.getD i 0 := by
  have : l.toArray[i]? = some c := hc
  simp [h] at this
  simp [h, this]
theorem getD_mem {l : List Nat} {i : Nat} (h : i < l.length) : l.getD i 0 ∈ l := by
  rw [List.getD_eq_getElem?_getD, List.getElem?_eq_getElem h]
  exact List.getElem_mem _
theorem c_quoteP (X : (KK w.params).In s.heap) (T : TopRead qP looseQ mg mb s.heap) {n : Nat} {t : Tok} (hn : n < 256) (hd : A.depth < recursionLimit) : PureC prog w A s (.ref 96) [.str ⟨#[n]⟩ t] (fun t => .str (qu1 n) t) := fun _ _ hq => c_quote X T hn hd hq
noncomputable def itsOf (mk : Int) (l : List Nat) : List (Bool × Nat) := l.map fun c => (decide (bitOf mk (c % 16) = 1), c)
noncomputable def spB (D2 D : Addr) (l : List Nat) (u : Tok) (mk : Int) (v : Tok) : Str → Option Value := fun y => if y = Str.ofString "quoted" then some (.ref D2) else if y = Str.ofString "pairs" then some (.ref D) else [(Str.ofString "text", Value.str (tx l) u), (Str.ofString "mask", .int mk v)].reverse.lookup y
theorem beg_sp (D2 D : Addr) (l : List Nat) (u : Tok) (mk : Int) (v ts : Tok) : (fun y => if y = Str.ofString "spelled" then some (.str (Str.ofString "") ts) else spB D2 D l u mk v y) = fun y => if y = Str.ofString "spelled" then some (.str (tx (spell (itsOf mk (l.take 0)))) ts) else if y = Str.ofString "place" then none else spB D2 D l u mk v y :=
  beg2 rfl (by decide)
theorem store_head {M : Model} {A : Around} {E : Value → Shared → Prop} {s : Shared} {h₀ : Heap} {L a c : Addr} {m : Str → Option Value} {cn : Str} {cs : Scope} {ccd : Value} {cl : List (Str × Addr)} {x : Str} {v : Value} {Q : Unit → Shared → Prop} {rest : List (Addr × Obj)} {o : Obj} {v₀ : Option Value}
    (F : Fr h₀ L s.heap m) (N : News h₀ L s.heap ((c, o) :: rest)) (hc : cl.lookup x = some c) (hap : ∀ p ∈ rest, p.1 ≠ c) (hd : o.data = .cell v₀)
    (h : ∀ h' o', Fr h₀ L h' m → News h₀ L h' ((c, o') :: rest) → o'.data = .cell (some v) → Q () { s with heap := h' })
    (hk : cs.kind = .function := by rfl) (hx : (envX cn cs L a ccd cl).kindOf x = some .cell := by rfl) : wpAny M A (storeName (envX cn cs L a ccd cl) x v) Q E s :=
  storeX_C F N hc (.head hap) hd h hk hx
theorem len_tx {l : List Nat} {t : Tok} {Q : Value → Shared → Prop} (hz : l.length ≤ 20000) (h : ∀ t' k, Q (.int (l.length : Nat) t') { s with toks := k }) : wpAny (model prog w) A (call (.builtin "len") [.str (tx l) t]) Q E s := by
  refine SBL.len (by have : (tx l).length = l.length := rfl; omega) ?_
  exact h _ _
theorem strs_get : ∀ {vs : List Value} {ys : List Str}, StrsAre vs ys → ∀ (i : Nat), i < ys.length → ∃ t, vs[i]? = some (.str (ys.getD i Str.empty) t)
  | _, _, .nil, i, h => absurd h (Nat.not_lt_zero _)
  | _, _, .cons y t r, 0, _ => ⟨t, rfl⟩
  | _, _, .cons y t r, i + 1, h => by
    obtain ⟨t', e⟩ := strs_get r i (by simpa using h)
    exact ⟨t', by simpa using e⟩
theorem item_ys {value slice : Expr} {a : Addr} {vs : List Value} {f : Nat → Str} {l : List Nat} {i : Nat} {u : Tok} (hl : s.heap.IsList a vs.toArray) (hs' : StrsAre vs (l.map f)) (hi : i < l.length) (hz : l.length ≤ 1000000) (h : ∀ t, Q (.str (f (l.getD i 0)) t) s)
    (hs : subscripted slice false (.ref a) (.int (0 + (i : Int)) u) = operate [.ref a, .int (0 + (i : Int)) u] (getItem (.ref a) (.int (0 + (i : Int)) u)) := by with_unfolding_all rfl) (hg : ∀ r, letTemporaryGo value (.ref a) r = pure () := by intro _; with_unfolding_all rfl) :
    wpAny (model prog w) A (subscriptTail value slice (.ref a) (.int (0 + (i : Int)) u)) Q E s := by
  obtain ⟨t, e⟩ := strs_get hs' i (by rw [List.length_map]; exact hi)
  refine item_list hl (by omega) (by omega) (x := .str (f (l.getD i 0)) t) ?_ (h t) hs hg
  have e2 : (l.map f).getD i Str.empty = f (l.getD i 0) := by simp [hi]
  rw [show (0 + (i : Int)).toNat = i from by omega, List.getElem?_toArray, e, e2]

theorem iadd_tx {a b : List Nat} {t u : Tok} (hz : a.length + b.length ≤ 1000000) (h : ∀ t' k, Q (.str (tx (a ++ b)) t') { s with toks := k }) : wpAny (model prog w) A (inplaceOp .Add (.str (tx a) t) (.str (tx b) u)) Q E s := by
  refine SBL.iadd (fun t' k _ => ?_) (by show a.length + b.length ≤ sizeLine; rw [sizeLine_eq]; omega)
  rw [tx_app]
  exact h _ _
theorem sp1_len (i : Bool × Nat) : (sp1 i).length ≤ 3 := by unfold sp1; split <;> simp
theorem spell_len (its : List (Bool × Nat)) : (spell its).length ≤ 3 * its.length := by
  induction its with
  | nil => exact Nat.le_refl _
  | cons i r ih =>
    have e : spell (i :: r) = sp1 i ++ spell r := rfl
    have := sp1_len i
    rw [e, List.length_append, List.length_cons]; omega
theorem itsOf_next (mk : Int) (l : List Nat) (i : Nat) (h : i < l.length) : spell (itsOf mk (l.take (i + 1))) = spell (itsOf mk (l.take i)) ++ sp1 (decide (bitOf mk (l.getD i 0 % 16) = 1), l.getD i 0) := by
  rw [take_snocN l i h]
  simp [itsOf, spell]
theorem sp_yes (mk : Int) (l : List Nat) (i : Nat) (h : i < l.length) (hb : bitOf mk (l.getD i 0 % 16) = 1) : spell (itsOf mk (l.take i)) ++ [61, hexD (l.getD i 0 / 16), hexD (l.getD i 0 % 16)] = spell (itsOf mk (l.take (i + 1))) := by
  rw [itsOf_next mk l i h, sp1, if_pos (by simpa using hb)]
theorem sp_no (mk : Int) (l : List Nat) (i : Nat) (h : i < l.length) (hb : ¬ bitOf mk (l.getD i 0 % 16) = 1) : spell (itsOf mk (l.take i)) ++ [hexD (l.getD i 0 / 16), hexD (l.getD i 0 % 16)] = spell (itsOf mk (l.take (i + 1))) := by
  rw [itsOf_next mk l i h, sp1, if_neg (by simpa using hb)]
theorem sp_names (x y : Str) (a b c d : Option Value) (f : Str → Option Value) : (fun z => if z = x then a else (fun z => if z = y then b else (fun z => if z = x then c else if z = y then d else f z) z) z) = fun z => if z = x then a else if z = y then b else f z := by
  funext z
  by_cases e1 : z = x
  · simp [e1]
  · by_cases e2 : z = y
    · simp [e2]
    · simp [e1, e2]
theorem dec_its (mk : Int) (l : List Nat) : decT (itsOf mk l) = nextT mk l := by
  induction l with
  | nil => rfl
  | cons c l ih =>
    have e1 : decT (itsOf mk (c :: l)) = de1 (decide (bitOf mk (c % 16) = 1), c) ++ decT (itsOf mk l) := rfl
    have e2 : nextT mk (c :: l) = sign1 mk c ++ nextT mk l := by simp [nextT]
    rw [e1, e2, ih]
    congr 1
    unfold de1 sign1
    by_cases hb : bitOf mk (c % 16) = 1 <;> simp [hb]
end
end Mine
end
section
open PySem PySem.W PyProof.Rows
open PySem.Builtin
namespace Mine
noncomputable def spM (D2 D : Addr) (l : List Nat) (u : Tok) (mk : Int) (v ts : Tok) (pv : Option Value) : Str → Option Value := fun y => if y = Str.ofString "spelled" then some (.str (tx (spell (itsOf mk l))) ts) else if y = Str.ofString "place" then pv else spB D2 D l u mk v y
theorem cl_read (c cR : Addr) : (cellsFrom c sScope.names [(Str.ofString "readings", cR)]).lookup (Str.ofString "readings") = some cR := by kernel_rfl
theorem kind_read (L f : Addr) (cdv : Value) (cl : List (Str × Addr)) : (envX sQual sScope L f cdv cl).kindOf (Str.ofString "readings") = some .free := by kernel_rfl
theorem eqv_strs (xs : List Str) : PyData.eqvAll (xs.map PyData.str) (xs.map PyData.str) = true := by
  induction xs with
  | nil => rfl
  | cons x xs ih => simp [PyData.eqvAll, PyData.eqv, ih]
theorem lay_strs : ∀ (xs : List Str), (∀ x ∈ xs, PyData.strOk x = true) → PyData.canLayAll0 (xs.map PyData.str) = true ∧ PyData.depthAll (xs.map PyData.str) = 0
  | [], _ => ⟨rfl, rfl⟩
  | x :: xs, h => by
    have := lay_strs xs fun y hy => h y (.tail _ hy)
    simp [PyData.canLayAll0, PyData.canLay0, PyData.depthAll, PyData.depth, h x (.head _), this.1, this.2]
theorem shaped_strs (xs : List Str) (h : ∀ x ∈ xs, PyData.strOk x = true) : PySem.SeqAt.shaped (.list (xs.map PyData.str)) = true := by
  have := lay_strs xs h
  simp [PySem.SeqAt.shaped, PyData.canLay0, PyData.depth, this.1, this.2]
theorem strOk_tx (l : List Nat) (h : ∀ c ∈ l, c < 256) : PyData.strOk (tx l) = true := by
  simp only [PyData.strOk, tx, List.all_toArray, List.all_eq_true, decide_eq_true_eq]
  intro c hc
  have := h c hc
  omega
theorem qu1_ok (l : List Nat) (h : ∀ c ∈ l, c < 256) : ∀ x ∈ l.map qu1, PyData.strOk x = true := by
  intro x hx
  simp only [List.mem_map] at hx
  obtain ⟨c, hc, rfl⟩ := hx
  have := h c hc
  have h1 := hexD_lt (c / 16) (by omega)
  have h2 := hexD_lt (c % 16) (by omega)
  refine strOk_tx _ fun d hd => ?_
  simp only [List.mem_cons, List.not_mem_nil, or_false] at hd
  omega
theorem qu_pr (l : List Nat) : (((l.map pr1).filter fun _ => true).map fun a => PyData.str (Str.ofString "=" ++ a)) = (l.map qu1).map PyData.str := by
  rw [List.filter_eq_self.mpr fun _ _ => rfl, List.map_map, List.map_map]
  refine List.map_congr_left fun c _ => ?_
  show PyData.str (Str.ofString "=" ++ tx _) = _
  rw [show Str.ofString "=" = tx [61] from by decide, tx_app]
  rfl
section
variable {prog : Program} {w : World} {A : Around} {s : Shared} {mg mb : Str → Option Value} {E : Value → Shared → Prop}
local macro_rules | `(tactic| walk_at "call ref") => `(tactic| ((with_reducible show wpAny _ _ (call (Value.ref 109) _) _ _ _); refine pure_use (c_decode (kk_at (by assumption) (by assumption)) (tt_at (by assumption) (by assumption)) (by assumption) (by assumption) (by assumption) (by assumption) (by assumption)) (by assumption) (by assumption) ?_; intro t8 h8 tk8 F8 N8 st8; (try dsimp only)))
local macro_rules | `(tactic| walk_at "call ref") => `(tactic| ((with_reducible show wpAny _ _ (call (Value.ref 123) _) _ _ _); refine pure_use (c_header (kk_at (by assumption) (by assumption)) (tt_at (by assumption) (by assumption)) (by assumption) (by assumption) (by assumption) (by assumption)) (by assumption) (by assumption) ?_; intro t8 h8 tk8 F8 N8 st8; (try dsimp only)))
local macro_rules | `(tactic| walk_at "eval Call Attribute") => `(tactic| (refine MethodCall_ (stopHere ?_)))
local macro_rules | `(tactic| walk_at "eval Name") => `(tactic| ((with_reducible show wpAny _ _ (PySem.eval (Expr.Name (Str.ofString "readings") _) _) _ _ _); (rename News _ _ _ _ => N'); (refine nameX_F N' (cl_read _ _) (.tail _ (.tail _ (.head _))) (by assumption) ?_ (by rfl) (kind_read _ _ _ _))))
local macro_rules | `(tactic| walk_at "eval Subscript") => `(tactic| ((with_reducible show wpAny _ _ (PySem.eval (Expr.Subscript (Expr.Name _ _) _ _) _) _ _ _); refine Subscript_ (stopHere ?_)))
theorem item_last_l {value slice : Expr} {l : Addr} {vs : List Value} {x : Value} {u : Tok} {Q : Value → Shared → Prop} (hl : s.heap.IsList l (vs ++ [x]).toArray) (hz : vs.length ≤ 1000) (h : Q x s)
    (hs : subscripted slice false (.ref l) (.int (-1) u) = operate [.ref l, .int (-1) u] (getItem (.ref l) (.int (-1) u)) := by with_unfolding_all rfl) :
    wpAny (model prog w) A (subscriptTail value slice (.ref l) (.int (-1) u)) Q E s := by
  have e : (vs ++ [x]).toArray.size = vs.length + 1 := by simp
  refine tail_any hl.typeIs slot_list_getitem.lookup (wpAny_getItem_list_neg hl (by decide) (by rw [e]; omega) (by decide) (x := x) ?_ h) hs
  rw [e, show ((-1 : Int) + ((vs.length + 1 : Nat) : Int)).toNat = vs.length from by omega]
  simp
local macro_rules | `(tactic| walk_at "subscriptTail Name UnaryOp ref int") => `(tactic| (refine item_last_l (by assumption) (by assumption) ?_))
set_option maxHeartbeats 1000000 in
theorem c_stepTail {h₀ : Heap} {L f cR R D D2 c : Addr} {oc o5 : Obj} {cdv : Value} {l : List Nat} {u v ts : Tok} {mk : Int} {pv : Option Value} {vs ys ys2 : List Value} {n : Nat} {Q : Flow → Shared → Prop}
    (X : (KK w.params).In h₀) (T : TopRead qP looseQ mg mb h₀) (hCR : cR ≠ R) (hvs : vs.length ≤ 1000)
    (hoc : oc.data = .cell (some (.ref R))) (hl : ∀ c ∈ l, c < 256) (hne : l ≠ []) (hz : l.length ≤ 20000) (hh : A.handled = none) (hd : A.depth + 2 < recursionLimit) (hu : A.units + 64 < cLine)
    (hys : StrsAre ys (l.map pr1)) (hys2 : StrsAre ys2 (l.map qu1))
    (F : Fr h₀ L s.heap (spM D2 D l u mk v ts pv)) (N : News h₀ L s.heap [(D2, LCg.lst ys2), (D, LCg.lst ys), (c, o5), (R, listO vs n), (cR, oc)])
    (hq : ∀ t h' tk a t1 t2 m', a ≠ R → a ≠ cR → Fr h₀ L h' m' → News h₀ L h' ([(a, ⟨.type "tuple", none, .seq #[.str (tx (nextT mk l)) t1, .str (tx (nextT mk l)) t2, .bool true] 0, #[]⟩), (R, listO (vs ++ [.ref a]) (n + 1)), (cR, oc)]) →
      Q (.ret (.str (tx (nextT mk l)) t)) { s with heap := h', toks := tk }) :
    wpAny (model prog w) A (execs (sBody.drop 5) (envX sQual sScope L f cdv (cellsFrom c sScope.names [(Str.ofString "readings", cR)]))) Q E s := by
  have hc : ∀ i ∈ itsOf mk l, i.2 < 256 := by
    intro i hi
    simp only [itsOf, List.mem_map] at hi
    obtain ⟨c, hc, rfl⟩ := hi
    exact hl c hc
  have hn : itsOf mk l ≠ [] := by
    cases l with
    | nil => exact absurd rfl hne
    | cons a r => simp [itsOf]
  have hnl : (itsOf mk l).length = l.length := by simp [itsOf]
  have hn2 : (itsOf mk l).length ≤ 1000000 := by omega
  have hsl : (spell (itsOf mk l)).length ≤ 1000000 := by
    have := spell_len (itsOf mk l)
    omega
  have hd1 : A.depth + 1 < recursionLimit := by omega
  unfold spM at F
  k_steps
  unfold Stop
  refine nameX_F N (cl_read _ _) (.tail _ (.tail _ (.tail _ (.tail _ (.head _))))) hoc ?_ (by rfl) (kind_read _ _ _ _)
  refine listMethod_K N (.tail _ (.tail _ (.tail _ (.head _)))) PySem.F.slot_list_append PySem.F.type_list_append ?_
  k_steps
  rename Fr _ _ _ _ => F1
  rename News _ _ _ _ => N1
  refine srcC_listDW (K := ItemKind.str) (as := l.map pr1) (pz := fun _ => true) (d := fun a => .str (Str.ofString "=" ++ a)) hh (News.isList N1 (.tail _ (.head _))) (StrsAre.areOf hys) F1 N1 ?_ ?_ ?_ (by rw [List.length_map, sizeLine_eq]; omega)
  · intro C a v s₂ m₂ E' ha hk hns hm ht
    k_steps
    exact ⟨_, _, rfl, fun _ _ e => e⟩
  · intro C a v s₂ m₂ E' ha hk hp hns hm ht
    obtain ⟨tv, rfl⟩ := hk
    have hal : a.length = 2 := by
      simp only [List.mem_map] at ha
      obtain ⟨c, _, rfl⟩ := ha
      rfl
    k_steps
    · exact .str _ _
    · exact ⟨_, _, rfl, fun _ _ e => e⟩
  · intro D3 ys3 h' tk F2 N2 hD3 hl3 hp3 hc3
    rw [qu_pr] at hc3
    refine eq_dataH (reads_list_at (News.get N2 (.head _)) rfl rfl (strs_readAll _ hys2)) (reads_newData hl3 hc3) (shaped_strs _ (qu1_ok l hl)) (shaped_strs _ (qu1_ok l hl)) hu ?_
    rw [show PyData.eqv (.list ((l.map qu1).map PyData.str)) (.list ((l.map qu1).map PyData.str)) = true from by rw [PyData.eqv]; exact eqv_strs _]
    have hRlt : R < h'.objs.size := Heap.lt_size (News.get N2 (.tail _ (.tail _ (.tail _ (.head _)))))
    have hClt : cR < h'.objs.size := Heap.lt_size (News.get N2 (.tail _ (.tail _ (.tail _ (.tail _ (.head _))))))
    k_steps
    rename Fr _ _ _ _ => F4
    rename News _ _ _ _ => N4
    rw [dec_its] at N4
    have N5 : News _ _ _ [(h'.objs.size, ⟨.type "tuple", none, .seq #[.str (tx (nextT mk l)) _, .str (tx (nextT mk l)) _, .bool true] 0, #[]⟩), (R, listO vs n), (cR, oc)] := fun p hp => N4 p (by
      rcases List.mem_cons.mp hp with rfl | hp
      · exact .head _
      · exact .tail _ (.tail _ (.tail _ (.tail _ (.tail _ hp)))))
    refine append_K F4 N5 (.tail (Nat.ne_of_gt hRlt) (.head fun p hp => by rw [List.mem_singleton.mp hp]; exact hCR)) (fun h6 F6 N6 => ?_) (by rw [List.size_toArray, sizeLine_eq]; omega)
    clear N4 N5 N2
    k_steps
    unfold Stop
    refine nameX_F N6 (cl_read _ _) (.tail _ (.tail _ (.head _))) hoc ?_ (by rfl) (kind_read _ _ _ _)
    have hR6 : h6.IsList R (vs ++ [Value.ref h'.objs.size]).toArray := by
      have := News.get N6 (.tail _ (.head _))
      exact ⟨_, this, rfl, n + 1, by rw [List.push_toArray]⟩
    have hT6 : IsTup h6 h'.objs.size [Value.str (tx (nextT mk l)) _, Value.str (tx (nextT mk l)) _, Value.bool true].toArray := ⟨_, News.get N6 (.head _), rfl, 0, rfl⟩
    k_steps
    rename News _ _ _ _ => N7
    rename Fr _ _ _ _ => F7
    exact hq _ h6 _ h'.objs.size _ _ _ (Nat.ne_of_gt hRlt) (Nat.ne_of_gt hClt) F7 N7
end
end Mine
end
theorem Mine.anewS3 : True := by first | walk1 | trivial
section
open PySem PySem.W PyProof.Rows
open PySem.Builtin
namespace Mine
section
variable {prog : Program} {w : World} {A : Around} {s : Shared} {mg mb : Str → Option Value} {E Q : Value → Shared → Prop}
local macro_rules | `(tactic| walk_at "getMethod str") => `(tactic| refine m_encode ?_)
local macro_rules | `(tactic| walk_at "call builtin:str.encode") => `(tactic| (refine encode_latin (by assumption) (by assumption) ?_; intro t4 k4))
local macro_rules | `(tactic| walk_at "call builtin:bytes.decode") => `(tactic| (refine decode_ascii (by assumption) (by assumption) (by assumption) ?_; intro t4 k4))
local macro_rules | `(tactic| walk_at "call ref") => `(tactic| ((with_reducible show wpAny _ _ (call (Value.ref 61) _) _ _ _); refine pure_use (c_b16 (kk_at (by assumption) (by assumption)) (tt_at (by assumption) (by assumption)) (by assumption) (by assumption) (by assumption)) (by assumption) (by assumption) ?_; intro t8 h8 tk8 F8 N8 st8; (try dsimp only)))
local macro_rules | `(tactic| walk_at "storeName") => `(tactic| (refine store_head (by assumption) (by assumption) (by rfl) (by assumption) (by rfl) ?_; intro h5 o5 F5 N5 d5))
local macro_rules | `(tactic| walk_at "call builtin:len") => `(tactic| (refine len_tx (by assumption) ?_; intro t4 k4))
local macro_rules | `(tactic| walk_at "loadName") => `(tactic| (refine wpAny_loadName_local (by rfl) (by rfl) (Fr.ns (by assumption)) (by rfl) ?_))
local macro_rules | `(tactic| walk_at "subscriptTail Name Name ref int") => `(tactic| (refine item_ys (News.isList (by assumption) (List.mem_append_right _ (by first | exact .head _ | exact .tail _ (.head _)))) (by assumption) (by assumption) (by assumption) ?_; intro t4))
local macro_rules | `(tactic| walk_at "binaryOp Pow int int") => `(tactic| (refine pow_two (by omega) ?_))
local macro_rules | `(tactic| walk_at "binaryOp FloorDiv int int") => `(tactic| (refine fdiv_two (by omega) ?_))
local macro_rules | `(tactic| walk_at "binaryOp Mod int int") => `(tactic| (refine mod16 ?_; intro t4 k4))
local macro_rules | `(tactic| walk_at "subscriptTail Name Name str int") => `(tactic| (refine item_val (by assumption) (by omega) (by omega) (by assumption) ?_; intro t4 k4))
local macro_rules | `(tactic| walk_at "exec Assign cons ListComp") => `(tactic| ((with_reducible show wpAny _ _ (exec (Stmt.Assign [Expr.Name (Str.ofString "quoted") _] _ _) _) _ _ _); refine stopHere ?_))
local macro_rules | `(tactic| walk_at "call ref") => `(tactic| ((with_reducible show wpAny _ _ (call (Value.ref 96) _) _ _ _); refine pure_use (c_quoteP (kk_at (by assumption) (by assumption)) (tt_at (by assumption) (by assumption)) (by assumption) (by omega)) (by assumption) (by assumption) ?_; intro t8 h8 tk8 F8 N8 st8; (try dsimp only)))
local macro_rules | `(tactic| walk_at "inplaceOp Add str str") => `(tactic| (refine iadd_tx (by simp only [List.length_cons, List.length_nil]; omega) ?_; intro t4 k4))
set_option maxHeartbeats 4000000 in
theorem c_step {g : Heap} {f cR R : Addr} {fo oc : Obj} {pm cdv ct doc : Value} {l : List Nat} {u v : Tok} {mk : Int} {vs : List Value} {n : Nat}
    (X : (KK w.params).In g) (T : TopRead qP looseQ mg mb g) (st : g.StaysIn s.heap) (hR0 : g.get? R = none) (hC0 : g.get? cR = none)
    (hf : s.heap.get? f = some fo) (hfd : fo.data = .func (fnX (Str.ofString "step") sQual sArgs sBody sScope [(Str.ofString "readings", cR)] .none .none doc pm none cdv ct)) (hcd : s.heap.CodeRec cdv sQual)
    (hcR : s.heap.get? cR = some oc) (hoc : oc.data = .cell (some (.ref R))) (hRl : s.heap.get? R = some (listO vs n)) (hl : ∀ c ∈ l, c < 256) (hne : l ≠ []) (hz : l.length ≤ 20000) (hh : A.handled = none) (hd : A.depth + 3 < recursionLimit) (hu : A.units + 67 < cLine) (hvs : vs.length ≤ 1000)
    (hq : ∀ t h' tk a t1 t2, (∀ b o, b ≠ R → s.heap.get? b = some o → h'.get? b = some o) → h'.get? R = some (listO (vs ++ [.ref a]) (n + 1)) →
      h'.get? a = some ⟨.type "tuple", none, .seq #[.str (tx (nextT mk l)) t1, .str (tx (nextT mk l)) t2, .bool true] 0, #[]⟩ → s.heap.get? a = none → Q (.str (tx (nextT mk l)) t) { s with heap := h', toks := tk }) :
    wpAny (model prog w) A (call (.ref f) [.str (tx l) u, .int mk v]) Q E s := by
  refine enter_cells (binds := [(Str.ofString "text", .str (tx l) u), (Str.ofString "mask", .int mk v)]) hf hfd hcd (T.nolimit.keeps st) (by omega) (.of_eq rfl) (locs rfl) ?_
  intro h₁ hns hsb
  have hLR : R < s.heap.objs.size := Heap.lt_size hRl
  have hLC : cR < s.heap.objs.size := Heap.lt_size hcR
  have kp : ∀ b o, s.heap.get? b = some o → h₁.get? b = some o := fun b o e => hsb.extBut b o (Nat.ne_of_lt (Heap.lt_size e)) (pushCells_keeps _ _ _ _ (Heap.get?_push_of_some _ e))
  have F : Fr (hideAll s.heap [R, cR]) s.heap.objs.size h₁ (fun x => [(Str.ofString "text", .str (tx l) u), (Str.ofString "mask", .int mk v)].reverse.lookup x) :=
    ⟨hns, fun b o e => kp b o (of_hideAll _ e), Nat.le_of_eq (hideAll_size _ _)⟩
  have hcell : h₁.get? (s.heap.objs.size + 1) = some { cls := .type "cell", data := .cell none } := by
    refine hsb.extBut (s.heap.objs.size + 1) _ (Nat.ne_of_gt (Nat.lt_succ_self _)) ?_
    show ((s.heap.push { cls := .type "frame", data := .dict #[] }).push { cls := .type "cell", data := .cell none }).get? _ = _
    have := Heap.get?_push_size (s.heap.push { cls := .type "frame", data := .dict #[] }) (o := { cls := .type "cell", data := .cell none }) rfl
    rw [Heap.size_push] at this
    exact this
  have N : News (hideAll s.heap [R, cR]) s.heap.objs.size h₁ [(s.heap.objs.size + 1, { cls := .type "cell", data := .cell none }), (R, listO vs n), (cR, oc)] := by
    intro p hp
    simp only [List.mem_cons, List.not_mem_nil, or_false] at hp
    rcases hp with rfl | rfl | rfl
    · exact ⟨hcell, by show s.heap.objs.size + 1 ≠ s.heap.objs.size; omega, Heap.get?_none_of_le (by rw [hideAll_size]; show s.heap.objs.size ≤ s.heap.objs.size + 1; omega)⟩
    · exact ⟨kp _ _ hRl, Nat.ne_of_lt hLR, hideAll_none _ (by simp)⟩
    · exact ⟨kp _ _ hcR, Nat.ne_of_lt hLC, hideAll_none _ (by simp)⟩
  have st0 : g.StaysIn (hideAll s.heap [R, cR]) := fun b o e => hideAll_get _ (st b o e) (by
    simp only [List.mem_cons, List.not_mem_nil, or_false, not_or]
    exact ⟨fun q => (by rw [q, hR0] at e; cases e), fun q => (by rw [q, hC0] at e; cases e)⟩)
  have X0 : (KK w.params).In (hideAll s.heap [R, cR]) := X.keeps st0
  have T0 := T.keeps st0
  clear hns hsb
  have hCR : cR ≠ R := by
    intro e
    rw [e, hRl] at hcR
    cases hcR
    cases hoc
  have hu' : (A.deeper (envX sQual sScope s.heap.objs.size f cdv (cellsFrom (s.heap.objs.size + 1) sScope.names [(Str.ofString "readings", cR)]))).units + 64 < cLine := by rw [units_deeper]; omega
  have hzl : l.length ≤ sizeLine := Nat.le_trans hz (by decide)
  have hz2 : 2 * l.length ≤ sizeLine := Nat.le_trans (Nat.mul_le_mul_left 2 hz) (by decide)
  have hfl : ∀ y ∈ (l.flatMap fun c => [hexD (c / 16), hexD (c % 16)]), y < 128 := figs_lt l hl
  have hfn : (l.flatMap fun c => [hexD (c / 16), hexD (c % 16)]) ≠ [] := figs_ne l hne
  have hfz : (l.flatMap fun c => [hexD (c / 16), hexD (c % 16)]).length ≤ sizeLine := by rw [flat2_len]; exact hz2
  have hd' : (A.deeper (envX sQual sScope s.heap.objs.size f cdv (cellsFrom (s.heap.objs.size + 1) sScope.names [(Str.ofString "readings", cR)]))).depth + 2 < recursionLimit := hd
  have hap : ∀ p ∈ [(R, listO vs n), (cR, oc)], p.1 ≠ s.heap.objs.size + 1 := by
    intro p hp
    simp only [List.mem_cons, List.not_mem_nil, or_false] at hp
    rcases hp with rfl | rfl
    · exact Nat.ne_of_lt (Nat.lt_succ_of_lt hLR)
    · exact Nat.ne_of_lt (Nat.lt_succ_of_lt hLC)
  k_steps
  rename IsRange _ _ _ _ _ _ _ _ => IR
  rename Fr _ _ _ _ => F6
  rename News _ _ _ _ => N6
  refine .inr ⟨_, 0, (l.length : Nat), _, _, _, l.length, _, rfl, hh, F6, N6, IR, ?_, ?_, hzl, ?_⟩
  · exact small_one (by omega) (by omega) (by omega) (by omega)
  · exact rangeSize_nat _ _
  intro s₂ hs2
  obtain ⟨h6, rfl⟩ := hs2
  refine rest_ind l.length (fun i ys nw => nw = _ ∧ StrsAre ys ((l.take i).map pr1)) ?_ ?_ l.length 0 [] _ (Nat.zero_add _) ⟨rfl, .nil⟩
  · intro i ys nw v I oI C oC D m₂ h tk E' hi hInv hP hNs hm F7 N7 off hne3
    obtain ⟨rfl, hys⟩ := hInv
    obtain ⟨tv, rfl⟩ := hP
    k_steps
    rename Fr _ _ _ _ => F8
    rename News _ _ _ _ => N8
    rw [pair_slice l i hi]
    exact LCg.CompEnd.intro F8 N8 _ (fun p hp => hp) off trivial ⟨rfl, by rw [take_snocN l i hi, List.map_append]; exact strs_snoc hys⟩
  · intro ys nw hInv
    obtain ⟨rfl, hys⟩ := hInv
    rw [List.take_length] at hys
    intro D h tk F7 N7 off
    k_steps
    unfold Stop
    refine Assign_ListComp_S F7 (by rfl) (by with_unfolding_all rfl) (by with_unfolding_all rfl) (by decide) (by rfl) (by decide) (by rfl) (by rfl) (by rfl) ?_
    k_steps
    rename Fr _ _ _ _ => F8
    rename News _ _ _ _ => N8
    refine ⟨_, _, _, rfl, hh, F8, N8, hzl, ?_⟩
    intro s₂ hs2
    obtain ⟨h8, rfl⟩ := hs2
    refine rest_ind (tx l).cps.size (fun i ys nw => nw = _ ∧ StrsAre ys ((l.take i).map qu1)) ?_ ?_ (tx l).cps.size 0 [] _ (Nat.zero_add _) ⟨rfl, .nil⟩
    · intro i ys2 nw v I oI C oC D2 m₂ h9 tk9 E' hi hInv hP hNs hm F9 N9 off9 hne3
      obtain ⟨rfl, hys2⟩ := hInv
      obtain ⟨c, uc, hc, rfl⟩ := hP
      have hil : i < l.length := hi
      have hcl : c = l.getD i 0 := sign_at hil hc
      have hc256 : c < 256 := by rw [hcl]; exact hl _ (getD_mem hil)
      k_steps
      rename Fr _ _ _ _ => Fa
      rename News _ _ _ _ => Na
      exact LCg.CompEnd.intro Fa Na _ (fun p hp => hp) off9 trivial ⟨rfl, by rw [take_snocN l i hil, List.map_append, ← hcl]; exact strs_snoc hys2⟩
    · intro ys2 nw hInv
      obtain ⟨rfl, hys2⟩ := hInv
      rw [show (tx l).cps.size = l.length from rfl, List.take_length] at hys2
      intro D2 h9 tk9 F9 N9 off9
      k_steps
      rename IsRange _ _ _ _ _ _ _ _ => IR2
      rename Fr _ _ _ _ => Fb
      rename News _ _ _ _ => Nb
      refine Iter_rangeV hh IR2 (small_one (by omega) (by omega) (by omega) (by omega)) (rangeSize_nat _ _) Fb Nb (fun i m' nw => nw = _ ∧ ∃ ts pv, m' = fun y => if y = Str.ofString "spelled" then some (.str (tx (spell (itsOf mk (l.take i)))) ts) else if y = Str.ofString "place" then pv else spB D2 D l u mk v y) ⟨rfl, _, none, beg_sp D2 D l u mk v _⟩ ?_ ?_
      · intro i tv m₁ news₁ s₁ own hs hi hJ hnw F₁ N₁
        obtain ⟨h2, tk2, rfl⟩ := hs
        obtain ⟨rfl, ts, pv, rfl⟩ := hJ
        have hit : Txt.item (tx l) (0 + (i : Int)) = ⟨#[l.getD i 0]⟩ := by
          rw [Int.zero_add, item_at l i hi, List.getD_eq_getElem?_getD, List.getElem?_eq_getElem hi]
          rfl
        have hc256 : l.getD i 0 < 256 := hl _ (getD_mem hi)
        have hz20 : l.length ≤ 1000000 := by omega
        have hi' : i < l.length := hi
        have hspz : (spell (itsOf mk (l.take i))).length + 3 ≤ 1000000 := by
          have h1 := spell_len (itsOf mk (l.take i))
          have h2 : (itsOf mk (l.take i)).length = (l.take i).length := by simp [itsOf]
          rw [List.length_take] at h2
          omega
        k_steps
        · rename Int.fmod _ _ = 1 => hb
          rename Fr _ _ _ _ => FF
          rename News _ _ _ _ => NN
          rw [sp_yes mk l i hi' hb] at FF
          refine LoopStepU.intro FF NN hnw ⟨rfl, _, _, sp_names _ _ _ _ _ _ _⟩
        · rename ¬ Int.fmod _ _ = 1 => hb
          rename Fr _ _ _ _ => FF
          rename News _ _ _ _ => NN
          rw [sp_no mk l i hi' hb] at FF
          refine LoopStepU.intro FF NN hnw ⟨rfl, _, _, sp_names _ _ _ _ _ _ _⟩
      · intro h' tk m' news' F' N' hJ
        obtain ⟨rfl, ts, pv, rfl⟩ := hJ
        rw [show ((l.length : Int) - 0).toNat = l.length from by omega, List.take_length] at F'
        refine c_stepTail X0 T0 hCR hvs hoc hl hne hz hh hd' hu' hys hys2 F' N' ?_
        intro t h7 tk7 a t1 t2 m7 haR haC F7 N7
        refine hq t h7 tk7 a t1 t2 (fun b o hbR e => ?_) (News.get N7 (.tail _ (.head _))) (News.get N7 (.head _)) ?_
        · by_cases hbC : b = cR
          · have h1 := News.get N7 (.tail _ (.tail _ (.head _)))
            rw [hbC] at e ⊢
            rw [hcR] at e
            cases e
            exact h1
          · exact F7.keep b o (hideAll_get _ e (by simp only [List.mem_cons, List.not_mem_nil, or_false, not_or]; exact ⟨hbR, hbC⟩))
        · cases e : s.heap.get? a with
          | none => rfl
          | some o =>
            have h1 := (N7 _ (.head _)).2.2
            rw [hideAll_get _ e (by simp only [List.mem_cons, List.not_mem_nil, or_false, not_or]; exact ⟨haR, haC⟩)] at h1
            cases h1
end
end Mine
end
theorem Mine.anewS2 : True := by first | walk1 | trivial
section
open PySem PySem.W PyProof.Rows
open PySem.Builtin
namespace Mine
noncomputable def tupO (x : List Nat) (t1 t2 : Tok) : Obj := ⟨.type "tuple", none, .seq #[.str (tx x) t1, .str (tx x) t2, .bool true] 0, #[]⟩
inductive Told : List (Addr × Obj) → List (List Nat) → Prop
  | nil : Told [] []
  | cons {a : Addr} {x : List Nat} {ps : List (Addr × Obj)} {xs : List (List Nat)} (t1 t2 : Tok) : Told ps xs → Told ((a, tupO x t1 t2) :: ps) (x :: xs)
theorem Told.snoc {a : Addr} {x : List Nat} {t1 t2 : Tok} : ∀ {ps : List (Addr × Obj)} {xs : List (List Nat)}, Told ps xs → Told (ps ++ [(a, tupO x t1 t2)]) (xs ++ [x])
  | _, _, .nil => .cons t1 t2 .nil
  | _, _, .cons u1 u2 r => .cons u1 u2 r.snoc
theorem Told.len : ∀ {ps : List (Addr × Obj)} {xs : List (List Nat)}, Told ps xs → ps.length = xs.length
  | _, _, .nil => rfl
  | _, _, .cons _ _ r => by rw [List.length_cons, List.length_cons, r.len]
noncomputable def textsT (l : List Nat) (ms : List Int) : List (List Nat) := (List.range ms.length).map fun i => roundsT (ms.take (i + 1)) l
theorem rounds_next (l : List Nat) (ms : List Int) (i : Nat) (h : i < ms.length) : roundsT (ms.take (i + 1)) l = nextT (ms.getD i 0) (roundsT (ms.take i) l) := by
  rw [take_snoc ms i h]
  unfold roundsT
  rw [List.foldl_append]
  rfl
theorem texts_len (l : List Nat) (ms : List Int) : (textsT l ms).length = ms.length := by simp [textsT]
theorem texts_next (l : List Nat) (ms : List Int) (i : Nat) (h : i < ms.length) : (textsT l ms).take (i + 1) = (textsT l ms).take i ++ [roundsT (ms.take (i + 1)) l] := by
  rw [List.take_succ_eq_append_getElem (by rw [texts_len]; exact h)]
  simp [textsT]
theorem next_ne (m : Int) (l : List Nat) (h : l ≠ []) : nextT m l ≠ [] := by
  cases l with
  | nil => exact absurd rfl h
  | cons a l =>
    have e : nextT m (a :: l) = sign1 m a ++ nextT m l := by simp [nextT]
    rw [e]
    unfold sign1
    split <;> simp
theorem rounds_facts (ms : List Int) : ∀ l : List Nat, (∀ c ∈ l, c < 256) → l ≠ [] → (∀ c ∈ roundsT ms l, c < 256) ∧ roundsT ms l ≠ [] ∧ (roundsT ms l).length ≤ 2 ^ ms.length * l.length := by
  induction ms with
  | nil => intro l h1 h2; exact ⟨h1, h2, by simp [roundsT]⟩
  | cons m ms ih =>
    intro l h1 h2
    have := ih (nextT m l) (nextT_lt m l h1) (next_ne m l h2)
    refine ⟨this.1, this.2.1, Nat.le_trans this.2.2 ?_⟩
    rw [List.length_cons, Nat.pow_succ, Nat.mul_assoc]
    exact Nat.mul_le_mul_left _ (nextT_len m l)
theorem rounds_small (ms : List Int) (l : List Nat) (h1 : ∀ c ∈ l, c < 256) (h2 : l ≠ []) (hm : ms.length ≤ 10) (hz : l.length ≤ 10) : (roundsT ms l).length ≤ 20000 := by
  have a := (rounds_facts ms l h1 h2).2.2
  have b : 2 ^ ms.length ≤ 2 ^ 10 := Nat.pow_le_pow_right (by decide) hm
  have c : 2 ^ ms.length * l.length ≤ 2 ^ 10 * 10 := Nat.mul_le_mul b hz
  omega
noncomputable def rdB (f lm I : Addr) (l : List Nat) (u : Tok) : Str → Option Value := fun y => if y = Str.ofString "it" then some (.ref I) else [(Str.ofString "function", Value.ref f), (Str.ofString "sequence", .ref lm), (Str.ofString "initial", .str (tx l) u)].reverse.lookup y
theorem beg_rd (f lm I : Addr) (l : List Nat) (u : Tok) (ms : List Int) : (fun y => if y = Str.ofString "value" then some (Value.str (tx l) u) else rdB f lm I l u y) = fun y => if y = Str.ofString "value" then some (.str (tx (roundsT (ms.take 0) l)) u) else if y = Str.ofString "element" then none else rdB f lm I l u y :=
  beg2 rfl (by decide)
noncomputable def refsOf (ps : List (Addr × Obj)) : List Value := ps.map fun p => .ref p.1
section
variable {prog : Program} {w : World} {A : Around} {E : Value → Shared → Prop} {s : Shared}
theorem Iter_iterV {h₀ : Heap} {env : Env} {m : Str → Option Value} {news : List (Addr × Obj)} {x : Str} {body : List Stmt} {Q : Flow → Shared → Prop} {I l : Addr} {items : Array Value} (hh : A.handled = none) (hit : s.heap.IsListIter I l 0) (hl : s.heap.IsList l items) (hne : l ≠ I) (hL : l ≠ env.locals) (hIL : I ≠ env.locals) (hI0 : h₀.get? I = none)
    (F : Fr h₀ env.locals s.heap m) (N : News h₀ env.locals s.heap news) (hN : ∀ p ∈ news, p.1 ≠ I)
    (J : Nat → (Str → Option Value) → List (Addr × Obj) → Prop) (h0 : J 0 m news)
    (turn : ∀ i v m₁ news₁ s₁ own, (∃ h tk, s₁ = { s with heap := h, toks := tk }) → i < items.size → items[i]? = some v → J i m₁ news₁ → (∀ p ∈ news₁, p.1 ≠ I) → (∀ p ∈ own, p.1 = I ∨ p.1 = l) → (∃ o, s₁.heap.get? I = some o) →
      Fr h₀ env.locals s₁.heap (fun y => if y = x then some v else m₁ y) → News h₀ env.locals s₁.heap (own ++ news₁) →
      wpAny (model prog w) A (execs body env) (LoopStepV h₀ env.locals [I] own (J (i + 1)) s₁ (fun v s' => Q (.ret v) s') fun s' => Q .next s') E s₁)
    (done : ∀ h' tk m' news', Fr h₀ env.locals h' m' → News h₀ env.locals h' news' → J items.size m' news' → Q .next { s with heap := h', toks := tk }) :
    wpAny (model prog w) A (pyIter (.ref I)) (fun it s₂ => LoopAtV prog w A h₀ env x body Q E it s₂) E s := by
  refine wpAny_pyIter_listiter hit ?_
  refine ⟨I, [I, l], [I], items.size, _, _, m, news, J, rfl, Walks.list hh _ l hne items, ?_, ?_, ?_, ⟨hit, hl⟩, F, N, h0, ?_, ?_⟩
  · simp only [List.mem_cons, List.not_mem_nil, or_false, not_or]; exact ⟨fun e => hIL e.symm, fun e => hL e.symm⟩
  · intro b hb; simp only [List.mem_cons, List.not_mem_nil, or_false] at hb; subst hb; exact hI0
  · intro p hp hb
    simp only [List.mem_cons, List.not_mem_nil, or_false] at hb
    exact hN p hp hb
  · intro i v m₁ news₁ s₁ own hs hi hP hJ hn hown hgot hall hst F₁ N₁
    exact turn i v m₁ news₁ s₁ own hs hi hP hJ (fun p hp e => hn p hp (by simp [e])) (fun p hp => by simpa using hown p hp) (let ⟨o, e, _⟩ := hst.1; ⟨o, e⟩) F₁ N₁
  · intro h' tk m' news' F' N' _ hJ
    exact done h' tk m' news' F' N' hJ
end
section
variable {prog : Program} {w : World} {A : Around} {s : Shared} {mg mb : Str → Option Value} {E Q : Value → Shared → Prop}
theorem call_iter {h₀ : Heap} {L l : Addr} {m : Str → Option Value} {news : List (Addr × Obj)} {items : Array Value} {Q : Value → Shared → Prop} (F : Fr h₀ L s.heap m) (N : News h₀ L s.heap news) (hl : s.heap.IsList l items)
    (h : ∀ h', Fr h₀ L h' m → News h₀ L h' ((s.heap.objs.size, { cls := .type "list_iterator", data := .fields #[.ref l, .int 0 0] }) :: news) → Q (.ref s.heap.objs.size) { s with heap := h' }) :
    wpAny (model prog w) A (call (.builtin "iter") [.ref l]) Q E s := by
  refine PySem.Calls.call_function_entry (by decide +kernel) (by decide +kernel) kdk_entry_iter (kdk_args_iter _) ?_
  unfold Builtin.«iter»
  refine wpAny_bind (m := someArgs "iter" 1 2 _) (wpAny_of_eq (a := [Value.ref l]) (by first | rfl | kernel_rfl!) ?_)
  show wpAny _ _ (pyIter (.ref l) >>= _) _ _ _
  refine wpAny_bind (wpAny_pyIter_list hl ?_)
  exact wpAny_pure ⟨_, rfl, h _ (F.push _) (News.push F N _ rfl)⟩
theorem fnat_at {h₀ h : Heap} {L f : Addr} {m : Str → Option Value} (F : Fr h₀ L h m) (X : FnAt f h₀) : FnAt f h := by
  obtain ⟨oc, od, fd, sl, e⟩ := X
  exact ⟨oc, od, fd, sl, F.keep _ _ e⟩
local macro_rules | `(tactic| walk_at "call builtin:iter") => `(tactic| (refine call_iter (by assumption) (by assumption) (Fr.lst (by assumption) (by assumption)) ?_; intro h5 F5 N5))
local macro_rules | `(tactic| walk_at "callWith ref") => `(tactic| (refine callWith_F (fnat_at (by assumption) (by assumption)) ?_))
local macro_rules | `(tactic| walk_at "FnAt") => `(tactic| (exact fnat_at (by assumption) (by assumption)))
local macro_rules | `(tactic| walk_at "call ref") => `(tactic| ((with_reducible show wpAny _ _ (call (Value.ref _) [Value.str _ _, Value.int _ _]) _ _ _); refine stopHere ?_))
local macro_rules | `(tactic| walk_at "compareOp Is") => `(tactic| (refine wpAny_is_other (by rfl) (by intro x; cases x) ?_))
local macro_rules | `(tactic| walk_at "exec For") => `(tactic| (with_unfolding_all ((rename Fr _ _ _ _ => F'); (rename ForV => V'); (refine For_V V' F' (by rfl) (by rfl) ?_))))
set_option maxHeartbeats 1000000 in
theorem c_reduce {g : Heap} {f cR R lm : Addr} {fo oc : Obj} {pm cdv ct doc : Value} {l : List Nat} {u : Tok} {mvs : List Value} {ms : List Int}
    (X : (KK w.params).In g) (T : TopRead qP looseQ mg mb g) (st : g.StaysIn s.heap) (hR0 : g.get? R = none) (hC0 : g.get? cR = none)
    (hf : s.heap.get? f = some fo) (hfd : fo.data = .func (fnX (Str.ofString "step") sQual sArgs sBody sScope [(Str.ofString "readings", cR)] .none .none doc pm none cdv ct)) (hcd : s.heap.CodeRec cdv sQual)
    (hcR : s.heap.get? cR = some oc) (hoc : oc.data = .cell (some (.ref R))) (hRl : s.heap.get? R = some (listO [] 0)) (hlm : s.heap.IsList lm mvs.toArray) (hms : IntsAre mvs ms) (hmR : lm ≠ R) (hmz : ms.length ≤ 10)
    (hl : ∀ c ∈ l, c < 256) (hne : l ≠ []) (hz : l.length ≤ 10) (hh : A.handled = none) (hd : A.depth + 4 < recursionLimit) (hu : A.units + 70 < cLine)
    (hq : ∀ t h' tk ps, (∀ b o, b ≠ R → s.heap.get? b = some o → h'.get? b = some o) → h'.get? R = some (listO (refsOf ps) ps.length) →
      (∀ p ∈ ps, h'.get? p.1 = some p.2 ∧ s.heap.get? p.1 = none) → Told ps (textsT l ms) → Q (.str (tx (roundsT ms l)) t) { s with heap := h', toks := tk }) :
    wpAny (model prog w) A (call (.ref 132) [.ref f, .ref lm, .str (tx l) u]) Q E s := by
  have X1 : (KK w.params).In s.heap := X.keeps st
  have T1 := T.keeps st
  refine enter_fn 33 132 (.ref 125) (.str (Str.ofString "cpy313.functools") 1950) 131 (binds := [(Str.ofString "function", .ref f), (Str.ofString "sequence", .ref lm), (Str.ofString "initial", .str (tx l) u)]) X1 T1 rfl rfl rfl (by omega) (binds_K X1 rfl (o := o125) rfl rfl rfl rfl) (by decide) (locs rfl) rfl rfl rfl ?_
  intro h₁ F0
  have st0 : g.StaysIn (hideAll s.heap [R]) := fun b o e => hideAll_get _ (st b o e) (by
    simp only [List.mem_cons, List.not_mem_nil, or_false]
    exact fun q => (by rw [q, hR0] at e; cases e))
  have X0 : (KK w.params).In (hideAll s.heap [R]) := X.keeps st0
  have T0 := T.keeps st0
  have F : Fr (hideAll s.heap [R]) s.heap.objs.size h₁ (fun x => [(Str.ofString "function", Value.ref f), (Str.ofString "sequence", .ref lm), (Str.ofString "initial", .str (tx l) u)].reverse.lookup x) :=
    ⟨F0.ns, fun b o e => F0.keep b o (of_hideAll _ e), Nat.le_of_eq (hideAll_size _ _)⟩
  have hLR : R < s.heap.objs.size := Heap.lt_size hRl
  have N : News (hideAll s.heap [R]) s.heap.objs.size h₁ [(R, listO [] 0)] := by
    intro p hp
    rw [List.mem_singleton.mp hp]
    exact ⟨F0.keep _ _ hRl, Nat.ne_of_lt hLR, hideAll_none _ (by simp)⟩
  have hl1 : (hideAll s.heap [R]).IsList lm mvs.toArray := by
    obtain ⟨o, e, r⟩ := hlm
    exact ⟨o, hideAll_get _ e (by simpa using hmR), r⟩
  have hne_of : ∀ {b : Addr} {o : Obj}, s.heap.get? b = some o → o.data ≠ .seq #[] 0 → (hideAll s.heap [R]).get? b = some o := fun {b o} e hd => hideAll_get _ e (by
    simp only [List.mem_cons, List.not_mem_nil, or_false]
    intro q
    rw [q, hRl] at e
    cases e
    exact hd rfl)
  have hf0 := hne_of hf (by rw [hfd]; intro q; cases q)
  have hcR0 := hne_of hcR (by rw [hoc]; intro q; cases q)
  have hcd0 : (hideAll s.heap [R]).CodeRec cdv sQual := by
    obtain ⟨c, o, vs, t, e1, e2, e3, e4⟩ := hcd
    exact ⟨c, o, vs, t, e1, hne_of e2 (by rw [e3]; intro q; cases q), e3, e4⟩
  clear F0
  have hRI : R ≠ h₁.objs.size := Nat.ne_of_lt (Heap.lt_size (News.get N (.head _)))
  have hmI : lm ≠ h₁.objs.size := Nat.ne_of_lt (lt_of_list (F.lst hl1))
  have hmL : lm < s.heap.objs.size := lt_of_list hlm
  have hFV : ForV := trivial
  k_steps
  rename Fr _ _ _ _ => F3
  rename News _ _ _ _ => N3
  have hIget := N3 _ (.head _)
  rename IntsAre _ _ => hms
  have hh' : (A.deeper (fEnv 33 s.heap.objs.size 132 (.ref 131))).handled = none := hh
  have hd' : (A.deeper (fEnv 33 s.heap.objs.size 132 (.ref 131))).depth + 3 < recursionLimit := hd
  have hu' : (A.deeper (fEnv 33 s.heap.objs.size 132 (.ref 131))).units + 67 < cLine := by rw [units_deeper]; omega
  have hszm : mvs.toArray.size = ms.length := by have := ints_size hms; omega
  have hfn : FnAt f (hideAll s.heap [R]) := by
    obtain ⟨oc', od', dt', sl'⟩ := fo
    have hfd' : dt' = .func _ := hfd
    subst hfd'
    exact ⟨_, _, _, _, hf0⟩
  refine Iter_iterV (l := lm) (items := mvs.toArray) hh' ⟨_, hIget.1, rfl, rfl⟩ (F3.lst hl1) hmI (Nat.ne_of_lt hmL) hIget.2.1 hIget.2.2 F3 (fun p hp => N3 p (.tail _ hp)) (fun p hp => by rw [List.mem_singleton.mp hp]; exact hRI)
    (fun i m' nw => ∃ ps, nw = (R, listO (refsOf ps) ps.length) :: ps ∧ Told ps ((textsT l ms).take i) ∧ (∀ p ∈ ps, p.1 ≠ R) ∧ ∃ tv ev, m' = fun y => if y = Str.ofString "value" then some (.str (tx (roundsT (ms.take i) l)) tv) else if y = Str.ofString "element" then ev else rdB f lm h₁.objs.size l u y)
    ⟨[], rfl, .nil, (fun _ h => nomatch h), u, none, beg_rd f lm h₁.objs.size l u ms⟩ ?_ ?_
  · intro i v m₁ news₁ s₁ own hs hiv hv hJ hoff hown hlive F₁ N₁
    obtain ⟨h2, tk2, rfl⟩ := hs
    obtain ⟨ps, rfl, hT, hpR, tv, ev, rfl⟩ := hJ
    have hil : i < ms.length := by omega
    obtain ⟨te, rfl⟩ : ∃ te, v = .int (ms.getD i 0) te := ints_at hms hil hv
    have hfa := rounds_facts (ms.take i) l hl hne
    have hsm := rounds_small (ms.take i) l hl hne (by rw [List.length_take]; omega) hz
    have F₀ := F₁
    have N₀ := N₁
    k_steps
    unfold Stop
    refine c_step X T (fun b o e => F₀.keep b o (st0 b o e)) hR0 hC0 (F₀.keep _ _ hf0) hfd (hcd0.keeps F₀.keep) (F₀.keep _ _ hcR0) hoc (News.get N₀ (List.mem_append_right _ (.head _))) hfa.1 hfa.2.1 hsm hh' hd' hu' (by
      have := hT.len
      rw [List.length_take] at this
      simp only [refsOf, List.length_map]
      omega) ?_
    intro t h3 tk3 a t1 t2 hkeep hR3 ha3 hnew
    rw [← rounds_next l ms i hil] at ha3 ⊢
    have haR : a ≠ R := by
      intro e
      have := News.get N₀ (List.mem_append_right _ (.head _))
      rw [← e, hnew] at this
      cases this
    have hold : ∀ b, (hideAll s.heap [R]).get? b ≠ none → b ≠ R := fun b hb e => hb (by rw [e]; exact hideAll_none _ (by simp))
    have F2 : Fr (hideAll s.heap [R]) s.heap.objs.size h3 _ := ⟨F₀.ns.at' fun o e => hkeep _ o (Nat.ne_of_gt hLR) e, fun b o e => hkeep b o (hold b (by rw [e]; exact Option.some_ne_none _)) (F₀.keep b o e), F₀.above⟩
    have N2 : News (hideAll s.heap [R]) s.heap.objs.size h3 (own ++ ((R, listO (refsOf (ps ++ [(a, tupO (roundsT (ms.take (i + 1)) l) t1 t2)])) (ps ++ [(a, tupO (roundsT (ms.take (i + 1)) l) t1 t2)]).length) :: (ps ++ [(a, tupO (roundsT (ms.take (i + 1)) l) t1 t2)]))) := by
      intro p hp
      rcases List.mem_append.mp hp with hp | hp
      · have h1 := N₀ p (List.mem_append_left _ hp)
        refine ⟨hkeep _ _ ?_ h1.1, h1.2⟩
        rcases hown p hp with e | e
        · rw [e]; exact Ne.symm hRI
        · rw [e]; exact hmR
      · rcases List.mem_cons.mp hp with rfl | hp
        · refine ⟨?_, (N₀ _ (List.mem_append_right _ (.head _))).2⟩
          have e : refsOf (ps ++ [(a, tupO (roundsT (ms.take (i + 1)) l) t1 t2)]) = refsOf ps ++ [.ref a] := by simp [refsOf]
          rw [e, List.length_append, List.length_singleton]
          exact hR3
        · rcases List.mem_append.mp hp with hp | hp
          · have h1 := N₀ p (List.mem_append_right _ (.tail _ hp))
            exact ⟨hkeep _ _ (hpR p hp) h1.1, h1.2⟩
          · rw [List.mem_singleton.mp hp]
            refine ⟨ha3, fun e => ?_, ?_⟩
            · obtain ⟨o, _, _, e2, _⟩ := F₀.ns
              have e3 := hnew.symm.trans ((congrArg _ e).trans e2)
              cases e3
            · cases e : (hideAll s.heap [R]).get? a with
              | none => rfl
              | some o =>
                have e2 := F₀.keep _ _ e
                rw [hnew] at e2
                cases e2
    clear F₁ N₁
    k_steps
    rename Fr _ _ _ _ => FF
    rename News _ _ _ _ => NN
    refine LoopStepU.intro FF NN (fun p hp => ?_) ⟨ps ++ [(a, tupO (roundsT (ms.take (i + 1)) l) t1 t2)], rfl, ?_, ?_, _, _, sp_names _ _ _ _ _ _ _⟩
    · have haI : a ≠ h₁.objs.size := fun e => by
        obtain ⟨o9, e9⟩ := hlive
        have e3 := hnew.symm.trans ((congrArg _ e).trans e9)
        cases e3
      simp only [List.mem_cons, List.not_mem_nil, or_false]
      rcases List.mem_cons.mp hp with rfl | hp
      · exact hRI
      · rcases List.mem_append.mp hp with hp | hp
        · exact hoff p (.tail _ hp)
        · rw [List.mem_singleton.mp hp]; exact haI
    · rw [texts_next l ms i hil]
      exact hT.snoc
    · intro p hp
      rcases List.mem_append.mp hp with hp | hp
      · exact hpR p hp
      · rw [List.mem_singleton.mp hp]; exact haR
  · intro h' tk' m' news' F' N' hJ
    obtain ⟨ps, rfl, hT, hpR, tv, ev, rfl⟩ := hJ
    have hT2 := hT
    rw [hszm, ← texts_len l ms, List.take_length] at hT2
    rw [hszm, List.take_length] at F'
    have F₀ := F'
    have N₀ := N'
    k_steps
    refine hq _ _ _ ps (fun b o hb e => F₀.keep b o (hideAll_get _ e (by simpa using hb))) (News.get N₀ (.head _)) (fun p hp => ⟨News.get N₀ (.tail _ hp), ?_⟩) hT2
    cases e : s.heap.get? p.1 with
    | none => rfl
    | some o =>
      have h1 := (N₀ p (.tail _ hp)).2.2
      rw [hideAll_get _ e (by simpa using hpR p hp)] at h1
      cases h1
end
end Mine
end
theorem Mine.anewU1 : True := by first | walk1 | trivial
section
open PySem PySem.W PyProof.Rows
open PySem.Builtin
namespace Mine
noncomputable def rQual : Str := Str.ofString "_law_rounds"
theorem cl_r (c : Addr) : (cellsFrom c (fScope 39).names []).lookup (Str.ofString "readings") = some c := by kernel_rfl
theorem kind_r (L f : Addr) (cdv : Value) (cl : List (Str × Addr)) : (envX rQual (fScope 39) L f cdv cl).kindOf (Str.ofString "readings") = some .cell := by kernel_rfl
theorem ne_of_cls {h : Heap} {a b : Addr} {o o' : Obj} (e : h.get? a = some o) (e' : h.get? b = some o') (hc : o.cls ≠ o'.cls) : a ≠ b := by
  intro q
  rw [q, e'] at e
  cases e
  exact hc rfl
theorem none_base {h : Heap} {l : List Addr} {a : Addr} (e : (hideAll h l).get? a = none) (hn : a ∉ l) : h.get? a = none := by
  cases e2 : h.get? a with
  | none => rfl
  | some o => rw [hideAll_get _ e2 hn] at e; cases e
section
variable {prog : Program} {w : World} {A : Around} {s : Shared} {mg mb : Str → Option Value} {E Q : Value → Shared → Prop}
local macro_rules | `(tactic| walk_at "storeName") => `(tactic| ((with_reducible show wpAny _ _ (storeName _ (Str.ofString "readings") _) _ _ _); refine stopHere ?_))
local macro_rules | `(tactic| walk_at "exec FunctionDef") => `(tactic| (refine stopHere ?_))
local macro_rules | `(tactic| walk_at "call ref") => `(tactic| ((with_reducible show wpAny _ _ (call (Value.ref 132) _) _ _ _); refine stopHere ?_))
local macro_rules | `(tactic| walk_at "eval Name") => `(tactic| ((with_reducible show wpAny _ _ (PySem.eval (Expr.Name (Str.ofString "readings") _) _) _ _ _); (rename News _ _ _ _ => N'); (refine nameX_C N' (cl_r _) (.tail _ (.head _)) (by assumption) ?_ (by rfl) (kind_r _ _ _ _))))
set_option maxHeartbeats 1000000 in
theorem c_rounds {g : Heap} {p₀ : Program} {l₀ : List Str} {mean : ExcName → Option Value} {lm : Addr} {l : List Nat} {u : Tok} {mvs : List Value} {ms : List Int}
    (X : (KK w.params).In g) (T : TopRead qP looseQ mg mb g) (TT : Top p₀ l₀ mean mg mb g) (C : CodeHd g 166 162) (st : g.StaysIn s.heap) (hg0 : g.get? 162 = none) (h162 : s.heap.get? 162 = some (tabObj #[]))
    (hlm : s.heap.IsList lm mvs.toArray) (hms : IntsAre mvs ms) (hmz : ms.length ≤ 10)
    (hl : ∀ c ∈ l, c < 256) (hne : l ≠ []) (hz : l.length ≤ 10) (hh : A.handled = none) (hd : A.depth + 5 < recursionLimit) (hu : A.units + 73 < cLine)
    (hq : ∀ t h' tk a R ps, (∀ b o, b ≠ 162 → s.heap.get? b = some o → h'.get? b = some o) → h'.get? a = some ⟨.type "tuple", none, .seq #[.ref R, .str (tx (roundsT ms l)) t] 0, #[]⟩ → s.heap.get? a = none → h'.get? R = some (listO (refsOf ps) ps.length) → s.heap.get? R = none →
      (∀ p ∈ ps, h'.get? p.1 = some p.2 ∧ s.heap.get? p.1 = none) → Told ps (textsT l ms) → (∃ qs, h'.get? (162 : Nat) = some (tabObj qs)) → Q (.ref a) { s with heap := h', toks := tk }) :
    wpAny (model prog w) A (call (.ref 167) [.str (tx l) u, .ref lm]) Q E s := by
  have X1 : (KK w.params).In s.heap := X.keeps st
  have T1 := T.keeps st
  refine enter_cells (fo := o167) (name := rQual) (qual := rQual) (params := fArgs 39) (body := fBody 39) (scope := fScope 39) (cl := []) (dV := .none) (kV := .none) (doc := .none) (pm := .str (Str.ofString "law_op0047_01") 1965) (cdv := .ref 166) (ct := .none) (an := none) (binds := [(Str.ofString "start", .str (tx l) u), (Str.ofString "masks", .ref lm)]) (X1 167 _ rfl) rfl (codeRec_of X1 rfl) T1.nolimit (by omega) (.of_eq rfl) (locs rfl) ?_
  intro h₁ hns hsb
  have kp : ∀ b o, s.heap.get? b = some o → h₁.get? b = some o := fun b o e => hsb.extBut b o (Nat.ne_of_lt (Heap.lt_size e)) (pushCells_keeps _ _ _ _ (Heap.get?_push_of_some _ e))
  have F : Fr (hideAll s.heap [162]) s.heap.objs.size h₁ (fun x => [(Str.ofString "start", Value.str (tx l) u), (Str.ofString "masks", .ref lm)].reverse.lookup x) :=
    ⟨hns, fun b o e => kp b o (of_hideAll _ e), Nat.le_of_eq (hideAll_size _ _)⟩
  have hcell : h₁.get? (s.heap.objs.size + 1) = some { cls := .type "cell", data := .cell none } := by
    refine hsb.extBut (s.heap.objs.size + 1) _ (Nat.ne_of_gt (Nat.lt_succ_self _)) ?_
    show ((s.heap.push { cls := .type "frame", data := .dict #[] }).push { cls := .type "cell", data := .cell none }).get? _ = _
    have := Heap.get?_push_size (s.heap.push { cls := .type "frame", data := .dict #[] }) (o := { cls := .type "cell", data := .cell none }) rfl
    rw [Heap.size_push] at this
    exact this
  have hP : (162 : Nat) < s.heap.objs.size := Heap.lt_size h162
  have N : News (hideAll s.heap [162]) s.heap.objs.size h₁ [(s.heap.objs.size + 1, { cls := .type "cell", data := .cell none }), ((162 : Nat), tabObj #[])] := by
    intro p hp
    simp only [List.mem_cons, List.not_mem_nil, or_false] at hp
    rcases hp with rfl | rfl
    · exact ⟨hcell, by show s.heap.objs.size + 1 ≠ s.heap.objs.size; omega, Heap.get?_none_of_le (by rw [hideAll_size]; show s.heap.objs.size ≤ s.heap.objs.size + 1; omega)⟩
    · exact ⟨kp _ _ h162, Nat.ne_of_lt hP, hideAll_none _ (by simp)⟩
  have st0 : g.StaysIn (hideAll s.heap [162]) := fun b o e => hideAll_get _ (st b o e) (by
    simp only [List.mem_cons, List.not_mem_nil, or_false]
    exact fun q => (by rw [q, hg0] at e; cases e))
  have X0 : (KK w.params).In (hideAll s.heap [162]) := X.keeps st0
  have T0 := T.keeps st0
  have TT0 := TT.keeps st0
  have C0 : CodeHd (hideAll s.heap [162]) 166 162 := C.keeps st0
  have hm1 : (hideAll s.heap [162]).IsList lm mvs.toArray := by
    obtain ⟨o, e, hc, r⟩ := hlm
    refine ⟨o, hideAll_get _ e ?_, hc, r⟩
    simp only [List.mem_cons, List.not_mem_nil, or_false]
    intro q
    rw [q, h162] at e
    cases e
    cases hc
  k_steps
  unfold Stop
  rename Addr => R
  rename News _ _ _ _ => N1
  rename Fr _ _ _ _ => F1
  rename _ ∧ _ => l1
  refine storeX_C F1 N1 (cl_r _) (.tail (Nat.ne_of_gt l1.1) (.head fun p hp => by rw [List.mem_singleton.mp hp]; exact Nat.ne_of_lt (Nat.lt_succ_of_lt hP))) rfl ?_ (by rfl) (kind_r _ _ _ _)
  intro h2 o2 F2 N2 d2
  k_steps
  unfold Stop
  rename Fr _ _ _ _ => F3
  rename News _ _ _ _ => N3
  refine nestDef_K (by rfl) (by rfl) (by rfl) ?_
  refine nest_K (clos := [(Str.ofString "readings", s.heap.objs.size + 1)]) F3 N3 TT0 C0 rfl (.tail (Nat.ne_of_gt l1.2) (.tail (Nat.ne_of_gt (Nat.lt_succ_of_lt hP)) (.head fun _ h => nomatch h))) (by kn_triples) (by rfl) (by rfl) ?_
  intro f c' oc vs t ctv doc h4 tk4 F4 N4 e1 e2 l3 l4
  k_steps
  unfold Stop
  rename Fr _ _ _ _ => F5
  rename News _ _ _ _ => N5
  rename IntsAre _ _ => hms
  have hLm : lm < s.heap.objs.size := lt_of_list hlm
  have hmR : lm ≠ R := Nat.ne_of_lt (Nat.lt_trans hLm (Nat.lt_trans (Nat.lt_succ_self _) l1.1))
  have gnone : ∀ b, (hideAll s.heap [162]).get? b = none → g.get? b = none := fun b e => by
    cases e2 : g.get? b with
    | none => rfl
    | some o => rw [st0 _ _ e2] at e; cases e
  have gR := N5 _ (.tail _ (.tail _ (.head _)))
  have gC := N5 _ (.tail _ (.tail _ (.tail _ (.head _))))
  have gT := N5 _ (.tail _ (.tail _ (.tail _ (.tail _ (.head _)))))
  refine c_reduce X T (fun b o e => F5.keep b o (st0 b o e)) (gnone _ gR.2.2) (gnone _ gC.2.2) (News.get N5 (.head _)) rfl (codeRec_news N5 (.tail _ (.head _)) e1 e2) gC.1 d2 gR.1 (F5.lst hm1) hms hmR hmz hl hne hz hh (by show A.depth + 1 + 4 < recursionLimit; omega) (by rw [units_deeper]; omega) ?_
  intro t9 h5 tk5 ps hkeep hR5 hps hT
  have hCR : s.heap.objs.size + 1 ≠ R := Nat.ne_of_lt l1.1
  have hTR : (162 : Nat) ≠ R := Nat.ne_of_lt l1.2
  have hLR : s.heap.objs.size ≠ R := Nat.ne_of_lt (Nat.lt_of_succ_lt l1.1)
  have hold : ∀ b o, (hideAll s.heap [162]).get? b = some o → b ≠ R := fun b o e q => by
    rw [q, gR.2.2] at e
    cases e
  have F6 : Fr (hideAll s.heap [162]) s.heap.objs.size h5 _ := ⟨F5.ns.at' fun o e => hkeep _ o hLR e, fun b o e => hkeep b o (hold b o e) (F5.keep b o e), F5.above⟩
  have N6 : News (hideAll s.heap [162]) s.heap.objs.size h5 ((R, listO (refsOf ps) ps.length) :: (s.heap.objs.size + 1, o2) :: ((162 : Nat), tabObj (#[] ++ #[rawInt 134, rawInt 4, Value.ref c'])) :: ps) := by
    intro p hp
    rcases List.mem_cons.mp hp with rfl | hp
    · exact ⟨hR5, gR.2⟩
    rcases List.mem_cons.mp hp with rfl | hp
    · exact ⟨hkeep _ _ hCR gC.1, gC.2⟩
    rcases List.mem_cons.mp hp with rfl | hp
    · exact ⟨hkeep _ _ hTR gT.1, gT.2⟩
    · refine ⟨(hps p hp).1, fun e => ?_, ?_⟩
      · obtain ⟨o, _, _, e2, _⟩ := F5.ns
        have e3 := (hps p hp).2.symm.trans ((congrArg _ e).trans e2)
        cases e3
      · cases e : (hideAll s.heap [162]).get? p.1 with
        | none => rfl
        | some o =>
          have e3 := (hps p hp).2.symm.trans (F5.keep _ _ e)
          cases e3
  have hpT : ∀ p ∈ ps, p.1 ≠ 162 := fun p hp e => by
    have e3 := (hps p hp).2.symm.trans ((congrArg _ e).trans gT.1)
    cases e3
  clear F5 N5
  k_steps
  rename Fr _ _ _ _ => F7
  rename News _ _ _ _ => N7
  rename _ ∧ _ => l7
  have n162 : ∀ b : Addr, b ≠ (162 : Nat) → b ∉ [(162 : Nat)] := fun b hb => by simpa using hb
  refine hq t9 _ _ _ R ps (fun b o hb e => F7.keep b o (hideAll_get _ e (n162 b hb))) (News.get N7 (.head _)) (none_base (N7 _ (.head _)).2.2 (n162 _ (Nat.ne_of_gt l7.2.2.1)))
    (News.get N7 (.tail _ (.head _))) (none_base (N7 _ (.tail _ (.head _))).2.2 (n162 _ (Ne.symm hTR))) (fun p hp => ?_) hT ⟨_, News.get N7 (.tail _ (.tail _ (.tail _ (.head _))))⟩
  have h1 := N7 p (.tail _ (.tail _ (.tail _ (.tail _ hp))))
  exact ⟨h1.1, none_base h1.2.2 (n162 _ (hpT p hp))⟩
end
end Mine
end
theorem Mine.anewV1 : True := by first | walk1 | trivial
section
open PySem PySem.W PyProof.Rows
open PySem.Builtin
namespace Mine
noncomputable def lawM (ls : Addr) (c : Nat) (tr : Tok) : Str → Option Value := fun y => if y = Str.ofString "rounds" then some (.int (2 + (c : Int)) tr) else [(Str.ofString "script", Value.ref ls)].reverse.lookup y
noncomputable def lQual : Str := Str.ofString "law"
section
variable {prog : Program} {w : World} {A : Around} {E : Value → Shared → Prop} {s : Shared} {h₀ : Heap} {L t : Addr} {m : Str → Option Value} {news : List (Addr × Obj)}
theorem sum_lst {vs : List Value} {ns : List Int} {Q : Value → Shared → Prop} (hh : A.handled = none) (F : Fr h₀ L s.heap m) (N0 : News h₀ L s.heap ((t, { cls := .type "list", data := .seq vs.toArray }) :: news)) (hi : IntsAre vs ns)
    (h : ∀ h' tk t', Fr h₀ L h' m → News h₀ L h' news → Q (.int ns.sum t') { s with heap := h', toks := tk }) :
    wpAny (model prog w) A (call (.builtin "sum") [.ref t]) Q E s := by
  have hl : s.heap.IsList t vs.toArray := News.isList N0 (.head _)
  have N : News h₀ L s.heap news := fun p hp => N0 p (.tail _ hp)
  obtain ⟨xs, hx⟩ := hi.allInts.items
  have hn : numsOf vs.toArray.toList = ns := by rw [show vs.toArray.toList = vs from rfl, hi.numsOf]
  rw [hx] at hl hn
  rw [nums_intItems] at hn
  obtain ⟨o, ho, hc, n, hd⟩ := id hl
  have hne : t ≠ s.heap.objs.size := Nat.ne_of_lt (Heap.lt_size ho)
  have hsz : (intItems xs).size = xs.size := by simp [intItems]
  have W := (Walks.list (prog := prog) (w := w) (A := A.in1) hh s.heap.objs.size t hne (intItems xs)).toS
  rw [hsz] at W
  refine call_sum_walkAnyS (wpAny_pyIter_list hl ?_)
  refine ⟨s.heap.objs.size, _, _, _, _, _, _, numAt xs, rfl, W, ⟨⟨_, Heap.get?_push_size _ rfl, rfl, rfl⟩, hl.push _⟩, fun b hb => ?_, fun i v hP => intItems_at hP, fun s' t' hm => ?_⟩
  · rcases List.mem_cons.mp hb with rfl | hb
    · exact Heap.lt_size (Heap.get?_push_size _ rfl)
    · obtain rfl := List.mem_singleton.mp hb
      exact Heap.lt_size (Heap.get?_push_of_some _ ho)
  · obtain ⟨h', g', d', tk', os'⟩ := s'
    have e1 : g' = s.gens := hm.gens
    have e2 : d' = s.drawn := hm.drawn
    have e3 : os' = s.os := hm.os
    subst e1 e2 e3
    have hk : ∀ b o, s.heap.get? b = some o → h'.get? b = some o := fun b o e => hm.heap b o (fun hb => absurd (Heap.lt_size e) ((List.mem_singleton.mp hb) ▸ Nat.lt_irrefl _)) (Heap.get?_push_of_some _ e)
    have := h h' tk' t' (F.keeps hk) (N.grown hk)
    rw [preSum_eq, List.take_of_length_le (by simp), hn]
    exact this
theorem slice_3 {value slice : Expr} {l : Addr} {vs : List Value} {ns : List Int} {vl : Value} {k : Int} {u : Tok} {ops : List Value} {Q : Value → Shared → Prop}
    (F : Fr h₀ L s.heap m) (N : News h₀ L s.heap news) (hl : s.heap.IsList l vs.toArray) (hi : IntsAre vs ns) (hz : ns.length ≤ 100) (pl : IsPart vl (some k))
    (h : ∀ h' D vs' ms, Fr h₀ L h' m → News h₀ L h' ((D, { cls := .type "list", data := .seq vs'.toArray }) :: news) → IntsAre vs' ms → Q (.ref D) { s with heap := h' })
    (hs : subscripted slice false (.ref l) (.ref s.heap.objs.size) = operate ops (getItem (.ref l) (.ref s.heap.objs.size)) := by with_unfolding_all rfl)
    (ht : ∀ r, letTemporaryGo value (.ref l) r = pure () := by intro _; with_unfolding_all rfl) :
    wpAny (model prog w) A (subscriptTail value slice (.ref l) (.ref s.heap.objs.size)) Q E { s with heap := s.heap.push { cls := .type "slice", data := .fields #[vl, .none, .int 3 u] } } := by
  refine slice_list3 F N hl pl .none (.int 3 u) (by simp) (fun h' F' N' => ?_) hs ht (by have := ints_size hi; rw [sizeLine_eq]; omega)
  refine h h' _ (slicePick vs.toArray (some k) none (some 3)).toList _ F' ?_ (hi.pick (some k) none (some 3))
  rw [Array.toArray_toList]
  exact N'
theorem addI {a b : Int} {t u : Tok} {Q : Value → Shared → Prop} (h : ∀ t' k, Q (.int (a + b) t') { s with toks := k }) : wpAny (model prog w) A (binaryOp .Add (.int a t) (.int b u)) Q E s := add_int (h _ _)
theorem mod4 {a : Int} {t u : Tok} {Q : Value → Shared → Prop} (h : ∀ (c : Nat) t' k, c < 4 → Q (.int (c : Int) t') { s with toks := k }) : wpAny (model prog w) A (binaryOp .Mod (.int a t) (.int 4 u)) Q E s := by
  refine mod_int' (by decide) ?_
  have h1 := Int.fmod_nonneg_of_pos a (b := 4) (by decide)
  have h2 := Int.fmod_lt_of_pos a (b := 4) (by decide)
  obtain ⟨c, hc⟩ := Int.eq_ofNat_of_zero_le h1
  rw [hc]
  exact h c _ _ (by omega)
theorem mod256 {a : Int} {t u : Tok} {Q : Value → Shared → Prop} (h : ∀ (c : Nat) t' k, c < 256 → Q (.int (c : Int) t') { s with toks := k }) : wpAny (model prog w) A (binaryOp .Mod (.int a t) (.int 256 u)) Q E s := by
  refine mod_int' (by decide) ?_
  have h1 := Int.fmod_nonneg_of_pos a (b := 256) (by decide)
  have h2 := Int.fmod_lt_of_pos a (b := 256) (by decide)
  obtain ⟨c, hc⟩ := Int.eq_ofNat_of_zero_le h1
  rw [hc]
  exact h c _ _ (by omega)
theorem modM {a : Int} {t u : Tok} {Q : Value → Shared → Prop} (h : ∀ c t' k, Q (.int c t') { s with toks := k }) : wpAny (model prog w) A (binaryOp .Mod (.int a t) (.int 65536 u)) Q E s :=
  mod_int' (by decide) (h _ _ _)
theorem powB {b : Int} {i : Nat} {t u : Tok} {Q : Value → Shared → Prop} (hb : b.natAbs < 2 ^ 64) (hi : i < 10) (h : ∀ t' k, Q (.int (b ^ i) t') { s with toks := k }) : wpAny (model prog w) A (binaryOp .Pow (.int b t) (.int (0 + (i : Int)) u)) Q E s := by
  refine pow_int_small (by omega) (by omega) hb ?_
  rw [show (0 + (i : Int)).toNat = i from by omega]
  exact h _ _
theorem fdivB {a b : Int} {i : Nat} {t u : Tok} {Q : Value → Shared → Prop} (hb : 1 < b.natAbs) (hb2 : b.natAbs < 2 ^ 20) (hi : i < 10) (h : ∀ c t' k, Q (.int c t') { s with toks := k }) : wpAny (model prog w) A (binaryOp .FloorDiv (.int a t) (.int (b ^ i) u)) Q E s := by
  refine floordiv_int (Int.pow_ne_zero (fun e => by rw [e] at hb; cases hb)) (h _ _ _) (.inl ?_)
  refine PyProof.noPylong_of_log2 ?_
  rw [Int.natAbs_pow]
  have h0 : b.natAbs ^ i ≠ 0 := Nat.ne_of_gt (Nat.pow_pos (by omega))
  have h1 : b.natAbs ^ i ≤ (2 ^ 20) ^ i := Nat.pow_le_pow_left (Nat.le_of_lt hb2) i
  have h2 : (2 ^ 20) ^ i ≤ (2 ^ 20) ^ 9 := Nat.pow_le_pow_right (by decide) (by omega)
  have h3 : (b.natAbs ^ i).log2 < 200 := (Nat.log2_lt h0).mpr (Nat.lt_of_le_of_lt (Nat.le_trans h1 h2) (by decide))
  omega
theorem ints_snoc {x : Int} {t : Tok} : ∀ {ys : List Value} {ms : List Int}, IntsAre ys ms → IntsAre (ys ++ [.int x t]) (ms ++ [x])
  | _, _, .nil => .cons _ _ .nil
  | _, _, .cons _ _ r => .cons _ _ (ints_snoc r)
end
section
variable {prog : Program} {w : World} {A : Around} {s : Shared} {mg mb : Str → Option Value} {E : Value → Shared → Prop} {Q : Flow → Shared → Prop}
local macro_rules | `(tactic| walk_at "binaryOp Add int int") => `(tactic| (refine addI ?_; intro t4 k4))
local macro_rules | `(tactic| walk_at "binaryOp Mod int int") => `(tactic| (first | (refine mod4 ?_; intro c4 t4 k4 b4) | (refine mod256 ?_; intro c4 t4 k4 b4) | (refine modM ?_; intro c4 t4 k4)))
local macro_rules | `(tactic| walk_at "binaryOp Pow int int") => `(tactic| (refine powB (by decide) (by omega) ?_; intro t4 k4))
local macro_rules | `(tactic| walk_at "binaryOp FloorDiv int int") => `(tactic| (refine fdivB (by decide) (by decide) (by omega) ?_; intro c4 t4 k4))
theorem cl_l1 (c : Addr) : (cellsFrom (c + 1) (fScope 40).names []).lookup (Str.ofString "first") = some (c + 1) := by kernel_rfl
theorem cl_l2 (c : Addr) : (cellsFrom (c + 1) (fScope 40).names []).lookup (Str.ofString "second") = some (c + 2) := by kernel_rfl
theorem cl_l3 (c : Addr) : (cellsFrom (c + 1) (fScope 40).names []).lookup (Str.ofString "octets") = some (c + 3) := by kernel_rfl
theorem cl_l4 (c : Addr) : (cellsFrom (c + 1) (fScope 40).names []).lookup (Str.ofString "masks") = some (c + 4) := by kernel_rfl
theorem kd_l1 (L f : Addr) (cdv : Value) (cl : List (Str × Addr)) : (envX lQual (fScope 40) L f cdv cl).kindOf (Str.ofString "first") = some .cell := by kernel_rfl
theorem kd_l2 (L f : Addr) (cdv : Value) (cl : List (Str × Addr)) : (envX lQual (fScope 40) L f cdv cl).kindOf (Str.ofString "second") = some .cell := by kernel_rfl
theorem kd_l3 (L f : Addr) (cdv : Value) (cl : List (Str × Addr)) : (envX lQual (fScope 40) L f cdv cl).kindOf (Str.ofString "octets") = some .cell := by kernel_rfl
theorem kd_l4 (L f : Addr) (cdv : Value) (cl : List (Str × Addr)) : (envX lQual (fScope 40) L f cdv cl).kindOf (Str.ofString "masks") = some .cell := by kernel_rfl
theorem tabNe {L : Addr} {o : Obj} (hP : (162 : Nat) < L) (i : Nat) : ∀ p ∈ [((162 : Nat), o)], p.1 ≠ L + i := fun p hp => by rw [List.mem_singleton.mp hp]; exact Nat.ne_of_lt (Nat.lt_of_lt_of_le hP (Nat.le_add_right _ _))
theorem addNe {L : Addr} {i j : Nat} (h : i ≠ j) : L + i ≠ L + j := fun e => h (Nat.add_left_cancel e)
theorem updC1 {L : Addr} {o1 o2 o3 o4 T : Obj} (hP : (162 : Nat) < L) : UpdF (L + 1) o1 [(L + 4, o4), (L + 3, o3), (L + 2, o2), (L + 1, o1), ((162 : Nat), T)] (fun o => [(L + 4, o4), (L + 3, o3), (L + 2, o2), (L + 1, o), ((162 : Nat), T)]) :=
  .tail (addNe (by decide)) (.tail (addNe (by decide)) (.tail (addNe (by decide)) (.head (tabNe hP 1))))
theorem updC2 {L : Addr} {o1 o2 o3 o4 T : Obj} (hP : (162 : Nat) < L) : UpdF (L + 2) o2 [(L + 4, o4), (L + 3, o3), (L + 2, o2), (L + 1, o1), ((162 : Nat), T)] (fun o => [(L + 4, o4), (L + 3, o3), (L + 2, o), (L + 1, o1), ((162 : Nat), T)]) :=
  .tail (addNe (by decide)) (.tail (addNe (by decide)) (.head fun p hp => by
    rcases List.mem_cons.mp hp with rfl | hp
    · exact addNe (by decide)
    · exact tabNe hP 2 p hp))
local macro_rules | `(tactic| walk_at "storeName") => `(tactic| ((with_reducible show wpAny _ _ (storeName _ (Str.ofString "first") _) _ _ _); refine storeX_C (by assumption) (by assumption) (cl_l1 _) (updC1 (by assumption)) (by assumption) ?_ (by rfl) (kd_l1 _ _ _ _); intro h5 o5 F5 N5 d5))
local macro_rules | `(tactic| walk_at "storeName") => `(tactic| ((with_reducible show wpAny _ _ (storeName _ (Str.ofString "second") _) _ _ _); refine storeX_C (by assumption) (by assumption) (cl_l2 _) (updC2 (by assumption)) (by assumption) ?_ (by rfl) (kd_l2 _ _ _ _); intro h5 o5 F5 N5 d5))
local macro_rules | `(tactic| walk_at "eval ListComp") => `(tactic| (refine stopHere ?_))
local macro_rules | `(tactic| walk_at "call builtin:sum") => `(tactic| (refine sum_lst (by assumption) (by assumption) (by assumption) (by assumption) ?_; intro h4 tk4 t4 F4 N4))
local macro_rules | `(tactic| walk_at "subscriptTail Name Slice ref ref") => `(tactic| (refine slice_3 (by assumption) (by assumption) (Fr.lst (by assumption) (by assumption)) (by assumption) (by omega) (.int _ _) ?_; intro h4 D4 v4 ms4 F4 N4 I4))
local macro_rules | `(tactic| walk_at "execs cons") => `(tactic| ((with_reducible show wpAny _ _ (execs (Stmt.Assign [Expr.Tuple _ _ _] _ _ :: _) _) _ _ _); refine stopHere ?_))
set_option maxHeartbeats 1000000 in
theorem law_A {h₀ : Heap} {L ls : Addr} {svs : List Value} {ns : List Int} {o1 o2 o3 o4 : Obj} {news : List (Addr × Obj)}
    (X : (KK w.params).In h₀) (T : TopRead qP looseQ mg mb h₀) (F : Fr h₀ L s.heap (fun x => [(Str.ofString "script", Value.ref ls)].reverse.lookup x))
    (N : News h₀ L s.heap [(L + 4, o4), (L + 3, o3), (L + 2, o2), (L + 1, o1), ((162 : Nat), tabObj #[])]) (d1 : o1.data = .cell none) (d2 : o2.data = .cell none) (d3 : o3.data = .cell none) (d4 : o4.data = .cell none)
    (hP : (162 : Nat) < L) (hls : h₀.IsList ls svs.toArray) (hns : IntsAre svs ns) (hz : ns.length ≤ 63) (hh : A.handled = none) (hd : A.depth + 2 < recursionLimit)
    (k : ∀ h' tk DO DM ovs mvs (os : List Nat) (ms : List Int) (c : Nat) tr oC oM, os.length = 3 → (∀ c ∈ os, c < 256) → IntsAre ovs (os.map fun c : Nat => (c : Int)) → IntsAre mvs ms → ms.length = 2 + c → c < 4 →
      oC.data = .cell (some (.ref DO)) → oM.data = .cell (some (.ref DM)) → Fr h₀ L h' (lawM ls c tr) → News h₀ L h' [(DM, LCg.lst mvs), (DO, LCg.lst ovs), (L + 4, oM), (L + 3, oC), ((162 : Nat), tabObj #[])] →
      wpAny (model prog w) A (execs ((fBody 40).drop 5) (envX lQual (fScope 40) L 172 (.ref 171) (cellsFrom (L + 1) (fScope 40).names []))) Q E { s with heap := h', toks := tk }) :
    wpAny (model prog w) A (execs (fBody 40) (envX lQual (fScope 40) L 172 (.ref 171) (cellsFrom (L + 1) (fScope 40).names []))) Q E s := by
  k_steps
  unfold Stop
  rename News _ _ _ _ => N1
  rename Fr _ _ _ _ => F1
  refine LCg.ListComp_U F1 (by rfl) (by decide) (by rfl) (by decide) (by rfl) ?_
  k_steps
  rename IsRange _ _ _ _ _ _ _ _ => IR2
  rename Fr _ _ _ _ => F2
  rename News _ _ _ _ => N2
  refine LCg.CompSrc.range hh F2 N2 IR2 (by decide) (n := 3) (by decide) (by decide) ?_
  intro g
  refine rest_ind 3 (fun i ys nw => nw = _ ∧ ∃ l : List Nat, l.length = i ∧ (∀ c ∈ l, c < 256) ∧ IntsAre ys (l.map fun c : Nat => (c : Int))) ?_ ?_ 3 0 [] _ rfl ⟨rfl, [], rfl, (fun _ h => nomatch h), .nil⟩
  · intro i ys nw v I oI C oC D m₂ h tk E' hi hInv hP hNs hm F3 N3 off hne3
    obtain ⟨rfl, l, hl, hl2, hl3⟩ := hInv
    obtain ⟨tv, rfl⟩ := hP
    k_steps
    rename Fr _ _ _ _ => F4
    rename News _ _ _ _ => N4
    rename _ < 256 => hc
    refine LCg.CompEnd.intro F4 N4 _ (fun p hp => hp) off trivial ⟨rfl, l ++ [_], by rw [List.length_append, hl]; rfl, fun c hc' => ?_, by rw [List.map_append]; exact ints_snoc hl3⟩
    rcases List.mem_append.mp hc' with h9 | h9
    · exact hl2 c h9
    · rw [List.mem_singleton.mp h9]; exact hc
  · intro ys nw hInv
    obtain ⟨rfl, os, hos, hos2, hos3⟩ := hInv
    intro DO h tk F3 N3 off
    simp only [LCg.Off1, and_true] at off
    k_steps
    unfold Stop
    rename News _ _ _ _ => N5
    rename Fr _ _ _ _ => F5
    refine LCg.ListComp_U F5 (by rfl) (by decide) (by rfl) (by decide) (by rfl) ?_
    k_steps
    rename IsRange _ _ _ _ _ _ _ _ => IR6
    rename Fr _ _ _ _ => F6
    rename News _ _ _ _ => N6
    rename _ < 4 => hc4
    refine LCg.CompSrc.range hh F6 N6 IR6 (small_one (by omega) (by omega) (by omega) (by omega)) (rangeSize_nat _ _) (by rw [sizeLine_eq]; omega) ?_
    intro g2
    refine rest_ind _ (fun i ys nw => nw = _ ∧ ∃ l : List Int, l.length = i ∧ IntsAre ys l) ?_ ?_ _ 0 [] _ (Nat.zero_add _) ⟨rfl, [], rfl, .nil⟩
    · intro i ys2 nw v I oI C oC D m₂ h tk E' hi hInv hP hNs hm F7 N7 off7 hne7
      obtain ⟨rfl, l, hl, hl3⟩ := hInv
      obtain ⟨tv, rfl⟩ := hP
      k_steps
      rename Fr _ _ _ _ => F8
      rename News _ _ _ _ => N8
      exact LCg.CompEnd.intro F8 N8 _ (fun p hp => hp) off7 trivial ⟨rfl, l ++ [_], by rw [List.length_append, hl]; rfl, ints_snoc hl3⟩
    · intro mvs nw hInv
      obtain ⟨rfl, ms, hms, hms3⟩ := hInv
      intro DM h8 tk8 F8 N8 off8
      simp only [LCg.Off1, and_true] at off8
      k_steps
      rename Fr _ _ _ _ => F9
      rename News _ _ _ _ => N9
      refine k _ _ DO DM ys mvs os ms _ _ _ _ hos hos2 hos3 hms3 (by rw [hms]; omega) hc4 (by assumption) (by assumption) F9 (fun p hp => N9 p ?_)
      rcases List.mem_cons.mp hp with rfl | hp
      · exact .head _
      rcases List.mem_cons.mp hp with rfl | hp
      · exact .tail _ (.head _)
      rcases List.mem_cons.mp hp with rfl | hp
      · exact .tail _ (.tail _ (.head _))
      rcases List.mem_cons.mp hp with rfl | hp
      · exact .tail _ (.tail _ (.tail _ (.head _)))
      · exact .tail _ (.tail _ (.tail _ (.tail _ (.tail _ (.tail _ hp)))))
end
end Mine
end
theorem Mine.anewW2 : True := by first | walk1 | trivial
section
open PySem PySem.W PyProof.Rows
open PySem.Builtin
namespace Mine
theorem join_tx : ∀ ls : List (List Nat), Txt.join (Str.ofString "") (ls.map tx) = tx ls.flatten
  | [] => rfl
  | [a] => by simp only [List.map_cons, List.map_nil, List.flatten_cons, List.flatten_nil, List.append_nil]; rfl
  | a :: b :: r => by
    have h := join_tx (b :: r)
    have e : ∀ l, Txt.join (Str.ofString "") l = Str.join (Str.ofString "") l := fun l => StrLaws.glued_eq_join _ l
    rw [e] at h ⊢
    show tx a ++ Str.ofString "" ++ Str.join (Str.ofString "") ((b :: r).map tx) = _
    rw [h, show Str.ofString "" = tx [] from by decide, tx_app, tx_app, List.append_nil]
    rfl
noncomputable def lawM2 (ls : Addr) (c : Nat) (tr : Tok) (R : Addr) (os : List Nat) (ms : List Int) (t9 : Tok) : Str → Option Value := fun y => if y = Str.ofString "last" then some (.str (tx (roundsT ms os)) t9) else if y = Str.ofString "readings" then some (.ref R) else lawM ls c tr y
theorem os_flat (os : List Nat) : (os.map fun c => [c]).flatten = os := by
  induction os with
  | nil => rfl
  | cons a r ih => rw [List.map_cons, List.flatten_cons, ih]; rfl
section
variable {prog : Program} {w : World} {A : Around} {s : Shared} {mg mb : Str → Option Value} {E : Value → Shared → Prop} {Q : Flow → Shared → Prop}
local macro_rules | `(tactic| walk_at "eval ListComp") => `(tactic| (refine stopHere ?_))
local macro_rules | `(tactic| walk_at "execs cons") => `(tactic| ((with_reducible show wpAny _ _ (execs (Stmt.Assign [Expr.Name (Str.ofString "told") _] _ _ :: _) _) _ _ _); refine stopHere ?_))
local macro_rules | `(tactic| walk_at "call builtin:str.join") => `(tactic| (refine join_listW (by assumption) (by assumption) (by decide) (by assumption) ?_; intro t4 k4; rw [join_tx]))
local macro_rules | `(tactic| walk_at "call ref") => `(tactic| ((with_reducible show wpAny _ _ (call (Value.ref 167) _) _ _ _); refine stopHere ?_))
set_option maxHeartbeats 1000000 in
theorem law_B {h₀ : Heap} {p₀ : Program} {l₀ : List Str} {mean : ExcName → Option Value} {L ls DO DM : Addr} {ovs mvs : List Value} {os : List Nat} {ms : List Int} {c : Nat} {tr : Tok} {oC oM : Obj}
    (X : (KK w.params).In h₀) (T : TopRead qP looseQ mg mb h₀) (TT : Top p₀ l₀ mean mg mb h₀) (C : CodeHd h₀ 166 162)
    (hos : os.length = 3) (ho : ∀ c ∈ os, c < 256) (hov : IntsAre ovs (os.map fun c : Nat => (c : Int))) (hmv : IntsAre mvs ms) (hms : ms.length = 2 + c) (hc : c < 4)
    (dC : oC.data = .cell (some (.ref DO))) (dM : oM.data = .cell (some (.ref DM)))
    (F : Fr h₀ L s.heap (lawM ls c tr)) (N : News h₀ L s.heap [(DM, LCg.lst mvs), (DO, LCg.lst ovs), (L + 4, oM), (L + 3, oC), ((162 : Nat), tabObj #[])])
    (hP : (162 : Nat) < L) (hh : A.handled = none) (hd : A.depth + 6 < recursionLimit) (hu : A.units + 80 < cLine)
    (k : ∀ h' tk R ps qs t9, Fr h₀ L h' (lawM2 ls c tr R os ms t9) → News h₀ L h' ((R, listO (refsOf ps) ps.length) :: (DM, LCg.lst mvs) :: (DO, LCg.lst ovs) :: (L + 4, oM) :: (L + 3, oC) :: ((162 : Nat), tabObj qs) :: ps) → Told ps (textsT os ms) →
      wpAny (model prog w) A (execs ((fBody 40).drop 6) (envX lQual (fScope 40) L 172 (.ref 171) (cellsFrom (L + 1) (fScope 40).names []))) Q E { s with heap := h', toks := tk }) :
    wpAny (model prog w) A (execs ((fBody 40).drop 5) (envX lQual (fScope 40) L 172 (.ref 171) (cellsFrom (L + 1) (fScope 40).names []))) Q E s := by
  unfold lawM at F
  k_steps
  unfold Stop
  rename Fr _ _ _ _ => F0
  refine LCg.ListComp_U F0 (by rfl) (by decide) (by rfl) (by decide) (by rfl) ?_
  k_steps
  rename Fr _ _ _ _ => F1
  rename News _ _ _ _ => N1
  have hovz : ovs.toArray.size = os.length := by have := ints_size hov; rw [List.length_map] at this; omega
  refine LCg.CompSrc.ledger hh F1 N1 (.tail _ (.head _)) (by rw [hovz, sizeLine_eq]; omega) ?_
  intro g
  refine rest_ind ovs.toArray.size (fun i ys nw => nw = _ ∧ StrsAre ys ((os.take i).map fun c => tx [c])) ?_ ?_ _ 0 [] _ (Nat.zero_add _) ⟨rfl, .nil⟩
  · intro i ys nw v I oI C oC D m₂ h tk E' hi hInv hP hNs hm F3 N3 off hne3
    obtain ⟨rfl, hys⟩ := hInv
    have hil : i < os.length := by omega
    obtain ⟨tv, rfl⟩ := ints_at hov (by rw [List.length_map]; exact hil) hP
    rw [show (os.map fun c : Nat => (c : Int)).getD i 0 = ((os.getD i 0 : Nat) : Int) from by simp [hil]] at hm
    have hc256 := ho _ (getD_mem hil)
    k_steps
    rename Fr _ _ _ _ => F4
    rename News _ _ _ _ => N4
    refine LCg.CompEnd.intro F4 N4 _ (fun p hp => hp) off (.inr ⟨_, .tail _ (.head _), rfl, _, rfl⟩) ⟨rfl, ?_⟩
    rw [take_snocN os i hil, List.map_append]
    exact strs_snoc hys
  · intro ys nw hInv
    obtain ⟨rfl, hys⟩ := hInv
    rw [hovz, List.take_length] at hys
    intro D3 h tk F3 N3 off
    simp only [LCg.Off1, and_true] at off
    have hs3 : StrsAre ys.toArray.toList ((os.map fun c => [c]).map tx) := by rw [List.map_map]; exact hys
    have hl3 : h.IsList D3 ys.toArray := News.isList N3 (.head _)
    have hj : ((((os.map fun c => [c]).map tx)).map fun x => x.length).sum + (((os.map fun c => [c]).map tx)).length ≤ 1048576 := by
      obtain ⟨a, b, c, rfl⟩ : ∃ a b c, os = [a, b, c] := by
        match os, hos with
        | [a, b, c], _ => exact ⟨a, b, c, rfl⟩
      show (1 + (1 + (1 + 0))) + 3 ≤ 1048576
      decide
    k_steps
    unfold Stop
    rw [os_flat]
    have gT := N3 _ (.tail _ (.tail _ (.tail _ (.tail _ (.tail _ (.head _))))))
    refine c_rounds X T TT C (fun b o e => F3.keep b o e) gT.2.2 gT.1 (News.isList N3 (.tail _ (.head _))) hmv (by omega) ho (by intro e; rw [e] at hos; cases hos) (by omega) hh (by omega) (by omega) ?_
    intro t9 h5 tk5 a R ps hkeep ha hna hR hnR hps hTo hT5
    obtain ⟨qs, hT5⟩ := hT5
    have hL162 : L ≠ 162 := Nat.ne_of_gt hP
    have hold : ∀ b o, h₀.get? b = some o → b ≠ 162 := fun b o e q => by
      rw [q, gT.2.2] at e
      cases e
    have hnew : ∀ {b : Addr}, h.get? b = none → b ≠ L ∧ h₀.get? b = none := by
      intro b hb
      refine ⟨fun e => ?_, ?_⟩
      · obtain ⟨o, _, _, e2, _⟩ := F3.ns
        rw [e, e2] at hb
        cases hb
      · cases e : h₀.get? b with
        | none => rfl
        | some o =>
          have e2 := F3.keep _ _ e
          rw [hb] at e2
          cases e2
    have F5 : Fr h₀ L h5 _ := ⟨F3.ns.at' fun o e => hkeep _ o hL162 e, fun b o e => hkeep b o (hold b o e) (F3.keep b o e), F3.above⟩
    have N5 : News h₀ L h5 ((a, ⟨.type "tuple", none, .seq #[.ref R, .str (tx (roundsT ms os)) t9] 0, #[]⟩) :: (R, listO (refsOf ps) ps.length) :: (DM, LCg.lst mvs) :: (DO, LCg.lst ovs) :: (L + 4, oM) :: (L + 3, oC) :: ((162 : Nat), tabObj qs) :: ps) := by
      intro p hp
      rcases List.mem_cons.mp hp with rfl | hp
      · exact ⟨ha, hnew hna⟩
      rcases List.mem_cons.mp hp with rfl | hp
      · exact ⟨hR, hnew hnR⟩
      rcases List.mem_cons.mp hp with rfl | hp
      · have z := N3 _ (.tail _ (.head _))
        exact ⟨hkeep _ _ (ne_of_cls z.1 gT.1 (by intro q; cases q)) z.1, z.2⟩
      rcases List.mem_cons.mp hp with rfl | hp
      · have z := N3 _ (.tail _ (.tail _ (.head _)))
        exact ⟨hkeep _ _ (ne_of_cls z.1 gT.1 (by intro q; cases q)) z.1, z.2⟩
      rcases List.mem_cons.mp hp with rfl | hp
      · have z := N3 _ (.tail _ (.tail _ (.tail _ (.head _))))
        exact ⟨hkeep _ _ (Nat.ne_of_gt (Nat.lt_of_lt_of_le hP (Nat.le_add_right _ _))) z.1, z.2⟩
      rcases List.mem_cons.mp hp with rfl | hp
      · have z := N3 _ (.tail _ (.tail _ (.tail _ (.tail _ (.head _)))))
        exact ⟨hkeep _ _ (Nat.ne_of_gt (Nat.lt_of_lt_of_le hP (Nat.le_add_right _ _))) z.1, z.2⟩
      rcases List.mem_cons.mp hp with rfl | hp
      · exact ⟨hT5, gT.2⟩
      · exact ⟨(hps p hp).1, hnew (hps p hp).2⟩
    have hTup : IsTup h5 a #[.ref R, .str (tx (roundsT ms os)) t9] := ⟨_, ha, rfl, 0, rfl⟩
    clear F3 N3
    refine unpackN_ F5 N5 hTup hh (by rfl) (by rfl) ?_
    intro h6 F6 N6
    clear F5 N5
    k_steps
    rename Fr _ _ _ _ => F7
    rename News _ _ _ _ => N7
    exact k _ _ R ps qs t9 F7 (fun p hp => N7 p (.tail _ hp)) hTo
end
end Mine
end
theorem Mine.anewW3 : True := by first | walk1 | trivial
section
open PySem PySem.W PyProof.Rows
open PySem.Builtin
namespace Mine
/-! a list comprehension over a range whose own name is a cell (a comprehension within reads it) -/
section
variable {prog : Program} {w : World} {A : Around} {E : Value → Shared → Prop} {s : Shared} {h₀ : Heap} {L : Addr} {m : Str → Option Value} {env : Env}
theorem newEnvX {M : Model} {scope : Scope} {globals : Addr} {closure : List (Str × Addr)} {qual : Str} {outer : Env} {Q : Env → Shared → Prop}
    (hQ : Q (newEnv scope s.heap.objs.size globals (cellsFrom (s.heap.objs.size + 1) scope.names closure) qual none .none (some outer) builtinsNs)
      { s with heap := pushCells (s.heap.push { cls := .type "dict", data := .dict #[] }) scope.names }) :
    wpAny M A (newFunctionEnv scope globals closure [] qual none .none (some outer)) Q E s := by
  simp only [newFunctionEnv, Option.isSome_some, if_true]
  simp only [newEnv] at hQ
  refine wpAny_bind (wpAny_alloc ?_)
  refine wpAny_bind (wpAny_layCells _ (fun name kind cells => by cases hkc : kind == NameKind.cell <;> simp [hkc]) _ _ _ _ ?_)
  rw [show ({ s with heap := s.heap.push { cls := .type "dict", data := .dict #[] } } : Shared).heap.objs.size = s.heap.objs.size + 1 from Heap.size_push ..]
  refine wpAny_bind ?_
  rw [List.forIn_nil]
  exact wpAny_pure (wpAny_pure hQ)
noncomputable def XEnd (h₀ : Heap) (L : Addr) (m : Str → Option Value) (s₁ : Shared) (all : List (Addr × Obj)) (J : Value → Prop) (yv : Value) (s₂ : Shared) : Prop := ∃ h' tk', s₂ = { s₁ with heap := h', toks := tk' } ∧ Fr h₀ L h' m ∧ News h₀ L h' all ∧ J yv
open PyProof.Rows.LCg in
theorem block_X {elt iter : Expr} {x : Str} {px : Pos} {scope : Scope} {cl : List (Str × Addr)} {pos : Pos} {I D C : Addr} {a : Int} {n : Nat} {news : List (Addr × Obj)} {hH : Heap} {tk0 : Nat} {RR : Result → Shared → Prop} (Inv : Nat → List Value → Prop)
    (hh : A.handled = none) (hkind : scope.kind = .function) (hx : (relabel scope env).names.lookup x = some .cell) (hcx : (cellsFrom (C + 1) scope.names cl).lookup x = some (C + 1))
    (hLI : L < I) (hID : I < D) (hDC : D < C) (hnw : ∀ p ∈ news, p.1 < I) (gI : h₀.get? I = none) (gD : h₀.get? D = none) (gC : h₀.get? C = none) (gc : h₀.get? (C + 1) = none) (hsz : n ≤ sizeLine)
    (hst : IsRangeIter hH I (a + (0 : Nat) * 1) ((n : Int) - (0 : Nat)) 1) (F : Fr h₀ L hH m) (N : News h₀ L hH news) (hD : hH.get? D = some (lst [])) (hC : hH.Ns C fun _ => none) (hc : hH.IsCell (C + 1) none) (hI0 : Inv 0 [])
    (turn : ∀ i ys I oI C oC oc D hp tk tv (E' : Value → Shared → Prop), i < n → Inv i ys → oc.data = .cell (some (.int (a + (i : Nat)) tv)) → Fr h₀ L hp m → News h₀ L hp ((C + 1, oc) :: (I, oI) :: (C, oC) :: (D, lst ys) :: news) →
        wpAny (model prog w) A (PySem.eval elt (compEnvC scope (cellsFrom (C + 1) scope.names cl) C env)) (XEnd h₀ L m s ((C + 1, oc) :: (I, oI) :: (C, oC) :: (D, lst ys) :: news) fun yv => Inv (i + 1) (ys ++ [yv])) E' { s with heap := hp, toks := tk })
    (hRR : ∀ h tk m' ys, Inv n ys → Fr h₀ L h m → News h₀ L h ((D, lst ys) :: news) → h.Ns C m' → RR (.ok .next) { s with heap := h, toks := tk }) :
    codeAny (model prog w) A (.compStart (.ListComp elt [⟨.Name x px, iter, [], 0⟩] scope pos) 0 (.ref I) (.ref D) (compEnvC scope (cellsFrom (C + 1) scope.names cl) C env)) RR { s with heap := hH, toks := tk0 } := by
  have W := range_walks (prog := prog) (w := w) (I := I) hh a n
  have nIC : C ≠ I := Nat.ne_of_gt (Nat.lt_trans hID hDC)
  have nIc : C + 1 ≠ I := Nat.ne_of_gt (Nat.lt_succ_of_lt (Nat.lt_trans hID hDC))
  have nDc : C + 1 ≠ D := Nat.ne_of_gt (Nat.lt_succ_of_lt hDC)
  have nCc : C + 1 ≠ C := Nat.ne_of_gt (Nat.lt_succ_self _)
  have nL : ∀ {b : Addr}, I ≤ b → b ≠ L := fun {b} hb => Nat.ne_of_gt (Nat.lt_of_lt_of_le hLI hb)
  have hIC : I ≤ C := Nat.le_of_lt (Nat.lt_trans hID hDC)
  have loop : codeAny (model prog w) A (.compLoop (.ListComp elt [⟨.Name x px, iter, [], 0⟩] scope pos) 0 (.ref I) (.ref D) (compEnvC scope (cellsFrom (C + 1) scope.names cl) C env)) RR { s with heap := hH, toks := tk0 } := by
    obtain ⟨oc0, hc0, hcd0⟩ := hc
    refine codeAny_compLoop_tests
      (fun k s' => ∃ h' tk i ys m' oc v0, s' = { s with heap := h', toks := tk } ∧ i ≤ n ∧ k = n + 1 - i ∧ ys.length = i ∧ IsRangeIter h' I (a + (i : Nat) * 1) ((n : Int) - (i : Nat)) 1 ∧ Fr h₀ L h' m ∧ h'.Ns C m' ∧ oc.data = .cell v0 ∧ News h₀ L h' ((C + 1, oc) :: (D, lst ys) :: news) ∧ Inv i ys) ?_ (n + 1)
      ⟨hH, tk0, 0, [], _, oc0, none, rfl, Nat.zero_le _, rfl, rfl, hst, F, hC, hcd0, fun p hp => ?_, hI0⟩
    · rintro k s' ⟨h', tk, i, ys, m', oc, v0, rfl, hi, rfl, hyl, hst', F', hn', hoc, N', hJ⟩
      by_cases hlt : i < n
      · refine W.item i _ _ _ hlt hst' fun v h₂ tk₂ hPv hst₂ hk₂ => ?_
        obtain ⟨tv, rfl⟩ := hPv
        have hk' : ∀ b o, b ≠ I → h'.get? b = some o → h₂.get? b = some o := fun b o hb e => hk₂ b o (by simpa using hb) e
        have zc := hk' _ _ nIc (N' _ (.head _)).1
        refine wpAny_assign_Name (wpAny_storeName_cell hkind hx hcx ⟨oc, zc, hoc⟩ fun h₃ hv hs₃ => ?_)
        obtain ⟨oc', zc', hoc'⟩ := hv
        refine wpAny_tests_nil ?_
        simp only [if_true]
        have hk3 : ∀ b o, b ≠ C + 1 → h₂.get? b = some o → h₃.get? b = some o := fun b o hb e => hs₃.extBut b o hb e
        have hst₃ : IsRangeIter h₃ I (a + ((i + 1 : Nat) : Nat) * 1) ((n : Int) - ((i + 1 : Nat) : Nat)) 1 := by
          have : h₂.get? I = some _ := hst₂
          exact hk3 _ _ (Ne.symm nIc) this
        have F₂ : Fr h₀ L h₂ m := fr_but F' hk₂ (Ne.symm (nL (Nat.le_refl _))) gI
        have F₃ : Fr h₀ L h₃ m := F₂.change hs₃ (nL (Nat.le_succ_of_le hIC)) gc
        have hn₃ : h₃.Ns C m' := (hn'.at' fun o e => hk' _ o nIC e).at' fun o e => hk3 _ o (Ne.symm nCc) e
        obtain ⟨oC, heC, hoC⟩ := ns_obj hn₃
        have N₃ : News h₀ L h₃ ((C + 1, oc') :: (I, _) :: (C, oC) :: (D, lst ys) :: news) := fun p hp => by
          rcases List.mem_cons.mp hp with rfl | hp
          · exact ⟨zc', nL (Nat.le_succ_of_le hIC), gc⟩
          rcases List.mem_cons.mp hp with rfl | hp
          · exact ⟨hst₃, nL (Nat.le_refl _), gI⟩
          rcases List.mem_cons.mp hp with rfl | hp
          · exact ⟨heC, nL hIC, gC⟩
          rcases List.mem_cons.mp hp with rfl | hp
          · exact ⟨hk3 _ _ (Ne.symm nDc) (hk' _ _ (Nat.ne_of_gt hID) (N' _ (.tail _ (.head _))).1), nL (Nat.le_of_lt hID), gD⟩
          · have hlt' := hnw p hp
            exact ⟨hk3 _ _ (Nat.ne_of_lt (Nat.lt_of_lt_of_le hlt' (Nat.le_succ_of_le hIC))) (hk' _ _ (Nat.ne_of_lt hlt') (N' p (.tail _ (.tail _ hp))).1), (N' p (.tail _ (.tail _ hp))).2⟩
        refine wpAny_mono (turn i ys I _ C oC oc' D h₃ _ tv _ hlt hJ hoc' F₃ N₃) (fun y s₄ h₄ => ?_) fun _ _ e => e
        obtain ⟨h₄, tk₄, rfl, F₄, N₄, hJ₄⟩ := h₄
        have zD := (N₄ _ (.tail _ (.tail _ (.tail _ (.head _))))).1
        refine append_at (hsz := by show ys.toArray.size ≤ sizeLine; rw [List.size_toArray, hyl]; exact Nat.le_trans hi hsz) zD fun h₅ hs₅ hD₅ => ?_
        have hk5 : ∀ b o, b ≠ D → h₄.get? b = some o → h₅.get? b = some o := fun b o hb e => hs₅.extBut b o hb e
        refine ⟨n + 1 - (i + 1), by omega, h₅, tk₄, i + 1, ys ++ [y], _, oc', _, rfl, hlt, rfl, by rw [List.length_append, List.length_singleton, hyl], hk5 _ _ (Nat.ne_of_lt hID) (N₄ _ (.tail _ (.head _))).1, F₄.change hs₅ (nL (Nat.le_of_lt hID)) gD,
          (hoC.ns (N₄ _ (.tail _ (.tail _ (.head _)))).1).sameBut hs₅ (Nat.ne_of_gt hDC), hoc', fun p hp => ?_, hJ₄⟩
        rcases List.mem_cons.mp hp with rfl | hp
        · exact ⟨hk5 _ _ nDc (N₄ _ (.head _)).1, (N₄ _ (.head _)).2⟩
        rcases List.mem_cons.mp hp with rfl | hp
        · exact ⟨hD₅.trans (congrArg some (lst_snoc ys y)), nL (Nat.le_of_lt hID), gD⟩
        · exact ⟨hk5 _ _ (Nat.ne_of_lt (Nat.lt_trans (hnw p hp) hID)) (N₄ p (.tail _ (.tail _ (.tail _ (.tail _ hp))))).1, (N₄ p (.tail _ (.tail _ (.tail _ (.tail _ hp))))).2⟩
      · obtain rfl : i = n := Nat.le_antisymm hi (Nat.not_lt.mp hlt)
        refine W.done _ _ _ hst' fun h₂ tk₂ hk₂ => ?_
        have hk' : ∀ b o, b ≠ I → h'.get? b = some o → h₂.get? b = some o := fun b o hb e => hk₂ b o (by simpa using hb) e
        refine hRR h₂ tk₂ m' ys hJ (fr_but F' hk₂ (Ne.symm (nL (Nat.le_refl _))) gI) (fun p hp => ?_) (hn'.at' fun o e => hk' _ o nIC e)
        rcases List.mem_cons.mp hp with rfl | hp
        · exact ⟨hk' _ _ (Nat.ne_of_gt hID) (N' _ (.tail _ (.head _))).1, (N' _ (.tail _ (.head _))).2⟩
        · exact ⟨hk' _ _ (Nat.ne_of_lt (hnw p hp)) (N' p (.tail _ (.tail _ hp))).1, (N' p (.tail _ (.tail _ hp))).2⟩
    · rcases List.mem_cons.mp hp with rfl | hp
      · exact ⟨hc0, nL (Nat.le_succ_of_le hIC), gc⟩
      rcases List.mem_cons.mp hp with rfl | hp
      · exact ⟨hD, nL (Nat.le_of_lt hID), gD⟩
      · exact N p hp
  exact codeAny_compStart_list loop (W.self 0 _ _ _ hst loop)
open PyProof.Rows.LCg in
noncomputable def XSrc (prog : Program) (w : World) (A : Around) (h₀ : Heap) (L : Addr) (m : Str → Option Value) (env : Env) (elt : Expr) (scope : Scope) (cl : List (Str × Addr)) (y : Str) (Q : Flow → Shared → Prop) (xv : Value) (s₁ : Shared) : Prop :=
  ∃ (r : Addr) (a b : Int) (t u v : Tok) (n : Nat) (news : List (Addr × Obj)) (Inv : Nat → List Value → Prop), xv = .ref r ∧ A.handled = none ∧ Fr h₀ L s₁.heap m ∧ News h₀ L s₁.heap news ∧ IsRange s₁.heap r a b 1 t u v ∧
      Builtin.Range.small a b 1 = true ∧ Builtin.Range.rangeSize a b 1 = ((n : Nat) : Int) ∧ n ≤ sizeLine ∧ Inv 0 [] ∧
      (∀ i ys I oI C oC oc D hp tk tv (E' : Value → Shared → Prop), i < n → Inv i ys → oc.data = .cell (some (.int (a + (i : Nat)) tv)) → Fr h₀ L hp m → News h₀ L hp ((C + 1, oc) :: (I, oI) :: (C, oC) :: (D, lst ys) :: news) →
        wpAny (model prog w) A (PySem.eval elt (compEnvC scope (cellsFrom (C + 1) scope.names cl) C env)) (XEnd h₀ L m s₁ ((C + 1, oc) :: (I, oI) :: (C, oC) :: (D, lst ys) :: news) fun yv => Inv (i + 1) (ys ++ [yv])) E' { s₁ with heap := hp, toks := tk }) ∧
      (∀ ys D hp tk, Inv n ys → Fr h₀ L hp (fun z => if z = y then some (.ref D) else m z) → News h₀ L hp ((D, lst ys) :: news) → (∀ p ∈ news, p.1 < D) → Q .next { s₁ with heap := hp, toks := tk })
open PyProof.Rows.LCg in
theorem Assign_ListComp_X {elt iter : Expr} {x y : Str} {px py : Pos} {scope : Scope} {cl : List (Str × Addr)} {pos spos : Pos} {Q : Flow → Shared → Prop} (_F₀ : Fr h₀ L s.heap m) (hLe : env.locals = L)
    (hsw : swapsWith (.ListComp elt [⟨.Name x px, iter, [], 0⟩] scope pos) (some (.Name y py)) spos.line env = pure true)
    (hclos : closureFor scope env = pure cl) (hkind : scope.kind = .function)
    (hnames : ∀ z ∈ scope.names, z.2 = .local → scope.names.lookup z.1 = some .local) (hx : (relabel scope env).names.lookup x = some .cell)
    (hcx : ∀ C, (cellsFrom (C + 1) scope.names cl).lookup x = some (C + 1)) (hpc : ∀ h : Heap, pushCells h scope.names = h.push { cls := .type "cell", data := .cell none })
    (hy : env.kindOf y = some .local) (hp : (env.scope.kind == .class || (env.scope.kind == .module && env.locals != env.globals)) = false)
    (h : wpAny (model prog w) A (PySem.eval iter env) (XSrc prog w A h₀ L m env elt scope cl y Q) E s)
    (hs : ∀ x, foldedSetIterable iter env x = pure x := by intro _; rfl) :
    wpAny (model prog w) A (exec (.Assign [.Name y py] (.ListComp elt [⟨.Name x px, iter, [], 0⟩] scope pos) spos) env) Q E s := by
  subst hLe
  rw [exec_Assign_Name_used _ _ _ _ hsw]
  refine wpAny_bind (wpAny_standAt (wpAny_bind ?_))
  show wpAny _ A (do let _ ← comprehension (.ListComp elt [⟨.Name x px, iter, [], 0⟩] scope pos) scope env _ (newList []) false (PySem.eval iter env) (some (assign (.Name y py) env))) _ _ s
  refine wpAny_bind (wpAny_mono (wpAny_comprehension_free (use := some (assign (.Name y py) env)) (Q := fun _ s' => Q .next s') rfl hs hclos hkind hnames
    (wpAny_mono h (fun xv s₁ h₁ => ?_) fun _ _ e => e)) (fun _ s' hq => wpAny_pure (wpAny_pure hq)) fun _ _ e => e)
  obtain ⟨r, a, b, t, u, v, n, news, Inv, rfl, hh, F, N, hr, hsm, hn, hsz, hI0, turn, fin⟩ := h₁
  refine wpAny_pyIter_range hr hsm ?_
  rw [hn]
  refine wpAny_newObj_type (newEnvX ?_)
  dsimp only
  rw [hpc]
  simp only [Heap.size_push]
  have hLs : env.locals < s₁.heap.objs.size := F.ns.lt
  have up1 : ∀ (o : Obj) (h : Heap) (b : Addr) (ob : Obj), h.get? b = some ob → (h.push o).get? b = some ob := fun o h b ob e => Heap.get?_push_of_some _ e
  have fresh : ∀ b, s₁.heap.objs.size ≤ b → h₀.get? b = none := fun b hb => Heap.get?_none_of_le (Nat.le_trans F.above (Nat.le_trans (Nat.le_of_lt hLs) hb))
  have old : ∀ (b : Addr) (o : Obj), s₁.heap.get? b = some o → ((((s₁.heap.push { cls := .type "range_iterator", data := .fields #[rawInt a, rawInt (n : Nat), rawInt 1] }).push { cls := .type "list", data := .seq ([] : List Value).toArray }).push { cls := .type "dict", data := .dict #[] }).push { cls := .type "cell", data := .cell none }).get? b = some o :=
    fun b o e => up1 _ _ _ _ (up1 _ _ _ _ (up1 _ _ _ _ (up1 _ _ _ _ e)))
  refine block_X (I := s₁.heap.objs.size) (D := s₁.heap.objs.size + 1) (C := s₁.heap.objs.size + 1 + 1) (news := news) (h₀ := h₀) (L := env.locals) (m := m) (a := a) Inv hh hkind hx (hcx _) hLs (Nat.lt_succ_self _) (Nat.lt_succ_self _) (fun p hp => Heap.lt_size (N p hp).1)
    (fresh _ (Nat.le_refl _)) (fresh _ (Nat.le_succ _)) (fresh _ (Nat.le_succ_of_le (Nat.le_succ _))) (fresh _ (Nat.le_succ_of_le (Nat.le_succ_of_le (Nat.le_succ _)))) hsz ?_ (F.keeps old) (N.grown old) ?_ ?_ ?_ hI0 turn ?_
  · show _ = _
    rw [show a + ((0 : Nat) : Int) * 1 = a from by omega, show ((n : Nat) : Int) - ((0 : Nat) : Int) = ((n : Nat) : Int) from by omega]
    exact up1 _ _ _ _ (up1 _ _ _ _ (up1 _ _ _ _ (Heap.get?_push_size _ rfl)))
  · refine up1 _ _ _ _ (up1 _ _ _ _ ?_)
    have e := Heap.get?_push_size (s₁.heap.push { cls := .type "range_iterator", data := .fields #[rawInt a, rawInt (n : Nat), rawInt 1] }) (o := { cls := .type "list", data := .seq ([] : List Value).toArray }) rfl
    rw [Heap.size_push] at e
    exact e
  · have e := Heap.Ns.new ((s₁.heap.push { cls := .type "range_iterator", data := .fields #[rawInt a, rawInt (n : Nat), rawInt 1] }).push { cls := .type "list", data := .seq ([] : List Value).toArray }) (.type "dict")
    rw [Heap.size_push, Heap.size_push] at e
    exact e.keeps fun _ _ e => up1 _ _ _ _ e
  · have e := Heap.get?_push_size (((s₁.heap.push { cls := .type "range_iterator", data := .fields #[rawInt a, rawInt (n : Nat), rawInt 1] }).push { cls := .type "list", data := .seq ([] : List Value).toArray }).push { cls := .type "dict", data := .dict #[] }) (o := { cls := .type "cell", data := .cell none }) rfl
    rw [Heap.size_push, Heap.size_push, Heap.size_push] at e
    exact ⟨_, e, rfl⟩
  · intro h tk m' ys hI F' N' hn'
    show wpAny _ A (assign (.Name y py) env (.ref (s₁.heap.objs.size + 1))) _ _ _
    refine wpAny_assign_Name (wpAny_storeName_local hy F'.ns (fun h₂ hn₂ hs₂ => ?_) hp)
    have hL₀ : h₀.get? env.locals = none := Heap.get?_none_of_le F'.above
    have F₂ : Fr h₀ env.locals h₂ (fun z => if z = y then some (.ref (s₁.heap.objs.size + 1)) else m z) := ⟨hn₂, fun b o e => hs₂.extBut b o (fun q => by rw [q, hL₀] at e; cases e) (F'.keep b o e), F'.above⟩
    have hCL : (s₁.heap.objs.size + 1 + 1 : Nat) ≠ env.locals := Nat.ne_of_gt (Nat.lt_succ_of_lt (Nat.lt_succ_of_lt hLs))
    refine ⟨m', hn'.sameBut hs₂ hCL, fun h'' hs'' => fin ys _ h'' _ hI (F₂.change hs'' hCL (fresh _ (Nat.le_succ_of_le (Nat.le_succ _)))) (fun p hp => ?_) (fun p hp => Nat.lt_succ_of_lt (Heap.lt_size (N p hp).1))⟩
    have z : h₂.get? p.1 = some p.2 := hs₂.extBut _ _ (N' p hp).2.1 (N' p hp).1
    refine ⟨hs''.extBut _ _ ?_ z, (N' p hp).2⟩
    rcases List.mem_cons.mp hp with rfl | hp
    · exact Nat.ne_of_lt (Nat.lt_succ_self _)
    · exact Nat.ne_of_lt (Nat.lt_succ_of_lt (Nat.lt_succ_of_lt (Heap.lt_size (N p hp).1)))
end
end Mine
end
section
open PySem PySem.W PyProof.Rows
open PySem.Builtin
namespace Mine
noncomputable def toldT (os : List Nat) (ms : List Int) : List Nat := os.flatMap fun o => octetT o ms
noncomputable def toldL (os : List Nat) (ms : List Int) : List (List Nat) := (List.range ms.length).map fun j => toldT os (ms.take (j + 1))
theorem told_eq (os : List Nat) (ms : List Int) (ho : ∀ c ∈ os, c < 256) : toldL os ms = textsT os ms := by
  unfold toldL textsT
  refine List.map_congr_left fun j _ => ?_
  exact (rounds_octets os ho (ms.take (j + 1))).symm
theorem toldL_next (os : List Nat) (ms : List Int) (i : Nat) (h : i < ms.length) : (toldL os ms).take (i + 1) = (toldL os ms).take i ++ [toldT os (ms.take (i + 1))] := by
  rw [List.take_succ_eq_append_getElem (by simp [toldL]; exact h)]
  simp [toldL]
theorem toldL_last (os : List Nat) (ms : List Int) (ho : ∀ c ∈ os, c < 256) (h : ms.length ≠ 0) : ∃ zs, toldL os ms = zs ++ [roundsT ms os] := by
  obtain ⟨n, hn⟩ := Nat.exists_eq_succ_of_ne_zero h
  refine ⟨(List.range n).map fun j => toldT os (ms.take (j + 1)), ?_⟩
  unfold toldL
  rw [hn, List.range_succ, List.map_append]
  congr 1
  show [toldT os (ms.take (n + 1))] = _
  rw [← Nat.succ_eq_add_one, ← hn, List.take_length, rounds_octets os ho ms]
  rfl
theorem strs_last : ∀ {ys : List Value} {zs : List Str} {z : Str}, StrsAre ys (zs ++ [z]) → ∃ vs t, ys = vs ++ [.str z t]
  | _, [], _, .cons _ t .nil => ⟨[], t, rfl⟩
  | _, _ :: zs, _, .cons y t r => by
    obtain ⟨vs, u, e⟩ := strs_last r
    exact ⟨.str y t :: vs, u, by rw [e]; rfl⟩
noncomputable def tupD (x : List Nat) : PyData := .tuple [.str (tx x), .str (tx x), .bool true]
theorem told_reads {h : Heap} : ∀ {ps : List (Addr × Obj)} {xs : List (List Nat)}, Told ps xs → (∀ p ∈ ps, h.get? p.1 = some p.2) → ∃ as, ReadsAll h (refsOf ps) (xs.map tupD) as
  | _, _, .nil, _ => ⟨_, ReadsAll.nil⟩
  | _, _, .cons (a := a) (x := x) t1 t2 r, hg => by
    obtain ⟨as, q⟩ := told_reads r fun p hp => hg p (.tail _ hp)
    exact ⟨_, ReadsAll.cons (reads_tuple_at (hg _ (.head _)) rfl rfl (.cons (.str _ _) (.cons (.str _ _) (.cons (.bool _) .nil)))) q⟩
theorem lay_tups : ∀ (xs : List (List Nat)), (∀ x ∈ xs, ∀ c ∈ x, c < 256) → PyData.canLayAll0 (xs.map tupD) = true ∧ PyData.depthAll (xs.map tupD) ≤ 1
  | [], _ => ⟨rfl, Nat.zero_le _⟩
  | x :: xs, h => by
    have := lay_tups xs fun y hy => h y (.tail _ hy)
    have h1 := strOk_tx x (h x (.head _))
    refine ⟨by simp [tupD, PyData.canLayAll0, PyData.canLay0, h1, this.1], ?_⟩
    have h2 := this.2
    simp [tupD, PyData.depthAll, PyData.depth]
    omega
theorem shaped_tups (xs : List (List Nat)) (h : ∀ x ∈ xs, ∀ c ∈ x, c < 256) : PySem.SeqAt.shaped (.list (xs.map tupD)) = true := by
  have := lay_tups xs h
  have h2 := this.2
  simp [PySem.SeqAt.shaped, PyData.canLay0, PyData.depth, this.1]
  omega
theorem eqv_tups (xs : List (List Nat)) : PyData.eqv (.list (xs.map tupD)) (.list (xs.map tupD)) = true := by
  rw [PyData.eqv]
  induction xs with
  | nil => rfl
  | cons x xs ih => simp [tupD, PyData.eqvAll, PyData.eqv] at ih ⊢; exact ih
theorem texts_lt (os : List Nat) (ms : List Int) (ho : ∀ c ∈ os, c < 256) (hne : os ≠ []) : ∀ x ∈ textsT os ms, ∀ c ∈ x, c < 256 := by
  intro x hx
  simp only [textsT, List.mem_map] at hx
  obtain ⟨i, _, rfl⟩ := hx
  exact (rounds_facts _ os ho hne).1
section
variable {prog : Program} {w : World} {A : Around} {s : Shared} {mg mb : Str → Option Value} {E : Value → Shared → Prop} {Q : Flow → Shared → Prop}
theorem nameCC {M : Model} {Q : Value → Shared → Prop} {env' : Env} {x : Str} {pos : Pos} {c : Addr} {o : Obj} {v : Value} {h₀ : Heap} {L : Addr} {news : List (Addr × Obj)} (N : News h₀ L s.heap news) (hk : env'.scope.kind = .function) (hx : env'.kindOf x = some .cell) (hc : env'.cells.lookup x = some c)
    (hm : (c, o) ∈ news) (hd : o.data = .cell (some v)) (h : Q v s) (hb : (x == ("__debug__" : Str)) = false := by decide) : wpAny M A (PySem.eval (.Name x pos) env') Q E s :=
  wpAny_Name (wpAny_loadName_cell hk hx hc ⟨o, N.get hm, hd⟩ h) hb
theorem slice_upto {value slice : Expr} {l : Addr} {vs : List Value} {ms : List Int} {vl : Value} {x : Int} {Q : Value → Shared → Prop} {h₀ : Heap} {L : Addr} {m : Str → Option Value} {news : List (Addr × Obj)}
    (F : Fr h₀ L s.heap m) (N : News h₀ L s.heap news) (hl : s.heap.IsList l vs.toArray) (hi : IntsAre vs ms) (hz : ms.length ≤ 100) (pl : IsPart vl (some x)) (hx : 0 ≤ x)
    (h : ∀ h' D vs', Fr h₀ L h' m → News h₀ L h' ((D, { cls := .type "list", data := .seq vs'.toArray }) :: news) → IntsAre vs' (ms.take x.toNat) → Q (.ref D) { s with heap := h' })
    (hs : subscripted slice false (.ref l) (.ref s.heap.objs.size) = operate [.ref s.heap.objs.size, .ref l] (getItem (.ref l) (.ref s.heap.objs.size)) := by with_unfolding_all rfl)
    (ht : ∀ r, letTemporaryGo value (.ref l) r = pure () := by intro _; with_unfolding_all rfl) :
    wpAny (model prog w) A (subscriptTail value slice (.ref l) (.ref s.heap.objs.size)) Q E { s with heap := s.heap.push { cls := .type "slice", data := .fields #[.none, vl, .none] } } := by
  refine slice_list F N hl .none pl (fun h' F' N' => ?_) hs ht (by have := ints_size hi; rw [sizeLine_eq]; omega)
  refine h h' _ (slicePick vs.toArray none (some x) none).toList F' ?_ (slice_ints_uptoW hi hx)
  rw [Array.toArray_toList]
  exact N'
local macro_rules | `(tactic| walk_at "eval ListComp") => `(tactic| (refine stopHere ?_))
local macro_rules | `(tactic| walk_at "exec Assign cons ListComp") => `(tactic| (refine stopHere ?_))
local macro_rules | `(tactic| walk_at "binaryOp Add int int") => `(tactic| (refine addI ?_; intro t4 k4))
local macro_rules | `(tactic| walk_at "eval Name") => `(tactic| ((with_reducible show wpAny _ _ (PySem.eval (Expr.Name (Str.ofString "octets") _) _) _ _ _); refine nameCC (by assumption) (by rfl) (by rfl) (by rfl) (by k_mem) (by assumption) ?_))
local macro_rules | `(tactic| walk_at "eval Name") => `(tactic| ((with_reducible show wpAny _ _ (PySem.eval (Expr.Name (Str.ofString "masks") _) _) _ _ _); refine nameCC (by assumption) (by rfl) (by rfl) (by rfl) (by k_mem) (by assumption) ?_))
local macro_rules | `(tactic| walk_at "eval Name") => `(tactic| ((with_reducible show wpAny _ _ (PySem.eval (Expr.Name (Str.ofString "r") _) _) _ _ _); refine nameCC (by assumption) (by rfl) (by rfl) (by rfl) (by k_mem) (by assumption) ?_))
local macro_rules | `(tactic| walk_at "subscriptTail Name Slice ref ref") => `(tactic| (refine slice_upto (by assumption) (by assumption) (News.isList (by assumption) (by k_mem)) (by assumption) (by omega) (.int _ _) (by omega) ?_; intro h4 D4 v4 F4 N4 I4))
local macro_rules | `(tactic| walk_at "call ref") => `(tactic| ((with_reducible show wpAny _ _ (call (Value.ref 160) _) _ _ _); refine pure_use (c_octet (kk_at (by assumption) (by assumption)) (tt_at (by assumption) (by assumption)) (News.isList (by assumption) (.head _)) (by assumption) (by rw [List.length_take]; omega) (by assumption) (by assumption) (by omega)) (by assumption) (by assumption) ?_; intro t8 h8 tk8 F8 N8 st8; (try dsimp only)))
local macro_rules | `(tactic| walk_at "call builtin:str.join") => `(tactic| (refine join_listW (by assumption) (by assumption) (by decide) (by assumption) ?_; intro t4 k4; rw [join_tx]))
local macro_rules | `(tactic| walk_at "newTuple") => `(tactic| (refine newTuple_N (by assumption) (by assumption) ?_; intro h4 F4 N4))
local macro_rules | `(tactic| walk_at "subscriptTail Name UnaryOp ref int") => `(tactic| (refine item_last_l (by assumption) (by assumption) ?_))
set_option maxHeartbeats 1000000 in
theorem law_C {h₀ : Heap} {L ls DO DM R : Addr} {ovs mvs : List Value} {os : List Nat} {ms : List Int} {c : Nat} {tr t9 : Tok} {oC oM : Obj} {ps : List (Addr × Obj)} {qs : Array Value}
    (X : (KK w.params).In h₀) (T : TopRead qP looseQ mg mb h₀)
    (hos : os.length = 3) (ho : ∀ c ∈ os, c < 256) (hov : IntsAre ovs (os.map fun c : Nat => (c : Int))) (hmv : IntsAre mvs ms) (hms : ms.length = 2 + c) (hc : c < 4)
    (dC : oC.data = .cell (some (.ref DO))) (dM : oM.data = .cell (some (.ref DM)))
    (F : Fr h₀ L s.heap (lawM2 ls c tr R os ms t9)) (N : News h₀ L s.heap ((R, listO (refsOf ps) ps.length) :: (DM, LCg.lst mvs) :: (DO, LCg.lst ovs) :: (L + 4, oM) :: (L + 3, oC) :: ((162 : Nat), tabObj qs) :: ps))
    (hTo : Told ps (textsT os ms)) (hh : A.handled = none) (hd : A.depth + 6 < recursionLimit) (hu : A.units + 80 < cLine)
    (hq : ∀ h' tk m', Fr h₀ L h' m' → h'.get? (162 : Nat) = some (tabObj qs) → Q (.ret (.bool true)) { s with heap := h', toks := tk }) :
    wpAny (model prog w) A (execs ((fBody 40).drop 6) (envX lQual (fScope 40) L 172 (.ref 171) (cellsFrom (L + 1) (fScope 40).names []))) Q E s := by
  unfold lawM2 lawM at F
  k_steps
  unfold Stop
  refine Assign_ListComp_X F (by rfl) (by with_unfolding_all rfl) (by rfl) (by rfl) (by decide) (by rfl) (fun _ => by rfl) (fun _ => by rfl) (by rfl) (by rfl) ?_
  k_steps
  rename IsRange _ _ _ _ _ _ _ _ => IR
  rename Fr _ _ _ _ => F1
  rename News _ _ _ _ => N1
  refine ⟨_, _, _, _, _, _, _, _, fun i ys => StrsAre ys ((List.range i).map fun j => tx (toldT os (ms.take (j + 1)))), rfl, hh, F1, N1, IR, small_one (by omega) (by omega) (by omega) (by omega), rangeSize_nat _ _, by rw [sizeLine_eq]; omega, .nil, ?_, ?_⟩
  · intro i ys I oI C oC' oc D hp tk tv E' hi hJ hoc F2 N2
    have hi2 : i < 2 + c := by omega
    k_steps
    unfold Stop
    refine LCg.ListComp_U F2 (by rfl) (by decide) (by rfl) (by decide) (by rfl) ?_
    k_steps
    rename Fr _ _ _ _ => F3
    rename News _ _ _ _ => N3
    have hovz : ovs.toArray.size = os.length := by have := ints_size hov; rw [List.length_map] at this; omega
    refine LCg.CompSrc.ledger hh F3 N3 (.tail _ (.tail _ (.tail _ (.tail _ (.tail _ (.tail _ (.head _))))))) (by rw [hovz, sizeLine_eq]; omega) ?_
    intro g
    refine rest_ind ovs.toArray.size (fun i2 ys2 nw => nw = _ ∧ StrsAre ys2 ((os.take i2).map fun o => tx (octetT o (ms.take (i + 1))))) ?_ ?_ _ 0 [] _ (Nat.zero_add _) ⟨rfl, .nil⟩
    · intro i2 ys2 nw v I2 oI2 C2 oC2 D2 m₂ h tk E' hi3 hInv hP hNs hm F4 N4 off hne3
      obtain ⟨rfl, hys⟩ := hInv
      have hil : i2 < os.length := by omega
      obtain ⟨tv, rfl⟩ := ints_at hov (by rw [List.length_map]; exact hil) hP
      rw [show (os.map fun c : Nat => (c : Int)).getD i2 0 = ((os.getD i2 0 : Nat) : Int) from by simp [hil]] at hm
      have hc256 := ho _ (getD_mem hil)
      k_steps
      rename Fr _ _ _ _ => F5
      rename News _ _ _ _ => N5
      refine LCg.CompEnd.intro F5 N5 _ (fun p hp => .tail _ hp) off (.inr ⟨_, .tail _ (.tail _ (.tail _ (.tail _ (.tail _ (.tail _ (.head _)))))), rfl, _, rfl⟩) ⟨rfl, ?_⟩
      rw [take_snocN os i2 hil, List.map_append, show ((1 : Int) + (i : Int)).toNat = i + 1 from by omega]
      exact strs_snoc hys
    · intro ys2 nw hInv
      obtain ⟨rfl, hys⟩ := hInv
      rw [hovz, List.take_length] at hys
      intro D3 h tk F5 N5 off
      simp only [LCg.Off1, and_true] at off
      have hs3 : StrsAre ys2.toArray.toList ((os.map fun o => octetT o (ms.take (i + 1))).map tx) := by rw [List.map_map]; exact hys
      have hl3 : h.IsList D3 ys2.toArray := News.isList N5 (.head _)
      have hj : (((os.map fun o => octetT o (ms.take (i + 1))).map tx).map fun x => x.length).sum + ((os.map fun o => octetT o (ms.take (i + 1))).map tx).length ≤ 1048576 := by
        obtain ⟨a, b, c, rfl⟩ : ∃ a b c, os = [a, b, c] := by
          match os, hos with
          | [a, b, c], _ => exact ⟨a, b, c, rfl⟩
        have l1 := octetT_len a (ms.take (i + 1)) (by rw [List.length_take]; omega)
        have l2 := octetT_len b (ms.take (i + 1)) (by rw [List.length_take]; omega)
        have l3 := octetT_len c (ms.take (i + 1)) (by rw [List.length_take]; omega)
        simp only [List.map_cons, List.map_nil, List.sum_cons, List.sum_nil, List.length_cons, List.length_nil]
        omega
      k_steps
      rename Fr _ _ _ _ => F6
      rename News _ _ _ _ => N6
      refine ⟨_, _, rfl, F6, fun p hp => N6 p (.tail _ hp), ?_⟩
      show StrsAre (ys ++ [_]) _
      rw [List.range_succ, List.map_append]
      exact strs_snoc hJ
  · intro ys D hp tk hJ F2 N2 hlt
    rw [show (2 + (c : Int) + 1 - 1).toNat = ms.length from by omega] at hJ
    have hJ2 : StrsAre ys ((toldL os ms).map tx) := by unfold toldL; rw [List.map_map]; exact hJ
    have hysz : ys.toArray.size = ms.length := by
      have := StrsAre.length hJ
      rw [List.length_map, List.length_range] at this
      rw [List.size_toArray]
      exact this
    k_steps
    unfold Stop
    rename Fr _ _ _ _ => F3
    rename News _ _ _ _ => N3
    refine LCg.ListComp_U F3 (by rfl) (by decide) (by rfl) (by decide) (by rfl) ?_
    k_steps
    rename Fr _ _ _ _ => F4
    rename News _ _ _ _ => N4
    refine LCg.CompSrc.ledger hh F4 N4 (.head _) (by rw [hysz, sizeLine_eq]; omega) ?_
    intro g
    refine rest_ind ys.toArray.size (fun i ys3 nw => ∃ ps3, nw = ps3.reverse ++ _ ∧ ys3 = refsOf ps3 ∧ Told ps3 ((toldL os ms).take i)) ?_ ?_ _ 0 [] _ (Nat.zero_add _) ⟨[], rfl, rfl, .nil⟩
    · intro i ys3 nw v I oI C oC D2 m₂ h tk E' hi hInv hP hNs hm F5 N5 off hne3
      obtain ⟨ps3, rfl, rfl, hT⟩ := hInv
      have hil : i < ms.length := by omega
      obtain ⟨t, ht⟩ := strs_get hJ i (by rw [List.length_map, List.length_range]; exact hil)
      have hv : v = .str (tx (toldT os (ms.take (i + 1)))) t := by
        rw [List.getElem?_toArray] at hP
        rw [hP] at ht
        have e2 := Option.some.inj ht
        rw [e2]
        congr 1
        simp [hil]
      subst hv
      k_steps
      rename Fr _ _ _ _ => F6
      rename News _ _ _ _ => N6
      have hI : I < h.objs.size := Heap.lt_size (News.get N5 (.head _))
      have hC : C < h.objs.size := Heap.lt_size (News.get N5 (.tail _ (.head _)))
      have hD : D2 < h.objs.size := Heap.lt_size (News.get N5 (.tail _ (.tail _ (.head _))))
      refine LCg.CompEnd.intro F6 N6 ((h.objs.size, tupO (toldT os (ms.take (i + 1))) t t) :: (ps3.reverse ++ _)) (fun p hp => ?_) ⟨⟨Nat.ne_of_gt hI, Nat.ne_of_gt hC, Nat.ne_of_gt hD⟩, off⟩ (.inr ⟨_, .tail _ (List.mem_append_right _ (.head _)), rfl, _, rfl⟩) ⟨ps3 ++ [(h.objs.size, tupO (toldT os (ms.take (i + 1))) t t)], ?_, ?_, ?_⟩
      · rcases List.mem_cons.mp hp with rfl | hp
        · exact .tail _ (.head _)
        rcases List.mem_cons.mp hp with rfl | hp
        · exact .tail _ (.tail _ (.head _))
        rcases List.mem_cons.mp hp with rfl | hp
        · exact .tail _ (.tail _ (.tail _ (.head _)))
        rcases List.mem_cons.mp hp with rfl | hp
        · exact .head _
        · exact .tail _ (.tail _ (.tail _ (.tail _ hp)))
      · rw [List.reverse_append]; rfl
      · unfold refsOf; rw [List.map_append]; rfl
      · rw [toldL_next os ms i hil]
        exact hT.snoc
    · intro ys3 nw hInv
      obtain ⟨ps3, rfl, rfl, hT⟩ := hInv
      rw [hysz, show ms.length = (toldL os ms).length from by simp [toldL], List.take_length, told_eq os ms ho] at hT
      intro D4 h4 tk4 F5 N5 off
      have hne : os ≠ [] := by intro e; rw [e] at hos; cases hos
      have hlt5 := texts_lt os ms ho hne
      obtain ⟨as1, r1⟩ := told_reads (h := h4) hTo fun p hp => News.get N5 (.tail _ (List.mem_append_right _ (.tail _ (.tail _ (.tail _ (.tail _ (.tail _ (.tail _ (.tail _ hp)))))))))
      obtain ⟨as2, r2⟩ := told_reads (h := h4) hT fun p hp => News.get N5 (.tail _ (List.mem_append_left _ (List.mem_reverse.mpr hp)))
      refine eq_dataH (reads_list_at (News.get N5 (.tail _ (List.mem_append_right _ (.tail _ (.head _))))) rfl rfl r1) (reads_list_at (News.get N5 (.head _)) rfl rfl r2) (shaped_tups _ hlt5) (shaped_tups _ hlt5) (by omega) ?_
      rw [eqv_tups]
      obtain ⟨zs, hzs⟩ := toldL_last os ms ho (by omega)
      obtain ⟨vs, t, rfl⟩ : ∃ vs t, ys = vs ++ [.str (tx (roundsT ms os)) t] := by
        rw [hzs, List.map_append] at hJ2
        exact strs_last hJ2
      have hIL : h4.IsList D (vs ++ [Value.str (tx (roundsT ms os)) t]).toArray := News.isList N5 (.tail _ (List.mem_append_right _ (.head _)))
      have hvz : vs.length ≤ 1000 := by
        rw [List.size_toArray, List.length_append, List.length_singleton] at hysz
        omega
      have h162 : h4.get? (162 : Nat) = some (tabObj qs) := News.get N5 (.tail _ (List.mem_append_right _ (.tail _ (.tail _ (.tail _ (.tail _ (.tail _ (.tail _ (.head _)))))))))
      k_steps
      rename Fr _ _ _ _ => F9
      rw [beq_self_eq_true]
      exact hq _ _ _ F9 h162
end
end Mine
end
theorem Mine.anewY1 : True := by first | walk1 | trivial
section
open PySem PySem.W PyProof.Rows
open PySem.Builtin
namespace Mine
section
variable {prog : Program} {w : World} {A : Around} {s : Shared} {mg mb : Str → Option Value} {E Q : Value → Shared → Prop}
theorem push4 (h : Heap) : pushCells h (fScope 40).names = (((h.push { cls := .type "cell", data := .cell none }).push { cls := .type "cell", data := .cell none }).push { cls := .type "cell", data := .cell none }).push { cls := .type "cell", data := .cell none } := by kernel_rfl
theorem c_law {g : Heap} {p₀ : Program} {l₀ : List Str} {mean : ExcName → Option Value} {ls : Addr} {svs : List Value} {ns : List Int}
    (X : (KK w.params).In g) (T : TopRead qP looseQ mg mb g) (TT : Top p₀ l₀ mean mg mb g) (C : CodeHd g 166 162) (st : g.StaysIn s.heap) (hg0 : g.get? 162 = none) (h162 : s.heap.get? 162 = some (tabObj #[]))
    (hls : s.heap.IsList ls svs.toArray) (hns : IntsAre svs ns) (hz : ns.length ≤ 63) (hh : A.handled = none) (hd : A.depth + 7 < recursionLimit) (hu : A.units + 83 < cLine)
    (hq : ∀ h' tk, (∀ b o, b ≠ (162 : Nat) → s.heap.get? b = some o → h'.get? b = some o) → (∃ qs, h'.get? (162 : Nat) = some (tabObj qs)) → Q (.bool true) { s with heap := h', toks := tk }) :
    wpAny (model prog w) A (call (.ref 172) [.ref ls]) Q E s := by
  have X1 : (KK w.params).In s.heap := X.keeps st
  have T1 := T.keeps st
  refine enter_cells (fo := o172) (name := lQual) (qual := lQual) (params := fArgs 40) (body := fBody 40) (scope := fScope 40) (cl := []) (dV := .none) (kV := .none) (doc := .none) (pm := .str (Str.ofString "law_op0047_01") 1965) (cdv := .ref 171) (ct := .none) (an := none) (binds := [(Str.ofString "script", .ref ls)]) (X1 172 _ rfl) rfl (codeRec_of X1 rfl) T1.nolimit (by omega) (.of_eq rfl) (locs rfl) ?_
  intro h₁ hns1 hsb
  have kp : ∀ b o, s.heap.get? b = some o → h₁.get? b = some o := fun b o e => hsb.extBut b o (Nat.ne_of_lt (Heap.lt_size e)) (pushCells_keeps _ _ _ _ (Heap.get?_push_of_some _ e))
  have F : Fr (hideAll s.heap [162]) s.heap.objs.size h₁ (fun x => [(Str.ofString "script", Value.ref ls)].reverse.lookup x) :=
    ⟨hns1, fun b o e => kp b o (of_hideAll _ e), Nat.le_of_eq (hideAll_size _ _)⟩
  have hP : (162 : Nat) < s.heap.objs.size := Heap.lt_size h162
  rw [push4] at hsb
  have pg : ∀ (h : Heap) (k : Nat), h.objs.size = k → (h.push { cls := .type "cell", data := .cell none }).get? k = some { cls := .type "cell", data := .cell none } := fun h k e => by rw [← e]; exact Heap.get?_push_size h rfl
  have up1 : ∀ (o : Obj) (h : Heap) (b : Addr) (ob : Obj), h.get? b = some ob → (h.push o).get? b = some ob := fun o h b ob e => Heap.get?_push_of_some _ e
  have nL : ∀ i : Nat, 0 < i → s.heap.objs.size + i ≠ s.heap.objs.size := fun i hi => by omega
  have c1 := hsb.extBut (s.heap.objs.size + 1) _ (nL 1 (by decide)) (up1 _ _ _ _ (up1 _ _ _ _ (up1 _ _ _ _ (pg _ _ (by rw [Heap.size_push])))))
  have c2 := hsb.extBut (s.heap.objs.size + 2) _ (nL 2 (by decide)) (up1 _ _ _ _ (up1 _ _ _ _ (pg _ _ (by rw [Heap.size_push, Heap.size_push]))))
  have c3 := hsb.extBut (s.heap.objs.size + 3) _ (nL 3 (by decide)) (up1 _ _ _ _ (pg _ _ (by rw [Heap.size_push, Heap.size_push, Heap.size_push])))
  have c4 := hsb.extBut (s.heap.objs.size + 4) _ (nL 4 (by decide)) (pg _ _ (by rw [Heap.size_push, Heap.size_push, Heap.size_push, Heap.size_push]))
  have fresh : ∀ i : Nat, (hideAll s.heap [162]).get? (s.heap.objs.size + i) = none := fun i => Heap.get?_none_of_le (by rw [hideAll_size]; exact Nat.le_add_right _ _)
  have N : News (hideAll s.heap [162]) s.heap.objs.size h₁ [(s.heap.objs.size + 4, { cls := .type "cell", data := .cell none }), (s.heap.objs.size + 3, { cls := .type "cell", data := .cell none }), (s.heap.objs.size + 2, { cls := .type "cell", data := .cell none }), (s.heap.objs.size + 1, { cls := .type "cell", data := .cell none }), ((162 : Nat), tabObj #[])] := by
    intro p hp
    simp only [List.mem_cons, List.not_mem_nil, or_false] at hp
    rcases hp with rfl | rfl | rfl | rfl | rfl
    · exact ⟨c4, nL 4 (by decide), fresh 4⟩
    · exact ⟨c3, nL 3 (by decide), fresh 3⟩
    · exact ⟨c2, nL 2 (by decide), fresh 2⟩
    · exact ⟨c1, nL 1 (by decide), fresh 1⟩
    · exact ⟨kp _ _ h162, Nat.ne_of_lt hP, hideAll_none _ (by simp)⟩
  have st0 : g.StaysIn (hideAll s.heap [162]) := fun b o e => hideAll_get _ (st b o e) (by
    simp only [List.mem_cons, List.not_mem_nil, or_false]
    exact fun q => (by rw [q, hg0] at e; cases e))
  have X0 : (KK w.params).In (hideAll s.heap [162]) := X.keeps st0
  have T0 := T.keeps st0
  have TT0 := TT.keeps st0
  have C0 : CodeHd (hideAll s.heap [162]) 166 162 := C.keeps st0
  have hm1 : (hideAll s.heap [162]).IsList ls svs.toArray := by
    obtain ⟨o, e, hc, r⟩ := hls
    refine ⟨o, hideAll_get _ e ?_, hc, r⟩
    simp only [List.mem_cons, List.not_mem_nil, or_false]
    intro q
    rw [q, h162] at e
    cases e
    cases hc
  have hd' : (A.deeper (envX lQual (fScope 40) s.heap.objs.size 172 (.ref 171) (cellsFrom (s.heap.objs.size + 1) (fScope 40).names []))).depth + 6 < recursionLimit := by show A.depth + 1 + 6 < recursionLimit; omega
  have hu' : (A.deeper (envX lQual (fScope 40) s.heap.objs.size 172 (.ref 171) (cellsFrom (s.heap.objs.size + 1) (fScope 40).names []))).units + 80 < cLine := by rw [units_deeper]; omega
  refine law_A (news := []) X0 T0 F N rfl rfl rfl rfl hP hm1 hns hz hh (by omega) ?_
  intro h' tk DO DM ovs mvs os ms c tr oC oM hos ho hov hmv hms hc dC dM F2 N2
  refine law_B X0 T0 TT0 C0 hos ho hov hmv hms hc dC dM F2 N2 hP hh hd' hu' ?_
  intro h3 tk3 R ps qs t9 F3 N3 hTo
  refine law_C X0 T0 hos ho hov hmv hms hc dC dM F3 N3 hTo hh hd' hu' ?_
  intro h4 tk4 m4 F4 h4q
  exact hq h4 tk4 (fun b o hb e => F4.keep b o (hideAll_get _ e (by simpa using hb))) ⟨qs, h4q⟩
end
end Mine
end
section
open PySem PySem.W PyProof.Rows
namespace Mine
set_option maxHeartbeats 8000000 in
theorem holdsT : PySem.Challenge.rw_op0047_01.Holds := by
  w_on
  o_law
  refine holds_open (q := qP) (loose := looseP) (Xt := XtP) (XP := XL qP []) (Yf := hookK.obs) (Ya := hookK.val) (YP := hookK.says) (N := 36000) leftP (Hook.of hookK) (Hook.keeps hookK) (fun s e => xl_of s (Bool.and_eq_true_iff.mp e).1) XL.keeps (by rfl) (by rfl) (by rfl) (fun s e => recFacts_of (Bool.and_eq_true_iff.mp e).2) (by rfl) (by first | assumption | decide +kernel) (by decide +kernel) ⟨rfl, rfl, rfl, rfl, rfl, by decide +kernel⟩ ?hw ?hc
  case hw => w_witness2
  case hc =>
    intro w s₀ s₁ mg mb G Y fa o pm cd doc dV kV ho hd hcd hD hmg hg args vals as hpre hlay hrd hwl hlo
    have KX := km_in_of (K := KK) (as := asK) (e := asK_eq) (ts := [162]) Y
    have hT8 := km_tabs_of (K := KK) (as := asK) (e := asK_eq) (ts := [162]) Y
    refine Ground.open G ?_
    intro T B D TE TW
    try (refine guard_noD D (by decide +kernel) ?_; clear D)
    have hT9 : TabsAt [((166 : Nat), (162 : Nat))] s₁.heap := List.forall_mem_cons.mpr ⟨⟨codeHd_of_K (c := 166) (P := 162) KX (by kernel_rfl), hT8 162 (by simp)⟩, fun _ h => nomatch h⟩
    have e1 := mg_of (n := Str.ofString "law") (v := .ref 172) KX T.g (by kernel_rfl)
    have e2 := Option.some.inj (hmg.symm.trans e1)
    injection e2 with e2
    subst e2
    clear hmg
    wrow_args hpre hlay hrd hwl hlo
    rename IntsAre _ _ => hI
    rename Heap.IsList _ _ _ => hL
    rename ¬ _ < _ => hlen
    have hT162 := hT8 162 (by simp)
    refine c_law (g := ghostOf s₁.heap [((166 : Nat), (162 : Nat))]) (ghost_K hT9 KX (by kernel_rfl)) ⟨ghost_ns hT9 T.g, ghost_ns hT9 T.b, (ghost_top hT9 T).nolimit, T.builtins, T.free⟩ (ghost_top hT9 T) (ghost_code hT9).1
      (fun b o e => of_hideAll _ e) (hideAll_none _ (by simp)) hT162 hL hI (by omega) rfl (by decide) (by decide) ?_
    intro h' tk keep grown
    obtain ⟨qs, grown⟩ := grown
    refine ⟨.inl ⟨.bool true, .bool true, [], rfl, fun _ => rfl, .bool _, ?_, fun _ => ⟨.nil, fun _ h => nomatch h⟩⟩, ⟨fun b o e => ?_, fun b o e => ?_⟩, rfl, fun y hy => ?_⟩
    · first | (with_unfolding_all rfl) | kernel_rfl | kernel_rfl! | law_fin
    · by_cases hb : b = 162
      · subst hb
        rw [hT162] at e
        cases e
        exact .inr (.inl ⟨((hT9 _ (.head _)).1.tab (hT9 _ (.head _)).2).isCodeTable, rfl, #[], qs, rfl, by rw [Array.empty_append]; exact grown⟩)
      · exact .inl (keep b o hb e)
    · by_cases hb : b = 162
      · exact ⟨_, by rw [hb]; exact grown⟩
      · exact ⟨o, keep b o hb e⟩
    · rw [show ({ s₁ with heap := h', toks := tk } : Shared).gens = #[] from hg] at hy
      simp at hy
end Mine
end
theorem PySem.Challenge.cw_op0047_01_holds : PySem.Challenge.rw_op0047_01.Holds := by
  exact Mine.holdsT
