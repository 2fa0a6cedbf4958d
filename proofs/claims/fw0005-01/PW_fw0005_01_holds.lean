import PyProof.Rows.All
import Wide.All
import OpenK.AllK
import Wide.FinOn
import PySem.Challenge.RW_fw0005_01
set_option Elab.async false
set_option rowWalk.seconds 0
section
open PySem PySem.W PyProof.Rows
set_option Elab.async false
set_option maxRecDepth 100000
set_option maxHeartbeats 8000000
namespace Mine
open_top hd for PySem.Challenge.rw_fw0005_01
end Mine
end
section
open PySem
namespace Mine
def gens : List Int := [996825010, 642813549, 513874426, 1027748829, 705979059]
@[irreducible] def pmBit (top i : Int) : Int := if Builtin.bitAnd (top.fdiv (2 ^ i.toNat)) 1 ≠ 0 then gens.getD i.toNat 0 else 0
@[irreducible] def pmIn (top c : Int) (is : List Int) : Int := is.foldl (fun c i => Builtin.bitXor c (pmBit top i)) c
@[irreducible] def pmStep (c v : Int) : Int := pmIn (c.fdiv (2 ^ 25)) (Builtin.bitXor (Builtin.bitAnd c 33554431 * 2 ^ 5) v) [0, 1, 2, 3, 4]
@[irreducible] def pm (vs : List Int) : Int := vs.foldl pmStep 1
@[irreducible] def expand (fl : List Nat) : List Int := fl.map (fun x => ((x / 32 : Nat) : Int)) ++ [0] ++ fl.map (fun x => ((x % 32 : Nat) : Int))
@[irreducible] def create (fl : List Nat) (ns : List Int) : List Int :=
  (PySem.W.rangeKs 0 (6 - 0 : Int).toNat).map fun k => Builtin.bitAnd ((Builtin.bitXor (pm (expand fl ++ ns ++ [0, 0, 0, 0, 0, 0])) 1).fdiv (2 ^ (5 * (5 - k)).toNat)) 31
def charset : List Nat := [113, 112, 122, 114, 121, 57, 120, 56, 103, 102, 50, 116, 118, 100, 119, 48, 115, 51, 106, 110, 53, 52, 107, 104, 99, 101, 54, 109, 117, 97, 55, 108]
/-- the sign of a five -/
@[irreducible] def sgn (k : Int) : Nat := charset.getD k.toNat 0
@[irreducible] def encode (fl : List Nat) (ns : List Int) : List Nat := fl ++ [49] ++ (ns ++ create fl ns).map sgn
def exps : List Int := [1, 2, 4, 8, 16, 9, 18, 13, 26, 29, 19, 15, 30, 21, 3, 6, 12, 24, 25, 27, 31, 23, 7, 14, 28, 17, 11, 22, 5, 10, 20]
def logs : List Int := [0, 0, 1, 14, 2, 28, 15, 22, 3, 5, 29, 26, 16, 7, 23, 11, 4, 25, 6, 10, 30, 13, 27, 21, 17, 18, 8, 19, 24, 9, 12, 20]
def twos : List Int := [1, 2, 4, 8, 16, 32, 64, 128]
@[irreducible] def times (x y : Int) : Int := if x = 0 ∨ y = 0 then 0 else exps.getD ((logs.getD x.toNat 0 + logs.getD y.toNat 0).fmod 31).toNat 0
/-- a window's three fives -/
@[irreducible] def winF (ns : List Int) (p : Int) (pre : List Int) : Int := pre.foldl (fun w st => w * 32 + ns.getD (p + st).toNat 0) 0
@[irreducible] def window (ns : List Int) (x : Int) : Int := ((winF ns (x.fdiv 5) [0, 1, 2]).fdiv (twos.getD (7 - x.fmod 5).toNat 0)).fmod 256
theorem and_small (x : Int) : (Builtin.bitAnd x 33554431).natAbs < 2 ^ 64 := by
  have := PyProof.Rows.bitAnd_range x (y := 33554431) (by decide)
  omega
/-- the bit converter: what is held, how many bits of it, what is written -/
structure Cb where
  acc : Int
  bits : Int
  ret : List Int
def cbStep (c : Cb) (v : Int) : Cb :=
  if 8 ≤ c.bits + 5 then ⟨Builtin.bitAnd (Builtin.bitOr (c.acc * 2 ^ 5) v) 4095, c.bits + 5 - 8, c.ret ++ [Builtin.bitAnd ((Builtin.bitAnd (Builtin.bitOr (c.acc * 2 ^ 5) v) 4095).fdiv (2 ^ (c.bits + 5 - 8).toNat)) 255]⟩
  else ⟨Builtin.bitAnd (Builtin.bitOr (c.acc * 2 ^ 5) v) 4095, c.bits + 5, c.ret⟩
@[irreducible] def cb (ns : List Int) : Cb := ns.foldl cbStep ⟨0, 0, []⟩
@[irreducible] def conv (ns : List Int) : Option (List Int) :=
  if 5 ≤ (cb ns).bits ∨ Builtin.bitAnd ((cb ns).acc * 2 ^ (8 - (cb ns).bits).toNat) 255 ≠ 0 then none else some (cb ns).ret
/-- what holds between the turns -/
def CbAt (pre : List Int) (acc bits : Int) (ret : List Int) : Prop := acc = (cb pre).acc ∧ bits = (cb pre).bits ∧ ret = (cb pre).ret ∧ 0 ≤ bits ∧ bits < 8 ∧ 0 ≤ acc ∧ acc ≤ 4095 ∧ ret.length ≤ pre.length
theorem cb_nil : cb [] = ⟨0, 0, []⟩ := by unfold cb; rfl
theorem cb_snoc (l : List Int) (v : Int) : cb (l ++ [v]) = cbStep (cb l) v := by unfold cb; rw [List.foldl_append, List.foldl_cons, List.foldl_nil]
theorem cbAt_0' : CbAt [] 0 0 [] := by unfold CbAt; rw [cb_nil]; decide
theorem cbAt_A' {pre ret : List Int} {acc bits v : Int} (h : CbAt pre acc bits ret) (hb : 8 ≤ bits + 5) :
    CbAt (pre ++ [v]) (Builtin.bitAnd (Builtin.bitOr (acc * 2 ^ Int.toNat 5) v) 4095) (bits + 5 - 8) (ret ++ [Builtin.bitAnd ((Builtin.bitAnd (Builtin.bitOr (acc * 2 ^ Int.toNat 5) v) 4095).fdiv (2 ^ (bits + 5 - 8).toNat)) 255]) := by
  obtain ⟨e1, e2, e3, h4, h5, h6, h7, h8⟩ := h
  have hr := PyProof.Rows.bitAnd_range (Builtin.bitOr (acc * 2 ^ Int.toNat 5) v) (y := 4095) (by decide)
  unfold CbAt
  rw [cb_snoc]
  unfold cbStep
  rw [if_pos (by rw [← e2]; exact hb), ← e1, ← e2, ← e3]
  refine ⟨rfl, rfl, rfl, by omega, by omega, hr.1, hr.2, ?_⟩
  simp only [List.length_append, List.length_cons, List.length_nil]
  omega
theorem cbAt_B' {pre ret : List Int} {acc bits v : Int} (h : CbAt pre acc bits ret) (hb : ¬ 8 ≤ bits + 5) : CbAt (pre ++ [v]) (Builtin.bitAnd (Builtin.bitOr (acc * 2 ^ Int.toNat 5) v) 4095) (bits + 5) ret := by
  obtain ⟨e1, e2, e3, h4, h5, h6, h7, h8⟩ := h
  have hr := PyProof.Rows.bitAnd_range (Builtin.bitOr (acc * 2 ^ Int.toNat 5) v) (y := 4095) (by decide)
  unfold CbAt
  rw [cb_snoc]
  unfold cbStep
  rw [if_neg (by rw [← e2]; exact hb), ← e1, ← e2, ← e3]
  refine ⟨rfl, rfl, rfl, by omega, by omega, hr.1, hr.2, ?_⟩
  simp only [List.length_append, List.length_cons, List.length_nil]
  omega
theorem cbAt_0 : CbAt [] 0 0 [] ∧ (0 : Int) ≤ 0 ∧ (0 : Int) < 8 ∧ ([] : List Int).length ≤ ([] : List Int).length := ⟨cbAt_0', by decide⟩
theorem cb_m12 : (1 * 2 ^ (5 + 8 - 1 : Int).toNat - 1 : Int) = 4095 := by decide
theorem cb_m8 : (1 * 2 ^ Int.toNat 8 - 1 : Int) = 255 := by decide
theorem cbAt_A {pre ret : List Int} {acc bits v : Int} (h : CbAt pre acc bits ret) (h0 : 0 ≤ bits) (h1 : bits < 8) (h2 : ret.length ≤ pre.length) (hb : 8 ≤ bits + 5) :
    CbAt (pre ++ [v]) (Builtin.bitAnd (Builtin.bitOr (acc * 2 ^ Int.toNat 5) v) (1 * 2 ^ (5 + 8 - 1 : Int).toNat - 1)) (bits + 5 - 8) (ret ++ [Builtin.bitAnd ((Builtin.bitAnd (Builtin.bitOr (acc * 2 ^ Int.toNat 5) v) (1 * 2 ^ (5 + 8 - 1 : Int).toNat - 1)).fdiv (2 ^ (bits + 5 - 8).toNat)) (1 * 2 ^ Int.toNat 8 - 1)]) ∧
    0 ≤ bits + 5 - 8 ∧ bits + 5 - 8 < 8 ∧ (ret ++ [Builtin.bitAnd ((Builtin.bitAnd (Builtin.bitOr (acc * 2 ^ Int.toNat 5) v) (1 * 2 ^ (5 + 8 - 1 : Int).toNat - 1)).fdiv (2 ^ (bits + 5 - 8).toNat)) (1 * 2 ^ Int.toNat 8 - 1)]).length ≤ (pre ++ [v]).length := by
  refine ⟨?_, by omega, by omega, ?_⟩
  · rw [cb_m12, cb_m8]
    exact cbAt_A' h hb
  · simp only [List.length_append, List.length_cons, List.length_nil]
    omega
theorem cbAt_B {pre ret : List Int} {acc bits v : Int} (h : CbAt pre acc bits ret) (h0 : 0 ≤ bits) (h1 : bits < 8) (h2 : ret.length ≤ pre.length) (hb : ¬ 8 ≤ bits + 5) :
    CbAt (pre ++ [v]) (Builtin.bitAnd (Builtin.bitOr (acc * 2 ^ Int.toNat 5) v) (1 * 2 ^ (5 + 8 - 1 : Int).toNat - 1)) (bits + 5) ret ∧ 0 ≤ bits + 5 ∧ bits + 5 < 8 ∧ ret.length ≤ (pre ++ [v]).length := by
  refine ⟨?_, by omega, by omega, ?_⟩
  · rw [cb_m12]
    exact cbAt_B' h hb
  · simp only [List.length_append, List.length_cons, List.length_nil]
    omega
theorem cbAt_sh {pre ret : List Int} {acc bits : Int} (h : CbAt pre acc bits ret) (_ : 0 ≤ bits) (_ : bits < 8) (_ : ret.length ≤ pre.length) : acc.natAbs < 2 ^ 64 := by
  obtain ⟨_, _, _, _, _, h6, h7, _⟩ := h
  omega
theorem cbAt_n0 {bits : Int} (_ : 0 ≤ bits) (_ : bits < 8) : 0 ≤ 8 - bits := by omega
theorem cbAt_n1 {bits : Int} (_ : 0 ≤ bits) (_ : bits < 8) : 8 - bits ≤ 1000000 := by omega
theorem conv_n1 {ns ret : List Int} {acc bits : Int} (h : CbAt ns acc bits ret) (hb : 5 ≤ bits) : conv ns = none := by
  unfold conv; rw [if_pos (.inl (by rw [← h.2.1]; exact hb))]
theorem conv_n2 {ns ret : List Int} {acc bits : Int} (h : CbAt ns acc bits ret) (hb : Builtin.bitAnd (acc * 2 ^ (8 - bits).toNat) (1 * 2 ^ Int.toNat 8 - 1) ≠ 0) : conv ns = none := by
  rw [cb_m8] at hb
  unfold conv; rw [if_pos (.inr (by rw [← h.2.1, ← h.1]; exact hb))]
theorem conv_s {ns ret : List Int} {acc bits : Int} (h : CbAt ns acc bits ret) (hb : ¬ 5 ≤ bits) (hb' : Builtin.bitAnd (acc * 2 ^ (8 - bits).toNat) (1 * 2 ^ Int.toNat 8 - 1) = 0) : conv ns = some ret := by
  rw [cb_m8] at hb'
  unfold conv; rw [if_neg (by rw [← h.2.1, ← h.1]; exact fun e => e.elim hb fun x => x hb'), ← h.2.2.1]
theorem fdiv5_0 {v : Int} (h : 0 ≤ v ∧ v < 32) : v.fdiv (2 ^ Int.toNat 5) = 0 := by
  rw [Int.fdiv_eq_ediv_of_nonneg _ (by decide)]
  show v / 32 = 0
  omega
theorem pmIn_nil (t c : Int) : pmIn t c [] = c := by unfold pmIn; rfl
theorem pmIn_snoc (t c i : Int) (l : List Int) : pmIn t c (l ++ [i]) = Builtin.bitXor (pmIn t c l) (pmBit t i) := by unfold pmIn; rw [List.foldl_append, List.foldl_cons, List.foldl_nil]
theorem pm_nil : pm [] = 1 := by unfold pm; rfl
theorem pm_snoc (l : List Int) (v : Int) : pm (l ++ [v]) = pmStep (pm l) v := by unfold pm; rw [List.foldl_append, List.foldl_cons, List.foldl_nil]
theorem expand_length (fl : List Nat) : (expand fl).length = 2 * fl.length + 1 := by unfold expand; simp; omega
theorem create_length (fl : List Nat) (ns : List Int) : (create fl ns).length = 6 := by unfold create; rw [List.length_map]; rfl
theorem create_rng (fl : List Nat) (ns : List Int) : ∀ x ∈ create fl ns, 0 ≤ x ∧ x < 32 := by
  unfold create
  intro x hx
  obtain ⟨k, _, rfl⟩ := List.mem_map.mp hx
  rw [PyProof.Rows.bitAnd_m5]
  omega
theorem encode_rng {fl : List Nat} {ns : List Int} (hv : ∀ x ∈ ns, 0 ≤ x ∧ x < 32) {x : Int} (hx : x ∈ ns ++ create fl ns) : 0 ≤ x ∧ x < 32 := by
  rcases List.mem_append.mp hx with h | h
  · exact hv x h
  · exact create_rng fl ns x h
theorem times_0 {x y : Int} (h : x = 0) : times x y = 0 := by unfold times; rw [if_pos (.inl h)]
theorem times_1 {x y : Int} (h : y = 0) : times x y = 0 := by unfold times; rw [if_pos (.inr h)]
theorem times_2 {x y : Int} (h : x ≠ 0) (h' : y ≠ 0) : times x y = exps.getD ((logs.getD x.toNat 0 + logs.getD y.toNat 0).fmod 31).toNat 0 := by unfold times; rw [if_neg (fun e => e.elim h h')]
/-- the law's own reading of fives as octets -/
@[irreducible] def octets (ns : List Int) : Option (List Int) :=
  if 5 ≤ (5 * (ns.length : Int)).fmod 8 ∨ (0 < (5 * (ns.length : Int)).fmod 8 ∧ 0 < (ns.getD (ns.length - 1) 0).fmod (twos.getD ((5 * (ns.length : Int)).fmod 8).toNat 0)) then none
  else some ((PySem.W.rangeKs 0 ((5 * (ns.length : Int)).fdiv 8 - 0).toNat).map fun p => window ns (8 * p))
theorem last_idx (n : Nat) : (-1 + (n : Int)).toNat = n - 1 := by omega
theorem octets_n1 {ns : List Int} (h : 5 ≤ (5 * (ns.length : Int)).fmod 8) : octets ns = none := by unfold octets; rw [if_pos (.inl h)]
theorem octets_n2 {ns : List Int} (h : 0 < (5 * (ns.length : Int)).fmod 8) (h' : 0 < (ns.getD (-1 + (ns.length : Int)).toNat 0).fmod ([1, 2, 4, 8, 16, 32, 64, 128].getD ((5 * (ns.length : Int)).fmod 8).toNat 0)) : octets ns = none := by
  rw [last_idx] at h'
  unfold octets; rw [if_pos (.inr ⟨h, h'⟩)]
theorem octets_s1 {ns : List Int} (h : ¬ 5 ≤ (5 * (ns.length : Int)).fmod 8) (h' : ¬ 0 < (5 * (ns.length : Int)).fmod 8) : octets ns = some ((PySem.W.rangeKs 0 ((5 * (ns.length : Int)).fdiv 8 - 0).toNat).map fun p => window ns (8 * p)) := by
  unfold octets; rw [if_neg (fun e => e.elim h fun x => h' x.1)]
theorem octets_s2 {ns : List Int} (h : ¬ 5 ≤ (5 * (ns.length : Int)).fmod 8) (h' : ¬ 0 < (ns.getD (-1 + (ns.length : Int)).toNat 0).fmod ([1, 2, 4, 8, 16, 32, 64, 128].getD ((5 * (ns.length : Int)).fmod 8).toNat 0)) : octets ns = some ((PySem.W.rangeKs 0 ((5 * (ns.length : Int)).fdiv 8 - 0).toNat).map fun p => window ns (8 * p)) := by
  rw [last_idx] at h'
  unfold octets; rw [if_neg (fun e => e.elim h fun x => h' x.2)]
theorem twos_ne2 (x : Int) : twos.getD (x.fmod 8).toNat 0 ≠ 0 := by
  have h0 : 0 ≤ x.fmod 8 := Int.fmod_nonneg_of_pos _ (by decide)
  have h1 : x.fmod 8 < 8 := Int.fmod_lt_of_pos _ (by decide)
  have h2 : x.fmod 8 = 0 ∨ x.fmod 8 = 1 ∨ x.fmod 8 = 2 ∨ x.fmod 8 = 3 ∨ x.fmod 8 = 4 ∨ x.fmod 8 = 5 ∨ x.fmod 8 = 6 ∨ x.fmod 8 = 7 := by omega
  rcases h2 with h | h | h | h | h | h | h | h <;> rw [h] <;> decide
theorem winF_nil (ns : List Int) (p : Int) : winF ns p [] = 0 := by unfold winF; rfl
theorem winF_snoc (ns : List Int) (p k : Int) (pre : List Int) : winF ns p (pre ++ [k]) = winF ns p pre * 32 + ns.getD (p + k).toNat 0 := by unfold winF; rw [List.foldl_append, List.foldl_cons, List.foldl_nil]
theorem window_of {ns : List Int} {x c : Int} (h : c = winF ns (x.fdiv 5) (PySem.W.rangeKs 0 (3 - 0 : Int).toNat)) : (c.fdiv (twos.getD (7 - x.fmod 5).toNat 0)).fmod 256 = window ns x := by
  have e : PySem.W.rangeKs 0 (3 - 0 : Int).toNat = [0, 1, 2] := by decide
  rw [h, e]
  unfold window
  rfl
theorem win_turn0 {ns : List Int} {p : Int} : 0 = winF ns p [] := (winF_nil _ _).symm
theorem win_turnA {ns : List Int} {p k c : Int} {pre : List Int} (h : c = winF ns p pre) : c * 32 + ns.getD (p + k).toNat 0 = winF ns p (pre ++ [k]) := by rw [h, winF_snoc]
theorem win_turnB {ns : List Int} {p k c : Int} {pre : List Int} (h : c = winF ns p pre) (hb : ¬ p + k < (ns.length : Int)) : c * 32 + 0 = winF ns p (pre ++ [k]) := by
  rw [h, winF_snoc, List.getD_eq_getElem?_getD, List.getElem?_eq_none (by omega)]
  rfl
theorem getD_rng {ns : List Int} (hv : ∀ x ∈ ns, 0 ≤ x ∧ x < 32) (i : Nat) : 0 ≤ ns.getD i 0 ∧ ns.getD i 0 < 32 := by
  rw [List.getD_eq_getElem?_getD]
  cases h : ns[i]? with
  | none => decide
  | some y => exact hv y (List.mem_of_getElem? h)
theorem winF3 (ns : List Int) (p : Int) : winF ns p [0, 1, 2] = (ns.getD (p + 0).toNat 0 * 32 + ns.getD (p + 1).toNat 0) * 32 + ns.getD (p + 2).toNat 0 := by
  unfold winF
  simp only [List.foldl_cons, List.foldl_nil, Int.zero_mul, Int.zero_add]
theorem winF_rng {ns : List Int} (hv : ∀ x ∈ ns, 0 ≤ x ∧ x < 32) (p : Int) : 0 ≤ winF ns p [0, 1, 2] ∧ winF ns p [0, 1, 2] < 32768 := by
  rw [winF3]
  have h0 := getD_rng hv (p + 0).toNat
  have h1 := getD_rng hv (p + 1).toNat
  have h2 := getD_rng hv (p + 2).toNat
  omega
theorem rangeKs_03 : PySem.W.rangeKs 0 (3 - 0 : Int).toNat = [0, 1, 2] := by decide
theorem winF_rngK {ns : List Int} (hv : ∀ x ∈ ns, 0 ≤ x ∧ x < 32) {p c : Int} (h : c = winF ns p (PySem.W.rangeKs 0 (3 - 0 : Int).toNat)) : 0 ≤ c ∧ c < 32768 := by
  rw [h, rangeKs_03]
  exact winF_rng hv p
theorem twos_rng (x : Int) : 0 < twos.getD (7 - x.fmod 5).toNat 0 ∧ twos.getD (7 - x.fmod 5).toNat 0 ≤ 128 := by
  have h0 : 0 ≤ x.fmod 5 := Int.fmod_nonneg_of_pos _ (by decide)
  have h1 : x.fmod 5 < 5 := Int.fmod_lt_of_pos _ (by decide)
  have h2 : x.fmod 5 = 0 ∨ x.fmod 5 = 1 ∨ x.fmod 5 = 2 ∨ x.fmod 5 = 3 ∨ x.fmod 5 = 4 := by omega
  rcases h2 with h | h | h | h | h <;> rw [h] <;> decide
theorem twos_nat (x : Int) : (twos.getD (7 - x.fmod 5).toNat 0).natAbs < 1073741824 := by
  have := twos_rng x
  omega
theorem twos_ne (x : Int) : twos.getD (7 - x.fmod 5).toNat 0 ≠ 0 := by
  have h0 : 0 ≤ x.fmod 5 := Int.fmod_nonneg_of_pos _ (by decide)
  have h1 : x.fmod 5 < 5 := Int.fmod_lt_of_pos _ (by decide)
  have h2 : x.fmod 5 = 0 ∨ x.fmod 5 = 1 ∨ x.fmod 5 = 2 ∨ x.fmod 5 = 3 ∨ x.fmod 5 = 4 := by omega
  rcases h2 with h | h | h | h | h <;> rw [h] <;> decide
theorem pm_turn0 : 1 = pm [] := pm_nil.symm
theorem pmIn_turn0 {t c : Int} : c = pmIn t c [] := (pmIn_nil _ _).symm
theorem pmIn_turn1 {t u c : Int} (h : u = t) : Builtin.bitXor (Builtin.bitAnd u 33554431 * 2 ^ Int.toNat 5) c = pmIn (t.fdiv (2 ^ 25)) (Builtin.bitXor (Builtin.bitAnd t 33554431 * 2 ^ 5) c) [] := by subst h; rw [pmIn_nil]; rfl
theorem pm_turnA {c0 c X i : Int} {kp pre : List Int} (h0 : c0 = pm kp) (h : c = pmIn ((pm kp).fdiv (2 ^ 25)) X pre) (hb : Builtin.bitAnd ((c0.fdiv (2 ^ Int.toNat 25)).fdiv (2 ^ i.toNat)) 1 ≠ 0) :
    Builtin.bitXor c ([996825010, 642813549, 513874426, 1027748829, 705979059].getD i.toNat 0) = pmIn ((pm kp).fdiv (2 ^ 25)) X (pre ++ [i]) := by
  subst h0
  have hb' : Builtin.bitAnd (((pm kp).fdiv (2 ^ 25)).fdiv (2 ^ i.toNat)) 1 ≠ 0 := hb
  rw [h, pmIn_snoc]
  unfold pmBit
  rw [if_pos hb']
  rfl
theorem pm_turnB {c0 c X i : Int} {kp pre : List Int} (h0 : c0 = pm kp) (h : c = pmIn ((pm kp).fdiv (2 ^ 25)) X pre) (hb : Builtin.bitAnd ((c0.fdiv (2 ^ Int.toNat 25)).fdiv (2 ^ i.toNat)) 1 = 0) :
    Builtin.bitXor c 0 = pmIn ((pm kp).fdiv (2 ^ 25)) X (pre ++ [i]) := by
  subst h0
  have hb' : Builtin.bitAnd (((pm kp).fdiv (2 ^ 25)).fdiv (2 ^ i.toNat)) 1 = 0 := hb
  rw [h, pmIn_snoc]
  unfold pmBit
  rw [if_neg (by rw [hb']; decide)]
theorem pm_turnC {c v : Int} {kp : List Int} (h : c = pmIn ((pm kp).fdiv (2 ^ 25)) (Builtin.bitXor (Builtin.bitAnd (pm kp) 33554431 * 2 ^ 5) v) (PySem.W.rangeKs 0 (5 - 0 : Int).toNat)) : c = pm (kp ++ [v]) := by
  have e : PySem.W.rangeKs 0 (5 - 0 : Int).toNat = [0, 1, 2, 3, 4] := by decide
  rw [h, e, pm_snoc]
  unfold pmStep
  rfl
end Mine
end
section
open PySem PySem.W PyProof.Rows
set_option Elab.async false
set_option maxRecDepth 100000
namespace Mine
noncomputable abbrev PG : Program := PySem.Challenge.rw_fw0005_01.row.prog
noncomputable abbrev LO : List Str := looseW hd.view_39 [Str.ofString "convertbits"]
/-- the names that may stand in the module when no def, text or class is told of (the view that the calls carry says of none) -/
noncomputable abbrev LO0 : List Str := LO ++ (recsOf hd.view_39).map (·.name) ++ (litsOf hd.view_39).map (·.1) ++ (clssOf hd.view_39 LO).map (·.name)
noncomputable abbrev KK (w : World) : Frag := hd.heap_39 w.params
end Mine
end
section
open PySem PySem.W PyProof.Rows
set_option Elab.async false
set_option maxRecDepth 100000
namespace Mine
/-- what the iterable of such a comprehension must come to -/
def StrSrc (prog : Program) (w : World) (A : Around) (h₀ : Heap) (L : Addr) (m : Str → Option Value) (env : Env) (elt : Expr) (x : Str) (scope : Scope) (cl : List (Str × Addr)) (fl : List Nat) (g : Nat → Int) (Q : Value → Shared → Prop) (xv : Value) (s₁ : Shared) : Prop :=
  ∃ t news, xv = .str ⟨fl.toArray⟩ t ∧ Fr h₀ L s₁.heap m ∧ News h₀ L s₁.heap news ∧
      (∀ c t I oI C oC D m₂ ys h tk (E' : Value → Shared → Prop), c ∈ fl → LCg.NsObj oC m₂ → m₂ x = some (.str ⟨#[c]⟩ t) → Fr h₀ L h m → News h₀ L h ((I, oI) :: (C, oC) :: (D, LCg.lst ys) :: news) → LCg.Off3 I C D news → ((@Ne Nat I C) ∧ (@Ne Nat I D) ∧ (@Ne Nat C D)) →
        wpAny (model prog w) A (eval elt (compEnvC scope cl C env)) (LCg.CompEnd h₀ L m { s₁ with heap := h, toks := tk } I oI C oC D (LCg.lst ys) (fun _ => True) (fun y news' => KCfEl news (g c) y news')) E' { s₁ with heap := h, toks := tk }) ∧
      (∀ D h tk ys, IntsAre ys (fl.map g) → Fr h₀ L h m → News h₀ L h ((D, LCg.lst ys) :: news) → LCg.Off1 D news → Q (.ref D) { s₁ with heap := h, toks := tk })
theorem StrSrc.intro {prog : Program} {w : World} {A : Around} {h₀ : Heap} {L : Addr} {m : Str → Option Value} {env : Env} {elt : Expr} {x : Str} {scope : Scope} {cl : List (Str × Addr)} {fl : List Nat} {g : Nat → Int} {Q : Value → Shared → Prop} {t : Tok} {s₁ : Shared} {news : List (Addr × Obj)}
    (F : Fr h₀ L s₁.heap m) (N : News h₀ L s₁.heap news)
    (turn : ∀ c t I oI C oC D m₂ ys h tk (E' : Value → Shared → Prop), c ∈ fl → LCg.NsObj oC m₂ → m₂ x = some (.str ⟨#[c]⟩ t) → Fr h₀ L h m → News h₀ L h ((I, oI) :: (C, oC) :: (D, LCg.lst ys) :: news) → LCg.Off3 I C D news → ((@Ne Nat I C) ∧ (@Ne Nat I D) ∧ (@Ne Nat C D)) →
        wpAny (model prog w) A (eval elt (compEnvC scope cl C env)) (LCg.CompEnd h₀ L m { s₁ with heap := h, toks := tk } I oI C oC D (LCg.lst ys) (fun _ => True) (fun y news' => KCfEl news (g c) y news')) E' { s₁ with heap := h, toks := tk })
    (fin : ∀ D h tk ys, IntsAre ys (fl.map g) → Fr h₀ L h m → News h₀ L h ((D, LCg.lst ys) :: news) → LCg.Off1 D news → Q (.ref D) { s₁ with heap := h, toks := tk }) :
    StrSrc prog w A h₀ L m env elt x scope cl fl g Q (.str ⟨fl.toArray⟩ t) s₁ := ⟨t, news, rfl, F, N, turn, fin⟩
/-- a comprehension over a text of ASCII signs -/
theorem listcomp_str {prog : Program} {w : World} {A : Around} {E : Value → Shared → Prop} {s : Shared} {h₀ : Heap} {L : Addr} {m : Str → Option Value} {env : Env}
    {elt iter : Expr} {x : Str} {px : Pos} {scope : Scope} {cl : List (Str × Addr)} {pos : Pos} {Q : Value → Shared → Prop}
    (fl : List Nat) (g : Nat → Int) (ha : ∀ c ∈ fl, c < 128) (hsz : fl.length ≤ sizeLine) (hh : A.handled = none)
    (hclos : closureFor scope env = pure cl) (hcell : ∀ y ∈ scope.names, y.2 ≠ .cell) (hkind : scope.kind = .function)
    (hnames : ∀ y ∈ scope.names, y.2 = .local → scope.names.lookup y.1 = some .local) (hx : scope.names.lookup x = some .local)
    (_F₀ : Fr h₀ L s.heap m) (h : wpAny (model prog w) A (eval iter env) (StrSrc prog w A h₀ L m env elt x scope cl fl g Q) E s)
    (hs : ∀ x, foldedSetIterable iter env x = pure x := by intro _; rfl) :
    wpAny (model prog w) A (eval (.ListComp elt [⟨.Name x px, iter, [], 0⟩] scope pos) env) Q E s := by
  rw [eval_ListComp]
  refine wpAny_comprehension_free (use := none) rfl hs hclos hkind hnames (wpAny_mono h (fun xv s₁ h₁ => ?_) fun _ _ e => e)
  obtain ⟨t, news, rfl, F, N, turn, fin⟩ := h₁
  have hall : (Str.mk fl.toArray).cps.all (· < 128) = true := by simpa using ha
  refine wpAny_pyIter_ascii hall ?_
  have W := Walks.strAscii (prog := prog) (w := w) hh s₁.heap.objs.size ⟨fl.toArray⟩ t
  have hn : (Str.mk fl.toArray).cps.size = fl.length := by simp
  rw [hn] at W
  refine LCg.block_U (S := fun _ => True) (Fin := LCg.FinE h₀ L m { s₁ with heap := s₁.heap.push { cls := .type "str_ascii_iterator", data := .fields #[.str ⟨fl.toArray⟩ t, .int 0 0] } } Q) W hsz (fun i h st => by obtain ⟨o, e, _⟩ := st; exact ⟨o, e⟩) (fun i h h' o nw st e e' _ _ _ => by obtain ⟨o', q, r⟩ := st; rw [e] at q; cases q; exact ⟨o, e', r⟩) hcell hkind hx ⟨_, Heap.get?_push_size _ rfl, rfl, rfl⟩ (fun b hb => ?_)
      (F.keeps fun _ _ e => Heap.get?_push_of_some _ e) (N.grown fun _ _ e => Heap.get?_push_of_some _ e) (Nat.ne_of_lt F.ns.lt) (next_is_new F) (fun p hp => Nat.ne_of_lt (Heap.lt_size (N p hp).1)) trivial ?_ ?_
  · rw [List.mem_singleton.mp hb]
    show s₁.heap.objs.size < (s₁.heap.push _).objs.size
    rw [Heap.size_push]; exact Nat.lt_succ_self _
  · have key : ∀ (j i : Nat) (ys : List Value), i + j = fl.length → IntsAre ys ((fl.take i).map g) → LCg.CompRest prog w A h₀ L m env elt x scope cl { s₁ with heap := s₁.heap.push { cls := .type "str_ascii_iterator", data := .fields #[.str ⟨fl.toArray⟩ t, .int 0 0] } } (fun _ => True) (SignAt ⟨fl.toArray⟩) (LCg.FinE h₀ L m { s₁ with heap := s₁.heap.push { cls := .type "str_ascii_iterator", data := .fields #[.str ⟨fl.toArray⟩ t, .int 0 0] } } Q) j i ys news := by
      intro j
      induction j with
      | zero =>
        intro i ys hi hy
        have e : i = fl.length := by omega
        subst e
        rw [List.take_length] at hy
        refine LCg.CompRest.zero ?_
        intro D h tk F' N' o1
        exact fin D h tk ys hy F' N' o1
      | succ j ih =>
        intro i ys hi hy
        refine LCg.CompRest.succ ?_
        intro v I oI C oC D m₂ h tk E' hv hC hx F' N' off ne
        obtain ⟨c, u, hc, rfl⟩ := hv
        have hc' : fl[i]? = some c := by simpa using hc
        refine wpAny_mono (turn c u I oI C oC D m₂ ys h tk E' (List.mem_of_getElem? hc') hC hx F' N' off ne) (fun y s₂ hq => ?_) fun _ _ e => e
        obtain ⟨h', tk', nw, e, F'', N'', off', hS, hn, t', hy'⟩ := hq
        rw [hn] at N'' off'
        refine ⟨h', tk', news, e, F'', N'', off', trivial, ?_⟩
        rw [hy']
        refine ih (i + 1) _ (by omega) ?_
        rw [List.take_add_one, hc']
        simpa using IntsAre.append hy (.cons (g c) t' .nil)
    exact key fl.length 0 [] (by omega) (by simp only [List.take_zero, List.map_nil]; exact .nil)
  · intro D C h tk m' ys news' F' N' o1 hn hC₀ hD₀ hCL hDL hCD offC fin
    refine ⟨m', hn, fun h'' hs'' => fin D h'' tk (F'.change hs'' hCL hC₀) (fun p hp => ?_) o1⟩
    refine ⟨hs''.extBut _ _ ?_ (N' p hp).1, (N' p hp).2⟩
    rcases List.mem_cons.mp hp with rfl | hp
    · exact Ne.symm hCD
    · exact offC p hp
theorem whlIf_dec {c : Prop} [Decidable c] {T F : Prop} (t : c → T) (f : ¬ c → F) : WhlIf (decide c) T F := by
  by_cases h : c
  · exact WhlIf.yes (decide_eq_true h) (t h)
  · exact WhlIf.no (decide_eq_false h) (f h)
abbrev tup2 (a b : Value) : Obj := { cls := .type "tuple", data := .seq #[a, b] }
theorem off1_of {D : Addr} : ∀ {l : List (Addr × Obj)}, (∀ p ∈ l, p.1 ≠ D) → LCg.Off1 D l
  | [], _ => trivial
  | _ :: _, h => ⟨h _ List.mem_cons_self, off1_of fun p hp => h p (List.mem_cons_of_mem _ hp)⟩
theorem off1_mem {D : Addr} : ∀ {l : List (Addr × Obj)}, LCg.Off1 D l → ∀ p ∈ l, p.1 ≠ D
  | [], _, _, h => nomatch h
  | _ :: _, x, p, h => by
    rcases List.mem_cons.mp h with rfl | h
    · exact x.1
    · exact off1_mem x.2 p h
theorem ne_below {d : Addr} {l : List (Addr × Obj)} (h : ∀ p ∈ l, p.1 < d) : ∀ p ∈ l, p.1 ≠ d := fun p hp => Nat.ne_of_lt (h p hp)
theorem ne_below1 {d : Addr} {l : List (Addr × Obj)} (h : ∀ p ∈ l, p.1 < d) : ∀ p ∈ l, p.1 ≠ d + 1 := fun p hp => Nat.ne_of_lt (Nat.lt_succ_of_lt (h p hp))
section
variable {prog : Program} {w : World} {A : Around} {E : Value → Shared → Prop} {s : Shared}
theorem item_sign {value slice : Expr} {t u : Tok} {k : Int} {Q : Value → Shared → Prop} (h0 : 0 ≤ k) (h1 : k < 32) (h : ∀ t', Q (.str ⟨#[sgn k]⟩ t') { s with toks := s.toks + 1 })
    (hs : subscripted slice false (.str ⟨charset.toArray⟩ t) (.int k u) = operate [.str ⟨charset.toArray⟩ t, .int k u] (getItem (.str ⟨charset.toArray⟩ t) (.int k u))) :
    wpAny (model prog w) A (subscriptTail value slice (.str ⟨charset.toArray⟩ t) (.int k u)) Q E s := by
  refine tail_any (typeIs_str s _ t) F.slot_str_getitem.lookup (P.getItem_str (c := sgn k) (by simp; omega) ?_ (h _)) hs
  have hlen : (Str.mk charset.toArray).length = 32 := by decide
  rw [hlen]
  have hk : seqIndex? k 32 = some k.toNat := by
    unfold seqIndex?
    simp [h0, h1]
    omega
  rw [hk]
  have hn : k.toNat < 32 := by omega
  unfold sgn
  show (charset.toArray)[k.toNat]? = some _
  rw [List.getElem?_toArray, List.getD_eq_getElem?_getD, List.getElem?_eq_getElem (by show k.toNat < 32; exact hn)]
  rfl
end
theorem join_sgn (ks : List Int) : Txt.join (Str.ofString "") (ks.map fun k => Str.mk #[sgn k]) = Str.mk (ks.map sgn).toArray := by
  have h := join_plain_closes (Str.ofString "") (ks.map fun k => Str.mk #[sgn k])
  rw [eq_of_beq h, show Str.ofString "" = ⟨#[]⟩ from by decide]
  have h2 := join_ones (ks.map sgn)
  rw [List.map_map] at h2
  exact h2
theorem join_signs {prog : Program} {w : World} {A : Around} {E : Value → Shared → Prop} {s : Shared} {h₀ : Heap} {L D : Addr} {news : List (Addr × Obj)} {ys : List Value} {ks : List Int} {t : Tok} {Q : Value → Shared → Prop}
    (N : News h₀ L s.heap news) (hm : (D, LCg.lst ys) ∈ news) (hc : CarriedAll ys (ks.map fun k => PyData.str ⟨#[sgn k]⟩)) (hlen : ks.length ≤ 1000)
    (h : ∀ t' k, Q (.str ⟨(ks.map sgn).toArray⟩ t') { s with toks := k }) : wpAny (model prog w) A (call (.builtin "str.join") [.str (Str.ofString "") t, .ref D]) Q E s := by
  have hi : StrsAre ys (ks.map fun k => Str.mk #[sgn k]) := StrsAre.of_carried (by rw [List.map_map]; exact hc)
  refine join_listW (News.isList N hm) (by simpa using hi) (by decide) ?_ ?_
  · have e : ((ks.map fun k => Str.mk #[sgn k]).map (·.length)) = ks.map fun _ => 1 := by
      rw [List.map_map]; rfl
    rw [e]
    simp only [List.map_const', List.sum_replicate_nat, List.length_map]
    omega
  · intro t' k
    rw [join_sgn]
    exact h t' k
theorem add_texts {prog : Program} {w : World} {A : Around} {E : Value → Shared → Prop} {s : Shared} {x y : Str} (a b : List Nat) {t u : Tok} {Q : Value → Shared → Prop} (hx : x = ⟨a.toArray⟩) (hy : y = ⟨b.toArray⟩)
    (hsz : a.length + b.length ≤ 10000) (h : ∀ t' k, Q (.str ⟨(a ++ b).toArray⟩ t') { s with toks := k }) : wpAny (model prog w) A (binaryOp .Add (.str x t) (.str y u)) Q E s := by
  subst hx hy
  refine PyProof.Rows.add_str (fun t' k => ?_) ?_
  · have e : (Str.mk a.toArray ++ Str.mk b.toArray : Str) = ⟨(a ++ b).toArray⟩ := by
      show Str.mk (a.toArray ++ b.toArray) = _
      simp
    rw [e]
    exact h t' k
  · rw [sizeLine_eq]
    show a.toArray.size + b.toArray.size ≤ _
    simp only [List.size_toArray]
    omega
theorem str_front (a b : List Nat) : Str.mk a.toArray ++ Str.ofString "1" ++ Str.mk b.toArray = Str.mk (a ++ 49 :: b).toArray := by
  rw [show Str.ofString "1" = Str.mk #[49] from by decide]
  show Str.mk (a.toArray ++ #[49] ++ b.toArray) = _
  simp
end Mine
end
section
open PySem PySem.W PySem.Calls PyProof.Rows
set_option Elab.async false
set_option maxRecDepth 100000
set_option maxHeartbeats 4000000
namespace Mine
section
variable {M : Model} {A : Around} {E : Value → Shared → Prop} {s : Shared}
theorem gx_code {env : Env} {c P : Addr} {ps : Array Value} {pos : Pos} {qn : Str} {scope : Scope} {Q : Value → Shared → Prop}
    (hc : env.code = .ref c) (C : CodeHd s.heap c P) (hP : s.heap.get? P = some (tabObj ps)) (ht : TriplesOk ps.toList)
    (h : ∀ v h' tk ps', Heap.ExtBut P s.heap h' → s.heap.objs.size ≤ h'.objs.size → h'.get? P = some (tabObj ps') → TriplesOk ps'.toList → Q v { s with heap := h', toks := tk }) :
    wpAny M A (genexprCode env pos qn scope) Q E s := by
  cases hf : codeAmong pos ps.toList with
  | some v => exact wpAny_codeAt_hit hc (C.code hP ht) hf (h v s.heap s.toks ps (fun _ _ _ e => e) (Nat.le_refl _) hP ht)
  | none =>
    refine wpAny_genexprCodeX hc (C.code hP ht) (C.tab hP) hf fun c' h' tk hx hge hlt hcode _ htab _ => ?_
    exact h (.ref c') h' tk _ hx (Nat.le_trans hge (Nat.le_of_lt hlt)) htab.2 (by rw [Array.toList_append]; exact TriplesOk_snoc _ _ _ _ ht)
end
theorem passing_all (n : Nat) : passing (fun _ => true) n 0 = List.range n := by
  unfold passing; rw [List.drop_zero]; exact List.filter_eq_self.mpr fun _ _ => rfl

/-- a generator over a text whose elements are truth values -/
def Gx (prog : Program) (w : World) (A : Around) (L P : Addr) (news : List (Addr × Obj)) (a : Addr) (fl : List Nat) (q : Nat → Bool) (s : Shared) : Prop :=
  ∃ K, L ≤ K ∧ (∀ p ∈ news, p.1 ≤ K) ∧ P ≤ K ∧ Gen prog w A K a fl.length (fun j y => ∃ c, fl[j]? = some c ∧ y = .bool (q c)) s

def GxSrc (prog : Program) (w : World) (A : Around) (h₀ : Heap) (L P : Addr) (m : Str → Option Value) (env : Env) (elt : Expr) (x : Str) (scope : Scope) (cl : List (Str × Addr)) (fl : List Nat) (q : Nat → Bool) (Q : Value → Shared → Prop) (xv : Value) (s₁ : Shared) : Prop :=
  ∃ t ps news, xv = .str ⟨fl.toArray⟩ t ∧ Fr h₀ L s₁.heap m ∧ News h₀ L s₁.heap ((P, tabObj ps) :: news) ∧ TriplesOk ps.toList ∧ (∀ p ∈ news, p.1 ≠ P) ∧ AllBare s₁.gens ∧
    (∀ c' C (A' : Around) (E' : Value → Shared → Prop) ch t' (s₂ : Shared) m₂, ch ∈ fl → A'.handled = none → Fr h₀ C s₂.heap m₂ → m₂ x = some (.str ⟨#[ch]⟩ t') →
      wpAny (model prog w) A' (eval elt (genEnv scope cl C c' builtinsNs env)) (fun y s₃ => y = .bool (q ch) ∧ Keeps s₂ s₃) E' s₂) ∧
    (∀ a ps' s₅, Fr h₀ L s₅.heap m → News h₀ L s₅.heap ((P, tabObj ps') :: news) → TriplesOk ps'.toList → AllBare s₅.gens → s₅.os = s₁.os → Gx prog w A L P news a fl q s₅ → Q (.ref a) s₅)
theorem GxSrc.intro {prog : Program} {w : World} {A : Around} {h₀ : Heap} {L P : Addr} {m : Str → Option Value} {env : Env} {elt : Expr} {x : Str} {scope : Scope} {cl : List (Str × Addr)} {fl : List Nat} {q : Nat → Bool} {Q : Value → Shared → Prop} {t : Tok} {s₁ : Shared} {ps : Array Value} {news : List (Addr × Obj)}
    (F : Fr h₀ L s₁.heap m) (N : News h₀ L s₁.heap ((P, tabObj ps) :: news)) (ht : TriplesOk ps.toList) (hne : ∀ p ∈ news, p.1 ≠ P) (G : AllBare s₁.gens)
    (turn : ∀ c' C (A' : Around) (E' : Value → Shared → Prop) ch t' (s₂ : Shared) m₂, ch ∈ fl → A'.handled = none → Fr h₀ C s₂.heap m₂ → m₂ x = some (.str ⟨#[ch]⟩ t') →
      wpAny (model prog w) A' (eval elt (genEnv scope cl C c' builtinsNs env)) (fun y s₃ => y = .bool (q ch) ∧ Keeps s₂ s₃) E' s₂)
    (fin : ∀ a ps' s₅, Fr h₀ L s₅.heap m → News h₀ L s₅.heap ((P, tabObj ps') :: news) → TriplesOk ps'.toList → AllBare s₅.gens → s₅.os = s₁.os → Gx prog w A L P news a fl q s₅ → Q (.ref a) s₅) :
    GxSrc prog w A h₀ L P m env elt x scope cl fl q Q (.str ⟨fl.toArray⟩ t) s₁ := ⟨t, ps, news, rfl, F, N, ht, hne, G, turn, fin⟩

theorem genexp_str {prog : Program} {w : World} {A : Around} {E : Value → Shared → Prop} {s : Shared} {h₀ : Heap} {L c P : Addr} {m mg mb : Str → Option Value} {env : Env}
    {elt iter : Expr} {x : Str} {px : Pos} {scope : Scope} {cl : List (Str × Addr)} {pos : Pos} {Q : Value → Shared → Prop} {p : Program} {loose : List Str} {mean : ExcName → Option Value}
    (fl : List Nat) (q : Nat → Bool) (ha : ∀ c ∈ fl, c < 128) (T : Top p loose mean mg mb h₀) (C : CodeHd h₀ c P) (hcode : env.code = .ref c) (hge0 : env.globals = mainGlobals)
    (hh : A.handled = none) (hco : scope.isCoroutine = false) (hclos : closureFor scope env = pure cl) (hcell : ∀ y ∈ scope.names, y.2 ≠ .cell) (h0 : scope.names.lookup (".0" : Str) = some NameKind.local)
    (hx : scope.names.lookup x = some .local) (hkind : scope.kind = .function) (hroom : A.depth < recursionLimit)
    (_F₀ : Fr h₀ L s.heap m) (h : wpAny (model prog w) A (eval iter env) (GxSrc prog w A h₀ L P m env elt x scope cl fl q Q) E s)
    (hs : ∀ x, genFold iter env x = pure x := by intro _; rfl) :
    wpAny (model prog w) A (eval (.GeneratorExp elt [⟨.Name x px, iter, [], 0⟩] scope pos) env) Q E s := by
  refine wpAny_GeneratorExp_walksQD hh hco hclos hcell h0 hx hkind hroom (wpAny_mono h (fun xv s₁ h₁ => ?_) fun _ _ e => e) hs
  obtain ⟨t, ps, news, rfl, F, N, ht, hne, G, turn, fin⟩ := h₁
  have hall : (Str.mk fl.toArray).cps.all (· < 128) = true := by simpa using ha
  refine wpAny_pyIter_ascii hall ?_
  have hm := N (P, tabObj ps) (.head _)
  have hgs := T.g.keeps F.keep
  obtain ⟨bm, ob, b1, b2, b3, b4, b5, b6⟩ := T.bmain
  have hgP : mainGlobals ≠ P := fun q => by
    obtain ⟨o, es, ep, e, hd, _⟩ := hgs
    rw [q, hm.1] at e; cases e; cases hd
  have hbP : bm ≠ P := fun q => by
    have e := F.keep _ _ b3
    rw [q, hm.1] at e; cases e; cases b4
  have hl₁ : s₁.heap.NoLimit := T.nolimit.keeps F.keep
  have hcP : cStatics ≠ P := fun e => by
    obtain ⟨_, hns, _⟩ := hl₁
    obtain ⟨o, es, ep, ho, hd, _⟩ := hns
    rw [e, hm.1] at ho; cases ho; cases hd
  have hLlt : L < s₁.heap.objs.size := F.ns.lt
  have hPlt : P < s₁.heap.objs.size := Heap.lt_size hm.1
  have hclt : cStatics < s₁.heap.objs.size := let ⟨_, hn, _⟩ := hl₁; hn.lt
  have push : ∀ b o, s₁.heap.get? b = some o → (s₁.heap.push { cls := .type "str_ascii_iterator", data := .fields #[.str ⟨fl.toArray⟩ t, .int 0 0] }).get? b = some o := fun _ _ e => Heap.get?_push_of_some _ e
  refine ⟨hl₁.push _, gx_code hcode (C.keeps fun b o e => push b o (F.keep b o e)) (push _ _ hm.1) ht fun v h₃ tk₃ ps' hx₃ hsz hP₃ ht₃ => ?_⟩
  have hx' : Heap.ExtBut P s₁.heap h₃ := fun b o hb e => hx₃ b o hb (push b o e)
  have hsz' : s₁.heap.objs.size + 1 ≤ h₃.objs.size := by have h9 := hsz; simp only [Heap.size_push] at h9; exact h9
  refine wpAny_builtinsFor (m := mg) (by rw [hge0]; exact hgs.extBut hx' hgP) b1 b2 (hx' _ _ hbP (F.keep _ _ b3)) b4 b5 b6 ?_
  have W₀ := fun (A' : Around) (hA : A'.handled = none) => Walks.strAscii (prog := prog) (w := w) hA s₁.heap.objs.size ⟨fl.toArray⟩ t
  have hI : h₃.get? s₁.heap.objs.size = some { cls := .type "str_ascii_iterator", data := .fields #[.str ⟨fl.toArray⟩ t, .int 0 0] } := hx₃ _ _ (Nat.ne_of_gt hPlt) (Heap.get?_push_size _ rfl)
  have old₃ : ∀ b o, h₀.get? b = some o → h₃.get? b = some o := fun b o e => hx' b o (fun q => by rw [q, hm.2.2] at e; cases e) (F.keep b o e)
  have hl₃ : h₃.NoLimit := hl₁.extBut hx' hcP
  refine ⟨s₁.heap.objs.size, [s₁.heap.objs.size], [s₁.heap.objs.size], _, _, _, fun _ => true, fun i y => ∃ c, fl[i]? = some c ∧ y = .bool (q c), rfl, W₀, ⟨_, hI, rfl, rfl⟩, ?_, hl₃, ?_, ?_, ?_⟩
  · intro b hb
    rw [List.mem_singleton.mp hb]; exact hsz'
  · intro hb; exact absurd (List.mem_singleton.mp hb) (Nat.ne_of_lt hclt)
  · intro href hhref
    have inB : ∀ (t' : Shared) m₂, t'.heap.Ns h₃.objs.size m₂ → (∀ b ∈ List.range h₃.objs.size, b ∉ [s₁.heap.objs.size] → ∀ o, href.get? b = some o → t'.heap.get? b = some o) → Fr h₀ h₃.objs.size t'.heap m₂ := fun t' m₂ hn hkp =>
      ⟨hn, fun b o e => hkp b (List.mem_range.mpr (Heap.lt_size (old₃ b o e))) (fun hb => by
          have h1 := Heap.lt_size e
          rw [List.mem_singleton.mp hb] at h1
          exact absurd (Nat.lt_of_lt_of_le h1 (Nat.le_trans F.above (Nat.le_of_lt hLlt))) (Nat.lt_irrefl _)) o (hhref b o (old₃ b o e)), Nat.le_trans F.above (Nat.le_of_lt (Nat.lt_of_lt_of_le hLlt (Nat.le_of_succ_le hsz')))⟩
    refine ⟨fun A' E' i v t' m₂ hA hD hU hP hn hmx hkp => ?_, fun A' E' i v' t' m₂ hA hD hU hPv _ hn hmx hkp => ?_⟩
    · exact wpAny_pure ⟨rfl, t'.heap, t'.toks, rfl, fun _ _ e => e⟩
    · obtain ⟨ch, u, hc, rfl⟩ := hPv
      have hc' : fl[i]? = some ch := by simpa using hc
      exact wpAny_mono (turn v _ A' E' ch u t' m₂ (List.mem_of_getElem? hc') hA (inB t' m₂ hn hkp) hmx) (fun y s₃ ⟨e, k⟩ => ⟨⟨ch, hc', e⟩, k⟩) fun _ _ e => e
  · intro a h₅ tk gs hgb hag hsz₅ hk₅ W hat
    have hn : (Str.mk fl.toArray).cps.size = fl.length := by simp
    have kept : ∀ b o, b ≠ P → s₁.heap.get? b = some o → h₅.get? b = some o := fun b o hb e => hk₅ b o (hx' b o hb e)
    refine fin a ps' _ ⟨(F.ns.extBut hx' hm.2.1.symm).keeps hk₅, fun b o e => hk₅ b o (old₃ b o e), F.above⟩ (fun p hp => ?_) ht₃ (G.push hgb) rfl ?_
    · rcases List.mem_cons.mp hp with rfl | hp
      · exact ⟨hk₅ _ _ hP₃, hm.2⟩
      · have n := N p (List.mem_cons_of_mem _ hp)
        exact ⟨kept _ _ (hne p hp) n.1, n.2⟩
    · refine ⟨s₁.heap.objs.size - 1, Nat.le_sub_one_of_lt hLlt, fun p hp => ?_, Nat.le_sub_one_of_lt hPlt, ?_⟩
      · exact Nat.le_sub_one_of_lt (Heap.lt_size (N p (List.mem_cons_of_mem _ hp)).1)
      · have hF : (fun (j : Nat) (y : Value) => ∃ i, (List.range fl.length)[j]? = some i ∧ ∃ c, fl[i]? = some c ∧ y = Value.bool (q c)) = fun j y => ∃ c, fl[j]? = some c ∧ y = Value.bool (q c) := by
          funext j y
          apply propext
          constructor
          · rintro ⟨i, h1, h2⟩
            have : i = j := by
              rw [List.getElem?_eq_some_iff] at h1
              obtain ⟨_, h1⟩ := h1
              simpa using h1.symm
            exact this ▸ h2
          · rintro ⟨ch, h1, h2⟩
            have hj : j < fl.length := (List.getElem?_eq_some_iff.mp h1).1
            exact ⟨j, by simp [hj], ch, h1, h2⟩
        rw [hn] at W hat
        rw [passing_all, List.length_range, hF] at W
        refine ⟨_, _, _, _, W, hat, (fun i s' st => st.1.typeIs), List.mem_cons_self, ?_, ?_⟩
        · intro b hb
          show b < h₅.objs.size
          rw [hsz₅]
          rcases List.mem_cons.mp hb with rfl | hb
          · exact Nat.lt_succ_self _
          · rcases List.mem_cons.mp hb with rfl | hb
            · exact Nat.lt_succ_of_lt hag
            · exact Nat.lt_succ_of_lt (Nat.lt_trans (List.mem_range.mp hb) hag)
        · intro b hb
          rcases List.mem_cons.mp hb with rfl | hb
          · exact Nat.lt_of_lt_of_le (Nat.lt_of_le_of_lt (Nat.sub_le _ 1) (Nat.lt_succ_self _)) hsz'
          · rw [List.mem_singleton.mp hb]; exact Nat.sub_lt (Nat.lt_of_le_of_lt (Nat.zero_le _) hLlt) (Nat.succ_pos 0)

section
variable {prog : Program} {w : World} {A : Around} {E : Value → Shared → Prop} {s : Shared} {h₀ : Heap} {L P a : Addr} {m : Str → Option Value} {ps : Array Value} {news : List (Addr × Obj)} {fl : List Nat} {q : Nat → Bool} {Q : Value → Shared → Prop}
theorem any_range (fl : List Nat) (q : Nat → Bool) : (List.range fl.length).any (fun j => match fl[j]? with | some c => q c | none => false) = fl.any q := by
  rw [Bool.eq_iff_iff]
  simp only [List.any_eq_true, List.mem_range]
  constructor
  · rintro ⟨j, hj, h⟩
    rw [List.getElem?_eq_getElem hj] at h
    exact ⟨fl[j], List.getElem_mem hj, h⟩
  · rintro ⟨c, hc, h⟩
    obtain ⟨j, hj, rfl⟩ := List.getElem_of_mem hc
    exact ⟨j, hj, by rw [List.getElem?_eq_getElem hj]; exact h⟩
theorem all_range (fl : List Nat) (q : Nat → Bool) : (List.range fl.length).all (fun j => match fl[j]? with | some c => q c | none => false) = fl.all q := by
  rw [Bool.eq_iff_iff]
  simp only [List.all_eq_true, List.mem_range]
  constructor
  · intro h c hc
    obtain ⟨j, hj, rfl⟩ := List.getElem_of_mem hc
    have := h j hj
    rwa [List.getElem?_eq_getElem hj] at this
  · intro h j hj
    rw [List.getElem?_eq_getElem hj]; exact h _ (List.getElem_mem hj)
theorem gx_truth : TruthOf prog w A (fun j y => ∃ c, fl[j]? = some c ∧ y = Value.bool (q c)) (fun j => match fl[j]? with | some c => q c | none => false) := by
  intro i v s Q E hv hQ
  obtain ⟨c, hc, rfl⟩ := hv
  have hQ' : Q (match fl[i]? with | some c => q c | none => false) s := hQ
  rw [hc] at hQ'
  exact wpAny_truthy_bool hQ'
theorem any_gx (F : Fr h₀ L s.heap m) (N : News h₀ L s.heap ((P, tabObj ps) :: news)) (G : AllBare s.gens) (X : Gx prog w A L P news a fl q s)
    (h : ∀ s', Fr h₀ L s'.heap m → News h₀ L s'.heap ((P, tabObj ps) :: news) → AllBare s'.gens → s'.os = s.os → Q (.bool (fl.any q)) s') : wpAny (model prog w) A (call (.builtin "any") [.ref a]) Q E s := by
  obtain ⟨K, h1, h2, h3, X⟩ := X
  refine any_rowsK F G X h1 _ gx_truth fun s' F' G' o k => ?_
  rw [any_range]
  refine h s' F' (fun p hp => ⟨k _ _ ?_ (N p hp).1, (N p hp).2⟩) G' o
  rcases List.mem_cons.mp hp with rfl | hp
  · exact h3
  · exact h2 p hp
theorem all_gx (F : Fr h₀ L s.heap m) (N : News h₀ L s.heap ((P, tabObj ps) :: news)) (G : AllBare s.gens) (X : Gx prog w A L P news a fl q s)
    (h : ∀ s', Fr h₀ L s'.heap m → News h₀ L s'.heap ((P, tabObj ps) :: news) → AllBare s'.gens → s'.os = s.os → Q (.bool (fl.all q)) s') : wpAny (model prog w) A (call (.builtin "all") [.ref a]) Q E s := by
  obtain ⟨K, h1, h2, h3, X⟩ := X
  refine all_rowsK F G X h1 _ gx_truth fun s' F' G' o k => ?_
  rw [all_range]
  refine h s' F' (fun p hp => ⟨k _ _ ?_ (N p hp).1, (N p hp).2⟩) G' o
  rcases List.mem_cons.mp hp with rfl | hp
  · exact h3
  · exact h2 p hp
end
section
variable {M : Model} {A : Around} {E : Value → Shared → Prop} {s : Shared} {h₀ : Heap} {C : Addr} {m mg mb : Str → Option Value} {K : Frag} {p : Program} {loose : List Str} {mean : ExcName → Option Value} {env : Env} {x : Str} {pos : Pos} {v : Value} {Q : Value → Shared → Prop}
theorem gxn_builtin (F : Fr h₀ C s.heap m) (X : K.In h₀) (T : Top p loose mean mg mb h₀) (e : nsIn K mainGlobals x = some none) (hv : bootBuiltins x = some v) (hn : x ≠ "__name__") (h : Q v s)
    (hg : env.globals = mainGlobals) (hb : env.builtins = builtinsNs) (hk : env.scope.kind = .function) (hx : env.kindOf x = some .globalImplicit) (hd : (x == ("__debug__" : Str)) = false) :
    wpAny M A (eval (.Name x pos) env) Q E s :=
  Name_function_global hk hx (loadGlobal_builtin (env := env) (by rw [hg]; exact T.g.keeps F.keep) (mg_none_of X T.g e) (by rw [hb]; exact T.b.keeps F.keep) ((T.builtins x hn).trans hv) h) hd
theorem gxn_global (F : Fr h₀ C s.heap m) (X : K.In h₀) (T : Top p loose mean mg mb h₀) (e : nsIn K mainGlobals x = some (some v)) (h : Q v s)
    (hg : env.globals = mainGlobals) (hk : env.scope.kind = .function) (hx : env.kindOf x = some .globalImplicit) (hd : (x == ("__debug__" : Str)) = false) :
    wpAny M A (eval (.Name x pos) env) Q E s :=
  Name_function_global hk hx (loadGlobal_global (env := env) (by rw [hg]; exact T.g.keeps F.keep) (mg_of X T.g e) h) hd
theorem gxn_local (F : Fr h₀ C s.heap m) (hv : m x = some v) (hC : env.locals = C) (h : Q v s) (hk : env.scope.kind = .function) (hx : env.kindOf x = some .local) (hd : (x == ("__debug__" : Str)) = false) :
    wpAny M A (eval (.Name x pos) env) Q E s := wpAny_Name (wpAny_loadName_local hk hx (hC ▸ F.ns) hv h) hd
end
end Mine
end
section
open PySem PySem.W PyProof.Rows
set_option Elab.async false
set_option maxRecDepth 100000
set_option maxHeartbeats 4000000
namespace Mine
def StrSrcA (prog : Program) (w : World) (A : Around) (h₀ : Heap) (L : Addr) (m : Str → Option Value) (env : Env) (elt : Expr) (x y : Str) (scope : Scope) (cl : List (Str × Addr)) (fl : List Nat) (g : Nat → Int) (Q : Flow → Shared → Prop) (xv : Value) (s₁ : Shared) : Prop :=
  ∃ t news, xv = .str ⟨fl.toArray⟩ t ∧ Fr h₀ L s₁.heap m ∧ News h₀ L s₁.heap news ∧
      (∀ c t I oI C oC D m₂ ys h tk (E' : Value → Shared → Prop), c ∈ fl → LCg.NsObj oC m₂ → m₂ x = some (.str ⟨#[c]⟩ t) → Fr h₀ L h m → News h₀ L h ((I, oI) :: (C, oC) :: (D, LCg.lst ys) :: news) → LCg.Off3 I C D news → ((@Ne Nat I C) ∧ (@Ne Nat I D) ∧ (@Ne Nat C D)) →
        wpAny (model prog w) A (eval elt (compEnvC scope cl C env)) (LCg.CompEnd h₀ L m { s₁ with heap := h, toks := tk } I oI C oC D (LCg.lst ys) (fun _ => True) (fun y news' => KCfEl news (g c) y news')) E' { s₁ with heap := h, toks := tk }) ∧
      (∀ D h tk ys, IntsAre ys (fl.map g) → Fr h₀ L h (fun z => if z = y then some (.ref D) else m z) → News h₀ L h ((D, LCg.lst ys) :: news) → LCg.Off1 D news → Q .next { s₁ with heap := h, toks := tk })
theorem StrSrcA.intro {prog : Program} {w : World} {A : Around} {h₀ : Heap} {L : Addr} {m : Str → Option Value} {env : Env} {elt : Expr} {x y : Str} {scope : Scope} {cl : List (Str × Addr)} {fl : List Nat} {g : Nat → Int} {Q : Flow → Shared → Prop} {t : Tok} {s₁ : Shared} {news : List (Addr × Obj)}
    (F : Fr h₀ L s₁.heap m) (N : News h₀ L s₁.heap news)
    (turn : ∀ c t I oI C oC D m₂ ys h tk (E' : Value → Shared → Prop), c ∈ fl → LCg.NsObj oC m₂ → m₂ x = some (.str ⟨#[c]⟩ t) → Fr h₀ L h m → News h₀ L h ((I, oI) :: (C, oC) :: (D, LCg.lst ys) :: news) → LCg.Off3 I C D news → ((@Ne Nat I C) ∧ (@Ne Nat I D) ∧ (@Ne Nat C D)) →
        wpAny (model prog w) A (eval elt (compEnvC scope cl C env)) (LCg.CompEnd h₀ L m { s₁ with heap := h, toks := tk } I oI C oC D (LCg.lst ys) (fun _ => True) (fun y news' => KCfEl news (g c) y news')) E' { s₁ with heap := h, toks := tk })
    (fin : ∀ D h tk ys, IntsAre ys (fl.map g) → Fr h₀ L h (fun z => if z = y then some (.ref D) else m z) → News h₀ L h ((D, LCg.lst ys) :: news) → LCg.Off1 D news → Q .next { s₁ with heap := h, toks := tk }) :
    StrSrcA prog w A h₀ L m env elt x y scope cl fl g Q (.str ⟨fl.toArray⟩ t) s₁ := ⟨t, news, rfl, F, N, turn, fin⟩
theorem assign_listcomp_str {prog : Program} {w : World} {A : Around} {E : Value → Shared → Prop} {s : Shared} {h₀ : Heap} {L : Addr} {m : Str → Option Value} {env : Env}
    {elt iter : Expr} {x y : Str} {px py : Pos} {scope : Scope} {cl : List (Str × Addr)} {pos spos : Pos} {Q : Flow → Shared → Prop}
    (fl : List Nat) (g : Nat → Int) (ha : ∀ c ∈ fl, c < 128) (hsz : fl.length ≤ sizeLine) (hh : A.handled = none) (hLe : env.locals = L)
    (hsw : swapsWith (.ListComp elt [⟨.Name x px, iter, [], 0⟩] scope pos) (some (.Name y py)) spos.line env = pure true)
    (hclos : closureFor scope env = pure cl) (hcell : ∀ y ∈ scope.names, y.2 ≠ .cell) (hkind : scope.kind = .function)
    (hnames : ∀ y ∈ scope.names, y.2 = .local → scope.names.lookup y.1 = some .local) (hx : scope.names.lookup x = some .local)
    (hy : env.kindOf y = some .local) (hp : (env.scope.kind == .class || (env.scope.kind == .module && env.locals != env.globals)) = false)
    (_F₀ : Fr h₀ L s.heap m) (h : wpAny (model prog w) A (eval iter env) (StrSrcA prog w A h₀ L m env elt x y scope cl fl g Q) E s)
    (hs : ∀ x, foldedSetIterable iter env x = pure x := by intro _; rfl) :
    wpAny (model prog w) A (exec (.Assign [.Name y py] (.ListComp elt [⟨.Name x px, iter, [], 0⟩] scope pos) spos) env) Q E s := by
  subst hLe
  rw [exec_Assign_Name_used _ _ _ _ hsw]
  refine wpAny_bind (wpAny_standAt (wpAny_bind ?_))
  show wpAny _ A (do let _ ← comprehension (.ListComp elt [⟨.Name x px, iter, [], 0⟩] scope pos) scope env _ (newList []) false (eval iter env) (some (assign (.Name y py) env))) _ _ s
  refine wpAny_bind (wpAny_mono (wpAny_comprehension_free (use := some (assign (.Name y py) env)) (Q := fun _ s' => Q .next s') rfl hs hclos hkind hnames
    (wpAny_mono h (fun xv s₁ h₁ => ?_) fun _ _ e => e)) (fun _ s' hq => wpAny_pure (wpAny_pure hq)) fun _ _ e => e)
  obtain ⟨t, news, rfl, F, N, turn, fin⟩ := h₁
  have hall : (Str.mk fl.toArray).cps.all (· < 128) = true := by simpa using ha
  refine wpAny_pyIter_ascii hall ?_
  have W := Walks.strAscii (prog := prog) (w := w) hh s₁.heap.objs.size ⟨fl.toArray⟩ t
  have hn : (Str.mk fl.toArray).cps.size = fl.length := by simp
  rw [hn] at W
  refine LCg.block_U (S := fun _ => True) (Fin := LCg.FinA h₀ env.locals m { s₁ with heap := s₁.heap.push { cls := .type "str_ascii_iterator", data := .fields #[.str ⟨fl.toArray⟩ t, .int 0 0] } } y Q) W hsz (fun i h st => by obtain ⟨o, e, _⟩ := st; exact ⟨o, e⟩) (fun i h h' o nw st e e' _ _ _ => by obtain ⟨o', q, r⟩ := st; rw [e] at q; cases q; exact ⟨o, e', r⟩) hcell hkind hx ⟨_, Heap.get?_push_size _ rfl, rfl, rfl⟩ (fun b hb => ?_)
      (F.keeps fun _ _ e => Heap.get?_push_of_some _ e) (N.grown fun _ _ e => Heap.get?_push_of_some _ e) (Nat.ne_of_lt F.ns.lt) (next_is_new F) (fun p hp => Nat.ne_of_lt (Heap.lt_size (N p hp).1)) trivial ?_ ?_
  · rw [List.mem_singleton.mp hb]
    show s₁.heap.objs.size < (s₁.heap.push _).objs.size
    rw [Heap.size_push]; exact Nat.lt_succ_self _
  · have key : ∀ (j i : Nat) (ys : List Value), i + j = fl.length → IntsAre ys ((fl.take i).map g) → LCg.CompRest prog w A h₀ env.locals m env elt x scope cl { s₁ with heap := s₁.heap.push { cls := .type "str_ascii_iterator", data := .fields #[.str ⟨fl.toArray⟩ t, .int 0 0] } } (fun _ => True) (SignAt ⟨fl.toArray⟩) (LCg.FinA h₀ env.locals m { s₁ with heap := s₁.heap.push { cls := .type "str_ascii_iterator", data := .fields #[.str ⟨fl.toArray⟩ t, .int 0 0] } } y Q) j i ys news := by
      intro j
      induction j with
      | zero =>
        intro i ys hi hy
        have e : i = fl.length := by omega
        subst e
        rw [List.take_length] at hy
        refine LCg.CompRest.zero ?_
        intro D h tk F' N' o1
        exact fin D h tk ys hy F' N' o1
      | succ j ih =>
        intro i ys hi hy
        refine LCg.CompRest.succ ?_
        intro v I oI C oC D m₂ h tk E' hv hC hx F' N' off ne
        obtain ⟨c, u, hc, rfl⟩ := hv
        have hc' : fl[i]? = some c := by simpa using hc
        refine wpAny_mono (turn c u I oI C oC D m₂ ys h tk E' (List.mem_of_getElem? hc') hC hx F' N' off ne) (fun y s₂ hq => ?_) fun _ _ e => e
        obtain ⟨h', tk', nw, e, F'', N'', off', hS, hn, t', hy'⟩ := hq
        rw [hn] at N'' off'
        refine ⟨h', tk', news, e, F'', N'', off', trivial, ?_⟩
        rw [hy']
        refine ih (i + 1) _ (by omega) ?_
        rw [List.take_add_one, hc']
        simpa using IntsAre.append hy (.cons (g c) t' .nil)
    exact key fl.length 0 [] (by omega) (by simp only [List.take_zero, List.map_nil]; exact .nil)
  · intro D C h' tk m' ys news' F' N' o1 hn hC₀ hD₀ hCL hDL hCD offC fin
    show wpAny _ A (assign (.Name y py) env (.ref D)) _ _ _
    refine wpAny_assign_Name (wpAny_storeName_local hy F'.ns (fun h₂ hn₂ hs₂ => ?_) hp)
    have hL₀ : h₀.get? env.locals = none := Heap.get?_none_of_le F'.above
    have F₂ : Fr h₀ env.locals h₂ (fun z => if z = y then some (.ref D) else m z) := ⟨hn₂, fun b o e => hs₂.extBut b o (fun q => by rw [q, hL₀] at e; cases e) (F'.keep b o e), F'.above⟩
    refine ⟨m', hn.sameBut hs₂ hCL, fun h'' hs'' => fin D h'' _ (F₂.change hs'' hCL hC₀) (fun p hp => ?_) o1⟩
    have z : h₂.get? p.1 = some p.2 := hs₂.extBut _ _ (N' p hp).2.1 (N' p hp).1
    refine ⟨hs''.extBut _ _ ?_ z, (N' p hp).2⟩
    rcases List.mem_cons.mp hp with rfl | hp
    · exact Ne.symm hCD
    · exact offC p hp
end Mine
end
section
open PySem PySem.W PyProof.Rows
set_option Elab.async false
set_option maxRecDepth 100000
set_option maxHeartbeats 4000000
namespace Mine
theorem sgn_find32 : ∀ k : Fin 32, Txt.find (Str.mk charset.toArray) (Str.mk #[charset.getD k.val 0]) = (k.val : Int) := by decide +kernel
theorem sgn_find {k : Int} (h0 : 0 ≤ k) (h1 : k < 32) : Txt.find (Str.mk charset.toArray) (Str.mk #[sgn k]) = k := by
  have h := sgn_find32 ⟨k.toNat, by omega⟩
  unfold sgn
  rw [h]; show (k.toNat : Int) = k; omega
theorem sgn_mem32 : ∀ k : Fin 32, charset.getD k.val 0 ∈ charset := by decide +kernel
theorem sgn_mem {k : Int} (h0 : 0 ≤ k) (h1 : k < 32) : sgn k ∈ charset := by
  have h := sgn_mem32 ⟨k.toNat, by omega⟩
  unfold sgn; exact h
theorem charset_ok : ∀ c ∈ charset, 48 ≤ c ∧ c ≤ 122 ∧ (c < 65 ∨ 90 < c) ∧ c ≠ 49 := by decide +kernel
theorem signs_ok {ds : List Int} (hv : ∀ x ∈ ds, 0 ≤ x ∧ x < 32) : ∀ c ∈ ds.map sgn, c ∈ charset := fun c hc => by
  obtain ⟨k, hk, rfl⟩ := List.mem_map.mp hc
  exact sgn_mem (hv k hk).1 (hv k hk).2
/-- the whole text -/
abbrev whole (fl : List Nat) (ds : List Int) : List Nat := fl ++ 49 :: ds.map sgn
theorem whole_rng {fl : List Nat} {ds : List Int} (hfl : ∀ x ∈ fl, 33 ≤ x ∧ x ≤ 126) (hv : ∀ x ∈ ds, 0 ≤ x ∧ x < 32) : ∀ c ∈ whole fl ds, 33 ≤ c ∧ c ≤ 126 := fun c hc => by
  rcases List.mem_append.mp hc with h | h
  · exact hfl c h
  · rcases List.mem_cons.mp h with rfl | h
    · decide
    · have := charset_ok c (signs_ok hv c h); omega
theorem whole_ascii {fl : List Nat} {ds : List Int} (hfl : ∀ x ∈ fl, 33 ≤ x ∧ x ≤ 126) (hv : ∀ x ∈ ds, 0 ≤ x ∧ x < 32) : ∀ c ∈ whole fl ds, c < 128 := fun c hc => by
  have := whole_rng hfl hv c hc; omega
theorem whole_still {fl : List Nat} {ds : List Int} (hfl : ∀ x ∈ fl, 33 ≤ x ∧ x ≤ 126) (hlow : ∀ x ∈ fl, x < 65 ∨ 90 < x) (hv : ∀ x ∈ ds, 0 ≤ x ∧ x < 32) : KXs.Still (Str.mk (whole fl ds).toArray) := fun c hc => by
  have hc' : c ∈ whole fl ds := by simpa using hc
  have := whole_rng hfl hv c hc'
  refine ⟨by omega, by omega, ?_⟩
  rcases List.mem_append.mp hc' with h | h
  · exact hlow c h
  · rcases List.mem_cons.mp h with rfl | h
    · decide
    · exact (charset_ok c (signs_ok hv c h)).2.2.1
theorem whole_rfind {fl : List Nat} {ds : List Int} (hv : ∀ x ∈ ds, 0 ≤ x ∧ x < 32) : Txt.rfind (Str.mk (whole fl ds).toArray) (Str.mk #[49]) = (fl.length : Int) := by
  have key : ∀ i, StrLaws.At (Str.mk (whole fl ds).toArray) (Str.mk #[49]) (Str.mk (whole fl ds).toArray).length i ↔ (whole fl ds)[i]? = some 49 := fun i => by
    have := StrLaws.subAt_one (Str.mk (whole fl ds).toArray) 49 i
    simpa [StrLaws.At] using this
  have hat : (whole fl ds)[fl.length]? = some 49 := by simp
  unfold Txt.rfind
  rcases StrLaws.last_spec (Str.mk (whole fl ds).toArray) (Str.mk #[49]) with ⟨e, h⟩ | ⟨i, e, h1, h2⟩
  · exact absurd ((key _).mpr hat) (h _)
  · rw [e]
    show (i : Int) = _
    rcases Nat.lt_trichotomy i fl.length with hlt | heq | hgt
    · exact absurd ((key _).mpr hat) (h2 _ hlt)
    · rw [heq]
    · have hi := (key i).mp h1
      have : (ds.map sgn)[i - fl.length - 1]? = some 49 := by
        rw [List.getElem?_append_right (by omega)] at hi
        rw [show i - fl.length = (i - fl.length - 1) + 1 by omega, List.getElem?_cons_succ] at hi
        exact hi
      exact absurd rfl (charset_ok 49 (signs_ok hv 49 (List.mem_of_getElem? this))).2.2.2
theorem slice_to (a b : List Nat) : Txt.slice (Str.mk (a ++ b).toArray) none (some (a.length : Int)) = Str.mk a.toArray := by
  have h := slice_closes_to (x := Str.mk (a ++ b).toArray) (j := a.length) (by simp; omega)
  rw [eq_of_beq h]
  simp
theorem slice_from (a b : List Nat) : Txt.slice (Str.mk (a ++ b).toArray) (some (a.length : Int)) none = Str.mk b.toArray := by
  have e : (Str.mk (a ++ b).toArray).length = a.length + b.length := by simp [Str.length]
  rw [slice_from_eq (b := ((Str.mk (a ++ b).toArray).length : Int)) (by omega) (by rw [e]; omega) rfl, e]
  simp only [Int.toNat_natCast, List.drop_left]
  rw [List.take_of_length_le (by omega)]
theorem whole_rfind1 {fl : List Nat} {ds : List Int} (hv : ∀ x ∈ ds, 0 ≤ x ∧ x < 32) : Txt.rfind (Str.mk (whole fl ds).toArray) (Str.ofString "1") = (fl.length : Int) := by
  rw [show Str.ofString "1" = Str.mk #[49] from by decide]; exact whole_rfind hv
theorem whole_len (fl : List Nat) (ds : List Int) : (Str.mk (whole fl ds).toArray).length = fl.length + 1 + ds.length := by
  simp [Str.length]; omega
theorem any_false (l : List Nat) : (l.any fun _ => false) = false := by simp
theorem all_true (l : List Nat) : (l.all fun _ => true) = true := by simp
theorem whole_to (fl : List Nat) (ds : List Int) : Txt.slice (Str.mk (whole fl ds).toArray) none (some (fl.length : Int)) = Str.mk fl.toArray := slice_to fl (49 :: ds.map sgn)
theorem whole_from (fl : List Nat) (ds : List Int) : Txt.slice (Str.mk (whole fl ds).toArray) (some ((fl.length : Int) + 1)) none = Str.mk (ds.map sgn).toArray := by
  have h := slice_from (fl ++ [49]) (ds.map sgn)
  rw [List.append_assoc] at h
  simpa using h
theorem find_map {ds : List Int} (hv : ∀ x ∈ ds, 0 ≤ x ∧ x < 32) : (ds.map sgn).map (fun c => Txt.find (Str.mk charset.toArray) (Str.mk #[c])) = ds := by
  rw [List.map_map]
  conv => rhs; rw [← List.map_id ds]
  exact List.map_congr_left fun k hk => sgn_find (hv k hk).1 (hv k hk).2
theorem in_charset {c : Nat} (h : c ∈ charset) : (!(Builtin.Str.occurrences (Str.mk charset.toArray) (Str.mk #[c]) 0 (Str.mk charset.toArray).length 1).isEmpty) = true := by
  rw [StrLaws.found_one]; simpa using h
end Mine
end
section
open PySem
namespace Mine
/-- what decode answers for a text with the front `fl` and the fives `ds` -/
@[irreducible] def dec (fl : List Nat) (ds : List Int) : Option (Int × List Int) :=
  if pm (expand fl ++ ds) ≠ 1 then none else
  match conv ((ds.take (ds.length - 6)).drop 1) with
  | none => none
  | some os =>
    if os.length < 2 ∨ 40 < os.length then none else
    if 16 < ds.getD 0 0 then none else
    if ds.getD 0 0 = 0 ∧ os.length ≠ 20 ∧ os.length ≠ 32 then none else some (ds.getD 0 0, os)
section
variable {fl : List Nat} {ds os : List Int}
theorem dec_n0 (h : pm (expand fl ++ ds) ≠ 1) : dec fl ds = none := by unfold dec; rw [if_pos h]
theorem dec_n1 (h : conv ((ds.take (ds.length - 6)).drop 1) = none) : dec fl ds = none := by unfold dec; rw [h]; split <;> rfl
theorem dec_n2 (h : conv ((ds.take (ds.length - 6)).drop 1) = some os) (h2 : os.length < 2 ∨ 40 < os.length) : dec fl ds = none := by
  unfold dec; rw [h]; dsimp only; rw [if_pos h2]; split <;> rfl
theorem dec_n3 (h3 : 16 < ds.getD 0 0) : dec fl ds = none := by
  unfold dec
  split
  · rfl
  · split
    · rfl
    · split
      · rfl
      · rfl
theorem dec_n4 (h : conv ((ds.take (ds.length - 6)).drop 1) = some os) (h3 : ds.getD 0 0 = 0 ∧ os.length ≠ 20 ∧ os.length ≠ 32) : dec fl ds = none := by
  unfold dec
  rw [h]; dsimp only
  rw [if_pos h3]
  split
  · rfl
  · split
    · rfl
    · split <;> rfl
theorem dec_s (h : pm (expand fl ++ ds) = 1) (hc : conv ((ds.take (ds.length - 6)).drop 1) = some os) (h1 : ¬ (os.length < 2 ∨ 40 < os.length)) (h2 : ¬ 16 < ds.getD 0 0) (h3 : ¬ (ds.getD 0 0 = 0 ∧ os.length ≠ 20 ∧ os.length ≠ 32)) :
    dec fl ds = some (ds.getD 0 0, os) := by
  unfold dec
  rw [if_neg (fun e => e h), hc]; dsimp only
  rw [if_neg h1, if_neg h2, if_neg h3]
end
theorem cbStep_len (c : Cb) (v : Int) : (cbStep c v).ret.length ≤ c.ret.length + 1 := by
  unfold cbStep
  split
  · simp
  · simp
theorem cb_foldl_len (l : List Int) : ∀ c : Cb, (l.foldl cbStep c).ret.length ≤ c.ret.length + l.length := by
  induction l with
  | nil => intro c; simp
  | cons v l ih =>
    intro c
    have h1 := ih (cbStep c v)
    have h2 := cbStep_len c v
    simp only [List.foldl_cons, List.length_cons]
    omega
theorem cb_len (l : List Int) : (cb l).ret.length ≤ l.length := by
  have h := cb_foldl_len l ⟨0, 0, []⟩
  unfold cb
  simpa using h
theorem conv_len {ns os : List Int} (h : conv ns = some os) : os.length ≤ ns.length := by
  unfold conv at h
  split at h
  · cases h
  · cases h; exact cb_len ns
theorem take_getD {ds : List Int} (h6 : 8 ≤ ds.length) : (List.take (ds.length - 6) ds).getD (Int.toNat 0) 0 = ds.getD 0 0 := by
  cases ds with
  | nil => simp at h6
  | cons a l =>
    simp only [List.length_cons] at h6
    rw [List.length_cons, show l.length + 1 - 6 = (l.length - 6) + 1 by omega]
    rfl
end Mine
end
section
open PySem PySem.W PyProof.Rows
namespace Mine
@[irreducible] def low (c : Int) : Int := if 65 ≤ c ∧ c ≤ 90 then c + 32 else c
theorem low_1 {c : Int} (h : 65 ≤ c) (h' : c ≤ 90) : low c = c + 32 := by unfold low; rw [if_pos ⟨h, h'⟩]
theorem low_2 {c : Int} (h : ¬ 65 ≤ c) : low c = c := by unfold low; rw [if_neg fun e => h e.1]
theorem low_3 {c : Int} (h : ¬ c ≤ 90) : low c = c := by unfold low; rw [if_neg fun e => h e.2]
theorem low_rng {c : Int} (h : 33 ≤ c) (h' : c ≤ 126) : 33 ≤ low c ∧ low c ≤ 126 ∧ (low c < 65 ∨ 90 < low c) := by
  unfold low; split <;> omega
theorem join_ones' (ks : List Int) (g : Int → Nat) : Txt.join (Str.ofString "") (ks.map fun k => Str.mk #[g k]) = Str.mk (ks.map g).toArray := by
  have h := join_plain_closes (Str.ofString "") (ks.map fun k => Str.mk #[g k])
  rw [eq_of_beq h, show Str.ofString "" = ⟨#[]⟩ from by decide]
  have h2 := join_ones (ks.map g)
  rw [List.map_map] at h2
  exact h2
theorem join_all {prog : Program} {w : World} {A : Around} {E : Value → Shared → Prop} {s : Shared} {h₀ : Heap} {L D : Addr} {news : List (Addr × Obj)} {ys : List Value} {ks : List Int} (g : Int → Nat) {t : Tok} {Q : Value → Shared → Prop}
    (N : News h₀ L s.heap news) (hm : (D, LCg.lst ys) ∈ news) (hc : CarriedAll ys (ks.map fun k => PyData.str ⟨#[g k]⟩)) (hlen : ks.length ≤ 1000)
    (h : ∀ t' k, Q (.str ⟨(ks.map g).toArray⟩ t') { s with toks := k }) : wpAny (model prog w) A (call (.builtin "str.join") [.str (Str.ofString "") t, .ref D]) Q E s := by
  have hi : StrsAre ys (ks.map fun k => Str.mk #[g k]) := StrsAre.of_carried (by rw [List.map_map]; exact hc)
  refine join_listW (News.isList N hm) (by simpa using hi) (by decide) ?_ ?_
  · have e : ((ks.map fun k => Str.mk #[g k]).map (·.length)) = ks.map fun _ => 1 := by
      rw [List.map_map]; rfl
    rw [e]
    simp only [List.map_const', List.sum_replicate_nat, List.length_map]
    omega
  · intro t' k
    rw [join_ones']
    exact h t' k
theorem low_arg (x : Int) : 33 ≤ 33 + x.fmod 94 ∧ 33 + x.fmod 94 ≤ 126 := by
  have h0 := Int.fmod_nonneg_of_pos x (b := 94) (by decide)
  have h1 := Int.fmod_lt_of_pos x (b := 94) (by decide)
  omega
theorem low_chr0 (x : Int) : 0 ≤ low (33 + x.fmod 94) := by
  have := low_rng (low_arg x).1 (low_arg x).2; omega
theorem low_chr1 (x : Int) : low (33 + x.fmod 94) ≤ 1114111 := by
  have := low_rng (low_arg x).1 (low_arg x).2; omega
end Mine
namespace Mine
theorem int_join {M : Model} {A : Around} {E : Value → Shared → Prop} {s : Shared} {tree : Sem Value} {Q : Value → Shared → Prop} (P : Int → Prop)
    (h : wpAny M A tree (fun v s' => ∃ x t tk, v = .int x t ∧ s' = { s with toks := tk } ∧ P x) E s) (hc : ∀ x t tk, P x → Q (.int x t) { s with toks := tk }) : wpAny M A tree Q E s :=
  wpAny_mono h (fun v s' ⟨x, t, tk, e1, e2, hp⟩ => by subst e1 e2; exact hc x t tk hp) fun _ _ e => e
theorem f16 (x : Int) : 0 ≤ 1 + x.fmod 16 ∧ 1 + x.fmod 16 ≤ 16 := by
  have h0 := Int.fmod_nonneg_of_pos x (b := 16) (by decide)
  have h1 := Int.fmod_lt_of_pos x (b := 16) (by decide)
  omega
theorem f20 (x : Int) : 4 ≤ 4 + x.fmod 20 ∧ 4 + x.fmod 20 ≤ 23 := by
  have h0 := Int.fmod_nonneg_of_pos x (b := 20) (by decide)
  have h1 := Int.fmod_lt_of_pos x (b := 20) (by decide)
  omega
end Mine
namespace Mine
/-- a goal to be walked later -/
structure Later (p : Prop) : Prop where
  run : p
theorem int_joinL {M : Model} {A : Around} {E : Value → Shared → Prop} {s : Shared} {tree : Sem Value} {Q : Value → Shared → Prop} (P : Int → Prop)
    (h : Later (wpAny M A tree (fun v s' => ∃ x t tk, v = .int x t ∧ s' = { s with toks := tk } ∧ P x) E s)) (hc : Later (∀ x t tk, P x → Q (.int x t) { s with toks := tk })) : wpAny M A tree Q E s := int_join P h.run hc.run
end Mine
namespace Mine
theorem Later.go {p : Prop} (h : Later p) : p := h.run
end Mine
end
section
open PySem PySem.W PyProof.Rows
set_option Elab.async false
set_option maxRecDepth 100000
set_option maxHeartbeats 8000000
set_option linter.unusedVariables false
namespace Mine
theorem filled_polymod : (PySem.Challenge.rw_fw0005_01 = PySem.Challenge.rw_fw0005_01) ∧ (hd.heap_39 = hd.heap_39) := by
  k_fill
  exact ⟨rfl, rfl⟩
set_option pp.deepTerms.threshold 8
local macro_rules | `(tactic| k_memK) => `(tactic| first | assumption | (refine List.Mem.tail _ ?_; k_memK))
local macro_rules | `(tactic| k_mem) => `(tactic| first | assumption | exact List.Mem.head _ | (refine List.Mem.tail _ ?_; k_mem))
local macro_rules | `(tactic| is_list) => `(tactic| exact News.isList (by k_asm) (by k_mem))
local macro_rules | `(tactic| k_all) => `(tactic| first | exact off1_mem (by assumption) | exact ne_below1 (by assumption) | exact ne_below (by assumption) | exact ne_below (ktn_ltOf (by assumption)) | (rename _ ∧ _ => l9; first | exact ne_below (ktn_ltOf l9.2) | exact ne_below (ktn_ltOf l9.2.2) | exact ne_below (ktn_ltOf l9.2.2.2) | exact ne_below (ktn_ltOf l9.2.2.2.2) | exact ne_below (ktn_ltOf l9.2.2.2.2.2)))
local macro_rules | `(tactic| k_room) => `(tactic| ktr_room)
local macro_rules | `(tactic| size_fits) => `(tactic| ((rw [PySem.sizeLine_eq]); (try simp only [List.size_toArray, Array.size_append]); kcf_lens; (try simp only [List.length_append, List.length_cons, List.length_nil, List.length_map, expand_length, create_length] at *); omega))
local macro_rules | `(tactic| walk_at $s:str) => `(tactic| k_extra $s)
theorem polymod_c {w : World} {mean : ExcName → Option Value} {mg mb : Str → Option Value} {dp un : Nat} {gd : Option (List Code)} {cn : Str} {cs : Scope} {a : Addr} {ccd : Value} {cl : List (Str × Addr)} {outer : List Env} {A₀ : Around} {base h₀ : Heap} {L : Addr} {m : Str → Option Value} {news : List (Addr × Obj)} {s : Shared}
    {l : Addr} {vs : List Value} {n : Nat} {ns : List Int}
    {Q E : Value → Shared → Prop} (B : Below A₀ base outer h₀) (F : Fr h₀ L s.heap m) (X : (hd.heap_39 w.params).In h₀) (N : News h₀ L s.heap news) (T : Top topProg LO0 mean mg mb h₀) (hk : cs.kind = .function)
    (hd1 : dp + 2 < recursionLimit) (hu : un + 16 < cLine)
    (hm : (l, listOf vs.toArray n) ∈ news) (hi : IntsAre vs ns)
    (hret : ∀ t h' tk', Fr h₀ L h' m → News h₀ L h' news → Q (.int (pm ns) t) { s with heap := h', toks := tk' }) :
    wpAny (model PG w) (ktrTop dp un gd cn cs L a ccd cl outer) (call (.ref 21) [.ref l]) Q E s := by
  w_top off
  k_with_none
  refine wpAny_call ?_
  k_dflt cell_enter
  k_with "pyIter ref" => k_dflt (k_of "value" => k_state (fun pre chk => chk = pm pre) "chk")
  k_with "pyIter ref" => k_dflt (k_of "i" => k_state_short (fun pre chk => chk = pmIn ((pm kPre).fdiv (2 ^ 25)) (Builtin.bitXor (Builtin.bitAnd (pm kPre) 33554431 * 2 ^ 5) kN) pre) "chk")
  k_with "binaryOp LShift int int" => (refine lshift_int_small (by decide) (by decide) (and_small _) ?_)
  k_with "exec For Name Call cons nil" => ((rename Fr _ _ _ _ => lF'); (with_unfolding_all refine' For_invVF lF' ?k1 ?k2 ?_; (case k1 => exact rfl); (case k2 => exact rfl); k_whole))
  k_with "state" => first
    | (with_reducible exact pm_turn0)
    | (with_reducible exact pmIn_turn1 (by assumption))
    | (with_reducible exact pm_turnA (by assumption) (by assumption) (by assumption))
    | (with_reducible exact pm_turnB (by assumption) (by assumption) (by assumption))
    | (with_reducible exact pm_turnC (by assumption))
  k_steps
  rename _ = pm ns => e9
  rw [e9]
  rename News _ _ _ _ => N9
  exact hret _ _ _ (by k_asm) (kst_newsOf N9 (by kst_inAny))
local macro_rules | `(tactic| walk_at "call ref") => `(tactic| (k_here; k_dflt (refine' polymod_c ?cB ?cF ?cX ?cN ?cT ?ck ?cd ?cu ?f0 ?f1 ?_; (case cB => k_asm); (case cF => k_asm); (case cX => k_asm); (case cN => k_asm); (case cT => k_asm); (case ck => first | exact rfl | assumption); (case f0 => k_mem); (case f1 => l_ints); (case cd => ktr_room); (case cu => ktr_units); intro t9 h9 tk9 F9 N9; (try dsimp only); (try k_fold))))
local macro_rules | `(tactic| walk_at $s:str) => `(tactic| k_extra $s)
theorem expand_c {w : World} {mean : ExcName → Option Value} {mg mb : Str → Option Value} {dp un : Nat} {gd : Option (List Code)} {cn : Str} {cs : Scope} {a : Addr} {ccd : Value} {cl : List (Str × Addr)} {outer : List Env} {A₀ : Around} {base h₀ : Heap} {L : Addr} {m : Str → Option Value} {news : List (Addr × Obj)} {s : Shared}
    {fl : List Nat} {t : Tok}
    {Q E : Value → Shared → Prop} (B : Below A₀ base outer h₀) (F : Fr h₀ L s.heap m) (X : (hd.heap_39 w.params).In h₀) (N : News h₀ L s.heap news) (T : Top topProg LO0 mean mg mb h₀) (hk : cs.kind = .function)
    (hd1 : dp + 2 < recursionLimit) (hu : un + 16 < cLine)
    (hlf : fl.length ≤ 100) (hfl : ∀ x ∈ fl, 33 ≤ x ∧ x ≤ 126)
    (hret : ∀ l' vs' n' h' tk', Fr h₀ L h' m → News h₀ L h' ((l', listOf vs'.toArray n') :: news) → IntsAre vs' (expand fl) → (∀ p ∈ news, p.1 ≠ l') → Q (.ref l') { s with heap := h', toks := tk' }) :
    wpAny (model PG w) (ktrTop dp un gd cn cs L a ccd cl outer) (call (.ref 26) [.str (Str.mk fl.toArray) t]) Q E s := by
  w_top off
  k_with_none
  have ha : ∀ c ∈ fl, c < 128 := fun c hc => by have := hfl c hc; omega
  have hsz : fl.length ≤ sizeLine := by rw [sizeLine_eq]; omega
  refine wpAny_call ?_
  k_dflt cell_enter
  iterate 5 walk1
  k_dflt (refine listcomp_str fl (fun c => ((c / 32 : Nat) : Int)) ha hsz (by with_unfolding_all rfl) (by with_unfolding_all rfl) (by decide) (by rfl) (by decide) (by rfl) (by k_asm) ?_)
  k_steps
  refine StrSrc.intro (by k_asm) (by k_asm) ?_ ?_
  · intro c t I oI C oC D m₂ ys h tk E' hc hC hx F' N' off ne
    k_steps
    exact kcf_el (by rw [Int.fdiv_eq_ediv_of_nonneg _ (by decide)]; rfl) rfl rfl
  · intro D h tk ys hy F' N' o1
    k_with "eval ListComp" => k_dflt (refine listcomp_str fl (fun c => ((c % 32 : Nat) : Int)) ha hsz (by with_unfolding_all rfl) (by with_unfolding_all rfl) (by decide) (by rfl) (by decide) (by rfl) (by k_asm) ?_)
    k_steps
    refine StrSrc.intro (by k_asm) (by k_asm) ?_ ?_
    · intro c t I oI C oC D m₂ ys h tk E' hc hC hx F' N' off ne
      k_steps
      exact kcf_el (by rw [bitAnd_m5]; rfl) rfl rfl
    · intro D h tk ys hy F' N' o1
      k_steps
      rename News _ _ _ _ => N9
      rename _ ∧ _ => l9
      exact hret _ _ _ _ _ (by k_asm) (kst_newsOf N9 (by kst_inAny)) (by unfold expand; assumption) (ne_below (ktn_ltOf l9.2.2.2.2))
end Mine
end
section
open PySem PySem.W PyProof.Rows
set_option Elab.async false
set_option maxRecDepth 100000
set_option maxHeartbeats 8000000
set_option linter.unusedVariables false
namespace Mine
set_option pp.deepTerms.threshold 8
local macro_rules | `(tactic| k_memK) => `(tactic| first | assumption | (refine List.Mem.tail _ ?_; k_memK))
local macro_rules | `(tactic| k_mem) => `(tactic| first | assumption | exact List.Mem.head _ | (refine List.Mem.tail _ ?_; k_mem))
local macro_rules | `(tactic| is_list) => `(tactic| exact News.isList (by k_asm) (by k_mem))
local macro_rules | `(tactic| k_all) => `(tactic| first | exact off1_mem (by assumption) | exact ne_below1 (by assumption) | exact ne_below (by assumption) | exact ne_below (ktn_ltOf (by assumption)) | (rename _ ∧ _ => l9; first | exact ne_below (ktn_ltOf l9.2) | exact ne_below (ktn_ltOf l9.2.2) | exact ne_below (ktn_ltOf l9.2.2.2) | exact ne_below (ktn_ltOf l9.2.2.2.2) | exact ne_below (ktn_ltOf l9.2.2.2.2.2)))
local macro_rules | `(tactic| k_room) => `(tactic| ktr_room)
local macro_rules | `(tactic| size_fits) => `(tactic| ((rw [PySem.sizeLine_eq]); (try simp only [List.size_toArray, Array.size_append]); kcf_lens; (try simp only [List.length_append, List.length_cons, List.length_nil, List.length_map, expand_length, create_length] at *); omega))
local macro_rules | `(tactic| walk_at "no place 0") => `(tactic| fail)
local macro_rules | `(tactic| walk_at "call ref") => `(tactic| (k_here; k_dflt (refine' polymod_c ?cB ?cF ?cX ?cN ?cT ?ck ?cd ?cu ?f0 ?f1 ?_; (case cB => k_asm); (case cF => k_asm); (case cX => k_asm); (case cN => k_asm); (case cT => k_asm); (case ck => first | exact rfl | assumption); (case f0 => k_mem); (case f1 => l_ints); (case cd => ktr_room); (case cu => ktr_units); intro t9 h9 tk9 F9 N9; (try dsimp only); (try k_fold))))
local macro_rules | `(tactic| walk_at "call ref") => `(tactic| (k_here; k_dflt (refine' expand_c ?cB ?cF ?cX ?cN ?cT ?ck ?cd ?cu ?f0 ?f1 ?_; (case cB => k_asm); (case cF => k_asm); (case cX => k_asm); (case cN => k_asm); (case cT => k_asm); (case ck => first | exact rfl | assumption); (case f0 => first | assumption | omega); (case f1 => assumption); (case cd => ktr_room); (case cu => ktr_units); intro l9 vs9 n9 h9 tk9 F9 N9 hI9 o1; (replace o1 := off1_of o1); (try simp only [LCg.Off1, and_true] at o1); (try dsimp only); (try k_fold))))
local macro_rules | `(tactic| walk_at $s:str) => `(tactic| k_extra $s)
theorem verify_c {w : World} {mean : ExcName → Option Value} {mg mb : Str → Option Value} {dp un : Nat} {gd : Option (List Code)} {cn : Str} {cs : Scope} {a : Addr} {ccd : Value} {cl : List (Str × Addr)} {outer : List Env} {A₀ : Around} {base h₀ : Heap} {L : Addr} {m : Str → Option Value} {news : List (Addr × Obj)} {s : Shared}
    {fl : List Nat} {t : Tok}{l : Addr} {vs : List Value} {n : Nat} {ns : List Int}
    {Q E : Value → Shared → Prop} (B : Below A₀ base outer h₀) (F : Fr h₀ L s.heap m) (X : (hd.heap_39 w.params).In h₀) (N : News h₀ L s.heap news) (T : Top topProg LO0 mean mg mb h₀) (hk : cs.kind = .function)
    (hd1 : dp + 4 < recursionLimit) (hu : un + 32 < cLine)
    (hlf : fl.length ≤ 100) (hfl : ∀ x ∈ fl, 33 ≤ x ∧ x ≤ 126) (hm : (l, listOf vs.toArray n) ∈ news) (hi : IntsAre vs ns) (hlen : ns.length ≤ 200)
    (hret : ∀ h' tk', Fr h₀ L h' m → News h₀ L h' news → Q (.bool (pm (expand fl ++ ns) == 1)) { s with heap := h', toks := tk' }) :
    wpAny (model PG w) (ktrTop dp un gd cn cs L a ccd cl outer) (call (.ref 33) [.str (Str.mk fl.toArray) t, .ref l]) Q E s := by
  w_top off
  k_with_none
  refine wpAny_call ?_
  k_dflt cell_enter
  k_steps
  rename News _ _ _ _ => N9
  exact hret _ _ (by k_asm) (kst_newsOf N9 (by kst_inAny))
local macro_rules | `(tactic| walk_at "call ref") => `(tactic| (k_here; k_dflt (refine' verify_c ?cB ?cF ?cX ?cN ?cT ?ck ?cd ?cu ?f0 ?f1 ?f2 ?f3 ?f4 ?_; (case cB => k_asm); (case cF => k_asm); (case cX => k_asm); (case cN => k_asm); (case cT => k_asm); (case ck => first | exact rfl | assumption); (case f0 => first | assumption | omega); (case f1 => assumption); (case f2 => k_mem); (case f3 => l_ints); (case f4 => first | assumption | omega | k_extra "len"); (case cd => ktr_room); (case cu => ktr_units); intro h9 tk9 F9 N9; (try dsimp only); (try k_fold))))
local macro_rules | `(tactic| walk_at $s:str) => `(tactic| k_extra $s)
theorem create_c {w : World} {mean : ExcName → Option Value} {mg mb : Str → Option Value} {dp un : Nat} {gd : Option (List Code)} {cn : Str} {cs : Scope} {a : Addr} {ccd : Value} {cl : List (Str × Addr)} {outer : List Env} {A₀ : Around} {base h₀ : Heap} {L : Addr} {m : Str → Option Value} {news : List (Addr × Obj)} {s : Shared}
    {fl : List Nat} {t : Tok}{l : Addr} {vs : List Value} {n : Nat} {ns : List Int}
    {Q E : Value → Shared → Prop} (B : Below A₀ base outer h₀) (F : Fr h₀ L s.heap m) (X : (hd.heap_39 w.params).In h₀) (N : News h₀ L s.heap news) (T : Top topProg LO0 mean mg mb h₀) (hk : cs.kind = .function)
    (hd1 : dp + 4 < recursionLimit) (hu : un + 32 < cLine)
    (hlf : fl.length ≤ 100) (hfl : ∀ x ∈ fl, 33 ≤ x ∧ x ≤ 126) (hm : (l, listOf vs.toArray n) ∈ news) (hi : IntsAre vs ns) (hlen : ns.length ≤ 200)
    (hret : ∀ l' vs' n' h' tk', Fr h₀ L h' m → News h₀ L h' ((l', listOf vs'.toArray n') :: news) → IntsAre vs' (create fl ns) → (∀ p ∈ news, p.1 ≠ l') → Q (.ref l') { s with heap := h', toks := tk' }) :
    wpAny (model PG w) (ktrTop dp un gd cn cs L a ccd cl outer) (call (.ref 38) [.str (Str.mk fl.toArray) t, .ref l]) Q E s := by
  w_top off
  k_with_none
  refine wpAny_call ?_
  k_dflt (refine' code_defC ?k1 ?k2 ?k3 ?k4 ?k5 ?kA ?kF ?kK ?k6 ?k7 ?k8 ?k9 ?kB ?kD ?_ ?c2 ?c3 ?c4; (case kA => exact rfl); (case kF => exact rfl); (case kK => assumption); (case k1 => k_asm); (case k2 => k_asm); (case k3 => k_asm); (case k4 => k_asm); (case k5 => k_asm); (case k6 => k_is); (case k7 => k_is); (case k8 => ktr_room); (case k9 => exact BindsTo.of_eq rfl); (case kB => exact rfl); (case kD => decide +kernel); (case c2 => exact rfl); (case c3 => exact rfl); (case c4 => exact rfl); k_whole; intro g' L' h' tk' cells' FG' F' N' Y' B' X' T' l1; (try k_lt l1); k_cells Y'; (try simp only [List.cons_append, List.nil_append] at N'); (try dsimp only); (try k_lift B'); (try k_fold))
  k_steps
  rename News _ _ _ _ => N9
  rename _ ∧ _ => l9
  exact hret _ _ _ _ _ (by k_asm) (kst_newsOf N9 (by kst_inAny)) (by unfold create; assumption) (off1_mem l9.2.2.2.2.2.2)
end Mine
end
section
open PySem PySem.W PyProof.Rows
set_option Elab.async false
set_option maxRecDepth 100000
set_option maxHeartbeats 8000000
set_option linter.unusedVariables false
namespace Mine
set_option pp.deepTerms.threshold 8
local macro_rules | `(tactic| k_memK) => `(tactic| first | assumption | (refine List.Mem.tail _ ?_; k_memK))
local macro_rules | `(tactic| k_mem) => `(tactic| first | assumption | exact List.Mem.head _ | (refine List.Mem.tail _ ?_; k_mem))
local macro_rules | `(tactic| is_list) => `(tactic| exact News.isList (by k_asm) (by k_mem))
local macro_rules | `(tactic| k_all) => `(tactic| first | exact off1_mem (by assumption) | exact ne_below1 (by assumption) | exact ne_below (by assumption) | exact ne_below (ktn_ltOf (by assumption)) | (rename _ ∧ _ => l9; first | exact ne_below (ktn_ltOf l9.2) | exact ne_below (ktn_ltOf l9.2.2) | exact ne_below (ktn_ltOf l9.2.2.2) | exact ne_below (ktn_ltOf l9.2.2.2.2) | exact ne_below (ktn_ltOf l9.2.2.2.2.2)))
local macro_rules | `(tactic| k_room) => `(tactic| ktr_room)
local macro_rules | `(tactic| size_fits) => `(tactic| ((rw [PySem.sizeLine_eq]); (try simp only [List.size_toArray, Array.size_append]); kcf_lens; (try simp only [List.length_append, List.length_cons, List.length_nil, List.length_map, expand_length, create_length] at *); omega))
local macro_rules | `(tactic| walk_at "no place 0") => `(tactic| fail)
local macro_rules | `(tactic| walk_at "no place 1") => `(tactic| fail)
local macro_rules | `(tactic| walk_at "call ref") => `(tactic| (k_here; k_dflt (refine' polymod_c ?cB ?cF ?cX ?cN ?cT ?ck ?cd ?cu ?f0 ?f1 ?_; (case cB => k_asm); (case cF => k_asm); (case cX => k_asm); (case cN => k_asm); (case cT => k_asm); (case ck => first | exact rfl | assumption); (case f0 => k_mem); (case f1 => l_ints); (case cd => ktr_room); (case cu => ktr_units); intro t9 h9 tk9 F9 N9; (try dsimp only); (try k_fold))))
local macro_rules | `(tactic| walk_at "call ref") => `(tactic| (k_here; k_dflt (refine' expand_c ?cB ?cF ?cX ?cN ?cT ?ck ?cd ?cu ?f0 ?f1 ?_; (case cB => k_asm); (case cF => k_asm); (case cX => k_asm); (case cN => k_asm); (case cT => k_asm); (case ck => first | exact rfl | assumption); (case f0 => first | assumption | omega); (case f1 => assumption); (case cd => ktr_room); (case cu => ktr_units); intro l9 vs9 n9 h9 tk9 F9 N9 hI9 o1; (replace o1 := off1_of o1); (try simp only [LCg.Off1, and_true] at o1); (try dsimp only); (try k_fold))))
local macro_rules | `(tactic| walk_at "call ref") => `(tactic| (k_here; k_dflt (refine' verify_c ?cB ?cF ?cX ?cN ?cT ?ck ?cd ?cu ?f0 ?f1 ?f2 ?f3 ?f4 ?_; (case cB => k_asm); (case cF => k_asm); (case cX => k_asm); (case cN => k_asm); (case cT => k_asm); (case ck => first | exact rfl | assumption); (case f0 => first | assumption | omega); (case f1 => assumption); (case f2 => k_mem); (case f3 => l_ints); (case f4 => first | assumption | omega | k_extra "len"); (case cd => ktr_room); (case cu => ktr_units); intro h9 tk9 F9 N9; (try dsimp only); (try k_fold))))
local macro_rules | `(tactic| walk_at "call ref") => `(tactic| (k_here; k_dflt (refine' create_c ?cB ?cF ?cX ?cN ?cT ?ck ?cd ?cu ?f0 ?f1 ?f2 ?f3 ?f4 ?_; (case cB => k_asm); (case cF => k_asm); (case cX => k_asm); (case cN => k_asm); (case cT => k_asm); (case ck => first | exact rfl | assumption); (case f0 => first | assumption | omega); (case f1 => assumption); (case f2 => k_mem); (case f3 => l_ints); (case f4 => first | assumption | omega | k_extra "len"); (case cd => ktr_room); (case cu => ktr_units); intro l9 vs9 n9 h9 tk9 F9 N9 hI9 o1; (replace o1 := off1_of o1); (try simp only [LCg.Off1, and_true] at o1); (try dsimp only); (try k_fold))))
local macro_rules | `(tactic| walk_at $s:str) => `(tactic| k_extra $s)
theorem encode_c {w : World} {mean : ExcName → Option Value} {mg mb : Str → Option Value} {dp un : Nat} {gd : Option (List Code)} {cn : Str} {cs : Scope} {a : Addr} {ccd : Value} {cl : List (Str × Addr)} {outer : List Env} {A₀ : Around} {base h₀ : Heap} {L : Addr} {m : Str → Option Value} {news : List (Addr × Obj)} {s : Shared}
    {fl : List Nat} {t : Tok}{l : Addr} {vs : List Value} {n : Nat} {ns : List Int}
    {Q E : Value → Shared → Prop} (B : Below A₀ base outer h₀) (F : Fr h₀ L s.heap m) (X : (hd.heap_39 w.params).In h₀) (N : News h₀ L s.heap news) (T : Top topProg LO0 mean mg mb h₀) (hk : cs.kind = .function)
    (hd1 : dp + 6 < recursionLimit) (hu : un + 48 < cLine)
    (hlf : fl.length ≤ 100) (hfl : ∀ x ∈ fl, 33 ≤ x ∧ x ≤ 126) (hm : (l, listOf vs.toArray n) ∈ news) (hi : IntsAre vs ns) (hlen : ns.length ≤ 200) (hv : ∀ x ∈ ns, 0 ≤ x ∧ x < 32)
    (hret : ∀ t h' tk', Fr h₀ L h' m → News h₀ L h' news → Q (.str (Str.mk (encode fl ns).toArray) t) { s with heap := h', toks := tk' }) :
    wpAny (model PG w) (ktrTop dp un gd cn cs L a ccd cl outer) (call (.ref 43) [.str (Str.mk fl.toArray) t, .ref l]) Q E s := by
  w_top off
  k_with_none
  refine wpAny_call ?_
  k_dflt cell_enter
  k_with "eval ListComp" => k_dflt (refine LCg.ListComp_U (F₀ := by k_asm) (by with_unfolding_all rfl) (by decide) (by rfl) (by decide) (by rfl) ?_)
  k_with "CompSrc" => k_dflt (refine LCg.CompSrc.ledger (by rfl) (by k_asm) (by k_asm) (by k_mem) (by size_fits) ?_; intro g9; refine' kct_list (fun k => Str.mk #[sgn k]) (by assumption) (fun k9 t9 I9 oI9 C9 oC9 D9 m9 ys9 h9 tk9 E9 hk9 hC9 hx9 F9 N9 off9 ne9 hM9 => ?_) ?_)
  k_with "subscriptTail Name Name str int" => (with_unfolding_all (refine item_sign (encode_rng hv hk9).1 (encode_rng hv hk9).2 ?_ rfl; intro _))
  k_with "CompEnd" => k_dflt (refine LCg.CompEnd.intro (by k_asm) (by k_asm) _ (fun _ h9 => h9) (by assumption) (by first | exact True.intro | exact Or.inr ⟨_, by k_mem, rfl, _, rfl⟩) ?_)
  k_with "KCtEl" => exact kct_el rfl rfl rfl
  k_with "call builtin:str.join" => k_dflt (refine join_signs (by k_asm) (by k_mem) (by assumption) (by simp only [List.length_append, create_length]; omega) ?_; intro _ _)
  k_with "binaryOp Add str str" => first
    | (with_reducible refine add_texts fl [49] rfl ?k1 ?k2 ?_; (case k1 => decide); (case k2 => simp only [List.length_cons, List.length_nil]; omega); intro _ _)
    | (with_reducible refine add_texts (fl ++ [49]) ((ns ++ create fl ns).map sgn) rfl rfl ?k2 ?_; (case k2 => simp only [List.length_append, List.length_cons, List.length_nil, List.length_map, create_length]; omega); intro _ _)
  k_steps
  rename News _ _ _ _ => N9
  unfold encode at hret
  exact hret _ _ _ (by k_asm) (kst_newsOf N9 (by kst_inAny))
end Mine
end
section
open PySem PySem.W PyProof.Rows
set_option Elab.async false
set_option maxRecDepth 100000
set_option maxHeartbeats 8000000
set_option linter.unusedVariables false
namespace Mine
set_option pp.deepTerms.threshold 8
local macro_rules | `(tactic| k_memK) => `(tactic| first | assumption | (refine List.Mem.tail _ ?_; k_memK))
local macro_rules | `(tactic| k_mem) => `(tactic| first | assumption | exact List.Mem.head _ | (refine List.Mem.tail _ ?_; k_mem))
local macro_rules | `(tactic| is_list) => `(tactic| exact News.isList (by k_asm) (by k_mem))
local macro_rules | `(tactic| k_all) => `(tactic| first | exact off1_mem (by assumption) | exact ne_below1 (by assumption) | exact ne_below (by assumption) | exact ne_below (ktn_ltOf (by assumption)) | (rename _ ∧ _ => l9; first | exact ne_below (ktn_ltOf l9.2) | exact ne_below (ktn_ltOf l9.2.2) | exact ne_below (ktn_ltOf l9.2.2.2) | exact ne_below (ktn_ltOf l9.2.2.2.2) | exact ne_below (ktn_ltOf l9.2.2.2.2.2)))
local macro_rules | `(tactic| k_room) => `(tactic| ktr_room)
local macro_rules | `(tactic| size_fits) => `(tactic| ((rw [PySem.sizeLine_eq]); (try simp only [List.size_toArray, Array.size_append]); kcf_lens; (try simp only [List.length_append, List.length_cons, List.length_nil, List.length_map, expand_length, create_length] at *); omega))
local macro_rules | `(tactic| walk_at "no place 0") => `(tactic| fail)
local macro_rules | `(tactic| walk_at "no place 1") => `(tactic| fail)
local macro_rules | `(tactic| walk_at "no place 2") => `(tactic| fail)
local macro_rules | `(tactic| walk_at "no place 3") => `(tactic| fail)
local macro_rules | `(tactic| walk_at "no place 4") => `(tactic| fail)
local macro_rules | `(tactic| walk_at "no place 5") => `(tactic| fail)
local macro_rules | `(tactic| walk_at "no place 6") => `(tactic| fail)
local macro_rules | `(tactic| walk_at $s:str) => `(tactic| k_extra $s)
theorem times_c {w : World} {mean : ExcName → Option Value} {mg mb : Str → Option Value} {dp un : Nat} {gd : Option (List Code)} {cn : Str} {cs : Scope} {a : Addr} {ccd : Value} {cl : List (Str × Addr)} {outer : List Env} {A₀ : Around} {base h₀ : Heap} {L : Addr} {m : Str → Option Value} {news : List (Addr × Obj)} {s : Shared}
    {x y : Int} {t1 t2 : Tok}
    {Q E : Value → Shared → Prop} (B : Below A₀ base outer h₀) (F : Fr h₀ L s.heap m) (X : (hd.heap_39 w.params).In h₀) (N : News h₀ L s.heap news) (T : Top topProg LO0 mean mg mb h₀) (hk : cs.kind = .function)
    (hd1 : dp + 2 < recursionLimit) (hu : un + 16 < cLine)
    (hx : 0 ≤ x ∧ x < 32) (hy : 0 ≤ y ∧ y < 32)
    (hret : ∀ t h' tk', Fr h₀ L h' m → News h₀ L h' news → Q (.int (times x y) t) { s with heap := h', toks := tk' }) :
    wpAny (model PG w) (ktrTop dp un gd cn cs L a ccd cl outer) (call (.ref 73) [.int x t1, .int y t2]) Q E s := by
  w_top off
  k_with_none
  refine wpAny_call ?_
  k_dflt cell_enter
  k_steps
  · rename x = 0 => e9
    rw [times_0 e9] at hret
    exact hret _ _ _ (by k_asm) (by k_asm)
  · rename y = 0 => e9
    rw [times_1 e9] at hret
    exact hret _ _ _ (by k_asm) (by k_asm)
  · rename x ≠ 0 => e9
    rename y ≠ 0 => e8
    rw [times_2 e9 e8] at hret
    exact hret _ _ _ (by k_asm) (by k_asm)
end Mine
end
section
open PySem PySem.W PyProof.Rows
set_option Elab.async false
set_option maxRecDepth 100000
set_option maxHeartbeats 8000000
set_option linter.unusedVariables false
namespace Mine
set_option pp.deepTerms.threshold 8
local macro_rules | `(tactic| k_memK) => `(tactic| first | assumption | (refine List.Mem.tail _ ?_; k_memK))
local macro_rules | `(tactic| k_mem) => `(tactic| first | assumption | exact List.Mem.head _ | (refine List.Mem.tail _ ?_; k_mem))
local macro_rules | `(tactic| is_list) => `(tactic| exact News.isList (by k_asm) (by k_mem))
local macro_rules | `(tactic| k_all) => `(tactic| first | exact off1_mem (by assumption) | exact ne_below1 (by assumption) | exact ne_below (by assumption) | exact ne_below (ktn_ltOf (by assumption)) | (rename _ ∧ _ => l9; first | exact ne_below (ktn_ltOf l9.2) | exact ne_below (ktn_ltOf l9.2.2) | exact ne_below (ktn_ltOf l9.2.2.2) | exact ne_below (ktn_ltOf l9.2.2.2.2) | exact ne_below (ktn_ltOf l9.2.2.2.2.2)))
local macro_rules | `(tactic| k_room) => `(tactic| ktr_room)
local macro_rules | `(tactic| size_fits) => `(tactic| ((rw [PySem.sizeLine_eq]); (try simp only [List.size_toArray, Array.size_append]); kcf_lens; (try simp only [List.length_append, List.length_cons, List.length_nil, List.length_map, expand_length, create_length] at *); omega))
local macro_rules | `(tactic| walk_at "no place 0") => `(tactic| fail)
local macro_rules | `(tactic| walk_at "no place 1") => `(tactic| fail)
local macro_rules | `(tactic| walk_at "no place 2") => `(tactic| fail)
local macro_rules | `(tactic| walk_at "no place 3") => `(tactic| fail)
local macro_rules | `(tactic| walk_at "no place 4") => `(tactic| fail)
local macro_rules | `(tactic| walk_at "no place 5") => `(tactic| fail)
local macro_rules | `(tactic| walk_at "no place 6") => `(tactic| fail)
local macro_rules | `(tactic| walk_at "no place 7") => `(tactic| fail)
local macro_rules | `(tactic| walk_at $s:str) => `(tactic| k_extra $s)
theorem window_c {w : World} {mean : ExcName → Option Value} {mg mb : Str → Option Value} {dp un : Nat} {gd : Option (List Code)} {cn : Str} {cs : Scope} {a : Addr} {ccd : Value} {cl : List (Str × Addr)} {outer : List Env} {A₀ : Around} {base h₀ : Heap} {L : Addr} {m : Str → Option Value} {news : List (Addr × Obj)} {s : Shared}
    {l : Addr} {vs : List Value} {n : Nat} {ns : List Int}{x : Int} {t1 : Tok}
    {Q E : Value → Shared → Prop} (B : Below A₀ base outer h₀) (F : Fr h₀ L s.heap m) (X : (hd.heap_39 w.params).In h₀) (N : News h₀ L s.heap news) (T : Top topProg LO0 mean mg mb h₀) (hk : cs.kind = .function)
    (hd1 : dp + 2 < recursionLimit) (hu : un + 16 < cLine)
    (hm : (l, listOf vs.toArray n) ∈ news) (hi : IntsAre vs ns) (hlen : ns.length ≤ 200) (hv : ∀ x ∈ ns, 0 ≤ x ∧ x < 32) (hx : 0 ≤ x)
    (hret : ∀ t h' tk', Fr h₀ L h' m → News h₀ L h' news → Q (.int (window ns x) t) { s with heap := h', toks := tk' }) :
    wpAny (model PG w) (ktrTop dp un gd cn cs L a ccd cl outer) (call (.ref 87) [.ref l, .int x t1]) Q E s := by
  w_top off
  k_with_none
  refine wpAny_call ?_
  k_dflt cell_enter
  k_with "pyIter ref" => k_dflt (k_of "step" => k_state_short (fun pre wide => wide = winF ns (x.fdiv 5) pre) "wide")
  k_with "exec For Name Call cons nil" => ((rename Fr _ _ _ _ => lF'); (with_unfolding_all refine' For_invVF lF' ?k1 ?k2 ?_; (case k1 => exact rfl); (case k2 => exact rfl); k_whole))
  k_with "state" => first
    | (with_reducible exact win_turn0)
    | (with_reducible exact win_turnA (by assumption))
    | (with_reducible exact win_turnB (by assumption) (by assumption))
  k_with "binaryOp FloorDiv int int" => k_dflt (refine floordiv_int (twos_ne x) ?_ (.inl (PyProof.noPylong_small (twos_nat x))))
  k_steps
  rename News _ _ _ _ => N9
  rename _ = winF ns (x.fdiv 5) _ => e9
  exact (window_of e9) ▸ hret _ _ _ (by k_asm) (kst_newsOf N9 (by kst_inAny))
end Mine
end
section
open PySem PySem.W PyProof.Rows
set_option Elab.async false
set_option maxRecDepth 100000
set_option maxHeartbeats 8000000
set_option linter.unusedVariables false
namespace Mine
set_option pp.deepTerms.threshold 8
local macro_rules | `(tactic| k_memK) => `(tactic| first | assumption | (refine List.Mem.tail _ ?_; k_memK))
local macro_rules | `(tactic| k_mem) => `(tactic| first | assumption | exact List.Mem.head _ | (refine List.Mem.tail _ ?_; k_mem))
local macro_rules | `(tactic| is_list) => `(tactic| exact News.isList (by k_asm) (by k_mem))
local macro_rules | `(tactic| k_all) => `(tactic| first | exact off1_mem (by assumption) | exact ne_below1 (by assumption) | exact ne_below (by assumption) | exact ne_below (ktn_ltOf (by assumption)) | (rename _ ∧ _ => l9; first | exact ne_below (ktn_ltOf l9.2) | exact ne_below (ktn_ltOf l9.2.2) | exact ne_below (ktn_ltOf l9.2.2.2) | exact ne_below (ktn_ltOf l9.2.2.2.2) | exact ne_below (ktn_ltOf l9.2.2.2.2.2)))
local macro_rules | `(tactic| k_room) => `(tactic| ktr_room)
local macro_rules | `(tactic| size_fits) => `(tactic| ((rw [PySem.sizeLine_eq]); (try simp only [List.size_toArray, Array.size_append]); kcf_lens; (try simp only [List.length_append, List.length_cons, List.length_nil, List.length_map, expand_length, create_length] at *); omega))
local macro_rules | `(tactic| walk_at "no place 0") => `(tactic| fail)
local macro_rules | `(tactic| walk_at "no place 1") => `(tactic| fail)
local macro_rules | `(tactic| walk_at "no place 2") => `(tactic| fail)
local macro_rules | `(tactic| walk_at "no place 3") => `(tactic| fail)
local macro_rules | `(tactic| walk_at "no place 4") => `(tactic| fail)
local macro_rules | `(tactic| walk_at "no place 5") => `(tactic| fail)
local macro_rules | `(tactic| walk_at "no place 6") => `(tactic| fail)
local macro_rules | `(tactic| walk_at "no place 7") => `(tactic| fail)
local macro_rules | `(tactic| walk_at "call ref") => `(tactic| (k_here; k_dflt (refine' window_c ?cB ?cF ?cX ?cN ?cT ?ck ?cd ?cu ?f0 ?f1 ?f2 ?f3 ?f4 ?_; (case cB => k_asm); (case cF => k_asm); (case cX => k_asm); (case cN => k_asm); (case cT => k_asm); (case ck => first | exact rfl | assumption); (case f0 => k_mem); (case f1 => l_ints); (case f2 => first | assumption | omega | k_extra "len"); (case f3 => k_extra "rng"); (case f4 => k_extra "bnd"); (case cd => ktr_room); (case cu => ktr_units); intro t9 h9 tk9 F9 N9; (try dsimp only); (try k_fold))))
local macro_rules | `(tactic| walk_at $s:str) => `(tactic| k_extra $s)
theorem octets_c {w : World} {mean : ExcName → Option Value} {mg mb : Str → Option Value} {dp un : Nat} {gd : Option (List Code)} {cn : Str} {cs : Scope} {a : Addr} {ccd : Value} {cl : List (Str × Addr)} {outer : List Env} {A₀ : Around} {base h₀ : Heap} {L : Addr} {m : Str → Option Value} {news : List (Addr × Obj)} {s : Shared}
    {l : Addr} {vs : List Value} {n : Nat} {ns : List Int}
    {Q E : Value → Shared → Prop} (B : Below A₀ base outer h₀) (F : Fr h₀ L s.heap m) (X : (hd.heap_39 w.params).In h₀) (N : News h₀ L s.heap news) (T : Top topProg LO0 mean mg mb h₀) (hk : cs.kind = .function)
    (hd1 : dp + 4 < recursionLimit) (hu : un + 32 < cLine)
    (hm : (l, listOf vs.toArray n) ∈ news) (hi : IntsAre vs ns) (hlen : ns.length ≤ 200) (h1 : 1 ≤ ns.length) (hv : ∀ x ∈ ns, 0 ≤ x ∧ x < 32)
    (hret0 : octets ns = none → ∀ h' tk', Fr h₀ L h' m → News h₀ L h' news → Q .none { s with heap := h', toks := tk' })
    (hret1 : ∀ os, octets ns = some os → ∀ l' vs' n' h' tk', Fr h₀ L h' m → News h₀ L h' ((l', listOf vs'.toArray n') :: news) → IntsAre vs' os → (∀ p ∈ news, p.1 ≠ l') → Q (.ref l') { s with heap := h', toks := tk' }) :
    wpAny (model PG w) (ktrTop dp un gd cn cs L a ccd cl outer) (call (.ref 92) [.ref l]) Q E s := by
  w_top off
  k_with_none
  refine wpAny_call ?_
  k_dflt (refine' code_defC ?k1 ?k2 ?k3 ?k4 ?k5 ?kA ?kF ?kK ?k6 ?k7 ?k8 ?k9 ?kB ?kD ?_ ?c2 ?c3 ?c4; (case kA => exact rfl); (case kF => exact rfl); (case kK => assumption); (case k1 => k_asm); (case k2 => k_asm); (case k3 => k_asm); (case k4 => k_asm); (case k5 => k_asm); (case k6 => k_is); (case k7 => k_is); (case k8 => ktr_room); (case k9 => exact BindsTo.of_eq rfl); (case kB => exact rfl); (case kD => decide +kernel); (case c2 => exact rfl); (case c3 => exact rfl); (case c4 => exact rfl); k_whole; intro g' L' h' tk' cells' FG' F' N' Y' B' X' T' l1; (try k_lt l1); k_cells Y'; (try simp only [List.cons_append, List.nil_append] at N'); (try dsimp only); (try k_lift B'); (try k_fold))
  k_with "bnd" => omega
  k_with "rng" => assumption
  k_with "binaryOp Mod int int" => k_dflt (refine mod_int' (twos_ne2 (5 * (ns.length : Int))) ?_)
  k_with "CompEnd" => k_dflt (refine LCg.CompEnd.intro (by k_asm) (by k_asm) _ (fun _ h9 => h9) (by first | assumption | (simp only [LCg.Off3, and_true]; assumption)) (by first | exact True.intro | exact Or.inr ⟨_, by k_mem, rfl, _, rfl⟩) ?_)
  k_steps
  all_goals (rename News _ _ _ _ => N9)
  · exact hret0 (octets_n1 (by assumption)) _ _ (by k_asm) (kst_newsOf N9 (by kst_inAny))
  · exact hret0 (octets_n2 (by assumption) (by assumption)) _ _ (by k_asm) (kst_newsOf N9 (by kst_inAny))
  · rename _ ∧ _ => l9
    exact hret1 _ (octets_s2 (by assumption) (by assumption)) _ _ _ _ _ (by k_asm) (kst_newsOf N9 (by kst_inAny)) (by assumption) (off1_mem l9.2)
  · rename _ ∧ _ => l9
    exact hret1 _ (octets_s1 (by assumption) (by assumption)) _ _ _ _ _ (by k_asm) (kst_newsOf N9 (by kst_inAny)) (by assumption) (off1_mem l9.2)
end Mine
end
section
open PySem PySem.W PyProof.Rows
set_option Elab.async false
set_option maxRecDepth 100000
set_option maxHeartbeats 8000000
set_option linter.unusedVariables false
namespace Mine
set_option pp.deepTerms.threshold 8
local macro_rules | `(tactic| k_memK) => `(tactic| first | assumption | (refine List.Mem.tail _ ?_; k_memK))
local macro_rules | `(tactic| k_mem) => `(tactic| first | assumption | exact List.Mem.head _ | (refine List.Mem.tail _ ?_; k_mem))
local macro_rules | `(tactic| is_list) => `(tactic| exact News.isList (by k_asm) (by k_mem))
local macro_rules | `(tactic| k_all) => `(tactic| first | exact off1_mem (by assumption) | exact ne_below1 (by assumption) | exact ne_below (by assumption) | exact ne_below (ktn_ltOf (by assumption)) | (rename _ ∧ _ => l9; first | exact ne_below (ktn_ltOf l9.2) | exact ne_below (ktn_ltOf l9.2.2) | exact ne_below (ktn_ltOf l9.2.2.2) | exact ne_below (ktn_ltOf l9.2.2.2.2) | exact ne_below (ktn_ltOf l9.2.2.2.2.2)))
local macro_rules | `(tactic| k_room) => `(tactic| ktr_room)
local macro_rules | `(tactic| size_fits) => `(tactic| ((rw [PySem.sizeLine_eq]); (try simp only [List.size_toArray, Array.size_append]); kcf_lens; (try simp only [List.length_append, List.length_cons, List.length_nil, List.length_map, expand_length, create_length] at *); omega))
local macro_rules | `(tactic| walk_at "no place 0") => `(tactic| fail)
local macro_rules | `(tactic| walk_at "no place 1") => `(tactic| fail)
local macro_rules | `(tactic| walk_at "no place 2") => `(tactic| fail)
local macro_rules | `(tactic| walk_at "no place 3") => `(tactic| fail)
local macro_rules | `(tactic| walk_at "no place 4") => `(tactic| fail)
local macro_rules | `(tactic| walk_at "no place 5") => `(tactic| fail)
local macro_rules | `(tactic| walk_at "no place 6") => `(tactic| fail)
local macro_rules | `(tactic| walk_at "no place 7") => `(tactic| fail)
local macro_rules | `(tactic| walk_at "call ref") => `(tactic| (k_here; k_dflt (refine' window_c ?cB ?cF ?cX ?cN ?cT ?ck ?cd ?cu ?f0 ?f1 ?f2 ?f3 ?f4 ?_; (case cB => k_asm); (case cF => k_asm); (case cX => k_asm); (case cN => k_asm); (case cT => k_asm); (case ck => first | exact rfl | assumption); (case f0 => k_mem); (case f1 => l_ints); (case f2 => first | assumption | omega | k_extra "len"); (case f3 => k_extra "rng"); (case f4 => k_extra "bnd"); (case cd => ktr_room); (case cu => ktr_units); intro t9 h9 tk9 F9 N9; (try dsimp only); (try k_fold))))
local macro_rules | `(tactic| walk_at "call ref") => `(tactic| (k_here; k_dflt (refine' octets_c ?cB ?cF ?cX ?cN ?cT ?ck ?cd ?cu ?f0 ?f1 ?f2 ?f3 ?f4 ?_ ?_; (case cB => k_asm); (case cF => k_asm); (case cX => k_asm); (case cN => k_asm); (case cT => k_asm); (case ck => first | exact rfl | assumption); (case f0 => k_mem); (case f1 => l_ints); (case f2 => first | assumption | omega | k_extra "len"); (case f3 => first | assumption | omega | k_extra "len1"); (case f4 => k_extra "rng"); (case cd => ktr_room); (case cu => ktr_units); intro e9 h9 tk9 F9 N9; (try dsimp only); (try k_fold); rotate_left; intro os9 e9 l9 vs9 n9 h9 tk9 F9 N9 hI9 o1; (replace o1 := off1_of o1); (try simp only [LCg.Off1, and_true] at o1); (try dsimp only); (try k_fold); rotate_right)))
local macro_rules | `(tactic| walk_at $s:str) => `(tactic| k_extra $s)
theorem program_c {w : World} {mean : ExcName → Option Value} {mg mb : Str → Option Value} {dp un : Nat} {gd : Option (List Code)} {cn : Str} {cs : Scope} {a : Addr} {ccd : Value} {cl : List (Str × Addr)} {outer : List Env} {A₀ : Around} {base h₀ : Heap} {L : Addr} {m : Str → Option Value} {news : List (Addr × Obj)} {s : Shared}
    {l : Addr} {vs : List Value} {n : Nat} {ns : List Int}{x : Int} {t1 : Tok}
    {Q E : Value → Shared → Prop} (B : Below A₀ base outer h₀) (F : Fr h₀ L s.heap m) (X : (hd.heap_39 w.params).In h₀) (N : News h₀ L s.heap news) (T : Top topProg LO0 mean mg mb h₀) (hk : cs.kind = .function)
    (hd1 : dp + 6 < recursionLimit) (hu : un + 48 < cLine)
    (hm : (l, listOf vs.toArray n) ∈ news) (hi : IntsAre vs ns) (hlen : ns.length ≤ 200) (h1 : 1 ≤ ns.length) (hv : ∀ x ∈ ns, 0 ≤ x ∧ x < 32)
    (hret0 : octets ns = none → ∀ l' h' tk', Fr h₀ L h' m → News h₀ L h' ((l', tup2 .none .none) :: news) → (∀ p ∈ news, p.1 ≠ l') → Q (.ref l') { s with heap := h', toks := tk' })
    (hret1 : ∀ os, octets ns = some os → ∀ l' lo t' vs' n' h' tk', Fr h₀ L h' m → News h₀ L h' ((l', tup2 (.int x t') (.ref lo)) :: (lo, listOf vs'.toArray n') :: news) → IntsAre vs' os → (∀ p ∈ news, p.1 ≠ l') → (∀ p ∈ news, p.1 ≠ lo) → lo ≠ l' → Q (.ref l') { s with heap := h', toks := tk' }) :
    wpAny (model PG w) (ktrTop dp un gd cn cs L a ccd cl outer) (call (.ref 99) [.int x t1, .ref l]) Q E s := by
  w_top off
  k_with_none
  refine wpAny_call ?_
  k_dflt cell_enter
  k_with "rng" => assumption
  k_steps
  · rename News _ _ _ _ => N9
    exact hret0 (by assumption) _ _ _ (by k_asm) N9 (ne_below (by assumption))
  · rename News _ _ _ _ => N9
    rename LCg.Off1 _ _ => o9
    rename _ ∧ AllLt _ _ => l9
    exact hret1 _ (by assumption) _ _ _ _ _ _ _ (by k_asm) N9 (by assumption) (ne_below (ktn_ltOf l9.2)) (off1_mem o9) (Nat.ne_of_lt l9.1)
end Mine
end
section
open PySem PySem.W PyProof.Rows
set_option Elab.async false
set_option maxRecDepth 100000
set_option maxHeartbeats 8000000
set_option linter.unusedVariables false
namespace Mine
set_option pp.deepTerms.threshold 8
local macro_rules | `(tactic| k_memK) => `(tactic| first | assumption | (refine List.Mem.tail _ ?_; k_memK))
local macro_rules | `(tactic| k_mem) => `(tactic| first | assumption | exact List.Mem.head _ | (refine List.Mem.tail _ ?_; k_mem))
local macro_rules | `(tactic| is_list) => `(tactic| exact News.isList (by k_asm) (by k_mem))
local macro_rules | `(tactic| k_all) => `(tactic| first | exact off1_mem (by assumption) | exact ne_below1 (by assumption) | exact ne_below (by assumption) | exact ne_below (ktn_ltOf (by assumption)) | (rename _ ∧ _ => l9; first | exact ne_below (ktn_ltOf l9.2) | exact ne_below (ktn_ltOf l9.2.2) | exact ne_below (ktn_ltOf l9.2.2.2) | exact ne_below (ktn_ltOf l9.2.2.2.2) | exact ne_below (ktn_ltOf l9.2.2.2.2.2)))
local macro_rules | `(tactic| k_room) => `(tactic| ktr_room)
local macro_rules | `(tactic| size_fits) => `(tactic| ((rw [PySem.sizeLine_eq]); (try simp only [List.size_toArray, Array.size_append]); kcf_lens; (try simp only [List.length_append, List.length_cons, List.length_nil, List.length_map, expand_length, create_length] at *); omega))
local macro_rules | `(tactic| walk_at "no place 0") => `(tactic| fail)
local macro_rules | `(tactic| walk_at "no place 1") => `(tactic| fail)
local macro_rules | `(tactic| walk_at "no place 2") => `(tactic| fail)
local macro_rules | `(tactic| walk_at "no place 3") => `(tactic| fail)
local macro_rules | `(tactic| walk_at "no place 4") => `(tactic| fail)
local macro_rules | `(tactic| walk_at "no place 5") => `(tactic| fail)
local macro_rules | `(tactic| walk_at "no place 6") => `(tactic| fail)
local macro_rules | `(tactic| walk_at "no place 7") => `(tactic| fail)
local macro_rules | `(tactic| walk_at "no place 8") => `(tactic| fail)
local macro_rules | `(tactic| walk_at "no place 9") => `(tactic| fail)
local macro_rules | `(tactic| walk_at "no place 10") => `(tactic| fail)
local macro_rules | `(tactic| walk_at $s:str) => `(tactic| k_extra $s)
theorem convertbits_c {w : World} {mean : ExcName → Option Value} {mg mb : Str → Option Value} {dp un : Nat} {gd : Option (List Code)} {cn : Str} {cs : Scope} {a : Addr} {ccd : Value} {cl : List (Str × Addr)} {outer : List Env} {A₀ : Around} {base h₀ : Heap} {L : Addr} {m : Str → Option Value} {news : List (Addr × Obj)} {s : Shared}
    {l : Addr} {vs : List Value} {n : Nat} {ns : List Int}{t1 t2 : Tok}
    {Q E : Value → Shared → Prop} (B : Below A₀ base outer h₀) (F : Fr h₀ L s.heap m) (X : (hd.heap_39 w.params).In h₀) (N : News h₀ L s.heap news) (T : Top topProg LO0 mean mg mb h₀) (hk : cs.kind = .function)
    (hd1 : dp + 2 < recursionLimit) (hu : un + 16 < cLine)
    (hm : (l, listOf vs.toArray n) ∈ news) (hi : IntsAre vs ns) (hlen : ns.length ≤ 200) (hv : ∀ x ∈ ns, 0 ≤ x ∧ x < 32)
    (hret0 : conv ns = none → ∀ h' tk', Fr h₀ L h' m → News h₀ L h' news → Q .none { s with heap := h', toks := tk' })
    (hret1 : ∀ os, conv ns = some os → ∀ l' vs' n' h' tk', Fr h₀ L h' m → News h₀ L h' ((l', listOf vs'.toArray n') :: news) → IntsAre vs' os → (∀ p ∈ news, p.1 ≠ l') → Q (.ref l') { s with heap := h', toks := tk' }) :
    wpAny (model PG w) (ktrTop dp un gd cn cs L a ccd cl outer) (call (.ref 56) [.ref l, .int 5 t1, .int 8 t2, .bool false]) Q E s := by
  w_top off
  k_with_none
  refine wpAny_call ?_
  k_dflt (refine' code_def ?k1 ?k2 ?k3 ?k4 ?k5 ?kA ?kF ?kK ?k6 ?k7 ?k8 ?k9 ?kB ?_ ?c2 ?c3 ?c4 ?c5; (case kA => exact rfl); (case kF => exact rfl); (case kK => assumption); (case k1 => k_asm); (case k2 => k_asm); (case k3 => k_asm); (case k4 => k_asm); (case k5 => k_asm); (case k6 => k_is); (case k7 => k_is); (case k8 => ktr_room); (case k9 => first | exact BindsTo.of_eq rfl | exact binds_K (by k_in) rfl (by k_is) rfl rfl rfl); (case c5 => decide); (case kB => exact locs rfl); (case c2 => exact rfl); (case c3 => exact rfl); (case c4 => exact rfl); k_whole; intro g' L' h' FG' F' N' B' X' T'; (try dsimp only); (try k_lift B'); (try k_fold))
  k_with "pyIter ref" => k_dflt (k_of "value" => k_state (fun pre acc bits ret => CbAt pre acc bits ret ∧ 0 ≤ bits ∧ bits < 8 ∧ ret.length ≤ pre.length) "acc" "bits" "ret")
  k_with "exec While Compare" => k_dflt (refine whl_start 3 ?_)
  k_with "binaryOp LShift int int" => first
    | k_dflt (refine lshift_int_small (by decide) (by decide) (cbAt_sh (by assumption) (by assumption) (by assumption) (by assumption)) ?_)
    | k_dflt (refine lshift_int_small (cbAt_n0 (by assumption) (by assumption)) (cbAt_n1 (by assumption) (by assumption)) (cbAt_sh (by assumption)  (by assumption) (by assumption) (by assumption)) ?_)
  k_with "WhlIf" => first
    | (refine WhlIf.no (decide_eq_false (by omega)) ?_)
    | (refine whlIf_dec ?_ ?_ <;> intro _)
  k_with "state" => first
    | (with_reducible exact cbAt_0)
    | (with_reducible exact cbAt_A (by assumption) (by assumption) (by assumption) (by assumption) (by assumption))
    | (with_reducible exact cbAt_B (by assumption) (by assumption) (by assumption) (by assumption) (by assumption))
  k_steps
  · rename _ ∈ ns => e8
    rename _ < (0 : Int) => e9
    exact absurd (hv _ e8).1 (Int.not_le.mpr e9)
  · rename _ ∈ ns => e8
    rename Int.fdiv _ _ ≠ 0 => e9
    exact absurd (fdiv5_0 (hv _ e8)) e9
  · rename News _ _ _ _ => N9
    exact hret0 (conv_n1 (by assumption) (by assumption)) _ _ (by k_asm) (kst_newsOf N9 (by kst_inAny))
  · rename News _ _ _ _ => N9
    exact hret0 (conv_n2 (by assumption) (by assumption)) _ _ (by k_asm) (kst_newsOf N9 (by kst_inAny))
  · rename News _ _ _ _ => N9
    rename ∀ p ∈ news, _ < _ => l9
    exact hret1 _ (conv_s (by assumption) (by assumption) (by assumption)) _ _ _ _ _ (by k_asm) (kst_newsOf N9 (by kst_inAny)) (by assumption) (ne_below l9)
end Mine
end
section
open PySem PySem.W PyProof.Rows
set_option Elab.async false
set_option maxRecDepth 100000
set_option maxHeartbeats 8000000
set_option linter.unusedVariables false
namespace Mine
set_option pp.deepTerms.threshold 8
local macro_rules | `(tactic| k_memK) => `(tactic| first | assumption | (refine List.Mem.tail _ ?_; k_memK))
local macro_rules | `(tactic| k_mem) => `(tactic| first | assumption | exact List.Mem.head _ | (refine List.Mem.tail _ ?_; k_mem))
local macro_rules | `(tactic| is_list) => `(tactic| exact News.isList (by k_asm) (by k_mem))
local macro_rules | `(tactic| k_all) => `(tactic| first | exact off1_mem (by assumption) | exact ne_below1 (by assumption) | exact ne_below (by assumption) | exact ne_below (ktn_ltOf (by assumption)) | (rename _ ∧ _ => l9; first | exact ne_below (ktn_ltOf l9.2) | exact ne_below (ktn_ltOf l9.2.2) | exact ne_below (ktn_ltOf l9.2.2.2) | exact ne_below (ktn_ltOf l9.2.2.2.2) | exact ne_below (ktn_ltOf l9.2.2.2.2.2)))
local macro_rules | `(tactic| k_room) => `(tactic| ktr_room)
local macro_rules | `(tactic| size_fits) => `(tactic| ((rw [PySem.sizeLine_eq]); (try simp only [List.size_toArray, Array.size_append]); kcf_lens; (try simp only [List.length_append, List.length_cons, List.length_nil, List.length_map, expand_length, create_length] at *); omega))
local macro_rules | `(tactic| walk_at "no place 0") => `(tactic| fail)
local macro_rules | `(tactic| walk_at "no place 1") => `(tactic| fail)
local macro_rules | `(tactic| walk_at "no place 2") => `(tactic| fail)
local macro_rules | `(tactic| walk_at "no place 3") => `(tactic| fail)
local macro_rules | `(tactic| walk_at "no place 4") => `(tactic| fail)
local macro_rules | `(tactic| walk_at "no place 5") => `(tactic| fail)
local macro_rules | `(tactic| walk_at "no place 6") => `(tactic| fail)
local macro_rules | `(tactic| walk_at "no place 7") => `(tactic| fail)
local macro_rules | `(tactic| walk_at "no place 8") => `(tactic| fail)
local macro_rules | `(tactic| walk_at "no place 9") => `(tactic| fail)
local macro_rules | `(tactic| walk_at "no place 10") => `(tactic| fail)
local macro_rules | `(tactic| walk_at "call ref") => `(tactic| (k_here; k_dflt (refine' verify_c ?cB ?cF ?cX ?cN ?cT ?ck ?cd ?cu ?f0 ?f1 ?f2 ?f3 ?f4 ?_; (case cB => k_asm); (case cF => k_asm); (case cX => k_asm); (case cN => k_asm); (case cT => k_asm); (case ck => first | exact rfl | assumption); (case f0 => first | assumption | omega); (case f1 => assumption); (case f2 => k_mem); (case f3 => l_ints); (case f4 => first | assumption | omega | k_extra "len"); (case cd => ktr_room); (case cu => ktr_units); intro h9 tk9 F9 N9; (try dsimp only); (try k_fold))))
local macro_rules | `(tactic| walk_at $s:str) => `(tactic| k_extra $s)
theorem bdecode_c0 {w : World} {mean : ExcName → Option Value} {mg mb : Str → Option Value} {dp un : Nat} {gd : Option (List Code)} {cn : Str} {cs : Scope} {a : Addr} {ccd : Value} {cl : List (Str × Addr)} {outer : List Env} {A₀ : Around} {base h₀ : Heap} {L : Addr} {m : Str → Option Value} {news : List (Addr × Obj)} {s : Shared}
    {fl : List Nat} {ds : List Int} {t : Tok} {ps : Array Value}
    {Q E : Value → Shared → Prop} (B : Below A₀ base outer h₀) (F : Fr h₀ L s.heap m) (X : (hd.heap_39 w.params).In h₀) (N : News h₀ L s.heap ((45, tabObj ps) :: news)) (T : Top topProg LO0 mean mg mb h₀) (hk : cs.kind = .function)
    (hd1 : dp + 6 < recursionLimit) (hu : un + 48 < cLine) (ht : TriplesOk ps.toList) (hne : ∀ p ∈ news, p.1 ≠ 45) (G : AllBare s.gens)
    (hl0 : 1 ≤ fl.length) (hlf : fl.length ≤ 83) (hfl : ∀ x ∈ fl, 33 ≤ x ∧ x ≤ 126) (hlow : ∀ x ∈ fl, x < 65 ∨ 90 < x) (h6 : 6 ≤ ds.length) (hlen : ds.length ≤ 150) (hv : ∀ x ∈ ds, 0 ≤ x ∧ x < 32)
    (hret0 : pm (expand fl ++ ds) ≠ 1 → ∀ l' ps' s', Fr h₀ L s'.heap m → News h₀ L s'.heap ((l', tup2 .none .none) :: (45, tabObj ps') :: news) → TriplesOk ps'.toList → (∀ p ∈ news, p.1 ≠ l') → (l' : Nat) ≠ 45 → AllBare s'.gens → s'.os = s.os → Q (.ref l') s')
    (hret1 : pm (expand fl ++ ds) = 1 → ∀ l' lo t' vs' n' ps' s', Fr h₀ L s'.heap m → News h₀ L s'.heap ((l', tup2 (.str (Str.mk fl.toArray) t') (.ref lo)) :: (lo, listOf vs'.toArray n') :: (45, tabObj ps') :: news) → IntsAre vs' (ds.take (ds.length - 6)) → TriplesOk ps'.toList →
      (∀ p ∈ news, p.1 ≠ l') → (∀ p ∈ news, p.1 ≠ lo) → (lo : Nat) ≠ l' → (l' : Nat) ≠ 45 → (lo : Nat) ≠ 45 → AllBare s'.gens → s'.os = s.os → Q (.ref l') s') :
    wpAny (model PG w) (ktrTop dp un gd cn cs L a ccd cl outer) (call (.ref 48) [.str (Str.mk (fl ++ 49 :: ds.map sgn).toArray) t]) Q E s := by
  w_top off
  k_with_none
  have hst := whole_still hfl hlow hv
  have hasc := whole_ascii hfl hv
  have hrg := whole_rng hfl hv
  refine wpAny_call ?_
  k_dflt cell_enter
  have C9 : CodeHd _ 47 45 := codeHd_of_K (by assumption) (by kernel_rfl)
  k_with "eval GeneratorExp" => k_dflt (refine genexp_str (fl ++ 49 :: ds.map sgn) (fun _ => false) hasc (by assumption) C9 rfl rfl rfl rfl (by with_unfolding_all rfl) (by decide) (by with_unfolding_all rfl) (by with_unfolding_all rfl) (by with_unfolding_all rfl) (by show dp + 1 < recursionLimit; omega) (by k_asm) ?_)
  k_steps
  refine GxSrc.intro (by k_asm) (by k_asm) ht hne G ?_ ?_
  · intro c' C A' E' ch t' s₂ m₂ hch hA' F' hx'
    have hr := hrg ch hch
    k_with "eval Name" => k_dflt (first | (refine gxn_local F' hx' rfl ?_ (by with_unfolding_all rfl) (by with_unfolding_all rfl) (by decide)) | (refine gxn_builtin F' (by assumption) (by assumption) (by k_is) (by boot_by_name) (by decide) ?_ rfl rfl (by with_unfolding_all rfl) (by with_unfolding_all rfl) (by decide)))
    iterate 12 walk1
    rw [if_neg (by rw [decide_eq_true_eq]; omega)]
    repeat walk1
    all_goals first | exact ⟨_, _, rfl, fun _ _ e => e⟩ | rw [decide_eq_false (by omega)]
  · intro a9 ps9 s9 F9 N9 ht9 G9 os9 X9
    k_with_none
    have hL := whole_len fl ds
    k_with "call builtin:any" => k_dflt (refine any_gx F9 N9 G9 X9 ?_; intro s9 F9 N9 G9 os9b; rw [any_false])
    k_with "call builtin:str.lower" => k_dflt (refine KXs.lower_K hst (by rw [hL]; omega) ?_; intro _ _)
    k_with "call builtin:str.rfind" => k_dflt (refine KXw.rfind (whole_rfind1 hv) ?_; intro _ _)
    k_with "call builtin:str.upper" => (exfalso; rename (_ != _) = true => e9; simp at e9)
    k_with "call builtin:len" => k_dflt (refine P.len_str (by rw [hL]; omega) ?_; rw [hL])
    k_with "subscriptTail" => k_dflt (first
      | (refine slice_strN_sn (hsz := ?hsz) (s := ⟨_, _, _, _, _⟩) (by k_asm) (by k_asm) ?_; (case hsz => rw [hL, sizeLine_eq]; omega); intro _ _ _ _ _; rw [whole_from])
      | (refine slice_strN_ns (hsz := ?hsz) (s := ⟨_, _, _, _, _⟩) (by k_asm) (by k_asm) ?_; (case hsz => rw [hL, sizeLine_eq]; omega); intro _ _ _ _ _; rw [whole_to]))
    k_with "eval GeneratorExp" => k_dflt (refine genexp_str (ds.map sgn) (fun _ => true) (fun c hc => hasc c (List.mem_append_right _ (List.mem_cons_of_mem _ hc))) (by assumption) C9 rfl rfl rfl rfl (by with_unfolding_all rfl) (by decide) (by with_unfolding_all rfl) (by with_unfolding_all rfl) (by with_unfolding_all rfl) (by show dp + 1 < recursionLimit; omega) (by k_asm) ?_)
    k_steps
    refine GxSrc.intro (by k_asm) (by k_asm) ht9 hne G9 ?_ ?_
    · intro c' C A' E' ch t' s₂ m₂ hch hA' F' hx'
      have hr := signs_ok hv ch hch
      k_with "eval Name" => k_dflt (first | (refine gxn_local F' hx' rfl ?_ (by with_unfolding_all rfl) (by with_unfolding_all rfl) (by decide)) | (refine gxn_global F' (by assumption) (by assumption) (by k_is) ?_ rfl (by with_unfolding_all rfl) (by with_unfolding_all rfl) (by decide)))
      repeat walk1
      all_goals first | exact ⟨_, _, rfl, fun _ _ e => e⟩ | rw [show Str.ofString "qpzry9x8gf2tvdw0s3jn54khce6mua7l" = Str.mk charset.toArray from by decide, in_charset hr]
    · intro a8 ps8 s8 F8 N8 ht8 G8 os8 X8
      k_with_none
      k_with "subscriptTail" => k_dflt (first
        | (refine slice_strN_sn (hsz := ?hsz) (s := ⟨_, _, _, _, _⟩) (by k_asm) (by k_asm) ?_; (case hsz => rw [hL, sizeLine_eq]; omega); intro _ _ _ _ _; rw [whole_from])
        | (refine slice_strN_ns (hsz := ?hsz) (s := ⟨_, _, _, _, _⟩) (by k_asm) (by k_asm) ?_; (case hsz => rw [hL, sizeLine_eq]; omega); intro _ _ _ _ _; rw [whole_to]))
      k_with "call builtin:all" => k_dflt (refine all_gx F8 N8 G8 X8 ?_; intro s8 F8 N8 G8 os8b; rw [all_true])
      k_with "exec Assign cons ListComp" => k_dflt (refine assign_listcomp_str (ds.map sgn) (fun c => Txt.find (Str.mk charset.toArray) (Str.mk #[c])) (fun c hc => hasc c (List.mem_append_right _ (List.mem_cons_of_mem _ hc))) (by rw [List.length_map, sizeLine_eq]; omega) (by with_unfolding_all rfl) rfl (by with_unfolding_all rfl) (by with_unfolding_all rfl) (by decide) (by rfl) (by decide) (by rfl) (by with_unfolding_all rfl) (by with_unfolding_all rfl) (by k_asm) ?_)
      k_steps
      refine StrSrcA.intro (by k_asm) (by k_asm) ?_ ?_
      · intro c t I oI C oC D m₂ ys h tk E' hc hC hx F' N' off ne
        k_with "call builtin:str.find" => k_dflt (refine KXw.find rfl ?_; intro _ _)
        k_steps
        rw [show Str.ofString "qpzry9x8gf2tvdw0s3jn54khce6mua7l" = Str.mk charset.toArray from by decide]
        exact kcf_el rfl rfl rfl
      · intro D h tk ys hy F' N' o1
        rw [find_map hv] at hy
        k_steps
        · rename IntsAre _ (List.take _ _) => hI9
          rename News _ _ _ _ => N9
          rename _ ∧ _ ∧ _ ∧ AllLt _ _ => l9
          rename _ ∧ _ ∧ AllLt _ _ => l8
          exact hret1 (by assumption) _ _ _ _ _ _ _ (by k_asm) (kst_newsOf N9 (by kst_inAny)) hI9 ht8 (ne_below (ktn_ltOf l9.2.2.2)) (ne_below (ktn_ltOf l8.2.2)) (Nat.ne_of_lt l9.1) (Nat.ne_of_gt l9.2.2.1) (Nat.ne_of_gt l8.2.1) G8 (os8b.trans (os8.trans (os9b.trans os9)))
        · rename News _ _ _ _ => N9
          rename _ ∧ _ ∧ AllLt _ _ => l8
          exact hret0 (by assumption) _ _ _ (by k_asm) (kst_newsOf N9 (by kst_inAny)) ht8 (ne_below (ktn_ltOf l8.2.2)) (Nat.ne_of_gt l8.2.1) G8 (os8b.trans (os8.trans (os9b.trans os9)))
end Mine
end
section
open PySem PySem.W PyProof.Rows
set_option Elab.async false
set_option maxRecDepth 100000
set_option maxHeartbeats 8000000
set_option linter.unusedVariables false
namespace Mine
set_option pp.deepTerms.threshold 8
local macro_rules | `(tactic| k_memK) => `(tactic| first | assumption | (refine List.Mem.tail _ ?_; k_memK))
local macro_rules | `(tactic| k_mem) => `(tactic| first | assumption | exact List.Mem.head _ | (refine List.Mem.tail _ ?_; k_mem))
local macro_rules | `(tactic| is_list) => `(tactic| exact News.isList (by k_asm) (by k_mem))
local macro_rules | `(tactic| k_all) => `(tactic| first | exact off1_mem (by assumption) | exact ne_below1 (by assumption) | exact ne_below (by assumption) | exact ne_below (ktn_ltOf (by assumption)) | (rename _ ∧ _ => l9; first | exact ne_below (ktn_ltOf l9.2) | exact ne_below (ktn_ltOf l9.2.2) | exact ne_below (ktn_ltOf l9.2.2.2) | exact ne_below (ktn_ltOf l9.2.2.2.2) | exact ne_below (ktn_ltOf l9.2.2.2.2.2)))
local macro_rules | `(tactic| k_room) => `(tactic| ktr_room)
local macro_rules | `(tactic| size_fits) => `(tactic| ((rw [PySem.sizeLine_eq]); (try simp only [List.size_toArray, Array.size_append]); kcf_lens; (try simp only [List.length_append, List.length_cons, List.length_nil, List.length_map, expand_length, create_length] at *); omega))
local macro_rules | `(tactic| walk_at "no place 0") => `(tactic| fail)
local macro_rules | `(tactic| walk_at "no place 1") => `(tactic| fail)
local macro_rules | `(tactic| walk_at "no place 2") => `(tactic| fail)
local macro_rules | `(tactic| walk_at "no place 3") => `(tactic| fail)
local macro_rules | `(tactic| walk_at "no place 4") => `(tactic| fail)
local macro_rules | `(tactic| walk_at "no place 5") => `(tactic| fail)
local macro_rules | `(tactic| walk_at "no place 6") => `(tactic| fail)
local macro_rules | `(tactic| walk_at "no place 7") => `(tactic| fail)
local macro_rules | `(tactic| walk_at "no place 8") => `(tactic| fail)
local macro_rules | `(tactic| walk_at "no place 9") => `(tactic| fail)
local macro_rules | `(tactic| walk_at "no place 10") => `(tactic| fail)
local macro_rules | `(tactic| walk_at "no place 11") => `(tactic| fail)
local macro_rules | `(tactic| walk_at "call ref") => `(tactic| (k_here; k_dflt (refine' convertbits_c ?cB ?cF ?cX ?cN ?cT ?ck ?cd ?cu ?f0 ?f1 ?f2 ?f3 ?_ ?_; (case cB => k_asm); (case cF => k_asm); (case cX => k_asm); (case cN => k_asm); (case cT => k_asm); (case ck => first | exact rfl | assumption); (case f0 => k_mem); (case f1 => l_ints); (case f2 => first | assumption | omega | k_extra "len"); (case f3 => k_extra "rng"); (case cd => ktr_room); (case cu => ktr_units); intro e9 h9 tk9 F9 N9; (try dsimp only); (try k_fold); rotate_left; intro os9 e9 l9 vs9 n9 h9 tk9 F9 N9 hI9 o1; (replace o1 := off1_of o1); (try simp only [LCg.Off1, and_true] at o1); (try dsimp only); (try k_fold); rotate_right)))
local macro_rules | `(tactic| walk_at $s:str) => `(tactic| k_extra $s)
theorem decode_c0 {w : World} {mean : ExcName → Option Value} {mg mb : Str → Option Value} {dp un : Nat} {gd : Option (List Code)} {cn : Str} {cs : Scope} {a : Addr} {ccd : Value} {cl : List (Str × Addr)} {outer : List Env} {A₀ : Around} {base h₀ : Heap} {L : Addr} {m : Str → Option Value} {news : List (Addr × Obj)} {s : Shared}
    {fl : List Nat} {ds : List Int} {t t2 : Tok} {ps : Array Value}
    {Q E : Value → Shared → Prop} (B : Below A₀ base outer h₀) (F : Fr h₀ L s.heap m) (X : (hd.heap_39 w.params).In h₀) (N : News h₀ L s.heap ((45, tabObj ps) :: news)) (T : Top topProg LO0 mean mg mb h₀) (hk : cs.kind = .function)
    (hd1 : dp + 8 < recursionLimit) (hu : un + 64 < cLine) (ht : TriplesOk ps.toList) (hne : ∀ p ∈ news, p.1 ≠ 45) (G : AllBare s.gens)
    (hl0 : 1 ≤ fl.length) (hlf : fl.length ≤ 83) (hfl : ∀ x ∈ fl, 33 ≤ x ∧ x ≤ 126) (hlow : ∀ x ∈ fl, x < 65 ∨ 90 < x) (h6 : 8 ≤ ds.length) (hlen : ds.length ≤ 150) (hv : ∀ x ∈ ds, 0 ≤ x ∧ x < 32)
    (hret0 : dec fl ds = none → ∀ l' ps' s', Fr h₀ L s'.heap m → News h₀ L s'.heap ((l', tup2 .none .none) :: (45, tabObj ps') :: news) → TriplesOk ps'.toList → (∀ p ∈ news, p.1 ≠ l') → (l' : Nat) ≠ 45 → AllBare s'.gens → s'.os = s.os → Q (.ref l') s')
    (hret1 : ∀ v os, dec fl ds = some (v, os) → ∀ l' lo t' vs' n' ps' s', Fr h₀ L s'.heap m → News h₀ L s'.heap ((l', tup2 (.int v t') (.ref lo)) :: (lo, listOf vs'.toArray n') :: (45, tabObj ps') :: news) → IntsAre vs' os → TriplesOk ps'.toList →
      (∀ p ∈ news, p.1 ≠ l') → (∀ p ∈ news, p.1 ≠ lo) → (lo : Nat) ≠ l' → (l' : Nat) ≠ 45 → (lo : Nat) ≠ 45 → AllBare s'.gens → s'.os = s.os → Q (.ref l') s') :
    wpAny (model PG w) (ktrTop dp un gd cn cs L a ccd cl outer) (call (.ref 63) [.str (Str.mk fl.toArray) t2, .str (Str.mk (fl ++ 49 :: ds.map sgn).toArray) t]) Q E s := by
  w_top off
  k_with_none
  refine wpAny_call ?_
  k_dflt cell_enter
  k_with "call ref" => (k_dflt (refine bdecode_c0 (by k_asm) (by k_asm) (by k_asm) (by k_asm) (by k_asm) (by first | exact rfl | assumption) (by ktr_room) (by ktr_units) ht hne G hl0 hlf hfl hlow (by omega) hlen hv ?_ ?_; intro e9 l9 ps9 s9 F9 N9 ht9 n1 n2 G9 os9; (try dsimp only); rotate_left; intro e9 l9 lo9 t9 vs9 n9 ps9 s9 F9 N9 hI9 ht9 n1 n2 n3 n4 n5 G9 os9; (try dsimp only); rotate_right))
  k_with "len" => (simp only [List.length_drop, List.length_take]; omega)
  k_with "rng" => exact fun x hx => hv x (List.mem_of_mem_take (List.mem_of_mem_drop hx))
  k_with "call builtin:len" => k_dflt (refine kst_len (by k_asm) (by k_mem) (IntsAre.length (by assumption)) ?b ?_; (case b => (rename conv _ = some _ => cv9; have cl9 := conv_len cv9; simp only [List.length_drop, List.length_take] at cl9; omega)))
  k_steps
  k_with "ne45" => (rename _ ∧ _ => l8; first | exact Nat.ne_of_gt l8.2.1 | exact Nat.ne_of_gt l8.2.2.1 | exact Nat.ne_of_gt l8.2.2.2.1 | exact Nat.ne_of_gt l8.2.2.2.2.1)
  all_goals (rename News _ _ _ _ => N9)
  · exact hret0 (dec_n0 e9) _ _ _ (by k_asm) (kst_newsOf N9 (by kst_inAny)) ht9 (by k_all) (by k_extra "ne45") G9 os9
  · exfalso; rename (_ != _) = true => e8; simp at e8
  · exact hret0 (dec_n1 (by assumption)) _ _ _ (by k_asm) (kst_newsOf N9 (by kst_inAny)) ht9 (by k_all) (by k_extra "ne45") G9 os9
  · exact hret0 (dec_n2 (by assumption) (by omega)) _ _ _ (by k_asm) (kst_newsOf N9 (by kst_inAny)) ht9 (by k_all) (by k_extra "ne45") G9 os9
  · exact hret0 (dec_n2 (by assumption) (by omega)) _ _ _ (by k_asm) (kst_newsOf N9 (by kst_inAny)) ht9 (by k_all) (by k_extra "ne45") G9 os9
  · exact hret0 (dec_n3 (by rw [← take_getD h6]; assumption)) _ _ _ (by k_asm) (kst_newsOf N9 (by kst_inAny)) ht9 (by k_all) (by k_extra "ne45") G9 os9
  · rename List.getD _ _ _ = 0 => g9
    rw [take_getD h6] at g9
    exact hret0 (dec_n4 (by assumption) ⟨g9, by omega, by omega⟩) _ _ _ (by k_asm) (kst_newsOf N9 (by kst_inAny)) ht9 (by k_all) (by k_extra "ne45") G9 os9
  all_goals
    rename _ ∧ _ ∧ _ ∧ _ ∧ LCg.Off1 _ _ => o9
    rw [take_getD h6] at *
    exact hret1 _ _ (dec_s e9 (by assumption) (by omega) (by omega) (by omega)) _ _ _ _ _ _ _ (by k_asm) (kst_newsOf N9 (by kst_inAny)) (by assumption) ht9 (by k_all) (off1_mem o9.2.2.2.2) (Nat.ne_of_lt (by rename _ ∧ _ => l8; exact l8.1)) (by k_extra "ne45") (Ne.symm o9.2.2.2.1) G9 os9
end Mine
end
section
open PySem PySem.W PyProof.Rows
set_option Elab.async false
set_option maxRecDepth 100000
set_option maxHeartbeats 8000000
set_option linter.unusedVariables false
namespace Mine
set_option pp.deepTerms.threshold 8
local macro_rules | `(tactic| k_memK) => `(tactic| first | assumption | (refine List.Mem.tail _ ?_; k_memK))
local macro_rules | `(tactic| k_mem) => `(tactic| first | assumption | exact List.Mem.head _ | (refine List.Mem.tail _ ?_; k_mem))
local macro_rules | `(tactic| is_list) => `(tactic| exact News.isList (by k_asm) (by k_mem))
local macro_rules | `(tactic| k_all) => `(tactic| first | exact off1_mem (by assumption) | exact ne_below1 (by assumption) | exact ne_below (by assumption) | exact ne_below (ktn_ltOf (by assumption)) | (rename _ ∧ _ => l9; first | exact ne_below (ktn_ltOf l9.2) | exact ne_below (ktn_ltOf l9.2.2) | exact ne_below (ktn_ltOf l9.2.2.2) | exact ne_below (ktn_ltOf l9.2.2.2.2) | exact ne_below (ktn_ltOf l9.2.2.2.2.2)))
local macro_rules | `(tactic| k_room) => `(tactic| ktr_room)
local macro_rules | `(tactic| size_fits) => `(tactic| ((rw [PySem.sizeLine_eq]); (try simp only [List.size_toArray, Array.size_append]); kcf_lens; (try simp only [List.length_append, List.length_cons, List.length_nil, List.length_map, expand_length, create_length] at *); omega))
local macro_rules | `(tactic| walk_at "no place 0") => `(tactic| fail)
local macro_rules | `(tactic| walk_at "no place 1") => `(tactic| fail)
local macro_rules | `(tactic| walk_at "no place 2") => `(tactic| fail)
local macro_rules | `(tactic| walk_at "no place 3") => `(tactic| fail)
local macro_rules | `(tactic| walk_at "no place 4") => `(tactic| fail)
local macro_rules | `(tactic| walk_at "no place 5") => `(tactic| fail)
local macro_rules | `(tactic| walk_at "no place 6") => `(tactic| fail)
local macro_rules | `(tactic| walk_at "no place 7") => `(tactic| fail)
local macro_rules | `(tactic| walk_at "no place 8") => `(tactic| fail)
local macro_rules | `(tactic| walk_at "no place 9") => `(tactic| fail)
local macro_rules | `(tactic| walk_at "no place 10") => `(tactic| fail)
local macro_rules | `(tactic| walk_at "no place 11") => `(tactic| fail)
local macro_rules | `(tactic| walk_at "no place 12") => `(tactic| fail)
local macro_rules | `(tactic| walk_at "no place 13") => `(tactic| fail)
local macro_rules | `(tactic| walk_at $s:str) => `(tactic| k_extra $s)
theorem low_c {w : World} {mean : ExcName → Option Value} {mg mb : Str → Option Value} {dp un : Nat} {gd : Option (List Code)} {cn : Str} {cs : Scope} {a : Addr} {ccd : Value} {cl : List (Str × Addr)} {outer : List Env} {A₀ : Around} {base h₀ : Heap} {L : Addr} {m : Str → Option Value} {news : List (Addr × Obj)} {s : Shared}
    {x : Int} {t1 : Tok}
    {Q E : Value → Shared → Prop} (B : Below A₀ base outer h₀) (F : Fr h₀ L s.heap m) (X : (hd.heap_39 w.params).In h₀) (N : News h₀ L s.heap news) (T : Top topProg LO0 mean mg mb h₀) (hk : cs.kind = .function)
    (hd1 : dp + 2 < recursionLimit) (hu : un + 16 < cLine)
    (hx : 33 ≤ x ∧ x ≤ 126)
    (hret : ∀ t h' tk', Fr h₀ L h' m → News h₀ L h' news → Q (.int (low x) t) { s with heap := h', toks := tk' }) :
    wpAny (model PG w) (ktrTop dp un gd cn cs L a ccd cl outer) (call (.ref 80) [.int x t1]) Q E s := by
  w_top off
  k_with_none
  refine wpAny_call ?_
  k_dflt cell_enter
  k_steps
  · exact low_1 (by assumption) (by assumption) ▸ hret _ _ _ (by k_asm) (by k_asm)
  · exact low_3 (by assumption) ▸ hret _ _ _ (by k_asm) (by k_asm)
  · exact low_2 (by assumption) ▸ hret _ _ _ (by k_asm) (by k_asm)
end Mine
end
section
open PySem PySem.W PyProof.Rows
set_option Elab.async false
set_option maxRecDepth 100000
set_option maxHeartbeats 4000000
set_option linter.unusedVariables false
namespace Mine
section
variable {w : World} {mean : ExcName → Option Value} {mg mb : Str → Option Value} {dp un : Nat} {gd : Option (List Code)} {cn : Str} {cs : Scope} {a : Addr} {ccd : Value} {cl : List (Str × Addr)} {outer : List Env} {A₀ : Around} {base h₀ : Heap} {L : Addr} {m : Str → Option Value} {news : List (Addr × Obj)} {s : Shared}
  {fl : List Nat} {ds : List Int} {t t2 : Tok} {ps : Array Value} {g : Obj → List (Addr × Obj)} {Q E : Value → Shared → Prop}
theorem ne_split {own rest : List (Addr × Obj)} {l : Addr} {o : Obj} (h : ∀ p ∈ own ++ rest, p.1 ≠ l) (h45 : (l : Nat) ≠ 45) : ∀ p ∈ own ++ (45, o) :: rest, p.1 ≠ l := fun p hp => by
  rcases List.mem_append.mp hp with hp | hp
  · exact h p (List.mem_append_left _ hp)
  · rcases List.mem_cons.mp hp with rfl | hp
    · exact fun e => h45 e.symm
    · exact h p (List.mem_append_right _ hp)
theorem news_join {own rest : List (Addr × Obj)} {h : Heap} {o : Obj} (N : News h₀ L h ((45, o) :: (own ++ rest))) : News h₀ L h (own ++ (45, o) :: rest) := fun p hp => N p (by
  rcases List.mem_append.mp hp with hp | hp
  · exact List.mem_cons_of_mem _ (List.mem_append_left _ hp)
  · rcases List.mem_cons.mp hp with rfl | hp
    · exact List.mem_cons_self
    · exact List.mem_cons_of_mem _ (List.mem_append_right _ hp))
theorem news_break {own rest : List (Addr × Obj)} {h : Heap} {o : Obj} (N : News h₀ L h (own ++ (45, o) :: rest)) : News h₀ L h ((45, o) :: (own ++ rest)) := fun p hp => N p (by
  rcases List.mem_cons.mp hp with rfl | hp
  · exact List.mem_append_right _ List.mem_cons_self
  · rcases List.mem_append.mp hp with hp | hp
    · exact List.mem_append_left _ hp
    · exact List.mem_append_right _ (List.mem_cons_of_mem _ hp))
theorem news_more {k l : List (Addr × Obj)} {h : Heap} {p : Addr × Obj} (N : News h₀ L h (p :: k)) (H : News h₀ L h k → News h₀ L h l) : News h₀ L h (p :: l) := fun q hq => by
  rcases List.mem_cons.mp hq with rfl | hq
  · exact N _ List.mem_cons_self
  · exact H (fun r hr => N r (List.mem_cons_of_mem _ hr)) q hq
theorem bdecode_c (B : Below A₀ base outer h₀) (F : Fr h₀ L s.heap m) (X : (hd.heap_39 w.params).In h₀) (N : News h₀ L s.heap news) (T : Top topProg LO0 mean mg mb h₀) (hk : cs.kind = .function)
    (hd1 : dp + 6 < recursionLimit) (hu : un + 48 < cLine) (U : UpdF 45 (tabObj ps) news g) (ht : TriplesOk ps.toList) (G : AllBare s.gens)
    (hl0 : 1 ≤ fl.length) (hlf : fl.length ≤ 83) (hfl : ∀ x ∈ fl, 33 ≤ x ∧ x ≤ 126) (hlow : ∀ x ∈ fl, x < 65 ∨ 90 < x) (h6 : 6 ≤ ds.length) (hlen : ds.length ≤ 150) (hv : ∀ x ∈ ds, 0 ≤ x ∧ x < 32)
    (hret0 : pm (expand fl ++ ds) ≠ 1 → ∀ l' ps' s', Fr h₀ L s'.heap m → News h₀ L s'.heap ((l', tup2 .none .none) :: g (tabObj ps')) → TriplesOk ps'.toList → (∀ p ∈ g (tabObj ps'), p.1 ≠ l') → AllBare s'.gens → s'.os = s.os → Q (.ref l') s')
    (hret1 : pm (expand fl ++ ds) = 1 → ∀ l' lo t' vs' n' ps' s', Fr h₀ L s'.heap m → News h₀ L s'.heap ((l', tup2 (.str (Str.mk fl.toArray) t') (.ref lo)) :: (lo, listOf vs'.toArray n') :: g (tabObj ps')) → IntsAre vs' (ds.take (ds.length - 6)) → TriplesOk ps'.toList →
      (∀ p ∈ (lo, listOf vs'.toArray n') :: g (tabObj ps'), p.1 ≠ l') → (∀ p ∈ g (tabObj ps'), p.1 ≠ lo) → AllBare s'.gens → s'.os = s.os → Q (.ref l') s') :
    wpAny (model PG w) (ktrTop dp un gd cn cs L a ccd cl outer) (call (.ref 48) [.str (Str.mk (fl ++ 49 :: ds.map sgn).toArray) t]) Q E s := by
  obtain ⟨own, rest, rfl, hgr, h1, h2⟩ := U.split
  refine bdecode_c0 B F X (news_break N) T hk hd1 hu ht (fun p hp => (List.mem_append.mp hp).elim (h1 p) (h2 p)) G hl0 hlf hfl hlow h6 hlen hv ?_ ?_
  · intro e l' ps' s' F' N' ht' n1 n2 G' o'
    refine hret0 e l' ps' s' F' ?_ ht' ?_ G' o'
    · rw [hgr]; exact news_more N' news_join
    · rw [hgr]; exact ne_split n1 n2
  · intro e l' lo t' vs' n' ps' s' F' N' hI ht' n1 n2 n3 n4 n5 G' o'
    refine hret1 e l' lo t' vs' n' ps' s' F' ?_ hI ht' ?_ ?_ G' o'
    · rw [hgr]; exact news_more N' fun N => news_more N news_join
    · rw [hgr]; intro p hp
      rcases List.mem_cons.mp hp with rfl | hp
      · exact n3
      · exact ne_split n1 n4 p hp
    · rw [hgr]; exact ne_split n2 n5
theorem decode_c (B : Below A₀ base outer h₀) (F : Fr h₀ L s.heap m) (X : (hd.heap_39 w.params).In h₀) (N : News h₀ L s.heap news) (T : Top topProg LO0 mean mg mb h₀) (hk : cs.kind = .function)
    (hd1 : dp + 8 < recursionLimit) (hu : un + 64 < cLine) (U : UpdF 45 (tabObj ps) news g) (ht : TriplesOk ps.toList) (G : AllBare s.gens)
    (hl0 : 1 ≤ fl.length) (hlf : fl.length ≤ 83) (hfl : ∀ x ∈ fl, 33 ≤ x ∧ x ≤ 126) (hlow : ∀ x ∈ fl, x < 65 ∨ 90 < x) (h6 : 8 ≤ ds.length) (hlen : ds.length ≤ 150) (hv : ∀ x ∈ ds, 0 ≤ x ∧ x < 32)
    (hret0 : dec fl ds = none → ∀ l' ps' s', Fr h₀ L s'.heap m → News h₀ L s'.heap ((l', tup2 .none .none) :: g (tabObj ps')) → TriplesOk ps'.toList → (∀ p ∈ g (tabObj ps'), p.1 ≠ l') → AllBare s'.gens → s'.os = s.os → Q (.ref l') s')
    (hret1 : ∀ v os, dec fl ds = some (v, os) → ∀ l' lo t' vs' n' ps' s', Fr h₀ L s'.heap m → News h₀ L s'.heap ((l', tup2 (.int v t') (.ref lo)) :: (lo, listOf vs'.toArray n') :: g (tabObj ps')) → IntsAre vs' os → TriplesOk ps'.toList →
      (∀ p ∈ (lo, listOf vs'.toArray n') :: g (tabObj ps'), p.1 ≠ l') → (∀ p ∈ g (tabObj ps'), p.1 ≠ lo) → AllBare s'.gens → s'.os = s.os → Q (.ref l') s') :
    wpAny (model PG w) (ktrTop dp un gd cn cs L a ccd cl outer) (call (.ref 63) [.str (Str.mk fl.toArray) t2, .str (Str.mk (fl ++ 49 :: ds.map sgn).toArray) t]) Q E s := by
  obtain ⟨own, rest, rfl, hgr, h1, h2⟩ := U.split
  refine decode_c0 B F X (news_break N) T hk hd1 hu ht (fun p hp => (List.mem_append.mp hp).elim (h1 p) (h2 p)) G hl0 hlf hfl hlow h6 hlen hv ?_ ?_
  · intro e l' ps' s' F' N' ht' n1 n2 G' o'
    refine hret0 e l' ps' s' F' ?_ ht' ?_ G' o'
    · rw [hgr]; exact news_more N' news_join
    · rw [hgr]; exact ne_split n1 n2
  · intro v os e l' lo t' vs' n' ps' s' F' N' hI ht' n1 n2 n3 n4 n5 G' o'
    refine hret1 v os e l' lo t' vs' n' ps' s' F' ?_ hI ht' ?_ ?_ G' o'
    · rw [hgr]; exact news_more N' fun N => news_more N news_join
    · rw [hgr]; intro p hp
      rcases List.mem_cons.mp hp with rfl | hp
      · exact n3
      · exact ne_split n1 n4 p hp
    · rw [hgr]; exact ne_split n2 n5
end
/-- the front of the law: its length and its signs -/
theorem front_facts (f : Int → Int) (n : Int) (h0 : 0 ≤ n) (h1 : n < 3) :
    let fl := (rangeKs 0 (1 + n - 0).toNat).map fun k => (low (33 + (f k).fmod 94)).toNat
    (fl.length : Int) = 1 + n ∧ (∀ x ∈ fl, 33 ≤ x ∧ x ≤ 126) ∧ (∀ x ∈ fl, x < 65 ∨ 90 < x) := by
  intro fl
  have hx : ∀ x ∈ fl, 33 ≤ x ∧ x ≤ 126 ∧ (x < 65 ∨ 90 < x) := fun x hx => by
    obtain ⟨k, _, rfl⟩ := List.mem_map.mp hx
    have := low_rng (low_arg (f k)).1 (low_arg (f k)).2
    omega
  refine ⟨?_, fun x h => ⟨(hx x h).1, (hx x h).2.1⟩, fun x h => (hx x h).2.2⟩
  show (((rangeKs 0 (1 + n - 0).toNat).map _).length : Int) = _
  rw [List.length_map, rangeKs_length]; omega
theorem fives_facts (f : Int → Int) (n : Int) (h0 : 0 ≤ n) :
    let fs := (rangeKs 0 (n - 0).toNat).map fun k => (f k).fmod 32
    (fs.length : Int) = n ∧ ∀ x ∈ fs, 0 ≤ x ∧ x < 32 := by
  intro fs
  refine ⟨?_, fun x hx => ?_⟩
  · show (((rangeKs 0 (n - 0).toNat).map _).length : Int) = _
    rw [List.length_map, rangeKs_length]; omega
  · obtain ⟨k, _, rfl⟩ := List.mem_map.mp hx
    exact ⟨Int.fmod_nonneg_of_pos _ (by decide), Int.fmod_lt_of_pos _ (by decide)⟩
end Mine
end
section
open PySem PySem.W PySem.Calls PyProof.Rows
set_option Elab.async false
set_option maxRecDepth 100000
set_option maxHeartbeats 8000000
set_option linter.unusedVariables false
namespace Mine
/-- where the law ends: it answers True, what was there stays, the tables of code may have grown -/
def GoodX (tabs : List (Addr × Addr)) (s₁ : Shared) (r : Result) (s' : Shared) : Prop :=
  r = .ok (.ret (.bool true)) ∧ (∀ b o, (ghostOf s₁.heap tabs).get? b = some o → s'.heap.get? b = some o) ∧ s'.os = s₁.os ∧ AllBare s'.gens ∧ GrownAll tabs s'.heap
theorem my_post {M : Model} {A : Around} {cd : Code} {s s₁ : Shared} {cw : ClaimW} {cl : Str → Option Addr} {mean : ExcName → Option Value} {args : List WData} {tabs : List (Addr × Addr)} (hT : TabsAt tabs s₁.heap)
    (hr : ∀ a x, cw.raises a x = false) (hp : cw.post args (.bool true) args = true)
    (h : codeAny M A cd (GoodX tabs s₁) s) : codeAny M A cd (GoodWG cw cl mean args s₁) s :=
  codeAny_mono h fun r s' ⟨hc, hk, hos, hg, hgr⟩ => by
    have keep : ∀ b o, b ∉ tabs.map (·.2) → s₁.heap.get? b = some o → s'.heap.get? b = some o := fun b o hb e => hk b o (ghost_ne e hb)
    have grown : ∀ b o, b ∈ tabs.map (·.2) → s₁.heap.get? b = some o → isCodeTable s₁.heap b ∧ o = tabObj #[] ∧ ∃ ps, s'.heap.get? b = some (tabObj ps) := fun b o hb e => by
      obtain ⟨q, hq, rfl⟩ := List.mem_map.mp hb
      have e2 := (hT q hq).2
      rw [e] at e2
      exact ⟨((hT q hq).1.tab (hT q hq).2).isCodeTable, Option.some.inj e2, hgr.get q hq⟩
    refine ⟨.inl ⟨_, .bool true, [], hc, fun x => hr _ x, .bool true, hp, fun _ => ⟨List.nodup_nil, fun a ha => nomatch ha⟩⟩, ⟨fun b o e => ?_, fun b o e => ?_⟩, hos, hg⟩
    · by_cases hb : b ∈ tabs.map (·.2)
      · obtain ⟨ht, rfl, ps, hP⟩ := grown b o hb e
        exact .inr (.inl ⟨ht, rfl, #[], ps, rfl, by rw [Array.empty_append]; exact hP⟩)
      · exact .inl (keep b o hb e)
    · by_cases hb : b ∈ tabs.map (·.2)
      · obtain ⟨_, _, ps, hP⟩ := grown b o hb e
        exact ⟨_, hP⟩
      · exact ⟨o, keep b o hb e⟩
end Mine
end
section
open PySem PySem.W PySem.Calls PyProof.Rows PyProof.V PySem.Spec PySem.SeqAt
set_option Elab.async false
set_option maxRecDepth 100000
set_option maxHeartbeats 4000000
set_option linter.unusedVariables false
namespace Mine
/-- the data of an answer: (None, None), or a first and a list of ints -/
def ansD : Option (PyData × List Int) → PyData
  | none => .tuple [.none, .none]
  | some (x, os) => .tuple [x, .list (os.map PyData.int)]
/-- what the first may be -/
def FirstOk : Option (PyData × List Int) → Prop
  | none => True
  | some (x, _) => (∃ v, x = .int v) ∨ ∃ f, x = .str f ∧ PyData.strOk f = true
theorem ans_shaped {o : Option (PyData × List Int)} (h : FirstOk o) : SeqAt.shaped (ansD o) = true := by
  match o, h with
  | none, _ => decide
  | some (_, os), .inl ⟨v, rfl⟩ => simp [ansD, SeqAt.shaped, PyData.canLay0, PyData.canLayAll0, PyData.depth, PyData.depthAll, ke_canLayAll0, ke_depthAll]
  | some (_, os), .inr ⟨f, rfl, hf⟩ => simp [hf, ansD, SeqAt.shaped, PyData.canLay0, PyData.canLayAll0, PyData.depth, PyData.depthAll, ke_canLayAll0, ke_depthAll]
theorem ans_eqv {o : Option (PyData × List Int)} (h : FirstOk o) : PyData.eqv (ansD o) (ansD o) = true := by
  match o, h with
  | none, _ => rfl
  | some (_, os), .inl ⟨v, rfl⟩ => simp [ansD, PyData.eqv, PyData.eqvAll, ked_eqvAll]
  | some (_, os), .inr ⟨f, rfl, _⟩ => simp [ansD, PyData.eqv, PyData.eqvAll, ked_eqvAll]
def AnsAt (h : Heap) (a : Addr) (o : Option (PyData × List Int)) : Prop := ∃ as, Reads h (.ref a) (ansD o) as
section
variable {prog : Program} {w : World} {A : Around} {E : Value → Shared → Prop} {s : Shared} {h₀ : Heap} {L : Addr} {news : List (Addr × Obj)} {h : Heap}
theorem ne_ans {a b : Addr} (o : Option (PyData × List Int)) {Q : Value → Shared → Prop} (hf : FirstOk o) (ra : AnsAt s.heap a o) (rb : AnsAt s.heap b o) (hu : A.units + 64 < cLine) (k : Q (.bool false) s) :
    wpAny (model prog w) A (compareOp .NotEq (.ref a) (.ref b)) Q E s := by
  obtain ⟨_, ra⟩ := ra
  obtain ⟨_, rb⟩ := rb
  refine ne_dataH ra rb (ans_shaped hf) (ans_shaped hf) hu ?_
  rw [ans_eqv hf]; exact k
theorem eq_ans {a b : Addr} (o : Option (PyData × List Int)) {Q : Value → Shared → Prop} (hf : FirstOk o) (ra : AnsAt s.heap a o) (rb : AnsAt s.heap b o) (hu : A.units + 64 < cLine) (k : Q (.bool true) s) :
    wpAny (model prog w) A (compareOp .Eq (.ref a) (.ref b)) Q E s := by
  obtain ⟨_, ra⟩ := ra
  obtain ⟨_, rb⟩ := rb
  refine eq_dataH ra rb (ans_shaped hf) (ans_shaped hf) hu ?_
  rw [ans_eqv hf]; exact k
theorem AnsAt.none {a : Addr} (N : News h₀ L h news) (hm : (a, tup2 .none .none) ∈ news) : AnsAt h a .none :=
  ⟨_, reads_tuple_at (N.get hm) rfl rfl (.cons .none (.cons .none .nil))⟩
theorem AnsAt.int {a lo : Addr} {v : Int} {t : Tok} {vs : List Value} {n : Nat} {os : List Int} (N : News h₀ L h news) (hm : (a, tup2 (.int v t) (.ref lo)) ∈ news) (hl : (lo, listOf vs.toArray n) ∈ news) (hi : IntsAre vs os) : AnsAt h a (some (.int v, os)) :=
  ⟨_, reads_tuple_at (N.get hm) rfl rfl (.cons (.int _ _) (.cons (reads_newData (News.isList N hl) (ke_carried hi)) .nil))⟩
theorem AnsAt.str {a lo : Addr} {f : Str} {t : Tok} {vs : List Value} {n : Nat} {os : List Int} (N : News h₀ L h news) (hm : (a, tup2 (.str f t) (.ref lo)) ∈ news) (hl : (lo, listOf vs.toArray n) ∈ news) (hi : IntsAre vs os) : AnsAt h a (some (.str f, os)) :=
  ⟨_, reads_tuple_at (N.get hm) rfl rfl (.cons (.str _ _) (.cons (reads_newData (News.isList N hl) (ke_carried hi)) .nil))⟩
end
end Mine
end
section
open PySem PySem.W PyProof.Rows
set_option Elab.async false
set_option maxRecDepth 100000
set_option maxHeartbeats 4000000
set_option linter.unusedVariables false
namespace Mine
/-- the law's names before the text is made -/
structure Six (m : Str → Option Value) (fl : List Nat) (n version many : Int) (l : Addr) (forced : Bool) : Prop where
  size : ∃ t, m (Str.ofString "size") = some (.int (1 + n) t)
  front : ∃ t, m (Str.ofString "front") = some (.str ⟨fl.toArray⟩ t)
  version : ∃ t, m (Str.ofString "version") = some (.int version t)
  many : ∃ t, m (Str.ofString "many") = some (.int many t)
  fives : m (Str.ofString "fives") = some (.ref l)
  forced : m (Str.ofString "forced") = some (.bool forced)
/-- what is known of the law's numbers -/
structure Facts (fl : List Nat) (n version many : Int) (fs row : List Int) : Prop where
  n0 : 0 ≤ n
  n1 : n < 3
  len : (fl.length : Int) = 1 + n
  rng : ∀ x ∈ fl, 33 ≤ x ∧ x ≤ 126
  lows : ∀ x ∈ fl, x < 65 ∨ 90 < x
  v0 : 0 ≤ version
  v1 : version ≤ 16
  mny : version = 0 ∧ many = 32 ∨ version ≠ 0 ∧ 4 ≤ many ∧ many ≤ 23
  flen : (fs.length : Int) = many
  frng : ∀ x ∈ fs, 0 ≤ x ∧ x < 32
  rows : 3 ≤ row.length ∧ row.length ≤ 43
@[irreducible] def forcedFs (fl : List Nat) (version : Int) (fs : List Int) (forced : Bool) : List Int :=
  if forced = true then fs.take (fs.length - 1) ++ [times 17 (Builtin.bitXor ((create fl ([version] ++ fs.take (fs.length - 1) ++ [0])).getD 5 0) 1)] else fs
theorem cutB {h₀ : Heap} {L : Addr} {h : Heap} {m : Str → Option Value} {P : Prop} {p0 p1 p2 p3 p4 p5 p6 p7 : Addr × Obj} (F : Fr h₀ L h m) (N : News h₀ L h [p0, p1, p2, p3, p4, p5, p6, p7]) {f f2 : Int → Int} {n many version : Int} {t ts tv tm : Tok} {forced : Bool} {l : Addr} {ys ws : List Value} {row : List Int}
    (e1 : m (Str.ofString "size") = some (.int (1 + n) ts)) (e2 : m (Str.ofString "front") = some (.str ⟨((rangeKs 0 (1 + n - 0).toNat).map fun k => (low (33 + (f k).fmod 94)).toNat).toArray⟩ t))
    (e3 : m (Str.ofString "version") = some (.int version tv)) (e4 : m (Str.ofString "many") = some (.int many tm)) (e5 : m (Str.ofString "fives") = some (.ref l)) (e6 : m (Str.ofString "forced") = some (.bool forced))
    (hn0 : 0 ≤ n) (hn1 : n < 3) (hver : 0 ≤ version ∧ version ≤ 16) (hmany : version = 0 ∧ many = 32 ∨ version ≠ 0 ∧ 4 ≤ many ∧ many ≤ 23)
    (hI : IntsAre ys ((rangeKs 0 (many - 0).toNat).map fun k => (f2 k).fmod 32)) (hR : IntsAre ws row) (hR3 : 3 ≤ row.length ∧ row.length ≤ 43)
    (k : ∀ (m' : Str → Option Value) (fl : List Nat) (n : Int) (fs row : List Int) (forced : Bool), Fr h₀ L h m' → News h₀ L h [p0, p2, p6, p7] → Six m' fl n version many l forced → Facts fl n version many fs row → IntsAre ys fs → IntsAre ws row → P) : P := by
  have h1 := front_facts f n hn0 hn1
  have h2 := fives_facts f2 many (by omega)
  exact k m _ n _ row forced F (fun p hp => N p (by simp only [List.mem_cons, List.not_mem_nil, or_false] at hp ⊢; rcases hp with h | h | h | h <;> simp [h])) ⟨⟨_, e1⟩, ⟨_, e2⟩, ⟨_, e3⟩, ⟨_, e4⟩, e5, e6⟩ ⟨hn0, hn1, h1.1, h1.2.1, h1.2.2, hver.1, hver.2, hmany, h2.1, h2.2, hR3⟩ hI hR
def AfterIf (h₀ : Heap) (L : Addr) (led : List (Addr × Obj)) (fl : List Nat) (n version many : Int) (fs : List Int) (forced : Bool) (s s' : Shared) : Prop :=
  ∃ m' l vs c, Fr h₀ L s'.heap m' ∧ Six m' fl n version many l forced ∧ News h₀ L s'.heap ((l, listOf vs.toArray c) :: led) ∧ (∀ p ∈ led, p.1 ≠ l) ∧ IntsAre vs (forcedFs fl version fs forced) ∧ s'.gens = s.gens ∧ s'.os = s.os
theorem stmt_join {M : Model} {A : Around} {E : Value → Shared → Prop} {s : Shared} {st : Stmt} {env : Env} {Q : Flow → Shared → Prop} {h₀ : Heap} {L : Addr} {m : Str → Option Value} {fl : List Nat} {n version many : Int} {fs row : List Int} {forced : Bool} {l : Addr} {p0 : Addr × Obj} {led : List (Addr × Obj)}
    (F : Fr h₀ L s.heap m) (N : News h₀ L s.heap (p0 :: led)) (Sx : Six m fl n version many l forced) (Fa : Facts fl n version many fs row)
    (h : Later (wpAny M A (exec st env) (fun f s' => f = .next ∧ AfterIf h₀ L led fl n version many fs forced s s') E s)) (hc : Later (∀ s', AfterIf h₀ L led fl n version many fs forced s s' → Q .next s')) : wpAny M A (exec st env) Q E s :=
  wpAny_mono h.run (fun f s' ⟨e, x⟩ => by subst e; exact hc.run s' x) fun _ _ e => e
end Mine
namespace Mine
theorem create_at {fl : List Nat} {ns : List Int} (i : Nat) : 0 ≤ (create fl ns).getD i 0 ∧ (create fl ns).getD i 0 < 32 := getD_rng (create_rng fl ns) i
theorem xor1_rng {x : Int} (h : 0 ≤ x ∧ x < 32) : 0 ≤ Builtin.bitXor x 1 ∧ Builtin.bitXor x 1 < 32 := by
  have h1 := bitXor_and x 1
  have h2 := bitAnd_m1 x
  omega
theorem xor1_at {fl : List Nat} {ns : List Int} (i : Nat) : 0 ≤ Builtin.bitXor ((create fl ns).getD i 0) 1 ∧ Builtin.bitXor ((create fl ns).getD i 0) 1 < 32 := xor1_rng (create_at i)
end Mine
namespace Mine
theorem exps_rng : ∀ x ∈ exps, 0 ≤ x ∧ x < 32 := by decide
theorem times_rng (x y : Int) : 0 ≤ times x y ∧ times x y < 32 := by
  unfold times
  split
  · decide
  · exact getD_rng exps_rng _
theorem forced_ex {vs : List Value} {fl : List Nat} {version : Int} {fs : List Int} {forced : Bool} (hI : IntsAre vs (forcedFs fl version fs forced)) (h1 : 1 ≤ fs.length) (hr : ∀ x ∈ fs, 0 ≤ x ∧ x < 32) :
    ∃ gs, gs = forcedFs fl version fs forced ∧ IntsAre vs gs ∧ gs.length = fs.length ∧ ∀ x ∈ gs, 0 ≤ x ∧ x < 32 := by
  refine ⟨_, rfl, hI, ?_, ?_⟩
  · unfold forcedFs; split
    · simp only [List.length_append, List.length_take, List.length_cons, List.length_nil]; omega
    · rfl
  · unfold forcedFs; split
    · intro x hx
      rcases List.mem_append.mp hx with h | h
      · exact hr x (List.mem_of_mem_take h)
      · rw [List.mem_singleton.mp h]; exact times_rng _ _
    · exact hr
theorem cons_rng {v : Int} {gs : List Int} (h0 : 0 ≤ v) (h1 : v ≤ 16) (hr : ∀ x ∈ gs, 0 ≤ x ∧ x < 32) : ∀ x ∈ [v] ++ gs, 0 ≤ x ∧ x < 32 := fun x hx => by
  rcases List.mem_append.mp hx with h | h
  · rw [List.mem_singleton.mp h]; omega
  · exact hr x h
end Mine
namespace Mine
theorem enc_eq (fl : List Nat) (ns : List Int) : encode fl ns = whole fl (ns ++ create fl ns) := by unfold encode; simp
theorem enc_len (fl : List Nat) (ns : List Int) : (Str.mk (encode fl ns).toArray).length = fl.length + 1 + (ns.length + 6) := by
  rw [enc_eq, whole_len, List.length_append, create_length]
theorem enc_head (fl : List Nat) (ns : List Int) : Txt.slice (Str.mk (encode fl ns).toArray) none (some ((fl.length : Int) + 1)) = Str.mk (fl ++ [49]).toArray := by
  have h := slice_to (fl ++ [49]) ((ns ++ create fl ns).map sgn)
  rw [enc_eq, whole]
  simpa using h
theorem enc_tail (fl : List Nat) (ns : List Int) : Txt.slice (Str.mk (encode fl ns).toArray) (some ((fl.length : Int) + 1)) none = Str.mk ((ns ++ create fl ns).map sgn).toArray := by
  rw [enc_eq]; exact whole_from _ _
end Mine
namespace Mine
theorem split6 {α : Type} (l : List α) (d : α) (h : l.length = 6) : l = l.take 5 ++ [l.getD 5 d] := by
  match l, h with
  | [a, b, c, e, f, g], _ => rfl
theorem enc_last (fl : List Nat) (ns : List Int) : encode fl ns = (fl ++ 49 :: (ns ++ (create fl ns).take 5).map sgn) ++ [sgn ((create fl ns).getD 5 0)] := by
  rw [enc_eq, whole]
  have h := split6 (create fl ns) 0 (create_length fl ns)
  conv => lhs; rw [h]
  simp
section
variable {prog : Program} {w : World} {A : Around} {E : Value → Shared → Prop} {s : Shared}
theorem item_last {value slice : Expr} {t u : Tok} {Q : Value → Shared → Prop} {x : List Nat} (l : List Nat) (c : Nat) (hx : x = l ++ [c]) (h : ∀ t', Q (.str ⟨#[c]⟩ t') { s with toks := s.toks + 1 })
    (hs : subscripted slice false (.str ⟨x.toArray⟩ t) (.int (-1) u) = operate [.str ⟨x.toArray⟩ t, .int (-1) u] (getItem (.str ⟨x.toArray⟩ t) (.int (-1) u))) :
    wpAny (model prog w) A (subscriptTail value slice (.str ⟨x.toArray⟩ t) (.int (-1) u)) Q E s := by
  have hlen : (Str.mk x.toArray).length = l.length + 1 := by subst hx; simp [Str.length]
  refine tail_any (typeIs_str s _ t) F.slot_str_getitem.lookup (P.getItem_str (c := c) (by decide) ?_ (h _)) hs
  rw [hlen]
  have hk : seqIndex? (-1) (l.length + 1) = some l.length := by
    unfold seqIndex?
    have : (-1 : Int) + ((l.length + 1 : Nat) : Int) = l.length := by omega
    simp
    omega
  rw [hk]
  subst hx
  show ((l ++ [c]).toArray)[l.length]? = some c
  simp
end
theorem vals_head {version many : Int} {gs : List Int} (c : List Int) (h : (gs.length : Int) = many) : List.take (many + 1).toNat ([version] ++ gs ++ c) = [version] ++ gs := by
  have : (many + 1).toNat = ([version] ++ gs).length := by simp only [List.length_append, List.length_cons, List.length_nil]; omega
  rw [this, List.take_left]
end Mine
end
section
open PySem PyProof.Rows
namespace Mine
theorem xor_add (x : Nat) : ∀ y, (x ^^^ y) + 2 * (x &&& y) = x + y := by
  induction x using Nat.strongRecOn with
  | ind x ih =>
    intro y
    by_cases hx : x = 0
    · subst hx; simp
    have h := ih (x / 2) (by omega) (y / 2)
    have e1 : (x ^^^ y) / 2 = x / 2 ^^^ y / 2 := Nat.xor_div_two
    have e2 : (x &&& y) / 2 = x / 2 &&& y / 2 := Nat.and_div_two
    have e3 : (x ^^^ y) % 2 = 1 ↔ ¬ (x % 2 = 1 ↔ y % 2 = 1) := Nat.xor_mod_two_eq_one
    have e4 : (x &&& y) % 2 = 1 ↔ x % 2 = 1 ∧ y % 2 = 1 := Nat.and_mod_two_eq_one
    rw [← e1, ← e2] at h
    omega
theorem bx (x y : Nat) : Builtin.bitXor (x : Int) (y : Int) = ((x ^^^ y : Nat) : Int) := by
  rw [bitXor_and, bitAnd_pp (by omega) (by omega)]
  have := xor_add x y
  simp only [Int.toNat_natCast]
  omega
theorem ba (x y : Nat) : Builtin.bitAnd (x : Int) (y : Int) = ((x &&& y : Nat) : Int) := by
  rw [bitAnd_pp (by omega) (by omega)]; simp only [Int.toNat_natCast]
def G (t : Nat) : Nat := ((((if t.testBit 0 then 996825010 else 0) ^^^ (if t.testBit 1 then 642813549 else 0)) ^^^ (if t.testBit 2 then 513874426 else 0)) ^^^ (if t.testBit 3 then 1027748829 else 0)) ^^^ (if t.testBit 4 then 705979059 else 0)
/-- one step of the checksum, without the new five -/
def Ln (c : Nat) : Nat := ((c &&& 33554431) <<< 5) ^^^ G (c >>> 25)
def pmN (vs : List Nat) : Nat := vs.foldl (fun c v => Ln c ^^^ v) 1
theorem xx (a b c d : Nat) : (a ^^^ b) ^^^ (c ^^^ d) = (a ^^^ c) ^^^ (b ^^^ d) := by
  rw [Nat.xor_assoc, Nat.xor_assoc]; congr 1; rw [← Nat.xor_assoc, ← Nat.xor_assoc, Nat.xor_comm b c]
theorem ite_xor (p q : Bool) (g : Nat) : (if (p ^^ q) = true then g else 0) = (if p = true then g else 0) ^^^ (if q = true then g else 0) := by
  cases p <;> cases q <;> simp
theorem G_xor (a b : Nat) : G (a ^^^ b) = G a ^^^ G b := by
  unfold G
  simp only [Nat.testBit_xor, ite_xor]
  generalize (if a.testBit 0 = true then 996825010 else 0) = a0
  generalize (if a.testBit 1 = true then 642813549 else 0) = a1
  generalize (if a.testBit 2 = true then 513874426 else 0) = a2
  generalize (if a.testBit 3 = true then 1027748829 else 0) = a3
  generalize (if a.testBit 4 = true then 705979059 else 0) = a4
  generalize (if b.testBit 0 = true then 996825010 else 0) = b0
  generalize (if b.testBit 1 = true then 642813549 else 0) = b1
  generalize (if b.testBit 2 = true then 513874426 else 0) = b2
  generalize (if b.testBit 3 = true then 1027748829 else 0) = b3
  generalize (if b.testBit 4 = true then 705979059 else 0) = b4
  rw [xx a0 b0 a1 b1, xx (a0 ^^^ a1), xx (a0 ^^^ a1 ^^^ a2), xx (a0 ^^^ a1 ^^^ a2 ^^^ a3)]
theorem Ln_xor (a b : Nat) : Ln (a ^^^ b) = Ln a ^^^ Ln b := by
  unfold Ln
  rw [Nat.and_xor_distrib_right, Nat.shiftLeft_xor_distrib, Nat.shiftRight_xor_distrib, G_xor, xx]
theorem Ln_0 : Ln 0 = 0 := by decide
theorem G_small {c : Nat} (h : c < 33554432) : G (c >>> 25) = 0 := by
  have : c >>> 25 = 0 := by rw [Nat.shiftRight_eq_div_pow]; omega
  rw [this]; rfl
theorem Ln_small {c : Nat} (h : c < 33554432) : Ln c = c * 32 := by
  unfold Ln
  rw [G_small h, Nat.xor_zero, Nat.shiftLeft_eq, show 33554431 = 2 ^ 25 - 1 from rfl, Nat.and_two_pow_sub_one_eq_mod, Nat.mod_eq_of_lt h]
end Mine
namespace Mine
theorem fdivp (c k : Nat) : ((c : Nat) : Int).fdiv (2 ^ k) = ((c >>> k : Nat) : Int) := by
  rw [Int.fdiv_eq_ediv_of_nonneg _ (Int.le_of_lt (Int.pow_pos (by decide))), Nat.shiftRight_eq_div_pow]
  simp
end Mine
namespace Mine
def gensN : List Nat := [996825010, 642813549, 513874426, 1027748829, 705979059]
theorem gens_nat (i : Nat) : gens.getD i 0 = ((gensN.getD i 0 : Nat) : Int) := by
  by_cases h : i < 5
  · have : i = 0 ∨ i = 1 ∨ i = 2 ∨ i = 3 ∨ i = 4 := by omega
    rcases this with rfl | rfl | rfl | rfl | rfl <;> rfl
  · rw [List.getD_eq_getElem?_getD, List.getD_eq_getElem?_getD, List.getElem?_eq_none (by show 5 ≤ i; omega), List.getElem?_eq_none (by show 5 ≤ i; omega)]; rfl
theorem pmBit_nat (t i : Nat) : pmBit (t : Int) (i : Int) = (((if t.testBit i = true then gensN.getD i 0 else 0 : Nat)) : Int) := by
  unfold pmBit
  rw [Int.toNat_natCast, fdivp, show (1 : Int) = ((1 : Nat) : Int) from rfl, ba, gens_nat]
  have e : t.testBit i = ((1 &&& (t >>> i)) != 0) := rfl
  rw [e, Nat.and_comm 1]
  by_cases h : t >>> i &&& 1 = 0
  · rw [if_neg (by rw [h]; decide), if_neg (by rw [h]; decide)]; rfl
  · rw [if_pos (by omega), if_pos (by simpa using h)]
theorem pmStep_nat (c v : Nat) : pmStep (c : Int) (v : Int) = ((Ln c ^^^ v : Nat) : Int) := by
  unfold pmStep
  have e5 : Builtin.bitAnd (c : Int) 33554431 * (2 : Int) ^ 5 = (((c &&& 33554431) <<< 5 : Nat) : Int) := by
    rw [show (33554431 : Int) = ((33554431 : Nat) : Int) from rfl, ba, Nat.shiftLeft_eq]; simp
  rw [e5, bx, fdivp]
  unfold pmIn
  simp only [List.foldl_cons, List.foldl_nil]
  rw [show (0 : Int) = ((0 : Nat) : Int) from rfl, show (1 : Int) = ((1 : Nat) : Int) from rfl, show (2 : Int) = ((2 : Nat) : Int) from rfl, show (3 : Int) = ((3 : Nat) : Int) from rfl, show (4 : Int) = ((4 : Nat) : Int) from rfl]
  simp only [pmBit_nat, bx]
  congr 1
  unfold Ln G
  simp only [gensN, List.getD_cons_zero, List.getD_cons_succ]
  ac_rfl
theorem pm_fold_nat (vs : List Nat) : ∀ c : Nat, (vs.map (Int.ofNat ·)).foldl pmStep (c : Int) = ((vs.foldl (fun c v => Ln c ^^^ v) c : Nat) : Int) := by
  induction vs with
  | nil => intro c; rfl
  | cons v vs ih => intro c; rw [List.map_cons, List.foldl_cons, List.foldl_cons]; rw [show Int.ofNat v = (v : Int) from rfl, pmStep_nat, ih]
theorem pm_nat (vs : List Nat) : pm (vs.map (Int.ofNat ·)) = ((pmN vs : Nat) : Int) := by
  unfold pm; exact pm_fold_nat vs 1
end Mine
namespace Mine
/-- the state after the fives vs, from the state c -/
def go (c : Nat) (vs : List Nat) : Nat := vs.foldl (fun c v => Ln c ^^^ v) c
theorem pmN_go (vs : List Nat) : pmN vs = go 1 vs := rfl
theorem go_app (c : Nat) (a b : List Nat) : go c (a ++ b) = go (go c a) b := by unfold go; rw [List.foldl_append]
theorem go_cons (c v : Nat) (b : List Nat) : go c (v :: b) = go (Ln c ^^^ v) b := rfl
theorem go_nil (c : Nat) : go c [] = c := rfl
/-- n steps without new fives -/
def Lk : Nat → Nat → Nat
  | 0, c => c
  | n + 1, c => Lk n (Ln c)
theorem Lk_xor (n : Nat) : ∀ a b, Lk n (a ^^^ b) = Lk n a ^^^ Lk n b := by
  induction n with
  | zero => intro a b; rfl
  | succ n ih => intro a b; show Lk n (Ln (a ^^^ b)) = _; rw [Ln_xor, ih]; rfl
theorem Lk_Ln (n : Nat) : ∀ c, Lk n (Ln c) = Ln (Lk n c) := by
  induction n with
  | zero => intro c; rfl
  | succ n ih => intro c; show Lk n (Ln (Ln c)) = Ln (Lk n (Ln c)); rw [ih]
theorem Lk_0 (n : Nat) : Lk n 0 = 0 := by
  induction n with
  | zero => rfl
  | succ n ih => show Lk n (Ln 0) = 0; rw [Ln_0, ih]
theorem go_zeros (n : Nat) : ∀ c, go c (List.replicate n 0) = Lk n c := by
  induction n with
  | zero => intro c; rfl
  | succ n ih => intro c; rw [List.replicate_succ, go_cons, Nat.xor_zero, ih]; rfl
/-- C: zeros put ahead of the last five -/
theorem put_finite : ∀ k : Fin 19, ∀ U : Fin 32, Lk (k.val + 1) U.val = U.val → U.val = 0 := by decide +kernel
theorem put_law {s c5 put : Nat} (h : go s [c5] = 1) (h5 : c5 < 32) (hp : 1 ≤ put) (hp' : put ≤ 19) : go s (List.replicate put 0 ++ [c5]) = 1 ↔ c5 = 1 := by
  have e1 : Ln s = 1 ^^^ c5 := by
    have h' : Ln s ^^^ c5 = 1 := h
    rw [← h', Nat.xor_assoc, Nat.xor_self, Nat.xor_zero]
  have hU : 1 ^^^ c5 < 32 := Nat.xor_lt_two_pow (n := 5) (by decide) h5
  rw [go_app, go_zeros]
  show Ln (Lk put s) ^^^ c5 = 1 ↔ _
  rw [← Lk_Ln, e1]
  constructor
  · intro h2
    have h3 : Lk put (1 ^^^ c5) = 1 ^^^ c5 := by
      have h9 := congrArg (· ^^^ c5) h2
      simpa [Nat.xor_assoc] using h9
    have h4 := put_finite ⟨put - 1, by omega⟩ ⟨1 ^^^ c5, hU⟩ (by simpa [Nat.sub_add_cancel hp] using h3)
    have h4' : 1 ^^^ c5 = 0 := h4
    have : 1 ^^^ (1 ^^^ c5) = 1 ^^^ 0 := by rw [h4']
    rw [← Nat.xor_assoc, Nat.xor_self, Nat.zero_xor, Nat.xor_zero] at this
    exact this
  · intro h2
    subst h2
    rw [Nat.xor_self, Lk_0]; rfl
end Mine
namespace Mine
theorem go_lin (ds : List Nat) : ∀ a, go a ds = Lk ds.length a ^^^ go 0 ds := by
  induction ds with
  | nil => intro a; show a = a ^^^ 0; rw [Nat.xor_zero]
  | cons v ds ih =>
    intro a
    rw [go_cons, go_cons, ih (Ln a ^^^ v), ih (Ln 0 ^^^ v), Ln_0, Nat.zero_xor, Lk_xor, Nat.xor_assoc]
    rfl
theorem low_xor (a d : Nat) (h : d < 32) : a * 32 ^^^ d = a * 32 + d := by
  have h1 := xor_add (a * 32) d
  have h2 : a * 32 &&& d = 0 := by
    have e : d = 31 &&& d := by
      rw [Nat.and_comm, show 31 = 2 ^ 5 - 1 from rfl, Nat.and_two_pow_sub_one_eq_mod, Nat.mod_eq_of_lt h]
    rw [e, ← Nat.and_assoc, show 31 = 2 ^ 5 - 1 from rfl, Nat.and_two_pow_sub_one_eq_mod]
    simp
  omega
theorem Ln_lt (c : Nat) : Ln c < 2 ^ 30 := by
  unfold Ln
  refine Nat.xor_lt_two_pow ?_ ?_
  · rw [Nat.shiftLeft_eq, show 33554431 = 2 ^ 25 - 1 from rfl, Nat.and_two_pow_sub_one_eq_mod]
    have := Nat.mod_lt c (show 0 < 2 ^ 25 by decide)
    omega
  · unfold G
    refine Nat.xor_lt_two_pow (Nat.xor_lt_two_pow (Nat.xor_lt_two_pow (Nat.xor_lt_two_pow ?_ ?_) ?_) ?_) ?_ <;> (split <;> decide)
/-- the six digits of a number of thirty bits -/
def digs (q : Nat) : List Nat := [q / 33554432 % 32, q / 1048576 % 32, q / 32768 % 32, q / 1024 % 32, q / 32 % 32, q % 32]
theorem go_step {c v : Nat} (h : c < 33554432) (hv : v < 32) : Ln c ^^^ v = c * 32 + v := by rw [Ln_small h, low_xor _ _ hv]
theorem go_digs {q : Nat} (h : q < 2 ^ 30) : go 0 (digs q) = q := by
  unfold digs
  simp only [go_cons, go_nil, Ln_0, Nat.zero_xor]
  have s1 : Ln (q / 33554432 % 32) ^^^ (q / 1048576 % 32) = q / 1048576 % 1024 := by rw [go_step (by omega) (by omega)]; omega
  have s2 : Ln (q / 1048576 % 1024) ^^^ (q / 32768 % 32) = q / 32768 % 32768 := by rw [go_step (by omega) (by omega)]; omega
  have s3 : Ln (q / 32768 % 32768) ^^^ (q / 1024 % 32) = q / 1024 % 1048576 := by rw [go_step (by omega) (by omega)]; omega
  have s4 : Ln (q / 1024 % 1048576) ^^^ (q / 32 % 32) = q / 32 % 33554432 := by rw [go_step (by omega) (by omega)]; omega
  rw [s1, s2, s3, s4, go_step (by omega) (by omega)]
  omega
/-- B: the made checksum holds -/
theorem check_law (s : Nat) : go s (digs (Lk 6 s ^^^ 1)) = 1 := by
  have hlt : Lk 6 s ^^^ 1 < 2 ^ 30 := by
    refine Nat.xor_lt_two_pow ?_ (by decide)
    rw [show Lk 6 s = Lk 5 (Ln s) from rfl, Lk_Ln]; exact Ln_lt _
  rw [go_lin, go_digs hlt]
  show Lk 6 s ^^^ (Lk 6 s ^^^ 1) = 1
  rw [← Nat.xor_assoc, Nat.xor_self, Nat.zero_xor]
end Mine
namespace Mine
theorem low5 (x y : Nat) : (x ^^^ y) &&& 31 = (x &&& 31) ^^^ (y &&& 31) := Nat.and_xor_distrib_right
theorem and31 (x : Nat) : x &&& 31 = x % 32 := by rw [show 31 = 2 ^ 5 - 1 from rfl, Nat.and_two_pow_sub_one_eq_mod]
/-- A: the law's multiplier makes the last five of the checksum -/
theorem times_finite : ∀ y : Fin 32, Lk 6 (times 17 (y.val : Int)).toNat % 32 = y.val := by decide +kernel
theorem last_law (s z : Nat) : (Lk 6 (s ^^^ z) ^^^ 1) % 32 = ((Lk 6 s ^^^ 1) % 32) ^^^ (Lk 6 z % 32) := by
  rw [Lk_xor, ← and31, ← and31, ← and31, Nat.xor_assoc, Nat.xor_comm (Lk 6 z) 1, ← Nat.xor_assoc, low5]
end Mine
namespace Mine
def expandN (fl : List Nat) : List Nat := fl.map (· / 32) ++ [0] ++ fl.map (· % 32)
theorem expand_nat (fl : List Nat) : expand fl = (expandN fl).map (Int.ofNat ·) := by
  unfold expand expandN
  simp only [List.map_append, List.map_map, List.map_cons, List.map_nil]
  rfl
theorem dig_nat (q k : Nat) : Builtin.bitAnd ((q : Int).fdiv (2 ^ k)) 31 = ((q / 2 ^ k % 32 : Nat) : Int) := by
  rw [fdivp, bitAnd_m5, Nat.shiftRight_eq_div_pow]; omega
theorem create_nat (fl : List Nat) (ns : List Nat) : create fl (ns.map (Int.ofNat ·)) = (digs (pmN (expandN fl ++ ns ++ [0, 0, 0, 0, 0, 0]) ^^^ 1)).map (Int.ofNat ·) := by
  unfold create
  have e : expand fl ++ ns.map (Int.ofNat ·) ++ [0, 0, 0, 0, 0, 0] = (expandN fl ++ ns ++ [0, 0, 0, 0, 0, 0]).map (Int.ofNat ·) := by
    rw [expand_nat, List.map_append, List.map_append]; rfl
  rw [e, pm_nat, show (1 : Int) = ((1 : Nat) : Int) from rfl, bx]
  have e2 : PySem.W.rangeKs 0 (6 - 0 : Int).toNat = [0, 1, 2, 3, 4, 5] := by decide
  rw [e2]
  unfold digs
  generalize pmN (expandN fl ++ ns ++ [0, 0, 0, 0, 0, 0]) ^^^ 1 = q
  simp only [List.map_cons, List.map_nil, dig_nat]
  rw [show (2 ^ (5 * (5 - 5) : Int).toNat : Nat) = 1 from by decide, Nat.div_one]
  rfl
theorem go6 (c : Nat) (vs : List Nat) : go c (vs ++ [0, 0, 0, 0, 0, 0]) = Lk 6 (go c vs) := by
  rw [go_app]; exact go_zeros 6 _
/-- B: a text made by encode holds -/
theorem made_holds (fl : List Nat) (ns : List Nat) : pm (expand fl ++ (ns.map (Int.ofNat ·) ++ create fl (ns.map (Int.ofNat ·)))) = 1 := by
  rw [create_nat, expand_nat, ← List.map_append, ← List.map_append, pm_nat, pmN_go, pmN_go, go6, ← List.append_assoc, go_app, check_law]; rfl
end Mine
namespace Mine
theorem toNat_list {ns : List Int} (hv : ∀ x ∈ ns, 0 ≤ x ∧ x < 32) : ns = (ns.map Int.toNat).map (Int.ofNat ·) := by
  rw [List.map_map]
  conv => lhs; rw [← List.map_id ns]
  exact List.map_congr_left fun x hx => by
    have := hv x hx
    show x = Int.ofNat x.toNat
    simp only [Int.ofNat_eq_natCast]; omega
/-- B for fives as the law has them -/
theorem made_holds' (fl : List Nat) {ns : List Int} (hv : ∀ x ∈ ns, 0 ≤ x ∧ x < 32) : pm (expand fl ++ (ns ++ create fl ns)) = 1 := by
  rw [toNat_list hv]; exact made_holds fl _
theorem times_A (y : Nat) (h : y < 32) : Lk 6 (times 17 (y : Int)).toNat % 32 = y := times_finite ⟨y, h⟩
end Mine
namespace Mine
def chkN (fl : List Nat) (ns : List Nat) : List Nat := digs (pmN (expandN fl ++ ns ++ [0, 0, 0, 0, 0, 0]) ^^^ 1)
theorem made_nat (fl ns : List Nat) : go 1 (expandN fl ++ (ns ++ chkN fl ns)) = 1 := by
  unfold chkN
  rw [pmN_go, go6, ← List.append_assoc, go_app, check_law]
theorem digs_split (q : Nat) : digs q = (digs q).take 5 ++ [(digs q).getD 5 0] := rfl
theorem digs_last (q : Nat) : (digs q).getD 5 0 = q % 32 := rfl
theorem put_nat (fl ns : List Nat) (put : Nat) (hp : 1 ≤ put) (hp' : put ≤ 19) :
    go 1 (expandN fl ++ (ns ++ (chkN fl ns).take 5 ++ List.replicate put 0 ++ [(chkN fl ns).getD 5 0])) = 1 ↔ (chkN fl ns).getD 5 0 = 1 := by
  have h := made_nat fl ns
  have e : chkN fl ns = (chkN fl ns).take 5 ++ [(chkN fl ns).getD 5 0] := digs_split _
  have h5 : (chkN fl ns).getD 5 0 < 32 := by unfold chkN; rw [digs_last]; omega
  rw [e, ← List.append_assoc, ← List.append_assoc, go_app] at h
  rw [show expandN fl ++ (ns ++ (chkN fl ns).take 5 ++ List.replicate put 0 ++ [(chkN fl ns).getD 5 0]) = expandN fl ++ ns ++ (chkN fl ns).take 5 ++ (List.replicate put 0 ++ [(chkN fl ns).getD 5 0]) by simp only [List.append_assoc], go_app]
  exact put_law h h5 hp hp'
theorem put_law' (fl : List Nat) {ns : List Int} (hv : ∀ x ∈ ns, 0 ≤ x ∧ x < 32) (put : Nat) (hp : 1 ≤ put) (hp' : put ≤ 19) :
    pm (expand fl ++ (ns ++ (create fl ns).take 5 ++ List.replicate put 0 ++ [(create fl ns).getD 5 0])) = 1 ↔ (create fl ns).getD 5 0 = 1 := by
  have hc : create fl ns = (chkN fl (ns.map Int.toNat)).map (Int.ofNat ·) := by
    conv => lhs; rw [toNat_list hv]
    exact create_nat fl _
  have hg : (create fl ns).getD 5 0 = ((chkN fl (ns.map Int.toNat)).getD 5 0 : Nat) := by rw [hc]; rfl
  have ht : (create fl ns).take 5 = ((chkN fl (ns.map Int.toNat)).take 5).map (Int.ofNat ·) := by rw [hc, List.map_take]
  have e : expand fl ++ (ns ++ (create fl ns).take 5 ++ List.replicate put 0 ++ [(create fl ns).getD 5 0]) = (expandN fl ++ (ns.map Int.toNat ++ (chkN fl (ns.map Int.toNat)).take 5 ++ List.replicate put 0 ++ [(chkN fl (ns.map Int.toNat)).getD 5 0])).map (Int.ofNat ·) := by
    rw [ht, hg, expand_nat]
    conv => lhs; rw [toNat_list hv]
    simp only [List.map_append, List.map_cons, List.map_nil, List.map_replicate]
    rw [← toNat_list hv]
    rfl
  rw [e, pm_nat, hg, pmN_go]
  have h := put_nat fl (ns.map Int.toNat) put hp hp'
  omega
end Mine
namespace Mine
theorem chk_last (fl ns : List Nat) (z : Nat) : (chkN fl (ns ++ [z])).getD 5 0 = (Lk 6 (Ln (go 1 (expandN fl ++ ns)) ^^^ z) ^^^ 1) % 32 := by
  unfold chkN
  rw [digs_last, pmN_go, go6, ← List.append_assoc, go_app 1 _ [z], go_cons, go_nil]
theorem forced_nat (fl ns : List Nat) : (chkN fl (ns ++ [(times 17 ((((chkN fl (ns ++ [0])).getD 5 0 ^^^ 1 : Nat)) : Int)).toNat])).getD 5 0 = 1 := by
  have h0 := chk_last fl ns 0
  rw [Nat.xor_zero] at h0
  have hp : (chkN fl (ns ++ [0])).getD 5 0 < 32 := by rw [h0]; omega
  have hy : (chkN fl (ns ++ [0])).getD 5 0 ^^^ 1 < 32 := Nat.xor_lt_two_pow (n := 5) hp (by decide)
  rw [chk_last, last_law, times_A _ hy, ← h0, ← Nat.xor_assoc, Nat.xor_self, Nat.zero_xor]
theorem create_chk (fl : List Nat) {ns : List Int} (hv : ∀ x ∈ ns, 0 ≤ x ∧ x < 32) : create fl ns = (chkN fl (ns.map Int.toNat)).map (Int.ofNat ·) := by
  conv => lhs; rw [toNat_list hv]
  exact create_nat fl _
theorem chk_getD (l : List Nat) (i : Nat) : (l.map (Int.ofNat ·)).getD i 0 = ((l.getD i 0 : Nat) : Int) := by
  rw [List.getD_eq_getElem?_getD, List.getElem?_map, List.getD_eq_getElem?_getD]
  cases l[i]? <;> rfl
theorem forced_law (fl : List Nat) {ns : List Int} (hv : ∀ x ∈ ns, 0 ≤ x ∧ x < 32) :
    (create fl (ns ++ [times 17 (Builtin.bitXor ((create fl (ns ++ [0])).getD 5 0) 1)])).getD 5 0 = 1 := by
  have h0 : ∀ x ∈ ns ++ [0], 0 ≤ x ∧ x < 32 := fun x hx => by
    rcases List.mem_append.mp hx with h | h
    · exact hv x h
    · rw [List.mem_singleton.mp h]; decide
  have h1 : ∀ y, ∀ x ∈ ns ++ [times 17 y], 0 ≤ x ∧ x < 32 := fun y x hx => by
    rcases List.mem_append.mp hx with h | h
    · exact hv x h
    · rw [List.mem_singleton.mp h]
      unfold times
      split
      · decide
      · exact getD_rng (by decide) _
  rw [create_chk fl h0, chk_getD, show (1 : Int) = ((1 : Nat) : Int) from rfl, bx, create_chk fl (h1 _), chk_getD]
  rw [List.map_append, List.map_append]
  have h := forced_nat fl (ns.map Int.toNat)
  have e : (List.map Int.toNat [0] : List Nat) = [0] := rfl
  rw [e, List.map_cons, List.map_nil, h]
theorem forcedFs_law (fl : List Nat) {version : Int} {fs : List Int} (hver : 0 ≤ version ∧ version ≤ 16) (hf : ∀ x ∈ fs, 0 ≤ x ∧ x < 32) :
    (create fl ([version] ++ (fs.take (fs.length - 1) ++ [times 17 (Builtin.bitXor ((create fl ([version] ++ fs.take (fs.length - 1) ++ [0])).getD 5 0) 1)]))).getD 5 0 = 1 := by
  have hv : ∀ x ∈ [version] ++ fs.take (fs.length - 1), 0 ≤ x ∧ x < 32 := fun x hx => by
    rcases List.mem_append.mp hx with h | h
    · rw [List.mem_singleton.mp h]; omega
    · exact hf x (List.mem_of_mem_take h)
  rw [← List.append_assoc]
  exact forced_law fl hv
end Mine
end
section
open PySem PyProof.Rows
namespace Mine
theorem sgn_p32 : ∀ k : Fin 32, charset.getD k.val 0 = 112 → k.val = 1 := by decide +kernel
theorem sgn_p {k : Int} (h0 : 0 ≤ k) (h1 : k < 32) : sgn k = 112 ↔ k = 1 := by
  constructor
  · intro h
    have h2 := sgn_p32 ⟨k.toNat, by omega⟩ (by unfold sgn at h; exact h)
    have : k.toNat = 1 := h2
    omega
  · intro h; subst h; unfold sgn; decide
theorem sgn_q : sgn 0 = 113 := by unfold sgn; decide
/-- the fives, read as a function -/
def A (v : Nat → Int) : Nat → Int
  | 0 => 0
  | k + 1 => (A v k * 32 + v k) % 4096
theorem A_rng (v : Nat → Int) (k : Nat) : 0 ≤ A v k ∧ A v k < 4096 := by
  cases k with
  | zero => exact ⟨Int.le_refl 0, (by decide : (0 : Int) < 4096)⟩
  | succ k => show 0 ≤ (A v k * 32 + v k) % 4096 ∧ (A v k * 32 + v k) % 4096 < 4096; omega
theorem bor_low {a v : Int} (ha : 0 ≤ a) (h0 : 0 ≤ v) (h1 : v < 32) : Builtin.bitOr (a * 2 ^ 5) v = a * 32 + v := by
  rw [bitOr_and]
  have h2 : Builtin.bitAnd (a * 2 ^ 5) v = 0 := by
    have e1 : a * 2 ^ 5 = ((a.toNat * 32 : Nat) : Int) := by rw [show (2 : Int) ^ 5 = 32 from rfl]; omega
    have e2 : v = ((v.toNat : Nat) : Int) := by omega
    rw [e1, e2, ba]
    have e : v.toNat = 31 &&& v.toNat := by
      rw [Nat.and_comm, show 31 = 2 ^ 5 - 1 from rfl, Nat.and_two_pow_sub_one_eq_mod, Nat.mod_eq_of_lt (by omega)]
    rw [e, ← Nat.and_assoc, show 31 = 2 ^ 5 - 1 from rfl, Nat.and_two_pow_sub_one_eq_mod]
    simp
  rw [h2, show (2 : Int) ^ 5 = 32 from rfl]; omega
theorem band_4095 (x : Int) (h : 0 ≤ x) : Builtin.bitAnd x 4095 = x % 4096 := by
  rw [bitAnd_pp h (by decide), show (4095 : Int).toNat = 2 ^ 12 - 1 from rfl, Nat.and_two_pow_sub_one_eq_mod]; omega
end Mine
namespace Mine
/-- the octets written after k fives -/
def R (v : Nat → Int) : Nat → List Int
  | 0 => []
  | k + 1 => if 3 ≤ 5 * k % 8 then R v k ++ [A v (k + 1) / 2 ^ (5 * (k + 1) % 8) % 256] else R v k
theorem cbStep_A {v : Nat → Int} {k : Nat} (h0 : 0 ≤ v k) (h1 : v k < 32) : cbStep ⟨A v k, ((5 * k % 8 : Nat) : Int), R v k⟩ (v k) = ⟨A v (k + 1), ((5 * (k + 1) % 8 : Nat) : Int), R v (k + 1)⟩ := by
  have hA := A_rng v k
  have hA1 := A_rng v (k + 1)
  have e : Builtin.bitAnd (Builtin.bitOr (A v k * 2 ^ 5) (v k)) 4095 = A v (k + 1) := by
    rw [bor_low hA.1 h0 h1, band_4095 _ (by omega)]; rfl
  unfold cbStep
  dsimp only
  rw [e]
  by_cases hb : 3 ≤ 5 * k % 8
  · have hn : (((5 * k % 8 : Nat) : Int) + 5 - 8) = ((5 * (k + 1) % 8 : Nat) : Int) := by omega
    rw [if_pos (by omega), hn, Int.toNat_natCast, Int.fdiv_eq_ediv_of_nonneg _ (Int.le_of_lt (Int.pow_pos (by decide))), bitAnd_m8]
    have hR : R v (k + 1) = R v k ++ [A v (k + 1) / 2 ^ (5 * (k + 1) % 8) % 256] := by
      show (if 3 ≤ 5 * k % 8 then _ else _) = _
      rw [if_pos hb]
    rw [hR]
  · rw [if_neg (by omega)]
    have hR : R v (k + 1) = R v k := by
      show (if 3 ≤ 5 * k % 8 then _ else _) = _
      rw [if_neg hb]
    rw [hR]
    congr 1
    omega
theorem cb_take {ns : List Int} (hv : ∀ x ∈ ns, 0 ≤ x ∧ x < 32) : ∀ k, k ≤ ns.length → cb (ns.take k) = ⟨A (fun i => ns.getD i 0) k, ((5 * k % 8 : Nat) : Int), R (fun i => ns.getD i 0) k⟩ := by
  intro k
  induction k with
  | zero => intro _; rw [List.take_zero, cb_nil]; rfl
  | succ k ih =>
    intro hk
    have hlt : k < ns.length := by omega
    have e : ns.take (k + 1) = ns.take k ++ [ns.getD k 0] := by
      rw [List.take_add_one, List.getD_eq_getElem?_getD, List.getElem?_eq_getElem hlt]; rfl
    have hr := getD_rng hv k
    rw [e, cb_snoc, ih (by omega), cbStep_A (v := fun i => ns.getD i 0) hr.1 hr.2]
end Mine
namespace Mine
theorem win_eq (ns : List Int) (j b : Nat) (hb : b ≤ 4) :
    window ns (5 * (j : Int) + b) = (((ns.getD j 0 * 32 + ns.getD (j + 1) 0) * 32 + ns.getD (j + 2) 0).fdiv (twos.getD (7 - b) 0)).fmod 256 := by
  unfold window
  have e1 : (5 * (j : Int) + b).fdiv 5 = j := by rw [Int.fdiv_eq_ediv_of_nonneg _ (by decide)]; omega
  have e2 : (5 * (j : Int) + b).fmod 5 = b := by rw [Int.fmod_eq_emod_of_nonneg _ (by decide)]; omega
  rw [e1, e2, winF3]
  have e3 : ((7 : Int) - b).toNat = 7 - b := by omega
  rw [e3, show ((j : Int) + 0).toNat = j by omega, show ((j : Int) + 1).toNat = j + 1 by omega, show ((j : Int) + 2).toNat = j + 2 by omega]
theorem oct_window {ns : List Int} (hv : ∀ x ∈ ns, 0 ≤ x ∧ x < 32) (k : Nat) (h3 : 3 ≤ 5 * k % 8) :
    A (fun i => ns.getD i 0) (k + 1) / 2 ^ (5 * (k + 1) % 8) % 256 = window ns (8 * (5 * (k + 1) / 8 - 1 : Nat)) := by
  have hr := getD_rng hv
  by_cases hb : 5 * (k + 1) % 8 ≤ 2
  · obtain ⟨j, rfl⟩ : ∃ j, k = j + 1 := ⟨k - 1, by omega⟩
    have hx : ((8 * (5 * (j + 1 + 1) / 8 - 1 : Nat) : Nat) : Int) = 5 * (j : Int) + ((2 - 5 * (j + 1 + 1) % 8 : Nat) : Int) := by omega
    have hx' : (8 * ((5 * (j + 1 + 1) / 8 - 1 : Nat) : Int)) = 5 * (j : Int) + ((2 - 5 * (j + 1 + 1) % 8 : Nat) : Int) := by omega
    rw [hx', win_eq ns j _ (by omega)]
    have h0 := hr j
    have h1 := hr (j + 1)
    have h2 := hr (j + 2)
    have ha := A_rng (fun i => ns.getD i 0) j
    have eA : A (fun i => ns.getD i 0) (j + 1 + 1) = ((A (fun i => ns.getD i 0) j * 32 + ns.getD j 0) % 4096 * 32 + ns.getD (j + 1) 0) % 4096 := rfl
    rw [eA]
    generalize A (fun i => ns.getD i 0) j = a at *
    generalize ns.getD j 0 = p at *
    generalize ns.getD (j + 1) 0 = q at *
    generalize ns.getD (j + 2) 0 = r at *
    have hc : 5 * (j + 1 + 1) % 8 = 0 ∨ 5 * (j + 1 + 1) % 8 = 1 ∨ 5 * (j + 1 + 1) % 8 = 2 := by omega
    rw [Int.fmod_eq_emod_of_nonneg _ (by decide)]
    rcases hc with h | h | h <;> rw [h]
    · rw [show twos.getD (7 - (2 - 0)) 0 = 32 from rfl, Int.fdiv_eq_ediv_of_nonneg _ (by decide)]; omega
    · rw [show twos.getD (7 - (2 - 1)) 0 = 64 from rfl, Int.fdiv_eq_ediv_of_nonneg _ (by decide)]; omega
    · rw [show twos.getD (7 - (2 - 2)) 0 = 128 from rfl, Int.fdiv_eq_ediv_of_nonneg _ (by decide)]; omega
  · have hk2 : 2 ≤ k := by
      rcases k with _ | _ | k
      · omega
      · omega
      · omega
    obtain ⟨j, rfl⟩ : ∃ j, k = j + 2 := ⟨k - 2, by omega⟩
    have hc : 5 * (j + 2 + 1) % 8 = 3 ∨ 5 * (j + 2 + 1) % 8 = 4 := by
      have e : 5 * (j + 2 + 1) % 8 = (5 * (j + 2) % 8 + 5) % 8 := by omega
      have hm : 5 * (j + 2) % 8 < 8 := Nat.mod_lt _ (by decide)
      generalize 5 * (j + 2) % 8 = m at h3 e hm
      generalize 5 * (j + 2 + 1) % 8 = m' at hb e ⊢
      clear hr hv
      omega
    have hx' : (8 * ((5 * (j + 2 + 1) / 8 - 1 : Nat) : Int)) = 5 * (j : Int) + ((7 - 5 * (j + 2 + 1) % 8 : Nat) : Int) := by omega
    rw [hx', win_eq ns j _ (by omega)]
    have h0 := hr j
    have h1 := hr (j + 1)
    have h2 := hr (j + 2)
    have ha := A_rng (fun i => ns.getD i 0) j
    have eA : A (fun i => ns.getD i 0) (j + 2 + 1) = (((A (fun i => ns.getD i 0) j * 32 + ns.getD j 0) % 4096 * 32 + ns.getD (j + 1) 0) % 4096 * 32 + ns.getD (j + 2) 0) % 4096 := rfl
    rw [eA]
    generalize A (fun i => ns.getD i 0) j = a at *
    generalize ns.getD j 0 = p at *
    generalize ns.getD (j + 1) 0 = q at *
    generalize ns.getD (j + 2) 0 = r at *
    rw [Int.fmod_eq_emod_of_nonneg _ (by decide)]
    rcases hc with h | h <;> rw [h]
    · rw [show twos.getD (7 - (7 - 3)) 0 = 8 from rfl, Int.fdiv_eq_ediv_of_nonneg _ (by decide)]; omega
    · rw [show twos.getD (7 - (7 - 4)) 0 = 16 from rfl, Int.fdiv_eq_ediv_of_nonneg _ (by decide)]; omega
end Mine
namespace Mine
theorem R_eq {ns : List Int} (hv : ∀ x ∈ ns, 0 ≤ x ∧ x < 32) : ∀ k, R (fun i => ns.getD i 0) k = (PySem.W.rangeKs 0 (5 * k / 8)).map fun p => window ns (8 * p) := by
  intro k
  induction k with
  | zero => rfl
  | succ k ih =>
    show (if 3 ≤ 5 * k % 8 then R (fun i => ns.getD i 0) k ++ [A (fun i => ns.getD i 0) (k + 1) / 2 ^ (5 * (k + 1) % 8) % 256] else R (fun i => ns.getD i 0) k) = _
    by_cases h : 3 ≤ 5 * k % 8
    · rw [if_pos h, ih, oct_window hv k h]
      have e : 5 * (k + 1) / 8 = 5 * k / 8 + 1 := by omega
      rw [e]
      unfold PySem.W.rangeKs
      rw [List.range_succ, List.map_append, List.map_append]
      simp
    · rw [if_neg h, ih]
      have e : 5 * (k + 1) / 8 = 5 * k / 8 := by omega
      rw [e]
theorem conv_eq {ns : List Int} (hv : ∀ x ∈ ns, 0 ≤ x ∧ x < 32) (h1 : 1 ≤ ns.length) : conv ns = octets ns := by
  have hc := cb_take hv ns.length (Nat.le_refl _)
  rw [List.take_length] at hc
  have hA := A_rng (fun i => ns.getD i 0) ns.length
  have hl := getD_rng hv (ns.length - 1)
  have hlast : A (fun i => ns.getD i 0) ns.length = (A (fun i => ns.getD i 0) (ns.length - 1) * 32 + ns.getD (ns.length - 1) 0) % 4096 := by
    conv => lhs; rw [show ns.length = (ns.length - 1) + 1 by omega]
    rfl
  have hrest : (5 * (ns.length : Int)).fmod 8 = ((5 * ns.length % 8 : Nat) : Int) := by rw [Int.fmod_eq_emod_of_nonneg _ (by decide)]; omega
  have hdiv : ((5 * (ns.length : Int)).fdiv 8 - 0).toNat = 5 * ns.length / 8 := by rw [Int.fdiv_eq_ediv_of_nonneg _ (by decide)]; omega
  unfold conv octets
  rw [hc, hrest, hdiv, ← R_eq hv]
  dsimp only
  generalize R (fun i => ns.getD i 0) ns.length = os
  have key : (5 ≤ ((5 * ns.length % 8 : Nat) : Int) ∨ Builtin.bitAnd (A (fun i => ns.getD i 0) ns.length * 2 ^ (8 - ((5 * ns.length % 8 : Nat) : Int)).toNat) 255 ≠ 0) ↔
      (5 ≤ ((5 * ns.length % 8 : Nat) : Int) ∨ (0 < ((5 * ns.length % 8 : Nat) : Int) ∧ 0 < (ns.getD (ns.length - 1) 0).fmod (twos.getD (((5 * ns.length % 8 : Nat) : Int)).toNat 0))) := by
    rw [bitAnd_m8, hlast]
    have ha := A_rng (fun i => ns.getD i 0) (ns.length - 1)
    generalize A (fun i => ns.getD i 0) (ns.length - 1) = a at *
    generalize ns.getD (ns.length - 1) 0 = q at *
    have hb : 5 * ns.length % 8 < 8 := Nat.mod_lt _ (by decide)
    generalize 5 * ns.length % 8 = b at *
    clear hlast hc hrest hdiv hA hv
    by_cases h5 : 5 ≤ b
    · constructor <;> (intro _; left; omega)
    · have hcases : b = 0 ∨ b = 1 ∨ b = 2 ∨ b = 3 ∨ b = 4 := by omega
      rw [Int.toNat_natCast]
      rcases hcases with rfl | rfl | rfl | rfl | rfl
      · rw [show (8 - ((0 : Nat) : Int)).toNat = 8 from rfl]; omega
      · rw [show (8 - ((1 : Nat) : Int)).toNat = 7 from rfl, show twos.getD 1 0 = 2 from rfl, Int.fmod_eq_emod_of_nonneg _ (by decide)]; omega
      · rw [show (8 - ((2 : Nat) : Int)).toNat = 6 from rfl, show twos.getD 2 0 = 4 from rfl, Int.fmod_eq_emod_of_nonneg _ (by decide)]; omega
      · rw [show (8 - ((3 : Nat) : Int)).toNat = 5 from rfl, show twos.getD 3 0 = 8 from rfl, Int.fmod_eq_emod_of_nonneg _ (by decide)]; omega
      · rw [show (8 - ((4 : Nat) : Int)).toNat = 4 from rfl, show twos.getD 4 0 = 16 from rfl, Int.fmod_eq_emod_of_nonneg _ (by decide)]; omega
  by_cases h : (5 ≤ ((5 * ns.length % 8 : Nat) : Int) ∨ Builtin.bitAnd (A (fun i => ns.getD i 0) ns.length * 2 ^ (8 - ((5 * ns.length % 8 : Nat) : Int)).toNat) 255 ≠ 0)
  · rw [if_pos h, if_pos (key.mp h)]
  · rw [if_neg h, if_neg fun h' => h (key.mpr h')]
end Mine
namespace Mine
theorem octets_len {ns os : List Int} (h : octets ns = some os) : os.length = 5 * ns.length / 8 := by
  unfold octets at h
  split at h
  · cases h
  · cases h
    rw [List.length_map, PySem.W.rangeKs_length, Int.fdiv_eq_ediv_of_nonneg _ (by decide)]; omega
theorem octets_rest {ns os : List Int} (h : octets ns = some os) : 5 * ns.length % 8 < 5 := by
  unfold octets at h
  split at h
  · cases h
  · rename_i hn
    have hrest : (5 * (ns.length : Int)).fmod 8 = ((5 * ns.length % 8 : Nat) : Int) := by rw [Int.fmod_eq_emod_of_nonneg _ (by decide)]; omega
    rw [hrest] at hn
    have h5 : ¬ 5 ≤ ((5 * ns.length % 8 : Nat) : Int) := fun e => hn (.inl e)
    omega
/-- decode of the made text -/
theorem dec_made {fl : List Nat} {version : Int} {gs : List Int} (h0 : 0 ≤ version) (h1 : version ≤ 16) (hg : ∀ x ∈ gs, 0 ≤ x ∧ x < 32) (hl : version = 0 ∧ gs.length = 32 ∨ version ≠ 0 ∧ 4 ≤ gs.length ∧ gs.length ≤ 23) :
    dec fl ([version] ++ gs ++ create fl ([version] ++ gs)) = (octets gs).map fun os => (version, os) := by
  have hv : ∀ x ∈ [version] ++ gs, 0 ≤ x ∧ x < 32 := fun x hx => by
    rcases List.mem_append.mp hx with h | h
    · rw [List.mem_singleton.mp h]; omega
    · exact hg x h
  have hp := made_holds' fl hv
  have ht : (List.take (([version] ++ gs ++ create fl ([version] ++ gs)).length - 6) ([version] ++ gs ++ create fl ([version] ++ gs))).drop 1 = gs := by
    have : ([version] ++ gs ++ create fl ([version] ++ gs)).length - 6 = ([version] ++ gs).length := by rw [List.length_append, create_length]; omega
    rw [this, List.take_left]; rfl
  have hd : ([version] ++ gs ++ create fl ([version] ++ gs)).getD 0 0 = version := rfl
  have hc := conv_eq hg (by omega)
  cases ho : octets gs with
  | none => exact dec_n1 (by rw [ht, hc, ho])
  | some os =>
    have hlen := octets_len ho
    rw [dec_s hp (os := os) (by rw [ht, hc, ho]) (by omega) (by rw [hd]; omega) (by rw [hd]; omega), hd]
    rfl
end Mine
namespace Mine
/-- the fives of the grown text -/
def grownFs (ns c : List Int) (put : Nat) : List Int := ns ++ c.take 5 ++ List.replicate put 0 ++ [c.getD 5 0]
theorem grown_len (ns c : List Int) (put : Nat) (hc : c.length = 6) : (grownFs ns c put).length = ns.length + 6 + put := by
  unfold grownFs
  simp only [List.length_append, List.length_take, List.length_replicate, List.length_cons, List.length_nil]; omega
theorem grown_rng {ns c : List Int} (put : Nat) (hv : ∀ x ∈ ns, 0 ≤ x ∧ x < 32) (hc : ∀ x ∈ c, 0 ≤ x ∧ x < 32) : ∀ x ∈ grownFs ns c put, 0 ≤ x ∧ x < 32 := fun x hx => by
  unfold grownFs at hx
  rcases List.mem_append.mp hx with h | h
  · rcases List.mem_append.mp h with h | h
    · rcases List.mem_append.mp h with h | h
      · exact hv x h
      · exact hc x (List.mem_of_mem_take h)
    · rw [List.eq_of_mem_replicate h]; decide
  · rw [List.mem_singleton.mp h]; exact getD_rng hc 5
theorem dec_grown {fl : List Nat} {version : Int} {gs : List Int} {put : Nat} (h0 : 0 ≤ version) (h1 : version ≤ 16) (hg : ∀ x ∈ gs, 0 ≤ x ∧ x < 32) (hl : version = 0 ∧ gs.length = 32 ∨ version ≠ 0 ∧ 4 ≤ gs.length ∧ gs.length ≤ 23) (hp : 1 ≤ put) (hp' : put ≤ 19) :
    dec fl (grownFs ([version] ++ gs) (create fl ([version] ++ gs)) put) =
      if (create fl ([version] ++ gs)).getD 5 0 = 1 ∧ version ≠ 0 then
        (octets ((List.take ((grownFs ([version] ++ gs) (create fl ([version] ++ gs)) put).length - 6) (grownFs ([version] ++ gs) (create fl ([version] ++ gs)) put)).drop 1)).map fun os => (version, os)
      else none := by
  have hv : ∀ x ∈ [version] ++ gs, 0 ≤ x ∧ x < 32 := fun x hx => by
    rcases List.mem_append.mp hx with h | h
    · rw [List.mem_singleton.mp h]; omega
    · exact hg x h
  have hput : pm (expand fl ++ grownFs ([version] ++ gs) (create fl ([version] ++ gs)) put) = 1 ↔ (create fl ([version] ++ gs)).getD 5 0 = 1 := put_law' fl hv put hp hp'
  have hlen := grown_len ([version] ++ gs) (create fl ([version] ++ gs)) put (create_length _ _)
  have hrng := grown_rng put hv (create_rng fl ([version] ++ gs))
  have hd : (grownFs ([version] ++ gs) (create fl ([version] ++ gs)) put).getD 0 0 = version := rfl
  by_cases h5 : (create fl ([version] ++ gs)).getD 5 0 = 1
  · have hpm := hput.mpr h5
    generalize grownFs ([version] ++ gs) (create fl ([version] ++ gs)) put = ds at *
    have hnl : ([version] ++ gs).length = gs.length + 1 := by simp only [List.length_append, List.length_cons, List.length_nil]; omega
    have hDl : ((List.take (ds.length - 6) ds).drop 1).length = gs.length + put := by rw [List.length_drop, List.length_take]; omega
    have hDr : ∀ x ∈ (List.take (ds.length - 6) ds).drop 1, 0 ≤ x ∧ x < 32 := fun x hx => hrng x (List.mem_of_mem_take (List.mem_of_mem_drop hx))
    have hc := conv_eq hDr (by omega)
    cases ho : octets ((List.take (ds.length - 6) ds).drop 1) with
    | none =>
      rw [dec_n1 (by rw [hc, ho])]
      split <;> rfl
    | some os =>
      have hol := octets_len ho
      have hor := octets_rest ho
      rw [hDl] at hol hor
      by_cases hz : version = 0
      · rw [if_neg fun e => e.2 hz]
        exact dec_n4 (os := os) (by rw [hc, ho]) ⟨by rw [hd]; exact hz, by omega, by omega⟩
      · rw [if_pos ⟨h5, hz⟩, dec_s hpm (os := os) (by rw [hc, ho]) (by omega) (by rw [hd]; omega) (by rw [hd]; omega), hd]
        rfl
  · rw [if_neg fun e => h5 e.1]
    exact dec_n0 fun e => h5 (hput.mp e)
end Mine
end
section
open PySem PySem.W PySem.Calls PyProof.Rows
set_option Elab.async false
set_option maxRecDepth 100000
set_option maxHeartbeats 4000000
set_option linter.unusedVariables false
namespace Mine
theorem text_init (fl : List Nat) (ns : List Int) : Txt.slice (Str.mk (encode fl ns).toArray) none (some (-1)) = Str.mk (fl ++ 49 :: (ns ++ (create fl ns).take 5).map sgn).toArray := by
  rw [enc_last]
  generalize fl ++ 49 :: (ns ++ (create fl ns).take 5).map sgn = a
  generalize sgn ((create fl ns).getD 5 0) = c
  have h := slice_closes_to_neg (x := Str.mk (a ++ [c]).toArray) (j := -1) (k := a.length) (by decide) (by simp [Str.length]; omega) (by simp [Str.length]; omega)
  rw [eq_of_beq h]
  simp
theorem fold_rep (c : Nat) : ∀ (n : Nat) (acc : Array Nat), (List.replicate n #[c]).foldl (· ++ ·) acc = acc ++ (List.replicate n c).toArray
  | 0, acc => by simp
  | n + 1, acc => by
    rw [List.replicate_succ, List.foldl_cons, fold_rep c n]
    apply Array.ext'
    simp [List.replicate_succ]
theorem mul_q {k : Int} (h1 : 1 ≤ k) : Txt.mul (Str.ofString "q") k = Str.mk (List.replicate k.toNat 113).toArray := by
  rw [show Str.ofString "q" = Str.mk #[113] from by decide]
  unfold Txt.mul
  rw [if_neg (by omega)]
  split
  · rename_i h
    have : k = 1 := by simpa [Str.length] using h
    subst this
    rfl
  · rw [fold_rep]; simp
theorem grown_text (fl : List Nat) (ns c : List Int) (k : Nat) : fl ++ 49 :: (ns ++ c.take 5).map sgn ++ List.replicate k 113 ++ [sgn (c.getD 5 0)] = fl ++ 49 :: (grownFs ns c k).map sgn := by
  unfold grownFs
  simp [sgn_q]
theorem flat_rep (k : Nat) (x : Int) : (List.replicate k [x]).flatten = List.replicate k x := by
  induction k with
  | zero => rfl
  | succ k ih => rw [List.replicate_succ, List.flatten_cons, ih, List.replicate_succ]; rfl
theorem take_vals {ns c : List Int} (hc : c.length = 6) {n : Nat} (hn : n = ns.length + 5) : List.take n (ns ++ c) = ns ++ c.take 5 := by
  subst hn
  rw [List.take_append, List.take_of_length_le (by omega)]
  simp
theorem drop_vals {ns c : List Int} (hc : c.length = 6) {n : Nat} (hn : n = ns.length + 5) : List.drop n (ns ++ c) = [c.getD 5 0] := by
  subst hn
  rw [List.drop_append]
  match c, hc with
  | [a, b, d, e, f, g], _ => simp
theorem put_rng (x : Int) : 1 ≤ 1 + (x.fdiv 20).fmod 19 ∧ 1 + (x.fdiv 20).fmod 19 ≤ 19 := by
  have h0 := Int.fmod_nonneg_of_pos (x.fdiv 20) (by decide : (0 : Int) < 19)
  have h1 := Int.fmod_lt_of_pos (x.fdiv 20) (by decide : (0 : Int) < 19)
  omega
end Mine
end
section
open PySem PySem.W PySem.Calls PyProof.Rows
set_option Elab.async false
set_option maxRecDepth 100000
set_option maxHeartbeats 4000000
set_option linter.unusedVariables false
namespace Mine
theorem weak_eq {k : Int} (h : 0 ≤ k ∧ k < 32) : ((Str.mk #[sgn k] == Str.ofString "p") = true) ↔ k = 1 := by
  rw [beq_iff_eq, show Str.ofString "p" = Str.mk #[112] from by decide, ← sgn_p h.1 h.2]
  constructor
  · intro e; injection e with e; simpa using e
  · intro e; rw [e]
/-- the law's names once the text is read -/
structure Last8 (m : Str → Option Value) (fl : List Nat) (version : Int) (gs : List Int) (l5 lv : Addr) (forced weak : Bool) : Prop where
  front : ∃ t, m (Str.ofString "front") = some (.str ⟨fl.toArray⟩ t)
  vers : ∃ t, m (Str.ofString "version") = some (.int version t)
  fives : m (Str.ofString "fives") = some (.ref l5)
  forced : m (Str.ofString "forced") = some (.bool forced)
  text : ∃ t, m (Str.ofString "text") = some (.str (Str.mk (encode fl ([version] ++ gs)).toArray) t)
  values : m (Str.ofString "values") = some (.ref lv)
  weak : m (Str.ofString "weak") = some (.bool weak)
structure LastF (fl : List Nat) (version : Int) (gs : List Int) (forced weak : Bool) : Prop where
  l0 : 1 ≤ fl.length
  l1 : fl.length ≤ 3
  rng : ∀ x ∈ fl, 33 ≤ x ∧ x ≤ 126
  lows : ∀ x ∈ fl, x < 65 ∨ 90 < x
  v0 : 0 ≤ version
  v1 : version ≤ 16
  glen : version = 0 ∧ gs.length = 32 ∨ version ≠ 0 ∧ 4 ≤ gs.length ∧ gs.length ≤ 23
  grng : ∀ x ∈ gs, 0 ≤ x ∧ x < 32
  fw : forced = true → weak = true
  wk : weak = true ↔ (create fl ([version] ++ gs)).getD 5 0 = 1
theorem cutF {h₀ : Heap} {L : Addr} {h : Heap} {m : Str → Option Value} {P : Prop} {p0 p1 p2 p4 p5 pc : Addr × Obj} {D l5 lr : Addr} {ys vs5 ws : List Value} {c c5 c3 : Nat} {fl : List Nat} {n version many : Int} {fs gs row : List Int} {forced : Bool} {t1 t2 t3 : Tok}
    (F : Fr h₀ L h m) (N : News h₀ L h [p0, p1, p2, (D, listOf ys.toArray c), p4, p5, (l5, listOf vs5.toArray c5), (lr, listOf ws.toArray c3), pc, (45, tabObj #[])])
    (q2 : m (Str.ofString "front") = some (.str ⟨fl.toArray⟩ t1)) (q3 : m (Str.ofString "version") = some (.int version t2)) (q5 : m (Str.ofString "fives") = some (.ref l5)) (q6 : m (Str.ofString "forced") = some (.bool forced))
    (q7 : m (Str.ofString "text") = some (.str (Str.mk (encode fl ([version] ++ gs)).toArray) t3)) (q8 : m (Str.ofString "values") = some (.ref D)) (q9 : m (Str.ofString "weak") = some (.bool (Str.mk #[sgn ((create fl ([version] ++ gs)).getD 5 0)] == Str.ofString "p")))
    (Fa : Facts fl n version many fs row) (hgs : gs = forcedFs fl version fs forced) (hgl : gs.length = fs.length) (hgr : ∀ x ∈ gs, 0 ≤ x ∧ x < 32)
    (hV : IntsAre ys ([version] ++ gs ++ create fl ([version] ++ gs))) (hG : IntsAre vs5 gs) (hR : IntsAre ws row)
    (h45 : @Ne Nat 45 D ∧ @Ne Nat 45 l5 ∧ @Ne Nat 45 lr ∧ @Ne Nat 45 pc.1)
    (k : ∀ (m' : Str → Option Value) (fl : List Nat) (version : Int) (gs row : List Int) (forced weak : Bool), Fr h₀ L h m' → News h₀ L h ((45, tabObj #[]) :: [(D, listOf ys.toArray c), (l5, listOf vs5.toArray c5), (lr, listOf ws.toArray c3), pc]) → Last8 m' fl version gs l5 D forced weak → LastF fl version gs forced weak →
      IntsAre ys ([version] ++ gs ++ create fl ([version] ++ gs)) → IntsAre vs5 gs → IntsAre ws row → (3 ≤ row.length ∧ row.length ≤ 43) → (@Ne Nat 45 D ∧ @Ne Nat 45 l5 ∧ @Ne Nat 45 lr ∧ @Ne Nat 45 pc.1) → P) : P := by
  obtain ⟨f0, f1, f2, f3, f4, f5, f6, f7, f8, f9, f10⟩ := Fa
  have hc5 := weak_eq (create_at (fl := fl) (ns := [version] ++ gs) 5)
  refine k m fl version gs row forced _ F (fun p hp => N p (by simp only [List.mem_cons, List.not_mem_nil, or_false] at hp ⊢; rcases hp with h | h | h | h | h <;> simp [h])) ⟨⟨_, q2⟩, ⟨_, q3⟩, q5, q6, ⟨_, q7⟩, q8, q9⟩
    ⟨by omega, by omega, f3, f4, f5, f6, by omega, hgr, ?_, hc5⟩ hV hG hR f10 h45
  intro hf
  rw [hc5, hgs]
  subst hf
  unfold forcedFs
  rw [if_pos rfl]
  exact forcedFs_law fl ⟨f5, f6⟩ f9
/-- what stays when a statement only asks -/
def AftT (h₀ : Heap) (L : Addr) (m : Str → Option Value) (led : List (Addr × Obj)) (s s' : Shared) : Prop :=
  ∃ ps, Fr h₀ L s'.heap m ∧ News h₀ L s'.heap ((45, tabObj ps) :: led) ∧ TriplesOk ps.toList ∧ AllBare s'.gens ∧ s'.os = s.os
theorem stmt_aft {M : Model} {A : Around} {E : Value → Shared → Prop} {s : Shared} {st : Stmt} {env : Env} {Q : Flow → Shared → Prop} {h₀ : Heap} {L : Addr} {m : Str → Option Value} {ps : Array Value} {led : List (Addr × Obj)}
    (F : Fr h₀ L s.heap m) (N : News h₀ L s.heap ((45, tabObj ps) :: led)) (h : Later (wpAny M A (exec st env) (fun f s' => f = .next ∧ AftT h₀ L m led s s') E s)) (hc : Later (∀ s', AftT h₀ L m led s s' → Q .next s')) : wpAny M A (exec st env) Q E s :=
  wpAny_mono h.run (fun f s' ⟨e, x⟩ => by subst e; exact hc.run s' x) fun _ _ e => e
end Mine
namespace Mine
theorem made0 {fl : List Nat} {version : Int} {gs : List Int} {forced weak : Bool} (LF : LastF fl version gs forced weak) (h : dec fl ([version] ++ gs ++ create fl ([version] ++ gs)) = none) : octets gs = none := by
  rw [dec_made LF.v0 LF.v1 LF.grng LF.glen] at h
  simpa using h
theorem made1 {fl : List Nat} {version v : Int} {gs os : List Int} {forced weak : Bool} (LF : LastF fl version gs forced weak) (h : dec fl ([version] ++ gs ++ create fl ([version] ++ gs)) = some (v, os)) : v = version ∧ octets gs = some os := by
  rw [dec_made LF.v0 LF.v1 LF.grng LF.glen] at h
  cases ho : octets gs with
  | none => rw [ho] at h; cases h
  | some x => rw [ho] at h; cases h; exact ⟨rfl, rfl⟩
theorem text_eq (fl : List Nat) (ns : List Int) : encode fl ns = fl ++ 49 :: (ns ++ create fl ns).map sgn := enc_eq fl ns
end Mine
namespace Mine
theorem vals_rng {fl : List Nat} {version : Int} {gs : List Int} {forced weak : Bool} (LF : LastF fl version gs forced weak) : ∀ x ∈ [version] ++ gs ++ create fl ([version] ++ gs), 0 ≤ x ∧ x < 32 :=
  fun x hx => encode_rng (cons_rng LF.v0 LF.v1 LF.grng) hx
theorem vals_len {fl : List Nat} {version : Int} {gs : List Int} {forced weak : Bool} (LF : LastF fl version gs forced weak) : ([version] ++ gs ++ create fl ([version] ++ gs)).length = gs.length + 7 ∧ 4 ≤ gs.length ∧ gs.length ≤ 32 := by
  have := LF.glen
  refine ⟨by simp only [List.length_append, create_length, List.length_cons, List.length_nil]; omega, by omega, by omega⟩
end Mine
end
section
open PySem PySem.W PySem.Calls PyProof.Rows
set_option Elab.async false
set_option maxRecDepth 100000
set_option maxHeartbeats 4000000
set_option linter.unusedVariables false
namespace Mine
/-- an answer that lies in these objects -/
def AnsIn (own : List (Addr × Obj)) (a : Addr) (o : Option (PyData × List Int)) : Prop := ∀ h₀ L h, News h₀ L h own → AnsAt h a o
theorem AnsIn.at {p q : Addr × Obj} {a : Addr} {o : Option (PyData × List Int)} {h₀ h : Heap} {L : Addr} {news : List (Addr × Obj)} (x : AnsIn [p, q] a o) (N : News h₀ L h news) (hp : p ∈ news) (hq : q ∈ news) : AnsAt h a o :=
  x h₀ L h fun r hr => by
    rcases List.mem_cons.mp hr with rfl | hr
    · exact N _ hp
    · rw [List.mem_singleton.mp hr]; exact N _ hq
theorem AnsIn.none {a : Addr} {q : Addr × Obj} : AnsIn [(a, tup2 .none .none), q] a .none := fun _ _ _ N => AnsAt.none N List.mem_cons_self
theorem AnsIn.int {a lo : Addr} {v : Int} {t : Tok} {vs : List Value} {n : Nat} {os : List Int} (hi : IntsAre vs os) : AnsIn [(a, tup2 (.int v t) (.ref lo)), (lo, listOf vs.toArray n)] a (some (.int v, os)) :=
  fun _ _ _ N => AnsAt.int N List.mem_cons_self (List.mem_cons_of_mem _ List.mem_cons_self) hi
theorem AnsIn.str {a lo : Addr} {f : Str} {t : Tok} {vs : List Value} {n : Nat} {os : List Int} (hi : IntsAre vs os) : AnsIn [(a, tup2 (.str f t) (.ref lo)), (lo, listOf vs.toArray n)] a (some (.str f, os)) :=
  fun _ _ _ N => AnsAt.str N List.mem_cons_self (List.mem_cons_of_mem _ List.mem_cons_self) hi
def ansI (r : Option (Int × List Int)) : Option (PyData × List Int) := r.map fun p => (.int p.1, p.2)
theorem first_ansI (r : Option (Int × List Int)) : FirstOk (ansI r) := by
  cases r with
  | none => trivial
  | some p => exact .inl ⟨_, rfl⟩
section
variable {w : World} {mean : ExcName → Option Value} {mg mb : Str → Option Value} {dp un : Nat} {gd : Option (List Code)} {cn : Str} {cs : Scope} {a : Addr} {ccd : Value} {cl : List (Str × Addr)} {outer : List Env} {A₀ : Around} {base h₀ : Heap} {L : Addr} {m : Str → Option Value} {news : List (Addr × Obj)} {s : Shared}
  {fl : List Nat} {ds : List Int} {t t2 : Tok} {ps : Array Value} {g : Obj → List (Addr × Obj)} {Q E : Value → Shared → Prop}
theorem decode_one (B : Below A₀ base outer h₀) (F : Fr h₀ L s.heap m) (X : (hd.heap_39 w.params).In h₀) (N : News h₀ L s.heap news) (T : Top topProg LO0 mean mg mb h₀) (hk : cs.kind = .function)
    (hd1 : dp + 8 < recursionLimit) (hu : un + 64 < cLine) (U : UpdF 45 (tabObj ps) news g) (ht : TriplesOk ps.toList) (G : AllBare s.gens)
    (hl0 : 1 ≤ fl.length) (hlf : fl.length ≤ 83) (hfl : ∀ x ∈ fl, 33 ≤ x ∧ x ≤ 126) (hlow : ∀ x ∈ fl, x < 65 ∨ 90 < x) (h6 : 8 ≤ ds.length) (hlen : ds.length ≤ 150) (hv : ∀ x ∈ ds, 0 ≤ x ∧ x < 32)
    (hret : ∀ l' o1 q ps' s', Fr h₀ L s'.heap m → News h₀ L s'.heap ((l', o1) :: q :: g (tabObj ps')) → AnsIn [(l', o1), q] l' (ansI (dec fl ds)) → TriplesOk ps'.toList → (∀ p ∈ g (tabObj ps'), p.1 ≠ l') → (∀ p ∈ g (tabObj ps'), p.1 ≠ q.1) → AllBare s'.gens → s'.os = s.os → Q (.ref l') s') :
    wpAny (model PG w) (ktrTop dp un gd cn cs L a ccd cl outer) (call (.ref 63) [.str (Str.mk fl.toArray) t2, .str (Str.mk (fl ++ 49 :: ds.map sgn).toArray) t]) Q E s := by
  refine decode_c B F X N T hk hd1 hu U ht G hl0 hlf hfl hlow h6 hlen hv ?_ ?_
  · intro e l' ps' s' F' N' ht' n1 G' o'
    rw [e] at hret
    exact hret l' (tup2 .none .none) (l', tup2 .none .none) ps' s' F' (fun p hp => N' p (by rcases List.mem_cons.mp hp with rfl | hp; exact List.mem_cons_self; exact hp)) AnsIn.none ht' n1 n1 G' o'
  · intro v os e l' lo t' vs' n' ps' s' F' N' hI ht' n1 n2 G' o'
    rw [e] at hret
    exact hret l' _ (lo, _) ps' s' F' N' (AnsIn.int hI) ht' (fun p hp => n1 p (List.mem_cons_of_mem _ hp)) n2 G' o'
theorem bdecode_one (B : Below A₀ base outer h₀) (F : Fr h₀ L s.heap m) (X : (hd.heap_39 w.params).In h₀) (N : News h₀ L s.heap news) (T : Top topProg LO0 mean mg mb h₀) (hk : cs.kind = .function)
    (hd1 : dp + 6 < recursionLimit) (hu : un + 48 < cLine) (U : UpdF 45 (tabObj ps) news g) (ht : TriplesOk ps.toList) (G : AllBare s.gens)
    (hl0 : 1 ≤ fl.length) (hlf : fl.length ≤ 83) (hfl : ∀ x ∈ fl, 33 ≤ x ∧ x ≤ 126) (hlow : ∀ x ∈ fl, x < 65 ∨ 90 < x) (h6 : 6 ≤ ds.length) (hlen : ds.length ≤ 150) (hv : ∀ x ∈ ds, 0 ≤ x ∧ x < 32)
    (hret : ∀ l' o1 q ps' s', Fr h₀ L s'.heap m → News h₀ L s'.heap ((l', o1) :: q :: g (tabObj ps')) → AnsIn [(l', o1), q] l' (if pm (expand fl ++ ds) = 1 then some (.str ⟨fl.toArray⟩, ds.take (ds.length - 6)) else none) → TriplesOk ps'.toList → (∀ p ∈ g (tabObj ps'), p.1 ≠ l') → (∀ p ∈ g (tabObj ps'), p.1 ≠ q.1) → AllBare s'.gens → s'.os = s.os → Q (.ref l') s') :
    wpAny (model PG w) (ktrTop dp un gd cn cs L a ccd cl outer) (call (.ref 48) [.str (Str.mk (fl ++ 49 :: ds.map sgn).toArray) t]) Q E s := by
  refine bdecode_c B F X N T hk hd1 hu U ht G hl0 hlf hfl hlow h6 hlen hv ?_ ?_
  · intro e l' ps' s' F' N' ht' n1 G' o'
    rw [if_neg e] at hret
    exact hret l' (tup2 .none .none) (l', tup2 .none .none) ps' s' F' (fun p hp => N' p (by rcases List.mem_cons.mp hp with rfl | hp; exact List.mem_cons_self; exact hp)) AnsIn.none ht' n1 n1 G' o'
  · intro e l' lo t' vs' n' ps' s' F' N' hI ht' n1 n2 G' o'
    rw [if_pos e] at hret
    exact hret l' _ (lo, _) ps' s' F' N' (AnsIn.str hI) ht' (fun p hp => n1 p (List.mem_cons_of_mem _ hp)) n2 G' o'
theorem program_one {l : Addr} {vs : List Value} {n : Nat} {ns : List Int} {x : Int} {t1 : Tok} (B : Below A₀ base outer h₀) (F : Fr h₀ L s.heap m) (X : (hd.heap_39 w.params).In h₀) (N : News h₀ L s.heap news) (T : Top topProg LO0 mean mg mb h₀) (hk : cs.kind = .function)
    (hd1 : dp + 6 < recursionLimit) (hu : un + 48 < cLine) (hm : (l, listOf vs.toArray n) ∈ news) (hi : IntsAre vs ns) (hlen : ns.length ≤ 200) (h1 : 1 ≤ ns.length) (hv : ∀ x ∈ ns, 0 ≤ x ∧ x < 32)
    (hret : ∀ l' o1 q h' tk', Fr h₀ L h' m → News h₀ L h' ((l', o1) :: q :: news) → AnsIn [(l', o1), q] l' (ansI ((octets ns).map fun os => (x, os))) → (∀ p ∈ news, p.1 ≠ l') → (∀ p ∈ news, p.1 ≠ q.1) → Q (.ref l') { s with heap := h', toks := tk' }) :
    wpAny (model PG w) (ktrTop dp un gd cn cs L a ccd cl outer) (call (.ref 99) [.int x t1, .ref l]) Q E s := by
  refine program_c B F X N T hk hd1 hu hm hi hlen h1 hv ?_ ?_
  · intro e l' h' tk' F' N' n1
    rw [e] at hret
    exact hret l' (tup2 .none .none) (l', tup2 .none .none) h' tk' F' (fun p hp => N' p (by rcases List.mem_cons.mp hp with rfl | hp; exact List.mem_cons_self; exact hp)) AnsIn.none n1 n1
  · intro os e l' lo t' vs' n' h' tk' F' N' hI n1 n2 _
    rw [e] at hret
    exact hret l' _ (lo, _) h' tk' F' N' (AnsIn.int hI) n1 n2
/-- the text that the law makes, read -/
theorem decode_made {version : Int} {gs : List Int} {forced weak : Bool} (LF : LastF fl version gs forced weak) (B : Below A₀ base outer h₀) (F : Fr h₀ L s.heap m) (X : (hd.heap_39 w.params).In h₀) (N : News h₀ L s.heap news) (T : Top topProg LO0 mean mg mb h₀) (hk : cs.kind = .function)
    (hd1 : dp + 8 < recursionLimit) (hu : un + 64 < cLine) (U : UpdF 45 (tabObj ps) news g) (ht : TriplesOk ps.toList) (G : AllBare s.gens)
    (hret : ∀ l' o1 q ps' s', Fr h₀ L s'.heap m → News h₀ L s'.heap ((l', o1) :: q :: g (tabObj ps')) → AnsIn [(l', o1), q] l' (ansI ((octets gs).map fun os => (version, os))) → TriplesOk ps'.toList → (∀ p ∈ g (tabObj ps'), p.1 ≠ l') → (∀ p ∈ g (tabObj ps'), p.1 ≠ q.1) → AllBare s'.gens → s'.os = s.os → Q (.ref l') s') :
    wpAny (model PG w) (ktrTop dp un gd cn cs L a ccd cl outer) (call (.ref 63) [.str (Str.mk fl.toArray) t2, .str (Str.mk (encode fl ([version] ++ gs)).toArray) t]) Q E s := by
  have hcl := vals_len LF
  have hl1 := LF.l1
  rw [text_eq]
  refine decode_one B F X N T hk hd1 hu U ht G LF.l0 (by omega) LF.rng LF.lows (by omega) (by omega) (vals_rng LF) ?_
  rw [dec_made LF.v0 LF.v1 LF.grng LF.glen]
  exact hret
end
/-- the grown text's numbers -/
@[irreducible] def grownD (fl : List Nat) (version : Int) (gs : List Int) (k : Nat) : List Int := grownFs ([version] ++ gs) (create fl ([version] ++ gs)) k
@[irreducible] def dataD (fl : List Nat) (version : Int) (gs : List Int) (k : Nat) : List Int := (grownD fl version gs k).take ((grownD fl version gs k).length - 6)
theorem grownD_len {fl : List Nat} {version : Int} {gs : List Int} {k : Nat} : (grownD fl version gs k).length = gs.length + 7 + k := by
  unfold grownD; rw [grown_len _ _ _ (create_length _ _)]; simp only [List.length_append, List.length_cons, List.length_nil]; omega
theorem grownD_rng {fl : List Nat} {version : Int} {gs : List Int} {forced weak : Bool} (LF : LastF fl version gs forced weak) (k : Nat) : ∀ x ∈ grownD fl version gs k, 0 ≤ x ∧ x < 32 :=
  by unfold grownD; exact grown_rng k (cons_rng LF.v0 LF.v1 LF.grng) (create_rng _ _)
theorem dataD_rng {fl : List Nat} {version : Int} {gs : List Int} {forced weak : Bool} (LF : LastF fl version gs forced weak) (k : Nat) : ∀ x ∈ dataD fl version gs k, 0 ≤ x ∧ x < 32 :=
  by unfold dataD; exact fun x hx => grownD_rng LF k x (List.mem_of_mem_take hx)
theorem dataD_len {fl : List Nat} {version : Int} {gs : List Int} {k : Nat} : (dataD fl version gs k).length = gs.length + 1 + k := by
  unfold dataD; rw [List.length_take, grownD_len]; omega
section
variable {w : World} {mean : ExcName → Option Value} {mg mb : Str → Option Value} {dp un : Nat} {gd : Option (List Code)} {cn : Str} {cs : Scope} {a : Addr} {ccd : Value} {cl : List (Str × Addr)} {outer : List Env} {A₀ : Around} {base h₀ : Heap} {L : Addr} {m : Str → Option Value} {news : List (Addr × Obj)} {s : Shared}
  {fl : List Nat} {t t2 : Tok} {ps : Array Value} {g : Obj → List (Addr × Obj)} {Q E : Value → Shared → Prop}
theorem decode_grown {version : Int} {gs : List Int} {forced weak : Bool} {k : Nat} (LF : LastF fl version gs forced weak) (hp : 1 ≤ k ∧ k ≤ 19) (B : Below A₀ base outer h₀) (F : Fr h₀ L s.heap m) (X : (hd.heap_39 w.params).In h₀) (N : News h₀ L s.heap news) (T : Top topProg LO0 mean mg mb h₀) (hk : cs.kind = .function)
    (hd1 : dp + 8 < recursionLimit) (hu : un + 64 < cLine) (U : UpdF 45 (tabObj ps) news g) (ht : TriplesOk ps.toList) (G : AllBare s.gens)
    (hret : ∀ l' o1 q ps' s', Fr h₀ L s'.heap m → News h₀ L s'.heap ((l', o1) :: q :: g (tabObj ps')) → AnsIn [(l', o1), q] l' (ansI (if version = 0 ∨ weak = false then none else (octets ((dataD fl version gs k).drop 1)).map fun os => (version, os))) → TriplesOk ps'.toList → (∀ p ∈ g (tabObj ps'), p.1 ≠ l') → (∀ p ∈ g (tabObj ps'), p.1 ≠ q.1) → AllBare s'.gens → s'.os = s.os → Q (.ref l') s') :
    wpAny (model PG w) (ktrTop dp un gd cn cs L a ccd cl outer) (call (.ref 63) [.str (Str.mk fl.toArray) t2, .str (Str.mk (fl ++ 49 :: (grownD fl version gs k).map sgn).toArray) t]) Q E s := by
  have hcl := vals_len LF
  have hl1 := LF.l1
  have hgl := grownD_len (fl := fl) (version := version) (gs := gs) (k := k)
  refine decode_one B F X N T hk hd1 hu U ht G LF.l0 (by omega) LF.rng LF.lows (by omega) (by omega) (grownD_rng LF k) ?_
  have e : dec fl (grownD fl version gs k) = if version = 0 ∨ weak = false then none else (octets ((dataD fl version gs k).drop 1)).map fun os => (version, os) := by
    unfold dataD grownD
    have hw := LF.wk
    rw [dec_grown LF.v0 LF.v1 LF.grng LF.glen hp.1 hp.2]
    by_cases h0 : version = 0
    · rw [if_neg (fun e => e.2 h0), if_pos (.inl h0)]
    · by_cases h1 : weak = true
      · rw [if_pos ⟨hw.mp h1, h0⟩, if_neg (fun e => e.elim h0 (fun e2 => by rw [h1] at e2; cases e2))]
      · rw [if_neg (fun e => h1 (hw.mpr e.1)), if_pos (.inr (by simpa using h1))]
  rw [e]
  exact hret
theorem bdecode_grown {version : Int} {gs : List Int} {forced weak : Bool} {k : Nat} (LF : LastF fl version gs forced weak) (hp : 1 ≤ k ∧ k ≤ 19) (B : Below A₀ base outer h₀) (F : Fr h₀ L s.heap m) (X : (hd.heap_39 w.params).In h₀) (N : News h₀ L s.heap news) (T : Top topProg LO0 mean mg mb h₀) (hk : cs.kind = .function)
    (hd1 : dp + 6 < recursionLimit) (hu : un + 48 < cLine) (U : UpdF 45 (tabObj ps) news g) (ht : TriplesOk ps.toList) (G : AllBare s.gens)
    (hret : ∀ l' o1 q ps' s', Fr h₀ L s'.heap m → News h₀ L s'.heap ((l', o1) :: q :: g (tabObj ps')) → AnsIn [(l', o1), q] l' (if weak = true then some (.str ⟨fl.toArray⟩, dataD fl version gs k) else none) → TriplesOk ps'.toList → (∀ p ∈ g (tabObj ps'), p.1 ≠ l') → (∀ p ∈ g (tabObj ps'), p.1 ≠ q.1) → AllBare s'.gens → s'.os = s.os → Q (.ref l') s') :
    wpAny (model PG w) (ktrTop dp un gd cn cs L a ccd cl outer) (call (.ref 48) [.str (Str.mk (fl ++ 49 :: (grownD fl version gs k).map sgn).toArray) t]) Q E s := by
  have hcl := vals_len LF
  have hl1 := LF.l1
  have hgl := grownD_len (fl := fl) (version := version) (gs := gs) (k := k)
  refine bdecode_one B F X N T hk hd1 hu U ht G LF.l0 (by omega) LF.rng LF.lows (by omega) (by omega) (grownD_rng LF k) ?_
  have e : (pm (expand fl ++ grownD fl version gs k) = 1) = (weak = true) := by
    rw [LF.wk]
    unfold grownD
    exact propext (put_law' fl (cons_rng LF.v0 LF.v1 LF.grng) k hp.1 hp.2)
  simp only [e]
  rw [show (grownD fl version gs k).take ((grownD fl version gs k).length - 6) = dataD fl version gs k from by unfold dataD; rfl]
  exact hret
end
end Mine
end
section
open PySem PySem.W PySem.Calls PyProof.Rows
set_option Elab.async false
set_option maxRecDepth 100000
set_option maxHeartbeats 4000000
set_option linter.unusedVariables false
namespace Mine
theorem cutP {h₀ : Heap} {L : Addr} {h : Heap} {m : Str → Option Value} {P : Prop} {x : Int} {t : Tok} {fl : List Nat} {version : Int} {gs : List Int} {l5 lv : Addr} {forced weak : Bool}
    (F : Fr h₀ L h (fun y => if y = Str.ofString "put" then some (.int (1 + (x.fdiv 20).fmod 19) t) else m y)) (L8 : Last8 m fl version gs l5 lv forced weak)
    (k : ∀ (m' : Str → Option Value) (p : Int), Fr h₀ L h m' → Last8 m' fl version gs l5 lv forced weak → (∃ t, m' (Str.ofString "put") = some (.int p t)) → 1 ≤ p → p ≤ 19 → P) : P := by
  obtain ⟨q2, q3, q5, q6, q7, q8, q9⟩ := L8
  exact k _ _ F ⟨q2, q3, q5, q6, q7, q8, q9⟩ ⟨t, rfl⟩ (put_rng x).1 (put_rng x).2
theorem enc_size {fl : List Nat} {version : Int} {gs : List Int} {forced weak : Bool} (LF : LastF fl version gs forced weak) : (Str.mk (encode fl ([version] ++ gs)).toArray).length ≤ sizeLine := by
  have := vals_len LF
  have := LF.l1
  rw [enc_len, sizeLine_eq]; simp only [List.length_append, List.length_cons, List.length_nil]; omega
theorem grown_textD (fl : List Nat) (version : Int) (gs : List Int) (k : Nat) : fl ++ 49 :: ([version] ++ gs ++ (create fl ([version] ++ gs)).take 5).map sgn ++ List.replicate k 113 ++ [sgn ((create fl ([version] ++ gs)).getD 5 0)] = fl ++ 49 :: (grownD fl version gs k).map sgn := by unfold grownD; exact grown_text _ _ _ _
section
variable {prog : Program} {w : World} {A : Around} {E : Value → Shared → Prop} {s : Shared}
theorem mul_qK {p : Int} {t u : Tok} {Q : Value → Shared → Prop} (h1 : 1 ≤ p) (h2 : p ≤ 19) (h : ∀ t' k, Q (.str (Str.mk (List.replicate p.toNat 113).toArray) t') { s with toks := k }) : wpAny (model prog w) A (binaryOp .Mult (.str (Str.ofString "q") t) (.int p u)) Q E s := by
  refine SB.mul (mulOk_of 16 19 (by decide) (by omega) (by omega) (by decide) (by decide)) ?_
  rw [mul_q h1]
  exact h
end
end Mine
namespace Mine
theorem grown_list (fl : List Nat) (version : Int) (gs : List Int) (k : Nat) :
    List.take (([version] ++ gs ++ create fl ([version] ++ gs)).length - 1) ([version] ++ gs ++ create fl ([version] ++ gs)) ++ (List.replicate k [(0 : Int)]).flatten ++ List.drop (([version] ++ gs ++ create fl ([version] ++ gs)).length - 1) ([version] ++ gs ++ create fl ([version] ++ gs)) = grownD fl version gs k := by
  have hl : ([version] ++ gs ++ create fl ([version] ++ gs)).length - 1 = ([version] ++ gs).length + 5 := by rw [List.length_append, create_length]; omega
  rw [take_vals (create_length _ _) hl, drop_vals (create_length _ _) hl, flat_rep]
  unfold grownD grownFs
  rfl
/-- the law's names at its end -/
structure Last5 (m : Str → Option Value) (fl : List Nat) (version : Int) (gs : List Int) (k : Nat) (ld : Addr) (weak : Bool) : Prop where
  front : ∃ t, m (Str.ofString "front") = some (.str ⟨fl.toArray⟩ t)
  vers : ∃ t, m (Str.ofString "version") = some (.int version t)
  weak : m (Str.ofString "weak") = some (.bool weak)
  grown : ∃ t, m (Str.ofString "grown") = some (.str (Str.mk (fl ++ 49 :: (grownD fl version gs k).map sgn).toArray) t)
  data : m (Str.ofString "data") = some (.ref ld)
theorem cutR {h₀ : Heap} {L : Addr} {h : Heap} {m : Str → Option Value} {P : Prop} {news : List (Addr × Obj)} {ld : Addr} {ws : List Value} {ps : Array Value} {fl : List Nat} {version : Int} {gs : List Int} {p : Int} {forced weak : Bool} {t1 t2 t3 : Tok}
    (F : Fr h₀ L h m) (N : News h₀ L h news) (hd : (ld, listOf ws.toArray 0) ∈ news) (ht : (45, tabObj ps) ∈ news) (h45 : @Ne Nat 45 ld)
    (q2 : m (Str.ofString "front") = some (.str ⟨fl.toArray⟩ t1)) (q3 : m (Str.ofString "version") = some (.int version t2)) (q9 : m (Str.ofString "weak") = some (.bool weak))
    (q7 : m (Str.ofString "grown") = some (.str (Str.mk (fl ++ 49 :: (grownD fl version gs p.toNat).map sgn).toArray) t3)) (q8 : m (Str.ofString "data") = some (.ref ld))
    (LF : LastF fl version gs forced weak) (hp1 : 1 ≤ p) (hp2 : p ≤ 19)
    (hI : IntsAre ws (List.take ((List.take (([version] ++ gs ++ create fl ([version] ++ gs)).length - 1) ([version] ++ gs ++ create fl ([version] ++ gs)) ++ (List.replicate p.toNat [(0 : Int)]).flatten ++ List.drop (([version] ++ gs ++ create fl ([version] ++ gs)).length - 1) ([version] ++ gs ++ create fl ([version] ++ gs))).length - 6)
      (List.take (([version] ++ gs ++ create fl ([version] ++ gs)).length - 1) ([version] ++ gs ++ create fl ([version] ++ gs)) ++ (List.replicate p.toNat [(0 : Int)]).flatten ++ List.drop (([version] ++ gs ++ create fl ([version] ++ gs)).length - 1) ([version] ++ gs ++ create fl ([version] ++ gs)))))
    (k : ∀ (m' : Str → Option Value) (k : Nat), Fr h₀ L h m' → News h₀ L h ((45, tabObj ps) :: [(ld, listOf ws.toArray 0)]) → Last5 m' fl version gs k ld weak → LastF fl version gs forced weak → IntsAre ws (dataD fl version gs k) → (1 ≤ k ∧ k ≤ 19) → (@Ne Nat 45 ld) → P) : P := by
  rw [grown_list] at hI
  replace hI : IntsAre ws (dataD fl version gs p.toNat) := by unfold dataD; exact hI
  exact k m p.toNat F (fun q hq => N q (by simp only [List.mem_cons, List.not_mem_nil, or_false] at hq; rcases hq with rfl | rfl <;> assumption)) ⟨⟨_, q2⟩, ⟨_, q3⟩, q9, ⟨_, q7⟩, q8⟩ LF hI ⟨by omega, by omega⟩ h45
end Mine
namespace Mine
theorem fl_strOk {fl : List Nat} {version : Int} {gs : List Int} {forced weak : Bool} (LF : LastF fl version gs forced weak) : PyData.strOk ⟨fl.toArray⟩ = true := by
  unfold PyData.strOk
  simp only [List.all_toArray, List.all_eq_true, decide_eq_true_eq]
  intro x hx
  have := LF.rng x hx
  omega
end Mine
namespace Mine
theorem first_str {fl : List Nat} {version : Int} {gs : List Int} {forced weak : Bool} (LF : LastF fl version gs forced weak) (os : List Int) : FirstOk (some (.str ⟨fl.toArray⟩, os)) := .inr ⟨_, rfl, fl_strOk LF⟩
theorem first_none : FirstOk none := trivial
end Mine
namespace Mine
theorem ans_yes {own : List (Addr × Obj)} {a : Addr} {version : Int} {weak : Bool} {r : Option (Int × List Int)} (x : AnsIn own a (ansI (if version = 0 ∨ weak = false then none else r))) (h0 : ¬ version = 0) (h1 : weak = true) : AnsIn own a (ansI r) := by
  rw [if_neg (fun e => e.elim h0 (fun e2 => Bool.false_ne_true (e2.symm.trans h1)))] at x
  exact x
theorem ans_no0 {own : List (Addr × Obj)} {a : Addr} {version : Int} {weak : Bool} {r : Option (Int × List Int)} (x : AnsIn own a (ansI (if version = 0 ∨ weak = false then none else r))) (h0 : version = 0) : AnsIn own a none := by
  rw [if_pos (.inl h0)] at x
  exact x
theorem ans_no1 {own : List (Addr × Obj)} {a : Addr} {version : Int} {weak : Bool} {r : Option (Int × List Int)} (x : AnsIn own a (ansI (if version = 0 ∨ weak = false then none else r))) (h1 : weak = false) : AnsIn own a none := by
  rw [if_pos (.inr h1)] at x
  exact x
theorem data1_len {fl : List Nat} {version : Int} {gs : List Int} {k : Nat} {forced weak : Bool} (LF : LastF fl version gs forced weak) (hk : 1 ≤ k ∧ k ≤ 19) : ((dataD fl version gs k).drop 1).length ≤ 200 ∧ 1 ≤ ((dataD fl version gs k).drop 1).length := by
  have := vals_len LF
  rw [List.length_drop, dataD_len]; omega
theorem data1_rng {fl : List Nat} {version : Int} {gs : List Int} {forced weak : Bool} (LF : LastF fl version gs forced weak) (k : Nat) : ∀ x ∈ (dataD fl version gs k).drop 1, 0 ≤ x ∧ x < 32 :=
  fun x hx => dataD_rng LF k x (List.mem_of_mem_drop hx)
end Mine
namespace Mine
theorem data_le {fl : List Nat} {version : Int} {gs : List Int} {k : Nat} {forced weak : Bool} (LF : LastF fl version gs forced weak) (hk : 1 ≤ k ∧ k ≤ 19) : 2 ≤ (dataD fl version gs k).length ∧ (dataD fl version gs k).length ≤ 200 := by
  have := vals_len LF
  rw [dataD_len]; omega
end Mine
end
section
open PySem PySem.W PySem.Calls PyProof.Rows
set_option Elab.async false
set_option maxRecDepth 100000
set_option maxHeartbeats 100000000
set_option linter.unusedVariables false
namespace Mine
set_option pp.deepTerms.threshold 8
local macro_rules | `(tactic| k_memK) => `(tactic| first | assumption | (refine List.Mem.tail _ ?_; k_memK))
local macro_rules | `(tactic| k_mem) => `(tactic| first | assumption | exact List.Mem.head _ | (refine List.Mem.tail _ ?_; k_mem))
local macro_rules | `(tactic| is_list) => `(tactic| exact News.isList (by k_asm) (by k_mem))
local macro_rules | `(tactic| k_all) => `(tactic| first | exact off1_mem (by assumption) | exact ne_below1 (by assumption) | exact ne_below (by assumption) | exact ne_below (ktn_ltOf (by assumption)) | (rename _ ∧ _ => l9; first | exact ne_below (ktn_ltOf l9.2) | exact ne_below (ktn_ltOf l9.2.2) | exact ne_below (ktn_ltOf l9.2.2.2) | exact ne_below (ktn_ltOf l9.2.2.2.2) | exact ne_below (ktn_ltOf l9.2.2.2.2.2)))
local macro_rules | `(tactic| k_room) => `(tactic| ktr_room)
local macro_rules | `(tactic| size_fits) => `(tactic| ((rw [PySem.sizeLine_eq]); (try simp only [List.size_toArray, Array.size_append]); kcf_lens; (try simp only [List.length_append, List.length_cons, List.length_nil, List.length_map, expand_length, create_length] at *); omega))
local macro_rules | `(tactic| walk_at "no place 0") => `(tactic| fail)
local macro_rules | `(tactic| walk_at "no place 1") => `(tactic| fail)
local macro_rules | `(tactic| walk_at "no place 2") => `(tactic| fail)
local macro_rules | `(tactic| walk_at "no place 3") => `(tactic| fail)
local macro_rules | `(tactic| walk_at "no place 4") => `(tactic| fail)
local macro_rules | `(tactic| walk_at "no place 5") => `(tactic| fail)
local macro_rules | `(tactic| walk_at "no place 6") => `(tactic| fail)
local macro_rules | `(tactic| walk_at "no place 7") => `(tactic| fail)
local macro_rules | `(tactic| walk_at "no place 8") => `(tactic| fail)
local macro_rules | `(tactic| walk_at "no place 9") => `(tactic| fail)
local macro_rules | `(tactic| walk_at "call ref") => `(tactic| (k_here; k_dflt (refine' create_c ?cB ?cF ?cX ?cN ?cT ?ck ?cd ?cu ?f0 ?f1 ?f2 ?f3 ?f4 ?_; (case cB => k_asm); (case cF => k_asm); (case cX => k_asm); (case cN => k_asm); (case cT => k_asm); (case ck => first | exact rfl | assumption); (case f0 => first | assumption | omega); (case f1 => assumption); (case f2 => k_mem); (case f3 => l_ints); (case f4 => first | assumption | omega | k_extra "len"); (case cd => ktr_room); (case cu => ktr_units); intro l9 vs9 n9 h9 tk9 F9 N9 hI9 o1; (replace o1 := off1_of o1); (try simp only [LCg.Off1, and_true] at o1); (try dsimp only); (try k_fold))))
local macro_rules | `(tactic| walk_at "call ref") => `(tactic| (k_here; k_dflt (refine' times_c ?cB ?cF ?cX ?cN ?cT ?ck ?cd ?cu ?f0 ?f1 ?_; (case cB => k_asm); (case cF => k_asm); (case cX => k_asm); (case cN => k_asm); (case cT => k_asm); (case ck => first | exact rfl | assumption); (case f0 => k_extra "bnd"); (case f1 => k_extra "bnd"); (case cd => ktr_room); (case cu => ktr_units); intro t9 h9 tk9 F9 N9; (try dsimp only); (try k_fold))))
local macro_rules | `(tactic| walk_at "call ref") => `(tactic| (k_here; k_dflt (refine' encode_c ?cB ?cF ?cX ?cN ?cT ?ck ?cd ?cu ?f0 ?f1 ?f2 ?f3 ?f4 ?f5 ?_; (case cB => k_asm); (case cF => k_asm); (case cX => k_asm); (case cN => k_asm); (case cT => k_asm); (case ck => first | exact rfl | assumption); (case f0 => first | assumption | omega); (case f1 => assumption); (case f2 => k_mem); (case f3 => l_ints); (case f4 => first | assumption | omega | k_extra "len"); (case f5 => k_extra "rng"); (case cd => ktr_room); (case cu => ktr_units); intro t9 h9 tk9 F9 N9; (try dsimp only); (try k_fold))))
local macro_rules | `(tactic| walk_at "call ref") => `(tactic| (k_here; k_dflt (refine' program_c ?cB ?cF ?cX ?cN ?cT ?ck ?cd ?cu ?f0 ?f1 ?f2 ?f3 ?f4 ?_ ?_; (case cB => k_asm); (case cF => k_asm); (case cX => k_asm); (case cN => k_asm); (case cT => k_asm); (case ck => first | exact rfl | assumption); (case f0 => k_mem); (case f1 => l_ints); (case f2 => first | assumption | omega | k_extra "len"); (case f3 => first | assumption | omega | k_extra "len1"); (case f4 => k_extra "rng"); (case cd => ktr_room); (case cu => ktr_units); intro e9 l9 h9 tk9 F9 N9 o1; (replace o1 := off1_of o1); (try simp only [LCg.Off1, and_true] at o1); (try dsimp only); (try k_fold); rotate_left; intro os9 e9 l9 lo9 t9 vs9 n9 h9 tk9 F9 N9 hI9 o1 o2 o3; (replace o1 := off1_of o1); (replace o2 := off1_of o2); (try simp only [LCg.Off1, and_true] at o1); (try simp only [LCg.Off1, and_true] at o2); (try dsimp only); (try k_fold); rotate_right)))
local macro_rules | `(tactic| walk_at "call ref") => `(tactic| (k_here; k_dflt (refine' low_c ?cB ?cF ?cX ?cN ?cT ?ck ?cd ?cu ?f0 ?_; (case cB => k_asm); (case cF => k_asm); (case cX => k_asm); (case cN => k_asm); (case cT => k_asm); (case ck => first | exact rfl | assumption); (case f0 => k_extra "bnd"); (case cd => ktr_room); (case cu => ktr_units); intro t9 h9 tk9 F9 N9; (try dsimp only); (try k_fold))))
local macro_rules | `(tactic| walk_at $s:str) => `(tactic| k_extra $s)
theorem law_holds : PySem.Challenge.rw_fw0005_01.Holds := hd (by
  k_fill
  k_with_none
  intro w s₀ s₁ mg mb G Y fa o pm cd doc dV kV ho hd hcd hD hmg hg args vals as hpre hlay hrd hwl hlo
  have KX := kIn_of Y
  have X := (Ground.X G).1
  have V := (Ground.X G).2
  refine Ground.open G ?_
  intro T B D TE TW
  try (refine guard_noD D (by decide +kernel) ?_; clear D)
  have hT9 : TabsAt [(47, 45)] s₁.heap := List.forall_mem_cons.mpr ⟨tab_of (x := Str.ofString "bech32_decode") T KX rfl (by kernel_rfl), fun _ h => nomatch h⟩
  clear hmg
  wrow_args hpre hlay hrd hwl hlo
  first | refine callC_kw (enter_call ?_) | refine enter_call ?_ | refine callC_kw (enter_callW ?_) | refine enter_callW ?_ | w_how
  w_top on
  refine' my_post hT9 (fun _ _ => rfl) ?hp ?_
  case hp => wrow_post
  w_call any ho hd hcd hD T F
  clear hd
  kn_ghosts F T
  k_drop
  clear codeHd V TE TW hcd hD ho Y
  (try k_fold)
  k_with "bnd" => exact low_arg _
  k_with "call builtin:chr" => k_dflt (refine chr_of_range (low_chr0 _) (low_chr1 _) ?_)
  k_with "call builtin:str.join" => k_dflt (refine join_all _ (by k_asm) (by k_mem) (by assumption) ?len ?_; (case len => (simp only [rangeKs_length]; omega)); intro _ _)
  k_with "eval IfExp" => k_dflt (refine int_joinL (fun x => 0 ≤ x ∧ x ≤ 16) ?_ ?_)
  k_steps
  · refine ⟨?_⟩
    k_with_none
    k_steps
  refine ⟨?_⟩
  k_with_none
  intro version tv tkv hver
  k_with "eval IfExp" => k_dflt (refine int_joinL (fun x => (version = 0 ∧ x = 32) ∨ (version ≠ 0 ∧ 4 ≤ x ∧ x ≤ 23)) ?_ ?_)
  k_steps
  · refine ⟨?_⟩
    k_with_none
    k_steps
    · exact Or.inl ⟨by assumption, rfl⟩
    · exact Or.inr ⟨by assumption, f20 _⟩
  refine ⟨?_⟩
  k_with_none
  intro many tm tkm hmany
  k_with "exec If" => k_dflt (refine Later.go ?_)
  k_steps
  as_aux_lemma =>
    w_top off
    k_with_none
    rename Fr _ _ _ _ => F9
    rename News _ _ _ _ => N9
    refine cutB F9 N9 (by rfl) (by rfl) (by rfl) (by rfl) (by rfl) (by rfl) (by assumption) (by assumption) (by assumption) (by assumption) (by assumption) (show IntsAre _ (_ ++ [4, 1, 8]) by assumption) (by simp only [List.length_append, List.length_map, List.length_take, List.length_cons, List.length_nil]; omega) ?_
    clear F9 N9
    intro m9 fl n fs row forced F9 N9 Sx Fa hFs hRow
    refine ⟨?_⟩
    refine stmt_join F9 N9 Sx Fa ?_ ?_
    · refine ⟨?_⟩
      as_aux_lemma =>
        w_top off
        k_with_none
        rename Six _ _ _ _ _ _ _ => Sx
        rename Facts _ _ _ _ _ _ => Fa
        have Sx' := Sx
        obtain ⟨⟨_, q1⟩, ⟨_, q2⟩, ⟨_, q3⟩, ⟨_, q4⟩, q5, q6⟩ := Sx'
        have Fa' := Fa
        obtain ⟨f0, f1, f2, f3, f4, f5, f6, f7, f8, f9, f10⟩ := Fa'
        k_with "eval Name" => k_dflt (refine nameX_L (by k_asm) (by first | exact q1 | exact q2 | exact q3 | exact q4 | exact q5 | exact q6) ?_ (by rfl) (by rfl); (try dsimp only))
        k_with "bnd" => first | decide | exact xor1_at _
        k_with "len" => (simp only [List.length_append, List.length_cons, List.length_nil, List.length_take, List.length_drop]; omega)
        k_with "call ref" => ((k_dflt (refine' create_c ?cB ?cF ?cX ?cN ?cT ?ck ?cd ?cu ?f0 ?f1 ?f2 ?f3 ?f4 ?_; (case cB => k_asm); (case cF => k_asm); (case cX => k_asm); (case cN => k_asm); (case cT => k_asm); (case ck => first | exact rfl | assumption); (case f0 => omega); (case f1 => assumption); (case f2 => k_mem); (case f3 => l_ints); (case f4 => k_extra "len"); (case cd => ktr_room); (case cu => ktr_units); intro l9 vs9 n9 h9 tk9 F9 N9 hI9 o1; (replace o1 := off1_of o1); (try simp only [LCg.Off1, and_true] at o1); (try dsimp only); (try k_fold))))
        k_with "subscriptTail Name Constant ref int" => (with_unfolding_all refine' item_list_ints ?k1 ?k2 ?k3 ?k4 ?k5 ?_; (case k1 => is_list); (case k2 => l_ints); (case k3 => decide); (case k4 => (rw [create_length]; decide)); (case k5 => decide); k_whole; intro _)
        k_steps
        · rename News _ _ _ _ => N9
          rename Fr _ _ _ _ => Fx
          refine ⟨_, _, _, _, Fx, ⟨⟨_, q1⟩, ⟨_, q2⟩, ⟨_, q3⟩, ⟨_, q4⟩, by rfl, q6⟩, kst_newsOf N9 (by kst_inAny), ?_, by unfold forcedFs; rw [if_pos (by assumption)]; assumption, rfl, rfl⟩
          intro p hp
          simp only [List.mem_cons, List.not_mem_nil, or_false] at hp
          rcases hp with rfl | rfl | rfl <;> (show (_ : Nat) ≠ _; omega)
        · rename News _ _ _ _ => N9
          rename Fr _ _ _ _ => Fx
          refine ⟨_, _, _, _, Fx, ⟨⟨_, q1⟩, ⟨_, q2⟩, ⟨_, q3⟩, ⟨_, q4⟩, q5, q6⟩, kst_newsOf N9 (by kst_inAny), ?_, by unfold forcedFs; rw [if_neg (by simp [*])]; assumption, rfl, rfl⟩
          intro p hp
          simp only [List.mem_cons, List.not_mem_nil, or_false] at hp
          rcases hp with rfl | rfl | rfl <;> (show (_ : Nat) ≠ _; omega)
    · refine ⟨?_⟩
      as_aux_lemma =>
        rename Facts _ _ _ _ _ _ => Fa
        obtain ⟨f0, f1, f2, f3, f4, f5, f6, f7, f8, f9, f10⟩ := Fa
        intro s5 hs5
        w_top off
        k_with_none
        obtain ⟨m5, l5, vs5, c5, F5, Sx5, N5, off5, hI5, g5, o5⟩ := hs5
        obtain ⟨⟨_, q1⟩, ⟨_, q2⟩, ⟨_, q3⟩, ⟨_, q4⟩, q5, q6⟩ := Sx5
        obtain ⟨gs, hgs, hIg, hgl, hgr⟩ := forced_ex hI5 (by omega) f9
        clear hI5
        have hr5 := cons_rng f5 f6 hgr
        (try dsimp only)
        k_with "eval Name" => k_dflt (refine nameX_L (by k_asm) (by first | exact q1 | exact q2 | exact q3 | exact q4 | exact q5 | exact q6) ?_ (by rfl) (by rfl); (try dsimp only))
        k_with "len" => (simp only [List.length_append, List.length_cons, List.length_nil, List.length_take, List.length_drop]; omega)
        k_with "rng" => exact hr5
        have e1 : (1 + n + 1 : Int) = (fl.length : Int) + 1 := by omega
        k_with "call builtin:len" => k_dflt (refine P.len_str (by rw [enc_len]; simp only [List.length_append, List.length_cons, List.length_nil]; omega) ?_; rw [enc_len]; (try simp only [List.length_append, List.length_cons, List.length_nil]); (try dsimp only))
        k_with "subscriptTail" => k_dflt (first
          | (refine slice_strN_sn (hsz := by rw [enc_len, sizeLine_eq]; simp only [List.length_append, List.length_cons, List.length_nil]; omega) (s := ⟨_, _, _, _, _⟩) (by k_asm) (by k_asm) ?_; intro _ _ _ _ _; rw [e1, enc_tail])
          | (refine slice_strN_ns (hsz := by rw [enc_len, sizeLine_eq]; simp only [List.length_append, List.length_cons, List.length_nil]; omega) (s := ⟨_, _, _, _, _⟩) (by k_asm) (by k_asm) ?_; intro _ _ _ _ _; rw [e1, enc_head]))
        have hcr : ∀ x ∈ ([version] ++ gs) ++ create fl ([version] ++ gs), 0 ≤ x ∧ x < 32 := fun x hx => encode_rng hr5 hx
        have hcl : (([version] ++ gs) ++ create fl ([version] ++ gs)).length = fs.length + 7 := by simp only [List.length_append, create_length, List.length_cons, List.length_nil, hgl]; omega
        k_with "binaryOp Add str str" => k_dflt (refine add_texts fl [49] rfl (by decide) (by simp only [List.length_cons, List.length_nil]; omega) ?_; intro _ _)
        k_with "exec Assign cons ListComp" => k_dflt (refine assign_listcomp_str ((([version] ++ gs) ++ create fl ([version] ++ gs)).map sgn) (fun c => Txt.find (Str.mk charset.toArray) (Str.mk #[c])) (fun c hc => by have := charset_ok c (signs_ok hcr c hc); omega) (by rw [List.length_map, hcl, sizeLine_eq]; omega) (by with_unfolding_all rfl) rfl (by with_unfolding_all rfl) (by with_unfolding_all rfl) (by decide) (by rfl) (by decide) (by rfl) (by with_unfolding_all rfl) (by with_unfolding_all rfl) (by k_asm) ?_)
        k_steps
        · exfalso; omega
        · exfalso; rename (_ != _) = true => e9; simp at e9
        refine StrSrcA.intro (by k_asm) (by k_asm) ?_ ?_
        · intro c t I oI C oC D m₂ ys h tk E' hc hC hx F' N' off ne
          k_with_none
          k_with "call builtin:str.find" => k_dflt (refine KXw.find rfl ?_; intro _ _)
          k_steps
          rw [show Str.ofString "qpzry9x8gf2tvdw0s3jn54khce6mua7l" = Str.mk charset.toArray from by decide]
          exact kcf_el rfl rfl rfl
        · intro D h tk ys hy F' N' o1
          k_with_none
          rw [find_map hcr] at hy
          (try dsimp only)
          as_aux_lemma =>
            w_top off
            k_with_none
            rename IntsAre _ (_ ++ create _ _) => hVal
            (try dsimp only)
            k_with "eval Name" => k_dflt (refine nameX_L (by k_asm) (by first | exact q1 | exact q2 | exact q3 | exact q4 | exact q5 | exact q6) ?_ (by rfl) (by rfl); (try dsimp only))
            k_with "len" => (simp only [List.length_append, List.length_cons, List.length_nil, List.length_take, List.length_drop]; omega)
            k_with "subscriptTail" => k_dflt (refine item_last _ _ (enc_last fl ([version] ++ gs)) ?_ rfl; intro _)
            k_with "exec If" => k_dflt ((with_reducible show wpAny _ _ (exec (Stmt.If (Expr.BoolOp BoolOp.And _ _) _ _ _) _) _ _ _); refine Later.go ?_)
            k_steps
            · exfalso
              rename List.any _ _ = true => e9
              rw [List.any_eq_true] at e9
              obtain ⟨x, hx, hx'⟩ := e9
              have := hcr x hx
              simp at hx'
              omega
            · refine ⟨?_⟩
              as_aux_lemma =>
                w_top off
                k_with_none
                rename Fr _ _ _ _ => F9
                rename News _ _ _ _ => N9
                refine cutF F9 N9 (by exact q2) (by exact q3) (by exact q5) (by exact q6) (by rfl) (by rfl) (by rfl) ⟨f0, f1, f2, f3, f4, f5, f6, f7, f8, f9, f10⟩ hgs hgl hgr hVal hIg hRow ⟨off1_mem o1 (45, tabObj #[]) (by k_mem), off5 (45, tabObj #[]) (by k_mem), by (show (_ : Nat) ≠ _); omega, by (show (_ : Nat) ≠ _); (try dsimp only); omega⟩ ?_
                clear F9 N9 hVal hIg hRow hcl hcr e1 hr5 hgr hgl hgs q1 q2 q3 q4 q5 q6 off5 f0 f1 f2 f3 f4 f5 f6 f7 f8 f9 f10 hFs Sx
                intro m9 fl version gs row forced weak F9 N9 L8 LF hV hG hR hr3 h45
                refine stmt_aft F9 N9 ?_ ?_
                · refine ⟨?_⟩
                  as_aux_lemma =>
                    w_top off
                    k_with_none
                    obtain ⟨⟨_, q2⟩, ⟨_, q3⟩, q5, q6, ⟨_, q7⟩, q8, q9⟩ := L8
                    obtain ⟨z0, z1, z2, z3, z4, z5, z6, z7, zf, zw⟩ := LF
                    k_with "eval Name" => k_dflt (refine nameX_L (by k_asm) (by first | exact q2 | exact q3 | exact q5 | exact q6 | exact q7 | exact q8 | exact q9) ?_ (by rfl) (by rfl); (try dsimp only))
                    rename Shared.gens _ = #[] => hg
                    k_steps
                    all_goals first
                      | (exfalso; exact Bool.false_ne_true ((by assumption : weak = false).symm.trans (zf (by assumption))))
                      | (rename Fr _ _ _ _ => Fx; rename News _ _ _ _ => Nx; exact ⟨#[], Fx, Nx, trivial, AllBare.of_eq (g5.trans hg), rfl⟩)
                · refine ⟨?_⟩
                  as_aux_lemma =>
                    intro s6 hs6
                    w_top off
                    k_with_none
                    obtain ⟨ps6, F6, N6, ht6, G6, o6⟩ := hs6
                    (try dsimp only)
                    k_with "exec If" => k_dflt (refine Later.go ?_)
                    k_steps
                    refine ⟨?_⟩
                    refine stmt_aft F6 N6 ?_ ?_
                    · refine ⟨?_⟩
                      as_aux_lemma =>
                        w_top off
                        k_with_none
                        have LF' := LF
                        obtain ⟨⟨_, q2⟩, ⟨_, q3⟩, q5, q6, ⟨_, q7⟩, q8, q9⟩ := L8
                        obtain ⟨z0, z1, z2, z3, z4, z5, z6, z7, zf, zw⟩ := LF'
                        k_with "eval Name" => k_dflt (refine nameX_L (by k_asm) (by first | exact q2 | exact q3 | exact q5 | exact q6 | exact q7 | exact q8 | exact q9) ?_ (by rfl) (by rfl); (try dsimp only))
                        k_with "call ref" => (k_dflt (first
                          | (refine decode_made LF (by k_asm) (by k_asm) (by k_asm) (by k_asm) (by k_asm) (by first | exact rfl | assumption) (by ktr_room) (by ktr_units) (by k_updF) ht6 G6 ?_; intro l9 o9 ⟨lq9, oq9⟩ ps9 s9 F9 N9 x9 ht9 n1 n2 G9 os9; (replace n1 := off1_of n1); (replace n2 := off1_of n2); (try simp only [LCg.Off1, and_true] at n1 n2); (try dsimp only))
                          | (refine program_one (by k_asm) (by k_asm) (by k_asm) (by k_asm) (by k_asm) (by first | exact rfl | assumption) (by ktr_room) (by ktr_units) (by k_mem) hG (by omega) (by omega) z7 ?_; intro l8 o8 ⟨lq8, oq8⟩ h8 tk8 F8 N8 x8 n3 n4; (replace n3 := off1_of n3); (replace n4 := off1_of n4); (try simp only [LCg.Off1, and_true] at n3 n4); (try dsimp only))))
                        k_with "compareOp NotEq ref ref" => k_dflt (refine ne_ans _ (first_ansI _) (AnsIn.at (by assumption) (by k_asm) (by k_mem) (by k_mem)) (AnsIn.at (by assumption) (by k_asm) (by k_mem) (by k_mem)) (by ke_room) ?_)
                        k_steps
                        exact ⟨ps9, F8, kst_newsOf N8 (by kst_inAny), ht9, G9, os9⟩
                    · refine ⟨?_⟩
                      as_aux_lemma =>
                        intro s7 hs7
                        w_top off
                        k_with_none
                        obtain ⟨ps7, F7, N7, ht7, G7, o7⟩ := hs7
                        have LF' := LF
                        have L8' := L8
                        obtain ⟨⟨_, q2⟩, ⟨_, q3⟩, q5, q6, ⟨_, q7⟩, q8, q9⟩ := L8
                        obtain ⟨z0, z1, z2, z3, z4, z5, z6, z7, zf, zw⟩ := LF'
                        (try dsimp only)
                        k_with "eval Name" => k_dflt (refine nameX_L (by k_asm) (by first | exact q2 | exact q3 | exact q5 | exact q6 | exact q7 | exact q8 | exact q9) ?_ (by rfl) (by rfl); (try dsimp only))
                        k_with "exec If" => k_dflt (refine Later.go ?_)
                        k_with "subscriptTail Name Slice str ref" => k_dflt (refine Later.go ?_)
                        k_steps
                        refine ⟨?_⟩
                        rename Fr _ _ _ (fun y => if y = _ then _ else _) => F8
                        refine cutP F8 L8' ?_
                        clear F8 L8' q2 q3 q5 q6 q7 q8 q9
                        intro m8 p F8 L8 hp8 hp1 hp2
                        as_aux_lemma =>
                          w_top off
                          k_with_none
                          have L8' := L8
                          obtain ⟨⟨_, q2⟩, ⟨_, q3⟩, q5, q6, ⟨_, q7⟩, q8, q9⟩ := L8'
                          obtain ⟨_, qp⟩ := hp8
                          have hcl := vals_len LF
                          k_with "eval Name" => k_dflt (refine nameX_L (by k_asm) (by first | exact q2 | exact q3 | exact q5 | exact q6 | exact q7 | exact q8 | exact q9 | exact qp) ?_ (by rfl) (by rfl); (try dsimp only))
                          k_with "exec If" => k_dflt (refine Later.go ?_)
                          k_with "subscriptTail Name Slice str ref" => k_dflt (refine slice_strN_ns (hsz := enc_size LF) (s := ⟨_, _, _, _, _⟩) (by k_asm) (by k_asm) ?_; intro _ _ _ _ _; rw [text_init])
                          k_with "subscriptTail Name UnaryOp str int" => k_dflt (refine item_last _ _ (enc_last _ _) ?_ rfl; intro _)
                          k_with "binaryOp Mult str int" => k_dflt (refine mul_qK hp1 hp2 ?_; intro _ _)
                          k_with "binaryOp Add str str" => k_dflt (refine add_texts _ _ rfl rfl (by simp only [List.length_append, List.length_cons, List.length_nil, List.length_map, List.length_take, List.length_replicate, create_length]; omega) ?_; intro _ _; (try rw [grown_textD]))
                          k_with "subscriptTail BinOp BinOp Add Subscript Slice ref ref" => k_dflt (refine kba_turn (value' := PySem.Expr.Name (PySem.Str.ofString "_") ⟨0, 0, 0, 0⟩) (fun _ => rfl) ?_)
                          iterate 39 walk1
                          dsimp only
                          iterate 11 walk1
                          dsimp only
                          iterate 9 walk1
                          dsimp only
                          repeat walk1
                          refine ⟨?_⟩
                          rename Fr _ _ _ _ => F9
                          rename News _ _ _ _ => N9
                          rename IntsAre _ (List.take _ _) => hD9
                          refine cutR F9 N9 (by k_mem) (by k_mem) (by (show (_ : Nat) ≠ _); omega) (by exact q2) (by exact q3) (by exact q9) (by rfl) (by rfl) LF hp1 hp2 hD9 ?_
                          clear F9 N9 hD9 q2 q3 q5 q6 q7 q8 q9 qp hcl LF L8
                          intro m9 kp F9 N9 L5 LF hD hkp h45
                          refine stmt_aft F9 N9 ?_ ?_
                          · refine ⟨?_⟩
                            as_aux_lemma =>
                              w_top off
                              k_with_none
                              obtain ⟨⟨_, q2⟩, ⟨_, q3⟩, q9, ⟨_, q7⟩, q8⟩ := L5
                              k_with "eval Name" => k_dflt (refine nameX_L (by k_asm) (by first | exact q2 | exact q3 | exact q7 | exact q8 | exact q9) ?_ (by rfl) (by rfl); (try dsimp only))
                              k_with "call ref" => k_dflt (refine bdecode_grown LF hkp (by k_asm) (by k_asm) (by k_asm) (by k_asm) (by k_asm) (by first | exact rfl | assumption) (by ktr_room) (by ktr_units) (by k_updF) ht7 G7 ?_; intro l9 o9 ⟨lq9, oq9⟩ ps9 s9 F9 N9 x9 ht9 n1 n2 G9 os9; (replace n1 := off1_of n1); (replace n2 := off1_of n2); (try simp only [LCg.Off1, and_true] at n1 n2); (try dsimp only))
                              k_with "compareOp NotEq ref ref" => (first
                                | (rw [if_pos (show weak = true by assumption)] at x9; k_dflt (refine ne_ans _ (first_str LF _) (AnsIn.at x9 (by k_asm) (by k_mem) (by k_mem)) (AnsAt.str (by k_asm) (by k_mem) (by k_mem) hD) (by ke_room) ?_))
                                | (rw [if_neg (show ¬ weak = true from fun e => Bool.false_ne_true ((by assumption : weak = false).symm.trans e))] at x9; k_dflt (refine ne_ans _ first_none (AnsIn.at x9 (by k_asm) (by k_mem) (by k_mem)) (AnsAt.none (by k_asm) (by k_mem)) (by ke_room) ?_)))
                              k_steps
                              all_goals
                                rename Fr _ _ _ _ => Fx
                                rename News _ _ _ _ => Nx
                                exact ⟨ps9, Fx, kst_newsOf Nx (by kst_inAny), ht9, G9, os9⟩
                          · refine ⟨?_⟩
                            as_aux_lemma =>
                              intro s8 hs8
                              w_top off
                              k_with_none
                              obtain ⟨ps8, F8, N8, ht8, G8, oS8⟩ := hs8
                              obtain ⟨⟨_, q2⟩, ⟨_, q3⟩, q9, ⟨_, q7⟩, q8⟩ := L5
                              have hdl := data_le LF hkp
                              have h45s := Heap.lt_size (N8 (45, tabObj ps8) (by k_mem)).1
                              replace h45s : (45 : Nat) < _ := h45s
                              (try dsimp only)
                              k_with "eval Name" => k_dflt (refine nameX_L (by k_asm) (by first | exact q2 | exact q3 | exact q7 | exact q8 | exact q9) ?_ (by rfl) (by rfl); (try dsimp only))
                              k_with "call ref" => (k_dflt (first
                                | (refine decode_grown LF hkp (by k_asm) (by k_asm) (by k_asm) (by k_asm) (by k_asm) (by first | exact rfl | assumption) (by ktr_room) (by ktr_units) (by k_updF) ht8 G8 ?_; intro l9 o9 ⟨lq9, oq9⟩ ps9 s9 F9 N9 x9 ht9 n1 n2 G9 os9; (replace n1 := off1_of n1); (replace n2 := off1_of n2); (try simp only [LCg.Off1, and_true] at n1 n2); (try dsimp only))
                                | (refine program_one (by k_asm) (by k_asm) (by k_asm) (by k_asm) (by k_asm) (by first | exact rfl | assumption) (by ktr_room) (by ktr_units) (by k_mem) (by assumption) (data1_len LF hkp).1 (data1_len LF hkp).2 (data1_rng LF kp) ?_; intro l8 o8 ⟨lq8, oq8⟩ h8 tk8 F8 N8 x8 n3 n4; (replace n3 := off1_of n3); (replace n4 := off1_of n4); (try simp only [LCg.Off1, and_true] at n3 n4); (try dsimp only))))
                              k_with "compareOp Eq ref ref" => (first
                                | (have x7 := ans_yes x9 (by assumption) (by assumption); k_dflt (refine eq_ans _ (first_ansI _) (AnsIn.at x7 (by k_asm) (by k_mem) (by k_mem)) (AnsIn.at x8 (by k_asm) (by k_mem) (by k_mem)) (by ke_room) ?_))
                                | (have x7 := ans_no0 x9 (by assumption); k_dflt (refine eq_ans _ first_none (AnsIn.at x7 (by k_asm) (by k_mem) (by k_mem)) (AnsAt.none (by k_asm) (by k_mem)) (by ke_room) ?_))
                                | (have x7 := ans_no1 x9 (by assumption); k_dflt (refine eq_ans _ first_none (AnsIn.at x7 (by k_asm) (by k_mem) (by k_mem)) (AnsAt.none (by k_asm) (by k_mem)) (by ke_room) ?_)))
                              k_steps
                              all_goals exact ⟨rfl, F9.keep, os9.trans (oS8.trans (o7.trans (o6.trans o5))), G9, GrownAt.of N9 (by k_mem), trivial⟩
            · exfalso; rename ¬ List.take _ _ = _ => e9; exact e9 (vals_head _ (by omega)))
end Mine
end
theorem PySem.Challenge.cw_fw0005_01_holds : PySem.Challenge.rw_fw0005_01.Holds :=
  Mine.law_holds
