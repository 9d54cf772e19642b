import PyProof.Rows.All
import Wide.All
import OpenK.AllK
import Wide.FinOn
import PySem.Challenge.RW_ny0003_01
open PySem PySem.W PyProof.Rows PySem.Calls
set_option Elab.async false
set_option maxRecDepth 100000
namespace Mine
def twosN : Nat → Nat → Nat
  | 0, _ => 0
  | f + 1, n => if n % 2 = 0 then twosN f (n / 2) + 1 else 0
def oddN : Nat → Nat → Nat
  | 0, n => n
  | f + 1, n => if n % 2 = 0 then oddN f (n / 2) else n
def perN : Nat → Nat → Nat → Nat
  | 0, _, k => k
  | f + 1, n, k => if (16 ^ k - 1) % n = 0 then k else perN f n (k + 1)
def twoOf (n : Nat) : Nat := twosN 6 n
def oddOf (n : Nat) : Nat := oddN 6 n
def perOf (n : Nat) : Nat := perN 18 n 1

theorem fmod_nat (a b : Nat) : Int.fmod (a : Int) (b : Int) = ((a % b : Nat) : Int) := by
  rw [Int.fmod_eq_emod_of_nonneg _ (Int.natCast_nonneg b)]; rfl
theorem fdiv_nat (a b : Nat) : Int.fdiv (a : Int) (b : Int) = ((a / b : Nat) : Int) := by
  rw [Int.fdiv_eq_ediv_of_nonneg _ (Int.natCast_nonneg b)]; rfl

/-- the gcd loop -/
def G1 (upper lower common other : Int) : Prop :=
  0 < common ∧ common ≤ 36 ∧ 0 ≤ other ∧ other ≤ 36 ∧ Nat.gcd common.toNat other.toNat = Nat.gcd lower.toNat upper.toNat
theorem G1_start {u l : Int} (h0 : 0 ≤ u) (h1 : u < l) (h2 : l ≤ 36) : G1 u l l u := ⟨by omega, by omega, by omega, by omega, rfl⟩
theorem G1_turn {u l c o : Int} (h : G1 u l c o) (ho : o ≠ 0) : G1 u l o (c.fmod o) ∧ (c.fmod o).toNat < o.toNat := by
  obtain ⟨h1, h2, h3, h4, h5⟩ := h
  obtain ⟨a, rfl⟩ := Int.eq_ofNat_of_zero_le (Int.le_of_lt h1)
  obtain ⟨b, rfl⟩ := Int.eq_ofNat_of_zero_le h3
  have hb : 0 < b := by omega
  have hlt := Nat.mod_lt a hb
  rw [fmod_nat]
  simp only [Int.toNat_natCast] at *
  refine ⟨⟨by omega, by omega, by omega, by omega, ?_⟩, hlt⟩
  rw [← h5, Int.toNat_natCast, Int.toNat_natCast, Nat.gcd_comm a b, Nat.gcd_rec b a, Nat.gcd_comm]
theorem G1_end {u l c : Int} (h : G1 u l c 0) : c = ((Nat.gcd l.toNat u.toNat : Nat) : Int) := by
  obtain ⟨h1, h2, h3, h4, h5⟩ := h
  simp only [Int.toNat_zero, Nat.gcd_zero_right] at h5
  omega

/-- the twos loop -/
def G2 (odd₀ odd twos : Int) : Prop :=
  0 < odd ∧ odd ≤ 36 ∧ 0 ≤ twos ∧ twos ≤ 5 ∧ (twoOf odd.toNat : Int) + twos = (twoOf odd₀.toNat : Int) ∧ oddOf odd.toNat = oddOf odd₀.toNat
theorem two_le : ∀ n : Nat, n < 37 → 0 < n → twoOf n ≤ 5 := by decide
theorem two_even : ∀ n : Nat, n < 37 → 0 < n → n % 2 = 0 → twoOf n = twoOf (n / 2) + 1 ∧ oddOf n = oddOf (n / 2) ∧ 0 < n / 2 ∧ n / 2 < n := by decide
theorem two_odd : ∀ n : Nat, n < 37 → 0 < n → n % 2 ≠ 0 → twoOf n = 0 ∧ oddOf n = n := by decide
theorem G2_start {o : Int} (h : 0 < o) (h2 : o ≤ 36) : G2 o o 0 := ⟨h, h2, by omega, by omega, by omega, rfl⟩
theorem G2_turn {o₀ o t : Int} (h : G2 o₀ o t) (he : o.fmod 2 = 0) (hb0 : 0 < o₀) (hb : o₀ ≤ 36) : G2 o₀ (o.fdiv 2) (t + 1) ∧ (o.fdiv 2).toNat < o.toNat := by
  obtain ⟨h1, h2, h3, h4, h5, h6⟩ := h
  obtain ⟨a, rfl⟩ := Int.eq_ofNat_of_zero_le (Int.le_of_lt h1)
  rw [show (2 : Int) = ((2 : Nat) : Int) from rfl, fmod_nat] at he
  rw [show (2 : Int) = ((2 : Nat) : Int) from rfl, fdiv_nat]
  have he' : a % 2 = 0 := by omega
  obtain ⟨e1, e2, e3, e4⟩ := two_even a (by omega) (by omega) he'
  have hx := two_le o₀.toNat (by omega) (by omega)
  simp only [Int.toNat_natCast] at *
  refine ⟨⟨by omega, by omega, by omega, by omega, ?_, ?_⟩, e4⟩
  · rw [Int.toNat_natCast]; omega
  · rw [Int.toNat_natCast, ← h6, e2]
theorem G2_end {o₀ o t : Int} (h : G2 o₀ o t) (he : o.fmod 2 ≠ 0) : t = (twoOf o₀.toNat : Int) ∧ o = (oddOf o₀.toNat : Int) ∧ o.toNat % 2 = 1 := by
  obtain ⟨h1, h2, h3, h4, h5, h6⟩ := h
  obtain ⟨a, rfl⟩ := Int.eq_ofNat_of_zero_le (Int.le_of_lt h1)
  rw [show (2 : Int) = ((2 : Nat) : Int) from rfl, fmod_nat] at he
  have he' : a % 2 ≠ 0 := by omega
  obtain ⟨e1, e2⟩ := two_odd a (by omega) (by omega) he'
  simp only [Int.toNat_natCast] at *
  exact ⟨by omega, by omega, by omega⟩

/-- the rounds loop -/
def G3 (odd size : Int) : Prop := 1 ≤ size ∧ size ≤ (perOf odd.toNat : Int)
theorem per_all : ∀ n : Nat, n < 37 → n % 2 = 1 → 1 ≤ perOf n ∧ perOf n ≤ 11 ∧ (16 ^ perOf n - 1) % n = 0 ∧ ∀ k, k < perOf n → 1 ≤ k → (16 ^ k - 1) % n ≠ 0 := by decide
theorem G3_start {o : Int} (h : 0 < o) (h2 : o ≤ 36) (h3 : o.toNat % 2 = 1) : G3 o 1 := ⟨by omega, by have := per_all o.toNat (by omega) h3; omega⟩
theorem pow_nat {o s : Int} (ho : 0 ≤ o) (hs : 0 ≤ s) : ((16 : Int) ^ s.toNat - 1).fmod o = (((16 ^ s.toNat - 1) % o.toNat : Nat) : Int) := by
  obtain ⟨a, rfl⟩ := Int.eq_ofNat_of_zero_le ho
  obtain ⟨k, rfl⟩ := Int.eq_ofNat_of_zero_le hs
  simp only [Int.toNat_natCast]
  rw [← fmod_nat]
  congr 1
  have h1 : 1 ≤ 16 ^ k := Nat.pow_pos (by decide)
  rw [Int.natCast_sub h1]
  simp
theorem G3_turn {o s : Int} (h : G3 o s) (ho : 0 < o) (h2 : o ≤ 36) (h3 : o.toNat % 2 = 1) (hn : ((16 : Int) ^ s.toNat - 1).fmod o ≠ 0) : G3 o (s + 1) ∧ (perOf o.toNat) - (s + 1).toNat < perOf o.toNat - s.toNat := by
  obtain ⟨a, b⟩ := h
  rw [pow_nat (by omega) (by omega)] at hn
  obtain ⟨p1, p2, p3, p4⟩ := per_all o.toNat (by omega) h3
  have : s.toNat ≠ perOf o.toNat := by
    intro e
    rw [e] at hn
    omega
  exact ⟨⟨by omega, by omega⟩, by omega⟩
theorem G3_end {o s : Int} (h : G3 o s) (ho : 0 < o) (h2 : o ≤ 36) (h3 : o.toNat % 2 = 1) (hn : ((16 : Int) ^ s.toNat - 1).fmod o = 0) : s = (perOf o.toNat : Int) := by
  obtain ⟨a, b⟩ := h
  rw [pow_nat (by omega) (by omega)] at hn
  obtain ⟨p1, p2, p3, p4⟩ := per_all o.toNat (by omega) h3
  have := p4 s.toNat
  by_cases hh : s.toNat < perOf o.toNat
  · exact absurd (by omega) (this hh (by omega))
  · omega
theorem G2_bnd {o₀ o t : Int} (h : G2 o₀ o t) : 0 < o ∧ o ≤ 36 := ⟨h.1, h.2.1⟩
theorem G3_bnd {o s : Int} (h : G3 o s) (ho : 0 < o) (h2 : o ≤ 36) (h3 : o.toNat % 2 = 1) : 0 ≤ s ∧ s ≤ 11 := by
  obtain ⟨a, b⟩ := h
  obtain ⟨p1, p2, p3, p4⟩ := per_all o.toNat (by omega) h3
  omega
def hdN (u l : Nat) : Nat := (twoOf (l / Nat.gcd l u) + 3) / 4
def szN (u l : Nat) : Nat := perOf (oddOf (l / Nat.gcd l u))
theorem head_is {u l od t : Int} (hod : od = ((l.toNat / Nat.gcd l.toNat u.toNat : Nat) : Int)) (ht : t = (twoOf od.toNat : Int)) : (t + 3).fdiv 4 = (hdN u.toNat l.toNat : Int) := by
  subst ht; subst hod
  rw [Int.toNat_natCast, show ∀ n : Nat, (n : Int) + 3 = ((n + 3 : Nat) : Int) from fun n => by omega, show (4 : Int) = ((4 : Nat) : Int) from rfl, fdiv_nat]; rfl
theorem size_is {u l od o s : Int} (hod : od = ((l.toNat / Nat.gcd l.toNat u.toNat : Nat) : Int)) (ho : o = (oddOf od.toNat : Int)) (hs : s = (perOf o.toNat : Int)) : s = (szN u.toNat l.toNat : Int) := by
  subst hs; subst ho; subst hod
  rw [Int.toNat_natCast, Int.toNat_natCast]; rfl
theorem sz_all : ∀ l : Nat, l < 37 → 2 ≤ l → ∀ u, u < l → hdN u l ≤ 2 ∧ 1 ≤ szN u l ∧ szN u l ≤ 11 := by decide +kernel
/-- the letters by long division -/
def letS (u l k : Nat) : Str := ⟨#[65 + 16 * (u * 16 ^ k % l) / l]⟩
def GL (upper lower : Int) (pre : List Int) (letters : List Str) (left : Int) : Prop :=
  left = ((upper.toNat * 16 ^ pre.length % lower.toNat : Nat) : Int) ∧ letters = (List.range pre.length).map (letS upper.toNat lower.toNat)
theorem GL_start {u l : Int} (h0 : 0 ≤ u) (h1 : u < l) : GL u l [] [] u ∧ ([] : List Str).length = ([] : List Int).length := by
  refine ⟨⟨?_, rfl⟩, rfl⟩
  obtain ⟨a, rfl⟩ := Int.eq_ofNat_of_zero_le h0
  obtain ⟨b, rfl⟩ := Int.eq_ofNat_of_zero_le (Int.le_trans h0 (Int.le_of_lt h1))
  simp only [Int.toNat_natCast, List.length_nil, Nat.pow_zero, Nat.mul_one]
  rw [Nat.mod_eq_of_lt (by omega)]
theorem GL_bnd {u l : Int} {pre : List Int} {ls : List Str} {left : Int} (h : GL u l pre ls left) (h2 : 2 ≤ l) : 0 ≤ left ∧ left < l := by
  obtain ⟨h1, _⟩ := h
  have := Nat.mod_lt (u.toNat * 16 ^ pre.length) (show 0 < l.toNat by omega)
  omega
theorem GL_turn {u l : Int} {pre : List Int} {ls : List Str} {left k : Int} (h : GL u l pre ls left) (hl : ls.length = pre.length) (h2 : 2 ≤ l) :
    GL u l (pre ++ [k]) (ls ++ [⟨#[65 + ((16 * left).fdiv l).toNat]⟩]) ((16 * left).fmod l) ∧ (ls ++ [(⟨#[65 + ((16 * left).fdiv l).toNat]⟩ : Str)]).length = (pre ++ [k]).length := by
  obtain ⟨h1, h3⟩ := h
  refine ⟨⟨?_, ?_⟩, by simp [hl]⟩
  · subst h1
    obtain ⟨b, rfl⟩ := Int.eq_ofNat_of_zero_le (show 0 ≤ l by omega)
    rw [show ∀ n : Nat, (16 : Int) * (n : Int) = ((16 * n : Nat) : Int) from fun n => by omega, fmod_nat]
    congr 1
    simp only [Int.toNat_natCast, List.length_append, List.length_cons, List.length_nil]
    rw [Nat.mul_mod, Nat.mod_mod, ← Nat.mul_mod, Nat.pow_succ]
    congr 1
    rw [Nat.mul_comm 16, Nat.mul_assoc]
  · rw [h3]
    simp only [List.length_append, List.length_cons, List.length_nil, Nat.zero_add, List.range_succ, List.map_append, List.map_cons, List.map_nil]
    congr 1
    subst h1
    obtain ⟨b, rfl⟩ := Int.eq_ofNat_of_zero_le (show 0 ≤ l by omega)
    rw [show ∀ n : Nat, (16 : Int) * (n : Int) = ((16 * n : Nat) : Int) from fun n => by omega, fdiv_nat]
    simp only [Int.toNat_natCast, letS]
theorem GL_idx {l left : Int} (h0 : 0 ≤ left) (h1 : left < l) : 0 ≤ (16 * left).fdiv l ∧ (16 * left).fdiv l < 16 := by
  rw [Int.fdiv_eq_ediv_of_nonneg _ (by omega)]
  exact ⟨Int.ediv_nonneg (by omega) (by omega), Int.ediv_lt_of_lt_mul (by omega) (by omega)⟩
theorem item_eq : ∀ n : Nat, n < 16 → Txt.item (Str.ofString "ABCDEFGHIJKLMNOP") (n : Int) = ⟨#[65 + n]⟩ := by decide +kernel
theorem item_fdiv {l left : Int} (h0 : 0 ≤ left) (h1 : left < l) : Txt.item (Str.ofString "ABCDEFGHIJKLMNOP") ((16 * left).fdiv l) = ⟨#[65 + ((16 * left).fdiv l).toNat]⟩ := by
  obtain ⟨a, b⟩ := GL_idx h0 h1
  obtain ⟨n, hn⟩ := Int.eq_ofNat_of_zero_le a
  rw [hn, item_eq n (by omega), Int.toNat_natCast]
theorem GL_turn' {u l : Int} {pre : List Int} {ls : List Str} {left k : Int} (h : GL u l pre ls left) (hl : ls.length = pre.length) (h2 : 2 ≤ l) :
    GL u l (pre ++ [k]) (ls ++ [Txt.item (Str.ofString "ABCDEFGHIJKLMNOP") ((16 * left).fdiv l)]) ((16 * left).fmod l) ∧ (ls ++ [Txt.item (Str.ofString "ABCDEFGHIJKLMNOP") ((16 * left).fdiv l)]).length = (pre ++ [k]).length := by
  obtain ⟨a, b⟩ := GL_bnd h h2
  rw [item_fdiv a b]
  exact GL_turn h hl h2
/-- Int2AP -/
def dgL (n : Nat) : List Nat := if h : n = 0 then [] else dgL (n / 16) ++ [65 + n % 16]
termination_by n
decreasing_by omega
theorem dgL_zero : dgL 0 = [] := by unfold dgL; simp
theorem dgL_pos {n : Nat} (h : n ≠ 0) : dgL n = dgL (n / 16) ++ [65 + n % 16] := by rw [dgL, dif_neg h]
theorem dgL_len : ∀ (k n : Nat), n < 16 ^ k → (dgL n).length ≤ k
  | 0, n, h => by
    have : n = 0 := by simpa using h
    subst this; rw [dgL_zero]; simp
  | k + 1, n, h => by
    by_cases h0 : n = 0
    · subst h0; rw [dgL_zero]; simp
    · rw [dgL_pos h0, List.length_append]
      have := dgL_len k (n / 16) (by rw [Nat.pow_succ] at h; omega)
      simp only [List.length_cons, List.length_nil]; omega
def apB (n : Nat) : List UInt8 := (dgL n).map UInt8.ofNat
def GA (n₀ num : Int) (val : Array UInt8) : Prop := 0 ≤ num ∧ apB num.toNat ++ val.toList = apB n₀.toNat
theorem GA_start {n : Int} (h : 0 ≤ n) : GA n n #[] := ⟨h, by simp⟩
theorem GA_turn {n₀ n : Int} {v : Array UInt8} (h : GA n₀ n v) (hn : n ≠ 0) : GA n₀ (n.fdiv 16) (#[UInt8.ofNat (65 + (n.fmod 16).toNat)] ++ v) ∧ (n.fdiv 16).toNat < n.toNat := by
  obtain ⟨h0, h1⟩ := h
  obtain ⟨a, rfl⟩ := Int.eq_ofNat_of_zero_le h0
  rw [show (16 : Int) = ((16 : Nat) : Int) from rfl, fmod_nat, fdiv_nat]
  simp only [Int.toNat_natCast] at *
  have ha : a ≠ 0 := by omega
  refine ⟨⟨by omega, ?_⟩, by omega⟩
  rw [← h1]
  simp only [Int.toNat_natCast, Array.toList_append]
  unfold apB
  rw [dgL_pos ha, List.map_append, List.append_assoc]
  rfl
theorem GA_end {n₀ : Int} {v : Array UInt8} (h : GA n₀ 0 v) : v = (apB n₀.toNat).toArray := by
  obtain ⟨h0, h1⟩ := h
  have e : apB (0 : Int).toNat = [] := by unfold apB; rw [Int.toNat_zero, dgL_zero]; rfl
  rw [e, List.nil_append] at h1
  rw [← h1, Array.toArray_toList]
theorem GA_size {n₀ n : Int} {v : Array UInt8} (h : GA n₀ n v) (hb : (dgL n₀.toNat).length ≤ 27) : v.size ≤ 27 := by
  have := congrArg List.length h.2
  unfold apB at this
  rw [List.length_append, List.length_map, List.length_map] at this
  have e : v.toList.length = v.size := rfl
  omega
def apLit : Array UInt8 := #[65, 66, 67, 68, 69, 70, 71, 72, 73, 74, 75, 76, 77, 78, 79, 80]
theorem picked_ap : ∀ n : Nat, n < 16 → KBy.picked apLit (some (n : Int)) (some ((n : Int) + 1)) = #[UInt8.ofNat (65 + n)] := by decide +kernel
theorem GA_end' {n₀ n : Int} {v : Array UInt8} (h : GA n₀ n v) (hn : n = 0) : v = (apB n₀.toNat).toArray := by
  subst hn; exact GA_end h
theorem apB_size {n : Nat} (h : (dgL n).length ≤ 27) : (apB n).toArray.size ≤ 27 := by
  rw [List.size_toArray]; unfold apB; rw [List.length_map]; exact h
theorem ints_filter {ys : List Value} {ns : List Int} (h : CarriedAll ys (List.map PyData.int (List.filter (fun _ => true) ns))) : IntsAre ys ns := by
  rw [List.filter_eq_self.mpr (fun _ _ => rfl)] at h
  exact IntsAre.ofCarried h
section
variable {prog : Program} {w : World} {A : Around} {E : Value → Shared → Prop} {s : Shared} {Q : Value → Shared → Prop}
theorem add_lower {n : Int} {t u : Tok} (h : ∀ lo : Int, lo = 2 + n.fmod 35 → 2 ≤ lo → lo ≤ 36 → Q (.int lo s.toks) { s with toks := s.toks + 1 }) :
    wpAny (model prog w) A (binaryOp .Add (.int 2 t) (.int (n.fmod 35) u)) Q E s := by
  refine add_int (h _ rfl ?_ ?_)
  · have := Int.fmod_nonneg_of_pos n (b := 35) (by decide); omega
  · have := Int.fmod_lt_of_pos n (b := 35) (by decide); omega
theorem mod_upper {q lo : Int} {t u : Tok} (h2 : 2 ≤ lo) (h36 : lo ≤ 36) (h : ∀ up : Int, up = q.fmod lo → 0 ≤ up → up < lo → Q (.int up s.toks) { s with toks := s.toks + 1 }) :
    wpAny (model prog w) A (binaryOp .Mod (.int q t) (.int lo u)) Q E s := by
  refine mod_int' (by omega) (h _ rfl ?_ ?_)
  · exact Int.fmod_nonneg_of_pos q (by omega)
  · exact Int.fmod_lt_of_pos q (by omega)
theorem div_odd {u l c o : Int} {t t' : Tok} (h : G1 u l c o) (ho : o = 0) (h2 : 2 ≤ l) (h36 : l ≤ 36)
    (k : ∀ od : Int, od = ((l.toNat / Nat.gcd l.toNat u.toNat : Nat) : Int) → 0 < od → od ≤ 36 → Q (.int od s.toks) { s with toks := s.toks + 1 }) :
    wpAny (model prog w) A (binaryOp .FloorDiv (.int l t) (.int c t')) Q E s := by
  subst ho
  have e := G1_end h
  obtain ⟨a, rfl⟩ := Int.eq_ofNat_of_zero_le (show 0 ≤ l by omega)
  simp only [Int.toNat_natCast] at *
  have hg : 0 < Nat.gcd a u.toNat := Nat.gcd_pos_of_pos_left _ (by omega)
  have hd : Nat.gcd a u.toNat ∣ a := Nat.gcd_dvd_left _ _
  have hpos : 0 < a / Nat.gcd a u.toNat := Nat.div_pos (Nat.le_of_dvd (by omega) hd) hg
  have hle : a / Nat.gcd a u.toNat ≤ a := Nat.div_le_self _ _
  have hc1 := h.1
  have hc2 := h.2.1
  have e2 : (a : Int).fdiv c = ((a / Nat.gcd a u.toNat : Nat) : Int) := by rw [e, fdiv_nat]
  refine floordiv_int (by omega) ?_ (Or.inl (PyProof.noPylong_small (by omega)))
  rw [e2]
  exact k _ rfl (by omega) (by omega)
theorem tuple_hs {od o tw sz up lo : Int} {t1 t2 : Tok} (hod : od = ((lo.toNat / Nat.gcd lo.toNat up.toNat : Nat) : Int)) (hTw : tw = (twoOf od.toNat : Int)) (hOdd : o = (oddOf od.toNat : Int))
    (hG : G3 o sz) (ho : 0 < o) (h2 : o ≤ 36) (h3 : o.toNat % 2 = 1) (hn : ((16 : Int) ^ sz.toNat - 1).fmod o = 0) (hlo2 : 2 ≤ lo) (hlo36 : lo ≤ 36) (hup0 : 0 ≤ up) (hupl : up < lo)
    (k : ∀ hd sz' : Int, hd = (hdN up.toNat lo.toNat : Int) → sz' = (szN up.toNat lo.toNat : Int) → 0 ≤ hd → hd ≤ 2 → 1 ≤ sz' → sz' ≤ 11 → wpAny (model prog w) A (newTuple [.int hd t1, .int sz' t2]) Q E s) :
    wpAny (model prog w) A (newTuple [.int ((tw + 3).fdiv 4) t1, .int sz t2]) Q E s := by
  have hs := G3_end hG ho h2 h3 hn
  have e1 := head_is hod hTw
  have e2 := size_is hod hOdd hs
  obtain ⟨b1, b2, b3⟩ := sz_all lo.toNat (by omega) (by omega) up.toNat (by omega)
  exact k _ _ e1 e2 (by rw [e1]; omega) (by rw [e1]; omega) (by omega) (by omega)
theorem item_AP {value slice : PySem.Expr} {i : Int} {t u : Tok} (h0 : 0 ≤ i) (h16 : i < 16) (k : Q (.str ⟨#[65 + i.toNat]⟩ s.toks) { s with toks := s.toks + 1 })
    (hs : subscripted slice false (.str (Str.ofString "ABCDEFGHIJKLMNOP") t) (.int i u) = operate [.str (Str.ofString "ABCDEFGHIJKLMNOP") t, .int i u] (getItem (.str (Str.ofString "ABCDEFGHIJKLMNOP") t) (.int i u)))
    (ht : ∀ r, letTemporaryGo value (.str (Str.ofString "ABCDEFGHIJKLMNOP") t) r = pure ()) :
    wpAny (model prog w) A (subscriptTail value slice (.str (Str.ofString "ABCDEFGHIJKLMNOP") t) (.int i u)) Q E s := by
  have hl : (Str.ofString "ABCDEFGHIJKLMNOP").length = 16 := by decide +kernel
  refine item_str (fitsSsize_of (N := 9223372036854775808) (by omega) (by omega) (Int.le_refl _)) (by omega) (by omega) (fun _ => ?_) hs ht
  obtain ⟨n, rfl⟩ := Int.eq_ofNat_of_zero_le h0
  rw [item_eq n (by omega)]
  exact k
theorem add_wide {x n : Int} {t u : Tok} (k : ∀ wd : Int, x ≤ wd → wd ≤ x + 3 → Q (.int wd s.toks) { s with toks := s.toks + 1 }) :
    wpAny (model prog w) A (binaryOp .Add (.int x t) (.int (n.fmod 4) u)) Q E s := by
  refine add_int (k _ ?_ ?_)
  · have := Int.fmod_nonneg_of_pos n (b := 4) (by decide); omega
  · have := Int.fmod_lt_of_pos n (b := 4) (by decide); omega
theorem div_number {up lo wd : Int} {t u : Tok} (h0 : 0 ≤ up) (hl : up < lo) (h36 : lo ≤ 36) (hw : wd ≤ 27)
    (k : ∀ num : Int, num = ((up.toNat * 16 ^ wd.toNat / lo.toNat : Nat) : Int) → 0 ≤ num → (dgL num.toNat).length ≤ 27 → Q (.int num s.toks) { s with toks := s.toks + 1 }) :
    wpAny (model prog w) A (binaryOp .FloorDiv (.int (up * 16 ^ wd.toNat) t) (.int lo u)) Q E s := by
  refine floordiv_int (by omega) ?_ (Or.inl (PyProof.noPylong_small (by omega)))
  obtain ⟨a, rfl⟩ := Int.eq_ofNat_of_zero_le h0
  obtain ⟨b, rfl⟩ := Int.eq_ofNat_of_zero_le (Int.le_trans h0 (Int.le_of_lt hl))
  have e : ((a : Int) * 16 ^ wd.toNat).fdiv (b : Int) = ((a * 16 ^ wd.toNat / b : Nat) : Int) := by
    rw [← fdiv_nat, Int.natCast_mul, Int.natCast_pow]; rfl
  rw [e]
  refine k _ ?_ (Int.natCast_nonneg _) ?_
  · simp only [Int.toNat_natCast]
  · rw [Int.toNat_natCast]
    refine Nat.le_trans (dgL_len wd.toNat _ ?_) (by omega)
    refine Nat.div_lt_of_lt_mul ?_
    exact Nat.mul_lt_mul_of_pos_right (by omega) (Nat.pow_pos (by decide))
theorem slice_AP {value slice : PySem.Expr} {h₀ : Heap} {L : Addr} {m : Str → Option Value} {news : List (Addr × Obj)} {i j : Int} {t u1 u2 : Tok} (hF : Fr h₀ L s.heap m) (hN : News h₀ L s.heap news) (h0 : 0 ≤ i) (h16 : i < 16) (hj : j = i + 1)
    (k : ∀ h' t' tk, Fr h₀ L h' m → News h₀ L h' news → Q (.bytes #[UInt8.ofNat (65 + i.toNat)] t') { s with heap := h', toks := tk })
    (hs : subscripted slice false (.bytes apLit t) (.ref s.heap.objs.size) = operate [.ref s.heap.objs.size, .bytes apLit t] (getItem (.bytes apLit t) (.ref s.heap.objs.size)))
    (ht : ∀ r, letTemporaryGo value (.bytes apLit t) r = pure ()) :
    wpAny (model prog w) A (subscriptTail value slice (.bytes apLit t) (.ref s.heap.objs.size)) Q E { s with heap := s.heap.push { cls := .type "slice", data := .fields #[.int i u1, .int j u2, .none] } } := by
  refine KBc.slice_K hF hN rfl (by constructor) (by constructor) (by decide +kernel) (fun h' t' tk F' N' _ => ?_) hs ht
  subst hj
  obtain ⟨n, rfl⟩ := Int.eq_ofNat_of_zero_le h0
  rw [picked_ap n (by omega)]
  exact k h' t' tk F' N'
theorem abs_pos {a : Int} {t : Tok} (h0 : 0 ≤ a) (k : ∀ u tk, Q (.int a u) { s with toks := tk }) : wpAny (model prog w) A (call (.builtin "abs") [.int a t]) Q E s := by
  refine call_abs_int fun u tk => ?_
  rw [if_neg (by omega)]; exact k u tk
theorem abs_neg {a : Int} {t : Tok} (h0 : 0 ≤ a) (k : ∀ u tk, Q (.int a u) { s with toks := tk }) : wpAny (model prog w) A (call (.builtin "abs") [.int (-a) t]) Q E s := by
  refine call_abs_int fun u tk => ?_
  by_cases h : a = 0
  · subst h; exact k u tk
  · rw [if_pos (by omega), Int.neg_neg]; exact k u tk
theorem add_AP {n₀ n : Int} {b v : Array UInt8} {t u : Tok} (h : GA n₀ n v) (hb : (dgL n₀.toNat).length ≤ 27) (hs : b.size = 1) (k : ∀ t' tk, Q (.bytes (b ++ v) t') { s with toks := tk }) :
    wpAny (model prog w) A (binaryOp .Add (.bytes b t) (.bytes v u)) Q E s :=
  KBy.add_bytes (by have := GA_size h hb; omega) k
end
section
variable {prog : Program} {w : World} {A : Around} {E : Value → Shared → Prop} {s : Shared} {h₀ : Heap} {L : Addr} {m : Str → Option Value} {env : Env}
def SrcB (prog : Program) (w : World) (A : Around) (h₀ : Heap) (L : Addr) (m : Str → Option Value) (env : Env) (elt : PySem.Expr) (x : Str) (scope : Scope) (cl : List (Str × Addr)) (Q : Value → Shared → Prop) (xv : Value) (s₁ : Shared) : Prop :=
  ∃ (b : Array UInt8) (t : Tok) (news : List (Addr × Obj)), xv = .bytes b t ∧ A.handled = none ∧ Fr h₀ L s₁.heap m ∧ News h₀ L s₁.heap news ∧ b.size ≤ sizeLine ∧
    ∀ s₂ : Shared, (∃ h, s₂ = { s₁ with heap := h }) → LCg.CompRest prog w A h₀ L m env elt x scope cl s₂ (fun _ => True) (fun i v => ∃ c u, b[i]? = some c ∧ v = .int (c.toNat : Int) u) (LCg.FinE h₀ L m s₂ Q) b.size 0 [] news
theorem bytes_st {I : Addr} {b : Array UInt8} {t : Tok} : ∀ i (h h' : Heap) (o : Obj) (nw : List (Addr × Obj)), KBw.IsBytesIter h I b t i → h.get? I = some o → h'.get? I = some o → (∀ b o, h₀.get? b = some o → h'.get? b = some o) → News h₀ L h' nw → True → KBw.IsBytesIter h' I b t i :=
  fun i h h' o nw st e e' _ _ _ => by
    obtain ⟨o', ho, r⟩ := st
    rw [e] at ho
    cases ho
    exact ⟨o, e', r⟩
theorem ListComp_B {elt iter : PySem.Expr} {x : Str} {px : Pos} {scope : Scope} {cl : List (Str × Addr)} {pos : Pos} {Q : Value → Shared → Prop} (F₁ : Fr h₀ L s.heap m)
    (hclos : closureFor scope env = pure cl) (hcell : ∀ y ∈ scope.names, y.2 ≠ .cell) (hkind : scope.kind = .function)
    (hnames : ∀ y ∈ scope.names, y.2 = .local → scope.names.lookup y.1 = some .local) (hx : scope.names.lookup x = some .local)
    (h : wpAny (model prog w) A (eval iter env) (SrcB prog w A h₀ L m env elt x scope cl Q) E s)
    (hs : ∀ x, foldedSetIterable iter env x = pure x) :
    wpAny (model prog w) A (eval (.ListComp elt [⟨.Name x px, iter, [], 0⟩] scope pos) env) Q E s := by
  rw [eval_ListComp]
  refine wpAny_comprehension_free (use := none) rfl hs hclos hkind hnames (wpAny_mono h (fun xv s₁ h₁ => ?_) fun _ _ e => e)
  obtain ⟨b, t, news, rfl, hh, F, N, hsz, R⟩ := h₁
  refine KBw.pyIter_bytes ?_
  refine LCg.block_U (KBw.walks hh s₁.heap.objs.size b t) hsz (fun i h st => by obtain ⟨o, e, _⟩ := st; exact ⟨o, e⟩) bytes_st hcell hkind hx ⟨_, Heap.get?_push_size _ rfl, rfl, rfl⟩ (fun b' hb => ?_)
    (F.keeps fun _ _ e => Heap.get?_push_of_some _ e) (N.grown fun _ _ e => Heap.get?_push_of_some _ e) (Nat.ne_of_lt F.ns.lt) (next_is_new F) (fun p hp => Nat.ne_of_lt (Heap.lt_size (N p hp).1)) trivial (R _ ⟨_, rfl⟩) ?_
  · rw [List.mem_singleton.mp hb]
    show s₁.heap.objs.size < (s₁.heap.push _).objs.size
    rw [Heap.size_push]; exact Nat.lt_succ_self _
  · intro D C h tk m' ys news' F' N' o1 hn hC₀ hD₀ hCL hDL hCD offC fin
    refine ⟨m', hn, fun h'' hs'' => fin D h'' tk (F'.change hs'' hCL hC₀) (fun p hp => ?_) o1⟩
    refine ⟨hs''.extBut _ _ ?_ (N' p hp).1, (N' p hp).2⟩
    rcases List.mem_cons.mp hp with rfl | hp
    · exact Ne.symm hCD
    · exact offC p hp
theorem SrcB_intro {elt : PySem.Expr} {x : Str} {scope : Scope} {cl : List (Str × Addr)} {Q : Value → Shared → Prop} {b : Array UInt8} {t : Tok} {s₁ : Shared} {news : List (Addr × Obj)} (g : Int → Str)
    (hh : A.handled = none) (F : Fr h₀ L s₁.heap m) (N : News h₀ L s₁.heap news) (hsz : b.size ≤ sizeLine)
    (turn : ∀ k t I oI C oC D m₂ ys h tk (E' : Value → Shared → Prop), k ∈ KBw.bInts b → 0 ≤ k → k < 256 → LCg.NsObj oC m₂ → m₂ x = some (.int k t) → Fr h₀ L h m → News h₀ L h ((I, oI) :: (C, oC) :: (D, LCg.lst ys) :: news) → LCg.Off3 I C D news →
      wpAny (model prog w) A (eval elt (compEnvC scope cl C env)) (LCg.CompEnd h₀ L m { s₁ with heap := h, toks := tk } I oI C oC D (LCg.lst ys) (fun _ => True) (fun y news' => KCtEl news (g k) y news')) E' { s₁ with heap := h, toks := tk })
    (fin : ∀ ys D h tk, StrsAre ys ((KBw.bInts b).map g) → Fr h₀ L h m → News h₀ L h ((D, LCg.lst ys) :: news) → LCg.Off1 D news → Q (.ref D) { s₁ with heap := h, toks := tk }) :
    SrcB prog w A h₀ L m env elt x scope cl Q (.bytes b t) s₁ := by
  refine ⟨b, t, news, rfl, hh, F, N, hsz, ?_⟩
  rintro s₂ ⟨g', rfl⟩
  have key : ∀ (j i : Nat) (ys : List Value), i + j = b.size → StrsAre ys (((KBw.bInts b).take i).map g) → LCg.CompRest prog w A h₀ L m env elt x scope cl { s₁ with heap := g' } (fun _ => True) (fun i v => ∃ c u, b[i]? = some c ∧ v = .int (c.toNat : Int) u) (LCg.FinE h₀ L m { s₁ with heap := g' } Q) j i ys news := by
    intro j
    induction j with
    | zero =>
      intro i ys hi hy
      have e : i = (KBw.bInts b).length := by rw [KBw.ints_length]; omega
      subst e
      rw [List.take_length] at hy
      exact LCg.CompRest.zero fun D h tk F' N' o1 => fin ys D h tk hy F' N' o1
    | succ j ih =>
      intro i ys hi hy
      refine LCg.CompRest.succ ?_
      intro v I oI C oC D m₂ h tk E' hv hC hx F N off ne
      obtain ⟨c, u, hc, hv'⟩ := hv
      have hk := KBw.ints_get hc
      have hm := List.mem_of_getElem? hk
      have hb := KBw.ints_in hm
      rw [hv'] at hx
      refine wpAny_mono (turn (c.toNat : Int) u I oI C oC D m₂ ys h tk E' hm hb.1 hb.2 hC hx F N off) (fun y s₂ hq => ?_) fun _ _ e => e
      obtain ⟨h', tk', nw, e, F', N', off', hS, hn, t', hy'⟩ := hq
      rw [hn] at N' off'
      refine ⟨h', tk', news, e, F', N', off', hS, ?_⟩
      rw [hy']
      refine ih (i + 1) _ (by omega) ?_
      rw [List.take_add_one, hk]
      simpa using kct_snoc hy
  exact key b.size 0 [] (by omega) (by simp only [List.take_zero, List.map_nil]; exact .nil)
end
abbrev mkS (l : List Nat) : Str := ⟨l.toArray⟩
theorem mkS_len (l : List Nat) : (mkS l).length = l.length := List.size_toArray ..
theorem mkS_app (a b : List Nat) : mkS a ++ mkS b = mkS (a ++ b) := by
  apply Str.ext'
  rw [Str.cps_append]
  simp
theorem mkS_inj {a b : List Nat} : mkS a = mkS b ↔ a = b := by
  constructor
  · intro h
    have := congrArg (fun x : Str => x.cps.toList) h
    simpa using this
  · intro h; rw [h]
theorem mkS_beq (a b : List Nat) : (mkS a == mkS b) = decide (a = b) := by
  by_cases h : a = b
  · subst h; simp
  · have : mkS a ≠ mkS b := fun e => h (mkS_inj.mp e)
    simp [h, this]
theorem join_ones : ∀ l : List Nat, Str.join (Str.ofString "") (l.map fun d => mkS [d]) = mkS l
  | [] => rfl
  | [a] => rfl
  | a :: b :: r => by
    show mkS [a] ++ Str.ofString "" ++ Str.join (Str.ofString "") ((b :: r).map fun d => mkS [d]) = _
    rw [join_ones (b :: r), show Str.ofString "" = mkS [] from by decide +kernel, mkS_app, mkS_app]
    rfl
theorem txt_join (l : List Nat) : Txt.join (Str.ofString "") (l.map fun d => mkS [d]) = mkS l := by
  show Builtin.Str.glued _ _ = _
  rw [StrLaws.glued_eq_join, join_ones]
theorem foldl_ones (n : Nat) : ∀ acc : List Nat, (List.replicate n (#[65] : Array Nat)).foldl (· ++ ·) acc.toArray = (acc ++ List.replicate n 65).toArray := by
  induction n with
  | zero => intro acc; simp
  | succ n ih =>
    intro acc
    rw [List.replicate_succ, List.foldl_cons]
    have : acc.toArray ++ #[65] = (acc ++ [65]).toArray := by simp
    rw [this, ih, List.replicate_succ, List.append_assoc]; rfl
theorem txt_mul (i : Int) : Txt.mul (Str.ofString "A") i = mkS (List.replicate i.toNat 65) := by
  have eA : Str.ofString "A" = mkS [65] := by decide +kernel
  unfold Txt.mul
  by_cases h1 : i < 1
  · rw [if_pos h1]
    have : i.toNat = 0 := by omega
    rw [this]; rfl
  · rw [if_neg h1]
    by_cases h2 : i = 1
    · subst h2; rw [if_pos (show (((1 : Int) == 1 || (Str.ofString "A").length == 0) = true) from by simp), eA]; rfl
    · have hb : ¬ ((i == 1 || (Str.ofString "A").length == 0) = true) := by
        rw [eA, mkS_len]; simp [h2]
      rw [if_neg hb, eA]
      have := foldl_ones i.toNat []
      simp only [List.nil_append] at this
      exact congrArg Str.mk this
theorem slice_ss (l : List Nat) {a b : Nat} (hab : a ≤ b) (hb : b ≤ l.length) : Txt.slice (mkS l) (some (a : Int)) (some (b : Int)) = mkS ((l.drop a).take (b - a)) := by
  have := StrLaws.sliceText_nat (mkS l) hab (by rw [mkS_len]; exact hb)
  exact this
theorem slice_sn (l : List Nat) {a : Nat} (ha : a ≤ l.length) : Txt.slice (mkS l) (some (a : Int)) none = mkS (l.drop a) := by
  have e : Txt.slice (mkS l) (some (a : Int)) none = Txt.slice (mkS l) (some (a : Int)) (some ((mkS l).length : Int)) := by
    unfold Txt.slice; rw [StrLaws.sliceIdx_none_hi]
  rw [e, mkS_len, slice_ss l ha (Nat.le_refl _)]
  congr 2
  rw [← List.length_drop, List.take_length]
theorem slice_ns (l : List Nat) {b : Nat} (hb : b ≤ l.length) : Txt.slice (mkS l) none (some (b : Int)) = mkS (l.take b) := by
  have e : Txt.slice (mkS l) none (some (b : Int)) = Txt.slice (mkS l) (some ((0 : Nat) : Int)) (some (b : Int)) := by
    unfold Txt.slice; rw [StrLaws.sliceIdx_none_lo]; rfl
  rw [e, slice_ss l (Nat.zero_le _) hb]
  simp
theorem slice_one (l : List Nat) : Txt.slice (mkS l) none (some 1) = mkS (l.take 1) := by
  cases l with
  | nil => decide +kernel
  | cons a r => exact slice_ns (a :: r) (b := 1) (by simp)
theorem item_nat (l : List Nat) {i : Nat} (hi : i < l.length) : Txt.item (mkS l) (i : Int) = mkS [l.getD i 0] := by
  unfold Txt.item Txt.charAt
  have h1 : (mkS l).cps[i]? = some (l.getD i 0) := by
    show l.toArray[i]? = _
    rw [List.getElem?_toArray, List.getElem?_eq_getElem hi, List.getD_eq_getElem?_getD, List.getElem?_eq_getElem hi]; rfl
  rw [StrLaws.at_nonneg (by omega) (by rw [Int.toNat_natCast]; exact h1)]
  rfl
def dg (u l i : Nat) : Nat := 65 + u * 16 ^ (i + 1) / l % 16
def txL (u l w : Nat) : List Nat := (List.range w).map (dg u l)
theorem txL_len (u l w : Nat) : (txL u l w).length = w := by unfold txL; rw [List.length_map, List.length_range]
theorem pad_gen : ∀ (w n : Nat), n < 16 ^ w → (dgL n).length ≤ w ∧ List.replicate (w - (dgL n).length) 65 ++ dgL n = (List.range w).map fun i => 65 + n / 16 ^ (w - 1 - i) % 16
  | 0, n, h => by
    have : n = 0 := by simpa using h
    subst this; rw [dgL_zero]; simp
  | w + 1, n, h => by
    have hd : n / 16 < 16 ^ w := by rw [Nat.pow_succ] at h; omega
    obtain ⟨h1, h2⟩ := pad_gen w (n / 16) hd
    have e : (List.range (w + 1)).map (fun i => 65 + n / 16 ^ (w + 1 - 1 - i) % 16) = (List.range w).map (fun i => 65 + n / 16 / 16 ^ (w - 1 - i) % 16) ++ [65 + n % 16] := by
      rw [List.range_succ, List.map_append]
      congr 1
      · refine List.map_congr_left fun i hi => ?_
        have hi' := List.mem_range.mp hi
        rw [Nat.div_div_eq_div_mul, ← Nat.pow_succ', show (w - 1 - i).succ = w + 1 - 1 - i by omega]
      · simp
    by_cases h0 : n = 0
    · subst h0
      rw [dgL_zero]
      refine ⟨by simp, ?_⟩
      rw [e, ← h2, Nat.zero_div, dgL_zero]
      simp only [List.length_nil, Nat.sub_zero, List.append_nil]
      rw [List.replicate_succ']
    · rw [dgL_pos h0]
      rw [List.length_append, List.length_cons, List.length_nil]
      refine ⟨by omega, ?_⟩
      rw [e, ← h2, ← List.append_assoc]
      congr 2
      congr 1
      omega
theorem num_lt {u l w : Nat} (h : u < l) : u * 16 ^ w / l < 16 ^ w := by
  refine Nat.div_lt_of_lt_mul ?_
  exact Nat.mul_lt_mul_of_pos_right h (Nat.pow_pos (by decide))
theorem pad_eq {u l w : Nat} (h : u < l) : List.replicate (w - (dgL (u * 16 ^ w / l)).length) 65 ++ dgL (u * 16 ^ w / l) = txL u l w := by
  rw [(pad_gen w _ (num_lt h)).2]
  refine List.map_congr_left fun i hi => ?_
  have hi' := List.mem_range.mp hi
  unfold dg
  rw [Nat.div_div_eq_div_mul, show 16 ^ w = 16 ^ (i + 1) * 16 ^ (w - 1 - i) by rw [← Nat.pow_add]; congr 1; omega, ← Nat.mul_assoc, Nat.mul_div_mul_right _ _ (Nat.pow_pos (by decide))]
/-- the head of the word is no A -/
theorem dgL_head : ∀ n : Nat, (dgL n).take 1 ≠ [65] := by
  intro n
  induction n using Nat.strongRecOn with
  | _ n ih =>
    by_cases h0 : n = 0
    · subst h0; rw [dgL_zero]; simp
    · rw [dgL_pos h0]
      by_cases h1 : n / 16 = 0
      · rw [h1, dgL_zero]
        simp only [List.nil_append, List.take_succ_cons, List.take_zero, ne_eq, List.cons.injEq, and_true]
        omega
      · have := ih (n / 16) (by omega)
        rw [dgL_pos h1] at this ⊢
        rw [List.take_append_of_le_length (by simp)]
        exact this
/-- cuts -/
theorem cut_eq (d : Nat → Nat) (w a k : Nat) (h : a + k ≤ w) : (((List.range w).map d).drop a).take k = (List.range k).map fun i => d (a + i) := by
  apply List.ext_getElem?
  intro i
  rw [List.getElem?_take]
  by_cases hi : i < k
  · rw [if_pos hi, List.getElem?_drop, List.getElem?_map, List.getElem?_map, List.getElem?_range (by omega), List.getElem?_range hi]
    rfl
  · rw [if_neg hi, List.getElem?_eq_none (by rw [List.length_map, List.length_range]; omega)]
theorem drop_eq (d : Nat → Nat) (w a : Nat) (h : a ≤ w) : ((List.range w).map d).drop a = (List.range (w - a)).map fun i => d (a + i) := by
  have := cut_eq d w a (w - a) (by omega)
  rw [← this, List.take_of_length_le]
  rw [List.length_drop, List.length_map, List.length_range]; omega
theorem range_map_iff (f g : Nat → Nat) (k : Nat) : (List.range k).map f = (List.range k).map g ↔ ∀ i, i < k → f i = g i := by
  constructor
  · intro h i hi
    have := congrArg (fun l => l[i]?) h
    simpa [List.getElem?_map, List.getElem?_range hi] using this
  · intro h
    exact List.map_congr_left fun i hi => h i (List.mem_range.mp hi)
/-- all that is asked of a fraction, on its letters -/
def chk (u l : Nat) : Bool :=
  let h := hdN u l
  let s := szN u l
  (h == 0 || dg u l (h - 1) != dg u l (h - 1 + s)) &&
  (List.range (s + 3)).all (fun i => dg u l (h + s + i) == dg u l (h + i)) &&
  (List.range s).all (fun y => y == 0 || (List.range (s + 1)).any fun i => dg u l (h + y + i) != dg u l (h + i)) &&
  (List.range (h + s)).all (fun k => dg u l k == 65 + 16 * (u * 16 ^ k % l) / l)
theorem chk_all : ∀ l : Nat, l < 37 → 2 ≤ l → ∀ u, u < l → chk u l = true := by decide +kernel
section
variable {u l w : Nat}
theorem chk_parts (hl : l < 37) (h2 : 2 ≤ l) (hu : u < l) :
    (hdN u l ≠ 0 → dg u l (hdN u l - 1) ≠ dg u l (hdN u l - 1 + szN u l)) ∧
    (∀ i, i < szN u l + 3 → dg u l (hdN u l + szN u l + i) = dg u l (hdN u l + i)) ∧
    (∀ y, y < szN u l → y ≠ 0 → ∃ i, i < szN u l + 1 ∧ dg u l (hdN u l + y + i) ≠ dg u l (hdN u l + i)) ∧
    (∀ k, k < hdN u l + szN u l → dg u l k = 65 + 16 * (u * 16 ^ k % l) / l) := by
  have h := chk_all l hl h2 u hu
  unfold chk at h
  simp only [Bool.and_eq_true, Bool.or_eq_true, beq_iff_eq, bne_iff_ne, List.all_eq_true, List.any_eq_true, List.mem_range] at h
  obtain ⟨⟨⟨h1, h3⟩, h4⟩, h5⟩ := h
  refine ⟨fun h0 => h1.resolve_left h0, h3, fun y hy h0 => ?_, h5⟩
  exact (h4 y hy).resolve_left h0
/-- the word shows its round by itself -/
theorem cuts_iff (hl : l < 37) (h2 : 2 ≤ l) (hu : u < l) (hw0 : hdN u l + 2 * szN u l ≤ w) (hw3 : w ≤ hdN u l + 2 * szN u l + 3) {y : Nat} (hy0 : 1 ≤ y) (hy : y ≤ szN u l) :
    decide ((txL u l w).drop (hdN u l + y) = ((txL u l w).drop (hdN u l)).take (w - y - hdN u l)) = decide (y = szN u l) := by
  obtain ⟨_, p2, p3, _⟩ := chk_parts hl h2 hu
  have e : ((txL u l w).drop (hdN u l + y) = ((txL u l w).drop (hdN u l)).take (w - y - hdN u l)) ↔ ∀ i, i < w - (hdN u l + y) → dg u l (hdN u l + y + i) = dg u l (hdN u l + i) := by
    unfold txL
    rw [drop_eq _ _ _ (by omega), cut_eq _ _ _ _ (by omega), show w - y - hdN u l = w - (hdN u l + y) by omega, range_map_iff]
  by_cases h : y = szN u l
  · have h1 : (txL u l w).drop (hdN u l + y) = ((txL u l w).drop (hdN u l)).take (w - y - hdN u l) := by
      rw [e]
      intro i hi
      rw [h]
      exact p2 i (by omega)
    rw [decide_eq_true h1, decide_eq_true h]
  · have h1 : ¬ ((txL u l w).drop (hdN u l + y) = ((txL u l w).drop (hdN u l)).take (w - y - hdN u l)) := by
      rw [e]
      intro hall
      obtain ⟨i, hi, hne⟩ := p3 y (by omega) (by omega)
      exact hne (hall i (by omega))
    rw [decide_eq_false h1, decide_eq_false h]
theorem txL_getD {i : Nat} (h : i < w) : (txL u l w).getD i 0 = dg u l i := by
  unfold txL
  rw [List.getD_eq_getElem?_getD, List.getElem?_map, List.getElem?_range h]; rfl
theorem head_ne (hl : l < 37) (h2 : 2 ≤ l) (hu : u < l) (hw0 : hdN u l + 2 * szN u l ≤ w) (h0 : hdN u l ≠ 0) :
    (txL u l w).getD (hdN u l - 1) 0 ≠ (txL u l w).getD (hdN u l - 1 + szN u l) 0 := by
  obtain ⟨p1, _⟩ := chk_parts hl h2 hu
  have hs := sz_all l hl h2 u hu
  rw [txL_getD (by omega), txL_getD (by omega)]
  exact p1 h0
theorem front_eq (hl : l < 37) (h2 : 2 ≤ l) (hu : u < l) (hw0 : hdN u l + 2 * szN u l ≤ w) :
    (txL u l w).take (hdN u l + szN u l) = (List.range (hdN u l + szN u l)).map fun k => 65 + 16 * (u * 16 ^ k % l) / l := by
  obtain ⟨_, _, _, p4⟩ := chk_parts hl h2 hu
  have := cut_eq (dg u l) w 0 (hdN u l + szN u l) (by omega)
  rw [List.drop_zero] at this
  unfold txL
  rw [this, range_map_iff]
  intro i hi
  rw [Nat.zero_add]
  exact p4 i hi
end
theorem dgL_mem : ∀ (n x : Nat), x ∈ dgL n → x < 256 := by
  intro n
  induction n using Nat.strongRecOn with
  | _ n ih =>
    intro x hx
    by_cases h0 : n = 0
    · subst h0; rw [dgL_zero] at hx; simp at hx
    · rw [dgL_pos h0] at hx
      rcases List.mem_append.mp hx with h | h
      · exact ih (n / 16) (by omega) x h
      · have := List.mem_singleton.mp h; omega
theorem bInts_ap (n : Nat) : (KBw.bInts (apB n).toArray).map (fun k => (⟨#[k.toNat]⟩ : Str)) = (dgL n).map fun d => mkS [d] := by
  rw [KBw.ints_list, List.map_map]
  unfold apB
  rw [List.map_map]
  refine List.map_congr_left fun x hx => ?_
  have := dgL_mem n x hx
  simp only [Function.comp, Int.toNat_natCast]
  rw [UInt8.toNat_ofNat_of_lt' (by simpa using this)]
theorem sum_ones (l : List Nat) : (((l.map fun d => mkS [d])).map (·.length)).sum = l.length := by
  induction l with
  | nil => rfl
  | cons a r ih => rw [List.map_cons, List.map_cons, List.sum_cons, ih, List.length_cons, mkS_len]; simp only [List.length_cons, List.length_nil]; omega
section
variable {prog : Program} {w : World} {A : Around} {E : Value → Shared → Prop} {s : Shared} {Q : Value → Shared → Prop} {h₀ : Heap} {L : Addr} {m : Str → Option Value} {news : List (Addr × Obj)}
theorem join_any {D : Addr} {ys : List Value} {l : List Nat} {t : Tok} (hl : s.heap.IsList D ys.toArray) (hi : StrsAre ys (l.map fun d => mkS [d])) (hlen : l.length ≤ 27) (k : ∀ t' tk, Q (.str (mkS l) t') { s with toks := tk }) :
    wpAny (model prog w) A (call (.builtin "str.join") [.str (Str.ofString "") t, .ref D]) Q E s := by
  refine join_list hl hi ?_ fun t' tk => ?_
  · rw [sum_ones, List.length_map, show (Str.ofString "").length = 0 from by decide +kernel]; omega
  · rw [txt_join]; exact k t' tk
theorem join_word {D : Addr} {ys : List Value} {n : Nat} {t : Tok} (hl : s.heap.IsList D ys.toArray) (hi : StrsAre ys ((KBw.bInts (apB n).toArray).map fun k => ⟨#[k.toNat]⟩)) (hlen : (dgL n).length ≤ 27)
    (k : ∀ t' tk, Q (.str (mkS (dgL n)) t') { s with toks := tk }) :
    wpAny (model prog w) A (call (.builtin "str.join") [.str (Str.ofString "") t, .ref D]) Q E s := by
  rw [bInts_ap] at hi
  exact join_any hl hi hlen k
theorem join_letters {D : Addr} {ys : List Value} {ls : List Str} {up lo left : Int} {pre : List Int} {t : Tok} (hl : s.heap.IsList D ys.toArray) (hi : StrsAre ys ls) (hG : GL up lo pre ls left) (hlen : pre.length ≤ 27)
    (k : ∀ t' tk, Q (.str (mkS ((List.range pre.length).map fun k => 65 + 16 * (up.toNat * 16 ^ k % lo.toNat) / lo.toNat)) t') { s with toks := tk }) :
    wpAny (model prog w) A (call (.builtin "str.join") [.str (Str.ofString "") t, .ref D]) Q E s := by
  rw [hG.2] at hi
  have e : (List.range pre.length).map (letS up.toNat lo.toNat) = ((List.range pre.length).map fun k => 65 + 16 * (up.toNat * 16 ^ k % lo.toNat) / lo.toNat).map fun d => mkS [d] := by
    rw [List.map_map]; rfl
  rw [e] at hi
  exact join_any hl hi (by rw [List.length_map, List.length_range]; exact hlen) k
theorem mul_A {i : Int} {t u : Tok} (h27 : i ≤ 27) (hlo : -1000 ≤ i) (k : ∀ t' tk, Q (.str (mkS (List.replicate i.toNat 65)) t') { s with toks := tk }) :
    wpAny (model prog w) A (binaryOp .Mult (.str (Str.ofString "A") t) (.int i u)) Q E s := by
  have e1 : (Str.ofString "A").length = 1 := by decide +kernel
  refine SB.mul ⟨?_, ?_, ?_⟩ fun t' tk => ?_
  · rw [decide_eq_false (by omega), decide_eq_false (by omega)]; rfl
  · intro h1 _
    rw [e1]
    intro h
    have h5 := (Int.ediv_lt_iff_lt_mul (a := 2 ^ 63 - 1) (b := 1) (c := i) (by omega)).mp h
    omega
  · intro _ _
    rw [e1]
    refine KBy.tooLong_not ?_
    omega
  · rw [txt_mul]; exact k t' tk
theorem add_text {up lo wd num : Int} {t t' : Tok} (hnum : num = ((up.toNat * 16 ^ wd.toNat / lo.toNat : Nat) : Int)) (hlen : (dgL num.toNat).length ≤ 27) (h0 : 0 ≤ up) (hl : up < lo) (hw : 0 ≤ wd) (hw27 : wd ≤ 27)
    (k : ∀ t'' tk, Q (.str (mkS (txL up.toNat lo.toNat wd.toNat)) t'') { s with toks := tk }) :
    wpAny (model prog w) A (binaryOp .Add (.str (mkS (List.replicate (wd - ((dgL num.toNat).length : Int)).toNat 65)) t) (.str (mkS (dgL num.toNat)) t')) Q E s := by
  refine add_str (fun t'' tk => ?_) (by rw [mkS_len, mkS_len, List.length_replicate, sizeLine_eq]; omega)
  have e : num.toNat = up.toNat * 16 ^ wd.toNat / lo.toNat := by rw [hnum]; exact Int.toNat_natCast _
  rw [mkS_app, e, show (wd - ((dgL (up.toNat * 16 ^ wd.toNat / lo.toNat)).length : Int)).toNat = wd.toNat - (dgL (up.toNat * 16 ^ wd.toNat / lo.toNat)).length by omega, pad_eq (by omega)]
  exact k t'' tk
theorem len_word {n : Nat} {t : Tok} (hlen : (dgL n).length ≤ 27) (k : Q (.int ((dgL n).length : Int) (s.toks + 1)) { s with toks := s.toks + 1 + 1 }) :
    wpAny (model prog w) A (call (.builtin "len") [.str (mkS (dgL n)) t]) Q E s := by
  refine P.len_str (by rw [mkS_len]; omega) ?_
  rw [mkS_len]; exact k
theorem item_text {value slice : PySem.Expr} {up lo wd i : Int} {t u : Tok} (h0 : 0 ≤ i) (hw : i < wd) (hw27 : wd ≤ 27)
    (k : Q (.str (mkS [(txL up.toNat lo.toNat wd.toNat).getD i.toNat 0]) s.toks) { s with toks := s.toks + 1 })
    (hs : subscripted slice false (.str (mkS (txL up.toNat lo.toNat wd.toNat)) t) (.int i u) = operate [.str (mkS (txL up.toNat lo.toNat wd.toNat)) t, .int i u] (getItem (.str (mkS (txL up.toNat lo.toNat wd.toNat)) t) (.int i u)))
    (ht : ∀ r, letTemporaryGo value (.str (mkS (txL up.toNat lo.toNat wd.toNat)) t) r = pure ()) :
    wpAny (model prog w) A (subscriptTail value slice (.str (mkS (txL up.toNat lo.toNat wd.toNat)) t) (.int i u)) Q E s := by
  have hl : (mkS (txL up.toNat lo.toNat wd.toNat)).length = wd.toNat := by rw [mkS_len, txL_len]
  refine item_str (fitsSsize_of (N := 9223372036854775808) (by omega) (by omega) (Int.le_refl _)) (by omega) (by omega) (fun _ => ?_) hs ht
  obtain ⟨n, rfl⟩ := Int.eq_ofNat_of_zero_le h0
  rw [item_nat _ (by rw [txL_len]; omega)]
  exact k
theorem slice_text_sn {value slice : PySem.Expr} {up lo wd i : Int} {t u1 : Tok} (hF : Fr h₀ L s.heap m) (hN : News h₀ L s.heap news) (h0 : 0 ≤ i) (hw : i ≤ wd) (hw27 : wd ≤ 27)
    (k : ∀ h' t' tk, Fr h₀ L h' m → News h₀ L h' news → Q (.str (mkS ((txL up.toNat lo.toNat wd.toNat).drop i.toNat)) t') { s with heap := h', toks := tk })
    (hs : subscripted slice false (.str (mkS (txL up.toNat lo.toNat wd.toNat)) t) (.ref s.heap.objs.size) = operate [.ref s.heap.objs.size, .str (mkS (txL up.toNat lo.toNat wd.toNat)) t] (getItem (.str (mkS (txL up.toNat lo.toNat wd.toNat)) t) (.ref s.heap.objs.size)))
    (ht : ∀ r, letTemporaryGo value (.str (mkS (txL up.toNat lo.toNat wd.toNat)) t) r = pure ()) :
    wpAny (model prog w) A (subscriptTail value slice (.str (mkS (txL up.toNat lo.toNat wd.toNat)) t) (.ref s.heap.objs.size)) Q E { s with heap := s.heap.push { cls := .type "slice", data := .fields #[.int i u1, .none, .none] } } := by
  refine slice_strN_sn hF hN (fun h' t' tk F' N' => ?_) hs ht (by rw [mkS_len, txL_len, sizeLine_eq]; omega)
  obtain ⟨n, rfl⟩ := Int.eq_ofNat_of_zero_le h0
  rw [slice_sn _ (by rw [txL_len]; omega)]
  exact k h' t' tk F' N'
theorem slice_text_ss {value slice : PySem.Expr} {up lo wd i j : Int} {t u1 u2 : Tok} (hF : Fr h₀ L s.heap m) (hN : News h₀ L s.heap news) (h0 : 0 ≤ i) (hij : i ≤ j) (hw : j ≤ wd) (hw27 : wd ≤ 27)
    (k : ∀ h' t' tk, Fr h₀ L h' m → News h₀ L h' news → Q (.str (mkS (((txL up.toNat lo.toNat wd.toNat).drop i.toNat).take (j.toNat - i.toNat))) t') { s with heap := h', toks := tk })
    (hs : subscripted slice false (.str (mkS (txL up.toNat lo.toNat wd.toNat)) t) (.ref s.heap.objs.size) = operate [.ref s.heap.objs.size, .str (mkS (txL up.toNat lo.toNat wd.toNat)) t] (getItem (.str (mkS (txL up.toNat lo.toNat wd.toNat)) t) (.ref s.heap.objs.size)))
    (ht : ∀ r, letTemporaryGo value (.str (mkS (txL up.toNat lo.toNat wd.toNat)) t) r = pure ()) :
    wpAny (model prog w) A (subscriptTail value slice (.str (mkS (txL up.toNat lo.toNat wd.toNat)) t) (.ref s.heap.objs.size)) Q E { s with heap := s.heap.push { cls := .type "slice", data := .fields #[.int i u1, .int j u2, .none] } } := by
  refine slice_strN_ss hF hN (fun h' t' tk F' N' => ?_) hs ht (by rw [mkS_len, txL_len, sizeLine_eq]; omega)
  obtain ⟨n, rfl⟩ := Int.eq_ofNat_of_zero_le h0
  obtain ⟨n2, rfl⟩ := Int.eq_ofNat_of_zero_le (Int.le_trans h0 hij)
  rw [slice_ss _ (by omega) (by rw [txL_len]; omega)]
  exact k h' t' tk F' N'
theorem slice_text_ns {value slice : PySem.Expr} {up lo wd j : Int} {t u2 : Tok} (hF : Fr h₀ L s.heap m) (hN : News h₀ L s.heap news) (h0 : 0 ≤ j) (hw : j ≤ wd) (hw27 : wd ≤ 27)
    (k : ∀ h' t' tk, Fr h₀ L h' m → News h₀ L h' news → Q (.str (mkS ((txL up.toNat lo.toNat wd.toNat).take j.toNat)) t') { s with heap := h', toks := tk })
    (hs : subscripted slice false (.str (mkS (txL up.toNat lo.toNat wd.toNat)) t) (.ref s.heap.objs.size) = operate [.ref s.heap.objs.size, .str (mkS (txL up.toNat lo.toNat wd.toNat)) t] (getItem (.str (mkS (txL up.toNat lo.toNat wd.toNat)) t) (.ref s.heap.objs.size)))
    (ht : ∀ r, letTemporaryGo value (.str (mkS (txL up.toNat lo.toNat wd.toNat)) t) r = pure ()) :
    wpAny (model prog w) A (subscriptTail value slice (.str (mkS (txL up.toNat lo.toNat wd.toNat)) t) (.ref s.heap.objs.size)) Q E { s with heap := s.heap.push { cls := .type "slice", data := .fields #[.none, .int j u2, .none] } } := by
  refine slice_strN_ns hF hN (fun h' t' tk F' N' => ?_) hs ht (by rw [mkS_len, txL_len, sizeLine_eq]; omega)
  obtain ⟨n, rfl⟩ := Int.eq_ofNat_of_zero_le h0
  rw [slice_ns _ (by rw [txL_len]; omega)]
  exact k h' t' tk F' N'
theorem slice_word {value slice : PySem.Expr} {n : Nat} {t u2 : Tok} (hF : Fr h₀ L s.heap m) (hN : News h₀ L s.heap news) (hlen : (dgL n).length ≤ 27)
    (k : ∀ h' t' tk, Fr h₀ L h' m → News h₀ L h' news → Q (.str (mkS ((dgL n).take 1)) t') { s with heap := h', toks := tk })
    (hs : subscripted slice false (.str (mkS (dgL n)) t) (.ref s.heap.objs.size) = operate [.ref s.heap.objs.size, .str (mkS (dgL n)) t] (getItem (.str (mkS (dgL n)) t) (.ref s.heap.objs.size)))
    (ht : ∀ r, letTemporaryGo value (.str (mkS (dgL n)) t) r = pure ()) :
    wpAny (model prog w) A (subscriptTail value slice (.str (mkS (dgL n)) t) (.ref s.heap.objs.size)) Q E { s with heap := s.heap.push { cls := .type "slice", data := .fields #[.none, .int 1 u2, .none] } } := by
  refine slice_strN_ns hF hN (fun h' t' tk F' N' => ?_) hs ht (by rw [mkS_len, sizeLine_eq]; omega)
  rw [slice_one]
  exact k h' t' tk F' N'
theorem eq_no {a b : List Nat} {t u : Tok} (h : a ≠ b) (k : Q (.bool false) s) : wpAny (model prog w) A (compareOp .Eq (.str (mkS a) t) (.str (mkS b) u)) Q E s := by
  refine eq_str ?_
  rw [mkS_beq, decide_eq_false h]; exact k
theorem eq_dec {a b : List Nat} {t u : Tok} (k : Q (.bool (decide (a = b))) s) : wpAny (model prog w) A (compareOp .Eq (.str (mkS a) t) (.str (mkS b) u)) Q E s := by
  refine eq_str ?_
  rw [mkS_beq]; exact k
theorem ne_no {a b : List Nat} {t u : Tok} (h : a = b) (k : Q (.bool false) s) : wpAny (model prog w) A (compareOp .NotEq (.str (mkS a) t) (.str (mkS b) u)) Q E s := by
  subst h
  refine ne_str ?_
  rw [show (mkS a != mkS a) = false by simp]; exact k
def CutF (h₀ : Heap) (L : Addr) (m : Str → Option Value) (news : List (Addr × Obj)) (s : Shared) (b : Bool) (s' : Shared) : Prop :=
  b = false ∧ ∃ h' tk, s' = { s with heap := h', toks := tk } ∧ Fr h₀ L h' m ∧ News h₀ L h' news
theorem CutF.intro {h' : Heap} {tk : Nat} (F : Fr h₀ L h' m) (N : News h₀ L h' news) : CutF h₀ L m news s false { s with heap := h', toks := tk } := ⟨rfl, h', tk, rfl, F, N⟩
theorem cut_false {M : Model} {c : Sem Bool} {R : Bool → Shared → Prop} (F : Fr h₀ L s.heap m) (N : News h₀ L s.heap news) (h1 : wpAny M A c (CutF h₀ L m news s) E s)
    (h2 : ∀ h' tk, Fr h₀ L h' m → News h₀ L h' news → R false { s with heap := h', toks := tk }) : wpAny M A c R E s := by
  refine wpAny_mono h1 (fun b s' h => ?_) fun _ _ e => e
  obtain ⟨rfl, h', tk, rfl, F', N'⟩ := h
  exact h2 h' tk F' N'
theorem head_cmp {up lo wd hd sz : Int} {t u : Tok} (hhd : hd = (hdN up.toNat lo.toNat : Int)) (hsz : sz = (szN up.toNat lo.toNat : Int)) (h2 : 2 ≤ lo) (h36 : lo ≤ 36) (hup0 : 0 ≤ up) (hup : up < lo) (hw : hd + 2 * sz ≤ wd) (h0 : hd ≠ 0)
    (k : Q (.bool false) s) : wpAny (model prog w) A (compareOp .Eq (.str (mkS [(txL up.toNat lo.toNat wd.toNat).getD (hd - 1).toNat 0]) t) (.str (mkS [(txL up.toNat lo.toNat wd.toNat).getD (hd - 1 + sz).toNat 0]) u)) Q E s := by
  refine eq_no (fun h => ?_) k
  have h' := (List.cons.inj h).1
  have := head_ne (u := up.toNat) (l := lo.toNat) (w := wd.toNat) (by omega) (by omega) (by omega) (by omega) (by omega)
  rw [show (hd - 1).toNat = hdN up.toNat lo.toNat - 1 by omega, show (hd - 1 + sz).toNat = hdN up.toNat lo.toNat - 1 + szN up.toNat lo.toNat by omega] at h'
  exact this h'
theorem cuts_cmp {up lo wd hd sz way : Int} (hhd : hd = (hdN up.toNat lo.toNat : Int)) (hsz : sz = (szN up.toNat lo.toNat : Int)) (h2 : 2 ≤ lo) (h36 : lo ≤ 36) (hup0 : 0 ≤ up) (hup : up < lo) (hw : hd + 2 * sz ≤ wd) (hw3 : wd ≤ hd + 2 * sz + 3)
    (hy0 : 1 ≤ way) (hy : way ≤ sz) (k : Q (.bool false) s) :
    wpAny (model prog w) A (compareOp .NotEq (.bool (decide ((txL up.toNat lo.toNat wd.toNat).drop (hd + way).toNat = ((txL up.toNat lo.toNat wd.toNat).drop hd.toNat).take ((wd - way).toNat - hd.toNat)))) (.bool (way == sz))) Q E s := by
  have e := cuts_iff (u := up.toNat) (l := lo.toNat) (w := wd.toNat) (y := way.toNat) (by omega) (by omega) (by omega) (by omega) (by omega) (by omega) (by omega)
  have e1 : (hd + way).toNat = hdN up.toNat lo.toNat + way.toNat := by omega
  have e2 : hd.toNat = hdN up.toNat lo.toNat := by omega
  have e3 : (wd - way).toNat - hd.toNat = wd.toNat - way.toNat - hdN up.toNat lo.toNat := by omega
  have e4 : (way == sz) = decide (way.toNat = szN up.toNat lo.toNat) := by
    by_cases h : way = sz
    · rw [decide_eq_true (by omega)]; simp [h]
    · rw [decide_eq_false (by omega)]; simp [h]
  rw [e1, e3, e2, e4, e]
  refine ne_bool ?_
  rw [show ∀ b : Bool, (b != b) = false from fun b => by cases b <;> rfl]
  exact k
theorem front_cmp {up lo wd hd sz : Int} {n : Nat} {t u : Tok} (hhd : hd = (hdN up.toNat lo.toNat : Int)) (hsz : sz = (szN up.toNat lo.toNat : Int)) (h2 : 2 ≤ lo) (h36 : lo ≤ 36) (hup0 : 0 ≤ up) (hup : up < lo) (hw : hd + 2 * sz ≤ wd)
    (hn : n = (hd + sz).toNat) (k : Q (.bool false) s) :
    wpAny (model prog w) A (compareOp .NotEq (.str (mkS ((txL up.toNat lo.toNat wd.toNat).take (hd + sz).toNat)) t) (.str (mkS ((List.range n).map fun k => 65 + 16 * (up.toNat * 16 ^ k % lo.toNat) / lo.toNat)) u)) Q E s := by
  refine ne_no ?_ k
  have := front_eq (u := up.toNat) (l := lo.toNat) (w := wd.toNat) (by omega) (by omega) (by omega) (by omega)
  subst hn
  rw [show (hd + sz).toNat = hdN up.toNat lo.toNat + szN up.toNat lo.toNat by omega]
  exact this
theorem word_cmp {n : Nat} {t u : Tok} (k : Q (.bool false) s) : wpAny (model prog w) A (compareOp .Eq (.str (mkS ((dgL n).take 1)) t) (.str (Str.ofString "A") u)) Q E s := by
  rw [show Str.ofString "A" = mkS [65] from by decide +kernel]
  exact eq_no (dgL_head n) k
theorem made_cmp {b : Array UInt8} {t u : Tok} (k : Q (.bool false) s) : wpAny (model prog w) A (compareOp .NotEq (.bytes b t) (.bytes b u)) Q E s := by
  refine ne_bytes ?_
  rw [show (b.toList != b.toList) = false by simp]; exact k
end
theorem sub6 {α : Type} {a b c d e f : α} {l r : List α} : ∀ p ∈ a :: b :: c :: d :: e :: f :: l, p ∈ a :: b :: c :: d :: e :: f :: (l ++ r) := fun _ hp => List.mem_append_left r hp
theorem sub6r {α : Type} {a b c d e f : α} {l r : List α} : ∀ p ∈ r, p ∈ a :: b :: c :: d :: e :: f :: (l ++ r) := fun _ hp => List.mem_append_right (a :: b :: c :: d :: e :: f :: l) hp
theorem sub5 {α : Type} {a b c d e : α} {l r : List α} : ∀ p ∈ a :: b :: c :: d :: e :: l, p ∈ a :: b :: c :: d :: e :: (l ++ r) := fun _ hp => List.mem_append_left r hp
theorem sub5r {α : Type} {a b c d e : α} {l r : List α} : ∀ p ∈ r, p ∈ a :: b :: c :: d :: e :: (l ++ r) := fun _ hp => List.mem_append_right (a :: b :: c :: d :: e :: l) hp
theorem sub33 {α : Type} {x y z a b c : α} {l : List α} : ∀ p ∈ [a, b, c], p ∈ x :: y :: z :: a :: b :: c :: l := fun _ hp => .tail _ (.tail _ (.tail _ (List.mem_append_left l hp)))
theorem sub33r {α : Type} {x y z a b c : α} {l : List α} : ∀ p ∈ l, p ∈ x :: y :: z :: a :: b :: c :: l := fun _ hp => .tail _ (.tail _ (.tail _ (.tail _ (.tail _ (.tail _ hp)))))
theorem sub1 {α : Type} {x : α} {l : List α} : ∀ p ∈ l, p ∈ x :: l := fun _ hp => .tail _ hp
theorem sub0 {α : Type} {l : List α} : ∀ p ∈ l, p ∈ l := fun _ hp => hp
end Mine
set_option maxHeartbeats 8000000 in
theorem PySem.Challenge.cw_ny0003_01_holds : PySem.Challenge.rw_ny0003_01.Holds := by
  w_on
  o_law
  k_head
  (case hw => w_witness2)
  w_strict (
    (k_with "exec For Name BinOp" => (k_here; (rename Fr _ _ _ _ => lF'); (with_unfolding_all refine' For_invVF lF' ?k1 ?k2 ?_; (case k1 => exact rfl); (case k2 => exact rfl); k_whole)))
    k_go0
    all_goals try k_fold
    k_steps
    (have hmy := Mine.ints_filter (by assumption))
    k_dflt (refine' kmk_add_ints ?k1 ?k2 ?k3 ?k4 ?k5 ?k6 ?_ ?k7; (case k1 => k_asm); (case k2 => k_asm); (case k3 => kmk_list); (case k4 => kmk_list); (case k5 => l_ints); (case k6 => exact hmy); (case k7 => (simp only [PySem.sizeLine_eq, List.length_cons, List.length_nil, List.length_take]; omega)))
    intro D' ws' h' F' N' l1 hI'
    (try k_lt l1)
    (try k_sweep)
    k_steps
    with_reducible show wpAny _ _ (PySem.pyIter (PySem.Value.ref _)) (fun it s₂ => LoopAtV _ _ _ _ _ _ _ _ _ it s₂) _ _
    rename Fr _ _ _ _ => lF'
    rename News _ _ _ _ => lN'
    with_unfolding_all refine' kst_listL (fun _ : Unit => _) (fun _ : Unit => []) (fun _ : Unit => True) [Str.ofString "lower", Str.ofString "upper", Str.ofString "head", Str.ofString "size", Str.ofString "letters", Str.ofString "left", Str.ofString "k", Str.ofString "wide", Str.ofString "number", Str.ofString "made", Str.ofString "word", Str.ofString "text", Str.ofString "way"] (fun _ _ => True) () (by rfl) (by (intro c9; (try dsimp only); k_memK)) (by assumption) lF' lN' ?kf ?kk ?kp ?_ ?_
    case kf => exact True.intro
    case kk => exact List.forall_mem_nil _
    case kp => exact True.intro
    all_goals (try clear lF' lN')
    rotate_left
    -- behind the loop
    focus
      intros
      k_steps
      done
    -- a turn
    intros
    k_fold
    (have kMark : KstMark := kstMark)
    rename Fr _ _ _ _ => kFr
    rename News _ _ _ _ => kNews
    rename OwnOff _ _ => kOff
    (try dsimp only [kstB] at kFr)
    (try dsimp only at kNews)
    (try dsimp only at kOff)
    (try simp only [List.nil_append, List.cons_append, List.append_nil] at kNews)
    (try simp only [List.map_cons, List.map_nil] at kOff)
    (k_with "binaryOp Add int int" => ((with_reducible show wpAny _ _ (PySem.binaryOp _ (PySem.Value.int 2 _) (PySem.Value.int (Int.fmod _ 35) _)) _ _ _); refine Mine.add_lower ?_; intro lo hlo hlo2 hlo36))
    (k_with "binaryOp Mod int int" => ((with_reducible show wpAny _ _ (PySem.binaryOp _ (PySem.Value.int (Int.fdiv _ 35) _) (PySem.Value.int _ _)) _ _ _); refine Mine.mod_upper (by assumption) (by assumption) ?_; intro up hup hup0 hupl))
    repeat ((fail_if_success (focus (with_reducible show wpAny _ _ (PySem.exec (PySem.Stmt.While _ _ _ _) _) _ _ _))); (first | (k_unfold; (try dsimp only)) | (k_end; wrow_close) | walk1 | (dsimp only; walk1) | (leave1; (try dsimp only)) | fail "no step"))
    -- the common part
    (k_with "state" => exact Mine.G1_start (by assumption) (by assumption) (by assumption))
    (k_with "state" => exact (Mine.G1_turn (by assumption) (by simpa using (by assumption))).1)
    (k_with "measure" => exact (Mine.G1_turn (by assumption) (by simpa using (by assumption))).2)
    k_while_given ["upper", "lower"] (fun upper lower script common other => Mine.G1 upper lower common other) (fun _ _ _ _ other => other.toNat) "common" "other"
    repeat ((fail_if_success (focus (with_reducible show KswEnd _ _ _ _ _ _ _ _ _ _ _ _))); (first | (k_unfold; (try dsimp only)) | (k_end; wrow_close) | walk1 | (dsimp only; walk1) | (leave1; (try dsimp only)) | fail "no step"))
    rename News _ _ _ _ => nE'
    focus
      refine ksw_end ⟨_, _, _, _⟩ (by assumption) nE' Mine.sub1 True.intro (by kst_all) (by ksw_same) (by kst_p) (by ksw_less)
    repeat ((fail_if_success (focus (with_reducible show wpAny _ _ (PySem.binaryOp PySem.Operator.FloorDiv _ _) _ _ _))); (first | (k_unfold; (try dsimp only)) | (k_end; wrow_close) | walk1 | (dsimp only; walk1) | (leave1; (try dsimp only)) | fail "no step"))
    refine Mine.div_odd (by assumption) (by assumption) (by assumption) (by assumption) ?_
    intro od hod hod0 hod36
    repeat ((fail_if_success (focus (with_reducible show wpAny _ _ (PySem.exec (PySem.Stmt.While _ _ _ _) _) _ _ _))); (first | (k_unfold; (try dsimp only)) | (k_end; wrow_close) | walk1 | (dsimp only; walk1) | (leave1; (try dsimp only)) | fail "no step"))
    -- the twos
    (k_with "state" => exact Mine.G2_start (by assumption) (by assumption))
    (k_with "state" => exact (Mine.G2_turn (by assumption) (by assumption) (by assumption) (by assumption)).1)
    (k_with "measure" => exact (Mine.G2_turn (by assumption) (by assumption) (by assumption) (by assumption)).2)
    k_while_given ["odd!"] (fun odd0 script odd twos => Mine.G2 odd0 odd twos) (fun _ _ odd _ => odd.toNat) "odd" "twos"
    repeat ((fail_if_success (focus (with_reducible show KswEnd _ _ _ _ _ _ _ _ _ _ _ _))); (first | (k_unfold; (try dsimp only)) | (k_end; wrow_close) | walk1 | (dsimp only; walk1) | (leave1; (try dsimp only)) | fail "no step"))
    rename News _ _ _ _ => nE'
    focus
      refine ksw_end ⟨_, _, _, _⟩ (by assumption) nE' Mine.sub0 True.intro (by kst_all) (by ksw_same) (by kst_p) (by ksw_less)
    repeat ((fail_if_success (focus (with_reducible show wpAny _ _ (PySem.exec (PySem.Stmt.While _ _ _ _) _) _ _ _))); (first | (k_unfold; (try dsimp only)) | (k_end; wrow_close) | walk1 | (dsimp only; walk1) | (leave1; (try dsimp only)) | fail "no step"))
    -- the round
    obtain ⟨hTw, hOdd, hPar⟩ := Mine.G2_end (by assumption) (by assumption)
    obtain ⟨hOd0, hOd36⟩ := Mine.G2_bnd (by assumption)
    (k_with "state" => exact Mine.G3_start (by assumption) (by assumption) (by assumption))
    (k_with "state" => exact (Mine.G3_turn (by assumption) (by assumption) (by assumption) (by assumption) (by assumption)).1)
    (k_with "measure" => exact (Mine.G3_turn (by assumption) (by assumption) (by assumption) (by assumption) (by assumption)).2)
    (k_with "binaryOp Pow int int" => ((obtain ⟨hb0, hb11⟩ := Mine.G3_bnd (by assumption) (by assumption) (by assumption) (by assumption)); (refine pow_int_small (by omega) (by omega) (by decide) ?_)))
    k_while_given ["odd"] (fun odd script size => Mine.G3 odd size) (fun odd _ size => Mine.perOf odd.toNat - size.toNat) "size"
    repeat ((fail_if_success (focus (with_reducible show KswEnd _ _ _ _ _ _ _ _ _ _ _ _))); (first | (k_unfold; (try dsimp only)) | (k_end; wrow_close) | walk1 | (dsimp only; walk1) | (leave1; (try dsimp only)) | fail "no step"))
    rename News _ _ _ _ => nE'
    focus
      refine ksw_end ⟨_, _⟩ (by assumption) nE' Mine.sub0 True.intro (by kst_all) (by ksw_same) (by kst_p) (by ksw_less)
    repeat ((fail_if_success (focus (with_reducible show wpAny _ _ (PySem.newTuple _) _ _ _))); (first | (k_unfold; (try dsimp only)) | (k_end; wrow_close) | walk1 | (dsimp only; walk1) | (leave1; (try dsimp only)) | fail "no step"))
    refine Mine.tuple_hs (by assumption) (by assumption) (by assumption) (by assumption) (by assumption) (by assumption) (by assumption) (by assumption) (by assumption) (by assumption) (by assumption) (by assumption) ?_
    intro hd sz hhd hsz hhd0 hhd2 hsz1 hsz11
    -- the letters by long division
    (k_with "pyIter ref" => fail)
    (k_with "state" => exact Mine.GL_start (by assumption) (by assumption))
    (k_with "state" => exact Mine.GL_turn' (by assumption) (by assumption) (by assumption))
    repeat ((fail_if_success (focus (with_reducible show wpAny _ _ (PySem.pyIter (PySem.Value.ref _)) _ _ _))); (first | (k_unfold; (try dsimp only)) | (k_end; wrow_close) | walk1 | (dsimp only; walk1) | (leave1; (try dsimp only)) | fail "no step"))
    k_state_given ["upper", "lower"] (fun upper lower pre letters left => Mine.GL upper lower pre letters left ∧ letters.length = pre.length) "letters$" "left"
    focus
      obtain ⟨hleft0, hleftl⟩ := Mine.GL_bnd (by assumption) (by assumption)
      obtain ⟨hidx0, hidx16⟩ := Mine.GL_idx (by assumption) (by assumption)
      repeat ((fail_if_success (focus (with_reducible show InvEndN _ _ _ _ _ _ _))); (first | (k_unfold; (try dsimp only)) | (k_end; wrow_close) | walk1 | (dsimp only; walk1) | (leave1; (try dsimp only)) | fail "no step"))
      rename News _ _ _ _ => nE'
      (try simp only [List.push_toArray] at nE')
      refine kst_end ⟨_, _, _, _, _⟩ (by assumption) nE' Mine.sub5 Mine.sub5r (by rfl) (by kst_facts) (by kst_all) (by kst_same) (by kst_p)
    -- the number
    (k_with "binaryOp Add int int" => ((with_reducible show wpAny _ _ (PySem.binaryOp _ (PySem.Value.int _ _) (PySem.Value.int (Int.fmod _ 4) _)) _ _ _); refine Mine.add_wide ?_; intro wd hwdlo hwdhi))
    (k_with "binaryOp FloorDiv int int" => ((with_reducible show wpAny _ _ (PySem.binaryOp _ (PySem.Value.int (_ * _ ^ _) _) (PySem.Value.int _ _)) _ _ _); refine Mine.div_number (by assumption) (by assumption) (by assumption) (by omega) ?_; intro num hnum hnum0 hnumlen))
    (k_with "call builtin:abs" => (refine Mine.abs_pos (by assumption) ?_; intro _ _))
    (k_with "call builtin:abs" => ((with_reducible show wpAny _ _ (PySem.call _ [PySem.Value.int (-_) _]) _ _ _); refine Mine.abs_neg (by assumption) ?_; intro _ _))
    repeat ((fail_if_success (focus (with_reducible show wpAny _ _ (PySem.exec (PySem.Stmt.While _ _ _ _) _) _ _ _))); (first | (k_unfold; (try dsimp only)) | (k_end; wrow_close) | walk1 | (dsimp only; walk1) | (leave1; (try dsimp only)) | fail "no step"))
    -- Int2AP
    (k_with "state" => exact Mine.GA_start (by assumption))
    (k_with "state" => exact (Mine.GA_turn (by assumption) (by assumption)).1)
    (k_with "measure" => exact (Mine.GA_turn (by assumption) (by assumption)).2)
    k_while_given ["num!"] (fun n₀ script num val => Mine.GA n₀ num val) (fun _ _ num _ => num.toNat) "num" "val"
    repeat ((fail_if_success (focus (with_reducible show wpAny _ _ (subscriptTail _ _ _ _) _ _ _))); (first | (k_unfold; (try dsimp only)) | (k_end; wrow_close) | walk1 | (dsimp only; walk1) | (leave1; (try dsimp only)) | fail "no step"))
    refine Mine.slice_AP (s := ⟨_, _, _, _, _⟩) (by k_asm) (by k_asm) (Int.fmod_nonneg_of_pos _ (by decide)) (Int.fmod_lt_of_pos _ (by decide)) rfl ?_ (by with_unfolding_all rfl) (by intro _; with_unfolding_all rfl)
    intro _ _ _ _ _
    repeat ((fail_if_success (focus (with_reducible show wpAny _ _ (PySem.binaryOp PySem.Operator.Add _ _) _ _ _))); (first | (k_unfold; (try dsimp only)) | (k_end; wrow_close) | walk1 | (dsimp only; walk1) | (leave1; (try dsimp only)) | fail "no step"))
    refine Mine.add_AP (by assumption) (by assumption) rfl ?_
    intro _ _
    repeat ((fail_if_success (focus (with_reducible show KswEnd _ _ _ _ _ _ _ _ _ _ _ _))); (first | (k_unfold; (try dsimp only)) | (k_end; wrow_close) | walk1 | (dsimp only; walk1) | (leave1; (try dsimp only)) | fail "no step"))
    rename News _ _ _ _ => nE'
    focus
      refine ksw_end ⟨_, _, _, _⟩ (by assumption) nE' Mine.sub1 True.intro (by kst_all) (by ksw_same) (by kst_p) (by ksw_less)
    have hval := Mine.GA_end' (by assumption) (by assumption)
    subst hval
    -- the word
    repeat ((fail_if_success (focus (with_reducible show wpAny _ _ (PySem.eval (PySem.Expr.ListComp _ _ _ _) _) _ _ _))); (first | (k_unfold; (try dsimp only)) | (k_end; wrow_close) | walk1 | (dsimp only; walk1) | (leave1; (try dsimp only)) | fail "no step"))
    k_dflt (refine Mine.ListComp_B (F₁ := by k_asm) (by with_unfolding_all rfl) (by decide) (by rfl) (by decide) (by rfl) ?_ (by intro _; rfl))
    repeat ((fail_if_success (focus (with_reducible show Mine.SrcB _ _ _ _ _ _ _ _ _ _ _ _ _ _))); (first | (k_unfold; (try dsimp only)) | (k_end; wrow_close) | walk1 | (dsimp only; walk1) | (leave1; (try dsimp only)) | fail "no step"))
    k_dflt (refine Mine.SrcB_intro (fun k => ⟨#[k.toNat]⟩) (by rfl) (by k_asm) (by k_asm) (by (have := Mine.apB_size (by assumption)); rw [PySem.sizeLine_eq]; omega) ?_ ?_)
    focus
      intro k' t' I' oI' C' oC' D' m' ys' h' tk' E' hk' hk0' hk256' hC' hx' F' N' off'
      (try simp only [LCg.Off3, and_true] at off')
      k_fold
      repeat ((fail_if_success (focus (with_reducible show LCg.CompEnd _ _ _ _ _ _ _ _ _ _ _ _ _ _))); (first | (k_unfold; (try dsimp only)) | (k_end; wrow_close) | walk1 | (dsimp only; walk1) | (leave1; (try dsimp only)) | fail "no step"))
      refine LCg.CompEnd.intro (by k_asm) (by k_asm) _ (fun _ h => h) (by k_asm) True.intro ?_
      exact ⟨rfl, _, rfl⟩
    intros
    repeat ((fail_if_success (focus (with_reducible show wpAny _ _ (PySem.call (PySem.Value.builtin "str.join") _) _ _ _))); (first | (k_unfold; (try dsimp only)) | (k_end; wrow_close) | walk1 | (dsimp only; walk1) | (leave1; (try dsimp only)) | fail "no step"))
    refine Mine.join_word (by is_list) (by assumption) (by assumption) ?_
    intro _ _
    -- the text
    repeat ((fail_if_success (focus (with_reducible show wpAny _ _ (PySem.call (PySem.Value.builtin "len") _) _ _ _))); (first | (k_unfold; (try dsimp only)) | (k_end; wrow_close) | walk1 | (dsimp only; walk1) | (leave1; (try dsimp only)) | fail "no step"))
    refine Mine.len_word (by assumption) ?_
    repeat ((fail_if_success (focus (with_reducible show wpAny _ _ (PySem.binaryOp PySem.Operator.Mult _ _) _ _ _))); (first | (k_unfold; (try dsimp only)) | (k_end; wrow_close) | walk1 | (dsimp only; walk1) | (leave1; (try dsimp only)) | fail "no step"))
    refine Mine.mul_A (by omega) (by omega) ?_
    intro _ _
    repeat ((fail_if_success (focus (with_reducible show wpAny _ _ (PySem.binaryOp PySem.Operator.Add _ _) _ _ _))); (first | (k_unfold; (try dsimp only)) | (k_end; wrow_close) | walk1 | (dsimp only; walk1) | (leave1; (try dsimp only)) | fail "no step"))
    refine Mine.add_text (by assumption) (by assumption) (by assumption) (by assumption) (by omega) (by omega) ?_
    intro _ _
    -- the first test
    repeat ((fail_if_success (focus (with_reducible show wpAny _ _ (PySem.exec (PySem.Stmt.If _ _ _ _) _) _ _ _))); (first | (k_unfold; (try dsimp only)) | (k_end; wrow_close) | walk1 | (dsimp only; walk1) | (leave1; (try dsimp only)) | fail "no step"))
    (first | (k_unfold; (try dsimp only)) | (k_end; wrow_close) | walk1 | (dsimp only; walk1) | (leave1; (try dsimp only)) | fail "no step")
    k_dflt (refine Mine.cut_false (by k_asm) (by k_asm) ?_ ?_)
    focus
      repeat ((fail_if_success (focus (with_reducible show wpAny _ _ (subscriptTail _ _ _ _) _ _ _))); (first | (k_unfold; (try dsimp only)) | (k_end; wrow_close) | walk1 | (dsimp only; walk1) | (leave1; (try dsimp only)) | fail "no step"))
      refine Mine.item_text (by omega) (by omega) (by omega) ?_ (by with_unfolding_all rfl) (by intro _; with_unfolding_all rfl)
      repeat ((fail_if_success (focus (with_reducible show wpAny _ _ (subscriptTail _ _ _ _) _ _ _))); (first | (k_unfold; (try dsimp only)) | (k_end; wrow_close) | walk1 | (dsimp only; walk1) | (leave1; (try dsimp only)) | fail "no step"))
      refine Mine.item_text (by omega) (by omega) (by omega) ?_ (by with_unfolding_all rfl) (by intro _; with_unfolding_all rfl)
      repeat ((fail_if_success (focus (with_reducible show wpAny _ _ (PySem.compareOp _ _ _) _ _ _))); (first | (k_unfold; (try dsimp only)) | (k_end; wrow_close) | walk1 | (dsimp only; walk1) | (leave1; (try dsimp only)) | fail "no step"))
      refine Mine.head_cmp (by assumption) (by assumption) (by assumption) (by assumption) (by assumption) (by assumption) (by assumption) (by assumption) ?_
      repeat ((fail_if_success (focus (with_reducible show Mine.CutF _ _ _ _ _ _ _))); (first | (k_unfold; (try dsimp only)) | (k_end; wrow_close) | walk1 | (dsimp only; walk1) | (leave1; (try dsimp only)) | fail "no step"))
      exact Mine.CutF.intro (by k_asm) (by k_asm)
      repeat ((fail_if_success (focus (with_reducible show Mine.CutF _ _ _ _ _ _ _))); (first | (k_unfold; (try dsimp only)) | (k_end; wrow_close) | walk1 | (dsimp only; walk1) | (leave1; (try dsimp only)) | fail "no step"))
      exact Mine.CutF.intro (by k_asm) (by k_asm)
    intros
    (try dsimp only)
    -- the ways
    repeat ((fail_if_success (focus (with_reducible show wpAny _ _ (PySem.pyIter (PySem.Value.ref _)) _ _ _))); (first | (k_unfold; (try dsimp only)) | (k_end; wrow_close) | walk1 | (dsimp only; walk1) | (leave1; (try dsimp only)) | fail "no step"))
    with_reducible show wpAny _ _ (PySem.pyIter (PySem.Value.ref _)) (fun it s₂ => LoopAtV _ _ _ _ _ _ _ _ _ it s₂) _ _
    rename Fr _ _ _ _ => lF'
    rename News _ _ _ _ => lN'
    rename IsRange _ _ _ _ _ _ _ _ => rgX
    with_unfolding_all refine' kst_range (fun _ : Unit => _) (fun _ : Unit => []) (fun _ : Unit => True) [] (fun _ _ => True) () (by rfl) rgX (by exact small_one (by omega) (by omega) (by omega) (by omega)) (by exact rangeSize_nat _ _) lF' lN' ?kf ?kk ?kp ?_ ?_
    case kf => exact True.intro
    case kk => exact List.forall_mem_nil _
    case kp => exact True.intro
    all_goals (try clear lF' lN')
    focus
      intros
      k_fold
      (have kMark : KstMark := kstMark)
      rename Fr _ _ _ _ => kFr
      rename News _ _ _ _ => kNews
      rename OwnOff _ _ => kOff
      (try dsimp only [kstB] at kFr)
      (try dsimp only at kNews)
      (try dsimp only at kOff)
      (try simp only [List.nil_append, List.cons_append, List.append_nil] at kNews)
      (try simp only [List.map_cons, List.map_nil] at kOff)
      repeat ((fail_if_success (focus (with_reducible show wpAny _ _ (subscriptTail _ _ _ _) _ _ _))); (first | (k_unfold; (try dsimp only)) | (k_end; wrow_close) | walk1 | (dsimp only; walk1) | (leave1; (try dsimp only)) | fail "no step"))
      refine Mine.slice_text_sn (s := ⟨_, _, _, _, _⟩) (by k_asm) (by k_asm) (by omega) (by omega) (by omega) ?_ (by with_unfolding_all rfl) (by intro _; with_unfolding_all rfl)
      intro _ _ _ _ _
      repeat ((fail_if_success (focus (with_reducible show wpAny _ _ (subscriptTail _ _ _ _) _ _ _))); (first | (k_unfold; (try dsimp only)) | (k_end; wrow_close) | walk1 | (dsimp only; walk1) | (leave1; (try dsimp only)) | fail "no step"))
      refine Mine.slice_text_ss (s := ⟨_, _, _, _, _⟩) (by k_asm) (by k_asm) (by omega) (by omega) (by omega) (by omega) ?_ (by with_unfolding_all rfl) (by intro _; with_unfolding_all rfl)
      intro _ _ _ _ _
      repeat ((fail_if_success (focus (with_reducible show wpAny _ _ (PySem.compareOp _ _ _) _ _ _))); (first | (k_unfold; (try dsimp only)) | (k_end; wrow_close) | walk1 | (dsimp only; walk1) | (leave1; (try dsimp only)) | fail "no step"))
      refine Mine.eq_dec ?_
      repeat ((fail_if_success (focus (with_reducible show wpAny _ _ (PySem.compareOp PySem.CmpOp.NotEq _ _) _ _ _))); (first | (k_unfold; (try dsimp only)) | (k_end; wrow_close) | walk1 | (dsimp only; walk1) | (leave1; (try dsimp only)) | fail "no step"))
      refine Mine.cuts_cmp (by assumption) (by assumption) (by assumption) (by assumption) (by assumption) (by assumption) (by assumption) (by assumption) (by omega) (by omega) ?_
      repeat ((fail_if_success (focus (with_reducible show InvEndN _ _ _ _ _ _ _))); (first | (k_unfold; (try dsimp only)) | (k_end; wrow_close) | walk1 | (dsimp only; walk1) | (leave1; (try dsimp only)) | fail "no step"))
      rename News _ _ _ _ => nE'
      refine kst_end () (by assumption) nE' Mine.sub6 Mine.sub6r (by rfl) True.intro (List.forall_mem_nil _) (by kst_same) True.intro
    intros
    rename Fr _ _ _ _ => kFr
    rename News _ _ _ _ => kNews
    (try dsimp only [kstB] at kFr)
    (try dsimp only at kNews)
    -- the last test
    repeat ((fail_if_success (focus (with_reducible show wpAny _ _ (PySem.exec (PySem.Stmt.If _ _ _ _) _) _ _ _))); (first | (k_unfold; (try dsimp only)) | (k_end; wrow_close) | walk1 | (dsimp only; walk1) | (leave1; (try dsimp only)) | fail "no step"))
    (first | (k_unfold; (try dsimp only)) | (k_end; wrow_close) | walk1 | (dsimp only; walk1) | (leave1; (try dsimp only)) | fail "no step")
    k_dflt (refine Mine.cut_false (by k_asm) (by k_asm) ?_ ?_)
    focus
      repeat ((fail_if_success (focus (with_reducible show wpAny _ _ (subscriptTail _ _ _ _) _ _ _))); (first | (k_unfold; (try dsimp only)) | (k_end; wrow_close) | walk1 | (dsimp only; walk1) | (leave1; (try dsimp only)) | fail "no step"))
      refine Mine.slice_text_ns (s := ⟨_, _, _, _, _⟩) (by k_asm) (by k_asm) (by omega) (by omega) (by omega) ?_ (by with_unfolding_all rfl) (by intro _; with_unfolding_all rfl)
      intro _ _ _ _ _
      repeat ((fail_if_success (focus (with_reducible show wpAny _ _ (PySem.call (PySem.Value.builtin "str.join") _) _ _ _))); (first | (k_unfold; (try dsimp only)) | (k_end; wrow_close) | walk1 | (dsimp only; walk1) | (leave1; (try dsimp only)) | fail "no step"))
      refine Mine.join_letters (News.isList (by k_asm) (by k_mem)) (by assumption) (by assumption) (by rw [rangeKs_length]; omega) ?_
      intro _ _
      repeat ((fail_if_success (focus (with_reducible show wpAny _ _ (PySem.compareOp _ _ _) _ _ _))); (first | (k_unfold; (try dsimp only)) | (k_end; wrow_close) | walk1 | (dsimp only; walk1) | (leave1; (try dsimp only)) | fail "no step"))
      refine Mine.front_cmp (by assumption) (by assumption) (by assumption) (by assumption) (by assumption) (by assumption) (by assumption) (by rw [rangeKs_length]; omega) ?_
      repeat ((fail_if_success (focus (with_reducible show wpAny _ _ (subscriptTail _ _ _ _) _ _ _))); (first | (k_unfold; (try dsimp only)) | (k_end; wrow_close) | walk1 | (dsimp only; walk1) | (leave1; (try dsimp only)) | fail "no step"))
      refine Mine.slice_word (s := ⟨_, _, _, _, _⟩) (by k_asm) (by k_asm) (by assumption) ?_ (by with_unfolding_all rfl) (by intro _; with_unfolding_all rfl)
      intro _ _ _ _ _
      repeat ((fail_if_success (focus (with_reducible show wpAny _ _ (PySem.compareOp _ _ _) _ _ _))); (first | (k_unfold; (try dsimp only)) | (k_end; wrow_close) | walk1 | (dsimp only; walk1) | (leave1; (try dsimp only)) | fail "no step"))
      refine Mine.word_cmp ?_
      repeat ((fail_if_success (focus (with_reducible show wpAny _ _ (PySem.exec (PySem.Stmt.While _ _ _ _) _) _ _ _))); (first | (k_unfold; (try dsimp only)) | (k_end; wrow_close) | walk1 | (dsimp only; walk1) | (leave1; (try dsimp only)) | fail "no step"))
      k_while_given ["num!"] (fun n₀ script num val => Mine.GA n₀ num val) (fun _ _ num _ => num.toNat) "num" "val"
      repeat ((fail_if_success (focus (with_reducible show wpAny _ _ (subscriptTail _ _ _ _) _ _ _))); (first | (k_unfold; (try dsimp only)) | (k_end; wrow_close) | walk1 | (dsimp only; walk1) | (leave1; (try dsimp only)) | fail "no step"))
      refine Mine.slice_AP (s := ⟨_, _, _, _, _⟩) (by k_asm) (by k_asm) (Int.fmod_nonneg_of_pos _ (by decide)) (Int.fmod_lt_of_pos _ (by decide)) rfl ?_ (by with_unfolding_all rfl) (by intro _; with_unfolding_all rfl)
      intro _ _ _ _ _
      repeat ((fail_if_success (focus (with_reducible show wpAny _ _ (PySem.binaryOp PySem.Operator.Add _ _) _ _ _))); (first | (k_unfold; (try dsimp only)) | (k_end; wrow_close) | walk1 | (dsimp only; walk1) | (leave1; (try dsimp only)) | fail "no step"))
      refine Mine.add_AP (by assumption) (by assumption) rfl ?_
      intro _ _
      repeat ((fail_if_success (focus (with_reducible show KswEnd _ _ _ _ _ _ _ _ _ _ _ _))); (first | (k_unfold; (try dsimp only)) | (k_end; wrow_close) | walk1 | (dsimp only; walk1) | (leave1; (try dsimp only)) | fail "no step"))
      rename News _ _ _ _ => nE'
      focus
        refine ksw_end ⟨_, _, _, _⟩ (by assumption) nE' Mine.sub1 True.intro (by kst_all) (by ksw_same) (by kst_p) (by ksw_less)
      have hval := Mine.GA_end' (by assumption) (by assumption)
      subst hval
      repeat ((fail_if_success (focus (with_reducible show wpAny _ _ (PySem.compareOp _ _ _) _ _ _))); (first | (k_unfold; (try dsimp only)) | (k_end; wrow_close) | walk1 | (dsimp only; walk1) | (leave1; (try dsimp only)) | fail "no step"))
      refine Mine.made_cmp ?_
      repeat ((fail_if_success (focus (with_reducible show Mine.CutF _ _ _ _ _ _ _))); (first | (k_unfold; (try dsimp only)) | (k_end; wrow_close) | walk1 | (dsimp only; walk1) | (leave1; (try dsimp only)) | fail "no step"))
      exact Mine.CutF.intro (by k_asm) (by k_asm)
    intros
    repeat ((fail_if_success (focus (with_reducible show InvEndN _ _ _ _ _ _ _))); (first | (k_unfold; (try dsimp only)) | (k_end; wrow_close) | walk1 | (dsimp only; walk1) | (leave1; (try dsimp only)) | fail "no step"))
    rename News _ _ _ _ => nE'
    refine kst_end () (by assumption) nE' Mine.sub33 Mine.sub33r (by rfl) True.intro (List.forall_mem_nil _) (by kst_same) True.intro)
