import PyProof.Rows.All
import Wide.All
import OpenK.AllK
import Wide.FinOn
import Lean
import PySem.Challenge.RW_ij0004_01
set_option Elab.async false
set_option linter.all false
namespace Mine
/- part Base -/
section
open PySem PySem.W PyProof.Rows
open_top hd for PySem.Challenge.rw_ij0004_01
end

/- part Rem -/
section
open PySem PySem.W PySem.Calls PyProof.Rows
theorem ints_kf : ∀ {vs : List Value} {ns : List Int}, IntsAre vs ns → kf_ints vs = true
  | _, _, .nil => rfl
  | _, _, .cons _ _ h => by unfold kf_ints; exact ints_kf h
theorem rm_split {k : Int} : ∀ {vs : List Value} {ns : List Int}, IntsAre vs ns → (ns.any fun x => x == k) = true → ∃ j q, kf_at k vs = some j ∧ ki_delL vs j = some q ∧ IntsAre q (ns.erase k)
  | _, _, .nil, h => by cases h
  | _, _, .cons (ns := ns) (vs := vs) n t hr, h => by
    by_cases e : n = k
    · subst e
      refine ⟨0, vs, ?_, rfl, ?_⟩
      · unfold kf_at; simp [isInt]
      · simpa using hr
    · have h' : (ns.any fun x => x == k) = true := by simpa [e] using h
      obtain ⟨j, q, a, b, c⟩ := rm_split hr h'
      refine ⟨j + 1, .int n t :: q, ?_, ?_, ?_⟩
      · unfold kf_at; rw [a]; simp [isInt, beq_eq_false_iff_ne.mpr e]
      · unfold ki_delL; rw [b]
      · rw [List.erase_cons]; simp [e]; exact .cons n t c
theorem upd_ofF {d : Addr} {o o' : Obj} : ∀ {news : List (Addr × Obj)} {g : Obj → List (Addr × Obj)}, UpdF d o news g → Upd d o o' news (g o')
  | _, _, .head h => .head h
  | _, _, .tail a b => .tail a (upd_ofF b)
section
variable {prog : Program} {w : World} {A : Around} {E : Value → Shared → Prop} {s : Shared} {h₀ h : Heap} {L D : Addr} {m : Str → Option Value} {news : List (Addr × Obj)} {g : Obj → List (Addr × Obj)} {vs : List Value} {ns : List Int} {n : Nat}
theorem rm_ints {k : Int} {t : Tok} {Q : Value → Shared → Prop} (F : Fr h₀ L s.heap m) (N : News h₀ L s.heap news) (U : UpdF D (W.listOf vs.toArray n) news g) (hi : IntsAre vs ns) (hm : (ns.any fun x => x == k) = true) (hz : ns.length ≤ 1000)
    (h : ∀ h' vs', IntsAre vs' (ns.erase k) → Fr h₀ L h' m → News h₀ L h' (g (W.listOf vs'.toArray (n + 1))) → Q .none { s with heap := h' }) :
    wpAny (model prog w) A (call (.builtin "list.remove") [.ref D, .int k t]) Q E s := by
  obtain ⟨j, q, a, b, c⟩ := rm_split hi hm
  refine kf_remove (its := vs.toArray) (n := n) F N (ints_kf hi) a b (upd_ofF U) ?_ fun h' F' N' => h h' q c F' N'
  have := hi.length
  rw [sizeLine_eq]
  show vs.length ≤ _
  omega
end
end

/- part Pure1 -/
section
open PySem PySem.W PySem.Calls PyProof.Rows
def sel (p : Bool) (a : Nat) : Nat := if p then a else 0
/-- five words of the XOR group, independent -/
def Ind5 (a b c d e : Nat) : Prop := ∀ p q r s t : Bool, (((((sel p a) ^^^ sel q b) ^^^ sel r c) ^^^ sel s d) ^^^ sel t e) = 0 → p = false ∧ q = false ∧ r = false ∧ s = false ∧ t = false
def Five (five : List Int) : Prop := ∃ a b c d e : Nat, five = [(a : Int), (b : Int), (c : Int), (d : Int), (e : Int)] ∧ a < 32 ∧ b < 32 ∧ c < 32 ∧ d < 32 ∧ e < 32 ∧ Ind5 a b c d e
def Words (bad : List Int) : Prop := ∀ x ∈ bad, 0 ≤ x ∧ x < 32

theorem add_and_xor : ∀ a b : Nat, a + b = 2 * (a &&& b) + (a ^^^ b) := by
  intro a
  induction a using Nat.strongRecOn with
  | _ a ih =>
    intro b
    by_cases ha : a = 0
    · subst ha; simp
    · have h := ih (a / 2) (by omega) (b / 2)
      have o2 : (a &&& b) / 2 = a / 2 &&& b / 2 := Nat.and_div_two
      have o3 : (a ^^^ b) / 2 = a / 2 ^^^ b / 2 := Nat.xor_div_two
      have m2 := @Nat.and_mod_two_eq_one a b
      have m3 := @Nat.xor_mod_two_eq_one a b
      omega
theorem bitXor_cast (a b : Nat) : Builtin.bitXor (a : Int) (b : Int) = ((a ^^^ b : Nat) : Int) := by
  rw [bitXor_and, bitAnd_pp (by omega) (by omega)]
  simp only [Int.toNat_natCast]
  have h := add_and_xor a b
  omega
theorem xor_lt32 {a b : Nat} (ha : a < 32) (hb : b < 32) : a ^^^ b < 32 := Nat.xor_lt_two_pow (n := 5) ha hb
theorem five_start : Five [16, 8, 4, 2, 1] := by
  refine ⟨16, 8, 4, 2, 1, rfl, by decide, by decide, by decide, by decide, by decide, ?_⟩
  intro p q r s t
  revert p q r s t
  unfold sel
  decide
theorem sel_xor (p q : Bool) (a : Nat) : sel (p ^^ q) a = sel p a ^^^ sel q a := by
  cases p <;> cases q <;> simp [sel]
theorem sel_xor2 (p : Bool) (a b : Nat) : sel p (a ^^^ b) = sel p a ^^^ sel p b := by
  cases p <;> simp [sel]
theorem xor_left (a b c : Nat) : a ^^^ (b ^^^ c) = b ^^^ (a ^^^ c) := by rw [← Nat.xor_assoc, Nat.xor_comm a b, Nat.xor_assoc]
theorem ind_01 {a b c d e : Nat} (H : Ind5 a b c d e) : Ind5 (a ^^^ b) b c d e := by
  intro p q r s t hz
  obtain ⟨e0, e1, e2, e3, e4⟩ := H p (p ^^ q) r s t (by rw [← hz]; simp only [sel_xor, sel_xor2, Nat.xor_assoc, Nat.xor_comm, xor_left])
  have e1' : q = false := by rw [e0] at e1; simpa using e1
  exact ⟨e0, e1', e2, e3, e4⟩

theorem ind_02 {a b c d e : Nat} (H : Ind5 a b c d e) : Ind5 (a ^^^ c) b c d e := by
  intro p q r s t hz
  obtain ⟨e0, e1, e2, e3, e4⟩ := H p q (p ^^ r) s t (by rw [← hz]; simp only [sel_xor, sel_xor2, Nat.xor_assoc, Nat.xor_comm, xor_left])
  have e2' : r = false := by rw [e0] at e2; simpa using e2
  exact ⟨e0, e1, e2', e3, e4⟩

theorem ind_03 {a b c d e : Nat} (H : Ind5 a b c d e) : Ind5 (a ^^^ d) b c d e := by
  intro p q r s t hz
  obtain ⟨e0, e1, e2, e3, e4⟩ := H p q r (p ^^ s) t (by rw [← hz]; simp only [sel_xor, sel_xor2, Nat.xor_assoc, Nat.xor_comm, xor_left])
  have e3' : s = false := by rw [e0] at e3; simpa using e3
  exact ⟨e0, e1, e2, e3', e4⟩

theorem ind_04 {a b c d e : Nat} (H : Ind5 a b c d e) : Ind5 (a ^^^ e) b c d e := by
  intro p q r s t hz
  obtain ⟨e0, e1, e2, e3, e4⟩ := H p q r s (p ^^ t) (by rw [← hz]; simp only [sel_xor, sel_xor2, Nat.xor_assoc, Nat.xor_comm, xor_left])
  have e4' : t = false := by rw [e0] at e4; simpa using e4
  exact ⟨e0, e1, e2, e3, e4'⟩

theorem ind_10 {a b c d e : Nat} (H : Ind5 a b c d e) : Ind5 a (b ^^^ a) c d e := by
  intro p q r s t hz
  obtain ⟨e0, e1, e2, e3, e4⟩ := H (q ^^ p) q r s t (by rw [← hz]; simp only [sel_xor, sel_xor2, Nat.xor_assoc, Nat.xor_comm, xor_left])
  have e0' : p = false := by rw [e1] at e0; simpa using e0
  exact ⟨e0', e1, e2, e3, e4⟩

theorem ind_12 {a b c d e : Nat} (H : Ind5 a b c d e) : Ind5 a (b ^^^ c) c d e := by
  intro p q r s t hz
  obtain ⟨e0, e1, e2, e3, e4⟩ := H p q (q ^^ r) s t (by rw [← hz]; simp only [sel_xor, sel_xor2, Nat.xor_assoc, Nat.xor_comm, xor_left])
  have e2' : r = false := by rw [e1] at e2; simpa using e2
  exact ⟨e0, e1, e2', e3, e4⟩

theorem ind_13 {a b c d e : Nat} (H : Ind5 a b c d e) : Ind5 a (b ^^^ d) c d e := by
  intro p q r s t hz
  obtain ⟨e0, e1, e2, e3, e4⟩ := H p q r (q ^^ s) t (by rw [← hz]; simp only [sel_xor, sel_xor2, Nat.xor_assoc, Nat.xor_comm, xor_left])
  have e3' : s = false := by rw [e1] at e3; simpa using e3
  exact ⟨e0, e1, e2, e3', e4⟩

theorem ind_14 {a b c d e : Nat} (H : Ind5 a b c d e) : Ind5 a (b ^^^ e) c d e := by
  intro p q r s t hz
  obtain ⟨e0, e1, e2, e3, e4⟩ := H p q r s (q ^^ t) (by rw [← hz]; simp only [sel_xor, sel_xor2, Nat.xor_assoc, Nat.xor_comm, xor_left])
  have e4' : t = false := by rw [e1] at e4; simpa using e4
  exact ⟨e0, e1, e2, e3, e4'⟩

theorem ind_20 {a b c d e : Nat} (H : Ind5 a b c d e) : Ind5 a b (c ^^^ a) d e := by
  intro p q r s t hz
  obtain ⟨e0, e1, e2, e3, e4⟩ := H (r ^^ p) q r s t (by rw [← hz]; simp only [sel_xor, sel_xor2, Nat.xor_assoc, Nat.xor_comm, xor_left])
  have e0' : p = false := by rw [e2] at e0; simpa using e0
  exact ⟨e0', e1, e2, e3, e4⟩

theorem ind_21 {a b c d e : Nat} (H : Ind5 a b c d e) : Ind5 a b (c ^^^ b) d e := by
  intro p q r s t hz
  obtain ⟨e0, e1, e2, e3, e4⟩ := H p (r ^^ q) r s t (by rw [← hz]; simp only [sel_xor, sel_xor2, Nat.xor_assoc, Nat.xor_comm, xor_left])
  have e1' : q = false := by rw [e2] at e1; simpa using e1
  exact ⟨e0, e1', e2, e3, e4⟩

theorem ind_23 {a b c d e : Nat} (H : Ind5 a b c d e) : Ind5 a b (c ^^^ d) d e := by
  intro p q r s t hz
  obtain ⟨e0, e1, e2, e3, e4⟩ := H p q r (r ^^ s) t (by rw [← hz]; simp only [sel_xor, sel_xor2, Nat.xor_assoc, Nat.xor_comm, xor_left])
  have e3' : s = false := by rw [e2] at e3; simpa using e3
  exact ⟨e0, e1, e2, e3', e4⟩

theorem ind_24 {a b c d e : Nat} (H : Ind5 a b c d e) : Ind5 a b (c ^^^ e) d e := by
  intro p q r s t hz
  obtain ⟨e0, e1, e2, e3, e4⟩ := H p q r s (r ^^ t) (by rw [← hz]; simp only [sel_xor, sel_xor2, Nat.xor_assoc, Nat.xor_comm, xor_left])
  have e4' : t = false := by rw [e2] at e4; simpa using e4
  exact ⟨e0, e1, e2, e3, e4'⟩

theorem ind_30 {a b c d e : Nat} (H : Ind5 a b c d e) : Ind5 a b c (d ^^^ a) e := by
  intro p q r s t hz
  obtain ⟨e0, e1, e2, e3, e4⟩ := H (s ^^ p) q r s t (by rw [← hz]; simp only [sel_xor, sel_xor2, Nat.xor_assoc, Nat.xor_comm, xor_left])
  have e0' : p = false := by rw [e3] at e0; simpa using e0
  exact ⟨e0', e1, e2, e3, e4⟩

theorem ind_31 {a b c d e : Nat} (H : Ind5 a b c d e) : Ind5 a b c (d ^^^ b) e := by
  intro p q r s t hz
  obtain ⟨e0, e1, e2, e3, e4⟩ := H p (s ^^ q) r s t (by rw [← hz]; simp only [sel_xor, sel_xor2, Nat.xor_assoc, Nat.xor_comm, xor_left])
  have e1' : q = false := by rw [e3] at e1; simpa using e1
  exact ⟨e0, e1', e2, e3, e4⟩

theorem ind_32 {a b c d e : Nat} (H : Ind5 a b c d e) : Ind5 a b c (d ^^^ c) e := by
  intro p q r s t hz
  obtain ⟨e0, e1, e2, e3, e4⟩ := H p q (s ^^ r) s t (by rw [← hz]; simp only [sel_xor, sel_xor2, Nat.xor_assoc, Nat.xor_comm, xor_left])
  have e2' : r = false := by rw [e3] at e2; simpa using e2
  exact ⟨e0, e1, e2', e3, e4⟩

theorem ind_34 {a b c d e : Nat} (H : Ind5 a b c d e) : Ind5 a b c (d ^^^ e) e := by
  intro p q r s t hz
  obtain ⟨e0, e1, e2, e3, e4⟩ := H p q r s (s ^^ t) (by rw [← hz]; simp only [sel_xor, sel_xor2, Nat.xor_assoc, Nat.xor_comm, xor_left])
  have e4' : t = false := by rw [e3] at e4; simpa using e4
  exact ⟨e0, e1, e2, e3, e4'⟩

theorem ind_40 {a b c d e : Nat} (H : Ind5 a b c d e) : Ind5 a b c d (e ^^^ a) := by
  intro p q r s t hz
  obtain ⟨e0, e1, e2, e3, e4⟩ := H (t ^^ p) q r s t (by rw [← hz]; simp only [sel_xor, sel_xor2, Nat.xor_assoc, Nat.xor_comm, xor_left])
  have e0' : p = false := by rw [e4] at e0; simpa using e0
  exact ⟨e0', e1, e2, e3, e4⟩

theorem ind_41 {a b c d e : Nat} (H : Ind5 a b c d e) : Ind5 a b c d (e ^^^ b) := by
  intro p q r s t hz
  obtain ⟨e0, e1, e2, e3, e4⟩ := H p (t ^^ q) r s t (by rw [← hz]; simp only [sel_xor, sel_xor2, Nat.xor_assoc, Nat.xor_comm, xor_left])
  have e1' : q = false := by rw [e4] at e1; simpa using e1
  exact ⟨e0, e1', e2, e3, e4⟩

theorem ind_42 {a b c d e : Nat} (H : Ind5 a b c d e) : Ind5 a b c d (e ^^^ c) := by
  intro p q r s t hz
  obtain ⟨e0, e1, e2, e3, e4⟩ := H p q (t ^^ r) s t (by rw [← hz]; simp only [sel_xor, sel_xor2, Nat.xor_assoc, Nat.xor_comm, xor_left])
  have e2' : r = false := by rw [e4] at e2; simpa using e2
  exact ⟨e0, e1, e2', e3, e4⟩

theorem ind_43 {a b c d e : Nat} (H : Ind5 a b c d e) : Ind5 a b c d (e ^^^ d) := by
  intro p q r s t hz
  obtain ⟨e0, e1, e2, e3, e4⟩ := H p q r (t ^^ s) t (by rw [← hz]; simp only [sel_xor, sel_xor2, Nat.xor_assoc, Nat.xor_comm, xor_left])
  have e3' : s = false := by rw [e4] at e3; simpa using e3
  exact ⟨e0, e1, e2, e3', e4⟩

theorem five_set {five : List Int} {i j : Nat} (h : Five five) (hi : i < 5) (hj : j < 5) (hne : i ≠ j) : Five (five.set i (Builtin.bitXor (five.getD i 0) (five.getD j 0))) := by
  obtain ⟨a, b, c, d, e, rfl, ha, hb, hc, hd, he, H⟩ := h
  match i, j with
  | 0, 0 => exact absurd rfl hne
  | 0, 1 => exact ⟨(a ^^^ b), b, c, d, e, by simp [bitXor_cast], xor_lt32 ha hb, hb, hc, hd, he, ind_01 H⟩
  | 0, 2 => exact ⟨(a ^^^ c), b, c, d, e, by simp [bitXor_cast], xor_lt32 ha hc, hb, hc, hd, he, ind_02 H⟩
  | 0, 3 => exact ⟨(a ^^^ d), b, c, d, e, by simp [bitXor_cast], xor_lt32 ha hd, hb, hc, hd, he, ind_03 H⟩
  | 0, 4 => exact ⟨(a ^^^ e), b, c, d, e, by simp [bitXor_cast], xor_lt32 ha he, hb, hc, hd, he, ind_04 H⟩
  | 1, 0 => exact ⟨a, (b ^^^ a), c, d, e, by simp [bitXor_cast], ha, xor_lt32 hb ha, hc, hd, he, ind_10 H⟩
  | 1, 1 => exact absurd rfl hne
  | 1, 2 => exact ⟨a, (b ^^^ c), c, d, e, by simp [bitXor_cast], ha, xor_lt32 hb hc, hc, hd, he, ind_12 H⟩
  | 1, 3 => exact ⟨a, (b ^^^ d), c, d, e, by simp [bitXor_cast], ha, xor_lt32 hb hd, hc, hd, he, ind_13 H⟩
  | 1, 4 => exact ⟨a, (b ^^^ e), c, d, e, by simp [bitXor_cast], ha, xor_lt32 hb he, hc, hd, he, ind_14 H⟩
  | 2, 0 => exact ⟨a, b, (c ^^^ a), d, e, by simp [bitXor_cast], ha, hb, xor_lt32 hc ha, hd, he, ind_20 H⟩
  | 2, 1 => exact ⟨a, b, (c ^^^ b), d, e, by simp [bitXor_cast], ha, hb, xor_lt32 hc hb, hd, he, ind_21 H⟩
  | 2, 2 => exact absurd rfl hne
  | 2, 3 => exact ⟨a, b, (c ^^^ d), d, e, by simp [bitXor_cast], ha, hb, xor_lt32 hc hd, hd, he, ind_23 H⟩
  | 2, 4 => exact ⟨a, b, (c ^^^ e), d, e, by simp [bitXor_cast], ha, hb, xor_lt32 hc he, hd, he, ind_24 H⟩
  | 3, 0 => exact ⟨a, b, c, (d ^^^ a), e, by simp [bitXor_cast], ha, hb, hc, xor_lt32 hd ha, he, ind_30 H⟩
  | 3, 1 => exact ⟨a, b, c, (d ^^^ b), e, by simp [bitXor_cast], ha, hb, hc, xor_lt32 hd hb, he, ind_31 H⟩
  | 3, 2 => exact ⟨a, b, c, (d ^^^ c), e, by simp [bitXor_cast], ha, hb, hc, xor_lt32 hd hc, he, ind_32 H⟩
  | 3, 3 => exact absurd rfl hne
  | 3, 4 => exact ⟨a, b, c, (d ^^^ e), e, by simp [bitXor_cast], ha, hb, hc, xor_lt32 hd he, he, ind_34 H⟩
  | 4, 0 => exact ⟨a, b, c, d, (e ^^^ a), by simp [bitXor_cast], ha, hb, hc, hd, xor_lt32 he ha, ind_40 H⟩
  | 4, 1 => exact ⟨a, b, c, d, (e ^^^ b), by simp [bitXor_cast], ha, hb, hc, hd, xor_lt32 he hb, ind_41 H⟩
  | 4, 2 => exact ⟨a, b, c, d, (e ^^^ c), by simp [bitXor_cast], ha, hb, hc, hd, xor_lt32 he hc, ind_42 H⟩
  | 4, 3 => exact ⟨a, b, c, d, (e ^^^ d), by simp [bitXor_cast], ha, hb, hc, hd, xor_lt32 he hd, ind_43 H⟩
  | 4, 4 => exact absurd rfl hne
  | (n + 5), _ => exact absurd hi (by omega)
  | _, (n + 5) => exact absurd hj (by omega)
theorem st_start : (([16, 8, 4, 2, 1] : List Int).length = 5) ∧ ([1, 2, 3, 4, 5, 6, 8, 9, 10, 12, 16, 17, 18, 20, 24] : List Int).length ≤ 15 + ([] : List Int).length ∧ Five [16, 8, 4, 2, 1] ∧ Words [1, 2, 3, 4, 5, 6, 8, 9, 10, 12, 16, 17, 18, 20, 24] :=
  ⟨rfl, by decide, five_start, by unfold Words; decide⟩
theorem st_set {five bad pre : List Int} {x h : Int} (h1 : five.length = 5) (h2 : bad.length ≤ 15 + pre.length) (h3 : Five five) (h4 : Words bad) :
    (five.set (h.fmod 5).toNat (Builtin.bitXor (five.getD (h.fmod 5).toNat 0) (five.getD ((h.fmod 5 + 1 + (h.fdiv 5).fmod 4).fmod 5).toNat 0))).length = 5 ∧ bad.length ≤ 15 + (pre ++ [x]).length ∧
      Five (five.set (h.fmod 5).toNat (Builtin.bitXor (five.getD (h.fmod 5).toNat 0) (five.getD ((h.fmod 5 + 1 + (h.fdiv 5).fmod 4).fmod 5).toNat 0))) ∧ Words bad := by
  have e5 : ∀ y : Int, y.fmod 5 = y % 5 := fun y => Int.fmod_eq_emod_of_nonneg y (by decide)
  have e4 : ∀ y : Int, y.fmod 4 = y % 4 := fun y => Int.fmod_eq_emod_of_nonneg y (by decide)
  refine ⟨by rw [List.length_set]; exact h1, by rw [List.length_append]; omega, ?_, h4⟩
  refine five_set h3 ?_ ?_ ?_
  · rw [e5]; omega
  · rw [e5, e5, e4]; omega
  · rw [e5, e5, e4]; omega
theorem st_del {five bad pre : List Int} {x k : Int} (h1 : five.length = 5) (h2 : bad.length ≤ 15 + pre.length) (h3 : Five five) (h4 : Words bad) :
    five.length = 5 ∧ (bad.erase k).length ≤ 15 + (pre ++ [x]).length ∧ Five five ∧ Words (bad.erase k) := by
  have := List.length_erase_le (a := k) (l := bad)
  exact ⟨h1, by rw [List.length_append]; omega, h3, fun y hy => h4 y (List.mem_of_mem_erase hy)⟩
theorem st_add {five bad pre : List Int} {x h : Int} (h1 : five.length = 5) (h2 : bad.length ≤ 15 + pre.length) (h3 : Five five) (h4 : Words bad) :
    five.length = 5 ∧ (bad ++ [h.fmod 31 + 1]).length ≤ 15 + (pre ++ [x]).length ∧ Five five ∧ Words (bad ++ [h.fmod 31 + 1]) := by
  refine ⟨h1, by simp only [List.length_append, List.length_singleton]; omega, h3, fun y hy => ?_⟩
  rcases List.mem_append.mp hy with hy | hy
  · exact h4 y hy
  · rw [List.mem_singleton.mp hy, Int.fmod_eq_emod_of_nonneg h (by decide)]
    omega
end

/- part PureN -/
section
open PySem PySem.W PySem.Calls PyProof.Rows
theorem nim : ∀ {k m a l : Nat}, a + l = k → m < a ^^^ l → m ^^^ l < a ∨ m ^^^ a < l := by
  intro k
  induction k using Nat.strongRecOn with
  | _ k ih =>
    intro m a l hk h
    by_cases h0 : a + l = 0
    · have e1 : a = 0 := by omega
      have e2 : l = 0 := by omega
      subst e1; subst e2
      exact absurd h (by simp)
    · have d1 : (a ^^^ l) / 2 = a / 2 ^^^ l / 2 := Nat.xor_div_two
      have d2 : (m ^^^ l) / 2 = m / 2 ^^^ l / 2 := Nat.xor_div_two
      have d3 : (m ^^^ a) / 2 = m / 2 ^^^ a / 2 := Nat.xor_div_two
      have m1 := @Nat.xor_mod_two_eq_one a l
      have m2 := @Nat.xor_mod_two_eq_one m l
      have m3 := @Nat.xor_mod_two_eq_one m a
      by_cases hlt : m / 2 < a / 2 ^^^ l / 2
      · rcases ih (a / 2 + l / 2) (by omega) rfl hlt with h' | h'
        · left; omega
        · right; omega
      · have e : m / 2 = a / 2 ^^^ l / 2 := by omega
        rw [e] at d2 d3
        have x1 : a / 2 ^^^ l / 2 ^^^ l / 2 = a / 2 := by rw [Nat.xor_assoc, Nat.xor_self, Nat.xor_zero]
        have x2 : a / 2 ^^^ l / 2 ^^^ a / 2 = l / 2 := by rw [Nat.xor_comm (a / 2), Nat.xor_assoc, Nat.xor_self, Nat.xor_zero]
        rw [x1] at d2
        rw [x2] at d3
        omega
/-- m is the least number that no pair of A has whose word differs from w by a bad one -/
def MexP (bd : Nat → Prop) (A : List (Nat × Nat)) (w m : Nat) : Prop := (∀ n, n < m → ∃ y, (y, n) ∈ A ∧ bd (w ^^^ y)) ∧ ∀ y, (y, m) ∈ A → ¬ bd (w ^^^ y)
def GF (bd : Nat → Prop) : List (Nat × Nat) → List (Nat × Nat) → Prop
  | _, [] => True
  | A, (w, m) :: B => MexP bd A w m ∧ GF bd (A ++ [(w, m)]) B
def Closed (P : List (Nat × Nat)) : Prop := ∀ w m v n, (w, m) ∈ P → (v, n) ∈ P → (w ^^^ v, m ^^^ n) ∈ P
def lay (x l : Nat) (p : Nat × Nat) : Nat × Nat := (p.1 ^^^ x, p.2 ^^^ l)
theorem gf_append {bd : Nat → Prop} : ∀ {B C A : List (Nat × Nat)}, GF bd A B → GF bd (A ++ B) C → GF bd A (B ++ C)
  | [], C, A, _, h => by simpa using h
  | (w, m) :: B, C, A, h, h' => ⟨h.1, gf_append h.2 (by simpa using h')⟩
theorem xor_mid (w x y : Nat) : (w ^^^ x) ^^^ (y ^^^ x) = w ^^^ y := by
  rw [Nat.xor_assoc, Nat.xor_comm y x, ← Nat.xor_assoc x x y, Nat.xor_self, Nat.zero_xor]
theorem xor_back (w x : Nat) : (w ^^^ x) ^^^ x = w := by rw [Nat.xor_assoc, Nat.xor_self, Nat.xor_zero]
theorem xor_front (w x : Nat) : w ^^^ (w ^^^ x) = x := by rw [← Nat.xor_assoc, Nat.xor_self, Nat.zero_xor]
theorem mem_lay {x l y n : Nat} {A : List (Nat × Nat)} : (y, n) ∈ A.map (lay x l) ↔ (y ^^^ x, n ^^^ l) ∈ A := by
  rw [List.mem_map]
  constructor
  · rintro ⟨⟨v, k⟩, hm, e⟩
    simp only [lay, Prod.mk.injEq] at e
    rw [← e.1, ← e.2, xor_back, xor_back]
    exact hm
  · intro h
    exact ⟨_, h, by simp only [lay, xor_back]⟩
theorem gf_double {bd : Nat → Prop} {P : List (Nat × Nat)} {x l : Nat} (hc : Closed P) (h1 : ∀ n, n < l → ∃ y, (y, n) ∈ P ∧ bd (y ^^^ x)) (h2 : ∀ y, (y, l) ∈ P → ¬ bd (y ^^^ x)) :
    ∀ B A : List (Nat × Nat), P = A ++ B → GF bd A B → GF bd (P ++ A.map (lay x l)) (B.map (lay x l))
  | [], A, _, _ => trivial
  | (w, m) :: B, A, e, h => by
    have hw : (w, m) ∈ P := by rw [e]; simp
    refine ⟨⟨fun n hn => ?_, fun y hy hb => ?_⟩, ?_⟩
    · rcases nim rfl hn with h' | h'
      · obtain ⟨y, hy, hb⟩ := h.1.1 _ h'
        refine ⟨y ^^^ x, List.mem_append.mpr (.inr (mem_lay.mpr (by rw [xor_back]; exact hy))), ?_⟩
        rw [show (w ^^^ x) ^^^ (y ^^^ x) = w ^^^ y from xor_mid w x y]; exact hb
      · obtain ⟨y, hy, hb⟩ := h1 _ h'
        refine ⟨y ^^^ w, List.mem_append.mpr (.inl (by have := hc _ _ _ _ hy hw; rw [xor_back] at this; exact this)), ?_⟩
        rw [show (w ^^^ x) ^^^ (y ^^^ w) = y ^^^ x from by rw [Nat.xor_comm w x, xor_mid, Nat.xor_comm]]; exact hb
    · rcases List.mem_append.mp hy with hy | hy
      · have := hc _ _ _ _ hw hy
        rw [xor_front] at this
        refine h2 _ this ?_
        rw [show w ^^^ y ^^^ x = (w ^^^ x) ^^^ y from by rw [Nat.xor_assoc, Nat.xor_assoc, Nat.xor_comm x y]]; exact hb
      · have := mem_lay.mp hy
        rw [xor_back] at this
        refine h.1.2 _ this ?_
        rw [show w ^^^ (y ^^^ x) = (w ^^^ x) ^^^ y from by rw [Nat.xor_assoc, Nat.xor_comm x y]]; exact hb
    · have := gf_double hc h1 h2 B (A ++ [(w, m)]) (by simpa using e) h.2
      simpa [lay] using this
theorem closed_double {P : List (Nat × Nat)} {x l : Nat} (hc : Closed P) : Closed (P ++ P.map (lay x l)) := by
  intro w m v n h h'
  rcases List.mem_append.mp h with h | h <;> rcases List.mem_append.mp h' with h' | h'
  · exact List.mem_append.mpr (.inl (hc _ _ _ _ h h'))
  · refine List.mem_append.mpr (.inr (mem_lay.mpr ?_))
    have := hc _ _ _ _ h (mem_lay.mp h')
    simpa only [Nat.xor_assoc] using this
  · refine List.mem_append.mpr (.inr (mem_lay.mpr ?_))
    have := hc _ _ _ _ (mem_lay.mp h) h'
    rw [show w ^^^ v ^^^ x = w ^^^ x ^^^ v from by rw [Nat.xor_assoc, Nat.xor_assoc, Nat.xor_comm v x], show m ^^^ n ^^^ l = m ^^^ l ^^^ n from by rw [Nat.xor_assoc, Nat.xor_assoc, Nat.xor_comm n l]]
    exact this
  · refine List.mem_append.mpr (.inl ?_)
    have := hc _ _ _ _ (mem_lay.mp h) (mem_lay.mp h')
    rwa [xor_mid, xor_mid] at this
end

/- part Drawn -/
section
open PySem PySem.W PySem.Calls PyProof.Rows
/-- enter a def of the text from a frame whose env is not written out -/
local macro_rules | `(tactic| walk_at "m_enter") => `(tactic| (refine' code_def ?k1 ?k2 ?k3 ?k4 ?k5 ?kA $(Lean.mkIdent `hf) $(Lean.mkIdent `hk) ?k6 ?k7 ?k8 ?k9 ?kB ?_ ?c2 ?c3 ?c4 ?c5; (case kA => exact rfl); (case k1 => k_asm); (case k2 => k_asm); (case k3 => k_asm); (case k4 => k_asm); (case k5 => k_asm); (case k6 => k_is); (case k7 => k_is); (case k8 => k_room); (case k9 => first | exact BindsTo.of_eq rfl | exact binds_K (by k_in) rfl (by k_is) rfl rfl rfl | fail "k_enter: no rule for these arguments"); (case c5 => decide); (case kB => exact locs rfl); (case c2 => exact rfl); (case c3 => exact rfl); (case c4 => exact rfl); k_whole; intro g' L' h' FG' F' N' B' X' T'; (try dsimp only); (try k_lift B'); (try k_fold)))
local macro_rules | `(tactic| walk_at "call builtin:list.remove") => `(tactic| (k_here; (with_reducible show wpAny _ _ (call (Value.builtin _) [Value.ref _, Value.int _ _]) _ _ _); k_dflt (refine' rm_ints ?F ?N ?U ?i ?e ?z ?_; (case F => k_asm); (case N => k_asm); (case U => k_updF); (case i => k_asm); (case e => k_asm); (case z => omega)); intro h' vs' hi' F' N'; (try dsimp only at N'); (try k_sweep)))

theorem news_skip2 {h₀ h : Heap} {L : Addr} {x y : Addr × Obj} {r : List (Addr × Obj)} (N : News h₀ L h (x :: y :: r)) : News h₀ L h (x :: r) :=
  fun q hq => N q (List.mem_cons.mpr ((List.mem_cons.mp hq).imp id fun hq => List.mem_cons_of_mem _ hq))
set_option maxRecDepth 100000 in
set_option maxHeartbeats 8000000 in
theorem drawn_call {w : World} {p : Program} {loose : List Str} {mean : ExcName → Option Value} {mg mb : Str → Option Value} {env1 : Env} {base h₀ : Heap} {L : Addr} {m : Str → Option Value} {news : List (Addr × Obj)} {s : Shared} {Q : Value → Shared → Prop} {E : Value → Shared → Prop}
    {l : Addr} {vs : List Value} {ns : List Int}
    (B : Below callerA base [] h₀) (F : Fr h₀ L s.heap m) (X : (Mine.hd.heap_39 w.params).In h₀) (N : News h₀ L s.heap news) (T : Top p loose mean mg mb h₀) (hf : env1.frame = some L) (hk : env1.scope.kind = .function)
    (hl : base.IsList l vs.toArray) (hi : IntsAre vs ns) (hlen : ns.length ≤ 63)
    (h : ∀ t f b vf vb nf n h' tk F5 Bd, Five F5 → Words Bd → Bd.length ≤ 75 → Fr h₀ L h' m → News h₀ L h' ((t, { cls := .type "tuple", data := .seq #[.ref f, .ref b] }) :: (b, W.listOf vb.toArray n) :: (f, W.listOf vf.toArray nf) :: news) → IntsAre vf F5 → IntsAre vb Bd → Q (.ref t) { s with heap := h', toks := tk }) :
    wpAny (model Challenge.rw_ij0004_01.row.prog w) (callerA.deeper env1) (call (.ref 74) [.ref l] []) Q E s := by
  k_with_none
  revert X; k_fill; intro X
  (k_with "pyIter ref" => k_state (fun (pre : List Int) (five bad : List Int) => five.length = 5 ∧ bad.length ≤ 15 + pre.length ∧ Five five ∧ Words bad) "five" "bad")
  (k_with "state" => first | exact st_start | exact st_set (by assumption) (by assumption) (by assumption) (by assumption) | exact st_del (by assumption) (by assumption) (by assumption) (by assumption) | exact st_add (by assumption) (by assumption) (by assumption) (by assumption))
  w_top off
  w_strict (
  refine wpAny_call ?_
  walk_at "m_enter"
  k_steps
  (rename News h₀ L _ _ => kN)
  refine h _ _ _ _ _ _ _ _ _ _ _ (by assumption) (by assumption) ?_ (by assumption) (news_skip2 kN) (by assumption) (by assumption)
  have := List.length_take_le 60 ns
  omega)
end

/- part RowF -/
section
open PySem PySem.W PySem.Calls PyProof.Rows
def rowStep (five : List Int) (place : Int) (word k : Int) : Int := if Builtin.bitAnd (place.fdiv (2 ^ k.toNat)) 1 ≠ 0 then Builtin.bitXor word (five.getD k.toNat 0) else word
def rowAt (five : List Int) (place : Int) : Int := (rangeKs 0 5).foldl (rowStep five place) 0
def rowOf (five : List Int) : List Int := (rangeKs 0 32).map (rowAt five)
local macro_rules | `(tactic| walk_at "m_enter") => `(tactic| (refine' code_def ?k1 ?k2 ?k3 ?k4 ?k5 ?kA $(Lean.mkIdent `hf) $(Lean.mkIdent `hk) ?k6 ?k7 ?k8 ?k9 ?kB ?_ ?c2 ?c3 ?c4 ?c5; (case kA => exact rfl); (case k1 => k_asm); (case k2 => k_asm); (case k3 => k_asm); (case k4 => k_asm); (case k5 => k_asm); (case k6 => k_is); (case k7 => k_is); (case k8 => k_room); (case k9 => first | exact BindsTo.of_eq rfl | exact binds_K (by k_in) rfl (by k_is) rfl rfl rfl | fail "k_enter: no rule for these arguments"); (case c5 => decide); (case kB => exact locs rfl); (case c2 => exact rfl); (case c3 => exact rfl); (case c4 => exact rfl); k_whole; intro g' L' h' FG' F' N' B' X' T'; (try dsimp only); (try k_lift B'); (try k_fold)))

theorem row_yes {F5 pre : List Int} {p k word : Int} (h1 : word = pre.foldl (rowStep F5 p) 0) (h2 : Builtin.bitAnd (p.fdiv (2 ^ k.toNat)) 1 ≠ 0) : Builtin.bitXor word (F5.getD k.toNat 0) = (pre ++ [k]).foldl (rowStep F5 p) 0 := by
  rw [List.foldl_append, ← h1, List.foldl_cons, List.foldl_nil, rowStep, if_pos h2]
theorem row_no {F5 pre : List Int} {p k word : Int} (h1 : word = pre.foldl (rowStep F5 p) 0) (h2 : Builtin.bitAnd (p.fdiv (2 ^ k.toNat)) 1 = 0) : word = (pre ++ [k]).foldl (rowStep F5 p) 0 := by
  rw [List.foldl_append, ← h1, List.foldl_cons, List.foldl_nil, rowStep, if_neg (fun h => h h2)]
theorem row_zero {F5 : List Int} {p : Int} : 0 = ([] : List Int).foldl (rowStep F5 p) 0 := rfl
theorem row_nil {F5 : List Int} : ([] : List Int).length = ([] : List Int).length ∧ ([] : List Int) = ([] : List Int).map (rowAt F5) := ⟨rfl, rfl⟩
theorem row_turn {F5 pre row : List Int} {p word : Int} (h0 : row.length = pre.length) (h1 : row = pre.map (rowAt F5)) (h2 : word = (rangeKs 0 (5 - 0 : Int).toNat).foldl (rowStep F5 p) 0) : (row ++ [word]).length = (pre ++ [p]).length ∧ row ++ [word] = (pre ++ [p]).map (rowAt F5) := by
  refine ⟨by simp [h0], ?_⟩
  rw [List.map_append, h1, h2]; rfl
set_option maxRecDepth 100000 in
set_option maxHeartbeats 8000000 in
theorem row_call {w : World} {p : Program} {loose : List Str} {mean : ExcName → Option Value} {mg mb : Str → Option Value} {env1 : Env} {base h₀ : Heap} {L : Addr} {m : Str → Option Value} {news : List (Addr × Obj)} {s : Shared} {Q : Value → Shared → Prop} {E : Value → Shared → Prop}
    {f : Addr} {vf : List Value} {nf : Nat} {F5 : List Int}
    (B : Below callerA base [] h₀) (F : Fr h₀ L s.heap m) (X : (Mine.hd.heap_39 w.params).In h₀) (N : News h₀ L s.heap ((f, W.listOf vf.toArray nf) :: news)) (T : Top p loose mean mg mb h₀) (hf : env1.frame = some L) (hk : env1.scope.kind = .function)
    (hi : IntsAre vf F5) (h5 : F5.length = 5)
    (h : ∀ r vr n h' tk, Fr h₀ L h' m → News h₀ L h' ((r, W.listOf vr.toArray n) :: (f, W.listOf vf.toArray nf) :: news) → IntsAre vr (rowOf F5) → Q (.ref r) { s with heap := h', toks := tk }) :
    wpAny (model Challenge.rw_ij0004_01.row.prog w) (callerA.deeper env1) (call (.ref 81) [.ref f] []) Q E s := by
  k_with_none
  revert X; k_fill; intro X
  (k_with "pyIter ref" => (k_of "k" => k_state_short (fun (pre : List Int) (word : Int) => word = pre.foldl (rowStep F5 kN) 0) "word"))
  (k_with "pyIter ref" => (k_of "place" => k_state (fun (pre : List Int) (row : List Int) => row.length = pre.length ∧ row = pre.map (rowAt F5)) "row"))
  (k_with "state" => first | exact row_zero | exact row_nil | exact row_yes (by assumption) (by assumption) | exact row_no (by assumption) (by assumption) | exact row_turn (by assumption) (by assumption) (by assumption))
  w_top off
  w_strict (
  refine wpAny_call ?_
  walk_at "m_enter"
  k_steps
  (rename News h₀ L _ _ => kN)
  (rename IntsAre _ _ => kI)
  (rename _ = List.map _ _ => kE)
  refine h _ _ _ _ _ (by assumption) kN ?_
  rw [kE] at kI
  exact kI)
end

/- part Steps -/
section
open PySem PySem.W PySem.Calls PyProof.Rows
section
variable {prog : Program} {w : World} {A : Around} {E : Value → Shared → Prop} {s : Shared} {h₀ : Heap} {L l : Addr} {news : List (Addr × Obj)} {vs : List Value} {ns : List Int} {n : Nat}
/-- an item of a ledger's list of ints at an open place -/
theorem m_item {value slice : PySem.Expr} {k : Int} {u : Tok} {Q : Value → Shared → Prop} (N : News h₀ L s.heap news) (hm : (l, W.listOf vs.toArray n) ∈ news) (hi : IntsAre vs ns)
    (h0 : 0 ≤ k) (h1 : k < ns.length) (hfit : k < 2 ^ 63)
    (hs : subscripted slice false (.ref l) (.int k u) = operate [.ref l, .int k u] (getItem (.ref l) (.int k u)))
    (h : ∀ t, Q (.int (ns.getD k.toNat 0) t) s) :
    wpAny (model prog w) A (subscriptTail value slice (.ref l) (.int k u)) Q E s :=
  item_anyK (IsL.isList (n := n) (N _ hm).1) hi h0 h1 hfit h hs
/-- x in a ledger's list of ints -/
theorem m_in {k : Int} {t : Tok} {Q : Value → Shared → Prop} (N : News h₀ L s.heap news) (hm : (l, W.listOf vs.toArray n) ∈ news) (hi : IntsAre vs ns)
    (h : Q (.bool (ns.any fun x => x == k)) s) : wpAny (model prog w) A (compareOp .In (.int k t) (.ref l)) Q E s := by
  refine kf_in (its := vs.toArray) N hm (ints_kf hi) rfl ?_
  have e : vs.toArray.toList.any (isInt k) = ns.any fun x => x == k := by
    show vs.any (isInt k) = _
    clear hm h
    induction hi with
    | nil => rfl
    | cons n t _ ih => simp only [List.any_cons, ih]; rfl
  rw [e]; exact h
end
theorem m_hi {k : Int} {n : Nat} (h : k < 0 + (((n : Int) - 0).toNat : Int)) : k < (n : Int) := by omega
theorem m_hi2 {k : Int} {n n' : Nat} (h : k < 0 + (((n : Int) - 0).toNat : Int)) (e : n' = n) : k < (n' : Int) := by omega
theorem m_fit {k : Int} {n : Nat} (h : k < 0 + (((n : Int) - 0).toNat : Int)) (e : n ≤ 64) : k < 2 ^ 63 := by omega
theorem allLt_ne {d b : Addr} {l : List (Addr × Obj)} (h : AllLt d l) (hb : @LE.le Nat _ d b) : ∀ p ∈ l, p.1 ≠ b := fun p hp e => Nat.lt_irrefl _ (Nat.lt_of_lt_of_le (e ▸ kst_ltOf h p hp) hb)
abbrev tupOf (vs : Array Value) : Obj := { cls := .type "tuple", data := .seq vs }
theorem cells_five {cm : Str → Option Value} {n₁ n₂ n₃ n₄ n₅ : Str} {c₁ c₂ c₃ c₄ c₅ : Addr} {cells : List (Addr × Obj)} (x : CellsAre cm [(n₁, c₁), (n₂, c₂), (n₃, c₃), (n₄, c₄), (n₅, c₅)] cells) :
    ∃ o₁ o₂ o₃ o₄ o₅, cells = [(c₁, o₁), (c₂, o₂), (c₃, o₃), (c₄, o₄), (c₅, o₅)] ∧ o₁.data = .cell (cm n₁) ∧ o₂.data = .cell (cm n₂) ∧ o₃.data = .cell (cm n₃) ∧ o₄.data = .cell (cm n₄) ∧ o₅.data = .cell (cm n₅) := by
  cases x with | cons h r => obtain ⟨o₂, o₃, o₄, o₅, rfl, h2, h3, h4, h5⟩ := r.four; exact ⟨_, o₂, o₃, o₄, o₅, rfl, h, h2, h3, h4, h5⟩
end

/- part Comp -/
section
open PySem PySem.W PySem.Calls PyProof.Rows
def PInt (p : Int → Bool) : Value → Bool
  | .int k _ => p k
  | _ => false
def FInt (f : Int → Int) (v y : Value) : Prop := ∃ k t t', v = .int k t ∧ y = .int (f k) t'
theorem paired_ints {p : Int → Bool} {f : Int → Int} : ∀ {vs : List Value} {src : List Int}, IntsAre vs src → ∀ {ys : List Value}, Paired (FInt f) (vs.filter (PInt p)) ys → IntsAre ys ((src.filter p).map f)
  | _, _, .nil, ys, h => by cases h; exact .nil
  | _, _, .cons (vs := vs) (ns := ns) n t hr, ys, h => by
    cases hp : p n with
    | false =>
      have e : (Value.int n t :: vs).filter (PInt p) = vs.filter (PInt p) := List.filter_cons_of_neg (by simp [PInt, hp])
      have e2 : (n :: ns).filter p = ns.filter p := List.filter_cons_of_neg (by simp [hp])
      rw [e] at h; rw [e2]
      exact paired_ints hr h
    | true =>
      have e : (Value.int n t :: vs).filter (PInt p) = Value.int n t :: vs.filter (PInt p) := List.filter_cons_of_pos (by simp [PInt, hp])
      have e2 : (n :: ns).filter p = n :: ns.filter p := List.filter_cons_of_pos hp
      rw [e] at h; rw [e2]
      cases h with
      | cons h1 h2 =>
        obtain ⟨k, t1, t2, e3, e4⟩ := h1
        cases e3
        subst e4
        exact .cons _ _ (paired_ints hr h2)
theorem ints_of {vs : List Value} : ∀ {src : List Int}, vs.length = src.length → (∀ (j : Nat) (v : Value), vs[j]? = some v → ∃ t, some v = (src[j]?).map fun k => Value.int k t) → IntsAre vs src := by
  induction vs with
  | nil => intro src hl _; cases src with
    | nil => exact .nil
    | cons _ _ => simp at hl
  | cons v vs ih => intro src hl h; cases src with
    | nil => simp at hl
    | cons k src =>
      obtain ⟨t, e⟩ := h 0 v rfl
      simp at e
      subst e
      exact .cons _ _ (ih (by simpa using hl) fun j v hj => h (j + 1) v hj)
/-- a value that yields the ints of a list when it is walked -/
def IntSrc (h : Heap) (xv : Value) (src : List Int) : Prop :=
  (∃ l vs, xv = .ref l ∧ h.IsList l vs.toArray ∧ IntsAre vs src) ∨ (∃ (r : Addr) (n : Nat) (t u v : Tok), xv = .ref r ∧ IsRange h r 0 (n : Int) 1 t u v ∧ src = rangeKs 0 n ∧ n ≤ 1000)

structure CompReads (prog : Program) (w : World) (A : Around) (env : Env) (scope : Scope) (cl : List (Str × Addr)) (x : Str) (ifs : List PySem.Expr) (elt : PySem.Expr) (src : List Int) (p : Int → Bool) (f : Int → Int) (s : Shared) : Prop where
  tests : ∀ C k t s₃ m₃ E', k ∈ src → s₃.heap.Ns C m₃ → m₃ x = some (.int k t) → (∀ b o, s.heap.get? b = some o → s₃.heap.get? b = some o) →
    wpAny (model prog w) A (forIn ifs true fun c r => if r = true then do let ok ← isTrue c (compEnvC scope cl C env) (eval c (compEnvC scope cl C env)); pure (ForInStep.yield ok) else pure (ForInStep.yield r))
      (fun ok s₄ => ok = p k ∧ Keeps s₃ s₄) E' s₃
  elt : ∀ C k t s₃ m₃ E', k ∈ src → p k = true → s₃.heap.Ns C m₃ → m₃ x = some (.int k t) → (∀ b o, s.heap.get? b = some o → s₃.heap.get? b = some o) →
    wpAny (model prog w) A (eval elt (compEnvC scope cl C env)) (fun y s₄ => (∃ t', y = .int (f k) t') ∧ Keeps s₃ s₄) E' s₃

section
variable {prog : Program} {w : World} {A : Around} {E : Value → Shared → Prop} {s : Shared} {env : Env} {h₀ : Heap} {L : Addr} {m : Str → Option Value} {news : List (Addr × Obj)}
theorem tests_nil {e : Env} {E' : Value → Shared → Prop} : wpAny (model prog w) A (forIn ([] : List PySem.Expr) true fun c r => if r = true then do let ok ← isTrue c e (eval c e); pure (ForInStep.yield ok) else pure (ForInStep.yield r))
      (fun ok s₄ => ok = true ∧ Keeps s s₄) E' s := by
  rw [List.forIn_nil]
  exact wpAny_pure ⟨rfl, s.heap, s.toks, rfl, fun _ _ e => e⟩
theorem tests_one {e : Env} {ct : PySem.Expr} {b : Bool} {E' : Value → Shared → Prop} (h : wpAny (model prog w) A (isTrue ct e (eval ct e)) (fun ok s₄ => ok = b ∧ Keeps s s₄) E' s) :
    wpAny (model prog w) A (forIn [ct] true fun c r => if r = true then do let ok ← isTrue c e (eval c e); pure (ForInStep.yield ok) else pure (ForInStep.yield r)) (fun ok s₄ => ok = b ∧ Keeps s s₄) E' s := by
  rw [List.forIn_cons]
  refine wpAny_bind ?_
  rw [if_pos rfl]
  refine wpAny_bind (wpAny_mono h (fun ok s₄ h₄ => wpAny_pure ?_) fun _ _ x => x)
  show wpAny _ _ (forIn [] ok _) _ _ _
  rw [List.forIn_nil]
  exact wpAny_pure h₄

theorem comp_quiet {scope : Scope} {cl : List (Str × Addr)} {x : Str} {ifs : List PySem.Expr} {elt : PySem.Expr} {src : List Int} {p : Int → Bool} {f : Int → Int} {o : Obj} {P : Nat → Value → Prop}
    (hP : ∀ i v, P i v → ∃ k t, v = .int k t ∧ k ∈ src) (R : CompReads prog w A env scope cl x ifs elt src p f s) :
    QuietOnC prog w A env scope cl x ifs elt [s.heap.objs.size] P (PInt p) (FInt f) { s with heap := s.heap.push o } where
  tests := fun C i v s₃ m₃ E' _ hv hn hm hk _ => by
    obtain ⟨k, t, rfl, hmem⟩ := hP i v hv
    exact R.tests C k t s₃ m₃ E' hmem hn hm fun b o' e => hk b o' (fun hb => by rw [List.mem_singleton.mp hb] at e; exact Nat.lt_irrefl _ (Heap.lt_size e)) (Heap.get?_push_of_some _ e)
  elt := fun C i v s₃ m₃ E' _ hv hp hn hm hk _ => by
    obtain ⟨k, t, rfl, hmem⟩ := hP i v hv
    refine wpAny_mono (R.elt C k t s₃ m₃ E' hmem hp hn hm fun b o' e => hk b o' (fun hb => by rw [List.mem_singleton.mp hb] at e; exact Nat.lt_irrefl _ (Heap.lt_size e)) (Heap.get?_push_of_some _ e)) (fun y s₄ h₄ => ?_) fun _ _ z => z
    obtain ⟨⟨t', rfl⟩, h₄⟩ := h₄
    exact ⟨⟨k, t, t', rfl, rfl⟩, h₄⟩

theorem comp_src {scope : Scope} {cl : List (Str × Addr)} {x : Str} {ifs : List PySem.Expr} {elt : PySem.Expr} {src : List Int} {p : Int → Bool} {f : Int → Int} {xv : Value}
    (hh : A.handled = none) (S : IntSrc s.heap xv src) (hsz : src.length ≤ 1000) (R : CompReads prog w A env scope cl x ifs elt src p f s) :
    wpAny (model prog w) A (pyIter xv) (fun it s₂ => ∃ I fp wr n P St, it = .ref I ∧ Walks prog w A I fp wr n P St ∧ n ≤ sizeLine ∧ St 0 s₂.heap ∧ (∀ b ∈ fp, b < s₂.heap.objs.size) ∧
      QuietOnC prog w A env scope cl x ifs elt wr P (PInt p) (FInt f) s₂ ∧ wr = [s.heap.objs.size] ∧ (∃ o, s₂ = { s with heap := s.heap.push o }) ∧
      (∀ (ys : List Value) (vs : List Value), vs.length = n → (∀ j v, vs[j]? = some v → P j v) → Paired (FInt f) (vs.filter (PInt p)) ys → IntsAre ys ((src.filter p).map f))) E s := by
  have szl : src.length ≤ sizeLine := by rw [sizeLine_eq]; omega
  rcases S with ⟨l, vs, rfl, hl, hi⟩ | ⟨r, n, t, u, v, rfl, hr, rfl, hn⟩
  · have hlt : l < s.heap.objs.size := by obtain ⟨_, e, _⟩ := hl; exact Heap.lt_size e
    refine wpAny_pyIter_list hl ⟨_, _, _, _, _, _, rfl, Walks.list hh s.heap.objs.size l (Nat.ne_of_lt hlt) vs.toArray, ?_, ⟨⟨_, Heap.get?_push_size _ rfl, rfl, rfl⟩, hl.push _⟩, ?_, comp_quiet (fun i v hv => ?_) R, rfl, ⟨_, rfl⟩, ?_⟩
    · have := hi.length
      show vs.length ≤ sizeLine
      omega
    · intro b hb
      show b < (s.heap.push _).objs.size
      rw [Heap.size_push]
      rcases List.mem_cons.mp hb with rfl | hb
      · exact Nat.lt_succ_self _
      · rw [List.mem_singleton.mp hb]; exact Nat.lt_succ_of_lt hlt
    · have hv' : vs[i]? = some v := by simpa using hv
      have hil : i < vs.length := (List.getElem?_eq_some_iff.mp hv').1
      have hil' : i < src.length := by rw [← hi.length]; exact hil
      obtain ⟨t, e⟩ := hi.get i src[i] (by simp [hil'])
      rw [hv'] at e
      exact ⟨src[i], t, Option.some.inj e, List.getElem_mem hil'⟩
    · intro ys us hlen hP hF
      have e : us = vs := by
        apply List.ext_getElem? 
        intro j
        by_cases hj : j < us.length
        · have h1 := hP j us[j] (by simp [hj])
          have h2 : vs[j]? = some us[j] := by simpa using h1
          rw [h2]; simp [hj]
        · have hj2 : ¬ j < vs.length := by
            have : us.length = vs.length := by simpa using hlen
            omega
          rw [List.getElem?_eq_none (by omega), List.getElem?_eq_none (by omega)]
      subst e
      exact paired_ints hi hF
  · refine wpAny_pyIter_range hr (by unfold Builtin.Range.small; first | (simp; omega) | exact small_one (by omega) (by omega) (by omega) (by omega)) ⟨_, _, _, n, _, _, rfl, (LCg.range_walks hh 0 n).bound, ?_, ?_, ?_, comp_quiet (fun i v hv => ?_) R, rfl, ⟨_, rfl⟩, ?_⟩
    · rw [rangeKs_length] at szl; exact szl
    · show IsRangeIter _ _ _ _ _
      have e : Builtin.Range.rangeSize 0 (n : Int) 1 = (n : Int) := by
        have := rangeSize_nat 0 (n : Int)
        simpa using this
      rw [e]; simpa using Heap.get?_push_size _ rfl
    · intro b hb
      rw [List.mem_singleton.mp hb]
      show s.heap.objs.size < (s.heap.push _).objs.size
      rw [Heap.size_push]; exact Nat.lt_succ_self _
    · obtain ⟨hi, t, rfl⟩ := hv
      exact ⟨_, t, rfl, List.mem_map.mpr ⟨i, List.mem_range.mpr hi, rfl⟩⟩
    · intro ys us hlen hP hF
      have hi : IntsAre us (rangeKs 0 n) := by
        refine ints_of (by rw [hlen, rangeKs_length]) fun j v hj => ?_
        obtain ⟨hjn, t, rfl⟩ := hP j v hj
        refine ⟨t, ?_⟩
        have e : (rangeKs 0 n)[j]? = some (0 + (j : Int)) := by simp [rangeKs, hjn]
        rw [e]; rfl
      exact paired_ints hi hF

theorem comp_frame {o : Obj} {D : Addr} {h' : Heap} {ys : Array Value} (F : Fr h₀ L s.heap m) (N : News h₀ L s.heap news) (hD : (s.heap.push o).get? D = none) (hp : h'.PlainList D ys)
    (hk : ∀ b o', b ≠ s.heap.objs.size → s.heap.get? b = some o' → h'.get? b = some o') :
    ∃ n, (∀ q ∈ news, q.1 ≠ D) ∧ Fr h₀ L h' m ∧ News h₀ L h' ((D, W.listOf ys n) :: news) := by
  obtain ⟨n, hn⟩ := hp
  have up : ∀ b o', s.heap.get? b = some o' → h'.get? b = some o' := fun b o' e => hk b o' (fun q => by rw [q] at e; exact Nat.lt_irrefl _ (Heap.lt_size e)) e
  have dead : s.heap.get? D = none := by
    cases e : s.heap.get? D with
    | none => rfl
    | some o' => rw [Heap.get?_push_of_some _ e] at hD; cases hD
  refine ⟨n, fun q hq e => ?_, F.keeps up, fun q hq => ?_⟩
  · have := (N q hq).1
    rw [e, dead] at this
    cases this
  · rcases List.mem_cons.mp hq with rfl | hq
    · refine ⟨hn, fun e => ?_, ?_⟩
      · have hL : D = L := e
        obtain ⟨oL, _, _, hoL, _⟩ := F.ns
        rw [← hL, dead] at hoL
        cases hoL
      · cases e : h₀.get? D with
        | none => rfl
        | some o' =>
          have := F.keep D o' e
          rw [dead] at this
          cases this
    · exact ⟨up _ _ (N q hq).1, (N q hq).2⟩

theorem m_ListComp {elt iter : PySem.Expr} {x : Str} {px : Pos} {ifs : List PySem.Expr} {scope : Scope} {cl : List (Str × Addr)} {pos : Pos} {Q : Value → Shared → Prop} (src : List Int) (p : Int → Bool) (f : Int → Int) (_F₀ : Fr h₀ L s.heap m) (_N₀ : News h₀ L s.heap news)
    (hh : A.handled = none) (hclos : closureFor scope env = pure cl) (hcell : ∀ y ∈ scope.names, y.2 ≠ .cell) (hkind : scope.kind = .function)
    (hnames : ∀ y ∈ scope.names, y.2 = .local → scope.names.lookup y.1 = some .local) (hx : scope.names.lookup x = some .local) (hs : ∀ x, foldedSetIterable iter env x = pure x)
    (h : wpAny (model prog w) A (eval iter env) (fun xv s₁ => IntSrc s₁.heap xv src ∧ src.length ≤ 1000 ∧ Fr h₀ L s₁.heap m ∧ News h₀ L s₁.heap news ∧ CompReads prog w A env scope cl x ifs elt src p f s₁ ∧
      ∀ (D : Addr) (h' : Heap) (tk : Nat) (ys : List Value) (n : Nat), (∀ q ∈ news, q.1 ≠ D) → Fr h₀ L h' m → News h₀ L h' ((D, W.listOf ys.toArray n) :: news) → IntsAre ys ((src.filter p).map f) → Q (.ref D) { s₁ with heap := h', toks := tk }) E s) :
    wpAny (model prog w) A (eval (.ListComp elt [⟨.Name x px, iter, ifs, 0⟩] scope pos) env) Q E s := by
  refine wpAny_ListComp_free (PInt p) (FInt f) hclos hcell hkind hnames hx (wpAny_mono h (fun xv s₁ h₁ => ?_) fun _ _ z => z) hs
  obtain ⟨S, hsz, F, N, R, hQ⟩ := h₁
  refine wpAny_mono (comp_src hh S hsz R) (fun it s₂ h₂ => ?_) fun _ _ z => z
  obtain ⟨I, fp, wr, n, P, St, h1, h2, h3, h4, h5, h6, rfl, ⟨o, rfl⟩, h8⟩ := h₂
  refine ⟨I, fp, _, n, P, St, h1, h2, h3, h4, h5, h6, fun D h' tk ys vs hD _ hpl hlen hP hF hk => ?_⟩
  obtain ⟨n, q1, q2, q3⟩ := comp_frame F N hD hpl fun b o' hb e => hk b o' (fun h => hb (List.mem_singleton.mp h)) (Heap.get?_push_of_some _ e)
  exact hQ D h' tk ys.toList n q1 q2 q3 (h8 _ _ hlen hP hF)

theorem m_Assign_ListComp {elt iter : PySem.Expr} {x y : Str} {px py : Pos} {ifs : List PySem.Expr} {scope : Scope} {cl : List (Str × Addr)} {pos spos : Pos} {Q : Flow → Shared → Prop} (src : List Int) (p : Int → Bool) (f : Int → Int) (_F₀ : Fr h₀ L s.heap m) (_N₀ : News h₀ L s.heap news)
    (hh : A.handled = none) (hL : env.locals = L) (hsw : swapsWith (.ListComp elt [⟨.Name x px, iter, ifs, 0⟩] scope pos) (some (.Name y py)) spos.line env = pure true)
    (hclos : closureFor scope env = pure cl) (hcell : ∀ y ∈ scope.names, y.2 ≠ .cell) (hkind : scope.kind = .function)
    (hnames : ∀ y ∈ scope.names, y.2 = .local → scope.names.lookup y.1 = some .local) (hx : scope.names.lookup x = some .local)
    (hy : env.kindOf y = some .local) (hp : (env.scope.kind == .class || (env.scope.kind == .module && env.locals != env.globals)) = false) (hs : ∀ x, foldedSetIterable iter env x = pure x)
    (h : wpAny (model prog w) A (eval iter env) (fun xv s₁ => IntSrc s₁.heap xv src ∧ src.length ≤ 1000 ∧ Fr h₀ L s₁.heap m ∧ News h₀ L s₁.heap news ∧ CompReads prog w A env scope cl x ifs elt src p f s₁ ∧
      ∀ (D : Addr) (h' : Heap) (tk : Nat) (ys : List Value) (n : Nat), (∀ q ∈ news, q.1 ≠ D) → Fr h₀ L h' (fun z => if z = y then some (.ref D) else m z) → News h₀ L h' ((D, W.listOf ys.toArray n) :: news) → IntsAre ys ((src.filter p).map f) → Q .next { s₁ with heap := h', toks := tk }) E s) :
    wpAny (model prog w) A (exec (.Assign [.Name y py] (.ListComp elt [⟨.Name x px, iter, ifs, 0⟩] scope pos) spos) env) Q E s := by
  subst hL
  refine wpAny_Assign_ListComp_free (PInt p) (FInt f) hsw hclos hcell hkind hnames hx hy hp (wpAny_mono h (fun xv s₁ h₁ => ?_) fun _ _ z => z) hs
  obtain ⟨S, hsz, F, N, R, hQ⟩ := h₁
  refine wpAny_mono (comp_src hh S hsz R) (fun it s₂ h₂ => ?_) fun _ _ z => z
  obtain ⟨I, fp, wr, n, P, St, h1, h2, h3, h4, h5, h6, rfl, ⟨o, rfl⟩, h8⟩ := h₂
  refine ⟨I, fp, _, n, P, St, m, h1, h2, h3, h4, h5, ?_, F.ns.at' fun o' e => Heap.get?_push_of_some _ e, h6, fun D h' tk ys vs hD _ hpl hlen hP hF hns hk => ?_⟩
  · intro hm
    exact Nat.lt_irrefl _ (List.mem_singleton.mp hm ▸ F.ns.lt)
  · obtain ⟨nn, hn⟩ := hpl
    have up : ∀ b o', b ≠ env.locals → s₁.heap.get? b = some o' → h'.get? b = some o' := fun b o' hb e =>
      hk b o' hb (fun h => by rw [List.mem_singleton.mp h] at e; exact Nat.lt_irrefl _ (Heap.lt_size e)) (Heap.get?_push_of_some _ e)
    have dead : s₁.heap.get? D = none := by
      cases e : s₁.heap.get? D with
      | none => rfl
      | some o' => rw [Heap.get?_push_of_some _ e] at hD; cases hD
    have hL₀ : h₀.get? env.locals = none := Heap.get?_none_of_le F.above
    refine hQ D h' tk ys.toList nn (fun q hq e => ?_) ⟨hns, fun b o' e => up b o' (fun q => by rw [q, hL₀] at e; cases e) (F.keep b o' e), F.above⟩ (fun q hq => ?_) (h8 _ _ hlen hP hF)
    · have := (N q hq).1
      rw [e, dead] at this
      cases this
    · rcases List.mem_cons.mp hq with rfl | hq
      · refine ⟨hn, fun e => ?_, ?_⟩
        · have hL : D = env.locals := e
          obtain ⟨oL, _, _, hoL, _⟩ := F.ns
          rw [← hL, dead] at hoL
          cases hoL
        · cases e : h₀.get? D with
          | none => rfl
          | some o' =>
            have := F.keep D o' e
            rw [dead] at this
            cases this
      · exact ⟨up _ _ (N q hq).2.1 (N q hq).1, (N q hq).2⟩
end
end

/- part Reads -/
section
open PySem PySem.W PySem.Calls PyProof.Rows
set_option linter.unusedVariables false
section
variable {prog : Program} {w : World} {A : Around} {E : Value → Shared → Prop} {s : Shared} {env : Env} {scope : Scope} {cl : List (Str × Addr)} {C : Addr}
/-- a free name of a comprehension's block -/
structure FreeIs (env : Env) (scope : Scope) (cl : List (Str × Addr)) (s : Shared) (x : Str) (v : Value) : Prop where
  there : ∃ c, cl.lookup x = some c ∧ s.heap.IsCell c (some v)
  kind : ∀ C, (compEnvC scope cl C env).kindOf x = some .cell
  name : (x == ("__debug__" : Str)) = false
theorem FreeIs.keeps {x : Str} {v : Value} {s s' : Shared} (F : FreeIs env scope cl s x v) (hk : ∀ b o, s.heap.get? b = some o → s'.heap.get? b = some o) : FreeIs env scope cl s' x v :=
  ⟨let ⟨c, h1, ⟨o, h2, h3⟩⟩ := F.there; ⟨c, h1, ⟨o, hk _ _ h2, h3⟩⟩, F.kind, F.name⟩
theorem rd_free {x : Str} {v : Value} {p : Pos} {Q : Value → Shared → Prop} (hk : scope.kind = .function) (F : FreeIs env scope cl s x v) (h : Q v s) :
    wpAny (model prog w) A (eval (.Name x p) (compEnvC scope cl C env)) Q E s :=
  let ⟨_, h1, h2⟩ := F.there
  wpAny_Name (wpAny_loadName_cell (by show (relabel scope env).kind = _; exact hk) (F.kind C) h1 h2 h) F.name
theorem rd_loc {x : Str} {v : Value} {p : Pos} {m : Str → Option Value} {Q : Value → Shared → Prop} (hk : scope.kind = .function) (hx : scope.names.lookup x = some .local) (hn : s.heap.Ns C m) (hm : m x = some v) (h : Q v s) (hd : (x == ("__debug__" : Str)) = false) :
    wpAny (model prog w) A (eval (.Name x p) (compEnvC scope cl C env)) Q E s :=
  wpAny_Name (wpAny_loadName_local (by show (relabel scope env).kind = _; exact hk) (lookup_relabel_local hx) hn hm h) hd
theorem keeps_toks {tk : Nat} : Keeps s { s with toks := tk } := ⟨s.heap, tk, rfl, fun _ _ e => e⟩
theorem keeps_refl : Keeps s s := ⟨s.heap, s.toks, rfl, fun _ _ e => e⟩
theorem in_listI {l : Addr} {vs : List Value} {ns : List Int} {k : Int} {t : Tok} {Q : Value → Shared → Prop} (hl : s.heap.IsList l vs.toArray) (hi : IntsAre vs ns)
    (h : Q (.bool (ns.any fun x => x == k)) s) : wpAny (model prog w) A (compareOp .In (.int k t) (.ref l)) Q E s := by
  refine SeqInW.in_listW (isInt k) (fun y hy => kf_eq (ints_kf hi) y (by simpa using hy)) hl ?_
  have e : vs.toArray.any (isInt k) = ns.any fun x => x == k := by
    rw [← Array.any_toList]
    show vs.any (isInt k) = _
    clear hl h
    induction hi with
    | nil => rfl
    | cons n t _ ih => simp only [List.any_cons, ih]; rfl
  rw [e]; exact h

/-- [N[k] for k in range(len(X)) if X[k] ^ new in bad] -/
theorem reads_used {xs ys nw bd k : Str} {p1 p2 p3 p4 p5 p6 p7 q1 q2 q3 : Pos} {wA nA bA : Addr} {vw vn vb : List Value} {Ws Ms Bd : List Int} {x : Int} {tx : Tok}
    (hk : scope.kind = .function) (hx : scope.names.lookup k = some .local) (hd : (k == ("__debug__" : Str)) = false)
    (f1 : FreeIs env scope cl s xs (.ref wA)) (f2 : FreeIs env scope cl s ys (.ref nA)) (f3 : FreeIs env scope cl s nw (.int x tx)) (f4 : FreeIs env scope cl s bd (.ref bA))
    (lw : s.heap.IsList wA vw.toArray) (ln : s.heap.IsList nA vn.toArray) (lb : s.heap.IsList bA vb.toArray) (iw : IntsAre vw Ws) (im : IntsAre vn Ms) (ib : IntsAre vb Bd) (hl : Ms.length = Ws.length) (h64 : Ws.length ≤ 64) :
    CompReads prog w A env scope cl k [.Compare (.BinOp (.Subscript (.Name xs p1) (.Name k p2) p3) .BitXor (.Name nw p4) p5) [.In] [.Name bd p6] p7] (.Subscript (.Name ys q1) (.Name k q2) q3)
      (rangeKs 0 Ws.length) (fun k => Bd.any fun y => y == Builtin.bitXor (Ws.getD k.toNat 0) x) (fun k => Ms.getD k.toNat 0) s where
  tests := fun C k t s₃ m₃ E' hmem hn hm hk₃ => by
    obtain ⟨h0, h1⟩ := mem_rangeKs hmem
    refine tests_one (wpAny_isTrue_Compare1 (wpAny_BinOp (Subscript_ (rd_free hk (f1.keeps hk₃) (rd_loc hk hx hn hm (item_anyK (lw.at fun o e => hk₃ _ o e) iw h0 (by omega) (by omega) (fun t' =>
      rd_free hk (f3.keeps hk₃) (xor_int (rd_free hk (FreeIs.keeps (s' := { s₃ with toks := s₃.toks + 1 }) f4 hk₃) (in_listI (lb.at fun o e => hk₃ _ o e) ib (wpAny_truthy_bool ⟨rfl, keeps_toks⟩))))) (by with_unfolding_all rfl)) hd)))))
  elt := fun C k t s₃ m₃ E' hmem hp hn hm hk₃ => by
    obtain ⟨h0, h1⟩ := mem_rangeKs hmem
    exact Subscript_ (rd_free hk (f2.keeps hk₃) (rd_loc hk hx hn hm (item_anyK (ln.at fun o e => hk₃ _ o e) im h0 (by omega) (by omega) (fun t' => ⟨⟨t', rfl⟩, keeps_refl⟩) (by with_unfolding_all rfl)) hd))
/-- [x ^ new for x in xs] -/
theorem reads_xor {nw k : Str} {p1 p2 p3 : Pos} {src : List Int} {x : Int} {tx : Tok}
    (hk : scope.kind = .function) (hx : scope.names.lookup k = some .local) (hd : (k == ("__debug__" : Str)) = false) (f3 : FreeIs env scope cl s nw (.int x tx)) :
    CompReads prog w A env scope cl k [] (.BinOp (.Name k p1) .BitXor (.Name nw p2) p3) src (fun _ => true) (fun k => Builtin.bitXor k x) s where
  tests := fun C k t s₃ m₃ E' hmem hn hm hk₃ => tests_nil
  elt := fun C k t s₃ m₃ E' hmem hp hn hm hk₃ => wpAny_BinOp (rd_loc hk hx hn hm (rd_free hk (f3.keeps hk₃) (xor_int ⟨⟨_, rfl⟩, keeps_toks⟩)) hd)
/-- [first ^ d for d in xs] -/
theorem reads_xor' {nw k : Str} {p1 p2 p3 : Pos} {src : List Int} {x : Int} {tx : Tok}
    (hk : scope.kind = .function) (hx : scope.names.lookup k = some .local) (hd : (k == ("__debug__" : Str)) = false) (f3 : FreeIs env scope cl s nw (.int x tx)) :
    CompReads prog w A env scope cl k [] (.BinOp (.Name nw p1) .BitXor (.Name k p2) p3) src (fun _ => true) (fun k => Builtin.bitXor x k) s where
  tests := fun C k t s₃ m₃ E' hmem hn hm hk₃ => tests_nil
  elt := fun C k t s₃ m₃ E' hmem hp hn hm hk₃ => wpAny_BinOp (rd_free hk (f3.keeps hk₃) (rd_loc hk hx hn hm (xor_int ⟨⟨_, rfl⟩, keeps_toks⟩) hd))
/-- [X[k] for k in range(len(X)) if N[k] == number] -/
theorem reads_due {xs ys nb k : Str} {p1 p2 p3 p4 p5 q1 q2 q3 : Pos} {wA nA : Addr} {vw vn : List Value} {Ws Ms : List Int} {x : Int} {tx : Tok}
    (hk : scope.kind = .function) (hx : scope.names.lookup k = some .local) (hd : (k == ("__debug__" : Str)) = false)
    (f1 : FreeIs env scope cl s xs (.ref wA)) (f2 : FreeIs env scope cl s ys (.ref nA)) (f3 : FreeIs env scope cl s nb (.int x tx))
    (lw : s.heap.IsList wA vw.toArray) (ln : s.heap.IsList nA vn.toArray) (iw : IntsAre vw Ws) (im : IntsAre vn Ms) (hl : Ms.length = Ws.length) (h64 : Ws.length ≤ 64) :
    CompReads prog w A env scope cl k [.Compare (.Subscript (.Name ys p1) (.Name k p2) p3) [.Eq] [.Name nb p4] p5] (.Subscript (.Name xs q1) (.Name k q2) q3)
      (rangeKs 0 Ws.length) (fun k => Ms.getD k.toNat 0 == x) (fun k => Ws.getD k.toNat 0) s where
  tests := fun C k t s₃ m₃ E' hmem hn hm hk₃ => by
    obtain ⟨h0, h1⟩ := mem_rangeKs hmem
    refine tests_one (wpAny_isTrue_Compare1 (Subscript_ (rd_free hk (f2.keeps hk₃) (rd_loc hk hx hn hm (item_anyK (ln.at fun o e => hk₃ _ o e) im h0 (by omega) (by omega) (fun t' =>
      rd_free hk (f3.keeps hk₃) (eq_int (wpAny_truthy_bool ⟨?_, keeps_refl⟩))) (by with_unfolding_all rfl)) hd))))
    first | rfl | simp
  elt := fun C k t s₃ m₃ E' hmem hp hn hm hk₃ => by
    obtain ⟨h0, h1⟩ := mem_rangeKs hmem
    exact Subscript_ (rd_free hk (f1.keeps hk₃) (rd_loc hk hx hn hm (item_anyK (lw.at fun o e => hk₃ _ o e) iw h0 (by omega) (by omega) (fun t' => ⟨⟨t', rfl⟩, keeps_refl⟩) (by with_unfolding_all rfl)) hd))
end
end

/- part Least -/
section
open PySem PySem.W PySem.Calls PyProof.Rows
set_option linter.unusedVariables false
def MexI (U : List Int) (a : Int) : Prop := 0 ≤ a ∧ (∀ j, 0 ≤ j → j < a → j ∈ U) ∧ a ∉ U
theorem any_mem {U : List Int} {a : Int} : (U.any fun x => x == a) = true ↔ a ∈ U := by
  simp [List.any_eq_true]
theorem mex_less {U : List Int} {a : Int} (h : a ∈ U) : (U.filter fun y => decide (a + 1 ≤ y)).length < (U.filter fun y => decide (a ≤ y)).length := by
  have key : ∀ V : List Int, (V.filter fun y => decide (a + 1 ≤ y)).length ≤ (V.filter fun y => decide (a ≤ y)).length ∧ (a ∈ V → (V.filter fun y => decide (a + 1 ≤ y)).length < (V.filter fun y => decide (a ≤ y)).length) := by
    intro V
    induction V with
    | nil => simp
    | cons v V ih =>
      rcases Int.lt_trichotomy v a with h1 | h1 | h1
      · have e1 : decide (a + 1 ≤ v) = false := decide_eq_false (by omega)
        have e2 : decide (a ≤ v) = false := decide_eq_false (by omega)
        simp only [List.filter_cons, e1, e2, Bool.false_eq_true, if_false, List.mem_cons]
        exact ⟨ih.1, fun h => h.elim (fun e => by omega) ih.2⟩
      · have e1 : decide (a + 1 ≤ v) = false := decide_eq_false (by omega)
        have e2 : decide (a ≤ v) = true := decide_eq_true (by omega)
        simp only [List.filter_cons, e1, e2, Bool.false_eq_true, if_false, if_true, List.length_cons]
        have := ih.1
        exact ⟨by omega, fun _ => by omega⟩
      · have e1 : decide (a + 1 ≤ v) = true := decide_eq_true (by omega)
        have e2 : decide (a ≤ v) = true := decide_eq_true (by omega)
        simp only [List.filter_cons, e1, e2, if_true, List.length_cons, List.mem_cons]
        have := ih.1
        exact ⟨by omega, fun h => h.elim (fun e => by omega) fun h => by have := ih.2 h; omega⟩
  exact (key U).2 h
section
variable {prog : Program} {w : World} {A : Around} {s : Shared} {h₀ : Heap} {L : Addr} {m : Str → Option Value}
/-- while least in used: least = least + 1, least a cell -/
theorem least_loop {cn : Str} {cs : Scope} {a₀ : Addr} {ccd : Value} {cl : List (Str × Addr)} {c uA : Addr} {o : Obj} {g : Obj → List (Addr × Obj)} {vu : List Value} {nu : Nat} {U : List Int} {t₀ : Tok} {x y : Str} {p1 p2 p3 p4 p5 p6 p7 p8 pos : Pos} {kk : Nat} {Q : Flow → Shared → Prop} {E : Value → Shared → Prop}
    (F : Fr h₀ L s.heap m) (N : News h₀ L s.heap (g o)) (hc : cl.lookup x = some c) (hU : ∀ o', UpdF c o' (g o') g) (hm : ∀ o', (c, o') ∈ g o') (hu : ∀ o', (uA, W.listOf vu.toArray nu) ∈ g o') (hd : o.data = .cell (some (.int 0 t₀)))
    (hy : m y = some (.ref uA)) (hi : IntsAre vu U) (hk : cs.kind = .function) (kx : (envX cn cs L a₀ ccd cl).kindOf x = some .cell) (ky : (envX cn cs L a₀ ccd cl).kindOf y = some .local)
    (hbx : (x == ("__debug__" : Str)) = false) (hby : (y == ("__debug__" : Str)) = false)
    (hs : swapsWith (.BinOp (.Name x p5) .Add (.Constant (.int 1) kk p6) p7) (some (.Name x p4)) p8.line (envX cn cs L a₀ ccd cl) = pure false)
    (h : ∀ h' o' a t tk, Fr h₀ L h' m → News h₀ L h' (g o') → o'.data = .cell (some (.int a t)) → MexI U a → Q .next { s with heap := h', toks := tk }) :
    wpAny (model prog w) A (exec (.While (.Compare (.Name x p1) [.In] [.Name y p2] p3) [.Assign [.Name x p4] (.BinOp (.Name x p5) .Add (.Constant (.int 1) kk p6) p7) p8] [] pos) (envX cn cs L a₀ ccd cl)) Q E s := by
  refine wpAny_mono (Q := Q) (E := fun _ _ => False) ?_ (fun _ _ z => z) fun _ _ z => z.elim
  refine While_inv2 (fun n m₁ nx => m₁ = m ∧ ∃ o' a t, nx = g o' ∧ o'.data = .cell (some (.int a t)) ∧ 0 ≤ a ∧ (∀ j, 0 ≤ j → j < a → j ∈ U) ∧ n = (U.filter fun z => decide (a ≤ z)).length) F N
    ⟨rfl, o, 0, t₀, rfl, hd, Int.le_refl _, fun j h1 h2 => by omega, rfl⟩ ?_ PassesOwn.never
  rintro n m₁ nx h₁ tk₁ F₁ N₁ ⟨rfl, o', a, t, rfl, hd', h0, hlow, rfl⟩
  refine wpAny_isTrue_Compare1 (nameX_C N₁ hc (hm o') hd' (nameX_L F₁ hy (m_in N₁ (hu o') hi (wpAny_truthy_bool ?_)) hk ky hby) hk kx hbx)
  cases hin : (U.any fun z => z == a) with
  | false =>
    simp only [Bool.false_eq_true, if_false]
    exact h _ _ _ _ _ F₁ N₁ hd' ⟨h0, hlow, fun hm => by rw [any_mem.mpr hm] at hin; cases hin⟩
  | true =>
    simp only [if_true]
    have hmem := any_mem.mp hin
    refine wpAny_execs_cons (wpAny_Assign_Name (wpAny_BinOp (nameX_C N₁ hc (hm o') hd' (wpAny_Constant_int (add_int (storeX_C F₁ N₁ hc (hU o') hd' (fun h' o'' F' N' hd'' => ?_) hk kx))) hk kx hbx)) hs)
    refine wpAny_execs_nil ⟨h', _, m₁, _, _, rfl, F', N', mex_less hmem, rfl, o'', a + 1, _, rfl, hd'', by omega, fun j h1 h2 => ?_, rfl⟩
    by_cases e : j = a
    · rw [e]; exact hmem
    · exact hlow j h1 (by omega)
theorem updF_build {c : Addr} {o' : Obj} {post : List (Addr × Obj)} (h2 : ∀ p ∈ post, p.1 ≠ c) : ∀ {pre : List (Addr × Obj)} {g : Obj → List (Addr × Obj)}, (∀ o', g o' = pre ++ (c, o') :: post) → (∀ p ∈ pre, p.1 ≠ c) → UpdF c o' (g o') g
  | [], g, hg, _ => by
    have e : g = fun o' => (c, o') :: post := funext hg
    subst e
    exact .head h2
  | p :: pre, g, hg, h1 => by
    have e : g = fun o' => p :: (pre ++ (c, o') :: post) := funext hg
    subst e
    exact .tail (h1 p List.mem_cons_self) (updF_build (g := fun o' => pre ++ (c, o') :: post) h2 (fun _ => rfl) fun q hq => h1 q (List.mem_cons_of_mem _ hq))
theorem least_loop' {cn : Str} {cs : Scope} {a₀ : Addr} {ccd : Value} {cl : List (Str × Addr)} {c uA : Addr} {o : Obj} {nws : List (Addr × Obj)} {g : Obj → List (Addr × Obj)} {vu : List Value} {nu : Nat} {U : List Int} {t₀ : Tok} {x y : Str} {p1 p2 p3 p4 p5 p6 p7 p8 pos : Pos} {kk : Nat} {Q : Flow → Shared → Prop} {E : Value → Shared → Prop}
    (F : Fr h₀ L s.heap m) (N : News h₀ L s.heap nws) (hc : cl.lookup x = some c) (hU : UpdF c o nws g) (hu : (uA, W.listOf vu.toArray nu) ∈ nws) (hd : o.data = .cell (some (.int 0 t₀)))
    (hy : m y = some (.ref uA)) (hi : IntsAre vu U) (hk : cs.kind = .function) (kx : (envX cn cs L a₀ ccd cl).kindOf x = some .cell) (ky : (envX cn cs L a₀ ccd cl).kindOf y = some .local)
    (hbx : (x == ("__debug__" : Str)) = false) (hby : (y == ("__debug__" : Str)) = false)
    (hs : swapsWith (.BinOp (.Name x p5) .Add (.Constant (.int 1) kk p6) p7) (some (.Name x p4)) p8.line (envX cn cs L a₀ ccd cl) = pure false)
    (h : ∀ h' o' a t tk, Fr h₀ L h' m → News h₀ L h' (g o') → o'.data = .cell (some (.int a t)) → MexI U a → Q .next { s with heap := h', toks := tk }) :
    wpAny (model prog w) A (exec (.While (.Compare (.Name x p1) [.In] [.Name y p2] p3) [.Assign [.Name x p4] (.BinOp (.Name x p5) .Add (.Constant (.int 1) kk p6) p7) p8] [] pos) (envX cn cs L a₀ ccd cl)) Q E s := by
  obtain ⟨pre, post, rfl, hg, h1, h2⟩ := hU.split
  have hm : ∀ o', (c, o') ∈ g o' := fun o' => by rw [hg]; exact List.mem_append_right _ List.mem_cons_self
  have hu' : ∀ o', (uA, W.listOf vu.toArray nu) ∈ g o' := fun o' => by
    rw [hg]
    rcases List.mem_append.mp hu with q | q
    · exact List.mem_append_left _ q
    · rcases List.mem_cons.mp q with q | q
      · have : o = W.listOf vu.toArray nu := (Prod.mk.inj q).2.symm
        rw [this] at hd
        cases hd
      · exact List.mem_append_right _ (List.mem_cons_of_mem _ q)
  exact least_loop F (by rw [hg]; exact N) hc (fun o' => updF_build h2 hg h1) hm hu' hd hy hi hk kx ky hbx hby hs h
end
end

/- part Doub -/
section
open PySem PySem.W PySem.Calls PyProof.Rows
local macro_rules | `(tactic| walk_at "m_enterC") => `(tactic| (refine' code_defC ?k1 ?k2 ?k3 ?k4 ?k5 ?kA $(Lean.mkIdent `hf) $(Lean.mkIdent `hk) ?k6 ?k7 ?k8 ?k9 ?kB ?kD ?_ ?c2 ?c3 ?c4; (case kA => exact rfl); (case k1 => k_asm); (case k2 => k_asm); (case k3 => k_asm); (case k4 => k_asm); (case k5 => k_asm); (case k6 => k_is); (case k7 => k_is); (case k8 => k_room); (case k9 => first | exact BindsTo.of_eq rfl | exact binds_K (by k_in) rfl (by k_is) rfl rfl rfl | fail "k_enter: no rule for these arguments"); (case kB => exact rfl); (case kD => decide +kernel); (case c2 => exact rfl); (case c3 => exact rfl); (case c4 => exact rfl); k_whole; intro g' L' h' tk' cells' FG' F' N' Y' B' X' T' l1; k_lt l1; (have hAL := l1.2.2.2.2); (have hY := cells_five Y'; obtain ⟨o', o2', o3', o4', o5', hE', d1', d2', d3', d4', d5'⟩ := hY; subst hE'; clear Y'); (try simp only [List.cons_append, List.nil_append] at N'); (try dsimp only); (try k_lift B'); (try k_fold)))
local macro_rules | `(tactic| walk_at "m_free") => `(tactic| exact ⟨⟨_, rfl, _, News.get (by assumption) (by k_mem), by assumption⟩, fun _ => rfl, rfl⟩)
local macro_rules | `(tactic| walk_at "m_sub") => `(tactic| ((repeat (refine List.forall_mem_cons.mpr ⟨by k_mem, ?_⟩)); (intro q hq; repeat (first | exact hq | refine List.mem_cons_of_mem _ ?_))))
def usedOf (Ws Ms Bd : List Int) (x : Int) : List Int := ((rangeKs 0 Ws.length).filter fun k => Bd.any fun y => y == Builtin.bitXor (Ws.getD k.toNat 0) x).map fun k => Ms.getD k.toNat 0
theorem ints_all {vs : List Value} {a b : List Int} {f : Int → Int} (h : IntsAre vs (a ++ List.map f (List.filter (fun _ => true) b))) : IntsAre vs (a ++ b.map f) := by
  rwa [List.filter_eq_self.mpr (fun _ _ => rfl)] at h
local macro_rules | `(tactic| walk_at "m_lst") => `(tactic| exact IsL.isList (News.get (by assumption) (by k_mem)))
local macro_rules | `(tactic| k_ne) => `(tactic| (refine neN ?_; (try dsimp only); first | with_reducible assumption | with_reducible exact Ne.symm (by with_reducible assumption)))
local macro_rules | `(tactic| k_all) => `(tactic| (k_whole; assumption))
local macro_rules | `(tactic| k_all) => `(tactic| (k_whole; exact allLt_ne (by assumption) (by omega)))
local macro_rules | `(tactic| walk_at "subscriptTail") => `(tactic| (k_here; (with_reducible show wpAny _ _ (subscriptTail _ _ (Value.ref _) (Value.int _ _)) _ _ _); k_dflt (refine' m_item ?N ?m ?i ?h0 ?h1 ?h2 ?hs ?_; (case N => with_reducible assumption); (case m => k_mem); (case i => with_reducible assumption); (case h0 => with_reducible assumption); (case h1 => first | exact m_hi (by with_reducible assumption) | exact m_hi2 (by with_reducible assumption) (by with_reducible assumption)); (case h2 => exact m_fit (by with_reducible assumption) (by with_reducible assumption)); (case hs => with_unfolding_all rfl)); intro _))
local macro_rules | `(tactic| walk_at "compareOp In int ref") => `(tactic| (k_here; k_dflt (refine' m_in ?N ?m ?i ?_; (case N => with_reducible assumption); (case m => k_mem); (case i => with_reducible assumption))))

set_option maxRecDepth 100000 in
set_option maxHeartbeats 8000000 in
theorem doubled_call {w : World} {p : Program} {loose : List Str} {mean : ExcName → Option Value} {mg mb : Str → Option Value} {e1 e2 e3 : Env} {base h₀ : Heap} {L : Addr} {m : Str → Option Value} {news : List (Addr × Obj)} {s : Shared} {Q : Value → Shared → Prop} {E : Value → Shared → Prop}
    {a wA nA bA : Addr} {vw vn vb : List Value} {nw nn nb : Nat} {Ws Ms Bd : List Int} {x : Int} {tx : Tok}
    (B : Below ((callerA.deeper e1).deeper e2) base [e2, e1] h₀) (F : Fr h₀ L s.heap m) (X : (Mine.hd.heap_39 w.params).In h₀)
    (N : News h₀ L s.heap ((a, tupOf #[.ref wA, .ref nA]) :: (wA, W.listOf vw.toArray nw) :: (nA, W.listOf vn.toArray nn) :: (bA, W.listOf vb.toArray nb) :: news)) (T : Top p loose mean mg mb h₀) (hf : e3.frame = some L) (hk : e3.scope.kind = .function)
    (hw : IntsAre vw Ws) (hn : IntsAre vn Ms) (hb : IntsAre vb Bd) (hl : Ms.length = Ws.length) (h16 : Ws.length ≤ 64)
    (h : ∀ (r wA' nA' : Addr) (vw' vn' : List Value) (n1 n2 : Nat) (h' : Heap) (tk : Nat) (least : Int), MexI (usedOf Ws Ms Bd x) least → IntsAre vw' (Ws ++ Ws.map fun k => Builtin.bitXor k x) → IntsAre vn' (Ms ++ Ms.map fun k => Builtin.bitXor k least) → Fr h₀ L h' m → News h₀ L h' ((r, tupOf #[.ref wA', .ref nA']) :: (wA', W.listOf vw'.toArray n1) :: (nA', W.listOf vn'.toArray n2) :: (a, tupOf #[.ref wA, .ref nA]) :: (wA, W.listOf vw.toArray nw) :: (nA, W.listOf vn.toArray nn) :: (bA, W.listOf vb.toArray nb) :: news) → Q (.ref r) { s with heap := h', toks := tk }) :
    wpAny (model Challenge.rw_ij0004_01.row.prog w) (((callerA.deeper e1).deeper e2).deeper e3) (call (.ref 91) [.ref a, .int x tx, .ref bA] []) Q E s := by
  k_with_none
  revert X; k_fill; intro X
  w_top off
  w_strict (
  refine wpAny_call ?_
  walk_at "m_enterC"
  iterate 12 (first | (k_unfold; (try dsimp only)) | (k_end; wrow_close) | walk1)
  refine' m_Assign_ListComp (rangeKs 0 Ws.length) (fun k => Bd.any fun y => y == Builtin.bitXor (Ws.getD k.toNat 0) x) (fun k => Ms.getD k.toNat 0) ?F ?N ?hh ?hL ?hsw ?hclos ?hcell ?hkind ?hnames ?hx ?hy ?hp ?hs ?_
  (case F => k_asm); (case N => k_asm); (case hh => exact rfl); (case hL => exact rfl); (case hsw => with_unfolding_all rfl); (case hclos => with_unfolding_all rfl); (case hcell => decide); (case hkind => exact rfl); (case hnames => decide); (case hx => exact rfl); (case hy => exact rfl); (case hp => exact rfl); (case hs => (intro _; exact rfl))
  repeat ((with_reducible show wpAny _ _ _ _ _ _); walk1)
  refine ⟨.inr ⟨_, Ws.length, _, _, _, rfl, by assumption, rfl, by omega⟩, (by rw [rangeKs_length]; omega), by assumption, by assumption, ?_, ?_⟩
  · refine reads_used (wA := wA) (nA := nA) (bA := bA) (tx := tx) (vw := vw) (vn := vn) (vb := vb) rfl rfl rfl ?f1 ?f2 ?f3 ?f4 ?l1 ?l2 ?l3 (by assumption) (by assumption) (by assumption) (by assumption) (by assumption)
    case f1 => walk_at "m_free"
    case f2 => walk_at "m_free"
    case f3 => walk_at "m_free"
    case f4 => walk_at "m_free"
    case l1 => walk_at "m_lst"
    case l2 => walk_at "m_lst"
    case l3 => walk_at "m_lst"
  intro D h' tk ys n neD F' N' I'
  simp only [List.forall_mem_cons] at neD
  obtain ⟨n1, n2, n3, n4, n5, n6, n7, n8, n9, n0⟩ := neD
  iterate 5 (first | (k_unfold; (try dsimp only)) | walk1 | (dsimp only; walk1))
  refine' least_loop' (uA := D) (vu := ys) (nu := n) ?F ?N ?c ?U ?u ?d ?y ?i ?k ?kx ?ky ?bx ?bz ?s ?_
  case F => k_asm
  case N => k_asm
  case c => rfl
  case U => k_updF
  case u => k_mem
  case d => assumption
  case y => rfl
  case i => assumption
  case k => rfl
  case kx => rfl
  case ky => rfl
  case bx => decide
  case bz => decide
  case s => rfl
  intro h'2 o'2 least tl tk2 F2 N2 d2 mx
  dsimp only
  iterate 6 (first | (k_unfold; (try dsimp only)) | walk1 | (dsimp only; walk1))
  refine' m_ListComp Ws (fun _ => true) (fun k => Builtin.bitXor k x) ?F ?N ?hh ?hclos ?hcell ?hkind ?hnames ?hx ?hs ?_
  (case F => k_asm); (case N => k_asm); (case hh => exact rfl); (case hclos => with_unfolding_all rfl); (case hcell => decide); (case hkind => exact rfl); (case hnames => decide); (case hx => exact rfl); (case hs => (intro _; exact rfl))
  repeat ((with_reducible show wpAny _ _ _ _ _ _); walk1)
  refine ⟨.inl ⟨wA, vw, rfl, by walk_at "m_lst", by assumption⟩, by omega, by assumption, by assumption, ?_, ?_⟩
  · refine reads_xor (tx := tx) rfl rfl rfl ?f3
    case f3 => walk_at "m_free"
  intro D2 h3 tk3 ys2 n2 neD2 F3 N3 I3
  simp only [List.forall_mem_cons] at neD2
  obtain ⟨u0, u1, u2, u3, u4, u5, u6, u7, u8, u9, u10⟩ := neD2
  iterate 4 (first | (k_unfold; (try dsimp only)) | walk1 | (dsimp only; walk1))
  refine' m_ListComp Ms (fun _ => true) (fun k => Builtin.bitXor k least) ?F ?N ?hh ?hclos ?hcell ?hkind ?hnames ?hx ?hs ?_
  (case F => k_asm); (case N => k_asm); (case hh => exact rfl); (case hclos => with_unfolding_all rfl); (case hcell => decide); (case hkind => exact rfl); (case hnames => decide); (case hx => exact rfl); (case hs => (intro _; exact rfl))
  repeat ((with_reducible show wpAny _ _ _ _ _ _); walk1)
  refine ⟨.inl ⟨nA, vn, rfl, by walk_at "m_lst", by assumption⟩, by omega, by assumption, by assumption, ?_, ?_⟩
  · refine reads_xor (tx := tl) rfl rfl rfl ?f4
    case f4 => walk_at "m_free"
  intro D3 h4 tk4 ys3 n3 neD3 F4 N4 I4
  repeat' (first | (k_unfold; (try dsimp only)) | (k_end; wrow_close) | walk1 | (dsimp only; walk1) | (leave1; walk_say "STEP leave1"; try dsimp only))
  (rename News h₀ L _ _ => kN)
  refine' h _ _ _ _ _ _ _ _ _ least mx (ints_all (by assumption)) (ints_all (by assumption)) (by assumption) (kst_newsOf kN ?sub)
  case sub => walk_at "m_sub")
end

/- part SetAttr -/
section
open PySem PySem.W PySem.Calls PyProof.Rows
open Sem (wp)
set_option linter.unusedVariables false
set_option maxRecDepth 100000
theorem lk_set_contains : typeLookup (.type "set") "__contains__" = pure (some (.builtin "set.__contains__")) := PySem.F.slot_set_contains.lookup
theorem md_get : Slot "method_descriptor" "__get__" "method_descriptor.__get__" :=
  .of (owner := "method_descriptor") (n := "__get__") (by rw [typeLookup_type, builtinLookup_eq_fast]; kernel_rfl) (by decide +kernel) (by decide +kernel) (by decide +kernel)
    (by first | exact .inl (by decide +kernel) | exact .inr (by decide +kernel)) (by rw [isSubtype_type]; kernel_rfl)
theorem md_no_set : typeLookup (.type "method_descriptor") "__set__" = pure none := by rw [typeLookup_type, builtinLookup_eq_fast]; kernel_rfl
theorem md_no_delete : typeLookup (.type "method_descriptor") "__delete__" = pure none := by rw [typeLookup_type, builtinLookup_eq_fast]; kernel_rfl
theorem md_entry : entryFor table "method_descriptor.__get__" = some Builtin.«method_descriptor.__get__» := entryFor_of_tree (by kernel_rfl)
theorem md_args (a b c : Value) : argsOk "method_descriptor.__get__" ⟨[a, b, c], []⟩ := by unfold argsOk; kernel_rfl
theorem md_told : Manifest.toldItsClass.contains "set.__contains__" = false := by decide +kernel
theorem md_owner : (".".intercalate ("set.__contains__".cutAt '.').dropLast) = "set" := by
  have e0 : "set.__contains__".cutAt '.' = ["set", "__contains__"] := by first | rfl | decide +kernel
  rw [e0]; decide +kernel
theorem md_sub : isSubtype (.type "set") (.type (".".intercalate ("set.__contains__".cutAt '.').dropLast)) = pure true := by
  rw [md_owner, isSubtype_type]; kernel_rfl
abbrev boundObj (sa : Addr) : Obj := { cls := .type "builtin_function_or_method", data := .fields #[.builtin "set.__contains__", .ref sa] }
section
variable {prog : Program} {w : World} {A : Around} {E : Value → Shared → Prop} {h : Heap} {g : Array GenState} {d : Drawn} {t : Nat} {os : OsState} {a : Addr} {o : Obj}
set_option maxHeartbeats 2000000 in
theorem md_code {R : Result → Shared → Prop} (hx : h.get? a = some o) (hc : o.cls = .type "set") (hq : R (.ok (.ret (.ref h.objs.size))) ⟨h.push (boundObj a), g, d, t, os⟩) :
    codeAny (model prog w) A (.call (.builtin "method_descriptor.__get__") ⟨[.builtin "set.__contains__", .ref a, .type "set"], []⟩) R ⟨h, g, d, t, os⟩ := by
  have hT : (⟨h, g, d, t, os⟩ : Shared).TypeIs (.ref a) "set" := ⟨_, hx, hc⟩
  have hT5 : (⟨h, g, d, t, os⟩ : Shared).TypeIs (.builtin "set.__contains__") "method_descriptor" := PySem.F.type_set_contains
  have f8 := md_sub
  have f9 := md_told
  refine codeAny_call_builtin md_get.plain md_entry (md_get.check _ _ _ _ _ _ _ _ hT5 (md_args _ _ _) ?_)
  iterate 18 wp_step
  refine wpAny_isInstance hT f8 ?_
  iterate 2 wp_step
  exact wpAny_bind (wpAny_newObj_type (wpAny_pure hq))

theorem sc_entry {tk : Tok} {Q : Fin → Shared → Prop} (hx : h.get? a = some o) (hc : o.cls = .type "set") (hd : o.dict = none) {es : Array (Int × Value)} {ep : Nat} {st : SetTable} (hdt : o.data = .set es ep st) (hq : Q (.done (.ret (.ref h.objs.size))) ⟨h.push (boundObj a), g, d, t, os⟩) :
    wpAny (model prog w) A (Builtin.«object.__getattribute__» ⟨[.ref a, .str "__contains__" tk], []⟩) Q E ⟨h, g, d, t, os⟩ := by
  have hT : (⟨h, g, d, t, os⟩ : Shared).TypeIs (.ref a) "set" := ⟨_, hx, hc⟩
  have hT5 : (⟨h, g, d, t, os⟩ : Shared).TypeIs (.builtin "set.__contains__") "method_descriptor" := PySem.F.type_set_contains
  have f4 := lk_set_contains
  have f5 := PySem.F.type_set_contains
  have f6 := md_get.lookup
  have f7 := md_no_set
  have f8 := md_no_delete
  repeat (any_goals (first | assumption | wp_step))
  rw [hdt]
  repeat (any_goals (first | assumption | wp_step))
  simp only [hc, hd]
  repeat (any_goals (first | assumption | wp_step))
  refine md_code hx hc ?_
  repeat (any_goals (first | assumption | wp_step))

theorem sc_call {tk : Tok} {R : Result → Shared → Prop} (hx : h.get? a = some o) (hc : o.cls = .type "set") (hd : o.dict = none) {es : Array (Int × Value)} {ep : Nat} {st : SetTable} (hdt : o.data = .set es ep st) (hq : R (.ok (.ret (.ref h.objs.size))) ⟨h.push (boundObj a), g, d, t, os⟩) :
    codeAny (model prog w) A (.call (.builtin "set.__getattribute__") ⟨[.ref a, .str "__contains__" tk], []⟩) R ⟨h, g, d, t, os⟩ :=
  codeAny_call_builtin PySem.F.slot_set_getattribute.plain PySem.F.entry_set_ga (PySem.F.slot_set_getattribute.check _ _ _ _ _ _ _ _ (show (⟨h, g, d, t, os⟩ : Shared).TypeIs (.ref a) "set" from ⟨_, hx, hc⟩) (PySem.F.args_set_getattribute_2 _ _) (sc_entry hx hc hd hdt hq))
theorem sc_attr {ex : Bool} {Q : Value → Shared → Prop} (hx : h.get? a = some o) (hc : o.cls = .type "set") (hd : o.dict = none) {es : Array (Int × Value)} {ep : Nat} {st : SetTable} (hdt : o.data = .set es ep st) (hq : Q (.ref h.objs.size) ⟨h.push (boundObj a), g, d, t + 1, os⟩) :
    wpAny (model prog w) A (getAttr (.ref a) "__contains__" ex) Q E ⟨h, g, d, t, os⟩ := by
  have hT : (⟨h, g, d, t + 1, os⟩ : Shared).TypeIs (.ref a) "set" := ⟨_, hx, hc⟩
  have f2 := PySem.F.slot_set_getattribute.lookup
  have f3 := PySem.F.slot_set_getattribute.bind (.ref a)
  repeat (any_goals (first | assumption | wp_step))
  rw [if_neg (by simp [onTheHeap])]
  repeat (any_goals (first | assumption | wp_step))
  refine sc_call hx hc hd hdt ?_
  repeat (any_goals (first | assumption | wp_step))
end
end

/- part Bound -/
section
open PySem PySem.W PySem.Calls PyProof.Rows
open Sem (wp)
set_option linter.unusedVariables false
set_option maxRecDepth 100000
theorem sub_set_module : isSubtype (.type "set") (.type "module") = pure false := by rw [isSubtype_type]; kernel_rfl
theorem sub_set_type : isSubtype (.type "set") (.type "type") = pure false := by rw [isSubtype_type]; kernel_rfl
theorem sig_sc : Manifest.signature? "set.__contains__" = some ⟨.oneArg, "set.__contains__", "__contains__", .self, [⟨"object", .posOnly, true⟩]⟩ := by kernel_rfl
theorem kind_sc : builtinKind "set.__contains__" = some .method := by kernel_rfl
theorem varargs_sc : Manifest.varargsMethods.contains "set.__contains__" = false := by decide +kernel
theorem last_set : Bind.lastOf "set" = "set" := by decide +kernel
theorem last_sc : Bind.lastOf "set.__contains__" = "__contains__" := by decide +kernel
theorem chk_sc (a b : Value) : Bind.checkArgs "set.__contains__" ⟨.oneArg, "set.__contains__", "__contains__", .self, [⟨"object", .posOnly, true⟩]⟩ ⟨[a, b], []⟩ = pure () := by kernel_rfl
section
variable {prog : Program} {w : World} {A : Around} {E : Value → Shared → Prop} {s : Shared} {sa bm : Addr}
theorem check_sc {k : Int} {t : Tok} {Q : Unit → Shared → Prop} {hp : Heap} {g : Array GenState} {d : Drawn} {tk : Nat} {os : OsState} {o : Obj} {es : Array (Int × Value)} {ep : Nat} {st : SetTable} (ho : hp.get? sa = some o) (hc : o.cls = .type "set") (hdt : o.data = .set es ep st) (h : Q () ⟨hp, g, d, tk, os⟩) :
    wpAny (model prog w) A (checkBoundCall "set.__contains__" ⟨[.ref sa, .int k t], []⟩) Q E ⟨hp, g, d, tk, os⟩ := by
  have hT : Shared.TypeIs ⟨hp, g, d, tk, os⟩ (.ref sa) "set" := ⟨o, ho, hc⟩
  have f1 := sub_set_module
  have f2 := sub_set_type
  unfold checkBoundCall
  rw [sig_sc, kind_sc]
  dsimp only
  rw [if_neg (by decide)]
  refine wpAny_bind (wpAny_isInstance hT f1 ?_)
  rw [varargs_sc, last_sc]
  repeat (any_goals (first | assumption | wp_step))

theorem sc_tree {k : Int} {t : Tok} {S : Int → Bool} {n : Nat} {P : Fin → Shared → Prop} (hS : s.heap.SetOf (PySem.intKind prog w) sa S n) (h : P (.done (.ret (.bool (S k)))) { s with toks := s.toks + 1 }) :
    wpAny (model prog w) A (Builtin.«frozenset.__contains__» ⟨[.ref sa, .int k t], []⟩) P E s := by
  have hkey : (PySem.intKind prog w).is k (.int k t) = true := PySem.intKind_is _ _ _ _
  unfold Builtin.«frozenset.__contains__» Builtin.Frozenset.oneOther
  simp only [List.isEmpty_nil, bind_assoc]
  unfold Builtin.Frozenset.addrOf Builtin.Frozenset.withSetAsKey setContains
  refine wpAny_bind (wpAny_pure ?_)
  try dsimp only
  refine wpAny_bind (wpAny_pure ?_)
  try dsimp only
  refine wpAny_bind (wpAny_tryCatch ?_)
  refine wpAny_holding ?_
  refine wpAny_bind ((PySem.intKind prog w).pyHash hkey ?_)
  refine wpAny_bind (wpAny_setFind_of (s := { s with toks := s.toks + 1 }) hkey rfl hS fun r hr => ?_)
  refine wpAny_pure ?_
  show wpAny _ _ (ret (Value.bool r.isSome)) _ _ _
  rw [hr]
  exact wpAny_pure h
theorem bound_call {k : Int} {t : Tok} {S : Int → Bool} {n : Nat} {Q : Value → Shared → Prop} (hb : s.heap.get? bm = some (boundObj sa)) (hS : s.heap.SetOf (PySem.intKind prog w) sa S n) (h : Q (.bool (S k)) { s with toks := s.toks + 1 }) :
    wpAny (model prog w) A (call (.ref bm) [.int k t]) Q E s := by
  refine wpAny_call (codeAny_of_tree ?_)
  show wpAny _ A.in1 (callAny (.ref bm) ⟨[.int k t], []⟩) _ _ s
  simp only [callAny]
  refine wpAny_bind (wpAny_load hb ?_)
  simp only [boundObj, show (Value.type "builtin_function_or_method" == Value.type "method" || Value.type "builtin_function_or_method" == Value.type "builtin_function_or_method" || Value.type "builtin_function_or_method" == Value.type "method-wrapper") = true by decide, if_true]
  show wpAny _ A.in1 (if (Value.type "builtin_function_or_method" != Value.type "method") = true then (checkBoundCall "set.__contains__" ⟨[.ref sa, .int k t], []⟩ >>= fun _ => again (Code.builtin "set.__contains__" ⟨[.ref sa, .int k t], []⟩)) else _) _ _ _
  rw [if_pos (by decide)]
  obtain ⟨o, es, ep, st, ho, hex, hdt, r⟩ := id hS
  obtain ⟨hp, g, d, tk, os⟩ := s
  refine wpAny_bind (check_sc ho hex.1 hdt ?_)
  refine wpAny_pure ?_
  refine ⟨Code.quiet_builtin _ (by decide +kernel), codeAny_builtin entry_set_contains (sc_tree (s := ⟨hp, g, d, tk, os⟩) hS ?_)⟩
  exact h

theorem firstMet_mem {ns : List Int} {k : Int} : ((firstMet (fun i => ns.getD i 0) ns.length).any fun x => x == k) = ns.contains k := by
  rw [firstMet_any]
  have e : (List.range ns.length).map (fun i => ns.getD i 0) = ns := by
    apply List.ext_getElem (by simp)
    intro i h1 h2
    simp [List.getD_eq_getElem?_getD, h2]
  rw [e, List.contains_eq_any_beq]
  congr 1
  funext x
  rw [Bool.beq_comm]
variable {h₀ : Heap} {L l : Addr} {m : Str → Option Value} {news : List (Addr × Obj)} {vs : List Value} {ns : List Int} {n : Nat}
theorem m_set {Q : Value → Shared → Prop} (F : Fr h₀ L s.heap m) (N : News h₀ L s.heap news) (hh : A.handled = none) (hm : (l, W.listOf vs.toArray n) ∈ news) (hi : IntsAre vs ns) (hb : ns.length ≤ 200)
    (h : ∀ D h' tk o es ep st nn, (∀ q ∈ news, q.1 < D) → Fr h₀ L h' m → News h₀ L h' ((D, o) :: news) → o.cls = .type "set" → o.dict = none → o.data = .set es ep st → o.SetObjOf (PySem.intKind prog w) (fun k => ns.contains k) nn → nn < scanBound → Q (.ref D) { s with heap := h', toks := tk }) :
    wpAny (model prog w) A (call (.type "set") [.ref l]) Q E s := by
  have hl : s.heap.IsList l vs.toArray := IsL.isList (n := n) (N _ hm).1
  have hvn : vs.length = ns.length := IntsAre.length hi
  have hsz : vs.toArray.size = vs.length := List.size_toArray
  refine PySem.call_set_list (items := vs.toArray) (ns := ns) hh hl (by simpa using hi) (by rw [hsz, hvn]; unfold scanBound; omega) fun h' tk hS hk => ?_
  rw [hsz, hvn] at hS
  have e : (fun k' => (firstMet (fun i => ns.getD i 0) ns.length).any (· == k')) = fun k => ns.contains k := funext fun k => firstMet_mem
  rw [e] at hS
  obtain ⟨o, ho, hso⟩ := hS.objOf
  have hlen := firstMet_length_le (fun i => ns.getD i 0) ns.length
  obtain ⟨hex, es, ep, st, hdt, hr⟩ := id hso
  obtain ⟨oL, _, _, hL, _⟩ := F.ns
  have hLlt : L < s.heap.objs.size := Heap.lt_size hL
  refine h _ h' tk o es ep st _ (fun q hq => Heap.lt_size (N q hq).1) ⟨F.ns.at' fun o' e => hk L o' hLlt e, fun b o' e => hk b o' (Heap.lt_size (F.keep b o' e)) (F.keep b o' e), F.above⟩ (fun q hq => ?_) hex.1 hex.2.1 hdt hso (by unfold scanBound; omega)
  rcases List.mem_cons.mp hq with rfl | hq
  · refine ⟨ho, Nat.ne_of_gt hLlt, ?_⟩
    cases e : h₀.get? s.heap.objs.size with
    | none => rfl
    | some o' => exact absurd (Heap.lt_size (F.keep _ _ e)) (Nat.lt_irrefl _)
  · exact ⟨hk _ _ (Heap.lt_size (N q hq).1) (N q hq).1, (N q hq).2⟩
theorem m_bound {D : Addr} {o : Obj} {ex : Bool} {Q : Value → Shared → Prop} {es : Array (Int × Value)} {ep : Nat} {st : SetTable} (F : Fr h₀ L s.heap m) (N : News h₀ L s.heap news) (hm : (D, o) ∈ news) (hc : o.cls = .type "set") (hd : o.dict = none) (hdt : o.data = .set es ep st)
    (h : ∀ b h', Fr h₀ L h' m → News h₀ L h' ((b, boundObj D) :: news) → (∀ q ∈ news, q.1 < b) → Q (.ref b) { s with heap := h', toks := s.toks + 1 }) :
    wpAny (model prog w) A (getAttr (.ref D) "__contains__" ex) Q E s := by
  obtain ⟨hp, g, d, tk, os⟩ := s
  refine sc_attr (N _ hm).1 hc hd hdt ?_
  exact h _ _ (F.push _) (N.push F _) fun q hq => Heap.lt_size (N q hq).1
end
end

/- part Iter -/
section
open PySem PySem.W PySem.Calls PyProof.Rows
set_option linter.unusedVariables false
set_option maxRecDepth 100000
abbrev iterObj (l : Addr) (i : Nat) : Obj := { cls := .type "list_iterator", data := .fields #[.ref l, .int (i : Int) 0] }
section
variable {prog : Program} {w : World} {A : Around} {E : Value → Shared → Prop} {s : Shared} {h₀ : Heap} {L l it : Addr} {m : Str → Option Value} {news : List (Addr × Obj)} {g : Obj → List (Addr × Obj)} {items : Array Value} {n i : Nat}
theorem m_iter {Q : Value → Shared → Prop} (F : Fr h₀ L s.heap m) (N : News h₀ L s.heap news) (hm : (l, W.listOf items n) ∈ news)
    (h : ∀ I h', Fr h₀ L h' m → News h₀ L h' ((I, iterObj l 0) :: news) → (∀ q ∈ news, q.1 < I) → Q (.ref I) { s with heap := h' }) :
    wpAny (model prog w) A (call (.builtin "iter") [.ref l]) Q E s := by
  have hl : s.heap.IsList l items := IsL.isList (n := n) (N _ hm).1
  refine call_function_entry (by decide +kernel) (by decide +kernel) kdk_entry_iter (kdk_args_iter _) ?_
  unfold Builtin.«iter»
  refine wpAny_bind (m := someArgs "iter" 1 2 _) (wpAny_of_eq (a := [Value.ref l]) (by first | rfl | kernel_rfl!) ?_)
  show wpAny _ _ (pyIter (.ref l) >>= _) _ _ _
  refine wpAny_bind (wpAny_pyIter_list hl ?_)
  exact wpAny_pure ⟨_, rfl, h _ _ (F.push _) (News.push F N _ rfl) (fun q hq => Heap.lt_size (N q hq).1)⟩

theorem li_next {Q : Option Value → Shared → Prop} {x : Value} (ho : s.heap.get? it = some (iterObj l i)) (hl : s.heap.IsList l items) (hx : items[i]? = some x)
    (hQ : ∀ h', h'.get? it = some (iterObj l (i + 1)) → Heap.SameBut it s.heap h' → Q (some x) { s with heap := h' }) :
    wpAny (model prog w) A (callSpecial? (.ref it) (Str.ofString "__next__")) Q E s := by
  have hit : s.heap.IsListIter it l i := ⟨_, ho, rfl, rfl⟩
  have hd : (iterObj l i).data = .fields #[.ref l, .int (i : Int) 0] := rfl
  obtain ⟨ol, hol, _, nl, hdl⟩ := hl
  refine wpAny_callSpecial?_slot (name := Str.ofString "__next__") hit.typeIs slot_listiter_next
    (wpAny_call_entry slot_listiter_next hit.typeIs entry_listiter_next ?_ (args_listiter_next _))
  show wpAny _ _ (field (.ref it) 0 >>= _) _ _ s
  refine wpAny_bind (wpAny_field ho hd (x := .ref l) rfl ?_)
  show wpAny _ _ (if (Value.ref l == Value.none) = true then _ else _) _ _ s
  rw [if_neg (show ¬ ((Value.ref l == Value.none) = true) from Bool.false_ne_true)]
  show wpAny _ _ (field (.ref it) 1 >>= _) _ _ s
  refine wpAny_bind (wpAny_field ho hd (x := .int i 0) rfl ?_)
  show wpAny _ _ (seqItems? (.ref l) >>= _) _ _ s
  refine wpAny_bind (wpAny_seqItems hol hdl ?_)
  simp only [Int.toNat_natCast, hx]
  refine wpAny_bind (wpAny_setField ho hd (by simp) (wpAny_pure ⟨x, rfl, hQ _ ?_ (Heap.SameBut.update ..)⟩))
  rw [Heap.get?_update_self _ ho rfl]
  rfl
theorem li_stop {Q : Option Value → Shared → Prop} (hh : A.handled = none) (ho : s.heap.get? it = some (iterObj l i)) (hl : s.heap.IsList l items) (hx : items[i]? = none)
    (hE : ∀ h₁ h' e o', Heap.SameBut it s.heap h₁ → h₁.get? it = some o' → Heap.MadeExcOf h₁ h' e (.type "StopIteration") [] → E (.ref e) { s with heap := h' }) :
    wpAny (model prog w) A (callSpecial? (.ref it) (Str.ofString "__next__")) Q E s := by
  have hit : s.heap.IsListIter it l i := ⟨_, ho, rfl, rfl⟩
  have hd : (iterObj l i).data = .fields #[.ref l, .int (i : Int) 0] := rfl
  obtain ⟨ol, hol, _, nl, hdl⟩ := hl
  refine wpAny_callSpecial?_slot (name := Str.ofString "__next__") hit.typeIs slot_listiter_next
    (wpAny_call_entry slot_listiter_next hit.typeIs entry_listiter_next ?_ (args_listiter_next _))
  show wpAny _ _ (field (.ref it) 0 >>= _) _ _ s
  refine wpAny_bind (wpAny_field ho hd (x := .ref l) rfl ?_)
  show wpAny _ _ (if (Value.ref l == Value.none) = true then _ else _) _ _ s
  rw [if_neg (show ¬ ((Value.ref l == Value.none) = true) from Bool.false_ne_true)]
  show wpAny _ _ (field (.ref it) 1 >>= _) _ _ s
  refine wpAny_bind (wpAny_field ho hd (x := .int i 0) rfl ?_)
  show wpAny _ _ (seqItems? (.ref l) >>= _) _ _ s
  refine wpAny_bind (wpAny_seqItems hol hdl ?_)
  simp only [Int.toNat_natCast, hx]
  refine wpAny_bind (wpAny_rule (wpAny_bind (wpAny_setField ho hd (by simp) ?_)))
  show wpAny _ _ (newExc (.type "StopIteration") [] >>= _) _ _ _
  refine wpAny_bind ?_
  simp only [newExc, newTuple]
  refine wpAny_bind (wpAny_newObj_type ?_ (by size_fits))
  refine wpAny_bind (m := firstArgMember _ _) (wpAny_of_eq (a := Value.none) (by first | rfl | (simp only [firstArgMember]; rfl)) ?_)
  refine wpAny_newObj_type ?_ (by size_fits)
  simp only [raiseNew]
  refine wpAny_bind (wpAny_handled ?_)
  rw [show A.in1.handled = none from hh]
  refine wpAny_bind (wpAny_pure (wpAny_throw ?_))
  refine hE _ _ _ _ (Heap.SameBut.update ..) (Heap.get?_update_self (Obj.mapFields (·.setIfInBounds 0 .none)) ho rfl) ⟨fun b o e => ?_, ?_, (s.heap.update it (Obj.mapFields (·.setIfInBounds 0 .none))).objs.size, ?_, ?_, ?_⟩
  · exact Heap.get?_push_of_some _ (Heap.get?_push_of_some _ e)
  · exact Heap.get?_none_of_le (by rw [Heap.size_push]; exact Nat.le_succ _)
  · exact Heap.get?_push_size _ rfl
  · exact Heap.get?_none_of_le (Nat.le_refl _)
  · exact Heap.get?_push_of_some _ (Heap.get?_push_size _ rfl)

theorem m_next {Q : Value → Shared → Prop} {x : Value} (F : Fr h₀ L s.heap m) (N : News h₀ L s.heap news) (U : UpdF it (iterObj l i) news g) (hl : (l, W.listOf items n) ∈ news) (hx : items[i]? = some x)
    (h : ∀ h', Fr h₀ L h' m → News h₀ L h' (g (iterObj l (i + 1))) → Q x { s with heap := h' }) :
    wpAny (model prog w) A (call (.builtin "next") [.ref it]) Q E s := by
  obtain ⟨pre, post, rfl, hg, a, b⟩ := U.split
  have hm := N (it, iterObj l i) (List.mem_append_right _ (.head _))
  have hit : s.heap.IsListIter it l i := ⟨_, hm.1, rfl, rfl⟩
  refine call_function_entry (by decide +kernel) (by decide +kernel) kdk_entry_next (kdk_args_next _) ?_
  unfold Builtin.«next»
  refine wpAny_bind (m := someArgs "next" 1 2 _) (wpAny_of_eq (a := [Value.ref it]) (by first | rfl | kernel_rfl!) ?_)
  dsimp only
  refine wpAny_bind (wpAny_specialOf (name := Str.ofString "__next__") hit.typeIs slot_listiter_next.lookup ?_)
  refine wpAny_ite_split (fun hab => absurd hab (by decide)) (fun _ => ?_)
  refine wpAny_bind (li_next hm.1 (IsL.isList (n := n) (N _ hl).1) hx fun h' ho' hs => ?_)
  exact wpAny_pure ⟨_, rfl, h h' (F.change hs hm.2.1 hm.2.2) (hg _ ▸ N.setIn a b hs ho')⟩
theorem m_stop {Q : Value → Shared → Prop} (hh : A.handled = none) (F : Fr h₀ L s.heap m) (N : News h₀ L s.heap news) (U : UpdF it (iterObj l i) news g) (hl : (l, W.listOf items n) ∈ news) (hx : items[i]? = none)
    (h : ∀ h₁ h' e o', Fr h₀ L h₁ m → News h₀ L h₁ (g o') → Heap.MadeExcOf h₁ h' e (.type "StopIteration") [] → E (.ref e) { s with heap := h' }) :
    wpAny (model prog w) A (call (.builtin "next") [.ref it]) Q E s := by
  obtain ⟨pre, post, rfl, hg, a, b⟩ := U.split
  have hm := N (it, iterObj l i) (List.mem_append_right _ (.head _))
  have hit : s.heap.IsListIter it l i := ⟨_, hm.1, rfl, rfl⟩
  refine call_function_entry (by decide +kernel) (by decide +kernel) kdk_entry_next (kdk_args_next _) ?_
  unfold Builtin.«next»
  refine wpAny_bind (m := someArgs "next" 1 2 _) (wpAny_of_eq (a := [Value.ref it]) (by first | rfl | kernel_rfl!) ?_)
  dsimp only
  refine wpAny_bind (wpAny_specialOf (name := Str.ofString "__next__") hit.typeIs slot_listiter_next.lookup ?_)
  refine wpAny_ite_split (fun hab => absurd hab (by decide)) (fun _ => ?_)
  refine wpAny_bind (li_stop hh hm.1 (IsL.isList (n := n) (N _ hl).1) hx fun h₁ h' e o' hs ho' hx => ?_)
  exact h h₁ h' e o' (F.change hs hm.2.1 hm.2.2) (hg o' ▸ N.setIn a b hs ho') hx
end
end

/- part Diff -/
section
open PySem PySem.W PySem.Calls PyProof.Rows
set_option linter.unusedVariables false
abbrev ffObj (dx b I : Addr) : Obj := { cls := .ref 47, dict := some dx, data := .plain, slots := #[some (.ref b), some (.ref I)] }
local macro_rules | `(tactic| walk_at "m_enter") => `(tactic| (refine' code_def ?k1 ?k2 ?k3 ?k4 ?k5 ?kA $(Lean.mkIdent `hf) $(Lean.mkIdent `hk) ?k6 ?k7 ?k8 ?k9 ?kB ?_ ?c2 ?c3 ?c4 ?c5; (case kA => exact rfl); (case k1 => k_asm); (case k2 => k_asm); (case k3 => k_asm); (case k4 => k_asm); (case k5 => k_asm); (case k6 => k_is); (case k7 => k_is); (case k8 => k_room); (case k9 => first | exact BindsTo.of_eq rfl | exact binds_K (by k_in) rfl (by k_is) rfl rfl rfl | fail "k_enter: no rule for these arguments"); (case c5 => decide); (case kB => exact locs rfl); (case c2 => exact rfl); (case c3 => exact rfl); (case c4 => exact rfl); k_whole; intro g' L' h' FG' F' N' B' X' T'; (try dsimp only); (try k_lift B'); (try k_fold)))

local macro_rules | `(tactic| k_ne) => `(tactic| (refine neN ?_; (try dsimp only); first | with_reducible assumption | with_reducible exact Ne.symm (by with_reducible assumption)))
local macro_rules | `(tactic| k_all) => `(tactic| (k_whole; assumption))
local macro_rules | `(tactic| k_all) => `(tactic| (k_whole; exact allLt_ne (by assumption) (by omega)))
local macro_rules | `(tactic| walk_at "call type:set") => `(tactic| (k_here; k_dflt (refine' m_set ?F ?N ?hh ?m ?i ?b ?_; (case F => k_asm); (case N => k_asm); (case hh => exact rfl); (case m => k_mem); (case i => assumption); (case b => omega)); intro D' h' tk' o' es' ep' st' nn' l1 F' N' hc' hd' hdt' hS' hb'; (have hDl := l1); k_lt l1; (have hAL := l1.2.2)))
local macro_rules | `(tactic| walk_at "getAttr ref") => `(tactic| (k_here; (with_reducible show wpAny _ _ (getAttr (Value.ref _) (PySem.Str.ofString "__contains__") _) _ _ _); k_dflt (refine' m_bound ?F ?N ?m ?c ?d ?t ?_; (case F => k_asm); (case N => k_asm); (case m => k_mem); (case c => assumption); (case d => assumption); (case t => assumption)); intro b' h' F' N' l1; (try k_lt l1)))
local macro_rules | `(tactic| walk_at "call builtin:iter") => `(tactic| (k_here; (with_reducible show wpAny _ _ (call (Value.builtin "iter") [Value.ref _]) _ _ _); k_dflt (refine' m_iter ?F ?N ?m ?_; (case F => k_asm); (case N => k_asm); (case m => k_mem)); intro I' h' F' N' l1; (try k_lt l1)))
set_option maxRecDepth 100000 in
set_option maxHeartbeats 8000000 in
theorem diff_call {w : World} {p : Program} {loose : List Str} {mean : ExcName → Option Value} {mg mb : Str → Option Value} {e1 e2 : Env} {base h₀ : Heap} {L : Addr} {m : Str → Option Value} {news : List (Addr × Obj)} {s : Shared} {Q : Value → Shared → Prop} {E : Value → Shared → Prop}
    {mA sA : Addr} {vm vs : List Value} {nm ns : Nat} {Ms Ss : List Int}
    (B : Below (callerA.deeper e1) base [e1] h₀) (F : Fr h₀ L s.heap m) (X : (Mine.hd.heap_39 w.params).In h₀)
    (N : News h₀ L s.heap ((mA, W.listOf vm.toArray nm) :: (sA, W.listOf vs.toArray ns) :: news)) (T : Top p loose mean mg mb h₀) (hf : e2.frame = some L) (hk : e2.scope.kind = .function)
    (im : IntsAre vm Ms) (is : IntsAre vs Ss) (h2 : Ss.length ≤ 200)
    (h : ∀ (x dx I b D : Addr) (so : Obj) (nn : Nat) (h' : Heap) (tk : Nat), so.SetObjOf (PySem.intKind Challenge.rw_ij0004_01.row.prog w) (fun k => Ss.contains k) nn → nn < scanBound → @LT.lt Nat _ D b → @LT.lt Nat _ b dx → @LT.lt Nat _ dx x → @LT.lt Nat _ x I → (∀ q ∈ (mA, W.listOf vm.toArray nm) :: (sA, W.listOf vs.toArray ns) :: news, q.1 < D) →
      Fr h₀ L h' m → News h₀ L h' ((I, iterObj mA 0) :: (x, ffObj dx b I) :: (dx, dictOf [] 0) :: (b, boundObj D) :: (D, so) :: (mA, W.listOf vm.toArray nm) :: (sA, W.listOf vs.toArray ns) :: news) → Q (.ref x) { s with heap := h', toks := tk }) :
    wpAny (model Challenge.rw_ij0004_01.row.prog w) ((callerA.deeper e1).deeper e2) (call (.ref 58) [.ref mA, .ref sA] []) Q E s := by
  k_with_none
  revert X; k_fill; intro X
  w_top off
  w_strict (
  refine wpAny_call ?_
  walk_at "m_enter"
  repeat (first | (k_unfold; (try dsimp only)) | walk1 | (dsimp only; walk1))
  (rename News h₀ L _ _ => kN)
  refine' h _ _ _ _ _ _ _ _ _ ?a1 ?a2 ?a3 ?a4 ?a5 ?a6 ?a7 ?a8 ?a9
  case a9 => exact kN
  case a1 => assumption
  case a2 => assumption
  case a7 => assumption
  case a8 => assumption
  all_goals omega)
end

/- part Next -/
section
open PySem PySem.W PySem.Calls PyProof.Rows
set_option linter.unusedVariables false
local macro_rules | `(tactic| walk_at "m_enter") => `(tactic| (refine' code_def ?k1 ?k2 ?k3 ?k4 ?k5 ?kA $(Lean.mkIdent `hf) $(Lean.mkIdent `hk) ?k6 ?k7 ?k8 ?k9 ?kB ?_ ?c2 ?c3 ?c4 ?c5; (case kA => exact rfl); (case k1 => k_asm); (case k2 => k_asm); (case k3 => k_asm); (case k4 => k_asm); (case k5 => k_asm); (case k6 => k_is); (case k7 => k_is); (case k8 => k_room); (case k9 => first | exact BindsTo.of_eq rfl | exact binds_K (by k_in) rfl (by k_is) rfl rfl rfl | fail "k_enter: no rule for these arguments"); (case c5 => decide); (case kB => exact locs rfl); (case c2 => exact rfl); (case c3 => exact rfl); (case c4 => exact rfl); k_whole; intro g' L' h' FG' F' N' B' X' T'; (try dsimp only); (try k_lift B')))
local macro_rules | `(tactic| k_ne) => `(tactic| (refine neN ?_; (try dsimp only); first | with_reducible assumption | with_reducible exact Ne.symm (by with_reducible assumption)))
local macro_rules | `(tactic| k_all) => `(tactic| (k_whole; assumption))
local macro_rules | `(tactic| k_all) => `(tactic| (k_whole; exact allLt_ne (by assumption) (by omega)))
/-- the ledger of a filterfalse at place i -/
abbrev ffLed (x dx I b D l : Addr) (so : Obj) (items : Array Value) (n i : Nat) (news : List (Addr × Obj)) : List (Addr × Obj) :=
  (I, iterObj l i) :: (x, ffObj dx b I) :: (dx, dictOf [] 0) :: (b, boundObj D) :: (D, so) :: (l, W.listOf items n) :: news

section
variable {prog : Program} {w : World} {A : Around} {E : Value → Shared → Prop} {s : Shared} {h₀ g : Heap} {L D b : Addr} {m : Str → Option Value} {news : List (Addr × Obj)}
theorem m_bcall {so : Obj} {S : Int → Bool} {nn : Nat} {k : Int} {t : Tok} {Q : Value → Shared → Prop} (N : News h₀ L s.heap news) (hm : (b, boundObj D) ∈ news) (hm2 : (D, so) ∈ news) (hS : so.SetObjOf (PySem.intKind prog w) S nn) (hnn : nn < scanBound)
    (h : Q (.bool (S k)) { s with toks := s.toks + 1 }) : wpAny (model prog w) A (call (.ref b) [.int k t]) Q E s :=
  bound_call (N _ hm).1 (hS.setOf (N _ hm2).1 hnn) h
theorem fr_item {x : Str} {v u : Option Value} {M : Str → Option Value} {h : Heap} (F : Fr g L h (fun y => if y = x then v else if y = x then u else M y)) : Fr g L h (fun y => if y = x then v else M y) := by
  have e : (fun y => if y = x then v else if y = x then u else M y) = fun y => if y = x then v else M y := by
    funext y
    by_cases e : y = x
    · rw [if_pos e, if_pos e]
    · rw [if_neg e, if_neg e, if_neg e]
  rwa [e] at F
def StandB (u D : Addr) (h : Heap) : Prop := h.get? u = some (boundObj D)
theorem standB_of (N : News h₀ L g news) (hm : (b, boundObj D) ∈ news) : StandB b D g := N.get hm
theorem callWith_flds {M : Model} {pos : Pos} {first : List Value} {args : List (Bool × Sem Value)} {Q : Value → Shared → Prop} (hplain : args.any (·.1) = false)
    (h : wpAny M A (evalArgs (.ref b) true args []) (fun x s₁ => StandB b D s₁.heap ∧ wpAny M A (call (.ref b) (first ++ x.pos) x.kw) Q E s₁) E s) : wpAny M A (callWith pos (.ref b) first args []) Q E s := by
  unfold callWith
  refine wpAny_bind (wpAny_holding (wpAny_mono h (fun x s₁ h₁ => wpAny_bind (wpAny_standAt ?_)) fun _ _ x => x))
  obtain ⟨ho, hcall⟩ := h₁
  simp only [hplain, List.any_nil, Bool.or_false]
  refine wpAny_bind (m := keeperOf (.ref b)) ?_
  unfold keeperOf
  refine wpAny_bind (wpAny_load ho ?_)
  simp only [show (Value.type "builtin_function_or_method" != Value.type "method") = true by decide, show (Value.type "builtin_function_or_method" == Value.type "builtin_function_or_method" || Value.type "builtin_function_or_method" == Value.type "method-wrapper") = true by decide, if_true]
  refine wpAny_pure ?_
  exact wpAny_bind (wpAny_mono hcall (fun r s₂ hr => wpAny_bind (wpAny_holding (wpAny_point (wpAny_pure hr)))) fun _ _ x => x)
theorem callWith_bnd {M : Model} {pos : Pos} {first : List Value} {env : Env} {e : PySem.Expr} {rest : List PySem.Expr} {Q : Value → Shared → Prop} (_N : News h₀ L s.heap news) (_hm : (b, boundObj D) ∈ news)
    (h : wpAny M A (spliced (backTo pos (starEach (e :: rest) env))) (fun vs s₁ => StandB b D s₁.heap ∧ wpAny M A (call (.ref b) (first ++ vs)) Q E s₁) E s)
    (he : starEach (e :: rest) env = (false, eval e env) :: starEach rest env) (hplain : (backTo pos (starEach rest env)).any (·.1) = false) :
    wpAny M A (callWith pos (.ref b) first (backTo pos (starEach (e :: rest) env)) []) Q E s := by
  rw [he] at h ⊢
  refine callWith_flds (D := D) (by show (false || (backTo pos (starEach rest env)).any (·.1)) = false; rw [hplain]; rfl) ?_
  exact evalArgs_plain h
def FFPost (g : Heap) (L : Addr) (s : Shared) (M : Str → Option Value) (led : Nat → List (Addr × Obj)) (ok : Nat → Prop) (Q : Flow → Shared → Prop) (j : Nat) (f : Flow) (s₃ : Shared) : Prop :=
  match f with
  | .next | .cont => ∃ h' tk u, s₃ = { s with heap := h', toks := tk } ∧ Fr g L h' (fun z => if z = (Str.ofString "item") then u else M z) ∧ News g L h' (led (j + 1)) ∧ ok j
  | .brk => Q .next s₃
  | .ret v => Q (.ret v) s₃
theorem ff_while {env : Env} {test : PySem.Expr} {body : List Stmt} {pos : Pos} {M : Str → Option Value} {Q : Flow → Shared → Prop} {i len : Nat} (led : Nat → List (Addr × Obj)) (ok : Nat → Prop) (hok : ∀ j, ok j → j < len)
    (F : Fr g L s.heap M) (N : News g L s.heap (led i)) (hi : i ≤ len)
    (turn : ∀ j u h₁ tk₁, i ≤ j → j ≤ len → (∀ q, i ≤ q → q < j → ok q) → Fr g L h₁ (fun z => if z = (Str.ofString "item") then u else M z) → News g L h₁ (led j) →
      wpAny (model prog w) A (isTrue test env (eval test env)) (fun bb s₂ => if bb = true then wpAny (model prog w) A (execs body env) (FFPost g L s M led ok Q j) E s₂ else Q .next s₂) E { s with heap := h₁, toks := tk₁ })
    (hE : PassesOwn (model prog w) A env E) : wpAny (model prog w) A (exec (.While test body [] pos) env) Q E s := by
  refine While_inv2 (fun k m₁ nx => ∃ j u, m₁ = (fun z => if z = (Str.ofString "item") then u else M z) ∧ nx = led j ∧ i ≤ j ∧ j ≤ len ∧ (∀ q, i ≤ q → q < j → ok q) ∧ k = len - j) F N
    ⟨i, M (Str.ofString "item"), ?_, rfl, Nat.le_refl _, hi, fun q h1 h2 => absurd h1 (by omega), rfl⟩ ?_ hE
  · funext z
    by_cases e : z = (Str.ofString "item")
    · rw [if_pos e, e]
    · rw [if_neg e]
  · rintro k m₁ nx h₁ tk₁ F₁ N₁ ⟨j, u, rfl, rfl, h1, h2, h3, rfl⟩
    refine wpAny_mono (turn j u h₁ tk₁ h1 h2 h3 F₁ N₁) (fun bb s₂ hb => ?_) fun _ _ z => z
    cases bb with
    | false => simpa using hb
    | true =>
      simp only [if_true] at hb ⊢
      refine wpAny_mono hb (fun f s₃ hf => ?_) fun _ _ z => z
      cases f with
      | ret v => exact hf
      | brk => exact hf
      | next =>
        obtain ⟨h', tk, u', rfl, F', N', hk⟩ := hf
        have hlt := hok j hk
        refine ⟨h', tk, _, _, len - (j + 1), rfl, F', N', by omega, j + 1, u', rfl, rfl, by omega, by omega, fun q a b => ?_, rfl⟩
        by_cases e : q = j
        · rw [e]; exact hk
        · exact h3 q a (by omega)
      | cont =>
        obtain ⟨h', tk, u', rfl, F', N', hk⟩ := hf
        have hlt := hok j hk
        refine ⟨h', tk, _, _, len - (j + 1), rfl, F', N', by omega, j + 1, u', rfl, rfl, by omega, by omega, fun q a b => ?_, rfl⟩
        by_cases e : q = j
        · rw [e]; exact hk
        · exact h3 q a (by omega)
end
local macro_rules | `(tactic| walk_at "leaving ref") => `(tactic| (k_here; (refine' leave_raiseS ?k1 ?k0 ?k2 ?k3 ?_; (case k0 => assumption); (case k1 => assumption); (case k2 => assumption); (case k3 => k_asm); k_whole; intro h' t' R' RK' U'; (try dsimp only at R' RK' U' ⊢))))
local macro_rules | `(tactic| walk_at "callWith ref") => `(tactic| (k_here; (with_reducible show wpAny _ _ (callWith _ (Value.ref _) _ (backTo _ (starEach (_ :: _) _)) []) _ _ _); k_dflt (refine' callWith_bnd ?N ?m ?_ ?a ?b; (case N => k_asm); (case m => k_mem); (case a => rfl); (case b => rfl))))
local macro_rules | `(tactic| walk_at "And") => `(tactic| ((with_reducible show StandB _ _ _ ∧ _); k_dflt (refine ⟨standB_of (by k_asm) (by k_mem), ?_⟩); (try dsimp only [List.nil_append, List.cons_append])))
local macro_rules | `(tactic| walk_at "call builtin:next") => `(tactic| (k_here; (with_reducible show wpAny _ _ (call (Value.builtin "next") [Value.ref _]) _ _ _); k_dflt (refine' m_next ?F ?N ?U ?m ?x ?_; (case F => k_asm); (case N => k_asm); (case U => k_updF); (case m => k_mem); (case x => assumption)); intro h' F' N'; (try dsimp only at N')))
local macro_rules | `(tactic| walk_at "call builtin:next") => `(tactic| (k_here; (with_reducible show wpAny _ _ (call (Value.builtin "next") [Value.ref _]) _ _ _); k_dflt (refine' m_stop ?hh ?F ?N ?U ?m ?x ?_; (case hh => exact rfl); (case F => k_asm); (case N => k_asm); (case U => k_updF); (case m => k_mem); (case x => assumption)); intro hs1 h' e' o' F' N' hx'; (try dsimp only at N')))
local macro_rules | `(tactic| walk_at "call ref") => `(tactic| (k_here; (with_reducible show wpAny _ _ (call (Value.ref _) [Value.int _ _]) _ _ _); k_dflt (refine' m_bcall ?N ?m ?m2 ?S ?n ?_; (case N => k_asm); (case m => k_mem); (case m2 => k_mem); (case S => assumption); (case n => assumption))))
set_option maxRecDepth 100000 in
set_option maxHeartbeats 8000000 in
theorem next_call {w : World} {p : Program} {loose : List Str} {mean : ExcName → Option Value} {mg mb : Str → Option Value} {e1 e2 : Env} {base g : Heap} {L : Addr} {m : Str → Option Value} {news : List (Addr × Obj)} {s : Shared} {Q : Value → Shared → Prop} {E : Value → Shared → Prop}
    {x dx I b D l : Addr} {so : Obj} {vm : List Value} {n i nn : Nat} {Ms : List Int} {S : Int → Bool}
    (B : Below (callerA.deeper e1) base [e1] g) (F : Fr g L s.heap m) (X : (Mine.hd.heap_39 w.params).In g) (T : Top p loose mean mg mb g)
    (N : News g L s.heap (ffLed x dx I b D l so vm.toArray n i news)) (hf : e2.frame = some L) (hk : e2.scope.kind = .function)
    (im : IntsAre vm Ms) (hS : so.SetObjOf (PySem.intKind Challenge.rw_ij0004_01.row.prog w) S nn) (hnn : nn < scanBound)
    (o1 : @LT.lt Nat _ D b) (o2 : @LT.lt Nat _ b dx) (o3 : @LT.lt Nat _ dx x) (o4 : @LT.lt Nat _ x I) (o5 : @LT.lt Nat _ l D) (o6 : ∀ q ∈ news, q.1 ≠ I) (hi : i ≤ Ms.length)
    (hret : ∀ j t h' tk, i ≤ j → j < Ms.length → (∀ q, i ≤ q → q < j → S (Ms.getD q 0) = true) → S (Ms.getD j 0) = false → Fr g L h' m → News g L h' (ffLed x dx I b D l so vm.toArray n (j + 1) news) → Q (.int (Ms.getD j 0) t) { s with heap := h', toks := tk })
    (hstop : ∀ G e t o' h' tk, (∀ q, i ≤ q → q < Ms.length → S (Ms.getD q 0) = true) → Fr g L G m → RaisedS base G (e2 :: [e1]) e (.type "StopIteration") t [] ((I, o') :: (x, ffObj dx b I) :: (dx, dictOf [] 0) :: (b, boundObj D) :: (D, so) :: (l, W.listOf vm.toArray n) :: news) h' → G.UpToSlots h' → E (.ref e) { s with heap := h', toks := tk }) :
    wpAny (model Challenge.rw_ij0004_01.row.prog w) (((callerA.deeper e1).deeper e2).in1).in1 (call (.ref 43) [.ref x] []) Q E s := by
  k_with_none
  revert X; k_fill; intro X
  w_top off
  w_strict (
  refine wpAny_call ?_
  walk_at "m_enter"
  iterate 8 (first | (k_unfold; (try dsimp only)) | walk1 | (dsimp only; walk1))
  (rename Fr _ _ _ _ => F1)
  (rename News _ _ _ _ => N1)
  refine' ff_while (len := Ms.length) (fun j => ffLed x dx I b D l so vm.toArray n j news) (fun j => j < Ms.length ∧ S (Ms.getD j 0) = true) (fun j hj => hj.1) F1 N1 hi ?turn ?hE
  case hE => passes_own
  intro j u h1 tk1 hij hjl hall F2 N2
  by_cases hj : j < Ms.length
  · obtain ⟨tv, hv⟩ := im.get j (Ms.getD j 0) (by simp [List.getD_eq_getElem?_getD, hj])
    have hv' : vm.toArray[j]? = some (.int (Ms.getD j 0) tv) := by simpa using hv
    clear hv
    repeat' (first | (k_unfold; (try dsimp only)) | (k_end; wrow_close) | walk1 | (dsimp only; walk1) | (leave1; walk_say "STEP leave1"; try dsimp only))
    · (rename S _ = true => hS1)
      exact ⟨_, _, _, rfl, fr_item (by assumption), by assumption, hj, hS1⟩
    · dsimp only [FFPost]
      repeat' (first | (k_unfold; (try dsimp only)) | (k_end; wrow_close) | walk1 | (dsimp only; walk1) | (leave1; walk_say "STEP leave1"; try dsimp only))
      (rename News g _ _ _ => kN)
      exact hret j _ _ _ hij hj (fun q a b => (hall q a b).2) (by assumption) (by assumption) kN
  · have hv' : vm.toArray[j]? = none := by
      have := im.length
      simp; omega
    repeat (first | (k_unfold; (try dsimp only)) | walk1 | (dsimp only; walk1))
    exact hstop _ _ _ _ _ _ (fun q a b => (hall q a (by omega)).2) (by assumption) (by assumption) (by assumption))
end

/- part ListFF -/
section
open PySem PySem.W PySem.Calls PyProof.Rows
set_option linter.unusedVariables false
local macro_rules | `(tactic| walk_at "m_enter") => `(tactic| (refine' code_def ?k1 ?k2 ?k3 ?k4 ?k5 ?kA $(Lean.mkIdent `hf) $(Lean.mkIdent `hk) ?k6 ?k7 ?k8 ?k9 ?kB ?_ ?c2 ?c3 ?c4 ?c5; (case kA => exact rfl); (case k1 => k_asm); (case k2 => k_asm); (case k3 => k_asm); (case k4 => k_asm); (case k5 => k_asm); (case k6 => k_is); (case k7 => k_is); (case k8 => k_room); (case k9 => first | exact BindsTo.of_eq rfl | exact binds_K (by k_in) rfl (by k_is) rfl rfl rfl | fail "k_enter: no rule for these arguments"); (case c5 => decide); (case kB => exact locs rfl); (case c2 => exact rfl); (case c3 => exact rfl); (case c4 => exact rfl); k_whole; intro g' L' h' FG' F' N' B' X' T'; (try dsimp only); (try k_lift B')))
set_option maxRecDepth 100000 in
set_option maxHeartbeats 8000000 in
/-- filterfalse.__iter__ gives itself -/
theorem iter_call {w : World} {p : Program} {loose : List Str} {mean : ExcName → Option Value} {mg mb : Str → Option Value} {e1 e2 : Env} {base g : Heap} {L : Addr} {m : Str → Option Value} {news : List (Addr × Obj)} {s : Shared} {Q : Value → Shared → Prop} {E : Value → Shared → Prop} {x : Addr}
    (B : Below (callerA.deeper e1) base [e1] g) (F : Fr g L s.heap m) (X : (Mine.hd.heap_39 w.params).In g) (T : Top p loose mean mg mb g) (N : News g L s.heap news) (hf : e2.frame = some L) (hk : e2.scope.kind = .function)
    (h : ∀ h' tk, Fr g L h' m → News g L h' news → Q (.ref x) { s with heap := h', toks := tk }) :
    wpAny (model Challenge.rw_ij0004_01.row.prog w) (((callerA.deeper e1).deeper e2).in1).in1 (call (.ref 36) [.ref x] []) Q E s := by
  k_with_none
  revert X; k_fill; intro X
  w_top off
  w_strict (
  refine wpAny_call ?_
  walk_at "m_enter"
  repeat' (first | (k_unfold; (try dsimp only)) | (k_end; wrow_close) | walk1 | (dsimp only; walk1) | (leave1; walk_say "STEP leave1"; try dsimp only))
  (rename News g _ _ _ => kN)
  exact h _ _ (by assumption) kN)
section
variable {w : World} {p : Program} {loose : List Str} {mean : ExcName → Option Value} {mg mb : Str → Option Value} {e1 e2 : Env} {base : Heap} {L : Addr} {m : Str → Option Value}
/-- what stands after a call that may have turned the outer frames -/
structure Turned (w : World) (p : Program) (loose : List Str) (mean : ExcName → Option Value) (mg mb : Str → Option Value) (base : Heap) (e1 : Env) (L : Addr) (m : Str → Option Value) (g g' h : Heap) : Prop where
  turn : KtsTurn ([e1].filterMap (·.frame)) g g'
  fr : Fr g' L h m
  below : Below (callerA.deeper e1) base [e1] g'
  k : (Mine.hd.heap_39 w.params).In g'
  top : Top p loose mean mg mb g'

theorem stop_type : isSubtype (.type "StopIteration") (.type "StopIteration") = pure true := owsi_facts.sub
/-- a StopIteration that has left __next__ ends the walk, on a turned ground -/
theorem ff_stopped {s : Shared} {A : Around} {Q : Option Value → Shared → Prop} {E : Value → Shared → Prop} {g G : Heap} {e t : Addr} {nws : List (Addr × Obj)}
    (hA : A = (((callerA.deeper e1).deeper e2).in1).in1) (B : Below (callerA.deeper e1) base [e1] g) (X₀ : (Mine.hd.heap_39 w.params).In base) (T₀ : Top p loose mean mg mb base) (hf : e2.frame = some L)
    (F : Fr g L G m) (R : RaisedS base G (e2 :: [e1]) e (.type "StopIteration") t [] nws s.heap) (U : G.UpToSlots s.heap)
    (h : ∀ g', Turned w p loose mean mg mb base e1 L m g g' s.heap → News g' L s.heap nws → Q none s) :
    OwitStop (model Challenge.rw_ij0004_01.row.prog w) A Q E (.ref e) s := by
  obtain ⟨⟨Bh, hB, hBG, hl, hfl, hnew⟩, htup⟩ := R
  have hL : Bh.get? L = none := by
    obtain ⟨_, ⟨L', _, hf', hn', _⟩, _⟩ := hfl.2.2.1
    rw [hf] at hf'
    obtain rfl : L = L' := Option.some.inj hf'
    exact hn'
  obtain ⟨ob, hob, hobc⟩ := (flyingW_base hB hfl).there
  have hT : s.TypeIs (.ref e) "StopIteration" := (show ∃ o, s.heap.get? e = some o ∧ o.cls = .type "StopIteration" from ⟨ob, hob, hobc⟩)
  obtain ⟨g', Tn, F', B'⟩ := kts_ground (name := Str.ofString "x") (scope := { kind := .function, names := [], isGenerator := false, isCoroutine := false }) (a := 0) (cd := .none) B F
    (fun b o hb hn => hBG b o hb (by
      have e : (e2 :: [e1]).filterMap (·.frame) = (envOf (Str.ofString "x") { kind := .function, names := [], isGenerator := false, isCoroutine := false } L 0 .none :: [e1]).filterMap (·.frame) := by
        simp only [List.filterMap_cons, hf]; rfl
      rw [e]; exact hn)) hfl.1 U
  have st := B'.stays
  unfold OwitStop
  refine wpAny_isInstance hT stop_type ?_
  show (if true = true then Q none s else E (.ref e) s)
  rw [if_pos rfl]
  refine h g' ⟨Tn, F', B', X₀.keeps st, T₀.keeps st⟩ fun q hq => ⟨hfl.1 _ _ (hl q hq).1, (fun z => by have := (hl q hq).1; rw [z, hL] at this; cases this), Tn.none_ _ (kts_none F.keep (hl q hq).2.1)⟩

theorem turned_trans {g g1 g2 h h1 : Heap} (x : KtsTurn ([e1].filterMap (·.frame)) g g1) (y : Turned w p loose mean mg mb base e1 L m g1 g2 h) : Turned w p loose mean mg mb base e1 L m g g2 h :=
  ⟨x.trans y.turn, y.fr, y.below, y.k, y.top⟩
/-- what is left of the list from place i on -/
def keepF (S : Int → Bool) (Ms : List Int) : List Int := Ms.filter fun k => !S k
theorem keepF_step {S : Int → Bool} {Ms : List Int} {i j : Nat} (hij : i ≤ j) (hj : j < Ms.length) (hall : ∀ q, i ≤ q → q < j → S (Ms.getD q 0) = true) (hS : S (Ms.getD j 0) = false) :
    keepF S (Ms.drop i) = Ms.getD j 0 :: keepF S (Ms.drop (j + 1)) := by
  induction hd : j - i generalizing i with
  | zero =>
    have e : i = j := by omega
    subst e
    have e2 : Ms.drop i = Ms.getD i 0 :: Ms.drop (i + 1) := by
      rw [List.drop_eq_getElem_cons hj]; simp [List.getD_eq_getElem?_getD, hj]
    rw [e2, keepF, List.filter_cons_of_pos (by simp only [hS]; rfl)]; rfl
  | succ k ih =>
    have hi : i < Ms.length := by omega
    have e2 : Ms.drop i = Ms.getD i 0 :: Ms.drop (i + 1) := by
      rw [List.drop_eq_getElem_cons hi]; simp [List.getD_eq_getElem?_getD, hi]
    have hi1 := hall i (Nat.le_refl _) (by omega)
    rw [e2, keepF, List.filter_cons_of_neg (by simp only [hi1]; decide)]
    exact ih (by omega) (fun q a b => hall q (by omega) b) (by omega)
theorem keepF_end {S : Int → Bool} {Ms : List Int} {i : Nat} (hall : ∀ q, i ≤ q → q < Ms.length → S (Ms.getD q 0) = true) : keepF S (Ms.drop i) = [] := by
  unfold keepF
  rw [List.filter_eq_nil_iff]
  intro a ha
  obtain ⟨n, hn, rfl⟩ := List.mem_iff_getElem.mp ha
  rw [List.length_drop] at hn
  have := hall (i + n) (by omega) (by omega)
  rw [List.getElem_drop]
  simp [List.getD_eq_getElem?_getD, show i + n < Ms.length by omega] at this
  simp [this]

theorem ff_loop {A : Around} {R : Result → Shared → Prop} {x dx I b D l S : Addr} {so : Obj} {vm : List Value} {n nn : Nat} {Ms : List Int} {Sx : Int → Bool} {news : List (Addr × Obj)}
    (hA : A = ((callerA.deeper e1).deeper e2).in1) (X₀ : (Mine.hd.heap_39 w.params).In base) (T₀ : Top p loose mean mg mb base) (hf : e2.frame = some L) (hk : e2.scope.kind = .function)
    (hnx : findIn (Mine.hd.heap_39 w.params) (.ref 47) "__next__" = some (some (.ref 43))) (hfn : isFn (Mine.hd.heap_39 w.params) (.ref 43) = true)
    (im : IntsAre vm Ms) (hlen : Ms.length ≤ 1000) (hS : so.SetObjOf (PySem.intKind Challenge.rw_ij0004_01.row.prog w) Sx nn) (hnn : nn < scanBound)
    (o1 : @LT.lt Nat _ D b) (o2 : @LT.lt Nat _ b dx) (o3 : @LT.lt Nat _ dx x) (o4 : @LT.lt Nat _ x I) (o5 : @LT.lt Nat _ l D) (o6 : ∀ q ∈ news, q.1 ≠ I) (oS : S ≠ I) (oN : ∀ q ∈ (I, ffObj dx b I) :: (x, ffObj dx b I) :: (dx, dictOf [] 0) :: (b, boundObj D) :: (D, so) :: (l, W.listOf vm.toArray n) :: news, q.1 ≠ S) :
    ∀ (k i : Nat) (s : Shared) (g : Heap) (acc : List Value) (c : Nat) (done : List Int), Ms.length - i = k → i ≤ Ms.length → Below (callerA.deeper e1) base [e1] g → Fr g L s.heap m → (Mine.hd.heap_39 w.params).In g → Top p loose mean mg mb g →
      News g L s.heap (ffLed x dx I b D l so vm.toArray n i ((S, W.listOf acc.toArray c) :: news)) → IntsAre acc done → done.length ≤ i →
      (∀ s' g' acc' c', (∃ h tk, s' = { s with heap := h, toks := tk }) → Turned w p loose mean mg mb base e1 L m g g' s'.heap → News g' L s'.heap ((S, W.listOf acc'.toArray c') :: news) → IntsAre acc' (done ++ keepF Sx (Ms.drop i)) → R (.ok (.ret .none)) s') →
      codeAny (model Challenge.rw_ij0004_01.row.prog w) A (.builtin "list.extend.loop" ⟨[.ref S, .ref x, .none], []⟩) R s := by
  subst hA
  intro k
  induction k using Nat.strongRecOn with
  | _ k ih =>
  intro i s g acc c done hki hi B F X T N hacc hdn hR
  refine codeAny_builtin PySem.F.entry_extend_loop ?_
  rw [Around.under_plainId PySem.F.plain_extend_loop _]
  show wpAny _ (((callerA.deeper e1).deeper e2).in1).in1 (pyNext (.ref x) >>= _) _ _ s
  refine wpAny_bind ?_
  have hI : InstAt s.heap x (ffObj dx b I) 47 (some (dictOf [] 0)) := InstAt.of_news N (by k_mem) (by k_mem)
  refine owit_next F X hI hnx hfn ?_
  refine next_call B F X T N hf hk im hS hnn o1 o2 o3 o4 o5 (fun q hq => ?_) hi (fun j t h' tk hij hj hall hSj F' N' => ?_) (fun G e t o' h' tk hall F' R' U' => ?_)
  · rcases List.mem_cons.mp hq with rfl | hq
    · exact oS
    · exact o6 q hq
  · have al : acc.length = done.length := hacc.length
    have hS' := (N' (S, W.listOf acc.toArray c) (by k_mem)).1
    show wpAny _ _ (updateSeq S (·.push _) >>= _) _ _ _
    refine wpAny_bind ?_
    have oN' : ∀ q ∈ (I, iterObj l (j + 1)) :: (x, ffObj dx b I) :: (dx, dictOf [] 0) :: (b, boundObj D) :: (D, so) :: (l, W.listOf vm.toArray n) :: ([] : List (Addr × Obj)), q.1 ≠ S := fun q hq => by
      simp only [List.forall_mem_cons] at oN
      obtain ⟨a1, a2, a3, a4, a5, a6, a7⟩ := oN
      simp only [List.mem_cons, List.not_mem_nil, or_false] at hq
      rcases hq with rfl | rfl | rfl | rfl | rfl | rfl
      · exact a1
      · exact a2
      · exact a3
      · exact a4
      · exact a5
      · exact a6
    have oN2 : ∀ q ∈ news, q.1 ≠ S := fun q hq => oN q (by repeat (first | exact hq | refine List.mem_cons_of_mem _ ?_))
    have hmS := N' (S, W.listOf acc.toArray c) (by k_mem)
    refine wpAny_updateSeq hS' rfl (wpAny_pure ⟨plainId_quiet PySem.F.plain_extend_loop _, ?_⟩) (by show acc.toArray.size ≤ sizeLine; rw [List.size_toArray, sizeLine_eq]; omega) (by show (acc.toArray.push _).size ≤ sizeLine + 1; rw [Array.size_push, List.size_toArray, sizeLine_eq]; omega)
    have hsame : Heap.SameBut S h' (h'.update S (Obj.mapSeq (·.push (Value.int (Ms.getD j 0) t)))) := Heap.SameBut.update ..
    have hnew : (h'.update S (Obj.mapSeq (·.push (Value.int (Ms.getD j 0) t)))).get? S = some (W.listOf (acc ++ [Value.int (Ms.getD j 0) t]).toArray (c + 1)) := by
      have := PySem.IsL.update hS' (·.push (Value.int (Ms.getD j 0) t))
      simpa using this
    have N2 : News g L (h'.update S (Obj.mapSeq (·.push (Value.int (Ms.getD j 0) t)))) (ffLed x dx I b D l so vm.toArray n (j + 1) ((S, W.listOf (acc ++ [Value.int (Ms.getD j 0) t]).toArray (c + 1)) :: news)) :=
      news_set (pre := [(I, iterObj l (j + 1)), (x, ffObj dx b I), (dx, dictOf [] 0), (b, boundObj D), (D, so), (l, W.listOf vm.toArray n)]) (post := news) N' oN' oN2 hsame hnew
    refine ih (Ms.length - (j + 1)) (by omega) (j + 1) _ g (acc ++ [Value.int (Ms.getD j 0) t]) (c + 1) (done ++ [Ms.getD j 0]) rfl (by omega) B (F'.change hsame hmS.2.1 hmS.2.2) X T N2 (by first | exact hacc.append (.cons _ _ .nil) | exact IntsAre.append hacc (.cons _ _ .nil)) (by rw [List.length_append, List.length_singleton]; omega) fun s' g' acc' c' hs' Tn Nn In => ?_
    obtain ⟨h3, tk3, rfl⟩ := hs'
    refine hR _ g' acc' c' ⟨h3, tk3, rfl⟩ Tn Nn ?_
    rw [keepF_step hij hj hall hSj]
    simpa using In
  · refine ff_stopped rfl B X₀ T₀ hf F' R' U' fun g' Tn Nn => ?_
    refine wpAny_pure (hR _ g' acc c ⟨_, _, rfl⟩ Tn (fun q hq => Nn q ?_) ?_)
    · rcases List.mem_cons.mp hq with rfl | hq
      · k_mem
      · repeat (first | exact hq | refine List.mem_cons_of_mem _ ?_)
    · rw [keepF_end hall, List.append_nil]; exact hacc

theorem list_ff {s : Shared} {Q : Value → Shared → Prop} {E : Value → Shared → Prop} {x dx I b D l : Addr} {so : Obj} {vm : List Value} {n nn : Nat} {Ms : List Int} {Sx : Int → Bool} {news : List (Addr × Obj)} {g : Heap}
    (X₀ : (Mine.hd.heap_39 w.params).In base) (T₀ : Top p loose mean mg mb base) (hf : e2.frame = some L) (hk : e2.scope.kind = .function)
    (hnx : findIn (Mine.hd.heap_39 w.params) (.ref 47) "__next__" = some (some (.ref 43))) (hfn : isFn (Mine.hd.heap_39 w.params) (.ref 43) = true)
    (hit : findIn (Mine.hd.heap_39 w.params) (.ref 47) "__iter__" = some (some (.ref 36))) (hfi : isFn (Mine.hd.heap_39 w.params) (.ref 36) = true)
    (hnl : findIn (Mine.hd.heap_39 w.params) (.ref 47) "__len__" = some none) (hnh : findIn (Mine.hd.heap_39 w.params) (.ref 47) "__length_hint__" = some none)
    (im : IntsAre vm Ms) (hlen : Ms.length ≤ 1000) (hS : so.SetObjOf (PySem.intKind Challenge.rw_ij0004_01.row.prog w) Sx nn) (hnn : nn < scanBound)
    (o1 : @LT.lt Nat _ D b) (o2 : @LT.lt Nat _ b dx) (o3 : @LT.lt Nat _ dx x) (o4 : @LT.lt Nat _ x I) (o5 : @LT.lt Nat _ l D) (o6 : ∀ q ∈ news, q.1 ≠ I)
    (B : Below (callerA.deeper e1) base [e1] g) (F : Fr g L s.heap m) (X : (Mine.hd.heap_39 w.params).In g) (T : Top p loose mean mg mb g)
    (N : News g L s.heap (ffLed x dx I b D l so vm.toArray n 0 news))
    (h : ∀ (S : Addr) (g' h' : Heap) (tk : Nat) (acc : List Value) (c : Nat), (∀ q ∈ ffLed x dx I b D l so vm.toArray n 0 news, q.1 < S) → Turned w p loose mean mg mb base e1 L m g g' h' → News g' L h' ((S, W.listOf acc.toArray c) :: news) → IntsAre acc (keepF Sx Ms) → Q (.ref S) { s with heap := h', toks := tk }) :
    wpAny (model Challenge.rw_ij0004_01.row.prog w) ((callerA.deeper e1).deeper e2) (call (.type "list") [.ref x]) Q E s := by
  have ltS : ∀ q ∈ ffLed x dx I b D l so vm.toArray n 0 news, q.1 < s.heap.objs.size := fun q hq => Heap.lt_size (N q hq).1
  refine PySem.callType_codes (Q₁ := fun obj s₁ => obj = .ref s.heap.objs.size ∧ s₁ = { s with heap := s.heap.push { cls := .type "list", data := .seq #[] } }) PySem.F.called_list (PySem.F.typeCall_list_1 _) PySem.F.entry_list_init
    (PySem.code_list_new _ ⟨rfl, rfl⟩) fun obj s₁ h₁ => ?_
  obtain ⟨rfl, rfl⟩ := h₁
  have hS0 : (s.heap.push { cls := .type "list", data := .seq #[] }).get? s.heap.objs.size = some { cls := .type "list", data := .seq #[] } := Heap.get?_push_size _ rfl
  refine ⟨⟨_, hS0, rfl⟩, PySem.F.args_list_init_2 _ _, ?_⟩
  have F0 := F.push { cls := .type "list", data := .seq #[] }
  have N0 := News.push F N { cls := .type "list", data := .seq #[] } rfl
  revert F0 N0 hS0 ltS
  generalize s.heap.objs.size = S
  generalize s.heap.push { cls := .type "list", data := .seq #[] } = H
  intro ltS hS0 F0 N0
  show wpAny _ (((callerA.deeper e1).deeper e2).in1).in1 (do let old ← Builtin.List.listItems (.ref S); Builtin.List.listUpdate (.ref S) (fun _ => #[]); letGo old.toList.reverse; Builtin.List.listExtendWith (.ref S) (.ref x) .none) _ _ _
  refine wpAny_bind ?_
  unfold Builtin.List.listItems
  refine wpAny_bind (wpAny_seqItems hS0 rfl (wpAny_pure ?_))
  show wpAny _ _ (updateSeq S (fun _ => #[]) >>= fun _ => letGo (#[] : Array Value).toList.reverse >>= fun _ => Builtin.List.listExtendWith (.ref S) (.ref x) .none) _ _ _
  refine wpAny_bind (wpAny_updateSeq hS0 rfl ?_)
  have off : ∀ q ∈ ffLed x dx I b D l so vm.toArray n 0 news, q.1 ≠ S := fun q hq => Nat.ne_of_lt (ltS q hq)
  have hm0 := N0 _ List.mem_cons_self
  have e1' : (H.update S (Obj.mapSeq (fun _ => (#[] : Array Value)))).get? S = some (W.listOf #[] 0) := by
    rw [Heap.get?_update_self _ hS0 rfl]; rfl
  have N1 : News g L (H.update S (Obj.mapSeq (fun _ => (#[] : Array Value)))) ((S, W.listOf #[] 0) :: ffLed x dx I b D l so vm.toArray n 0 news) :=
    news_set (pre := []) N0 (fun _ hq => nomatch hq) off (Heap.SameBut.update ..) e1'
  have F1 : Fr g L (H.update S (Obj.mapSeq (fun _ => (#[] : Array Value)))) m := F0.change (Heap.SameBut.update ..) hm0.2.1 hm0.2.2
  clear hS0 F0 N0 hm0
  revert N1 F1 e1'
  generalize H.update S (Obj.mapSeq (fun _ => (#[] : Array Value))) = H1
  intro e1' N1 F1
  refine wpAny_bind (wpAny_letGo ?_)
  unfold Builtin.List.listExtendWith
  have I1 : InstAt H1 x (ffObj dx b I) 47 (some (dictOf [] 0)) := InstAt.of_news N1 (by k_mem) (by k_mem)
  refine wpAny_bind ((I1.type.here ?_))
  have hne : S ≠ x := fun e => off (x, ffObj dx b I) (by k_mem) e.symm
  have q1 : Builtin.List.listSameRef (.ref S) (.ref x) = false := by simp [Builtin.List.listSameRef, hne]
  have q2 : (Value.ref 47 == Value.type "list") = false := by decide
  have q3 : (Value.ref 47 == Value.type "tuple") = false := by decide
  simp only [q1, q2, q3, Bool.or_false, Bool.false_eq_true, if_false]
  refine wpAny_bind (owit_iter F1 X I1 hit hfi ?_)
  refine iter_call B F1 X T N1 hf hk fun h2 tk2 F2 N2 => ?_
  have I2 : InstAt h2 x (ffObj dx b I) 47 (some (dictOf [] 0)) := InstAt.of_news N2 (by k_mem) (by k_mem)
  refine owit_it F2 X I2 hnx ?_
  have X2 := X.keeps F2.keep
  refine wpAny_bind (wpAny_holding ?_)
  unfold Builtin.List.listLengthHint
  refine wpAny_bind (wpAny_bind (I2.type.here ((looks_findIn X2 hnl).here ?_)))
  show wpAny _ _ (specialOf (Value.ref x) (Str.ofString "__length_hint__") >>= _) _ _ _
  refine wpAny_bind (wpAny_bind (I2.type.here ((looks_findIn X2 hnh).here ?_)))
  refine wpAny_pure ?_
  show wpAny _ _ (rule "list.extend.makes-room" >>= fun _ => Builtin.List.listTouch (.ref S) >>= fun _ =>
    again (.builtin "list.extend.loop" ⟨[.ref S, .ref x, .none], []⟩)) _ _ _
  refine wpAny_bind (wpAny_rule ?_)
  refine wpAny_bind ?_
  show wpAny _ _ (updateSeq S (·.push .none) >>= fun _ => updateSeq S (·.pop)) _ _ _
  have hS2 := (N2 _ List.mem_cons_self).1
  have hm2 := N2 _ List.mem_cons_self
  refine wpAny_bind (wpAny_updateSeq hS2 rfl ?_)
  have hS3 := Heap.get?_update_self (Obj.mapSeq (·.push Value.none)) hS2 rfl
  refine wpAny_updateSeq (hz := by seq_fits) hS3 rfl ?_
  obtain ⟨o3', ho3⟩ : ∃ o3', (h2.update S (Obj.mapSeq (·.push Value.none))).get? S = some o3' := ⟨_, hS3⟩
  have N3 : News g L (h2.update S (Obj.mapSeq (·.push Value.none))) ((S, o3') :: ffLed x dx I b D l so vm.toArray n 0 news) := news_set (pre := []) N2 (fun _ hq => nomatch hq) off (Heap.SameBut.update ..) ho3
  have F3 := F2.change (Heap.SameBut.update h2 S (Obj.mapSeq (·.push Value.none))) hm2.2.1 hm2.2.2
  have hS4 := Heap.get?_update_self (Obj.mapSeq (·.pop)) hS3 rfl
  obtain ⟨c4, hc4⟩ : ∃ c4, ((h2.update S (Obj.mapSeq (·.push Value.none))).update S (Obj.mapSeq (·.pop))).get? S = some (W.listOf ([] : List Value).toArray c4) := ⟨_, hS4⟩
  have hm3 := N3 _ List.mem_cons_self
  have N4 : News g L ((h2.update S (Obj.mapSeq (·.push Value.none))).update S (Obj.mapSeq (·.pop))) ((S, W.listOf ([] : List Value).toArray c4) :: ffLed x dx I b D l so vm.toArray n 0 news) :=
    news_set (pre := []) N3 (fun _ hq => nomatch hq) off (Heap.SameBut.update ..) hc4
  have F4 := F3.change (Heap.SameBut.update _ S (Obj.mapSeq (·.pop))) hm3.2.1 hm3.2.2
  refine wpAny_pure ⟨plainId_quiet PySem.F.plain_extend_loop _, ff_loop (n := n) rfl X₀ T₀ hf hk hnx hfn im hlen hS hnn o1 o2 o3 o4 o5 o6 (fun e => off (I, iterObj l 0) (by k_mem) e.symm) (fun q hq => ?_) (Ms.length - 0) 0 _ g [] c4 [] rfl (Nat.zero_le _) B F4 X T (fun q (hq : q ∈ ffLed x dx I b D l so vm.toArray n 0 ((S, W.listOf ([] : List Value).toArray c4) :: news)) => N4 q ?_) .nil (Nat.zero_le _) fun s' g' acc' c'' hs' Tn Nn In => ?_⟩
  · rcases List.mem_cons.mp hq with rfl | hq
    · exact off (I, iterObj l 0) (by k_mem)
    · exact off q (List.mem_cons_of_mem _ hq)
  · simp only [List.mem_cons] at hq ⊢
    rcases hq with hq | hq | hq | hq | hq | hq | hq | hq <;> simp [hq]
  · obtain ⟨h5, tk5, rfl⟩ := hs'
    exact ⟨rfl, h S g' h5 tk5 acc' c'' ltS Tn Nn (by simpa using In)⟩
end
end

/- part Enter -/
section
open PySem PySem.W PySem.Calls PyProof.Rows
set_option linter.unusedVariables false
section
variable {prog : Program} {w : World} {A A₀ : Around} {s : Shared} {K : Frag} {L : Addr} {h₀ base : Heap} {m mg mb : Str → Option Value} {news : List (Addr × Obj)} {p : Program} {loose : List Str} {mean : ExcName → Option Value}
/-- a call of a def with cells whose body may turn the caller's frame -/
theorem code_turnC {env : Env} {R : Result → Shared → Prop} {name qual : Str} {params : Arguments} {body : List Stmt} {scope : Scope} {dV kV doc pm cdv ct oc : Value} {an od : Option Addr} {osl : Array (Option Value)} {f : Addr} {args : Args} {binds : List (Str × Value)}
    (B : Below A₀ base [] h₀) (F : Fr h₀ L s.heap m) (X₀ : K.In h₀) (N : News h₀ L s.heap news) (T : Top p loose mean mg mb h₀) (hA : A.frames = some [env]) (hf : env.frame = some L) (hke : env.scope.kind = .function)
    (ho : K.lookup f = some ⟨oc, od, .func (fnOf name qual params body scope dV kV doc pm an cdv ct), osl⟩) (hcd : codeIn K cdv qual = true) (hroom : A.depth < recursionLimit)
    (hbind : BindsTo s (fnOf name qual params body scope dV kV doc pm an cdv ct) args binds) (hkind : (binds.all fun y => scope.names.lookup y.1 == some .local || scope.names.lookup y.1 == some .cell) = true)
    (hnd : ((cellsFrom 0 scope.names []).map (·.1)).Nodup)
    (h : ∀ g L' h₁ tk cells, Fr h₀ L g m → Fr g L' h₁ (bindL (envOfC qual scope L' f cdv).kindOf binds fun _ => none) → News g L' h₁ (cells ++ news) →
      CellsAre (bindC (envOfC qual scope L' f cdv).kindOf binds fun _ => none) (cellsFrom (L' + 1) scope.names []) cells → Below A base [env] g → K.In g → Top p loose mean mg mb g → (∀ p ∈ news, p.1 < L') →
      wpAny (model prog w) (A.deeper (envOfC qual scope L' f cdv)) (execs body (envOfC qual scope L' f cdv))
        (fun fl s' => LeaveS0 ([env].filterMap (·.frame)) h₀ L m g R (match fl with | .ret v => v | _ => .none) s')
        (fun e s' => wpAny (model prog w) (A.deeper (envOfC qual scope L' f cdv)) (leaving (envOfC qual scope L' f cdv) e) (fun _ s'' => R (.error e) s'') (fun e' s'' => R (.error e') s'') s')
        { s with heap := h₁, toks := tk })
    (hco : scope.isCoroutine = false) (hgen : scope.isGenerator = false) (hk : scope.kind = .function) : codeAny (model prog w) A (.call (.ref f) args) R s := by
  obtain ⟨FG, BG, st, -⟩ := groundX (R := R) B F N hA hf hke
  have hX := X₀.keeps F.keep
  refine codeAny_call_function hroom (hX _ _ ho) rfl hco hgen rfl (codeRec_of hX hcd) (hbind _ _ _ _ ?_)
  refine wpAny_newFunctionEnv_cells hk (kindsX hkind _) fun env' he s' x => ?_
  subst he
  refine ⟨(T.nolimit.keeps F.keep).keeps x.toInCall.keep, codeAny_func ?_⟩
  obtain ⟨h₁, tk, rfl, _⟩ := x.done
  have hk₁ := x.toInCall.keep
  obtain ⟨cells, NC, Y⟩ := Cl.news (h₀ := s.heap) (Nat.le_refl _) fun n c hm => ⟨x.cell n c (lookup_of_mem_nodup (cellsFrom_names scope.names 0 (s.heap.objs.size + 1) [] [] rfl ▸ hnd) hm), x.above n c hm⟩
  refine wpAny_mono (h _ s.heap.objs.size h₁ tk cells FG ⟨x.toInCall.ns, fun b o e => hk₁ b o (of_hideAll _ e), Nat.le_of_eq (hideAll_size _ _)⟩ (fun q hq => ?_) Y BG (X₀.keeps st) (T.keeps st) (fun q hq => Heap.lt_size (N q hq).1)) (fun fl s' hl => ?_) fun _ _ y => y
  · rcases List.mem_append.mp hq with hq | hq
    · refine ⟨(NC q hq).1, (NC q hq).2.1, ?_⟩
      cases z : (hideAll s.heap (news.map (·.1))).get? q.1 with
      | none => rfl
      | some o => have := of_hideAll _ z; rw [(NC q hq).2.2] at this; cases this
    · exact ⟨hk₁ _ _ (N q hq).1, Nat.ne_of_lt (Heap.lt_size (N q hq).1), hideAll_none _ (List.mem_map_of_mem hq)⟩
  · obtain ⟨g', L', m', news', T', F', N', k⟩ := hl
    obtain ⟨oL, es, ep, hLg, hLd, hLk, hLf⟩ := FG.ns
    have nL : h₀.get? L = none := Heap.get?_none_of_le F.above
    obtain ⟨sl, hs⟩ := T'.up hLg
    refine k ⟨⟨_, es, ep, F'.keep _ _ hs, hLd, hLk, hLf⟩, fun b o e => F'.keep b o (T'.other b o (st b o e) (fun q => ?_)), F.above⟩ fun q hq => ⟨(N' q hq).1, fun z => ?_, ?_⟩
    · have : b = L := by simpa [hf] using q
      rw [this, nL] at e
      cases e
    · have := (N' q hq).2.2; rw [z, hs] at this; cases this
    · cases z : h₀.get? q.1 with
      | none => rfl
      | some o =>
        obtain ⟨sl', hs'⟩ := T'.up (st _ _ z)
        have := (N' q hq).2.2
        rw [hs'] at this
        cases this
end
section
variable {w : World} {p : Program} {loose : List Str} {mean : ExcName → Option Value} {mg mb : Str → Option Value} {e1 : Env} {base : Heap} {L : Addr}
/-- a ground that has turned -/
structure Grnd (w : World) (p : Program) (loose : List Str) (mean : ExcName → Option Value) (mg mb : Str → Option Value) (base : Heap) (e1 : Env) (g g' : Heap) : Prop where
  turn : KtsTurn ([e1].filterMap (·.frame)) g g'
  below : Below (callerA.deeper e1) base [e1] g'
  k : (Mine.hd.heap_39 w.params).In g'
  top : Top p loose mean mg mb g'
def StepG (w : World) (p : Program) (loose : List Str) (mean : ExcName → Option Value) (mg mb : Str → Option Value) (base : Heap) (e1 : Env) (g₀ : Heap) (L : Addr) (s : Shared) (J : Nat → (Str → Option Value) → List (Addr × Obj) → Prop) (Q : Flow → Shared → Prop) (n : Nat) (f : Flow) (s₃ : Shared) : Prop :=
  match f with
  | .next | .cont => ∃ h' tk m₂ news₂ n' g', s₃ = { s with heap := h', toks := tk } ∧ Grnd w p loose mean mg mb base e1 g₀ g' ∧ Fr g' L h' m₂ ∧ News g' L h' news₂ ∧ n' < n ∧ J n' m₂ news₂
  | .brk => Q .next s₃
  | .ret v => Q (.ret v) s₃
theorem While_turn {prog : Program} {w' : World} {A : Around} {E : Value → Shared → Prop} {Q : Flow → Shared → Prop} {s : Shared} {env : Env} {g : Heap} {test : PySem.Expr} {body : List Stmt} {pos : Pos} {m : Str → Option Value} {news : List (Addr × Obj)} (J : Nat → (Str → Option Value) → List (Addr × Obj) → Prop) {n₀ : Nat}
    (F : Fr g L s.heap m) (N : News g L s.heap news) (B : Below (callerA.deeper e1) base [e1] g) (X : (Mine.hd.heap_39 w.params).In g) (T : Top p loose mean mg mb g) (hJ : J n₀ m news)
    (turn : ∀ n m₁ news₁ h₁ tk₁ g₁, Grnd w p loose mean mg mb base e1 g g₁ → Fr g₁ L h₁ m₁ → News g₁ L h₁ news₁ → J n m₁ news₁ →
      wpAny (model prog w') A (isTrue test env (eval test env)) (fun b s₂ =>
        if b = true then wpAny (model prog w') A (execs body env) (StepG w p loose mean mg mb base e1 g L s J Q n) E s₂ else Q .next s₂) E { s with heap := h₁, toks := tk₁ })
    (hE : PassesOwn (model prog w') A env E) :
    wpAny (model prog w') A (exec (.While test body [] pos) env) Q E s := by
  refine wpAny_While (codeAny_whileLoop (fun n s' => ∃ h₁ tk₁ m₁ news₁ g₁, s' = { s with heap := h₁, toks := tk₁ } ∧ Grnd w p loose mean mg mb base e1 g g₁ ∧ Fr g₁ L h₁ m₁ ∧ News g₁ L h₁ news₁ ∧ J n m₁ news₁) ?_ n₀ ⟨s.heap, s.toks, m, news, g, rfl, ⟨KtsTurn.refl, B, X, T⟩, F, N, hJ⟩)
  rintro n s' ⟨h₁, tk₁, m₁, news₁, g₁, rfl, G₁, F₁, N₁, J₁⟩
  refine wpAny_mono (turn n m₁ news₁ h₁ tk₁ g₁ G₁ F₁ N₁ J₁) (fun b s₂ h₂ => ?_) hE
  cases b with
  | false =>
    simp only [Bool.false_eq_true, if_false] at h₂ ⊢
    exact wpAny_execs_nil h₂
  | true =>
    simp only [if_true] at h₂ ⊢
    refine wpAny_mono h₂ (fun f s₃ h₃ => ?_) hE
    cases f with
    | next =>
      obtain ⟨h', tk, m₂, news₂, n', g', rfl, G₂, F₂, N₂, hn, J₂⟩ := h₃
      exact ⟨n', hn, h', tk, m₂, news₂, g', rfl, G₂, F₂, N₂, J₂⟩
    | cont =>
      obtain ⟨h', tk, m₂, news₂, n', g', rfl, G₂, F₂, N₂, hn, J₂⟩ := h₃
      exact ⟨n', hn, h', tk, m₂, news₂, g', rfl, G₂, F₂, N₂, J₂⟩
    | brk => exact h₃
    | ret v => exact h₃
end
end

/- part Peels -/
section
open PySem PySem.W PySem.Calls PyProof.Rows
set_option linter.unusedVariables false
local macro_rules | `(tactic| walk_at "m_enterT") => `(tactic| (refine' code_turnC ?k1 ?k2 ?k3 ?k4 ?k5 ?kA $(Lean.mkIdent `hf) $(Lean.mkIdent `hk) ?k6 ?k7 ?k8 ?k9 ?kB ?kD ?_ ?c2 ?c3 ?c4; (case kA => exact rfl); (case k1 => k_asm); (case k2 => k_asm); (case k3 => k_asm); (case k4 => k_asm); (case k5 => k_asm); (case k6 => k_is); (case k7 => k_is); (case k8 => k_room); (case k9 => first | exact BindsTo.of_eq rfl | exact binds_K (by k_in) rfl (by k_is) rfl rfl rfl | fail "k_enter: no rule for these arguments"); (case kB => exact rfl); (case kD => decide +kernel); (case c2 => exact rfl); (case c3 => exact rfl); (case c4 => exact rfl); k_whole; intro g' L' h' tk' cells' FG' F' N' Y' B' X' T' l1; k_lt l1; (have hAL := l1.2.2); (have hY := Y'.one; obtain ⟨o', hE', d1'⟩ := hY; subst hE'; clear Y'); (try simp only [List.cons_append, List.nil_append] at N'); (try dsimp only); (try k_lift B'); (try k_fold)))
/-- lists of ints, each in the ledger -/
inductive Rows (led : List (Addr × Obj)) : List Value → List (List Int) → Prop
  | nil : Rows led [] []
  | cons {a : Addr} {vs : List Value} {n : Nat} {ks : List Int} {rs : List Value} {ls : List (List Int)} (h : (a, W.listOf vs.toArray n) ∈ led) (i : IntsAre vs ks) (r : Rows led rs ls) : Rows led (.ref a :: rs) (ks :: ls)
theorem Rows.mono {l1 l2 : List (Addr × Obj)} (hs : ∀ q ∈ l1, q ∈ l2) : ∀ {vs : List Value} {ls : List (List Int)}, Rows l1 vs ls → Rows l2 vs ls
  | _, _, .nil => .nil
  | _, _, .cons h i r => .cons (hs _ h) i (r.mono hs)
theorem Rows.snoc {led : List (Addr × Obj)} {a : Addr} {us : List Value} {n : Nat} {ks : List Int} (h : (a, W.listOf us.toArray n) ∈ led) (i : IntsAre us ks) : ∀ {vs : List Value} {ls : List (List Int)}, Rows led vs ls → Rows led (vs ++ [.ref a]) (ls ++ [ks])
  | _, _, .nil => .cons h i .nil
  | _, _, .cons h' i' r => .cons h' i' (r.snoc h i)
theorem Rows.length {led : List (Addr × Obj)} : ∀ {vs : List Value} {ls : List (List Int)}, Rows led vs ls → vs.length = ls.length
  | _, _, .nil => rfl
  | _, _, .cons _ _ r => by simp [r.length]
/-- what one peel keeps out -/
def near (Bd : List Int) (f : Int) : List Int := [f] ++ Bd.map fun d => Builtin.bitXor f d
inductive Peel (Bd : List Int) : List Int → List Int → Prop
  | nil : Peel Bd [] []
  | cons {f : Int} {r out : List Int} (h : Peel Bd (keepF (fun k => (near Bd f).contains k) (f :: r)) out) : Peel Bd (f :: r) (f :: out)
inductive Peels (Bd : List Int) : List Int → List (List Int) → Prop
  | nil : Peels Bd [] []
  | cons {f : Int} {r pl : List Int} {out : List (List Int)} (p : Peel Bd (f :: r) pl) (h : Peels Bd (keepF (fun k => pl.contains k) (f :: r)) out) : Peels Bd (f :: r) (pl :: out)
theorem keepF_less {S : Int → Bool} {f : Int} {r : List Int} (h : S f = true) : (keepF S (f :: r)).length ≤ r.length := by
  have : keepF S (f :: r) = keepF S r := List.filter_cons_of_neg (by simp [h])
  rw [this]; exact List.length_filter_le _ _
theorem near_self {Bd : List Int} {f : Int} : (near Bd f).contains f = true := by simp [near]
theorem Peel.head {Bd : List Int} {f : Int} {r pl : List Int} (h : Peel Bd (f :: r) pl) : pl.contains f = true := by cases h; simp
theorem Peel.len {Bd l pl : List Int} (h : Peel Bd l pl) : pl.length ≤ l.length := by
  induction h with
  | nil => exact Nat.le_refl _
  | @cons f r out _ ih => have := keepF_less (r := r) (near_self (Bd := Bd) (f := f)); simp only [List.length_cons]; exact Nat.succ_le_succ (Nat.le_trans ih this)
def Off (a b : Addr) : Prop := a ≠ b
theorem Off.ne {a b : Addr} (h : Off a b) : a ≠ b := h
theorem Off.symm {a b : Addr} (h : Off a b) : b ≠ a := Ne.symm h
/-- an address outside of a ledger -/
def OffAll (l : List (Addr × Obj)) (a : Addr) : Prop := ∀ q ∈ l, q.1 ≠ a
/-- the state ahead of a turn of the outer loop -/
structure OutJ (P cf bA : Addr) (vb : List Value) (nb : Nat) (Bd R0 : List Int) (news : List (Addr × Obj)) (M : Str → Option Value) (n : Nat) (m : Str → Option Value) (led : List (Addr × Obj)) : Prop where
  i : ∃ (r : Addr) (vr : List Value) (nr : Nat) (Rs : List Int) (ps : List Value) (np : Nat) (rows : List (List Int)) (o : Obj) (v : Option Value) (rest : List (Addr × Obj)) (u1 u2 : Option Value),
    m = (fun z => if z = (Str.ofString "row") then some (.ref r) else if z = (Str.ofString "left") then u1 else if z = (Str.ofString "peel") then u2 else M z) ∧
    led = (P, W.listOf ps.toArray np) :: (cf, o) :: (r, W.listOf vr.toArray nr) :: (bA, W.listOf vb.toArray nb) :: rest ∧ o.data = .cell v ∧ IntsAre vr Rs ∧ n = Rs.length ∧ rows.length + Rs.length ≤ 64 ∧ Rows rest ps rows ∧
    OffAll rest cf ∧ OffAll rest P ∧ (∀ q ∈ news, q ∈ rest) ∧ Off r cf ∧ Off r P ∧ (∀ out, Peels Bd Rs out → Peels Bd R0 (rows ++ out))
structure InJ (e cf P r bA : Addr) (rest : List (Addr × Obj)) (oP oR oB : Obj) (Bd Rs : List Int) (M : Str → Option Value) (n : Nat) (m : Str → Option Value) (led : List (Addr × Obj)) : Prop where
  i : ∃ (l : Addr) (vl : List Value) (nl : Nat) (Ls : List Int) (ve : List Value) (ne : Nat) (es : List Int) (o : Obj) (v : Option Value),
    m = (fun z => if z = (Str.ofString "left") then some (.ref l) else M z) ∧
    led = (e, W.listOf ve.toArray ne) :: (l, W.listOf vl.toArray nl) :: (cf, o) :: (P, oP) :: (r, oR) :: (bA, oB) :: rest ∧ o.data = .cell v ∧ IntsAre vl Ls ∧ IntsAre ve es ∧ n = Ls.length ∧ es.length + Ls.length ≤ Rs.length ∧
    Off l e ∧ Off l cf ∧ (∀ out, Peel Bd Ls out → Peel Bd Rs (es ++ out))
theorem While_out {prog : Program} {w w' : World} {p : Program} {loose : List Str} {mean : ExcName → Option Value} {mg mb : Str → Option Value} {e1 : Env} {base g : Heap} {L : Addr} {A : Around} {E : Value → Shared → Prop} {Q : Flow → Shared → Prop} {s : Shared} {env : Env} {test : PySem.Expr} {body : List Stmt} {pos : Pos} {m : Str → Option Value} {news : List (Addr × Obj)}
    {P cf rA bA : Addr} {vr vb : List Value} {nr nb : Nat} {Rs Bd : List Int} {o : Obj} {v : Option Value}
    (F : Fr g L s.heap m) (N : News g L s.heap ((P, W.listOf (#[] : Array Value) 0) :: (cf, o) :: (rA, W.listOf vr.toArray nr) :: (bA, W.listOf vb.toArray nb) :: news)) (B : Below (callerA.deeper e1) base [e1] g) (X : (Mine.hd.heap_39 w.params).In g) (T : Top p loose mean mg mb g)
    (hm : m (Str.ofString "row") = some (.ref rA)) (hd : o.data = .cell v) (ir : IntsAre vr Rs) (h64 : Rs.length ≤ 64) (o1 : OffAll news cf) (o2 : OffAll news P) (o3 : rA ≠ cf) (o4 : rA ≠ P)
    (turn : ∀ (n : Nat) (g₁ : Heap) (h₁ : Heap) (tk₁ : Nat) (r : Addr) (vr : List Value) (nr : Nat) (Ls : List Int) (ps : List Value) (np : Nat) (rows : List (List Int)) (o : Obj) (v : Option Value) (rest : List (Addr × Obj)) (u1 u2 : Option Value), Grnd w p loose mean mg mb base e1 g g₁ →
      Fr g₁ L h₁ (fun z => if z = (Str.ofString "row") then some (.ref r) else if z = (Str.ofString "left") then u1 else if z = (Str.ofString "peel") then u2 else m z) → News g₁ L h₁ ((P, W.listOf ps.toArray np) :: (cf, o) :: (r, W.listOf vr.toArray nr) :: (bA, W.listOf vb.toArray nb) :: rest) →
      o.data = .cell v → IntsAre vr Ls → n = Ls.length → rows.length + Ls.length ≤ 64 → Rows rest ps rows → OffAll rest cf → OffAll rest P → (∀ q ∈ news, q ∈ rest) → Off r cf → Off r P → (∀ out, Peels Bd Ls out → Peels Bd Rs (rows ++ out)) →
      wpAny (model prog w') A (isTrue test env (eval test env)) (fun b s₂ =>
        if b = true then wpAny (model prog w') A (execs body env) (StepG w p loose mean mg mb base e1 g L s (OutJ P cf bA vb nb Bd Rs news m) Q n) E s₂ else Q .next s₂) E { s with heap := h₁, toks := tk₁ })
    (hE : PassesOwn (model prog w') A env E) : wpAny (model prog w') A (exec (.While test body [] pos) env) Q E s := by
  refine While_turn (n₀ := Rs.length) (OutJ P cf bA vb nb Bd Rs news m) F N B X T ⟨rA, vr, nr, Rs, [], 0, [], o, v, news, m (Str.ofString "left"), m (Str.ofString "peel"), ?_, rfl, hd, ir, rfl, by simpa using h64, .nil, o1, o2, fun _ h => h, o3, o4, fun _ h => h⟩ ?_ hE
  · funext z
    by_cases e1 : z = (Str.ofString "row")
    · rw [if_pos e1, e1, hm]
    · rw [if_neg e1]
      by_cases e2 : z = (Str.ofString "left")
      · rw [if_pos e2, e2]
      · rw [if_neg e2]
        by_cases e3 : z = (Str.ofString "peel")
        · rw [if_pos e3, e3]
        · rw [if_neg e3]
  · rintro n m₁ news₁ h₁ tk₁ g₁ G₁ F₁ N₁ ⟨r, vr, nr, Ls, ps, np, rows, o, v, rest, u1, u2, rfl, rfl, a1, a2, a3, a4, a5, a6, a7, a8, a9, a10, a11⟩
    exact turn n g₁ h₁ tk₁ r vr nr Ls ps np rows o v rest u1 u2 G₁ F₁ N₁ a1 a2 a3 a4 a5 a6 a7 a8 a9 a10 a11
theorem While_in {prog : Program} {w w' : World} {p : Program} {loose : List Str} {mean : ExcName → Option Value} {mg mb : Str → Option Value} {e1 : Env} {base g : Heap} {L : Addr} {A : Around} {E : Value → Shared → Prop} {Q : Flow → Shared → Prop} {s : Shared} {env : Env} {test : PySem.Expr} {body : List Stmt} {pos : Pos} {m : Str → Option Value}
    {e P cf r bA : Addr} {vr : List Value} {nr : Nat} {oP oB : Obj} {Rs Bd : List Int} {o : Obj} {v : Option Value} {rest : List (Addr × Obj)}
    (F : Fr g L s.heap m) (N : News g L s.heap ((e, W.listOf (#[] : Array Value) 0) :: (r, W.listOf vr.toArray nr) :: (cf, o) :: (P, oP) :: (r, W.listOf vr.toArray nr) :: (bA, oB) :: rest)) (B : Below (callerA.deeper e1) base [e1] g) (X : (Mine.hd.heap_39 w.params).In g) (T : Top p loose mean mg mb g)
    (hm : m (Str.ofString "left") = some (.ref r)) (hd : o.data = .cell v) (ir : IntsAre vr Rs) (o1 : Off r e) (o2 : Off r cf)
    (turn : ∀ (n : Nat) (g₁ : Heap) (h₁ : Heap) (tk₁ : Nat) (l : Addr) (vl : List Value) (nl : Nat) (Ls : List Int) (ve : List Value) (ne : Nat) (es : List Int) (o : Obj) (v : Option Value), Grnd w p loose mean mg mb base e1 g g₁ →
      Fr g₁ L h₁ (fun z => if z = (Str.ofString "left") then some (.ref l) else m z) → News g₁ L h₁ ((e, W.listOf ve.toArray ne) :: (l, W.listOf vl.toArray nl) :: (cf, o) :: (P, oP) :: (r, W.listOf vr.toArray nr) :: (bA, oB) :: rest) →
      o.data = .cell v → IntsAre vl Ls → IntsAre ve es → n = Ls.length → es.length + Ls.length ≤ Rs.length → Off l e → Off l cf → (∀ out, Peel Bd Ls out → Peel Bd Rs (es ++ out)) →
      wpAny (model prog w') A (isTrue test env (eval test env)) (fun b s₂ =>
        if b = true then wpAny (model prog w') A (execs body env) (StepG w p loose mean mg mb base e1 g L s (InJ e cf P r bA rest oP (W.listOf vr.toArray nr) oB Bd Rs m) Q n) E s₂ else Q .next s₂) E { s with heap := h₁, toks := tk₁ })
    (hE : PassesOwn (model prog w') A env E) : wpAny (model prog w') A (exec (.While test body [] pos) env) Q E s := by
  refine While_turn (n₀ := Rs.length) (InJ e cf P r bA rest oP (W.listOf vr.toArray nr) oB Bd Rs m) F N B X T ⟨r, vr, nr, Rs, [], 0, [], o, v, ?_, rfl, hd, ir, .nil, rfl, by simp, o1, o2, fun _ h => h⟩ ?_ hE
  · funext z
    by_cases e1 : z = (Str.ofString "left")
    · rw [if_pos e1, e1, hm]
    · rw [if_neg e1]
  · rintro n m₁ news₁ h₁ tk₁ g₁ G₁ F₁ N₁ ⟨l, vl, nl, Ls, ve, ne, es, o, v, rfl, rfl, a1, a2, a3, a4, a5, a6, a7, a8⟩
    exact turn n g₁ h₁ tk₁ l vl nl Ls ve ne es o v G₁ F₁ N₁ a1 a2 a3 a4 a5 a6 a7 a8
theorem ints_all2 {vs : List Value} {a b : List Int} {f : Int → Int} (h : IntsAre vs (a ++ List.map f (List.filter (fun _ => true) b))) : IntsAre vs (a ++ b.map f) := by
  rwa [List.filter_eq_self.mpr (fun _ _ => rfl)] at h
theorem fr_out {g h : Heap} {L S : Addr} {m M : Str → Option Value} (F : Fr g L h m) (hr : m (Str.ofString "row") = some (.ref S)) (hM : ∀ z, z ≠ (Str.ofString "row") → z ≠ (Str.ofString "left") → z ≠ (Str.ofString "peel") → m z = M z) :
    Fr g L h (fun z => if z = (Str.ofString "row") then some (.ref S) else if z = (Str.ofString "left") then m (Str.ofString "left") else if z = (Str.ofString "peel") then m (Str.ofString "peel") else M z) := by
  have e : m = (fun z => if z = (Str.ofString "row") then some (.ref S) else if z = (Str.ofString "left") then m (Str.ofString "left") else if z = (Str.ofString "peel") then m (Str.ofString "peel") else M z) := by
    funext z
    by_cases e1 : z = (Str.ofString "row")
    · rw [if_pos e1, e1, hr]
    · rw [if_neg e1]
      by_cases e2 : z = (Str.ofString "left")
      · rw [if_pos e2, e2]
      · rw [if_neg e2]
        by_cases e3 : z = (Str.ofString "peel")
        · rw [if_pos e3, e3]
        · rw [if_neg e3]; exact hM z e1 e2 e3
  rw [← e]; exact F
theorem peel_next {Bd es Rs t1 : List Int} {f1 : Int} (h : ∀ out, Peel Bd (f1 :: t1) out → Peel Bd Rs (es ++ out)) : ∀ out, Peel Bd (keepF (fun k => (near Bd f1).contains k) (f1 :: t1)) out → Peel Bd Rs ((es ++ [f1]) ++ out) := fun out ho => by
  have := h _ (.cons ho)
  simpa using this
theorem peels_next {Bd es Rs t0 : List Int} {f0 : Int} {rows : List (List Int)} (hp : ∀ out, Peel Bd [] out → Peel Bd (f0 :: t0) (es ++ out)) (h : ∀ out, Peels Bd (f0 :: t0) out → Peels Bd Rs (rows ++ out)) : ∀ out, Peels Bd (keepF (fun k => es.contains k) (f0 :: t0)) out → Peels Bd Rs ((rows ++ [es]) ++ out) := fun out ho => by
  have p := hp [] .nil
  rw [List.append_nil] at p
  have := h _ (.cons p ho)
  simpa using this
local macro_rules | `(tactic| k_ne) => `(tactic| (refine neN ?_; (try dsimp only); first | with_reducible exact Off.ne (by with_reducible assumption) | with_reducible exact Off.symm (by with_reducible assumption)))
local macro_rules | `(tactic| k_all) => `(tactic| (k_whole; assumption))
local macro_rules | `(tactic| k_all) => `(tactic| (k_whole; exact allLt_ne (by assumption) (by omega)))
local macro_rules | `(tactic| walk_at "m_sub") => `(tactic| ((repeat (refine List.forall_mem_cons.mpr ⟨by k_mem, ?_⟩)); (intro q hq; repeat (first | exact hq | refine List.mem_cons_of_mem _ ?_))))
local macro_rules | `(tactic| walk_at "m_free") => `(tactic| exact ⟨⟨_, rfl, _, News.get (by assumption) (by k_mem), by assumption⟩, fun _ => rfl, rfl⟩)
local macro_rules | `(tactic| walk_at "m_lst") => `(tactic| exact IsL.isList (News.get (by assumption) (by k_mem)))
set_option maxRecDepth 100000 in
set_option maxHeartbeats 8000000 in
theorem peels_call {w : World} {p : Program} {loose : List Str} {mean : ExcName → Option Value} {mg mb : Str → Option Value} {e1 : Env} {base g : Heap} {L : Addr} {m : Str → Option Value} {news : List (Addr × Obj)} {s : Shared} {Q : Value → Shared → Prop} {E : Value → Shared → Prop}
    {rA bA : Addr} {vr vb : List Value} {nr nb : Nat} {Rs Bd : List Int}
    (B : Below callerA base [] g) (F : Fr g L s.heap m) (X : (Mine.hd.heap_39 w.params).In g) (T : Top p loose mean mg mb g) (X₀ : (Mine.hd.heap_39 w.params).In base) (T₀ : Top p loose mean mg mb base)
    (N : News g L s.heap ((rA, W.listOf vr.toArray nr) :: (bA, W.listOf vb.toArray nb) :: news)) (hf : e1.frame = some L) (hk : e1.scope.kind = .function)
    (ir : IntsAre vr Rs) (ib : IntsAre vb Bd) (hr : Rs.length ≤ 64) (hb : Bd.length ≤ 100)
    (h : ∀ (P : Addr) (ps : List Value) (np : Nat) (rows : List (List Int)) (rest : List (Addr × Obj)) (h' : Heap) (tk : Nat), Peels Bd Rs rows → rows.length ≤ 64 → Rows rest ps rows → (∀ q ∈ news, q ∈ rest) → Fr g L h' m → News g L h' ((P, W.listOf ps.toArray np) :: rest) → Q (.ref P) { s with heap := h', toks := tk }) :
    wpAny (model Challenge.rw_ij0004_01.row.prog w) (callerA.deeper e1) (call (.ref 86) [.ref rA, .ref bA] []) Q E s := by
  k_with_none
  revert X; k_fill; intro X
  w_top off
  w_strict (
  refine wpAny_call ?_
  walk_at "m_enterT"
  (rename AllLt _ news => hAL)
  iterate 8 (first | (k_unfold; (try dsimp only)) | walk1 | (dsimp only; walk1))
  (rename Fr _ _ _ _ => F1)
  (rename News _ _ _ _ => N1)
  (rename Below (callerA.deeper e1) _ _ _ => B1)
  (rename Top _ _ _ _ _ _ => T1)
  (rename Frag.In _ _ => X1)
  rename_i gx L' hx tkx FGx ltL oF dF P hx2 ltP hx3
  refine' While_out (Bd := Bd) F1 N1 B1 X1 T1 ?hm ?hd ir hr ?o1 ?o2 ?o3 ?o4 ?turn ?hE
  case hm => rfl
  case hd => assumption
  case o1 => exact allLt_ne hAL (by omega)
  case o2 => exact allLt_ne hAL (by omega)
  case o3 => exact Nat.ne_of_lt (by omega)
  case o4 => exact Nat.ne_of_lt (by omega)
  case hE => passes_own
  clear F1 N1 T1 B1 X1 F N T X
  intro n g₁ h₁ tk₁ r vr nr Ls ps np rows o v rest u1 u2 G₁ F₁ N₁ hd il hn h64 hrows oc oP hsub orc orP hpeels
  obtain ⟨Tn₁, B₁, X₁, T₁⟩ := G₁
  iterate 6 (first | (k_unfold; (try dsimp only)) | walk1 | (dsimp only; walk1))
  (rename @LT.lt Nat _ _ _ ∧ _ => ltT)
  cases Ls with
  | nil =>
    have e0 : (!decide (([] : List Int) = [])) = false := by decide
    rw [e0]
    repeat (first | (k_unfold; (try dsimp only)) | walk1 | (dsimp only; walk1))
    dsimp only
    (rename Fr _ _ _ _ => F2)
    (rename News _ _ _ _ => N2)
    refine leaveS0_ F2 N2 Tn₁ fun kF kN => ?_
    dsimp only
    refine h P ps np rows rest _ _ (by have := hpeels [] .nil; rwa [List.append_nil] at this) (by simp only [List.length_nil] at h64; omega) hrows hsub kF (kst_newsOf kN ?osub)
    case osub => walk_at "m_sub"
  | cons f0 t0 =>
    have e0 : (!decide ((f0 :: t0) = [])) = true := by simp
    rw [e0]
    iterate 14 (first | (k_unfold; (try dsimp only)) | walk1 | (dsimp only; walk1))
    (rename Fr _ _ _ _ => F2)
    (rename News _ _ _ _ => N2)
    rename_i e hx4 ltE hx5
    refine' While_in (o := o) (r := r) (vr := vr) (nr := nr) (oP := W.listOf ps.toArray np) (oB := W.listOf vb.toArray nb) (bA := bA) (rest := rest) (Bd := Bd) (Rs := f0 :: t0) F2 (kst_newsOf N2 ?sub) B₁ X₁ T₁ ?jm ?jd il ?j1 ?j2 ?jturn ?jE
    case sub => walk_at "m_sub"
    case jm => rfl
    case jd => assumption
    case j1 => exact Nat.ne_of_lt (by omega)
    case j2 => exact orc
    case jE => passes_own
    clear F2 N2
    intro n2 g₂ h₂ tk₂ l vl nl Ls ve ne es oX v2 G₂ F₂ N₂ hd2 il2 ie2 hn2 hes ole olc hpeel
    obtain ⟨Tn₂, B₂, X₂, T₂⟩ := G₂
    clear B₁ X₁ T₁ hd
    iterate 6 (first | (k_unfold; (try dsimp only)) | walk1 | (dsimp only; walk1))
    rename_i tmp hx6 F3 N3 ltM
    cases Ls with
    | nil =>
      rw [show (!decide (([] : List Int) = [])) = false from by decide]
      iterate 17 (first | (k_unfold; (try dsimp only)) | walk1 | (dsimp only; walk1))
      have hes' : es.length ≤ 64 := by simp only [List.length_cons, List.length_nil] at h64 hes ⊢; omega
      refine' diff_call (mA := r) (sA := e) (vm := vr) (nm := nr) (vs := ve) (ns := ne) (Ms := f0 :: t0) (Ss := es) (news := (L' + 1, oX) :: (P, W.listOf ps.toArray np) :: (bA, W.listOf vb.toArray nb) :: (e, W.listOf ve.toArray ne) :: rest) B₂ F3 X₂ (kst_newsOf N3 ?isub) T₂ rfl rfl il ie2 (Nat.le_trans hes' (by decide)) ?_
      case isub => walk_at "m_sub"
      intro x dx I b D so nn h5 tk5 hS hnn o1 o2 o3 o4 hlt F7 N7
      repeat (first | (k_unfold; (try dsimp only)) | walk1 | (dsimp only; walk1))
      refine' list_ff (Ms := f0 :: t0) X₀ T₀ rfl rfl (by k_is) (by k_is) (by k_is) (by k_is) (by k_is) (by k_is) il (by simp only [List.length_cons] at h64 ⊢; omega) hS hnn o1 o2 o3 o4 (hlt _ (.head _)) (fun q hq => ?_) B₂ F7 X₂ T₂ N7 ?_
      · have := hlt q (.tail _ hq)
        exact Nat.ne_of_lt (Nat.lt_trans this (Nat.lt_trans o1 (Nat.lt_trans o2 (Nat.lt_trans o3 o4))))
      intro S g3 h6 tk6 acc c ltS Tn Nn In
      obtain ⟨Tn3, F8, B3, X3, T3⟩ := Tn
      clear B₂ X₂ T₂ F7 N7 F3 N3
      have hps : ps.length ≤ 64 := by have := hrows.length; simp only [List.length_cons] at h64; omega
      have hSP : Off S P := Nat.ne_of_gt (ltS (P, _) (by k_mem))
      have hSc : Off S (L' + 1) := Nat.ne_of_gt (ltS (L' + 1, _) (by k_mem))
      repeat (first | (k_unfold; (try dsimp only)) | walk1 | (dsimp only; walk1))
      (rename Fr _ _ _ _ => F9)
      (rename News _ _ _ _ => N9)
      rw [List.push_toArray] at N9
      refine ⟨_, _, _, _, (keepF (fun k => es.contains k) (f0 :: t0)).length, g3, rfl, ⟨(Tn₁.trans Tn₂).trans Tn3, B3, X3, T3⟩, fr_out F9 rfl (fun z h1 h2 h3 => ?ofr), kst_newsOf N9 ?jsub, ?less, ⟨S, acc, c, _, ps ++ [.ref e], np + 1, rows ++ [es], oX, _, (e, W.listOf ve.toArray ne) :: rest, _, _, rfl, rfl, hd2, In, rfl, ?len, (hrows.mono fun q hq => .tail _ hq).snoc (.head _) ie2, ?off1, ?off2, fun q hq => .tail _ (hsub q hq), hSc, hSP, peels_next hpeel hpeels⟩⟩
      case ofr => simp only [if_neg h1, if_neg h2, if_neg h3]
      case jsub => walk_at "m_sub"
      case less => rw [hn]; exact Nat.lt_succ_of_le (keepF_less (Peel.head (by have := hpeel [] .nil; rwa [List.append_nil] at this)))
      case len =>
        have := keepF_less (S := fun k => es.contains k) (f := f0) (r := t0) (Peel.head (by have := hpeel [] .nil; rwa [List.append_nil] at this))
        simp only [List.length_append, List.length_cons, List.length_nil] at h64 this ⊢
        omega
      case off1 => exact List.forall_mem_cons.mpr ⟨Nat.ne_of_gt (by omega), oc⟩
      case off2 => exact List.forall_mem_cons.mpr ⟨Nat.ne_of_gt (by omega), oP⟩
    | cons f1 t1 =>
      rw [show (!decide ((f1 :: t1) = [])) = true from by simp]
      iterate 38 (first | (k_unfold; (try dsimp only)) | walk1 | (dsimp only; walk1))
      (rename _ = Data.cell (some _) => hd3)
      rename_i tF hx7 oC hx8 tmp2 hx9 F5 N5 lt5
      have N5' : News g₂ L' hx9 ((tmp2, W.listOf #[Value.int f1 tF] 0) :: (e, W.listOf (ve ++ [Value.int f1 tF]).toArray (ne + 1)) :: (l, W.listOf vl.toArray nl) :: (L' + 1, oC) :: (P, W.listOf ps.toArray np) :: (r, W.listOf vr.toArray nr) :: (bA, W.listOf vb.toArray nb) :: rest) := by
        simp only [List.push_toArray] at N5
        refine kst_newsOf N5 ?_
        walk_at "m_sub"
      clear N5
      refine' m_ListComp Bd (fun _ => true) (fun k => Builtin.bitXor f1 k) ?F ?N ?hh ?hclos ?hcell ?hkind ?hnames ?hx ?hs ?_
      (case F => k_asm); (case N => k_asm); (case hh => exact rfl); (case hclos => with_unfolding_all rfl); (case hcell => decide); (case hkind => exact rfl); (case hnames => decide); (case hx => exact rfl); (case hs => (intro _; exact rfl))
      repeat ((with_reducible show wpAny _ _ _ _ _ _); walk1)
      refine ⟨.inl ⟨bA, vb, rfl, by walk_at "m_lst", by assumption⟩, by omega, by assumption, by assumption, ?_, ?_⟩
      · refine' reads_xor' rfl rfl rfl ?f3
        case f3 => walk_at "m_free"
      intro D3 h4 tk4 ys3 n3 neD3 F4 N4 I4
      clear neD3
      iterate 3 (first | (k_unfold; (try dsimp only)) | walk1 | (dsimp only; walk1))
      rename_i DD ws hx10 F6 N6 I6 lt6
      have I7 : IntsAre ws (near Bd f1) := ints_all2 I6
      refine' diff_call (mA := l) (sA := DD) (vm := vl) (nm := nl) (vs := ws) (ns := 0) (Ms := f1 :: t1) (Ss := near Bd f1) (news := (e, W.listOf (ve ++ [Value.int f1 tF]).toArray (ne + 1)) :: (L' + 1, oC) :: (P, W.listOf ps.toArray np) :: (r, W.listOf vr.toArray nr) :: (bA, W.listOf vb.toArray nb) :: rest) B₂ F6 X₂ (kst_newsOf N6 ?isub) T₂ rfl rfl il2 I7 (by simp only [near, List.length_append, List.length_map, List.length_singleton]; omega) ?_
      case isub => walk_at "m_sub"
      intro x dx I b D so nn h5 tk5 hS hnn o1 o2 o3 o4 hlt F7 N7
      repeat (first | (k_unfold; (try dsimp only)) | walk1 | (dsimp only; walk1))
      refine' list_ff (Ms := f1 :: t1) X₀ T₀ rfl rfl (by k_is) (by k_is) (by k_is) (by k_is) (by k_is) (by k_is) il2 (by simp only [List.length_cons] at h64 hes ⊢; omega) hS hnn o1 o2 o3 o4 (hlt _ (.head _)) (fun q hq => ?_) B₂ F7 X₂ T₂ N7 ?_
      · have := hlt q (.tail _ hq)
        exact Nat.ne_of_lt (Nat.lt_trans this (Nat.lt_trans o1 (Nat.lt_trans o2 (Nat.lt_trans o3 o4))))
      intro S g3 h6 tk6 acc c ltS Tn Nn In
      obtain ⟨Tn3, F8, B3, X3, T3⟩ := Tn
      clear B₂ X₂ T₂ F7 N7 F6 N6
      repeat (first | (k_unfold; (try dsimp only)) | walk1 | (dsimp only; walk1))
      (rename Fr _ _ _ _ => F9)
      (rename News _ _ _ _ => N9)
      refine ⟨_, _, _, _, (keepF (fun k => (near Bd f1).contains k) (f1 :: t1)).length, g3, rfl, ⟨Tn₂.trans Tn3, B3, X3, T3⟩, fr_item F9, kst_newsOf N9 ?jsub, ?less, ⟨S, acc, c, _, ve ++ [Value.int f1 tF], ne + 1, es ++ [f1], oC, _, rfl, rfl, hd3, In, ie2.append (.cons _ _ .nil), rfl, ?len, ?of1, ?of2, peel_next hpeel⟩⟩
      case jsub => walk_at "m_sub"
      case less => rw [hn2]; exact Nat.lt_succ_of_le (keepF_less near_self)
      case len => have := keepF_less (S := fun k => (near Bd f1).contains k) (r := t1) (near_self (Bd := Bd) (f := f1)); simp only [List.length_append, List.length_cons, List.length_nil] at hes this ⊢; omega
      case of1 => exact Nat.ne_of_gt (ltS (e, _) (by k_mem))
      case of2 => exact Nat.ne_of_gt (ltS (L' + 1, _) (by k_mem)))
end

/- part Loop -/
section
open PySem PySem.W PySem.Calls PyProof.Rows
set_option linter.unusedVariables false
section
variable {prog : Program} {w : World} {A : Around} {E : Value → Shared → Prop} {s : Shared} {g : Heap} {L : Addr}
theorem m_is {M : Model} {m : Str → Option Value} {x a b y : Addr} {K : Frag} {news : List (Addr × Obj)} {Q : Value → Shared → Prop} (F : Fr g L s.heap m) (N : News g L s.heap news) (hm : (x, tupOf #[.ref a, .ref b]) ∈ news) (X : K.In g) (ho : K.lookup y = some { cls := .type "object" })
    (h : Q (.bool false) s) : wpAny M A (compareOp .Is (.ref x) (.ref y)) Q E s := by
  have hy := F.keep _ _ (X _ _ ho)
  have hx := (N _ hm).1
  have hxy : x ≠ y := fun e => by
    have := (N _ hm).2.2
    simp only at this
    rw [e, X _ _ ho] at this
    cases this
  show wpAny M A (do return .bool (← isSame (.ref x) (.ref y))) Q E s
  refine wpAny_bind ?_
  show wpAny M A (if (x == y) = true then pure true else _) _ E s
  rw [if_neg (by simpa using hxy)]
  refine wpAny_bind (wpAny_load hx (wpAny_bind (wpAny_load hy ?_)))
  exact wpAny_pure (wpAny_pure h)
theorem li_pyNext {l it : Addr} {items : Array Value} {i : Nat} {Q : Option Value → Shared → Prop} {x : Value} (ho : s.heap.get? it = some (iterObj l i)) (hl : s.heap.IsList l items) (hx : items[i]? = some x)
    (hQ : ∀ h', h'.get? it = some (iterObj l (i + 1)) → Heap.SameBut it s.heap h' → Q (some x) { s with heap := h' }) :
    wpAny (model prog w) A (pyNext (.ref it)) Q E s := by
  unfold pyNext
  exact wpAny_bind (wpAny_attempt (li_next ho hl hx fun h' a b => wpAny_pure (hQ h' a b)))
def StepI (g : Heap) (L : Addr) (s : Shared) (I l : Addr) (J : Nat → (Str → Option Value) → List (Addr × Obj) → Prop) (Q : Flow → Shared → Prop) (i : Nat) (f : Flow) (s₃ : Shared) : Prop :=
  match f with
  | .next | .cont => ∃ h' tk m₂ rest₂, s₃ = { s with heap := h', toks := tk } ∧ Fr g L h' m₂ ∧ News g L h' ((I, iterObj l (i + 1)) :: rest₂) ∧ J (i + 1) m₂ rest₂
  | .brk => Q .next s₃
  | .ret v => Q (.ret v) s₃
theorem For_iter {env : Env} {Q : Flow → Shared → Prop} {x : Str} {px pos : Pos} {iter : PySem.Expr} {body : List Stmt} {I l : Addr} {items : Array Value} {n : Nat} {M : Str → Option Value} {rest : List (Addr × Obj)} (J : Nat → (Str → Option Value) → List (Addr × Obj) → Prop)
    (F : Fr g env.locals s.heap M) (N : News g env.locals s.heap ((I, iterObj l 0) :: rest)) (hJ0 : J 0 M rest) (hJ : ∀ i m r, J i m r → (l, W.listOf items n) ∈ r ∧ ∀ q ∈ r, q.1 ≠ I)
    (hh : A.handled = none) (hx : env.kindOf x = some .local) (hp : (env.scope.kind == .class || (env.scope.kind == .module && env.locals != env.globals)) = false)
    (h : wpAny (model prog w) A (eval iter env) (fun xv s₁ => xv = .ref I ∧ s₁ = s) E s)
    (turn : ∀ i v m₁ rest₁ h₁ tk₁, items[i]? = some v → J i m₁ rest₁ → Fr g env.locals h₁ (fun y => if y = x then some v else m₁ y) → News g env.locals h₁ ((I, iterObj l (i + 1)) :: rest₁) →
      wpAny (model prog w) A (execs body env) (StepI g env.locals s I l J Q i) E { s with heap := h₁, toks := tk₁ })
    (fin : ∀ m₁ rest₁ h₁ tk₁, J items.size m₁ rest₁ → Fr g env.locals h₁ m₁ → News g env.locals h₁ rest₁ → Q .next { s with heap := h₁, toks := tk₁ })
    (hs : ∀ x, foldedSetIterable iter env x = pure x) (hE : PassesOwn (model prog w) A env E) :
    wpAny (model prog w) A (exec (.For (.Name x px) iter body [] pos) env) Q E s := by
  refine wpAny_For (wpAny_mono h (fun xv s₁ h₁ => ?_) fun _ _ e => e) hs
  obtain ⟨rfl, rfl⟩ := h₁
  refine wpAny_pyIter_listiter (l := l) (i := 0) ⟨_, N.get (.head _), rfl, rfl⟩ ?_
  refine codeAny_forLoop (fun k s' => ∃ i h₁ tk₁ m₁ r₁, s' = { s₁ with heap := h₁, toks := tk₁ } ∧ Fr g env.locals h₁ m₁ ∧ News g env.locals h₁ ((I, iterObj l i) :: r₁) ∧ J i m₁ r₁ ∧ i ≤ items.size ∧ k = items.size - i) ?_ (items.size - 0) ⟨0, s₁.heap, s₁.toks, M, rest, rfl, F, N, hJ0, Nat.zero_le _, rfl⟩
  rintro k s' ⟨i, h₁, tk₁, m₁, r₁, rfl, F₁, N₁, J₁, hi, rfl⟩
  obtain ⟨hl, hoff⟩ := hJ i m₁ r₁ J₁
  have hI := N₁ _ (.head _)
  have hls : h₁.IsList l items := IsL.isList (n := n) (N₁ _ (.tail _ hl)).1
  by_cases hlt : i < items.size
  · refine li_pyNext hI.1 hls (x := items[i]) (by simp [hlt]) fun h₂ ho₂ hs₂ => ?_
    have F₂ := F₁.change hs₂ hI.2.1 hI.2.2
    have N₂ : News g env.locals h₂ ((I, iterObj l (i + 1)) :: r₁) := news_set (pre := []) N₁ (fun _ hq => nomatch hq) hoff hs₂ ho₂
    refine wpAny_assign_Name (wpAny_storeName_local hx F₂.ns (fun h₃ hn₃ hs₃ => ?_) hp)
    have t := turn i items[i] m₁ r₁ h₃ (tk₁ + 1) (by simp [hlt]) J₁ (F₂.set hn₃ hs₃) (N₂.set hs₃)
    refine wpAny_passesOwn hE ?_
    show wpAny _ _ _ _ _ { s₁ with heap := h₃, toks := tk₁ + 1 }
    refine wpAny_mono t (fun f s₃ h₃ => ?_) fun _ _ z => z
    cases f with
    | ret v => exact h₃
    | brk => exact h₃
    | next =>
      obtain ⟨h', tk, m₂, r₂, rfl, F₄, N₄, J₄⟩ := h₃
      exact ⟨items.size - (i + 1), by omega, i + 1, h', tk, m₂, r₂, rfl, F₄, N₄, J₄, hlt, rfl⟩
    | cont =>
      obtain ⟨h', tk, m₂, r₂, rfl, F₄, N₄, J₄⟩ := h₃
      exact ⟨items.size - (i + 1), by omega, i + 1, h', tk, m₂, r₂, rfl, F₄, N₄, J₄, hlt, rfl⟩
  · have e : i = items.size := by omega
    subst e
    refine wpAny_pyNext_list_end hh ⟨_, hI.1, rfl, rfl⟩ hls (by simp) fun h₂ hx₂ => wpAny_execs_nil ?_
    exact fin m₁ r₁ h₂ tk₁ J₁ ⟨F₁.ns.extBut hx₂ (Ne.symm hI.2.1), fun b o e => hx₂ b o (fun z => by rw [z, hI.2.2] at e; cases e) (F₁.keep b o e), F₁.above⟩ fun q hq => ⟨hx₂ _ _ (hoff q hq) (N₁ q (.tail _ hq)).1, (N₁ q (.tail _ hq)).2⟩
/-- the pairs after i doublings -/
inductive Dbl (Bd F5 : List Int) : Nat → List Int → List Int → Prop
  | zero : Dbl Bd F5 0 [0] [0]
  | succ {i : Nat} {Ws Ms : List Int} {least : Int} (d : Dbl Bd F5 i Ws Ms) (x : MexI (usedOf Ws Ms Bd (F5.getD i 0)) least) : Dbl Bd F5 (i + 1) (Ws ++ Ws.map fun k => Builtin.bitXor k (F5.getD i 0)) (Ms ++ Ms.map fun k => Builtin.bitXor k least)
theorem Dbl.len {Bd F5 : List Int} {i : Nat} {Ws Ms : List Int} (d : Dbl Bd F5 i Ws Ms) : Ms.length = Ws.length ∧ Ws.length = 2 ^ i := by
  induction d with
  | zero => exact ⟨rfl, rfl⟩
  | succ d x ih =>
    simp only [List.length_append, List.length_map]
    exact ⟨by omega, by rw [Nat.pow_succ]; omega⟩
structure RedJ (Bd F5 : List Int) (R0 : List (Addr × Obj)) (M : Str → Option Value) (I : Addr) (i : Nat) (m : Str → Option Value) (rest : List (Addr × Obj)) : Prop where
  i : ∃ (a wA nA : Addr) (vw vn : List Value) (nw nn : Nat) (Ws Ms : List Int) (u : Option Value), m = (fun z => if z = (Str.ofString "value") then some (.ref a) else if z = (Str.ofString "element") then u else M z) ∧
    rest = (a, tupOf #[.ref wA, .ref nA]) :: (wA, W.listOf vw.toArray nw) :: (nA, W.listOf vn.toArray nn) :: R0 ∧ a ≠ I ∧ wA ≠ I ∧ nA ≠ I ∧ IntsAre vw Ws ∧ IntsAre vn Ms ∧ Dbl Bd F5 i Ws Ms
end
end

/- part PureR -/
section
open PySem PySem.W PySem.Calls PyProof.Rows
def dueRow (Ws Ms : List Int) (k : Int) : List Int := ((rangeKs 0 Ws.length).filter fun j => Ms.getD j.toNat 0 == k).map fun j => Ws.getD j.toNat 0
theorem nodup_inj {α β : Type} {f : α → β} : ∀ {l : List α} {a b : α}, (l.map f).Nodup → a ∈ l → b ∈ l → f a = f b → a = b
  | x :: l, a, b, h, ha, hb, e => by
    rw [List.map_cons, List.nodup_cons] at h
    rcases List.mem_cons.mp ha with e1 | h1 <;> rcases List.mem_cons.mp hb with e2 | h2
    · rw [e1, e2]
    · rw [e1] at e; exact absurd (List.mem_map.mpr ⟨b, h2, e.symm⟩) h.1
    · rw [e2] at e; exact absurd (List.mem_map.mpr ⟨a, h1, e⟩) h.1
    · exact nodup_inj h.2 h1 h2 e
def wI (p : Nat × Nat) : Int := (p.1 : Int)
def mI (p : Nat × Nat) : Int := (p.2 : Int)
theorem filter_range_map {α : Type} (p : Nat × Nat → Bool) (f : Nat × Nat → α) (q : Nat → Bool) (g : Nat → α) : ∀ (P : List (Nat × Nat)) (b : Nat), (∀ i v, P[i]? = some v → q (b + i) = p v ∧ g (b + i) = f v) →
    ((List.range' b P.length).filter q).map g = (P.filter p).map f
  | [], b, _ => rfl
  | v :: P, b, h => by
    have h0 := h 0 v rfl
    have ih := filter_range_map p f q g P (b + 1) fun i u hu => by have := h (i + 1) u (by simpa using hu); rwa [show b + (i + 1) = b + 1 + i from by omega] at this
    rw [List.length_cons, List.range'_succ, List.filter_cons, List.filter_cons]
    rw [Nat.add_zero] at h0
    rw [h0.1]
    cases p v
    · simpa using ih
    · simpa [h0.2] using ih
theorem pick_pairs {α : Type} (P : List (Nat × Nat)) (p : Nat × Nat → Bool) (f : Nat × Nat → α) (q : Int → Bool) (g : Int → α) (h : ∀ (i : Nat) v, P[i]? = some v → q i = p v ∧ g i = f v) : ((rangeKs 0 P.length).filter q).map g = (P.filter p).map f := by
  rw [← filter_range_map p f (fun i => q i) (fun i => g i) P 0 (by simpa using h)]
  rw [rangeKs, List.filter_map, List.map_map, List.range_eq_range']
  have e : ∀ i : Nat, (0 : Int) + i = i := fun i => by omega
  congr 1
  · funext i; simp only [Function.comp, e]
  · congr 1; funext i; simp only [Function.comp, e]
theorem getD_pairs {f : Nat × Nat → Int} {P : List (Nat × Nat)} {i : Nat} {v : Nat × Nat} (h : P[i]? = some v) : (P.map f).getD (i : Int).toNat 0 = f v := by
  simp [List.getD, h]
theorem used_pairs {Bd : List Int} {P : List (Nat × Nat)} {x : Nat} : usedOf (P.map wI) (P.map mI) Bd (x : Int) = (P.filter fun p => Bd.any fun y => y == ((p.1 ^^^ x : Nat) : Int)).map mI := by
  unfold usedOf
  rw [List.length_map]
  refine pick_pairs P _ _ _ _ fun i v hv => ⟨?_, getD_pairs hv⟩
  rw [getD_pairs hv, wI, bitXor_cast]
theorem due_pairs {P : List (Nat × Nat)} {n : Nat} : dueRow (P.map wI) (P.map mI) (n : Int) = (P.filter fun p => p.2 == n).map wI := by
  unfold dueRow
  rw [List.length_map]
  refine pick_pairs P _ _ _ _ fun i v hv => ⟨?_, getD_pairs hv⟩
  rw [getD_pairs hv, mI, Bool.eq_iff_iff]
  simp only [beq_iff_eq]
  omega
/-- a bad difference -/
def isBad (Bd : List Int) (n : Nat) : Prop := (n : Int) ∈ Bd
theorem mem_used {Bd : List Int} {P : List (Nat × Nat)} {x n : Nat} : (n : Int) ∈ usedOf (P.map wI) (P.map mI) Bd (x : Int) ↔ ∃ y, (y, n) ∈ P ∧ isBad Bd (y ^^^ x) := by
  rw [used_pairs, List.mem_map]
  constructor
  · rintro ⟨⟨y, m⟩, hm, e⟩
    rw [List.mem_filter] at hm
    have e' : m = n := by simp only [mI] at e; omega
    subst e'
    exact ⟨y, hm.1, any_mem.mp hm.2⟩
  · rintro ⟨y, hm, hb⟩
    exact ⟨(y, n), List.mem_filter.mpr ⟨hm, any_mem.mpr hb⟩, rfl⟩
theorem dbl_pairs {Bd F5 Ws Ms : List Int} {i : Nat} (hF : ∀ i, ∃ x : Nat, F5.getD i 0 = (x : Int)) (d : Dbl Bd F5 i Ws Ms) :
    ∃ P : List (Nat × Nat), Ws = P.map wI ∧ Ms = P.map mI ∧ Closed P ∧ GF (isBad Bd) [] P := by
  induction d with
  | zero =>
    refine ⟨[(0, 0)], rfl, rfl, ?_, ⟨⟨fun n hn => absurd hn (Nat.not_lt_zero _), fun y hy => (nomatch hy)⟩, trivial⟩⟩
    intro w m v n h h'
    simp only [List.mem_singleton, Prod.mk.injEq] at h h'
    simp [h.1, h.2, h'.1, h'.2]
  | @succ i Ws Ms least d x ih =>
    obtain ⟨P, rfl, rfl, hc, hg⟩ := ih
    obtain ⟨y, hy⟩ := hF i
    rw [hy] at x ⊢
    obtain ⟨l, rfl⟩ := Int.eq_ofNat_of_zero_le x.1
    refine ⟨P ++ P.map (lay y l), ?_, ?_, closed_double hc, gf_append hg ?_⟩
    · rw [List.map_append, List.map_map, List.map_map]
      congr 1
      exact List.map_congr_left fun p _ => by simp only [Function.comp, wI, lay, bitXor_cast]
    · rw [List.map_append, List.map_map, List.map_map]
      congr 1
      exact List.map_congr_left fun p _ => by simp only [Function.comp, mI, lay]; exact bitXor_cast _ _
    · have := gf_double (x := y) (l := l) hc (fun n hn => mem_used.mp (x.2.1 n (by omega) (by omega))) (fun v hv hb => x.2.2 (mem_used.mpr ⟨v, hv, hb⟩)) P [] rfl hg
      simpa using this
theorem near_iff {Bd : List Int} (hB : Words Bd) {w v : Nat} : (near Bd (w : Int)).contains (v : Int) = true ↔ v = w ∨ isBad Bd (v ^^^ w) := by
  unfold near isBad
  simp only [List.singleton_append, List.contains_cons, Bool.or_eq_true, beq_iff_eq, List.contains_iff_mem, List.mem_map]
  constructor
  · rintro (h | ⟨d, hd, e⟩)
    · exact .inl (by omega)
    · right
      obtain ⟨k, rfl⟩ := Int.eq_ofNat_of_zero_le (hB d hd).1
      rw [show Builtin.bitXor (w : Int) (k : Int) = ((w ^^^ k : Nat) : Int) from bitXor_cast _ _] at e
      have : v = w ^^^ k := by omega
      rw [this, Nat.xor_comm, xor_front]
      exact hd
  · rintro (h | h)
    · exact .inl (by omega)
    · refine .inr ⟨_, h, ?_⟩
      rw [bitXor_cast, Nat.xor_comm v w, xor_front]
/-- kept, of the words with number n and on, once the words A with number n are taken -/
def kept (Bd : List Int) (n : Nat) (A : List (Nat × Nat)) (p : Nat × Nat) : Bool := decide (n ≤ p.2) && !(A.any fun q => q.2 == n && (near Bd (wI q)).contains (wI p))
theorem kept_snoc {Bd : List Int} {n : Nat} {A : List (Nat × Nat)} {q p : Nat × Nat} : kept Bd n (A ++ [q]) p = (kept Bd n A p && !(q.2 == n && (near Bd (wI q)).contains (wI p))) := by
  unfold kept
  rw [List.any_append]
  simp [Bool.not_or, Bool.and_assoc]
theorem peel_from {Bd : List Int} (hB : Words Bd) {n : Nat} : ∀ (B A : List (Nat × Nat)) (out : List Int), GF (isBad Bd) A B → ((A ++ B).map wI).Nodup → Peel Bd ((B.filter (kept Bd n A)).map wI) out → out = (B.filter fun p => p.2 == n).map wI
  | [], A, out, _, _, h => by
    cases h
    rfl
  | (w, m) :: B, A, out, hg, hnd, h => by
    have hnd' : ((A ++ [(w, m)] ++ B).map wI).Nodup := by simpa using hnd
    have ih := fun out => peel_from hB (n := n) B (A ++ [(w, m)]) out hg.2 hnd'
    rcases Nat.lt_trichotomy m n with hm | hm | hm
    · have e1 : kept Bd n A (w, m) = false := by unfold kept; simp only [Bool.and_eq_false_iff, decide_eq_false_iff_not]; left; omega
      have e2 : kept Bd n (A ++ [(w, m)]) = kept Bd n A := by
        funext p; rw [kept_snoc]
        have : (m == n) = false := by simp; omega
        simp [this]
      rw [List.filter_cons, if_neg (by rw [e1]; simp)] at h
      rw [List.filter_cons, if_neg (by simp; omega)]
      exact ih out (by rw [e2]; exact h)
    · subst hm
      have e1 : kept Bd m A (w, m) = true := by
        unfold kept
        simp only [Nat.le_refl, decide_true, Bool.true_and, Bool.not_eq_true', List.any_eq_false, Bool.and_eq_true, beq_iff_eq, not_and]
        rintro ⟨y, k⟩ hy hk hn
        have hk : k = m := hk
        subst hk
        rcases (near_iff hB).mp hn with e | e
        · have e : w = y := e
          subst e
          rw [List.map_append, List.nodup_append] at hnd
          exact hnd.2.2 _ (List.mem_map.mpr ⟨_, hy, rfl⟩) _ (List.mem_map.mpr ⟨(w, k), by simp, rfl⟩) rfl
        · exact hg.1.2 _ hy e
      rw [List.filter_cons, if_pos e1, List.map_cons] at h
      rw [List.filter_cons, if_pos (by simp), List.map_cons]
      cases h with
      | cons h =>
        congr 1
        refine ih _ ?_
        have e : keepF (fun k => (near Bd (wI (w, m))).contains k) (wI (w, m) :: (B.filter (kept Bd m A)).map wI) = (B.filter (kept Bd m (A ++ [(w, m)]))).map wI := by
          unfold keepF
          rw [List.filter_cons, if_neg (by show ¬ (!((near Bd (wI (w, m))).contains (wI (w, m)))) = true; rw [show (near Bd (wI (w, m))).contains (wI (w, m)) = true from (near_iff hB).mpr (.inl rfl)]; simp), List.filter_map, List.filter_filter]
          congr 1
          refine List.filter_congr fun p _ => ?_
          rw [kept_snoc, Bool.and_comm]
          simp [Function.comp]
        rw [← e]
        exact h
    · have e1 : kept Bd n A (w, m) = false := by
        obtain ⟨y, hy, hb⟩ := hg.1.1 n hm
        unfold kept
        simp only [Bool.and_eq_false_iff]
        right
        simp only [Bool.not_eq_false', List.any_eq_true]
        refine ⟨_, hy, ?_⟩
        rw [show (near Bd (wI (y, n))).contains (wI (w, m)) = true from (near_iff hB).mpr (.inr hb)]
        simp
      have e2 : kept Bd n (A ++ [(w, m)]) = kept Bd n A := by
        funext p; rw [kept_snoc]
        have : (m == n) = false := by simp; omega
        simp [this]
      rw [List.filter_cons, if_neg (by rw [e1]; simp)] at h
      rw [List.filter_cons, if_neg (by simp; omega)]
      exact ih out (by rw [e2]; exact h)
theorem peels_from {Bd : List Int} (hB : Words Bd) {P : List (Nat × Nat)} (hg : GF (isBad Bd) [] P) (hnd : (P.map wI).Nodup) {N : Nat} (hN : ∃ p ∈ P, p.2 = N) (hx : ∀ p ∈ P, p.2 ≤ N) : ∀ (k n : Nat) (rows : List (List Int)), n + k = N + 1 →
    Peels Bd ((P.filter fun p => decide (n ≤ p.2)).map wI) rows → rows = (List.range' n k).map fun j => (P.filter fun p => p.2 == j).map wI
  | 0, n, rows, e, h => by
    have e1 : (P.filter fun p => decide (n ≤ p.2)) = [] := List.filter_eq_nil_iff.mpr fun p hp => by have := hx p hp; simp; omega
    rw [e1] at h
    cases h
    rfl
  | k + 1, n, rows, e, h => by
    have he : kept Bd n [] = fun p => decide (n ≤ p.2) := by funext p; simp [kept]
    have ih := peels_from hB hg hnd hN hx k (n + 1)
    rw [List.range'_succ, List.map_cons]
    generalize hl : (P.filter fun p => decide (n ≤ p.2)).map wI = l at h
    cases h with
    | nil =>
      obtain ⟨p, hp, hpN⟩ := hN
      have := List.map_eq_nil_iff.mp hl
      rw [List.filter_eq_nil_iff] at this
      have := this p hp
      simp at this
      omega
    | @cons f r pl out p h =>
      rw [← hl] at p h
      have hpl : pl = (P.filter fun p => p.2 == n).map wI := peel_from hB P [] pl hg (by simpa using hnd) (by rw [he]; exact p)
      rw [hpl]
      congr 1
      refine ih out (by omega) ?_
      have e3 : keepF (fun k => pl.contains k) ((P.filter fun p => decide (n ≤ p.2)).map wI) = (P.filter fun p => decide (n + 1 ≤ p.2)).map wI := by
        unfold keepF
        rw [List.filter_map, List.filter_filter]
        congr 1
        refine List.filter_congr fun p hp => ?_
        rw [Bool.eq_iff_iff]
        simp only [Function.comp, Bool.and_eq_true, Bool.not_eq_true', decide_eq_true_eq]
        constructor
        · rintro ⟨hc, hle⟩
          rcases Nat.lt_or_ge n p.2 with h' | h'
          · exact h'
          · exfalso
            have : pl.contains (wI p) = true := by
              rw [List.contains_iff_mem, hpl]
              exact List.mem_map.mpr ⟨p, List.mem_filter.mpr ⟨hp, by simp; omega⟩, rfl⟩
            rw [this] at hc; cases hc
        · intro hle
          refine ⟨?_, by omega⟩
          rw [Bool.eq_false_iff]
          intro hc
          rw [List.contains_iff_mem, hpl] at hc
          obtain ⟨q, hq, hqe⟩ := List.mem_map.mp hc
          rw [List.mem_filter] at hq
          have hpq : q = p := nodup_inj hnd hq.1 hp hqe
          subst hpq
          have := hq.2
          simp at this
          omega
      rw [← e3]
      exact h
theorem used_sub {Ws Ms Bd : List Int} {x a : Int} (hl : Ms.length = Ws.length) (h : a ∈ usedOf Ws Ms Bd x) : a ∈ Ms := by
  unfold usedOf rangeKs at h
  simp only [List.mem_map, List.mem_filter, List.mem_range] at h
  obtain ⟨k, ⟨⟨j, hj, rfl⟩, _⟩, rfl⟩ := h
  have e : ((0 : Int) + (j : Int)).toNat = j := by omega
  rw [e, List.getD_eq_getElem?_getD, List.getElem?_eq_getElem (by omega), Option.getD_some]
  exact List.getElem_mem _
theorem Dbl.bound {Bd F5 : List Int} {i : Nat} {Ws Ms : List Int} (d : Dbl Bd F5 i Ws Ms) : ∀ k ∈ Ms, 0 ≤ k ∧ k < 2 ^ i := by
  induction d with
  | zero => intro k hk; rw [List.mem_singleton.mp hk]; decide
  | @succ i Ws Ms least d x ih =>
    have hle : least ≤ 2 ^ i := by
      rcases Int.lt_or_le (2 ^ i) least with h | h
      · have h0 : (0 : Int) ≤ 2 ^ i := Int.pow_nonneg (by decide)
        have := (ih _ (used_sub d.len.1 (x.2.1 _ h0 h))).2
        omega
      · exact h
    obtain ⟨l, rfl⟩ := Int.eq_ofNat_of_zero_le x.1
    have e1 : (2 : Int) ^ i = ((2 ^ i : Nat) : Int) := by simp
    have e2 : (2 : Int) ^ (i + 1) = ((2 ^ (i + 1) : Nat) : Int) := by simp
    have e3 : 2 ^ (i + 1) = 2 ^ i * 2 := by rw [Nat.pow_succ]
    have h1 : 0 < 2 ^ i := Nat.two_pow_pos i
    rw [e2]
    rw [e1] at hle ih
    intro k hk
    rcases List.mem_append.mp hk with h | h
    · have := ih k h
      omega
    · obtain ⟨k', h', e'⟩ := List.mem_map.mp h
      have hb := ih k' h'
      obtain ⟨a, rfl⟩ := Int.eq_ofNat_of_zero_le hb.1
      rw [← e']
      rw [show Builtin.bitXor (a : Int) (l : Int) = ((a ^^^ l : Nat) : Int) from bitXor_cast _ _]
      have := Nat.xor_lt_two_pow (x := a) (y := l) (n := i + 1) (by omega) (by omega)
      omega
def dblW (F5 : List Int) : Nat → List Int
  | 0 => [0]
  | i + 1 => dblW F5 i ++ (dblW F5 i).map fun k => Builtin.bitXor k (F5.getD i 0)
theorem Dbl.words {Bd F5 : List Int} {i : Nat} {Ws Ms : List Int} (d : Dbl Bd F5 i Ws Ms) : Ws = dblW F5 i := by
  induction d with
  | zero => rfl
  | succ d x ih => rw [ih]; rfl
theorem rowOf_eq (a b c d e : Int) : dblW [a, b, c, d, e] 5 = rowOf [a, b, c, d, e] := by rfl
theorem dbl_row {Bd F5 Ws Ms : List Int} (h : Five F5) (d : Dbl Bd F5 5 Ws Ms) : Ws = rowOf F5 := by
  obtain ⟨a, b, c, d', e, rfl, _⟩ := h
  rw [d.words]
  exact rowOf_eq _ _ _ _ _
/-- the j-th word, by its bits -/
def bitsOf (j : Nat) : Bool × Bool × Bool × Bool × Bool := (j % 2 == 1, j / 2 % 2 == 1, j / 4 % 2 == 1, j / 8 % 2 == 1, j / 16 % 2 == 1)
def xorSel (a b c d e : Nat) (j : Nat) : Nat := (((((sel (j % 2 == 1) a) ^^^ sel (j / 2 % 2 == 1) b) ^^^ sel (j / 4 % 2 == 1) c) ^^^ sel (j / 8 % 2 == 1) d) ^^^ sel (j / 16 % 2 == 1) e)
theorem row_step {F5 : List Int} {j k w x : Nat} (hx : F5.getD k 0 = (x : Int)) : rowStep F5 (j : Int) (w : Int) (k : Int) = ((w ^^^ sel (j / 2 ^ k % 2 == 1) x : Nat) : Int) := by
  unfold rowStep
  rw [bitAnd_m1, Int.toNat_natCast, hx, bitXor_cast]
  have e : ((j : Int).fdiv (2 ^ k)) % 2 = ((j / 2 ^ k % 2 : Nat) : Int) := by
    rw [Int.fdiv_eq_ediv_of_nonneg _ (Int.pow_nonneg (by decide))]
    simp
  rw [e]
  rcases Nat.mod_two_eq_zero_or_one (j / 2 ^ k) with h | h
  · rw [h]; simp [sel]
  · rw [h]; simp [sel]
theorem row_at (a b c d e j : Nat) : rowAt [(a : Int), (b : Int), (c : Int), (d : Int), (e : Int)] (j : Int) = (xorSel a b c d e j : Int) := by
  have s0 := fun w => row_step (F5 := [(a : Int), (b : Int), (c : Int), (d : Int), (e : Int)]) (j := j) (k := 0) (w := w) (x := a) rfl
  have s1 := fun w => row_step (F5 := [(a : Int), (b : Int), (c : Int), (d : Int), (e : Int)]) (j := j) (k := 1) (w := w) (x := b) rfl
  have s2 := fun w => row_step (F5 := [(a : Int), (b : Int), (c : Int), (d : Int), (e : Int)]) (j := j) (k := 2) (w := w) (x := c) rfl
  have s3 := fun w => row_step (F5 := [(a : Int), (b : Int), (c : Int), (d : Int), (e : Int)]) (j := j) (k := 3) (w := w) (x := d) rfl
  have s4 := fun w => row_step (F5 := [(a : Int), (b : Int), (c : Int), (d : Int), (e : Int)]) (j := j) (k := 4) (w := w) (x := e) rfl
  have er : rangeKs 0 5 = [((0 : Nat) : Int), ((1 : Nat) : Int), ((2 : Nat) : Int), ((3 : Nat) : Int), ((4 : Nat) : Int)] := rfl
  have s00 := s0 0
  unfold rowAt
  rw [er, List.foldl_cons, List.foldl_cons, List.foldl_cons, List.foldl_cons, List.foldl_cons, List.foldl_nil]
  rw [show ((0 : Int)) = ((0 : Nat) : Int) from rfl, s00, s1, s2, s3, s4, Nat.zero_xor]
  simp only [Nat.pow_zero, Nat.div_one]
  rfl
theorem sel_pair (p q : Bool) (a x y : Nat) : (x ^^^ sel p a) ^^^ (y ^^^ sel q a) = (x ^^^ y) ^^^ sel (p ^^ q) a := by
  rw [sel_xor, Nat.xor_assoc, Nat.xor_assoc, ← Nat.xor_assoc (sel p a), Nat.xor_comm (sel p a) y, Nat.xor_assoc y]
theorem bits_inj {i j : Nat} (hi : i < 32) (hj : j < 32) (h0 : (i % 2 == 1) = (j % 2 == 1)) (h1 : (i / 2 % 2 == 1) = (j / 2 % 2 == 1)) (h2 : (i / 4 % 2 == 1) = (j / 4 % 2 == 1)) (h3 : (i / 8 % 2 == 1) = (j / 8 % 2 == 1)) (h4 : (i / 16 % 2 == 1) = (j / 16 % 2 == 1)) : i = j := by
  rw [Bool.eq_iff_iff] at h0 h1 h2 h3 h4
  simp only [beq_iff_eq] at h0 h1 h2 h3 h4
  omega
theorem xorSel_inj {a b c d e i j : Nat} (H : Ind5 a b c d e) (hi : i < 32) (hj : j < 32) (h : xorSel a b c d e i = xorSel a b c d e j) : i = j := by
  have hx : xorSel a b c d e i ^^^ xorSel a b c d e j = 0 := by rw [h, Nat.xor_self]
  unfold xorSel at hx
  rw [sel_pair, sel_pair, sel_pair, sel_pair, ← sel_xor] at hx
  obtain ⟨h0, h1, h2, h3, h4⟩ := H _ _ _ _ _ hx
  refine bits_inj hi hj ?_ ?_ ?_ ?_ ?_
  · simpa using h0
  · simpa using h1
  · simpa using h2
  · simpa using h3
  · simpa using h4
theorem nodup_of {α β : Type} {f : α → β} : ∀ {l : List α}, l.Nodup → (∀ a ∈ l, ∀ b ∈ l, f a = f b → a = b) → (l.map f).Nodup
  | [], _, _ => List.nodup_nil
  | x :: l, h, hf => by
    rw [List.nodup_cons] at h
    rw [List.map_cons, List.nodup_cons]
    refine ⟨fun hm => ?_, nodup_of h.2 fun a ha b hb => hf a (.tail _ ha) b (.tail _ hb)⟩
    obtain ⟨y, hy, e⟩ := List.mem_map.mp hm
    have := hf y (.tail _ hy) x (.head _) e
    exact h.1 (this ▸ hy)
theorem row_nodup {F5 : List Int} (h : Five F5) : (rowOf F5).Nodup := by
  obtain ⟨a, b, c, d, e, rfl, _, _, _, _, _, H⟩ := h
  unfold rowOf rangeKs
  rw [List.map_map]
  refine nodup_of List.nodup_range fun i hi j hj heq => ?_
  simp only [Function.comp, Int.zero_add, row_at] at heq
  exact xorSel_inj H (List.mem_range.mp hi) (List.mem_range.mp hj) (by omega)
theorem five_nat {F5 : List Int} (h : Five F5) (i : Nat) : ∃ x : Nat, F5.getD i 0 = (x : Int) := by
  obtain ⟨a, b, c, d, e, rfl, _⟩ := h
  match i with
  | 0 => exact ⟨a, rfl⟩
  | 1 => exact ⟨b, rfl⟩
  | 2 => exact ⟨c, rfl⟩
  | 3 => exact ⟨d, rfl⟩
  | 4 => exact ⟨e, rfl⟩
  | i + 5 => exact ⟨0, rfl⟩
theorem peels_due {Bd F5 Ws Ms : List Int} {n : Nat} {rows : List (List Int)} (h5 : Five F5) (hB : Words Bd) (d : Dbl Bd F5 5 Ws Ms) (hn : (n : Int) ∈ Ms) (hx : ∀ a ∈ Ms, a ≤ (n : Int)) (p : Peels Bd (rowOf F5) rows) : rows = (List.range (n + 1)).map fun k : Nat => dueRow Ws Ms (k : Int) := by
  rw [← dbl_row h5 d] at p
  have hnd := row_nodup h5
  rw [← dbl_row h5 d] at hnd
  obtain ⟨P, rfl, rfl, _, hg⟩ := dbl_pairs (five_nat h5) d
  obtain ⟨q, hq, he⟩ := List.mem_map.mp hn
  have hall : (P.filter fun p => decide (0 ≤ p.2)) = P := List.filter_eq_self.mpr fun p _ => by simp
  have := peels_from hB hg hnd (N := n) ⟨q, hq, by simp only [mI] at he; omega⟩ (fun p hp => by have := hx _ (List.mem_map.mpr ⟨p, hp, rfl⟩); simp only [mI] at this; omega) (n + 1) 0 rows (by omega) (by rw [hall]; exact p)
  rw [this, List.range_eq_range']
  exact List.map_congr_left fun k _ => due_pairs.symm
end

/- part LoopC -/
section
open PySem PySem.W PySem.Calls PyProof.Rows
set_option linter.unusedVariables false
abbrev rangeObj (i left : Int) : Obj := { cls := .type "range_iterator", dict := none, data := .fields #[rawInt i, rawInt left, rawInt 1], slots := #[] }
section
variable {prog : Program} {w : World} {A : Around} {E : Value → Shared → Prop} {s : Shared} {g : Heap} {L : Addr}
def StepC (g : Heap) (L : Addr) (s : Shared) (M : Str → Option Value) (I c : Addr) (oI oc : Obj) (J : Addr → Nat → List (Addr × Obj) → Prop) (Q : Flow → Shared → Prop) (i : Nat) (f : Flow) (s₃ : Shared) : Prop :=
  match f with
  | .next | .cont => ∃ h' tk rest₂, s₃ = { s with heap := h', toks := tk } ∧ Fr g L h' M ∧ News g L h' ((I, oI) :: (c, oc) :: rest₂) ∧ J I (i + 1) rest₂
  | .brk => Q .next s₃
  | .ret v => Q (.ret v) s₃
/-- for x in range(n), x a cell -/
theorem For_cell {cn : Str} {cs : Scope} {a₀ : Addr} {ccd : Value} {cl : List (Str × Addr)} {Q : Flow → Shared → Prop} {x : Str} {px pos : Pos} {iter : PySem.Expr} {body : List Stmt} {c : Addr} {M : Str → Option Value} (J : Addr → Nat → List (Addr × Obj) → Prop)
    (hF0 : Fr g L s.heap M) (hh : A.handled = none) (hc : cl.lookup x = some c) (hk : cs.kind = .function) (hx : (envX cn cs L a₀ ccd cl).kindOf x = some .cell)
    (hJ : ∀ I i r, J I i r → (∀ q ∈ r, q.1 ≠ I) ∧ ∀ q ∈ r, q.1 ≠ c)
    (h : wpAny (model prog w) A (eval iter (envX cn cs L a₀ ccd cl)) (fun xv s₁ => ∃ (r : Addr) (n : Nat) (t u v : Tok) (o : Obj) (v₀ : Option Value) (rest : List (Addr × Obj)), xv = .ref r ∧ IsRange s₁.heap r 0 (n : Int) 1 t u v ∧ n ≤ 1000 ∧
      Fr g L s₁.heap M ∧ News g L s₁.heap ((c, o) :: rest) ∧ o.data = .cell v₀ ∧ (∀ I, (∀ q ∈ (c, o) :: rest, q.1 < I) → J I 0 rest) ∧
      (∀ I i rest₁ h₁ tk₁ oI oc t, i < n → J I i rest₁ → c ≠ I → (∃ ps, oI.data = .fields ps) → oc.data = .cell (some (.int (i : Int) t)) → Fr g L h₁ M → News g L h₁ ((I, oI) :: (c, oc) :: rest₁) →
        wpAny (model prog w) A (execs body (envX cn cs L a₀ ccd cl)) (StepC g L s₁ M I c oI oc J Q i) E { s₁ with heap := h₁, toks := tk₁ }) ∧
      (∀ I rest₁ h₁ tk₁ oc v₁, J I n rest₁ → oc.data = .cell v₁ → Fr g L h₁ M → News g L h₁ ((c, oc) :: rest₁) → Q .next { s₁ with heap := h₁, toks := tk₁ })) E s)
    (hs : ∀ x, foldedSetIterable iter (envX cn cs L a₀ ccd cl) x = pure x) (hE : PassesOwn (model prog w) A (envX cn cs L a₀ ccd cl) E) :
    wpAny (model prog w) A (exec (.For (.Name x px) iter body [] pos) (envX cn cs L a₀ ccd cl)) Q E s := by
  refine wpAny_For (wpAny_mono h (fun xv s₁ h₁ => ?_) fun _ _ e => e) hs
  obtain ⟨r, n, t, u, v, o, v₀, rest, rfl, hr, hn, F, N, hd, hJ0, turn, fin⟩ := h₁
  refine wpAny_pyIter_range hr (by unfold Builtin.Range.small; first | (simp; omega) | exact small_one (by omega) (by omega) (by omega) (by omega)) ?_
  have e0 : Builtin.Range.rangeSize 0 (n : Int) 1 = (n : Int) := by
    have := rangeSize_nat 0 (n : Int)
    simpa using this
  rw [e0]
  have ltI : ∀ q ∈ (c, o) :: rest, q.1 < s₁.heap.objs.size := fun q hq => Heap.lt_size (N q hq).1
  have F0 := F.push (rangeObj 0 n)
  have N0 := News.push F N (rangeObj 0 n) rfl
  have J0 := hJ0 _ ltI
  revert F0 N0 J0 ltI
  show _ → Fr g L (s₁.heap.push (rangeObj 0 n)) M → _ → _ → codeAny _ _ (.forLoop _ (.ref s₁.heap.objs.size) _ _ _) _ { s₁ with heap := s₁.heap.push (rangeObj 0 n) }
  generalize s₁.heap.objs.size = I
  generalize s₁.heap.push (rangeObj 0 n) = H
  intro ltI F0 N0 J0
  have hcI : c ≠ I := Nat.ne_of_lt (ltI (c, o) (.head _))
  refine codeAny_forLoop (fun k s' => ∃ (i : Nat) (h₁ : Heap) (tk₁ : Tok) (oc : Obj) (v₁ : Option Value) (r₁ : List (Addr × Obj)), s' = { s₁ with heap := h₁, toks := tk₁ } ∧ Fr g L h₁ M ∧ News g L h₁ ((I, rangeObj i ((n : Int) - i)) :: (c, oc) :: r₁) ∧ oc.data = .cell v₁ ∧ J I i r₁ ∧ i ≤ n ∧ k = n - i) ?_ (n - 0) ⟨0, H, s₁.toks, o, v₀, rest, rfl, F0, by simpa using N0, hd, J0, Nat.zero_le _, rfl⟩
  rintro k s' ⟨i, h₁, tk₁, oc, v₁, r₁, rfl, F₁, N₁, hd₁, J₁, hi, rfl⟩
  obtain ⟨hoff, hoffc⟩ := hJ I i r₁ J₁
  have hI := N₁ _ (.head _)
  have offI : ∀ q ∈ (c, oc) :: r₁, q.1 ≠ I := List.forall_mem_cons.mpr ⟨hcI, hoff⟩
  by_cases hlt : i < n
  · refine wpAny_pyNext_range_item (x := (i : Int)) (left := (n : Int) - i) (step := 1) hI.1 (by omega) fun h₂ ho₂ hs₂ => ?_
    have F₂ := F₁.change hs₂ hI.2.1 hI.2.2
    have ho₂' : h₂.get? I = some (rangeObj ((i + 1 : Nat) : Int) ((n : Int) - ((i + 1 : Nat) : Int))) := by
      have e1 : ((i : Int) + 1) = ((i + 1 : Nat) : Int) := by omega
      have e2 : (n : Int) - i - 1 = (n : Int) - ((i + 1 : Nat) : Int) := by omega
      rw [← e1] at e2 ⊢
      rw [← e2]
      exact ho₂
    have N₂ : News g L h₂ ((I, rangeObj ((i + 1 : Nat) : Int) ((n : Int) - ((i + 1 : Nat) : Int))) :: (c, oc) :: r₁) := news_set (pre := []) N₁ (fun _ hq => nomatch hq) offI hs₂ ho₂'
    refine wpAny_assign_Name (storeX_C F₂ N₂ hc (UpdF.tail (Ne.symm hcI) (UpdF.head hoffc)) hd₁ (fun h₃ o₃ F₃ N₃ hd₃ => ?_) hk hx)
    have t := turn I i r₁ h₃ (tk₁ + 1) _ o₃ tk₁ hlt J₁ hcI ⟨_, rfl⟩ hd₃ F₃ N₃
    refine wpAny_passesOwn hE ?_
    show wpAny _ _ _ _ _ { s₁ with heap := h₃, toks := tk₁ + 1 }
    refine wpAny_mono t (fun f s₃ h₃ => ?_) fun _ _ z => z
    cases f with
    | ret v => exact h₃
    | brk => exact h₃
    | next =>
      obtain ⟨h', tk, r₂, rfl, F₄, N₄, J₄⟩ := h₃
      exact ⟨n - (i + 1), by omega, i + 1, h', tk, o₃, _, r₂, rfl, F₄, N₄, hd₃, J₄, hlt, rfl⟩
    | cont =>
      obtain ⟨h', tk, r₂, rfl, F₄, N₄, J₄⟩ := h₃
      exact ⟨n - (i + 1), by omega, i + 1, h', tk, o₃, _, r₂, rfl, F₄, N₄, hd₃, J₄, hlt, rfl⟩
  · have e : i = n := by omega
    subst e
    refine wpAny_pyNext_range_end hh hI.1 (by omega) fun h₂ hx₂ => wpAny_execs_nil ?_
    exact fin I r₁ h₂ tk₁ oc v₁ J₁ hd₁ ⟨F₁.ns.extBut hx₂ (Ne.symm hI.2.1), fun b o e => hx₂ b o (fun z => by rw [z, hI.2.2] at e; cases e) (F₁.keep b o e), F₁.above⟩ fun q hq => ⟨hx₂ _ _ (offI q hq) (N₁ q (.tail _ hq)).1, (N₁ q (.tail _ hq)).2⟩
structure DueJ (D c wc nc wA nA : Addr) (oW oN oWA oNA : Obj) (Ws Ms : List Int) (R0 : List (Addr × Obj)) (I : Addr) (i : Nat) (rest : List (Addr × Obj)) : Prop where
  i : ∃ (ps : List Value) (np : Nat) (R : List (Addr × Obj)), rest = (D, W.listOf ps.toArray np) :: (wc, oW) :: (nc, oN) :: (wA, oWA) :: (nA, oNA) :: R ∧ Rows R ps ((List.range i).map fun k : Nat => dueRow Ws Ms (k : Int)) ∧ (∀ q ∈ R0, q ∈ R) ∧ OffAll R I ∧ OffAll R c ∧ OffAll R D ∧
    Off D I ∧ Off wc I ∧ Off nc I ∧ Off wA I ∧ Off nA I
end
end

/- part RowsEq -/
section
open PySem PySem.W PySem.Calls PyProof.Rows PyProof.V PySem.Spec
set_option linter.unusedVariables false
abbrev rowD (l : List Int) : PyData := .list (l.map PyData.int)
theorem rows_reads {h₀ h : Heap} {L : Addr} {news : List (Addr × Obj)} (N : News h₀ L h news) : ∀ {vs : List Value} {ls : List (List Int)}, Rows news vs ls → ∃ as, ReadsAll h vs (ls.map rowD) as
  | _, _, .nil => ⟨_, .nil⟩
  | _, _, .cons hm i r => by
    obtain ⟨as, ra⟩ := rows_reads N r
    exact ⟨_, .cons (reads_newData (IsL.isList (N _ hm).1) (ke_carried i)) ra⟩
theorem rows_same : ∀ ls : List (List Int), PySem.Spec.sameAll (ls.map rowD) (ls.map rowD) = true
  | [] => rfl
  | l :: r => by
    simp only [List.map_cons, PySem.Spec.sameAll, rows_same r, Bool.and_true]
    rw [ke_same]; simp
theorem rows_canLay : ∀ ls : List (List Int), PyData.canLayAll0 (ls.map rowD) = true
  | [] => rfl
  | l :: r => by simp [PyData.canLayAll0, PyData.canLay0, ke_canLayAll0, rows_canLay r]
theorem rows_depth : ∀ ls : List (List Int), PyData.depthAll (ls.map rowD) ≤ 1
  | [] => by simp [PyData.depthAll]
  | l :: r => by have := rows_depth r; simp [PyData.depthAll, PyData.depth, ke_depthAll]; omega
theorem rows_shaped (ls : List (List Int)) : SeqAt.shaped (.list (ls.map rowD)) = true := by
  have := rows_depth ls
  simp [SeqAt.shaped, PyData.canLay0, PyData.depth, rows_canLay]
  omega
section
variable {prog : Program} {w : World} {A : Around} {E : Value → Shared → Prop} {s : Shared} {h₀ : Heap} {L a b : Addr} {news : List (Addr × Obj)} {Q : Value → Shared → Prop} {v1 v2 : List Value} {n1 n2 : Nat} {l1 l2 : List (List Int)}
theorem m_eqRows (N : News h₀ L s.heap news) (ha : (a, W.listOf v1.toArray n1) ∈ news) (hb : (b, W.listOf v2.toArray n2) ∈ news) (r1 : Rows news v1 l1) (r2 : Rows news v2 l2) (e : l1 = l2) (hu : A.units + 64 < cLine)
    (h : Q (.bool true) s) : wpAny (model prog w) A (compareOp .Eq (.ref a) (.ref b)) Q E s := by
  subst e
  obtain ⟨as, ra⟩ := rows_reads N r1
  obtain ⟨bs, rb⟩ := rows_reads N r2
  exact eq_dataH_same (.list (N _ ha).1 rfl rfl ra) (.list (N _ hb).1 rfl rfl rb) (rows_shaped _) (rows_shaped _) hu
    (SeqAt.noMix_of_shape (.list (.list .int)) rfl _ _ (list_map_has fun _ => list_map_has fun _ => rfl) (list_map_has fun _ => list_map_has fun _ => rfl)) (by rw [show PySem.Spec.same (.list (l1.map rowD)) (.list (l1.map rowD)) = true from by simp only [PySem.Spec.same]; exact rows_same l1]; exact h)
end
end

/- part LAW -/
section
open PySem PySem.W PySem.Calls PyProof.Rows
set_option linter.unusedVariables false
theorem off_cell {h₀ h : Heap} {L a c : Addr} {oa oc : Obj} {news : List (Addr × Obj)} {vs : Array Value} {n : Nat} {v : Option Value} (N : News h₀ L h news) (ha : (a, oa) ∈ news) (hda : oa.data = .seq vs n) (hc : (c, oc) ∈ news) (hdc : oc.data = .cell v) : a ≠ c := fun e => by
  have h1 := (N _ ha).1
  have h2 := (N _ hc).1
  simp only at h1 h2
  rw [e, h2] at h1
  rw [Option.some.inj h1, hda] at hdc
  cases hdc
theorem off_fld {h₀ h : Heap} {L a c : Addr} {oa oc : Obj} {news : List (Addr × Obj)} {vs ps : Array Value} {n : Nat} (N : News h₀ L h news) (ha : (a, oa) ∈ news) (hda : oa.data = .seq vs n) (hc : (c, oc) ∈ news) (hdc : oc.data = .fields ps) : a ≠ c := fun e => by
  have h1 := (N _ ha).1
  have h2 := (N _ hc).1
  simp only at h1 h2
  rw [e, h2] at h1
  rw [Option.some.inj h1, hda] at hdc
  cases hdc
theorem off_tab {h₀ h : Heap} {L a c : Addr} {oa oc : Obj} {news : List (Addr × Obj)} {ps : Array Value} {v : Option Value} (N : News h₀ L h news) (ha : (a, oa) ∈ news) (hda : oa.data = .fields ps) (hc : (c, oc) ∈ news) (hdc : oc.data = .cell v) : a ≠ c := fun e => by
  have h1 := (N _ ha).1
  have h2 := (N _ hc).1
  simp only at h1 h2
  rw [e, h2] at h1
  rw [Option.some.inj h1, hda] at hdc
  cases hdc
theorem news_front {h₀ h : Heap} {L : Addr} {q : Addr × Obj} {news : List (Addr × Obj)} (N : News h₀ L h news) (hm : q ∈ news) : News h₀ L h (q :: news) :=
  fun x hx => (List.mem_cons.mp hx).elim (fun e => e ▸ N q hm) fun hx => N x hx
theorem news_tab {h₀ h : Heap} {L P : Addr} {news : List (Addr × Obj)} {ps : Array Value} (N : News h₀ L h news) (hm : (P, tabObj ps) ∈ news) : ∃ ps, News h₀ L h ((P, tabObj ps) :: news) := ⟨ps, news_front N hm⟩
theorem news_swap {h₀ h : Heap} {L : Addr} {x y z u : Addr × Obj} {r : List (Addr × Obj)} (N : News h₀ L h (x :: y :: z :: u :: r)) : News h₀ L h (x :: y :: u :: z :: r) := fun q hq => N q (by
  simp only [List.mem_cons] at hq ⊢
  rcases hq with h | h | h | h | h <;> simp [h])
theorem redJ_start {Bd F5 : List Int} {R0 : List (Addr × Obj)} {m : Str → Option Value} {I a wA nA : Addr} {vw vn : List Value} {nw nn : Nat} (hm : m (Str.ofString "value") = some (.ref a)) (h1 : a ≠ I) (h2 : wA ≠ I) (h3 : nA ≠ I) (iw : IntsAre vw [0]) (im : IntsAre vn [0]) :
    RedJ Bd F5 R0 m I 0 m ((a, tupOf #[.ref wA, .ref nA]) :: (wA, W.listOf vw.toArray nw) :: (nA, W.listOf vn.toArray nn) :: R0) :=
  ⟨a, wA, nA, vw, vn, nw, nn, [0], [0], m (Str.ofString "element"), (by
    funext z
    by_cases e1 : z = (Str.ofString "value")
    · rw [if_pos e1, e1, hm]
    · rw [if_neg e1]
      by_cases e2 : z = (Str.ofString "element")
      · rw [if_pos e2, e2]
      · rw [if_neg e2]), rfl, h1, h2, h3, iw, im, .zero⟩
theorem redJ_frame {g h : Heap} {L : Addr} {M : Str → Option Value} {a r v : Value} {u : Option Value} (F : Fr g L h (fun y => if y = (Str.ofString "value") then some r else if y = (Str.ofString "element") then some v else (fun z => if z = (Str.ofString "value") then some a else if z = (Str.ofString "element") then u else M z) y)) :
    Fr g L h (fun z => if z = (Str.ofString "value") then some r else if z = (Str.ofString "element") then some v else M z) := by
  have e : (fun y => if y = (Str.ofString "value") then some r else if y = (Str.ofString "element") then some v else (fun z => if z = (Str.ofString "value") then some a else if z = (Str.ofString "element") then u else M z) y) = (fun z => if z = (Str.ofString "value") then some r else if z = (Str.ofString "element") then some v else M z) := by
    funext y
    by_cases e1 : y = (Str.ofString "value")
    · simp only [if_pos e1]
    · by_cases e2 : y = (Str.ofString "element")
      · simp only [if_neg e1, if_pos e2]
      · simp only [if_neg e1, if_neg e2]
  rw [← e]; exact F
local macro_rules | `(tactic| k_ne) => `(tactic| (refine neN ?_; (try dsimp only); first | exact off_cell (by assumption) (by k_mem) rfl (by k_mem) (by assumption) | exact off_fld (by assumption) (by k_mem) rfl (by k_mem) rfl | exact Ne.symm (off_cell (by assumption) (by k_mem) rfl (by k_mem) (by assumption))))
local macro_rules | `(tactic| walk_at "call builtin:iter") => `(tactic| (k_here; (with_reducible show wpAny _ _ (call (Value.builtin "iter") [Value.ref _]) _ _ _); k_dflt (refine' m_iter ?F ?N ?m ?_; (case F => k_asm); (case N => k_asm); (case m => k_mem)); intro I' h' F' N' l1; (have hIl := l1); (try k_lt l1)))
local macro_rules | `(tactic| walk_at "compareOp Is ref ref") => `(tactic| (k_here; (with_reducible show wpAny _ _ (compareOp CmpOp.Is (Value.ref _) (Value.ref 59)) _ _ _); k_dflt (refine' m_is ?F ?N ?m ?X ?o ?_; (case F => k_asm); (case N => k_asm); (case m => k_mem); (case X => k_asm); (case o => k_is))))
local macro_rules | `(tactic| walk_at "m_sub") => `(tactic| ((repeat (refine List.forall_mem_cons.mpr ⟨by k_mem, ?_⟩)); (intro q hq; repeat (first | exact hq | refine List.mem_cons_of_mem _ ?_))))
local macro_rules | `(tactic| walk_at "m_free") => `(tactic| exact ⟨⟨_, rfl, _, News.get (by assumption) (by k_mem), by assumption⟩, fun _ => rfl, rfl⟩)
local macro_rules | `(tactic| walk_at "m_lst") => `(tactic| exact IsL.isList (News.get (by assumption) (by k_mem)))
local macro_rules | `(tactic| k_ne) => `(tactic| (refine neN ?_; (try dsimp only); first | with_reducible exact Off.ne (by with_reducible assumption) | with_reducible exact Off.symm (by with_reducible assumption)))
local macro_rules | `(tactic| k_all) => `(tactic| (k_whole; assumption))
set_option maxRecDepth 100000 in
set_option maxHeartbeats 8000000 in
theorem law_walk : PySem.Challenge.rw_ij0004_01.Holds := hd (by
  k_with_none
  w_top off
  w_strict (
  k_go0
  (all_goals try k_fold)
  iterate 9 (first | (k_unfold; (try dsimp only)) | walk1 | (dsimp only; walk1))
  refine' drawn_call ?B ?F ?X ?N ?T rfl rfl ?l ?i ?n ?_
  case B => assumption
  case F => assumption
  case X => assumption
  case N => assumption
  case T => assumption
  case l => assumption
  case i => assumption
  case n => omega
  (rename Fr _ _ _ _ => F0)
  (rename News _ _ _ _ => N0)
  clear F0 N0
  intro t f b vf vb nf nb h1 tk1 F5 Bd h5 hW h75 F1 N1 if5 ib
  iterate 18 (first | (k_unfold; (try dsimp only)) | walk1 | (dsimp only; walk1))
  (rename Fr _ _ _ _ => F2)
  (rename News _ _ _ _ => N2)
  (rename _ = Data.cell (some (Value.ref b)) => hcb)
  rename_i w2 hw1 hw2 hw3 oB
  refine' row_call (f := f) (vf := vf) (nf := nf) (F5 := F5) ?B F2 ?X (news_front N2 (by k_mem)) ?T rfl rfl if5 ?n ?_
  case B => assumption
  case X => assumption
  case T => assumption
  case n => (obtain ⟨_, _, _, _, _, e5, _⟩ := h5; rw [e5]; rfl)
  intro r vr nr h2 tk2 F3 N3 ir
  clear F2 N2
  iterate 56 (first | (k_unfold; (try dsimp only)) | walk1 | (dsimp only; walk1))
  (rename Fr _ _ _ _ => F4)
  (rename News _ _ _ _ => N4)
  (rename ∀ q : Addr × Obj, q ∈ _ → q.1 < _ => ltI)
  rename_i Iv hz1 ltIx hz3 hz4
  have h5l : F5.length = 5 := (by obtain ⟨_, _, _, _, _, e5, _⟩ := h5; rw [e5]; rfl)
  refine' For_iter (items := vf.toArray) (RedJ Bd F5 _ _ Iv) F4 (news_swap N4) (redJ_start ?rm ?r1 ?r2 ?r3 ?r4 ?r5) ?rJ ?rh ?rx ?rp ?re ?rt ?rf ?rs ?rE
  case rm => rfl
  case r1 => exact Nat.ne_of_lt (ltI _ (.head _))
  case r2 => exact Nat.ne_of_lt (ltI _ (.tail _ (.tail _ (.head _))))
  case r3 => exact Nat.ne_of_lt (ltI _ (.tail _ (.head _)))
  case r4 => exact .cons _ _ .nil
  case r5 => exact .cons _ _ .nil
  case rh => exact rfl
  case rx => exact rfl
  case rp => exact rfl
  case rs => (intro _; exact rfl)
  case rE => passes_own
  case re => repeat (first | walk1)
  case rJ =>
    rintro i m1 q1 ⟨a, wA, nA, vw, vn, nw, nn, Ws, Ms, u, rfl, rfl, ha, hw, hn, iw, im, d⟩
    refine ⟨by k_mem, List.forall_mem_cons.mpr ⟨ha, List.forall_mem_cons.mpr ⟨hw, List.forall_mem_cons.mpr ⟨hn, ?_⟩⟩⟩⟩
    exact fun q hq => Nat.ne_of_lt (ltI q (.tail _ (.tail _ (.tail _ hq))))
  case rt =>
    rintro i v m1 q1 hh hk hv ⟨a, wA, nA, vw, vn, nw, nn, Ws, Ms, u, rfl, rfl, ha, hw, hn, iw, im, d⟩ F5' N5'
    have hv' : vf[i]? = some v := by simpa using hv
    have hi5 : i < F5.length := by rw [← if5.length]; exact (List.getElem?_eq_some_iff.mp hv').1
    obtain ⟨tv, htv⟩ := if5.get i (F5.getD i 0) (by simp [List.getD_eq_getElem?_getD, hi5])
    rw [htv] at hv'
    obtain rfl := Option.some.inj hv'
    have hl64 : Ws.length ≤ 64 := by
      rw [d.len.2]
      exact Nat.le_trans (Nat.pow_le_pow_right (by decide) (show i ≤ 6 by omega)) (by decide)
    iterate 24 (first | (k_unfold; (try dsimp only)) | walk1 | (dsimp only; walk1))
    (rename Fr _ _ _ _ => F6)
    (rename News _ _ _ _ => N6)
    refine' doubled_call (a := a) (wA := wA) (nA := nA) (bA := b) (vw := vw) (vn := vn) (vb := vb) (nw := nw) (nn := nn) (nb := nb) (Ws := Ws) (Ms := Ms) (Bd := Bd) ?B F6 ?X (news_front (news_front (news_front (news_front N6 ?m1) ?m2) ?m3) ?m4) ?T rfl rfl iw im ib d.len.1 hl64 ?_
    case B => assumption
    case X => assumption
    case T => assumption
    case m1 => k_mem
    case m2 => k_mem
    case m3 => k_mem
    case m4 => k_mem
    intro r2 wA' nA' vw' vn' n1 n2 h7 tk7 least hmex iw' im' F7 N7
    repeat (first | (k_unfold; (try dsimp only)) | walk1 | (dsimp only; walk1))
    (rename Fr _ _ _ _ => F8)
    (rename News _ _ _ _ => N8)
    refine ⟨_, _, _, _, rfl, redJ_frame F8, kst_newsOf N8 ?ss, ⟨r2, wA', nA', vw', vn', n1, n2, _, _, _, rfl, rfl, ?i1, ?i2, ?i3, iw', im', .succ d hmex⟩⟩
    case ss => walk_at "m_sub"
    case i1 => exact off_fld (oc := iterObj f (i + 1)) N8 (.head _) rfl (by k_mem) rfl
    case i2 => exact off_fld (oc := iterObj f (i + 1)) N8 (.tail _ (.head _)) rfl (by k_mem) rfl
    case i3 => exact off_fld (oc := iterObj f (i + 1)) N8 (.tail _ (.tail _ (.head _))) rfl (by k_mem) rfl
  intro m1 q1 hh hk hJ F5' N5'
  obtain ⟨a, wA, nA, vw, vn, nw, nn, Ws, Ms, u, rfl, rfl, ha, hw, hn, iw, im, d⟩ := hJ
  rw [show vf.toArray.size = 5 from by rw [List.size_toArray, if5.length, h5l]] at d
  clear ltI N4 F4
  iterate 21 (first | (k_unfold; (try dsimp only)) | walk1 | (dsimp only; walk1))
  (rename Fr _ _ _ _ => F9)
  (rename News _ _ _ _ => N9)
  obtain ⟨pt, N9t⟩ := news_tab (P := 93) N9 (by k_mem)
  clear N9
  (rename News _ _ _ _ => N9)
  (rename _ = Data.cell (some (Value.ref wA)) => hcw)
  (rename _ = Data.cell (some (Value.ref nA)) => hcn)
  (rename Shared => s1)
  rename_i hz7 hz8 oW hz9 oN tkz D hz5 ltD hz6
  have hl5 : Ws.length = 32 := d.len.2
  have h5F := h5
  have hm5 : Ms.length = 32 := d.len.1.trans hl5
  have oDw : Off D (s1.heap.objs.size + 1 + 1 + 1) := (by refine Nat.ne_of_gt ?_; omega)
  have owA : Off wA (s1.heap.objs.size + 1 + 1 + 1) := off_cell N9 (by k_mem) rfl (by k_mem) (by assumption)
  have onA : Off nA (s1.heap.objs.size + 1 + 1 + 1) := off_cell N9 (by k_mem) rfl (by k_mem) (by assumption)
  refine' For_cell (DueJ D (s1.heap.objs.size + 1 + 1 + 1) (s1.heap.objs.size + 1) (s1.heap.objs.size + 1 + 1) wA nA oW oN (W.listOf vw.toArray nw) (W.listOf vn.toArray nn) Ws Ms [(r, W.listOf vr.toArray nr), (b, W.listOf vb.toArray nb), (s1.heap.objs.size + 1 + 1 + 1 + 1, oB), (93, tabObj pt)]) F9 rfl rfl rfl rfl ?rJ ?re ?rs ?rE
  case rs => (intro _; exact rfl)
  case rE => passes_own
  case rJ =>
    rintro I i r ⟨ps, np, R, rfl, hrows, hsub, oI, oc, oD, h1, h2, h3, h4, h5⟩
    refine ⟨List.forall_mem_cons.mpr ⟨h1, List.forall_mem_cons.mpr ⟨h2, List.forall_mem_cons.mpr ⟨h3, List.forall_mem_cons.mpr ⟨h4, List.forall_mem_cons.mpr ⟨h5, oI⟩⟩⟩⟩⟩, List.forall_mem_cons.mpr ⟨oDw, List.forall_mem_cons.mpr ⟨?_, List.forall_mem_cons.mpr ⟨?_, List.forall_mem_cons.mpr ⟨owA, List.forall_mem_cons.mpr ⟨onA, oc⟩⟩⟩⟩⟩⟩
    · exact Nat.ne_of_lt (by omega)
    · exact Nat.ne_of_lt (by omega)
  repeat ((with_reducible show wpAny _ _ _ _ _ _); walk1)
  (rename Fr _ _ _ _ => F10)
  (rename News _ _ _ _ => N10)
  (rename IsRange _ _ _ _ _ _ _ _ => hR)
  (rename _ ∈ Ms => hMm)
  (rename ∀ a : Int, a ∈ Ms → a ≤ _ => hMx)
  obtain ⟨n, hn⟩ := Int.eq_ofNat_of_zero_le (d.bound _ hMm).1
  have hn32 : n < 32 := by have := (d.bound _ hMm).2; rw [hn] at this; omega
  rw [hn] at hR hMx hMm
  have oD2 : OffAll [(r, W.listOf vr.toArray nr), (b, W.listOf vb.toArray nb), (s1.heap.objs.size + 1 + 1 + 1 + 1, oB), (93, tabObj pt)] D := List.forall_mem_cons.mpr ⟨Nat.ne_of_lt (by omega), List.forall_mem_cons.mpr ⟨Nat.ne_of_lt (by omega), List.forall_mem_cons.mpr ⟨Nat.ne_of_lt (by omega), List.forall_mem_cons.mpr ⟨Nat.ne_of_lt (by omega), fun _ hq => nomatch hq⟩⟩⟩⟩
  have oC2 : OffAll [(r, W.listOf vr.toArray nr), (b, W.listOf vb.toArray nb), (s1.heap.objs.size + 1 + 1 + 1 + 1, oB), (93, tabObj pt)] (s1.heap.objs.size + 1 + 1 + 1) := List.forall_mem_cons.mpr ⟨off_cell N10 (by k_mem) rfl (by k_mem) (by assumption), List.forall_mem_cons.mpr ⟨off_cell N10 (by k_mem) rfl (by k_mem) (by assumption), List.forall_mem_cons.mpr ⟨Nat.ne_of_gt (by omega), List.forall_mem_cons.mpr ⟨off_tab N10 (.head _) rfl (by k_mem) (by assumption), fun _ hq => nomatch hq⟩⟩⟩⟩
  refine' ⟨_, n + 1, _, _, _, _, _, (D, W.listOf ([] : List Value).toArray 0) :: (s1.heap.objs.size + 1, oW) :: (s1.heap.objs.size + 1 + 1, oN) :: (wA, W.listOf vw.toArray nw) :: (nA, W.listOf vn.toArray nn) :: [(r, W.listOf vr.toArray nr), (b, W.listOf vb.toArray nb), (s1.heap.objs.size + 1 + 1 + 1 + 1, oB), (93, tabObj pt)], rfl, by (have e : ((n + 1 : Nat) : Int) = (n : Int) + 1 := by omega); rw [e]; exact hR, by omega, F10, kst_newsOf N10 ?csub, ?cd, fun I hI => ⟨[], 0, _, rfl, .nil, fun q hq => hq, fun q hq => Nat.ne_of_lt (hI q ?cm), oC2, oD2, Nat.ne_of_lt (hI (D, _) ?cn), Nat.ne_of_lt (hI (_, oW) ?co), Nat.ne_of_lt (hI (_, oN) ?cp), Nat.ne_of_lt (hI (wA, _) ?cq), Nat.ne_of_lt (hI (nA, _) ?cr)⟩, ?turn, ?fin⟩
  case csub => walk_at "m_sub"
  case cd => assumption
  case cm => repeat (first | exact hq | refine List.mem_cons_of_mem _ ?_)
  case cn => k_mem
  case co => k_mem
  case cp => k_mem
  case cq => k_mem
  case cr => k_mem
  case turn =>
    clear F10 N10
    rintro I i rest₁ h₁ tk₁ oI oc t hi ⟨ps, np, R, rfl, hrows, hsub, oRI, oRc, oRD, h1, h2, h3, h4, h5⟩ hcI ⟨fs, hfs⟩ hcd F11 N11
    have hps : ps.length ≤ 32 := by rw [hrows.length, List.length_map, List.length_range]; omega
    iterate 7 (first | (k_unfold; (try dsimp only)) | walk1 | (dsimp only; walk1))
    refine' m_ListComp (rangeKs 0 Ws.length) (fun j => Ms.getD j.toNat 0 == (i : Int)) (fun j => Ws.getD j.toNat 0) ?F ?N ?hh ?hclos ?hcell ?hkind ?hnames ?hx ?hs ?_
    (case F => k_asm); (case N => k_asm); (case hh => exact rfl); (case hclos => with_unfolding_all rfl); (case hcell => decide); (case hkind => exact rfl); (case hnames => decide); (case hx => exact rfl); (case hs => (intro _; exact rfl))
    repeat ((with_reducible show wpAny _ _ _ _ _ _); walk1)
    refine ⟨.inr ⟨_, Ws.length, _, _, _, rfl, by assumption, rfl, by omega⟩, (by rw [rangeKs_length]; omega), by assumption, by assumption, ?_, ?_⟩
    · refine reads_due (wA := wA) (nA := nA) (tx := t) (vw := vw) (vn := vn) rfl rfl rfl ?f1 ?f2 ?f3 ?l1 ?l2 iw im d.len.1 (by omega)
      case f1 => walk_at "m_free"
      case f2 => walk_at "m_free"
      case f3 => walk_at "m_free"
      case l1 => walk_at "m_lst"
      case l2 => walk_at "m_lst"
    intro D3 hzz tk4 ys n3 neD F12 N12 I4
    have oDD : Off D D3 := neD (D, _) (by k_mem)
    clear neD
    repeat (first | (k_unfold; (try dsimp only)) | walk1 | (dsimp only; walk1))
    (rename Fr _ _ _ _ => F13)
    (rename News _ _ _ _ => N13)
    rw [List.push_toArray] at N13
    have oI3 : Off D3 I := off_fld (oc := oI) N13 (.head _) rfl (by k_mem) hfs
    have oc3 : Off D3 (s1.heap.objs.size + 1 + 1 + 1) := off_cell (oc := oc) N13 (.head _) rfl (by k_mem) hcd
    refine ⟨_, _, _, rfl, F13, kst_newsOf N13 ?ssub, ⟨ps ++ [.ref D3], np + 1, (D3, W.listOf ys.toArray n3) :: R, rfl, ?rows, fun q hq => .tail _ (hsub q hq), List.forall_mem_cons.mpr ⟨oI3, oRI⟩, List.forall_mem_cons.mpr ⟨oc3, oRc⟩, List.forall_mem_cons.mpr ⟨oDD.symm, oRD⟩, h1, h2, h3, h4, h5⟩⟩
    case ssub => walk_at "m_sub"
    case rows =>
      rw [List.range_succ, List.map_append]
      exact (hrows.mono fun q hq => .tail _ hq).snoc (.head _) I4
  case fin =>
    clear F10 N10
    rintro I rest₁ h₁ tk₁ oc v₁ ⟨ps, np, R, rfl, hrows, hsub, oRI, oRc, oRD, h1, h2, h3, h4, h5⟩ hcd F11 N11
    have N12 := news_front (news_front (news_front N11 (q := (r, W.listOf vr.toArray nr)) ?n1) (q := (b, W.listOf vb.toArray nb)) ?n2) (q := (s1.heap.objs.size + 1 + 1 + 1 + 1, oB)) ?n3
    have N12 := news_front N12 (q := (93, tabObj pt)) ?n4
    case n1 => (have := hsub (r, W.listOf vr.toArray nr) (by k_mem)); repeat (first | exact this | refine List.mem_cons_of_mem _ ?_)
    case n2 => (have := hsub (b, W.listOf vb.toArray nb) (by k_mem)); repeat (first | exact this | refine List.mem_cons_of_mem _ ?_)
    case n3 => (have := hsub (s1.heap.objs.size + 1 + 1 + 1 + 1, oB) (by k_mem)); repeat (first | exact this | refine List.mem_cons_of_mem _ ?_)
    case n4 => (have := hsub (93, tabObj pt) (by k_mem)); repeat (first | exact this | refine List.mem_cons_of_mem _ ?_)
    clear N11
    have hWR := dbl_row h5F d
    iterate 7 (first | (k_unfold; (try dsimp only)) | walk1 | (dsimp only; walk1))
    rw [show decide (Ws = rowOf F5) = true from decide_eq_true hWR]
    iterate 13 (first | (k_unfold; (try dsimp only)) | walk1 | (dsimp only; walk1))
    (rename Fr _ _ _ _ => F14)
    (rename News _ _ _ _ => N14)
    refine' peels_call (rA := r) (bA := b) (vr := vr) (nr := nr) (vb := vb) (nb := nb) (Rs := rowOf F5) (Bd := Bd) ?pB F14 ?pX ?pT ?pX0 ?pT0 (news_front (news_front N14 ?p1) ?p2) rfl rfl ir ib ?p3 ?p4 ?_
    case pB => assumption
    case pX => assumption
    case pT => assumption
    case pX0 => assumption
    case pT0 => assumption
    case p1 => k_mem
    case p2 => k_mem
    case p3 => rw [← hWR]; omega
    case p4 => omega
    intro P ps2 np2 rows2 rest2 h8 tk8 hp hl8 hr8 hs8 F15 N15
    iterate 1 (first | (k_unfold; (try dsimp only)) | walk1 | (dsimp only; walk1))
    have mD := hs8 (D, W.listOf ps.toArray np) (by k_mem)
    have hrD : Rows ((P, W.listOf ps2.toArray np2) :: rest2) ps ((List.range (n + 1)).map fun k : Nat => dueRow Ws Ms (k : Int)) := hrows.mono fun q hq => .tail _ (hs8 q (by repeat (first | exact hq | refine List.mem_cons_of_mem _ ?_)))
    have N15 := news_front N15 (List.mem_cons_of_mem _ (hs8 (93, tabObj pt) (by k_mem)))
    refine m_eqRows (v1 := ps2) (v2 := ps) N15 (.tail _ (.head _)) (.tail _ (.tail _ mD)) (hr8.mono fun q hq => .tail _ (.tail _ hq)) (hrD.mono fun q hq => .tail _ hq) (peels_due h5F hW d hMm hMx hp) (by ke_room) ?_
    constructor
    · wrow_close
    · walk1))
end
end Mine
theorem PySem.Challenge.cw_ij0004_01_holds : PySem.Challenge.rw_ij0004_01.Holds := by
  exact Mine.law_walk
