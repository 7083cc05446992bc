/-
  THE PLAIN LAWS OF SEAT b6604306aD: no Go run in this text. 'pieces': a text cut at every dot; 'goodD', 'goodA': what a label of a domain, a run of a dot-atom must be; 'dm', 'da': the two one-pass automata; 'dm_pieces', 'da_pieces': they agree with the cut.
-/
import Derived.Lib.Split
import Derived.Lib.SplitLaws
namespace Go.Proofs.Qxb6604306aDoor.Plain
open Go

def isLD (x : Nat) : Bool := (decide (97 ≤ x) && decide (x ≤ 122)) || (decide (65 ≤ x) && decide (x ≤ 90)) || (decide (48 ≤ x) && decide (x ≤ 57))
def ldh (x : Nat) : Bool := isLD x || x == 45
def specials : List UInt8 := [33, 35, 36, 37, 38, 39, 42, 43, 45, 47, 61, 63, 94, 95, 96, 123, 124, 125, 126]
def atx (x : Nat) : Bool := isLD x || (decide (x < 128) && specials.contains x.toUInt8)

def pieces : List UInt8 → List (List UInt8)
  | [] => [[]]
  | c :: l => if c = 46 then [] :: pieces l else (c :: (pieces l).headD []) :: (pieces l).tail

theorem pieces_cons (l : List UInt8) : pieces l = (pieces l).headD [] :: (pieces l).tail := by
  cases l with
  | nil => rfl
  | cons c l => unfold pieces; split <;> rfl

theorem splitK_pieces : ∀ l : List UInt8, Lib.splitK [46] 0 (Lib.count l [46]) l = pieces l
  | [] => by
    have h : Lib.count [] [46] = 0 := Lib.count_miss rfl
    rw [h]; rfl
  | b :: l => by
    have ih := splitK_pieces l
    by_cases hb : b = 46
    · subst hb
      rw [Lib.count_cons_eq, Nat.add_comm]
      have hi : Lib.index (46 :: l) [46] = 0 := by unfold Lib.index; rw [if_pos (by simp [List.isPrefixOf])]
      unfold Lib.splitK
      rw [hi, if_neg (by decide)]
      unfold pieces
      rw [if_pos rfl]
      simpa using ih
    · rw [Lib.count_cons_ne b 46 l hb]
      unfold pieces
      rw [if_neg hb]
      have hi : Lib.index (b :: l) [46] = if Lib.index l [46] == -1 then -1 else Lib.index l [46] + 1 := by
        conv => lhs; unfold Lib.index
        rw [if_neg (by simp [List.isPrefixOf]; exact fun h => hb h.symm)]
      rcases Lib.index_spec l [46] with ⟨h1, _⟩ | ⟨i, h1, _, _, _⟩
      · have hc : Lib.count l [46] = 0 := Lib.count_miss h1
        rw [hc] at ih ⊢
        rw [← ih]; rfl
      · have hc : Lib.count l [46] = Lib.count (l.drop (i + 1)) [46] + 1 := by
          rw [Lib.count_hit (by simp) h1, Nat.add_comm]; rfl
        rw [hc] at ih ⊢
        have hne : ¬ ((i : Int) == -1) = true := fun e => by have := beq_iff_eq.1 e; omega
        have hne2 : ¬ (((i : Int) + 1) == -1) = true := fun e => by have := beq_iff_eq.1 e; omega
        unfold Lib.splitK at ih ⊢
        rw [h1, if_neg hne] at ih hi
        rw [hi, if_neg hne2, ← ih]
        simp [Int.toNat_natCast, show ((i : Int) + 1).toNat = i + 1 by omega]

/-! ### labels and runs -/
def goodD (p : List UInt8) : Bool := !p.isEmpty && decide (p.length ≤ 63) && (p.headD 0 != 45) && (p.getLastD 0 != 45) && p.all (fun b => ldh b.toNat)
def goodA (p : List UInt8) : Bool := !p.isEmpty && p.all (fun b => atx b.toNat)

/-- domainModel from a state on. -/
def dm : Nat → UInt8 → List UInt8 → Bool
  | run, last, [] => decide (0 < run) && (last != 45)
  | run, last, b :: l =>
    if b = 46 then (if run = 0 ∨ last = 45 then false else dm 0 b l)
    else if ldh b.toNat = true then (if run = 0 ∧ b = 45 then false else if 63 < run + 1 then false else dm (run + 1) b l)
    else false

/-- dotAtomModel from a state on. -/
def da : Bool → List UInt8 → Bool
  | ad, [] => !ad
  | ad, b :: l => if b = 46 then (if ad = true then false else da true l) else if atx b.toNat = true then da false l else false

theorem dm_pieces : ∀ (l pre : List UInt8) (last : UInt8), pre.length ≤ 63 → (pre ≠ [] → pre.headD 0 ≠ 45) → pre.all (fun b => ldh b.toNat) = true → (pre ≠ [] → pre.getLastD 0 = last) →
    dm pre.length last l = (goodD (pre ++ (pieces l).headD []) && (pieces l).tail.all goodD)
  | [], pre, last, h1, h2, h3, h4 => by
    simp only [dm, pieces, List.headD_cons, List.append_nil, List.tail_cons, List.all_nil, Bool.and_true]
    unfold goodD
    rw [h3]
    cases pre with
    | nil => simp
    | cons a t =>
      have e2 := h2 (by simp); have e4 := h4 (by simp)
      rw [e4]
      simp only [List.headD_cons] at e2 ⊢
      have h1' : decide ((a :: t).length ≤ 63) = true := decide_eq_true h1
      have e2' : (a != 45) = true := bne_iff_ne.2 e2
      rw [h1', e2']
      simp
  | b :: l, pre, last, h1, h2, h3, h4 => by
    by_cases hb : b = 46
    · subst hb
      have ih := dm_pieces l [] 46 (by simp) (by simp) (by simp) (by simp)
      simp only [List.length_nil, List.nil_append] at ih
      have ip : (pieces l).all goodD = (goodD ((pieces l).headD []) && (pieces l).tail.all goodD) := by
        conv => lhs; rw [pieces_cons l]
        simp
      have e0 := dm_pieces [] pre last h1 h2 h3 h4
      simp only [dm, pieces, List.headD_cons, List.append_nil, List.tail_cons, List.all_nil, Bool.and_true] at e0
      simp only [dm, pieces, if_true, List.headD_cons, List.append_nil, List.tail_cons]
      rw [← e0, ip, ← ih]
      by_cases hr : pre.length = 0
      · simp [hr]
      · have : 0 < pre.length := by omega
        by_cases hl : last = 45
        · simp [hl]
        · simp [hr, hl, this]
    · simp only [dm, pieces, if_neg hb, List.headD_cons, List.tail_cons]
      by_cases hld : ldh b.toNat = true
      · rw [if_pos hld]
        by_cases h0 : pre.length = 0 ∧ b = 45
        · rw [if_pos h0]
          obtain ⟨hp, rfl⟩ := h0
          have : pre = [] := List.length_eq_zero_iff.1 hp
          subst this
          simp [goodD]
        · rw [if_neg h0]
          by_cases hn : 63 < pre.length + 1
          · rw [if_pos hn]
            have : decide ((pre ++ b :: (pieces l).headD []).length ≤ 63) = false := decide_eq_false (by simp; omega)
            simp only [goodD, this, Bool.and_false, Bool.false_and]
          · rw [if_neg hn]
            have ih := dm_pieces l (pre ++ [b]) b (by simp; omega) (by
              intro _
              cases pre with
              | nil => simpa using h0
              | cons a t => simpa using h2 (by simp)) (by simp only [List.all_append, h3, List.all_cons, hld, List.all_nil, Bool.and_self]) (by intro _; simp)
            simp only [List.length_append, List.length_cons, List.length_nil, List.append_assoc, List.cons_append, List.nil_append] at ih
            exact ih
      · rw [if_neg hld]
        have : (pre ++ b :: (pieces l).headD []).all (fun b => ldh b.toNat) = false := by
          rw [List.all_append, List.all_cons]
          simp [Bool.eq_false_iff.2 hld]
        simp only [goodD, this, Bool.and_false, Bool.false_and]

theorem da_pieces : ∀ (l pre : List UInt8), pre.all (fun b => atx b.toNat) = true →
    da pre.isEmpty l = (goodA (pre ++ (pieces l).headD []) && (pieces l).tail.all goodA)
  | [], pre, h3 => by
    simp only [da, pieces, List.headD_cons, List.append_nil, List.tail_cons, List.all_nil, Bool.and_true]
    unfold goodA
    rw [h3]; simp
  | b :: l, pre, h3 => by
    by_cases hb : b = 46
    · subst hb
      have ih := da_pieces l [] (by simp)
      simp only [List.isEmpty_nil, List.nil_append] at ih
      have ip : (pieces l).all goodA = (goodA ((pieces l).headD []) && (pieces l).tail.all goodA) := by
        conv => lhs; rw [pieces_cons l]
        simp
      simp only [da, pieces, if_true, List.headD_cons, List.append_nil, List.tail_cons]
      rw [ip, ← ih]
      unfold goodA
      rw [h3]
      cases pre <;> simp
    · simp only [da, pieces, if_neg hb, List.headD_cons, List.tail_cons]
      by_cases hld : atx b.toNat = true
      · rw [if_pos hld]
        have ih := da_pieces l (pre ++ [b]) (by simp only [List.all_append, h3, List.all_cons, hld, List.all_nil, Bool.and_self])
        have he : (pre ++ [b]).isEmpty = false := by cases pre <;> rfl
        rw [he] at ih
        simp only [List.append_assoc, List.cons_append, List.nil_append] at ih
        exact ih
      · rw [if_neg hld]
        have : (pre ++ b :: (pieces l).headD []).all (fun b => atx b.toNat) = false := by
          rw [List.all_append, List.all_cons]
          simp [Bool.eq_false_iff.2 hld]
        simp only [goodA, this, Bool.and_false, Bool.false_and]

theorem domain_model (l : List UInt8) : (pieces l).all goodD = dm 0 46 l := by
  have h := dm_pieces l [] 46 (by simp) (by simp) (by simp) (by simp)
  simp only [List.length_nil, List.nil_append] at h
  rw [h]
  conv => lhs; rw [pieces_cons l]
  simp
theorem dotAtom_model (l : List UInt8) : (pieces l).all goodA = da true l := by
  have h := da_pieces l [] (by simp)
  simp only [List.isEmpty_nil, List.nil_append] at h
  rw [h]
  conv => lhs; rw [pieces_cons l]
  simp

theorem atx_of_ldh (x : UInt8) (h : ldh x.toNat = true) : atx x.toNat = true := by
  unfold ldh at h
  unfold atx
  rcases Bool.or_eq_true_iff.1 h with h | h
  · simp [h]
  · have e := beq_iff_eq.1 h
    rw [e]; decide
theorem goodA_of_goodD (p : List UInt8) (h : goodD p = true) : goodA p = true := by
  unfold goodD at h
  unfold goodA
  simp only [Bool.and_eq_true] at h ⊢
  refine ⟨h.1.1.1.1, ?_⟩
  rw [List.all_eq_true] at h ⊢
  exact fun b hb => atx_of_ldh b (h.2 b hb)
theorem dotAtom_of_domain (l : List UInt8) (h : (pieces l).all goodD = true) : (pieces l).all goodA = true := by
  rw [List.all_eq_true] at h ⊢
  exact fun p hp => goodA_of_goodD p (h p hp)

end Go.Proofs.Qxb6604306aDoor.Plain
