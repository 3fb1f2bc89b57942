import PyProof.Rows.All
import Wide.All
import OpenK.AllK
import Wide.FinOn
import PySem.Challenge.RW_tx0003_01
set_option Elab.async false

section
namespace Ov

/-- `b` signs at the head of the first `n` signs of `s` stand at their end, too; `b < n`. -/
def Bord (s : List Nat) (n b : Nat) : Prop := b < n ∧ s.take b <:+ s.take n

def MaxB (s : List Nat) (n t : Nat) : Prop := Bord s n t ∧ ∀ b, Bord s n b → b ≤ t

theorem MaxB.unique {s : List Nat} {n t t' : Nat} (h : MaxB s n t) (h' : MaxB s n t') : t = t' :=
  Nat.le_antisymm (h'.2 _ h.1) (h.2 _ h'.1)

theorem bord_zero {s : List Nat} {n : Nat} (h : 0 < n) : Bord s n 0 := ⟨h, by simp⟩

theorem concat_suffix_concat {α : Type} {l m : List α} {a c : α} : l ++ [a] <:+ m ++ [c] ↔ l <:+ m ∧ a = c := by
  rw [← List.reverse_prefix, List.reverse_append, List.reverse_append]
  simp only [List.reverse_cons, List.reverse_nil, List.nil_append, List.singleton_append]
  rw [List.cons_prefix_cons, List.reverse_prefix]
  exact and_comm

theorem take_succ_get {s : List Nat} {n : Nat} (h : n < s.length) : s.take (n + 1) = s.take n ++ [s[n]] := by
  rw [List.take_add_one, List.getElem?_eq_getElem h]; rfl

theorem bord_succ {s : List Nat} {n b : Nat} (hn : n < s.length) (hb : b < n) : Bord s (n + 1) (b + 1) ↔ Bord s n b ∧ s[b]'(Nat.lt_trans hb hn) = s[n] := by
  have hb' : b < s.length := Nat.lt_trans hb hn
  unfold Bord
  rw [take_succ_get hn, take_succ_get hb', concat_suffix_concat]
  constructor
  · intro ⟨_, h1, h2⟩; exact ⟨⟨hb, h1⟩, h2⟩
  · intro ⟨⟨_, h1⟩, h2⟩; exact ⟨by omega, h1, h2⟩

theorem bord_down {s : List Nat} {n t b : Nat} (hn : n ≤ s.length) (ht : Bord s n t) (hb : Bord s n b) (h : b < t) : Bord s t b := by
  refine ⟨h, List.suffix_of_suffix_length_le hb.2 ht.2 ?_⟩
  rw [List.length_take, List.length_take]
  omega

theorem bord_up {s : List Nat} {n t b : Nat} (ht : Bord s n t) (hb : Bord s t b) : Bord s n b :=
  ⟨Nat.lt_trans hb.1 ht.1, hb.2.trans ht.2⟩

/-- between the turns of the inner loop: `x` is a border ahead of place `n`, and no border of one sign more is longer than `x + 1` -/
def Cand (s : List Nat) (n x : Nat) : Prop := Bord s n x ∧ ∀ b, Bord s (n + 1) (b + 1) → b ≤ x

theorem cand_start {s : List Nat} {n t : Nat} (hn : n < s.length) (h : MaxB s n t) : Cand s n t := by
  refine ⟨h.1, fun b hb => ?_⟩
  have : b < n := by have := hb.1; omega
  exact h.2 b ((bord_succ hn this).mp hb).1

theorem cand_hit {s : List Nat} {n x : Nat} (hn : n < s.length) (h : Cand s n x) (e : s[x]'(Nat.lt_trans h.1.1 hn) = s[n]) : MaxB s (n + 1) (x + 1) := by
  refine ⟨(bord_succ hn h.1.1).mpr ⟨h.1, e⟩, fun b hb => ?_⟩
  cases b with
  | zero => omega
  | succ b => have := h.2 b hb; omega

theorem cand_zero {s : List Nat} {n : Nat} (hn : n < s.length) (h : Cand s n 0) (e : s[0]'(by omega) ≠ s[n]) : MaxB s (n + 1) 0 := by
  refine ⟨bord_zero (by omega), fun b hb => ?_⟩
  cases b with
  | zero => omega
  | succ b =>
    have h0 := h.2 b hb
    have : b = 0 := by omega
    subst this
    exact absurd ((bord_succ hn h.1.1).mp hb).2 e

theorem cand_next {s : List Nat} {n x t : Nat} (hn : n < s.length) (h : Cand s n x) (e : s[x]'(Nat.lt_trans h.1.1 hn) ≠ s[n]) (ht : MaxB s x t) : Cand s n t := by
  refine ⟨bord_up h.1 ht.1, fun b hb => ?_⟩
  have hbn : b < n := by have := hb.1; omega
  have h1 := (bord_succ hn hbn).mp hb
  have h2 := h.2 b hb
  rcases Nat.lt_or_ge b x with h3 | h3
  · exact ht.2 b (bord_down (Nat.le_of_lt hn) h.1 h1.1 h3)
  · have : b = x := by omega
    subst this
    exact absurd h1.2 e

theorem maxB_one (s : List Nat) : MaxB s 1 0 := ⟨bord_zero (by omega), fun b hb => by have := hb.1; omega⟩

/-! the octets and their signs -/
def lit : List Nat := [65, 66, 67, 68, 69, 70, 71, 72, 73, 74, 75, 76, 77, 78, 79, 80, 81, 82, 83, 84, 85, 86, 87, 88, 89, 90, 97, 98, 99, 100, 101, 102, 103, 104, 105, 106, 107, 108, 109, 110, 111, 112, 113, 114, 115, 116, 117, 118, 119, 120, 121, 122, 48, 49, 50, 51, 52, 53, 54, 55, 56, 57, 45, 33, 42, 43, 47, 32]
def wide (o : Nat) : Bool := !lit.contains o
def dig (d : Nat) : Nat := if d < 10 then 48 + d else 55 + d
def f1 (o : Nat) : Nat := dig (o / 16)
def f2 (o : Nat) : Nat := dig (o % 16)
def enc1 (o : Nat) : List Nat := if wide o then [61, f1 o, f2 o] else if o = 32 then [95] else [o]
def enc (r : List Nat) : List Nat := r.flatMap enc1
def w1 (o : Nat) : Nat := if wide o then 3 else 1
def long (r : List Nat) : Nat := (r.map w1).sum

@[simp] theorem enc_nil : enc [] = [] := rfl
@[simp] theorem enc_cons (o : Nat) (r : List Nat) : enc (o :: r) = enc1 o ++ enc r := rfl
theorem enc_append (r t : List Nat) : enc (r ++ t) = enc r ++ enc t := List.flatMap_append
theorem enc1_length (o : Nat) : (enc1 o).length = w1 o := by
  unfold enc1 w1; split <;> (try split) <;> rfl
@[simp] theorem long_nil : long [] = 0 := rfl
@[simp] theorem long_cons (o : Nat) (r : List Nat) : long (o :: r) = w1 o + long r := rfl
theorem enc_length (r : List Nat) : (enc r).length = long r := by
  induction r with
  | nil => rfl
  | cons o r ih => rw [enc_cons, List.length_append, enc1_length, ih, long_cons]
theorem w1_pos (o : Nat) : 0 < w1 o := by unfold w1; split <;> omega
theorem long_append (r t : List Nat) : long (r ++ t) = long r + long t := by
  rw [← enc_length, enc_append, List.length_append, enc_length, enc_length]

end Ov
end

section
namespace Ov

def Octets (r : List Nat) : Prop := ∀ o ∈ r, o < 256
theorem Octets.tail {o : Nat} {r : List Nat} (h : Octets (o :: r)) : Octets r := fun x hx => h x (.tail _ hx)
theorem Octets.head {o : Nat} {r : List Nat} (h : Octets (o :: r)) : o < 256 := h o (.head _)

theorem dig_lit : ∀ d, d < 16 → wide (dig d) = false ∧ dig d ≠ 32 ∧ dig d < 256 ∧ dig d ≠ 61 ∧ dig d ≠ 95 := by decide +kernel
theorem dig_inj : ∀ d, d < 16 → ∀ e, e < 16 → dig d = dig e → d = e := by decide +kernel
theorem wide61 : wide 61 = true := by decide +kernel
theorem wide95 : wide 95 = true := by decide +kernel
theorem wide32 : wide 32 = false := by decide +kernel
theorem f1_lt {o : Nat} (h : o < 256) : o / 16 < 16 := by omega
theorem f2_lt (o : Nat) : o % 16 < 16 := by omega
theorem enc1_f1 {o : Nat} (h : o < 256) : enc1 (f1 o) = [f1 o] := by
  obtain ⟨a, b, _⟩ := dig_lit _ (f1_lt h)
  unfold enc1 f1
  rw [a]; simp [b]
theorem enc1_f2 (o : Nat) : enc1 (f2 o) = [f2 o] := by
  obtain ⟨a, b, _⟩ := dig_lit _ (f2_lt o)
  unfold enc1 f2
  rw [a]; simp [b]
theorem enc1_wide {o : Nat} (h : wide o = true) : enc1 o = [61, f1 o, f2 o] := by unfold enc1; rw [if_pos h]
/-- a code of one sign -/
theorem enc1_narrow {o : Nat} (h : wide o = false) : ∃ c, enc1 o = [c] ∧ c ≠ 61 ∧ (∀ p, wide p = false → enc1 p = [c] → o = p) := by
  unfold enc1
  rw [if_neg (by rw [h]; exact Bool.false_ne_true)]
  by_cases h2 : o = 32
  · refine ⟨95, by rw [if_pos h2], by decide, fun p hp e => ?_⟩
    rw [if_neg (by rw [hp]; exact Bool.false_ne_true)] at e
    by_cases h3 : p = 32
    · rw [h2, h3]
    · rw [if_neg h3] at e
      have : p = 95 := by simpa using e
      subst this; rw [wide95] at hp; cases hp
  · refine ⟨o, by rw [if_neg h2], (fun e => by subst e; rw [wide61] at h; cases h), fun p hp e => ?_⟩
    rw [if_neg (by rw [hp]; exact Bool.false_ne_true)] at e
    by_cases h3 : p = 32
    · rw [if_pos h3] at e
      have : 95 = o := by simpa using e
      subst this; rw [wide95] at h; cases h
    · rw [if_neg h3] at e
      have : p = o := by simpa using e
      exact this.symm

theorem wide_inj {o p : Nat} (ho : o < 256) (hp : p < 256) (h1 : f1 o = f1 p) (h2 : f2 o = f2 p) : o = p := by
  have a := dig_inj _ (f1_lt ho) _ (f1_lt hp) h1
  have b := dig_inj _ (f2_lt o) _ (f2_lt p) h2
  omega

theorem enc_prefix {t : List Nat} : ∀ {r : List Nat} {v : List Nat}, Octets t → Octets r → (enc t ++ v <+: enc r ↔ ∃ r', r = t ++ r' ∧ v <+: enc r') := by
  induction t with
  | nil => intro r v _ _; simp
  | cons o t ih =>
    intro r v ht hr
    constructor
    · intro h
      cases r with
      | nil =>
        exfalso
        have := h.length_le
        rw [enc_cons, List.append_assoc, List.length_append, enc1_length] at this
        have := w1_pos o
        simp only [enc_nil, List.length_nil] at *
        omega
      | cons p r =>
        have key : o = p := by
          rw [enc_cons, enc_cons, List.append_assoc] at h
          cases ho : wide o with
          | true =>
            rw [enc1_wide ho] at h
            cases hp : wide p with
            | true =>
              rw [enc1_wide hp] at h
              simp only [List.cons_append, List.nil_append, List.cons_prefix_cons] at h
              exact wide_inj ht.head hr.head h.2.1 h.2.2.1
            | false =>
              obtain ⟨c, e, hc, _⟩ := enc1_narrow hp
              rw [e] at h
              simp only [List.cons_append, List.nil_append, List.cons_prefix_cons] at h
              exact absurd h.1.symm hc
          | false =>
            obtain ⟨c, e, hc, hu⟩ := enc1_narrow ho
            rw [e] at h
            cases hp : wide p with
            | true =>
              rw [enc1_wide hp] at h
              simp only [List.cons_append, List.nil_append, List.cons_prefix_cons] at h
              exact absurd h.1 hc
            | false =>
              obtain ⟨c', e', hc', _⟩ := enc1_narrow hp
              rw [e'] at h
              simp only [List.cons_append, List.nil_append, List.cons_prefix_cons] at h
              exact hu p hp (by rw [e', h.1])
        subst key
        rw [enc_cons, enc_cons, List.append_assoc, List.prefix_append_right_inj] at h
        obtain ⟨r', e, hv⟩ := (ih ht.tail hr.tail).mp h
        exact ⟨r', by rw [e]; rfl, hv⟩
    · rintro ⟨r', e, hv⟩
      subst e
      rw [enc_append, List.prefix_append_right_inj]
      exact hv

def tails : List Nat → List (List Nat)
  | [] => [[]]
  | o :: r => (o :: r) :: ((if wide o then [f1 o :: f2 o :: r, f2 o :: r] else []) ++ tails r)

theorem tails_octets : ∀ {r : List Nat}, Octets r → ∀ t ∈ tails r, Octets t := by
  intro r
  induction r with
  | nil => intro _ t ht; rw [tails, List.mem_singleton] at ht; subst ht; intro o ho; cases ho
  | cons o r ih =>
    intro h t ht
    rw [tails] at ht
    rcases List.mem_cons.mp ht with rfl | ht
    · exact h
    · rcases List.mem_append.mp ht with ht | ht
      · split at ht
        · have a : f1 o < 256 := (dig_lit _ (f1_lt h.head)).2.2.1
          have b : f2 o < 256 := (dig_lit _ (f2_lt o)).2.2.1
          rcases List.mem_cons.mp ht with rfl | ht
          · intro x hx
            rcases List.mem_cons.mp hx with rfl | hx
            · exact a
            · rcases List.mem_cons.mp hx with rfl | hx
              · exact b
              · exact h.tail x hx
          · rcases List.mem_cons.mp ht with rfl | ht
            · intro x hx
              rcases List.mem_cons.mp hx with rfl | hx
              · exact b
              · exact h.tail x hx
            · cases ht
        · cases ht
      · exact ih h.tail t ht

/-- the tails of a row tell all tails of its writing -/
theorem suffix_enc : ∀ {r : List Nat} {u : List Nat}, Octets r → (u <:+ enc r ↔ ∃ t ∈ tails r, enc t = u) := by
  intro r
  induction r with
  | nil => intro u _; simp [tails, eq_comm]
  | cons o r ih =>
    intro u h
    rw [tails]
    cases hw : wide o with
    | true =>
      rw [enc_cons, enc1_wide hw]
      simp only [List.cons_append, List.nil_append, List.suffix_cons_iff, if_true, List.mem_cons, exists_eq_or_imp, ih h.tail, enc_cons, enc1_f1 h.head, enc1_f2, enc1_wide hw]
      constructor
      · rintro (rfl | rfl | rfl | h1)
        · exact .inl rfl
        · exact .inr (.inl rfl)
        · exact .inr (.inr (.inl rfl))
        · exact .inr (.inr (.inr h1))
      · rintro (rfl | rfl | rfl | h1)
        · exact .inl rfl
        · exact .inr (.inl rfl)
        · exact .inr (.inr (.inl rfl))
        · exact .inr (.inr (.inr h1))
    | false =>
      obtain ⟨c, e, _, _⟩ := enc1_narrow hw
      rw [enc_cons, e]
      simp only [List.cons_append, List.nil_append, List.suffix_cons_iff, Bool.false_eq_true, if_false, List.mem_cons, exists_eq_or_imp, ih h.tail, enc_cons, e]
      constructor
      · rintro (rfl | h1)
        · exact .inl rfl
        · exact .inr h1
      · rintro (rfl | h1)
        · exact .inl rfl
        · exact .inr h1

theorem tails_head (r : List Nat) : ∃ l, tails r = r :: l := by
  cases r with
  | nil => exact ⟨[], rfl⟩
  | cons o r => exact ⟨_, rfl⟩

theorem tails_le : ∀ {r : List Nat}, Octets r → ∀ t ∈ tails r, long t ≤ long r := by
  intro r h t ht
  have := (suffix_enc (u := enc t) h).mpr ⟨t, ht, rfl⟩
  have := this.length_le
  rwa [enc_length, enc_length] at this

theorem tails_tail_lt : ∀ {r : List Nat}, Octets r → ∀ t ∈ (tails r).tail, long t < long r := by
  intro r h t ht
  cases r with
  | nil => cases ht
  | cons o r =>
    rw [tails, List.tail_cons] at ht
    rcases List.mem_append.mp ht with ht | ht
    · split at ht
      · rename_i hw
        have wo : w1 o = 3 := by unfold w1; rw [if_pos hw]
        have wa : w1 (f1 o) = 1 := by have := enc1_length (f1 o); rw [enc1_f1 h.head] at this; exact this.symm
        have wb : w1 (f2 o) = 1 := by have := enc1_length (f2 o); rw [enc1_f2] at this; exact this.symm
        simp only [List.mem_cons, List.not_mem_nil, or_false] at ht
        rcases ht with rfl | rfl
        · simp only [long_cons, wo, wa, wb]; omega
        · simp only [long_cons, wo, wb]; omega
      · cases ht
    · have := tails_le h.tail t ht
      have := w1_pos o
      rw [long_cons]; omega

/-- the tails of the first `k` octets, the whole left out, with which the row begins -/
def metAt (r : List Nat) (k : Nat) : List (List Nat) := ((tails (r.take k)).tail).filter fun t => r.take t.length == t

theorem mem_metAt {r : List Nat} {k : Nat} {t : List Nat} : t ∈ metAt r k ↔ t ∈ (tails (r.take k)).tail ∧ t <+: r := by
  unfold metAt
  rw [List.mem_filter, beq_iff_eq, List.prefix_iff_eq_take]
  exact and_congr_right fun _ => eq_comm

theorem octets_take {r : List Nat} (h : Octets r) (k : Nat) : Octets (r.take k) := fun x hx => h x (List.mem_of_mem_take hx)

theorem enc_take (r : List Nat) (k : Nat) : (enc r).take (long (r.take k)) = enc (r.take k) := by
  conv => lhs; rw [← List.take_append_drop k r, enc_append]
  simp only [List.take_append_drop]
  rw [← enc_length (r.take k), List.take_left]

theorem bord_enc {r : List Nat} (h : Octets r) (k : Nat) (b : Nat) : Bord (enc r) (long (r.take k)) b ↔ ∃ t ∈ metAt r k, long t = b := by
  have hle : long (r.take k) ≤ long r := by
    conv => rhs; rw [← List.take_append_drop k r, long_append]
    omega
  unfold Bord
  rw [enc_take, suffix_enc (octets_take h k)]
  constructor
  · rintro ⟨hb, t, ht, e⟩
    have hlb : long t = b := by
      rw [← enc_length, e, List.length_take, enc_length]; omega
    refine ⟨t, mem_metAt.mpr ⟨?_, ?_⟩, hlb⟩
    · obtain ⟨l, hl⟩ := tails_head (r.take k)
      rw [hl] at ht ⊢
      rcases List.mem_cons.mp ht with rfl | ht
      · omega
      · exact ht
    · have h1 : enc t ++ [] <+: enc r := by rw [List.append_nil, e]; exact List.take_prefix _ _
      obtain ⟨r', e', _⟩ := (enc_prefix (tails_octets (octets_take h k) t ht) h).mp h1
      exact ⟨r', e'.symm⟩
  · rintro ⟨t, ht, e⟩
    obtain ⟨h1, r', h2⟩ := mem_metAt.mp ht
    have h3 := tails_tail_lt (octets_take h k) t h1
    refine ⟨by omega, t, List.mem_of_mem_tail h1, ?_⟩
    rw [← e, ← h2, enc_append, ← enc_length t, List.take_left]

end Ov
end

section
namespace Ov

/-- the greatest of a list, from `a` on -/
def mx (a : Nat) (l : List Nat) : Nat := l.foldl max a
theorem mx_mem : ∀ (l : List Nat) (a : Nat), mx a l ∈ a :: l
  | [], a => .head _
  | b :: l, a => by
    have := mx_mem l (max a b)
    show mx (max a b) l ∈ _
    rcases List.mem_cons.mp this with h | h
    · rw [h]
      rcases Nat.le_total a b with q | q
      · rw [Nat.max_eq_right q]; exact .tail _ (.head _)
      · rw [Nat.max_eq_left q]; exact .head _
    · exact .tail _ (.tail _ h)
theorem le_mx : ∀ (l : List Nat) (a : Nat), ∀ x ∈ a :: l, x ≤ mx a l
  | [], a => by intro x hx; rw [List.mem_singleton] at hx; rw [hx]; exact Nat.le_refl _
  | b :: l, a => by
    intro x hx
    show x ≤ mx (max a b) l
    have h0 := le_mx l (max a b) (max a b) (.head _)
    rcases List.mem_cons.mp hx with rfl | hx
    · omega
    · rcases List.mem_cons.mp hx with rfl | hx
      · omega
      · exact le_mx l (max a b) x (.tail _ hx)

def torn (r : List Nat) (k : Nat) : List (List Nat) := (metAt r k).filter fun t => wide (r.getD t.length 0)
def alike (r : List Nat) (k : Nat) : List (List Nat) := (torn r k).filter fun t => f1 (r.getD t.length 0) == f1 (r.getD k 0)
def lone (r : List Nat) (k : Nat) : Nat := if r.getD 0 0 = f1 (r.getD k 0) then 1 else 0

def dueAt (r : List Nat) (k : Nat) : List Nat :=
  (if wide (r.getD k 0) then [mx 0 ((torn r k).map fun t => long t + 1), mx (lone r k) ((alike r k).map fun t => long t + 2)] else []) ++
    [mx 0 ((metAt r (k + 1)).map long)]
def due (r : List Nat) : List Nat := (List.range r.length).flatMap (dueAt r)

theorem getD_of_lt {r : List Nat} {k : Nat} (h : k < r.length) : r.getD k 0 = r[k] := by
  rw [List.getD_eq_getElem?_getD, List.getElem?_eq_getElem h]; rfl

theorem nil_mem_tails : ∀ r : List Nat, [] ∈ tails r
  | [] => .head _
  | o :: r => .tail _ (List.mem_append_right _ (nil_mem_tails r))

theorem nil_mem_metAt {r : List Nat} {k : Nat} (hk : 0 < k) (h : k ≤ r.length) : [] ∈ metAt r k := by
  refine mem_metAt.mpr ⟨?_, List.nil_prefix⟩
  cases r with
  | nil => simp at h; omega
  | cons o r =>
    obtain ⟨k, rfl⟩ : ∃ j, k = j + 1 := ⟨k - 1, by omega⟩
    rw [List.take_succ_cons, tails, List.tail_cons]
    exact List.mem_append_right _ (nil_mem_tails _)

/-- a tail that is met is shorter than what was read -/
theorem metAt_len {r : List Nat} (h : Octets r) {k : Nat} {t : List Nat} (ht : t ∈ metAt r k) : t.length < k ∧ t.length < r.length := by
  obtain ⟨h1, h2⟩ := mem_metAt.mp ht
  have h3 := tails_tail_lt (octets_take h k) t h1
  have h4 := h2.length_le
  have : t.length < k := by
    rcases Nat.lt_or_ge t.length k with q | q
    · exact q
    · exfalso
      obtain ⟨r', rfl⟩ := h2
      rw [List.take_append_of_le_length q] at h3
      have : long t = long (t.take k) + long (t.drop k) := by rw [← long_append, List.take_append_drop]
      omega
  refine ⟨this, ?_⟩
  rcases Nat.lt_or_ge t.length r.length with q | q
  · exact q
  · exfalso
    have e : t = r := h2.eq_of_length_le q
    subst e
    have : t.take k = t := List.take_of_length_le (by omega)
    rw [this] at h3
    omega

theorem long_take_succ {r : List Nat} {k : Nat} (h : k < r.length) : long (r.take (k + 1)) = long (r.take k) + w1 r[k] := by
  rw [take_succ_get h, long_append, long_cons, long_nil]; omega
theorem long_take_le {r : List Nat} {k : Nat} : long (r.take k) ≤ long r := by
  conv => rhs; rw [← List.take_append_drop k r, long_append]
  omega

/-- the sign of the writing at an octet's start, and behind it -/
theorem enc_at {r : List Nat} {k : Nat} (h : k < r.length) (j : Nat) (hj : j < w1 r[k]) : (enc r)[long (r.take k) + j]? = (enc1 r[k])[j]? := by
  have e : r = r.take k ++ r[k] :: r.drop (k + 1) := by
    rw [List.getElem_cons_drop, List.take_append_drop]
  have g : ∀ p q : List Nat, (enc (p ++ r[k] :: q))[long p + j]? = (enc1 r[k])[j]? := fun p q => by
    rw [enc_append, ← enc_length p, List.getElem?_append_right (by omega), Nat.add_sub_cancel_left, enc_cons, List.getElem?_append_left (by rw [enc1_length]; exact hj)]
  have := g (r.take k) (r.drop (k + 1))
  rwa [← e] at this

theorem sign_wide {r : List Nat} {k : Nat} (h : k < r.length) (hs : long (r.take k) < (enc r).length) : (enc r)[long (r.take k)] = 61 ↔ wide r[k] = true := by
  have e := enc_at h 0 (w1_pos _)
  rw [Nat.add_zero, List.getElem?_eq_getElem hs] at e
  cases hw : wide r[k] with
  | true => rw [enc1_wide hw] at e; simp at e; simp [e]
  | false =>
    obtain ⟨c, e', hc, _⟩ := enc1_narrow hw
    rw [e'] at e; simp at e; rw [e]; simp [hc]

theorem prefix_take {t r : List Nat} (h : t <+: r) : r.take t.length = t := (List.prefix_iff_eq_take.mp h).symm

theorem max_mx {s : List Nat} {n a : Nat} {l : List Nat} (h : ∀ b, Bord s n b ↔ b ∈ a :: l ∨ b = 0) (_ha : Bord s n a) : MaxB s n (mx a l) := by
  constructor
  · exact (h _).mpr (.inl (mx_mem l a))
  · intro b hb
    rcases (h b).mp hb with q | q
    · exact le_mx l a b q
    · omega

theorem entry_end {r : List Nat} (h : Octets r) {k : Nat} (hk : k < r.length) : MaxB (enc r) (long (r.take (k + 1))) (mx 0 ((metAt r (k + 1)).map long)) := by
  have hpos : 0 < long (r.take (k + 1)) := by rw [long_take_succ hk]; have := w1_pos r[k]; omega
  refine max_mx (fun b => ?_) (bord_zero hpos)
  rw [bord_enc h, List.mem_cons, List.mem_map]
  constructor
  · rintro ⟨t, a, b⟩; exact .inl (.inr ⟨t, a, b⟩)
  · rintro ((rfl | q) | rfl)
    · exact ⟨[], nil_mem_metAt (by omega) (by omega), rfl⟩
    · exact q
    · exact ⟨[], nil_mem_metAt (by omega) (by omega), rfl⟩

/-- borders that end behind an escape's = -/
theorem bord_torn {r : List Nat} (h : Octets r) {k : Nat} (hk : k < r.length) (hw : wide r[k] = true) (b : Nat) :
    Bord (enc r) (long (r.take k) + 1) (b + 1) ↔ ∃ t ∈ torn r k, long t = b := by
  have hlt : long (r.take k) < (enc r).length := by
    have := long_take_le (r := r) (k := k + 1)
    rw [long_take_succ hk] at this
    have := w1_pos r[k]
    rw [enc_length]; omega
  have e61 := (sign_wide hk hlt).mpr hw
  constructor
  · intro hb
    have hb1 : b < long (r.take k) := by have := hb.1; omega
    obtain ⟨h1, h2⟩ := (bord_succ hlt hb1).mp hb
    obtain ⟨t, ht, e⟩ := (bord_enc h k b).mp h1
    refine ⟨t, ?_, e⟩
    unfold torn
    rw [List.mem_filter]
    refine ⟨ht, ?_⟩
    have hl := (metAt_len h ht).2
    rw [getD_of_lt hl]
    have hp := prefix_take (mem_metAt.mp ht).2
    have hq : long (r.take t.length) < (enc r).length := by rw [hp, e]; omega
    refine (sign_wide hl hq).mp ?_
    rw [← e61, ← h2]
    congr 1
    rw [hp, e]
  · rintro ⟨t, ht, e⟩
    unfold torn at ht
    rw [List.mem_filter] at ht
    obtain ⟨ht, hwt⟩ := ht
    have h1 := (bord_enc h k b).mpr ⟨t, ht, e⟩
    have hl := (metAt_len h ht).2
    rw [getD_of_lt hl] at hwt
    have hp := prefix_take (mem_metAt.mp ht).2
    refine (bord_succ hlt h1.1).mpr ⟨h1, ?_⟩
    have hb1 := h1.1
    have hq : long (r.take t.length) < (enc r).length := by rw [hp, e]; omega
    have := (sign_wide hl hq).mpr hwt
    rw [e61, ← this]
    congr 1
    rw [hp, e]

theorem entry_torn {r : List Nat} (h : Octets r) {k : Nat} (hk : k < r.length) (hw : wide r[k] = true) :
    MaxB (enc r) (long (r.take k) + 1) (mx 0 ((torn r k).map fun t => long t + 1)) := by
  refine max_mx (fun b => ?_) (bord_zero (by omega))
  cases b with
  | zero => exact ⟨fun _ => .inr rfl, fun _ => bord_zero (by omega)⟩
  | succ b =>
    rw [bord_torn h hk hw, List.mem_cons, List.mem_map]
    constructor
    · rintro ⟨t, a, e⟩; exact .inl (.inr ⟨t, a, by rw [e]⟩)
    · rintro ((q | ⟨t, a, e⟩) | q)
      · omega
      · exact ⟨t, a, by omega⟩
      · omega

theorem sign_first {r : List Nat} (h : Octets r) {k : Nat} (hk : k < r.length) (hw : wide r[k] = true) (hs : long (r.take k) + 1 < (enc r).length) : (enc r)[long (r.take k) + 1] = f1 r[k] := by
  have e := enc_at hk 1 (by unfold w1; rw [if_pos hw]; omega)
  rw [List.getElem?_eq_getElem hs, enc1_wide hw] at e
  simpa using e

theorem entry_alike {r : List Nat} (h : Octets r) {k : Nat} (hk : k < r.length) (hw : wide r[k] = true) :
    MaxB (enc r) (long (r.take k) + 2) (mx (lone r k) ((alike r k).map fun t => long t + 2)) := by
  have w3 : w1 r[k] = 3 := by unfold w1; rw [if_pos hw]
  have hlen := long_take_le (r := r) (k := k + 1)
  rw [long_take_succ hk, w3] at hlen
  have hlt : long (r.take k) + 1 < (enc r).length := by rw [enc_length]; omega
  have ef := sign_first h hk hw hlt
  have h0 : 0 < r.length := by omega
  have hfig := dig_lit _ (f1_lt (h r[k] (List.getElem_mem hk)))
  change wide (f1 r[k]) = false ∧ f1 r[k] ≠ 32 ∧ f1 r[k] < 256 ∧ f1 r[k] ≠ 61 ∧ f1 r[k] ≠ 95 at hfig
  -- a border of one sign
  have one : Bord (enc r) (long (r.take k) + 2) 1 ↔ r.getD 0 0 = f1 (r.getD k 0) := by
    rw [getD_of_lt h0, getD_of_lt hk]
    have b0 : Bord (enc r) (long (r.take k) + 1) 0 := bord_zero (by omega)
    rw [show (1 : Nat) = 0 + 1 from rfl, show long (r.take k) + 2 = (long (r.take k) + 1) + 1 from rfl, bord_succ hlt b0.1, ef]
    have ez := enc_at h0 0 (w1_pos _)
    rw [List.take_zero, long_nil, Nat.add_zero, List.getElem?_eq_getElem (by omega)] at ez
    constructor
    · rintro ⟨_, e⟩
      rw [e] at ez
      cases h1 : wide r[0] with
      | true => rw [enc1_wide h1] at ez; simp at ez; exact absurd ez hfig.2.2.2.1
      | false =>
        unfold enc1 at ez
        rw [if_neg (by rw [h1]; exact Bool.false_ne_true)] at ez
        split at ez
        · simp at ez; exact absurd ez hfig.2.2.2.2
        · simp at ez; exact ez.symm
    · intro e
      refine ⟨b0, ?_⟩
      rw [e] at ez
      unfold enc1 at ez
      rw [if_neg (by rw [hfig.1]; exact Bool.false_ne_true), if_neg hfig.2.1] at ez
      simpa using ez
  have two : ∀ b, Bord (enc r) (long (r.take k) + 2) (b + 2) ↔ ∃ t ∈ alike r k, long t = b := by
    intro b
    constructor
    · intro hb
      have hb1 : b + 1 < long (r.take k) + 1 := by have := hb.1; omega
      obtain ⟨h1, h2⟩ := (bord_succ hlt hb1).mp hb
      obtain ⟨t, ht, e⟩ := (bord_torn h hk hw b).mp h1
      refine ⟨t, ?_, e⟩
      unfold alike
      rw [List.mem_filter]
      refine ⟨ht, ?_⟩
      rw [torn, List.mem_filter] at ht
      have hl := (metAt_len h ht.1).2
      have hwt := ht.2
      rw [getD_of_lt hl] at hwt
      have hp := prefix_take (mem_metAt.mp ht.1).2
      rw [getD_of_lt hl, getD_of_lt hk, beq_iff_eq]
      have hq : long (r.take t.length) + 1 < (enc r).length := by rw [hp, e]; omega
      rw [← sign_first h hl hwt hq, ← ef, ← h2]
      congr 1
      rw [hp, e]
    · rintro ⟨t, ht, e⟩
      rw [alike, List.mem_filter] at ht
      obtain ⟨ht, hf⟩ := ht
      have h1 := (bord_torn h hk hw b).mpr ⟨t, ht, e⟩
      rw [torn, List.mem_filter] at ht
      have hl := (metAt_len h ht.1).2
      have hwt := ht.2
      rw [getD_of_lt hl] at hwt
      have hp := prefix_take (mem_metAt.mp ht.1).2
      rw [getD_of_lt hl, getD_of_lt hk, beq_iff_eq] at hf
      have hb1 := h1.1
      refine (bord_succ hlt hb1).mpr ⟨h1, ?_⟩
      have hq : long (r.take t.length) + 1 < (enc r).length := by rw [hp, e]; omega
      rw [ef, ← hf, ← sign_first h hl hwt hq]
      congr 1
      rw [hp, e]
  have hl : lone r k = 0 ∨ (lone r k = 1 ∧ r.getD 0 0 = f1 (r.getD k 0)) := by
    unfold lone; split
    · rename_i q; exact .inr ⟨rfl, q⟩
    · exact .inl rfl
  refine max_mx (fun b => ?_) ?_
  · match b with
    | 0 => exact ⟨fun _ => .inr rfl, fun _ => bord_zero (by omega)⟩
    | 1 =>
      rw [one]
      constructor
      · intro q; refine .inl ?_; unfold lone; rw [if_pos q]; exact .head _
      · rintro (q | q)
        · rcases List.mem_cons.mp q with q | q
          · rcases hl with z | z
            · omega
            · exact z.2
          · obtain ⟨t, _, e⟩ := List.mem_map.mp q; omega
        · omega
    | b + 2 =>
      rw [two, List.mem_cons, List.mem_map]
      constructor
      · rintro ⟨t, a, e⟩; exact .inl (.inr ⟨t, a, by rw [e]⟩)
      · rintro ((q | ⟨t, a, e⟩) | q)
        · rcases hl with z | z <;> omega
        · exact ⟨t, a, by omega⟩
        · omega
  · rcases hl with z | z
    · rw [z]; exact bord_zero (by omega)
    · rw [z.1]; exact one.mpr z.2

/-- a table of longest borders -/
def Tab (s d : List Nat) : Prop := ∀ i (h : i < d.length), MaxB s (i + 1) d[i]
theorem Tab.unique {s d d' : List Nat} (h : Tab s d) (h' : Tab s d') (hl : d.length = d'.length) : d = d' :=
  List.ext_getElem hl fun i h1 h2 => (h i h1).unique (h' i h2)

theorem dueAt_length {r : List Nat} {k : Nat} (hk : k < r.length) : (dueAt r k).length = w1 r[k] := by
  unfold dueAt w1; rw [getD_of_lt hk]; split <;> rfl

theorem due_tab {r : List Nat} (h : Octets r) : ∀ n, n ≤ r.length → ((List.range n).flatMap (dueAt r)).length = long (r.take n) ∧ Tab (enc r) ((List.range n).flatMap (dueAt r))
  | 0, _ => ⟨rfl, fun i hi => by simp at hi⟩
  | n + 1, hn => by
    obtain ⟨a, b⟩ := due_tab h n (by omega)
    have hk : n < r.length := hn
    rw [List.range_succ, List.flatMap_append, List.flatMap_cons, List.flatMap_nil, List.append_nil]
    refine ⟨by rw [List.length_append, a, dueAt_length hk, long_take_succ hk], fun i hi => ?_⟩
    rw [List.getElem_append]
    split
    · rename_i hi'; exact b i hi'
    · rename_i hi'
      rw [List.length_append, dueAt_length hk] at hi
      obtain ⟨j, rfl⟩ : ∃ j, i = ((List.range n).flatMap (dueAt r)).length + j := ⟨i - ((List.range n).flatMap (dueAt r)).length, by omega⟩
      have hj : j < w1 r[n] := by omega
      rw [show ∀ h', (dueAt r n)[((List.range n).flatMap (dueAt r)).length + j - ((List.range n).flatMap (dueAt r)).length]'h' = (dueAt r n)[j]'(by rw [dueAt_length hk]; exact hj) from fun h' => by congr 1; omega, a]
      have hend := entry_end h hk
      rw [long_take_succ hk] at hend
      cases hw : wide r[n] with
      | false =>
        have w : w1 r[n] = 1 := by unfold w1; rw [if_neg (by rw [hw]; exact Bool.false_ne_true)]
        have : j = 0 := by omega
        subst this
        have e : dueAt r n = [mx 0 ((metAt r (n + 1)).map long)] := by unfold dueAt; rw [getD_of_lt hk, if_neg (by rw [hw]; exact Bool.false_ne_true)]; rfl
        simp only [e, List.getElem_cons_zero]
        rw [w] at hend
        exact hend
      | true =>
        have w : w1 r[n] = 3 := by unfold w1; rw [if_pos hw]
        have e : dueAt r n = [mx 0 ((torn r n).map fun t => long t + 1), mx (lone r n) ((alike r n).map fun t => long t + 2), mx 0 ((metAt r (n + 1)).map long)] := by unfold dueAt; rw [getD_of_lt hk, if_pos hw]; rfl
        simp only [e]
        rw [w] at hend hj
        match j, hj with
        | 0, _ => exact entry_torn h hk hw
        | 1, _ => exact entry_alike h hk hw
        | 2, _ => exact hend

theorem due_is {r d : List Nat} (h : Octets r) (hd : Tab (enc r) d) (hl : d.length = (enc r).length) : d = due r := by
  obtain ⟨a, b⟩ := due_tab h r.length (Nat.le_refl _)
  refine hd.unique b ?_
  show d.length = ((List.range r.length).flatMap (dueAt r)).length
  rw [hl, a, List.take_length, enc_length]

end Ov
end

section
open PySem PySem.W PyProof.Rows PySem.Calls
namespace Ov

/-! the text's defs, by their places -/
def stAt (n : Nat) : Stmt := PySem.Challenge.pw_tx0003_01.main.body.getD n (.Pass default)
def fBody : Stmt → List Stmt
  | .FunctionDef _ _ b _ _ _ _ _ _ _ => b
  | _ => []
def fScope : Stmt → Scope
  | .FunctionDef _ _ _ _ _ _ sc _ _ _ => sc
  | _ => default
def fArgs : Stmt → Arguments
  | .FunctionDef _ a _ _ _ _ _ _ _ _ => a
  | _ => default
def fName : Stmt → Str
  | .FunctionDef n _ _ _ _ _ _ _ _ _ => n
  | _ => Str.empty

def HLe (h h' : Heap) : Prop := ∀ b o, h.get? b = some o → h'.get? b = some o
theorem HLe.rfl {h : Heap} : HLe h h := fun _ _ e => e
theorem HLe.trans {a b c : Heap} (x : HLe a b) (y : HLe b c) : HLe a c := fun p o e => y p o (x p o e)

theorem kRefl {s : Shared} : Keeps s s := ⟨s.heap, s.toks, rfl, fun _ _ e => e⟩
theorem kTrans {a b c : Shared} (x : Keeps a b) (y : Keeps b c) : Keeps a c := by
  obtain ⟨h, t, rfl, k⟩ := x
  obtain ⟨h', t', rfl, k'⟩ := y
  exact ⟨h', t', rfl, fun p o e => k' p o (k p o e)⟩
theorem kHeap {a b : Shared} (x : Keeps a b) : HLe a.heap b.heap := by
  obtain ⟨h, t, rfl, k⟩ := x; exact k
theorem kTok {s : Shared} {t : Nat} : Keeps s { s with toks := t } := ⟨s.heap, t, rfl, fun _ _ e => e⟩
theorem kPush {s : Shared} {o : Obj} {t : Nat} : Keeps s { s with heap := s.heap.push o, toks := t } := ⟨_, t, rfl, fun _ _ e => Heap.get?_push_of_some _ e⟩
theorem kSt {s : Shared} {h : Heap} {t : Nat} (k : ∀ b o, s.heap.get? b = some o → h.get? b = some o) : Keeps s { s with heap := h, toks := t } := ⟨h, t, rfl, k⟩

theorem freshSize (h : Heap) : h.get? h.objs.size = none := by
  cases e : h.get? h.objs.size with
  | none => rfl
  | some o => exact absurd (Heap.lt_size e) (Nat.lt_irrefl _)

/-! room -/
structure Room (A : Around) (n : Nat) : Prop where
  hh : A.handled = none
  dep : A.depth + n < recursionLimit
  un : A.units + 8 * n + 100 < cLine
theorem Room.deeper {A : Around} {n : Nat} {env : Env} (r : Room A (n + 1)) : Room (A.deeper env) n :=
  ⟨r.hh, by have := r.dep; show A.depth + 1 + n < _; omega, by have := r.un; show A.units + 3 + 8 * n + 100 < _; omega⟩
theorem Room.lt {A : Around} {n : Nat} (r : Room A n) : A.depth < recursionLimit := by have := r.dep; omega
theorem Room.le {A : Around} {n m : Nat} (r : Room A n) (h : m ≤ n) : Room A m := ⟨r.hh, by have := r.dep; omega, by have := r.un; omega⟩

/-- a mutable list of the frame's: one of the plainest kind (`true`), or any -/
def VHolds (h : Heap) : Addr × Bool × Array Value → Prop
  | (a, true, vs) => h.PlainList a vs
  | (a, false, vs) => h.IsList a vs
theorem VHolds.at {h h' : Heap} : ∀ {p : Addr × Bool × Array Value}, VHolds h p → (∀ o, h.get? p.1 = some o → h'.get? p.1 = some o) → VHolds h' p
  | (_, true, _), x, k => Heap.PlainList.at x k
  | (_, false, _), x, k => Heap.IsList.at x k
theorem VHolds.got {h : Heap} : ∀ {p : Addr × Bool × Array Value}, VHolds h p → ∃ o, h.get? p.1 = some o
  | (_, true, _), ⟨_, e⟩ => ⟨_, e⟩
  | (_, false, _), ⟨o, e, _⟩ => ⟨o, e⟩

/-- a name's value, written -/
def upd (m : Str → Option Value) (x : Str) (v : Value) : Str → Option Value := fun y => if y = x then some v else m y

/-! the frame -/
structure Fm (s₀ : Shared) (g : Heap) (env : Env) (m cm : Str → Option Value) (V : List (Addr × Bool × Array Value)) (s : Shared) : Prop where
  same : ∃ h tk, s = { s₀ with heap := h, toks := tk }
  ns : s.heap.Ns env.locals m
  cell : ∀ n c, env.cells.lookup n = some c → s.heap.IsCell c (cm n)
  capart : env.cells.Pairwise fun x y => x.2 ≠ y.2
  base : HLe s₀.heap g
  keep : HLe g s.heap
  off : g.get? env.locals = none
  coff : ∀ p ∈ env.cells, g.get? p.2 = none ∧ p.2 ≠ env.locals
  vol : ∀ p ∈ V, VHolds s.heap p ∧ g.get? p.1 = none ∧ p.1 ≠ env.locals ∧ ∀ q ∈ env.cells, p.1 ≠ q.2
  vapart : V.Pairwise fun x y => x.1 ≠ y.1

section
variable {s₀ s s' : Shared} {g g' : Heap} {env : Env} {m cm : Str → Option Value} {V : List (Addr × Bool × Array Value)}

theorem Fm.keeps (x : Fm s₀ g env m cm V s) (k : Keeps s s') : Fm s₀ g env m cm V s' := by
  have hk := kHeap k
  obtain ⟨h, t, rfl, k'⟩ := k
  exact ⟨let ⟨_, _, e⟩ := x.same; ⟨h, t, by rw [e]⟩, x.ns.keeps hk, fun n c e => (x.cell n c e).keeps hk, x.capart, x.base, x.keep.trans hk, x.off, x.coff,
    fun p hp => ⟨(x.vol p hp).1.at fun o e => hk _ o e, (x.vol p hp).2⟩, x.vapart⟩

theorem Fm.done (x : Fm s₀ g env m cm V s) : Keeps s₀ s := by
  obtain ⟨h, t, rfl⟩ := x.same
  exact ⟨h, t, rfl, x.base.trans x.keep⟩

theorem Fm.all (x : Fm s₀ g env m cm V s) : HLe s₀.heap s.heap := x.base.trans x.keep

theorem cell_get {h : Heap} {c : Addr} {v : Option Value} (x : h.IsCell c v) : ∃ o, h.get? c = some o := let ⟨o, e, _⟩ := x; ⟨o, e⟩
theorem ns_get {h : Heap} {c : Addr} {v : Str → Option Value} (x : h.Ns c v) : ∃ o, h.get? c = some o := let ⟨o, _, _, e, _⟩ := x; ⟨o, e⟩

theorem lookup_some_of_mem : ∀ {l : List (Str × Addr)}, ∀ p ∈ l, ∃ c, l.lookup p.1 = some c
  | (k, v) :: r, p, h => by
    rw [List.lookup_cons]
    cases hb : p.1 == k with
    | true => exact ⟨_, by simp; rfl⟩
    | false =>
      rcases List.mem_cons.mp h with e | h
      · rw [e] at hb; simp at hb
      · simpa using lookup_some_of_mem p h

/-- a thing that did not stand at `s` is none of the frame's own -/
theorem Fm.fresh (x : Fm s₀ g env m cm V s) (hn : (env.cells.map (·.1)).Nodup) {a : Addr} (h : s.heap.get? a = none) : a ≠ env.locals ∧ (∀ p ∈ env.cells, p.2 ≠ a) ∧ (∀ p ∈ V, p.1 ≠ a) ∧ g.get? a = none := by
  refine ⟨?_, ?_, ?_, ?_⟩
  · rintro rfl; obtain ⟨o, e⟩ := ns_get x.ns; rw [h] at e; cases e
  · rintro ⟨n, c⟩ hp rfl
    have : env.cells.lookup n = some c := by
      clear h
      have key : ∀ l : List (Str × Addr), (l.map (·.1)).Nodup → (n, c) ∈ l → l.lookup n = some c := by
        intro l
        induction l with
        | nil => intro _ h; cases h
        | cons y l ih =>
          intro hd h
          obtain ⟨k, v⟩ := y
          rw [List.map_cons, List.nodup_cons] at hd
          rw [List.lookup_cons]
          rcases List.mem_cons.mp h with e | h
          · cases e; simp
          · have : (n == k) = false := by
              cases q : n == k with
              | false => rfl
              | true => exact absurd (List.mem_map.mpr ⟨_, h, beq_iff_eq.mp q⟩) hd.1
            rw [this]; exact ih hd.2 h
      exact key _ hn hp
    obtain ⟨o, e⟩ := cell_get (x.cell n c this)
    rw [h] at e; cases e
  · rintro p hp rfl
    obtain ⟨o, e⟩ := (x.vol p hp).1.got; rw [h] at e; cases e
  · cases e : g.get? a with
    | none => rfl
    | some o => rw [x.keep _ _ e] at h; cases h

/-- the ground anew: all that stands now, the frame's own left out -/
theorem Fm.snap (x : Fm s₀ g env m cm V s) : ∃ g', Fm s₀ g' env m cm V s ∧ HLe g g' ∧
    ∀ a o, s.heap.get? a = some o → a ≠ env.locals → (∀ p ∈ env.cells, p.2 ≠ a) → (∀ p ∈ V, p.1 ≠ a) → g'.get? a = some o := by
  let l := env.locals :: (env.cells.map (·.2) ++ V.map (·.1))
  have key : ∀ a o, s.heap.get? a = some o → a ∉ l → (hideAll s.heap l).get? a = some o := fun a o e n => hideAll_get l e n
  have gin : HLe g (hideAll s.heap l) := fun b o e => by
    refine key b o (x.keep _ _ e) fun hm => ?_
    rcases List.mem_cons.mp hm with q | hm
    · rw [q, x.off] at e; cases e
    · rcases List.mem_append.mp hm with hm | hm
      · obtain ⟨p, hp, q⟩ := List.mem_map.mp hm
        rw [← q, (x.coff p hp).1] at e; cases e
      · obtain ⟨p, hp, q⟩ := List.mem_map.mp hm
        rw [← q, (x.vol p hp).2.1] at e; cases e
  refine ⟨hideAll s.heap l, ⟨x.same, x.ns, x.cell, x.capart, x.base.trans gin, fun b o e => of_hideAll l e, hideAll_none l (.head _), fun p hp => ⟨hideAll_none l (.tail _ (List.mem_append_left _ (List.mem_map_of_mem hp))), (x.coff p hp).2⟩,
    fun p hp => ⟨(x.vol p hp).1, hideAll_none l (.tail _ (List.mem_append_right _ (List.mem_map_of_mem hp))), (x.vol p hp).2.2⟩, x.vapart⟩, gin, fun a o e h1 h2 h3 => key a o e fun hm => ?_⟩
  rcases List.mem_cons.mp hm with q | hm
  · exact h1 q
  · rcases List.mem_append.mp hm with hm | hm
    · obtain ⟨p, hp, q⟩ := List.mem_map.mp hm; exact h2 p hp q
    · obtain ⟨p, hp, q⟩ := List.mem_map.mp hm; exact h3 p hp q

/-- drop the mutable lists -/
theorem Fm.dropV (x : Fm s₀ g env m cm V s) : Fm s₀ g env m cm [] s :=
  ⟨x.same, x.ns, x.cell, x.capart, x.base, x.keep, x.off, x.coff, (fun _ h => nomatch h), .nil⟩
end

section
variable {M : Model} {A : Around} {E : Value → Shared → Prop} {s₀ s : Shared} {g : Heap} {env : Env} {m cm : Str → Option Value} {V : List (Addr × Bool × Array Value)}

theorem rLocal {n : Str} {pos : Pos} {v : Value} {Q : Value → Shared → Prop} (x : Fm s₀ g env m cm V s) (hv : m n = some v) (h : Q v s)
    (hk : env.scope.kind = .function) (hl : env.kindOf n = some .local) (hd : (n == ("__debug__" : Str)) = false) :
    wpAny M A (eval (.Name n pos) env) Q E s := wpAny_Name (wpAny_loadName_local hk hl x.ns hv h) hd
theorem rCell {n : Str} {pos : Pos} {c : Addr} {v : Value} {Q : Value → Shared → Prop} (x : Fm s₀ g env m cm V s) (hc : env.cells.lookup n = some c) (hv : cm n = some v) (h : Q v s)
    (hk : env.scope.kind = .function) (hl : env.kindOf n = some .cell) (hd : (n == ("__debug__" : Str)) = false) :
    wpAny M A (eval (.Name n pos) env) Q E s := wpAny_Name (wpAny_loadName_cell hk hl hc (hv ▸ x.cell n c hc) h) hd

theorem rStore {n : Str} {v : Value} {Q : Unit → Shared → Prop} (x : Fm s₀ g env m cm V s)
    (h : ∀ s', Fm s₀ g env (upd m n v) cm V s' → (∀ a o, s.heap.get? a = some o → a ≠ env.locals → s'.heap.get? a = some o) → Q () s')
    (hk : env.scope.kind = .function) (hl : env.kindOf n = some .local) : wpAny M A (storeName env n v) Q E s := by
  refine wpAny_storeName_local hl x.ns (fun h' hn' hs' => h _ ⟨?_, hn', fun k c hc => ?_, x.capart, x.base, fun b o e => ?_, x.off, x.coff, fun p hp => ⟨?_, (x.vol p hp).2⟩, x.vapart⟩ ?_) (by rw [hk]; rfl)
  · obtain ⟨h₁, tk, rfl⟩ := x.same
    exact ⟨h', _, rfl⟩
  · exact (x.cell k c hc).sameBut hs' (x.coff (k, c) (mem_of_lookup hc)).2
  · exact hs'.extBut b o (by rintro rfl; rw [x.off] at e; cases e) (x.keep b o e)
  · exact (x.vol p hp).1.at fun o e => hs'.extBut _ o (x.vol p hp).2.2.1 e
  · exact fun a o e ne => hs'.extBut a o ne e

theorem rStoreCell {n : Str} {c : Addr} {v : Value} {Q : Unit → Shared → Prop} (x : Fm s₀ g env m cm V s) (hc : env.cells.lookup n = some c)
    (h : ∀ s', Fm s₀ g env m (upd cm n v) V s' → (∀ a o, s.heap.get? a = some o → a ≠ c → s'.heap.get? a = some o) → Q () s')
    (hk : env.scope.kind = .function) (hl : env.kindOf n = some .cell) : wpAny M A (storeName env n v) Q E s := by
  have hm := mem_of_lookup hc
  have co := x.coff _ hm
  refine wpAny_storeName_cell hk hl hc (x.cell n c hc) fun h' hc' hs' => h _ ⟨?_, x.ns.sameBut hs' (Ne.symm co.2), fun k c' hk' => ?_, x.capart, x.base, fun b o e => ?_, x.off, x.coff, fun p hp => ⟨?_, (x.vol p hp).2⟩, x.vapart⟩ ?_
  · obtain ⟨h₁, tk, rfl⟩ := x.same
    exact ⟨h', _, rfl⟩
  · by_cases hkn : k = n
    · subst hkn
      rw [hc] at hk'; cases hk'
      simpa [upd] using hc'
    · unfold upd; rw [if_neg hkn]
      exact (x.cell k c' hk').sameBut hs' fun e => hkn (name_of_addr x.capart (mem_of_lookup hk') (e ▸ mem_of_lookup hc))
  · exact hs'.extBut b o (by rintro rfl; rw [co.1] at e; cases e) (x.keep b o e)
  · exact (x.vol p hp).1.at fun o e => hs'.extBut _ o ((x.vol p hp).2.2.2 _ hm) e
  · exact fun a o e ne => hs'.extBut a o ne e
end

/-! a call of one of the text's defs -/
def IsFnAt (h : Heap) (a : Addr) (n : Nat) (dV : Value) : Prop :=
  ∃ o nm qual kV doc pm an cdv ct, h.get? a = some o ∧ o.data = .func (fnX nm qual (fArgs (stAt n)) (fBody (stAt n)) (fScope (stAt n)) [] dV kV doc pm an cdv ct) ∧ h.CodeRec cdv qual
theorem IsFnAt.keeps {h h' : Heap} {a : Addr} {n : Nat} {dV : Value} (x : IsFnAt h a n dV) (k : HLe h h') : IsFnAt h' a n dV :=
  let ⟨o, nm, qual, kV, doc, pm, an, cdv, ct, h1, h2, h3⟩ := x; ⟨o, nm, qual, kV, doc, pm, an, cdv, ct, k _ _ h1, h2, h3.keeps k⟩

def envAt (n : Nat) (q : Str) (L a : Addr) (cd : Value) : Env :=
  newEnv (fScope (stAt n)) L mainGlobals (cellsFrom (L + 1) (fScope (stAt n)).names []) (q ++ ".<locals>.") (some a) cd none builtinsNs

theorem enterFn {prog : Program} {w : World} {A : Around} {E : Value → Shared → Prop} {s : Shared} {a : Addr} {n : Nat} {dV : Value} {vals : List Value} {binds : List (Str × Value)} {Q : Value → Shared → Prop}
    (hroom : A.depth < recursionLimit) (hf : IsFnAt s.heap a n dV) (hlim : s.heap.NoLimit)
    (hbind : ∀ nm qual kV doc pm an cdv ct, BindsTo s (fnX nm qual (fArgs (stAt n)) (fBody (stAt n)) (fScope (stAt n)) [] dV kV doc pm an cdv ct) ⟨vals, []⟩ binds)
    (hkind : ∀ k, ∀ x ∈ binds, (fScope (stAt n)).names.lookup x.1 = some .local ∨ ((fScope (stAt n)).names.lookup x.1 = some .cell ∧ ((cellsFrom k (fScope (stAt n)).names []).lookup x.1).isSome = true))
    (hco : (fScope (stAt n)).isCoroutine = false) (hgen : (fScope (stAt n)).isGenerator = false) (hk : (fScope (stAt n)).kind = .function)
    (h : ∀ q L cd s₁, Fm s s.heap (envAt n q L a cd) (bindL (envAt n q L a cd).kindOf binds fun _ => none) (bindC (envAt n q L a cd).kindOf binds fun _ => none) [] s₁ →
      wpAny (model prog w) (A.deeper (envAt n q L a cd)) (execs (fBody (stAt n)) (envAt n q L a cd)) (fun f s' => ∃ v, f = .ret v ∧ Q v s') (fun _ _ => False) s₁) :
    wpAny (model prog w) A (call (.ref a) vals) Q E s := by
  obtain ⟨o, nm, qual, kV, doc, pm, an, cdv, ct, h1, h2, h3⟩ := hf
  refine wpAny_call (codeAny_call_function (fd := fnX nm qual (fArgs (stAt n)) (fBody (stAt n)) (fScope (stAt n)) [] dV kV doc pm an cdv ct) hroom h1 h2 hco hgen rfl h3 ?_)
  refine hbind nm qual kV doc pm an cdv ct _ _ _ _ ?_
  refine wpAny_newFunctionEnv_cells hk (hkind _) fun env he s' x => ?_
  subst he
  refine ⟨hlim.keeps x.toInCall.keep, codeAny_func ?_⟩
  refine wpAny_mono (h qual s.heap.objs.size cdv s' ⟨x.toInCall.same, x.toInCall.ns, x.cell, x.apart, HLe.rfl, x.toInCall.keep, freshSize _, fun p hp => ⟨?_, ?_⟩, fun _ h => (nomatch h), .nil⟩) (fun f s'' h' => ?_) (fun _ _ f => f.elim)
  · have := x.above p.1 p.2 hp
    cases e : s.heap.get? p.2 with
    | none => rfl
    | some o' => exact absurd (Heap.lt_size e) (Nat.not_lt.mpr (Nat.le_of_lt this))
  · exact Nat.ne_of_gt (x.above p.1 p.2 hp)
  · obtain ⟨v, rfl, hv⟩ := h'
    exact hv

end Ov
end

section
open PySem PySem.W PyProof.Rows PySem.Calls
namespace Ov

def bi (mg mb : Str → Option Value) (x : Str) (v : Value) : Prop := mg x = none ∧ mb x = some v

/-- the header's map, at every octet -/
def Table (items : Array Value) : Prop := ∀ c < 256, ∃ t, items[c]? = some (.str ⟨(enc1 c).toArray⟩ t)

structure Amb (mg mb : Str → Option Value) (h : Heap) : Prop where
  g : h.Ns mainGlobals mg
  b : h.Ns builtinsNs mb
  lim : h.NoLimit
  fGen : ∃ a, mg "_generate_overlap_table" = some (.ref a) ∧ IsFnAt h a 1 .none
  fHead : ∃ a, mg "header_encode" = some (.ref a) ∧ ∃ T v, IsFnAt h a 13 (.ref T) ∧ IsTup h T #[v]
  fWide : ∃ a, mg "_law_wide" = some (.ref a) ∧ IsFnAt h a 18 .none
  fFigs : ∃ a, mg "_law_figures" = some (.ref a) ∧ IsFnAt h a 19 .none
  fLong : ∃ a, mg "_law_long" = some (.ref a) ∧ IsFnAt h a 20 .none
  fTails : ∃ a, mg "_law_tails" = some (.ref a) ∧ IsFnAt h a 21 .none
  fDue : ∃ a, mg "_law_due" = some (.ref a) ∧ IsFnAt h a 22 .none
  fRow : ∃ a, mg "_law_row" = some (.ref a) ∧ IsFnAt h a 23 .none
  fMap : ∃ z items, mg "_QUOPRI_HEADER_MAP" = some (.ref z) ∧ h.IsList z items ∧ Table items
  bLen : bi mg mb "len" (.builtin "len")
  bRange : bi mg mb "range" (.type "range")
  bChr : bi mg mb "chr" (.builtin "chr")
  bOrd : bi mg mb "ord" (.builtin "ord")
  bSum : bi mg mb "sum" (.builtin "sum")
  bMax : bi mg mb "max" (.builtin "max")
  bMin : bi mg mb "min" (.builtin "min")
  bBytes : bi mg mb "bytes" (.type "bytes")

theorem Amb.keeps {mg mb : Str → Option Value} {h h' : Heap} (x : Amb mg mb h) (k : HLe h h') : Amb mg mb h' where
  g := x.g.keeps k
  b := x.b.keeps k
  lim := x.lim.keeps k
  fGen := let ⟨a, e, f⟩ := x.fGen; ⟨a, e, f.keeps k⟩
  fHead := let ⟨a, e, T, v, f, t⟩ := x.fHead; ⟨a, e, T, v, f.keeps k, t.keeps k⟩
  fWide := let ⟨a, e, f⟩ := x.fWide; ⟨a, e, f.keeps k⟩
  fFigs := let ⟨a, e, f⟩ := x.fFigs; ⟨a, e, f.keeps k⟩
  fLong := let ⟨a, e, f⟩ := x.fLong; ⟨a, e, f.keeps k⟩
  fTails := let ⟨a, e, f⟩ := x.fTails; ⟨a, e, f.keeps k⟩
  fDue := let ⟨a, e, f⟩ := x.fDue; ⟨a, e, f.keeps k⟩
  fRow := let ⟨a, e, f⟩ := x.fRow; ⟨a, e, f.keeps k⟩
  fMap := let ⟨z, items, e, l, t⟩ := x.fMap; ⟨z, items, e, l.at fun o e => k _ o e, t⟩
  bLen := x.bLen
  bRange := x.bRange
  bChr := x.bChr
  bOrd := x.bOrd
  bSum := x.bSum
  bMax := x.bMax
  bMin := x.bMin
  bBytes := x.bBytes

section
variable {M : Model} {A : Around} {E : Value → Shared → Prop} {s : Shared} {env : Env} {mg mb : Str → Option Value}

/-- an env of the text's -/
structure Own (env : Env) : Prop where
  k : env.scope.kind = .function
  g : env.globals = mainGlobals
  b : env.builtins = builtinsNs

theorem rGlob {n : Str} {pos : Pos} {v : Value} {Q : Value → Shared → Prop} (o : Own env) (amb : Amb mg mb s.heap) (hv : mg n = some v) (h : Q v s)
    (hx : env.kindOf n = some .globalImplicit) (hd : (n == ("__debug__" : Str)) = false) : wpAny M A (eval (.Name n pos) env) Q E s :=
  Name_function_global o.k hx (loadGlobal_global (by rw [o.g]; exact amb.g) hv h) hd
theorem rBi {n : Str} {pos : Pos} {v : Value} {Q : Value → Shared → Prop} (o : Own env) (amb : Amb mg mb s.heap) (hv : bi mg mb n v) (h : Q v s)
    (hx : env.kindOf n = some .globalImplicit) (hd : (n == ("__debug__" : Str)) = false) : wpAny M A (eval (.Name n pos) env) Q E s :=
  Name_function_global o.k hx (loadGlobal_builtin (by rw [o.g]; exact amb.g) hv.1 (by rw [o.b]; exact amb.b) hv.2 h) hd

theorem rCall1 {f : Str} {p pos : Pos} {e : Expr} {a : Addr} {n : Nat} {d : Value} {Q : Value → Shared → Prop} (o : Own env) (amb : Amb mg mb s.heap) (hv : mg f = some (.ref a)) (hf : IsFnAt s.heap a n d)
    (h : wpAny M A (eval e env) (fun v s₁ => Keeps s s₁ ∧ wpAny M A (call (.ref a) [v]) Q E s₁) E s)
    (hx : env.kindOf f = some .globalImplicit) (hd : (f == ("__debug__" : Str)) = false)
    (hc : eval (.Call (.Name f p) [e] [] pos) env = (do callWith pos (← eval (.Name f p) env) [] (backTo pos (starEach [e] env)) (backToKw pos (keywordEach [] env))))
    (he : starEach [e] env = (false, eval e env) :: starEach [] env) :
    wpAny M A (eval (.Call (.Name f p) [e] [] pos) env) Q E s := by
  refine Call_ (rGlob o amb hv ?_ hx hd) hc
  obtain ⟨ob, nm, qual, kV, doc, pm, an, cdv, ct, h1, h2, h3⟩ := hf
  refine callWith_def h2 (args_cons (wpAny_mono h (fun v s₁ h' => args_nil ⟨kHeap h'.1 _ _ h1, h'.2⟩) fun _ _ x => x) he) he

theorem rBi1 {f : Str} {p pos : Pos} {e : Expr} {id : String} {Q : Value → Shared → Prop} (o : Own env) (amb : Amb mg mb s.heap) (hv : bi mg mb f (.builtin id))
    (h : wpAny M A (eval e env) (fun v s₁ => wpAny M A (call (.builtin id) [v]) Q E s₁) E s)
    (hx : env.kindOf f = some .globalImplicit) (hd : (f == ("__debug__" : Str)) = false)
    (hc : eval (.Call (.Name f p) [e] [] pos) env = (do callWith pos (← eval (.Name f p) env) [] (backTo pos (starEach [e] env)) (backToKw pos (keywordEach [] env))))
    (he : starEach [e] env = (false, eval e env) :: starEach [] env) (hp : (backTo pos (starEach [] env)).any (·.1) = false) :
    wpAny M A (eval (.Call (.Name f p) [e] [] pos) env) Q E s :=
  Call_ (rBi o amb hv (callWith_builtin1 (args_cons (wpAny_mono h (fun v s₁ h' => args_nil h') fun _ _ x => x) he) he hp) hx hd) hc

theorem rInt {i : Int} {k : Nat} {pos : Pos} {Q : Value → Shared → Prop} (h : ∀ t s', Keeps s s' → Q (.int i t) s') : wpAny M A (eval (.Constant (.int i) k pos) env) Q E s :=
  wpAny_Constant_int (h _ _ kTok)
theorem rStr {i : Str} {k : Nat} {pos : Pos} {Q : Value → Shared → Prop} (h : ∀ t s', Keeps s s' → Q (.str i t) s') : wpAny M A (eval (.Constant (.str i) k pos) env) Q E s :=
  Calls.Constant_str (h _ _ kTok)
end

theorem own_envAt {n : Nat} {q : Str} {L a : Addr} {cd : Value} (h : (fScope (stAt n)).kind = .function) : Own (envAt n q L a cd) := ⟨h, rfl, rfl⟩

def litS : Str := Str.ofString "ABCDEFGHIJKLMNOPQRSTUVWXYZabcdefghijklmnopqrstuvwxyz0123456789-!*+/ "
theorem litS_is : litS.cps.toList = lit := by decide +kernel
theorem lit_in (o : Nat) : (!(!(PySem.Builtin.Str.occurrences litS ⟨#[o]⟩ 0 litS.length 1).isEmpty)) = wide o := by
  rw [StrLaws.found_one, litS_is]
  unfold wide
  rw [List.contains_eq_mem]

section
variable {prog : Program} {w : World} {A : Around} {E : Value → Shared → Prop} {s : Shared} {mg mb : Str → Option Value}

theorem c_wide {a : Addr} {o : Nat} {t : Tok} {Q : Value → Shared → Prop} (amb : Amb mg mb s.heap) (r : Room A 1) (hf : IsFnAt s.heap a 18 .none) (ho : o < 256)
    (h : ∀ s', Keeps s s' → Q (.bool (wide o)) s') : wpAny (model prog w) A (call (.ref a) [.int o t]) Q E s := by
  refine enterFn (binds := [(Str.ofString "octet", .int o t)]) r.lt hf amb.lim (fun _ _ _ _ _ _ _ _ => BindsTo.of_eq rfl) (fun k x hx => .inl ?_) rfl rfl rfl ?_
  · rw [List.mem_singleton] at hx; subst hx; rfl
  intro q L cd s₁ x
  have amb₁ := amb.keeps x.all
  refine wpAny_execs_cons (wpAny_Return_some (wpAny_Compare1 ?_))
  refine rBi1 (own_envAt rfl) amb₁ amb.bChr (rLocal x rfl ?_ rfl rfl rfl) rfl rfl rfl rfl rfl
  refine chr_of_range (by omega) (by omega) (rStr fun t₂ s₂ k₂ => ?_)
  refine notIn_str ⟨_, rfl, ?_⟩
  have e := lit_in o
  unfold litS at e
  rw [Int.toNat_natCast, e]
  exact h _ (kTrans x.done (kTrans kTok k₂))
end
end Ov
end

section
open PySem PySem.W PyProof.Rows PySem.Calls
namespace Ov

/-- a list of octets in the heap -/
def Row (h : Heap) (a : Addr) (r : List Nat) : Prop := ∃ vs : List Value, h.IsList a vs.toArray ∧ IntsAre vs (r.map Int.ofNat)
theorem Row.keeps {h h' : Heap} {a : Addr} {r : List Nat} (x : Row h a r) (k : HLe h h') : Row h' a r := let ⟨vs, l, i⟩ := x; ⟨vs, l.at fun o e => k _ o e, i⟩

theorem IntsAre.append {vs us : List Value} {ns ms : List Int} (x : IntsAre vs ns) (y : IntsAre us ms) : IntsAre (vs ++ us) (ns ++ ms) := by
  induction x with
  | nil => exact y
  | cons n t _ ih => exact .cons n t ih
theorem IntsAre.drop {vs : List Value} {ns : List Int} (x : IntsAre vs ns) : ∀ k, IntsAre (vs.drop k) (ns.drop k) := by
  induction x with
  | nil => intro k; simp; exact .nil
  | cons n t x ih =>
    intro k
    cases k with
    | zero => exact .cons n t x
    | succ k => exact ih k
theorem IntsAre.take {vs : List Value} {ns : List Int} (x : IntsAre vs ns) : ∀ k, IntsAre (vs.take k) (ns.take k) := by
  induction x with
  | nil => intro k; simp; exact .nil
  | cons n t x ih =>
    intro k
    cases k with
    | zero => exact .nil
    | succ k => exact .cons n t (ih k)
theorem IntsAre.at {vs : List Value} {ns : List Int} (x : IntsAre vs ns) : ∀ {k : Nat} {n : Int}, ns[k]? = some n → ∃ t, vs[k]? = some (.int n t) := by
  induction x with
  | nil => intro k n h; cases h
  | cons m t x ih =>
    intro k n h
    cases k with
    | zero => cases h; exact ⟨t, rfl⟩
    | succ k => exact ih h

def figS : Str := Str.ofString "0123456789ABCDEF"
theorem figS_at : ∀ d : Nat, d < 16 → (Txt.item figS (d : Int)) = ⟨#[dig d]⟩ := by decide +kernel
theorem figS_len : figS.length = 16 := by decide +kernel
theorem dig_lt {d : Nat} (h : d < 16) : dig d < 256 := (dig_lit d h).2.2.1

section
variable {M : Model} {A : Around} {E : Value → Shared → Prop} {s : Shared}
/-- a new list -/
theorem rNew {vs : List Value} {Q : Value → Shared → Prop} (h : ∀ a s', Keeps s s' → s.heap.get? a = none → s'.heap.IsList a vs.toArray → s'.heap.get? a = some { cls := .type "list", data := .seq vs.toArray } → Q (.ref a) s') (hsz : vs.length ≤ sizeLine) :
    wpAny M A (newList vs) Q E s :=
  wpAny_newObj_type (h _ _ kPush (freshSize _) ⟨_, Heap.get?_push_size _ rfl, rfl, 0, rfl⟩ (Heap.get?_push_size _ rfl)) (by show vs.toArray.size ≤ sizeLine; rw [List.size_toArray]; exact hsz)
end

section
variable {prog : Program} {w : World} {A : Around} {E : Value → Shared → Prop} {s : Shared} {mg mb : Str → Option Value}

theorem sizeLine_big : 1000 ≤ sizeLine := by rw [sizeLine_eq]; decide

theorem ord_dig {d : Nat} {t : Tok} {Q : Value → Shared → Prop} (h : ∀ t s', Keeps s s' → Q (.int (dig d) t) s') : wpAny (model prog w) A (call (.builtin "ord") [.str ⟨#[dig d]⟩ t]) Q E s :=
  ord_of_one rfl (h _ _ kTok)

theorem c_figs {a : Addr} {o : Nat} {t : Tok} {Q : Value → Shared → Prop} (amb : Amb mg mb s.heap) (r : Room A 1) (hf : IsFnAt s.heap a 19 .none) (ho : o < 256)
    (h : ∀ b s', Keeps s s' → s.heap.get? b = none → Row s'.heap b [f1 o, f2 o] → Q (.ref b) s') : wpAny (model prog w) A (call (.ref a) [.int o t]) Q E s := by
  refine enterFn (binds := [(Str.ofString "octet", .int o t)]) r.lt hf amb.lim (fun _ _ _ _ _ _ _ _ => BindsTo.of_eq rfl) (fun k x hx => .inl ?_) rfl rfl rfl ?_
  · rw [List.mem_singleton] at hx; subst hx; rfl
  intro q L cd s₁ x
  refine wpAny_execs_cons (wpAny_Assign_Name (rStr fun t₂ s₂ k₂ => ?_))
  refine rStore (x.keeps k₂) (fun s₃ x₃ _ => ?_) rfl rfl
  have amb₃ := amb.keeps x₃.all
  refine wpAny_execs_cons (wpAny_Return_some (List_ (args_cons ?_)))
  refine rBi1 (own_envAt rfl) amb₃ amb.bOrd (Subscript_ (rLocal x₃ rfl ?_ rfl rfl rfl)) rfl rfl rfl rfl rfl
  refine wpAny_BinOp (rLocal x₃ rfl (rInt fun t₄ s₄ k₄ => floordiv_int (by decide) ?_) rfl rfl rfl)
  have e1 : Int.fdiv (o : Int) 16 = ((o / 16 : Nat) : Int) := by rw [Int.fdiv_eq_ediv_of_nonneg _ (by decide)]; rfl
  have e2 : Int.fmod (o : Int) 16 = ((o % 16 : Nat) : Int) := by rw [Int.fmod_eq_emod_of_nonneg _ (by decide)]; rfl
  rw [e1]
  refine item_str (fitsSsize_of (N := 1000) (by omega) (by omega) (by decide)) (by omega) (by have := figS_len; unfold figS at this; rw [this]; omega) fun _ => ?_
  have g1 := figS_at (o / 16) (f1_lt ho)
  have g2 := figS_at (o % 16) (f2_lt o)
  unfold figS at g1 g2
  rw [g1]
  refine ord_dig fun t₅ s₅ k₅ => ?_
  have k35 : Keeps s₃ s₅ := kTrans k₄ (kTrans kTok (kTrans kTok k₅))
  have x₅ := x₃.keeps k35
  refine args_cons ?_
  refine rBi1 (own_envAt rfl) (amb.keeps x₅.all) amb.bOrd (Subscript_ (rLocal x₅ rfl ?_ rfl rfl rfl)) rfl rfl rfl rfl rfl
  refine wpAny_BinOp (rLocal x₅ rfl (rInt fun t₆ s₆ k₆ => mod_int (by decide) ?_) rfl rfl rfl)
  rw [e2]
  refine item_str (fitsSsize_of (N := 1000) (by omega) (by omega) (by decide)) (by omega) (by have := figS_len; unfold figS at this; rw [this]; omega) fun _ => ?_
  rw [g2]
  refine ord_dig fun t₇ s₇ k₇ => ?_
  have k57 : Keeps s₅ s₇ := kTrans k₆ (kTrans kTok (kTrans kTok k₇))
  refine args_nil (rNew (fun b s₈ k₈ n₈ l₈ _ => ⟨_, rfl, ?_⟩) (Nat.le_trans (show 2 ≤ 1000 by decide) sizeLine_big))
  have x₈ := x₅.keeps (kTrans k57 k₈)
  refine h b s₈ x₈.done ?_ ⟨_, l₈, .cons _ _ (.cons _ _ .nil)⟩
  cases e : s.heap.get? b with
  | none => rfl
  | some ob => rw [(x₅.keeps k57).all _ _ e] at n₈; cases n₈
end
end Ov
end

section
open PySem PySem.W PyProof.Rows PySem.Calls
namespace Ov

theorem IntsAre.items {vs : List Value} {ns : List Int} (x : IntsAre vs ns) : ∃ xs : Array (Int × Tok), vs.toArray = intItems xs ∧ xs.toList.map (·.1) = ns := by
  induction x with
  | nil => exact ⟨#[], by simp [intItems], rfl⟩
  | @cons n t vs' ns' x ih =>
    obtain ⟨xs, e, f⟩ := ih
    refine ⟨((n, t) :: xs.toList).toArray, ?_, by simp [f]⟩
    have e' : vs' = xs.toList.map fun p => Value.int p.1 p.2 := by
      have := congrArg Array.toList e
      simpa [intItems] using this
    simp [intItems, e']
theorem IntsAre.len {vs : List Value} {ns : List Int} (x : IntsAre vs ns) : vs.length = ns.length := by
  induction x with
  | nil => rfl
  | cons n t x ih => simp [ih]

section
variable {prog : Program} {w : World} {A : Around} {E : Value → Shared → Prop} {s : Shared}

theorem rSum {l : Addr} {vs : List Value} {ns : List Int} {Q : Value → Shared → Prop} (hh : A.handled = none) (hl : s.heap.IsList l vs.toArray) (hi : IntsAre vs ns)
    (h : ∀ t s', Keeps s s' → Q (.int ns.sum t) s') : wpAny (model prog w) A (call (.builtin "sum") [.ref l]) Q E s := by
  obtain ⟨xs, e, f⟩ := IntsAre.items hi
  rw [e] at hl
  refine sum_intListG hh hl fun h' tk t' hk => ?_
  have := h t' _ (kSt (t := tk) hk)
  rw [preSum_eq, List.take_of_length_le (by simp), f]; exact this

theorem rMax {l : Addr} {vs : List Value} {ns : List Int} {n : Int} {Q : Value → Shared → Prop} (hh : A.handled = none) (hl : s.heap.IsList l vs.toArray) (hi : IntsAre vs ns)
    (hm : n ∈ ns) (hb : ∀ m ∈ ns, m ≤ n)
    (h : ∀ t s', Keeps s s' → Q (.int n t) s') : wpAny (model prog w) A (call (.builtin "max") [.ref l]) Q E s := by
  obtain ⟨xs, e, f⟩ := IntsAre.items hi
  rw [e] at hl
  have len : xs.size = ns.length := by rw [← f]; simp
  have pos : 0 < xs.size := by rw [len]; exact List.length_pos_of_mem hm
  refine max_intList hh hl pos fun v h' tk hv hk => ?_
  obtain ⟨t, rfl⟩ := intItems_at hv
  obtain ⟨h1, h2⟩ := argBest_gt (numAt xs) (xs.size - 1)
  have : numAt xs (argBest (fun i j => decide (numAt xs i > numAt xs j)) (xs.size - 1)) = n := by
    have ge : n ≤ numAt xs (argBest (fun i j => decide (numAt xs i > numAt xs j)) (xs.size - 1)) := by
      obtain ⟨j, hj, ej⟩ := List.mem_iff_getElem.mp hm
      have := h2 j (by omega)
      have e2 : numAt xs j = n := by rw [numAt_eq, f, List.getD_eq_getElem?_getD, List.getElem?_eq_getElem hj, Option.getD_some, ej]
      omega
    have le : numAt xs (argBest (fun i j => decide (numAt xs i > numAt xs j)) (xs.size - 1)) ≤ n := by
      refine hb _ ?_
      rw [numAt_eq, f, List.getD_eq_getElem?_getD, List.getElem?_eq_getElem (by omega), Option.getD_some]
      exact List.getElem_mem _
    omega
  rw [this]
  exact h t _ (kSt (t := tk) hk)

theorem cell_at {h h' : Heap} {c : Addr} {v : Option Value} (x : h.IsCell c v) (k : ∀ o, h.get? c = some o → h'.get? c = some o) : h'.IsCell c v := let ⟨o, e, d⟩ := x; ⟨o, k o e, d⟩
theorem kPast {s s₁ : Shared} {h : Heap} {t : Nat} (k : Keeps s s₁) (x : ∀ b o, s.heap.get? b = some o → s₁.heap.get? b = some o → h.get? b = some o) : Keeps s { s₁ with heap := h, toks := t } := by
  obtain ⟨g, u, rfl, k'⟩ := k
  exact ⟨h, t, rfl, fun b o e => x b o e (k' b o e)⟩

/-! sources of items -/
def Src (prog : Program) (w : World) (A : Around) (P : Nat → Value → Prop) (n : Nat) (xv : Value) (s : Shared) : Prop :=
  ∀ (Q : Value → Shared → Prop) (E : Value → Shared → Prop), (∀ I fp St s₂, Keeps s s₂ → s.heap.get? I = none → Walks prog w A I fp [I] n P St → St 0 s₂.heap → (∀ b ∈ fp, b < s₂.heap.objs.size) → Q (.ref I) s₂) →
    wpAny (model prog w) A (pyIter xv) Q E s

theorem srcList {ax : Addr} {items : Array Value} (hh : A.handled = none) (hl : s.heap.IsList ax items) : Src prog w A (fun i v => items[i]? = some v) items.size (.ref ax) s := fun Q E h => by
  have hlt : ax < s.heap.objs.size := by obtain ⟨_, e, _⟩ := hl; exact Heap.lt_size e
  refine wpAny_pyIter_list hl (h _ _ _ _ (kPush (t := s.toks)) (freshSize _) (Walks.list hh s.heap.objs.size ax (Nat.ne_of_lt hlt) items) ⟨⟨_, Heap.get?_push_size _ rfl, rfl, rfl⟩, hl.push _⟩ fun b hb => ?_)
  show b < (s.heap.push _).objs.size
  rw [Heap.size_push]
  rcases List.mem_cons.mp hb with rfl | hb
  · exact Nat.lt_succ_self _
  · rcases List.mem_cons.mp hb with rfl | hb
    · exact Nat.lt_succ_of_lt hlt
    · cases hb

theorem walksRange' {I : Addr} (hh : A.handled = none) (a n : Nat) : Walks prog w A I [I] [I] n (fun i v => ∃ t, v = .int ((a + i : Nat) : Int) t) (fun i h => IsRangeIter h I (a + (i : Nat) * 1) ((n : Int) - (i : Nat)) 1) :=
  let W := Walks.range (prog := prog) (w := w) (A := A) hh I (a : Int) 1 n
  { sub := W.sub, frame := W.frame, done := W.done, self := W.self,
    item := fun i s Q E hi st hQ => W.item i s Q E hi st fun v h' tk hP => hQ v h' tk (by obtain ⟨t, rfl⟩ := hP; exact ⟨t, by rw [Int.mul_one]; rfl⟩) }
theorem walksRange {I : Addr} (hh : A.handled = none) (n : Nat) : Walks prog w A I [I] [I] n (fun i v => i < n ∧ ∃ t, v = .int (i : Int) t) (fun i h => IsRangeIter h I (0 + (i : Nat) * 1) ((n : Int) - (i : Nat)) 1) :=
  let W : Walks prog w A I [I] [I] n (fun i v => i < n ∧ ∃ t, v = .int (0 + i * 1) t) (fun i h => IsRangeIter h I (0 + (i : Nat) * 1) ((n : Int) - (i : Nat)) 1) := (Walks.range hh I 0 1 n).bound
  { sub := W.sub, frame := W.frame, done := W.done, self := W.self,
    item := fun i s Q E hi st hQ => W.item i s Q E hi st fun v h' tk hP => hQ v h' tk (by obtain ⟨l, t, rfl⟩ := hP; exact ⟨l, t, by rw [Int.mul_one, Int.zero_add]⟩) }

theorem srcRange {r : Addr} {n : Nat} {t u v : Tok} (hh : A.handled = none) (hr : IsRange s.heap r 0 n 1 t u v) (hn : n < 2 ^ 40) : Src prog w A (fun i v => i < n ∧ ∃ t, v = .int (i : Int) t) n (.ref r) s := fun Q E h => by
  refine wpAny_pyIter_range hr (small_one (by decide) (by decide) (by omega) (by omega)) ?_
  refine h _ _ _ _ (kPush (t := s.toks)) (freshSize _) (walksRange hh n) ?_ fun b hb => ?_
  · show IsRangeIter _ _ _ _ _
    rw [show Builtin.Range.rangeSize 0 n 1 = n by rw [rangeSize_one]; split <;> omega]
    simpa using Heap.get?_push_size _ rfl
  · show b < (s.heap.push _).objs.size
    rw [Heap.size_push]
    rw [List.mem_singleton.mp hb]; exact Nat.lt_succ_self _

/-! comprehensions -/
structure Body (prog : Program) (w : World) (A : Around) (env : Env) (scope : Scope) (cl : List (Str × Addr)) (x : Str) (ifs : List Expr) (elt : Expr) (P : Nat → Value → Prop) (p : Value → Bool) (F : Value → Value → Prop) (h : Heap) : Prop where
  tests : ∀ C i v s₃ m₃ E', P i v → HLe h s₃.heap → s₃.heap.Ns C m₃ → m₃ x = some v →
    wpAny (model prog w) A (forIn ifs true fun c r => if r = true then do let ok ← isTrue c (compEnvC scope cl C env) (eval c (compEnvC scope cl C env)); pure (ForInStep.yield ok) else pure (ForInStep.yield r))
      (fun ok s₄ => ok = p v ∧ Keeps s₃ s₄) E' s₃
  elt : ∀ C i v s₃ m₃ E', P i v → p v = true → HLe h s₃.heap → s₃.heap.Ns C m₃ → m₃ x = some v →
    wpAny (model prog w) A (eval elt (compEnvC scope cl C env)) (fun y s₄ => F v y ∧ Keeps s₃ s₄) E' s₃

theorem Body.quiet {env : Env} {scope : Scope} {cl : List (Str × Addr)} {x : Str} {ifs : List Expr} {elt : Expr} {P : Nat → Value → Prop} {p : Value → Bool} {F : Value → Value → Prop} {s₁ s₂ : Shared} {I : Addr}
    (b : Body prog w A env scope cl x ifs elt P p F s₁.heap) (k : Keeps s₁ s₂) (hI : s₁.heap.get? I = none) : QuietOnC prog w A env scope cl x ifs elt [I] P p F s₂ where
  tests := fun C i v s₃ m₃ E' _ hP hn hm hk _ => b.tests C i v s₃ m₃ E' hP (fun q o e => hk q o (by rintro hq; rw [List.mem_singleton.mp hq, hI] at e; cases e) (kHeap k q o e)) hn hm
  elt := fun C i v s₃ m₃ E' _ hP hp hn hm hk _ => b.elt C i v s₃ m₃ E' hP hp (fun q o e => hk q o (by rintro hq; rw [List.mem_singleton.mp hq, hI] at e; cases e) (kHeap k q o e)) hn hm

theorem rComp {env : Env} {elt iter : Expr} {x : Str} {px : Pos} {ifs : List Expr} {scope : Scope} {cl : List (Str × Addr)} {pos : Pos} {Q : Value → Shared → Prop}
    (h : wpAny (model prog w) A (eval iter env) (fun xv s₁ => ∃ P n p F, Src prog w A P n xv s₁ ∧ n ≤ sizeLine ∧ Body prog w A env scope cl x ifs elt P p F s₁.heap ∧
      ∀ D s' (ys vs : List Value), Keeps s₁ s' → s₁.heap.get? D = none → s'.heap.IsList D ys.toArray → vs.length = n → (∀ j v, vs[j]? = some v → P j v) → Paired F (vs.filter p) ys → Q (.ref D) s') E s)
    (hclos : closureFor scope env = pure cl) (hcell : ∀ y ∈ scope.names, y.2 ≠ .cell) (hkind : scope.kind = .function)
    (hnames : ∀ y ∈ scope.names, y.2 = .local → scope.names.lookup y.1 = some .local) (hx : scope.names.lookup x = some .local)
    (hs : ∀ x, foldedSetIterable iter env x = pure x := by intro _; rfl) :
    wpAny (model prog w) A (eval (.ListComp elt [⟨.Name x px, iter, ifs, 0⟩] scope pos) env) Q E s := by
  rw [eval_ListComp]
  refine wpAny_comprehension_free (use := none) rfl hs hclos hkind hnames (wpAny_mono h (fun xv s₁ h₁ => ?_) fun _ _ e => e)
  obtain ⟨P, n, p, F, src, hsz, body, hQ⟩ := h₁
  refine src _ _ fun I fp St s₂ k₂ fI W hst hfp => ?_
  have nI : ∀ b o, s₁.heap.get? b = some o → b ∉ [I] := fun b o e hm => by rw [List.mem_singleton.mp hm, fI] at e; cases e
  refine comp_block_walkC (RR := fun acc C => compPost (model prog w) A E none Q acc C) W hsz p F hcell hkind hx hst hfp (body.quiet k₂ fI) ?_
  intro D C h' tk m' ys vs hD hC hDC hn hl hpl hlen hP hF hk
  refine ⟨m', hn, fun h'' hs'' => hQ D _ ys.toList vs (kPast (s₁ := s₂) (h := h'') (t := tk) k₂ fun b o e₁ e => hs''.extBut b o (by rintro rfl; rw [hC] at e; cases e) (hk b o (nI b o e₁) e)) ?_ (hl.extBut hs''.extBut hDC) hlen hP hF⟩
  cases e : s₁.heap.get? D with
  | none => rfl
  | some o => rw [kHeap k₂ _ _ e] at hD; cases hD

theorem rCompA {s₀ : Shared} {env : Env} {elt iter : Expr} {x y : Str} {px py : Pos} {ifs : List Expr} {scope : Scope} {cl : List (Str × Addr)} {pos spos : Pos} {Q : Flow → Shared → Prop}
    (h : wpAny (model prog w) A (eval iter env) (fun xv s₁ => ∃ g m cm V P n p F, Fm s₀ g env m cm V s₁ ∧ Src prog w A P n xv s₁ ∧ n ≤ sizeLine ∧ Body prog w A env scope cl x ifs elt P p F s₁.heap ∧
      ∀ D s' (ys vs : List Value), Fm s₀ g env (upd m y (.ref D)) cm V s' → s₁.heap.get? D = none → (∀ a o, s₁.heap.get? a = some o → a ≠ env.locals → s'.heap.get? a = some o) → s'.heap.IsList D ys.toArray → vs.length = n →
        (∀ j v, vs[j]? = some v → P j v) → Paired F (vs.filter p) ys → Q .next s') E s)
    (hy : env.kindOf y = some .local) (hkf : env.scope.kind = .function)
    (hsw : swapsWith (.ListComp elt [⟨.Name x px, iter, ifs, 0⟩] scope pos) (some (.Name y py)) spos.line env = pure true)
    (hclos : closureFor scope env = pure cl) (hcell : ∀ y ∈ scope.names, y.2 ≠ .cell) (hkind : scope.kind = .function)
    (hnames : ∀ y ∈ scope.names, y.2 = .local → scope.names.lookup y.1 = some .local) (hx : scope.names.lookup x = some .local)
    (hs : ∀ x, foldedSetIterable iter env x = pure x := by intro _; rfl) :
    wpAny (model prog w) A (exec (.Assign [.Name y py] (.ListComp elt [⟨.Name x px, iter, ifs, 0⟩] scope pos) spos) env) Q E s := by
  rw [exec_Assign_Name_used _ _ _ _ hsw]
  refine wpAny_bind (wpAny_standAt (wpAny_bind ?_))
  show wpAny _ A (do let _ ← comprehension (.ListComp elt [⟨.Name x px, iter, ifs, 0⟩] scope pos) scope env _ (newList []) false (eval iter env) (some (assign (.Name y py) env))) _ _ s
  refine wpAny_bind (wpAny_mono (wpAny_comprehension_free (use := some (assign (.Name y py) env)) (Q := fun _ s' => Q .next s') rfl hs hclos hkind hnames
    (wpAny_mono h (fun xv s₁ h₁ => ?_) fun _ _ e => e)) (fun _ s' hq => wpAny_pure (wpAny_pure hq)) fun _ _ e => e)
  obtain ⟨g, m, cm, V, P, n, p, F, fm, src, hsz, body, hQ⟩ := h₁
  refine src _ _ fun I fp St s₂ k₂ fI W hst hfp => ?_
  have nI : ∀ b o, s₁.heap.get? b = some o → b ∉ [I] := fun b o e hm => by rw [List.mem_singleton.mp hm, fI] at e; cases e
  refine comp_block_walkC (RR := fun acc C => compPost (model prog w) A E (some (assign (.Name y py) env)) (fun _ s' => Q .next s') acc C) W hsz p F hcell hkind hx hst hfp (body.quiet k₂ fI) ?_
  intro D C h' tk m' ys vs hD hC hDC hnC hlD hplD hlen hP hF hk
  have fm' : Fm s₀ g env m cm V { s₂ with heap := h', toks := tk } := fm.keeps (kPast (s₁ := s₂) (h := h') (t := tk) k₂ fun b o e₁ e => hk b o (nI b o e₁) e)
  have fD : s₁.heap.get? D = none := by
    cases e : s₁.heap.get? D with
    | none => rfl
    | some o => rw [kHeap k₂ _ _ e] at hD; cases hD
  have hLC : env.locals ≠ C := by rintro rfl; obtain ⟨o, e⟩ := ns_get fm.ns; rw [kHeap k₂ _ _ e] at hC; cases hC
  have hLD : env.locals ≠ D := by rintro rfl; obtain ⟨o, e⟩ := ns_get fm.ns; rw [e] at fD; cases fD
  have k₁ : ∀ b o, s₁.heap.get? b = some o → h'.get? b = some o := fun b o e => hk b o (nI b o e) (kHeap k₂ _ _ e)
  show wpAny _ A (assign (.Name y py) env (.ref D)) _ _ _
  have hp : (env.scope.kind == .class || (env.scope.kind == .module && env.locals != env.globals)) = false := by rw [hkf]; rfl
  refine wpAny_assign_Name (wpAny_storeName_local hy fm'.ns (fun h₂ hn₂ hs₂ => ?_) hp)
  refine ⟨m', hnC.sameBut hs₂ (Ne.symm hLC), fun h₃ hs₃ => ?_⟩
  have k₃ : ∀ b o, s₁.heap.get? b = some o → b ≠ env.locals → h₃.get? b = some o := fun b o e hbL => hs₃.extBut b o (by rintro rfl; rw [kHeap k₂ _ _ e] at hC; cases hC) (hs₂.extBut b o hbL (k₁ b o e))
  refine hQ D _ ys.toList vs ⟨?_, hn₂.sameBut hs₃ hLC, fun k c hc => ?_, fm.capart, fm.base, fun b o e => ?_, fm.off, fm.coff, fun q hq => ⟨?_, (fm.vol q hq).2⟩, fm.vapart⟩ fD k₃ ((hlD.extBut hs₂.extBut (Ne.symm hLD)).extBut hs₃.extBut hDC) hlen hP hF
  · obtain ⟨h₁, tk₁, e⟩ := fm'.same
    have e2 := congrArg (fun s : Shared => { s with heap := h₃, toks := tk + 1 }) e
    exact ⟨h₃, _, e2⟩
  · exact cell_at (fm.cell k c hc) fun o e => k₃ c o e (fm.coff (k, c) (mem_of_lookup hc)).2
  · exact k₃ b o (fm.keep b o e) (by rintro rfl; rw [fm.off] at e; cases e)
  · exact (fm.vol q hq).1.at fun o e => k₃ _ o e (fm.vol q hq).2.2.1
end
end Ov
end

section
open PySem PySem.W PyProof.Rows PySem.Calls
namespace Ov

/-- the lists of `h` stand in `h'` -/
def LLe (h h' : Heap) : Prop := ∀ b vs, h.IsList b vs → h'.IsList b vs
theorem HLe.lists {h h' : Heap} (k : HLe h h') : LLe h h' := fun _ _ l => l.at fun o e => k _ o e
theorem LLe.trans {a b c : Heap} (x : LLe a b) (y : LLe b c) : LLe a c := fun p o e => y p o (x p o e)
theorem Row.lists {h h' : Heap} {a : Addr} {r : List Nat} (x : Row h a r) (k : LLe h h') : Row h' a r := let ⟨vs, l, i⟩ := x; ⟨vs, k _ _ l, i⟩

section
variable {s₀ s : Shared} {g g' : Heap} {env : Env} {m cm : Str → Option Value} {V : List (Addr × Bool × Array Value)}
theorem Fm.weaken (x : Fm s₀ g' env m cm V s) (k : HLe g g') (b : HLe s₀.heap g) : Fm s₀ g env m cm V s := by
  have nn : ∀ a, g'.get? a = none → g.get? a = none := fun a e => by
    cases q : g.get? a with
    | none => rfl
    | some o => rw [k _ _ q] at e; cases e
  exact ⟨x.same, x.ns, x.cell, x.capart, b, k.trans x.keep, nn _ x.off, fun p hp => ⟨nn _ (x.coff p hp).1, (x.coff p hp).2⟩, fun p hp => ⟨(x.vol p hp).1, nn _ (x.vol p hp).2.1, (x.vol p hp).2.2⟩, x.vapart⟩
/-- a step that touches nothing of the ground and nothing of the frame -/
theorem Fm.past {I : Addr} {h : Heap} {t : Nat} (x : Fm s₀ g env m cm V s) (hg : g.get? I = none) (hL : I ≠ env.locals) (hc : ∀ p ∈ env.cells, p.2 ≠ I) (hV : ∀ p ∈ V, p.1 ≠ I) (k : ∀ b o, b ∉ [I] → s.heap.get? b = some o → h.get? b = some o) :
    Fm s₀ g env m cm V { s with heap := h, toks := t } := by
  have k' : ∀ b o, b ≠ I → s.heap.get? b = some o → h.get? b = some o := fun b o n e => k b o (by simpa using n) e
  refine ⟨?_, x.ns.at' fun o e => k' _ o (Ne.symm hL) e, fun n c e => cell_at (x.cell n c e) fun o e' => k' c o (hc _ (mem_of_lookup e)) e', x.capart, x.base, fun b o e => k' b o (by rintro rfl; rw [hg] at e; cases e) (x.keep b o e), x.off, x.coff, fun p hp => ⟨(x.vol p hp).1.at fun o e => k' _ o (hV p hp) e, (x.vol p hp).2⟩, x.vapart⟩
  obtain ⟨h₁, t₁, rfl⟩ := x.same
  exact ⟨h, t, rfl⟩
end

section
variable {prog : Program} {w : World} {A : Around} {s₀ s : Shared} {g : Heap} {env : Env}

theorem rFor {x : Str} {px pos : Pos} {iter : Expr} {body : List Stmt} {Q : Flow → Shared → Prop} (hh : A.handled = none)
    (K : Nat → (Str → Option Value) → (Str → Option Value) → List (Addr × Bool × Array Value) → Heap → Prop) (hK : ∀ i m cm V h h', LLe h h' → K i m cm V h → K i m cm V h')
    (a n : Nat) (ha : a < 2 ^ 40) (hn : n < 2 ^ 40) (hcn : (env.cells.map (·.1)).Nodup)
    (h : wpAny (model prog w) A (eval iter env) (fun xv s₁ => ∃ r t u v g₁ m cm V, xv = .ref r ∧ IsRange s₁.heap r a ((a + n : Nat) : Int) 1 t u v ∧ HLe g g₁ ∧ Fm s₀ g₁ env m cm V s₁ ∧ K 0 m cm V g₁) (fun _ _ => False) s)
    (step : ∀ i t m cm V g' s₁, i < n → HLe g g' → Fm s₀ g' env (upd m x (.int ((a + i : Nat) : Int) t)) cm V s₁ → K i m cm V g' →
      wpAny (model prog w) A (execs body env) (fun f s₂ => f = .next ∧ ∃ g₂ m₂ cm₂ V₂, HLe g' g₂ ∧ Fm s₀ g₂ env m₂ cm₂ V₂ s₂ ∧ K (i + 1) m₂ cm₂ V₂ g₂) (fun _ _ => False) s₁)
    (hQ : ∀ g' m cm V s', HLe g g' → Fm s₀ g' env m cm V s' → K n m cm V g' → Q .next s')
    (hk : env.scope.kind = .function) (hx : env.kindOf x = some .local)
    (hs : ∀ x, foldedSetIterable iter env x = pure x := by intro _; rfl) :
    wpAny (model prog w) A (exec (.For (.Name x px) iter body [] pos) env) Q (fun _ _ => False) s := by
  have hp : (env.scope.kind == .class || (env.scope.kind == .module && env.locals != env.globals)) = false := by rw [hk]; rfl
  refine wpAny_For (wpAny_mono h (fun xv s₁ h₁ => ?_) fun _ _ e => e) hs
  obtain ⟨r, t, u, v, g₁, m, cm, V, rfl, hr, kg₁, x₁, k₁⟩ := h₁
  have hsz : Builtin.Range.rangeSize (a : Int) ((a + n : Nat) : Int) 1 = (n : Int) := by rw [rangeSize_one]; split <;> omega
  refine wpAny_pyIter_range hr (small_one (by omega) (by omega) (by omega) (by omega)) ?_
  have fI := freshSize s₁.heap
  obtain ⟨aL, aC, aV, aG⟩ := x₁.fresh hcn fI
  generalize hI : s₁.heap.objs.size = I at fI aL aC aV aG ⊢
  let J : Nat → Shared → Prop := fun k s' => ∃ i m cm V g', k = n + 1 - i ∧ i ≤ n ∧ HLe g g' ∧ Fm s₀ g' env m cm V s' ∧ K i m cm V g' ∧ IsRangeIter s'.heap I (a + (i : Nat) * 1) ((n : Int) - (i : Nat)) 1 ∧ I ≠ env.locals ∧ (∀ p ∈ env.cells, p.2 ≠ I) ∧ (∀ p ∈ V, p.1 ≠ I) ∧ s₀.heap.get? I = none ∧ g.get? I = none
  refine codeAny_forLoop J (fun k s' hJ => ?_) (n + 1) ⟨0, m, cm, V, g₁, rfl, Nat.zero_le _, kg₁, ?_, k₁, ?_, aL, aC, aV, ?_, ?_⟩
  · obtain ⟨i, m', cm', V', g', rfl, hi, kg, x', kK, hit, bL, bC, bV, b₀, bg⟩ := hJ
    -- the ground without the iterator
    have keyH : ∀ b o, b ≠ I → g'.get? b = some o → (hideAll g' [I]).get? b = some o := fun b o nb e => hideAll_get [I] e (by simpa using nb)
    have bH : HLe s₀.heap (hideAll g' [I]) := fun b o e => keyH b o (by rintro rfl; rw [b₀] at e; cases e) (x'.base _ _ e)
    have gH : HLe g (hideAll g' [I]) := fun b o e => keyH b o (by rintro rfl; rw [bg] at e; cases e) (kg _ _ e)
    have nI : (hideAll g' [I]).get? I = none := hideAll_none [I] (.head _)
    have xH : Fm s₀ (hideAll g' [I]) env m' cm' V' s' := x'.weaken (fun b o e => of_hideAll [I] e) bH
    have kH : K i m' cm' V' (hideAll g' [I]) := hK _ _ _ _ _ _ (fun b vs l => by
      refine l.at fun o e => keyH b o ?_ e
      rintro rfl
      obtain ⟨o', e', c', _⟩ := l
      have hit₂ : s'.heap.get? b = some _ := hit
      rw [x'.keep _ _ e'] at hit₂
      injection hit₂ with hit₂
      subst hit₂
      exact absurd (Value.type.inj c') (by decide)) kK
    by_cases hlt : i < n
    · refine (walksRange' hh a n).item i s' _ _ hlt hit fun v h' tk hP hst' hk' => ?_
      obtain ⟨t, rfl⟩ := hP
      have y := xH.past (t := tk) nI bL bC bV hk'
      refine wpAny_assign_Name (wpAny_mono (rStore (v := .int ((a + i : Nat) : Int) t) y (Q := fun _ s₂ => Fm s₀ (hideAll g' [I]) env (upd m' x (.int ((a + i : Nat) : Int) t)) cm' V' s₂ ∧ s₂.heap.get? I = h'.get? I) (fun s₂ z kz => ⟨z, ?_⟩) hk hx) (fun _ s₂ hz => ?_) fun _ _ e => e)
      · obtain ⟨o, e⟩ : ∃ o, h'.get? I = some o := ⟨_, hst'⟩
        rw [e]; exact kz I o e bL
      · obtain ⟨z, ez⟩ := hz
        obtain ⟨g₂, z₂, kg₂, up₂⟩ := z.snap
        obtain ⟨o, e⟩ : ∃ o, h'.get? I = some o := ⟨_, hst'⟩
        have eI : g₂.get? I = some o := up₂ I o (ez.trans e) bL bC bV
        refine wpAny_mono (step i t m' cm' V' g₂ s₂ hlt (gH.trans kg₂) z₂ (hK _ _ _ _ _ _ kg₂.lists kH)) (fun f s₃ h₃ => ?_) fun _ _ f => f.elim
        obtain ⟨rfl, g₃, m₃, cm₃, V₃, kg₃, x₃, k₃⟩ := h₃
        refine ⟨n + 1 - (i + 1), by omega, i + 1, m₃, cm₃, V₃, g₃, rfl, hlt, (gH.trans kg₂).trans kg₃, x₃, k₃, ?_, bL, bC, ?_, b₀, bg⟩
        · show s₃.heap.get? I = _
          rw [x₃.keep _ _ (kg₃ _ _ eI), ← e]
          exact hst'
        · rintro p hp rfl
          have := (x₃.vol p hp).2.1
          rw [kg₃ _ _ eI] at this
          cases this
    · have hin : i = n := by omega
      subst hin
      refine (walksRange' hh a i).done s' _ _ hit fun h' tk hk' => wpAny_execs_nil ?_
      exact hQ _ _ _ _ _ gH (xH.past (t := tk) nI bL bC bV hk') kH
  · exact x₁.keeps (kPush (t := s₁.toks))
  · show Heap.get? _ I = _
    rw [hsz, ← hI, Heap.get?_push_size _ rfl]; simp
  · cases e : s₀.heap.get? I with
    | none => rfl
    | some o => rw [x₁.all _ _ e] at fI; cases fI
  · cases e : g.get? I with
    | none => rfl
    | some o => rw [kg₁ _ _ e] at aG; cases aG
end
end Ov
end

section
open PySem PySem.W PyProof.Rows PySem.Calls
namespace Ov

theorem ints_map {f : Nat → Int} : ∀ {vs ys : List Value} {r : List Nat}, IntsAre vs (r.map Int.ofNat) → Paired (fun v y => ∀ o t, v = Value.int (Int.ofNat o) t → ∃ u, y = Value.int (f o) u) vs ys → IntsAre ys (r.map f)
  | _, _, [], x, h => by cases x; cases h; exact .nil
  | _, _, o :: r, x, h => by
    cases x with
    | cons n t x =>
      cases h with
      | cons h1 h2 =>
        obtain ⟨u, rfl⟩ := h1 o t rfl
        exact .cons _ _ (ints_map x h2)
theorem sum_w1 : ∀ r : List Nat, (r.map fun o => (w1 o : Int)).sum = (long r : Int)
  | [] => rfl
  | o :: r => by rw [List.map_cons, List.sum_cons, sum_w1 r, long_cons]; omega
theorem row_at {vs : List Value} {r : List Nat} (x : IntsAre vs (r.map Int.ofNat)) {i : Nat} {v : Value} (h : vs.toArray[i]? = some v) : ∃ o t, v = .int (Int.ofNat o) t ∧ r[i]? = some o := by
  have h' : vs[i]? = some v := by simpa using h
  have hlt : i < r.length := by
    have := IntsAre.len x
    rw [List.length_map] at this
    have := (List.getElem?_eq_some_iff.mp h').1
    omega
  obtain ⟨t, e⟩ := IntsAre.at x (k := i) (n := Int.ofNat r[i]) (by simp [hlt])
  rw [h'] at e; cases e
  exact ⟨_, t, rfl, List.getElem?_eq_getElem hlt⟩
theorem list_keeps {h h' : Heap} {a : Addr} {vs : Array Value} (l : h.IsList a vs) (k : HLe h h') : h'.IsList a vs := l.at fun o e => k _ o e
theorem filter_all {α : Type} (l : List α) : l.filter (fun _ => true) = l := List.filter_eq_self.mpr fun _ _ => rfl

section
variable {prog : Program} {w : World} {A : Around} {E : Value → Shared → Prop} {s : Shared} {mg mb : Str → Option Value}

theorem own_comp {scope : Scope} {cl : List (Str × Addr)} {C : Addr} {env : Env} (o : Own env) (h : scope.kind = .function) : Own (compEnvC scope cl C env) := ⟨h, o.g, o.b⟩

theorem c_long {a l : Addr} {r : List Nat} {Q : Value → Shared → Prop} (amb : Amb mg mb s.heap) (rm : Room A 2) (hf : IsFnAt s.heap a 20 .none) (hr : Row s.heap l r) (ho : Octets r) (hn : r.length ≤ 1000)
    (h : ∀ t s', Keeps s s' → Q (.int (long r) t) s') : wpAny (model prog w) A (call (.ref a) [.ref l]) Q E s := by
  obtain ⟨vs, hl, hi⟩ := hr
  have hlen := IntsAre.len hi
  rw [List.length_map] at hlen
  refine enterFn (binds := [(Str.ofString "row", .ref l)]) rm.lt hf amb.lim (fun _ _ _ _ _ _ _ _ => BindsTo.of_eq rfl) (fun k x hx => .inl ?_) rfl rfl rfl ?_
  · rw [List.mem_singleton] at hx; subst hx; rfl
  intro q L cd s₁ x
  have rm₁ := rm.deeper (env := envAt 20 q L a cd)
  have amb₁ := amb.keeps x.all
  refine wpAny_execs_cons (wpAny_Return_some ?_)
  refine rBi1 (own_envAt rfl) amb₁ amb.bSum ?_ rfl rfl rfl rfl rfl
  refine rComp (cl := []) (rLocal x rfl ⟨_, _, fun _ => true, fun v y => ∀ o t, v = Value.int (Int.ofNat o) t → ∃ u, y = Value.int (w1 o : Int) u, srcList rm₁.hh (list_keeps hl x.all), ?_, ⟨?_, ?_⟩, fun D s₂ ys us k₂ n₂ l₂ len hP hF => ?_⟩ rfl rfl rfl) rfl (by decide) rfl (by decide) rfl
  · rw [List.size_toArray, hlen]; exact Nat.le_trans hn sizeLine_big
  · intro C i v s₃ m₃ E' _ _ _ _
    exact wpAny_pure ⟨rfl, kRefl⟩
  · intro C i v s₃ m₃ E' hP _ k₃ ns₃ mv
    obtain ⟨o, t, rfl, hio⟩ := row_at hi hP
    have amb₃ := amb₁.keeps k₃
    obtain ⟨aw, gw, fw⟩ := amb₃.fWide
    refine wpAny_IfExp (isTrue_plain (rCall1 (own_comp (own_envAt rfl) rfl) amb₃ gw fw (wpAny_Name (wpAny_loadName_local rfl rfl ns₃ mv ⟨kRefl, ?_⟩) rfl) rfl rfl rfl rfl))
    refine c_wide amb₃ rm₁ fw (ho o (List.mem_of_getElem? hio)) fun s₄ k₄ => wpAny_truthy_bool ?_
    cases hw : wide o with
    | true => exact rInt fun u s₅ k₅ => ⟨fun o' t' e => by cases e; exact ⟨u, by rw [w1, if_pos hw]; rfl⟩, kTrans k₄ k₅⟩
    | false => exact rInt fun u s₅ k₅ => ⟨fun o' t' e => by cases e; exact ⟨u, by rw [w1, if_neg (by rw [hw]; exact Bool.false_ne_true)]; rfl⟩, kTrans k₄ k₅⟩
  · rw [filter_all] at hF
    have hus : us = vs := by simpa using list_of_places (items := vs.toArray) (by simpa using len) hP
    subst hus
    refine rSum rm₁.hh l₂ (ints_map hi hF) fun t s₃ k₃ => ?_
    rw [sum_w1]
    exact ⟨_, rfl, h t s₃ (kTrans x.done (kTrans k₂ k₃))⟩
end
end Ov
end

section
open PySem PySem.W PyProof.Rows PySem.Calls
namespace Ov

/-! lists of rows -/
inductive RowsAre (h : Heap) : List Value → List (List Nat) → Prop
  | nil : RowsAre h [] []
  | cons {a r vs rs} : Row h a r → RowsAre h vs rs → RowsAre h (.ref a :: vs) (r :: rs)
theorem RowsAre.lists {h h' : Heap} {vs : List Value} {rs : List (List Nat)} (x : RowsAre h vs rs) (k : LLe h h') : RowsAre h' vs rs := by
  induction x with
  | nil => exact .nil
  | cons a _ ih => exact .cons (a.lists k) ih
theorem RowsAre.append {h : Heap} {vs us : List Value} {rs ts : List (List Nat)} (x : RowsAre h vs rs) (y : RowsAre h us ts) : RowsAre h (vs ++ us) (rs ++ ts) := by
  induction x with
  | nil => exact y
  | cons a _ ih => exact .cons a ih
theorem RowsAre.len {h : Heap} {vs : List Value} {rs : List (List Nat)} (x : RowsAre h vs rs) : vs.length = rs.length := by
  induction x with
  | nil => rfl
  | cons a _ ih => simp [ih]
theorem RowsAre.drop1 {h : Heap} {vs : List Value} {rs : List (List Nat)} (x : RowsAre h vs rs) : RowsAre h (vs.drop 1) rs.tail := by
  cases x with
  | nil => exact .nil
  | cons a x => exact x
theorem RowsAre.at {h : Heap} {vs : List Value} {rs : List (List Nat)} (x : RowsAre h vs rs) : ∀ {i : Nat} {v : Value}, vs[i]? = some v → ∃ a r, v = .ref a ∧ Row h a r ∧ r ∈ rs := by
  induction x with
  | nil => intro i v e; cases e
  | cons a _ ih =>
    intro i v e
    cases i with
    | zero => cases e; exact ⟨_, _, rfl, a, .head _⟩
    | succ i => obtain ⟨b, r, h1, h2, h3⟩ := ih (i := i) (v := v) e; exact ⟨b, r, h1, h2, .tail _ h3⟩
theorem Row.unique {h : Heap} {a : Addr} {r r' : List Nat} (x : Row h a r) (y : Row h a r') : r = r' := by
  obtain ⟨vs, ⟨o, e, _, n, d⟩, i⟩ := x
  obtain ⟨us, ⟨o', e', _, n', d'⟩, i'⟩ := y
  rw [e] at e'; cases e'
  rw [d] at d'
  injection d' with d' _
  have : vs = us := by simpa using d'
  subst this
  have key : ∀ {vs : List Value} {r r' : List Nat}, IntsAre vs (r.map Int.ofNat) → IntsAre vs (r'.map Int.ofNat) → r = r' := by
    intro vs
    induction vs with
    | nil =>
      intro r r' x y
      cases r with
      | nil => cases r' with
        | nil => rfl
        | cons _ _ => cases y
      | cons _ _ => cases x
    | cons v vs ih =>
      intro r r' x y
      cases r with
      | nil => cases x
      | cons o r =>
        cases r' with
        | nil => cases y
        | cons o' r' =>
          cases x with
          | cons _ _ x => cases y with
            | cons _ _ y => rw [ih x y]
  exact key i i'
open Classical in
/-- what a test on rows says of their places -/
noncomputable def onRow (h : Heap) (q : List Nat → Bool) (v : Value) : Bool := decide (∃ a r, v = .ref a ∧ Row h a r ∧ q r = true)
open Classical in
theorem onRow_is {h : Heap} {q : List Nat → Bool} {a : Addr} {r : List Nat} (x : Row h a r) : onRow h q (.ref a) = q r := by
  unfold onRow
  cases hq : q r with
  | true => exact decide_eq_true ⟨a, r, rfl, x, hq⟩
  | false =>
    refine decide_eq_false ?_
    rintro ⟨a', r', e, y, hq'⟩
    cases e
    rw [x.unique y, hq'] at hq; cases hq
theorem RowsAre.filter {h : Heap} {q : List Nat → Bool} {vs : List Value} {rs : List (List Nat)} (x : RowsAre h vs rs) : RowsAre h (vs.filter (onRow h q)) (rs.filter q) := by
  induction x with
  | nil => exact .nil
  | cons a _ ih =>
    rw [List.filter_cons, List.filter_cons, onRow_is a]
    split
    · exact .cons a ih
    · exact ih
theorem paired_same : ∀ {vs ys : List Value}, Paired (fun v y => y = v) vs ys → ys = vs
  | _, _, .nil => rfl
  | _, _, .cons h t => by rw [h, paired_same t]
theorem rows_map {h : Heap} {f : List Nat → Int} : ∀ {vs ys : List Value} {rs : List (List Nat)}, RowsAre h vs rs → Paired (fun v y => ∀ a r, v = Value.ref a → Row h a r → ∃ u, y = Value.int (f r) u) vs ys → IntsAre ys (rs.map f)
  | _, _, _, .nil, .nil => .nil
  | _, _, _, .cons a x, .cons h1 h2 => by
    obtain ⟨u, rfl⟩ := h1 _ _ rfl a
    exact .cons _ _ (rows_map x h2)

section
variable {s₀ s : Shared} {g : Heap} {env : Env} {m cm : Str → Option Value} {V : List (Addr × Bool × Array Value)}
/-- a mutable list that is new -/
theorem Fm.addV {b : Addr} {k : Bool} {vs : Array Value} (x : Fm s₀ g env m cm V s) (l : VHolds s.heap (b, k, vs)) (hg : g.get? b = none) (hL : b ≠ env.locals) (hc : ∀ p ∈ env.cells, p.2 ≠ b) (hV : ∀ p ∈ V, p.1 ≠ b) : Fm s₀ g env m cm ((b, k, vs) :: V) s :=
  ⟨x.same, x.ns, x.cell, x.capart, x.base, x.keep, x.off, x.coff, fun p hp => by
    rcases List.mem_cons.mp hp with rfl | hp
    · exact ⟨l, hg, hL, fun q hq => Ne.symm (hc q hq)⟩
    · exact x.vol p hp, List.pairwise_cons.mpr ⟨fun p hp => Ne.symm (hV p hp), x.vapart⟩⟩
/-- the one mutable list, written -/
theorem Fm.setV {b : Addr} {kd : Bool} {vs us : Array Value} {h : Heap} {t : Nat} (x : Fm s₀ g env m cm [(b, kd, vs)] s) (l : VHolds h (b, kd, us)) (k : Heap.SameBut b s.heap h) : Fm s₀ g env m cm [(b, kd, us)] { s with heap := h, toks := t } := by
  obtain ⟨l₀, hg, hL, hc⟩ := x.vol _ (.head _)
  have k' : ∀ a o, a ≠ b → s.heap.get? a = some o → h.get? a = some o := fun a o n e => k.extBut a o n e
  refine ⟨?_, x.ns.at' fun o e => k' _ o (Ne.symm hL) e, fun n c e => cell_at (x.cell n c e) fun o e' => k' c o (Ne.symm (hc _ (mem_of_lookup e))) e', x.capart, x.base, fun a o e => k' a o (by rintro rfl; rw [hg] at e; cases e) (x.keep a o e), x.off, x.coff, fun p hp => ?_, List.pairwise_singleton _ _⟩
  · obtain ⟨h₁, t₁, rfl⟩ := x.same
    exact ⟨h, t, rfl⟩
  · rw [List.mem_singleton] at hp; subst hp
    exact ⟨l, hg, hL, hc⟩
end

section
variable {prog : Program} {w : World} {A : Around} {E : Value → Shared → Prop} {s : Shared} {mg mb : Str → Option Value} {env : Env}

theorem rLen {l : Addr} {items : Array Value} {Q : Value → Shared → Prop} (hl : s.heap.IsList l items) (hn : items.size ≤ 1000000) (h : ∀ t s', Keeps s s' → Q (.int items.size t) s') : wpAny (model prog w) A (call (.builtin "len") [.ref l]) Q E s :=
  len_list hl (by omega) (h _ _ kTok)
theorem rSubTail {value slice : Expr} {o i : Value} {ops : List Value} {Q : Value → Shared → Prop} (hT : s.TypeIs o "list") (h : wpAny (model prog w) A (getItem o i) Q E s)
    (hs : subscripted slice false o i = operate ops (getItem o i)) : wpAny (model prog w) A (subscriptTail value slice o i) Q E s :=
  kba_turn (value' := .Name (Str.ofString "v") default) (fun _ => rfl) (tail_of_ItemOn ⟨"list", _, list_getitem_lookup, hT, h⟩ hs fun _ => rfl)
theorem rItem {value slice : Expr} {pos : Pos} {Q : Value → Shared → Prop}
    (h : wpAny (model prog w) A (eval value env) (fun o s₁ => wpAny (model prog w) A (eval slice env) (fun i s₂ => ∃ l items k t x, o = .ref l ∧ i = .int ((k : Nat) : Int) t ∧ s₂.heap.IsList l items ∧ k < 1000000 ∧ items[k]? = some x ∧ Q x s₂) E s₁) E s)
    (hs : ∀ l k t, subscripted slice false (.ref l) (.int k t) = operate [.ref l, .int k t] (getItem (.ref l) (.int k t))) :
    wpAny (model prog w) A (eval (.Subscript value slice pos) env) Q E s := by
  refine Subscript_ (wpAny_mono h (fun o s₁ h₁ => wpAny_mono h₁ (fun i s₂ h₂ => ?_) fun _ _ e => e) fun _ _ e => e)
  obtain ⟨l, items, k, t, x, rfl, rfl, hl, hk, hx, hQ⟩ := h₂
  exact rSubTail hl.typeIs (wpAny_getItem_list hl (by omega) (by omega) (by simpa using hx) hQ) (hs _ _ _)
theorem sliceEnd {s₂ : Shared} {a b c : Value} {vs : Array Value} {Q : Value → Shared → Prop} (hQ : ∀ b s', Keeps s₂ s' → s₂.heap.get? b = none → s'.heap.PlainList b vs → Q (.ref b) s') :
    Q (.ref (s₂.heap.objs.size + 1)) { s₂ with heap := (s₂.heap.push { cls := .type "slice", data := .fields #[a, b, c] }).push { cls := .type "list", data := .seq vs } } := by
  have hk := kTrans (kPush (s := s₂) (o := { cls := .type "slice", data := .fields #[a, b, c] }) (t := s₂.toks)) (kPush (o := { cls := .type "list", data := .seq vs }) (t := s₂.toks))
  refine hQ _ _ hk ?_ ?_
  · cases e : s₂.heap.get? (s₂.heap.objs.size + 1) with
    | none => rfl
    | some o => exact absurd (Heap.lt_size e) (Nat.not_lt.mpr (Nat.le_succ _))
  · have := Heap.get?_push_size (s₂.heap.push { cls := .type "slice", data := .fields #[a, b, c] }) (o := { cls := .type "list", data := .seq vs }) rfl
    rw [Heap.size_push] at this
    exact ⟨_, this⟩
theorem rSlice {value : Expr} {lower upper step : Option Expr} {p pos : Pos} {Q : Value → Shared → Prop}
    (h : wpAny (model prog w) A (eval value env) (fun o s₁ => wpAny (model prog w) A (evalPart lower env) (fun vl s₂ => wpAny (model prog w) A (evalPart upper env) (fun vu s₃ => wpAny (model prog w) A (evalPart step env) (fun vk s₄ =>
      ∃ l items lo hi st, o = .ref l ∧ s₄.heap.IsList l items ∧ items.size ≤ sizeLine ∧ IsPart vl lo ∧ IsPart vu hi ∧ IsPart vk st ∧ st ≠ some 0 ∧
      ∀ b s', Keeps s₄ s' → s₄.heap.get? b = none → s'.heap.PlainList b (slicePick items lo hi st) → Q (.ref b) s') E s₃) E s₂) E s₁) E s)
    (hs : ∀ o i, ∃ ops, subscripted (.Slice lower upper step p) false o i = operate ops (getItem o i)) :
    wpAny (model prog w) A (eval (.Subscript value (.Slice lower upper step p) pos) env) Q E s := by
  refine Subscript_ (wpAny_mono h (fun o s₁ h₁ => wpAny_Slice (wpAny_mono h₁ (fun vl s₂ h₂ => wpAny_mono h₂ (fun vu s₃ h₃ => wpAny_mono h₃ (fun vk s₄ h₄ => ?_) fun _ _ e => e) fun _ _ e => e) fun _ _ e => e)) fun _ _ e => e)
  obtain ⟨l, items, lo, hi, st, rfl, hl, hsz, pl, pu, pk, h0, hQ⟩ := h₄
  obtain ⟨ops, hops⟩ := hs (.ref l) (.ref s₄.heap.objs.size)
  refine rSubTail (hl.push _).typeIs (wpAny_getItem_list_slice (hl.push _) (Heap.IsSliceOf.new ..) pl pu pk h0 ?_ hsz) hops
  rw [Heap.size_push]
  exact sliceEnd hQ
theorem rFrom {value e : Expr} {p pos : Pos} {Q : Value → Shared → Prop}
    (h : wpAny (model prog w) A (eval value env) (fun o s₁ => wpAny (model prog w) A (eval e env) (fun kv s₂ => ∃ l vs k t, o = .ref l ∧ kv = .int ((k : Nat) : Int) t ∧ s₂.heap.IsList l (List.toArray vs) ∧ vs.length ≤ sizeLine ∧
      ∀ b s', Keeps s₂ s' → s₂.heap.get? b = none → s'.heap.PlainList b (vs.drop k).toArray → Q (.ref b) s') E s₁) E s) :
    wpAny (model prog w) A (eval (.Subscript value (.Slice (some e) none none p) pos) env) Q E s := by
  refine rSlice (wpAny_mono h (fun o s₁ h₁ => wpAny_mono (t := evalPart (some e) env) h₁ (fun kv s₂ h₂ => wpAny_of_eq (evalPart_none env) (wpAny_of_eq (evalPart_none env) ?_)) fun _ _ e => e) fun _ _ e => e) (fun _ _ => ⟨_, rfl⟩)
  obtain ⟨l, vs, k, t, rfl, rfl, hl, hn, hQ⟩ := h₂
  refine ⟨l, _, _, _, _, rfl, hl, by simpa using hn, .int _ _, .none, .none, by simp, ?_⟩
  rw [slicePick_from']
  exact hQ
theorem rUpto {value e : Expr} {p pos : Pos} {Q : Value → Shared → Prop}
    (h : wpAny (model prog w) A (eval value env) (fun o s₁ => wpAny (model prog w) A (eval e env) (fun kv s₂ => ∃ l vs k t, o = .ref l ∧ kv = .int ((k : Nat) : Int) t ∧ s₂.heap.IsList l (List.toArray vs) ∧ vs.length ≤ sizeLine ∧
      ∀ b s', Keeps s₂ s' → s₂.heap.get? b = none → s'.heap.PlainList b (vs.take k).toArray → Q (.ref b) s') E s₁) E s) :
    wpAny (model prog w) A (eval (.Subscript value (.Slice none (some e) none p) pos) env) Q E s := by
  refine rSlice (wpAny_mono h (fun o s₁ h₁ => wpAny_of_eq (evalPart_none env) (wpAny_mono (t := evalPart (some e) env) h₁ (fun kv s₂ h₂ => wpAny_of_eq (evalPart_none env) ?_) fun _ _ e => e)) fun _ _ e => e) (fun _ _ => ⟨_, rfl⟩)
  obtain ⟨l, vs, k, t, rfl, rfl, hl, hn, hQ⟩ := h₂
  refine ⟨l, _, _, _, _, rfl, hl, by simpa using hn, .none, .int _ _, .none, by simp, ?_⟩
  rw [slicePick_upto']
  exact hQ

theorem rAddLists {l b : Addr} {vs ws : List Value} {Q : Value → Shared → Prop} (hl : s.heap.IsList l vs.toArray) (hb : s.heap.IsList b ws.toArray) (hsz : vs.length + ws.length ≤ sizeLine)
    (h : ∀ c s', Keeps s s' → s.heap.get? c = none → s'.heap.PlainList c (vs ++ ws).toArray → Q (.ref c) s') : wpAny (model prog w) A (binaryOp .Add (.ref l) (.ref b)) Q E s := by
  obtain ⟨⟨cls, dd, data, sl⟩, ho, hc, n, hd⟩ := id hl
  obtain ⟨⟨cls2, dd2, data2, sl2⟩, ho2, hc2, n2, hd2⟩ := id hb
  simp only at hc hd hc2 hd2
  subst hc hd hc2 hd2
  have e : vs.toArray ++ ws.toArray = (vs ++ ws).toArray := by simp
  refine concat_meets ⟨_, ho, rfl⟩ ⟨_, ho2, rfl⟩ noFill_list_add seq_list_add PySem.F.slot_list_add PySem.F.entry_list_add (PySem.F.args_list_add_2 _ _) (list_addW l b vs.toArray ws.toArray n n2 dd dd2 sl sl2 (by simpa using hsz)) ⟨ho, ho2, ?_⟩
  rw [e]
  exact h _ _ (kPush (t := s.toks)) (freshSize _) ⟨_, Heap.get?_push_size _ rfl⟩

theorem rAppend {pl : Sem Bool} {s₀ : Shared} {g : Heap} {m cm : Str → Option Value} {n : Str} {p apos pos spos : Pos} {e : Expr} {lt : Addr} {vs : Array Value} {Q : Flow → Shared → Prop} (x : Fm s₀ g env m cm [(lt, true, vs)] s) (hv : m n = some (.ref lt))
    (h : wpAny (model prog w) A (eval e env) (fun v s₁ => ∃ g₁ m₁ cm₁, Fm s₀ g₁ env m₁ cm₁ [(lt, true, vs)] s₁ ∧ vs.size ≤ sizeLine ∧ ∀ s₂, Fm s₀ g₁ env m₁ cm₁ [(lt, true, vs.push v)] s₂ → Q .next s₂) E s)
    (hk : env.scope.kind = .function) (hl : env.kindOf n = some .local) (hd : (n == ("__debug__" : Str)) = false)
    (hse : starEach [e] env = (false, eval e env) :: starEach [] env) (hpl : (backTo pos (starEach [] env)).any (·.1) = false)
    (he : eval (.Call (.Attribute (.Name n p) (Str.ofString "append") apos) [e] [] pos) env = (do
      let ov ← eval (.Name n p) env
      standAt apos.atName
      let (f, first) ← holding [ov] (getMethod ov (Str.ofString "append") pl)
      callWith pos f first (backTo pos (starEach [e] env)) []))
    (hi : interactive env = false) (hs : swapsWith (.Call (.Attribute (.Name n p) (Str.ofString "append") apos) [e] [] pos) none spos.line env = pure false) :
    wpAny (model prog w) A (exec (.Expr (.Call (.Attribute (.Name n p) (Str.ofString "append") apos) [e] [] pos) spos) env) Q E s := by
  obtain ⟨k, ho⟩ := (x.vol _ (.head _)).1
  refine wpAny_Expr_any (MethodCall_ (rLocal x hv (getMethod_builtin ⟨_, ho, rfl⟩ PySem.F.plainAttrs_list PySem.F.slot_list_append PySem.F.type_list_append (fun a e => by cases e; exact ⟨_, ho, rfl⟩) ?_) hk hl hd) he) hi hs
  refine callWith_method1 (args_cons (wpAny_mono h (fun v s₁ h₁ => args_nil ?_) fun _ _ e => e) hse) hse hpl
  obtain ⟨g₁, m₁, cm₁, x₁, hsz, hQ⟩ := h₁
  refine wpAny_list_append_plain (x₁.vol _ (.head _)).1 (fun h' l' k' => hQ _ (x₁.setV (t := s₁.toks) l' k')) hsz
end
end Ov
end

section
open PySem PySem.W PyProof.Rows PySem.Calls
namespace Ov

theorem lkN {n x : Str} {u : Value} {v : Option Value} {m : Str → Option Value} (hne : (n == x) = false) (h : m n = v) : upd m x u n = v := by
  show (if n = x then some u else m n) = v
  rw [if_neg (by intro e; rw [e] at hne; simp at hne)]; exact h
theorem lkY {n : Str} {u : Value} {m : Str → Option Value} : upd m n u n = some u := if_pos rfl

section
variable {s₀ s s' : Shared} {g : Heap} {env : Env} {m cm : Str → Option Value} {V : List (Addr × Bool × Array Value)}
theorem Fm.newList {c : Addr} {vs : Array Value} (x : Fm s₀ g env m cm V s) (hcn : (env.cells.map (·.1)).Nodup) (k : Keeps s s') (n : s.heap.get? c = none) (l : s'.heap.IsList c vs) :
    ∃ g', Fm s₀ g' env m cm V s' ∧ HLe g g' ∧ g'.IsList c vs := by
  obtain ⟨g', x', k', up⟩ := (x.keeps k).snap
  obtain ⟨nL, nc, nV, _⟩ := x.fresh hcn n
  exact ⟨g', x', k', l.at fun o e => up c o e nL nc nV⟩
end

section
variable {prog : Program} {w : World} {A : Around} {E : Value → Shared → Prop} {s : Shared} {mg mb : Str → Option Value} {env : Env}

theorem row_get {vs : List Value} {r : List Nat} {i : Nat} (hi : IntsAre vs (r.map Int.ofNat)) (hlt : i < r.length) : ∃ t, vs.toArray[i]? = some (.int ((r[i] : Nat) : Int) t) := by
  obtain ⟨t, e⟩ := IntsAre.at hi (k := i) (n := Int.ofNat r[i]) (by simp [hlt])
  exact ⟨t, by simpa using e⟩

theorem rRange1 {p pos : Pos} {e : Expr} {Q : Value → Shared → Prop} (o : Own env) (amb : Amb mg mb s.heap)
    (h : wpAny (model prog w) A (eval e env) (fun v s₁ => ∃ (n : Nat) (t : Tok), v = .int (n : Int) t ∧ ∀ r t u v s₂, Keeps s₁ s₂ → IsRange s₂.heap r 0 (n : Int) 1 t u v → Q (.ref r) s₂) E s)
    (hx : env.kindOf (Str.ofString "range") = some .globalImplicit)
    (hc : eval (.Call (.Name (Str.ofString "range") p) [e] [] pos) env = (do callWith pos (← eval (.Name (Str.ofString "range") p) env) [] (backTo pos (starEach [e] env)) (backToKw pos (keywordEach [] env))))
    (he : starEach [e] env = (false, eval e env) :: starEach [] env) (hp : (backTo pos (starEach [] env)).any (·.1) = false) :
    wpAny (model prog w) A (eval (.Call (.Name (Str.ofString "range") p) [e] [] pos) env) Q E s := by
  refine Call_ (rBi o amb amb.bRange (callWith_type1 (args_cons (wpAny_mono h (fun v s₁ h₁ => args_nil ?_) fun _ _ x => x) he) he hp) hx rfl) hc
  obtain ⟨n, t, rfl, hQ⟩ := h₁
  exact call_range_1 (hQ _ _ _ _ _ kPush (IsRange.new ..))

theorem c_tails {a l : Addr} {r : List Nat} {Q : Value → Shared → Prop} (amb : Amb mg mb s.heap) (rm : Room A 2) (hf : IsFnAt s.heap a 21 .none) (hr : Row s.heap l r) (ho : Octets r) (hn : r.length ≤ 300)
    (h : ∀ b vs s', Keeps s s' → s.heap.get? b = none → s'.heap.IsList b (List.toArray vs) → RowsAre s'.heap vs (tails r) → (∀ a, Value.ref a ∈ vs → s.heap.get? a = none) → Q (.ref b) s') : wpAny (model prog w) A (call (.ref a) [.ref l]) Q E s := by
  obtain ⟨rv, hl, hi⟩ := id hr
  have hlen := IntsAre.len hi
  rw [List.length_map] at hlen
  refine enterFn (binds := [(Str.ofString "row", .ref l)]) rm.lt hf amb.lim (fun _ _ _ _ _ _ _ _ => BindsTo.of_eq rfl) (fun k x hx => .inl ?_) rfl rfl rfl ?_
  · rw [List.mem_singleton] at hx; subst hx; rfl
  intro q L cd s₁ x
  have rm₁ := rm.deeper (env := envAt 21 q L a cd)
  have own : Own (envAt 21 q L a cd) := own_envAt rfl
  have hcn : ((envAt 21 q L a cd).cells.map (·.1)).Nodup := List.Pairwise.nil
  refine wpAny_execs_cons (wpAny_Assign_Name (List_ (args_nil (rNew (fun b s₂ k₂ n₂ _ p₂ => ?_) (Nat.zero_le _)))))
  obtain ⟨bL, bc, bV, bG⟩ := x.fresh hcn n₂
  refine rStore (x.keeps k₂) (fun s₃ x₃ e₃ => ?_) rfl rfl
  have x₄ := x₃.addV (b := b) (k := true) (vs := #[]) (show Heap.PlainList _ _ _ from ⟨_, e₃ _ _ p₂ bL⟩) bG bL bc bV
  let K : Nat → (Str → Option Value) → (Str → Option Value) → List (Addr × Bool × Array Value) → Heap → Prop := fun i m cm V h =>
    ∃ vs rs, m "tails" = some (.ref b) ∧ m "row" = some (.ref l) ∧ V = [(b, true, List.toArray vs)] ∧ RowsAre h vs rs ∧ vs.length ≤ 3 * i ∧ rs ++ tails (r.drop i) = tails r ∧ ∀ a, Value.ref a ∈ vs → s.heap.get? a = none
  have fin : ∀ b' : Addr, s₁.heap.get? b' = none → s.heap.get? b' = none := fun b' e => by
    cases q : s.heap.get? b' with
    | none => rfl
    | some o => rw [x.all _ _ q] at e; cases e
  refine wpAny_execs_cons (rFor rm₁.hh K (fun i m cm V h h' k ⟨vs, rs, a1, a2, a3, a4, a5⟩ => ⟨vs, rs, a1, a2, a3, a4.lists k, a5⟩) 0 r.length (by omega) (by omega) hcn (s₀ := s) (g := s.heap) (rRange1 own (amb.keeps x₄.all) (rBi1 own (amb.keeps x₄.all) amb.bLen (rLocal x₄ rfl ?_ rfl rfl rfl) rfl rfl rfl rfl rfl) rfl rfl rfl rfl) ?_ ?_ rfl rfl)
  · -- range(len(row))
    refine rLen (list_keeps hl x₄.all) (by rw [List.size_toArray]; omega) fun t s₅ k₅ => ⟨r.length, t, by rw [List.size_toArray, hlen], fun r' t' u' v' s₆ k₆ hr' => ⟨r', t', u', v', s.heap, _, _, _, rfl, ?_, HLe.rfl, x₄.keeps (kTrans k₅ k₆), [], [], lkY, rfl, rfl, .nil, Nat.zero_le _, rfl, fun _ h => nomatch h⟩⟩
    rw [Nat.zero_add]; exact hr'
  · -- a turn
    rintro i t m cm V g' s₅ hi' kg x₅ ⟨vs, rs, m1, m2, rfl, hrs, hvl, heq, hfr⟩
    rw [Nat.zero_add] at x₅
    have hsl : vs.length ≤ sizeLine := Nat.le_trans (by omega) sizeLine_big
    have hsr : rv.length ≤ sizeLine := Nat.le_trans (by omega) sizeLine_big
    have hdrop : r.drop i = r[i] :: r.drop (i + 1) := by rw [List.drop_eq_getElem_cons hi']
    rw [hdrop, tails] at heq
    refine wpAny_execs_cons (rAppend x₅ (lkN rfl m1) (rFrom (rLocal x₅ (lkN rfl m2) (rLocal x₅ lkY ⟨l, rv, i, t, rfl, rfl, list_keeps hl x₅.all, hsr, fun c s₆ k₆ n₆ l₆ => ?_⟩ rfl rfl rfl) rfl rfl rfl)) rfl rfl rfl rfl rfl rfl rfl rfl)
    obtain ⟨g₆, x₆, kg₆, gl₆⟩ := x₅.newList hcn k₆ n₆ l₆.isList
    refine ⟨g₆, _, _, x₆, by simpa using hsl, fun s₇ x₇ => ?_⟩
    rw [List.push_toArray] at x₇
    have row₆ : RowsAre g₆ (vs ++ [.ref c]) (rs ++ [r.drop i]) := (hrs.lists kg₆.lists).append (.cons ⟨_, gl₆, by rw [List.map_drop]; exact IntsAre.drop hi i⟩ .nil)
    have fr : ∀ {t : Shared} {a : Addr}, HLe s.heap t.heap → t.heap.get? a = none → s.heap.get? a = none := fun {t a} k e => by
      cases q : s.heap.get? a with
      | none => rfl
      | some o => rw [k _ _ q] at e; cases e
    have fr₆ : ∀ a, Value.ref a ∈ vs ++ [.ref c] → s.heap.get? a = none := fun a ha => by
      rcases List.mem_append.mp ha with ha | ha
      · exact hfr a ha
      · cases List.mem_singleton.mp ha; exact fr x₅.all n₆
    have amb₇ := amb.keeps x₇.all
    obtain ⟨aw, gw, fw⟩ := amb₇.fWide
    obtain ⟨ti, eti⟩ := row_get hi hi'
    have hoi : r[i] < 256 := ho _ (List.getElem_mem hi')
    refine wpAny_execs_cons (wpAny_If (isTrue_plain (rCall1 own amb₇ gw fw (rItem (rLocal x₇ (lkN rfl m2) (rLocal x₇ lkY ⟨l, _, i, t, _, rfl, rfl, list_keeps hl x₇.all, by omega, eti, kRefl, ?_⟩ rfl rfl rfl) rfl rfl rfl) (fun _ _ _ => rfl)) rfl rfl rfl rfl)))
    refine c_wide amb₇ rm₁ fw hoi fun s₈ k₈ => wpAny_truthy_bool ?_
    have x₈ := x₇.keeps k₈
    cases hw : wide r[i] with
    | false =>
      rw [hw] at heq
      refine wpAny_execs_nil (wpAny_execs_nil ⟨rfl, g₆, _, _, _, kg₆, x₈, vs ++ [.ref c], rs ++ [r.drop i], lkN rfl m1, lkN rfl m2, rfl, row₆, by rw [List.length_append, List.length_singleton]; omega, ?_, fr₆⟩)
      rw [List.append_assoc, List.singleton_append, ← heq, hdrop, if_neg (by decide), List.nil_append]
    | true =>
      rw [hw] at heq
      have amb₈ := amb.keeps x₈.all
      obtain ⟨af, gf, ff⟩ := amb₈.fFigs
      refine wpAny_execs_cons (wpAny_Assign_Name (rCall1 own amb₈ gf ff (rItem (rLocal x₈ (lkN rfl m2) (rLocal x₈ lkY ⟨l, _, i, t, _, rfl, rfl, list_keeps hl x₈.all, by omega, eti, kRefl, ?_⟩ rfl rfl rfl) rfl rfl rfl) (fun _ _ _ => rfl)) rfl rfl rfl rfl))
      refine c_figs amb₈ rm₁ ff hoi fun d s₉ k₉ n₉ rd => ?_
      obtain ⟨fv, hfl, hfi⟩ := rd
      have hfn := IntsAre.len hfi
      obtain ⟨g₉, x₉, kg₉, gl₉⟩ := x₈.newList hcn k₉ n₉ hfl
      refine rStore x₉ (fun s₁₀ x₁₀ _ => ?_) rfl rfl
      -- figures + row[j + 1:]
      refine wpAny_execs_cons (rAppend x₁₀ (lkN rfl (lkN rfl m1)) (wpAny_BinOp (rLocal x₁₀ lkY (rFrom (rLocal x₁₀ (lkN rfl (lkN rfl m2)) (wpAny_BinOp (rLocal x₁₀ (lkN rfl lkY) (rInt fun u s₁₁ k₁₁ => add_int ?_) rfl rfl rfl)) rfl rfl rfl)) rfl rfl rfl)) rfl rfl rfl rfl rfl rfl rfl rfl)
      have x₁₁ := x₁₀.keeps (kTrans k₁₁ (kTok (t := s₁₁.toks + 1)))
      refine ⟨l, rv, i + 1, _, rfl, rfl, list_keeps hl x₁₁.all, hsr, fun c₁ s₁₂ k₁₂ n₁₂ l₁₂ => ?_⟩
      have hd : (rv.drop (i + 1)).length ≤ 300 := by rw [List.length_drop]; omega
      have hdi : IntsAre (rv.drop (i + 1)) ((r.drop (i + 1)).map Int.ofNat) := by rw [List.map_drop]; exact IntsAre.drop hi _
      refine rAddLists (list_keeps gl₉ ((x₁₁.keeps k₁₂).keep)) l₁₂.isList (Nat.le_trans (show fv.length + _ ≤ 1000 by rw [hfn, List.length_map]; simp only [List.length_cons, List.length_nil]; omega) sizeLine_big) fun c₂ s₁₃ k₁₃ n₁₃ l₁₃ => ?_
      obtain ⟨g₁₃, x₁₃, kg₁₃, gl₁₃⟩ := (x₁₁.keeps k₁₂).newList hcn k₁₃ n₁₃ l₁₃.isList
      refine ⟨g₁₃, _, _, x₁₃, by simpa using Nat.le_trans (show vs.length + 1 ≤ 1000 by omega) sizeLine_big, fun s₁₄ x₁₄ => ?_⟩
      rw [List.push_toArray] at x₁₄
      have row₁₃ : RowsAre g₁₃ ((vs ++ [.ref c]) ++ [.ref c₂]) ((rs ++ [r.drop i]) ++ [f1 r[i] :: f2 r[i] :: r.drop (i + 1)]) := (row₆.lists (kg₉.trans kg₁₃).lists).append (.cons ⟨_, gl₁₃, IntsAre.append hfi hdi⟩ .nil)
      -- figures[1:] + row[j + 1:]
      refine wpAny_execs_cons (rAppend x₁₄ (lkN rfl (lkN rfl m1)) (wpAny_BinOp (rFrom (rLocal x₁₄ lkY (rInt fun u s₁₅ k₁₅ => ⟨_, fv, 1, u, rfl, rfl, list_keeps gl₉ (kg₁₃.trans (x₁₄.keeps k₁₅).keep), Nat.le_trans (show fv.length ≤ 1000 by rw [hfn, List.length_map]; simp only [List.length_cons, List.length_nil]; omega) sizeLine_big, fun c₃ s₁₆ k₁₆ n₁₆ l₁₆ => ?_⟩) rfl rfl rfl))) rfl rfl rfl rfl rfl rfl rfl rfl)
      have x₁₅ := x₁₄.keeps k₁₅
      obtain ⟨g₁₆, x₁₆, kg₁₆, gl₁₆⟩ := x₁₅.newList hcn k₁₆ n₁₆ l₁₆.isList
      refine rFrom (rLocal x₁₆ (lkN rfl (lkN rfl m2)) (wpAny_BinOp (rLocal x₁₆ (lkN rfl lkY) (rInt fun u₂ s₁₇ k₁₇ => add_int ?_) rfl rfl rfl)) rfl rfl rfl)
      have x₁₇ := x₁₆.keeps (kTrans k₁₇ (kTok (t := s₁₇.toks + 1)))
      refine ⟨l, rv, i + 1, _, rfl, rfl, list_keeps hl x₁₇.all, hsr, fun c₄ s₁₈ k₁₈ n₁₈ l₁₈ => ?_⟩
      refine rAddLists (list_keeps gl₁₆ ((x₁₇.keeps k₁₈).keep)) l₁₈.isList (Nat.le_trans (show (fv.drop 1).length + _ ≤ 1000 by rw [List.length_drop, hfn, List.length_map]; simp only [List.length_cons, List.length_nil]; omega) sizeLine_big) fun c₅ s₁₉ k₁₉ n₁₉ l₁₉ => ?_
      obtain ⟨g₁₉, x₁₉, kg₁₉, gl₁₉⟩ := (x₁₇.keeps k₁₈).newList hcn k₁₉ n₁₉ l₁₉.isList
      refine ⟨g₁₉, _, _, x₁₉, by simpa using Nat.le_trans (show vs.length + 1 + 1 ≤ 1000 by omega) sizeLine_big, fun s₂₀ x₂₀ => ?_⟩
      rw [List.push_toArray] at x₂₀
      have row₁₉ : RowsAre g₁₉ (((vs ++ [.ref c]) ++ [.ref c₂]) ++ [.ref c₅]) (((rs ++ [r.drop i]) ++ [f1 r[i] :: f2 r[i] :: r.drop (i + 1)]) ++ [f2 r[i] :: r.drop (i + 1)]) :=
        (row₁₃.lists (kg₁₆.trans kg₁₉).lists).append (.cons ⟨_, gl₁₉, IntsAre.append (IntsAre.drop hfi 1) hdi⟩ .nil)
      refine wpAny_execs_nil (wpAny_execs_nil ⟨rfl, g₁₉, _, _, _, kg₆.trans (kg₉.trans (kg₁₃.trans (kg₁₆.trans kg₁₉))), x₂₀, _, _, lkN rfl (lkN rfl m1), lkN rfl (lkN rfl m2), rfl, row₁₉, by simp only [List.length_append, List.length_singleton]; omega, ?_, fun a ha => ?_⟩)
      rotate_left
      · rcases List.mem_append.mp ha with ha | ha
        · rcases List.mem_append.mp ha with ha | ha
          · exact fr₆ a ha
          · cases List.mem_singleton.mp ha; exact fr (x₁₁.keeps k₁₂).all n₁₃
        · cases List.mem_singleton.mp ha; exact fr (x₁₇.keeps k₁₈).all n₁₉
      rw [← heq, if_pos rfl, hdrop]
      simp only [List.append_assoc, List.singleton_append, List.cons_append, List.nil_append]
  · -- tails.append([]), return tails
    rintro g' m cm V s₅ kg x₅ ⟨vs, rs, m1, m2, rfl, hrs, hvl, heq, hfr⟩
    have hsl : vs.length ≤ sizeLine := Nat.le_trans (by omega) sizeLine_big
    refine wpAny_execs_cons (rAppend x₅ m1 (List_ (args_nil (rNew (fun c s₆ k₆ n₆ l₆ _ => ?_) (Nat.zero_le _)))) rfl rfl rfl rfl rfl rfl rfl rfl)
    obtain ⟨g₆, x₆, kg₆, gl₆⟩ := x₅.newList hcn k₆ n₆ l₆
    refine ⟨g₆, _, _, x₆, by simpa using hsl, fun s₇ x₇ => ?_⟩
    rw [List.push_toArray] at x₇
    refine wpAny_execs_cons (wpAny_Return_some (rLocal x₇ m1 ⟨_, rfl, h b _ s₇ x₇.done (fin b n₂) (Heap.PlainList.isList (x₇.vol _ (.head _)).1) ?_ (fun a ha => ?_)⟩ rfl rfl rfl))
    rotate_left
    · rcases List.mem_append.mp ha with ha | ha
      · exact hfr a ha
      · cases List.mem_singleton.mp ha
        cases q : s.heap.get? c with
        | none => rfl
        | some o => rw [x₅.all _ _ q] at n₆; cases n₆
    have e : rs ++ [[]] = tails r := by rw [← heq, List.drop_length]; rfl
    rw [← e]
    exact ((hrs.lists kg₆.lists).append (.cons (r := []) ⟨[], gl₆, .nil⟩ .nil)).lists x₇.keep.lists
end
end Ov
end

section
open PySem PySem.W PyProof.Rows PySem.Calls
namespace Ov

theorem tails_length : ∀ r : List Nat, (tails r).length ≤ 3 * r.length + 1
  | [] => by simp [tails]
  | o :: r => by
    have := tails_length r
    rw [tails, List.length_cons, List.length_append]
    split <;> simp only [List.length_cons, List.length_nil] <;> omega
theorem metAt_le (r : List Nat) (k : Nat) : (metAt r k).length ≤ 3 * r.length + 1 := by
  unfold metAt
  refine Nat.le_trans (List.length_filter_le _ _) ?_
  rw [List.length_tail]
  have := tails_length (r.take k)
  rw [List.length_take] at this
  omega

section
variable {s₀ s s' : Shared} {g : Heap} {env : Env} {m m' cm : Str → Option Value} {V : List (Addr × Bool × Array Value)}
theorem Fm.newList' {D : Addr} {vs : Array Value} (x : Fm s₀ g env m cm V s) (hcn : (env.cells.map (·.1)).Nodup) (x' : Fm s₀ g env m' cm V s') (n : s.heap.get? D = none) (l : s'.heap.IsList D vs) :
    ∃ g', Fm s₀ g' env m' cm V s' ∧ HLe g g' ∧ g'.IsList D vs := by
  obtain ⟨g', y, k', up⟩ := x'.snap
  obtain ⟨nL, nc, nV, _⟩ := x.fresh hcn n
  exact ⟨g', y, k', l.at fun o e => up D o e nL nc nV⟩
end

section
variable {M : Model} {A : Around} {E : Value → Shared → Prop} {s : Shared} {scope : Scope} {cl : List (Str × Addr)} {C c : Addr} {env : Env} {n : Str} {pos : Pos} {v : Value} {m : Str → Option Value} {Q : Value → Shared → Prop}
theorem rCompCell (hc : s.heap.IsCell c (some v)) (hl : cl.lookup n = some c) (h : Q v s) (hk : (compEnvC scope cl C env).scope.kind = .function) (hkd : (compEnvC scope cl C env).kindOf n = some .cell) (hd : (n == ("__debug__" : Str)) = false) :
    wpAny M A (eval (.Name n pos) (compEnvC scope cl C env)) Q E s := wpAny_Name (wpAny_loadName_cell hk hkd hl hc h) hd
theorem rCompVar (ns : s.heap.Ns C m) (hv : m n = some v) (h : Q v s) (hk : (compEnvC scope cl C env).scope.kind = .function) (hkd : (compEnvC scope cl C env).kindOf n = some .local) (hd : (n == ("__debug__" : Str)) = false) :
    wpAny M A (eval (.Name n pos) (compEnvC scope cl C env)) Q E s := wpAny_Name (wpAny_loadName_local hk hkd ns hv h) hd
end

section
variable {prog : Program} {w : World} {A : Around} {E : Value → Shared → Prop} {s : Shared} {env : Env}

/-- `[f(tail) for tail in rows]` -/
theorem rMapRows {elt iter : Expr} {x : Str} {px : Pos} {scope : Scope} {cl : List (Str × Addr)} {pos : Pos} {Q : Value → Shared → Prop} (hh : A.handled = none)
    (h : wpAny (model prog w) A (eval iter env) (fun xv s₁ => ∃ lm mv rs, ∃ f : List Nat → Nat, xv = .ref lm ∧ s₁.heap.IsList lm (List.toArray mv) ∧ RowsAre s₁.heap mv rs ∧ mv.length ≤ 1000 ∧
      (∀ C s₃ m₃ ta t E', HLe s₁.heap s₃.heap → s₃.heap.Ns C m₃ → m₃ x = some (.ref ta) → Row s₃.heap ta t → t ∈ rs → wpAny (model prog w) A (eval elt (compEnvC scope cl C env)) (fun y s₄ => (∃ u, y = .int (f t : Int) u) ∧ Keeps s₃ s₄) E' s₃) ∧
      ∀ D s' (ys : List Value), Keeps s₁ s' → s₁.heap.get? D = none → s'.heap.IsList D ys.toArray → IntsAre ys (rs.map fun t => (f t : Int)) → Q (.ref D) s') E s)
    (hclos : closureFor scope env = pure cl) (hcell : ∀ y ∈ scope.names, y.2 ≠ .cell) (hkind : scope.kind = .function)
    (hnames : ∀ y ∈ scope.names, y.2 = .local → scope.names.lookup y.1 = some .local) (hx : scope.names.lookup x = some .local)
    (hs : ∀ x, foldedSetIterable iter env x = pure x) :
    wpAny (model prog w) A (eval (.ListComp elt [⟨.Name x px, iter, [], 0⟩] scope pos) env) Q E s := by
  refine rComp (wpAny_mono h (fun xv s₁ h₁ => ?_) fun _ _ e => e) hclos hcell hkind hnames hx hs
  obtain ⟨lm, mv, rs, f, rfl, hl, hrs, hn, helt, hQ⟩ := h₁
  refine ⟨_, _, fun _ => true, fun v y => ∀ a r, v = Value.ref a → Row s₁.heap a r → ∃ u, y = Value.int (f r : Int) u, srcList hh hl, Nat.le_trans (by simpa using hn) sizeLine_big, ⟨?_, ?_⟩, fun D s₂ ys us k₂ n₂ l₂ len hP hF => ?_⟩
  · intro C i v s₃ m₃ E' _ _ _ _
    exact wpAny_pure ⟨rfl, kRefl⟩
  · intro C i v s₃ m₃ E' hP _ k₃ ns₃ mv₃
    obtain ⟨a, t, rfl, ra, ht⟩ := hrs.at (i := i) (v := v) (by simpa using hP)
    refine wpAny_mono (helt C s₃ m₃ a t E' k₃ ns₃ mv₃ (ra.keeps k₃) ht) (fun y s₄ h₄ => ⟨fun a' r' e ra' => ?_, h₄.2⟩) fun _ _ e => e
    cases e
    rw [ra'.unique ra]
    exact h₄.1
  · rw [filter_all] at hF
    have hus : us = mv := by simpa using list_of_places (items := mv.toArray) (by simpa using len) hP
    subst hus
    exact hQ D s₂ ys k₂ n₂ l₂ (rows_map hrs hF)

/-- `y = [tail for tail in rows if test]` -/
theorem rFilterRows {s₀ : Shared} {c iter : Expr} {x y : Str} {px px' py : Pos} {scope : Scope} {cl : List (Str × Addr)} {pos spos : Pos} {Q : Flow → Shared → Prop} (hh : A.handled = none) (hcn : (env.cells.map (·.1)).Nodup)
    (h : wpAny (model prog w) A (eval iter env) (fun xv s₁ => ∃ g m cm V lm mv rs, ∃ q : List Nat → Bool, xv = .ref lm ∧ Fm s₀ g env m cm V s₁ ∧ g.IsList lm (List.toArray mv) ∧ RowsAre g mv rs ∧ mv.length ≤ 1000 ∧
      (∀ C s₃ m₃ ta t E', HLe s₁.heap s₃.heap → s₃.heap.Ns C m₃ → m₃ x = some (.ref ta) → Row s₃.heap ta t → t ∈ rs →
        wpAny (model prog w) A (isTrue c (compEnvC scope cl C env) (eval c (compEnvC scope cl C env))) (fun b s₄ => b = q t ∧ Keeps s₃ s₄) E' s₃) ∧
      ∀ g' D s' (ys : List Value), HLe g g' → Fm s₀ g' env (upd m y (.ref D)) cm V s' → g'.IsList D ys.toArray → RowsAre g' ys (rs.filter q) → ys.length ≤ mv.length → Q .next s') E s)
    (hy : env.kindOf y = some .local) (hkf : env.scope.kind = .function)
    (hsw : swapsWith (.ListComp (.Name x px') [⟨.Name x px, iter, [c], 0⟩] scope pos) (some (.Name y py)) spos.line env = pure true)
    (hclos : closureFor scope env = pure cl) (hcell : ∀ y ∈ scope.names, y.2 ≠ .cell) (hkind : scope.kind = .function)
    (hnames : ∀ y ∈ scope.names, y.2 = .local → scope.names.lookup y.1 = some .local) (hx : scope.names.lookup x = some .local) (hxd : (x == ("__debug__" : Str)) = false)
    (hs : ∀ x, foldedSetIterable iter env x = pure x) :
    wpAny (model prog w) A (exec (.Assign [.Name y py] (.ListComp (.Name x px') [⟨.Name x px, iter, [c], 0⟩] scope pos) spos) env) Q E s := by
  refine rCompA (s₀ := s₀) (wpAny_mono h (fun xv s₁ h₁ => ?_) fun _ _ e => e) hy hkf hsw hclos hcell hkind hnames hx hs
  obtain ⟨g, m, cm, V, lm, mv, rs, q, rfl, fm, hl, hrs, hn, htest, hQ⟩ := h₁
  refine ⟨g, m, cm, V, _, _, onRow g q, fun v y => y = v, fm, srcList hh (list_keeps hl fm.keep), Nat.le_trans (by simpa using hn) sizeLine_big, ⟨?_, ?_⟩, fun D s₂ ys us x₂ n₂ k₂ l₂ len hP hF => ?_⟩
  · intro C i v s₃ m₃ E' hP k₃ ns₃ mv₃
    obtain ⟨a, t, rfl, ra, ht⟩ := hrs.at (i := i) (v := v) (by simpa using hP)
    rw [onRow_is ra]
    exact wpAny_tests_one (htest C s₃ m₃ a t E' k₃ ns₃ mv₃ (ra.keeps (fm.keep.trans k₃)) ht)
  · intro C i v s₃ m₃ E' hP _ k₃ ns₃ mv₃
    exact rCompVar ns₃ mv₃ ⟨rfl, kRefl⟩ hkind (lookup_relabel_local hx) hxd
  · have hus : us = mv := by simpa using list_of_places (items := mv.toArray) (by simpa using len) hP
    subst hus
    have hys := paired_same hF
    subst hys
    obtain ⟨g', x', k', l'⟩ := fm.newList' hcn x₂ n₂ l₂
    exact hQ g' D s₂ _ k' x' l' (hrs.filter.lists k'.lists) (List.length_filter_le _ _)
end
end Ov
end

section
open PySem PySem.W PyProof.Rows PySem.Calls
namespace Ov

theorem metAt_octets {r : List Nat} (h : Octets r) {k : Nat} {t : List Nat} (ht : t ∈ metAt r k) : Octets t := by
  have := (mem_metAt.mp ht).1
  exact tails_octets (octets_take h k) t (List.mem_of_mem_tail this)
theorem sum_long {f : List Nat → Nat} (rs : List (List Nat)) : (rs.map fun t => (f t : Int)) = (rs.map f).map Int.ofNat := by
  rw [List.map_map]; rfl
theorem mx_int (a : Nat) (l : List Nat) : ((mx a l : Nat) : Int) ∈ (a :: l).map Int.ofNat ∧ ∀ m ∈ (a :: l).map Int.ofNat, m ≤ ((mx a l : Nat) : Int) := by
  refine ⟨List.mem_map_of_mem (f := Int.ofNat) (mx_mem l a), fun m hm => ?_⟩
  obtain ⟨x, hx, rfl⟩ := List.mem_map.mp hm
  exact Int.ofNat_le.mpr (le_mx l a x hx)
theorem mx_int0 (l : List Nat) (h0 : 0 ∈ l) : ((mx 0 l : Nat) : Int) ∈ l.map Int.ofNat ∧ ∀ m ∈ l.map Int.ofNat, m ≤ ((mx 0 l : Nat) : Int) := by
  refine ⟨?_, fun m hm => (mx_int 0 l).2 m (List.mem_cons_of_mem _ hm)⟩
  have := mx_mem l 0
  rcases List.mem_cons.mp this with e | e
  · rw [e]; exact List.mem_map_of_mem (f := Int.ofNat) h0
  · exact List.mem_map_of_mem (f := Int.ofNat) e
theorem ofNat_beq (a b : Nat) : (((a : Nat) : Int) == ((b : Nat) : Int)) = (a == b) := by
  by_cases h : a = b
  · subst h; simp
  · have : ((a : Int)) ≠ (b : Int) := fun e => h (Int.ofNat.inj e)
    rw [beq_eq_false_iff_ne.mpr this, beq_eq_false_iff_ne.mpr h]
theorem take_eq_dec (r t : List Nat) (n : Nat) : decide (((r.take n).map Int.ofNat) = t.map Int.ofNat) = (r.take n == t) := by
  by_cases h : r.take n = t
  · rw [h]; simp
  · have : (r.take n).map Int.ofNat ≠ t.map Int.ofNat := fun e => h ((List.map_inj_right fun _ _ q => Int.ofNat.inj q).mp e)
    rw [decide_eq_false this, beq_eq_false_iff_ne.mpr h]

theorem lookup_nodup {n : Str} {c : Addr} : ∀ l : List (Str × Addr), (l.map (·.1)).Nodup → (n, c) ∈ l → l.lookup n = some c
  | [], _, h => nomatch h
  | (k, v) :: l, hd, h => by
    rw [List.map_cons, List.nodup_cons] at hd
    rw [List.lookup_cons]
    rcases List.mem_cons.mp h with e | h
    · cases e; simp
    · have : (n == k) = false := by
        cases q : n == k with
        | false => rfl
        | true => exact absurd (List.mem_map.mpr ⟨_, h, beq_iff_eq.mp q⟩) hd.1
      rw [this]; exact lookup_nodup l hd.2 h

section
variable {s₀ s : Shared} {g : Heap} {env : Env} {m cm : Str → Option Value} {V : List (Addr × Bool × Array Value)}
theorem Fm.snapRows {vs : List Value} {rs : List (List Nat)} {D : Addr} {ds : Array Value} (x : Fm s₀ g env m cm V s) (hcn : (env.cells.map (·.1)).Nodup) (hrs : RowsAre s.heap vs rs) (hV : ∀ a, Value.ref a ∈ vs → ∀ p ∈ V, p.1 ≠ a)
    (hD : s.heap.IsList D ds) (hDV : ∀ p ∈ V, p.1 ≠ D) :
    ∃ g', Fm s₀ g' env m cm V s ∧ HLe g g' ∧ RowsAre g' vs rs ∧ g'.IsList D ds := by
  obtain ⟨g', y, k', up⟩ := x.snap
  have nL : ∀ {a : Addr} {us : Array Value}, s.heap.IsList a us → a ≠ env.locals := by
    rintro a us ⟨o, e, c, n, d⟩ rfl
    obtain ⟨o', es, ep, e', x', _⟩ := x.ns
    rw [e] at e'; cases e'
    rw [d] at x'; cases x'
  have nC : ∀ {a : Addr} {us : Array Value}, s.heap.IsList a us → ∀ p ∈ env.cells, p.2 ≠ a := by
    rintro a us ⟨o, e, c, n, d⟩ p hp rfl
    obtain ⟨o', e', x'⟩ := x.cell p.1 p.2 (lookup_nodup _ hcn hp)
    rw [e] at e'; cases e'
    rw [d] at x'; cases x'
  have one : ∀ {a : Addr} {us : Array Value}, s.heap.IsList a us → (∀ p ∈ V, p.1 ≠ a) → g'.IsList a us := fun l h => l.at fun o e => up _ o e (nL l) (nC l) h
  refine ⟨g', y, k', ?_, one hD hDV⟩
  clear hD hDV
  induction hrs with
  | nil => exact .nil
  | @cons a r vs rs ra t ih =>
    obtain ⟨us, l, i⟩ := ra
    exact .cons ⟨us, one l (hV a (.head _)), i⟩ (ih fun a ha => hV a (.tail _ ha))
end

section
variable {prog : Program} {w : World} {A : Around} {E : Value → Shared → Prop} {s : Shared} {mg mb : Str → Option Value}

theorem c_due {a l : Addr} {r : List Nat} {Q : Value → Shared → Prop} (amb : Amb mg mb s.heap) (rm : Room A 3) (hf : IsFnAt s.heap a 22 .none) (hr : Row s.heap l r) (ho : Octets r) (hn : r.length ≤ 300)
    (h : ∀ b s', Keeps s s' → s.heap.get? b = none → Row s'.heap b (due r) → Q (.ref b) s') : wpAny (model prog w) A (call (.ref a) [.ref l]) Q E s := by
  obtain ⟨rv, hl, hi⟩ := id hr
  have hlen := IntsAre.len hi
  rw [List.length_map] at hlen
  refine enterFn (binds := [(Str.ofString "row", .ref l)]) rm.lt hf amb.lim (fun _ _ _ _ _ _ _ _ => BindsTo.of_eq rfl) (fun k x hx => .inr ?_) rfl rfl rfl ?_
  · rw [List.mem_singleton] at hx; subst hx; exact ⟨rfl, rfl⟩
  intro q L cd s₁ x
  have rm₁ := rm.deeper (env := envAt 22 q L a cd)
  have own : Own (envAt 22 q L a cd) := own_envAt rfl
  have hcn : ((envAt 22 q L a cd).cells.map (·.1)).Nodup := (show List.Nodup [Str.ofString "first", Str.ofString "row"] by decide)
  have hcr : (envAt 22 q L a cd).cells.lookup (Str.ofString "row") = some (L + 1) := rfl
  have hcf : (envAt 22 q L a cd).cells.lookup (Str.ofString "first") = some (L + 2) := rfl
  -- due = []
  refine wpAny_execs_cons (wpAny_Assign_Name (List_ (args_nil (rNew (fun b s₂ k₂ n₂ _ p₂ => ?_) (Nat.zero_le _)))))
  obtain ⟨bL, bc, bV, bG⟩ := x.fresh hcn n₂
  refine rStore (x.keeps k₂) (fun s₃ x₃ e₃ => ?_) rfl rfl
  have x₄ := x₃.addV (b := b) (k := true) (vs := #[]) (show Heap.PlainList _ _ _ from ⟨_, e₃ _ _ p₂ bL⟩) bG bL bc bV
  have fin : s.heap.get? b = none := by
    cases q : s.heap.get? b with
    | none => rfl
    | some o => rw [x.all _ _ q] at n₂; cases n₂
  -- met = []
  refine wpAny_execs_cons (wpAny_Assign_Name (List_ (args_nil (rNew (fun d s₅ k₅ n₅ l₅ _ => ?_) (Nat.zero_le _)))))
  obtain ⟨g₅, x₅, kg₅, gl₅⟩ := x₄.newList hcn k₅ n₅ l₅
  refine rStore x₅ (fun s₆ x₆ e₆ => ?_) rfl rfl
  let K : Nat → (Str → Option Value) → (Str → Option Value) → List (Addr × Bool × Array Value) → Heap → Prop := fun i m cm V h =>
    ∃ dv lm mv, m (Str.ofString "due") = some (.ref b) ∧ m (Str.ofString "met") = some (.ref lm) ∧ cm (Str.ofString "row") = some (.ref l) ∧ V = [(b, true, List.toArray dv)] ∧
      IntsAre dv (((List.range i).flatMap (dueAt r)).map Int.ofNat) ∧ dv.length ≤ 3 * i ∧ h.IsList lm (List.toArray mv) ∧ RowsAre h mv (metAt r i) ∧ mv.length ≤ 1000
  refine wpAny_execs_cons (rFor rm₁.hh K (fun i m cm V h h' k ⟨dv, lm, mv, a1, a2, a3, a4, a5, a6, a7, a8, a9⟩ => ⟨dv, lm, mv, a1, a2, a3, a4, a5, a6, k _ _ a7, a8.lists k, a9⟩) 0 r.length (by omega) (by omega) hcn (s₀ := s) (g := s.heap)
    (rRange1 own (amb.keeps x₆.all) (rBi1 own (amb.keeps x₆.all) amb.bLen (rCell x₆ hcr rfl ?_ rfl rfl rfl) rfl rfl rfl rfl rfl) rfl rfl rfl rfl) ?_ ?_ rfl rfl)
  · refine rLen (list_keeps hl x₆.all) (by rw [List.size_toArray]; omega) fun t s₇ k₇ => ⟨r.length, t, by rw [List.size_toArray, hlen], fun r' t' u' v' s₈ k₈ hr' => ⟨r', t', u', v', g₅, _, _, _, rfl, ?_, kg₅, x₆.keeps (kTrans k₇ k₈), [], d, [], lkN rfl lkY, lkY, rfl, rfl, .nil, Nat.zero_le _, gl₅, .nil, Nat.zero_le _⟩⟩
    rw [Nat.zero_add]; exact hr'
  · -- a turn
    rintro i t m cm V g' s₇ hi' kg x₇ ⟨dv, lm, mv, m1, m2, m3, rfl, hdv, hdl, glm, hmv, hml⟩
    rw [Nat.zero_add] at x₇
    have hsr : rv.length ≤ sizeLine := Nat.le_trans (by omega) sizeLine_big
    have hoi : r[i] < 256 := ho _ (List.getElem_mem hi')
    obtain ⟨ti, eti⟩ := row_get hi hi'
    have amb₇ := amb.keeps x₇.all
    obtain ⟨aw, gw, fw⟩ := amb₇.fWide
    let Mid : Flow → Shared → Prop := fun f s' => f = .next ∧ ∃ g₁ m₁ cm₁ dv₁, HLe g' g₁ ∧ Fm s g₁ (envAt 22 q L a cd) m₁ cm₁ [(b, true, List.toArray dv₁)] s' ∧ m₁ (Str.ofString "due") = some (.ref b) ∧ m₁ (Str.ofString "k") = some (.int ((i : Nat) : Int) t) ∧ cm₁ (Str.ofString "row") = some (.ref l) ∧
      dv₁.length ≤ 3 * i + 2 ∧ IntsAre dv₁ (((List.range i).flatMap (dueAt r) ++ (if wide (r.getD i 0) then [mx 0 ((torn r i).map fun t => long t + 1), mx (lone r i) ((alike r i).map fun t => long t + 2)] else [])).map Int.ofNat)
    refine wpAny_execs_cons (wpAny_mono (Q := Mid) (wpAny_If (isTrue_plain (rCall1 own amb₇ gw fw (rItem (rCell x₇ hcr m3 (rLocal x₇ lkY ⟨l, _, i, t, _, rfl, rfl, list_keeps hl x₇.all, by omega, eti, kRefl, ?_⟩ rfl rfl rfl) rfl rfl rfl) (fun _ _ _ => rfl)) rfl rfl rfl rfl))) (fun f s' hmid => ?_) fun _ _ e => e)
    · refine c_wide amb₇ (rm₁.le (by decide)) fw hoi fun s₈ k₈ => wpAny_truthy_bool ?_
      have x₈ := x₇.keeps k₈
      cases hw : wide r[i] with
      | false =>
        refine wpAny_execs_nil ⟨rfl, g', _, _, _, HLe.rfl, x₈, lkN rfl m1, lkY, m3, by omega, ?_⟩
        rw [getD_of_lt hi', hw, if_neg (by decide), List.append_nil]
        exact hdv
      | true =>
        have amb₈ := amb.keeps x₈.all
        obtain ⟨af, gf, ff⟩ := amb₈.fFigs
        -- first
        refine wpAny_execs_cons (wpAny_Assign_Name (rItem (rCall1 own amb₈ gf ff (rItem (rCell x₈ hcr m3 (rLocal x₈ lkY ⟨l, _, i, t, _, rfl, rfl, list_keeps hl x₈.all, by omega, eti, kRefl, ?_⟩ rfl rfl rfl) rfl rfl rfl) (fun _ _ _ => rfl)) rfl rfl rfl rfl) (fun _ _ _ => rfl)))
        refine c_figs amb₈ (rm₁.le (by decide)) ff hoi fun fa s₉ k₉ n₉ rd => rInt fun u₉ s₁₀ k₁₀ => ?_
        obtain ⟨fv, hfl, hfi⟩ := rd
        obtain ⟨tf, etf⟩ : ∃ tf, fv.toArray[0]? = some (.int ((f1 r[i] : Nat) : Int) tf) := row_get (r := [f1 r[i], f2 r[i]]) hfi (i := 0) (Nat.zero_lt_succ _)
        refine ⟨fa, _, 0, u₉, _, rfl, rfl, list_keeps hfl (kHeap k₁₀), by decide, etf, ?_⟩
        refine rStoreCell (x₈.keeps (kTrans k₉ k₁₀)) hcf (fun s₁₁ x₁₁ _ => ?_) rfl rfl
        have c3 : (upd cm (Str.ofString "first") (Value.int ((f1 r[i] : Nat) : Int) tf)) (Str.ofString "row") = some (.ref l) := lkN rfl m3
        -- torn
        refine wpAny_execs_cons (rFilterRows (s₀ := s) (cl := [(Str.ofString "row", L + 1)]) rm₁.hh hcn (rLocal x₁₁ (lkN rfl m2) ⟨g', _, _, _, lm, mv, metAt r i, fun t => wide (r.getD t.length 0), rfl, x₁₁, glm, hmv, hml, ?_, fun g₁₂ ta s₁₂ tv kg₁₂ x₁₂ lt₁₂ rt₁₂ tl₁₂ => ?_⟩ rfl rfl rfl) rfl rfl rfl rfl (by decide) rfl (by decide) rfl rfl (fun _ => rfl))
        · intro C s₁₂ m₁₂ ta t' E' k₁₂ ns₁₂ mv₁₂ rt ht
          obtain ⟨vt, lt, it⟩ := id rt
          have hlt := (metAt_len ho ht).2
          have amb₁₂ := amb.keeps (x₁₁.all.trans k₁₂)
          obtain ⟨aw, gw, fw⟩ := amb₁₂.fWide
          obtain ⟨to, eto⟩ := row_get hi hlt
          have cr : s₁₂.heap.IsCell (L + 1) (some (.ref l)) := by have := (x₁₁.cell _ _ hcr).keeps k₁₂; rw [c3] at this; exact this
          refine isTrue_plain (rCall1 (own_comp own rfl) amb₁₂ gw fw (rItem (rCompCell cr rfl (rBi1 (own_comp own rfl) amb₁₂ amb.bLen (rCompVar ns₁₂ mv₁₂ (rLen lt ?_ fun u s₁₃ k₁₃ => ⟨l, _, t'.length, u, _, rfl, ?_, list_keeps hl (x₁₁.all.trans (k₁₂.trans (kHeap k₁₃))), by omega, eto, k₁₃, ?_⟩) rfl rfl rfl) rfl rfl rfl rfl rfl) rfl rfl rfl) (fun _ _ _ => rfl)) rfl rfl rfl rfl)
          · rw [List.size_toArray, IntsAre.len it, List.length_map]; omega
          · rw [List.size_toArray, IntsAre.len it, List.length_map]
          · refine c_wide (amb₁₂.keeps (kHeap k₁₃)) (rm₁.le (by decide)) (fw.keeps (kHeap k₁₃)) (ho _ (List.getElem_mem hlt)) fun s₁₄ k₁₄ => wpAny_truthy_bool ⟨?_, kTrans k₁₃ k₁₄⟩
            show _ = wide (r.getD t'.length 0)
            rw [getD_of_lt hlt]
        have torn₁₂ : RowsAre g₁₂ tv (torn r i) := rt₁₂
        have htl : tv.length ≤ 1000 := Nat.le_trans tl₁₂ hml
        -- the longest of the torn
        have hsl : dv.length + 1 ≤ sizeLine := Nat.le_trans (show dv.length + 1 ≤ 1000 by omega) sizeLine_big
        refine wpAny_execs_cons (rAppend x₁₂ (lkN rfl (lkN rfl m1)) (rBi1 own (amb.keeps x₁₂.all) amb.bMax (wpAny_BinOp (List_ (args_cons (rInt fun u₁ s₁₃ k₁₃ => args_nil (rNew (fun z s₁₄ k₁₄ n₁₄ l₁₄ _ => ?_) (Nat.le_trans (show 1 ≤ 1000 by decide) sizeLine_big)))))) rfl rfl rfl rfl rfl) rfl rfl rfl rfl rfl rfl rfl rfl)
        have x₁₄ := x₁₂.keeps (kTrans k₁₃ k₁₄)
        refine rMapRows rm₁.hh (cl := []) (rLocal x₁₄ lkY ⟨ta, tv, torn r i, fun t => long t + 1, rfl, list_keeps lt₁₂ x₁₄.keep, torn₁₂.lists x₁₄.keep.lists, htl, ?_, fun D s₁₅ ys k₁₅ n₁₅ l₁₅ i₁₅ => ?_⟩ rfl rfl rfl) rfl (by decide) rfl (by decide) rfl (fun _ => rfl)
        · intro C s₁₅ m₁₅ ta' t' E' k₁₅ ns₁₅ mv₁₅ rt ht
          have ht' : t' ∈ metAt r i := (List.mem_filter.mp ht).1
          have amb₁₅ := amb.keeps (x₁₄.all.trans k₁₅)
          obtain ⟨al, gl, fl⟩ := amb₁₅.fLong
          refine wpAny_BinOp (rCall1 (own_comp own rfl) amb₁₅ gl fl (rCompVar ns₁₅ mv₁₅ ⟨kRefl, ?_⟩ rfl rfl rfl) rfl rfl rfl rfl)
          exact c_long amb₁₅ (rm₁.le (by decide)) fl rt (metAt_octets ho ht') (by have := metAt_len ho ht'; omega) fun u s₁₆ k₁₆ => rInt fun u' s₁₇ k₁₇ => add_int ⟨⟨_, rfl⟩, kTrans k₁₆ (kTrans k₁₇ kTok)⟩
        have i₁₅' : IntsAre ([Value.int 0 u₁] ++ ys) ((0 :: (torn r i).map fun t => long t + 1).map Int.ofNat) := .cons 0 u₁ (by rw [← sum_long]; exact i₁₅)
        refine rAddLists (list_keeps l₁₄ (kHeap k₁₅)) l₁₅ (Nat.le_trans (show _ ≤ 2000 by have := IntsAre.len i₁₅; rw [List.length_map] at this; have := torn₁₂.len; simp only [List.length_cons, List.length_nil]; omega) (by rw [sizeLine_eq]; decide)) fun c₁₆ s₁₆ k₁₆ n₁₆ l₁₆ => ?_
        refine rMax rm₁.hh l₁₆.isList i₁₅' (mx_int _ _).1 (mx_int _ _).2 fun u₁₇ s₁₇ k₁₇ => ?_
        refine ⟨g₁₂, _, _, x₁₄.keeps (kTrans k₁₅ (kTrans k₁₆ k₁₇)), by simpa using Nat.le_of_succ_le hsl, fun s₁₈ x₁₈ => ?_⟩
        rw [List.push_toArray] at x₁₈
        -- alike
        have c4 : (upd cm (Str.ofString "first") (Value.int ((f1 r[i] : Nat) : Int) tf)) (Str.ofString "first") = some (.int ((f1 r[i] : Nat) : Int) tf) := lkY
        refine wpAny_execs_cons (rFilterRows (s₀ := s) (cl := [(Str.ofString "row", L + 1), (Str.ofString "first", L + 2)]) rm₁.hh hcn (rLocal x₁₈ lkY ⟨g₁₂, _, _, _, ta, tv, torn r i, fun t => f1 (r.getD t.length 0) == f1 (r.getD i 0), rfl, x₁₈, lt₁₂, torn₁₂, htl, ?_, fun g₁₉ al₁₉ s₁₉ av kg₁₉ x₁₉ lt₁₉ rt₁₉ tl₁₉ => ?_⟩ rfl rfl rfl) rfl rfl rfl rfl (by decide) rfl (by decide) rfl rfl (fun _ => rfl))
        · intro C s₁₉ m₁₉ ta' t' E' k₁₉ ns₁₉ mv₁₉ rt ht
          obtain ⟨vt, lt, it⟩ := id rt
          have ht' : t' ∈ metAt r i := (List.mem_filter.mp ht).1
          have hlt := (metAt_len ho ht').2
          have amb₁₉ := amb.keeps (x₁₈.all.trans k₁₉)
          obtain ⟨af, gf, ff⟩ := amb₁₉.fFigs
          obtain ⟨to, eto⟩ := row_get hi hlt
          have hot : r[t'.length] < 256 := ho _ (List.getElem_mem hlt)
          have cr : s₁₉.heap.IsCell (L + 1) (some (.ref l)) := by have := (x₁₈.cell _ _ hcr).keeps k₁₉; rw [c3] at this; exact this
          have cf : s₁₉.heap.IsCell (L + 2) (some (.int ((f1 r[i] : Nat) : Int) tf)) := by have := (x₁₈.cell _ _ hcf).keeps k₁₉; rw [c4] at this; exact this
          refine wpAny_isTrue_Compare1 (rItem (rCall1 (own_comp own rfl) amb₁₉ gf ff (rItem (rCompCell cr rfl (rBi1 (own_comp own rfl) amb₁₉ amb.bLen (rCompVar ns₁₉ mv₁₉ (rLen lt ?_ fun u s₂₀ k₂₀ => ⟨l, _, t'.length, u, _, rfl, ?_, list_keeps hl (x₁₈.all.trans (k₁₉.trans (kHeap k₂₀))), by omega, eto, k₂₀, ?_⟩) rfl rfl rfl) rfl rfl rfl rfl rfl) rfl rfl rfl) (fun _ _ _ => rfl)) rfl rfl rfl rfl) (fun _ _ _ => rfl))
          · rw [List.size_toArray, IntsAre.len it, List.length_map]; omega
          · rw [List.size_toArray, IntsAre.len it, List.length_map]
          · refine c_figs (amb₁₉.keeps (kHeap k₂₀)) (rm₁.le (by decide)) (ff.keeps (kHeap k₂₀)) hot fun fb s₂₁ k₂₁ n₂₁ rd => rInt fun u₂₂ s₂₂ k₂₂ => ?_
            obtain ⟨fw, hfw, hfj⟩ := rd
            obtain ⟨tg, etg⟩ : ∃ tg, fw.toArray[0]? = some (.int ((f1 r[t'.length] : Nat) : Int) tg) := row_get (r := [f1 r[t'.length], f2 r[t'.length]]) hfj (i := 0) (Nat.zero_lt_succ _)
            have kk := kTrans k₂₀ (kTrans k₂₁ k₂₂)
            refine ⟨fb, _, 0, u₂₂, _, rfl, rfl, list_keeps hfw (kHeap k₂₂), by decide, etg, ?_⟩
            refine rCompCell (cf.keeps (kHeap kk)) rfl (eq_int (wpAny_truthy_bool ⟨?_, kk⟩)) rfl rfl rfl
            rw [ofNat_beq]
            show _ = (f1 (r.getD t'.length 0) == f1 (r.getD i 0))
            rw [getD_of_lt hlt, getD_of_lt hi']
        have alike₁₉ : RowsAre g₁₉ av (alike r i) := rt₁₉
        have hal : av.length ≤ 1000 := Nat.le_trans tl₁₉ htl
        -- lone
        have h0 : 0 < r.length := by omega
        obtain ⟨tz, etz⟩ := row_get hi h0
        refine wpAny_execs_cons (wpAny_Assign_Name (wpAny_mono (Q := fun v s' => (∃ u, v = .int ((lone r i : Nat) : Int) u) ∧ Keeps s₁₉ s') (wpAny_IfExp (wpAny_isTrue_Compare1 (rItem (rCell x₁₉ hcr c3 (rInt fun u₂₀ s₂₀ k₂₀ => ⟨l, _, 0, u₂₀, _, rfl, rfl, list_keeps hl (x₁₉.keeps k₂₀).all, by decide, etz, rCell (x₁₉.keeps k₂₀) hcf c4 (eq_int (wpAny_truthy_bool ?_)) rfl rfl rfl⟩) rfl rfl rfl) (fun _ _ _ => rfl)))) (fun v s₂₁ hv => ?_) (fun _ _ e => e)))
        · rw [ofNat_beq]
          have el : lone r i = if (r[0] == f1 r[i]) = true then 1 else 0 := by
            unfold lone
            rw [getD_of_lt h0, getD_of_lt hi']
            simp only [beq_iff_eq]
          cases hc : (r[0] == f1 r[i]) with
          | true => exact rInt fun u s₂₁ k₂₁ => ⟨⟨u, by rw [el, if_pos hc]; rfl⟩, kTrans k₂₀ k₂₁⟩
          | false => exact rInt fun u s₂₁ k₂₁ => ⟨⟨u, by rw [el, if_neg (by rw [hc]; decide)]; rfl⟩, kTrans k₂₀ k₂₁⟩
        obtain ⟨⟨ul, rfl⟩, k₂₁⟩ := hv
        refine rStore (x₁₉.keeps k₂₁) (fun s₂₂ x₂₂ _ => ?_) rfl rfl
        refine wpAny_execs_cons (rAppend x₂₂ (lkN rfl (lkN rfl (lkN rfl (lkN rfl m1)))) (rBi1 own (amb.keeps x₂₂.all) amb.bMax (wpAny_BinOp (List_ (args_cons (rLocal x₂₂ lkY (args_nil (rNew (fun z₂ s₂₄ k₂₄ n₂₄ l₂₄ _ => ?_) (Nat.le_trans (show 1 ≤ 1000 by decide) sizeLine_big))) rfl rfl rfl)))) rfl rfl rfl rfl rfl) rfl rfl rfl rfl rfl rfl rfl rfl)
        have x₂₄ := x₂₂.keeps k₂₄
        refine rMapRows rm₁.hh (cl := []) (rLocal x₂₄ (lkN rfl lkY) ⟨al₁₉, av, alike r i, fun t => long t + 2, rfl, list_keeps lt₁₉ x₂₄.keep, alike₁₉.lists x₂₄.keep.lists, hal, ?_, fun D₂ s₂₅ ys₂ k₂₅ n₂₅ l₂₅ i₂₅ => ?_⟩ rfl rfl rfl) rfl (by decide) rfl (by decide) rfl (fun _ => rfl)
        · intro C s₂₅ m₂₅ ta' t' E' k₂₅ ns₂₅ mv₂₅ rt ht
          have ht' : t' ∈ metAt r i := (List.mem_filter.mp (List.mem_filter.mp ht).1).1
          have amb₂₅ := amb.keeps (x₂₄.all.trans k₂₅)
          obtain ⟨al, gl, fl⟩ := amb₂₅.fLong
          refine wpAny_BinOp (rCall1 (own_comp own rfl) amb₂₅ gl fl (rCompVar ns₂₅ mv₂₅ ⟨kRefl, ?_⟩ rfl rfl rfl) rfl rfl rfl rfl)
          exact c_long amb₂₅ (rm₁.le (by decide)) fl rt (metAt_octets ho ht') (by have := metAt_len ho ht'; omega) fun u s₂₆ k₂₆ => rInt fun u' s₂₇ k₂₇ => add_int ⟨⟨_, rfl⟩, kTrans k₂₆ (kTrans k₂₇ kTok)⟩
        have i₂₅' : IntsAre ([Value.int ((lone r i : Nat) : Int) ul] ++ ys₂) ((lone r i :: (alike r i).map fun t => long t + 2).map Int.ofNat) := .cons _ ul (by rw [← sum_long]; exact i₂₅)
        refine rAddLists (list_keeps l₂₄ (kHeap k₂₅)) l₂₅ (Nat.le_trans (show _ ≤ 2000 by have := IntsAre.len i₂₅; rw [List.length_map] at this; have := alike₁₉.len; simp only [List.length_cons, List.length_nil]; omega) (by rw [sizeLine_eq]; decide)) fun c₂₆ s₂₆ k₂₆ n₂₆ l₂₆ => ?_
        refine rMax rm₁.hh l₂₆.isList i₂₅' (mx_int _ _).1 (mx_int _ _).2 fun u₂₇ s₂₇ k₂₇ => ?_
        refine ⟨g₁₉, _, _, x₂₄.keeps (kTrans k₂₅ (kTrans k₂₆ k₂₇)), by simpa using hsl, fun s₂₈ x₂₈ => ?_⟩
        rw [List.push_toArray] at x₂₈
        refine wpAny_execs_nil ⟨rfl, g₁₉, _, _, _, kg₁₂.trans kg₁₉, x₂₈, lkN rfl (lkN rfl (lkN rfl (lkN rfl m1))), lkN rfl (lkN rfl (lkN rfl lkY)), c3, by simp only [List.length_append, List.length_singleton]; omega, ?_⟩
        rw [getD_of_lt hi', hw, if_pos rfl, List.map_append, List.append_assoc]
        exact IntsAre.append hdv (.cons _ _ (.cons _ _ .nil))
    · obtain ⟨rfl, g₁, m₁, cm₁, dv₁, kg₁, x₁, m1, mk, m3, hdl₁, hdv₁⟩ := hmid
      have amb₁ := amb.keeps x₁.all
      obtain ⟨at', gt, ft⟩ := amb₁.fTails
      have hVb : ∀ {t : Shared} {a : Addr}, HLe s'.heap t.heap → t.heap.get? a = none → ∀ p ∈ [(b, true, List.toArray dv₁)], p.1 ≠ a := fun {t a} k e p hp => by
        rw [List.mem_singleton] at hp; subst hp
        rintro rfl
        obtain ⟨o, hb⟩ := (x₁.vol _ (.head _)).1.got
        rw [k _ _ hb] at e; cases e
      refine wpAny_execs_cons (rFilterRows (s₀ := s) (cl := [(Str.ofString "row", L + 1)]) rm₁.hh hcn (rFrom (rCall1 own amb₁ gt ft (rUpto (rCell x₁ hcr m3 (wpAny_BinOp (rLocal x₁ mk (rInt fun u s₂ k₂ => add_int ⟨l, rv, i + 1, _, rfl, rfl, list_keeps hl (x₁.keeps (kTrans k₂ kTok)).all, hsr, fun c s₃ k₃ n₃ l₃ => ⟨kTrans (kTrans k₂ kTok) k₃, ?_⟩⟩) rfl rfl rfl)) rfl rfl rfl)) rfl rfl rfl rfl)) rfl rfl rfl rfl (by decide) rfl (by decide) rfl rfl (fun _ => rfl))
      have k₁₃ := kTrans (kTrans k₂ kTok) k₃
      have hrow₃ : Row s₃.heap c (r.take (i + 1)) := ⟨_, l₃.isList, by rw [List.map_take]; exact IntsAre.take hi _⟩
      have htk : (r.take (i + 1)).length ≤ 300 := by rw [List.length_take]; omega
      refine c_tails (amb₁.keeps (kHeap k₁₃)) (rm₁.le (by decide)) (ft.keeps (kHeap k₁₃)) hrow₃ (octets_take ho _) htk fun tb tvs s₄ k₄ n₄ l₄ rows₄ fr₄ => rInt fun u₅ s₅ k₅ => ?_
      have tlen : tvs.length ≤ 1000 := by have := rows₄.len; have := tails_length (r.take (i + 1)); omega
      refine ⟨tb, tvs, 1, u₅, rfl, rfl, list_keeps l₄ (kHeap k₅), Nat.le_trans tlen sizeLine_big, fun D s₆ k₆ n₆ l₆ => ?_⟩
      have k₁₅ := kTrans k₁₃ (kTrans k₄ k₅)
      have x₆ := x₁.keeps (kTrans k₁₅ k₆)
      obtain ⟨g₆, y₆, kg₆, rows₆, l₆'⟩ := x₆.snapRows hcn ((rows₄.lists (kHeap (kTrans k₅ k₆)).lists).drop1) (fun a ha => hVb (kHeap k₁₃) (fr₄ a (List.mem_of_mem_drop ha))) l₆.isList (hVb (kHeap k₁₅) n₆)
      refine ⟨g₆, _, _, _, D, tvs.drop 1, (tails (r.take (i + 1))).tail, fun t => r.take t.length == t, rfl, y₆, l₆', rows₆, by rw [List.length_drop]; omega, ?_, fun g₇ D₇ s₇ ys₇ kg₇ x₇ lt₇ rt₇ tl₇ => ?_⟩
      · intro C s₇ m₇ ta' t' E' k₇ ns₇ mv₇ rt ht
        obtain ⟨vt, lt, it⟩ := id rt
        have tlt : t'.length ≤ 1000 := by
          have e1 : t' ∈ tails (r.take (i + 1)) := List.mem_of_mem_tail ht
          have e2 := tails_le (octets_take ho (i + 1)) t' e1
          have e3 := long_take_le (r := r) (k := i + 1)
          have e4 : ∀ q : List Nat, q.length ≤ long q ∧ long q ≤ 3 * q.length := fun q => by
            induction q with
            | nil => exact ⟨Nat.le_refl _, Nat.le_refl _⟩
            | cons o q ih =>
              rw [long_cons, List.length_cons]
              have := w1_pos o
              have : w1 o ≤ 3 := by unfold w1; split <;> omega
              omega
          have := (e4 t').1
          have := (e4 (r.take (i + 1))).2
          omega
        have amb₇ := amb.keeps (y₆.all.trans k₇)
        have cr : s₇.heap.IsCell (L + 1) (some (.ref l)) := by have := (y₆.cell _ _ hcr).keeps k₇; rw [m3] at this; exact this
        refine wpAny_isTrue_Compare1 (rUpto (rCompCell cr rfl (rBi1 (own_comp own rfl) amb₇ amb.bLen (rCompVar ns₇ mv₇ (rLen lt ?_ fun u₈ s₈ k₈ => ⟨l, rv, t'.length, u₈, rfl, ?_, list_keeps hl (y₆.all.trans (k₇.trans (kHeap k₈))), hsr, fun c₉ s₉ k₉ n₉ l₉ => ?_⟩) rfl rfl rfl) rfl rfl rfl rfl rfl) rfl rfl rfl))
        · rw [List.size_toArray, IntsAre.len it, List.length_map]; omega
        · rw [List.size_toArray, IntsAre.len it, List.length_map]
        · have k₇₉ := kTrans k₈ k₉
          refine rCompVar (ns₇.keeps (kHeap k₇₉)) mv₇ (eq_intsK l₉.isList (IntsAre.take hi _) (list_keeps lt (kHeap k₇₉)) it (by have := rm₁.un; omega) (wpAny_truthy_bool ⟨?_, k₇₉⟩)) rfl rfl rfl
          rw [← List.map_take, take_eq_dec]
      have met₇ : RowsAre g₇ ys₇ (metAt r (i + 1)) := rt₇
      have hyl : ys₇.length ≤ 1000 := Nat.le_trans tl₇ (by rw [List.length_drop]; omega)
      refine wpAny_execs_cons (rAppend x₇ (lkN rfl m1) (rBi1 own (amb.keeps x₇.all) amb.bMax (rMapRows rm₁.hh (cl := []) (rLocal x₇ lkY ⟨D₇, ys₇, metAt r (i + 1), long, rfl, list_keeps lt₇ x₇.keep, met₇.lists x₇.keep.lists, hyl, ?_, fun D₈ s₈ ys₈ k₈ n₈ l₈ i₈ => ?_⟩ rfl rfl rfl) rfl (by decide) rfl (by decide) rfl (fun _ => rfl)) rfl rfl rfl rfl rfl) rfl rfl rfl rfl rfl rfl rfl rfl)
      · intro C s₈ m₈ ta' t' E' k₈ ns₈ mv₈ rt ht
        have amb₈ := amb.keeps (x₇.all.trans k₈)
        obtain ⟨al, gl, fl⟩ := amb₈.fLong
        refine rCall1 (own_comp own rfl) amb₈ gl fl (rCompVar ns₈ mv₈ ⟨kRefl, ?_⟩ rfl rfl rfl) rfl rfl rfl rfl
        exact c_long amb₈ (rm₁.le (by decide)) fl rt (metAt_octets ho ht) (by have := metAt_len ho ht; omega) fun u s₉ k₉ => ⟨⟨_, rfl⟩, k₉⟩
      · rw [sum_long] at i₈
        have hz : 0 ∈ (metAt r (i + 1)).map long := List.mem_map.mpr ⟨[], nil_mem_metAt (by omega) (by omega), rfl⟩
        refine rMax rm₁.hh l₈ i₈ (mx_int0 _ hz).1 (mx_int0 _ hz).2 fun u₉ s₉ k₉ => ?_
        refine ⟨g₇, _, _, x₇.keeps (kTrans k₈ k₉), by simpa using Nat.le_trans (show dv₁.length ≤ 1000 by omega) sizeLine_big, fun s₁₀ x₁₀ => ?_⟩
        rw [List.push_toArray] at x₁₀
        refine wpAny_execs_nil ⟨rfl, g₇, _, _, _, kg₁.trans (kg₆.trans kg₇), x₁₀, _, D₇, ys₇, lkN rfl m1, lkY, m3, rfl, ?_, by simp only [List.length_append, List.length_singleton]; omega, lt₇, met₇, hyl⟩
        rw [List.range_succ, List.flatMap_append, List.flatMap_singleton, dueAt, ← List.append_assoc, List.map_append]
        exact IntsAre.append hdv₁ (.cons _ _ .nil)
  · -- return due
    rintro g' m cm V s₇ kg x₇ ⟨dv, lm, mv, m1, m2, m3, rfl, hdv, hdl, glm, hmv, hml⟩
    exact wpAny_execs_cons (wpAny_Return_some (rLocal x₇ m1 ⟨_, rfl, h b s₇ x₇.done fin ⟨dv, Heap.PlainList.isList (x₇.vol _ (.head _)).1, hdv⟩⟩ rfl rfl rfl))
end
end Ov
end

section
open PySem PySem.W PyProof.Rows PySem.Calls
namespace Ov

section
variable {prog : Program} {w : World} {A : Around} {E : Value → Shared → Prop} {s : Shared} {mg mb : Str → Option Value} {env : Env}

theorem rBi2 {f : Str} {p pos : Pos} {e₁ e₂ : Expr} {id : String} {Q : Value → Shared → Prop} (o : Own env) (amb : Amb mg mb s.heap) (hv : bi mg mb f (.builtin id))
    (h : wpAny (model prog w) A (eval e₁ env) (fun v s₁ => wpAny (model prog w) A (eval e₂ env) (fun u s₂ => wpAny (model prog w) A (call (.builtin id) [v, u]) Q E s₂) E s₁) E s)
    (hx : env.kindOf f = some .globalImplicit) (hd : (f == ("__debug__" : Str)) = false)
    (hc : eval (.Call (.Name f p) [e₁, e₂] [] pos) env = (do callWith pos (← eval (.Name f p) env) [] (backTo pos (starEach [e₁, e₂] env)) (backToKw pos (keywordEach [] env))))
    (he : starEach [e₁, e₂] env = (false, eval e₁ env) :: starEach [e₂] env) (he₂ : starEach [e₂] env = (false, eval e₂ env) :: starEach [] env) (hp : (backTo pos (starEach [e₂] env)).any (·.1) = false) :
    wpAny (model prog w) A (eval (.Call (.Name f p) [e₁, e₂] [] pos) env) Q E s :=
  Call_ (rBi o amb hv (callWith_builtin1 (args_cons (wpAny_mono h (fun v s₁ h₁ => args_cons (wpAny_mono h₁ (fun u s₂ h₂ => args_nil h₂) fun _ _ x => x) he₂) fun _ _ x => x) he) he hp) hx hd) hc

theorem fmod_nat (a : Int) (n : Nat) (hn : 0 < n) : ∃ k : Nat, a.fmod (n : Int) = (k : Int) ∧ k < n := by
  have h1 : 0 ≤ a.fmod (n : Int) := Int.fmod_nonneg_of_pos a (by omega)
  have h2 : a.fmod (n : Int) < n := Int.fmod_lt_of_pos a (by omega)
  exact ⟨(a.fmod n).toNat, by omega, by omega⟩

theorem ints_of_bytes : ∀ {vs ys : List Value}, Paired (fun _ y => ∃ (o : Nat) (t : Tok), y = Value.int (o : Int) t ∧ o < 256) vs ys → ∃ r : List Nat, IntsAre ys (r.map Int.ofNat) ∧ Octets r
  | _, _, .nil => ⟨[], .nil, fun _ h => nomatch h⟩
  | _, _, .cons ⟨o, t, e, ho⟩ h => by
    obtain ⟨r, i, hr⟩ := ints_of_bytes h
    subst e
    refine ⟨o :: r, .cons _ t i, fun x hx => ?_⟩
    rcases List.mem_cons.mp hx with rfl | hx
    · exact ho
    · exact hr x hx

theorem rFive {s₀ : Shared} {g : Heap} {m cm : Str → Option Value} {V : List (Addr × Bool × Array Value)} {n : Str} {p pos cp : Pos} {ck : Nat} {j : Nat} {c z : Addr} {fl : List Value} {F5 : List Nat} {Q : Value → Shared → Prop} (x : Fm s₀ g env m cm V s)
    (hc : env.cells.lookup n = some c) (hz : cm n = some (.ref z)) (gl : g.IsList z fl.toArray) (i5 : IntsAre fl (F5.map Int.ofNat)) (hj : j < F5.length) (hj5 : j < 1000)
    (h : ∀ t s', Keeps s s' → Q (.int ((F5[j] : Nat) : Int) t) s')
    (hk : env.scope.kind = .function) (hl : env.kindOf n = some .cell) (hd : (n == ("__debug__" : Str)) = false)
    (hs : ∀ l k t, subscripted (.Constant (.int (j : Int)) ck cp) false (.ref l) (.int k t) = operate [.ref l, .int k t] (getItem (.ref l) (.int k t))) :
    wpAny (model prog w) A (eval (.Subscript (.Name n p) (.Constant (.int (j : Int)) ck cp) pos) env) Q E s := by
  obtain ⟨t, e⟩ := row_get i5 hj
  exact rItem (rCell x hc hz (rInt fun u s₁ k₁ => ⟨z, _, j, u, _, rfl, rfl, list_keeps gl (x.keeps k₁).keep, by omega, e, h t s₁ k₁⟩) hk hl hd) hs

theorem c_row {a l : Addr} {vs : List Value} {ns : List Int} {Q : Value → Shared → Prop} (amb : Amb mg mb s.heap) (rm : Room A 2) (hf : IsFnAt s.heap a 23 .none) (hl : s.heap.IsList l vs.toArray) (hi : IntsAre vs ns) (hn : ns.length ≤ 1000)
    (h : ∀ b r s', Keeps s s' → s.heap.get? b = none → Row s'.heap b r → Octets r → r.length ≤ 16 → 0 < r.length → Q (.ref b) s') : wpAny (model prog w) A (call (.ref a) [.ref l]) Q E s := by
  have hlen := IntsAre.len hi
  refine enterFn (binds := [(Str.ofString "script", .ref l)]) rm.lt hf amb.lim (fun _ _ _ _ _ _ _ _ => BindsTo.of_eq rfl) (fun k x hx => .inr ?_) rfl rfl rfl ?_
  · rw [List.mem_singleton] at hx; subst hx; exact ⟨rfl, rfl⟩
  intro q L cd s₁ x
  have rm₁ := rm.deeper (env := envAt 23 q L a cd)
  have own : Own (envAt 23 q L a cd) := own_envAt rfl
  have hcn : ((envAt 23 q L a cd).cells.map (·.1)).Nodup := (show List.Nodup [Str.ofString "five", Str.ofString "script"] by decide)
  have hcs : (envAt 23 q L a cd).cells.lookup (Str.ofString "script") = some (L + 1) := rfl
  have hcf : (envAt 23 q L a cd).cells.lookup (Str.ofString "five") = some (L + 2) := rfl
  -- octet
  refine wpAny_execs_cons (wpAny_Assign_Name (wpAny_BinOp (wpAny_BinOp (rInt fun t₂ s₂ k₂ => rBi1 own (amb.keeps (x.keeps k₂).all) amb.bSum (rCell (x.keeps k₂) hcs rfl ?_ rfl rfl rfl) rfl rfl rfl rfl rfl))))
  refine rSum rm₁.hh (list_keeps hl (x.keeps k₂).all) hi fun t₃ s₃ k₃ => add_int (rInt fun t₄ s₄ k₄ => mod_int (by decide) ?_)
  obtain ⟨o, eo, ho⟩ := fmod_nat (233 + ns.sum) 256 (by decide)
  rw [show (233 + ns.sum).fmod 256 = (o : Int) from eo]
  have x₄ := x.keeps (kTrans k₂ (kTrans k₃ (kTrans (kTok (t := s₃.toks + 1)) (kTrans k₄ (kTok (t := s₄.toks + 1))))))
  refine rStore x₄ (fun s₅ x₅ _ => ?_) rfl rfl
  -- five
  refine wpAny_execs_cons (wpAny_Assign_Name (wpAny_BinOp (wpAny_BinOp (List_ (args_cons (rLocal x₅ lkY (args_nil (rNew (fun z₆ s₆ k₆ n₆ l₆ _ => ?_) (Nat.le_trans (show 1 ≤ 1000 by decide) sizeLine_big))) rfl rfl rfl))))))
  have x₆ := x₅.keeps k₆
  have amb₆ := amb.keeps x₆.all
  obtain ⟨af, gf, ff⟩ := amb₆.fFigs
  refine rCall1 own amb₆ gf ff (rLocal x₆ lkY ⟨kRefl, ?_⟩ rfl rfl rfl) rfl rfl rfl rfl
  refine c_figs amb₆ rm₁ ff ho fun z₇ s₇ k₇ n₇ rd => ?_
  obtain ⟨fv, hfl, hfi⟩ := rd
  have hfn : fv.length = 2 := by have := IntsAre.len hfi; rw [List.length_map] at this; exact this
  refine rAddLists (list_keeps l₆ (kHeap k₇)) hfl (Nat.le_trans (show _ ≤ 1000 by rw [hfn]; simp only [List.length_cons, List.length_nil]; omega) sizeLine_big) fun z₈ s₈ k₈ n₈ l₈ => ?_
  have x₈ := x₆.keeps (kTrans k₇ k₈)
  refine List_ (args_cons (wpAny_BinOp (wpAny_BinOp (rLocal x₈ lkY (rInt fun t₉ s₉ k₉ => add_int (rInt fun t₁₀ s₁₀ k₁₀ => mod_int (by decide) ?_)) rfl rfl rfl))))
  obtain ⟨o1, eo1, ho1⟩ := fmod_nat ((o : Int) + 1) 256 (by decide)
  rw [show ((o : Int) + 1).fmod 256 = (o1 : Int) from eo1]
  have k₈₁ := kTrans k₉ (kTrans (kTok (t := s₉.toks + 1)) (kTrans k₁₀ (kTok (t := s₁₀.toks + 1))))
  have x₁₀ := x₈.keeps k₈₁
  refine args_cons (wpAny_BinOp (wpAny_BinOp (rLocal x₁₀ lkY (rInt fun t₁₁ s₁₁ k₁₁ => add_int (rInt fun t₁₂ s₁₂ k₁₂ => mod_int (by decide) ?_)) rfl rfl rfl)))
  obtain ⟨o2, eo2, ho2⟩ := fmod_nat ((o : Int) + 16) 256 (by decide)
  rw [show ((o : Int) + 16).fmod 256 = (o2 : Int) from eo2]
  have k₁₀₁ := kTrans k₁₁ (kTrans (kTok (t := s₁₁.toks + 1)) (kTrans k₁₂ (kTok (t := s₁₂.toks + 1))))
  refine args_nil (rNew (fun z₁₃ s₁₃ k₁₃ n₁₃ l₁₃ _ => ?_) (Nat.le_trans (show 2 ≤ 1000 by decide) sizeLine_big))
  have k₈₁₃ := kTrans k₈₁ (kTrans k₁₀₁ k₁₃)
  refine rAddLists (list_keeps l₈.isList (kHeap k₈₁₃)) l₁₃ (Nat.le_trans (show _ ≤ 1000 by rw [List.length_append, hfn]; simp only [List.length_cons, List.length_nil]; omega) sizeLine_big) fun z₁₄ s₁₄ k₁₄ n₁₄ l₁₄ => ?_
  obtain ⟨g₁₄, x₁₄, kg₁₄, gl₁₄⟩ := (x₈.keeps k₈₁₃).newList hcn k₁₄ n₁₄ l₁₄.isList
  refine rStoreCell x₁₄ hcf (fun s₁₅ x₁₅ _ => ?_) rfl rfl
  have i5 : IntsAre (([Value.int (o : Int) s₄.toks] ++ fv) ++ [Value.int (o1 : Int) s₁₀.toks, Value.int (o2 : Int) s₁₂.toks]) ([o, f1 o, f2 o, o1, o2].map Int.ofNat) :=
    IntsAre.append (ns := [o, f1 o, f2 o].map Int.ofNat) (.cons _ _ hfi) (.cons _ _ (.cons _ _ .nil))
  have f1l : f1 o < 256 := dig_lt (f1_lt ho)
  have f2l : f2 o < 256 := dig_lt (f2_lt o)
  have oct5 : ∀ j (hj : j < 5), [o, f1 o, f2 o, o1, o2][j] < 256 := fun j hj => by
    match j, hj with
    | 0, _ => exact ho
    | 1, _ => exact f1l
    | 2, _ => exact f2l
    | 3, _ => exact ho1
    | 4, _ => exact ho2
  generalize hF : (([Value.int (o : Int) s₄.toks] ++ fv) ++ [Value.int (o1 : Int) s₁₀.toks, Value.int (o2 : Int) s₁₂.toks]) = fl at i5 gl₁₄
  -- row
  refine wpAny_execs_cons (rCompA (s₀ := s) (cl := [(Str.ofString "script", L + 1), (Str.ofString "five", L + 2)]) (rRange1 own (amb.keeps x₁₅.all) (rBi2 own (amb.keeps x₁₅.all) amb.bMin (rInt fun t₁₆ s₁₆ k₁₆ => rBi1 own (amb.keeps (x₁₅.keeps k₁₆).all) amb.bLen (rCell (x₁₅.keeps k₁₆) hcs (lkN rfl rfl) ?_ rfl rfl rfl) rfl rfl rfl rfl rfl) rfl rfl rfl rfl rfl rfl) rfl rfl rfl rfl) rfl rfl rfl rfl (by decide) rfl (by decide) rfl (fun _ => rfl))
  refine rLen (list_keeps hl (x₁₅.keeps k₁₆).all) (by rw [List.size_toArray]; omega) fun t₁₇ s₁₇ k₁₇ => ?_
  refine wpAny_mono (Q := fun v s' => (∃ (n : Nat) (t : Tok), v = .int (n : Int) t ∧ n ≤ 5) ∧ Keeps s₁₇ s') (min_two_ints rm₁.hh fun h' tk kh => ⟨?_, kSt kh⟩) (fun v s₁₈ hv => ?_) fun _ _ e => e
  · split
    · rename_i hlt
      exact ⟨_, _, rfl, by omega⟩
    · exact ⟨5, _, rfl, Nat.le_refl _⟩
  obtain ⟨⟨nn, tn, rfl, hnn⟩, k₁₈⟩ := hv
  refine ⟨nn, tn, rfl, fun rr tr ur vr s₁₉ k₁₉ hrr => ?_⟩
  have x₁₉ := x₁₅.keeps (kTrans k₁₆ (kTrans k₁₇ (kTrans k₁₈ k₁₉)))
  refine ⟨g₁₄, _, _, _, _, nn, fun _ => true, fun _ y => ∃ (o : Nat) (t : Tok), y = Value.int (o : Int) t ∧ o < 256, x₁₉, srcRange rm₁.hh hrr (by omega), Nat.le_trans (by omega) sizeLine_big, ⟨?_, ?_⟩, fun D s₂₀ ys us x₂₀ n₂₀ k₂₀ l₂₀ len hP hFF => ?_⟩
  · intro C i v s₂₀ m₂₀ E' _ _ _ _
    exact wpAny_pure ⟨rfl, kRefl⟩
  · intro C i v s₂₀ m₂₀ E' hP _ k₂₀ ns₂₀ mv₂₀
    obtain ⟨_, ti, rfl⟩ := hP
    have amb₂₀ := amb.keeps (x₁₉.all.trans k₂₀)
    have cs : s₂₀.heap.IsCell (L + 1) (some (.ref l)) := (x₁₉.cell _ _ hcs).keeps k₂₀
    have cf : s₂₀.heap.IsCell (L + 2) (some (.ref z₁₄)) := (x₁₉.cell _ _ hcf).keeps k₂₀
    have lF : s₂₀.heap.IsList z₁₄ fl.toArray := list_keeps gl₁₄ (x₁₉.keep.trans k₂₀)
    refine rItem (rCompCell cf rfl (wpAny_BinOp (rBi1 (own_comp own rfl) amb₂₀ amb.bSum (rSlice (rCompCell cs rfl (show wpAny _ _ (eval _ _) _ _ _ from rCompVar ns₂₀ mv₂₀ (wpAny_of_eq (evalPart_none _) (show wpAny _ _ (eval _ _) _ _ _ from rInt fun u₂₁ s₂₁ k₂₁ => ⟨l, _, _, _, _, rfl, list_keeps hl (x₁₉.all.trans (k₂₀.trans (kHeap k₂₁))), by rw [List.size_toArray]; exact Nat.le_trans (by omega) sizeLine_big, .int _ _, .none, .int _ _, by decide, fun c s₂₂ k₂₂ n₂₂ l₂₂ => ?_⟩)) rfl rfl rfl) rfl rfl rfl) (fun _ _ => ⟨_, rfl⟩)) rfl rfl rfl rfl rfl)) rfl rfl rfl) (fun _ _ _ => rfl)
    have l₂₂' := l₂₂.isList
    rw [← Array.toArray_toList (xs := slicePick vs.toArray (some (i : Int)) none (some 5))] at l₂₂'
    refine rSum rm₁.hh l₂₂' (IntsAre.pick hi _ _ _) fun u₂₃ s₂₃ k₂₃ => rInt fun u₂₄ s₂₄ k₂₄ => mod_int (by decide) ?_
    obtain ⟨j, ej, hj⟩ := fmod_nat (pickNums ns (some (i : Int)) none (some 5)).sum 5 (by decide)
    rw [show (pickNums ns (some (i : Int)) none (some 5)).sum.fmod 5 = (j : Int) from ej]
    obtain ⟨tj, etj⟩ := row_get i5 (i := j) hj
    have kk := kTrans k₂₁ (kTrans k₂₂ (kTrans k₂₃ (kTrans k₂₄ (kTok (t := s₂₄.toks + 1)))))
    exact ⟨z₁₄, _, j, _, _, rfl, rfl, list_keeps lF (kHeap kk), by omega, etj, ⟨_, tj, rfl, oct5 j hj⟩, kk⟩
  · obtain ⟨rw', iw, hw⟩ := ints_of_bytes hFF
    have hyl : ys.length ≤ 5 := by
      have e1 := hFF.length
      have e2 := List.length_filter_le (fun _ => true) us
      omega
    have hrl : rw'.length ≤ 5 := by have := IntsAre.len iw; rw [List.length_map] at this; omega
    obtain ⟨g₂₁, x₂₁, kg₂₁, gl₂₁⟩ := x₁₉.newList' hcn x₂₀ n₂₀ l₂₀
    have gF := list_keeps gl₁₄ kg₂₁
    refine wpAny_execs_cons (wpAny_Return_some (wpAny_BinOp (rLocal x₂₁ lkY (List_ ?_) rfl rfl rfl)))
    refine args_cons (rFive (j := 1) x₂₁ hcf lkY gF i5 (by simp only [List.length_cons, List.length_nil]; omega) (by decide) (fun u0 t0 q0 => ?_) rfl rfl rfl (fun _ _ _ => rfl))
    have y0 := x₂₁.keeps q0
    refine args_cons (rFive (j := 2) y0 hcf lkY gF i5 (by simp only [List.length_cons, List.length_nil]; omega) (by decide) (fun u1 t1 q1 => ?_) rfl rfl rfl (fun _ _ _ => rfl))
    have y1 := y0.keeps q1
    refine args_cons (rLocal y1 (lkN rfl lkY) ?_ rfl rfl rfl)
    refine args_cons (rFive (j := 1) y1 hcf lkY gF i5 (by simp only [List.length_cons, List.length_nil]; omega) (by decide) (fun u3 t3 q3 => ?_) rfl rfl rfl (fun _ _ _ => rfl))
    have y3 := y1.keeps q3
    refine args_cons (rFive (j := 2) y3 hcf lkY gF i5 (by simp only [List.length_cons, List.length_nil]; omega) (by decide) (fun u4 t4 q4 => ?_) rfl rfl rfl (fun _ _ _ => rfl))
    have y4 := y3.keeps q4
    refine args_cons (rFive (j := 4) y4 hcf lkY gF i5 (by simp only [List.length_cons, List.length_nil]; omega) (by decide) (fun u5 t5 q5 => ?_) rfl rfl rfl (fun _ _ _ => rfl))
    have y5 := y4.keeps q5
    refine args_cons (rFive (j := 1) y5 hcf lkY gF i5 (by simp only [List.length_cons, List.length_nil]; omega) (by decide) (fun u6 t6 q6 => ?_) rfl rfl rfl (fun _ _ _ => rfl))
    have y6 := y5.keeps q6
    refine args_cons (rFive (j := 2) y6 hcf lkY gF i5 (by simp only [List.length_cons, List.length_nil]; omega) (by decide) (fun u7 t7 q7 => ?_) rfl rfl rfl (fun _ _ _ => rfl))
    have y7 := y6.keeps q7
    refine args_cons (rFive (j := 3) y7 hcf lkY gF i5 (by simp only [List.length_cons, List.length_nil]; omega) (by decide) (fun u8 t8 q8 => ?_) rfl rfl rfl (fun _ _ _ => rfl))
    have y8 := y7.keeps q8
    refine args_cons (rLocal y8 (lkN rfl lkY) ?_ rfl rfl rfl)
    refine args_cons (rLocal y8 (lkN rfl lkY) ?_ rfl rfl rfl)
    refine args_nil (rNew (fun z₃₀ s₃₀ k₃₀ n₃₀ l₃₀ _ => ?_) (Nat.le_trans (show 11 ≤ 1000 by decide) sizeLine_big))
    have y₃₀ := y8.keeps k₃₀
    refine rAddLists (list_keeps gl₂₁ y₃₀.keep) l₃₀ (Nat.le_trans (show _ ≤ 1000 by simp only [List.length_cons, List.length_nil]; omega) sizeLine_big) fun z₃₁ s₃₁ k₃₁ n₃₁ l₃₁ => ?_
    have y₃₁ := y₃₀.keeps k₃₁
    refine ⟨_, rfl, h z₃₁ (rw' ++ [f1 o, f2 o, o, f1 o, f2 o, o2, f1 o, f2 o, o1, o, o]) s₃₁ y₃₁.done ?_ ⟨_, l₃₁.isList, ?_⟩ ?_ ?_ ?_⟩
    · cases q : s.heap.get? z₃₁ with
      | none => rfl
      | some o => rw [y₃₀.all _ _ q] at n₃₁; cases n₃₁
    · rw [List.map_append]
      exact IntsAre.append iw (.cons _ _ (.cons _ _ (.cons _ _ (.cons _ _ (.cons _ _ (.cons _ _ (.cons _ _ (.cons _ _ (.cons _ _ (.cons _ _ (.cons _ _ (.nil))))))))))))
    · intro w hw'
      rcases List.mem_append.mp hw' with hw' | hw'
      · exact hw w hw'
      · simp only [List.mem_cons, List.not_mem_nil, or_false] at hw'
        omega
    · rw [List.length_append]; simp only [List.length_cons, List.length_nil]; omega
    · rw [List.length_append]; simp only [List.length_cons, List.length_nil]; omega
end
end Ov
end

section
open PySem PySem.W PyProof.Rows PySem.Calls
set_option maxRecDepth 100000
namespace Ov
open PySem.Builtin

theorem rLatin {M : Model} {A : Around} {E : Value → Shared → Prop} {s : Shared} (id : String) (l : List UInt8) (hn : l.length ≤ 1000) {Q : Array Nat × Nat → Shared → Prop} (h : Q ((l.map (·.toNat)).toArray, l.length) s) :
    wpAny M A (_codecs.runDecoder id _codecs.latin1Decoder none true l.toArray 0 []) Q E s := by
  unfold _codecs.runDecoder
  dsimp only
  rw [Std.Legacy.Range.forIn_eq_forIn_range']
  have hsz : [:l.toArray.size].size = l.length := by simp [Std.Legacy.Range.size]
  refine wpAny_bind (wpAny_forIn_list _ (fun rest b s' => s' = s ∧ rest.length ≤ l.length ∧ b.1 = l.length - rest.length ∧ b.2.1 = ((l.take (l.length - rest.length)).map (·.toNat)).toArray) _ ?_ ?_ _ _ ?_)
  · rintro x rest ⟨p, out, st⟩ s' ⟨rfl, hr, hp, ho⟩
    dsimp only at hp ho ⊢
    rw [List.length_cons] at hr hp ho
    have hlt : p < l.length := by omega
    have hos : out.size = p := by rw [ho, hp]; simp only [List.size_toArray, List.length_map, List.length_take]; omega
    rw [if_neg (by rw [hos]; have := sizeLine_big; omega), if_neg (by rw [List.size_toArray]; omega)]
    refine wpAny_pure ⟨rfl, by omega, by omega, ?_⟩
    show out ++ _ = _
    have e2 : l.length - rest.length = p + 1 := by omega
    rw [e2, ho, hp, ← hp, List.take_add_one, List.getElem?_eq_getElem hlt]
    show _ ++ ([(l.toArray.getD p 0).toNat] : List Nat).toArray = _
    simp [hlt]
    rw [List.take_add_one, List.getElem?_map, List.getElem?_eq_getElem hlt]; rfl
  · rintro ⟨p, out, st⟩ s' ⟨rfl, hr, hp, ho⟩
    dsimp only at hp ho ⊢
    refine wpAny_pure ?_
    rw [ho, hp]
    simpa using h
  · refine ⟨rfl, ?_, ?_, ?_⟩
    · rw [List.length_range', hsz]; exact Nat.le_refl _
    · rw [List.length_range', hsz, Nat.sub_self]
    · rw [List.length_range', hsz, Nat.sub_self]; rfl

def latS : Str := Str.ofString "latin1"
section
variable {b : Array UInt8} {c : UInt8} {cs : List UInt8} {t t1 : Tok}
theorem road_latin {id : String} : _codecs.decodeRoad id b latS none [] = (_codecs.runDecoder id _codecs.latin1Decoder none true b 0 [] >>= fun r => mkStr ⟨r.1⟩) := by kernel_rfl
theorem entry_latin : «bytes.decode» ⟨[.bytes (c :: cs).toArray t, .str latS t1], []⟩ = (mkStr (PySem.Str.ofString "utf-8") >>= fun _ => mkStr latS >>= fun e => mkStr (PySem.Str.ofString "bytes.decode") >>= fun d =>
    call (.builtin "_codecs.decode.text") [.bytes (c :: cs).toArray t, e, .none, d] >>= fun v => ret v) := by kernel_rfl
theorem args_decode_2 (a b : Value) : argsOk "bytes.decode" ⟨[a, b], []⟩ := by
  unfold argsOk; rw [signature?_of (id := "bytes.decode") (n := ['e', 'd', 'o', 'c', 'e', 'd']) (o := ['s', 'e', 't', 'y', 'b']) (by kernel_rfl) FB.owner_bytes]; kernel_rfl
theorem meets_latin_text {l : List UInt8} {t1 t2 : Tok} {d : PySem.Str} (hn : l.length ≤ 1000) :
    Meets («_codecs.decode.text» ⟨[.bytes l.toArray t, .str latS t1, .none, .str d t2], []⟩) (fun _ R s => R (.ok (.ret (.str ⟨(l.map (·.toNat)).toArray⟩ s.toks))) { s with toks := s.toks + 1 }) := by
  refine .of_wp fun prog w A R s h => ?_
  show wpAny _ _ (Bytes.bytesLike _ (.bytes l.toArray t) >>= fun r => _) _ _ s
  refine wpAny_bind (wpAny_of_eq KBd.like_eq ?_)
  refine wpAny_bind (wpAny_of_eq KBd.held_eq ?_)
  show wpAny _ _ (_codecs.decodeRoad _ l.toArray latS none [] >>= fun v => _) _ _ s
  rw [road_latin]
  refine wpAny_bind (wpAny_bind (rLatin _ l hn ?_))
  exact wpAny_mkStr (wpAny_pure ⟨_, rfl, h⟩) (Nat.le_trans (show (List.map (·.toNat) l).toArray.size ≤ 1000 by simpa using hn) sizeLine_big)
theorem meets_latin (hn : (c :: cs).length ≤ 1000) :
    Meets («bytes.decode» ⟨[.bytes (c :: cs).toArray t, .str latS t1], []⟩) (fun _ R s => ∀ t' k, R (.ok (.ret (.str ⟨((c :: cs).map (·.toNat)).toArray⟩ t'))) { s with toks := k }) := by
  refine .of_wp fun prog w A R s h => ?_
  rw [entry_latin]
  refine wpAny_bind (wpAny_mkStr ?_ (by decide))
  refine wpAny_bind (wpAny_mkStr ?_ (by decide))
  refine wpAny_bind (wpAny_mkStr ?_ (by decide))
  exact wpAny_bind (call_function_meets KBd.kind_text KBd.plain_text KBd.entry_text (KBd.args_text _ _ _ _) (meets_latin_text hn) (wpAny_pure ⟨_, rfl, h _ _⟩))
end
section
variable {prog : Program} {w : World} {A : Around} {E : Value → Shared → Prop} {s : Shared} {l : List UInt8} {t t1 : Tok}
theorem rDecode {Q : Value → Shared → Prop} (hl : l ≠ []) (hn : l.length ≤ 1000) (h : ∀ t' s', Keeps s s' → Q (.str ⟨(l.map (·.toNat)).toArray⟩ t') s') :
    wpAny (model prog w) A (call (.builtin "bytes.decode") [.bytes l.toArray t, .str latS t1]) Q E s := by
  obtain ⟨c, cs, rfl⟩ := List.exists_cons_of_ne_nil hl
  exact call_meets FB.slot_bytes_decode (typeIs_bytes _ _ _) FB.entry_bytes_decode (args_decode_2 _ _) (meets_latin hn) (fun t' k => h _ _ kTok)
end
end Ov
end

section
open PySem PySem.W PyProof.Rows PySem.Calls
set_option maxRecDepth 100000
namespace Ov
open PySem.Builtin

theorem rLookup {prog : Program} {w : World} {A : Around} {E : Value → Shared → Prop} {s : Shared} {z : Addr} {items : Array Value} {c : Nat} {x : Str} {t : Tok} {Q : Str.Mapped → Shared → Prop} (hl : s.heap.IsList z items) (hc : c < 256) (hx : items[c]? = some (.str x t))
    (h : ∀ s', Keeps s s' → Q (.text x) s') : wpAny (model prog w) A (Str.tableLookup (.ref z) c) Q E s := by
  unfold Str.tableLookup
  refine wpAny_bind (wpAny_attempt (wpAny_bind (wpAny_mkInt (wpAny_getItem_list hl (by omega) (by omega) (x := .str x t) (by simpa using hx) ?_))))
  exact wpAny_bind (wpAny_of_eq (show asInt? (.str x t) = pure none from rfl) (wpAny_bind (wpAny_of_eq (show asStr? (.str x t) = pure (some x) from rfl) (wpAny_pure (h _ kTok)))))

theorem foldl_pieces : ∀ (l : List Str) (acc : Array Nat), (l.foldl (fun acc p => acc ++ p.cps) acc).toList = acc.toList ++ l.flatMap (·.cps.toList)
  | [], acc => by simp
  | p :: l, acc => by
    rw [List.foldl_cons, foldl_pieces l]
    simp
theorem w1_le (o : Nat) : w1 o ≤ 3 := by unfold w1; split <;> omega
theorem long_le : ∀ r : List Nat, long r ≤ 3 * r.length
  | [] => Nat.le_refl _
  | o :: r => by
    have := long_le r
    have := w1_le o
    rw [long_cons, List.length_cons]; omega

abbrev TSt := List Str × Nat × Bool × List (Nat × Option Nat) × Bool
def TInv (s : Shared) (r : List Nat) (rest : List Nat) (b : TSt) (s' : Shared) : Prop :=
  Keeps s s' ∧ (∃ done, r = done ++ rest ∧ b.1.reverse.flatMap (·.cps.toList) = enc done ∧ b.2.1 = (enc done).length) ∧ b.2.2.2.2 = false ∧ ∀ c a, b.2.2.2.1.lookup c = some a → ∃ d, a = some d ∧ enc1 c = [d]

theorem tinv_next {s s' s'' : Shared} {r rest : List Nat} {c : Nat} {pieces : List Str} {total : Nat} {fast fast' : Bool} {known known' : List (Nat × Option Nat)} {p : Str} (x : TInv s r (c :: rest) (pieces, total, fast, known, false) s') (k : Keeps s' s'')
    (hp : p.cps.toList = enc1 c) (hk : ∀ c a, known'.lookup c = some a → ∃ d, a = some d ∧ enc1 c = [d]) : TInv s r rest (p :: pieces, total + p.length, fast', known', false) s'' := by
  obtain ⟨k₁, ⟨done, e1, e2, e3⟩, _, _⟩ := x
  refine ⟨kTrans k₁ k, ⟨done ++ [c], by rw [e1]; simp, ?_, ?_⟩, rfl, hk⟩
  · show (p :: pieces).reverse.flatMap _ = _
    rw [List.reverse_cons, List.flatMap_append, show pieces.reverse.flatMap (·.cps.toList) = enc done from e2, enc_append]
    simp [hp, enc]
  · show total + p.length = _
    have : p.length = (enc1 c).length := by rw [← hp]; simp [Str.length]
    rw [show total = (enc done).length from e3, this, enc_append, List.length_append]
    simp [enc]

theorem meets_translate {r : List Nat} {t : Tok} {z : Addr} {items : Array Value} (hr : Octets r) (hne : r ≠ []) (hn : r.length ≤ 1000) (ht : Table items) :
    Meets (Builtin.«str.translate» ⟨[.str ⟨r.toArray⟩ t, .ref z], []⟩) (fun _ R s => s.heap.IsList z items ∧ ∀ t' s', Keeps s s' → R (.ok (.ret (.str ⟨(enc r).toArray⟩ t'))) s') := by
  refine .of_wp fun prog w A R s h => ?_
  obtain ⟨hl, h⟩ := h
  unfold Builtin.«str.translate»
  refine wpAny_bind (wpAny_of_eq (show Str.strOneArg "translate" { pos := [Value.str ⟨r.toArray⟩ t, Value.ref z] } = pure (.str ⟨r.toArray⟩ t, ⟨r.toArray⟩, .ref z) from rfl) ?_)
  dsimp only
  have hlen : (Str.mk r.toArray).length = r.length := by simp [Str.length]
  rw [if_neg (by rw [hlen]; simp [hne])]
  have big : ∀ n, n ≤ 3000 → Str.tooLong n = false := fun n hn => by
    unfold Str.tooLong
    rw [sizeLine_eq]
    exact decide_eq_false (by omega)
  have encle : ∀ done rest : List Nat, r = done ++ rest → (enc done).length ≤ 3000 := fun done rest e => by
    rw [enc_length]
    have := long_le done
    have : done.length ≤ r.length := by rw [e, List.length_append]; omega
    omega
  rw [← Array.forIn_toList]
  refine wpAny_bind (wpAny_forIn_list _ (fun rest b s' => TInv s r rest b s') _ ?_ ?_ _ _ ?_)
  · rintro c rest ⟨pieces, total, fast, known, ad⟩ s' hI
    obtain ⟨k₁, ⟨done, e1, e2, e3⟩, had, hknown⟩ := id hI
    have had' : ad = false := had
    subst had'
    have hc : c < 256 := hr c (by rw [e1]; simp)
    obtain ⟨tc, etc⟩ := ht c hc
    dsimp only at e2 e3 hknown ⊢
    rw [if_neg (by rw [e3, big _ (encle done _ e1)]; decide)]
    have slow : ∀ (s₁ : Shared) (known' : List (Nat × Option Nat)) (fast' : Bool), Keeps s' s₁ → (∀ c a, known'.lookup c = some a → ∃ d, a = some d ∧ enc1 c = [d]) → ∀ s₂, Keeps s₁ s₂ → TInv s r rest ((⟨(enc1 c).toArray⟩ : Str) :: pieces, total + (Str.mk (enc1 c).toArray).length, fast', known', false) s₂ :=
      fun s₁ known' fast' k hk s₂ k₂ => tinv_next hI (kTrans k k₂) rfl hk
    cases fast with
    | false =>
      refine wpAny_bind (rLookup (list_keeps hl (kHeap k₁)) hc etc fun s₁ k => wpAny_pure ?_)
      exact slow s₁ known false k hknown s₁ kRefl
    | true =>
      rw [if_pos rfl]
      cases hlk : List.lookup c known with
      | some a =>
        obtain ⟨d, rfl, ed⟩ := hknown c a hlk
        refine wpAny_bind (wpAny_pure (wpAny_pure ?_))
        exact tinv_next (p := ⟨#[d]⟩) hI kRefl (by simp [ed]) hknown
      | none =>
        refine wpAny_bind (rLookup (list_keeps hl (kHeap k₁)) hc etc fun s₁ k => ?_)
        dsimp only
        by_cases hcond : ((Str.mk (enc1 c).toArray).length == 1 && (Str.mk (enc1 c).toArray).cps.all fun x => decide (x < 128)) = true
        · rw [if_pos hcond]
          have hl1 : (enc1 c).length = 1 := by
            have := (Bool.and_eq_true _ _ |>.mp hcond).1
            simpa [Str.length] using this
          obtain ⟨d, ed⟩ := List.length_eq_one_iff.mp hl1
          have e0 : (Str.mk (enc1 c).toArray).cps[0]? = some d := by rw [ed]; rfl
          rw [e0]
          refine wpAny_bind (wpAny_pure (wpAny_pure ?_))
          refine tinv_next (p := ⟨#[d]⟩) hI k (by simp [ed]) fun c' a' e => ?_
          rw [List.lookup_cons] at e
          cases hcc : c' == c with
          | true =>
            rw [hcc] at e
            cases e
            exact ⟨d, rfl, by rw [beq_iff_eq.mp hcc]; exact ed⟩
          | false => rw [hcc] at e; exact hknown c' a' e
        · rw [if_neg hcond]
          refine wpAny_bind (wpAny_pure (wpAny_bind (wpAny_rule ?_)))
          refine wpAny_bind (rLookup (list_keeps hl (kHeap (kTrans k₁ k))) hc etc fun s₂ k₂ => wpAny_pure ?_)
          exact slow s₂ known false (kTrans k k₂) hknown s₂ kRefl
  · rintro ⟨pieces, total, fast, known, ad⟩ s' ⟨k₁, ⟨done, e1, e2, e3⟩, had, hknown⟩
    rw [List.append_nil] at e1
    subst e1
    dsimp only at e2 e3 ⊢
    rw [if_neg (by rw [e3, big _ (encle r [] (by simp))]; decide)]
    have ef : List.foldl (fun acc p => acc ++ p.cps) #[] pieces.reverse = (enc r).toArray := by
      have := foldl_pieces pieces.reverse #[]
      rw [e2] at this
      rw [← Array.toArray_toList (xs := List.foldl _ _ _), this]; simp
    rw [ef]
    refine wpAny_bind (wpAny_mkStr ?_ ?_)
    · exact wpAny_pure ⟨_, rfl, h _ _ (kTrans k₁ kTok)⟩
    · show (enc r).toArray.size ≤ _
      rw [List.size_toArray, sizeLine_eq]
      have := encle r [] (by simp)
      omega
  · exact ⟨kRefl, ⟨[], rfl, rfl, rfl⟩, rfl, fun c a e => nomatch e⟩
end Ov
end

section
open PySem PySem.W PyProof.Rows PySem.Calls
set_option maxRecDepth 100000
set_option maxHeartbeats 4000000
namespace Ov

def framed (c y : PySem.Str) : PySem.Str := Str.empty ++ PySem.Str.ofString "=?" ++ c ++ PySem.Str.ofString "?q?" ++ y ++ PySem.Str.ofString "?="

section
variable {prog : Program} {w : World} {A : Around} {E : Value → Shared → Prop} {s : Shared} {mg mb : Str → Option Value}

theorem rFmt {value : Expr} {pos : Pos} {env : Env} {Q : Value → Shared → Prop}
    (h : wpAny (model prog w) A (eval value env) (fun v s₁ => ∃ x t, v = .str x t ∧ x.length ≤ sizeLine ∧ ∀ t' s', Keeps s₁ s' → Q (.str x t') s') E s) : wpAny (model prog w) A (eval (.FormattedValue value 115 none pos) env) Q E s := by
  refine wpAny_FormattedValue_s (wpAny_mono h (fun v s₁ h₁ => ?_) fun _ _ e => e)
  obtain ⟨x, t, rfl, hx, hQ⟩ := h₁
  exact habitSame_str (fun t' k => formatField_str (fun t'' k' => hQ t'' _ (kTrans (kTok (t := k)) kTok)) hx) hx

theorem c_head {a T : Addr} {v : Value} {l : List UInt8} {r : List Nat} {c : PySem.Str} {t t2 : Tok} {Q : Value → Shared → Prop} (amb : Amb mg mb s.heap) (rm : Room A 1) (hf : IsFnAt s.heap a 13 (.ref T)) (hT : IsTup s.heap T #[v]) (hl : l.map (·.toNat) = r) (ho : Octets r) (hne : r ≠ []) (hn : r.length ≤ 300) (hc : c.length ≤ 1000)
    (h : ∀ t' s', Keeps s s' → Q (.str (framed c ⟨(enc r).toArray⟩) t') s') : wpAny (model prog w) A (call (.ref a) [.bytes l.toArray t, .str c t2]) Q E s := by
  have hll : l.length = r.length := by rw [← hl, List.length_map]
  refine enterFn (binds := [(Str.ofString "header_bytes", .bytes l.toArray t), (Str.ofString "charset", .str c t2)]) rm.lt hf amb.lim (fun _ _ _ _ _ _ _ _ => let ⟨_, hT₁, _, _, hT₂⟩ := hT; BindsTo.of_defaults rfl hT₁ hT₂ rfl rfl) (fun k x hx => .inl ?_) rfl rfl rfl ?_
  · simp only [List.mem_cons, List.not_mem_nil, or_false] at hx
    rcases hx with rfl | rfl <;> rfl
  intro q L cd s₁ x
  have own : Own (envAt 13 q L a cd) := own_envAt rfl
  -- if not header_bytes
  refine wpAny_execs_cons (wpAny_If (isTrue_not (isTrue_plain (rLocal x rfl (truthy_bytes ?_ ?_) rfl rfl rfl))))
  · rw [List.size_toArray]; omega
  have hb : (((l.toArray.size : Nat) : Int) != 0) = true := by
    rw [List.size_toArray, hll]
    have : r.length ≠ 0 := fun e => hne (List.eq_nil_of_length_eq_zero e)
    simp [this]
  rw [hb]
  refine wpAny_execs_nil ?_
  have x₂ := x.keeps (kTok (t := s₁.toks + 1 + 1))
  -- encoded
  refine wpAny_execs_cons (wpAny_Assign_Name (MethodCall_ (MethodCall_ (rLocal x₂ rfl (KBd.method (callWith_method1 (args_cons (rStr fun t₃ s₃ k₃ => args_nil ?_)))) rfl rfl rfl))))
  refine rDecode (l := l) (fun e => hne (by rw [← hl, e]; rfl)) (by omega) fun t₄ s₄ k₄ => ?_
  rw [hl]
  have x₄ := x₂.keeps (kTrans k₃ k₄)
  have amb₄ := amb.keeps x₄.all
  obtain ⟨z, items, gz, lz, tz⟩ := amb₄.fMap
  refine getMethod_builtin (typeIs_str _ _ _) PySem.F.plainAttrs_str PySem.F.slot_str_translate PySem.F.type_str_translate (fun a e => nomatch e) (callWith_method1 (args_cons (rGlob own amb₄ gz (args_nil ?_) rfl rfl)))
  refine call_meets PySem.F.slot_str_translate (typeIs_str _ _ _) PySem.F.entry_str_translate (PySem.F.args_str_translate_2 _ _) (meets_translate ho hne (by omega) tz) ⟨lz, fun t₅ s₅ k₅ => ?_⟩
  refine rStore (x₄.keeps k₅) (fun s₆ x₆ _ => ?_) rfl rfl
  have hy : (PySem.Str.mk (enc r).toArray).length ≤ 1000 := by
    show (enc r).toArray.size ≤ _
    rw [List.size_toArray, enc_length]
    have := long_le r
    omega
  have big : 10000 ≤ sizeLine := by rw [sizeLine_eq]; decide
  have l1 : (PySem.Str.ofString "=?").length = 2 := by decide
  have l2 : (PySem.Str.ofString "?q?").length = 3 := by decide
  have l0 : Str.empty.length = 0 := by decide
  have l3 : (PySem.Str.ofString "?=").length = 2 := by decide
  refine wpAny_execs_cons (wpAny_Return_some (JoinedStr_many (joinParts_cons (rStr fun t₇ s₇ k₇ => ⟨?_, joinParts_cons (rFmt (rLocal (x₆.keeps k₇) rfl ⟨c, t2, rfl, Nat.le_trans (by omega) big, fun t₈ s₈ k₈ => ⟨?_, joinParts_cons (rStr fun t₉ s₉ k₉ => ⟨?_, joinParts_cons (rFmt (rLocal ((x₆.keeps k₇).keeps (kTrans k₈ k₉)) rfl ⟨_, _, rfl, Nat.le_trans (by omega) big, fun t₁₀ s₁₀ k₁₀ => ⟨?_, joinParts_cons (rStr fun t₁₁ s₁₁ k₁₁ => ⟨?_, joinParts_nil ?_ ?_⟩)⟩⟩ rfl rfl rfl))⟩)⟩⟩ rfl rfl rfl))⟩))))
  rotate_left 5
  · exact ⟨_, rfl, h _ _ (kTrans (((x₆.keeps k₇).keeps (kTrans k₈ k₉)).keeps (kTrans k₁₀ k₁₁)).done kTok)⟩
  all_goals (refine Nat.le_trans ?_ big; simp only [strLen_append, l0, l1, l2, l3]; omega)
end
end Ov
end

section
open PySem PySem.W PyProof.Rows PySem.Calls
set_option maxHeartbeats 2000000
namespace Ov

section
variable {prog : Program} {w : World} {A : Around} {E : Value → Shared → Prop} {s : Shared} {mg mb : Str → Option Value} {env : Env}

theorem rRange2 {p pos : Pos} {e₁ e₂ : Expr} {Q : Value → Shared → Prop} (o : Own env) (amb : Amb mg mb s.heap)
    (h : wpAny (model prog w) A (eval e₁ env) (fun v s₁ => wpAny (model prog w) A (eval e₂ env) (fun u s₂ => ∃ (a n : Nat) (t₁ t₂ : Tok), v = .int (a : Int) t₁ ∧ u = .int (n : Int) t₂ ∧ ∀ r t u v s₃, Keeps s₂ s₃ → IsRange s₃.heap r (a : Int) (n : Int) 1 t u v → Q (.ref r) s₃) E s₁) E s)
    (hx : env.kindOf (Str.ofString "range") = some .globalImplicit)
    (hc : eval (.Call (.Name (Str.ofString "range") p) [e₁, e₂] [] pos) env = (do callWith pos (← eval (.Name (Str.ofString "range") p) env) [] (backTo pos (starEach [e₁, e₂] env)) (backToKw pos (keywordEach [] env))))
    (he : starEach [e₁, e₂] env = (false, eval e₁ env) :: starEach [e₂] env) (he₂ : starEach [e₂] env = (false, eval e₂ env) :: starEach [] env) (hp : (backTo pos (starEach [e₂] env)).any (·.1) = false) :
    wpAny (model prog w) A (eval (.Call (.Name (Str.ofString "range") p) [e₁, e₂] [] pos) env) Q E s := by
  refine Call_ (rBi o amb amb.bRange (callWith_type1 (args_cons (wpAny_mono h (fun v s₁ h₁ => args_cons (wpAny_mono h₁ (fun u s₂ h₂ => args_nil ?_) fun _ _ x => x) he₂) fun _ _ x => x) he) he hp) hx rfl) hc
  obtain ⟨a, n, t₁, t₂, rfl, rfl, hQ⟩ := h₂
  exact call_range_2 (hQ _ _ _ _ _ kPush (IsRange.new ..))


theorem rMulI {l : Addr} {items : Array Value} {k : Nat} {x : Int} {u : Tok} {Q : Value → Shared → Prop}
    (hl : s.heap.get? l = some { cls := .type "list", dict := none, data := .seq items k, slots := #[] })
    (hlo : -(2 ^ 63 : Int) ≤ x) (hhi : x < 2 ^ 63) (hsz : items.size * x.toNat ≤ 2 ^ 24)
    (h : Q (.ref s.heap.objs.size) { s with heap := s.heap.push { cls := .type "list", data := .seq (List.foldl (fun x1 x2 => x1 ++ x2) #[] (List.replicate (if items.isEmpty = true then 0 else x.toNat) items)) } }) :
    wpAny (model prog w) A (binaryOp .Mult (.ref l) (.int x u)) Q E s :=
  wpAny_binaryOp_repeat_ref (T := "list") (U := "int") (by decide) ⟨_, hl, rfl⟩ (fun s' => typeIs_int s' x u) noFill_list_mul PySem.F.fills_int_mul PySem.F.slot_int_rmul repeat_list PySem.F.slot_int_index.lookup
    (call_meets PySem.F.slot_int_rmul (typeIs_int s x u) PySem.F.entry_int_rmul (PySem.F.args_int_rmul_2 _ _) (int___rmul___int_list x u l items k)
      ⟨hl, rfl, ⟨_, hl, rfl⟩, call_meets PySem.F.slot_list_mul ⟨_, hl, rfl⟩ PySem.F.entry_list_mul (PySem.F.args_list_mul_2 _ _)
        (AutoListH.list___mul___list_int_3 l items k x u (by simp [Builtin.List.listFitsIndex]; omega) (by omega) (by simp [Builtin.List.listTooLong, sizeLine]; omega))
        ⟨hl, h⟩⟩)

/-- `[v] * n` -/
theorem rMul {l : Addr} {v : Value} {n : Nat} {u : Tok} {Q : Value → Shared → Prop} (hl : s.heap.get? l = some { cls := .type "list", data := .seq #[v] }) (hn : n ≤ 10000)
    (h : ∀ b s', Keeps s s' → s.heap.get? b = none → s'.heap.PlainList b (List.replicate n v).toArray → Q (.ref b) s') : wpAny (model prog w) A (binaryOp .Mult (.ref l) (.int (n : Int) u)) Q E s := by
  refine rMulI hl (by omega) (by omega) (by rw [Int.toNat_natCast]; simp; omega) ?_
  have e : List.foldl (fun x1 x2 => x1 ++ x2) #[] (List.replicate (if (#[v] : Array Value).isEmpty = true then 0 else (n : Int).toNat) #[v]) = (List.replicate n v).toArray := by
    rw [if_neg (by simp), Int.toNat_natCast]
    have key : ∀ (n : Nat) (acc : Array Value), List.foldl (fun x1 x2 => x1 ++ x2) acc (List.replicate n #[v]) = acc ++ (List.replicate n v).toArray := by
      intro n
      induction n with
      | zero => intro acc; simp
      | succ n ih => intro acc; rw [List.replicate_succ, List.foldl_cons, ih, List.replicate_succ]; apply Array.ext'; simp
    rw [key]; simp
  rw [e]
  exact h _ _ (kPush (t := s.toks)) (freshSize _) ⟨_, Heap.get?_push_size _ rfl⟩

theorem IntsAre.set {vs : List Value} {ns : List Int} (x : IntsAre vs ns) : ∀ (k : Nat) (n : Int) (t : Tok), IntsAre (vs.set k (.int n t)) (ns.set k n) := by
  induction x with
  | nil => intro k n t; exact .nil
  | cons m u x ih =>
    intro k n t
    cases k with
    | zero => exact .cons n t x
    | succ k => exact .cons m u (ih k n t)
theorem ints_replicate (u : Tok) : ∀ n : Nat, IntsAre (List.replicate n (Value.int 0 u)) ((List.replicate n 0).map Int.ofNat)
  | 0 => .nil
  | n + 1 => .cons 0 u (ints_replicate u n)
theorem ne_one (a b : Nat) : (((Str.mk #[a]).cps.toList != (Str.mk #[b]).cps.toList)) = (a != b) := by
  by_cases h : a = b
  · subst h; simp
  · have : (Str.mk #[a]).cps.toList ≠ (Str.mk #[b]).cps.toList := by simpa using h
    rw [bne_iff_ne.mpr this, bne_iff_ne.mpr h]

/-- one sign of the text -/
theorem rSign {m cm : Str → Option Value} {V : List (Addr × Bool × Array Value)} {s₀ : Shared} {g : Heap} {n i : Str} {p p' pos : Pos} {e : List Nat} {t u : Tok} {k : Nat} {Q : Value → Shared → Prop} (x : Fm s₀ g env m cm V s) (hn : m n = some (.str ⟨e.toArray⟩ t)) (hi : m i = some (.int (k : Int) u)) (hk : k < e.length) (hl : e.length ≤ 1000)
    (h : ∀ t s', Keeps s s' → Q (.str ⟨#[e[k]]⟩ t) s')
    (hkf : env.scope.kind = .function) (hln : env.kindOf n = some .local) (hdn : (n == ("__debug__" : Str)) = false) (hli : env.kindOf i = some .local) (hdi : (i == ("__debug__" : Str)) = false)
    (hs : ∀ x t k u, subscripted (.Name i p') false (.str x t) (.int k u) = operate [.str x t, .int k u] (getItem (.str x t) (.int k u))) :
    wpAny (model prog w) A (eval (.Subscript (.Name n p) (.Name i p') pos) env) Q E s := by
  have hlen : (Str.mk e.toArray).length = e.length := by simp [Str.length]
  refine Subscript_ (rLocal x hn (rLocal x hi (item_str (fitsSsize_of (N := 1000) (by omega) (by omega) (by decide)) (by omega) (by rw [hlen]; omega) (fun _ => ?_) (hs _ _ _ _) (fun _ => rfl)) hkf hli hdi) hkf hln hdn)
  rw [item_meets (n := e[k]) (by omega) (by simp [hk])]
  exact h _ _ kTok

theorem c_gen {a : Addr} {e : List Nat} {t : Tok} {Q : Value → Shared → Prop} (amb : Amb mg mb s.heap) (rm : Room A 1) (hf : IsFnAt s.heap a 1 .none) (hne : e ≠ []) (hn : e.length ≤ 1000)
    (h : ∀ b d s', Keeps s s' → s.heap.get? b = none → Row s'.heap b d → d.length = e.length → Tab e d → Q (.ref b) s') : wpAny (model prog w) A (call (.ref a) [.str ⟨e.toArray⟩ t]) Q E s := by
  have hpos : 0 < e.length := List.length_pos_iff.mpr hne
  have hlen : (Str.mk e.toArray).length = e.length := by simp [Str.length]
  refine enterFn (binds := [(Str.ofString "prefix", .str ⟨e.toArray⟩ t)]) rm.lt hf amb.lim (fun _ _ _ _ _ _ _ _ => BindsTo.of_eq rfl) (fun k x hx => .inl ?_) rfl rfl rfl ?_
  · rw [List.mem_singleton] at hx; subst hx; rfl
  intro q L cd s₁ x
  have rm₁ := rm.deeper (env := envAt 1 q L a cd)
  have own : Own (envAt 1 q L a cd) := own_envAt rfl
  have hcn : ((envAt 1 q L a cd).cells.map (·.1)).Nodup := List.Pairwise.nil
  -- table = [0] * len(prefix)
  refine wpAny_execs_cons (wpAny_Assign_Name (wpAny_BinOp (List_ (args_cons (rInt fun u₂ s₂ k₂ => args_nil (rNew (fun z s₃ k₃ n₃ l₃ p₃ => ?_) (Nat.le_trans (show 1 ≤ 1000 by decide) sizeLine_big)))))))
  have x₃ := x.keeps (kTrans k₂ k₃)
  refine rBi1 own (amb.keeps x₃.all) amb.bLen (rLocal x₃ rfl (len_str (by rw [hlen]; omega) ?_) rfl rfl rfl) rfl rfl rfl rfl rfl
  have x₄ := x₃.keeps (kTok (t := s₃.toks + 1 + 1))
  rw [hlen]
  refine rMul p₃ (by omega) fun b s₅ k₅ n₅ l₅ => ?_
  have n₅' : s₃.heap.get? b = none := n₅
  obtain ⟨bL, bc, bV, bG⟩ := x₄.fresh hcn n₅
  refine rStore (x₄.keeps k₅) (fun s₆ x₆ e₆ => ?_) rfl rfl
  have x₇ := x₆.addV (b := b) (k := false) (vs := (List.replicate e.length (Value.int 0 u₂)).toArray) (show Heap.IsList _ _ _ from l₅.isList.at fun o q => e₆ _ _ q bL) bG bL bc bV
  have fin : s.heap.get? b = none := by
    cases q : s.heap.get? b with
    | none => rfl
    | some o => rw [x₄.all _ _ q] at n₅; cases n₅
  let K : Nat → (Str → Option Value) → (Str → Option Value) → List (Addr × Bool × Array Value) → Heap → Prop := fun i m cm V h =>
    ∃ tv, ∃ dv : List Nat, m (Str.ofString "table") = some (.ref b) ∧ m (Str.ofString "prefix") = some (.str ⟨e.toArray⟩ t) ∧ V = [(b, false, List.toArray tv)] ∧ IntsAre tv (dv.map Int.ofNat) ∧ dv.length = e.length ∧ ∀ j (hj : j < dv.length), j ≤ i → MaxB e (j + 1) dv[j]
  refine wpAny_execs_cons (rFor rm₁.hh K (fun i m cm V h h' k y => y) 1 (e.length - 1) (by omega) (by omega) hcn (s₀ := s) (g := s.heap)
    (rRange2 own (amb.keeps x₇.all) (rInt fun u₈ s₈ k₈ => rBi1 own (amb.keeps (x₇.keeps k₈).all) amb.bLen (rLocal (x₇.keeps k₈) (lkN rfl rfl) (len_str (by rw [hlen]; omega) ⟨1, e.length, _, _, rfl, by rw [hlen], fun r' t' u' v' s₉ k₉ hr' => ?_⟩) rfl rfl rfl) rfl rfl rfl rfl rfl) rfl rfl rfl rfl rfl) ?_ ?_ rfl rfl)
  · refine ⟨r', t', u', v', s.heap, _, _, _, rfl, ?_, HLe.rfl, x₇.keeps (kTrans k₈ (kTrans (kTok (t := s₈.toks + 1 + 1)) k₉)), _, List.replicate e.length 0, lkY, lkN rfl rfl, rfl, ints_replicate u₂ _, List.length_replicate, fun j hj hj0 => ?_⟩
    · rw [show 1 + (e.length - 1) = e.length by omega]; exact hr'
    · have : j = 0 := by omega
      subst this
      rw [List.getElem_replicate]
      exact maxB_one e
  · -- a turn
    rintro i u m cm V g' s₈ hi kg x₈ ⟨tv, dv, m1, m2, rfl, hdv, hdl, hmax⟩
    have hp : 1 + i < e.length := by omega
    have htl : tv.length = e.length := by have := IntsAre.len hdv; rw [List.length_map] at this; omega
    have lT : ∀ {s' : Shared} {g : Heap} {m cm : Str → Option Value} {tw : List Value}, Fm s g (envAt 1 q L a cd) m cm [(b, false, List.toArray tw)] s' → s'.heap.IsList b (List.toArray tw) := fun y => (y.vol _ (.head _)).1
    -- idx = table[i - 1]
    obtain ⟨ti, eti⟩ := row_get hdv (i := i) (by omega)
    refine wpAny_execs_cons (wpAny_Assign_Name (rItem (rLocal x₈ (lkN rfl m1) (wpAny_BinOp (rLocal x₈ lkY (rInt fun u₉ s₉ k₉ => sub_int ⟨b, _, i, s₉.toks, _, rfl, ?_, lT (x₈.keeps (kTrans k₉ (kTok (t := s₉.toks + 1)))), by omega, eti, ?_⟩) rfl rfl rfl)) rfl rfl rfl) (fun _ _ _ => rfl)))
    · rw [show ((1 + i : Nat) : Int) - 1 = (i : Int) by omega]
    refine rStore (x₈.keeps (kTrans k₉ (kTok (t := s₉.toks + 1)))) (fun s₁₀ x₁₀ _ => ?_) rfl rfl
    have done : ∀ (s' : Shared) (m' cm' : Str → Option Value) (val : Nat) (uv : Tok), Fm s g' (envAt 1 q L a cd) m' cm' [(b, false, (List.toArray tv).setIfInBounds (1 + i) (.int (val : Int) uv))] s' → m' (Str.ofString "table") = some (.ref b) → m' (Str.ofString "prefix") = some (.str ⟨e.toArray⟩ t) → MaxB e (1 + i + 1) val →
        Flow.next = Flow.next ∧ ∃ g₂ m₂ cm₂ V₂, HLe g' g₂ ∧ Fm s g₂ (envAt 1 q L a cd) m₂ cm₂ V₂ s' ∧ K (i + 1) m₂ cm₂ V₂ g₂ := fun s' m' cm' val uv y y1 y2 hv => by
      refine ⟨rfl, g', m', cm', _, HLe.rfl, y, tv.set (1 + i) (.int (val : Int) uv), dv.set (1 + i) val, y1, y2, ?_, ?_, by rw [List.length_set]; exact hdl, fun j hj hji => ?_⟩
      · rw [List.setIfInBounds_toArray]
      · rw [List.map_set]; exact IntsAre.set hdv _ _ _
      · rw [List.length_set] at hj
        rw [List.getElem_set]
        split
        · rename_i hjj; subst hjj; exact hv
        · exact hmax j hj (by omega)
    let W : Nat → Shared → Prop := fun y s' => ∃ m' u', Fm s g' (envAt 1 q L a cd) m' cm [(b, false, List.toArray tv)] s' ∧ m' (Str.ofString "idx") = some (.int ((y : Nat) : Int) u') ∧ m' (Str.ofString "i") = some (.int ((1 + i : Nat) : Int) u) ∧ m' (Str.ofString "table") = some (.ref b) ∧ m' (Str.ofString "prefix") = some (.str ⟨e.toArray⟩ t) ∧ Cand e (1 + i) y
    refine wpAny_execs_cons (wpAny_While (codeAny_whileLoop W (fun x s' hW => ?_) dv[i] ⟨_, ti, x₁₀, lkY, lkN rfl lkY, lkN rfl (lkN rfl m1), lkN rfl (lkN rfl m2), ?_⟩))
    · obtain ⟨m', u', y, w1, w2, w3, w4, hc⟩ := hW
      have hx : x < 1 + i := hc.1.1
      have hxe : x < e.length := by omega
      refine wpAny_isTrue_Compare1 (rSign y w4 w2 hp hn (fun t₁ s₁₁ k₁₁ => rSign (y.keeps k₁₁) w4 w1 hxe hn (fun t₂ s₁₂ k₁₂ => PyProof.Rows.ne_str (wpAny_truthy_bool ?_)) rfl rfl rfl rfl rfl (fun _ _ _ _ => rfl)) rfl rfl rfl rfl rfl (fun _ _ _ _ => rfl))
      rw [← toList_bne, ne_one]
      have y₁₂ := (y.keeps k₁₁).keeps k₁₂
      cases hcmp : (e[1 + i] != e[x]) with
      | true =>
        have hne' : e[x] ≠ e[1 + i] := fun q => by rw [q] at hcmp; simp at hcmp
        refine wpAny_execs_cons (wpAny_If (wpAny_isTrue_Compare1 (rLocal y₁₂ w1 (rInt fun u₁₃ s₁₃ k₁₃ => eq_int (wpAny_truthy_bool ?_)) rfl rfl rfl)))
        have y₁₃ := y₁₂.keeps k₁₃
        cases x with
        | zero =>
          refine wpAny_execs_cons (wpAny_Assign_Subscript (rInt fun u₁₄ s₁₄ k₁₄ => rLocal (y₁₃.keeps k₁₄) w3 (rLocal (y₁₃.keeps k₁₄) w2 (wpAny_setItem_list ((y₁₃.keeps k₁₄).vol _ (.head _)).1 (by omega) (by omega) (by rw [List.size_toArray]; omega) fun h' l' k' => ?_) rfl rfl rfl) rfl rfl rfl))
          refine wpAny_execs_cons (wpAny_Break ?_)
          rw [Int.toNat_natCast] at l'
          have z := (y₁₃.keeps k₁₄).setV (t := s₁₄.toks) l' k'
          exact wpAny_execs_nil (done _ m' cm 0 u₁₄ z w3 w4 (cand_zero hp hc hne'))
        | succ x =>
          refine wpAny_execs_nil ?_
          obtain ⟨tx, etx⟩ := row_get hdv (i := x) (by omega)
          have hm := hmax x (by omega) (by omega)
          refine wpAny_execs_cons (wpAny_Assign_Name (rItem (rLocal y₁₃ w3 (wpAny_BinOp (rLocal y₁₃ w1 (rInt fun u₁₄ s₁₄ k₁₄ => sub_int ⟨b, _, x, s₁₄.toks, _, rfl, ?_, lT (y₁₃.keeps (kTrans k₁₄ (kTok (t := s₁₄.toks + 1)))), by omega, etx, ?_⟩) rfl rfl rfl)) rfl rfl rfl) (fun _ _ _ => rfl)))
          · rw [show ((x + 1 : Nat) : Int) - 1 = (x : Int) by omega]
          refine rStore (y₁₃.keeps (kTrans k₁₄ (kTok (t := s₁₄.toks + 1)))) (fun s₁₅ y₁₅ _ => ?_) rfl rfl
          exact wpAny_execs_nil ⟨dv[x], hm.1.1, _, tx, y₁₅, lkY, lkN rfl w2, lkN rfl w3, lkN rfl w4, cand_next hp hc hne' hm⟩
      | false =>
        have heq : e[x] = e[1 + i] := by
          have := bne_eq_false_iff_eq.mp hcmp
          exact this.symm
        refine wpAny_execs_cons (wpAny_Assign_Subscript (wpAny_BinOp (rLocal y₁₂ w1 (rInt fun u₁₄ s₁₄ k₁₄ => add_int ?_) rfl rfl rfl)))
        have y₁₄ := y₁₂.keeps (kTrans k₁₄ (kTok (t := s₁₄.toks + 1)))
        refine rLocal y₁₄ w3 (rLocal y₁₄ w2 (wpAny_setItem_list (y₁₄.vol _ (.head _)).1 (by omega) (by omega) (by rw [List.size_toArray]; omega) fun h' l' k' => ?_) rfl rfl rfl) rfl rfl rfl
        rw [Int.toNat_natCast] at l'
        have z := y₁₄.setV (t := s₁₄.toks + 1) l' k'
        exact wpAny_execs_nil (wpAny_execs_nil (done _ m' cm (x + 1) s₁₄.toks z w3 w4 (cand_hit hp hc heq)))
    · rw [Nat.add_comm]
      exact cand_start (by omega) (hmax i (by omega) (Nat.le_refl _))
  · -- return table
    rintro g' m cm V s₈ kg x₈ ⟨tv, dv, m1, m2, rfl, hdv, hdl, hmax⟩
    exact wpAny_execs_cons (wpAny_Return_some (rLocal x₈ m1 ⟨_, rfl, h b dv s₈ x₈.done fin ⟨tv, (x₈.vol _ (.head _)).1, hdv⟩ hdl fun j hj => hmax j hj (by omega)⟩ rfl rfl rfl))
end
end Ov
end

section
open PySem PySem.W PyProof.Rows PySem.Calls
set_option maxHeartbeats 2000000
namespace Ov

theorem slice_eq {x y : Str} {l u : Option Int} (h : (Txt.slice x l u == y) = true) : Txt.slice x l u = y := by
  exact beq_iff_eq.mp h
theorem slice_upto (x : Str) (j : Nat) (h : j ≤ x.length) : Txt.slice x none (some (j : Int)) = ⟨(x.cps.toList.take j).toArray⟩ := by
  have := slice_eq (slice_closes_toL (x := x) (j := (j : Int)) (by omega) (by omega))
  rw [this]
  simp
theorem slice_mid (x : Str) (i j : Nat) (hij : i + j ≤ x.length) : Txt.slice x (some (i : Int)) (some (((x.length - j : Nat) : Int))) = ⟨((x.cps.toList.drop i).take (x.length - j - i)).toArray⟩ := by
  have := slice_eq (slice_closesL (x := x) (i := (i : Int)) (j := ((x.length - j : Nat) : Int)) (by omega) (by omega) (by omega))
  rw [this]
  congr 3
  omega
theorem slice_same {x : Str} {l u l' u' : Option Int} (h : Builtin.Str.strSliceIndices l u 1 x.length = Builtin.Str.strSliceIndices l' u' 1 x.length) : Txt.slice x l u = Txt.slice x l' u' := by
  unfold Txt.slice; rw [h]
theorem slice_mid_neg (x : Str) (i j : Nat) (hj : 0 < j) (hij : i + j ≤ x.length) : Txt.slice x (some (i : Int)) (some (-(j : Int))) = ⟨((x.cps.toList.drop i).take (x.length - j - i)).toArray⟩ := by
  rw [← slice_mid x i j hij]
  refine slice_same ?_
  have e1 : ¬ ((i : Int) < 0) := by omega
  have e2 : -(j : Int) < 0 := by omega
  have e3 : ¬ (((x.length - j : Nat) : Int) < 0) := by omega
  have e : max (0 : Int) (min (-(j : Int) + (x.length : Int)) (x.length : Int)) = max 0 (min ((x.length - j : Nat) : Int) (x.length : Int)) := by omega
  unfold Builtin.Str.strSliceIndices
  simp only [e1, e2, e3, if_true, if_false, show (1 : Int) > 0 by decide, e]
theorem slice_last (x : Str) (j : Nat) (hj : 0 < j) (h : j ≤ x.length) : Txt.slice x (some (-(j : Int))) none = ⟨(x.cps.toList.drop (x.length - j)).toArray⟩ := by
  rw [PyProof.Rows.slice_from_neg (by omega)]
  have := slice_eq (slice_closes_fromL (x := x) (i := max 0 ((x.length : Int) + -(j : Int))) (b := x.length) (by omega) (by omega) rfl)
  rw [this]
  have e : (max 0 ((x.length : Int) + -(j : Int))).toNat = x.length - j := by omega
  rw [e, List.take_of_length_le (by rw [List.length_drop]; simp [Str.length]; omega)]

def headS : List Nat := [61, 63, 120, 63, 113, 63]
def endS : List Nat := [63, 61]
theorem framed_list (y : List Nat) : (framed (Str.ofString "x") ⟨y.toArray⟩).cps.toList = headS ++ y ++ endS := by
  have h1 : (Str.ofString "=?").cps.toList = [61, 63] := by decide +kernel
  have h2 : (Str.ofString "x").cps.toList = [120] := by decide +kernel
  have h3 : (Str.ofString "?q?").cps.toList = [63, 113, 63] := by decide +kernel
  have h4 : (Str.ofString "?=").cps.toList = [63, 61] := by decide +kernel
  have h0 : Str.empty.cps.toList = [] := by decide +kernel
  have app : ∀ a b : Str, (a ++ b).cps.toList = a.cps.toList ++ b.cps.toList := fun a b => by
    show (a.cps ++ b.cps).toList = _
    simp
  unfold framed
  simp only [app, h0, h1, h2, h3, h4, headS, endS]
  simp
theorem framed_len (y : List Nat) : (framed (Str.ofString "x") ⟨y.toArray⟩).length = y.length + 8 := by
  have := congrArg List.length (framed_list y)
  simp only [List.length_append, headS, endS, List.length_cons, List.length_nil, Array.length_toList] at this
  show (framed (Str.ofString "x") ⟨y.toArray⟩).cps.size = _
  omega
theorem framed_head (y : List Nat) : Txt.slice (framed (Str.ofString "x") ⟨y.toArray⟩) none (some 6) = ⟨headS.toArray⟩ := by
  have := slice_upto (framed (Str.ofString "x") ⟨y.toArray⟩) 6 (by rw [framed_len]; omega)
  rw [framed_list, List.append_assoc, List.take_left' (l₁ := headS) (i := 6) rfl] at this
  exact this
theorem framed_end (y : List Nat) : Txt.slice (framed (Str.ofString "x") ⟨y.toArray⟩) (some (-2)) none = ⟨endS.toArray⟩ := by
  have := slice_last (framed (Str.ofString "x") ⟨y.toArray⟩) 2 (by decide) (by rw [framed_len]; omega)
  rw [framed_list, framed_len, List.drop_left' (by simp [headS]) ] at this
  exact this
theorem framed_mid (y : List Nat) : Txt.slice (framed (Str.ofString "x") ⟨y.toArray⟩) (some 6) (some (-2)) = ⟨y.toArray⟩ := by
  have := slice_mid_neg (framed (Str.ofString "x") ⟨y.toArray⟩) 6 2 (by decide) (by rw [framed_len]; omega)
  rw [framed_list, framed_len, List.append_assoc, List.drop_left' (l₁ := headS) (i := 6) rfl, List.take_left' (l₁ := y) (by omega)] at this
  exact this

section
variable {prog : Program} {w : World} {A : Around} {E : Value → Shared → Prop} {s : Shared} {env : Env}
theorem keptLe {h : Heap} : KeptH (fun h' => HLe h h') := fun _ _ k => k.trans fun _ _ e => Heap.get?_push_of_some _ e
theorem rStrUpto {value e : Expr} {p pos : Pos} {Q : Value → Shared → Prop}
    (h : wpAny (model prog w) A (eval value env) (fun o s₁ => wpAny (model prog w) A (eval e env) (fun kv s₂ => ∃ x t j u, o = .str x t ∧ kv = .int j u ∧ x.length ≤ sizeLine ∧ ∀ t' s', Keeps s₂ s' → Q (.str (Txt.slice x none (some j)) t') s') E s₁) E s)
    (ht : ∀ x t r, letTemporaryGo value (.str x t) r = pure ()) :
    wpAny (model prog w) A (eval (.Subscript value (.Slice none (some e) none p) pos) env) Q E s := by
  refine Subscript_ (wpAny_mono h (fun o s₁ h₁ => wpAny_Slice (wpAny_of_eq (evalPart_none env) (wpAny_mono (t := evalPart (some e) env) h₁ (fun kv s₂ h₂ => wpAny_of_eq (evalPart_none env) ?_) fun _ _ e => e))) fun _ _ e => e)
  obtain ⟨x, t, j, u, rfl, rfl, hx, hQ⟩ := h₂
  exact tail_of_ItemOn (ops := [.ref s₂.heap.objs.size, .str x t]) (SBH.sliceItem_ns (P := fun h' => HLe s₂.heap h') keptLe HLe.rfl (fun h' t' k kh => hQ t' _ (kSt kh)) hx) rfl (ht _ _)
theorem rStrFrom {value e : Expr} {p pos : Pos} {Q : Value → Shared → Prop}
    (h : wpAny (model prog w) A (eval value env) (fun o s₁ => wpAny (model prog w) A (eval e env) (fun kv s₂ => ∃ x t j u, o = .str x t ∧ kv = .int j u ∧ x.length ≤ sizeLine ∧ ∀ t' s', Keeps s₂ s' → Q (.str (Txt.slice x (some j) none) t') s') E s₁) E s)
    (ht : ∀ x t r, letTemporaryGo value (.str x t) r = pure ()) :
    wpAny (model prog w) A (eval (.Subscript value (.Slice (some e) none none p) pos) env) Q E s := by
  refine Subscript_ (wpAny_mono h (fun o s₁ h₁ => wpAny_Slice (wpAny_mono (t := evalPart (some e) env) h₁ (fun kv s₂ h₂ => wpAny_of_eq (evalPart_none env) (wpAny_of_eq (evalPart_none env) ?_)) fun _ _ e => e)) fun _ _ e => e)
  obtain ⟨x, t, j, u, rfl, rfl, hx, hQ⟩ := h₂
  exact tail_of_ItemOn (ops := [.ref s₂.heap.objs.size, .str x t]) (SBH.sliceItem_sn (P := fun h' => HLe s₂.heap h') keptLe HLe.rfl (fun h' t' k kh => hQ t' _ (kSt kh)) hx) rfl (ht _ _)
theorem rStrMid {value e e' : Expr} {p pos : Pos} {Q : Value → Shared → Prop}
    (h : wpAny (model prog w) A (eval value env) (fun o s₁ => wpAny (model prog w) A (eval e env) (fun kv s₂ => wpAny (model prog w) A (eval e' env) (fun kv' s₃ => ∃ x t i u j u', o = .str x t ∧ kv = .int i u ∧ kv' = .int j u' ∧ x.length ≤ sizeLine ∧ ∀ t' s', Keeps s₃ s' → Q (.str (Txt.slice x (some i) (some j)) t') s') E s₂) E s₁) E s)
    (ht : ∀ x t r, letTemporaryGo value (.str x t) r = pure ()) :
    wpAny (model prog w) A (eval (.Subscript value (.Slice (some e) (some e') none p) pos) env) Q E s := by
  refine Subscript_ (wpAny_mono h (fun o s₁ h₁ => wpAny_Slice (wpAny_mono (t := evalPart (some e) env) h₁ (fun kv s₂ h₂ => wpAny_mono (t := evalPart (some e') env) h₂ (fun kv' s₃ h₃ => wpAny_of_eq (evalPart_none env) ?_) fun _ _ e => e) fun _ _ e => e)) fun _ _ e => e)
  obtain ⟨x, t, i, u, j, u', rfl, rfl, rfl, hx, hQ⟩ := h₃
  exact tail_of_ItemOn (ops := [.ref s₃.heap.objs.size, .str x t]) (SBH.sliceItem_ss (P := fun h' => HLe s₃.heap h') keptLe HLe.rfl (fun h' t' k kh => hQ t' _ (kSt kh)) hx) rfl (ht _ _)
end
end Ov
end

section
open PySem PySem.W PyProof.Rows PySem.Calls
set_option maxHeartbeats 4000000
namespace Ov

theorem enc_ne : ∀ {r : List Nat}, r ≠ [] → enc r ≠ []
  | [], h, _ => h rfl
  | o :: r, _, e => by
    have h1 := enc_length (o :: r)
    rw [e, long_cons] at h1
    have := w1_pos o
    simp only [List.length_nil] at h1
    omega

section
variable {prog : Program} {w : World} {A : Around} {E : Value → Shared → Prop} {s : Shared} {mg mb : Str → Option Value}

theorem rBytes {p pos : Pos} {e : Expr} {env : Env} {Q : Value → Shared → Prop} (o : Own env) (amb : Amb mg mb s.heap) (hh : A.handled = none)
    (h : wpAny (model prog w) A (eval e env) (fun v s₁ => ∃ l r, v = .ref l ∧ Row s₁.heap l r ∧ Octets r ∧ r.length ≤ 300 ∧ ∀ bs t s₂, List.map UInt8.toNat bs = r → Keeps s₁ s₂ → Q (.bytes (List.toArray bs) t) s₂) E s)
    (hx : env.kindOf (Str.ofString "bytes") = some .globalImplicit)
    (hc : eval (.Call (.Name (Str.ofString "bytes") p) [e] [] pos) env = (do callWith pos (← eval (.Name (Str.ofString "bytes") p) env) [] (backTo pos (starEach [e] env)) (backToKw pos (keywordEach [] env))))
    (he : starEach [e] env = (false, eval e env) :: starEach [] env) (hp : (backTo pos (starEach [] env)).any (·.1) = false) :
    wpAny (model prog w) A (eval (.Call (.Name (Str.ofString "bytes") p) [e] [] pos) env) Q E s := by
  refine Call_ (rBi o amb amb.bBytes (callWith_type1 (args_cons (wpAny_mono h (fun v s₁ h₁ => args_nil ?_) fun _ _ x => x) he) he hp) hx rfl) hc
  obtain ⟨l, r, rfl, ⟨vs, hl, hi⟩, ho, hn, hQ⟩ := h₁
  have hlen := IntsAre.len hi
  rw [List.length_map] at hlen
  refine call_bytes_ints hl hi (fun n hn => ?_) (Nat.le_trans (show vs.length ≤ 1000 by omega) sizeLine_big) hh fun h' t k hk => ?_
  · obtain ⟨o, ho', rfl⟩ := List.mem_map.mp hn
    have := ho o ho'
    exact ⟨Int.natCast_nonneg o, by show ((o : Nat) : Int) < 256; omega⟩
  · refine hQ _ t _ ?_ (kSt hk)
    rw [List.map_map, List.map_map]
    have key : ∀ o ∈ r, ((UInt8.toNat ∘ fun n : Int => n.toNat.toUInt8) ∘ Int.ofNat) o = o := fun o ho' => by
      have := ho o ho'
      show ((o : Int).toNat.toUInt8).toNat = o
      rw [Int.toNat_natCast]
      show (UInt8.ofNat o).toNat = o
      rw [UInt8.toNat_ofNat']
      exact Nat.mod_eq_of_lt (by omega)
    rw [List.map_congr_left key, List.map_id'']
    intro _; rfl

theorem c_law {a l : Addr} {vs : List Value} {ns : List Int} {Q : Value → Shared → Prop} (amb : Amb mg mb s.heap) (rm : Room A 4) (hf : IsFnAt s.heap a 24 .none) (hl : s.heap.IsList l vs.toArray) (hi : IntsAre vs ns) (hn : ns.length ≤ 1000)
    (h : ∀ s', Keeps s s' → Q (.bool true) s') : wpAny (model prog w) A (call (.ref a) [.ref l]) Q E s := by
  refine enterFn (binds := [(Str.ofString "script", .ref l)]) rm.lt hf amb.lim (fun _ _ _ _ _ _ _ _ => BindsTo.of_eq rfl) (fun k x hx => .inl ?_) rfl rfl rfl ?_
  · rw [List.mem_singleton] at hx; subst hx; rfl
  intro q L cd s₁ x
  have rm₁ := rm.deeper (env := envAt 24 q L a cd)
  have own : Own (envAt 24 q L a cd) := own_envAt rfl
  have hcn : ((envAt 24 q L a cd).cells.map (·.1)).Nodup := List.Pairwise.nil
  -- row
  have amb₁ := amb.keeps x.all
  obtain ⟨ar, gr, fr⟩ := amb₁.fRow
  refine wpAny_execs_cons (wpAny_Assign_Name (rCall1 own amb₁ gr fr (rLocal x rfl ⟨kRefl, ?_⟩ rfl rfl rfl) rfl rfl rfl rfl))
  refine c_row amb₁ (rm₁.le (by decide)) fr (list_keeps hl x.all) hi hn fun b r s₂ k₂ n₂ hb ho hrn hr0 => ?_
  obtain ⟨rv, hbl, hbi⟩ := id hb
  obtain ⟨g₂, x₂, kg₂, gl₂⟩ := x.newList hcn k₂ n₂ hbl
  refine rStore x₂ (fun s₃ x₃ _ => ?_) rfl rfl
  have row₃ : ∀ {t : Shared} {g : Heap} {m cm : Str → Option Value} {V : List (Addr × Bool × Array Value)}, Fm s g (envAt 24 q L a cd) m cm V t → HLe g₂ g → Row t.heap b r := fun y k => ⟨rv, list_keeps gl₂ (k.trans y.keep), hbi⟩
  -- signs
  have amb₃ := amb.keeps x₃.all
  obtain ⟨ah, gh, T, dv, fh, hT⟩ := amb₃.fHead
  refine wpAny_execs_cons (wpAny_Assign_Name (Call_ (rGlob own amb₃ gh ?_ rfl rfl) rfl))
  obtain ⟨oh, nm, qual, kV, doc, pm, an, cdv, ct, h1, h2, h3⟩ := id fh
  refine callWith_def h2 (args_cons (rBytes own amb₃ rm₁.hh (rLocal x₃ lkY ⟨b, r, rfl, row₃ x₃ HLe.rfl, ho, by omega, fun bs t s₄ hbs k₄ => ?_⟩ rfl rfl rfl) rfl rfl rfl rfl) rfl) rfl
  refine args_cons (rStr fun t₅ s₅ k₅ => args_nil ⟨kHeap (kTrans k₄ k₅) _ _ h1, ?_⟩)
  have x₅ := x₃.keeps (kTrans k₄ k₅)
  have kh := kHeap (kTrans k₄ k₅)
  refine c_head (amb₃.keeps kh) (rm₁.le (by decide)) (fh.keeps kh) (hT.keeps kh) hbs ho (fun e => by rw [e] at hr0; cases hr0) (by omega) (by decide) fun t₆ s₆ k₆ => ?_
  refine rStore (x₅.keeps k₆) (fun s₇ x₇ _ => ?_) rfl rfl
  have hE : (enc r).length ≤ 1000 := by rw [enc_length]; have := long_le r; omega
  have hfl : (framed (Str.ofString "x") ⟨(enc r).toArray⟩).length ≤ sizeLine := by rw [framed_len]; exact Nat.le_trans (show _ ≤ 2000 by omega) (by rw [sizeLine_eq]; decide)
  -- the frame of the signs
  refine wpAny_execs_cons (wpAny_If (wpAny_isTrue_Compare1 (wpAny_BinOp (rStrUpto (rLocal x₇ lkY (rInt fun u₈ s₈ k₈ => ⟨_, _, 6, u₈, rfl, rfl, hfl, fun t₉ s₉ k₉ => ?_⟩) rfl rfl rfl) (fun _ _ _ => rfl)))))
  have x₉ := x₇.keeps (kTrans k₈ k₉)
  have big : 10000 ≤ sizeLine := by rw [sizeLine_eq]; decide
  rw [framed_head]
  refine rStrFrom (rLocal x₉ lkY (wpAny_UnaryOp (rInt fun u₁₀ s₁₀ k₁₀ => PyProof.Rows.neg_int ⟨_, _, -2, _, rfl, rfl, hfl, fun t₁₁ s₁₁ k₁₁ => ?_⟩)) rfl rfl rfl) (fun _ _ _ => rfl)
  have x₁₁ := x₉.keeps (kTrans k₁₀ (kTrans (kTok (t := s₁₀.toks + 1)) k₁₁))
  rw [framed_end]
  refine PyProof.Rows.add_str (fun t₁₂ k₁₂ => rStr fun t₁₃ s₁₃ k₁₃ => PyProof.Rows.ne_str (wpAny_truthy_bool ?_)) (Nat.le_trans (by decide) big)
  rw [show (((⟨headS.toArray⟩ : Str) ++ ⟨endS.toArray⟩) != Str.ofString "=?x?q??=") = false by decide +kernel]
  refine wpAny_execs_nil ?_
  have x₁₃ := x₁₁.keeps (kTrans (kTok (t := k₁₂)) k₁₃)
  -- the two tables
  have amb₁₃ := amb.keeps x₁₃.all
  obtain ⟨ag, gg, fg⟩ := amb₁₃.fGen
  refine wpAny_execs_cons (wpAny_Return_some (wpAny_Compare1 (rCall1 own amb₁₃ gg fg (rStrMid (rLocal x₁₃ lkY (rInt fun u₁₄ s₁₄ k₁₄ => wpAny_UnaryOp (rInt fun u₁₅ s₁₅ k₁₅ => PyProof.Rows.neg_int ⟨_, _, 6, u₁₄, -2, _, rfl, rfl, rfl, hfl, fun t₁₆ s₁₆ k₁₆ => ⟨kTrans k₁₄ (kTrans k₁₅ (kTrans (kTok (t := s₁₅.toks + 1)) k₁₆)), ?_⟩⟩)) rfl rfl rfl) (fun _ _ _ => rfl)) rfl rfl rfl rfl)))
  rw [framed_mid]
  have kk := kTrans k₁₄ (kTrans k₁₅ (kTrans (kTok (t := s₁₅.toks + 1)) k₁₆))
  have hEne : enc r ≠ [] := enc_ne (List.ne_nil_of_length_pos hr0)
  refine c_gen (amb₁₃.keeps (kHeap kk)) (rm₁.le (by decide)) (fg.keeps (kHeap kk)) hEne hE fun bt d s₁₇ k₁₇ n₁₇ rd hdl hdt => ?_
  have x₁₇ := x₁₃.keeps (kTrans kk k₁₇)
  have amb₁₇ := amb.keeps x₁₇.all
  obtain ⟨ad, gd, fd⟩ := amb₁₇.fDue
  refine rCall1 own amb₁₇ gd fd (rLocal x₁₇ (lkN rfl lkY) ⟨kRefl, ?_⟩ rfl rfl rfl) rfl rfl rfl rfl
  refine c_due amb₁₇ (rm₁.le (by decide)) fd (row₃ x₁₇ HLe.rfl) ho (by omega) fun bd s₁₈ k₁₈ n₁₈ rdd => ?_
  obtain ⟨tv, tl, ti⟩ := rd
  obtain ⟨dv', dl, di⟩ := rdd
  refine eq_intsK (list_keeps tl (kHeap k₁₈)) ti dl di (by have := rm₁.un; omega) ?_
  rw [due_is ho hdt hdl]
  rw [decide_eq_true rfl]
  exact ⟨_, rfl, h s₁₈ (kTrans x₁₇.done k₁₈)⟩
end
end Ov
end

section
open PySem PySem.W PyProof.Rows
set_option maxRecDepth 100000
set_option maxHeartbeats 0
namespace Ov
noncomputable section
def P : Program := PySem.Challenge.pw_tx0003_01
def annV : Option Value := some (.ref 6)
def G (n : Nat) (w : World) (s : Shared) (t : Thread) : Option (Shared × Thread) := PySem.W.Fast.tw15667345088766844465 PySem.W.Fast.tw14364793385576792824 P w 11 annV n s t
theorem G_eq (n : Nat) (w : World) (s : Shared) (t : Thread) : topGo treeTable P w 11 annV n s t = G n w s t := by
  unfold G
  rw [PySem.W.Fast.te15667345088766844465, PySem.W.Fast.te14364793385576792824]
def ends (s : Shared) (t : Thread) : Option (Shared × Thread) → Shared × Thread
  | some x => x
  | none => (s, t)
def iterT (w : World) (b : Bool) : World := w.withFollow "comprehension-iter-twice" b
def specT (w : World) (b : Bool) : World := w.withFollow "special-get-raises" b
def wF (w : World) : World := specT (iterT w false) false
def nthO : List Obj → Nat → Obj
  | [], _ => default
  | o :: _, 0 => o
  | _ :: r, n + 1 => nthO r n
def objAt (h : Heap) (i : Nat) : Obj := nthO h.objs.toList i
def mapLast {α : Type} (f : α → α) : List α → List α
  | [] => []
  | [x] => [f x]
  | x :: y :: r => x :: mapLast f (y :: r)
def setLastVal (v : Value) (o : Obj) : Obj := match o.data with
  | .dict es n => { o with data := .dict (Array.mk (mapLast (fun e => { e with val := v }) es.toList)) n }
  | _ => o
def setField1 (v : Value) (o : Obj) : Obj := match o.data with
  | .fields vs => { o with data := .fields (Array.mk (match vs.toList with | x :: _ => [x, v] | [] => [])) }
  | _ => o
def hexd (d : Nat) : Nat := if d < 10 then 48 + d else 55 + d
def mapItem (c : Nat) : Value := .str ⟨#[61, hexd (c / 16), hexd (c % 16)]⟩ (205 + 4 * c)
def keyH (w : World) (x : Str) : Int := PyData.keyHash w.params x
def listObj (l : List Value) (n : Nat) : Obj := { cls := .type "list", data := .seq (Array.mk l) n }

/-! the first loop: the comprehension -/
def S0 (w : World) (os : OsState) : Shared := ⟨boot_heap w.params, #[], boot_drawn, boot_toks, os⟩
def K1 (w : World) (os : OsState) : Shared × Thread := ends (S0 w os) (topStub P) (G 142 (wF w) (S0 w os) (topStub P))
def S1 (w : World) (os : OsState) (i : Nat) : Shared :=
  ⟨⟨Array.mk ((List.range 23).map (objAt (K1 w os).1.heap) ++ [{ cls := .type "range_iterator", data := .fields #[.int i 0, .int (256 - i) 0, .int 1 0] }, listObj ((List.range i).map mapItem) i,
      { cls := .type "dict", data := .dict #[⟨keyH w (Str.ofString "c"), .str (Str.ofString "c") 203, .int (i - 1) (198 + 4 * i)⟩] 1 }]), {}⟩, #[], boot_drawn, 202 + 4 * i, os⟩
def T1 (w : World) (os : OsState) : Thread := (K1 w os).2

/-! the second: the letters of the header's map -/
def find (c : Nat) : List Nat → Nat → Option Nat
  | [], _ => none
  | x :: r, j => match Nat.beq x c with | true => some j | false => find c r (j + 1)
def putItem (l : List Nat) (tok : Nat) (c : Nat) : Value := match find c l 0 with
  | some j => .str ⟨#[c]⟩ (tok + 3 * j)
  | none => mapItem c
def bs2 : List Nat := [45, 33, 42, 43, 47, 97, 98, 99, 100, 101, 102, 103, 104, 105, 106, 107, 108, 109, 110, 111, 112, 113, 114, 115, 116, 117, 118, 119, 120, 121, 122, 65, 66, 67, 68, 69, 70, 71, 72, 73, 74, 75, 76, 77, 78, 79, 80, 81, 82, 83, 84, 85, 86, 87, 88, 89, 90, 48, 49, 50, 51, 52, 53, 54, 55, 56, 57]
def nthN : List Nat → Nat → Nat
  | [], _ => 0
  | o :: _, 0 => o
  | _ :: r, n + 1 => nthN r n
/-- behind the two slices -/
def K2s (w : World) (os : OsState) : Shared × Thread := ends (S1 w os 256) (T1 w os) (G 81 w (S1 w os 256) (T1 w os))
def S2s (w : World) (os : OsState) : Shared :=
  ⟨⟨Array.mk ((List.range 29).map (objAt (K2s w os).1.heap) ++ [listObj ((List.range 256).map mapItem) 0, objAt (K2s w os).1.heap 30, listObj ((List.range 256).map mapItem) 0]), {}⟩, #[], boot_drawn, 1229, os⟩
def T2s (w : World) (os : OsState) : Thread := (K2s w os).2
def K2 (w : World) (os : OsState) : Shared × Thread := ends (S2s w os) (T2s w os) (G 143 (wF w) (S2s w os) (T2s w os))
def S2 (w : World) (os : OsState) (i : Nat) : Shared :=
  ⟨⟨Array.mk ((List.range 3).map (objAt (K2 w os).1.heap) ++ setLastVal (.int (nthN bs2 (i - 1)) (1243 + 3 * i)) (objAt (K2 w os).1.heap 3) :: ((List.range 25).map (fun k => objAt (K2 w os).1.heap (k + 4)) ++
      listObj ((List.range 256).map (putItem (bs2.take i) 1248)) 0 :: [objAt (K2 w os).1.heap 30, listObj ((List.range 256).map mapItem) 0, setField1 (.int i 0) (objAt (K2 w os).1.heap 32)])), {}⟩, #[], boot_drawn, 1246 + 3 * i, os⟩
def T2 (w : World) (os : OsState) : Thread := (K2 w os).2

/-! the third: the body's map -/
def bs3 : List Nat := (List.range 29).map (· + 32) ++ (List.range 65).map (· + 62) ++ [9]
def K3 (w : World) (os : OsState) : Shared × Thread := ends (S2 w os 67) (T2 w os) (G 96 (wF w) (S2 w os 67) (T2 w os))
def S3 (w : World) (os : OsState) (i : Nat) : Shared :=
  ⟨⟨Array.mk ((List.range 3).map (objAt (K3 w os).1.heap) ++ setLastVal (.int (nthN bs3 (i - 1)) (1448 + 3 * i)) (objAt (K3 w os).1.heap 3) :: ((List.range 27).map (fun k => objAt (K3 w os).1.heap (k + 4)) ++
      listObj ((List.range 256).map (putItem (bs3.take i) 1453)) 0 :: [objAt (K3 w os).1.heap 32, objAt (K3 w os).1.heap 33, objAt (K3 w os).1.heap 34, setField1 (.int i 0) (objAt (K3 w os).1.heap 35)])), {}⟩, #[], boot_drawn, 1451 + 3 * i, os⟩
def T3 (w : World) (os : OsState) : Thread := (K3 w os).2
def KE (w : World) (os : OsState) : Shared × Thread := ends (S3 w os 95) (T3 w os) (G 410 (wF w) (S3 w os 95) (T3 w os))
def ofP (p : Params) : World := ⟨fun _ _ => 0, p⟩
def H1 (p : Params) : Heap := (KE (ofP p) {}).1.heap
def fin (w : World) (os : OsState) : Shared := ⟨H1 w.params, #[], boot_drawn, 1808, os⟩
end

/-! the segments, each a check of the kernel's -/
theorem seg0_ff (w : World) (os : OsState) : G 142 (iterT (specT w false) false) (S0 (iterT (specT w false) false) os) (topStub P) = some (S1 (iterT (specT w false) false) os 1, T1 (iterT (specT w false) false) os) := by kernel_rfl
theorem seg0_tf (w : World) (os : OsState) : G 132 (iterT (specT w false) true) (S0 (iterT (specT w false) true) os) (topStub P) = some (S1 (iterT (specT w false) true) os 1, T1 (iterT (specT w false) true) os) := by kernel_rfl
theorem seg0_ft (w : World) (os : OsState) : G 142 (iterT (specT w true) false) (S0 (iterT (specT w true) false) os) (topStub P) = some (S1 (iterT (specT w true) false) os 1, T1 (iterT (specT w true) false) os) := by kernel_rfl
theorem seg0_tt (w : World) (os : OsState) : G 132 (iterT (specT w true) true) (S0 (iterT (specT w true) true) os) (topStub P) = some (S1 (iterT (specT w true) true) os 1, T1 (iterT (specT w true) true) os) := by kernel_rfl
theorem loop1_a (w : World) (os : OsState) : G 1184 w (S1 w os 1) (T1 w os) = some (S1 w os 33, T1 w os) := by kernel_rfl
theorem loop1_b (w : World) (os : OsState) : G 1184 w (S1 w os 33) (T1 w os) = some (S1 w os 65, T1 w os) := by kernel_rfl
theorem loop1_c (w : World) (os : OsState) : G 1184 w (S1 w os 65) (T1 w os) = some (S1 w os 97, T1 w os) := by kernel_rfl
theorem loop1_d (w : World) (os : OsState) : G 1184 w (S1 w os 97) (T1 w os) = some (S1 w os 129, T1 w os) := by kernel_rfl
theorem loop1_e (w : World) (os : OsState) : G 1184 w (S1 w os 129) (T1 w os) = some (S1 w os 161, T1 w os) := by kernel_rfl
theorem loop1_f (w : World) (os : OsState) : G 1184 w (S1 w os 161) (T1 w os) = some (S1 w os 193, T1 w os) := by kernel_rfl
theorem loop1_g (w : World) (os : OsState) : G 1184 w (S1 w os 193) (T1 w os) = some (S1 w os 225, T1 w os) := by kernel_rfl
theorem loop1_h (w : World) (os : OsState) : G 1147 w (S1 w os 225) (T1 w os) = some (S1 w os 256, T1 w os) := by kernel_rfl
theorem seg1 (w : World) (os : OsState) : G 81 w (S1 w os 256) (T1 w os) = some (S2s w os, T2s w os) := by kernel_rfl
theorem seg2_f (w : World) (os : OsState) : G 143 (specT w false) (S2s (specT w false) os) (T2s (specT w false) os) = some (S2 (specT w false) os 1, T2 (specT w false) os) := by kernel_rfl
theorem seg2_t (w : World) (os : OsState) : G 143 (specT w true) (S2s (specT w true) os) (T2s (specT w true) os) = some (S2 (specT w true) os 1, T2 (specT w true) os) := by kernel_rfl
theorem loop2_a (w : World) (os : OsState) : G 990 w (S2 w os 1) (T2 w os) = some (S2 w os 23, T2 w os) := by kernel_rfl
theorem loop2_b (w : World) (os : OsState) : G 990 w (S2 w os 23) (T2 w os) = some (S2 w os 45, T2 w os) := by kernel_rfl
theorem loop2_c (w : World) (os : OsState) : G 990 w (S2 w os 45) (T2 w os) = some (S2 w os 67, T2 w os) := by kernel_rfl
theorem seg3_f (w : World) (os : OsState) : G 96 (specT w false) (S2 (specT w false) os 67) (T2 (specT w false) os) = some (S3 (specT w false) os 1, T3 (specT w false) os) := by kernel_rfl
theorem seg3_t (w : World) (os : OsState) : G 96 (specT w true) (S2 (specT w true) os 67) (T2 (specT w true) os) = some (S3 (specT w true) os 1, T3 (specT w true) os) := by kernel_rfl
theorem loop3_a (w : World) (os : OsState) : G 1035 w (S3 w os 1) (T3 w os) = some (S3 w os 24, T3 w os) := by kernel_rfl
theorem loop3_b (w : World) (os : OsState) : G 1080 w (S3 w os 24) (T3 w os) = some (S3 w os 48, T3 w os) := by kernel_rfl
theorem loop3_c (w : World) (os : OsState) : G 1080 w (S3 w os 48) (T3 w os) = some (S3 w os 72, T3 w os) := by kernel_rfl
theorem loop3_d (w : World) (os : OsState) : G 1035 w (S3 w os 72) (T3 w os) = some (S3 w os 95, T3 w os) := by kernel_rfl
theorem segE_f (w : World) (os : OsState) : G 410 (specT w false) (S3 (specT w false) os 95) (T3 (specT w false) os) = some (fin (specT w false) os, (KE (specT w false) os).2) := by kernel_rfl
theorem segE_t (w : World) (os : OsState) : G 410 (specT w true) (S3 (specT w true) os 95) (T3 (specT w true) os) = some (fin (specT w true) os, (KE (specT w true) os).2) := by kernel_rfl
theorem thru (w : World) (os : OsState) : through (KE w os).2 = true := by kernel_rfl

/-! the run -/
def R (N : Nat) (w : World) (s : Shared) (t : Thread) : Option Shared := topRun treeTable P w 11 annV N s t
theorem r_go {n N : Nat} {w : World} {s s' r : Shared} {t t' : Thread} (h : G n w s t = some (s', t')) (k : R N w s' t' = some r) : R (n + N) w s t = some r :=
  go_top ((G_eq n w s t).trans h) k
theorem r_end {w : World} {s : Shared} {t : Thread} (h : through t = true) : R 1 w s t = some s := by
  unfold R topRun
  rw [h]
theorem rE (w : World) : ∀ os, R 411 w (S3 w os 95) (T3 w os) = some (fin w os) :=
  byRow2 "special-get-raises" (P := fun w => ∀ os, R 411 w (S3 w os 95) (T3 w os) = some (fin w os))
    (fun w os => r_go (n := 410) (N := 1) (segE_f w os) (r_end (thru (specT w false) os))) (fun w os => r_go (n := 410) (N := 1) (segE_t w os) (r_end (thru (specT w true) os))) w
theorem r3 (w : World) (os : OsState) : R (1035 + (1080 + (1080 + (1035 + 411)))) w (S3 w os 1) (T3 w os) = some (fin w os) := r_go (loop3_a w os) (r_go (loop3_b w os) (r_go (loop3_c w os) (r_go (loop3_d w os) (rE w os))))
theorem r2 (w : World) : ∀ os, R 4737 w (S2 w os 67) (T2 w os) = some (fin w os) :=
  byRow2 "special-get-raises" (P := fun w => ∀ os, R 4737 w (S2 w os 67) (T2 w os) = some (fin w os))
    (fun w os => r_go (n := 96) (N := 4641) (seg3_f w os) (r3 (specT w false) os)) (fun w os => r_go (n := 96) (N := 4641) (seg3_t w os) (r3 (specT w true) os)) w
theorem r2a (w : World) (os : OsState) : R (990 + (990 + (990 + 4737))) w (S2 w os 1) (T2 w os) = some (fin w os) := r_go (loop2_a w os) (r_go (loop2_b w os) (r_go (loop2_c w os) (r2 w os)))
theorem r2s (w : World) : ∀ os, R (143 + 7707) w (S2s w os) (T2s w os) = some (fin w os) :=
  byRow2 "special-get-raises" (P := fun w => ∀ os, R (143 + 7707) w (S2s w os) (T2s w os) = some (fin w os))
    (fun w os => r_go (seg2_f w os) (r2a (specT w false) os)) (fun w os => r_go (seg2_t w os) (r2a (specT w true) os)) w
theorem r1 (w : World) (os : OsState) : R (1184 + (1184 + (1184 + (1184 + (1184 + (1184 + (1184 + (1147 + (81 + (143 + 7707)))))))))) w (S1 w os 1) (T1 w os) = some (fin w os) := r_go (loop1_a w os) (r_go (loop1_b w os) (r_go (loop1_c w os) (r_go (loop1_d w os) (r_go (loop1_e w os) (r_go (loop1_f w os) (r_go (loop1_g w os) (r_go (loop1_h w os) (r_go (seg1 w os) (r2s w os)))))))))
def Good0 (w : World) : Prop := ∀ os, R 17508 w (S0 w os) (topStub P) = some (fin w os)
theorem good_ff (w : World) : Good0 (iterT (specT w false) false) := fun os => r_go (n := 142) (seg0_ff w os) (r1 _ os)
theorem good_ft (w : World) : Good0 (iterT (specT w true) false) := fun os => r_go (n := 142) (seg0_ft w os) (r1 _ os)
theorem good_tf (w : World) : Good0 (iterT (specT w false) true) := fun os => topRun_mono 10 17498 _ _ _ (r_go (n := 132) (seg0_tf w os) (r1 _ os))
theorem good_tt (w : World) : Good0 (iterT (specT w true) true) := fun os => topRun_mono 10 17498 _ _ _ (r_go (n := 132) (seg0_tt w os) (r1 _ os))
theorem good0 (w : World) : Good0 w :=
  byRow2 "comprehension-iter-twice" (P := Good0) (byRow2 "special-get-raises" (P := fun w => Good0 (iterT w false)) good_ff good_ft) (byRow2 "special-get-raises" (P := fun w => Good0 (iterT w true)) good_tf good_tt) w
end Ov
end

section
open PySem PySem.W PyProof.Rows
set_option maxRecDepth 100000
set_option maxHeartbeats 0
namespace Ov
def stPos : Stmt → Pos
  | .FunctionDef _ _ _ _ _ _ _ _ _ p => p
  | _ => default
def q : Program := view P [1, 18, 19, 20, 21, 22, 23, 24]
def loose : List Str := [Str.ofString "_QUOPRI_MAP", Str.ofString "_QUOPRI_HEADER_MAP", Str.ofString "_QUOPRI_BODY_MAP", Str.ofString "ascii_lowercase", Str.ofString "ascii_uppercase", Str.ofString "ascii_letters", Str.ofString "digits", Str.ofString "_QUOPRI_BODY_ENCODE_MAP", Str.ofString "header_encode"]
def rr : RowW := OpenRow.toRowW (OpenLaw.row PySem.Challenge.rw_tx0003_01)
def Xt (s : Shared) : Bool := recOk (RowW.records rr) s
def dH : DefRec := ⟨fName (stAt 13), fArgs (stAt 13), fBody (stAt 13), fScope (stAt 13), stPos (stAt 13)⟩
/-- the default of the header's def is a tuple of one -/
def dfl (h : Heap) : Bool := match h.nsMap mainGlobals (Str.ofString "header_encode") with
  | some (.ref a) => match h.get? a with
    | some o => match o.data with
      | .func fd => match fd.defaults with
        | .ref T => match h.get? T with
          | some o' => match o'.cls, o'.data with
            | .type n, .seq items _ => n == "tuple" && items.size == 1
            | _, _ => false
          | none => false
        | _ => false
      | _ => false
    | none => false
  | _ => false
def isStr (l : List Nat) : Value → Bool
  | .str x _ => x.cps.toList == l
  | _ => false
def tabB : List Nat → List Value → Bool
  | [], _ => true
  | c :: cs, v :: vs => isStr (enc1 c) v && tabB cs vs
  | _ :: _, [] => false
/-- the header's map holds every octet's signs -/
def mapOk (h : Heap) : Bool := match h.nsMap mainGlobals (Str.ofString "_QUOPRI_HEADER_MAP") with
  | some (.ref a) => match h.get? a with
    | some o => match o.cls, o.data with
      | .type n, .seq items _ => n == "list" && tabB (List.range 256) items.toList
      | _, _ => false
    | none => false
  | _ => false

theorem looks1 (w : World) (os : OsState) : (staticsOk (importedModules P.main.body) (boot_heap w.params) (H1 w.params) && namesBound P (H1 w.params) && gensDone ⟨H1 w.params, #[], boot_drawn, 1808, os⟩ && laidKept (boot_heap w.params) (H1 w.params)) = true := by kernel_rfl
theorem looks2 (w : World) (os : OsState) : openSeen q loose (importedModules P.main.body) Xt true ⟨H1 w.params, #[], boot_drawn, 1808, os⟩ = openGood q loose := by kernel_rfl
theorem hShape (p : Params) : shapeAtK (H1 p) (Str.ofString "header_encode") = some dH.shape := by kernel_rfl
theorem hDfl (p : Params) : dfl (H1 p) = true := by kernel_rfl
theorem hMap (p : Params) : mapOk (H1 p) = true := by kernel_rfl
theorem hNs (p : Params) : (H1 p).isNs mainGlobals = true := by kernel_rfl
theorem hSize (w : World) : ((boot_heap w.params).isNs mainGlobals && (#[] : Array GenState).size == 0, (boot_heap w.params).objs.size, (boot_heap w.params).nsMap mainGlobals "__annotations__") = (true, 11, annV) := by kernel_rfl

theorem bootP (w : World) : (importEnds treeTable (opening P) w 600 (start (opening P)).1 (start (opening P)).2).map (fun s => (s.heap, s.gens, s.drawn, s.toks)) = some (boot_heap w.params, Array.mk [], boot_drawn, boot_toks) := by kernel_rfl
theorem fenceP (s : Shared) : fenceModules? P s = some s := by kernel_rfl
theorem openP (w : World) : (fencedOpening treeTable P w 20000).map (fun s => (s.heap, s.gens, s.drawn, s.toks)) = some (boot_heap w.params, #[], boot_drawn, boot_toks) := by
  obtain ⟨s, hs, hv⟩ := Option.map_eq_some_iff.mp (bootP w)
  have m := importEnds_mono 19400 _ _ _ _ hs
  unfold fencedOpening
  rw [show 20000 = 600 + 19400 from rfl, m]
  show ((fenceModules? P s)).map _ = _
  rw [fenceP s]
  exact congrArg some hv

theorem left : LeftO P q loose Xt (fun s => s.heap) (fun w => H1 w.params) 20000 :=
  LeftO.of_pieces (H₀ := fun p => boot_heap p) (H₁ := H1) (gs₀ := #[]) (gs₁ := #[]) (d₀ := boot_drawn) (d₁ := boot_drawn) (k₀ := boot_toks) (k₁ := 1808) (m₀ := 11) (ann := annV) (M := 17508)
    openP hSize (fun w os => good0 w os) (by decide)
    (fun w => funext fun os => by
      show ((staticsOk (importedModules P.main.body) (boot_heap w.params) (H1 w.params) && namesBound P (H1 w.params) && gensDone ⟨H1 w.params, #[], boot_drawn, 1808, os⟩ && laidKept (boot_heap w.params) (H1 w.params)), openSeen q loose (importedModules P.main.body) Xt true ⟨H1 w.params, #[], boot_drawn, 1808, os⟩, H1 w.params) = (true, openGood q loose, H1 w.params)
      rw [looks1, looks2])
end Ov
end

section
open PySem PySem.W PyProof.Rows
set_option maxRecDepth 100000
set_option maxHeartbeats 8000000
namespace Ov

theorem ns_same {h : Heap} {a : Addr} {m m' : Str → Option Value} (x : h.Ns a m) (y : h.Ns a m') (n : Str) : m n = m' n := by
  obtain ⟨o, es, ep, e, d, _, r⟩ := x
  obtain ⟨o', es', ep', e', d', _, r'⟩ := y
  rw [e] at e'; cases e'
  rw [d] at d'; cases d'
  rw [← r, ← r']

def dR (n : Nat) : DefRec := ⟨fName (stAt n), fArgs (stAt n), fBody (stAt n), fScope (stAt n), stPos (stAt n)⟩
theorem fn_of {mean : ExcName → Option Value} {mg mb : Str → Option Value} {h : Heap} {l : List Str} (T : Top q l mean mg mb h) {k n : Nat} {nm : Str} (e : (recsOf q)[k]? = some (dR n)) (en : fName (stAt n) = nm) :
    ∃ a, mg nm = some (.ref a) ∧ IsFnAt h a n .none := by
  obtain ⟨a, o, pm, code, doc, h1, h2, h3, h4⟩ := T.fn (dR n) (List.mem_of_getElem? e)
  subst en
  exact ⟨a, h1, o, _, _, _, _, _, _, _, _, h2, h3, h4⟩

theorem map_of {h : Heap} (x : mapOk h = true) : ∃ z items, h.nsMap mainGlobals (Str.ofString "_QUOPRI_HEADER_MAP") = some (.ref z) ∧ h.IsList z items ∧ Table items := by
  unfold mapOk at x
  split at x <;> try cases x
  rename_i z hz
  split at x <;> try cases x
  rename_i o ho
  split at x <;> try cases x
  rename_i n items k hc hd
  obtain ⟨x1, x2⟩ := Bool.and_eq_true_iff.mp x
  refine ⟨z, items, hz, ⟨o, ho, by rw [hc, beq_iff_eq.mp x1], k, hd⟩, ?_⟩
  have key : ∀ (cs : List Nat) (vs : List Value), tabB cs vs = true → ∀ (i c : Nat), cs[i]? = some c → ∃ t, vs[i]? = some (Value.str ⟨(enc1 c).toArray⟩ t) := by
    intro cs
    induction cs with
    | nil => intro vs _ i c e; cases e
    | cons c cs ih =>
      intro vs hx i c' e
      cases vs with
      | nil => cases hx
      | cons v vs =>
        obtain ⟨y1, y2⟩ := Bool.and_eq_true_iff.mp hx
        cases i with
        | zero =>
          cases e
          cases v with
          | str s t =>
            have : s.cps.toList = enc1 c := beq_iff_eq.mp y1
            refine ⟨t, ?_⟩
            rw [← this]
            simp
          | _ => cases y1
        | succ i => exact ih vs y2 i c' e
  intro c hc'
  obtain ⟨t, e⟩ := key (List.range 256) items.toList x2 c c (by simp [hc'])
  exact ⟨t, by simpa using e⟩

theorem head_of {h : Heap} (x : shapeAtK h (Str.ofString "header_encode") = some dH.shape) (y : dfl h = true) : ∃ a, h.nsMap mainGlobals (Str.ofString "header_encode") = some (.ref a) ∧ ∃ T v, IsFnAt h a 13 (.ref T) ∧ IsTup h T #[v] := by
  obtain ⟨a, o, pm, code, doc, dV, kV, h1, h2, h3, h4⟩ := hasFn_of_shapeK (h := h) (d := dH) x
  have h1' : h.nsMap mainGlobals (Str.ofString "header_encode") = some (.ref a) := h1
  unfold dfl at y
  rw [h1'] at y
  dsimp only at y
  rw [h2] at y
  dsimp only at y
  rw [h3] at y
  dsimp only at y
  split at y <;> try cases y
  rename_i T
  split at y <;> try cases y
  rename_i o' ho'
  split at y <;> try cases y
  rename_i n items k hc hd
  obtain ⟨y1, y2⟩ := Bool.and_eq_true_iff.mp y
  obtain ⟨v, hv⟩ : ∃ v, items = #[v] := by
    have : items.size = 1 := beq_iff_eq.mp y2
    exact ⟨items[0], by apply Array.ext'; match items, this with | ⟨[v]⟩, _ => rfl⟩
  subst hv
  exact ⟨a, h1', T, v, ⟨o, _, _, _, _, _, _, _, _, h2, h3, h4⟩, o', ho', by rw [hc, beq_iff_eq.mp y1], k, hd⟩

theorem walkO (said : (OpenLaw.row PySem.Challenge.rw_tx0003_01).wellSaid = true) : (OpenLaw.row PySem.Challenge.rw_tx0003_01).Holds := by
  refine holds_open (q := q) (loose := loose) (Xt := Xt) (XP := fun _ _ => True) (Yf := fun s => s.heap) (Ya := fun w => H1 w.params) (YP := fun w h => HLe (H1 w.params) h) (N := 20000) left (fun w s e => ?hY) (fun w h h' y k => HLe.trans y k) (fun _ _ => trivial) (fun _ _ _ x _ => x)
    (by rfl) (by rfl) (by rfl) (fun s e => recFacts_of e) (by rfl) said (by decide +kernel) ⟨rfl, rfl, rfl, rfl, rfl, by decide +kernel⟩ ?hw ?hc
  case hY => rw [← e]; exact HLe.rfl
  case hw => w_witness2
  case hc =>
    intro w s₀ s₁ mg mb G Y fa o pm cd doc dV kV ho hd hcd hD hmg hg args vals as hpre hlay hrd hwl hlo
    have T := G.T
    have hmg' : mg (Str.ofString "law") = some (.ref fa) := hmg
    clear hcd hd hD hmg G ho
    have mgIs : ∀ n, mg n = (H1 w.params).nsMap mainGlobals n := fun n => ns_same T.g ((Heap.Ns.of_isNs (hNs w.params)).keeps Y) n
    have bi_of : ∀ (n : Str) (v : Value), n ∉ startupNames → n ∉ looseW q loose → n ∉ (recsOf q).map (·.name) → n ∉ (litsOf q).map (·.1) → n ∉ (clssOf q (looseW q loose)).map (·.name) → n ≠ "__name__" → bootBuiltins n = some v → bi mg mb n v :=
      fun n v a1 a2 a3 a4 a5 a6 e => ⟨T.free n a1 a2 a3 a4 a5, (T.builtins n a6).trans e⟩
    have amb : Amb mg mb s₁.heap := {
      g := T.g
      b := T.b
      lim := T.nolimit
      fGen := fn_of T (k := 0) (n := 1) (by kernel_rfl) (by rfl)
      fHead := by
        obtain ⟨a, h1, T', v, h2, h3⟩ := head_of (hShape w.params) (hDfl w.params)
        exact ⟨a, (mgIs _).trans h1, T', v, h2.keeps Y, h3.keeps Y⟩
      fWide := fn_of T (k := 1) (n := 18) (by kernel_rfl) (by rfl)
      fFigs := fn_of T (k := 2) (n := 19) (by kernel_rfl) (by rfl)
      fLong := fn_of T (k := 3) (n := 20) (by kernel_rfl) (by rfl)
      fTails := fn_of T (k := 4) (n := 21) (by kernel_rfl) (by rfl)
      fDue := fn_of T (k := 5) (n := 22) (by kernel_rfl) (by rfl)
      fRow := fn_of T (k := 6) (n := 23) (by kernel_rfl) (by rfl)
      fMap := by
        obtain ⟨z, items, h1, h2, h3⟩ := map_of (hMap w.params)
        exact ⟨z, items, (mgIs _).trans h1, list_keeps h2 Y, h3⟩
      bLen := bi_of _ _ (by decide +kernel) (by decide +kernel) (by decide +kernel) (by decide +kernel) (by decide +kernel) (by decide) (by kernel_rfl)
      bRange := bi_of _ _ (by decide +kernel) (by decide +kernel) (by decide +kernel) (by decide +kernel) (by decide +kernel) (by decide) (by kernel_rfl)
      bChr := bi_of _ _ (by decide +kernel) (by decide +kernel) (by decide +kernel) (by decide +kernel) (by decide +kernel) (by decide) (by kernel_rfl)
      bOrd := bi_of _ _ (by decide +kernel) (by decide +kernel) (by decide +kernel) (by decide +kernel) (by decide +kernel) (by decide) (by kernel_rfl)
      bSum := bi_of _ _ (by decide +kernel) (by decide +kernel) (by decide +kernel) (by decide +kernel) (by decide +kernel) (by decide) (by kernel_rfl)
      bMax := bi_of _ _ (by decide +kernel) (by decide +kernel) (by decide +kernel) (by decide +kernel) (by decide +kernel) (by decide) (by kernel_rfl)
      bMin := bi_of _ _ (by decide +kernel) (by decide +kernel) (by decide +kernel) (by decide +kernel) (by decide +kernel) (by decide) (by kernel_rfl)
      bBytes := bi_of _ _ (by decide +kernel) (by decide +kernel) (by decide +kernel) (by decide +kernel) (by decide +kernel) (by decide) (by kernel_rfl) }
    obtain ⟨fl, gl, ffl⟩ := fn_of T (k := 7) (n := 24) (nm := Str.ofString "law") (by kernel_rfl) (by rfl)
    have hfl : fl = fa := by rw [hmg'] at gl; cases gl; rfl
    subst hfl
    clear mgIs bi_of
    wrow_args hpre hlay hrd hwl hlo
    rename_i ns _ _ _ _ _ _ _ lv vs _ hL _ _ _ hI _ hlen _
    refine c_law amb ⟨rfl, by decide +kernel, by decide +kernel⟩ ffl hL hI (by omega) fun s' k => GoodW.toG ⟨.inl ⟨.bool true, .bool true, [], rfl, fun _ => by rfl, .bool true, by kernel_rfl, fun _ => ⟨List.nodup_nil, fun _ h => nomatch h⟩⟩, kHeap k, ?_, ?_⟩
    · obtain ⟨h', t', rfl, _⟩ := k; rfl
    · obtain ⟨h', t', rfl, _⟩ := k; exact hg
end Ov
end

open PySem PySem.W PyProof.Rows
set_option maxRecDepth 100000 in
set_option maxHeartbeats 8000000 in
theorem PySem.Challenge.cw_tx0003_01_holds : PySem.Challenge.rw_tx0003_01.Holds := by
  w_on; o_law
  exact Ov.walkO (by assumption)
