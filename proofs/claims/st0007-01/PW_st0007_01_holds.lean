import PyProof.Rows.All
import Wide.All
import OpenK.AllK
import Wide.FinOn
import Flt.RightMore
import Flt.Calls
import KE.KIntText
import PyProof.GenQ
import Lean
import PySem.Challenge.RW_st0007_01
open PySem PySem.W PySem.Calls PyProof.Rows
set_option Elab.async false
set_option rowWalk.seconds 3000
set_option maxRecDepth 100000
set_option maxHeartbeats 4000000
set_option linter.all false
set_option compiler.extract_closed false
namespace Mine
theorem olt1 {a : Nat} : a < a + 1 := Nat.lt_succ_self a
theorem olt2 {a : Nat} : a < a + 1 + 1 := by omega
theorem olt3 {a : Nat} : a < a + 1 + 1 + 1 := by omega
theorem olt4 {a : Nat} : a < a + 1 + 1 + 1 + 1 := by omega
theorem olt5 {a : Nat} : a < a + 1 + 1 + 1 + 1 + 1 := by omega
theorem olt6 {a : Nat} : a < a + 1 + 1 + 1 + 1 + 1 + 1 := by omega
theorem olt7 {a : Nat} : a < a + 1 + 1 + 1 + 1 + 1 + 1 + 1 := by omega
theorem olt8 {a : Nat} : a < a + 1 + 1 + 1 + 1 + 1 + 1 + 1 + 1 := by omega
theorem oltc {n c k : Nat} (h : c = k) (hk : Nat.blt n k = true) : n < c := by subst h; exact Nat.le_of_ble_eq_true hk
theorem oxk {n c k : Nat} (h : c ≤ n) (hk : Nat.ble n k = true) : c ≤ k := Nat.le_trans h (Nat.le_of_ble_eq_true hk)
theorem oxl {n c k : Nat} (h : c < n) (hk : Nat.ble n (k + 1) = true) : c ≤ k := Nat.le_of_lt_succ (Nat.lt_of_lt_of_le h (Nat.le_of_ble_eq_true hk))
theorem olta {a k r : Nat} (h : a + k < r) : a < r := Nat.lt_of_le_of_lt (Nat.le_add_right a k) h
theorem opos {a k : Nat} (h : 0 < a) : 0 < a + k := Nat.lt_of_lt_of_le h (Nat.le_add_right a k)
theorem opick {x y b : Nat} {R : Prop} (h : y < b ∧ R) (k : y < b ∧ R → x < b) : x < b := k h
theorem opickN {x a y : Nat} {R : Prop} (h : a ≠ y ∧ R) (k : a ≠ y ∧ R → a ≠ x) : a ≠ x := k h
theorem ohop {x m c : Nat} (h : m < c) (k : x < m) : x < c := Nat.lt_trans k h
theorem ohopl {x m c : Nat} (h : m < c) (k : x ≤ m) : x < c := Nat.lt_of_le_of_lt k h
theorem ohopr {x m c : Nat} (h : x < m) (k : m < c) : x < c := Nat.lt_trans h k
theorem oandR {P R G : Prop} (k : R → G) : P ∧ R → G := fun h => k h.2
theorem oandh {R : Prop} {x y b : Nat} (k : x < y) : y < b ∧ R → x < b := fun h => Nat.lt_trans k h.1
theorem oandL {P R : Prop} : P ∧ R → P := And.left
theorem oself {x b : Nat} (h : x < b) : x < b := h
theorem propOnly {p : Prop} (h : p) : p := h
theorem nmL {prog : Program} {w : World} {A : Around} {h₀ : Heap} {L a : Addr} {cn : Str} {cs : Scope} {ccd : Value} {cl : List (Str × Addr)} (hk : cs.kind = .function) {x : Str} (hx : (envX cn cs L a ccd cl).kindOf x = some .local) (hd : (x == ("__debug__" : Str)) = false) {pos : Pos} {s : Shared} {m : Str → Option Value} {v : Value} {Q E : Value → Shared → Prop} (F : Fr h₀ L s.heap m) (hv : m x = some v) (h : Q v s) :
    wpAny (model prog w) A (eval (.Name x pos) (envX cn cs L a ccd cl)) Q E s := nameX_L F hv h hk hx hd
theorem wp_hide {α : Type} {M : Model} {A : Around} {c : Sem α} {Q : α → Shared → Prop} {E : Value → Shared → Prop} {s : Shared} (h : ∀ Q' : α → Shared → Prop, (∀ x s, Q x s → Q' x s) → wpAny M A c Q' E s) : wpAny M A c Q E s := h Q fun _ _ x => x
theorem unr_hide {M : Model} {A : Around} {c : Sem Flow} {h₀ : Heap} {L I : Addr} {it : Obj} {rest : (Str → Option Value) → List (Addr × Obj) → Prop} {Q : Flow → Shared → Prop} {E : Value → Shared → Prop} {s₁ s : Shared} (h : ∀ (Q' : Flow → Shared → Prop) (E' : Value → Shared → Prop), (∀ s₂, UnrEnd h₀ L s₁ I it rest s₂ → Q' .next s₂) → wpAny M A c Q' E' s) : wpAny M A c (UnrPost h₀ L s₁ I it rest Q) E s := h _ _ fun _ x => x
theorem arr3 {α : Type} {a : Array α} {x y z : α} (hn : a.size = 3) (e1 : a[0]? = some x) (e2 : a[1]? = some y) (e3 : a[2]? = some z) : a = #[x, y, z] := Array.ext_getElem? fun | 0 => e1 | 1 => e2 | 2 => e3 | i + 3 => by rw [Array.getElem?_eq_none (hn ▸ Nat.le_add_left 3 i)]; rfl
theorem nbm {c x B : Int} {N : Nat} (h : 0 ≤ x ∧ x ≤ B) (g : c.natAbs * B.natAbs < N) : (c * x).natAbs < N := by
  rw [Int.natAbs_mul]
  exact Nat.lt_of_le_of_lt (Nat.mul_le_mul_left _ (Int.ofNat_le.mp (by rw [Int.natAbs_of_nonneg h.1, Int.natAbs_of_nonneg (Int.le_trans h.1 h.2)]; exact h.2))) g
theorem nb0 {x B : Int} {N : Nat} (h : 0 ≤ x ∧ x ≤ B) (g : B.natAbs < N) : x.natAbs < N := by
  have := nbm (c := 1) h (N := N) (by rw [show (1 : Int).natAbs = 1 from rfl, Nat.one_mul]; exact g)
  rwa [Int.one_mul] at this
theorem nbM {c x B : Int} (h : 0 ≤ x ∧ x ≤ B) : (c * x).natAbs ≤ c.natAbs * B.natAbs := Nat.le_of_lt_succ (nbm h (Nat.lt_succ_self _))
theorem nba {x y : Int} {A B : Nat} (h : x.natAbs ≤ A) (g : y.natAbs ≤ B) : (x + y).natAbs ≤ A + B := Nat.le_trans (Int.natAbs_add_le x y) (Nat.add_le_add h g)
theorem nbs {x y : Int} {A B : Nat} (h : x.natAbs ≤ A) (g : y.natAbs ≤ B) : (x - y).natAbs ≤ A + B := Nat.le_trans (Int.natAbs_sub_le x y) (Nat.add_le_add h g)
theorem tnat {e m : Int} (h : m ≤ e) (h0 : -1074 ≤ m) : (e - m).toNat + (m + 1074).toNat = (e + 1074).toNat := by
  rw [← Int.toNat_add (Int.sub_nonneg_of_le h) (show 0 ≤ m + 1074 by omega), ← Int.add_assoc, Int.sub_add_cancel]
theorem tonat {x : Int} (h : 0 ≤ x) : x = ((x.toNat : Nat) : Int) := (Int.toNat_of_nonneg h).symm
theorem abs_to {x : Int} (h : 0 ≤ x) : x.natAbs = x.toNat := Int.ofNat.inj ((Int.natAbs_of_nonneg h).trans (tonat h))
theorem up0 {x B : Int} (h : 1 ≤ x ∧ x ≤ B) : 0 ≤ x ∧ x ≤ B := ⟨Int.le_trans (by decide) h.1, h.2⟩
theorem z0 {z x y w : Int} (h0 : 0 ≤ z) (a : z ≤ x) (b : z ≤ y) (c : z ≤ w) (h : x = 0 ∨ y = 0 ∨ w = 0) : z = 0 := Int.le_antisymm (h.elim (fun e => e ▸ a) fun h => h.elim (fun e => e ▸ b) fun e => e ▸ c) h0
theorem zT {z x y w T : Int} (h0 : z ≤ T) (a : x ≤ z) (b : y ≤ z) (c : w ≤ z) (h : x = T ∨ y = T ∨ w = T) : z = T := Int.le_antisymm h0 (h.elim (fun e => e ▸ a) fun h => h.elim (fun e => e ▸ b) fun e => e ▸ c)
theorem hopn {k n n' d : Nat} (h : n + d ≤ n') : k + (n' - n) = k + d + (n' - (n + d)) := by rw [Nat.sub_add_eq, Nat.add_assoc, Nat.add_sub_of_le (Nat.le_sub_of_add_le (by rw [Nat.add_comm]; exact h))]
theorem lt_pred {n k : Nat} (hn : 0 < n) (h : k ≤ n - 1) : k < n := Nat.lt_of_le_of_lt h (Nat.sub_lt hn Nat.one_pos)
theorem pow20 {W : Nat} (h : W ≤ 20) : (1 : Int) ≤ 2 ^ W ∧ (2 : Int) ^ W ≤ 1048576 := by
  have e : ((2 ^ W : Nat) : Int) = (2 : Int) ^ W := by rw [Int.natCast_pow]; rfl
  exact ⟨Int.pow_pos (by decide), by rw [← e]; exact Int.ofNat_le.mpr (Nat.pow_le_pow_right (n := 2) (by decide) h)⟩
theorem len_drop {r k d b c : Nat} (h : r = d - k) (h1 : d ≤ b) (h2 : b ≤ c) : r ≤ c := by subst h; exact Nat.le_trans (Nat.sub_le _ _) (Nat.le_trans h1 h2)
theorem sh1 {i j n : Nat} (h : i + (j + 1) = n) : i + 1 + j = n := by rw [Nat.add_assoc, Nat.add_comm 1 j]; exact h
theorem olad0 {x b c : Nat} (h : x + b < c) : x < c := Nat.lt_of_le_of_lt (Nat.le_add_right _ _) h
theorem olad {x a b c : Nat} (h : x + b < c) (k : Nat.ble a b = true) : x + a < c := Nat.lt_of_le_of_lt (Nat.add_le_add_left (Nat.le_of_ble_eq_true k) x) h
theorem olad2 {x a e b c : Nat} (h : x + b < c) (k : Nat.ble (a + e) b = true) : x + a + e < c := by rw [Nat.add_assoc]; exact olad h k
theorem oi0 {i n : Nat} {N : Int} (h : i < n) (k : Nat.ble n N.toNat = true) : 0 + (i : Int) < N := by
  rw [Int.zero_add]; exact Int.lt_toNat.mp (Nat.lt_of_lt_of_le h (Nat.le_of_ble_eq_true k))
theorem oi1 {i c n : Nat} {N : Int} (h : i < c) (h2 : c ≤ n) (k : Nat.ble n N.toNat = true) : 0 + (i : Int) < N := oi0 (Nat.lt_of_lt_of_le h h2) k
theorem ne4L {x l d s P : Nat} (h : x < l) (h1 : l < d) (h2 : d < s) (h3 : s < P) : x ≠ P ∧ x ≠ l ∧ x ≠ d ∧ x ≠ s :=
  ⟨Nat.ne_of_lt (Nat.lt_trans h (Nat.lt_trans h1 (Nat.lt_trans h2 h3))), Nat.ne_of_lt h, Nat.ne_of_lt (Nat.lt_trans h h1), Nat.ne_of_lt (Nat.lt_trans h (Nat.lt_trans h1 h2))⟩
theorem ne4K {L x l d s P : Nat} (h : L + 1 + 1 + 1 + 1 + 1 + 1 + 1 + 1 < l) (h1 : l < d) (h2 : d < s) (h3 : s < P) (hx : x ≤ L + 1 + 1 + 1 + 1 + 1 + 1 + 1 + 1) : x ≠ P ∧ x ≠ l ∧ x ≠ d ∧ x ≠ s := ne4L (Nat.lt_of_le_of_lt hx h) h1 h2 h3
theorem ne4H {x l d s P : Nat} (h : P < x) (h1 : l < d) (h2 : d < s) (h3 : s < P) : x ≠ P ∧ x ≠ l ∧ x ≠ d ∧ x ≠ s :=
  ⟨Nat.ne_of_gt h, Nat.ne_of_gt (Nat.lt_trans (Nat.lt_trans h1 (Nat.lt_trans h2 h3)) h), Nat.ne_of_gt (Nat.lt_trans (Nat.lt_trans h2 h3) h), Nat.ne_of_gt (Nat.lt_trans h3 h)⟩
theorem dec_lt {i n : Nat} (h : i < n) : n + 1 - (i + 1) < n + 1 - i := Nat.sub_lt_sub_left (Nat.lt_succ_of_lt h) (Nat.lt_succ_self i)
theorem cases5 : ∀ {k : Int}, 0 ≤ k → k < 5 → k = 0 ∨ k = 1 ∨ k = 2 ∨ k = 3 ∨ k = 4
  | .ofNat 0, _, _ => .inl rfl | .ofNat 1, _, _ => .inr (.inl rfl) | .ofNat 2, _, _ => .inr (.inr (.inl rfl)) | .ofNat 3, _, _ => .inr (.inr (.inr (.inl rfl))) | .ofNat 4, _, _ => .inr (.inr (.inr (.inr rfl)))
  | .ofNat (n + 5), _, h => absurd (Int.ofNat_lt.mp h) (Nat.not_lt.mpr (Nat.le_add_left 5 n))
theorem cases6 {k : Int} (h : 0 ≤ k ∧ k < 6) : k = 0 ∨ k = 1 ∨ k = 2 ∨ k = 3 ∨ k = 4 ∨ k = 5 :=
  (Int.lt_or_le k 5).elim (fun q => (cases5 h.1 q).imp id (·.imp id (·.imp id (·.imp id .inl)))) fun q => .inr (.inr (.inr (.inr (.inr (Int.le_antisymm (Int.le_of_lt_add_one h.2) q)))))
theorem cases4 {k : Int} (h0 : 0 ≤ k) (h : k ≤ 3) : k = 0 ∨ k = 1 ∨ k = 2 ∨ k = 3 :=
  (cases5 h0 (Int.lt_of_le_of_lt h (by decide))).imp id (·.imp id (·.imp id (·.resolve_right fun e => absurd (e ▸ h) (by decide))))
theorem q1 {i j n : Nat} (h : i + (j + 1) = n) : i < n := h ▸ Nat.lt_add_of_pos_right (Nat.succ_pos j)
theorem q74 {n : Nat} (h : n = 11) : n - 3 = 8 := h ▸ rfl
theorem q2 {m n i : Nat} (e : m = n) (h : i < n) : i < m := e ▸ h
theorem q3 {m n i : Nat} (e : m = n) (h : i < m) : i < n := e ▸ h
theorem q4 {a b : Nat} (h : 0 < a) : 0 < a + b := Nat.add_pos_left h b
theorem q75 {j : Nat} (h : 0 < j) : j - 1 + 1 = j := Nat.sub_add_cancel h
theorem qp {i k n : Nat} (h : i + k = n) (hi : i < n) : 0 < k := Nat.pos_of_ne_zero fun e => Nat.ne_of_lt hi (by rw [← h, e, Nat.add_zero])
theorem q76 {i k n : Nat} (h : i + k = n) (hi : i < n) : i + 1 + (k - 1) = n := by rw [Nat.add_assoc, Nat.add_sub_cancel' (qp h hi)]; exact h
theorem q5 {i k n : Nat} (h : i + k = n) (hi : i < n) : k - 1 < k := Nat.sub_lt (qp h hi) Nat.one_pos
theorem q148 {a : Int} {i : Nat} : a + (i : Int) + 1 = a + ((i + 1 : Nat) : Int) := Int.add_assoc a i 1
theorem q99 {i k n : Nat} (h : i + k = n) (hi : i < n) : (0 : Int) < n - i := Int.sub_pos_of_lt (Int.ofNat_lt.mpr hi)
theorem q77 {i k n : Nat} (h : i + k = n) (hi : ¬ i < n) : i = n := Nat.le_antisymm (h ▸ Nat.le_add_right i k) (Nat.le_of_not_lt hi)
theorem q6 {a b : Nat} (h : 0 < a) (k : a + 1 + 1 ≤ b) : 0 < b := Nat.lt_of_lt_of_le (Nat.succ_pos _) k
theorem q100 {i c : Nat} (h : i < c - 1) (h1 : 1 ≤ c) (k : c ≤ 8) : 1 + (i : Int) < 2 ^ 64 := Int.lt_of_lt_of_le (Int.add_lt_add_left (Int.ofNat_lt.mpr (Nat.lt_of_lt_of_le (Nat.lt_of_lt_of_le h (Nat.sub_le c 1)) k)) 1) (by decide)
theorem q37 {z i j n m : Nat} (h : z ≤ 10 * i + j) (hi : i < n) (hn : n ≤ 10) (hj : j < m) (hm : m ≤ 10) : z ≤ 16777216 := Nat.le_trans h (Nat.le_trans (Nat.add_le_add (Nat.mul_le_mul_left 10 (Nat.le_trans (Nat.le_of_lt hi) hn)) (Nat.le_trans (Nat.le_of_lt hj) hm)) (by decide))
theorem q38 {z i j : Nat} (h : z ≤ 10 * i + j) : z + 1 ≤ 10 * i + (j + 1) := Nat.succ_le_succ h
theorem q39 {z i v : Nat} (h : z ≤ 10 * i + v) (k : v ≤ 10) : z ≤ 10 * (i + 1) := Nat.le_trans h (Nat.add_le_add_left k _)
theorem q40 {y n : Nat} (h : y ≤ 10 * n) (k : n ≤ 10) : y ≤ 100 := Nat.le_trans h (Nat.mul_le_mul_left 10 k)
theorem q101 {i n m : Nat} (h : i < n) (e : n = m) (k : m ≤ 63) : 0 + (i : Int) < 2 ^ 63 := oi1 h (e ▸ k) rfl
theorem q102 {i n : Nat} (h : i < n) (k : n ≤ 8) : (i : Int) < 2 ^ 64 := Int.zero_add (i : Int) ▸ oi1 h k rfl
theorem q103 {i : Nat} (h : i < 8) : (i : Int) < 2 ^ 64 := q102 h (Nat.le_refl 8)
theorem q104 {i : Nat} (h : i < 8) : (i : Int) < 2 ^ 63 := Int.zero_add (i : Int) ▸ oi0 h rfl
theorem q105 {x : Int} {c : Nat} (h : x < (c : Int)) (k : c ≤ 9) : x < 2 ^ 63 := Int.lt_trans (Int.lt_of_lt_of_le h (Int.ofNat_le.mpr k)) (by decide)
theorem q106 {i n m : Nat} (h : i < n) (e : m = n) : 0 + (i : Int) < (m : Int) := e ▸ (Int.zero_add (i : Int)).symm ▸ Int.ofNat_lt.mpr h
theorem q107 {i n m : Nat} (h : i < n) (e : m = n) : (i : Int) < (m : Int) := e ▸ Int.ofNat_lt.mpr h
theorem q108 {i : Nat} : -2 ^ 64 < 0 + (i : Int) := (Int.zero_add (i : Int)).symm ▸ Int.lt_of_lt_of_le (by decide) (Int.natCast_nonneg i)
theorem q129 {i : Nat} : 0 ≤ 0 + (i : Int) := (Int.zero_add (i : Int)).symm ▸ Int.natCast_nonneg i
theorem q78 {i : Nat} : (0 + (i : Int)).toNat = i := (Int.zero_add (i : Int)).symm ▸ Int.toNat_natCast i
theorem q79 {i : Nat} : (0 + (i : Int) + 3).toNat = i + 3 := (Int.zero_add (i : Int)).symm ▸ Int.toNat_natCast (i + 3)
theorem q109 {i : Nat} (h : i < 8) : 405 * (0 + (i : Int)) < 2 ^ 64 := (Int.zero_add (i : Int)).symm ▸ Int.lt_trans (Int.mul_lt_mul_of_pos_left (Int.ofNat_lt.mpr h) (by decide)) (by decide)
theorem q80 {a k n : Nat} (h : a + (k + 1) = n) : n - 1 - a = k := by subst h; rw [Nat.sub_sub, Nat.add_comm 1 a, ← Nat.add_assoc, Nat.add_right_comm]; exact Nat.add_sub_cancel_left ..
theorem q41 {i c : Nat} (k : c ≤ 8) (h : i < c) : 2 * i ≤ 20 := Nat.le_trans (Nat.mul_le_mul_left 2 (Nat.le_trans (Nat.le_of_lt h) k)) (by decide)
theorem q7 {n c i : Nat} (e : n = 8) (k : c ≤ 8) (h : i < c) : i < n := e ▸ Nat.lt_of_lt_of_le h k
theorem q81 {a j : Nat} (h : j ≠ 0) : a + 1 + (j - 1) = a + j := by rw [Nat.add_assoc, Nat.add_sub_cancel' (Nat.pos_of_ne_zero h)]
theorem q8 {m j : Nat} (h : j < m + 1) (k : j ≠ 0) : j - 1 < m := Nat.sub_lt_right_of_lt_add (Nat.pos_of_ne_zero k) h
theorem q42 {a s b n : Nat} (h : a ≤ b) (k : s ≤ b * n) : a + s ≤ b * n + b * 1 := by rw [Nat.add_comm, Nat.mul_one]; exact Nat.add_le_add k h
theorem q149 {x : Int} (h : x < 0) : (x.natAbs : Int) = -x := Int.ofNat_natAbs_of_nonpos (Int.le_of_lt h)
theorem q150 {n : Nat} (h : n % 2 = 1) : (n : Int) % 2 = 1 := congrArg Int.ofNat h
theorem q43 : (8 - Nat.succ 0) / 1 + 1 ≤ 16777216 := by decide
theorem q82 {k n : Nat} (h : 1 < n) : k + n = k + 1 + (n - 1) := by rw [Nat.add_assoc, Nat.add_sub_cancel' (Nat.le_of_lt h)]
theorem q83 {k n : Nat} (h : 2 < n) : k + n = k + 2 + (n - 2) := by rw [Nat.add_assoc, Nat.add_sub_cancel' (Nat.le_of_lt h)]
theorem q110 {c : Int} (h : c ≤ 72) : (c - 1) / 9 < 8 := Int.ediv_lt_of_lt_mul (by decide) (Int.lt_of_le_of_lt (Int.sub_le_sub_right h 1) (by decide))
theorem q130 {c : Int} (h : 0 ≤ c) (k : ¬ c = 0) : 0 ≤ (c - 1) / 9 := Int.ediv_nonneg (Int.sub_nonneg_of_le (Int.lt_iff_le_and_ne.mpr ⟨h, Ne.symm k⟩)) (by decide)
theorem q111 {c : Int} : (c - 1) % 9 < 9 := Int.emod_lt_of_pos _ (by decide)
theorem q151 {m n : Nat} (e : m = n) : ((n : Int) - 0 - 1) / 1 + 1 = (m : Int) := by rw [Int.ediv_one, Int.sub_zero, Int.sub_add_cancel, e]
theorem q44 {x : Int} (h : 0 ≤ x) : 3 ≤ (3 + x).toNat := Int.ofNat_le.mp (Int.le_trans (Int.le_add_of_nonneg_right h) (Int.self_le_toNat _))
theorem q45 {x : Int} {b : Nat} (h : x < 8) (e : 1 + x = (b : Int)) : b ≤ 8 := Int.ofNat_le.mp (e ▸ (Int.add_le_add_left (Int.le_of_lt_add_one (b := 7) h) 1 : 1 + x ≤ 1 + 7))
theorem q9 {x : Int} (h : 0 ≤ x) (k : x < 8) : (1 + x).natAbs < 2 ^ 1023 := Nat.lt_of_le_of_lt (Nat.le_trans (Int.natAbs_add_le 1 x) (Nat.add_le_add_left (Int.ofNat_le.mp ((Int.natAbs_of_nonneg h).symm ▸ Int.le_of_lt k)) 1)) (Nat.lt_of_lt_of_le (by decide : 1 + 8 < 2 ^ 4) (Nat.pow_le_pow_right (by decide) (by decide : 4 ≤ 1023)))
theorem q152 {x : Int} : (2 + 2 * x) % 2 = 0 := (Int.add_mul_emod_self_left 2 2 x).trans rfl
theorem q10 {m n : Nat} (e : m = n) (h : 0 < n) : 0 < m := e ▸ h
theorem q46 {m n i : Nat} (h : m ≤ i) (e : m = n) : n ≤ i := e ▸ h
theorem q47 {m i : Nat} (h : i < 3) (e : m = i) : m ≤ 16777216 := e ▸ Nat.le_trans (Nat.le_of_lt h) (by decide)
theorem q48 {m n : Nat} (h : n ≤ 20) (e : m = n) : n + (0 + 1) ≤ 16777216 := Nat.le_trans (Nat.succ_le_succ h) (by decide)
theorem q49 {m n : Nat} (h : n = 8) (e : m = n) : m ≤ 16777216 := e ▸ h ▸ by decide
theorem q112 {n : Nat} (h : n ≤ 1000) : ((n + 1 : Nat) : Int) < 2 ^ 63 := Int.lt_of_le_of_lt (Int.ofNat_le.mpr (Nat.succ_le_succ h)) (by decide)
theorem q113 {n : Nat} (h : n ≤ 2) : (n : Int) < 9223372036854775808 := Int.lt_of_le_of_lt (Int.ofNat_le.mpr h) (by decide)
theorem q50 {a b : Nat} (h : b ≤ 2) (k : a ≤ 4) : a + b ≤ 8 := Nat.le_trans (Nat.add_le_add k h) (by decide)
theorem q51 {a b k : Nat} (h : a ≤ k) (g : b ≤ 1) : a + b ≤ k + 1 + 1 := Nat.le_succ_of_le (Nat.add_le_add h g)
theorem q52 {a b k K : Nat} (hK : K < 1000) (h : a ≤ k) (hk : k < K) (g : b ≤ 1) : a + b ≤ 16777216 := Nat.le_trans (Nat.add_le_add (Nat.le_trans h (Nat.le_of_lt (Nat.lt_trans hk hK))) g) (by decide)
theorem q53 {n : Nat} (h : ¬ ((63 : Nat) : Int) < (n : Int)) : n ≤ 63 := Int.ofNat_le.mp (Int.not_lt.mp h)
theorem q11 {c : Nat} (h : 1 ≤ c) : c - 1 < c := Nat.sub_lt h Nat.one_pos
theorem q12 {c : Nat} (h : 2 ≤ c) : 0 < c - 1 := Nat.sub_pos_of_lt h
theorem q13 {c : Nat} (h : 1 ≤ c) (k : ¬ c = 1) : 0 < c - 1 := Nat.sub_pos_of_lt (Nat.lt_of_le_of_ne h (Ne.symm k))
theorem q131 {c : Int} : c.fmod 73 ≤ 72 := Int.le_of_lt_add_one (Int.fmod_lt_of_pos c (by decide))
theorem q132 {x : Int} (h : x < 4) : x ≤ 3 := Int.le_of_lt_add_one h
theorem q114 {x : Int} {n : Nat} (h : x < 5) (e : n = 5) : x < (n : Int) := e ▸ h
theorem q115 {x : Int} {n : Nat} (h : x < 11) (e : n = 11) : x < (n : Int) := e ▸ h
theorem q14 {x : Int} {c : Nat} (h : x < (c : Int)) (h0 : 1 ≤ x) : x.toNat < c := (Int.toNat_lt (Int.le_trans (by decide) h0)).mpr h
theorem q15 {x : Int} {c : Nat} (h : x < (c : Int)) (h0 : 1 ≤ c) : x.toNat < c := by
  cases x with
  | ofNat n => exact Int.ofNat_lt.mp h
  | negSucc n => exact h0
theorem q54 {a b s : Nat} (h : a + 1 ≤ b) : a ≤ b := Nat.le_of_succ_le h
theorem q161 {i c : Nat} (h : i < c - 1) : 1 ≤ 1 + (i : Int) ∧ 1 + (i : Int) < (c : Int) := ⟨Int.le_add_of_nonneg_right (Int.natCast_nonneg i), by rw [Int.add_comm]; exact Int.ofNat_lt.mpr (Nat.add_lt_of_lt_sub h)⟩
theorem q16 {n : Nat} : 48 + n % 10 < 1114112 := Nat.lt_trans (Nat.add_lt_add_left (Nat.mod_lt n (by decide)) 48) (by decide)
theorem q84 {n : Nat} : 0 + n = n := Nat.zero_add n
theorem q55 {a b c k : Nat} (h : a ≤ b * c) (g : k ≤ b) : k + a ≤ b * (c + 1) := by rw [Nat.add_comm]; exact Nat.add_le_add h g
theorem q56 {a k : Nat} (h : a ≤ k) : a ≤ k + 1 := Nat.le_succ_of_le h
theorem q162 {x T : Int} (h : 0 ≤ x ∧ x < T) : 0 ≤ T ∧ (0 ≤ x ∧ x ≤ T) ∧ 0 ≤ T := ⟨Int.le_of_lt (Int.lt_of_le_of_lt h.1 h.2), ⟨h.1, Int.le_of_lt h.2⟩, Int.le_of_lt (Int.lt_of_le_of_lt h.1 h.2)⟩
theorem q17 {n l : Nat} {s : Nat} (h : 0 < n) (e : l = n) : 0 < l := e ▸ h
theorem q57 {x : Nat} (h : 1 ≤ x) (h2 : x ≤ 2 ^ 20) : x ≤ 1048576 := h2
theorem q18 {b : Int} (h : 0 < b) : 0 < b.natAbs := Int.natAbs_pos.mpr (Int.ne_of_gt h)
theorem q19 {n m : Nat} (h : n < m) (e : n / 10 = m / 10) : 48 + n % 10 < 48 + m % 10 := Nat.add_lt_add_left (by have a := Nat.div_add_mod n 10; have b := Nat.div_add_mod m 10; rw [← a, ← b, e] at h; exact Nat.lt_of_add_lt_add_left h) 48
theorem q20 {k m : Nat} (h : m < k * 10) : m / 10 < k := Nat.div_lt_of_lt_mul (Nat.mul_comm k 10 ▸ h)
theorem q21 {n m : Nat} (h : n < m) (e : ¬ n / 10 = m / 10) : n / 10 < m / 10 := Nat.lt_of_le_of_ne (Nat.div_le_div_right (Nat.le_of_lt h)) e
theorem q22 {q : Nat} (h : q < 1048576) : 10000000 + q < 10 ^ 8 := Nat.lt_trans (Nat.add_lt_add_left h _) (by decide)
theorem q116 {x : Int} (h : x < 1048576) : 10000000 + x < 20000000 := Int.lt_trans (Int.add_lt_add_left h _) (by decide)
theorem q85 {a b : Nat} (h : a ≤ b) : b = a + (b - a) := (Nat.add_sub_of_le h).symm
theorem q117 {x : Int} : x % 6 < 6 := Int.emod_lt_of_pos _ (by decide)
theorem q58 {x y z : Nat} (h : x = 1) (g : y = 1) : x + y ≤ 2 := by rw [h, g]; decide
theorem q23 {x y z : Nat} {P : Prop} (h : P ∧ x ≤ y) (g : 0 < x) : 0 < y := Nat.lt_of_lt_of_le g h.2
theorem q166 {k : Int} (h : 0 ≤ k) (h5 : k < 5) : k = 0 ∨ k = 1 ∨ k = 2 ∨ k = 3 ∨ k = 4 := cases5 h h5
theorem q167 {k : Int} (h : 0 ≤ k) (h6 : k < 6) : k = 0 ∨ k = 1 ∨ k = 2 ∨ k = 3 ∨ k = 4 ∨ k = 5 := cases6 ⟨h, h6⟩
theorem q118 {i c : Nat} (h : i < c) (k : c ≤ 8) : (i : Int) < 2 ^ 64 := q102 h k
theorem q168 {x : Int} (h : 0 ≤ x) (k : x < 6) (a : x ≠ 0) (b : x ≠ 1) (c : x ≠ 2) (d : x ≠ 3) (e : x ≠ 4) (f : x ≠ 5) : False := (cases6 ⟨h, k⟩).elim a (·.elim b (·.elim c (·.elim d (·.elim e f))))
theorem q87 {L l d s P H : Nat} (h4 : P < H) (h : L + 1 + 1 + 1 + 1 + 1 + 1 + 1 + 1 < l) (h1 : l < d) (h2 : d < s) (h3 : s < P) : L + 1 + 1 + 1 + 1 + 1 + 1 ≠ H := Nat.ne_of_lt (Nat.lt_trans (Nat.lt_trans olt2 h) (Nat.lt_trans h1 (Nat.lt_trans h2 (Nat.lt_trans h3 h4))))
theorem q88 {L D S l d s P : Nat} (h : L + 1 + 1 + 1 + 1 + 1 + 1 + 1 + 1 < D) (g : D < S) (k : S < l) (h1 : l < d) (h2 : d < s) (h3 : s < P) : P ≠ L + 1 + 1 + 1 + 1 + 1 + 1 + 1 + 1 := Nat.ne_of_gt (Nat.lt_trans h (Nat.lt_trans g (Nat.lt_trans k (Nat.lt_trans h1 (Nat.lt_trans h2 h3)))))
theorem q89 {L : Nat} (h : 105 < L) : L + 1 + 1 + 1 + 1 + 1 + 1 + 1 + 1 ≠ 105 := Nat.ne_of_gt (Nat.lt_trans h olt8)
theorem q90 {L D : Nat} (h : 105 < L) (k : L + 1 + 1 + 1 + 1 + 1 + 1 + 1 + 1 < D) : 105 ≠ D := Nat.ne_of_lt (Nat.lt_trans h (Nat.lt_trans olt8 k))
theorem q91 {L D G : Nat} (h : 105 < L) (k : L + 1 + 1 + 1 + 1 + 1 + 1 + 1 + 1 < D) (l : D < G) : G ≠ 105 := Nat.ne_of_gt (Nat.lt_trans h (Nat.lt_trans olt8 (Nat.lt_trans k l)))
theorem qbig : 1048577 ≤ 2 ^ 1024 - 2 ^ 970 := by decide +kernel
theorem qab {x : Int} (h : 0 ≤ x) (k : x ≤ 1048576) : ¬ 2 ^ 1024 - 2 ^ 970 ≤ x.natAbs := Nat.not_le.mpr (Nat.lt_of_lt_of_le (Nat.lt_succ_of_le (Int.ofNat_le.mp ((Int.natAbs_of_nonneg h).symm ▸ k))) qbig)
theorem q96 {x w : Int} (k : w ≤ 1048576) (h : 0 ≤ x) (l : x ≤ w) : ¬ 2 ^ 1024 - 2 ^ 970 ≤ x.natAbs := qab h (Int.le_trans l k)
theorem q97 {x : Int} (h : 1 ≤ x) (k : x ≤ 1048576) : ¬ 2 ^ 1024 - 2 ^ 970 ≤ x.natAbs := qab (Int.le_trans (by decide) h) k
theorem q98 {n m : Nat} (h : n < m) : ¬ m ≤ n := Nat.not_le.mpr h
theorem q59 {a b i c : Nat} (k : c ≤ 8) (h : i < c) (e : a = b) (f : b = i) : a ≤ 20 := e ▸ f ▸ Nat.le_trans (Nat.le_of_lt (Nat.lt_of_lt_of_le h k)) (by decide)
theorem q119 {i : Nat} : -2 ^ 64 < 405 * (0 + (i : Int)) := (Int.zero_add (i : Int)).symm ▸ Int.lt_of_lt_of_le (by decide) (Int.mul_nonneg (by decide) (Int.natCast_nonneg i))
theorem q163 {x T : Int} (h : 0 ≤ x ∧ x < T) : (x ≤ T ∧ T - x ≤ T) ∧ 0 ≤ T := ⟨⟨Int.le_of_lt h.2, Int.sub_le_self T h.1⟩, Int.le_of_lt (Int.lt_of_le_of_lt h.1 h.2)⟩
theorem q164 {x T : Int} (h : 0 ≤ x ∧ x < T) : 0 ≤ T ∧ (x ≤ T ∧ T - x ≤ T) ∧ 0 ≤ T := ⟨(q163 h).2, q163 h⟩
theorem q60 {x : Int} (k : x < 18) : (3 + x).toNat ≤ 20 := Int.toNat_le.mpr (Int.add_le_add_left (Int.le_of_lt_add_one (b := 17) k) 3)
theorem q120 {a b c : Nat} (k : c ≤ 8) (e : a = b) (f : b = c - 1) : (a : Int) < 2 ^ 63 := e ▸ f ▸ Int.lt_of_le_of_lt (Int.ofNat_le.mpr (Nat.le_trans (Nat.sub_le c 1) k)) (by decide)
theorem q24 {c : Nat} (h : c ≤ 8) : c < 9 := Nat.lt_succ_of_le h
theorem q61 {c : Nat} (h : c ≤ 8) : c - 1 ≤ 16777216 := Nat.le_trans (Nat.sub_le c 1) (Nat.le_trans h (by decide))
theorem q133 {f A B : Int} (h : 2 ≤ f) (k : 0 ≤ A ∧ A ≤ B) : 0 ≤ f + A := Int.add_nonneg (Int.le_trans (by decide) h) k.1
theorem q134 {f A P : Int} (h : f ≤ 2 * P) (p : 0 < P) (k : 0 ≤ A ∧ A ≤ 7 * (2 * P)) : f + A ≤ 20 * P := Int.le_trans (Int.add_le_add h k.2) (by rw [← Int.mul_assoc, ← Int.add_mul]; exact Int.mul_le_mul_of_nonneg_right (by decide) (Int.le_of_lt p))
theorem q135 {f P : Int} (h : f ≤ 2 * P) (p : 0 < P) : f ≤ 20 * P := Int.le_trans h (Int.mul_le_mul_of_nonneg_right (by decide) (Int.le_of_lt p))
theorem q62 {n : Nat} (h : n = 1 ∨ n = 4 ∨ n = 6 ∨ n = 9) : n ≤ 9 := by rcases h with rfl | rfl | rfl | rfl <;> decide
theorem q136 {n : Nat} {m : Int} (h : n = 1 ∨ n = 4 ∨ n = 6 ∨ n = 9) (e : m = (n : Int)) : 1 ≤ m := by subst e; rcases h with rfl | rfl | rfl | rfl <;> decide
theorem q137 {i c : Nat} (k : c ≤ 8) (h : i < c) : (i : Int) ≤ 7 := Int.ofNat_le.mpr (Nat.le_of_lt_succ (Nat.lt_of_lt_of_le h k))
theorem q153 {n : Nat} (h : n % 2 = 0) : (n : Int) % 2 = 0 := congrArg Int.ofNat h
theorem q63 {n : Nat} (h : n = 11) : 8 ≤ n - 3 := h ▸ Nat.le_refl 8
theorem q121 {n i : Nat} (e : n = 11) (h : i < 8) : 0 + (i : Int) + 3 < (n : Int) := e ▸ (Int.zero_add (i : Int)).symm ▸ Int.add_lt_add_right (Int.ofNat_lt.mpr h) 3
theorem q25 {n i : Nat} (e : n = 11) (h : i < 8) : i + 3 < n := e ▸ Nat.add_lt_add_right h 3
theorem q122 {i : Nat} (h : i < 8) : 0 + (i : Int) + 3 < 2 ^ 63 := Int.lt_trans (q121 rfl h) (by decide)
theorem q123 {x : Int} (h : x < 5) : x < 2 ^ 63 := Int.lt_trans h (by decide)
theorem q124 {x : Int} (h : x < 11) : x < 2 ^ 63 := Int.lt_trans h (by decide)
theorem q125 {x : Int} (h : x ≤ 3) : x < 2 ^ 63 := Int.lt_of_le_of_lt h (by decide)
theorem q126 {x : Int} (h : x = 4) : x < 2 ^ 63 := h ▸ by decide
theorem q26 : 301 + 1 + 30 < 1000 := by decide
theorem q64 : 0 + 1 + 1 + 1 + 1 ≤ 16777216 := by decide
theorem q65 : 0 + 1 + 1 + 1 + 1 + 1 ≤ 16777216 := by decide
theorem q66 {s : Nat} (h : s ≤ 8 * 8) : s + 8 * 0 ≤ 16777216 := Nat.le_trans h (by decide)
theorem q27 {n m i : Nat} (e : n = 8) (h : i < m) (k : m = n) : i < 8 := e ▸ k ▸ h
theorem q28 {q : Nat} (h : 1 ≤ q) (k : q ≤ 8) : q - 1 < 8 := Nat.lt_of_lt_of_le (Nat.sub_lt h Nat.one_pos) k
theorem q138 {q c : Nat} {m : Int} (h : (q : Int) ≤ m) (k : c ≤ q) : (c : Int) ≤ m := Int.le_trans (Int.ofNat_le.mpr k) h
theorem q139 {m : Int} (h : 1 ≤ m) : (m.toNat : Int) ≤ m := Int.le_of_eq (Int.toNat_of_nonneg (Int.le_trans (by decide) h))
theorem q67 {a r : Nat} (h : r ≤ 6) (e : a = r + 1) : a ≤ 10 := e ▸ Nat.le_trans (Nat.succ_le_succ h) (by decide)
theorem q68 {r : Nat} (h : r ≤ 6) : 0 + 1 + r ≤ 16777216 := Nat.le_trans (Nat.add_le_add_left h _) (by decide)
theorem q156 {c : Int} (h : 1 ≤ c) : ¬ c = 0 := Int.ne_of_gt h
theorem q157 {c : Int} (h : 0 < c) : ¬ c = 0 := Int.ne_of_gt h
theorem q140 {c : Int} : 0 ≤ c % 9 := Int.emod_nonneg c (by decide)
theorem q141 {c : Int} : 0 ≤ c % 6 := Int.emod_nonneg c (by decide)
theorem q154 {n : Nat} : (n : Int) - ((0 : Nat) : Int) = (n : Int) := Int.sub_zero n
theorem q155 {n i : Nat} : (n : Int) - (i : Int) - 1 = (n : Int) - ((i + 1 : Nat) : Int) := Int.sub_sub n i 1
theorem q69 {x : Int} {a : Nat} (h : 0 ≤ x) (e : 1 + x = (a : Int)) : 1 ≤ a := Int.ofNat_le.mp (e ▸ Int.le_add_of_nonneg_right h)
theorem q142 {x : Int} (h : 0 ≤ x) : 2 ≤ 2 + 2 * x := Int.le_add_of_nonneg_right (Int.mul_nonneg (by decide) h)
theorem q86 {a k n : Nat} (h : n ≤ 9) (e : a + (k + 1) = n) (f : ((a + 1 : Nat) : Int) = 9) : a + 1 = n := Nat.le_antisymm (e ▸ Nat.add_le_add_left (Nat.succ_pos k) a) (Int.ofNat_inj.mp (f : _ = ((9 : Nat) : Int)) ▸ h)
theorem q29 {a k n i : Nat} (h : n ≤ 9) (e : a + (k + 1) = n) (f : ((a + 1 : Nat) : Int) = 9) (g : i < n) : i < a + 1 := (q86 h e f).symm ▸ g
theorem q92 {a k n : Nat} (e : a + (k + 1) = n) (f : ((a + 1 : Nat) : Int) ≠ 9) (g : n = 9) : ¬ k = 0 := fun h => f (congrArg Int.ofNat ((h ▸ e : a + (0 + 1) = n).trans g))
theorem q30 {a n i : Nat} (e : a + 0 = n) (g : i < n) : i < a := by subst e; exact g
theorem q70 {a : Nat} {x : Int} (h : x ≤ 2 ^ 20) (e : (a : Int) = x) : a ≤ 1048576 := Int.ofNat_le.mp (e ▸ h)
theorem q143 {x : Int} (h : x ≤ 2 ^ 20) : x ≤ 1048576 := h
theorem q31 {l c : Nat} (h : 1 ≤ c) (e : l = c) : 0 < l := e ▸ h
theorem q71 {b k : Nat} (h : b ≤ 1) : 0 + b ≤ k + 1 + 1 := (Nat.zero_add b).symm ▸ Nat.le_trans h (Nat.succ_le_succ (Nat.zero_le _))
theorem q32 {k K : Nat} (hK : K < 1000) (h : k < K) : k + 1 < 1000 := Nat.lt_of_le_of_lt h hK
theorem q72 {n c : Nat} (h : n + 1 < c) : 2 ≤ c := Nat.le_trans (Nat.succ_le_succ (Nat.succ_pos n)) h
theorem q144 {a b x : Int} {P : Prop} (h : a < b) (k : P ∧ x ≤ a) : x ≤ b := Int.le_trans k.2 (Int.le_of_lt h)
theorem q145 {n : Nat} : -2 ^ 62 ≤ (n : Int) := Int.le_trans (by decide) (Int.natCast_nonneg n)
theorem q127 {i n m : Nat} (e : n = m) (h : i < n) : 0 + (i : Int) < (m : Int) := q106 (e ▸ h) rfl
theorem q73 {a b c : Nat} (h : a ≤ b) (k : b ≤ c) : a ≤ c := Nat.le_trans h k
theorem q146 {x : Int} (h : 1 ≤ x) : 0 ≤ x := Int.le_trans (by decide) h
theorem q147 {x : Int} (h : x > 0) : 0 ≤ x := Int.le_of_lt h
theorem q128 {x : Int} (h : 0 ≤ x) : 0 - (10000000 + x) < 20000000 := Int.lt_of_le_of_lt (Int.sub_le_sub_left (Int.le_add_of_nonneg_right h) 0) (by decide)
theorem q169 {x : Int} {P : Prop} (h : x = 0) (k : x ≠ 0) : P := absurd h k
theorem q93 {L D : Nat} (h : L + 8 < D) : ¬ L + 1 + 1 + 1 + 1 + 1 = D := Nat.ne_of_lt (Nat.lt_trans (Nat.add_lt_add_left (by decide : 5 < 8) L) h)
theorem q158 {l : Nat} (h : l ≠ 0) : ¬ (l : Int) = 0 := fun e => h (Int.ofNat_inj.mp e)
theorem q94 {k : Nat} (h : k % 2 = 1) : ¬ k % 2 = 0 := fun e => absurd (h.symm.trans e) (by decide)
theorem q33 {p q : Nat} (h : p < q) : 10000000 + p < 10000000 + q := Nat.add_lt_add_left h _
theorem q34 {p : Int} (h : p < 1048576) : p.toNat < 1048576 := (Int.toNat_lt' (by decide)).mpr h
theorem q165 {f P : Int} (h : 2 ≤ f) (k : f ≤ P) : 1 ≤ f ∧ f ≤ P := ⟨Int.le_trans (by decide) h, k⟩
theorem q35 {n i : Nat} (h : n ≤ 9) (k : i + 1 < n) : i < 8 := Nat.lt_of_succ_lt_succ (Nat.lt_of_lt_of_le k h)
theorem q160 {k : Nat} : ¬ (k : Int) + 1 < 0 := Int.not_lt.mpr (Int.natCast_nonneg (k + 1))
theorem q159 {f : Int} (h : 2 ≤ f) : ¬ f = 0 := fun e => absurd (e ▸ h) (by decide)
theorem q95 {j : Nat} (h : j < 5) : ¬ j + 1 = 9 := fun e => absurd (Nat.succ.inj e ▸ h : 8 < 5) (by decide)
theorem q36 {ka c : Nat} {m : Int} (h1 : 1 ≤ c) (h : ka < c - 1) (k : m < (c : Int)) : (m - 1).toNat < c - 1 := q15 (by rw [Int.natCast_sub h1]; exact Int.sub_lt_sub_right k 1) (Nat.lt_of_le_of_lt (Nat.zero_le ka) h)
theorem all_cons {α : Type} {P : α → Prop} {x : α} {l : List α} (h1 : P x) (h2 : ∀ p ∈ l, P p) : ∀ p ∈ x :: l, P p := List.forall_mem_cons.mpr ⟨h1, h2⟩
@[elab_as_elim] theorem mem_cs {α : Type} {P : α → Prop} {x p : α} {l : List α} (h : p ∈ x :: l) (h1 : P x) (h2 : p ∈ l → P p) : P p := (List.mem_cons.mp h).elim (fun e => e ▸ h1) h2
theorem mem_1t {α : Type} {a p : α} {X C tl tz : List α} (h : p ∈ tl → p ∈ tz) (hp : p ∈ a :: (C ++ tl)) : p ∈ a :: (X ++ (C ++ tz)) := (List.mem_cons.mp hp).elim (fun e => e ▸ .head _) fun hp => .tail _ (List.mem_append_right X ((List.mem_append.mp hp).elim (List.mem_append_left _) fun hp => List.mem_append_right C (h hp)))
theorem mem_dn {α : Type} {d n p : α} {A C R tz : List α} (h : ∀ p, p ∈ A ++ (n :: R) → p ∈ tz) (hp : p ∈ d :: n :: (C ++ (A ++ R))) : p ∈ d :: (C ++ tz) :=
  (List.mem_cons.mp hp).elim (fun e => e ▸ .head _) fun hp => .tail _ ((List.mem_cons.mp hp).elim (fun e => e ▸ List.mem_append_right C (h _ (List.mem_append_right A (.head _)))) fun hp => (List.mem_append.mp hp).elim (List.mem_append_left _) fun hp => List.mem_append_right C (h p ((List.mem_append.mp hp).elim (List.mem_append_left _) fun hp => List.mem_append_right A (.tail _ hp))))
theorem mem_in {α : Type} {n p : α} {A R : List α} (hp : p ∈ A ++ R) : p ∈ A ++ (n :: R) := (List.mem_append.mp hp).elim (List.mem_append_left _) fun hp => List.mem_append_right A (.tail _ hp)
theorem mem_hd {α : Type} {p : α} {H R : List α} : p ∈ H ++ R ↔ (p ∈ R ∨ p ∈ H) := List.mem_append.trans Or.comm
theorem exE2 {A1 A2 : Type} {P : A1 → A2 → Prop} {G : Prop} (h : ∃ a1 a2, P a1 a2) (k : ∀ a1 a2, P a1 a2 → G) : G := h.elim fun a h => h.elim (k a)
theorem exE3 {A1 A2 A3 : Type} {P : A1 → A2 → A3 → Prop} {G : Prop} (h : ∃ a1 a2 a3, P a1 a2 a3) (k : ∀ a1 a2 a3, P a1 a2 a3 → G) : G := h.elim fun a h => exE2 h (k a)
theorem exE4 {A1 A2 A3 A4 : Type} {P : A1 → A2 → A3 → A4 → Prop} {G : Prop} (h : ∃ a1 a2 a3 a4, P a1 a2 a3 a4) (k : ∀ a1 a2 a3 a4, P a1 a2 a3 a4 → G) : G := h.elim fun a h => exE3 h (k a)
theorem exE5 {A1 A2 A3 A4 A5 : Type} {P : A1 → A2 → A3 → A4 → A5 → Prop} {G : Prop} (h : ∃ a1 a2 a3 a4 a5, P a1 a2 a3 a4 a5) (k : ∀ a1 a2 a3 a4 a5, P a1 a2 a3 a4 a5 → G) : G := h.elim fun a h => exE4 h (k a)
theorem exE6 {A1 A2 A3 A4 A5 A6 : Type} {P : A1 → A2 → A3 → A4 → A5 → A6 → Prop} {G : Prop} (h : ∃ a1 a2 a3 a4 a5 a6, P a1 a2 a3 a4 a5 a6) (k : ∀ a1 a2 a3 a4 a5 a6, P a1 a2 a3 a4 a5 a6 → G) : G := h.elim fun a h => exE5 h (k a)
theorem exE7 {A1 A2 A3 A4 A5 A6 A7 : Type} {P : A1 → A2 → A3 → A4 → A5 → A6 → A7 → Prop} {G : Prop} (h : ∃ a1 a2 a3 a4 a5 a6 a7, P a1 a2 a3 a4 a5 a6 a7) (k : ∀ a1 a2 a3 a4 a5 a6 a7, P a1 a2 a3 a4 a5 a6 a7 → G) : G := h.elim fun a h => exE6 h (k a)
theorem exE8 {A1 A2 A3 A4 A5 A6 A7 A8 : Type} {P : A1 → A2 → A3 → A4 → A5 → A6 → A7 → A8 → Prop} {G : Prop} (h : ∃ a1 a2 a3 a4 a5 a6 a7 a8, P a1 a2 a3 a4 a5 a6 a7 a8) (k : ∀ a1 a2 a3 a4 a5 a6 a7 a8, P a1 a2 a3 a4 a5 a6 a7 a8 → G) : G := h.elim fun a h => exE7 h (k a)
theorem exE9 {A1 A2 A3 A4 A5 A6 A7 A8 A9 : Type} {P : A1 → A2 → A3 → A4 → A5 → A6 → A7 → A8 → A9 → Prop} {G : Prop} (h : ∃ a1 a2 a3 a4 a5 a6 a7 a8 a9, P a1 a2 a3 a4 a5 a6 a7 a8 a9) (k : ∀ a1 a2 a3 a4 a5 a6 a7 a8 a9, P a1 a2 a3 a4 a5 a6 a7 a8 a9 → G) : G := h.elim fun a h => exE8 h (k a)
theorem exE10 {A1 A2 A3 A4 A5 A6 A7 A8 A9 A10 : Type} {P : A1 → A2 → A3 → A4 → A5 → A6 → A7 → A8 → A9 → A10 → Prop} {G : Prop} (h : ∃ a1 a2 a3 a4 a5 a6 a7 a8 a9 a10, P a1 a2 a3 a4 a5 a6 a7 a8 a9 a10) (k : ∀ a1 a2 a3 a4 a5 a6 a7 a8 a9 a10, P a1 a2 a3 a4 a5 a6 a7 a8 a9 a10 → G) : G := h.elim fun a h => exE9 h (k a)
theorem exE11 {A1 A2 A3 A4 A5 A6 A7 A8 A9 A10 A11 : Type} {P : A1 → A2 → A3 → A4 → A5 → A6 → A7 → A8 → A9 → A10 → A11 → Prop} {G : Prop} (h : ∃ a1 a2 a3 a4 a5 a6 a7 a8 a9 a10 a11, P a1 a2 a3 a4 a5 a6 a7 a8 a9 a10 a11) (k : ∀ a1 a2 a3 a4 a5 a6 a7 a8 a9 a10 a11, P a1 a2 a3 a4 a5 a6 a7 a8 a9 a10 a11 → G) : G := h.elim fun a h => exE10 h (k a)
theorem xI2 {A1 A2 : Type} {P : A1 → A2 → Prop} (a1 : A1) (a2 : A2) (h : P a1 a2) : ∃ a1 a2, P a1 a2 := ⟨a1, a2, h⟩
theorem xI3 {A1 A2 A3 : Type} {P : A1 → A2 → A3 → Prop} (a1 : A1) (a2 : A2) (a3 : A3) (h : P a1 a2 a3) : ∃ a1 a2 a3, P a1 a2 a3 := ⟨a1, xI2 a2 a3 h⟩
theorem xI4 {A1 A2 A3 A4 : Type} {P : A1 → A2 → A3 → A4 → Prop} (a1 : A1) (a2 : A2) (a3 : A3) (a4 : A4) (h : P a1 a2 a3 a4) : ∃ a1 a2 a3 a4, P a1 a2 a3 a4 := ⟨a1, xI3 a2 a3 a4 h⟩
theorem xI5 {A1 A2 A3 A4 A5 : Type} {P : A1 → A2 → A3 → A4 → A5 → Prop} (a1 : A1) (a2 : A2) (a3 : A3) (a4 : A4) (a5 : A5) (h : P a1 a2 a3 a4 a5) : ∃ a1 a2 a3 a4 a5, P a1 a2 a3 a4 a5 := ⟨a1, xI4 a2 a3 a4 a5 h⟩
theorem xI6 {A1 A2 A3 A4 A5 A6 : Type} {P : A1 → A2 → A3 → A4 → A5 → A6 → Prop} (a1 : A1) (a2 : A2) (a3 : A3) (a4 : A4) (a5 : A5) (a6 : A6) (h : P a1 a2 a3 a4 a5 a6) : ∃ a1 a2 a3 a4 a5 a6, P a1 a2 a3 a4 a5 a6 := ⟨a1, xI5 a2 a3 a4 a5 a6 h⟩
theorem xI7 {A1 A2 A3 A4 A5 A6 A7 : Type} {P : A1 → A2 → A3 → A4 → A5 → A6 → A7 → Prop} (a1 : A1) (a2 : A2) (a3 : A3) (a4 : A4) (a5 : A5) (a6 : A6) (a7 : A7) (h : P a1 a2 a3 a4 a5 a6 a7) : ∃ a1 a2 a3 a4 a5 a6 a7, P a1 a2 a3 a4 a5 a6 a7 := ⟨a1, xI6 a2 a3 a4 a5 a6 a7 h⟩
theorem xI8 {A1 A2 A3 A4 A5 A6 A7 A8 : Type} {P : A1 → A2 → A3 → A4 → A5 → A6 → A7 → A8 → Prop} (a1 : A1) (a2 : A2) (a3 : A3) (a4 : A4) (a5 : A5) (a6 : A6) (a7 : A7) (a8 : A8) (h : P a1 a2 a3 a4 a5 a6 a7 a8) : ∃ a1 a2 a3 a4 a5 a6 a7 a8, P a1 a2 a3 a4 a5 a6 a7 a8 := ⟨a1, xI7 a2 a3 a4 a5 a6 a7 a8 h⟩
theorem xI9 {A1 A2 A3 A4 A5 A6 A7 A8 A9 : Type} {P : A1 → A2 → A3 → A4 → A5 → A6 → A7 → A8 → A9 → Prop} (a1 : A1) (a2 : A2) (a3 : A3) (a4 : A4) (a5 : A5) (a6 : A6) (a7 : A7) (a8 : A8) (a9 : A9) (h : P a1 a2 a3 a4 a5 a6 a7 a8 a9) : ∃ a1 a2 a3 a4 a5 a6 a7 a8 a9, P a1 a2 a3 a4 a5 a6 a7 a8 a9 := ⟨a1, xI8 a2 a3 a4 a5 a6 a7 a8 a9 h⟩
theorem xI10 {A1 A2 A3 A4 A5 A6 A7 A8 A9 A10 : Type} {P : A1 → A2 → A3 → A4 → A5 → A6 → A7 → A8 → A9 → A10 → Prop} (a1 : A1) (a2 : A2) (a3 : A3) (a4 : A4) (a5 : A5) (a6 : A6) (a7 : A7) (a8 : A8) (a9 : A9) (a10 : A10) (h : P a1 a2 a3 a4 a5 a6 a7 a8 a9 a10) : ∃ a1 a2 a3 a4 a5 a6 a7 a8 a9 a10, P a1 a2 a3 a4 a5 a6 a7 a8 a9 a10 := ⟨a1, xI9 a2 a3 a4 a5 a6 a7 a8 a9 a10 h⟩
theorem xI11 {A1 A2 A3 A4 A5 A6 A7 A8 A9 A10 A11 : Type} {P : A1 → A2 → A3 → A4 → A5 → A6 → A7 → A8 → A9 → A10 → A11 → Prop} (a1 : A1) (a2 : A2) (a3 : A3) (a4 : A4) (a5 : A5) (a6 : A6) (a7 : A7) (a8 : A8) (a9 : A9) (a10 : A10) (a11 : A11) (h : P a1 a2 a3 a4 a5 a6 a7 a8 a9 a10 a11) : ∃ a1 a2 a3 a4 a5 a6 a7 a8 a9 a10 a11, P a1 a2 a3 a4 a5 a6 a7 a8 a9 a10 a11 := ⟨a1, xI10 a2 a3 a4 a5 a6 a7 a8 a9 a10 a11 h⟩
theorem anE2 {A1 A2 G : Prop} (h : A1 ∧ A2) (k : A1 → A2 → G) : G := k h.1 h.2
theorem anE3 {A1 A2 A3 G : Prop} (h : A1 ∧ A2 ∧ A3) (k : A1 → A2 → A3 → G) : G := anE2 h.2 (k h.1)
theorem anE4 {A1 A2 A3 A4 G : Prop} (h : A1 ∧ A2 ∧ A3 ∧ A4) (k : A1 → A2 → A3 → A4 → G) : G := anE3 h.2 (k h.1)
theorem anE5 {A1 A2 A3 A4 A5 G : Prop} (h : A1 ∧ A2 ∧ A3 ∧ A4 ∧ A5) (k : A1 → A2 → A3 → A4 → A5 → G) : G := anE4 h.2 (k h.1)
theorem anE6 {A1 A2 A3 A4 A5 A6 G : Prop} (h : A1 ∧ A2 ∧ A3 ∧ A4 ∧ A5 ∧ A6) (k : A1 → A2 → A3 → A4 → A5 → A6 → G) : G := anE5 h.2 (k h.1)
theorem anE7 {A1 A2 A3 A4 A5 A6 A7 G : Prop} (h : A1 ∧ A2 ∧ A3 ∧ A4 ∧ A5 ∧ A6 ∧ A7) (k : A1 → A2 → A3 → A4 → A5 → A6 → A7 → G) : G := anE6 h.2 (k h.1)
theorem anE8 {A1 A2 A3 A4 A5 A6 A7 A8 G : Prop} (h : A1 ∧ A2 ∧ A3 ∧ A4 ∧ A5 ∧ A6 ∧ A7 ∧ A8) (k : A1 → A2 → A3 → A4 → A5 → A6 → A7 → A8 → G) : G := anE7 h.2 (k h.1)
theorem anE9 {A1 A2 A3 A4 A5 A6 A7 A8 A9 G : Prop} (h : A1 ∧ A2 ∧ A3 ∧ A4 ∧ A5 ∧ A6 ∧ A7 ∧ A8 ∧ A9) (k : A1 → A2 → A3 → A4 → A5 → A6 → A7 → A8 → A9 → G) : G := anE8 h.2 (k h.1)
theorem anE10 {A1 A2 A3 A4 A5 A6 A7 A8 A9 A10 G : Prop} (h : A1 ∧ A2 ∧ A3 ∧ A4 ∧ A5 ∧ A6 ∧ A7 ∧ A8 ∧ A9 ∧ A10) (k : A1 → A2 → A3 → A4 → A5 → A6 → A7 → A8 → A9 → A10 → G) : G := anE9 h.2 (k h.1)
theorem anE11 {A1 A2 A3 A4 A5 A6 A7 A8 A9 A10 A11 G : Prop} (h : A1 ∧ A2 ∧ A3 ∧ A4 ∧ A5 ∧ A6 ∧ A7 ∧ A8 ∧ A9 ∧ A10 ∧ A11) (k : A1 → A2 → A3 → A4 → A5 → A6 → A7 → A8 → A9 → A10 → A11 → G) : G := anE10 h.2 (k h.1)
theorem anE12 {A1 A2 A3 A4 A5 A6 A7 A8 A9 A10 A11 A12 G : Prop} (h : A1 ∧ A2 ∧ A3 ∧ A4 ∧ A5 ∧ A6 ∧ A7 ∧ A8 ∧ A9 ∧ A10 ∧ A11 ∧ A12) (k : A1 → A2 → A3 → A4 → A5 → A6 → A7 → A8 → A9 → A10 → A11 → A12 → G) : G := anE11 h.2 (k h.1)
theorem anE13 {A1 A2 A3 A4 A5 A6 A7 A8 A9 A10 A11 A12 A13 G : Prop} (h : A1 ∧ A2 ∧ A3 ∧ A4 ∧ A5 ∧ A6 ∧ A7 ∧ A8 ∧ A9 ∧ A10 ∧ A11 ∧ A12 ∧ A13) (k : A1 → A2 → A3 → A4 → A5 → A6 → A7 → A8 → A9 → A10 → A11 → A12 → A13 → G) : G := anE12 h.2 (k h.1)
theorem inv_hide {P : (Nat → Shared → Prop) → Nat → Shared → Prop} (J : Nat → Shared → Prop) (n : Nat) {s : Shared} (h0 : J n s) (h : ∀ J' : Nat → Shared → Prop, (∀ n s, J n s → J' n s) → ∀ n s, J n s → P J' n s) : ∃ J n, J n s ∧ ∀ n s, J n s → P J n s := ⟨J, n, h0, h J fun _ _ x => x⟩
theorem mem_p1 {α : Type} {X Y Z H : List α} {p : α} (h : p ∈ Y ++ (H ++ (X ++ Z))) : p ∈ X ++ (Y ++ (Z ++ H)) := by
  simp only [List.mem_append] at h ⊢
  exact h.elim (.inr ∘ .inl) (·.elim (.inr ∘ .inr ∘ .inr) (·.elim .inl (.inr ∘ .inr ∘ .inl)))
theorem mem_p2 {α : Type} {X Y Z H : List α} {p : α} (h : p ∈ X ++ (Y ++ (Z ++ H))) : p ∈ Y ++ (H ++ (X ++ Z)) := by
  simp only [List.mem_append] at h ⊢
  exact h.elim (.inr ∘ .inr ∘ .inl) (·.elim .inl (·.elim (.inr ∘ .inr ∘ .inr) (.inr ∘ .inl)))
theorem mem_p3 {α : Type} {a l b c g d p : α} {Z2 Z8 H : List α} (h : p ∈ a :: l :: b :: c :: (Z2 ++ (Z8 ++ H))) : p ∈ a :: b :: c :: l :: (H ++ (g :: (Z2 ++ (d :: Z8)))) := by
  simp only [List.mem_append, List.mem_cons] at h ⊢
  rcases h with h | h | h | h | h | h | h <;> simp [h]
theorem mem_p4 {α : Type} {o a p : α} {X r : List α} (h : p ∈ X ++ (o :: r)) : p ∈ o :: a :: (X ++ r) := by
  simp only [List.mem_append, List.mem_cons] at h ⊢
  exact h.elim (.inr ∘ .inr ∘ .inl) (·.elim .inl (.inr ∘ .inr ∘ .inr))
theorem mem_oa {α : Type} {x y z p : α} {C tz : List α} (h : p ∈ x :: (C ++ (y :: tz))) : p ∈ x :: y :: z :: (C ++ tz) := by
  simp only [List.mem_append, List.mem_cons] at h ⊢
  exact h.elim .inl (·.elim (.inr ∘ .inr ∘ .inr ∘ .inl) (·.elim (.inr ∘ .inl) (.inr ∘ .inr ∘ .inr ∘ .inr)))
theorem mem_sw {α : Type} {A B H N : List α} {p : α} : p ∈ A ++ (B ++ (H ++ N)) ↔ p ∈ B ++ (H ++ (A ++ N)) := by
  simp only [List.mem_append]
  exact or_left_comm.trans (or_congr_right or_left_comm)
theorem mem_mv {α : Type} {A T : List α} {x p : α} : p ∈ A ++ (x :: T) ↔ p ∈ x :: (A ++ T) := by
  simp only [List.mem_append, List.mem_cons]
  exact or_left_comm
theorem mem_lx {α : Type} {X E Y H h9 tl : List α} (htl : ∀ p, p ∈ tl ↔ (p ∈ H ∨ p ∈ h9)) (p : α) : p ∈ X ++ (E ++ (Y ++ tl)) ↔ p ∈ E ++ (H ++ (X ++ (Y ++ h9))) := by
  simp only [List.mem_append, htl]
  exact or_left_comm.trans (or_congr_right ((or_congr_right or_left_comm).trans or_left_comm))
theorem mem_sw2 {α : Type} {A H N : List α} {o p : α} : p ∈ o :: (A ++ (H ++ N)) ↔ p ∈ o :: (H ++ (A ++ N)) := by
  simp only [List.mem_append, List.mem_cons]
  exact or_congr_right or_left_comm
local macro_rules | `(tactic| kpc_turns) => `(tactic| first | exact oandL | exact oandh olt1 | exact oandh olt2 | (refine oandR ?_; kpc_turns) | exact id)
local macro_rules | `(tactic| kas_types) => do
  let c := fun (l : Array Lean.Name) => l.map fun x => (Lean.mkCIdent x : Lean.Term)
  let q := fun a n => (Array.range n).map fun i => Lean.mkCIdent (.str `Mine s!"q{a + i}")
  let p := c #[``olt1, ``olt2, ``olt3, ``olt4, ``olt5, ``olt6, ``olt7, ``olt8]
  let t ← `(tactic| first $[| exact $p]*)
  let f ← `(tactic| first | $t:tactic | exact oself (by assumption) | (refine opick (by assumption) ?_; kpc_turns) | (refine ohopl (by assumption) ?_; first | assumption | exact Nat.le_refl _ | (refine Nat.le_of_lt ?_; $t:tactic)))
  let h ← `(tactic| first | $f:tactic | (refine ohop (by assumption) ?_; first | $f:tactic | (refine ohop (by assumption) ?_; $f:tactic)) | (refine ohopr (by assumption) ?_; $t:tactic))
  let k1 := c #[``oltc, ``olad, ``olad2]
  let l1 := c #[``dec_lt, ``olad0]
  let l2 := c #[``Nat.add_sub_of_le, ``Nat.sub_add_cancel, ``sh1]
  let n := c #[``ne4H, ``ne4L]
  let q1 := q 1 36
  let q2 := q 37 37
  let q3 := q 74 13
  let q4 := q 87 12
  let q5 := q 99 30
  let q6 := q 129 19
  let q7 := q 148 8
  let q8 := q 156 5
  let q9 := q 161 8
  `(tactic| first
    | (refine (?_ : (_ : Nat) < _); first | exact Nat.succ_pos _ | $h:tactic $[| exact $k1 (by assumption) rfl]* $[| exact $l1 (by assumption)]* | exact Nat.lt_of_lt_of_le (by assumption) (by assumption) $[| (apply $q1 <;> assumption)]* | (simp only [Nat.reduceAdd, Nat.reduceLTLE, Nat.reduceLeDiff]; done))
    | (refine (?_ : (_ : Nat) ≤ _); first | exact Nat.le_refl _ | (refine Nat.le_of_lt ?_; $h:tactic) | exact oxk (by assumption) rfl | exact oxl (by assumption) rfl $[| (apply $q2 <;> assumption)]* | (simp only [Nat.reduceAdd, Nat.reduceLTLE, Nat.reduceLeDiff]; done))
    | (refine (?_ : (_ : Nat) ≠ _); first | exact Nat.succ_ne_zero _ | (refine Nat.ne_of_lt ?_; $t:tactic) | (refine Nat.ne_of_gt ?_; $h:tactic) | (refine Nat.ne_of_lt ?_; $h:tactic) | (refine opickN (by assumption) ?_; kpc_turns) $[| (apply $q4 <;> assumption)]*)
    | (refine (?_ : (_ : Int) < _); first | exact oi0 (by assumption) rfl | (refine Int.ofNat_lt.mpr ?_; first | assumption | exact Nat.lt_of_lt_of_le (by assumption) (by assumption)) | exact oi1 (by assumption) (by assumption) rfl $[| (apply $q5 <;> assumption)]*)
    | (refine (?_ : (_ : Int) ≤ _); first | exact Int.natCast_nonneg _ $[| (apply $q6 <;> assumption)]*)
    | (refine (?_ : (_ : Nat) = _); first $[| exact $l2 (by assumption)]* | exact Int.toNat_natCast _ $[| (apply $q3 <;> assumption)]*)
    | (refine (?_ : (_ : Int) = _); first | exact tonat (by assumption) | exact Int.toNat_of_nonneg (by assumption) | exact tonat (oandL (by assumption)) $[| (apply $q7 <;> assumption)]*)
    | (refine (?_ : _ ∧ _); first $[| exact $n (by assumption) (by assumption) (by assumption) (by assumption)]* | exact ne4K (by assumption) (by assumption) (by assumption) (by assumption) (by first | assumption | exact Nat.le_refl _ | (refine Nat.le_of_lt ?_; $t:tactic)) $[| (apply $q9 <;> assumption)]*)
    | (refine (?_ : ¬ _); first $[| (apply $q8 <;> assumption)]*)
    | (refine (?_ : _ ∨ _); first $[| (apply $q9 <;> assumption)]*)
    | (apply q168 <;> assumption)
    | (apply q169 <;> assumption))
local macro_rules | `(tactic| omega) => `(tactic| with_reducible kas_types)
local macro_rules | `(tactic| kcj_all) => `(tactic| with_reducible (intro p hp; (repeat (first | exact hp | refine List.mem_cons_of_mem _ ?_)); done))
local macro_rules | `(tactic| tb_rel) => `(tactic| first | k_asm | exact rfl | ktr_room | ktr_units)
local macro_rules | `(tactic| tb_start) => `(tactic| ((try dsimp only); (try k_fold)))
local macro_rules | `(tactic| top_reprB) => `(tactic| first | assumption | exact rfl | omega | (refine Nat.ne_of_gt ?_; omega) | (refine ⟨?_, ?_, ?_⟩ <;> top_reprB) | (dsimp only; top_reprB) | decide +kernel)
local macro_rules | `(tactic| top_strB) => `(tactic| ((rename _ ∧ _ ∧ _ ∧ _ => hz9); (have hz5 := hz9.1); (have hz6 := hz9.2.1); (have hz7 := hz9.2.2.1); (have hz8 := hz9.2.2.2); clear hz9))
local macro_rules | `(tactic| ksl_open $n:ident) => `(tactic| (k_dflt (apply $n ?kcB ?kcF ?kcX ?kcN ?kcT ?kck ?kcd ?kcu; (case kcB | kcF | kcX | kcN | kcT | kck | kcd | kcu => tb_rel); any_goals ((refine propOnly ?_); (fail_if_success intro _ _ _ _ _); top_reprB)); intro _ _ _ _ _; intros; tb_start))
local macro_rules | `(tactic| kso_open $n:ident) => `(tactic| (ksl_open $n; top_strB))
local macro_rules | `(tactic| top_argsB) => `(tactic| (intro t9 h9 tk9 hk9 F9 N9; (try dsimp only at hk9); (have h0k : 0 < tk9 := by omega); (have h0m : t9 ≠ 0 := by rcases hk9.1 with e9 | e9 | e9 <;> (rw [e9]; assumption)); clear hk9; (try dsimp only)))
local macro_rules | `(tactic| top_caught0) => `(tactic| (repeat' (first | assumption | apply List.Mem.tail)))
local macro_rules | `(tactic| walk_at "eval Name") => `(tactic| (k_here; k_dflt (refine' nmL ?k ?x ?d ?F ?v ?_; (case k => exact @Eq.refl ScopeKind .function); (case x => exact @Eq.refl (Option NameKind) (some .local)); (case d => exact @Eq.refl Bool false); (case F => k_asm); (case v => exact @Eq.refl (Option Value) (some _)); k_whole)))
section
open PySem PySem.W PyProof.Rows
noncomputable def fnOf : List Stmt → Nat → Arguments × List Stmt × Scope
  | .FunctionDef _ a b _ _ _ c _ _ _ :: _, 0 => (a, b, c)
  | _ :: r, n + 1 => fnOf r n
  | _, _ => (⟨[], [], none, [], [], none, []⟩, [], ⟨.function, [], false, false, []⟩)
noncomputable def clsOf : List Stmt → Nat → List Stmt
  | .ClassDef _ _ _ b _ _ _ _ _ _ _ :: _, 0 => b
  | _ :: r, n + 1 => clsOf r n
  | _, _ => []
noncomputable abbrev vS (x : String) (t : Tok) : Value := .str (Str.ofString x) t
noncomputable abbrev vI (n : Int) : Value := .int n 0
noncomputable abbrev oT (a : Array Value) : Obj := Obj.mk (Value.type "tuple") none (Data.seq a 0) #[]
noncomputable abbrev oC (a : Array Value) : Obj := Obj.mk (Value.type "code") none (Data.fields a) #[]
noncomputable def KX : Params → Frag := fun P =>
  (nat_lit 2, (Obj.mk Value.none none (Data.dict #[] 0) #[])) ::
  (nat_lit 3, (Obj.mk (Value.type "dict") none (Data.dict #[(DictEntry.mk (PyData.keyHash P (Str.ofString "__name__")) (Value.str (Str.ofString "__name__") 165) (Value.str (Str.ofString "law_st0007_01") 311)), (DictEntry.mk (PyData.keyHash P (Str.ofString "__doc__")) (Value.str (Str.ofString "__doc__") 166) Value.none), (DictEntry.mk (PyData.keyHash P (Str.ofString "__package__")) (Value.str (Str.ofString "__package__") 167) Value.none), (DictEntry.mk (PyData.keyHash P (Str.ofString "__loader__")) (Value.str (Str.ofString "__loader__") 168) (Value.builtin "__main__.__loader__#opaque")), (DictEntry.mk (PyData.keyHash P (Str.ofString "__spec__")) (Value.str (Str.ofString "__spec__") 169) Value.none), (DictEntry.mk (PyData.keyHash P (Str.ofString "__annotations__")) (Value.str (Str.ofString "__annotations__") 170) (Value.ref 6)), (DictEntry.mk (PyData.keyHash P (Str.ofString "__builtins__")) (Value.str (Str.ofString "__builtins__") 171) (Value.ref 4)), (DictEntry.mk (PyData.keyHash P (Str.ofString "__file__")) (Value.str (Str.ofString "__file__") 173) (Value.str (Str.ofString "/claim/cut.py") 172)), (DictEntry.mk (PyData.keyHash P (Str.ofString "__cached__")) (Value.str (Str.ofString "__cached__") 174) Value.none), (DictEntry.mk (PyData.keyHash P (Str.ofString "_strcoll")) (Value.str (Str.ofString "_strcoll") 196) (Value.ref 21)), (DictEntry.mk (PyData.keyHash P (Str.ofString "CHAR_MAX")) (Value.str (Str.ofString "CHAR_MAX") 198) (Value.int 127 197)), (DictEntry.mk (PyData.keyHash P (Str.ofString "_grouping_intervals")) (Value.str (Str.ofString "_grouping_intervals") 207) (Value.ref 28)), (DictEntry.mk (PyData.keyHash P (Str.ofString "_build_localename")) (Value.str (Str.ofString "_build_localename") 216) (Value.ref 35)), (DictEntry.mk (PyData.keyHash P (Str.ofString "rgb_to_hsv")) (Value.str (Str.ofString "rgb_to_hsv") 236) (Value.ref 42)), (DictEntry.mk (PyData.keyHash P (Str.ofString "hsv_to_rgb")) (Value.str (Str.ofString "hsv_to_rgb") 250) (Value.ref 49)), (DictEntry.mk (PyData.keyHash P (Str.ofString "_netrclex")) (Value.str (Str.ofString "_netrclex") 310) (Value.ref 87)), (DictEntry.mk (PyData.keyHash P (Str.ofString "_law_word")) (Value.str (Str.ofString "_law_word") 322) (Value.ref 98)), (DictEntry.mk (PyData.keyHash P (Str.ofString "_law_written")) (Value.str (Str.ofString "_law_written") 328) (Value.ref 103)), (DictEntry.mk (PyData.keyHash P (Str.ofString "_law_stream")) (Value.str (Str.ofString "_law_stream") 339) (Value.ref 110)), (DictEntry.mk (PyData.keyHash P (Str.ofString "_law_sizes")) (Value.str (Str.ofString "_law_sizes") 350) (Value.ref 117)), (DictEntry.mk (PyData.keyHash P (Str.ofString "_law_painted")) (Value.str (Str.ofString "_law_painted") 364) (Value.ref 124)), (DictEntry.mk (PyData.keyHash P (Str.ofString "law")) (Value.str (Str.ofString "law") 370) (Value.ref 129))] 22) #[])) ::
  (nat_lit 6, (Obj.mk (Value.type "dict") none (Data.dict #[] 0) #[])) ::
  (nat_lit 15, oT #[]) ::
  (nat_lit 17, oT #[vS "a" 192, vS "b" 193]) ::
  (nat_lit 18, oT #[]) ::
  (nat_lit 20, oC #[vS "_strcoll" 189, vS "_strcoll" 190, vS "/claim/cut.py" 191, vI 2, vI 2, vI 0, vI 0, vI 3, .ref 15, .bool true, vI 181, .ref 16, .none, .ref 17, .ref 18, .ref 19, vI 194, vI 2, vS "/claim/cut.py" 195]) ::
  (nat_lit 21, (fun (a : Arguments) (b : List Stmt) (c : Scope) (_ : fnOf (Program.main Challenge.rw_st0007_01.prog).body 1 = (a, b, c)) => Obj.mk (Value.type "function") none (Data.func (FuncData.mk (Str.ofString "_strcoll") (Str.ofString "_strcoll") a (FuncBody.stmts b) c 3 [] Value.none Value.none Value.none (Value.str (Str.ofString "cpy313.locale") 187) none (Value.ref 20) Value.none 0)) #[]) _ _ _ rfl) ::
  (nat_lit 22, oT #[]) ::
  (nat_lit 24, oT #[vS "grouping" 202, vS "last_interval" 203, vS "interval" 204]) ::
  (nat_lit 25, oT #[]) ::
  (nat_lit 27, oC #[vS "_grouping_intervals" 199, vS "_grouping_intervals" 200, vS "/claim/cut.py" 201, vI 5, vI 1, vI 0, vI 0, vI 35, .ref 22, .bool true, vI 181, .ref 23, .none, .ref 24, .ref 25, .ref 26, vI 205, vI 5, vS "/claim/cut.py" 206]) ::
  (nat_lit 28, (fun (a : Arguments) (b : List Stmt) (c : Scope) (_ : fnOf (Program.main Challenge.rw_st0007_01.prog).body 3 = (a, b, c)) => Obj.mk (Value.type "function") none (Data.func (FuncData.mk (Str.ofString "_grouping_intervals") (Str.ofString "_grouping_intervals") a (FuncBody.stmts b) c 3 [] Value.none Value.none Value.none (Value.str (Str.ofString "cpy313.locale") 187) none (Value.ref 27) Value.none 0)) #[]) _ _ _ rfl) ::
  (nat_lit 29, oT #[]) ::
  (nat_lit 31, oT #[vS "localetuple" 211, vS "language" 212, vS "encoding" 213]) ::
  (nat_lit 32, oT #[]) ::
  (nat_lit 34, oC #[vS "_build_localename" 208, vS "_build_localename" 209, vS "/claim/cut.py" 210, vI 17, vI 1, vI 0, vI 0, vI 3, .ref 29, .bool true, vI 181, .ref 30, .none, .ref 31, .ref 32, .ref 33, vI 214, vI 17, vS "/claim/cut.py" 215]) ::
  (nat_lit 35, (fun (a : Arguments) (b : List Stmt) (c : Scope) (_ : fnOf (Program.main Challenge.rw_st0007_01.prog).body 4 = (a, b, c)) => Obj.mk (Value.type "function") none (Data.func (FuncData.mk (Str.ofString "_build_localename") (Str.ofString "_build_localename") a (FuncBody.stmts b) c 3 [] Value.none Value.none Value.none (Value.str (Str.ofString "cpy313.locale") 187) none (Value.ref 34) Value.none 0)) #[]) _ _ _ rfl) ::
  (nat_lit 36, oT #[]) ::
  (nat_lit 38, oT #[vS "r" 222, vS "g" 223, vS "b" 224, vS "maxc" 225, vS "minc" 226, vS "rangec" 227, vS "v" 228, vS "s" 229, vS "rc" 230, vS "gc" 231, vS "bc" 232, vS "h" 233]) ::
  (nat_lit 39, oT #[]) ::
  (nat_lit 41, oC #[vS "rgb_to_hsv" 219, vS "rgb_to_hsv" 220, vS "/claim/cut.py" 221, vI 29, vI 3, vI 0, vI 0, vI 3, .ref 36, .bool true, vI 181, .ref 37, .none, .ref 38, .ref 39, .ref 40, vI 234, vI 29, vS "/claim/cut.py" 235]) ::
  (nat_lit 42, (fun (a : Arguments) (b : List Stmt) (c : Scope) (_ : fnOf (Program.main Challenge.rw_st0007_01.prog).body 6 = (a, b, c)) => Obj.mk (Value.type "function") none (Data.func (FuncData.mk (Str.ofString "rgb_to_hsv") (Str.ofString "rgb_to_hsv") a (FuncBody.stmts b) c 3 [] Value.none Value.none Value.none (Value.str (Str.ofString "cpy313.colorsys") 217) none (Value.ref 41) Value.none 0)) #[]) _ _ _ rfl) ::
  (nat_lit 43, oT #[]) ::
  (nat_lit 45, oT #[vS "h" 240, vS "s" 241, vS "v" 242, vS "i" 243, vS "f" 244, vS "p" 245, vS "q" 246, vS "t" 247]) ::
  (nat_lit 46, oT #[]) ::
  (nat_lit 48, oC #[vS "hsv_to_rgb" 237, vS "hsv_to_rgb" 238, vS "/claim/cut.py" 239, vI 48, vI 3, vI 0, vI 0, vI 3, .ref 43, .bool true, vI 181, .ref 44, .none, .ref 45, .ref 46, .ref 47, vI 248, vI 48, vS "/claim/cut.py" 249]) ::
  (nat_lit 49, (fun (a : Arguments) (b : List Stmt) (c : Scope) (_ : fnOf (Program.main Challenge.rw_st0007_01.prog).body 7 = (a, b, c)) => Obj.mk (Value.type "function") none (Data.func (FuncData.mk (Str.ofString "hsv_to_rgb") (Str.ofString "hsv_to_rgb") a (FuncBody.stmts b) c 3 [] Value.none Value.none Value.none (Value.str (Str.ofString "cpy313.colorsys") 217) none (Value.ref 48) Value.none 0)) #[]) _ _ _ rfl) ::
  (nat_lit 57, oT #[]) ::
  (nat_lit 59, oT #[vS "self" 268, vS "fp" 269]) ::
  (nat_lit 60, oT #[]) ::
  (nat_lit 62, oC #[vS "__init__" 265, vS "_netrclex.__init__" 266, vS "/claim/cut.py" 267, vI 72, vI 2, vI 0, vI 0, vI 3, .ref 57, .bool true, vI 181, .ref 58, .none, .ref 59, .ref 60, .ref 61, vI 270, vI 72, vS "/claim/cut.py" 271]) ::
  (nat_lit 63, (fun (a : Arguments) (b : List Stmt) (c : Scope) (_ : fnOf (clsOf (Program.main Challenge.rw_st0007_01.prog).body 9) 0 = (a, b, c)) => Obj.mk (Value.type "function") none (Data.func (FuncData.mk (Str.ofString "__init__") (Str.ofString "_netrclex.__init__") a (FuncBody.stmts b) c 3 [] Value.none Value.none Value.none (Value.str (Str.ofString "cpy313.netrc") 251) none (Value.ref 62) Value.none 0)) #[]) _ _ _ rfl) ::
  (nat_lit 64, oT #[]) ::
  (nat_lit 66, oT #[vS "self" 276, vS "ch" 277]) ::
  (nat_lit 67, oT #[]) ::
  (nat_lit 69, oC #[vS "_read_char" 273, vS "_netrclex._read_char" 274, vS "/claim/cut.py" 275, vI 78, vI 1, vI 0, vI 0, vI 3, .ref 64, .bool true, vI 181, .ref 65, .none, .ref 66, .ref 67, .ref 68, vI 278, vI 78, vS "/claim/cut.py" 279]) ::
  (nat_lit 70, (fun (a : Arguments) (b : List Stmt) (c : Scope) (_ : fnOf (clsOf (Program.main Challenge.rw_st0007_01.prog).body 9) 1 = (a, b, c)) => Obj.mk (Value.type "function") none (Data.func (FuncData.mk (Str.ofString "_read_char") (Str.ofString "_netrclex._read_char") a (FuncBody.stmts b) c 3 [] Value.none Value.none Value.none (Value.str (Str.ofString "cpy313.netrc") 251) none (Value.ref 69) Value.none 0)) #[]) _ _ _ rfl) ::
  (nat_lit 71, oT #[]) ::
  (nat_lit 73, oT #[vS "self" 284, vS "token" 285, vS "fiter" 286, vS "ch" 287]) ::
  (nat_lit 74, oT #[]) ::
  (nat_lit 76, oC #[vS "get_token" 281, vS "_netrclex.get_token" 282, vS "/claim/cut.py" 283, vI 84, vI 1, vI 0, vI 0, vI 3, .ref 71, .bool true, vI 181, .ref 72, .none, .ref 73, .ref 74, .ref 75, vI 288, vI 84, vS "/claim/cut.py" 289]) ::
  (nat_lit 77, (fun (a : Arguments) (b : List Stmt) (c : Scope) (_ : fnOf (clsOf (Program.main Challenge.rw_st0007_01.prog).body 9) 2 = (a, b, c)) => Obj.mk (Value.type "function") none (Data.func (FuncData.mk (Str.ofString "get_token") (Str.ofString "_netrclex.get_token") a (FuncBody.stmts b) c 3 [] Value.none Value.none Value.none (Value.str (Str.ofString "cpy313.netrc") 251) none (Value.ref 76) Value.none 0)) #[]) _ _ _ rfl) ::
  (nat_lit 78, oT #[]) ::
  (nat_lit 80, oT #[vS "self" 294, vS "token" 295]) ::
  (nat_lit 81, oT #[]) ::
  (nat_lit 83, oC #[vS "push_token" 291, vS "_netrclex.push_token" 292, vS "/claim/cut.py" 293, vI 111, vI 2, vI 0, vI 0, vI 3, .ref 78, .bool true, vI 181, .ref 79, .none, .ref 80, .ref 81, .ref 82, vI 296, vI 111, vS "/claim/cut.py" 297]) ::
  (nat_lit 84, (fun (a : Arguments) (b : List Stmt) (c : Scope) (_ : fnOf (clsOf (Program.main Challenge.rw_st0007_01.prog).body 9) 3 = (a, b, c)) => Obj.mk (Value.type "function") none (Data.func (FuncData.mk (Str.ofString "push_token") (Str.ofString "_netrclex.push_token") a (FuncBody.stmts b) c 3 [] Value.none Value.none Value.none (Value.str (Str.ofString "cpy313.netrc") 251) none (Value.ref 83) Value.none 0)) #[]) _ _ _ rfl) ::
  (nat_lit 85, oT #[vS "instream" 299, vS "lineno" 300, vS "pushback" 301, vS "whitespace" 302]) ::
  (nat_lit 86, (Obj.mk (Value.type "dict") none (Data.dict #[(DictEntry.mk (PyData.keyHash P (Str.ofString "__module__")) (Value.str (Str.ofString "__module__") 260) (Value.str (Str.ofString "cpy313.netrc") 251)), (DictEntry.mk (PyData.keyHash P (Str.ofString "__firstlineno__")) (Value.str (Str.ofString "__firstlineno__") 264) (Value.int 70 263)), (DictEntry.mk (PyData.keyHash P (Str.ofString "__init__")) (Value.str (Str.ofString "__init__") 272) (Value.ref 63)), (DictEntry.mk (PyData.keyHash P (Str.ofString "_read_char")) (Value.str (Str.ofString "_read_char") 280) (Value.ref 70)), (DictEntry.mk (PyData.keyHash P (Str.ofString "get_token")) (Value.str (Str.ofString "get_token") 290) (Value.ref 77)), (DictEntry.mk (PyData.keyHash P (Str.ofString "push_token")) (Value.str (Str.ofString "push_token") 298) (Value.ref 84)), (DictEntry.mk (PyData.keyHash P (Str.ofString "__static_attributes__")) (Value.str (Str.ofString "__static_attributes__") 303) (Value.ref 85)), (DictEntry.mk (PyData.keyHash P (Str.ofString "__dict__")) (Value.str (Str.ofString "__dict__") 305) (Value.ref 88)), (DictEntry.mk (PyData.keyHash P (Str.ofString "__weakref__")) (Value.str (Str.ofString "__weakref__") 307) (Value.ref 89)), (DictEntry.mk (PyData.keyHash P (Str.ofString "__doc__")) (Value.str (Str.ofString "__doc__") 308) Value.none)] 4) #[])) ::
  (nat_lit 87, (Obj.mk (Value.type "type") none (Data.cls (ClassData.mk (Str.ofString "_netrclex") [(Value.type "object")] [(Value.ref 87), (Value.type "object")] 86 (Str.ofString "_netrclex") true [] [] false none false)) #[none, none, (Option.some (Value.str (Str.ofString "_netrclex") 253)), (Option.some (Value.str (Str.ofString "_netrclex") 261)), (Option.some (Value.builtin "object.__new__")), (Option.some (Value.bool true))])) ::
  (nat_lit 88, (Obj.mk (Value.type "getset_descriptor") none (Data.fields #[(Value.str (Str.ofString "__dict__") 304), (Value.ref 87), (Value.builtin "function.__dict__"), (Value.builtin "function.__dict__#set")]) #[])) ::
  (nat_lit 89, (Obj.mk (Value.type "getset_descriptor") none (Data.fields #[(Value.str (Str.ofString "__weakref__") 306), (Value.ref 87), (Value.builtin "ExceptionGroup.__weakref__"), Value.none]) #[])) ::
  (nat_lit 92, oT #[]) ::
  (nat_lit 94, oT #[vS "level" 316, vS "most" 317, vS "first" 318, vS "rest" 319]) ::
  (nat_lit 95, oT #[]) ::
  (nat_lit 97, oC #[vS "_law_word" 313, vS "_law_word" 314, vS "/claim/cut.py" 315, vI 114, vI 2, vI 0, vI 0, vI 3, .ref 92, .bool true, vI 181, .ref 93, .none, .ref 94, .ref 95, .ref 96, vI 320, vI 114, vS "/claim/cut.py" 321]) ::
  (nat_lit 98, (fun (a : Arguments) (b : List Stmt) (c : Scope) (_ : fnOf (Program.main Challenge.rw_st0007_01.prog).body 11 = (a, b, c)) => Obj.mk (Value.type "function") none (Data.func (FuncData.mk (Str.ofString "_law_word") (Str.ofString "_law_word") a (FuncBody.stmts b) c 3 [] Value.none Value.none Value.none (Value.str (Str.ofString "law_st0007_01") 311) none (Value.ref 97) Value.none 0)) #[]) _ _ _ rfl) ::
  (nat_lit 99, oT #[]) ::
  (nat_lit 102, oC #[vS "_law_written" 323, vS "_law_written" 324, vS "/claim/cut.py" 325, vI 119, vI 3, vI 0, vI 0, vI 3, .ref 99, .bool true, vI 181, .ref 100, .none, .none, .none, .ref 101, vI 326, vI 119, vS "/claim/cut.py" 327]) ::
  (nat_lit 103, (fun (a : Arguments) (b : List Stmt) (c : Scope) (_ : fnOf (Program.main Challenge.rw_st0007_01.prog).body 12 = (a, b, c)) => Obj.mk (Value.type "function") none (Data.func (FuncData.mk (Str.ofString "_law_written") (Str.ofString "_law_written") a (FuncBody.stmts b) c 3 [] Value.none Value.none Value.none (Value.str (Str.ofString "law_st0007_01") 311) none (Value.ref 102) Value.none 0)) #[]) _ _ _ rfl) ::
  (nat_lit 104, oT #[]) ::
  (nat_lit 106, oT #[vS "text" 332, vS "read" 333, vS "stream" 334]) ::
  (nat_lit 107, oT #[vS "text" 335, vS "at" 336]) ::
  (nat_lit 109, oC #[vS "_law_stream" 329, vS "_law_stream" 330, vS "/claim/cut.py" 331, vI 126, vI 1, vI 0, vI 0, vI 3, .ref 104, .bool true, vI 181, .ref 105, .none, .ref 106, .ref 107, .ref 108, vI 337, vI 126, vS "/claim/cut.py" 338]) ::
  (nat_lit 110, (fun (a : Arguments) (b : List Stmt) (c : Scope) (_ : fnOf (Program.main Challenge.rw_st0007_01.prog).body 13 = (a, b, c)) => Obj.mk (Value.type "function") none (Data.func (FuncData.mk (Str.ofString "_law_stream") (Str.ofString "_law_stream") a (FuncBody.stmts b) c 3 [] Value.none Value.none Value.none (Value.str (Str.ofString "law_st0007_01") 311) none (Value.ref 109) Value.none 0)) #[]) _ _ _ rfl) ::
  (nat_lit 111, oT #[]) ::
  (nat_lit 113, oT #[vS "ruler" 343, vS "walk" 344, vS "sizes" 345, vS "told" 346, vS "error" 347]) ::
  (nat_lit 114, oT #[]) ::
  (nat_lit 116, oC #[vS "_law_sizes" 340, vS "_law_sizes" 341, vS "/claim/cut.py" 342, vI 135, vI 1, vI 0, vI 0, vI 3, .ref 111, .bool true, vI 181, .ref 112, .none, .ref 113, .ref 114, .ref 115, vI 348, vI 135, vS "/claim/cut.py" 349]) ::
  (nat_lit 117, (fun (a : Arguments) (b : List Stmt) (c : Scope) (_ : fnOf (Program.main Challenge.rw_st0007_01.prog).body 14 = (a, b, c)) => Obj.mk (Value.type "function") none (Data.func (FuncData.mk (Str.ofString "_law_sizes") (Str.ofString "_law_sizes") a (FuncBody.stmts b) c 3 [] Value.none Value.none Value.none (Value.str (Str.ofString "law_st0007_01") 311) none (Value.ref 116) Value.none 0)) #[]) _ _ _ rfl) ::
  (nat_lit 118, oT #[]) ::
  (nat_lit 120, oT #[vS "place" 354, vS "wheel" 355, vS "share" 356, vS "value" 357, vS "parts" 358, vS "corner" 359, vS "far" 360, vS "off" 361]) ::
  (nat_lit 121, oT #[]) ::
  (nat_lit 123, oC #[vS "_law_painted" 351, vS "_law_painted" 352, vS "/claim/cut.py" 353, vI 146, vI 4, vI 0, vI 0, vI 3, .ref 118, .bool true, vI 181, .ref 119, .none, .ref 120, .ref 121, .ref 122, vI 362, vI 146, vS "/claim/cut.py" 363]) ::
  (nat_lit 124, (fun (a : Arguments) (b : List Stmt) (c : Scope) (_ : fnOf (Program.main Challenge.rw_st0007_01.prog).body 15 = (a, b, c)) => Obj.mk (Value.type "function") none (Data.func (FuncData.mk (Str.ofString "_law_painted") (Str.ofString "_law_painted") a (FuncBody.stmts b) c 3 [] Value.none Value.none Value.none (Value.str (Str.ofString "law_st0007_01") 311) none (Value.ref 123) Value.none 0)) #[]) _ _ _ rfl) ::
  (nat_lit 125, oT #[]) ::
  (nat_lit 128, oC #[vS "law" 365, vS "law" 366, vS "/claim/cut.py" 367, vI 153, vI 1, vI 0, vI 0, vI 3, .ref 125, .bool true, vI 181, .ref 126, .none, .none, .none, .ref 127, vI 368, vI 153, vS "/claim/cut.py" 369]) ::
  (nat_lit 129, (fun (a : Arguments) (b : List Stmt) (c : Scope) (_ : fnOf (Program.main Challenge.rw_st0007_01.prog).body 16 = (a, b, c)) => Obj.mk (Value.type "function") none (Data.func (FuncData.mk (Str.ofString "law") (Str.ofString "law") a (FuncBody.stmts b) c 3 [] Value.none Value.none Value.none (Value.str (Str.ofString "law_st0007_01") 311) none (Value.ref 128) Value.none 0)) #[]) _ _ _ rfl) :: []
end
section
noncomputable def lawLoose : List Str := [Str.ofString "__name__", Str.ofString "_strcoll", Str.ofString "CHAR_MAX", Str.ofString "_grouping_intervals", Str.ofString "_build_localename", Str.ofString "rgb_to_hsv", Str.ofString "hsv_to_rgb", Str.ofString "_netrclex", Str.ofString "_law_word", Str.ofString "_law_written", Str.ofString "_law_stream", Str.ofString "_law_sizes", Str.ofString "_law_painted", Str.ofString "law"]
theorem top_more {lo lo' : List Str} {mean : ExcName → Option Value} {mg mb : Str → Option Value} {h : Heap} (T : Top topProg lo mean mg mb h) (hs : ∀ x ∈ lo, x ∈ lo') : Top topProg lo' mean mg mb h where
  g := T.g
  b := T.b
  nolimit := T.nolimit
  nodigits := T.nodigits
  fn := T.fn
  own := T.own
  const := T.const
  free := fun x h1 h2 h3 h4 _ => T.free x h1 (fun q => h2 (hs _ q)) h3 h4 (fun q => absurd (show x ∈ ([] : List Str) from q) List.not_mem_nil)
  builtins := T.builtins
  tab := T.tab
  bmain := T.bmain
  seer := T.seer
end
section
noncomputable def aroundZ : Around := callerA
structure Hid (P : Prop) : Prop where h : P
structure Cx where
  n : Nat → (Nat)
  i : Nat → (Int)
  st : Nat → (Str)
  u : Nat → (UInt64)
  o : Nat → (Obj)
  lo : Nat → (List (Addr × Obj))
  v : Nat → (Value)
  lv : Nat → (List Value)
  ls : Nat → (List Str)
  m : Nat → (Str → Option Value)
  sh : Nat → (Shared)
  h : Nat → (Heap)
  lst : Nat → (List Stmt)
  ar : Nat → (Around)
  w : Nat → (World)
  me : Nat → (ExcName → Option Value)
  qf : Nat → (Flow → Shared → Prop)
  qv : Nat → (Value → Shared → Prop)
  sc : Nat → (Scope)
  gd : Nat → (Option (List Code))
  cl : Nat → (List (Str × Addr))
  le : Nat → (List Env)
  li : Nat → (List Int)
  b : Nat → (Bool)
  av : Nat → (Array Value)
  nn : Nat → (Nat → Nat)
  ao : Nat → (Addr × Obj)
  pg : Nat → (Program)
  ex : Nat → (Expr)
  ps : Nat → (Pos)
  vp : Nat → (Value → Prop)
  en : Nat → (Env)
noncomputable def worldZ : World := ⟨fun _ _ => 0, { strHash := fun _ => 0, shareClass := fun _ => 0, mergeTok := fun t => t, idOf := fun _ => 0, idOfShared := fun _ _ => 0, followText := fun _ => false, idOfImm := fun _ => 0 }⟩
noncomputable def cx0 : Cx := ⟨fun _ => 0, fun _ => 0, fun _ => Str.empty, fun _ => 0, fun _ => default, fun _ => [], fun _ => .none, fun _ => [], fun _ => [], fun _ => fun _ => none, fun _ => {}, fun _ => {}, fun _ => [], fun _ => aroundZ, fun _ => worldZ, fun _ => fun _ => none, fun _ => fun _ _ => True, fun _ => fun _ _ => True, fun _ => default, fun _ => none, fun _ => [], fun _ => [], fun _ => [], fun _ => false, fun _ => #[], fun _ => fun _ => 0, fun _ => (0, default), fun _ => Challenge.rw_st0007_01.prog, fun _ => .Constant .none 0 default, fun _ => default, fun _ => fun _ => True, fun _ => envOf Str.empty ⟨.function, [], false, false, []⟩ 0 0 .none⟩
theorem cx_ne : Nonempty Cx := ⟨cx0⟩
noncomputable def bad (P : Cx → Prop) : Cx := @Classical.epsilon Cx cx_ne fun c => ¬ P c
theorem by_bad {P : Cx → Prop} (h : P (bad P)) (c : Cx) : P c := Classical.byContradiction fun hc => (@Classical.epsilon_spec Cx (fun c => ¬ P c) ⟨c, hc⟩ : ¬ P (bad P)) h
noncomputable def fromL {α : Type} (d : α) (l : List α) (k : Nat) : α := l.getD k d
end
section
open PyProof.Rows.LCg in
theorem ListComp_S {prog : Program} {w : World} {A : Around} {E : Value → Shared → Prop} {s : Shared} {h₀ : Heap} {L : Addr} {m : Str → Option Value} {env : Env}
    {elt iter : Expr} {x : Str} {px : Pos} {scope : Scope} {cl : List (Str × Addr)} {pos : Pos} {Q : Value → Shared → Prop} (xs : Str) (F₀ : Fr h₀ L s.heap m)
    (hclos : closureFor scope env = pure cl) (hcell : ∀ y ∈ scope.names, y.2 ≠ .cell) (hkind : scope.kind = .function)
    (hnames : ∀ y ∈ scope.names, y.2 = .local → scope.names.lookup y.1 = some .local) (hx : scope.names.lookup x = some .local)
    (h : wpAny (model prog w) A (eval iter env) (fun xv s₁ => ∃ t news, xv = .str xs t ∧ A.handled = none ∧ Fr h₀ L s₁.heap m ∧ News h₀ L s₁.heap news ∧ xs.cps.size ≤ sizeLine ∧
      ∀ s₂ : Shared, (∃ h, s₂ = { s₁ with heap := h }) → CompRest prog w A h₀ L m env elt x scope cl s₂ (fun _ => True) (SignAt xs) (FinE h₀ L m s₂ Q) xs.cps.size 0 [] news) E s)
    (hs : ∀ x, foldedSetIterable iter env x = pure x := by intro _; rfl) :
    wpAny (model prog w) A (eval (.ListComp elt [⟨.Name x px, iter, [], 0⟩] scope pos) env) Q E s := by
  rw [eval_ListComp]
  refine wpAny_comprehension_free (use := none) rfl hs hclos hkind hnames (wpAny_mono h (fun xv s₁ h₁ => ?_) fun _ _ e => e)
  refine Classical.byContradiction fun hG0 => ?_
  refine exE2 h₁ ?_
  try clear h₁
  rintro t news hJ0
  refine anE6 hJ0 ?_
  try clear hJ0
  rintro rfl hh F N hsz R
  refine hG0 ?_
  clear hG0
  have key : ∀ (cls : String) (W : Walks prog w A s₁.heap.objs.size [s₁.heap.objs.size] [s₁.heap.objs.size] xs.cps.size (SignAt xs) (fun i h => h.IsStrIter s₁.heap.objs.size cls xs t i)) (o : Obj),
      ((s₁.heap.push o).IsStrIter s₁.heap.objs.size cls xs t 0) → 
      wpAny (model prog w) A (newList []) (fun acc s₃ => wpAny (model prog w) A (newFunctionEnv scope env.globals cl [] env.qual none .none (some env)) (fun cenv s₄ =>
      codeAny (model prog w) A (.compStart (.ListComp elt [⟨.Name x px, iter, [], 0⟩] scope pos) 0 (.ref s₁.heap.objs.size) acc { cenv with scope := relabel scope env }) (compPost (model prog w) A E none Q acc cenv.locals) s₄) E s₃) E { s₁ with heap := s₁.heap.push o } := by
    intro cls W o st
    refine block_U W hsz (fun i h st => let ⟨o, e, _⟩ := st; ⟨o, e⟩) (fun i h h' o nw st e e' _ _ _ => by obtain ⟨o', q, r⟩ := st; rw [e] at q; cases q; exact ⟨o, e', r⟩) hcell hkind hx st (fun b hb => ?_)
      (F.keeps fun _ _ e => Heap.get?_push_of_some _ e) (N.grown fun _ _ e => Heap.get?_push_of_some _ e) (Nat.ne_of_lt F.ns.lt) (next_is_new F) (fun p hp => Nat.ne_of_lt (Heap.lt_size (N p hp).1)) trivial (R _ ⟨_, rfl⟩) ?_
    · rw [List.mem_singleton.mp hb]
      show s₁.heap.objs.size < (s₁.heap.push _).objs.size
      rw [Heap.size_push]; exact Nat.lt_succ_self _
    · intro D C h tk m' ys news' F' N' o1 hn hC₀ hD₀ hCL hDL hCD offC fin
      refine ⟨m', hn, fun h'' hs'' => fin D h'' tk (F'.change hs'' hCL hC₀) (fun p hp => ?_) o1⟩
      refine ⟨hs''.extBut _ _ ?_ (N' p hp).1, (N' p hp).2⟩
      refine mem_cs hp ?_ fun hp => ?_
      · exact Ne.symm hCD
      · exact offC p hp
  cases ha : xs.cps.all (· < 128)
  · exact wpAny_pyIter_wide ha (key _ (Walks.strWide hh _ xs t) _ ⟨_, Heap.get?_push_size _ rfl, rfl, rfl⟩)
  · exact wpAny_pyIter_ascii ha (key _ (Walks.strAscii hh _ xs t) _ ⟨_, Heap.get?_push_size _ rfl, rfl, rfl⟩)
noncomputable def Hold (P : Prop) : Prop := P
theorem Hold.mk {P : Prop} (h : Hold P) : P := h
theorem Hold.on {P : Prop} (h : P) : Hold P := h
theorem leN {a b : Nat} (h : a ≤ b) : a ≤ b := h
open PyProof.Rows.LCg in
theorem cst_rest {prog : Program} {w : World} {A : Around} {h₀ : Heap} {L : Addr} {m : Str → Option Value} {env : Env} {elt : Expr} {x : Str} {scope : Scope} {cl : List (Str × Addr)} {s : Shared} {S : List (Addr × Obj) → Prop} {Fin : List Value → List (Addr × Obj) → Prop} {news : List (Addr × Obj)}
    {xs : Str} (g : Nat → Str)
    (turn : ∀ c t I oI C oC D m₂ ys h tk (E' : Value → Shared → Prop), c ∈ xs.cps.toList → NsObj oC m₂ → m₂ x = some (.str ⟨#[c]⟩ t) → Fr h₀ L h m → News h₀ L h ((I, oI) :: (C, oC) :: (D, lst ys) :: news) → Off3 I C D news → ((@Ne Nat I C) ∧ (@Ne Nat I D) ∧ (@Ne Nat C D)) →
      wpAny (model prog w) A (eval elt (compEnvC scope cl C env)) (CompEnd h₀ L m { s with heap := h, toks := tk } I oI C oC D (lst ys) S (fun y news' => KCtEl news (g c) y news')) E' { s with heap := h, toks := tk })
    (fin : ∀ ys, StrsAre ys (xs.cps.toList.map g) → Fin ys news) : CompRest prog w A h₀ L m env elt x scope cl s S (SignAt xs) Fin xs.cps.size 0 [] news := by
  have key : ∀ (j i : Nat) (ys : List Value), i + j = xs.cps.size → StrsAre ys ((xs.cps.toList.take i).map g) → CompRest prog w A h₀ L m env elt x scope cl s S (SignAt xs) Fin j i ys news := by
    intro j
    induction j with
    | zero =>
      intro i ys hi hy
      have e : i = xs.cps.toList.length := by rw [Array.length_toList]; omega
      subst e
      rw [List.take_length] at hy
      exact CompRest.zero (fin ys hy)
    | succ j ih =>
      intro i ys hi hy
      refine CompRest.succ ?_
      intro v I oI C oC D m₂ h tk E' hv hC hx F N off ne
      obtain ⟨c, u, hc, rfl⟩ := hv
      have hc' : xs.cps.toList[i]? = some c := by rw [Array.getElem?_toList]; exact hc
      refine wpAny_mono (turn c u I oI C oC D m₂ ys h tk E' (List.mem_of_getElem? hc') hC hx F N off ne) (fun y s₂ hq => ?_) fun _ _ e => e
      obtain ⟨h', tk', nw, e, F', N', off', hS, hn, t', hy'⟩ := hq
      rw [hn] at N' off' hS
      refine ⟨h', tk', news, e, F', N', off', hS, ?_⟩
      rw [hy']
      refine ih (i + 1) _ (by omega) ?_
      rw [List.take_add_one, hc']
      simpa using kct_snoc hy
  exact key xs.cps.size 0 [] (by omega) (by simp only [List.take_zero, List.map_nil]; exact .nil)
theorem all_ne_of {l : List (Addr × Obj)} {d c : Addr} (h : ∀ p ∈ l, p.1 < d) (hc : d ≤ c) : ∀ p ∈ l, p.1 ≠ c := fun p hp => Nat.ne_of_lt (Nat.lt_of_lt_of_le (h p hp) hc)
theorem all_lt_of {l : List (Addr × Obj)} {d : Addr} (h : AllLt d l) : ∀ p ∈ l, p.1 < d := by
  induction l with
  | nil => intro p hp; cases hp
  | cons q r ih =>
    intro p hp
    refine mem_cs hp ?_ fun hp => ?_
    · exact h.1
    · exact ih h.2 p hp
noncomputable def pick4 {α : Type} (k : Int) (a b c d : α) : α := if k = 0 then a else if k = 1 then b else if k = 2 then c else d
theorem item_str4 {prog : Program} {w : World} {A : Around} {E : Value → Shared → Prop} {s : Shared} {value slice : Expr} {l : Addr} {k : Int} {u : Tok} {a b c d : Str} {ta tb tc td : Tok} {Q : Value → Shared → Prop}
    (hl : s.heap.IsList l #[.str a ta, .str b tb, .str c tc, .str d td]) (h0 : 0 ≤ k) (h3 : k ≤ 3) (h : ∀ t, Q (.str (pick4 k a b c d) t) s)
    (hs : subscripted slice false (.ref l) (.int k u) = operate [.ref l, .int k u] (getItem (.ref l) (.int k u)) := by with_unfolding_all rfl)
    (ht : ∀ r, letTemporaryGo value (.ref l) r = pure () := by intro _; with_unfolding_all rfl) :
    wpAny (model prog w) A (subscriptTail value slice (.ref l) (.int k u)) Q E s := by
  have key : ∀ v t, (#[Value.str a ta, .str b tb, .str c tc, .str d td] : Array Value)[k.toNat]? = some (.str v t) → v = pick4 k a b c d → wpAny (model prog w) A (subscriptTail value slice (.ref l) (.int k u)) Q E s := by
    intro v t hv e
    subst e
    exact item_list hl h0 (by omega) hv (h t) hs ht
  have hk := cases4 (k := k) (by assumption) (by assumption)
  rcases hk with rfl | rfl | rfl | rfl
  · exact key a ta rfl rfl
  · exact key b tb rfl rfl
  · exact key c tc rfl rfl
  · exact key d td rfl rfl
end
section
theorem setGen_toks {s : Shared} {g : Nat} {x : GenState} : (s.setGen g x).toks = s.toks := rfl
theorem runs_toks {M : Model} {Γ : Ctx} {p : Pos} {t : Sem Fin} {fs : List Frame} {s : Shared} {e : End} {s' : Shared} (h : Runs M Γ p t fs s e s') : s.toks ≤ s'.toks := by
  induction h <;> first | exact Nat.le_refl _ | assumption | omega | ((try dsimp only [Shared.setGen] at *); omega)
theorem wpCode_toks {M : Model} {Γ : Ctx} {R : Result → Shared → Prop} {p : Pos} {s : Shared} {n : Nat} (hn : n ≤ s.toks) (h : wpCode M Γ R p s) : wpCode M Γ (fun r s' => R r s' ∧ n ≤ s'.toks) p s := by
  obtain ⟨r, s', hr, hR⟩ := h
  exact ⟨r, s', hr, hR, Nat.le_trans hn (runs_toks hr)⟩
theorem wakes_toks {M : Model} {Γ : Ctx} {p : Pos} {g : Nat} {r : Resume} {s : Shared} {res : GenResult} {s' : Shared} (h : Wakes M Γ p g r s res s') : s.toks ≤ s'.toks := by
  unfold Wakes at h
  split at h
  · exact h.elim
  · split at h
    · obtain ⟨e1, s1, h1, _, _, rfl⟩ := h
      exact (runs_toks h1 : _)
    · obtain ⟨_, rfl⟩ := h; exact Nat.le_refl _
    · obtain ⟨_, rfl⟩ := h; exact Nat.le_refl _
  · obtain ⟨e1, s1, h1, _, _, rfl⟩ := h
    exact (runs_toks h1 : _)
  · obtain ⟨_, rfl⟩ := h; exact Nat.le_refl _
  · obtain ⟨_, rfl⟩ := h; exact Nat.le_refl _
theorem wp_toks {α : Type} {M : Model} {Γ : Ctx} {n : Nat} {Q : α → Pos → Shared → Prop} {E : Value → Pos → Shared → Prop} (t : Sem α) : ∀ (p : Pos) (s : Shared), n ≤ s.toks → Sem.wp M Γ t Q E p s →
    Sem.wp M Γ t (fun a p' s' => Q a p' s' ∧ n ≤ s'.toks) (fun e p' s' => E e p' s' ∧ n ≤ s'.toks) p s := by
  induction t with
  | pure a => intro p s hn h; simp only [Sem.wp] at h ⊢; exact ⟨h, hn⟩
  | raise e => intro p s hn h; simp only [Sem.wp] at h ⊢; exact ⟨h, hn⟩
  | unsupported _ => intro p s hn h; simp only [Sem.wp] at h
  | finish _ => intro p s hn h; simp only [Sem.wp] at h
  | rule _ k ih => intro p s hn h; simp only [Sem.wp] at h ⊢; exact ih _ _ _ hn h
  | «at» p' k ih => intro p s hn h; simp only [Sem.wp] at h ⊢; exact ih _ _ _ hn h
  | load a _ k ih => intro p s hn h; simp only [Sem.wp] at h ⊢; obtain ⟨o, ho, h⟩ := h; exact ⟨o, ho, ih _ _ _ hn h⟩
  | update a _ f k ih => intro p s hn h; simp only [Sem.wp] at h ⊢; exact ⟨h.1, ih _ _ _ hn h.2⟩
  | alloc o k ih => intro p s hn h; simp only [Sem.wp] at h ⊢; exact ih _ _ _ hn h
  | loadIfAlive a k ih => intro p s hn h; simp only [Sem.wp] at h ⊢; exact ih _ _ _ hn h
  | point _ k ih => intro p s hn h; simp only [Sem.wp] at h ⊢; exact ih _ _ _ hn h
  | register _ _ ih => intro p s hn h; simp only [Sem.wp] at h
  | fresh k ih => intro p s hn h; simp only [Sem.wp] at h ⊢; exact ih _ _ _ (Nat.le_succ_of_le hn) h
  | ask k ih => intro p s hn h; simp only [Sem.wp] at h ⊢; exact ih _ _ _ hn h
  | choose src m k ih => intro p s hn h; simp only [Sem.wp] at h ⊢; exact ⟨h.1, ih _ _ _ hn h.2⟩
  | os q _ k ih => intro p s hn h; simp only [Sem.wp] at h ⊢; exact ih _ _ _ hn h
  | call c hd _ _ k ih =>
    intro p s hn h
    simp only [Sem.wp] at h ⊢
    obtain ⟨r, s', hr, hR⟩ := h
    exact ⟨r, s', hr, ih _ _ _ (Nat.le_trans hn (runs_toks hr)) hR⟩
  | handled own k ih => intro p s hn h; simp only [Sem.wp] at h ⊢; exact ih _ _ _ hn h
  | newGen c k ih => intro p s hn h; simp only [Sem.wp] at h ⊢; exact ih _ _ _ hn h
  | genState g k ih => intro p s hn h; simp only [Sem.wp] at h ⊢; obtain ⟨st, hs, h⟩ := h; exact ⟨st, hs, ih _ _ _ hn h⟩
  | resume g r _ k ih => intro p s hn h; simp only [Sem.wp] at h ⊢; obtain ⟨res, s', hw, h⟩ := h; exact ⟨res, s', hw, ih _ _ _ (Nat.le_trans hn (wakes_toks hw)) h⟩
  | yield _ _ _ _ ih => intro p s hn h; simp only [Sem.wp] at h
  | stack k ih => intro p s hn h; simp only [Sem.wp] at h ⊢; exact ih _ _ _ hn h
  | fork _ _ ih => intro p s hn h; simp only [Sem.wp] at h
  | thread k ih => intro p s hn h; simp only [Sem.wp] at h ⊢; exact ih _ _ _ hn h
  | await _ _ _ _ _ ih => intro p s hn h; simp only [Sem.wp] at h
theorem wpAny_toks {α : Type} {M : Model} {A : Around} {n : Nat} {t : Sem α} {Q : α → Shared → Prop} {E : Value → Shared → Prop} {s : Shared} (hn : n ≤ s.toks) (h : wpAny M A t Q E s) :
    wpAny M A t (fun a s' => Q a s' ∧ n ≤ s'.toks) (fun e s' => E e s' ∧ n ≤ s'.toks) s := fun Γ p hΓ => wp_toks t p s hn (h Γ p hΓ)
end
section
noncomputable def Then (P R : Prop) : Prop := P → R
theorem Then.of {P R : Prop} (h : P → R) : Then P R := h
theorem wp_execs_app {M : Model} {Γ : Ctx} {env : Env} {Q : Flow → Pos → Shared → Prop} {E : Value → Pos → Shared → Prop} {ys : List Stmt} : ∀ (xs : List Stmt) (p : Pos) (s : Shared),
    Sem.wp M Γ (execs xs env) (fun f p' s' => match f with | .next => Sem.wp M Γ (execs ys env) Q E p' s' | f => Q f p' s') E p s → Sem.wp M Γ (execs (xs ++ ys) env) Q E p s
  | [], _, _, h => h
  | x :: xs, p, s, h => by
      rw [execs_cons, Sem.wp_bind'] at h
      show Sem.wp M Γ (execs (x :: (xs ++ ys)) env) Q E p s
      rw [execs_cons, Sem.wp_bind']
      refine Sem.wp_mono M Γ _ (fun f p' s' h' => ?_) (fun _ _ _ h' => h') _ _ h
      cases f <;> first | exact wp_execs_app xs _ _ h' | exact h'
theorem execs_app {M : Model} {A : Around} {env : Env} {Q : Flow → Shared → Prop} {E : Value → Shared → Prop} {ys xs : List Stmt} {s : Shared}
    (h : wpAny M A (execs (xs ++ []) env) (fun f s' => match f with | .next => Then (s.toks ≤ s'.toks) (wpAny M A (execs ys env) Q E s') | f => Q f s') E s) : wpAny M A (execs (xs ++ ys) env) Q E s := fun Γ p hΓ => by
  rw [List.append_nil] at h
  refine wp_execs_app xs p s ?_
  have := wpAny_toks (Nat.le_refl s.toks) h Γ p hΓ
  refine Sem.wp_mono M Γ _ (fun f p' s' h' => ?_) (fun _ _ _ h' => h'.1) _ _ this
  obtain ⟨h1, h2⟩ := h'
  cases f <;> first | exact h1 h2 Γ p' hΓ | exact h1
theorem execs_app' {M : Model} {A : Around} {env : Env} {Q : Flow → Shared → Prop} {E : Value → Shared → Prop} {ys xs : List Stmt} {s : Shared}
    (h : wpAny M A (execs xs env) (fun f s' => match f with | .next => Then (s.toks ≤ s'.toks) (wpAny M A (execs ys env) Q E s') | f => Q f s') E s) : wpAny M A (execs (xs ++ ys) env) Q E s :=
  execs_app (by rw [List.append_nil]; exact h)
theorem execs_end {M : Model} {A : Around} {env : Env} {Q : Flow → Shared → Prop} {s : Shared} {P : Prop} (hp : P) (h : P → Q .next s) : wpAny M A (execs [] env) Q (fun _ _ => False) s := wpAny_execs_nil (h hp)
theorem execs_cons_pos {M : Model} {A : Around} {env : Env} {Q : Flow → Shared → Prop} {E : Value → Shared → Prop} {h : Heap} {g d k os st rest} (hp : 0 < k)
    (H : ∀ k : Nat, 0 < k → wpAny M A (exec st env) (fun f s' => match f with | .next => wpAny M A (execs rest env) Q E s' | f => Q f s') E ⟨h, g, d, k, os⟩) : wpAny M A (execs (st :: rest) env) Q E ⟨h, g, d, k, os⟩ := wpAny_execs_cons (H k hp)
theorem wpAny_toks' {α : Type} {M : Model} {A : Around} {t : Sem α} {Q : α → Shared → Prop} {E : Value → Shared → Prop} {s : Shared} (h : wpAny M A t (fun a s' => s.toks ≤ s'.toks → Q a s') E s) : wpAny M A t Q E s :=
  wpAny_mono (wpAny_toks (Nat.le_refl _) h) (fun _ _ h => h.1 h.2) (fun _ _ h => h.1)
end
section
noncomputable def gtF (x y : UInt64) : Bool := Float64.cmp x y == some Ordering.gt
noncomputable def ltF (x y : UInt64) : Bool := Float64.cmp x y == some Ordering.lt
noncomputable def maxF (a b c : UInt64) : UInt64 := if gtF b a = true then (if gtF c b = true then c else b) else (if gtF c a = true then c else a)
noncomputable def minF (a b c : UInt64) : UInt64 := if ltF b a = true then (if ltF c b = true then c else b) else (if ltF c a = true then c else a)
noncomputable def fltAt (a b c : UInt64) : Nat → UInt64
  | 0 => a
  | 1 => b
  | _ => c
theorem CmpOf.flt_gt {prog : Program} {w : World} {A : Around} {P : Nat → Value → Prop} (val : Nat → UInt64) (hval : ∀ i v, P i v → ∃ t, v = .float (val i) t) :
    CmpOf prog w A .Gt P (fun i j => gtF (val i) (val j)) := fun i j vi vj s Q E hi hj h => by
  obtain ⟨t, rfl⟩ := hval i vi hi
  obtain ⟨u, rfl⟩ := hval j vj hj
  exact AutoFloatOps.gt_0 h
theorem CmpOf.flt_lt {prog : Program} {w : World} {A : Around} {P : Nat → Value → Prop} (val : Nat → UInt64) (hval : ∀ i v, P i v → ∃ t, v = .float (val i) t) :
    CmpOf prog w A .Lt P (fun i j => ltF (val i) (val j)) := fun i j vi vj s Q E hi hj h => by
  obtain ⟨t, rfl⟩ := hval i vi hi
  obtain ⟨u, rfl⟩ := hval j vj hj
  exact AutoFloatOps.lt_0 h
theorem flt_at {a b c : UInt64} {t u x : Tok} {i : Nat} {v : Value} (h : (#[.float a t, .float b u, .float c x] : Array Value)[i]? = some v) : ∃ k, v = .float (fltAt a b c i) k ∧ (k = t ∨ k = u ∨ k = x) := by
  match i with
  | 0 => exact ⟨t, by simpa [fltAt] using h.symm, .inl rfl⟩
  | 1 => exact ⟨u, by simpa [fltAt] using h.symm, .inr (.inl rfl)⟩
  | 2 => exact ⟨x, by simpa [fltAt] using h.symm, .inr (.inr rfl)⟩
  | n + 3 => simp at h
theorem max_three_flt {prog : Program} {w : World} {A : Around} {E : Value → Shared → Prop} {s : Shared} {a b c : UInt64} {t u x : Tok} {Q : Value → Shared → Prop} (hh : A.handled = none)
    (h : ∀ t' h' tk, (t' = t ∨ t' = u ∨ t' = x) ∧ s.toks ≤ tk → (∀ d o, s.heap.get? d = some o → h'.get? d = some o) → Q (.float (maxF a b c) t') { s with heap := h', toks := tk }) :
    wpAny (model prog w) A (call (.builtin "max") [.float a t, .float b u, .float c x]) Q E s := by
  refine wpAny_toks' ?_
  have hT : (s.heap.push { cls := .type "tuple", data := .seq #[.float a t, .float b u, .float c x] }).IsTuple s.heap.objs.size #[.float a t, .float b u, .float c x] := ⟨_, Heap.get?_push_size _ rfl, rfl, 0, rfl⟩
  refine call_max_three (wpAny_pyIter_tuple hT ?_)
  have hsz : (s.heap.push { cls := .type "tuple", data := .seq #[.float a t, .float b u, .float c x] }).objs.size = s.heap.objs.size + 1 := Heap.size_push ..
  refine ⟨_, [_, s.heap.objs.size], [_], _, _, _, _, rfl, Walks.tuple (A := A.in1) hh _ s.heap.objs.size (by rw [hsz]; exact Nat.ne_of_lt (Nat.lt_succ_self _)) #[.float a t, .float b u, .float c x],
    ⟨⟨_, Heap.get?_push_size _ rfl, rfl, rfl⟩, hT.push _⟩, fun d hd => ?_, by simp, CmpOf.flt_gt (fltAt a b c) (fun _ _ h => let ⟨k, e, _⟩ := flt_at h; ⟨k, e⟩), fun v h' tk hP hk => ?_⟩
  · show d < ((s.heap.push _).push _).objs.size
    rw [Heap.size_push, hsz]
    rcases List.mem_cons.mp hd with rfl | hd
    · rw [hsz]; exact Nat.lt_succ_self _
    · rcases List.mem_cons.mp hd with rfl | hd
      · exact Nat.lt_succ_of_lt (Nat.lt_succ_self _)
      · cases hd
  · have hold : ∀ d o, s.heap.get? d = some o → h'.get? d = some o := fun d o e => by
      refine hk d o (fun hm => ?_) (Heap.get?_push_of_some _ (Heap.get?_push_of_some _ e))
      rcases List.mem_cons.mp hm with e1 | hm
      · have := Heap.lt_size e; rw [e1, hsz] at this; exact Nat.lt_irrefl _ (Nat.lt_of_succ_lt this)
      · cases hm
    obtain ⟨k, rfl, hkt⟩ := flt_at hP
    have e : fltAt a b c (argBest (fun i j => gtF (fltAt a b c i) (fltAt a b c j)) ((#[.float a t, .float b u, .float c x] : Array Value).size - 1)) = maxF a b c := by
      show fltAt a b c (argBest _ 2) = _
      unfold maxF
      by_cases hba : gtF b a = true
      · by_cases hc : gtF c b = true
        · simp [argBest, fltAt, hba, hc]
        · simp [argBest, fltAt, hba, hc]
      · by_cases hc : gtF c a = true
        · simp [argBest, fltAt, hba, hc]
        · simp [argBest, fltAt, hba, hc]
    rw [e]
    exact fun htk => h k h' tk ⟨hkt, htk⟩ hold
theorem max_three_N {prog : Program} {w : World} {A : Around} {E : Value → Shared → Prop} {s : Shared} {h₀ : Heap} {L : Addr} {m : Str → Option Value} {news : List (Addr × Obj)} {a b c : UInt64} {t u x : Tok} {Q : Value → Shared → Prop} (hh : A.handled = none)
    (F : Fr h₀ L s.heap m) (N : News h₀ L s.heap news)
    (h : ∀ t' h' tk, (t' = t ∨ t' = u ∨ t' = x) ∧ s.toks ≤ tk → Fr h₀ L h' m → News h₀ L h' news → Q (.float (maxF a b c) t') { s with heap := h', toks := tk }) :
    wpAny (model prog w) A (call (.builtin "max") [.float a t, .float b u, .float c x]) Q E s :=
  max_three_flt hh fun t' h' tk hkt hold => h t' h' tk hkt (F.keeps hold) (N.grown hold)
theorem min_three_flt {prog : Program} {w : World} {A : Around} {E : Value → Shared → Prop} {s : Shared} {a b c : UInt64} {t u x : Tok} {Q : Value → Shared → Prop} (hh : A.handled = none)
    (h : ∀ t' h' tk, (t' = t ∨ t' = u ∨ t' = x) ∧ s.toks ≤ tk → (∀ d o, s.heap.get? d = some o → h'.get? d = some o) → Q (.float (minF a b c) t') { s with heap := h', toks := tk }) :
    wpAny (model prog w) A (call (.builtin "min") [.float a t, .float b u, .float c x]) Q E s := by
  refine wpAny_toks' ?_
  have hT : (s.heap.push { cls := .type "tuple", data := .seq #[.float a t, .float b u, .float c x] }).IsTuple s.heap.objs.size #[.float a t, .float b u, .float c x] := ⟨_, Heap.get?_push_size _ rfl, rfl, 0, rfl⟩
  refine call_min_three (wpAny_pyIter_tuple hT ?_)
  have hsz : (s.heap.push { cls := .type "tuple", data := .seq #[.float a t, .float b u, .float c x] }).objs.size = s.heap.objs.size + 1 := Heap.size_push ..
  refine ⟨_, [_, s.heap.objs.size], [_], _, _, _, _, rfl, Walks.tuple (A := A.in1) hh _ s.heap.objs.size (by rw [hsz]; exact Nat.ne_of_lt (Nat.lt_succ_self _)) #[.float a t, .float b u, .float c x],
    ⟨⟨_, Heap.get?_push_size _ rfl, rfl, rfl⟩, hT.push _⟩, fun d hd => ?_, by simp, CmpOf.flt_lt (fltAt a b c) (fun _ _ h => let ⟨k, e, _⟩ := flt_at h; ⟨k, e⟩), fun v h' tk hP hk => ?_⟩
  · show d < ((s.heap.push _).push _).objs.size
    rw [Heap.size_push, hsz]
    rcases List.mem_cons.mp hd with rfl | hd
    · rw [hsz]; exact Nat.lt_succ_self _
    · rcases List.mem_cons.mp hd with rfl | hd
      · exact Nat.lt_succ_of_lt (Nat.lt_succ_self _)
      · cases hd
  · have hold : ∀ d o, s.heap.get? d = some o → h'.get? d = some o := fun d o e => by
      refine hk d o (fun hm => ?_) (Heap.get?_push_of_some _ (Heap.get?_push_of_some _ e))
      rcases List.mem_cons.mp hm with e1 | hm
      · have := Heap.lt_size e; rw [e1, hsz] at this; exact Nat.lt_irrefl _ (Nat.lt_of_succ_lt this)
      · cases hm
    obtain ⟨k, rfl, hkt⟩ := flt_at hP
    have e : fltAt a b c (argBest (fun i j => ltF (fltAt a b c i) (fltAt a b c j)) ((#[.float a t, .float b u, .float c x] : Array Value).size - 1)) = minF a b c := by
      show fltAt a b c (argBest _ 2) = _
      unfold minF
      by_cases hba : ltF b a = true
      · by_cases hc : ltF c b = true
        · simp [argBest, fltAt, hba, hc]
        · simp [argBest, fltAt, hba, hc]
      · by_cases hc : ltF c a = true
        · simp [argBest, fltAt, hba, hc]
        · simp [argBest, fltAt, hba, hc]
    rw [e]
    exact fun htk => h k h' tk ⟨hkt, htk⟩ hold
theorem min_three_N {prog : Program} {w : World} {A : Around} {E : Value → Shared → Prop} {s : Shared} {h₀ : Heap} {L : Addr} {m : Str → Option Value} {news : List (Addr × Obj)} {a b c : UInt64} {t u x : Tok} {Q : Value → Shared → Prop} (hh : A.handled = none)
    (F : Fr h₀ L s.heap m) (N : News h₀ L s.heap news)
    (h : ∀ t' h' tk, (t' = t ∨ t' = u ∨ t' = x) ∧ s.toks ≤ tk → Fr h₀ L h' m → News h₀ L h' news → Q (.float (minF a b c) t') { s with heap := h', toks := tk }) :
    wpAny (model prog w) A (call (.builtin "min") [.float a t, .float b u, .float c x]) Q E s :=
  min_three_flt hh fun t' h' tk hkt hold => h t' h' tk hkt (F.keeps hold) (N.grown hold)
end
section
structure MarkH (n : Nat) : Prop where
theorem Hold.at (n : Nat) {P : Prop} (_ : MarkH n) (h : Hold P) : P := h
section
variable {prog : Program} {w : World} {A : Around} {E : Value → Shared → Prop} {s : Shared} {env : Env} {h₀ : Heap} {x : Str} {body : List Stmt} {Q : Flow → Shared → Prop}
theorem rr_of {n : Nat} {a : Int} {I : Addr} (J : Nat → (Str → Option Value) → List (Addr × Obj) → Prop)
    (turn : ∀ i t m news h tk, i < n → J i m news → (∀ p ∈ news, p.1 ≠ I) → Fr h₀ env.locals h (fun y => if y = x then some (.int (a + (i : Int)) t) else m y) →
      News h₀ env.locals h ((I, itR (a + ((i + 1 : Nat) : Int)) ((n : Int) - ((i + 1 : Nat) : Int))) :: news) →
      wpAny (model prog w) A (execs body env) (UnrPost h₀ env.locals { s with heap := h, toks := tk } I (itR (a + ((i + 1 : Nat) : Int)) ((n : Int) - ((i + 1 : Nat) : Int))) (fun m' n' => J (i + 1) m' n') Q) E { s with heap := h, toks := tk })
    (done : ∀ m news h tk, J n m news → Fr h₀ env.locals h m → News h₀ env.locals h news → Q .next { s with heap := h, toks := tk })
    {m₀ : Str → Option Value} {news₀ : List (Addr × Obj)} (j0 : J 0 m₀ news₀) (off0 : ∀ p ∈ news₀, p.1 < I) : RangeRest prog w A E h₀ env x body Q s I a n n 0 m₀ news₀ := by
  have key : ∀ (k i : Nat) (m : Str → Option Value) (news : List (Addr × Obj)), i + k = n → J i m news → (∀ p ∈ news, p.1 ≠ I) → RangeRest prog w A E h₀ env x body Q s I a n k i m news := by
    intro k
    induction k with
    | zero =>
      intro i m news e j off
      obtain rfl : i = n := by omega
      exact RangeRest.zero fun h tk F N => done m news h tk j F N
    | succ k ih =>
      intro i m news e j off
      refine RangeRest.succ fun t h tk F N => wpAny_mono (turn i t m news h tk (by omega) j off F N) (fun f s₂ hq => ?_) fun _ _ e => e
      have fin : UnrEnd h₀ env.locals { s with heap := h, toks := tk } I (itR (a + ((i + 1 : Nat) : Int)) ((n : Int) - ((i + 1 : Nat) : Int))) (fun m' n' => J (i + 1) m' n') s₂ →
          UnrEnd h₀ env.locals { s with heap := h, toks := tk } I (itR (a + ((i + 1 : Nat) : Int)) ((n : Int) - ((i + 1 : Nat) : Int))) (RangeRest prog w A E h₀ env x body Q s I a n k (i + 1)) s₂ := by
        rintro hJ0
        refine Classical.byContradiction fun hG0 => ?_
        refine exE4 hJ0 ?_
        try clear hJ0
        rintro h' tk' m' news' hJ0
        refine anE5 hJ0 ?_
        try clear hJ0
        rintro e' F' N' off' j'
        refine hG0 ?_
        clear hG0
        exact ⟨h', tk', m', news', e', F', N', off', ih (i + 1) m' news' (by omega) j' off'⟩
      cases f with
      | ret v => exact hq
      | brk => exact hq
      | next => exact fin hq
      | cont => exact fin hq
  exact key n 0 m₀ news₀ (by omega) j0 fun p hp => Nat.ne_of_lt (off0 p hp)
end
theorem known_eq {m : Str → Option Value} {x : Str} {v : Value} (h : m x = some v) : m = fun y => if y = x then some v else m y := by
  funext y
  by_cases e : y = x
  · subst e; simp [h]
  · simp [e]
theorem fr_int {h₀ h : Heap} {L : Addr} {x : Str} {v : Int} {t : Tok} {m : Str → Option Value} (F : Fr h₀ L h (fun y => if y = x then some (.int v t) else m y)) : ∃ v', v' = v ∧ Fr h₀ L h (fun y => if y = x then some (.int v' t) else m y) := ⟨v, rfl, F⟩
end
local macro_rules | `(tactic| k_all) => `(tactic| first | assumption | (refine' all_ne_of ?ka1 ?ka2; (case ka1 => assumption); (case ka2 => (refine leN ?_; omega))))
local macro_rules | `(tactic| top_raiseB) => `(tactic| (fail_if_success (fail_if_success (have : MarkH 100 := by assumption))))
local macro_rules | `(tactic| walk_at "execs cons") => `(tactic| (k_here; top_raiseB; first | ((with_reducible refine execs_cons_pos (by first | assumption | omega) ?_); intro tkp htp; (try dsimp only)) | ((with_reducible refine wpAny_execs_cons ?_); try dsimp only)))
local macro_rules | `(tactic| walk_at "execs nil") => `(tactic| (k_here; top_raiseB; refine wpAny_execs_nil ?_))
local macro_rules | `(tactic| walk_at "eval ListComp") => `(tactic| refine Hold.at 101 (by assumption) ?_)
local macro_rules | `(tactic| walk_at "exec Assign cons ListComp") => `(tactic| refine Hold.at 101 (by assumption) ?_)
local macro_rules | `(tactic| walk_at "CompSrc") => `(tactic| refine Hold.at 102 (by assumption) ?_)
local macro_rules | `(tactic| walk_at "CompSrcT") => `(tactic| refine Hold.at 103 (by assumption) ?_)
local macro_rules | `(tactic| walk_at "compareOp NotEq ref ref") => `(tactic| refine Hold.at 104 (by assumption) ?_)
local macro_rules | `(tactic| walk_at "truthy str") => `(tactic| refine Hold.at 105 (by assumption) ?_)
local macro_rules | `(tactic| walk_at "truthy ref") => `(tactic| first | refine Hold.at 106 (by assumption) ?_ | refine Hold.at 207 (by assumption) ?_)
local macro_rules | `(tactic| walk_at "call type:str") => `(tactic| refine Hold.at 107 (by assumption) ?_)
local macro_rules | `(tactic| walk_at "call builtin:min") => `(tactic| refine Hold.at 108 (by assumption) ?_)
local macro_rules | `(tactic| walk_at "call builtin:max") => `(tactic| refine Hold.at 109 (by assumption) ?_)
local macro_rules | `(tactic| walk_at "compareOp In bool ref") => `(tactic| refine Hold.at 110 (by assumption) ?_)
local macro_rules | `(tactic| walk_at "compareOp Eq ref ref") => `(tactic| refine Hold.at 111 (by assumption) ?_)
local macro_rules | `(tactic| walk_at "call ref") => `(tactic| first | refine Hold.at 201 (by assumption) ?_ | refine Hold.at 204 (by assumption) ?_)
local macro_rules | `(tactic| walk_at "exec For") => `(tactic| first | refine Hold.at 202 (by assumption) ?_ | refine Hold.at 203 (by assumption) ?_ | refine Hold.at 204 (by assumption) ?_)
local macro_rules | `(tactic| walk_at "exec For Name Call cons nil") => `(tactic| refine Hold.at 202 (by assumption) ?_)
local macro_rules | `(tactic| walk_at "exec For Name Name cons nil") => `(tactic| refine Hold.at 204 (by assumption) ?_)
local macro_rules | `(tactic| walk_at "call builtin:iter") => `(tactic| refine Hold.at 203 (by assumption) ?_)
local macro_rules | `(tactic| walk_at "subscriptTail Name BinOp ref int") => `(tactic| refine Hold.at 205 (by assumption) ?_)
local macro_rules | `(tactic| walk_at "pyIter ref") => `(tactic| refine Hold.at 206 (by assumption) ?_)
section
theorem allLt_all {d : Addr} : ∀ {l : List (Addr × Obj)}, W.AllLt d l → ∀ p ∈ l, p.1 < d
  | [], _, _, h => nomatch h
  | q :: r, ⟨a, b⟩, p, h => by
    rcases List.mem_cons.mp h with rfl | h
    · exact a
    · exact allLt_all b p h
section
variable {prog : Program} {w : World} {A : Around} {h₀ : Heap} {L x : Addr} {m : Str → Option Value} {s : Shared} {E : Value → Shared → Prop} {R : Result → Shared → Prop}
theorem fn_refuse (self : Value) : refuseLoop self "__setattr__" [.type "function", .type "object"] = pure () := by
  kernel_rfl
theorem fn_mro : mroOf (.type "function") = pure [.type "function", .type "object"] := by kernel_rfl
theorem fn_set : typeLookup (.type "function") "__setattr__" = pure (some (.builtin "object.__setattr__")) := by kernel_rfl
theorem fn_read : typeLookup (.type "function") "read" = pure none := by kernel_rfl
theorem osa_func {fn : FuncData} {sl : Array (Option Value)} {name : Str} {tk : Tok} {v : Value} {pre post : List (Addr × Obj)} (F : Fr h₀ L s.heap m) (N : News h₀ L s.heap (pre ++ (x, ⟨.type "function", none, .func fn, sl⟩) :: post))
    (hn : typeLookup (.type "function") name = pure none)
    (h1 : ∀ p ∈ pre, p.1 ≠ x) (h2 : ∀ p ∈ post, p.1 ≠ x)
    (h : ∀ d h', Fr h₀ L h' m → News h₀ L h' ((d, dictOf [⟨PyData.keyHash w.params name, .str name s.toks, v⟩] 1) :: pre ++ (x, ⟨.type "function", some d, .func fn, sl⟩) :: post) → (∀ p ∈ pre ++ (x, ⟨.type "function", none, .func fn, sl⟩) :: post, p.1 < d) → R (.ok (.ret .none)) { s with heap := h', toks := s.toks + 1 }) :
    codeAny (model prog w) A (.call (.builtin "object.__setattr__") ⟨[.ref x, .str name tk, v], []⟩) R s := by
  have SF := PySem.F.store_object
  obtain ⟨hh, g, d, t, os⟩ := s
  have hx := (N (x, _) (List.mem_append_right _ (.head _))).1
  dsimp only at hx
  have ty : Looks (model prog w) hh (typeOf (.ref x)) (.type "function") := (Looks.ld hx).andThen .now
  have sub : Looks (model prog w) hh (isInstance (.ref x) (.type "object")) true := ty.andThen (Looks.of_pure (by kernel_rfl))
  refine codeAny_call_builtin SF.slot.plain SF.entry (@check_slot (model prog w) _ _ _ "object.__setattr__" "object" "__setattr__" (.ref x) [.str name tk, v] [] _ SF.kind SF.split sub (SF.args (.ref x) (.str name tk) v) ?_)
  rw [osa_eq, refuse_eq]
  refine wpAny_bind (wpAny_bind (ty.here ?_))
  rw [fn_mro]
  refine wpAny_bind (wpAny_pure ?_)
  rw [fn_refuse]
  refine wpAny_pure (wpAny_bind (ty.here ?_))
  rw [hn]
  refine wpAny_bind (wpAny_pure (wpAny_bind (wpAny_pure ?_)))
  refine wpAny_bind (wpAny_pure (wpAny_bind (wpAny_bind (wpAny_loadPart hx ?_))))
  refine wpAny_bind (wpAny_alloc (wpAny_bind ?_))
  have N1 : News h₀ L (hh.push emptyDict) (((hh.objs.size, emptyDict) :: pre) ++ (x, ⟨.type "function", none, .func fn, sl⟩) :: post) := N.push F emptyDict
  have F1 := F.push emptyDict
  have lt : ∀ p ∈ pre ++ (x, ⟨.type "function", none, .func fn, sl⟩) :: post, p.1 < hh.objs.size := fun p hp => Heap.lt_size (N p hp).1
  have lx : x < hh.objs.size := lt _ (List.mem_append_right _ (.head _))
  obtain ⟨F2, N2⟩ := news_upd (f := fun o => { o with dict := some hh.objs.size }) (o' := ⟨.type "function", some hh.objs.size, .func fn, sl⟩) F1 N1
    (fun p hp => by
      refine mem_cs hp ?_ fun hp => ?_
      · exact fun e => Nat.lt_irrefl _ (e ▸ lx)
      · exact h1 p hp) h2 rfl rfl
  refine wpAny_update ((N1 (x, _) (List.mem_append_right _ (.head _))).1) ?_
  refine wpAny_bind (wpAny_pure ?_)
  refine wpAny_pure ?_
  refine wpAny_bind (wpAny_pure (wpAny_bind ?_))
  have D := (N2 (hh.objs.size, emptyDict) (.head _)).1
  obtain ⟨F3, N3⟩ := news_upd (pre := []) (f := Obj.putName name (PyData.keyHash w.params name) (.str name t) v) (o' := dictOf [⟨PyData.keyHash w.params name, .str name t, v⟩] 1) F2 N2 (fun _ h => nomatch h)
    (fun p hp => by
      rcases List.mem_append.mp hp with hp | hp
      · exact Nat.ne_of_lt (lt p (List.mem_append_left _ hp))
      · refine mem_cs hp ?_ fun hp => ?_
        · exact Nat.ne_of_lt lx
        · exact Nat.ne_of_lt (lt p (List.mem_append_right _ (.tail _ hp)))) (by show Obj.putName _ _ _ _ (dictOf [] 0) = _; rw [putName_dict]; rfl) rfl
  have D' := (N3 (hh.objs.size, _) (.head _)).1
  unfold nsSet
  refine wpAny_bind (wpAny_bind (wpAny_askSetting (wpAny_pure (wpAny_bind (wpAny_mkText (wpAny_bind (wpAny_loadPart D ?_)))))))
  dsimp only
  refine wpAny_updatePart D ?_
  refine wpAny_bind (wpAny_lookBehind D' (pastItsLine_dict (by rw [List.size_toArray, sizeLine_eq]; exact Nat.le_of_ble_eq_true rfl)) ?_)
  exact wpAny_pure (h _ _ F3 N3 lt)
theorem slot_fn_ga : Slot "function" "__getattribute__" "object.__getattribute__" :=
  .of (owner := "object") (n := "__getattribute__") (by rw [typeLookup_type, builtinLookup_eq_fast]; kernel_rfl) (by decide +kernel) (by decide +kernel) (by decide +kernel)
    (by first | exact .inl (by decide +kernel) | exact .inr (by decide +kernel)) (by rw [isSubtype_type]; kernel_rfl)
theorem entry_ga : entryFor table "object.__getattribute__" = some Builtin.«object.__getattribute__» := entryFor_of_tree (by kernel_rfl)
theorem args_ga (a b : Value) : argsOk "object.__getattribute__" ⟨[a, b], []⟩ := by unfold argsOk; kernel_rfl
theorem canon_ga : (Manifest.canonical "object.__getattribute__" != "object.__getattribute__") = false := by decide +kernel
theorem fn_noga : typeLookup (.type "function") "__getattr__" = pure none := by kernel_rfl
theorem method_func {d : Addr} {fn : FuncData} {sl : Array (Option Value)} {od : Obj} {name : Str} {v : Value} {pl : Sem Bool} {Q : Value × List Value → Shared → Prop}
    (hx : s.heap.get? x = some ⟨.type "function", some d, .func fn, sl⟩) (hd : s.heap.get? d = some od) (hl : lookIn name od = some (some v)) (hn : typeLookup (.type "function") name = pure none) (hv : handedIn v = true)
    (h : Q (v, []) { s with toks := s.toks + 1 }) : wpAny (model prog w) A (getMethod (.ref x) name pl) Q E s := by
  obtain ⟨hh, g, dd, t, os⟩ := s
  dsimp only at hx hd
  have hT : ∀ t', (⟨hh, g, dd, t', os⟩ : Shared).TypeIs (.ref x) "function" := fun _ => ⟨_, hx, rfl⟩
  have hlk := slot_fn_ga.lookup
  unfold getMethod
  refine wpAny_bind (wpAny_specialOf (hT _) hlk ?_)
  dsimp only
  rw [canon_ga]
  refine wpAny_bind (wpAny_specialOf (hT _) fn_noga ?_)
  refine wpAny_bind (wpAny_specialOf (hT _) hn ?_)
  dsimp only
  unfold getAttr getAttrBy
  refine wpAny_bind (wpAny_bind (wpAny_mkText (wpAny_holding (wpAny_bind (wpAny_typeOf (hT _) (wpAny_bind (wpAny_of_eq hlk ?_)))))))
  show wpAny _ _ (getAttrByItsOwn (.ref x) (.str name t) (.type "function") (.builtin "object.__getattribute__") true false) _ _ _
  unfold getAttrByItsOwn hookBefore callGetattribute boundAndCalled
  refine wpAny_bind (wpAny_of_eq (show (if onTheHeap (.type "function") then typeLookup (.type "function") "__getattr__" else pure none) = pure none from rfl) ?_)
  refine wpAny_bind (wpAny_attempt (wpAny_holding ?_))
  show wpAny _ _ (bindSpecial (.builtin "object.__getattribute__") (.ref x) >>= _) _ _ _
  refine wpAny_bind (wpAny_of_eq (slot_fn_ga.bind _) ?_)
  refine wpAny_mono (Q := fun v' s' => v' = v ∧ s' = ⟨hh, g, dd, t + 1, os⟩) (E := fun _ _ => False)
    (wpAny_call_entry slot_fn_ga (hT _) entry_ga ?_ (args_ga _ _)) (fun v s' hv' => ?_) fun _ _ z => z.elim
  · have ty : Looks (model prog w) hh (typeOf (.ref x)) (.type "function") := (Looks.ld hx).andThen .now
    unfold Builtin.«object.__getattribute__»
    refine wpAny_bind (wpAny_pure (wpAny_bind (wpAny_pure (wpAny_bind (ty.here ?_)))))
    unfold Builtin.ObjectAttr.find
    rw [hn]
    refine wpAny_bind (wpAny_bind (wpAny_pure (wpAny_bind (wpAny_pure (wpAny_bind (wpAny_pure (wpAny_bind ?_)))))))
    refine wpAny_bind (wpAny_bind (wpAny_loadPart hx ?_))
    refine wpAny_bind (wpAny_loadPart hx ?_)
    refine wpAny_pure (a := some d) ?_
    refine wpAny_bind (wpAny_loadPart hd ?_)
    rw [nsLook_of hl]
    refine wpAny_pure (wpAny_bind (wpAny_rule (wpAny_pure ?_)))
    exact wpAny_pure ⟨_, rfl, rfl, rfl⟩
  · obtain ⟨rfl, rfl⟩ := hv'
    show wpAny _ _ (handedOut _) _ _ _
    rw [handedOut_of hv]
    exact wpAny_pure (wpAny_pure h)
theorem set_func {fn : FuncData} {sl : Array (Option Value)} {name : Str} {v : Value} {Q : Unit → Shared → Prop} {news : List (Addr × Obj)} {g : Obj → List (Addr × Obj)} (F : Fr h₀ L s.heap m) (N : News h₀ L s.heap news)
    (U : UpdF x ⟨.type "function", none, .func fn, sl⟩ news g) (hn : typeLookup (.type "function") name = pure none)
    (h : ∀ d h', Fr h₀ L h' m → News h₀ L h' ((d, dictOf [⟨PyData.keyHash w.params name, .str name (s.toks + 1), v⟩] 1) :: g ⟨.type "function", some d, .func fn, sl⟩) → (∀ p ∈ news, p.1 < d) → Q () { s with heap := h', toks := s.toks + 2 }) :
    wpAny (model prog w) A (setAttr (.ref x) name v) Q E s := by
  obtain ⟨pre, post, rfl, hg, h1, h2⟩ := U.split
  have hx := (N (x, _) (List.mem_append_right _ (.head _))).1
  obtain ⟨hh, gg, d, t, os⟩ := s
  dsimp only at hx
  have ty : Looks (model prog w) hh (typeOf (.ref x)) (.type "function") := (Looks.ld hx).andThen .now
  unfold setAttr callSpecial? specialOf
  refine wpAny_bind (wpAny_mkText (wpAny_bind (wpAny_bind (wpAny_bind (ty.here ?_)))))
  rw [fn_set]
  refine wpAny_pure (wpAny_holding ?_)
  rw [PySem.F.store_object.slot.bind]
  refine wpAny_bind (wpAny_pure (wpAny_bind (wpAny_call (codeAny_mono (osa_func (s := ⟨hh, gg, d, t + 1, os⟩) (R := fun r s' => match r with | .ok (.ret _) => Q () s' | _ => False) F N hn h1 h2 (fun d' h' F' N' l => ?_)) fun r s' z => ?_))))
  · exact h d' h' F' (by rw [hg]; exact N') l
  · rcases r with e | (v | _ | _ | _) <;> first | exact z.elim | exact wpAny_pure (wpAny_pure z)
end
end
section
noncomputable def chr1 (x : Str) (k : Nat) : Str := match x.cps[k]? with | some c => ⟨#[c]⟩ | none => ⟨#[]⟩
open PySem.Builtin PySem.Builtin.Str in
theorem slice_one (x : Str) (k : Nat) : Txt.slice x (some (k : Int)) (some ((k : Int) + 1)) = chr1 x k := by
  obtain ⟨⟨l⟩⟩ := x
  have hi : strSliceIndices (some (k : Int)) (some ((k : Int) + 1)) 1 l.length = if k < l.length then [k] else [] := by
    unfold strSliceIndices sliceRange
    simp only [show ¬ ((k : Int) < 0) by omega, show ¬ ((k : Int) + 1 < 0) by omega, if_false, show (1 : Int) > 0 by decide, if_true]
    by_cases h : k < l.length
    · have e1 : max 0 (min (k : Int) (l.length : Int)) = k := by rw [Int.min_eq_left (Int.ofNat_le.mpr (Nat.le_of_lt h)), Int.max_eq_right (Int.natCast_nonneg k)]
      have e2 : max 0 (min ((k : Int) + 1) (l.length : Int)) = k + 1 := by rw [Int.min_eq_left (show (k : Int) + 1 ≤ l.length from Int.ofNat_le.mpr h), Int.max_eq_right (show (0 : Int) ≤ (k : Int) + 1 from Int.natCast_nonneg (k + 1))]
      rw [e1, e2, if_pos (Int.lt_add_one_of_le (Int.le_refl _)), if_pos h]
      have e3 : (((k : Int) + 1 - k + 1 - 1) / 1).toNat = 1 := by rw [Int.add_sub_cancel, Int.ediv_one, Int.add_comm, Int.add_sub_cancel]; rfl
      rw [e3]
      simp
    · have e1 : max 0 (min (k : Int) (l.length : Int)) = l.length := by rw [Int.min_eq_right (Int.ofNat_le.mpr (Nat.not_lt.mp h)), Int.max_eq_right (Int.natCast_nonneg _)]
      have e2 : max 0 (min ((k : Int) + 1) (l.length : Int)) = l.length := by rw [Int.min_eq_right (show (l.length : Int) ≤ (k : Int) + 1 from Int.ofNat_le.mpr (Nat.le_succ_of_le (Nat.not_lt.mp h))), Int.max_eq_right (Int.natCast_nonneg _)]
      rw [e1, e2, if_neg (Int.lt_irrefl _), if_neg h]
      simp
  unfold Txt.slice chr1
  have hl : (⟨⟨l⟩⟩ : Str).length = l.length := rfl
  rw [hl, hi]
  by_cases h : k < l.length
  · rw [if_pos h]
    have e : l[k]? = some l[k] := List.getElem?_eq_getElem h
    simp only [List.getElem?_toArray, e]
    split
    · rename_i c
      simp at c
      match l, c, h with
      | [a], _, h =>
        have : k = 0 := by simp at h; omega
        subst this; rfl
    · simp [e]
  · rw [if_neg h]
    have e : l[k]? = none := List.getElem?_eq_none (Nat.not_lt.mp h)
    simp only [List.getElem?_toArray, e]
    split
    · rename_i c
      simp at c
      have : l = [] := List.eq_nil_of_length_eq_zero c.symm
      subst this; rfl
    · simp
end
section
open PyProof.Rows.LCg in
theorem comp_rest {prog : Program} {w : World} {A : Around} {h₀ : Heap} {L : Addr} {m : Str → Option Value} {env : Env} {elt : Expr} {x : Str} {scope : Scope} {cl : List (Str × Addr)} {s : Shared} {S : List (Addr × Obj) → Prop} {P : Nat → Value → Prop} {Fin : List Value → List (Addr × Obj) → Prop} {n : Nat}
    (R : Nat → List Value → List (Addr × Obj) → Prop) {news : List (Addr × Obj)} (h0 : R 0 [] news)
    (turn : ∀ i v I oI C oC D m₂ ys nw h tk (E' : Value → Shared → Prop), i < n → R i ys nw → P i v → NsObj oC m₂ → m₂ x = some v → Fr h₀ L h m → News h₀ L h ((I, oI) :: (C, oC) :: (D, lst ys) :: nw) → Off3 I C D nw → ((@Ne Nat I C) ∧ (@Ne Nat I D) ∧ (@Ne Nat C D)) →
      wpAny (model prog w) A (eval elt (compEnvC scope cl C env)) (CompEnd h₀ L m { s with heap := h, toks := tk } I oI C oC D (lst ys) S (fun y nw' => R (i + 1) (ys ++ [y]) nw')) E' { s with heap := h, toks := tk })
    (fin : ∀ ys nw, R n ys nw → Fin ys nw) : CompRest prog w A h₀ L m env elt x scope cl s S P Fin n 0 [] news := by
  have key : ∀ (j i : Nat) (ys : List Value) (nw : List (Addr × Obj)), i + j = n → R i ys nw → CompRest prog w A h₀ L m env elt x scope cl s S P Fin j i ys nw := by
    intro j
    induction j with
    | zero =>
      intro i ys nw hi hr
      obtain rfl : i = n := by omega
      exact CompRest.zero (fin ys nw hr)
    | succ j ih =>
      intro i ys nw hi hr
      refine CompRest.succ ?_
      intro v I oI C oC D m₂ h tk E' hv hC hx F N off ne
      refine wpAny_mono (turn i v I oI C oC D m₂ ys nw h tk E' (by omega) hr hv hC hx F N off ne) (fun y s₂ hq => ?_) fun _ _ e => e
      refine Classical.byContradiction fun hG0 => ?_
      refine exE3 hq ?_
      try clear hq
      rintro h' tk' nw' hJ0
      refine anE6 hJ0 ?_
      try clear hJ0
      rintro e F' N' off' hS hr'
      refine hG0 ?_
      clear hG0
      exact ⟨h', tk', nw', e, F', N', off', hS, ih (i + 1) _ _ (by omega) hr'⟩
  exact key n 0 [] news (Nat.zero_add n) h0
end
section
open PyProof.Rows.LCg
@[reducible] noncomputable def tup_block_S (prog : Program) (w : World) (A : Around) (E : Value → Shared → Prop) (s₁ : Shared) (h₀ : Heap) (L : Addr) (m : Str → Option Value) (env : Env) (elt iter : Expr) (x : Str) (px : Pos) (scope : Scope) (cl : List (Str × Addr)) (pos : Pos) (its : Array Value) (tn : Nat) (tp : Addr) (news : List (Addr × Obj)) : Prop := ∀ {RR : Value → Addr → Result → Shared → Prop} (R : Nat → List Value → List (Addr × Obj) → Array GenState → Prop) (hcell : ∀ y ∈ scope.names, y.2 ≠ .cell) (hkind : scope.kind = .function) (hx : scope.names.lookup x = some .local) (hh : A.handled = none) (hsz : its.size ≤ sizeLine) (F : Fr h₀ L s₁.heap m) (N : News h₀ L s₁.heap ((tp, { cls := .type "tuple", data := .seq its tn }) :: news)) (hR : R 0 [] news s₁.gens) (turn : ∀ i v I oI C oC D m₂ ys nw gl h tk (E' : Value → Shared → Prop), i < its.size → its[i]? = some v → R i ys nw gl → NsObj oC m₂ → m₂ x = some v → Fr h₀ L h m → News h₀ L h ((I, oI) :: (C, oC) :: (D, lst ys) :: (tp, { cls := .type "tuple", data := .seq its tn }) :: nw) →
        Off3 I C D ((tp, { cls := .type "tuple", data := .seq its tn }) :: nw) → ((@Ne Nat I C) ∧ (@Ne Nat I D) ∧ (@Ne Nat C D)) →
        wpAny (model prog w) A (eval elt (compEnvC scope cl C env)) (fun y s₂ => ∃ h' tk' gl' nw', s₂ = { s₁ with heap := h', toks := tk', gens := gl' } ∧ Fr h₀ L h' m ∧ News h₀ L h' ((I, oI) :: (C, oC) :: (D, lst ys) :: (tp, { cls := .type "tuple", data := .seq its tn }) :: nw') ∧
          Off3 I C D ((tp, { cls := .type "tuple", data := .seq its tn }) :: nw') ∧ R (i + 1) (ys ++ [y]) nw' gl') E' { s₁ with heap := h, toks := tk, gens := gl }) (fin : ∀ D C h tk gl m' ys nw, Fr h₀ L h m → News h₀ L h ((D, lst ys) :: nw) → Off1 D nw → h.Ns C m' → h₀.get? C = none → @Ne Nat C L → (∀ p ∈ (D, lst ys) :: nw, p.1 ≠ C) → R its.size ys nw gl → RR (.ref D) C (.ok .next) { s₁ with heap := h, toks := tk, gens := gl }), wpAny (model prog w) A (pyIter (.ref tp)) (fun it s₂ => wpAny (model prog w) A (newList []) (fun acc s₃ => wpAny (model prog w) A (newFunctionEnv scope env.globals cl [] env.qual none .none (some env)) (fun cenv s₄ =>
      codeAny (model prog w) A (.compStart (.ListComp elt [⟨.Name x px, iter, [], 0⟩] scope pos) 0 it acc { cenv with scope := relabel scope env }) (RR acc cenv.locals) s₄) E s₃) E s₂) E s₁
namespace tup_block_K
@[irreducible] noncomputable def pt : Cx := bad fun c => tup_block_S (c.pg 0) (c.w 0) (c.ar 0) (c.qv 0) (c.sh 0) (c.h 0) (c.n 0) (c.m 0) (c.en 0) (c.ex 0) (c.ex 1) (c.st 0) (c.ps 0) (c.sc 0) (c.cl 0) (c.ps 1) (c.av 0) (c.n 1) (c.n 2) (c.lo 0)
@[irreducible] noncomputable def prog : Program := pt.pg 0
@[irreducible] noncomputable def w : World := pt.w 0
@[irreducible] noncomputable def A : Around := pt.ar 0
@[irreducible] noncomputable def s₁ : Shared := pt.sh 0
@[irreducible] noncomputable def h₀ : Heap := pt.h 0
@[irreducible] noncomputable def L : Addr := pt.n 0
@[irreducible] noncomputable def m : Str → Option Value := pt.m 0
@[irreducible] noncomputable def env : Env := pt.en 0
@[irreducible] noncomputable def elt : Expr := pt.ex 0
@[irreducible] noncomputable def iter : Expr := pt.ex 1
@[irreducible] noncomputable def x : Str := pt.st 0
@[irreducible] noncomputable def px : Pos := pt.ps 0
@[irreducible] noncomputable def scope : Scope := pt.sc 0
@[irreducible] noncomputable def cl : List (Str × Addr) := pt.cl 0
@[irreducible] noncomputable def pos : Pos := pt.ps 1
@[irreducible] noncomputable def its : Array Value := pt.av 0
@[irreducible] noncomputable def tn : Nat := pt.n 1
@[irreducible] noncomputable def tp : Addr := pt.n 2
@[irreducible] noncomputable def news : List (Addr × Obj) := pt.lo 0
theorem main : tup_block_S prog w A (pt.qv 0) s₁ h₀ L m env elt iter x px scope cl pos its tn tp news := by
  intro RR R hcell hkind hx hh hsz F N hR turn fin
  have hT : s₁.heap.IsTuple tp its := ⟨_, (N _ (.head _)).1, rfl, _, rfl⟩
  refine wpAny_pyIter_tuple hT ?_
  have hL1 : @LT.lt Nat _ L s₁.heap.objs.size := F.ns.lt
  obtain ⟨I, eI⟩ : ∃ I, s₁.heap.objs.size = I := ⟨_, rfl⟩
  have F1 := F.push { cls := .type "tuple_iterator", data := .fields #[.ref tp, .int 0 0] }
  have N1 := N.push F { cls := .type "tuple_iterator", data := .fields #[.ref tp, .int 0 0] } rfl
  have z1 : (s₁.heap.push { cls := .type "tuple_iterator", data := .fields #[.ref tp, .int 0 0] }).objs.size = I + 1 := by rw [Heap.size_push, eI]
  have old : ∀ p ∈ (tp, ({ cls := .type "tuple", data := .seq its tn } : Obj)) :: news, @LT.lt Nat _ p.1 I := fun p hp => eI ▸ Heap.lt_size (N p hp).1
  have n0 : ∀ b, @LE.le Nat _ I b → h₀.get? b = none := fun b hb => Heap.get?_none_of_le (Nat.le_trans F.above (Nat.le_of_lt (Nat.lt_of_lt_of_le hL1 (eI ▸ hb))))
  rw [eI] at N1 hL1 ⊢
  generalize s₁.heap.push { cls := .type "tuple_iterator", data := .fields #[.ref tp, .int 0 0] } = H1 at *
  refine wpAny_newObj_type (wpAny_newFunctionEnv hcell (by intro y hy; simp at hy) (fun h₂ hns₂ hsb₂ => ?_) hkind)
  have F2 := F1.push (lst [])
  have N2 := N1.push F1 (lst []) rfl
  rw [z1] at N2
  have z2 : (H1.push (lst [])).objs.size = I + 1 + 1 := by rw [Heap.size_push, z1]
  dsimp only at hns₂ hsb₂ ⊢
  rw [show (H1.push { cls := .type "list", dict := none, data := .seq ([] : List Value).toArray }) = H1.push (lst []) from rfl] at hns₂ hsb₂ ⊢
  rw [z2] at hns₂ hsb₂
  rw [z1, z2]
  have up : ∀ b o, (H1.push (lst [])).get? b = some o → h₂.get? b = some o := fun b o e => hsb₂.extBut b o (Nat.ne_of_lt (z2 ▸ Heap.lt_size e)) (Heap.get?_push_of_some _ e)
  have F3 : Fr h₀ L h₂ m := ⟨F2.ns.at' fun o e => up _ _ e, fun b o e => up _ _ (F2.keep b o e), F2.above⟩
  have N3 : News h₀ L h₂ ((I + 1, lst []) :: (I, { cls := .type "tuple_iterator", data := .fields #[.ref tp, .int 0 0] }) :: (tp, { cls := .type "tuple", data := .seq its tn }) :: news) := fun p hp => ⟨up _ _ (N2 p hp).1, (N2 p hp).2⟩
  have hC0 : h₀.get? (I + 1 + 1) = none := n0 _ (by omega)
  have hCL : @Ne Nat (I + 1 + 1) L := by omega
  clear hsb₂ up F1 F2 N1 N2
  have off0 : Off3 I (I + 1 + 1) (I + 1) ((tp, ({ cls := .type "tuple", data := .seq its tn } : Obj)) :: news) := Off3.of fun p hp => by
    have := old p hp
    exact ⟨Nat.ne_of_lt this, Nat.ne_of_lt (by omega), Nat.ne_of_lt (by omega)⟩
  have loop : ∀ s₃ : Shared, s₃ = { s₁ with heap := h₂, toks := s₁.toks + ([] : List (Str × Value)).length } →
      codeAny (model prog w) A (.compLoop (.ListComp elt [⟨.Name x px, iter, [], 0⟩] scope pos) 0 (.ref I) (.ref (I + 1)) (compEnvC scope cl (I + 1 + 1) env))
        (RR (.ref (I + 1)) (I + 1 + 1)) s₃ := by
    rintro s₃ rfl
    refine codeAny_compLoop_tests
      (fun k s' => ∃ h tk gl i ys nw m' oI, s' = { s₁ with heap := h, toks := tk, gens := gl } ∧ i ≤ its.size ∧ k = its.size + 1 - i ∧ ys.length = i ∧ Fr h₀ L h m ∧ h.Ns (I + 1 + 1) m' ∧ oI.cls = .type "tuple_iterator" ∧ oI.data = .fields #[.ref tp, .int i 0] ∧
        News h₀ L h ((I + 1, lst ys) :: (I, oI) :: (tp, { cls := .type "tuple", data := .seq its tn }) :: nw) ∧ Off3 I (I + 1 + 1) (I + 1) ((tp, { cls := .type "tuple", data := .seq its tn }) :: nw) ∧ R i ys nw gl) ?_ (its.size + 1)
      (xI8 h₂ _ _ 0 [] news _ _ ⟨rfl, Nat.zero_le _, rfl, rfl, F3, hns₂, rfl, rfl, N3, off0, hR⟩)
    rintro k s' hJ0
    refine Classical.byContradiction fun hG0 => ?_
    refine exE8 hJ0 ?_
    try clear hJ0
    rintro h tk gl i ys nw m' oI hJ0
    refine anE11 hJ0 ?_
    try clear hJ0
    rintro rfl hi rfl hyl F' hn' hIc hId N' off' hR'
    refine hG0 ?_
    clear hG0
    have hD' := N' _ (.head _)
    have hI' := N' _ (.tail _ (.head _))
    have hT' : h.IsTuple tp its := ⟨_, (N' _ (.tail _ (.tail _ (.head _)))).1, rfl, _, rfl⟩
    have hit : h.IsTupleIter I tp i := ⟨_, hI'.1, hIc, hId⟩
    have offm := off'.mem
    have offI : ∀ p ∈ (tp, ({ cls := .type "tuple", data := .seq its tn } : Obj)) :: nw, p.1 ≠ I := fun p hp => (offm p hp).1
    by_cases hlt : i < its.size
    · refine wpAny_pyNext_tuple_item hit hT' (x := its[i]) (by simp [hlt]) (fun h3 hit3 hs3 => ?_)
      obtain ⟨oI3, eI3, cI3, dI3⟩ := hit3
      have F4 := F'.change hs3 hI'.2.1 hI'.2.2
      have hn4 := hn'.sameBut hs3 (show @Ne Nat (I + 1 + 1) I by omega)
      have N4 : News h₀ L h3 ((I + 1, lst ys) :: (tp, { cls := .type "tuple", data := .seq its tn }) :: nw) := fun p hp => by
        have hpI : p.1 ≠ I := by
          refine mem_cs hp ?_ fun hp => ?_
          · show @Ne Nat (I + 1) I; omega
          · exact offI p hp
        have hp' : p ∈ (I + 1, lst ys) :: (I, oI) :: (tp, ({ cls := .type "tuple", data := .seq its tn } : Obj)) :: nw := by
          refine mem_cs hp ?_ fun hp => ?_
          · exact .head _
          · exact .tail _ (.tail _ hp)
        exact ⟨hs3.extBut _ _ hpI (N' p hp').1, (N' p hp').2⟩
      refine wpAny_assign_Name (wpAny_storeName_local (lookup_relabel_local hx) hn4 (fun h4 hn5 hs4 => ?_) (by simp [compEnvC, relabel, hkind]))
      refine wpAny_tests_nil ?_
      simp only [if_true]
      obtain ⟨oC, heC, hoC⟩ := ns_obj hn5
      have F5 := F4.change hs4 hCL hC0
      have N5 : News h₀ L h4 ((I, oI3) :: (I + 1 + 1, oC) :: (I + 1, lst ys) :: (tp, { cls := .type "tuple", data := .seq its tn }) :: nw) := fun p hp => by
        refine mem_cs hp ?_ fun hp => ?_
        · exact ⟨hs4.extBut _ _ (show @Ne Nat I (I + 1 + 1) by omega) eI3, hI'.2⟩
        · refine mem_cs hp ?_ fun hp => ?_
          · exact ⟨heC, hCL, hC0⟩
          · refine ⟨hs4.extBut _ _ ?_ (N4 p hp).1, (N4 p hp).2⟩
            refine mem_cs hp ?_ fun hp => ?_
            · show @Ne Nat (I + 1) (I + 1 + 1); omega
            · exact (offm p hp).2.1
      refine wpAny_mono (turn i its[i] I oI3 (I + 1 + 1) oC (I + 1) _ ys nw gl h4 _ _ hlt (by simp [hlt]) hR' hoC (by simp) F5 N5 off' ⟨by omega, by omega, by omega⟩) (fun y s₄ h₄ => ?_) fun _ _ e => e
      refine Classical.byContradiction fun hG0 => ?_
      refine exE4 h₄ ?_
      try clear h₄
      rintro h5 tk5 gl5 nw5 hJ0
      refine anE5 hJ0 ?_
      try clear hJ0
      rintro rfl F6 N6 off6 hR6
      refine hG0 ?_
      clear hG0
      have zI := N6 _ (.head _)
      have zC := N6 _ (.tail _ (.head _))
      have zD := N6 _ (.tail _ (.tail _ (.head _)))
      have offm6 := off6.mem
      refine append_at (hsz := by show ys.toArray.size ≤ sizeLine; rw [List.size_toArray, hyl]; exact Nat.le_trans hi hsz) zD.1 fun h6 hs6 hD6 => ?_
      refine ⟨its.size + 1 - (i + 1), by omega, h6, tk5, gl5, i + 1, ys ++ [y], nw5, _, oI3, rfl, hlt, rfl, by rw [List.length_append, List.length_singleton, hyl], F6.change hs6 zD.2.1 zD.2.2, (hoC.ns zC.1).sameBut hs6 (show @Ne Nat (I + 1 + 1) (I + 1) by omega), cI3, dI3, fun p hp => ?_, off6, hR6⟩
      refine mem_cs hp ?_ fun hp => ?_
      · exact ⟨hD6.trans (congrArg some (lst_snoc ys y)), zD.2⟩
      · have hpD : @Ne Nat p.1 (I + 1) ∧ (p ∈ (I, oI3) :: (I + 1 + 1, oC) :: (I + 1, lst ys) :: (tp, ({ cls := .type "tuple", data := .seq its tn } : Obj)) :: nw5) := by
          refine mem_cs hp ?_ fun hp => ?_
          · exact ⟨by show @Ne Nat I (I + 1); omega, .head _⟩
          · exact ⟨(offm6 p hp).2.2, .tail _ (.tail _ (.tail _ hp))⟩
        exact ⟨hs6.extBut _ _ hpD.1 (N6 p hpD.2).1, (N6 p hpD.2).2⟩
    · obtain rfl : i = its.size := Nat.le_antisymm hi (Nat.not_lt.mp hlt)
      refine wpAny_pyNext_tuple_end hh hit hT' (by simp) fun h3 he3 => ?_
      have up3 : ∀ p ∈ (I + 1, lst ys) :: (tp, ({ cls := .type "tuple", data := .seq its tn } : Obj)) :: nw, h3.get? p.1 = some p.2 ∧ p.1 ≠ L ∧ h₀.get? p.1 = none := fun p hp => by
        refine mem_cs hp ?_ fun hp => ?_
        · exact ⟨he3 _ _ (show @Ne Nat (I + 1) I by omega) hD'.1, hD'.2⟩
        · exact ⟨he3 _ _ (offI p hp) (N' p (.tail _ (.tail _ hp))).1, (N' p (.tail _ (.tail _ hp))).2⟩
      have F7 : Fr h₀ L h3 m := ⟨F'.ns.at' fun o e => he3 _ _ (show @Ne Nat L I from hI'.2.1.symm) e, fun b o e => he3 _ _ (fun q => by rw [q, hI'.2.2] at e; cases e) (F'.keep b o e), F'.above⟩
      refine fin (I + 1) (I + 1 + 1) h3 tk gl _ ys nw F7 (fun p hp => up3 p ?_) off'.one.2 (hn'.at' fun o e => he3 _ _ (show @Ne Nat (I + 1 + 1) I by omega) e) hC0 hCL (fun p hp => ?_) hR'
      · refine mem_cs hp ?_ fun hp => ?_
        · exact .head _
        · exact .tail _ (.tail _ hp)
      · refine mem_cs hp ?_ fun hp => ?_
        · show @Ne Nat (I + 1) (I + 1 + 1); omega
        · exact (offm p (.tail _ hp)).2.1
  refine codeAny_compStart_list (loop _ rfl) (wpAny_pyIter_tupleiter ⟨_, (N3 _ (.tail _ (.head _))).1, rfl, rfl⟩ (loop _ rfl))
end tup_block_K
theorem tup_block {prog : Program} {w : World} {A : Around} {E : Value → Shared → Prop} {s₁ : Shared} {h₀ : Heap} {L : Addr} {m : Str → Option Value} {env : Env} {elt iter : Expr} {x : Str} {px : Pos} {scope : Scope} {cl : List (Str × Addr)} {pos : Pos} {its : Array Value} {tn : Nat} {tp : Addr} {news : List (Addr × Obj)} : tup_block_S prog w A E s₁ h₀ L m env elt iter x px scope cl pos its tn tp news := @by_bad (fun c => tup_block_S (c.pg 0) (c.w 0) (c.ar 0) (c.qv 0) (c.sh 0) (c.h 0) (c.n 0) (c.m 0) (c.en 0) (c.ex 0) (c.ex 1) (c.st 0) (c.ps 0) (c.sc 0) (c.cl 0) (c.ps 1) (c.av 0) (c.n 1) (c.n 2) (c.lo 0)) (by with_unfolding_all exact tup_block_K.main) { cx0 with n := fromL (0) [L, tn, tp], st := fromL (Str.empty) [x], lo := fromL ([]) [news], m := fromL (fun _ => none) [m], sh := fromL ({}) [s₁], h := fromL ({}) [h₀], ar := fromL (aroundZ) [A], w := fromL (worldZ) [w], qv := fromL (fun _ _ => True) [E], sc := fromL (default) [scope], cl := fromL ([]) [cl], av := fromL (#[]) [its], pg := fromL (Challenge.rw_st0007_01.prog) [prog], ex := fromL (.Constant .none 0 default) [elt, iter], ps := fromL (default) [px, pos], en := fromL (envOf Str.empty ⟨.function, [], false, false, []⟩ 0 0 .none) [env] }
theorem Assign_tupG {prog : Program} {w : World} {A : Around} {E : Value → Shared → Prop} {s : Shared} {h₀ : Heap} {L : Addr} {m : Str → Option Value} {env : Env}
    {elt iter : Expr} {x y : Str} {px py : Pos} {scope : Scope} {cl : List (Str × Addr)} {pos spos : Pos} {Q : Flow → Shared → Prop}
    (F₀ : Fr h₀ L s.heap m) (hLe : env.locals = L)
    (hsw : swapsWith (.ListComp elt [⟨.Name x px, iter, [], 0⟩] scope pos) (some (.Name y py)) spos.line env = pure true)
    (hclos : closureFor scope env = pure cl) (hcell : ∀ y ∈ scope.names, y.2 ≠ .cell) (hkind : scope.kind = .function)
    (hnames : ∀ y ∈ scope.names, y.2 = .local → scope.names.lookup y.1 = some .local) (hx : scope.names.lookup x = some .local)
    (hy : env.kindOf y = some .local) (hp : (env.scope.kind == .class || (env.scope.kind == .module && env.locals != env.globals)) = false) (hh : A.handled = none)
    (h : wpAny (model prog w) A (eval iter env) (fun xv s₁ => Hold (∃ (its : Array Value) (tn : Nat) (R : Nat → List Value → List (Addr × Obj) → Array GenState → Prop) (tp : Addr) (news : List (Addr × Obj)), xv = .ref tp ∧ its.size ≤ sizeLine ∧ Fr h₀ L s₁.heap m ∧ News h₀ L s₁.heap ((tp, { cls := .type "tuple", data := .seq its tn }) :: news) ∧ R 0 [] news s₁.gens ∧
      (∀ i v I oI C oC D m₂ ys nw gl h tk (E' : Value → Shared → Prop), i < its.size → its[i]? = some v → R i ys nw gl → NsObj oC m₂ → m₂ x = some v → Fr h₀ L h m → News h₀ L h ((I, oI) :: (C, oC) :: (D, lst ys) :: (tp, { cls := .type "tuple", data := .seq its tn }) :: nw) →
        Off3 I C D ((tp, { cls := .type "tuple", data := .seq its tn }) :: nw) → ((@Ne Nat I C) ∧ (@Ne Nat I D) ∧ (@Ne Nat C D)) →
        wpAny (model prog w) A (eval elt (compEnvC scope cl C env)) (fun y s₂ => ∃ h' tk' gl' nw', s₂ = { s₁ with heap := h', toks := tk', gens := gl' } ∧ Fr h₀ L h' m ∧ News h₀ L h' ((I, oI) :: (C, oC) :: (D, lst ys) :: (tp, { cls := .type "tuple", data := .seq its tn }) :: nw') ∧
          Off3 I C D ((tp, { cls := .type "tuple", data := .seq its tn }) :: nw') ∧ R (i + 1) (ys ++ [y]) nw' gl') E' { s₁ with heap := h, toks := tk, gens := gl }) ∧
      (∀ ys nw gl D h tk, R its.size ys nw gl → Fr h₀ L h (fun z => if z = y then some (.ref D) else m z) → News h₀ L h ((D, lst ys) :: nw) → Off1 D nw → Q .next { s₁ with heap := h, toks := tk, gens := gl }))) E s)
    (hs : ∀ x, foldedSetIterable iter env x = pure x := by intro _; rfl) :
    wpAny (model prog w) A (exec (.Assign [.Name y py] (.ListComp elt [⟨.Name x px, iter, [], 0⟩] scope pos) spos) env) Q E s := by
  subst hLe
  rw [exec_Assign_Name_used _ _ _ _ hsw]
  refine wpAny_bind (wpAny_standAt (wpAny_bind ?_))
  show wpAny _ A (do let _ ← comprehension (.ListComp elt [⟨.Name x px, iter, [], 0⟩] scope pos) scope env _ (newList []) false (eval iter env) (some (assign (.Name y py) env))) _ _ s
  refine wpAny_bind (wpAny_mono (wpAny_comprehension_free (use := some (assign (.Name y py) env)) (Q := fun _ s' => Q .next s') rfl hs hclos hkind hnames
    (wpAny_mono h (fun xv s₁ h₁ => ?_) fun _ _ e => e)) (fun _ s' hq => wpAny_pure (wpAny_pure hq)) fun _ _ e => e)
  refine Classical.byContradiction fun hG0 => ?_
  refine exE5 h₁ ?_
  try clear h₁
  rintro its tn R tp news hJ0
  refine anE7 hJ0 ?_
  try clear hJ0
  rintro rfl hsz F N hR turn fin
  refine hG0 ?_
  clear hG0
  refine tup_block (RR := fun acc C => compPost (model prog w) A E (some (assign (.Name y py) env)) (fun _ s' => Q .next s') acc C) R hcell hkind hx hh hsz F N hR turn (fun D C h' tk gl m' ys nw F' N' o1 hn hC₀ hCL offC hr => ?_)
  show wpAny _ A (assign (.Name y py) env (.ref D)) _ _ _
  refine wpAny_assign_Name (wpAny_storeName_local hy F'.ns (fun h₂ hn₂ hs₂ => ?_) hp)
  have F₂ : Fr h₀ env.locals h₂ (fun z => if z = y then some (.ref D) else m z) := F'.set hn₂ hs₂
  refine ⟨m', hn.sameBut hs₂ hCL, fun h'' hs'' => fin ys nw gl D h'' _ hr (F₂.change hs'' hCL hC₀) (fun p hp => ?_) o1⟩
  exact ⟨hs''.extBut _ _ (offC p hp) (hs₂.extBut _ _ (N' p hp).2.1 (N' p hp).1), (N' p hp).2⟩
end
section
open PyProof.V PySem.Spec
theorem st_lay : ∀ ns : List Str, (∀ x ∈ ns, PyData.strOk x = true) → PyData.canLayAll0 (ns.map PyData.str) = true
  | [], _ => rfl
  | a :: r, h => by simp [PyData.canLayAll0, PyData.canLay0, h a (.head _), st_lay r fun x hx => h x (.tail _ hx)]
theorem st_depth : ∀ ns : List Str, PyData.depthAll (ns.map PyData.str) = 0
  | [] => rfl
  | _ :: r => by simp [PyData.depthAll, PyData.depth, st_depth r]
theorem st_shaped {ns : List Str} (h : ∀ x ∈ ns, PyData.strOk x = true) : SeqAt.shaped (.list (ns.map PyData.str)) = true := by
  simp [SeqAt.shaped, PyData.canLay0, PyData.depth, st_lay ns h, st_depth]
theorem st_sameAll : ∀ ns : List Str, PySem.Spec.sameAll (ns.map PyData.str) (ns.map PyData.str) = true
  | [] => by simp [PySem.Spec.sameAll]
  | a :: r => by
    simp only [List.map_cons, PySem.Spec.sameAll, PySem.Spec.same, st_sameAll r]
    simp
theorem st_same (ns : List Str) : PySem.Spec.same (.list (ns.map PyData.str)) (.list (ns.map PyData.str)) = true := by
  simp only [PySem.Spec.same]; exact st_sameAll ns
section
variable {prog : Program} {w : World} {A : Around} {E : Value → Shared → Prop} {s : Shared} {a b : Addr} {xs ys : List Value} {ns : List Str} {Q : Value → Shared → Prop}
theorem ne_strs (ha : s.heap.IsList a xs.toArray) (hb : s.heap.IsList b ys.toArray) (hi : StrsAre xs ns) (hj : StrsAre ys ns) (ho : ∀ x ∈ ns, PyData.strOk x = true) (hu : A.units + 64 < cLine) (h : Q (.bool false) s) :
    wpAny (model prog w) A (compareOp .NotEq (.ref a) (.ref b)) Q E s :=
  ne_dataH_same (reads_newData ha (StrsAre.carried hi)) (reads_newData hb (StrsAre.carried hj)) (st_shaped ho) (st_shaped ho) hu (SeqAt.noMix_of_shape (.list .str) rfl _ _ (list_map_has fun _ => rfl) (list_map_has fun _ => rfl)) (by rw [st_same]; exact h)
theorem eq_strs (ha : s.heap.IsList a xs.toArray) (hb : s.heap.IsList b ys.toArray) (hi : StrsAre xs ns) (hj : StrsAre ys ns) (ho : ∀ x ∈ ns, PyData.strOk x = true) (hu : A.units + 64 < cLine) (h : Q (.bool true) s) :
    wpAny (model prog w) A (compareOp .Eq (.ref a) (.ref b)) Q E s :=
  eq_dataH_same (reads_newData ha (StrsAre.carried hi)) (reads_newData hb (StrsAre.carried hj)) (st_shaped ho) (st_shaped ho) hu (SeqAt.noMix_of_shape (.list .str) rfl _ _ (list_map_has fun _ => rfl) (list_map_has fun _ => rfl)) (by rw [st_same]; exact h)
end
end
section
open PyProof.Rows.LCg PyProof.Rows.LCt in
theorem compT_rest {prog : Program} {w : World} {A : Around} {h₀ : Heap} {L : Addr} {m : Str → Option Value} {env : Env} {ct elt : Expr} {x : Str} {scope : Scope} {cl : List (Str × Addr)} {s : Shared} {S : List (Addr × Obj) → Prop} {P : Nat → Value → Prop} {Fin : List Value → List (Addr × Obj) → Prop} {n : Nat}
    (R : Nat → List Value → List (Addr × Obj) → Prop) {news : List (Addr × Obj)} (h0 : R 0 [] news)
    (turn : ∀ i v I oI C oC D m₂ ys nw h tk (E' : Value → Shared → Prop), i < n → R i ys nw → P i v → NsObj oC m₂ → m₂ x = some v → Fr h₀ L h m → News h₀ L h ((I, oI) :: (C, oC) :: (D, lst ys) :: nw) → Off3 I C D nw → ((@Ne Nat I C) ∧ (@Ne Nat I D) ∧ (@Ne Nat C D)) →
      wpAny (model prog w) A (isTrue ct (compEnvC scope cl C env) (eval ct (compEnvC scope cl C env))) (fun ok s' => if ok = true then
        wpAny (model prog w) A (eval elt (compEnvC scope cl C env)) (CompEnd h₀ L m { s with heap := h, toks := tk } I oI C oC D (lst ys) S (fun y nw' => R (i + 1) (ys ++ [y]) nw')) E' s'
        else CompEnd h₀ L m { s with heap := h, toks := tk } I oI C oC D (lst ys) S (fun _ nw' => R (i + 1) ys nw') Value.none s') E' { s with heap := h, toks := tk })
    (fin : ∀ ys nw, R n ys nw → Fin ys nw) : CompRestT prog w A h₀ L m env ct elt x scope cl s S P Fin n 0 [] news := by
  have key : ∀ (j i : Nat) (ys : List Value) (nw : List (Addr × Obj)), i + j = n → R i ys nw → CompRestT prog w A h₀ L m env ct elt x scope cl s S P Fin j i ys nw := by
    intro j
    induction j with
    | zero =>
      intro i ys nw hi hr
      obtain rfl : i = n := by omega
      exact CompRestT.zero (fin ys nw hr)
    | succ j ih =>
      intro i ys nw hi hr
      refine CompRestT.succ ?_
      intro v I oI C oC D m₂ h tk E' hv hC hx F N off ne
      refine wpAny_mono (turn i v I oI C oC D m₂ ys nw h tk E' (by omega) hr hv hC hx F N off ne) (fun ok s₂ hq => ?_) fun _ _ e => e
      cases ok with
      | true =>
        rw [if_pos rfl] at hq ⊢
        refine wpAny_mono hq (fun y s₃ hq => ?_) fun _ _ e => e
        refine Classical.byContradiction fun hG0 => ?_
        refine exE3 hq ?_
        try clear hq
        rintro h' tk' nw' hJ0
        refine anE6 hJ0 ?_
        try clear hJ0
        rintro e F' N' off' hS hr'
        refine hG0 ?_
        clear hG0
        exact ⟨h', tk', nw', e, F', N', off', hS, ih (i + 1) _ _ (by omega) hr'⟩
      | false =>
        rw [if_neg (by decide)] at hq ⊢
        refine Classical.byContradiction fun hG0 => ?_
        refine exE3 hq ?_
        try clear hq
        rintro h' tk' nw' hJ0
        refine anE6 hJ0 ?_
        try clear hJ0
        rintro e F' N' off' hS hr'
        refine hG0 ?_
        clear hG0
        exact ⟨h', tk', nw', e, F', N', off', hS, ih (i + 1) _ _ (by omega) hr'⟩
  exact key n 0 [] news (Nat.zero_add n) h0
end
section
open PyProof.Rows.LCg
section
variable {prog : Program} {w : World} {A : Around} {R : Result → Shared → Prop} {s : Shared} {elt t0 i0 t1 i1 : Expr} {scope : Scope} {pos : Pos} {it acc : Value} {env : Env}
theorem compTurn_two : compTurn (.ListComp elt [⟨t0, i0, [], 0⟩, ⟨t1, i1, [], 0⟩] scope pos) 0 it acc env = (standAt i0.pos >>= fun _ => pyNext it >>= fun r => match r with
      | none => pure (.done .next)
      | some v => letOwnedTupleGo t0 it v >>= fun _ => assign t0 env v >>= fun _ =>
        eval i1 env >>= fun x => standAt i1.pos >>= fun _ => foldedSetIterable i1 env x >>= fun x => holding [x] (pyIter x) >>= fun it1 => runOwn (.compStart (.ListComp elt [⟨t0, i0, [], 0⟩, ⟨t1, i1, [], 0⟩] scope pos) 1 it1 acc env) env >>= fun _ =>
          again (.compLoop (.ListComp elt [⟨t0, i0, [], 0⟩, ⟨t1, i1, [], 0⟩] scope pos) 0 it acc env)) := by rfl
theorem compTurn_two1 : compTurn (.ListComp elt [⟨t0, i0, [], 0⟩, ⟨t1, i1, [], 0⟩] scope pos) 1 it acc env = (standAt i1.pos >>= fun _ => pyNext it >>= fun r => match r with
      | none => pure (.done .next)
      | some v => letOwnedTupleGo t1 it v >>= fun _ => assign t1 env v >>= fun _ =>
        (eval elt env >>= fun x => call (.builtin "list.append") [acc, x] >>= fun _ => pure ()) >>= fun _ =>
          again (.compLoop (.ListComp elt [⟨t0, i0, [], 0⟩, ⟨t1, i1, [], 0⟩] scope pos) 1 it acc env)) := by rfl
theorem comp2_outer (I : Nat → Shared → Prop)
    (turn : ∀ n s, I n s → wpAny (model prog w) A (pyNext it) (fun r s₁ => match r with
      | none => R (.ok .next) s₁
      | some v => wpAny (model prog w) A (assign t0 env v) (fun _ s₂ => wpAny (model prog w) A (eval i1 env) (fun x s₃ => wpAny (model prog w) A (pyIter x) (fun it1 s₄ =>
          codeAny (model prog w) (A.mark none) (.compStart (.ListComp elt [⟨t0, i0, [], 0⟩, ⟨t1, i1, [], 0⟩] scope pos) 1 it1 acc env) (fun r s₅ => match r with | .ok _ => ∃ m, m < n ∧ I m s₅ | .error _ => False) s₄) (fun _ _ => False) s₃) (fun _ _ => False) s₂) (fun _ _ => False) s₁) (fun _ _ => False) s)
    (n : Nat) (h : I n s) (ht : ∀ v, letOwnedTupleGo t0 it v = pure () := by intro _; rfl) (hs : ∀ x, foldedSetIterable i1 env x = pure x := by intro _; rfl) :
    codeAny (model prog w) A (.compLoop (.ListComp elt [⟨t0, i0, [], 0⟩, ⟨t1, i1, [], 0⟩] scope pos) 0 it acc env) R s := by
  refine codeAny_loop rfl I (fun n s hI => ?_) n h
  show wpAny _ _ ((compTurn (.ListComp elt [⟨t0, i0, [], 0⟩, ⟨t1, i1, [], 0⟩] scope pos) 0 it acc env).onRaise (fun x => do noteFrame x env; theTreesLotGoes x)) _ _ s
  refine wpAny_noted ?_
  rw [compTurn_two]
  refine wpAny_bind (wpAny_standAt (wpAny_bind (wpAny_mono (turn n s hI) (fun r s₁ h₁ => ?_) fun _ _ h' => h'.elim)))
  cases r with
  | none => exact wpAny_pure h₁
  | some v =>
    refine wpAny_bind (wpAny_of_eq (ht v) ?_)
    refine wpAny_bind (wpAny_mono h₁ (fun _ s₂ h₂ => ?_) fun _ _ h' => h'.elim)
    refine wpAny_bind (wpAny_mono h₂ (fun x s₃ h₃ => ?_) fun _ _ h' => h'.elim)
    refine wpAny_bind (wpAny_standAt (wpAny_bind (wpAny_of_eq (hs x) ?_)))
    refine wpAny_bind (wpAny_holding (wpAny_mono h₃ (fun it1 s₄ h₄ => ?_) fun _ _ h' => h'.elim))
    refine wpAny_bind (wpAny_runOwn (codeAny_mono h₄ fun r s₅ hr => ?_))
    cases r with
    | ok f => exact wpAny_pure ⟨rfl, hr⟩
    | error e => exact hr.elim
theorem comp2_inner (I : Nat → Shared → Prop)
    (turn : ∀ n s, I n s → wpAny (model prog w) A (pyNext it) (fun r s₁ => match r with
      | none => R (.ok .next) s₁
      | some v => wpAny (model prog w) A (assign t1 env v) (fun _ s₂ => wpAny (model prog w) A (eval elt env) (fun x s₃ =>
          wpAny (model prog w) A (call (.builtin "list.append") [acc, x]) (fun _ s₄ => ∃ m, m < n ∧ I m s₄) (fun _ _ => False) s₃) (fun _ _ => False) s₂) (fun _ _ => False) s₁) (fun _ _ => False) s)
    (n : Nat) (h : I n s) (ht : ∀ v, letOwnedTupleGo t1 it v = pure () := by intro _; rfl) :
    codeAny (model prog w) A (.compLoop (.ListComp elt [⟨t0, i0, [], 0⟩, ⟨t1, i1, [], 0⟩] scope pos) 1 it acc env) R s := by
  refine codeAny_loop rfl I (fun n s hI => ?_) n h
  show wpAny _ _ ((compTurn (.ListComp elt [⟨t0, i0, [], 0⟩, ⟨t1, i1, [], 0⟩] scope pos) 1 it acc env).onRaise (fun x => do noteFrame x env; theTreesLotGoes x)) _ _ s
  refine wpAny_noted ?_
  rw [compTurn_two1]
  refine wpAny_bind (wpAny_standAt (wpAny_bind (wpAny_mono (turn n s hI) (fun r s₁ h₁ => ?_) fun _ _ h' => h'.elim)))
  cases r with
  | none => exact wpAny_pure h₁
  | some v =>
    refine wpAny_bind (wpAny_of_eq (ht v) ?_)
    exact wpAny_bind (wpAny_mono h₁ (fun _ s₂ h₂ => wpAny_bind (wpAny_bind (wpAny_mono h₂ (fun x s₃ h₃ => wpAny_bind (wpAny_mono h₃
      (fun _ s₄ h₄ => wpAny_pure (wpAny_pure ⟨rfl, h₄⟩)) fun _ _ h' => h'.elim)) fun _ _ h' => h'.elim))) fun _ _ h' => h'.elim)
theorem comp2_start
    (h0 : codeAny (model prog w) A (.compLoop (.ListComp elt [⟨t0, i0, [], 0⟩, ⟨t1, i1, [], 0⟩] scope pos) 1 it acc env) R s)
    (h : wpAny (model prog w) A (pyIter it) (fun it' s' => codeAny (model prog w) A (.compLoop (.ListComp elt [⟨t0, i0, [], 0⟩, ⟨t1, i1, [], 0⟩] scope pos) 1 it' acc env) R s') (fun _ _ => False) s) :
    codeAny (model prog w) A (.compStart (.ListComp elt [⟨t0, i0, [], 0⟩, ⟨t1, i1, [], 0⟩] scope pos) 1 it acc env) R s := by
  refine codeAny_of_tree ?_
  show wpAny _ _ ((compStart (.ListComp elt [⟨t0, i0, [], 0⟩, ⟨t1, i1, [], 0⟩] scope pos) 1 it acc env).onRaise (fun x => do noteFrame x env; standAt theWindowsPlace)) _ _ s
  refine wpAny_notedAt ?_
  unfold compStart
  show wpAny _ _ (ask >>= _) _ _ s
  refine wpAny_bind (wpAny_askSetting (wpAny_ite ?_))
  split
  · first
      | exact wpAny_bind (wpAny_pure (wpAny_pure (And.intro rfl h0)))
      | exact wpAny_pure (And.intro rfl h0)
  · first
      | exact wpAny_bind (wpAny_rule (wpAny_bind (wpAny_standAt (wpAny_bind (wpAny_mono h (fun it' s' h' => wpAny_pure (And.intro rfl h')) fun _ _ x => x.elim)))))
      | (refine wpAny_bind (wpAny_rule ?_); show wpAny _ _ (standAt i1.pos >>= _) _ _ s; exact wpAny_bind (wpAny_standAt (wpAny_bind (wpAny_mono h (fun it' s' h' => wpAny_pure (And.intro rfl h')) fun _ _ x => x.elim))))
end
theorem news_same {h₀ h h' : Heap} {L b : Addr} {nw : List (Addr × Obj)} (hs : Heap.SameBut b h h') (N : News h₀ L h nw) (hb : ∀ p ∈ nw, p.1 ≠ b) : News h₀ L h' nw := fun p hp => ⟨hs.extBut _ _ (hb p hp) (N p hp).1, (N p hp).2⟩
noncomputable abbrev tupO (vals : Array Value) (tn : Nat) : Obj := { cls := .type "tuple", data := .seq vals tn }
@[reducible] noncomputable def ListComp_nest_S (prog : Program) (w : World) (A : Around) (E : Value → Shared → Prop) (s : Shared) (h₀ : Heap) (L : Addr) (m : Str → Option Value) (env : Env) (elt i0 : Expr) (x0 x1 : Str) (p0 p1 p2 : Pos) (scope : Scope) (cl : List (Str × Addr)) (pos : Pos) (Q : Value → Shared → Prop) (G : Value → Prop) : Prop := ∀ (F₀ : Fr h₀ L s.heap m) (hclos : closureFor scope env = pure cl) (hcell : ∀ y ∈ scope.names, y.2 ≠ .cell) (hkind : scope.kind = .function) (hnames : ∀ y ∈ scope.names, y.2 = .local → scope.names.lookup y.1 = some .local) (hx0 : scope.names.lookup x0 = some .local) (hx1 : scope.names.lookup x1 = some .local) (hdb : (x0 == ("__debug__" : Str)) = false) (hh : A.handled = none) (h : wpAny (model prog w) A (eval i0 env) (fun xv s₁ => Hold (∃ (ax : Addr) (its : Array Value) (k : Nat) (news : List (Addr × Obj)), xv = Value.ref ax ∧ its.size ≤ 10 ∧ Fr h₀ L s₁.heap m ∧ News h₀ L s₁.heap news ∧ (ax, W.listOf its k) ∈ news ∧
      (∀ (i : Nat) (v : Value), its[i]? = some v → ∃ (tp : Addr) (vals : Array Value) (tn : Nat), v = Value.ref tp ∧ (tp, tupO vals tn) ∈ news ∧ vals.size ≤ 10 ∧ ∀ (j : Nat) (u : Value), vals[j]? = some u → G u) ∧
      (∀ u C m₂ h tk (E' : Value → Shared → Prop), G u → h.Ns C m₂ → m₂ x1 = some u → Fr h₀ L h m → wpAny (model prog w) A (eval elt (compEnvC scope cl C env)) (fun y s' => y = .bool false ∧ ∃ tk', s' = { s₁ with heap := h, toks := tk' }) E' { s₁ with heap := h, toks := tk }) ∧
      (∀ ys D h tk, (∀ y ∈ ys, y = Value.bool false) → ys.length ≤ 100 → Fr h₀ L h m → News h₀ L h ((D, lst ys) :: news) → Off1 D news → Q (.ref D) { s₁ with heap := h, toks := tk }))) E s) (hs : ∀ x, foldedSetIterable i0 env x = pure x), wpAny (model prog w) A (eval (.ListComp elt [⟨.Name x0 p0, i0, [], 0⟩, ⟨.Name x1 p1, .Name x0 p2, [], 0⟩] scope pos) env) Q E s
namespace ListComp_nest_K
@[irreducible] noncomputable def pt : Cx := bad fun c => ListComp_nest_S (c.pg 0) (c.w 0) (c.ar 0) (c.qv 0) (c.sh 0) (c.h 0) (c.n 0) (c.m 0) (c.en 0) (c.ex 0) (c.ex 1) (c.st 0) (c.st 1) (c.ps 0) (c.ps 1) (c.ps 2) (c.sc 0) (c.cl 0) (c.ps 3) (c.qv 1) (c.vp 0)
@[irreducible] noncomputable def prog : Program := pt.pg 0
@[irreducible] noncomputable def w : World := pt.w 0
@[irreducible] noncomputable def A : Around := pt.ar 0
@[irreducible] noncomputable def E : Value → Shared → Prop := pt.qv 0
@[irreducible] noncomputable def h₀ : Heap := pt.h 0
@[irreducible] noncomputable def L : Addr := pt.n 0
@[irreducible] noncomputable def m : Str → Option Value := pt.m 0
@[irreducible] noncomputable def env : Env := pt.en 0
@[irreducible] noncomputable def elt : Expr := pt.ex 0
@[irreducible] noncomputable def i0 : Expr := pt.ex 1
@[irreducible] noncomputable def x0 : Str := pt.st 0
@[irreducible] noncomputable def x1 : Str := pt.st 1
@[irreducible] noncomputable def p0 : Pos := pt.ps 0
@[irreducible] noncomputable def p1 : Pos := pt.ps 1
@[irreducible] noncomputable def p2 : Pos := pt.ps 2
@[irreducible] noncomputable def scope : Scope := pt.sc 0
@[irreducible] noncomputable def cl : List (Str × Addr) := pt.cl 0
@[irreducible] noncomputable def pos : Pos := pt.ps 3
@[irreducible] noncomputable def Q : Value → Shared → Prop := pt.qv 1
theorem main : ListComp_nest_S prog w A E (pt.sh 0) h₀ L m env elt i0 x0 x1 p0 p1 p2 scope cl pos Q (pt.vp 0) := by
  intro F₀ hclos hcell hkind hnames hx0 hx1 hdb hh h hs
  rw [eval_ListComp]
  refine wpAny_comprehension_free (use := none) rfl hs hclos hkind hnames (wpAny_mono h (fun xv s₁ h₁ => ?_) fun _ _ e => e)
  refine Classical.byContradiction fun hG0 => ?_
  refine exE4 h₁ ?_
  try clear h₁
  rintro ax its k news hJ0
  refine anE8 hJ0 ?_
  try clear hJ0
  rintro rfl hsz F N hax hits helt fin
  refine hG0 ?_
  clear hG0
  have hL0 := (N _ hax).1
  refine wpAny_pyIter_list ⟨_, hL0, rfl, _, rfl⟩ ?_
  have hL1 : @LT.lt Nat _ L s₁.heap.objs.size := F.ns.lt
  obtain ⟨I, eI⟩ : ∃ I, s₁.heap.objs.size = I := ⟨_, rfl⟩
  have F1 := F.push { cls := .type "list_iterator", data := .fields #[.ref ax, .int 0 0] }
  have N1 := N.push F { cls := .type "list_iterator", data := .fields #[.ref ax, .int 0 0] } rfl
  have z1 : (s₁.heap.push { cls := .type "list_iterator", data := .fields #[.ref ax, .int 0 0] }).objs.size = I + 1 := by rw [Heap.size_push, eI]
  have old : ∀ p ∈ news, @LT.lt Nat _ p.1 I := fun p hp => eI ▸ Heap.lt_size (N p hp).1
  have n0 : ∀ b, @LE.le Nat _ I b → h₀.get? b = none := fun b hb => Heap.get?_none_of_le (Nat.le_trans F.above (Nat.le_of_lt (Nat.lt_of_lt_of_le hL1 (eI ▸ hb))))
  rw [eI] at N1 hL1 ⊢
  generalize s₁.heap.push { cls := .type "list_iterator", data := .fields #[.ref ax, .int 0 0] } = H1 at *
  refine wpAny_newObj_type (wpAny_newFunctionEnv hcell (by intro y hy; simp at hy) (fun h₂ hns₂ hsb₂ => ?_) hkind)
  have F2 := F1.push (lst [])
  have N2 := N1.push F1 (lst []) rfl
  rw [z1] at N2
  have z2 : (H1.push (lst [])).objs.size = I + 1 + 1 := by rw [Heap.size_push, z1]
  dsimp only at hns₂ hsb₂ ⊢
  rw [show (H1.push { cls := .type "list", dict := none, data := .seq ([] : List Value).toArray }) = H1.push (lst []) from rfl] at hns₂ hsb₂ ⊢
  rw [z2] at hns₂ hsb₂
  rw [z1, z2]
  have up : ∀ b o, (H1.push (lst [])).get? b = some o → h₂.get? b = some o := fun b o e => hsb₂.extBut b o (Nat.ne_of_lt (z2 ▸ Heap.lt_size e)) (Heap.get?_push_of_some _ e)
  have F3 : Fr h₀ L h₂ m := ⟨F2.ns.at' fun o e => up _ _ e, fun b o e => up _ _ (F2.keep b o e), F2.above⟩
  have N3 : News h₀ L h₂ ((I + 1, lst []) :: (I, { cls := .type "list_iterator", data := .fields #[.ref ax, .int 0 0] }) :: news) := fun p hp => ⟨up _ _ (N2 p hp).1, (N2 p hp).2⟩
  have hC0 : h₀.get? (I + 1 + 1) = none := n0 _ (by omega)
  have hCL : @Ne Nat (I + 1 + 1) L := by omega
  clear hsb₂ up F1 F2 N1 N2
  have loop : ∀ s₃ : Shared, s₃ = { s₁ with heap := h₂, toks := s₁.toks + ([] : List (Str × Value)).length } →
      codeAny (model prog w) A (.compLoop (.ListComp elt [⟨.Name x0 p0, i0, [], 0⟩, ⟨.Name x1 p1, .Name x0 p2, [], 0⟩] scope pos) 0 (.ref I) (.ref (I + 1)) (compEnvC scope cl (I + 1 + 1) env))
        (compPost (model prog w) A E none Q (.ref (I + 1)) (I + 1 + 1)) s₃ := by
    rintro s₃ rfl
    refine comp2_outer
      (fun k s' => ∃ h tk i ys m' oI, s' = { s₁ with heap := h, toks := tk } ∧ i ≤ its.size ∧ k = its.size + 1 - i ∧ ys.length ≤ 10 * i ∧ (∀ y ∈ ys, y = Value.bool false) ∧ Fr h₀ L h m ∧ h.Ns (I + 1 + 1) m' ∧ oI.cls = .type "list_iterator" ∧ oI.data = .fields #[.ref ax, .int i 0] ∧
        News h₀ L h ((I + 1, lst ys) :: (I, oI) :: news)) ?_ (its.size + 1)
      (xI6 h₂ _ 0 [] _ _ ⟨rfl, Nat.zero_le _, rfl, Nat.zero_le _, fun y hy => (nomatch hy), F3, hns₂, rfl, rfl, N3⟩)
    rintro k' s' hJ0
    refine Classical.byContradiction fun hG0 => ?_
    refine exE6 hJ0 ?_
    try clear hJ0
    rintro h tk i ys m' oI hJ0
    refine anE10 hJ0 ?_
    try clear hJ0
    rintro rfl hi rfl hyl hyf F' hn' hIc hId N'
    refine hG0 ?_
    clear hG0
    have hD' := N' _ (.head _)
    have hI' := N' _ (.tail _ (.head _))
    have hAx : h.IsList ax its := ⟨_, (N' _ (.tail _ (.tail _ hax))).1, rfl, _, rfl⟩
    have hit : h.IsListIter I ax i := ⟨_, hI'.1, hIc, hId⟩
    by_cases hlt : i < its.size
    · refine wpAny_pyNext_list_item hit hAx (x := its[i]) (by simp [hlt]) (fun h3 hit3 hs3 => ?_)
      obtain ⟨oI3, eI3, cI3, dI3⟩ := hit3
      have offI : ∀ p ∈ (I + 1, lst ys) :: news, p.1 ≠ I := fun p hp => by
        refine mem_cs hp ?_ fun hp => ?_
        · show @Ne Nat (I + 1) I; omega
        · exact Nat.ne_of_lt (old p hp)
      have offC : ∀ p ∈ (I + 1, lst ys) :: (I, oI3) :: news, p.1 ≠ I + 1 + 1 := fun p hp => by
        refine mem_cs hp ?_ fun hp => ?_
        · show @Ne Nat (I + 1) (I + 1 + 1); omega
        · refine mem_cs hp ?_ fun hp => ?_
          · show @Ne Nat I (I + 1 + 1); omega
          · have := old p hp
            exact Nat.ne_of_lt (Nat.lt_of_lt_of_le this (by show @LE.le Nat _ I _; omega))
      have F4 := F'.change hs3 hI'.2.1 hI'.2.2
      have hn4 := hn'.sameBut hs3 (show @Ne Nat (I + 1 + 1) I by omega)
      have N4 : News h₀ L h3 ((I + 1, lst ys) :: (I, oI3) :: news) := fun p hp => by
        refine mem_cs hp ?_ fun hp => ?_
        · exact news_same hs3 (nw := (I + 1, lst ys) :: news) (fun p hp => N' p (by refine mem_cs hp ?_ fun hp => ?_; exact .head _; exact .tail _ (.tail _ hp))) offI _ (.head _)
        · refine mem_cs hp ?_ fun hp => ?_
          · exact ⟨eI3, hI'.2⟩
          · exact news_same hs3 (nw := (I + 1, lst ys) :: news) (fun p hp => N' p (by refine mem_cs hp ?_ fun hp => ?_; exact .head _; exact .tail _ (.tail _ hp))) offI _ (.tail _ hp)
      refine wpAny_assign_Name (wpAny_storeName_local (lookup_relabel_local hx0) hn4 (fun h4 hn5 hs4 => ?_) (by simp [compEnvC, relabel, hkind]))
      have F5 := F4.change hs4 hCL hC0
      have N5 := news_same hs4 N4 offC
      refine wpAny_Name (wpAny_loadName_local hkind (lookup_relabel_local hx0) hn5 (v := its[i]) (by simp) ?_) hdb
      obtain ⟨tp, vals, tn, ev, mt, hvs, hG⟩ := hits i its[i] (by simp [hlt])
      rw [ev]
      have hTp := (N5 _ (.tail _ (.tail _ mt))).1
      refine wpAny_pyIter_tuple ⟨_, hTp, rfl, _, rfl⟩ ?_
      have lt5 : ∀ b o, h4.get? b = some o → @LT.lt Nat _ b h4.objs.size := fun b o e => Heap.lt_size e
      have ltC : @LT.lt Nat _ (I + 1 + 1) h4.objs.size := hn5.lt
      have F6 := F5.push { cls := .type "tuple_iterator", data := .fields #[.ref tp, .int 0 0] }
      have N6 := N5.push F5 { cls := .type "tuple_iterator", data := .fields #[.ref tp, .int 0 0] } rfl
      have hn6 := hn5.at' (h' := h4.push { cls := .type "tuple_iterator", data := .fields #[.ref tp, .int 0 0] }) fun o e => Heap.get?_push_of_some _ e
      have hJ0 : h₀.get? h4.objs.size = none := n0 _ (by omega)
      have oldJ : ∀ p ∈ (I + 1, lst ys) :: (I, oI3) :: news, @LT.lt Nat _ p.1 h4.objs.size := fun p hp => lt5 _ _ (N5 p hp).1
      dsimp only
      generalize h4.objs.size = J at *
      generalize h4.push { cls := .type "tuple_iterator", data := .fields #[.ref tp, .int 0 0] } = H4 at *
      have inner : ∀ s₄ : Shared, (∃ tk, s₄ = { s₁ with heap := H4, toks := tk }) →
          codeAny (model prog w) (A.mark none) (.compLoop (.ListComp elt [⟨.Name x0 p0, i0, [], 0⟩, ⟨.Name x1 p1, .Name x0 p2, [], 0⟩] scope pos) 1 (.ref J) (.ref (I + 1)) (compEnvC scope cl (I + 1 + 1) env))
            (fun r s₅ => match r with | .ok _ => (∃ m0, m0 < its.size + 1 - i ∧ ∃ h tk i ys m' oI, s₅ = { s₁ with heap := h, toks := tk } ∧ i ≤ its.size ∧ m0 = its.size + 1 - i ∧ ys.length ≤ 10 * i ∧ (∀ y ∈ ys, y = Value.bool false) ∧ Fr h₀ L h m ∧ h.Ns (I + 1 + 1) m' ∧ oI.cls = .type "list_iterator" ∧ oI.data = .fields #[.ref ax, .int i 0] ∧
              News h₀ L h ((I + 1, lst ys) :: (I, oI) :: news)) | .error _ => False) s₄ := by
        rintro s₄ ⟨tk4, rfl⟩
        show codeAny (model prog w) A _ _ _
        refine comp2_inner
          (fun k s' => ∃ h tk j zs m' oJ, s' = { s₁ with heap := h, toks := tk } ∧ j ≤ vals.size ∧ k = vals.size + 1 - j ∧ zs.length ≤ 10 * i + j ∧ (∀ y ∈ zs, y = Value.bool false) ∧ Fr h₀ L h m ∧ h.Ns (I + 1 + 1) m' ∧ oJ.cls = .type "tuple_iterator" ∧ oJ.data = .fields #[.ref tp, .int j 0] ∧
            News h₀ L h ((I + 1, lst zs) :: (J, oJ) :: (I, oI3) :: news)) ?_ (vals.size + 1)
          ⟨H4, _, 0, ys, _, { cls := .type "tuple_iterator", data := .fields #[.ref tp, .int 0 0] }, rfl, Nat.zero_le _, rfl, by omega, hyf, F6, hn6, rfl, rfl, fun p hp => N6 p (by
            simp only [List.mem_cons] at hp ⊢
            rcases hp with h | h | h | h <;> simp [h])⟩
        rintro k5 s5 hJ0
        refine Classical.byContradiction fun hG0 => ?_
        refine exE6 hJ0 ?_
        try clear hJ0
        rintro h5 tk5 j zs m5 oJ hJ0
        refine anE10 hJ0 ?_
        try clear hJ0
        rintro rfl hj rfl hzl hzf F7 hn7 hJc hJd N7
        refine hG0 ?_
        clear hG0
        have hD7 := N7 _ (.head _)
        have hJ7 := N7 _ (.tail _ (.head _))
        have hT7 : h5.IsTuple tp vals := ⟨_, (N7 _ (.tail _ (.tail _ (.tail _ mt)))).1, rfl, _, rfl⟩
        have hit7 : h5.IsTupleIter J tp j := ⟨_, hJ7.1, hJc, hJd⟩
        have oI' : ∀ p ∈ (I + 1, lst zs) :: (I, oI3) :: news, @LT.lt Nat _ p.1 J ∧ p ∈ (I + 1, lst zs) :: (J, oJ) :: (I, oI3) :: news := fun p hp => by
          refine mem_cs hp ?_ fun hp => ?_
          · exact ⟨oldJ (I + 1, lst ys) (.head _), .head _⟩
          · exact ⟨oldJ p (.tail _ hp), .tail _ (.tail _ hp)⟩
        by_cases hjl : j < vals.size
        · refine wpAny_pyNext_tuple_item hit7 hT7 (x := vals[j]) (by simp [hjl]) (fun h6 hit6 hs6 => ?_)
          obtain ⟨oJ6, eJ6, cJ6, dJ6⟩ := hit6
          have F8 := F7.change hs6 hJ7.2.1 hJ7.2.2
          have hn8 := hn7.sameBut hs6 (show @Ne Nat (I + 1 + 1) J by omega)
          have N8 : News h₀ L h6 ((I + 1, lst zs) :: (I, oI3) :: news) := news_same hs6 (fun p hp => N7 p (oI' p hp).2) fun p hp => Nat.ne_of_lt (oI' p hp).1
          refine wpAny_assign_Name (wpAny_storeName_local (lookup_relabel_local hx1) hn8 (fun h7 hn9 hs7 => ?_) (by simp [compEnvC, relabel, hkind]))
          have F9 := F8.change hs7 hCL hC0
          have N9 := news_same hs7 N8 (fun p hp => by
            refine mem_cs hp ?_ fun hp => ?_
            · show @Ne Nat (I + 1) (I + 1 + 1); omega
            · refine mem_cs hp ?_ fun hp => ?_
              · show @Ne Nat I (I + 1 + 1); omega
              · have := old p hp
                show @Ne Nat p.1 (I + 1 + 1)
                exact Nat.ne_of_lt (Nat.lt_of_lt_of_le this (by show @LE.le Nat _ I _; omega)))
          have eJ7 : h7.get? J = some oJ6 := hs7.extBut _ _ (show @Ne Nat J (I + 1 + 1) by omega) eJ6
          refine wpAny_mono (helt vals[j] (I + 1 + 1) _ h7 _ _ (hG j vals[j] (by simp [hjl])) hn9 (by simp) F9) (fun y s6 hq => ?_) fun _ _ e => e
          obtain ⟨rfl, tk6, rfl⟩ := hq
          refine append_at (hsz := by show zs.toArray.size ≤ sizeLine; rw [List.size_toArray, sizeLine_eq]; omega) (N9 _ (.head _)).1 fun h8 hs8 hD8 => ?_
          refine ⟨vals.size + 1 - (j + 1), by omega, h8, _, j + 1, zs ++ [.bool false], _, oJ6, rfl, hjl, rfl, by rw [List.length_append, List.length_singleton]; omega, fun y hy => ?_, F9.change hs8 hD7.2.1 hD7.2.2, hn9.sameBut hs8 (show @Ne Nat (I + 1 + 1) (I + 1) by omega), cJ6, dJ6, fun p hp => ?_⟩
          · rcases List.mem_append.mp hy with hy | hy
            · exact hzf y hy
            · exact List.mem_singleton.mp hy
          · refine mem_cs hp ?_ fun hp => ?_
            · exact ⟨hD8.trans (congrArg some (lst_snoc zs _)), hD7.2⟩
            · refine mem_cs hp ?_ fun hp => ?_
              · exact ⟨hs8.extBut _ _ (show @Ne Nat J (I + 1) by omega) eJ7, hJ7.2⟩
              · have hpD : @Ne Nat p.1 (I + 1) := by
                  refine mem_cs hp ?_ fun hp => ?_
                  · show @Ne Nat I (I + 1); omega
                  · have := old p hp
                    exact Nat.ne_of_lt (Nat.lt_of_lt_of_le this (by show @LE.le Nat _ I _; omega))
                exact ⟨hs8.extBut _ _ hpD (N9 p (.tail _ hp)).1, (N9 p (.tail _ hp)).2⟩
        · obtain rfl : j = vals.size := Nat.le_antisymm hj (Nat.not_lt.mp hjl)
          refine wpAny_pyNext_tuple_end hh hit7 hT7 (by simp) fun h6 he6 => ?_
          refine ⟨its.size + 1 - (i + 1), by omega, h6, _, i + 1, zs, _, oI3, rfl, hlt, rfl, by omega, hzf, ⟨F7.ns.at' fun o e => he6 _ _ (show @Ne Nat L J from hJ7.2.1.symm) e, fun b o e => he6 _ _ (fun q => by rw [q, hJ7.2.2] at e; cases e) (F7.keep b o e), F7.above⟩, hn7.at' fun o e => he6 _ _ (show @Ne Nat (I + 1 + 1) J by omega) e, cI3, dI3, fun p hp => ⟨he6 _ _ (Nat.ne_of_lt (oI' p hp).1) (N7 p (oI' p hp).2).1, (N7 p (oI' p hp).2).2⟩⟩
      refine comp2_start (inner _ ⟨_, rfl⟩) (wpAny_pyIter_tupleiter ⟨_, (N6 _ (.head _)).1, rfl, rfl⟩ (inner _ ⟨_, rfl⟩))
    · obtain rfl : i = its.size := Nat.le_antisymm hi (Nat.not_lt.mp hlt)
      refine wpAny_pyNext_list_end hh hit hAx (by simp) fun h3 he3 => ?_
      have up3 : ∀ p ∈ (I + 1, lst ys) :: news, h3.get? p.1 = some p.2 ∧ p.1 ≠ L ∧ h₀.get? p.1 = none ∧ @Ne Nat p.1 (I + 1 + 1) := fun p hp => by
        refine mem_cs hp ?_ fun hp => ?_
        · exact ⟨he3 _ _ (show @Ne Nat (I + 1) I by omega) hD'.1, hD'.2.1, hD'.2.2, by show @Ne Nat (I + 1) (I + 1 + 1); omega⟩
        · have q := N' p (.tail _ (.tail _ hp))
          have := old p hp
          exact ⟨he3 _ _ (Nat.ne_of_lt (old p hp)) q.1, q.2.1, q.2.2, Nat.ne_of_lt (Nat.lt_of_lt_of_le this (Nat.le_add_right I 2))⟩
      have F7 : Fr h₀ L h3 m := ⟨F'.ns.at' fun o e => he3 _ _ (show @Ne Nat L I from hI'.2.1.symm) e, fun b o e => he3 _ _ (fun q => by rw [q, hI'.2.2] at e; cases e) (F'.keep b o e), F'.above⟩
      refine ⟨_, hn'.at' fun o e => he3 _ _ (show @Ne Nat (I + 1 + 1) I by omega) e, fun h4 hs4 => ?_⟩
      refine fin ys (I + 1) h4 tk hyf (by omega) (F7.change hs4 hCL hC0) (fun p hp => ⟨hs4.extBut _ _ (up3 p hp).2.2.2 (up3 p hp).1, (up3 p hp).2.1, (up3 p hp).2.2.1⟩) ?_
      have key : ∀ l : List (Addr × Obj), (∀ p ∈ l, @LT.lt Nat _ p.1 I) → Off1 (I + 1) l := fun l => by
        induction l with
        | nil => exact fun _ => trivial
        | cons a r ih => exact fun h => ⟨Nat.ne_of_lt (Nat.lt_succ_of_lt (h a (.head _))), ih fun p hp => h p (.tail _ hp)⟩
      exact key news old
  refine codeAny_compStart_list (loop _ rfl) (wpAny_pyIter_listiter ⟨_, (N3 _ (.tail _ (.head _))).1, rfl, rfl⟩ (loop _ rfl))
end ListComp_nest_K
theorem ListComp_nest {prog : Program} {w : World} {A : Around} {E : Value → Shared → Prop} {s : Shared} {h₀ : Heap} {L : Addr} {m : Str → Option Value} {env : Env}
    {elt i0 : Expr} {x0 x1 : Str} {p0 p1 p2 : Pos} {scope : Scope} {cl : List (Str × Addr)} {pos : Pos} {Q : Value → Shared → Prop} {G : Value → Prop} (F₀ : Fr h₀ L s.heap m)
    (hclos : closureFor scope env = pure cl) (hcell : ∀ y ∈ scope.names, y.2 ≠ .cell) (hkind : scope.kind = .function)
    (hnames : ∀ y ∈ scope.names, y.2 = .local → scope.names.lookup y.1 = some .local) (hx0 : scope.names.lookup x0 = some .local) (hx1 : scope.names.lookup x1 = some .local) (hdb : (x0 == ("__debug__" : Str)) = false) (hh : A.handled = none)
    (h : wpAny (model prog w) A (eval i0 env) (fun xv s₁ => Hold (∃ (ax : Addr) (its : Array Value) (k : Nat) (news : List (Addr × Obj)), xv = Value.ref ax ∧ its.size ≤ 10 ∧ Fr h₀ L s₁.heap m ∧ News h₀ L s₁.heap news ∧ (ax, W.listOf its k) ∈ news ∧
      (∀ (i : Nat) (v : Value), its[i]? = some v → ∃ (tp : Addr) (vals : Array Value) (tn : Nat), v = Value.ref tp ∧ (tp, tupO vals tn) ∈ news ∧ vals.size ≤ 10 ∧ ∀ (j : Nat) (u : Value), vals[j]? = some u → G u) ∧
      (∀ u C m₂ h tk (E' : Value → Shared → Prop), G u → h.Ns C m₂ → m₂ x1 = some u → Fr h₀ L h m → wpAny (model prog w) A (eval elt (compEnvC scope cl C env)) (fun y s' => y = .bool false ∧ ∃ tk', s' = { s₁ with heap := h, toks := tk' }) E' { s₁ with heap := h, toks := tk }) ∧
      (∀ ys D h tk, (∀ y ∈ ys, y = Value.bool false) → ys.length ≤ 100 → Fr h₀ L h m → News h₀ L h ((D, lst ys) :: news) → Off1 D news → Q (.ref D) { s₁ with heap := h, toks := tk }))) E s)
    (hs : ∀ x, foldedSetIterable i0 env x = pure x := by intro _; rfl) :
    wpAny (model prog w) A (eval (.ListComp elt [⟨.Name x0 p0, i0, [], 0⟩, ⟨.Name x1 p1, .Name x0 p2, [], 0⟩] scope pos) env) Q E s := by
  have h9 : ListComp_nest_S prog w A E s h₀ L m env elt i0 x0 x1 p0 p1 p2 scope cl pos Q G := @by_bad (fun c => ListComp_nest_S (c.pg 0) (c.w 0) (c.ar 0) (c.qv 0) (c.sh 0) (c.h 0) (c.n 0) (c.m 0) (c.en 0) (c.ex 0) (c.ex 1) (c.st 0) (c.st 1) (c.ps 0) (c.ps 1) (c.ps 2) (c.sc 0) (c.cl 0) (c.ps 3) (c.qv 1) (c.vp 0)) (by with_unfolding_all exact ListComp_nest_K.main) { cx0 with n := fromL (0) [L], st := fromL (Str.empty) [x0, x1], m := fromL (fun _ => none) [m], sh := fromL ({}) [s], h := fromL ({}) [h₀], ar := fromL (aroundZ) [A], w := fromL (worldZ) [w], qv := fromL (fun _ _ => True) [E, Q], sc := fromL (default) [scope], cl := fromL ([]) [cl], pg := fromL (Challenge.rw_st0007_01.prog) [prog], ex := fromL (.Constant .none 0 default) [elt, i0], ps := fromL (default) [p0, p1, p2, pos], vp := fromL (fun _ => True) [G], en := fromL (envOf Str.empty ⟨.function, [], false, false, []⟩ 0 0 .none) [env] }
  exact h9 F₀ hclos hcell hkind hnames hx0 hx1 hdb hh h hs
end
section
open PySem.SeqAt
theorem booked_none {w : World} {h₀ h : Heap} (X : (KX w.params).In h₀) (hk : ∀ b o, h₀.get? b = some o → h.get? b = some o) : NoneBooked h := by
  have h2 := hk 2 _ (X 2 _ rfl)
  exact ⟨_, ⟨_, _, _, h2, rfl, fun e he => by simp at he, fun _ => rfl⟩, rfl⟩
noncomputable abbrev selfEq (x : UInt64) : Prop := (Float64.cmp x x == some Ordering.eq) = true
theorem isSame_flt {M : Model} {A : Around} {E : Value → Shared → Prop} {s : Shared} {y z : UInt64} {u v : Tok} {Q : Bool → Shared → Prop}
    (h0 : (u == 0 || v == 0) = false) (hb : NoneBooked s.heap) (hq : ∀ b, Q b s) : wpAny M A (isSame (.float y u) (.float z v)) Q E s := by
  show wpAny M A (isSame.created (y == z && !Float64.isNaN y) u v) Q E s
  unfold isSame.created
  refine wpAny_ite ?_
  split
  · rename_i h; rw [h0] at h; exact absurd h Bool.false_ne_true
  refine wpAny_ite ?_
  split
  · exact wpAny_pure (hq _)
  refine wpAny_ite ?_
  split
  · exact wpAny_pure (hq _)
  refine wpAny_bind (wpAny_sharingNotTold_none hb ?_)
  first | rw [if_neg Bool.false_ne_true] | simp only [Bool.false_eq_true, if_false]
  refine wpAny_bind (wpAny_sharingNotTold_none hb ?_)
  first | rw [if_neg Bool.false_ne_true] | simp only [Bool.false_eq_true, if_false]
  exact wpAny_bind (wpAny_rule (wpAny_bind (wpAny_askSetting (wpAny_pure (hq _)))))
theorem EqAt_flt {A : Around} {s : Shared} {x : UInt64} {t u : Tok} (h : selfEq x) (h0 : t ≠ 0) (h1 : u ≠ 0) (hb : NoneBooked s.heap) : EqAt A s (.float x t) (.float x u) true := fun prog w E Q hq => by
  unfold eqBool
  refine wpAny_holding ?_
  refine wpAny_ite_split (fun _ => ?_) (fun _ => ?_)
  · exact wpAny_bind (wpAny_rule (wpAny_pure hq))
  · refine wpAny_bind (isSame_flt (by simp [h0, h1]) hb fun b => ?_)
    cases b with
    | true => exact wpAny_pure hq
    | false =>
      refine wpAny_bind ?_
      have key : ∀ (Q' : Value → Shared → Prop), Q' (.bool true) s → wpAny (model prog w) A (compareOp .Eq (.float x t) (.float x u)) Q' E s := fun Q' h' => AutoFloatOps.eq_0 (by rw [show (Float64.cmp x x == some Ordering.eq) = true from h]; exact h')
      exact key (fun v s => wpAny (model prog w) A (truthOfDropped v) Q E s) (wpAny_truthy_bool hq)
section
variable {prog : Program} {w : World} {A : Around} {E : Value → Shared → Prop} {s : Shared} {a b : Addr} {x y z : UInt64} {t1 t2 t3 u1 u2 u3 : Tok} {Q : Value → Shared → Prop}
theorem flt3 (hx : selfEq x) (hy : selfEq y) (hz : selfEq z) (ht : t1 ≠ 0 ∧ t2 ≠ 0 ∧ t3 ≠ 0) (hu : u1 ≠ 0 ∧ u2 ≠ 0 ∧ u3 ≠ 0) (hb : NoneBooked s.heap) : ∀ j (h1 : j < (#[Value.float x t1, .float y t2, .float z t3] : Array Value).size) (h2 : j < (#[Value.float x u1, .float y u2, .float z u3] : Array Value).size),
    EqAt A s (#[Value.float x t1, .float y t2, .float z t3] : Array Value)[j] (#[Value.float x u1, .float y u2, .float z u3] : Array Value)[j] true
  | 0, _, _ => EqAt_flt hx ht.1 hu.1 hb
  | 1, _, _ => EqAt_flt hy ht.2.1 hu.2.1 hb
  | 2, _, _ => EqAt_flt hz ht.2.2 hu.2.2 hb
theorem ne_flt3 (ha : s.heap.IsTuple a #[.float x t1, .float y t2, .float z t3]) (hb : s.heap.IsTuple b #[.float x u1, .float y u2, .float z u3]) (hx : selfEq x) (hy : selfEq y) (hz : selfEq z) (ht : t1 ≠ 0 ∧ t2 ≠ 0 ∧ t3 ≠ 0) (hu : u1 ≠ 0 ∧ u2 ≠ 0 ∧ u3 ≠ 0) (hbk : NoneBooked s.heap) (hcu : A.units < cLine)
    (h : Q (.bool false) s) : wpAny (model prog w) A (compareOp .NotEq (.ref a) (.ref b)) Q E s :=
  RcNeAt.tuples ha hb hcu (e := fun _ => true) (flt3 hx hy hz ht hu hbk) prog w E Q h
theorem eqAt_flt3 (ha : s.heap.IsTuple a #[.float x t1, .float y t2, .float z t3]) (hb : s.heap.IsTuple b #[.float x u1, .float y u2, .float z u3]) (hx : selfEq x) (hy : selfEq y) (hz : selfEq z) (ht : t1 ≠ 0 ∧ t2 ≠ 0 ∧ t3 ≠ 0) (hu : u1 ≠ 0 ∧ u2 ≠ 0 ∧ u3 ≠ 0) (hbk : NoneBooked s.heap) (hcu : A.units < cLine) (hne : a ≠ b) :
    EqAt A s (.ref a) (.ref b) true := EqAt.of_refs hne (RcAt.tuples ha hb hcu (e := fun _ => true) (flt3 hx hy hz ht hu hbk))
end
end
section
noncomputable abbrev ciObj (q : Addr) (ts : Tok) : Obj := { cls := .type "callable_iterator", data := .fields #[.ref q, .str (Str.ofString "") ts, .bool false] }
noncomputable abbrev ciEnd : Obj := { cls := .type "callable_iterator", data := .fields #[.none, .none, .bool true] }
theorem ci_entry_iter : entryFor table "iter" = some Builtin.«iter» := entryFor_of_fast (by kernel_rfl)
theorem ci_args_iter (a b : Value) : argsOk "iter" ⟨[a, b], []⟩ := by unfold argsOk; kernel_rfl
theorem meth_call : ∃ r, typeLookup (.type "method") "__call__" = pure (some r) := ⟨.builtin "method.__call__", by rw [typeLookup_type, builtinLookup_eq_fast]; kernel_rfl⟩
theorem slot_ci_next : Slot "callable_iterator" "__next__" "callable_iterator.__next__" :=
  .of (owner := "callable_iterator") (n := "__next__") (by rw [typeLookup_type, builtinLookup_eq_fast]; kernel_rfl) (by decide +kernel) (by decide +kernel) (by decide +kernel)
    (by first | exact .inl (by decide +kernel) | exact .inr (by decide +kernel)) (by rw [isSubtype_type]; kernel_rfl)
theorem entry_ci_next : entryFor table "callable_iterator.__next__" = some Builtin.«callable_iterator.__next__» := entryFor_of_tree (by kernel_rfl)
theorem args_ci_next (a : Value) : argsOk "callable_iterator.__next__" ⟨[a], []⟩ := by unfold argsOk; kernel_rfl
section
variable {prog : Program} {w : World} {A : Around} {h₀ : Heap} {L I q f : Addr} {m : Str → Option Value} {s : Shared} {E : Value → Shared → Prop} {news : List (Addr × Obj)} {x : Value}
theorem iter2_call {t : Tok} {Q : Value → Shared → Prop} (F : Fr h₀ L s.heap m) (N : News h₀ L s.heap news) (hq : (q, methodObj (.ref f) x) ∈ news)
    (h : ∀ (I : Addr) h', Fr h₀ L h' m → News h₀ L h' ((I, ciObj q t) :: news) → (∀ p ∈ news, p.1 < I) → Q (.ref I) { s with heap := h' }) :
    wpAny (model prog w) A (call (.builtin "iter") [.ref q, .str (Str.ofString "") t]) Q E s := by
  refine call_function_entry (by decide +kernel) (by decide +kernel) ci_entry_iter (ci_args_iter _ _) ?_
  unfold Builtin.«iter»
  refine wpAny_bind (m := someArgs "iter" 1 2 _) (wpAny_of_eq (a := [Value.ref q, .str (Str.ofString "") t]) (by first | rfl | kernel_rfl!) ?_)
  dsimp only
  obtain ⟨r, hr⟩ := meth_call
  refine wpAny_bind (wpAny_specialOf ⟨_, (N _ hq).1, rfl⟩ hr ?_)
  refine wpAny_bind (wpAny_rule (wpAny_bind ?_))
  unfold newFields
  refine wpAny_newObj_type (wpAny_pure ⟨_, rfl, h _ _ (F.push _) (News.push F N _ rfl) (fun q hq => Heap.lt_size (N q hq).1)⟩) (by size_fits)
theorem FnAt.meth {h : Heap} (hq : h.get? q = some (methodObj (.ref f) x)) (hf : FnAt f h) {M : Model} : Looks M h (borrowsExactly (.ref q)) true := by
  obtain ⟨oc, od, fd, sl, e⟩ := hf
  intro A Q E s k z
  unfold borrowsExactly
  refine wpAny_bind (wpAny_load (k _ _ hq) ?_)
  refine wpAny_bind (wpAny_load (k _ _ e) ?_)
  exact wpAny_pure z
theorem ci_next {ts : Tok} {Q : Option Value → Shared → Prop} (hh : A.handled = none) (hI : s.heap.get? I = some (ciObj q ts)) (hq : s.heap.get? q = some (methodObj (.ref f) x)) (hf : FnAt f s.heap)
    (h : codeAny (model prog w) A.in1 (.call (.ref f) ⟨[x], []⟩) (fun r s' => ∃ c t, r = .ok (.ret (.str c t)) ∧ s'.heap.get? I = some (ciObj q ts) ∧ s'.heap.get? q = some (methodObj (.ref f) x) ∧ FnAt f s'.heap ∧
      (c ≠ Str.ofString "" → Q (some (.str c t)) s') ∧ (c = Str.ofString "" → ∀ h', (∀ {h₀ : Heap} {L : Addr} {m : Str → Option Value} {news : List (Addr × Obj)}, Fr h₀ L s'.heap m → News h₀ L s'.heap ((I, ciObj q ts) :: news) → (∀ p ∈ news, p.1 ≠ I) →
        Fr h₀ L h' m ∧ News h₀ L h' ((I, ciEnd) :: news)) → Q none { s' with heap := h' })) s) :
    wpAny (model prog w) A (pyNext (.ref I)) Q E s := by
  have hT : s.TypeIs (.ref I) "callable_iterator" := ⟨_, hI, rfl⟩
  unfold pyNext
  refine wpAny_bind (wpAny_attempt (wpAny_callSpecial?_slot (name := Str.ofString "__next__") hT slot_ci_next
    (wpAny_call_entry slot_ci_next hT entry_ci_next ?_ (args_ci_next _))))
  unfold Builtin.«callable_iterator.__next__»
  refine wpAny_bind (wpAny_pure ?_)
  refine wpAny_bind (wpAny_field hI rfl (x := .bool false) rfl ?_)
  dsimp only
  rw [if_neg (show ¬ ((Value.bool false == Value.bool true) = true) by decide)]
  refine wpAny_bind (wpAny_field hI rfl (x := .ref q) rfl (wpAny_bind (wpAny_attempt ?_)))
  unfold callOutOfASlot
  refine wpAny_bind ((FnAt.meth hq hf).here ?_)
  rw [if_pos rfl]
  unfold callBorrowed
  refine X.x_call (ks_codeAny_call_bound hq (codeAny_mono h fun r s' z => ?_)) (by decide)
  refine Classical.byContradiction fun hG0 => ?_
  refine exE2 z ?_
  try clear z
  rintro c t hJ0
  refine anE6 hJ0 ?_
  try clear hJ0
  rintro rfl hI' hq' hf' z1 z2
  refine hG0 ?_
  clear hG0
  refine wpAny_pure ?_
  dsimp only
  refine wpAny_bind (wpAny_field hI' rfl (x := .bool false) rfl ?_)
  rw [if_neg (show ¬ ((Value.bool false == Value.bool true) = true) by decide)]
  refine wpAny_bind (wpAny_field hI' rfl (x := .str (Str.ofString "") ts) rfl ?_)
  refine wpAny_bind (wpAny_holding (wpAny_eqBool_str ?_))
  by_cases hc : Str.ofString "" = c
  · rw [decide_eq_true hc]
    refine wpAny_bind (wpAny_rule ?_)
    refine wpAny_bind (wpAny_bind (wpAny_field hI' rfl (x := .ref q) rfl ?_))
    unfold slotLetsGo
    refine wpAny_bind (wpAny_bind ((FnAt.meth hq' hf').here (wpAny_pure ?_)))
    refine wpAny_bind (wpAny_setField_rec hI' (by simp) fun h1 g1 b1 => ?_)
    refine wpAny_bind (wpAny_setField_rec g1 (by simp) fun h2 g2 b2 => ?_)
    refine wpAny_setField_rec g2 (by simp) fun h3 g3 b3 => ?_
    have b13 : Heap.SameBut I s'.heap h3 := (b1.trans b2).trans b3
    show wpAny _ _ (newExc (.type "StopIteration") [] >>= _) _ _ _
    refine wpAny_bind ?_
    simp only [newExc, newTuple]
    refine wpAny_bind (wpAny_newObj_type ?_ (by size_fits))
    refine wpAny_bind (m := firstArgMember _ _) (wpAny_of_eq (a := Value.none) (by first | rfl | (simp only [firstArgMember]; rfl)) ?_)
    refine wpAny_newObj_type ?_ (by size_fits)
    simp only [raiseNew]
    refine wpAny_bind (wpAny_handled ?_)
    rw [show A.in1.handled = none from hh]
    refine wpAny_bind (wpAny_pure (wpAny_throw ?_))
    refine wpAny_bind (wpAny_isInstance (T := "StopIteration") (b := true) ⟨_, Heap.get?_push_size _ rfl, rfl⟩ isSubtype_stop ?_)
    refine wpAny_pure (z2 hc.symm _ fun {h₀ L m news} F N hn => ?_)
    have z := N (I, ciObj q ts) (.head _)
    have F3 := F.change b13 z.2.1 z.2.2
    have N3 : News h₀ L h3 ((I, ciEnd) :: news) := news_set (pre := []) N (fun _ h => nomatch h) hn b13 g3
    exact ⟨(F3.push _).push _, (N3.pushKeep _).pushKeep _⟩
  · rw [decide_eq_false hc]
    exact wpAny_pure ⟨_, rfl, wpAny_pure (z1 fun e => hc e.symm)⟩
end
end
section
theorem slot_ci_iter : Slot "callable_iterator" "__iter__" "callable_iterator.__iter__" :=
  .of (owner := "callable_iterator") (n := "__iter__") (by rw [typeLookup_type, builtinLookup_eq_fast]; kernel_rfl) (by decide +kernel) (by decide +kernel) (by decide +kernel)
    (by first | exact .inl (by decide +kernel) | exact .inr (by decide +kernel)) (by rw [isSubtype_type]; kernel_rfl)
theorem entry_ci_iter : entryFor table "callable_iterator.__iter__" = some Builtin.«dict_keyiterator.__iter__» :=
  entryFor_alias (id' := "dict_keyiterator.__iter__") (by kernel_rfl) rfl (by decide +kernel) (by kernel_rfl)
theorem args_ci_iter (a : Value) : argsOk "callable_iterator.__iter__" ⟨[a], []⟩ := by unfold argsOk; kernel_rfl
section
variable {prog : Program} {w : World} {A : Around} {I : Addr} {s : Shared} {E : Value → Shared → Prop} {env : Env}
theorem ci_pyIter {vs : Array Value} {Q : Value → Shared → Prop} (hI : s.heap.get? I = some { cls := .type "callable_iterator", data := .fields vs }) (h : Q (.ref I) s) : wpAny (model prog w) A (pyIter (.ref I)) Q E s := by
  have hT : s.TypeIs (.ref I) "callable_iterator" := ⟨_, hI, rfl⟩
  refine wpAny_pyIter_slot hT slot_ci_iter (wpAny_call_entry slot_ci_iter hT entry_ci_iter ?_ (args_ci_iter _))
  exact wpAny_pure ⟨_, rfl, "callable_iterator", _, hT, slot_ci_next.lookup, h⟩
theorem ci_over {Q : Option Value → Shared → Prop} (hh : A.handled = none) (hI : s.heap.get? I = some ciEnd)
    (h : ∀ h', (∀ {h₀ : Heap} {L : Addr} {m : Str → Option Value} {news : List (Addr × Obj)}, Fr h₀ L s.heap m → News h₀ L s.heap news → Fr h₀ L h' m ∧ News h₀ L h' news) → Q none { s with heap := h' }) :
    wpAny (model prog w) A (pyNext (.ref I)) Q E s := by
  have hT : s.TypeIs (.ref I) "callable_iterator" := ⟨_, hI, rfl⟩
  unfold pyNext
  refine wpAny_bind (wpAny_attempt (wpAny_callSpecial?_slot (name := Str.ofString "__next__") hT slot_ci_next
    (wpAny_call_entry slot_ci_next hT entry_ci_next ?_ (args_ci_next _))))
  unfold Builtin.«callable_iterator.__next__»
  refine wpAny_bind (wpAny_pure ?_)
  refine wpAny_bind (wpAny_field hI rfl (x := .bool true) rfl ?_)
  dsimp only
  rw [if_pos (show (Value.bool true == Value.bool true) = true by decide)]
  refine wpAny_bind (wpAny_rule ?_)
  refine wpAny_bind ?_
  show wpAny _ _ (newExc (.type "StopIteration") [] >>= _) _ _ _
  refine wpAny_bind ?_
  simp only [newExc, newTuple]
  refine wpAny_bind (wpAny_newObj_type ?_ (by size_fits))
  refine wpAny_bind (m := firstArgMember _ _) (wpAny_of_eq (a := Value.none) (by first | rfl | (simp only [firstArgMember]; rfl)) ?_)
  refine wpAny_newObj_type ?_ (by size_fits)
  simp only [raiseNew]
  refine wpAny_bind (wpAny_handled ?_)
  rw [show A.in1.handled = none from hh]
  refine wpAny_bind (wpAny_pure (wpAny_throw ?_))
  refine wpAny_bind (wpAny_isInstance (T := "StopIteration") (b := true) ⟨_, Heap.get?_push_size _ rfl, rfl⟩ isSubtype_stop ?_)
  exact wpAny_pure (h _ fun {h₀ L m news} F N => ⟨(F.push _).push _, (N.pushKeep _).pushKeep _⟩)
noncomputable def Back (n : Nat) (J : Nat → Shared → Prop) (s : Shared) : Prop := ∃ k, k < n ∧ J k s
theorem For_by {x : Str} {px pos : Pos} {iter : Expr} {body : List Stmt} {Q : Flow → Shared → Prop}
    (h : wpAny (model prog w) A (eval iter env) (fun xv s₁ => wpAny (model prog w) A (pyIter xv) (fun it s₂ => ∃ (J : Nat → Shared → Prop) (n : Nat), J n s₂ ∧ ∀ n s, J n s → wpAny (model prog w) A (pyNext it) (fun r s₁ => match r with
        | none => Q .next s₁
        | some v => wpAny (model prog w) A (storeName env x v) (fun _ s₂ => wpAny (model prog w) A (execs body env) (fun f s₃ => match f with
          | .next | .cont => Back n J s₃
          | .brk => Q .next s₃
          | .ret v => Q (.ret v) s₃) E s₂) E s₁) E s) E s₁) E s)
    (hs : ∀ x, foldedSetIterable iter env x = pure x := by intro _; rfl)
    (hE : PassesOwn (model prog w) A env E := by passes_own) :
    wpAny (model prog w) A (exec (.For (.Name x px) iter body [] pos) env) Q E s := by
  refine wpAny_For (wpAny_mono h (fun xv s₁ h₁ => wpAny_mono h₁ (fun it s₂ h₂ => ?_) fun _ _ e => e) fun _ _ e => e) hs
  obtain ⟨J, n, j, turn⟩ := h₂
  refine codeAny_forLoop (R := fun r s' => match r with | .ok f => Q f s' | .error e => cameBackBy (model prog w) A env E e s') J (fun n s hj => wpAny_passesOwn hE (wpAny_mono (turn n s hj) (fun r s₁ h₁ => ?_) fun _ _ e => e)) n j
  cases r with
  | none => exact by rw [execs_nil]; exact wpAny_pure h₁
  | some v => exact wpAny_passesOwn hE (wpAny_assign_Name (wpAny_mono h₁ (fun _ s₂ h₂ => wpAny_passesOwn hE h₂) fun _ _ e => e))
end
end
section
noncomputable def ByPost (prog : Program) (w : World) (A : Around) (env : Env) (x : Str) (body : List Stmt) (Q : Flow → Shared → Prop) (E : Value → Shared → Prop) (it : Value) (s₂ : Shared) : Prop :=
  ∃ (J : Nat → Shared → Prop) (n : Nat), J n s₂ ∧ ∀ n s, J n s → wpAny (model prog w) A (pyNext it) (fun r s₁ => match r with
        | none => Q .next s₁
        | some v => wpAny (model prog w) A (storeName env x v) (fun _ s₂ => wpAny (model prog w) A (execs body env) (fun f s₃ => match f with
          | .next | .cont => Back n J s₃
          | .brk => Q .next s₃
          | .ret v => Q (.ret v) s₃) E s₂) E s₁) E s
section
variable {prog : Program} {w : World} {A : Around} {E : Value → Shared → Prop} {s : Shared} {env : Env} {h₀ : Heap} {x : Str} {body : List Stmt} {Q : Flow → Shared → Prop}
theorem For_byP {px pos : Pos} {iter : Expr}
    (h : wpAny (model prog w) A (eval iter env) (fun xv s₁ => wpAny (model prog w) A (pyIter xv) (fun it s₂ => ByPost prog w A env x body Q E it s₂) E s₁) E s)
    (hs : ∀ x, foldedSetIterable iter env x = pure x := by intro _; rfl)
    (hE : PassesOwn (model prog w) A env E := by passes_own) :
    wpAny (model prog w) A (exec (.For (.Name x px) iter body [] pos) env) Q E s := For_by h hs hE
theorem For_byT {px pos : Pos} {iter : Expr} (h0t : 0 < s.toks)
    (h : wpAny (model prog w) A (eval iter env) (fun xv s₁ => Then (0 < s₁.toks) (wpAny (model prog w) A (pyIter xv) (fun it s₂ => ByPost prog w A env x body Q E it s₂) E s₁)) E s)
    (hs : ∀ x, foldedSetIterable iter env x = pure x := by intro _; rfl)
    (hE : PassesOwn (model prog w) A env E := by passes_own) :
    wpAny (model prog w) A (exec (.For (.Name x px) iter body [] pos) env) Q E s := For_byP (wpAny_mono (wpAny_toks (Nat.le_refl _) h) (fun _ _ h => h.1 (Nat.lt_of_lt_of_le h0t h.2)) fun _ _ h => h.1) hs hE
theorem rangeT {r : Addr} {a₀ b₀ : Int} {t₀ u₀ v₀ : Tok} {n : Nat} {m₀ : Str → Option Value} {news : List (Addr × Obj)}
    (hh : A.handled = none) (hr : IsRange s.heap r a₀ b₀ 1 t₀ u₀ v₀) (hsmall : Builtin.Range.small a₀ b₀ 1 = true) (hn : Builtin.Range.rangeSize a₀ b₀ 1 = (n : Int)) (F : Fr h₀ env.locals s.heap m₀) (N : News h₀ env.locals s.heap news)
    (h0t : 0 < s.toks) (hx : env.kindOf x = some .local) (hp : (env.scope.kind == .class || (env.scope.kind == .module && env.locals != env.globals)) = false)
    (J : Addr → Nat → (Str → Option Value) → List (Addr × Obj) → Prop) (j0 : ∀ I : Addr, (∀ p ∈ news, p.1 < I) → J I 0 m₀ news)
    (turn : ∀ (I : Addr) i t m news h (tk : Nat), 0 < tk → i < n → J I i m news → (∀ p ∈ news, p.1 ≠ I) → Fr h₀ env.locals h (fun y => if y = x then some (.int (a₀ + (i : Int)) t) else m y) →
      News h₀ env.locals h ((I, itR (a₀ + ((i + 1 : Nat) : Int)) ((n : Int) - ((i + 1 : Nat) : Int))) :: news) →
      wpAny (model prog w) A (execs body env) (UnrPost h₀ env.locals { s with heap := h, toks := tk } I (itR (a₀ + ((i + 1 : Nat) : Int)) ((n : Int) - ((i + 1 : Nat) : Int))) (fun m' n' => J I (i + 1) m' n') Q) E { s with heap := h, toks := tk })
    (done : ∀ I m news h (tk : Nat), 0 < tk → J I n m news → Fr h₀ env.locals h m → News h₀ env.locals h news → Q .next { s with heap := h, toks := tk }) :
    wpAny (model prog w) A (pyIter (.ref r)) (fun it s₂ => ByPost prog w A env x body Q E it s₂) E s := by
  refine wpAny_toks' (wpAny_pyIter_range hr hsmall ?_)
  intro _
  have hnew := next_is_new F
  have hIL : (s.heap.objs.size : Addr) ≠ env.locals := Nat.ne_of_gt F.ns.lt
  let J9 : Nat → Shared → Prop := fun (k : Nat) (s' : Shared) => ∃ i m news h, ∃ tk : Nat, i + k = n ∧ s' = { s with heap := h, toks := tk } ∧ 0 < tk ∧ J s.heap.objs.size i m news ∧ (∀ p ∈ news, p.1 ≠ s.heap.objs.size) ∧ Fr h₀ env.locals h m ∧ News h₀ env.locals h ((s.heap.objs.size, itR (a₀ + (i : Int)) ((n : Int) - (i : Int))) :: news)
  refine ⟨J9, n, ?_, ?_⟩
  · refine (xI5 0 m₀ news _ _ ⟨by omega, rfl, ?_, j0 _ fun p hp => Heap.lt_size (N p hp).1, fun p hp => Nat.ne_of_lt (Heap.lt_size (N p hp).1), F.push _, ?_⟩)
    · first | assumption | (dsimp only at *; omega)
    · intro p hp
      refine mem_cs hp ?_ fun hp => ?_
      · have e1 : a₀ + ((0 : Nat) : Int) = a₀ := by omega
        have e2 : (n : Int) - ((0 : Nat) : Int) = (n : Int) := by omega
        rw [e1, e2, ← hn]
        exact ⟨Heap.get?_push_size _ rfl, hIL, hnew⟩
      · exact ⟨Heap.get?_push_of_some _ (N p hp).1, (N p hp).2⟩
  · rintro k s' hJ0
    refine Classical.byContradiction fun hG0 => ?_
    refine exE5 hJ0 ?_
    try clear hJ0
    rintro i m news h tk hJ0
    refine anE7 hJ0 ?_
    try clear hJ0
    rintro hik rfl htk hj hoff F1 N1
    refine hG0 ?_
    clear hG0
    have hI : h.get? s.heap.objs.size = some (itR (a₀ + (i : Int)) ((n : Int) - (i : Int))) := N1.get (.head _)
    by_cases hin : i < n
    · refine wpAny_pyNext_range_item (s := { s with heap := h, toks := tk }) (step := 1) (x := a₀ + (i : Int)) (left := (n : Int) - (i : Int)) hI (by omega) fun h' hit hs => ?_
      have e1 : a₀ + (i : Int) + 1 = a₀ + ((i + 1 : Nat) : Int) := by omega
      have e2 : (n : Int) - (i : Int) - 1 = (n : Int) - ((i + 1 : Nat) : Int) := by omega
      rw [e1, e2] at hit
      have hit' : h'.get? s.heap.objs.size = some (itR (a₀ + ((i + 1 : Nat) : Int)) ((n : Int) - ((i + 1 : Nat) : Int))) := hit
      have F2 : Fr h₀ env.locals h' m := F1.change hs hIL hnew
      have N2 := N1.setHead hoff hs hit'
      refine wpAny_storeName_local hx F2.ns (fun h2 hn2 hs2 => ?_) hp
      have F3 := F2.set hn2 hs2
      have N3 := N2.set hs2
      refine wpAny_mono (wpAny_toks (n := tk + 1 + 1) (Nat.le_refl _) (turn _ i tk m news h2 (tk + 1 + 1) (by omega) hin hj hoff F3 N3)) (fun f s₃ hq => ?_) (fun _ _ e => e.1)
      obtain ⟨hq, ht3⟩ := hq
      have fin : UnrEnd h₀ env.locals { s with heap := h2, toks := tk + 1 + 1 } s.heap.objs.size (itR (a₀ + ((i + 1 : Nat) : Int)) ((n : Int) - ((i + 1 : Nat) : Int))) (fun m' n' => J s.heap.objs.size (i + 1) m' n') s₃ → Back k J9 s₃ := by
        rintro hJ0
        refine Classical.byContradiction fun hG0 => ?_
        refine exE4 hJ0 ?_
        try clear hJ0
        rintro h' tk' m' news' hJ0
        refine anE5 hJ0 ?_
        try clear hJ0
        rintro rfl F' N' off' j'
        refine hG0 ?_
        clear hG0
        exact ⟨k - 1, by omega, i + 1, m', news', h', tk', by omega, rfl, by dsimp only at ht3; omega, j', off', F', N'⟩
      cases f with
      | ret v => exact hq
      | brk => exact hq
      | next => exact fin hq
      | cont => exact fin hq
    · obtain rfl : i = n := by omega
      refine wpAny_pyNext_range_end (s := { s with heap := h, toks := tk }) (step := 1) (x := a₀ + (i : Int)) (left := (i : Int) - (i : Int)) hh hI (by omega) fun h' hs => ?_
      exact done _ m news h' tk htk hj ⟨let ⟨o, es, ep, ho, r⟩ := F1.ns; ⟨o, es, ep, hs _ _ hIL.symm ho, r⟩, fun b o e => hs b o (fun eb => by rw [eb, hnew] at e; cases e) (F1.keep b o e), F1.above⟩
        (fun p hp => ⟨hs _ _ (hoff p hp) (N1 p (.tail _ hp)).1, (N1 p (.tail _ hp)).2⟩)
end
end
section
open PySem.SeqAt
noncomputable def pairLt (p q : Int × Int) : Bool := if p.1 = q.1 then decide (p.2 < q.2) else decide (p.1 < q.1)
theorem int_lt_r {prog : Program} {w : World} {A : Around} {E : Value → Shared → Prop} {s : Shared} {Q : Value → Shared → Prop} {x y : Int} {t u : Tok} (h : Q (.bool (decide (x < y))) s) : wpAny (model prog w) A (richCompare .Lt (.int x t) (.int y u)) Q E s :=
  CmpOf.ints_lt (P := fun k v => (k = 0 ∧ v = .int x t) ∨ (k = 1 ∧ v = .int y u)) (fun k => if k = 0 then x else y) (fun k v hk => by rcases hk with ⟨rfl, rfl⟩ | ⟨rfl, rfl⟩ <;> exact ⟨_, rfl⟩) 0 1 _ _ _ _ _ (.inl ⟨rfl, rfl⟩) (.inr ⟨rfl, rfl⟩) h
theorem tuple_lt_pairs (l b : Addr) (n n2 : Nat) (dd dd2 : Option Addr) (sl sl2 : Array (Option Value)) (x i y j : Int) (t u t2 u2 : Tok) :
    Meets (Builtin.«tuple.__lt__» ⟨[.ref l, .ref b], []⟩)
      (fun A R s => s.heap.get? l = some { cls := .type "tuple", dict := dd, data := .seq #[.int x t, .int i u] n, slots := sl } ∧ s.heap.get? b = some { cls := .type "tuple", dict := dd2, data := .seq #[.int y t2, .int j u2] n2, slots := sl2 } ∧
        R (.ok (.ret (.bool (pairLt (x, i) (y, j))))) s) :=
  .of_wp fun prog w A R s h => by
    obtain ⟨hp, g, d, tk, os⟩ := s; obtain ⟨hl, hb, h⟩ := h
    have f2 := AutoSeq1.sub_tuple_tuple
    wp_walk using AutoSeq1.wpAny_loadPart' hl, AutoSeq1.wpAny_loadPart' hb, wpAny_forIn_list _ (fun rest b s' => b.1 = none ∧ s' = ⟨hp, g, d, tk, os⟩ ∧
      ((rest = [(Value.int x t, Value.int y t2), (Value.int i u, Value.int j u2)]) ∨ (rest = [(Value.int i u, Value.int j u2)] ∧ x = y) ∨ (rest = [] ∧ x = y ∧ i = j))) _
    case turn =>
      rintro ⟨p, q⟩ rest b s' ⟨hb', rfl, hr | ⟨hr, hxy⟩ | ⟨hr, _⟩⟩
      · injection hr with h1 h2
        injection h1 with h3 h4
        subst h3 h4 h2
        refine wpAny_bind (EqAt.int_int x t y t2 prog w _ _ ?_)
        by_cases e : x = y
        · rw [show (x == y) = true from by simp [e]]
          wp_walk
          exact ⟨rfl, rfl, .inr (.inl ⟨rfl, e⟩)⟩
        · rw [show (x == y) = false from by simp [e]]
          have e1 : (pairLt (x, i) (y, j)) = decide (x < y) := by unfold pairLt; rw [if_neg (by first | exact e | exact fun h => e h.symm)]
          rw [e1] at h
          wp_walk using int_lt_r
          exact ⟨_, rfl, h⟩
      · injection hr with h1 h2
        injection h1 with h3 h4
        subst h3 h4 h2
        refine wpAny_bind (EqAt.int_int i u j u2 prog w _ _ ?_)
        by_cases e : i = j
        · rw [show (i == j) = true from by simp [e]]
          wp_walk
          exact ⟨rfl, rfl, .inr (.inr ⟨rfl, hxy, e⟩)⟩
        · rw [show (i == j) = false from by simp [e]]
          have e1 : (pairLt (x, i) (y, j)) = decide (i < j) := by unfold pairLt; rw [if_pos (by first | exact hxy | exact hxy.symm)]
          rw [e1] at h
          wp_walk using int_lt_r
          exact ⟨_, rfl, h⟩
      · cases hr
    case fin =>
      rintro ⟨b1, b2⟩ s' ⟨hb', rfl, hr | ⟨hr, _⟩ | ⟨_, hxy, hij⟩⟩
      · cases hr
      · cases hr
      · simp only at hb'
        subst hb'
        wp_walk
        refine ⟨_, rfl, ?_⟩
        have e1 : (pairLt (x, i) (y, j)) = false := by subst hxy hij; unfold pairLt; rw [if_pos rfl]; simp
        rw [e1] at h
        exact h
    case h =>
      exact ⟨rfl, rfl, .inl rfl⟩
section
variable {prog : Program} {w : World} {A : Around} {E : Value → Shared → Prop} {s : Shared} {l b : Addr} {x i y j : Int} {t u t2 u2 : Tok} {Q : Value → Shared → Prop}
theorem rich_lt_pairs (hl : s.heap.IsTuple l #[.int x t, .int i u]) (hb : s.heap.IsTuple b #[.int y t2, .int j u2]) (hu : A.units < cLine) (h : Q (.bool (pairLt (x, i) (y, j))) s) :
    wpAny (model prog w) A (richCompare .Lt (.ref l) (.ref b)) Q E s := by
  obtain ⟨⟨cls, dd, data, sl⟩, ho, hc, n, hd⟩ := id hl
  obtain ⟨⟨cls2, dd2, data2, sl2⟩, ho2, hc2, n2, hd2⟩ := id hb
  simp only at hc hd hc2 hd2
  subst hc hd hc2 hd2
  exact richCompare_meets_room (op := .Lt) ⟨_, ho, rfl⟩ ⟨_, ho2, rfl⟩ F.slot_tuple_lt F.entry_tuple_lt (F.args_tuple_lt_2 _ _) (tuple_lt_pairs l b n n2 dd dd2 sl sl2 x i y j t u t2 u2)
    ⟨ho, ho2, (fun x => nomatch x), h⟩ hu
end
theorem int_gt_r {prog : Program} {w : World} {A : Around} {E : Value → Shared → Prop} {s : Shared} {Q : Value → Shared → Prop} {x y : Int} {t u : Tok} (h : Q (.bool (decide (x > y))) s) : wpAny (model prog w) A (richCompare .Gt (.int x t) (.int y u)) Q E s :=
  CmpOf.ints_gt (P := fun k v => (k = 0 ∧ v = .int x t) ∨ (k = 1 ∧ v = .int y u)) (fun k => if k = 0 then x else y) (fun k v hk => by rcases hk with ⟨rfl, rfl⟩ | ⟨rfl, rfl⟩ <;> exact ⟨_, rfl⟩) 0 1 _ _ _ _ _ (.inl ⟨rfl, rfl⟩) (.inr ⟨rfl, rfl⟩) h
theorem tuple_gt_pairs (l b : Addr) (n n2 : Nat) (dd dd2 : Option Addr) (sl sl2 : Array (Option Value)) (x i y j : Int) (t u t2 u2 : Tok) :
    Meets (Builtin.«tuple.__gt__» ⟨[.ref l, .ref b], []⟩)
      (fun A R s => s.heap.get? l = some { cls := .type "tuple", dict := dd, data := .seq #[.int x t, .int i u] n, slots := sl } ∧ s.heap.get? b = some { cls := .type "tuple", dict := dd2, data := .seq #[.int y t2, .int j u2] n2, slots := sl2 } ∧
        R (.ok (.ret (.bool (pairLt (y, j) (x, i))))) s) :=
  .of_wp fun prog w A R s h => by
    obtain ⟨hp, g, d, tk, os⟩ := s; obtain ⟨hl, hb, h⟩ := h
    have f2 := AutoSeq1.sub_tuple_tuple
    wp_walk using AutoSeq1.wpAny_loadPart' hl, AutoSeq1.wpAny_loadPart' hb, wpAny_forIn_list _ (fun rest b s' => b.1 = none ∧ s' = ⟨hp, g, d, tk, os⟩ ∧
      ((rest = [(Value.int x t, Value.int y t2), (Value.int i u, Value.int j u2)]) ∨ (rest = [(Value.int i u, Value.int j u2)] ∧ x = y) ∨ (rest = [] ∧ x = y ∧ i = j))) _
    case turn =>
      rintro ⟨p, q⟩ rest b s' ⟨hb', rfl, hr | ⟨hr, hxy⟩ | ⟨hr, _⟩⟩
      · injection hr with h1 h2
        injection h1 with h3 h4
        subst h3 h4 h2
        refine wpAny_bind (EqAt.int_int x t y t2 prog w _ _ ?_)
        by_cases e : x = y
        · rw [show (x == y) = true from by simp [e]]
          wp_walk
          exact ⟨rfl, rfl, .inr (.inl ⟨rfl, e⟩)⟩
        · rw [show (x == y) = false from by simp [e]]
          have e1 : (pairLt (y, j) (x, i)) = decide (x > y) := by unfold pairLt; rw [if_neg (by first | exact e | exact fun h => e h.symm)]
          rw [e1] at h
          wp_walk using int_gt_r
          exact ⟨_, rfl, h⟩
      · injection hr with h1 h2
        injection h1 with h3 h4
        subst h3 h4 h2
        refine wpAny_bind (EqAt.int_int i u j u2 prog w _ _ ?_)
        by_cases e : i = j
        · rw [show (i == j) = true from by simp [e]]
          wp_walk
          exact ⟨rfl, rfl, .inr (.inr ⟨rfl, hxy, e⟩)⟩
        · rw [show (i == j) = false from by simp [e]]
          have e1 : (pairLt (y, j) (x, i)) = decide (i > j) := by unfold pairLt; rw [if_pos (by first | exact hxy | exact hxy.symm)]
          rw [e1] at h
          wp_walk using int_gt_r
          exact ⟨_, rfl, h⟩
      · cases hr
    case fin =>
      rintro ⟨b1, b2⟩ s' ⟨hb', rfl, hr | ⟨hr, _⟩ | ⟨_, hxy, hij⟩⟩
      · cases hr
      · cases hr
      · simp only at hb'
        subst hb'
        wp_walk
        refine ⟨_, rfl, ?_⟩
        have e1 : (pairLt (y, j) (x, i)) = false := by subst hxy hij; unfold pairLt; rw [if_pos rfl]; simp
        rw [e1] at h
        exact h
    case h =>
      exact ⟨rfl, rfl, .inl rfl⟩
section
variable {prog : Program} {w : World} {A : Around} {E : Value → Shared → Prop} {s : Shared} {l b : Addr} {x i y j : Int} {t u t2 u2 : Tok} {Q : Value → Shared → Prop}
theorem rich_gt_pairs (hl : s.heap.IsTuple l #[.int x t, .int i u]) (hb : s.heap.IsTuple b #[.int y t2, .int j u2]) (hu : A.units < cLine) (h : Q (.bool (pairLt (y, j) (x, i))) s) :
    wpAny (model prog w) A (richCompare .Gt (.ref l) (.ref b)) Q E s := by
  obtain ⟨⟨cls, dd, data, sl⟩, ho, hc, n, hd⟩ := id hl
  obtain ⟨⟨cls2, dd2, data2, sl2⟩, ho2, hc2, n2, hd2⟩ := id hb
  simp only at hc hd hc2 hd2
  subst hc hd hc2 hd2
  exact richCompare_meets_room (op := .Gt) ⟨_, ho, rfl⟩ ⟨_, ho2, rfl⟩ F.slot_tuple_gt F.entry_tuple_gt (F.args_tuple_gt_2 _ _) (tuple_gt_pairs l b n n2 dd dd2 sl sl2 x i y j t u t2 u2)
    ⟨ho, ho2, (fun x => nomatch x), h⟩ hu
end
end
section
noncomputable def CmpIn (prog : Program) (w : World) (A : Around) (op : CmpOp) (P : Nat → Value → Prop) (St : Nat → Heap → Prop) (bt : Nat → Nat → Bool) : Prop :=
  ∀ i j k vi vj (s : Shared) (Q : Value → Shared → Prop) (E : Value → Shared → Prop), P i vi → P j vj → St k s.heap → Q (.bool (bt i j)) s → wpAny (model prog w) A (richCompare op vi vj) Q E s
noncomputable def Cur (P : Nat → Value → Prop) (bt : Nat → Nat → Bool) (j : Nat) (arr : Array Value) : Prop :=
  (j = 0 ∧ arr = #[]) ∨ (0 < j ∧ ∃ v, arr = #[v, v] ∧ P (argBest bt (j - 1)) v)
section
variable {prog : Program} {w : World} {A : Around} {R : Result → Shared → Prop} {I : Addr} {fp wr : List Addr} {n : Nat} {P : Nat → Value → Prop} {St : Nat → Heap → Prop}
theorem min_in (W : Walks prog w A.in1 I fp wr n P St) (bt : Nat → Nat → Bool) (hcmp : CmpIn prog w A.in1 .Lt P St bt) (S : Addr) (hSf : S ∉ fp) (hn : 0 < n) :
    ∀ (k j : Nat) (s : Shared) (arr : Array Value) (c : Nat), j + k = n → St j s.heap → Cur P bt j arr → s.heap.get? S = some { cls := .type "list", dict := none, data := .seq arr c, slots := #[] } →
    (∀ v h' tk, P (argBest bt (n - 1)) v → (∀ b o, b ∉ wr → b ≠ S → s.heap.get? b = some o → h'.get? b = some o) → R (.ok (.ret v)) { s with heap := h', toks := tk }) →
    codeAny (model prog w) A (.builtin "min.loop" ⟨[.ref I, .none, .ref S], []⟩) R s := by
  have hSw : S ∉ wr := fun h => hSf (W.sub _ h)
  have hname : (toString "min" ++ toString ".loop" : String) = "min.loop" := by decide
  intro k
  induction k with
  | zero =>
    intro j s arr c hjk hst hcur hS hR
    obtain rfl : j = n := by omega
    rcases hcur with ⟨h0, _⟩ | ⟨_, v, rfl, hPv⟩
    · omega
    refine codeAny_builtin F.entry_min_loop ?_
    rw [Around.under_plainId F.plain_min_loop _]
    refine wpAny_bind (m := seqItems? (.ref S)) (wpAny_seqItems hS rfl ?_)
    refine wpAny_bind (m := tryCatch (pyNext (.ref I)) _) (wpAny_tryCatch (W.done s _ _ hst fun h' tk hk => ?_))
    have hS' := hk S _ hSw hS
    refine wpAny_bind (m := updateSeq S (fun _ => #[])) (wpAny_updateSeq hS' rfl (wpAny_bind (wpAny_letGo (wpAny_pure ?_))))
    exact hR v _ tk hPv fun b o hbw hbS e => (Heap.get?_update_other _ _ (Ne.symm hbS)).trans (hk b o hbw e)
  | succ k ih =>
    intro j s arr c hjk hst hcur hS hR
    refine codeAny_builtin F.entry_min_loop ?_
    rw [Around.under_plainId F.plain_min_loop _]
    refine wpAny_bind (m := seqItems? (.ref S)) (wpAny_seqItems hS rfl ?_)
    refine wpAny_bind (m := tryCatch (pyNext (.ref I)) _) (wpAny_tryCatch (W.item j s _ _ (by omega) hst fun v h' tk hP hst' hk => ?_))
    have hS' := hk S _ hSw hS
    rcases hcur with ⟨rfl, rfl⟩ | ⟨hj, vb, rfl, hPb⟩
    · refine wpAny_bind (m := updateSeq S (fun _ => #[v, v])) (wpAny_updateSeq hS' rfl ?_)
      rw [hname]
      refine wpAny_pure ⟨plainId_quiet F.plain_min_loop _, ih 1 _ _ _ (by omega) (W.frame _ _ _ hst' fun b hbf o e => ?_) (.inr ⟨by decide, v, rfl, hP⟩) (Heap.get?_update_self _ hS' rfl) fun v' h2 tk2 hP' hk2 => ?_⟩
      · exact (Heap.get?_update_other _ _ (fun h : S = b => hSf (by rw [h]; exact hbf))).trans e
      · exact hR v' h2 tk2 hP' fun b o hbw hbS e => hk2 b o hbw hbS ((Heap.get?_update_other _ _ (Ne.symm hbS)).trans (hk b o hbw e))
    · refine wpAny_bind (m := tryCatch (holding [v, v] (richCompare .Lt v vb >>= _)) _) (wpAny_tryCatch (wpAny_holding (wpAny_bind (hcmp j (argBest bt (j - 1)) (j + 1) v vb _ _ _ hP hPb hst' ?_))))
      refine wpAny_bind (wpAny_holding (wpAny_truthy_bool ?_))
      refine wpAny_bind (wpAny_letGo (wpAny_pure ?_))
      have hjj : j - 1 + 1 = j := by omega
      have hab : argBest bt j = if bt j (argBest bt (j - 1)) then j else argBest bt (j - 1) := by
        conv => lhs; rw [← hjj]
        show (if bt (j - 1 + 1) (argBest bt (j - 1)) then j - 1 + 1 else argBest bt (j - 1)) = _
        rw [hjj]
      cases hb : bt j (argBest bt (j - 1)) with
      | true =>
        rw [hb, if_pos rfl] at hab
        simp only [if_true]
        refine wpAny_bind (wpAny_updateSeq hS' rfl (wpAny_bind (wpAny_letGo ?_)))
        rw [hname]
        refine wpAny_pure ⟨plainId_quiet F.plain_min_loop _, ih (j + 1) _ _ _ (by omega) (W.frame _ _ _ hst' fun b hbf o e => ?_) (.inr ⟨by omega, v, rfl, by rw [Nat.add_sub_cancel, hab]; exact hP⟩) (Heap.get?_update_self _ hS' rfl) fun v' h2 tk2 hP' hk2 => ?_⟩
        · exact (Heap.get?_update_other _ _ (fun h : S = b => hSf (by rw [h]; exact hbf))).trans e
        · exact hR v' h2 tk2 hP' fun b o hbw hbS e => hk2 b o hbw hbS ((Heap.get?_update_other _ _ (Ne.symm hbS)).trans (hk b o hbw e))
      | false =>
        rw [hb, if_neg Bool.false_ne_true] at hab
        simp only [Bool.false_eq_true, if_false]
        refine wpAny_bind (wpAny_letGo ?_)
        rw [hname]
        exact wpAny_pure ⟨plainId_quiet F.plain_min_loop _, ih (j + 1) _ _ _ (by omega) hst' (.inr ⟨by omega, vb, rfl, by rw [Nat.add_sub_cancel, hab]; exact hPb⟩) hS' fun v' h2 tk2 hP' hk2 =>
          hR v' h2 tk2 hP' fun b o hbw hbS e => hk2 b o hbw hbS (hk b o hbw e)⟩
theorem call_min_in {E : Value → Shared → Prop} {s : Shared} {x : Value} {Q : Value → Shared → Prop}
    (h : wpAny (model prog w) A.in1 (pyIter x) (fun it s₂ => ∃ I fp wr n P St bt, it = .ref I ∧ Walks prog w A.in1 I fp wr n P St ∧ St 0 s₂.heap ∧ (∀ b ∈ fp, b < s₂.heap.objs.size) ∧ 0 < n ∧ CmpIn prog w A.in1 .Lt P St bt ∧
      ∀ v h' tk, P (argBest bt (n - 1)) v → (∀ b o, b ∉ wr → s₂.heap.get? b = some o → h'.get? b = some o) → Q v { s₂ with heap := h', toks := tk }) E s) :
    wpAny (model prog w) A (call (.builtin "min") [x]) Q E s := by
  have hname : (toString "min" ++ toString ".loop" : String) = "min.loop" := by decide
  refine call_function_tree F.kind_min F.plain_min F.entry_min (F.args_min1 _) ?_
  refine wpAny_bind (m := Builtin.Builtins.bindParams "min" ["key", "default"] 0 ⟨[], []⟩) (wpAny_of_eq (show Builtin.Builtins.bindParams "min" ["key", "default"] 0 ⟨[], []⟩ = pure [none, none] from rfl) (wpAny_bind (wpAny_pure (wpAny_bind (wpAny_mono h (fun it s₂ h₂ => ?_) fun _ _ e => e)))))
  refine Classical.byContradiction fun hG0 => ?_
  refine exE7 h₂ ?_
  try clear h₂
  rintro I fp wr n P St bt hJ0
  refine anE7 hJ0 ?_
  try clear hJ0
  rintro rfl W hst hfp hn hcmp hQ
  refine hG0 ?_
  clear hG0
  refine wpAny_bind (wpAny_newObj_type ?_)
  have hSf : s₂.heap.objs.size ∉ fp := fun hm => Nat.lt_irrefl _ (hfp _ hm)
  rw [hname]
  refine wpAny_pure ⟨plainId_quiet F.plain_min_loop _, min_in W bt hcmp s₂.heap.objs.size hSf hn n 0 _ _ _ (Nat.zero_add n) (W.frame _ _ _ hst fun b _ o e => Heap.get?_push_of_some _ e) (.inl ⟨rfl, rfl⟩) (Heap.get?_push_size _ rfl) fun v h' tk hP hk => ?_⟩
  exact hQ v h' tk hP fun b o hbw e => hk b o hbw (Nat.ne_of_lt (Heap.lt_size e)) (Heap.get?_push_of_some _ e)
end
section
variable {prog : Program} {w : World} {A : Around} {R : Result → Shared → Prop} {I : Addr} {fp wr : List Addr} {n : Nat} {P : Nat → Value → Prop} {St : Nat → Heap → Prop}
theorem max_in (W : Walks prog w A.in1 I fp wr n P St) (bt : Nat → Nat → Bool) (hcmp : CmpIn prog w A.in1 .Gt P St bt) (S : Addr) (hSf : S ∉ fp) (hn : 0 < n) :
    ∀ (k j : Nat) (s : Shared) (arr : Array Value) (c : Nat), j + k = n → St j s.heap → Cur P bt j arr → s.heap.get? S = some { cls := .type "list", dict := none, data := .seq arr c, slots := #[] } →
    (∀ v h' tk, P (argBest bt (n - 1)) v → (∀ b o, b ∉ wr → b ≠ S → s.heap.get? b = some o → h'.get? b = some o) → R (.ok (.ret v)) { s with heap := h', toks := tk }) →
    codeAny (model prog w) A (.builtin "max.loop" ⟨[.ref I, .none, .ref S], []⟩) R s := by
  have hSw : S ∉ wr := fun h => hSf (W.sub _ h)
  have hname : (toString "max" ++ toString ".loop" : String) = "max.loop" := by decide
  intro k
  induction k with
  | zero =>
    intro j s arr c hjk hst hcur hS hR
    obtain rfl : j = n := by omega
    rcases hcur with ⟨h0, _⟩ | ⟨_, v, rfl, hPv⟩
    · omega
    refine codeAny_builtin F.entry_max_loop ?_
    rw [Around.under_plainId F.plain_max_loop _]
    refine wpAny_bind (m := seqItems? (.ref S)) (wpAny_seqItems hS rfl ?_)
    refine wpAny_bind (m := tryCatch (pyNext (.ref I)) _) (wpAny_tryCatch (W.done s _ _ hst fun h' tk hk => ?_))
    have hS' := hk S _ hSw hS
    refine wpAny_bind (m := updateSeq S (fun _ => #[])) (wpAny_updateSeq hS' rfl (wpAny_bind (wpAny_letGo (wpAny_pure ?_))))
    exact hR v _ tk hPv fun b o hbw hbS e => (Heap.get?_update_other _ _ (Ne.symm hbS)).trans (hk b o hbw e)
  | succ k ih =>
    intro j s arr c hjk hst hcur hS hR
    refine codeAny_builtin F.entry_max_loop ?_
    rw [Around.under_plainId F.plain_max_loop _]
    refine wpAny_bind (m := seqItems? (.ref S)) (wpAny_seqItems hS rfl ?_)
    refine wpAny_bind (m := tryCatch (pyNext (.ref I)) _) (wpAny_tryCatch (W.item j s _ _ (by omega) hst fun v h' tk hP hst' hk => ?_))
    have hS' := hk S _ hSw hS
    rcases hcur with ⟨rfl, rfl⟩ | ⟨hj, vb, rfl, hPb⟩
    · refine wpAny_bind (m := updateSeq S (fun _ => #[v, v])) (wpAny_updateSeq hS' rfl ?_)
      rw [hname]
      refine wpAny_pure ⟨plainId_quiet F.plain_max_loop _, ih 1 _ _ _ (by omega) (W.frame _ _ _ hst' fun b hbf o e => ?_) (.inr ⟨by decide, v, rfl, hP⟩) (Heap.get?_update_self _ hS' rfl) fun v' h2 tk2 hP' hk2 => ?_⟩
      · exact (Heap.get?_update_other _ _ (fun h : S = b => hSf (by rw [h]; exact hbf))).trans e
      · exact hR v' h2 tk2 hP' fun b o hbw hbS e => hk2 b o hbw hbS ((Heap.get?_update_other _ _ (Ne.symm hbS)).trans (hk b o hbw e))
    · refine wpAny_bind (m := tryCatch (holding [v, v] (richCompare .Gt v vb >>= _)) _) (wpAny_tryCatch (wpAny_holding (wpAny_bind (hcmp j (argBest bt (j - 1)) (j + 1) v vb _ _ _ hP hPb hst' ?_))))
      refine wpAny_bind (wpAny_holding (wpAny_truthy_bool ?_))
      refine wpAny_bind (wpAny_letGo (wpAny_pure ?_))
      have hjj : j - 1 + 1 = j := by omega
      have hab : argBest bt j = if bt j (argBest bt (j - 1)) then j else argBest bt (j - 1) := by
        conv => lhs; rw [← hjj]
        show (if bt (j - 1 + 1) (argBest bt (j - 1)) then j - 1 + 1 else argBest bt (j - 1)) = _
        rw [hjj]
      cases hb : bt j (argBest bt (j - 1)) with
      | true =>
        rw [hb, if_pos rfl] at hab
        simp only [if_true]
        refine wpAny_bind (wpAny_updateSeq hS' rfl (wpAny_bind (wpAny_letGo ?_)))
        rw [hname]
        refine wpAny_pure ⟨plainId_quiet F.plain_max_loop _, ih (j + 1) _ _ _ (by omega) (W.frame _ _ _ hst' fun b hbf o e => ?_) (.inr ⟨by omega, v, rfl, by rw [Nat.add_sub_cancel, hab]; exact hP⟩) (Heap.get?_update_self _ hS' rfl) fun v' h2 tk2 hP' hk2 => ?_⟩
        · exact (Heap.get?_update_other _ _ (fun h : S = b => hSf (by rw [h]; exact hbf))).trans e
        · exact hR v' h2 tk2 hP' fun b o hbw hbS e => hk2 b o hbw hbS ((Heap.get?_update_other _ _ (Ne.symm hbS)).trans (hk b o hbw e))
      | false =>
        rw [hb, if_neg Bool.false_ne_true] at hab
        simp only [Bool.false_eq_true, if_false]
        refine wpAny_bind (wpAny_letGo ?_)
        rw [hname]
        exact wpAny_pure ⟨plainId_quiet F.plain_max_loop _, ih (j + 1) _ _ _ (by omega) hst' (.inr ⟨by omega, vb, rfl, by rw [Nat.add_sub_cancel, hab]; exact hPb⟩) hS' fun v' h2 tk2 hP' hk2 =>
          hR v' h2 tk2 hP' fun b o hbw hbS e => hk2 b o hbw hbS (hk b o hbw e)⟩
theorem call_max_in {E : Value → Shared → Prop} {s : Shared} {x : Value} {Q : Value → Shared → Prop}
    (h : wpAny (model prog w) A.in1 (pyIter x) (fun it s₂ => ∃ I fp wr n P St bt, it = .ref I ∧ Walks prog w A.in1 I fp wr n P St ∧ St 0 s₂.heap ∧ (∀ b ∈ fp, b < s₂.heap.objs.size) ∧ 0 < n ∧ CmpIn prog w A.in1 .Gt P St bt ∧
      ∀ v h' tk, P (argBest bt (n - 1)) v → (∀ b o, b ∉ wr → s₂.heap.get? b = some o → h'.get? b = some o) → Q v { s₂ with heap := h', toks := tk }) E s) :
    wpAny (model prog w) A (call (.builtin "max") [x]) Q E s := by
  have hname : (toString "max" ++ toString ".loop" : String) = "max.loop" := by decide
  refine call_function_tree F.kind_max F.plain_max F.entry_max (F.args_max1 _) ?_
  refine wpAny_bind (m := Builtin.Builtins.bindParams "max" ["key", "default"] 0 ⟨[], []⟩) (wpAny_of_eq (show Builtin.Builtins.bindParams "max" ["key", "default"] 0 ⟨[], []⟩ = pure [none, none] from rfl) (wpAny_bind (wpAny_pure (wpAny_bind (wpAny_mono h (fun it s₂ h₂ => ?_) fun _ _ e => e)))))
  refine Classical.byContradiction fun hG0 => ?_
  refine exE7 h₂ ?_
  try clear h₂
  rintro I fp wr n P St bt hJ0
  refine anE7 hJ0 ?_
  try clear hJ0
  rintro rfl W hst hfp hn hcmp hQ
  refine hG0 ?_
  clear hG0
  refine wpAny_bind (wpAny_newObj_type ?_)
  have hSf : s₂.heap.objs.size ∉ fp := fun hm => Nat.lt_irrefl _ (hfp _ hm)
  rw [hname]
  refine wpAny_pure ⟨plainId_quiet F.plain_max_loop _, max_in W bt hcmp s₂.heap.objs.size hSf hn n 0 _ _ _ (Nat.zero_add n) (W.frame _ _ _ hst fun b _ o e => Heap.get?_push_of_some _ e) (.inl ⟨rfl, rfl⟩) (Heap.get?_push_size _ rfl) fun v h' tk hP hk => ?_⟩
  exact hQ v h' tk hP fun b o hbw e => hk b o hbw (Nat.ne_of_lt (Heap.lt_size e)) (Heap.get?_push_of_some _ e)
end
noncomputable def PairsIn (h : Heap) (as : List Addr) (ps : List (Int × Int)) : Prop := as.length = ps.length ∧ ∀ k (h1 : k < as.length) (h2 : k < ps.length), ∃ t u, h.IsTuple as[k] #[.int ps[k].1 t, .int ps[k].2 u]
section
variable {prog : Program} {w : World} {A : Around} {E : Value → Shared → Prop} {s : Shared} {l : Addr} {as : List Addr} {ps : List (Int × Int)}
theorem pairs_walks (hh : A.handled = none) (I : Addr) (hne : l ≠ I) (hI : ∀ a ∈ as, a ≠ I) :
    Walks prog w A I (I :: l :: as) [I] as.length (fun i v => ∃ h : i < as.length, v = .ref as[i]) (fun i h => (h.IsListIter I l i ∧ h.IsList l (as.map Value.ref).toArray) ∧ PairsIn h as ps) := by
  have W := Walks.list (prog := prog) (w := w) hh I l hne (as.map Value.ref).toArray
  have hz : (as.map Value.ref).toArray.size = as.length := by simp
  have keep : ∀ h h' : Heap, PairsIn h as ps → (∀ b o, b ∉ [I] → h.get? b = some o → h'.get? b = some o) → PairsIn h' as ps := fun h h' hp hk =>
    ⟨hp.1, fun k h1 h2 => by
      obtain ⟨t, u, ht⟩ := hp.2 k h1 h2
      exact ⟨t, u, ht.at fun o e => hk _ o (by simp; exact hI _ (List.getElem_mem h1)) e⟩⟩
  refine ⟨fun b hb => by simp at hb; simp [hb], fun i h h' st hk => ⟨W.frame i h h' st.1 fun b hb o e => hk b (by simp at hb ⊢; rcases hb with hb | hb <;> simp [hb]) o e, st.2.1, fun k h1 h2 => ?_⟩, fun i s Q E hi st hQ => ?_, fun s Q E st hQ => ?_, fun i s Q E st hQ => W.self i s Q E st.1 hQ⟩
  · obtain ⟨t, u, ht⟩ := st.2.2 k h1 h2
    exact ⟨t, u, ht.at fun o e => hk _ (by simp [List.getElem_mem h1]) o e⟩
  · refine W.item i s Q E (by rw [hz]; exact hi) st.1 fun v h' tk hP hst' hk => hQ v h' tk ?_ ⟨hst', keep _ _ st.2 hk⟩ hk
    rw [List.getElem?_toArray, List.getElem?_map, List.getElem?_eq_getElem hi] at hP
    injection hP with hP
    exact ⟨hi, hP.symm⟩
  · rw [← hz] at st
    exact W.done s Q E st.1 hQ
theorem min_pairs {Q : Value → Shared → Prop} (hh : A.handled = none) (hu : A.in1.units < cLine) (hl : s.heap.IsList l (as.map Value.ref).toArray) (hps : PairsIn s.heap as ps) (hne : 0 < as.length)
    (h : ∀ h' tk, (∀ b o, s.heap.get? b = some o → h'.get? b = some o) → Q (.ref (as.getD (argBest (fun i j => pairLt (ps.getD i (0, 0)) (ps.getD j (0, 0))) (as.length - 1)) 0)) { s with heap := h', toks := tk }) :
    wpAny (model prog w) A (call (.builtin "min") [.ref l]) Q E s := by
  have hlt : l < s.heap.objs.size := by obtain ⟨_, e, _⟩ := hl; exact Heap.lt_size e
  have hat : ∀ a ∈ as, a < s.heap.objs.size := fun a ha => by
    obtain ⟨k, hk, rfl⟩ := List.getElem_of_mem ha
    obtain ⟨t, u, _, e, _⟩ := hps.2 k hk (by rw [← hps.1]; exact hk)
    exact Heap.lt_size e
  refine call_min_in (wpAny_pyIter_list hl ?_)
  refine (xI7 _ _ _ _ _ _ (fun i j => pairLt (ps.getD i (0, 0)) (ps.getD j (0, 0))) ⟨rfl, pairs_walks (ps := ps) (A := A.in1) hh s.heap.objs.size (Nat.ne_of_lt hlt) (fun a ha => Nat.ne_of_lt (hat a ha)), ⟨⟨⟨_, Heap.get?_push_size _ rfl, rfl, rfl⟩, hl.push _⟩, hps.1, fun k h1 h2 => ?_⟩, fun b hb => ?_, hne, ?_, fun v h' tk hP hk => ?_⟩)
  · obtain ⟨t, u, ht⟩ := hps.2 k h1 h2
    exact ⟨t, u, ht.push _⟩
  · show b < (s.heap.push _).objs.size
    rw [Heap.size_push]
    rcases List.mem_cons.mp hb with rfl | hb
    · exact Nat.lt_succ_self _
    · rcases List.mem_cons.mp hb with rfl | hb
      · exact Nat.lt_succ_of_lt hlt
      · exact Nat.lt_succ_of_lt (hat b hb)
  · rintro i j k vi vj s' Q' E' ⟨hi, rfl⟩ ⟨hj, rfl⟩ hst hQ
    have hi' : i < ps.length := by rw [← hps.1]; exact hi
    have hj' : j < ps.length := by rw [← hps.1]; exact hj
    obtain ⟨t, u, h1⟩ := hst.2.2 i hi hi'
    obtain ⟨t2, u2, h2⟩ := hst.2.2 j hj hj'
    refine rich_lt_pairs h1 h2 hu ?_
    dsimp only at hQ
    rw [List.getD_eq_getElem?_getD, List.getD_eq_getElem?_getD, List.getElem?_eq_getElem hi', List.getElem?_eq_getElem hj'] at hQ
    exact hQ
  · obtain ⟨hi, rfl⟩ := hP
    have h9 := h h' tk (fun b o e => hk b o (fun hm => by
      rcases List.mem_cons.mp hm with e1 | hm
      · exact absurd (e1 ▸ Heap.lt_size e) (Nat.lt_irrefl _)
      · cases hm) (Heap.get?_push_of_some _ e))
    rw [List.getD_eq_getElem?_getD, List.getElem?_eq_getElem hi] at h9
    exact h9
theorem max_pairs {Q : Value → Shared → Prop} (hh : A.handled = none) (hu : A.in1.units < cLine) (hl : s.heap.IsList l (as.map Value.ref).toArray) (hps : PairsIn s.heap as ps) (hne : 0 < as.length)
    (h : ∀ h' tk, (∀ b o, s.heap.get? b = some o → h'.get? b = some o) → Q (.ref (as.getD (argBest (fun i j => pairLt (ps.getD j (0, 0)) (ps.getD i (0, 0))) (as.length - 1)) 0)) { s with heap := h', toks := tk }) :
    wpAny (model prog w) A (call (.builtin "max") [.ref l]) Q E s := by
  have hlt : l < s.heap.objs.size := by obtain ⟨_, e, _⟩ := hl; exact Heap.lt_size e
  have hat : ∀ a ∈ as, a < s.heap.objs.size := fun a ha => by
    obtain ⟨k, hk, rfl⟩ := List.getElem_of_mem ha
    obtain ⟨t, u, _, e, _⟩ := hps.2 k hk (by rw [← hps.1]; exact hk)
    exact Heap.lt_size e
  refine call_max_in (wpAny_pyIter_list hl ?_)
  refine (xI7 _ _ _ _ _ _ (fun i j => pairLt (ps.getD j (0, 0)) (ps.getD i (0, 0))) ⟨rfl, pairs_walks (ps := ps) (A := A.in1) hh s.heap.objs.size (Nat.ne_of_lt hlt) (fun a ha => Nat.ne_of_lt (hat a ha)), ⟨⟨⟨_, Heap.get?_push_size _ rfl, rfl, rfl⟩, hl.push _⟩, hps.1, fun k h1 h2 => ?_⟩, fun b hb => ?_, hne, ?_, fun v h' tk hP hk => ?_⟩)
  · obtain ⟨t, u, ht⟩ := hps.2 k h1 h2
    exact ⟨t, u, ht.push _⟩
  · show b < (s.heap.push _).objs.size
    rw [Heap.size_push]
    rcases List.mem_cons.mp hb with rfl | hb
    · exact Nat.lt_succ_self _
    · rcases List.mem_cons.mp hb with rfl | hb
      · exact Nat.lt_succ_of_lt hlt
      · exact Nat.lt_succ_of_lt (hat b hb)
  · rintro i j k vi vj s' Q' E' ⟨hi, rfl⟩ ⟨hj, rfl⟩ hst hQ
    have hi' : i < ps.length := by rw [← hps.1]; exact hi
    have hj' : j < ps.length := by rw [← hps.1]; exact hj
    obtain ⟨t, u, h1⟩ := hst.2.2 i hi hi'
    obtain ⟨t2, u2, h2⟩ := hst.2.2 j hj hj'
    refine rich_gt_pairs h1 h2 hu ?_
    dsimp only at hQ
    rw [List.getD_eq_getElem?_getD, List.getD_eq_getElem?_getD, List.getElem?_eq_getElem hi', List.getElem?_eq_getElem hj'] at hQ
    exact hQ
  · obtain ⟨hi, rfl⟩ := hP
    have h9 := h h' tk (fun b o e => hk b o (fun hm => by
      rcases List.mem_cons.mp hm with e1 | hm
      · exact absurd (e1 ▸ Heap.lt_size e) (Nat.lt_irrefl _)
      · cases hm) (Heap.get?_push_of_some _ e))
    rw [List.getD_eq_getElem?_getD, List.getElem?_eq_getElem hi] at h9
    exact h9
end
end
section
noncomputable def lawDef : Stmt := (List.getLast? (Program.main Challenge.rw_st0007_01.prog).body).getD default
noncomputable def lawBody : List Stmt := match lawDef with | .FunctionDef _ _ b _ _ _ _ _ _ _ => b | _ => []
noncomputable def lawName : Str := match lawDef with | .FunctionDef n _ _ _ _ _ _ _ _ _ => n | _ => default
noncomputable def lawScope : Scope := match lawDef with | .FunctionDef _ _ _ _ _ _ c _ _ _ => c | _ => default
noncomputable abbrev lawEnv (L fa : Addr) (cd : Value) : Env := envOfC lawName lawScope L fa cd
noncomputable abbrev lawA (L fa : Addr) (cd : Value) : Around := callerA.deeper (lawEnv L fa cd)
theorem kn_postG {M : Model} {A : Around} {cd : Code} {s s₁ : Shared} {cw : ClaimW} {cl : Str → Option Addr} {mean : ExcName → Option Value} {args : List WData} {tabs : List (Addr × Addr)} (hT : TabsAt tabs s₁.heap) (hr : ∀ a x, cw.raises a x = false) (hp : cw.post args (.bool true) args = true)
    (h : codeAny M A cd (fun r s' => r = .ok (.ret (.bool true)) ∧ (∀ b o, (ghostOf s₁.heap tabs).get? b = some o → s'.heap.get? b = some o) ∧ s'.os = s₁.os ∧ AllBare s'.gens ∧ GrownAll tabs s'.heap) s) : codeAny M A cd (GoodWG cw cl mean args s₁) s :=
  codeAny_mono h fun r s' ⟨hc, hk, hos, hg, hgr⟩ => by
    have keep : ∀ b o, b ∉ tabs.map (·.2) → s₁.heap.get? b = some o → s'.heap.get? b = some o := fun b o hb e => hk b o (ghost_ne e hb)
    have grown : ∀ b o, b ∈ tabs.map (·.2) → s₁.heap.get? b = some o → isCodeTable s₁.heap b ∧ o = tabObj #[] ∧ ∃ ps, s'.heap.get? b = some (tabObj ps) := fun b o hb e => by
      obtain ⟨q, hq, rfl⟩ := List.mem_map.mp hb
      have e2 := (hT q hq).2
      rw [e] at e2
      exact ⟨((hT q hq).1.tab (hT q hq).2).isCodeTable, Option.some.inj e2, hgr.get q hq⟩
    refine ⟨.inl ⟨_, .bool true, [], hc, hr _, ReadsW.bool _, hp, fun _ => ⟨List.nodup_nil, fun _ hm => (nomatch hm)⟩⟩, ⟨fun b o e => ?_, fun b o e => ?_⟩, hos, hg⟩
    · by_cases hb : b ∈ tabs.map (·.2)
      · obtain ⟨ht, rfl, ps, hP⟩ := grown b o hb e
        exact .inr (.inl ⟨ht, rfl, #[], ps, rfl, by rw [Array.empty_append]; exact hP⟩)
      · exact .inl (keep b o hb e)
    · by_cases hb : b ∈ tabs.map (·.2)
      · obtain ⟨_, _, ps, hP⟩ := grown b o hb e
        exact ⟨_, hP⟩
      · exact ⟨o, keep b o hb e⟩
end
section
noncomputable def lawCut (a n : Nat) : List Stmt := (lawBody.drop a).take n
open PyProof.Rows.LCg
@[reducible] noncomputable def law_cells_S (w : World) (mean : ExcName → Option Value) (mg mb : Str → Option Value) (base : Heap) (L fa : Addr) (cd : Value) (m : Str → Option Value) (s : Shared) (Q : Flow → Shared → Prop) (rest : List Stmt) (o1 o2 o3 o4 o5 o6 o7 o8 : Obj) : Prop := ∀ (B : Below callerA base [] base) (F : Fr base L s.heap m) (X : (KX w.params).In base) (T : Top topProg lawLoose mean mg mb base) (N : News base L s.heap (((L + 1 + 1 + 1 + 1 + 1 + 1 + 1 + 1 : Addr), o8) :: ((L + 1 + 1 + 1 + 1 + 1 + 1 + 1 : Addr), o7) :: ((L + 1 + 1 + 1 + 1 + 1 + 1 : Addr), o6) :: ((L + 1 + 1 + 1 + 1 + 1 : Addr), o5) :: ((L + 1 + 1 + 1 + 1 : Addr), o4) :: ((L + 1 + 1 + 1 : Addr), o3) :: ((L + 1 + 1 : Addr), o2) :: ((L + 1 : Addr), o1) :: (105, W.tabObj #[]) :: [])) (ho1 : o1.data = .cell none) (h105 : @LT.lt Nat _ 105 L) (hret : ∀ (D : Addr) (its : List Value) (cnt : Nat) (o1 : Obj) (h' : Heap) (tk' : Nat), Fr base L h' m → News base L h' ((D, W.listOf its.toArray cnt) :: ((L + 1 + 1 + 1 + 1 + 1 + 1 + 1 + 1 : Addr), o8) :: ((L + 1 + 1 + 1 + 1 + 1 + 1 + 1 : Addr), o7) :: ((L + 1 + 1 + 1 + 1 + 1 + 1 : Addr), o6) :: ((L + 1 + 1 + 1 + 1 + 1 : Addr), o5) :: ((L + 1 + 1 + 1 + 1 : Addr), o4) :: ((L + 1 + 1 + 1 : Addr), o3) :: ((L + 1 + 1 : Addr), o2) :: ((L + 1 : Addr), o1) :: (105, W.tabObj #[]) :: []) → o1.data = .cell (some (.ref D)) → @LT.lt Nat _ (L+1+1+1+1+1+1+1+1) D → IntsAre its ([524, 4, 20] ++ (List.range 8).map (fun k : Nat => (405 * k * k : Int))) → wpAny (model Challenge.rw_st0007_01.prog w) (lawA L fa cd) (execs rest (lawEnv L fa cd)) Q (fun _ _ => False) { s with heap := h', toks := tk' }), wpAny (model Challenge.rw_st0007_01.prog w) (lawA L fa cd) (execs (lawCut 0 1 ++ rest) (lawEnv L fa cd)) Q (fun _ _ => False) s
namespace law_cells_K
@[irreducible] noncomputable def pt : Cx := bad fun c => law_cells_S (c.w 0) (c.me 0) (c.m 0) (c.m 1) (c.h 0) (c.n 0) (c.n 1) (c.v 0) (c.m 2) (c.sh 0) (c.qf 0) (c.lst 0) (c.o 0) (c.o 1) (c.o 2) (c.o 3) (c.o 4) (c.o 5) (c.o 6) (c.o 7)
theorem main : law_cells_S (pt.w 0) (pt.me 0) (pt.m 0) (pt.m 1) (pt.h 0) (pt.n 0) (pt.n 1) (pt.v 0) (pt.m 2) (pt.sh 0) (pt.qf 0) (pt.lst 0) (pt.o 0) (pt.o 1) (pt.o 2) (pt.o 3) (pt.o 4) (pt.o 5) (pt.o 6) (pt.o 7) := by
  intro B F X T N ho1 h105 hret
  have hmk101 := MarkH.mk (n := 101)
  rw [show lawCut 0 1 = [_] from rfl]
  revert X; k_fill; intro X
  k_steps
  refine Hold.on ?_
  k_dflt (refine' LCg.ListComp_U ?c0 ?c1 ?c2 ?c3 ?c4 ?c5 ?_)
  case c0 => k_asm
  case c1 => exact rfl
  case c2 => decide
  case c3 => rfl
  case c4 => decide
  case c5 => rfl
  lcg_toSrc
  dsimp only
  refine comp_rest (fun i ys nw => nw = _ ∧ IntsAre ys ((List.range i).map (fun k : Nat => (405 * k * k : Int)))) ⟨rfl, .nil⟩ (fun i' v' I' oI' C' oC' D' m' ys' nw' h' tk' E' hi' hR' hv' hC' hx' F' N' off' ne' => ?_) ?_
  · obtain ⟨rfl, hys⟩ := hR'
    obtain ⟨tv, rfl⟩ := hv'
    k_steps
    refine LCg.CompEnd.intro (by k_asm) N' _ (fun p hp => hp) off' trivial ⟨rfl, ?_⟩
    rw [List.range_succ, List.map_append]
    refine hys.append ?_
    rw [Int.zero_add]
    exact .cons _ _ .nil
  rintro ys nw ⟨rfl, hys⟩ D9 h9 tk9 F9 N9 off9
  dsimp only
  simp only [LCg.Off1, and_true] at off9
  k_steps
  refine hret _ _ _ _ _ _ (by assumption) (by first | assumption | exact cb_drop (by assumption) (by k_allIn)) (by assumption) (by omega) (by assumption)
end law_cells_K
theorem law_cells {w : World} {mean : ExcName → Option Value} {mg mb : Str → Option Value} {base : Heap} {L fa : Addr} {cd : Value} {m : Str → Option Value} {s : Shared} {Q : Flow → Shared → Prop} {rest : List Stmt} {o1 o2 o3 o4 o5 o6 o7 o8 : Obj} : law_cells_S w mean mg mb base L fa cd m s Q rest o1 o2 o3 o4 o5 o6 o7 o8 := @by_bad (fun c => law_cells_S (c.w 0) (c.me 0) (c.m 0) (c.m 1) (c.h 0) (c.n 0) (c.n 1) (c.v 0) (c.m 2) (c.sh 0) (c.qf 0) (c.lst 0) (c.o 0) (c.o 1) (c.o 2) (c.o 3) (c.o 4) (c.o 5) (c.o 6) (c.o 7)) (by with_unfolding_all exact law_cells_K.main) { cx0 with n := fromL (0) [L, fa], o := fromL (default) [o1, o2, o3, o4, o5, o6, o7, o8], v := fromL (.none) [cd], m := fromL (fun _ => none) [mg, mb, m], sh := fromL ({}) [s], h := fromL ({}) [base], lst := fromL ([]) [rest], w := fromL (worldZ) [w], me := fromL (fun _ => none) [mean], qf := fromL (fun _ _ => True) [Q] }
end
section
open PySem.SeqAt
theorem maxF_same (a : UInt64) : maxF a a a = a := by
  unfold maxF
  simp
theorem minF_same (a : UInt64) : minF a a a = a := by
  unfold minF
  simp
theorem selfEq_0 : selfEq 0 := by decide +kernel
theorem eqAt_flt3' {A : Around} {s : Shared} {a b : Addr} {x y z : UInt64} {t1 t2 t3 u1 u2 u3 : Tok} (ha : s.heap.IsTuple a #[.float x t1, .float y t2, .float z t3]) (hb : s.heap.IsTuple b #[.float x u1, .float y u2, .float z u3]) (hx : selfEq x) (hy : selfEq y) (hz : selfEq z) (ht : t1 ≠ 0 ∧ t2 ≠ 0 ∧ t3 ≠ 0) (hu : u1 ≠ 0 ∧ u2 ≠ 0 ∧ u3 ≠ 0) (hbk : NoneBooked s.heap) (hcu : A.units < cLine) :
    EqAt A s (.ref a) (.ref b) true := by
  by_cases e : a = b
  · subst e; exact EqAt.same _
  · exact eqAt_flt3 ha hb hx hy hz ht hu hbk hcu e
theorem tup_in {h₀ h : Heap} {L a : Addr} {vals : Array Value} {k : Nat} {news : List (Addr × Obj)} (N : News h₀ L h news) (hm : (a, tupO vals k) ∈ news) : h.IsTuple a vals := ⟨_, (N _ hm).1, rfl, k, rfl⟩
theorem lst_in {h₀ h : Heap} {L a : Addr} {vals : Array Value} {k : Nat} {news : List (Addr × Obj)} (N : News h₀ L h news) (hm : (a, W.listOf vals k) ∈ news) : h.IsList a vals := ⟨_, (N _ hm).1, rfl, k, rfl⟩
open PyProof.Rows.LCg
@[reducible] noncomputable def law_greyok_S (w : World) (mean : ExcName → Option Value) (mg mb : Str → Option Value) (base : Heap) (L fa : Addr) (cd : Value) (m : Str → Option Value) (s : Shared) (Q : Flow → Shared → Prop) (rest : List Stmt) (o1 o2 o3 o4 o5 o6 o7 o8 : Obj) (S G T1 T2 T3 : Addr) (t1 t2 t3 t4 v1 v2 v3 v4 v5 v6 v7 v8 v9 : Tok) (sh va : UInt64) (x : Str) (cn : Int) (tl : List (Addr × Obj)) : Prop := ∀ (B : Below callerA base [] base) (F : Fr base L s.heap m) (X : (KX w.params).In base) (T : Top topProg lawLoose mean mg mb base) (N : News base L s.heap ((G, W.listOf #[.ref T1, .ref T2, .ref T3] 0) :: (T3, tupO #[.float 0 v7, .float 0 v8, .float (maxF 0 0 0) v9] 0) :: (T2, tupO #[.float 0 v4, .float 0 v5, .float (maxF va va va) v6] 0) :: (T1, tupO #[.float va v1, .float va v2, .float va v3] 0) :: ((L + 1 + 1 + 1 + 1 + 1 + 1 + 1 + 1 : Addr), o8) :: ((L + 1 + 1 + 1 + 1 + 1 + 1 + 1 : Addr), o7) :: ((L + 1 + 1 + 1 + 1 + 1 + 1 : Addr), o6) :: ((L + 1 + 1 + 1 + 1 + 1 : Addr), o5) :: ((L + 1 + 1 + 1 + 1 : Addr), o4) :: ((L + 1 + 1 + 1 : Addr), o3) :: ((L + 1 + 1 : Addr), o2) :: ((L + 1 : Addr), o1) :: tl)) (h0t : 0 < s.toks) (hz1 : t2 ≠ 0) (hz2 : (v1 ≠ 0 ∧ v2 ≠ 0 ∧ v3 ≠ 0) ∧ (v4 ≠ 0 ∧ v5 ≠ 0 ∧ v6 ≠ 0) ∧ (v7 ≠ 0 ∧ v8 ≠ 0 ∧ v9 ≠ 0)) (hse : selfEq va) (h105 : @LT.lt Nat _ 105 L) (hms : m (Str.ofString "share") = some (.float sh t1)) (hmv : m (Str.ofString "value") = some (.float va t2)) (hmz : m (Str.ofString "sizes") = some (.ref S)) (hmt : m (Str.ofString "text") = some (.str x t3)) (hmc : m (Str.ofString "count") = some (.int cn t4)) (hmg : m (Str.ofString "greys") = some (.ref G)) (hret : ∀ (m' : Str → Option Value) (h' : Heap) (tk' : Nat), Fr base L h' m' → News base L h' (((L + 1 + 1 + 1 + 1 + 1 + 1 + 1 + 1 : Addr), o8) :: ((L + 1 + 1 + 1 + 1 + 1 + 1 + 1 : Addr), o7) :: ((L + 1 + 1 + 1 + 1 + 1 + 1 : Addr), o6) :: ((L + 1 + 1 + 1 + 1 + 1 : Addr), o5) :: ((L + 1 + 1 + 1 + 1 : Addr), o4) :: ((L + 1 + 1 + 1 : Addr), o3) :: ((L + 1 + 1 : Addr), o2) :: ((L + 1 : Addr), o1) :: tl) → m' (Str.ofString "share") = some (.float sh t1) → m' (Str.ofString "value") = some (.float va t2) → m' (Str.ofString "sizes") = some (.ref S) → m' (Str.ofString "text") = some (.str x t3) → m' (Str.ofString "count") = some (.int cn t4) → wpAny (model Challenge.rw_st0007_01.prog w) (lawA L fa cd) (execs rest (lawEnv L fa cd)) Q (fun _ _ => False) { s with heap := h', toks := tk' }), wpAny (model Challenge.rw_st0007_01.prog w) (lawA L fa cd) (execs (lawCut 22 1 ++ rest) (lawEnv L fa cd)) Q (fun _ _ => False) s
namespace law_greyok_K
@[irreducible] noncomputable def pt : Cx := bad fun c => law_greyok_S (c.w 0) (c.me 0) (c.m 0) (c.m 1) (c.h 0) (c.n 0) (c.n 1) (c.v 0) (c.m 2) (c.sh 0) (c.qf 0) (c.lst 0) (c.o 0) (c.o 1) (c.o 2) (c.o 3) (c.o 4) (c.o 5) (c.o 6) (c.o 7) (c.n 2) (c.n 3) (c.n 4) (c.n 5) (c.n 6) (c.n 7) (c.n 8) (c.n 9) (c.n 10) (c.n 11) (c.n 12) (c.n 13) (c.n 14) (c.n 15) (c.n 16) (c.n 17) (c.n 18) (c.n 19) (c.u 0) (c.u 1) (c.st 0) (c.i 0) (c.lo 0)
@[irreducible] noncomputable def L : Addr := pt.n 0
@[irreducible] noncomputable def o1 : Obj := pt.o 0
@[irreducible] noncomputable def o2 : Obj := pt.o 1
@[irreducible] noncomputable def o3 : Obj := pt.o 2
@[irreducible] noncomputable def o4 : Obj := pt.o 3
@[irreducible] noncomputable def o5 : Obj := pt.o 4
@[irreducible] noncomputable def o6 : Obj := pt.o 5
@[irreducible] noncomputable def o7 : Obj := pt.o 6
@[irreducible] noncomputable def o8 : Obj := pt.o 7
@[irreducible] noncomputable def G : Addr := pt.n 3
@[irreducible] noncomputable def T1 : Addr := pt.n 4
@[irreducible] noncomputable def T2 : Addr := pt.n 5
@[irreducible] noncomputable def T3 : Addr := pt.n 6
@[irreducible] noncomputable def v1 : Tok := pt.n 11
@[irreducible] noncomputable def v2 : Tok := pt.n 12
@[irreducible] noncomputable def v3 : Tok := pt.n 13
@[irreducible] noncomputable def v4 : Tok := pt.n 14
@[irreducible] noncomputable def v5 : Tok := pt.n 15
@[irreducible] noncomputable def v6 : Tok := pt.n 16
@[irreducible] noncomputable def v7 : Tok := pt.n 17
@[irreducible] noncomputable def v8 : Tok := pt.n 18
@[irreducible] noncomputable def v9 : Tok := pt.n 19
@[irreducible] noncomputable def va : UInt64 := pt.u 1
@[irreducible] noncomputable def x : Str := pt.st 0
@[irreducible] noncomputable def tl : List (Addr × Obj) := pt.lo 0
theorem main : law_greyok_S (pt.w 0) (pt.me 0) (pt.m 0) (pt.m 1) (pt.h 0) L (pt.n 1) (pt.v 0) (pt.m 2) (pt.sh 0) (pt.qf 0) (pt.lst 0) o1 o2 o3 o4 o5 o6 o7 o8 (pt.n 2) G T1 T2 T3 (pt.n 7) (pt.n 8) (pt.n 9) (pt.n 10) v1 v2 v3 v4 v5 v6 v7 v8 v9 (pt.u 0) va x (pt.i 0) tl := by
  intro B F X T N h0t hz1 hz2 hse h105 hms hmv hmz hmt hmc hmg hret
  have hmk100 := MarkH.mk (n := 100)
  have hmk101 := MarkH.mk (n := 101)
  have hmk104 := MarkH.mk (n := 104)
  have hmk110 := MarkH.mk (n := 110)
  rw [show lawCut 22 1 = [_] from rfl]
  revert X; k_fill; intro X
  simp only [maxF_same] at N
  rw [known_eq hms, known_eq hmv, known_eq hmz, known_eq hmt, known_eq hmc, known_eq hmg] at F
  k_steps
  refine Hold.on ?_
  rename Fr _ _ _ _ => F1
  rename News _ _ _ _ => N1
  have hbk := booked_none X F1.keep
  refine RcNeAt.lists (e := fun _ => true) (lst_in N1 (.tail _ (.tail _ (.tail _ (.tail _ (.head _)))))) (lst_in N1 (.head _)) (by rfl) (by ktr_units) ?he _ _ _ _ ?_
  case he =>
    obtain ⟨hz3, hz4, hz5⟩ := hz2
    intro j h1 h2
    match j, h1, h2 with
    | 0, _, _ => exact eqAt_flt3' (tup_in N1 (.tail _ (.tail _ (.tail _ (.tail _ (.tail _ (.tail _ (.tail _ (.head _))))))))) (tup_in N1 (.tail _ (.tail _ (.tail _ (.head _))))) hse hse hse hz3 ⟨hz1, hz1, hz1⟩ hbk (by ktr_units)
    | 1, _, _ => exact eqAt_flt3' (tup_in N1 (.tail _ (.tail _ (.tail _ (.tail _ (.tail _ (.tail _ (.head _)))))))) (tup_in N1 (.tail _ (.tail _ (.head _)))) selfEq_0 selfEq_0 hse hz4 ⟨Nat.ne_of_gt h0t, Nat.ne_of_gt (by omega), hz1⟩ hbk (by ktr_units)
    | 2, _, _ => exact eqAt_flt3' (tup_in N1 (.tail _ (.tail _ (.tail _ (.tail _ (.tail _ (.head _))))))) (tup_in N1 (.tail _ (.head _))) selfEq_0 selfEq_0 selfEq_0 hz5 ⟨Nat.ne_of_gt (by omega), Nat.ne_of_gt (by omega), Nat.ne_of_gt (by omega)⟩ hbk (by ktr_units)
  rw [show (!(List.range (#[Value.ref T1, Value.ref T2, Value.ref T3] : Array Value).size).all (fun _ => true)) = false from rfl]
  clear hbk
  have N2 := cb_drop (news := (G, W.listOf #[.ref T1, .ref T2, .ref T3] 0) :: (T3, tupO #[.float 0 v7, .float 0 v8, .float 0 v9] 0) :: (T2, tupO #[.float 0 v4, .float 0 v5, .float va v6] 0) :: (T1, tupO #[.float va v1, .float va v2, .float va v3] 0) :: ((L + 1 + 1 + 1 + 1 + 1 + 1 + 1 + 1 : Addr), o8) :: ((L + 1 + 1 + 1 + 1 + 1 + 1 + 1 : Addr), o7) :: ((L + 1 + 1 + 1 + 1 + 1 + 1 : Addr), o6) :: ((L + 1 + 1 + 1 + 1 + 1 : Addr), o5) :: ((L + 1 + 1 + 1 + 1 : Addr), o4) :: ((L + 1 + 1 + 1 : Addr), o3) :: ((L + 1 + 1 : Addr), o2) :: ((L + 1 : Addr), o1) :: tl) N1 (by kcj_all)
  clear N1
  k_steps
  refine Hold.on ?_
  refine' ListComp_nest (G := fun u => ∃ x t, u = Value.float x t) ?c0 ?c1 ?c2 ?c3 ?c4 ?c5 ?c6 ?c7 ?c8 ?_
  case c0 => k_asm
  case c1 => exact rfl
  case c2 => decide
  case c3 => rfl
  case c4 => decide
  case c5 => rfl
  case c6 => rfl
  case c7 => rfl
  case c8 => rfl
  k_steps
  refine Hold.on (xI4 _ _ _ _ ⟨rfl, (Nat.le_of_ble_eq_true rfl), F1, N2, (.head _), ?hits, ?helt, ?fin⟩)
  case hits =>
    intro i v hv
    match i, hv with
    | 0, hv => exact ⟨T1, _, 0, (Option.some.inj hv).symm, (.tail _ (.tail _ (.tail _ (.head _)))), (Nat.le_of_ble_eq_true rfl), fun j u hu => by
        match j, hu with
        | 0, hu => exact ⟨_, _, (Option.some.inj hu).symm⟩
        | 1, hu => exact ⟨_, _, (Option.some.inj hu).symm⟩
        | 2, hu => exact ⟨_, _, (Option.some.inj hu).symm⟩⟩
    | 1, hv => exact ⟨T2, _, 0, (Option.some.inj hv).symm, (.tail _ (.tail _ (.head _))), (Nat.le_of_ble_eq_true rfl), fun j u hu => by
        match j, hu with
        | 0, hu => exact ⟨_, _, (Option.some.inj hu).symm⟩
        | 1, hu => exact ⟨_, _, (Option.some.inj hu).symm⟩
        | 2, hu => exact ⟨_, _, (Option.some.inj hu).symm⟩⟩
    | 2, hv => exact ⟨T3, _, 0, (Option.some.inj hv).symm, (.tail _ (.head _)), (Nat.le_of_ble_eq_true rfl), fun j u hu => by
        match j, hu with
        | 0, hu => exact ⟨_, _, (Option.some.inj hu).symm⟩
        | 1, hu => exact ⟨_, _, (Option.some.inj hu).symm⟩
        | 2, hu => exact ⟨_, _, (Option.some.inj hu).symm⟩⟩
  case helt =>
    rintro u C m₂ h tk E' ⟨x9, t9, rfl⟩ hns hx1 hF
    clear hret N2 F1
    k_steps
  case fin =>
    intro ys D h tk hys hyl F4 N4 off
    clear F1 N2
    k_steps
    refine Hold.on ?_
    refine in_listAt (fun _ => false) (l := D) ⟨_, (N4 _ (.head _)).1, rfl, _, rfl⟩ (fun y hy => ?_) ?_
    · rw [hys y (by simpa using hy)]
      exact EqAt.bool_bool false true
    rw [show (ys.toArray.any fun _ => false) = false by simp]
    k_steps
    (refine' hret _ _ _ ?gF ?gN ?g1 ?g2 ?g3 ?g4 ?g5; (case gF => assumption); (case gN => (first | assumption | exact cb_drop (by assumption) (by kcj_all))); (case g1 => exact rfl); (case g2 => exact rfl); (case g3 => exact rfl); (case g4 => exact rfl); (case g5 => exact rfl))
end law_greyok_K
theorem law_greyok {w : World} {mean : ExcName → Option Value} {mg mb : Str → Option Value} {base : Heap} {L fa : Addr} {cd : Value} {m : Str → Option Value} {s : Shared} {Q : Flow → Shared → Prop} {rest : List Stmt} {o1 o2 o3 o4 o5 o6 o7 o8 : Obj} {S G T1 T2 T3 : Addr} {t1 t2 t3 t4 v1 v2 v3 v4 v5 v6 v7 v8 v9 : Tok} {sh va : UInt64} {x : Str} {cn : Int} {tl : List (Addr × Obj)} : law_greyok_S w mean mg mb base L fa cd m s Q rest o1 o2 o3 o4 o5 o6 o7 o8 S G T1 T2 T3 t1 t2 t3 t4 v1 v2 v3 v4 v5 v6 v7 v8 v9 sh va x cn tl := @by_bad (fun c => law_greyok_S (c.w 0) (c.me 0) (c.m 0) (c.m 1) (c.h 0) (c.n 0) (c.n 1) (c.v 0) (c.m 2) (c.sh 0) (c.qf 0) (c.lst 0) (c.o 0) (c.o 1) (c.o 2) (c.o 3) (c.o 4) (c.o 5) (c.o 6) (c.o 7) (c.n 2) (c.n 3) (c.n 4) (c.n 5) (c.n 6) (c.n 7) (c.n 8) (c.n 9) (c.n 10) (c.n 11) (c.n 12) (c.n 13) (c.n 14) (c.n 15) (c.n 16) (c.n 17) (c.n 18) (c.n 19) (c.u 0) (c.u 1) (c.st 0) (c.i 0) (c.lo 0)) (by with_unfolding_all exact law_greyok_K.main) { cx0 with n := fromL (0) [L, fa, S, G, T1, T2, T3, t1, t2, t3, t4, v1, v2, v3, v4, v5, v6, v7, v8, v9], i := fromL (0) [cn], st := fromL (Str.empty) [x], u := fromL (0) [sh, va], o := fromL (default) [o1, o2, o3, o4, o5, o6, o7, o8], lo := fromL ([]) [tl], v := fromL (.none) [cd], m := fromL (fun _ => none) [mg, mb, m], sh := fromL ({}) [s], h := fromL ({}) [base], lst := fromL ([]) [rest], w := fromL (worldZ) [w], me := fromL (fun _ => none) [mean], qf := fromL (fun _ _ => True) [Q] }
end
section
inductive TupsAre : List (Addr × Obj) → List (Int × Int) → Prop
  | nil : TupsAre [] []
  | cons (a : Addr) (p : Int × Int) (t u : Tok) {ts ps} : TupsAre ts ps → TupsAre ((a, tupO #[.int p.1 t, .int p.2 u] 0) :: ts) (p :: ps)
theorem TupsAre.snoc {ts ps} (h : TupsAre ts ps) (a : Addr) (x y : Int) (t u : Tok) : TupsAre (ts ++ [(a, tupO #[.int x t, .int y u] 0)]) (ps ++ [(x, y)]) := by
  induction h with
  | nil => exact .cons a (x, y) t u .nil
  | cons b p t' u' _ ih => exact .cons b p t' u' ih
theorem TupsAre.len {ts ps} (h : TupsAre ts ps) : ts.length = ps.length := by
  induction h with
  | nil => rfl
  | cons _ _ _ _ _ ih => simp [ih]
theorem TupsAre.get {ts ps} (h : TupsAre ts ps) : ∀ k (h1 : k < ts.length) (h2 : k < ps.length), ∃ t u, ts[k] = (ts[k].1, tupO #[.int ps[k].1 t, .int ps[k].2 u] 0) := by
  induction h with
  | nil => intro k h1; exact absurd h1 (Nat.not_lt_zero k)
  | cons a p t u _ ih =>
    intro k h1 h2
    cases k with
    | zero => exact ⟨t, u, rfl⟩
    | succ k => exact ih k (by simpa using h1) (by simpa using h2)
theorem Fr.wider {h₀ h h' : Heap} {L : Addr} {m : Str → Option Value} (F : Fr h₀ L h m) (hk : ∀ b o, h.get? b = some o → h'.get? b = some o) : Fr h₀ L h' m :=
  ⟨let ⟨o, es, ep, ho, r⟩ := F.ns; ⟨o, es, ep, hk _ _ ho, r⟩, fun b o e => hk b o (F.keep b o e), F.above⟩
theorem News.wider {h₀ h h' : Heap} {L : Addr} {news : List (Addr × Obj)} (N : News h₀ L h news) (hk : ∀ b o, h.get? b = some o → h'.get? b = some o) : News h₀ L h' news :=
  fun p hp => ⟨hk _ _ (N p hp).1, (N p hp).2⟩
noncomputable def leastP (ps : List (Int × Int)) : Int × Int := ps.getD (argBest (fun i j => pairLt (ps.getD i (0, 0)) (ps.getD j (0, 0))) (ps.length - 1)) (0, 0)
noncomputable def mostP (ps : List (Int × Int)) : Int × Int := ps.getD (argBest (fun i j => pairLt (ps.getD j (0, 0)) (ps.getD i (0, 0))) (ps.length - 1)) (0, 0)
theorem argBest_le (bt : Nat → Nat → Bool) : ∀ k, argBest bt k ≤ k
  | 0 => Nat.le_refl _
  | k + 1 => by
    unfold argBest
    have := argBest_le bt k
    split <;> omega
theorem min_led {w : World} {A : Around} {base : Heap} {L : Addr} {m : Str → Option Value} {s : Shared} {Q E : Value → Shared → Prop} {news ts : List (Addr × Obj)} {ps : List (Int × Int)} {Ah : Addr} {cc : Nat}
    (hh : A.handled = none) (hu : A.in1.units < cLine) (F : Fr base L s.heap m) (N : News base L s.heap news) (hA : (Ah, W.listOf (ts.map fun p => Value.ref p.1).toArray cc) ∈ news) (hts : ∀ p ∈ ts, p ∈ news) (hT : TupsAre ts ps) (hne : 0 < ps.length)
    (hret : ∀ (a : Addr) (t u : Tok) (h' : Heap) (tk' : Nat), Fr base L h' m → News base L h' ((a, tupO #[.int (leastP ps).1 t, .int (leastP ps).2 u] 0) :: news) → Q (.ref a) { s with heap := h', toks := tk' }) :
    wpAny (model Challenge.rw_st0007_01.prog w) A (call (.builtin "min") [.ref Ah]) Q E s := by
  have hlen := hT.len
  have hl : s.heap.IsList Ah ((ts.map (·.1)).map Value.ref).toArray := by
    rw [List.map_map]
    exact ⟨_, (N _ hA).1, rfl, cc, rfl⟩
  refine min_pairs (ps := ps) hh hu hl ⟨by simp [hlen], fun k h1 h2 => ?_⟩ (by simp; omega) (fun h' tk hk => ?_)
  · have h1' : k < ts.length := by simpa using h1
    obtain ⟨t, u, e⟩ := hT.get k h1' h2
    refine ⟨t, u, ?_⟩
    rw [List.getElem_map]
    refine ⟨_, (N _ (hts _ (List.getElem_mem h1'))).1, ?_, 0, ?_⟩
    · rw [e]
    · rw [e]
  · have hb := argBest_le (fun i j => pairLt (ps.getD i (0, 0)) (ps.getD j (0, 0))) (ps.length - 1)
    have e1 : (ts.map (·.1)).length = ps.length := by simp [hlen]
    rw [e1]
    unfold leastP at hret
    generalize argBest (fun i j => pairLt (ps.getD i (0, 0)) (ps.getD j (0, 0))) (ps.length - 1) = k at *
    have hk2 : k < ps.length := lt_pred hne hb
    have hk1 : k < ts.length := by rw [hlen]; exact hk2
    obtain ⟨t, u, e⟩ := hT.get k hk1 hk2
    rw [List.getD_eq_getElem?_getD, List.getElem?_map, List.getElem?_eq_getElem hk1]
    rw [List.getD_eq_getElem?_getD, List.getElem?_eq_getElem hk2] at hret
    refine hret _ t u _ _ (Fr.wider F hk) ?_
    intro p hp
    refine mem_cs hp ?_ fun hp => ?_
    · have := News.wider N hk _ (hts _ (List.getElem_mem hk1))
      rw [e] at this
      exact this
    · exact News.wider N hk p hp
theorem max_led {w : World} {A : Around} {base : Heap} {L : Addr} {m : Str → Option Value} {s : Shared} {Q E : Value → Shared → Prop} {news ts : List (Addr × Obj)} {ps : List (Int × Int)} {Ah : Addr} {cc : Nat}
    (hh : A.handled = none) (hu : A.in1.units < cLine) (F : Fr base L s.heap m) (N : News base L s.heap news) (hA : (Ah, W.listOf (ts.map fun p => Value.ref p.1).toArray cc) ∈ news) (hts : ∀ p ∈ ts, p ∈ news) (hT : TupsAre ts ps) (hne : 0 < ps.length)
    (hret : ∀ (a : Addr) (t u : Tok) (h' : Heap) (tk' : Nat), Fr base L h' m → News base L h' ((a, tupO #[.int (mostP ps).1 t, .int (mostP ps).2 u] 0) :: news) → Q (.ref a) { s with heap := h', toks := tk' }) :
    wpAny (model Challenge.rw_st0007_01.prog w) A (call (.builtin "max") [.ref Ah]) Q E s := by
  have hlen := hT.len
  have hl : s.heap.IsList Ah ((ts.map (·.1)).map Value.ref).toArray := by
    rw [List.map_map]
    exact ⟨_, (N _ hA).1, rfl, cc, rfl⟩
  refine max_pairs (ps := ps) hh hu hl ⟨by simp [hlen], fun k h1 h2 => ?_⟩ (by simp; omega) (fun h' tk hk => ?_)
  · have h1' : k < ts.length := by simpa using h1
    obtain ⟨t, u, e⟩ := hT.get k h1' h2
    refine ⟨t, u, ?_⟩
    rw [List.getElem_map]
    refine ⟨_, (N _ (hts _ (List.getElem_mem h1'))).1, ?_, 0, ?_⟩
    · rw [e]
    · rw [e]
  · have hb := argBest_le (fun i j => pairLt (ps.getD j (0, 0)) (ps.getD i (0, 0))) (ps.length - 1)
    have e1 : (ts.map (·.1)).length = ps.length := by simp [hlen]
    rw [e1]
    unfold mostP at hret
    generalize argBest (fun i j => pairLt (ps.getD j (0, 0)) (ps.getD i (0, 0))) (ps.length - 1) = k at *
    have hk2 : k < ps.length := lt_pred hne hb
    have hk1 : k < ts.length := by rw [hlen]; exact hk2
    obtain ⟨t, u, e⟩ := hT.get k hk1 hk2
    rw [List.getD_eq_getElem?_getD, List.getElem?_map, List.getElem?_eq_getElem hk1]
    rw [List.getD_eq_getElem?_getD, List.getElem?_eq_getElem hk2] at hret
    refine hret _ t u _ _ (Fr.wider F hk) ?_
    intro p hp
    refine mem_cs hp ?_ fun hp => ?_
    · have := News.wider N hk _ (hts _ (List.getElem_mem hk1))
      rw [e] at this
      exact this
    · exact News.wider N hk p hp
end
section
noncomputable def strc (a b : Str) : Int := b2i (decide (b.cps.toList < a.cps.toList)) - b2i (decide (a.cps.toList < b.cps.toList))
theorem strcoll_spec {w : World} {mean : ExcName → Option Value} {mg mb : Str → Option Value}
    {dp un : Nat} {gd : Option (List Code)} {cn : Str} {cs : Scope} {ca : Addr} {ccd : Value} {cl : List (Str × Addr)} {outer : List Env} {A₀ : Around} {base h₀ : Heap} {L : Addr} {m : Str → Option Value} {s : Shared} {Q E : Value → Shared → Prop} {news : List (Addr × Obj)}
    {a b : Str} {ta tb : Tok}
    (B : Below A₀ base outer h₀) (F : Fr h₀ L s.heap m) (X : (KX w.params).In h₀) (N : News h₀ L s.heap news) (T : Top topProg lawLoose mean mg mb h₀) (hk : cs.kind = .function)
    (hdp : dp + 20 < recursionLimit) (hun : un + 60 < cLine) 
    (hret : ∀ (t : Tok) (h' : Heap) (tk' : Nat), Fr h₀ L h' m → News h₀ L h' news → Q (.int (strc a b) t) { s with heap := h', toks := tk' }) :
    wpAny (model Challenge.rw_st0007_01.prog w) (W.ktrTop dp un gd cn cs L ca ccd cl outer) (call (.ref 21) [.str a ta, .str b tb]) Q E s := by
  revert X; k_fill; intro X
  refine wpAny_call ?_
  k_dflt cell_enter
  k_steps
  all_goals first | (exact hret _ _ _ (by assumption) (by assumption)) | k_data
end
section
theorem build_none {w : World} {mean : ExcName → Option Value} {mg mb : Str → Option Value}
    {dp un : Nat} {gd : Option (List Code)} {cn : Str} {cs : Scope} {ca : Addr} {ccd : Value} {cl : List (Str × Addr)} {outer : List Env} {A₀ : Around} {base h₀ : Heap} {L : Addr} {m : Str → Option Value} {s : Shared} {Q E : Value → Shared → Prop} {news : List (Addr × Obj)}
    {x : Str} {r : Addr} {t1 : Tok}
    (B : Below A₀ base outer h₀) (F : Fr h₀ L s.heap m) (X : (KX w.params).In h₀) (N : News h₀ L s.heap ((r, { cls := .type "tuple", data := .seq #[.str x t1, .none] }) :: news)) (T : Top topProg lawLoose mean mg mb h₀) (hk : cs.kind = .function)
    (hdp : dp + 20 < recursionLimit) (hun : un + 60 < cLine) 
    (hret : ∀ (t : Tok) (h' : Heap) (tk' : Nat), Fr h₀ L h' m → News h₀ L h' ((r, { cls := .type "tuple", data := .seq #[.str x t1, .none] }) :: news) → Q (.str x t) { s with heap := h', toks := tk' }) :
    wpAny (model Challenge.rw_st0007_01.prog w) (W.ktrTop dp un gd cn cs L ca ccd cl outer) (call (.ref 35) [.ref r]) Q E s := by
  revert X; k_fill; intro X
  refine wpAny_call ?_
  k_dflt cell_enter
  k_steps
  all_goals first | (exact hret _ _ _ (by assumption) (by assumption)) | k_data
theorem build_str {w : World} {mean : ExcName → Option Value} {mg mb : Str → Option Value}
    {dp un : Nat} {gd : Option (List Code)} {cn : Str} {cs : Scope} {ca : Addr} {ccd : Value} {cl : List (Str × Addr)} {outer : List Env} {A₀ : Around} {base h₀ : Heap} {L : Addr} {m : Str → Option Value} {s : Shared} {Q E : Value → Shared → Prop} {news : List (Addr × Obj)}
    {x y : Str} {r : Addr} {t1 t2 : Tok}
    (B : Below A₀ base outer h₀) (F : Fr h₀ L s.heap m) (X : (KX w.params).In h₀) (N : News h₀ L s.heap ((r, { cls := .type "tuple", data := .seq #[.str x t1, .str y t2] }) :: news)) (T : Top topProg lawLoose mean mg mb h₀) (hk : cs.kind = .function)
    (hdp : dp + 20 < recursionLimit) (hun : un + 60 < cLine) (hx : x.length ≤ 1000) (hy : y.length ≤ 1000)
    (hret : ∀ (t : Tok) (h' : Heap) (tk' : Nat), Fr h₀ L h' m → News h₀ L h' ((r, { cls := .type "tuple", data := .seq #[.str x t1, .str y t2] }) :: news) → Q (.str (x ++ "." ++ y) t) { s with heap := h', toks := tk' }) :
    wpAny (model Challenge.rw_st0007_01.prog w) (W.ktrTop dp un gd cn cs L ca ccd cl outer) (call (.ref 35) [.ref r]) Q E s := by
  revert X; k_fill; intro X
  refine wpAny_call ?_
  k_dflt cell_enter
  k_steps
  all_goals first | (exact hret _ _ _ (by assumption) (by assumption)) | k_data
end
section
noncomputable def sgns : Str := Str.ofString "\t\n\r \"#\\a"
theorem sgns_len : sgns.length = 8 := by decide +kernel
local macro_rules | `(tactic| walk_at "subscriptTail") => `(tactic| (k_here; (with_reducible show wpAny _ _ (subscriptTail _ _ (Value.str _ _) (Value.int _ _)) _ _ _); k_dflt (refine' item_str ?k1 ?k2 ?k3 ?_; (case k1 => exact fitsSsize_of (N := 9) (by omega) (by omega) (by decide)); (case k2 => (show -((sgns.length : Nat) : Int) ≤ _); rw [sgns_len]; omega); (case k3 => (show _ < ((sgns.length : Nat) : Int)); rw [sgns_len]; omega)); intro _))
theorem word_0 {w : World} {mean : ExcName → Option Value} {mg mb : Str → Option Value}
    {dp un : Nat} {gd : Option (List Code)} {cn : Str} {cs : Scope} {ca : Addr} {ccd : Value} {cl : List (Str × Addr)} {outer : List Env} {A₀ : Around} {base h₀ : Heap} {L : Addr} {m : Str → Option Value} {s : Shared} {Q E : Value → Shared → Prop} {news : List (Addr × Obj)}
    {z y : Int} {t1 t2 : Tok}
    (B : Below A₀ base outer h₀) (F : Fr h₀ L s.heap m) (X : (KX w.params).In h₀) (N : News h₀ L s.heap news) (T : Top topProg lawLoose mean mg mb h₀) (hk : cs.kind = .function)
    (hdp : dp + 20 < recursionLimit) (hun : un + 60 < cLine) (hz : z = 0)
    (hret : ∀ (t : Tok) (h' : Heap) (tk' : Nat), Fr h₀ L h' m → News h₀ L h' news → Q (.str (Str.ofString "") t) { s with heap := h', toks := tk' }) :
    wpAny (model Challenge.rw_st0007_01.prog w) (W.ktrTop dp un gd cn cs L ca ccd cl outer) (call (.ref 98) [.int z t1, .int y t2]) Q E s := by
  revert X; k_fill; intro X
  refine wpAny_call ?_
  k_dflt cell_enter
  k_steps
  all_goals first | (exact hret _ _ _ (by assumption) (by first | assumption | (refine' cb_drop ?cbN ?cbS; (case cbN => assumption); (case cbS => kcj_all)))) | (exfalso; omega) | k_data
local macro_rules | `(tactic| walk_at "call ref") => `(tactic| (k_here; ksl_open word_0))
@[reducible] noncomputable def word_1_S (w : World) (mean : ExcName → Option Value) (mg mb : Str → Option Value) (dp un : Nat) (gd : Option (List Code)) (cn : Str) (cs : Scope) (ca : Addr) (ccd : Value) (cl : List (Str × Addr)) (outer : List Env) (A₀ : Around) (base h₀ : Heap) (L : Addr) (m : Str → Option Value) (s : Shared) (Q E : Value → Shared → Prop) (news : List (Addr × Obj)) (c : Int) (t1 t2 : Tok) : Prop := ∀ {y : Int} (B : Below A₀ base outer h₀) (F : Fr h₀ L s.heap m) (X : (KX w.params).In h₀) (N : News h₀ L s.heap news) (T : Top topProg lawLoose mean mg mb h₀) (hk : cs.kind = .function) (hdp : dp + 30 < recursionLimit) (hun : un + 100 < cLine) (h1 : 1 ≤ c) (h2 : c ≤ 8) (hy : y = 1) (hret : ∀ (t : Tok) (h' : Heap) (tk' : Nat), Fr h₀ L h' m → News h₀ L h' news → Q (.str (Txt.item sgns (c-1) ++ Str.ofString "") t) { s with heap := h', toks := tk' }), wpAny (model Challenge.rw_st0007_01.prog w) (W.ktrTop dp un gd cn cs L ca ccd cl outer) (call (.ref 98) [.int c t1, .int y t2]) Q E s
namespace word_1_K
@[irreducible] noncomputable def pt : Cx := bad fun c => word_1_S (c.w 0) (c.me 0) (c.m 0) (c.m 1) (c.n 0) (c.n 1) (c.gd 0) (c.st 0) (c.sc 0) (c.n 2) (c.v 0) (c.cl 0) (c.le 0) (c.ar 0) (c.h 0) (c.h 1) (c.n 3) (c.m 2) (c.sh 0) (c.qv 0) (c.qv 1) (c.lo 0) (c.i 0) (c.n 4) (c.n 5)
@[irreducible] noncomputable def c : Int := pt.i 0
theorem main : word_1_S (pt.w 0) (pt.me 0) (pt.m 0) (pt.m 1) (pt.n 0) (pt.n 1) (pt.gd 0) (pt.st 0) (pt.sc 0) (pt.n 2) (pt.v 0) (pt.cl 0) (pt.le 0) (pt.ar 0) (pt.h 0) (pt.h 1) (pt.n 3) (pt.m 2) (pt.sh 0) (pt.qv 0) (pt.qv 1) (pt.lo 0) c (pt.n 4) (pt.n 5) := by
  intro y B F X N T hk hdp hun h1 h2 hy hret
  subst hy
  have hq : Int.fdiv (c - 1) 1 = c - 1 := by simp
  have hm : Int.fmod (c - 1) 1 = 0 := by simp
  rw [← hq] at hret
  revert X; k_fill; intro X
  refine wpAny_call ?_
  k_dflt cell_enter
  k_steps
  all_goals first | (exact hret _ _ _ (by assumption) (by first | assumption | (refine' cb_drop ?cbN ?cbS; (case cbN => assumption); (case cbS => kcj_all)))) | (exfalso; omega) | k_data
end word_1_K
theorem word_1 {w : World} {mean : ExcName → Option Value} {mg mb : Str → Option Value} {dp un : Nat} {gd : Option (List Code)} {cn : Str} {cs : Scope} {ca : Addr} {ccd : Value} {cl : List (Str × Addr)} {outer : List Env} {A₀ : Around} {base h₀ : Heap} {L : Addr} {m : Str → Option Value} {s : Shared} {Q E : Value → Shared → Prop} {news : List (Addr × Obj)} {c : Int} {t1 t2 : Tok} : word_1_S w mean mg mb dp un gd cn cs ca ccd cl outer A₀ base h₀ L m s Q E news c t1 t2 := @by_bad (fun c => word_1_S (c.w 0) (c.me 0) (c.m 0) (c.m 1) (c.n 0) (c.n 1) (c.gd 0) (c.st 0) (c.sc 0) (c.n 2) (c.v 0) (c.cl 0) (c.le 0) (c.ar 0) (c.h 0) (c.h 1) (c.n 3) (c.m 2) (c.sh 0) (c.qv 0) (c.qv 1) (c.lo 0) (c.i 0) (c.n 4) (c.n 5)) (by with_unfolding_all exact word_1_K.main) { cx0 with n := fromL (0) [dp, un, ca, L, t1, t2], i := fromL (0) [c], st := fromL (Str.empty) [cn], lo := fromL ([]) [news], v := fromL (.none) [ccd], m := fromL (fun _ => none) [mg, mb, m], sh := fromL ({}) [s], h := fromL ({}) [base, h₀], ar := fromL (aroundZ) [A₀], w := fromL (worldZ) [w], me := fromL (fun _ => none) [mean], qv := fromL (fun _ _ => True) [Q, E], sc := fromL (default) [cs], gd := fromL (none) [gd], cl := fromL ([]) [cl], le := fromL ([]) [outer] }
local macro_rules | `(tactic| walk_at "call ref") => `(tactic| (k_here; ksl_open word_1))
noncomputable def wordT (c : Int) : Str := if c = 0 then Str.ofString "" else Txt.item sgns (Int.fdiv (c - 1) 9) ++ (if Int.fmod (c - 1) 9 = 0 then Str.ofString "" else Txt.item sgns (Int.fmod (c - 1) 9 - 1) ++ Str.ofString "")
@[reducible] noncomputable def word_2_S (w : World) (mean : ExcName → Option Value) (mg mb : Str → Option Value) (dp un : Nat) (gd : Option (List Code)) (cn : Str) (cs : Scope) (ca : Addr) (ccd : Value) (cl : List (Str × Addr)) (outer : List Env) (A₀ : Around) (base h₀ : Heap) (L : Addr) (m : Str → Option Value) (s : Shared) (Q E : Value → Shared → Prop) (news : List (Addr × Obj)) (t1 t2 : Tok) : Prop := ∀ {c : Int} (B : Below A₀ base outer h₀) (F : Fr h₀ L s.heap m) (X : (KX w.params).In h₀) (N : News h₀ L s.heap news) (T : Top topProg lawLoose mean mg mb h₀) (hk : cs.kind = .function) (hdp : dp + 40 < recursionLimit) (hun : un + 140 < cLine) (h1 : 0 ≤ c) (h2 : c ≤ 72) (hret : ∀ (t : Tok) (h' : Heap) (tk' : Nat), Fr h₀ L h' m → News h₀ L h' news → Q (.str (wordT c) t) { s with heap := h', toks := tk' }), wpAny (model Challenge.rw_st0007_01.prog w) (W.ktrTop dp un gd cn cs L ca ccd cl outer) (call (.ref 98) [.int c t1, .int 9 t2]) Q E s
namespace word_2_K
@[irreducible] noncomputable def pt : Cx := bad fun c => word_2_S (c.w 0) (c.me 0) (c.m 0) (c.m 1) (c.n 0) (c.n 1) (c.gd 0) (c.st 0) (c.sc 0) (c.n 2) (c.v 0) (c.cl 0) (c.le 0) (c.ar 0) (c.h 0) (c.h 1) (c.n 3) (c.m 2) (c.sh 0) (c.qv 0) (c.qv 1) (c.lo 0) (c.n 4) (c.n 5)
theorem main : word_2_S (pt.w 0) (pt.me 0) (pt.m 0) (pt.m 1) (pt.n 0) (pt.n 1) (pt.gd 0) (pt.st 0) (pt.sc 0) (pt.n 2) (pt.v 0) (pt.cl 0) (pt.le 0) (pt.ar 0) (pt.h 0) (pt.h 1) (pt.n 3) (pt.m 2) (pt.sh 0) (pt.qv 0) (pt.qv 1) (pt.lo 0) (pt.n 4) (pt.n 5) := by
  intro c B F X N T hk hdp hun h1 h2 hret
  by_cases hc : c = 0
  · subst hc
    exact word_0 B F X N T hk (by omega) (by omega) rfl hret
  have hq0 : 0 ≤ Int.fdiv (c - 1) 9 := by rw [Int.fdiv_eq_ediv_of_nonneg _ (by decide)]; omega
  have hq1 : Int.fdiv (c - 1) 9 < 8 := by rw [Int.fdiv_eq_ediv_of_nonneg _ (by decide)]; omega
  have hm0 : 0 ≤ Int.fmod (c - 1) 9 := by rw [Int.fmod_eq_emod_of_nonneg _ (by decide)]; omega
  have hm1 : Int.fmod (c - 1) 9 < 9 := by rw [Int.fmod_eq_emod_of_nonneg _ (by decide)]; omega
  unfold wordT at hret
  rw [if_neg hc] at hret
  rcases Int.lt_or_eq_of_le hm0 with hp | hz
  · rw [if_neg (by omega)] at hret
    revert X; k_fill; intro X
    refine wpAny_call ?_
    k_dflt cell_enter
    k_steps
    all_goals first | (exact hret _ _ _ (by assumption) (by first | assumption | (refine' cb_drop ?cbN ?cbS; (case cbN => assumption); (case cbS => kcj_all)))) | (exfalso; omega) | k_data
  · have hz := hz.symm
    rw [if_pos hz] at hret
    revert X; k_fill; intro X
    refine wpAny_call ?_
    k_dflt cell_enter
    k_steps
    all_goals first | (exact hret _ _ _ (by assumption) (by first | assumption | (refine' cb_drop ?cbN ?cbS; (case cbN => assumption); (case cbS => kcj_all)))) | (exfalso; omega) | k_data
end word_2_K
theorem word_2 {w : World} {mean : ExcName → Option Value} {mg mb : Str → Option Value} {dp un : Nat} {gd : Option (List Code)} {cn : Str} {cs : Scope} {ca : Addr} {ccd : Value} {cl : List (Str × Addr)} {outer : List Env} {A₀ : Around} {base h₀ : Heap} {L : Addr} {m : Str → Option Value} {s : Shared} {Q E : Value → Shared → Prop} {news : List (Addr × Obj)} {t1 t2 : Tok} : word_2_S w mean mg mb dp un gd cn cs ca ccd cl outer A₀ base h₀ L m s Q E news t1 t2 := @by_bad (fun c => word_2_S (c.w 0) (c.me 0) (c.m 0) (c.m 1) (c.n 0) (c.n 1) (c.gd 0) (c.st 0) (c.sc 0) (c.n 2) (c.v 0) (c.cl 0) (c.le 0) (c.ar 0) (c.h 0) (c.h 1) (c.n 3) (c.m 2) (c.sh 0) (c.qv 0) (c.qv 1) (c.lo 0) (c.n 4) (c.n 5)) (by with_unfolding_all exact word_2_K.main) { cx0 with n := fromL (0) [dp, un, ca, L, t1, t2], st := fromL (Str.empty) [cn], lo := fromL ([]) [news], v := fromL (.none) [ccd], m := fromL (fun _ => none) [mg, mb, m], sh := fromL ({}) [s], h := fromL ({}) [base, h₀], ar := fromL (aroundZ) [A₀], w := fromL (worldZ) [w], me := fromL (fun _ => none) [mean], qv := fromL (fun _ _ => True) [Q, E], sc := fromL (default) [cs], gd := fromL (none) [gd], cl := fromL ([]) [cl], le := fromL ([]) [outer] }
end
section
noncomputable def escS (H : Str) (c : Nat) : Str := if (Builtin.Str.occurrences H ⟨#[c]⟩ 0 H.length 1).isEmpty = true then ⟨#[c]⟩ else Str.ofString "\\" ++ ⟨#[c]⟩
theorem escS_len (H : Str) (c : Nat) : (escS H c).length ≤ 2 := by
  unfold escS
  split
  · show (1 : Nat) ≤ 2; omega
  · show ((Str.ofString "\\") ++ (⟨#[c]⟩ : Str)).length ≤ 2
    rw [Str.length_append]
    have h1 : (Str.ofString "\\").length = 1 := by decide +kernel
    have h2 : (⟨#[c]⟩ : Str).length = 1 := rfl
    omega
theorem esc_sum (H : Str) : ∀ l : List Nat, ((l.map (escS H)).map (·.length)).sum ≤ 2 * l.length
  | [] => Nat.le_refl _
  | c :: r => by
    have := esc_sum H r
    have h := escS_len H c
    simp only [List.map_cons, List.sum_cons, List.length_cons]
    omega
noncomputable def bodyT (H x : Str) : Str := Txt.join (Str.ofString "") (x.cps.toList.map (escS H))
theorem esc_ok {H x : Str} (hx : x.length ≤ 2) : ((x.cps.toList.map (escS H)).map (·.length)).sum + (x.cps.toList.map (escS H)).length * (Str.ofString "").length ≤ 16777216 := by
  have h := esc_sum H x.cps.toList
  have e : x.cps.toList.length = x.length := Array.length_toList
  have z : (Str.ofString "").length = 0 := by decide +kernel
  rw [z, Nat.mul_zero, Nat.add_zero]
  exact Nat.le_trans h (by rw [e]; exact Nat.le_trans (Nat.mul_le_mul_left 2 hx) (by decide))
theorem body_len {H x : Str} (hx : x.length ≤ 2) : (Txt.join (Str.ofString "") (x.cps.toList.map (escS H))).length ≤ 4 := by
  have h := esc_sum H x.cps.toList
  have e : x.cps.toList.length = x.length := Array.length_toList
  have z : (Str.ofString "").length = 0 := by decide +kernel
  have j := StrLaws.join_length_le (Str.ofString "") (x.cps.toList.map (escS H))
  rw [z] at j
  rw [show Txt.join (Str.ofString "") (x.cps.toList.map (escS H)) = Str.join (Str.ofString "") (x.cps.toList.map (escS H)) from StrLaws.glued_eq_join _ _]
  exact Nat.le_trans j (by rw [Nat.mul_zero, Nat.add_zero]; exact Nat.le_trans h (by rw [e]; exact (Nat.mul_le_mul_left 2 hx : 2 * x.length ≤ 2 * 2)))
noncomputable def hidT (x : Str) (y : Int) : Str := pick4 y (Str.ofString "\"\\") x x (if (Txt.slice x none (some 1) == Str.ofString "\"") = true then Str.ofString "\t\n\r \\\"" else Str.ofString "\t\n\r \\")
noncomputable def writtenT (x : Str) (y : Int) (g : Str) : Str :=
  if y < 2 then Str.ofString "\"" ++ bodyT (hidT x y) x ++ Str.ofString "\"" ++ g
  else if (x == Str.ofString "") = true then Str.ofString "\"" ++ bodyT (hidT x y) x ++ Str.ofString "\"" ++ g
  else if (g.length : Int) ≠ 0 then bodyT (hidT x y) x ++ g else bodyT (hidT x y) x ++ Str.ofString "\r"
local macro_rules | `(tactic| walk_at "subscriptTail") => `(tactic| (k_here; k_dflt (refine' item_str4 (News.isList (by k_asm) (by k_mem)) ?_ ?_ ?_; omega; omega); intro _))
local macro_rules | `(tactic| walk_at "call builtin:str.join") => `(tactic| (k_here; k_dflt (refine' join_list ?k1 ?k2 ?k3 ?_; (case k1 => exact News.isList (by k_asm) (by k_mem)); (case k2 => (with_reducible assumption)); (case k3 => first | assumption | exact esc_ok (by assumption)); k_whole); intro _ _))
@[reducible] noncomputable def written_w_S (w : World) (mean : ExcName → Option Value) (mg mb : Str → Option Value) (dp un : Nat) (gd : Option (List Code)) (cn : Str) (cs : Scope) (ca : Addr) (ccd : Value) (cl : List (Str × Addr)) (outer : List Env) (A₀ : Around) (base h₀ : Heap) (L : Addr) (m : Str → Option Value) (s : Shared) (Q E : Value → Shared → Prop) (news : List (Addr × Obj)) (x g : Str) (y : Int) (t1 t2 t3 : Tok) : Prop := ∀ (B : Below A₀ base outer h₀) (F : Fr h₀ L s.heap m) (X : (KX w.params).In h₀) (N : News h₀ L s.heap news) (T : Top topProg lawLoose mean mg mb h₀) (hk : cs.kind = .function) (hdp : dp + 30 < recursionLimit) (hun : un + 100 < cLine) (hy0 : 0 ≤ y) (hy1 : y ≤ 3) (hx : x.length ≤ 2) (hg : g.length ≤ 2) (hret : ∀ (t : Tok) (h' : Heap) (tk' : Nat), Fr h₀ L h' m → News h₀ L h' news → Q (.str (writtenT x y g) t) { s with heap := h', toks := tk' }), wpAny (model Challenge.rw_st0007_01.prog w) (W.ktrTop dp un gd cn cs L ca ccd cl outer) (call (.ref 103) [.str x t1, .int y t2, .str g t3]) Q E s
namespace written_w_K
@[irreducible] noncomputable def pt : Cx := bad fun c => written_w_S (c.w 0) (c.me 0) (c.m 0) (c.m 1) (c.n 0) (c.n 1) (c.gd 0) (c.st 0) (c.sc 0) (c.n 2) (c.v 0) (c.cl 0) (c.le 0) (c.ar 0) (c.h 0) (c.h 1) (c.n 3) (c.m 2) (c.sh 0) (c.qv 0) (c.qv 1) (c.lo 0) (c.st 1) (c.st 2) (c.i 0) (c.n 4) (c.n 5) (c.n 6)
@[irreducible] noncomputable def Q : Value → Shared → Prop := pt.qv 0
@[irreducible] noncomputable def x : Str := pt.st 1
@[irreducible] noncomputable def y : Int := pt.i 0
theorem main : written_w_S (pt.w 0) (pt.me 0) (pt.m 0) (pt.m 1) (pt.n 0) (pt.n 1) (pt.gd 0) (pt.st 0) (pt.sc 0) (pt.n 2) (pt.v 0) (pt.cl 0) (pt.le 0) (pt.ar 0) (pt.h 0) (pt.h 1) (pt.n 3) (pt.m 2) (pt.sh 0) Q (pt.qv 1) (pt.lo 0) x (pt.st 2) y (pt.n 4) (pt.n 5) (pt.n 6) := by
  intro B F X N T hk hdp hun hy0 hy1 hx hg hret
  have hmk101 := MarkH.mk (n := 101)
  revert X; k_fill; intro X
  refine wpAny_call ?_
  k_dflt (refine' code_defC ?k1 ?k2 ?k3 ?k4 ?k5 ?kA ?kF ?kK ?k6 ?k7 ?k8 ?k9 ?kB ?kD ?_ ?c2 ?c3 ?c4; (case kA => exact rfl); (case kF => exact rfl); (case kK => assumption); (case k1 => k_asm); (case k2 => k_asm); (case k3 => k_asm); (case k4 => k_asm); (case k5 => k_asm); (case k6 => k_is); (case k7 => k_is); (case k8 => ktr_room); (case k9 => exact BindsTo.of_eq rfl); (case kB => exact rfl); (case kD => decide +kernel); (case c2 => exact rfl); (case c3 => exact rfl); (case c4 => exact rfl); k_whole; intro g' L' h' tk' cells' FG' F' N' Y' B' X' T' l1; (try k_lt l1); k_cells Y'; (try simp only [List.cons_append, List.nil_append] at N'); (try dsimp only); (try k_lift B'); (try k_fold))
  k_steps
  · refine Hold.on ?_
    have hH : hidT x y = pick4 y (Str.ofString "\"\\") x x (Str.ofString "\t\n\r \\\"") := by unfold hidT; first | rw [if_pos (by assumption)] | rw [if_neg (by simp_all)]
    k_dflt (refine' ListComp_S x ?c0 ?c1 ?c2 ?c3 ?c4 ?c5 ?_)
    case c0 => k_asm
    case c1 => exact rfl
    case c2 => decide
    case c3 => rfl
    case c4 => decide
    case c5 => rfl
    walk1
    refine ⟨_, _, rfl, rfl, by k_asm, by k_asm, by (show x.length ≤ sizeLine; size_fits), ?_⟩
    rintro s₂ ⟨hc9, rfl⟩
    refine' cst_rest (escS (pick4 y (Str.ofString "\"\\") x x (Str.ofString "\t\n\r \\\""))) (fun c' t' I' oI' C' oC' D' m' ys' h' tk' E' hk' hC' hx' F' N' off' ne' => ?_) ?_
    · k_steps
      · exact LCg.CompEnd.intro (by k_asm) N' _ (fun p hp => hp) off' trivial ⟨rfl, _, by simp only [escS]; rw [if_pos (by simp_all)]⟩
      · exact LCg.CompEnd.intro (by k_asm) N' _ (fun p hp => hp) off' trivial ⟨rfl, _, by simp only [escS]; rw [if_neg (by simp_all)]⟩
    intro ys9 hys9 D9 h9 tk9 F9 N9 off9
    dsimp only
    have hb9 := body_len (H := pick4 y (Str.ofString "\"\\") x x (Str.ofString "\t\n\r \\\"")) hx
    replace hys9 : StrsAre ys9.toArray.toList _ := hys9
    k_steps
    all_goals (exact cb_retS (Q := Q) hret (by (unfold writtenT; rw [hH]; first | (rw [if_pos (by assumption)]; exact rfl) | (rw [if_neg (by assumption), if_pos (by assumption)]; exact rfl) | (rw [if_neg (by assumption), if_neg (by rw [Bool.not_eq_true]; assumption), if_pos (by assumption)]; exact rfl) | (rw [if_neg (by assumption), if_neg (by rw [Bool.not_eq_true]; assumption), if_neg (by omega)]; exact rfl))) (by assumption) (by first | assumption | exact cb_drop (by assumption) (by kcj_all)))
  · refine Hold.on ?_
    have hH : hidT x y = pick4 y (Str.ofString "\"\\") x x (Str.ofString "\t\n\r \\") := by unfold hidT; first | rw [if_pos (by assumption)] | rw [if_neg (by simp_all)]
    k_dflt (refine' ListComp_S x ?c0 ?c1 ?c2 ?c3 ?c4 ?c5 ?_)
    case c0 => k_asm
    case c1 => exact rfl
    case c2 => decide
    case c3 => rfl
    case c4 => decide
    case c5 => rfl
    walk1
    refine ⟨_, _, rfl, rfl, by k_asm, by k_asm, by (show x.length ≤ sizeLine; size_fits), ?_⟩
    rintro s₂ ⟨hc9, rfl⟩
    refine' cst_rest (escS (pick4 y (Str.ofString "\"\\") x x (Str.ofString "\t\n\r \\"))) (fun c' t' I' oI' C' oC' D' m' ys' h' tk' E' hk' hC' hx' F' N' off' ne' => ?_) ?_
    · k_steps
      · exact LCg.CompEnd.intro (by k_asm) N' _ (fun p hp => hp) off' trivial ⟨rfl, _, by simp only [escS]; rw [if_pos (by simp_all)]⟩
      · exact LCg.CompEnd.intro (by k_asm) N' _ (fun p hp => hp) off' trivial ⟨rfl, _, by simp only [escS]; rw [if_neg (by simp_all)]⟩
    intro ys9 hys9 D9 h9 tk9 F9 N9 off9
    dsimp only
    have hb9 := body_len (H := pick4 y (Str.ofString "\"\\") x x (Str.ofString "\t\n\r \\")) hx
    replace hys9 : StrsAre ys9.toArray.toList _ := hys9
    k_steps
    all_goals (exact cb_retS (Q := Q) hret (by (unfold writtenT; rw [hH]; first | (rw [if_pos (by assumption)]; exact rfl) | (rw [if_neg (by assumption), if_pos (by assumption)]; exact rfl) | (rw [if_neg (by assumption), if_neg (by rw [Bool.not_eq_true]; assumption), if_pos (by assumption)]; exact rfl) | (rw [if_neg (by assumption), if_neg (by rw [Bool.not_eq_true]; assumption), if_neg (by omega)]; exact rfl))) (by assumption) (by first | assumption | exact cb_drop (by assumption) (by kcj_all)))
end written_w_K
theorem written_w {w : World} {mean : ExcName → Option Value} {mg mb : Str → Option Value} {dp un : Nat} {gd : Option (List Code)} {cn : Str} {cs : Scope} {ca : Addr} {ccd : Value} {cl : List (Str × Addr)} {outer : List Env} {A₀ : Around} {base h₀ : Heap} {L : Addr} {m : Str → Option Value} {s : Shared} {Q E : Value → Shared → Prop} {news : List (Addr × Obj)} {x g : Str} {y : Int} {t1 t2 t3 : Tok} : written_w_S w mean mg mb dp un gd cn cs ca ccd cl outer A₀ base h₀ L m s Q E news x g y t1 t2 t3 := @by_bad (fun c => written_w_S (c.w 0) (c.me 0) (c.m 0) (c.m 1) (c.n 0) (c.n 1) (c.gd 0) (c.st 0) (c.sc 0) (c.n 2) (c.v 0) (c.cl 0) (c.le 0) (c.ar 0) (c.h 0) (c.h 1) (c.n 3) (c.m 2) (c.sh 0) (c.qv 0) (c.qv 1) (c.lo 0) (c.st 1) (c.st 2) (c.i 0) (c.n 4) (c.n 5) (c.n 6)) (by with_unfolding_all exact written_w_K.main) { cx0 with n := fromL (0) [dp, un, ca, L, t1, t2, t3], i := fromL (0) [y], st := fromL (Str.empty) [cn, x, g], lo := fromL ([]) [news], v := fromL (.none) [ccd], m := fromL (fun _ => none) [mg, mb, m], sh := fromL ({}) [s], h := fromL ({}) [base, h₀], ar := fromL (aroundZ) [A₀], w := fromL (worldZ) [w], me := fromL (fun _ => none) [mean], qv := fromL (fun _ _ => True) [Q, E], sc := fromL (default) [cs], gd := fromL (none) [gd], cl := fromL ([]) [cl], le := fromL ([]) [outer] }
end
section
noncomputable def six (k : Int) (v p q t : UInt64) : UInt64 × UInt64 × UInt64 := if k = 0 then (v, t, p) else if k = 1 then (q, v, p) else if k = 2 then (p, v, t) else if k = 3 then (p, q, v) else if k = 4 then (t, p, v) else (v, p, q)
theorem six_0 {k : Int} (e : k = 0) {v p q t : UInt64} : six k v p q t = (v, t, p) := by subst e; rfl
theorem six_1 {k : Int} (e : k = 1) {v p q t : UInt64} : six k v p q t = (q, v, p) := by subst e; rfl
theorem six_2 {k : Int} (e : k = 2) {v p q t : UInt64} : six k v p q t = (p, v, t) := by subst e; rfl
theorem six_3 {k : Int} (e : k = 3) {v p q t : UInt64} : six k v p q t = (p, q, v) := by subst e; rfl
theorem six_4 {k : Int} (e : k = 4) {v p q t : UInt64} : six k v p q t = (t, p, v) := by subst e; rfl
theorem six_5 {k : Int} (e : k = 5) {v p q t : UInt64} : six k v p q t = (v, p, q) := by subst e; rfl
noncomputable def hsvF (h s v : UInt64) (i : Int) : UInt64 × UInt64 × UInt64 :=
  six (Int.fmod i 6) v (Float64.mul v (Float64.sub 4607182418800017408 s)) (Float64.mul v (Float64.sub 4607182418800017408 (Float64.mul s (Float64.sub (Float64.mul h 4618441417868443648) (Float64.ofInt i)))))
    (Float64.mul v (Float64.sub 4607182418800017408 (Float64.mul s (Float64.sub 4607182418800017408 (Float64.sub (Float64.mul h 4618441417868443648) (Float64.ofInt i))))))
noncomputable abbrev tup3 (a b c : Value) : Obj := { cls := .type "tuple", data := .seq #[a, b, c] }
@[reducible] noncomputable def hsv_w_S (w : World) (mean : ExcName → Option Value) (mg mb : Str → Option Value) (dp un : Nat) (gd : Option (List Code)) (cn : Str) (cs : Scope) (ca : Addr) (ccd : Value) (cl : List (Str × Addr)) (outer : List Env) (A₀ : Around) (base h₀ : Heap) (L : Addr) (m : Str → Option Value) (s : Shared) (Q E : Value → Shared → Prop) (news : List (Addr × Obj)) (h s9 v : UInt64) (u1 u2 u3 : Tok) : Prop := ∀ {i : Int} (B : Below A₀ base outer h₀) (F : Fr h₀ L s.heap m) (X : (KX w.params).In h₀) (N : News h₀ L s.heap news) (T : Top topProg lawLoose mean mg mb h₀) (hk : cs.kind = .function) (hdp : dp + 20 < recursionLimit) (hun : un + 60 < cLine) (h0t : 0 < s.toks) (h0a : u3 ≠ 0) (hs : (Float64.cmp s9 0 == some Ordering.eq) = false) (hnan : Float64.isNaN (Float64.mul h 4618441417868443648) = false) (hinf : Float64.isInf (Float64.mul h 4618441417868443648) = false) (hi : Flt.toInt Float64.truncOf (Float64.mul h 4618441417868443648) = i) (hb : i.natAbs < 2 ^ 1024 - 2 ^ 970) (hret : ∀ (D : Addr) (t1 t2 t3 : Tok) (h' : Heap) (tk' : Nat) (_ : t1 ≠ 0 ∧ t2 ≠ 0 ∧ t3 ≠ 0 ∧ 0 < tk'), Fr h₀ L h' m → News h₀ L h' ((D, tup3 (.float (hsvF h s9 v i).1 t1) (.float (hsvF h s9 v i).2.1 t2) (.float (hsvF h s9 v i).2.2 t3)) :: news) → Q (.ref D) { s with heap := h', toks := tk' }), wpAny (model Challenge.rw_st0007_01.prog w) (W.ktrTop dp un gd cn cs L ca ccd cl outer) (call (.ref 49) [.float h u1, .float s9 u2, .float v u3]) Q E s
namespace hsv_w_K
@[irreducible] noncomputable def pt : Cx := bad fun c => hsv_w_S (c.w 0) (c.me 0) (c.m 0) (c.m 1) (c.n 0) (c.n 1) (c.gd 0) (c.st 0) (c.sc 0) (c.n 2) (c.v 0) (c.cl 0) (c.le 0) (c.ar 0) (c.h 0) (c.h 1) (c.n 3) (c.m 2) (c.sh 0) (c.qv 0) (c.qv 1) (c.lo 0) (c.u 0) (c.u 1) (c.u 2) (c.n 4) (c.n 5) (c.n 6)
@[irreducible] noncomputable def h : UInt64 := pt.u 0
noncomputable def cut : { R : ((Heap) → (Nat) → (Heap) → Prop) // Hid ((∀ z0 z1 z2, R z0 z1 z2)) → hsv_w_S (pt.w 0) (pt.me 0) (pt.m 0) (pt.m 1) (pt.n 0) (pt.n 1) (pt.gd 0) (pt.st 0) (pt.sc 0) (pt.n 2) (pt.v 0) (pt.cl 0) (pt.le 0) (pt.ar 0) (pt.h 0) (pt.h 1) (pt.n 3) (pt.m 2) (pt.sh 0) (pt.qv 0) (pt.qv 1) (pt.lo 0) h (pt.u 1) (pt.u 2) (pt.n 4) (pt.n 5) (pt.n 6) } := by
  refine' ⟨_, fun H1 => _⟩
  rotate_left 1
  · intro i B F X N T hk hdp hun h0t h0a hs hnan hinf hi hb hret
    have hmk100 := MarkH.mk (n := 100)
    subst hi
    have hm0 : 0 ≤ Int.fmod (Flt.toInt Float64.truncOf (Float64.mul h 4618441417868443648)) 6 := by rw [Int.fmod_eq_emod_of_nonneg _ (by decide)]; omega
    have hm1 : Int.fmod (Flt.toInt Float64.truncOf (Float64.mul h 4618441417868443648)) 6 < 6 := by rw [Int.fmod_eq_emod_of_nonneg _ (by decide)]; omega
    unfold hsvF at hret
    revert X; k_fill; intro X
    refine wpAny_call ?_
    k_dflt cell_enter
    rename_i g'' L'' h'' FG'' F'' N'' B'' X'' T''
    revert B F N T hk hdp hun h0t h0a hs hnan hinf hb hret hm0 hm1 X FG'' F'' N'' B'' X'' T'' qk ek
    exact no_implicit_lambda% (H1.h g'' L'' h'')
@[irreducible] noncomputable def apt : Cx := bad fun c => cut.1 (c.h 0) (c.n 0) (c.h 1)
namespace a
theorem amain : cut.1 (apt.h 0) (apt.n 0) (apt.h 1) := by
  intro B F N T hk hdp hun h0t h0a hs hnan hinf hb hret hm0 hm1 X FG'' F'' N'' B'' X'' T'' qk ek
  have hmk100 := MarkH.mk (n := 100)
  k_steps
  all_goals first
    | (rw [six_0 (k := Int.fmod (Flt.toInt Float64.truncOf (Float64.mul h 4618441417868443648)) 6) (by assumption)] at hret; (refine' hret _ _ _ _ _ _ ?g9 ?f9 ?n9; (case f9 => assumption); (case n9 => assumption); (case g9 => refine ⟨?_, ?_, ?_, ?_⟩ <;> first | assumption | omega | exact Nat.ne_of_gt (by omega))))
    | (rw [six_1 (k := Int.fmod (Flt.toInt Float64.truncOf (Float64.mul h 4618441417868443648)) 6) (by assumption)] at hret; (refine' hret _ _ _ _ _ _ ?g9 ?f9 ?n9; (case f9 => assumption); (case n9 => assumption); (case g9 => refine ⟨?_, ?_, ?_, ?_⟩ <;> first | assumption | omega | exact Nat.ne_of_gt (by omega))))
    | (rw [six_2 (k := Int.fmod (Flt.toInt Float64.truncOf (Float64.mul h 4618441417868443648)) 6) (by assumption)] at hret; (refine' hret _ _ _ _ _ _ ?g9 ?f9 ?n9; (case f9 => assumption); (case n9 => assumption); (case g9 => refine ⟨?_, ?_, ?_, ?_⟩ <;> first | assumption | omega | exact Nat.ne_of_gt (by omega))))
    | (rw [six_3 (k := Int.fmod (Flt.toInt Float64.truncOf (Float64.mul h 4618441417868443648)) 6) (by assumption)] at hret; (refine' hret _ _ _ _ _ _ ?g9 ?f9 ?n9; (case f9 => assumption); (case n9 => assumption); (case g9 => refine ⟨?_, ?_, ?_, ?_⟩ <;> first | assumption | omega | exact Nat.ne_of_gt (by omega))))
    | (rw [six_4 (k := Int.fmod (Flt.toInt Float64.truncOf (Float64.mul h 4618441417868443648)) 6) (by assumption)] at hret; (refine' hret _ _ _ _ _ _ ?g9 ?f9 ?n9; (case f9 => assumption); (case n9 => assumption); (case g9 => refine ⟨?_, ?_, ?_, ?_⟩ <;> first | assumption | omega | exact Nat.ne_of_gt (by omega))))
    | (rw [six_5 (k := Int.fmod (Flt.toInt Float64.truncOf (Float64.mul h 4618441417868443648)) 6) (by assumption)] at hret; (refine' hret _ _ _ _ _ _ ?g9 ?f9 ?n9; (case f9 => assumption); (case n9 => assumption); (case g9 => refine ⟨?_, ?_, ?_, ?_⟩ <;> first | assumption | omega | exact Nat.ne_of_gt (by omega))))
    | (exfalso; clear hb; omega)
    | (exfalso; exact Bool.noConfusion (hnan.symm.trans (by assumption)))
    | (exfalso; exact Bool.noConfusion (hinf.symm.trans (by assumption)))
    | (exfalso; exact Bool.noConfusion (hs.symm.trans (by assumption)))
    | (exfalso; exact absurd hb (Nat.not_lt.mpr (by assumption)))
    | k_data
end a
theorem main : hsv_w_S (pt.w 0) (pt.me 0) (pt.m 0) (pt.m 1) (pt.n 0) (pt.n 1) (pt.gd 0) (pt.st 0) (pt.sc 0) (pt.n 2) (pt.v 0) (pt.cl 0) (pt.le 0) (pt.ar 0) (pt.h 0) (pt.h 1) (pt.n 3) (pt.m 2) (pt.sh 0) (pt.qv 0) (pt.qv 1) (pt.lo 0) h (pt.u 1) (pt.u 2) (pt.n 4) (pt.n 5) (pt.n 6) := cut.2 ⟨fun g'' L'' h'' => @by_bad (fun c => cut.1 (c.h 0) (c.n 0) (c.h 1)) (by with_unfolding_all exact a.amain) { cx0 with n := fromL (0) [L''], h := fromL ({}) [g'', h''] }⟩
end hsv_w_K
theorem hsv_w {w : World} {mean : ExcName → Option Value} {mg mb : Str → Option Value} {dp un : Nat} {gd : Option (List Code)} {cn : Str} {cs : Scope} {ca : Addr} {ccd : Value} {cl : List (Str × Addr)} {outer : List Env} {A₀ : Around} {base h₀ : Heap} {L : Addr} {m : Str → Option Value} {s : Shared} {Q E : Value → Shared → Prop} {news : List (Addr × Obj)} {h s9 v : UInt64} {u1 u2 u3 : Tok} : hsv_w_S w mean mg mb dp un gd cn cs ca ccd cl outer A₀ base h₀ L m s Q E news h s9 v u1 u2 u3 := @by_bad (fun c => hsv_w_S (c.w 0) (c.me 0) (c.m 0) (c.m 1) (c.n 0) (c.n 1) (c.gd 0) (c.st 0) (c.sc 0) (c.n 2) (c.v 0) (c.cl 0) (c.le 0) (c.ar 0) (c.h 0) (c.h 1) (c.n 3) (c.m 2) (c.sh 0) (c.qv 0) (c.qv 1) (c.lo 0) (c.u 0) (c.u 1) (c.u 2) (c.n 4) (c.n 5) (c.n 6)) (by with_unfolding_all exact hsv_w_K.main) { cx0 with n := fromL (0) [dp, un, ca, L, u1, u2, u3], st := fromL (Str.empty) [cn], u := fromL (0) [h, s9, v], lo := fromL ([]) [news], v := fromL (.none) [ccd], m := fromL (fun _ => none) [mg, mb, m], sh := fromL ({}) [s], h := fromL ({}) [base, h₀], ar := fromL (aroundZ) [A₀], w := fromL (worldZ) [w], me := fromL (fun _ => none) [mean], qv := fromL (fun _ _ => True) [Q, E], sc := fromL (default) [cs], gd := fromL (none) [gd], cl := fromL ([]) [cl], le := fromL ([]) [outer] }
end
section
noncomputable abbrev tup3' (a b c : Value) : Obj := { cls := .type "tuple", data := .seq #[a, b, c] }
local macro_rules | `(tactic| walk_at "call builtin:max") => `(tactic| (k_here; k_dflt (refine' max_three_N ?k1 ?k2 ?k3 ?_; (case k1 => exact rfl); (case k2 | k3 => k_asm)); top_argsB))
local macro_rules | `(tactic| walk_at "call builtin:min") => `(tactic| (k_here; k_dflt (refine' min_three_N ?k1 ?k2 ?k3 ?_; (case k1 => exact rfl); (case k2 | k3 => k_asm)); top_argsB))
noncomputable def hueF (r g b : UInt64) : UInt64 :=
  if (Float64.cmp r (maxF r g b) == some Ordering.eq) = true then Float64.sub (Float64.div (Float64.sub (maxF r g b) b) (Float64.sub (maxF r g b) (minF r g b))) (Float64.div (Float64.sub (maxF r g b) g) (Float64.sub (maxF r g b) (minF r g b)))
  else if (Float64.cmp g (maxF r g b) == some Ordering.eq) = true then Float64.sub (Float64.add 4611686018427387904 (Float64.div (Float64.sub (maxF r g b) r) (Float64.sub (maxF r g b) (minF r g b)))) (Float64.div (Float64.sub (maxF r g b) b) (Float64.sub (maxF r g b) (minF r g b)))
  else Float64.sub (Float64.add 4616189618054758400 (Float64.div (Float64.sub (maxF r g b) g) (Float64.sub (maxF r g b) (minF r g b)))) (Float64.div (Float64.sub (maxF r g b) r) (Float64.sub (maxF r g b) (minF r g b)))
theorem one_nz : ¬ Float64.isZero 4607182418800017408 = true := by decide +kernel
theorem six_nz : ¬ Float64.isZero 4618441417868443648 = true := by decide +kernel
theorem rgb_grey {w : World} {mean : ExcName → Option Value} {mg mb : Str → Option Value}
    {dp un : Nat} {gd : Option (List Code)} {cn : Str} {cs : Scope} {ca : Addr} {ccd : Value} {cl : List (Str × Addr)} {outer : List Env} {A₀ : Around} {base h₀ : Heap} {L : Addr} {m : Str → Option Value} {s : Shared} {Q E : Value → Shared → Prop} {news : List (Addr × Obj)}
    {r g b : UInt64} {u1 u2 u3 : Tok}
    (B : Below A₀ base outer h₀) (F : Fr h₀ L s.heap m) (X : (KX w.params).In h₀) (N : News h₀ L s.heap news) (T : Top topProg lawLoose mean mg mb h₀) (hk : cs.kind = .function)
    (hdp : dp + 20 < recursionLimit) (hun : un + 60 < cLine) (h0t : 0 < s.toks) (h0a : u1 ≠ 0 ∧ u2 ≠ 0 ∧ u3 ≠ 0) (he : (Float64.cmp (minF r g b) (maxF r g b) == some Ordering.eq) = true)
    (hret : ∀ (D : Addr) (t1 t2 t3 : Tok) (h' : Heap) (tk' : Nat) (_ : t1 ≠ 0 ∧ t2 ≠ 0 ∧ t3 ≠ 0 ∧ 0 < tk'), Fr h₀ L h' m → News h₀ L h' ((D, tup3' (.float 0 t1) (.float 0 t2) (.float (maxF r g b) t3)) :: news) → Q (.ref D) { s with heap := h', toks := tk' }) :
    wpAny (model Challenge.rw_st0007_01.prog w) (W.ktrTop dp un gd cn cs L ca ccd cl outer) (call (.ref 42) [.float r u1, .float g u2, .float b u3]) Q E s := by
  have hmk100 := MarkH.mk (n := 100)
  obtain ⟨h0a, h0b, h0c⟩ := h0a
  revert X; k_fill; intro X
  refine wpAny_call ?_
  k_dflt cell_enter
  k_steps
  all_goals first | ((refine' hret _ _ _ _ _ _ ?g9 ?f9 ?n9; (case f9 => assumption); (case n9 => assumption); (case g9 => refine ⟨?_, ?_, ?_, ?_⟩ <;> first | assumption | omega | exact Nat.ne_of_gt (by omega)))) | k_data
theorem rgb_w {w : World} {mean : ExcName → Option Value} {mg mb : Str → Option Value}
    {dp un : Nat} {gd : Option (List Code)} {cn : Str} {cs : Scope} {ca : Addr} {ccd : Value} {cl : List (Str × Addr)} {outer : List Env} {A₀ : Around} {base h₀ : Heap} {L : Addr} {m : Str → Option Value} {s : Shared} {Q E : Value → Shared → Prop} {news : List (Addr × Obj)}
    {r g b : UInt64} {u1 u2 u3 : Tok}
    (B : Below A₀ base outer h₀) (F : Fr h₀ L s.heap m) (X : (KX w.params).In h₀) (N : News h₀ L s.heap news) (T : Top topProg lawLoose mean mg mb h₀) (hk : cs.kind = .function)
    (hdp : dp + 20 < recursionLimit) (hun : un + 60 < cLine) (h0t : 0 < s.toks) (h0a : u1 ≠ 0 ∧ u2 ≠ 0 ∧ u3 ≠ 0) (he : (Float64.cmp (minF r g b) (maxF r g b) == some Ordering.eq) = false) (hz1 : Float64.isZero (maxF r g b) = false) (hz2 : Float64.isZero (Float64.sub (maxF r g b) (minF r g b)) = false)
    (hret : ∀ (D : Addr) (t1 t2 t3 : Tok) (h' : Heap) (tk' : Nat) (_ : t1 ≠ 0 ∧ t2 ≠ 0 ∧ t3 ≠ 0 ∧ 0 < tk'), Fr h₀ L h' m → News h₀ L h' ((D, tup3' (.float (Float64.divmod (Float64.div (hueF r g b) 4618441417868443648) 4607182418800017408).snd t1) (.float (Float64.div (Float64.sub (maxF r g b) (minF r g b)) (maxF r g b)) t2) (.float (maxF r g b) t3)) :: news) → Q (.ref D) { s with heap := h', toks := tk' }) :
    wpAny (model Challenge.rw_st0007_01.prog w) (W.ktrTop dp un gd cn cs L ca ccd cl outer) (call (.ref 42) [.float r u1, .float g u2, .float b u3]) Q E s := by
  have hmk100 := MarkH.mk (n := 100)
  unfold hueF at hret
  obtain ⟨h0a, h0b, h0c⟩ := h0a
  revert X; k_fill; intro X
  refine wpAny_call ?_
  k_dflt cell_enter
  k_steps
  all_goals first
    | (rw [if_pos (c := (Float64.cmp r (maxF r g b) == some Ordering.eq) = true) (by assumption)] at hret; (refine' hret _ _ _ _ _ _ ?g9 ?f9 ?n9; (case f9 => assumption); (case n9 => assumption); (case g9 => refine ⟨?_, ?_, ?_, ?_⟩ <;> first | assumption | omega | exact Nat.ne_of_gt (by omega))))
    | (rw [if_neg (c := (Float64.cmp r (maxF r g b) == some Ordering.eq) = true) (by rw [Bool.not_eq_true]; assumption), if_pos (c := (Float64.cmp g (maxF r g b) == some Ordering.eq) = true) (by assumption)] at hret; (refine' hret _ _ _ _ _ _ ?g9 ?f9 ?n9; (case f9 => assumption); (case n9 => assumption); (case g9 => refine ⟨?_, ?_, ?_, ?_⟩ <;> first | assumption | omega | exact Nat.ne_of_gt (by omega))))
    | (rw [if_neg (c := (Float64.cmp r (maxF r g b) == some Ordering.eq) = true) (by rw [Bool.not_eq_true]; assumption), if_neg (c := (Float64.cmp g (maxF r g b) == some Ordering.eq) = true) (by rw [Bool.not_eq_true]; assumption)] at hret; (refine' hret _ _ _ _ _ _ ?g9 ?f9 ?n9; (case f9 => assumption); (case n9 => assumption); (case g9 => refine ⟨?_, ?_, ?_, ?_⟩ <;> first | assumption | omega | exact Nat.ne_of_gt (by omega))))
    | k_data
end
section
noncomputable def absI (x : Int) : Int := if x < 0 then -x else x
noncomputable def minI (a b : Int) : Int := if b < a then b else a
noncomputable def maxI (a b : Int) : Int := if b > a then b else a
noncomputable def offI (p wh c : Int) : Int := minI wh (maxI 0 (2 * minI (absI (3 * p - c * wh)) (3 * wh - absI (3 * p - c * wh)) - wh))
theorem offI_lo {p wh c : Int} (h : 0 ≤ wh) : 0 ≤ offI p wh c := by
  unfold offI minI maxI
  repeat' split
  all_goals omega
theorem offI_hi {p wh c : Int} : offI p wh c ≤ wh := by
  unfold offI
  generalize maxI 0 _ = z
  unfold minI
  split <;> omega
noncomputable def paintF (p wh : Int) (sh va : UInt64) (c : Int) : UInt64 := Float64.mul va (Float64.sub (Float64.ofInt 1) (Float64.div (Float64.mul sh (Float64.ofInt (offI p wh c))) (Float64.ofInt wh)))
noncomputable abbrev tup3p (a b c : Value) : Obj := { cls := .type "tuple", data := .seq #[a, b, c] }
@[reducible] noncomputable def painted_w_S (w : World) (mean : ExcName → Option Value) (mg mb : Str → Option Value) (dp un : Nat) (gd : Option (List Code)) (cn : Str) (cs : Scope) (ca : Addr) (ccd : Value) (cl : List (Str × Addr)) (outer : List Env) (A₀ : Around) (base h₀ : Heap) (L : Addr) (m : Str → Option Value) (s : Shared) (Q E : Value → Shared → Prop) (news : List (Addr × Obj)) (p wh : Int) (sh va : UInt64) (t1 t2 t3 t4 : Tok) : Prop := ∀ (B : Below A₀ base outer h₀) (F : Fr h₀ L s.heap m) (X : (KX w.params).In h₀) (N : News h₀ L s.heap news) (T : Top topProg lawLoose mean mg mb h₀) (hk : cs.kind = .function) (hdp : dp + 30 < recursionLimit) (hun : un + 100 < cLine) (h0t : 0 < s.toks) (hw1 : 1 ≤ wh) (hw2 : wh ≤ 1048576) (hret : ∀ (D : Addr) (u1 u2 u3 : Tok) (h' : Heap) (tk' : Nat) (_ : u1 ≠ 0 ∧ u2 ≠ 0 ∧ u3 ≠ 0 ∧ 0 < tk'), Fr h₀ L h' m → News h₀ L h' ((D, tup3p (.float (paintF p wh sh va 0) u1) (.float (paintF p wh sh va 1) u2) (.float (paintF p wh sh va 2) u3)) :: news) → Q (.ref D) { s with heap := h', toks := tk' }), wpAny (model Challenge.rw_st0007_01.prog w) (W.ktrTop dp un gd cn cs L ca ccd cl outer) (call (.ref 124) [.int p t1, .int wh t2, .float sh t3, .float va t4]) Q E s
namespace painted_w_K
@[irreducible] noncomputable def pt : Cx := bad fun c => painted_w_S (c.w 0) (c.me 0) (c.m 0) (c.m 1) (c.n 0) (c.n 1) (c.gd 0) (c.st 0) (c.sc 0) (c.n 2) (c.v 0) (c.cl 0) (c.le 0) (c.ar 0) (c.h 0) (c.h 1) (c.n 3) (c.m 2) (c.sh 0) (c.qv 0) (c.qv 1) (c.lo 0) (c.i 0) (c.i 1) (c.u 0) (c.u 1) (c.n 4) (c.n 5) (c.n 6) (c.n 7)
@[irreducible] noncomputable def m : Str → Option Value := pt.m 2
@[irreducible] noncomputable def news : List (Addr × Obj) := pt.lo 0
@[irreducible] noncomputable def p : Int := pt.i 0
@[irreducible] noncomputable def wh : Int := pt.i 1
@[irreducible] noncomputable def sh : UInt64 := pt.u 0
@[irreducible] noncomputable def va : UInt64 := pt.u 1
@[irreducible] noncomputable def t1 : Tok := pt.n 4
@[irreducible] noncomputable def t2 : Tok := pt.n 5
@[irreducible] noncomputable def t3 : Tok := pt.n 6
@[irreducible] noncomputable def t4 : Tok := pt.n 7
noncomputable def cut : { R : ((Heap) → (Nat) → (Heap) → Prop) // Hid ((∀ z0 z1 z2, R z0 z1 z2)) → painted_w_S (pt.w 0) (pt.me 0) (pt.m 0) (pt.m 1) (pt.n 0) (pt.n 1) (pt.gd 0) (pt.st 0) (pt.sc 0) (pt.n 2) (pt.v 0) (pt.cl 0) (pt.le 0) (pt.ar 0) (pt.h 0) (pt.h 1) (pt.n 3) m (pt.sh 0) (pt.qv 0) (pt.qv 1) news p wh sh va t1 t2 t3 t4 } := by
  refine' ⟨_, fun H1 => _⟩
  rotate_left 1
  · intro B F X N T hk hdp hun h0t hw1 hw2 hret
    have hmk100 := MarkH.mk (n := 100)
    have hmk := MarkH.mk (n := 202)
    revert X; k_fill; intro X
    refine wpAny_call ?_
    k_dflt cell_enter
    rename_i g' L' h' FG' F' N' B' X' T'
    revert B F N T hk hdp hun h0t hw1 hw2 hret hmk X FG' F' N' B' X' T' qk ek
    exact no_implicit_lambda% (H1.h g' L' h')
@[irreducible] noncomputable def apt : Cx := bad fun c => cut.1 (c.h 0) (c.n 0) (c.h 1)
namespace a
noncomputable def acut : { R : ((Nat) → (Nat) → (Nat) → (Str → Option Value) → (Heap) → (Nat) → (Nat) → (Array Value) → (Flow → Shared → Prop) → (Value → Shared → Prop) → Prop) // Hid ((∀ z0 z1 z2 z3 z4 z5 z6 z7 z8 z9, R z0 z1 z2 z3 z4 z5 z6 z7 z8 z9)) → cut.1 (apt.h 0) (apt.n 0) (apt.h 1) } := by
  refine' ⟨_, fun H1 => _⟩
  rotate_left 1
  · intro B F N T hk hdp hun h0t hw1 hw2 hret hmk X FG' F' N' B' X' T' qk ek
    have hmk100 := MarkH.mk (n := 100)
    k_steps
    refine Hold.on ?_
    clear hmk
    refine For_byT (by first | assumption | omega) ?_
    k_steps
    refine Then.of fun h0t' => ?_
    rename Fr _ _ _ _ => lF
    rename News _ _ _ _ => lN
    rename IsRange _ _ _ _ _ _ _ _ => hr
    with_unfolding_all refine rangeT (n := 3) (by rfl) hr (by decide) (by decide) lF lN ?t0 (by rfl) (by rfl) (fun I i m' n' => ∃ (l : Addr) (its : Array Value), n' = (l, W.listOf its i) :: news ∧ m' (Str.ofString "parts") = some (.ref l) ∧ m' (Str.ofString "place") = some (.int p t1) ∧ m' (Str.ofString "wheel") = some (.int wh t2) ∧
        m' (Str.ofString "share") = some (.float sh t3) ∧ m' (Str.ofString "value") = some (.float va t4) ∧ (∀ p ∈ news, p.1 < l) ∧ Nat.lt l I ∧ its.size = i ∧ ∀ j : Nat, j < i → ∃ t, its[j]? = some (.float (paintF p wh sh va (j : Int)) t) ∧ t ≠ 0) (fun I hI => ⟨_, #[], rfl, rfl, rfl, rfl, rfl, rfl, (by assumption), hI _ (.head _), rfl, fun j hj => absurd hj (Nat.not_lt_zero j)⟩) ?turn ?done
    case t0 => exact h0t'
    case turn =>
      rintro I i t m' news' h tk htk hi hJ0
      refine Classical.byContradiction fun hG0 => ?_
      refine exE2 hJ0 ?_
      try clear hJ0
      rintro l its hJ0
      refine anE10 hJ0 ?_
      try clear hJ0
      rintro rfl m1 m2 m3 m4 m5 hnl hlI hlen hit
      refine hG0 ?_
      clear hG0
      rintro off F1 N1
      rw [known_eq m1, known_eq m2, known_eq m3, known_eq m4, known_eq m5] at F1
      have hIl : I ≠ l := fun e => Nat.lt_irrefl _ (e ▸ hlI : Nat.lt I I)
      have hsz : its.size ≤ sizeLine := by rw [PySem.sizeLine_eq]; omega
      clear lF lN
      refine unr_hide fun Q' E' hQ => ?_
      dsimp only at hQ ⊢
      revert hk hdp hun hw1 hw2 B' X' T' htk hi hnl hlI hlen hit off F1 N1 hIl hsz hQ
      exact no_implicit_lambda% (H1.h I i t m' h tk l its Q' E')
    case done =>
      rintro I m' news' h tk htk hJ0
      refine Classical.byContradiction fun hG0 => ?_
      refine exE2 hJ0 ?_
      try clear hJ0
      rintro l its hJ0
      refine anE10 hJ0 ?_
      try clear hJ0
      rintro rfl m1 m2 m3 m4 m5 hnl hlI hlen hit
      refine hG0 ?_
      clear hG0
      rintro F1 N1
      rw [known_eq m1] at F1
      obtain ⟨u1, e1, z1⟩ := hit 0 (by omega)
      obtain ⟨u2, e2, z2⟩ := hit 1 (by omega)
      obtain ⟨u3, e3, z3⟩ := hit 2 (by omega)
      have ei := arr3 hlen e1 e2 e3
      subst ei
      clear lF lN
      k_steps
      refine hret _ _ _ _ _ _ ⟨z1, z2, z3, by first | assumption | omega⟩ (by assumption) (by first | assumption | (refine' cb_drop ?cbN ?cbS; (case cbN => assumption); (case cbS => kcj_all)))
@[irreducible] noncomputable def aapt : Cx := bad fun c => acut.1 (c.n 0) (c.n 1) (c.n 2) (c.m 0) (c.h 0) (c.n 3) (c.n 4) (c.av 0) (c.qf 0) (c.qv 0)
namespace aa
@[irreducible] noncomputable def i : Nat := aapt.n 1
@[irreducible] noncomputable def l : Nat := aapt.n 4
theorem aamain : acut.1 (aapt.n 0) i (aapt.n 2) (aapt.m 0) (aapt.h 0) (aapt.n 3) l (aapt.av 0) (aapt.qf 0) (aapt.qv 0) := by
  intro hk hdp hun hw1 hw2 B' X' T' htk hi hnl hlI hlen hit off F1 N1 hIl hsz hQ
  have hmk100 := MarkH.mk (n := 100)
  refine execs_app' (xs := [_, _]) (ys := [_]) ?_
  k_steps
  refine Then.of fun htk2 => ?_
  try dsimp only at htk2
  have htk3 := Nat.lt_of_lt_of_le htk htk2
  clear htk2
  rename Fr _ _ _ _ => F5
  obtain ⟨ov, ho, F6⟩ := fr_int F5
  clear F5
  have hov : ov = offI p wh (0 + (i : Int)) := ho
  have lo : 0 ≤ ov := by rw [hov]; exact offI_lo (by omega)
  have up : ov ≤ wh := by rw [hov]; exact offI_hi
  clear ho
  have hmk := MarkH.mk (n := 9)
  k_steps
  rename Fr _ _ _ _ => F9
  rename News _ _ _ _ => N9
  refine hQ _ (xI4 _ _ _ _ ⟨rfl, F9, N9, ?_, (xI2 l _ ⟨rfl, rfl, rfl, rfl, rfl, rfl, hnl, hlI, by simp [hlen], ?_⟩)⟩)
  · intro p hp
    refine mem_cs hp ?_ fun hp => ?_
    · exact fun e => hIl e.symm
    · exact off p (.tail _ hp)
  · intro j hj
    rcases Nat.lt_succ_iff_lt_or_eq.mp hj with hj | rfl
    · rw [Array.getElem?_push_lt (by omega)]
      rw [← Array.getElem?_eq_getElem (by omega)]; exact hit j hj
    · rw [← hlen, Array.getElem?_push_size, hlen, hov, Int.zero_add]
      exact ⟨_, rfl, by first | assumption | exact Nat.ne_of_gt (by omega)⟩
end aa
theorem amain : cut.1 (apt.h 0) (apt.n 0) (apt.h 1) := acut.2 ⟨fun I i t m' h tk l its Q' E' => @by_bad (fun c => acut.1 (c.n 0) (c.n 1) (c.n 2) (c.m 0) (c.h 0) (c.n 3) (c.n 4) (c.av 0) (c.qf 0) (c.qv 0)) (by with_unfolding_all exact aa.aamain) { cx0 with n := fromL (0) [I, i, t, tk, l], m := fromL (fun _ => none) [m'], h := fromL ({}) [h], qf := fromL (fun _ _ => True) [Q'], qv := fromL (fun _ _ => True) [E'], av := fromL (#[]) [its] }⟩
end a
theorem main : painted_w_S (pt.w 0) (pt.me 0) (pt.m 0) (pt.m 1) (pt.n 0) (pt.n 1) (pt.gd 0) (pt.st 0) (pt.sc 0) (pt.n 2) (pt.v 0) (pt.cl 0) (pt.le 0) (pt.ar 0) (pt.h 0) (pt.h 1) (pt.n 3) m (pt.sh 0) (pt.qv 0) (pt.qv 1) news p wh sh va t1 t2 t3 t4 := cut.2 ⟨fun g' L' h' => @by_bad (fun c => cut.1 (c.h 0) (c.n 0) (c.h 1)) (by with_unfolding_all exact a.amain) { cx0 with n := fromL (0) [L'], h := fromL ({}) [g', h'] }⟩
end painted_w_K
theorem painted_w {w : World} {mean : ExcName → Option Value} {mg mb : Str → Option Value} {dp un : Nat} {gd : Option (List Code)} {cn : Str} {cs : Scope} {ca : Addr} {ccd : Value} {cl : List (Str × Addr)} {outer : List Env} {A₀ : Around} {base h₀ : Heap} {L : Addr} {m : Str → Option Value} {s : Shared} {Q E : Value → Shared → Prop} {news : List (Addr × Obj)} {p wh : Int} {sh va : UInt64} {t1 t2 t3 t4 : Tok} : painted_w_S w mean mg mb dp un gd cn cs ca ccd cl outer A₀ base h₀ L m s Q E news p wh sh va t1 t2 t3 t4 := @by_bad (fun c => painted_w_S (c.w 0) (c.me 0) (c.m 0) (c.m 1) (c.n 0) (c.n 1) (c.gd 0) (c.st 0) (c.sc 0) (c.n 2) (c.v 0) (c.cl 0) (c.le 0) (c.ar 0) (c.h 0) (c.h 1) (c.n 3) (c.m 2) (c.sh 0) (c.qv 0) (c.qv 1) (c.lo 0) (c.i 0) (c.i 1) (c.u 0) (c.u 1) (c.n 4) (c.n 5) (c.n 6) (c.n 7)) (by with_unfolding_all exact painted_w_K.main) { cx0 with n := fromL (0) [dp, un, ca, L, t1, t2, t3, t4], i := fromL (0) [p, wh], st := fromL (Str.empty) [cn], u := fromL (0) [sh, va], lo := fromL ([]) [news], v := fromL (.none) [ccd], m := fromL (fun _ => none) [mg, mb, m], sh := fromL ({}) [s], h := fromL ({}) [base, h₀], ar := fromL (aroundZ) [A₀], w := fromL (worldZ) [w], me := fromL (fun _ => none) [mean], qv := fromL (fun _ _ => True) [Q, E], sc := fromL (default) [cs], gd := fromL (none) [gd], cl := fromL ([]) [cl], le := fromL ([]) [outer] }
end
section
local macro_rules | `(tactic| walk_at "setAttr ref") => `(tactic| (k_here; k_dflt (refine' set_func ?k1 ?k2 ?k3 ?k4 ?_; (case k1 | k2 => k_asm); (case k3 => k_updF); (case k4 => exact fn_read); k_whole); intro d' h' F' N' l1; (try dsimp only at N'); (try k_lt l1)))
theorem stream_swap {h₀ h : Heap} {L : Addr} {a1 a2 a3 a4 a5 a6 a7 a8 a9 : Addr × Obj} {r : List (Addr × Obj)} (N : News h₀ L h (a1 :: a2 :: a3 :: a4 :: a5 :: a6 :: a7 :: a8 :: a9 :: r)) : News h₀ L h (a6 :: ([a1, a2, a3, a4, a5, a7, a8, a9] ++ r)) := by
  intro p hp
  exact N p ((mem_mv (A := [_, _, _, _, _])).mpr hp)
theorem val_str {a b : Str} {t : Tok} {Q : Value → Shared → Prop} {s : Shared} (e : a = b) (h : Q (.str b t) s) : Q (.str a t) s := e ▸ h
noncomputable def ReadSpec (w : World) (x : Str) (fr l : Addr) (held : List (Addr × Obj)) : Prop :=
  ∀ {mean : ExcName → Option Value} {mg mb : Str → Option Value}
    {dp un : Nat} {gd : Option (List Code)} {cn : Str} {cs : Scope} {ca : Addr} {ccd : Value} {cl : List (Str × Addr)} {outer : List Env} {A₀ : Around} {base h₀ : Heap} {L : Addr} {m : Str → Option Value} {s : Shared} {Q E : Value → Shared → Prop} {news : List (Addr × Obj)} {k n : Nat} {t t1 : Tok},
    Below A₀ base outer h₀ → Fr h₀ L s.heap m → (KX w.params).In h₀ → News h₀ L s.heap ((l, W.listOf #[.int (k : Int) t] n) :: (held ++ news)) → (∀ p ∈ held ++ news, p.1 ≠ l) → Top topProg lawLoose mean mg mb h₀ → cs.kind = .function →
    CodeHd base 109 105 → dp + 20 < recursionLimit → un + 60 < cLine → k < 1000 →
    (∀ (t' t2 : Tok) (n' : Nat) (h' : Heap) (tk' : Nat), Fr h₀ L h' m → News h₀ L h' ((l, W.listOf #[.int ((k + 1 : Nat) : Int) t'] n') :: (held ++ news)) → Q (.str (chr1 x k) t2) { s with heap := h', toks := tk' }) →
    wpAny (model Challenge.rw_st0007_01.prog w) (W.ktrTop dp un gd cn cs L ca ccd cl outer) (call (.ref fr) [.int 1 t1]) Q E s
structure StreamAt (w : World) (x : Str) (D fr l d : Addr) (held : List (Addr × Obj)) : Prop where
  spec : ReadSpec w x fr l held
  obj : ∃ fn, (D, (⟨.type "function", some d, .func fn, #[]⟩ : Obj)) ∈ held
  dict : ∃ t2, (d, dictOf [⟨PyData.keyHash w.params (Str.ofString "read"), .str (Str.ofString "read") t2, .ref fr⟩] 1) ∈ held
  rd : ∃ fn, (fr, (⟨.type "function", none, .func fn, #[]⟩ : Obj)) ∈ held
@[reducible] noncomputable def stream_w_S (w : World) (mean : ExcName → Option Value) (mg mb : Str → Option Value) (dp un : Nat) (gd : Option (List Code)) (cn : Str) (cs : Scope) (ca : Addr) (ccd : Value) (cl : List (Str × Addr)) (outer : List Env) (A₀ : Around) (base h₀ : Heap) (L : Addr) (m : Str → Option Value) (s : Shared) (Q E : Value → Shared → Prop) (news : List (Addr × Obj)) (x : Str) (tx : Tok) : Prop := ∀ (B : Below A₀ base outer h₀) (F : Fr h₀ L s.heap m) (X : (KX w.params).In h₀) (N : News h₀ L s.heap ((105, tabObj #[]) :: news)) (C0 : CodeHd base 109 105) (hx : x.length ≤ 1000) (hn105 : ∀ p ∈ news, p.1 ≠ (105 : Addr)) (T : Top topProg lawLoose mean mg mb h₀) (hk : cs.kind = .function) (hdp : dp + 20 < recursionLimit) (hun : un + 60 < cLine) (hret : ∀ (D fr l d : Addr) (t : Tok) (held : List (Addr × Obj)) (h' : Heap) (tk' : Nat), Fr h₀ L h' m → News h₀ L h' ((l, W.listOf #[.int 0 t] 0) :: (held ++ news)) → StreamAt w x D fr l d held → (∀ p ∈ held ++ news, p.1 ≠ l) → (∃ ps, ((105 : Addr), tabObj ps) ∈ held) → (∀ p ∈ held, p.1 = (105 : Addr) ∨ ∀ q ∈ news, @LT.lt Nat _ q.1 p.1) → (∀ q ∈ news, @LT.lt Nat _ q.1 l) → Q (.ref D) { s with heap := h', toks := tk' }), wpAny (model Challenge.rw_st0007_01.prog w) (W.ktrTop dp un gd cn cs L ca ccd cl outer) (call (.ref 110) [.str x tx]) Q E s
namespace stream_w_K
@[irreducible] noncomputable def pt : Cx := bad fun c => stream_w_S (c.w 0) (c.me 0) (c.m 0) (c.m 1) (c.n 0) (c.n 1) (c.gd 0) (c.st 0) (c.sc 0) (c.n 2) (c.v 0) (c.cl 0) (c.le 0) (c.ar 0) (c.h 0) (c.h 1) (c.n 3) (c.m 2) (c.sh 0) (c.qv 0) (c.qv 1) (c.lo 0) (c.st 1) (c.n 4)
@[irreducible] noncomputable def mean : ExcName → Option Value := pt.me 0
@[irreducible] noncomputable def mg : Str → Option Value := pt.m 0
@[irreducible] noncomputable def mb : Str → Option Value := pt.m 1
@[irreducible] noncomputable def dp : Nat := pt.n 0
@[irreducible] noncomputable def un : Nat := pt.n 1
@[irreducible] noncomputable def gd : Option (List Code) := pt.gd 0
@[irreducible] noncomputable def cn : Str := pt.st 0
@[irreducible] noncomputable def cs : Scope := pt.sc 0
@[irreducible] noncomputable def ca : Addr := pt.n 2
@[irreducible] noncomputable def ccd : Value := pt.v 0
@[irreducible] noncomputable def cl : List (Str × Addr) := pt.cl 0
@[irreducible] noncomputable def outer : List Env := pt.le 0
@[irreducible] noncomputable def A₀ : Around := pt.ar 0
@[irreducible] noncomputable def base : Heap := pt.h 0
@[irreducible] noncomputable def h₀ : Heap := pt.h 1
@[irreducible] noncomputable def L : Addr := pt.n 3
@[irreducible] noncomputable def m : Str → Option Value := pt.m 2
@[irreducible] noncomputable def s : Shared := pt.sh 0
@[irreducible] noncomputable def Q : Value → Shared → Prop := pt.qv 0
@[irreducible] noncomputable def E : Value → Shared → Prop := pt.qv 1
@[irreducible] noncomputable def news : List (Addr × Obj) := pt.lo 0
@[irreducible] noncomputable def x : Str := pt.st 1
theorem main : stream_w_S (pt.w 0) mean mg mb dp un gd cn cs ca ccd cl outer A₀ base h₀ L m s Q E news x (pt.n 4) := by
  intro B F X N C0 hx hn105 T hk hdp hun hret
  revert X; k_fill; intro X
  refine wpAny_call ?_
  k_dflt (refine' code_defC ?k1 ?k2 ?k3 ?k4 ?k5 ?kA ?kF ?kK ?k6 ?k7 ?k8 ?k9 ?kB ?kD ?_ ?c2 ?c3 ?c4; (case kA => exact rfl); (case kF => exact rfl); (case kK => assumption); (case k1 => k_asm); (case k2 => k_asm); (case k3 => k_asm); (case k4 => k_asm); (case k5 => k_asm); (case k6 => k_is); (case k7 => k_is); (case k8 => ktr_room); (case k9 => exact BindsTo.of_eq rfl); (case kB => exact rfl); (case kD => decide +kernel); (case c2 => exact rfl); (case c3 => exact rfl); (case c4 => exact rfl); k_whole; intro g' L' h' tk' cells' FG' F' N' Y' B' X' T' l1; (try k_lt l1); k_cells Y'; (try simp only [List.cons_append, List.nil_append] at N'); (try dsimp only); (try k_lift B'); (try k_fold))
  have lnews := allLt_all l1.2
  have lcode := l1.1
  k_steps
  rename News _ _ _ _ => N9
  have N10 := stream_swap N9
  refine hret _ _ _ _ _ _ _ _ (by assumption) N10 ⟨?_, ⟨_, .tail _ (.head _)⟩, ⟨_, .head _⟩, ⟨_, .tail _ (.tail _ (.tail _ (.head _)))⟩⟩ (by simp only [List.cons_append, List.nil_append]; repeat' (first | exact all_ne_of lnews (leN (by omega)) | refine List.forall_mem_cons.mpr ⟨?_, ?_⟩ | k_ne)) ⟨_, (by repeat (first | exact .head _ | apply List.Mem.tail))⟩ (by repeat' (first | exact List.forall_mem_nil _ | refine List.forall_mem_cons.mpr ⟨?_, ?_⟩ | exact .inl rfl | exact .inr fun q hq => Nat.lt_of_lt_of_le (lnews q hq) (leN (by omega)))) (fun q hq => Nat.lt_of_lt_of_le (lnews q hq) (leN (by omega)))
  unfold ReadSpec
  intro mean mg mb dp un gd cn cs ca ccd cl outer A₀ base h₀ L m s Q E news k n t t1 B F X N hl T hk C0 hdp hun hk9 hret
  revert X; k_fill; intro X
  simp only [List.cons_append, List.nil_append] at N hl
  refine wpAny_call ?_
  k_dflt (refine' code_nest ?k1 ?k2 ?k3 ?k4 ?k5 ?kA ?kF ?kK ?k6 ?k7 ?k8 ?k9 ?kB ?_ ?c2 ?c3 ?c4 ?c5; (case kA => exact rfl); (case kF => exact rfl); (case kK => first | exact rfl | assumption); (case k1 => k_asm); (case k2 => k_asm); (case k3 => k_asm); (case k4 => k_asm); (case k5 => k_asm); (case k6 => k_mem); (case k7 => exact codeRec_news (by k_asm) (by k_mem) (by assumption) (by assumption)); (case k8 => ktr_room); (case k9 => exact BindsTo.of_eq rfl); (case c5 => decide); (case kB => exact locs rfl); (case c2 => exact rfl); (case c3 => exact rfl); (case c4 => exact rfl); k_whole; intro g' L' h' FG' F' N' B' X' T'; (try dsimp only); (try k_lift B'); (try k_fold))
  k_steps
  refine val_str ?_ (hret _ _ _ _ _ (by assumption) (by assumption))
  show Txt.slice x (some ((k : Int) + 1 - 1)) (some ((k : Int) + 1)) = _
  rw [Int.add_sub_cancel]
  exact slice_one x k
end stream_w_K
theorem stream_w {w : World} {mean : ExcName → Option Value} {mg mb : Str → Option Value} {dp un : Nat} {gd : Option (List Code)} {cn : Str} {cs : Scope} {ca : Addr} {ccd : Value} {cl : List (Str × Addr)} {outer : List Env} {A₀ : Around} {base h₀ : Heap} {L : Addr} {m : Str → Option Value} {s : Shared} {Q E : Value → Shared → Prop} {news : List (Addr × Obj)} {x : Str} {tx : Tok} : stream_w_S w mean mg mb dp un gd cn cs ca ccd cl outer A₀ base h₀ L m s Q E news x tx := @by_bad (fun c => stream_w_S (c.w 0) (c.me 0) (c.m 0) (c.m 1) (c.n 0) (c.n 1) (c.gd 0) (c.st 0) (c.sc 0) (c.n 2) (c.v 0) (c.cl 0) (c.le 0) (c.ar 0) (c.h 0) (c.h 1) (c.n 3) (c.m 2) (c.sh 0) (c.qv 0) (c.qv 1) (c.lo 0) (c.st 1) (c.n 4)) (by with_unfolding_all exact stream_w_K.main) { cx0 with n := fromL (0) [dp, un, ca, L, tx], st := fromL (Str.empty) [cn, x], lo := fromL ([]) [news], v := fromL (.none) [ccd], m := fromL (fun _ => none) [mg, mb, m], sh := fromL ({}) [s], h := fromL ({}) [base, h₀], ar := fromL (aroundZ) [A₀], w := fromL (worldZ) [w], me := fromL (fun _ => none) [mean], qv := fromL (fun _ _ => True) [Q, E], sc := fromL (default) [cs], gd := fromL (none) [gd], cl := fromL ([]) [cl], le := fromL ([]) [outer] }
end
section
noncomputable abbrev ent (w : World) (n : Str) (t : Tok) (v : Value) : DictEntry := ⟨PyData.keyHash w.params n, .str n t, v⟩
noncomputable abbrev lexD (w : World) (D P : Addr) (a1 a2 a3 a4 : Tok) (line : Int) (b1 b2 : Tok) : Obj :=
  dictOf [ent w (Str.ofString "lineno") a1 (.int line b1), ent w (Str.ofString "instream") a2 (.ref D), ent w (Str.ofString "whitespace") a3 (.str (Str.ofString "\n\t\r ") b2), ent w (Str.ofString "pushback") a4 (.ref P)] 4
theorem nl_yes {x : Str} {l : Int} (h : (x == Str.ofString "\n") = true) : l + (if x == Str.ofString "\n" then 1 else 0) = l + 1 := by rw [if_pos h]
theorem nl_no {x : Str} {l : Int} (h : (x == Str.ofString "\n") = false) : l + (if x == Str.ofString "\n" then 1 else 0) = l := by rw [if_neg (by rw [h]; decide), Int.add_zero]
noncomputable abbrev nlI (x : Str) : Int := if x == Str.ofString "\n" then 1 else 0
theorem method_func_N {prog : Program} {w : World} {A : Around} {h₀ : Heap} {L x : Addr} {s : Shared} {E : Value → Shared → Prop} {news : List (Addr × Obj)} {d : Addr} {fn : FuncData} {sl : Array (Option Value)} {od : Obj} {name : Str} {v : Value} {pl : Sem Bool} {Q : Value × List Value → Shared → Prop}
    (N : News h₀ L s.heap news) (hx : (x, (⟨.type "function", some d, .func fn, sl⟩ : Obj)) ∈ news) (hd : (d, od) ∈ news) (hl : lookIn name od = some (some v)) (hn : typeLookup (.type "function") name = pure none) (hv : handedIn v = true)
    (h : Q (v, []) { s with toks := s.toks + 1 }) : wpAny (model prog w) A (getMethod (.ref x) name pl) Q E s := method_func (N _ hx).1 (N _ hd).1 hl hn hv h
local macro_rules | `(tactic| walk_at "getMethod ref") => `(tactic| (k_here; k_dflt (refine' method_func_N ?k1 ?k2 ?k3 ?k4 ?k5 ?k6 ?_; (case k1 => k_asm); (case k2 | k3 => top_caught0); (case k4 => exact rfl); (case k5 => exact fn_read); (case k6 => exact rfl); k_whole); (try dsimp only)))
theorem ReadSpec.use {w : World} {x : Str} {fr l : Addr} {held : List (Addr × Obj)} {mean : ExcName → Option Value} {mg mb : Str → Option Value}
    {dp un : Nat} {gd : Option (List Code)} {cn : Str} {cs : Scope} {ca : Addr} {ccd : Value} {cl : List (Str × Addr)} {outer : List Env} {A₀ : Around} {base h₀ : Heap} {L : Addr} {m : Str → Option Value} {s : Shared} {Q E : Value → Shared → Prop} {news : List (Addr × Obj)} {k n : Nat} {t t1 : Tok} {a b : Addr × Obj}
    (R : ReadSpec w x fr l held) (B : Below A₀ base outer h₀) (F : Fr h₀ L s.heap m) (X : (KX w.params).In h₀) (N : News h₀ L s.heap ((l, W.listOf #[.int (k : Int) t] n) :: a :: b :: (held ++ news)))
    (hl : ∀ p ∈ held ++ news, p.1 ≠ l) (ha : a.1 ≠ l) (hb : b.1 ≠ l) (T : Top topProg lawLoose mean mg mb h₀) (hk : cs.kind = .function) (C0 : CodeHd base 109 105) (hdp : dp + 20 < recursionLimit) (hun : un + 60 < cLine) (hk9 : k < 1000)
    (h : ∀ (t' t2 : Tok) (n' : Nat) (h' : Heap) (tk' : Nat), Fr h₀ L h' m → News h₀ L h' ((l, W.listOf #[.int ((k + 1 : Nat) : Int) t'] n') :: a :: b :: (held ++ news)) → Q (.str (chr1 x k) t2) { s with heap := h', toks := tk' }) :
    wpAny (model Challenge.rw_st0007_01.prog w) (W.ktrTop dp un gd cn cs L ca ccd cl outer) (call (.ref fr) [.int 1 t1]) Q E s := by
  have sw : ∀ (o : Addr × Obj) (p : Addr × Obj), p ∈ o :: a :: b :: (held ++ news) ↔ p ∈ o :: (held ++ (a :: b :: news)) := fun o p => mem_sw2 (A := [_, _])
  unfold ReadSpec at R
  refine R (news := a :: b :: news) B F X (fun p hp => N p ((sw _ p).mpr hp)) (fun p hp => ?_) T hk C0 hdp hun hk9 (fun t' t2 n' h' tk' F' N' => h t' t2 n' h' tk' F' (fun p hp => N' p ((sw _ p).mp hp)))
  rcases List.mem_append.mp hp with hp | hp
  · exact hl p (List.mem_append_left _ hp)
  · refine mem_cs hp ?_ fun hp => ?_
    · exact ha
    · refine mem_cs hp ?_ fun hp => ?_
      · exact hb
      · exact hl p (List.mem_append_right _ hp)
local macro_rules | `(tactic| walk_at "FnAt") => `(tactic| (k_dflt (exact FnAt.of (by k_asm) (by top_caught0))))
local macro_rules | `(tactic| walk_at "call ref") => `(tactic| (k_here; k_dflt (refine' ReadSpec.use ?kR ?kcB ?kcF ?kcX ?kcN ?k1 ?k2 ?k3 ?kcT ?kck ?kC ?kcd ?kcu ?k9 ?_; (case kR | kcB | kcF | kcX | kcN | k1 | k2 | k3 | kcT | kck | kC | kcd | kcu | k9 => tb_rel); intro t9 t8 n9 h9 tk9 F9 N9; tb_start)))
local macro_rules | `(tactic| walk_at "callWith ref") => `(tactic| (k_here; k_dflt (refine' callWith_F ?k1 ?_; (case k1 => exact FnAt.of (by k_asm) (by top_caught0)); k_whole)))
theorem readchar_c {w : World} {mean : ExcName → Option Value} {mg mb : Str → Option Value}
    {dp un : Nat} {gd : Option (List Code)} {cn : Str} {cs : Scope} {ca : Addr} {ccd : Value} {cl : List (Str × Addr)} {outer : List Env} {A₀ : Around} {base h₀ : Heap} {L : Addr} {m : Str → Option Value} {s : Shared} {Q E : Value → Shared → Prop} {news : List (Addr × Obj)}
    {x9 : Str} {self D P fr l d dx : Addr} {a1 a2 a3 a4 b1 b2 : Tok} {line : Int} {k n : Nat} {t : Tok} {held : List (Addr × Obj)}
    (B : Below A₀ base outer h₀) (F : Fr h₀ L s.heap m) (X : (KX w.params).In h₀) (N : News h₀ L s.heap ((l, W.listOf #[.int (k : Int) t] n) :: (dx, lexD w D P a1 a2 a3 a4 line b1 b2) :: (self, instObj 87 dx) :: (held ++ news))) (hl : ∀ p ∈ held ++ news, p.1 ≠ l) (hl2 : dx ≠ l) (hl3 : self ≠ l) (hd1 : ∀ p ∈ held ++ news, p.1 ≠ dx) (hd2 : self ≠ dx) (C0 : CodeHd base 109 105) (R : StreamAt w x9 D fr l d held) (hk9 : k < 1000) (T : Top topProg lawLoose mean mg mb h₀) (hk : cs.kind = .function)
    (hdp : dp + 40 < recursionLimit) (hun : un + 120 < cLine) 
    (hret : ∀ (t t' b1' : Tok) (n' : Nat) (h' : Heap) (tk' : Nat), Fr h₀ L h' m → News h₀ L h' ((l, W.listOf #[.int ((k + 1 : Nat) : Int) t'] n') :: (dx, lexD w D P a1 a2 a3 a4 (line + nlI (chr1 x9 k)) b1' b2) :: (self, instObj 87 dx) :: (held ++ news)) → Q (.str (chr1 x9 k) t) { s with heap := h', toks := tk' }) :
    codeAny (model Challenge.rw_st0007_01.prog w) (W.ktrTop dp un gd cn cs L ca ccd cl outer) (.call (.ref 70) ⟨[.ref self], []⟩) (fun r s' => match r with | .ok (.ret v) => Q v s' | .ok _ => False | .error e => E e s') s := by
  have hn1 : @Ne Nat l dx := fun e => hl2 e.symm
  have hn2 : @Ne Nat self dx := hd2
  have hn3 : @Ne Nat self l := hl3
  obtain ⟨R, ⟨fn1, hD⟩, ⟨t2, hd⟩, ⟨fn2, hf⟩⟩ := R
  have hD' := List.mem_append_left news hD
  have hd' := List.mem_append_left news hd
  have hf' := List.mem_append_left news hf
  revert X; k_fill; intro X
  k_dflt cell_enter
  k_steps
  all_goals first
    | (rw [nl_yes (by assumption)] at hret; exact hret _ _ _ _ _ _ (by assumption) (by assumption))
    | (rw [nl_no (by assumption)] at hret; exact hret _ _ _ _ _ _ (by assumption) (by assumption))
    | k_data
end
section
theorem seq0 (v : Value) (its : List Value) : seqIndex? 0 (v :: its).toArray.size = some 0 := by
  unfold seqIndex?
  simp
theorem pop0 {w : World} {A : Around} {h₀ : Heap} {L D : Addr} {m : Str → Option Value} {s : Shared} {E Q : Value → Shared → Prop} {u : Tok} {n : Nat} {y : Value} {q : List Value} {news news' : List (Addr × Obj)} (F : Fr h₀ L s.heap m) (N : News h₀ L s.heap news) (U : Upd D (W.listOf (y :: q).toArray n) (W.listOf q.toArray (n + 1)) news news') (hz : (y :: q).toArray.toList.length ≤ sizeLine)
    (h : ∀ h', Fr h₀ L h' m → News h₀ L h' news' → Q y { s with heap := h' }) : wpAny (model Challenge.rw_st0007_01.prog w) A (call (.builtin "list.pop") [.ref D, .int 0 u]) Q E s := W.kl_popAt F N rfl (seq0 y q) rfl U hz h
local macro_rules | `(tactic| walk_at "call builtin:list.pop") => `(tactic| (k_here; k_dflt (refine' pop0 ?F ?N ?U ?z ?_; (case F | N => k_asm); (case U => k_upd); (case z => assumption)); intro h' F' N'))
theorem push_w {w : World} {mean : ExcName → Option Value} {mg mb : Str → Option Value}
    {dp un : Nat} {gd : Option (List Code)} {cn : Str} {cs : Scope} {ca : Addr} {ccd : Value} {cl : List (Str × Addr)} {outer : List Env} {A₀ : Around} {base h₀ : Heap} {L : Addr} {m : Str → Option Value} {s : Shared} {Q E : Value → Shared → Prop} {news : List (Addr × Obj)}
    {self D P l dx : Addr} {a1 a2 a3 a4 b1 b2 tx : Tok} {line : Int} {k n pn : Nat} {t : Tok} {x : Str} {its : Array Value} {held : List (Addr × Obj)}
    (B : Below A₀ base outer h₀) (F : Fr h₀ L s.heap m) (X : (KX w.params).In h₀) (N : News h₀ L s.heap ((P, W.listOf its pn) :: (l, W.listOf #[.int (k : Int) t] n) :: (dx, lexD w D P a1 a2 a3 a4 line b1 b2) :: (self, instObj 87 dx) :: (held ++ news))) (hl : ∀ p ∈ held ++ news, p.1 ≠ l) (hl2 : dx ≠ l) (hl3 : self ≠ l) (hd1 : ∀ p ∈ held ++ news, p.1 ≠ dx) (hd2 : self ≠ dx) (hp1 : ∀ p ∈ held ++ news, p.1 ≠ P) (hp2 : self ≠ P) (hp3 : dx ≠ P) (hp4 : l ≠ P) (hsz : its.size ≤ sizeLine) (T : Top topProg lawLoose mean mg mb h₀) (hk : cs.kind = .function)
    (hdp : dp + 20 < recursionLimit) (hun : un + 60 < cLine) 
    (hret : ∀ (h' : Heap) (tk' : Nat), Fr h₀ L h' m → News h₀ L h' ((P, W.listOf (its.push (.str x tx)) (pn + 1)) :: (l, W.listOf #[.int (k : Int) t] n) :: (dx, lexD w D P a1 a2 a3 a4 line b1 b2) :: (self, instObj 87 dx) :: (held ++ news)) → Q .none { s with heap := h', toks := tk' }) :
    wpAny (model Challenge.rw_st0007_01.prog w) (W.ktrTop dp un gd cn cs L ca ccd cl outer) (call (.ref 84) [.ref self, .str x tx]) Q E s := by
  have hn1 : @Ne Nat l P := hp4
  have hn2 : @Ne Nat dx P := hp3
  have hn3 : @Ne Nat self P := hp2
  revert X; k_fill; intro X
  refine wpAny_call ?_
  k_dflt cell_enter
  k_steps
  all_goals first | (exact hret _ _ (by assumption) (by assumption)) | trace_state
theorem pop_w {w : World} {mean : ExcName → Option Value} {mg mb : Str → Option Value}
    {dp un : Nat} {gd : Option (List Code)} {cn : Str} {cs : Scope} {ca : Addr} {ccd : Value} {cl : List (Str × Addr)} {outer : List Env} {A₀ : Around} {base h₀ : Heap} {L : Addr} {m : Str → Option Value} {s : Shared} {Q E : Value → Shared → Prop} {news : List (Addr × Obj)}
    {self D P l dx : Addr} {a1 a2 a3 a4 b1 b2 : Tok} {line : Int} {k n pn : Nat} {t : Tok} {v : Value} {its : List Value} {held : List (Addr × Obj)}
    (B : Below A₀ base outer h₀) (F : Fr h₀ L s.heap m) (X : (KX w.params).In h₀) (N : News h₀ L s.heap ((P, W.listOf (v :: its).toArray pn) :: (l, W.listOf #[.int (k : Int) t] n) :: (dx, lexD w D P a1 a2 a3 a4 line b1 b2) :: (self, instObj 87 dx) :: (held ++ news))) (hl : ∀ p ∈ held ++ news, p.1 ≠ l) (hl2 : dx ≠ l) (hl3 : self ≠ l) (hd1 : ∀ p ∈ held ++ news, p.1 ≠ dx) (hd2 : self ≠ dx) (hp1 : ∀ p ∈ held ++ news, p.1 ≠ P) (hp2 : self ≠ P) (hp3 : dx ≠ P) (hp4 : l ≠ P) (hsz : its.length ≤ 1000) (T : Top topProg lawLoose mean mg mb h₀) (hk : cs.kind = .function)
    (hdp : dp + 20 < recursionLimit) (hun : un + 60 < cLine) 
    (hret : ∀ (pn' : Nat) (h' : Heap) (tk' : Nat), Fr h₀ L h' m → News h₀ L h' ((P, W.listOf its.toArray pn') :: (l, W.listOf #[.int (k : Int) t] n) :: (dx, lexD w D P a1 a2 a3 a4 line b1 b2) :: (self, instObj 87 dx) :: (held ++ news)) → Q v { s with heap := h', toks := tk' }) :
    wpAny (model Challenge.rw_st0007_01.prog w) (W.ktrTop dp un gd cn cs L ca ccd cl outer) (call (.ref 77) [.ref self]) Q E s := by
  have hsz2 : (v :: its).toArray.toList.length ≤ sizeLine := by rw [sizeLine_eq]; simp; omega
  have hn1 : @Ne Nat l P := hp4
  have hn2 : @Ne Nat dx P := hp3
  have hn3 : @Ne Nat self P := hp2
  revert X; k_fill; intro X
  refine wpAny_call ?_
  k_dflt cell_enter
  k_steps
  all_goals first | (exact hret _ _ _ (by assumption) (by assumption)) | trace_state
end
section
noncomputable abbrev T9 (w : World) (I q P l dx self D : Addr) (a1 a2 a3 a4 b2 : Tok) (po io : Obj) (k n : Nat) (t b1 : Tok) (line : Int) (rest : List (Addr × Obj)) : List (Addr × Obj) :=
  (I, io) :: (q, methodObj (.ref 70) (.ref self)) :: (P, po) :: (l, W.listOf #[.int (k : Int) t] n) :: (dx, lexD w D P a1 a2 a3 a4 line b1 b2) :: (self, instObj 87 dx) :: rest
structure Ap (I q P l dx self : Addr) (rest : List (Addr × Obj)) : Prop where
  nd : [I, q, P, l, dx, self].Nodup
  off : ∀ p ∈ rest, p.1 ∉ [I, q, P, l, dx, self]
theorem next_char {w : World} {mean : ExcName → Option Value} {mg mb : Str → Option Value}
    {dp un : Nat} {gd : Option (List Code)} {cn : Str} {cs : Scope} {ca : Addr} {ccd : Value} {cl : List (Str × Addr)} {outer : List Env} {A₀ : Around} {base h₀ : Heap} {L : Addr} {m : Str → Option Value} {s : Shared} {E : Value → Shared → Prop} {Q : Option Value → Shared → Prop} {news : List (Addr × Obj)}
    {x9 : Str} {I q self D P fr l d dx : Addr} {a1 a2 a3 a4 b1 b2 ts : Tok} {line : Int} {k n : Nat} {t : Tok} {po : Obj} {held : List (Addr × Obj)}
    (B : Below A₀ base outer h₀) (F : Fr h₀ L s.heap m) (X : (KX w.params).In h₀) (N : News h₀ L s.heap (T9 w I q P l dx self D a1 a2 a3 a4 b2 po (ciObj q ts) k n t b1 line (held ++ news)))
    (ap : Ap I q P l dx self (held ++ news)) (T : Top topProg lawLoose mean mg mb h₀) (hk : cs.kind = .function) (C0 : CodeHd base 109 105) (R : StreamAt w x9 D fr l d held) (hk9 : k < 1000)
    (hdp : dp + 40 < recursionLimit) (hun : un + 130 < cLine)
    (h1 : chr1 x9 k ≠ Str.ofString "" → ∀ (t' t'' b1' : Tok) (n' : Nat) (h' : Heap) (tk' : Nat), Fr h₀ L h' m → News h₀ L h' (T9 w I q P l dx self D a1 a2 a3 a4 b2 po (ciObj q ts) (k + 1) n' t'' b1' (line + nlI (chr1 x9 k)) (held ++ news)) → Q (some (.str (chr1 x9 k) t')) { s with heap := h', toks := tk' })
    (h2 : chr1 x9 k = Str.ofString "" → ∀ (t'' b1' : Tok) (n' : Nat) (h' : Heap) (tk' : Nat), Fr h₀ L h' m → News h₀ L h' (T9 w I q P l dx self D a1 a2 a3 a4 b2 po ciEnd (k + 1) n' t'' b1' (line + nlI (chr1 x9 k)) (held ++ news)) → Q none { s with heap := h', toks := tk' }) :
    wpAny (model Challenge.rw_st0007_01.prog w) (W.ktrTop dp un gd cn cs L ca ccd cl outer) (pyNext (.ref I)) Q E s := by
  obtain ⟨nd, off⟩ := ap
  simp only [List.nodup_cons, List.mem_cons, List.not_mem_nil, or_false, not_or, List.nodup_nil, and_true] at nd off
  refine Classical.byContradiction fun hG0 => ?_
  obtain ⟨⟨n12, n13, n14, n15, n16⟩, ⟨n23, n24, n25, n26⟩, ⟨n34, n35, n36⟩, ⟨n45, n46⟩, n56, -⟩ := nd
  refine hG0 ?_
  clear hG0
  have hI := (N (I, ciObj q ts) (.head _)).1
  have hq := (N (q, methodObj (.ref 70) (.ref self)) (.tail _ (.head _))).1
  have hf : ∀ h, (∀ b o, h₀.get? b = some o → h.get? b = some o) → FnAt 70 h := fun h e => ⟨_, _, _, _, e _ _ (X 70 _ rfl)⟩
  have sw : ∀ (io a b c : Addr × Obj) (p : Addr × Obj), p ∈ io :: (q, methodObj (.ref 70) (.ref self)) :: (P, po) :: a :: b :: c :: (held ++ news) ↔ p ∈ a :: b :: c :: (held ++ (io :: (q, methodObj (.ref 70) (.ref self)) :: (P, po) :: news)) := fun io a b c p => mem_sw (A := [_, _, _]) (B := [_, _, _])
  refine ci_next rfl hI hq (hf _ F.keep) ?_
  refine codeAny_mono (A := W.ktrTop dp (un + 1) gd cn cs L ca ccd cl outer) (readchar_c (dp := dp) (un := un + 1) (gd := gd) (cn := cn) (ca := ca) (ccd := ccd) (cl := cl) (news := (I, ciObj q ts) :: (q, methodObj (.ref 70) (.ref self)) :: (P, po) :: news) (E := fun _ _ => False) (Q := fun v s' => ∃ c t, v = .str c t ∧ s'.heap.get? I = some (ciObj q ts) ∧ s'.heap.get? q = some (methodObj (.ref 70) (.ref self)) ∧ FnAt 70 s'.heap ∧
      (c ≠ Str.ofString "" → Q (some (.str c t)) s') ∧ (c = Str.ofString "" → ∀ h', (∀ {h₀ : Heap} {L : Addr} {m : Str → Option Value} {news : List (Addr × Obj)}, Fr h₀ L s'.heap m → News h₀ L s'.heap ((I, ciObj q ts) :: news) → (∀ p ∈ news, p.1 ≠ I) →
        Fr h₀ L h' m ∧ News h₀ L h' ((I, ciEnd) :: news)) → Q none { s' with heap := h' })) B F X (fun p hp => N p ((sw _ _ _ _ p).mpr hp)) ?_ (fun e => n45 e.symm) ?_ ?_ (fun e => n56 e.symm) C0 R hk9 T hk (by omega) (by omega) ?_) (fun r s' z => ?_)
  · intro p hp
    rcases List.mem_append.mp hp with hp | hp
    · exact (off p (List.mem_append.mpr (.inl hp))).2.2.2.1
    · refine mem_cs hp ?_ fun hp => ?_
      · exact n14
      · refine mem_cs hp ?_ fun hp => ?_
        · exact n24
        · refine mem_cs hp ?_ fun hp => ?_
          · exact n34
          · exact (off p (List.mem_append.mpr (.inr hp))).2.2.2.1
  · exact fun e => n46 e.symm
  · intro p hp
    rcases List.mem_append.mp hp with hp | hp
    · exact (off p (List.mem_append.mpr (.inl hp))).2.2.2.2.1
    · refine mem_cs hp ?_ fun hp => ?_
      · exact n15
      · refine mem_cs hp ?_ fun hp => ?_
        · exact n25
        · refine mem_cs hp ?_ fun hp => ?_
          · exact n35
          · exact (off p (List.mem_append.mpr (.inr hp))).2.2.2.2.1
  · intro t1 t2 b1' n' h' tk' F' N'
    have N2 := fun p hp => N' p ((sw _ _ _ _ p).mp hp)
    refine ⟨_, _, rfl, (N2 (I, ciObj q ts) (.head _)).1, (N2 (q, methodObj (.ref 70) (.ref self)) (.tail _ (.head _))).1, hf _ F'.keep, fun hc => h1 hc _ _ _ _ _ _ F' N2, fun hc h'' z => ?_⟩
    have off2 : ∀ p ∈ (q, methodObj (.ref 70) (.ref self)) :: (P, po) :: (l, W.listOf #[.int ((k + 1 : Nat) : Int) t2] n') :: (dx, lexD w D P a1 a2 a3 a4 (line + nlI (chr1 x9 k)) b1' b2) :: (self, instObj 87 dx) :: (held ++ news), p.1 ≠ I := by
      refine all_cons ?_ (all_cons ?_ (all_cons ?_ (all_cons ?_ (all_cons ?_ fun p hp => ?_))))
      · exact fun e => n12 e.symm
      · exact fun e => n13 e.symm
      · exact fun e => n14 e.symm
      · exact fun e => n15 e.symm
      · exact fun e => n16 e.symm
      · exact (off p hp).1
    obtain ⟨F3, N3⟩ := z F' N2 off2
    exact h2 hc _ _ _ _ _ F3 N3
  · match r, z with
    | .error e, z => exact z.elim
    | .ok (.ret v), z =>
      obtain ⟨c, t', rfl, r⟩ := z
      exact ⟨c, t', rfl, r⟩
    | .ok .next, z => exact z.elim
    | .ok .brk, z => exact z.elim
    | .ok .cont, z => exact z.elim
theorem readchar9 {w : World} {mean : ExcName → Option Value} {mg mb : Str → Option Value}
    {dp un : Nat} {gd : Option (List Code)} {cn : Str} {cs : Scope} {ca : Addr} {ccd : Value} {cl : List (Str × Addr)} {outer : List Env} {A₀ : Around} {base h₀ : Heap} {L : Addr} {m : Str → Option Value} {s : Shared} {Q E : Value → Shared → Prop} {news : List (Addr × Obj)}
    {x9 : Str} {I q self D P fr l d dx : Addr} {a1 a2 a3 a4 b1 b2 : Tok} {line : Int} {k n : Nat} {t : Tok} {po io : Obj} {held : List (Addr × Obj)}
    (B : Below A₀ base outer h₀) (F : Fr h₀ L s.heap m) (X : (KX w.params).In h₀) (N : News h₀ L s.heap (T9 w I q P l dx self D a1 a2 a3 a4 b2 po io k n t b1 line (held ++ news)))
    (ap : Ap I q P l dx self (held ++ news)) (T : Top topProg lawLoose mean mg mb h₀) (hk : cs.kind = .function) (C0 : CodeHd base 109 105) (R : StreamAt w x9 D fr l d held) (hk9 : k < 1000)
    (hdp : dp + 40 < recursionLimit) (hun : un + 130 < cLine)
    (h1 : ∀ (t' t'' b1' : Tok) (n' : Nat) (h' : Heap) (tk' : Nat), Fr h₀ L h' m → News h₀ L h' (T9 w I q P l dx self D a1 a2 a3 a4 b2 po io (k + 1) n' t'' b1' (line + nlI (chr1 x9 k)) (held ++ news)) → Q (.str (chr1 x9 k) t') { s with heap := h', toks := tk' }) :
    wpAny (model Challenge.rw_st0007_01.prog w) (W.ktrTop dp un gd cn cs L ca ccd cl outer) (call (.ref 70) [.ref self]) Q E s := by
  obtain ⟨nd, off⟩ := ap
  simp only [List.nodup_cons, List.mem_cons, List.not_mem_nil, or_false, not_or, List.nodup_nil, and_true] at nd off
  refine Classical.byContradiction fun hG0 => ?_
  obtain ⟨⟨n12, n13, n14, n15, n16⟩, ⟨n23, n24, n25, n26⟩, ⟨n34, n35, n36⟩, ⟨n45, n46⟩, n56, -⟩ := nd
  refine hG0 ?_
  clear hG0
  have sw : ∀ (io a b c : Addr × Obj) (p : Addr × Obj), p ∈ io :: (q, methodObj (.ref 70) (.ref self)) :: (P, po) :: a :: b :: c :: (held ++ news) ↔ p ∈ a :: b :: c :: (held ++ (io :: (q, methodObj (.ref 70) (.ref self)) :: (P, po) :: news)) := fun io a b c p => mem_sw (A := [_, _, _]) (B := [_, _, _])
  refine wpAny_call ?_
  refine readchar_c (dp := dp) (un := un) (gd := gd) (cn := cn) (ca := ca) (ccd := ccd) (cl := cl) (news := (I, io) :: (q, methodObj (.ref 70) (.ref self)) :: (P, po) :: news) B F X (fun p hp => N p ((sw _ _ _ _ p).mpr hp)) ?_ (fun e => n45 e.symm) ?_ ?_ (fun e => n56 e.symm) C0 R hk9 T hk (by omega) (by omega) ?_
  · intro p hp
    rcases List.mem_append.mp hp with hp | hp
    · exact (off p (List.mem_append.mpr (.inl hp))).2.2.2.1
    · refine mem_cs hp ?_ fun hp => ?_
      · exact n14
      · refine mem_cs hp ?_ fun hp => ?_
        · exact n24
        · refine mem_cs hp ?_ fun hp => ?_
          · exact n34
          · exact (off p (List.mem_append.mpr (.inr hp))).2.2.2.1
  · exact fun e => n46 e.symm
  · intro p hp
    rcases List.mem_append.mp hp with hp | hp
    · exact (off p (List.mem_append.mpr (.inl hp))).2.2.2.2.1
    · refine mem_cs hp ?_ fun hp => ?_
      · exact n15
      · refine mem_cs hp ?_ fun hp => ?_
        · exact n25
        · refine mem_cs hp ?_ fun hp => ?_
          · exact n35
          · exact (off p (List.mem_append.mpr (.inr hp))).2.2.2.2.1
  · intro t1 t2 b1' n' h' tk' F' N'
    exact h1 _ _ _ _ _ _ F' (fun p hp => N' p ((sw _ _ _ _ p).mp hp))
end
local macro_rules | `(tactic| walk_at "zz") => `(tactic| fail)
section
local macro_rules | `(tactic| omega) => `(tactic| first | (with_reducible kas_types) | lia)
noncomputable def lineAt (x : Str) : Nat → Int | 0 => 1 | k + 1 => lineAt x k + nlI (chr1 x k)
noncomputable abbrev occWs (c : Str) : Bool := (Builtin.Str.occurrences (Str.ofString "\n\t\r ") c 0 (Str.ofString "\n\t\r ").length 1).isEmpty
noncomputable def isWs (c : Str) : Bool := !occWs c
theorem ws_t {c : Str} (h : isWs c = true) : occWs c = false := by unfold isWs at h; revert h; cases occWs c <;> simp
theorem ws_f {c : Str} (h : isWs c = false) : occWs c = true := by unfold isWs at h; revert h; cases occWs c <;> simp
theorem beq_t {a b : Str} (h : a = b) : (a == b) = true := by subst h; exact beq_self_eq_true _
theorem beq_f {a b : Str} (h : a ≠ b) : (a == b) = false := beq_eq_false_iff_ne.mpr h
inductive QRun (x : Str) : Nat → Nat → Str → Str → Nat → Prop
  | close {k tok} : chr1 x k = Str.ofString "\"" → QRun x 0 k tok tok (k + 1)
  | esc {j k tok r k'} : chr1 x k = Str.ofString "\\" → QRun x j (k + 1 + 1) (tok ++ chr1 x (k + 1)) r k' → QRun x (j + 1) k tok r k'
  | plain {j k tok r k'} : chr1 x k ≠ Str.ofString "" → chr1 x k ≠ Str.ofString "\"" → chr1 x k ≠ Str.ofString "\\" → QRun x j (k + 1) (tok ++ chr1 x k) r k' → QRun x (j + 1) k tok r k'
inductive PRun (x : Str) : Nat → Nat → Str → Str → Nat → Prop
  | stop {k tok} : chr1 x k ≠ Str.ofString "" → isWs (chr1 x k) = true → PRun x 0 k tok tok (k + 1)
  | fin {k tok} : chr1 x k = Str.ofString "" → PRun x 0 k tok tok (k + 1)
  | esc {j k tok r k'} : chr1 x k = Str.ofString "\\" → PRun x j (k + 1 + 1) (tok ++ chr1 x (k + 1)) r k' → PRun x (j + 1) k tok r k'
  | plain {j k tok r k'} : chr1 x k ≠ Str.ofString "" → isWs (chr1 x k) = false → chr1 x k ≠ Str.ofString "\\" → PRun x j (k + 1) (tok ++ chr1 x k) r k' → PRun x (j + 1) k tok r k'
inductive ORun (x : Str) : Nat → Nat → Str → Nat → Prop
  | skip {j k r k'} : chr1 x k ≠ Str.ofString "" → isWs (chr1 x k) = true → ORun x j (k + 1) r k' → ORun x (j + 1) k r k'
  | fin {k} : chr1 x k = Str.ofString "" → ORun x 0 k (Str.ofString "") (k + 1)
  | quote {j k r k'} : chr1 x k = Str.ofString "\"" → QRun x j (k + 1) (Str.ofString "") r k' → ORun x 0 k r k'
  | esc {j k r k'} : chr1 x k = Str.ofString "\\" → PRun x j (k + 1 + 1) (Str.ofString "" ++ chr1 x (k + 1)) r k' → ORun x 0 k r k'
  | plain {j k r k'} : chr1 x k ≠ Str.ofString "" → isWs (chr1 x k) = false → chr1 x k ≠ Str.ofString "\"" → chr1 x k ≠ Str.ofString "\\" → PRun x j (k + 1) (Str.ofString "" ++ chr1 x k) r k' → ORun x 0 k r k'
theorem QRun.lt {x : Str} {j k k' : Nat} {tok r : Str} (h : QRun x j k tok r k') : k < k' := by
  induction h <;> omega
theorem PRun.lt {x : Str} {j k k' : Nat} {tok r : Str} (h : PRun x j k tok r k') : k < k' := by
  induction h <;> omega
theorem ORun.lt {x : Str} {j k k' : Nat} {r : Str} (h : ORun x j k r k') : k < k' := by
  induction h with
  | skip _ _ _ ih => omega
  | fin _ => omega
  | quote _ q => have := q.lt; omega
  | esc _ q => have := q.lt; omega
  | plain _ _ _ _ q => have := q.lt; omega
theorem Back.mk' {n k : Nat} {J : Nat → Shared → Prop} {s : Shared} (h : k < n) (j : J k s) : Back n J s := ⟨k, h, j⟩
theorem chr1_le (x : Str) (k : Nat) : (chr1 x k).length ≤ 1 := by
  unfold chr1; split <;> exact Nat.le_of_ble_eq_true rfl
theorem t9drop {w : World} {h₀ h : Heap} {L I q P l dx self D : Addr} {a1 a2 a3 a4 b2 : Tok} {po io : Obj} {k n : Nat} {t b1 : Tok} {line : Int} {rest : List (Addr × Obj)} (N : News h₀ L h (T9 w I q P l dx self D a1 a2 a3 a4 b2 po io k n t b1 line rest)) :
    News h₀ L h ((P, po) :: (l, W.listOf #[.int (k : Int) t] n) :: (dx, lexD w D P a1 a2 a3 a4 line b1 b2) :: (self, instObj 87 dx) :: rest) := fun p hp => N p (.tail _ (.tail _ hp))
local macro_rules | `(tactic| walk_at "call ref") => `(tactic| (k_here; k_dflt (refine' readchar9 ?kcB ?kcF ?kcX ?kcN ?kA ?kcT ?kck ?kC ?kR ?k9 ?kcd ?kcu ?_; (case kR | kcB | kcF | kcX | kcN | kA | kcT | kck | kC | kcd | kcu => tb_rel); (case k9 => omega); intro t9 t8 b9 n9 h9 tk9 F9 N9; tb_start)))
noncomputable def sub0 : Stmt → List Stmt | .For _ _ b _ _ => b | _ => []
noncomputable def sub1 : Stmt → List Stmt | .If _ b _ _ => b | _ => []
noncomputable def sub2 : Stmt → List Stmt | .If _ _ e _ => e | _ => []
noncomputable def at9 (l : List Stmt) (k : Nat) : Stmt := l.getD k (.Pass default)
noncomputable def forO : Stmt := at9 (fnOf (clsOf (Program.main Challenge.rw_st0007_01.prog).body 9) 2).2.1 3
noncomputable def forQ : Stmt := at9 (sub1 (at9 (sub0 forO) 1)) 0
noncomputable def forP : Stmt := at9 (sub2 (at9 (sub0 forO) 1)) 2
noncomputable abbrev gtEnv (L : Addr) : Env := envOf (Str.ofString "_netrclex.get_token") ⟨.function, [(Str.ofString "self", .local), (Str.ofString "token", .local), (Str.ofString "fiter", .local), (Str.ofString "ch", .local), (Str.ofString "iter", .globalImplicit)], false, false, []⟩ L 77 (Value.ref 76)
@[reducible] noncomputable def tokQ_S (w : World) (mean : ExcName → Option Value) (mg mb : Str → Option Value) (dp un : Nat) (gd : Option (List Code)) (cn : Str) (cs : Scope) (ca : Addr) (ccd : Value) (cl : List (Str × Addr)) (outer : List Env) (base g' : Heap) (L L' : Addr) (m' : Str → Option Value) (s : Shared) (Q : Flow → Shared → Prop) (E : Value → Shared → Prop) (news held : List (Addr × Obj)) (x9 tok : Str) (self D P l dx fr d I q : Addr) (a1 a2 a3 a4 b1 b2 : Tok) (j k n pn : Nat) (t ts tt : Tok) : Prop := ∀ {r9 : Str} {k9 : Nat} {st : Stmt} (hst : st = forQ) (B' : Below (W.ktrTop dp un gd cn cs L ca ccd cl outer) base (envX cn cs L ca ccd cl :: outer) g') (X' : (KX w.params).In g') (T' : Top topProg lawLoose mean mg mb g') (C0 : CodeHd base 109 105) (R : StreamAt w x9 D fr l d held) (hk9 : k9 < 1000) (ap : Ap I q P l dx self (held ++ news)) (hdp : dp + 80 < recursionLimit) (hun : un + 300 < cLine) (hE : PassesOwn (model Challenge.rw_st0007_01.prog w) ((W.ktrTop dp un gd cn cs L ca ccd cl outer).deeper (gtEnv L')) (gtEnv L') E) (run : QRun x9 j k tok r9 k9) (F6 : Fr g' L' s.heap m') (N6 : News g' L' s.heap (T9 w I q P l dx self D a1 a2 a3 a4 b2 (W.listOf #[] pn) (ciObj q ts) k n t b1 (lineAt x9 k) (held ++ news))) (mt : m' (Str.ofString "token") = some (.str tok tt)) (mf : m' (Str.ofString "fiter") = some (.ref I)) (ms : m' (Str.ofString "self") = some (.ref self)) (hlen : tok.length ≤ k) (hret : ∀ (t t' b1' : Tok) (n' : Nat) (h' : Heap) (tk' : Nat) (m2 : Str → Option Value), Fr g' L' h' m2 → News g' L' h' (T9 w I q P l dx self D a1 a2 a3 a4 b2 (W.listOf #[] pn) (ciObj q ts) k9 n' t' b1' (lineAt x9 k9) (held ++ news)) → Q (.ret (.str r9 t)) { s with heap := h', toks := tk' }), wpAny (model Challenge.rw_st0007_01.prog w) ((W.ktrTop dp un gd cn cs L ca ccd cl outer).deeper (gtEnv L')) (exec st (gtEnv L')) Q E s
namespace tokQ_K
@[irreducible] noncomputable def pt : Cx := bad fun c => tokQ_S (c.w 0) (c.me 0) (c.m 0) (c.m 1) (c.n 0) (c.n 1) (c.gd 0) (c.st 0) (c.sc 0) (c.n 2) (c.v 0) (c.cl 0) (c.le 0) (c.h 0) (c.h 1) (c.n 3) (c.n 4) (c.m 2) (c.sh 0) (c.qf 0) (c.qv 0) (c.lo 0) (c.lo 1) (c.st 1) (c.st 2) (c.n 5) (c.n 6) (c.n 7) (c.n 8) (c.n 9) (c.n 10) (c.n 11) (c.n 12) (c.n 13) (c.n 14) (c.n 15) (c.n 16) (c.n 17) (c.n 18) (c.n 19) (c.n 20) (c.n 21) (c.n 22) (c.n 23) (c.n 24) (c.n 25) (c.n 26)
@[irreducible] noncomputable def w : World := pt.w 0
@[irreducible] noncomputable def g' : Heap := pt.h 1
@[irreducible] noncomputable def L' : Addr := pt.n 4
@[irreducible] noncomputable def m' : Str → Option Value := pt.m 2
@[irreducible] noncomputable def s : Shared := pt.sh 0
@[irreducible] noncomputable def news : List (Addr × Obj) := pt.lo 0
@[irreducible] noncomputable def held : List (Addr × Obj) := pt.lo 1
@[irreducible] noncomputable def x9 : Str := pt.st 1
@[irreducible] noncomputable def tok : Str := pt.st 2
@[irreducible] noncomputable def self : Addr := pt.n 5
@[irreducible] noncomputable def D : Addr := pt.n 6
@[irreducible] noncomputable def P : Addr := pt.n 7
@[irreducible] noncomputable def l : Addr := pt.n 8
@[irreducible] noncomputable def dx : Addr := pt.n 9
@[irreducible] noncomputable def I : Addr := pt.n 12
@[irreducible] noncomputable def q : Addr := pt.n 13
@[irreducible] noncomputable def a1 : Tok := pt.n 14
@[irreducible] noncomputable def a2 : Tok := pt.n 15
@[irreducible] noncomputable def a3 : Tok := pt.n 16
@[irreducible] noncomputable def a4 : Tok := pt.n 17
@[irreducible] noncomputable def b1 : Tok := pt.n 18
@[irreducible] noncomputable def b2 : Tok := pt.n 19
@[irreducible] noncomputable def j : Nat := pt.n 20
@[irreducible] noncomputable def k : Nat := pt.n 21
@[irreducible] noncomputable def n : Nat := pt.n 22
@[irreducible] noncomputable def pn : Nat := pt.n 23
@[irreducible] noncomputable def t : Tok := pt.n 24
@[irreducible] noncomputable def ts : Tok := pt.n 25
@[irreducible] noncomputable def tt : Tok := pt.n 26
theorem main : tokQ_S w (pt.me 0) (pt.m 0) (pt.m 1) (pt.n 0) (pt.n 1) (pt.gd 0) (pt.st 0) (pt.sc 0) (pt.n 2) (pt.v 0) (pt.cl 0) (pt.le 0) (pt.h 0) g' (pt.n 3) L' m' s (pt.qf 0) (pt.qv 0) news held x9 tok self D P l dx (pt.n 10) (pt.n 11) I q a1 a2 a3 a4 b1 b2 j k n pn t ts tt := by
  intro r9 k9 st hst B' X' T' C0 R hk9 ap hdp hun hE run F6 N6 mt mf ms hlen hret
  subst hst
  rw [show forQ = .For (.Name _ _) (.Name _ _) [_, _] [] _ from rfl]
  revert X'; k_fill; intro X'
  unfold gtEnv at hE ⊢
  rw [known_eq mt, known_eq mf, known_eq ms] at F6
  refine For_by ?_ (hE := hE)
  k_steps
  rename Fr _ _ _ _ => F7
  rename News _ _ _ _ => N7
  refine ci_pyIter (N7 _ (.head _)).1 ?_
  refine inv_hide (fun j s' => ∃ h tk k n t b1 m' tt tok, s' = { s with heap := h, toks := tk } ∧ (QRun x9 j k tok r9 k9) ∧ Fr g' L' h m' ∧ News g' L' h (T9 w I q P l dx self D a1 a2 a3 a4 b2 (W.listOf #[] pn) (ciObj q ts) k n t b1 (lineAt x9 k) (held ++ news)) ∧
    m' (Str.ofString "token") = some (.str tok tt) ∧ m' (Str.ofString "fiter") = some (.ref I) ∧ m' (Str.ofString "self") = some (.ref self) ∧ tok.length ≤ k) _ (xI9 _ _ _ _ _ _ _ _ _ ⟨rfl, run, F7, N7, rfl, rfl, rfl, hlen⟩) fun J hJ => ?_
  clear F7 N7 run mt mf ms hlen
  rintro j s' hJ0
  refine Classical.byContradiction fun hG0 => ?_
  refine exE9 hJ0 ?_
  try clear hJ0
  rintro h tk k n t b1 m' tt tok hJ0
  refine anE8 hJ0 ?_
  try clear hJ0
  rintro rfl run F2 N2 mt mf ms hlen
  refine hG0 ?_
  clear hG0
  have hlt := run.lt
  have hc9 := chr1_le x9 k
  have hc8 := chr1_le x9 (k + 1)
  k_dflt (refine' next_char (by assumption) F2 (by assumption) N2 ap (by assumption) rfl C0 R (by omega) (by ktr_room) (by ktr_units) ?h1 ?h2)
  case h2 =>
    intro he t2 b1' n' h' tk' F3 N3
    cases run with
    | close hw => exact absurd (he.symm.trans hw) (by decide)
    | esc hw _ => exact absurd (he.symm.trans hw) (by decide)
    | plain hw _ _ _ => exact absurd he hw
  case h1 =>
    intro hne t1 t2 b1' n' h' tk' F3 N3
    clear F2 N2
    rw [known_eq mt, known_eq mf, known_eq ms] at F3
    dsimp only
    cases run with
    | close hc =>
      have c1 := beq_t hc
      have c2 := c1
      have c3 := c1
      k_steps
      all_goals (try (exfalso; first | exact Bool.noConfusion (c1.symm.trans (by assumption)) | exact Bool.noConfusion (c2.symm.trans (by assumption)) | exact Bool.noConfusion (c3.symm.trans (by assumption)) | exact absurd (by assumption) hne))
      exact hret _ _ _ _ _ _ _ (by assumption) (by assumption)
    | esc hc run' =>
      have c1 : (chr1 x9 k == Str.ofString "\"") = false := by rw [hc]; decide +kernel
      have c2 := beq_t hc
      have c3 := c1
      k_steps
      all_goals (try (exfalso; first | exact Bool.noConfusion (c1.symm.trans (by assumption)) | exact Bool.noConfusion (c2.symm.trans (by assumption)) | exact Bool.noConfusion (c3.symm.trans (by assumption)) | exact absurd (by assumption) hne))
      refine Back.mk' (Nat.lt_succ_self _) (hJ _ _ (xI9 _ _ _ _ _ _ _ _ _ ⟨rfl, run', by assumption, by assumption, rfl, rfl, rfl, by rw [Str.length_append]; omega⟩))
    | plain _ hq hb run' =>
      have c1 := beq_f hq
      have c2 := beq_f hb
      have c3 := c1
      k_steps
      all_goals (try (exfalso; first | exact Bool.noConfusion (c1.symm.trans (by assumption)) | exact Bool.noConfusion (c2.symm.trans (by assumption)) | exact Bool.noConfusion (c3.symm.trans (by assumption)) | exact absurd (by assumption) hne))
      refine Back.mk' (Nat.lt_succ_self _) (hJ _ _ (xI9 _ _ _ _ _ _ _ _ _ ⟨rfl, run', by assumption, by assumption, rfl, rfl, rfl, by rw [Str.length_append]; omega⟩))
end tokQ_K
theorem tokQ {w : World} {mean : ExcName → Option Value} {mg mb : Str → Option Value} {dp un : Nat} {gd : Option (List Code)} {cn : Str} {cs : Scope} {ca : Addr} {ccd : Value} {cl : List (Str × Addr)} {outer : List Env} {base g' : Heap} {L L' : Addr} {m' : Str → Option Value} {s : Shared} {Q : Flow → Shared → Prop} {E : Value → Shared → Prop} {news held : List (Addr × Obj)} {x9 tok : Str} {self D P l dx fr d I q : Addr} {a1 a2 a3 a4 b1 b2 : Tok} {j k n pn : Nat} {t ts tt : Tok} : tokQ_S w mean mg mb dp un gd cn cs ca ccd cl outer base g' L L' m' s Q E news held x9 tok self D P l dx fr d I q a1 a2 a3 a4 b1 b2 j k n pn t ts tt := @by_bad (fun c => tokQ_S (c.w 0) (c.me 0) (c.m 0) (c.m 1) (c.n 0) (c.n 1) (c.gd 0) (c.st 0) (c.sc 0) (c.n 2) (c.v 0) (c.cl 0) (c.le 0) (c.h 0) (c.h 1) (c.n 3) (c.n 4) (c.m 2) (c.sh 0) (c.qf 0) (c.qv 0) (c.lo 0) (c.lo 1) (c.st 1) (c.st 2) (c.n 5) (c.n 6) (c.n 7) (c.n 8) (c.n 9) (c.n 10) (c.n 11) (c.n 12) (c.n 13) (c.n 14) (c.n 15) (c.n 16) (c.n 17) (c.n 18) (c.n 19) (c.n 20) (c.n 21) (c.n 22) (c.n 23) (c.n 24) (c.n 25) (c.n 26)) (by with_unfolding_all exact tokQ_K.main) { cx0 with n := fromL (0) [dp, un, ca, L, L', self, D, P, l, dx, fr, d, I, q, a1, a2, a3, a4, b1, b2, j, k, n, pn, t, ts, tt], st := fromL (Str.empty) [cn, x9, tok], lo := fromL ([]) [news, held], v := fromL (.none) [ccd], m := fromL (fun _ => none) [mg, mb, m'], sh := fromL ({}) [s], h := fromL ({}) [base, g'], w := fromL (worldZ) [w], me := fromL (fun _ => none) [mean], qf := fromL (fun _ _ => True) [Q], qv := fromL (fun _ _ => True) [E], sc := fromL (default) [cs], gd := fromL (none) [gd], cl := fromL ([]) [cl], le := fromL ([]) [outer] }
@[reducible] noncomputable def tokP_S (w : World) (mean : ExcName → Option Value) (mg mb : Str → Option Value) (dp un : Nat) (gd : Option (List Code)) (cn : Str) (cs : Scope) (ca : Addr) (ccd : Value) (cl : List (Str × Addr)) (outer : List Env) (base g' : Heap) (L L' : Addr) (m' : Str → Option Value) (s : Shared) (Q : Flow → Shared → Prop) (E : Value → Shared → Prop) (news held : List (Addr × Obj)) (x9 tok : Str) (self D P l dx fr d I q : Addr) (a1 a2 a3 a4 b1 b2 : Tok) (j k n pn : Nat) (t ts tt : Tok) : Prop := ∀ {r9 : Str} {k9 : Nat} {st : Stmt} (hst : st = forP) (B' : Below (W.ktrTop dp un gd cn cs L ca ccd cl outer) base (envX cn cs L ca ccd cl :: outer) g') (X' : (KX w.params).In g') (T' : Top topProg lawLoose mean mg mb g') (C0 : CodeHd base 109 105) (R : StreamAt w x9 D fr l d held) (hk9 : k9 < 1000) (ap : Ap I q P l dx self (held ++ news)) (hdp : dp + 80 < recursionLimit) (hun : un + 300 < cLine) (hE : PassesOwn (model Challenge.rw_st0007_01.prog w) ((W.ktrTop dp un gd cn cs L ca ccd cl outer).deeper (gtEnv L')) (gtEnv L') E) (run : PRun x9 j k tok r9 k9) (F6 : Fr g' L' s.heap m') (N6 : News g' L' s.heap (T9 w I q P l dx self D a1 a2 a3 a4 b2 (W.listOf #[] pn) (ciObj q ts) k n t b1 (lineAt x9 k) (held ++ news))) (mt : m' (Str.ofString "token") = some (.str tok tt)) (mf : m' (Str.ofString "fiter") = some (.ref I)) (ms : m' (Str.ofString "self") = some (.ref self)) (hlen : tok.length ≤ k) (hret : ∀ (t t' b1' : Tok) (n' : Nat) (h' : Heap) (tk' : Nat) (m2 : Str → Option Value), Fr g' L' h' m2 → News g' L' h' (T9 w I q P l dx self D a1 a2 a3 a4 b2 (W.listOf #[] pn) (ciObj q ts) k9 n' t' b1' (lineAt x9 k9) (held ++ news)) → Q (.ret (.str r9 t)) { s with heap := h', toks := tk' }) (hnext : ∀ (ts t t' b1' : Tok) (n' : Nat) (h' : Heap) (tk' : Nat) (m2 : Str → Option Value), Fr g' L' h' m2 → News g' L' h' (T9 w I q P l dx self D a1 a2 a3 a4 b2 (W.listOf #[] pn) ciEnd k9 n' t' b1' (lineAt x9 k9) (held ++ news)) → m2 (Str.ofString "token") = some (.str r9 t) → m2 (Str.ofString "fiter") = some (.ref I) → m2 (Str.ofString "self") = some (.ref self) → Q .next { s with heap := h', toks := tk' }), wpAny (model Challenge.rw_st0007_01.prog w) ((W.ktrTop dp un gd cn cs L ca ccd cl outer).deeper (gtEnv L')) (exec st (gtEnv L')) Q E s
namespace tokP_K
@[irreducible] noncomputable def pt : Cx := bad fun c => tokP_S (c.w 0) (c.me 0) (c.m 0) (c.m 1) (c.n 0) (c.n 1) (c.gd 0) (c.st 0) (c.sc 0) (c.n 2) (c.v 0) (c.cl 0) (c.le 0) (c.h 0) (c.h 1) (c.n 3) (c.n 4) (c.m 2) (c.sh 0) (c.qf 0) (c.qv 0) (c.lo 0) (c.lo 1) (c.st 1) (c.st 2) (c.n 5) (c.n 6) (c.n 7) (c.n 8) (c.n 9) (c.n 10) (c.n 11) (c.n 12) (c.n 13) (c.n 14) (c.n 15) (c.n 16) (c.n 17) (c.n 18) (c.n 19) (c.n 20) (c.n 21) (c.n 22) (c.n 23) (c.n 24) (c.n 25) (c.n 26)
@[irreducible] noncomputable def w : World := pt.w 0
@[irreducible] noncomputable def g' : Heap := pt.h 1
@[irreducible] noncomputable def L' : Addr := pt.n 4
@[irreducible] noncomputable def m' : Str → Option Value := pt.m 2
@[irreducible] noncomputable def s : Shared := pt.sh 0
@[irreducible] noncomputable def news : List (Addr × Obj) := pt.lo 0
@[irreducible] noncomputable def held : List (Addr × Obj) := pt.lo 1
@[irreducible] noncomputable def x9 : Str := pt.st 1
@[irreducible] noncomputable def tok : Str := pt.st 2
@[irreducible] noncomputable def self : Addr := pt.n 5
@[irreducible] noncomputable def D : Addr := pt.n 6
@[irreducible] noncomputable def P : Addr := pt.n 7
@[irreducible] noncomputable def l : Addr := pt.n 8
@[irreducible] noncomputable def dx : Addr := pt.n 9
@[irreducible] noncomputable def I : Addr := pt.n 12
@[irreducible] noncomputable def q : Addr := pt.n 13
@[irreducible] noncomputable def a1 : Tok := pt.n 14
@[irreducible] noncomputable def a2 : Tok := pt.n 15
@[irreducible] noncomputable def a3 : Tok := pt.n 16
@[irreducible] noncomputable def a4 : Tok := pt.n 17
@[irreducible] noncomputable def b1 : Tok := pt.n 18
@[irreducible] noncomputable def b2 : Tok := pt.n 19
@[irreducible] noncomputable def j : Nat := pt.n 20
@[irreducible] noncomputable def k : Nat := pt.n 21
@[irreducible] noncomputable def n : Nat := pt.n 22
@[irreducible] noncomputable def pn : Nat := pt.n 23
@[irreducible] noncomputable def t : Tok := pt.n 24
@[irreducible] noncomputable def ts : Tok := pt.n 25
@[irreducible] noncomputable def tt : Tok := pt.n 26
theorem main : tokP_S w (pt.me 0) (pt.m 0) (pt.m 1) (pt.n 0) (pt.n 1) (pt.gd 0) (pt.st 0) (pt.sc 0) (pt.n 2) (pt.v 0) (pt.cl 0) (pt.le 0) (pt.h 0) g' (pt.n 3) L' m' s (pt.qf 0) (pt.qv 0) news held x9 tok self D P l dx (pt.n 10) (pt.n 11) I q a1 a2 a3 a4 b1 b2 j k n pn t ts tt := by
  intro r9 k9 st hst B' X' T' C0 R hk9 ap hdp hun hE run F6 N6 mt mf ms hlen hret hnext
  subst hst
  rw [show forP = .For (.Name _ _) (.Name _ _) [_, _] [] _ from rfl]
  revert X'; k_fill; intro X'
  unfold gtEnv at hE ⊢
  rw [known_eq mt, known_eq mf, known_eq ms] at F6
  refine For_by ?_ (hE := hE)
  k_steps
  rename Fr _ _ _ _ => F7
  rename News _ _ _ _ => N7
  refine ci_pyIter (N7 _ (.head _)).1 ?_
  refine inv_hide (fun j s' => ∃ h tk k n t b1 m' tt tok, s' = { s with heap := h, toks := tk } ∧ (PRun x9 j k tok r9 k9) ∧ Fr g' L' h m' ∧ News g' L' h (T9 w I q P l dx self D a1 a2 a3 a4 b2 (W.listOf #[] pn) (ciObj q ts) k n t b1 (lineAt x9 k) (held ++ news)) ∧
    m' (Str.ofString "token") = some (.str tok tt) ∧ m' (Str.ofString "fiter") = some (.ref I) ∧ m' (Str.ofString "self") = some (.ref self) ∧ tok.length ≤ k) _ (xI9 _ _ _ _ _ _ _ _ _ ⟨rfl, run, F7, N7, rfl, rfl, rfl, hlen⟩) fun J hJ => ?_
  clear F7 N7 run mt mf ms hlen
  rintro j s' hJ0
  refine Classical.byContradiction fun hG0 => ?_
  refine exE9 hJ0 ?_
  try clear hJ0
  rintro h tk k n t b1 m' tt tok hJ0
  refine anE8 hJ0 ?_
  try clear hJ0
  rintro rfl run F2 N2 mt mf ms hlen
  refine hG0 ?_
  clear hG0
  have hlt := run.lt
  have hc9 := chr1_le x9 k
  have hc8 := chr1_le x9 (k + 1)
  k_dflt (refine' next_char (by assumption) F2 (by assumption) N2 ap (by assumption) rfl C0 R (by omega) (by ktr_room) (by ktr_units) ?h1 ?h2)
  case h2 =>
    intro he t2 b1' n' h' tk' F3 N3
    cases run with
    | fin _ =>
      clear F2 N2
      rw [known_eq mt, known_eq mf, known_eq ms] at F3
      dsimp only
      k_steps
      exact hnext 0 _ _ _ _ _ _ _ (by assumption) (by assumption) rfl rfl rfl
    | stop hw _ => exact absurd he hw
    | esc hw _ => exact absurd (he.symm.trans hw) (by decide)
    | plain hw _ _ _ => exact absurd he hw
  case h1 =>
    intro hne t1 t2 b1' n' h' tk' F3 N3
    clear F2 N2
    rw [known_eq mt, known_eq mf, known_eq ms] at F3
    dsimp only
    cases run with
    | fin he => exact absurd he hne
    | stop _ hw =>
      have c1 := ws_t hw
      have c2 := c1
      have c3 := c1
      k_steps
      all_goals (try (exfalso; first | exact Bool.noConfusion (c1.symm.trans (by assumption)) | exact Bool.noConfusion (c2.symm.trans (by assumption)) | exact Bool.noConfusion (c3.symm.trans (by assumption)) | exact absurd (by assumption) hne))
      exact hret _ _ _ _ _ _ _ (by assumption) (by assumption)
    | esc hc run' =>
      have c1 : occWs (chr1 x9 k) = true := by rw [hc]; decide +kernel
      have c2 := beq_t hc
      have c3 := c1
      k_steps
      all_goals (try (exfalso; first | exact Bool.noConfusion (c1.symm.trans (by assumption)) | exact Bool.noConfusion (c2.symm.trans (by assumption)) | exact Bool.noConfusion (c3.symm.trans (by assumption)) | exact absurd (by assumption) hne))
      refine Back.mk' (Nat.lt_succ_self _) (hJ _ _ (xI9 _ _ _ _ _ _ _ _ _ ⟨rfl, run', by assumption, by assumption, rfl, rfl, rfl, by rw [Str.length_append]; omega⟩))
    | plain _ hw hb run' =>
      have c1 := ws_f hw
      have c2 := beq_f hb
      have c3 := c1
      k_steps
      all_goals (try (exfalso; first | exact Bool.noConfusion (c1.symm.trans (by assumption)) | exact Bool.noConfusion (c2.symm.trans (by assumption)) | exact Bool.noConfusion (c3.symm.trans (by assumption)) | exact absurd (by assumption) hne))
      refine Back.mk' (Nat.lt_succ_self _) (hJ _ _ (xI9 _ _ _ _ _ _ _ _ _ ⟨rfl, run', by assumption, by assumption, rfl, rfl, rfl, by rw [Str.length_append]; omega⟩))
end tokP_K
theorem tokP {w : World} {mean : ExcName → Option Value} {mg mb : Str → Option Value} {dp un : Nat} {gd : Option (List Code)} {cn : Str} {cs : Scope} {ca : Addr} {ccd : Value} {cl : List (Str × Addr)} {outer : List Env} {base g' : Heap} {L L' : Addr} {m' : Str → Option Value} {s : Shared} {Q : Flow → Shared → Prop} {E : Value → Shared → Prop} {news held : List (Addr × Obj)} {x9 tok : Str} {self D P l dx fr d I q : Addr} {a1 a2 a3 a4 b1 b2 : Tok} {j k n pn : Nat} {t ts tt : Tok} : tokP_S w mean mg mb dp un gd cn cs ca ccd cl outer base g' L L' m' s Q E news held x9 tok self D P l dx fr d I q a1 a2 a3 a4 b1 b2 j k n pn t ts tt := @by_bad (fun c => tokP_S (c.w 0) (c.me 0) (c.m 0) (c.m 1) (c.n 0) (c.n 1) (c.gd 0) (c.st 0) (c.sc 0) (c.n 2) (c.v 0) (c.cl 0) (c.le 0) (c.h 0) (c.h 1) (c.n 3) (c.n 4) (c.m 2) (c.sh 0) (c.qf 0) (c.qv 0) (c.lo 0) (c.lo 1) (c.st 1) (c.st 2) (c.n 5) (c.n 6) (c.n 7) (c.n 8) (c.n 9) (c.n 10) (c.n 11) (c.n 12) (c.n 13) (c.n 14) (c.n 15) (c.n 16) (c.n 17) (c.n 18) (c.n 19) (c.n 20) (c.n 21) (c.n 22) (c.n 23) (c.n 24) (c.n 25) (c.n 26)) (by with_unfolding_all exact tokP_K.main) { cx0 with n := fromL (0) [dp, un, ca, L, L', self, D, P, l, dx, fr, d, I, q, a1, a2, a3, a4, b1, b2, j, k, n, pn, t, ts, tt], st := fromL (Str.empty) [cn, x9, tok], lo := fromL ([]) [news, held], v := fromL (.none) [ccd], m := fromL (fun _ => none) [mg, mb, m'], sh := fromL ({}) [s], h := fromL ({}) [base, g'], w := fromL (worldZ) [w], me := fromL (fun _ => none) [mean], qf := fromL (fun _ _ => True) [Q], qv := fromL (fun _ _ => True) [E], sc := fromL (default) [cs], gd := fromL (none) [gd], cl := fromL ([]) [cl], le := fromL ([]) [outer] }
@[reducible] noncomputable def tok_w_S (w : World) (mean : ExcName → Option Value) (mg mb : Str → Option Value) (dp un : Nat) (gd : Option (List Code)) (cn : Str) (cs : Scope) (ca : Addr) (ccd : Value) (cl : List (Str × Addr)) (outer : List Env) (A₀ : Around) (base h₀ : Heap) (L : Addr) (m : Str → Option Value) (s : Shared) (Q E : Value → Shared → Prop) (news : List (Addr × Obj)) (x9 : Str) (self D P l dx fr d : Addr) (a1 a2 a3 a4 b1 b2 : Tok) (n pn : Nat) (t : Tok) (held : List (Addr × Obj)) : Prop := ∀ {r9 : Str} {k : Nat} {k9 : Nat} {j9 : Nat} (B : Below A₀ base outer h₀) (F : Fr h₀ L s.heap m) (X : (KX w.params).In h₀) (N : News h₀ L s.heap ((P, W.listOf #[] pn) :: (l, W.listOf #[.int (k : Int) t] n) :: (dx, lexD w D P a1 a2 a3 a4 (lineAt x9 k) b1 b2) :: (self, instObj 87 dx) :: (held ++ news))) (C0 : CodeHd base 109 105) (R : StreamAt w x9 D fr l d held) (hrun : ORun x9 j9 k r9 k9) (hk9 : k9 < 1000) (hl : ∀ p ∈ held ++ news, p.1 ≠ l) (hl2 : dx ≠ l) (hl3 : self ≠ l) (hd1 : ∀ p ∈ held ++ news, p.1 ≠ dx) (hd2 : self ≠ dx) (hp1 : ∀ p ∈ held ++ news, p.1 ≠ P) (hp2 : self ≠ P) (hp3 : dx ≠ P) (hp4 : l ≠ P) (hs1 : ∀ p ∈ held ++ news, p.1 ≠ self) (T : Top topProg lawLoose mean mg mb h₀) (hk : cs.kind = .function) (hdp : dp + 80 < recursionLimit) (hun : un + 300 < cLine) (hret : ∀ (t b1' t' : Tok) (n' : Nat) (h' : Heap) (tk' : Nat), Fr h₀ L h' m → News h₀ L h' ((P, W.listOf #[] pn) :: (l, W.listOf #[.int (k9 : Int) t'] n') :: (dx, lexD w D P a1 a2 a3 a4 (lineAt x9 k9) b1' b2) :: (self, instObj 87 dx) :: (held ++ news)) → Q (.str r9 t) { s with heap := h', toks := tk' }), wpAny (model Challenge.rw_st0007_01.prog w) (W.ktrTop dp un gd cn cs L ca ccd cl outer) (call (.ref 77) [.ref self]) Q E s
namespace tok_w_K
@[irreducible] noncomputable def pt : Cx := bad fun c => tok_w_S (c.w 0) (c.me 0) (c.m 0) (c.m 1) (c.n 0) (c.n 1) (c.gd 0) (c.st 0) (c.sc 0) (c.n 2) (c.v 0) (c.cl 0) (c.le 0) (c.ar 0) (c.h 0) (c.h 1) (c.n 3) (c.m 2) (c.sh 0) (c.qv 0) (c.qv 1) (c.lo 0) (c.st 1) (c.n 4) (c.n 5) (c.n 6) (c.n 7) (c.n 8) (c.n 9) (c.n 10) (c.n 11) (c.n 12) (c.n 13) (c.n 14) (c.n 15) (c.n 16) (c.n 17) (c.n 18) (c.n 19) (c.lo 1)
@[irreducible] noncomputable def w : World := pt.w 0
@[irreducible] noncomputable def s : Shared := pt.sh 0
@[irreducible] noncomputable def news : List (Addr × Obj) := pt.lo 0
@[irreducible] noncomputable def x9 : Str := pt.st 1
@[irreducible] noncomputable def self : Addr := pt.n 4
@[irreducible] noncomputable def D : Addr := pt.n 5
@[irreducible] noncomputable def P : Addr := pt.n 6
@[irreducible] noncomputable def l : Addr := pt.n 7
@[irreducible] noncomputable def dx : Addr := pt.n 8
@[irreducible] noncomputable def a1 : Tok := pt.n 11
@[irreducible] noncomputable def a2 : Tok := pt.n 12
@[irreducible] noncomputable def a3 : Tok := pt.n 13
@[irreducible] noncomputable def a4 : Tok := pt.n 14
@[irreducible] noncomputable def b1 : Tok := pt.n 15
@[irreducible] noncomputable def b2 : Tok := pt.n 16
@[irreducible] noncomputable def n : Nat := pt.n 17
@[irreducible] noncomputable def pn : Nat := pt.n 18
@[irreducible] noncomputable def t : Tok := pt.n 19
@[irreducible] noncomputable def held : List (Addr × Obj) := pt.lo 1
theorem main : tok_w_S w (pt.me 0) (pt.m 0) (pt.m 1) (pt.n 0) (pt.n 1) (pt.gd 0) (pt.st 0) (pt.sc 0) (pt.n 2) (pt.v 0) (pt.cl 0) (pt.le 0) (pt.ar 0) (pt.h 0) (pt.h 1) (pt.n 3) (pt.m 2) s (pt.qv 0) (pt.qv 1) news x9 self D P l dx (pt.n 9) (pt.n 10) a1 a2 a3 a4 b1 b2 n pn t held := by
  intro r9 k k9 j9 B F X N C0 R hrun hk9 hl hl2 hl3 hd1 hd2 hp1 hp2 hp3 hp4 hs1 T hk hdp hun hret
  have hn1 : @Ne Nat l P := hp4
  have hn2 : @Ne Nat dx P := hp3
  have hn3 : @Ne Nat self P := hp2
  have hmk := MarkH.mk (n := 203)
  revert X; k_fill; intro X
  refine wpAny_call ?_
  k_dflt (refine' code_def ?k1 ?k2 ?k3 ?k4 ?k5 ?kA ?kF ?kK ?k6 ?k7 ?k8 ?k9 ?kB ?_ ?c2 ?c3 ?c4 ?c5; (case kA => exact rfl); (case kF => exact rfl); (case kK => assumption); (case k1 => k_asm); (case k2 => k_asm); (case k3 => k_asm); (case k4 => k_asm); (case k5 => k_asm); (case k6 => k_is); (case k7 => k_is); (case k8 => ktr_room); (case k9 => exact BindsTo.of_eq rfl); (case c5 => decide); (case kB => exact locs rfl); (case c2 => exact rfl); (case c3 => exact rfl); (case c4 => exact rfl); k_whole; intro g' L' h' FG' F' N' B' X' T'; (try dsimp only); (try k_lift B'); (try k_fold))
  k_steps
  refine Hold.on ?_
  rename Fr _ _ _ _ => F1
  rename News _ _ _ _ => N1
  rename Addr => q
  refine iter2_call F1 N1 (.head _) fun I h5 F5 N5 l5 => ?_
  clear F1 N1
  k_steps
  refine Hold.on ?_
  clear hmk
  obtain ⟨q1, q2, q3, q4, aq⟩ := (by assumption : (@LT.lt Nat _ P q ∧ @LT.lt Nat _ l q ∧ @LT.lt Nat _ dx q ∧ @LT.lt Nat _ self q ∧ W.AllLt q (held ++ news)))
  have ap : Ap I q P l dx self (held ++ news) := by
    have i1 : @LT.lt Nat _ q I := l5 _ (.head _)
    have i2 : ∀ p ∈ held ++ news, p.1 < I := fun p hp => l5 p (.tail _ (.tail _ (.tail _ (.tail _ (.tail _ hp)))))
    have aq' := allLt_all aq
    have hn4 : @Ne Nat self dx := hd2
    have hn5 : @Ne Nat dx l := hl2
    have hn6 : @Ne Nat self l := hl3
    constructor
    · simp only [List.nodup_cons, List.mem_cons, List.not_mem_nil, or_false, not_or, List.nodup_nil, and_true, not_false_eq_true]
      refine ⟨⟨?_, ?_, ?_, ?_, ?_⟩, ⟨?_, ?_, ?_, ?_⟩, ⟨?_, ?_, ?_⟩, ⟨?_, ?_⟩, ?_⟩ <;> (refine neN ?_; omega)
    · intro p hp
      simp only [List.mem_cons, List.not_mem_nil, or_false, not_or]
      exact ⟨Nat.ne_of_lt (i2 p hp), Nat.ne_of_lt (aq' p hp), hp1 p hp, hl p hp, hd1 p hp, hs1 p hp⟩
  clear l5 q1 q2 q3 q4 aq
  refine For_by ?_
  k_steps
  rename Fr _ _ _ _ => F6
  rename News _ _ _ _ => N6
  refine ci_pyIter (N6 _ (.head _)).1 ?_
  refine inv_hide (fun j s' => ∃ h tk k n t b1 m' io tt tok, s' = { s with heap := h, toks := tk } ∧ ((∃ ts j', io = ciObj q ts ∧ j = j' + 1 ∧ tok = Str.ofString "" ∧ ORun x9 j' k r9 k9) ∨ (io = ciEnd ∧ j = 0 ∧ tok = r9 ∧ k = k9)) ∧ Fr g' L' h m' ∧ News g' L' h (T9 w I q P l dx self D a1 a2 a3 a4 b2 (W.listOf #[] pn) io k n t b1 (lineAt x9 k) (held ++ news)) ∧
    m' (Str.ofString "token") = some (.str tok tt) ∧ m' (Str.ofString "fiter") = some (.ref I) ∧ m' (Str.ofString "self") = some (.ref self)) _ (xI10 _ _ _ _ _ _ _ _ _ _ ⟨rfl, .inl ⟨_, _, rfl, rfl, rfl, hrun⟩, F6, N6, rfl, rfl, rfl⟩) fun J hJ => ?_
  clear F6 N6 hrun
  rintro j s' hJ0
  refine Classical.byContradiction fun hG0 => ?_
  refine exE10 hJ0 ?_
  clear hJ0
  rintro h tk k n t b1 m' io tt tok hJ0
  refine anE7 hJ0 ?_
  clear hJ0
  rintro rfl run F2 N2 mt mf ms
  refine hG0 ?_
  clear hG0
  rcases run with run | run
  case inr =>
    obtain ⟨rfl, rfl, rfl, rfl⟩ := run
    refine ci_over rfl (N2 _ (.head _)).1 fun h' z => ?_
    obtain ⟨F3, N3⟩ := z F2 N2
    clear F2 N2
    rw [known_eq mt, known_eq mf, known_eq ms] at F3
    dsimp only
    k_steps
    exact hret _ _ _ _ _ _ (by assumption) (t9drop (by assumption))
  obtain ⟨ts, j', rfl, rfl, rfl, run⟩ := run
  have hlt := run.lt
  have hc9 := chr1_le x9 k
  have hc8 := chr1_le x9 (k + 1)
  k_dflt (refine' next_char (by assumption) F2 (by assumption) N2 ap (by assumption) rfl C0 R (by omega) (by ktr_room) (by ktr_units) ?h1 ?h2)
  case h2 =>
    intro he t2 b1' n' h' tk' F3 N3
    clear F2 N2
    rw [known_eq mt, known_eq mf, known_eq ms] at F3
    dsimp only
    k_steps
    cases run with
    | fin _ => exact hret _ _ _ _ _ _ (by assumption) (t9drop (by assumption))
    | skip hw _ _ => exact absurd he hw
    | quote hw _ => exact absurd (he.symm.trans hw) (by decide)
    | esc hw _ => exact absurd (he.symm.trans hw) (by decide)
    | plain hw _ _ _ _ => exact absurd he hw
  case h1 =>
    intro hne t1 t2 b1' n' h' tk' F3 N3
    clear F2 N2
    rw [known_eq mt, known_eq mf, known_eq ms] at F3
    dsimp only
    have hmk := MarkH.mk (n := 203)
    cases run with
    | fin he => exact absurd he hne
    | skip _ hw run' =>
      have c1 := ws_t hw
      have c2 := c1
      have c3 := c1
      k_steps
      all_goals (try (exfalso; first | exact Bool.noConfusion (c1.symm.trans (by assumption)) | exact Bool.noConfusion (c2.symm.trans (by assumption)) | exact Bool.noConfusion (c3.symm.trans (by assumption)) | exact absurd (by assumption) hne))
      refine Back.mk' (Nat.lt_succ_self _) (hJ _ _ (xI10 _ _ _ _ _ _ _ _ _ _ ⟨rfl, .inl ⟨_, _, rfl, rfl, rfl, run'⟩, by assumption, by assumption, rfl, rfl, rfl⟩))
    | quote hc run' =>
      have c1 : occWs (chr1 x9 k) = true := by rw [hc]; decide +kernel
      have c2 : (chr1 x9 k == Str.ofString "\"") = true := beq_t hc
      have c3 : (chr1 x9 k == Str.ofString "\\") = false := by rw [hc]; decide +kernel
      k_steps
      all_goals (try (exfalso; first | exact Bool.noConfusion (c1.symm.trans (by assumption)) | exact Bool.noConfusion (c2.symm.trans (by assumption)) | exact Bool.noConfusion (c3.symm.trans (by assumption)) | exact absurd (by assumption) hne))
      refine Hold.on ?_
      clear hmk c1 c2 c3
      rename Fr _ _ _ _ => F6
      rename News _ _ _ _ => N6
      refine tokQ rfl B' X' T' C0 R hk9 ap hdp hun (by passes_own) run' F6 N6 rfl rfl rfl (Nat.zero_le _) (fun _ _ _ _ _ _ _ F8 N8 => ?_)
      clear F6 N6
      dsimp only
      k_steps
      exact hret _ _ _ _ _ _ (by assumption) (t9drop (by assumption))
    | esc hc run' =>
      have c1 : occWs (chr1 x9 k) = true := by rw [hc]; decide +kernel
      have c2 : (chr1 x9 k == Str.ofString "\"") = false := by rw [hc]; decide +kernel
      have c3 : (chr1 x9 k == Str.ofString "\\") = true := beq_t hc
      k_steps
      all_goals (try (exfalso; first | exact Bool.noConfusion (c1.symm.trans (by assumption)) | exact Bool.noConfusion (c2.symm.trans (by assumption)) | exact Bool.noConfusion (c3.symm.trans (by assumption)) | exact absurd (by assumption) hne))
      refine Hold.on ?_
      clear hmk c1 c2 c3
      rename Fr _ _ _ _ => F6
      rename News _ _ _ _ => N6
      refine tokP rfl B' X' T' C0 R hk9 ap hdp hun (by passes_own) run' F6 N6 rfl rfl rfl (by rw [Str.length_append]; exact (by omega : 0 + (chr1 x9 (k + 1)).length ≤ k + 1 + 1)) (fun _ _ _ _ _ _ _ F8 N8 => ?_) (fun _ _ _ _ _ _ _ _ F8 N8 q1 q2 q3 => ?_)
      · clear F6 N6
        dsimp only
        k_steps
        exact hret _ _ _ _ _ _ (by assumption) (t9drop (by assumption))
      · clear F6 N6
        dsimp only
        k_steps
        exact Back.mk' (Nat.succ_pos _) (hJ _ _ (xI10 _ _ _ _ _ _ _ _ _ _ ⟨rfl, .inr ⟨rfl, rfl, rfl, rfl⟩, F8, N8, q1, q2, q3⟩))
    | plain _ hw hq hb run' =>
      have c1 := ws_f hw
      have c2 := beq_f hq
      have c3 := beq_f hb
      k_steps
      all_goals (try (exfalso; first | exact Bool.noConfusion (c1.symm.trans (by assumption)) | exact Bool.noConfusion (c2.symm.trans (by assumption)) | exact Bool.noConfusion (c3.symm.trans (by assumption)) | exact absurd (by assumption) hne))
      refine Hold.on ?_
      clear hmk c1 c2 c3
      rename Fr _ _ _ _ => F6
      rename News _ _ _ _ => N6
      refine tokP rfl B' X' T' C0 R hk9 ap hdp hun (by passes_own) run' F6 N6 rfl rfl rfl (by rw [Str.length_append]; exact (by omega : 0 + (chr1 x9 k).length ≤ k + 1)) (fun _ _ _ _ _ _ _ F8 N8 => ?_) (fun _ _ _ _ _ _ _ _ F8 N8 q1 q2 q3 => ?_)
      · clear F6 N6
        dsimp only
        k_steps
        exact hret _ _ _ _ _ _ (by assumption) (t9drop (by assumption))
      · clear F6 N6
        dsimp only
        k_steps
        exact Back.mk' (Nat.succ_pos _) (hJ _ _ (xI10 _ _ _ _ _ _ _ _ _ _ ⟨rfl, .inr ⟨rfl, rfl, rfl, rfl⟩, F8, N8, q1, q2, q3⟩))
end tok_w_K
theorem tok_w {w : World} {mean : ExcName → Option Value} {mg mb : Str → Option Value} {dp un : Nat} {gd : Option (List Code)} {cn : Str} {cs : Scope} {ca : Addr} {ccd : Value} {cl : List (Str × Addr)} {outer : List Env} {A₀ : Around} {base h₀ : Heap} {L : Addr} {m : Str → Option Value} {s : Shared} {Q E : Value → Shared → Prop} {news : List (Addr × Obj)} {x9 : Str} {self D P l dx fr d : Addr} {a1 a2 a3 a4 b1 b2 : Tok} {n pn : Nat} {t : Tok} {held : List (Addr × Obj)} : tok_w_S w mean mg mb dp un gd cn cs ca ccd cl outer A₀ base h₀ L m s Q E news x9 self D P l dx fr d a1 a2 a3 a4 b1 b2 n pn t held := @by_bad (fun c => tok_w_S (c.w 0) (c.me 0) (c.m 0) (c.m 1) (c.n 0) (c.n 1) (c.gd 0) (c.st 0) (c.sc 0) (c.n 2) (c.v 0) (c.cl 0) (c.le 0) (c.ar 0) (c.h 0) (c.h 1) (c.n 3) (c.m 2) (c.sh 0) (c.qv 0) (c.qv 1) (c.lo 0) (c.st 1) (c.n 4) (c.n 5) (c.n 6) (c.n 7) (c.n 8) (c.n 9) (c.n 10) (c.n 11) (c.n 12) (c.n 13) (c.n 14) (c.n 15) (c.n 16) (c.n 17) (c.n 18) (c.n 19) (c.lo 1)) (by with_unfolding_all exact tok_w_K.main) { cx0 with n := fromL (0) [dp, un, ca, L, self, D, P, l, dx, fr, d, a1, a2, a3, a4, b1, b2, n, pn, t], st := fromL (Str.empty) [cn, x9], lo := fromL ([]) [news, held], v := fromL (.none) [ccd], m := fromL (fun _ => none) [mg, mb, m], sh := fromL ({}) [s], h := fromL ({}) [base, h₀], ar := fromL (aroundZ) [A₀], w := fromL (worldZ) [w], me := fromL (fun _ => none) [mean], qv := fromL (fun _ _ => True) [Q, E], sc := fromL (default) [cs], gd := fromL (none) [gd], cl := fromL ([]) [cl], le := fromL ([]) [outer] }
end
section
theorem swap23 {h₀ h : Heap} {L : Addr} {a b c : Addr × Obj} {r : List (Addr × Obj)} (N : News h₀ L h (a :: b :: c :: r)) : News h₀ L h (a :: c :: b :: r) := fun p hp => N p (by
  simp only [List.mem_cons] at hp ⊢
  rcases hp with h | h | h | h <;> simp [h])
theorem lexer_w {w : World} {mean : ExcName → Option Value} {mg mb : Str → Option Value}
    {dp un : Nat} {gd : Option (List Code)} {cn : Str} {cs : Scope} {ca : Addr} {ccd : Value} {cl : List (Str × Addr)} {outer : List Env} {A₀ : Around} {base h₀ : Heap} {L : Addr} {m : Str → Option Value} {s : Shared} {Q E : Value → Shared → Prop} {news : List (Addr × Obj)}
    {D : Addr}
    (B : Below A₀ base outer h₀) (F : Fr h₀ L s.heap m) (X : (KX w.params).In h₀) (N : News h₀ L s.heap news) (T : Top topProg lawLoose mean mg mb h₀) (hk : cs.kind = .function)
    (hdp : dp + 40 < recursionLimit) (hun : un + 120 < cLine) 
    (hret : ∀ (self P dx : Addr) (a1 a2 a3 a4 b1 b2 : Tok) (pn : Nat) (h' : Heap) (tk' : Nat), Fr h₀ L h' m → News h₀ L h' ((P, W.listOf #[] pn) :: (dx, lexD w D P a1 a2 a3 a4 1 b1 b2) :: (self, instObj 87 dx) :: news) → (∀ p ∈ news, @LT.lt Nat _ p.1 dx) → @LT.lt Nat _ dx self ∧ @LT.lt Nat _ self P → Q (.ref self) { s with heap := h', toks := tk' }) :
    wpAny (model Challenge.rw_st0007_01.prog w) (W.ktrTop dp un gd cn cs L ca ccd cl outer) (call (.ref 87) [.ref D]) Q E s := by
  revert X; k_fill; intro X
  k_dflt (refine' call_cls ?k1 ?k2 ?k3 ?k4 ?k5 ?k6 ?_; (case k1 => k_asm); (case k2 => k_asm); (case k3 => k_asm); (case k4 => k_is); (case k5 => k_is); (case k6 => k_is); k_whole; intro x' d' h' F' N' l1 l2; (try k_lt l1); (try k_lt2 l2))
  clear F N
  k_dflt cell_enter
  k_steps
  rename News _ _ _ _ => N9
  obtain ⟨m1, m2, m3⟩ := (by assumption : (@LT.lt Nat _ x' _ ∧ @LT.lt Nat _ d' _ ∧ W.AllLt _ news))
  have m3' := allLt_all m3
  refine hret _ _ _ _ _ _ _ _ _ _ _ _ (by assumption) (swap23 N9) l1 ⟨l2, m1⟩
end
section
open PyProof.Rows.LCg
@[reducible] noncomputable def law_script_S (w : World) (mean : ExcName → Option Value) (mg mb : Str → Option Value) (base : Heap) (L fa : Addr) (cd : Value) (m : Str → Option Value) (s : Shared) (Q : Flow → Shared → Prop) (rest : List Stmt) (o1 o2 o3 o4 o5 o6 o7 o8 : Obj) (r D : Addr) (vs : List Value) (xs : List Int) (its : List Value) (cnt : Nat) (cs : List Int) : Prop := ∀ (B : Below callerA base [] base) (F : Fr base L s.heap m) (X : (KX w.params).In base) (T : Top topProg lawLoose mean mg mb base) (N : News base L s.heap ((D, W.listOf its.toArray cnt) :: ((L + 1 + 1 + 1 + 1 + 1 + 1 + 1 + 1 : Addr), o8) :: ((L + 1 + 1 + 1 + 1 + 1 + 1 + 1 : Addr), o7) :: ((L + 1 + 1 + 1 + 1 + 1 + 1 : Addr), o6) :: ((L + 1 + 1 + 1 + 1 + 1 : Addr), o5) :: ((L + 1 + 1 + 1 + 1 : Addr), o4) :: ((L + 1 + 1 + 1 : Addr), o3) :: ((L + 1 + 1 : Addr), o2) :: ((L + 1 : Addr), o1) :: (105, W.tabObj #[]) :: [])) (h105 : @LT.lt Nat _ 105 L) (ho1 : o1.data = .cell (some (.ref D))) (hD : @LT.lt Nat _ (L+1+1+1+1+1+1+1+1) D) (hits : IntsAre its cs) (hcs : cs.length = 11) (hr : base.IsList r vs.toArray) (hvs : IntsAre vs xs) (hxs : xs.length ≤ 63) (hmr : m (Str.ofString "script") = some (.ref r)) (hret : ∀ (its : List Value) (cnt : Nat) (cs : List Int) (m' : Str → Option Value) (h' : Heap) (tk' : Nat), Fr base L h' m' → News base L h' ((D, W.listOf its.toArray cnt) :: ((L + 1 + 1 + 1 + 1 + 1 + 1 + 1 + 1 : Addr), o8) :: ((L + 1 + 1 + 1 + 1 + 1 + 1 + 1 : Addr), o7) :: ((L + 1 + 1 + 1 + 1 + 1 + 1 : Addr), o6) :: ((L + 1 + 1 + 1 + 1 + 1 : Addr), o5) :: ((L + 1 + 1 + 1 + 1 : Addr), o4) :: ((L + 1 + 1 + 1 : Addr), o3) :: ((L + 1 + 1 : Addr), o2) :: ((L + 1 : Addr), o1) :: (105, W.tabObj #[]) :: []) → IntsAre its cs → cs.length = 11 → wpAny (model Challenge.rw_st0007_01.prog w) (lawA L fa cd) (execs rest (lawEnv L fa cd)) Q (fun _ _ => False) { s with heap := h', toks := tk' }), wpAny (model Challenge.rw_st0007_01.prog w) (lawA L fa cd) (execs (lawCut 1 1 ++ rest) (lawEnv L fa cd)) Q (fun _ _ => False) s
namespace law_script_K
@[irreducible] noncomputable def pt : Cx := bad fun c => law_script_S (c.w 0) (c.me 0) (c.m 0) (c.m 1) (c.h 0) (c.n 0) (c.n 1) (c.v 0) (c.m 2) (c.sh 0) (c.qf 0) (c.lst 0) (c.o 0) (c.o 1) (c.o 2) (c.o 3) (c.o 4) (c.o 5) (c.o 6) (c.o 7) (c.n 2) (c.n 3) (c.lv 0) (c.li 0) (c.lv 1) (c.n 4) (c.li 1)
@[irreducible] noncomputable def r : Addr := pt.n 2
@[irreducible] noncomputable def D : Addr := pt.n 3
@[irreducible] noncomputable def vs : List Value := pt.lv 0
@[irreducible] noncomputable def xs : List Int := pt.li 0
@[irreducible] noncomputable def its : List Value := pt.lv 1
@[irreducible] noncomputable def cnt : Nat := pt.n 4
@[irreducible] noncomputable def cs : List Int := pt.li 1
theorem main : law_script_S (pt.w 0) (pt.me 0) (pt.m 0) (pt.m 1) (pt.h 0) (pt.n 0) (pt.n 1) (pt.v 0) (pt.m 2) (pt.sh 0) (pt.qf 0) (pt.lst 0) (pt.o 0) (pt.o 1) (pt.o 2) (pt.o 3) (pt.o 4) (pt.o 5) (pt.o 6) (pt.o 7) r D vs xs its cnt cs := by
  intro B F X T N h105 ho1 hD hits hcs hr hvs hxs hmr hret
  rw [show lawCut 1 1 = [_] from rfl]
  revert X; k_fill; intro X
  rw [known_eq hmr] at F
  have hmk := MarkH.mk (n := 206)
  k_steps
  refine Hold.on ?_
  clear hmk
  dsimp only
  rename Fr _ _ _ _ => lF
  rename News _ _ _ _ => lN
  rename IsRange _ _ _ _ _ _ _ _ => hrg
  have hvl : vs.length = xs.length := IntsAre.length hvs
  with_unfolding_all refine iter_rangeUnr (n := vs.length) (by rfl) hrg ?_ ?_ lF lN ?_
  case refine_1 => exact small_one (by omega) (by omega) (by omega) (by omega)
  case refine_2 => (unfold Builtin.Range.rangeSize; rw [if_pos (by decide)]; split <;> omega)
  intro I hI
  refine rr_of (fun i m' n' => ∃ (its : List Value) (cnt : Nat) (cs : List Int), n' = (D, W.listOf its.toArray cnt) :: _ ∧ m' (Str.ofString "script") = some (.ref r) ∧ IntsAre its cs ∧ cs.length = 11) ?turn ?done (xI3 _ _ _ ⟨rfl, rfl, hits, hcs⟩) hI
  case done =>
    rintro m' news' h tk hJ0
    refine Classical.byContradiction fun hG0 => ?_
    refine exE3 hJ0 ?_
    try clear hJ0
    rintro its cnt cs hJ0
    refine anE4 hJ0 ?_
    try clear hJ0
    rintro rfl hm' hits hcs
    refine hG0 ?_
    clear hG0
    rintro F1 N1
    dsimp only
    k_steps
    exact hret _ _ _ _ _ _ (by assumption) (by assumption) hits hcs
  case turn =>
    rintro i t m' news' h tk hi hJ0
    refine Classical.byContradiction fun hG0 => ?_
    refine exE3 hJ0 ?_
    try clear hJ0
    rintro its cnt cs hJ0
    refine anE4 hJ0 ?_
    try clear hJ0
    rintro rfl hm' hits hcs
    refine hG0 ?_
    clear hG0
    rintro off F1 N1
    rw [known_eq hm'] at F1
    have hi0 := Int.fmod_nonneg (a := 0 + (i : Int)) (b := 11) (by omega) (by omega)
    have hi1 := Int.fmod_lt_of_pos (0 + (i : Int)) (b := 11) (by omega)
    have hID : @Ne Nat I D := fun e => off _ (.head _) e.symm
    k_steps
    rename Fr _ _ _ _ => F9
    rename News _ _ _ _ => N9
    rename IntsAre _ _ => hI9
    refine (xI4 _ _ _ _ ⟨rfl, F9, N9, ?_, (xI3 _ _ _ ⟨rfl, rfl, hI9, by rw [List.length_set]; exact hcs⟩)⟩)
    intro p hp
    refine mem_cs hp ?_ fun hp => ?_
    · exact fun e => hID e.symm
    · exact off p (.tail _ hp)
end law_script_K
theorem law_script {w : World} {mean : ExcName → Option Value} {mg mb : Str → Option Value} {base : Heap} {L fa : Addr} {cd : Value} {m : Str → Option Value} {s : Shared} {Q : Flow → Shared → Prop} {rest : List Stmt} {o1 o2 o3 o4 o5 o6 o7 o8 : Obj} {r D : Addr} {vs : List Value} {xs : List Int} {its : List Value} {cnt : Nat} {cs : List Int} : law_script_S w mean mg mb base L fa cd m s Q rest o1 o2 o3 o4 o5 o6 o7 o8 r D vs xs its cnt cs := @by_bad (fun c => law_script_S (c.w 0) (c.me 0) (c.m 0) (c.m 1) (c.h 0) (c.n 0) (c.n 1) (c.v 0) (c.m 2) (c.sh 0) (c.qf 0) (c.lst 0) (c.o 0) (c.o 1) (c.o 2) (c.o 3) (c.o 4) (c.o 5) (c.o 6) (c.o 7) (c.n 2) (c.n 3) (c.lv 0) (c.li 0) (c.lv 1) (c.n 4) (c.li 1)) (by with_unfolding_all exact law_script_K.main) { cx0 with n := fromL (0) [L, fa, r, D, cnt], o := fromL (default) [o1, o2, o3, o4, o5, o6, o7, o8], v := fromL (.none) [cd], lv := fromL ([]) [vs, its], m := fromL (fun _ => none) [mg, mb, m], sh := fromL ({}) [s], h := fromL ({}) [base], lst := fromL ([]) [rest], w := fromL (worldZ) [w], me := fromL (fun _ => none) [mean], qf := fromL (fun _ _ => True) [Q], li := fromL ([]) [xs, cs] }
end
section
noncomputable def eighth (a : Nat) : UInt64 := Float64.ofFrac false a 8
theorem eighth_of {x : Int} (h0 : 0 ≤ x) : ∃ a : Nat, x = a ∧ Float64.ofFrac (decide (x < 0) != decide ((8 : Int) < 0)) x.natAbs (Int.natAbs 8) = eighth a := by
  refine ⟨x.toNat, tonat h0, ?_⟩
  unfold eighth
  have e1 : decide (x < 0) = false := decide_eq_false (Int.not_lt.mpr h0)
  have e2 := abs_to h0
  rw [e1, e2]
  rfl
theorem eighth_fin {x : Int} (h0 : 0 ≤ x) (h8 : x ≤ 8) : ¬ Float64.isInf (Float64.ofFrac (decide (x < 0) != decide ((8 : Int) < 0)) x.natAbs (Int.natAbs 8)) = true := by
  obtain ⟨a, ea, fa'⟩ := eighth_of h0
  rw [fa']
  have : ∀ a : Nat, a < 9 → ¬ Float64.isInf (eighth a) = true := by decide +kernel
  exact this a (by omega)
open PyProof.Rows.LCg
@[reducible] noncomputable def law_wheel_S (w : World) (mean : ExcName → Option Value) (mg mb : Str → Option Value) (base : Heap) (L fa : Addr) (cd : Value) (m : Str → Option Value) (s : Shared) (Q : Flow → Shared → Prop) (rest : List Stmt) (o1 o2 o3 o4 o5 o6 o7 o8 : Obj) (D : Addr) (ws : List Value) (cnt : Nat) (cs : List Int) : Prop := ∀ (B : Below callerA base [] base) (F : Fr base L s.heap m) (X : (KX w.params).In base) (T : Top topProg lawLoose mean mg mb base) (N : News base L s.heap ((D, PySem.W.listOf ws.toArray cnt) :: ((L + 1 + 1 + 1 + 1 + 1 + 1 + 1 + 1 : Addr), o8) :: ((L + 1 + 1 + 1 + 1 + 1 + 1 + 1 : Addr), o7) :: ((L + 1 + 1 + 1 + 1 + 1 + 1 : Addr), o6) :: ((L + 1 + 1 + 1 + 1 + 1 : Addr), o5) :: ((L + 1 + 1 + 1 + 1 : Addr), o4) :: ((L + 1 + 1 + 1 : Addr), o3) :: ((L + 1 + 1 : Addr), o2) :: ((L + 1 : Addr), o1) :: (105, PySem.W.tabObj #[]) :: [])) (h105 : @LT.lt Nat _ 105 L) (ho1 : o1.data = .cell (some (.ref D))) (hD : @LT.lt Nat _ (L+1+1+1+1+1+1+1+1) D) (hws : IntsAre ws cs) (hcs : cs.length = 11) (ho2 : o2.data = .cell none) (hret : ∀ (W : Nat) (t : Tok) (o2 : Obj) (h' : Heap) (tk' : Nat), 3 ≤ W → W ≤ 20 → 0 < tk' → o2.data = .cell (some (.int (2 ^ W) t)) → Fr base L h' m → News base L h' ((D, PySem.W.listOf ws.toArray cnt) :: ((L + 1 + 1 + 1 + 1 + 1 + 1 + 1 + 1 : Addr), o8) :: ((L + 1 + 1 + 1 + 1 + 1 + 1 + 1 : Addr), o7) :: ((L + 1 + 1 + 1 + 1 + 1 + 1 : Addr), o6) :: ((L + 1 + 1 + 1 + 1 + 1 : Addr), o5) :: ((L + 1 + 1 + 1 + 1 : Addr), o4) :: ((L + 1 + 1 + 1 : Addr), o3) :: ((L + 1 + 1 : Addr), o2) :: ((L + 1 : Addr), o1) :: (105, PySem.W.tabObj #[]) :: []) → wpAny (model Challenge.rw_st0007_01.prog w) (lawA L fa cd) (execs rest (lawEnv L fa cd)) Q (fun _ _ => False) { s with heap := h', toks := tk' }), wpAny (model Challenge.rw_st0007_01.prog w) (lawA L fa cd) (execs (lawCut 2 1 ++ rest) (lawEnv L fa cd)) Q (fun _ _ => False) s
namespace law_wheel_K
@[irreducible] noncomputable def pt : Cx := bad fun c => law_wheel_S (c.w 0) (c.me 0) (c.m 0) (c.m 1) (c.h 0) (c.n 0) (c.n 1) (c.v 0) (c.m 2) (c.sh 0) (c.qf 0) (c.lst 0) (c.o 0) (c.o 1) (c.o 2) (c.o 3) (c.o 4) (c.o 5) (c.o 6) (c.o 7) (c.n 2) (c.lv 0) (c.n 3) (c.li 0)
@[irreducible] noncomputable def cs : List Int := pt.li 0
theorem main : law_wheel_S (pt.w 0) (pt.me 0) (pt.m 0) (pt.m 1) (pt.h 0) (pt.n 0) (pt.n 1) (pt.v 0) (pt.m 2) (pt.sh 0) (pt.qf 0) (pt.lst 0) (pt.o 0) (pt.o 1) (pt.o 2) (pt.o 3) (pt.o 4) (pt.o 5) (pt.o 6) (pt.o 7) (pt.n 2) (pt.lv 0) (pt.n 3) cs := by
  intro B F X T N h105 ho1 hD hws hcs ho2 hret
  have hmk100 := MarkH.mk (n := 100)
  rw [show lawCut 2 1 = [_] from rfl]
  revert X; k_fill; intro X
  k_steps
  try dsimp only
  have h0 := Int.fmod_nonneg_of_pos (cs.getD (Int.toNat 0) 0) (b := 18) (by omega)
  have h1 := Int.fmod_lt_of_pos (cs.getD (Int.toNat 0) 0) (b := 18) (by omega)
  refine hret (3 + (cs.getD (Int.toNat 0) 0).fmod 18).toNat _ _ _ _ ?_ ?_ (by omega) (by assumption) (by assumption) (by assumption)
  · omega
  · omega
end law_wheel_K
theorem law_wheel {w : World} {mean : ExcName → Option Value} {mg mb : Str → Option Value} {base : Heap} {L fa : Addr} {cd : Value} {m : Str → Option Value} {s : Shared} {Q : Flow → Shared → Prop} {rest : List Stmt} {o1 o2 o3 o4 o5 o6 o7 o8 : Obj} {D : Addr} {ws : List Value} {cnt : Nat} {cs : List Int} : law_wheel_S w mean mg mb base L fa cd m s Q rest o1 o2 o3 o4 o5 o6 o7 o8 D ws cnt cs := @by_bad (fun c => law_wheel_S (c.w 0) (c.me 0) (c.m 0) (c.m 1) (c.h 0) (c.n 0) (c.n 1) (c.v 0) (c.m 2) (c.sh 0) (c.qf 0) (c.lst 0) (c.o 0) (c.o 1) (c.o 2) (c.o 3) (c.o 4) (c.o 5) (c.o 6) (c.o 7) (c.n 2) (c.lv 0) (c.n 3) (c.li 0)) (by with_unfolding_all exact law_wheel_K.main) { cx0 with n := fromL (0) [L, fa, D, cnt], o := fromL (default) [o1, o2, o3, o4, o5, o6, o7, o8], v := fromL (.none) [cd], lv := fromL ([]) [ws], m := fromL (fun _ => none) [mg, mb, m], sh := fromL ({}) [s], h := fromL ({}) [base], lst := fromL ([]) [rest], w := fromL (worldZ) [w], me := fromL (fun _ => none) [mean], qf := fromL (fun _ _ => True) [Q], li := fromL ([]) [cs] }
@[reducible] noncomputable def law_share_S (w : World) (mean : ExcName → Option Value) (mg mb : Str → Option Value) (base : Heap) (L fa : Addr) (cd : Value) (m : Str → Option Value) (s : Shared) (Q : Flow → Shared → Prop) (rest : List Stmt) (o1 o2 o3 o4 o5 o6 o7 o8 : Obj) (D : Addr) (ws : List Value) (cnt : Nat) (cs : List Int) : Prop := ∀ (B : Below callerA base [] base) (F : Fr base L s.heap m) (X : (KX w.params).In base) (T : Top topProg lawLoose mean mg mb base) (N : News base L s.heap ((D, PySem.W.listOf ws.toArray cnt) :: ((L + 1 + 1 + 1 + 1 + 1 + 1 + 1 + 1 : Addr), o8) :: ((L + 1 + 1 + 1 + 1 + 1 + 1 + 1 : Addr), o7) :: ((L + 1 + 1 + 1 + 1 + 1 + 1 : Addr), o6) :: ((L + 1 + 1 + 1 + 1 + 1 : Addr), o5) :: ((L + 1 + 1 + 1 + 1 : Addr), o4) :: ((L + 1 + 1 + 1 : Addr), o3) :: ((L + 1 + 1 : Addr), o2) :: ((L + 1 : Addr), o1) :: (105, PySem.W.tabObj #[]) :: [])) (h0t : 0 < s.toks) (h105 : @LT.lt Nat _ 105 L) (ho1 : o1.data = .cell (some (.ref D))) (hD : @LT.lt Nat _ (L+1+1+1+1+1+1+1+1) D) (hws : IntsAre ws cs) (hcs : cs.length = 11) (hret : ∀ (a b : Nat) (kd : Int) (t1 t2 t3 : Tok) (m' : Str → Option Value) (h' : Heap) (tk' : Nat), 1 ≤ a → a ≤ 8 → 1 ≤ b → b ≤ 8 → 0 ≤ kd → kd < 5 → 0 < tk' → t1 ≠ 0 → t2 ≠ 0 → m' (Str.ofString "share") = some (.float (eighth a) t1) → m' (Str.ofString "value") = some (.float (eighth b) t2) → m' (Str.ofString "kind") = some (.int kd t3) → Fr base L h' m' → News base L h' ((D, PySem.W.listOf ws.toArray cnt) :: ((L + 1 + 1 + 1 + 1 + 1 + 1 + 1 + 1 : Addr), o8) :: ((L + 1 + 1 + 1 + 1 + 1 + 1 + 1 : Addr), o7) :: ((L + 1 + 1 + 1 + 1 + 1 + 1 : Addr), o6) :: ((L + 1 + 1 + 1 + 1 + 1 : Addr), o5) :: ((L + 1 + 1 + 1 + 1 : Addr), o4) :: ((L + 1 + 1 + 1 : Addr), o3) :: ((L + 1 + 1 : Addr), o2) :: ((L + 1 : Addr), o1) :: (105, PySem.W.tabObj #[]) :: []) → wpAny (model Challenge.rw_st0007_01.prog w) (lawA L fa cd) (execs rest (lawEnv L fa cd)) Q (fun _ _ => False) { s with heap := h', toks := tk' }), wpAny (model Challenge.rw_st0007_01.prog w) (lawA L fa cd) (execs (lawCut 3 3 ++ rest) (lawEnv L fa cd)) Q (fun _ _ => False) s
namespace law_share_K
@[irreducible] noncomputable def pt : Cx := bad fun c => law_share_S (c.w 0) (c.me 0) (c.m 0) (c.m 1) (c.h 0) (c.n 0) (c.n 1) (c.v 0) (c.m 2) (c.sh 0) (c.qf 0) (c.lst 0) (c.o 0) (c.o 1) (c.o 2) (c.o 3) (c.o 4) (c.o 5) (c.o 6) (c.o 7) (c.n 2) (c.lv 0) (c.n 3) (c.li 0)
@[irreducible] noncomputable def cs : List Int := pt.li 0
theorem main : law_share_S (pt.w 0) (pt.me 0) (pt.m 0) (pt.m 1) (pt.h 0) (pt.n 0) (pt.n 1) (pt.v 0) (pt.m 2) (pt.sh 0) (pt.qf 0) (pt.lst 0) (pt.o 0) (pt.o 1) (pt.o 2) (pt.o 3) (pt.o 4) (pt.o 5) (pt.o 6) (pt.o 7) (pt.n 2) (pt.lv 0) (pt.n 3) cs := by
  intro B F X T N h0t h105 ho1 hD hws hcs hret
  have hmk100 := MarkH.mk (n := 100)
  rw [show lawCut 3 3 = [_, _, _] from rfl]
  revert X; k_fill; intro X
  have h0 := Int.fmod_nonneg_of_pos ((cs.getD (Int.toNat 0) 0).fdiv 18) (b := 8) (by omega)
  have h1 := Int.fmod_lt_of_pos ((cs.getD (Int.toNat 0) 0).fdiv 18) (b := 8) (by omega)
  have h2 := Int.fmod_nonneg_of_pos ((cs.getD (Int.toNat 0) 0).fdiv 144) (b := 8) (by omega)
  have h3 := Int.fmod_lt_of_pos ((cs.getD (Int.toNat 0) 0).fdiv 144) (b := 8) (by omega)
  have h4 := Int.fmod_nonneg_of_pos ((cs.getD (Int.toNat 0) 0).fdiv 1152) (b := 5) (by omega)
  have h5 := Int.fmod_lt_of_pos ((cs.getD (Int.toNat 0) 0).fdiv 1152) (b := 5) (by omega)
  k_steps
  try dsimp only
  obtain ⟨a, ea, fa'⟩ := eighth_of (x := 1 + ((cs.getD (Int.toNat 0) 0).fdiv 18).fmod 8) (by omega)
  obtain ⟨b, eb, fb'⟩ := eighth_of (x := 1 + ((cs.getD (Int.toNat 0) 0).fdiv 144).fmod 8) (by omega)
  rename Fr _ _ _ _ => F9
  rw [fa', fb'] at F9
  exact hret a b _ _ _ _ _ _ _ (by omega) (by omega) (by omega) (by omega) h4 h5 (by omega) (Nat.ne_of_gt (by omega)) (Nat.ne_of_gt (by omega)) rfl rfl rfl F9 (by assumption)
end law_share_K
theorem law_share {w : World} {mean : ExcName → Option Value} {mg mb : Str → Option Value} {base : Heap} {L fa : Addr} {cd : Value} {m : Str → Option Value} {s : Shared} {Q : Flow → Shared → Prop} {rest : List Stmt} {o1 o2 o3 o4 o5 o6 o7 o8 : Obj} {D : Addr} {ws : List Value} {cnt : Nat} {cs : List Int} : law_share_S w mean mg mb base L fa cd m s Q rest o1 o2 o3 o4 o5 o6 o7 o8 D ws cnt cs := @by_bad (fun c => law_share_S (c.w 0) (c.me 0) (c.m 0) (c.m 1) (c.h 0) (c.n 0) (c.n 1) (c.v 0) (c.m 2) (c.sh 0) (c.qf 0) (c.lst 0) (c.o 0) (c.o 1) (c.o 2) (c.o 3) (c.o 4) (c.o 5) (c.o 6) (c.o 7) (c.n 2) (c.lv 0) (c.n 3) (c.li 0)) (by with_unfolding_all exact law_share_K.main) { cx0 with n := fromL (0) [L, fa, D, cnt], o := fromL (default) [o1, o2, o3, o4, o5, o6, o7, o8], v := fromL (.none) [cd], lv := fromL ([]) [ws], m := fromL (fun _ => none) [mg, mb, m], sh := fromL ({}) [s], h := fromL ({}) [base], lst := fromL ([]) [rest], w := fromL (worldZ) [w], me := fromL (fun _ => none) [mean], qf := fromL (fun _ _ => True) [Q], li := fromL ([]) [cs] }
@[reducible] noncomputable def law_first_S (w : World) (mean : ExcName → Option Value) (mg mb : Str → Option Value) (base : Heap) (L fa : Addr) (cd : Value) (m : Str → Option Value) (s : Shared) (Q : Flow → Shared → Prop) (rest : List Stmt) (o1 o2 o3 o4 o5 o6 o7 o8 : Obj) (D : Addr) (ws : List Value) (cnt : Nat) (cs : List Int) (W : Nat) (t0 t1 t2 t3 : Tok) (sh va : UInt64) (kd : Int) : Prop := ∀ (B : Below callerA base [] base) (F : Fr base L s.heap m) (X : (KX w.params).In base) (T : Top topProg lawLoose mean mg mb base) (N : News base L s.heap ((D, PySem.W.listOf ws.toArray cnt) :: ((L + 1 + 1 + 1 + 1 + 1 + 1 + 1 + 1 : Addr), o8) :: ((L + 1 + 1 + 1 + 1 + 1 + 1 + 1 : Addr), o7) :: ((L + 1 + 1 + 1 + 1 + 1 + 1 : Addr), o6) :: ((L + 1 + 1 + 1 + 1 + 1 : Addr), o5) :: ((L + 1 + 1 + 1 + 1 : Addr), o4) :: ((L + 1 + 1 + 1 : Addr), o3) :: ((L + 1 + 1 : Addr), o2) :: ((L + 1 : Addr), o1) :: (105, PySem.W.tabObj #[]) :: [])) (h105 : @LT.lt Nat _ 105 L) (ho1 : o1.data = .cell (some (.ref D))) (hD : @LT.lt Nat _ (L+1+1+1+1+1+1+1+1) D) (hws : IntsAre ws cs) (hcs : cs.length = 11) (ho2 : o2.data = .cell (some (.int (2 ^ W) t0))) (ho3 : o3.data = .cell none) (h3W : 3 ≤ W) (hms : m (Str.ofString "share") = some (.float sh t1)) (hmv : m (Str.ofString "value") = some (.float va t2)) (hmk : m (Str.ofString "kind") = some (.int kd t3)) (hret : ∀ (fi st : Int) (t4 t5 : Tok) (o3 : Obj) (m' : Str → Option Value) (h' : Heap) (tk' : Nat), 2 ≤ fi → fi % 2 = 0 → fi ≤ 2 * 2 ^ W → 1 ≤ st → st ≤ 2 * 2 ^ W → m' (Str.ofString "share") = some (.float sh t1) → m' (Str.ofString "value") = some (.float va t2) → m' (Str.ofString "kind") = some (.int kd t3) → m' (Str.ofString "step") = some (.int st t5) → o3.data = .cell (some (.int fi t4)) → Fr base L h' m' → News base L h' ((D, PySem.W.listOf ws.toArray cnt) :: ((L + 1 + 1 + 1 + 1 + 1 + 1 + 1 + 1 : Addr), o8) :: ((L + 1 + 1 + 1 + 1 + 1 + 1 + 1 : Addr), o7) :: ((L + 1 + 1 + 1 + 1 + 1 + 1 : Addr), o6) :: ((L + 1 + 1 + 1 + 1 + 1 : Addr), o5) :: ((L + 1 + 1 + 1 + 1 : Addr), o4) :: ((L + 1 + 1 + 1 : Addr), o3) :: ((L + 1 + 1 : Addr), o2) :: ((L + 1 : Addr), o1) :: (105, PySem.W.tabObj #[]) :: []) → wpAny (model Challenge.rw_st0007_01.prog w) (lawA L fa cd) (execs rest (lawEnv L fa cd)) Q (fun _ _ => False) { s with heap := h', toks := tk' }), wpAny (model Challenge.rw_st0007_01.prog w) (lawA L fa cd) (execs (lawCut 6 2 ++ rest) (lawEnv L fa cd)) Q (fun _ _ => False) s
namespace law_first_K
@[irreducible] noncomputable def pt : Cx := bad fun c => law_first_S (c.w 0) (c.me 0) (c.m 0) (c.m 1) (c.h 0) (c.n 0) (c.n 1) (c.v 0) (c.m 2) (c.sh 0) (c.qf 0) (c.lst 0) (c.o 0) (c.o 1) (c.o 2) (c.o 3) (c.o 4) (c.o 5) (c.o 6) (c.o 7) (c.n 2) (c.lv 0) (c.n 3) (c.li 0) (c.n 4) (c.n 5) (c.n 6) (c.n 7) (c.n 8) (c.u 0) (c.u 1) (c.i 0)
@[irreducible] noncomputable def cs : List Int := pt.li 0
@[irreducible] noncomputable def W : Nat := pt.n 4
theorem main : law_first_S (pt.w 0) (pt.me 0) (pt.m 0) (pt.m 1) (pt.h 0) (pt.n 0) (pt.n 1) (pt.v 0) (pt.m 2) (pt.sh 0) (pt.qf 0) (pt.lst 0) (pt.o 0) (pt.o 1) (pt.o 2) (pt.o 3) (pt.o 4) (pt.o 5) (pt.o 6) (pt.o 7) (pt.n 2) (pt.lv 0) (pt.n 3) cs W (pt.n 5) (pt.n 6) (pt.n 7) (pt.n 8) (pt.u 0) (pt.u 1) (pt.i 0) := by
  intro B F X T N h105 ho1 hD hws hcs ho2 ho3 h3W hms hmv hmk hret
  have hmk100 := MarkH.mk (n := 100)
  rw [show lawCut 6 2 = [_, _] from rfl]
  revert X; k_fill; intro X
  rw [known_eq hms, known_eq hmv, known_eq hmk] at F
  have hp : (0 : Int) < 2 ^ W := Int.pow_pos (by omega)
  k_steps
  try dsimp only
  have h0 := Int.fmod_nonneg_of_pos (cs.getD (Int.toNat 1) 0) (b := 2 ^ W) (by omega)
  have h1 := Int.fmod_lt_of_pos (cs.getD (Int.toNat 1) 0) (b := 2 ^ W) hp
  have h2 := Int.fmod_nonneg_of_pos (cs.getD (Int.toNat 2) 0 * 40503) (b := 2 * 2 ^ W) (by omega)
  have h3 := Int.fmod_lt_of_pos (cs.getD (Int.toNat 2) 0 * 40503) (b := 2 * 2 ^ W) (by omega)
  refine hret _ _ _ _ _ _ _ _ ?_ ?_ ?_ ?_ ?_ rfl rfl rfl rfl (by assumption) (by assumption) (by assumption)
  all_goals omega
end law_first_K
theorem law_first {w : World} {mean : ExcName → Option Value} {mg mb : Str → Option Value} {base : Heap} {L fa : Addr} {cd : Value} {m : Str → Option Value} {s : Shared} {Q : Flow → Shared → Prop} {rest : List Stmt} {o1 o2 o3 o4 o5 o6 o7 o8 : Obj} {D : Addr} {ws : List Value} {cnt : Nat} {cs : List Int} {W : Nat} {t0 t1 t2 t3 : Tok} {sh va : UInt64} {kd : Int} : law_first_S w mean mg mb base L fa cd m s Q rest o1 o2 o3 o4 o5 o6 o7 o8 D ws cnt cs W t0 t1 t2 t3 sh va kd := @by_bad (fun c => law_first_S (c.w 0) (c.me 0) (c.m 0) (c.m 1) (c.h 0) (c.n 0) (c.n 1) (c.v 0) (c.m 2) (c.sh 0) (c.qf 0) (c.lst 0) (c.o 0) (c.o 1) (c.o 2) (c.o 3) (c.o 4) (c.o 5) (c.o 6) (c.o 7) (c.n 2) (c.lv 0) (c.n 3) (c.li 0) (c.n 4) (c.n 5) (c.n 6) (c.n 7) (c.n 8) (c.u 0) (c.u 1) (c.i 0)) (by with_unfolding_all exact law_first_K.main) { cx0 with n := fromL (0) [L, fa, D, cnt, W, t0, t1, t2, t3], i := fromL (0) [kd], u := fromL (0) [sh, va], o := fromL (default) [o1, o2, o3, o4, o5, o6, o7, o8], v := fromL (.none) [cd], lv := fromL ([]) [ws], m := fromL (fun _ => none) [mg, mb, m], sh := fromL ({}) [s], h := fromL ({}) [base], lst := fromL ([]) [rest], w := fromL (worldZ) [w], me := fromL (fun _ => none) [mean], qf := fromL (fun _ _ => True) [Q], li := fromL ([]) [cs] }
end
section
noncomputable def lapOf (kd fi st : Int) : Int := if kd = 4 then fi else st
noncomputable def mostOf (kd lap : Int) : Int := if lap = 127 then 1 else (match kd.toNat with | 0 => 9 | 1 => 9 | 2 => 4 | 3 => 6 | _ => 9)
noncomputable def tailOf (kd st : Int) : List Int := match kd.toNat with | 0 => [0, 127] | 1 => [st, 0] | 2 => [st, st, 127, st] | 3 => [st, st, st, st] | _ => [st]
noncomputable def rowOf (kd fi st : Int) : List Int := [fi, if kd = 4 then 0 else st] ++ tailOf kd st
open PyProof.Rows.LCg
theorem cell_eq {o : Obj} {a b : Int} {t : Tok} (e : a = b) (h : o.data = .cell (some (.int b t))) : o.data = .cell (some (.int a t)) := e ▸ h
theorem lap4 {kd fi st : Int} (h : kd = 4) : lapOf kd fi st = fi := if_pos h
theorem lapn {kd fi st : Int} (h : kd ≠ 4) : lapOf kd fi st = st := if_neg h
theorem most1 {kd lap x : Int} (e : lap = x) (h : x = 127) : mostOf kd lap = 1 := if_pos (e.trans h)
theorem mostg {kd lap x : Int} (e : lap = x) (h : x ≠ 127) (h0 : 0 ≤ kd) (h5 : kd < 5) : mostOf kd lap = [9, 9, 4, 6, 9].getD kd.toNat 0 := by
  subst e
  refine (if_neg h).trans ?_
  rcases cases5 h0 h5 with rfl | rfl | rfl | rfl | rfl <;> rfl
theorem row4 {us : List Value} {kd fi st : Int} (h : kd = 4) (H : IntsAre us ([fi, 0] ++ tailOf kd st)) : IntsAre us (rowOf kd fi st) := by unfold rowOf; rw [if_pos h]; exact H
theorem rown {us : List Value} {kd fi st : Int} (h : kd ≠ 4) (H : IntsAre us ([fi, st] ++ tailOf kd st)) : IntsAre us (rowOf kd fi st) := by unfold rowOf; rw [if_neg h]; exact H
theorem tail_len {st : Int} : ∀ n : Nat, (match n with | 0 => [0, 127] | 1 => [st, 0] | 2 => [st, st, 127, st] | 3 => [st, st, st, st] | _ => [st] : List Int).length ≤ 4
  | 0 | 1 | 2 | 3 | _ + 4 => Nat.le_of_ble_eq_true rfl
theorem row_room {fi x kd st : Int} : [fi, x].length + (tailOf kd st).length ≤ sizeLine := by
  rw [sizeLine_eq]; exact Nat.le_trans (Nat.add_le_add_left (tail_len kd.toNat) 2) (Nat.le_of_ble_eq_true rfl)
@[reducible] noncomputable def law_tail_S (w : World) (mean : ExcName → Option Value) (mg mb : Str → Option Value) (base : Heap) (L fa : Addr) (cd : Value) (m : Str → Option Value) (s : Shared) (Q : Flow → Shared → Prop) (rest : List Stmt) (o1 o2 o3 o4 o5 o6 o7 o8 : Obj) (D : Addr) (ws : List Value) (cnt : Nat) (t3 t5 : Tok) (st : Int) : Prop := ∀ {kd : Int} (B : Below callerA base [] base) (F : Fr base L s.heap m) (X : (KX w.params).In base) (T : Top topProg lawLoose mean mg mb base) (N : News base L s.heap ((D, W.listOf ws.toArray cnt) :: ((L + 1 + 1 + 1 + 1 + 1 + 1 + 1 + 1 : Addr), o8) :: ((L + 1 + 1 + 1 + 1 + 1 + 1 + 1 : Addr), o7) :: ((L + 1 + 1 + 1 + 1 + 1 + 1 : Addr), o6) :: ((L + 1 + 1 + 1 + 1 + 1 : Addr), o5) :: ((L + 1 + 1 + 1 + 1 : Addr), o4) :: ((L + 1 + 1 + 1 : Addr), o3) :: ((L + 1 + 1 : Addr), o2) :: ((L + 1 : Addr), o1) :: (105, W.tabObj #[]) :: [])) (h105 : @LT.lt Nat _ 105 L) (hD : @LT.lt Nat _ (L+1+1+1+1+1+1+1+1) D) (hk0 : 0 ≤ kd) (hk5 : kd < 5) (hmk : m (Str.ofString "kind") = some (.int kd t3)) (hmst : m (Str.ofString "step") = some (.int st t5)) (hret : ∀ (R : Addr) (rs : List Value) (rc : Nat) (h' : Heap) (tk' : Nat), Fr base L h' (fun y => if y = Str.ofString "tail" then some (.ref R) else m y) → News base L h' ((R, W.listOf rs.toArray rc) :: (D, W.listOf ws.toArray cnt) :: ((L + 1 + 1 + 1 + 1 + 1 + 1 + 1 + 1 : Addr), o8) :: ((L + 1 + 1 + 1 + 1 + 1 + 1 + 1 : Addr), o7) :: ((L + 1 + 1 + 1 + 1 + 1 + 1 : Addr), o6) :: ((L + 1 + 1 + 1 + 1 + 1 : Addr), o5) :: ((L + 1 + 1 + 1 + 1 : Addr), o4) :: ((L + 1 + 1 + 1 : Addr), o3) :: ((L + 1 + 1 : Addr), o2) :: ((L + 1 : Addr), o1) :: (105, W.tabObj #[]) :: []) → @LT.lt Nat _ D R → IntsAre rs (tailOf kd st) → wpAny (model Challenge.rw_st0007_01.prog w) (lawA L fa cd) (execs rest (lawEnv L fa cd)) Q (fun _ _ => False) { s with heap := h', toks := tk' }), wpAny (model Challenge.rw_st0007_01.prog w) (lawA L fa cd) (execs (lawCut 8 1 ++ rest) (lawEnv L fa cd)) Q (fun _ _ => False) s
namespace law_tail_K
@[irreducible] noncomputable def pt : Cx := bad fun c => law_tail_S (c.w 0) (c.me 0) (c.m 0) (c.m 1) (c.h 0) (c.n 0) (c.n 1) (c.v 0) (c.m 2) (c.sh 0) (c.qf 0) (c.lst 0) (c.o 0) (c.o 1) (c.o 2) (c.o 3) (c.o 4) (c.o 5) (c.o 6) (c.o 7) (c.n 2) (c.lv 0) (c.n 3) (c.n 4) (c.n 5) (c.i 0)
theorem main : law_tail_S (pt.w 0) (pt.me 0) (pt.m 0) (pt.m 1) (pt.h 0) (pt.n 0) (pt.n 1) (pt.v 0) (pt.m 2) (pt.sh 0) (pt.qf 0) (pt.lst 0) (pt.o 0) (pt.o 1) (pt.o 2) (pt.o 3) (pt.o 4) (pt.o 5) (pt.o 6) (pt.o 7) (pt.n 2) (pt.lv 0) (pt.n 3) (pt.n 4) (pt.n 5) (pt.i 0) := by
  intro kd B F X T N h105 hD hk0 hk5 hmk hmst hret
  rw [show lawCut 8 1 = [_] from rfl]
  revert X; k_fill; intro X
  rw [known_eq hmk, known_eq hmst] at F hret
  k_steps
  all_goals (try dsimp only)
  all_goals (rename kd = _ => e9)
  all_goals (refine' hret _ _ _ _ _ ?gF ?gN ?gl ?gi; (case gF => assumption); (case gN => (first | assumption | exact cb_drop (by assumption) (by kcj_all))); (case gl => omega); (case gi => (rw [e9]; first | exact .cons _ _ (.cons _ _ .nil) | exact .cons _ _ (.cons _ _ (.cons _ _ (.cons _ _ .nil))) | exact .cons _ _ .nil)))
end law_tail_K
theorem law_tail {w : World} {mean : ExcName → Option Value} {mg mb : Str → Option Value} {base : Heap} {L fa : Addr} {cd : Value} {m : Str → Option Value} {s : Shared} {Q : Flow → Shared → Prop} {rest : List Stmt} {o1 o2 o3 o4 o5 o6 o7 o8 : Obj} {D : Addr} {ws : List Value} {cnt : Nat} {t3 t5 : Tok} {st : Int} : law_tail_S w mean mg mb base L fa cd m s Q rest o1 o2 o3 o4 o5 o6 o7 o8 D ws cnt t3 t5 st := @by_bad (fun c => law_tail_S (c.w 0) (c.me 0) (c.m 0) (c.m 1) (c.h 0) (c.n 0) (c.n 1) (c.v 0) (c.m 2) (c.sh 0) (c.qf 0) (c.lst 0) (c.o 0) (c.o 1) (c.o 2) (c.o 3) (c.o 4) (c.o 5) (c.o 6) (c.o 7) (c.n 2) (c.lv 0) (c.n 3) (c.n 4) (c.n 5) (c.i 0)) (by with_unfolding_all exact law_tail_K.main) { cx0 with n := fromL (0) [L, fa, D, cnt, t3, t5], i := fromL (0) [st], o := fromL (default) [o1, o2, o3, o4, o5, o6, o7, o8], v := fromL (.none) [cd], lv := fromL ([]) [ws], m := fromL (fun _ => none) [mg, mb, m], sh := fromL ({}) [s], h := fromL ({}) [base], lst := fromL ([]) [rest], w := fromL (worldZ) [w], me := fromL (fun _ => none) [mean], qf := fromL (fun _ _ => True) [Q] }
@[reducible] noncomputable def law_row3_S (w : World) (mean : ExcName → Option Value) (mg mb : Str → Option Value) (base : Heap) (L fa : Addr) (cd : Value) (m : Str → Option Value) (s : Shared) (Q : Flow → Shared → Prop) (rest : List Stmt) (o1 o2 o3 o4 o5 o6 o7 o8 : Obj) (D R0 : Addr) (ws ts : List Value) (cnt tc : Nat) (t1 t2 t3 t4 t5 : Tok) (sh va : UInt64) (fi st : Int) : Prop := ∀ {kd : Int} (B : Below callerA base [] base) (F : Fr base L s.heap m) (X : (KX w.params).In base) (T : Top topProg lawLoose mean mg mb base) (N : News base L s.heap ((R0, W.listOf ts.toArray tc) :: (D, W.listOf ws.toArray cnt) :: ((L + 1 + 1 + 1 + 1 + 1 + 1 + 1 + 1 : Addr), o8) :: ((L + 1 + 1 + 1 + 1 + 1 + 1 + 1 : Addr), o7) :: ((L + 1 + 1 + 1 + 1 + 1 + 1 : Addr), o6) :: ((L + 1 + 1 + 1 + 1 + 1 : Addr), o5) :: ((L + 1 + 1 + 1 + 1 : Addr), o4) :: ((L + 1 + 1 + 1 : Addr), o3) :: ((L + 1 + 1 : Addr), o2) :: ((L + 1 : Addr), o1) :: (105, W.tabObj #[]) :: [])) (h105 : @LT.lt Nat _ 105 L) (hD : @LT.lt Nat _ (L+1+1+1+1+1+1+1+1) D) (ho3 : o3.data = .cell (some (.int fi t4))) (ho4 : o4.data = .cell none) (ho5 : o5.data = .cell none) (hR0 : @LT.lt Nat _ D R0) (hts : IntsAre ts (tailOf kd st)) (hmt : m (Str.ofString "tail") = some (.ref R0)) (hk0 : 0 ≤ kd) (hk5 : kd < 5) (hms : m (Str.ofString "share") = some (.float sh t1)) (hmv : m (Str.ofString "value") = some (.float va t2)) (hmk : m (Str.ofString "kind") = some (.int kd t3)) (hmst : m (Str.ofString "step") = some (.int st t5)) (hret : ∀ (R : Addr) (rs : List Value) (rc : Nat) (t6 t7 : Tok) (o4 o5 : Obj) (m' : Str → Option Value) (h' : Heap) (tk' : Nat), Fr base L h' m' → News base L h' ((R, W.listOf rs.toArray rc) :: (D, W.listOf ws.toArray cnt) :: ((L + 1 + 1 + 1 + 1 + 1 + 1 + 1 + 1 : Addr), o8) :: ((L + 1 + 1 + 1 + 1 + 1 + 1 + 1 : Addr), o7) :: ((L + 1 + 1 + 1 + 1 + 1 + 1 : Addr), o6) :: ((L + 1 + 1 + 1 + 1 + 1 : Addr), o5) :: ((L + 1 + 1 + 1 + 1 : Addr), o4) :: ((L + 1 + 1 + 1 : Addr), o3) :: ((L + 1 + 1 : Addr), o2) :: ((L + 1 : Addr), o1) :: (105, W.tabObj #[]) :: []) → m' (Str.ofString "row") = some (.ref R) → @LT.lt Nat _ D R → IntsAre rs (rowOf kd fi st) → o4.data = .cell (some (.int (lapOf kd fi st) t6)) → o5.data = .cell (some (.int (mostOf kd (lapOf kd fi st)) t7)) → m' (Str.ofString "share") = some (.float sh t1) → m' (Str.ofString "value") = some (.float va t2) → wpAny (model Challenge.rw_st0007_01.prog w) (lawA L fa cd) (execs rest (lawEnv L fa cd)) Q (fun _ _ => False) { s with heap := h', toks := tk' }), wpAny (model Challenge.rw_st0007_01.prog w) (lawA L fa cd) (execs (lawCut 9 3 ++ rest) (lawEnv L fa cd)) Q (fun _ _ => False) s
namespace law_row3_K
@[irreducible] noncomputable def pt : Cx := bad fun c => law_row3_S (c.w 0) (c.me 0) (c.m 0) (c.m 1) (c.h 0) (c.n 0) (c.n 1) (c.v 0) (c.m 2) (c.sh 0) (c.qf 0) (c.lst 0) (c.o 0) (c.o 1) (c.o 2) (c.o 3) (c.o 4) (c.o 5) (c.o 6) (c.o 7) (c.n 2) (c.n 3) (c.lv 0) (c.lv 1) (c.n 4) (c.n 5) (c.n 6) (c.n 7) (c.n 8) (c.n 9) (c.n 10) (c.u 0) (c.u 1) (c.i 0) (c.i 1)
@[irreducible] noncomputable def rest : List Stmt := pt.lst 0
theorem main : law_row3_S (pt.w 0) (pt.me 0) (pt.m 0) (pt.m 1) (pt.h 0) (pt.n 0) (pt.n 1) (pt.v 0) (pt.m 2) (pt.sh 0) (pt.qf 0) rest (pt.o 0) (pt.o 1) (pt.o 2) (pt.o 3) (pt.o 4) (pt.o 5) (pt.o 6) (pt.o 7) (pt.n 2) (pt.n 3) (pt.lv 0) (pt.lv 1) (pt.n 4) (pt.n 5) (pt.n 6) (pt.n 7) (pt.n 8) (pt.n 9) (pt.n 10) (pt.u 0) (pt.u 1) (pt.i 0) (pt.i 1) := by
  intro kd B F X T N h105 hD ho3 ho4 ho5 hR0 hts hmt hk0 hk5 hms hmv hmk hmst hret
  rw [show lawCut 9 3 = [_, _, _] from rfl]
  revert X; k_fill; intro X
  rw [known_eq hms, known_eq hmv, known_eq hmk, known_eq hmst, known_eq hmt] at F
  refine execs_app' (xs := [_, _]) (ys := _ :: rest) ?_
  k_steps
  all_goals k_dflt (refine' kmk_add_ints ?F ?N ?a ?b ?i ?j ?_ ?z; (case F | N => k_asm); (case a | b => kmk_list); (case i => l_ints); (case j => exact hts); (case z => exact row_room))
  all_goals (intro D' ws' h' F' N' l1 hI'; (try k_lt l1); (try k_sweep))
  all_goals k_steps
  all_goals first | exact absurd ‹kd = 4› ‹kd ≠ 4› | refine Then.of fun h9 => ?_
  all_goals clear h9
  all_goals k_steps
  all_goals (try dsimp only)
  all_goals (refine' hret _ _ _ _ _ _ _ _ _ _ ?gF ?gN ?gr ?gl ?gi ?g4 ?g5 ?gs ?gv; (case gF => assumption); (case gr => exact rfl); (case gN => (first | assumption | exact cb_drop (by assumption) (by kcj_all))); (case gl => omega); (case gi => first | exact row4 (by assumption) (by assumption) | exact rown (by assumption) (by assumption)); (case g4 => first | exact cell_eq (lap4 (by assumption)) (by assumption) | exact cell_eq (lapn (by assumption)) (by assumption)); (case g5 => first | exact cell_eq (most1 (lap4 (by assumption)) (by assumption)) (by assumption) | exact cell_eq (most1 (lapn (by assumption)) (by assumption)) (by assumption) | exact cell_eq (mostg (lap4 (by assumption)) (by assumption) (by assumption) (by assumption)) (by assumption) | exact cell_eq (mostg (lapn (by assumption)) (by assumption) (by assumption) (by assumption)) (by assumption)); (case gs => exact rfl); (case gv => exact rfl))
end law_row3_K
theorem law_row3 {w : World} {mean : ExcName → Option Value} {mg mb : Str → Option Value} {base : Heap} {L fa : Addr} {cd : Value} {m : Str → Option Value} {s : Shared} {Q : Flow → Shared → Prop} {rest : List Stmt} {o1 o2 o3 o4 o5 o6 o7 o8 : Obj} {D R0 : Addr} {ws ts : List Value} {cnt tc : Nat} {t1 t2 t3 t4 t5 : Tok} {sh va : UInt64} {fi st : Int} : law_row3_S w mean mg mb base L fa cd m s Q rest o1 o2 o3 o4 o5 o6 o7 o8 D R0 ws ts cnt tc t1 t2 t3 t4 t5 sh va fi st := @by_bad (fun c => law_row3_S (c.w 0) (c.me 0) (c.m 0) (c.m 1) (c.h 0) (c.n 0) (c.n 1) (c.v 0) (c.m 2) (c.sh 0) (c.qf 0) (c.lst 0) (c.o 0) (c.o 1) (c.o 2) (c.o 3) (c.o 4) (c.o 5) (c.o 6) (c.o 7) (c.n 2) (c.n 3) (c.lv 0) (c.lv 1) (c.n 4) (c.n 5) (c.n 6) (c.n 7) (c.n 8) (c.n 9) (c.n 10) (c.u 0) (c.u 1) (c.i 0) (c.i 1)) (by with_unfolding_all exact law_row3_K.main) { cx0 with n := fromL (0) [L, fa, D, R0, cnt, tc, t1, t2, t3, t4, t5], i := fromL (0) [fi, st], u := fromL (0) [sh, va], o := fromL (default) [o1, o2, o3, o4, o5, o6, o7, o8], v := fromL (.none) [cd], lv := fromL ([]) [ws, ts], m := fromL (fun _ => none) [mg, mb, m], sh := fromL ({}) [s], h := fromL ({}) [base], lst := fromL ([]) [rest], w := fromL (worldZ) [w], me := fromL (fun _ => none) [mean], qf := fromL (fun _ _ => True) [Q] }
end
section
noncomputable def below (h : Heap) (C : Nat) : Heap := ⟨h.objs.extract 0 C, h.life⟩
theorem below_size (h : Heap) (C : Nat) : (below h C).objs.size ≤ C := by
  show (h.objs.extract 0 C).size ≤ C
  rw [Array.size_extract]; exact Nat.min_le_left _ _
theorem below_get {h : Heap} {C : Nat} {b : Addr} {o : Obj} : (below h C).get? b = some o ↔ @LT.lt Nat _ b C ∧ h.get? b = some o := by
  rw [Heap.get?_some_iff, Heap.get?_some_iff]
  show (h.objs.extract 0 C)[b]? = some o ∧ _ ↔ _
  rw [Array.getElem?_extract]
  by_cases hb : @LT.lt Nat _ b C
  · by_cases hs : @LT.lt Nat _ b h.objs.size
    · have : @LT.lt Nat _ b (min C h.objs.size - 0) := by rw [Nat.sub_zero]; exact Nat.lt_min.mpr ⟨hb, hs⟩
      rw [if_pos this, Nat.zero_add]
      exact ⟨fun h => ⟨hb, h⟩, fun h => h.2⟩
    · have : ¬ @LT.lt Nat _ b (min C h.objs.size - 0) := fun z => hs (Nat.lt_of_lt_of_le z (by rw [Nat.sub_zero]; exact Nat.min_le_right _ _))
      rw [if_neg this, Array.getElem?_eq_none (Nat.le_of_not_lt hs)]
      exact ⟨fun h => (nomatch h.1), fun h => (nomatch h.2.1)⟩
  · have : ¬ @LT.lt Nat _ b (min C h.objs.size - 0) := fun z => hb (Nat.lt_of_lt_of_le z (by rw [Nat.sub_zero]; exact Nat.min_le_left _ _))
    rw [if_neg this]
    exact ⟨fun h => (nomatch h.1), fun h => absurd h.1 hb⟩
theorem below_none {h : Heap} {C : Nat} {b : Addr} (hb : @LE.le Nat _ C b) : (below h C).get? b = none := by
  cases q : (below h C).get? b with
  | none => rfl
  | some o => exact absurd (below_get.mp q).1 (Nat.not_lt.mpr hb)
noncomputable def restOf (h : Heap) (C it : Nat) : List (Addr × Obj) := (List.range h.objs.size).filterMap fun b => if C < b ∧ b ≠ it then (h.get? b).map fun o => (b, o) else none
theorem mem_restOf {h : Heap} {C it : Nat} {p : Addr × Obj} : p ∈ restOf h C it ↔ (@LT.lt Nat _ C p.1 ∧ @Ne Nat p.1 it) ∧ h.get? p.1 = some p.2 := by
  obtain ⟨b, o⟩ := p
  unfold restOf
  rw [List.mem_filterMap]
  constructor
  · rintro ⟨b', hb', e⟩
    split at e
    · rename_i c
      cases q : h.get? b' with
      | none => rw [q] at e; cases e
      | some o' => rw [q] at e; cases e; exact ⟨c, q⟩
    · cases e
  · rintro ⟨c, e⟩
    refine ⟨b, List.mem_range.mpr (Heap.lt_size e), ?_⟩
    dsimp only at c e
    rw [if_pos c, e]; rfl
section
variable {A₀ A : Around} {base h₀ h h' : Heap} {outer : List Env} {env : Env} {L C it : Addr} {m mg mg' : Str → Option Value} {oit oit' : Obj}
theorem ground_gen (B : Below A₀ base outer h₀) (F : Fr h₀ L h m) (hA : A.frames = some (env :: outer)) (hf : env.frame = some L) (hke : env.scope.kind = .function) (hLC : @LT.lt Nat _ L C) (ns : h.Ns C mg) :
    Fr h₀ L (below h C) m ∧ Below A base (env :: outer) (below h C) ∧ Fr (below h C) C h mg ∧ News (below h C) C h (restOf h C it) := by
  obtain ⟨oL, es, ep, hL, r⟩ := F.ns
  have lt0 : ∀ b o, h₀.get? b = some o → @LT.lt Nat _ b C := fun b o e => Nat.lt_trans (Nat.lt_of_lt_of_le (Heap.lt_size e) F.above) hLC
  have B₁ := pushX B F hf hke
  refine ⟨⟨⟨oL, es, ep, below_get.mpr ⟨hLC, hL⟩, r⟩, fun b o e => below_get.mpr ⟨lt0 b o e, F.keep b o e⟩, F.above⟩, ⟨hA, fun b o e => below_get.mpr ⟨lt0 b o (B.stays b o e), F.keep b o (B.stays b o e)⟩, ?_⟩,
    ⟨ns, fun b o e => (below_get.mp e).2, below_size h C⟩, fun p hp => ?_⟩
  · have key : ∀ l : List Env, h₀.FunFrames base l → (below h C).FunFrames base l := by
      intro l
      induction l with
      | nil => exact fun _ => trivial
      | cons e r ih => exact fun ⟨a, ⟨L1, o1, b1, b2, b3, b4⟩, c⟩ => ⟨a, ⟨L1, o1, b1, b2, below_get.mpr ⟨lt0 _ _ b3, F.keep _ _ b3⟩, b4⟩, ih c⟩
    obtain ⟨a, ⟨L1, o1, b1, b2, b3, b4⟩, c⟩ := B₁.frames
    refine ⟨a, ⟨L1, o1, b1, b2, below_get.mpr ⟨?_, b3⟩, b4⟩, key _ B.frames⟩
    have : L1 = L := Option.some.inj (b1.symm.trans hf)
    rw [this]; exact hLC
  · obtain ⟨⟨c1, c2⟩, e⟩ := mem_restOf.mp hp
    exact ⟨e, (Nat.ne_of_lt c1).symm, below_none (Nat.le_of_lt c1)⟩
theorem gen_keeps (F : Fr (below h C) C h' mg') (N : News (below h C) C h' (restOf h C it)) : ∀ b o, @Ne Nat b C → @Ne Nat b it → h.get? b = some o → h'.get? b = some o := fun b o h1 h2 e => by
  rcases Nat.lt_or_gt_of_ne h1 with c | c
  · exact F.keep b o (below_get.mpr ⟨c, e⟩)
  · exact (N (b, o) (mem_restOf.mpr ⟨⟨c, h2⟩, e⟩)).1
end
end
section
section
variable {M : Model} {A : Around} {R : GenEnd} {Y : Protocol} {n : Nat} {s₀ : Shared} {c : Code} {fs : List Frame} {s : Shared} {env : Env}
  {K : Flow → Sem Fin} {H : Value → Sem Fin} {gd : Bool → Bool} {lv : List Value → List Value}
theorem seg_If {test : Expr} {body orelse : List Stmt} {pos : Pos}
    (h : wpAny M (A.over c fs) (isTrue test env (eval test env)) (fun b s' => Seg M A R Y n s₀ c ((if b = true then execs body env else execs orelse env).wrap K H gd lv) fs s') (fun x s' => Seg M A R Y n s₀ c (H x) fs s') s) :
    Seg M A R Y n s₀ c ((exec (.If test body orelse pos) env).wrap K H gd lv) fs s := by
  rw [exec_If]
  refine seg_at (k := fun _ => (isTrue test env (eval test env) >>= fun b => if b = true then execs body env else execs orelse env).wrap K H gd lv) ?_
  rw [Sem.bind_eq_wrap', Sem.wrap_wrap]
  exact seg_wrap h
theorem seg_plain {st : Stmt}
    (h : wpAny M (A.over c fs) (exec st env) (fun f s' => Seg M A R Y n s₀ c (K f) fs s') (fun x s' => Seg M A R Y n s₀ c (H x) fs s') s) :
    Seg M A R Y n s₀ c ((exec st env).wrap K H gd lv) fs s := seg_wrap h
theorem seg_For {target iter : Expr} {body orelse : List Stmt} {pos : Pos} (hs : ∀ x, foldedSetIterable iter env x = pure x)
    (h : wpAny M (A.over c fs) (eval iter env) (fun x s₁ => wpAny M (A.over c fs) (pyIter x) (fun it s₂ =>
      ∀ p, Seg M A R Y n s₀ (.forLoop target it body orelse env) (M.den (.forLoop target it body orelse env))
      (.ret (fun r => ((match r with | .ok f => (.pure f : Sem Flow) | .error e => .raise e).onRaise fun (x : Value) => do
        if (← field x 1) == Value.none then unsupported "frame.own-activation:exception-without-traceback"
        setFlight x env.frame).wrap K H gd lv) none (gd false) (lv []) c p [] :: fs) s₂) (fun x s' => Seg M A R Y n s₀ c (H x) fs s') s₁) (fun x s' => Seg M A R Y n s₀ c (H x) fs s') s) :
    Seg M A R Y n s₀ c ((exec (.For target iter body orelse pos) env).wrap K H gd lv) fs s := by
  rw [exec_For]
  refine seg_at (k := fun _ => (eval iter env >>= fun x => foldedSetIterable iter env x >>= fun x => standAt iter.pos >>= fun _ => holding [x] (pyIter x) >>= fun it => runOwn (.forLoop target it body orelse env) env).wrap K H gd lv) ?_
  rw [Sem.bind_eq_wrap', Sem.wrap_wrap]
  refine seg_wrap (wpAny_mono h (fun x s₁ h₁ => ?_) fun _ _ e => e)
  rw [hs]
  refine seg_at (k := fun _ => (holding [x] (pyIter x) >>= fun it => runOwn (.forLoop target it body orelse env) env).wrap K H gd lv) ?_
  rw [Sem.bind_eq_wrap', Sem.wrap_wrap]
  refine seg_wrap (wpAny_holding (wpAny_mono h₁ (fun it s₂ h₂ => ?_) fun _ _ e => e))
  exact seg_call h₂
end
section
variable {prog : Program} {w : World} {A : Around} {R : GenEnd} {Y : Protocol} {n : Nat} {s₀ : Shared} {fs : List Frame} {s : Shared} {env : Env}
noncomputable abbrev loopH (env : Env) : Value → Sem Fin := fun e => (do noteFrame e env; theTreesLotGoes e : Sem Unit).wrap (fun _ => .raise e) .raise id id
noncomputable abbrev loopK (target : Expr) (it : Value) (body orelse : List Stmt) (env : Env) : Flow → Sem Fin := fun f => match f with
  | .next | .cont => .pure (.again (.forLoop target it body orelse env))
  | .brk => .pure (.done .next)
  | .ret v => .pure (.done (.ret v))
theorem seg_forLoop {target : Expr} {it : Value} {body orelse : List Stmt} (ht : ∀ v, letOwnedTupleGo target it v = pure ())
    (h : wpAny (model prog w) (A.over (.forLoop target it body orelse env) fs) (pyNext it) (fun r s' => match r with
        | none => Seg (model prog w) A R Y n s₀ (.forLoop target it body orelse env) (.pure (.again (.block orelse env))) fs s'
        | some v => wpAny (model prog w) (A.over (.forLoop target it body orelse env) fs) (assign target env v) (fun _ s'' =>
            Seg (model prog w) A R Y n s₀ (.forLoop target it body orelse env) ((execs body env).wrap (loopK target it body orelse env) (loopH env) id id) fs s'') (fun x s'' => Seg (model prog w) A R Y n s₀ (.forLoop target it body orelse env) (loopH env x) fs s'') s')
      (fun x s' => Seg (model prog w) A R Y n s₀ (.forLoop target it body orelse env) (loopH env x) fs s') s) :
    Seg (model prog w) A R Y n s₀ (.forLoop target it body orelse env) ((model prog w).den (.forLoop target it body orelse env)) fs s := by
  have hH : ∀ e, ((do noteFrame e env; theTreesLotGoes e : Sem Unit).bind fun _ => (.raise e : Sem Fin)) = loopH env e := fun e => by rw [Sem.bind_eq_wrap]
  show Seg _ A R Y n s₀ _ ((forTurn target it body orelse env).onRaise (fun x => do noteFrame x env; theTreesLotGoes x)) fs s
  unfold forTurn
  rw [Sem.onRaise_eq_wrap]
  refine seg_at ?_
  show Seg _ A R Y n s₀ _ (Sem.wrap _ _ _ _ ((pyNext it).onRaise (fun _ => standAt { target.pos with line := 0 }) >>= _)) fs s
  rw [Sem.bind_eq_wrap', Sem.wrap_wrap]
  refine seg_wrap (wpAny_onRaise (wpAny_mono h (fun r s₁ h₁ => ?_) fun e s' h' => wpAny_standAt ?_))
  · cases r with
    | none => exact h₁
    | some v =>
      show Seg _ A R Y n s₀ _ (Sem.wrap _ _ _ _ (letOwnedTupleGo target it v >>= fun _ => assign target env v >>= fun _ => _)) fs s₁
      rw [ht]
      show Seg _ A R Y n s₀ _ (Sem.wrap _ _ _ _ (assign target env v >>= fun _ => _)) fs s₁
      rw [Sem.bind_eq_wrap', Sem.wrap_wrap]
      refine seg_wrap (wpAny_mono h₁ (fun _ s₂ h₂ => ?_) fun e s' h' => ?_)
      · show Seg _ A R Y n s₀ _ (Sem.wrap _ _ _ _ (execs body env >>= fun f => _)) fs s₂
        rw [Sem.bind_eq_wrap', Sem.wrap_wrap]
        refine (congrArg (fun t => Seg (model prog w) A R Y n s₀ (.forLoop target it body orelse env) t fs s₂) (Sem.wrap_congr (K' := loopK target it body orelse env) (H' := loopH env) (execs body env) (fun g => id (id g)) (fun l => id (id l)) (fun f => ?_) (fun e => ?_))).mpr h₂
        · cases f <;> rfl
        · exact hH e
      · show Seg _ A R Y n s₀ _ (Sem.bind _ _) fs s'
        rw [hH]; exact h'
  · show Seg _ A R Y n s₀ _ (Sem.bind _ _) fs s'
    rw [hH]; exact h'
end
end
section
inductive GSt | forS (last : Option Int) (i : Nat) | whileS (l : Int)
noncomputable def gnext (ls : List Int) : GSt → Option (Int × GSt)
  | .forS last i => match ls[i]? with
    | none => none
    | some v => if v = 127 then none else if v = 0 then (match last with | none => none | some l => some (l, .whileS l)) else some (v, .forS (some v) (i + 1))
  | .whileS l => some (l, .whileS l)
noncomputable def gfair (ls : List Int) : GSt → Prop
  | .forS none i => ls[i]? ≠ some 0
  | _ => True
inductive GP (ls : List Int) (f : Nat → Int) (en : Bool) : Nat → GSt → Prop
  | stop {σ} : (en = true → gnext ls σ = none ∧ gfair ls σ) → GP ls f en 0 σ
  | step {n σ σ'} : gnext ls σ = some (f n, σ') → GP ls f en n σ' → GP ls f en (n + 1) σ
noncomputable def EffG (C it : Addr) (s₀ s₁ : Shared) : Prop := ∃ h tk, s₁ = { s₀ with heap := h, toks := tk } ∧ ∀ b o, @Ne Nat b C → @Ne Nat b it → s₀.heap.get? b = some o → h.get? b = some o
noncomputable def GY (h₀ : Heap) (L C r : Addr) (oR : Obj) (f : Nat → Int) (en : Bool) : Protocol := fun n s₀ v s₁ kap =>
  (∃ t, v = .int (f n) t) ∧ ∃ it oC oit, EffG C it s₀ s₁ ∧ @LT.lt Nat _ C it ∧ (∀ o, s₀.heap.get? it = some o → o.cls = .type "list_iterator") ∧ s₁.heap.get? C = some oC ∧ s₁.heap.get? it = some oit ∧ oit.cls = .type "list_iterator" ∧
    ((n ≠ 0 ∨ en = true) → ∀ s'', (∃ m', Fr h₀ L s''.heap m') → s''.heap.get? C = some oC → s''.heap.get? it = some oit → s''.heap.get? r = some oR → kap (.send .none) s'')
noncomputable def GR (C : Addr) (en : Bool) : Nat → Shared → Shared → Prop := fun n s₀ s₁ => n = 0 ∧ en = true ∧ ∃ it, EffG C it s₀ s₁ ∧ @LT.lt Nat _ C it ∧ (∀ o, s₀.heap.get? it = some o → o.cls = .type "list_iterator")
noncomputable abbrev GEnd (C : Addr) (en : Bool) : GenEnd := fun n s₀ r s₁ => r = .ok (.ret .none) ∧ GR C en n s₀ s₁
noncomputable def GReady (w : World) (A : Around) (h₀ : Heap) (L C it r : Addr) (oC oit oR : Obj) (f : Nat → Int) (en : Bool) (n : Nat) (gs : GenState) : Prop :=
  ∀ s'', (∃ m', Fr h₀ L s''.heap m') → s''.heap.get? C = some oC → s''.heap.get? it = some oit → s''.heap.get? r = some oR → gs.Goes (model Challenge.rw_st0007_01.prog w) A.in1 (GEnd C en) (GY h₀ L C r oR f en) n (.send .none) s''
noncomputable abbrev genObj (n : Nat) (nm qn : Value) : Obj := { cls := .type "generator", data := .fields #[.int n 0, nm, qn] }
theorem EffG.refl {C it : Addr} (s : Shared) : EffG C it s s := ⟨s.heap, s.toks, rfl, fun _ _ _ _ e => e⟩
theorem EffG.trans {C it : Addr} {s₀ s₁ s₂ : Shared} (x : EffG C it s₀ s₁) (y : EffG C it s₁ s₂) : EffG C it s₀ s₂ := by
  obtain ⟨h1, t1, rfl, k1⟩ := x
  obtain ⟨h2, t2, rfl, k2⟩ := y
  exact ⟨h2, t2, rfl, fun b o a b' e => k2 b o a b' (k1 b o a b' e)⟩
theorem seg_ind {M : Model} {A : Around} {R : GenEnd} {Y : Protocol} {c : Code} {t : Sem Fin} {fs : List Frame} {α : Type} (P : Nat → α → Shared → Shared → Prop)
    (step : ∀ n, (∀ k, k < n → ∀ x s₀ s, P k x s₀ s → Seg M A R Y k s₀ c t fs s) → ∀ x s₀ s, P n x s₀ s → Seg M A R Y n s₀ c t fs s) {n : Nat} {s₀ s : Shared} (x : α) (h : P n x s₀ s) : Seg M A R Y n s₀ c t fs s := by
  induction n using Nat.strongRecOn generalizing x s₀ s with
  | ind n ih => exact step n (fun k hk x s₀ s h => ih k hk x h) x s₀ s h
noncomputable def LastIs (last : Option Int) (v : Value) : Prop := match last with | none => v = .none | some l => ∃ t, v = .int l t
theorem gen_up {h₀ h h' : Heap} {L C : Addr} {m mg : Str → Option Value} (FG : Fr h₀ L (below h C) m) (F : Fr (below h C) C h' mg) : Fr h₀ L h' m :=
  ⟨FG.ns.at' fun o e => F.keep _ _ e, fun b o e => F.keep b o (FG.keep b o e), FG.above⟩
@[reducible] noncomputable def gen_make_S (w : World) (mean : ExcName → Option Value) (mg mb : Str → Option Value) (dp un : Nat) (gd : Option (List Code)) (cn : Str) (cs : Scope) (ca : Addr) (ccd : Value) (cl : List (Str × Addr)) (outer : List Env) (A₀ : Around) (base h₀ : Heap) (L : Addr) (m : Str → Option Value) (s : Shared) (Q E : Value → Shared → Prop) (news : List (Addr × Obj)) (r : Addr) (vs : Array Value) (k : Nat) (ls : List Int) (en : Bool) (n : Nat) : Prop := ∀ {f : Nat → Int} (B : Below A₀ base outer h₀) (F : Fr h₀ L s.heap m) (X : (KX w.params).In h₀) (N : News h₀ L s.heap ((r, W.listOf vs k) :: news)) (hvs : IntsAre vs.toList ls) (hgp : GP ls f en n (.forS none 0)) (hlen : vs.size ≤ 1000) (hne : n ≠ 0 ∨ en = true) (T : Top topProg lawLoose mean mg mb h₀) (hk : cs.kind = .function) (hdp : dp + 40 < recursionLimit) (hun : un + 100 < cLine) (hret : ∀ (a C : Addr) (oC : Obj) (nm qn : Value) (gs : GenState) (h' : Heap) (tk' : Nat), Fr h₀ L h' m → News h₀ L h' ((a, genObj s.gens.size nm qn) :: (C, oC) :: (r, W.listOf vs k) :: news) → (∀ p ∈ (r, W.listOf vs k) :: news, p.1 < C) → @LT.lt Nat _ C a → @LT.lt Nat _ L C → gs.bare = true → GReady w (W.ktrTop dp un gd cn cs L ca ccd cl outer) h₀ L C C r oC oC (W.listOf vs k) f en n gs → Q (.ref a) { s with heap := h', gens := s.gens.push gs, toks := tk' }), wpAny (model Challenge.rw_st0007_01.prog w) (W.ktrTop dp un gd cn cs L ca ccd cl outer) (call (.ref 28) [.ref r]) Q E s
namespace gen_make_K
@[irreducible] noncomputable def pt : Cx := bad fun c => gen_make_S (c.w 0) (c.me 0) (c.m 0) (c.m 1) (c.n 0) (c.n 1) (c.gd 0) (c.st 0) (c.sc 0) (c.n 2) (c.v 0) (c.cl 0) (c.le 0) (c.ar 0) (c.h 0) (c.h 1) (c.n 3) (c.m 2) (c.sh 0) (c.qv 0) (c.qv 1) (c.lo 0) (c.n 4) (c.av 0) (c.n 5) (c.li 0) (c.b 0) (c.n 6)
@[irreducible] noncomputable def dp : Nat := pt.n 0
@[irreducible] noncomputable def un : Nat := pt.n 1
@[irreducible] noncomputable def gd : Option (List Code) := pt.gd 0
@[irreducible] noncomputable def cn : Str := pt.st 0
@[irreducible] noncomputable def cs : Scope := pt.sc 0
@[irreducible] noncomputable def ca : Addr := pt.n 2
@[irreducible] noncomputable def ccd : Value := pt.v 0
@[irreducible] noncomputable def cl : List (Str × Addr) := pt.cl 0
@[irreducible] noncomputable def outer : List Env := pt.le 0
@[irreducible] noncomputable def h₀ : Heap := pt.h 1
@[irreducible] noncomputable def L : Addr := pt.n 3
@[irreducible] noncomputable def m : Str → Option Value := pt.m 2
@[irreducible] noncomputable def s : Shared := pt.sh 0
@[irreducible] noncomputable def news : List (Addr × Obj) := pt.lo 0
@[irreducible] noncomputable def r : Addr := pt.n 4
@[irreducible] noncomputable def vs : Array Value := pt.av 0
@[irreducible] noncomputable def k : Nat := pt.n 5
@[irreducible] noncomputable def ls : List Int := pt.li 0
@[irreducible] noncomputable def en : Bool := pt.b 0
@[irreducible] noncomputable def n : Nat := pt.n 6
theorem main : gen_make_S (pt.w 0) (pt.me 0) (pt.m 0) (pt.m 1) dp un gd cn cs ca ccd cl outer (pt.ar 0) (pt.h 0) h₀ L m s (pt.qv 0) (pt.qv 1) news r vs k ls en n := by
  intro f B F X N hvs hgp hlen hne T hk hdp hun hret
  revert X; k_fill; intro X
  have X1 := X.keeps F.keep
  have hlim := T.nolimit
  refine wpAny_call ?_
  refine codeAny_call_generator (by show dp < recursionLimit; omega) (X1 28 _ rfl) rfl rfl rfl rfl (codeRec_of X1 (by k_is)) ?_
  refine BindsTo.of_eq (s := s) (binds := [(Str.ofString "grouping", .ref r)]) rfl _ _ _ _ (wpAny_newFunctionEnv (by decide) (locs rfl) (fun h1 hns hs1 => ?_))
  have hsz := hs1.1
  rw [Heap.size_push] at hsz
  have hb1 : ∀ b o, s.heap.get? b = some o → h1.get? b = some o := fun b o e => hs1.extBut b o (Nat.ne_of_lt (Heap.lt_size e)) (Heap.get?_push_of_some _ e)
  have F1 : Fr h₀ L h1 m := ⟨F.ns.at' fun o e => hb1 _ _ e, fun b o e => hb1 _ _ (F.keep b o e), F.above⟩
  have lL : @LT.lt Nat _ L s.heap.objs.size := F.ns.lt
  refine ⟨Heap.NoLimit.keeps hlim F1.keep, ?_⟩
  dsimp only
  obtain ⟨oC, es, ep, hoC, hnsr⟩ := hns
  have nC : h₀.get? s.heap.objs.size = none := by
    cases q : h₀.get? s.heap.objs.size with
    | none => rfl
    | some o => exact absurd (Nat.lt_of_lt_of_le (Heap.lt_size q) F.above) (Nat.not_lt.mpr (Nat.le_of_lt lL))
  have N1 : News h₀ L h1 ((s.heap.objs.size, oC) :: (r, W.listOf vs k) :: news) := fun p hp => by
    refine mem_cs hp ?_ fun hp => ?_
    · exact ⟨hoC, (Nat.ne_of_lt lL).symm, nC⟩
    · exact ⟨hb1 _ _ (N p hp).1, (N p hp).2⟩
  refine hret _ s.heap.objs.size oC _ _ _ _ _ (F1.push _) (N1.push F1 _ rfl) (fun p hp => Heap.lt_size (N p hp).1) (by rw [hsz]; exact Nat.lt_succ_self _) lL rfl ?_
  rintro s1 ⟨m1, Fa⟩ hC - hr
  have ltr : @LT.lt Nat _ r s.heap.objs.size := Heap.lt_size (N _ (.head _)).1
  have hnsC : s1.heap.Ns s.heap.objs.size (fun x => [(Str.ofString "grouping", Value.ref r)].reverse.lookup x) := ⟨oC, es, ep, hC, hnsr⟩
  generalize s.heap.objs.size = C at *
  refine ⟨rfl, seg_func ?_⟩
  obtain ⟨FG, BG, FC, NC⟩ := ground_gen (A := W.ktrTop dp un gd cn cs L ca ccd cl outer) (env := envX cn cs L ca ccd cl) (it := C) B Fa rfl rfl hk lL hnsC
  clear F1 F N N1 X1 hb1 hsz hs1
  have XG := X.keeps FG.keep
  have TG := T.keeps FG.keep
  refine seg_execs_cons (seg_plain ?_)
  show wpAny _ ((W.ktrTop dp (un + 1) _ cn cs L ca ccd cl outer).deeper _) _ _ _ _
  k_steps
  refine seg_execs_cons (seg_For (by intro _; rfl) ?_)
  show wpAny _ ((W.ktrTop dp (un + 1) _ cn cs L ca ccd cl outer).deeper _) _ _ _ _
  k_steps
  rename Heap => h2
  rename Fr _ _ _ _ => F2
  rename News _ _ _ _ => N2
  have hr2 := F2.keep _ _ (below_get.mpr ⟨ltr, hr⟩)
  refine wpAny_pyIter_list ⟨_, hr2, rfl, _, rfl⟩ ?_
  intro p
  have F3 := F2.push { cls := .type "list_iterator", data := .fields #[.ref r, .int 0 0] }
  have N3 := N2.push F2 { cls := .type "list_iterator", data := .fields #[.ref r, .int 0 0] } rfl
  have lC2 : @LT.lt Nat _ C h2.objs.size := F2.ns.lt
  have k2 := gen_keeps F2 N2
  have fresh : s1.heap.get? h2.objs.size = none := by
    cases q : s1.heap.get? h2.objs.size with
    | none => rfl
    | some o => exact absurd (Heap.lt_size (k2 _ _ (Nat.ne_of_lt lC2).symm (Nat.ne_of_lt lC2).symm q)) (Nat.lt_irrefl _)
  dsimp only
  have hit3 : (h2.push { cls := .type "list_iterator", data := .fields #[.ref r, .int 0 0] }).IsListIter h2.objs.size r 0 := ⟨_, Heap.get?_push_size _ rfl, rfl, rfl⟩
  generalize h2.objs.size = it at *
  have hr3 := F3.keep _ _ (below_get.mpr ⟨ltr, hr⟩)
  refine seg_ind (fun n (x : Option Int × Nat × (Str → Option Value)) s₀ s => (n ≠ 0 ∨ en = true) ∧ GP ls f en n (.forS x.1 x.2.1) ∧ EffG C it s₀ s ∧ (∃ m', Fr h₀ L s.heap m') ∧ s.heap.Ns C x.2.2 ∧ (∃ v, x.2.2 (Str.ofString "last_interval") = some v ∧ LastIs x.1 v) ∧ s.heap.IsListIter it r x.2.1 ∧ s.heap.get? r = some (W.listOf vs k) ∧
    (∀ o, s₀.heap.get? it = some o → o.cls = .type "list_iterator")) ?step (none, 0, _) ⟨hne, hgp, ⟨_, _, rfl, fun b o b1 _ e => Heap.get?_push_of_some _ (k2 b o b1 b1 e)⟩, ⟨_, gen_up FG F3⟩, F3.ns, ⟨_, rfl, rfl⟩, hit3, hr3, fun o e => by rw [fresh] at e; cases e⟩
  try clear hit3
  try clear hr3
  try clear k2
  try clear fresh
  try clear hgp
  try clear hne
  try clear F3
  try clear N3
  try clear hr2
  try clear F2
  try clear N2
  try clear hr
  try clear BG
  try clear XG
  try clear TG
  try clear FC
  try clear NC
  try clear FG
  try clear hnsC
  try clear hC
  try clear hnsr
  try clear hoC
  rintro n ih ⟨last, i, mx⟩ s₀ s3 ⟨hne, hgp, hE, ⟨m2, Fa⟩, hns, ⟨lv, hl, hlast⟩, hit, hr, hcl⟩
  dsimp only at hgp hns hl hlast hit
  obtain ⟨FG, BG, FC, NC⟩ := ground_gen (A := W.ktrTop dp un gd cn cs L ca ccd cl outer) (env := envX cn cs L ca ccd cl) (it := it) B Fa rfl rfl hk lL hns
  refine seg_forLoop (by intro _; rfl) ?_
  cases hx : vs[i]? with
  | none =>
    refine wpAny_pyNext_list_end rfl hit ⟨_, hr, rfl, _, rfl⟩ hx (fun h' hx' => ?_)
    refine seg_again rfl ?_
    refine seg_leaf (.ok .next) ?_
    have hls : ls[i]? = none := by
      have h1 := IntsAre.length hvs
      rw [Array.getElem?_eq_none_iff] at hx
      rw [Array.length_toList] at h1
      exact List.getElem?_eq_none (by omega)
    refine seg_end (.ok (.ret .none)) ⟨rfl, ?_⟩
    have hn0 : n = 0 := by
      cases hgp with
      | stop _ => rfl
      | step hg _ => simp [gnext, hls] at hg
    subst hn0
    refine ⟨rfl, hne.resolve_left (fun h => h rfl), it, hE.trans ⟨_, _, rfl, fun b o b1 b2 e => hx' b o b2 e⟩, lC2, hcl⟩
  | some xv =>
    obtain ⟨v, tv, rfl, hls⟩ := IntsAre.at hvs i xv (by rw [Array.getElem?_toList]; exact hx)
    refine wpAny_pyNext_list_item hit ⟨_, hr, rfl, _, rfl⟩ hx (fun h4 hit4 hs4 => ?_)
    have F4 := FC.change hs4 (Nat.ne_of_gt lC2) (below_none (Nat.le_of_lt lC2))
    have N4 : News (below s3.heap C) C h4 (restOf s3.heap C it) := fun p hp => by
      obtain ⟨⟨c1, c2⟩, e⟩ := mem_restOf.mp hp
      exact ⟨(hs4.2 _ c2).trans (NC p hp).1, (NC p hp).2⟩
    obtain ⟨oi4, hoi4, hoc4, hod4⟩ := hit4
    have N5 : News (below s3.heap C) C h4 ((it, oi4) :: restOf s3.heap C it) := fun p hp => by
      refine mem_cs hp ?_ fun hp => ?_
      · exact ⟨hoi4, Nat.ne_of_gt lC2, below_none (Nat.le_of_lt lC2)⟩
      · exact N4 p hp
    have XG := X.keeps FG.keep
    have TG := T.keeps FG.keep
    have hr4 := hr
    clear FC NC N4
    rw [known_eq hl] at F4
    show wpAny _ ((W.ktrTop dp (un + 1) _ cn cs L ca ccd cl outer).deeper _) _ _ _ _
    k_steps
    refine seg_execs_cons (seg_plain ?_)
    show wpAny _ ((W.ktrTop dp (un + 1) _ cn cs L ca ccd cl outer).deeper _) _ _ _ _
    k_steps
    case refine_1 =>
      rename Fr _ _ _ _ => F6
      rename News _ _ _ _ => N6
      have hv : v = 127 := by assumption
      subst hv
      have hn0 : n = 0 := by
        cases hgp with
        | stop _ => rfl
        | step hg _ => simp [gnext, hls] at hg
      subst hn0
      refine seg_leaf (.ok (.ret .none)) (seg_end (.ok (.ret .none)) ⟨rfl, rfl, hne.resolve_left (fun h => h rfl), it, hE.trans ⟨_, _, rfl, gen_keeps F6 (fun p hp => N6 p (.tail _ hp))⟩, lC2, hcl⟩)
    refine seg_execs_cons (seg_If ?_)
    show wpAny _ ((W.ktrTop dp (un + 1) _ cn cs L ca ccd cl outer).deeper _) _ _ _ _
    k_steps
    by_cases hv0 : v = 0
    · subst hv0
      rw [if_pos (by rfl)]
      obtain ⟨l, rfl⟩ : ∃ l, last = some l := by
        cases last with
        | some l => exact ⟨l, rfl⟩
        | none =>
          cases hgp with
          | stop h => exact absurd hls ((h (hne.resolve_left (fun h => h rfl))).2)
          | step hg _ => simp [gnext, hls] at hg
      obtain ⟨tl, rfl⟩ := hlast
      have hgw : n ≠ 0 ∧ GP ls f en n (.whileS l) := by
        cases hgp with
        | stop h =>
          have z := (h (hne.resolve_left (fun h => h rfl))).1
          simp [gnext, hls] at z
        | step hg h2 =>
          simp [gnext, hls] at hg
          obtain ⟨g1, rfl⟩ := hg
          exact ⟨Nat.succ_ne_zero _, .step (by rw [gnext, g1]) h2⟩
      refine seg_execs_cons (seg_plain ?_)
      show wpAny _ ((W.ktrTop dp (un + 1) _ cn cs L ca ccd cl outer).deeper _) _ _ _ _
      k_steps
      refine seg_execs_cons (seg_While fun p2 => ?_)
      rename Fr _ _ _ _ => F6
      rename News _ _ _ _ => N6
      have hr6 := F6.keep _ _ (below_get.mpr ⟨ltr, hr⟩)
      refine seg_ind (fun n (mx : Str → Option Value) s₀ s => n ≠ 0 ∧ GP ls f en n (.whileS l) ∧ EffG C it s₀ s ∧ (∃ m', Fr h₀ L s.heap m') ∧ s.heap.Ns C mx ∧ (∃ t, mx (Str.ofString "last_interval") = some (.int l t)) ∧ s.heap.get? it = some oi4 ∧ s.heap.get? r = some (W.listOf vs k) ∧
        (∀ o, s₀.heap.get? it = some o → o.cls = .type "list_iterator")) ?wstep _ ⟨hgw.1, hgw.2, hE.trans ⟨_, _, rfl, gen_keeps F6 (fun p hp => N6 p (.tail _ hp))⟩, ⟨_, gen_up FG F6⟩, F6.ns, ⟨_, rfl⟩, (N6 _ (.head _)).1, hr6, hcl⟩
      clear ih hgw F6 N6 hr6 hE hcl hl hit hr hr4 hoi4 hod4 hx hs4 FG BG XG TG
      rintro n ih mx s₀ s6 ⟨hn, hgp, hE, ⟨m3, Fa⟩, hns, ⟨tl, hl⟩, hoi, hr, hcl⟩
      obtain ⟨FG, BG, FC, NC⟩ := ground_gen (A := W.ktrTop dp un gd cn cs L ca ccd cl outer) (env := envX cn cs L ca ccd cl) (it := it) B Fa rfl rfl hk lL hns
      have NC2 : News (below s6.heap C) C s6.heap ((it, oi4) :: restOf s6.heap C it) := fun p hp => by
        refine mem_cs hp ?_ fun hp => ?_
        · exact ⟨hoi, Nat.ne_of_gt lC2, below_none (Nat.le_of_lt lC2)⟩
        · exact NC p hp
      have XG := X.keeps FG.keep
      have TG := T.keeps FG.keep
      clear NC
      rw [known_eq hl] at FC
      refine seg_whileLoop ?_
      show wpAny _ ((W.ktrTop dp (un + 1) _ cn cs L ca ccd cl outer).deeper _) _ _ _ _
      k_steps
      refine seg_execs_cons ?_
      match n, hn, hgp with
      | n + 1, _, hgp =>
      refine seg_Expr_Yield rfl rfl rfl ?_
      show wpAny _ ((W.ktrTop dp (un + 1) _ cn cs L ca ccd cl outer).deeper _) _ _ _ _
      k_steps
      rename_i kap hkap
      have hg2 : f n = l ∧ GP ls f en n (.whileS l) := by
        cases hgp with
        | step hg h2 =>
          simp [gnext] at hg
          obtain ⟨g1, rfl⟩ := hg
          exact ⟨g1.symm, h2⟩
      obtain ⟨oC6, es6, ep6, hoC6, hnsr6⟩ := hns
      refine ⟨⟨tl, by rw [hg2.1]⟩, it, oC6, oi4, hE, lC2, hcl, hoC6, hoi, hoc4, fun hne' s7 hF7 hC7 hit7 hr7 => hkap .none s7 ?_⟩
      have hn7 : n ≠ 0 := by
        rintro rfl
        cases hg2.2 with
        | stop h => exact absurd (h (hne'.resolve_left (fun h => h rfl))).1 (by simp [gnext])
      exact seg_again rfl (ih n (Nat.lt_succ_self n) mx s7 s7 ⟨hn7, hg2.2, EffG.refl _, hF7, ⟨oC6, es6, ep6, hC7, hnsr6⟩, ⟨tl, hl⟩, hit7, hr7, fun o e => by rw [hit7] at e; cases e; exact hoc4⟩)
    · rw [if_neg (by simp [hv0])]
      refine seg_execs_nil ?_
      refine seg_execs_cons ?_
      rename Fr _ _ _ _ => F6
      rename News _ _ _ _ => N6
      have hn0 : n ≠ 0 ∧ v ≠ 127 := by
        refine ⟨?_, by assumption⟩
        rintro rfl
        have hv : v ≠ 127 := by assumption
        cases hgp with
        | stop h => 
          have z := (h (hne.resolve_left (fun h => h rfl))).1
          simp [gnext, hls, hv, hv0] at z
      match n, hn0, hgp with
      | n + 1, hn0, hgp =>
      have hg2 : f n = v ∧ GP ls f en n (.forS (some v) (i + 1)) := by
        cases hgp with
        | step hg h2 =>
          simp [gnext, hls, hn0.2, hv0] at hg
          obtain ⟨g1, rfl⟩ := hg
          exact ⟨g1.symm, h2⟩
      have k6 := gen_keeps F6 (fun p hp => N6 p (.tail _ hp))
      have hns6 := F6.ns
      have hoi6 := (N6 _ (.head _)).1
      refine seg_Expr_Yield rfl rfl rfl ?_
      show wpAny _ ((W.ktrTop dp (un + 1) _ cn cs L ca ccd cl outer).deeper _) _ _ _ _
      k_steps
      rename_i kap hkap
      obtain ⟨oC6, es6, ep6, hoC6, hnsr6⟩ := hns6
      refine ⟨⟨_, by rw [hg2.1]⟩, it, oC6, oi4, hE.trans ⟨_, _, rfl, k6⟩, lC2, hcl, hoC6, hoi6, hoc4, fun hne' s7 hF7 hC7 hit7 hr7 => hkap .none s7 ?_⟩
      clear FG BG XG TG
      obtain ⟨m7, Fa7⟩ := hF7
      have hns7 : s7.heap.Ns C _ := ⟨oC6, es6, ep6, hC7, hnsr6⟩
      obtain ⟨FG, BG, FC, NC⟩ := ground_gen (A := W.ktrTop dp un gd cn cs L ca ccd cl outer) (env := envX cn cs L ca ccd cl) (it := it) B Fa7 rfl rfl hk lL hns7
      have NC2 : News (below s7.heap C) C s7.heap ((it, oi4) :: restOf s7.heap C it) := fun p hp => by
        refine mem_cs hp ?_ fun hp => ?_
        · exact ⟨hit7, Nat.ne_of_gt lC2, below_none (Nat.le_of_lt lC2)⟩
        · exact NC p hp
      have XG := X.keeps FG.keep
      have TG := T.keeps FG.keep
      clear NC
      refine seg_execs_cons (seg_plain ?_)
      show wpAny _ ((W.ktrTop dp (un + 1) _ cn cs L ca ccd cl outer).deeper _) _ _ _ _
      k_steps
      rename Fr _ _ _ _ => F8
      rename News _ _ _ _ => N8
      refine seg_again rfl (ih n (Nat.lt_succ_self n) (some v, i + 1, _) s7 _ ⟨hne', hg2.2, ⟨_, _, rfl, gen_keeps F8 (fun p hp => N8 p (.tail _ hp))⟩, ⟨_, gen_up FG F8⟩, F8.ns, ⟨_, rfl, ⟨_, rfl⟩⟩, ⟨oi4, (N8 _ (.head _)).1, hoc4, hod4⟩, F8.keep _ _ (below_get.mpr ⟨ltr, hr7⟩), fun o e => by rw [hit7] at e; cases e; exact hoc4⟩)
end gen_make_K
theorem gen_make {w : World} {mean : ExcName → Option Value} {mg mb : Str → Option Value} {dp un : Nat} {gd : Option (List Code)} {cn : Str} {cs : Scope} {ca : Addr} {ccd : Value} {cl : List (Str × Addr)} {outer : List Env} {A₀ : Around} {base h₀ : Heap} {L : Addr} {m : Str → Option Value} {s : Shared} {Q E : Value → Shared → Prop} {news : List (Addr × Obj)} {r : Addr} {vs : Array Value} {k : Nat} {ls : List Int} {en : Bool} {n : Nat} : gen_make_S w mean mg mb dp un gd cn cs ca ccd cl outer A₀ base h₀ L m s Q E news r vs k ls en n := @by_bad (fun c => gen_make_S (c.w 0) (c.me 0) (c.m 0) (c.m 1) (c.n 0) (c.n 1) (c.gd 0) (c.st 0) (c.sc 0) (c.n 2) (c.v 0) (c.cl 0) (c.le 0) (c.ar 0) (c.h 0) (c.h 1) (c.n 3) (c.m 2) (c.sh 0) (c.qv 0) (c.qv 1) (c.lo 0) (c.n 4) (c.av 0) (c.n 5) (c.li 0) (c.b 0) (c.n 6)) (by with_unfolding_all exact gen_make_K.main) { cx0 with n := fromL (0) [dp, un, ca, L, r, k, n], st := fromL (Str.empty) [cn], lo := fromL ([]) [news], v := fromL (.none) [ccd], m := fromL (fun _ => none) [mg, mb, m], sh := fromL ({}) [s], h := fromL ({}) [base, h₀], ar := fromL (aroundZ) [A₀], w := fromL (worldZ) [w], me := fromL (fun _ => none) [mean], qv := fromL (fun _ _ => True) [Q, E], sc := fromL (default) [cs], gd := fromL (none) [gd], cl := fromL ([]) [cl], le := fromL ([]) [outer], li := fromL ([]) [ls], b := fromL (false) [en], av := fromL (#[]) [vs] }
end
section
section
variable {prog : Program} {w : World} {A : Around} {E : Value → Shared → Prop} {s : Shared}
theorem pyNext_genB {a : Addr} {g n : Nat} {gs : GenState} {P : Nat → Shared → Shared → Prop} {Y : Protocol} {Q : Option Value → Shared → Prop} (hh : A.handled = none)
    (hl : s.heap.NoLimit) (hroom : A.depth < recursionLimit)
    (hg : s.heap.IsGen a g) (hgs : s.gens[g]? = some gs)
    (hgo : gs.Goes (model prog w) A.in1 (fun n s₀ r s₁ => r = .ok (.ret .none) ∧ P n s₀ s₁) Y n (.send .none) (s.setGen g .running))
    (hY : ∀ v s₁ gs', gs'.bare = true → Y (n - 1) (s.setGen g .running) v s₁ (fun r' s'' => match n with
        | 0 => False
        | m + 1 => gs'.Goes (model prog w) A.in1 (fun n s₀ r s₁ => r = .ok (.ret .none) ∧ P n s₀ s₁) Y m r' s'') → Q (some v) (s₁.setGen g gs'))
    (hP : ∀ s₁, P n (s.setGen g .running) s₁ → ∀ h', (∀ b o, s₁.heap.get? b = some o → h'.get? b = some o) → Q none { s₁.setGen g .finished with heap := h' }) :
    wpAny (model prog w) A (pyNext (.ref a)) Q E s := by
  unfold pyNext
  refine wpAny_bind (wpAny_attempt (wpAny_callSpecial?_slot (name := Str.ofString "__next__") hg.typeIs slot_gen_next
    (wpAny_call_entry slot_gen_next hg.typeIs entry_gen_next ?_ (args_gen_next _))))
  show wpAny _ _ (Builtin.Generator.genWake (.ref a) (.send .none)) _ _ s
  unfold Builtin.Generator.genWake
  refine wpAny_bind (wpAny_holding (wpAny_genNumber hg (wpAny_bind (wpAny_genState hgs ?_))))
  cases gs with
  | running => exact hgo.elim
  | finished => exact hgo.elim
  | _ =>
    refine wpAny_bind (wpAny_roomToWake hl hroom ?_)
    show wpAny _ _ (.resume g (.send .none) [] _) _ _ s
    refine wpAny_resumeQ hgs hgo (fun x s₁ hx => ?_) (fun v s₁ gs' hb hv => ?_)
    · obtain ⟨rfl, hp⟩ := hx
      show wpAny _ _ (newExc (.type "StopIteration") [] >>= _) _ _ _
      refine wpAny_bind ?_
      simp only [newExc, newTuple]
      refine wpAny_bind (wpAny_newObj_type ?_ (by size_fits))
      refine wpAny_bind (m := firstArgMember _ _) (wpAny_of_eq (a := Value.none) (by first | rfl | (simp only [firstArgMember]; rfl)) ?_)
      refine wpAny_newObj_type ?_ (by size_fits)
      simp only [raiseNew]
      refine wpAny_bind (wpAny_bind (wpAny_handled ?_))
      rw [show A.in1.handled = none from hh]
      refine wpAny_throw ?_
      refine wpAny_bind (wpAny_isInstance (T := "StopIteration") (b := true) ⟨_, Heap.get?_push_size _ rfl, rfl⟩ isSubtype_stop ?_)
      exact wpAny_pure (hP s₁ hp _ fun b o hb => Heap.get?_push_of_some _ (Heap.get?_push_of_some _ hb))
    · exact wpAny_pure ⟨v, rfl, wpAny_pure (hY v s₁ gs' hb hv)⟩
end
end
section
theorem bare_set {gl : Array GenState} {g : Nat} {x y : GenState} (h : PyProof.Rows.AllBare gl) (hy : y.bare = true) : PyProof.Rows.AllBare ((gl.setIfInBounds g x).setIfInBounds g y) := fun z hz => by
  obtain ⟨i, hi, rfl⟩ := Array.mem_iff_getElem.mp hz
  by_cases e : g = i
  · subst e; simp [hy]
  · rw [Array.getElem_setIfInBounds_ne _ e, Array.getElem_setIfInBounds_ne _ e]
    · exact h _ (Array.getElem_mem _)
    · simpa using hi
    · simpa using hi
theorem get_set {gl : Array GenState} {g : Nat} {x y z : GenState} (h : gl[g]? = some z) : ((gl.setIfInBounds g x).setIfInBounds g y)[g]? = some y := by
  have hlt : g < gl.size := by
    rcases Nat.lt_or_ge g gl.size with h' | h'
    · exact h'
    · rw [Array.getElem?_eq_none h'] at h; cases h
  simp [hlt]
theorem gen_next {w : World} {mean : ExcName → Option Value} {mg mb : Str → Option Value}
    {dp un : Nat} {gd : Option (List Code)} {cn : Str} {cs : Scope} {ca : Addr} {ccd : Value} {cl : List (Str × Addr)} {outer : List Env} {h₀ : Heap} {L : Addr} {m : Str → Option Value} {s : Shared} {E : Value → Shared → Prop} {Q : Option Value → Shared → Prop} {news : List (Addr × Obj)}
    {a C r sz it : Addr} {g n k : Nat} {nm qn : Value} {oC oit so : Obj} {vs : Array Value} {f : Nat → Int} {en : Bool} {gs : GenState}
    (F : Fr h₀ L s.heap m) (T : Top topProg lawLoose mean mg mb h₀) (N : News h₀ L s.heap ((a, genObj g nm qn) :: (C, oC) :: (r, W.listOf vs k) :: (sz, so) :: news)) (hit : s.heap.get? it = some oit) (hdp : dp + 10 < recursionLimit)
    (hLC : @LT.lt Nat _ L C) (hCa : @LT.lt Nat _ C a) (hrC : @LT.lt Nat _ r C) (hCs : @LT.lt Nat _ C sz) (has : @Ne Nat a sz) (hnC : ∀ p ∈ news, p.1 < C) (hso : so.cls = .type "list")
    (hne0 : n ≠ 0 ∨ en = true) (hgs : s.gens[g]? = some gs) (ready : GReady w (W.ktrTop dp un gd cn cs L ca ccd cl outer) h₀ L C it r oC oit (W.listOf vs k) f en n gs)
    (h1 : ∀ n', n = n' + 1 → ∀ (t : Tok) (it' : Addr) (oC' oit' : Obj) (gs' : GenState) (gl : Array GenState) (h' : Heap) (tk' : Nat), gl[g]? = some gs' → (PyProof.Rows.AllBare s.gens → PyProof.Rows.AllBare gl) → Fr h₀ L h' m → News h₀ L h' ((it', oit') :: (a, genObj g nm qn) :: (C, oC') :: (r, W.listOf vs k) :: (sz, so) :: news) →
      @LT.lt Nat _ C it' → @Ne Nat it' a → @Ne Nat it' sz → ((n' ≠ 0 ∨ en = true) → GReady w (W.ktrTop dp un gd cn cs L ca ccd cl outer) h₀ L C it' r oC' oit' (W.listOf vs k) f en n' gs') → Q (some (.int (f n') t)) { s with heap := h', gens := gl, toks := tk' })
    (h2 : n = 0 → ∀ (gl : Array GenState) (h' : Heap) (tk' : Nat), (PyProof.Rows.AllBare s.gens → PyProof.Rows.AllBare gl) → Fr h₀ L h' m → News h₀ L h' ((sz, so) :: (r, W.listOf vs k) :: news) → Q none { s with heap := h', gens := gl, toks := tk' }) :
    wpAny (model Challenge.rw_st0007_01.prog w) (W.ktrTop dp un gd cn cs L ca ccd cl outer) (pyNext (.ref a)) Q E s := by
  have ha := (N (a, _) (.head _)).1
  have hC := (N (C, _) (.tail _ (.head _))).1
  have hr := (N (r, _) (.tail _ (.tail _ (.head _)))).1
  have hs := (N (sz, so) (.tail _ (.tail _ (.tail _ (.head _))))).1
  dsimp only at ha hC hr hs
  have keep : ∀ (it' : Addr) (h' : Heap), @LT.lt Nat _ C it' → (∀ o, s.heap.get? it' = some o → o.cls = .type "list_iterator") → (∀ b o, @Ne Nat b C → @Ne Nat b it' → s.heap.get? b = some o → h'.get? b = some o) →
      @Ne Nat it' a ∧ @Ne Nat it' sz ∧ Fr h₀ L h' m ∧ News h₀ L h' ((a, genObj g nm qn) :: (r, W.listOf vs k) :: (sz, so) :: news) := by
    intro it' h' l1 hc kp
    have n1 : @Ne Nat it' a := fun e => by have z := hc (genObj g nm qn) (by rw [e]; exact ha); exact absurd (Value.type.inj z) (by decide)
    have n2 : @Ne Nat it' sz := fun e => by have z := hc so (by rw [e]; exact hs); rw [hso] at z; exact absurd (Value.type.inj z) (by decide)
    have hi0 : ∀ b, @LE.le Nat _ h₀.objs.size b → h₀.get? b = none := fun b hb => by
      cases q : h₀.get? b with
      | none => rfl
      | some o => exact absurd (Heap.lt_size q) (Nat.not_lt.mpr hb)
    refine ⟨n1, n2, ⟨F.ns.at' fun o e => kp L o (Nat.ne_of_lt hLC) (Nat.ne_of_lt (Nat.lt_trans hLC l1)) e, fun b o e => kp b o ?_ ?_ (F.keep b o e), F.above⟩, ?_⟩
    · exact Nat.ne_of_lt (Nat.lt_trans (Nat.lt_of_lt_of_le (Heap.lt_size e) F.above) hLC)
    · exact Nat.ne_of_lt (Nat.lt_trans (Nat.lt_trans (Nat.lt_of_lt_of_le (Heap.lt_size e) F.above) hLC) l1)
    · refine all_cons ?_ (all_cons ?_ (all_cons ?_ fun p hp => ?_))
      · exact ⟨kp _ _ (Nat.ne_of_gt hCa) n1.symm ha, (N (a, _) (.head _)).2⟩
      · exact ⟨kp _ _ (Nat.ne_of_lt hrC) (Nat.ne_of_lt (Nat.lt_trans hrC l1)) hr, (N (r, _) (.tail _ (.tail _ (.head _)))).2⟩
      · exact ⟨kp _ _ (Nat.ne_of_gt hCs) n2.symm hs, (N (sz, so) (.tail _ (.tail _ (.tail _ (.head _))))).2⟩
      · have z := N p (.tail _ (.tail _ (.tail _ (.tail _ hp))))
        exact ⟨kp _ _ (Nat.ne_of_lt (hnC p hp)) (Nat.ne_of_lt (Nat.lt_trans (hnC p hp) l1)) z.1, z.2⟩
  refine pyNext_genB (g := g) (n := n) (gs := gs) (P := GR C en) (Y := GY h₀ L C r (W.listOf vs k) f en) rfl (Heap.NoLimit.keeps T.nolimit F.keep) (by show dp < _; omega) ⟨_, _, _, ha, rfl, rfl, rfl⟩ hgs (ready _ ⟨m, F⟩ hC hit hr) ?_ ?_
  · intro v s₁ gs' hb hy
    obtain ⟨⟨t, rfl⟩, it', oC', oit', ⟨h', tk', rfl, kp⟩, l1, hc, hC', hit', hcl', hk⟩ := hy
    obtain ⟨n1, n2, F', N'⟩ := keep it' h' l1 hc kp
    cases n with
    | zero =>
      exact (hk (.inr (hne0.resolve_left (fun h => h rfl))) { s with heap := h', toks := tk' } ⟨m, F'⟩ hC' hit' (N' _ (.tail _ (.head _))).1).elim
    | succ n' =>
      refine h1 n' rfl t it' oC' oit' gs' _ h' tk' (get_set hgs) (fun z => bare_set z hb) F' ?_ l1 n1 n2 (fun hne s'' a1 a2 a3 a4 => hk hne s'' a1 a2 a3 a4)
      have z := (N (C, oC) (.tail _ (.head _))).2
      refine all_cons ?_ (all_cons ?_ (all_cons ?_ (all_cons ?_ (all_cons ?_ fun p hp => ?_))))
      · exact ⟨hit', Nat.ne_of_gt (Nat.lt_trans hLC l1), by
          cases q : h₀.get? it' with
          | none => rfl
          | some o => exact absurd (Nat.lt_of_lt_of_le (Heap.lt_size q) F.above) (Nat.not_lt.mpr (Nat.le_of_lt (Nat.lt_trans hLC l1)))⟩
      · exact N' _ (.head _)
      · exact ⟨hC', z⟩
      · exact N' _ (.tail _ (.head _))
      · exact N' _ (.tail _ (.tail _ (.head _)))
      · exact N' p (.tail _ (.tail _ (.tail _ hp)))
  · intro s₁ hp h' kp'
    obtain ⟨hn, -, it', ⟨h5, tk5, rfl, kp⟩, l1, hc⟩ := hp
    obtain ⟨n1, n2, F', N'⟩ := keep it' h' l1 hc (fun b o b1 b2 e => kp' b o (kp b o b1 b2 e))
    refine h2 hn _ h' tk5 (fun z => bare_set z rfl) F' ?_
    refine all_cons ?_ (all_cons ?_ fun p hp => ?_)
    · exact N' _ (.tail _ (.tail _ (.head _)))
    · exact N' _ (.tail _ (.head _))
    · exact N' p (.tail _ (.tail _ (.tail _ hp)))
end
section
local macro_rules | `(tactic| omega) => `(tactic| first | (with_reducible kas_types) | lia)
theorem len_news {prog : Program} {w : World} {A : Around} {E : Value → Shared → Prop} {s : Shared} {h₀ : Heap} {L D : Addr} {news : List (Addr × Obj)} {its : Array Value} {n : Nat} {Q : Value → Shared → Prop} (N : News h₀ L s.heap news) (hm : (D, W.listOf its n) ∈ news) (hz : its.size ≤ 1000)
    (h : Q (.int (its.size : Nat) (s.toks + 1)) { s with toks := s.toks + 1 + 1 }) : wpAny (model prog w) A (call (.builtin "len") [.ref D]) Q E s :=
  call_len_list ⟨_, (N _ hm).1, rfl, _, rfl⟩ (by omega) h
local macro_rules | `(tactic| walk_at "call builtin:len") => `(tactic| (k_here; k_dflt (refine' len_news ?k1 ?k2 ?k3 ?_; (case k1 => k_asm); (case k2 => k_mem); (case k3 => (simp only [Array.size_push]; omega)))))
@[reducible] noncomputable def sizes_w_S (w : World) (mean : ExcName → Option Value) (mg mb : Str → Option Value) (dp un : Nat) (gd : Option (List Code)) (cn : Str) (cs : Scope) (ca : Addr) (ccd : Value) (cl : List (Str × Addr)) (outer : List Env) (A₀ : Around) (base h₀ : Heap) (L : Addr) (m : Str → Option Value) (s : Shared) (Q E : Value → Shared → Prop) (news : List (Addr × Obj)) (r : Addr) (vs : Array Value) (k : Nat) (ls : List Int) (en : Bool) (n : Nat) : Prop := ∀ {f : Nat → Int} (B : Below A₀ base outer h₀) (F : Fr h₀ L s.heap m) (X : (KX w.params).In h₀) (N : News h₀ L s.heap ((r, W.listOf vs k) :: news)) (hvs : IntsAre vs.toList ls) (hgp : GP ls f en n (.forS none 0)) (hlen : vs.size ≤ 1000) (hn : n ≤ 9) (hen : n = 9 ∨ en = true) (T : Top topProg lawLoose mean mg mb h₀) (hk : cs.kind = .function) (hdp : dp + 60 < recursionLimit) (hun : un + 200 < cLine) (hret : ∀ (D : Addr) (its : Array Value) (cnt : Nat) (gl : Array GenState) (h' : Heap) (tk' : Nat), Fr h₀ L h' m → News h₀ L h' ((D, W.listOf its cnt) :: (r, W.listOf vs k) :: news) → (∀ p ∈ (r, W.listOf vs k) :: news, @LT.lt Nat _ p.1 D) → its.size = n → (∀ j, j < n → ∃ t, its[j]? = some (.int (f (n - 1 - j)) t)) → (PyProof.Rows.AllBare s.gens → PyProof.Rows.AllBare gl) → Q (.ref D) { s with heap := h', gens := gl, toks := tk' }), wpAny (model Challenge.rw_st0007_01.prog w) (W.ktrTop dp un gd cn cs L ca ccd cl outer) (call (.ref 117) [.ref r]) Q E s
namespace sizes_w_K
@[irreducible] noncomputable def pt : Cx := bad fun c => sizes_w_S (c.w 0) (c.me 0) (c.m 0) (c.m 1) (c.n 0) (c.n 1) (c.gd 0) (c.st 0) (c.sc 0) (c.n 2) (c.v 0) (c.cl 0) (c.le 0) (c.ar 0) (c.h 0) (c.h 1) (c.n 3) (c.m 2) (c.sh 0) (c.qv 0) (c.qv 1) (c.lo 0) (c.n 4) (c.av 0) (c.n 5) (c.li 0) (c.b 0) (c.n 6)
@[irreducible] noncomputable def w : World := pt.w 0
@[irreducible] noncomputable def h₀ : Heap := pt.h 1
@[irreducible] noncomputable def L : Addr := pt.n 3
@[irreducible] noncomputable def s : Shared := pt.sh 0
@[irreducible] noncomputable def news : List (Addr × Obj) := pt.lo 0
@[irreducible] noncomputable def r : Addr := pt.n 4
@[irreducible] noncomputable def vs : Array Value := pt.av 0
@[irreducible] noncomputable def k : Nat := pt.n 5
@[irreducible] noncomputable def en : Bool := pt.b 0
@[irreducible] noncomputable def n : Nat := pt.n 6
noncomputable def cut : { R : ((Heap) → (Nat) → (Heap) → Prop) // Hid ((∀ z0 z1 z2, R z0 z1 z2)) → sizes_w_S w (pt.me 0) (pt.m 0) (pt.m 1) (pt.n 0) (pt.n 1) (pt.gd 0) (pt.st 0) (pt.sc 0) (pt.n 2) (pt.v 0) (pt.cl 0) (pt.le 0) (pt.ar 0) (pt.h 0) h₀ L (pt.m 2) s (pt.qv 0) (pt.qv 1) news r vs k (pt.li 0) en n } := by
  refine' ⟨_, fun H1 => _⟩
  rotate_left 1
  · intro f B F X N hvs hgp hlen hn hen T hk hdp hun hret
    have hmk := MarkH.mk (n := 204)
    revert X; k_fill; intro X
    refine wpAny_call ?_
    k_dflt (refine' code_def ?k1 ?k2 ?k3 ?k4 ?k5 ?kA ?kF ?kK ?k6 ?k7 ?k8 ?k9 ?kB ?_ ?c2 ?c3 ?c4 ?c5; (case kA => exact rfl); (case kF => exact rfl); (case kK => assumption); (case k1 => k_asm); (case k2 => k_asm); (case k3 => k_asm); (case k4 => k_asm); (case k5 => k_asm); (case k6 => k_is); (case k7 => k_is); (case k8 => ktr_room); (case k9 => exact BindsTo.of_eq rfl); (case c5 => decide); (case kB => exact locs rfl); (case c2 => exact rfl); (case c3 => exact rfl); (case c4 => exact rfl); k_whole; intro g' L' h' FG' F' N' B' X' T'; (try dsimp only); (try k_lift B'); (try k_fold))
    revert f B F N hvs hgp hlen hn hen T hk hdp hun hret hmk X FG' F' N' B' X' T' qk ek
    exact no_implicit_lambda% (H1.h g' L' h')
@[irreducible] noncomputable def apt : Cx := bad fun c => cut.1 (c.h 0) (c.n 0) (c.h 1)
namespace a
@[irreducible] noncomputable def g' : Heap := apt.h 0
@[irreducible] noncomputable def L' : Nat := apt.n 0
theorem amain : cut.1 g' L' (apt.h 1) := by
  intro f B F N hvs hgp hlen hn hen T hk hdp hun hret hmk X FG' F' N' B' X' T' qk ek
  k_steps
  refine Hold.on ?_
  have hne0 : n ≠ 0 ∨ en = true := by
    rcases hen with h | h
    · exact .inl (by omega)
    · exact .inr h
  k_dflt (refine' gen_make (f := f) (en := en) (n := n) ?kcB ?kcF ?kcX ?kcN ?kq1 ?kq2 ?kq3 ?kq4 ?kcT ?kck ?kcd ?kcu ?_; (case kcB => assumption); (case kcF => assumption); (case kcX => assumption); (case kcN => assumption); (case kq1 => exact hvs); (case kq2 => exact hgp); (case kq3 => exact hlen); (case kq4 => exact hne0); (case kcT => assumption); (case kck => exact rfl); (case kcd => ktr_room); (case kcu => ktr_units))
  intro a C oC nm qn gs h5 tk5 F5 N5 hnC hCa hLC hbare hready
  have hrC : @LT.lt Nat _ r C := hnC _ (.head _)
  have hnC' : ∀ p ∈ news, p.1 < C := fun p hp => hnC p (.tail _ hp)
  clear F' N' hnC
  k_steps
  refine Hold.on ?_
  clear hmk
  rename Fr _ _ _ _ => F6
  rename News _ _ _ _ => N6
  obtain ⟨z1, z2, -⟩ := (by assumption : (@LT.lt Nat _ a _ ∧ @LT.lt Nat _ C _ ∧ @LT.lt Nat _ r _ ∧ W.AllLt _ news))
  refine For_by ?_
  k_steps
  rename Fr _ _ _ _ => F7
  rename News _ _ _ _ => N7
  refine wpAny_pyIter_gen ⟨_, _, _, (N7 _ (.tail _ (.head _))).1, rfl, rfl, rfl⟩ ?_
  refine inv_hide (fun j s' => ∃ h tk gl m' sz its cnt it oC' oit gs', s' = { s with heap := h, gens := gl, toks := tk } ∧ Fr g' L' h m' ∧ News g' L' h ((a, genObj s.gens.size nm qn) :: (C, oC') :: (r, W.listOf vs k) :: (sz, W.listOf its cnt) :: news) ∧ h.get? it = some oit ∧ gl[s.gens.size]? = some gs' ∧
    GReady w _ g' L' C it r oC' oit (W.listOf vs k) f en j gs' ∧ (PyProof.Rows.AllBare s.gens → PyProof.Rows.AllBare gl) ∧ (j ≠ 0 ∨ en = true) ∧ its.size + j = n ∧ (∀ i, i < its.size → ∃ t, its[i]? = some (.int (f (n - 1 - i)) t)) ∧ @LT.lt Nat _ C sz ∧ @Ne Nat a sz ∧
    m' (Str.ofString "sizes") = some (.ref sz)) n (xI11 _ _ _ _ _ #[] 0 C oC oC gs ⟨rfl, F7, fun p hp => N7 p ?_, (N7 _ (.tail _ (.tail _ (.head _)))).1, Array.getElem?_push_size, hready, fun z => z.push hbare, hne0, by simp, fun i hi => absurd hi (Nat.not_lt_zero i), z2, Nat.ne_of_lt z1, rfl⟩) fun J hJ => ?_
  · exact mem_mv (A := [_, _, _]).mp hp
  clear N7 F7 z1 z2 hready hbare
  intro j s' hs'
  refine wp_hide fun Q9 hQ9 => ?_
  refine exE11 hs' ?_
  try clear hs'
  rintro h tk gl m' sz its cnt it oC' oit gs' hJ0
  refine anE13 hJ0 ?_
  try clear hJ0
  rintro rfl F2 N2 hit hgl hready hb hj hsz hits hCs has ms
  have hap : ∀ p ∈ (r, W.listOf vs k) :: news, @LT.lt Nat _ p.1 sz := fun p hp => by
    refine mem_cs hp ?_ fun hp => ?_
    · exact Nat.lt_trans hrC hCs
    · exact Nat.lt_trans (hnC' p hp) hCs
  k_dflt (refine' gen_next F2 T' N2 hit ?kd hLC hCa hrC hCs has hnC' rfl hj hgl hready ?h1 ?h2; (case kd => ktr_room))
  case h2 =>
    rintro rfl gl2 h2 tk2 hb2 F3 N3
    rw [known_eq ms] at F3
    clear F2 N2
    refine hQ9 _ _ ?_
    clear hQ9
    dsimp only
    k_steps
    refine hret sz its cnt gl2 _ _ (by assumption) (by assumption) hap (by omega) (fun i hi => hits i (by omega)) (fun z => hb2 (hb z))
  case h1 =>
    rintro n' rfl t it' oC2 oit' gs2 gl2 h2 tk2 hgl2 hb2 F3 N3 l1 l2 l3 hready2
    rw [known_eq ms] at F3
    clear F2 N2
    refine hQ9 _ _ ?_
    clear hQ9
    dsimp only
    have hpush : ∀ i, i < its.size + 1 → ∃ t', (its.push (.int (f n') t))[i]? = some (.int (f (n - 1 - i)) t') := by
      intro i hi
      rcases Nat.lt_succ_iff_lt_or_eq.mp hi with hi | rfl
      · obtain ⟨t', e⟩ := hits i hi
        refine ⟨t', ?_⟩
        rw [Array.getElem?_push_lt hi, ← e, Array.getElem?_eq_getElem hi]
      · refine ⟨t, ?_⟩
        rw [Array.getElem?_push_size]
        have : n - 1 - its.size = n' := by omega
        rw [this]
    have hszl3 : its.size ≤ 100 := by omega
    have hszl : its.size ≤ sizeLine := by rw [sizeLine_eq]; omega
    k_steps
    · have h9 : ((its.push (.int (f n') t)).size : Int) = 9 := by assumption
      rw [Array.size_push] at h9
      rename News _ _ _ _ => N9
      have N10 : News h₀ L _ ((sz, W.listOf (its.push (.int (f n') t)) (cnt + 1)) :: (r, W.listOf vs k) :: news) := fun p hp => N9 p (.tail _ (.tail _ (.tail _ (mem_mv (A := [_]).mp hp))))
      refine hret sz _ _ gl2 _ _ (by assumption) N10 hap (by rw [Array.size_push]; omega) (fun i hi => hpush i (by omega)) (fun z => hb2 (hb z))
    · have h9 : ((its.push (.int (f n') t)).size : Int) ≠ 9 := by assumption
      rw [Array.size_push] at h9
      rename Fr _ _ _ _ => F9
      rename News _ _ _ _ => N9
      refine Exists.intro n' ⟨Nat.lt_succ_self _, ?_⟩
      have hne' : n' ≠ 0 ∨ en = true := by
        rcases hen with h | h
        · exact .inl (by omega)
        · exact .inr h
      exact hJ _ _ (xI11 _ _ gl2 _ sz _ _ it' oC2 oit' gs2 ⟨rfl, F9, fun p hp => N9 p (.tail _ hp), (N9 _ (.head _)).1, hgl2, hready2 hne', fun z => hb2 (hb z), hne', by rw [Array.size_push]; omega, fun i hi => hpush i (by rw [Array.size_push] at hi; exact hi), hCs, has, rfl⟩)
end a
theorem main : sizes_w_S w (pt.me 0) (pt.m 0) (pt.m 1) (pt.n 0) (pt.n 1) (pt.gd 0) (pt.st 0) (pt.sc 0) (pt.n 2) (pt.v 0) (pt.cl 0) (pt.le 0) (pt.ar 0) (pt.h 0) h₀ L (pt.m 2) s (pt.qv 0) (pt.qv 1) news r vs k (pt.li 0) en n := cut.2 ⟨fun g' L' h' => @by_bad (fun c => cut.1 (c.h 0) (c.n 0) (c.h 1)) (by with_unfolding_all exact a.amain) { cx0 with n := fromL (0) [L'], h := fromL ({}) [g', h'] }⟩
end sizes_w_K
theorem sizes_w {w : World} {mean : ExcName → Option Value} {mg mb : Str → Option Value} {dp un : Nat} {gd : Option (List Code)} {cn : Str} {cs : Scope} {ca : Addr} {ccd : Value} {cl : List (Str × Addr)} {outer : List Env} {A₀ : Around} {base h₀ : Heap} {L : Addr} {m : Str → Option Value} {s : Shared} {Q E : Value → Shared → Prop} {news : List (Addr × Obj)} {r : Addr} {vs : Array Value} {k : Nat} {ls : List Int} {en : Bool} {n : Nat} : sizes_w_S w mean mg mb dp un gd cn cs ca ccd cl outer A₀ base h₀ L m s Q E news r vs k ls en n := @by_bad (fun c => sizes_w_S (c.w 0) (c.me 0) (c.m 0) (c.m 1) (c.n 0) (c.n 1) (c.gd 0) (c.st 0) (c.sc 0) (c.n 2) (c.v 0) (c.cl 0) (c.le 0) (c.ar 0) (c.h 0) (c.h 1) (c.n 3) (c.m 2) (c.sh 0) (c.qv 0) (c.qv 1) (c.lo 0) (c.n 4) (c.av 0) (c.n 5) (c.li 0) (c.b 0) (c.n 6)) (by with_unfolding_all exact sizes_w_K.main) { cx0 with n := fromL (0) [dp, un, ca, L, r, k, n], st := fromL (Str.empty) [cn], lo := fromL ([]) [news], v := fromL (.none) [ccd], m := fromL (fun _ => none) [mg, mb, m], sh := fromL ({}) [s], h := fromL ({}) [base, h₀], ar := fromL (aroundZ) [A₀], w := fromL (worldZ) [w], me := fromL (fun _ => none) [mean], qv := fromL (fun _ _ => True) [Q, E], sc := fromL (default) [cs], gd := fromL (none) [gd], cl := fromL ([]) [cl], le := fromL ([]) [outer], li := fromL ([]) [ls], b := fromL (false) [en], av := fromL (#[]) [vs] }
end
section
noncomputable def sizeF (n : Nat) (fi lap : Int) : Nat → Int := fun j => if j + 1 = n then fi else lap
noncomputable def sizesL (n : Nat) (fi lap : Int) : List Int := ([fi] ++ List.replicate 8 lap).take n
noncomputable def numOf (kd fi st : Int) : Nat := (mostOf kd (lapOf kd fi st)).toNat
theorem whiles {ls : List Int} {f : Nat → Int} {l : Int} : ∀ n, (∀ j, j < n → f j = l) → GP ls f (decide (9 ≠ 9)) n (.whileS l)
  | 0, _ => .stop fun h => by simp at h
  | n + 1, h => .step (σ' := .whileS l) (by simp [gnext, h n (by omega)]) (whiles n fun j hj => h j (by omega))
theorem num_cases {kd fi st : Int} (hk0 : 0 ≤ kd) (hk5 : kd < 5) : numOf kd fi st = 1 ∨ numOf kd fi st = 4 ∨ numOf kd fi st = 6 ∨ numOf kd fi st = 9 := by
  unfold numOf mostOf
  have hcase := cases5 (k := kd) (by assumption) (by assumption)
  split
  · exact .inl rfl
  · rcases hcase with rfl | rfl | rfl | rfl | rfl <;> simp
theorem sizes_list {n : Nat} {fi lap : Int} {its : Array Value} (hn : n ≤ 9) (hz : its.size = n) (h : ∀ j, j < n → ∃ t, its[j]? = some (.int (sizeF n fi lap (n - 1 - j)) t)) : IntsAre its.toList (sizesL n fi lap) := by
  have key : ∀ (k : Nat) (ls : List Int) (vs : List Value), vs.length = ls.length → (∀ j, j < vs.length → ∃ t, vs[j]? = some (.int (ls.getD j 0) t)) → IntsAre vs ls := by
    intro _ ls
    induction ls with
    | nil => intro vs h1 _; rw [List.length_eq_zero_iff.mp h1]; exact .nil
    | cons a r ih =>
      intro vs h1 h2
      cases vs with
      | nil => cases h1
      | cons v vs =>
        obtain ⟨t, e⟩ := h2 0 (Nat.succ_pos _)
        cases e
        exact .cons _ _ (ih vs (by simpa using h1) fun j hj => h2 (j + 1) (by simpa using hj))
  have hl : (sizesL n fi lap).length = n := by unfold sizesL; simp; exact Nat.min_eq_left hn
  refine key 0 _ _ (by rw [hl, Array.length_toList, hz]) fun j hj => ?_
  rw [Array.length_toList, hz] at hj
  obtain ⟨t, e⟩ := h j hj
  refine ⟨t, ?_⟩
  rw [Array.getElem?_toList, e]
  congr 2
  unfold sizeF sizesL
  match j with
  | 0 => rw [if_pos (show n - 1 - 0 + 1 = n from Nat.sub_add_cancel hj)]; cases n with | zero => omega | succ n => rfl
  | j + 1 =>
    rw [if_neg (Nat.ne_of_lt (Nat.lt_of_le_of_lt (Nat.sub_lt (Nat.sub_pos_of_lt (Nat.lt_of_le_of_lt (Nat.le_add_left 1 j) hj)) (Nat.succ_pos j)) (Nat.sub_lt (Nat.lt_of_le_of_lt (Nat.zero_le _) hj) Nat.one_pos)))]
    rw [List.getD_eq_getElem?_getD, List.getElem?_take, if_pos (by omega), List.getElem?_append_right (by simp)]
    have h8 : j < 8 := Nat.lt_of_succ_lt_succ (Nat.lt_of_lt_of_le hj hn)
    show lap = ((List.replicate 8 lap)[j]?).getD 0
    rw [List.getElem?_replicate, if_pos h8]
    rfl
theorem gs1 {ls : List Int} {p : Option Int} {i : Nat} {x : Int} (h : ls[i]? = some x) (a : x ≠ 127) (b : x ≠ 0) : gnext ls (.forS p i) = some (x, .forS (some x) (i + 1)) := by
  simp only [gnext, h]; exact (if_neg a).trans (if_neg b)
theorem gs0 {ls : List Int} {l : Int} {i : Nat} (h : ls[i]? = some 0) : gnext ls (.forS (some l) i) = some (l, .whileS l) := by
  simp only [gnext, h]; rfl
theorem gs127 {ls : List Int} {p : Option Int} {i : Nat} (h : ls[i]? = some 127) : gnext ls (.forS p i) = none := by
  simp only [gnext, h]; rfl
theorem gsn {ls : List Int} {p : Option Int} {i : Nat} (h : ls[i]? = none) : gnext ls (.forS p i) = none := by
  simp only [gnext, h]
theorem row_gp {kd fi st : Int} (hk0 : 0 ≤ kd) (hk5 : kd < 5) (hfi : 2 ≤ fi) (hev : fi % 2 = 0) (hst : 1 ≤ st) :
    GP (rowOf kd fi st) (sizeF (numOf kd fi st) fi (lapOf kd fi st)) (decide (numOf kd fi st ≠ 9)) (numOf kd fi st) (.forS none 0) := by
  have f0 : fi ≠ 0 := fun e => by subst e; exact absurd hfi (by decide)
  have f1 : fi ≠ 127 := fun e => by subst e; exact absurd hev (by decide)
  have s0 : st ≠ 0 := fun e => by subst e; exact absurd hst (by decide)
  have hcase := cases5 hk0 hk5
  by_cases h127 : st = 127
  · subst h127
    rcases hcase with rfl | rfl | rfl | rfl | rfl
    · exact .step (gs1 rfl f1 f0) (.stop fun _ => ⟨gs127 rfl, trivial⟩)
    · exact .step (gs1 rfl f1 f0) (.stop fun _ => ⟨gs127 rfl, trivial⟩)
    · exact .step (gs1 rfl f1 f0) (.stop fun _ => ⟨gs127 rfl, trivial⟩)
    · exact .step (gs1 rfl f1 f0) (.stop fun _ => ⟨gs127 rfl, trivial⟩)
    · rw [show numOf 4 fi 127 = 9 from congrArg Int.toNat (if_neg f1)]
      exact .step (gs1 rfl f1 f0) (.step (gs0 rfl) (whiles 7 fun j hj => by unfold sizeF; rw [if_neg (by omega)]; rfl))
  · rcases hcase with rfl | rfl | rfl | rfl | rfl
    · rw [show numOf 0 fi st = 9 from congrArg Int.toNat (if_neg h127)]
      exact .step (gs1 rfl f1 f0) (.step (gs1 rfl h127 s0) (.step (gs0 rfl) (whiles 6 fun j hj => by unfold sizeF; rw [if_neg (by omega)]; rfl)))
    · rw [show numOf 1 fi st = 9 from congrArg Int.toNat (if_neg h127)]
      exact .step (gs1 rfl f1 f0) (.step (gs1 rfl h127 s0) (.step (gs1 rfl h127 s0) (.step (gs0 rfl) (whiles 5 fun j hj => by unfold sizeF; rw [if_neg (by omega)]; rfl))))
    · rw [show numOf 2 fi st = 4 from congrArg Int.toNat (if_neg h127)]
      exact .step (gs1 rfl f1 f0) (.step (gs1 rfl h127 s0) (.step (gs1 rfl h127 s0) (.step (gs1 rfl h127 s0) (.stop fun _ => ⟨gs127 rfl, trivial⟩))))
    · rw [show numOf 3 fi st = 6 from congrArg Int.toNat (if_neg h127)]
      exact .step (gs1 rfl f1 f0) (.step (gs1 rfl h127 s0) (.step (gs1 rfl h127 s0) (.step (gs1 rfl h127 s0) (.step (gs1 rfl h127 s0) (.step (gs1 rfl h127 s0) (.stop fun _ => ⟨gsn rfl, trivial⟩))))))
    · rw [show numOf 4 fi st = 9 from congrArg Int.toNat (if_neg f1)]
      exact .step (gs1 rfl f1 f0) (.step (gs0 rfl) (whiles 7 fun j hj => by unfold sizeF; rw [if_neg (by omega)]; rfl))
@[reducible] noncomputable def law_sizes_S (w : World) (mean : ExcName → Option Value) (mg mb : Str → Option Value) (base : Heap) (L fa : Addr) (cd : Value) (m : Str → Option Value) (s : Shared) (Q : Flow → Shared → Prop) (rest : List Stmt) (o1 o2 o3 o4 o5 o6 o7 o8 : Obj) (D R : Addr) (ws rs : List Value) (cnt rc : Nat) (t1 t2 t6 : Tok) (sh va : UInt64) (fi st : Int) : Prop := ∀ {kd : Int} (B : Below callerA base [] base) (F : Fr base L s.heap m) (X : (KX w.params).In base) (T : Top topProg lawLoose mean mg mb base) (N : News base L s.heap ((R, W.listOf rs.toArray rc) :: (D, W.listOf ws.toArray cnt) :: ((L + 1 + 1 + 1 + 1 + 1 + 1 + 1 + 1 : Addr), o8) :: ((L + 1 + 1 + 1 + 1 + 1 + 1 + 1 : Addr), o7) :: ((L + 1 + 1 + 1 + 1 + 1 + 1 : Addr), o6) :: ((L + 1 + 1 + 1 + 1 + 1 : Addr), o5) :: ((L + 1 + 1 + 1 + 1 : Addr), o4) :: ((L + 1 + 1 + 1 : Addr), o3) :: ((L + 1 + 1 : Addr), o2) :: ((L + 1 : Addr), o1) :: (105, W.tabObj #[]) :: [])) (h105 : @LT.lt Nat _ 105 L) (hD : @LT.lt Nat _ (L+1+1+1+1+1+1+1+1) D) (hDR : @LT.lt Nat _ D R) (hrs : IntsAre rs (rowOf kd fi st)) (hk0 : 0 ≤ kd) (hk5 : kd < 5) (hfi : 2 ≤ fi) (hev : fi % 2 = 0) (hst : 1 ≤ st) (hb : AllBare s.gens) (hms : m (Str.ofString "share") = some (.float sh t1)) (hmv : m (Str.ofString "value") = some (.float va t2)) (hmr : m (Str.ofString "row") = some (.ref R)) (hret : ∀ (S : Addr) (ss : List Value) (sc : Nat) (gl : Array GenState) (m' : Str → Option Value) (h' : Heap) (tk' : Nat), Fr base L h' m' → News base L h' ((S, W.listOf ss.toArray sc) :: (R, W.listOf rs.toArray rc) :: (D, W.listOf ws.toArray cnt) :: ((L + 1 + 1 + 1 + 1 + 1 + 1 + 1 + 1 : Addr), o8) :: ((L + 1 + 1 + 1 + 1 + 1 + 1 + 1 : Addr), o7) :: ((L + 1 + 1 + 1 + 1 + 1 + 1 : Addr), o6) :: ((L + 1 + 1 + 1 + 1 + 1 : Addr), o5) :: ((L + 1 + 1 + 1 + 1 : Addr), o4) :: ((L + 1 + 1 + 1 : Addr), o3) :: ((L + 1 + 1 : Addr), o2) :: ((L + 1 : Addr), o1) :: (105, W.tabObj #[]) :: []) → @LT.lt Nat _ R S → IntsAre ss (sizesL (numOf kd fi st) fi (lapOf kd fi st)) → AllBare gl → m' (Str.ofString "share") = some (.float sh t1) → m' (Str.ofString "value") = some (.float va t2) → m' (Str.ofString "row") = some (.ref R) → m' (Str.ofString "sizes") = some (.ref S) → wpAny (model Challenge.rw_st0007_01.prog w) (lawA L fa cd) (execs rest (lawEnv L fa cd)) Q (fun _ _ => False) { s with heap := h', gens := gl, toks := tk' }), wpAny (model Challenge.rw_st0007_01.prog w) (lawA L fa cd) (execs (lawCut 12 1 ++ rest) (lawEnv L fa cd)) Q (fun _ _ => False) s
namespace law_sizes_K
@[irreducible] noncomputable def pt : Cx := bad fun c => law_sizes_S (c.w 0) (c.me 0) (c.m 0) (c.m 1) (c.h 0) (c.n 0) (c.n 1) (c.v 0) (c.m 2) (c.sh 0) (c.qf 0) (c.lst 0) (c.o 0) (c.o 1) (c.o 2) (c.o 3) (c.o 4) (c.o 5) (c.o 6) (c.o 7) (c.n 2) (c.n 3) (c.lv 0) (c.lv 1) (c.n 4) (c.n 5) (c.n 6) (c.n 7) (c.n 8) (c.u 0) (c.u 1) (c.i 0) (c.i 1)
@[irreducible] noncomputable def rs : List Value := pt.lv 1
@[irreducible] noncomputable def fi : Int := pt.i 0
@[irreducible] noncomputable def st : Int := pt.i 1
theorem main : law_sizes_S (pt.w 0) (pt.me 0) (pt.m 0) (pt.m 1) (pt.h 0) (pt.n 0) (pt.n 1) (pt.v 0) (pt.m 2) (pt.sh 0) (pt.qf 0) (pt.lst 0) (pt.o 0) (pt.o 1) (pt.o 2) (pt.o 3) (pt.o 4) (pt.o 5) (pt.o 6) (pt.o 7) (pt.n 2) (pt.n 3) (pt.lv 0) rs (pt.n 4) (pt.n 5) (pt.n 6) (pt.n 7) (pt.n 8) (pt.u 0) (pt.u 1) fi st := by
  intro kd B F X T N h105 hD hDR hrs hk0 hk5 hfi hev hst hb hms hmv hmr hret
  rw [show lawCut 12 1 = [_] from rfl]
  revert X; k_fill; intro X
  rw [known_eq hms, known_eq hmv, known_eq hmr] at F
  have hmk := MarkH.mk (n := 201)
  k_steps
  refine Hold.on ?_
  clear hmk
  have h9 : numOf kd fi st ≤ 9 := by rcases num_cases (fi := fi) (st := st) hk0 hk5 with e | e | e | e <;> omega
  have hl := IntsAre.length hrs
  have hl2 : rs.length ≤ 6 := by
    rw [hl]
    have hcase := cases5 (k := kd) (by assumption) (by assumption)
    rcases hcase with rfl | rfl | rfl | rfl | rfl <;> simp [rowOf, tailOf]
  k_dflt (refine' sizes_w (ls := rowOf kd fi st) (f := sizeF (numOf kd fi st) fi (lapOf kd fi st)) (en := decide (numOf kd fi st ≠ 9)) (n := numOf kd fi st) ?kcB ?kcF ?kcX ?kcN ?kq1 ?kq2 ?kq3 ?kq4 ?kq5 ?kcT ?kck ?kcd ?kcu ?_; (case kcB => assumption); (case kcF => assumption); (case kcX => assumption); (case kcN => assumption); (case kq1 => exact hrs); (case kq2 => exact row_gp hk0 hk5 hfi hev hst); (case kq3 => (rw [List.size_toArray]; omega)); (case kq4 => exact h9); (case kq5 => (by_cases e : numOf kd fi st = 9; exact .inl e; exact .inr (decide_eq_true e))); (case kcT => assumption); (case kck => exact rfl); (case kcd => ktr_room); (case kcu => ktr_units))
  intro S its sc gl h9' tk9 F9 N9 hap hz hits hgl
  have hS := hap _ (.head _)
  have hI := sizes_list h9 hz hits
  clear hap hits N
  obtain ⟨ss⟩ := its
  replace hI : IntsAre ss (sizesL (numOf kd fi st) fi (lapOf kd fi st)) := hI
  k_steps
  (refine' hret _ _ _ _ _ _ _ ?gF ?gN ?gl ?gi ?gb ?gs ?gv ?gr ?gz; (case gF => assumption); (case gN => assumption); (case gl => exact hS); (case gi => exact hI); (case gb => exact hgl hb); (case gs => exact rfl); (case gv => exact rfl); (case gr => exact rfl); (case gz => exact rfl))
end law_sizes_K
theorem law_sizes {w : World} {mean : ExcName → Option Value} {mg mb : Str → Option Value} {base : Heap} {L fa : Addr} {cd : Value} {m : Str → Option Value} {s : Shared} {Q : Flow → Shared → Prop} {rest : List Stmt} {o1 o2 o3 o4 o5 o6 o7 o8 : Obj} {D R : Addr} {ws rs : List Value} {cnt rc : Nat} {t1 t2 t6 : Tok} {sh va : UInt64} {fi st : Int} : law_sizes_S w mean mg mb base L fa cd m s Q rest o1 o2 o3 o4 o5 o6 o7 o8 D R ws rs cnt rc t1 t2 t6 sh va fi st := @by_bad (fun c => law_sizes_S (c.w 0) (c.me 0) (c.m 0) (c.m 1) (c.h 0) (c.n 0) (c.n 1) (c.v 0) (c.m 2) (c.sh 0) (c.qf 0) (c.lst 0) (c.o 0) (c.o 1) (c.o 2) (c.o 3) (c.o 4) (c.o 5) (c.o 6) (c.o 7) (c.n 2) (c.n 3) (c.lv 0) (c.lv 1) (c.n 4) (c.n 5) (c.n 6) (c.n 7) (c.n 8) (c.u 0) (c.u 1) (c.i 0) (c.i 1)) (by with_unfolding_all exact law_sizes_K.main) { cx0 with n := fromL (0) [L, fa, D, R, cnt, rc, t1, t2, t6], i := fromL (0) [fi, st], u := fromL (0) [sh, va], o := fromL (default) [o1, o2, o3, o4, o5, o6, o7, o8], v := fromL (.none) [cd], lv := fromL ([]) [ws, rs], m := fromL (fun _ => none) [mg, mb, m], sh := fromL ({}) [s], h := fromL ({}) [base], lst := fromL ([]) [rest], w := fromL (worldZ) [w], me := fromL (fun _ => none) [mean], qf := fromL (fun _ _ => True) [Q] }
end
section
section
variable {prog : Program} {w : World} {A : Around} {R : GenEnd} {Y : Protocol} {n : Nat} {s₀ : Shared} {fs : List Frame} {s : Shared} {env : Env}
noncomputable abbrev funcH (env : Env) : Value → Sem Fin := fun e => (leaving env e).wrap (fun _ => .raise e) .raise id id
theorem seg_loopRaise {target : Expr} {it : Value} {body orelse : List Stmt} {c : Code} {K : Flow → Sem Fin} {gd : Bool → Bool} {lv : List Value → List Value} {p : Pos} {e : Value}
    (hA : A.over (.forLoop target it body orelse env) (.ret (fun r => ((match r with | .ok f => (.pure f : Sem Flow) | .error e => .raise e).onRaise fun (x : Value) => do
        if (← field x 1) == Value.none then unsupported "frame.own-activation:exception-without-traceback"
        setFlight x env.frame).wrap K (funcH env) gd lv) none (gd false) (lv []) c p [] :: fs) = A.over c fs)
    (h : wpAny (model prog w) (A.over c fs) (leaving env e) (fun _ s'' => Seg (model prog w) A R Y n s₀ c (.raise e) fs s'') (fun x s'' => Seg (model prog w) A R Y n s₀ c (.raise x) fs s'') s) :
    Seg (model prog w) A R Y n s₀ (.forLoop target it body orelse env) (loopH env e) (.ret (fun r => ((match r with | .ok f => (.pure f : Sem Flow) | .error e => .raise e).onRaise fun (x : Value) => do
        if (← field x 1) == Value.none then unsupported "frame.own-activation:exception-without-traceback"
        setFlight x env.frame).wrap K (funcH env) gd lv) none (gd false) (lv []) c p [] :: fs) s := by
  unfold loopH
  refine seg_wrap ?_
  rw [hA]
  refine wpAny_bind (wpAny_mono (wpAny_leaving_again (A'' := A.over c fs) (E₂ := fun x s' => Seg (model prog w) A R Y n s₀ c (funcH env x) fs s') (SameStack.refl (A.over c fs)) (what := "frame.own-activation:exception-without-traceback") h) (fun _ s1 h3 => wpAny_theTreesLotGoes ?_) fun x s1 h3 => h3)
  refine seg_leaf (.error e) ?_
  show Seg _ A R Y n s₀ c (Sem.wrap K (funcH env) gd lv (Sem.bind _ (fun _ => .raise e))) fs s1
  rw [Sem.bind_eq_wrap, Sem.wrap_wrap]
  refine seg_wrap (wpAny_mono h3 (fun _ s2 h4 => ?_) fun x s2 h4 => h4)
  show Seg _ A R Y n s₀ c (funcH env e) fs s2
  exact seg_wrap h4
end
end
section
open PyProof.V PySem.Spec
noncomputable abbrev framesOf (l : List Env) : List Addr := l.filterMap (·.frame)
section
variable {M : Model} {A : Around} {E : Value → Shared → Prop} {s' : Shared} {base h : Heap} {outer : List Env} {env : Env} {L e : Addr} {Q : Unit → Shared → Prop}
theorem leave_L {cls : Value} {vs : List Value} (hfr : A.frames = some (env :: outer)) (hf : env.frame = some L) (hF : h.FunFrames base (env :: outer)) (hx : Heap.MadeExcOf h s'.heap e cls vs)
    (hQ : ∀ h' t, Heap.FlyingW (hideAll h (framesOf (env :: outer))) outer e cls (.ref t) h' → h'.TupAt t vs → (hideAll h (framesOf (env :: outer))).get? t = none → s'.heap.UpToSlots h' → Q () { s' with heap := h' }) :
    wpAny M A (leaving env (.ref e)) Q E s' :=
  wpAny_leaves_madeW hfr hf (fun b o q => of_hideAll _ q) (funFrames_hide hF fun env he b hb => List.mem_filterMap.mpr ⟨env, he, hb⟩) hx hQ
end
section
variable {prog : Program} {w : World} {A₀ : Around} {E : Value → Shared → Prop} {s' : Shared} {G BB : Heap} {outer : List Env} {L a e t : Addr} {m : Str → Option Value} {name : Str} {scope : Scope} {cd : Value}
  {vs : List Value} {n : Str} {b₀ : Stmt} {suite : List Stmt} {pos np : Pos} {rest : List ExceptHandler} {Q : Flow → Shared → Prop} {news : List (Addr × Obj)}
  {p : Program} {loose : List Str} {mean : ExcName → Option Value} {mg mb : Str → Option Value} {x : Str} {X T' : String}
theorem caught_L (hGB : ∀ b o, G.get? b = some o → BB.get? b = some o) (hGL : G.objs.size ≤ L) (hfr : A₀.frames = some outer) (hns : s'.heap.Ns L m)
    (R : Heap.FlyingW BB (envOf name scope L a cd :: outer) e (.type X) (.ref t) s'.heap) (htup : s'.heap.TupAt t vs) (hnew : BB.get? t = none) (hBL : BB.get? L = none) (hl : ∀ q ∈ news, BB.get? q.1 = some q.2 ∧ G.get? q.1 = none)
    (T : TopRead p loose mg mb G) (hv : bootBuiltins x = some (.type T'))
    (hexc : isSubtype (.type T') (.type "BaseException") = pure true) (hnt : isSubtype (.type ((Manifest.find? T').elim "type" fun y => y.metatype)) (.type "tuple") = pure false) (hsub : isSubtype (.type X) (.type T') = pure true)
    (k : ∀ h' news₂ tk, Fr G L h' (fun y => if y = n then some (.ref e) else m y) → News G L h' news₂ → Got news₂ e t (.type X) vs → News G L h' news → (∀ b o, b ≠ L → s'.heap.get? b = some o → (∀ vs, o.data ≠ .fields vs) → ∃ sl, h'.get? b = some { o with slots := sl }) →
      wpAny (model prog w) ((A₀.deeper (envOf name scope L a cd)).mark (some (.ref e))) (execs (b₀ :: suite) (envOf name scope L a cd))
        (fun f s₄ => wpAny (model prog w) (A₀.deeper (envOf name scope L a cd)) (do bindName (envOf name scope L a cd) n .none; unbindBehindTheSuite (envOf name scope L a cd) n pos) (fun _ s₅ => Q f s₅) E s₄)
        (AsSuiteRaised (model prog w) ((A₀.deeper (envOf name scope L a cd)).mark (some (.ref e))) (envOf name scope L a cd) n pos (notedBy (model prog w) ((A₀.deeper (envOf name scope L a cd)).mark (some (.ref e))) (envOf name scope L a cd) (cameBackBy (model prog w) (A₀.deeper (envOf name scope L a cd)) (envOf name scope L a cd) E)))
        { s' with heap := h', toks := tk })
    (h1 : x ∉ startupNames := by decide +kernel) (h2 : x ∉ loose := by decide +kernel) (h3 : x ∉ (recsOf p).map (·.name) := by decide +kernel) (h4 : x ∉ (litsOf p).map (·.1) := by decide +kernel) (h4c : x ∉ (clssOf p loose).map (·.name) := by decide +kernel) (hn : x ≠ "__name__" := by decide +kernel)
    (hk : scope.kind = .function := by rfl) (hlo : (envOf name scope L a cd).kindOf n = some .local := by rfl) (hx : (envOf name scope L a cd).kindOf x = some .globalImplicit := by rfl) (hd : (x == ("__debug__" : Str)) = false := by decide) :
    wpAny (model prog w) (A₀.deeper (envOf name scope L a cd)) (noteFrame (.ref e) (envOf name scope L a cd))
      (fun _ s₂ => wpAny (model prog w) (A₀.deeper (envOf name scope L a cd)) (setFlight (.ref e) none) (fun _ s₃ =>
        wpAny (model prog w) (A₀.deeper (envOf name scope L a cd)) (handleBy (.ref e) (envOf name scope L a cd) (.ExceptHandler (some (.Name x np)) (some n) (b₀ :: suite) pos :: rest)) Q E s₃) E s₂) E s' := by
  have frOf : ∀ {h : Heap}, BB.StaysIn h → s'.heap.UpToSlots h → Fr G L h m := fun st up => ⟨up.ns hns, fun b o q => st b o (hGB b o q), hGL⟩
  have fre : ∀ {b : Addr}, BB.get? b = none → G.get? b = none := fun {b} q => by
    cases z : G.get? b with
    | none => rfl
    | some o => rw [hGB b o z] at q; cases q
  refine wpAny_looks_onW (Around.frames_deeper hfr) rfl R fun h₄ hheld₄ hsm₄ => ?_
  refine wpAny_landsW hheld₄ fun h₅ hheld hsm₅' => ?_
  have hsm₅ := hsm₄.trans hsm₅'
  have F₅ := frOf hheld.1 hsm₅
  obtain ⟨ob, hob, hobc⟩ := hheld.there
  refine wpAny_handleBy_builtin_as (X := X) (T := T') (b := true) hexc hnt hsub (ld_builtin_at F₅ T.g (T.free x h1 h2 h3 h4 h4c) T.b ((T.builtins x hn).trans hv) ⟨rfl, ⟨ob, hob, hobc⟩, ?_⟩ hk hx hd)
  refine lands_againW hheld fun h₆ hfl₆ hsm₆ => ?_
  have F₆ := frOf hfl₆.1 (hsm₅.trans hsm₆)
  obtain ⟨oe, ws, hoe, hoec, hoed, hoe0⟩ := hfl₆.first
  obtain ⟨ot, nt, hot, hotc, hotd⟩ := (htup.of_slots hsm₅).of_slots hsm₆
  have N₆ := News.more F₆ (News.more F₆ News.nil hot (fun es n q => by rw [hotd] at q; cases q) (fre hnew)) hoe (fun es n q => by rw [hoed] at q; cases q) (fre hfl₆.2.1)
  have Nl : News G L h₆ news := fun q hq => ⟨hfl₆.1 _ _ (hl q hq).1, (fun z => by have := (hl q hq).1; rw [z, hBL] at this; cases this), (hl q hq).2⟩
  have up6 := hsm₅.trans hsm₆
  refine wpAny_storeName_local hlo F₆.ns (fun h₇ hn7 hs7 => ?_) (by show (scope.kind == .class || (scope.kind == .module && L != mainGlobals)) = false; rw [hk]; rfl)
  refine k h₇ _ _ (F₆.set hn7 hs7) (N₆.set hs7) ⟨oe, ot, ws, nt, .head _, .tail _ (.head _), hoec, hoed, hoe0, hotc, hotd⟩ (Nl.set hs7) (fun b o hb ho hnf => ?_)
  obtain ⟨sl, hsl⟩ := up6 b o ho hnf
  exact ⟨sl, (hs7.extBut b _ hb hsl)⟩
end
section
variable {prog : Program} {w : World} {A : Around} {E : Value → Shared → Prop} {s : Shared}
theorem pyNext_genErr {a : Addr} {g : Nat} {gs : GenState} {P : Value → Shared → Shared → Prop} {Q : Option Value → Shared → Prop} 
    (hl : s.heap.NoLimit) (hroom : A.depth < recursionLimit)
    (hg : s.heap.IsGen a g) (hgs : s.gens[g]? = some gs)
    (hgo : gs.Goes (model prog w) A.in1 (fun _ s₀ r s₁ => ∃ e, r = .error e ∧ P e s₀ s₁) (fun _ _ _ _ _ => False) 0 (.send .none) (s.setGen g .running))
    (hty : ∀ e s₁, P e (s.setGen g .running) s₁ → (∃ o, s₁.heap.get? a = some o) ∧ ∃ T, (s₁.setGen g .finished).TypeIs e T ∧ isSubtype (.type T) (.type "StopIteration") = pure false)
    (hP : ∀ e s₁, P e (s.setGen g .running) s₁ → E e (s₁.setGen g .finished)) :
    wpAny (model prog w) A (pyNext (.ref a)) Q E s := by
  unfold pyNext
  refine wpAny_bind (wpAny_attempt (wpAny_callSpecial?_slot (name := Str.ofString "__next__") hg.typeIs slot_gen_next
    (wpAny_call_entry slot_gen_next hg.typeIs entry_gen_next ?_ (args_gen_next _))))
  show wpAny _ _ (Builtin.Generator.genWake (.ref a) (.send .none)) _ _ s
  unfold Builtin.Generator.genWake
  refine wpAny_bind (wpAny_holding (wpAny_genNumber hg (wpAny_bind (wpAny_genState hgs ?_))))
  cases gs with
  | running => exact hgo.elim
  | finished => exact hgo.elim
  | _ =>
    refine wpAny_bind (wpAny_roomToWake hl hroom ?_)
    show wpAny _ _ (.resume g (.send .none) [] _) _ _ s
    refine wpAny_resumeQ hgs hgo (fun x s₁ hx => ?_) (fun v s₁ gs' hb hv => hv.elim)
    obtain ⟨e, rfl, hp⟩ := hx
    obtain ⟨⟨o, ho⟩, T, hT, hsub⟩ := hty e s₁ hp
    show wpAny _ _ (Builtin.Generator.genLeft (.ref a) e) _ _ (s₁.setGen g .finished)
    unfold Builtin.Generator.genLeft Builtin.Generator.madeByALambda
    refine wpAny_bind (wpAny_bind (wpAny_load (show (s₁.setGen g .finished).heap.get? a = some o from ho) (wpAny_pure ?_)))
    refine wpAny_bind (wpAny_isInstance hT hsub ?_)
    rw [Bool.and_false, if_neg (by decide)]
    unfold Builtin.Generator.genEscaped
    refine wpAny_bind (wpAny_isInstance hT hsub ?_)
    refine wpAny_throw ?_
    refine wpAny_bind (wpAny_isInstance hT hsub ?_)
    exact wpAny_throw (hP e s₁ hp)
end
end
section
noncomputable def BadEnd (l : List Env) (C : Addr) (x : Value) (s₀ s₁ : Shared) : Prop := ∃ (e t : Addr) (BB h' : Heap) (tk : Nat) (u : Tok), x = .ref e ∧ s₁ = { s₀ with heap := h', toks := tk } ∧
  (∀ b o, @Ne Nat b C → b ∉ framesOf l → s₀.heap.get? b = some o → BB.get? b = some o) ∧ (∀ b ∈ framesOf l, BB.get? b = none) ∧ Heap.FlyingW BB l e (.type "ValueError") (.ref t) h' ∧ h'.TupAt t [.str (Str.ofString "invalid grouping") u] ∧ BB.get? t = none ∧
  (∀ b o, @Ne Nat b C → s₀.heap.get? b = some o → (∀ vs, o.data ≠ .fields vs) → ∃ sl, h'.get? b = some { o with slots := sl })
noncomputable def GBad (w : World) (A : Around) (h₀ : Heap) (L C r : Addr) (oC oR : Obj) (l : List Env) (gs : GenState) : Prop :=
  ∀ s'', (∃ m', Fr h₀ L s''.heap m') → s''.heap.get? C = some oC → s''.heap.get? r = some oR → gs.Goes (model Challenge.rw_st0007_01.prog w) A.in1 (fun _ s₀ x s₁ => ∃ e, x = .error e ∧ BadEnd l C e s₀ s₁) (fun _ _ _ _ _ => False) 0 (.send .none) s''
@[reducible] noncomputable def gen_bad_S (w : World) (mean : ExcName → Option Value) (mg mb : Str → Option Value) (dp un : Nat) (gd : Option (List Code)) (cn : Str) (cs : Scope) (ca : Addr) (ccd : Value) (cl : List (Str × Addr)) (outer : List Env) (A₀ : Around) (base h₀ : Heap) (L : Addr) (m : Str → Option Value) (s : Shared) (Q E : Value → Shared → Prop) (news : List (Addr × Obj)) (r : Addr) (vs : Array Value) (k : Nat) : Prop := ∀ {ls : List Int} (B : Below A₀ base outer h₀) (F : Fr h₀ L s.heap m) (X : (KX w.params).In h₀) (N : News h₀ L s.heap ((r, W.listOf vs k) :: news)) (hvs : IntsAre vs.toList ls) (h0 : ls[0]? = some 0) (hlen : vs.size ≤ 1000) (T : Top topProg lawLoose mean mg mb h₀) (hk : cs.kind = .function) (hdp : dp + 40 < recursionLimit) (hun : un + 100 < cLine) (hret : ∀ (a C : Addr) (oC : Obj) (nm qn : Value) (gs : GenState) (h' : Heap) (tk' : Nat), Fr h₀ L h' m → News h₀ L h' ((a, genObj s.gens.size nm qn) :: (C, oC) :: (r, W.listOf vs k) :: news) → (∀ p ∈ (r, W.listOf vs k) :: news, p.1 < C) → @LT.lt Nat _ C a → @LT.lt Nat _ L C → gs.bare = true → GBad w (W.ktrTop dp un gd cn cs L ca ccd cl outer) h₀ L C r oC (W.listOf vs k) (W.envX cn cs L ca ccd cl :: outer) gs → Q (.ref a) { s with heap := h', gens := s.gens.push gs, toks := tk' }), wpAny (model Challenge.rw_st0007_01.prog w) (W.ktrTop dp un gd cn cs L ca ccd cl outer) (call (.ref 28) [.ref r]) Q E s
namespace gen_bad_K
@[irreducible] noncomputable def pt : Cx := bad fun c => gen_bad_S (c.w 0) (c.me 0) (c.m 0) (c.m 1) (c.n 0) (c.n 1) (c.gd 0) (c.st 0) (c.sc 0) (c.n 2) (c.v 0) (c.cl 0) (c.le 0) (c.ar 0) (c.h 0) (c.h 1) (c.n 3) (c.m 2) (c.sh 0) (c.qv 0) (c.qv 1) (c.lo 0) (c.n 4) (c.av 0) (c.n 5)
@[irreducible] noncomputable def dp : Nat := pt.n 0
@[irreducible] noncomputable def un : Nat := pt.n 1
@[irreducible] noncomputable def gd : Option (List Code) := pt.gd 0
@[irreducible] noncomputable def cn : Str := pt.st 0
@[irreducible] noncomputable def cs : Scope := pt.sc 0
@[irreducible] noncomputable def ca : Addr := pt.n 2
@[irreducible] noncomputable def ccd : Value := pt.v 0
@[irreducible] noncomputable def cl : List (Str × Addr) := pt.cl 0
@[irreducible] noncomputable def outer : List Env := pt.le 0
@[irreducible] noncomputable def base : Heap := pt.h 0
@[irreducible] noncomputable def h₀ : Heap := pt.h 1
@[irreducible] noncomputable def L : Addr := pt.n 3
@[irreducible] noncomputable def m : Str → Option Value := pt.m 2
@[irreducible] noncomputable def s : Shared := pt.sh 0
@[irreducible] noncomputable def news : List (Addr × Obj) := pt.lo 0
@[irreducible] noncomputable def r : Addr := pt.n 4
@[irreducible] noncomputable def vs : Array Value := pt.av 0
@[irreducible] noncomputable def k : Nat := pt.n 5
theorem main : gen_bad_S (pt.w 0) (pt.me 0) (pt.m 0) (pt.m 1) dp un gd cn cs ca ccd cl outer (pt.ar 0) base h₀ L m s (pt.qv 0) (pt.qv 1) news r vs k := by
  intro ls B F X N hvs h0 hlen T hk hdp hun hret
  revert X; k_fill; intro X
  have X1 := X.keeps F.keep
  have hlim := T.nolimit
  refine wpAny_call ?_
  refine codeAny_call_generator (by show dp < recursionLimit; omega) (X1 28 _ rfl) rfl rfl rfl rfl (codeRec_of X1 (by k_is)) ?_
  refine BindsTo.of_eq (s := s) (binds := [(Str.ofString "grouping", .ref r)]) rfl _ _ _ _ (wpAny_newFunctionEnv (by decide) (locs rfl) (fun h1 hns hs1 => ?_))
  have hsz := hs1.1
  rw [Heap.size_push] at hsz
  have hb1 : ∀ b o, s.heap.get? b = some o → h1.get? b = some o := fun b o e => hs1.extBut b o (Nat.ne_of_lt (Heap.lt_size e)) (Heap.get?_push_of_some _ e)
  have F1 : Fr h₀ L h1 m := ⟨F.ns.at' fun o e => hb1 _ _ e, fun b o e => hb1 _ _ (F.keep b o e), F.above⟩
  have lL : @LT.lt Nat _ L s.heap.objs.size := F.ns.lt
  refine ⟨Heap.NoLimit.keeps hlim F1.keep, ?_⟩
  dsimp only
  obtain ⟨oC, es, ep, hoC, hnsr⟩ := hns
  have nC : h₀.get? s.heap.objs.size = none := by
    cases q : h₀.get? s.heap.objs.size with
    | none => rfl
    | some o => exact absurd (Nat.lt_of_lt_of_le (Heap.lt_size q) F.above) (Nat.not_lt.mpr (Nat.le_of_lt lL))
  have N1 : News h₀ L h1 ((s.heap.objs.size, oC) :: (r, W.listOf vs k) :: news) := fun p hp => by
    refine mem_cs hp ?_ fun hp => ?_
    · exact ⟨hoC, (Nat.ne_of_lt lL).symm, nC⟩
    · exact ⟨hb1 _ _ (N p hp).1, (N p hp).2⟩
  refine hret _ s.heap.objs.size oC _ _ _ _ _ (F1.push _) (N1.push F1 _ rfl) (fun p hp => Heap.lt_size (N p hp).1) (by rw [hsz]; exact Nat.lt_succ_self _) lL rfl ?_
  rintro s1 ⟨m1, Fa⟩ hC hr
  have ltr : @LT.lt Nat _ r s.heap.objs.size := Heap.lt_size (N _ (.head _)).1
  have hnsC : s1.heap.Ns s.heap.objs.size (fun x => [(Str.ofString "grouping", Value.ref r)].reverse.lookup x) := ⟨oC, es, ep, hC, hnsr⟩
  generalize s.heap.objs.size = C at *
  refine ⟨rfl, seg_func ?_⟩
  obtain ⟨FG, BG, FC, NC⟩ := ground_gen (A := W.ktrTop dp un gd cn cs L ca ccd cl outer) (env := envX cn cs L ca ccd cl) (it := C) B Fa rfl rfl hk lL hnsC
  clear F1 F N N1 X1 hb1 hsz hs1
  have XG := X.keeps FG.keep
  have TG := T.keeps FG.keep
  refine seg_execs_cons (seg_plain ?_)
  show wpAny _ ((W.ktrTop dp (un + 1) _ cn cs L ca ccd cl outer).deeper _) _ _ _ _
  k_steps
  refine seg_execs_cons (seg_For (by intro _; rfl) ?_)
  show wpAny _ ((W.ktrTop dp (un + 1) _ cn cs L ca ccd cl outer).deeper _) _ _ _ _
  k_steps
  rename Heap => h2
  rename Fr _ _ _ _ => F2
  rename News _ _ _ _ => N2
  have hr2 := F2.keep _ _ (below_get.mpr ⟨ltr, hr⟩)
  refine wpAny_pyIter_list ⟨_, hr2, rfl, _, rfl⟩ ?_
  intro p
  have F3 := F2.push { cls := .type "list_iterator", data := .fields #[.ref r, .int 0 0] }
  have N3 := N2.push F2 { cls := .type "list_iterator", data := .fields #[.ref r, .int 0 0] } rfl
  have lC2 : @LT.lt Nat _ C h2.objs.size := F2.ns.lt
  have k2 := gen_keeps F2 N2
  have fresh : s1.heap.get? h2.objs.size = none := by
    cases q : s1.heap.get? h2.objs.size with
    | none => rfl
    | some o => exact absurd (Heap.lt_size (k2 _ _ (Nat.ne_of_lt lC2).symm (Nat.ne_of_lt lC2).symm q)) (Nat.lt_irrefl _)
  dsimp only
  have hit3 : (h2.push { cls := .type "list_iterator", data := .fields #[.ref r, .int 0 0] }).IsListIter h2.objs.size r 0 := ⟨_, Heap.get?_push_size _ rfl, rfl, rfl⟩
  generalize h2.objs.size = it at *
  have hr3 := F3.keep _ _ (below_get.mpr ⟨ltr, hr⟩)
  refine seg_forLoop (by intro _; rfl) ?_
  obtain ⟨xv, hx⟩ : ∃ xv, vs[0]? = some xv := by
    have h1 := IntsAre.length hvs
    rw [Array.length_toList] at h1
    have h2 : 0 < ls.length := by
      cases ls with
      | nil => cases h0
      | cons _ _ => exact Nat.succ_pos _
    exact ⟨_, Array.getElem?_eq_getElem (by omega)⟩
  obtain ⟨v, tv, rfl, hls⟩ := IntsAre.at hvs 0 xv (by rw [Array.getElem?_toList]; exact hx)
  obtain rfl : v = 0 := by rw [h0] at hls; exact (Option.some.inj hls).symm
  refine wpAny_pyNext_list_item hit3 ⟨_, hr3, rfl, _, rfl⟩ hx (fun h4 hit4 hs4 => ?_)
  have F4 := F3.change hs4 (Nat.ne_of_gt lC2) (below_none (Nat.le_of_lt lC2))
  have N4 : News (below s1.heap C) C h4 (restOf s1.heap C it) := fun p hp => by
    obtain ⟨⟨c1, c2⟩, e⟩ := mem_restOf.mp hp
    have z := N3 p (.tail _ (mem_restOf.mpr ⟨⟨c1, Nat.ne_of_gt c1⟩, e⟩))
    exact ⟨(hs4.2 _ c2).trans z.1, z.2⟩
  clear F3 N3
  show wpAny _ ((W.ktrTop dp (un + 1) _ cn cs L ca ccd cl outer).deeper _) _ _ _ _
  k_steps
  refine seg_execs_cons (seg_plain ?_)
  show wpAny _ ((W.ktrTop dp (un + 1) _ cn cs L ca ccd cl outer).deeper _) _ _ _ _
  k_steps
  refine seg_execs_cons (seg_If ?_)
  show wpAny _ ((W.ktrTop dp (un + 1) _ cn cs L ca ccd cl outer).deeper _) _ _ _ _
  k_steps
  rw [if_pos (by rfl)]
  refine seg_execs_cons (seg_plain ?_)
  show wpAny _ ((W.ktrTop dp (un + 1) _ cn cs L ca ccd cl outer).deeper _) _ _ _ _
  k_steps
  rename Heap.MadeExc _ _ _ _ _ => hmade
  rename Fr _ C _ _ => F8
  rename News _ C _ _ => N8
  have keepA : ∀ b o, @Ne Nat b C → s1.heap.get? b = some o → _ := fun b o hb ho => gen_keeps F8 (fun p (hp : p ∈ restOf s1.heap C it) => N8 p (by first | exact hp | exact .tail _ hp | exact .tail _ (.tail _ hp))) b o hb (fun e => by rw [e, fresh] at ho; cases ho) ho
  refine seg_loopRaise ?hA ?_
  case hA => rfl
  refine leave_L (base := base) (outer := W.envX cn cs L ca ccd cl :: outer) ?hS rfl ?hF (Heap.MadeExc.of hmade) (fun h' t x1 x2 x3 x4 => ?_)
  case hF => exact (pushX BG F8 rfl rfl).frames
  case hS => exact (pushX BG F8 rfl rfl).stack
  refine seg_end (.error _) ⟨_, rfl, _, t, _, h', _, _, rfl, rfl, fun b o h1 h2 h3 => hideAll_get _ (keepA b o h1 h3) ?_, fun b hb => hideAll_none _ (.tail _ hb), x1, x2, x3, fun b o h1 h3 h4 => x4 b o ((Heap.MadeExc.of hmade).keeps b o (keepA b o h1 h3)) h4⟩
  intro hm
  rcases List.mem_cons.mp hm with e | hm
  · exact h1 e
  · exact h2 hm
end gen_bad_K
theorem gen_bad {w : World} {mean : ExcName → Option Value} {mg mb : Str → Option Value} {dp un : Nat} {gd : Option (List Code)} {cn : Str} {cs : Scope} {ca : Addr} {ccd : Value} {cl : List (Str × Addr)} {outer : List Env} {A₀ : Around} {base h₀ : Heap} {L : Addr} {m : Str → Option Value} {s : Shared} {Q E : Value → Shared → Prop} {news : List (Addr × Obj)} {r : Addr} {vs : Array Value} {k : Nat} : gen_bad_S w mean mg mb dp un gd cn cs ca ccd cl outer A₀ base h₀ L m s Q E news r vs k := @by_bad (fun c => gen_bad_S (c.w 0) (c.me 0) (c.m 0) (c.m 1) (c.n 0) (c.n 1) (c.gd 0) (c.st 0) (c.sc 0) (c.n 2) (c.v 0) (c.cl 0) (c.le 0) (c.ar 0) (c.h 0) (c.h 1) (c.n 3) (c.m 2) (c.sh 0) (c.qv 0) (c.qv 1) (c.lo 0) (c.n 4) (c.av 0) (c.n 5)) (by with_unfolding_all exact gen_bad_K.main) { cx0 with n := fromL (0) [dp, un, ca, L, r, k], st := fromL (Str.empty) [cn], lo := fromL ([]) [news], v := fromL (.none) [ccd], m := fromL (fun _ => none) [mg, mb, m], sh := fromL ({}) [s], h := fromL ({}) [base, h₀], ar := fromL (aroundZ) [A₀], w := fromL (worldZ) [w], me := fromL (fun _ => none) [mean], qv := fromL (fun _ _ => True) [Q, E], sc := fromL (default) [cs], gd := fromL (none) [gd], cl := fromL ([]) [cl], le := fromL ([]) [outer], av := fromL (#[]) [vs] }
end
section
@[reducible] noncomputable def sizes_bad_S (w : World) (mean : ExcName → Option Value) (mg mb : Str → Option Value) (base : Heap) (L fa : Addr) (cd : Value) (m : Str → Option Value) (s : Shared) (Q E : Value → Shared → Prop) (news : List (Addr × Obj)) (r : Addr) (vs : Array Value) (k : Nat) (ls : List Int) : Prop := ∀ (B : Below callerA base [] base) (F : Fr base L s.heap m) (X : (KX w.params).In base) (T : Top topProg lawLoose mean mg mb base) (N : News base L s.heap ((r, W.listOf vs k) :: news)) (hvs : IntsAre vs.toList ls) (h0 : ls[0]? = some 0) (hlen : vs.size ≤ 1000) (hret : ∀ (D : Addr) (u : Tok) (cnt : Nat) (gl : Array GenState) (h' : Heap) (tk' : Nat), Fr base L h' m → News base L h' ((D, W.listOf #[.str (Str.ofString "invalid grouping") u] cnt) :: (r, W.listOf vs k) :: news) → (∀ p ∈ (r, W.listOf vs k) :: news, @LT.lt Nat _ p.1 D) → (AllBare s.gens → AllBare gl) → Q (.ref D) { s with heap := h', gens := gl, toks := tk' }), wpAny (model Challenge.rw_st0007_01.prog w) (lawA L fa cd) (call (.ref 117) [.ref r]) Q E s
namespace sizes_bad_K
@[irreducible] noncomputable def pt : Cx := bad fun c => sizes_bad_S (c.w 0) (c.me 0) (c.m 0) (c.m 1) (c.h 0) (c.n 0) (c.n 1) (c.v 0) (c.m 2) (c.sh 0) (c.qv 0) (c.qv 1) (c.lo 0) (c.n 2) (c.av 0) (c.n 3) (c.li 0)
@[irreducible] noncomputable def w : World := pt.w 0
@[irreducible] noncomputable def base : Heap := pt.h 0
@[irreducible] noncomputable def L : Addr := pt.n 0
@[irreducible] noncomputable def fa : Addr := pt.n 1
@[irreducible] noncomputable def cd : Value := pt.v 0
@[irreducible] noncomputable def s : Shared := pt.sh 0
@[irreducible] noncomputable def news : List (Addr × Obj) := pt.lo 0
@[irreducible] noncomputable def r : Addr := pt.n 2
@[irreducible] noncomputable def vs : Array Value := pt.av 0
@[irreducible] noncomputable def k : Nat := pt.n 3
theorem main : sizes_bad_S w (pt.me 0) (pt.m 0) (pt.m 1) base L fa cd (pt.m 2) s (pt.qv 0) (pt.qv 1) news r vs k (pt.li 0) := by
  intro B F X T N hvs h0 hlen hret
  have hmk := MarkH.mk (n := 204)
  revert X; k_fill; intro X
  have X1 := X.keeps F.keep
  refine wpAny_call ?_
  refine codeAny_call_def (binds := [(Str.ofString "ruler", .ref r)]) (by simp only [depth_deeper, depth_caller]; decide) (X1 117 _ rfl) rfl (T.nolimit.keeps F.keep) (codeRec_of X1 (by k_is)) rfl (BindsTo.of_eq rfl) (by decide) (locs rfl) (fun h₁ hns hk₁ => ?_) rfl rfl rfl
  have hrr := N _ (.head _)
  have hrlt : @LT.lt Nat _ r s.heap.objs.size := Heap.lt_size hrr.1
  have hLlt : @LT.lt Nat _ L s.heap.objs.size := F.ns.lt
  have g1s : ∀ b o, base.get? b = some o → (hideAll s.heap [r]).get? b = some o := fun b o e => hideAll_get _ (F.keep b o e) (fun hm => by
    rw [List.mem_singleton] at hm; rw [hm, hrr.2.2] at e; cases e)
  have sz1 : (hideAll s.heap [r]).objs.size = s.heap.objs.size := hideAll_size _ _
  have F1 : Fr (hideAll s.heap [r]) s.heap.objs.size h₁ (fun x => [(Str.ofString "ruler", Value.ref r)].reverse.lookup x) := ⟨hns, fun b o e => hk₁ b o (of_hideAll _ e), Nat.le_of_eq sz1⟩
  have N1 : News (hideAll s.heap [r]) s.heap.objs.size h₁ [(r, W.listOf vs k)] := fun p hp => by
    rcases List.mem_singleton.mp hp with rfl
    exact ⟨hk₁ _ _ hrr.1, Nat.ne_of_lt hrlt, hideAll_none _ (.head _)⟩
  have K0 := pushX (env := lawEnv L fa cd) B F rfl rfl
  have B1 : Below (lawA L fa cd) base [lawEnv L fa cd] (hideAll s.heap [r]) := by
    refine ⟨K0.stack, g1s, ?_⟩
    obtain ⟨a, ⟨L1, o1, b1, b2, b3, b4⟩, c⟩ := K0.frames
    obtain rfl : L = L1 := Option.some.inj b1
    exact ⟨a, ⟨L, o1, b1, b2, hideAll_get _ b3 (fun hm => hrr.2.1 (List.mem_singleton.mp hm).symm), b4⟩, trivial⟩
  have X2 := X.keeps g1s
  have T2 := T.keeps g1s
  generalize hL1 : s.heap.objs.size = L1 at *
  clear hns
  show wpAny (model Challenge.rw_st0007_01.prog w) ((lawA L fa cd).deeper (envOf _ _ _ 117 _)) (execs _ (envOf _ _ _ 117 _)) _ _ _
  k_steps
  refine Hold.on ?_
  k_dflt (refine' gen_bad ?kcB ?kcF ?kcX ?kcN ?kq1 ?kq2 ?kq3 ?kcT ?kck ?kcd ?kcu ?_; (case kcB => assumption); (case kcF => assumption); (case kcX => assumption); (case kcN => assumption); (case kq1 => exact hvs); (case kq2 => exact h0); (case kq3 => exact hlen); (case kcT => assumption); (case kck => exact rfl); (case kcd => ktr_room); (case kcu => ktr_units))
  intro a C oC nm qn gs h5 tk5 F5 N5 hnC hCa hLC hbare hbad
  have hrC : @LT.lt Nat _ r C := hnC _ (.head _)
  clear hnC N1
  k_steps
  refine Hold.on ?_
  clear hmk
  rename Fr _ _ _ _ => F6
  rename News _ _ _ _ => N6
  trace_state
  refine For_by ?_
  k_steps
  rename Fr _ _ _ _ => F7
  rename News _ _ _ _ => N7
  rename Heap => h7
  rename (@LT.lt Nat _ a _ ∧ @LT.lt Nat _ C _ ∧ @LT.lt Nat _ r _) => hzz
  obtain ⟨za, zC, zr⟩ := hzz
  rename_i sz _
  have hG : ∀ b o, (hideAll s.heap [r, L]).get? b = some o → @Ne Nat b r ∧ @Ne Nat b L ∧ s.heap.get? b = some o := fun b o e => by
    refine ⟨fun q => ?_, fun q => ?_, of_hideAll _ e⟩
    · rw [q, hideAll_none _ (.head _)] at e; cases e
    · rw [q, hideAll_none _ (.tail _ (.head _))] at e; cases e
  have hG7 : ∀ b o, (hideAll s.heap [r, L]).get? b = some o → @LT.lt Nat _ b L1 ∧ h7.get? b = some o := fun b o e => by
    obtain ⟨q1, q2, q3⟩ := hG b o e
    exact ⟨hL1 ▸ Heap.lt_size q3, F7.keep b o (hideAll_get _ q3 fun hm => q1 (List.mem_singleton.mp hm))⟩
  have baseG : ∀ b o, base.get? b = some o → (hideAll s.heap [r, L]).get? b = some o := fun b o e => hideAll_get _ (F.keep b o e) (fun hm => by
    simp only [List.mem_cons, List.not_mem_nil, or_false] at hm
    rcases hm with q | q
    · rw [q, hrr.2.2] at e; cases e
    · rw [q, Heap.get?_none_of_le F.above] at e; cases e)
  obtain ⟨oL, esL, epL, hoL, hdL, hkL, hnL⟩ := F.ns
  have hoL7 : h7.get? L = some oL := F7.keep L oL (hideAll_get _ hoL fun hm => hrr.2.1 (List.mem_singleton.mp hm).symm)
  have napart : ∀ b : Nat, L1 < b → ¬ b ∈ [L1, L] := fun b hb hm => by
    simp only [List.mem_cons, List.not_mem_nil, or_false] at hm
    rcases hm with e | e
    · exact Nat.lt_irrefl _ (e ▸ hb)
    · exact Nat.lt_irrefl _ (Nat.lt_trans (e ▸ hb) hLlt)
  refine wpAny_pyIter_gen ⟨_, _, _, (N7 _ (.tail _ (.head _))).1, rfl, rfl, rfl⟩ ?_
  refine ⟨fun n s' => n = 0 ∧ s' = _, 0, ⟨rfl, rfl⟩, ?_⟩
  rintro n s' ⟨rfl, rfl⟩
  refine pyNext_genErr (T2.nolimit.keeps F7.keep) ?room ⟨_, _, _, (N7 _ (.tail _ (.head _))).1, rfl, rfl, rfl⟩ Array.getElem?_push_size (hbad _ ⟨_, F7⟩ (N7 _ (.tail _ (.tail _ (.head _)))).1 (N7 _ (.tail _ (.tail _ (.tail _ (.head _))))).1) ?ty ?fin
  case room => simp only [depth_deeper, depth_caller]; decide
  case ty =>
    rintro e s₁ hJ0
    refine Classical.byContradiction fun hG0 => ?_
    refine exE6 hJ0 ?_
    try clear hJ0
    rintro ea t BB h8 tk8 u hJ0
    refine anE8 hJ0 ?_
    try clear hJ0
    rintro rfl rfl b1 b2 b3 b4 b5 b6
    refine hG0 ?_
    clear hG0
    exact ⟨⟨_, b3.1 _ _ (b1 a _ (Nat.ne_of_gt hCa) (napart a (Nat.lt_trans hLC hCa)) (N7 _ (.tail _ (.head _))).1)⟩, "ValueError", b3.there, by rw [isSubtype_type]; kernel_rfl⟩
  case fin =>
    rintro e s₁ hJ0
    refine Classical.byContradiction fun hG0 => ?_
    refine exE6 hJ0 ?_
    try clear hJ0
    rintro ea t BB h8 tk8 u hJ0
    refine anE8 hJ0 ?_
    try clear hJ0
    rintro rfl rfl b1 b2 b3 b4 b5 b6
    refine hG0 ?_
    clear hG0
    obtain ⟨o1, es1, ep1, ho1, hd1, hkk1, hn1⟩ := F7.ns
    have gone : ∀ b, b ∈ [r, sz] → (hideAll s.heap [r, L]).get? b = none := fun b hb => by
      simp only [List.mem_cons, List.not_mem_nil, or_false] at hb
      rcases hb with rfl | rfl
      · exact hideAll_none _ (.head _)
      · cases q : (hideAll s.heap [r, L]).get? b with
        | none => rfl
        | some o =>
          obtain ⟨q1, q2, q3⟩ := hG b o q
          have := (N7 _ (.head _)).2.2
          rw [hideAll_get _ q3 (fun hm => q1 (List.mem_singleton.mp hm))] at this
          cases this
    obtain ⟨sl8, hsl8⟩ := b6 L1 o1 (Nat.ne_of_lt hLC) ho1 (fun vs q => by rw [hd1] at q; cases q)
    have hns8 : h8.Ns L1 _ := ⟨_, es1, ep1, hsl8, hd1, hkk1, hn1⟩
    refine caught_L (G := hideAll s.heap [r, L]) (BB := BB) (news := [(sz, W.listOf #[] 0), (r, W.listOf vs k)]) (T' := "ValueError") (fun b o e => ?_) (by rw [hideAll_size, hL1]; exact Nat.le_refl _) rfl hns8 b3 b4 b5 (b2 L1 (.head _)) ?hl (topRead_of (T.keeps baseG)) PyProof.Rows.Boot.«ValueError» PySem.F.isExc_ValueError PySem.F.notTuple_ValueError (by rw [isSubtype_type]; kernel_rfl) ?k
    case hl =>
      intro q hq
      simp only [List.mem_cons, List.not_mem_nil, or_false] at hq
      rcases hq with rfl | rfl
      · exact ⟨b1 sz _ (Nat.ne_of_gt zC) (napart sz (Nat.lt_trans hLC zC)) (N7 _ (.head _)).1, gone sz (.tail _ (.head _))⟩
      · exact ⟨b1 r _ (Nat.ne_of_lt hrC) (fun hm => by
          have hm' : r ∈ [L1, L] := hm
          simp only [List.mem_cons, List.not_mem_nil, or_false] at hm'
          rcases hm' with e | e
          · exact Nat.lt_irrefl _ (e ▸ hrlt)
          · exact hrr.2.1 e) (N7 _ (.tail _ (.tail _ (.tail _ (.head _))))).1, gone r (.head _)⟩
    · obtain ⟨q1, q2⟩ := hG7 b o e
      exact b1 b o (Nat.ne_of_lt (Nat.lt_trans q1 hLC)) (fun hm => by
        have hm' : b ∈ [L1, L] := hm
        simp only [List.mem_cons, List.not_mem_nil, or_false] at hm'
        rcases hm' with e' | e'
        · exact Nat.lt_irrefl _ (e' ▸ q1)
        · exact (hG b o e).2.1 e') q2
    case k =>
      intro h9 n₂ tk9 F9 N2 G9 N9 up9
      obtain ⟨sl, hsl⟩ := b6 L oL (Nat.ne_of_lt (Nat.lt_trans hLlt hLC)) hoL7 (fun vs q => by rw [hdL] at q; cases q)
      obtain ⟨sl2, hsl2⟩ := up9 L _ (Nat.ne_of_lt hLlt) hsl (fun vs q => by rw [show oL.data = _ from q] at hdL; cases hdL)
      have N10 : News (hideAll s.heap [r, L]) L1 h9 ((sz, W.listOf #[] 0) :: (r, W.listOf vs k) :: (L, { oL with slots := sl2 }) :: []) := fun p hp => by
        simp only [List.mem_cons, List.not_mem_nil, or_false] at hp
        rcases hp with rfl | rfl | rfl
        · exact N9 _ (.head _)
        · exact N9 _ (.tail _ (.head _))
        · exact ⟨hsl2, Nat.ne_of_lt hLlt, hideAll_none _ (.tail _ (.head _))⟩
      have zL : @LT.lt Nat _ L sz := Nat.lt_trans hLlt (Nat.lt_trans hLC zC)
      have X4 := X.keeps baseG
      have T4 := T.keeps baseG
      clear F7 N7 B1 X2 T2 X1 b1 b2 b3 b4 b6
      k_steps
      rename Fr _ _ _ _ => F11
      rename News _ _ _ _ => N11
      have nL := N11 _ (.tail _ (.tail _ (.head _)))
      have nsz := N11 _ (.head _)
      refine' hret sz u (0 + 1) _ _ _ ⟨⟨_, esL, epL, nL.1, hdL, hkL, hnL⟩, fun b o e => F11.keep b o (baseG b o e), F.above⟩ ?g1 ?g2 ?g3
      case g1 =>
        intro p hp
        refine mem_cs hp ?_ fun hp => ?_
        · exact ⟨nsz.1, Nat.ne_of_gt zL, Heap.get?_none_of_le (Nat.le_trans F.above (Nat.le_of_lt zL))⟩
        · have hN := N p hp
          refine ⟨?_, hN.2⟩
          by_cases e : p.1 = r
          · have h1 := hrr.1
            rw [e] at hN ⊢
            rw [hN.1] at h1
            rw [Option.some.inj h1]
            exact (N11 _ (.tail _ (.head _))).1
          · refine F11.keep _ _ (hideAll_get _ hN.1 (fun hm => ?_))
            simp only [List.mem_cons, List.not_mem_nil, or_false] at hm
            rcases hm with q | q
            · exact e q
            · exact hN.2.1 q
      case g2 =>
        intro p hp
        exact Nat.lt_trans (hL1 ▸ Heap.lt_size (N p hp).1) (Nat.lt_trans hLC zC)
      case g3 => exact fun z => bare_set (z.push hbare) rfl
end sizes_bad_K
theorem sizes_bad {w : World} {mean : ExcName → Option Value} {mg mb : Str → Option Value} {base : Heap} {L fa : Addr} {cd : Value} {m : Str → Option Value} {s : Shared} {Q E : Value → Shared → Prop} {news : List (Addr × Obj)} {r : Addr} {vs : Array Value} {k : Nat} {ls : List Int} : sizes_bad_S w mean mg mb base L fa cd m s Q E news r vs k ls := @by_bad (fun c => sizes_bad_S (c.w 0) (c.me 0) (c.m 0) (c.m 1) (c.h 0) (c.n 0) (c.n 1) (c.v 0) (c.m 2) (c.sh 0) (c.qv 0) (c.qv 1) (c.lo 0) (c.n 2) (c.av 0) (c.n 3) (c.li 0)) (by with_unfolding_all exact sizes_bad_K.main) { cx0 with n := fromL (0) [L, fa, r, k], lo := fromL ([]) [news], v := fromL (.none) [cd], m := fromL (fun _ => none) [mg, mb, m], sh := fromL ({}) [s], h := fromL ({}) [base], w := fromL (worldZ) [w], me := fromL (fun _ => none) [mean], qv := fromL (fun _ _ => True) [Q, E], li := fromL ([]) [ls], av := fromL (#[]) [vs] }
end
section
open PyProof.Rows.LCg
noncomputable def oth (NW : List (Addr × Obj)) : Nat → List Value → List (Addr × Obj) → Prop
    | 0, ys, nw => ys = [] ∧ nw = NW
    | 1, ys, nw => ∃ O1 u c1, ys = [.ref O1] ∧ nw = (O1, W.listOf #[.str (Str.ofString "invalid grouping") u] c1) :: NW
    | 2, ys, nw => ∃ O1 u c1 O2 c2, ys = [.ref O1, .ref O2] ∧ nw = (O2, W.listOf #[] c2) :: (O1, W.listOf #[.str (Str.ofString "invalid grouping") u] c1) :: NW
    | _, ys, nw => ∃ O1 u c1 O2 c2 O3 c3, ys = [.ref O1, .ref O2, .ref O3] ∧ nw = (O3, W.listOf #[] c3) :: (O2, W.listOf #[] c2) :: (O1, W.listOf #[.str (Str.ofString "invalid grouping") u] c1) :: NW
@[reducible] noncomputable def law_others_S (w : World) (mean : ExcName → Option Value) (mg mb : Str → Option Value) (base : Heap) (L fa : Addr) (cd : Value) (m : Str → Option Value) (s : Shared) (Q : Flow → Shared → Prop) (rest : List Stmt) (o1 o2 o3 o4 o5 o6 o7 o8 : Obj) (D R S : Addr) (ws rs ss : List Value) (cnt rc sc : Nat) (t1 t2 : Tok) (sh va : UInt64) (fi st : Int) : Prop := ∀ {kd : Int} (B : Below callerA base [] base) (F : Fr base L s.heap m) (X : (KX w.params).In base) (T : Top topProg lawLoose mean mg mb base) (N : News base L s.heap ((S, W.listOf ss.toArray sc) :: (R, W.listOf rs.toArray rc) :: (D, W.listOf ws.toArray cnt) :: ((L + 1 + 1 + 1 + 1 + 1 + 1 + 1 + 1 : Addr), o8) :: ((L + 1 + 1 + 1 + 1 + 1 + 1 + 1 : Addr), o7) :: ((L + 1 + 1 + 1 + 1 + 1 + 1 : Addr), o6) :: ((L + 1 + 1 + 1 + 1 + 1 : Addr), o5) :: ((L + 1 + 1 + 1 + 1 : Addr), o4) :: ((L + 1 + 1 + 1 : Addr), o3) :: ((L + 1 + 1 : Addr), o2) :: ((L + 1 : Addr), o1) :: (105, W.tabObj #[]) :: [])) (h105 : @LT.lt Nat _ 105 L) (hD : @LT.lt Nat _ (L+1+1+1+1+1+1+1+1) D) (hDR : @LT.lt Nat _ D R) (hRS : @LT.lt Nat _ R S) (hrs : IntsAre rs (rowOf kd fi st)) (hk0 : 0 ≤ kd) (hk5 : kd < 5) (hb : AllBare s.gens) (hms : m (Str.ofString "share") = some (.float sh t1)) (hmv : m (Str.ofString "value") = some (.float va t2)) (hmr : m (Str.ofString "row") = some (.ref R)) (hmz : m (Str.ofString "sizes") = some (.ref S)) (hret : ∀ (O O1 O2 O3 : Addr) (u : Tok) (c c1 c2 c3 : Nat) (gl : Array GenState) (m' : Str → Option Value) (h' : Heap) (tk' : Nat), Fr base L h' m' → News base L h' ((O, W.listOf #[.ref O1, .ref O2, .ref O3] c) :: (O1, W.listOf #[.str (Str.ofString "invalid grouping") u] c1) :: (O2, W.listOf #[] c2) :: (O3, W.listOf #[] c3) :: (S, W.listOf ss.toArray sc) :: (D, W.listOf ws.toArray cnt) :: ((L + 1 + 1 + 1 + 1 + 1 + 1 + 1 + 1 : Addr), o8) :: ((L + 1 + 1 + 1 + 1 + 1 + 1 + 1 : Addr), o7) :: ((L + 1 + 1 + 1 + 1 + 1 + 1 : Addr), o6) :: ((L + 1 + 1 + 1 + 1 + 1 : Addr), o5) :: ((L + 1 + 1 + 1 + 1 : Addr), o4) :: ((L + 1 + 1 + 1 : Addr), o3) :: ((L + 1 + 1 : Addr), o2) :: ((L + 1 : Addr), o1) :: (105, W.tabObj #[]) :: []) → AllBare gl → m' (Str.ofString "share") = some (.float sh t1) → m' (Str.ofString "value") = some (.float va t2) → m' (Str.ofString "sizes") = some (.ref S) → m' (Str.ofString "others") = some (.ref O) → wpAny (model Challenge.rw_st0007_01.prog w) (lawA L fa cd) (execs rest (lawEnv L fa cd)) Q (fun _ _ => False) { s with heap := h', gens := gl, toks := tk' }), wpAny (model Challenge.rw_st0007_01.prog w) (lawA L fa cd) (execs (lawCut 13 1 ++ rest) (lawEnv L fa cd)) Q (fun _ _ => False) s
namespace law_others_K
@[irreducible] noncomputable def pt : Cx := bad fun c => law_others_S (c.w 0) (c.me 0) (c.m 0) (c.m 1) (c.h 0) (c.n 0) (c.n 1) (c.v 0) (c.m 2) (c.sh 0) (c.qf 0) (c.lst 0) (c.o 0) (c.o 1) (c.o 2) (c.o 3) (c.o 4) (c.o 5) (c.o 6) (c.o 7) (c.n 2) (c.n 3) (c.n 4) (c.lv 0) (c.lv 1) (c.lv 2) (c.n 5) (c.n 6) (c.n 7) (c.n 8) (c.n 9) (c.u 0) (c.u 1) (c.i 0) (c.i 1)
@[irreducible] noncomputable def base : Heap := pt.h 0
@[irreducible] noncomputable def L : Addr := pt.n 0
@[irreducible] noncomputable def o1 : Obj := pt.o 0
@[irreducible] noncomputable def o2 : Obj := pt.o 1
@[irreducible] noncomputable def o3 : Obj := pt.o 2
@[irreducible] noncomputable def o4 : Obj := pt.o 3
@[irreducible] noncomputable def o5 : Obj := pt.o 4
@[irreducible] noncomputable def o6 : Obj := pt.o 5
@[irreducible] noncomputable def o7 : Obj := pt.o 6
@[irreducible] noncomputable def o8 : Obj := pt.o 7
@[irreducible] noncomputable def D : Addr := pt.n 2
@[irreducible] noncomputable def S : Addr := pt.n 4
@[irreducible] noncomputable def ws : List Value := pt.lv 0
@[irreducible] noncomputable def ss : List Value := pt.lv 2
@[irreducible] noncomputable def cnt : Nat := pt.n 5
@[irreducible] noncomputable def sc : Nat := pt.n 7
@[irreducible] noncomputable def fi : Int := pt.i 0
@[irreducible] noncomputable def st : Int := pt.i 1
theorem main : law_others_S (pt.w 0) (pt.me 0) (pt.m 0) (pt.m 1) base L (pt.n 1) (pt.v 0) (pt.m 2) (pt.sh 0) (pt.qf 0) (pt.lst 0) o1 o2 o3 o4 o5 o6 o7 o8 D (pt.n 3) S ws (pt.lv 1) ss cnt (pt.n 6) sc (pt.n 8) (pt.n 9) (pt.u 0) (pt.u 1) fi st := by
  intro kd B F X T N h105 hD hDR hRS hrs hk0 hk5 hb hms hmv hmr hmz hret
  have hmk101 := MarkH.mk (n := 101)
  rw [show lawCut 13 1 = [_] from rfl]
  revert X; k_fill; intro X
  rw [known_eq hms, known_eq hmv, known_eq hmr, known_eq hmz] at F
  k_steps
  refine Hold.on ?_
  have hmk := MarkH.mk (n := 201)
  have hl := IntsAre.length hrs
  have hrl : (rowOf kd fi st).length ≤ 6 := by
    have hcase := cases5 (k := kd) (by assumption) (by assumption)
    rcases hcase with rfl | rfl | rfl | rfl | rfl <;> simp [rowOf, tailOf]
  refine Assign_tupG F rfl (by with_unfolding_all rfl) rfl (by decide) rfl (by decide) rfl (by rfl) (by rfl) rfl ?h
  k_steps
  refine Hold.on ?_
  dsimp only
  rename Fr _ _ _ _ => F3
  rename News _ _ _ _ => N3
  rename_i p1 _ _ A1 z1 _ hz1 _ p2 _ _ A2 z2 _ hz2 _ A3 _ _ tp h3 _
  have N4 : News base L h3 ((tp, { cls := .type "tuple", data := .seq #[.ref A1, .ref A2, .ref A3] 0 }) :: (A3, W.listOf #[] 0) :: (A2, W.listOf z2.toArray 0) :: (A1, W.listOf z1.toArray 0) :: (S, W.listOf ss.toArray sc) :: (D, W.listOf ws.toArray cnt) :: ((L + 1 + 1 + 1 + 1 + 1 + 1 + 1 + 1 : Addr), o8) :: ((L + 1 + 1 + 1 + 1 + 1 + 1 + 1 : Addr), o7) :: ((L + 1 + 1 + 1 + 1 + 1 + 1 : Addr), o6) :: ((L + 1 + 1 + 1 + 1 + 1 : Addr), o5) :: ((L + 1 + 1 + 1 + 1 : Addr), o4) :: ((L + 1 + 1 + 1 : Addr), o3) :: ((L + 1 + 1 : Addr), o2) :: ((L + 1 : Addr), o1) :: (105, W.tabObj #[]) :: []) := cb_drop N3 (by kcj_all)
  obtain ⟨NW, N5, mA1, mA2, mA3, hNW⟩ : ∃ NW, News base L h3 ((tp, { cls := .type "tuple", data := .seq #[.ref A1, .ref A2, .ref A3] 0 }) :: NW) ∧ (A1, W.listOf z1.toArray 0) ∈ NW ∧ (A2, W.listOf z2.toArray 0) ∈ NW ∧ (A3, W.listOf #[] 0) ∈ NW ∧ (∀ p ∈ (S, W.listOf ss.toArray sc) :: (D, W.listOf ws.toArray cnt) :: ((L + 1 + 1 + 1 + 1 + 1 + 1 + 1 + 1 : Addr), o8) :: ((L + 1 + 1 + 1 + 1 + 1 + 1 + 1 : Addr), o7) :: ((L + 1 + 1 + 1 + 1 + 1 + 1 : Addr), o6) :: ((L + 1 + 1 + 1 + 1 + 1 : Addr), o5) :: ((L + 1 + 1 + 1 + 1 : Addr), o4) :: ((L + 1 + 1 + 1 : Addr), o3) :: ((L + 1 + 1 : Addr), o2) :: ((L + 1 : Addr), o1) :: (105, W.tabObj #[]) :: [], p ∈ NW) := ⟨_, N4, .tail _ (.tail _ (.head _)), .tail _ (.head _), .head _, fun p hp => .tail _ (.tail _ (.tail _ hp))⟩
  clear N3 N4
  have hl1 : z1.length ≤ 10 := by have := IntsAre.length hz1; simp at this; omega
  have hl2 : z2.length ≤ 10 := by have := IntsAre.length hz2; simp at this; omega
  refine ⟨_, _, fun i ys nw gl => AllBare gl ∧ oth NW i ys nw, tp, NW, rfl, (by show 3 ≤ sizeLine; rw [sizeLine_eq]; decide), F3, N5, ⟨hb, rfl, rfl⟩, ?turn, ?fin⟩
  case fin =>
    rintro ys nw gl D9 h9 tk9 ⟨hb9, O1, u, c1, O2, c2, O3, c3, rfl, rfl⟩ F9 N9 o9
    refine' hret D9 O1 O2 O3 u 3 c1 c2 c3 gl _ h9 tk9 F9 (all_cons (N9 _ (.head _)) (all_cons (N9 _ (.tail _ (.tail _ (.tail _ (.head _))))) (all_cons (N9 _ (.tail _ (.tail _ (.head _)))) (all_cons (N9 _ (.tail _ (.head _))) fun p hp => N9 _ (.tail _ (.tail _ (.tail _ (.tail _ (hNW p hp))))))))) hb9 rfl rfl rfl rfl
  case turn =>
    intro i v I' oI' C' oC' D9 m9 ys nw gl h9 tk9 E9 hi hv hR hC' hx' F9 N9 off9 ne9
    match i, hi with
    | 0, _ =>
      obtain ⟨hb9, rfl, enw⟩ := hR
      subst nw
      obtain rfl : Value.ref A1 = v := Option.some.inj hv
      k_steps
      refine Hold.on ?_
      have N10 : News base L h9 ((A1, W.listOf z1.toArray 0) :: (I', oI') :: (C', oC') :: (D9, lst []) :: (tp, { cls := .type "tuple", data := .seq #[.ref A1, .ref A2, .ref A3] 0 }) :: NW) := all_cons (N9 _ (.tail _ (.tail _ (.tail _ (.tail _ (mA1)))))) N9
      k_dflt (refine' sizes_bad (ls := [0] ++ rowOf kd fi st) B F9 X T N10 hz1 rfl ?kq ?_; (case kq => (rw [List.size_toArray]; omega)))
      intro On u c gl9 h10 tk10 F10 N11 hap hgl
      refine ⟨h10, tk10, gl9, (On, W.listOf #[.str (Str.ofString "invalid grouping") u] c) :: NW, rfl, F10, fun p hp => N11 p ?_, ⟨off9.1, ⟨?_, ?_, ?_⟩, off9.2⟩, hgl hb9, ⟨On, u, c, rfl, rfl⟩⟩
      · exact mem_p4 (X := [_, _, _, _]) hp
      · exact Nat.ne_of_gt (hap (I', oI') (.tail _ (.head _)))
      · exact Nat.ne_of_gt (hap (C', oC') (.tail _ (.tail _ (.head _))))
      · exact Nat.ne_of_gt (hap (D9, _) (.tail _ (.tail _ (.tail _ (.head _)))))
    | 1, _ =>
      obtain ⟨hb9, O1, u, c1, rfl, rfl⟩ := hR
      obtain rfl : Value.ref A2 = v := Option.some.inj hv
      k_steps
      refine Hold.on ?_
      have N10 : News base L h9 ((A2, W.listOf z2.toArray 0) :: (I', oI') :: (C', oC') :: (D9, lst [.ref O1]) :: (tp, { cls := .type "tuple", data := .seq #[.ref A1, .ref A2, .ref A3] 0 }) :: (O1, W.listOf #[.str (Str.ofString "invalid grouping") u] c1) :: NW) := all_cons (N9 _ (.tail _ (.tail _ (.tail _ (.tail _ (.tail _ (mA2))))))) N9
      k_dflt (refine' sizes_w (ls := [127] ++ rowOf kd fi st) (f := fun _ => 0) (en := true) (n := 0) ?kcB F9 ?kcX N10 hz2 ?kq2 ?kq3 (by omega) (.inr rfl) ?kcT ?kck ?kcd ?kcu ?_; (case kcB => assumption); (case kcX => assumption); (case kcT => assumption); (case kq2 => exact .stop fun _ => ⟨rfl, by unfold gfair; simp⟩); (case kq3 => (first | (rw [List.size_toArray]; omega) | decide)); (case kck => exact rfl); (case kcd => ktr_room); (case kcu => ktr_units))
      intro On its9 c gl9 h10 tk10 F10 N11 hap hz9 _ hgl
      obtain rfl : its9 = #[] := Array.eq_empty_of_size_eq_zero hz9
      refine ⟨h10, tk10, gl9, (On, W.listOf #[] c) :: (O1, W.listOf #[.str (Str.ofString "invalid grouping") u] c1) :: NW, rfl, F10, fun p hp => N11 p ?_, ⟨off9.1, ⟨?_, ?_, ?_⟩, off9.2⟩, hgl hb9, ⟨O1, u, c1, On, c, rfl, rfl⟩⟩
      · exact mem_p4 (X := [_, _, _, _]) hp
      · exact Nat.ne_of_gt (hap (I', oI') (.tail _ (.head _)))
      · exact Nat.ne_of_gt (hap (C', oC') (.tail _ (.tail _ (.head _))))
      · exact Nat.ne_of_gt (hap (D9, _) (.tail _ (.tail _ (.tail _ (.head _)))))
    | 2, _ =>
      obtain ⟨hb9, O1, u, c1, O2, c2, rfl, rfl⟩ := hR
      obtain rfl : Value.ref A3 = v := Option.some.inj hv
      k_steps
      refine Hold.on ?_
      have N10 : News base L h9 ((A3, W.listOf #[] 0) :: (I', oI') :: (C', oC') :: (D9, lst [.ref O1, .ref O2]) :: (tp, { cls := .type "tuple", data := .seq #[.ref A1, .ref A2, .ref A3] 0 }) :: (O2, W.listOf #[] c2) :: (O1, W.listOf #[.str (Str.ofString "invalid grouping") u] c1) :: NW) := all_cons (N9 _ (.tail _ (.tail _ (.tail _ (.tail _ (.tail _ (.tail _ (mA3)))))))) N9
      k_dflt (refine' sizes_w (ls := []) (f := fun _ => 0) (en := true) (n := 0) ?kcB F9 ?kcX N10 .nil ?kq2 ?kq3 (by omega) (.inr rfl) ?kcT ?kck ?kcd ?kcu ?_; (case kcB => assumption); (case kcX => assumption); (case kcT => assumption); (case kq2 => exact .stop fun _ => ⟨rfl, by unfold gfair; simp⟩); (case kq3 => (first | (rw [List.size_toArray]; omega) | decide)); (case kck => exact rfl); (case kcd => ktr_room); (case kcu => ktr_units))
      intro On its9 c gl9 h10 tk10 F10 N11 hap hz9 _ hgl
      obtain rfl : its9 = #[] := Array.eq_empty_of_size_eq_zero hz9
      refine ⟨h10, tk10, gl9, (On, W.listOf #[] c) :: (O2, W.listOf #[] c2) :: (O1, W.listOf #[.str (Str.ofString "invalid grouping") u] c1) :: NW, rfl, F10, fun p hp => N11 p ?_, ⟨off9.1, ⟨?_, ?_, ?_⟩, off9.2⟩, hgl hb9, ⟨O1, u, c1, O2, c2, On, c, rfl, rfl⟩⟩
      · exact mem_p4 (X := [_, _, _, _]) hp
      · exact Nat.ne_of_gt (hap (I', oI') (.tail _ (.head _)))
      · exact Nat.ne_of_gt (hap (C', oC') (.tail _ (.tail _ (.head _))))
      · exact Nat.ne_of_gt (hap (D9, _) (.tail _ (.tail _ (.tail _ (.head _)))))
end law_others_K
theorem law_others {w : World} {mean : ExcName → Option Value} {mg mb : Str → Option Value} {base : Heap} {L fa : Addr} {cd : Value} {m : Str → Option Value} {s : Shared} {Q : Flow → Shared → Prop} {rest : List Stmt} {o1 o2 o3 o4 o5 o6 o7 o8 : Obj} {D R S : Addr} {ws rs ss : List Value} {cnt rc sc : Nat} {t1 t2 : Tok} {sh va : UInt64} {fi st : Int} : law_others_S w mean mg mb base L fa cd m s Q rest o1 o2 o3 o4 o5 o6 o7 o8 D R S ws rs ss cnt rc sc t1 t2 sh va fi st := @by_bad (fun c => law_others_S (c.w 0) (c.me 0) (c.m 0) (c.m 1) (c.h 0) (c.n 0) (c.n 1) (c.v 0) (c.m 2) (c.sh 0) (c.qf 0) (c.lst 0) (c.o 0) (c.o 1) (c.o 2) (c.o 3) (c.o 4) (c.o 5) (c.o 6) (c.o 7) (c.n 2) (c.n 3) (c.n 4) (c.lv 0) (c.lv 1) (c.lv 2) (c.n 5) (c.n 6) (c.n 7) (c.n 8) (c.n 9) (c.u 0) (c.u 1) (c.i 0) (c.i 1)) (by with_unfolding_all exact law_others_K.main) { cx0 with n := fromL (0) [L, fa, D, R, S, cnt, rc, sc, t1, t2], i := fromL (0) [fi, st], u := fromL (0) [sh, va], o := fromL (default) [o1, o2, o3, o4, o5, o6, o7, o8], v := fromL (.none) [cd], lv := fromL ([]) [ws, rs, ss], m := fromL (fun _ => none) [mg, mb, m], sh := fromL ({}) [s], h := fromL ({}) [base], lst := fromL ([]) [rest], w := fromL (worldZ) [w], me := fromL (fun _ => none) [mean], qf := fromL (fun _ _ => True) [Q] }
end
section
theorem mostOf_num {kd fi st : Int} (hk0 : 0 ≤ kd) (hk5 : kd < 5) : mostOf kd (lapOf kd fi st) = (numOf kd fi st : Int) := by
  unfold numOf mostOf
  have hcase := cases5 (k := kd) (by assumption) (by assumption)
  split
  · rfl
  · rcases hcase with rfl | rfl | rfl | rfl | rfl <;> rfl
noncomputable def tz (u : Nat → Tok) : Nat → List Int → List Value
  | _, [] => []
  | i, a :: r => .int a (u i) :: tz u (i + 1) r
theorem ints_fn {vs : List Value} {ls : List Int} (h : IntsAre vs ls) : ∀ i, ∃ u, vs = tz u i ls := by
  induction h with
  | nil => exact fun _ => ⟨fun _ => 0, rfl⟩
  | cons n t _ ih =>
    intro i
    obtain ⟨u, rfl⟩ := ih (i + 1)
    refine ⟨fun k => if k = i then t else u k, ?_⟩
    have : ∀ (l : List Int) (j : Nat), i < j → tz u j l = tz (fun k => if k = i then t else u k) j l := by
      intro l
      induction l with
      | nil => exact fun _ _ => rfl
      | cons a r ih2 =>
        intro j hj
        show Value.int a (u j) :: tz u (j + 1) r = Value.int a (if j = i then t else u j) :: tz _ (j + 1) r
        exact congr (congrArg List.cons (show Value.int a (u j) = .int a (if j = i then t else u j) by rw [if_neg (Nat.ne_of_gt hj)])) (ih2 (j + 1) (Nat.lt_succ_of_lt hj))
    show Value.int n t :: tz u (i + 1) _ = Value.int n (if i = i then t else u i) :: tz _ (i + 1) _
    exact congr (congrArg List.cons (show Value.int n t = .int n (if i = i then t else u i) by rw [if_pos rfl])) (this _ _ (Nat.lt_succ_self i))
open PyProof.Rows.LCg
@[reducible] noncomputable def law_check_S (w : World) (mean : ExcName → Option Value) (mg mb : Str → Option Value) (base : Heap) (L fa : Addr) (cd : Value) (m : Str → Option Value) (s : Shared) (Q : Flow → Shared → Prop) (rest : List Stmt) (o1 o2 o3 o4 o5 o6 o7 o8 : Obj) (D S O O1 O2 O3 : Addr) (ws : List Value) (cnt sc c c1 c2 c3 : Nat) (u t1 t2 t4 t6 t7 : Tok) (sh va : UInt64) (fi st : Int) : Prop := ∀ {ss : List Value} {kd : Int} (B : Below callerA base [] base) (F : Fr base L s.heap m) (X : (KX w.params).In base) (T : Top topProg lawLoose mean mg mb base) (N : News base L s.heap ((O, W.listOf #[.ref O1, .ref O2, .ref O3] c) :: (O1, W.listOf #[.str (Str.ofString "invalid grouping") u] c1) :: (O2, W.listOf #[] c2) :: (O3, W.listOf #[] c3) :: (S, W.listOf ss.toArray sc) :: (D, W.listOf ws.toArray cnt) :: ((L + 1 + 1 + 1 + 1 + 1 + 1 + 1 + 1 : Addr), o8) :: ((L + 1 + 1 + 1 + 1 + 1 + 1 + 1 : Addr), o7) :: ((L + 1 + 1 + 1 + 1 + 1 + 1 : Addr), o6) :: ((L + 1 + 1 + 1 + 1 + 1 : Addr), o5) :: ((L + 1 + 1 + 1 + 1 : Addr), o4) :: ((L + 1 + 1 + 1 : Addr), o3) :: ((L + 1 + 1 : Addr), o2) :: ((L + 1 : Addr), o1) :: (105, W.tabObj #[]) :: [])) (h105 : @LT.lt Nat _ 105 L) (hk0 : 0 ≤ kd) (hk5 : kd < 5) (hss : IntsAre ss (sizesL (numOf kd fi st) fi (lapOf kd fi st))) (ho3 : o3.data = .cell (some (.int fi t4))) (ho4 : o4.data = .cell (some (.int (lapOf kd fi st) t6))) (ho5 : o5.data = .cell (some (.int (mostOf kd (lapOf kd fi st)) t7))) (hms : m (Str.ofString "share") = some (.float sh t1)) (hmv : m (Str.ofString "value") = some (.float va t2)) (hmz : m (Str.ofString "sizes") = some (.ref S)) (hmo : m (Str.ofString "others") = some (.ref O)) (hret : ∀ (m' : Str → Option Value) (h' : Heap) (tk' : Nat), Fr base L h' m' → News base L h' ((S, W.listOf ss.toArray sc) :: (D, W.listOf ws.toArray cnt) :: ((L + 1 + 1 + 1 + 1 + 1 + 1 + 1 + 1 : Addr), o8) :: ((L + 1 + 1 + 1 + 1 + 1 + 1 + 1 : Addr), o7) :: ((L + 1 + 1 + 1 + 1 + 1 + 1 : Addr), o6) :: ((L + 1 + 1 + 1 + 1 + 1 : Addr), o5) :: ((L + 1 + 1 + 1 + 1 : Addr), o4) :: ((L + 1 + 1 + 1 : Addr), o3) :: ((L + 1 + 1 : Addr), o2) :: ((L + 1 : Addr), o1) :: (105, W.tabObj #[]) :: []) → m' (Str.ofString "share") = some (.float sh t1) → m' (Str.ofString "value") = some (.float va t2) → m' (Str.ofString "sizes") = some (.ref S) → wpAny (model Challenge.rw_st0007_01.prog w) (lawA L fa cd) (execs rest (lawEnv L fa cd)) Q (fun _ _ => False) { s with heap := h', toks := tk' }), wpAny (model Challenge.rw_st0007_01.prog w) (lawA L fa cd) (execs (lawCut 14 1 ++ rest) (lawEnv L fa cd)) Q (fun _ _ => False) s
namespace law_check_K
@[irreducible] noncomputable def pt : Cx := bad fun c => law_check_S (c.w 0) (c.me 0) (c.m 0) (c.m 1) (c.h 0) (c.n 0) (c.n 1) (c.v 0) (c.m 2) (c.sh 0) (c.qf 0) (c.lst 0) (c.o 0) (c.o 1) (c.o 2) (c.o 3) (c.o 4) (c.o 5) (c.o 6) (c.o 7) (c.n 2) (c.n 3) (c.n 4) (c.n 5) (c.n 6) (c.n 7) (c.lv 0) (c.n 8) (c.n 9) (c.n 10) (c.n 11) (c.n 12) (c.n 13) (c.n 14) (c.n 15) (c.n 16) (c.n 17) (c.n 18) (c.n 19) (c.u 0) (c.u 1) (c.i 0) (c.i 1)
@[irreducible] noncomputable def fi : Int := pt.i 0
@[irreducible] noncomputable def st : Int := pt.i 1
theorem main : law_check_S (pt.w 0) (pt.me 0) (pt.m 0) (pt.m 1) (pt.h 0) (pt.n 0) (pt.n 1) (pt.v 0) (pt.m 2) (pt.sh 0) (pt.qf 0) (pt.lst 0) (pt.o 0) (pt.o 1) (pt.o 2) (pt.o 3) (pt.o 4) (pt.o 5) (pt.o 6) (pt.o 7) (pt.n 2) (pt.n 3) (pt.n 4) (pt.n 5) (pt.n 6) (pt.n 7) (pt.lv 0) (pt.n 8) (pt.n 9) (pt.n 10) (pt.n 11) (pt.n 12) (pt.n 13) (pt.n 14) (pt.n 15) (pt.n 16) (pt.n 17) (pt.n 18) (pt.n 19) (pt.u 0) (pt.u 1) fi st := by
  intro ss kd B F X T N h105 hk0 hk5 hss ho3 ho4 ho5 hms hmv hmz hmo hret
  rw [show lawCut 14 1 = [_] from rfl]
  revert X; k_fill; intro X
  rw [known_eq hms, known_eq hmv, known_eq hmz, known_eq hmo] at F
  rw [mostOf_num hk0 hk5] at ho5
  generalize lapOf kd fi st = lap at *
  have hn := num_cases (fi := fi) (st := st) hk0 hk5
  generalize numOf kd fi st = n at *
  rcases hn with rfl | rfl | rfl | rfl
  · obtain ⟨u9, hu9⟩ := ints_fn hss 0
    have e9 : ss = [.int fi (u9 0)] := hu9
    clear hu9 hss
    subst e9
    k_steps
    all_goals first
      | (rename (¬ sizesL _ _ _ = _) => hne; exact absurd rfl hne)
      | (try dsimp only
         refine' hret _ _ _ ?gF ?gN ?gs ?gv ?gz; (case gF => assumption); (case gN => exact cb_drop (by assumption) (by kcj_all)); (case gs => exact rfl); (case gv => exact rfl); (case gz => exact rfl))
  · obtain ⟨u9, hu9⟩ := ints_fn hss 0
    have e9 : ss = [.int fi (u9 0), .int lap (u9 1), .int lap (u9 2), .int lap (u9 3)] := hu9
    clear hu9 hss
    subst e9
    k_steps
    all_goals first
      | (rename (¬ sizesL _ _ _ = _) => hne; exact absurd rfl hne)
      | (try dsimp only
         refine' hret _ _ _ ?gF ?gN ?gs ?gv ?gz; (case gF => assumption); (case gN => exact cb_drop (by assumption) (by kcj_all)); (case gs => exact rfl); (case gv => exact rfl); (case gz => exact rfl))
  · obtain ⟨u9, hu9⟩ := ints_fn hss 0
    have e9 : ss = [.int fi (u9 0), .int lap (u9 1), .int lap (u9 2), .int lap (u9 3), .int lap (u9 4), .int lap (u9 5)] := hu9
    clear hu9 hss
    subst e9
    k_steps
    all_goals first
      | (rename (¬ sizesL _ _ _ = _) => hne; exact absurd rfl hne)
      | (try dsimp only
         refine' hret _ _ _ ?gF ?gN ?gs ?gv ?gz; (case gF => assumption); (case gN => exact cb_drop (by assumption) (by kcj_all)); (case gs => exact rfl); (case gv => exact rfl); (case gz => exact rfl))
  · obtain ⟨u9, hu9⟩ := ints_fn hss 0
    have e9 : ss = [.int fi (u9 0), .int lap (u9 1), .int lap (u9 2), .int lap (u9 3), .int lap (u9 4), .int lap (u9 5), .int lap (u9 6), .int lap (u9 7), .int lap (u9 8)] := hu9
    clear hu9 hss
    subst e9
    k_steps
    all_goals first
      | (rename (¬ sizesL _ _ _ = _) => hne; exact absurd rfl hne)
      | (try dsimp only
         refine' hret _ _ _ ?gF ?gN ?gs ?gv ?gz; (case gF => assumption); (case gN => exact cb_drop (by assumption) (by kcj_all)); (case gs => exact rfl); (case gv => exact rfl); (case gz => exact rfl))
end law_check_K
theorem law_check {w : World} {mean : ExcName → Option Value} {mg mb : Str → Option Value} {base : Heap} {L fa : Addr} {cd : Value} {m : Str → Option Value} {s : Shared} {Q : Flow → Shared → Prop} {rest : List Stmt} {o1 o2 o3 o4 o5 o6 o7 o8 : Obj} {D S O O1 O2 O3 : Addr} {ws : List Value} {cnt sc c c1 c2 c3 : Nat} {u t1 t2 t4 t6 t7 : Tok} {sh va : UInt64} {fi st : Int} : law_check_S w mean mg mb base L fa cd m s Q rest o1 o2 o3 o4 o5 o6 o7 o8 D S O O1 O2 O3 ws cnt sc c c1 c2 c3 u t1 t2 t4 t6 t7 sh va fi st := @by_bad (fun c => law_check_S (c.w 0) (c.me 0) (c.m 0) (c.m 1) (c.h 0) (c.n 0) (c.n 1) (c.v 0) (c.m 2) (c.sh 0) (c.qf 0) (c.lst 0) (c.o 0) (c.o 1) (c.o 2) (c.o 3) (c.o 4) (c.o 5) (c.o 6) (c.o 7) (c.n 2) (c.n 3) (c.n 4) (c.n 5) (c.n 6) (c.n 7) (c.lv 0) (c.n 8) (c.n 9) (c.n 10) (c.n 11) (c.n 12) (c.n 13) (c.n 14) (c.n 15) (c.n 16) (c.n 17) (c.n 18) (c.n 19) (c.u 0) (c.u 1) (c.i 0) (c.i 1)) (by with_unfolding_all exact law_check_K.main) { cx0 with n := fromL (0) [L, fa, D, S, O, O1, O2, O3, cnt, sc, c, c1, c2, c3, u, t1, t2, t4, t6, t7], i := fromL (0) [fi, st], u := fromL (0) [sh, va], o := fromL (default) [o1, o2, o3, o4, o5, o6, o7, o8], v := fromL (.none) [cd], lv := fromL ([]) [ws], m := fromL (fun _ => none) [mg, mb, m], sh := fromL ({}) [s], h := fromL ({}) [base], lst := fromL ([]) [rest], w := fromL (worldZ) [w], me := fromL (fun _ => none) [mean], qf := fromL (fun _ _ => True) [Q] }
end
local macro_rules | `(tactic| walk_at "call ref") => `(tactic| (k_here; ksl_open word_2))
section
local macro_rules | `(tactic| omega) => `(tactic| first | (with_reducible kas_types) | lia)
noncomputable def Apart8 (L x : Nat) : Prop := x ≠ 105 ∧ x ≠ L + 1 ∧ x ≠ L + 1 + 1 ∧ x ≠ L + 1 + 1 + 1 ∧ x ≠ L + 1 + 1 + 1 + 1 ∧ x ≠ L + 1 + 1 + 1 + 1 + 1 ∧ x ≠ L + 1 + 1 + 1 + 1 + 1 + 1 ∧ x ≠ L + 1 + 1 + 1 + 1 + 1 + 1 + 1 ∧ x ≠ L + 1 + 1 + 1 + 1 + 1 + 1 + 1 + 1
noncomputable def namesL (cs : List Int) : List Str := (cs.drop 3).map fun c => wordT (c.fmod 73)
open PyProof.Rows.LCg
@[reducible] noncomputable def law_names_S (w : World) (mean : ExcName → Option Value) (mg mb : Str → Option Value) (base : Heap) (L fa : Addr) (cd : Value) (m : Str → Option Value) (s : Shared) (Q : Flow → Shared → Prop) (rest : List Stmt) (o1 o2 o3 o4 o5 o6 o7 o8 : Obj) (D S : Addr) (ws ss : List Value) (cnt sc : Nat) (t1 t2 : Tok) (sh va : UInt64) (cs : List Int) : Prop := ∀ (B : Below callerA base [] base) (F : Fr base L s.heap m) (X : (KX w.params).In base) (T : Top topProg lawLoose mean mg mb base) (N : News base L s.heap ((S, W.listOf ss.toArray sc) :: (D, W.listOf ws.toArray cnt) :: ((L + 1 + 1 + 1 + 1 + 1 + 1 + 1 + 1 : Addr), o8) :: ((L + 1 + 1 + 1 + 1 + 1 + 1 + 1 : Addr), o7) :: ((L + 1 + 1 + 1 + 1 + 1 + 1 : Addr), o6) :: ((L + 1 + 1 + 1 + 1 + 1 : Addr), o5) :: ((L + 1 + 1 + 1 + 1 : Addr), o4) :: ((L + 1 + 1 + 1 : Addr), o3) :: ((L + 1 + 1 : Addr), o2) :: ((L + 1 : Addr), o1) :: (105, W.tabObj #[]) :: [])) (h105 : @LT.lt Nat _ 105 L) (hD : @LT.lt Nat _ (L+1+1+1+1+1+1+1+1) D) (hDS : @LT.lt Nat _ D S) (hws : IntsAre ws cs) (hcs : cs.length = 11) (ho1 : o1.data = .cell (some (.ref D))) (ho6 : o6.data = .cell none) (hms : m (Str.ofString "share") = some (.float sh t1)) (hmv : m (Str.ofString "value") = some (.float va t2)) (hmz : m (Str.ofString "sizes") = some (.ref S)) (hret : ∀ (Nn : Addr) (ns : List Value) (o6 : Obj) (h' : Heap) (tk' : Nat), Fr base L h' m → News base L h' ((Nn, lst ns) :: (S, W.listOf ss.toArray sc) :: (D, W.listOf ws.toArray cnt) :: ((L + 1 + 1 + 1 + 1 + 1 + 1 + 1 + 1 : Addr), o8) :: ((L + 1 + 1 + 1 + 1 + 1 + 1 + 1 : Addr), o7) :: ((L + 1 + 1 + 1 + 1 + 1 + 1 : Addr), o6) :: ((L + 1 + 1 + 1 + 1 + 1 : Addr), o5) :: ((L + 1 + 1 + 1 + 1 : Addr), o4) :: ((L + 1 + 1 + 1 : Addr), o3) :: ((L + 1 + 1 : Addr), o2) :: ((L + 1 : Addr), o1) :: (105, W.tabObj #[]) :: []) → Apart8 L Nn → @Ne Nat S Nn → @Ne Nat D Nn → StrsAre ns (namesL cs) → o6.data = .cell (some (.ref Nn)) → wpAny (model Challenge.rw_st0007_01.prog w) (lawA L fa cd) (execs rest (lawEnv L fa cd)) Q (fun _ _ => False) { s with heap := h', toks := tk' }), wpAny (model Challenge.rw_st0007_01.prog w) (lawA L fa cd) (execs (lawCut 15 1 ++ rest) (lawEnv L fa cd)) Q (fun _ _ => False) s
namespace law_names_K
@[irreducible] noncomputable def pt : Cx := bad fun c => law_names_S (c.w 0) (c.me 0) (c.m 0) (c.m 1) (c.h 0) (c.n 0) (c.n 1) (c.v 0) (c.m 2) (c.sh 0) (c.qf 0) (c.lst 0) (c.o 0) (c.o 1) (c.o 2) (c.o 3) (c.o 4) (c.o 5) (c.o 6) (c.o 7) (c.n 2) (c.n 3) (c.lv 0) (c.lv 1) (c.n 4) (c.n 5) (c.n 6) (c.n 7) (c.u 0) (c.u 1) (c.li 0)
@[irreducible] noncomputable def cs : List Int := pt.li 0
theorem main : law_names_S (pt.w 0) (pt.me 0) (pt.m 0) (pt.m 1) (pt.h 0) (pt.n 0) (pt.n 1) (pt.v 0) (pt.m 2) (pt.sh 0) (pt.qf 0) (pt.lst 0) (pt.o 0) (pt.o 1) (pt.o 2) (pt.o 3) (pt.o 4) (pt.o 5) (pt.o 6) (pt.o 7) (pt.n 2) (pt.n 3) (pt.lv 0) (pt.lv 1) (pt.n 4) (pt.n 5) (pt.n 6) (pt.n 7) (pt.u 0) (pt.u 1) cs := by
  intro B F X T N h105 hD hDS hws hcs ho1 ho6 hms hmv hmz hret
  have hmk101 := MarkH.mk (n := 101)
  have hmk102 := MarkH.mk (n := 102)
  rw [show lawCut 15 1 = [_] from rfl]
  revert X; k_fill; intro X
  k_steps
  refine Hold.on ?_
  refine wpAny_Assign_Name ?_
  refine Hold.on ?_
  k_dflt (refine' LCg.ListComp_U ?c0 ?c1 ?c2 ?c3 ?c4 ?c5 ?_)
  case c0 => k_asm
  case c1 => exact rfl
  case c2 => decide
  case c3 => rfl
  case c4 => decide
  case c5 => rfl
  lcg_toSrc
  dsimp only
  refine Hold.on ?_
  refine LCg.CompSrc.ledger (by rfl) (by k_asm) (by k_asm) (by k_mem) (by (rename IntsAre _ (List.drop 3 cs) => hz; have := IntsAre.length hz; rw [List.size_toArray, sizeLine_eq]; simp at this; omega)) ?_
  intro g9
  dsimp only
  rename IntsAre _ (List.drop 3 cs) => hz
  refine comp_rest (fun i ys nw => nw = _ ∧ StrsAre ys ((namesL cs).take i)) ⟨rfl, .nil⟩ (fun i' v' I' oI' C' oC' D' m' ys' nw' h' tk' E' hi' hR' hv' hC' hx' F' N' off' ne' => ?_) ?_
  · obtain ⟨rfl, hys⟩ := hR'
    obtain ⟨c, tv, rfl, hc⟩ := IntsAre.at hz i' _ (by simpa using hv')
    have hm0 := Int.fmod_nonneg_of_pos c (b := 73) (by omega)
    have hm1 := Int.fmod_lt_of_pos c (b := 73) (by omega)
    k_steps
    refine LCg.CompEnd.intro (by k_asm) (by k_asm) _ (fun p hp => hp) off' (by lcg_src) ⟨rfl, ?_⟩
    rw [List.take_add_one, show (namesL cs)[i']? = some (wordT (c.fmod 73)) by unfold namesL; rw [List.getElem?_map, hc]; rfl]
    exact kct_snoc hys
  rintro ys nw ⟨rfl, hys⟩ D9 h9 tk9 F9 N9 off9
  simp only [LCg.Off1, and_true] at off9
  dsimp only
  k_steps
  have hl : (namesL cs).length = 8 := by unfold namesL; simp; omega
  have hz' := IntsAre.length hz
  rw [List.take_of_length_le (by rw [hl, List.size_toArray, hz']; simp; omega)] at hys
  (refine' hret _ _ _ _ _ ?gF ?gN ?ga ?gb ?gc ?gh ?g6; (case gF => assumption); (case gN => (first | assumption | exact cb_drop (by assumption) (by kcj_all))); (case ga => (unfold Apart8; omega)); (case gb => omega); (case gc => omega); (case gh => exact hys); (case g6 => assumption))
end law_names_K
theorem law_names {w : World} {mean : ExcName → Option Value} {mg mb : Str → Option Value} {base : Heap} {L fa : Addr} {cd : Value} {m : Str → Option Value} {s : Shared} {Q : Flow → Shared → Prop} {rest : List Stmt} {o1 o2 o3 o4 o5 o6 o7 o8 : Obj} {D S : Addr} {ws ss : List Value} {cnt sc : Nat} {t1 t2 : Tok} {sh va : UInt64} {cs : List Int} : law_names_S w mean mg mb base L fa cd m s Q rest o1 o2 o3 o4 o5 o6 o7 o8 D S ws ss cnt sc t1 t2 sh va cs := @by_bad (fun c => law_names_S (c.w 0) (c.me 0) (c.m 0) (c.m 1) (c.h 0) (c.n 0) (c.n 1) (c.v 0) (c.m 2) (c.sh 0) (c.qf 0) (c.lst 0) (c.o 0) (c.o 1) (c.o 2) (c.o 3) (c.o 4) (c.o 5) (c.o 6) (c.o 7) (c.n 2) (c.n 3) (c.lv 0) (c.lv 1) (c.n 4) (c.n 5) (c.n 6) (c.n 7) (c.u 0) (c.u 1) (c.li 0)) (by with_unfolding_all exact law_names_K.main) { cx0 with n := fromL (0) [L, fa, D, S, cnt, sc, t1, t2], u := fromL (0) [sh, va], o := fromL (default) [o1, o2, o3, o4, o5, o6, o7, o8], v := fromL (.none) [cd], lv := fromL ([]) [ws, ss], m := fromL (fun _ => none) [mg, mb, m], sh := fromL ({}) [s], h := fromL ({}) [base], lst := fromL ([]) [rest], w := fromL (worldZ) [w], me := fromL (fun _ => none) [mean], qf := fromL (fun _ _ => True) [Q], li := fromL ([]) [cs] }
end
local macro_rules | `(tactic| walk_at "call ref") => `(tactic| (k_here; ksl_open written_w))
section
local macro_rules | `(tactic| walk_at "call builtin:str.join") => `(tactic| (k_here; k_dflt (refine' join_list ?k1 ?k2 ?k3 ?_; (case k1 => exact News.isList (by k_asm) (by k_mem)); (case k2 => (with_reducible assumption)); (case k3 => first | assumption | exact esc_ok (by assumption)); k_whole); intro _ _))
local macro_rules | `(tactic| walk_at "subscriptTail") => `(tactic| (k_here; k_dflt (refine' item_strsA (ys := gapsL) (News.isList (by k_asm) (by k_mem)) ?_ ?_ ?_ ?_ ?_; assumption; omega; (show _ < (5 : Int); omega); omega); intro _))
noncomputable def gapsL : List Str := [Str.ofString "", Str.ofString "\n", Str.ofString " ", Str.ofString "\t", Str.ofString "\r\n"]
open PyProof.Rows.LCg
theorem law_gaps {w : World} {mean : ExcName → Option Value} {mg mb : Str → Option Value} {base : Heap} {L fa : Addr} {cd : Value} {m : Str → Option Value} {s : Shared} {Q : Flow → Shared → Prop} {rest : List Stmt} {o1 o2 o3 o4 o5 o6 o7 o8 : Obj} {D S Nn : Addr} {ws ss ns : List Value} {cnt sc : Nat}
    (B : Below callerA base [] base) (F : Fr base L s.heap m) (X : (KX w.params).In base) (T : Top topProg lawLoose mean mg mb base) (N : News base L s.heap ((Nn, LCg.lst ns) :: (S, W.listOf ss.toArray sc) :: (D, W.listOf ws.toArray cnt) :: ((L + 1 + 1 + 1 + 1 + 1 + 1 + 1 + 1 : Addr), o8) :: ((L + 1 + 1 + 1 + 1 + 1 + 1 + 1 : Addr), o7) :: ((L + 1 + 1 + 1 + 1 + 1 + 1 : Addr), o6) :: ((L + 1 + 1 + 1 + 1 + 1 : Addr), o5) :: ((L + 1 + 1 + 1 + 1 : Addr), o4) :: ((L + 1 + 1 + 1 : Addr), o3) :: ((L + 1 + 1 : Addr), o2) :: ((L + 1 : Addr), o1) :: (105, W.tabObj #[]) :: [])) (h105 : @LT.lt Nat _ 105 L) (hD : @LT.lt Nat _ (L+1+1+1+1+1+1+1+1) D) (hDS : @LT.lt Nat _ D S) (hN8 : Apart8 L Nn) (ho7 : o7.data = .cell none)
    (hret : ∀ (Gp : Addr) (gs : List Value) (gc : Nat) (o7 : Obj) (h' : Heap) (tk' : Nat), Fr base L h' m → News base L h' ((Gp, W.listOf gs.toArray gc) :: (Nn, LCg.lst ns) :: (S, W.listOf ss.toArray sc) :: (D, W.listOf ws.toArray cnt) :: ((L + 1 + 1 + 1 + 1 + 1 + 1 + 1 + 1 : Addr), o8) :: ((L + 1 + 1 + 1 + 1 + 1 + 1 + 1 : Addr), o7) :: ((L + 1 + 1 + 1 + 1 + 1 + 1 : Addr), o6) :: ((L + 1 + 1 + 1 + 1 + 1 : Addr), o5) :: ((L + 1 + 1 + 1 + 1 : Addr), o4) :: ((L + 1 + 1 + 1 : Addr), o3) :: ((L + 1 + 1 : Addr), o2) :: ((L + 1 : Addr), o1) :: (105, W.tabObj #[]) :: []) → @LT.lt Nat _ (L+1+1+1+1+1+1+1+1) Gp → @LT.lt Nat _ D Gp → @LT.lt Nat _ S Gp → @LT.lt Nat _ Nn Gp → StrsAre gs gapsL → o7.data = .cell (some (.ref Gp)) → wpAny (model Challenge.rw_st0007_01.prog w) (lawA L fa cd) (execs rest (lawEnv L fa cd)) Q (fun _ _ => False) { s with heap := h', toks := tk' }) : wpAny (model Challenge.rw_st0007_01.prog w) (lawA L fa cd) (execs (lawCut 16 1 ++ rest) (lawEnv L fa cd)) Q (fun _ _ => False) s := by
  have hmk101 := MarkH.mk (n := 101)
  have hmk102 := MarkH.mk (n := 102)
  rw [show lawCut 16 1 = [_] from rfl]
  revert X; k_fill; intro X
  unfold Apart8 at hN8
  k_steps
  try dsimp only
  (refine' hret _ _ _ _ _ _ ?gF ?gN ?ga ?gb ?gc ?gd ?gh ?g6; (case gF => assumption); (case g6 => assumption); (case gN => (first | assumption | exact cb_drop (by assumption) (by kcj_all))); (case ga => omega); (case gb => omega); (case gc => omega); (case gd => omega); (case gh => exact .cons _ _ (.cons _ _ (.cons _ _ (.cons _ _ (.cons _ _ .nil))))))
theorem nameAt_len {l : List Str} (h : ∀ x ∈ l, x.length ≤ 2) (k : Nat) : (l.getD k Str.empty).length ≤ 2 := by
  rw [List.getD_eq_getElem?_getD]
  cases e : l[k]? with
  | none => exact (by decide : (0 : Nat) ≤ 2)
  | some x => exact h x (List.mem_of_getElem? e)
noncomputable def wayOf (c : Int) : Int := (c.fdiv 73).fmod 4
noncomputable def gapOf (c : Int) : Str := gapsL.getD ((c.fdiv 292).fmod 5).toNat Str.empty
noncomputable def partsL (cs : List Int) : List Str := (List.range 8).map fun k => writtenT ((namesL cs).getD k Str.empty) (wayOf (cs.getD (k + 3) 0)) (gapOf (cs.getD (k + 3) 0))
theorem written_len {x g : Str} {y : Int} (hx : x.length ≤ 2) (hg : g.length ≤ 2) : (writtenT x y g).length ≤ 8 := by
  have hb := body_len (H := hidT x y) hx
  have q : (Str.ofString "\"").length = 1 := by decide +kernel
  have q2 : (Str.ofString "\r").length = 1 := by decide +kernel
  unfold writtenT bodyT
  split
  · simp only [Str.length_append, q]; omega
  · split
    · simp only [Str.length_append, q]; omega
    · split
      · simp only [Str.length_append]; omega
      · simp only [Str.length_append, q2]; omega
theorem gap_len (c : Int) : (gapOf c).length ≤ 2 := nameAt_len (by decide +kernel) _
theorem sum_le {l : List Str} {b : Nat} (h : ∀ x ∈ l, x.length ≤ b) : (l.map (·.length)).sum ≤ b * l.length := by
  induction l with
  | nil => simp
  | cons a r ih =>
    have h1 := h a (.head _)
    have h2 := ih fun x hx => h x (.tail _ hx)
    simp only [List.map_cons, List.sum_cons, List.length_cons]
    rw [Nat.mul_add]; omega
theorem parts_ok {cs : List Int} (hnl : ∀ x ∈ namesL cs, x.length ≤ 2) : ((partsL cs).map (·.length)).sum + (partsL cs).length * (Str.ofString "").length ≤ 16777216 := by
  have h := sum_le (l := partsL cs) (b := 8) (fun x hx => by
    obtain ⟨k, _, rfl⟩ := List.mem_map.mp hx
    exact written_len (nameAt_len hnl _) (gap_len _))
  have e : (partsL cs).length = 8 := by simp [partsL]
  have z : (Str.ofString "").length = 0 := by decide +kernel
  rw [e] at h ⊢
  rw [z]; omega
theorem join_len {cs : List Int} (hnl : ∀ x ∈ namesL cs, x.length ≤ 2) : (Txt.join (Str.ofString "") (partsL cs)).length ≤ 64 := by
  have h := sum_le (l := partsL cs) (b := 8) (fun x hx => by
    obtain ⟨k, _, rfl⟩ := List.mem_map.mp hx
    exact written_len (nameAt_len hnl _) (gap_len _))
  have e : (partsL cs).length = 8 := by simp [partsL]
  have z : (Str.ofString "").length = 0 := by decide +kernel
  have j := StrLaws.join_length_le (Str.ofString "") (partsL cs)
  rw [z] at j
  rw [show Txt.join (Str.ofString "") (partsL cs) = Str.join (Str.ofString "") (partsL cs) from StrLaws.glued_eq_join _ _]
  exact Nat.le_trans j (by rw [Nat.mul_zero, Nat.add_zero]; exact Nat.le_trans h (Nat.le_of_eq (by rw [e])))
noncomputable def textT (cs : List Int) : Str := Txt.join (Str.ofString "") (partsL cs) ++ Str.ofString "."
theorem law_text {w : World} {mean : ExcName → Option Value} {mg mb : Str → Option Value} {base : Heap} {L fa : Addr} {cd : Value} {m : Str → Option Value} {s : Shared} {Q : Flow → Shared → Prop} {rest : List Stmt} {o1 o2 o3 o4 o5 o6 o7 o8 : Obj} {D S Nn Gp : Addr} {ws ss ns gs : List Value} {cnt sc gc : Nat} {t1 t2 : Tok} {sh va : UInt64} {cs : List Int}
    (B : Below callerA base [] base) (F : Fr base L s.heap m) (X : (KX w.params).In base) (T : Top topProg lawLoose mean mg mb base) (N : News base L s.heap ((Gp, W.listOf gs.toArray gc) :: (Nn, LCg.lst ns) :: (S, W.listOf ss.toArray sc) :: (D, W.listOf ws.toArray cnt) :: ((L + 1 + 1 + 1 + 1 + 1 + 1 + 1 + 1 : Addr), o8) :: ((L + 1 + 1 + 1 + 1 + 1 + 1 + 1 : Addr), o7) :: ((L + 1 + 1 + 1 + 1 + 1 + 1 : Addr), o6) :: ((L + 1 + 1 + 1 + 1 + 1 : Addr), o5) :: ((L + 1 + 1 + 1 + 1 : Addr), o4) :: ((L + 1 + 1 + 1 : Addr), o3) :: ((L + 1 + 1 : Addr), o2) :: ((L + 1 : Addr), o1) :: (105, W.tabObj #[]) :: [])) (h105 : @LT.lt Nat _ 105 L) (hD : @LT.lt Nat _ (L+1+1+1+1+1+1+1+1) D) (hG : @LT.lt Nat _ D Gp) (hNG : @LT.lt Nat _ Nn Gp) (hws : IntsAre ws cs) (hcs : cs.length = 11) (hns : StrsAre ns (namesL cs)) (hnl : ∀ x ∈ namesL cs, x.length ≤ 2) (hgs : StrsAre gs gapsL) (ho1 : o1.data = .cell (some (.ref D))) (ho6 : o6.data = .cell (some (.ref Nn))) (ho7 : o7.data = .cell (some (.ref Gp))) (hms : m (Str.ofString "share") = some (.float sh t1)) (hmv : m (Str.ofString "value") = some (.float va t2)) (hmz : m (Str.ofString "sizes") = some (.ref S))
    (hret : ∀ (t3 : Tok) (m' : Str → Option Value) (h' : Heap) (tk' : Nat), Fr base L h' m' → News base L h' ((Gp, W.listOf gs.toArray gc) :: (Nn, LCg.lst ns) :: (S, W.listOf ss.toArray sc) :: (D, W.listOf ws.toArray cnt) :: ((L + 1 + 1 + 1 + 1 + 1 + 1 + 1 + 1 : Addr), o8) :: ((L + 1 + 1 + 1 + 1 + 1 + 1 + 1 : Addr), o7) :: ((L + 1 + 1 + 1 + 1 + 1 + 1 : Addr), o6) :: ((L + 1 + 1 + 1 + 1 + 1 : Addr), o5) :: ((L + 1 + 1 + 1 + 1 : Addr), o4) :: ((L + 1 + 1 + 1 : Addr), o3) :: ((L + 1 + 1 : Addr), o2) :: ((L + 1 : Addr), o1) :: (105, W.tabObj #[]) :: []) → m' (Str.ofString "share") = some (.float sh t1) → m' (Str.ofString "value") = some (.float va t2) → m' (Str.ofString "sizes") = some (.ref S) → m' (Str.ofString "text") = some (.str (textT cs) t3) → wpAny (model Challenge.rw_st0007_01.prog w) (lawA L fa cd) (execs rest (lawEnv L fa cd)) Q (fun _ _ => False) { s with heap := h', toks := tk' }) : wpAny (model Challenge.rw_st0007_01.prog w) (lawA L fa cd) (execs (lawCut 17 1 ++ rest) (lawEnv L fa cd)) Q (fun _ _ => False) s := by
  have hmk101 := MarkH.mk (n := 101)
  have hmk102 := MarkH.mk (n := 102)
  rw [show lawCut 17 1 = [_] from rfl]
  revert X; k_fill; intro X
  rw [known_eq hms, known_eq hmv, known_eq hmz] at F
  have hl8 : (namesL cs).length = 8 := by unfold namesL; simp; omega
  have hg5 : gapsL.length = 5 := rfl
  k_steps
  refine Hold.on ?_
  k_dflt (refine' LCg.ListComp_U ?c0 ?c1 ?c2 ?c3 ?c4 ?c5 ?_)
  case c0 => k_asm
  case c1 => exact rfl
  case c2 => decide
  case c3 => rfl
  case c4 => decide
  case c5 => rfl
  lcg_toSrc
  dsimp only
  refine Hold.on ?_
  refine LCg.CompSrc.range (by rfl) (by k_asm) (by k_asm) (by assumption) (by decide) (n := 8) rfl (by rw [sizeLine_eq]; decide) ?_
  intro g9
  dsimp only
  refine comp_rest (fun i ys nw => nw = _ ∧ StrsAre ys ((partsL cs).take i)) ⟨rfl, .nil⟩ (fun i' v' I' oI' C' oC' D' m' ys' nw' h' tk' E' hi' hR' hv' hC' hx' F' N' off' ne' => ?_) ?_
  · obtain ⟨rfl, hys⟩ := hR'
    obtain ⟨tv, rfl⟩ := hv'
    have b1 := Int.fmod_nonneg_of_pos ((cs.getD (0 + (i' : Int) + 3).toNat 0).fdiv 292) (b := 5) (by omega)
    have b2 := Int.fmod_lt_of_pos ((cs.getD (0 + (i' : Int) + 3).toNat 0).fdiv 292) (b := 5) (by omega)
    have b3 := Int.fmod_nonneg_of_pos ((cs.getD (0 + (i' : Int) + 3).toNat 0).fdiv 73) (b := 4) (by omega)
    have b4 := Int.fmod_lt_of_pos ((cs.getD (0 + (i' : Int) + 3).toNat 0).fdiv 73) (b := 4) (by omega)
    have hx2 : ((namesL cs).getD (0 + (i' : Int)).toNat Str.empty).length ≤ 2 := nameAt_len hnl _
    have hg2 : (gapsL.getD ((cs.getD (0 + (i' : Int) + 3).toNat 0).fdiv 292 |>.fmod 5).toNat Str.empty).length ≤ 2 := nameAt_len (by decide +kernel) _
    k_steps
    refine LCg.CompEnd.intro (by k_asm) (by k_asm) _ (fun p hp => hp) off' trivial ⟨rfl, ?_⟩
    have e1 : (0 + (i' : Int)).toNat = i' := by omega
    have e3 : (0 + (i' : Int) + 3).toNat = i' + 3 := by omega
    rw [e1, e3, List.take_add_one, show (partsL cs)[i']? = some (writtenT ((namesL cs).getD i' Str.empty) (wayOf (cs.getD (i' + 3) 0)) (gapOf (cs.getD (i' + 3) 0))) by unfold partsL; rw [List.getElem?_map, List.getElem?_range hi']; rfl]
    exact kct_snoc (by assumption)
  rintro ys nw ⟨rfl, hys⟩ D9 h9 tk9 F9 N9 off9
  simp only [LCg.Off1, and_true] at off9
  dsimp only
  replace hys : StrsAre ys.toArray.toList (partsL cs) := hys
  have hok := parts_ok hnl
  have hjl := join_len hnl
  k_steps
  try dsimp only
  (refine' hret _ _ _ _ ?gF ?gN ?gs ?gv ?gz ?gt; (case gF => assumption); (case gN => (first | assumption | exact cb_drop (by assumption) (by kcj_all))); (case gs => exact rfl); (case gv => exact rfl); (case gz => exact rfl); (case gt => exact rfl))
end
section
structure LxOk (w : World) (x : Str) (L sf D0 P l dx fr d : Nat) (held : List (Addr × Obj)) : Prop where
  at' : StreamAt w x D0 fr l d held
  tab : ∃ ps, ((105 : Addr), tabObj ps) ∈ held
  lt1 : @LT.lt Nat _ l dx
  lt2 : @LT.lt Nat _ dx sf
  lt3 : @LT.lt Nat _ sf P
  offl : ∀ p ∈ held, p.1 ≠ l
  offh : ∀ p ∈ held, @LT.lt Nat _ p.1 dx
  hi : @LT.lt Nat _ (L + 1 + 1 + 1 + 1 + 1 + 1 + 1 + 1) l
  hh : ∀ p ∈ held, p.1 = (105 : Addr) ∨ @LT.lt Nat _ (L + 1 + 1 + 1 + 1 + 1 + 1 + 1 + 1) p.1
open PyProof.Rows.LCg
@[reducible] noncomputable def law_lexer_S (w : World) (mean : ExcName → Option Value) (mg mb : Str → Option Value) (base : Heap) (L fa : Addr) (cd : Value) (m : Str → Option Value) (s : Shared) (Q : Flow → Shared → Prop) (rest : List Stmt) (o1 o2 o3 o4 o5 o6 o7 o8 : Obj) (D S Nn Gp : Addr) (ws ss ns gs : List Value) (cnt sc gc : Nat) (t1 t2 t3 : Tok) (sh va : UInt64) (x : Str) : Prop := ∀ (B : Below callerA base [] base) (F : Fr base L s.heap m) (X : (KX w.params).In base) (T : Top topProg lawLoose mean mg mb base) (N : News base L s.heap ((Gp, W.listOf gs.toArray gc) :: (Nn, LCg.lst ns) :: (S, W.listOf ss.toArray sc) :: (D, W.listOf ws.toArray cnt) :: ((L + 1 + 1 + 1 + 1 + 1 + 1 + 1 + 1 : Addr), o8) :: ((L + 1 + 1 + 1 + 1 + 1 + 1 + 1 : Addr), o7) :: ((L + 1 + 1 + 1 + 1 + 1 + 1 : Addr), o6) :: ((L + 1 + 1 + 1 + 1 + 1 : Addr), o5) :: ((L + 1 + 1 + 1 + 1 : Addr), o4) :: ((L + 1 + 1 + 1 : Addr), o3) :: ((L + 1 + 1 : Addr), o2) :: ((L + 1 : Addr), o1) :: (105, W.tabObj #[]) :: [])) (C0 : CodeHd base 109 105) (hx : x.length ≤ 1000) (h105 : @LT.lt Nat _ 105 L) (hD : @LT.lt Nat _ (L+1+1+1+1+1+1+1+1) D) (hDS : @LT.lt Nat _ D S) (hN8 : Apart8 L Nn) (hG8 : @LT.lt Nat _ D Gp) (ho8 : o8.data = .cell none) (hms : m (Str.ofString "share") = some (.float sh t1)) (hmv : m (Str.ofString "value") = some (.float va t2)) (hmz : m (Str.ofString "sizes") = some (.ref S)) (hmt : m (Str.ofString "text") = some (.str x t3)) (hret : ∀ (self D0 P l dx fr d : Addr) (a1 a2 a3 a4 b1 b2 t : Tok) (pn : Nat) (held : List (Addr × Obj)) (o8 : Obj) (m' : Str → Option Value) (h' : Heap) (tk' : Nat), Fr base L h' m' → News base L h' ((P, W.listOf #[] pn) :: (l, W.listOf #[.int ((0 : Nat) : Int) t] 0) :: (dx, lexD w D0 P a1 a2 a3 a4 (1) b1 b2) :: (self, instObj 87 dx) :: (Nn, LCg.lst ns) :: (S, W.listOf ss.toArray sc) :: ((L + 1 + 1 + 1 + 1 + 1 + 1 + 1 + 1 : Addr), o8) :: ((L + 1 + 1 + 1 + 1 + 1 + 1 + 1 : Addr), o7) :: ((L + 1 + 1 + 1 + 1 + 1 + 1 : Addr), o6) :: ((L + 1 + 1 + 1 + 1 + 1 : Addr), o5) :: ((L + 1 + 1 + 1 + 1 : Addr), o4) :: ((L + 1 + 1 + 1 : Addr), o3) :: ((L + 1 + 1 : Addr), o2) :: ((L + 1 : Addr), o1) :: held) → LxOk w x L self D0 P l dx fr d held → (∀ p ∈ held, p.1 = (105 : Addr) ∨ (@LT.lt Nat _ Nn p.1 ∧ @LT.lt Nat _ S p.1)) → @LT.lt Nat _ Nn l → @LT.lt Nat _ S l → o8.data = .cell (some (.ref self)) → m' (Str.ofString "share") = some (.float sh t1) → m' (Str.ofString "value") = some (.float va t2) → m' (Str.ofString "sizes") = some (.ref S) → m' (Str.ofString "text") = some (.str x t3) → wpAny (model Challenge.rw_st0007_01.prog w) (lawA L fa cd) (execs rest (lawEnv L fa cd)) Q (fun _ _ => False) { s with heap := h', toks := tk' }), wpAny (model Challenge.rw_st0007_01.prog w) (lawA L fa cd) (execs (lawCut 18 1 ++ rest) (lawEnv L fa cd)) Q (fun _ _ => False) s
namespace law_lexer_K
@[irreducible] noncomputable def pt : Cx := bad fun c => law_lexer_S (c.w 0) (c.me 0) (c.m 0) (c.m 1) (c.h 0) (c.n 0) (c.n 1) (c.v 0) (c.m 2) (c.sh 0) (c.qf 0) (c.lst 0) (c.o 0) (c.o 1) (c.o 2) (c.o 3) (c.o 4) (c.o 5) (c.o 6) (c.o 7) (c.n 2) (c.n 3) (c.n 4) (c.n 5) (c.lv 0) (c.lv 1) (c.lv 2) (c.lv 3) (c.n 6) (c.n 7) (c.n 8) (c.n 9) (c.n 10) (c.n 11) (c.u 0) (c.u 1) (c.st 0)
@[irreducible] noncomputable def w : World := pt.w 0
@[irreducible] noncomputable def base : Heap := pt.h 0
@[irreducible] noncomputable def L : Addr := pt.n 0
@[irreducible] noncomputable def o1 : Obj := pt.o 0
@[irreducible] noncomputable def o2 : Obj := pt.o 1
@[irreducible] noncomputable def o3 : Obj := pt.o 2
@[irreducible] noncomputable def o4 : Obj := pt.o 3
@[irreducible] noncomputable def o5 : Obj := pt.o 4
@[irreducible] noncomputable def o6 : Obj := pt.o 5
@[irreducible] noncomputable def o7 : Obj := pt.o 6
@[irreducible] noncomputable def o8 : Obj := pt.o 7
@[irreducible] noncomputable def D : Addr := pt.n 2
@[irreducible] noncomputable def S : Addr := pt.n 3
@[irreducible] noncomputable def Nn : Addr := pt.n 4
@[irreducible] noncomputable def Gp : Addr := pt.n 5
@[irreducible] noncomputable def ws : List Value := pt.lv 0
@[irreducible] noncomputable def ss : List Value := pt.lv 1
@[irreducible] noncomputable def ns : List Value := pt.lv 2
@[irreducible] noncomputable def gs : List Value := pt.lv 3
@[irreducible] noncomputable def cnt : Nat := pt.n 6
@[irreducible] noncomputable def sc : Nat := pt.n 7
@[irreducible] noncomputable def gc : Nat := pt.n 8
@[irreducible] noncomputable def x : Str := pt.st 0
theorem main : law_lexer_S w (pt.me 0) (pt.m 0) (pt.m 1) base L (pt.n 1) (pt.v 0) (pt.m 2) (pt.sh 0) (pt.qf 0) (pt.lst 0) o1 o2 o3 o4 o5 o6 o7 o8 D S Nn Gp ws ss ns gs cnt sc gc (pt.n 9) (pt.n 10) (pt.n 11) (pt.u 0) (pt.u 1) x := by
  intro B F X T N C0 hx h105 hD hDS hN8 hG8 ho8 hms hmv hmz hmt hret
  rw [show lawCut 18 1 = [_] from rfl]
  revert X; k_fill; intro X
  rw [known_eq hms, known_eq hmv, known_eq hmz, known_eq hmt] at F
  unfold Apart8 at hN8
  have hmk := MarkH.mk (n := 201)
  k_steps
  refine Hold.on ?_
  rename Fr _ _ _ _ => F5
  rename News _ _ _ _ => N5
  have N6 : News base L _ ((105, tabObj #[]) :: ((Gp, W.listOf gs.toArray gc) :: (Nn, LCg.lst ns) :: (S, W.listOf ss.toArray sc) :: (D, W.listOf ws.toArray cnt) :: ((L + 1 + 1 + 1 + 1 + 1 + 1 + 1 + 1 : Addr), o8) :: ((L + 1 + 1 + 1 + 1 + 1 + 1 + 1 : Addr), o7) :: ((L + 1 + 1 + 1 + 1 + 1 + 1 : Addr), o6) :: ((L + 1 + 1 + 1 + 1 + 1 : Addr), o5) :: ((L + 1 + 1 + 1 + 1 : Addr), o4) :: ((L + 1 + 1 + 1 : Addr), o3) :: ((L + 1 + 1 : Addr), o2) :: ((L + 1 : Addr), o1) :: [])) := cb_drop N5 (by kcj_all)
  have h105' : ∀ p ∈ (Gp, W.listOf gs.toArray gc) :: (Nn, LCg.lst ns) :: (S, W.listOf ss.toArray sc) :: (D, W.listOf ws.toArray cnt) :: ((L + 1 + 1 + 1 + 1 + 1 + 1 + 1 + 1 : Addr), o8) :: ((L + 1 + 1 + 1 + 1 + 1 + 1 + 1 : Addr), o7) :: ((L + 1 + 1 + 1 + 1 + 1 + 1 : Addr), o6) :: ((L + 1 + 1 + 1 + 1 + 1 : Addr), o5) :: ((L + 1 + 1 + 1 + 1 : Addr), o4) :: ((L + 1 + 1 + 1 : Addr), o3) :: ((L + 1 + 1 : Addr), o2) :: ((L + 1 : Addr), o1) :: [], p.1 ≠ (105 : Addr) := by
    repeat' (first | exact List.forall_mem_nil _ | refine List.forall_mem_cons.mpr ⟨?_, ?_⟩ | k_ne)
  clear N5
  k_dflt (refine' stream_w ?kcB ?kcF ?kcX N6 C0 hx h105' ?kcT ?kck ?kcd ?kcu ?_; (case kcB => assumption); (case kcF => assumption); (case kcX => assumption); (case kcT => assumption); (case kck => exact rfl); (case kcd => ktr_room); (case kcu => ktr_units))
  intro D0 fr l d t0 held h9 tk9 F9 N9 SA hl0 htab hheld hlnew
  clear N6 F5
  k_steps
  refine Hold.on ?_
  k_dflt (refine' lexer_w ?kcB F9 ?kcX N9 ?kcT ?kck ?kcd ?kcu ?_; (case kcB => assumption); (case kcX => assumption); (case kcT => assumption); (case kck => exact rfl); (case kcd => ktr_room); (case kcu => ktr_units))
  intro self P dx a1 a2 a3 a4 b1 b2 pn h10 tk10 F10 N10 hoff hne
  obtain ⟨q1, q2⟩ := hne
  have ol : @LT.lt Nat _ l dx := hoff _ (.head _)
  have oh : ∀ p ∈ held, @LT.lt Nat _ p.1 dx := fun p hp => hoff p (.tail _ (List.mem_append_left _ hp))
  have lG : @LT.lt Nat _ Gp l := hlnew _ (.head _)
  have lN : @LT.lt Nat _ Nn l := hlnew _ (.tail _ (.head _))
  have lS : @LT.lt Nat _ S l := hlnew _ (.tail _ (.tail _ (.head _)))
  have lL : @LT.lt Nat _ (L+1+1+1+1+1+1+1+1) l := hlnew (_, o8) (.tail _ (.tail _ (.tail _ (.tail _ (.head _)))))
  have ha8 : ∀ p ∈ held, p.1 = (105 : Addr) ∨ @LT.lt Nat _ (L+1+1+1+1+1+1+1+1) p.1 := fun p hp => (hheld p hp).imp id fun h => h (_, o8) (.tail _ (.tail _ (.tail _ (.tail _ (.head _)))))
  have hNS : ∀ p ∈ held, p.1 = (105 : Addr) ∨ (@LT.lt Nat _ Nn p.1 ∧ @LT.lt Nat _ S p.1) := fun p hp => (hheld p hp).imp id fun h => ⟨h _ (.tail _ (.head _)), h _ (.tail _ (.tail _ (.head _)))⟩
  have N11 : News base L h10 ((P, W.listOf #[] pn) :: (l, W.listOf #[.int ((0 : Nat) : Int) t0] 0) :: (dx, lexD w D0 P a1 a2 a3 a4 (1) b1 b2) :: (self, instObj 87 dx) :: (Nn, LCg.lst ns) :: (S, W.listOf ss.toArray sc) :: ((L + 1 + 1 + 1 + 1 + 1 + 1 + 1 + 1 : Addr), o8) :: ((L + 1 + 1 + 1 + 1 + 1 + 1 + 1 : Addr), o7) :: ((L + 1 + 1 + 1 + 1 + 1 + 1 : Addr), o6) :: ((L + 1 + 1 + 1 + 1 + 1 : Addr), o5) :: ((L + 1 + 1 + 1 + 1 : Addr), o4) :: ((L + 1 + 1 + 1 : Addr), o3) :: ((L + 1 + 1 : Addr), o2) :: ((L + 1 : Addr), o1) :: held) := fun p hp => N10 p (mem_p3 (Z2 := [_, _]) (Z8 := [_, _, _, _, _, _, _, _]) (H := held) hp)
  have hc8 : ∀ p ∈ held, p.1 ≠ L + 1 + 1 + 1 + 1 + 1 + 1 + 1 + 1 := fun p hp e => by
    rcases ha8 p hp with h | h
    · have h' : @Eq Nat (L + 1 + 1 + 1 + 1 + 1 + 1 + 1 + 1) 105 := e ▸ h
      omega
    · rw [e] at h; exact Nat.lt_irrefl _ h
  have V : LxOk w x L self D0 P l dx fr d held := ⟨SA, htab, ol, q1, q2, fun p hp => hl0 p (List.mem_append_left _ hp), oh, lL, ha8⟩
  clear N10 N9 hheld hlnew hl0 hoff F9
  k_steps
  try dsimp only
  refine' hret _ _ _ _ _ _ _ _ _ _ _ _ _ _ _ _ _ _ _ _ ?gF ?gN V hNS lN lS ?g8 ?g1 ?g2 ?g3 ?g4
  case gF => assumption
  case gN => assumption
  case g1 => exact rfl
  case g2 => exact rfl
  case g3 => exact rfl
  case g4 => exact rfl
  case g8 => assumption
end law_lexer_K
theorem law_lexer {w : World} {mean : ExcName → Option Value} {mg mb : Str → Option Value} {base : Heap} {L fa : Addr} {cd : Value} {m : Str → Option Value} {s : Shared} {Q : Flow → Shared → Prop} {rest : List Stmt} {o1 o2 o3 o4 o5 o6 o7 o8 : Obj} {D S Nn Gp : Addr} {ws ss ns gs : List Value} {cnt sc gc : Nat} {t1 t2 t3 : Tok} {sh va : UInt64} {x : Str} : law_lexer_S w mean mg mb base L fa cd m s Q rest o1 o2 o3 o4 o5 o6 o7 o8 D S Nn Gp ws ss ns gs cnt sc gc t1 t2 t3 sh va x := @by_bad (fun c => law_lexer_S (c.w 0) (c.me 0) (c.m 0) (c.m 1) (c.h 0) (c.n 0) (c.n 1) (c.v 0) (c.m 2) (c.sh 0) (c.qf 0) (c.lst 0) (c.o 0) (c.o 1) (c.o 2) (c.o 3) (c.o 4) (c.o 5) (c.o 6) (c.o 7) (c.n 2) (c.n 3) (c.n 4) (c.n 5) (c.lv 0) (c.lv 1) (c.lv 2) (c.lv 3) (c.n 6) (c.n 7) (c.n 8) (c.n 9) (c.n 10) (c.n 11) (c.u 0) (c.u 1) (c.st 0)) (by with_unfolding_all exact law_lexer_K.main) { cx0 with n := fromL (0) [L, fa, D, S, Nn, Gp, cnt, sc, gc, t1, t2, t3], st := fromL (Str.empty) [x], u := fromL (0) [sh, va], o := fromL (default) [o1, o2, o3, o4, o5, o6, o7, o8], v := fromL (.none) [cd], lv := fromL ([]) [ws, ss, ns, gs], m := fromL (fun _ => none) [mg, mb, m], sh := fromL ({}) [s], h := fromL ({}) [base], lst := fromL ([]) [rest], w := fromL (worldZ) [w], me := fromL (fun _ => none) [mean], qf := fromL (fun _ _ => True) [Q] }
end
section
section
variable {w : World} {x : Str} {L : Nat} {self D0 P l dx fr d : Addr} {held news : List (Addr × Obj)}
theorem LxOk.offs (V : LxOk w x L self D0 P l dx fr d held) (hoff : ∀ p ∈ news, @Ne Nat p.1 P ∧ @Ne Nat p.1 l ∧ @Ne Nat p.1 dx ∧ @Ne Nat p.1 self) : ∀ p ∈ held ++ news, @Ne Nat p.1 P ∧ @Ne Nat p.1 l ∧ @Ne Nat p.1 dx ∧ @Ne Nat p.1 self := fun p hp => by
  rcases List.mem_append.mp hp with hp | hp
  · have h1 := V.offh p hp
    have h2 := V.lt2
    have h3 := V.lt3
    exact ⟨Nat.ne_of_lt (Nat.lt_trans h1 (Nat.lt_trans h2 h3)), V.offl p hp, Nat.ne_of_lt h1, Nat.ne_of_lt (Nat.lt_trans h1 h2)⟩
  · exact hoff p hp
end
theorem tokL {w : World} {mean : ExcName → Option Value} {mg mb : Str → Option Value} {base : Heap} {L fa : Addr} {cd : Value} {m : Str → Option Value} {s : Shared} {Q E : Value → Shared → Prop} {news : List (Addr × Obj)}
    {x : Str} {self D0 P l dx fr d : Addr} {a1 a2 a3 a4 b1 b2 t : Tok} {pn n k : Nat} {held : List (Addr × Obj)} {line : Int} {r9 : Str} {k9 j9 : Nat}
    (B : Below callerA base [] base) (F : Fr base L s.heap m) (X : (KX w.params).In base) (T : Top topProg lawLoose mean mg mb base) (C0 : CodeHd base 109 105) (V : LxOk w x L self D0 P l dx fr d held) (hoff : ∀ p ∈ news, @Ne Nat p.1 P ∧ @Ne Nat p.1 l ∧ @Ne Nat p.1 dx ∧ @Ne Nat p.1 self) (N : News base L s.heap ((P, W.listOf #[] pn) :: (l, W.listOf #[.int ((k : Nat) : Int) t] n) :: (dx, lexD w D0 P a1 a2 a3 a4 (Mine.lineAt x k) b1 b2) :: (self, instObj 87 dx) :: (held ++ news))) (hrun : ORun x j9 k r9 k9) (hk9 : k9 < 1000)
    (hret : ∀ (tr b1 t : Tok) (n : Nat) (h' : Heap) (tk' : Nat), Fr base L h' m → News base L h' ((P, W.listOf #[] pn) :: (l, W.listOf #[.int ((k9 : Nat) : Int) t] n) :: (dx, lexD w D0 P a1 a2 a3 a4 (Mine.lineAt x k9) b1 b2) :: (self, instObj 87 dx) :: (held ++ news)) → Q (.str r9 tr) { s with heap := h', toks := tk' }) :
    wpAny (model Challenge.rw_st0007_01.prog w) (lawA L fa cd) (call (.ref 77) [.ref self]) Q E s := by
  have o := V.offs hoff
  k_dflt (refine' tok_w B F X N C0 V.at' hrun hk9 (fun p hp => (o p hp).2.1) (Nat.ne_of_gt V.lt1) (Nat.ne_of_gt (Nat.lt_trans V.lt1 V.lt2)) (fun p hp => (o p hp).2.2.1) (Nat.ne_of_gt V.lt2) (fun p hp => (o p hp).1) (Nat.ne_of_lt V.lt3) (Nat.ne_of_lt (Nat.lt_trans V.lt2 V.lt3)) (Nat.ne_of_lt (Nat.lt_trans V.lt1 (Nat.lt_trans V.lt2 V.lt3))) (fun p hp => (o p hp).2.2.2) T rfl ?kcd ?kcu hret; (case kcd => ktr_room); (case kcu => ktr_units))
theorem pushL {w : World} {mean : ExcName → Option Value} {mg mb : Str → Option Value} {base : Heap} {L fa : Addr} {cd : Value} {m : Str → Option Value} {s : Shared} {Q E : Value → Shared → Prop} {news : List (Addr × Obj)}
    {x : Str} {self D0 P l dx fr d : Addr} {a1 a2 a3 a4 b1 b2 t : Tok} {pn n k : Nat} {held : List (Addr × Obj)} {line : Int} {y : Str} {tx : Tok} {its : Array Value}
    (B : Below callerA base [] base) (F : Fr base L s.heap m) (X : (KX w.params).In base) (T : Top topProg lawLoose mean mg mb base) (V : LxOk w x L self D0 P l dx fr d held) (hoff : ∀ p ∈ news, @Ne Nat p.1 P ∧ @Ne Nat p.1 l ∧ @Ne Nat p.1 dx ∧ @Ne Nat p.1 self) (N : News base L s.heap ((P, W.listOf its pn) :: (l, W.listOf #[.int ((k : Nat) : Int) t] n) :: (dx, lexD w D0 P a1 a2 a3 a4 (line) b1 b2) :: (self, instObj 87 dx) :: (held ++ news))) (hsz : its.size ≤ sizeLine)
    (hret : ∀ (h' : Heap) (tk' : Nat), Fr base L h' m → News base L h' ((P, W.listOf (its.push (.str y tx)) (pn + 1)) :: (l, W.listOf #[.int ((k : Nat) : Int) t] n) :: (dx, lexD w D0 P a1 a2 a3 a4 (line) b1 b2) :: (self, instObj 87 dx) :: (held ++ news)) → Q .none { s with heap := h', toks := tk' }) :
    wpAny (model Challenge.rw_st0007_01.prog w) (lawA L fa cd) (call (.ref 84) [.ref self, .str y tx]) Q E s := by
  have o := V.offs hoff
  k_dflt (refine' push_w B F X N (fun p hp => (o p hp).2.1) (Nat.ne_of_gt V.lt1) (Nat.ne_of_gt (Nat.lt_trans V.lt1 V.lt2)) (fun p hp => (o p hp).2.2.1) (Nat.ne_of_gt V.lt2) (fun p hp => (o p hp).1) (Nat.ne_of_lt V.lt3) (Nat.ne_of_lt (Nat.lt_trans V.lt2 V.lt3)) (Nat.ne_of_lt (Nat.lt_trans V.lt1 (Nat.lt_trans V.lt2 V.lt3))) hsz T rfl ?kcd ?kcu hret; (case kcd => ktr_room); (case kcu => ktr_units))
theorem popL {w : World} {mean : ExcName → Option Value} {mg mb : Str → Option Value} {base : Heap} {L fa : Addr} {cd : Value} {m : Str → Option Value} {s : Shared} {Q E : Value → Shared → Prop} {news : List (Addr × Obj)}
    {x : Str} {self D0 P l dx fr d : Addr} {a1 a2 a3 a4 b1 b2 t : Tok} {pn n k : Nat} {held : List (Addr × Obj)} {line : Int} {v : Value} {its : List Value}
    (B : Below callerA base [] base) (F : Fr base L s.heap m) (X : (KX w.params).In base) (T : Top topProg lawLoose mean mg mb base) (V : LxOk w x L self D0 P l dx fr d held) (hoff : ∀ p ∈ news, @Ne Nat p.1 P ∧ @Ne Nat p.1 l ∧ @Ne Nat p.1 dx ∧ @Ne Nat p.1 self) (N : News base L s.heap ((P, W.listOf (v :: its).toArray pn) :: (l, W.listOf #[.int ((k : Nat) : Int) t] n) :: (dx, lexD w D0 P a1 a2 a3 a4 (line) b1 b2) :: (self, instObj 87 dx) :: (held ++ news))) (hsz : its.length ≤ 1000)
    (hret : ∀ (pn : Nat) (h' : Heap) (tk' : Nat), Fr base L h' m → News base L h' ((P, W.listOf its.toArray pn) :: (l, W.listOf #[.int ((k : Nat) : Int) t] n) :: (dx, lexD w D0 P a1 a2 a3 a4 (line) b1 b2) :: (self, instObj 87 dx) :: (held ++ news)) → Q v { s with heap := h', toks := tk' }) :
    wpAny (model Challenge.rw_st0007_01.prog w) (lawA L fa cd) (call (.ref 77) [.ref self]) Q E s := by
  have o := V.offs hoff
  k_dflt (refine' pop_w B F X N (fun p hp => (o p hp).2.1) (Nat.ne_of_gt V.lt1) (Nat.ne_of_gt (Nat.lt_trans V.lt1 V.lt2)) (fun p hp => (o p hp).2.2.1) (Nat.ne_of_gt V.lt2) (fun p hp => (o p hp).1) (Nat.ne_of_lt V.lt3) (Nat.ne_of_lt (Nat.lt_trans V.lt2 V.lt3)) (Nat.ne_of_lt (Nat.lt_trans V.lt1 (Nat.lt_trans V.lt2 V.lt3))) hsz T rfl ?kcd ?kcu hret; (case kcd => ktr_room); (case kcu => ktr_units))
end
section
open PyProof.Rows.LCg
@[reducible] noncomputable def law_read_S (w : World) (mean : ExcName → Option Value) (mg mb : Str → Option Value) (base : Heap) (L fa : Addr) (cd : Value) (m : Str → Option Value) (s : Shared) (Q : Flow → Shared → Prop) (rest : List Stmt) (o1 o2 o3 o4 o5 o6 o7 o8 : Obj) (S Nn : Addr) (ss ns : List Value) (sc : Nat) (t1 t2 t3 : Tok) (sh va : UInt64) (x : Str) (self D0 P l dx fr d : Addr) (a1 a2 a3 a4 b2 : Tok) (pn : Nat) (held : List (Addr × Obj)) (b1 t : Tok) (n : Nat) (nl : List Str) (pos : Nat → Nat) : Prop := ∀ (B : Below callerA base [] base) (F : Fr base L s.heap m) (X : (KX w.params).In base) (T : Top topProg lawLoose mean mg mb base) (N : News base L s.heap ((P, W.listOf #[] pn) :: (l, W.listOf #[.int ((pos 0 : Nat) : Int) t] n) :: (dx, lexD w D0 P a1 a2 a3 a4 (Mine.lineAt x (pos 0)) b1 b2) :: (self, instObj 87 dx) :: (Nn, LCg.lst ns) :: (S, W.listOf ss.toArray sc) :: ((L + 1 + 1 + 1 + 1 + 1 + 1 + 1 + 1 : Addr), o8) :: ((L + 1 + 1 + 1 + 1 + 1 + 1 + 1 : Addr), o7) :: ((L + 1 + 1 + 1 + 1 + 1 + 1 : Addr), o6) :: ((L + 1 + 1 + 1 + 1 + 1 : Addr), o5) :: ((L + 1 + 1 + 1 + 1 : Addr), o4) :: ((L + 1 + 1 + 1 : Addr), o3) :: ((L + 1 + 1 : Addr), o2) :: ((L + 1 : Addr), o1) :: held)) (C0 : CodeHd base 109 105) (h105 : @LT.lt Nat _ 105 L) (V : LxOk w x L self D0 P l dx fr d held) (hNS : ∀ p ∈ held, p.1 = (105 : Addr) ∨ (@LT.lt Nat _ Nn p.1 ∧ @LT.lt Nat _ S p.1)) (lN : @LT.lt Nat _ Nn l) (lS : @LT.lt Nat _ S l) (hN8 : Apart8 L Nn) (hD : @LT.lt Nat _ (L+1+1+1+1+1+1+1+1) S) (hns : StrsAre ns nl) (hn8 : nl.length = 8) (hnok : ∀ x ∈ nl, PyData.strOk x = true) (hp0 : pos 0 = 0) (hrd : ∀ i, i < 8 → ∃ j, ORun x j (pos i) (nl.getD i Str.empty) (pos (i + 1))) (hp9 : ∀ i, i ≤ 8 → pos i < 1000) (ho6 : o6.data = .cell (some (.ref Nn))) (ho8 : o8.data = .cell (some (.ref self))) (hms : m (Str.ofString "share") = some (.float sh t1)) (hmv : m (Str.ofString "value") = some (.float va t2)) (hmz : m (Str.ofString "sizes") = some (.ref S)) (hmt : m (Str.ofString "text") = some (.str x t3)) (hret : ∀ (b1 t : Tok) (n : Nat) (m' : Str → Option Value) (h' : Heap) (tk' : Nat), Fr base L h' m' → News base L h' ((P, W.listOf #[] pn) :: (l, W.listOf #[.int ((pos 8 : Nat) : Int) t] n) :: (dx, lexD w D0 P a1 a2 a3 a4 (Mine.lineAt x (pos 8)) b1 b2) :: (self, instObj 87 dx) :: (Nn, LCg.lst ns) :: (S, W.listOf ss.toArray sc) :: ((L + 1 + 1 + 1 + 1 + 1 + 1 + 1 + 1 : Addr), o8) :: ((L + 1 + 1 + 1 + 1 + 1 + 1 + 1 : Addr), o7) :: ((L + 1 + 1 + 1 + 1 + 1 + 1 : Addr), o6) :: ((L + 1 + 1 + 1 + 1 + 1 : Addr), o5) :: ((L + 1 + 1 + 1 + 1 : Addr), o4) :: ((L + 1 + 1 + 1 : Addr), o3) :: ((L + 1 + 1 : Addr), o2) :: ((L + 1 : Addr), o1) :: held) → m' (Str.ofString "share") = some (.float sh t1) → m' (Str.ofString "value") = some (.float va t2) → m' (Str.ofString "sizes") = some (.ref S) → m' (Str.ofString "text") = some (.str x t3) → wpAny (model Challenge.rw_st0007_01.prog w) (lawA L fa cd) (execs rest (lawEnv L fa cd)) Q (fun _ _ => False) { s with heap := h', toks := tk' }), wpAny (model Challenge.rw_st0007_01.prog w) (lawA L fa cd) (execs (lawCut 19 1 ++ rest) (lawEnv L fa cd)) Q (fun _ _ => False) s
namespace law_read_K
@[irreducible] noncomputable def pt : Cx := bad fun c => law_read_S (c.w 0) (c.me 0) (c.m 0) (c.m 1) (c.h 0) (c.n 0) (c.n 1) (c.v 0) (c.m 2) (c.sh 0) (c.qf 0) (c.lst 0) (c.o 0) (c.o 1) (c.o 2) (c.o 3) (c.o 4) (c.o 5) (c.o 6) (c.o 7) (c.n 2) (c.n 3) (c.lv 0) (c.lv 1) (c.n 4) (c.n 5) (c.n 6) (c.n 7) (c.u 0) (c.u 1) (c.st 0) (c.n 8) (c.n 9) (c.n 10) (c.n 11) (c.n 12) (c.n 13) (c.n 14) (c.n 15) (c.n 16) (c.n 17) (c.n 18) (c.n 19) (c.n 20) (c.lo 0) (c.n 21) (c.n 22) (c.n 23) (c.ls 0) (c.nn 0)
@[irreducible] noncomputable def w : World := pt.w 0
@[irreducible] noncomputable def base : Heap := pt.h 0
@[irreducible] noncomputable def L : Addr := pt.n 0
@[irreducible] noncomputable def o1 : Obj := pt.o 0
@[irreducible] noncomputable def o2 : Obj := pt.o 1
@[irreducible] noncomputable def o3 : Obj := pt.o 2
@[irreducible] noncomputable def o4 : Obj := pt.o 3
@[irreducible] noncomputable def o5 : Obj := pt.o 4
@[irreducible] noncomputable def o6 : Obj := pt.o 5
@[irreducible] noncomputable def o7 : Obj := pt.o 6
@[irreducible] noncomputable def o8 : Obj := pt.o 7
@[irreducible] noncomputable def S : Addr := pt.n 2
@[irreducible] noncomputable def Nn : Addr := pt.n 3
@[irreducible] noncomputable def ss : List Value := pt.lv 0
@[irreducible] noncomputable def ns : List Value := pt.lv 1
@[irreducible] noncomputable def sc : Nat := pt.n 4
@[irreducible] noncomputable def x : Str := pt.st 0
@[irreducible] noncomputable def self : Addr := pt.n 8
@[irreducible] noncomputable def D0 : Addr := pt.n 9
@[irreducible] noncomputable def P : Addr := pt.n 10
@[irreducible] noncomputable def l : Addr := pt.n 11
@[irreducible] noncomputable def dx : Addr := pt.n 12
@[irreducible] noncomputable def a1 : Tok := pt.n 15
@[irreducible] noncomputable def a2 : Tok := pt.n 16
@[irreducible] noncomputable def a3 : Tok := pt.n 17
@[irreducible] noncomputable def a4 : Tok := pt.n 18
@[irreducible] noncomputable def b2 : Tok := pt.n 19
@[irreducible] noncomputable def pn : Nat := pt.n 20
@[irreducible] noncomputable def held : List (Addr × Obj) := pt.lo 0
@[irreducible] noncomputable def b1 : Tok := pt.n 21
@[irreducible] noncomputable def t : Tok := pt.n 22
@[irreducible] noncomputable def n : Nat := pt.n 23
@[irreducible] noncomputable def nl : List Str := pt.ls 0
@[irreducible] noncomputable def pos : Nat → Nat := pt.nn 0
theorem main : law_read_S w (pt.me 0) (pt.m 0) (pt.m 1) base L (pt.n 1) (pt.v 0) (pt.m 2) (pt.sh 0) (pt.qf 0) (pt.lst 0) o1 o2 o3 o4 o5 o6 o7 o8 S Nn ss ns sc (pt.n 5) (pt.n 6) (pt.n 7) (pt.u 0) (pt.u 1) x self D0 P l dx (pt.n 13) (pt.n 14) a1 a2 a3 a4 b2 pn held b1 t n nl pos := by
  intro B F X T N C0 h105 V hNS lN lS hN8 hD hns hn8 hnok hp0 hrd hp9 ho6 ho8 hms hmv hmz hmt hret
  have hmk101 := MarkH.mk (n := 101)
  have hmk102 := MarkH.mk (n := 102)
  have hmk104 := MarkH.mk (n := 104)
  rw [show lawCut 19 1 = [_] from rfl]
  revert X; k_fill; intro X
  rw [known_eq hms, known_eq hmv, known_eq hmz, known_eq hmt] at F
  k_steps
  refine Hold.on ?_
  k_dflt (refine' LCg.ListComp_U ?c0 ?c1 ?c2 ?c3 ?c4 ?c5 ?_)
  case c0 => k_asm
  case c1 => exact rfl
  case c2 => decide
  case c3 => rfl
  case c4 => decide
  case c5 => rfl
  lcg_toSrc
  dsimp only
  refine Hold.on ?_
  refine LCg.CompSrc.ledger (by rfl) (by k_asm) (by k_asm) (by k_mem) (by (rename StrsAre _ _ => hz; have := StrsAre.length hz; rw [List.size_toArray, sizeLine_eq]; omega)) ?_
  intro g9
  try dsimp only
  have hi := V.hi
  have hlow : ∀ p ∈ (Nn, LCg.lst ns) :: (S, W.listOf ss.toArray sc) :: ((L + 1 + 1 + 1 + 1 + 1 + 1 + 1 + 1 : Addr), o8) :: ((L + 1 + 1 + 1 + 1 + 1 + 1 + 1 : Addr), o7) :: ((L + 1 + 1 + 1 + 1 + 1 + 1 : Addr), o6) :: ((L + 1 + 1 + 1 + 1 + 1 : Addr), o5) :: ((L + 1 + 1 + 1 + 1 : Addr), o4) :: ((L + 1 + 1 + 1 : Addr), o3) :: ((L + 1 + 1 : Addr), o2) :: ((L + 1 : Addr), o1) :: [], @LT.lt Nat _ p.1 l := by
    repeat' (first | exact List.forall_mem_nil _ | refine List.forall_mem_cons.mpr ⟨?_, ?_⟩ | (show @LT.lt Nat _ _ l; omega))
  have hne : ∀ b : Nat, b < l → @Ne Nat b P ∧ @Ne Nat b l ∧ @Ne Nat b dx ∧ @Ne Nat b self := fun b hb => by
    have h1 := V.lt1; have h2 := V.lt2; have h3 := V.lt3
    omega
  clear hi
  refine comp_rest (fun i ys nw => (∃ b1 t n, nw = (P, W.listOf #[] pn) :: (l, W.listOf #[.int ((pos i : Nat) : Int) t] n) :: (dx, lexD w D0 P a1 a2 a3 a4 (Mine.lineAt x (pos i)) b1 b2) :: (self, instObj 87 dx) :: (Nn, LCg.lst ns) :: (S, W.listOf ss.toArray sc) :: ((L + 1 + 1 + 1 + 1 + 1 + 1 + 1 + 1 : Addr), o8) :: ((L + 1 + 1 + 1 + 1 + 1 + 1 + 1 : Addr), o7) :: ((L + 1 + 1 + 1 + 1 + 1 + 1 : Addr), o6) :: ((L + 1 + 1 + 1 + 1 + 1 : Addr), o5) :: ((L + 1 + 1 + 1 + 1 : Addr), o4) :: ((L + 1 + 1 + 1 : Addr), o3) :: ((L + 1 + 1 : Addr), o2) :: ((L + 1 : Addr), o1) :: held) ∧ StrsAre ys (nl.take i)) ⟨⟨_, _, _, rfl⟩, .nil⟩ (fun i' v' I' oI' C' oC' D' m' ys' nw' h' tk' E' hi' hR' hv' hC' hx' F' N' off' ne' => ?_) ?_
  · obtain ⟨⟨b1, t, n, rfl⟩, hys⟩ := hR'
    have hmk := MarkH.mk (n := 201)
    k_steps
    refine Hold.on ?_
    try dsimp only
    rename Fr _ _ _ _ => F12
    rename News _ _ _ _ => N12
    have N13 : News base L _ ((P, W.listOf #[] pn) :: (l, W.listOf #[.int ((pos i' : Nat) : Int) t] n) :: (dx, lexD w D0 P a1 a2 a3 a4 (Mine.lineAt x (pos i')) b1 b2) :: (self, instObj 87 dx) :: (held ++ ((I', oI') :: (C', oC') :: (D', lst ys') :: (Nn, LCg.lst ns) :: (S, W.listOf ss.toArray sc) :: ((L + 1 + 1 + 1 + 1 + 1 + 1 + 1 + 1 : Addr), o8) :: ((L + 1 + 1 + 1 + 1 + 1 + 1 + 1 : Addr), o7) :: ((L + 1 + 1 + 1 + 1 + 1 + 1 : Addr), o6) :: ((L + 1 + 1 + 1 + 1 + 1 : Addr), o5) :: ((L + 1 + 1 + 1 + 1 : Addr), o4) :: ((L + 1 + 1 + 1 : Addr), o3) :: ((L + 1 + 1 : Addr), o2) :: ((L + 1 : Addr), o1) :: []))) := fun p hp => N12 p (mem_p1 (X := [_, _, _]) (Y := [_, _, _, _]) (Z := [_, _, _, _, _, _, _, _, _, _]) (H := held) hp)
    have om := off'.mem
    have hoff : ∀ p ∈ (I', oI') :: (C', oC') :: (D', lst ys') :: (Nn, LCg.lst ns) :: (S, W.listOf ss.toArray sc) :: ((L + 1 + 1 + 1 + 1 + 1 + 1 + 1 + 1 : Addr), o8) :: ((L + 1 + 1 + 1 + 1 + 1 + 1 + 1 : Addr), o7) :: ((L + 1 + 1 + 1 + 1 + 1 + 1 : Addr), o6) :: ((L + 1 + 1 + 1 + 1 + 1 : Addr), o5) :: ((L + 1 + 1 + 1 + 1 : Addr), o4) :: ((L + 1 + 1 + 1 : Addr), o3) :: ((L + 1 + 1 : Addr), o2) :: ((L + 1 : Addr), o1) :: [], @Ne Nat p.1 P ∧ @Ne Nat p.1 l ∧ @Ne Nat p.1 dx ∧ @Ne Nat p.1 self := fun p hp => by
      have e1 := om _ (.head _)
      have e2 := om _ (.tail _ (.head _))
      have e3 := om _ (.tail _ (.tail _ (.head _)))
      have e4 := om _ (.tail _ (.tail _ (.tail _ (.head _))))
      refine mem_cs hp ?_ fun hp => ?_
      · exact ⟨e1.1.symm, e2.1.symm, e3.1.symm, e4.1.symm⟩
      · refine mem_cs hp ?_ fun hp => ?_
        · exact ⟨e1.2.1.symm, e2.2.1.symm, e3.2.1.symm, e4.2.1.symm⟩
        · refine mem_cs hp ?_ fun hp => ?_
          · exact ⟨e1.2.2.symm, e2.2.2.symm, e3.2.2.symm, e4.2.2.symm⟩
          · exact hne p.1 (hlow p hp)
    have hi8 : i' < 8 := by have := StrsAre.length hns; rw [List.size_toArray] at hi'; omega
    obtain ⟨j9, hrun⟩ := hrd i' hi8
    refine tokL (line := 0) B F12 X T C0 V hoff N13 hrun (hp9 (i' + 1) (by omega)) (fun tr b1' t' n' h9 tk9 F14 N14 => ?_)
    have N15 : News base L h9 ((I', oI') :: (C', oC') :: (D', lst ys') :: (P, W.listOf #[] pn) :: (l, W.listOf #[.int ((pos (i' + 1) : Nat) : Int) t'] n') :: (dx, lexD w D0 P a1 a2 a3 a4 (Mine.lineAt x (pos (i' + 1))) b1' b2) :: (self, instObj 87 dx) :: (Nn, LCg.lst ns) :: (S, W.listOf ss.toArray sc) :: ((L + 1 + 1 + 1 + 1 + 1 + 1 + 1 + 1 : Addr), o8) :: ((L + 1 + 1 + 1 + 1 + 1 + 1 + 1 : Addr), o7) :: ((L + 1 + 1 + 1 + 1 + 1 + 1 : Addr), o6) :: ((L + 1 + 1 + 1 + 1 + 1 : Addr), o5) :: ((L + 1 + 1 + 1 + 1 : Addr), o4) :: ((L + 1 + 1 + 1 : Addr), o3) :: ((L + 1 + 1 : Addr), o2) :: ((L + 1 : Addr), o1) :: held) := fun p hp => N14 p (mem_p2 (X := [_, _, _]) (Y := [_, _, _, _]) (Z := [_, _, _, _, _, _, _, _, _, _]) (H := held) hp)
    refine LCg.CompEnd.intro F14 N15 _ (fun p hp => hp) ?_ ?_ ⟨⟨_, _, _, rfl⟩, ?_⟩
    · obtain ⟨e1, e2, e3, e4, er⟩ := off'
      exact ⟨e1, e2, e3, e4, er⟩
    · exact Or.inr ⟨_, .tail _ (.tail _ (.tail _ (.tail _ (.head _)))), rfl, _, rfl⟩
    · rw [List.take_add_one, show nl[i']? = some (nl.getD i' Str.empty) by rw [List.getD_eq_getElem?_getD, List.getElem?_eq_getElem (by omega)]; rfl]
      exact kct_snoc (by assumption)
  rintro ys nw ⟨⟨b1, t, n, rfl⟩, hys⟩ D9 h9 tk9 F9 N9 off9
  try dsimp only
  simp only [LCg.Off1, and_true] at off9
  have e8 : ns.toArray.size = 8 := by rw [List.size_toArray, StrsAre.length hns, hn8]
  rw [e8] at N9
  rw [List.take_of_length_le (by rw [e8, hn8]; exact Nat.le_refl _)] at hys
  k_steps
  refine Hold.on ?_
  rename News _ _ _ _ => N16
  refine ne_strs (News.isList N16 (.head _)) (News.isList N16 (by k_mem)) hys hns hnok (by units_room) ?_
  k_steps
  try dsimp only
  (refine' hret _ _ _ _ _ _ ?gF ?gN ?g1 ?g2 ?g3 ?g4; (case gF => assumption); (case gN => (first | assumption | exact cb_drop (by assumption) (by kcj_all))); (case g1 => exact rfl); (case g2 => exact rfl); (case g3 => exact rfl); (case g4 => exact rfl))
end law_read_K
theorem law_read {w : World} {mean : ExcName → Option Value} {mg mb : Str → Option Value} {base : Heap} {L fa : Addr} {cd : Value} {m : Str → Option Value} {s : Shared} {Q : Flow → Shared → Prop} {rest : List Stmt} {o1 o2 o3 o4 o5 o6 o7 o8 : Obj} {S Nn : Addr} {ss ns : List Value} {sc : Nat} {t1 t2 t3 : Tok} {sh va : UInt64} {x : Str} {self D0 P l dx fr d : Addr} {a1 a2 a3 a4 b2 : Tok} {pn : Nat} {held : List (Addr × Obj)} {b1 t : Tok} {n : Nat} {nl : List Str} {pos : Nat → Nat} : law_read_S w mean mg mb base L fa cd m s Q rest o1 o2 o3 o4 o5 o6 o7 o8 S Nn ss ns sc t1 t2 t3 sh va x self D0 P l dx fr d a1 a2 a3 a4 b2 pn held b1 t n nl pos := @by_bad (fun c => law_read_S (c.w 0) (c.me 0) (c.m 0) (c.m 1) (c.h 0) (c.n 0) (c.n 1) (c.v 0) (c.m 2) (c.sh 0) (c.qf 0) (c.lst 0) (c.o 0) (c.o 1) (c.o 2) (c.o 3) (c.o 4) (c.o 5) (c.o 6) (c.o 7) (c.n 2) (c.n 3) (c.lv 0) (c.lv 1) (c.n 4) (c.n 5) (c.n 6) (c.n 7) (c.u 0) (c.u 1) (c.st 0) (c.n 8) (c.n 9) (c.n 10) (c.n 11) (c.n 12) (c.n 13) (c.n 14) (c.n 15) (c.n 16) (c.n 17) (c.n 18) (c.n 19) (c.n 20) (c.lo 0) (c.n 21) (c.n 22) (c.n 23) (c.ls 0) (c.nn 0)) (by with_unfolding_all exact law_read_K.main) { cx0 with n := fromL (0) [L, fa, S, Nn, sc, t1, t2, t3, self, D0, P, l, dx, fr, d, a1, a2, a3, a4, b2, pn, b1, t, n], st := fromL (Str.empty) [x], u := fromL (0) [sh, va], o := fromL (default) [o1, o2, o3, o4, o5, o6, o7, o8], lo := fromL ([]) [held], v := fromL (.none) [cd], lv := fromL ([]) [ss, ns], ls := fromL ([]) [nl], m := fromL (fun _ => none) [mg, mb, m], sh := fromL ({}) [s], h := fromL ({}) [base], lst := fromL ([]) [rest], w := fromL (worldZ) [w], me := fromL (fun _ => none) [mean], qf := fromL (fun _ _ => True) [Q], nn := fromL (fun _ => 0) [pos] }
end
section
local macro_rules | `(tactic| omega) => `(tactic| first | (with_reducible kas_types) | lia)
noncomputable def pickC (lap wh mo k : Int) : Bool := decide ((k * lap).fmod wh = 0) || decide (k = if 8 < mo then 8 else mo)
theorem pick_1 {lap wh mo k : Int} (h : (k * lap).fmod wh = 0) : pickC lap wh mo k = true := by unfold pickC; rw [decide_eq_true h]; rfl
theorem pick_2 {lap wh mo k : Int} (h : k = if 8 < mo then 8 else mo) : pickC lap wh mo k = true := by unfold pickC; rw [decide_eq_true h, Bool.or_true]
theorem pick_0 {lap wh mo k : Int} (h : (k * lap).fmod wh ≠ 0) (h2 : k ≠ if 8 < mo then 8 else mo) : pickC lap wh mo k = false := by unfold pickC; rw [decide_eq_false h, decide_eq_false h2]; rfl
theorem first_of (p : Int → Bool) : ∀ (m a : Nat), (∃ j, j < m ∧ p ((a + j : Nat) : Int) = true) → ∃ (c : Nat) (r : List Int), ((List.range m).map fun k : Nat => ((a + k : Nat) : Int)).filter p = (c : Int) :: r ∧ a ≤ c ∧ p c = true ∧ ∀ k, a ≤ k → k < c → p (k : Int) = false
  | 0, _, ⟨_, h, _⟩ => absurd h (Nat.not_lt_zero _)
  | m + 1, a, h => by
    rw [List.range_succ_eq_map, List.map_cons, List.map_map]
    by_cases hp : p ((a + 0 : Nat) : Int) = true
    · exact ⟨a, _, by rw [List.filter_cons_of_pos hp]; rfl, Nat.le_refl _, hp, fun k h1 h2 => absurd h1 (Nat.not_le.mpr h2)⟩
    · obtain ⟨j, hj, pj⟩ := h
      have hj0 : j ≠ 0 := fun e => hp (e ▸ pj)
      obtain ⟨c, r, e, h1, h2, h3⟩ := first_of p m (a + 1) ⟨j - 1, by omega, by rw [show a + 1 + (j - 1) = a + j by omega]; exact pj⟩
      refine ⟨c, r, ?_, by omega, h2, fun k k1 k2 => ?_⟩
      · rw [List.filter_cons_of_neg hp, ← e]
        congr 2
        funext k
        show ((a + (k + 1) : Nat) : Int) = ((a + 1 + k : Nat) : Int)
        rw [show a + (k + 1) = a + 1 + k by omega]
      · by_cases hk : k = a
        · subst hk; exact Bool.eq_false_iff.mpr hp
        · exact h3 k (by omega) k2
theorem count_head {lap wh mo : Int} (hmo : 1 ≤ mo) : ∃ (c : Nat) (r : List Int), ((List.range 8).map fun k : Nat => (1 + k : Int)).filter (pickC lap wh mo) = (c : Int) :: r ∧ 1 ≤ c ∧ c ≤ 8 ∧ (c : Int) ≤ mo ∧ ∀ k : Nat, 1 ≤ k → k < c → ((k : Int) * lap).fmod wh ≠ 0 := by
  obtain ⟨q, hq, hq1, hq8, hqm⟩ : ∃ q : Nat, (q : Int) = (if 8 < mo then 8 else mo) ∧ 1 ≤ q ∧ q ≤ 8 ∧ (q : Int) ≤ mo := by
    by_cases h : 8 < mo
    · exact ⟨8, by rw [if_pos h]; rfl, by omega, by omega, by omega⟩
    · exact ⟨mo.toNat, by rw [if_neg h]; omega, by omega, by omega, by omega⟩
  obtain ⟨c, r, e, h1, h2, h3⟩ := first_of (pickC lap wh mo) 8 1 ⟨q - 1, by omega, by rw [Nat.add_sub_of_le hq1]; exact pick_2 hq⟩
  have hc : c ≤ q := Nat.not_lt.mp fun h => by have := h3 q hq1 h; rw [pick_2 hq] at this; cases this
  refine ⟨c, r, ?_, h1, by omega, by omega, fun k k1 k2 z => ?_⟩
  · rw [← e]; congr 2
  · have := h3 k k1 k2; rw [pick_1 z] at this; cases this
open PyProof.Rows.LCg
@[reducible] noncomputable def law_count_S (w : World) (mean : ExcName → Option Value) (mg mb : Str → Option Value) (base : Heap) (L fa : Addr) (cd : Value) (m : Str → Option Value) (s : Shared) (Q : Flow → Shared → Prop) (rest : List Stmt) (o1 o2 o3 o4 o5 o6 o7 o8 : Obj) (S : Addr) (sc : Nat) (t1 t2 t3 : Tok) (sh va : UInt64) (x : Str) (hd tl : List (Addr × Obj)) (lap mo : Int) (W : Nat) (u2 u4 u5 : Tok) : Prop := ∀ (B : Below callerA base [] base) (F : Fr base L s.heap m) (X : (KX w.params).In base) (T : Top topProg lawLoose mean mg mb base) (N : News base L s.heap (((L + 1 + 1 + 1 + 1 + 1 + 1 + 1 + 1 : Addr), o8) :: ((L + 1 + 1 + 1 + 1 + 1 + 1 + 1 : Addr), o7) :: ((L + 1 + 1 + 1 + 1 + 1 + 1 : Addr), o6) :: ((L + 1 + 1 + 1 + 1 + 1 : Addr), o5) :: ((L + 1 + 1 + 1 + 1 : Addr), o4) :: ((L + 1 + 1 + 1 : Addr), o3) :: ((L + 1 + 1 : Addr), o2) :: ((L + 1 : Addr), o1) :: tl)) (h105 : @LT.lt Nat _ 105 L) (ho2 : o2.data = .cell (some (.int (2 ^ W) u2))) (ho4 : o4.data = .cell (some (.int lap u4))) (ho5 : o5.data = .cell (some (.int mo u5))) (hmo : 1 ≤ mo) (hW : 3 ≤ W) (hms : m (Str.ofString "share") = some (.float sh t1)) (hmv : m (Str.ofString "value") = some (.float va t2)) (hmz : m (Str.ofString "sizes") = some (.ref S)) (hmt : m (Str.ofString "text") = some (.str x t3)) (hret : ∀ (c : Nat) (t4 : Tok) (m' : Str → Option Value) (h' : Heap) (tk' : Nat), Fr base L h' m' → News base L h' (((L + 1 + 1 + 1 + 1 + 1 + 1 + 1 + 1 : Addr), o8) :: ((L + 1 + 1 + 1 + 1 + 1 + 1 + 1 : Addr), o7) :: ((L + 1 + 1 + 1 + 1 + 1 + 1 : Addr), o6) :: ((L + 1 + 1 + 1 + 1 + 1 : Addr), o5) :: ((L + 1 + 1 + 1 + 1 : Addr), o4) :: ((L + 1 + 1 + 1 : Addr), o3) :: ((L + 1 + 1 : Addr), o2) :: ((L + 1 : Addr), o1) :: tl) → m' (Str.ofString "count") = some (.int (c : Nat) t4) → 1 ≤ c → c ≤ 8 → (c : Int) ≤ mo → (∀ k : Nat, 1 ≤ k → k < c → ((k : Int) * lap).fmod (2 ^ W) ≠ 0) → m' (Str.ofString "share") = some (.float sh t1) → m' (Str.ofString "value") = some (.float va t2) → m' (Str.ofString "sizes") = some (.ref S) → m' (Str.ofString "text") = some (.str x t3) → wpAny (model Challenge.rw_st0007_01.prog w) (lawA L fa cd) (execs rest (lawEnv L fa cd)) Q (fun _ _ => False) { s with heap := h', toks := tk' }), wpAny (model Challenge.rw_st0007_01.prog w) (lawA L fa cd) (execs (lawCut 20 1 ++ rest) (lawEnv L fa cd)) Q (fun _ _ => False) s
namespace law_count_K
@[irreducible] noncomputable def pt : Cx := bad fun c => law_count_S (c.w 0) (c.me 0) (c.m 0) (c.m 1) (c.h 0) (c.n 0) (c.n 1) (c.v 0) (c.m 2) (c.sh 0) (c.qf 0) (c.lst 0) (c.o 0) (c.o 1) (c.o 2) (c.o 3) (c.o 4) (c.o 5) (c.o 6) (c.o 7) (c.n 2) (c.n 3) (c.n 4) (c.n 5) (c.n 6) (c.u 0) (c.u 1) (c.st 0) (c.lo 0) (c.lo 1) (c.i 0) (c.i 1) (c.n 7) (c.n 8) (c.n 9) (c.n 10)
@[irreducible] noncomputable def base : Heap := pt.h 0
@[irreducible] noncomputable def L : Addr := pt.n 0
@[irreducible] noncomputable def o1 : Obj := pt.o 0
@[irreducible] noncomputable def o2 : Obj := pt.o 1
@[irreducible] noncomputable def o3 : Obj := pt.o 2
@[irreducible] noncomputable def o4 : Obj := pt.o 3
@[irreducible] noncomputable def o5 : Obj := pt.o 4
@[irreducible] noncomputable def o6 : Obj := pt.o 5
@[irreducible] noncomputable def o7 : Obj := pt.o 6
@[irreducible] noncomputable def o8 : Obj := pt.o 7
@[irreducible] noncomputable def tl : List (Addr × Obj) := pt.lo 1
@[irreducible] noncomputable def lap : Int := pt.i 0
@[irreducible] noncomputable def mo : Int := pt.i 1
@[irreducible] noncomputable def W : Nat := pt.n 7
theorem main : law_count_S (pt.w 0) (pt.me 0) (pt.m 0) (pt.m 1) base L (pt.n 1) (pt.v 0) (pt.m 2) (pt.sh 0) (pt.qf 0) (pt.lst 0) o1 o2 o3 o4 o5 o6 o7 o8 (pt.n 2) (pt.n 3) (pt.n 4) (pt.n 5) (pt.n 6) (pt.u 0) (pt.u 1) (pt.st 0) (pt.lo 0) tl lap mo W (pt.n 8) (pt.n 9) (pt.n 10) := by
  intro B F X T N h105 ho2 ho4 ho5 hmo hW hms hmv hmz hmt hret
  have hmk101 := MarkH.mk (n := 101)
  have hmk103 := MarkH.mk (n := 103)
  rw [show lawCut 20 1 = [_] from rfl]
  revert X; k_fill; intro X
  rw [known_eq hms, known_eq hmv, known_eq hmz, known_eq hmt] at F
  k_steps
  refine Hold.on ?_
  k_dflt (refine LCt.ListComp_T (F₀ := by k_asm) (by with_unfolding_all rfl) (by decide) (by rfl) (by decide) (by rfl) ?_)
  lct_toSrc
  refine Hold.on ?_
  refine LCt.CompSrcT.range (by rfl) (by k_asm) (by k_asm) (by assumption) (by decide) (n := 8) rfl (by rw [sizeLine_eq]; decide) ?_
  intro g9
  try dsimp only
  refine compT_rest (fun i ys nw => nw = _ ∧ IntsAre ys (((List.range i).map fun k : Nat => (1 + k : Int)).filter (pickC lap (2 ^ W) mo))) ⟨rfl, .nil⟩ (fun i' v' I' oI' C' oC' D' m' ys' nw' h' tk' E' hi' hR' hv' hC' hx' F' N' off' ne' => ?_) ?_
  · obtain ⟨rfl, hys⟩ := hR'
    obtain ⟨tv, rfl⟩ := hv'
    k_steps
    · refine LCg.CompEnd.intro (by k_asm) (by k_asm) _ (fun p hp => hp) off' trivial ⟨rfl, ?_⟩
      rw [List.range_succ, List.map_append, List.filter_append, List.map_cons, List.map_nil, List.filter_cons_of_pos (pick_1 (by assumption))]
      exact IntsAre.append (by assumption) (.cons _ _ .nil)
    · refine LCg.CompEnd.intro (by k_asm) (by k_asm) _ (fun p hp => hp) off' trivial ⟨rfl, ?_⟩
      rw [List.range_succ, List.map_append, List.filter_append, List.map_cons, List.map_nil, List.filter_cons_of_pos (pick_2 (by assumption))]
      exact IntsAre.append (by assumption) (.cons _ _ .nil)
    · refine LCg.CompEnd.intro (by k_asm) (by k_asm) _ (fun p hp => hp) off' trivial ⟨rfl, ?_⟩
      rw [List.range_succ, List.map_append, List.filter_append, List.map_cons, List.map_nil, List.filter_cons_of_neg (by rw [pick_0 (by assumption) (by assumption)]; decide), List.filter_nil, List.append_nil]
      assumption
  rintro ys nw ⟨rfl, hys⟩ D9 h9 tk9 F9 N9 off9
  try dsimp only
  obtain ⟨c, r, e, c1, c2, c3, c4⟩ := count_head (lap := lap) (wh := 2 ^ W) (mo := mo) hmo
  rw [e] at hys
  clear e
  replace N9 : News base L h9 ((D9, PySem.W.listOf ys.toArray ys.length) :: ((L + 1 + 1 + 1 + 1 + 1 + 1 + 1 + 1 : Addr), o8) :: ((L + 1 + 1 + 1 + 1 + 1 + 1 + 1 : Addr), o7) :: ((L + 1 + 1 + 1 + 1 + 1 + 1 : Addr), o6) :: ((L + 1 + 1 + 1 + 1 + 1 : Addr), o5) :: ((L + 1 + 1 + 1 + 1 : Addr), o4) :: ((L + 1 + 1 + 1 : Addr), o3) :: ((L + 1 + 1 : Addr), o2) :: ((L + 1 : Addr), o1) :: tl) := N9
  have hlr : 0 < ((c : Int) :: r).length := Nat.succ_pos _
  k_steps
  try dsimp only
  (refine' hret _ _ _ _ _ ?gF ?gN ?gc ?k1 ?k2 ?k3 ?k4 ?g1 ?g2 ?g3 ?g4; (case gF => assumption); (case gN => exact fun p hp => (by assumption : News _ _ _ (_ :: _)) p (.tail _ hp)); (case gc => exact rfl); (case k1 => exact c1); (case k2 => exact c2); (case k3 => exact c3); (case k4 => exact c4); (case g1 => exact rfl); (case g2 => exact rfl); (case g3 => exact rfl); (case g4 => exact rfl))
end law_count_K
theorem law_count {w : World} {mean : ExcName → Option Value} {mg mb : Str → Option Value} {base : Heap} {L fa : Addr} {cd : Value} {m : Str → Option Value} {s : Shared} {Q : Flow → Shared → Prop} {rest : List Stmt} {o1 o2 o3 o4 o5 o6 o7 o8 : Obj} {S : Addr} {sc : Nat} {t1 t2 t3 : Tok} {sh va : UInt64} {x : Str} {hd tl : List (Addr × Obj)} {lap mo : Int} {W : Nat} {u2 u4 u5 : Tok} : law_count_S w mean mg mb base L fa cd m s Q rest o1 o2 o3 o4 o5 o6 o7 o8 S sc t1 t2 t3 sh va x hd tl lap mo W u2 u4 u5 := @by_bad (fun c => law_count_S (c.w 0) (c.me 0) (c.m 0) (c.m 1) (c.h 0) (c.n 0) (c.n 1) (c.v 0) (c.m 2) (c.sh 0) (c.qf 0) (c.lst 0) (c.o 0) (c.o 1) (c.o 2) (c.o 3) (c.o 4) (c.o 5) (c.o 6) (c.o 7) (c.n 2) (c.n 3) (c.n 4) (c.n 5) (c.n 6) (c.u 0) (c.u 1) (c.st 0) (c.lo 0) (c.lo 1) (c.i 0) (c.i 1) (c.n 7) (c.n 8) (c.n 9) (c.n 10)) (by with_unfolding_all exact law_count_K.main) { cx0 with n := fromL (0) [L, fa, S, sc, t1, t2, t3, W, u2, u4, u5], i := fromL (0) [lap, mo], st := fromL (Str.empty) [x], u := fromL (0) [sh, va], o := fromL (default) [o1, o2, o3, o4, o5, o6, o7, o8], lo := fromL ([]) [hd, tl], v := fromL (.none) [cd], m := fromL (fun _ => none) [mg, mb, m], sh := fromL ({}) [s], h := fromL ({}) [base], lst := fromL ([]) [rest], w := fromL (worldZ) [w], me := fromL (fun _ => none) [mean], qf := fromL (fun _ _ => True) [Q] }
end
section
noncomputable abbrev tup3g (a b c : Value) : Obj := { cls := .type "tuple", data := .seq #[a, b, c] }
theorem hsv_grey {w : World} {mean : ExcName → Option Value} {mg mb : Str → Option Value}
    {dp un : Nat} {gd : Option (List Code)} {cn : Str} {cs : Scope} {ca : Addr} {ccd : Value} {cl : List (Str × Addr)} {outer : List Env} {A₀ : Around} {base h₀ : Heap} {L : Addr} {m : Str → Option Value} {s : Shared} {Q E : Value → Shared → Prop} {news : List (Addr × Obj)}
    {h s9 v : UInt64} {u1 u2 u3 : Tok}
    (B : Below A₀ base outer h₀) (F : Fr h₀ L s.heap m) (X : (KX w.params).In h₀) (N : News h₀ L s.heap news) (T : Top topProg lawLoose mean mg mb h₀) (hk : cs.kind = .function)
    (hdp : dp + 20 < recursionLimit) (hun : un + 60 < cLine) (h0t : 0 < s.toks) (h0a : u3 ≠ 0) (hs : (Float64.cmp s9 0 == some Ordering.eq) = true)
    (hret : ∀ (D : Addr) (t1 t2 t3 : Tok) (h' : Heap) (tk' : Nat) (_ : t1 ≠ 0 ∧ t2 ≠ 0 ∧ t3 ≠ 0 ∧ 0 < tk'), Fr h₀ L h' m → News h₀ L h' ((D, tup3g (.float v t1) (.float v t2) (.float v t3)) :: news) → Q (.ref D) { s with heap := h', toks := tk' }) :
    wpAny (model Challenge.rw_st0007_01.prog w) (W.ktrTop dp un gd cn cs L ca ccd cl outer) (call (.ref 49) [.float h u1, .float s9 u2, .float v u3]) Q E s := by
  have hmk100 := MarkH.mk (n := 100)
  revert X; k_fill; intro X
  refine wpAny_call ?_
  k_dflt cell_enter
  k_steps
  all_goals first | (exact hret _ _ _ _ _ _ (by refine ⟨?_, ?_, ?_, ?_⟩ <;> first | assumption | omega | exact Nat.ne_of_gt (by omega)) (by assumption) (by assumption)) | (exfalso; exact Bool.noConfusion (hs.symm.trans (by assumption))) | k_data
end
local macro_rules | `(tactic| walk_at "call ref") => `(tactic| (k_here; kso_open hsv_grey))
local macro_rules | `(tactic| walk_at "call ref") => `(tactic| (k_here; kso_open rgb_grey))
section
open PyProof.Rows.LCg
@[reducible] noncomputable def law_greys_S (w : World) (mean : ExcName → Option Value) (mg mb : Str → Option Value) (base : Heap) (L fa : Addr) (cd : Value) (m : Str → Option Value) (s : Shared) (Q : Flow → Shared → Prop) (rest : List Stmt) (o1 o2 o3 o4 o5 o6 o7 o8 : Obj) (S : Addr) (sc : Nat) (t1 t2 t3 t4 : Tok) (sh va : UInt64) (x : Str) (cn : Int) (tl : List (Addr × Obj)) (fi : Int) (W : Nat) (u2 u3 : Tok) : Prop := ∀ (B : Below callerA base [] base) (F : Fr base L s.heap m) (X : (KX w.params).In base) (T : Top topProg lawLoose mean mg mb base) (N : News base L s.heap (((L + 1 + 1 + 1 + 1 + 1 + 1 + 1 + 1 : Addr), o8) :: ((L + 1 + 1 + 1 + 1 + 1 + 1 + 1 : Addr), o7) :: ((L + 1 + 1 + 1 + 1 + 1 + 1 : Addr), o6) :: ((L + 1 + 1 + 1 + 1 + 1 : Addr), o5) :: ((L + 1 + 1 + 1 + 1 : Addr), o4) :: ((L + 1 + 1 + 1 : Addr), o3) :: ((L + 1 + 1 : Addr), o2) :: ((L + 1 : Addr), o1) :: tl)) (h0t : 0 < s.toks) (hz1 : t2 ≠ 0) (h105 : @LT.lt Nat _ 105 L) (ho2 : o2.data = .cell (some (.int (2 ^ W) u2))) (ho3 : o3.data = .cell (some (.int fi u3))) (hfin : ¬ Float64.isInf (Float64.ofFrac (decide (fi < 0) != decide ((2 : Int) ^ W < 0)) fi.natAbs ((2 : Int) ^ W).natAbs) = true) (hv : (Float64.cmp (minF va va va) (maxF va va va) == some Ordering.eq) = true) (hms : m (Str.ofString "share") = some (.float sh t1)) (hmv : m (Str.ofString "value") = some (.float va t2)) (hmz : m (Str.ofString "sizes") = some (.ref S)) (hmt : m (Str.ofString "text") = some (.str x t3)) (hmc : m (Str.ofString "count") = some (.int cn t4)) (hret : ∀ (G T1 T2 T3 : Addr) (v1 v2 v3 v4 v5 v6 v7 v8 v9 : Tok) (m' : Str → Option Value) (h' : Heap) (tk' : Nat), ((v1 ≠ 0 ∧ v2 ≠ 0 ∧ v3 ≠ 0) ∧ (v4 ≠ 0 ∧ v5 ≠ 0 ∧ v6 ≠ 0) ∧ (v7 ≠ 0 ∧ v8 ≠ 0 ∧ v9 ≠ 0) ∧ 0 < tk') → Fr base L h' m' → News base L h' ((G, PySem.W.listOf #[.ref T1, .ref T2, .ref T3] 0) :: (T3, tupO #[.float 0 v7, .float 0 v8, .float (maxF 0 0 0) v9] 0) :: (T2, tupO #[.float 0 v4, .float 0 v5, .float (maxF va va va) v6] 0) :: (T1, tupO #[.float va v1, .float va v2, .float va v3] 0) :: ((L + 1 + 1 + 1 + 1 + 1 + 1 + 1 + 1 : Addr), o8) :: ((L + 1 + 1 + 1 + 1 + 1 + 1 + 1 : Addr), o7) :: ((L + 1 + 1 + 1 + 1 + 1 + 1 : Addr), o6) :: ((L + 1 + 1 + 1 + 1 + 1 : Addr), o5) :: ((L + 1 + 1 + 1 + 1 : Addr), o4) :: ((L + 1 + 1 + 1 : Addr), o3) :: ((L + 1 + 1 : Addr), o2) :: ((L + 1 : Addr), o1) :: tl) → m' (Str.ofString "greys") = some (.ref G) → m' (Str.ofString "share") = some (.float sh t1) → m' (Str.ofString "value") = some (.float va t2) → m' (Str.ofString "sizes") = some (.ref S) → m' (Str.ofString "text") = some (.str x t3) → m' (Str.ofString "count") = some (.int cn t4) → wpAny (model Challenge.rw_st0007_01.prog w) (lawA L fa cd) (execs rest (lawEnv L fa cd)) Q (fun _ _ => False) { s with heap := h', toks := tk' }), wpAny (model Challenge.rw_st0007_01.prog w) (lawA L fa cd) (execs (lawCut 21 1 ++ rest) (lawEnv L fa cd)) Q (fun _ _ => False) s
namespace law_greys_K
@[irreducible] noncomputable def pt : Cx := bad fun c => law_greys_S (c.w 0) (c.me 0) (c.m 0) (c.m 1) (c.h 0) (c.n 0) (c.n 1) (c.v 0) (c.m 2) (c.sh 0) (c.qf 0) (c.lst 0) (c.o 0) (c.o 1) (c.o 2) (c.o 3) (c.o 4) (c.o 5) (c.o 6) (c.o 7) (c.n 2) (c.n 3) (c.n 4) (c.n 5) (c.n 6) (c.n 7) (c.u 0) (c.u 1) (c.st 0) (c.i 0) (c.lo 0) (c.i 1) (c.n 8) (c.n 9) (c.n 10)
@[irreducible] noncomputable def W : Nat := pt.n 8
theorem main : law_greys_S (pt.w 0) (pt.me 0) (pt.m 0) (pt.m 1) (pt.h 0) (pt.n 0) (pt.n 1) (pt.v 0) (pt.m 2) (pt.sh 0) (pt.qf 0) (pt.lst 0) (pt.o 0) (pt.o 1) (pt.o 2) (pt.o 3) (pt.o 4) (pt.o 5) (pt.o 6) (pt.o 7) (pt.n 2) (pt.n 3) (pt.n 4) (pt.n 5) (pt.n 6) (pt.n 7) (pt.u 0) (pt.u 1) (pt.st 0) (pt.i 0) (pt.lo 0) (pt.i 1) W (pt.n 9) (pt.n 10) := by
  intro B F X T N h0t hz1 h105 ho2 ho3 hfin hv hms hmv hmz hmt hmc hret
  have hmk100 := MarkH.mk (n := 100)
  have hmk101 := MarkH.mk (n := 101)
  rw [show lawCut 21 1 = [_] from rfl]
  revert X; k_fill; intro X
  rw [known_eq hms, known_eq hmv, known_eq hmz, known_eq hmt, known_eq hmc] at F
  have h2w : (2 : Int) ^ W ≠ 0 := Int.ne_of_gt (Int.pow_pos (by omega))
  k_steps
  all_goals first | exact absurd (by assumption) h2w | exact absurd (by assumption) hfin | skip
  try dsimp only
  (refine' hret _ _ _ _ _ _ _ _ _ _ _ _ _ _ _ _ ?gz ?gF ?gN ?g0 ?g1 ?g2 ?g3 ?g4 ?g5; (case gF => assumption); (case g0 => exact rfl); (case gN => (first | assumption | exact cb_drop (by assumption) (by kcj_all))); (case g1 => exact rfl); (case g2 => exact rfl); (case g3 => exact rfl); (case g4 => exact rfl); (case g5 => exact rfl); (case gz => refine ⟨⟨?_, ?_, ?_⟩, ⟨?_, ?_, ?_⟩, ⟨?_, ?_, ?_⟩, ?_⟩ <;> first | assumption | omega | exact Nat.ne_of_gt (by omega)))
end law_greys_K
theorem law_greys {w : World} {mean : ExcName → Option Value} {mg mb : Str → Option Value} {base : Heap} {L fa : Addr} {cd : Value} {m : Str → Option Value} {s : Shared} {Q : Flow → Shared → Prop} {rest : List Stmt} {o1 o2 o3 o4 o5 o6 o7 o8 : Obj} {S : Addr} {sc : Nat} {t1 t2 t3 t4 : Tok} {sh va : UInt64} {x : Str} {cn : Int} {tl : List (Addr × Obj)} {fi : Int} {W : Nat} {u2 u3 : Tok} : law_greys_S w mean mg mb base L fa cd m s Q rest o1 o2 o3 o4 o5 o6 o7 o8 S sc t1 t2 t3 t4 sh va x cn tl fi W u2 u3 := @by_bad (fun c => law_greys_S (c.w 0) (c.me 0) (c.m 0) (c.m 1) (c.h 0) (c.n 0) (c.n 1) (c.v 0) (c.m 2) (c.sh 0) (c.qf 0) (c.lst 0) (c.o 0) (c.o 1) (c.o 2) (c.o 3) (c.o 4) (c.o 5) (c.o 6) (c.o 7) (c.n 2) (c.n 3) (c.n 4) (c.n 5) (c.n 6) (c.n 7) (c.u 0) (c.u 1) (c.st 0) (c.i 0) (c.lo 0) (c.i 1) (c.n 8) (c.n 9) (c.n 10)) (by with_unfolding_all exact law_greys_K.main) { cx0 with n := fromL (0) [L, fa, S, sc, t1, t2, t3, t4, W, u2, u3], i := fromL (0) [cn, fi], st := fromL (Str.empty) [x], u := fromL (0) [sh, va], o := fromL (default) [o1, o2, o3, o4, o5, o6, o7, o8], lo := fromL ([]) [tl], v := fromL (.none) [cd], m := fromL (fun _ => none) [mg, mb, m], sh := fromL ({}) [s], h := fromL ({}) [base], lst := fromL ([]) [rest], w := fromL (worldZ) [w], me := fromL (fun _ => none) [mean], qf := fromL (fun _ _ => True) [Q] }
end
section
noncomputable def hueB (gn : Int) (W : Nat) : UInt64 := Float64.ofFrac (decide (gn < 0) != decide ((2 : Int) ^ W < 0)) gn.natAbs ((2 : Int) ^ W).natAbs
structure HueOk (sh va : UInt64) (gn : Int) (W : Nat) : Prop where
  fin : ¬ Float64.isInf (hueB gn W) = true
  hs : (Float64.cmp sh 0 == some Ordering.eq) = false
  nan : Float64.isNaN (Float64.mul (hueB gn W) 4618441417868443648) = false
  inf : Float64.isInf (Float64.mul (hueB gn W) 4618441417868443648) = false
  bd : (Flt.toInt Float64.truncOf (Float64.mul (hueB gn W) 4618441417868443648)).natAbs < 2 ^ 1024 - 2 ^ 970
  paint : hsvF (hueB gn W) sh va (Flt.toInt Float64.truncOf (Float64.mul (hueB gn W) 4618441417868443648)) = (paintF (gn.fmod (2 ^ W)) (2 ^ W) sh va 0, paintF (gn.fmod (2 ^ W)) (2 ^ W) sh va 1, paintF (gn.fmod (2 ^ W)) (2 ^ W) sh va 2)
  self0 : selfEq (paintF (gn.fmod (2 ^ W)) (2 ^ W) sh va 0)
  self1 : selfEq (paintF (gn.fmod (2 ^ W)) (2 ^ W) sh va 1)
  self2 : selfEq (paintF (gn.fmod (2 ^ W)) (2 ^ W) sh va 2)
  mm : (Float64.cmp (minF (paintF (gn.fmod (2 ^ W)) (2 ^ W) sh va 0) (paintF (gn.fmod (2 ^ W)) (2 ^ W) sh va 1) (paintF (gn.fmod (2 ^ W)) (2 ^ W) sh va 2)) (maxF (paintF (gn.fmod (2 ^ W)) (2 ^ W) sh va 0) (paintF (gn.fmod (2 ^ W)) (2 ^ W) sh va 1) (paintF (gn.fmod (2 ^ W)) (2 ^ W) sh va 2)) == some Ordering.eq) = false
  mx : maxF (paintF (gn.fmod (2 ^ W)) (2 ^ W) sh va 0) (paintF (gn.fmod (2 ^ W)) (2 ^ W) sh va 1) (paintF (gn.fmod (2 ^ W)) (2 ^ W) sh va 2) = va
  z1 : Float64.isZero va = false
  z2 : Float64.isZero (Float64.sub va (minF (paintF (gn.fmod (2 ^ W)) (2 ^ W) sh va 0) (paintF (gn.fmod (2 ^ W)) (2 ^ W) sh va 1) (paintF (gn.fmod (2 ^ W)) (2 ^ W) sh va 2))) = false
  hue : (Float64.divmod (Float64.div (hueF (paintF (gn.fmod (2 ^ W)) (2 ^ W) sh va 0) (paintF (gn.fmod (2 ^ W)) (2 ^ W) sh va 1) (paintF (gn.fmod (2 ^ W)) (2 ^ W) sh va 2)) 4618441417868443648) 4607182418800017408).snd = hueB (gn.fmod (2 ^ W)) W
  sat : Float64.div (Float64.sub va (minF (paintF (gn.fmod (2 ^ W)) (2 ^ W) sh va 0) (paintF (gn.fmod (2 ^ W)) (2 ^ W) sh va 1) (paintF (gn.fmod (2 ^ W)) (2 ^ W) sh va 2))) va = sh
  finp : ¬ Float64.isInf (hueB (gn.fmod (2 ^ W)) W) = true
  selfp : selfEq (hueB (gn.fmod (2 ^ W)) W)
  selfs : selfEq sh
  selfv : selfEq va
  finw : ¬ Float64.isInf (Float64.ofInt (2 ^ W)) = true
  nani : Float64.isNaN (Float64.mul (hueB (gn.fmod (2 ^ W)) W) (Float64.ofInt (2 ^ W))) = false
  infi : Float64.isInf (Float64.mul (hueB (gn.fmod (2 ^ W)) W) (Float64.ofInt (2 ^ W))) = false
  int : Flt.toInt Float64.truncOf (Float64.mul (hueB (gn.fmod (2 ^ W)) W) (Float64.ofInt (2 ^ W))) = gn.fmod (2 ^ W)
theorem HueOk.z1m {sh va : UInt64} {gn : Int} {W : Nat} (H : HueOk sh va gn W) : Float64.isZero (maxF (paintF (gn.fmod (2 ^ W)) (2 ^ W) sh va 0) (paintF (gn.fmod (2 ^ W)) (2 ^ W) sh va 1) (paintF (gn.fmod (2 ^ W)) (2 ^ W) sh va 2)) = false := by rw [H.mx]; exact H.z1
theorem HueOk.z2m {sh va : UInt64} {gn : Int} {W : Nat} (H : HueOk sh va gn W) : Float64.isZero (Float64.sub (maxF (paintF (gn.fmod (2 ^ W)) (2 ^ W) sh va 0) (paintF (gn.fmod (2 ^ W)) (2 ^ W) sh va 1) (paintF (gn.fmod (2 ^ W)) (2 ^ W) sh va 2)) (minF (paintF (gn.fmod (2 ^ W)) (2 ^ W) sh va 0) (paintF (gn.fmod (2 ^ W)) (2 ^ W) sh va 1) (paintF (gn.fmod (2 ^ W)) (2 ^ W) sh va 2))) = false := by rw [H.mx]; exact H.z2
end
local macro_rules | `(tactic| walk_at "call ref") => `(tactic| (k_here; kso_open hsv_w))
local macro_rules | `(tactic| walk_at "call ref") => `(tactic| (k_here; kso_open painted_w))
local macro_rules | `(tactic| walk_at "call ref") => `(tactic| (k_here; kso_open rgb_w))
section
noncomputable def lawLoop : List Stmt := match lawBody.getD 24 default with | .For _ _ b _ _ => b | _ => []
noncomputable def loopCut (a n : Nat) : List Stmt := (lawLoop.drop a).take n
@[reducible] noncomputable def loop_gone_S (w : World) (mean : ExcName → Option Value) (mg mb : Str → Option Value) (base : Heap) (L fa : Addr) (cd : Value) (m : Str → Option Value) (s : Shared) (Q : Flow → Shared → Prop) (rest : List Stmt) (o1 o2 o3 o4 o5 o6 o7 o8 : Obj) (S : Addr) (t1 t2 t3 t4 t5 t6 : Tok) (sh va : UInt64) (x : Str) (cn k gn : Int) (sc : Nat) (ss : List Value) (tl : List (Addr × Obj)) (zs : List Int) : Prop := ∀ (B : Below callerA base [] base) (F : Fr base L s.heap m) (X : (KX w.params).In base) (T : Top topProg lawLoose mean mg mb base) (N : News base L s.heap ((S, PySem.W.listOf ss.toArray sc) :: ((L + 1 + 1 + 1 + 1 + 1 + 1 + 1 + 1 : Addr), o8) :: ((L + 1 + 1 + 1 + 1 + 1 + 1 + 1 : Addr), o7) :: ((L + 1 + 1 + 1 + 1 + 1 + 1 : Addr), o6) :: ((L + 1 + 1 + 1 + 1 + 1 : Addr), o5) :: ((L + 1 + 1 + 1 + 1 : Addr), o4) :: ((L + 1 + 1 + 1 : Addr), o3) :: ((L + 1 + 1 : Addr), o2) :: ((L + 1 : Addr), o1) :: tl)) (hss : IntsAre ss zs) (hk0 : 0 ≤ k) (hkl : k < zs.length) (hl : zs.length ≤ 9) (h105 : @LT.lt Nat _ 105 L) (hms : m (Str.ofString "share") = some (.float sh t1)) (hmv : m (Str.ofString "value") = some (.float va t2)) (hmz : m (Str.ofString "sizes") = some (.ref S)) (hmt : m (Str.ofString "text") = some (.str x t3)) (hmc : m (Str.ofString "count") = some (.int cn t4)) (hmk : m (Str.ofString "k") = some (.int k t5)) (hmg : m (Str.ofString "gone") = some (.int gn t6)) (hret : ∀ (t6 : Tok) (m' : Str → Option Value) (h' : Heap) (tk' : Nat), Fr base L h' m' → News base L h' ((S, PySem.W.listOf ss.toArray sc) :: ((L + 1 + 1 + 1 + 1 + 1 + 1 + 1 + 1 : Addr), o8) :: ((L + 1 + 1 + 1 + 1 + 1 + 1 + 1 : Addr), o7) :: ((L + 1 + 1 + 1 + 1 + 1 + 1 : Addr), o6) :: ((L + 1 + 1 + 1 + 1 + 1 : Addr), o5) :: ((L + 1 + 1 + 1 + 1 : Addr), o4) :: ((L + 1 + 1 + 1 : Addr), o3) :: ((L + 1 + 1 : Addr), o2) :: ((L + 1 : Addr), o1) :: tl) → m' (Str.ofString "share") = some (.float sh t1) → m' (Str.ofString "value") = some (.float va t2) → m' (Str.ofString "sizes") = some (.ref S) → m' (Str.ofString "text") = some (.str x t3) → m' (Str.ofString "count") = some (.int cn t4) → m' (Str.ofString "k") = some (.int k t5) → m' (Str.ofString "gone") = some (.int (gn + zs.getD k.toNat 0) t6) → wpAny (model Challenge.rw_st0007_01.prog w) (lawA L fa cd) (execs rest (lawEnv L fa cd)) Q (fun _ _ => False) { s with heap := h', toks := tk' }), wpAny (model Challenge.rw_st0007_01.prog w) (lawA L fa cd) (execs (loopCut 0 1 ++ rest) (lawEnv L fa cd)) Q (fun _ _ => False) s
namespace loop_gone_K
@[irreducible] noncomputable def pt : Cx := bad fun c => loop_gone_S (c.w 0) (c.me 0) (c.m 0) (c.m 1) (c.h 0) (c.n 0) (c.n 1) (c.v 0) (c.m 2) (c.sh 0) (c.qf 0) (c.lst 0) (c.o 0) (c.o 1) (c.o 2) (c.o 3) (c.o 4) (c.o 5) (c.o 6) (c.o 7) (c.n 2) (c.n 3) (c.n 4) (c.n 5) (c.n 6) (c.n 7) (c.n 8) (c.u 0) (c.u 1) (c.st 0) (c.i 0) (c.i 1) (c.i 2) (c.n 9) (c.lv 0) (c.lo 0) (c.li 0)
theorem main : loop_gone_S (pt.w 0) (pt.me 0) (pt.m 0) (pt.m 1) (pt.h 0) (pt.n 0) (pt.n 1) (pt.v 0) (pt.m 2) (pt.sh 0) (pt.qf 0) (pt.lst 0) (pt.o 0) (pt.o 1) (pt.o 2) (pt.o 3) (pt.o 4) (pt.o 5) (pt.o 6) (pt.o 7) (pt.n 2) (pt.n 3) (pt.n 4) (pt.n 5) (pt.n 6) (pt.n 7) (pt.n 8) (pt.u 0) (pt.u 1) (pt.st 0) (pt.i 0) (pt.i 1) (pt.i 2) (pt.n 9) (pt.lv 0) (pt.lo 0) (pt.li 0) := by
  intro B F X T N hss hk0 hkl hl h105 hms hmv hmz hmt hmc hmk hmg hret
  have hmk100 := MarkH.mk (n := 100)
  have hmk101 := MarkH.mk (n := 101)
  have hmk104 := MarkH.mk (n := 104)
  rw [show loopCut 0 1 = [_] from rfl]
  revert X; k_fill; intro X
  rw [known_eq hms, known_eq hmv, known_eq hmz, known_eq hmt, known_eq hmc, known_eq hmk, known_eq hmg] at F
  k_steps
  try dsimp only
  (refine' hret _ _ _ _ ?gF ?gN ?g0 ?g1 ?g2 ?g3 ?g4 ?g5 ?g6; (case gF => assumption); (case gN => (first | assumption | exact cb_drop (by assumption) (by kcj_all))); (case g0 => exact rfl); (case g1 => exact rfl); (case g2 => exact rfl); (case g3 => exact rfl); (case g4 => exact rfl); (case g5 => exact rfl); (case g6 => exact rfl))
end loop_gone_K
theorem loop_gone {w : World} {mean : ExcName → Option Value} {mg mb : Str → Option Value} {base : Heap} {L fa : Addr} {cd : Value} {m : Str → Option Value} {s : Shared} {Q : Flow → Shared → Prop} {rest : List Stmt} {o1 o2 o3 o4 o5 o6 o7 o8 : Obj} {S : Addr} {t1 t2 t3 t4 t5 t6 : Tok} {sh va : UInt64} {x : Str} {cn k gn : Int} {sc : Nat} {ss : List Value} {tl : List (Addr × Obj)} {zs : List Int} : loop_gone_S w mean mg mb base L fa cd m s Q rest o1 o2 o3 o4 o5 o6 o7 o8 S t1 t2 t3 t4 t5 t6 sh va x cn k gn sc ss tl zs := @by_bad (fun c => loop_gone_S (c.w 0) (c.me 0) (c.m 0) (c.m 1) (c.h 0) (c.n 0) (c.n 1) (c.v 0) (c.m 2) (c.sh 0) (c.qf 0) (c.lst 0) (c.o 0) (c.o 1) (c.o 2) (c.o 3) (c.o 4) (c.o 5) (c.o 6) (c.o 7) (c.n 2) (c.n 3) (c.n 4) (c.n 5) (c.n 6) (c.n 7) (c.n 8) (c.u 0) (c.u 1) (c.st 0) (c.i 0) (c.i 1) (c.i 2) (c.n 9) (c.lv 0) (c.lo 0) (c.li 0)) (by with_unfolding_all exact loop_gone_K.main) { cx0 with n := fromL (0) [L, fa, S, t1, t2, t3, t4, t5, t6, sc], i := fromL (0) [cn, k, gn], st := fromL (Str.empty) [x], u := fromL (0) [sh, va], o := fromL (default) [o1, o2, o3, o4, o5, o6, o7, o8], lo := fromL ([]) [tl], v := fromL (.none) [cd], lv := fromL ([]) [ss], m := fromL (fun _ => none) [mg, mb, m], sh := fromL ({}) [s], h := fromL ({}) [base], lst := fromL ([]) [rest], w := fromL (worldZ) [w], me := fromL (fun _ => none) [mean], qf := fromL (fun _ _ => True) [Q], li := fromL ([]) [zs] }
local macro_rules | `(tactic| top_reprB) => do
  let l := #[``HueOk.hs, ``HueOk.nan, ``HueOk.inf, ``HueOk.bd, ``HueOk.mm, ``HueOk.z1m, ``HueOk.z2m].map Lean.mkCIdent
  `(tactic| first $[| (apply $l; assumption)]*)
@[reducible] noncomputable def loop_hue_S (w : World) (mean : ExcName → Option Value) (mg mb : Str → Option Value) (base : Heap) (L fa : Addr) (cd : Value) (m : Str → Option Value) (s : Shared) (Q : Flow → Shared → Prop) (rest : List Stmt) (o1 o2 o3 o4 o5 o6 o7 o8 : Obj) (S : Addr) (t1 t2 t3 t4 t5 t6 : Tok) (sh va : UInt64) (x : Str) (cn k gn : Int) (sc : Nat) (ss : List Value) (tl : List (Addr × Obj)) (W : Nat) (u2 : Tok) : Prop := ∀ (B : Below callerA base [] base) (F : Fr base L s.heap m) (X : (KX w.params).In base) (T : Top topProg lawLoose mean mg mb base) (N : News base L s.heap ((S, PySem.W.listOf ss.toArray sc) :: ((L + 1 + 1 + 1 + 1 + 1 + 1 + 1 + 1 : Addr), o8) :: ((L + 1 + 1 + 1 + 1 + 1 + 1 + 1 : Addr), o7) :: ((L + 1 + 1 + 1 + 1 + 1 + 1 : Addr), o6) :: ((L + 1 + 1 + 1 + 1 + 1 : Addr), o5) :: ((L + 1 + 1 + 1 + 1 : Addr), o4) :: ((L + 1 + 1 + 1 : Addr), o3) :: ((L + 1 + 1 : Addr), o2) :: ((L + 1 : Addr), o1) :: tl)) (H : HueOk sh va gn W) (h0t : 0 < s.toks) (hz1 : t1 ≠ 0) (hz2 : t2 ≠ 0) (h3W : 3 ≤ W) (hW20 : W ≤ 20) (ho2 : o2.data = .cell (some (.int (2 ^ W) u2))) (h105 : @LT.lt Nat _ 105 L) (hms : m (Str.ofString "share") = some (.float sh t1)) (hmv : m (Str.ofString "value") = some (.float va t2)) (hmz : m (Str.ofString "sizes") = some (.ref S)) (hmt : m (Str.ofString "text") = some (.str x t3)) (hmc : m (Str.ofString "count") = some (.int cn t4)) (hmk : m (Str.ofString "k") = some (.int k t5)) (hmg : m (Str.ofString "gone") = some (.int gn t6)) (hret : ∀ (D : Addr) (v1 v2 v3 : Tok) (m' : Str → Option Value) (h' : Heap) (tk' : Nat), 0 < tk' → Fr base L h' m' → News base L h' ((D, tupO #[.float (hueB (gn.fmod (2 ^ W)) W) v1, .float sh v2, .float va v3] 0) :: (S, PySem.W.listOf ss.toArray sc) :: ((L + 1 + 1 + 1 + 1 + 1 + 1 + 1 + 1 : Addr), o8) :: ((L + 1 + 1 + 1 + 1 + 1 + 1 + 1 : Addr), o7) :: ((L + 1 + 1 + 1 + 1 + 1 + 1 : Addr), o6) :: ((L + 1 + 1 + 1 + 1 + 1 : Addr), o5) :: ((L + 1 + 1 + 1 + 1 : Addr), o4) :: ((L + 1 + 1 + 1 : Addr), o3) :: ((L + 1 + 1 : Addr), o2) :: ((L + 1 : Addr), o1) :: tl) → m' (Str.ofString "share") = some (.float sh t1) → m' (Str.ofString "value") = some (.float va t2) → m' (Str.ofString "sizes") = some (.ref S) → m' (Str.ofString "text") = some (.str x t3) → m' (Str.ofString "count") = some (.int cn t4) → m' (Str.ofString "k") = some (.int k t5) → m' (Str.ofString "gone") = some (.int gn t6) → m' (Str.ofString "seen") = some (.ref D) → wpAny (model Challenge.rw_st0007_01.prog w) (lawA L fa cd) (execs rest (lawEnv L fa cd)) Q (fun _ _ => False) { s with heap := h', toks := tk' }), wpAny (model Challenge.rw_st0007_01.prog w) (lawA L fa cd) (execs (loopCut 1 4 ++ rest) (lawEnv L fa cd)) Q (fun _ _ => False) s
namespace loop_hue_K
@[irreducible] noncomputable def pt : Cx := bad fun c => loop_hue_S (c.w 0) (c.me 0) (c.m 0) (c.m 1) (c.h 0) (c.n 0) (c.n 1) (c.v 0) (c.m 2) (c.sh 0) (c.qf 0) (c.lst 0) (c.o 0) (c.o 1) (c.o 2) (c.o 3) (c.o 4) (c.o 5) (c.o 6) (c.o 7) (c.n 2) (c.n 3) (c.n 4) (c.n 5) (c.n 6) (c.n 7) (c.n 8) (c.u 0) (c.u 1) (c.st 0) (c.i 0) (c.i 1) (c.i 2) (c.n 9) (c.lv 0) (c.lo 0) (c.n 10) (c.n 11)
@[irreducible] noncomputable def k : Int := pt.i 1
@[irreducible] noncomputable def W : Nat := pt.n 10
theorem main : loop_hue_S (pt.w 0) (pt.me 0) (pt.m 0) (pt.m 1) (pt.h 0) (pt.n 0) (pt.n 1) (pt.v 0) (pt.m 2) (pt.sh 0) (pt.qf 0) (pt.lst 0) (pt.o 0) (pt.o 1) (pt.o 2) (pt.o 3) (pt.o 4) (pt.o 5) (pt.o 6) (pt.o 7) (pt.n 2) (pt.n 3) (pt.n 4) (pt.n 5) (pt.n 6) (pt.n 7) (pt.n 8) (pt.u 0) (pt.u 1) (pt.st 0) (pt.i 0) k (pt.i 2) (pt.n 9) (pt.lv 0) (pt.lo 0) W (pt.n 11) := by
  intro B F X T N H h0t hz1 hz2 h3W hW20 ho2 h105 hms hmv hmz hmt hmc hmk hmg hret
  have hmk100 := MarkH.mk (n := 100)
  have hmk101 := MarkH.mk (n := 101)
  have hmk104 := MarkH.mk (n := 104)
  rw [show loopCut 1 4 = [_, _, _, _] from rfl]
  revert X; k_fill; intro X
  rw [known_eq hms, known_eq hmv, known_eq hmz, known_eq hmt, known_eq hmc, known_eq hmk, known_eq hmg] at F
  have h2w : (2 : Int) ^ W ≠ 0 := Int.ne_of_gt (Int.pow_pos (by omega))
  have hw1 : (1 : Int) ≤ 2 ^ W := Int.pow_pos (by omega)
  have hw2 : (2 : Int) ^ W ≤ 1048576 := by
    have := Nat.pow_le_pow_right (n := 2) (by decide) hW20
    have e : ((2 ^ W : Nat) : Int) = (2 : Int) ^ W := by simp
    omega
  have Hfin := H.fin
  unfold hueB at Hfin
  k_steps
  refine Hold.on ?_
  rename Fr _ _ _ _ => F1
  rename News _ _ _ _ => N1
  have Hp := H.paint
  unfold hueB at Hp
  rw [Hp] at N1
  dsimp only at N1
  clear Hp Hfin
  have Hfin := H.finp
  unfold hueB at Hfin
  have hbk := booked_none X F1.keep
  refine' ne_flt3 (tup_in (k := 0) N1 (.tail _ (.head _))) (tup_in (k := 0) N1 (.head _)) H.self0 H.self1 H.self2 ?q1 ?q2 hbk ?q3 ?_
  case q1 => refine ⟨?_, ?_, ?_⟩ <;> assumption
  case q2 => refine ⟨?_, ?_, ?_⟩ <;> assumption
  case q3 => ktr_units
  clear hbk
  k_steps
  refine Hold.on ?_
  rename Fr _ _ _ _ => F2
  rename News _ _ _ _ => N2
  have Hh := H.hue
  have Hm := H.mx
  have Hs := H.sat
  rw [Hh, Hm, Hs] at N2
  clear Hh Hm Hs
  have hbk := booked_none X F2.keep
  refine' ne_flt3 (tup_in (k := 0) N2 (.tail _ (.head _))) (tup_in (k := 0) N2 (.head _)) H.selfp H.selfs H.selfv ?q1 ?q2 hbk ?q3 ?_
  case q1 => refine ⟨?_, ?_, ?_⟩ <;> assumption
  case q2 => refine ⟨?_, ?_, ?_⟩ <;> first | assumption | exact Nat.ne_of_gt (by omega)
  case q3 => ktr_units
  clear hbk
  k_steps
  try dsimp only
  (refine' hret _ _ _ _ _ _ _ ?gt ?gF ?gN ?g0 ?g1 ?g2 ?g3 ?g4 ?g5 ?g6 ?gs; (case gF => assumption); (case gs => exact rfl); (case gN => (first | assumption | exact cb_drop (by assumption) (by kcj_all))); (case gt => first | assumption | omega); (case g0 => exact rfl); (case g1 => exact rfl); (case g2 => exact rfl); (case g3 => exact rfl); (case g4 => exact rfl); (case g5 => exact rfl); (case g6 => exact rfl))
end loop_hue_K
theorem loop_hue {w : World} {mean : ExcName → Option Value} {mg mb : Str → Option Value} {base : Heap} {L fa : Addr} {cd : Value} {m : Str → Option Value} {s : Shared} {Q : Flow → Shared → Prop} {rest : List Stmt} {o1 o2 o3 o4 o5 o6 o7 o8 : Obj} {S : Addr} {t1 t2 t3 t4 t5 t6 : Tok} {sh va : UInt64} {x : Str} {cn k gn : Int} {sc : Nat} {ss : List Value} {tl : List (Addr × Obj)} {W : Nat} {u2 : Tok} : loop_hue_S w mean mg mb base L fa cd m s Q rest o1 o2 o3 o4 o5 o6 o7 o8 S t1 t2 t3 t4 t5 t6 sh va x cn k gn sc ss tl W u2 := @by_bad (fun c => loop_hue_S (c.w 0) (c.me 0) (c.m 0) (c.m 1) (c.h 0) (c.n 0) (c.n 1) (c.v 0) (c.m 2) (c.sh 0) (c.qf 0) (c.lst 0) (c.o 0) (c.o 1) (c.o 2) (c.o 3) (c.o 4) (c.o 5) (c.o 6) (c.o 7) (c.n 2) (c.n 3) (c.n 4) (c.n 5) (c.n 6) (c.n 7) (c.n 8) (c.u 0) (c.u 1) (c.st 0) (c.i 0) (c.i 1) (c.i 2) (c.n 9) (c.lv 0) (c.lo 0) (c.n 10) (c.n 11)) (by with_unfolding_all exact loop_hue_K.main) { cx0 with n := fromL (0) [L, fa, S, t1, t2, t3, t4, t5, t6, sc, W, u2], i := fromL (0) [cn, k, gn], st := fromL (Str.empty) [x], u := fromL (0) [sh, va], o := fromL (default) [o1, o2, o3, o4, o5, o6, o7, o8], lo := fromL ([]) [tl], v := fromL (.none) [cd], lv := fromL ([]) [ss], m := fromL (fun _ => none) [mg, mb, m], sh := fromL ({}) [s], h := fromL ({}) [base], lst := fromL ([]) [rest], w := fromL (worldZ) [w], me := fromL (fun _ => none) [mean], qf := fromL (fun _ _ => True) [Q] }
end
section
local macro_rules | `(tactic| omega) => `(tactic| first | (with_reducible kas_types) | lia)
noncomputable def dig : Nat → Nat → List Nat
  | 0, _ => []
  | k + 1, n => dig k (n / 10) ++ [48 + n % 10]
theorem dig_len : ∀ k n, (dig k n).length = k
  | 0, _ => rfl
  | k + 1, n => by unfold dig; rw [List.length_append, dig_len k]; rfl
theorem digitChar_nat : ∀ d : Nat, d < 10 → (Nat.digitChar d).toNat = 48 + d := by decide
theorem toDigits_dig : ∀ (k n : Nat), 10 ^ k ≤ n → n < 10 ^ (k + 1) → (Nat.toDigits 10 n).map Char.toNat = dig (k + 1) n
  | 0, n, h0, h1 => by
    rw [Nat.toDigits_of_lt_base (by omega)]
    unfold dig dig
    rw [List.map_cons, List.map_nil, digitChar_nat n (by omega), Nat.mod_eq_of_lt (by omega)]
    rfl
  | k + 1, n, h0, h1 => by
    have hm : n % 10 < 10 := Nat.mod_lt n (by decide)
    rw [Nat.pow_succ] at h0 h1
    have t : Nat.toDigits 10 (n / 10) ++ Nat.toDigits 10 (n % 10) = Nat.toDigits 10 (10 * (n / 10) + n % 10) := Nat.toDigits_append_toDigits (by decide) (by have := Nat.pow_pos (n := k) (show 0 < 10 by decide); omega) hm
    rw [Nat.div_add_mod] at t
    rw [← t, List.map_append, Nat.toDigits_of_lt_base hm, toDigits_dig k (n / 10) ((Nat.le_div_iff_mul_le (by decide)).mpr h0) (Nat.div_lt_of_lt_mul (by rw [Nat.mul_comm]; exact h1))]
    conv => rhs; unfold dig
    rw [List.map_cons, List.map_nil, digitChar_nat _ hm]
noncomputable def numT (p : Int) : Str := Str.ofString (toString (10000000 + p))
theorem numT_cps {p : Nat} (h : p < 1048576) : (numT (p : Int)).cps.toList = dig 8 (10000000 + p) := by
  unfold numT
  rw [show (10000000 + (p : Int)) = ((10000000 + p : Nat) : Int) by omega, W.KIN.signs_num]
  exact toDigits_dig 7 _ (by omega) (by omega)
theorem numT_len {p : Int} (h0 : 0 ≤ p) (h : p < 1048576) : (numT p).length = 8 := by
  have e := tonat h0
  have := numT_cps (p := p.toNat) (by omega)
  rw [← e] at this
  have := congrArg List.length this
  rw [dig_len] at this
  simpa [Str.length] using this
theorem lt_app_left {a : List Nat} {c d : List Nat} (h : c < d) : a ++ c < a ++ d := by
  induction a with
  | nil => exact h
  | cons x a ih => exact List.cons_lt_cons_iff.mpr (.inr ⟨rfl, ih⟩)
theorem lt_app : ∀ {a b : List Nat} (c d : List Nat), a < b → a.length = b.length → a ++ c < b ++ d
  | [], [], _, _, h, _ => absurd h (by simp)
  | [], _ :: _, _, _, _, h => by simp at h
  | _ :: _, [], _, _, _, h => by simp at h
  | x :: a, y :: b, c, d, h, hl => by
    rcases List.cons_lt_cons_iff.mp h with h | ⟨e, h⟩
    · exact List.cons_lt_cons_iff.mpr (.inl h)
    · exact List.cons_lt_cons_iff.mpr (.inr ⟨e, lt_app c d h (by simpa using hl)⟩)
theorem dig_lt : ∀ (k : Nat) {n m : Nat}, m < 10 ^ k → n < m → dig k n < dig k m
  | 0, n, m, h, hl => by simp at h; omega
  | k + 1, n, m, h, hl => by
    unfold dig
    rw [Nat.pow_succ] at h
    by_cases e : n / 10 = m / 10
    · rw [e]
      exact lt_app_left (List.cons_lt_cons_iff.mpr (.inl (by omega)))
    · exact lt_app _ _ (dig_lt k (by omega) (by omega)) (by rw [dig_len, dig_len])
theorem cps_append (a b : Str) : (a ++ b).cps.toList = a.cps.toList ++ b.cps.toList := by
  show (Str.append a b).cps.toList = _
  unfold Str.append
  simp
theorem not_lt_of_lt' {a b : List Nat} (h : a < b) : ¬ b < a := List.lt_asymm h
theorem strc_lt {a b : Str} (h : a.cps.toList < b.cps.toList) : strc a b = -1 := by
  unfold strc
  rw [decide_eq_true h, decide_eq_false (not_lt_of_lt' h)]; rfl
theorem strc_gt {a b : Str} (h : b.cps.toList < a.cps.toList) : strc a b = 1 := by
  unfold strc
  rw [decide_eq_true h, decide_eq_false (not_lt_of_lt' h)]; rfl
theorem strc_self (a : Str) : strc a a = 0 := by
  unfold strc
  rw [decide_eq_false (List.lt_irrefl a.cps.toList)]; rfl
theorem strc_more (a b : Str) (h : b.cps.toList ≠ []) : strc a (a ++ b) = -1 := by
  refine strc_lt ?_
  rw [cps_append]
  conv => lhs; rw [← List.append_nil a.cps.toList]
  refine lt_app_left ?_
  cases hb : b.cps.toList with
  | nil => exact absurd hb h
  | cons x l => exact List.nil_lt_cons x l
noncomputable def tailT (nm : Str) (k : Nat) : List Nat := if nm = Str.empty then (if k % 2 = 0 then [] else [46]) else 46 :: nm.cps.toList
noncomputable def keyT (p : Int) (nm : Str) (k : Nat) : Str :=
  if nm = Str.empty then (if k % 2 = 0 then numT p else numT p ++ "." ++ Str.empty) else numT p ++ "." ++ nm
theorem keyT_cps {p : Nat} (h : p < 1048576) (nm : Str) (k : Nat) : (keyT p nm k).cps.toList = dig 8 (10000000 + p) ++ tailT nm k := by
  have hd : (Str.ofString ".").cps.toList = [46] := by decide +kernel
  have he : (Str.empty).cps.toList = [] := rfl
  unfold keyT tailT
  split
  · split
    · rw [numT_cps h, List.append_nil]
    · rw [cps_append, cps_append, numT_cps h, he, List.append_nil]
      congr 1
  · rw [cps_append, cps_append, numT_cps h, List.append_assoc]
    congr 1
theorem key_lt {p q : Nat} (hq : q < 1048576) (h : p < q) (nm nm' : Str) (k k' : Nat) : strc (keyT p nm k) (keyT q nm' k') = -1 ∧ strc (keyT q nm' k') (keyT p nm k) = 1 := by
  have hl : (keyT (p : Int) nm k).cps.toList < (keyT (q : Int) nm' k').cps.toList := by
    rw [keyT_cps (by omega), keyT_cps hq]
    exact lt_app _ _ (dig_lt 8 (by omega) (by omega)) (by rw [dig_len, dig_len])
  exact ⟨strc_lt hl, strc_gt hl⟩
theorem keyT_len {p : Nat} (h : p < 1048576) (nm : Str) (k : Nat) : (keyT p nm k).length ≤ 9 + nm.length := by
  have := congrArg List.length (keyT_cps h nm k)
  rw [List.length_append, dig_len] at this
  have h2 : (tailT nm k).length ≤ 1 + nm.length := by
    unfold tailT
    split
    · split <;> simp
    · simp [Str.length]; omega
  have h3 : (keyT p nm k).length = (keyT p nm k).cps.toList.length := by simp [Str.length]
  omega
end
local macro_rules | `(tactic| walk_at "call ref") => `(tactic| (k_here; ksl_open build_none))
local macro_rules | `(tactic| walk_at "call ref") => `(tactic| (k_here; ksl_open build_str))
section
theorem keyT_0 {p : Int} {nm : Str} {k : Nat} (h : nm = Str.empty) (h2 : k % 2 = 0) : keyT p nm k = numT p := by unfold keyT; rw [if_pos h, if_pos h2]
theorem keyT_1 {p : Int} {nm : Str} {k : Nat} (h : nm = Str.empty) (h2 : k % 2 = 1) : keyT p nm k = numT p ++ "." ++ Str.ofString "" := by
  unfold keyT; rw [if_pos h, if_neg (by omega), show Str.empty = Str.ofString "" from by decide +kernel]
theorem keyT_2 {p : Int} {nm : Str} {k : Nat} (h : nm ≠ Str.empty) : keyT p nm k = numT p ++ "." ++ nm := by unfold keyT; rw [if_neg h]
theorem empty_len {x : Str} (h : x ≠ Str.empty) : x.length ≠ 0 := fun e => h (by
  cases x with | mk a => exact congrArg Str.mk (Array.eq_empty_of_size_eq_zero e))
@[reducible] noncomputable def loop_key_S (w : World) (mean : ExcName → Option Value) (mg mb : Str → Option Value) (base : Heap) (L fa : Addr) (cd : Value) (m : Str → Option Value) (s : Shared) (Q : Flow → Shared → Prop) (rest : List Stmt) (o1 o2 o3 o4 o5 o6 o7 o8 : Obj) (S : Addr) (t1 t2 t3 t4 t5 t6 : Tok) (sh va : UInt64) (x : Str) (cn gn : Int) (sc : Nat) (ss : List Value) (tl : List (Addr × Obj)) (Nn D : Addr) (ns : List Value) (nl : List Str) (kn : Nat) (p : Int) (W : Nat) (u2 u6 v1 v2 v3 : Tok) (xp : UInt64) : Prop := ∀ {k : Int} (B : Below callerA base [] base) (F : Fr base L s.heap m) (X : (KX w.params).In base) (T : Top topProg lawLoose mean mg mb base) (N : News base L s.heap ((D, tupO #[.float xp v1, .float sh v2, .float va v3] 0) :: (Nn, LCg.lst ns) :: ((L + 1 + 1 + 1 + 1 + 1 + 1 + 1 + 1 : Addr), o8) :: ((L + 1 + 1 + 1 + 1 + 1 + 1 + 1 : Addr), o7) :: ((L + 1 + 1 + 1 + 1 + 1 + 1 : Addr), o6) :: ((L + 1 + 1 + 1 + 1 + 1 : Addr), o5) :: ((L + 1 + 1 + 1 + 1 : Addr), o4) :: ((L + 1 + 1 + 1 : Addr), o3) :: ((L + 1 + 1 : Addr), o2) :: ((L + 1 : Addr), o1) :: tl)) (hns : StrsAre ns nl) (hnl : ∀ y ∈ nl, y.length ≤ 100) (hn8 : nl.length = 8) (hk8 : kn < 8) (hke : k = (kn : Int)) (hW20 : W ≤ 20) (h0p : 0 ≤ p) (hpm : p < 1048576) (hfw : ¬ Float64.isInf (Float64.ofInt (2 ^ W)) = true) (hnp : Float64.isNaN (Float64.mul xp (Float64.ofInt (2 ^ W))) = false) (hip : Float64.isInf (Float64.mul xp (Float64.ofInt (2 ^ W))) = false) (hpp : Flt.toInt Float64.truncOf (Float64.mul xp (Float64.ofInt (2 ^ W))) = p) (ho2 : o2.data = .cell (some (.int (2 ^ W) u2))) (ho6 : o6.data = .cell (some (.ref Nn))) (h105 : @LT.lt Nat _ 105 L) (hms : m (Str.ofString "share") = some (.float sh t1)) (hmv : m (Str.ofString "value") = some (.float va t2)) (hmz : m (Str.ofString "sizes") = some (.ref S)) (hmt : m (Str.ofString "text") = some (.str x t3)) (hmc : m (Str.ofString "count") = some (.int cn t4)) (hmk : m (Str.ofString "k") = some (.int k t5)) (hmg : m (Str.ofString "gone") = some (.int gn t6)) (hmd : m (Str.ofString "seen") = some (.ref D)) (hret : ∀ (t8 : Tok) (m' : Str → Option Value) (h' : Heap) (tk' : Nat), Fr base L h' m' → News base L h' ((Nn, LCg.lst ns) :: ((L + 1 + 1 + 1 + 1 + 1 + 1 + 1 + 1 : Addr), o8) :: ((L + 1 + 1 + 1 + 1 + 1 + 1 + 1 : Addr), o7) :: ((L + 1 + 1 + 1 + 1 + 1 + 1 : Addr), o6) :: ((L + 1 + 1 + 1 + 1 + 1 : Addr), o5) :: ((L + 1 + 1 + 1 + 1 : Addr), o4) :: ((L + 1 + 1 + 1 : Addr), o3) :: ((L + 1 + 1 : Addr), o2) :: ((L + 1 : Addr), o1) :: tl) → m' (Str.ofString "share") = some (.float sh t1) → m' (Str.ofString "value") = some (.float va t2) → m' (Str.ofString "sizes") = some (.ref S) → m' (Str.ofString "text") = some (.str x t3) → m' (Str.ofString "count") = some (.int cn t4) → m' (Str.ofString "k") = some (.int k t5) → m' (Str.ofString "gone") = some (.int gn t6) → m' (Str.ofString "key") = some (.str (keyT p (nl.getD kn Str.empty) kn) t8) → wpAny (model Challenge.rw_st0007_01.prog w) (lawA L fa cd) (execs rest (lawEnv L fa cd)) Q (fun _ _ => False) { s with heap := h', toks := tk' }), wpAny (model Challenge.rw_st0007_01.prog w) (lawA L fa cd) (execs (loopCut 5 1 ++ rest) (lawEnv L fa cd)) Q (fun _ _ => False) s
namespace loop_key_K
@[irreducible] noncomputable def pt : Cx := bad fun c => loop_key_S (c.w 0) (c.me 0) (c.m 0) (c.m 1) (c.h 0) (c.n 0) (c.n 1) (c.v 0) (c.m 2) (c.sh 0) (c.qf 0) (c.lst 0) (c.o 0) (c.o 1) (c.o 2) (c.o 3) (c.o 4) (c.o 5) (c.o 6) (c.o 7) (c.n 2) (c.n 3) (c.n 4) (c.n 5) (c.n 6) (c.n 7) (c.n 8) (c.u 0) (c.u 1) (c.st 0) (c.i 0) (c.i 1) (c.n 9) (c.lv 0) (c.lo 0) (c.n 10) (c.n 11) (c.lv 1) (c.ls 0) (c.n 12) (c.i 2) (c.n 13) (c.n 14) (c.n 15) (c.n 16) (c.n 17) (c.n 18) (c.u 2)
@[irreducible] noncomputable def nl : List Str := pt.ls 0
@[irreducible] noncomputable def kn : Nat := pt.n 12
@[irreducible] noncomputable def p : Int := pt.i 2
@[irreducible] noncomputable def W : Nat := pt.n 13
@[irreducible] noncomputable def xp : UInt64 := pt.u 2
theorem main : loop_key_S (pt.w 0) (pt.me 0) (pt.m 0) (pt.m 1) (pt.h 0) (pt.n 0) (pt.n 1) (pt.v 0) (pt.m 2) (pt.sh 0) (pt.qf 0) (pt.lst 0) (pt.o 0) (pt.o 1) (pt.o 2) (pt.o 3) (pt.o 4) (pt.o 5) (pt.o 6) (pt.o 7) (pt.n 2) (pt.n 3) (pt.n 4) (pt.n 5) (pt.n 6) (pt.n 7) (pt.n 8) (pt.u 0) (pt.u 1) (pt.st 0) (pt.i 0) (pt.i 1) (pt.n 9) (pt.lv 0) (pt.lo 0) (pt.n 10) (pt.n 11) (pt.lv 1) nl kn p W (pt.n 14) (pt.n 15) (pt.n 16) (pt.n 17) (pt.n 18) xp := by
  intro k B F X T N hns hnl hn8 hk8 hke hW20 h0p hpm hfw hnp hip hpp ho2 ho6 h105 hms hmv hmz hmt hmc hmk hmg hmd hret
  have hmk100 := MarkH.mk (n := 100)
  have hmk101 := MarkH.mk (n := 101)
  have hmk105 := MarkH.mk (n := 105)
  have hmk107 := MarkH.mk (n := 107)
  rw [show loopCut 5 1 = [_] from rfl]
  revert X; k_fill; intro X
  rw [known_eq hms, known_eq hmv, known_eq hmz, known_eq hmt, known_eq hmc, known_eq hmk, known_eq hmg, known_eq hmd] at F
  subst hke
  have h2w : (2 : Int) ^ W ≠ 0 := Int.ne_of_gt (Int.pow_pos (by omega))
  have hw1 : (1 : Int) ≤ 2 ^ W := Int.pow_pos (by omega)
  have hw2 : (2 : Int) ^ W ≤ 1048576 := by
    have := Nat.pow_le_pow_right (n := 2) (by decide) hW20
    have e : ((2 ^ W : Nat) : Int) = (2 : Int) ^ W := by simp
    omega
  rw [← hpp] at h0p hpm
  have hlen : (nl.getD kn Str.empty).length ≤ 100 := by
    rw [List.getD_eq_getElem?_getD, List.getElem?_eq_getElem (by omega)]
    exact hnl _ (List.getElem_mem _)
  have hkt : ((kn : Int)).toNat = kn := by omega
  k_steps
  refine Hold.on ?_
  have hten : (10 : Int) ^ Int.toNat 7 = 10000000 := by decide
  rw [hten]
  refine' str_of_int_fit (N := 20000000) ?kst (by decide) (fun _ => ?_)
  case kst => split <;> omega
  have hz8 : (Str.ofString (toString (10000000 + Flt.toInt Float64.truncOf (Float64.mul xp (Float64.ofInt (2 ^ W)))))).length = 8 := by rw [hpp] at h0p hpm ⊢; exact numT_len h0p hpm
  rw [show toString (10000000 + Flt.toInt Float64.truncOf (Float64.mul xp (Float64.ofInt (2 ^ W)))) = toString (10000000 + p) from by rw [hpp]] at hz8 ⊢
  generalize hzz : Str.ofString (toString (10000000 + p)) = z at hz8
  k_steps
  refine Hold.on ?_
  rw [hkt]
  by_cases hnm : nl.getD kn Str.empty = Str.empty
  · refine P.truthy_str (by rw [hnm]; decide) ?_
    rw [show (((nl.getD kn Str.empty).length : Int) != 0) = false from by rw [hnm]; rfl]
    rcases (Nat.mod_two_eq_zero_or_one kn) with h2 | h2
    · have hf : Int.fmod (kn : Int) 2 = 0 := by rw [Int.fmod_eq_emod_of_nonneg _ (by decide)]; omega
      have hmk := MarkH.mk (n := 205)
      k_steps
      refine Hold.on ?_
      clear hmk
      rw [hf]
      k_steps
      try dsimp only
      (refine' hret _ _ _ _ ?gF ?gN ?g0 ?g1 ?g2 ?g3 ?g4 ?g5 ?g6 ?gk; (case gF => assumption); (case gN => (first | assumption | exact cb_drop (by assumption) (by kcj_all))); (case g0 => exact rfl); (case g1 => exact rfl); (case g2 => exact rfl); (case g3 => exact rfl); (case g4 => exact rfl); (case g5 => exact rfl); (case g6 => exact rfl); (case gk => (rw [keyT_0 hnm h2]; unfold numT; rw [hzz]; exact rfl)))
    · have hf : Int.fmod (kn : Int) 2 = 1 := by rw [Int.fmod_eq_emod_of_nonneg _ (by decide)]; omega
      have hmk := MarkH.mk (n := 205)
      k_steps
      refine Hold.on ?_
      clear hmk
      rw [hf]
      k_steps
      try dsimp only
      (refine' hret _ _ _ _ ?gF ?gN ?g0 ?g1 ?g2 ?g3 ?g4 ?g5 ?g6 ?gk; (case gF => assumption); (case gN => (first | assumption | exact cb_drop (by assumption) (by kcj_all))); (case g0 => exact rfl); (case g1 => exact rfl); (case g2 => exact rfl); (case g3 => exact rfl); (case g4 => exact rfl); (case g5 => exact rfl); (case g6 => exact rfl); (case gk => (rw [keyT_1 hnm h2]; unfold numT; rw [hzz]; exact rfl)))
  · refine P.truthy_str (by omega) ?_
    rw [show (((nl.getD kn Str.empty).length : Int) != 0) = true from bne_iff_ne.mpr (by have := empty_len hnm; omega)]
    k_steps
    try dsimp only
    (refine' hret _ _ _ _ ?gF ?gN ?g0 ?g1 ?g2 ?g3 ?g4 ?g5 ?g6 ?gk; (case gF => assumption); (case gN => (first | assumption | exact cb_drop (by assumption) (by kcj_all))); (case g0 => exact rfl); (case g1 => exact rfl); (case g2 => exact rfl); (case g3 => exact rfl); (case g4 => exact rfl); (case g5 => exact rfl); (case g6 => exact rfl); (case gk => (rw [keyT_2 hnm]; unfold numT; rw [hzz]; exact rfl)))
end loop_key_K
theorem loop_key {w : World} {mean : ExcName → Option Value} {mg mb : Str → Option Value} {base : Heap} {L fa : Addr} {cd : Value} {m : Str → Option Value} {s : Shared} {Q : Flow → Shared → Prop} {rest : List Stmt} {o1 o2 o3 o4 o5 o6 o7 o8 : Obj} {S : Addr} {t1 t2 t3 t4 t5 t6 : Tok} {sh va : UInt64} {x : Str} {cn gn : Int} {sc : Nat} {ss : List Value} {tl : List (Addr × Obj)} {Nn D : Addr} {ns : List Value} {nl : List Str} {kn : Nat} {p : Int} {W : Nat} {u2 u6 v1 v2 v3 : Tok} {xp : UInt64} : loop_key_S w mean mg mb base L fa cd m s Q rest o1 o2 o3 o4 o5 o6 o7 o8 S t1 t2 t3 t4 t5 t6 sh va x cn gn sc ss tl Nn D ns nl kn p W u2 u6 v1 v2 v3 xp := @by_bad (fun c => loop_key_S (c.w 0) (c.me 0) (c.m 0) (c.m 1) (c.h 0) (c.n 0) (c.n 1) (c.v 0) (c.m 2) (c.sh 0) (c.qf 0) (c.lst 0) (c.o 0) (c.o 1) (c.o 2) (c.o 3) (c.o 4) (c.o 5) (c.o 6) (c.o 7) (c.n 2) (c.n 3) (c.n 4) (c.n 5) (c.n 6) (c.n 7) (c.n 8) (c.u 0) (c.u 1) (c.st 0) (c.i 0) (c.i 1) (c.n 9) (c.lv 0) (c.lo 0) (c.n 10) (c.n 11) (c.lv 1) (c.ls 0) (c.n 12) (c.i 2) (c.n 13) (c.n 14) (c.n 15) (c.n 16) (c.n 17) (c.n 18) (c.u 2)) (by with_unfolding_all exact loop_key_K.main) { cx0 with n := fromL (0) [L, fa, S, t1, t2, t3, t4, t5, t6, sc, Nn, D, kn, W, u2, u6, v1, v2, v3], i := fromL (0) [cn, gn, p], st := fromL (Str.empty) [x], u := fromL (0) [sh, va, xp], o := fromL (default) [o1, o2, o3, o4, o5, o6, o7, o8], lo := fromL ([]) [tl], v := fromL (.none) [cd], lv := fromL ([]) [ss, ns], ls := fromL ([]) [nl], m := fromL (fun _ => none) [mg, mb, m], sh := fromL ({}) [s], h := fromL ({}) [base], lst := fromL ([]) [rest], w := fromL (worldZ) [w], me := fromL (fun _ => none) [mean], qf := fromL (fun _ _ => True) [Q] }
end
section
local macro_rules | `(tactic| walk_at "call ref") => `(tactic| (k_here; k_dflt (refine' strcoll_spec ?kcB ?kcF ?kcX ?kcN ?kcT ?kck ?kcd ?kcu ?_; (case kcB | kcF | kcX | kcN | kcT | kck | kcd | kcu => tb_rel); intro t9 h9 tk9 F9 N9; tb_start)))
@[reducible] noncomputable def loop_coll_S (w : World) (mean : ExcName → Option Value) (mg mb : Str → Option Value) (base : Heap) (L fa : Addr) (cd : Value) (m : Str → Option Value) (s : Shared) (Q : Flow → Shared → Prop) (rest : List Stmt) (o1 o2 o3 o4 o5 o6 o7 o8 : Obj) (S : Addr) (t1 t2 t3 t4 t5 t6 : Tok) (sh va : UInt64) (x : Str) (cn k gn : Int) (sc : Nat) (ss : List Value) (tl : List (Addr × Obj)) (key : Str) (t8 : Tok) : Prop := ∀ (B : Below callerA base [] base) (F : Fr base L s.heap m) (X : (KX w.params).In base) (T : Top topProg lawLoose mean mg mb base) (N : News base L s.heap (((L + 1 + 1 + 1 + 1 + 1 + 1 + 1 + 1 : Addr), o8) :: ((L + 1 + 1 + 1 + 1 + 1 + 1 + 1 : Addr), o7) :: ((L + 1 + 1 + 1 + 1 + 1 + 1 : Addr), o6) :: ((L + 1 + 1 + 1 + 1 + 1 : Addr), o5) :: ((L + 1 + 1 + 1 + 1 : Addr), o4) :: ((L + 1 + 1 + 1 : Addr), o3) :: ((L + 1 + 1 : Addr), o2) :: ((L + 1 : Addr), o1) :: tl)) (hkl : key.length ≤ 100) (h105 : @LT.lt Nat _ 105 L) (hms : m (Str.ofString "share") = some (.float sh t1)) (hmv : m (Str.ofString "value") = some (.float va t2)) (hmz : m (Str.ofString "sizes") = some (.ref S)) (hmt : m (Str.ofString "text") = some (.str x t3)) (hmc : m (Str.ofString "count") = some (.int cn t4)) (hmk : m (Str.ofString "k") = some (.int k t5)) (hmg : m (Str.ofString "gone") = some (.int gn t6)) (hmy : m (Str.ofString "key") = some (.str key t8)) (hret : ∀ (Hd : Addr) (hc : Nat) (m' : Str → Option Value) (h' : Heap) (tk' : Nat), Fr base L h' m' → News base L h' ((Hd, W.listOf #[.str key t8] hc) :: ((L + 1 + 1 + 1 + 1 + 1 + 1 + 1 + 1 : Addr), o8) :: ((L + 1 + 1 + 1 + 1 + 1 + 1 + 1 : Addr), o7) :: ((L + 1 + 1 + 1 + 1 + 1 + 1 : Addr), o6) :: ((L + 1 + 1 + 1 + 1 + 1 : Addr), o5) :: ((L + 1 + 1 + 1 + 1 : Addr), o4) :: ((L + 1 + 1 + 1 : Addr), o3) :: ((L + 1 + 1 : Addr), o2) :: ((L + 1 : Addr), o1) :: tl) → AllLt Hd (((L + 1 + 1 + 1 + 1 + 1 + 1 + 1 + 1 : Addr), o8) :: ((L + 1 + 1 + 1 + 1 + 1 + 1 + 1 : Addr), o7) :: ((L + 1 + 1 + 1 + 1 + 1 + 1 : Addr), o6) :: ((L + 1 + 1 + 1 + 1 + 1 : Addr), o5) :: ((L + 1 + 1 + 1 + 1 : Addr), o4) :: ((L + 1 + 1 + 1 : Addr), o3) :: ((L + 1 + 1 : Addr), o2) :: ((L + 1 : Addr), o1) :: tl) → m' (Str.ofString "share") = some (.float sh t1) → m' (Str.ofString "value") = some (.float va t2) → m' (Str.ofString "sizes") = some (.ref S) → m' (Str.ofString "text") = some (.str x t3) → m' (Str.ofString "count") = some (.int cn t4) → m' (Str.ofString "k") = some (.int k t5) → m' (Str.ofString "gone") = some (.int gn t6) → m' (Str.ofString "key") = some (.str key t8) → m' (Str.ofString "held") = some (.ref Hd) → wpAny (model Challenge.rw_st0007_01.prog w) (lawA L fa cd) (execs rest (lawEnv L fa cd)) Q (fun _ _ => False) { s with heap := h', toks := tk' }), wpAny (model Challenge.rw_st0007_01.prog w) (lawA L fa cd) (execs (loopCut 6 2 ++ rest) (lawEnv L fa cd)) Q (fun _ _ => False) s
namespace loop_coll_K
@[irreducible] noncomputable def pt : Cx := bad fun c => loop_coll_S (c.w 0) (c.me 0) (c.m 0) (c.m 1) (c.h 0) (c.n 0) (c.n 1) (c.v 0) (c.m 2) (c.sh 0) (c.qf 0) (c.lst 0) (c.o 0) (c.o 1) (c.o 2) (c.o 3) (c.o 4) (c.o 5) (c.o 6) (c.o 7) (c.n 2) (c.n 3) (c.n 4) (c.n 5) (c.n 6) (c.n 7) (c.n 8) (c.u 0) (c.u 1) (c.st 0) (c.i 0) (c.i 1) (c.i 2) (c.n 9) (c.lv 0) (c.lo 0) (c.st 1) (c.n 10)
theorem main : loop_coll_S (pt.w 0) (pt.me 0) (pt.m 0) (pt.m 1) (pt.h 0) (pt.n 0) (pt.n 1) (pt.v 0) (pt.m 2) (pt.sh 0) (pt.qf 0) (pt.lst 0) (pt.o 0) (pt.o 1) (pt.o 2) (pt.o 3) (pt.o 4) (pt.o 5) (pt.o 6) (pt.o 7) (pt.n 2) (pt.n 3) (pt.n 4) (pt.n 5) (pt.n 6) (pt.n 7) (pt.n 8) (pt.u 0) (pt.u 1) (pt.st 0) (pt.i 0) (pt.i 1) (pt.i 2) (pt.n 9) (pt.lv 0) (pt.lo 0) (pt.st 1) (pt.n 10) := by
  intro B F X T N hkl h105 hms hmv hmz hmt hmc hmk hmg hmy hret
  have hmk100 := MarkH.mk (n := 100)
  have hmk101 := MarkH.mk (n := 101)
  rw [show loopCut 6 2 = [_, _] from rfl]
  revert X; k_fill; intro X
  rw [known_eq hms, known_eq hmv, known_eq hmz, known_eq hmt, known_eq hmc, known_eq hmk, known_eq hmg, known_eq hmy] at F
  k_steps
  rotate_left
  · exfalso
    rename (¬ (_ :: _ = _)) => hne
    exact hne (by rw [strc_self, strc_more _ _ (by decide +kernel)])
  try dsimp only
  rename (@LT.lt Nat _ _ _ ∧ _) => l1
  (refine' hret _ _ _ _ _ ?gF ?gN ?ga ?g0 ?g1 ?g2 ?g3 ?g4 ?g5 ?g6 ?gk ?gh; (case gF => assumption); (case gh => exact rfl); (case gN => (first | assumption | exact cb_drop (by assumption) (by kcj_all))); (case g0 => exact rfl); (case g1 => exact rfl); (case g2 => exact rfl); (case g3 => exact rfl); (case g4 => exact rfl); (case g5 => exact rfl); (case g6 => exact rfl); (case gk => exact rfl); (case ga => exact l1.2.2))
end loop_coll_K
theorem loop_coll {w : World} {mean : ExcName → Option Value} {mg mb : Str → Option Value} {base : Heap} {L fa : Addr} {cd : Value} {m : Str → Option Value} {s : Shared} {Q : Flow → Shared → Prop} {rest : List Stmt} {o1 o2 o3 o4 o5 o6 o7 o8 : Obj} {S : Addr} {t1 t2 t3 t4 t5 t6 : Tok} {sh va : UInt64} {x : Str} {cn k gn : Int} {sc : Nat} {ss : List Value} {tl : List (Addr × Obj)} {key : Str} {t8 : Tok} : loop_coll_S w mean mg mb base L fa cd m s Q rest o1 o2 o3 o4 o5 o6 o7 o8 S t1 t2 t3 t4 t5 t6 sh va x cn k gn sc ss tl key t8 := @by_bad (fun c => loop_coll_S (c.w 0) (c.me 0) (c.m 0) (c.m 1) (c.h 0) (c.n 0) (c.n 1) (c.v 0) (c.m 2) (c.sh 0) (c.qf 0) (c.lst 0) (c.o 0) (c.o 1) (c.o 2) (c.o 3) (c.o 4) (c.o 5) (c.o 6) (c.o 7) (c.n 2) (c.n 3) (c.n 4) (c.n 5) (c.n 6) (c.n 7) (c.n 8) (c.u 0) (c.u 1) (c.st 0) (c.i 0) (c.i 1) (c.i 2) (c.n 9) (c.lv 0) (c.lo 0) (c.st 1) (c.n 10)) (by with_unfolding_all exact loop_coll_K.main) { cx0 with n := fromL (0) [L, fa, S, t1, t2, t3, t4, t5, t6, sc, t8], i := fromL (0) [cn, k, gn], st := fromL (Str.empty) [x, key], u := fromL (0) [sh, va], o := fromL (default) [o1, o2, o3, o4, o5, o6, o7, o8], lo := fromL ([]) [tl], v := fromL (.none) [cd], lv := fromL ([]) [ss], m := fromL (fun _ => none) [mg, mb, m], sh := fromL ({}) [s], h := fromL ({}) [base], lst := fromL ([]) [rest], w := fromL (worldZ) [w], me := fromL (fun _ => none) [mean], qf := fromL (fun _ _ => True) [Q] }
end
local macro_rules | `(tactic| walk_at "zz") => `(tactic| fail)
section
noncomputable def turnBody : List Stmt := match lawLoop.getD 8 default with | .For _ _ b _ _ => b | _ => []
theorem lex_in {A E1 E2 E3 E4 c1 c2 c3 c4 c5 c6 c7 c8 : Addr × Obj} {held hd9 tl : List (Addr × Obj)} (htl : ∀ p, p ∈ tl ↔ (p ∈ held ∨ p ∈ hd9)) (p : Addr × Obj) :
    p ∈ A :: E1 :: E2 :: E3 :: E4 :: c8 :: c7 :: c6 :: c5 :: c4 :: c3 :: c2 :: c1 :: tl ↔ p ∈ E1 :: E2 :: E3 :: E4 :: (held ++ (A :: c8 :: c7 :: c6 :: c5 :: c4 :: c3 :: c2 :: c1 :: hd9)) :=
  mem_lx (X := [_]) (E := [_, _, _, _]) (Y := [_, _, _, _, _, _, _, _]) htl p
theorem lex_to {b h : Heap} {L : Addr} {A E1 E2 E3 E4 c1 c2 c3 c4 c5 c6 c7 c8 : Addr × Obj} {held hd9 tl : List (Addr × Obj)} (htl : ∀ p, p ∈ tl ↔ (p ∈ held ∨ p ∈ hd9))
    (N : News b L h (A :: E1 :: E2 :: E3 :: E4 :: c8 :: c7 :: c6 :: c5 :: c4 :: c3 :: c2 :: c1 :: tl)) : News b L h (E1 :: E2 :: E3 :: E4 :: (held ++ (A :: c8 :: c7 :: c6 :: c5 :: c4 :: c3 :: c2 :: c1 :: hd9))) := fun p hp => N p ((lex_in htl p).mpr hp)
theorem lex_from {b h : Heap} {L : Addr} {A E1 E2 E3 E4 c1 c2 c3 c4 c5 c6 c7 c8 : Addr × Obj} {held hd9 tl : List (Addr × Obj)} (htl : ∀ p, p ∈ tl ↔ (p ∈ held ∨ p ∈ hd9))
    (N : News b L h (E1 :: E2 :: E3 :: E4 :: (held ++ (A :: c8 :: c7 :: c6 :: c5 :: c4 :: c3 :: c2 :: c1 :: hd9)))) : News b L h (A :: E1 :: E2 :: E3 :: E4 :: c8 :: c7 :: c6 :: c5 :: c4 :: c3 :: c2 :: c1 :: tl) := fun p hp => N p ((lex_in htl p).mp hp)
theorem News.tl9 {b h : Heap} {L : Addr} {a : Addr × Obj} {r : List (Addr × Obj)} (N : News b L h (a :: r)) : News b L h r := fun p hp => N p (.tail _ hp)
noncomputable def heldV (h : Bool) (key : Str) (t : Tok) : Array Value := if h then #[.str key t] else #[]
theorem strcoll_is {w : World} {mean : ExcName → Option Value} {mg mb : Str → Option Value}
    {dp un : Nat} {gd : Option (List Code)} {cn : Str} {cs : Scope} {ca : Addr} {ccd : Value} {cl : List (Str × Addr)} {outer : List Env} {A₀ : Around} {base h₀ : Heap} {L : Addr} {m : Str → Option Value} {s : Shared} {Q E : Value → Shared → Prop} {news : List (Addr × Obj)}
    {a b : Str} {ta tb : Tok} {v : Int}
    (B : Below A₀ base outer h₀) (F : Fr h₀ L s.heap m) (X : (KX w.params).In h₀) (N : News h₀ L s.heap news) (T : Top topProg lawLoose mean mg mb h₀) (hk : cs.kind = .function)
    (hdp : dp + 20 < recursionLimit) (hun : un + 60 < cLine) (hv : strc a b = v)
    (hret : ∀ (t : Tok) (h' : Heap) (tk' : Nat), Fr h₀ L h' m → News h₀ L h' news → Q (.int v t) { s with heap := h', toks := tk' }) :
    wpAny (model Challenge.rw_st0007_01.prog w) (W.ktrTop dp un gd cn cs L ca ccd cl outer) (call (.ref 21) [.str a ta, .str b tb]) Q E s := by
  subst hv
  exact strcoll_spec B F X N T hk hdp hun hret
local macro_rules | `(tactic| walk_at "call ref") => `(tactic| (k_here; ksl_open strcoll_is))
@[reducible] noncomputable def loop_turn_S (w : World) (mean : ExcName → Option Value) (mg mb : Str → Option Value) (base : Heap) (L fa : Addr) (cd : Value) (m : Str → Option Value) (s : Shared) (Q : Flow → Shared → Prop) (rest : List Stmt) (o1 o2 o3 o4 o5 o6 o7 o8 : Obj) (S : Addr) (t1 t2 t3 t4 t5 t6 : Tok) (sh va : UInt64) (cn k gn : Int) (sc : Nat) (ss : List Value) (x : Str) (self D0 P l dx fr d : Addr) (a1 a2 a3 a4 b1 b2 tl9 : Tok) (pn kx nx : Nat) (line : Int) (held hd9 tl : List (Addr × Obj)) (Hd : Addr) (hc : Nat) (key y : Str) (ys : List Value) (qs : List Str) (t8 ty : Tok) : Prop := ∀ {hv : Bool} (B : Below callerA base [] base) (F : Fr base L s.heap m) (X : (KX w.params).In base) (T : Top topProg lawLoose mean mg mb base) (N : News base L s.heap ((Hd, W.listOf (heldV hv key t8) hc) :: (P, W.listOf (.str y ty :: ys).toArray pn) :: (l, W.listOf #[.int ((kx : Nat) : Int) tl9] nx) :: (dx, lexD w D0 P a1 a2 a3 a4 (line) b1 b2) :: (self, instObj 87 dx) :: ((L + 1 + 1 + 1 + 1 + 1 + 1 + 1 + 1 : Addr), o8) :: ((L + 1 + 1 + 1 + 1 + 1 + 1 + 1 : Addr), o7) :: ((L + 1 + 1 + 1 + 1 + 1 + 1 : Addr), o6) :: ((L + 1 + 1 + 1 + 1 + 1 : Addr), o5) :: ((L + 1 + 1 + 1 + 1 : Addr), o4) :: ((L + 1 + 1 + 1 : Addr), o3) :: ((L + 1 + 1 : Addr), o2) :: ((L + 1 : Addr), o1) :: tl)) (V : LxOk w x L self D0 P l dx fr d held) (htl : ∀ p, p ∈ tl ↔ (p ∈ held ∨ p ∈ hd9)) (hoff9 : ∀ p ∈ hd9, @Ne Nat p.1 P ∧ @Ne Nat p.1 l ∧ @Ne Nat p.1 dx ∧ @Ne Nat p.1 self) (hPH : @LT.lt Nat _ P Hd) (hHd : ∀ p ∈ tl, p.1 ≠ Hd) (hys : StrsAre ys qs) (hql : qs.length ≤ 20) (hso : (strc key y = -1 ∧ strc y key = 1) ∨ (strc key y = 1 ∧ strc y key = -1)) (ho8 : o8.data = .cell (some (.ref self))) (h105 : @LT.lt Nat _ 105 L) (hms : m (Str.ofString "share") = some (.float sh t1)) (hmv : m (Str.ofString "value") = some (.float va t2)) (hmz : m (Str.ofString "sizes") = some (.ref S)) (hmt : m (Str.ofString "text") = some (.str x t3)) (hmc : m (Str.ofString "count") = some (.int cn t4)) (hmk : m (Str.ofString "k") = some (.int k t5)) (hmg : m (Str.ofString "gone") = some (.int gn t6)) (hmy : m (Str.ofString "key") = some (.str key t8)) (hmh : m (Str.ofString "held") = some (.ref Hd)) (hret : ∀ (hv' : Bool) (hc' pn' : Nat) (ys' : List Value) (outs : List Str) (m' : Str → Option Value) (h' : Heap) (tk' : Nat), Fr base L h' m' → News base L h' ((Hd, W.listOf (heldV hv' key t8) hc') :: (P, W.listOf ys'.toArray pn') :: (l, W.listOf #[.int ((kx : Nat) : Int) tl9] nx) :: (dx, lexD w D0 P a1 a2 a3 a4 (line) b1 b2) :: (self, instObj 87 dx) :: ((L + 1 + 1 + 1 + 1 + 1 + 1 + 1 + 1 : Addr), o8) :: ((L + 1 + 1 + 1 + 1 + 1 + 1 + 1 : Addr), o7) :: ((L + 1 + 1 + 1 + 1 + 1 + 1 : Addr), o6) :: ((L + 1 + 1 + 1 + 1 + 1 : Addr), o5) :: ((L + 1 + 1 + 1 + 1 : Addr), o4) :: ((L + 1 + 1 + 1 : Addr), o3) :: ((L + 1 + 1 : Addr), o2) :: ((L + 1 : Addr), o1) :: tl) → StrsAre ys' (qs ++ outs) → (hv', outs) = (if hv = true ∧ strc key y = -1 then (false, [key, y]) else (hv, [y])) → m' (Str.ofString "share") = some (.float sh t1) → m' (Str.ofString "value") = some (.float va t2) → m' (Str.ofString "sizes") = some (.ref S) → m' (Str.ofString "text") = some (.str x t3) → m' (Str.ofString "count") = some (.int cn t4) → m' (Str.ofString "k") = some (.int k t5) → m' (Str.ofString "gone") = some (.int gn t6) → m' (Str.ofString "key") = some (.str key t8) → m' (Str.ofString "held") = some (.ref Hd) → wpAny (model Challenge.rw_st0007_01.prog w) (lawA L fa cd) (execs rest (lawEnv L fa cd)) Q (fun _ _ => False) { s with heap := h', toks := tk' }), wpAny (model Challenge.rw_st0007_01.prog w) (lawA L fa cd) (execs (turnBody ++ rest) (lawEnv L fa cd)) Q (fun _ _ => False) s
namespace loop_turn_K
@[irreducible] noncomputable def pt : Cx := bad fun c => loop_turn_S (c.w 0) (c.me 0) (c.m 0) (c.m 1) (c.h 0) (c.n 0) (c.n 1) (c.v 0) (c.m 2) (c.sh 0) (c.qf 0) (c.lst 0) (c.o 0) (c.o 1) (c.o 2) (c.o 3) (c.o 4) (c.o 5) (c.o 6) (c.o 7) (c.n 2) (c.n 3) (c.n 4) (c.n 5) (c.n 6) (c.n 7) (c.n 8) (c.u 0) (c.u 1) (c.i 0) (c.i 1) (c.i 2) (c.n 9) (c.lv 0) (c.st 0) (c.n 10) (c.n 11) (c.n 12) (c.n 13) (c.n 14) (c.n 15) (c.n 16) (c.n 17) (c.n 18) (c.n 19) (c.n 20) (c.n 21) (c.n 22) (c.n 23) (c.n 24) (c.n 25) (c.n 26) (c.i 3) (c.lo 0) (c.lo 1) (c.lo 2) (c.n 27) (c.n 28) (c.st 1) (c.st 2) (c.lv 1) (c.ls 0) (c.n 29) (c.n 30)
@[irreducible] noncomputable def L : Addr := pt.n 0
@[irreducible] noncomputable def o1 : Obj := pt.o 0
@[irreducible] noncomputable def o2 : Obj := pt.o 1
@[irreducible] noncomputable def o3 : Obj := pt.o 2
@[irreducible] noncomputable def o4 : Obj := pt.o 3
@[irreducible] noncomputable def o5 : Obj := pt.o 4
@[irreducible] noncomputable def o6 : Obj := pt.o 5
@[irreducible] noncomputable def o7 : Obj := pt.o 6
@[irreducible] noncomputable def o8 : Obj := pt.o 7
@[irreducible] noncomputable def self : Addr := pt.n 10
@[irreducible] noncomputable def P : Addr := pt.n 12
@[irreducible] noncomputable def l : Addr := pt.n 13
@[irreducible] noncomputable def dx : Addr := pt.n 14
@[irreducible] noncomputable def tl9 : Tok := pt.n 23
@[irreducible] noncomputable def line : Int := pt.i 3
@[irreducible] noncomputable def hd9 : List (Addr × Obj) := pt.lo 1
@[irreducible] noncomputable def Hd : Addr := pt.n 27
@[irreducible] noncomputable def key : Str := pt.st 1
@[irreducible] noncomputable def y : Str := pt.st 2
@[irreducible] noncomputable def ys : List Value := pt.lv 1
@[irreducible] noncomputable def qs : List Str := pt.ls 0
@[irreducible] noncomputable def t8 : Tok := pt.n 29
theorem main : loop_turn_S (pt.w 0) (pt.me 0) (pt.m 0) (pt.m 1) (pt.h 0) L (pt.n 1) (pt.v 0) (pt.m 2) (pt.sh 0) (pt.qf 0) (pt.lst 0) o1 o2 o3 o4 o5 o6 o7 o8 (pt.n 2) (pt.n 3) (pt.n 4) (pt.n 5) (pt.n 6) (pt.n 7) (pt.n 8) (pt.u 0) (pt.u 1) (pt.i 0) (pt.i 1) (pt.i 2) (pt.n 9) (pt.lv 0) (pt.st 0) self (pt.n 11) P l dx (pt.n 15) (pt.n 16) (pt.n 17) (pt.n 18) (pt.n 19) (pt.n 20) (pt.n 21) (pt.n 22) tl9 (pt.n 24) (pt.n 25) (pt.n 26) line (pt.lo 0) hd9 (pt.lo 2) Hd (pt.n 28) key y ys qs t8 (pt.n 30) := by
  intro hv B F X T N V htl hoff9 hPH hHd hys hql hso ho8 h105 hms hmv hmz hmt hmc hmk hmg hmy hmh hret
  have hmk101 := MarkH.mk (n := 101)
  rw [show turnBody = [_, _, _, _, _] from rfl]
  revert X; k_fill; intro X
  rw [known_eq hms, known_eq hmv, known_eq hmz, known_eq hmt, known_eq hmc, known_eq hmk, known_eq hmg, known_eq hmy, known_eq hmh] at F
  have hmk := MarkH.mk (n := 201)
  have hi := V.hi
  have l1 := V.lt1
  have l2 := V.lt2
  have l3 := V.lt3
  have hoff : ∀ (o9 : Obj), ∀ p ∈ (Hd, o9) :: ((L + 1 + 1 + 1 + 1 + 1 + 1 + 1 + 1 : Addr), o8) :: ((L + 1 + 1 + 1 + 1 + 1 + 1 + 1 : Addr), o7) :: ((L + 1 + 1 + 1 + 1 + 1 + 1 : Addr), o6) :: ((L + 1 + 1 + 1 + 1 + 1 : Addr), o5) :: ((L + 1 + 1 + 1 + 1 : Addr), o4) :: ((L + 1 + 1 + 1 : Addr), o3) :: ((L + 1 + 1 : Addr), o2) :: ((L + 1 : Addr), o1) :: hd9, @Ne Nat p.1 P ∧ @Ne Nat p.1 l ∧ @Ne Nat p.1 dx ∧ @Ne Nat p.1 self := fun o9 p hp => by
    revert p; refine all_cons ?_ (all_cons ?_ (all_cons ?_ (all_cons ?_ (all_cons ?_ (all_cons ?_ (all_cons ?_ (all_cons ?_ (all_cons ?_ hoff9))))))))
    all_goals (dsimp only; omega)
  have hysl := StrsAre.length hys
  cases hv <;> rcases hso with ⟨so1, so2⟩ | ⟨so1, so2⟩ <;> simp only [heldV, Bool.false_eq_true, if_false, if_true] at N
  · k_steps
    refine Hold.on ?_
    rename Fr _ _ _ _ => F12
    rename News _ _ _ _ => N12
    refine popL (line := line) B F12 X T V (hoff _) (lex_to htl N12) (by rw [hysl]; omega) (fun pn' h9 tk9 F14 N14 => ?_)
    replace N14 := lex_from htl N14
    try dsimp only
    clear F12 N12
    k_steps
    refine Hold.on ?_
    rename Fr _ _ _ _ => F12
    rename News _ _ _ _ => N12
    first | replace N12 := lex_to htl N12 | replace N12 := lex_to htl (News.tl9 N12)
    refine' pushL (line := line) B F12 X T V (hoff _) N12 ?gsx1 (fun h9 tk9 F14 N14 => ?_)
    case gsx1 => (simp only [List.size_toArray, List.length_append, List.length_cons, List.length_nil, sizeLine_eq, hysl]; omega)
    replace N14 := lex_from htl N14
    rw [List.push_toArray] at N14
    try dsimp only
    clear F12 N12
    k_steps
    try dsimp only
    refine' hret false _ _ (ys ++ [_]) [y] _ _ _ ?gFx1 ?gNx1 ?gSx1 ?gCx1 ?g0x1 ?g1x1 ?g2x1 ?g3x1 ?g4x1 ?g5x1 ?g6x1 ?g7x1 ?g8x1
    case gFx1 => assumption
    case gNx1 => exact cb_drop (by assumption) (by kcj_all)
    case gSx1 => exact kct_snoc hys
    case gCx1 => rw [if_neg (by simp)]
    all_goals exact rfl
  · k_steps
    refine Hold.on ?_
    rename Fr _ _ _ _ => F12
    rename News _ _ _ _ => N12
    refine popL (line := line) B F12 X T V (hoff _) (lex_to htl N12) (by rw [hysl]; omega) (fun pn' h9 tk9 F14 N14 => ?_)
    replace N14 := lex_from htl N14
    try dsimp only
    clear F12 N12
    k_steps
    refine Hold.on ?_
    rename Fr _ _ _ _ => F12
    rename News _ _ _ _ => N12
    first | replace N12 := lex_to htl N12 | replace N12 := lex_to htl (News.tl9 N12)
    refine' pushL (line := line) B F12 X T V (hoff _) N12 ?gsx2 (fun h9 tk9 F14 N14 => ?_)
    case gsx2 => (simp only [List.size_toArray, List.length_append, List.length_cons, List.length_nil, sizeLine_eq, hysl]; omega)
    replace N14 := lex_from htl N14
    rw [List.push_toArray] at N14
    try dsimp only
    clear F12 N12
    k_steps
    try dsimp only
    refine' hret false _ _ (ys ++ [_]) [y] _ _ _ ?gFx2 ?gNx2 ?gSx2 ?gCx2 ?g0x2 ?g1x2 ?g2x2 ?g3x2 ?g4x2 ?g5x2 ?g6x2 ?g7x2 ?g8x2
    case gFx2 => assumption
    case gNx2 => exact cb_drop (by assumption) (by kcj_all)
    case gSx2 => exact kct_snoc hys
    case gCx2 => rw [if_neg (by simp)]
    all_goals exact rfl
  · k_steps
    refine Hold.on ?_
    rename Fr _ _ _ _ => F12
    rename News _ _ _ _ => N12
    refine popL (line := line) B F12 X T V (hoff _) (lex_to htl N12) (by rw [hysl]; omega) (fun pn' h9 tk9 F14 N14 => ?_)
    replace N14 := lex_from htl N14
    try dsimp only
    clear F12 N12
    have hmk2 := MarkH.mk (n := 207)
    k_steps
    refine Hold.on ?_
    clear hmk2
    rename News _ _ _ _ => N12
    refine wpAny_truthy_list (News.isList N12 (.tail _ (.head _))) (by show (1 : Int) < _; decide) ?_
    rw [show (!(#[Value.str key t8] : Array Value).isEmpty) = true from rfl]
    k_steps
    refine Hold.on ?_
    rename Fr _ _ _ _ => F12
    rename News _ _ _ _ => N12
    first | replace N12 := lex_to htl N12 | replace N12 := lex_to htl (News.tl9 N12)
    refine' pushL (line := line) B F12 X T V (hoff _) N12 ?gsx3 (fun h9 tk9 F14 N14 => ?_)
    case gsx3 => (simp only [List.size_toArray, List.length_append, List.length_cons, List.length_nil, sizeLine_eq, hysl]; omega)
    replace N14 := lex_from htl N14
    rw [List.push_toArray] at N14
    try dsimp only
    clear F12 N12
    k_steps
    try dsimp only
    refine Hold.on ?_
    rename Fr _ _ _ _ => F12
    rename News _ _ _ _ => N12
    first | replace N12 := lex_to htl N12 | replace N12 := lex_to htl (News.tl9 N12)
    refine' pushL (line := line) B F12 X T V (hoff _) N12 ?gsx3 (fun h9 tk9 F14 N14 => ?_)
    case gsx3 => (simp only [List.size_toArray, List.length_append, List.length_cons, List.length_nil, sizeLine_eq, hysl]; omega)
    replace N14 := lex_from htl N14
    rw [List.push_toArray] at N14
    try dsimp only
    clear F12 N12
    k_steps
    try dsimp only
    refine' hret false _ _ (ys ++ [_] ++ [_]) [key, y] _ _ _ ?gFx3 ?gNx3 ?gSx3 ?gCx3 ?g0x3 ?g1x3 ?g2x3 ?g3x3 ?g4x3 ?g5x3 ?g6x3 ?g7x3 ?g8x3
    case gFx3 => assumption
    case gNx3 => exact cb_drop (by assumption) (by kcj_all)
    case gSx3 => exact (by rw [show qs ++ [key, y] = (qs ++ [key]) ++ [y] from by simp]; exact kct_snoc (kct_snoc hys))
    case gCx3 => rw [if_pos ⟨rfl, so1⟩]
    all_goals exact rfl
  · k_steps
    refine Hold.on ?_
    rename Fr _ _ _ _ => F12
    rename News _ _ _ _ => N12
    refine popL (line := line) B F12 X T V (hoff _) (lex_to htl N12) (by rw [hysl]; omega) (fun pn' h9 tk9 F14 N14 => ?_)
    replace N14 := lex_from htl N14
    try dsimp only
    clear F12 N12
    have hmk2 := MarkH.mk (n := 207)
    k_steps
    refine Hold.on ?_
    clear hmk2
    rename News _ _ _ _ => N12
    refine wpAny_truthy_list (News.isList N12 (.tail _ (.head _))) (by show (1 : Int) < _; decide) ?_
    rw [show (!(#[Value.str key t8] : Array Value).isEmpty) = true from rfl]
    k_steps
    refine Hold.on ?_
    rename Fr _ _ _ _ => F12
    rename News _ _ _ _ => N12
    first | replace N12 := lex_to htl N12 | replace N12 := lex_to htl (News.tl9 N12)
    refine' pushL (line := line) B F12 X T V (hoff _) N12 ?gsx4 (fun h9 tk9 F14 N14 => ?_)
    case gsx4 => (simp only [List.size_toArray, List.length_append, List.length_cons, List.length_nil, sizeLine_eq, hysl]; omega)
    replace N14 := lex_from htl N14
    rw [List.push_toArray] at N14
    try dsimp only
    clear F12 N12
    k_steps
    try dsimp only
    refine' hret true _ _ (ys ++ [_]) [y] _ _ _ ?gFx4 ?gNx4 ?gSx4 ?gCx4 ?g0x4 ?g1x4 ?g2x4 ?g3x4 ?g4x4 ?g5x4 ?g6x4 ?g7x4 ?g8x4
    case gFx4 => assumption
    case gNx4 => exact cb_drop (by assumption) (by kcj_all)
    case gSx4 => exact kct_snoc hys
    case gCx4 => rw [if_neg (by rw [so1]; decide)]
    all_goals exact rfl
end loop_turn_K
theorem loop_turn {w : World} {mean : ExcName → Option Value} {mg mb : Str → Option Value} {base : Heap} {L fa : Addr} {cd : Value} {m : Str → Option Value} {s : Shared} {Q : Flow → Shared → Prop} {rest : List Stmt} {o1 o2 o3 o4 o5 o6 o7 o8 : Obj} {S : Addr} {t1 t2 t3 t4 t5 t6 : Tok} {sh va : UInt64} {cn k gn : Int} {sc : Nat} {ss : List Value} {x : Str} {self D0 P l dx fr d : Addr} {a1 a2 a3 a4 b1 b2 tl9 : Tok} {pn kx nx : Nat} {line : Int} {held hd9 tl : List (Addr × Obj)} {Hd : Addr} {hc : Nat} {key y : Str} {ys : List Value} {qs : List Str} {t8 ty : Tok} : loop_turn_S w mean mg mb base L fa cd m s Q rest o1 o2 o3 o4 o5 o6 o7 o8 S t1 t2 t3 t4 t5 t6 sh va cn k gn sc ss x self D0 P l dx fr d a1 a2 a3 a4 b1 b2 tl9 pn kx nx line held hd9 tl Hd hc key y ys qs t8 ty := @by_bad (fun c => loop_turn_S (c.w 0) (c.me 0) (c.m 0) (c.m 1) (c.h 0) (c.n 0) (c.n 1) (c.v 0) (c.m 2) (c.sh 0) (c.qf 0) (c.lst 0) (c.o 0) (c.o 1) (c.o 2) (c.o 3) (c.o 4) (c.o 5) (c.o 6) (c.o 7) (c.n 2) (c.n 3) (c.n 4) (c.n 5) (c.n 6) (c.n 7) (c.n 8) (c.u 0) (c.u 1) (c.i 0) (c.i 1) (c.i 2) (c.n 9) (c.lv 0) (c.st 0) (c.n 10) (c.n 11) (c.n 12) (c.n 13) (c.n 14) (c.n 15) (c.n 16) (c.n 17) (c.n 18) (c.n 19) (c.n 20) (c.n 21) (c.n 22) (c.n 23) (c.n 24) (c.n 25) (c.n 26) (c.i 3) (c.lo 0) (c.lo 1) (c.lo 2) (c.n 27) (c.n 28) (c.st 1) (c.st 2) (c.lv 1) (c.ls 0) (c.n 29) (c.n 30)) (by with_unfolding_all exact loop_turn_K.main) { cx0 with n := fromL (0) [L, fa, S, t1, t2, t3, t4, t5, t6, sc, self, D0, P, l, dx, fr, d, a1, a2, a3, a4, b1, b2, tl9, pn, kx, nx, Hd, hc, t8, ty], i := fromL (0) [cn, k, gn, line], st := fromL (Str.empty) [x, key, y], u := fromL (0) [sh, va], o := fromL (default) [o1, o2, o3, o4, o5, o6, o7, o8], lo := fromL ([]) [held, hd9, tl], v := fromL (.none) [cd], lv := fromL ([]) [ss, ys], ls := fromL ([]) [qs], m := fromL (fun _ => none) [mg, mb, m], sh := fromL ({}) [s], h := fromL ({}) [base], lst := fromL ([]) [rest], w := fromL (worldZ) [w], me := fromL (fun _ => none) [mean], qf := fromL (fun _ _ => True) [Q] }
end
section
local macro_rules | `(tactic| omega) => `(tactic| first | (with_reducible kas_types) | lia)
noncomputable def insStep (key : Str) (st : Bool × List Str) (y : Str) : Bool × List Str := if st.1 = true ∧ strc key y = -1 then (false, st.2 ++ [key, y]) else (st.1, st.2 ++ [y])
noncomputable def insAll (key : Str) (qs : List Str) : Bool × List Str := qs.foldl (insStep key) (true, [])
theorem insAll_snoc {key y : Str} {qs : List Str} : insAll key (qs ++ [y]) = insStep key (insAll key qs) y := by unfold insAll; rw [List.foldl_append]; rfl
theorem insAll_take {key : Str} {qs : List Str} {i : Nat} (h : i < qs.length) : insAll key (qs.take (i + 1)) = insStep key (insAll key (qs.take i)) qs[i] := by
  rw [List.take_add_one, List.getElem?_eq_getElem h]; exact insAll_snoc
theorem insStep_eq {key y : Str} {st : Bool × List Str} {hv : Bool} {outs : List Str} (h : (hv, outs) = (if st.1 = true ∧ strc key y = -1 then (false, [key, y]) else (st.1, [y]))) : insStep key st y = (hv, st.2 ++ outs) := by
  unfold insStep
  split at h <;> rename_i hc
  · obtain ⟨rfl, rfl⟩ := Prod.mk.inj h
    rw [if_pos hc]
  · obtain ⟨rfl, rfl⟩ := Prod.mk.inj h
    rw [if_neg hc]
theorem strs_inv {vs : List Value} {y : Str} {qs : List Str} (h : StrsAre vs (y :: qs)) : ∃ t r, vs = .str y t :: r ∧ StrsAre r qs := by
  cases h with
  | cons _ _ h => exact ⟨_, _, rfl, h⟩
section
variable {b h : Heap} {L : Addr} {x a1 a2 a3 a4 a5 a6 a7 a8 a9 a10 a11 a12 a13 : Addr × Obj} {tl : List (Addr × Obj)}
theorem mem14 {p : Addr × Obj} : p ∈ a1 :: a2 :: a3 :: a4 :: a5 :: a6 :: a7 :: a8 :: a9 :: a10 :: a11 :: a12 :: a13 :: x :: tl ↔ p ∈ x :: a1 :: a2 :: a3 :: a4 :: a5 :: a6 :: a7 :: a8 :: a9 :: a10 :: a11 :: a12 :: a13 :: tl :=
  mem_mv (A := [_, _, _, _, _, _, _, _, _, _, _, _, _])
theorem News.last14 (N : News b L h (x :: a1 :: a2 :: a3 :: a4 :: a5 :: a6 :: a7 :: a8 :: a9 :: a10 :: a11 :: a12 :: a13 :: tl)) : News b L h (a1 :: a2 :: a3 :: a4 :: a5 :: a6 :: a7 :: a8 :: a9 :: a10 :: a11 :: a12 :: a13 :: x :: tl) := fun p hp => N p (mem14.mp hp)
theorem News.first14 (N : News b L h (a1 :: a2 :: a3 :: a4 :: a5 :: a6 :: a7 :: a8 :: a9 :: a10 :: a11 :: a12 :: a13 :: x :: tl)) : News b L h (x :: a1 :: a2 :: a3 :: a4 :: a5 :: a6 :: a7 :: a8 :: a9 :: a10 :: a11 :: a12 :: a13 :: tl) := fun p hp => N p (mem14.mpr hp)
end
theorem range_small : ∀ n : Nat, n < 9 → Builtin.Range.small 0 (n : Int) 1 = true := by decide
theorem range_size : ∀ n : Nat, n < 9 → Builtin.Range.rangeSize 0 (n : Int) 1 = (n : Int) := by decide
theorem insStep_len {key y : Str} {st : Bool × List Str} : (insStep key st y).2.length ≤ st.2.length + 2 := by
  unfold insStep; split <;> simp
theorem insAll_len {key : Str} : ∀ (qs : List Str), (insAll key qs).2.length ≤ 2 * qs.length := fun qs => by
  suffices h : ∀ (qs : List Str) (st : Bool × List Str), (qs.foldl (insStep key) st).2.length ≤ st.2.length + 2 * qs.length by
    have := h qs (true, []); simpa [insAll] using this
  intro qs
  induction qs with
  | nil => intro st; simp
  | cons y qs ih =>
    intro st
    have h1 := ih (insStep key st y)
    have h2 := @insStep_len key y st
    simp only [List.foldl_cons, List.length_cons]
    omega
@[reducible] noncomputable def loop_inner_S (w : World) (mean : ExcName → Option Value) (mg mb : Str → Option Value) (base : Heap) (L fa : Addr) (cd : Value) (m : Str → Option Value) (s : Shared) (Q : Flow → Shared → Prop) (rest : List Stmt) (o1 o2 o3 o4 o5 o6 o7 o8 : Obj) (S : Addr) (t1 t2 t3 t4 t5 t6 : Tok) (sh va : UInt64) (cn gn : Int) (sc : Nat) (ss : List Value) (x : Str) (self D0 P l dx fr d : Addr) (a1 a2 a3 a4 b1 b2 tl9 : Tok) (pn kx nx : Nat) (line : Int) (held hd9 tl : List (Addr × Obj)) (Hd : Addr) (hc kn : Nat) (key : Str) (ys : List Value) (qs : List Str) (t8 : Tok) : Prop := ∀ (B : Below callerA base [] base) (F : Fr base L s.heap m) (X : (KX w.params).In base) (T : Top topProg lawLoose mean mg mb base) (N : News base L s.heap ((Hd, W.listOf #[.str key t8] hc) :: (P, W.listOf ys.toArray pn) :: (l, W.listOf #[.int ((kx : Nat) : Int) tl9] nx) :: (dx, lexD w D0 P a1 a2 a3 a4 (line) b1 b2) :: (self, instObj 87 dx) :: ((L + 1 + 1 + 1 + 1 + 1 + 1 + 1 + 1 : Addr), o8) :: ((L + 1 + 1 + 1 + 1 + 1 + 1 + 1 : Addr), o7) :: ((L + 1 + 1 + 1 + 1 + 1 + 1 : Addr), o6) :: ((L + 1 + 1 + 1 + 1 + 1 : Addr), o5) :: ((L + 1 + 1 + 1 + 1 : Addr), o4) :: ((L + 1 + 1 + 1 : Addr), o3) :: ((L + 1 + 1 : Addr), o2) :: ((L + 1 : Addr), o1) :: tl)) (h0t : 0 < s.toks) (V : LxOk w x L self D0 P l dx fr d held) (htl : ∀ p, p ∈ tl ↔ (p ∈ held ∨ p ∈ hd9)) (hoff9 : ∀ p ∈ hd9, @Ne Nat p.1 P ∧ @Ne Nat p.1 l ∧ @Ne Nat p.1 dx ∧ @Ne Nat p.1 self) (hPH : @LT.lt Nat _ P Hd) (hHd : ∀ p ∈ tl, p.1 ≠ Hd) (hys : StrsAre ys qs) (hql : qs.length = kn) (hk8 : kn < 8) (hso : ∀ y ∈ qs, (strc key y = -1 ∧ strc y key = 1) ∨ (strc key y = 1 ∧ strc y key = -1)) (ho8 : o8.data = .cell (some (.ref self))) (h105 : @LT.lt Nat _ 105 L) (hms : m (Str.ofString "share") = some (.float sh t1)) (hmv : m (Str.ofString "value") = some (.float va t2)) (hmz : m (Str.ofString "sizes") = some (.ref S)) (hmt : m (Str.ofString "text") = some (.str x t3)) (hmc : m (Str.ofString "count") = some (.int cn t4)) (hmk : m (Str.ofString "k") = some (.int ((kn : Nat) : Int) t5)) (hmg : m (Str.ofString "gone") = some (.int gn t6)) (hmy : m (Str.ofString "key") = some (.str key t8)) (hmh : m (Str.ofString "held") = some (.ref Hd)) (hret : ∀ (hc' pn' : Nat) (ys' : List Value) (m' : Str → Option Value) (h' : Heap) (tk' : Nat), 0 < tk' → Fr base L h' m' → News base L h' ((Hd, W.listOf (heldV (insAll key qs).1 key t8) hc') :: (P, W.listOf ys'.toArray pn') :: (l, W.listOf #[.int ((kx : Nat) : Int) tl9] nx) :: (dx, lexD w D0 P a1 a2 a3 a4 (line) b1 b2) :: (self, instObj 87 dx) :: ((L + 1 + 1 + 1 + 1 + 1 + 1 + 1 + 1 : Addr), o8) :: ((L + 1 + 1 + 1 + 1 + 1 + 1 + 1 : Addr), o7) :: ((L + 1 + 1 + 1 + 1 + 1 + 1 : Addr), o6) :: ((L + 1 + 1 + 1 + 1 + 1 : Addr), o5) :: ((L + 1 + 1 + 1 + 1 : Addr), o4) :: ((L + 1 + 1 + 1 : Addr), o3) :: ((L + 1 + 1 : Addr), o2) :: ((L + 1 : Addr), o1) :: tl) → StrsAre ys' (insAll key qs).2 → m' (Str.ofString "share") = some (.float sh t1) → m' (Str.ofString "value") = some (.float va t2) → m' (Str.ofString "sizes") = some (.ref S) → m' (Str.ofString "text") = some (.str x t3) → m' (Str.ofString "count") = some (.int cn t4) → m' (Str.ofString "k") = some (.int ((kn : Nat) : Int) t5) → m' (Str.ofString "gone") = some (.int gn t6) → m' (Str.ofString "key") = some (.str key t8) → m' (Str.ofString "held") = some (.ref Hd) → wpAny (model Challenge.rw_st0007_01.prog w) (lawA L fa cd) (execs rest (lawEnv L fa cd)) Q (fun _ _ => False) { s with heap := h', toks := tk' }), wpAny (model Challenge.rw_st0007_01.prog w) (lawA L fa cd) (execs (loopCut 8 1 ++ rest) (lawEnv L fa cd)) Q (fun _ _ => False) s
namespace loop_inner_K
@[irreducible] noncomputable def pt : Cx := bad fun c => loop_inner_S (c.w 0) (c.me 0) (c.m 0) (c.m 1) (c.h 0) (c.n 0) (c.n 1) (c.v 0) (c.m 2) (c.sh 0) (c.qf 0) (c.lst 0) (c.o 0) (c.o 1) (c.o 2) (c.o 3) (c.o 4) (c.o 5) (c.o 6) (c.o 7) (c.n 2) (c.n 3) (c.n 4) (c.n 5) (c.n 6) (c.n 7) (c.n 8) (c.u 0) (c.u 1) (c.i 0) (c.i 1) (c.n 9) (c.lv 0) (c.st 0) (c.n 10) (c.n 11) (c.n 12) (c.n 13) (c.n 14) (c.n 15) (c.n 16) (c.n 17) (c.n 18) (c.n 19) (c.n 20) (c.n 21) (c.n 22) (c.n 23) (c.n 24) (c.n 25) (c.n 26) (c.i 2) (c.lo 0) (c.lo 1) (c.lo 2) (c.n 27) (c.n 28) (c.n 29) (c.st 1) (c.lv 1) (c.ls 0) (c.n 30)
@[irreducible] noncomputable def w : World := pt.w 0
@[irreducible] noncomputable def L : Addr := pt.n 0
@[irreducible] noncomputable def o1 : Obj := pt.o 0
@[irreducible] noncomputable def o2 : Obj := pt.o 1
@[irreducible] noncomputable def o3 : Obj := pt.o 2
@[irreducible] noncomputable def o4 : Obj := pt.o 3
@[irreducible] noncomputable def o5 : Obj := pt.o 4
@[irreducible] noncomputable def o6 : Obj := pt.o 5
@[irreducible] noncomputable def o7 : Obj := pt.o 6
@[irreducible] noncomputable def o8 : Obj := pt.o 7
@[irreducible] noncomputable def S : Addr := pt.n 2
@[irreducible] noncomputable def t1 : Tok := pt.n 3
@[irreducible] noncomputable def t2 : Tok := pt.n 4
@[irreducible] noncomputable def t3 : Tok := pt.n 5
@[irreducible] noncomputable def t4 : Tok := pt.n 6
@[irreducible] noncomputable def t5 : Tok := pt.n 7
@[irreducible] noncomputable def t6 : Tok := pt.n 8
@[irreducible] noncomputable def sh : UInt64 := pt.u 0
@[irreducible] noncomputable def va : UInt64 := pt.u 1
@[irreducible] noncomputable def cn : Int := pt.i 0
@[irreducible] noncomputable def gn : Int := pt.i 1
@[irreducible] noncomputable def sc : Nat := pt.n 9
@[irreducible] noncomputable def ss : List Value := pt.lv 0
@[irreducible] noncomputable def x : Str := pt.st 0
@[irreducible] noncomputable def self : Addr := pt.n 10
@[irreducible] noncomputable def D0 : Addr := pt.n 11
@[irreducible] noncomputable def P : Addr := pt.n 12
@[irreducible] noncomputable def l : Addr := pt.n 13
@[irreducible] noncomputable def dx : Addr := pt.n 14
@[irreducible] noncomputable def a1 : Tok := pt.n 17
@[irreducible] noncomputable def a2 : Tok := pt.n 18
@[irreducible] noncomputable def a3 : Tok := pt.n 19
@[irreducible] noncomputable def a4 : Tok := pt.n 20
@[irreducible] noncomputable def b1 : Tok := pt.n 21
@[irreducible] noncomputable def b2 : Tok := pt.n 22
@[irreducible] noncomputable def tl9 : Tok := pt.n 23
@[irreducible] noncomputable def kx : Nat := pt.n 25
@[irreducible] noncomputable def nx : Nat := pt.n 26
@[irreducible] noncomputable def line : Int := pt.i 2
@[irreducible] noncomputable def held : List (Addr × Obj) := pt.lo 0
@[irreducible] noncomputable def hd9 : List (Addr × Obj) := pt.lo 1
@[irreducible] noncomputable def tl : List (Addr × Obj) := pt.lo 2
@[irreducible] noncomputable def Hd : Addr := pt.n 27
@[irreducible] noncomputable def kn : Nat := pt.n 29
@[irreducible] noncomputable def key : Str := pt.st 1
@[irreducible] noncomputable def ys : List Value := pt.lv 1
@[irreducible] noncomputable def qs : List Str := pt.ls 0
@[irreducible] noncomputable def t8 : Tok := pt.n 30
theorem main : loop_inner_S w (pt.me 0) (pt.m 0) (pt.m 1) (pt.h 0) L (pt.n 1) (pt.v 0) (pt.m 2) (pt.sh 0) (pt.qf 0) (pt.lst 0) o1 o2 o3 o4 o5 o6 o7 o8 S t1 t2 t3 t4 t5 t6 sh va cn gn sc ss x self D0 P l dx (pt.n 15) (pt.n 16) a1 a2 a3 a4 b1 b2 tl9 (pt.n 24) kx nx line held hd9 tl Hd (pt.n 28) kn key ys qs t8 := by
  intro B F X T N h0t V htl hoff9 hPH hHd hys hql hk8 hso ho8 h105 hms hmv hmz hmt hmc hmk hmg hmy hmh hret
  have hmk101 := MarkH.mk (n := 101)
  rw [show loopCut 8 1 = [_] from rfl]
  revert X; k_fill; intro X
  rw [known_eq hms, known_eq hmv, known_eq hmz, known_eq hmt, known_eq hmc, known_eq hmk, known_eq hmg, known_eq hmy, known_eq hmh] at F
  have hmk := MarkH.mk (n := 202)
  k_steps
  refine Hold.on ?_
  clear hmk
  refine For_byT (by first | assumption | omega) ?_
  k_steps
  refine Then.of fun h0t' => ?_
  rename Fr _ _ _ _ => lF
  rename News _ _ _ _ => lN
  rename IsRange _ _ _ _ _ _ _ _ => hr
  with_unfolding_all refine rangeT (n := kn) (by rfl) hr (range_small kn (by omega)) (range_size kn (by omega)) lF lN ?t0 (by rfl) (by rfl) (fun I i m' n' => ∃ (hc' pn' : Nat) (ys' : List Value), n' = (Hd, W.listOf (heldV (insAll key (qs.take i)).1 key t8) hc') :: (P, W.listOf ys'.toArray pn') :: (l, W.listOf #[.int ((kx : Nat) : Int) tl9] nx) :: (dx, lexD w D0 P a1 a2 a3 a4 (line) b1 b2) :: (self, instObj 87 dx) :: ((L + 1 + 1 + 1 + 1 + 1 + 1 + 1 + 1 : Addr), o8) :: ((L + 1 + 1 + 1 + 1 + 1 + 1 + 1 : Addr), o7) :: ((L + 1 + 1 + 1 + 1 + 1 + 1 : Addr), o6) :: ((L + 1 + 1 + 1 + 1 + 1 : Addr), o5) :: ((L + 1 + 1 + 1 + 1 : Addr), o4) :: ((L + 1 + 1 + 1 : Addr), o3) :: ((L + 1 + 1 : Addr), o2) :: ((L + 1 : Addr), o1) :: tl ∧ StrsAre ys' (qs.drop i ++ (insAll key (qs.take i)).2) ∧ @LT.lt Nat _ Hd I ∧ (∀ p ∈ tl, @LT.lt Nat _ p.1 I) ∧ m' (Str.ofString "share") = some (.float sh t1) ∧ m' (Str.ofString "value") = some (.float va t2) ∧ m' (Str.ofString "sizes") = some (.ref S) ∧ m' (Str.ofString "text") = some (.str x t3) ∧ m' (Str.ofString "count") = some (.int cn t4) ∧ m' (Str.ofString "k") = some (.int ((kn : Nat) : Int) t5) ∧ m' (Str.ofString "gone") = some (.int gn t6) ∧ m' (Str.ofString "key") = some (.str key t8) ∧ m' (Str.ofString "held") = some (.ref Hd)) (fun I hI => (xI3 _ _ ys ⟨rfl, by rw [List.take_zero, List.drop_zero]; exact (List.append_nil qs).symm ▸ hys, hI _ (.head _), (fun p hp => hI p (by simp [hp])), rfl, rfl, rfl, rfl, rfl, rfl, rfl, rfl, rfl⟩)) ?turn ?done
  case t0 => exact h0t'
  case turn =>
    rintro I i t m' news' h tk htk hi hJ0
    refine Classical.byContradiction fun hG0 => ?_
    refine exE3 hJ0 ?_
    try clear hJ0
    rintro hc' pn' ys' hJ0
    refine anE13 hJ0 ?_
    try clear hJ0
    rintro rfl hys' hHI htI m1 m2 m3 m4 m5 m6 m7 m8 m9
    refine hG0 ?_
    clear hG0
    rintro off F1 N1
    have hil : i < qs.length := by omega
    have hl := @insAll_len key (qs.take i)
    rw [List.length_take] at hl
    rw [List.drop_eq_getElem_cons hil, List.cons_append] at hys'
    obtain ⟨ty, r0, rfl, hr0⟩ := strs_inv hys'
    have hPI := Nat.lt_trans hPH hHI
    clear lF lN
    show wpAny _ _ (execs (turnBody ++ []) _) _ _ _
    refine' loop_turn (sc := 0) (ss := []) (hd9 := (I, _) :: hd9) (tl := (I, _) :: tl) B F1 X T (News.last14 N1) V ?q1 ?q2 hPH ?q3 hr0 ?q4 (hso _ (List.getElem_mem hil)) ho8 h105 m1 m2 m3 m4 m5 m6 m7 m8 m9 (fun hv2 hc2 pn2 ys2 outs m2 h2 tk2 F2 N2 hys2 heq n1 n2 n3 n4 n5 n6 n7 n8 n9 => ?_)
    case q1 => intro p; rw [List.mem_cons, List.mem_cons, htl]; exact or_left_comm
    case q2 =>
      intro p hp
      have l1 := V.lt1
      have l2 := V.lt2
      have l3 := V.lt3
      refine mem_cs hp ?_ fun hp => ?_
      · dsimp only; omega
      · exact hoff9 p hp
    case q3 =>
      intro p hp
      refine mem_cs hp ?_ fun hp => ?_
      · exact Nat.ne_of_gt hHI
      · exact hHd p hp
    case q4 => simp only [List.length_append, List.length_drop]; omega
    refine wpAny_execs_nil ?_
    have hst : insAll key (qs.take (i + 1)) = (hv2, (insAll key (qs.take i)).2 ++ outs) := by
      rw [insAll_take hil]
      exact insStep_eq heq
    refine (xI4 _ _ _ _ ⟨rfl, F2, News.first14 N2, ?_, (xI3 hc2 pn2 ys2 ⟨?_, ?_, hHI, htI, n1, n2, n3, n4, n5, n6, n7, n8, n9⟩)⟩)
    rotate_left
    · rw [hst]
    · rw [hst, ← List.append_assoc]; exact hys2
    intro p hp
    refine mem_cs hp ?_ fun hp => ?_
    · exact Nat.ne_of_lt hHI
    refine mem_cs hp ?_ fun hp => ?_
    · exact Nat.ne_of_lt hPI
    exact off p (.tail _ (.tail _ hp))
  case done =>
    rintro I m' news' h tk htk hJ0
    refine Classical.byContradiction fun hG0 => ?_
    refine exE3 hJ0 ?_
    try clear hJ0
    rintro hc' pn' ys' hJ0
    refine anE13 hJ0 ?_
    try clear hJ0
    rintro rfl hys' hHI htI m1 m2 m3 m4 m5 m6 m7 m8 m9
    refine hG0 ?_
    clear hG0
    rintro F1 N1
    rw [List.take_of_length_le (by omega)] at N1 hys'
    rw [List.drop_of_length_le (by omega), List.nil_append] at hys'
    exact hret _ _ _ _ _ _ htk F1 N1 hys' m1 m2 m3 m4 m5 m6 m7 m8 m9
end loop_inner_K
theorem loop_inner {w : World} {mean : ExcName → Option Value} {mg mb : Str → Option Value} {base : Heap} {L fa : Addr} {cd : Value} {m : Str → Option Value} {s : Shared} {Q : Flow → Shared → Prop} {rest : List Stmt} {o1 o2 o3 o4 o5 o6 o7 o8 : Obj} {S : Addr} {t1 t2 t3 t4 t5 t6 : Tok} {sh va : UInt64} {cn gn : Int} {sc : Nat} {ss : List Value} {x : Str} {self D0 P l dx fr d : Addr} {a1 a2 a3 a4 b1 b2 tl9 : Tok} {pn kx nx : Nat} {line : Int} {held hd9 tl : List (Addr × Obj)} {Hd : Addr} {hc kn : Nat} {key : Str} {ys : List Value} {qs : List Str} {t8 : Tok} : loop_inner_S w mean mg mb base L fa cd m s Q rest o1 o2 o3 o4 o5 o6 o7 o8 S t1 t2 t3 t4 t5 t6 sh va cn gn sc ss x self D0 P l dx fr d a1 a2 a3 a4 b1 b2 tl9 pn kx nx line held hd9 tl Hd hc kn key ys qs t8 := @by_bad (fun c => loop_inner_S (c.w 0) (c.me 0) (c.m 0) (c.m 1) (c.h 0) (c.n 0) (c.n 1) (c.v 0) (c.m 2) (c.sh 0) (c.qf 0) (c.lst 0) (c.o 0) (c.o 1) (c.o 2) (c.o 3) (c.o 4) (c.o 5) (c.o 6) (c.o 7) (c.n 2) (c.n 3) (c.n 4) (c.n 5) (c.n 6) (c.n 7) (c.n 8) (c.u 0) (c.u 1) (c.i 0) (c.i 1) (c.n 9) (c.lv 0) (c.st 0) (c.n 10) (c.n 11) (c.n 12) (c.n 13) (c.n 14) (c.n 15) (c.n 16) (c.n 17) (c.n 18) (c.n 19) (c.n 20) (c.n 21) (c.n 22) (c.n 23) (c.n 24) (c.n 25) (c.n 26) (c.i 2) (c.lo 0) (c.lo 1) (c.lo 2) (c.n 27) (c.n 28) (c.n 29) (c.st 1) (c.lv 1) (c.ls 0) (c.n 30)) (by with_unfolding_all exact loop_inner_K.main) { cx0 with n := fromL (0) [L, fa, S, t1, t2, t3, t4, t5, t6, sc, self, D0, P, l, dx, fr, d, a1, a2, a3, a4, b1, b2, tl9, pn, kx, nx, Hd, hc, kn, t8], i := fromL (0) [cn, gn, line], st := fromL (Str.empty) [x, key], u := fromL (0) [sh, va], o := fromL (default) [o1, o2, o3, o4, o5, o6, o7, o8], lo := fromL ([]) [held, hd9, tl], v := fromL (.none) [cd], lv := fromL ([]) [ss, ys], ls := fromL ([]) [qs], m := fromL (fun _ => none) [mg, mb, m], sh := fromL ({}) [s], h := fromL ({}) [base], lst := fromL ([]) [rest], w := fromL (worldZ) [w], me := fromL (fun _ => none) [mean], qf := fromL (fun _ _ => True) [Q] }
end
section
local macro_rules | `(tactic| omega) => `(tactic| first | (with_reducible kas_types) | lia)
noncomputable def insL (key : Str) (qs : List Str) : List Str := if (insAll key qs).1 = true then (insAll key qs).2 ++ [key] else (insAll key qs).2
@[reducible] noncomputable def loop_last_S (w : World) (mean : ExcName → Option Value) (mg mb : Str → Option Value) (base : Heap) (L fa : Addr) (cd : Value) (m : Str → Option Value) (s : Shared) (Q : Flow → Shared → Prop) (rest : List Stmt) (o1 o2 o3 o4 o5 o6 o7 o8 : Obj) (S : Addr) (t1 t2 t3 t4 t5 t6 : Tok) (sh va : UInt64) (cn k gn : Int) (x : Str) (self D0 P l dx fr d : Addr) (a1 a2 a3 a4 b1 b2 tl9 : Tok) (pn kx nx : Nat) (line : Int) (held hd9 tl : List (Addr × Obj)) (Hd : Addr) (hc : Nat) (key : Str) (ys : List Value) (qs : List Str) (t8 : Tok) : Prop := ∀ {hv : Bool} (B : Below callerA base [] base) (F : Fr base L s.heap m) (X : (KX w.params).In base) (T : Top topProg lawLoose mean mg mb base) (N : News base L s.heap ((Hd, W.listOf (heldV hv key t8) hc) :: (P, W.listOf ys.toArray pn) :: (l, W.listOf #[.int ((kx : Nat) : Int) tl9] nx) :: (dx, lexD w D0 P a1 a2 a3 a4 (line) b1 b2) :: (self, instObj 87 dx) :: ((L + 1 + 1 + 1 + 1 + 1 + 1 + 1 + 1 : Addr), o8) :: ((L + 1 + 1 + 1 + 1 + 1 + 1 + 1 : Addr), o7) :: ((L + 1 + 1 + 1 + 1 + 1 + 1 : Addr), o6) :: ((L + 1 + 1 + 1 + 1 + 1 : Addr), o5) :: ((L + 1 + 1 + 1 + 1 : Addr), o4) :: ((L + 1 + 1 + 1 : Addr), o3) :: ((L + 1 + 1 : Addr), o2) :: ((L + 1 : Addr), o1) :: tl)) (V : LxOk w x L self D0 P l dx fr d held) (htl : ∀ p, p ∈ tl ↔ (p ∈ held ∨ p ∈ hd9)) (hoff9 : ∀ p ∈ hd9, @Ne Nat p.1 P ∧ @Ne Nat p.1 l ∧ @Ne Nat p.1 dx ∧ @Ne Nat p.1 self) (hPH : @LT.lt Nat _ P Hd) (hHd : ∀ p ∈ tl, p.1 ≠ Hd) (hys : StrsAre ys qs) (hql : qs.length ≤ 20) (ho8 : o8.data = .cell (some (.ref self))) (h105 : @LT.lt Nat _ 105 L) (hms : m (Str.ofString "share") = some (.float sh t1)) (hmv : m (Str.ofString "value") = some (.float va t2)) (hmz : m (Str.ofString "sizes") = some (.ref S)) (hmt : m (Str.ofString "text") = some (.str x t3)) (hmc : m (Str.ofString "count") = some (.int cn t4)) (hmk : m (Str.ofString "k") = some (.int k t5)) (hmg : m (Str.ofString "gone") = some (.int gn t6)) (hmy : m (Str.ofString "key") = some (.str key t8)) (hmh : m (Str.ofString "held") = some (.ref Hd)) (hret : ∀ (pn' : Nat) (ys' : List Value) (m' : Str → Option Value) (h' : Heap) (tk' : Nat), Fr base L h' m' → News base L h' ((P, W.listOf ys'.toArray pn') :: (l, W.listOf #[.int ((kx : Nat) : Int) tl9] nx) :: (dx, lexD w D0 P a1 a2 a3 a4 (line) b1 b2) :: (self, instObj 87 dx) :: ((L + 1 + 1 + 1 + 1 + 1 + 1 + 1 + 1 : Addr), o8) :: ((L + 1 + 1 + 1 + 1 + 1 + 1 + 1 : Addr), o7) :: ((L + 1 + 1 + 1 + 1 + 1 + 1 : Addr), o6) :: ((L + 1 + 1 + 1 + 1 + 1 : Addr), o5) :: ((L + 1 + 1 + 1 + 1 : Addr), o4) :: ((L + 1 + 1 + 1 : Addr), o3) :: ((L + 1 + 1 : Addr), o2) :: ((L + 1 : Addr), o1) :: tl) → StrsAre ys' (if hv = true then qs ++ [key] else qs) → m' (Str.ofString "share") = some (.float sh t1) → m' (Str.ofString "value") = some (.float va t2) → m' (Str.ofString "sizes") = some (.ref S) → m' (Str.ofString "text") = some (.str x t3) → m' (Str.ofString "count") = some (.int cn t4) → m' (Str.ofString "k") = some (.int k t5) → m' (Str.ofString "gone") = some (.int gn t6) → wpAny (model Challenge.rw_st0007_01.prog w) (lawA L fa cd) (execs rest (lawEnv L fa cd)) Q (fun _ _ => False) { s with heap := h', toks := tk' }), wpAny (model Challenge.rw_st0007_01.prog w) (lawA L fa cd) (execs (loopCut 9 1 ++ rest) (lawEnv L fa cd)) Q (fun _ _ => False) s
namespace loop_last_K
@[irreducible] noncomputable def pt : Cx := bad fun c => loop_last_S (c.w 0) (c.me 0) (c.m 0) (c.m 1) (c.h 0) (c.n 0) (c.n 1) (c.v 0) (c.m 2) (c.sh 0) (c.qf 0) (c.lst 0) (c.o 0) (c.o 1) (c.o 2) (c.o 3) (c.o 4) (c.o 5) (c.o 6) (c.o 7) (c.n 2) (c.n 3) (c.n 4) (c.n 5) (c.n 6) (c.n 7) (c.n 8) (c.u 0) (c.u 1) (c.i 0) (c.i 1) (c.i 2) (c.st 0) (c.n 9) (c.n 10) (c.n 11) (c.n 12) (c.n 13) (c.n 14) (c.n 15) (c.n 16) (c.n 17) (c.n 18) (c.n 19) (c.n 20) (c.n 21) (c.n 22) (c.n 23) (c.n 24) (c.n 25) (c.i 3) (c.lo 0) (c.lo 1) (c.lo 2) (c.n 26) (c.n 27) (c.st 1) (c.lv 0) (c.ls 0) (c.n 28)
@[irreducible] noncomputable def L : Addr := pt.n 0
@[irreducible] noncomputable def o1 : Obj := pt.o 0
@[irreducible] noncomputable def o2 : Obj := pt.o 1
@[irreducible] noncomputable def o3 : Obj := pt.o 2
@[irreducible] noncomputable def o4 : Obj := pt.o 3
@[irreducible] noncomputable def o5 : Obj := pt.o 4
@[irreducible] noncomputable def o6 : Obj := pt.o 5
@[irreducible] noncomputable def o7 : Obj := pt.o 6
@[irreducible] noncomputable def o8 : Obj := pt.o 7
@[irreducible] noncomputable def self : Addr := pt.n 9
@[irreducible] noncomputable def P : Addr := pt.n 11
@[irreducible] noncomputable def l : Addr := pt.n 12
@[irreducible] noncomputable def dx : Addr := pt.n 13
@[irreducible] noncomputable def line : Int := pt.i 3
@[irreducible] noncomputable def hd9 : List (Addr × Obj) := pt.lo 1
@[irreducible] noncomputable def Hd : Addr := pt.n 26
@[irreducible] noncomputable def key : Str := pt.st 1
@[irreducible] noncomputable def ys : List Value := pt.lv 0
@[irreducible] noncomputable def t8 : Tok := pt.n 28
theorem main : loop_last_S (pt.w 0) (pt.me 0) (pt.m 0) (pt.m 1) (pt.h 0) L (pt.n 1) (pt.v 0) (pt.m 2) (pt.sh 0) (pt.qf 0) (pt.lst 0) o1 o2 o3 o4 o5 o6 o7 o8 (pt.n 2) (pt.n 3) (pt.n 4) (pt.n 5) (pt.n 6) (pt.n 7) (pt.n 8) (pt.u 0) (pt.u 1) (pt.i 0) (pt.i 1) (pt.i 2) (pt.st 0) self (pt.n 10) P l dx (pt.n 14) (pt.n 15) (pt.n 16) (pt.n 17) (pt.n 18) (pt.n 19) (pt.n 20) (pt.n 21) (pt.n 22) (pt.n 23) (pt.n 24) (pt.n 25) line (pt.lo 0) hd9 (pt.lo 2) Hd (pt.n 27) key ys (pt.ls 0) t8 := by
  intro hv B F X T N V htl hoff9 hPH hHd hys hql ho8 h105 hms hmv hmz hmt hmc hmk hmg hmy hmh hret
  have hmk101 := MarkH.mk (n := 101)
  rw [show loopCut 9 1 = [_] from rfl]
  revert X; k_fill; intro X
  rw [known_eq hms, known_eq hmv, known_eq hmz, known_eq hmt, known_eq hmc, known_eq hmk, known_eq hmg, known_eq hmy, known_eq hmh] at F
  have hmk := MarkH.mk (n := 201)
  have hmk2 := MarkH.mk (n := 207)
  have hi := V.hi
  have l1 := V.lt1
  have l2 := V.lt2
  have l3 := V.lt3
  have hoff : ∀ (o9 : Obj), ∀ p ∈ (Hd, o9) :: ((L + 1 + 1 + 1 + 1 + 1 + 1 + 1 + 1 : Addr), o8) :: ((L + 1 + 1 + 1 + 1 + 1 + 1 + 1 : Addr), o7) :: ((L + 1 + 1 + 1 + 1 + 1 + 1 : Addr), o6) :: ((L + 1 + 1 + 1 + 1 + 1 : Addr), o5) :: ((L + 1 + 1 + 1 + 1 : Addr), o4) :: ((L + 1 + 1 + 1 : Addr), o3) :: ((L + 1 + 1 : Addr), o2) :: ((L + 1 : Addr), o1) :: hd9, @Ne Nat p.1 P ∧ @Ne Nat p.1 l ∧ @Ne Nat p.1 dx ∧ @Ne Nat p.1 self := fun o9 p hp => by
    revert p; refine all_cons ?_ (all_cons ?_ (all_cons ?_ (all_cons ?_ (all_cons ?_ (all_cons ?_ (all_cons ?_ (all_cons ?_ (all_cons ?_ hoff9))))))))
    all_goals (dsimp only; omega)
  have hysl := StrsAre.length hys
  cases hv <;> simp only [heldV, Bool.false_eq_true, if_false, if_true] at N hret
  · k_steps
    refine Hold.on ?_
    clear hmk2
    rename News _ _ _ _ => N12
    refine wpAny_truthy_list (News.isList N12 (.head _)) (by show (0 : Int) < _; decide) ?_
    rw [show (!(#[] : Array Value).isEmpty) = false from rfl]
    k_steps
    try dsimp only
    (refine' hret _ _ _ _ _ ?gF ?gN ?gS ?g0 ?g1 ?g2 ?g3 ?g4 ?g5 ?g6; (case gF => assumption); (case gS => exact hys); (case gN => (first | assumption | exact cb_drop (by assumption) (by kcj_all))); (case g0 => exact rfl); (case g1 => exact rfl); (case g2 => exact rfl); (case g3 => exact rfl); (case g4 => exact rfl); (case g5 => exact rfl); (case g6 => exact rfl))
  · k_steps
    refine Hold.on ?_
    clear hmk2
    rename News _ _ _ _ => N12
    refine wpAny_truthy_list (News.isList N12 (.head _)) (by show (1 : Int) < _; decide) ?_
    rw [show (!(#[Value.str key t8] : Array Value).isEmpty) = true from rfl]
    k_steps
    refine Hold.on ?_
    rename Fr _ _ _ _ => F12
    rename News _ _ _ _ => N13
    replace N12 := N13
    replace N12 := lex_to htl N12
    refine' pushL (line := line) B F12 X T V (hoff _) N12 ?gs (fun h9 tk9 F14 N14 => ?_)
    case gs => (simp only [List.size_toArray, List.length_append, List.length_cons, List.length_nil, sizeLine_eq, hysl]; omega)
    replace N14 := lex_from htl N14
    rw [List.push_toArray] at N14
    try dsimp only
    clear F12 N12 N13
    k_steps
    try dsimp only
    (refine' hret _ _ _ _ _ ?gF9 ?gN9 ?gS9 ?g0x ?g1x ?g2x ?g3x ?g4x ?g5x ?g6x; (case gF9 => assumption); (case gS9 => exact (kct_snoc hys : StrsAre (ys ++ [.str key t8]) _)); (case gN9 => (first | assumption | exact cb_drop (by assumption) (by kcj_all))); (case g0x => exact rfl); (case g1x => exact rfl); (case g2x => exact rfl); (case g3x => exact rfl); (case g4x => exact rfl); (case g5x => exact rfl); (case g6x => exact rfl))
end loop_last_K
theorem loop_last {w : World} {mean : ExcName → Option Value} {mg mb : Str → Option Value} {base : Heap} {L fa : Addr} {cd : Value} {m : Str → Option Value} {s : Shared} {Q : Flow → Shared → Prop} {rest : List Stmt} {o1 o2 o3 o4 o5 o6 o7 o8 : Obj} {S : Addr} {t1 t2 t3 t4 t5 t6 : Tok} {sh va : UInt64} {cn k gn : Int} {x : Str} {self D0 P l dx fr d : Addr} {a1 a2 a3 a4 b1 b2 tl9 : Tok} {pn kx nx : Nat} {line : Int} {held hd9 tl : List (Addr × Obj)} {Hd : Addr} {hc : Nat} {key : Str} {ys : List Value} {qs : List Str} {t8 : Tok} : loop_last_S w mean mg mb base L fa cd m s Q rest o1 o2 o3 o4 o5 o6 o7 o8 S t1 t2 t3 t4 t5 t6 sh va cn k gn x self D0 P l dx fr d a1 a2 a3 a4 b1 b2 tl9 pn kx nx line held hd9 tl Hd hc key ys qs t8 := @by_bad (fun c => loop_last_S (c.w 0) (c.me 0) (c.m 0) (c.m 1) (c.h 0) (c.n 0) (c.n 1) (c.v 0) (c.m 2) (c.sh 0) (c.qf 0) (c.lst 0) (c.o 0) (c.o 1) (c.o 2) (c.o 3) (c.o 4) (c.o 5) (c.o 6) (c.o 7) (c.n 2) (c.n 3) (c.n 4) (c.n 5) (c.n 6) (c.n 7) (c.n 8) (c.u 0) (c.u 1) (c.i 0) (c.i 1) (c.i 2) (c.st 0) (c.n 9) (c.n 10) (c.n 11) (c.n 12) (c.n 13) (c.n 14) (c.n 15) (c.n 16) (c.n 17) (c.n 18) (c.n 19) (c.n 20) (c.n 21) (c.n 22) (c.n 23) (c.n 24) (c.n 25) (c.i 3) (c.lo 0) (c.lo 1) (c.lo 2) (c.n 26) (c.n 27) (c.st 1) (c.lv 0) (c.ls 0) (c.n 28)) (by with_unfolding_all exact loop_last_K.main) { cx0 with n := fromL (0) [L, fa, S, t1, t2, t3, t4, t5, t6, self, D0, P, l, dx, fr, d, a1, a2, a3, a4, b1, b2, tl9, pn, kx, nx, Hd, hc, t8], i := fromL (0) [cn, k, gn, line], st := fromL (Str.empty) [x, key], u := fromL (0) [sh, va], o := fromL (default) [o1, o2, o3, o4, o5, o6, o7, o8], lo := fromL ([]) [held, hd9, tl], v := fromL (.none) [cd], lv := fromL ([]) [ys], ls := fromL ([]) [qs], m := fromL (fun _ => none) [mg, mb, m], sh := fromL ({}) [s], h := fromL ({}) [base], lst := fromL ([]) [rest], w := fromL (worldZ) [w], me := fromL (fun _ => none) [mean], qf := fromL (fun _ _ => True) [Q] }
end
section
noncomputable def goneAt (zs : List Int) : Nat → Int
  | 0 => 0
  | i + 1 => goneAt zs i + zs.getD i 0
noncomputable def keyAt (zs : List Int) (nl : List Str) (W i : Nat) : Str := keyT ((goneAt zs (i + 1)).fmod (2 ^ W)) (nl.getD i Str.empty) i
noncomputable def queueAt (zs : List Int) (nl : List Str) (W : Nat) : Nat → List Str
  | 0 => []
  | i + 1 => insL (keyAt zs nl W i) (queueAt zs nl W i)
@[reducible] noncomputable def law_loop_S (w : World) (mean : ExcName → Option Value) (mg mb : Str → Option Value) (base : Heap) (L fa : Addr) (cd : Value) (m : Str → Option Value) (s : Shared) (Q : Flow → Shared → Prop) (rest : List Stmt) (o1 o2 o3 o4 o5 o6 o7 o8 : Obj) (S Nn : Addr) (t1 t2 t3 t4 u2 : Tok) (sh va : UInt64) (x : Str) (self D0 P l dx fr d : Addr) (a1 a2 a3 a4 b1 b2 tl9 : Tok) (pn kx nx : Nat) (line : Int) (held : List (Addr × Obj)) (ss ns : List Value) (sc c W : Nat) (zs : List Int) (nl : List Str) : Prop := ∀ (B : Below callerA base [] base) (F : Fr base L s.heap m) (X : (KX w.params).In base) (T : Top topProg lawLoose mean mg mb base) (N : News base L s.heap ((P, PySem.W.listOf #[] pn) :: (l, PySem.W.listOf #[.int ((kx : Nat) : Int) tl9] nx) :: (dx, lexD w D0 P a1 a2 a3 a4 (line) b1 b2) :: (self, instObj 87 dx) :: (Nn, LCg.lst ns) :: (S, PySem.W.listOf ss.toArray sc) :: ((L + 1 + 1 + 1 + 1 + 1 + 1 + 1 + 1 : Addr), o8) :: ((L + 1 + 1 + 1 + 1 + 1 + 1 + 1 : Addr), o7) :: ((L + 1 + 1 + 1 + 1 + 1 + 1 : Addr), o6) :: ((L + 1 + 1 + 1 + 1 + 1 : Addr), o5) :: ((L + 1 + 1 + 1 + 1 : Addr), o4) :: ((L + 1 + 1 + 1 : Addr), o3) :: ((L + 1 + 1 : Addr), o2) :: ((L + 1 : Addr), o1) :: held)) (h0t : 0 < s.toks) (hz1 : t1 ≠ 0) (hz2 : t2 ≠ 0) (h105 : @LT.lt Nat _ 105 L) (V : LxOk w x L self D0 P l dx fr d held) (hNS : ∀ p ∈ held, p.1 = (105 : Addr) ∨ (@LT.lt Nat _ Nn p.1 ∧ @LT.lt Nat _ S p.1)) (lN : @LT.lt Nat _ Nn l) (lS : @LT.lt Nat _ S l) (hns : StrsAre ns nl) (hn8 : nl.length = 8) (hnl : ∀ y ∈ nl, y.length ≤ 50) (hss : IntsAre ss zs) (hzl : zs.length ≤ 9) (hc8 : c ≤ 8) (hcz : c ≤ zs.length) (h3W : 3 ≤ W) (hW20 : W ≤ 20) (hue : ∀ i, i < c → HueOk sh va (goneAt zs (i + 1)) W) (hso : ∀ i, i < c → ∀ y ∈ queueAt zs nl W i, (strc (keyAt zs nl W i) y = -1 ∧ strc y (keyAt zs nl W i) = 1) ∨ (strc (keyAt zs nl W i) y = 1 ∧ strc y (keyAt zs nl W i) = -1)) (hql : ∀ i, i < c → (queueAt zs nl W i).length = i) (ho2 : o2.data = .cell (some (.int (2 ^ W) u2))) (ho6 : o6.data = .cell (some (.ref Nn))) (ho8 : o8.data = .cell (some (.ref self))) (hms : m (Str.ofString "share") = some (.float sh t1)) (hmv : m (Str.ofString "value") = some (.float va t2)) (hmz : m (Str.ofString "sizes") = some (.ref S)) (hmt : m (Str.ofString "text") = some (.str x t3)) (hmc : m (Str.ofString "count") = some (.int (c : Nat) t4)) (hret : ∀ (pn : Nat) (ys : List Value) (m' : Str → Option Value) (h' : Heap) (tk' : Nat), 0 < tk' → Fr base L h' m' → News base L h' ((P, PySem.W.listOf ys.toArray pn) :: (l, PySem.W.listOf #[.int ((kx : Nat) : Int) tl9] nx) :: (dx, lexD w D0 P a1 a2 a3 a4 (line) b1 b2) :: (self, instObj 87 dx) :: (Nn, LCg.lst ns) :: (S, PySem.W.listOf ss.toArray sc) :: ((L + 1 + 1 + 1 + 1 + 1 + 1 + 1 + 1 : Addr), o8) :: ((L + 1 + 1 + 1 + 1 + 1 + 1 + 1 : Addr), o7) :: ((L + 1 + 1 + 1 + 1 + 1 + 1 : Addr), o6) :: ((L + 1 + 1 + 1 + 1 + 1 : Addr), o5) :: ((L + 1 + 1 + 1 + 1 : Addr), o4) :: ((L + 1 + 1 + 1 : Addr), o3) :: ((L + 1 + 1 : Addr), o2) :: ((L + 1 : Addr), o1) :: held) → StrsAre ys (queueAt zs nl W c) → m' (Str.ofString "share") = some (.float sh t1) → m' (Str.ofString "value") = some (.float va t2) → m' (Str.ofString "sizes") = some (.ref S) → m' (Str.ofString "text") = some (.str x t3) → m' (Str.ofString "count") = some (.int (c : Nat) t4) → wpAny (model Challenge.rw_st0007_01.prog w) (lawA L fa cd) (execs rest (lawEnv L fa cd)) Q (fun _ _ => False) { s with heap := h', toks := tk' }), wpAny (model Challenge.rw_st0007_01.prog w) (lawA L fa cd) (execs (lawCut 23 2 ++ rest) (lawEnv L fa cd)) Q (fun _ _ => False) s
namespace law_loop_K
@[irreducible] noncomputable def pt : Cx := bad fun c => law_loop_S (c.w 0) (c.me 0) (c.m 0) (c.m 1) (c.h 0) (c.n 0) (c.n 1) (c.v 0) (c.m 2) (c.sh 0) (c.qf 0) (c.lst 0) (c.o 0) (c.o 1) (c.o 2) (c.o 3) (c.o 4) (c.o 5) (c.o 6) (c.o 7) (c.n 2) (c.n 3) (c.n 4) (c.n 5) (c.n 6) (c.n 7) (c.n 8) (c.u 0) (c.u 1) (c.st 0) (c.n 9) (c.n 10) (c.n 11) (c.n 12) (c.n 13) (c.n 14) (c.n 15) (c.n 16) (c.n 17) (c.n 18) (c.n 19) (c.n 20) (c.n 21) (c.n 22) (c.n 23) (c.n 24) (c.n 25) (c.i 0) (c.lo 0) (c.lv 0) (c.lv 1) (c.n 26) (c.n 27) (c.n 28) (c.li 0) (c.ls 0)
@[irreducible] noncomputable def w : World := pt.w 0
@[irreducible] noncomputable def L : Addr := pt.n 0
@[irreducible] noncomputable def o1 : Obj := pt.o 0
@[irreducible] noncomputable def o2 : Obj := pt.o 1
@[irreducible] noncomputable def o3 : Obj := pt.o 2
@[irreducible] noncomputable def o4 : Obj := pt.o 3
@[irreducible] noncomputable def o5 : Obj := pt.o 4
@[irreducible] noncomputable def o6 : Obj := pt.o 5
@[irreducible] noncomputable def o7 : Obj := pt.o 6
@[irreducible] noncomputable def o8 : Obj := pt.o 7
@[irreducible] noncomputable def S : Addr := pt.n 2
@[irreducible] noncomputable def Nn : Addr := pt.n 3
@[irreducible] noncomputable def t1 : Tok := pt.n 4
@[irreducible] noncomputable def t2 : Tok := pt.n 5
@[irreducible] noncomputable def t3 : Tok := pt.n 6
@[irreducible] noncomputable def t4 : Tok := pt.n 7
@[irreducible] noncomputable def sh : UInt64 := pt.u 0
@[irreducible] noncomputable def va : UInt64 := pt.u 1
@[irreducible] noncomputable def x : Str := pt.st 0
@[irreducible] noncomputable def self : Addr := pt.n 9
@[irreducible] noncomputable def D0 : Addr := pt.n 10
@[irreducible] noncomputable def P : Addr := pt.n 11
@[irreducible] noncomputable def l : Addr := pt.n 12
@[irreducible] noncomputable def dx : Addr := pt.n 13
@[irreducible] noncomputable def a1 : Tok := pt.n 16
@[irreducible] noncomputable def a2 : Tok := pt.n 17
@[irreducible] noncomputable def a3 : Tok := pt.n 18
@[irreducible] noncomputable def a4 : Tok := pt.n 19
@[irreducible] noncomputable def b1 : Tok := pt.n 20
@[irreducible] noncomputable def b2 : Tok := pt.n 21
@[irreducible] noncomputable def tl9 : Tok := pt.n 22
@[irreducible] noncomputable def pn : Nat := pt.n 23
@[irreducible] noncomputable def kx : Nat := pt.n 24
@[irreducible] noncomputable def nx : Nat := pt.n 25
@[irreducible] noncomputable def line : Int := pt.i 0
@[irreducible] noncomputable def held : List (Addr × Obj) := pt.lo 0
@[irreducible] noncomputable def ss : List Value := pt.lv 0
@[irreducible] noncomputable def ns : List Value := pt.lv 1
@[irreducible] noncomputable def sc : Nat := pt.n 26
@[irreducible] noncomputable def c : Nat := pt.n 27
@[irreducible] noncomputable def W : Nat := pt.n 28
@[irreducible] noncomputable def zs : List Int := pt.li 0
@[irreducible] noncomputable def nl : List Str := pt.ls 0
theorem main : law_loop_S w (pt.me 0) (pt.m 0) (pt.m 1) (pt.h 0) L (pt.n 1) (pt.v 0) (pt.m 2) (pt.sh 0) (pt.qf 0) (pt.lst 0) o1 o2 o3 o4 o5 o6 o7 o8 S Nn t1 t2 t3 t4 (pt.n 8) sh va x self D0 P l dx (pt.n 14) (pt.n 15) a1 a2 a3 a4 b1 b2 tl9 pn kx nx line held ss ns sc c W zs nl := by
  intro B F X T N h0t hz1 hz2 h105 V hNS lN lS hns hn8 hnl hss hzl hc8 hcz h3W hW20 hue hso hql ho2 ho6 ho8 hms hmv hmz hmt hmc hret
  have hmk100 := MarkH.mk (n := 100)
  have hmk101 := MarkH.mk (n := 101)
  rw [show lawCut 23 2 = [_, _] from rfl]
  revert X; k_fill; intro X
  rw [known_eq hms, known_eq hmv, known_eq hmz, known_eq hmt, known_eq hmc] at F
  have hmk := MarkH.mk (n := 202)
  k_steps
  refine Hold.on ?_
  clear hmk
  refine For_byT (by first | assumption | (dsimp only; omega)) ?_
  k_steps
  refine Then.of fun h0t' => ?_
  rename Fr _ _ _ _ => lF
  rename News _ _ _ _ => lN'
  rename IsRange _ _ _ _ _ _ _ _ => hr
  with_unfolding_all refine rangeT (n := c) (by rfl) hr (range_small c (by omega)) (range_size c (by omega)) lF lN' ?t0 (by rfl) (by rfl) (fun I i m' n' => ∃ (pn : Nat) (ys : List Value) (t6 : Tok), n' = (P, PySem.W.listOf ys.toArray pn) :: (l, PySem.W.listOf #[.int ((kx : Nat) : Int) tl9] nx) :: (dx, lexD w D0 P a1 a2 a3 a4 (line) b1 b2) :: (self, instObj 87 dx) :: (Nn, LCg.lst ns) :: (S, PySem.W.listOf ss.toArray sc) :: ((L + 1 + 1 + 1 + 1 + 1 + 1 + 1 + 1 : Addr), o8) :: ((L + 1 + 1 + 1 + 1 + 1 + 1 + 1 : Addr), o7) :: ((L + 1 + 1 + 1 + 1 + 1 + 1 : Addr), o6) :: ((L + 1 + 1 + 1 + 1 + 1 : Addr), o5) :: ((L + 1 + 1 + 1 + 1 : Addr), o4) :: ((L + 1 + 1 + 1 : Addr), o3) :: ((L + 1 + 1 : Addr), o2) :: ((L + 1 : Addr), o1) :: held ∧ StrsAre ys (queueAt zs nl W i) ∧ @LT.lt Nat _ P I ∧ (∀ p ∈ held, @LT.lt Nat _ p.1 I) ∧ m' (Str.ofString "gone") = some (.int (goneAt zs i) t6) ∧ m' (Str.ofString "share") = some (.float sh t1) ∧ m' (Str.ofString "value") = some (.float va t2) ∧ m' (Str.ofString "sizes") = some (.ref S) ∧ m' (Str.ofString "text") = some (.str x t3) ∧ m' (Str.ofString "count") = some (.int (c : Nat) t4)) (fun I hI => ⟨_, [], _, rfl, .nil, hI _ (.head _), (fun p hp => hI p (by simp [hp])), rfl, rfl, rfl, rfl, rfl, rfl⟩) ?turn ?done
  case t0 => exact h0t'
  case turn =>
    rintro I i t m' news' h tk htk hi hJ0
    refine Classical.byContradiction fun hG0 => ?_
    refine exE3 hJ0 ?_
    try clear hJ0
    rintro pn1 ys1 t6 hJ0
    refine anE10 hJ0 ?_
    try clear hJ0
    rintro rfl hys1 hPI htI m0 m1 m2 m3 m4 m5
    refine hG0 ?_
    clear hG0
    rintro off F1 N1
    rw [Int.zero_add] at F1
    obtain ⟨hw1, hw2⟩ := pow20 hW20
    have hw0 := Int.le_of_lt (show (0 : Int) < 2 ^ W from hw1)
    have H := hue i hi
    have hp0 : 0 ≤ (goneAt zs (i + 1)).fmod (2 ^ W) := by rw [Int.fmod_eq_emod_of_nonneg _ hw0]; exact Int.emod_nonneg _ (Int.ne_of_gt hw1)
    have hp1 : (goneAt zs (i + 1)).fmod (2 ^ W) < 1048576 := by
      rw [Int.fmod_eq_emod_of_nonneg _ hw0]
      exact Int.lt_of_lt_of_le (Int.emod_lt_of_pos _ hw1) hw2
    have hkl : (keyAt zs nl W i).length ≤ 100 := by
      have e : (goneAt zs (i + 1)).fmod (2 ^ W) = (((goneAt zs (i + 1)).fmod (2 ^ W)).toNat : Int) := tonat hp0
      have h1 := keyT_len (p := ((goneAt zs (i + 1)).fmod (2 ^ W)).toNat) ((Int.toNat_lt hp0).mpr hp1) (nl.getD i Str.empty) i
      rw [← e] at h1
      have h2 : (nl.getD i Str.empty).length ≤ 50 := by
        rw [List.getD_eq_getElem?_getD, List.getElem?_eq_getElem (show i < nl.length by rw [hn8]; exact Nat.lt_of_lt_of_le hi hc8)]
        exact hnl _ (List.getElem_mem _)
      unfold keyAt
      exact Nat.le_trans h1 (Nat.le_trans (Nat.add_le_add_left h2 9) (by decide))
    clear lF lN'
    show wpAny _ _ (execs (loopCut 0 1 ++ (loopCut 1 4 ++ (loopCut 5 1 ++ (loopCut 6 2 ++ (loopCut 8 1 ++ (loopCut 9 1 ++ [])))))) _) _ _ _
    generalize itR (0 + ((i + 1 : Nat) : Int)) ((c : Int) - ((i + 1 : Nat) : Int)) = io at N1 ⊢
    refine wp_hide fun Q9 hQ9 => ?_
    refine execs_app ?_
    refine loop_gone (tl := (P, PySem.W.listOf ys1.toArray pn1) :: (l, PySem.W.listOf #[.int ((kx : Nat) : Int) tl9] nx) :: (dx, lexD w D0 P a1 a2 a3 a4 (line) b1 b2) :: (self, instObj 87 dx) :: (I, io) :: (Nn, LCg.lst ns) :: held) B F1 X T (cb_drop N1 (by kcj_all)) hss (by omega) (by omega) hzl h105 m1 m2 m3 m4 m5 rfl m0 (fun t6 m2' h2 tk2 F2 N2 n1 n2 n3 n4 n5 n6 n0 => ?_)
    refine wpAny_execs_nil ?_
    refine Then.of fun ht2 => ?_
    dsimp only at ht2
    replace ht2 := Nat.lt_of_lt_of_le htk ht2
    rw [show ((i : Int)).toNat = i from rfl] at n0
    clear F1 N1
    refine loop_hue (W := W) (tl := (P, PySem.W.listOf ys1.toArray pn1) :: (l, PySem.W.listOf #[.int ((kx : Nat) : Int) tl9] nx) :: (dx, lexD w D0 P a1 a2 a3 a4 (line) b1 b2) :: (self, instObj 87 dx) :: (I, io) :: (Nn, LCg.lst ns) :: held) B F2 X T N2 H ht2 hz1 hz2 h3W hW20 ho2 h105 n1 n2 n3 n4 n5 n6 n0 (fun D v1 v2 v3 m3' h3 tk3 ht3 F3 N3 p1 p2 p3 p4 p5 p6 p0 pd => ?_)
    clear F2 N2
    refine execs_app ?_
    refine loop_key (W := W) (u6 := t4) (ss := []) (sc := 0) (tl := (P, PySem.W.listOf ys1.toArray pn1) :: (l, PySem.W.listOf #[.int ((kx : Nat) : Int) tl9] nx) :: (dx, lexD w D0 P a1 a2 a3 a4 (line) b1 b2) :: (self, instObj 87 dx) :: (I, io) :: (S, PySem.W.listOf ss.toArray sc) :: held) B F3 X T (cb_drop N3 (by kcj_all)) hns (fun y hy => Nat.le_trans (hnl y hy) (by decide)) hn8 (by omega) rfl hW20 hp0 hp1 H.finw H.nani H.infi H.int ho2 ho6 h105 p1 p2 p3 p4 p5 p6 p0 pd (fun t8 m4' h4 tk4 F4 N4 q1 q2 q3 q4 q5 q6 q0 qy => ?_)
    refine wpAny_execs_nil ?_
    refine Then.of fun ht4 => ?_
    dsimp only at ht4
    replace ht4 := Nat.lt_of_lt_of_le ht3 ht4
    clear F3 N3
    refine execs_app ?_
    refine loop_coll (ss := []) (sc := 0) (key := keyAt zs nl W i) (tl := (P, PySem.W.listOf ys1.toArray pn1) :: (l, PySem.W.listOf #[.int ((kx : Nat) : Int) tl9] nx) :: (dx, lexD w D0 P a1 a2 a3 a4 (line) b1 b2) :: (self, instObj 87 dx) :: (I, io) :: (Nn, LCg.lst ns) :: (S, PySem.W.listOf ss.toArray sc) :: held) B F4 X T (cb_drop N4 (by kcj_all)) hkl h105 q1 q2 q3 q4 q5 q6 q0 qy (fun Hd hc m5' h5 tk5 F5 N5 hlt r1 r2 r3 r4 r5 r6 r0 ry rh => ?_)
    refine wpAny_execs_nil ?_
    refine Then.of fun ht5 => ?_
    dsimp only at ht5
    replace ht5 := Nat.lt_of_lt_of_le ht4 ht5
    clear F4 N4
    have hlt' := allLt_all hlt
    have hPH : @LT.lt Nat _ P Hd := hlt' (P, PySem.W.listOf ys1.toArray pn1) (by simp)
    have hT : ∀ p ∈ (I, io) :: (Nn, LCg.lst ns) :: (S, PySem.W.listOf ss.toArray sc) :: held, @LT.lt Nat _ p.1 Hd := fun p hp => hlt' p (by repeat (first | exact hp | refine List.mem_cons_of_mem _ ?_))
    have hHd : ∀ p ∈ (I, io) :: (Nn, LCg.lst ns) :: (S, PySem.W.listOf ss.toArray sc) :: held, p.1 ≠ Hd := fun p hp => Nat.ne_of_lt (hT p hp)
    have htl : ∀ p, p ∈ (I, io) :: (Nn, LCg.lst ns) :: (S, PySem.W.listOf ss.toArray sc) :: held ↔ (p ∈ held ∨ p ∈ [(I, io), (Nn, LCg.lst ns), (S, PySem.W.listOf ss.toArray sc)]) := fun p => mem_hd (H := [_, _, _])
    have hoff9 : ∀ p ∈ [(I, io), (Nn, LCg.lst ns), (S, PySem.W.listOf ss.toArray sc)], @Ne Nat p.1 P ∧ @Ne Nat p.1 l ∧ @Ne Nat p.1 dx ∧ @Ne Nat p.1 self := fun p hp => by
      have l1 := V.lt1
      have l2 := V.lt2
      have l3 := V.lt3
      simp only [List.mem_cons, List.not_mem_nil, or_false] at hp
      rcases hp with rfl | rfl | rfl <;> dsimp only <;> omega
    refine loop_inner (ss := []) (sc := 0) (tl := (I, io) :: (Nn, LCg.lst ns) :: (S, PySem.W.listOf ss.toArray sc) :: held) (qs := queueAt zs nl W i) B F5 X T (cb_drop N5 (by kcj_all)) ht5 V htl hoff9 hPH hHd hys1 (hql i hi) (by omega) (hso i hi) ho8 h105 r1 r2 r3 r4 r5 r6 r0 ry rh (fun hc' pn2 ys2 m6' h6 tk6 ht6 F6 N6 hys2 s1 s2 s3 s4 s5 s6 s0 sy sh' => ?_)
    clear F5 N5
    refine loop_last (tl := (I, io) :: (Nn, LCg.lst ns) :: (S, PySem.W.listOf ss.toArray sc) :: held) B F6 X T N6 V htl hoff9 hPH hHd hys2 (Nat.le_trans (insAll_len _) (by rw [hql i hi]; omega)) ho8 h105 s1 s2 s3 s4 s5 s6 s0 sy sh' (fun pn3 ys3 m7' h7 tk7 F7 N7 hys3 u1 u2' u3 u4 u5 u6 u0 => ?_)
    clear F6 N6
    refine wpAny_execs_nil ?_
    refine hQ9 _ _ ?_
    dsimp only
    refine ⟨h7, tk7, m7', (P, PySem.W.listOf ys3.toArray pn3) :: (l, PySem.W.listOf #[.int ((kx : Nat) : Int) tl9] nx) :: (dx, lexD w D0 P a1 a2 a3 a4 (line) b1 b2) :: (self, instObj 87 dx) :: (Nn, LCg.lst ns) :: (S, PySem.W.listOf ss.toArray sc) :: ((L + 1 + 1 + 1 + 1 + 1 + 1 + 1 + 1 : Addr), o8) :: ((L + 1 + 1 + 1 + 1 + 1 + 1 + 1 : Addr), o7) :: ((L + 1 + 1 + 1 + 1 + 1 + 1 : Addr), o6) :: ((L + 1 + 1 + 1 + 1 + 1 : Addr), o5) :: ((L + 1 + 1 + 1 + 1 : Addr), o4) :: ((L + 1 + 1 + 1 : Addr), o3) :: ((L + 1 + 1 : Addr), o2) :: ((L + 1 : Addr), o1) :: held, rfl, F7, cb_drop N7 (by kcj_all), ?_, ⟨pn3, ys3, _, rfl, hys3, hPI, htI, u0, u1, u2', u3, u4, u5⟩⟩
    intro p hp
    refine mem_cs hp ?_ fun hp => ?_
    · exact Nat.ne_of_lt hPI
    exact off p (.tail _ hp)
  case done =>
    rintro I m' news' h tk htk hJ0
    refine Classical.byContradiction fun hG0 => ?_
    refine exE3 hJ0 ?_
    try clear hJ0
    rintro pn' ys' t6 hJ0
    refine anE10 hJ0 ?_
    try clear hJ0
    rintro rfl hys' hPI htI m0 m1 m2 m3 m4 m5
    refine hG0 ?_
    clear hG0
    rintro F1 N1
    exact hret _ _ _ _ _ htk F1 N1 hys' m1 m2 m3 m4 m5
end law_loop_K
theorem law_loop {w : World} {mean : ExcName → Option Value} {mg mb : Str → Option Value} {base : Heap} {L fa : Addr} {cd : Value} {m : Str → Option Value} {s : Shared} {Q : Flow → Shared → Prop} {rest : List Stmt} {o1 o2 o3 o4 o5 o6 o7 o8 : Obj} {S Nn : Addr} {t1 t2 t3 t4 u2 : Tok} {sh va : UInt64} {x : Str} {self D0 P l dx fr d : Addr} {a1 a2 a3 a4 b1 b2 tl9 : Tok} {pn kx nx : Nat} {line : Int} {held : List (Addr × Obj)} {ss ns : List Value} {sc c W : Nat} {zs : List Int} {nl : List Str} : law_loop_S w mean mg mb base L fa cd m s Q rest o1 o2 o3 o4 o5 o6 o7 o8 S Nn t1 t2 t3 t4 u2 sh va x self D0 P l dx fr d a1 a2 a3 a4 b1 b2 tl9 pn kx nx line held ss ns sc c W zs nl := @by_bad (fun c => law_loop_S (c.w 0) (c.me 0) (c.m 0) (c.m 1) (c.h 0) (c.n 0) (c.n 1) (c.v 0) (c.m 2) (c.sh 0) (c.qf 0) (c.lst 0) (c.o 0) (c.o 1) (c.o 2) (c.o 3) (c.o 4) (c.o 5) (c.o 6) (c.o 7) (c.n 2) (c.n 3) (c.n 4) (c.n 5) (c.n 6) (c.n 7) (c.n 8) (c.u 0) (c.u 1) (c.st 0) (c.n 9) (c.n 10) (c.n 11) (c.n 12) (c.n 13) (c.n 14) (c.n 15) (c.n 16) (c.n 17) (c.n 18) (c.n 19) (c.n 20) (c.n 21) (c.n 22) (c.n 23) (c.n 24) (c.n 25) (c.i 0) (c.lo 0) (c.lv 0) (c.lv 1) (c.n 26) (c.n 27) (c.n 28) (c.li 0) (c.ls 0)) (by with_unfolding_all exact law_loop_K.main) { cx0 with n := fromL (0) [L, fa, S, Nn, t1, t2, t3, t4, u2, self, D0, P, l, dx, fr, d, a1, a2, a3, a4, b1, b2, tl9, pn, kx, nx, sc, c, W], i := fromL (0) [line], st := fromL (Str.empty) [x], u := fromL (0) [sh, va], o := fromL (default) [o1, o2, o3, o4, o5, o6, o7, o8], lo := fromL ([]) [held], v := fromL (.none) [cd], lv := fromL ([]) [ss, ns], ls := fromL ([]) [nl], m := fromL (fun _ => none) [mg, mb, m], sh := fromL ({}) [s], h := fromL ({}) [base], lst := fromL ([]) [rest], w := fromL (worldZ) [w], me := fromL (fun _ => none) [mean], qf := fromL (fun _ _ => True) [Q], li := fromL ([]) [zs] }
end
section
open PyProof.Rows.LCg
theorem range1_small : ∀ n : Nat, n < 9 → Builtin.Range.small 1 (n : Int) 1 = true := by decide
theorem range1_size : ∀ n : Nat, n < 9 → Builtin.Range.rangeSize 1 (n : Int) 1 = ((n - 1 : Nat) : Int) := by decide
noncomputable def aheadL (lap wh : Int) (c : Nat) : List (Int × Int) := (List.range (c - 1)).map fun i : Nat => (((1 + (i : Int)) * lap).fmod wh, 1 + (i : Int))
noncomputable def aheadP (lap wh : Int) (c : Nat) : List (Int × Int) := if c = 1 then [(0, 1)] else aheadL lap wh c
theorem one_ahead {b h : Heap} {L : Addr} {x y z c1 c2 c3 c4 c5 c6 c7 c8 : Addr × Obj} {tz : List (Addr × Obj)} (N : News b L h (x :: y :: z :: c8 :: c7 :: c6 :: c5 :: c4 :: c3 :: c2 :: c1 :: tz)) : News b L h (x :: c8 :: c7 :: c6 :: c5 :: c4 :: c3 :: c2 :: c1 :: y :: tz) := fun p hp => N p (mem_oa (C := [_, _, _, _, _, _, _, _]) hp)
@[reducible] noncomputable def ahead_end_S (base h' : Heap) (L : Addr) (m : Str → Option Value) (s : Shared) (I C D Dn : Addr) (oI oC : Obj) (c1 c2 c3 c4 c5 c6 c7 c8 : Addr × Obj) (ts tz tl : List (Addr × Obj)) (i tk : Nat) (v1 v2 : Int) (t u : Tok) : Prop := ∀ {ps : List (Int × Int)} (F : Fr base L h' m) (N : News base L h' ((Dn, tupO #[.int v1 t, .int v2 u] 0) :: (I, oI) :: (C, oC) :: (D, lst (ts.map fun p => Value.ref p.1)) :: c8 :: c7 :: c6 :: c5 :: c4 :: c3 :: c2 :: c1 :: tz)) (off : Off3 I C D (c8 :: c7 :: c6 :: c5 :: c4 :: c3 :: c2 :: c1 :: tz)) (hI : @LT.lt Nat _ I Dn) (hC : @LT.lt Nat _ C Dn) (hD : @LT.lt Nat _ D Dn) (hT : TupsAre ts (ps.take i)) (hp : ps[i]? = some (v1, v2)) (hts : ∀ p ∈ ts, p ∈ tz) (htl : ∀ p ∈ tl, p ∈ tz), CompEnd base L m s I oI C oC D (lst (ts.map fun p => Value.ref p.1)) (fun _ => True) (fun y nw' => ∃ ts_1 tz', nw' = c8 :: c7 :: c6 :: c5 :: c4 :: c3 :: c2 :: c1 :: tz' ∧ TupsAre ts_1 (ps.take (i + 1)) ∧ (ts.map fun p => Value.ref p.1) ++ [y] = ts_1.map (fun p => Value.ref p.1) ∧ (∀ p ∈ ts_1, p ∈ tz') ∧ (∀ p ∈ tl, p ∈ tz')) (.ref Dn) { s with heap := h', toks := tk }
namespace ahead_end_K
@[irreducible] noncomputable def pt : Cx := bad fun c => ahead_end_S (c.h 0) (c.h 1) (c.n 0) (c.m 0) (c.sh 0) (c.n 1) (c.n 2) (c.n 3) (c.n 4) (c.o 0) (c.o 1) (c.ao 0) (c.ao 1) (c.ao 2) (c.ao 3) (c.ao 4) (c.ao 5) (c.ao 6) (c.ao 7) (c.lo 0) (c.lo 1) (c.lo 2) (c.n 5) (c.n 6) (c.i 0) (c.i 1) (c.n 7) (c.n 8)
@[irreducible] noncomputable def Dn : Addr := pt.n 4
@[irreducible] noncomputable def c1 : Addr × Obj := pt.ao 0
@[irreducible] noncomputable def c2 : Addr × Obj := pt.ao 1
@[irreducible] noncomputable def c3 : Addr × Obj := pt.ao 2
@[irreducible] noncomputable def c4 : Addr × Obj := pt.ao 3
@[irreducible] noncomputable def c5 : Addr × Obj := pt.ao 4
@[irreducible] noncomputable def c6 : Addr × Obj := pt.ao 5
@[irreducible] noncomputable def c7 : Addr × Obj := pt.ao 6
@[irreducible] noncomputable def c8 : Addr × Obj := pt.ao 7
@[irreducible] noncomputable def ts : List (Addr × Obj) := pt.lo 0
@[irreducible] noncomputable def tz : List (Addr × Obj) := pt.lo 1
@[irreducible] noncomputable def v1 : Int := pt.i 0
@[irreducible] noncomputable def v2 : Int := pt.i 1
@[irreducible] noncomputable def t : Tok := pt.n 7
@[irreducible] noncomputable def u : Tok := pt.n 8
theorem main : ahead_end_S (pt.h 0) (pt.h 1) (pt.n 0) (pt.m 0) (pt.sh 0) (pt.n 1) (pt.n 2) (pt.n 3) Dn (pt.o 0) (pt.o 1) c1 c2 c3 c4 c5 c6 c7 c8 ts tz (pt.lo 2) (pt.n 5) (pt.n 6) v1 v2 t u := by
  intro ps F N off hI hC hD hT hp hts htl
  refine anE9 off ?_
  try clear off
  rintro e8 e7 e6 e5 e4 e3 e2 e1 et
  refine LCg.CompEnd.intro F N (c8 :: c7 :: c6 :: c5 :: c4 :: c3 :: c2 :: c1 :: (Dn, tupO #[.int v1 t, .int v2 u] 0) :: tz) (fun p hp => (mem_mv (A := [_, _, _, _, _, _, _, _, _, _, _])).mp hp) ⟨e8, e7, e6, e5, e4, e3, e2, e1, ⟨Nat.ne_of_gt hI, Nat.ne_of_gt hC, Nat.ne_of_gt hD⟩, et⟩ trivial
    ⟨ts ++ [(Dn, tupO #[.int v1 t, .int v2 u] 0)], _, rfl, ?_, by simp, fun p hp => ?_, fun p hp => .tail _ (htl p hp)⟩
  · rw [List.take_add_one, hp]
    exact hT.snoc Dn v1 v2 t u
  · rcases List.mem_append.mp hp with hp | hp
    · exact .tail _ (hts p hp)
    · rw [List.mem_singleton.mp hp]; exact .head _
end ahead_end_K
theorem ahead_end {base h' : Heap} {L : Addr} {m : Str → Option Value} {s : Shared} {I C D Dn : Addr} {oI oC : Obj} {c1 c2 c3 c4 c5 c6 c7 c8 : Addr × Obj} {ts tz tl : List (Addr × Obj)} {i tk : Nat} {v1 v2 : Int} {t u : Tok} : ahead_end_S base h' L m s I C D Dn oI oC c1 c2 c3 c4 c5 c6 c7 c8 ts tz tl i tk v1 v2 t u := @by_bad (fun c => ahead_end_S (c.h 0) (c.h 1) (c.n 0) (c.m 0) (c.sh 0) (c.n 1) (c.n 2) (c.n 3) (c.n 4) (c.o 0) (c.o 1) (c.ao 0) (c.ao 1) (c.ao 2) (c.ao 3) (c.ao 4) (c.ao 5) (c.ao 6) (c.ao 7) (c.lo 0) (c.lo 1) (c.lo 2) (c.n 5) (c.n 6) (c.i 0) (c.i 1) (c.n 7) (c.n 8)) (by with_unfolding_all exact ahead_end_K.main) { cx0 with n := fromL (0) [L, I, C, D, Dn, i, tk, t, u], i := fromL (0) [v1, v2], o := fromL (default) [oI, oC], lo := fromL ([]) [ts, tz, tl], m := fromL (fun _ => none) [m], sh := fromL ({}) [s], h := fromL ({}) [base, h'], ao := fromL ((0, default)) [c1, c2, c3, c4, c5, c6, c7, c8] }
@[reducible] noncomputable def law_ahead_S (w : World) (mean : ExcName → Option Value) (mg mb : Str → Option Value) (base : Heap) (L fa : Addr) (cd : Value) (m : Str → Option Value) (s : Shared) (Q : Flow → Shared → Prop) (rest : List Stmt) (o1 o2 o3 o4 o5 o6 o7 o8 : Obj) (tl : List (Addr × Obj)) (t3 t4 u2 u4 : Tok) (x : Str) (c W : Nat) (lap : Int) : Prop := ∀ (B : Below callerA base [] base) (F : Fr base L s.heap m) (X : (KX w.params).In base) (T : Top topProg lawLoose mean mg mb base) (N : News base L s.heap (((L + 1 + 1 + 1 + 1 + 1 + 1 + 1 + 1 : Addr), o8) :: ((L + 1 + 1 + 1 + 1 + 1 + 1 + 1 : Addr), o7) :: ((L + 1 + 1 + 1 + 1 + 1 + 1 : Addr), o6) :: ((L + 1 + 1 + 1 + 1 + 1 : Addr), o5) :: ((L + 1 + 1 + 1 + 1 : Addr), o4) :: ((L + 1 + 1 + 1 : Addr), o3) :: ((L + 1 + 1 : Addr), o2) :: ((L + 1 : Addr), o1) :: tl)) (h105 : @LT.lt Nat _ 105 L) (hc1 : 1 ≤ c) (hc8 : c ≤ 8) (hW : 3 ≤ W) (ho2 : o2.data = .cell (some (.int (2 ^ W) u2))) (ho4 : o4.data = .cell (some (.int lap u4))) (hmt : m (Str.ofString "text") = some (.str x t3)) (hmc : m (Str.ofString "count") = some (.int ((c : Nat) : Int) t4)) (hret : ∀ (Ah : Addr) (cc : Nat) (ts tz : List (Addr × Obj)) (m' : Str → Option Value) (h' : Heap) (tk' : Nat), Fr base L h' m' → News base L h' ((Ah, PySem.W.listOf (ts.map fun p => Value.ref p.1).toArray cc) :: ((L + 1 + 1 + 1 + 1 + 1 + 1 + 1 + 1 : Addr), o8) :: ((L + 1 + 1 + 1 + 1 + 1 + 1 + 1 : Addr), o7) :: ((L + 1 + 1 + 1 + 1 + 1 + 1 : Addr), o6) :: ((L + 1 + 1 + 1 + 1 + 1 : Addr), o5) :: ((L + 1 + 1 + 1 + 1 : Addr), o4) :: ((L + 1 + 1 + 1 : Addr), o3) :: ((L + 1 + 1 : Addr), o2) :: ((L + 1 : Addr), o1) :: tz) → TupsAre ts (aheadP lap (2 ^ W) c) → (∀ p ∈ ts, p ∈ tz) → (∀ p ∈ tl, p ∈ tz) → m' (Str.ofString "text") = some (.str x t3) → m' (Str.ofString "count") = some (.int ((c : Nat) : Int) t4) → m' (Str.ofString "ahead") = some (.ref Ah) → wpAny (model Challenge.rw_st0007_01.prog w) (lawA L fa cd) (execs rest (lawEnv L fa cd)) Q (fun _ _ => False) { s with heap := h', toks := tk' }), wpAny (model Challenge.rw_st0007_01.prog w) (lawA L fa cd) (execs (lawCut 25 1 ++ rest) (lawEnv L fa cd)) Q (fun _ _ => False) s
namespace law_ahead_K
@[irreducible] noncomputable def pt : Cx := bad fun c => law_ahead_S (c.w 0) (c.me 0) (c.m 0) (c.m 1) (c.h 0) (c.n 0) (c.n 1) (c.v 0) (c.m 2) (c.sh 0) (c.qf 0) (c.lst 0) (c.o 0) (c.o 1) (c.o 2) (c.o 3) (c.o 4) (c.o 5) (c.o 6) (c.o 7) (c.lo 0) (c.n 2) (c.n 3) (c.n 4) (c.n 5) (c.st 0) (c.n 6) (c.n 7) (c.i 0)
@[irreducible] noncomputable def L : Addr := pt.n 0
@[irreducible] noncomputable def o1 : Obj := pt.o 0
@[irreducible] noncomputable def o2 : Obj := pt.o 1
@[irreducible] noncomputable def o3 : Obj := pt.o 2
@[irreducible] noncomputable def o4 : Obj := pt.o 3
@[irreducible] noncomputable def o5 : Obj := pt.o 4
@[irreducible] noncomputable def o6 : Obj := pt.o 5
@[irreducible] noncomputable def o7 : Obj := pt.o 6
@[irreducible] noncomputable def o8 : Obj := pt.o 7
@[irreducible] noncomputable def tl : List (Addr × Obj) := pt.lo 0
@[irreducible] noncomputable def c : Nat := pt.n 6
@[irreducible] noncomputable def W : Nat := pt.n 7
@[irreducible] noncomputable def lap : Int := pt.i 0
theorem main : law_ahead_S (pt.w 0) (pt.me 0) (pt.m 0) (pt.m 1) (pt.h 0) L (pt.n 1) (pt.v 0) (pt.m 2) (pt.sh 0) (pt.qf 0) (pt.lst 0) o1 o2 o3 o4 o5 o6 o7 o8 tl (pt.n 2) (pt.n 3) (pt.n 4) (pt.n 5) (pt.st 0) c W lap := by
  intro B F X T N h105 hc1 hc8 hW ho2 ho4 hmt hmc hret
  have hmk101 := MarkH.mk (n := 101)
  have hmk102 := MarkH.mk (n := 102)
  have hmk106 := MarkH.mk (n := 106)
  rw [show lawCut 25 1 = [_] from rfl]
  revert X; k_fill; intro X
  rw [known_eq hmt, known_eq hmc] at F
  k_steps
  refine Hold.on ?_
  k_dflt (refine' LCg.ListComp_U ?c0 ?c1 ?c2 ?c3 ?c4 ?c5 ?_)
  case c0 => k_asm
  case c1 => exact rfl
  case c2 => decide
  case c3 => rfl
  case c4 => decide
  case c5 => rfl
  lcg_toSrc
  dsimp only
  refine Hold.on ?_
  refine LCg.CompSrc.range (by rfl) (by k_asm) (by k_asm) (by assumption) (range1_small c (by omega)) (n := c - 1) (range1_size c (by omega)) (by rw [sizeLine_eq]; omega) ?_
  intro g9
  try dsimp only
  refine comp_rest (fun i ys nw => ∃ ts tz, nw = ((L + 1 + 1 + 1 + 1 + 1 + 1 + 1 + 1 : Addr), o8) :: ((L + 1 + 1 + 1 + 1 + 1 + 1 + 1 : Addr), o7) :: ((L + 1 + 1 + 1 + 1 + 1 + 1 : Addr), o6) :: ((L + 1 + 1 + 1 + 1 + 1 : Addr), o5) :: ((L + 1 + 1 + 1 + 1 : Addr), o4) :: ((L + 1 + 1 + 1 : Addr), o3) :: ((L + 1 + 1 : Addr), o2) :: ((L + 1 : Addr), o1) :: tz ∧ TupsAre ts ((aheadL lap (2 ^ W) c).take i) ∧ ys = ts.map (fun p => Value.ref p.1) ∧ (∀ p ∈ ts, p ∈ tz) ∧ (∀ p ∈ tl, p ∈ tz)) ⟨[], tl, rfl, .nil, rfl, (fun p hp => absurd hp (by simp)), fun p hp => hp⟩ (fun i' v' I' oI' C' oC' D' m' ys' nw' h' tk' E' hi' hR' hv' hC' hx' F' N' off' ne' => ?_) ?_
  · refine Classical.byContradiction fun hG0 => ?_
    refine exE2 hR' ?_
    try clear hR'
    rintro ts tz hJ0
    refine anE5 hJ0 ?_
    try clear hJ0
    rintro rfl hT rfl hts htl
    refine hG0 ?_
    clear hG0
    obtain ⟨tv, rfl⟩ := hv'
    k_steps
    rename Fr _ _ _ _ => F12
    rename News _ _ _ _ => N12
    rename (@LT.lt Nat _ _ _ ∧ _) => l1
    exact ahead_end F12 N12 off' l1.1 l1.2.1 l1.2.2.1 hT (by unfold aheadL; rw [List.getElem?_map, List.getElem?_range hi']; rfl) hts htl
  rintro ys nw hJ0
  refine Classical.byContradiction fun hG0 => ?_
  refine exE2 hJ0 ?_
  try clear hJ0
  rintro ts tz hJ0
  refine anE5 hJ0 ?_
  try clear hJ0
  rintro rfl hT rfl hts htl
  refine hG0 ?_
  clear hG0
  rintro D9 h9 tk9 F9 N9 off9
  simp only [LCg.Off1, and_true] at off9
  try dsimp only
  have hlt := hT.len
  have hal : (aheadL lap (2 ^ W) c).length = c - 1 := by unfold aheadL; simp
  rw [List.take_of_length_le (Nat.le_of_eq hal)] at hT hlt
  k_steps
  refine Hold.on ?_
  refine wpAny_truthy_list (News.isList N9 (.head _)) (by simp only [List.size_toArray, List.length_map]; omega) ?_
  by_cases h1 : c = 1
  · have hz : ts = [] := List.eq_nil_of_length_eq_zero (by rw [hlt, hal, h1])
    subst hz
    have hap : aheadP lap (2 ^ W) c = [(0, 1)] := by unfold aheadP; rw [if_pos h1]
    rw [show (!((([] : List (Addr × Obj)).map fun p => Value.ref p.1).toArray).isEmpty) = false from rfl]
    k_steps
    try dsimp only
    rename News _ _ _ _ => N12
    have N13 := one_ahead N12
    refine hret _ 0 [(_, tupO #[.int 0 (tk9 + 1 + 1), .int 1 (tk9 + 1 + 1 + 1)] 0)] (_ :: tz) _ _ _ (by assumption) N13 (by rw [hap]; exact .cons _ (0, 1) _ _ .nil) (fun p hp => by rw [List.mem_singleton.mp hp]; exact .head _) (fun p hp => .tail _ (htl p hp)) rfl rfl rfl
  · have hap : aheadP lap (2 ^ W) c = aheadL lap (2 ^ W) c := by unfold aheadP; rw [if_neg h1]
    rw [show (!((ts.map fun p => Value.ref p.1).toArray).isEmpty) = true from by cases ts with | nil => exact absurd (hal.symm.trans hlt.symm) (Nat.sub_ne_zero_of_lt (Nat.lt_of_le_of_ne hc1 (Ne.symm h1))) | cons a r => rfl]
    k_steps
    try dsimp only
    refine hret D9 _ ts tz _ _ _ (by assumption) (by assumption) (by rw [hap]; exact hT) hts htl rfl rfl rfl
end law_ahead_K
theorem law_ahead {w : World} {mean : ExcName → Option Value} {mg mb : Str → Option Value} {base : Heap} {L fa : Addr} {cd : Value} {m : Str → Option Value} {s : Shared} {Q : Flow → Shared → Prop} {rest : List Stmt} {o1 o2 o3 o4 o5 o6 o7 o8 : Obj} {tl : List (Addr × Obj)} {t3 t4 u2 u4 : Tok} {x : Str} {c W : Nat} {lap : Int} : law_ahead_S w mean mg mb base L fa cd m s Q rest o1 o2 o3 o4 o5 o6 o7 o8 tl t3 t4 u2 u4 x c W lap := @by_bad (fun c => law_ahead_S (c.w 0) (c.me 0) (c.m 0) (c.m 1) (c.h 0) (c.n 0) (c.n 1) (c.v 0) (c.m 2) (c.sh 0) (c.qf 0) (c.lst 0) (c.o 0) (c.o 1) (c.o 2) (c.o 3) (c.o 4) (c.o 5) (c.o 6) (c.o 7) (c.lo 0) (c.n 2) (c.n 3) (c.n 4) (c.n 5) (c.st 0) (c.n 6) (c.n 7) (c.i 0)) (by with_unfolding_all exact law_ahead_K.main) { cx0 with n := fromL (0) [L, fa, t3, t4, u2, u4, c, W], i := fromL (0) [lap], st := fromL (Str.empty) [x], o := fromL (default) [o1, o2, o3, o4, o5, o6, o7, o8], lo := fromL ([]) [tl], v := fromL (.none) [cd], m := fromL (fun _ => none) [mg, mb, m], sh := fromL ({}) [s], h := fromL ({}) [base], lst := fromL ([]) [rest], w := fromL (worldZ) [w], me := fromL (fun _ => none) [mean], qf := fromL (fun _ _ => True) [Q] }
end
section
open PyProof.Rows.LCg
@[reducible] noncomputable def law_ab_S (w : World) (mean : ExcName → Option Value) (mg mb : Str → Option Value) (base : Heap) (L fa : Addr) (cd : Value) (m : Str → Option Value) (s : Shared) (Q : Flow → Shared → Prop) (rest : List Stmt) (o1 o2 o3 o4 o5 o6 o7 o8 : Obj) (tz ts : List (Addr × Obj)) (t3 t4 : Tok) (x : Str) (c cc : Nat) (Ah : Addr) : Prop := ∀ {ps : List (Int × Int)} (B : Below callerA base [] base) (F : Fr base L s.heap m) (X : (KX w.params).In base) (T : Top topProg lawLoose mean mg mb base) (N : News base L s.heap ((Ah, W.listOf (ts.map fun p => Value.ref p.1).toArray cc) :: ((L + 1 + 1 + 1 + 1 + 1 + 1 + 1 + 1 : Addr), o8) :: ((L + 1 + 1 + 1 + 1 + 1 + 1 + 1 : Addr), o7) :: ((L + 1 + 1 + 1 + 1 + 1 + 1 : Addr), o6) :: ((L + 1 + 1 + 1 + 1 + 1 : Addr), o5) :: ((L + 1 + 1 + 1 + 1 : Addr), o4) :: ((L + 1 + 1 + 1 : Addr), o3) :: ((L + 1 + 1 : Addr), o2) :: ((L + 1 : Addr), o1) :: tz)) (h105 : @LT.lt Nat _ 105 L) (hT : TupsAre ts ps) (hts : ∀ p ∈ ts, p ∈ tz) (hps : 0 < ps.length) (hmt : m (Str.ofString "text") = some (.str x t3)) (hmc : m (Str.ofString "count") = some (.int ((c : Nat) : Int) t4)) (hma : m (Str.ofString "ahead") = some (.ref Ah)) (hret : ∀ (ta tb : Tok) (m' : Str → Option Value) (h' : Heap) (tk' : Nat), Fr base L h' m' → News base L h' (((L + 1 + 1 + 1 + 1 + 1 + 1 + 1 + 1 : Addr), o8) :: ((L + 1 + 1 + 1 + 1 + 1 + 1 + 1 : Addr), o7) :: ((L + 1 + 1 + 1 + 1 + 1 + 1 : Addr), o6) :: ((L + 1 + 1 + 1 + 1 + 1 : Addr), o5) :: ((L + 1 + 1 + 1 + 1 : Addr), o4) :: ((L + 1 + 1 + 1 : Addr), o3) :: ((L + 1 + 1 : Addr), o2) :: ((L + 1 : Addr), o1) :: tz) → m' (Str.ofString "text") = some (.str x t3) → m' (Str.ofString "count") = some (.int ((c : Nat) : Int) t4) → m' (Str.ofString "a") = some (.int (leastP ps).2 ta) → m' (Str.ofString "b") = some (.int (mostP ps).2 tb) → wpAny (model Challenge.rw_st0007_01.prog w) (lawA L fa cd) (execs rest (lawEnv L fa cd)) Q (fun _ _ => False) { s with heap := h', toks := tk' }), wpAny (model Challenge.rw_st0007_01.prog w) (lawA L fa cd) (execs (lawCut 26 1 ++ rest) (lawEnv L fa cd)) Q (fun _ _ => False) s
namespace law_ab_K
@[irreducible] noncomputable def pt : Cx := bad fun c => law_ab_S (c.w 0) (c.me 0) (c.m 0) (c.m 1) (c.h 0) (c.n 0) (c.n 1) (c.v 0) (c.m 2) (c.sh 0) (c.qf 0) (c.lst 0) (c.o 0) (c.o 1) (c.o 2) (c.o 3) (c.o 4) (c.o 5) (c.o 6) (c.o 7) (c.lo 0) (c.lo 1) (c.n 2) (c.n 3) (c.st 0) (c.n 4) (c.n 5) (c.n 6)
theorem main : law_ab_S (pt.w 0) (pt.me 0) (pt.m 0) (pt.m 1) (pt.h 0) (pt.n 0) (pt.n 1) (pt.v 0) (pt.m 2) (pt.sh 0) (pt.qf 0) (pt.lst 0) (pt.o 0) (pt.o 1) (pt.o 2) (pt.o 3) (pt.o 4) (pt.o 5) (pt.o 6) (pt.o 7) (pt.lo 0) (pt.lo 1) (pt.n 2) (pt.n 3) (pt.st 0) (pt.n 4) (pt.n 5) (pt.n 6) := by
  intro ps B F X T N h105 hT hts hps hmt hmc hma hret
  have hmk101 := MarkH.mk (n := 101)
  have hmk102 := MarkH.mk (n := 102)
  have hmk108 := MarkH.mk (n := 108)
  have hmk109 := MarkH.mk (n := 109)
  rw [show lawCut 26 1 = [_] from rfl]
  revert X; k_fill; intro X
  rw [known_eq hmt, known_eq hmc, known_eq hma] at F
  k_steps
  refine Hold.on ?_
  rename Fr _ _ _ _ => F1
  rename News _ _ _ _ => N1
  refine min_led (by rfl) (by ktr_units) F1 N1 (.head _) (fun p hp => by repeat (first | exact hts p hp | refine List.mem_cons_of_mem _ ?_)) hT hps (fun a1 ta ua h1 tk1 F2 N2 => ?_)
  try dsimp only
  k_steps
  refine Hold.on ?_
  rename Fr _ _ _ _ => F3
  rename News _ _ _ _ => N3
  refine max_led (by rfl) (by ktr_units) F3 N3 (.tail _ (.head _)) (fun p hp => by repeat (first | exact hts p hp | refine List.mem_cons_of_mem _ ?_)) hT hps (fun a2 tb ub h2 tk2 F4 N4 => ?_)
  try dsimp only
  k_steps
  try dsimp only
  (refine' hret _ _ _ _ _ ?gF ?gN ?g1 ?g2 ?g3 ?g4; (case gF => assumption); (case gN => (first | assumption | exact cb_drop (by assumption) (by kcj_all))); (case g1 => exact rfl); (case g2 => exact rfl); (case g3 => exact rfl); (case g4 => exact rfl))
end law_ab_K
theorem law_ab {w : World} {mean : ExcName → Option Value} {mg mb : Str → Option Value} {base : Heap} {L fa : Addr} {cd : Value} {m : Str → Option Value} {s : Shared} {Q : Flow → Shared → Prop} {rest : List Stmt} {o1 o2 o3 o4 o5 o6 o7 o8 : Obj} {tz ts : List (Addr × Obj)} {t3 t4 : Tok} {x : Str} {c cc : Nat} {Ah : Addr} : law_ab_S w mean mg mb base L fa cd m s Q rest o1 o2 o3 o4 o5 o6 o7 o8 tz ts t3 t4 x c cc Ah := @by_bad (fun c => law_ab_S (c.w 0) (c.me 0) (c.m 0) (c.m 1) (c.h 0) (c.n 0) (c.n 1) (c.v 0) (c.m 2) (c.sh 0) (c.qf 0) (c.lst 0) (c.o 0) (c.o 1) (c.o 2) (c.o 3) (c.o 4) (c.o 5) (c.o 6) (c.o 7) (c.lo 0) (c.lo 1) (c.n 2) (c.n 3) (c.st 0) (c.n 4) (c.n 5) (c.n 6)) (by with_unfolding_all exact law_ab_K.main) { cx0 with n := fromL (0) [L, fa, t3, t4, c, cc, Ah], st := fromL (Str.empty) [x], o := fromL (default) [o1, o2, o3, o4, o5, o6, o7, o8], lo := fromL ([]) [tz, ts], v := fromL (.none) [cd], m := fromL (fun _ => none) [mg, mb, m], sh := fromL ({}) [s], h := fromL ({}) [base], lst := fromL ([]) [rest], w := fromL (worldZ) [w], me := fromL (fun _ => none) [mean], qf := fromL (fun _ _ => True) [Q] }
end
section
open PyProof.Rows.LCg
noncomputable def atL (fi lap wh : Int) (c : Nat) : List (Int × Int) := (List.range c).map fun i : Nat => ((fi + (i : Int) * lap).fmod wh, (i : Int))
@[reducible] noncomputable def law_at_S (w : World) (mean : ExcName → Option Value) (mg mb : Str → Option Value) (base : Heap) (L fa : Addr) (cd : Value) (m : Str → Option Value) (s : Shared) (Q : Flow → Shared → Prop) (rest : List Stmt) (o1 o2 o3 o4 o5 o6 o7 o8 : Obj) (tl : List (Addr × Obj)) (t3 t4 ta tb u2 u3 u4 : Tok) (x : Str) (c W : Nat) (lap fi aa bb : Int) : Prop := ∀ (B : Below callerA base [] base) (F : Fr base L s.heap m) (X : (KX w.params).In base) (T : Top topProg lawLoose mean mg mb base) (N : News base L s.heap (((L + 1 + 1 + 1 + 1 + 1 + 1 + 1 + 1 : Addr), o8) :: ((L + 1 + 1 + 1 + 1 + 1 + 1 + 1 : Addr), o7) :: ((L + 1 + 1 + 1 + 1 + 1 + 1 : Addr), o6) :: ((L + 1 + 1 + 1 + 1 + 1 : Addr), o5) :: ((L + 1 + 1 + 1 + 1 : Addr), o4) :: ((L + 1 + 1 + 1 : Addr), o3) :: ((L + 1 + 1 : Addr), o2) :: ((L + 1 : Addr), o1) :: tl)) (h105 : @LT.lt Nat _ 105 L) (hc1 : 1 ≤ c) (hc8 : c ≤ 8) (hW : 3 ≤ W) (ho2 : o2.data = .cell (some (.int (2 ^ W) u2))) (ho3 : o3.data = .cell (some (.int fi u3))) (ho4 : o4.data = .cell (some (.int lap u4))) (hmt : m (Str.ofString "text") = some (.str x t3)) (hmc : m (Str.ofString "count") = some (.int ((c : Nat) : Int) t4)) (hma : m (Str.ofString "a") = some (.int aa ta)) (hmb : m (Str.ofString "b") = some (.int bb tb)) (hret : ∀ (Du : Addr) (t9 : Tok) (dc : Nat) (m' : Str → Option Value) (h' : Heap) (tk' : Nat), Fr base L h' m' → News base L h' ((Du, PySem.W.listOf #[] dc) :: ((L + 1 + 1 + 1 + 1 + 1 + 1 + 1 + 1 : Addr), o8) :: ((L + 1 + 1 + 1 + 1 + 1 + 1 + 1 : Addr), o7) :: ((L + 1 + 1 + 1 + 1 + 1 + 1 : Addr), o6) :: ((L + 1 + 1 + 1 + 1 + 1 : Addr), o5) :: ((L + 1 + 1 + 1 + 1 : Addr), o4) :: ((L + 1 + 1 + 1 : Addr), o3) :: ((L + 1 + 1 : Addr), o2) :: ((L + 1 : Addr), o1) :: tl) → AllLt Du (((L + 1 + 1 + 1 + 1 + 1 + 1 + 1 + 1 : Addr), o8) :: ((L + 1 + 1 + 1 + 1 + 1 + 1 + 1 : Addr), o7) :: ((L + 1 + 1 + 1 + 1 + 1 + 1 : Addr), o6) :: ((L + 1 + 1 + 1 + 1 + 1 : Addr), o5) :: ((L + 1 + 1 + 1 + 1 : Addr), o4) :: ((L + 1 + 1 + 1 : Addr), o3) :: ((L + 1 + 1 : Addr), o2) :: ((L + 1 : Addr), o1) :: tl)  → m' (Str.ofString "text") = some (.str x t3) → m' (Str.ofString "count") = some (.int ((c : Nat) : Int) t4) → m' (Str.ofString "a") = some (.int aa ta) → m' (Str.ofString "b") = some (.int bb tb) → m' (Str.ofString "at") = some (.int (leastP (atL fi lap (2 ^ W) c)).2 t9) → m' (Str.ofString "due") = some (.ref Du) → wpAny (model Challenge.rw_st0007_01.prog w) (lawA L fa cd) (execs rest (lawEnv L fa cd)) Q (fun _ _ => False) { s with heap := h', toks := tk' }), wpAny (model Challenge.rw_st0007_01.prog w) (lawA L fa cd) (execs (lawCut 27 2 ++ rest) (lawEnv L fa cd)) Q (fun _ _ => False) s
namespace law_at_K
@[irreducible] noncomputable def pt : Cx := bad fun c => law_at_S (c.w 0) (c.me 0) (c.m 0) (c.m 1) (c.h 0) (c.n 0) (c.n 1) (c.v 0) (c.m 2) (c.sh 0) (c.qf 0) (c.lst 0) (c.o 0) (c.o 1) (c.o 2) (c.o 3) (c.o 4) (c.o 5) (c.o 6) (c.o 7) (c.lo 0) (c.n 2) (c.n 3) (c.n 4) (c.n 5) (c.n 6) (c.n 7) (c.n 8) (c.st 0) (c.n 9) (c.n 10) (c.i 0) (c.i 1) (c.i 2) (c.i 3)
@[irreducible] noncomputable def base : Heap := pt.h 0
@[irreducible] noncomputable def L : Addr := pt.n 0
@[irreducible] noncomputable def o1 : Obj := pt.o 0
@[irreducible] noncomputable def o2 : Obj := pt.o 1
@[irreducible] noncomputable def o3 : Obj := pt.o 2
@[irreducible] noncomputable def o4 : Obj := pt.o 3
@[irreducible] noncomputable def o5 : Obj := pt.o 4
@[irreducible] noncomputable def o6 : Obj := pt.o 5
@[irreducible] noncomputable def o7 : Obj := pt.o 6
@[irreducible] noncomputable def o8 : Obj := pt.o 7
@[irreducible] noncomputable def tl : List (Addr × Obj) := pt.lo 0
@[irreducible] noncomputable def ta : Tok := pt.n 4
@[irreducible] noncomputable def c : Nat := pt.n 9
@[irreducible] noncomputable def W : Nat := pt.n 10
@[irreducible] noncomputable def lap : Int := pt.i 0
@[irreducible] noncomputable def fi : Int := pt.i 1
theorem main : law_at_S (pt.w 0) (pt.me 0) (pt.m 0) (pt.m 1) base L (pt.n 1) (pt.v 0) (pt.m 2) (pt.sh 0) (pt.qf 0) (pt.lst 0) o1 o2 o3 o4 o5 o6 o7 o8 tl (pt.n 2) (pt.n 3) ta (pt.n 5) (pt.n 6) (pt.n 7) (pt.n 8) (pt.st 0) c W lap fi (pt.i 2) (pt.i 3) := by
  intro B F X T N h105 hc1 hc8 hW ho2 ho3 ho4 hmt hmc hma hmb hret
  have hmk101 := MarkH.mk (n := 101)
  have hmk102 := MarkH.mk (n := 102)
  have hmk108 := MarkH.mk (n := 108)
  rw [show lawCut 27 2 = [_, _] from rfl]
  revert X; k_fill; intro X
  rw [known_eq hmt, known_eq hmc, known_eq hma, known_eq hmb] at F
  k_steps
  refine Hold.on ?_
  k_dflt (refine' LCg.ListComp_U ?c0 ?c1 ?c2 ?c3 ?c4 ?c5 ?_)
  case c0 => k_asm
  case c1 => exact rfl
  case c2 => decide
  case c3 => rfl
  case c4 => decide
  case c5 => rfl
  lcg_toSrc
  try dsimp only
  refine Hold.on ?_
  refine LCg.CompSrc.range (by rfl) (by k_asm) (by k_asm) (by assumption) (range_small c (by omega)) (n := c) (range_size c (by omega)) (by rw [sizeLine_eq]; omega) ?_
  intro g9
  try dsimp only
  refine comp_rest (fun i ys nw => ∃ ts tz, nw = ((L + 1 + 1 + 1 + 1 + 1 + 1 + 1 + 1 : Addr), o8) :: ((L + 1 + 1 + 1 + 1 + 1 + 1 + 1 : Addr), o7) :: ((L + 1 + 1 + 1 + 1 + 1 + 1 : Addr), o6) :: ((L + 1 + 1 + 1 + 1 + 1 : Addr), o5) :: ((L + 1 + 1 + 1 + 1 : Addr), o4) :: ((L + 1 + 1 + 1 : Addr), o3) :: ((L + 1 + 1 : Addr), o2) :: ((L + 1 : Addr), o1) :: tz ∧ TupsAre ts ((atL fi lap (2 ^ W) c).take i) ∧ ys = ts.map (fun p => Value.ref p.1) ∧ (∀ p ∈ ts, p ∈ tz) ∧ (∀ p ∈ tl, p ∈ tz)) ⟨[], tl, rfl, .nil, rfl, (fun p hp => absurd hp (by simp)), fun p hp => hp⟩ (fun i' v' I' oI' C' oC' D' m' ys' nw' h' tk' E' hi' hR' hv' hC' hx' F' N' off' ne' => ?_) ?_
  · refine Classical.byContradiction fun hG0 => ?_
    refine exE2 hR' ?_
    try clear hR'
    rintro ts tz hJ0
    refine anE5 hJ0 ?_
    try clear hJ0
    rintro rfl hT rfl hts htl
    refine hG0 ?_
    clear hG0
    obtain ⟨tv, rfl⟩ := hv'
    rw [Int.zero_add] at hx'
    k_steps
    rename Fr _ _ _ _ => F12
    rename News _ _ _ _ => N12
    rename (@LT.lt Nat _ _ _ ∧ _) => l1
    exact ahead_end F12 N12 off' l1.1 l1.2.1 l1.2.2.1 hT (by unfold atL; rw [List.getElem?_map, List.getElem?_range hi']; rfl) hts htl
  rintro ys nw hJ0
  refine Classical.byContradiction fun hG0 => ?_
  refine exE2 hJ0 ?_
  try clear hJ0
  rintro ts tz hJ0
  refine anE5 hJ0 ?_
  try clear hJ0
  rintro rfl hT rfl hts htl
  refine hG0 ?_
  clear hG0
  rintro D9 h9 tk9 F9 N9 off9
  simp only [LCg.Off1, and_true] at off9
  have hal : (atL fi lap (2 ^ W) c).length = c := by unfold atL; simp
  rw [List.take_of_length_le (by omega)] at hT
  try dsimp only
  k_steps
  refine Hold.on ?_
  rename Fr _ _ _ _ => F3
  rename News _ _ _ _ => N3
  refine min_led (by rfl) (by ktr_units) F3 N3 (.head _) (fun p hp => by repeat (first | exact hts p hp | refine List.mem_cons_of_mem _ ?_)) hT (by omega) (fun a1 ta ua h1 tk1 F2 N2 => ?_)
  try dsimp only
  replace N2 : News base L h1 ((a1, tupO #[.int (leastP (atL fi lap (2 ^ W) c)).1 ta, .int (leastP (atL fi lap (2 ^ W) c)).2 ua] 0) :: ((L + 1 + 1 + 1 + 1 + 1 + 1 + 1 + 1 : Addr), o8) :: ((L + 1 + 1 + 1 + 1 + 1 + 1 + 1 : Addr), o7) :: ((L + 1 + 1 + 1 + 1 + 1 + 1 : Addr), o6) :: ((L + 1 + 1 + 1 + 1 + 1 : Addr), o5) :: ((L + 1 + 1 + 1 + 1 : Addr), o4) :: ((L + 1 + 1 + 1 : Addr), o3) :: ((L + 1 + 1 : Addr), o2) :: ((L + 1 : Addr), o1) :: tl) := fun p hp => N2 p (mem_1t (X := [_]) (C := [_, _, _, _, _, _, _, _]) (htl p) hp)
  clear N3 F3
  k_steps
  try dsimp only
  rename (@LT.lt Nat _ _ _ ∧ _) => l1
  (refine' hret _ _ _ _ _ _ ?gF ?gN ?gA ?g1 ?g2 ?g3 ?g4 ?g5 ?g6; (case gF => assumption); (case g6 => exact rfl); (case gN => (first | assumption | exact cb_drop (by assumption) (by kcj_all))); (case gA => exact l1.2); (case g1 => exact rfl); (case g2 => exact rfl); (case g3 => exact rfl); (case g4 => exact rfl); (case g5 => exact rfl))
end law_at_K
theorem law_at {w : World} {mean : ExcName → Option Value} {mg mb : Str → Option Value} {base : Heap} {L fa : Addr} {cd : Value} {m : Str → Option Value} {s : Shared} {Q : Flow → Shared → Prop} {rest : List Stmt} {o1 o2 o3 o4 o5 o6 o7 o8 : Obj} {tl : List (Addr × Obj)} {t3 t4 ta tb u2 u3 u4 : Tok} {x : Str} {c W : Nat} {lap fi aa bb : Int} : law_at_S w mean mg mb base L fa cd m s Q rest o1 o2 o3 o4 o5 o6 o7 o8 tl t3 t4 ta tb u2 u3 u4 x c W lap fi aa bb := @by_bad (fun c => law_at_S (c.w 0) (c.me 0) (c.m 0) (c.m 1) (c.h 0) (c.n 0) (c.n 1) (c.v 0) (c.m 2) (c.sh 0) (c.qf 0) (c.lst 0) (c.o 0) (c.o 1) (c.o 2) (c.o 3) (c.o 4) (c.o 5) (c.o 6) (c.o 7) (c.lo 0) (c.n 2) (c.n 3) (c.n 4) (c.n 5) (c.n 6) (c.n 7) (c.n 8) (c.st 0) (c.n 9) (c.n 10) (c.i 0) (c.i 1) (c.i 2) (c.i 3)) (by with_unfolding_all exact law_at_K.main) { cx0 with n := fromL (0) [L, fa, t3, t4, ta, tb, u2, u3, u4, c, W], i := fromL (0) [lap, fi, aa, bb], st := fromL (Str.empty) [x], o := fromL (default) [o1, o2, o3, o4, o5, o6, o7, o8], lo := fromL ([]) [tl], v := fromL (.none) [cd], m := fromL (fun _ => none) [mg, mb, m], sh := fromL ({}) [s], h := fromL ({}) [base], lst := fromL ([]) [rest], w := fromL (worldZ) [w], me := fromL (fun _ => none) [mean], qf := fromL (fun _ _ => True) [Q] }
end
section
local macro_rules | `(tactic| omega) => `(tactic| first | (with_reducible kas_types) | lia)
open PyProof.Rows.LCg
noncomputable def dueBody : List Stmt := match lawBody.getD 29 default with | .For _ _ b _ _ => b | _ => []
noncomputable def stepI (c aa bb at' : Int) : Int := if at' + aa < c then at' + aa else if at' ≥ bb then at' - bb else at' + aa - bb
theorem stepI_1 {c aa bb k : Int} (h : k + aa < c) : stepI c aa bb k = k + aa := by unfold stepI; rw [if_pos h]
theorem stepI_2 {c aa bb k : Int} (h : ¬ k + aa < c) (h2 : bb ≤ k) : stepI c aa bb k = k - bb := by unfold stepI; rw [if_neg h, if_pos h2]
theorem stepI_3 {c aa bb k : Int} (h : ¬ k + aa < c) (h2 : ¬ bb ≤ k) : stepI c aa bb k = k + aa - bb := by unfold stepI; rw [if_neg h, if_neg h2]
theorem str_ext {a b : Str} (h : a.cps.toList = b.cps.toList) : a = b := by
  cases a; cases b
  congr 1
  exact Array.toList_inj.mp h
theorem due_0 {p : Int} {nm : Str} {k : Nat} (h : nm = Str.empty) (h2 : k % 2 = 0) : numT p ++ Str.ofString "" = keyT p nm k := by
  rw [keyT_0 h h2]
  refine str_ext ?_
  rw [cps_append, show (Str.ofString "").cps.toList = [] from by decide +kernel, List.append_nil]
theorem due_1 {p : Int} {nm : Str} {k : Nat} (h : nm = Str.empty) (h2 : k % 2 = 1) : numT p ++ (Str.ofString "." ++ nm) = keyT p nm k := by
  rw [keyT_1 h h2, h]
  refine str_ext ?_
  rw [cps_append, cps_append, cps_append, cps_append, List.append_assoc]
  congr 2
theorem due_2 {p : Int} {nm : Str} {k : Nat} (h : nm ≠ Str.empty) : numT p ++ (Str.ofString "." ++ nm) = keyT p nm k := by
  rw [keyT_2 h]
  refine str_ext ?_
  rw [cps_append, cps_append, cps_append, cps_append, List.append_assoc]
@[reducible] noncomputable def due_turn_S (w : World) (mean : ExcName → Option Value) (mg mb : Str → Option Value) (base : Heap) (L fa : Addr) (cd : Value) (m : Str → Option Value) (s : Shared) (Q : Flow → Shared → Prop) (rest : List Stmt) (o1 o2 o3 o4 o5 o6 o7 o8 : Obj) (tl : List (Addr × Obj)) (Nn Du : Addr) (ns ys : List Value) (nl : List Str) (t3 t4 t9 ta tb u2 u3 u4 u6 : Tok) (x : Str) (c dc kn W : Nat) (lap fi aa bb : Int) : Prop := ∀ (B : Below callerA base [] base) (F : Fr base L s.heap m) (X : (KX w.params).In base) (T : Top topProg lawLoose mean mg mb base) (N : News base L s.heap ((Du, PySem.W.listOf ys.toArray dc) :: (Nn, LCg.lst ns) :: ((L + 1 + 1 + 1 + 1 + 1 + 1 + 1 + 1 : Addr), o8) :: ((L + 1 + 1 + 1 + 1 + 1 + 1 + 1 : Addr), o7) :: ((L + 1 + 1 + 1 + 1 + 1 + 1 : Addr), o6) :: ((L + 1 + 1 + 1 + 1 + 1 : Addr), o5) :: ((L + 1 + 1 + 1 + 1 : Addr), o4) :: ((L + 1 + 1 + 1 : Addr), o3) :: ((L + 1 + 1 : Addr), o2) :: ((L + 1 : Addr), o1) :: tl)) (h105 : @LT.lt Nat _ 105 L) (hDu : ∀ p ∈ tl, p.1 ≠ Du) (hLD : @LT.lt Nat _ (L + 8) Du) (hND : @LT.lt Nat _ Nn Du) (hyl : ys.length ≤ 20) (hk8 : kn < 8) (hns : StrsAre ns nl) (hnl : ∀ y ∈ nl, y.length ≤ 100) (hn8 : nl.length = 8) (hW : 3 ≤ W) (hW20 : W ≤ 20) (ho2 : o2.data = .cell (some (.int (2 ^ W) u2))) (ho3 : o3.data = .cell (some (.int fi u3))) (ho4 : o4.data = .cell (some (.int lap u4))) (ho6 : o6.data = .cell (some (.ref Nn))) (hmt : m (Str.ofString "text") = some (.str x t3)) (hmc : m (Str.ofString "count") = some (.int ((c : Nat) : Int) t4)) (hma : m (Str.ofString "a") = some (.int aa ta)) (hmb : m (Str.ofString "b") = some (.int bb tb)) (hmd : m (Str.ofString "due") = some (.ref Du)) (hm9 : m (Str.ofString "at") = some (.int ((kn : Nat) : Int) t9)) (hret : ∀ (t8 t9 : Tok) (dc : Nat) (m' : Str → Option Value) (h' : Heap) (tk' : Nat), Fr base L h' m' → News base L h' ((Du, PySem.W.listOf (ys ++ [Value.str (keyT ((fi + (kn : Int) * lap).fmod (2 ^ W)) (nl.getD kn Str.empty) kn) t8]).toArray dc) :: (Nn, LCg.lst ns) :: ((L + 1 + 1 + 1 + 1 + 1 + 1 + 1 + 1 : Addr), o8) :: ((L + 1 + 1 + 1 + 1 + 1 + 1 + 1 : Addr), o7) :: ((L + 1 + 1 + 1 + 1 + 1 + 1 : Addr), o6) :: ((L + 1 + 1 + 1 + 1 + 1 : Addr), o5) :: ((L + 1 + 1 + 1 + 1 : Addr), o4) :: ((L + 1 + 1 + 1 : Addr), o3) :: ((L + 1 + 1 : Addr), o2) :: ((L + 1 : Addr), o1) :: tl)  → m' (Str.ofString "text") = some (.str x t3) → m' (Str.ofString "count") = some (.int ((c : Nat) : Int) t4) → m' (Str.ofString "a") = some (.int aa ta) → m' (Str.ofString "b") = some (.int bb tb) → m' (Str.ofString "due") = some (.ref Du) → m' (Str.ofString "at") = some (.int (stepI c aa bb kn) t9) → wpAny (model Challenge.rw_st0007_01.prog w) (lawA L fa cd) (execs rest (lawEnv L fa cd)) Q (fun _ _ => False) { s with heap := h', toks := tk' }), wpAny (model Challenge.rw_st0007_01.prog w) (lawA L fa cd) (execs (dueBody ++ rest) (lawEnv L fa cd)) Q (fun _ _ => False) s
namespace due_turn_K
@[irreducible] noncomputable def pt : Cx := bad fun c => due_turn_S (c.w 0) (c.me 0) (c.m 0) (c.m 1) (c.h 0) (c.n 0) (c.n 1) (c.v 0) (c.m 2) (c.sh 0) (c.qf 0) (c.lst 0) (c.o 0) (c.o 1) (c.o 2) (c.o 3) (c.o 4) (c.o 5) (c.o 6) (c.o 7) (c.lo 0) (c.n 2) (c.n 3) (c.lv 0) (c.lv 1) (c.ls 0) (c.n 4) (c.n 5) (c.n 6) (c.n 7) (c.n 8) (c.n 9) (c.n 10) (c.n 11) (c.n 12) (c.st 0) (c.n 13) (c.n 14) (c.n 15) (c.n 16) (c.i 0) (c.i 1) (c.i 2) (c.i 3)
@[irreducible] noncomputable def nl : List Str := pt.ls 0
@[irreducible] noncomputable def c : Nat := pt.n 13
@[irreducible] noncomputable def kn : Nat := pt.n 15
@[irreducible] noncomputable def W : Nat := pt.n 16
@[irreducible] noncomputable def lap : Int := pt.i 0
@[irreducible] noncomputable def fi : Int := pt.i 1
@[irreducible] noncomputable def aa : Int := pt.i 2
@[irreducible] noncomputable def bb : Int := pt.i 3
theorem main : due_turn_S (pt.w 0) (pt.me 0) (pt.m 0) (pt.m 1) (pt.h 0) (pt.n 0) (pt.n 1) (pt.v 0) (pt.m 2) (pt.sh 0) (pt.qf 0) (pt.lst 0) (pt.o 0) (pt.o 1) (pt.o 2) (pt.o 3) (pt.o 4) (pt.o 5) (pt.o 6) (pt.o 7) (pt.lo 0) (pt.n 2) (pt.n 3) (pt.lv 0) (pt.lv 1) nl (pt.n 4) (pt.n 5) (pt.n 6) (pt.n 7) (pt.n 8) (pt.n 9) (pt.n 10) (pt.n 11) (pt.n 12) (pt.st 0) c (pt.n 14) kn W lap fi aa bb := by
  intro B F X T N h105 hDu hLD hND hyl hk8 hns hnl hn8 hW hW20 ho2 ho3 ho4 ho6 hmt hmc hma hmb hmd hm9 hret
  have hmk101 := MarkH.mk (n := 101)
  have hmk102 := MarkH.mk (n := 102)
  have hmk105 := MarkH.mk (n := 105)
  have hmk107 := MarkH.mk (n := 107)
  rw [show dueBody = [_, _] from rfl]
  revert X; k_fill; intro X
  rw [known_eq hmt, known_eq hmc, known_eq hma, known_eq hmb, known_eq hmd, known_eq hm9] at F
  have hlen : (nl.getD kn Str.empty).length ≤ 100 := by
    rw [List.getD_eq_getElem?_getD, List.getElem?_eq_getElem (by omega)]
    exact hnl _ (List.getElem_mem _)
  have hlen' : (nl.getD ((kn : Int)).toNat Str.empty).length ≤ 100 := by rw [show ((kn : Int)).toNat = kn from by omega]; exact hlen
  have hkt : ((kn : Int)).toNat = kn := by omega
  have hw1 : (1 : Int) ≤ 2 ^ W := Int.pow_pos (by omega)
  have hw2 : (2 : Int) ^ W ≤ 1048576 := by
    have := Nat.pow_le_pow_right (n := 2) (by decide) hW20
    have e : ((2 ^ W : Nat) : Int) = (2 : Int) ^ W := by simp
    omega
  have h0p : 0 ≤ (fi + (kn : Int) * lap).fmod (2 ^ W) := by rw [Int.fmod_eq_emod_of_nonneg _ (by omega)]; exact Int.emod_nonneg _ (by omega)
  have hpm : (fi + (kn : Int) * lap).fmod (2 ^ W) < 1048576 := by
    rw [Int.fmod_eq_emod_of_nonneg _ (by omega)]
    exact Int.lt_of_lt_of_le (Int.emod_lt_of_pos _ (by omega)) hw2
  k_steps
  refine Hold.on ?_
  have hten : (10 : Int) ^ Int.toNat 7 = 10000000 := by decide
  rw [hten]
  refine' str_of_int_fit (N := 20000000) ?kst (by decide) (fun _ => ?_)
  case kst => split <;> omega
  have hz8 : (Str.ofString (toString (10000000 + (fi + (kn : Int) * lap).fmod (2 ^ W)))).length = 8 := numT_len h0p hpm
  generalize hpp : (fi + (kn : Int) * lap).fmod (2 ^ W) = p at *
  generalize hzz : Str.ofString (toString (10000000 + p)) = z at hz8
  k_steps
  refine Hold.on ?_
  rw [hkt]
  by_cases hnm : nl.getD kn Str.empty = Str.empty
  · refine P.truthy_str (by rw [hnm]; decide) ?_
    rw [show (((nl.getD kn Str.empty).length : Int) != 0) = false from by rw [hnm]; rfl]
    rcases (show kn % 2 = 0 ∨ kn % 2 = 1 by omega) with h2 | h2
    · have hf : Int.fmod (kn : Int) 2 = 0 := by rw [Int.fmod_eq_emod_of_nonneg _ (by decide)]; omega
      k_steps
      all_goals try dsimp only
      all_goals first
        | (exfalso; exact absurd hf (by assumption))
        | (rename News _ _ _ _ => N9
           rw [List.push_toArray, show z ++ Str.ofString "" = keyT p (nl.getD kn Str.empty) kn from by rw [← hzz]; exact due_0 hnm h2] at N9
           first | (have hst := stepI_1 (c := (c : Int)) (aa := aa) (bb := bb) (k := (kn : Int)) (by with_reducible assumption); rw [hst] at hret; clear hst) | (have hst := stepI_2 (c := (c : Int)) (aa := aa) (bb := bb) (k := (kn : Int)) (by with_reducible assumption) (by with_reducible assumption); rw [hst] at hret; clear hst) | (have hst := stepI_3 (c := (c : Int)) (aa := aa) (bb := bb) (k := (kn : Int)) (by with_reducible assumption) (by with_reducible assumption); rw [hst] at hret; clear hst)
           (refine' hret _ _ _ _ _ _ ?gF ?gN ?g0 ?g1 ?g2 ?g3 ?g4 ?gk; (case gF => with_reducible assumption); (case gN => (first | assumption | exact cb_drop (by assumption) (by kcj_all))); (case g0 => exact rfl); (case g1 => exact rfl); (case g2 => exact rfl); (case g3 => exact rfl); (case g4 => exact rfl); (case gk => exact rfl)))
    · have hf : Int.fmod (kn : Int) 2 = 1 := by rw [Int.fmod_eq_emod_of_nonneg _ (by decide)]; omega
      k_steps
      all_goals try dsimp only
      all_goals first
        | (exfalso; rename (Int.fmod _ _ = 0) => h9; rw [hf] at h9; exact absurd h9 (by decide))
        | (rename News _ _ _ _ => N9
           rw [List.push_toArray, hkt, show z ++ (Str.ofString "." ++ nl.getD kn Str.empty) = keyT p (nl.getD kn Str.empty) kn from by rw [← hzz]; exact due_1 hnm h2] at N9
           first | (have hst := stepI_1 (c := (c : Int)) (aa := aa) (bb := bb) (k := (kn : Int)) (by with_reducible assumption); rw [hst] at hret; clear hst) | (have hst := stepI_2 (c := (c : Int)) (aa := aa) (bb := bb) (k := (kn : Int)) (by with_reducible assumption) (by with_reducible assumption); rw [hst] at hret; clear hst) | (have hst := stepI_3 (c := (c : Int)) (aa := aa) (bb := bb) (k := (kn : Int)) (by with_reducible assumption) (by with_reducible assumption); rw [hst] at hret; clear hst)
           (refine' hret _ _ _ _ _ _ ?gF ?gN ?g0 ?g1 ?g2 ?g3 ?g4 ?gk; (case gF => with_reducible assumption); (case gN => (first | assumption | exact cb_drop (by assumption) (by kcj_all))); (case g0 => exact rfl); (case g1 => exact rfl); (case g2 => exact rfl); (case g3 => exact rfl); (case g4 => exact rfl); (case gk => exact rfl)))
  · refine P.truthy_str (by omega) ?_
    rw [show (((nl.getD kn Str.empty).length : Int) != 0) = true from bne_iff_ne.mpr (by have := empty_len hnm; omega)]
    k_steps
    all_goals try dsimp only
    all_goals first
      | (fail)
      | (rename News _ _ _ _ => N9
         rw [List.push_toArray, hkt, show z ++ (Str.ofString "." ++ nl.getD kn Str.empty) = keyT p (nl.getD kn Str.empty) kn from by rw [← hzz]; exact due_2 hnm] at N9
         first | (have hst := stepI_1 (c := (c : Int)) (aa := aa) (bb := bb) (k := (kn : Int)) (by with_reducible assumption); rw [hst] at hret; clear hst) | (have hst := stepI_2 (c := (c : Int)) (aa := aa) (bb := bb) (k := (kn : Int)) (by with_reducible assumption) (by with_reducible assumption); rw [hst] at hret; clear hst) | (have hst := stepI_3 (c := (c : Int)) (aa := aa) (bb := bb) (k := (kn : Int)) (by with_reducible assumption) (by with_reducible assumption); rw [hst] at hret; clear hst)
         (refine' hret _ _ _ _ _ _ ?gF ?gN ?g0 ?g1 ?g2 ?g3 ?g4 ?gk; (case gF => with_reducible assumption); (case gN => (first | assumption | exact cb_drop (by assumption) (by kcj_all))); (case g0 => exact rfl); (case g1 => exact rfl); (case g2 => exact rfl); (case g3 => exact rfl); (case g4 => exact rfl); (case gk => exact rfl)))
end due_turn_K
theorem due_turn {w : World} {mean : ExcName → Option Value} {mg mb : Str → Option Value} {base : Heap} {L fa : Addr} {cd : Value} {m : Str → Option Value} {s : Shared} {Q : Flow → Shared → Prop} {rest : List Stmt} {o1 o2 o3 o4 o5 o6 o7 o8 : Obj} {tl : List (Addr × Obj)} {Nn Du : Addr} {ns ys : List Value} {nl : List Str} {t3 t4 t9 ta tb u2 u3 u4 u6 : Tok} {x : Str} {c dc kn W : Nat} {lap fi aa bb : Int} : due_turn_S w mean mg mb base L fa cd m s Q rest o1 o2 o3 o4 o5 o6 o7 o8 tl Nn Du ns ys nl t3 t4 t9 ta tb u2 u3 u4 u6 x c dc kn W lap fi aa bb := @by_bad (fun c => due_turn_S (c.w 0) (c.me 0) (c.m 0) (c.m 1) (c.h 0) (c.n 0) (c.n 1) (c.v 0) (c.m 2) (c.sh 0) (c.qf 0) (c.lst 0) (c.o 0) (c.o 1) (c.o 2) (c.o 3) (c.o 4) (c.o 5) (c.o 6) (c.o 7) (c.lo 0) (c.n 2) (c.n 3) (c.lv 0) (c.lv 1) (c.ls 0) (c.n 4) (c.n 5) (c.n 6) (c.n 7) (c.n 8) (c.n 9) (c.n 10) (c.n 11) (c.n 12) (c.st 0) (c.n 13) (c.n 14) (c.n 15) (c.n 16) (c.i 0) (c.i 1) (c.i 2) (c.i 3)) (by with_unfolding_all exact due_turn_K.main) { cx0 with n := fromL (0) [L, fa, Nn, Du, t3, t4, t9, ta, tb, u2, u3, u4, u6, c, dc, kn, W], i := fromL (0) [lap, fi, aa, bb], st := fromL (Str.empty) [x], o := fromL (default) [o1, o2, o3, o4, o5, o6, o7, o8], lo := fromL ([]) [tl], v := fromL (.none) [cd], lv := fromL ([]) [ns, ys], ls := fromL ([]) [nl], m := fromL (fun _ => none) [mg, mb, m], sh := fromL ({}) [s], h := fromL ({}) [base], lst := fromL ([]) [rest], w := fromL (worldZ) [w], me := fromL (fun _ => none) [mean], qf := fromL (fun _ _ => True) [Q] }
end
section
open PyProof.Rows.LCg
noncomputable def atAt (c aa bb at0 : Int) : Nat → Int
  | 0 => at0
  | i + 1 => stepI c aa bb (atAt c aa bb at0 i)
noncomputable def dueAt (fi lap : Int) (W : Nat) (nl : List Str) (at' : Int) : Str := keyT ((fi + at' * lap).fmod (2 ^ W)) (nl.getD at'.toNat Str.empty) at'.toNat
noncomputable def dueL (fi lap : Int) (W : Nat) (nl : List Str) (c aa bb at0 : Int) (n : Nat) : List Str := (List.range n).map fun j => dueAt fi lap W nl (atAt c aa bb at0 j)
theorem mem10 {p x a0 a1 a2 a3 a4 a5 a6 a7 a8 a9 : Addr × Obj} {tl : List (Addr × Obj)} : p ∈ a0 :: a1 :: a2 :: a3 :: a4 :: a5 :: a6 :: a7 :: a8 :: a9 :: x :: tl ↔ p ∈ x :: a0 :: a1 :: a2 :: a3 :: a4 :: a5 :: a6 :: a7 :: a8 :: a9 :: tl :=
  mem_mv (A := [_, _, _, _, _, _, _, _, _, _])
theorem News.last10 {b h : Heap} {L : Addr} {x a0 a1 a2 a3 a4 a5 a6 a7 a8 a9 : Addr × Obj} {tl : List (Addr × Obj)} (N : News b L h (x :: a0 :: a1 :: a2 :: a3 :: a4 :: a5 :: a6 :: a7 :: a8 :: a9 :: tl)) : News b L h (a0 :: a1 :: a2 :: a3 :: a4 :: a5 :: a6 :: a7 :: a8 :: a9 :: x :: tl) := fun p hp => N p (mem10.mp hp)
theorem News.first10 {b h : Heap} {L : Addr} {x a0 a1 a2 a3 a4 a5 a6 a7 a8 a9 : Addr × Obj} {tl : List (Addr × Obj)} (N : News b L h (a0 :: a1 :: a2 :: a3 :: a4 :: a5 :: a6 :: a7 :: a8 :: a9 :: x :: tl)) : News b L h (x :: a0 :: a1 :: a2 :: a3 :: a4 :: a5 :: a6 :: a7 :: a8 :: a9 :: tl) := fun p hp => N p (mem10.mpr hp)
@[reducible] noncomputable def law_due_S (w : World) (mean : ExcName → Option Value) (mg mb : Str → Option Value) (base : Heap) (L fa : Addr) (cd : Value) (m : Str → Option Value) (s : Shared) (Q : Flow → Shared → Prop) (rest : List Stmt) (o1 o2 o3 o4 o5 o6 o7 o8 : Obj) (tl : List (Addr × Obj)) (Nn Du : Addr) (ns : List Value) (nl : List Str) (t3 t4 t9 ta tb u2 u3 u4 u6 : Tok) (x : Str) (c dc W : Nat) (lap fi aa bb at0 : Int) : Prop := ∀ (B : Below callerA base [] base) (F : Fr base L s.heap m) (X : (KX w.params).In base) (T : Top topProg lawLoose mean mg mb base) (N : News base L s.heap ((Du, PySem.W.listOf #[] dc) :: (Nn, LCg.lst ns) :: ((L + 1 + 1 + 1 + 1 + 1 + 1 + 1 + 1 : Addr), o8) :: ((L + 1 + 1 + 1 + 1 + 1 + 1 + 1 : Addr), o7) :: ((L + 1 + 1 + 1 + 1 + 1 + 1 : Addr), o6) :: ((L + 1 + 1 + 1 + 1 + 1 : Addr), o5) :: ((L + 1 + 1 + 1 + 1 : Addr), o4) :: ((L + 1 + 1 + 1 : Addr), o3) :: ((L + 1 + 1 : Addr), o2) :: ((L + 1 : Addr), o1) :: tl)) (h0t : 0 < s.toks) (h105 : @LT.lt Nat _ 105 L) (hDu : ∀ p ∈ tl, @LT.lt Nat _ p.1 Du) (hLD : @LT.lt Nat _ (L + 8) Du) (hND : @LT.lt Nat _ Nn Du) (hc8 : c ≤ 8) (hns : StrsAre ns nl) (hnl : ∀ y ∈ nl, y.length ≤ 100) (hn8 : nl.length = 8) (hW : 3 ≤ W) (hW20 : W ≤ 20) (hat : ∀ i, i < c → 0 ≤ atAt c aa bb at0 i ∧ atAt c aa bb at0 i < 8) (ho2 : o2.data = .cell (some (.int (2 ^ W) u2))) (ho3 : o3.data = .cell (some (.int fi u3))) (ho4 : o4.data = .cell (some (.int lap u4))) (ho6 : o6.data = .cell (some (.ref Nn))) (hmt : m (Str.ofString "text") = some (.str x t3)) (hmc : m (Str.ofString "count") = some (.int ((c : Nat) : Int) t4)) (hma : m (Str.ofString "a") = some (.int aa ta)) (hmb : m (Str.ofString "b") = some (.int bb tb)) (hmd : m (Str.ofString "due") = some (.ref Du)) (hm9 : m (Str.ofString "at") = some (.int at0 t9)) (hret : ∀ (dc : Nat) (ys : List Value) (m' : Str → Option Value) (h' : Heap) (tk' : Nat), Fr base L h' m' → News base L h' ((Du, PySem.W.listOf ys.toArray dc) :: (Nn, LCg.lst ns) :: ((L + 1 + 1 + 1 + 1 + 1 + 1 + 1 + 1 : Addr), o8) :: ((L + 1 + 1 + 1 + 1 + 1 + 1 + 1 : Addr), o7) :: ((L + 1 + 1 + 1 + 1 + 1 + 1 : Addr), o6) :: ((L + 1 + 1 + 1 + 1 + 1 : Addr), o5) :: ((L + 1 + 1 + 1 + 1 : Addr), o4) :: ((L + 1 + 1 + 1 : Addr), o3) :: ((L + 1 + 1 : Addr), o2) :: ((L + 1 : Addr), o1) :: tl) → StrsAre ys (dueL fi lap W nl c aa bb at0 c) → m' (Str.ofString "text") = some (.str x t3) → m' (Str.ofString "count") = some (.int ((c : Nat) : Int) t4) → m' (Str.ofString "a") = some (.int aa ta) → m' (Str.ofString "b") = some (.int bb tb) → m' (Str.ofString "due") = some (.ref Du) → wpAny (model Challenge.rw_st0007_01.prog w) (lawA L fa cd) (execs rest (lawEnv L fa cd)) Q (fun _ _ => False) { s with heap := h', toks := tk' }), wpAny (model Challenge.rw_st0007_01.prog w) (lawA L fa cd) (execs (lawCut 29 1 ++ rest) (lawEnv L fa cd)) Q (fun _ _ => False) s
namespace law_due_K
@[irreducible] noncomputable def pt : Cx := bad fun c => law_due_S (c.w 0) (c.me 0) (c.m 0) (c.m 1) (c.h 0) (c.n 0) (c.n 1) (c.v 0) (c.m 2) (c.sh 0) (c.qf 0) (c.lst 0) (c.o 0) (c.o 1) (c.o 2) (c.o 3) (c.o 4) (c.o 5) (c.o 6) (c.o 7) (c.lo 0) (c.n 2) (c.n 3) (c.lv 0) (c.ls 0) (c.n 4) (c.n 5) (c.n 6) (c.n 7) (c.n 8) (c.n 9) (c.n 10) (c.n 11) (c.n 12) (c.st 0) (c.n 13) (c.n 14) (c.n 15) (c.i 0) (c.i 1) (c.i 2) (c.i 3) (c.i 4)
@[irreducible] noncomputable def L : Addr := pt.n 0
@[irreducible] noncomputable def o1 : Obj := pt.o 0
@[irreducible] noncomputable def o2 : Obj := pt.o 1
@[irreducible] noncomputable def o3 : Obj := pt.o 2
@[irreducible] noncomputable def o4 : Obj := pt.o 3
@[irreducible] noncomputable def o5 : Obj := pt.o 4
@[irreducible] noncomputable def o6 : Obj := pt.o 5
@[irreducible] noncomputable def o7 : Obj := pt.o 6
@[irreducible] noncomputable def o8 : Obj := pt.o 7
@[irreducible] noncomputable def tl : List (Addr × Obj) := pt.lo 0
@[irreducible] noncomputable def Nn : Addr := pt.n 2
@[irreducible] noncomputable def Du : Addr := pt.n 3
@[irreducible] noncomputable def ns : List Value := pt.lv 0
@[irreducible] noncomputable def nl : List Str := pt.ls 0
@[irreducible] noncomputable def t3 : Tok := pt.n 4
@[irreducible] noncomputable def t4 : Tok := pt.n 5
@[irreducible] noncomputable def t9 : Tok := pt.n 6
@[irreducible] noncomputable def ta : Tok := pt.n 7
@[irreducible] noncomputable def tb : Tok := pt.n 8
@[irreducible] noncomputable def u6 : Tok := pt.n 12
@[irreducible] noncomputable def x : Str := pt.st 0
@[irreducible] noncomputable def c : Nat := pt.n 13
@[irreducible] noncomputable def dc : Nat := pt.n 14
@[irreducible] noncomputable def W : Nat := pt.n 15
@[irreducible] noncomputable def lap : Int := pt.i 0
@[irreducible] noncomputable def fi : Int := pt.i 1
@[irreducible] noncomputable def aa : Int := pt.i 2
@[irreducible] noncomputable def bb : Int := pt.i 3
@[irreducible] noncomputable def at0 : Int := pt.i 4
theorem main : law_due_S (pt.w 0) (pt.me 0) (pt.m 0) (pt.m 1) (pt.h 0) L (pt.n 1) (pt.v 0) (pt.m 2) (pt.sh 0) (pt.qf 0) (pt.lst 0) o1 o2 o3 o4 o5 o6 o7 o8 tl Nn Du ns nl t3 t4 t9 ta tb (pt.n 9) (pt.n 10) (pt.n 11) u6 x c dc W lap fi aa bb at0 := by
  intro B F X T N h0t h105 hDu hLD hND hc8 hns hnl hn8 hW hW20 hat ho2 ho3 ho4 ho6 hmt hmc hma hmb hmd hm9 hret
  have hmk101 := MarkH.mk (n := 101)
  rw [show lawCut 29 1 = [_] from rfl]
  revert X; k_fill; intro X
  rw [known_eq hmt, known_eq hmc, known_eq hma, known_eq hmb, known_eq hmd, known_eq hm9] at F
  have hmk := MarkH.mk (n := 202)
  k_steps
  refine Hold.on ?_
  clear hmk
  refine For_byT (by first | assumption | (dsimp only; omega)) ?_
  k_steps
  refine Then.of fun h0t' => ?_
  rename Fr _ _ _ _ => lF
  rename News _ _ _ _ => lN'
  rename IsRange _ _ _ _ _ _ _ _ => hr
  with_unfolding_all refine rangeT (n := c) (by rfl) hr (range_small c (by omega)) (range_size c (by omega)) lF lN' ?t0 (by rfl) (by rfl) (fun I i m' n' => ∃ (dc : Nat) (ys : List Value) (t9 : Tok), n' = (Du, PySem.W.listOf ys.toArray dc) :: (Nn, LCg.lst ns) :: ((L + 1 + 1 + 1 + 1 + 1 + 1 + 1 + 1 : Addr), o8) :: ((L + 1 + 1 + 1 + 1 + 1 + 1 + 1 : Addr), o7) :: ((L + 1 + 1 + 1 + 1 + 1 + 1 : Addr), o6) :: ((L + 1 + 1 + 1 + 1 + 1 : Addr), o5) :: ((L + 1 + 1 + 1 + 1 : Addr), o4) :: ((L + 1 + 1 + 1 : Addr), o3) :: ((L + 1 + 1 : Addr), o2) :: ((L + 1 : Addr), o1) :: tl ∧ StrsAre ys (dueL fi lap W nl c aa bb at0 i) ∧ @LT.lt Nat _ Du I ∧ (∀ p ∈ tl, @LT.lt Nat _ p.1 I) ∧ m' (Str.ofString "at") = some (.int (atAt c aa bb at0 i) t9) ∧ m' (Str.ofString "text") = some (.str x t3) ∧ m' (Str.ofString "count") = some (.int ((c : Nat) : Int) t4) ∧ m' (Str.ofString "a") = some (.int aa ta) ∧ m' (Str.ofString "b") = some (.int bb tb) ∧ m' (Str.ofString "due") = some (.ref Du)) (fun I hI => ⟨_, [], _, rfl, .nil, hI _ (.head _), (fun p hp => hI p (by simp [hp])), rfl, rfl, rfl, rfl, rfl, rfl⟩) ?turn ?done
  case t0 => exact h0t'
  case turn =>
    rintro I i t m' news' h tk htk hi hJ0
    refine Classical.byContradiction fun hG0 => ?_
    refine exE3 hJ0 ?_
    try clear hJ0
    rintro dc' ys' t9' hJ0
    refine anE10 hJ0 ?_
    try clear hJ0
    rintro rfl hys' hDI htI m0 m1 m2 m3 m4 m5
    refine hG0 ?_
    clear hG0
    rintro off F1 N1
    have hai := hat i hi
    clear lF lN'
    have hysl := StrsAre.length hys'
    have hdl : (dueL fi lap W nl c aa bb at0 i).length = i := by unfold dueL; simp
    generalize itR (0 + ((i + 1 : Nat) : Int)) ((c : Int) - ((i + 1 : Nat) : Int)) = io at N1 ⊢
    have hkn : (atAt c aa bb at0 i) = (((atAt c aa bb at0 i).toNat : Nat) : Int) := tonat hai.1
    have m0' := m0
    rw [hkn] at m0'
    show wpAny _ _ (execs (dueBody ++ []) _) _ _ _
    refine due_turn (c := c) (tl := (I, io) :: tl) (u6 := t4) (ys := ys') (dc := dc') (kn := (atAt c aa bb at0 i).toNat) B F1 X T (News.last10 N1) h105 ?_ hLD hND (by omega) ((Int.toNat_lt hai.1).mpr hai.2) hns hnl hn8 hW hW20 ho2 ho3 ho4 ho6 m1 m2 m3 m4 m5 m0' (fun t8 t9 dc2 m2' h2 tk2 F2 N2 n1 n2 n3 n4 n5 n0 => ?_)
    · intro p hp
      refine mem_cs hp ?_ fun hp => ?_
      · exact Nat.ne_of_gt hDI
      · exact Nat.ne_of_lt (hDu p hp)
    refine wpAny_execs_nil ?_
    refine ⟨h2, tk2, m2', _, rfl, F2, News.first10 N2, ?_, ⟨dc2, _, t9, rfl, ?_, hDI, htI, ?_, n1, n2, n3, n4, n5⟩⟩
    · intro p hp
      refine mem_cs hp ?_ fun hp => ?_
      · exact Nat.ne_of_lt hDI
      · exact off p (.tail _ hp)
    · unfold dueL
      rw [List.range_succ, List.map_append]
      rw [List.map_cons, List.map_nil]
      have h9 := kct_snoc (t := t8) (y := dueAt fi lap W nl (atAt c aa bb at0 i)) hys'
      unfold dueAt at h9 ⊢
      rw [← hkn]
      exact h9
    · rw [← hkn] at n0; exact n0
  case done =>
    rintro I m' news' h tk htk hJ0
    refine Classical.byContradiction fun hG0 => ?_
    refine exE3 hJ0 ?_
    try clear hJ0
    rintro dc' ys' t9' hJ0
    refine anE10 hJ0 ?_
    try clear hJ0
    rintro rfl hys' hDI htI m0 m1 m2 m3 m4 m5
    refine hG0 ?_
    clear hG0
    rintro F1 N1
    exact hret _ _ _ _ _ F1 N1 hys' m1 m2 m3 m4 m5
end law_due_K
theorem law_due {w : World} {mean : ExcName → Option Value} {mg mb : Str → Option Value} {base : Heap} {L fa : Addr} {cd : Value} {m : Str → Option Value} {s : Shared} {Q : Flow → Shared → Prop} {rest : List Stmt} {o1 o2 o3 o4 o5 o6 o7 o8 : Obj} {tl : List (Addr × Obj)} {Nn Du : Addr} {ns : List Value} {nl : List Str} {t3 t4 t9 ta tb u2 u3 u4 u6 : Tok} {x : Str} {c dc W : Nat} {lap fi aa bb at0 : Int} : law_due_S w mean mg mb base L fa cd m s Q rest o1 o2 o3 o4 o5 o6 o7 o8 tl Nn Du ns nl t3 t4 t9 ta tb u2 u3 u4 u6 x c dc W lap fi aa bb at0 := @by_bad (fun c => law_due_S (c.w 0) (c.me 0) (c.m 0) (c.m 1) (c.h 0) (c.n 0) (c.n 1) (c.v 0) (c.m 2) (c.sh 0) (c.qf 0) (c.lst 0) (c.o 0) (c.o 1) (c.o 2) (c.o 3) (c.o 4) (c.o 5) (c.o 6) (c.o 7) (c.lo 0) (c.n 2) (c.n 3) (c.lv 0) (c.ls 0) (c.n 4) (c.n 5) (c.n 6) (c.n 7) (c.n 8) (c.n 9) (c.n 10) (c.n 11) (c.n 12) (c.st 0) (c.n 13) (c.n 14) (c.n 15) (c.i 0) (c.i 1) (c.i 2) (c.i 3) (c.i 4)) (by with_unfolding_all exact law_due_K.main) { cx0 with n := fromL (0) [L, fa, Nn, Du, t3, t4, t9, ta, tb, u2, u3, u4, u6, c, dc, W], i := fromL (0) [lap, fi, aa, bb, at0], st := fromL (Str.empty) [x], o := fromL (default) [o1, o2, o3, o4, o5, o6, o7, o8], lo := fromL ([]) [tl], v := fromL (.none) [cd], lv := fromL ([]) [ns], ls := fromL ([]) [nl], m := fromL (fun _ => none) [mg, mb, m], sh := fromL ({}) [s], h := fromL ({}) [base], lst := fromL ([]) [rest], w := fromL (worldZ) [w], me := fromL (fun _ => none) [mean], qf := fromL (fun _ _ => True) [Q] }
end
section
local macro_rules | `(tactic| omega) => `(tactic| first | (with_reducible kas_types) | lia)
open PyProof.Rows.LCg
theorem strs_inv' {vs : List Value} {y : Str} {qs : List Str} (h : StrsAre vs (y :: qs)) : ∃ t r, vs = .str y t :: r ∧ StrsAre r qs := by
  cases h with
  | cons _ _ h => exact ⟨_, _, rfl, h⟩
section
variable {b h : Heap} {L : Addr} {A B1 C1 D1 E1 E2 E3 E4 c1 c2 c3 c4 c5 c6 c7 c8 : Addr × Obj} {held hd9 tl : List (Addr × Obj)}
theorem lex3_in (htl : ∀ p, p ∈ tl ↔ (p ∈ held ∨ p ∈ hd9)) (p : Addr × Obj) :
    p ∈ B1 :: C1 :: D1 :: E1 :: E2 :: E3 :: E4 :: A :: c8 :: c7 :: c6 :: c5 :: c4 :: c3 :: c2 :: c1 :: tl ↔ p ∈ E1 :: E2 :: E3 :: E4 :: (held ++ (B1 :: C1 :: D1 :: A :: c8 :: c7 :: c6 :: c5 :: c4 :: c3 :: c2 :: c1 :: hd9)) :=
  mem_lx (X := [_, _, _]) (E := [_, _, _, _]) (Y := [_, _, _, _, _, _, _, _, _]) htl p
theorem lex3_to (htl : ∀ p, p ∈ tl ↔ (p ∈ held ∨ p ∈ hd9)) (N : News b L h (B1 :: C1 :: D1 :: E1 :: E2 :: E3 :: E4 :: A :: c8 :: c7 :: c6 :: c5 :: c4 :: c3 :: c2 :: c1 :: tl)) : News b L h (E1 :: E2 :: E3 :: E4 :: (held ++ (B1 :: C1 :: D1 :: A :: c8 :: c7 :: c6 :: c5 :: c4 :: c3 :: c2 :: c1 :: hd9))) := fun p hp => N p ((lex3_in htl p).mpr hp)
theorem lex3_from (htl : ∀ p, p ∈ tl ↔ (p ∈ held ∨ p ∈ hd9)) (N : News b L h (E1 :: E2 :: E3 :: E4 :: (held ++ (B1 :: C1 :: D1 :: A :: c8 :: c7 :: c6 :: c5 :: c4 :: c3 :: c2 :: c1 :: hd9)))) : News b L h (B1 :: C1 :: D1 :: E1 :: E2 :: E3 :: E4 :: A :: c8 :: c7 :: c6 :: c5 :: c4 :: c3 :: c2 :: c1 :: tl) := fun p hp => N p ((lex3_in htl p).mp hp)
end
@[reducible] noncomputable def law_told_S (w : World) (mean : ExcName → Option Value) (mg mb : Str → Option Value) (base : Heap) (L fa : Addr) (cd : Value) (m : Str → Option Value) (s : Shared) (Q : Flow → Shared → Prop) (rest : List Stmt) (o1 o2 o3 o4 o5 o6 o7 o8 : Obj) (x : Str) (self D0 P l dx fr d Du : Addr) (a1 a2 a3 a4 b1 b2 tl9 t3 : Tok) (pn kx nx dc : Nat) (line : Int) (held hd9 tl : List (Addr × Obj)) (ds vs : List Value) (dl : List Str) : Prop := ∀ (B : Below callerA base [] base) (F : Fr base L s.heap m) (X : (KX w.params).In base) (T : Top topProg lawLoose mean mg mb base) (N : News base L s.heap ((P, W.listOf vs.toArray pn) :: (l, W.listOf #[.int ((kx : Nat) : Int) tl9] nx) :: (dx, lexD w D0 P a1 a2 a3 a4 (line) b1 b2) :: (self, instObj 87 dx) :: (Du, W.listOf ds.toArray dc) :: ((L + 1 + 1 + 1 + 1 + 1 + 1 + 1 + 1 : Addr), o8) :: ((L + 1 + 1 + 1 + 1 + 1 + 1 + 1 : Addr), o7) :: ((L + 1 + 1 + 1 + 1 + 1 + 1 : Addr), o6) :: ((L + 1 + 1 + 1 + 1 + 1 : Addr), o5) :: ((L + 1 + 1 + 1 + 1 : Addr), o4) :: ((L + 1 + 1 + 1 : Addr), o3) :: ((L + 1 + 1 : Addr), o2) :: ((L + 1 : Addr), o1) :: tl)) (h105 : @LT.lt Nat _ 105 L) (V : LxOk w x L self D0 P l dx fr d held) (htl : ∀ p, p ∈ tl ↔ (p ∈ held ∨ p ∈ hd9)) (hoff9 : ∀ p ∈ hd9, @Ne Nat p.1 P ∧ @Ne Nat p.1 l ∧ @Ne Nat p.1 dx ∧ @Ne Nat p.1 self) (hPD : @LT.lt Nat _ P Du) (hds : StrsAre ds dl) (hvs : StrsAre vs dl) (hdl : dl.length ≤ 20) (hdok : ∀ x ∈ dl, PyData.strOk x = true) (ho8 : o8.data = .cell (some (.ref self))) (hmt : m (Str.ofString "text") = some (.str x t3)) (hmd : m (Str.ofString "due") = some (.ref Du)) (hret : ∀ (pn : Nat) (m' : Str → Option Value) (h' : Heap) (tk' : Nat), Fr base L h' m' → News base L h' ((P, W.listOf #[] pn) :: (l, W.listOf #[.int ((kx : Nat) : Int) tl9] nx) :: (dx, lexD w D0 P a1 a2 a3 a4 (line) b1 b2) :: (self, instObj 87 dx) :: (Du, W.listOf ds.toArray dc) :: ((L + 1 + 1 + 1 + 1 + 1 + 1 + 1 + 1 : Addr), o8) :: ((L + 1 + 1 + 1 + 1 + 1 + 1 + 1 : Addr), o7) :: ((L + 1 + 1 + 1 + 1 + 1 + 1 : Addr), o6) :: ((L + 1 + 1 + 1 + 1 + 1 : Addr), o5) :: ((L + 1 + 1 + 1 + 1 : Addr), o4) :: ((L + 1 + 1 + 1 : Addr), o3) :: ((L + 1 + 1 : Addr), o2) :: ((L + 1 : Addr), o1) :: tl) → m' (Str.ofString "text") = some (.str x t3) → wpAny (model Challenge.rw_st0007_01.prog w) (lawA L fa cd) (execs rest (lawEnv L fa cd)) Q (fun _ _ => False) { s with heap := h', toks := tk' }), wpAny (model Challenge.rw_st0007_01.prog w) (lawA L fa cd) (execs (lawCut 30 1 ++ rest) (lawEnv L fa cd)) Q (fun _ _ => False) s
namespace law_told_K
@[irreducible] noncomputable def pt : Cx := bad fun c => law_told_S (c.w 0) (c.me 0) (c.m 0) (c.m 1) (c.h 0) (c.n 0) (c.n 1) (c.v 0) (c.m 2) (c.sh 0) (c.qf 0) (c.lst 0) (c.o 0) (c.o 1) (c.o 2) (c.o 3) (c.o 4) (c.o 5) (c.o 6) (c.o 7) (c.st 0) (c.n 2) (c.n 3) (c.n 4) (c.n 5) (c.n 6) (c.n 7) (c.n 8) (c.n 9) (c.n 10) (c.n 11) (c.n 12) (c.n 13) (c.n 14) (c.n 15) (c.n 16) (c.n 17) (c.n 18) (c.n 19) (c.n 20) (c.n 21) (c.i 0) (c.lo 0) (c.lo 1) (c.lo 2) (c.lv 0) (c.lv 1) (c.ls 0)
@[irreducible] noncomputable def w : World := pt.w 0
@[irreducible] noncomputable def L : Addr := pt.n 0
@[irreducible] noncomputable def o1 : Obj := pt.o 0
@[irreducible] noncomputable def o2 : Obj := pt.o 1
@[irreducible] noncomputable def o3 : Obj := pt.o 2
@[irreducible] noncomputable def o4 : Obj := pt.o 3
@[irreducible] noncomputable def o5 : Obj := pt.o 4
@[irreducible] noncomputable def o6 : Obj := pt.o 5
@[irreducible] noncomputable def o7 : Obj := pt.o 6
@[irreducible] noncomputable def o8 : Obj := pt.o 7
@[irreducible] noncomputable def self : Addr := pt.n 2
@[irreducible] noncomputable def D0 : Addr := pt.n 3
@[irreducible] noncomputable def P : Addr := pt.n 4
@[irreducible] noncomputable def l : Addr := pt.n 5
@[irreducible] noncomputable def dx : Addr := pt.n 6
@[irreducible] noncomputable def Du : Addr := pt.n 9
@[irreducible] noncomputable def a1 : Tok := pt.n 10
@[irreducible] noncomputable def a2 : Tok := pt.n 11
@[irreducible] noncomputable def a3 : Tok := pt.n 12
@[irreducible] noncomputable def a4 : Tok := pt.n 13
@[irreducible] noncomputable def b1 : Tok := pt.n 14
@[irreducible] noncomputable def b2 : Tok := pt.n 15
@[irreducible] noncomputable def tl9 : Tok := pt.n 16
@[irreducible] noncomputable def pn : Nat := pt.n 18
@[irreducible] noncomputable def kx : Nat := pt.n 19
@[irreducible] noncomputable def nx : Nat := pt.n 20
@[irreducible] noncomputable def dc : Nat := pt.n 21
@[irreducible] noncomputable def line : Int := pt.i 0
@[irreducible] noncomputable def hd9 : List (Addr × Obj) := pt.lo 1
@[irreducible] noncomputable def tl : List (Addr × Obj) := pt.lo 2
@[irreducible] noncomputable def ds : List Value := pt.lv 0
@[irreducible] noncomputable def vs : List Value := pt.lv 1
@[irreducible] noncomputable def dl : List Str := pt.ls 0
theorem main : law_told_S w (pt.me 0) (pt.m 0) (pt.m 1) (pt.h 0) L (pt.n 1) (pt.v 0) (pt.m 2) (pt.sh 0) (pt.qf 0) (pt.lst 0) o1 o2 o3 o4 o5 o6 o7 o8 (pt.st 0) self D0 P l dx (pt.n 7) (pt.n 8) Du a1 a2 a3 a4 b1 b2 tl9 (pt.n 17) pn kx nx dc line (pt.lo 0) hd9 tl ds vs dl := by
  intro B F X T N h105 V htl hoff9 hPD hds hvs hdl hdok ho8 hmt hmd hret
  have hmk101 := MarkH.mk (n := 101)
  have hmk102 := MarkH.mk (n := 102)
  have hmk104 := MarkH.mk (n := 104)
  rw [show lawCut 30 1 = [_] from rfl]
  revert X; k_fill; intro X
  rw [known_eq hmt, known_eq hmd] at F
  k_steps
  refine Hold.on ?_
  k_dflt (refine' LCg.ListComp_U ?c0 ?c1 ?c2 ?c3 ?c4 ?c5 ?_)
  case c0 => k_asm
  case c1 => exact rfl
  case c2 => decide
  case c3 => rfl
  case c4 => decide
  case c5 => rfl
  lcg_toSrc
  try dsimp only
  refine Hold.on ?_
  refine LCg.CompSrc.ledger (by rfl) (by k_asm) (by k_asm) (by k_mem) (by (rw [List.size_toArray, sizeLine_eq, StrsAre.length hds]; exact Nat.le_trans hdl (by decide))) ?_
  intro g9
  try dsimp only
  have hi := V.hi
  have l1 := V.lt1
  have l2 := V.lt2
  have l3 := V.lt3
  have hvl := StrsAre.length hvs
  have hdsl := StrsAre.length hds
  refine comp_rest (fun i ys nw => ∃ (pn : Nat) (us : List Value), nw = (P, W.listOf us.toArray pn) :: (l, W.listOf #[.int ((kx : Nat) : Int) tl9] nx) :: (dx, lexD w D0 P a1 a2 a3 a4 (line) b1 b2) :: (self, instObj 87 dx) :: (Du, W.listOf ds.toArray dc) :: ((L + 1 + 1 + 1 + 1 + 1 + 1 + 1 + 1 : Addr), o8) :: ((L + 1 + 1 + 1 + 1 + 1 + 1 + 1 : Addr), o7) :: ((L + 1 + 1 + 1 + 1 + 1 + 1 : Addr), o6) :: ((L + 1 + 1 + 1 + 1 + 1 : Addr), o5) :: ((L + 1 + 1 + 1 + 1 : Addr), o4) :: ((L + 1 + 1 + 1 : Addr), o3) :: ((L + 1 + 1 : Addr), o2) :: ((L + 1 : Addr), o1) :: tl ∧ StrsAre us (dl.drop i) ∧ StrsAre ys (dl.take i)) ⟨_, vs, rfl, hvs, .nil⟩ (fun i' v' I' oI' C' oC' D' m' ys' nw' h' tk' E' hi' hR' hv' hC' hx' F' N' off' ne' => ?_) ?_
  · refine Classical.byContradiction fun hG0 => ?_
    refine exE2 hR' ?_
    try clear hR'
    rintro pn' us hJ0
    refine anE3 hJ0 ?_
    try clear hJ0
    rintro rfl hus hys
    refine hG0 ?_
    clear hG0
    have hil : i' < dl.length := by rw [List.size_toArray, hdsl] at hi'; exact hi'
    rw [List.drop_eq_getElem_cons hil] at hus
    obtain ⟨ty, r0, rfl, hr0⟩ := strs_inv' hus
    have hr0l := StrsAre.length hr0
    rw [List.length_drop] at hr0l
    have hmk := MarkH.mk (n := 201)
    k_steps
    refine Hold.on ?_
    try dsimp only
    rename Fr _ _ _ _ => F12
    rename News _ _ _ _ => N12
    obtain ⟨e1, e2, e3, e4, eD, et⟩ := off'
    have hoff : ∀ p ∈ (I', oI') :: (C', oC') :: (D', lst ys') :: (Du, W.listOf ds.toArray dc) :: ((L + 1 + 1 + 1 + 1 + 1 + 1 + 1 + 1 : Addr), o8) :: ((L + 1 + 1 + 1 + 1 + 1 + 1 + 1 : Addr), o7) :: ((L + 1 + 1 + 1 + 1 + 1 + 1 : Addr), o6) :: ((L + 1 + 1 + 1 + 1 + 1 : Addr), o5) :: ((L + 1 + 1 + 1 + 1 : Addr), o4) :: ((L + 1 + 1 + 1 : Addr), o3) :: ((L + 1 + 1 : Addr), o2) :: ((L + 1 : Addr), o1) :: hd9, @Ne Nat p.1 P ∧ @Ne Nat p.1 l ∧ @Ne Nat p.1 dx ∧ @Ne Nat p.1 self := fun p hp => by
      revert p; refine all_cons ?_ (all_cons ?_ (all_cons ?_ (all_cons ?_ (all_cons ?_ (all_cons ?_ (all_cons ?_ (all_cons ?_ (all_cons ?_ (all_cons ?_ (all_cons ?_ (all_cons ?_ hoff9)))))))))))
      · exact ⟨e1.1.symm, e2.1.symm, e3.1.symm, e4.1.symm⟩
      · exact ⟨e1.2.1.symm, e2.2.1.symm, e3.2.1.symm, e4.2.1.symm⟩
      · exact ⟨e1.2.2.symm, e2.2.2.symm, e3.2.2.symm, e4.2.2.symm⟩
      all_goals (clear e1 e2 e3 e4 eD et ne'; dsimp only; omega)
    refine popL (line := line) B F12 X T V hoff (lex3_to htl N12) (len_drop hr0l hdl (by decide)) (fun pn2 h9 tk9 F14 N14 => ?_)
    replace N14 := lex3_from htl N14
    refine LCg.CompEnd.intro F14 N14 _ (fun p hp => hp) ⟨e1, e2, e3, e4, eD, et⟩ ?_ ⟨pn2, r0, rfl, hr0, ?_⟩
    · exact Or.inr ⟨_, .tail _ (.tail _ (.tail _ (.tail _ (.head _)))), rfl, _, rfl⟩
    · rw [List.take_add_one, List.getElem?_eq_getElem hil]
      exact kct_snoc hys
  rintro ys nw hJ0
  refine Classical.byContradiction fun hG0 => ?_
  refine exE2 hJ0 ?_
  try clear hJ0
  rintro pn' us hJ0
  refine anE3 hJ0 ?_
  try clear hJ0
  rintro rfl hus hys
  refine hG0 ?_
  clear hG0
  rintro D9 h9 tk9 F9 N9 off9
  try dsimp only
  simp only [LCg.Off1, and_true] at off9
  have e8 : ds.toArray.size = dl.length := by rw [List.size_toArray]; exact hdsl
  rw [e8] at hus hys
  rw [List.take_of_length_le (Nat.le_refl _)] at hys
  rw [List.drop_of_length_le (Nat.le_refl _)] at hus
  have hu0 : us = [] := List.eq_nil_of_length_eq_zero (StrsAre.length hus)
  subst hu0
  k_steps
  refine Hold.on ?_
  rename News _ _ _ _ => N16
  refine ne_strs (News.isList N16 (.head _)) (News.isList N16 (by k_mem)) hys hds hdok (by units_room) ?_
  k_steps
  try dsimp only
  (refine' hret _ _ _ _ ?gF ?gN ?g1; (case gF => assumption); (case gN => (first | assumption | exact cb_drop (by assumption) (by kcj_all))); (case g1 => exact rfl))
end law_told_K
theorem law_told {w : World} {mean : ExcName → Option Value} {mg mb : Str → Option Value} {base : Heap} {L fa : Addr} {cd : Value} {m : Str → Option Value} {s : Shared} {Q : Flow → Shared → Prop} {rest : List Stmt} {o1 o2 o3 o4 o5 o6 o7 o8 : Obj} {x : Str} {self D0 P l dx fr d Du : Addr} {a1 a2 a3 a4 b1 b2 tl9 t3 : Tok} {pn kx nx dc : Nat} {line : Int} {held hd9 tl : List (Addr × Obj)} {ds vs : List Value} {dl : List Str} : law_told_S w mean mg mb base L fa cd m s Q rest o1 o2 o3 o4 o5 o6 o7 o8 x self D0 P l dx fr d Du a1 a2 a3 a4 b1 b2 tl9 t3 pn kx nx dc line held hd9 tl ds vs dl := @by_bad (fun c => law_told_S (c.w 0) (c.me 0) (c.m 0) (c.m 1) (c.h 0) (c.n 0) (c.n 1) (c.v 0) (c.m 2) (c.sh 0) (c.qf 0) (c.lst 0) (c.o 0) (c.o 1) (c.o 2) (c.o 3) (c.o 4) (c.o 5) (c.o 6) (c.o 7) (c.st 0) (c.n 2) (c.n 3) (c.n 4) (c.n 5) (c.n 6) (c.n 7) (c.n 8) (c.n 9) (c.n 10) (c.n 11) (c.n 12) (c.n 13) (c.n 14) (c.n 15) (c.n 16) (c.n 17) (c.n 18) (c.n 19) (c.n 20) (c.n 21) (c.i 0) (c.lo 0) (c.lo 1) (c.lo 2) (c.lv 0) (c.lv 1) (c.ls 0)) (by with_unfolding_all exact law_told_K.main) { cx0 with n := fromL (0) [L, fa, self, D0, P, l, dx, fr, d, Du, a1, a2, a3, a4, b1, b2, tl9, t3, pn, kx, nx, dc], i := fromL (0) [line], st := fromL (Str.empty) [x], o := fromL (default) [o1, o2, o3, o4, o5, o6, o7, o8], lo := fromL ([]) [held, hd9, tl], v := fromL (.none) [cd], lv := fromL ([]) [ds, vs], ls := fromL ([]) [dl], m := fromL (fun _ => none) [mg, mb, m], sh := fromL ({}) [s], h := fromL ({}) [base], lst := fromL ([]) [rest], w := fromL (worldZ) [w], me := fromL (fun _ => none) [mean], qf := fromL (fun _ _ => True) [Q] }
end
section
open PyProof.Rows.LCg
section
variable {b h : Heap} {L : Addr} {E1 E2 E3 E4 c1 c2 c3 c4 c5 c6 c7 c8 : Addr × Obj} {held hd9 tl : List (Addr × Obj)}
theorem lex0_in (htl : ∀ p, p ∈ tl ↔ (p ∈ held ∨ p ∈ hd9)) (p : Addr × Obj) :
    p ∈ E1 :: E2 :: E3 :: E4 :: c8 :: c7 :: c6 :: c5 :: c4 :: c3 :: c2 :: c1 :: tl ↔ p ∈ E1 :: E2 :: E3 :: E4 :: (held ++ (c8 :: c7 :: c6 :: c5 :: c4 :: c3 :: c2 :: c1 :: hd9)) :=
  mem_lx (X := []) (E := [_, _, _, _]) (Y := [_, _, _, _, _, _, _, _]) htl p
theorem lex0_to (htl : ∀ p, p ∈ tl ↔ (p ∈ held ∨ p ∈ hd9)) (N : News b L h (E1 :: E2 :: E3 :: E4 :: c8 :: c7 :: c6 :: c5 :: c4 :: c3 :: c2 :: c1 :: tl)) : News b L h (E1 :: E2 :: E3 :: E4 :: (held ++ (c8 :: c7 :: c6 :: c5 :: c4 :: c3 :: c2 :: c1 :: hd9))) := fun p hp => N p ((lex0_in htl p).mpr hp)
theorem lex0_from (htl : ∀ p, p ∈ tl ↔ (p ∈ held ∨ p ∈ hd9)) (N : News b L h (E1 :: E2 :: E3 :: E4 :: (held ++ (c8 :: c7 :: c6 :: c5 :: c4 :: c3 :: c2 :: c1 :: hd9)))) : News b L h (E1 :: E2 :: E3 :: E4 :: c8 :: c7 :: c6 :: c5 :: c4 :: c3 :: c2 :: c1 :: tl) := fun p hp => N p ((lex0_in htl p).mp hp)
end
@[reducible] noncomputable def law_end_S (w : World) (mean : ExcName → Option Value) (mg mb : Str → Option Value) (base : Heap) (L fa : Addr) (cd : Value) (m : Str → Option Value) (s : Shared) (Q : Flow → Shared → Prop) (rest : List Stmt) (o1 o2 o3 o4 o5 o6 o7 o8 : Obj) (x : Str) (self D0 P l dx fr d : Addr) (a1 a2 a3 a4 b1 b2 tl9 t3 : Tok) (pn nx k0 k1 k2 j1 j2 : Nat) (held hd9 tl : List (Addr × Obj)) : Prop := ∀ (B : Below callerA base [] base) (F : Fr base L s.heap m) (X : (KX w.params).In base) (T : Top topProg lawLoose mean mg mb base) (N : News base L s.heap ((P, W.listOf #[] pn) :: (l, W.listOf #[.int ((k0 : Nat) : Int) tl9] nx) :: (dx, lexD w D0 P a1 a2 a3 a4 (Mine.lineAt x k0) b1 b2) :: (self, instObj 87 dx) :: ((L + 1 + 1 + 1 + 1 + 1 + 1 + 1 + 1 : Addr), o8) :: ((L + 1 + 1 + 1 + 1 + 1 + 1 + 1 : Addr), o7) :: ((L + 1 + 1 + 1 + 1 + 1 + 1 : Addr), o6) :: ((L + 1 + 1 + 1 + 1 + 1 : Addr), o5) :: ((L + 1 + 1 + 1 + 1 : Addr), o4) :: ((L + 1 + 1 + 1 : Addr), o3) :: ((L + 1 + 1 : Addr), o2) :: ((L + 1 : Addr), o1) :: tl)) (h105 : @LT.lt Nat _ 105 L) (C0 : CodeHd base 109 105) (V : LxOk w x L self D0 P l dx fr d held) (htl : ∀ p, p ∈ tl ↔ (p ∈ held ∨ p ∈ hd9)) (hoff9 : ∀ p ∈ hd9, @Ne Nat p.1 P ∧ @Ne Nat p.1 l ∧ @Ne Nat p.1 dx ∧ @Ne Nat p.1 self) (hr1 : ORun x j1 k0 (Str.ofString ".") k1) (hr2 : ORun x j2 k1 (Str.ofString "") k2) (hk1 : k1 < 1000) (hk2 : k2 < 1000) (hxl : x.length ≤ 1000) (hln : lineAt x k2 = 1 + Txt.count x (Str.ofString "
")) (ho8 : o8.data = .cell (some (.ref self))) (hmt : m (Str.ofString "text") = some (.str x t3)) (hret : ∀ (h' : Heap) (tk' : Nat), (∀ b o, base.get? b = some o → h'.get? b = some o) → GrownAt 105 h' → Q (.ret (.bool true)) { s with heap := h', toks := tk' }), wpAny (model Challenge.rw_st0007_01.prog w) (lawA L fa cd) (execs (lawCut 31 1 ++ rest) (lawEnv L fa cd)) Q (fun _ _ => False) s
namespace law_end_K
@[irreducible] noncomputable def pt : Cx := bad fun c => law_end_S (c.w 0) (c.me 0) (c.m 0) (c.m 1) (c.h 0) (c.n 0) (c.n 1) (c.v 0) (c.m 2) (c.sh 0) (c.qf 0) (c.lst 0) (c.o 0) (c.o 1) (c.o 2) (c.o 3) (c.o 4) (c.o 5) (c.o 6) (c.o 7) (c.st 0) (c.n 2) (c.n 3) (c.n 4) (c.n 5) (c.n 6) (c.n 7) (c.n 8) (c.n 9) (c.n 10) (c.n 11) (c.n 12) (c.n 13) (c.n 14) (c.n 15) (c.n 16) (c.n 17) (c.n 18) (c.n 19) (c.n 20) (c.n 21) (c.n 22) (c.n 23) (c.lo 0) (c.lo 1) (c.lo 2)
@[irreducible] noncomputable def L : Addr := pt.n 0
@[irreducible] noncomputable def o1 : Obj := pt.o 0
@[irreducible] noncomputable def o2 : Obj := pt.o 1
@[irreducible] noncomputable def o3 : Obj := pt.o 2
@[irreducible] noncomputable def o4 : Obj := pt.o 3
@[irreducible] noncomputable def o5 : Obj := pt.o 4
@[irreducible] noncomputable def o6 : Obj := pt.o 5
@[irreducible] noncomputable def o7 : Obj := pt.o 6
@[irreducible] noncomputable def o8 : Obj := pt.o 7
@[irreducible] noncomputable def x : Str := pt.st 0
@[irreducible] noncomputable def self : Addr := pt.n 2
@[irreducible] noncomputable def P : Addr := pt.n 4
@[irreducible] noncomputable def l : Addr := pt.n 5
@[irreducible] noncomputable def dx : Addr := pt.n 6
@[irreducible] noncomputable def b1 : Tok := pt.n 13
@[irreducible] noncomputable def k2 : Nat := pt.n 21
@[irreducible] noncomputable def hd9 : List (Addr × Obj) := pt.lo 1
@[irreducible] noncomputable def tl : List (Addr × Obj) := pt.lo 2
theorem main : law_end_S (pt.w 0) (pt.me 0) (pt.m 0) (pt.m 1) (pt.h 0) L (pt.n 1) (pt.v 0) (pt.m 2) (pt.sh 0) (pt.qf 0) (pt.lst 0) o1 o2 o3 o4 o5 o6 o7 o8 x self (pt.n 3) P l dx (pt.n 7) (pt.n 8) (pt.n 9) (pt.n 10) (pt.n 11) (pt.n 12) b1 (pt.n 14) (pt.n 15) (pt.n 16) (pt.n 17) (pt.n 18) (pt.n 19) (pt.n 20) k2 (pt.n 22) (pt.n 23) (pt.lo 0) hd9 tl := by
  intro B F X T N h105 C0 V htl hoff9 hr1 hr2 hk1 hk2 hxl hln ho8 hmt hret
  have hmk101 := MarkH.mk (n := 101)
  have hmk102 := MarkH.mk (n := 102)
  have hmk111 := MarkH.mk (n := 111)
  rw [show lawCut 31 1 = [_] from rfl]
  revert X; k_fill; intro X
  rw [known_eq hmt] at F
  have hi := V.hi
  have l1 := V.lt1
  have l2 := V.lt2
  have l3 := V.lt3
  have hoff : ∀ p ∈ ((L + 1 + 1 + 1 + 1 + 1 + 1 + 1 + 1 : Addr), o8) :: ((L + 1 + 1 + 1 + 1 + 1 + 1 + 1 : Addr), o7) :: ((L + 1 + 1 + 1 + 1 + 1 + 1 : Addr), o6) :: ((L + 1 + 1 + 1 + 1 + 1 : Addr), o5) :: ((L + 1 + 1 + 1 + 1 : Addr), o4) :: ((L + 1 + 1 + 1 : Addr), o3) :: ((L + 1 + 1 : Addr), o2) :: ((L + 1 : Addr), o1) :: hd9, @Ne Nat p.1 P ∧ @Ne Nat p.1 l ∧ @Ne Nat p.1 dx ∧ @Ne Nat p.1 self := fun p hp => by
    revert p; refine all_cons ?_ (all_cons ?_ (all_cons ?_ (all_cons ?_ (all_cons ?_ (all_cons ?_ (all_cons ?_ (all_cons ?_ hoff9)))))))
    all_goals (dsimp only; omega)
  have hmk := MarkH.mk (n := 201)
  k_steps
  refine Hold.on ?_
  rename Fr _ _ _ _ => F12
  rename News _ _ _ _ => N12
  refine tokL (line := 0) B F12 X T C0 V hoff (lex0_to htl N12) hr1 hk1 (fun tr b1 t n h9 tk9 F14 N14 => ?_)
  replace N14 := lex0_from htl N14
  try dsimp only
  clear F12 N12
  k_steps
  refine Hold.on ?_
  rename Fr _ _ _ _ => F12
  rename News _ _ _ _ => N12
  refine tokL (line := 0) B F12 X T C0 V hoff (lex0_to htl N12) hr2 hk2 (fun tr2 b2' t' n' h8 tk8 F15 N15 => ?_)
  replace N15 := lex0_from htl N15
  try dsimp only
  clear F12 N12
  k_steps
  refine Hold.on ?_
  rename News _ _ _ _ => N16
  refine eq_strs (ns := [Str.ofString ".", Str.ofString ""]) (xs := [_, _]) (ys := [_, _]) (News.isList N16 (.tail _ (.head _))) (News.isList N16 (.head _)) (.cons _ _ (.cons _ _ .nil)) (.cons _ _ (.cons _ _ .nil)) (by decide +kernel) (by units_room) ?_
  k_steps
  rename Fr _ _ _ _ => F16
  try dsimp only
  have N17 := N16
  obtain ⟨ps, hps⟩ := V.tab
  have hpt : ((105 : Addr), tabObj ps) ∈ tl := (htl _).mpr (.inl hps)
  rw [show (lineAt x k2 == 1 + Txt.count x (Str.ofString "\n")) = true from by rw [hln]; simp]
  exact hret _ _ F16.keep (GrownAt.of N17 (by repeat (first | exact hpt | apply List.Mem.tail)))
end law_end_K
theorem law_end {w : World} {mean : ExcName → Option Value} {mg mb : Str → Option Value} {base : Heap} {L fa : Addr} {cd : Value} {m : Str → Option Value} {s : Shared} {Q : Flow → Shared → Prop} {rest : List Stmt} {o1 o2 o3 o4 o5 o6 o7 o8 : Obj} {x : Str} {self D0 P l dx fr d : Addr} {a1 a2 a3 a4 b1 b2 tl9 t3 : Tok} {pn nx k0 k1 k2 j1 j2 : Nat} {held hd9 tl : List (Addr × Obj)} : law_end_S w mean mg mb base L fa cd m s Q rest o1 o2 o3 o4 o5 o6 o7 o8 x self D0 P l dx fr d a1 a2 a3 a4 b1 b2 tl9 t3 pn nx k0 k1 k2 j1 j2 held hd9 tl := @by_bad (fun c => law_end_S (c.w 0) (c.me 0) (c.m 0) (c.m 1) (c.h 0) (c.n 0) (c.n 1) (c.v 0) (c.m 2) (c.sh 0) (c.qf 0) (c.lst 0) (c.o 0) (c.o 1) (c.o 2) (c.o 3) (c.o 4) (c.o 5) (c.o 6) (c.o 7) (c.st 0) (c.n 2) (c.n 3) (c.n 4) (c.n 5) (c.n 6) (c.n 7) (c.n 8) (c.n 9) (c.n 10) (c.n 11) (c.n 12) (c.n 13) (c.n 14) (c.n 15) (c.n 16) (c.n 17) (c.n 18) (c.n 19) (c.n 20) (c.n 21) (c.n 22) (c.n 23) (c.lo 0) (c.lo 1) (c.lo 2)) (by with_unfolding_all exact law_end_K.main) { cx0 with n := fromL (0) [L, fa, self, D0, P, l, dx, fr, d, a1, a2, a3, a4, b1, b2, tl9, t3, pn, nx, k0, k1, k2, j1, j2], st := fromL (Str.empty) [x], o := fromL (default) [o1, o2, o3, o4, o5, o6, o7, o8], lo := fromL ([]) [held, hd9, tl], v := fromL (.none) [cd], m := fromL (fun _ => none) [mg, mb, m], sh := fromL ({}) [s], h := fromL ({}) [base], lst := fromL ([]) [rest], w := fromL (worldZ) [w], me := fromL (fun _ => none) [mean], qf := fromL (fun _ _ => True) [Q] }
end
section
local macro_rules | `(tactic| omega) => `(tactic| omega (splitDisjunctions := true))
open PySem PySem.Float64
theorem V_inj {a b : Nat} (h : V a = V b) : a = b := by
  rcases Nat.lt_trichotomy a b with h1 | h1 | h1
  · have := V_lt h1; omega
  · exact h1
  · have := V_lt h1; omega
noncomputable def spot (n : Nat) : Nat := roundMag n (2 ^ 30)
theorem spot_ex (n : Nat) (h : n < 2 ^ 53) : ∃ t, t < infMag ∧ V t = n * 2 ^ 1044 := by
  by_cases hn : n = 0
  · exact ⟨0, by decide +kernel, by subst hn; rw [V_zero]; simp⟩
  · have h1 := Nat.log2_self_le hn
    have h2 : n < 2 ^ (n.log2 + 1) := Nat.lt_log2_self
    have h3 : n.log2 ≤ 52 := by
      exact Nat.le_of_lt_succ ((Nat.log2_lt hn).mpr h)
    generalize n.log2 = l at *
    have e1 : 2 ^ l * 2 ^ (52 - l) = 2 ^ 52 := by rw [← Nat.pow_add, Nat.add_sub_of_le h3]
    have e2 : 2 ^ (l + 1) * 2 ^ (52 - l) = 2 ^ 53 := by rw [← Nat.pow_add, Nat.add_right_comm, Nat.add_sub_of_le h3]
    have hlo : 2 ^ 52 ≤ n * 2 ^ (52 - l) := by rw [← e1]; exact Nat.mul_le_mul_right _ h1
    have hhi : n * 2 ^ (52 - l) < 2 ^ 53 := by rw [← e2]; exact (Nat.mul_lt_mul_right (Nat.two_pow_pos _)).mpr h2
    refine ⟨(992 + l) * 2 ^ 52 + n * 2 ^ (52 - l), ?_, ?_⟩
    · refine Nat.lt_of_lt_of_le (Nat.add_lt_add_left hhi _) ?_
      show (992 + l) * 2 ^ 52 + 2 * 2 ^ 52 ≤ 2047 * 2 ^ 52
      rw [← Nat.add_mul]
      exact Nat.mul_le_mul_right _ (Nat.le_trans (Nat.add_le_add_right (Nat.add_le_add_left h3 992) 2) (by decide))
    · rw [V_at (Nat.le_of_lt hhi) (.inl hlo), Nat.mul_assoc, ← Nat.pow_add]
      rw [Nat.add_comm 992 l, ← Nat.add_assoc, Nat.sub_add_cancel h3]
theorem spot_unique {r : UInt64} {neg : Bool} {W D n : Nat} (hr : Right r neg W D) (hD : 0 < D) (hW : W = D * (n * 2 ^ 1044)) (h : n < 2 ^ 53) : ∃ t, t < infMag ∧ V t = n * 2 ^ 1044 ∧ r = pack neg t := by
  obtain ⟨t0, h0, h1⟩ := spot_ex n h
  obtain ⟨t, e, hle, hov, hnear⟩ := hr
  have hlt : t < infMag := by
    rcases Nat.lt_or_ge t infMag with hq | hq
    · exact hq
    · exfalso
      have he : t = infMag := by omega
      have := hov.mp he
      rw [hW, Nat.mul_left_comm 2 D] at this
      have h5 := Nat.le_of_mul_le_mul_left this hD
      have h6 : n * 2 ^ 1044 < 2 ^ 53 * 2 ^ 1044 := (Nat.mul_lt_mul_right (Nat.two_pow_pos _)).mpr h
      have h7 : 2 * (2 ^ 53 * 2 ^ 1044) < (2 ^ 54 - 1) * 2 ^ 2045 := by decide +kernel
      generalize (2 ^ 54 - 1) * 2 ^ 2045 = K2 at *
      generalize n * 2 ^ 1044 = K3 at *
      generalize 2 ^ 53 * 2 ^ 1044 = K4 at *
      omega
  have hz := (hnear hlt t0).1
  rw [h1, hW] at hz
  have e0 : dist (D * (n * 2 ^ 1044)) (D * (n * 2 ^ 1044)) = 0 := by unfold dist; rw [Nat.sub_self]
  rw [e0, dist_mul] at hz
  have h8 : dist (n * 2 ^ 1044) (V t) = 0 := by
    rcases Nat.mul_eq_zero.mp (Nat.le_zero.mp hz) with h | h
    · omega
    · exact h
  have h9 : V t = n * 2 ^ 1044 := by
    unfold dist at h8
    exact Nat.le_antisymm (Nat.le_of_sub_eq_zero (Nat.eq_zero_of_add_eq_zero h8).2) (Nat.le_of_sub_eq_zero (Nat.eq_zero_of_add_eq_zero h8).1)
  exact ⟨t, hlt, h9, e⟩
theorem spot_spec {n : Nat} (h : n < 2 ^ 53) : spot n < infMag ∧ V (spot n) = n * 2 ^ 1044 := by
  have hr : Right (ofFrac false n (2 ^ 30)) false (n * 2 ^ 1044) 1 := by
    refine ofFrac_right (by decide) ?_ (by decide)
    rw [Nat.mul_one, Nat.mul_assoc, ← Nat.pow_add]
  obtain ⟨t, h1, h2, h3⟩ := spot_unique (n := n) hr (by decide) (by rw [Nat.one_mul]) h
  have h4 : (ofFrac false n (2 ^ 30)).toNat = (pack false t).toNat := by rw [h3]
  unfold ofFrac at h4
  have hle : roundMag n (2 ^ 30) ≤ infMag := by rw [roundMag_min]; omega
  have hi : infMag < 2 ^ 63 := by decide
  rw [pack_toNat _ (by omega), pack_toNat _ (by omega)] at h4
  have : spot n = t := by unfold spot; simpa using h4
  rw [this]
  exact ⟨h1, h2⟩
noncomputable def fx (N : Int) : UInt64 := pack (decide (N < 0)) (spot N.natAbs)
theorem fx_of {r : UInt64} {neg : Bool} {W D : Nat} {N : Int} (hr : Right r neg W D) (hD : 0 < D) (hW : W = D * (N.natAbs * 2 ^ 1044)) (h : N.natAbs < 2 ^ 53) (hs : neg = decide (N < 0)) : r = fx N := by
  obtain ⟨t, h1, h2, h3⟩ := spot_unique hr hD hW h
  have h4 := (spot_spec h).2
  rw [h3, hs, V_inj (h2.trans h4.symm)]
  rfl
theorem fx_zero : fx 0 = zero false := by decide +kernel
theorem fx_decode {N : Int} (h : N.natAbs < 2 ^ 53) : ∃ m e, decode (fx N) = .fin (decide (N < 0)) m e ∧ m * 2 ^ (e + 1074).toNat = N.natAbs * 2 ^ 1044 := by
  obtain ⟨h1, h2⟩ := spot_spec h
  obtain ⟨m, e, h3, h4⟩ := decode_pack (decide (N < 0)) h1
  exact ⟨m, e, h3, h4.trans h2⟩
theorem sgn_abs (N : Int) (K : Nat) : sgn (decide (N < 0)) (N.natAbs * K) = N * K := by
  unfold sgn
  rcases Int.lt_or_le N 0 with h | h
  · rw [if_pos (by simpa using h)]
    have : ((N.natAbs * K : Nat) : Int) = (-N) * K := by rw [Int.natCast_mul]; congr 1; omega
    rw [this, Int.neg_mul, Int.neg_neg]
  · rw [if_neg (by simp; omega)]
    rw [Int.natCast_mul]; congr 1; omega
theorem fx_val {N : Int} (h : N.natAbs < 2 ^ 53) : val (fx N) = N * ((2 ^ 1044 : Nat) : Int) := by
  obtain ⟨m, e, h1, h2⟩ := fx_decode h
  rw [val_eq h1, h2, sgn_abs]
theorem sign_scale {N : Int} {K : Nat} (hK : 0 < K) : decide (N * (K : Int) < 0) = decide (N < 0) := by
  have : N * (K : Int) < 0 ↔ N < 0 := by
    constructor
    · intro h
      rcases Int.lt_or_le N 0 with h1 | h1
      · exact h1
      · have := Int.mul_nonneg h1 (Int.natCast_nonneg K); omega
    · intro h
      exact Int.mul_neg_of_neg_of_pos h (by omega)
  simp [this]
theorem abs_scale {N : Int} {K : Nat} : (N * (K : Int)).natAbs = N.natAbs * K := by rw [Int.natAbs_mul]; rfl
theorem scale_zero {N : Int} {K : Nat} (hK : 0 < K) : N * (K : Int) = 0 ↔ N = 0 := by
  rw [Int.mul_eq_zero]; omega
local macro_rules | `(tactic| omega) => `(tactic| first | (with_reducible kas_types) | lia)
theorem fx_add {a b c : Int} (ha : a.natAbs < 2 ^ 53) (hb : b.natAbs < 2 ^ 53) (hc : c.natAbs < 2 ^ 53) (h : a + b = c) : add (fx a) (fx b) = fx c := by
  obtain ⟨m, e, h1, h2⟩ := fx_decode ha
  obtain ⟨k, f, h3, h4⟩ := fx_decode hb
  have hr := add_right h1 h3
  rw [fx_val ha, fx_val hb, ← Int.add_mul, h] at hr
  have hK : 0 < 2 ^ 1044 := Nat.two_pow_pos _
  by_cases h0 : c = 0
  · rw [hr.1 ((scale_zero hK).mpr h0), h0, fx_zero]
    congr 1
    simp only [Bool.and_eq_false_iff, decide_eq_false_iff_not]
    omega
  · refine fx_of (hr.2 (fun hh => h0 ((scale_zero hK).mp hh))) (by decide) ?_ hc (sign_scale hK)
    rw [Nat.one_mul, abs_scale]
theorem fx_sub {a b c : Int} (ha : a.natAbs < 2 ^ 53) (hb : b.natAbs < 2 ^ 53) (hc : c.natAbs < 2 ^ 53) (h : a - b = c) : sub (fx a) (fx b) = fx c := by
  obtain ⟨m, e, h1, h2⟩ := fx_decode ha
  obtain ⟨k, f, h3, h4⟩ := fx_decode hb
  have hr := sub_right h1 h3
  rw [fx_val ha, fx_val hb, ← Int.sub_mul, h] at hr
  have hK : 0 < 2 ^ 1044 := Nat.two_pow_pos _
  by_cases h0 : c = 0
  · rw [hr.1 ((scale_zero hK).mpr h0), h0, fx_zero]
    congr 1
    simp only [Bool.and_eq_false_iff, Bool.not_eq_false', decide_eq_false_iff_not, decide_eq_true_eq]
    omega
  · refine fx_of (hr.2 (fun hh => h0 ((scale_zero hK).mp hh))) (by decide) ?_ hc (sign_scale hK)
    rw [Nat.one_mul, abs_scale]
theorem fx_mul {a b c : Int} (ha : a.natAbs < 2 ^ 53) (hb : b.natAbs < 2 ^ 53) (hc : c.natAbs < 2 ^ 53) (h0 : 0 ≤ a) (h1 : 0 ≤ b) (h : a * b = c * 2 ^ 30) : mul (fx a) (fx b) = fx c := by
  obtain ⟨m, e, h2, _⟩ := fx_decode ha
  obtain ⟨k, f, h3, _⟩ := fx_decode hb
  have hr := mul_right h2 h3
  rw [fx_val ha, fx_val hb, abs_scale, abs_scale] at hr
  have hc0 : 0 ≤ c := by have := Int.mul_nonneg h0 h1; omega
  refine fx_of hr (Nat.two_pow_pos _) ?_ hc ?_
  · have e1 : a.natAbs * b.natAbs = c.natAbs * 2 ^ 30 := by rw [← Int.natAbs_mul, h, Int.natAbs_mul]; rfl
    calc a.natAbs * 2 ^ 1044 * (b.natAbs * 2 ^ 1044) = (a.natAbs * b.natAbs) * (2 ^ 1044 * 2 ^ 1044) := by ac_rfl
      _ = c.natAbs * (2 ^ 30 * (2 ^ 1044 * 2 ^ 1044)) := by rw [e1]; ac_rfl
      _ = c.natAbs * (2 ^ 1074 * 2 ^ 1044) := by rw [← Nat.mul_assoc (2 ^ 30), ← Nat.pow_add 2 30]
      _ = 2 ^ 1074 * (c.natAbs * 2 ^ 1044) := by ac_rfl
  · have e1 : decide (a < 0) = false := by simp; omega
    have e2 : decide (b < 0) = false := by simp; omega
    have e3 : decide (c < 0) = false := by simp; omega
    rw [e1, e2, e3]; rfl
theorem fx_nz {b : Int} {B : Bool} {k : Nat} {f : Int} (hb : b.natAbs < 2 ^ 53) (h : decode (fx b) = .fin B k f) : k = 0 ↔ b = 0 := by
  obtain ⟨k', f', h3, h4⟩ := fx_decode hb
  rw [h3] at h
  injection h with _ h5 _
  subst h5
  have h6 : 0 < 2 ^ (f' + 1074).toNat := Nat.two_pow_pos _
  have h7 : 0 < 2 ^ 1044 := Nat.two_pow_pos _
  constructor
  · intro h0
    rw [h0, Nat.zero_mul] at h4
    rcases Nat.mul_eq_zero.mp h4.symm with h | h <;> omega
  · intro h0
    have e0 : b.natAbs = 0 := by omega
    rw [e0, Nat.zero_mul] at h4
    rcases Nat.mul_eq_zero.mp h4 with h | h <;> omega
theorem fx_div {a b c : Int} (ha : a.natAbs < 2 ^ 53) (hb : b.natAbs < 2 ^ 53) (hc : c.natAbs < 2 ^ 53) (h1 : 0 < b) (h : c * b = a * 2 ^ 30) : div (fx a) (fx b) = fx c := by
  obtain ⟨m, e, h2, _⟩ := fx_decode ha
  obtain ⟨k, f, h3, _⟩ := fx_decode hb
  have hk : k ≠ 0 := fun h0 => by have := (fx_nz hb h3).mp h0; omega
  have hr := div_right h2 h3 hk
  rw [fx_val ha, fx_val hb, abs_scale, abs_scale] at hr
  have hD : 0 < b.natAbs * 2 ^ 1044 := Nat.mul_pos (by omega) (Nat.two_pow_pos _)
  refine fx_of hr hD ?_ hc ?_
  · have e1 : c.natAbs * b.natAbs = a.natAbs * 2 ^ 30 := by rw [← Int.natAbs_mul, h, Int.natAbs_mul]; rfl
    calc a.natAbs * 2 ^ 1044 * 2 ^ 1074 = a.natAbs * 2 ^ 1044 * (2 ^ 30 * 2 ^ 1044) := by rw [← Nat.pow_add 2 30]
      _ = (a.natAbs * 2 ^ 30) * (2 ^ 1044 * 2 ^ 1044) := by ac_rfl
      _ = (c.natAbs * b.natAbs) * (2 ^ 1044 * 2 ^ 1044) := by rw [e1]
      _ = b.natAbs * 2 ^ 1044 * (c.natAbs * 2 ^ 1044) := by ac_rfl
  · have e2 : decide (b < 0) = false := by simp; omega
    rw [e2]
    have : a < 0 ↔ c < 0 := by
      constructor
      · intro ha
        rcases Int.lt_or_le c 0 with h5 | h5
        · exact h5
        · have := Int.mul_nonneg h5 (Int.le_of_lt h1); omega
      · intro hc'
        have := Int.mul_neg_of_neg_of_pos hc' h1
        omega
    simp [this]
theorem fx_cmp {a b : Int} (ha : a.natAbs < 2 ^ 53) (hb : b.natAbs < 2 ^ 53) : cmp (fx a) (fx b) = some (compare a b) := by
  obtain ⟨m, e, h2, _⟩ := fx_decode ha
  obtain ⟨k, f, h3, _⟩ := fx_decode hb
  rw [cmp_right h2 h3, fx_val ha, fx_val hb]
  have hK : (0 : Int) < ((2 ^ 1044 : Nat) : Int) := Int.ofNat_lt.mpr (Nat.two_pow_pos _)
  congr 1
  generalize ((2 ^ 1044 : Nat) : Int) = K at *
  rcases Int.lt_trichotomy a b with h | h | h
  · rw [Int.compare_eq_lt.mpr h, Int.compare_eq_lt.mpr (Int.mul_lt_mul_of_pos_right h hK)]
  · subst h; simp
  · rw [Int.compare_eq_gt.mpr h, Int.compare_eq_gt.mpr (Int.mul_lt_mul_of_pos_right h hK)]
theorem fx_ofInt {a c : Int} (hc : c.natAbs < 2 ^ 53) (h : a * 2 ^ 30 = c) : ofInt a = fx c := by
  refine fx_of (ofInt_right a) (by decide) ?_ hc ?_
  · rw [← h, Int.natAbs_mul, Nat.one_mul, show (2 ^ 30 : Int).natAbs = 2 ^ 30 from rfl, Nat.mul_assoc, ← Nat.pow_add 2 30]
  · have : a < 0 ↔ c < 0 := by omega
    simp [this]
theorem fx_frac {n d : Nat} {c : Int} (hd : 0 < d) (hc : c.natAbs < 2 ^ 53) (h0 : 0 ≤ c) (h : c.natAbs * d = n * 2 ^ 30) : ofFrac false n d = fx c := by
  refine fx_of (ofFrac_right (W := c.natAbs * 2 ^ 1044) (D := 1) hd ?_ (by decide)) (by decide) (by rw [Nat.one_mul]) hc (by simp; omega)
  rw [show (2 : Nat) ^ 1074 = 2 ^ 30 * 2 ^ 1044 from (Nat.pow_add 2 30 1044), ← Nat.mul_assoc, ← h, Nat.mul_one]
  ac_rfl
theorem fx_fin {N : Int} (h : N.natAbs < 2 ^ 53) : Float64.isNaN (fx N) = false ∧ isInf (fx N) = false := by
  obtain ⟨m, e, h2, _⟩ := fx_decode h
  unfold Float64.isNaN Float64.isInf
  rw [h2]
  exact ⟨rfl, rfl⟩
theorem fx_isZero {N : Int} (h : N.natAbs < 2 ^ 53) (h0 : N ≠ 0) : isZero (fx N) = false := by
  obtain ⟨m, e, h2, _⟩ := fx_decode h
  have h3 : m ≠ 0 := fun hh => h0 ((fx_nz h h2).mp hh)
  unfold isZero
  rw [h2]
  split
  · rename_i heq; injection heq with _ h5 _; exact absurd h5 h3
  · rfl
theorem fx_trunc {N : Int} (h : N.natAbs < 2 ^ 53) (h0 : 0 ≤ N) : PySem.Flt.toInt truncOf (fx N) = N / 2 ^ 30 := by
  obtain ⟨m, e, h2, h3⟩ := fx_decode h
  rw [PySem.Flt.toInt_fin h2]
  have e1 : decide (N < 0) = false := by simp; omega
  rw [e1]
  have he := decode_ge h2
  unfold truncOf floorOf sgn
  rw [if_neg (by decide)]
  have hN : N = (N.natAbs : Int) := by omega
  by_cases hp : e ≥ 0
  · rw [if_pos hp, if_neg (by decide)]
    have e2 : (e + 1074).toNat = e.toNat + 1074 := by omega
    rw [e2, Nat.pow_add, show (2 : Nat) ^ 1074 = 2 ^ 30 * 2 ^ 1044 from (Nat.pow_add 2 30 1044), ← Nat.mul_assoc, ← Nat.mul_assoc] at h3
    have h4 := Nat.eq_of_mul_eq_mul_right (Nat.two_pow_pos _) h3
    rw [hN, ← h4]
    rw [Int.natCast_mul, show (((2 ^ 30 : Nat)) : Int) = 2 ^ 30 from rfl, Int.mul_ediv_cancel _ (by decide)]
    rw [Int.natCast_mul, Int.natCast_pow]; rfl
  · rw [if_neg hp, if_neg (by decide)]
    have e3 : (2 : Int) ^ (-e).toNat = ((2 ^ (-e).toNat : Nat) : Int) := by rw [Int.natCast_pow]; rfl
    rw [e3, Int.fdiv_eq_ediv_of_nonneg _ (Int.natCast_nonneg _)]
    have e4 : (-e).toNat + (e + 1074).toNat = 1074 := by omega
    have h5 : m / 2 ^ (-e).toNat = N.natAbs / 2 ^ 30 := by
      rw [← Nat.mul_div_mul_right m _ (Nat.two_pow_pos (e + 1074).toNat), h3, ← Nat.pow_add, e4]
      rw [show (2 : Nat) ^ 1074 = 2 ^ 30 * 2 ^ 1044 from (Nat.pow_add 2 30 1044), Nat.mul_div_mul_right _ _ (Nat.two_pow_pos _)]
    rw [← Int.natCast_ediv, h5]
    rw [Int.natCast_ediv]
    conv => rhs; rw [hN]
    rfl
theorem ofBin_right (neg : Bool) (m : Nat) {e : Int} (he : -1074 ≤ e) : Right (ofBin neg m e) neg (m * 2 ^ (e + 1074).toNat) 1 := by
  unfold ofBin
  refine ofFrac_right (shift_pos _ _ _ (by decide)) ?_ (by decide)
  rw [Nat.mul_one]
  exact shift_one m e 1074 he
theorem pack_of {r : UInt64} {neg : Bool} {W n : Nat} (hr : Right r neg W 1) (hW : W = n * 2 ^ 1044) (h : n < 2 ^ 53) : r = pack neg (spot n) := by
  obtain ⟨t, h1, h2, h3⟩ := spot_unique (n := n) hr (by decide) (by rw [hW, Nat.one_mul]) h
  rw [h3, V_inj (h2.trans (spot_spec h).2.symm)]
theorem fx_fmod {a b : Int} (ha : a.natAbs < 2 ^ 53) (hb : b.natAbs < 2 ^ 53) (h1 : 0 < b) : fmod (fx a) (fx b) = pack (decide (a < 0)) (spot (a.natAbs % b.natAbs)) := by
  obtain ⟨m, e, h2, h4⟩ := fx_decode ha
  obtain ⟨k, f, h3, h5⟩ := fx_decode hb
  have hk : k ≠ 0 := fun h0 => by have := (fx_nz hb h3).mp h0; omega
  have he := decode_ge h2
  have hf := decode_ge h3
  have hm : fmod (fx a) (fx b) = ofBin (decide (a < 0)) (m * 2 ^ (e - min e f).toNat % (k * 2 ^ (f - min e f).toNat)) (min e f) := by
    unfold fmod
    rw [h2, h3]
    simp only []
    rw [if_neg (by simpa using hk)]
    unfold align sgn
    simp only [Bool.false_eq_true, if_false, Int.toNat_natCast]
  have hef := Int.le_min.mpr ⟨he, hf⟩
  rw [hm]
  refine pack_of (ofBin_right _ _ hef) ?_ (Nat.lt_of_le_of_lt (Nat.mod_le _ _) ha)
  rw [← Nat.mul_mod_mul_right, Nat.mul_assoc, Nat.mul_assoc, ← Nat.pow_add, ← Nat.pow_add]
  have e1 : (e - min e f).toNat + (min e f + 1074).toNat = (e + 1074).toNat := tnat (Int.min_le_left _ _) hef
  have e2 : (f - min e f).toNat + (min e f + 1074).toNat = (f + 1074).toNat := tnat (Int.min_le_right _ _) hef
  rw [e1, e2, h4, h5, Nat.mul_mod_mul_right]
theorem fx_mod {a b : Int} (ha : a.natAbs < 2 ^ 53) (hb : b.natAbs < 2 ^ 53) (h1 : 0 < b) : (divmod (fx a) (fx b)).2 = fx (a % b) := by
  have hmod := fx_fmod ha hb h1
  have hb0 := Int.ne_of_gt h1
  have hr0 := Int.emod_nonneg a hb0
  have hr1 := Int.emod_lt_of_pos a h1
  have hz : zero false = fx 0 := fx_zero.symm
  have hy : lt (fx b) (zero false) = false := by
    unfold lt
    rw [hz, fx_cmp hb (by decide), Int.compare_eq_gt.mpr h1]; rfl
  unfold divmod
  simp only []
  rw [hmod, hy]
  have hab : b.natAbs = b := Int.natAbs_of_nonneg (Int.le_of_lt h1)
  by_cases h0 : a.natAbs % b.natAbs = 0
  · have e0 : a % b = 0 := by
      have : ((a.natAbs % b.natAbs : Nat) : Int) = 0 := by rw [h0]; rfl
      rw [Int.natCast_emod, hab] at this
      have h5 := Int.dvd_of_emod_eq_zero this
      have : b ∣ a := (Int.dvd_natAbs).mp h5
      exact Int.emod_eq_zero_of_dvd this
    rw [h0, e0]
    have e1 : isZero (pack (decide (a < 0)) (spot 0)) = true := by cases decide (a < 0) <;> decide +kernel
    rw [if_pos e1]
    obtain ⟨k, f, h3, h5⟩ := fx_decode hb
    unfold copysign
    rw [if_neg (by decide +kernel)]
    have : signBit (fx b) = false := by
      unfold signBit fx
      have h6 := (spot_spec hb).1
      rw [pack_toNat _ (Nat.lt_trans h6 (by decide))]
      have e2 : decide (b < 0) = false := decide_eq_false (Int.not_lt.mpr (Int.le_of_lt h1))
      rw [e2]
      have : infMag < 2 ^ 63 := by decide
      simp
      omega
    rw [this]
    show pack false ((zero false).toNat % 2 ^ 63) = fx 0
    decide +kernel
  · have hlt : a.natAbs % b.natAbs < b.natAbs := Nat.mod_lt _ (Int.natAbs_pos.mpr hb0)
    have hbd9 := Nat.lt_trans (Int.natAbs_lt_natAbs_of_nonneg_of_lt hr0 hr1) hb
    rcases Int.lt_or_le a 0 with hn | hn
    · have hneg : -((a.natAbs % b.natAbs : Nat) : Int) < 0 := Int.neg_neg_of_pos (Int.ofNat_lt.mpr (Nat.pos_of_ne_zero h0))
      have e1 : pack (decide (a < 0)) (spot (a.natAbs % b.natAbs)) = fx (-((a.natAbs % b.natAbs : Nat) : Int)) := by
        unfold fx
        have e2 : decide (-((a.natAbs % b.natAbs : Nat) : Int) < 0) = decide (a < 0) := by
          rw [decide_eq_true hneg, decide_eq_true hn]
        rw [e2, Int.natAbs_neg, Int.natAbs_natCast]
      have hbd : (-((a.natAbs % b.natAbs : Nat) : Int)).natAbs < 2 ^ 53 := by rw [Int.natAbs_neg, Int.natAbs_natCast]; exact Nat.lt_trans hlt hb
      rw [e1, fx_isZero hbd (Int.ne_of_lt hneg)]
      have e3 : lt (fx (-((a.natAbs % b.natAbs : Nat) : Int))) (zero false) = true := by
        unfold lt
        rw [hz, fx_cmp hbd (by decide), Int.compare_eq_lt.mpr hneg]; rfl
      rw [e3]
      simp only [Bool.false_eq_true, if_false, bne, Bool.false_beq, Bool.not_true, Bool.not_false, if_true]
      have hE : -((a.natAbs % b.natAbs : Nat) : Int) + b = a % b := by
        rw [Int.natCast_emod, hab]
        rw [Int.ofNat_natAbs_of_nonpos (Int.le_of_lt hn), Int.neg_emod, if_neg (fun h => h0 (Nat.mod_eq_zero_of_dvd (Int.natAbs_dvd_natAbs.mpr h))), hab, Int.neg_sub, Int.sub_add_cancel]
      exact fx_add hbd hb hbd9 hE
    · have e1 : pack (decide (a < 0)) (spot (a.natAbs % b.natAbs)) = fx (a % b) := by
        unfold fx
        have h7 : ((a.natAbs % b.natAbs : Nat) : Int) = a % b := by rw [Int.natCast_emod, hab, Int.natAbs_of_nonneg hn]
        rw [decide_eq_false (Int.not_lt.mpr hr0), decide_eq_false (Int.not_lt.mpr hn), ← h7, Int.natAbs_natCast]
      have h7 : ((a.natAbs % b.natAbs : Nat) : Int) = a % b := by rw [Int.natCast_emod, hab, Int.natAbs_of_nonneg hn]
      have hnz : a % b ≠ 0 := fun e => h0 (Int.ofNat.inj (h7.trans e))
      rw [e1, fx_isZero hbd9 hnz]
      have e3 : lt (fx (a % b)) (zero false) = false := by
        unfold lt
        rw [hz, fx_cmp hbd9 (by decide), Int.compare_eq_gt.mpr (Int.lt_iff_le_and_ne.mpr ⟨hr0, Ne.symm hnz⟩)]; rfl
      rw [e3]
      rfl
end
section
local macro_rules | `(tactic| omega) => `(tactic| first | (with_reducible kas_types) | lia)
theorem mul_bd {x y X Y : Int} (h0 : 0 ≤ x) (h1 : x ≤ X) (h2 : 0 ≤ y) (h3 : y ≤ Y) : 0 ≤ x * y ∧ x * y ≤ X * Y :=
  ⟨Int.mul_nonneg h0 h2, Int.mul_le_mul h1 h3 h2 (Int.le_trans h0 h1)⟩
noncomputable def col (a b y : Int) : Int := b * (2 ^ 27 - a * y)
theorem col_bd {a b y : Int} (ha : 1 ≤ a ∧ a ≤ 8) (hb : 1 ≤ b ∧ b ≤ 8) (hy : 0 ≤ y ∧ y ≤ 2 ^ 24) : 0 ≤ col a b y ∧ col a b y ≤ 2 ^ 30 := by
  unfold col
  have h1 := mul_bd (up0 ha).1 ha.2 hy.1 hy.2
  exact mul_bd (up0 hb).1 hb.2 (Int.sub_nonneg_of_le h1.2) (Int.sub_le_self _ h1.1)
theorem col_lt {a b x y : Int} (ha : 1 ≤ a ∧ a ≤ 8) (hb : 1 ≤ b ∧ b ≤ 8) : col a b x < col a b y ↔ y < x := by
  unfold col
  have e : b * (2 ^ 27 - a * y) - b * (2 ^ 27 - a * x) = (a * b) * (x - y) := by grind
  have hab : 0 < a * b := Int.mul_pos (by omega) (by omega)
  constructor
  · intro h
    rcases Int.lt_or_le y x with h1 | h1
    · exact h1
    · have := Int.mul_nonneg (Int.le_of_lt hab) (show 0 ≤ y - x by omega)
      have e2 : a * b * (y - x) = -(a * b * (x - y)) := by grind
      omega
  · intro h
    have := Int.mul_pos hab (show 0 < x - y by omega)
    omega
theorem col_fx {a b y : Int} (ha : 1 ≤ a ∧ a ≤ 8) (hb : 1 ≤ b ∧ b ≤ 8) (hy : 0 ≤ y ∧ y ≤ 2 ^ 24) :
    Float64.mul (fx (2 ^ 27 * b)) (Float64.sub (fx (2 ^ 30)) (fx (8 * (a * y)))) = fx (col a b y) := by
  have h1 := mul_bd (up0 ha).1 ha.2 hy.1 hy.2
  have h2 := col_bd ha hb hy
  have h3 : 0 ≤ 2 ^ 30 - 8 * (a * y) ∧ 2 ^ 30 - 8 * (a * y) ≤ 2 ^ 30 := ⟨Int.sub_nonneg_of_le (Int.mul_le_mul_of_nonneg_left h1.2 (by decide)), Int.sub_le_self _ (Int.mul_nonneg (by decide) h1.1)⟩
  rw [fx_sub (c := 2 ^ 30 - 8 * (a * y)) (by decide) (nbm h1 (by decide)) (nb0 h3 (by decide)) rfl]
  refine fx_mul (nbm (up0 hb) (by decide)) (nb0 h3 (by decide)) (nb0 h2 (by decide)) (Int.mul_nonneg (by decide) (up0 hb).1) h3.1 ?_
  unfold col
  grind
theorem paint_fx {a b z w P c : Int} (ha : 1 ≤ a ∧ a ≤ 8) (hb : 1 ≤ b ∧ b ≤ 8) (hz : 0 < z) (hw : 1 ≤ w ∧ w ≤ 2 ^ 20) (hzw : z * w = 2 ^ 24) :
    paintF P w (fx (2 ^ 27 * a)) (fx (2 ^ 27 * b)) c = fx (col a b (z * offI P w c)) := by
  unfold paintF
  have o0 := offI_lo (p := P) (c := c) (show 0 ≤ w by omega)
  have o1 := offI_hi (p := P) (wh := w) (c := c)
  generalize offI P w c = o at *
  have hy := mul_bd (Int.le_of_lt hz) (Int.le_refl z) o0 o1
  rw [hzw] at hy
  have ha0 := up0 ha
  have hw0 := up0 hw
  have o2 := Int.le_trans o1 hw.2
  have h1 := mul_bd ha0.1 ha.2 hy.1 hy.2
  have h3 := mul_bd ha0.1 ha.2 o0 o2
  rw [fx_ofInt (a := 1) (c := 2 ^ 30) (by decide) rfl, fx_ofInt (a := o) (c := 2 ^ 30 * o) (nbm ⟨o0, o2⟩ (by decide)) (Int.mul_comm _ _), fx_ofInt (a := w) (c := 2 ^ 30 * w) (nbm hw0 (by decide)) (Int.mul_comm _ _)]
  rw [fx_mul (c := 2 ^ 27 * (a * o)) (nbm ha0 (by decide)) (nbm ⟨o0, o2⟩ (by decide)) (nbm h3 (by decide)) (Int.mul_nonneg (by decide) ha0.1) (Int.mul_nonneg (by decide) o0) (by grind)]
  rw [fx_div (c := 8 * (a * (z * o))) (nbm h3 (by decide)) (nbm hw0 (by decide)) (nbm h1 (by decide)) (Int.mul_pos (by decide) hw.1) (by grind)]
  exact col_fx ha hb hy
@[reducible] noncomputable def hsv_fx_S (a b z w G : Int) : Prop := ∀ (ha : 1 ≤ a ∧ a ≤ 8) (hb : 1 ≤ b ∧ b ≤ 8) (hz : 0 < z) (hw : 1 ≤ w ∧ w ≤ 2 ^ 20) (hzw : z * w = 2 ^ 24) (hG : 0 ≤ G ∧ G ≤ 20 * w), Float64.mul (fx (64 * (z * G))) 4618441417868443648 = fx (384 * (z * G)) ∧ PySem.Flt.toInt Float64.truncOf (fx (384 * (z * G))) = 6 * G / w ∧
    hsvF (fx (64 * (z * G))) (fx (2 ^ 27 * a)) (fx (2 ^ 27 * b)) (6 * G / w) = six (Int.fmod (6 * G / w) 6) (fx (2 ^ 27 * b)) (fx (col a b (2 ^ 24))) (fx (col a b (z * (6 * G % w)))) (fx (col a b (2 ^ 24 - z * (6 * G % w))))
namespace hsv_fx_K
@[irreducible] noncomputable def pt : Cx := bad fun c => hsv_fx_S (c.i 0) (c.i 1) (c.i 2) (c.i 3) (c.i 4)
@[irreducible] noncomputable def a : Int := pt.i 0
@[irreducible] noncomputable def b : Int := pt.i 1
@[irreducible] noncomputable def z : Int := pt.i 2
@[irreducible] noncomputable def w : Int := pt.i 3
@[irreducible] noncomputable def G : Int := pt.i 4
theorem main : hsv_fx_S a b z w G := by
  intro ha hb hz hw hzw hG
  have hzG := mul_bd (show 0 ≤ z by omega) (Int.le_refl z) hG.1 hG.2
  have e20 : z * (20 * w) = 20 * 2 ^ 24 := by grind
  rw [e20] at hzG
  have h6 : (4618441417868443648 : UInt64) = fx (6 * 2 ^ 30) := by decide +kernel
  have h1 : (4607182418800017408 : UInt64) = fx (2 ^ 30) := by decide +kernel
  have m1 : Float64.mul (fx (64 * (z * G))) 4618441417868443648 = fx (384 * (z * G)) := by
    rw [h6]
    exact fx_mul (nbm hzG (by decide)) (by decide) (nbm hzG (by decide)) (Int.mul_nonneg (by decide) hzG.1) (by decide) (by omega)
  have hq := Int.mul_ediv_add_emod (6 * G) w
  have hf0 := Int.emod_nonneg (6 * G) (show w ≠ 0 by omega)
  have hf1 := Int.emod_lt_of_pos (6 * G) (show 0 < w by omega)
  have hq0 : 0 ≤ 6 * G / w := Int.ediv_nonneg (by omega) (by omega)
  have hq1 : 6 * G / w ≤ 120 := by
    have : 6 * G / w < 121 := Int.ediv_lt_of_lt_mul (by omega) (by omega)
    omega
  generalize hqq : 6 * G / w = q at *
  generalize hff : 6 * G % w = f at *
  have hy := mul_bd (show 0 ≤ z by omega) (Int.le_refl z) hf0 (show f ≤ w by omega)
  have hy1 : z * f < 2 ^ 24 := by rw [← hzw]; exact Int.mul_lt_mul_of_pos_left hf1 hz
  have hyt : 0 ≤ z * f ∧ z * f ≤ 2 ^ 24 := ⟨hy.1, Int.le_of_lt hy1⟩
  have hyc : 0 ≤ 2 ^ 24 - z * f ∧ 2 ^ 24 - z * f ≤ 2 ^ 24 := ⟨Int.sub_nonneg_of_le hyt.2, Int.sub_le_self _ hyt.1⟩
  have ha0 := up0 ha
  have hsplit : 6 * (z * G) = 2 ^ 24 * q + z * f := by
    have : z * (6 * G) = z * (w * q + f) := by rw [hq]
    grind
  have m2 : PySem.Flt.toInt Float64.truncOf (fx (384 * (z * G))) = q := by
    rw [fx_trunc (nbm hzG (by decide)) (Int.mul_nonneg (by decide) hzG.1), show 384 * (z * G) = 64 * (z * f) + 2 ^ 30 * q by omega, Int.add_mul_ediv_left _ _ (by decide), Int.ediv_eq_zero_of_lt (Int.mul_nonneg (by decide) hyt.1) (show 64 * (z * f) < 2 ^ 30 from Int.mul_lt_mul_of_pos_left (c := 64) hy1 (by decide)), Int.zero_add]
  refine ⟨m1, m2, ?_⟩
  unfold hsvF
  rw [m1, h1]
  rw [fx_ofInt (a := q) (c := 2 ^ 30 * q) (nbm ⟨hq0, hq1⟩ (by decide)) (Int.mul_comm _ _)]
  rw [fx_sub (a := 384 * (z * G)) (c := 64 * (z * f)) (nbm hzG (by decide)) (nbm ⟨hq0, hq1⟩ (by decide)) (nbm hyt (by decide)) (by omega)]
  have a1 := mul_bd ha0.1 ha.2 hy.1 hyt.2
  have a2 := mul_bd ha0.1 ha.2 hyc.1 hyc.2
  have p : Float64.mul (fx (2 ^ 27 * b)) (Float64.sub (fx (2 ^ 30)) (fx (2 ^ 27 * a))) = fx (col a b (2 ^ 24)) := by
    rw [show (2 : Int) ^ 27 * a = 8 * (a * 2 ^ 24) from by omega]
    exact col_fx ha hb (by decide)
  have qq : Float64.mul (fx (2 ^ 27 * b)) (Float64.sub (fx (2 ^ 30)) (Float64.mul (fx (2 ^ 27 * a)) (fx (64 * (z * f))))) = fx (col a b (z * f)) := by
    rw [fx_mul (c := 8 * (a * (z * f))) (nbm ha0 (by decide)) (nbm hyt (by decide)) (nbm a1 (by decide)) (Int.mul_nonneg (by decide) ha0.1) (Int.mul_nonneg (by decide) hyt.1) (by grind)]
    exact col_fx ha hb hyt
  have tt : Float64.mul (fx (2 ^ 27 * b)) (Float64.sub (fx (2 ^ 30)) (Float64.mul (fx (2 ^ 27 * a)) (Float64.sub (fx (2 ^ 30)) (fx (64 * (z * f)))))) = fx (col a b (2 ^ 24 - z * f)) := by
    rw [fx_sub (c := 64 * (2 ^ 24 - z * f)) (by decide) (nbm hyt (by decide)) (nbm hyc (by decide)) (by omega)]
    rw [fx_mul (c := 8 * (a * (2 ^ 24 - z * f))) (nbm ha0 (by decide)) (nbm hyc (by decide)) (nbm a2 (by decide)) (Int.mul_nonneg (by decide) ha0.1) (Int.mul_nonneg (by decide) hyc.1) (by grind)]
    exact col_fx ha hb hyc
  rw [p, qq, tt]
end hsv_fx_K
theorem hsv_fx {a b z w G : Int} : hsv_fx_S a b z w G := @by_bad (fun c => hsv_fx_S (c.i 0) (c.i 1) (c.i 2) (c.i 3) (c.i 4)) (by with_unfolding_all exact hsv_fx_K.main) { cx0 with i := fromL (0) [a, b, z, w, G] }
inductive Tri (T y : Int) : Int → Int → Int → Int → Prop
  | t0 : Tri T y 0 0 (T - y) T
  | t1 : Tri T y 1 y 0 T
  | t2 : Tri T y 2 T 0 (T - y)
  | t3 : Tri T y 3 T y 0
  | t4 : Tri T y 4 (T - y) T 0
  | t5 : Tri T y 5 0 T y
theorem off_at {P w c D M o : Int} (h : 3 * P - c * w = D ∨ 3 * P - c * w = -D) (h0 : 0 ≤ D) (hM : (M = D ∧ D ≤ 3 * w - D) ∨ (M = 3 * w - D ∧ 3 * w - D ≤ D))
    (ho : (o = 0 ∧ 2 * M ≤ w) ∨ (o = w ∧ 2 * w ≤ 2 * M) ∨ (o = 2 * M - w ∧ w ≤ 2 * M ∧ 2 * M ≤ 2 * w)) (hw : 0 ≤ w) : offI P w c = o := by
  have e1 : absI (3 * P - c * w) = D := by
    unfold absI
    rcases h with e | e <;> rw [e] <;> split <;> omega
  have e2 : minI D (3 * w - D) = M := by
    unfold minI
    rcases hM with ⟨e, k⟩ | ⟨e, k⟩
    · rw [if_neg (Int.not_lt.mpr k), e]
    · split
      · exact e.symm
      · rw [e]; exact Int.le_antisymm (Int.not_lt.mp ‹_›) k
  unfold offI
  rw [e1, e2]
  unfold minI maxI
  rcases ho with ⟨rfl, k⟩ | ⟨rfl, k⟩ | ⟨rfl, k, k2⟩
  · rw [if_neg (show ¬ 2 * M - w > 0 from Int.not_lt.mpr (Int.sub_nonpos_of_le k))]
    split
    · rfl
    · omega
  · split <;> split <;> omega
  · split
    · split <;> omega
    · split <;> omega
theorem offs_tri {P w f k : Int} (hw : 1 ≤ w) (hk : 0 ≤ k ∧ k < 6) (hf : 0 ≤ f ∧ f < w) (h : 6 * P = w * k + f) : Tri w f k (offI P w 0) (offI P w 1) (offI P w 2) := by
  have hw0 : 0 ≤ w := by omega
  have := cases6 hk
  rcases this with rfl | rfl | rfl | rfl | rfl | rfl
  · rw [off_at (P := P) (w := w) (c := 0) (D := 3 * P - 0 * w) (M := (3 * P - 0 * w)) (o := 0) (.inl (by omega)) (by omega) (.inl ⟨rfl, by omega⟩) (.inl ⟨rfl, by omega⟩) hw0]
    rw [off_at (P := P) (w := w) (c := 1) (D := 1 * w - 3 * P) (M := (1 * w - 3 * P)) (o := w - f) (.inr (by omega)) (by omega) (.inl ⟨rfl, by omega⟩) (.inr (.inr ⟨by omega, by omega, by omega⟩)) hw0]
    rw [off_at (P := P) (w := w) (c := 2) (D := 2 * w - 3 * P) (M := (3 * w - (2 * w - 3 * P))) (o := w) (.inr (by omega)) (by omega) (.inr ⟨rfl, by omega⟩) (.inr (.inl ⟨rfl, by omega⟩)) hw0]
    exact .t0
  · rw [off_at (P := P) (w := w) (c := 0) (D := 3 * P - 0 * w) (M := (3 * P - 0 * w)) (o := f) (.inl (by omega)) (by omega) (.inl ⟨rfl, by omega⟩) (.inr (.inr ⟨by omega, by omega, by omega⟩)) hw0]
    rw [off_at (P := P) (w := w) (c := 1) (D := 1 * w - 3 * P) (M := (1 * w - 3 * P)) (o := 0) (.inr (by omega)) (by omega) (.inl ⟨rfl, by omega⟩) (.inl ⟨rfl, by omega⟩) hw0]
    rw [off_at (P := P) (w := w) (c := 2) (D := 2 * w - 3 * P) (M := (2 * w - 3 * P)) (o := w) (.inr (by omega)) (by omega) (.inl ⟨rfl, by omega⟩) (.inr (.inl ⟨rfl, by omega⟩)) hw0]
    exact .t1
  · rw [off_at (P := P) (w := w) (c := 0) (D := 3 * P - 0 * w) (M := (3 * P - 0 * w)) (o := w) (.inl (by omega)) (by omega) (.inl ⟨rfl, by omega⟩) (.inr (.inl ⟨rfl, by omega⟩)) hw0]
    rw [off_at (P := P) (w := w) (c := 1) (D := 3 * P - 1 * w) (M := (3 * P - 1 * w)) (o := 0) (.inl (by omega)) (by omega) (.inl ⟨rfl, by omega⟩) (.inl ⟨rfl, by omega⟩) hw0]
    rw [off_at (P := P) (w := w) (c := 2) (D := 2 * w - 3 * P) (M := (2 * w - 3 * P)) (o := w - f) (.inr (by omega)) (by omega) (.inl ⟨rfl, by omega⟩) (.inr (.inr ⟨by omega, by omega, by omega⟩)) hw0]
    exact .t2
  · rw [off_at (P := P) (w := w) (c := 0) (D := 3 * P - 0 * w) (M := (3 * w - (3 * P - 0 * w))) (o := w) (.inl (by omega)) (by omega) (.inr ⟨rfl, by omega⟩) (.inr (.inl ⟨rfl, by omega⟩)) hw0]
    rw [off_at (P := P) (w := w) (c := 1) (D := 3 * P - 1 * w) (M := (3 * P - 1 * w)) (o := f) (.inl (by omega)) (by omega) (.inl ⟨rfl, by omega⟩) (.inr (.inr ⟨by omega, by omega, by omega⟩)) hw0]
    rw [off_at (P := P) (w := w) (c := 2) (D := 2 * w - 3 * P) (M := (2 * w - 3 * P)) (o := 0) (.inr (by omega)) (by omega) (.inl ⟨rfl, by omega⟩) (.inl ⟨rfl, by omega⟩) hw0]
    exact .t3
  · rw [off_at (P := P) (w := w) (c := 0) (D := 3 * P - 0 * w) (M := (3 * w - (3 * P - 0 * w))) (o := w - f) (.inl (by omega)) (by omega) (.inr ⟨rfl, by omega⟩) (.inr (.inr ⟨by omega, by omega, by omega⟩)) hw0]
    rw [off_at (P := P) (w := w) (c := 1) (D := 3 * P - 1 * w) (M := (3 * P - 1 * w)) (o := w) (.inl (by omega)) (by omega) (.inl ⟨rfl, by omega⟩) (.inr (.inl ⟨rfl, by omega⟩)) hw0]
    rw [off_at (P := P) (w := w) (c := 2) (D := 3 * P - 2 * w) (M := (3 * P - 2 * w)) (o := 0) (.inl (by omega)) (by omega) (.inl ⟨rfl, by omega⟩) (.inl ⟨rfl, by omega⟩) hw0]
    exact .t4
  · rw [off_at (P := P) (w := w) (c := 0) (D := 3 * P - 0 * w) (M := (3 * w - (3 * P - 0 * w))) (o := 0) (.inl (by omega)) (by omega) (.inr ⟨rfl, by omega⟩) (.inl ⟨rfl, by omega⟩) hw0]
    rw [off_at (P := P) (w := w) (c := 1) (D := 3 * P - 1 * w) (M := (3 * w - (3 * P - 1 * w))) (o := w) (.inl (by omega)) (by omega) (.inr ⟨rfl, by omega⟩) (.inr (.inl ⟨rfl, by omega⟩)) hw0]
    rw [off_at (P := P) (w := w) (c := 2) (D := 3 * P - 2 * w) (M := (3 * P - 2 * w)) (o := f) (.inl (by omega)) (by omega) (.inl ⟨rfl, by omega⟩) (.inr (.inr ⟨by omega, by omega, by omega⟩)) hw0]
    exact .t5
end
section
local macro_rules | `(tactic| omega) => `(tactic| first | (with_reducible kas_types) | lia)
theorem gt_fx {x y : Int} (hx : x.natAbs < 2 ^ 53) (hy : y.natAbs < 2 ^ 53) : gtF (fx x) (fx y) = true ↔ y < x := by
  unfold gtF
  rw [fx_cmp hx hy]
  rcases Int.lt_trichotomy x y with h | h | h
  · rw [Int.compare_eq_lt.mpr h]; simp; omega
  · rw [Int.compare_eq_eq.mpr h]; simp; omega
  · rw [Int.compare_eq_gt.mpr h]; simp; omega
theorem lt_fx {x y : Int} (hx : x.natAbs < 2 ^ 53) (hy : y.natAbs < 2 ^ 53) : ltF (fx x) (fx y) = true ↔ x < y := by
  unfold ltF
  rw [fx_cmp hx hy]
  rcases Int.lt_trichotomy x y with h | h | h
  · rw [Int.compare_eq_lt.mpr h]; simp; omega
  · rw [Int.compare_eq_eq.mpr h]; simp; omega
  · rw [Int.compare_eq_gt.mpr h]; simp; omega
theorem eq_fx {x y : Int} (hx : x.natAbs < 2 ^ 53) (hy : y.natAbs < 2 ^ 53) : (Float64.cmp (fx x) (fx y) == some Ordering.eq) = true ↔ x = y := by
  rw [fx_cmp hx hy]
  rcases Int.lt_trichotomy x y with h | h | h
  · rw [Int.compare_eq_lt.mpr h]; simp; omega
  · rw [Int.compare_eq_eq.mpr h]; simp; omega
  · rw [Int.compare_eq_gt.mpr h]; simp; omega
theorem fx_self {x : Int} (hx : x.natAbs < 2 ^ 53) : selfEq (fx x) := (eq_fx hx hx).mpr rfl
section
variable {a b y0 y1 y2 : Int}
theorem col_b (ha : 1 ≤ a ∧ a ≤ 8) (hb : 1 ≤ b ∧ b ≤ 8) {y : Int} (hy : 0 ≤ y ∧ y ≤ 2 ^ 24) : (col a b y).natAbs < 2 ^ 53 := by
  exact nb0 (col_bd ha hb hy) (by decide)
theorem max_col (ha : 1 ≤ a ∧ a ≤ 8) (hb : 1 ≤ b ∧ b ≤ 8) (h0 : 0 ≤ y0 ∧ y0 ≤ 2 ^ 24) (h1 : 0 ≤ y1 ∧ y1 ≤ 2 ^ 24) (h2 : 0 ≤ y2 ∧ y2 ≤ 2 ^ 24) (h : y0 = 0 ∨ y1 = 0 ∨ y2 = 0) :
    maxF (fx (col a b y0)) (fx (col a b y1)) (fx (col a b y2)) = fx (col a b 0) := by
  unfold maxF
  simp only [gt_fx (col_b ha hb h0) (col_b ha hb h1), gt_fx (col_b ha hb h1) (col_b ha hb h0), gt_fx (col_b ha hb h2) (col_b ha hb h1), gt_fx (col_b ha hb h2) (col_b ha hb h0), col_lt ha hb]
  split
  · rename_i c1
    split
    · rename_i c2
      rw [z0 h2.1 (Int.le_of_lt (Int.lt_trans c2 c1)) (Int.le_of_lt c2) (Int.le_refl _) h]
    · rename_i c2
      rw [z0 h1.1 (Int.le_of_lt c1) (Int.le_refl _) (Int.not_lt.mp c2) h]
  · rename_i c1
    split
    · rename_i c2
      rw [z0 h2.1 (Int.le_of_lt c2) (Int.le_trans (Int.le_of_lt c2) (Int.not_lt.mp c1)) (Int.le_refl _) h]
    · rename_i c2
      rw [z0 h0.1 (Int.le_refl _) (Int.not_lt.mp c1) (Int.not_lt.mp c2) h]
theorem min_col (ha : 1 ≤ a ∧ a ≤ 8) (hb : 1 ≤ b ∧ b ≤ 8) (h0 : 0 ≤ y0 ∧ y0 ≤ 2 ^ 24) (h1 : 0 ≤ y1 ∧ y1 ≤ 2 ^ 24) (h2 : 0 ≤ y2 ∧ y2 ≤ 2 ^ 24) (h : y0 = 2 ^ 24 ∨ y1 = 2 ^ 24 ∨ y2 = 2 ^ 24) :
    minF (fx (col a b y0)) (fx (col a b y1)) (fx (col a b y2)) = fx (col a b (2 ^ 24)) := by
  unfold minF
  simp only [lt_fx (col_b ha hb h0) (col_b ha hb h1), lt_fx (col_b ha hb h1) (col_b ha hb h0), lt_fx (col_b ha hb h2) (col_b ha hb h1), lt_fx (col_b ha hb h2) (col_b ha hb h0), col_lt ha hb]
  split
  · rename_i c1
    split
    · rename_i c2
      rw [zT h2.2 (Int.le_of_lt (Int.lt_trans c1 c2)) (Int.le_of_lt c2) (Int.le_refl _) h]
    · rename_i c2
      rw [zT h1.2 (Int.le_of_lt c1) (Int.le_refl _) (Int.not_lt.mp c2) h]
  · rename_i c1
    split
    · rename_i c2
      rw [zT h2.2 (Int.le_of_lt c2) (Int.le_trans (Int.not_lt.mp c1) (Int.le_of_lt c2)) (Int.le_refl _) h]
    · rename_i c2
      rw [zT h0.2 (Int.le_refl _) (Int.not_lt.mp c1) (Int.not_lt.mp c2) h]
theorem col_zero : col a b 0 = 2 ^ 27 * b := by unfold col; grind
theorem col_eq (ha : 1 ≤ a ∧ a ≤ 8) (hb : 1 ≤ b ∧ b ≤ 8) {x y : Int} : col a b x = col a b y ↔ x = y := by
  have h1 := @col_lt a b x y ha hb
  have h2 := @col_lt a b y x ha hb
  constructor
  · intro h
    rcases Int.lt_trichotomy x y with k | k | k
    · exact (Int.ne_of_gt (h2.mpr k) h).elim
    · exact k
    · exact (Int.ne_of_lt (h1.mpr k) h).elim
  · intro h; rw [h]
theorem part_fx (ha : 1 ≤ a ∧ a ≤ 8) (hb : 1 ≤ b ∧ b ≤ 8) {y : Int} (hy : 0 ≤ y ∧ y ≤ 2 ^ 24) :
    Float64.div (Float64.sub (fx (col a b 0)) (fx (col a b y))) (Float64.sub (fx (col a b 0)) (fx (col a b (2 ^ 24)))) = fx (64 * y) := by
  have e : ∀ y, col a b 0 - col a b y = a * b * y := fun y => by unfold col; grind
  have hab := mul_bd (up0 ha).1 ha.2 (up0 hb).1 hb.2
  have hab0 : 0 < a * b := Int.mul_pos ha.1 hb.1
  have h1 := mul_bd hab.1 hab.2 hy.1 hy.2
  have h2 := mul_bd hab.1 hab.2 (show (0 : Int) ≤ 2 ^ 24 by decide) (Int.le_refl _)
  rw [fx_sub (col_b ha hb (by decide)) (col_b ha hb hy) (nb0 h1 (by decide)) (e y), fx_sub (col_b ha hb (by decide)) (col_b ha hb (by decide)) (nb0 h2 (by decide)) (e (2 ^ 24))]
  exact fx_div (nb0 h1 (by decide)) (nb0 h2 (by decide)) (nbm hy (by decide)) (Int.mul_pos hab0 (by decide)) (by grind)
theorem sat_fx (ha : 1 ≤ a ∧ a ≤ 8) (hb : 1 ≤ b ∧ b ≤ 8) : Float64.div (Float64.sub (fx (2 ^ 27 * b)) (fx (col a b (2 ^ 24)))) (fx (2 ^ 27 * b)) = fx (2 ^ 27 * a) := by
  have e : ∀ y, 2 ^ 27 * b - col a b y = a * b * y := fun y => by unfold col; grind
  have hab := mul_bd (up0 ha).1 ha.2 (up0 hb).1 hb.2
  have h2 := mul_bd hab.1 hab.2 (show (0 : Int) ≤ 2 ^ 24 by decide) (Int.le_refl _)
  rw [fx_sub (nbm (up0 hb) (by decide)) (col_b ha hb (by decide)) (nb0 h2 (by decide)) (e (2 ^ 24))]
  exact fx_div (nb0 h2 (by decide)) (nbm (up0 hb) (by decide)) (nbm (up0 ha) (by decide)) (Int.mul_pos (by decide) hb.1) (by grind)
theorem tri_bd {T y k y0 y1 y2 : Int} (h : Tri T y k y0 y1 y2) (hy : 0 ≤ y ∧ y < T) : (0 ≤ y0 ∧ y0 ≤ T) ∧ (0 ≤ y1 ∧ y1 ≤ T) ∧ (0 ≤ y2 ∧ y2 ≤ T) ∧ (y0 = 0 ∨ y1 = 0 ∨ y2 = 0) ∧ (y0 = T ∨ y1 = T ∨ y2 = T) ∧ 0 ≤ k ∧ k ≤ 5 := by
  cases h <;> simp <;> omega
theorem tri_h {T y k y0 y1 y2 g : Int} (h : Tri T y k y0 y1 y2) (hy : 0 ≤ y ∧ y < T) (hg : 6 * g = T * k + y) : (y0 = 0 → y2 - y1 = 6 * g ∨ y2 - y1 = 6 * g - 6 * T) ∧ (y0 ≠ 0 → y1 = 0 → 2 * T + y0 - y2 = 6 * g) ∧ (y0 ≠ 0 → y1 ≠ 0 → 4 * T + y1 - y0 = 6 * g) := by
  have hT : T ≠ 0 := Int.ne_of_gt (Int.lt_of_le_of_lt hy.1 hy.2)
  have hTy : T - y ≠ 0 := fun h => Int.ne_of_lt hy.2 (Int.eq_of_sub_eq_zero h).symm
  clear hy
  cases h
  · exact ⟨fun _ => .inl (by omega), fun h => absurd rfl h, fun h => absurd rfl h⟩
  · exact ⟨fun _ => .inl (by omega), fun _ _ => by omega, fun _ h => absurd rfl h⟩
  · exact ⟨fun h => absurd h hT, fun _ _ => by omega, fun _ h => absurd rfl h⟩
  · exact ⟨fun h => absurd h hT, fun _ _ => by omega, fun _ _ => by omega⟩
  · exact ⟨fun h => absurd h hTy, fun _ h => absurd h hT, fun _ _ => by omega⟩
  · exact ⟨fun _ => .inr (by omega), fun h => absurd rfl h, fun h => absurd rfl h⟩
theorem hue_fx (ha : 1 ≤ a ∧ a ≤ 8) (hb : 1 ≤ b ∧ b ≤ 8) {y k : Int} (hy : 0 ≤ y ∧ y < 2 ^ 24) (h : Tri (2 ^ 24) y k y0 y1 y2) {g : Int} (hg : 6 * g = 2 ^ 24 * k + y) :
    (Float64.divmod (Float64.div (hueF (fx (col a b y0)) (fx (col a b y1)) (fx (col a b y2))) 4618441417868443648) 4607182418800017408).snd = fx (64 * g) := by
  have h6 : (4618441417868443648 : UInt64) = fx (6 * 2 ^ 30) := by decide +kernel
  have h1 : (4607182418800017408 : UInt64) = fx (2 ^ 30) := by decide +kernel
  have h2 : (4611686018427387904 : UInt64) = fx (2 * 2 ^ 30) := by decide +kernel
  have h4 : (4616189618054758400 : UInt64) = fx (4 * 2 ^ 30) := by decide +kernel
  obtain ⟨b0, b1, b2, hz0, hzT, hk0, hk5⟩ := tri_bd h hy
  obtain ⟨f1, f2, f3⟩ := tri_h h hy hg
  have hg0 : 0 ≤ g ∧ g < 2 ^ 24 := by omega
  clear h hg
  have hs : ∃ H : Int, hueF (fx (col a b y0)) (fx (col a b y1)) (fx (col a b y2)) = fx H ∧ (H = 6 * (64 * g) ∨ H = 6 * (64 * g - 2 ^ 30)) ∧ H.natAbs < 2 ^ 40 ∧ 0 ≤ g ∧ g < 2 ^ 24 := by
    unfold hueF
    rw [max_col ha hb b0 b1 b2 hz0, min_col ha hb b0 b1 b2 hzT]
    rw [part_fx ha hb b0, part_fx ha hb b1, part_fx ha hb b2]
    simp only [eq_fx (col_b ha hb b0) (col_b ha hb (show 0 ≤ 0 ∧ 0 ≤ 2 ^ 24 by decide)), eq_fx (col_b ha hb b1) (col_b ha hb (show 0 ≤ 0 ∧ 0 ≤ 2 ^ 24 by decide)), col_eq ha hb]
    split
    · rename_i h0
      have f := f1 h0
      clear f1 f2 f3
      have q := nbs (nbM (c := 64) b2) (nbM (c := 64) b1)
      refine ⟨64 * y2 - 64 * y1, fx_sub (nbm b2 (by decide)) (nbm b1 (by decide)) (Nat.lt_of_le_of_lt q (by decide)) rfl, ?_, Nat.lt_of_le_of_lt q (by decide), hg0⟩
      rcases f with f | f
      · left; omega
      · right; omega
    split
    · rename_i h0 h1'
      have f := f2 h0 h1'
      clear f1 f2 f3
      have q1 := nba (Nat.le_refl (2 * 2 ^ 30 : Int).natAbs) (nbM (c := 64) b0)
      have q := nbs q1 (nbM (c := 64) b2)
      rw [h2, fx_add (c := 2 * 2 ^ 30 + 64 * y0) (by decide) (nbm b0 (by decide)) (Nat.lt_of_le_of_lt q1 (by decide)) rfl]
      refine ⟨2 * 2 ^ 30 + 64 * y0 - 64 * y2, fx_sub (Nat.lt_of_le_of_lt q1 (by decide)) (nbm b2 (by decide)) (Nat.lt_of_le_of_lt q (by decide)) rfl, ?_, Nat.lt_of_le_of_lt q (by decide), hg0⟩
      left; omega
    · rename_i h0 h1'
      have f := f3 h0 h1'
      clear f1 f2 f3
      have q1 := nba (Nat.le_refl (4 * 2 ^ 30 : Int).natAbs) (nbM (c := 64) b1)
      have q := nbs q1 (nbM (c := 64) b0)
      rw [h4, fx_add (c := 4 * 2 ^ 30 + 64 * y1) (by decide) (nbm b1 (by decide)) (Nat.lt_of_le_of_lt q1 (by decide)) rfl]
      refine ⟨4 * 2 ^ 30 + 64 * y1 - 64 * y0, fx_sub (Nat.lt_of_le_of_lt q1 (by decide)) (nbm b0 (by decide)) (Nat.lt_of_le_of_lt q (by decide)) rfl, ?_, Nat.lt_of_le_of_lt q (by decide), hg0⟩
      left; omega
  obtain ⟨H, eH, hH, hb1, hg0, hg1⟩ := hs
  rw [eH, h6, h1]
  have hHb := Nat.lt_trans hb1 (show 2 ^ 40 < 2 ^ 53 by decide)
  have hgl : 0 ≤ g ∧ g ≤ 2 ^ 24 := ⟨hg0, Int.le_of_lt hg1⟩
  have hge : 64 * g % 2 ^ 30 = 64 * g := Int.emod_eq_of_lt (Int.mul_nonneg (by decide) hg0) (show 64 * g < 2 ^ 30 from Int.mul_lt_mul_of_pos_left (c := 64) hg1 (by decide))
  rcases hH with e | e
  · rw [fx_div (c := 64 * g) hHb (by decide) (nbm hgl (by decide)) (by decide) (by omega), fx_mod (nbm hgl (by decide)) (by decide) (by decide), hge]
  · have q := Nat.lt_of_le_of_lt (nbs (nbM (c := 64) hgl) (Nat.le_refl (2 ^ 30 : Int).natAbs)) (show _ < 2 ^ 53 by decide)
    rw [fx_div (c := 64 * g - 2 ^ 30) hHb (by decide) q (by decide) (by omega), fx_mod q (by decide) (by decide), Int.sub_emod_right, hge]
end
end
section
local macro_rules | `(tactic| omega) => `(tactic| first | (with_reducible kas_types) | lia)
theorem eighth_fx {a : Nat} (h : a ≤ 8) : eighth a = fx (2 ^ 27 * (a : Int)) := by
  unfold eighth
  exact fx_frac (by decide) (nbm ⟨Int.natCast_nonneg a, Int.ofNat_le.mpr h⟩ (by decide)) (Int.mul_nonneg (by decide) (Int.natCast_nonneg a)) (by rw [Int.natAbs_mul, Int.natAbs_natCast]; show 2 ^ 27 * a * 8 = a * 2 ^ 30; rw [Nat.mul_comm (2 ^ 27), Nat.mul_assoc])
theorem hueB_fx {gn z : Int} {W : Nat} (hz : 0 < z) (hzw : z * 2 ^ W = 2 ^ 24) (hg : 0 ≤ gn) (hb : z * gn ≤ 20 * 2 ^ 24) : hueB gn W = fx (64 * (z * gn)) := by
  unfold hueB
  have hp : (0 : Int) < 2 ^ W := Int.pow_pos (by decide)
  have h0 : 0 ≤ z * gn := Int.mul_nonneg (by omega) hg
  have e1 : decide (gn < 0) = false := by simp; omega
  have e2 : decide ((2 : Int) ^ W < 0) = false := by simp; omega
  rw [e1, e2]
  refine fx_frac (Int.natAbs_pos.mpr (Int.ne_of_gt hp)) (nbm ⟨h0, hb⟩ (by decide)) (Int.mul_nonneg (by decide) h0) ?_
  rw [← Int.natAbs_mul, show 64 * (z * gn) * (2 : Int) ^ W = gn * 2 ^ 30 from by grind, Int.natAbs_mul]
  rfl
theorem hg6l {z W q f p T : Int} (hz : z * W = T) (h1 : z * (6 * p) = z * (W * q + f)) : 6 * (z * p) = T * q + z * f := by rw [Int.mul_left_comm, h1, Int.mul_add, ← Int.mul_assoc, hz]
theorem tri_scale {w z f k o0 o1 o2 : Int} (hzw : z * w = 2 ^ 24) (h : Tri w f k o0 o1 o2) : Tri (2 ^ 24) (z * f) k (z * o0) (z * o1) (z * o2) := by
  have e : z * (w - f) = 2 ^ 24 - z * f := by rw [Int.mul_sub, hzw]
  cases h
  · rw [e, hzw, Int.mul_zero]; exact .t0
  · rw [hzw, Int.mul_zero]; exact .t1
  · rw [e, hzw, Int.mul_zero]; exact .t2
  · rw [hzw, Int.mul_zero]; exact .t3
  · rw [e, hzw, Int.mul_zero]; exact .t4
  · rw [hzw, Int.mul_zero]; exact .t5
theorem Tri.has0 {T y k a b c : Int} (h : Tri T y k a b c) : a = 0 ∨ b = 0 ∨ c = 0 := by cases h <;> simp
theorem Tri.hasT {T y k a b c : Int} (h : Tri T y k a b c) : a = T ∨ b = T ∨ c = T := by cases h <;> simp
@[reducible] noncomputable def hue_ok_S (a b : Nat) (gn : Int) (W : Nat) : Prop := ∀ (ha : 1 ≤ a ∧ a ≤ 8) (hb : 1 ≤ b ∧ b ≤ 8) (h3 : 3 ≤ W) (h20 : W ≤ 20) (hg : 0 ≤ gn ∧ gn ≤ 20 * 2 ^ W), HueOk (eighth a) (eighth b) gn W
namespace hue_ok_K
@[irreducible] noncomputable def pt : Cx := bad fun c => hue_ok_S (c.n 0) (c.n 1) (c.i 0) (c.n 2)
@[irreducible] noncomputable def a : Nat := pt.n 0
@[irreducible] noncomputable def b : Nat := pt.n 1
@[irreducible] noncomputable def gn : Int := pt.i 0
@[irreducible] noncomputable def W : Nat := pt.n 2
theorem main : hue_ok_S a b gn W := by
  intro ha hb h3 h20 hg
  obtain ⟨z, hz, hzw⟩ : ∃ z : Int, 0 < z ∧ z * 2 ^ W = 2 ^ 24 := ⟨2 ^ (24 - W), Int.pow_pos (by decide), by rw [← Int.pow_add, Nat.sub_add_cancel (Nat.le_trans h20 (by decide))]⟩
  have hw : 1 ≤ (2 : Int) ^ W ∧ (2 : Int) ^ W ≤ 2 ^ 20 := by
    constructor
    · exact Int.pow_pos (by decide)
    · have := Nat.pow_le_pow_right (n := 2) (by decide) h20
      have e : ((2 ^ W : Nat) : Int) = (2 : Int) ^ W := by simp
      omega
  have hP : gn.fmod (2 ^ W) = gn % 2 ^ W := Int.fmod_eq_emod_of_nonneg _ (up0 hw).1
  have hw0 := Int.ne_of_gt (show (0 : Int) < 2 ^ W from hw.1)
  have hP0 := Int.emod_nonneg gn hw0
  have hP1 := Int.emod_lt_of_pos gn (show (0 : Int) < 2 ^ W from hw.1)
  have hPe := Int.mul_ediv_add_emod gn (2 ^ W)
  rw [eighth_fx ha.2, eighth_fx hb.2]
  have ha' : 1 ≤ (a : Int) ∧ (a : Int) ≤ 8 := ⟨Int.ofNat_le.mpr ha.1, Int.ofNat_le.mpr ha.2⟩
  have hb' : 1 ≤ (b : Int) ∧ (b : Int) ≤ 8 := ⟨Int.ofNat_le.mpr hb.1, Int.ofNat_le.mpr hb.2⟩
  generalize (a : Int) = A at *
  generalize (b : Int) = B at *
  have hzg := mul_bd (Int.le_of_lt hz) (Int.le_refl z) hg.1 hg.2
  have e20 : z * (20 * 2 ^ W) = 20 * 2 ^ 24 := by grind
  rw [e20] at hzg
  have hzP := mul_bd (Int.le_of_lt hz) (Int.le_refl z) hP0 (Int.le_of_lt hP1)
  rw [hzw] at hzP
  have hzP' := hzP
  have hq3 := nbm (c := 2 ^ 30) (N := 2 ^ 53) ⟨hP0, Int.le_trans (Int.le_of_lt hP1) hw.2⟩ (by decide)
  have hB := hueB_fx hz hzw hg.1 hzg.2
  have hBP := hueB_fx hz hzw hP0 (Int.le_trans hzP.2 (by decide))
  obtain ⟨m1, m2, m3⟩ := hsv_fx ha' hb' hz hw hzw hg
  obtain ⟨j, hj⟩ : ∃ j, gn / 2 ^ W = j := ⟨_, rfl⟩
  rw [hj] at hPe
  have hmod : 6 * gn % 2 ^ W = 6 * (gn % 2 ^ W) % 2 ^ W := by
    have : 6 * gn = 6 * (gn % 2 ^ W) + 2 ^ W * (6 * j) := by grind
    rw [this, Int.add_mul_emod_self_left]
  have hdiv : 6 * gn / 2 ^ W = 6 * (gn % 2 ^ W) / 2 ^ W + 6 * j := by
    have : 6 * gn = 6 * (gn % 2 ^ W) + 2 ^ W * (6 * j) := by grind
    rw [this, Int.add_mul_ediv_left _ _ hw0]
  have hk0 : 0 ≤ 6 * (gn % 2 ^ W) / 2 ^ W := Int.ediv_nonneg (Int.mul_nonneg (by decide) hP0) (up0 hw).1
  have hk6 : 6 * (gn % 2 ^ W) / 2 ^ W < 6 := Int.ediv_lt_of_lt_mul hw.1 (Int.mul_lt_mul_of_pos_left hP1 (by decide))
  have hf0 := Int.emod_nonneg (6 * (gn % 2 ^ W)) hw0
  have hf1 := Int.emod_lt_of_pos (6 * (gn % 2 ^ W)) (show (0 : Int) < 2 ^ W from hw.1)
  have hfe := Int.mul_ediv_add_emod (6 * (gn % 2 ^ W)) (2 ^ W)
  rw [hmod] at m3
  have hsix : Int.fmod (6 * gn / 2 ^ W) 6 = 6 * (gn % 2 ^ W) / 2 ^ W := by
    rw [Int.fmod_eq_emod_of_nonneg _ (by decide), hdiv, Int.add_mul_emod_self_left, Int.emod_eq_of_lt hk0 hk6]
  rw [hsix] at m3
  have htri := tri_scale hzw (offs_tri hw.1 ⟨hk0, hk6⟩ ⟨hf0, hf1⟩ hfe.symm)
  have hp : ∀ c, paintF (gn % 2 ^ W) (2 ^ W) (fx (2 ^ 27 * A)) (fx (2 ^ 27 * B)) c = fx (col A B (z * offI (gn % 2 ^ W) (2 ^ W) c)) := fun c => paint_fx ha' hb' hz hw hzw
  have ho : ∀ c, 0 ≤ z * offI (gn % 2 ^ W) (2 ^ W) c ∧ z * offI (gn % 2 ^ W) (2 ^ W) c ≤ 2 ^ 24 := fun c => by
    have := mul_bd (Int.le_of_lt hz) (Int.le_refl z) (offI_lo (p := gn % 2 ^ W) (c := c) (up0 hw).1) offI_hi
    rw [hzw] at this
    exact this
  have hy0 := Int.mul_nonneg (Int.le_of_lt hz) hf0
  have hy1 : z * (6 * (gn % 2 ^ W) % 2 ^ W) < 2 ^ 24 := by rw [← hzw]; exact Int.mul_lt_mul_of_pos_left hf1 hz
  have hg6 : 6 * (z * (gn % 2 ^ W)) = 2 ^ 24 * (6 * (gn % 2 ^ W) / 2 ^ W) + z * (6 * (gn % 2 ^ W) % 2 ^ W) := by
    have h1 : z * (6 * (gn % 2 ^ W)) = z * (2 ^ W * (6 * (gn % 2 ^ W) / 2 ^ W) + 6 * (gn % 2 ^ W) % 2 ^ W) := by rw [hfe]
    exact hg6l hzw h1
  have hhue := hue_fx ha' hb' ⟨hy0, hy1⟩ htri hg6
  have hW1 : Float64.ofInt (2 ^ W) = fx (2 ^ 30 * 2 ^ W) := fx_ofInt (nbm (up0 hw) (by decide)) (Int.mul_comm _ _)
  have hmi : Float64.mul (fx (64 * (z * (gn % 2 ^ W)))) (fx (2 ^ 30 * 2 ^ W)) = fx (2 ^ 30 * (gn % 2 ^ W)) := by
    refine fx_mul (nbm hzP (by decide)) (nbm (up0 hw) (by decide)) hq3 (Int.mul_nonneg (by decide) hzP.1) (Int.mul_nonneg (by decide) (up0 hw).1) ?_
    generalize gn % 2 ^ W = p at *
    grind
  rw [← hP] at hp ho hhue hzP
  have hmx : maxF (paintF (gn.fmod (2 ^ W)) (2 ^ W) (fx (2 ^ 27 * A)) (fx (2 ^ 27 * B)) 0) (paintF (gn.fmod (2 ^ W)) (2 ^ W) (fx (2 ^ 27 * A)) (fx (2 ^ 27 * B)) 1) (paintF (gn.fmod (2 ^ W)) (2 ^ W) (fx (2 ^ 27 * A)) (fx (2 ^ 27 * B)) 2) = fx (2 ^ 27 * B) := by
    rw [hp, hp, hp, max_col ha' hb' (ho 0) (ho 1) (ho 2) (by rw [hP]; exact htri.has0), col_zero]
  have hmn : minF (paintF (gn.fmod (2 ^ W)) (2 ^ W) (fx (2 ^ 27 * A)) (fx (2 ^ 27 * B)) 0) (paintF (gn.fmod (2 ^ W)) (2 ^ W) (fx (2 ^ 27 * A)) (fx (2 ^ 27 * B)) 1) (paintF (gn.fmod (2 ^ W)) (2 ^ W) (fx (2 ^ 27 * A)) (fx (2 ^ 27 * B)) 2) = fx (col A B (2 ^ 24)) := by
    rw [hp, hp, hp, min_col ha' hb' (ho 0) (ho 1) (ho 2) (by rw [hP]; exact htri.hasT)]
  have hrange : Float64.sub (fx (2 ^ 27 * B)) (fx (col A B (2 ^ 24))) = fx (A * B * 2 ^ 24) ∧ 0 < A * B ∧ A * B ≤ 64 := by
    have hab := mul_bd (up0 ha').1 ha'.2 (up0 hb').1 hb'.2
    refine ⟨fx_sub (nbm (up0 hb') (by decide)) (col_b ha' hb' (by decide)) (nb0 (mul_bd hab.1 hab.2 (by decide) (Int.le_refl _)) (by decide)) (by unfold col; grind), Int.mul_pos ha'.1 hb'.1, Int.le_trans hab.2 (by decide)⟩
  constructor
  case fin => rw [hB]; simp [fx_fin (show (64 * (z * gn)).natAbs < 2 ^ 53 from nbm hzg (by decide))]
  case hs =>
    have h0 : (0 : UInt64) = fx 0 := by decide +kernel
    rw [h0]
    have := @eq_fx (2 ^ 27 * A) 0 (nbm (up0 ha') (by decide)) (by decide)
    rw [Bool.eq_false_iff]
    intro h
    exact Int.ne_of_gt (Int.mul_pos (by decide) ha'.1) (this.mp h)
  case nan => rw [hB, m1]; exact (fx_fin (nbm hzg (by decide))).1
  case inf => rw [hB, m1]; exact (fx_fin (nbm hzg (by decide))).2
  case bd =>
    rw [hB, m1, m2]
    have h1 : 0 ≤ 6 * gn / 2 ^ W := Int.ediv_nonneg (Int.mul_nonneg (by decide) hg.1) (up0 hw).1
    have h2 : 6 * gn / 2 ^ W < 121 := Int.ediv_lt_of_lt_mul hw.1 (by omega)
    refine Nat.lt_trans (nb0 (B := 120) (N := 121) ⟨h1, Int.le_of_lt_add_one h2⟩ (by decide)) (by decide +kernel)
  case paint =>
    rw [hB, m1, m2, m3, hp, hp, hp, hP]
    have e0 := @col_zero A B
    generalize 6 * (gn % 2 ^ W) / 2 ^ W = k at htri ⊢
    generalize z * offI (gn % 2 ^ W) (2 ^ W) 0 = y0 at htri ⊢
    generalize z * offI (gn % 2 ^ W) (2 ^ W) 1 = y1 at htri ⊢
    generalize z * offI (gn % 2 ^ W) (2 ^ W) 2 = y2 at htri ⊢
    generalize z * (6 * (gn % 2 ^ W) % 2 ^ W) = y at htri ⊢
    cases htri <;> rw [e0] <;> rfl
  case self0 => rw [hp]; exact fx_self (col_b ha' hb' (ho 0))
  case self1 => rw [hp]; exact fx_self (col_b ha' hb' (ho 1))
  case self2 => rw [hp]; exact fx_self (col_b ha' hb' (ho 2))
  case mm =>
    rw [hmx, hmn, Bool.eq_false_iff]
    intro h
    have := (eq_fx (col_b ha' hb' (by decide)) (nbm (up0 hb') (by decide))).mp h
    rw [← col_zero (a := A)] at this
    exact absurd ((col_eq ha' hb').mp this) (by decide)
  case mx => exact hmx
  case z1 => exact fx_isZero (nbm (up0 hb') (by decide)) (Int.ne_of_gt (Int.mul_pos (by decide) hb'.1))
  case z2 => rw [hmn, hrange.1]; exact fx_isZero (nb0 (mul_bd (Int.le_of_lt hrange.2.1) hrange.2.2 (by decide) (Int.le_refl _)) (by decide)) (Int.ne_of_gt (Int.mul_pos hrange.2.1 (by decide)))
  case hue => rw [hp, hp, hp, hP, hBP]; rw [hP] at hhue; exact hhue
  case sat => rw [hmn]; exact sat_fx ha' hb'
  case finp => rw [hP, hBP]; simp [fx_fin (show (64 * (z * (gn % 2 ^ W))).natAbs < 2 ^ 53 from nbm hzP' (by decide))]
  case selfp => rw [hP, hBP]; exact fx_self (nbm hzP' (by decide))
  case selfs => exact fx_self (nbm (up0 ha') (by decide))
  case selfv => exact fx_self (nbm (up0 hb') (by decide))
  case finw => rw [hW1, (fx_fin (nbm (up0 hw) (by decide))).2]; decide
  case nani => rw [hP, hBP, hW1, hmi]; exact (fx_fin hq3).1
  case infi => rw [hP, hBP, hW1, hmi]; exact (fx_fin hq3).2
  case int => rw [hP, hBP, hW1, hmi, fx_trunc hq3 (Int.mul_nonneg (by decide) hP0), Int.mul_ediv_cancel_left _ (by decide)]
end hue_ok_K
theorem hue_ok {a b : Nat} {gn : Int} {W : Nat} : hue_ok_S a b gn W := @by_bad (fun c => hue_ok_S (c.n 0) (c.n 1) (c.i 0) (c.n 2)) (by with_unfolding_all exact hue_ok_K.main) { cx0 with n := fromL (0) [a, b, W], i := fromL (0) [gn] }
end
section
local macro_rules | `(tactic| omega) => `(tactic| first | (with_reducible kas_types) | lia)
noncomputable def stepJ (c a b i : Int) : Int := if i + a < c then i + a else if i ≥ b then i - b else i + a - b
theorem add_mod {w : Int} (hw : 0 < w) (x y : Int) : (x + y) % w = x % w + y % w ∨ (x + y) % w = x % w + y % w - w := by
  have h0 := Int.emod_nonneg x (show w ≠ 0 by omega)
  have h1 := Int.emod_lt_of_pos x hw
  have h2 := Int.emod_nonneg y (show w ≠ 0 by omega)
  have h3 := Int.emod_lt_of_pos y hw
  rw [Int.add_emod]
  by_cases h : x % w + y % w < w
  · exact .inl (Int.emod_eq_of_lt (Int.add_nonneg (Int.emod_nonneg _ (Int.ne_of_gt hw)) (Int.emod_nonneg _ (Int.ne_of_gt hw))) h)
  · right
    have e : x % w + y % w = (x % w + y % w - w) + w := by omega
    rw [e, Int.add_emod_right]
    rw [Int.emod_eq_of_lt (by omega) (by omega)]
    omega
section
variable {w lap c a b : Int}
noncomputable def rr (w lap m : Int) : Int := (m * lap) % w
theorem rr_add (hw : 0 < w) (m n : Int) : rr w lap (m + n) = rr w lap m + rr w lap n ∨ rr w lap (m + n) = rr w lap m + rr w lap n - w := by
  unfold rr
  rw [Int.add_mul]
  exact add_mod hw _ _
theorem rr_bd (hw : 0 < w) (m : Int) : 0 ≤ rr w lap m ∧ rr w lap m < w := ⟨Int.emod_nonneg _ (Int.ne_of_gt hw), Int.emod_lt_of_pos _ hw⟩
theorem rr_zero : rr w lap 0 = 0 := by unfold rr; rw [Int.zero_mul, Int.zero_emod]
theorem rr_neg (hw : 0 < w) (m : Int) : rr w lap (-m) = -rr w lap m ∨ rr w lap (-m) = w - rr w lap m := by
  have h := rr_add (w := w) (lap := lap) hw m (-m)
  rw [Int.add_right_neg, rr_zero] at h
  rcases h with h | h
  · left; omega
  · right; omega
theorem rr_wrap (hw : 0 < w) {x y : Int} (h : rr w lap (x + y) ≤ rr w lap y) (hx : rr w lap x ≠ 0) : rr w lap (x + y) = rr w lap x + rr w lap y - w :=
  (rr_add hw x y).resolve_left fun e => hx (Int.le_antisymm (Int.le_of_add_le_add_right (show rr w lap x + rr w lap y ≤ 0 + rr w lap y by rw [Int.zero_add, ← e]; exact h)) (rr_bd hw x).1)
theorem rr_flat (hw : 0 < w) {x y : Int} (h : rr w lap y ≤ rr w lap (x + y)) : rr w lap (x + y) = rr w lap x + rr w lap y :=
  (rr_add hw x y).resolve_right fun e => by
    have := (rr_bd (lap := lap) hw x).2
    omega
theorem rr_opp (hw : 0 < w) {m : Int} (h : rr w lap m ≠ 0) : rr w lap (-m) = w - rr w lap m :=
  (rr_neg hw m).resolve_left fun e => h (Int.le_antisymm (Int.neg_nonneg.mp (e ▸ (rr_bd hw (-m)).1)) (rr_bd hw m).1)
end
@[reducible] noncomputable def succ_least_S (w lap c a b i : Int) : Prop := ∀ (hw : 0 < w) (hnz : ∀ m, 1 ≤ m → m < c → rr w lap m ≠ 0) (ha : 1 ≤ a ∧ a < c) (hb : 1 ≤ b ∧ b < c) (hmin : ∀ m, 1 ≤ m → m < c → rr w lap a ≤ rr w lap m) (hmax : ∀ m, 1 ≤ m → m < c → rr w lap m ≤ rr w lap b) (hi : 0 ≤ i ∧ i < c), (0 ≤ stepJ c a b i ∧ stepJ c a b i < c) ∧ rr w lap (stepJ c a b i - i) ≠ 0 ∧ ∀ k, 0 ≤ k → k < c → k ≠ i → rr w lap (stepJ c a b i - i) ≤ rr w lap (k - i)
namespace succ_least_K
@[irreducible] noncomputable def pt : Cx := bad fun c => succ_least_S (c.i 0) (c.i 1) (c.i 2) (c.i 3) (c.i 4) (c.i 5)
@[irreducible] noncomputable def w : Int := pt.i 0
@[irreducible] noncomputable def lap : Int := pt.i 1
@[irreducible] noncomputable def c : Int := pt.i 2
@[irreducible] noncomputable def a : Int := pt.i 3
@[irreducible] noncomputable def b : Int := pt.i 4
@[irreducible] noncomputable def i : Int := pt.i 5
theorem main : succ_least_S w lap c a b i := by
  intro hw hnz ha hb hmin hmax hi
  unfold stepJ
  split
  · rename_i h1
    rw [show i + a - i = a by omega]
    refine ⟨⟨by omega, h1⟩, hnz a ha.1 ha.2, fun k k0 k1 k2 => ?_⟩
    rcases Int.lt_or_le i k with h | h
    · exact hmin _ (by omega) (by omega)
    · have e := rr_flat hw (hmin (i - k + a) (by omega) (by omega))
      have hsb := (rr_bd (lap := lap) hw (i - k + a)).2
      rw [show k - i = -(i - k) by omega, rr_opp hw (hnz (i - k) (by omega) (by omega))]
      rw [e, Int.add_comm] at hsb
      exact Int.le_sub_right_of_add_le (Int.le_of_lt hsb)
  split
  · rename_i h1 h2
    rw [show i - b - i = -b by omega, rr_opp hw (hnz b hb.1 hb.2)]
    refine ⟨⟨by omega, by omega⟩, fun e => Int.ne_of_gt (rr_bd (lap := lap) hw b).2 (Int.eq_of_sub_eq_zero e), fun k k0 k1 k2 => ?_⟩
    rcases Int.lt_or_le i k with h | h
    · have e := rr_wrap hw (hmax (k - i + b) (by omega) (by omega)) (hnz (k - i) (by omega) (by omega))
      have hsb := (rr_bd (lap := lap) hw (k - i + b)).1
      rw [e] at hsb
      exact Int.sub_right_le_of_le_add (Int.le_of_sub_nonneg hsb)
    · rw [show k - i = -(i - k) by omega, rr_opp hw (hnz (i - k) (by omega) (by omega))]
      exact Int.sub_le_sub_left (hmax (i - k) (by omega) (by omega)) w
  · rename_i h1 h2
    rw [show i + a - b - i = a + -b by omega]
    have hab : rr w lap (a + -b) ≠ 0 := by
      rcases Int.lt_trichotomy a b with h | h | h
      · have h5 := hnz (b - a) (by omega) (by omega)
        rw [show a + -b = -(b - a) by omega, rr_opp hw h5]
        exact fun e => Int.ne_of_gt (rr_bd (lap := lap) hw (b - a)).2 (Int.eq_of_sub_eq_zero e)
      · exfalso
        have c3 : 1 < c ∧ 1 + 1 < c := by omega
        have p1 := hmin 1 (by decide) c3.1
        have p2 := hmax 1 (by decide) c3.1
        have p3 := hmin (1 + 1) (by decide) c3.2
        have p4 := hmax (1 + 1) (by decide) c3.2
        rw [h] at p1 p3
        have e1 := rr_flat hw (Int.le_trans p2 p3)
        have e2 := rr_wrap hw (Int.le_trans p4 p1) (hnz 1 (by decide) c3.1)
        rw [e1] at e2
        exact Int.ne_of_gt (Int.sub_lt_self _ hw) e2
      · have h5 := hnz (a - b) (by omega) (by omega)
        exact h5
    have ebn := rr_opp hw (hnz b hb.1 hb.2)
    have hE : rr w lap (a + -b) = w + rr w lap a - rr w lap b := by
      rcases rr_add (lap := lap) hw a (-b) with e | e
      · rw [e, ebn]; omega
      · exfalso
        have q := hmin b hb.1 hb.2
        have q1 := (rr_bd (lap := lap) hw (a + -b)).1
        rw [ebn] at e
        omega
    refine ⟨⟨by omega, by omega⟩, hab, fun k k0 k1 k2 => ?_⟩
    rw [hE]
    rcases Int.lt_or_le i k with h | h
    · -- forward by m = k - i < a
      have hd := hmax (a - (k - i)) (by omega) (by omega)
      have hm := hmin (k - i) (by omega) (by omega)
      have hs := rr_wrap (x := a - (k - i)) (y := k - i) hw (by rw [Int.sub_add_cancel]; exact hm) (hnz _ (by omega) (by omega))
      rw [Int.sub_add_cancel] at hs
      rw [hs]; clear hs
      omega
    · have hm := hnz (i - k) (by omega) (by omega)
      have hmm := hmax (i - k) (by omega) (by omega)
      have hd := hmin (b - (i - k)) (by omega) (by omega)
      have hs := rr_flat (x := b - (i - k)) (y := i - k) hw (by rw [Int.sub_add_cancel]; exact hmm)
      rw [Int.sub_add_cancel] at hs
      rw [show k - i = -(i - k) by omega, rr_opp hw hm, hs]; clear hs
      omega
end succ_least_K
theorem succ_least {w lap c a b i : Int} : succ_least_S w lap c a b i := @by_bad (fun c => succ_least_S (c.i 0) (c.i 1) (c.i 2) (c.i 3) (c.i 4) (c.i 5)) (by with_unfolding_all exact succ_least_K.main) { cx0 with i := fromL (0) [w, lap, c, a, b, i] }
end
section
local macro_rules | `(tactic| omega) => `(tactic| first | (with_reducible kas_types) | lia)
noncomputable def qrun : List Nat → List Nat → Nat → Option (List Nat × Nat)
  | [], _, _ => none
  | c :: r, tok, n => if c = 34 then some (tok, n + 1) else if c = 92 then (match r with | [] => none | d :: r' => qrun r' (tok ++ [d]) (n + 2)) else qrun r (tok ++ [c]) (n + 1)
noncomputable def prun : List Nat → List Nat → Nat → Option (List Nat × Nat)
  | [], _, _ => none
  | c :: r, tok, n => if isWs ⟨#[c]⟩ = true then some (tok, n + 1) else if c = 92 then (match r with | [] => none | d :: r' => prun r' (tok ++ [d]) (n + 2)) else prun r (tok ++ [c]) (n + 1)
noncomputable def orun : List Nat → Option (List Nat × Nat)
  | [] => none
  | c :: r => if isWs ⟨#[c]⟩ = true then none else if c = 34 then qrun r [] 1 else if c = 92 then (match r with | [] => none | d :: r' => prun r' [d] 2) else prun r [c] 1
noncomputable def okW (lv y g : Nat) : Bool :=
  let wr := (writtenT (wordT lv) y (gapsL.getD g Str.empty)).cps.toList
  match orun wr with
  | some (t, n) => t == (wordT lv).cps.toList && decide (n ≤ wr.length) && (wr.drop n).all (fun c => isWs ⟨#[c]⟩)
  | none => false
theorem all_ok : ∀ lv, lv < 73 → ∀ y, y < 4 → ∀ g, g < 5 → okW lv y g = true := by decide +kernel
theorem chr_at {x : Str} {k c : Nat} (h : x.cps[k]? = some c) : chr1 x k = ⟨#[c]⟩ := by unfold chr1; rw [h]
theorem chr_end {x : Str} {k : Nat} (h : x.cps.size ≤ k) : chr1 x k = Str.ofString "" := by
  unfold chr1
  rw [Array.getElem?_eq_none h]
  decide +kernel
theorem one_inj {c d : Nat} (h : (⟨#[c]⟩ : Str) = ⟨#[d]⟩) : c = d := by simpa using h
theorem q_is : Str.ofString "\"" = ⟨#[34]⟩ := by decide +kernel
theorem b_is : Str.ofString "\\" = ⟨#[92]⟩ := by decide +kernel
theorem n_is : Str.ofString "\n" = ⟨#[10]⟩ := by decide +kernel
theorem e_is : Str.ofString "" = ⟨#[]⟩ := by decide +kernel
theorem one_ne {c : Nat} : (⟨#[c]⟩ : Str) ≠ Str.ofString "" := by rw [e_is]; intro h; simp at h
theorem add_one (t : List Nat) (c : Nat) : (⟨t.toArray⟩ : Str) ++ (⟨#[c]⟩ : Str) = ⟨(t ++ [c]).toArray⟩ := by
  show Str.append _ _ = _
  unfold Str.append
  simp
noncomputable def LiesAt (x : Str) (k : Nat) (l : List Nat) : Prop := ∀ i (h : i < l.length), x.cps[k + i]? = some l[i]
theorem LiesAt.head {x : Str} {k c : Nat} {r : List Nat} (h : LiesAt x k (c :: r)) : x.cps[k]? = some c := h 0 (by simp)
theorem LiesAt.tail {x : Str} {k c : Nat} {r : List Nat} (h : LiesAt x k (c :: r)) : LiesAt x (k + 1) r := fun i hi => by
  have := h (i + 1) (by simp; omega)
  rw [show k + 1 + i = k + (i + 1) by omega]
  simpa using this
theorem qrun_ok {x : Str} : ∀ (m : Nat) (l tok : List Nat) (n k : Nat) (t : List Nat) (n' : Nat), l.length ≤ m → qrun l tok n = some (t, n') → LiesAt x k l → ∃ j, QRun x j k ⟨tok.toArray⟩ ⟨t.toArray⟩ (k + (n' - n)) ∧ n < n'
  | _, [], _, _, _, _, _, _, h, _ => by simp [qrun] at h
  | 0, _ :: _, _, _, _, _, _, hm, _, _ => by simp at hm
  | m + 1, c :: r, tok, n, k, t, n', hm, h, hl => by
    have hc := chr_at hl.head
    unfold qrun at h
    split at h
    · rename_i e
      injection h with h
      injection h with h1 h2
      subst h1 h2 e
      exact ⟨0, by rw [show k + (n + 1 - n) = k + 1 by rw [Nat.add_sub_cancel_left]]; exact .close (by rw [hc, q_is]), by omega⟩
    rename_i e1
    split at h
    · rename_i e
      subst e
      cases r with
      | nil => simp at h
      | cons d r' =>
        simp only at h
        obtain ⟨j, hj, hn⟩ := qrun_ok m r' (tok ++ [d]) (n + 2) (k + 2) t n' (by simp at hm ⊢; omega) h hl.tail.tail
        have hd := chr_at hl.tail.head
        refine ⟨j + 1, .esc (by rw [hc, b_is]) ?_, by omega⟩
        rw [hd, add_one, hopn (d := 2) (Nat.le_of_lt hn)]
        exact hj
    · rename_i e2
      obtain ⟨j, hj, hn⟩ := qrun_ok m r (tok ++ [c]) (n + 1) (k + 1) t n' (by simp at hm ⊢; omega) h hl.tail
      refine ⟨j + 1, .plain (by rw [hc]; exact one_ne) (by rw [hc, q_is]; exact fun h => e1 (one_inj h)) (by rw [hc, b_is]; exact fun h => e2 (one_inj h)) ?_, by omega⟩
      rw [hc, add_one, hopn (d := 1) (Nat.le_of_lt hn)]
      exact hj
theorem prun_ok {x : Str} : ∀ (m : Nat) (l tok : List Nat) (n k : Nat) (t : List Nat) (n' : Nat), l.length ≤ m → prun l tok n = some (t, n') → LiesAt x k l → ∃ j, PRun x j k ⟨tok.toArray⟩ ⟨t.toArray⟩ (k + (n' - n)) ∧ n < n'
  | _, [], _, _, _, _, _, _, h, _ => by simp [prun] at h
  | 0, _ :: _, _, _, _, _, _, hm, _, _ => by simp at hm
  | m + 1, c :: r, tok, n, k, t, n', hm, h, hl => by
    have hc := chr_at hl.head
    unfold prun at h
    split at h
    · rename_i e
      injection h with h
      injection h with h1 h2
      subst h1 h2
      exact ⟨0, by rw [show k + (n + 1 - n) = k + 1 by rw [Nat.add_sub_cancel_left]]; exact .stop (by rw [hc]; exact one_ne) (by rw [hc]; exact e), by omega⟩
    rename_i e1
    split at h
    · rename_i e
      subst e
      cases r with
      | nil => simp at h
      | cons d r' =>
        simp only at h
        obtain ⟨j, hj, hn⟩ := prun_ok m r' (tok ++ [d]) (n + 2) (k + 2) t n' (by simp at hm ⊢; omega) h hl.tail.tail
        have hd := chr_at hl.tail.head
        refine ⟨j + 1, .esc (by rw [hc, b_is]) ?_, by omega⟩
        rw [hd, add_one, hopn (d := 2) (Nat.le_of_lt hn)]
        exact hj
    · rename_i e2
      obtain ⟨j, hj, hn⟩ := prun_ok m r (tok ++ [c]) (n + 1) (k + 1) t n' (by simp at hm ⊢; omega) h hl.tail
      refine ⟨j + 1, .plain (by rw [hc]; exact one_ne) (by rw [hc]; exact Bool.eq_false_iff.mpr e1) (by rw [hc, b_is]; exact fun h => e2 (one_inj h)) ?_, by omega⟩
      rw [hc, add_one, hopn (d := 1) (Nat.le_of_lt hn)]
      exact hj
theorem orun_ok {x : Str} {l t : List Nat} {k n' : Nat} (h : orun l = some (t, n')) (hl : LiesAt x k l) : ∃ j, ORun x j k ⟨t.toArray⟩ (k + n') := by
  cases l with
  | nil => simp [orun] at h
  | cons c r =>
    have hc := chr_at hl.head
    have he : Str.ofString "" = ⟨([] : List Nat).toArray⟩ := e_is
    simp only [orun] at h
    split at h
    · cases h
    rename_i e1
    split at h
    · rename_i e
      subst e
      obtain ⟨j, hj, hn⟩ := qrun_ok r.length r [] 1 (k + 1) t n' (Nat.le_refl _) h hl.tail
      refine ⟨0, .quote (j := j) (by rw [hc, q_is]) ?_⟩
      rw [he, show k + n' = k + 1 + (n' - 1) by omega]
      exact hj
    rename_i e2
    split at h
    · rename_i e
      subst e
      cases r with
      | nil => simp at h
      | cons d r' =>
        simp only at h
        obtain ⟨j, hj, hn⟩ := prun_ok r'.length r' [d] 2 (k + 2) t n' (Nat.le_refl _) h hl.tail.tail
        have hd := chr_at hl.tail.head
        refine ⟨0, .esc (j := j) (by rw [hc, b_is]) ?_⟩
        rw [hd, he, add_one, show k + n' = k + 2 + (n' - 2) by omega]
        exact hj
    · rename_i e3
      obtain ⟨j, hj, hn⟩ := prun_ok r.length r [c] 1 (k + 1) t n' (Nat.le_refl _) h hl.tail
      refine ⟨0, .plain (j := j) (by rw [hc]; exact one_ne) (by rw [hc]; exact Bool.eq_false_iff.mpr e1) (by rw [hc, q_is]; exact fun h => e2 (one_inj h)) (by rw [hc, b_is]; exact fun h => e3 (one_inj h)) ?_⟩
      rw [hc, he, add_one, show k + n' = k + 1 + (n' - 1) by omega]
      exact hj
theorem skip_ok {x : Str} {r : Str} {k' j : Nat} : ∀ (m p q : Nat), q = p + m → (∀ i, p ≤ i → i < q → ∃ c, x.cps[i]? = some c ∧ isWs ⟨#[c]⟩ = true) → ORun x j q r k' → ∃ j', ORun x j' p r k'
  | 0, p, q, e, _, h => ⟨j, by rw [show p = q by omega]; exact h⟩
  | m + 1, p, q, e, hw, h => by
    obtain ⟨j', hj⟩ := skip_ok m (p + 1) q (by omega) (fun i h1 h2 => hw i (by omega) h2) h
    obtain ⟨c, hc, hws⟩ := hw p (Nat.le_refl _) (by omega)
    exact ⟨j' + 1, .skip (by rw [chr_at hc]; exact one_ne) (by rw [chr_at hc]; exact hws) hj⟩
theorem join_cps : ∀ ps : List Str, (Str.join (Str.ofString "") ps).cps.toList = (ps.map fun p => p.cps.toList).flatten
  | [] => rfl
  | [p] => by show p.cps.toList = _; simp
  | p :: q :: r => by
    have ih := join_cps (q :: r)
    show (Str.append (Str.append p (Str.ofString "")) (Str.join (Str.ofString "") (q :: r))).cps.toList = _
    rw [List.map_cons, List.flatten_cons, ← ih]
    unfold Str.append
    rw [e_is]
    simp
theorem text_cps (cs : List Int) : (textT cs).cps.toList = ((partsL cs).map fun p => p.cps.toList).flatten ++ [46] := by
  unfold textT
  rw [show Txt.join (Str.ofString "") (partsL cs) = Str.join (Str.ofString "") (partsL cs) from StrLaws.glued_eq_join _ _]
  show (Str.append _ _).cps.toList = _
  rw [← join_cps]
  unfold Str.append
  rw [show Str.ofString "." = ⟨#[46]⟩ from by decide +kernel]
  simp
end
section
local macro_rules | `(tactic| omega) => `(tactic| first | (with_reducible kas_types) | lia)
theorem flat_at {α : Type} (Ps : List (List α)) (post : List α) (i m : Nat) (h : i < Ps.length) (hm : m < Ps[i].length) : (Ps.flatten ++ post)[((Ps.take i).flatten).length + m]? = some Ps[i][m] := by
  have e : Ps = Ps.take i ++ Ps[i] :: Ps.drop (i + 1) := by rw [← List.drop_eq_getElem_cons h, List.take_append_drop]
  have e2 : Ps.flatten = (Ps.take i).flatten ++ (Ps[i] ++ (Ps.drop (i + 1)).flatten) := by
    conv => lhs; rw [e]
    rw [List.flatten_append, List.flatten_cons]
  rw [e2, List.append_assoc, List.getElem?_append_right (by omega), Nat.add_sub_cancel_left, List.append_assoc, List.getElem?_append_left hm, List.getElem?_eq_getElem hm]
theorem take_flat_succ {α : Type} (Ps : List (List α)) (i : Nat) (h : i < Ps.length) : ((Ps.take (i + 1)).flatten).length = ((Ps.take i).flatten).length + Ps[i].length := by
  rw [List.take_add_one, List.getElem?_eq_getElem h]
  show ((Ps.take i ++ [Ps[i]]).flatten).length = _
  rw [List.flatten_append, List.length_append]
  simp only [List.flatten_cons, List.flatten_nil, List.append_nil]
structure PartOk (p t : List Nat) (n : Nat) : Prop where
  run : orun p = some (t, n)
  le : n ≤ p.length
  ws : ∀ i (h : i < p.length), n ≤ i → isWs ⟨#[p[i]]⟩ = true
theorem part_ok {lv y g : Nat} (h1 : lv < 73) (h2 : y < 4) (h3 : g < 5) : ∃ n, PartOk (writtenT (wordT lv) y (gapsL.getD g Str.empty)).cps.toList (wordT lv).cps.toList n := by
  have h := all_ok lv h1 y h2 g h3
  unfold okW at h
  simp only at h
  split at h
  · rename_i t n e
    simp only [Bool.and_eq_true, beq_iff_eq, decide_eq_true_eq] at h
    obtain ⟨⟨h4, h5⟩, h6⟩ := h
    subst h4
    refine ⟨n, e, h5, fun i hi hn => ?_⟩
    have hi2 : i - n < ((writtenT (wordT lv) y (gapsL.getD g Str.empty)).cps.toList.drop n).length := by rw [List.length_drop]; omega
    have := List.all_eq_true.mp h6 _ (List.getElem_mem hi2)
    rw [List.getElem_drop] at this
    simpa [show n + (i - n) = i by omega] using this
  · cases h
section
variable {x : Str} {Ps : List (List Nat)} {ts : List Str} {ns : Nat → Nat}
noncomputable def offP (Ps : List (List Nat)) (i : Nat) : Nat := ((Ps.take i).flatten).length
noncomputable def posP (Ps : List (List Nat)) (ns : Nat → Nat) : Nat → Nat
  | 0 => 0
  | i + 1 => offP Ps i + ns i
theorem lex_all (hx : x.cps.toList = Ps.flatten ++ [46]) (hok : ∀ i (h : i < Ps.length), PartOk Ps[i] (ts.getD i Str.empty).cps.toList (ns i)) : ∀ i, i ≤ Ps.length →
    posP Ps ns i ≤ offP Ps i ∧ (∀ k, posP Ps ns i ≤ k → k < offP Ps i → ∃ c, x.cps[k]? = some c ∧ isWs ⟨#[c]⟩ = true) := by
  intro i hi
  cases i with
  | zero => exact ⟨Nat.le_refl _, fun k _ h => absurd h (by simp [offP])⟩
  | succ i =>
    have P := hok i (by omega)
    have e : offP Ps (i + 1) = offP Ps i + Ps[i].length := take_flat_succ Ps i (by omega)
    have hle := P.le
    refine ⟨show offP Ps i + ns i ≤ offP Ps (i + 1) by rw [e]; exact Nat.add_le_add_left hle _, fun k h1 h2 => ?_⟩
    replace h1 : offP Ps i + ns i ≤ k := h1
    have hk := Nat.le_trans (Nat.le_add_right _ _) h1
    have hm : k - offP Ps i < Ps[i].length := Nat.sub_lt_left_of_lt_add hk (e ▸ h2)
    refine ⟨_, ?_, P.ws _ hm (Nat.le_sub_of_add_le (by rw [Nat.add_comm]; exact h1))⟩
    have := flat_at Ps [46] i _ (by omega) hm
    replace this : (Ps.flatten ++ [46])[offP Ps i + (k - offP Ps i)]? = some Ps[i][k - offP Ps i] := this
    rw [Nat.add_sub_of_le hk, ← hx, Array.getElem?_toList] at this
    exact this
theorem lex_run (hx : x.cps.toList = Ps.flatten ++ [46]) (hok : ∀ i (h : i < Ps.length), PartOk Ps[i] (ts.getD i Str.empty).cps.toList (ns i)) (i : Nat) (hi : i < Ps.length) : ∃ j, ORun x j (posP Ps ns i) (ts.getD i Str.empty) (posP Ps ns (i + 1)) := by
  obtain ⟨h1, h2⟩ := lex_all hx hok i (Nat.le_of_lt hi)
  have P := hok i hi
  have hl : LiesAt x (offP Ps i) Ps[i] := fun m hm => by
    have := flat_at Ps [46] i m hi hm
    rw [← hx, Array.getElem?_toList] at this
    exact this
  obtain ⟨j, hj⟩ := orun_ok P.run hl
  obtain ⟨j', hj'⟩ := skip_ok (offP Ps i - posP Ps ns i) _ _ (by omega) h2 hj
  exact ⟨j', hj'⟩
theorem lex_dot (hx : x.cps.toList = Ps.flatten ++ [46]) (hok : ∀ i (h : i < Ps.length), PartOk Ps[i] (ts.getD i Str.empty).cps.toList (ns i)) :
    (∃ j, ORun x j (posP Ps ns Ps.length) (Str.ofString ".") (offP Ps Ps.length + 2)) ∧ (∃ j, ORun x j (offP Ps Ps.length + 2) (Str.ofString "") (offP Ps Ps.length + 3)) ∧ x.cps.size = offP Ps Ps.length + 1 := by
  obtain ⟨h1, h2⟩ := lex_all hx hok Ps.length (Nat.le_refl _)
  have ho : offP Ps Ps.length = Ps.flatten.length := by unfold offP; rw [List.take_length]
  have hsz : x.cps.size = offP Ps Ps.length + 1 := by
    have := congrArg List.length hx
    rw [List.length_append] at this
    rw [ho]
    simpa using this
  have hd : x.cps[offP Ps Ps.length]? = some 46 := by
    have : x.cps.toList[offP Ps Ps.length]? = some 46 := by rw [hx, ho]; simp
    rw [Array.getElem?_toList] at this
    exact this
  have hdot : Str.ofString "." = ⟨#[46]⟩ := by decide +kernel
  have hrun : ORun x 0 (offP Ps Ps.length) (Str.ofString ".") (offP Ps Ps.length + 2) := by
    refine .plain (j := 0) (by rw [chr_at hd]; exact one_ne) (by rw [chr_at hd]; decide +kernel) (by rw [chr_at hd, q_is]; decide) (by rw [chr_at hd, b_is]; decide) ?_
    rw [chr_at hd, e_is, hdot]
    exact .fin (by rw [chr_end (by omega)])
  obtain ⟨j', hj'⟩ := skip_ok (offP Ps Ps.length - posP Ps ns Ps.length) _ _ (by omega) h2 hrun
  exact ⟨⟨j', hj'⟩, ⟨0, .fin (chr_end (by omega))⟩, hsz⟩
end
theorem cnt_app (c : Nat) : ∀ l r : List Nat, cnt c (l ++ r) = cnt c l + cnt c r
  | [], r => by rw [cnt_nil]; simp
  | a :: l, r => by rw [List.cons_append, cnt_cons, cnt_cons, cnt_app c l r]; omega
theorem line_cnt (x : Str) : ∀ k, lineAt x k = 1 + cnt 10 (x.cps.toList.take k)
  | 0 => by rw [List.take_zero, cnt_nil]; rfl
  | k + 1 => by
    show lineAt x k + nlI (chr1 x k) = _
    rw [line_cnt x k, List.take_add_one, cnt_app]
    cases h : x.cps[k]? with
    | none =>
      have h2 : x.cps.toList[k]? = none := by rw [Array.getElem?_toList]; exact h
      have h3 : chr1 x k = ⟨#[]⟩ := by unfold chr1; rw [h]
      rw [h2, h3]
      show 1 + cnt 10 _ + nlI ⟨#[]⟩ = 1 + (cnt 10 _ + cnt 10 [])
      rw [show nlI ⟨#[]⟩ = 0 from by decide +kernel, cnt_nil]
      omega
    | some c =>
      have h2 : x.cps.toList[k]? = some c := by rw [Array.getElem?_toList]; exact h
      rw [h2, chr_at h]
      show 1 + cnt 10 _ + nlI ⟨#[c]⟩ = 1 + (cnt 10 _ + cnt 10 [c])
      rw [cnt_cons, cnt_nil]
      have : nlI ⟨#[c]⟩ = if c = 10 then 1 else 0 := by
        unfold nlI
        rw [n_is]
        by_cases e : c = 10
        · subst e; rfl
        · rw [if_neg e, if_neg (by simpa using e)]
      rw [this]
      omega
theorem line_end (x : Str) (k : Nat) (h : x.cps.size ≤ k) : lineAt x k = 1 + Txt.count x (Str.ofString "\n") := by
  rw [line_cnt, List.take_of_length_le (by simpa using h), n_is, count_cnt]
end
section
local macro_rules | `(tactic| omega) => `(tactic| first | (with_reducible kas_types) | lia)
theorem word_len : ∀ lv, lv < 73 → (wordT (lv : Nat)).length ≤ 2 := by decide +kernel
theorem word_ok : ∀ lv, lv < 73 → PyData.strOk (wordT (lv : Nat)) = true := by decide +kernel
theorem fmod_nat (c : Int) {n : Nat} (hn : 0 < n) : ∃ k : Nat, k < n ∧ c.fmod n = (k : Int) := by
  have h0 := Int.fmod_nonneg_of_pos c (b := (n : Int)) (Int.ofNat_lt.mpr hn)
  have h1 := Int.fmod_lt_of_pos c (b := (n : Int)) (Int.ofNat_lt.mpr hn)
  exact ⟨(c.fmod n).toNat, Int.ofNat_lt.mp (by rw [Int.toNat_of_nonneg h0]; exact h1), tonat h0⟩
theorem names_len (cs : List Int) : ∀ y ∈ namesL cs, y.length ≤ 2 := fun y hy => by
  obtain ⟨c, _, rfl⟩ := List.mem_map.mp hy
  obtain ⟨k, hk, e⟩ := fmod_nat c (n := 73) (by decide)
  show (wordT (c.fmod (73 : Nat))).length ≤ 2
  rw [e]
  exact word_len k hk
theorem names_ok (cs : List Int) : ∀ y ∈ namesL cs, PyData.strOk y = true := fun y hy => by
  obtain ⟨c, _, rfl⟩ := List.mem_map.mp hy
  obtain ⟨k, hk, e⟩ := fmod_nat c (n := 73) (by decide)
  show PyData.strOk (wordT (c.fmod (73 : Nat))) = true
  rw [e]
  exact word_ok k hk
theorem names_at {cs : List Int} (hl : cs.length = 11) {k : Nat} (hk : k < 8) : (namesL cs).getD k Str.empty = wordT ((cs.getD (k + 3) 0).fmod 73) := by
  unfold namesL
  have h3 : k + 3 < cs.length := by omega
  rw [List.getD_eq_getElem?_getD, List.getElem?_map, List.getElem?_drop, List.getD_eq_getElem?_getD, show 3 + k = k + 3 by omega, List.getElem?_eq_getElem h3]
  rfl
theorem part_at {cs : List Int} (hl : cs.length = 11) {k : Nat} (hk : k < 8) : ∃ n, PartOk (writtenT ((namesL cs).getD k Str.empty) (wayOf (cs.getD (k + 3) 0)) (gapOf (cs.getD (k + 3) 0))).cps.toList ((namesL cs).getD k Str.empty).cps.toList n := by
  rw [names_at hl hk]
  generalize cs.getD (k + 3) 0 = c
  obtain ⟨lv, h1, e1⟩ := fmod_nat c (n := 73) (by decide)
  obtain ⟨y, h2, e2⟩ := fmod_nat (c.fdiv 73) (n := 4) (by decide)
  obtain ⟨g, h3, e3⟩ := fmod_nat (c.fdiv 292) (n := 5) (by decide)
  have e1' : c.fmod 73 = (lv : Int) := e1
  have e2' : wayOf c = (y : Int) := e2
  have e3' : gapOf c = gapsL.getD g Str.empty := by
    unfold gapOf
    rw [show (c.fdiv 292).fmod 5 = (g : Int) from e3, Int.toNat_natCast]
  rw [e1', e2', e3']
  exact part_ok h1 h2 h3
theorem lex_cs {cs : List Int} (hl : cs.length = 11) : ∃ pos : Nat → Nat, pos 0 = 0 ∧ (∀ i, i < 8 → ∃ j, ORun (textT cs) j (pos i) ((namesL cs).getD i Str.empty) (pos (i + 1))) ∧ (∀ i, i ≤ 8 → pos i < 1000) ∧
    ∃ k1 k2 j1 j2, ORun (textT cs) j1 (pos 8) (Str.ofString ".") k1 ∧ ORun (textT cs) j2 k1 (Str.ofString "") k2 ∧ k1 < 1000 ∧ k2 < 1000 ∧ (textT cs).length ≤ 1000 ∧ lineAt (textT cs) k2 = 1 + Txt.count (textT cs) (Str.ofString "\n") := by
  have hex : ∀ k, ∃ n, k < 8 → PartOk (writtenT ((namesL cs).getD k Str.empty) (wayOf (cs.getD (k + 3) 0)) (gapOf (cs.getD (k + 3) 0))).cps.toList ((namesL cs).getD k Str.empty).cps.toList n := fun k => by
    by_cases hk : k < 8
    · obtain ⟨n, hn⟩ := part_at hl hk
      exact ⟨n, fun _ => hn⟩
    · exact ⟨0, fun h => absurd h hk⟩
  have hns : ∃ ns : Nat → Nat, ∀ k, k < 8 → PartOk (writtenT ((namesL cs).getD k Str.empty) (wayOf (cs.getD (k + 3) 0)) (gapOf (cs.getD (k + 3) 0))).cps.toList ((namesL cs).getD k Str.empty).cps.toList (ns k) :=
    ⟨fun k => Classical.choose (hex k), fun k => Classical.choose_spec (hex k)⟩
  obtain ⟨ns, hns⟩ := hns
  have hx := text_cps cs
  have hpl : ((partsL cs).map fun p => p.cps.toList).length = 8 := by simp [partsL]
  have hok : ∀ i (h : i < ((partsL cs).map fun p => p.cps.toList).length), PartOk ((partsL cs).map fun p => p.cps.toList)[i] ((namesL cs).getD i Str.empty).cps.toList (ns i) := fun i h => by
    have hi : i < 8 := by omega
    have := hns i hi
    rw [List.getElem_map]
    have e : (partsL cs)[i]'(by simpa using h) = writtenT ((namesL cs).getD i Str.empty) (wayOf (cs.getD (i + 3) 0)) (gapOf (cs.getD (i + 3) 0)) := by
      unfold partsL
      rw [List.getElem_map, List.getElem_range]
    rw [e]
    exact this
  have hall := lex_all hx hok
  have hrun := lex_run hx hok
  obtain ⟨⟨j1, hd1⟩, ⟨j2, hd2⟩, hsz⟩ := lex_dot hx hok
  generalize ((partsL cs).map fun p => p.cps.toList) = Ps at *
  rw [hpl] at hall hrun hd1 hd2 hsz
  have htl : (textT cs).length ≤ 65 := by
    have h1 := join_len (names_len cs)
    have h2 : (textT cs).length = (Txt.join (Str.ofString "") (partsL cs)).length + 1 := by
      unfold textT
      rw [Str.length_append]
      rfl
    omega
  have hsz' : (textT cs).length = offP Ps 8 + 1 := hsz
  have hoff : ∀ i, i ≤ 8 → offP Ps i ≤ offP Ps 8 := fun i hi => by
    unfold offP
    rw [show Ps.take 8 = Ps from List.take_of_length_le (by omega)]
    have e : Ps.flatten = (Ps.take i).flatten ++ (Ps.drop i).flatten := by rw [← List.flatten_append, List.take_append_drop]
    rw [e, List.length_append]
    exact Nat.le_add_right _ _
  refine ⟨posP Ps ns, rfl, hrun, fun i hi => ?_, offP Ps 8 + 2, offP Ps 8 + 3, j1, j2, hd1, hd2, by omega, by omega, by omega, line_end _ _ (by rw [hsz]; omega)⟩
  have := (hall i hi).1
  have := hoff i hi
  omega
end
section
local macro_rules | `(tactic| omega) => `(tactic| first | (with_reducible kas_types) | lia)
noncomputable def Inc (f : Int → Int) (l : List Int) : Prop := l.Pairwise fun x y => f x < f y
theorem inc_sub {f : Int → Int} : ∀ (l2 l1 : List Int), Inc f l1 → Inc f l2 → (∀ x ∈ l1, x ∈ l2) → l1.length ≤ l2.length ∧ (l1.length = l2.length → l1 = l2)
  | [], l1, _, _, h => by
    cases l1 with
    | nil => exact ⟨Nat.le_refl _, fun _ => rfl⟩
    | cons x xs => exact absurd (h x (.head _)) (by simp)
  | y :: ys, l1, h1, h2, h => by
    obtain ⟨hy, hys⟩ := List.pairwise_cons.mp h2
    cases l1 with
    | nil => exact ⟨by simp, by simp⟩
    | cons x xs =>
      obtain ⟨hx, hxs⟩ := List.pairwise_cons.mp h1
      by_cases e : x = y
      · subst e
        have sub : ∀ z ∈ xs, z ∈ ys := fun z hz => by
          rcases List.mem_cons.mp (h z (.tail _ hz)) with e | hm
          · subst e
            have := hx z hz
            omega
          · exact hm
        obtain ⟨i1, i2⟩ := inc_sub ys xs hxs hys sub
        exact ⟨by simp; omega, fun hl => by rw [i2 (by simpa using hl)]⟩
      · have sub : ∀ z ∈ x :: xs, z ∈ ys := fun z hz => by
          rcases List.mem_cons.mp (h z hz) with e2 | hm
          · exfalso
            subst e2
            rcases List.mem_cons.mp hz with e3 | hz
            · exact e e3.symm
            · have h5 := hx z hz
              rcases List.mem_cons.mp (h x (.head _)) with e4 | hm
              · exact e e4
              · have := hy x hm
                omega
          · exact hm
        obtain ⟨i1, _⟩ := inc_sub ys (x :: xs) h1 hys sub
        simp at i1 ⊢
        omega
noncomputable def insI (f : Int → Int) (i : Int) : List Int → List Int
  | [] => [i]
  | j :: l => if f i < f j then i :: j :: l else j :: insI f i l
theorem insI_mem {f : Int → Int} {i x : Int} : ∀ {l : List Int}, x ∈ insI f i l ↔ x = i ∨ x ∈ l
  | [] => by simp [insI]
  | j :: l => by
    unfold insI
    split
    · simp
    · rw [List.mem_cons, insI_mem, List.mem_cons]
      exact or_left_comm
theorem insI_len {f : Int → Int} {i : Int} : ∀ {l : List Int}, (insI f i l).length = l.length + 1
  | [] => rfl
  | j :: l => by
    unfold insI
    split
    · rfl
    · rw [List.length_cons, insI_len, List.length_cons]
theorem insI_inc {f : Int → Int} {i : Int} : ∀ {l : List Int}, Inc f l → (∀ x ∈ l, f x ≠ f i) → Inc f (insI f i l)
  | [], _, _ => List.pairwise_singleton _ _
  | j :: l, h, hd => by
    obtain ⟨hj, hl⟩ := List.pairwise_cons.mp h
    unfold insI
    split
    · rename_i hlt
      refine List.pairwise_cons.mpr ⟨fun x hx => ?_, h⟩
      rcases List.mem_cons.mp hx with e | hx
      · subst e; exact hlt
      · exact Int.lt_trans hlt (hj x hx)
    · rename_i hlt
      have := hd j (.head _)
      refine List.pairwise_cons.mpr ⟨fun x hx => ?_, insI_inc hl fun x hx => hd x (.tail _ hx)⟩
      rcases insI_mem.mp hx with e | hx
      · subst e; omega
      · exact hj x hx
noncomputable def qI (f : Int → Int) : Nat → List Int
  | 0 => []
  | n + 1 => insI f n (qI f n)
theorem qI_ok {f : Int → Int} {c : Nat} (hd : ∀ i k : Int, 0 ≤ i → i < c → 0 ≤ k → k < c → i ≠ k → f i ≠ f k) : ∀ n, n ≤ c → Inc f (qI f n) ∧ (qI f n).length = n ∧ ∀ k, k ∈ qI f n ↔ 0 ≤ k ∧ k < n
  | 0, _ => ⟨List.Pairwise.nil, rfl, fun k => by simp [qI]⟩
  | n + 1, hn => by
    obtain ⟨h1, h2, h3⟩ := qI_ok hd n (by omega)
    refine ⟨insI_inc h1 fun x hx => ?_, by unfold qI; rw [insI_len, h2], fun k => ?_⟩
    · have := (h3 x).mp hx
      exact hd x n (by omega) (by omega) (by omega) (by omega) (by omega)
    · unfold qI
      rw [insI_mem, h3]
      exact ⟨fun h => h.elim (fun e => e ▸ ⟨Int.natCast_nonneg n, Int.ofNat_lt.mpr (Nat.lt_succ_self n)⟩) fun h => ⟨h.1, Int.lt_trans h.2 (Int.ofNat_lt.mpr (Nat.lt_succ_self n))⟩, fun h => (Int.lt_or_le k n).elim (fun q => .inr ⟨h.1, q⟩) fun q => .inl (Int.le_antisymm (Int.le_of_lt_add_one h.2) q)⟩
section
variable {w lap fi a b at0 : Int} {c : Nat}
noncomputable def posI (w fi lap k : Int) : Int := (fi + k * lap) % w
theorem pos_bd (hw : 0 < w) (k : Int) : 0 ≤ posI w fi lap k ∧ posI w fi lap k < w := ⟨Int.emod_nonneg _ (Int.ne_of_gt hw), Int.emod_lt_of_pos _ hw⟩
theorem pos_rr (hw : 0 < w) (i k : Int) : posI w fi lap k = posI w fi lap i + rr w lap (k - i) ∨ posI w fi lap k = posI w fi lap i + rr w lap (k - i) - w := by
  unfold posI rr
  have e : fi + k * lap = fi + i * lap + (k - i) * lap := by rw [Int.sub_mul]; omega
  rw [e]
  exact add_mod hw _ _
theorem pos_up (hw : 0 < w) {i k : Int} (h : posI w fi lap i < posI w fi lap k) : posI w fi lap k = posI w fi lap i + rr w lap (k - i) :=
  (pos_rr hw i k).resolve_right fun e => by
    have := (rr_bd (lap := lap) hw (k - i)).2
    omega
theorem pos_ne (hw : 0 < w) (hnz : ∀ m, 1 ≤ m → m < (c : Int) → rr w lap m ≠ 0) : ∀ i k : Int, 0 ≤ i → i < c → 0 ≤ k → k < c → i ≠ k → posI w fi lap i ≠ posI w fi lap k := by
  have key : ∀ i k : Int, 0 ≤ i → k < c → i < k → posI w fi lap i ≠ posI w fi lap k := fun i k h0 h1 h2 h => by
    have h3 := pos_rr (lap := lap) (fi := fi) hw i k
    have h4 := rr_bd (lap := lap) hw (k - i)
    have h5 := hnz (k - i) (by omega) (by omega)
    rw [← h] at h3
    rcases h3 with e | e
    · exact h5 (by omega)
    · exact Int.ne_of_lt h4.2 (by omega)
  intro i k h0 h1 h2 h3 h4
  rcases Int.lt_or_le i k with h | h
  · exact key i k h0 h3 h
  · exact fun e => key k i h2 h1 (by omega) e.symm
theorem next_pos (hw : 0 < w) (hnz : ∀ m, 1 ≤ m → m < (c : Int) → rr w lap m ≠ 0) (ha : 1 ≤ a ∧ a < c) (hb : 1 ≤ b ∧ b < c) (hmin : ∀ m, 1 ≤ m → m < (c : Int) → rr w lap a ≤ rr w lap m) (hmax : ∀ m, 1 ≤ m → m < (c : Int) → rr w lap m ≤ rr w lap b)
    {i : Int} (hi : 0 ≤ i ∧ i < c) (hex : ∃ k : Int, 0 ≤ k ∧ k < c ∧ posI w fi lap i < posI w fi lap k) :
    (0 ≤ stepJ c a b i ∧ stepJ c a b i < c) ∧ posI w fi lap i < posI w fi lap (stepJ c a b i) ∧ ∀ k, 0 ≤ k → k < (c : Int) → posI w fi lap k ≤ posI w fi lap i ∨ posI w fi lap (stepJ c a b i) ≤ posI w fi lap k := by
  obtain ⟨h1, h2, h3⟩ := succ_least hw hnz ha hb hmin hmax hi
  generalize stepJ c a b i = j at *
  obtain ⟨k, k0, k1, k2⟩ := hex
  have e1 := pos_up hw k2
  have b3 := (pos_bd (lap := lap) (fi := fi) hw k).2
  have b5 := (pos_bd (lap := lap) (fi := fi) hw j).1
  have hki : k ≠ i := fun e => Int.lt_irrefl _ (e ▸ k2)
  have m1 := h3 k k0 k1 hki
  have ej : posI w fi lap j = posI w fi lap i + rr w lap (j - i) := (pos_rr hw i j).resolve_right fun e => by
    rw [e] at b5
    omega
  refine ⟨h1, ?_, fun k' p0 p1 => ?_⟩
  · rw [ej]; exact Int.lt_add_of_pos_right _ (Int.lt_iff_le_and_ne.mpr ⟨(rr_bd hw _).1, Ne.symm h2⟩)
  · rcases Int.lt_or_le (posI w fi lap i) (posI w fi lap k') with q | q
    · right
      rw [ej, pos_up hw q]
      exact Int.add_le_add_left (h3 k' p0 p1 fun e => Int.lt_irrefl _ (e ▸ q)) _
    · exact .inl q
noncomputable def atJ (c a b at0 : Int) : Nat → Int
  | 0 => at0
  | n + 1 => stepJ c a b (atJ c a b at0 n)
noncomputable def atsL (c a b at0 : Int) (n : Nat) : List Int := (List.range n).map (atJ c a b at0)
theorem ats_ok (hw : 0 < w) (hnz : ∀ m, 1 ≤ m → m < (c : Int) → rr w lap m ≠ 0) (hab : 2 ≤ c → (1 ≤ a ∧ a < c) ∧ (1 ≤ b ∧ b < c) ∧ (∀ m, 1 ≤ m → m < (c : Int) → rr w lap a ≤ rr w lap m) ∧ (∀ m, 1 ≤ m → m < (c : Int) → rr w lap m ≤ rr w lap b))
    (h0 : 0 ≤ at0 ∧ at0 < c) (hl : ∀ k, 0 ≤ k → k < (c : Int) → posI w fi lap at0 ≤ posI w fi lap k) : ∀ n, n < c →
    (0 ≤ atJ c a b at0 n ∧ atJ c a b at0 n < c) ∧ Inc (posI w fi lap) (atsL c a b at0 (n + 1)) ∧ (∀ x ∈ atsL c a b at0 (n + 1), (0 ≤ x ∧ x < c) ∧ posI w fi lap x ≤ posI w fi lap (atJ c a b at0 n)) ∧
    ∀ k, 0 ≤ k → k < (c : Int) → posI w fi lap k ≤ posI w fi lap (atJ c a b at0 n) → k ∈ atsL c a b at0 (n + 1)
  | 0, _ => by
    refine ⟨h0, List.pairwise_singleton _ _, fun x hx => ?_, fun k k0 k1 k2 => ?_⟩
    · rw [List.mem_singleton.mp hx]
      exact ⟨h0, Int.le_refl _⟩
    · have h3 := hl k k0 k1
      have h4 : posI w fi lap k ≤ posI w fi lap at0 := k2
      by_cases e : k = at0
      · rw [e]; exact .head _
      · exact absurd (show posI w fi lap k = posI w fi lap at0 by omega) (pos_ne hw hnz k at0 k0 k1 h0.1 h0.2 e)
  | n + 1, hn => by
    obtain ⟨i1, i2, i3, i4⟩ := ats_ok hw hnz hab h0 hl n (by omega)
    obtain ⟨ha, hb, hmin, hmax⟩ := hab (by omega)
    have hq := qI_ok (pos_ne (fi := fi) hw hnz) c (Nat.le_refl _)
    have hsnoc : atsL c a b at0 (n + 1 + 1) = atsL c a b at0 (n + 1) ++ [atJ c a b at0 (n + 1)] := by
      unfold atsL
      rw [List.range_succ, List.map_append]; rfl
    have hex : ∃ k : Int, 0 ≤ k ∧ k < c ∧ posI w fi lap (atJ c a b at0 n) < posI w fi lap k := by
      refine Classical.byContradiction fun hno => ?_
      have hall : ∀ k ∈ qI (posI w fi lap) c, k ∈ atsL c a b at0 (n + 1) := fun k hk => by
        obtain ⟨k0, k1⟩ := (hq.2.2 k).mp hk
        refine i4 k k0 k1 (Int.not_lt.mp fun hh => hno ⟨k, k0, k1, hh⟩)
      have := (inc_sub _ _ hq.1 i2 hall).1
      rw [hq.2.1] at this
      have hlen : (atsL c a b at0 (n + 1)).length = n + 1 := by unfold atsL; simp
      omega
    obtain ⟨j1, j2, j3⟩ := next_pos hw hnz ha hb hmin hmax i1 hex
    have ej : atJ c a b at0 (n + 1) = stepJ c a b (atJ c a b at0 n) := rfl
    rw [← ej] at j1 j2 j3
    rw [hsnoc]
    refine ⟨j1, List.pairwise_append.mpr ⟨i2, List.pairwise_singleton _ _, fun x hx y hy => ?_⟩, fun x hx => ?_, fun k k0 k1 k2 => ?_⟩
    · rw [List.mem_singleton.mp hy]
      have := (i3 x hx).2
      omega
    · rcases List.mem_append.mp hx with hx | hx
      · have := i3 x hx
        exact ⟨this.1, by omega⟩
      · rw [List.mem_singleton.mp hx]
        exact ⟨j1, Int.le_refl _⟩
    · rcases j3 k k0 k1 with h | h
      · exact List.mem_append.mpr (.inl (i4 k k0 k1 h))
      · by_cases e : k = atJ c a b at0 (n + 1)
        · exact List.mem_append.mpr (.inr (by rw [e]; exact .head _))
        · exact absurd (show posI w fi lap k = posI w fi lap (atJ c a b at0 (n + 1)) by omega) (pos_ne hw hnz k _ k0 k1 j1.1 j1.2 e)
theorem ats_sorted (hw : 0 < w) (hc : 1 ≤ c) (hnz : ∀ m, 1 ≤ m → m < (c : Int) → rr w lap m ≠ 0) (hab : 2 ≤ c → (1 ≤ a ∧ a < c) ∧ (1 ≤ b ∧ b < c) ∧ (∀ m, 1 ≤ m → m < (c : Int) → rr w lap a ≤ rr w lap m) ∧ (∀ m, 1 ≤ m → m < (c : Int) → rr w lap m ≤ rr w lap b))
    (h0 : 0 ≤ at0 ∧ at0 < c) (hl : ∀ k, 0 ≤ k → k < (c : Int) → posI w fi lap at0 ≤ posI w fi lap k) :
    atsL c a b at0 c = qI (posI w fi lap) c ∧ ∀ n, n < c → 0 ≤ atJ c a b at0 n ∧ atJ c a b at0 n < c := by
  have hq := qI_ok (pos_ne (fi := fi) hw hnz) c (Nat.le_refl _)
  have hA := ats_ok (fi := fi) hw hnz hab h0 hl
  obtain ⟨_, h2, h3, _⟩ := hA (c - 1) (by omega)
  rw [show c - 1 + 1 = c by omega] at h2 h3
  refine ⟨(inc_sub _ _ h2 hq.1 fun x hx => (hq.2.2 x).mpr (h3 x hx).1).2 ?_, fun n hn => (hA n hn).1⟩
  rw [hq.2.1]
  unfold atsL
  simp
end
end
section
local macro_rules | `(tactic| omega) => `(tactic| first | (with_reducible kas_types) | lia)
theorem pairLt_le {p q : Int × Int} (h : pairLt p q = true) : p.1 ≤ q.1 := by
  unfold pairLt at h
  split at h
  · omega
  · have := of_decide_eq_true h; omega
theorem pairLt_not {p q : Int × Int} (h : pairLt p q = false) : q.1 ≤ p.1 := by
  unfold pairLt at h
  split at h
  · omega
  · have := of_decide_eq_false h; omega
theorem best_min (f : Nat → Int × Int) : ∀ k j, j ≤ k → (f (argBest (fun i j => pairLt (f i) (f j)) k)).1 ≤ (f j).1
  | 0, j, h => by
    obtain rfl : j = 0 := by omega
    exact Int.le_refl _
  | k + 1, j, h => by
    have ih := best_min f k
    cases hb : pairLt (f (k + 1)) (f (argBest (fun i j => pairLt (f i) (f j)) k)) with
    | true =>
      have e : argBest (fun i j => pairLt (f i) (f j)) (k + 1) = k + 1 := by simp only [argBest]; exact if_pos hb
      rw [e]
      rcases Nat.lt_or_ge k j with h1 | h1
      · rw [show j = k + 1 by omega]; exact Int.le_refl _
      · exact Int.le_trans (pairLt_le hb) (ih j h1)
    | false =>
      have e : argBest (fun i j => pairLt (f i) (f j)) (k + 1) = argBest (fun i j => pairLt (f i) (f j)) k := by simp only [argBest]; exact if_neg (by rw [hb]; decide)
      rw [e]
      rcases Nat.lt_or_ge k j with h1 | h1
      · rw [show j = k + 1 by omega]; exact pairLt_not hb
      · exact ih j h1
theorem best_max (f : Nat → Int × Int) : ∀ k j, j ≤ k → (f j).1 ≤ (f (argBest (fun i j => pairLt (f j) (f i)) k)).1
  | 0, j, h => by
    obtain rfl : j = 0 := by omega
    exact Int.le_refl _
  | k + 1, j, h => by
    have ih := best_max f k
    cases hb : pairLt (f (argBest (fun i j => pairLt (f j) (f i)) k)) (f (k + 1)) with
    | true =>
      have e : argBest (fun i j => pairLt (f j) (f i)) (k + 1) = k + 1 := by simp only [argBest]; exact if_pos hb
      rw [e]
      rcases Nat.lt_or_ge k j with h1 | h1
      · rw [show j = k + 1 by omega]; exact Int.le_refl _
      · exact Int.le_trans (ih j h1) (pairLt_le hb)
    | false =>
      have e : argBest (fun i j => pairLt (f j) (f i)) (k + 1) = argBest (fun i j => pairLt (f j) (f i)) k := by simp only [argBest]; exact if_neg (by rw [hb]; decide)
      rw [e]
      rcases Nat.lt_or_ge k j with h1 | h1
      · rw [show j = k + 1 by omega]; exact pairLt_not hb
      · exact ih j h1
theorem least_of {n : Nat} (g : Nat → Int × Int) (hn : 0 < n) : ∃ k, k < n ∧ leastP ((List.range n).map g) = g k ∧ ∀ j, j < n → (g k).1 ≤ (g j).1 := by
  have hb := argBest_le (fun i j => pairLt (((List.range n).map g).getD i (0, 0)) (((List.range n).map g).getD j (0, 0))) (n - 1)
  have hm := best_min (fun i => ((List.range n).map g).getD i (0, 0)) (n - 1)
  have hg : ∀ j, j < n → ((List.range n).map g).getD j (0, 0) = g j := fun j hj => by
    rw [List.getD_eq_getElem?_getD, List.getElem?_map, List.getElem?_range hj]; rfl
  refine ⟨argBest (fun i j => pairLt (((List.range n).map g).getD i (0, 0)) (((List.range n).map g).getD j (0, 0))) (n - 1), lt_pred hn hb, ?_, fun j hj => ?_⟩
  rotate_left
  · have := hm j (Nat.le_sub_one_of_lt hj)
    rw [hg j hj, hg _ (lt_pred hn hb)] at this
    exact this
  · unfold leastP
    rw [show ((List.range n).map g).length = n by simp]
    exact hg _ (lt_pred hn hb)
theorem most_of {n : Nat} (g : Nat → Int × Int) (hn : 0 < n) : ∃ k, k < n ∧ mostP ((List.range n).map g) = g k ∧ ∀ j, j < n → (g j).1 ≤ (g k).1 := by
  have hb := argBest_le (fun i j => pairLt (((List.range n).map g).getD j (0, 0)) (((List.range n).map g).getD i (0, 0))) (n - 1)
  have hm := best_max (fun i => ((List.range n).map g).getD i (0, 0)) (n - 1)
  have hg : ∀ j, j < n → ((List.range n).map g).getD j (0, 0) = g j := fun j hj => by
    rw [List.getD_eq_getElem?_getD, List.getElem?_map, List.getElem?_range hj]; rfl
  refine ⟨argBest (fun i j => pairLt (((List.range n).map g).getD j (0, 0)) (((List.range n).map g).getD i (0, 0))) (n - 1), lt_pred hn hb, ?_, fun j hj => ?_⟩
  rotate_left
  · have := hm j (Nat.le_sub_one_of_lt hj)
    rw [hg j hj, hg _ (lt_pred hn hb)] at this
    exact this
  · unfold mostP
    rw [show ((List.range n).map g).length = n by simp]
    exact hg _ (lt_pred hn hb)
noncomputable def insK (key : Str) : List Str → List Str
  | [] => [key]
  | y :: r => if strc key y = -1 then key :: y :: r else y :: insK key r
theorem fold_done {key : Str} : ∀ (qs : List Str) (o : List Str), qs.foldl (insStep key) (false, o) = (false, o ++ qs)
  | [], o => by simp
  | y :: r, o => by
    rw [List.foldl_cons, show insStep key (false, o) y = (false, o ++ [y]) from by unfold insStep; rw [if_neg (by simp)], fold_done r]
    simp
theorem fold_ins {key : Str} : ∀ (qs : List Str) (o : List Str), (let st := qs.foldl (insStep key) (true, o); if st.1 = true then st.2 ++ [key] else st.2) = o ++ insK key qs
  | [], o => by simp [insK]
  | y :: r, o => by
    by_cases h : strc key y = -1
    · have e : insStep key (true, o) y = (false, o ++ [key, y]) := by unfold insStep; rw [if_pos ⟨rfl, h⟩]
      rw [List.foldl_cons, e, fold_done]
      unfold insK
      rw [if_pos h]
      simp
    · have e : insStep key (true, o) y = (true, o ++ [y]) := by unfold insStep; rw [if_neg (fun hh => h hh.2)]
      rw [List.foldl_cons, e]
      have ih := fold_ins (key := key) r (o ++ [y])
      unfold insK
      rw [if_neg h]
      rw [ih]
      simp
theorem insL_insK (key : Str) (qs : List Str) : insL key qs = insK key qs := by
  have := fold_ins (key := key) qs []
  rw [List.nil_append] at this
  exact this
section
variable {w : Nat} {fi lap : Int} {W : Nat} {nl : List Str}
theorem dueAt_eq (k : Nat) : dueAt fi lap W nl (k : Int) = keyT ((fi + (k : Int) * lap).fmod (2 ^ W)) (nl.getD k Str.empty) k := by
  unfold dueAt; rw [Int.toNat_natCast]
theorem pow_facts (hW : W ≤ 20) : (0 : Int) < 2 ^ W ∧ (2 : Int) ^ W ≤ 1048576 := by
  refine ⟨Int.pow_pos (by decide), ?_⟩
  have := Nat.pow_le_pow_right (n := 2) (by decide) hW
  have e : ((2 ^ W : Nat) : Int) = (2 : Int) ^ W := by simp
  omega
theorem pos_fmod (hW : W ≤ 20) (k : Int) : (fi + k * lap).fmod (2 ^ W) = posI (2 ^ W) fi lap k := Int.fmod_eq_emod_of_nonneg _ (Int.le_of_lt (pow_facts hW).1)
theorem strc_pos (hW : W ≤ 20) (i k : Int) : (posI (2 ^ W) fi lap i < posI (2 ^ W) fi lap k → strc (dueAt fi lap W nl i) (dueAt fi lap W nl k) = -1 ∧ strc (dueAt fi lap W nl k) (dueAt fi lap W nl i) = 1) := fun h => by
  have h1 := pos_bd (lap := lap) (fi := fi) (pow_facts hW).1 i
  have h2 := pos_bd (lap := lap) (fi := fi) (pow_facts hW).1 k
  have h3 := (pow_facts hW).2
  unfold dueAt
  rw [pos_fmod hW, pos_fmod hW]
  have e1 : posI (2 ^ W) fi lap i = (((posI (2 ^ W) fi lap i).toNat : Nat) : Int) := tonat h1.1
  have e2 : posI (2 ^ W) fi lap k = (((posI (2 ^ W) fi lap k).toNat : Nat) : Int) := tonat h2.1
  rw [e1, e2]
  exact key_lt ((Int.toNat_lt h2.1).mpr (Int.lt_of_lt_of_le h2.2 h3)) ((Int.toNat_lt_toNat (Int.lt_of_le_of_lt h1.1 h)).mpr h) _ _ _ _
theorem insK_map (hW : W ≤ 20) {i : Int} : ∀ {l : List Int}, (∀ x ∈ l, posI (2 ^ W) fi lap x ≠ posI (2 ^ W) fi lap i) → insK (dueAt fi lap W nl i) (l.map (dueAt fi lap W nl)) = (insI (posI (2 ^ W) fi lap) i l).map (dueAt fi lap W nl)
  | [], _ => rfl
  | j :: l, h => by
    have hj := h j (.head _)
    rw [List.map_cons]
    unfold insK insI
    by_cases e : posI (2 ^ W) fi lap i < posI (2 ^ W) fi lap j
    · rw [if_pos e, if_pos (strc_pos hW i j e).1]
      rfl
    · have h9 := (strc_pos (fi := fi) (lap := lap) (nl := nl) hW j i (by omega)).2
      rw [if_neg e, if_neg (by rw [h9]; decide), insK_map hW fun x hx => h x (.tail _ hx)]
      rfl
end
theorem sizes_get {n : Nat} {fi lap : Int} (hn : n ≤ 9) : ∀ i, i < n → (sizesL n fi lap).getD i 0 = if i = 0 then fi else lap := fun i hi => by
  unfold sizesL
  rw [List.getD_eq_getElem?_getD, List.getElem?_take_of_lt hi]
  cases i with
  | zero => rfl
  | succ i =>
    show ((List.replicate 8 lap)[i]?).getD 0 = _
    rw [List.getElem?_replicate_of_lt (by omega)]
    simp
theorem gone_at {n : Nat} {fi lap : Int} (hn : n ≤ 9) : ∀ i, i < n → goneAt (sizesL n fi lap) (i + 1) = fi + (i : Int) * lap
  | 0, h => by
    show 0 + (sizesL n fi lap).getD 0 0 = _
    rw [sizes_get hn 0 h]; simp
  | i + 1, h => by
    show goneAt (sizesL n fi lap) (i + 1) + (sizesL n fi lap).getD (i + 1) 0 = _
    rw [gone_at hn i (by omega), sizes_get hn (i + 1) h, if_neg (by omega)]
    rw [show ((i + 1 : Nat) : Int) = (i : Int) + 1 by omega, Int.add_mul]
    omega
section
variable {n c W : Nat} {fi lap : Int} {nl : List Str}
theorem key_at (hn : n ≤ 9) {i : Nat} (hi : i < n) : keyAt (sizesL n fi lap) nl W i = dueAt fi lap W nl (i : Int) := by
  unfold keyAt
  rw [gone_at hn i hi, dueAt_eq]
theorem rr_nz (hW : W ≤ 20) (hz : ∀ k : Nat, 1 ≤ k → k < c → ((k : Int) * lap).fmod (2 ^ W) ≠ 0) : ∀ m : Int, 1 ≤ m → m < (c : Int) → rr (2 ^ W) lap m ≠ 0 := fun m h1 h2 => by
  have := hz m.toNat (by omega) (by omega)
  rw [Int.fmod_eq_emod_of_nonneg _ (Int.le_of_lt (pow_facts hW).1), show ((m.toNat : Nat) : Int) = m by omega] at this
  exact this
theorem queue_at (hW : W ≤ 20) (hn : n ≤ 9) (hcn : c ≤ n) (hz : ∀ k : Nat, 1 ≤ k → k < c → ((k : Int) * lap).fmod (2 ^ W) ≠ 0) : ∀ i, i ≤ c → queueAt (sizesL n fi lap) nl W i = (qI (posI (2 ^ W) fi lap) i).map (dueAt fi lap W nl)
  | 0, _ => rfl
  | i + 1, h => by
    have hne := pos_ne (fi := fi) (pow_facts hW).1 (rr_nz hW hz)
    have hq := qI_ok hne i (by omega)
    show insL (keyAt (sizesL n fi lap) nl W i) (queueAt (sizesL n fi lap) nl W i) = _
    rw [queue_at hW hn hcn hz i (by omega), insL_insK, key_at hn (by omega)]
    refine insK_map hW fun x hx => ?_
    have := (hq.2.2 x).mp hx
    exact hne x i (by omega) (by omega) (by omega) (by omega) (by omega)
theorem ring_ok (h3 : 3 ≤ W) (hW : W ≤ 20) (hn : n ≤ 9) (hcn : c ≤ n) (hc1 : 1 ≤ c) (hz : ∀ k : Nat, 1 ≤ k → k < c → ((k : Int) * lap).fmod (2 ^ W) ≠ 0) :
    (∀ i, i < c → ∀ y ∈ queueAt (sizesL n fi lap) nl W i, (strc (keyAt (sizesL n fi lap) nl W i) y = -1 ∧ strc y (keyAt (sizesL n fi lap) nl W i) = 1) ∨ (strc (keyAt (sizesL n fi lap) nl W i) y = 1 ∧ strc y (keyAt (sizesL n fi lap) nl W i) = -1)) ∧
    (∀ i, i < c → (queueAt (sizesL n fi lap) nl W i).length = i) ∧
    (∀ i, i < c → 0 ≤ atAt c (leastP (aheadP lap (2 ^ W) c)).2 (mostP (aheadP lap (2 ^ W) c)).2 (leastP (atL fi lap (2 ^ W) c)).2 i ∧ atAt c (leastP (aheadP lap (2 ^ W) c)).2 (mostP (aheadP lap (2 ^ W) c)).2 (leastP (atL fi lap (2 ^ W) c)).2 i < c) ∧
    dueL fi lap W nl c (leastP (aheadP lap (2 ^ W) c)).2 (mostP (aheadP lap (2 ^ W) c)).2 (leastP (atL fi lap (2 ^ W) c)).2 c = queueAt (sizesL n fi lap) nl W c := by
  have hw := (pow_facts hW).1
  have hrr := rr_nz hW hz
  have hne := pos_ne (fi := fi) hw hrr
  have hq := queue_at (fi := fi) (nl := nl) hW hn hcn hz
  obtain ⟨k0, hk0, e0, hl0⟩ := least_of (n := c) (fun i : Nat => ((fi + (i : Int) * lap).fmod (2 ^ W), (i : Int))) hc1
  have hab : 2 ≤ c → (1 ≤ (leastP (aheadP lap (2 ^ W) c)).2 ∧ (leastP (aheadP lap (2 ^ W) c)).2 < c) ∧ (1 ≤ (mostP (aheadP lap (2 ^ W) c)).2 ∧ (mostP (aheadP lap (2 ^ W) c)).2 < c) ∧
      (∀ m, 1 ≤ m → m < (c : Int) → rr (2 ^ W) lap (leastP (aheadP lap (2 ^ W) c)).2 ≤ rr (2 ^ W) lap m) ∧ (∀ m, 1 ≤ m → m < (c : Int) → rr (2 ^ W) lap m ≤ rr (2 ^ W) lap (mostP (aheadP lap (2 ^ W) c)).2) := fun h2 => by
    have ea : aheadP lap (2 ^ W) c = (List.range (c - 1)).map fun i : Nat => (((1 + (i : Int)) * lap).fmod (2 ^ W), 1 + (i : Int)) := by
      unfold aheadP; rw [if_neg (by omega)]; rfl
    rw [ea]
    obtain ⟨ka, ha1, ha2, ha3⟩ := least_of (n := c - 1) (fun i : Nat => (((1 + (i : Int)) * lap).fmod (2 ^ W), 1 + (i : Int))) (by omega)
    obtain ⟨kb, hb1, hb2, hb3⟩ := most_of (n := c - 1) (fun i : Nat => (((1 + (i : Int)) * lap).fmod (2 ^ W), 1 + (i : Int))) (by omega)
    rw [ha2, hb2]
    have hf : ∀ x : Int, (x * lap).fmod (2 ^ W) = rr (2 ^ W) lap x := fun x => Int.fmod_eq_emod_of_nonneg _ (Int.le_of_lt hw)
    refine ⟨by dsimp only; omega, by dsimp only; omega, fun m m1 m2 => ?_, fun m m1 m2 => ?_⟩
    · have := ha3 (m - 1).toNat (by omega)
      dsimp only at this ⊢
      rw [hf, hf, show 1 + (((m - 1).toNat : Nat) : Int) = m by rw [Int.toNat_of_nonneg (Int.sub_nonneg_of_le m1), Int.add_comm, Int.sub_add_cancel]] at this
      exact this
    · have := hb3 (m - 1).toNat (by omega)
      dsimp only at this ⊢
      rw [hf, hf, show 1 + (((m - 1).toNat : Nat) : Int) = m by rw [Int.toNat_of_nonneg (Int.sub_nonneg_of_le m1), Int.add_comm, Int.sub_add_cancel]] at this
      exact this
  have eat : leastP (atL fi lap (2 ^ W) c) = ((fi + (k0 : Int) * lap).fmod (2 ^ W), (k0 : Int)) := e0
  have hsort := ats_sorted (fi := fi) (at0 := (k0 : Int)) hw hc1 hrr hab ⟨by omega, by omega⟩ (fun k h1 h2 => by
    have := hl0 k.toNat (by omega)
    dsimp only at this
    rw [pos_fmod hW, pos_fmod hW, Int.toNat_of_nonneg h1] at this
    exact this)
  have hat : ∀ i, atAt c (leastP (aheadP lap (2 ^ W) c)).2 (mostP (aheadP lap (2 ^ W) c)).2 (k0 : Int) i = atJ c (leastP (aheadP lap (2 ^ W) c)).2 (mostP (aheadP lap (2 ^ W) c)).2 (k0 : Int) i := fun i => by
    induction i with
    | zero => rfl
    | succ i ih =>
      show stepI _ _ _ _ = stepJ _ _ _ _
      rw [ih]
      rfl
  refine ⟨fun i hi y hy => ?_, fun i hi => ?_, fun i hi => ?_, ?_⟩
  · rw [hq i (by omega)] at hy
    rw [key_at hn (by omega)]
    obtain ⟨k, hk, rfl⟩ := List.mem_map.mp hy
    have hki := ((qI_ok hne i (by omega)).2.2 k).mp hk
    have hd := hne k i (by omega) (by omega) (by omega) (by omega) (by omega)
    rcases Int.lt_or_le (posI (2 ^ W) fi lap i) (posI (2 ^ W) fi lap k) with h | h
    · exact .inl (strc_pos hW _ _ h)
    · have := strc_pos (fi := fi) (lap := lap) (nl := nl) hW k i (by omega)
      exact .inr ⟨this.2, this.1⟩
  · rw [hq i (by omega), List.length_map]
    exact (qI_ok hne i (by omega)).2.1
  · rw [eat, hat]
    exact hsort.2 i hi
  · rw [eat, hq c (Nat.le_refl _), ← hsort.1]
    unfold dueL atsL
    rw [List.map_map]
    refine List.map_congr_left fun j _ => ?_
    show dueAt fi lap W nl _ = dueAt fi lap W nl _
    rw [hat]
end
end
section
local macro_rules | `(tactic| omega) => `(tactic| first | (with_reducible kas_types) | lia)
theorem step_pos {M : Model} {A : Around} {env : Env} {Q : Flow → Shared → Prop} {E : Value → Shared → Prop} {ys xs : List Stmt} {s : Shared} (h0 : 0 < s.toks)
    (h : wpAny M A (execs (xs ++ []) env) (fun f s' => match f with | .next => Then (0 < s'.toks) (wpAny M A (execs ys env) Q E s') | f => Q f s') E s) : wpAny M A (execs (xs ++ ys) env) Q E s := by
  refine execs_app (wpAny_mono h (fun f s' hq => ?_) (fun _ _ e => e))
  cases f with
  | next => exact Then.of fun hle => hq (Nat.lt_of_lt_of_le h0 hle)
  | ret v => exact hq
  | brk => exact hq
  | cont => exact hq
theorem body_cut : lawBody = lawCut 0 1 ++ (lawCut 1 1 ++ (lawCut 2 1 ++ (lawCut 3 3 ++ (lawCut 6 15 ++ (lawCut 21 1 ++ (lawCut 22 1 ++ (lawCut 23 2 ++ (lawCut 25 4 ++ (lawCut 29 1 ++ (lawCut 30 1 ++ (lawCut 31 1 ++ []))))))))))) := rfl
theorem mid_cut : lawCut 6 15 ++ [] = lawCut 6 2 ++ (lawCut 8 1 ++ (lawCut 9 3 ++ (lawCut 12 1 ++ (lawCut 13 1 ++ (lawCut 14 1 ++ (lawCut 15 1 ++ (lawCut 16 1 ++ (lawCut 17 1 ++ (lawCut 18 1 ++ (lawCut 19 1 ++ (lawCut 20 1 ++ []))))))))))) := rfl
theorem end_cut : lawCut 25 4 ++ [] = lawCut 25 1 ++ (lawCut 26 1 ++ (lawCut 27 2 ++ [])) := rfl
theorem dig_ok : ∀ (k n : Nat), ∀ x ∈ dig k n, x < 0x110000
  | 0, _, x, h => by simp [dig] at h
  | k + 1, n, x, h => by
    unfold dig at h
    rcases List.mem_append.mp h with h | h
    · exact dig_ok k _ x h
    · rw [List.mem_singleton.mp h]; omega
theorem key_ok {p : Int} (h0 : 0 ≤ p) (h1 : p < 1048576) {nm : Str} (hn : PyData.strOk nm = true) (k : Nat) : PyData.strOk (keyT p nm k) = true := by
  have e : p = ((p.toNat : Nat) : Int) := by omega
  have hc := keyT_cps (p := p.toNat) (by omega) nm k
  rw [← e] at hc
  unfold PyData.strOk at hn ⊢
  rw [Array.all_eq_true'] at hn ⊢
  intro x hx
  have hx2 : x ∈ (keyT p nm k).cps.toList := by simpa using hx
  rw [hc] at hx2
  rcases List.mem_append.mp hx2 with h | h
  · exact decide_eq_true (dig_ok _ _ x h)
  · unfold tailT at h
    split at h
    · split at h
      · simp at h
      · rw [List.mem_singleton.mp h]; decide
    · rcases List.mem_cons.mp h with h | h
      · rw [h]; decide
      · exact hn x (by simpa using h)
theorem lap_bd {kd fi st : Int} {W : Nat} (h1 : 2 ≤ fi) (h2 : fi ≤ 2 * 2 ^ W) (h3 : 1 ≤ st) (h4 : st ≤ 2 * 2 ^ W) : 1 ≤ lapOf kd fi st ∧ lapOf kd fi st ≤ 2 * 2 ^ W := by
  unfold lapOf
  split <;> omega
@[reducible] noncomputable def law_body_S (w : World) (mean : ExcName → Option Value) (mg mb : Str → Option Value) (base : Heap) (L fa : Addr) (cd : Value) (m : Str → Option Value) (s : Shared) (r : Addr) (vs : List Value) (xs : List Int) (o1 o2 o3 o4 o5 o6 o7 o8 : Obj) : Prop := ∀ (B : Below callerA base [] base) (F : Fr base L s.heap m) (X : (KX w.params).In base) (N : News base L s.heap (((L + 1 + 1 + 1 + 1 + 1 + 1 + 1 + 1 : Addr), o8) :: ((L + 1 + 1 + 1 + 1 + 1 + 1 + 1 : Addr), o7) :: ((L + 1 + 1 + 1 + 1 + 1 + 1 : Addr), o6) :: ((L + 1 + 1 + 1 + 1 + 1 : Addr), o5) :: ((L + 1 + 1 + 1 + 1 : Addr), o4) :: ((L + 1 + 1 + 1 : Addr), o3) :: ((L + 1 + 1 : Addr), o2) :: ((L + 1 : Addr), o1) :: (105, PySem.W.tabObj #[]) :: [])) (T : Top topProg lawLoose mean mg mb base) (C0 : CodeHd base 109 105) (hr : base.IsList r vs.toArray) (hvs : IntsAre vs xs) (hxs : xs.length ≤ 63) (hm : m = (fun x : Str => if x = Str.ofString "script" then some (Value.ref r) else none)) (h105 : @LT.lt Nat _ 105 L) (hg : s.gens = #[]) (e1 : o1.data = .cell none) (e2 : o2.data = .cell none) (e3 : o3.data = .cell none) (e4 : o4.data = .cell none) (e5 : o5.data = .cell none) (e6 : o6.data = .cell none) (e7 : o7.data = .cell none) (e8 : o8.data = .cell none), wpAny (model Challenge.rw_st0007_01.prog w) (lawA L fa cd) (execs lawBody (lawEnv L fa cd)) (fun f s' => f = .ret (.bool true) ∧ (∀ b o, base.get? b = some o → s'.heap.get? b = some o) ∧ s'.os = s.os ∧ AllBare s'.gens ∧ GrownAll [(109, 105)] s'.heap) (fun _ _ => False) s
namespace law_body_K
@[irreducible] noncomputable def pt : Cx := bad fun c => law_body_S (c.w 0) (c.me 0) (c.m 0) (c.m 1) (c.h 0) (c.n 0) (c.n 1) (c.v 0) (c.m 2) (c.sh 0) (c.n 2) (c.lv 0) (c.li 0) (c.o 0) (c.o 1) (c.o 2) (c.o 3) (c.o 4) (c.o 5) (c.o 6) (c.o 7)
@[irreducible] noncomputable def w : World := pt.w 0
@[irreducible] noncomputable def mb : Str → Option Value := pt.m 1
@[irreducible] noncomputable def base : Heap := pt.h 0
@[irreducible] noncomputable def L : Addr := pt.n 0
@[irreducible] noncomputable def m : Str → Option Value := pt.m 2
@[irreducible] noncomputable def r : Addr := pt.n 2
@[irreducible] noncomputable def xs : List Int := pt.li 0
@[irreducible] noncomputable def o1 : Obj := pt.o 0
@[irreducible] noncomputable def o2 : Obj := pt.o 1
@[irreducible] noncomputable def o3 : Obj := pt.o 2
@[irreducible] noncomputable def o4 : Obj := pt.o 3
@[irreducible] noncomputable def o5 : Obj := pt.o 4
@[irreducible] noncomputable def o6 : Obj := pt.o 5
@[irreducible] noncomputable def o7 : Obj := pt.o 6
@[irreducible] noncomputable def o8 : Obj := pt.o 7
theorem main : law_body_S w (pt.me 0) (pt.m 0) mb base L (pt.n 1) (pt.v 0) m (pt.sh 0) r (pt.lv 0) xs o1 o2 o3 o4 o5 o6 o7 o8 := by
  intro B F X N T C0 hr hvs hxs hm h105 hg e1 e2 e3 e4 e5 e6 e7 e8
  have hms0 : m (Str.ofString "script") = some (.ref r) := by rw [hm]; exact rfl
  clear hm
  rw [body_cut]
  with_reducible refine law_cells B F X T N e1 h105 (fun D its cnt o1 h1 tk1 F1 N1 d1 hD hits => ?_)
  try dsimp only
  refine law_script B F1 X T N1 h105 d1 hD hits (by simp) hr hvs hxs hms0 (fun its cnt cs m2 h2 tk2 F2 N2 hits2 hcs => ?_)
  try dsimp only
  clear F F1 N N1
  with_reducible refine law_wheel B F2 X T N2 h105 d1 hD hits2 hcs e2 (fun W t o2 h3 tk3 h3W hW20 ht3 d2 F3 N3 => ?_)
  try dsimp only
  with_reducible refine law_share B F3 X T N3 ht3 h105 d1 hD hits2 hcs (fun a b kd t1 t2 t3 m4 h4 tk4 ha1 ha8 hb1 hb8 hk0 hk5 ht4 hz1 hz2 ms mv mk F4 N4 => ?_)
  try dsimp only
  clear F2 F3 N2 N3
  refine step_pos (xs := lawCut 6 15) ht4 ?_
  rw [mid_cut]
  with_reducible refine law_first B F4 X T N4 h105 d1 hD hits2 hcs d2 e3 h3W ms mv mk (fun fi st t4 t5 o3 m5 h5 tk5 hfi hev hfi2 hst hst2 ms mv mk mst d3 F5 N5 => ?_)
  try dsimp only
  with_reducible refine law_tail B F5 X T N5 h105 hD hk0 hk5 mk mst (fun R0 ts tc h6 tk6 F6 N6 hR0 hts => ?_)
  try dsimp only
  refine law_row3 B F6 X T N6 h105 hD d3 e4 e5 hR0 hts rfl hk0 hk5 ms mv mk mst (fun R rs rc t6 t7 o4 o5 m6 h6 tk6 F6 N6 mr hDR hrs d4 d5 ms mv => ?_)
  try dsimp only
  refine law_sizes (t6 := t6) B F6 X T N6 h105 hD hDR hrs hk0 hk5 hfi hev hst (AllBare.of_eq hg) ms mv mr (fun S ss sc gl m7 h7 tk7 F7 N7 hRS hss hgl ms mv mr mz => ?_)
  try dsimp only
  with_reducible refine law_others B F7 X T N7 h105 hD hDR hRS hrs hk0 hk5 hgl ms mv mr mz (fun O O1 O2 O3 u c0 c1 c2 c3 gl2 m8 h8 tk8 F8 N8 hgl2 ms mv mz mo => ?_)
  try dsimp only
  refine law_check B F8 X T N8 h105 hk0 hk5 hss d3 d4 d5 ms mv mz mo (fun m9 h9 tk9 F9 N9 ms mv mz => ?_)
  try dsimp only
  clear F4 F5 F6 F7 F8 N4 N5 N6 N7 N8
  have hDS : @LT.lt Nat _ D S := Nat.lt_trans hDR hRS
  with_reducible refine law_names B F9 X T N9 h105 hD hDS hits2 hcs d1 e6 ms mv mz (fun Nn ns o6 h10 tk10 F10 N10 hN8 hSN hDN hns d6 => ?_)
  try dsimp only
  with_reducible refine law_gaps B F10 X T N10 h105 hD hDS hN8 e7 (fun Gp gs gc o7 h11 tk11 F11 N11 hG8 hDG hSG hNG hgs d7 => ?_)
  try dsimp only
  with_reducible refine law_text B F11 X T N11 h105 hD hDG hNG hits2 hcs hns (names_len cs) hgs d1 d6 d7 ms mv mz (fun t3 m12 h12 tk12 F12 N12 ms mv mz mt => ?_)
  try dsimp only
  clear F9 F10 F11 N9 N10 N11
  refine Classical.byContradiction fun hG0 => ?_
  obtain ⟨pos, hp0, hrd, hp9, k1, k2, j1, j2, hr1, hr2, hk1, hk2, hxl, hln⟩ := lex_cs hcs
  refine hG0 ?_
  clear hG0
  refine law_lexer B F12 X T N12 C0 hxl h105 hD hDS hN8 hDG e8 ms mv mz mt (fun self D0 P l dx fr d a1 a2 a3 a4 b1 b2 t pn held o8 m13 h13 tk13 F13 N13 V hNS lN lS d8 ms mv mz mt => ?_)
  try dsimp only
  have hn8 : (namesL cs).length = 8 := by unfold namesL; simp; omega
  have hLS : @LT.lt Nat _ (L+1+1+1+1+1+1+1+1) S := Nat.lt_trans hD hDS
  refine law_read (pos := pos) (nl := namesL cs) B F13 X T (by rw [hp0]; exact N13) C0 h105 V hNS lN lS hN8 hLS hns hn8 (names_ok cs) hp0 hrd hp9 d6 d8 ms mv mz mt (fun b1 t n m14 h14 tk14 F14 N14 ms mv mz mt => ?_)
  try dsimp only
  clear F12 F13 N12 N13
  have hnum := num_cases (fi := fi) (st := st) hk0 hk5
  have hmn := mostOf_num (fi := fi) (st := st) hk0 hk5
  with_reducible refine law_count (hd := []) (sc := 0) (tl := (P, PySem.W.listOf #[] pn) :: (l, PySem.W.listOf #[.int ((pos 8 : Nat) : Int) t] n) :: (dx, lexD w D0 P a1 a2 a3 a4 (Mine.lineAt (textT cs) (pos 8)) b1 b2) :: (self, instObj 87 dx) :: (Nn, LCg.lst ns) :: (S, PySem.W.listOf ss.toArray sc) :: held) B F14 X T (cb_drop N14 (by kcj_all)) h105 d2 d4 d5 (by omega) h3W ms mv mz mt (fun c t4 m15 h15 tk15 F15 N15 mc hc1 hc8 hcm hz ms mv mz mt => ?_)
  try dsimp only
  clear F14 N14
  refine wpAny_execs_nil ?_
  refine Then.of fun ht15 => ?_
  obtain ⟨hl1, hl2⟩ := lap_bd (kd := kd) hfi hfi2 hst hst2
  have hcn : c ≤ numOf kd fi st := by omega
  have hn9 : numOf kd fi st ≤ 9 := by omega
  have hw0 := (pow_facts hW20).1
  have hfok := hue_ok (gn := fi) (W := W) ⟨ha1, ha8⟩ ⟨hb1, hb8⟩ h3W hW20 ⟨by omega, by omega⟩
  have hse := hfok.selfv
  refine law_greys (sc := 0) B F15 X T N15 ht15 hz2 h105 d2 d3 hfok.fin (by rw [maxF_same, minF_same]; exact hse) ms mv mz mt mc (fun G T1 T2 T3 v1 v2 v3 v4 v5 v6 v7 v8 v9 m16 h16 tk16 hzz F16 N16 mgr ms mv mz mt mc => ?_)
  try dsimp only
  refine step_pos (xs := lawCut 22 1) hzz.2.2.2 ?_
  refine law_greyok B F16 X T N16 hzz.2.2.2 hz2 ⟨hzz.1, hzz.2.1, hzz.2.2.1⟩ hse h105 ms mv mz mt mc mgr (fun m17 h17 tk17 F17 N17 ms mv mz mt mc => ?_)
  try dsimp only
  refine wpAny_execs_nil ?_
  refine Then.of fun ht17 => ?_
  clear F15 F16 N15 N16
  have hzl : (sizesL (numOf kd fi st) fi (lapOf kd fi st)).length = numOf kd fi st := by unfold sizesL; simp; omega
  obtain ⟨hso, hql, hat, hdue⟩ := ring_ok (fi := fi) (lap := lapOf kd fi st) (nl := namesL cs) h3W hW20 hn9 hcn hc1 hz
  have hue : ∀ i, i < c → HueOk (eighth a) (eighth b) (goneAt (sizesL (numOf kd fi st) fi (lapOf kd fi st)) (i + 1)) W := fun i hi => by
    rw [gone_at hn9 i (by omega)]
    have hil := mul_bd (show (0 : Int) ≤ (i : Int) by omega) (show (i : Int) ≤ 7 by omega) (show 0 ≤ lapOf kd fi st by omega) hl2
    exact hue_ok ⟨ha1, ha8⟩ ⟨hb1, hb8⟩ h3W hW20 ⟨by omega, by omega⟩
  with_reducible refine law_loop (c := c) (W := W) (kx := pos 8) B F17 X T (cb_drop N17 (by kcj_all)) ht17 hz1 hz2 h105 V hNS lN lS hns hn8 (fun y hy => Nat.le_trans (names_len cs y hy) (by decide)) hss (by omega) hc8 (by omega) h3W hW20 hue hso hql d2 d6 d8 ms mv mz mt mc (fun pn ys m18 h18 tk18 ht18 F18 N18 hys ms mv mz mt mc => ?_)
  try dsimp only
  clear F17 N17
  refine step_pos (xs := lawCut 25 4) ht18 ?_
  rw [end_cut]
  with_reducible refine law_ahead (tl := (P, PySem.W.listOf ys.toArray pn) :: (l, PySem.W.listOf #[.int ((pos 8 : Nat) : Int) t] n) :: (dx, lexD w D0 P a1 a2 a3 a4 (Mine.lineAt (textT cs) (pos 8)) b1 b2) :: (self, instObj 87 dx) :: (Nn, LCg.lst ns) :: (S, PySem.W.listOf ss.toArray sc) :: held) B F18 X T (cb_drop N18 (by kcj_all)) h105 hc1 hc8 h3W d2 d4 mt mc (fun Ah cc ts tz m19 h19 tk19 F19 N19 hT hts htl mt mc ma => ?_)
  try dsimp only
  have hpl : 0 < (aheadP (lapOf kd fi st) (2 ^ W) c).length := by unfold aheadP aheadL; split <;> simp; omega
  with_reducible refine law_ab B F19 X T N19 h105 hT hts hpl mt mc ma (fun ta tb m20 h20 tk20 F20 N20 mt mc ma mb => ?_)
  try dsimp only
  refine law_at B F20 X T N20 h105 hc1 hc8 h3W d2 d3 d4 mt mc ma mb (fun Du t9 dc m21 h21 tk21 F21 N21 hltD mt mc ma mb m9 md => ?_)
  try dsimp only
  refine wpAny_execs_nil ?_
  refine Then.of fun ht21 => ?_
  clear F18 F19 F20 N18 N19 N20
  have hlt := allLt_all hltD
  have hltz : ∀ p ∈ tz, @LT.lt Nat _ p.1 Du := fun p hp => hlt p (by simp [hp])
  have hltl : ∀ p ∈ (P, PySem.W.listOf ys.toArray pn) :: (l, PySem.W.listOf #[.int ((pos 8 : Nat) : Int) t] n) :: (dx, lexD w D0 P a1 a2 a3 a4 (Mine.lineAt (textT cs) (pos 8)) b1 b2) :: (self, instObj 87 dx) :: (Nn, LCg.lst ns) :: (S, PySem.W.listOf ss.toArray sc) :: held, @LT.lt Nat _ p.1 Du := fun p hp => hltz p (htl p hp)
  have hPD : @LT.lt Nat _ P Du := hltl (P, PySem.W.listOf ys.toArray pn) (.head _)
  have hND : @LT.lt Nat _ Nn Du := hltl (Nn, LCg.lst ns) (.tail _ (.tail _ (.tail _ (.tail _ (.head _)))))
  have hLD : @LT.lt Nat _ (L + 8) Du := hlt ((L + 1 + 1 + 1 + 1 + 1 + 1 + 1 + 1 : Addr), o8) (.head _)
  have N22 : News base L h21 ((Du, PySem.W.listOf #[] dc) :: (Nn, LCg.lst ns) :: ((L + 1 + 1 + 1 + 1 + 1 + 1 + 1 + 1 : Addr), o8) :: ((L + 1 + 1 + 1 + 1 + 1 + 1 + 1 : Addr), o7) :: ((L + 1 + 1 + 1 + 1 + 1 + 1 : Addr), o6) :: ((L + 1 + 1 + 1 + 1 + 1 : Addr), o5) :: ((L + 1 + 1 + 1 + 1 : Addr), o4) :: ((L + 1 + 1 + 1 : Addr), o3) :: ((L + 1 + 1 : Addr), o2) :: ((L + 1 : Addr), o1) :: (P, PySem.W.listOf ys.toArray pn) :: (l, PySem.W.listOf #[.int ((pos 8 : Nat) : Int) t] n) :: (dx, lexD w D0 P a1 a2 a3 a4 (Mine.lineAt (textT cs) (pos 8)) b1 b2) :: (self, instObj 87 dx) :: (S, PySem.W.listOf ss.toArray sc) :: held) := fun p hp => N21 p (mem_dn (A := [_, _, _, _]) (C := [_, _, _, _, _, _, _, _]) htl hp)
  with_reducible refine law_due (u6 := t9) B F21 X T N22 ht21 h105 (fun p hp => hltl p (mem_in (A := [_, _, _, _]) hp)) hLD hND hc8 hns (fun y hy => Nat.le_trans (names_len cs y hy) (by decide)) hn8 h3W hW20 (fun i hi => by have := hat i hi; omega) d2 d3 d4 d6 mt mc ma mb md m9 (fun dc ds m23 h23 tk23 F23 N23 hds mt mc ma mb md => ?_)
  try dsimp only
  rw [hdue] at hds
  clear F21 N21 N22
  have hdl : (queueAt (sizesL (numOf kd fi st) fi (lapOf kd fi st)) (namesL cs) W c).length ≤ 20 := by
    rw [← hdue]; unfold dueL; simp; omega
  have hdok : ∀ y ∈ queueAt (sizesL (numOf kd fi st) fi (lapOf kd fi st)) (namesL cs) W c, PyData.strOk y = true := fun y hy => by
    rw [← hdue] at hy
    unfold dueL at hy
    obtain ⟨j, _, rfl⟩ := List.mem_map.mp hy
    unfold dueAt
    rw [pos_fmod hW20]
    have hb := pos_bd (lap := lapOf kd fi st) (fi := fi) hw0 (atAt c (leastP (aheadP (lapOf kd fi st) (2 ^ W) c)).2 (mostP (aheadP (lapOf kd fi st) (2 ^ W) c)).2 (leastP (atL fi (lapOf kd fi st) (2 ^ W) c)).2 j)
    refine key_ok hb.1 (Int.lt_of_lt_of_le hb.2 (pow_facts hW20).2) ?_ _
    rw [List.getD_eq_getElem?_getD]
    cases hq : (namesL cs)[(atAt c (leastP (aheadP (lapOf kd fi st) (2 ^ W) c)).2 (mostP (aheadP (lapOf kd fi st) (2 ^ W) c)).2 (leastP (atL fi (lapOf kd fi st) (2 ^ W) c)).2 j).toNat]? with
    | none => (show PyData.strOk Str.empty = true; decide +kernel)
    | some y => exact names_ok cs y (List.mem_of_getElem? hq)
  have l1 := V.lt1
  have l2 := V.lt2
  have l3 := V.lt3
  have hoff : ∀ p ∈ [((Nn : Addr), LCg.lst ns), (S, PySem.W.listOf ss.toArray sc)], @Ne Nat p.1 P ∧ @Ne Nat p.1 l ∧ @Ne Nat p.1 dx ∧ @Ne Nat p.1 self := fun p hp => by
    simp only [List.mem_cons, List.not_mem_nil, or_false] at hp
    rcases hp with rfl | rfl <;> dsimp only <;> omega
  with_reducible refine law_told (line := Mine.lineAt (textT cs) (pos 8)) (tl := (Nn, LCg.lst ns) :: (S, PySem.W.listOf ss.toArray sc) :: held) (hd9 := [((Nn : Addr), LCg.lst ns), (S, PySem.W.listOf ss.toArray sc)]) B F23 X T (cb_drop N23 (by kcj_all)) h105 V (fun p => mem_hd (H := [_, _])) hoff hPD hds hys hdl hdok d8 mt md (fun pn0 m24 h24 tk24 F24 N24 mt => ?_)
  try dsimp only
  clear F23 N23
  have hoff2 : ∀ p ∈ [((Du : Addr), PySem.W.listOf ds.toArray dc), (Nn, LCg.lst ns), (S, PySem.W.listOf ss.toArray sc)], @Ne Nat p.1 P ∧ @Ne Nat p.1 l ∧ @Ne Nat p.1 dx ∧ @Ne Nat p.1 self := fun p hp => by
    rcases List.mem_cons.mp hp with rfl | hp
    · dsimp only; omega
    · exact hoff p hp
  with_reducible refine law_end (tl := (Du, PySem.W.listOf ds.toArray dc) :: (Nn, LCg.lst ns) :: (S, PySem.W.listOf ss.toArray sc) :: held) (hd9 := [((Du : Addr), PySem.W.listOf ds.toArray dc), (Nn, LCg.lst ns), (S, PySem.W.listOf ss.toArray sc)]) B F24 X T (cb_drop N24 (by kcj_all)) h105 C0 V (fun p => mem_hd (H := [_, _, _])) hoff2 hr1 hr2 hk1 hk2 hxl hln d8 mt (fun h25 tk25 hk hG => ?_)
  try dsimp only
  exact ⟨rfl, hk, rfl, hgl2, hG, trivial⟩
end law_body_K
theorem law_body {w : World} {mean : ExcName → Option Value} {mg mb : Str → Option Value} {base : Heap} {L fa : Addr} {cd : Value} {m : Str → Option Value} {s : Shared} {r : Addr} {vs : List Value} {xs : List Int} {o1 o2 o3 o4 o5 o6 o7 o8 : Obj} : law_body_S w mean mg mb base L fa cd m s r vs xs o1 o2 o3 o4 o5 o6 o7 o8 := @by_bad (fun c => law_body_S (c.w 0) (c.me 0) (c.m 0) (c.m 1) (c.h 0) (c.n 0) (c.n 1) (c.v 0) (c.m 2) (c.sh 0) (c.n 2) (c.lv 0) (c.li 0) (c.o 0) (c.o 1) (c.o 2) (c.o 3) (c.o 4) (c.o 5) (c.o 6) (c.o 7)) (by with_unfolding_all exact law_body_K.main) { cx0 with n := fromL (0) [L, fa, r], o := fromL (default) [o1, o2, o3, o4, o5, o6, o7, o8], v := fromL (.none) [cd], lv := fromL ([]) [vs], m := fromL (fun _ => none) [mg, mb, m], sh := fromL ({}) [s], h := fromL ({}) [base], w := fromL (worldZ) [w], me := fromL (fun _ => none) [mean], li := fromL ([]) [xs] }
end
section
local macro_rules | `(tactic| kn_posts) => do
  let h := Lean.mkIdent `hT9
  `(tactic| (refine kn_postG $h (fun _ _ => rfl) ?hp ?_; (case hp => wrow_post)))
noncomputable def holds_all.tw14371815280105090058 : Nat := 0
noncomputable def holds_all.tw7338008722802244617 : Nat := 0
noncomputable def holds_all.tw8300623030414181194 : Nat := 0
noncomputable def holds_all.tw7687441302266852768 : Nat := 0
noncomputable def holds_all.tw14365175954525078781 : Nat := 0
noncomputable def holds_all.tw12396812150241439398 : Nat := 0
noncomputable def holds_all.tw9999370417769825199 : Nat := 0
noncomputable def holds_all.tw1487183878600054983 : Nat := 0
noncomputable def holds_all.tw5698437497292191538 : Nat := 0
noncomputable def holds_all.tw13375110874341107239 : Nat := 0
noncomputable def holds_all.tw6983628705735658591 : Nat := 0
noncomputable def holds_all.tw2042568952460762373 : Nat := 0
noncomputable def holds_all.tw12151324946062047741 : Nat := 0
noncomputable def holds_all.tw711889767906754612 : Nat := 0
noncomputable def holds_all.tw16353107730625280842 : Nat := 0
noncomputable def holds_all.tw12879778810661223110 : Nat := 0
noncomputable def holds_all.tw16195991615656407426 : Nat := 0
noncomputable def holds_all.tw15995151102128945577 : Nat := 0
noncomputable def holds_all.tw5286118835847609688 : Nat := 0
noncomputable def holds_all.tw441802174703619028 : Nat := 0
noncomputable def holds_all.tw16585860540011434470 : Nat := 0
noncomputable def holds_all.tw13430785028678639018 : Nat := 0
noncomputable def holds_all.tw9120123512761644546 : Nat := 0
noncomputable def holds_all.tw17925339024257173969 : Nat := 0
noncomputable def holds_all.tw8521460031147422210 : Nat := 0
noncomputable def holds_all.tw2250144607336685486 : Nat := 0
noncomputable def holds_all.tw6354702417408028128 : Nat := 0
noncomputable def holds_all.tw2750333052578080329 : Nat := 0
noncomputable def holds_all.tw17092020934014086924 : Nat := 0
noncomputable def holds_all.tw13705334555207463840 : Nat := 0
noncomputable def holds_all.tw12948776179775812113 : Nat := 0
noncomputable def holds_all.tw18145344961366175655 : Nat := 0
noncomputable def holds_all.tw6621455523899625286 : Nat := 0
noncomputable def holds_all.tw7206573229752769135 : Nat := 0
noncomputable def holds_all.tw17672468411376755464 : Nat := 0
noncomputable def holds_all.tw17994783481516144247 : Nat := 0
noncomputable def holds_all.tw17200771105192012591 : Nat := 0
noncomputable def holds_all.tw1114600854741390054 : Nat := 0
noncomputable def holds_all.tw9676920112961157998 : Nat := 0
noncomputable def holds_all.tw8246579457187241004 : Nat := 0
noncomputable def holds_all.tw4899734320131757081 : Nat := 0
noncomputable def holds_all.tw1694874795825358823 : Nat := 0
noncomputable def holds_all.tw5239613568972760767 : Nat := 0
noncomputable def holds_all.tw8016682998287286000 : Nat := 0
noncomputable def holds_all.tw9305323786752548618 : Nat := 0
noncomputable def holds_all.tw976240793659551407 : Nat := 0
noncomputable def holds_all.tw5686341025130608872 : Nat := 0
set_option Elab.async true in
theorem holds_all : PySem.Challenge.rw_st0007_01.Holds := by
  w_on; o_law; k_head; (case hw => w_witness2)
  k_go0
  rename Fr _ _ _ _ => F
  rename News _ _ _ _ => N
  rename Top _ _ _ _ _ (ghostOf _ _) => T
  rename IntsAre _ _ => hI
  rename Frag.In _ (ghostOf _ _) => X
  rename Below _ _ _ _ => B
  rename CellsAre _ _ _ => cA
  refine wpAny_mono (law_body B F X N (top_more T (by decide +kernel)) (by assumption) (by assumption) hI (by omega) ?_ (by assumption) ?_ ?_ ?_ ?_ ?_ ?_ ?_ ?_ ?_) ?_ ?_
  all_goals first | assumption | skip
  · rfl
  · rintro a s ⟨rfl, h1, h2, h3, h4⟩
    exact ⟨rfl, h1, h2, h3, h4⟩
  · rintro e s ⟨⟩
end
end Mine
theorem PySem.Challenge.cw_st0007_01_holds : PySem.Challenge.rw_st0007_01.Holds := by
  exact Mine.holds_all
