import PyProof.Rows.All
import Wide.All
import OpenK.AllK
import Wide.FinOn
import KE.KLam
import PyProof.EnumStmt
import Lean
import PySem.Challenge.RW_zn0023_01
open PySem PySem.W PyProof.Rows PySem.Calls PySem.Spec
set_option Elab.async false
set_option linter.all false
namespace Mine
theorem byNot {P : Prop} (k : (P → False) → False) : P := Classical.byContradiction k

theorem pj1 {p1 p2 : Prop} (h : p1 ∧ p2) : p1 := h.1
theorem pl2 {p1 p2 : Prop} (h : p1 ∧ p2) : p2 := h.2
theorem pj2 {p1 p2 p3 : Prop} (h : p1 ∧ p2 ∧ p3) : p2 := h.2.1
theorem pl3 {p1 p2 p3 : Prop} (h : p1 ∧ p2 ∧ p3) : p3 := h.2.2
theorem pj3 {p1 p2 p3 p4 : Prop} (h : p1 ∧ p2 ∧ p3 ∧ p4) : p3 := h.2.2.1
theorem pl4 {p1 p2 p3 p4 : Prop} (h : p1 ∧ p2 ∧ p3 ∧ p4) : p4 := h.2.2.2
theorem pj4 {p1 p2 p3 p4 p5 : Prop} (h : p1 ∧ p2 ∧ p3 ∧ p4 ∧ p5) : p4 := h.2.2.2.1
theorem pl5 {p1 p2 p3 p4 p5 : Prop} (h : p1 ∧ p2 ∧ p3 ∧ p4 ∧ p5) : p5 := h.2.2.2.2
theorem pj5 {p1 p2 p3 p4 p5 p6 : Prop} (h : p1 ∧ p2 ∧ p3 ∧ p4 ∧ p5 ∧ p6) : p5 := h.2.2.2.2.1
theorem pl6 {p1 p2 p3 p4 p5 p6 : Prop} (h : p1 ∧ p2 ∧ p3 ∧ p4 ∧ p5 ∧ p6) : p6 := h.2.2.2.2.2
theorem pj6 {p1 p2 p3 p4 p5 p6 p7 : Prop} (h : p1 ∧ p2 ∧ p3 ∧ p4 ∧ p5 ∧ p6 ∧ p7) : p6 := h.2.2.2.2.2.1
theorem pl7 {p1 p2 p3 p4 p5 p6 p7 : Prop} (h : p1 ∧ p2 ∧ p3 ∧ p4 ∧ p5 ∧ p6 ∧ p7) : p7 := h.2.2.2.2.2.2
theorem pj7 {p1 p2 p3 p4 p5 p6 p7 p8 : Prop} (h : p1 ∧ p2 ∧ p3 ∧ p4 ∧ p5 ∧ p6 ∧ p7 ∧ p8) : p7 := h.2.2.2.2.2.2.1
theorem pj8 {p1 p2 p3 p4 p5 p6 p7 p8 p9 : Prop} (h : p1 ∧ p2 ∧ p3 ∧ p4 ∧ p5 ∧ p6 ∧ p7 ∧ p8 ∧ p9) : p8 := h.2.2.2.2.2.2.2.1
theorem pj9 {p1 p2 p3 p4 p5 p6 p7 p8 p9 p10 : Prop} (h : p1 ∧ p2 ∧ p3 ∧ p4 ∧ p5 ∧ p6 ∧ p7 ∧ p8 ∧ p9 ∧ p10) : p9 := h.2.2.2.2.2.2.2.2.1
theorem pj10 {p1 p2 p3 p4 p5 p6 p7 p8 p9 p10 p11 : Prop} (h : p1 ∧ p2 ∧ p3 ∧ p4 ∧ p5 ∧ p6 ∧ p7 ∧ p8 ∧ p9 ∧ p10 ∧ p11) : p10 := h.2.2.2.2.2.2.2.2.2.1
theorem nx1 {n : Nat} : n ≠ n + 1 := Nat.ne_of_lt (Nat.lt_succ_self n)
theorem nx2 {n : Nat} : n ≠ n + 1 + 1 := Nat.ne_of_lt (Nat.lt_succ_of_lt (Nat.lt_succ_self n))
theorem ny1 {n : Nat} : n + 1 ≠ n := Ne.symm nx1
theorem ny2 {n : Nat} : n + 1 + 1 ≠ n := Ne.symm nx2
theorem lx1 {n : Nat} : n < n + 1 := Nat.lt_succ_self n
theorem z0le {i : Nat} : 0 ≤ 0 + (i : Int) := by omega
theorem z0nat {i : Nat} : (0 + (i : Int)).toNat = i := by omega
theorem z9lt {n i : Nat} (h : n = 9) (h2 : i < 9) : 0 + (i : Int) < (n : Int) := by omega
theorem bm1 {lo hi m : Int} (h2 : m < hi) (h : lo ≤ m) : (m - lo).toNat < (hi - lo).toNat := by omega
theorem bm2 {lo hi m : Int} (h2 : m < hi) (h : lo ≤ m) : (hi - (m + 1)).toNat < (hi - lo).toNat := by omega
theorem bm3 {lo hi m : Int} {n : Nat} (h2 : m < hi) (h3 : hi ≤ n) (h : lo ≤ m) (h0 : 0 ≤ lo) : m.toNat < n := by omega
theorem bm4 {lo m : Int} {j : Nat} (hj : (j : Int) < m + 1) (h : lo ≤ m) (h0 : 0 ≤ lo) : j ≤ m.toNat := by omega
theorem bm5 {m : Int} {j : Nat} (hj : m ≤ j) : m.toNat ≤ j := by omega
theorem bm6 {lo m : Int} (h : lo ≤ m) (h0 : 0 ≤ lo) : (m.toNat : Int) = m := by omega
theorem bm6' {m : Int} (h : 0 ≤ m) : (m.toNat : Int) = m := Int.toNat_of_nonneg h
theorem bm7 {lo hi : Int} (h : lo < hi) (e : (lo + hi).fdiv 2 = (lo + hi) / 2) : lo ≤ (lo + hi).fdiv 2 := by omega
theorem bm8 {lo hi : Int} (h : lo < hi) (e : (lo + hi).fdiv 2 = (lo + hi) / 2) : (lo + hi).fdiv 2 < hi := by omega
theorem bm9 {hi m n : Int} (h2 : m < hi) (h3 : hi ≤ n) : m ≤ n := Int.le_of_lt (Int.lt_of_lt_of_le h2 h3)
theorem bm11 {lo m : Int} (h : lo ≤ m) (h0 : 0 ≤ lo) : 0 ≤ m + 1 := by omega
theorem bm12 {hi m : Int} (h2 : m < hi) : m + 1 ≤ hi := h2
theorem bm14 {lo hi j : Int} (h : ¬ lo < hi) (hj : lo ≤ j) : hi ≤ j := Int.le_trans (Int.not_lt.mp h) hj
theorem ile {a b : Int} (h : ¬ b < a) : a ≤ b := Int.not_lt.mp h
theorem ilt {a b : Int} (h : ¬ b ≤ a) : a < b := Int.not_le.mp h
theorem nle {a b : Nat} (h : ¬ b < a) : a ≤ b := Nat.not_lt.mp h
theorem ieq {a b : Int} (h : a ≤ b) (h2 : ¬ a < b) : a = b := Int.le_antisymm h (Int.not_lt.mp h2)
theorem ieq' {a b : Int} (h : ¬ a < b) (h2 : ¬ a > b) : a = b := Int.le_antisymm (Int.not_lt.mp h2) (Int.not_lt.mp h)
theorem ilt' {a b : Int} (h : a ≤ b) (h2 : ¬ a = b) : a < b := Int.lt_iff_le_and_ne.mpr ⟨h, h2⟩
theorem nsub0 {n : Nat} : n = ((n : Int) - 0).toNat := by omega
theorem ncast {n : Nat} : ((n : Nat) : Int).toNat = n := by omega
theorem rj1 {r k n : Nat} (h : r ≤ n) (h2 : k < n - r) : r + k < n := by omega
theorem rj2 {r k n : Nat} (h : k < min r n) : k < n := by omega
theorem rj3 {r k n : Nat} (h : k < min r n) : k < r := by omega
theorem rj4 {r n : Nat} (h : r ≤ n) : min r n = r := by omega
theorem rj6 {r : Int} {k : Nat} (h : r.toNat ≤ k) : r ≤ k := by omega
theorem rj7 {r : Int} {k : Nat} (h : k < r.toNat) : (k : Int) < r := by omega
theorem x3lt {x : Int} {n : Nat} (h : n = 4) (h2 : x ≤ 3) : x < n := by omega
theorem neqK {n c K : Nat} (h : n = c) (hk : c ≤ K) : n ≤ K := h ▸ hk
theorem nleK {n c K : Nat} (h : n ≤ c) (hk : c ≤ K) : n ≤ K := Nat.le_trans h hk
theorem iK {i K : Nat} (h2 : i < 9) (hk : 9 ≤ K) : i ≤ K := Nat.le_trans (Nat.le_of_lt h2) hk
theorem niK {n i K : Nat} (h2 : i < 9) (h : n ≤ i) (hk : 9 ≤ K) : n ≤ K := Nat.le_trans h (iK h2 hk)
theorem niK1 {n i K : Nat} (h2 : i < 9) (h : n ≤ i) (hk : 10 ≤ K) : n + (0 + 1) ≤ K := by omega
theorem kz {k : Int} {n i : Nat} (h : 0 ≤ k ∧ k < 0 + (i : Int)) (h9 : n = 9) (hi : i < 9) : k < n := by omega
theorem kz9 {k : Int} {n : Nat} (h : 0 ≤ k ∧ k < (9 : Nat)) (h9 : n = 9) : k < n := by omega
theorem q1 {a x b h i K : Nat} (hb : b ≤ h) (hh : h ≤ i) (hi : i < 9) (ha : a ≤ 9 - x) (hK : 18 ≤ K) : a + b ≤ K := by omega
theorem q2 {a j x K : Nat} (ha : a ≤ j) (hj : j < 9 - x) (hK : 9 ≤ K) : a ≤ K := by omega
theorem q3 {n i j : Nat} (hj : j < 9 - (0 + (i : Int)).toNat) (h : n = 9) : 0 + (i : Int) + (j : Int) < (n : Int) := by omega
theorem q4 {a h i K : Nat} (ha : a ≤ h) (hh : h ≤ i) (hi : i < 9) (hK : 9 ≤ K) : a ≤ K := by omega
theorem q4a {a h i K : Nat} (ha : a ≤ h) (hh : h ≤ i) (hi : i < 9) (hK : 10 ≤ K) : a + (0 + 1) ≤ K := by omega
theorem q5 {a h i K : Nat} (ha : a ≤ h) (hh : h ≤ i) (hi : i < 9) (hK : 9 ≤ K) : a < K := by omega
theorem q6 {i j : Nat} : 0 ≤ 0 + (i : Int) + (j : Int) := by omega
theorem q7 {n : Nat} (h : 0 < n) : 0 < (n : Int) := Int.ofNat_lt.mpr h
theorem q9 {n q h i K : Nat} (e : n = q) (hq : q < h) (hh : h ≤ i) (hi : i < 9) (hK : 9 ≤ K) : n ≤ K := by omega
theorem q10 {n m h i K : Nat} (e : n = m) (e2 : m = h) (hh : h ≤ i) (hi : i < 9) (hK : 9 ≤ K) : n ≤ K := by omega
theorem q11 {a b c : Nat} (h : a + 1 ≤ b) (h2 : b ≤ c) : Nat.succ a ≤ c := Nat.le_trans h h2
theorem q12 {x : Int} (h : 0 ≤ x) (h2 : x ≤ 3) : -5 ≤ x ∧ x ≤ 256 := by omega
theorem r1 {j m : Nat} (h : j < m) : j + 1 < m + 1 := Nat.succ_lt_succ h
theorem r2 {a m : Nat} (h : a + 1 < m + 1) : a < m := Nat.lt_of_succ_lt_succ h
theorem r3 {a m : Nat} (h : a + 1 ≤ m + 1) : a ≤ m := Nat.le_of_succ_le_succ h
theorem r4 {i n : Nat} (h : i + 1 ≤ n) : i < n := h
theorem r5 {i n : Nat} (h : i + 1 ≤ n) : i ≤ n := Nat.le_of_succ_le h
theorem r7 {n i c : Nat} (h : n = c) (h2 : i < c) : i < n := h ▸ h2
theorem r7a {n i c : Nat} (h : n = c) (h2 : i < n) : i < c := h ▸ h2
theorem r8 {k : Int} {n : Nat} (h : 0 ≤ k ∧ k < n) : k.toNat < n := by omega
theorem r19 {k : Int} {n : Nat} (h : 0 ≤ k) (h2 : k < n) : k.toNat < n := r8 ⟨h, h2⟩
theorem r9 {k n : Int} (h : 0 ≤ k ∧ k < n) : (k.toNat : Int) = k := Int.toNat_of_nonneg h.1
theorem r10 {a c K : Nat} (h : a = c) (hk : K ≤ c) : K ≤ a := h ▸ hk
theorem r11 {i : Nat} (h : i < 9) : 0 + (i : Int) < 9 := by omega
theorem r12 {n : Nat} (h : 1 ≤ n) (e : ((0 : Nat) : Int) = n) : False := by omega
theorem r13 {a : Int} (h : 0 ≤ a) (h2 : a < 4) : a = 0 ∨ a = 1 ∨ a = 2 ∨ a = 3 := by omega
theorem r13a {a : Int} (h : 0 ≤ a ∧ a < 4) : a = 0 ∨ a = 1 ∨ a = 2 ∨ a = 3 := r13 h.1 h.2
theorem r14 {k : Int} : 0 ≤ k % 4 ∧ k % 4 < 4 := ⟨Int.emod_nonneg _ (by decide), Int.emod_lt_of_pos _ (by decide)⟩
theorem r15 {k : Int} : -5 ≤ k % 4 ∧ k % 4 ≤ 256 := by omega
theorem r16 {v : Int} (h : 0 ≤ v ∧ v < 4) : v.toNat < 4 := r8 (n := 4) h
theorem r17 {k c K : Int} (h2 : k < c) (hK : c ≤ K) : k ≤ K := Int.le_of_lt (Int.lt_of_lt_of_le h2 hK)
theorem r20 {un a : Nat} (h : un + a + 200 < cLine) : un < cLine := by omega
theorem r21 {a b c K : Nat} (e : a = b) (e2 : b = c) (hK : c ≤ K) : a ≤ K := e ▸ e2 ▸ hK
theorem r22 {n : Int} (h : 0 ≤ n ∧ n < 4) : 0 ≤ n ∧ n < 256 := ⟨h.1, Int.lt_trans h.2 (by decide)⟩
theorem bm20 {lo hi : Int} {f : Nat} (h : lo < hi) (e : (lo + hi).fdiv 2 = (lo + hi) / 2) (hf : (hi - lo).toNat < f + 1) : (hi - ((lo + hi).fdiv 2 + 1)).toNat < f := by omega
theorem bm21 {lo hi : Int} {f : Nat} (h : lo < hi) (e : (lo + hi).fdiv 2 = (lo + hi) / 2) (hf : (hi - lo).toNat < f + 1) : ((lo + hi).fdiv 2 - lo).toNat < f := by omega
theorem cl64 {un a : Nat} (h : un + a + 200 < cLine) : un + 64 < cLine := by omega
theorem clk {un a b : Nat} (h : un + a + 200 < cLine) (hj : b ≤ a) : un + b + 200 < cLine := by omega
theorem rlk {dp k j : Nat} (h : dp + k < recursionLimit) (hj : j ≤ k) : dp + j < recursionLimit := by omega
noncomputable def pick {α : Type} (all : List α) : List Nat → List α → List α
  | [], t => t
  | i :: r, t => match all.drop i with
    | a :: _ => a :: pick all r t
    | [] => pick all r t
theorem pick_sub {α : Type} {all t : List α} (ht : ∀ q ∈ t, q ∈ all) : ∀ (idx : List Nat), ∀ q ∈ pick all idx t, q ∈ all
  | [], q, h => ht q h
  | i :: r, q, h => by
    unfold pick at h
    split at h
    · next a l e =>
      rcases List.mem_cons.mp h with rfl | h
      · exact List.mem_of_mem_drop (i := i) (by rw [e]; exact .head _)
      · exact pick_sub ht r q h
    · exact pick_sub ht r q h
theorem pickAll {α : Type} {P : α → Prop} {all : List α} (H : ∀ q ∈ all, P q) (idx : List Nat) (k : Nat) : ∀ q ∈ pick all idx (all.drop k), P q :=
  fun q h => H q (pick_sub (fun _ h => List.mem_of_mem_drop h) idx q h)
theorem fmc {α : Type} {P : α → Prop} {a : α} {l : List α} (h : P a) (t : ∀ x ∈ l, P x) : ∀ x ∈ a :: l, P x
  | _, .head _ => h
  | _, .tail _ m => t _ m
theorem fmn {α : Type} {P : α → Prop} : ∀ x ∈ ([] : List α), P x := fun _ h => nomatch h
local macro_rules | `(tactic| walk_at $s:str) => `(tactic| k_extra $s)
local macro_rules | `(tactic| omega) => `(tactic| k_extra "omega")
local macro_rules | `(tactic| obtain $p:rcasesPatMed := $e:term) => `(tactic| (k_extra "in"; (obtain $p:rcasesPatMed : _ := $e) <;> k_extra "out"))
local macro_rules | `(tactic| rcases $e:term with $p:rcasesPatLo) => `(tactic| (k_extra "in"; (obtain ($p:rcasesPatLo) : _ := $e) <;> k_extra "out"))
local macro_rules | `(tactic| law_fin) => `(tactic| k_extra "law_fin")
local macro_rules | `(tactic| ktr_room) => `(tactic| k_extra "ktr_room")
local macro_rules | `(tactic| ktr_units) => `(tactic| k_extra "ktr_units")
local macro_rules | `(tactic| tb_start) => `(tactic| k_extra "tb_start")
local macro_rules | `(tactic| tb_rel) => `(tactic| k_extra "tb_rel")
local macro_rules | `(tactic| ktr_unf) => `(tactic| k_extra "ktr_unf")
local macro_rules | `(tactic| ktr_rel) => `(tactic| k_extra "ktr_rel")
theorem reg_base : True := by
  (k_with "omega" => (first | with_reducible assumption | ((with_reducible show @Ne Nat _ _); first | exact Ne.symm (by with_reducible assumption) | exact Nat.ne_of_lt (by with_reducible assumption) | exact Nat.ne_of_gt (by with_reducible assumption) | with_reducible exact nx1 | with_reducible exact nx2 | with_reducible exact nx3 | with_reducible exact ny1 | with_reducible exact ny2 | with_reducible exact ny3 | exact pj1 (by with_reducible assumption) | exact pl2 (by with_reducible assumption) | exact pj2 (by with_reducible assumption) | exact pl3 (by with_reducible assumption) | exact pj3 (by with_reducible assumption) | exact pl4 (by with_reducible assumption) | exact pj4 (by with_reducible assumption) | exact pl5 (by with_reducible assumption) | exact pj5 (by with_reducible assumption) | exact pl6 (by with_reducible assumption) | exact pj6 (by with_reducible assumption) | exact pl7 (by with_reducible assumption) | exact pj7 (by with_reducible assumption) | exact pl8 (by with_reducible assumption) | exact pj8 (by with_reducible assumption) | exact pl9 (by with_reducible assumption) | exact pj9 (by with_reducible assumption) | exact pl10 (by with_reducible assumption) | exact pj10 (by with_reducible assumption) | exact pl11 (by with_reducible assumption) | exact pj11 (by with_reducible assumption) | exact pl12 (by with_reducible assumption) | exact pj12 (by with_reducible assumption) | exact pl13 (by with_reducible assumption) | exact pj13 (by with_reducible assumption) | exact pl14 (by with_reducible assumption) | exact Ne.symm (pj1 (by with_reducible assumption)) | exact Ne.symm (pl2 (by with_reducible assumption)) | exact Ne.symm (pj2 (by with_reducible assumption)) | exact Ne.symm (pl3 (by with_reducible assumption)) | exact Ne.symm (pj3 (by with_reducible assumption)) | exact Ne.symm (pl4 (by with_reducible assumption)) | exact Ne.symm (pj4 (by with_reducible assumption)) | exact Ne.symm (pl5 (by with_reducible assumption)) | exact Ne.symm (pj5 (by with_reducible assumption)) | exact Ne.symm (pl6 (by with_reducible assumption)) | exact Ne.symm (pj6 (by with_reducible assumption)) | exact Ne.symm (pl7 (by with_reducible assumption)) | exact Ne.symm (pj7 (by with_reducible assumption)) | exact Ne.symm (pl8 (by with_reducible assumption)) | exact Ne.symm (pj8 (by with_reducible assumption)) | exact Ne.symm (pl9 (by with_reducible assumption)) | exact Ne.symm (pj9 (by with_reducible assumption)) | exact Ne.symm (pl10 (by with_reducible assumption)) | exact Ne.symm (pj10 (by with_reducible assumption)) | exact Ne.symm (pl11 (by with_reducible assumption)) | exact Ne.symm (pj11 (by with_reducible assumption)) | exact Ne.symm (pl12 (by with_reducible assumption)) | exact Ne.symm (pj12 (by with_reducible assumption)) | exact Ne.symm (pl13 (by with_reducible assumption)) | exact Ne.symm (pj13 (by with_reducible assumption)) | exact Ne.symm (pl14 (by with_reducible assumption)) | exact Nat.ne_of_lt (pj1 (by with_reducible assumption)) | exact Nat.ne_of_lt (pl2 (by with_reducible assumption)) | exact Nat.ne_of_lt (pj2 (by with_reducible assumption)) | exact Nat.ne_of_lt (pl3 (by with_reducible assumption)) | exact Nat.ne_of_lt (pj3 (by with_reducible assumption)) | exact Nat.ne_of_lt (pl4 (by with_reducible assumption)) | exact Nat.ne_of_lt (pj4 (by with_reducible assumption)) | exact Nat.ne_of_lt (pl5 (by with_reducible assumption)) | exact Nat.ne_of_lt (pj5 (by with_reducible assumption)) | exact Nat.ne_of_lt (pl6 (by with_reducible assumption)) | exact Nat.ne_of_lt (pj6 (by with_reducible assumption)) | exact Nat.ne_of_lt (pl7 (by with_reducible assumption)) | exact Nat.ne_of_lt (pj7 (by with_reducible assumption)) | exact Nat.ne_of_lt (pl8 (by with_reducible assumption)) | exact Nat.ne_of_lt (pj8 (by with_reducible assumption)) | exact Nat.ne_of_lt (pl9 (by with_reducible assumption)) | exact Nat.ne_of_lt (pj9 (by with_reducible assumption)) | exact Nat.ne_of_lt (pl10 (by with_reducible assumption)) | exact Nat.ne_of_lt (pj10 (by with_reducible assumption)) | exact Nat.ne_of_lt (pl11 (by with_reducible assumption)) | exact Nat.ne_of_lt (pj11 (by with_reducible assumption)) | exact Nat.ne_of_lt (pl12 (by with_reducible assumption)) | exact Nat.ne_of_lt (pj12 (by with_reducible assumption)) | exact Nat.ne_of_lt (pl13 (by with_reducible assumption)) | exact Nat.ne_of_lt (pj13 (by with_reducible assumption)) | exact Nat.ne_of_lt (pl14 (by with_reducible assumption)) | exact Nat.ne_of_gt (pj1 (by with_reducible assumption)) | exact Nat.ne_of_gt (pl2 (by with_reducible assumption)) | exact Nat.ne_of_gt (pj2 (by with_reducible assumption)) | exact Nat.ne_of_gt (pl3 (by with_reducible assumption)) | exact Nat.ne_of_gt (pj3 (by with_reducible assumption)) | exact Nat.ne_of_gt (pl4 (by with_reducible assumption)) | exact Nat.ne_of_gt (pj4 (by with_reducible assumption)) | exact Nat.ne_of_gt (pl5 (by with_reducible assumption)) | exact Nat.ne_of_gt (pj5 (by with_reducible assumption)) | exact Nat.ne_of_gt (pl6 (by with_reducible assumption)) | exact Nat.ne_of_gt (pj6 (by with_reducible assumption)) | exact Nat.ne_of_gt (pl7 (by with_reducible assumption)) | exact Nat.ne_of_gt (pj7 (by with_reducible assumption)) | exact Nat.ne_of_gt (pl8 (by with_reducible assumption)) | exact Nat.ne_of_gt (pj8 (by with_reducible assumption)) | exact Nat.ne_of_gt (pl9 (by with_reducible assumption)) | exact Nat.ne_of_gt (pj9 (by with_reducible assumption)) | exact Nat.ne_of_gt (pl10 (by with_reducible assumption)) | exact Nat.ne_of_gt (pj10 (by with_reducible assumption)) | exact Nat.ne_of_gt (pl11 (by with_reducible assumption)) | exact Nat.ne_of_gt (pj11 (by with_reducible assumption)) | exact Nat.ne_of_gt (pl12 (by with_reducible assumption)) | exact Nat.ne_of_gt (pj12 (by with_reducible assumption)) | exact Nat.ne_of_gt (pl13 (by with_reducible assumption)) | exact Nat.ne_of_gt (pj13 (by with_reducible assumption)) | exact Nat.ne_of_gt (pl14 (by with_reducible assumption))) | with_reducible exact pj1 (by with_reducible assumption) | with_reducible exact pl2 (by with_reducible assumption) | with_reducible exact lx1 | with_reducible exact lx2 | with_reducible exact z0le | with_reducible exact z0nat | with_reducible exact z9lt (by with_reducible assumption) (by with_reducible assumption) | with_reducible exact zlt (by with_reducible assumption) | with_reducible exact Int.natCast_nonneg _ | with_reducible exact Nat.zero_le _ | with_reducible exact Int.le_refl _ | with_reducible exact Nat.le_refl _ | with_reducible exact neqK (by with_reducible assumption) (by decide) | with_reducible exact iK (by with_reducible assumption) (by decide) | with_reducible exact nleK (by with_reducible assumption) (by decide) | with_reducible exact niK (by with_reducible assumption) (by with_reducible assumption) (by decide) | with_reducible exact niK1 (by with_reducible assumption) (by with_reducible assumption) (by decide) | with_reducible exact cl64 (by with_reducible assumption) | with_reducible exact clk (by with_reducible assumption) (by decide) | with_reducible exact rlk (by with_reducible assumption) (by decide) | with_reducible exact nsub0 | with_reducible exact ncast | with_reducible exact ile (by with_reducible assumption) | with_reducible exact ilt (by with_reducible assumption) | with_reducible exact nle (by with_reducible assumption) | with_reducible exact nlt (by with_reducible assumption) | with_reducible exact ieq (by with_reducible assumption) (by with_reducible assumption) | with_reducible exact ieq' (by with_reducible assumption) (by with_reducible assumption) | with_reducible exact ilt' (by with_reducible assumption) (by with_reducible assumption) | with_reducible exact Int.le_of_lt (by with_reducible assumption) | with_reducible exact Nat.le_of_lt (by with_reducible assumption) | with_reducible exact Nat.le_of_eq (by with_reducible assumption) | with_reducible exact Int.le_trans (by with_reducible assumption) (by with_reducible assumption) | with_reducible exact Nat.le_trans (by with_reducible assumption) (by with_reducible assumption) | with_reducible exact Int.lt_of_lt_of_le (by with_reducible assumption) (by with_reducible assumption) | with_reducible exact Int.lt_of_le_of_lt (by with_reducible assumption) (by with_reducible assumption) | with_reducible exact Int.lt_trans (by with_reducible assumption) (by with_reducible assumption) | with_reducible exact Nat.lt_of_lt_of_le (by with_reducible assumption) (by with_reducible assumption) | with_reducible exact Nat.lt_of_le_of_lt (by with_reducible assumption) (by with_reducible assumption) | with_reducible exact Nat.lt_trans (by with_reducible assumption) (by with_reducible assumption) | with_reducible exact q1 (by with_reducible assumption) (by with_reducible assumption) (by with_reducible assumption) (by with_reducible assumption) (by decide) | with_reducible exact q2 (by with_reducible assumption) (by with_reducible assumption) (by decide) | with_reducible exact q3 (by with_reducible assumption) (by with_reducible assumption) | with_reducible exact q4 (by with_reducible assumption) (by with_reducible assumption) (by with_reducible assumption) (by decide) | with_reducible exact q4a (by with_reducible assumption) (by with_reducible assumption) (by with_reducible assumption) (by decide) | with_reducible exact q5 (by with_reducible assumption) (by with_reducible assumption) (by with_reducible assumption) (by decide) | with_reducible exact q6 | with_reducible exact q7 (by with_reducible assumption) | with_reducible exact q9 (by with_reducible assumption) (by with_reducible assumption) (by with_reducible assumption) (by with_reducible assumption) (by decide) | with_reducible exact q10 (by with_reducible assumption) (by with_reducible assumption) (by with_reducible assumption) (by with_reducible assumption) (by decide) | with_reducible exact q11 (by with_reducible assumption) (by with_reducible assumption) | with_reducible exact q12 (by with_reducible assumption) (by with_reducible assumption) | with_reducible exact r1 (by with_reducible assumption) | with_reducible exact r2 (by with_reducible assumption) | with_reducible exact r3 (by with_reducible assumption) | with_reducible exact r4 (by with_reducible assumption) | with_reducible exact r5 (by with_reducible assumption) | with_reducible exact r7 (by with_reducible assumption) (by with_reducible assumption) | with_reducible exact r7a (by with_reducible assumption) (by with_reducible assumption) | with_reducible exact r8 (by with_reducible assumption) | with_reducible exact r19 (by with_reducible assumption) (by with_reducible assumption) | with_reducible exact r9 (by with_reducible assumption) | with_reducible exact r10 (by with_reducible assumption) (by decide) | with_reducible exact r11 (by with_reducible assumption) | with_reducible exact r12 (by with_reducible assumption) (by with_reducible assumption) | with_reducible exact r13 (by with_reducible assumption) (by with_reducible assumption) | with_reducible exact r13a (by with_reducible assumption) | with_reducible exact r14 | with_reducible exact r15 | with_reducible exact r16 (by with_reducible assumption) | with_reducible exact r17 (by with_reducible assumption) (by decide) | with_reducible exact r20 (by with_reducible assumption) | with_reducible exact r21 (by with_reducible assumption) (by with_reducible assumption) (by decide) | with_reducible exact r22 (by with_reducible assumption) | with_reducible exact bm20 (by with_reducible assumption) (by with_reducible assumption) (by with_reducible assumption) | with_reducible exact bm21 (by with_reducible assumption) (by with_reducible assumption) (by with_reducible assumption) | with_reducible exact bm1 (by with_reducible assumption) (by with_reducible assumption) | with_reducible exact bm2 (by with_reducible assumption) (by with_reducible assumption) | with_reducible exact bm3 (by with_reducible assumption) (by with_reducible assumption) (by with_reducible assumption) (by with_reducible assumption) | with_reducible exact bm4 (by with_reducible assumption) (by with_reducible assumption) (by with_reducible assumption) | with_reducible exact bm5 (by with_reducible assumption) | with_reducible exact bm6 (by with_reducible assumption) (by with_reducible assumption) | with_reducible exact bm6' (by with_reducible assumption) | with_reducible exact bm7 (by with_reducible assumption) (by with_reducible assumption) | with_reducible exact bm8 (by with_reducible assumption) (by with_reducible assumption) | with_reducible exact bm9 (by with_reducible assumption) (by with_reducible assumption) | with_reducible exact bm11 (by with_reducible assumption) (by with_reducible assumption) | with_reducible exact bm12 (by with_reducible assumption) | with_reducible exact bm14 (by with_reducible assumption) (by with_reducible assumption) | with_reducible exact x3lt (by with_reducible assumption) (by with_reducible assumption) | with_reducible exact kz (by with_reducible assumption) (by with_reducible assumption) (by with_reducible assumption) | with_reducible exact kz9 (by with_reducible assumption) (by with_reducible assumption) | with_reducible exact rj1 (by with_reducible assumption) (by with_reducible assumption) | with_reducible exact rj2 (by with_reducible assumption) | with_reducible exact rj3 (by with_reducible assumption) | with_reducible exact rj4 (by with_reducible assumption) | with_reducible exact rj5 (by with_reducible assumption) | with_reducible exact rj6 (by with_reducible assumption) | with_reducible exact rj7 (by with_reducible assumption) | with_reducible exact inj1 (by with_reducible assumption) (by with_reducible assumption) | with_reducible exact ifa (by with_reducible assumption) (by with_reducible assumption) | with_reducible exact ifb (by with_reducible assumption) (by with_reducible assumption) (by with_reducible assumption) | with_reducible exact ifc (by with_reducible assumption) (by with_reducible assumption) (by with_reducible assumption) | with_reducible exact nneg (by with_reducible assumption) | exact And.imp Nat.ne_of_lt (And.imp Nat.ne_of_lt (And.imp Nat.ne_of_lt (And.imp Nat.ne_of_lt (Nat.ne_of_lt)))) (by with_reducible assumption) | exact And.imp Nat.ne_of_lt (And.imp Nat.ne_of_lt (And.imp Nat.ne_of_lt (And.imp Nat.ne_of_lt (And.imp Nat.ne_of_lt (And.imp Nat.ne_of_lt (Nat.ne_of_lt)))))) (And.right (by with_reducible assumption)) | decide))
  (k_with "ktr_room" => (((try dsimp only); first | with_reducible assumption | exact Ne.symm (by with_reducible assumption) | exact Nat.ne_of_lt (by with_reducible assumption) | exact Ne.symm (Nat.ne_of_lt (by with_reducible assumption)) | k_ne)))
  (k_with "ktr_units" => (first | exact fmn | (refine' fmc (by ktr_room) (by ktr_units)) | (refine' UpdF.head (by ktr_units)) | (refine' UpdF.tail (by ktr_room) (by ktr_units))))
  (k_with "law_fin" => ((repeat (first | ((rename (@Ne Nat _ _) ∧ _ => hx'); have hx1' := hx'.1; have hx2' := hx'.2; clear hx') | ((rename (@LT.lt Nat _ _ _) ∧ _ => hx'); have hx1' := hx'.1; have hx2' := hx'.2; clear hx')))))
  (k_with "tb_start" => (first | assumption | exact Dct.keeps (by assumption) (Fr.keep (by assumption)) | exact dct_led (by assumption) (by assumption) (by k_mem) (by assumption)))
  (k_with "getMethod ref" => ((k_dflt (first | ((with_reducible show wpAny _ _ (getMethod (Value.ref _) (Str.ofString "items") _) _ _ _); refine dm_method PySem.F.slot_dict_items PySem.F.type_dict_items (by tb_start) ?_) | ((with_reducible show wpAny _ _ (getMethod (Value.ref _) (Str.ofString "values") _) _ _ _); refine dm_method PySem.F.slot_dict_values PySem.F.type_dict_values (by tb_start) ?_) | ((with_reducible show wpAny _ _ (getMethod (Value.ref _) (Str.ofString "get") _) _ _ _); refine dm_method PySem.F.slot_dict_get PySem.F.type_dict_get (by tb_start) ?_)))))
  (k_with "call builtin:dict.values" => ((k_dflt (refine dm_values (by tb_start) (by k_asm) (by k_asm) ?_; intro _ _ _ _ _))))
  (k_with "call builtin:dict.items" => ((k_dflt (refine dm_items (by tb_start) (by k_asm) (by k_asm) ?_; intro _ _ _ _ _))))
  (k_with "eval Dict nil nil" => ((k_dflt (refine dm_new (by k_asm) (by k_asm) (TopRead.nolimit (by k_asm)) ?_; intro _ _ _ _ _ _ _ _))))
  (k_with "tb_rel" => (first | with_reducible assumption | with_reducible exact mk_int _ _ _ | exact mk_int _ _ _ | exact mk_new _ _ | assumption))
  (k_with "setItem ref int" => ((k_dflt (refine' dm_set (by k_asm) (by k_asm) (by ktr_units) (by first | with_reducible assumption | assumption) (by tb_rel) (by first | with_reducible assumption | omega) ?_; intro _ _ _ N_r _; (try dsimp only at N_r)))))
  (k_with "setItem ref int int" => ((k_dflt (refine' dm_set (by k_asm) (by k_asm) (by ktr_units) (by first | with_reducible assumption | assumption) (by tb_rel) (by first | with_reducible assumption | omega) ?_; intro _ _ _ N_r _; (try dsimp only at N_r)))))
  (k_with "setItem ref str int" => ((k_dflt (refine' dm_set (by k_asm) (by k_asm) (by ktr_units) (by first | with_reducible assumption | assumption) (by tb_rel) (by first | with_reducible assumption | omega) ?_; intro _ _ _ N_r _; (try dsimp only at N_r)))))
  (k_with "compareOp In ref" => ((k_dflt ((with_reducible show wpAny _ _ (compareOp CmpOp.In _ (Value.ref _)) _ _ _); refine dm_in (by tb_start) (by tb_rel) ?_))))
  (k_with "compareOp In int ref" => ((k_dflt ((with_reducible show wpAny _ _ (compareOp CmpOp.In _ (Value.ref _)) _ _ _); refine dm_in (by tb_start) (by tb_rel) ?_))))
  (k_with "compareOp In str ref" => ((k_dflt ((with_reducible show wpAny _ _ (compareOp CmpOp.In _ (Value.ref _)) _ _ _); refine dm_in (by tb_start) (by tb_rel) ?_))))
  (k_with "exec For Tuple Call cons nil" => ((k_dflt ((with_unfolding_all refine For_itemsF (by k_asm) (by rfl) (by rfl) (by rfl) (by rfl) ?_)))))
  (k_with "getItem ref" => ((k_dflt (refine dm_getItem (by tb_start) (by tb_rel) (by assumption) ?_; intro _))))
  (k_with "getItem ref int" => ((k_dflt (refine dm_getItem (by tb_start) (by tb_rel) (by assumption) ?_; intro _))))
  (k_with "ktr_unf" => (first | assumption | exact Lst.keeps (by assumption) (Fr.keep (by assumption)) | exact lst_led (by assumption) (by k_mem) (by assumption) | exact lst_led0 (by assumption) (by k_mem) | exact lst_led1 (by assumption) (by k_mem) | exact LObj.led (by assumption) (by k_mem) (by assumption)))
  (k_with "subscriptTail Name Name ref int" => ((k_dflt (refine lst_item (by ktr_unf) (by omega) (by omega) (by omega) ?_; intro _))))
  (k_with "call builtin:len" => ((k_dflt ((with_reducible show wpAny _ _ (call (Value.builtin "len") [Value.ref _]) _ _ _); refine lst_len (by ktr_unf) (by omega) ?_; intro _ _))))
  (k_with "exec While Compare cons nil" => ((refine Stop.on ?_)))
  (k_with "exec For Name Call cons nil" => (((fail_if_success guard_hyp off_For : True); ((k_dflt ((with_unfolding_all refine For_any (by k_asm) ?_)))))))
  (k_with "exec For Name Name cons nil" => (((fail_if_success guard_hyp off_For : True); ((k_dflt ((with_unfolding_all refine For_any (by k_asm) ?_)))))))
  (k_with "eval Name" => (((with_reducible show wpAny _ _ (eval _ (compEnvC _ _ _ _)) _ _ _); k_dflt (first | (refine' cname_local (by assumption) (by first | assumption | rfl) ?_ (by rfl) (by rfl); k_whole) | (refine' cname_cell (by assumption) (by rfl) (by assumption) (by first | with_reducible assumption | assumption) ?_ (by rfl) (by rfl); k_whole)))))
  (k_with "exec Assign cons ListComp" => ((first | (with_unfolding_all refine wpAny_Assign_Name ?_ (by rfl)) | (refine Stop.on ?_))))
  (k_with "eval ListComp" => ((refine Stop.on ?_)))
  (k_with "Keeps" => (first | exact ⟨_, _, rfl, fun _ _ e => e⟩ | exact ⟨_, _, rfl, by assumption⟩))
  (k_with "compareOp NotEq ref ref" => ((k_dflt (refine lst_ne (by ktr_unf) (by ktr_unf) (by first | units_room | (show _ + 64 < _; omega)) ?_))))
  (k_with "compareOp Eq ref ref" => ((k_dflt (refine lst_eq (by ktr_unf) (by ktr_unf) (by first | units_room | (show _ + 64 < _; omega)) ?_))))
  (k_with "subscriptTail Name UnaryOp ref int" => ((k_dflt (refine lst_last (by ktr_unf) (by with_reducible assumption) (by (try simp only [List.length_append]); omega) ?_); intro _)))
  (k_with "subscriptTail Name Slice ref ref" => (((fail_if_success guard_hyp off_Slice : True); ((k_dflt (refine lst_slice (by k_asm) (by k_asm) (by ktr_unf) (by omega) (by kmk_part) (by kmk_part) ?_; intro _ _ _ _ _ l1_r _ _; (try k_lt l1_r)))))))
  (k_with "call builtin:dict.get" => ((k_dflt (refine dm_get2 (by tb_start) (by tb_rel) ?_; intro _))))
  (k_with "ktr_rel" => ((repeat' (first | exact trivial | refine ⟨by k_mem, ?_⟩))))
  (k_with "compareOp In int ref" => ((k_dflt ((with_reducible show wpAny _ _ (compareOp CmpOp.In _ (Value.ref _)) _ _ _); refine lst_in (by ktr_unf) ?_))))
  (k_with "compareOp NotIn int ref" => ((k_dflt ((with_reducible show wpAny _ _ (compareOp CmpOp.NotIn _ (Value.ref _)) _ _ _); refine lst_notin (by ktr_unf) ?_))))
  (k_with "delItem ref int" => ((k_dflt (refine' lo_del (by k_asm) (by k_asm) (by ktr_units) (by assumption) (by omega) (by omega) (by omega) ?_; intro _ _ _ N_r _; (try dsimp only at N_r)))))
  (k_with "inplaceOp Add ref ref" => ((k_dflt (refine' lo_iadd (by k_asm) (by k_asm) (by ktr_units) (by assumption) (by first | assumption | exact Fr.keep (by k_asm) _ _ (by assumption) | exact News.get (by k_asm) (by k_mem)) (by first | assumption | exact LObj.of (by assumption)) (by omega) ?_; intro _ _ _ N_r _; (try dsimp only at N_r)))))
  (k_with "call builtin:list.append" => ((k_dflt (refine' lo_append (by k_asm) (by k_asm) (by ktr_units) (by assumption) (by omega) ?_; intro _ _ _ N_r _; (try dsimp only at N_r)))))
  (k_with "binaryOp Add ref ref" => (((fail_if_success guard_hyp off_Slice : True); ((k_dflt (refine' lst_add (by k_asm) (by k_asm) (by ktr_unf) (by ktr_unf) (by ((try simp only [List.length_cons, List.length_nil, List.length_append]); omega)) ?_; intro _ _ _ _ _ l1_r _; (try k_lt l1_r)))))))
  (k_with "call ref" => ((refine Stop.on ?_)))
  (k_with "call ref" => (((with_reducible show wpAny _ _ (call (Value.ref 90) _ _) _ _ _); k_dflt (first | (refine' use_inl (by assumption) (by k_asm) (by assumption) (by k_asm) (by assumption) (by rfl) (by omega) (by omega) (by ktr_unf) ?_; intro h_r tk_r F_r N_r keep_r) | (refine' use_ind (by assumption) (by k_asm) (by assumption) (by k_asm) (by assumption) (by rfl) (by omega) (by omega) (by tb_start) (by tb_rel) ?_; intro h_r tk_r F_r N_r keep_r)))))
  (k_with "call ref" => (((with_reducible show wpAny _ _ (call (Value.ref 49) _ _) _ _ _); k_dflt (refine' use_add (by assumption) (by k_asm) (by assumption) (by k_asm) (by assumption) (by rfl) (by omega) (by omega) (by tb_start) (by tb_start) (by ((try simp only [List.length_cons, List.length_nil]); omega)) ?_; intro _ _ _ _ _ _ off_r _ _ _; (try simp only [offP, and_true] at off_r)))))
  (k_with "call ref" => (((with_reducible show wpAny _ _ (call (Value.ref 56) _ _) _ _ _); k_dflt (refine' use_count (by assumption) (by k_asm) (by assumption) (by k_asm) (by assumption) (by rfl) (by omega) (by omega) (by tb_start) ?_; intro _ _ _ _ _ _))))
  (k_with "call ref" => (((with_reducible show wpAny _ _ (call (Value.ref 83) _ _) _ _ _); k_dflt (refine' use_bl (by assumption) (by k_asm) (by assumption) (by k_asm) (by assumption) (by rfl) (by omega) (by omega) (by ktr_unf) (by assumption) (by omega) ?_; intro _ _ _ _ _ _))))
  (k_with "call ref" => (((with_reducible show wpAny _ _ (call (Value.ref 65) _ _) _ _ _); k_dflt (refine' use_br (by assumption) (by k_asm) (by assumption) (by k_asm) (by assumption) (by rfl) (by omega) (by omega) (by ktr_unf) (by assumption) (by omega) ?_; intro _ _ _ _ _ _))))
  (k_with "call ref" => (((with_reducible show wpAny _ _ (call (Value.ref 97) _ _) _ _ _); k_dflt (refine' use_del (by assumption) (by k_asm) (by assumption) (by k_asm) (by assumption) (by rfl) (by omega) (by omega) (by ktr_units) (by assumption) (by omega) (by omega) (by omega) ?_; intro _ _ _ _ N_r _ _; (try dsimp only at N_r)))))
  (k_with "call ref" => (((with_reducible show wpAny _ _ (call (Value.ref 118) _ _) _ _ _); k_dflt (refine' use_iadd (by assumption) (by k_asm) (by assumption) (by k_asm) (by assumption) (by rfl) (by omega) (by omega) (by ktr_units) (by assumption) (by ktr_room) (by k_mem) (by first | assumption | exact LObj.of (by assumption) | exact LObj.of (.cons _ _ .nil)) (by ((try simp only [List.length_cons, List.length_nil]); omega)) ?_; intro _ _ _ _ N_r _ _; (try dsimp only at N_r)))))
  (k_with "call ref" => (((with_reducible show wpAny _ _ (call (Value.ref 111) _ _) _ _ _); k_dflt (refine' use_set (by assumption) (by k_asm) (by assumption) (by k_asm) (by assumption) (by rfl) (by omega) (by omega) (by ktr_units) (by assumption) (by omega) ?_; intro _ _ _ _ N_r _ _; (try dsimp only at N_r)))))
  (k_with "eval Dict nil nil" => ((k_dflt (refine dm_newL (by k_asm) (by k_asm) (TopRead.nolimit (by k_asm)) ?_; intro _ _ _ _ _ lt_r _ _; (try k_lt lt_r)))))
  (k_with "subscriptTail" => ((k_dflt (dsimp only; (with_reducible show wpAny _ _ (subscriptTail _ _ _ (Value.int _ _)) _ _ _); refine seq_item (by first | assumption | exact SeqV.keeps (by assumption) (Fr.keep (by assumption))) (by omega) (by omega) (by omega) ?_; intro _ _))))
  (k_with "eval Dict cons cons" => ((k_dflt (refine' kdn_eval (knd := mk _) (by k_asm) (by k_asm) (by exact TopRead.nolimit (by k_asm)) (by rfl) (by rfl) (by exact List.cons_ne_nil _ _) (by exact Nat.le_of_ble_eq_true rfl) ?_); intro _ _ _ _ _ l1_r _ _; (try k_lt l1_r))))
  (k_with "KdnMade" => ((k_dflt (refine' dm_made1 (by k_asm) (by k_asm) (by ktr_units) (by first | with_reducible assumption | assumption) (by tb_rel) ?_); intro _ _ _ N_r _; (try dsimp only at N_r))))
  (k_with "subscriptTail Name Name ref int" => ((dsimp only; k_dflt (refine dm_item (by tb_start) (by tb_rel) (by assumption) ?_); intro _)))
  (k_with "call builtin:sorted" => ((k_dflt (refine' lst_sorted (by k_asm) (by k_asm) (by ktr_unf) (by omega) ?_); intro _ _ _ _ _ l1_r _; (try k_lt l1_r))))
  (k_with "getMethod ref" => (((with_reducible show wpAny _ _ (getMethod (Value.ref _) (Str.ofString "append") _) _ _ _); k_dflt (refine lo_appendM (by k_asm) (by k_mem) (by with_reducible assumption) ?_))))
  (k_with "storeName" => ((k_dflt (refine' storeX_C (by k_asm) (by k_asm) (by rfl) (by ktr_units) (by k_asm) ?_ (by rfl) (by rfl); k_whole; intro _ _ _ N_r _; (try dsimp only at N_r); (try k_sweep)))))
  (k_with "subscriptTail Name Constant ref int" => ((refine Stop.on ?_)))
  (k_with "exec For Tuple Attribute cons nil" => ((k_dflt ((with_unfolding_all refine For_pairsF (by k_asm) (by rfl) (by rfl) (by rfl) (by rfl) ?_)))))
  (k_with "getAttr ref" => ((k_dflt (refine' ord_attr (by k_asm) (by assumption) (by assumption) (by assumption) (by k_is) (by k_is) (by k_is) (by k_is) ?_))))
  (k_with "subscriptTail Name Name ref int" => ((k_dflt (refine pr_item (by first | assumption | exact Pair.keeps (by assumption) (Fr.keep (by k_asm))) (by first | exact .inl rfl | exact .inr rfl) ?_; intro _; (try dsimp only)))))
  (k_with "getMethod ref" => ((k_dflt (refine' ord_meth (by k_asm) (by assumption) (by assumption) (by k_is) (by k_is) (by k_is) (by assumption) ?_))))
  (k_with "call ref" => (((with_reducible show wpAny _ _ (call (Value.ref _) [Value.ref _] _) _ _ _); k_dflt (refine' use_lam (by assumption) (by k_asm) (by assumption) (by k_asm) (by assumption) (by rfl) (by omega) (by omega) (by exact LamAt.keeps (by assumption) (Fr.keep (by k_asm))) (by first | exact Pair.keeps (by assumption) (Fr.keep (by k_asm))) ?_; intro _ _ _ _ _ _))))
  (k_with "subscriptTail Name Name ref int" => ((k_dflt (refine rl_item (by exact RLst.keeps (by assumption) (Fr.keep (by k_asm))) (by omega) (by omega) ?_))))
  (k_with "call builtin:len" => ((k_dflt ((with_reducible show wpAny _ _ (call (Value.builtin "len") [Value.ref _]) _ _ _); refine rl_len (by exact RLst.keeps (by assumption) (Fr.keep (by k_asm))) (by omega) ?_; intro _ _))))
  (k_with "callWith ref" => ((k_dflt (refine' callWith_F (by exact fnAt_lam (LamAt.keeps (by assumption) (Fr.keep (by k_asm)))) ?_; k_whole))))
  (k_with "FnAt" => ((k_dflt (exact fnAt_lam (LamAt.keeps (by assumption) (Fr.keep (by k_asm)))))))
  (k_with "getMethod ref" => (((with_reducible show wpAny _ _ (getMethod (Value.ref _) (Str.ofString "insert") _) _ _ _); k_dflt (refine rl_insertM (by k_asm) (by k_mem) (by with_reducible assumption) ?_))))
  (k_with "call builtin:list.insert" => ((k_dflt (refine' rl_insert (by k_asm) (by k_asm) (by ktr_units) (by assumption) (by assumption) (by assumption) (by omega) ?_; intro _ _ _ N_r _; (try dsimp only at N_r)))))
  (k_with "subscriptTail" => ((k_dflt ((with_reducible show wpAny _ _ (subscriptTail _ _ _ (Value.int _ _)) _ _ _); refine seq_item (by first | assumption | exact SeqV.keeps (by assumption) (Fr.keep (by assumption))) (by omega) (by omega) (by omega) ?_; intro _ _))))
  (k_with "ktr_units" => (first | exact fmn | with_reducible assumption | (refine' fmc (by ktr_room) (by ktr_units)) | (refine' UpdF.head (by ktr_units)) | (refine' UpdF.tail (by ktr_room) (by ktr_units))))
  (k_with "in" => (refine byNot ?_; intro oO_r))
  (k_with "out" => (refine oO_r ?_; clear oO_r))
  trivial


section
theorem exp_split : ∃ f : Value → Code × Pos → Bool, (∀ self, Builtin.Bytes.exported self = (do return (← PySem.stack).any (f self))) ∧
    (∀ self b e p, f self (.func b e, p) = false) ∧ (∀ self g a p, f self (.call g a, p) = false) ∧ (∀ self p, f self (.builtin "claim.caller" {}, p) = false) ∧
    (∀ self T as kw p, f self (.builtin "type.__call__" ⟨.type T :: as, kw⟩, p) = false) ∧ (∀ self as p, f self (.builtin "bytearray.__init__" ⟨as, []⟩, p) = false) := by
  refine ⟨_, fun _ => rfl, ?_, ?_, ?_, ?_, ?_⟩
  · intros; rfl
  · intros; rfl
  · intros; rfl
  · intros; rfl
  · intro self as p
    cases as with
    | nil => rfl
    | cons a r =>
      show (Builtin.Bytes.sameRef a self && Builtin.Bytes.decodersThatHold.contains "bytearray.__init__") = false
      rw [show Builtin.Bytes.decodersThatHold.contains "bytearray.__init__" = false by decide +kernel, Bool.and_false]
noncomputable def expT : Value → Code × Pos → Bool := Classical.choose exp_split
theorem exp_is (self : Value) : Builtin.Bytes.exported self = (do return (← PySem.stack).any (expT self)) := (Classical.choose_spec exp_split).1 self
noncomputable def Idle (c : Code) : Prop := ∀ self p, expT self (c, p) = false
theorem idle_func (b : List Stmt) (e : Env) : Idle (.func b e) := fun self p => (Classical.choose_spec exp_split).2.1 self b e p
theorem idle_call (g : Value) (a : Args) : Idle (.call g a) := fun self p => (Classical.choose_spec exp_split).2.2.1 self g a p
theorem idle_caller : Idle (.builtin "claim.caller" {}) := fun self p => (Classical.choose_spec exp_split).2.2.2.1 self p
theorem idle_type (T : String) (as : List Value) (kw : List (Str × Value)) : Idle (.builtin "type.__call__" ⟨.type T :: as, kw⟩) := fun self p => (Classical.choose_spec exp_split).2.2.2.2.1 self T as kw p
theorem idle_init (as : List Value) : Idle (.builtin "bytearray.__init__" ⟨as, []⟩) := fun self p => (Classical.choose_spec exp_split).2.2.2.2.2 self as p

noncomputable def IdleAll (l : List (Code × Pos)) : Prop := ∀ x ∈ l, Idle x.1
noncomputable def wpX {α : Type} (M : Model) (A : Around) (t : Sem α) (Q : α → Shared → Prop) (E : Value → Shared → Prop) (s : Shared) : Prop :=
  ∀ Γ p, Γ.In A → Idle Γ.code → IdleAll Γ.below → Sem.wp M Γ t (fun a _ s' => Q a s') (fun e _ s' => E e s') p s
noncomputable def codeX (M : Model) (A : Around) (c : Code) (R : Result → Shared → Prop) (s : Shared) : Prop :=
  ∀ Γ p, Γ.code = c → Γ.Below A → IdleAll Γ.below → wpCode M Γ R p s
section
variable {α β : Type} {M : Model} {A : Around} {E : Value → Shared → Prop} {s : Shared}
theorem wpX_of {t : Sem α} {Q : α → Shared → Prop} (h : wpAny M A t Q E s) : wpX M A t Q E s := fun Γ p hΓ _ _ => h Γ p hΓ
theorem codeX_of {c : Code} {R : Result → Shared → Prop} (h : codeAny M A c R s) : codeX M A c R s := fun Γ p hc hΓ _ => h Γ p hc hΓ
theorem wpX_mono {t : Sem α} {Q Q' : α → Shared → Prop} {E' : Value → Shared → Prop} (h : wpX M A t Q E s) (hQ : ∀ a s, Q a s → Q' a s) (hE : ∀ e s, E e s → E' e s) : wpX M A t Q' E' s :=
  fun Γ p hΓ i j => Sem.wp_mono M Γ t (fun a _ s => hQ a s) (fun e _ s => hE e s) p s (h Γ p hΓ i j)
theorem wpX_bind {m : Sem α} {f : α → Sem β} {Q : β → Shared → Prop} (h : wpX M A m (fun a s' => wpX M A (f a) Q E s') E s) : wpX M A (m >>= f) Q E s := fun Γ p hΓ i j => by
  rw [Sem.wp_bind']
  exact Sem.wp_mono M Γ m (fun a p' s' h' => h' Γ p' hΓ i j) (fun _ _ _ h' => h') p s (h Γ p hΓ i j)
theorem wpX_pure {a : α} {Q : α → Shared → Prop} (h : Q a s) : wpX M A (pure a) Q E s := fun _ _ _ _ _ => h
theorem wpX_holding {vs : List Value} {m : Sem α} {Q : α → Shared → Prop} (h : wpX M A m Q E s) : wpX M A (PySem.holding vs m) Q E s := fun Γ p hΓ i j => by rw [Sem.wp_holding]; exact h Γ p hΓ i j
theorem wpX_onRaise {m : Sem α} {k : Value → Sem Unit} {Q : α → Shared → Prop} (h : wpX M A m Q (fun e s' => wpAny M A (k e) (fun _ s'' => E e s'') E s') s) : wpX M A (m.onRaise k) Q E s := fun Γ p hΓ i j => by
  rw [Sem.wp_onRaise]
  exact Sem.wp_mono M Γ m (fun _ _ _ h' => h') (fun e p' s' h' => h' Γ p' hΓ) p s (h Γ p hΓ i j)
theorem wpX_standAt {pos : Pos} {Q : Unit → Shared → Prop} (h : Q () s) : wpX M A (PySem.standAt pos) Q E s := fun _ _ _ _ _ => h
theorem wpX_call {f : Value} {pos : List Value} {kw : List (Str × Value)} {Q : Value → Shared → Prop}
    (h : codeX M A (.call f ⟨pos, kw⟩) (fun r s' => match r with | .ok (.ret v) => Q v s' | .ok _ => False | .error e => E e s') s) : wpX M A (PySem.call f pos kw) Q E s := fun Γ p hΓ i j => by
  show Sem.wp M Γ (runValue _) _ _ p s
  rw [Sem.wp_runValue]
  refine h _ p rfl (hΓ.enter _ none p (by intro x; cases x)) fun x hx => ?_
  rcases List.mem_cons.mp hx with rfl | hx
  · exact i
  · exact j x hx
theorem wpX_exported {self : Value} {Q : Bool → Shared → Prop} (h : Q false s) : wpX M A (Builtin.Bytes.exported self) Q E s := fun Γ p hΓ i j => by
  rw [exp_is]
  show Q (((Γ.code, p) :: Γ.below).any (expT self)) s
  have e : ((Γ.code, p) :: Γ.below).any (expT self) = false := by
    rw [List.any_eq_false]
    intro x hx
    rcases List.mem_cons.mp hx with rfl | hx
    · rw [i self p]; exact Bool.false_ne_true
    · rw [show expT self x = false from j x hx self x.2]; exact Bool.false_ne_true
  rw [e]; exact h
theorem codeX_tree {c : Code} {R : Result → Shared → Prop} (hi : Idle c)
    (h : wpX M (A.under c) (M.den c) (fun fin s' => match fin with | .done f => R (.ok f) s' | .again c' => c'.quiet = true ∧ codeX M A c' R s') (fun e s' => R (.error e) s') s) : codeX M A c R s := fun Γ p hc hΓ j => by
  rw [wpCode_iff_wp, hc]
  refine Sem.wp_mono M Γ _ (fun fin p' s' h' => ?_) (fun _ _ _ h' => h') p s (h Γ p (hc ▸ hΓ.in) (hc ▸ hi) j)
  cases fin with
  | done f => exact h'
  | again c' => exact ⟨h'.1, h'.2 (Γ.goto c') p' rfl (hΓ.goto c') j⟩
theorem wp_execs_append {Γ : PySem.Ctx} {env : Env} {r : List Stmt} {Q : Flow → Pos → Shared → Prop} {E : Value → Pos → Shared → Prop} : ∀ {l : List Stmt} {p : Pos} {s : Shared},
    Sem.wp M Γ (PySem.execs l env) (fun f p' s' => match f with | .next => Sem.wp M Γ (PySem.execs r env) Q E p' s' | f => Q f p' s') E p s → Sem.wp M Γ (PySem.execs (l ++ r) env) Q E p s
  | [], _, _, h => h
  | st :: l, p, s, h => by
    show Sem.wp M Γ (PySem.execs (st :: (l ++ r)) env) _ _ p s
    rw [execs_cons, Sem.wp_bind'] at h ⊢
    refine Sem.wp_mono M Γ _ (fun f p' s' h₁ => ?_) (fun _ _ _ h₁ => h₁) p s h
    cases f with
    | next => exact wp_execs_append (l := l) h₁
    | _ => exact h₁
theorem wpX_execs {env : Env} {l r : List Stmt} {Q : Flow → Shared → Prop} (h : wpX M A (PySem.execs l env) (fun f s' => match f with | .next => wpX M A (PySem.execs r env) Q E s' | f => Q f s') E s) : wpX M A (PySem.execs (l ++ r) env) Q E s := fun Γ p hΓ i j => by
  refine wp_execs_append (Sem.wp_mono M Γ _ (fun f p' s' h₁ => ?_) (fun _ _ _ h₁ => h₁) p s (h Γ p hΓ i j))
  cases f with
  | next => exact h₁ Γ p' hΓ i j
  | _ => exact h₁
theorem wpX_cons {env : Env} {st : Stmt} {r : List Stmt} {Q : Flow → Shared → Prop} (h : wpX M A (PySem.exec st env) (fun f s' => match f with | .next => wpX M A (PySem.execs r env) Q E s' | f => Q f s') E s) : wpX M A (PySem.execs (st :: r) env) Q E s := fun Γ p hΓ i j => by
  rw [execs_cons, Sem.wp_bind']
  refine Sem.wp_mono M Γ _ (fun f p' s' h₁ => ?_) (fun _ _ _ h₁ => h₁) p s (h Γ p hΓ i j)
  cases f with
  | next => exact h₁ Γ p' hΓ i j
  | _ => exact h₁
theorem wpX_assign {env : Env} {x : Str} {px pos : Pos} {value : PySem.Expr} {Q : Flow → Shared → Prop} (h : wpX M A (eval value env) (fun v s₁ => wpAny M A (storeName env x v) (fun _ => Q .next) E s₁) E s)
    (hs : swapsWith value (some (.Name x px)) pos.line env = pure false := by rfl) : wpX M A (exec (.Assign [.Name x px] value pos) env) Q E s := fun Γ p hΓ i j => by
  simp only [exec_Assign_Name env x px value pos hs, Sem.wp_bind', Sem.wp_cmd_standAt, Sem.wp_bindName, Sem.wp_pure']
  exact Sem.wp_mono M Γ _ (fun v _ s₁ h₁ => h₁ Γ _ hΓ) (fun _ _ _ h' => h') _ _ (h Γ _ hΓ i j)
theorem wpX_keep {ks : List Value} {t : Sem α} {Q : α → Shared → Prop} (h : wpX M A t Q E s) : wpX M A (t.keep ks) Q E s := fun Γ p hΓ i j => by rw [Sem.wp_keep]; exact h Γ p hΓ i j
theorem wpX_tail {t : Sem Value} {Q : Value → Shared → Prop} (h : wpX M A t Q E s) : wpX M A (t >>= fun r => PySem.holding [r] point >>= fun _ => pure r) Q E s :=
  wpX_bind (wpX_mono h (fun r s₂ hr => wpX_of (wpAny_bind (wpAny_holding (wpAny_point (wpAny_pure hr))))) fun _ _ x => x)
theorem wpX_callWith_fn {pos : Pos} {a : Addr} {args : List (Bool × Sem Value)} {Q : Value → Shared → Prop} (hplain : args.any (·.1) = false) (hl : args.length ≤ 30)
    (h : wpAny M A (evalArgs (.ref a) true args []) (fun x s₁ => (∃ o fd, s₁.heap.get? a = some o ∧ o.data = .func fd) ∧ wpX M A (PySem.call (.ref a) ([] ++ x.pos) x.kw) Q E s₁) E s) : wpX M A (callWith pos (.ref a) [] args []) Q E s := by
  unfold callWith
  refine wpX_bind (wpX_holding (wpX_mono (wpX_of h) (fun x s₁ h₁ => wpX_bind (wpX_standAt ?_)) fun _ _ x => x))
  obtain ⟨⟨o, fd, ho, hd⟩, hc⟩ := h₁
  simp only [hplain, List.any_nil, Bool.or_false]
  unfold keeperOf
  refine wpX_bind (wpX_of (wpAny_bind (wpAny_load ho ?_)))
  rw [hd]
  refine wpAny_pure ?_
  dsimp only
  rw [if_neg (by simp only [List.length_nil, Nat.mul_zero, Nat.add_zero]; omega)]
  exact wpX_tail (wpX_keep hc)
theorem wpX_callWith_type {pos : Pos} {T : String} {args : List (Bool × Sem Value)} {Q : Value → Shared → Prop} (hplain : args.any (·.1) = false)
    (h : wpAny M A (evalArgs (.type T) true args []) (fun x s₁ => wpX M A (PySem.call (.type T) ([] ++ x.pos) x.kw) Q E s₁) E s) : wpX M A (callWith pos (.type T) [] args []) Q E s := by
  unfold callWith
  refine wpX_bind (wpX_holding (wpX_mono (wpX_of h) (fun x s₁ h₁ => wpX_bind (wpX_standAt ?_)) fun _ _ x => x))
  simp only [hplain, List.any_nil, Bool.or_false]
  refine wpX_bind (wpX_of (wpAny_pure ?_))
  exact wpX_tail h₁
theorem wpX_Call {env : Env} {func : PySem.Expr} {args : List PySem.Expr} {pos : Pos} {Q : Value → Shared → Prop}
    (h : wpAny M A (eval func env) (fun f s₁ => wpX M A (callWith pos f [] (backTo pos (starEach args env)) []) Q E s₁) E s)
    (he : eval (.Call func args [] pos) env = (do callWith pos (← eval func env) [] (backTo pos (starEach args env)) (backToKw pos (keywordEach [] env))) := by rfl) :
    wpX M A (eval (.Call func args [] pos) env) Q E s := by
  rw [he]; exact wpX_bind (wpX_of h)
theorem codeX_func {prog : Program} {w : World} {R : Result → Shared → Prop} {body : List Stmt} {env : Env}
    (h : wpX (model prog w) (A.deeper env) (PySem.execs body env) (fun f s' => R (.ok (.ret (match f with | .ret v => v | _ => .none))) s') (fun e s' => wpAny (model prog w) (A.deeper env) (leaving env e) (fun _ s'' => R (.error e) s'') (fun e' s'' => R (.error e') s'') s') s) :
    codeX (model prog w) A (.func body env) R s := by
  refine codeX_tree (idle_func _ _) ?_
  show wpX _ (A.deeper env) (do point; match ← (PySem.execs body env).onRaise (leaving env) with | .ret v => ret v | _ => ret .none) _ _ s
  refine wpX_bind (wpX_of (wpAny_point (wpX_bind (wpX_onRaise (wpX_mono h (fun f s' h' => ?_) fun e s' h' => ?_)))))
  · cases f <;> exact wpX_pure h'
  · exact wpAny_mono h' (fun _ _ x => x) fun _ _ x => x
theorem codeX_call_def {prog : Program} {w : World} {R : Result → Shared → Prop} {a : Addr} {o : Obj} {fd : FuncData} {body : List Stmt} {args : Args} {binds : List (Str × Value)}
    (hroom : A.depth < recursionLimit) (ho : s.heap.get? a = some o) (hdata : o.data = .func fd) (hlim : s.heap.NoLimit) (hcd : s.heap.CodeRec fd.code fd.qualname) (hbody : fd.body = .stmts body) (hbind : BindsTo s fd args binds)
    (hcell : ∀ x ∈ fd.scope.names, x.2 ≠ .cell) (hloc : ∀ x ∈ binds, fd.scope.names.lookup x.1 = some .local)
    (h : ∀ h₀, h₀.Ns s.heap.objs.size (fun x => binds.reverse.lookup x) → (∀ b o, s.heap.get? b = some o → h₀.get? b = some o) →
      wpX (model prog w) (A.deeper (callEnv fd s.heap.objs.size a)) (PySem.execs body (callEnv fd s.heap.objs.size a)) (fun f s' => R (.ok (.ret (match f with | .ret v => v | _ => .none))) s')
        (fun e s' => wpAny (model prog w) (A.deeper (callEnv fd s.heap.objs.size a)) (leaving (callEnv fd s.heap.objs.size a) e) (fun _ s'' => R (.error e) s'') (fun e' s'' => R (.error e') s'') s') { s with heap := h₀, toks := s.toks + binds.length })
    (hco : fd.scope.isCoroutine = false := by rfl) (hgen : fd.scope.isGenerator = false := by rfl) (hk : fd.scope.kind = .function := by rfl) : codeX (model prog w) A (.call (.ref a) args) R s := by
  refine codeX_tree (idle_call _ _) (wpX_of ?_)
  show wpAny _ A.in1 (callAny (.ref a) args) _ _ s
  obtain ⟨c, oc, vs, tq, hc, hoc, hdc, hq⟩ := hcd
  simp only [callAny]
  refine wpAny_bind (wpAny_load ho ?_)
  simp only [hdata, callFunction, hco, hgen, hbody, hc]
  refine wpAny_bind (m := field (.ref c) 1) (wpAny_field hoc hdc hq (wpAny_bind (wpAny_pure ?_)))
  refine wpAny_bind (hbind _ _ _ _ (wpAny_bind ?_))
  rw [← hc]
  refine wpAny_newFunctionEnv hcell hloc (fun h₀ hns₀ hsb₀ => ?_) hk
  refine wpAny_bind (wpAny_enterFrame (hlim.fresh _ hsb₀) hroom (wpAny_pure ⟨rfl, codeX_func (h h₀ hns₀ fun b o e => ?_)⟩))
  exact hsb₀.extBut b o (Nat.ne_of_lt (Heap.lt_size e)) (Heap.get?_push_of_some _ e)
end
end

noncomputable def callerCtx : PySem.Ctx := ⟨.builtin "claim.caller" {}, none, none, [], none⟩
theorem wpX.at_caller {α : Type} {M : Model} {t : Sem α} {Q : α → Shared → Prop} {E : Value → Shared → Prop} {s : Shared} (h : wpX M callerA t Q E s) (p : Pos) : Sem.wp M callerCtx t (fun a _ s' => Q a s') (fun e _ s' => E e s') p s :=
  h _ p caller_in idle_caller (fun _ hx => nomatch hx)
theorem caller_halts {prog : Program} {w : World} {t : Sem Fin} {s : Shared} {R : Result → Shared → Prop} (hreg : s.asleep)
    (h : wpX (model prog w) callerA t (fun fin s' => ∃ f, fin = .done f ∧ (R (.ok f) s' ∧ AllBare s'.gens)) (fun e s' => R (.error e) s' ∧ AllBare s'.gens) s) :
    ∃ n r s' s'', runN (denote table) prog w n s ⟨t, .builtin "claim.caller" {}, default, []⟩ = .halted (outcomeOf r) s' ∧ schedN (denote table) prog w n (.single s ⟨t, .builtin "claim.caller" {}, default, []⟩) = .halted (outcomeOf r) s' ∧ s'.forget = s''.forget ∧ R r s'' := by
  have hw : Sem.wp (model prog w) callerCtx t (Sem.finPost (model prog w) callerCtx fun r s' => R r s' ∧ leftWithCleanup s'.gens = false) (fun e _ s' => R (.error e) s' ∧ leftWithCleanup s'.gens = false) default s := by
    refine Sem.wp_mono _ _ t (fun fin p s' q => ?_) (fun e p s' q => ⟨q.1, leftWithCleanup_false_of_bare q.2⟩) default s (h.at_caller default)
    obtain ⟨f, rfl, q1, q2⟩ := q
    exact ⟨q1, leftWithCleanup_false_of_bare q2⟩
  obtain ⟨n, r, s₁, s₂, hs, hn, hf, hR⟩ := wp_halts_full (M := model prog w) (R := R) hreg hw
  exact ⟨n, r, s₂, s₁, hn, hs, hf, hR⟩
noncomputable def Told (c : ClaimW) (s s₁ : Shared) (args : List WData) (vs : List Value) (kept : Heap → Prop) (r : Result) (s' : Shared) : Prop := c.Ends s args vs s₁ r s' ∧ s'.os = s.os ∧ kept s'.heap
theorem calls_idle {c : ClaimW} {tree : List Value → Sem Fin} {w : World} {s : Shared} {free : Addr → Prop} {gens : Prop} {kept : Heap → Prop} (asl : s.asleep) (none : s.gens = #[])
    (spec : ∀ args, c.pre args = true → WData.layableAll args = true → ∀ ord : List DictEntry → List DictEntry, (∀ l, (ord l).Perm l) → ∃ vs s₁, layAllW c.records (classAt s.heap) w.params ord args s = some (vs, s₁) ∧
      wpX (model c.prog w) callerA (tree vs) (fun fin s' => ∃ f, fin = .done f ∧ (Told c s s₁ args vs kept (.ok f) s' ∧ AllBare s'.gens)) (fun e s' => Told c s s₁ args vs kept (.error e) s' ∧ AllBare s'.gens) s₁) :
    c.CallFrom (fun vs => ⟨tree vs, .builtin "claim.caller" {}, default, []⟩) w free gens kept s := fun args hp hl ord ho => by
  obtain ⟨vs, s₁, laid, tells⟩ := spec args hp hl ord ho
  have rest := layAllW_rest _ _ _ laid
  obtain ⟨n, r, s', t', run, sched, same, ends, os, keep⟩ := caller_halts (Shared.asleep_of_life rest.2.2.2 asl) tells
  obtain ⟨heaps, _, _, oses, _⟩ := Shared.forget_eq same
  have ends' := ends.congr heaps
  have life := (runN_life _ _ _ run).trans rest.2.2.2
  refine ⟨vs, s₁, laid, n, _, s', sched, ?_, (fun _ i x hx => by rw [none] at hx; simp at hx), by rw [heaps]; exact keep, by rw [life], Shared.rest_eq (oses.trans os)⟩
  rcases ends' with ⟨v, rfl, a1, a2, a3, a4, a5⟩ | ⟨e, ob, cls, rfl, a1, a2, a3, a4, a5⟩
  · exact .inl ⟨v, rfl, a1, a2, a3, fun b o y _ => a4 b o y, a5⟩
  · exact .inr ⟨e, ob, cls, rfl, a1, a2, a3, a4, fun b o y _ => a5 b o y⟩
noncomputable abbrev WalkI (q : Program) (loose : List Str) (XP : (Str → Option Value) → Heap → Prop) (YP : World → Heap → Prop) (r : RowW) (d : DefRec) (kwd : List (Str × PySem.Expr)) : Prop :=
  ∀ (w : World) (s₀ s₁ : Shared) (mg mb : Str → Option Value), Ground q loose r.records XP w s₀ mg mb s₁.heap → YP w s₁.heap → ∀ (a : Addr) (o : Obj) (pm cd doc dV kV : Value), s₁.heap.get? a = some o →
    o.data = .func { docDef d.name d.params d.body d.scope pm cd doc with defaults := dV, kwdefaults := kV } → s₁.heap.CodeRec cd d.name → Dflts mg s₁.heap d.params kwd dV kV → mg d.name = some (.ref a) → s₁.gens = #[] →
    ∀ (args : List WData) (vals : List Value) (as : List Addr), r.claim.pre args = true → WData.layableAll args = true → ReadsAllW r.records (classAt s₀.heap) s₁.heap vals args as → WellAll w.params s₁.heap vals args → (∀ a ∈ as, (a == sysModules) = false) →
      wpX (model r.prog w) callerA (PySem.call (.ref a) vals) (fun v s' => GoodWG r.claim (classAt s₀.heap) (ExcName.means s₀.heap) args s₁ (.ok (.ret v)) s') (fun e s' => GoodWG r.claim (classAt s₀.heap) (ExcName.means s₀.heap) args s₁ (.error e) s') s₁
theorem PySem.W.holds_open {r : OpenRow} {q : Program} {loose : List Str} {Xt : Shared → Bool} {XP : (Str → Option Value) → Heap → Prop} {α : Type} {Yf : Shared → α} {Ya : World → α} {YP : World → Heap → Prop} {d : DefRec} {kwd : List (Str × PySem.Expr)} {N : Nat}
    (left : ∀ w : World, (openEnds treeTable r.prog w N).map (fun s => (openSeen q loose (importedModules r.prog.main.body) Xt true s, Yf s)) = some (openGood q loose, Ya w)) (hY : ∀ w s, Yf s = Ya w → YP w s.heap) (hYk : ∀ w h h', YP w h → (∀ b o, h.get? b = some o → h'.get? b = some o) → YP w h')
    (hX : ∀ s, Xt s = true → XP (s.heap.nsMap mainGlobals) s.heap) (hXk : ∀ mg h h', XP mg h → (∀ b o, h.get? b = some o → h'.get? b = some o) → XP mg h')
    (hdef : defOf q r.name = some (d, kwd)) (hp : r.prog.theDef r.name = some (d.params, d.body, d.scope)) (hk : kwWritten? d.params.kwonlyargs d.params.kw_defaults = some kwd) (hRf : ∀ s, Xt s = true → RecFacts r.records s.heap) (hwr : (!r.writes || r.records.isEmpty) = true)
    (k1 : r.wellSaid = true) (ok : (chainsOk q && opensWell r.prog && (frees r.toRowW && r.within.isEmpty)) = true) (hb : r.prog.bare) (hw : r.toRowW.promised) (call : WalkI q loose XP YP r.toRowW d kwd) : r.Holds := by
  simp only [Bool.and_eq_true] at ok
  obtain ⟨⟨chains, opens⟩, free, wi⟩ := ok
  obtain ⟨same, under, after, apart, makers⟩ := frees_parts free
  have ids := ident_freeW under after apart
  refine ⟨k1, hw, ⟨hb, opens, ?_⟩, hw.witness, fun w => ⟨((show LeftO r.prog q loose Xt Yf Ya N from left).behind hX chains w).1, fun s' run => ?_⟩⟩
  · show r.makers.map _ = []
    rw [makers]; rfl
  obtain ⟨s₀, fence, gens0, s, top, asl, gens, isNs, G2, seen⟩ := ((show LeftO r.prog q loose Xt Yf Ya N from left).behind (XP := fun mg h => XP mg h ∧ RecFacts r.records h) (fun s hs => ⟨hX s hs, hRf s hs⟩) chains w).2 s' run
  have recs := G2.X.2
  have G1 : Ground q loose [] XP w s (s.heap.nsMap mainGlobals) (s.heap.nsMap builtinsNs) s.heap := { G2 with X := G2.X.1 }
  have G : Ground q loose r.records XP w s _ _ s.heap := recs.ground G1
  have none : s.gens = #[] := Array.eq_empty_of_size_eq_zero (beq_iff_eq.mp gens)
  refine ⟨s₀, fence, gens0, s, top, fun n hn => ?_, recs.1, recs.2.1, calls_idle (c := r.toRowW.claim) asl none fun args pre lay ord perm => ?_⟩
  · obtain rfl : n = r.name := by split at hn <;> simp_all
    exact pinned_of_view isNs G1 hdef hp hk
  obtain ⟨⟨vs, s₁⟩, laid⟩ := Option.isSome_iff_exists.mp (layAllW_isSome (P := w.params) (ord := ord) G.has args r.args s (pre_splitW pre).1)
  have keeps := layAllW_keeps _ _ _ laid
  have rest := layAllW_rest _ _ _ laid
  obtain ⟨as, reads, inside, old⟩ := reads_layAllW perm _ _ _ laid lay s₁.heap (fun _ _ e => e)
  have L : Laid r.records w s s₁ args vs as := ⟨⟨ord, perm, laid⟩, reads, inside, old, keeps, rest.1.trans none, rest.2.2.1⟩
  have G' := G.keeps hXk keeps
  obtain ⟨a, o, pm, cd, doc, dV, kV, f1, f2, f3, f4, f5⟩ := G'.fn hdef
  have walked := call w s s₁ _ _ G' (hYk _ _ _ (hY w s seen) keeps) a o pm cd doc dV kV f2 f3 f4 f5 (defOf_name hdef ▸ f1) L.gens args vs as pre lay L.reads L.well (L.low G.low)
  refine ⟨vs, s₁, laid, wpX_bind (wpX_of (wpAny_nsGet G'.T.g ?_))⟩
  rw [f1]
  refine wpX_bind (wpX_mono walked (fun v s' g => wpX_pure ⟨_, rfl, ?_⟩) fun e s' g => ?_)
  all_goals have z := g.laid (c := r.toRowW.claim) same (List.isEmpty_iff.mp wi) ids L
  · exact ⟨⟨z.1, z.2.1, fun q => ⟨namesKept_of top isNs r.keeps keeps g.2.1.old, noTable hwr q⟩⟩, z.2.2⟩
  · exact ⟨⟨z.1, z.2.1, fun q => ⟨namesKept_of top isNs r.keeps keeps g.2.1.old, noTable hwr q⟩⟩, z.2.2⟩

section
local macro_rules | `(tactic| o_law) => `(tactic| refine holds_law (by decide +kernel) fun said => ?_)
set_option maxRecDepth 100000 in
set_option maxHeartbeats 8000000 in
open_top hd for PySem.Challenge.rw_zn0023_01
end

section
noncomputable abbrev PR := PySem.Challenge.rw_zn0023_01.row.prog
noncomputable abbrev Key := Option Int
noncomputable def keyIs : Key → Value → Bool
  | none, .str y _ => y == Str.ofString "new"
  | some k, .int i _ => i == k
  | _, _ => false
theorem keyIs_none {v : Value} (h : keyIs none v = true) : ∃ t, v = .str (Str.ofString "new") t := by
  cases v <;> simp_all [keyIs]
theorem keyIs_some {k : Int} {v : Value} (h : keyIs (some k) v = true) : ∃ t, v = .int k t := by
  cases v <;> simp_all [keyIs]
noncomputable def keyHash (w : World) : Key → Int
  | none => hashStr w (Str.ofString "new")
  | some k => hashInt k
section
variable {w : World} {A : Around} {E : Value → Shared → Prop} {s : Shared}
theorem eqBool_int_str {a : Int} {b : Str} {t u : Tok} {Q : Bool → Shared → Prop} (h : Q false s) :
    wpAny (model PR w) A (eqBool (.int a t) (.str b u)) Q E s := by
  unfold eqBool
  refine wpAny_holding ?_
  have hab : ¬ (Value.int a t == Value.str b u) = true := fun e => nomatch (eq_of_beq e)
  rw [if_neg hab]
  exact wpAny_bind (EqMixed.eq_int_str (wpAny_truthy_bool h))
theorem eqBool_str_int {a : Int} {b : Str} {t u : Tok} {Q : Bool → Shared → Prop} (h : Q false s) :
    wpAny (model PR w) A (eqBool (.str b u) (.int a t)) Q E s := by
  unfold eqBool
  refine wpAny_holding ?_
  have hab : ¬ (Value.str b u == Value.int a t) = true := fun e => nomatch (eq_of_beq e)
  rw [if_neg hab]
  exact wpAny_bind (EqMixed.eq_str_int (wpAny_truthy_bool h))
end
noncomputable def mk (w : World) : KeyKind PR w Key where
  is := keyIs
  hash := keyHash w
  inj := fun v a b ha hb => by
    cases a with
    | none => obtain ⟨t, rfl⟩ := keyIs_none ha; cases b with
      | none => rfl
      | some j => obtain ⟨u, e⟩ := keyIs_some hb; cases e
    | some i => obtain ⟨t, rfl⟩ := keyIs_some ha; cases b with
      | none => obtain ⟨u, e⟩ := keyIs_none hb; cases e
      | some j => obtain ⟨u, e⟩ := keyIs_some hb; cases e; rfl
  byValue := fun k v h => by
    cases k with
    | none => obtain ⟨t, rfl⟩ := keyIs_none h; rfl
    | some i => obtain ⟨t, rfl⟩ := keyIs_some h; rfl
  pyHash := fun {A E s k v Q} hv h => by
    cases k with
    | none => obtain ⟨t, rfl⟩ := keyIs_none hv; exact wpAny_pyHash_str h
    | some i => obtain ⟨t, rfl⟩ := keyIs_some hv; exact wpAny_pyHash_int h
  eqBool := fun {A E s a b u v Q} hu hv h => by
    cases a with
    | none => obtain ⟨t, rfl⟩ := keyIs_none hu; cases b with
      | none => obtain ⟨t', rfl⟩ := keyIs_none hv; exact wpAny_eqBool_str (by simpa using h)
      | some j => obtain ⟨t', rfl⟩ := keyIs_some hv; exact eqBool_str_int (by simpa using h)
    | some i => obtain ⟨t, rfl⟩ := keyIs_some hu; cases b with
      | none => obtain ⟨t', rfl⟩ := keyIs_none hv; exact eqBool_int_str (by simpa using h)
      | some j =>
        obtain ⟨t', rfl⟩ := keyIs_some hv
        refine wpAny_eqBool_int ?_
        have e : (i == j) = decide (some i = some j) := by by_cases q : i = j <;> simp [q]
        rw [e]; exact h
  «strs» := fun k x t v h => by
    cases k with
    | none =>
      obtain ⟨u, hu⟩ := keyIs_none h
      injection hu with hx
      subst hx
      cases v <;> rfl
    | some i => obtain ⟨u, hu⟩ := keyIs_some h; cases hu
theorem mk_int (w : World) (k : Int) (t : Tok) : (mk w).is (some k) (.int k t) = true := by simp [mk, keyIs]
theorem mk_new (w : World) (t : Tok) : (mk w).is none (.str (Str.ofString "new") t) = true := by simp [mk, keyIs]
end

noncomputable def CallOk (w : World) (n : Nat) (f : Addr) (vs : List Value) (kw : List (Str × Value)) (s : Shared) (R : Value → Heap → Prop) : Prop :=
  ∀ (loose : List Str) (mean : ExcName → Option Value) (mg mb : Str → Option Value) (dp un : Nat) (gd : Option (List Code)) (cn : Str) (cs : Scope) (a : Addr) (ccd : Value) (cl : List (Str × Addr)) (outer : List Env) (A₀ : Around) (base h₀ : Heap) (L : Addr) (m : Str → Option Value)
    (Q E : Value → Shared → Prop),
    Below A₀ base outer h₀ → Fr h₀ L s.heap m → (Mine.hd.heap_1 w.params).In h₀ → Top topProg loose mean mg mb h₀ → cs.kind = .function → dp + n < recursionLimit → un + 8 * n + 200 < cLine →
    (∀ v h' tk', (∀ b o, s.heap.get? b = some o → h'.get? b = some o) → R v h' → Q v { s with heap := h', toks := tk' }) →
    wpAny (model PR w) (ktrTop dp un gd cn cs L a ccd cl outer) (call (.ref f) vs kw) Q E s

theorem CallOk.mono {w : World} {n : Nat} {f : Addr} {vs : List Value} {kw : List (Str × Value)} {s : Shared} {R R' : Value → Heap → Prop} (h : CallOk w n f vs kw s R) (hR : ∀ v h', R v h' → R' v h') : CallOk w n f vs kw s R' :=
  fun loose mean mg mb dp un gd cn cs a ccd cl outer A₀ base h₀ L m Q E B F X T hk hd hu hret => h loose mean mg mb dp un gd cn cs a ccd cl outer A₀ base h₀ L m Q E B F X T hk hd hu fun v h' tk' k r => hret v h' tk' k (hR v h' r)

noncomputable def RetOk (s : Shared) (R : Value → Heap → Prop) (fl : Flow) (s' : Shared) : Prop :=
  ∃ h' tk', s' = { s with heap := h', toks := tk' } ∧ (∀ b o, s.heap.get? b = some o → h'.get? b = some o) ∧ R (match fl with | .ret v => v | _ => .none) h'
theorem RetOk.intro {s : Shared} {R : Value → Heap → Prop} {v : Value} {h' : Heap} {tk' : Nat} {L : Addr} {m : Str → Option Value} (F : Fr s.heap L h' m) (h : R v h') : RetOk s R (.ret v) { s with heap := h', toks := tk' } :=
  ⟨h', tk', rfl, F.keep, h⟩
theorem RetOk.introN {s : Shared} {R : Value → Heap → Prop} {h' : Heap} {tk' : Nat} {L : Addr} {m : Str → Option Value} (F : Fr s.heap L h' m) (h : R .none h') : RetOk s R .next { s with heap := h', toks := tk' } :=
  ⟨h', tk', rfl, F.keep, h⟩

theorem CallOk.intro {w : World} {n : Nat} {f : Addr} {vs : List Value} {kw : List (Str × Value)} {s : Shared} {R : Value → Heap → Prop}
    {name qual : Str} {params : Arguments} {body : List Stmt} {scope : Scope} {dV kV doc pm cdv ct oc : Value} {an od : Option Addr} {osl : Array (Option Value)} {binds : List (Str × Value)}
    (ho : (Mine.hd.heap_1 w.params).lookup f = some ⟨oc, od, .func (fnOf name qual params body scope dV kV doc pm an cdv ct), osl⟩) (hcd : codeIn (Mine.hd.heap_1 w.params) cdv qual = true)
    (hbind : (Mine.hd.heap_1 w.params).In s.heap → BindsTo s (fnOf name qual params body scope dV kV doc pm an cdv ct) ⟨vs, kw⟩ binds) (hloc : ∀ y ∈ binds, scope.names.lookup y.1 = some .local)
    (hcell : ∀ x ∈ scope.names, x.2 ≠ .cell) (hco : scope.isCoroutine = false) (hgen : scope.isGenerator = false) (hk : scope.kind = .function)
    (h : ∀ (loose : List Str) (mean : ExcName → Option Value) (mg mb : Str → Option Value) (dp un : Nat) (gd : Option (List Code)) (env : Env) (outer : List Env) (A₀ : Around) (base : Heap) (L' : Addr) (h₁ : Heap),
      Below A₀ base (env :: outer) s.heap → Fr s.heap L' h₁ (fun y => binds.reverse.lookup y) → (Mine.hd.heap_1 w.params).In s.heap → News s.heap L' h₁ [] → Top topProg loose mean mg mb s.heap → dp + n < recursionLimit → un + 8 * n + 200 < cLine →
      wpAny (model PR w) (ktrTop dp un gd qual scope L' f cdv [] (env :: outer)) (execs body (envOf qual scope L' f cdv)) (RetOk s R) (fun _ _ => False) { s with heap := h₁, toks := s.toks + binds.length }) :
    CallOk w (n + 1) f vs kw s R := by
  intro loose mean mg mb dp un gd cn cs a ccd cl outer A₀ base h₀ L m Q E B F X T hks hd hu hret
  have Xs : (Mine.hd.heap_1 w.params).In s.heap := X.keeps F.keep
  refine wpAny_call ?_
  refine codeAny_call_def (fd := fnOf name qual params body scope dV kV doc pm an cdv ct) (body := body) (binds := binds) (by show dp < recursionLimit; omega) (Xs _ _ ho) rfl (T.nolimit.keeps F.keep) (codeRec_of Xs hcd) rfl (hbind Xs) hcell hloc (fun h₁ hns hk₁ => ?_) hco hgen hk
  have B₁ := pushX (env := envX cn cs L a ccd cl) B F rfl hks
  refine wpAny_mono (h loose mean mg mb (dp + 1) (un + 3) gd (envX cn cs L a ccd cl) outer _ base s.heap.objs.size h₁ B₁ ⟨hns, hk₁, Nat.le_refl _⟩ Xs News.nil (T.keeps F.keep) (by omega) (by omega)) (fun fl s' hl => ?_) fun _ _ x => x.elim
  obtain ⟨h', tk', rfl, hkeep, hr⟩ := hl
  exact hret _ h' tk' hkeep hr

theorem CallOk.introC {w : World} {n : Nat} {f : Addr} {vs : List Value} {kw : List (Str × Value)} {s : Shared} {R : Value → Heap → Prop}
    {name qual : Str} {params : Arguments} {body : List Stmt} {scope : Scope} {dV kV doc pm cdv ct oc : Value} {an od : Option Addr} {osl : Array (Option Value)} {binds : List (Str × Value)}
    (ho : (Mine.hd.heap_1 w.params).lookup f = some ⟨oc, od, .func (fnOf name qual params body scope dV kV doc pm an cdv ct), osl⟩) (hcd : codeIn (Mine.hd.heap_1 w.params) cdv qual = true)
    (hbind : (Mine.hd.heap_1 w.params).In s.heap → BindsTo s (fnOf name qual params body scope dV kV doc pm an cdv ct) ⟨vs, kw⟩ binds) (hkind : (binds.all fun y => scope.names.lookup y.1 == some .local || scope.names.lookup y.1 == some .cell) = true)
    (hnd : ((cellsFrom 0 scope.names []).map (·.1)).Nodup) (hco : scope.isCoroutine = false) (hgen : scope.isGenerator = false) (hk : scope.kind = .function)
    (h : ∀ (loose : List Str) (mean : ExcName → Option Value) (mg mb : Str → Option Value) (dp un : Nat) (gd : Option (List Code)) (env : Env) (outer : List Env) (A₀ : Around) (base : Heap) (L' : Addr) (h₁ : Heap) (tk : Nat) (cells : List (Addr × Obj)),
      Below A₀ base (env :: outer) s.heap → Fr s.heap L' h₁ (bindL (envOfC qual scope L' f cdv).kindOf binds fun _ => none) → (Mine.hd.heap_1 w.params).In s.heap → News s.heap L' h₁ cells →
      CellsAre (bindC (envOfC qual scope L' f cdv).kindOf binds fun _ => none) (cellsFrom (L' + 1) scope.names []) cells → Top topProg loose mean mg mb s.heap → dp + n < recursionLimit → un + 8 * n + 200 < cLine →
      wpAny (model PR w) (ktrTop dp un gd qual scope L' f cdv (cellsFrom (L' + 1) scope.names []) (env :: outer)) (execs body (envOfC qual scope L' f cdv)) (RetOk s R) (fun _ _ => False) { s with heap := h₁, toks := tk }) :
    CallOk w (n + 1) f vs kw s R := by
  intro loose mean mg mb dp un gd cn cs a ccd cl outer A₀ base h₀ L m Q E B F X T hks hd hu hret
  have Xs : (Mine.hd.heap_1 w.params).In s.heap := X.keeps F.keep
  have hcr := codeRec_of Xs hcd
  refine wpAny_call ?_
  refine codeAny_call_function (fd := fnOf name qual params body scope dV kV doc pm an cdv ct) (by show dp < recursionLimit; omega) (Xs _ _ ho) rfl hco hgen rfl hcr (hbind Xs _ _ _ _ ?_)
  refine wpAny_newFunctionEnv_cells hk (kindsX hkind _) fun env' he s' x => ?_
  subst he
  refine ⟨(T.nolimit.keeps F.keep).keeps x.toInCall.keep, codeAny_func ?_⟩
  obtain ⟨h₁, tk, rfl, _⟩ := x.done
  have hk₁ := x.toInCall.keep
  obtain ⟨cells, NC, Y⟩ := Cl.news (h₀ := s.heap) (Nat.le_refl _) fun n c hm => ⟨x.cell n c (lookup_of_mem_nodup (cellsFrom_names scope.names 0 (s.heap.objs.size + 1) [] [] rfl ▸ hnd) hm), x.above n c hm⟩
  have B₁ := pushX (env := envX cn cs L a ccd cl) B F rfl hks
  refine wpAny_mono (h loose mean mg mb (dp + 1) (un + 3) gd (envX cn cs L a ccd cl) outer _ base s.heap.objs.size h₁ tk cells B₁ ⟨x.toInCall.ns, hk₁, Nat.le_refl _⟩ Xs NC Y (T.keeps F.keep) (by omega) (by omega)) (fun fl s' hl => ?_) fun _ _ x => x.elim
  obtain ⟨h', tk', rfl, hkeep, hr⟩ := hl
  exact hret _ h' tk' hkeep hr

theorem CallOk.use {w : World} {n : Nat} {f : Addr} {vs : List Value} {kw : List (Str × Value)} {s : Shared} {R : Value → Heap → Prop} {loose : List Str} {mean : ExcName → Option Value} {mg mb : Str → Option Value} {dp un : Nat} {gd : Option (List Code)} {cn : Str} {cs : Scope} {a : Addr} {ccd : Value} {cl : List (Str × Addr)} {outer : List Env} {A₀ : Around} {base h₀ : Heap} {L : Addr} {m : Str → Option Value} {news : List (Addr × Obj)}
    {Q E : Value → Shared → Prop} (C : CallOk w n f vs kw s R) (B : Below A₀ base outer h₀) (F : Fr h₀ L s.heap m) (X : (Mine.hd.heap_1 w.params).In h₀) (N : News h₀ L s.heap news) (T : Top topProg loose mean mg mb h₀) (hk : cs.kind = .function) (hd : dp + n < recursionLimit) (hu : un + 8 * n + 200 < cLine)
    (hret : ∀ v h' tk', Fr h₀ L h' m → News h₀ L h' news → (∀ b o, s.heap.get? b = some o → h'.get? b = some o) → R v h' → Q v { s with heap := h', toks := tk' }) :
    wpAny (model PR w) (ktrTop dp un gd cn cs L a ccd cl outer) (call (.ref f) vs kw) Q E s :=
  C loose mean mg mb dp un gd cn cs a ccd cl outer A₀ base h₀ L m Q E B F X T hk hd hu fun v h' tk' k r => hret v h' tk' (F.keeps k) (fun p hp => ⟨k _ _ (N p hp).1, (N p hp).2⟩) k r

theorem news_add {h₀ h h' : Heap} {L r : Addr} {m : Str → Option Value} {o : Obj} {news : List (Addr × Obj)} (F : Fr h₀ L h m) (N' : News h₀ L h' news) (hn : h.get? r = none) (ho : h'.get? r = some o) : News h₀ L h' ((r, o) :: news) := by
  obtain ⟨oL, es, ep, hL, _⟩ := F.ns
  intro p hp
  rcases List.mem_cons.mp hp with rfl | hp
  · refine ⟨ho, fun e => ?_, ?_⟩
    · have e' : r = L := e
      rw [e', hL] at hn; cases hn
    · cases q : h₀.get? r with
      | none => rfl
      | some x => rw [F.keep _ _ q] at hn; cases hn
  · exact N' p hp
theorem news_ne {h₀ h : Heap} {L r : Addr} {news : List (Addr × Obj)} (N : News h₀ L h news) (hn : h.get? r = none) : ∀ p ∈ news, p.1 ≠ r := fun p hp e => by
  have := (N p hp).1; rw [e, hn] at this; cases this
section
section
variable {K : Type} [DecidableEq K]
noncomputable def dget (b : List (K × Int)) (k : K) : Option Int := (b.find? fun x => x.1 = k).map (·.2)
noncomputable def dput (b : List (K × Int)) (k : K) (v : Int) : List (K × Int) := if b.any (fun x => x.1 = k) then b.map (fun x => if x.1 = k then (x.1, v) else x) else b ++ [(k, v)]
noncomputable def flatV (vals : List (K × Int × Tok)) : List (K × Int) := vals.map fun x => (x.1, x.2.1)
noncomputable def dputT (vals : List (K × Int × Tok)) (k : K) (v : Int) (t : Tok) : List (K × Int × Tok) := if vals.any (fun x => x.1 = k) then vals.map (fun x => if x.1 = k then (x.1, v, t) else x) else vals ++ [(k, v, t)]
theorem flatV_put (vals : List (K × Int × Tok)) (k : K) (v : Int) (t : Tok) : flatV (dputT vals k v t) = dput (flatV vals) k v := by
  unfold flatV dputT dput
  rw [List.any_map]
  have e : ((fun x : K × Int => decide (x.1 = k)) ∘ fun x : K × Int × Tok => (x.1, x.2.1)) = fun x => decide (x.1 = k) := rfl
  rw [e]
  split
  · rw [List.map_map, List.map_map]
    refine List.map_congr_left fun x _ => ?_
    simp only [Function.comp]
    split <;> rfl
  · simp
theorem stored_int (vals : List (K × Int × Tok)) (k : K) (v : Int) (t : Tok) : stored (intPairs vals) k (.int v t) = intPairs (dputT vals k v t) := by
  unfold stored intPairs dputT
  rw [List.any_map]
  have e : ((fun kv : K × Value => decide (kv.1 = k)) ∘ fun x : K × Int × Tok => (x.1, Value.int x.2.1 x.2.2)) = fun x => decide (x.1 = k) := rfl
  rw [e]
  split
  · rw [List.map_map, List.map_map]
    refine List.map_congr_left fun x _ => ?_
    simp only [Function.comp]
    split <;> rfl
  · simp
theorem intAt_dget (vals : List (K × Int × Tok)) (k : K) : PySem.intAt vals k = dget (flatV vals) k := by
  unfold PySem.intAt dget flatV
  rw [List.find?_map, Option.map_map]
  rfl
theorem flatV_length (vals : List (K × Int × Tok)) : (flatV vals).length = vals.length := List.length_map _
theorem intPairs_length (vals : List (K × Int × Tok)) : (intPairs vals).length = vals.length := List.length_map _
theorem intPairs_keys (vals : List (K × Int × Tok)) : (intPairs vals).map (·.1) = (flatV vals).map (·.1) := by simp [intPairs, flatV]
end

noncomputable def DObj (w : World) (o : Obj) (b : List (Key × Int)) : Prop := ∃ vals : List (Key × Int × Tok), o.IsDictOf (mk w) (intPairs vals) ∧ flatV vals = b
theorem DObj.cls {w : World} {o : Obj} {b : List (Key × Int)} (h : DObj w o b) : o.cls = .type "dict" := let ⟨_, ⟨_, _, hx, _⟩, _⟩ := h; hx.1
theorem DObj.nodup {w : World} {o : Obj} {b : List (Key × Int)} (h : DObj w o b) : (b.map (·.1)).Nodup := by
  obtain ⟨vals, ⟨_, _, _, _, _, _, hn⟩, rfl⟩ := h
  rw [← intPairs_keys]; exact hn
noncomputable def Dct (w : World) (h : Heap) (a : Addr) (b : List (Key × Int)) : Prop := (a == sysModules) = false ∧ ∃ o, h.get? a = some o ∧ DObj w o b
theorem Dct.keeps {w : World} {h h' : Heap} {a : Addr} {b : List (Key × Int)} (x : Dct w h a b) (k : ∀ b o, h.get? b = some o → h'.get? b = some o) : Dct w h' a b := let ⟨l, o, e, r⟩ := x; ⟨l, o, k _ _ e, r⟩
noncomputable def Lst (h : Heap) (a : Addr) (ns : List Int) : Prop := ∃ vs, h.IsList a vs.toArray ∧ IntsAre vs ns
theorem Lst.keeps {h h' : Heap} {a : Addr} {ns : List Int} (x : Lst h a ns) (k : ∀ b o, h.get? b = some o → h'.get? b = some o) : Lst h' a ns := let ⟨vs, ⟨o, e, r⟩, i⟩ := x; ⟨vs, ⟨o, k _ _ e, r⟩, i⟩

noncomputable def TurnJ (h₀ : Heap) (L : Addr) (p : Addr × Obj) (Jn : (Str → Option Value) → List (Addr × Obj) → Prop) (s₁ : Shared) (Q : Flow → Shared → Prop) (f : Flow) (s₂ : Shared) : Prop :=
  match f with
  | .ret v => Q (.ret v) s₂
  | .brk => Q .next s₂
  | _ => ∃ h' tk m' nx', s₂ = { s₁ with heap := h', toks := tk } ∧ Fr h₀ L h' m' ∧ News h₀ L h' (p :: nx') ∧ Jn m' nx'
section
variable {w : World} {A : Around} {E : Value → Shared → Prop} {s : Shared} {env : Env} {h₀ : Heap} {x : Str} {body : List Stmt} {Q : Flow → Shared → Prop} {m₀ : Str → Option Value} {nx₀ : List (Addr × Obj)}
theorem TurnJ.next {L : Addr} {p : Addr × Obj} {Jn : (Str → Option Value) → List (Addr × Obj) → Prop} {s₁ : Shared} {h' : Heap} {tk : Nat} {m' : Str → Option Value} {nx' : List (Addr × Obj)} (F : Fr h₀ L h' m') (N : News h₀ L h' (p :: nx')) (j : Jn m' nx') :
    TurnJ h₀ L p Jn s₁ Q .next { s₁ with heap := h', toks := tk } := ⟨h', tk, m', nx', rfl, F, N, j⟩
theorem TurnJ.cont {L : Addr} {p : Addr × Obj} {Jn : (Str → Option Value) → List (Addr × Obj) → Prop} {s₁ : Shared} {h' : Heap} {tk : Nat} {m' : Str → Option Value} {nx' : List (Addr × Obj)} (F : Fr h₀ L h' m') (N : News h₀ L h' (p :: nx')) (j : Jn m' nx') :
    TurnJ h₀ L p Jn s₁ Q .cont { s₁ with heap := h', toks := tk } := ⟨h', tk, m', nx', rfl, F, N, j⟩

theorem loopJ {I : Addr} {fp wr : List Addr} {n : Nat} {P : Nat → Value → Prop} {St : Nat → Heap → Prop} {c : String} (J : Nat → (Str → Option Value) → List (Addr × Obj) → Prop)
    (W : Walks PR w A I fp wr n P St) (hwr : wr = [I]) (hI0 : h₀.get? I = none) (hLf : env.locals ∉ fp)
    (hio : ∀ i h, St i h → ∃ o, h.get? I = some o ∧ o.cls = .type c)
    (hfp : ∀ b ∈ fp, b = I ∨ (∃ q, h₀.get? b = some q) ∨ ∃ q, ∀ i m nx, J i m nx → (b, q) ∈ nx)
    (hcls : ∀ i m nx, J i m nx → ∀ p ∈ nx, p.2.cls ≠ .type c)
    (hst : St 0 s.heap) (F : Fr h₀ env.locals s.heap m₀) (N : News h₀ env.locals s.heap nx₀) (hj : J 0 m₀ nx₀)
    (turn : ∀ i v m₁ nx h tk o, i < n → P i v → J i m₁ nx → o.cls = .type c → (∀ p ∈ nx, p.1 ≠ I) → Fr h₀ env.locals h (fun y => if y = x then some v else m₁ y) → News h₀ env.locals h ((I, o) :: nx) →
      wpAny (model PR w) A (execs body env) (TurnJ h₀ env.locals (I, o) (J (i + 1)) { s with heap := h, toks := tk } Q) E { s with heap := h, toks := tk })
    (done : ∀ m₁ nx h tk, J n m₁ nx → Fr h₀ env.locals h m₁ → News h₀ env.locals h nx → Q .next { s with heap := h, toks := tk }) :
    LoopAtV PR w A h₀ env x body Q E (.ref I) s := by
  subst hwr
  refine ⟨I, fp, [I], n, P, St, m₀, nx₀, J, rfl, W, hLf, (fun b hb => by rw [List.mem_singleton.mp hb]; exact hI0), ?_, hst, F, N, hj, ?_, fun h' tk m' nx F' N' _ hJ => done m' nx h' tk hJ F' N'⟩
  · intro p hp hI
    obtain ⟨o, ho, hc⟩ := hio _ _ hst
    have h1 := (N p hp).1
    rw [List.mem_singleton.mp hI, ho] at h1
    exact hcls 0 _ _ hj p hp (by rw [← Option.some.inj h1]; exact hc)
  · intro i v m₁ nx s₁ own xR1; obtain ⟨h, tk, rfl⟩ := xR1; intro hi hP hJ hoff hown hget hall hst₁ F₁ N₁
    obtain ⟨o, ho, hc⟩ := hio _ _ hst₁
    have hIw : I ∈ fp := W.sub I (.head _)
    have hIo : (I, o) ∈ own := hall I hIw hI0 o ho
    have N₂ : News h₀ env.locals h ((I, o) :: nx) := fun p hp => by
      rcases List.mem_cons.mp hp with rfl | hp
      · exact N₁ _ (List.mem_append_left _ hIo)
      · exact N₁ _ (List.mem_append_right _ hp)
    have hne : ∀ p ∈ nx, p.1 ≠ I := fun p hp e => hoff p hp (e ▸ .head _)
    refine wpAny_mono (turn i v m₁ nx h tk o hi hP hJ hc hne F₁ N₂) (fun f s₂ t => ?_) fun _ _ e => e
    have fin : (∃ h' tk' m' nx', s₂ = { s with heap := h', toks := tk' } ∧ Fr h₀ env.locals h' m' ∧ News h₀ env.locals h' ((I, o) :: nx') ∧ J (i + 1) m' nx') → LoopStepU h₀ env.locals [I] own (J (i + 1)) { s with heap := h, toks := tk } .next s₂ := by
      intro xR2; obtain ⟨h', tk', m', nx', rfl, F', N', hJ'⟩ := xR2
      refine ⟨rfl, h', tk', m', nx', rfl, F', fun p hp => ?_, fun p hp hI => ?_, hJ'⟩
      · rcases List.mem_append.mp hp with hp | hp
        · have hp2 := hown p hp
          have hp3 := N₁ p (List.mem_append_left _ hp)
          rcases hfp p.1 hp2 with e | ⟨q, hq⟩ | ⟨q, hq⟩
          · have e2 : p.2 = o := by
              have h4 := hp3.1
              rw [e] at h4
              have h5 : h.get? I = some p.2 := h4
              rw [ho] at h5
              exact (Option.some.inj h5).symm
            have e3 : p = (I, o) := Prod.ext e e2
            rw [e3]; exact N' _ (.head _)
          · have h5 := hp3.2.2
            rw [hq] at h5; cases h5
          · have h6 := (N₁ _ (List.mem_append_right _ (hq i m₁ nx hJ))).1
            have h7 := hp3.1
            have e2 : p.2 = q := by
              have h8 : h.get? p.1 = some q := h6
              have h9 : h.get? p.1 = some p.2 := h7
              rw [h8] at h9
              exact (Option.some.inj h9).symm
            have e3 : p = (p.1, q) := Prod.ext rfl e2
            rw [e3]; exact N' _ (.tail _ (hq (i + 1) m' nx' hJ'))
        · exact N' p (.tail _ hp)
      · have h1 := (N' p (.tail _ hp)).1
        have h2 := (N' (I, o) (.head _)).1
        rw [List.mem_singleton.mp hI] at h1
        have h3 : h'.get? I = some o := h2
        rw [h3] at h1
        exact hcls _ _ _ hJ' p hp (by rw [← Option.some.inj h1]; exact hc)
    cases f with
    | ret v => exact .ret t
    | brk => exact .brk t
    | next => exact .next (fin t)
    | cont => exact .cont (fin t)

end
end

section
theorem Dct.dictOf {w : World} {h : Heap} {a : Addr} {b : List (Key × Int)} (x : Dct w h a b) : ∃ vals, h.DictOf (mk w) a (intPairs vals) ∧ flatV vals = b := by
  obtain ⟨_, o, ho, vals, hd, e⟩ := x
  exact ⟨vals, Heap.dictOf_iff.mpr ⟨o, ho, hd⟩, e⟩
theorem dct_led {w : World} {h₀ h : Heap} {L d : Addr} {nx : List (Addr × Obj)} {o : Obj} {b : List (Key × Int)} (lo : (d == sysModules) = false) (N : News h₀ L h nx) (hm : (d, o) ∈ nx) (hd : DObj w o b) : Dct w h d b := ⟨lo, o, (N _ hm).1, hd⟩
section
variable {w : World} {A : Around} {E : Value → Shared → Prop} {s : Shared} {h₀ : Heap} {L d : Addr} {m : Str → Option Value} {nx : List (Addr × Obj)} {b : List (Key × Int)} {k : Key} {key : Value}
theorem dm_items {Q : Value → Shared → Prop} (D : Dct w s.heap d b) (F : Fr h₀ L s.heap m) (N : News h₀ L s.heap nx) (h : ∀ V h', Fr h₀ L h' m → News h₀ L h' ((V, { cls := .type "dict_items", data := .fields #[.ref d] }) :: nx) → Dct w h' d b → Q (.ref V) { s with heap := h' }) :
    wpAny (model PR w) A (call (.builtin "dict.items") [.ref d]) Q E s := by
  obtain ⟨vals, hd, e⟩ := D.dictOf
  exact call_meetsIn PySem.F.slot_dict_items hd.typeIs PySem.F.entry_dict_items (PySem.F.args_dict_items_1 _) (meets_dict_items (mk w) d D.1) ⟨⟨_, hd⟩, h _ _ (F.push _) (News.push F N _) (D.keeps fun b o q => Heap.get?_push_of_some _ q)⟩
theorem dm_values {Q : Value → Shared → Prop} (D : Dct w s.heap d b) (F : Fr h₀ L s.heap m) (N : News h₀ L s.heap nx) (h : ∀ V h', Fr h₀ L h' m → News h₀ L h' ((V, { cls := .type "dict_values", data := .fields #[.ref d] }) :: nx) → Dct w h' d b → Q (.ref V) { s with heap := h' }) :
    wpAny (model PR w) A (call (.builtin "dict.values") [.ref d]) Q E s := by
  obtain ⟨vals, hd, e⟩ := D.dictOf
  exact call_meetsIn PySem.F.slot_dict_values hd.typeIs PySem.F.entry_dict_values (PySem.F.args_dict_values_1 _) (meets_dict_values (mk w) d D.1) ⟨⟨_, hd⟩, h _ _ (F.push _) (News.push F N _) (D.keeps fun b o q => Heap.get?_push_of_some _ q)⟩
theorem dm_method {name : Str} {id : String} {pl : Sem Bool} {Q : Value × List Value → Shared → Prop} (slot : Slot "dict" name id) (ty : typeOf (.builtin id) = pure (.type "method_descriptor")) (D : Dct w s.heap d b) (h : Q (.builtin id, [.ref d]) s) :
    wpAny (model PR w) A (getMethod (.ref d) name pl) Q E s := by
  obtain ⟨vals, hd, e⟩ := D.dictOf
  exact getMethod_builtin hd.typeIs PySem.F.plainAttrs_dict slot ty hd.mapOf.noDict h
theorem dm_in {Q : Value → Shared → Prop} (D : Dct w s.heap d b) (hkey : (mk w).is k key = true) (h : Q (.bool (dget b k).isSome) { s with toks := s.toks + 1 }) :
    wpAny (model PR w) A (compareOp .In key (.ref d)) Q E s := by
  obtain ⟨vals, hd, rfl⟩ := D.dictOf
  refine wpAny_in_of hkey D.1 hd.mapOf ?_
  rw [isSome_valueAt_intPairs, intAt_dget]; exact h
theorem dm_item {value slice : PySem.Expr} {Q : Value → Shared → Prop} {v : Int} (D : Dct w s.heap d b) (hkey : (mk w).is k key = true) (hv : dget b k = some v) (h : ∀ t, Q (.int v t) { s with toks := s.toks + 1 })
    (hs : subscripted slice false (.ref d) key = operate [.ref d, key] (getItem (.ref d) key) := by with_unfolding_all rfl) (hg : ∀ r, letTemporaryGo value (.ref d) r = pure () := by intro _; with_unfolding_all rfl) :
    wpAny (model PR w) A (subscriptTail value slice (.ref d) key) Q E s := by
  obtain ⟨vals, hd, rfl⟩ := D.dictOf
  obtain ⟨t, e⟩ := valueAt_intPairs_of_isSome (vals := vals) (k := k) (by rw [intAt_dget, hv]; rfl)
  rw [intAt_dget, hv] at e
  exact subscriptTail_builtin hd.typeIs slot_dict_getitem.lookup (wpAny_getItem_of hkey hd.mapOf e (h t)) hs hg
theorem dm_getItem {Q : Value → Shared → Prop} {v : Int} (D : Dct w s.heap d b) (hkey : (mk w).is k key = true) (hv : dget b k = some v) (h : ∀ t, Q (.int v t) { s with toks := s.toks + 1 }) :
    wpAny (model PR w) A (getItem (.ref d) key) Q E s := by
  obtain ⟨vals, hd, rfl⟩ := D.dictOf
  obtain ⟨t, e⟩ := valueAt_intPairs_of_isSome (vals := vals) (k := k) (by rw [intAt_dget, hv]; rfl)
  rw [intAt_dget, hv] at e
  exact wpAny_getItem_of hkey hd.mapOf e (h t)
theorem dm_get2 {Q : Value → Shared → Prop} {v : Int} {t : Tok} (D : Dct w s.heap d b) (hkey : (mk w).is k key = true) (h : ∀ t, Q (.int ((dget b k).getD v) t) { s with toks := s.toks + 1 }) :
    wpAny (model PR w) A (call (.builtin "dict.get") [.ref d, key, .int v t]) Q E s := by
  obtain ⟨vals, hd, rfl⟩ := D.dictOf
  refine call_meetsIn PySem.F.slot_dict_get hd.typeIs PySem.F.entry_dict_get (PySem.F.args_dict_get_3 _ _ _) (meets_dict_get_default (mk w) d hkey D.1 (.int v t)) ⟨_, hd.mapOf, ?_⟩
  obtain ⟨t', e⟩ := getD_valueAt_intPairs vals k v t
  rw [intAt_dget] at e
  rw [e]; exact h t'
theorem dm_set {Q : Unit → Shared → Prop} {o : Obj} {g : Obj → List (Addr × Obj)} {v : Int} {t : Tok} (F : Fr h₀ L s.heap m) (N : News h₀ L s.heap nx) (U : UpdF d o nx g) (hd : DObj w o b) (hkey : (mk w).is k key = true) (hsz : b.length ≤ 1000)
    (h : ∀ h' o', Fr h₀ L h' m → News h₀ L h' (g o') → DObj w o' (dput b k v) → Q () { s with heap := h', toks := s.toks + 1 }) : wpAny (model PR w) A (setItem (.ref d) key (.int v t)) Q E s := by
  obtain ⟨vals, hd, rfl⟩ := hd
  refine kda_set F N U hd hkey (by rw [intPairs_length, sizeLine_eq]; rw [flatV_length] at hsz; omega) fun h' o' F' N' hd' => h h' o' F' N' ⟨dputT vals k v t, ?_, flatV_put vals k v t⟩
  rw [← stored_int]; exact hd'
theorem dm_new {env : Env} {pos : Pos} {Q : Value → Shared → Prop} (F : Fr h₀ L s.heap m) (N : News h₀ L s.heap nx) (hbig : h₀.NoLimit) (h : ∀ d h' o, Fr h₀ L h' m → News h₀ L h' ((d, o) :: nx) → (∀ p ∈ nx, p.1 ≠ d) → (d == sysModules) = false → DObj w o [] → Q (.ref d) { s with heap := h' }) :
    wpAny (model PR w) A (eval (.Dict [] [] pos) env) Q E s := by
  refine wpAny_Dict_empty (h _ _ _ (F.push _) (News.push F N _) (fun p hp => Nat.ne_of_lt (Heap.lt_size (N p hp).1)) (F.notModules (modules_low hbig)) ⟨[], ⟨#[], 0, ⟨rfl, rfl, rfl⟩, rfl, ?_, .nil, .nil⟩, rfl⟩)
  intro e he; simp at he
end

section
variable {w : World} {A : Around} {E : Value → Shared → Prop} {s : Shared} {env : Env} {h₀ : Heap} {x : Str} {body : List Stmt} {Q : Flow → Shared → Prop} {m₀ : Str → Option Value} {nx₀ : List (Addr × Obj)}
theorem Dct.at_ {h : Heap} {d : Addr} {b : List (Key × Int)} (D : Dct w h d b) : ∃ vals ep, h.DictAt (mk w) d (intPairs vals) ep ∧ flatV vals = b := by
  obtain ⟨vals, hd, e⟩ := D.dictOf
  obtain ⟨ep, ha⟩ := hd.dictAt
  exact ⟨vals, ep, ha, e⟩
theorem pairs_at {vals : List (Key × Int × Tok)} {i : Nat} {k : Key} {v : Value} (h : (intPairs vals)[i]? = some (k, v)) : ∃ n t, v = .int n t ∧ (flatV vals)[i]? = some (k, n) := by
  unfold intPairs at h
  rw [List.getElem?_map] at h
  cases q : vals[i]? with
  | none => rw [q] at h; cases h
  | some y =>
    rw [q] at h
    have e := Option.some.inj h
    have e1 : y.1 = k := congrArg Prod.fst e
    have e2 : Value.int y.2.1 y.2.2 = v := congrArg Prod.snd e
    exact ⟨y.2.1, y.2.2, e2.symm, by unfold flatV; rw [List.getElem?_map, q, ← e1]; rfl⟩
theorem valuesJ {V d : Addr} {b : List (Key × Int)} (J : Nat → (Str → Option Value) → List (Addr × Obj) → Prop)
    (hh : A.handled = none) (hv : s.heap.IsValuesView V d) (D : Dct w s.heap d b) (hloc : (∃ q, h₀.get? d = some q) ∨ ∃ q, ∀ i m nx, J i m nx → (d, q) ∈ nx)
    (F : Fr h₀ env.locals s.heap m₀) (N : News h₀ env.locals s.heap nx₀) (hj : J 0 m₀ nx₀)
    (hcls : ∀ i m nx, J i m nx → ∀ p ∈ nx, p.2.cls ≠ .type "dict_valueiterator")
    (turn : ∀ (i : Nat) k v t m₁ nx h tk I o, b[i]? = some (k, v) → J i m₁ nx → o.cls = .type "dict_valueiterator" → (∀ p ∈ nx, p.1 ≠ I) → Fr h₀ env.locals h (fun y => if y = x then some (.int v t) else m₁ y) → News h₀ env.locals h ((I, o) :: nx) →
      wpAny (model PR w) A (execs body env) (TurnJ h₀ env.locals (I, o) (J (i + 1)) { s with heap := h, toks := tk } Q) E { s with heap := h, toks := tk })
    (done : ∀ m₁ nx h tk, J b.length m₁ nx → Fr h₀ env.locals h m₁ → News h₀ env.locals h nx → Q .next { s with heap := h, toks := tk }) :
    wpAny (model PR w) A (pyIter (.ref V)) (fun it s₂ => LoopAtV PR w A h₀ env x body Q E it s₂) E s := by
  obtain ⟨vals, ep, ha, rfl⟩ := D.at_
  have hne : d ≠ s.heap.objs.size := Nat.ne_of_lt ha.lt_size
  refine wpAny_pyIter_values hv ha ?_
  have hdL : d ≠ env.locals := by
    intro e
    rcases hloc with ⟨q, hq⟩ | ⟨q, hq⟩
    · exact absurd (Nat.lt_of_lt_of_le (Heap.lt_size hq) F.above) (e ▸ Nat.lt_irrefl _)
    · exact (N _ (hq _ _ _ hj)).2.1 e
  refine loopJ (c := "dict_valueiterator") J (Walks.dictValues (prog := PR) (w := w) (knd := mk w) hh s.heap.objs.size d hne (intPairs vals) ep) rfl (next_is_new F) ?_ (fun i h st => let ⟨o, ho, hc, _⟩ := st.1; ⟨o, ho, hc⟩) (fun b hb => ?_) hcls
    ⟨⟨_, Heap.get?_push_size _ rfl, rfl, rfl⟩, ha.push _⟩ (F.push _) (fun p hp => ⟨Heap.get?_push_of_some _ (N p hp).1, (N p hp).2⟩) hj ?_ ?_
  · intro hm
    rcases List.mem_cons.mp hm with e | hm
    · exact absurd F.ns.lt (e ▸ Nat.lt_irrefl _)
    · exact hdL (List.mem_singleton.mp hm).symm
  · rcases List.mem_cons.mp hb with e | hb
    · exact .inl e
    · rw [List.mem_singleton.mp hb]; exact .inr hloc
  · intro i v m₁ nx h tk o hi xR1; obtain ⟨k, hP⟩ := xR1; intro hJ hc hne F₁ N₁
    obtain ⟨n, t, rfl, hb⟩ := pairs_at hP
    exact turn i k n t m₁ nx h tk _ o hb hJ hc hne F₁ N₁
  · intro m₁ nx h tk hJ
    rw [intPairs_length] at hJ
    exact done m₁ nx h tk (by rw [flatV_length]; exact hJ)
inductive LoopItems (w : World) (A : Around) (h₀ : Heap) (env : Env) (xk xv : Str) (body : List Stmt) (Q : Flow → Shared → Prop) (E : Value → Shared → Prop) (xval : Value) (s₁ : Shared) : Prop
  | intro (V d : Addr) (b : List (Key × Int)) (m₀ : Str → Option Value) (nx₀ : List (Addr × Obj)) (J : Nat → (Str → Option Value) → List (Addr × Obj) → Prop) (q0 : xval = .ref V) (q1 : s₁.heap.IsItemsView V d) (q2 : Dct w s₁.heap d b) (q3 : ((∃ q, h₀.get? d = some q) ∨ ∃ q, ∀ i m nx, J i m nx → (d, q) ∈ nx)) (q4 : Fr h₀ env.locals s₁.heap m₀) (q5 : News h₀ env.locals s₁.heap nx₀) (q6 : J 0 m₀ nx₀) (q7 : (∀ i m nx, J i m nx → ∀ p ∈ nx, p.2.cls ≠ .type "dict_itemiterator")) (q8 : (∀ (i : Nat) k key v t m₁ nx h tk I o, b[i]? = some (k, v) → (mk w).is k key = true → J i m₁ nx → o.cls = .type "dict_itemiterator" → (∀ p ∈ nx, p.1 ≠ I) → Fr h₀ env.locals h (fun y => if y = xv then some (.int v t) else if y = xk then some key else m₁ y) → News h₀ env.locals h ((I, o) :: nx) →
      wpAny (model PR w) A (execs body env) (TurnJ h₀ env.locals (I, o) (J (i + 1)) { s₁ with heap := h, toks := tk } Q) E { s₁ with heap := h, toks := tk })) (q9 : (∀ m₁ nx h tk, J b.length m₁ nx → Fr h₀ env.locals h m₁ → News h₀ env.locals h nx → Q .next { s₁ with heap := h, toks := tk })) : LoopItems w A h₀ env xk xv body Q E xval s₁

inductive II (w : World) (s₁ : Shared) (d : Addr) (vals : List (Key × Int × Tok)) (ep : Nat) (h₀ : Heap) (env : Env) (J : Nat → (Str → Option Value) → List (Addr × Obj) → Prop) (n : Nat) (s' : Shared) : Prop
  | intro (h' : _) (tk : _) (m' : _) (nx' : _) (i : _) (ok : _) (ov : _) (q0 : s' = { s₁ with heap := h', toks := tk }) (q1 : IsItemIter h' s₁.heap.objs.size d i (intPairs vals).length ep ok ov) (q2 : h'.DictAt (mk w) d (intPairs vals) ep) (q3 : Fr h₀ env.locals h' m') (q4 : News h₀ env.locals h' nx') (q5 : J i m' nx') (q6 : i ≤ (intPairs vals).length) (q7 : n = (intPairs vals).length + 1 - i) : II w s₁ d vals ep h₀ env J n s'
theorem For_items {xk xv : Str} {pk pv pt pos : Pos} {x1} {iter : PySem.Expr} (h₀ : Heap)
    (hh : A.handled = none) (hxk : env.kindOf xk = some .local) (hxv : env.kindOf xv = some .local)
    (hp : (env.scope.kind == .class || (env.scope.kind == .module && env.locals != env.globals)) = false)
    (h : wpAny (model PR w) A (eval iter env) (LoopItems w A h₀ env xk xv body Q E) E s)
    (hs : ∀ x, foldedSetIterable iter env x = pure x := by intro _; rfl)
    (hE : PassesOwn (model PR w) A env E := by passes_own) :
    wpAny (model PR w) A (exec (.For (.Tuple [.Name xk pk, .Name xv pv] x1 pt) iter body [] pos) env) Q E s := by
  refine wpAny_For (wpAny_mono h (fun xval s₁ hL => ?_) fun _ _ e => e) hs
  obtain ⟨V, d, b, m₀, nx₀, J, rfl, hv, D, hloc, F, N, hj, hcls, turn, done⟩ := hL
  obtain ⟨vals, ep, ha, rfl⟩ := D.at_
  have hdL : d ≠ env.locals := by
    intro e
    rcases hloc with ⟨q, hq⟩ | ⟨q, hq⟩
    · exact absurd (Nat.lt_of_lt_of_le (Heap.lt_size hq) F.above) (e ▸ Nat.lt_irrefl _)
    · exact (N _ (hq _ _ _ hj)).2.1 e
  have hdz : d < s₁.heap.objs.size := ha.lt_size
  have hdi : d ≠ s₁.heap.objs.size := Nat.ne_of_lt hdz
  have hiL : s₁.heap.objs.size ≠ env.locals := Nat.ne_of_gt F.ns.lt
  refine wpAny_pyIter_items hv ha ?_
  refine codeAny_forLoop_any
    (II w s₁ d vals ep h₀ env J) ?_ ((intPairs vals).length + 1)
    ⟨_, s₁.toks, m₀, nx₀, 0, .none, .none, rfl, Heap.get?_push_size _ rfl, ha.push _, F.push _, (fun p hp => ⟨Heap.get?_push_of_some _ (N p hp).1, (N p hp).2⟩), hj, Nat.zero_le _, rfl⟩
  intro n s' xR3; obtain ⟨H, tk, m', nx', i, ok, ov, rfl, hit', hm', F', N', hJ, hi, rfl⟩ := xR3
  have hI0 : h₀.get? s₁.heap.objs.size = none := next_is_new F
  have off : ∀ p ∈ nx', p.1 ≠ s₁.heap.objs.size := fun p hp e => by
    have h1 := (N' p hp).1
    rw [e, hit'] at h1
    exact hcls _ _ _ hJ p hp (by rw [← Option.some.inj h1])
  have old0 : ∀ b o, h₀.get? b = some o → b ≠ s₁.heap.objs.size := fun b o e q => by rw [q, hI0] at e; cases e
  cases hv' : (intPairs vals)[i]? with
  | none =>
    have hsz : i = (intPairs vals).length := Nat.le_antisymm hi (by simpa using hv')
    refine wpAny_pyNext_items_end hh hit' hm' hv' fun h₁ he₁ => wpAny_execs_nil ?_
    refine done m' nx' h₁ tk (by rw [flatV_length, ← intPairs_length, ← hsz]; exact hJ) ⟨F'.ns.extBut he₁ (Ne.symm hiL), fun b o e => he₁ b o (old0 b o e) (F'.keep b o e), F'.above⟩ fun p hp => ⟨he₁ _ _ (off p hp) (N' p hp).1, (N' p hp).2⟩
  | some kv =>
    obtain ⟨k, v⟩ := kv
    have hlt : i < (intPairs vals).length := (List.getElem?_eq_some_iff.mp hv').1
    obtain ⟨nv, t, rfl, hb⟩ := pairs_at hv'
    have hiH : s₁.heap.objs.size < H.objs.size := Heap.lt_size hit'
    have hLH : env.locals < H.objs.size := F'.ns.lt
    have hdH : d < H.objs.size := hm'.lt_size
    refine wpAny_pyNext_items_item hit' hm' hv' fun key h₁ hkey heo ht₁ hz₁ hk₁ => ?_
    refine wpAny_letOwnedTupleGo_items heo fun h₂ he₂ hs₂ => ?_
    replace hs₂ : Heap.SameBut s₁.heap.objs.size h₁ h₂ := hs₂
    have ht₂ : h₂.IsTuple H.objs.size #[key, .int nv t] := ⟨_, (hs₂.2 _ (Nat.ne_of_gt hiH)).trans ht₁, rfl, _, rfl⟩
    have hz₂ : h₂.objs.size = H.objs.size + 1 := hs₂.1.trans hz₁
    refine wpAny_assign_Tuple hh ht₂ rfl rfl fun h₃ hx₃ => ?_
    replace hx₃ : Heap.ExtBut h₂.objs.size h₂ h₃ := hx₃
    have old₃ : ∀ b o, b < H.objs.size → h₂.get? b = some o → h₃.get? b = some o := fun b o hb x => hx₃ b o (by rw [hz₂]; exact Nat.ne_of_lt (Nat.lt_succ_of_lt hb)) x
    have up₃ : ∀ b o, b ≠ s₁.heap.objs.size → H.get? b = some o → h₃.get? b = some o := fun b o hb e => old₃ b o (Heap.lt_size e) (hs₂.extBut b o hb (hk₁ b o hb e))
    have F₃ : Fr h₀ env.locals h₃ m' := ⟨F'.ns.at fun o e => up₃ _ o (Ne.symm hiL) e, fun b o e => up₃ b o (old0 b o e) (F'.keep b o e), F'.above⟩
    have it₃ : IsItemIter h₃ s₁.heap.objs.size d (i + 1) (intPairs vals).length ep key (.int nv t) := old₃ _ _ hiH he₂
    have N₃ : News h₀ env.locals h₃ ((s₁.heap.objs.size, _) :: nx') := fun p hp => by
      rcases List.mem_cons.mp hp with rfl | hp
      · exact ⟨it₃, hiL, hI0⟩
      · exact ⟨up₃ _ _ (off p hp) (N' p hp).1, (N' p hp).2⟩
    show wpAny _ _ (do holding [Value.int nv t] (assign (.Name xk pk) env key); do holding [] (assign (.Name xv pv) env (Value.int nv t)); pure ()) _ _ _
    refine wpAny_bind (wpAny_holding (wpAny_assign_Name (wpAny_storeName_local hxk F₃.ns (fun h₄ hn₄ hs₄ => ?_) hp)))
    have F₄ := F₃.set hn₄ hs₄
    have N₄ := N₃.set hs₄
    refine wpAny_bind (wpAny_holding (wpAny_assign_Name (wpAny_storeName_local hxv F₄.ns (fun h₅ hn₅ hs₅ => wpAny_pure ?_) hp)))
    have F₅ := F₄.set hn₅ hs₅
    have N₅ := N₄.set hs₅
    refine wpAny_mono (wpAny_passesOwn hE (turn i k key nv t m' nx' h₅ _ _ _ hb hkey hJ rfl off F₅ N₅)) (fun f s₃ h₆ => ?_) fun _ _ x => x
    have fin : (∃ h' tk m₂ nx₂, s₃ = { s₁ with heap := h', toks := tk } ∧ Fr h₀ env.locals h' m₂ ∧ News h₀ env.locals h' ((s₁.heap.objs.size, { cls := .type "dict_itemiterator", dict := none, data := .fields #[.none, .bool false, .ref d, .int (i + 1 : Nat) 0, .int (intPairs vals).length 0, .int ep 0, key, .int nv t], slots := #[] }) :: nx₂) ∧ J (i + 1) m₂ nx₂) →
        ∃ mm, mm < (intPairs vals).length + 1 - i ∧ II w s₁ d vals ep h₀ env J mm s₃ := by
      intro xR4; obtain ⟨h', tk', m₂, nx₂, rfl, F₆, N₆, hJ₆⟩ := xR4
      refine ⟨(intPairs vals).length + 1 - (i + 1), by omega, h', tk', m₂, nx₂, i + 1, key, .int nv t, rfl, (N₆ _ (.head _)).1, ?_, F₆, fun p hp => N₆ p (.tail _ hp), hJ₆, hlt, rfl⟩
      rcases hloc with ⟨q, hq⟩ | ⟨q, hq⟩
      · refine ha.at fun o e => ?_
        have h1 := F.keep _ _ hq
        rw [e] at h1
        rw [Option.some.inj h1]
        exact F₆.keep _ _ hq
      · refine ha.at fun o e => ?_
        have h1 := (N _ (hq _ _ _ hj)).1
        have h2 : s₁.heap.get? d = some q := h1
        rw [e] at h2
        rw [Option.some.inj h2]
        exact (N₆ _ (.tail _ (hq _ _ _ hJ₆))).1
    cases f with
    | ret v => exact h₆
    | brk => exact h₆
    | next => exact fin h₆
    | cont => exact fin h₆
theorem For_itemsF {xk xv : Str} {pk pv pt pos : Pos} {x1} {iter : PySem.Expr} {m : Str → Option Value} (_F : Fr h₀ env.locals s.heap m)
    (hh : A.handled = none) (hxk : env.kindOf xk = some .local) (hxv : env.kindOf xv = some .local)
    (hp : (env.scope.kind == .class || (env.scope.kind == .module && env.locals != env.globals)) = false)
    (h : wpAny (model PR w) A (eval iter env) (LoopItems w A h₀ env xk xv body Q E) E s)
    (hs : ∀ x, foldedSetIterable iter env x = pure x := by intro _; rfl)
    (hE : PassesOwn (model PR w) A env E := by passes_own) :
    wpAny (model PR w) A (exec (.For (.Tuple [.Name xk pk, .Name xv pv] x1 pt) iter body [] pos) env) Q E s := For_items h₀ hh hxk hxv hp h hs hE
end
end

noncomputable def fr (ps : List (Str × Value)) (u : Str → Option Value) : Str → Option Value := match ps with
  | [] => u
  | p :: r => fun y => if y = p.1 then some p.2 else fr r u y
theorem fr_self {m : Str → Option Value} : ∀ {ps : List (Str × Value)}, (∀ p ∈ ps, m p.1 = some p.2) → ∃ u, m = fr ps u
  | [], _ => ⟨m, rfl⟩
  | p :: r, h => by
    obtain ⟨u, hu⟩ := fr_self (m := m) (ps := r) fun q hq => h q (.tail _ hq)
    refine ⟨u, ?_⟩
    funext y
    show m y = if y = p.1 then some p.2 else fr r u y
    by_cases e : y = p.1
    · rw [if_pos e, e]; exact h p (.head _)
    · rw [if_neg e, ← hu]
noncomputable def holds (m : Str → Option Value) : List (Str × Value) → Prop
  | [] => True
  | p :: r => m p.1 = some p.2 ∧ holds m r
theorem holds_mem {m : Str → Option Value} : ∀ {ps : List (Str × Value)}, holds m ps → ∀ p ∈ ps, m p.1 = some p.2
  | [], _, _, hp => nomatch hp
  | q :: r, h, p, hp => by
    rcases List.mem_cons.mp hp with rfl | hp
    · exact h.1
    · exact holds_mem h.2 p hp
theorem fr_of {h₀ h : Heap} {L : Addr} {m : Str → Option Value} (F : Fr h₀ L h m) (ps : List (Str × Value)) (hp : holds m ps) : ∃ u, Fr h₀ L h (fr ps u) := by
  obtain ⟨u, hu⟩ := fr_self (holds_mem hp)
  exact ⟨u, hu ▸ F⟩
theorem fr_eq {m : Str → Option Value} (ps : List (Str × Value)) (hp : holds m ps) : ∃ u, m = fr ps u := fr_self (holds_mem hp)
noncomputable def Stop (P : Prop) : Prop := P
theorem Stop.on {P : Prop} (h : Stop P) : P := h
theorem Stop.off {P : Prop} (h : P) : Stop P := h

noncomputable def offP (D : Addr) : List (Addr × Obj) → Prop
  | [] => True
  | p :: r => (@Ne Nat p.1 D) ∧ offP D r
theorem offP_of {D : Addr} : ∀ {l : List (Addr × Obj)}, (∀ p ∈ l, p.1 ≠ D) → offP D l
  | [], _ => trivial
  | p :: _, h => ⟨h p (.head _), offP_of fun q hq => h q (.tail _ hq)⟩

section
inductive SrcI (w : World) (s : Shared) : Value → List Int → Prop
  | list {l : Addr} {vs : List Value} {ks : List Int} : s.heap.IsList l vs.toArray → IntsAre vs ks → SrcI w s (.ref l) ks
  | range {r : Addr} {a b : Int} {t u v : Tok} {n : Nat} : IsRange s.heap r a b 1 t u v → Builtin.Range.small a b 1 = true → Builtin.Range.rangeSize a b 1 = (n : Int) → SrcI w s (.ref r) (rangeKs a n)
  | keys {d : Addr} {b : List (Key × Int)} {ks : List Int} : Dct w s.heap d b → b.map (·.1) = ks.map some → SrcI w s (.ref d) ks

inductive SrcAt_ (w : World) (A : Around) (ks : List Int) (s₁ : Shared) (it : Value) (s₂ : Shared) : Prop
  | intro (oI : _) (fp : _) (P : _) (St : _) (q0 : it = .ref s₁.heap.objs.size) (q1 : s₂ = { s₁ with heap := s₁.heap.push oI }) (q2 : Walks PR w A s₁.heap.objs.size fp [s₁.heap.objs.size] ks.length P St) (q3 : St 0 s₂.heap) (q4 : (∀ b ∈ fp, b < s₂.heap.objs.size)) (q5 : ∀ i v, P i v → ∃ k t, ks[i]? = some k ∧ v = .int k t) : SrcAt_ w A ks s₁ it s₂

theorem src_walk {w : World} {A : Around} {E : Value → Shared → Prop} {s₁ : Shared} {xv : Value} {ks : List Int} (hh : A.handled = none) (S : SrcI w s₁ xv ks) : wpAny (model PR w) A (pyIter xv) (SrcAt_ w A ks s₁) E s₁ := by
  cases S with
  | @list l vs ks hl hi =>
    obtain ⟨ol, hol, _⟩ := id hl
    have hlt : l < s₁.heap.objs.size := Heap.lt_size hol
    refine wpAny_pyIter_list hl ?_
    refine ⟨_, [s₁.heap.objs.size, l], (fun i v => vs.toArray[i]? = some v), (fun i h => h.IsListIter s₁.heap.objs.size l i ∧ h.IsList l vs.toArray), rfl, rfl, ?_, ⟨⟨_, Heap.get?_push_size _ rfl, rfl, rfl⟩, hl.push _⟩, ?_, ?_⟩
    · have W := Walks.list (prog := PR) (w := w) hh s₁.heap.objs.size l (Nat.ne_of_lt hlt) vs.toArray
      have hlen : vs.toArray.size = ks.length := by simp [hi.length]
      rw [hlen] at W; exact W
    · intro b hb
      show b < (s₁.heap.push _).objs.size
      rw [Heap.size_push]
      rcases List.mem_cons.mp hb with rfl | hb
      · exact Nat.lt_succ_self _
      · rw [List.mem_singleton.mp hb]; exact Nat.lt_succ_of_lt hlt
    · intro i v hv
      obtain ⟨k, t, e, hk⟩ := IntsAre.at hi i v (by simpa using hv)
      exact ⟨k, t, hk, e⟩
  | @range r a b t u v n hr hs hn =>
    refine wpAny_pyIter_range hr hs ?_
    refine ⟨_, [s₁.heap.objs.size], (fun i v => i < n ∧ ∃ t, v = .int (a + i * 1) t), (fun i h => IsRangeIter h s₁.heap.objs.size (a + (i : Nat) * 1) ((n : Int) - (i : Nat)) 1), rfl, rfl, ?_, ?_, ?_, ?_⟩
    · rw [rangeKs_length]
      exact (Walks.range hh _ a 1 n).bound
    · show IsRangeIter _ _ _ _ _; rw [hn]; simpa using Heap.get?_push_size _ rfl
    · intro b hb
      rw [List.mem_singleton.mp hb]
      show s₁.heap.objs.size < (s₁.heap.push _).objs.size
      rw [Heap.size_push]; exact Nat.lt_succ_self _
    · intro i v xR1; obtain ⟨hi, t, rfl⟩ := xR1
      exact ⟨a + (i : Int), t, by simp [rangeKs, hi], by rw [Int.mul_one]⟩
  | @keys d b ks D hk =>
    obtain ⟨vals, ep, ha, rfl⟩ := D.at_
    have hlt : d < s₁.heap.objs.size := ha.lt_size
    refine wpAny_pyIter_dict D.1 ha ?_
    refine ⟨_, [s₁.heap.objs.size, d], (fun i v => ∃ k x, (intPairs vals)[i]? = some (k, x) ∧ (mk w).is k v = true), (fun i h => h.IsKeyIter s₁.heap.objs.size d i (intPairs vals).length ep ∧ h.DictAt (mk w) d (intPairs vals) ep), rfl, rfl, ?_, ⟨⟨_, Heap.get?_push_size _ rfl, rfl, rfl⟩, ha.push _⟩, ?_, ?_⟩
    · have W := Walks.dictKeys (prog := PR) (w := w) (knd := mk w) hh s₁.heap.objs.size d (Nat.ne_of_lt hlt) (intPairs vals) ep
      have hlen : (intPairs vals).length = ks.length := by
        have := congrArg List.length hk
        simp only [List.length_map] at this
        rw [intPairs_length, ← flatV_length]; exact this
      rw [hlen] at W ⊢; exact W
    · intro b hb
      show b < (s₁.heap.push _).objs.size
      rw [Heap.size_push]
      rcases List.mem_cons.mp hb with rfl | hb
      · exact Nat.lt_succ_self _
      · rw [List.mem_singleton.mp hb]; exact Nat.lt_succ_of_lt hlt
    · intro i v xR2; obtain ⟨k, x, hx, hkv⟩ := xR2
      obtain ⟨n, t, _, hb⟩ := pairs_at hx
      have h1 : ((flatV vals).map (·.1))[i]? = some k := by rw [List.getElem?_map, hb]; rfl
      rw [hk, List.getElem?_map] at h1
      cases q : ks[i]? with
      | none => rw [q] at h1; cases h1
      | some j =>
        rw [q] at h1
        have e : some j = k := Option.some.inj h1
        subst e
        obtain ⟨t, rfl⟩ := keyIs_some hkv
        exact ⟨j, t, rfl, rfl⟩

noncomputable def CompPure (w : World) (A : Around) (env : Env) (scope : Scope) (cl : List (Str × Addr)) (x : Str) (ifs : List PySem.Expr) (elt : PySem.Expr) (s₁ : Shared) (ks : List Int) (p : Int → Bool) (g : Int → Int) : Prop :=
  (∀ C k t s₃ m₃ E', k ∈ ks → Fr s₁.heap C s₃.heap m₃ → m₃ x = some (.int k t) →
    wpAny (model PR w) A (forIn ifs true fun c r => if r = true then do let ok ← isTrue c (compEnvC scope cl C env) (eval c (compEnvC scope cl C env)); pure (ForInStep.yield ok) else pure (ForInStep.yield r))
      (fun ok s₄ => ok = p k ∧ Keeps s₃ s₄) E' s₃) ∧
  (∀ C k t s₃ m₃ E', k ∈ ks → p k = true → Fr s₁.heap C s₃.heap m₃ → m₃ x = some (.int k t) → wpAny (model PR w) A (eval elt (compEnvC scope cl C env)) (fun y s₄ => (∃ u, y = .int (g k) u) ∧ Keeps s₃ s₄) E' s₃)
noncomputable def pInt (p : Int → Bool) : Value → Bool
  | .int k _ => p k
  | _ => false
noncomputable def gInt (g : Int → Int) (v y : Value) : Prop := ∃ k t u, v = .int k t ∧ y = .int (g k) u

theorem CompPure.quiet {w : World} {A : Around} {env : Env} {scope : Scope} {cl : List (Str × Addr)} {x : Str} {ifs : List PySem.Expr} {elt : PySem.Expr} {s₁ : Shared} {ks : List Int} {p : Int → Bool} {g : Int → Int} (H : CompPure w A env scope cl x ifs elt s₁ ks p g)
    {oI : Obj} {P : Nat → Value → Prop} (hP : ∀ i v, P i v → ∃ k t, ks[i]? = some k ∧ v = .int k t) : QuietOnC PR w A env scope cl x ifs elt [s₁.heap.objs.size] P (pInt p) (gInt g) { s₁ with heap := s₁.heap.push oI } := by
  have hsz : s₁.heap.objs.size ≤ (s₁.heap.push oI).objs.size := by rw [Heap.size_push]; exact Nat.le_succ _
  have fr : ∀ {C : Addr} {h₃ : Heap} {m₃ : Str → Option Value}, (s₁.heap.push oI).objs.size ≤ C → h₃.Ns C m₃ → (∀ b o, b ∉ [s₁.heap.objs.size] → (s₁.heap.push oI).get? b = some o → h₃.get? b = some o) → Fr s₁.heap C h₃ m₃ := fun hC hn hk =>
    ⟨hn, fun b o e => hk b o (fun hb => absurd (Heap.lt_size e) ((List.mem_singleton.mp hb) ▸ Nat.lt_irrefl _)) (Heap.get?_push_of_some _ e), Nat.le_trans hsz hC⟩
  refine ⟨fun C i v s₃ m₃ E' hC hv hn hm hk _ => ?_, fun C i v s₃ m₃ E' hC hv hp hn hm hk _ => ?_⟩
  · obtain ⟨k, t, hi, rfl⟩ := hP i v hv
    exact H.1 C k t s₃ m₃ E' (List.mem_of_getElem? hi) (fr hC hn hk) hm
  · obtain ⟨k, t, hi, rfl⟩ := hP i v hv
    exact wpAny_mono (H.2 C k t s₃ m₃ E' (List.mem_of_getElem? hi) hp (fr hC hn hk) hm) (fun y s₄ h₄ => ⟨let ⟨u, e⟩ := h₄.1; ⟨k, t, u, rfl, e⟩, h₄.2⟩) fun _ _ e => e

theorem ints_of_walk {ks : List Int} {P : Nat → Value → Prop} (hP : ∀ i v, P i v → ∃ k t, ks[i]? = some k ∧ v = .int k t) : ∀ {vs : List Value}, vs.length = ks.length → (∀ j v, vs[j]? = some v → P j v) → IntsAre vs ks := by
  intro vs hl h
  refine kdy_ints hl fun j v hv => ?_
  obtain ⟨k, t, e, r⟩ := hP j v (h j v hv)
  exact ⟨k, e, t, r⟩
theorem ints_filter {p : Int → Bool} {g : Int → Int} : ∀ {vs : List Value} {ks : List Int} {ys : List Value}, IntsAre vs ks → Paired (gInt g) (vs.filter (pInt p)) ys → IntsAre ys ((ks.filter p).map g)
  | _, _, _, .nil, h => by cases h; exact .nil
  | _, _, ys, .cons (vs := vs) (ns := ks) k t hi, h => by
    by_cases hp : p k = true
    · have h1 : List.filter (pInt p) (Value.int k t :: vs) = Value.int k t :: vs.filter (pInt p) := List.filter_cons_of_pos (by exact hp)
      have h2 : List.filter p (k :: ks) = k :: ks.filter p := List.filter_cons_of_pos hp
      rw [h1] at h
      rw [h2]
      cases h with
      | cons ha hb =>
        obtain ⟨k', t', u, e, rfl⟩ := ha
        injection e with e1 e2
        subst e1
        exact .cons _ u (ints_filter hi hb)
    · have h1 : List.filter (pInt p) (Value.int k t :: vs) = vs.filter (pInt p) := List.filter_cons_of_neg (by exact hp)
      have h2 : List.filter p (k :: ks) = ks.filter p := List.filter_cons_of_neg hp
      rw [h1] at h
      rw [h2]
      exact ints_filter hi h

section
variable {w : World} {A : Around} {E : Value → Shared → Prop} {s : Shared} {env : Env} {h₀ : Heap} {L : Addr} {m : Str → Option Value} {nx : List (Addr × Obj)}
theorem compA {elt iter : PySem.Expr} {x y : Str} {px py : Pos} {ifs : List PySem.Expr} {scope : Scope} {cl : List (Str × Addr)} {pos spos : Pos} {Q : Flow → Shared → Prop} (p : Int → Bool) (g : Int → Int) (_F₀ : Fr h₀ L s.heap m) (_N₀ : News h₀ L s.heap nx)
    (hsw : swapsWith (.ListComp elt [⟨.Name x px, iter, ifs, 0⟩] scope pos) (some (.Name y py)) spos.line env = pure true) (hL : env.locals = L)
    (hclos : closureFor scope env = pure cl) (hcell : ∀ z ∈ scope.names, z.2 ≠ .cell) (hkind : scope.kind = .function)
    (hnames : ∀ z ∈ scope.names, z.2 = .local → scope.names.lookup z.1 = some .local) (hx : scope.names.lookup x = some .local)
    (hy : env.kindOf y = some .local) (hp : (env.scope.kind == .class || (env.scope.kind == .module && env.locals != env.globals)) = false) (hh : A.handled = none)
    (h : wpAny (model PR w) A (eval iter env) (fun xv s₁ => Stop <| ∃ ks, SrcI w s₁ xv ks ∧ ks.length ≤ 1000 ∧ Fr h₀ L s₁.heap m ∧ News h₀ L s₁.heap nx ∧ CompPure w A env scope cl x ifs elt s₁ ks p g ∧
      ∀ D vs n h' tk, Fr h₀ L h' (fun z => if z = y then some (.ref D) else m z) → News h₀ L h' ((D, listOf vs.toArray n) :: nx) → (∀ p ∈ nx, p.1 ≠ D) → IntsAre vs ((ks.filter p).map g) → Q .next { s₁ with heap := h', toks := tk }) E s)
    (hs : ∀ x, foldedSetIterable iter env x = pure x := by intro _; rfl) :
    wpAny (model PR w) A (exec (.Assign [.Name y py] (.ListComp elt [⟨.Name x px, iter, ifs, 0⟩] scope pos) spos) env) Q E s := by
  subst hL
  refine wpAny_Assign_ListComp_free (pInt p) (gInt g) hsw hclos hcell hkind hnames hx hy hp (wpAny_mono h (fun xv s₁ h₁ => ?_) fun _ _ e => e) hs
  obtain ⟨ks, S, hlen, F, N, H, hQ⟩ := h₁
  refine wpAny_mono (src_walk hh S) (fun it s₂ h₂ => ?_) fun _ _ e => e
  obtain ⟨oI, fp, P, St, rfl, rfl, W, hst, hfp, hP⟩ := h₂
  have F₂ := F.push oI
  refine ⟨s₁.heap.objs.size, fp, _, ks.length, P, St, m, rfl, W, by rw [sizeLine_eq]; omega, hst, hfp, ?_, F₂.ns, H.quiet hP, ?_⟩
  · intro hm; exact absurd F.ns.lt ((List.mem_singleton.mp hm) ▸ Nat.lt_irrefl _)
  intro D h' tk ys vs' hnew hlD hpl hl hv hF hns hk
  have hD := hpl
  obtain ⟨n, hD⟩ := hD
  have keep : ∀ b o, b ≠ env.locals → s₁.heap.get? b = some o → h'.get? b = some o := fun b o hb e => hk b o hb (fun hm => absurd (Heap.lt_size e) ((List.mem_singleton.mp hm) ▸ Nat.lt_irrefl _)) (Heap.get?_push_of_some _ e)
  have hDne : s₁.heap.get? D = none := by
    cases q : s₁.heap.get? D with
    | none => rfl
    | some o => have e := Heap.get?_push_of_some oI q; rw [show (s₁.heap.push oI).get? D = none from hnew] at e; cases e
  have hL0 : h₀.get? env.locals = none := Heap.get?_none_of_le F.above
  have F' : Fr h₀ env.locals h' (fun z => if z = y then some (.ref D) else m z) := ⟨hns, fun b o e => keep b o (fun q => by rw [q, hL0] at e; cases e) (F.keep b o e), F.above⟩
  have N' : News h₀ env.locals h' nx := fun p hp => ⟨keep _ _ (N p hp).2.1 (N p hp).1, (N p hp).2⟩
  refine hQ D ys.toList n h' tk F' (news_add F N' hDne ?_) (news_ne N hDne) (ints_filter (ints_of_walk hP hl hv) hF)
  rw [Array.toArray_toList]; exact hD
theorem compE {elt iter : PySem.Expr} {x : Str} {px : Pos} {ifs : List PySem.Expr} {scope : Scope} {cl : List (Str × Addr)} {pos : Pos} {Q : Value → Shared → Prop} (p : Int → Bool) (g : Int → Int) (_F₀ : Fr h₀ L s.heap m) (_N₀ : News h₀ L s.heap nx)
    (hclos : closureFor scope env = pure cl) (hcell : ∀ z ∈ scope.names, z.2 ≠ .cell) (hkind : scope.kind = .function)
    (hnames : ∀ z ∈ scope.names, z.2 = .local → scope.names.lookup z.1 = some .local) (hx : scope.names.lookup x = some .local) (hh : A.handled = none)
    (h : wpAny (model PR w) A (eval iter env) (fun xv s₁ => Stop <| ∃ ks, SrcI w s₁ xv ks ∧ ks.length ≤ 1000 ∧ Fr h₀ L s₁.heap m ∧ News h₀ L s₁.heap nx ∧ CompPure w A env scope cl x ifs elt s₁ ks p g ∧
      ∀ D vs n h' tk, Fr h₀ L h' m → News h₀ L h' ((D, listOf vs.toArray n) :: nx) → (∀ p ∈ nx, p.1 ≠ D) → (∀ b o, s₁.heap.get? b = some o → h'.get? b = some o) → IntsAre vs ((ks.filter p).map g) → Q (.ref D) { s₁ with heap := h', toks := tk }) E s)
    (hs : ∀ x, foldedSetIterable iter env x = pure x := by intro _; rfl) :
    wpAny (model PR w) A (eval (.ListComp elt [⟨.Name x px, iter, ifs, 0⟩] scope pos) env) Q E s := by
  refine wpAny_ListComp_free (pInt p) (gInt g) hclos hcell hkind hnames hx (wpAny_mono h (fun xv s₁ h₁ => ?_) fun _ _ e => e) hs
  obtain ⟨ks, S, hlen, F, N, H, hQ⟩ := h₁
  refine wpAny_mono (src_walk hh S) (fun it s₂ h₂ => ?_) fun _ _ e => e
  obtain ⟨oI, fp, P, St, rfl, rfl, W, hst, hfp, hP⟩ := h₂
  refine ⟨s₁.heap.objs.size, fp, _, ks.length, P, St, rfl, W, by rw [sizeLine_eq]; omega, hst, hfp, H.quiet hP, ?_⟩
  intro D h' tk ys vs' hnew hlD hpl hl hv hF hk
  obtain ⟨n, hD⟩ := id hpl
  have keep : ∀ b o, s₁.heap.get? b = some o → h'.get? b = some o := fun b o e => hk b o (fun hm => absurd (Heap.lt_size e) ((List.mem_singleton.mp hm) ▸ Nat.lt_irrefl _)) (Heap.get?_push_of_some _ e)
  have hDne : s₁.heap.get? D = none := by
    cases q : s₁.heap.get? D with
    | none => rfl
    | some o => have e := Heap.get?_push_of_some oI q; rw [show (s₁.heap.push oI).get? D = none from hnew] at e; cases e
  refine hQ D ys.toList n h' tk (F.keeps keep) (news_add F (N.grown keep) hDne ?_) (news_ne N hDne) keep (ints_filter (ints_of_walk hP hl hv) hF)
  rw [Array.toArray_toList]; exact hD
end
end

section
section
variable {w : World} {A : Around} {E : Value → Shared → Prop} {s : Shared} {env : Env} {test : PySem.Expr} {body orelse : List Stmt} {Q : Flow → Shared → Prop}
noncomputable def WhileEnd (I : Nat → Shared → Prop) (n : Nat) (Q : Flow → Shared → Prop) (f : Flow) (s₃ : Shared) : Prop :=
  match f with
  | .ret v => Q (.ret v) s₃
  | .brk => Q .next s₃
  | _ => ∃ k, k < n ∧ I k s₃
theorem while_inv {pos : Pos} (I : Nat → Shared → Prop) (hE : PassesOwn (model PR w) A env E)
    (turn : ∀ n s, I n s → wpAny (model PR w) A (isTrue test env (eval test env)) (fun b s₂ => WhlIf b (wpAny (model PR w) A (execs body env) (WhileEnd I n Q) E s₂) (wpAny (model PR w) A (execs orelse env) Q E s₂)) E s)
    (n : Nat) (h : I n s) : wpAny (model PR w) A (exec (.While test body orelse pos) env) Q E s := by
  refine whl_start 0 ?_
  have all : ∀ n, ∀ k s, k < n → I k s → WhlRest PR w A E env test body orelse Q 1 s := by
    intro n
    induction n with
    | zero => intro k s hk; exact absurd hk (Nat.not_lt_zero _)
    | succ n ih =>
      intro k s hk hI
      refine whl_turn (k := 0) hE (wpAny_mono (turn k s hI) (fun b s₂ hb => ?_) fun _ _ e => e)
      cases b with
      | false => exact .no rfl (by unfold WhlIf at hb; rw [if_neg Bool.false_ne_true] at hb; exact hb)
      | true =>
        refine .yes rfl ?_
        unfold WhlIf at hb
        rw [if_pos rfl] at hb
        refine wpAny_mono hb (fun f s₃ hf => ?_) fun _ _ e => e
        cases f with
        | next => obtain ⟨j, hj, hI'⟩ := hf; exact ih j s₃ (by omega) hI'
        | cont => obtain ⟨j, hj, hI'⟩ := hf; exact ih j s₃ (by omega) hI'
        | brk => exact hf
        | ret v => exact hf
  exact all (n + 1) n s (Nat.lt_succ_self _) h
end

theorem any_beq_contains (ns : List Int) (k : Int) : ns.any (· == k) = ns.contains k := by
  rw [Bool.eq_iff_iff, List.any_eq_true, List.contains_iff_mem]
  exact ⟨fun ⟨x, hx, e⟩ => (beq_iff_eq.mp e) ▸ hx, fun h => ⟨k, h, beq_self_eq_true k⟩⟩
noncomputable def geti (ns : List Int) (k : Int) : Int := ns.getD k.toNat 0
theorem lst_led {h₀ h : Heap} {L l : Addr} {nx : List (Addr × Obj)} {vs : List Value} {ns : List Int} {n : Nat} (N : News h₀ L h nx) (hm : (l, listOf vs.toArray n) ∈ nx) (hi : IntsAre vs ns) : Lst h l ns := ⟨vs, ⟨_, (N _ hm).1, rfl, _, rfl⟩, hi⟩
section
variable {w : World} {A : Around} {E : Value → Shared → Prop} {s : Shared} {h₀ : Heap} {L l : Addr} {m : Str → Option Value} {nx : List (Addr × Obj)} {ns : List Int}
theorem lst_getItem {k : Int} {u : Tok} {Q : Value → Shared → Prop} (hl : Lst s.heap l ns) (h0 : 0 ≤ k) (h1 : k < (ns.length : Int)) (hz : ns.length ≤ 1000) (h : ∀ t, Q (.int (geti ns k) t) s) :
    wpAny (model PR w) A (getItem (.ref l) (.int k u)) Q E s := by
  obtain ⟨vs, hl, hi⟩ := hl
  obtain ⟨t, hx⟩ := hi.get k.toNat (geti ns k) (by
    have hlt : k.toNat < ns.length := by omega
    unfold geti
    rw [List.getD_eq_getElem?_getD, List.getElem?_eq_getElem hlt]; rfl)
  exact wpAny_getItem_list hl h0 (by omega) (by simpa using hx) (h t)
theorem lst_item {value slice : PySem.Expr} {k : Int} {u : Tok} {Q : Value → Shared → Prop} (hl : Lst s.heap l ns) (h0 : 0 ≤ k) (h1 : k < (ns.length : Int)) (hz : ns.length ≤ 1000) (h : ∀ t, Q (.int (geti ns k) t) s)
    (hs : subscripted slice false (.ref l) (.int k u) = operate [.ref l, .int k u] (getItem (.ref l) (.int k u)) := by with_unfolding_all rfl) (hg : ∀ r, letTemporaryGo value (.ref l) r = pure () := by intro _; with_unfolding_all rfl) :
    wpAny (model PR w) A (subscriptTail value slice (.ref l) (.int k u)) Q E s :=
  subscriptTail_builtin (let ⟨_, hl, _⟩ := hl; hl.typeIs) slot_list_getitem.lookup (lst_getItem hl h0 h1 hz h) hs hg
theorem lst_len {Q : Value → Shared → Prop} (hl : Lst s.heap l ns) (hz : ns.length ≤ 1000) (h : ∀ t tk, Q (.int (ns.length : Nat) t) { s with toks := tk }) : wpAny (model PR w) A (call (.builtin "len") [.ref l]) Q E s := by
  obtain ⟨vs, hl, hi⟩ := hl
  have e : vs.toArray.size = ns.length := by simp [hi.length]
  refine Calls.call_len_list hl (by rw [e]; omega) ?_
  rw [e]; exact h _ _
theorem lst_in {k : Int} {u : Tok} {Q : Value → Shared → Prop} (hl : Lst s.heap l ns) (h : Q (.bool (ns.contains k)) s) : wpAny (model PR w) A (compareOp .In (.int k u) (.ref l)) Q E s := by
  obtain ⟨vs, hl, hi⟩ := hl
  refine in_list_ints hl hi ?_
  have e := any_beq_contains ns k
  rw [e]; exact h
theorem lst_notin {k : Int} {u : Tok} {Q : Value → Shared → Prop} (hl : Lst s.heap l ns) (h : Q (.bool (!ns.contains k)) s) : wpAny (model PR w) A (compareOp .NotIn (.int k u) (.ref l)) Q E s := by
  obtain ⟨vs, hl, hi⟩ := hl
  refine notin_list_ints hl hi ?_
  have e := any_beq_contains ns k
  rw [e]; exact h
end

noncomputable def SeqV (h : Heap) (v : Value) (ns : List Int) : Prop := (∃ l, v = .ref l ∧ Lst h l ns) ∨ ∃ (bs : List UInt8) (t : Tok), v = .bytes bs.toArray t ∧ bs.map (fun b => (b.toNat : Int)) = ns
theorem SeqV.keeps {h h' : Heap} {v : Value} {ns : List Int} (x : SeqV h v ns) (k : ∀ b o, h.get? b = some o → h'.get? b = some o) : SeqV h' v ns := x.imp (fun ⟨l, e, y⟩ => ⟨l, e, y.keeps k⟩) id
section
variable {w : World} {A : Around} {E : Value → Shared → Prop} {s : Shared} {ns : List Int} {v : Value}
theorem seq_item {value slice : PySem.Expr} {k : Int} {u : Tok} {Q : Value → Shared → Prop} (hv : SeqV s.heap v ns) (h0 : 0 ≤ k) (h1 : k < (ns.length : Int)) (hz : ns.length ≤ 1000) (h : ∀ t tk, Q (.int (geti ns k) t) { s with toks := tk })
    (hs : ∀ v, subscripted slice false v (.int k u) = operate [v, .int k u] (getItem v (.int k u)) := by intro _; with_unfolding_all rfl) (hg : ∀ v r, letTemporaryGo value v r = pure () := by intro _ _; with_unfolding_all rfl) :
    wpAny (model PR w) A (subscriptTail value slice v (.int k u)) Q E s := by
  rcases hv with ⟨l, rfl, hl⟩ | ⟨bs, t, rfl, rfl⟩
  · exact lst_item hl h0 h1 hz (fun t => h t s.toks) (hs _) (hg _)
  · rw [List.length_map] at h1 hz
    refine subscriptTail_builtin (typeIs_bytes s _ t) FB.slot_bytes_getitem.lookup (getItem_bytes (by omega) h0 h1 ?_) (hs _) (hg _)
    have e : geti (bs.map fun b => (b.toNat : Int)) k = ((bs.getD k.toNat 0).toNat : Int) := by
      unfold geti
      rw [List.getD_eq_getElem?_getD, List.getD_eq_getElem?_getD, List.getElem?_map, List.getElem?_eq_getElem (show k.toNat < bs.length by omega)]
      rfl
    rw [← e]; exact h _ _
end
end

section
section
variable {w : World} {A : Around} {E : Value → Shared → Prop} {s : Shared} {env : Env} {h₀ : Heap} {x : Str} {px : Pos} {body : List Stmt} {Q : Flow → Shared → Prop} {m₀ : Str → Option Value} {nx₀ : List (Addr × Obj)}

noncomputable def NotIt (c : String) (o : Obj) : Prop := o.cls ≠ .type c ∨ ∃ v, o.data = .cell v
theorem NotIt.absurd {c : String} {o : Obj} {vs : Array Value} (h : NotIt c o) (h1 : o.cls = .type c) (h2 : o.data = .fields vs) : False := by
  rcases h with h | ⟨v, h⟩
  · exact h h1
  · rw [h2] at h; cases h
inductive LoopAny (w : World) (A : Around) (h₀ : Heap) (env : Env) (x : Str) (px : Pos) (body : List Stmt) (Q : Flow → Shared → Prop) (E : Value → Shared → Prop) (it : Value) (s : Shared) : Prop
  | intro (I : Addr) (fp : List Addr) (n : Nat) (P : Nat → Value → Prop) (St : Nat → Heap → Prop) (c : String) (m₀ : Str → Option Value) (nx₀ : List (Addr × Obj)) (J : Nat → (Str → Option Value) → List (Addr × Obj) → Prop) (q0 : it = .ref I) (q1 : Walks PR w A I fp [I] n P St) (q2 : h₀.get? I = none) (q3 : env.locals ∉ fp) (q4 : (∀ i h, St i h → ∃ o, h.get? I = some o ∧ o.cls = .type c ∧ ∃ vs, o.data = .fields vs)) (q5 : (∀ b ∈ fp, b = I ∨ (∃ q, h₀.get? b = some q) ∨ ∃ q, ∀ i m nx, J i m nx → (b, q) ∈ nx)) (q6 : (∀ i m nx, J i m nx → ∀ p ∈ nx, NotIt c p.2 ∨ p.1 ≠ I)) (q7 : St 0 s.heap) (q8 : Fr h₀ env.locals s.heap m₀) (q9 : News h₀ env.locals s.heap nx₀) (q10 : J 0 m₀ nx₀) (q11 : (∀ i v m₁ nx h tk o, i < n → P i v → J i m₁ nx → o.cls = .type c → (∀ p ∈ nx, p.1 ≠ I) → Fr h₀ env.locals h m₁ → News h₀ env.locals h ((I, o) :: nx) →
      wpAny (model PR w) A (storeName env x v) (fun _ s₃ => wpAny (model PR w) A (execs body env) (TurnJ h₀ env.locals (I, o) (J (i + 1)) { s with heap := h, toks := tk } Q) E s₃) E { s with heap := h, toks := tk })) (q12 : (∀ m₁ nx h tk, J n m₁ nx → Fr h₀ env.locals h m₁ → News h₀ env.locals h nx → Q .next { s with heap := h, toks := tk })) : LoopAny w A h₀ env x px body Q E it s

inductive AI (s₂ : Shared) (St : Nat → Heap → Prop) (h₀ : Heap) (env : Env) (J : Nat → (Str → Option Value) → List (Addr × Obj) → Prop) (n : Nat) (k : Nat) (s' : Shared) : Prop
  | intro (h' : _) (tk : _) (m' : _) (nx' : _) (i : _) (q0 : s' = { s₂ with heap := h', toks := tk }) (q1 : St i h') (q2 : Fr h₀ env.locals h' m') (q3 : News h₀ env.locals h' nx') (q4 : J i m' nx') (q5 : i ≤ n) (q6 : k = n + 1 - i) : AI s₂ St h₀ env J n k s'
theorem For_any {iter : PySem.Expr} {pos : Pos} {m : Str → Option Value} (_F : Fr h₀ env.locals s.heap m)
    (h : wpAny (model PR w) A (eval iter env) (fun xv s₁ => wpAny (model PR w) A (pyIter xv) (LoopAny w A h₀ env x px body Q E) E s₁) E s)
    (hs : ∀ x, foldedSetIterable iter env x = pure x := by intro _; rfl)
    (hE : PassesOwn (model PR w) A env E := by passes_own) :
    wpAny (model PR w) A (exec (.For (.Name x px) iter body [] pos) env) Q E s := by
  refine wpAny_For (wpAny_mono h (fun xv s₁ h₁ => wpAny_mono h₁ (fun it s₂ h₂ => ?_) fun _ _ e => e) fun _ _ e => e) hs
  obtain ⟨I, fp, n, P, St, c, m₀, nx₀, J, rfl, W, hI0, hLf, hio, hfp, hcls, hst, F, N, hj, turn, done⟩ := h₂
  have hIw : I ∈ fp := W.sub I (.head _)
  have hIL : I ≠ env.locals := fun e => hLf (e ▸ hIw)
  refine codeAny_forLoop_any
    (AI s₂ St h₀ env J n) ?_ (n + 1)
    ⟨s₂.heap, s₂.toks, m₀, nx₀, 0, rfl, hst, F, N, hj, Nat.zero_le _, rfl⟩
  intro k s' xR1; obtain ⟨h', tk, m', nx', i, rfl, hst', F', N', hJ, hi, rfl⟩ := xR1
  have off : ∀ p ∈ nx', p.1 ≠ I := fun p hp e => by
    obtain ⟨o, ho, hc, vs, hd⟩ := hio _ _ hst'
    have h1 := (N' p hp).1
    rw [e, ho] at h1
    rcases hcls _ _ _ hJ p hp with hcl | hcl
    · exact NotIt.absurd hcl (by rw [← Option.some.inj h1]; exact hc) (by rw [← Option.some.inj h1]; exact hd)
    · exact hcl e
  have old0 : ∀ b o, h₀.get? b = some o → b ∉ [I] := fun b o e q => by rw [List.mem_singleton.mp q, hI0] at e; cases e
  have next : ∀ h₁ : Heap, (∀ b o, b ∉ [I] → h'.get? b = some o → h₁.get? b = some o) → Fr h₀ env.locals h₁ m' ∧ News h₀ env.locals h₁ nx' := fun h₁ hk₁ =>
    ⟨⟨F'.ns.at' fun o e => hk₁ _ o (fun q => hIL (List.mem_singleton.mp q).symm) e, fun b o e => hk₁ b o (old0 b o e) (F'.keep b o e), F'.above⟩, fun p hp => ⟨hk₁ _ _ (fun q => off p hp (List.mem_singleton.mp q)) (N' p hp).1, (N' p hp).2⟩⟩
  by_cases hlt : i < n
  · refine W.item i _ _ _ hlt hst' fun v h₁ tk₁ hP hst₁ hk₁ => ?_
    obtain ⟨F₁, N₁⟩ := next h₁ hk₁
    obtain ⟨o, ho, hc, _⟩ := hio _ _ hst₁
    have N₂ : News h₀ env.locals h₁ ((I, o) :: nx') := fun p hp => by
      rcases List.mem_cons.mp hp with rfl | hp
      · exact ⟨ho, hIL, hI0⟩
      · exact N₁ p hp
    have base := turn i v m' nx' h₁ tk₁ o hlt hP hJ hc off F₁ N₂
    show wpAny (model PR w) A (pure ()) _ _ _
    refine wpAny_pure ?_
    refine wpAny_assign_Name ?_
    refine wpAny_passesOwn hE (wpAny_mono base (fun _ s₃ hb => ?_) fun _ _ e => e)
    refine wpAny_mono (wpAny_passesOwn hE hb) (fun f s₄ h₄ => ?_) fun _ _ e => e
    have fin : (∃ h' tk' m₂ nx₂, s₄ = { s₂ with heap := h', toks := tk' } ∧ Fr h₀ env.locals h' m₂ ∧ News h₀ env.locals h' ((I, o) :: nx₂) ∧ J (i + 1) m₂ nx₂) →
        ∃ mm, mm < n + 1 - i ∧ AI s₂ St h₀ env J n mm s₄ := by
      intro xR2; obtain ⟨h₄', tk₄, m₂, nx₂, rfl, F₄, N₄, hJ₄⟩ := xR2
      refine ⟨n + 1 - (i + 1), by omega, h₄', tk₄, m₂, nx₂, i + 1, rfl, ?_, F₄, fun p hp => N₄ p (.tail _ hp), hJ₄, hlt, rfl⟩
      refine W.frame _ _ _ hst₁ fun b hb ob e => ?_
      rcases hfp b hb with rfl | ⟨q, hq⟩ | ⟨q, hq⟩
      · rw [ho] at e
        rw [← Option.some.inj e]
        exact (N₄ _ (.head _)).1
      · have h6 := F₁.keep b q hq
        rw [e] at h6
        rw [Option.some.inj h6]
        exact F₄.keep b q hq
      · have h6 := (N₁ _ (hq i m' nx' hJ)).1
        have h7 : h₁.get? b = some q := h6
        rw [e] at h7
        rw [Option.some.inj h7]
        exact (N₄ _ (.tail _ (hq (i + 1) m₂ nx₂ hJ₄))).1
    cases f with
    | ret v => exact h₄
    | brk => exact h₄
    | next => exact fin h₄
    | cont => exact fin h₄
  · have hin : i = n := by omega
    subst hin
    refine W.done _ _ _ hst' fun h₁ tk₁ hk₁ => wpAny_execs_nil ?_
    obtain ⟨F₁, N₁⟩ := next h₁ hk₁
    exact done m' nx' h₁ tk₁ hJ F₁ N₁

theorem rangeB {r : Addr} {a₀ b₀ : Int} {t₀ u₀ v₀ : Tok} {n : Nat} (J : Nat → (Str → Option Value) → List (Addr × Obj) → Prop)
    (hh : A.handled = none) (hr : IsRange s.heap r a₀ b₀ 1 t₀ u₀ v₀) (hsmall : Builtin.Range.small a₀ b₀ 1 = true) (hn : Builtin.Range.rangeSize a₀ b₀ 1 = (n : Int))
    (F : Fr h₀ env.locals s.heap m₀) (N : News h₀ env.locals s.heap nx₀) (hj : J 0 m₀ nx₀)
    (hcls : ∀ i m nx, J i m nx → ∀ p ∈ nx, NotIt "range_iterator" p.2 ∨ p ∈ nx₀)
    (turn : ∀ (i : Nat) t m₁ nx h tk I o, i < n → J i m₁ nx → o.cls = .type "range_iterator" → (∀ p ∈ nx, p.1 ≠ I) → Fr h₀ env.locals h m₁ → News h₀ env.locals h ((I, o) :: nx) →
      wpAny (model PR w) A (storeName env x (.int (a₀ + (i : Int)) t)) (fun _ s₃ => wpAny (model PR w) A (execs body env) (TurnJ h₀ env.locals (I, o) (J (i + 1)) { s with heap := h, toks := tk } Q) E s₃) E { s with heap := h, toks := tk })
    (done : ∀ m₁ nx h tk, J n m₁ nx → Fr h₀ env.locals h m₁ → News h₀ env.locals h nx → Q .next { s with heap := h, toks := tk }) :
    wpAny (model PR w) A (pyIter (.ref r)) (LoopAny w A h₀ env x px body Q E) E s := by
  refine wpAny_pyIter_range hr hsmall ?_
  have W : Walks PR w A s.heap.objs.size [s.heap.objs.size] [s.heap.objs.size] n (fun i v => i < n ∧ ∃ t, v = .int (a₀ + i * 1) t)
      (fun i h => IsRangeIter h s.heap.objs.size (a₀ + (i : Nat) * 1) ((n : Int) - (i : Nat)) 1) := (Walks.range hh _ a₀ 1 n).bound
  refine ⟨_, _, n, _, _, "range_iterator", m₀, nx₀, J, rfl, W, next_is_new F, ?_, (fun i h st => ⟨_, st, rfl, _, rfl⟩), (fun b hb => .inl (List.mem_singleton.mp hb)), (fun i m nx hJ p hp => (hcls i m nx hJ p hp).imp id fun q => Nat.ne_of_lt (Heap.lt_size (N p q).1)), (by show IsRangeIter _ _ _ _ _; rw [hn]; simpa using Heap.get?_push_size _ rfl), (F.push _), (fun p hp => ⟨Heap.get?_push_of_some _ (N p hp).1, (N p hp).2⟩), hj, ?_, ?_⟩
  · intro hm
    exact absurd F.ns.lt ((List.mem_singleton.mp hm) ▸ Nat.lt_irrefl _)
  · intro i v m₁ nx h tk o hi xR3; obtain ⟨_, t, rfl⟩ := xR3; intro hJ hc hne F₁ N₁
    have e1 : a₀ + (i : Int) * 1 = a₀ + (i : Int) := by omega
    rw [e1]
    exact turn i t m₁ nx h tk _ o hi hJ hc hne F₁ N₁
  · exact done

theorem listB {l : Addr} {vs : List Value} (J : Nat → (Str → Option Value) → List (Addr × Obj) → Prop)
    (hh : A.handled = none) (hl : s.heap.IsList l vs.toArray) (hloc : (∃ q, h₀.get? l = some q) ∨ ∃ q, ∀ i m nx, J i m nx → (l, q) ∈ nx)
    (F : Fr h₀ env.locals s.heap m₀) (N : News h₀ env.locals s.heap nx₀) (hj : J 0 m₀ nx₀)
    (hcls : ∀ i m nx, J i m nx → ∀ p ∈ nx, NotIt "list_iterator" p.2 ∨ p ∈ nx₀)
    (turn : ∀ (i : Nat) v m₁ nx h tk I o, vs[i]? = some v → J i m₁ nx → o.cls = .type "list_iterator" → (∀ p ∈ nx, p.1 ≠ I) → Fr h₀ env.locals h m₁ → News h₀ env.locals h ((I, o) :: nx) →
      wpAny (model PR w) A (storeName env x v) (fun _ s₃ => wpAny (model PR w) A (execs body env) (TurnJ h₀ env.locals (I, o) (J (i + 1)) { s with heap := h, toks := tk } Q) E s₃) E { s with heap := h, toks := tk })
    (done : ∀ m₁ nx h tk, J vs.length m₁ nx → Fr h₀ env.locals h m₁ → News h₀ env.locals h nx → Q .next { s with heap := h, toks := tk }) :
    wpAny (model PR w) A (pyIter (.ref l)) (LoopAny w A h₀ env x px body Q E) E s := by
  obtain ⟨ol, hol, _⟩ := id hl
  have hne : l ≠ s.heap.objs.size := Nat.ne_of_lt (Heap.lt_size hol)
  refine wpAny_pyIter_list hl ?_
  have W := Walks.list (prog := PR) (w := w) hh s.heap.objs.size l hne vs.toArray
  have hlL : l ≠ env.locals := by
    intro e
    rcases hloc with ⟨q, hq⟩ | ⟨q, hq⟩
    · exact absurd (Nat.lt_of_lt_of_le (Heap.lt_size hq) F.above) (e ▸ Nat.lt_irrefl _)
    · exact (N _ (hq _ _ _ hj)).2.1 e
  refine ⟨_, _, _, _, _, "list_iterator", m₀, nx₀, J, rfl, W, next_is_new F, ?_, (fun i h st => let ⟨o, ho, hc, hd⟩ := st.1; ⟨o, ho, hc, _, hd⟩), (fun b hb => ?_), (fun i m nx hJ p hp => (hcls i m nx hJ p hp).imp id fun q => Nat.ne_of_lt (Heap.lt_size (N p q).1)), ⟨⟨_, Heap.get?_push_size _ rfl, rfl, rfl⟩, hl.at fun o e => Heap.get?_push_of_some _ e⟩, (F.push _), (fun p hp => ⟨Heap.get?_push_of_some _ (N p hp).1, (N p hp).2⟩), hj, ?_, ?_⟩
  · intro hm
    rcases List.mem_cons.mp hm with e | hm
    · exact absurd F.ns.lt (e ▸ Nat.lt_irrefl _)
    · exact hlL (List.mem_singleton.mp hm).symm
  · rcases List.mem_cons.mp hb with e | hb
    · exact .inl e
    · rw [List.mem_singleton.mp hb]; exact .inr hloc
  · rintro i v m₁ nx h tk o hi hP hJ hc hne F₁ N₁
    exact turn i v m₁ nx h tk _ o (by simpa using hP) hJ hc hne F₁ N₁
  · intro m₁ nx h tk hJ; exact done m₁ nx h tk (by simpa using hJ)

theorem keysB {d : Addr} {b : List (Key × Int)} (J : Nat → (Str → Option Value) → List (Addr × Obj) → Prop)
    (hh : A.handled = none) (D : Dct w s.heap d b) (hloc : (∃ q, h₀.get? d = some q) ∨ ∃ q, ∀ i m nx, J i m nx → (d, q) ∈ nx)
    (F : Fr h₀ env.locals s.heap m₀) (N : News h₀ env.locals s.heap nx₀) (hj : J 0 m₀ nx₀)
    (hcls : ∀ i m nx, J i m nx → ∀ p ∈ nx, NotIt "dict_keyiterator" p.2 ∨ p ∈ nx₀)
    (turn : ∀ (i : Nat) k key v m₁ nx h tk I o, b[i]? = some (k, v) → (mk w).is k key = true → J i m₁ nx → o.cls = .type "dict_keyiterator" → (∀ p ∈ nx, p.1 ≠ I) → Fr h₀ env.locals h m₁ → News h₀ env.locals h ((I, o) :: nx) →
      wpAny (model PR w) A (storeName env x key) (fun _ s₃ => wpAny (model PR w) A (execs body env) (TurnJ h₀ env.locals (I, o) (J (i + 1)) { s with heap := h, toks := tk } Q) E s₃) E { s with heap := h, toks := tk })
    (done : ∀ m₁ nx h tk, J b.length m₁ nx → Fr h₀ env.locals h m₁ → News h₀ env.locals h nx → Q .next { s with heap := h, toks := tk }) :
    wpAny (model PR w) A (pyIter (.ref d)) (LoopAny w A h₀ env x px body Q E) E s := by
  obtain ⟨vals, ep, ha, rfl⟩ := D.at_
  have hne : d ≠ s.heap.objs.size := Nat.ne_of_lt ha.lt_size
  refine wpAny_pyIter_dict D.1 ha ?_
  have hdL : d ≠ env.locals := by
    intro e
    rcases hloc with ⟨q, hq⟩ | ⟨q, hq⟩
    · exact absurd (Nat.lt_of_lt_of_le (Heap.lt_size hq) F.above) (e ▸ Nat.lt_irrefl _)
    · exact (N _ (hq _ _ _ hj)).2.1 e
  refine ⟨_, _, _, _, _, "dict_keyiterator", m₀, nx₀, J, rfl, Walks.dictKeys (prog := PR) (w := w) (knd := mk w) hh s.heap.objs.size d hne (intPairs vals) ep, next_is_new F, ?_, (fun i h st => let ⟨o, ho, hc, hd⟩ := st.1; ⟨o, ho, hc, _, hd⟩), (fun b hb => ?_), (fun i m nx hJ p hp => (hcls i m nx hJ p hp).imp id fun q => Nat.ne_of_lt (Heap.lt_size (N p q).1)),
    ⟨⟨_, Heap.get?_push_size _ rfl, rfl, rfl⟩, ha.push _⟩, (F.push _), (fun p hp => ⟨Heap.get?_push_of_some _ (N p hp).1, (N p hp).2⟩), hj, ?_, ?_⟩
  · intro hm
    rcases List.mem_cons.mp hm with e | hm
    · exact absurd F.ns.lt (e ▸ Nat.lt_irrefl _)
    · exact hdL (List.mem_singleton.mp hm).symm
  · rcases List.mem_cons.mp hb with e | hb
    · exact .inl e
    · rw [List.mem_singleton.mp hb]; exact .inr hloc
  · intro i v m₁ nx h tk o hi xR4; obtain ⟨k, x', hP, hk⟩ := xR4; intro hJ hc hne F₁ N₁
    obtain ⟨n, t, rfl, hb⟩ := pairs_at hP
    exact turn i k v n m₁ nx h tk _ o hb hk hJ hc hne F₁ N₁
  · intro m₁ nx h tk hJ
    rw [intPairs_length] at hJ
    exact done m₁ nx h tk (by rw [flatV_length]; exact hJ)
theorem rangeA {r : Addr} {a₀ b₀ : Int} {t₀ u₀ v₀ : Tok} {n : Nat} (J : Nat → (Str → Option Value) → List (Addr × Obj) → Prop)
    (hh : A.handled = none) (hr : IsRange s.heap r a₀ b₀ 1 t₀ u₀ v₀) (hsmall : Builtin.Range.small a₀ b₀ 1 = true) (hn : Builtin.Range.rangeSize a₀ b₀ 1 = (n : Int))
    (F : Fr h₀ env.locals s.heap m₀) (N : News h₀ env.locals s.heap nx₀) (hj : J 0 m₀ nx₀)
    (hcls : ∀ i m nx, J i m nx → ∀ p ∈ nx, NotIt "range_iterator" p.2)
    (turn : ∀ (i : Nat) t m₁ nx h tk I o, i < n → J i m₁ nx → o.cls = .type "range_iterator" → (∀ p ∈ nx, p.1 ≠ I) → Fr h₀ env.locals h m₁ → News h₀ env.locals h ((I, o) :: nx) →
      wpAny (model PR w) A (storeName env x (.int (a₀ + (i : Int)) t)) (fun _ s₃ => wpAny (model PR w) A (execs body env) (TurnJ h₀ env.locals (I, o) (J (i + 1)) { s with heap := h, toks := tk } Q) E s₃) E { s with heap := h, toks := tk })
    (done : ∀ m₁ nx h tk, J n m₁ nx → Fr h₀ env.locals h m₁ → News h₀ env.locals h nx → Q .next { s with heap := h, toks := tk }) :
    wpAny (model PR w) A (pyIter (.ref r)) (LoopAny w A h₀ env x px body Q E) E s :=
  rangeB J hh hr hsmall hn F N hj (fun i m nx hJ p hp => .inl (hcls i m nx hJ p hp)) turn done
theorem listA {l : Addr} {vs : List Value} (J : Nat → (Str → Option Value) → List (Addr × Obj) → Prop)
    (hh : A.handled = none) (hl : s.heap.IsList l vs.toArray) (hloc : (∃ q, h₀.get? l = some q) ∨ ∃ q, ∀ i m nx, J i m nx → (l, q) ∈ nx)
    (F : Fr h₀ env.locals s.heap m₀) (N : News h₀ env.locals s.heap nx₀) (hj : J 0 m₀ nx₀)
    (hcls : ∀ i m nx, J i m nx → ∀ p ∈ nx, NotIt "list_iterator" p.2)
    (turn : ∀ (i : Nat) v m₁ nx h tk I o, vs[i]? = some v → J i m₁ nx → o.cls = .type "list_iterator" → (∀ p ∈ nx, p.1 ≠ I) → Fr h₀ env.locals h m₁ → News h₀ env.locals h ((I, o) :: nx) →
      wpAny (model PR w) A (storeName env x v) (fun _ s₃ => wpAny (model PR w) A (execs body env) (TurnJ h₀ env.locals (I, o) (J (i + 1)) { s with heap := h, toks := tk } Q) E s₃) E { s with heap := h, toks := tk })
    (done : ∀ m₁ nx h tk, J vs.length m₁ nx → Fr h₀ env.locals h m₁ → News h₀ env.locals h nx → Q .next { s with heap := h, toks := tk }) :
    wpAny (model PR w) A (pyIter (.ref l)) (LoopAny w A h₀ env x px body Q E) E s :=
  listB J hh hl hloc F N hj (fun i m nx hJ p hp => .inl (hcls i m nx hJ p hp)) turn done
end
end

section
section
variable {w : World} {A : Around} {E : Value → Shared → Prop} {s : Shared} {env : Env} {hb : Heap} {C : Addr} {m : Str → Option Value} {scope : Scope} {cl : List (Str × Addr)}
theorem tests_nil {cenv : Env} {Q : Bool → Shared → Prop} (h : Q true s) : wpAny (model PR w) A (forIn ([] : List PySem.Expr) true fun c r => if r = true then do let ok ← isTrue c cenv (eval c cenv); pure (ForInStep.yield ok) else pure (ForInStep.yield r)) Q E s := wpAny_pure h
theorem tests_one {c : PySem.Expr} {cenv : Env} {Q : Bool → Shared → Prop} (h : wpAny (model PR w) A (isTrue c cenv (eval c cenv)) Q E s) : wpAny (model PR w) A (forIn [c] true fun c r => if r = true then do let ok ← isTrue c cenv (eval c cenv); pure (ForInStep.yield ok) else pure (ForInStep.yield r)) Q E s := by
  simp only [List.forIn_cons, List.forIn_nil, if_true]
  refine wpAny_bind (wpAny_bind (wpAny_mono h (fun ok s₂ h₂ => ?_) fun _ _ e => e))
  exact wpAny_pure (wpAny_pure h₂)
theorem cname_local {y : Str} {pos : Pos} {v : Value} {Q : Value → Shared → Prop} (F : Fr hb C s.heap m) (hv : m y = some v) (h : Q v s)
    (hk : (compEnvC scope cl C env).scope.kind = .function := by rfl) (hx : (compEnvC scope cl C env).kindOf y = some .local := by rfl) (hd : (y == ("__debug__" : Str)) = false := by decide) :
    wpAny (model PR w) A (eval (.Name y pos) (compEnvC scope cl C env)) Q E s := wpAny_Name (wpAny_loadName_local hk hx F.ns hv h) hd
theorem cname_cell {y : Str} {pos : Pos} {v : Value} {c : Addr} {o : Obj} {Q : Value → Shared → Prop} (F : Fr hb C s.heap m) (hc : cl.lookup y = some c) (ho : hb.get? c = some o) (hd : o.data = .cell (some v)) (h : Q v s)
    (hk : (compEnvC scope cl C env).scope.kind = .function := by rfl) (hx : (compEnvC scope cl C env).kindOf y = some .cell := by rfl) (hb' : (y == ("__debug__" : Str)) = false := by decide) :
    wpAny (model PR w) A (eval (.Name y pos) (compEnvC scope cl C env)) Q E s := wpAny_Name (wpAny_loadName_cell hk hx hc ⟨o, F.keep _ _ ho, hd⟩ h) hb'
end
end
theorem fresh_C1 : True := by w_top off; trivial

set_option maxRecDepth 100000 in
set_option maxHeartbeats 8000000 in
theorem count_calls_ok (w : World) (s : Shared) (d : Addr) (b : List (Key × Int)) (D : Dct w s.heap d b) :
    CallOk w 1 56 [.ref d] [] s (fun v _ => ∃ t, v = .int (b.map (·.2)).sum t) := by
  have off_For : True := trivial
  k_dflt (refine' CallOk.intro (binds := [(Str.ofString "callers", .ref d)]) (ho := ?ho) (hcd := ?hcd) (hbind := ?hb) (hloc := ?hl) (hcell := ?hc) (hco := ?h1) (hgen := ?h2) (hk := ?h3) ?_; (case ho => k_is); (case hcd => k_is); (case hb => intro _; exact BindsTo.of_eq rfl); (case hc => decide); (case hl => exact locs rfl); (case h1 => exact rfl); (case h2 => exact rfl); (case h3 => exact rfl); k_whole)
  intro loose mean mg mb dp un gd env outer A₀ base L' h₁ B F X N T hd hu
  (try dsimp only); (try k_fold)
  k_steps
  refine valuesJ (b := b) (fun i m nx => nx = [] ∧ ∃ a t, m (Str.ofString "nc") = some (.int a t) ∧ a = ((b.take i).map (·.2)).sum) rfl ⟨_, (News.get (by assumption) (.head _)), rfl, rfl⟩ (by assumption) (.inl (let ⟨_, o, ho, _⟩ := D; ⟨o, ho⟩)) (by assumption) News.nil ⟨rfl, _, _, rfl, rfl⟩ (by intro i m nx xR1; obtain ⟨rfl, _⟩ := xR1; intro p hp; cases hp) ?_ ?_
  · intro i k v t m₁ nx h tk I o hb xR2; obtain ⟨rfl, a, ta, ha, ea⟩ := xR2; intro hc hne F₁ N₁
    obtain ⟨u, rfl⟩ := fr_self (m := m₁) (ps := [(Str.ofString "nc", .int a ta)]) (by simpa using ha)
    (try k_fold)
    k_steps
    refine TurnJ.next (by assumption) (by assumption) ⟨rfl, _, _, rfl, ?_⟩
    rw [List.take_add_one, hb, ea]
    simp
  · intro m₁ nx h tk xR3; obtain ⟨rfl, a, ta, ha, ea⟩ := xR3; intro F₁ N₁
    obtain ⟨u, rfl⟩ := fr_self (m := m₁) (ps := [(Str.ofString "nc", .int a ta)]) (by simpa using ha)
    dsimp only
    k_steps
    exact RetOk.intro (by assumption) ⟨_, by rw [ea, List.take_length]⟩
theorem fresh_C2 : True := by w_top off; trivial

noncomputable def addStep (acc : List (Key × Int)) (p : Key × Int) : List (Key × Int) := dput acc p.1 (match dget acc p.1 with | some x => x + p.2 | none => p.2)
noncomputable def addC (t s : List (Key × Int)) : List (Key × Int) := s.foldl addStep t
theorem dput_new {b : List (Key × Int)} {k : Key} (v : Int) (h : k ∉ b.map (·.1)) : dput b k v = b ++ [(k, v)] := by
  unfold dput
  rw [if_neg]
  intro q
  obtain ⟨x, hx, e⟩ := List.any_eq_true.mp q
  exact h (List.mem_map.mpr ⟨x, hx, of_decide_eq_true e⟩)
theorem dput_take {b : List (Key × Int)} {i : Nat} {k : Key} {v : Int} (hn : (b.map (·.1)).Nodup) (hb : b[i]? = some (k, v)) : dput (b.take i) k v = b.take (i + 1) := by
  rw [dput_new, List.take_add_one, hb]
  · rfl
  · intro hm
    obtain ⟨q, hq, e⟩ := List.mem_map.mp hm
    obtain ⟨j, hj⟩ := List.mem_iff_getElem?.mp hq
    have hji : j < i := by
      rcases Nat.lt_or_ge j i with h | h
      · exact h
      · rw [List.getElem?_take, if_neg (by omega)] at hj; cases hj
    rw [List.getElem?_take, if_pos hji] at hj
    have h1 : (b.map (·.1))[j]? = some k := by rw [List.getElem?_map, hj, ← e]; rfl
    have h2 : (b.map (·.1))[i]? = some k := by rw [List.getElem?_map, hb]; rfl
    obtain ⟨lj, ej⟩ := List.getElem?_eq_some_iff.mp h1
    obtain ⟨li, ei⟩ := List.getElem?_eq_some_iff.mp h2
    exact absurd (ej.trans ei.symm) (List.pairwise_iff_getElem.mp hn j i lj li hji)
theorem dput_length (b : List (Key × Int)) (k : Key) (v : Int) : (dput b k v).length ≤ b.length + 1 := by
  unfold dput
  split
  · rw [List.length_map]; omega
  · simp
theorem addC_length (t s : List (Key × Int)) : (addC t s).length ≤ t.length + s.length := by
  induction s generalizing t with
  | nil => exact Nat.le_refl _
  | cons p r ih =>
    have h1 := ih (addStep t p)
    have h2 := dput_length t p.1 (match dget t p.1 with | some x => x + p.2 | none => p.2)
    show (addC (addStep t p) r).length ≤ _
    simp only [List.length_cons]
    unfold addStep at h1 ⊢
    omega

inductive AddJ2 (w : World) (tb sb : List (Key × Int)) (i : Nat) (m : Str → Option Value) (nx : List (Addr × Obj)) : Prop
  | intro (d : _) (o : _) (q0 : m (Str.ofString "new_callers") = some (.ref d)) (q1 : nx = [(d, o)]) (q2 : (d == sysModules) = false) (q3 : DObj w o (addC tb (sb.take i))) : AddJ2 w tb sb i m nx
inductive AddJ1 (w : World) (sd : Addr) (tb : List (Key × Int)) (i : Nat) (m : Str → Option Value) (nx : List (Addr × Obj)) : Prop
  | intro (d : _) (o : _) (q0 : m (Str.ofString "new_callers") = some (.ref d)) (q1 : m (Str.ofString "source") = some (.ref sd)) (q2 : nx = [(d, o)]) (q3 : (d == sysModules) = false) (q4 : DObj w o (tb.take i)) : AddJ1 w sd tb i m nx
set_option maxRecDepth 100000 in
set_option maxHeartbeats 8000000 in
theorem add_callers_ok (w : World) (s : Shared) (td sd : Addr) (tb sb : List (Key × Int)) (hlen : tb.length + sb.length ≤ 900) (TD : Dct w s.heap td tb) (SD : Dct w s.heap sd sb) :
    CallOk w 1 49 [.ref td, .ref sd] [] s (fun v h' => ∃ r o, v = .ref r ∧ s.heap.get? r = none ∧ (r == sysModules) = false ∧ h'.get? r = some o ∧ DObj w o (addC tb sb)) := by
  have off_For : True := trivial
  k_dflt (refine' CallOk.intro (binds := [(Str.ofString "target", .ref td), (Str.ofString "source", .ref sd)]) (ho := ?ho) (hcd := ?hcd) (hbind := ?hb) (hloc := ?hl) (hcell := ?hc) (hco := ?h1) (hgen := ?h2) (hk := ?h3) ?_; (case ho => k_is); (case hcd => k_is); (case hb => intro _; exact BindsTo.of_eq rfl); (case hc => decide); (case hl => exact locs rfl); (case h1 => exact rfl); (case h2 => exact rfl); (case h3 => exact rfl); k_whole)
  intro loose mean mg mb dp un gd env outer A₀ base L' h₁ B F X N T hd hu
  (try dsimp only); (try k_fold)
  k_steps
  rename_i dN _ oN _ lo hD0 _ F0 N0 V hh F1 N1 D1
  refine ⟨V, td, tb, _, [(dN, oN)], AddJ1 w sd tb, rfl, ⟨_, N1.get (.head _), rfl, rfl⟩, D1, .inl (let ⟨_, o, ho, _⟩ := TD; ⟨o, ho⟩), F1, (fun p hp => N1 p (.tail _ hp)), ⟨dN, oN, rfl, rfl, rfl, lo, hD0⟩, ?_, ?_, ?_⟩
  · intro i m nx xR1; obtain ⟨d, o, _, _, rfl, _, hD⟩ := xR1; intro p hp
    rw [List.mem_singleton.mp hp]
    show o.cls ≠ _
    rw [hD.cls]; decide
  · intro i k key v t m₁ nx h tk I oI hb hkey xR2; obtain ⟨d, o, hm1, hm2, rfl, lo, hD⟩ := xR2; intro hc hne F₁ N₁
    obtain ⟨u, rfl⟩ := fr_self (m := m₁) (ps := [(Str.ofString "new_callers", .ref d), (Str.ofString "source", .ref sd)]) (by simp [hm1, hm2])
    have hI := neN (hne _ (.head _)).symm
    have hsz : (tb.take i).length ≤ 1000 := by rw [List.length_take]; omega
    (try k_fold)
    k_steps
    refine TurnJ.next (by assumption) (by assumption) ⟨d, _, rfl, rfl, rfl, lo, ?_⟩
    rw [← dput_take (let ⟨_, _, _, hd⟩ := TD; hd.nodup) hb]
    assumption
  · intro m₁ nx h tk xR3; obtain ⟨d, o, hm1, hm2, rfl, lo, hD⟩ := xR3; intro F₁ N₁
    obtain ⟨u, rfl⟩ := fr_self (m := m₁) (ps := [(Str.ofString "new_callers", .ref d), (Str.ofString "source", .ref sd)]) (by simp [hm1, hm2])
    rw [List.take_length] at hD
    dsimp only
    k_steps
    rename_i F0' V' hh' F1' N1' D1'
    refine ⟨V', sd, sb, _, [(d, o)], AddJ2 w tb sb, rfl, ⟨_, N1'.get (.head _), rfl, rfl⟩, D1', .inl (let ⟨_, o, ho, _⟩ := SD; ⟨o, ho⟩), F1', (fun p hp => N1' p (.tail _ hp)), ⟨d, o, rfl, rfl, lo, hD⟩, ?_, ?_, ?_⟩
    · intro i m nx xR4; obtain ⟨d, o, _, rfl, _, hD⟩ := xR4; intro p hp
      rw [List.mem_singleton.mp hp]
      show o.cls ≠ _
      rw [hD.cls]; decide
    · intro i k key v t m₁ nx h tk I oI hb hkey xR5; obtain ⟨d, o, hm1, rfl, lo, hD⟩ := xR5; intro hc hne F₁ N₁
      obtain ⟨u, rfl⟩ := fr_self (m := m₁) (ps := [(Str.ofString "new_callers", .ref d)]) (by simp [hm1])
      have hI := neN (hne _ (.head _)).symm
      have hsz : (addC tb (sb.take i)).length ≤ 1000 := by have := addC_length tb (sb.take i); rw [List.length_take] at this; omega
      have hst : addC tb (sb.take (i + 1)) = addStep (addC tb (sb.take i)) (k, v) := by unfold addC; rw [List.take_add_one, hb, List.foldl_append]; rfl
      cases hg : dget (addC tb (sb.take i)) k with
      | some x =>
        (try k_fold)
        k_steps
        all_goals first
          | exact absurd (show (dget (addC tb (sb.take i)) k).isSome = false by assumption) (by simp [hg])
          | (refine TurnJ.next (by assumption) (by assumption) ⟨d, _, rfl, rfl, lo, ?_⟩; rw [hst]; unfold addStep; dsimp only; rw [hg]; assumption)
      | none =>
        (try k_fold)
        k_steps
        all_goals first
          | exact absurd (show (dget (addC tb (sb.take i)) k).isSome = true by assumption) (by simp [hg])
          | (refine TurnJ.next (by assumption) (by assumption) ⟨d, _, rfl, rfl, lo, ?_⟩; rw [hst]; unfold addStep; dsimp only; rw [hg]; assumption)
    · intro m₁ nx h tk xR6; obtain ⟨d, o, hm1, rfl, lo, hD⟩ := xR6; intro F₁ N₁
      obtain ⟨u, rfl⟩ := fr_self (m := m₁) (ps := [(Str.ofString "new_callers", .ref d)]) (by simp [hm1])
      rw [List.take_length] at hD
      dsimp only
      k_steps
      refine RetOk.intro (by assumption) ⟨d, o, rfl, (N₁ _ (.head _)).2.2, lo, (N₁ _ (.head _)).1, hD⟩
theorem fresh_C3 : True := by w_top off; trivial

noncomputable def countLt (ns : List Int) (x : Int) : Nat := (ns.filter (fun y => decide (y < x))).length
noncomputable def countLe (ns : List Int) (x : Int) : Nat := (ns.filter (fun y => decide (y ≤ x))).length
theorem geti_eq {ns : List Int} {i : Nat} (h : i < ns.length) : geti ns (i : Int) = ns[i] := by
  unfold geti
  rw [List.getD_eq_getElem?_getD, Int.toNat_natCast, List.getElem?_eq_getElem h]; rfl
theorem sorted_le {ns : List Int} (hs : ns.Pairwise (· ≤ ·)) {i j : Nat} (hij : i ≤ j) (hj : j < ns.length) : geti ns (i : Int) ≤ geti ns (j : Int) := by
  rw [geti_eq (by omega), geti_eq hj]
  rcases Nat.eq_or_lt_of_le hij with e | e
  · subst e; exact Int.le_refl _
  · exact List.pairwise_iff_getElem.mp hs i j (by omega) hj e
theorem filter_split {ns : List Int} {p : Int → Bool} {k : Nat} (hk : k ≤ ns.length) (h1 : ∀ j : Nat, j < k → p (geti ns j) = true) (h2 : ∀ j : Nat, k ≤ j → j < ns.length → p (geti ns j) = false) : (ns.filter p).length = k := by
  have e : ns.filter p = ns.take k := by
    conv => lhs; rw [← List.take_append_drop k ns]
    rw [List.filter_append]
    have a : (ns.take k).filter p = ns.take k := by
      rw [List.filter_eq_self]
      intro x hx
      obtain ⟨j, hj, rfl⟩ := List.mem_iff_getElem.mp hx
      rw [List.length_take] at hj
      rw [List.getElem_take, ← geti_eq (by omega)]
      exact h1 j (by omega)
    have b : (ns.drop k).filter p = [] := by
      rw [List.filter_eq_nil_iff]
      intro x hx
      obtain ⟨j, hj, rfl⟩ := List.mem_iff_getElem.mp hx
      rw [List.length_drop] at hj
      rw [List.getElem_drop, ← geti_eq (by omega), h2 (k + j) (by omega) (by omega)]
      exact Bool.false_ne_true
    rw [a, b, List.append_nil]
  rw [e, List.length_take]; omega
theorem countLt_of {ns : List Int} {x lo : Int} (h0 : 0 ≤ lo) (h1 : lo ≤ (ns.length : Int)) (h3 : ∀ j : Nat, (j : Int) < lo → geti ns j < x) (h4 : ∀ j : Nat, lo ≤ (j : Int) → j < ns.length → ¬ geti ns j < x) : ((countLt ns x : Nat) : Int) = lo := by
  have := filter_split (ns := ns) (p := fun y => decide (y < x)) (k := lo.toNat) (by omega) (fun j hj => decide_eq_true (h3 j (by omega))) (fun j hj hj2 => decide_eq_false (h4 j (by omega) hj2))
  unfold countLt
  rw [this]; omega
theorem countLe_of {ns : List Int} {x lo : Int} (h0 : 0 ≤ lo) (h1 : lo ≤ (ns.length : Int)) (h3 : ∀ j : Nat, (j : Int) < lo → ¬ x < geti ns j) (h4 : ∀ j : Nat, lo ≤ (j : Int) → j < ns.length → x < geti ns j) : ((countLe ns x : Nat) : Int) = lo := by
  have := filter_split (ns := ns) (p := fun y => decide (y ≤ x)) (k := lo.toNat) (by omega) (fun j hj => decide_eq_true (Int.not_lt.mp (h3 j (by omega)))) (fun j hj hj2 => decide_eq_false (Int.not_le.mpr (h4 j (by omega) hj2)))
  unfold countLe
  rw [this]; omega
inductive BisL (s : Shared) (L' l : Addr) (ns : List Int) (x : Int) (t : Tok) (n : Nat) (s' : Shared) : Prop
  | intro (lo hi : Int) (t1 t2 : Tok) (h' : Heap) (tk' : Nat) (u : Str → Option Value) (q0 : s' = { s with heap := h', toks := tk' }) (q1 : Fr s.heap L' h' (fr [(Str.ofString "a", .ref l), (Str.ofString "x", .int x t), (Str.ofString "lo", .int lo t1), (Str.ofString "hi", .int hi t2)] u)) (q2 : News s.heap L' h' []) (q3 : 0 ≤ lo) (q4 : lo ≤ hi) (q5 : hi ≤ (ns.length : Int)) (q6 : (∀ j : Nat, (j : Int) < lo → geti ns j < x)) (q7 : (∀ j : Nat, hi ≤ (j : Int) → j < ns.length → ¬ geti ns j < x)) (q8 : n = (hi - lo).toNat) : BisL s L' l ns x t n s'
set_option maxRecDepth 100000 in
set_option maxHeartbeats 8000000 in
theorem bisect_left_ok (w : World) (s : Shared) (l : Addr) (ns : List Int) (x : Int) (t : Tok) (hlen : ns.length ≤ 100) (D : Lst s.heap l ns) (hs : ns.Pairwise (· ≤ ·)) :
    CallOk w 1 83 [.ref l, .int x t] [] s (fun v _ => ∃ t, v = .int (countLt ns x : Nat) t) := by
  k_dflt (refine' CallOk.intro (ho := ?ho) (hcd := ?hcd) (hbind := ?hb) (hloc := ?hl) (hcell := ?hc) (hco := ?h1) (hgen := ?h2) (hk := ?h3) ?_; (case ho => k_is); (case hcd => k_is); (case hb => intro X9; exact kp_binds X9 (fun _ => rfl)); (case hc => decide); (case hl => exact locs rfl); (case h1 => exact rfl); (case h2 => exact rfl); (case h3 => exact rfl); k_whole)
  intro loose mean mg mb dp un gd env outer A₀ base L' h₁ B F X N T hd hu
  (try dsimp only); (try k_fold)
  k_steps
  refine Stop.off ?_
  refine while_inv (BisL s L' l ns x t) (by passes_own) ?_ ns.length ?_
  · intro n s' xR1; obtain ⟨lo, hi, t1, t2, h', tk', u, rfl, F', N', h0, h1, h2, h3, h4, rfl⟩ := xR1
    (try k_fold)
    k_steps
    by_cases hlt : lo < hi
    · refine WhlIf.yes (decide_eq_true hlt) ?_
      have e2 : (lo + hi).fdiv 2 = (lo + hi) / 2 := Int.fdiv_eq_ediv_of_nonneg _ (by omega)
      have hmA : lo ≤ (lo + hi).fdiv 2 := by omega
      have hmB : (lo + hi).fdiv 2 < hi := by omega
      (try k_fold)
      k_steps
      · (with_reducible rename Fr _ _ _ _ => F9); (with_reducible rename News _ _ _ _ => N9); (with_reducible rename geti ns _ < x => hq)
        obtain ⟨u', F8⟩ := fr_of F9 [(Str.ofString "a", .ref l), (Str.ofString "x", .int x t), (Str.ofString "lo", .int ((lo + hi).fdiv 2 + 1) _), (Str.ofString "hi", .int hi t2)] ⟨rfl, rfl, rfl, rfl, trivial⟩
        refine ⟨(hi - ((lo + hi).fdiv 2 + 1)).toNat, by omega, _, _, _, _, _, _, u', rfl, F8, N9, by omega, by omega, by omega, fun j hj => ?_, h4, rfl⟩
        have := sorted_le hs (i := j) (j := ((lo + hi).fdiv 2).toNat) (by omega) (by omega)
        have e : (((lo + hi).fdiv 2).toNat : Int) = (lo + hi).fdiv 2 := by omega
        rw [e] at this
        omega
      · (with_reducible rename Fr _ _ _ _ => F9); (with_reducible rename News _ _ _ _ => N9); (rename ¬ _ => hq)
        obtain ⟨u', F8⟩ := fr_of F9 [(Str.ofString "a", .ref l), (Str.ofString "x", .int x t), (Str.ofString "lo", .int lo t1), (Str.ofString "hi", .int ((lo + hi).fdiv 2) _)] ⟨rfl, rfl, rfl, rfl, trivial⟩
        refine ⟨((lo + hi).fdiv 2 - lo).toNat, by omega, _, _, _, _, _, _, u', rfl, F8, N9, by omega, by omega, by omega, h3, fun j hj hj2 => ?_, rfl⟩
        have := sorted_le hs (i := ((lo + hi).fdiv 2).toNat) (j := j) (by omega) (by omega)
        have e : (((lo + hi).fdiv 2).toNat : Int) = (lo + hi).fdiv 2 := by omega
        rw [e] at this
        omega
    · refine WhlIf.no (decide_eq_false hlt) ?_
      (try k_fold)
      k_steps
      have elo := countLt_of (ns := ns) (x := x) (lo := lo) h0 (by omega) h3 (fun j hj hj2 => h4 j (by omega) hj2)
      refine RetOk.intro (by assumption) ⟨t1, ?_⟩
      rw [elo]
  · (with_reducible rename Fr _ _ _ _ => F9); (with_reducible rename News _ _ _ _ => N9)
    obtain ⟨u, F8⟩ := fr_of F9 [(Str.ofString "a", .ref l), (Str.ofString "x", .int x t), (Str.ofString "lo", .int 0 _), (Str.ofString "hi", .int (ns.length : Nat) _)] ⟨rfl, rfl, rfl, rfl, trivial⟩
    exact ⟨0, _, _, _, _, _, u, rfl, F8, N9, Int.le_refl 0, by omega, by omega, by omega, by omega, by omega⟩
theorem fresh_C4 : True := by w_top off; trivial

inductive BisR (s : Shared) (L' l : Addr) (ns : List Int) (x : Int) (t : Tok) (n : Nat) (s' : Shared) : Prop
  | intro (lo hi : Int) (t1 t2 : Tok) (h' : Heap) (tk' : Nat) (u : Str → Option Value) (q0 : s' = { s with heap := h', toks := tk' }) (q1 : Fr s.heap L' h' (fr [(Str.ofString "a", .ref l), (Str.ofString "x", .int x t), (Str.ofString "lo", .int lo t1), (Str.ofString "hi", .int hi t2)] u)) (q2 : News s.heap L' h' []) (q3 : 0 ≤ lo) (q4 : lo ≤ hi) (q5 : hi ≤ (ns.length : Int)) (q6 : (∀ j : Nat, (j : Int) < lo → ¬ x < geti ns j)) (q7 : (∀ j : Nat, hi ≤ (j : Int) → j < ns.length → x < geti ns j)) (q8 : n = (hi - lo).toNat) : BisR s L' l ns x t n s'
set_option maxRecDepth 100000 in
set_option maxHeartbeats 8000000 in
theorem bisect_right_ok (w : World) (s : Shared) (l : Addr) (ns : List Int) (x : Int) (t : Tok) (hlen : ns.length ≤ 100) (D : Lst s.heap l ns) (hs : ns.Pairwise (· ≤ ·)) :
    CallOk w 1 65 [.ref l, .int x t] [] s (fun v _ => ∃ t, v = .int (countLe ns x : Nat) t) := by
  k_dflt (refine' CallOk.intro (ho := ?ho) (hcd := ?hcd) (hbind := ?hb) (hloc := ?hl) (hcell := ?hc) (hco := ?h1) (hgen := ?h2) (hk := ?h3) ?_; (case ho => k_is); (case hcd => k_is); (case hb => intro X9; exact kp_binds X9 (fun _ => rfl)); (case hc => decide); (case hl => exact locs rfl); (case h1 => exact rfl); (case h2 => exact rfl); (case h3 => exact rfl); k_whole)
  intro loose mean mg mb dp un gd env outer A₀ base L' h₁ B F X N T hd hu
  (try dsimp only); (try k_fold)
  k_steps
  refine Stop.off ?_
  refine while_inv (BisR s L' l ns x t) (by passes_own) ?_ ns.length ?_
  · intro n s' xR1; obtain ⟨lo, hi, t1, t2, h', tk', u, rfl, F', N', h0, h1, h2, h3, h4, rfl⟩ := xR1
    (try k_fold)
    k_steps
    by_cases hlt : lo < hi
    · refine WhlIf.yes (decide_eq_true hlt) ?_
      have e2 : (lo + hi).fdiv 2 = (lo + hi) / 2 := Int.fdiv_eq_ediv_of_nonneg _ (by omega)
      have hmA : lo ≤ (lo + hi).fdiv 2 := by omega
      have hmB : (lo + hi).fdiv 2 < hi := by omega
      (try k_fold)
      k_steps
      · (with_reducible rename Fr _ _ _ _ => F9); (with_reducible rename News _ _ _ _ => N9); (with_reducible rename x < geti ns _ => hq)
        obtain ⟨u', F8⟩ := fr_of F9 [(Str.ofString "a", .ref l), (Str.ofString "x", .int x t), (Str.ofString "lo", .int lo t1), (Str.ofString "hi", .int ((lo + hi).fdiv 2) _)] ⟨rfl, rfl, rfl, rfl, trivial⟩
        refine ⟨((lo + hi).fdiv 2 - lo).toNat, by omega, _, _, _, _, _, _, u', rfl, F8, N9, by omega, by omega, by omega, h3, fun j hj hj2 => ?_, rfl⟩
        have := sorted_le hs (i := ((lo + hi).fdiv 2).toNat) (j := j) (by omega) (by omega)
        have e : (((lo + hi).fdiv 2).toNat : Int) = (lo + hi).fdiv 2 := by omega
        rw [e] at this
        omega
      · (with_reducible rename Fr _ _ _ _ => F9); (with_reducible rename News _ _ _ _ => N9); (rename ¬ _ => hq)
        obtain ⟨u', F8⟩ := fr_of F9 [(Str.ofString "a", .ref l), (Str.ofString "x", .int x t), (Str.ofString "lo", .int ((lo + hi).fdiv 2 + 1) _), (Str.ofString "hi", .int hi t2)] ⟨rfl, rfl, rfl, rfl, trivial⟩
        refine ⟨(hi - ((lo + hi).fdiv 2 + 1)).toNat, by omega, _, _, _, _, _, _, u', rfl, F8, N9, by omega, by omega, by omega, fun j hj => ?_, h4, rfl⟩
        have := sorted_le hs (i := j) (j := ((lo + hi).fdiv 2).toNat) (by omega) (by omega)
        have e : (((lo + hi).fdiv 2).toNat : Int) = (lo + hi).fdiv 2 := by omega
        rw [e] at this
        omega
    · refine WhlIf.no (decide_eq_false hlt) ?_
      (try k_fold)
      k_steps
      have elo := countLe_of (ns := ns) (x := x) (lo := lo) h0 (by omega) h3 (fun j hj hj2 => h4 j (by omega) hj2)
      refine RetOk.intro (by assumption) ⟨t1, ?_⟩
      rw [elo]
  · (with_reducible rename Fr _ _ _ _ => F9); (with_reducible rename News _ _ _ _ => N9)
    obtain ⟨u, F8⟩ := fr_of F9 [(Str.ofString "a", .ref l), (Str.ofString "x", .int x t), (Str.ofString "lo", .int 0 _), (Str.ofString "hi", .int (ns.length : Nat) _)] ⟨rfl, rfl, rfl, rfl, trivial⟩
    exact ⟨0, _, _, _, _, _, u, rfl, F8, N9, Int.le_refl 0, by omega, by omega, by omega, by omega, by omega⟩

noncomputable def CallUpd (w : World) (n : Nat) (f : Addr) (vs : List Value) (kw : List (Str × Value)) (s : Shared) (a : Addr) (R : Value → Obj → Heap → Prop) : Prop :=
  ∀ (loose : List Str) (mean : ExcName → Option Value) (mg mb : Str → Option Value) (dp un : Nat) (gd : Option (List Code)) (cn : Str) (cs : Scope) (fa : Addr) (ccd : Value) (cl : List (Str × Addr)) (outer : List Env) (A₀ : Around) (base h₀ : Heap) (L : Addr) (m : Str → Option Value) (o : Obj)
    (Q E : Value → Shared → Prop),
    Below A₀ base outer h₀ → Fr h₀ L s.heap m → (Mine.hd.heap_1 w.params).In h₀ → Top topProg loose mean mg mb h₀ → cs.kind = .function → dp + n < recursionLimit → un + 8 * n + 200 < cLine → s.heap.get? a = some o → a ≠ L → h₀.get? a = none →
    (∀ v h' tk' o', (∀ b o, b ≠ a → s.heap.get? b = some o → h'.get? b = some o) → h'.get? a = some o' → R v o' h' → Q v { s with heap := h', toks := tk' }) →
    wpAny (model PR w) (ktrTop dp un gd cn cs L fa ccd cl outer) (call (.ref f) vs kw) Q E s

noncomputable def RetUpd (s : Shared) (a : Addr) (R : Value → Obj → Heap → Prop) (fl : Flow) (s' : Shared) : Prop :=
  ∃ h' tk' o', s' = { s with heap := h', toks := tk' } ∧ (∀ b o, b ≠ a → s.heap.get? b = some o → h'.get? b = some o) ∧ h'.get? a = some o' ∧ R (match fl with | .ret v => v | _ => .none) o' h'
theorem upd_keep {g h₁ h' : Heap} {L a : Addr} {m : Str → Option Value} (F : Fr g L h' m) (hg : g = hideAll h₁ [a]) : ∀ b o, b ≠ a → h₁.get? b = some o → h'.get? b = some o := fun b o hb e =>
  F.keep b o (hg ▸ hideAll_get [a] e (fun q => hb (List.mem_singleton.mp q)))
theorem RetUpd.intro {s : Shared} {a : Addr} {R : Value → Obj → Heap → Prop} {v : Value} {g h' : Heap} {tk' : Nat} {L : Addr} {m : Str → Option Value} {o' : Obj} {nx : List (Addr × Obj)} (hg : g = hideAll s.heap [a]) (F : Fr g L h' m) (N : News g L h' nx) (hm : (a, o') ∈ nx) (h : R v o' h') : RetUpd s a R (.ret v) { s with heap := h', toks := tk' } :=
  ⟨h', tk', o', rfl, upd_keep F hg, (N _ hm).1, h⟩
theorem RetUpd.introN {s : Shared} {a : Addr} {R : Value → Obj → Heap → Prop} {g h' : Heap} {tk' : Nat} {L : Addr} {m : Str → Option Value} {o' : Obj} {nx : List (Addr × Obj)} (hg : g = hideAll s.heap [a]) (F : Fr g L h' m) (N : News g L h' nx) (hm : (a, o') ∈ nx) (h : R .none o' h') : RetUpd s a R .next { s with heap := h', toks := tk' } :=
  ⟨h', tk', o', rfl, upd_keep F hg, (N _ hm).1, h⟩

theorem CallUpd.intro {w : World} {n : Nat} {f : Addr} {vs : List Value} {kw : List (Str × Value)} {s : Shared} {a : Addr} {R : Value → Obj → Heap → Prop}
    {name qual : Str} {params : Arguments} {body : List Stmt} {scope : Scope} {dV kV doc pm cdv ct oc : Value} {an od : Option Addr} {osl : Array (Option Value)} {binds : List (Str × Value)}
    (ho : (Mine.hd.heap_1 w.params).lookup f = some ⟨oc, od, .func (fnOf name qual params body scope dV kV doc pm an cdv ct), osl⟩) (hcd : codeIn (Mine.hd.heap_1 w.params) cdv qual = true)
    (hbind : (Mine.hd.heap_1 w.params).In s.heap → BindsTo s (fnOf name qual params body scope dV kV doc pm an cdv ct) ⟨vs, kw⟩ binds) (hloc : ∀ y ∈ binds, scope.names.lookup y.1 = some .local)
    (hcell : ∀ x ∈ scope.names, x.2 ≠ .cell) (hco : scope.isCoroutine = false) (hgen : scope.isGenerator = false) (hk : scope.kind = .function)
    (h : ∀ (loose : List Str) (mean : ExcName → Option Value) (mg mb : Str → Option Value) (dp un : Nat) (gd : Option (List Code)) (env : Env) (outer : List Env) (A₀ : Around) (base g : Heap) (L' : Addr) (h₁ : Heap) (o : Obj), g = hideAll s.heap [a] → s.heap.get? a = some o →
      Below A₀ base (env :: outer) g → Fr g L' h₁ (fun y => binds.reverse.lookup y) → (Mine.hd.heap_1 w.params).In g → News g L' h₁ [(a, o)] → Top topProg loose mean mg mb g → dp + n < recursionLimit → un + 8 * n + 200 < cLine →
      wpAny (model PR w) (ktrTop dp un gd qual scope L' f cdv [] (env :: outer)) (execs body (envOf qual scope L' f cdv)) (RetUpd s a R) (fun _ _ => False) { s with heap := h₁, toks := s.toks + binds.length }) :
    CallUpd w (n + 1) f vs kw s a R := by
  intro loose mean mg mb dp un gd cn cs fa ccd cl outer A₀ base h₀ L m o Q E B F X T hks hd hu hoa haL ha0 hret
  have Xs : (Mine.hd.heap_1 w.params).In s.heap := X.keeps F.keep
  have N₀ : News h₀ L s.heap [(a, o)] := fun p hp => by rw [List.mem_singleton.mp hp]; exact ⟨hoa, haL, ha0⟩
  have nm : ∀ b o, h₀.get? b = some o → b ∉ [a] := fun b o e q => by rw [List.mem_singleton.mp q, ha0] at e; cases e
  have st : ∀ b o, h₀.get? b = some o → (hideAll s.heap [a]).get? b = some o := fun b o e => hideAll_get _ (F.keep b o e) (nm b o e)
  have B₁ := pushX (env := envX cn cs L fa ccd cl) B F rfl hks
  have B₂ : Below ((ktrTop dp un gd cn cs L fa ccd cl outer)) base (envX cn cs L fa ccd cl :: outer) (hideAll s.heap [a]) :=
    (groundX (s := s) (A := ktrTop dp un gd cn cs L fa ccd cl outer) (env := envX cn cs L fa ccd cl) (R := fun _ _ => True) B F N₀ rfl rfl hks).2.1
  refine wpAny_call ?_
  refine codeAny_call_def (fd := fnOf name qual params body scope dV kV doc pm an cdv ct) (body := body) (binds := binds) (by show dp < recursionLimit; omega) (Xs _ _ ho) rfl (T.nolimit.keeps F.keep) (codeRec_of Xs hcd) rfl (hbind Xs) hcell hloc (fun h₁ hns hk₁ => ?_) hco hgen hk
  have aN : a ≠ s.heap.objs.size := Nat.ne_of_lt (Heap.lt_size hoa)
  refine wpAny_mono (h loose mean mg mb (dp + 1) (un + 3) gd (envX cn cs L fa ccd cl) outer _ base _ s.heap.objs.size h₁ o rfl hoa B₂ ⟨hns, fun b o e => hk₁ b o (of_hideAll _ e), Nat.le_of_eq (hideAll_size _ _)⟩ (X.keeps st) (fun p hp => ?_) (T.keeps st) (by omega) (by omega)) (fun fl s' hl => ?_) fun _ _ x => x.elim
  · rw [List.mem_singleton.mp hp]
    exact ⟨hk₁ _ _ hoa, aN, hideAll_none [a] (.head _)⟩
  obtain ⟨h', tk', o', rfl, hkeep, hr⟩ := hl
  exact hret _ h' tk' o' hkeep hr.1 hr.2

theorem CallUpd.use {w : World} {n : Nat} {f : Addr} {vs : List Value} {kw : List (Str × Value)} {s : Shared} {a : Addr} {o : Obj} {R : Value → Obj → Heap → Prop} {loose : List Str} {mean : ExcName → Option Value} {mg mb : Str → Option Value} {dp un : Nat} {gd : Option (List Code)} {cn : Str} {cs : Scope} {fa : Addr} {ccd : Value} {cl : List (Str × Addr)} {outer : List Env} {A₀ : Around} {base h₀ : Heap} {L : Addr} {m : Str → Option Value} {news : List (Addr × Obj)} {g : Obj → List (Addr × Obj)}
    {Q E : Value → Shared → Prop} (C : CallUpd w n f vs kw s a R) (B : Below A₀ base outer h₀) (F : Fr h₀ L s.heap m) (X : (Mine.hd.heap_1 w.params).In h₀) (N : News h₀ L s.heap news) (U : UpdF a o news g) (T : Top topProg loose mean mg mb h₀) (hk : cs.kind = .function) (hd : dp + n < recursionLimit) (hu : un + 8 * n + 200 < cLine)
    (hret : ∀ v h' tk' o', Fr h₀ L h' m → News h₀ L h' (g o') → (∀ b o, b ≠ a → s.heap.get? b = some o → h'.get? b = some o) → R v o' h' → Q v { s with heap := h', toks := tk' }) :
    wpAny (model PR w) (ktrTop dp un gd cn cs L fa ccd cl outer) (call (.ref f) vs kw) Q E s := by
  obtain ⟨own, rest, rfl, hg, h1, h2⟩ := U.split
  have hmem := N (a, o) (List.mem_append_right _ (.head _))
  refine C loose mean mg mb dp un gd cn cs fa ccd cl outer A₀ base h₀ L m o Q E B F X T hk hd hu hmem.1 hmem.2.1 hmem.2.2 fun v h' tk' o' k ho' r => ?_
  refine hret v h' tk' o' ⟨F.ns.at' fun o e => k _ o (Ne.symm hmem.2.1) e, fun b ob e => k b ob (fun q => by rw [q, hmem.2.2] at e; cases e) (F.keep b ob e), F.above⟩ (hg o' ▸ fun p hp => ?_) k r
  rcases List.mem_append.mp hp with hp | hp
  · exact ⟨k _ _ (h1 p hp) (N p (List.mem_append_left _ hp)).1, (N p (List.mem_append_left _ hp)).2⟩
  · rcases List.mem_cons.mp hp with rfl | hp
    · exact ⟨ho', hmem.2.1, hmem.2.2⟩
    · exact ⟨k _ _ (h2 p hp) (N p (List.mem_append_right _ (.tail _ hp))).1, (N p (List.mem_append_right _ (.tail _ hp))).2⟩

section
theorem fr_nil {h₀ h : Heap} {L : Addr} {m : Str → Option Value} (_F : Fr h₀ L h m) : News h₀ L h [] := News.nil
theorem rangeKs_succ (a : Int) (i : Nat) : rangeKs a (i + 1) = rangeKs a i ++ [a + (i : Int)] := by
  unfold rangeKs; rw [List.range_succ, List.map_append]; rfl
noncomputable def subs (all : List (Addr × Obj)) : List (Addr × Obj) → Prop
  | [] => True
  | p :: r => p ∈ all ∧ subs all r
theorem subs_mem {all : List (Addr × Obj)} : ∀ {l : List (Addr × Obj)}, subs all l → ∀ p ∈ l, p ∈ all
  | [], _, _, h => nomatch h
  | _ :: _, x, p, h => by
    rcases List.mem_cons.mp h with rfl | h
    · exact x.1
    · exact subs_mem x.2 p h
theorem News.subs {h₀ h : Heap} {L : Addr} {all l : List (Addr × Obj)} (N : News h₀ L h all) (s : subs all l) : News h₀ L h l := fun p hp => N p (subs_mem s p hp)
theorem TurnJ.nextS {h₀ : Heap} {Q : Flow → Shared → Prop} {L : Addr} {p : Addr × Obj} {Jn : (Str → Option Value) → List (Addr × Obj) → Prop} {s₁ : Shared} {h' : Heap} {tk : Nat} {m' : Str → Option Value} {all : List (Addr × Obj)} (nx' : List (Addr × Obj)) (F : Fr h₀ L h' m') (N : News h₀ L h' all) (s : subs all (p :: nx')) (j : Jn m' nx') :
    TurnJ h₀ L p Jn s₁ Q .next { s₁ with heap := h', toks := tk } := ⟨h', tk, m', nx', rfl, F, Mine.News.subs N s, j⟩
theorem TurnJ.contS {h₀ : Heap} {Q : Flow → Shared → Prop} {L : Addr} {p : Addr × Obj} {Jn : (Str → Option Value) → List (Addr × Obj) → Prop} {s₁ : Shared} {h' : Heap} {tk : Nat} {m' : Str → Option Value} {all : List (Addr × Obj)} (nx' : List (Addr × Obj)) (F : Fr h₀ L h' m') (N : News h₀ L h' all) (s : subs all (p :: nx')) (j : Jn m' nx') :
    TurnJ h₀ L p Jn s₁ Q .cont { s₁ with heap := h', toks := tk } := ⟨h', tk, m', nx', rfl, F, Mine.News.subs N s, j⟩
theorem lst_led0 {h₀ h : Heap} {L l : Addr} {nx : List (Addr × Obj)} {n : Nat} (N : News h₀ L h nx) (hm : (l, listOf #[] n) ∈ nx) : Lst h l [] := ⟨[], ⟨_, (N _ hm).1, rfl, _, rfl⟩, .nil⟩
section
variable {w : World} {A : Around} {E : Value → Shared → Prop} {s : Shared} {h₀ : Heap} {L l k : Addr} {m : Str → Option Value} {nx : List (Addr × Obj)} {ns ms : List Int}
theorem lst_ne {Q : Value → Shared → Prop} (hl : Lst s.heap l ns) (hk : Lst s.heap k ms) (hu : A.units + 64 < cLine) (h : Q (.bool (!decide (ns = ms))) s) : wpAny (model PR w) A (compareOp .NotEq (.ref l) (.ref k)) Q E s := by
  obtain ⟨vs, hl, hi⟩ := hl
  obtain ⟨us, hk, hj⟩ := hk
  exact ke_ne_ints hl hk hi hj hu h
theorem lst_last {value slice : PySem.Expr} {u : Tok} {Q : Value → Shared → Prop} (hl : Lst s.heap l ns) (hne : ns ≠ []) (hz : ns.length ≤ 1000) (h : ∀ t, Q (.int (ns.getLastD 0) t) s)
    (hs : subscripted slice false (.ref l) (.int (-1) u) = operate [.ref l, .int (-1) u] (getItem (.ref l) (.int (-1) u)) := by with_unfolding_all rfl) (hg : ∀ r, letTemporaryGo value (.ref l) r = pure () := by intro _; with_unfolding_all rfl) :
    wpAny (model PR w) A (subscriptTail value slice (.ref l) (.int (-1) u)) Q E s := by
  have hpos : 0 < ns.length := List.length_pos_iff.mpr hne
  refine subscriptTail_builtin (let ⟨_, hl, _⟩ := hl; hl.typeIs) slot_list_getitem.lookup ?_ hs hg
  obtain ⟨vs, hl, hi⟩ := hl
  have hlen := hi.length
  obtain ⟨t, hx⟩ := hi.get (ns.length - 1) (ns.getLastD 0) (by
    rw [List.getElem?_eq_getElem (by omega)]
    have : ns.getLastD 0 = ns.getLast hne := by cases ns with | nil => exact absurd rfl hne | cons a r => simp [List.getLastD, List.getLast?_eq_getLast]
    rw [this, List.getLast_eq_getElem])
  have e1 : ((-1 : Int) + (vs.toArray.size : Nat)).toNat = ns.length - 1 := by rw [List.size_toArray]; omega
  refine wpAny_getItem_list_neg hl (by decide) (by rw [List.size_toArray]; omega) (by decide) ?_ (h t)
  rw [e1]
  simpa using hx
noncomputable def cut (lo hi : Option Int) (ns : List Int) : List Int := (ns.drop (kms_lo lo ns.length)).take (kms_hi hi ns.length - kms_lo lo ns.length)
theorem lst_slice {value slice : PySem.Expr} {vl vu : Value} {lo hi : Option Int} {Q : Value → Shared → Prop} (F : Fr h₀ L s.heap m) (N : News h₀ L s.heap nx) (hl : Lst s.heap l ns) (hz : ns.length ≤ 1000) (pl : IsPart vl lo) (pu : IsPart vu hi)
    (h : ∀ D vs h', Fr h₀ L h' m → News h₀ L h' ((D, listOf (List.toArray vs) 0) :: nx) → (∀ p ∈ nx, p.1 < D) → IntsAre vs (cut lo hi ns) → (∀ b o, s.heap.get? b = some o → h'.get? b = some o) → Q (.ref D) { s with heap := h' })
    (hs : subscripted slice false (.ref l) (.ref s.heap.objs.size) = operate [.ref s.heap.objs.size, .ref l] (getItem (.ref l) (.ref s.heap.objs.size)) := by with_unfolding_all rfl) (ht : ∀ r, letTemporaryGo value (.ref l) r = pure () := by intro _; with_unfolding_all rfl) :
    wpAny (model PR w) A (subscriptTail value slice (.ref l) (.ref s.heap.objs.size)) Q E { s with heap := s.heap.push { cls := .type "slice", data := .fields #[vl, vu, .none] } } := by
  obtain ⟨vs, hl, hi'⟩ := hl
  refine subscriptTail_ops (Heap.IsList.typeIs (s := { s with heap := s.heap.push { cls := .type "slice", data := .fields #[vl, vu, .none] } }) (hl.push _)) list_getitem_lookup
    (wpAny_getItem_list_slice (hl.push _) (Heap.IsSliceOf.new ..) pl pu .none (by simp) ?_ (by rw [List.size_toArray, hi'.length, sizeLine_eq]; omega)) hs ht
  have N1 := News.push (F.push { cls := .type "slice", data := .fields #[vl, vu, .none] }) (N.grown fun _ _ e => Heap.get?_push_of_some _ e) { cls := .type "list", data := .seq (slicePick vs.toArray lo hi none) }
  rw [Heap.size_push] at N1
  show Q (.ref (s.heap.push _).objs.size) _
  rw [Heap.size_push]
  refine h _ (slicePick vs.toArray lo hi none).toList _ ((F.push _).push _) ?_ (fun p hp => Nat.lt_succ_of_lt (Heap.lt_size (N p hp).1)) (kssn_any hi') fun b o e => Heap.get?_push_of_some _ (Heap.get?_push_of_some _ e)
  rw [Array.toArray_toList]; exact N1
end
end
theorem fresh_C5 : True := by w_top off; trivial

noncomputable def betweenStep (ns : List Int) (book : List (Key × Int)) (n : Int) : List (Key × Int) :=
  let before := (rangeKs 0 n.toNat).filter (fun k => geti ns k == geti ns n)
  let name : Key := if before = [] then none else some (((rangeKs 0 4).filter (fun th => (cut (some (before.getLastD 0 + 1)) (some n) ns).contains th)).length : Nat)
  dput book name ((dget book name).getD 0 + 1)
noncomputable def betweenAt (ns : List Int) (i : Nat) : List (Key × Int) := (rangeKs 0 i).foldl (betweenStep ns) []

theorem between_steps (ns : List Int) : ∀ (l : List Int) (b : List (Key × Int)), (l.foldl (betweenStep ns) b).length ≤ b.length + l.length
  | [], b => Nat.le_refl _
  | n :: r, b => by
    have h1 := between_steps ns r (betweenStep ns b n)
    have h2 : (betweenStep ns b n).length ≤ b.length + 1 := dput_length _ _ _
    rw [List.foldl_cons, List.length_cons]; omega
theorem betweenAt_length (ns : List Int) (i : Nat) : (betweenAt ns i).length ≤ i := by
  have := between_steps ns (rangeKs 0 i) []
  rw [rangeKs_length] at this
  unfold betweenAt; simpa using this
theorem betweenAt_succ (ns : List Int) (i : Nat) : betweenAt ns (i + 1) = betweenStep ns (betweenAt ns i) (0 + (i : Int)) := by
  unfold betweenAt; rw [rangeKs_succ, List.foldl_append]; rfl
theorem between_new {ns : List Int} {i : Nat} (h : List.filter (fun k => geti ns k == geti ns (0 + (i : Int))) (rangeKs 0 i) = []) : betweenAt ns (i + 1) = dput (betweenAt ns i) none ((dget (betweenAt ns i) none).getD 0 + 1) := by
  rw [betweenAt_succ]; unfold betweenStep
  rw [show (0 + (i : Int)).toNat = i by omega]
  simp only [h, if_true]
theorem between_old {ns : List Int} {i : Nat} {B : List Int} (hB : List.filter (fun k => geti ns k == geti ns (0 + (i : Int))) (rangeKs 0 i) = B) (h : B ≠ []) {c : Int} (hc : c = (((rangeKs 0 4).filter (fun th => (cut (some (B.getLastD 0 + 1)) (some (0 + (i : Int))) ns).contains th)).length : Nat)) :
    betweenAt ns (i + 1) = dput (betweenAt ns i) (some c) ((dget (betweenAt ns i) (some c)).getD 0 + 1) := by
  subst hB; subst hc
  rw [betweenAt_succ]; unfold betweenStep
  rw [show (0 + (i : Int)).toNat = i by omega]
  simp only [h, if_false]
theorem small9 : ∀ i : Nat, i < 9 → Builtin.Range.small 0 (0 + (i : Int)) 1 = true := by decide
theorem size9 : ∀ i : Nat, i < 9 → Builtin.Range.rangeSize 0 (0 + (i : Int)) 1 = (i : Int) := by decide
theorem filter_le_length (p : Int → Bool) (l : List Int) : (l.filter p).length ≤ l.length := List.length_filter_le p l
inductive BetweenJ (w : World) (ns : List Int) (L' l : Addr) (i : Nat) (m : Str → Option Value) (nx : List (Addr × Obj)) : Prop
  | intro (d : _) (od : _) (oB : _) (oN : _) (oA : _) (vB : _) (vN : _) (q0 : m (Str.ofString "book") = some (.ref d)) (q1 : nx = [(d, od), (L' + 1 + 1 + 1, oB), (L' + 1 + 1, oN), (L' + 1, oA)]) (q2 : (d == sysModules) = false) (q3 : ((@Ne Nat (L' + 1 + 1 + 1) d) ∧ (@Ne Nat (L' + 1 + 1) d) ∧ (@Ne Nat (L' + 1) d))) (q4 : oB.data = .cell vB) (q5 : oN.data = .cell vN) (q6 : oA.data = .cell (some (.ref l))) (q7 : DObj w od (betweenAt ns i)) : BetweenJ w ns L' l i m nx
set_option maxRecDepth 100000 in
set_option maxHeartbeats 8000000 in
theorem between_ok (w : World) (s : Shared) (l : Addr) (ns : List Int) (hlen : ns.length = 9) (D : Lst s.heap l ns) :
    CallOk w 1 147 [.ref l] [] s (fun v h' => ∃ r o, v = .ref r ∧ s.heap.get? r = none ∧ (r == sysModules) = false ∧ h'.get? r = some o ∧ DObj w o (betweenAt ns 9)) := by
  k_dflt (refine' CallOk.introC (binds := [(Str.ofString "asked", .ref l)]) (ho := ?ho) (hcd := ?hcd) (hbind := ?hb) (hkind := ?hl) (hnd := ?hc) (hco := ?h1) (hgen := ?h2) (hk := ?h3) ?_; (case ho => k_is); (case hcd => k_is); (case hb => intro X9; exact BindsTo.of_eq rfl); (case hc => decide +kernel); (case hl => exact rfl); (case h1 => exact rfl); (case h2 => exact rfl); (case h3 => exact rfl); k_whole)
  intro loose mean mg mb dp un gd env outer A₀ base L' h₁ tk cells B F X N Y T hd hu
  obtain ⟨oB, oN, oA, hE, dB, dN, dA⟩ := CellsAre.three Y
  subst hE
  (try dsimp only); (try k_fold)
  k_steps
  (with_reducible rename Fr _ _ _ _ => F2); (with_reducible rename News _ _ _ _ => N2); (with_reducible rename IsRange _ _ _ _ _ _ _ _ => hr); (with_reducible rename DObj _ _ _ => hD); (rename (_ == sysModules) = false => lo); (rename ∀ p, p ∈ _ → Prod.fst p ≠ _ => hne)
  have ne1 := neN (hne _ (.head _))
  have ne2 := neN (hne _ (.tail _ (.head _)))
  have ne3 := neN (hne _ (.tail _ (.tail _ (.head _))))
  dsimp only at ne1 ne2 ne3
  refine rangeA (n := 9) (BetweenJ w ns L' l) rfl hr rfl rfl F2 N2 ⟨_, _, oB, oN, oA, _, _, rfl, rfl, lo, ⟨ne1, ne2, ne3⟩, dB, dN, dA, hD⟩ ?_ ?_ ?_
  · intro i m nx xR1; obtain ⟨d, od, oB, oN, oA, vB, vN, _, rfl, _, _, hB, hN, hA, hD⟩ := xR1; intro p hp
    simp only [List.mem_cons, List.not_mem_nil, or_false] at hp
    rcases hp with rfl | rfl | rfl | rfl
    · exact .inl (by show od.cls ≠ _; rw [hD.cls]; decide)
    · exact .inr ⟨_, hB⟩
    · exact .inr ⟨_, hN⟩
    · exact .inr ⟨_, hA⟩
  · intro i t m₁ nx h tk I oI hi xR2; obtain ⟨d, od, oB, oN, oA, vB, vN, hm1, rfl, lo, ⟨ne1, ne2, ne3⟩, hB, hN, hA, hD⟩ := xR2; intro hc hne F₁ N₁
    obtain ⟨u, rfl⟩ := fr_eq (m := m₁) [(Str.ofString "book", .ref d)] ⟨hm1, trivial⟩
    replace hne := offP_of hne
    simp only [offP, and_true] at hne
    (try k_fold)
    k_steps
    refine Stop.off ?_
    with_unfolding_all refine compE (fun k => geti ns k == geti ns (0 + (i : Int))) (fun k => k) (by k_asm) (by k_asm) (by rfl) (by decide) (by rfl) (by decide) (by rfl) (by rfl) ?_
    k_steps
    (with_reducible rename Fr _ _ _ _ => F3); (with_reducible rename News _ _ _ _ => N3); (with_reducible rename IsRange _ _ _ _ _ _ _ _ => hr3); (rename _ = Data.cell (some (Value.int (0 + (i : Int)) t)) => hn3)
    have D3 : Lst _ l ns := D.keeps F3.keep
    have gA := (N3 (L' + 1, oA) (.tail _ (.tail _ (.tail _ (.tail _ (.head _)))))).1
    have gN := (N3 (L' + 1 + 1, _) (.tail _ (.tail _ (.tail _ (.head _))))).1
    dsimp only at gA gN
    refine Stop.off ⟨rangeKs 0 i, SrcI.range hr3 ?_ ?_, by rw [rangeKs_length]; omega, F3, N3, ⟨?_, ?_⟩, ?_⟩
    · exact small9 i hi
    · exact size9 i hi
    · intro C k t' s₃ m₃ E' hk F4 hm4
      have hk' := mem_rangeKs hk
      refine tests_one ?_
      (try k_fold)
      k_steps
    · intro C k t' s₃ m₃ E' hk _ F4 hm4
      k_steps
    · intro D' vs n h' tk F4 N4 off keep hvs
      replace off := offP_of off
      simp only [offP, and_true] at off
      rw [List.map_id'] at hvs
      have hlb := filter_le_length (fun k => geti ns k == geti ns (0 + (i : Int))) (rangeKs 0 i)
      rw [rangeKs_length] at hlb
      have hsz : (betweenAt ns i).length ≤ 1000 := by have := betweenAt_length ns i; omega
      k_steps
      · refine TurnJ.nextS [(d, _), (L' + 1 + 1 + 1, _), (L' + 1 + 1, _), (L' + 1, oA)] (by assumption) (by assumption) (by ktr_rel) ⟨d, _, _, _, _, _, _, rfl, rfl, lo, ⟨ne1, ne2, ne3⟩, by assumption, by assumption, by assumption, ?_⟩
        rw [between_new (by (rename decide (_ = []) = true => hq); exact of_decide_eq_true hq)]; assumption
      · refine Stop.off ?_
        have hBne : List.filter (fun k => geti ns k == geti ns (0 + (i : Int))) (rangeKs 0 i) ≠ [] := by
          (rename decide (_ = []) = false => hq); exact of_decide_eq_false hq
        with_unfolding_all refine compE (fun th => (cut (some ((List.filter (fun k => geti ns k == geti ns (0 + (i : Int))) (rangeKs 0 i)).getLastD 0 + 1)) (some (0 + (i : Int))) ns).contains th) (fun k => k) (by k_asm) (by k_asm) (by rfl) (by decide) (by rfl) (by decide) (by rfl) (by rfl) ?_
        k_steps
        (with_reducible rename Fr _ _ _ _ => F5); (with_reducible rename News _ _ _ _ => N5); (with_reducible rename IsRange _ _ _ _ _ _ _ _ => hr5); (rename _ = Data.cell (some (Value.ref D')) => hb5)
        have D5 : Lst _ l ns := D.keeps F5.keep
        have gA5 := (N5 (L' + 1, oA) (by k_mem)).1
        have gN5 := (N5 (L' + 1 + 1, _) (by k_mem)).1
        have gB5 := (N5 (L' + 1 + 1 + 1, _) (by k_mem)).1
        have D6 := lst_led N5 (l := D') (by k_mem) hvs
        dsimp only at gA5 gN5 gB5
        refine Stop.off ⟨rangeKs 0 4, SrcI.range hr5 ?_ ?_, by rw [rangeKs_length]; omega, F5, N5, ⟨?_, ?_⟩, ?_⟩
        · rfl
        · rfl
        · intro C k t' s₃ m₃ E' hk F6 hm6
          have N6 := fr_nil F6
          refine tests_one ?_
          (try k_fold)
          k_steps
          all_goals exact any_beq_contains _ _
        · intro C k t' s₃ m₃ E' hk _ F6 hm6
          k_steps
        · intro D7 vs7 n7 h' tk F7 N7 off7 keep7 hvs7
          replace off7 := offP_of off7
          simp only [offP, and_true] at off7
          rw [List.map_id'] at hvs7
          have hl7 := filter_le_length (fun th => (cut (some ((List.filter (fun k => geti ns k == geti ns (0 + (i : Int))) (rangeKs 0 i)).getLastD 0 + 1)) (some (0 + (i : Int))) ns).contains th) (rangeKs 0 4)
          rw [rangeKs_length] at hl7
          k_steps
          refine TurnJ.nextS [(d, _), (L' + 1 + 1 + 1, _), (L' + 1 + 1, _), (L' + 1, oA)] (by assumption) (by assumption) (by ktr_rel) ⟨d, _, _, _, _, _, _, rfl, rfl, lo, ⟨ne1, ne2, ne3⟩, by assumption, by assumption, by assumption, ?_⟩
          rw [between_old rfl hBne rfl]; assumption
  · intro m₁ nx h tk xR3; obtain ⟨d, od, oB, oN, oA, vB, vN, hm1, rfl, lo, ⟨ne1, ne2, ne3⟩, hB, hN, hA, hD⟩ := xR3; intro F₁ N₁
    obtain ⟨u, rfl⟩ := fr_eq (m := m₁) [(Str.ofString "book", .ref d)] ⟨hm1, trivial⟩
    dsimp only
    k_steps
    refine RetOk.intro (by assumption) ⟨d, od, rfl, (N₁ _ (.head _)).2.2, lo, (N₁ _ (.head _)).1, hD⟩

section
noncomputable def LObj (o : Obj) (ns : List Int) : Prop := ∃ vs n, o = listOf (List.toArray vs) n ∧ IntsAre vs ns
theorem LObj.lst {h : Heap} {l : Addr} {o : Obj} {ns : List Int} (x : LObj o ns) (e : h.get? l = some o) : Lst h l ns := let ⟨vs, n, q, i⟩ := x; ⟨vs, ⟨o, e, q ▸ rfl, n, q ▸ rfl⟩, i⟩
theorem LObj.led {h₀ h : Heap} {L l : Addr} {o : Obj} {ns : List Int} {nx : List (Addr × Obj)} (N : News h₀ L h nx) (hm : (l, o) ∈ nx) (x : LObj o ns) : Lst h l ns := x.lst (N _ hm).1
theorem LObj.nil {n : Nat} : LObj (listOf #[] n) [] := ⟨[], n, rfl, .nil⟩
theorem LObj.of {vs : List Value} {ns : List Int} {n : Nat} (h : IntsAre vs ns) : LObj (listOf vs.toArray n) ns := ⟨vs, n, rfl, h⟩
theorem LObj.cls {o : Obj} {ns : List Int} (x : LObj o ns) : o.cls = .type "list" := let ⟨_, _, q, _⟩ := x; q ▸ rfl
theorem LObj.notIt {c : String} {o : Obj} {ns : List Int} (x : LObj o ns) (h : (Value.type "list") ≠ .type c) : NotIt c o := .inl (x.cls ▸ h)
theorem DObj.notIt {w : World} {c : String} {o : Obj} {b : List (Key × Int)} (x : DObj w o b) (h : (Value.type "dict") ≠ .type c) : NotIt c o := .inl (x.cls ▸ h)
section
variable {w : World} {A : Around} {E : Value → Shared → Prop} {s : Shared} {h₀ : Heap} {L D : Addr} {m : Str → Option Value} {nx : List (Addr × Obj)} {ns ms : List Int} {o : Obj} {g : Obj → List (Addr × Obj)}
theorem dm_newL {w : World} {env : Env} {pos : Pos} {Q : Value → Shared → Prop} (F : Fr h₀ L s.heap m) (N : News h₀ L s.heap nx) (hbig : h₀.NoLimit) (h : ∀ d h' o, Fr h₀ L h' m → News h₀ L h' ((d, o) :: nx) → (∀ p ∈ nx, p.1 < d) → (d == sysModules) = false → DObj w o [] → Q (.ref d) { s with heap := h' }) :
    wpAny (model PR w) A (eval (.Dict [] [] pos) env) Q E s := by
  refine wpAny_Dict_empty (h _ _ _ (F.push _) (News.push F N _) (fun p hp => Heap.lt_size (N p hp).1) (F.notModules (modules_low hbig)) ⟨[], ⟨#[], 0, ⟨rfl, rfl, rfl⟩, rfl, ?_, .nil, .nil⟩, rfl⟩)
  intro e he; simp at he
theorem dm_made1 {w : World} {d : Addr} {k : Key} {key : Value} {v : Int} {t : Tok} {Q : Value → Shared → Prop} {g : Obj → List (Addr × Obj)} (F : Fr h₀ L s.heap m) (N : News h₀ L s.heap nx) (U : UpdF d o nx g) (hd : o.IsDictOf (mk w) []) (hk : (mk w).is k key = true)
    (h : ∀ h' o', Fr h₀ L h' m → News h₀ L h' (g o') → DObj w o' [(k, v)] → Q (.ref d) { s with heap := h', toks := s.toks + 1 }) : KdnMade PR w (mk w) d Q [(key, .int v t)] s := by
  obtain ⟨pre, post, rfl, hg, a, b⟩ := U.split
  have hm := N (d, o) (List.mem_append_right _ (.head _))
  refine ⟨[(k, .int v t)], ⟨hk, rfl, trivial⟩, Heap.dictOf_iff.mpr ⟨o, hm.1, hd⟩, fun h' hmm hs => ?_⟩
  obtain ⟨o', ho', hd'⟩ := Heap.dictOf_iff.mp hmm
  exact h h' o' (F.change hs hm.2.1 hm.2.2) (hg o' ▸ N.setIn a b hs ho') ⟨[(k, v, t)], hd', rfl⟩
theorem ints_eraseIdx : ∀ {vs : List Value} {ns : List Int} (i : Nat), IntsAre vs ns → IntsAre (vs.eraseIdx i) (ns.eraseIdx i)
  | _, _, _, .nil => .nil
  | _, _, 0, .cons _ _ h => h
  | _, _, i + 1, .cons k t h => .cons k t (ints_eraseIdx i h)
theorem ints_append : ∀ {vs us : List Value} {ns ms : List Int}, IntsAre vs ns → IntsAre us ms → IntsAre (vs ++ us) (ns ++ ms)
  | _, _, _, _, .nil, h => h
  | _, _, _, _, .cons k t h, h' => .cons k t (ints_append h h')
theorem lo_del {i : Int} {u : Tok} {Q : Unit → Shared → Prop} (F : Fr h₀ L s.heap m) (N : News h₀ L s.heap nx) (U : UpdF D o nx g) (hL : LObj o ns) (h0 : 0 ≤ i) (h1 : i < (ns.length : Int)) (hz : ns.length ≤ 1000)
    (h : ∀ h' o', Fr h₀ L h' m → News h₀ L h' (g o') → LObj o' (ns.eraseIdx i.toNat) → Q () { s with heap := h' }) : wpAny (model PR w) A (delItem (.ref D) (.int i u)) Q E s := by
  obtain ⟨vs, n, rfl, hi⟩ := hL
  obtain ⟨pre, post, rfl, hg, a, b⟩ := U.split
  have z := N (D, listOf vs.toArray n) (List.mem_append.mpr (.inr (.head _)))
  have hlen := hi.length
  have hfit : Builtin.List.listFitsIndex i = true := by unfold Builtin.List.listFitsIndex; simp only [Bool.and_eq_true, decide_eq_true_eq]; omega
  have hk : seqIndex? i vs.toArray.size = some i.toNat := PySem.seqIndex_of h0 (by rw [List.size_toArray]; omega)
  have e1 : vs.toArray.eraseIdxIfInBounds i.toNat = (vs.eraseIdx i.toNat).toArray := by
    apply Array.toList_inj.mp
    simp [Array.toList_eraseIdxIfInBounds]
  refine P.delItem_list (n := n) z.1 hfit hk (h _ (listOf (vs.eraseIdx i.toNat).toArray (if (vs.eraseIdx i.toNat).toArray.size == vs.toArray.size then n else n + 1)) (F.change (Heap.SameBut.update ..) z.2.1 z.2.2) ?_ (LObj.of (ints_eraseIdx _ hi))) (by rw [List.size_toArray, sizeLine_eq]; omega)
  rw [hg]
  exact ki_turn _ N a b e1 rfl
theorem seq_iadd_list : seqSlot? (.type "list") (dunderI "add") = pure (some (.builtin "list.__iadd__")) := PySem.seqSlot_of PySem.F.slot_list_iadd.lookup (by decide +kernel)
theorem fill_iadd_list : fillsInplaceSlot (.type "list") "add" (Operator.Add == .Add) = pure false := by
  unfold fillsInplaceSlot
  show (typeLookup (.type "list") (dunderI "add") >>= fun fi => pure (fi.isSome && !isSeqSlot fi)) = pure false
  rw [PySem.F.slot_list_iadd.lookup]
  show (pure ((some (Value.builtin "list.__iadd__")).isSome && !isSeqSlot (some (.builtin "list.__iadd__"))) : Sem Bool) = _
  rw [show isSeqSlot (some (.builtin "list.__iadd__")) = true from by decide +kernel]
  rfl
theorem inplace_iadd {M : Model} {a b : Value} {Q : Value → Shared → Prop} (ha : s.TypeIs a "list") (hb : s.TypeIs b "list") (hc : wpAny M A (call (.builtin "list.__iadd__") [a, b]) Q E s) : wpAny M A (inplaceOp .Add a b) Q E s := by
  unfold inplaceOp
  refine wpAny_holding ?_
  refine wpAny_bind (wpAny_typeOf ha (wpAny_bind (wpAny_of_eq fill_iadd_list ?_)))
  show wpAny M A (if false = true then _ else _) Q E s
  rw [if_neg Bool.false_ne_true]
  refine wpAny_bind (wpAny_binaryOp1_none (nm := "add") ha hb noFill_list_add ?_)
  refine wpAny_bind (wpAny_of_eq seq_iadd_list ?_)
  exact wpAny_bind (wpAny_rule hc)
theorem lo_iadd {ob : Obj} {b : Addr} {Q : Value → Shared → Prop} (F : Fr h₀ L s.heap m) (N : News h₀ L s.heap nx) (U : UpdF D o nx g) (hL : LObj o ns) (hb : s.heap.get? b = some ob) (hM : LObj ob ms) (hz : ns.length + ms.length ≤ 1000)
    (h : ∀ h' o', Fr h₀ L h' m → News h₀ L h' (g o') → LObj o' (ns ++ ms) → Q (.ref D) { s with heap := h' }) : wpAny (model PR w) A (inplaceOp .Add (.ref D) (.ref b)) Q E s := by
  obtain ⟨vs, n, rfl, hi⟩ := hL
  obtain ⟨us, k, rfl, hj⟩ := hM
  obtain ⟨pre, post, rfl, hg, a, c⟩ := U.split
  have z := N (D, listOf vs.toArray n) (List.mem_append.mpr (.inr (.head _)))
  have hlen := hi.length
  have hlen' := hj.length
  refine inplace_iadd ⟨_, z.1, rfl⟩ ⟨_, hb, rfl⟩ (call_meets PySem.F.slot_list_iadd ⟨_, z.1, rfl⟩ PySem.F.entry_list_iadd (PySem.F.args_list_iadd_2 _ _) (PySem.AutoSeq1.list___iadd___list_list_0 D vs.toArray n b us.toArray k ?_ ?_ ?_) ⟨z.1, hb, h _ (listOf (vs ++ us).toArray (if (vs ++ us).toArray.size == vs.toArray.size then n else n + 1)) (F.change (Heap.SameBut.update ..) z.2.1 z.2.2) ?_ (LObj.of (ints_append hi hj))⟩)
  · unfold Builtin.List.listTooLong
    simp only [List.size_toArray, Bool.and_eq_true, decide_eq_true_eq, sizeLine_eq]; omega
  · rw [List.size_toArray, sizeLine_eq]; omega
  · rw [List.size_toArray, List.size_toArray, sizeLine_eq]; omega
  · rw [hg]
    exact ki_turn _ N a c (by simp) rfl
theorem lo_append {k : Int} {u : Tok} {Q : Value → Shared → Prop} (F : Fr h₀ L s.heap m) (N : News h₀ L s.heap nx) (U : UpdF D o nx g) (hL : LObj o ns) (hz : ns.length ≤ 1000)
    (h : ∀ h' o', Fr h₀ L h' m → News h₀ L h' (g o') → LObj o' (ns ++ [k]) → Q .none { s with heap := h' }) : wpAny (model PR w) A (call (.builtin "list.append") [.ref D, .int k u]) Q E s := by
  obtain ⟨vs, n, rfl, hi⟩ := hL
  obtain ⟨pre, post, rfl, hg, a, c⟩ := U.split
  have z := N (D, listOf vs.toArray n) (List.mem_append.mpr (.inr (.head _)))
  have hlen := hi.length
  refine append_at z.1 (fun h' hs ho' => h h' (listOf (vs ++ [Value.int k u]).toArray (n + 1)) (F.change hs z.2.1 z.2.2) ?_ (LObj.of (ints_append hi (.cons k u .nil)))) (by rw [List.size_toArray, sizeLine_eq]; omega)
  rw [hg]
  exact news_set N a c hs (by rw [ho']; simp)
theorem lo_appendM {pl : Sem Bool} {Q : Value × List Value → Shared → Prop} (N : News h₀ L s.heap nx) (hm : (D, o) ∈ nx) (hL : LObj o ns) (h : Q (.builtin "list.append", [.ref D]) s) : wpAny (model PR w) A (getMethod (.ref D) "append" pl) Q E s := by
  obtain ⟨vs, n, rfl, hi⟩ := hL
  exact getMethod_append_N N hm h
theorem lst_add {a b : Addr} {Q : Value → Shared → Prop} (F : Fr h₀ L s.heap m) (N : News h₀ L s.heap nx) (ha : Lst s.heap a ns) (hb : Lst s.heap b ms) (hz : ns.length + ms.length ≤ 1000)
    (h : ∀ D o h', Fr h₀ L h' m → News h₀ L h' ((D, o) :: nx) → (∀ p ∈ nx, p.1 < D) → LObj o (ns ++ ms) → Q (.ref D) { s with heap := h' }) : wpAny (model PR w) A (binaryOp .Add (.ref a) (.ref b)) Q E s := by
  obtain ⟨vs, hl, hi⟩ := ha
  obtain ⟨us, hk, hj⟩ := hb
  exact kmk_add_ints F N hl hk hi hj (fun D us h' F' N' l1 i => h D _ h' F' N' l1 (LObj.of i)) (by rw [sizeLine_eq]; omega)
end
end
theorem fresh_C6 : True := by w_top off; trivial

set_option maxRecDepth 100000 in
set_option maxHeartbeats 8000000 in
theorem contains_list_ok (w : World) (s : Shared) (l : Addr) (ns : List Int) (k : Int) (t : Tok) (D : Lst s.heap l ns) :
    CallOk w 1 90 [.ref l, .int k t] [] s (fun v _ => v = .bool (ns.contains k)) := by
  k_dflt (refine' CallOk.intro (binds := [(Str.ofString "a", .ref l), (Str.ofString "b", .int k t)]) (ho := ?ho) (hcd := ?hcd) (hbind := ?hb) (hloc := ?hl) (hcell := ?hc) (hco := ?h1) (hgen := ?h2) (hk := ?h3) ?_; (case ho => k_is); (case hcd => k_is); (case hb => intro _; exact BindsTo.of_eq rfl); (case hc => decide); (case hl => exact locs rfl); (case h1 => exact rfl); (case h2 => exact rfl); (case h3 => exact rfl); k_whole)
  intro loose mean mg mb dp un gd env outer A₀ base L' h₁ B F X N T hd hu
  (try dsimp only); (try k_fold)
  k_steps
  exact RetOk.intro (by assumption) (by first | rfl | rw [any_beq_contains])
set_option maxRecDepth 100000 in
set_option maxHeartbeats 8000000 in
theorem contains_dict_ok (w : World) (s : Shared) (d : Addr) (b : List (Key × Int)) (k : Key) (key : Value) (D : Dct w s.heap d b) (hk : (mk w).is k key = true) :
    CallOk w 1 90 [.ref d, key] [] s (fun v _ => v = .bool (dget b k).isSome) := by
  k_dflt (refine' CallOk.intro (binds := [(Str.ofString "a", .ref d), (Str.ofString "b", key)]) (ho := ?ho) (hcd := ?hcd) (hbind := ?hb) (hloc := ?hl) (hcell := ?hc) (hco := ?h1) (hgen := ?h2) (hk := ?h3) ?_; (case ho => k_is); (case hcd => k_is); (case hb => intro _; exact BindsTo.of_eq rfl); (case hc => decide); (case hl => exact locs rfl); (case h1 => exact rfl); (case h2 => exact rfl); (case h3 => exact rfl); k_whole)
  intro loose mean mg mb dp un gd env outer A₀ base L' h₁ B F X N T hd hu
  (try dsimp only); (try k_fold)
  k_steps
  exact RetOk.intro (by assumption) rfl
set_option maxRecDepth 100000 in
set_option maxHeartbeats 8000000 in
theorem delitem_ok (w : World) (s : Shared) (l : Addr) (ns : List Int) (k : Int) (t : Tok) (h0 : 0 ≤ k) (h1 : k < (ns.length : Int)) (hz : ns.length ≤ 900) (D : ∀ o, s.heap.get? l = some o → LObj o ns) :
    CallUpd w 1 97 [.ref l, .int k t] [] s l (fun v o _ => v = .none ∧ LObj o (ns.eraseIdx k.toNat)) := by
  k_dflt (refine' CallUpd.intro (binds := [(Str.ofString "a", .ref l), (Str.ofString "b", .int k t)]) (ho := ?ho) (hcd := ?hcd) (hbind := ?hb) (hloc := ?hl) (hcell := ?hc) (hco := ?h1) (hgen := ?h2) (hk := ?h3) ?_; (case ho => k_is); (case hcd => k_is); (case hb => intro _; exact BindsTo.of_eq rfl); (case hc => decide); (case hl => exact locs rfl); (case h1 => exact rfl); (case h2 => exact rfl); (case h3 => exact rfl); k_whole)
  intro loose mean mg mb dp un gd env outer A₀ base gh L' h₁ o hgh hoa B F X N T hd hu
  have hL := D o hoa
  (try dsimp only); (try k_fold)
  k_steps
  exact RetUpd.introN hgh (by assumption) (by assumption) (.head _) ⟨rfl, by assumption⟩
set_option maxRecDepth 100000 in
set_option maxHeartbeats 8000000 in
theorem iadd_ok (w : World) (s : Shared) (l b : Addr) (ns ms : List Int) (ob : Obj) (hz : ns.length + ms.length ≤ 900) (hne : (@Ne Nat b l)) (D : ∀ o, s.heap.get? l = some o → LObj o ns) (hb : s.heap.get? b = some ob) (hM : LObj ob ms) :
    CallUpd w 1 118 [.ref l, .ref b] [] s l (fun v o _ => v = .ref l ∧ LObj o (ns ++ ms)) := by
  k_dflt (refine' CallUpd.intro (binds := [(Str.ofString "a", .ref l), (Str.ofString "b", .ref b)]) (ho := ?ho) (hcd := ?hcd) (hbind := ?hb) (hloc := ?hl) (hcell := ?hc) (hco := ?h1) (hgen := ?h2) (hk := ?h3) ?_; (case ho => k_is); (case hcd => k_is); (case hb => intro _; exact BindsTo.of_eq rfl); (case hc => decide); (case hl => exact locs rfl); (case h1 => exact rfl); (case h2 => exact rfl); (case h3 => exact rfl); k_whole)
  intro loose mean mg mb dp un gd env outer A₀ base gh L' h₁ o hgh hoa B F X N T hd hu
  have hL := D o hoa
  have hb' : gh.get? b = some ob := hgh ▸ hideAll_get [l] hb (fun q => hne (List.mem_singleton.mp q))
  (try dsimp only); (try k_fold)
  k_steps
  exact RetUpd.intro hgh (by assumption) (by assumption) (.head _) ⟨rfl, by assumption⟩
set_option maxRecDepth 100000 in
set_option maxHeartbeats 8000000 in
theorem setitem_ok (w : World) (s : Shared) (d : Addr) (b : List (Key × Int)) (k v : Int) (t u : Tok) (hz : b.length ≤ 900) (D : ∀ o, s.heap.get? d = some o → DObj w o b) :
    CallUpd w 1 111 [.ref d, .int k t, .int v u] [] s d (fun r o _ => r = .none ∧ DObj w o (dput b (some k) v)) := by
  k_dflt (refine' CallUpd.intro (binds := [(Str.ofString "a", .ref d), (Str.ofString "b", .int k t), (Str.ofString "c", .int v u)]) (ho := ?ho) (hcd := ?hcd) (hbind := ?hb) (hloc := ?hl) (hcell := ?hc) (hco := ?h1) (hgen := ?h2) (hk := ?h3) ?_; (case ho => k_is); (case hcd => k_is); (case hb => intro _; exact BindsTo.of_eq rfl); (case hc => decide); (case hl => exact locs rfl); (case h1 => exact rfl); (case h2 => exact rfl); (case h3 => exact rfl); k_whole)
  intro loose mean mg mb dp un gd env outer A₀ base gh L' h₁ o hgh hoa B F X N T hd hu
  have hL := D o hoa
  (try dsimp only); (try k_fold)
  k_steps
  exact RetUpd.introN hgh (by assumption) (by assumption) (.head _) ⟨rfl, by assumption⟩

theorem dget_dput (b : List (Key × Int)) (k j : Key) (v : Int) : dget (dput b k v) j = if j = k then some v else dget b j := by
  unfold dput
  split
  · rename_i h
    unfold dget
    induction b with
    | nil => simp at h
    | cons x r ih =>
      simp only [List.map_cons, List.find?_cons]
      by_cases hx : x.1 = k
      · simp only [hx, if_true]
        by_cases hj : j = k
        · subst hj; simp
        · have : ¬ k = j := fun e => hj e.symm
          simp only [decide_eq_false this, if_neg hj]
          clear ih
          clear h
          induction r with
          | nil => rfl
          | cons y r ih' =>
            simp only [List.map_cons, List.find?_cons]
            by_cases hy : y.1 = k
            · simp only [hy, if_true, decide_eq_false this]; exact ih'
            · simp only [hy, if_false]
              by_cases hyj : y.1 = j
              · simp [hyj]
              · simp only [hyj, decide_false]; exact ih'
      · simp only [hx, if_false]
        have h' : r.any (fun x => decide (x.1 = k)) = true := by
          simp only [List.any_cons, hx, decide_false, Bool.false_or] at h; exact h
        by_cases hj : x.1 = j
        · have hjk : j ≠ k := fun e => hx (hj.trans e)
          simp only [hj, decide_true, if_neg hjk]
        · simp only [hj, decide_false]
          exact ih h'
  · rename_i h
    unfold dget
    rw [List.find?_append]
    by_cases hj : j = k
    · subst hj
      have : b.find? (fun x => decide (x.1 = j)) = none := by
        rw [List.find?_eq_none]
        intro x hx e
        exact h (List.any_eq_true.mpr ⟨x, hx, e⟩)
      rw [this]; simp
    · have : ¬ k = j := fun e => hj e.symm
      simp [this, hj]
noncomputable def sinceStep (ns : List Int) (st : List Int × List (Key × Int) × List (Key × Int)) (n : Int) : List Int × List (Key × Int) × List (Key × Int) :=
  match dget st.2.1 (some (geti ns n)) with
  | some at_ => (st.1.eraseIdx (countLt st.1 at_) ++ [n], dput st.2.1 (some (geti ns n)) n, addC st.2.2 [(some ((st.1.length : Int) - 1 - (countLt st.1 at_ : Nat)), 1)])
  | none => (st.1 ++ [n], dput st.2.1 (some (geti ns n)) n, addC st.2.2 [(none, 1)])
noncomputable def sinceAt (ns : List Int) (i : Nat) : List Int × List (Key × Int) × List (Key × Int) := (rangeKs 0 i).foldl (sinceStep ns) ([], [], [])
theorem sinceAt_succ (ns : List Int) (i : Nat) : sinceAt ns (i + 1) = sinceStep ns (sinceAt ns i) (0 + (i : Int)) := by
  unfold sinceAt; rw [rangeKs_succ, List.foldl_append]; rfl
structure SinceInv (ns : List Int) (i : Nat) (st : List Int × List (Key × Int) × List (Key × Int)) : Prop where
  sorted : st.1.Pairwise (· < ·)
  bound : ∀ h ∈ st.1, 0 ≤ h ∧ h < (i : Int)
  held : ∀ k v, dget st.2.1 (some k) = some v → v ∈ st.1 ∧ geti ns v = k
  len1 : st.1.length ≤ i
  len2 : st.2.1.length ≤ i
  len3 : st.2.2.length ≤ i
theorem countLt_at {ns : List Int} {x : Int} (hs : ns.Pairwise (· < ·)) (hx : x ∈ ns) : countLt ns x < ns.length ∧ ns[countLt ns x]? = some x := by
  unfold countLt
  induction ns with
  | nil => cases hx
  | cons a r ih =>
    have hs' := List.pairwise_cons.mp hs
    by_cases e : x = a
    · subst e
      have : (x :: r).filter (fun y => decide (y < x)) = [] := by
        rw [List.filter_eq_nil_iff]
        intro y hy q
        have q' := of_decide_eq_true q
        rcases List.mem_cons.mp hy with rfl | hy
        · omega
        · have := hs'.1 y hy; omega
      rw [this]; simp
    · have hx' : x ∈ r := by rcases List.mem_cons.mp hx with h | h; exact absurd h e; exact h
      have hlt := hs'.1 x hx'
      rw [List.filter_cons_of_pos (by exact decide_eq_true hlt)]
      have := ih hs'.2 hx'
      simp only [List.length_cons]
      exact ⟨by omega, by simpa using this.2⟩
theorem sorted_erase {ns : List Int} (hs : ns.Pairwise (· < ·)) (i : Nat) : (ns.eraseIdx i).Pairwise (· < ·) := hs.sublist (List.eraseIdx_sublist _ _)
theorem mem_erase_of_ne {ns : List Int} {i : Nat} {x y : Int} (hi : ns[i]? = some x) (hy : y ∈ ns) (hne : y ≠ x) : y ∈ ns.eraseIdx i := by
  rw [List.mem_eraseIdx_iff_getElem?]
  obtain ⟨j, hj⟩ := List.mem_iff_getElem?.mp hy
  exact ⟨j, fun e => hne (by rw [e, hi] at hj; exact (Option.some.inj hj).symm), hj⟩
theorem sorted_snoc {ns : List Int} {n : Int} (hs : ns.Pairwise (· < ·)) (hb : ∀ h ∈ ns, h < n) : (ns ++ [n]).Pairwise (· < ·) := by
  rw [List.pairwise_append]
  exact ⟨hs, List.pairwise_singleton _ _, fun a ha b hb' => by rw [List.mem_singleton.mp hb']; exact hb a ha⟩
theorem since_inv_step {ns : List Int} {i : Nat} {st : List Int × List (Key × Int) × List (Key × Int)} (I : SinceInv ns i st) : SinceInv ns (i + 1) (sinceStep ns st (0 + (i : Int))) := by
  obtain ⟨hs, hb, hh, l1, l2, l3⟩ := I
  have d2 := dput_length st.2.1 (some (geti ns (0 + (i : Int)))) (0 + (i : Int))
  unfold sinceStep
  cases hg : dget st.2.1 (some (geti ns (0 + (i : Int)))) with
  | some at_ =>
    dsimp only
    obtain ⟨hm, hgt⟩ := hh _ _ hg
    obtain ⟨c1, c2⟩ := countLt_at hs hm
    have hb' : ∀ h ∈ st.1.eraseIdx (countLt st.1 at_), 0 ≤ h ∧ h < (i : Int) := fun h q => hb h (List.mem_of_mem_eraseIdx q)
    refine ⟨sorted_snoc (sorted_erase hs _) fun h q => by have := hb' h q; omega, fun h q => ?_, fun k v q => ?_, ?_, by dsimp only; omega, ?_⟩
    · rcases List.mem_append.mp q with q | q
      · have := hb' h q; omega
      · rw [List.mem_singleton.mp q]; omega
    · rw [dget_dput] at q
      split at q
      · rename_i e
        rw [← Option.some.inj q]
        exact ⟨List.mem_append_right _ (.head _), (Option.some.inj e).symm⟩
      · rename_i e
        obtain ⟨q1, q2⟩ := hh k v q
        refine ⟨List.mem_append_left _ (mem_erase_of_ne c2 q1 fun e2 => e ?_), q2⟩
        rw [← q2, e2, hgt]
    · dsimp only
      rw [List.length_append, List.length_eraseIdx, if_pos c1, List.length_singleton]; omega
    · have := addC_length st.2.2 [(some ((st.1.length : Int) - 1 - (countLt st.1 at_ : Nat)), 1)]
      rw [List.length_singleton] at this; dsimp only; omega
  | none =>
    dsimp only
    refine ⟨sorted_snoc hs fun h q => by have := hb h q; omega, fun h q => ?_, fun k v q => ?_, ?_, by dsimp only; omega, ?_⟩
    · rcases List.mem_append.mp q with q | q
      · have := hb h q; omega
      · rw [List.mem_singleton.mp q]; omega
    · rw [dget_dput] at q
      split at q
      · rename_i e
        rw [← Option.some.inj q]
        exact ⟨List.mem_append_right _ (.head _), (Option.some.inj e).symm⟩
      · obtain ⟨q1, q2⟩ := hh k v q
        exact ⟨List.mem_append_left _ q1, q2⟩
    · dsimp only
      rw [List.length_append, List.length_singleton]; omega
    · have := addC_length st.2.2 [((none : Key), 1)]
      rw [List.length_singleton] at this; dsimp only; omega
theorem since_inv (ns : List Int) : ∀ i, SinceInv ns i (sinceAt ns i)
  | 0 => ⟨List.Pairwise.nil, (fun _ h => nomatch h), (fun k v q => by have q' : (none : Option Int) = some v := q; cases q'), Nat.le_refl _, Nat.le_refl _, Nat.le_refl _⟩
  | i + 1 => by rw [sinceAt_succ]; exact since_inv_step (since_inv ns i)
theorem since_old {ns : List Int} {i : Nat} {at_ : Int} (h : dget (sinceAt ns i).2.1 (some (geti ns (0 + (i : Int)))) = some at_) :
    sinceAt ns (i + 1) = ((sinceAt ns i).1.eraseIdx (countLt (sinceAt ns i).1 at_) ++ [0 + (i : Int)], dput (sinceAt ns i).2.1 (some (geti ns (0 + (i : Int)))) (0 + (i : Int)), addC (sinceAt ns i).2.2 [(some (((sinceAt ns i).1.length : Int) - 1 - (countLt (sinceAt ns i).1 at_ : Nat)), 1)]) := by
  rw [sinceAt_succ]; unfold sinceStep; rw [h]
theorem since_new {ns : List Int} {i : Nat} (h : dget (sinceAt ns i).2.1 (some (geti ns (0 + (i : Int)))) = none) :
    sinceAt ns (i + 1) = ((sinceAt ns i).1 ++ [0 + (i : Int)], dput (sinceAt ns i).2.1 (some (geti ns (0 + (i : Int)))) (0 + (i : Int)), addC (sinceAt ns i).2.2 [(none, 1)]) := by
  rw [sinceAt_succ]; unfold sinceStep; rw [h]

section
section
variable {w : World} {s : Shared} {loose : List Str} {mean : ExcName → Option Value} {mg mb : Str → Option Value} {dp un n : Nat} {gd : Option (List Code)} {cn : Str} {cs : Scope} {a : Addr} {ccd : Value} {cl : List (Str × Addr)} {outer : List Env} {A₀ : Around} {base h₀ : Heap} {L : Addr} {m : Str → Option Value} {nx : List (Addr × Obj)}
  {Q E : Value → Shared → Prop}
theorem iter_named {M : Model} {A : Around} {Q : Value → Shared → Prop} {l : Addr} (h : ∀ wl, wl = l → wpAny M A (pyIter (.ref wl)) Q E s) : wpAny M A (pyIter (.ref l)) Q E s := h l rfl
theorem lst_led1 {h₀ h : Heap} {L l : Addr} {nx : List (Addr × Obj)} {n : Nat} {k : Int} {t : Tok} (N : News h₀ L h nx) (hm : (l, listOf #[Value.int k t] n) ∈ nx) : Lst h l [k] := ⟨[.int k t], ⟨_, (N _ hm).1, rfl, _, rfl⟩, .cons k t .nil⟩
theorem lo_lst {h : Heap} {l : Addr} {ns : List Int} {o : Obj} (hL : LObj o ns) (hg : h.get? l = some o) : ∀ o', h.get? l = some o' → LObj o' ns := fun o' e => by rw [hg] at e; exact Option.some.inj e ▸ hL
theorem do_dct {h : Heap} {l : Addr} {b : List (Key × Int)} {o : Obj} (hL : DObj w o b) (hg : h.get? l = some o) : ∀ o', h.get? l = some o' → DObj w o' b := fun o' e => by rw [hg] at e; exact Option.some.inj e ▸ hL
theorem use_add {td sd : Addr} {tb sb : List (Key × Int)} (B : Below A₀ base outer h₀) (F : Fr h₀ L s.heap m) (X : (Mine.hd.heap_1 w.params).In h₀) (N : News h₀ L s.heap nx) (T : Top topProg loose mean mg mb h₀) (hk : cs.kind = .function) (hd : dp + 1 < recursionLimit) (hu : un + 8 * 1 + 200 < cLine)
    (TD : Dct w s.heap td tb) (SD : Dct w s.heap sd sb) (hlen : tb.length + sb.length ≤ 900)
    (h : ∀ r o h' tk', Fr h₀ L h' m → News h₀ L h' ((r, o) :: nx) → offP r nx → (r == sysModules) = false → DObj w o (addC tb sb) → (∀ b o, s.heap.get? b = some o → h'.get? b = some o) → Q (.ref r) { s with heap := h', toks := tk' }) :
    wpAny (model PR w) (ktrTop dp un gd cn cs L a ccd cl outer) (call (.ref 49) [.ref td, .ref sd] []) Q E s :=
  CallOk.use (add_callers_ok w s td sd tb sb hlen TD SD) B F X N T hk hd hu fun v h' tk' F' N' keep hv => by
    obtain ⟨r, o, rfl, hnew, lo, ho, hD⟩ := hv
    exact h r o h' tk' F' (news_add F N' hnew ho) (offP_of (news_ne N hnew)) lo hD keep
theorem use_bl {l : Addr} {ns : List Int} {x : Int} {t : Tok} (B : Below A₀ base outer h₀) (F : Fr h₀ L s.heap m) (X : (Mine.hd.heap_1 w.params).In h₀) (N : News h₀ L s.heap nx) (T : Top topProg loose mean mg mb h₀) (hk : cs.kind = .function) (hd : dp + 1 < recursionLimit) (hu : un + 8 * 1 + 200 < cLine)
    (D : Lst s.heap l ns) (hs : ns.Pairwise (· ≤ ·)) (hlen : ns.length ≤ 100) (h : ∀ t h' tk', Fr h₀ L h' m → News h₀ L h' nx → (∀ b o, s.heap.get? b = some o → h'.get? b = some o) → Q (.int (countLt ns x : Nat) t) { s with heap := h', toks := tk' }) :
    wpAny (model PR w) (ktrTop dp un gd cn cs L a ccd cl outer) (call (.ref 83) [.ref l, .int x t] []) Q E s :=
  CallOk.use (bisect_left_ok w s l ns x t hlen D hs) B F X N T hk hd hu fun v h' tk' F' N' keep hv => by
    obtain ⟨t, rfl⟩ := hv
    exact h t h' tk' F' N' keep
theorem use_br {l : Addr} {ns : List Int} {x : Int} {t : Tok} (B : Below A₀ base outer h₀) (F : Fr h₀ L s.heap m) (X : (Mine.hd.heap_1 w.params).In h₀) (N : News h₀ L s.heap nx) (T : Top topProg loose mean mg mb h₀) (hk : cs.kind = .function) (hd : dp + 1 < recursionLimit) (hu : un + 8 * 1 + 200 < cLine)
    (D : Lst s.heap l ns) (hs : ns.Pairwise (· ≤ ·)) (hlen : ns.length ≤ 100) (h : ∀ t h' tk', Fr h₀ L h' m → News h₀ L h' nx → (∀ b o, s.heap.get? b = some o → h'.get? b = some o) → Q (.int (countLe ns x : Nat) t) { s with heap := h', toks := tk' }) :
    wpAny (model PR w) (ktrTop dp un gd cn cs L a ccd cl outer) (call (.ref 65) [.ref l, .int x t] []) Q E s :=
  CallOk.use (bisect_right_ok w s l ns x t hlen D hs) B F X N T hk hd hu fun v h' tk' F' N' keep hv => by
    obtain ⟨t, rfl⟩ := hv
    exact h t h' tk' F' N' keep
theorem use_inl {l : Addr} {ns : List Int} {x : Int} {t : Tok} (B : Below A₀ base outer h₀) (F : Fr h₀ L s.heap m) (X : (Mine.hd.heap_1 w.params).In h₀) (N : News h₀ L s.heap nx) (T : Top topProg loose mean mg mb h₀) (hk : cs.kind = .function) (hd : dp + 1 < recursionLimit) (hu : un + 8 * 1 + 200 < cLine)
    (D : Lst s.heap l ns) (h : ∀ h' tk', Fr h₀ L h' m → News h₀ L h' nx → (∀ b o, s.heap.get? b = some o → h'.get? b = some o) → Q (.bool (ns.contains x)) { s with heap := h', toks := tk' }) :
    wpAny (model PR w) (ktrTop dp un gd cn cs L a ccd cl outer) (call (.ref 90) [.ref l, .int x t] []) Q E s :=
  CallOk.use (contains_list_ok w s l ns x t D) B F X N T hk hd hu fun v h' tk' F' N' keep hv => by
    subst hv
    exact h h' tk' F' N' keep
theorem use_ind {d : Addr} {b : List (Key × Int)} {k : Key} {key : Value} (B : Below A₀ base outer h₀) (F : Fr h₀ L s.heap m) (X : (Mine.hd.heap_1 w.params).In h₀) (N : News h₀ L s.heap nx) (T : Top topProg loose mean mg mb h₀) (hk : cs.kind = .function) (hd : dp + 1 < recursionLimit) (hu : un + 8 * 1 + 200 < cLine)
    (D : Dct w s.heap d b) (hkey : (mk w).is k key = true) (h : ∀ h' tk', Fr h₀ L h' m → News h₀ L h' nx → (∀ b o, s.heap.get? b = some o → h'.get? b = some o) → Q (.bool (dget b k).isSome) { s with heap := h', toks := tk' }) :
    wpAny (model PR w) (ktrTop dp un gd cn cs L a ccd cl outer) (call (.ref 90) [.ref d, key] []) Q E s :=
  CallOk.use (contains_dict_ok w s d b k key D hkey) B F X N T hk hd hu fun v h' tk' F' N' keep hv => by
    subst hv
    exact h h' tk' F' N' keep
theorem SrcI.lst {l : Addr} {ks : List Int} (h : Lst s.heap l ks) : SrcI w s (.ref l) ks := let ⟨_, hl, hi⟩ := h; .list hl hi
variable {o : Obj} {g : Obj → List (Addr × Obj)}
theorem use_del {l : Addr} {ns : List Int} {k : Int} {t : Tok} (B : Below A₀ base outer h₀) (F : Fr h₀ L s.heap m) (X : (Mine.hd.heap_1 w.params).In h₀) (N : News h₀ L s.heap nx) (T : Top topProg loose mean mg mb h₀) (hk : cs.kind = .function) (hd : dp + 1 < recursionLimit) (hu : un + 8 * 1 + 200 < cLine)
    (U : UpdF l o nx g) (hL : LObj o ns) (h0 : 0 ≤ k) (h1 : k < (ns.length : Int)) (hz : ns.length ≤ 900)
    (h : ∀ h' tk' o', Fr h₀ L h' m → News h₀ L h' (g o') → LObj o' (ns.eraseIdx k.toNat) → (∀ b o, b ≠ l → s.heap.get? b = some o → h'.get? b = some o) → Q .none { s with heap := h', toks := tk' }) :
    wpAny (model PR w) (ktrTop dp un gd cn cs L a ccd cl outer) (call (.ref 97) [.ref l, .int k t] []) Q E s :=
  CallUpd.use (delitem_ok w s l ns k t h0 h1 hz (lo_lst hL (by obtain ⟨own, rest, rfl, _⟩ := U.split; exact (N _ (List.mem_append_right _ (.head _))).1))) B F X N U T hk hd hu fun v h' tk' o' F' N' keep hv => by
    obtain ⟨rfl, hL'⟩ := hv
    exact h h' tk' o' F' N' hL' keep
theorem use_iadd {l b : Addr} {ns ms : List Int} {ob : Obj} (B : Below A₀ base outer h₀) (F : Fr h₀ L s.heap m) (X : (Mine.hd.heap_1 w.params).In h₀) (N : News h₀ L s.heap nx) (T : Top topProg loose mean mg mb h₀) (hk : cs.kind = .function) (hd : dp + 1 < recursionLimit) (hu : un + 8 * 1 + 200 < cLine)
    (U : UpdF l o nx g) (hL : LObj o ns) (hne : (@Ne Nat b l)) (hb : (b, ob) ∈ nx) (hM : LObj ob ms) (hz : ns.length + ms.length ≤ 900)
    (h : ∀ h' tk' o', Fr h₀ L h' m → News h₀ L h' (g o') → LObj o' (ns ++ ms) → (∀ b o, b ≠ l → s.heap.get? b = some o → h'.get? b = some o) → Q (.ref l) { s with heap := h', toks := tk' }) :
    wpAny (model PR w) (ktrTop dp un gd cn cs L a ccd cl outer) (call (.ref 118) [.ref l, .ref b] []) Q E s :=
  CallUpd.use (iadd_ok w s l b ns ms ob hz hne (lo_lst hL (by obtain ⟨own, rest, rfl, _⟩ := U.split; exact (N _ (List.mem_append_right _ (.head _))).1)) (N _ hb).1 hM) B F X N U T hk hd hu fun v h' tk' o' F' N' keep hv => by
    obtain ⟨rfl, hL'⟩ := hv
    exact h h' tk' o' F' N' hL' keep
theorem use_set {d : Addr} {b : List (Key × Int)} {k v : Int} {t u : Tok} (B : Below A₀ base outer h₀) (F : Fr h₀ L s.heap m) (X : (Mine.hd.heap_1 w.params).In h₀) (N : News h₀ L s.heap nx) (T : Top topProg loose mean mg mb h₀) (hk : cs.kind = .function) (hd : dp + 1 < recursionLimit) (hu : un + 8 * 1 + 200 < cLine)
    (U : UpdF d o nx g) (hL : DObj w o b) (hz : b.length ≤ 900)
    (h : ∀ h' tk' o', Fr h₀ L h' m → News h₀ L h' (g o') → DObj w o' (dput b (some k) v) → (∀ b o, b ≠ d → s.heap.get? b = some o → h'.get? b = some o) → Q .none { s with heap := h', toks := tk' }) :
    wpAny (model PR w) (ktrTop dp un gd cn cs L a ccd cl outer) (call (.ref 111) [.ref d, .int k t, .int v u] []) Q E s :=
  CallUpd.use (setitem_ok w s d b k v t u hz (do_dct hL (by obtain ⟨own, rest, rfl, _⟩ := U.split; exact (N _ (List.mem_append_right _ (.head _))).1))) B F X N U T hk hd hu fun v h' tk' o' F' N' keep hv => by
    obtain ⟨rfl, hL'⟩ := hv
    exact h h' tk' o' F' N' hL' keep
end
end
theorem fresh_C7 : True := by w_top off; trivial

theorem isSome_none {α : Type} {x : Option α} (h : x.isSome = false) : x = none := by cases x; rfl; cases h
inductive SinceJ (w : World) (v : Value) (ns : List Int) (i : Nat) (m : Str → Option Value) (nx : List (Addr × Obj)) : Prop
  | intro (h : _) (l : _) (b : _) (oh : _) (ol : _) (ob : _) (q0 : m (Str.ofString "asked") = some v) (q1 : m (Str.ofString "hours") = some (.ref h)) (q2 : m (Str.ofString "latest") = some (.ref l)) (q3 : m (Str.ofString "book") = some (.ref b)) (q4 : nx = [(b, ob), (l, ol), (h, oh)]) (q5 : (l == sysModules) = false) (q6 : (b == sysModules) = false) (q7 : ((@Ne Nat l b) ∧ (@Ne Nat h b) ∧ (@Ne Nat h l))) (q8 : LObj oh (sinceAt ns i).1) (q9 : DObj w ol (sinceAt ns i).2.1) (q10 : DObj w ob (sinceAt ns i).2.2) : SinceJ w v ns i m nx
theorem SinceJ.mk {w : World} {v : Value} {ns : List Int} {i : Nat} {m : Str → Option Value} {h l b : Addr} {oh ol ob : Obj} (h0 : m (Str.ofString "asked") = some v) (h1 : m (Str.ofString "hours") = some (.ref h)) (h2 : m (Str.ofString "latest") = some (.ref l)) (h3 : m (Str.ofString "book") = some (.ref b))
    (a : (l == sysModules) = false) (c : (b == sysModules) = false) (n1 : @Ne Nat l b) (n2 : @Ne Nat h b) (n3 : @Ne Nat h l) (x : LObj oh (sinceAt ns i).1) (y : DObj w ol (sinceAt ns i).2.1) (z : DObj w ob (sinceAt ns i).2.2) : SinceJ w v ns i m [(b, ob), (l, ol), (h, oh)] :=
  ⟨h, l, b, oh, ol, ob, h0, h1, h2, h3, rfl, a, c, ⟨n1, n2, n3⟩, x, y, z⟩
theorem SinceJ.turn {P : Prop} {w : World} {v : Value} {ns : List Int} {i : Nat} {m : Str → Option Value} {nx : List (Addr × Obj)} {g hp : Heap} {L I : Addr} {oI : Obj} (x : SinceJ w v ns i m nx) (F : Fr g L hp m) (N : News g L hp ((I, oI) :: nx)) (hne : ∀ p ∈ nx, p.1 ≠ I)
    (k : ∀ h l b oh ol ob u, Fr g L hp (fr [(Str.ofString "asked", v), (Str.ofString "hours", .ref h), (Str.ofString "latest", .ref l), (Str.ofString "book", .ref b)] u) → News g L hp [(I, oI), (b, ob), (l, ol), (h, oh)] → (@Ne Nat b I) → (@Ne Nat l I) → (@Ne Nat h I) → (l == sysModules) = false → (b == sysModules) = false →
      (@Ne Nat l b) → (@Ne Nat h b) → (@Ne Nat h l) → LObj oh (sinceAt ns i).1 → DObj w ol (sinceAt ns i).2.1 → DObj w ob (sinceAt ns i).2.2 → P) : P := by
  obtain ⟨h, l, b, oh, ol, ob, hm0, hm1, hm2, hm3, rfl, loL, loB, ⟨n1, n2, n3⟩, hH, hL, hB⟩ := x
  obtain ⟨u, rfl⟩ := fr_eq (m := m) [(Str.ofString "asked", v), (Str.ofString "hours", .ref h), (Str.ofString "latest", .ref l), (Str.ofString "book", .ref b)] ⟨hm0, hm1, hm2, hm3, trivial⟩
  exact k h l b oh ol ob u F N (hne _ (.head _)) (hne _ (.tail _ (.head _))) (hne _ (.tail _ (.tail _ (.head _)))) loL loB n1 n2 n3 hH hL hB
theorem SinceJ.done {P : Prop} {w : World} {v : Value} {ns : List Int} {i : Nat} {m : Str → Option Value} {nx : List (Addr × Obj)} {g hp : Heap} {L : Addr} (x : SinceJ w v ns i m nx) (F : Fr g L hp m) (N : News g L hp nx)
    (k : ∀ b ob u, Fr g L hp (fr [(Str.ofString "book", .ref b)] u) → News g L hp [(b, ob)] → (b == sysModules) = false → DObj w ob (sinceAt ns i).2.2 → P) : P := by
  obtain ⟨h, l, b, oh, ol, ob, hm0, hm1, hm2, hm3, rfl, loL, loB, _, hH, hL, hB⟩ := x
  obtain ⟨u, rfl⟩ := fr_eq (m := m) [(Str.ofString "book", .ref b)] ⟨hm3, trivial⟩
  exact k b ob u F (fun p hp => N p (by rw [List.mem_singleton.mp hp]; exact .head _)) loB hB
theorem SinceJ.off {w : World} {v : Value} {ns : List Int} {i : Nat} {m : Str → Option Value} {nx : List (Addr × Obj)} (x : SinceJ w v ns i m nx) : ∀ p ∈ nx, NotIt "range_iterator" p.2 := by
  obtain ⟨h, l, b, oh, ol, ob, _, _, _, _, rfl, _, _, _, hH, hL, hB⟩ := x
  intro p hp
  simp only [List.mem_cons, List.not_mem_nil, or_false] at hp
  rcases hp with rfl | rfl | rfl
  · exact .inl (by rw [hB.cls]; decide)
  · exact .inl (by rw [hL.cls]; decide)
  · exact .inl (by rw [hH.cls]; decide)
theorem since_hit {ns : List Int} {i : Nat} {k at_ : Int} (SI : SinceInv ns i (sinceAt ns i)) (hg : dget (sinceAt ns i).2.1 (some k) = some at_) : countLt (sinceAt ns i).1 at_ < (sinceAt ns i).1.length := (countLt_at SI.sorted (SI.held _ _ hg).1).1
theorem since_er {ns : List Int} {i : Nat} (hi : i < 9) (SI : SinceInv ns i (sinceAt ns i)) (c : Int) : (List.eraseIdx (sinceAt ns i).1 c.toNat).length ≤ 9 := by
  have := List.length_eraseIdx_le (sinceAt ns i).1 c.toNat
  have := SI.len1
  omega
set_option maxRecDepth 100000 in
set_option maxHeartbeats 8000000 in
theorem since_ok (w : World) (s : Shared) (v : Value) (ns : List Int) (hlen : ns.length = 9) (D : SeqV s.heap v ns) :
    CallOk w 2 132 [v] [] s (fun v h' => ∃ r o, v = .ref r ∧ s.heap.get? r = none ∧ (r == sysModules) = false ∧ h'.get? r = some o ∧ DObj w o (sinceAt ns 9).2.2) := by
  k_dflt (refine' CallOk.intro (binds := [(Str.ofString "asked", v)]) (ho := ?ho) (hcd := ?hcd) (hbind := ?hb) (hloc := ?hl) (hcell := ?hc) (hco := ?h1) (hgen := ?h2) (hk := ?h3) ?_; (case ho => k_is); (case hcd => k_is); (case hb => intro _; exact BindsTo.of_eq rfl); (case hc => decide); (case hl => exact locs rfl); (case h1 => exact rfl); (case h2 => exact rfl); (case h3 => exact rfl); k_whole)
  generalize hR : RetOk s _ = RR
  intro loose mean mg mb dp un gd env outer A₀ base L' h₁ B F X N T hd hu
  (try dsimp only); (try k_fold)
  k_steps
  (with_reducible rename Fr _ _ _ _ => F2); (with_reducible rename News _ _ _ _ => N2); (with_reducible rename IsRange _ _ _ _ _ _ _ _ => hr)
  refine rangeA (n := 9) (SinceJ w v ns) rfl hr rfl rfl F2 N2 (SinceJ.mk rfl rfl rfl rfl (by assumption) (by assumption) (by omega) (by omega) (by omega) LObj.nil (by assumption) (by assumption)) ?_ ?_ ?_
  · exact fun i m nx x p hp => x.off p hp
  · intro i t m₁ nx hp tk I oI hi hJ hc hne F₁ N₁
    generalize hQ : TurnJ _ _ _ _ _ _ = QQ
    refine hJ.turn F₁ N₁ hne ?_
    clear F₁ N₁ hne hJ
    intro h l b oh ol ob u F₁ N₁ e1 e2 e3 loL loB n1 n2 n3 hH hL hB
    have SI := since_inv ns i
    have l1 := SI.len1
    have l2 := SI.len2
    have l3 := SI.len3
    (try k_fold)
    k_steps
    · refine (Option.isSome_iff_exists.mp (by assumption : (dget (sinceAt ns i).2.1 (some (geti ns (0 + (i : Int))))).isSome = true)).elim ?_
      intro at_ hg
      have c1 := since_hit SI hg
      have hsle := SI.sorted.imp (fun {a b} => Int.le_of_lt) (S := fun a b : Int => a ≤ b)
      have l4 := since_er hi SI ((countLt (sinceAt ns i).1 at_ : Nat) : Int)
      k_steps
      (with_reducible rename Fr _ _ _ _ => F9); (with_reducible rename News _ _ _ _ => N9)
      subst hQ
      refine TurnJ.nextS [(_, _), (l, _), (h, _)] F9 N9 (by ktr_rel) (SinceJ.mk rfl rfl rfl rfl loL (by assumption) (by omega) (by omega) n3 ?_ ?_ ?_)
      · rw [since_old hg]; assumption
      · rw [since_old hg]; assumption
      · rw [since_old hg]; assumption
    · have hg := isSome_none (by assumption : (dget (sinceAt ns i).2.1 (some (geti ns (0 + (i : Int))))).isSome = false)
      k_steps
      (with_reducible rename Fr _ _ _ _ => F9); (with_reducible rename News _ _ _ _ => N9)
      subst hQ
      refine TurnJ.nextS [(_, _), (l, _), (h, _)] F9 N9 (by ktr_rel) (SinceJ.mk rfl rfl rfl rfl loL (by assumption) (by omega) (by omega) n3 ?_ ?_ ?_)
      · rw [since_new hg]; assumption
      · rw [since_new hg]; assumption
      · rw [since_new hg]; assumption
  · intro m₁ nx hp tk hJ F₁ N₁
    refine hJ.done F₁ N₁ ?_
    clear F₁ N₁ hJ
    intro b ob u F₁ N₁ loB hB
    dsimp only
    k_steps
    subst hR
    refine RetOk.intro (by assumption) ⟨b, ob, rfl, (N₁ _ (.head _)).2.2, loB, (N₁ _ (.head _)).1, hB⟩
theorem fresh_C8 : True := by w_top off; trivial

noncomputable def shelfStep (room : Int) (st : List Int × Int) (th : Int) : List Int × Int :=
  (([th] ++ st.1.filter (fun one => one != th)).take room.toNat, if st.1.contains th then st.2 else st.2 + 1)
noncomputable def shelfAt (room : Int) (ns : List Int) (i : Nat) : List Int × Int := (ns.take i).foldl (shelfStep room) ([], 0)
theorem shelfAt_succ {room : Int} {ns : List Int} {i : Nat} {th : Int} (h : ns[i]? = some th) : shelfAt room ns (i + 1) = shelfStep room (shelfAt room ns i) th := by
  unfold shelfAt; rw [List.take_add_one, h, List.foldl_append]; rfl
theorem shelf_length (room : Int) (ns : List Int) (i : Nat) : (shelfAt room ns i).1.length ≤ i := by
  unfold shelfAt
  have h : ∀ (l : List Int) (st : List Int × Int), (l.foldl (shelfStep room) st).1.length ≤ st.1.length + l.length := by
    intro l
    induction l with
    | nil => intro st; exact Nat.le_refl _
    | cons a r ih =>
      intro st
      have h1 := ih (shelfStep room st a)
      have h2 : (shelfStep room st a).1.length ≤ st.1.length + 1 := by
        have h3 := (List.take_sublist room.toNat ([a] ++ st.1.filter (fun one => one != a))).length_le
        have h4 := List.length_filter_le (fun one => one != a) st.1
        simp only [List.cons_append, List.nil_append, List.length_cons] at h3
        show (([a] ++ st.1.filter (fun one => one != a)).take room.toNat).length ≤ _
        simp only [List.cons_append, List.nil_append]
        omega
      rw [List.foldl_cons, List.length_cons]; omega
  have := h (ns.take i) ([], 0)
  rw [List.length_take] at this
  simp only [List.length_nil] at this
  omega
inductive ShelfJ (ns : List Int) (room : Int) (tr : Tok) (L' : Addr) (i : Nat) (m : Str → Option Value) (nx : List (Addr × Obj)) : Prop
  | intro (sh : _) (osh : _) (oC : _) (vC : _) (ms : _) (t : _) (q0 : m (Str.ofString "shelf") = some (.ref sh)) (q1 : m (Str.ofString "missed") = some (.int ms t)) (q2 : m (Str.ofString "room") = some (.int room tr)) (q3 : nx = [(sh, osh), (L' + 1, oC)]) (q4 : (@Ne Nat (L' + 1) sh)) (q5 : oC.data = .cell vC) (q6 : LObj osh (shelfAt room ns i).1) (q7 : ms = (shelfAt room ns i).2) : ShelfJ ns room tr L' i m nx
set_option maxRecDepth 100000 in
set_option maxHeartbeats 8000000 in
theorem shelf_ok (w : World) (s : Shared) (l : Addr) (ns : List Int) (room : Int) (tr : Tok) (hroom : 0 ≤ room) (hlen : ns.length = 9) (D : Lst s.heap l ns) :
    CallOk w 1 152 [.ref l, .int room tr] [] s (fun v h' => ∃ t, v = .int (shelfAt room ns 9).2 t) := by
  have off_Slice : True := trivial
  k_dflt (refine' CallOk.introC (binds := [(Str.ofString "asked", .ref l), (Str.ofString "room", .int room tr)]) (ho := ?ho) (hcd := ?hcd) (hbind := ?hb) (hkind := ?hl) (hnd := ?hc) (hco := ?h1) (hgen := ?h2) (hk := ?h3) ?_; (case ho => k_is); (case hcd => k_is); (case hb => intro X9; exact BindsTo.of_eq rfl); (case hc => decide +kernel); (case hl => exact rfl); (case h1 => exact rfl); (case h2 => exact rfl); (case h3 => exact rfl); k_whole)
  intro loose mean mg mb dp un gd env outer A₀ base L' h₁ tk cells B F X N Y T hd hu
  obtain ⟨oC, hE, dC⟩ := CellsAre.one Y
  subst hE
  (try dsimp only); (try k_fold)
  k_steps
  (with_reducible rename Fr _ _ _ _ => F2); (with_reducible rename News _ _ _ _ => N2)
  obtain ⟨vs, hvl, hvi⟩ := id D
  have hvl2 := hvl.at (fun o e => F2.keep _ o e)
  refine listA (vs := vs) (ShelfJ ns room tr L') rfl hvl2 (.inl (let ⟨o, e, _⟩ := hvl; ⟨o, e⟩)) F2 N2
    ⟨_, _, oC, _, _, _, rfl, rfl, rfl, rfl, by omega, dC, LObj.nil, rfl⟩ ?_ ?_ ?_
  · intro i m nx xR1; obtain ⟨sh, osh, oC, vC, ms, t, _, _, _, rfl, _, hC, hS, _⟩ := xR1; intro p hp
    simp only [List.mem_cons, List.not_mem_nil, or_false] at hp
    rcases hp with rfl | rfl
    · exact hS.notIt (by decide)
    · exact .inr ⟨_, hC⟩
  · intro i vth m₁ nx hp tk I oI hvi' xR2; obtain ⟨sh, osh, oC, vC, ms, t, hm1, hm2, hm3, rfl, n1, hC, hS, ems⟩ := xR2; intro hc hne F₁ N₁
    obtain ⟨th, tt, rfl, hth⟩ := IntsAre.at hvi i vth hvi'
    have hi : i < 9 := by have := (List.getElem?_eq_some_iff.mp hth).1; omega
    obtain ⟨u, rfl⟩ := fr_eq (m := m₁) [(Str.ofString "shelf", .ref sh), (Str.ofString "missed", .int ms t), (Str.ofString "room", .int room tr)] ⟨hm1, hm2, hm3, trivial⟩
    replace hne := offP_of hne
    simp only [offP, and_true] at hne
    have l1 := shelf_length room ns i
    (try k_fold)
    k_steps
    all_goals refine Stop.off ?_
    all_goals with_unfolding_all refine compE (fun one => one != th) (fun k => k) (by k_asm) (by k_asm) (by rfl) (by decide) (by rfl) (by decide) (by rfl) (by rfl) ?_
    all_goals k_steps
    all_goals (with_reducible rename Fr _ _ _ _ => F3); (with_reducible rename News _ _ _ _ => N3); (rename _ = Data.cell (some (Value.int th tt)) => hc3)
    all_goals have gC := (N3 (L' + 1, _) (by k_mem)).1
    all_goals dsimp only at gC
    all_goals refine Stop.off ⟨(shelfAt room ns i).1, SrcI.lst (by ktr_unf), by omega, F3, N3, ⟨?_, ?_⟩, ?_⟩
    · intro C k t' s₃ m₃ E' hk F4 hm4
      refine tests_one ?_
      (try k_fold)
      k_steps
    · intro C k t' s₃ m₃ E' hk _ F4 hm4
      k_steps
    · intro D' vs n h' tk F4 N4 off keep hvs
      replace off := offP_of off
      simp only [offP, and_true] at off
      rw [List.map_id'] at hvs
      have l2 := filter_le_length (fun one => one != th) (shelfAt room ns i).1
      k_steps
      · (with_reducible rename Fr _ _ _ _ => F9); (with_reducible rename News _ _ _ _ => N9)
        refine TurnJ.nextS [(_, _), (L' + 1, _)] F9 N9 (by ktr_rel) ⟨_, _, _, _, _, _, rfl, rfl, rfl, rfl, by omega, hc3, ?_, ?_⟩
        · rw [shelfAt_succ hth]; exact LObj.of (by assumption)
        · rw [shelfAt_succ hth]; unfold shelfStep; rw [ems]; dsimp only
          (rename List.contains _ th = _ => hq); rw [hq]; rfl
    · intro C k t' s₃ m₃ E' hk F4 hm4
      refine tests_one ?_
      (try k_fold)
      k_steps
    · intro C k t' s₃ m₃ E' hk _ F4 hm4
      k_steps
    · intro D' vs n h' tk F4 N4 off keep hvs
      replace off := offP_of off
      simp only [offP, and_true] at off
      rw [List.map_id'] at hvs
      have l2 := filter_le_length (fun one => one != th) (shelfAt room ns i).1
      k_steps
      · (with_reducible rename Fr _ _ _ _ => F9); (with_reducible rename News _ _ _ _ => N9)
        refine TurnJ.nextS [(_, _), (L' + 1, _)] F9 N9 (by ktr_rel) ⟨_, _, _, _, _, _, rfl, rfl, rfl, rfl, by omega, hc3, ?_, ?_⟩
        · rw [shelfAt_succ hth]; exact LObj.of (by assumption)
        · rw [shelfAt_succ hth]; unfold shelfStep; rw [ems]; dsimp only
          (rename List.contains _ th = _ => hq); rw [hq]; rfl
  · intro m₁ nx hp tk xR3; obtain ⟨sh, osh, oC, vC, ms, t, hm1, hm2, hm3, rfl, n1, hC, hS, ems⟩ := xR3; intro F₁ N₁
    obtain ⟨u, rfl⟩ := fr_eq (m := m₁) [(Str.ofString "missed", .int ms t)] ⟨hm2, trivial⟩
    rw [hvi.length, hlen] at ems
    dsimp only
    k_steps
    exact RetOk.intro (by assumption) ⟨t, by rw [ems]⟩

theorem nodup_length {α : Type} [DecidableEq α] : ∀ {l r : List α}, l.Nodup → (∀ x ∈ l, x ∈ r) → l.length ≤ r.length
  | [], r, _, _ => Nat.zero_le _
  | a :: l, r, hn, hs => by
    have hn' := List.nodup_cons.mp hn
    have ha := hs a (.head _)
    have h1 := nodup_length (l := l) (r := r.erase a) hn'.2 fun x hx => (List.mem_erase_of_ne (fun e => hn'.1 (by rw [← e]; exact hx))).mpr (hs x (.tail _ hx))
    have h2 := List.length_erase_of_mem ha
    have h3 := List.length_pos_of_mem ha
    rw [List.length_cons]; omega
noncomputable def KS (b : List (Key × Int)) : Prop := ∀ x ∈ b, ∃ k, x.1 = some k ∧ 0 ≤ k ∧ k < 16
theorem KS.length {b : List (Key × Int)} (h : KS b) (hn : (b.map (·.1)).Nodup) : b.length ≤ 16 := by
  have := nodup_length (r := (rangeKs 0 16).map some) hn fun x hx => by
    obtain ⟨y, hy, rfl⟩ := List.mem_map.mp hx
    obtain ⟨k, e, h0, h1⟩ := h y hy
    refine List.mem_map.mpr ⟨k, ?_, e.symm⟩
    unfold rangeKs
    exact List.mem_map.mpr ⟨k.toNat, List.mem_range.mpr (by omega), by omega⟩
  rw [List.length_map, List.length_map, rangeKs_length] at this
  exact this
theorem KS.put {b : List (Key × Int)} (h : KS b) {k v : Int} (h0 : 0 ≤ k) (h1 : k < 16) : KS (dput b (some k) v) := by
  intro x hx
  unfold dput at hx
  split at hx
  · obtain ⟨y, hy, rfl⟩ := List.mem_map.mp hx
    split
    · exact h y hy
    · exact h y hy
  · rcases List.mem_append.mp hx with hx | hx
    · exact h x hx
    · rw [List.mem_singleton.mp hx]; exact ⟨k, rfl, h0, h1⟩
noncomputable def bitsOf (ly : Int) : List Int := (rangeKs 0 4).filter (fun one => (ly.fdiv (2 ^ one.toNat)).fmod 2 == 1)
noncomputable def waysOf (room th ly : Int) : List Int :=
  if (bitsOf ly).contains th = true then [ly] else if ((bitsOf ly).length : Int) < room then [ly + 2 ^ th.toNat] else (bitsOf ly).map (fun one => ly + 2 ^ th.toNat - 2 ^ one.toNat)
noncomputable def priceOf (th ly pr : Int) : Int := if (bitsOf ly).contains th = true then pr else pr + 1
noncomputable def putWay (price : Int) (a : List (Key × Int)) (w : Int) : List (Key × Int) := dput a (some w) (if (dget a (some w)).getD price < price then (dget a (some w)).getD price else price)
noncomputable def putWays (price : Int) (after : List (Key × Int)) (ways : List Int) : List (Key × Int) := ways.foldl (putWay price) after
noncomputable def leastTurn (room th : Int) (after : List (Key × Int)) (x : Key × Int) : List (Key × Int) := putWays (priceOf th (x.1.getD 0) x.2) after (waysOf room th (x.1.getD 0))
noncomputable def leastStep (room : Int) (prices : List (Key × Int)) (th : Int) : List (Key × Int) := prices.foldl (leastTurn room th) []
noncomputable def leastAt (room : Int) (ns : List Int) (i : Nat) : List (Key × Int) := (ns.take i).foldl (leastStep room) [(some 0, 0)]
theorem leastAt_succ {room : Int} {ns : List Int} {i : Nat} {th : Int} (h : ns[i]? = some th) : leastAt room ns (i + 1) = leastStep room (leastAt room ns i) th := by
  unfold leastAt; rw [List.take_add_one, h, List.foldl_append]; rfl
theorem ways_fin : ∀ n : Nat, n < 16 → ∀ t : Nat, t < 4 → (bitsOf (n : Int)).contains (t : Int) = false → ((n : Int) + 2 ^ t < 16 ∧ ∀ one ∈ bitsOf (n : Int), 0 ≤ (n : Int) + 2 ^ t - 2 ^ one.toNat ∧ (n : Int) + 2 ^ t - 2 ^ one.toNat < 16) := by decide +kernel
theorem ways_range {room th ly : Int} (h0 : 0 ≤ ly) (h1 : ly < 16) (t0 : 0 ≤ th) (t1 : th < 4) : ∀ w ∈ waysOf room th ly, 0 ≤ w ∧ w < 16 := by
  intro w hw
  unfold waysOf at hw
  split at hw
  · rw [List.mem_singleton.mp hw]; exact ⟨h0, h1⟩
  · rename_i hc
    have hc' : (bitsOf ly).contains th = false := by simpa using hc
    have := ways_fin ly.toNat (by omega) th.toNat (by omega)
    rw [show ((ly.toNat : Nat) : Int) = ly by omega, show ((th.toNat : Nat) : Int) = th by omega] at this
    obtain ⟨a, b⟩ := this hc'
    split at hw
    · rw [List.mem_singleton.mp hw]
      have : (0 : Int) < 2 ^ th.toNat := Int.pow_pos (by decide)
      exact ⟨by omega, a⟩
    · obtain ⟨one, ho, rfl⟩ := List.mem_map.mp hw
      exact b one ho
theorem ks_putWays {price : Int} : ∀ {ways : List Int} {a : List (Key × Int)}, KS a → (∀ w ∈ ways, 0 ≤ w ∧ w < 16) → KS (putWays price a ways)
  | [], _, h, _ => h
  | w :: r, a, h, hw => ks_putWays (ways := r) (a := putWay price a w) (h.put (hw w (.head _)).1 (hw w (.head _)).2) fun x hx => hw x (.tail _ hx)
theorem ks_turns {room th : Int} (t0 : 0 ≤ th) (t1 : th < 4) : ∀ {b a : List (Key × Int)}, KS a → KS b → KS (b.foldl (leastTurn room th) a)
  | [], _, h, _ => h
  | x :: r, a, h, hb => by
    obtain ⟨k, e, k0, k1⟩ := hb x (.head _)
    refine ks_turns (b := r) (a := leastTurn room th a x) t0 t1 ?_ fun y hy => hb y (.tail _ hy)
    unfold leastTurn
    rw [e]
    exact ks_putWays h (ways_range k0 k1 t0 t1)
theorem ks_nil : KS [] := fun _ h => nomatch h
theorem ks_least {room : Int} : ∀ {ns : List Int} {b : List (Key × Int)}, (∀ x ∈ ns, 0 ≤ x ∧ x < 4) → KS b → KS (ns.foldl (leastStep room) b)
  | [], _, _, h => h
  | th :: r, b, hns, h => ks_least (ns := r) (b := leastStep room b th) (fun x hx => hns x (.tail _ hx)) (ks_turns (hns th (.head _)).1 (hns th (.head _)).2 ks_nil h)
theorem ks_leastAt {room : Int} {ns : List Int} (hns : ∀ x ∈ ns, 0 ≤ x ∧ x < 4) (i : Nat) : KS (leastAt room ns i) :=
  ks_least (fun x hx => hns x (List.mem_of_mem_take hx)) fun x hx => by rw [List.mem_singleton.mp hx]; exact ⟨0, rfl, by decide, by decide⟩
theorem dget_at {b : List (Key × Int)} (hn : (b.map (·.1)).Nodup) {j : Nat} {k : Key} {v : Int} (hb : b[j]? = some (k, v)) : dget b k = some v := by
  unfold dget
  induction b generalizing j with
  | nil => simp at hb
  | cons x r ih =>
    have hn' := List.nodup_cons.mp hn
    cases j with
    | zero =>
      simp only [List.getElem?_cons_zero, Option.some.injEq] at hb
      subst hb
      simp
    | succ j =>
      simp only [List.getElem?_cons_succ] at hb
      have : x.1 ≠ k := fun e => hn'.1 (List.mem_map.mpr ⟨_, List.mem_of_getElem? hb, e.symm⟩)
      simp only [List.find?_cons, this, decide_false]
      exact ih hn'.2 hb
noncomputable def keysI (b : List (Key × Int)) : List Int := b.map fun x => x.1.getD 0
theorem KS.keysEq {b : List (Key × Int)} (h : KS b) : b.map (·.1) = (keysI b).map some := by
  unfold Mine.keysI
  rw [List.map_map]
  refine List.map_congr_left fun x hx => ?_
  obtain ⟨k, e, _⟩ := h x hx
  simp [e]
theorem KS.getI {b : List (Key × Int)} (h : KS b) (hn : (b.map (·.1)).Nodup) {k : Int} (hk : k ∈ keysI b) : ∃ v, dget b (some k) = some v := by
  unfold Mine.keysI at hk
  obtain ⟨x, hx, rfl⟩ := List.mem_map.mp hk
  obtain ⟨j, e, _⟩ := h x hx
  obtain ⟨i, hi⟩ := List.mem_iff_getElem?.mp hx
  refine ⟨x.2, dget_at hn (j := i) ?_⟩
  rw [hi, e, Option.getD_some, ← e]
noncomputable def valsI (b : List (Key × Int)) : List Int := (keysI b).map fun k => (dget b (some k)).getD 0
theorem KS.valsEq {b : List (Key × Int)} (h : KS b) (hn : (b.map (·.1)).Nodup) : valsI b = b.map (·.2) := by
  unfold Mine.valsI Mine.keysI
  rw [List.map_map]
  refine List.map_congr_left fun x hx => ?_
  obtain ⟨j, e, _⟩ := h x hx
  obtain ⟨i, hi⟩ := List.mem_iff_getElem?.mp hx
  have := dget_at hn (j := i) (k := some j) (v := x.2) (by rw [hi, ← e])
  simp only [Function.comp, e, Option.getD_some, this]
theorem dput_pos (b : List (Key × Int)) (k : Key) (v : Int) : 0 < (dput b k v).length ∧ b.length ≤ (dput b k v).length := by
  unfold dput
  split
  · rename_i h
    obtain ⟨x, hx, _⟩ := List.any_eq_true.mp h
    rw [List.length_map]
    exact ⟨List.length_pos_of_mem hx, Nat.le_refl _⟩
  · rw [List.length_append, List.length_singleton]; omega
theorem putWays_len (price : Int) : ∀ (ways : List Int) (a : List (Key × Int)), a.length ≤ (putWays price a ways).length ∧ (ways ≠ [] → 0 < (putWays price a ways).length)
  | [], a => ⟨Nat.le_refl _, fun h => absurd rfl h⟩
  | w :: r, a => by
    have h1 := dput_pos a (some w) (if (dget a (some w)).getD price < price then (dget a (some w)).getD price else price)
    have h2 := putWays_len price r (putWay price a w)
    have e : putWays price a (w :: r) = putWays price (putWay price a w) r := rfl
    have h3 : 0 < (putWay price a w).length ∧ a.length ≤ (putWay price a w).length := h1
    rw [e]
    exact ⟨by omega, fun _ => by omega⟩
theorem ways_ne {room th ly : Int} (hr : 1 ≤ room) : waysOf room th ly ≠ [] := by
  unfold waysOf
  split
  · simp
  · split
    · simp
    · rename_i h
      intro e
      have := congrArg List.length e
      rw [List.length_map, List.length_nil] at this
      rw [this] at h
      omega
theorem turns_len (room th : Int) : ∀ (b a : List (Key × Int)), a.length ≤ (b.foldl (leastTurn room th) a).length
  | [], a => Nat.le_refl _
  | x :: r, a => Nat.le_trans (putWays_len (priceOf th (x.1.getD 0) x.2) (waysOf room th (x.1.getD 0)) a).1 (turns_len room th r _)
theorem least_pos {room : Int} (hr : 1 ≤ room) : ∀ (ns : List Int) (b : List (Key × Int)), 0 < b.length → 0 < (ns.foldl (leastStep room) b).length
  | [], _, h => h
  | th :: r, b, h => by
    refine least_pos hr r (leastStep room b th) ?_
    cases b with
    | nil => exact absurd h (Nat.lt_irrefl _)
    | cons x b => exact Nat.lt_of_lt_of_le ((putWays_len (priceOf th (x.1.getD 0) x.2) (waysOf room th (x.1.getD 0)) []).2 (ways_ne hr)) (turns_len room th b (leastTurn room th [] x))
theorem leastAt_pos {room : Int} (hr : 1 ≤ room) (ns : List Int) (i : Nat) : 0 < (leastAt room ns i).length := least_pos hr _ _ (by decide)
theorem bits_length (ly : Int) : (bitsOf ly).length ≤ 4 := List.length_filter_le _ _
theorem bits_mem {ly one : Int} (h : one ∈ bitsOf ly) : 0 ≤ one ∧ one < 4 := by
  have := mem_rangeKs (List.mem_filter.mp h).1
  omega
theorem fresh_C9 : True := by w_top off; trivial

theorem cutTail3 {G : Heap → Nat → Addr → Prop} {P : Prop} {H : Heap → Nat → Addr → Prop} (main : (∀ h t a, H h t a → G h t a) → P) (tail : ∀ h t a, H h t a → G h t a) : P := main tail
inductive LeastJ (w : World) (ns : List Int) (room : Int) (tr : Tok) (L' : Addr) (i : Nat) (m : Str → Option Value) (nx : List (Addr × Obj)) : Prop
  | intro (p : Addr) (op : Obj) (oP : Obj) (oT : Obj) (oL : Obj) (vT : Option Value) (vL : Option Value) (q0 : m (Str.ofString "room") = some (.int room tr)) (q1 : nx = [(p, op), (L' + 1 + 1 + 1, oL), (L' + 1 + 1, oT), (L' + 1, oP)]) (q2 : ((p == sysModules) = false)) (q3 : (@Ne Nat (L' + 1 + 1 + 1) p)) (q4 : (@Ne Nat (L' + 1 + 1) p)) (q5 : (@Ne Nat (L' + 1) p)) (q6 : (oL.data = .cell vL)) (q7 : (oT.data = .cell vT)) (q8 : (oP.data = .cell (some (.ref p)))) (q9 : (DObj w op (leastAt room ns i))) : LeastJ w ns room tr L' i m nx
theorem LeastJ.mk {w : World} {ns : List Int} {room : Int} {tr : Tok} {L' : Addr} {i : Nat} {m : Str → Option Value} {p : Addr} {op : Obj} {oP : Obj} {oT : Obj} {oL : Obj} {vT : Option Value} {vL : Option Value} (h0 : m (Str.ofString "room") = some (.int room tr)) (lo : (p == sysModules) = false) (n1 : @Ne Nat (L' + 1 + 1 + 1) p) (n2 : @Ne Nat (L' + 1 + 1) p) (n3 : @Ne Nat (L' + 1) p) (hL : oL.data = .cell vL) (hT : oT.data = .cell vT) (hP : oP.data = .cell (some (.ref p))) (hD : DObj w op (leastAt room ns i)) : LeastJ w ns room tr L' i m [(p, op), (L' + 1 + 1 + 1, oL), (L' + 1 + 1, oT), (L' + 1, oP)] :=
  ⟨p, op, oP, oT, oL, vT, vL, h0, rfl, lo, n1, n2, n3, hL, hT, hP, hD⟩
theorem LeastJ.off {w : World} {ns : List Int} {room : Int} {tr : Tok} {L' : Addr} {i : Nat} {m : Str → Option Value} {nx : List (Addr × Obj)} (x : LeastJ w ns room tr L' i m nx)  : ∀ p ∈ nx, NotIt "list_iterator" p.2 := by
  obtain ⟨p, op, oP, oT, oL, vT, vL, h0, rfl, lo, n1, n2, n3, hL, hT, hP, hD⟩ := x
  intro p hp
  rcases List.mem_cons.mp hp with rfl | hp
  · exact hD.notIt (by decide)
  rcases List.mem_cons.mp hp with rfl | hp
  · exact .inr ⟨_, hL⟩
  rcases List.mem_cons.mp hp with rfl | hp
  · exact .inr ⟨_, hT⟩
  rcases List.mem_cons.mp hp with rfl | hp
  · exact .inr ⟨_, hP⟩
  cases hp
theorem LeastJ.turn {P : Prop} {w : World} {ns : List Int} {room : Int} {tr : Tok} {L' : Addr} {i : Nat} {m : Str → Option Value} {nx : List (Addr × Obj)} {g₀ hp : Heap} {I : Addr} {oI : Obj} (x : LeastJ w ns room tr L' i m nx) (F : Fr g₀ L' hp m) (N : News g₀ L' hp ((I, oI) :: nx)) (hne : ∀ p ∈ nx, p.1 ≠ I)
    (k : ∀ (p : Addr) (op : Obj) (oP : Obj) (oT : Obj) (oL : Obj) (vT : Option Value) (vL : Option Value) u, Fr g₀ L' hp (fr [(Str.ofString "room", .int room tr)] u) → News g₀ L' hp ((I, oI) :: [(p, op), (L' + 1 + 1 + 1, oL), (L' + 1 + 1, oT), (L' + 1, oP)]) → (@Ne Nat (p) I) → (@Ne Nat (L' + 1 + 1 + 1) I) → (@Ne Nat (L' + 1 + 1) I) → (@Ne Nat (L' + 1) I) → ((p == sysModules) = false) → (@Ne Nat (L' + 1 + 1 + 1) p) → (@Ne Nat (L' + 1 + 1) p) → (@Ne Nat (L' + 1) p) → (oL.data = .cell vL) → (oT.data = .cell vT) → (oP.data = .cell (some (.ref p))) → (DObj w op (leastAt room ns i)) → P) : P := by
  obtain ⟨p, op, oP, oT, oL, vT, vL, h0, rfl, lo, n1, n2, n3, hL, hT, hP, hD⟩ := x
  obtain ⟨u, rfl⟩ := fr_eq (m := m) [(Str.ofString "room", .int room tr)] ⟨h0, trivial⟩
  exact k p op oP oT oL vT vL u F N (hne _ (.head _)) (hne _ (.tail _ (.head _))) (hne _ (.tail _ (.tail _ (.head _)))) (hne _ (.tail _ (.tail _ (.tail _ (.head _))))) lo n1 n2 n3 hL hT hP hD
theorem LeastJ.done {P : Prop} {w : World} {ns : List Int} {room : Int} {tr : Tok} {L' : Addr} {i : Nat} {m : Str → Option Value} {nx : List (Addr × Obj)} {g₀ hp : Heap} (x : LeastJ w ns room tr L' i m nx) (F : Fr g₀ L' hp m) (N : News g₀ L' hp nx)
    (k : ∀ (p : Addr) (op : Obj) (oP : Obj) (oT : Obj) (oL : Obj) (vT : Option Value) (vL : Option Value) u, Fr g₀ L' hp (fr [(Str.ofString "room", .int room tr)] u) → News g₀ L' hp [(p, op), (L' + 1 + 1 + 1, oL), (L' + 1 + 1, oT), (L' + 1, oP)] → ((p == sysModules) = false) → (@Ne Nat (L' + 1 + 1 + 1) p) → (@Ne Nat (L' + 1 + 1) p) → (@Ne Nat (L' + 1) p) → (oL.data = .cell vL) → (oT.data = .cell vT) → (oP.data = .cell (some (.ref p))) → (DObj w op (leastAt room ns i)) →  P) : P := by
  obtain ⟨p, op, oP, oT, oL, vT, vL, h0, rfl, lo, n1, n2, n3, hL, hT, hP, hD⟩ := x
  obtain ⟨u, rfl⟩ := fr_eq (m := m) [(Str.ofString "room", .int room tr)] ⟨h0, trivial⟩
  exact k p op oP oT oL vT vL u F N lo n1 n2 n3 hL hT hP hD
inductive AfterJ (w : World) (ns : List Int) (room th : Int) (tr : Tok) (L' : Addr) (i : Nat) (p I0 : Addr) (o0 op oT oP : Obj) (j : Nat) (m : Str → Option Value) (nx : List (Addr × Obj)) : Prop
  | intro (a : Addr) (oa : Obj) (oL : Obj) (vL : Option Value) (q0 : m (Str.ofString "room") = some (.int room tr)) (q1 : m (Str.ofString "after") = some (.ref a)) (q2 : nx = [(a, oa), (I0, o0), (p, op), (L' + 1 + 1 + 1, oL), (L' + 1 + 1, oT), (L' + 1, oP)]) (q3 : ((a == sysModules) = false)) (q4 : (@Ne Nat I0 a)) (q5 : (@Ne Nat p a)) (q6 : (@Ne Nat (L' + 1 + 1 + 1) a)) (q7 : (@Ne Nat (L' + 1 + 1) a)) (q8 : (@Ne Nat (L' + 1) a)) (q9 : (oL.data = .cell vL)) (q10 : (DObj w oa (((leastAt room ns i).take j).foldl (leastTurn room th) []))) : AfterJ w ns room th tr L' i p I0 o0 op oT oP j m nx
theorem AfterJ.mk {w : World} {ns : List Int} {room th : Int} {tr : Tok} {L' : Addr} {i : Nat} {p I0 : Addr} {o0 op oT oP : Obj} {j : Nat} {m : Str → Option Value} {a : Addr} {oa : Obj} {oL : Obj} {vL : Option Value} (h0 : m (Str.ofString "room") = some (.int room tr)) (h1 : m (Str.ofString "after") = some (.ref a)) (lo : (a == sysModules) = false) (a1 : @Ne Nat I0 a) (a2 : @Ne Nat p a) (a3 : @Ne Nat (L' + 1 + 1 + 1) a) (a4 : @Ne Nat (L' + 1 + 1) a) (a5 : @Ne Nat (L' + 1) a) (hL : oL.data = .cell vL) (hA : DObj w oa (((leastAt room ns i).take j).foldl (leastTurn room th) [])) : AfterJ w ns room th tr L' i p I0 o0 op oT oP j m [(a, oa), (I0, o0), (p, op), (L' + 1 + 1 + 1, oL), (L' + 1 + 1, oT), (L' + 1, oP)] :=
  ⟨a, oa, oL, vL, h0, h1, rfl, lo, a1, a2, a3, a4, a5, hL, hA⟩
theorem AfterJ.off {w : World} {ns : List Int} {room th : Int} {tr : Tok} {L' : Addr} {i : Nat} {p I0 : Addr} {o0 op oT oP : Obj} {j : Nat} {m : Str → Option Value} {nx : List (Addr × Obj)} {nx₀ : List (Addr × Obj)} (x : AfterJ w ns room th tr L' i p I0 o0 op oT oP j m nx) (k1 : (I0, o0) ∈ nx₀) (k2 : (p, op) ∈ nx₀) (k4 : (L' + 1 + 1, oT) ∈ nx₀) (k5 : (L' + 1, oP) ∈ nx₀) : ∀ p ∈ nx, NotIt "dict_keyiterator" p.2 ∨ p ∈ nx₀ := by
  obtain ⟨a, oa, oL, vL, h0, h1, rfl, lo, a1, a2, a3, a4, a5, hL, hA⟩ := x
  intro p hp
  rcases List.mem_cons.mp hp with rfl | hp
  · exact .inl (hA.notIt (by decide))
  rcases List.mem_cons.mp hp with rfl | hp
  · exact .inr k1
  rcases List.mem_cons.mp hp with rfl | hp
  · exact .inr k2
  rcases List.mem_cons.mp hp with rfl | hp
  · exact .inl (.inr ⟨_, hL⟩)
  rcases List.mem_cons.mp hp with rfl | hp
  · exact .inr k4
  rcases List.mem_cons.mp hp with rfl | hp
  · exact .inr k5
  cases hp
theorem AfterJ.it {w : World} {ns : List Int} {room th : Int} {tr : Tok} {L' : Addr} {i : Nat} {p I0 : Addr} {o0 op oT oP : Obj} {j : Nat} {m : Str → Option Value} {nx : List (Addr × Obj)} (x : AfterJ w ns room th tr L' i p I0 o0 op oT oP j m nx) : (p, op) ∈ nx := by
  obtain ⟨a, oa, oL, vL, h0, h1, rfl, lo, a1, a2, a3, a4, a5, hL, hA⟩ := x
  exact .tail _ (.tail _ (.head _))
theorem AfterJ.turn {P : Prop} {w : World} {ns : List Int} {room th : Int} {tr : Tok} {L' : Addr} {i : Nat} {p I0 : Addr} {o0 op oT oP : Obj} {j : Nat} {m : Str → Option Value} {nx : List (Addr × Obj)} {g₀ hp : Heap} {I : Addr} {oI : Obj} (x : AfterJ w ns room th tr L' i p I0 o0 op oT oP j m nx) (F : Fr g₀ L' hp m) (N : News g₀ L' hp ((I, oI) :: nx)) (hne : ∀ p ∈ nx, p.1 ≠ I)
    (k : ∀ (a : Addr) (oa : Obj) (oL : Obj) (vL : Option Value) u, Fr g₀ L' hp (fr [(Str.ofString "room", .int room tr), (Str.ofString "after", .ref a)] u) → News g₀ L' hp ((I, oI) :: [(a, oa), (I0, o0), (p, op), (L' + 1 + 1 + 1, oL), (L' + 1 + 1, oT), (L' + 1, oP)]) → (@Ne Nat (a) I) → (@Ne Nat (I0) I) → (@Ne Nat (p) I) → (@Ne Nat (L' + 1 + 1 + 1) I) → (@Ne Nat (L' + 1 + 1) I) → (@Ne Nat (L' + 1) I) → ((a == sysModules) = false) → (@Ne Nat I0 a) → (@Ne Nat p a) → (@Ne Nat (L' + 1 + 1 + 1) a) → (@Ne Nat (L' + 1 + 1) a) → (@Ne Nat (L' + 1) a) → (oL.data = .cell vL) → (DObj w oa (((leastAt room ns i).take j).foldl (leastTurn room th) [])) → P) : P := by
  obtain ⟨a, oa, oL, vL, h0, h1, rfl, lo, a1, a2, a3, a4, a5, hL, hA⟩ := x
  obtain ⟨u, rfl⟩ := fr_eq (m := m) [(Str.ofString "room", .int room tr), (Str.ofString "after", .ref a)] ⟨h0, h1, trivial⟩
  exact k a oa oL vL u F N (hne _ (.head _)) (hne _ (.tail _ (.head _))) (hne _ (.tail _ (.tail _ (.head _)))) (hne _ (.tail _ (.tail _ (.tail _ (.head _))))) (hne _ (.tail _ (.tail _ (.tail _ (.tail _ (.head _)))))) (hne _ (.tail _ (.tail _ (.tail _ (.tail _ (.tail _ (.head _))))))) lo a1 a2 a3 a4 a5 hL hA
theorem AfterJ.done {P : Prop} {w : World} {ns : List Int} {room th : Int} {tr : Tok} {L' : Addr} {i : Nat} {p I0 : Addr} {o0 op oT oP : Obj} {j : Nat} {m : Str → Option Value} {nx : List (Addr × Obj)} {g₀ hp : Heap} (x : AfterJ w ns room th tr L' i p I0 o0 op oT oP j m nx) (F : Fr g₀ L' hp m) (N : News g₀ L' hp nx)
    (k : ∀ (a : Addr) (oa : Obj) (oL : Obj) (vL : Option Value) u, Fr g₀ L' hp (fr [(Str.ofString "room", .int room tr), (Str.ofString "after", .ref a)] u) → News g₀ L' hp [(a, oa), (I0, o0), (p, op), (L' + 1 + 1 + 1, oL), (L' + 1 + 1, oT), (L' + 1, oP)] → ((a == sysModules) = false) → (@Ne Nat I0 a) → (@Ne Nat p a) → (@Ne Nat (L' + 1 + 1 + 1) a) → (@Ne Nat (L' + 1 + 1) a) → (@Ne Nat (L' + 1) a) → (oL.data = .cell vL) → (DObj w oa (((leastAt room ns i).take j).foldl (leastTurn room th) [])) →  P) : P := by
  obtain ⟨a, oa, oL, vL, h0, h1, rfl, lo, a1, a2, a3, a4, a5, hL, hA⟩ := x
  obtain ⟨u, rfl⟩ := fr_eq (m := m) [(Str.ofString "room", .int room tr), (Str.ofString "after", .ref a)] ⟨h0, h1, trivial⟩
  exact k a oa oL vL u F N lo a1 a2 a3 a4 a5 hL hA
inductive WaysJ (w : World) (ns : List Int) (room th ly pr : Int) (tr : Tok) (L' : Addr) (i j : Nat) (a p I0 I1 wl : Addr) (o0 o1 op oL oT oP ow : Obj) (q : Nat) (m : Str → Option Value) (nx : List (Addr × Obj)) : Prop
  | intro (oa : Obj) (t : Tok) (q0 : m (Str.ofString "room") = some (.int room tr)) (q1 : m (Str.ofString "after") = some (.ref a)) (q2 : m (Str.ofString "price") = some (.int (priceOf th ly pr) t)) (q3 : nx = [(wl, ow), (I1, o1), (a, oa), (I0, o0), (p, op), (L' + 1 + 1 + 1, oL), (L' + 1 + 1, oT), (L' + 1, oP)]) (q4 : (DObj w oa (putWays (priceOf th ly pr) (((leastAt room ns i).take j).foldl (leastTurn room th) []) ((waysOf room th ly).take q)))) : WaysJ w ns room th ly pr tr L' i j a p I0 I1 wl o0 o1 op oL oT oP ow q m nx
theorem WaysJ.mk {w : World} {ns : List Int} {room th ly pr : Int} {tr : Tok} {L' : Addr} {i j : Nat} {a p I0 I1 wl : Addr} {o0 o1 op oL oT oP ow : Obj} {q : Nat} {m : Str → Option Value} {oa : Obj} {t : Tok} (h0 : m (Str.ofString "room") = some (.int room tr)) (h1 : m (Str.ofString "after") = some (.ref a)) (h2 : m (Str.ofString "price") = some (.int (priceOf th ly pr) t)) (hA : DObj w oa (putWays (priceOf th ly pr) (((leastAt room ns i).take j).foldl (leastTurn room th) []) ((waysOf room th ly).take q))) : WaysJ w ns room th ly pr tr L' i j a p I0 I1 wl o0 o1 op oL oT oP ow q m [(wl, ow), (I1, o1), (a, oa), (I0, o0), (p, op), (L' + 1 + 1 + 1, oL), (L' + 1 + 1, oT), (L' + 1, oP)] :=
  ⟨oa, t, h0, h1, h2, rfl, hA⟩
theorem WaysJ.off {w : World} {ns : List Int} {room th ly pr : Int} {tr : Tok} {L' : Addr} {i j : Nat} {a p I0 I1 wl : Addr} {o0 o1 op oL oT oP ow : Obj} {q : Nat} {m : Str → Option Value} {nx : List (Addr × Obj)} {nx₀ : List (Addr × Obj)} (x : WaysJ w ns room th ly pr tr L' i j a p I0 I1 wl o0 o1 op oL oT oP ow q m nx) (k0 : (wl, ow) ∈ nx₀) (k1 : (I1, o1) ∈ nx₀) (k3 : (I0, o0) ∈ nx₀) (k4 : (p, op) ∈ nx₀) (k5 : (L' + 1 + 1 + 1, oL) ∈ nx₀) (k6 : (L' + 1 + 1, oT) ∈ nx₀) (k7 : (L' + 1, oP) ∈ nx₀) : ∀ p ∈ nx, NotIt "list_iterator" p.2 ∨ p ∈ nx₀ := by
  obtain ⟨oa, t, h0, h1, h2, rfl, hA⟩ := x
  intro p hp
  rcases List.mem_cons.mp hp with rfl | hp
  · exact .inr k0
  rcases List.mem_cons.mp hp with rfl | hp
  · exact .inr k1
  rcases List.mem_cons.mp hp with rfl | hp
  · exact .inl (hA.notIt (by decide))
  rcases List.mem_cons.mp hp with rfl | hp
  · exact .inr k3
  rcases List.mem_cons.mp hp with rfl | hp
  · exact .inr k4
  rcases List.mem_cons.mp hp with rfl | hp
  · exact .inr k5
  rcases List.mem_cons.mp hp with rfl | hp
  · exact .inr k6
  rcases List.mem_cons.mp hp with rfl | hp
  · exact .inr k7
  cases hp
theorem WaysJ.it {w : World} {ns : List Int} {room th ly pr : Int} {tr : Tok} {L' : Addr} {i j : Nat} {a p I0 I1 wl : Addr} {o0 o1 op oL oT oP ow : Obj} {q : Nat} {m : Str → Option Value} {nx : List (Addr × Obj)} (x : WaysJ w ns room th ly pr tr L' i j a p I0 I1 wl o0 o1 op oL oT oP ow q m nx) : (wl, ow) ∈ nx := by
  obtain ⟨oa, t, h0, h1, h2, rfl, hA⟩ := x
  exact .head _
theorem WaysJ.turn {P : Prop} {w : World} {ns : List Int} {room th ly pr : Int} {tr : Tok} {L' : Addr} {i j : Nat} {a p I0 I1 wl : Addr} {o0 o1 op oL oT oP ow : Obj} {q : Nat} {m : Str → Option Value} {nx : List (Addr × Obj)} {g₀ hp : Heap} {I : Addr} {oI : Obj} (x : WaysJ w ns room th ly pr tr L' i j a p I0 I1 wl o0 o1 op oL oT oP ow q m nx) (F : Fr g₀ L' hp m) (N : News g₀ L' hp ((I, oI) :: nx)) (hne : ∀ p ∈ nx, p.1 ≠ I)
    (k : ∀ (oa : Obj) (t : Tok) u, Fr g₀ L' hp (fr [(Str.ofString "room", .int room tr), (Str.ofString "after", .ref a), (Str.ofString "price", .int (priceOf th ly pr) t)] u) → News g₀ L' hp ((I, oI) :: [(wl, ow), (I1, o1), (a, oa), (I0, o0), (p, op), (L' + 1 + 1 + 1, oL), (L' + 1 + 1, oT), (L' + 1, oP)]) → (@Ne Nat (wl) I) → (@Ne Nat (I1) I) → (@Ne Nat (a) I) → (@Ne Nat (I0) I) → (@Ne Nat (p) I) → (@Ne Nat (L' + 1 + 1 + 1) I) → (@Ne Nat (L' + 1 + 1) I) → (@Ne Nat (L' + 1) I) → (DObj w oa (putWays (priceOf th ly pr) (((leastAt room ns i).take j).foldl (leastTurn room th) []) ((waysOf room th ly).take q))) → P) : P := by
  obtain ⟨oa, t, h0, h1, h2, rfl, hA⟩ := x
  obtain ⟨u, rfl⟩ := fr_eq (m := m) [(Str.ofString "room", .int room tr), (Str.ofString "after", .ref a), (Str.ofString "price", .int (priceOf th ly pr) t)] ⟨h0, h1, h2, trivial⟩
  exact k oa t u F N (hne _ (.head _)) (hne _ (.tail _ (.head _))) (hne _ (.tail _ (.tail _ (.head _)))) (hne _ (.tail _ (.tail _ (.tail _ (.head _))))) (hne _ (.tail _ (.tail _ (.tail _ (.tail _ (.head _)))))) (hne _ (.tail _ (.tail _ (.tail _ (.tail _ (.tail _ (.head _))))))) (hne _ (.tail _ (.tail _ (.tail _ (.tail _ (.tail _ (.tail _ (.head _)))))))) (hne _ (.tail _ (.tail _ (.tail _ (.tail _ (.tail _ (.tail _ (.tail _ (.head _))))))))) hA
theorem WaysJ.done {P : Prop} {w : World} {ns : List Int} {room th ly pr : Int} {tr : Tok} {L' : Addr} {i j : Nat} {a p I0 I1 wl : Addr} {o0 o1 op oL oT oP ow : Obj} {q : Nat} {m : Str → Option Value} {nx : List (Addr × Obj)} {g₀ hp : Heap} (x : WaysJ w ns room th ly pr tr L' i j a p I0 I1 wl o0 o1 op oL oT oP ow q m nx) (F : Fr g₀ L' hp m) (N : News g₀ L' hp nx)
    (k : ∀ (oa : Obj) (t : Tok) u, Fr g₀ L' hp (fr [(Str.ofString "room", .int room tr), (Str.ofString "after", .ref a), (Str.ofString "price", .int (priceOf th ly pr) t)] u) → News g₀ L' hp [(wl, ow), (I1, o1), (a, oa), (I0, o0), (p, op), (L' + 1 + 1 + 1, oL), (L' + 1 + 1, oT), (L' + 1, oP)] → (DObj w oa (putWays (priceOf th ly pr) (((leastAt room ns i).take j).foldl (leastTurn room th) []) ((waysOf room th ly).take q))) →  P) : P := by
  obtain ⟨oa, t, h0, h1, h2, rfl, hA⟩ := x
  obtain ⟨u, rfl⟩ := fr_eq (m := m) [(Str.ofString "room", .int room tr), (Str.ofString "after", .ref a), (Str.ofString "price", .int (priceOf th ly pr) t)] ⟨h0, h1, h2, trivial⟩
  exact k oa t u F N hA
set_option maxRecDepth 100000 in
set_option maxHeartbeats 8000000 in
theorem least_ok (w : World) (s : Shared) (l : Addr) (ns : List Int) (room : Int) (tr : Tok) (hroom : 1 ≤ room) (hlen : ns.length = 9) (hns : ∀ x ∈ ns, 0 ≤ x ∧ x < 4) (D : Lst s.heap l ns) :
    CallOk w 1 157 [.ref l, .int room tr] [] s (fun v h' => ∃ M t, v = .int M t ∧ M ∈ (leastAt room ns 9).map (·.2) ∧ ∀ a ∈ (leastAt room ns 9).map (·.2), M ≤ a) := by
  k_dflt (refine' CallOk.introC (binds := [(Str.ofString "asked", .ref l), (Str.ofString "room", .int room tr)]) (ho := ?ho) (hcd := ?hcd) (hbind := ?hb) (hkind := ?hl) (hnd := ?hc) (hco := ?h1) (hgen := ?h2) (hk := ?h3) ?_; (case ho => k_is); (case hcd => k_is); (case hb => intro X9; exact BindsTo.of_eq rfl); (case hc => decide +kernel); (case hl => exact rfl); (case h1 => exact rfl); (case h2 => exact rfl); (case h3 => exact rfl); k_whole)
  intro loose mean mg mb dp un gd env outer A₀ base L' h₁ tk cells B F X N Y T hd hu
  obtain ⟨oC, oC2, oC3, hE, dC, dC2, dC3⟩ := CellsAre.three Y
  subst hE
  (try dsimp only); (try k_fold)
  k_steps
  (with_reducible rename Fr _ _ _ _ => F2); (with_reducible rename News _ _ _ _ => N2); (rename _ = Data.cell (some (Value.ref _)) => dp0)
  obtain ⟨vs, hvl, hvi⟩ := id D
  have hvl2 := hvl.at (fun o e => F2.keep _ o e)
  refine listA (vs := vs) (LeastJ w ns room tr L') rfl hvl2 (.inl (let ⟨o, e, _⟩ := hvl; ⟨o, e⟩)) F2 N2 (LeastJ.mk rfl (by assumption) (by omega) (by omega) (by omega) dC dC2 dp0 (by assumption)) ?_ ?_ ?_
  · exact fun i m nx x p hp => x.off p hp
  · intro i vth m₁ nx hp tk I0 o0 hvi' hJ hc hne F₁ N₁
    generalize hQQ : TurnJ _ _ _ _ _ _ = QQ
    refine hJ.turn F₁ N₁ hne ?_
    clear F₁ N₁ hne hJ
    intro p op oP oT oL vT vL u F₁ N₁ e1 e2 e3 e4 loP n1 n2 n3 hL hT hP hD
    obtain ⟨th, tt, rfl, hth⟩ := IntsAre.at hvi i vth hvi'
    have hi : i < 9 := by have := (List.getElem?_eq_some_iff.mp hth).1; omega
    obtain ⟨t0, t1⟩ := hns th (List.mem_of_getElem? hth)
    have ks := ks_leastAt (room := room) hns i
    have ksl := ks.length hD.nodup
    (try k_fold)
    k_steps
    (with_reducible rename Fr _ _ _ _ => F3); (with_reducible rename News _ _ _ _ => N3); (rename _ = Data.cell (some (Value.int th tt)) => dt0); (with_reducible rename DObj _ _ [] => hA0); (rename (_ == sysModules) = false => loA); (rename Addr => a0)
    obtain ⟨oT', oa0, dt1, hA1, N3'⟩ : ∃ o oa0 : Obj, o.data = .cell (some (.int th tt)) ∧ DObj w oa0 [] ∧ News s.heap L' _ [(a0, oa0), (I0, o0), (p, op), (L' + 1 + 1 + 1, oL), (L' + 1 + 1, o), (L' + 1, oP)] := ⟨_, _, dt0, hA0, N3⟩
    refine keysB (b := leastAt room ns i) (AfterJ w ns room th tr L' i p I0 o0 op oT' oP) rfl (by tb_start) (.inr ⟨op, ?_⟩) F3 N3' (AfterJ.mk rfl rfl loA (by omega) (by omega) (by omega) (by omega) (by omega) hL hA1) ?_ ?_ ?_
    · exact fun j m nx x => x.it
    · exact fun j m nx x => x.off (by k_mem) (by k_mem) (by k_mem) (by k_mem)
    · intro j k key pr m₁ nx hp tk I1 o1 hb hkey hJ hc1 hne1 F₁ N₁
      generalize hQ1 : TurnJ _ _ _ _ _ _ = Q1
      refine hJ.turn F₁ N₁ hne1 ?_
      clear F₁ N₁ hne1 hJ
      intro a oa oL vL u F₁ N₁ g1 g2 g3 g4 g5 g6 loA a1 a2 a3 a4 a5 hL hA
      obtain ⟨ly, rfl, ly0, ly1⟩ := ks _ (List.mem_of_getElem? hb)
      obtain ⟨tl, rfl⟩ := keyIs_some hkey
      (try k_fold)
      k_steps
      (with_reducible rename Fr _ _ _ _ => F4); (with_reducible rename News _ _ _ _ => N4); (rename _ = Data.cell (some (Value.int ly tl)) => dl0)
      obtain ⟨oL', dl1, N4'⟩ : ∃ o : Obj, o.data = .cell (some (.int ly tl)) ∧ News s.heap L' _ [(I1, o1), (a, oa), (I0, o0), (p, op), (L' + 1 + 1 + 1, o), (L' + 1 + 1, oT'), (L' + 1, oP)] := ⟨_, dl0, N4⟩
      refine Stop.off ?_
      with_unfolding_all refine compA (fun one => (ly.fdiv (2 ^ one.toNat)).fmod 2 == 1) (fun k => k) F4 N4' (by rfl) (by rfl) (by rfl) (by decide) (by rfl) (by decide) (by rfl) (by rfl) (by rfl) (by rfl) ?_
      k_steps
      (with_reducible rename Fr _ _ _ _ => F5); (with_reducible rename News _ _ _ _ => N5); (with_reducible rename IsRange _ _ _ _ _ _ _ _ => hr5)
      have gL := (N5 (L' + 1 + 1 + 1, _) (by k_mem)).1
      dsimp only at gL
      refine Stop.off ⟨rangeKs 0 4, SrcI.range hr5 rfl rfl, by rw [rangeKs_length]; omega, F5, N5, ⟨?_, ?_⟩, ?_⟩
      · intro C k t' s₃ m₃ E' hk F6 hm6
        have N6 := fr_nil F6
        have hk' := mem_rangeKs hk
        refine tests_one ?_
        (try k_fold)
        k_steps
      · intro C k t' s₃ m₃ E' hk _ F6 hm6
        k_steps
      · intro D7 vs7 n7 h' tk F7 N7 off7 hvs7
        replace off7 := offP_of off7
        simp only [offP, and_true] at off7
        rw [List.map_id'] at hvs7
        change IntsAre vs7 (bitsOf ly) at hvs7
        have bl := bits_length ly
        have hv := dget_at hD.nodup hb
        apply cutTail3 (H := fun h8 _ wl => ∃ (wvs : List Value) (nw : Nat) (y : Str → Option Value) (t : Tok), News s.heap L' h8 [(wl, listOf wvs.toArray nw), (I1, o1), (a, oa), (I0, o0), (p, op), (L' + 1 + 1 + 1, oL'), (L' + 1 + 1, oT'), (L' + 1, oP)] ∧ IntsAre wvs (waysOf room th ly) ∧ Fr s.heap L' h8 y ∧ y (Str.ofString "room") = some (.int room tr) ∧ y (Str.ofString "after") = some (.ref a) ∧ y (Str.ofString "price") = some (.int (priceOf th ly pr) t) ∧ (@Ne Nat I1 wl) ∧ (@Ne Nat a wl) ∧ (@Ne Nat I0 wl) ∧ (@Ne Nat p wl) ∧ (@Ne Nat (L' + 1 + 1 + 1) wl) ∧ (@Ne Nat (L' + 1 + 1) wl) ∧ (@Ne Nat (L' + 1) wl))
        · intro cut
          (try k_fold)
          k_steps
          · have hcon : (bitsOf ly).contains th = true := by first | with_reducible assumption | (rw [← any_beq_contains]; assumption)
            have hpr : priceOf th ly pr = pr := by unfold priceOf; rw [hcon]; rfl
            refine iter_named ?_
            rintro wl hwl
            subst hwl
            (with_reducible rename Fr _ _ _ _ => F8); (with_reducible rename News _ _ _ _ => N8)
            obtain ⟨ow, N8', wvs, nw, rfl, hW⟩ : ∃ o : Obj, News s.heap L' _ [(wl, o), (I1, o1), (a, oa), (I0, o0), (p, op), (L' + 1 + 1 + 1, oL'), (L' + 1 + 1, oT'), (L' + 1, oP)] ∧ LObj o (waysOf room th ly) := ⟨_, Mine.News.subs N8 (by ktr_rel), by unfold waysOf; rw [hcon, if_pos rfl]; exact LObj.of (.cons _ _ .nil)⟩
            rename Heap => h8
            first | exact cut h8 tk wl ⟨wvs, nw, _, _, N8', hW, F8, rfl, rfl, (by rw [hpr]; rfl), by omega⟩ | exact cut h8 (tk + 1) wl ⟨wvs, nw, _, _, N8', hW, F8, rfl, rfl, (by rw [hpr]; rfl), by omega⟩ | exact cut _ _ _ ⟨wvs, nw, _, _, N8', hW, F8, rfl, rfl, (by rw [hpr]; rfl), by omega⟩
          · have hcon : (bitsOf ly).contains th = false := by first | with_reducible assumption | (rw [← any_beq_contains]; assumption)
            have hpr : priceOf th ly pr = pr + 1 := by unfold priceOf; rw [hcon]; rfl
            refine iter_named ?_
            rintro wl hwl
            subst hwl
            (with_reducible rename Fr _ _ _ _ => F8); (with_reducible rename News _ _ _ _ => N8)
            obtain ⟨ow, N8', wvs, nw, rfl, hW⟩ : ∃ o : Obj, News s.heap L' _ [(wl, o), (I1, o1), (a, oa), (I0, o0), (p, op), (L' + 1 + 1 + 1, oL'), (L' + 1 + 1, oT'), (L' + 1, oP)] ∧ LObj o (waysOf room th ly) := ⟨_, Mine.News.subs N8 (by ktr_rel), by unfold waysOf; rw [hcon, if_neg Bool.false_ne_true, if_pos (by assumption)]; exact LObj.of (.cons _ _ .nil)⟩
            rename Heap => h8
            first | exact cut h8 tk wl ⟨wvs, nw, _, _, N8', hW, F8, rfl, rfl, (by rw [hpr]; rfl), by omega⟩ | exact cut h8 (tk + 1) wl ⟨wvs, nw, _, _, N8', hW, F8, rfl, rfl, (by rw [hpr]; rfl), by omega⟩ | exact cut _ _ _ ⟨wvs, nw, _, _, N8', hW, F8, rfl, rfl, (by rw [hpr]; rfl), by omega⟩
          · have hcon : (bitsOf ly).contains th = false := by first | with_reducible assumption | (rw [← any_beq_contains]; assumption)
            have hpr : priceOf th ly pr = pr + 1 := by unfold priceOf; rw [hcon]; rfl
            (with_reducible rename Fr _ _ _ _ => F7b); (with_reducible rename News _ _ _ _ => N7b)
            refine Stop.off ?_
            with_unfolding_all refine compA (fun _ => true) (fun one => ly + 2 ^ th.toNat - 2 ^ one.toNat) F7b N7b (by rfl) (by rfl) (by rfl) (by decide) (by rfl) (by decide) (by rfl) (by rfl) (by rfl) (by rfl) ?_
            k_steps
            (with_reducible rename Fr _ _ _ _ => F5b); (with_reducible rename News _ _ _ _ => N5b)
            have gL' := (N5b (L' + 1 + 1 + 1, _) (by k_mem)).1
            have gT' := (N5b (L' + 1 + 1, _) (by k_mem)).1
            dsimp only at gL' gT'
            refine Stop.off ⟨bitsOf ly, SrcI.lst (by ktr_unf), by omega, F5b, N5b, ⟨?_, ?_⟩, ?_⟩
            · intro C k t' s₃ m₃ E' hk F6 hm6
              exact tests_nil ⟨rfl, _, _, rfl, fun _ _ e => e⟩
            · intro C k t' s₃ m₃ E' hk _ F6 hm6
              have N6 := fr_nil F6
              obtain ⟨k0, k1⟩ := bits_mem hk
              (try k_fold)
              k_steps
            intro wl vs8 n8 h' tk F7 N7 off8 hvs8
            replace off8 := offP_of off8
            simp only [offP, and_true] at off8
            replace hvs8 : IntsAre vs8 ((bitsOf ly).map (fun one => ly + 2 ^ th.toNat - 2 ^ one.toNat)) := by rw [List.filter_eq_self.mpr (fun _ _ => rfl)] at hvs8; exact hvs8
            (try k_fold)
            k_steps
            (with_reducible rename Fr _ _ _ _ => F8); (with_reducible rename News _ _ _ _ => N8)
            obtain ⟨ow, N8', wvs, nw, rfl, hW⟩ : ∃ o : Obj, News s.heap L' _ [(wl, o), (I1, o1), (a, oa), (I0, o0), (p, op), (L' + 1 + 1 + 1, oL'), (L' + 1 + 1, oT'), (L' + 1, oP)] ∧ LObj o (waysOf room th ly) := ⟨_, Mine.News.subs N8 (by ktr_rel), by unfold waysOf; rw [hcon, if_neg Bool.false_ne_true, if_neg (by assumption)]; exact LObj.of (by assumption)⟩
            rename Heap => h8
            first | exact cut h8 tk wl ⟨wvs, nw, _, _, N8', hW, F8, rfl, rfl, (by rw [hpr]; rfl), by omega⟩ | exact cut h8 (tk + 1) wl ⟨wvs, nw, _, _, N8', hW, F8, rfl, rfl, (by rw [hpr]; rfl), by omega⟩ | exact cut _ _ _ ⟨wvs, nw, _, _, N8', hW, F8, rfl, rfl, (by rw [hpr]; rfl), by omega⟩
        · intro h8 tk8 wl xR1; obtain ⟨wvs, nw, y8, t8, N8', hW, F8, e1, e2, e3, d1, d2, d3, d4, d5, d6, d7⟩ := xR1
          refine listB (vs := wvs) (WaysJ w ns room th ly pr tr L' i j a p I0 I1 wl o0 o1 op oL' oT' oP (listOf wvs.toArray nw)) rfl (News.isList N8' (.head _)) (.inr ⟨listOf wvs.toArray nw, ?_⟩) F8 N8' (WaysJ.mk e1 e2 e3 hA) ?_ ?_ ?_
          · exact fun q m nx x => x.it
          · exact fun q m nx x => x.off (by k_mem) (by k_mem) (by k_mem) (by k_mem) (by k_mem) (by k_mem) (by k_mem)
          · intro q vw m₁ nx hp tk I2 o2 hvw hJ hc2 hne2 F₁ N₁
            generalize hQ2 : TurnJ _ _ _ _ _ _ = Q2
            refine hJ.turn F₁ N₁ hne2 ?_
            clear F₁ N₁ hne2 hJ
            intro oa t u F₁ N₁ g1 g2 g3 g4 g5 g6 g7 g8 hA
            obtain ⟨wy, tw, rfl, hwy⟩ := IntsAre.at hW q vw hvw
            obtain ⟨w0, w1⟩ := ways_range ly0 ly1 t0 t1 wy (List.mem_of_getElem? hwy)
            have hszA := (ks_putWays (price := priceOf th ly pr) (ks_turns t0 t1 ks_nil (fun x hx => ks x (List.mem_of_mem_take hx)) : KS (((leastAt room ns i).take j).foldl (leastTurn room th) [])) (fun x hx => ways_range ly0 ly1 t0 t1 x (List.mem_of_mem_take hx) : ∀ x ∈ (waysOf room th ly).take q, 0 ≤ x ∧ x < 16)).length hA.nodup
            law_fin
            (try k_fold)
            k_steps
            (with_reducible rename Fr _ _ _ _ => F9); (with_reducible rename News _ _ _ _ => N9)
            subst hQ2
            refine TurnJ.nextS [(wl, listOf wvs.toArray nw), (I1, o1), (a, _), (I0, o0), (p, op), (L' + 1 + 1 + 1, oL'), (L' + 1 + 1, oT'), (L' + 1, oP)] F9 N9 (by ktr_rel) (WaysJ.mk rfl rfl rfl ?_)
            unfold putWays at *
            rw [List.take_add_one, hwy, List.foldl_append]
            assumption
          · intro m₁ nx hp tk hJ F₁ N₁
            refine hJ.done F₁ N₁ ?_
            clear F₁ N₁ hJ
            intro oa t u F₁ N₁ hA
            rw [hW.length, List.take_length] at hA
            dsimp only
            k_steps
            (with_reducible rename Fr _ _ _ _ => F9); (with_reducible rename News _ _ _ _ => N9)
            subst hQ1
            refine TurnJ.nextS [(a, oa), (I0, o0), (p, op), (L' + 1 + 1 + 1, oL'), (L' + 1 + 1, oT'), (L' + 1, oP)] F9 N9 (by ktr_rel) (AfterJ.mk rfl rfl loA a1 a2 a3 a4 a5 dl1 ?_)
            rw [List.take_add_one, hb, List.foldl_append]; exact hA
    · intro m₁ nx hp tk hJ F₁ N₁
      refine hJ.done F₁ N₁ ?_
      clear F₁ N₁ hJ
      intro a oa oL vL u F₁ N₁ loA a1 a2 a3 a4 a5 hL hA
      rw [List.take_length] at hA
      dsimp only
      k_steps
      (with_reducible rename Fr _ _ _ _ => F9); (with_reducible rename News _ _ _ _ => N9); (rename _ = Data.cell (some (Value.ref a)) => dp1)
      subst hQQ
      refine TurnJ.nextS [(a, oa), (L' + 1 + 1 + 1, oL), (L' + 1 + 1, oT'), (L' + 1, _)] F9 N9 (by ktr_rel) (LeastJ.mk rfl loA a3 a4 a5 hL dt1 dp1 ?_)
      rw [leastAt_succ hth]; exact hA
  · intro m₁ nx hp tk hJ F₁ N₁
    refine hJ.done F₁ N₁ ?_
    clear F₁ N₁ hJ
    intro p op oP oT oL vT vL u F₁ N₁ loP n1 n2 n3 hL hT hP hD
    rw [hvi.length, hlen] at hD
    have ks := ks_leastAt (room := room) hns 9
    have ksl := ks.length hD.nodup
    dsimp only
    k_steps
    (with_reducible rename Fr _ _ _ _ => F8); (with_reducible rename News _ _ _ _ => N8)
    refine Stop.off ?_
    with_unfolding_all refine compE (fun _ => true) (fun k => (dget (leastAt room ns 9) (some k)).getD 0) F8 N8 (by rfl) (by decide) (by rfl) (by decide) (by rfl) (by rfl) ?_
    k_steps
    (with_reducible rename Fr _ _ _ _ => F5); (with_reducible rename News _ _ _ _ => N5)
    have gP := (N5 (L' + 1, oP) (by k_mem)).1
    have D5 : Dct w _ p (leastAt room ns 9) := dct_led loP N5 (by k_mem) hD
    dsimp only at gP
    refine Stop.off ⟨keysI (leastAt room ns 9), SrcI.keys D5 ks.keysEq, by unfold keysI; rw [List.length_map]; omega, F5, N5, ⟨?_, ?_⟩, ?_⟩
    · intro C k t' s₃ m₃ E' hk F6 hm6
      exact tests_nil ⟨rfl, _, _, rfl, fun _ _ e => e⟩
    · intro C k t' s₃ m₃ E' hk _ F6 hm6
      have N6 := fr_nil F6
      obtain ⟨v, hv⟩ := ks.getI hD.nodup hk
      refine wpAny_mono (Q := fun y s₄ => (∃ u, y = .int v u) ∧ Keeps s₃ s₄) ?_ (fun y s₄ h => ⟨by obtain ⟨u, e⟩ := h.1; exact ⟨u, by dsimp only; rw [hv]; exact e⟩, h.2⟩) (fun _ _ e => e)
      (try k_fold)
      k_steps
      refine dm_item (D5.keeps F6.keep) (mk_int _ _ _) hv ?_
      intro t9
      k_steps
    · intro D7 vs7 n7 h' tk F7 N7 off7 keep7 hvs7
      replace hvs7 : IntsAre vs7 (valsI (leastAt room ns 9)) := by rw [List.filter_eq_self.mpr (fun _ _ => rfl)] at hvs7; exact hvs7
      rw [ks.valsEq hD.nodup] at hvs7
      k_steps
      (with_reducible rename Fr _ _ _ _ => F8); (with_reducible rename News _ _ _ _ => N8)
      refine min_list_N rfl F8 N8 (News.isList N8 (a := D7) (by k_mem)) hvs7 (by rw [List.length_map]; exact leastAt_pos hroom ns 9) ?_
      intro h' M t' tk' F' N' hM hmin
      dsimp only
      k_steps
      exact RetOk.intro (by assumption) ⟨M, t', rfl, hM, hmin⟩

section
noncomputable def ins (a : Int) : List Int → List Int
  | [] => [a]
  | b :: r => if a ≤ b then a :: b :: r else b :: ins a r
noncomputable def isort : List Int → List Int
  | [] => []
  | a :: r => ins a (isort r)
theorem ins_perm (a : Int) : ∀ l, (ins a l).Perm (a :: l)
  | [] => .refl _
  | b :: r => by
    unfold ins
    split
    · exact .refl _
    · exact ((ins_perm a r).cons b).trans (.swap a b r)
theorem isort_perm : ∀ l : List Int, (isort l).Perm l
  | [] => .refl _
  | a :: r => (ins_perm a _).trans ((isort_perm r).cons a)
theorem ins_sorted (a : Int) : ∀ {l : List Int}, l.Pairwise (· ≤ ·) → (ins a l).Pairwise (· ≤ ·)
  | [], _ => List.pairwise_singleton _ _
  | b :: r, h => by
    have h' := List.pairwise_cons.mp h
    unfold ins
    split
    · rename_i hab
      exact List.pairwise_cons.mpr ⟨fun x hx => by
        rcases List.mem_cons.mp hx with rfl | hx
        · exact hab
        · exact Int.le_trans hab (h'.1 x hx), h⟩
    · rename_i hab
      refine List.pairwise_cons.mpr ⟨fun x hx => ?_, ins_sorted a h'.2⟩
      rcases List.mem_cons.mp ((ins_perm a r).mem_iff.mp hx) with rfl | hx
      · omega
      · exact h'.1 x hx
theorem isort_sorted : ∀ l : List Int, (isort l).Pairwise (· ≤ ·)
  | [] => .nil
  | a :: r => ins_sorted a (isort_sorted r)
theorem sorted_unique : ∀ {l r : List Int}, l.Perm r → l.Pairwise (· ≤ ·) → r.Pairwise (· ≤ ·) → l = r
  | [], r, h, _, _ => (List.nil_perm.mp h).symm ▸ rfl
  | a :: l, [], h, _, _ => by have := h.length_eq; simp at this
  | a :: l, b :: r, h, h1, h2 => by
    have h1' := List.pairwise_cons.mp h1
    have h2' := List.pairwise_cons.mp h2
    have e : a = b := by
      have ha := h.mem_iff.mp (List.mem_cons_self : a ∈ a :: l)
      have hb := h.mem_iff.mpr (List.mem_cons_self : b ∈ b :: r)
      rcases List.mem_cons.mp ha with e | ha
      · exact e
      · rcases List.mem_cons.mp hb with e | hb
        · exact e.symm
        · have := h1'.1 b hb
          have := h2'.1 a ha
          omega
    subst e
    rw [sorted_unique (List.Perm.cons_inv h) h1'.2 h2'.2]
theorem sorted_is {l r : List Int} (h : l.Perm r) (hs : l.Pairwise (· ≤ ·)) : l = isort r := sorted_unique (h.trans (isort_perm r).symm) hs (isort_sorted r)
noncomputable def soonStep (ns held : List Int) (s : List Int) (k : Int) : List Int := if held.contains (geti ns k) = true ∧ s.contains (geti ns k) = false then s ++ [geti ns k] else s
noncomputable def soonAt (ns held : List Int) (n : Int) (j : Nat) : List Int := (rangeKs n j).foldl (soonStep ns held) []
noncomputable def neverOf (held soon : List Int) : List Int := isort (held.filter (fun one => !soon.contains one))
noncomputable def goesOf (side : Int) (soon never : List Int) : Int := if side > 0 ∧ never ≠ [] then geti never 0 else (soon ++ never).getLastD 0
noncomputable def goneStep (room side : Int) (ns : List Int) (st : List Int × List (Key × Int)) (n : Int) : List Int × List (Key × Int) :=
  if st.1.contains (geti ns n) = true then st else
  if (st.1.length : Int) = room then
    let goes := goesOf side (soonAt ns st.1 n (9 - n.toNat)) (neverOf st.1 (soonAt ns st.1 n (9 - n.toNat)))
    (st.1.filter (fun one => one != goes) ++ [geti ns n], dput st.2 (some goes) ((dget st.2 (some goes)).getD 0 + 1))
  else (st.1 ++ [geti ns n], st.2)
noncomputable def goneAt (room side : Int) (ns : List Int) (i : Nat) : List Int × List (Key × Int) := (rangeKs 0 i).foldl (goneStep room side ns) ([], [])
theorem goneAt_succ (room side : Int) (ns : List Int) (i : Nat) : goneAt room side ns (i + 1) = goneStep room side ns (goneAt room side ns i) (0 + (i : Int)) := by
  unfold goneAt; rw [rangeKs_succ, List.foldl_append]; rfl
theorem soonAt_succ (ns held : List Int) (n : Int) (j : Nat) : soonAt ns held n (j + 1) = soonStep ns held (soonAt ns held n j) (n + (j : Int)) := by
  unfold soonAt; rw [rangeKs_succ, List.foldl_append]; rfl
theorem soon_len (ns held : List Int) (n : Int) : ∀ j, (soonAt ns held n j).length ≤ j
  | 0 => Nat.le_refl _
  | j + 1 => by
    rw [soonAt_succ]; unfold soonStep
    have := soon_len ns held n j
    split
    · rw [List.length_append, List.length_singleton]; omega
    · omega
theorem never_len (held soon : List Int) : (neverOf held soon).length ≤ held.length := by
  unfold neverOf
  rw [(isort_perm _).length_eq]
  exact List.length_filter_le _ _
theorem soon_never_ne {held soon : List Int} (h : held ≠ []) : soon ++ neverOf held soon ≠ [] := by
  intro e
  rw [List.append_eq_nil_iff] at e
  obtain ⟨rfl, e2⟩ := e
  have h1 := (isort_perm (held.filter (fun one => !([] : List Int).contains one))).length_eq
  unfold neverOf at e2
  rw [e2] at h1
  rw [show held.filter (fun one => !([] : List Int).contains one) = held from List.filter_eq_self.mpr (fun _ _ => rfl)] at h1
  exact h (List.length_eq_zero_iff.mp h1.symm)
theorem gone_len (room side : Int) (ns : List Int) : ∀ i, (goneAt room side ns i).1.length ≤ i ∧ (goneAt room side ns i).2.length ≤ i
  | 0 => ⟨Nat.le_refl _, Nat.le_refl _⟩
  | i + 1 => by
    obtain ⟨h1, h2⟩ := gone_len room side ns i
    rw [goneAt_succ]; unfold goneStep
    split
    · omega
    · split
      · have h3 := List.length_filter_le (fun one => one != goesOf side (soonAt ns (goneAt room side ns i).1 (0 + (i : Int)) (9 - (0 + (i : Int)).toNat)) (neverOf (goneAt room side ns i).1 (soonAt ns (goneAt room side ns i).1 (0 + (i : Int)) (9 - (0 + (i : Int)).toNat)))) (goneAt room side ns i).1
        dsimp only
        rw [List.length_append, List.length_singleton]
        refine ⟨by omega, Nat.le_trans (dput_length _ _ _) (by omega)⟩
      · dsimp only
        rw [List.length_append, List.length_singleton]; omega
theorem gone_full {room side : Int} {ns : List Int} {i : Nat} (hq : (goneAt room side ns i).1.contains (geti ns (0 + (i : Int))) = false) (hf : ((goneAt room side ns i).1.length : Int) = room) :
    goneAt room side ns (i + 1) = ((goneAt room side ns i).1.filter (fun one => one != (goesOf side (soonAt ns (goneAt room side ns i).1 (0 + (i : Int)) (9 - (0 + (i : Int)).toNat)) (neverOf (goneAt room side ns i).1 (soonAt ns (goneAt room side ns i).1 (0 + (i : Int)) (9 - (0 + (i : Int)).toNat))))) ++ [geti ns (0 + (i : Int))], dput (goneAt room side ns i).2 (some (goesOf side (soonAt ns (goneAt room side ns i).1 (0 + (i : Int)) (9 - (0 + (i : Int)).toNat)) (neverOf (goneAt room side ns i).1 (soonAt ns (goneAt room side ns i).1 (0 + (i : Int)) (9 - (0 + (i : Int)).toNat))))) ((dget (goneAt room side ns i).2 (some (goesOf side (soonAt ns (goneAt room side ns i).1 (0 + (i : Int)) (9 - (0 + (i : Int)).toNat)) (neverOf (goneAt room side ns i).1 (soonAt ns (goneAt room side ns i).1 (0 + (i : Int)) (9 - (0 + (i : Int)).toNat)))))).getD 0 + 1)) := by
  rw [goneAt_succ]; unfold goneStep; rw [if_neg (by rw [hq]; exact Bool.false_ne_true), if_pos hf]
theorem small_n : ∀ i : Nat, i < 9 → Builtin.Range.small (0 + (i : Int)) 9 1 = true := by decide
theorem size_n : ∀ i : Nat, i < 9 → Builtin.Range.rangeSize (0 + (i : Int)) 9 1 = ((9 - (0 + (i : Int)).toNat : Nat) : Int) := by decide
section
variable {w : World} {A : Around} {E : Value → Shared → Prop} {s : Shared} {h₀ : Heap} {L l : Addr} {m : Str → Option Value} {nx : List (Addr × Obj)} {ns : List Int}
theorem lst_sorted {Q : Value → Shared → Prop} (F : Fr h₀ L s.heap m) (N : News h₀ L s.heap nx) (hl : Lst s.heap l ns) (hz : ns.length < 60)
    (h : ∀ D o h', Fr h₀ L h' m → News h₀ L h' ((D, o) :: nx) → (∀ p ∈ nx, p.1 < D) → LObj o (isort ns) → Q (.ref D) { s with heap := h' }) : wpAny (model PR w) A (call (.builtin "sorted") [.ref l]) Q E s := by
  obtain ⟨vs, hl, hi⟩ := hl
  exact kso_sorted F N hl hi (by omega) fun D vs' ns' c h' F' N' l1 i' e' p' o' b' => h D _ h' F' N' l1 (sorted_is p' o' ▸ LObj.of i')
end
end
theorem fresh_C10 : True := by w_top off; trivial

theorem cutTail {G : Heap → Nat → Prop} {P : Prop} {H : Heap → Nat → Prop} (main : (∀ h t, H h t → G h t) → P) (tail : ∀ h t, H h t → G h t) : P := main tail
inductive GoneJ (w : World) (v : Value) (ns : List Int) (room side : Int) (tr ts : Tok) (L' : Addr) (i : Nat) (m : Str → Option Value) (nx : List (Addr × Obj)) : Prop
  | intro (hl : _) (ol : _) (g : _) (og : _) (oG : _) (vG : _) (oS : _) (vS : _) (q0 : m (Str.ofString "held") = some (.ref hl)) (q1 : m (Str.ofString "gone") = some (.ref g)) (q2 : m (Str.ofString "asked") = some v) (q3 : m (Str.ofString "room") = some (.int room tr)) (q4 : m (Str.ofString "side") = some (.int side ts)) (q5 : nx = [(g, og), (hl, ol), (L' + 1 + 1, oG), (L' + 1, oS)]) (q6 : (g == sysModules) = false) (q7 : ((@Ne Nat hl g) ∧ (@Ne Nat (L' + 1 + 1) g) ∧ (@Ne Nat (L' + 1) g) ∧ (@Ne Nat (L' + 1 + 1) hl) ∧ (@Ne Nat (L' + 1) hl))) (q8 : oG.data = .cell vG) (q9 : oS.data = .cell vS) (q10 : LObj ol (goneAt room side ns i).1) (q11 : DObj w og (goneAt room side ns i).2) : GoneJ w v ns room side tr ts L' i m nx
theorem GoneJ.mk {w : World} {v : Value} {ns : List Int} {room side : Int} {tr ts : Tok} {L' : Addr} {i : Nat} {m : Str → Option Value} {hl g : Addr} {ol og oG oS : Obj} {vG vS : Option Value} (h0 : m (Str.ofString "held") = some (.ref hl)) (h1 : m (Str.ofString "gone") = some (.ref g)) (h2 : m (Str.ofString "asked") = some v) (h3 : m (Str.ofString "room") = some (.int room tr)) (h4 : m (Str.ofString "side") = some (.int side ts)) (lo : (g == sysModules) = false)
    (n1 : @Ne Nat hl g) (n2 : @Ne Nat (L' + 1 + 1) g) (n3 : @Ne Nat (L' + 1) g) (n4 : @Ne Nat (L' + 1 + 1) hl) (n5 : @Ne Nat (L' + 1) hl) (hG : oG.data = .cell vG) (hS : oS.data = .cell vS) (hH : LObj ol (goneAt room side ns i).1) (hD : DObj w og (goneAt room side ns i).2) : GoneJ w v ns room side tr ts L' i m [(g, og), (hl, ol), (L' + 1 + 1, oG), (L' + 1, oS)] :=
  ⟨hl, ol, g, og, oG, vG, oS, vS, h0, h1, h2, h3, h4, rfl, lo, ⟨n1, n2, n3, n4, n5⟩, hG, hS, hH, hD⟩
theorem GoneJ.off {w : World} {v : Value} {ns : List Int} {room side : Int} {tr ts : Tok} {L' : Addr} {i : Nat} {m : Str → Option Value} {nx : List (Addr × Obj)} (x : GoneJ w v ns room side tr ts L' i m nx) : ∀ p ∈ nx, NotIt "range_iterator" p.2 := by
  obtain ⟨hl, ol, g, og, oG, vG, oS, vS, _, _, _, _, _, rfl, _, _, hG, hS, hH, hD⟩ := x
  intro p hp
  simp only [List.mem_cons, List.not_mem_nil, or_false] at hp
  rcases hp with rfl | rfl | rfl | rfl
  · exact hD.notIt (by decide)
  · exact hH.notIt (by decide)
  · exact .inr ⟨_, hG⟩
  · exact .inr ⟨_, hS⟩
theorem GoneJ.turn {P : Prop} {w : World} {v : Value} {ns : List Int} {room side : Int} {tr ts : Tok} {L' : Addr} {i : Nat} {m : Str → Option Value} {nx : List (Addr × Obj)} {g₀ hp : Heap} {I : Addr} {oI : Obj} (x : GoneJ w v ns room side tr ts L' i m nx) (F : Fr g₀ L' hp m) (N : News g₀ L' hp ((I, oI) :: nx)) (hne : ∀ p ∈ nx, p.1 ≠ I)
    (k : ∀ hl ol g og oG vG oS vS u, Fr g₀ L' hp (fr [(Str.ofString "held", .ref hl), (Str.ofString "gone", .ref g), (Str.ofString "asked", v), (Str.ofString "room", .int room tr), (Str.ofString "side", .int side ts)] u) → News g₀ L' hp ((I, oI) :: [(g, og), (hl, ol), (L' + 1 + 1, oG), (L' + 1, oS)]) → (@Ne Nat g I) → (@Ne Nat hl I) → (@Ne Nat (L' + 1 + 1) I) → (@Ne Nat (L' + 1) I) → (g == sysModules) = false →
      (@Ne Nat hl g) → (@Ne Nat (L' + 1 + 1) g) → (@Ne Nat (L' + 1) g) → (@Ne Nat (L' + 1 + 1) hl) → (@Ne Nat (L' + 1) hl) → oG.data = .cell vG → oS.data = .cell vS → LObj ol (goneAt room side ns i).1 → DObj w og (goneAt room side ns i).2 → P) : P := by
  obtain ⟨hl, ol, g, og, oG, vG, oS, vS, h0, h1, h2, h3, h4, rfl, lo, ⟨n1, n2, n3, n4, n5⟩, hG, hS, hH, hD⟩ := x
  obtain ⟨u, rfl⟩ := fr_eq (m := m) [(Str.ofString "held", .ref hl), (Str.ofString "gone", .ref g), (Str.ofString "asked", v), (Str.ofString "room", .int room tr), (Str.ofString "side", .int side ts)] ⟨h0, h1, h2, h3, h4, trivial⟩
  exact k hl ol g og oG vG oS vS u F N (hne _ (.head _)) (hne _ (.tail _ (.head _))) (hne _ (.tail _ (.tail _ (.head _)))) (hne _ (.tail _ (.tail _ (.tail _ (.head _))))) lo n1 n2 n3 n4 n5 hG hS hH hD
theorem GoneJ.done {P : Prop} {w : World} {v : Value} {ns : List Int} {room side : Int} {tr ts : Tok} {L' : Addr} {i : Nat} {m : Str → Option Value} {nx : List (Addr × Obj)} {g₀ hp : Heap} (x : GoneJ w v ns room side tr ts L' i m nx) (F : Fr g₀ L' hp m) (N : News g₀ L' hp nx)
    (k : ∀ g og u, Fr g₀ L' hp (fr [(Str.ofString "gone", .ref g)] u) → News g₀ L' hp [(g, og)] → (g == sysModules) = false → DObj w og (goneAt room side ns i).2 → P) : P := by
  obtain ⟨hl, ol, g, og, oG, vG, oS, vS, h0, h1, h2, h3, h4, rfl, lo, _, hG, hS, hH, hD⟩ := x
  obtain ⟨u, rfl⟩ := fr_eq (m := m) [(Str.ofString "gone", .ref g)] ⟨h1, trivial⟩
  exact k g og u F (fun p hp => N p (by rw [List.mem_singleton.mp hp]; exact .head _)) lo hD
inductive SoonJ (v : Value) (ns : List Int) (room side : Int) (tr ts : Tok) (L' : Addr) (i : Nat) (t : Tok) (hl g I0 sl : Addr) (o0 og ol oG oS1 : Obj) (hd : List Int) (j : Nat) (m : Str → Option Value) (nx : List (Addr × Obj)) : Prop
  | intro (osl : _) (q0 : m (Str.ofString "held") = some (.ref hl)) (q1 : m (Str.ofString "gone") = some (.ref g)) (q2 : m (Str.ofString "asked") = some v) (q3 : m (Str.ofString "room") = some (.int room tr)) (q4 : m (Str.ofString "side") = some (.int side ts)) (q5 : m (Str.ofString "n") = some (.int (0 + (i : Int)) t)) (q6 : nx = [(sl, osl), (I0, o0), (g, og), (hl, ol), (L' + 1 + 1, oG), (L' + 1, oS1)]) (q7 : LObj osl (soonAt ns hd (0 + (i : Int)) j)) : SoonJ v ns room side tr ts L' i t hl g I0 sl o0 og ol oG oS1 hd j m nx
theorem SoonJ.mk {v : Value} {ns : List Int} {room side : Int} {tr ts : Tok} {L' : Addr} {i : Nat} {t : Tok} {hl g I0 sl : Addr} {o0 og ol oG oS1 : Obj} {hd : List Int} {j : Nat} {m : Str → Option Value} {osl : Obj} (h0 : m (Str.ofString "held") = some (.ref hl)) (h1 : m (Str.ofString "gone") = some (.ref g)) (h2 : m (Str.ofString "asked") = some v) (h3 : m (Str.ofString "room") = some (.int room tr)) (h4 : m (Str.ofString "side") = some (.int side ts)) (h5 : m (Str.ofString "n") = some (.int (0 + (i : Int)) t)) (hS : LObj osl (soonAt ns hd (0 + (i : Int)) j)) : SoonJ v ns room side tr ts L' i t hl g I0 sl o0 og ol oG oS1 hd j m [(sl, osl), (I0, o0), (g, og), (hl, ol), (L' + 1 + 1, oG), (L' + 1, oS1)] :=
  ⟨osl, h0, h1, h2, h3, h4, h5, rfl, hS⟩
theorem SoonJ.off {v : Value} {ns : List Int} {room side : Int} {tr ts : Tok} {L' : Addr} {i : Nat} {t : Tok} {hl g I0 sl : Addr} {o0 og ol oG oS1 : Obj} {hd : List Int} {j : Nat} {m : Str → Option Value} {nx : List (Addr × Obj)} (x : SoonJ v ns room side tr ts L' i t hl g I0 sl o0 og ol oG oS1 hd j m nx) : ∀ p ∈ nx, NotIt "range_iterator" p.2 ∨ p ∈ [(I0, o0), (g, og), (hl, ol), (L' + 1 + 1, oG), (L' + 1, oS1)] := by
  obtain ⟨osl, _, _, _, _, _, _, rfl, hS⟩ := x
  intro p hp
  rcases List.mem_cons.mp hp with rfl | hp
  · exact .inl (hS.notIt (by decide))
  · exact .inr hp
theorem SoonJ.turn {P : Prop} {v : Value} {ns : List Int} {room side : Int} {tr ts : Tok} {L' : Addr} {i : Nat} {t : Tok} {hl g I0 sl : Addr} {o0 og ol oG oS1 : Obj} {hd : List Int} {j : Nat} {m : Str → Option Value} {nx : List (Addr × Obj)} {g₀ hp : Heap} {I : Addr} {oI : Obj} (x : SoonJ v ns room side tr ts L' i t hl g I0 sl o0 og ol oG oS1 hd j m nx) (F : Fr g₀ L' hp m) (N : News g₀ L' hp ((I, oI) :: nx)) (hne : ∀ p ∈ nx, p.1 ≠ I)
    (k : ∀ osl u, Fr g₀ L' hp (fr [(Str.ofString "held", .ref hl), (Str.ofString "gone", .ref g), (Str.ofString "asked", v), (Str.ofString "room", .int room tr), (Str.ofString "side", .int side ts), (Str.ofString "n", .int (0 + (i : Int)) t)] u) → News g₀ L' hp ((I, oI) :: [(sl, osl), (I0, o0), (g, og), (hl, ol), (L' + 1 + 1, oG), (L' + 1, oS1)]) → (@Ne Nat sl I) → (@Ne Nat I0 I) → (@Ne Nat g I) → (@Ne Nat hl I) → (@Ne Nat (L' + 1 + 1) I) → (@Ne Nat (L' + 1) I) → LObj osl (soonAt ns hd (0 + (i : Int)) j) → P) : P := by
  obtain ⟨osl, h0, h1, h2, h3, h4, h5, rfl, hS⟩ := x
  obtain ⟨u, rfl⟩ := fr_eq (m := m) [(Str.ofString "held", .ref hl), (Str.ofString "gone", .ref g), (Str.ofString "asked", v), (Str.ofString "room", .int room tr), (Str.ofString "side", .int side ts), (Str.ofString "n", .int (0 + (i : Int)) t)] ⟨h0, h1, h2, h3, h4, h5, trivial⟩
  exact k osl u F N (hne _ (.head _)) (hne _ (.tail _ (.head _))) (hne _ (.tail _ (.tail _ (.head _)))) (hne _ (.tail _ (.tail _ (.tail _ (.head _))))) (hne _ (.tail _ (.tail _ (.tail _ (.tail _ (.head _)))))) (hne _ (.tail _ (.tail _ (.tail _ (.tail _ (.tail _ (.head _))))))) hS
theorem SoonJ.done {P : Prop} {v : Value} {ns : List Int} {room side : Int} {tr ts : Tok} {L' : Addr} {i : Nat} {t : Tok} {hl g I0 sl : Addr} {o0 og ol oG oS1 : Obj} {hd : List Int} {j : Nat} {m : Str → Option Value} {nx : List (Addr × Obj)} {g₀ hp : Heap} (x : SoonJ v ns room side tr ts L' i t hl g I0 sl o0 og ol oG oS1 hd j m nx) (F : Fr g₀ L' hp m) (N : News g₀ L' hp nx)
    (k : ∀ osl u, Fr g₀ L' hp (fr [(Str.ofString "held", .ref hl), (Str.ofString "gone", .ref g), (Str.ofString "asked", v), (Str.ofString "room", .int room tr), (Str.ofString "side", .int side ts), (Str.ofString "n", .int (0 + (i : Int)) t)] u) → News g₀ L' hp [(sl, osl), (I0, o0), (g, og), (hl, ol), (L' + 1 + 1, oG), (L' + 1, oS1)] → LObj osl (soonAt ns hd (0 + (i : Int)) j) → P) : P := by
  obtain ⟨osl, h0, h1, h2, h3, h4, h5, rfl, hS⟩ := x
  obtain ⟨u, rfl⟩ := fr_eq (m := m) [(Str.ofString "held", .ref hl), (Str.ofString "gone", .ref g), (Str.ofString "asked", v), (Str.ofString "room", .int room tr), (Str.ofString "side", .int side ts), (Str.ofString "n", .int (0 + (i : Int)) t)] ⟨h0, h1, h2, h3, h4, h5, trivial⟩
  exact k osl u F N hS
set_option maxRecDepth 100000 in
set_option maxHeartbeats 8000000 in
theorem gone_ok (w : World) (s : Shared) (v : Value) (ns : List Int) (room side : Int) (tr ts : Tok) (hroom : 1 ≤ room) (hlen : ns.length = 9) (D : SeqV s.heap v ns) :
    CallOk w 1 142 [v, .int room tr, .int side ts] [] s (fun v h' => ∃ r o, v = .ref r ∧ s.heap.get? r = none ∧ (r == sysModules) = false ∧ h'.get? r = some o ∧ DObj w o (goneAt room side ns 9).2) := by
  k_dflt (refine' CallOk.introC (binds := [(Str.ofString "asked", v), (Str.ofString "room", .int room tr), (Str.ofString "side", .int side ts)]) (ho := ?ho) (hcd := ?hcd) (hbind := ?hb) (hkind := ?hl) (hnd := ?hc) (hco := ?h1) (hgen := ?h2) (hk := ?h3) ?_; (case ho => k_is); (case hcd => k_is); (case hb => intro X9; exact BindsTo.of_eq rfl); (case hc => decide +kernel); (case hl => exact rfl); (case h1 => exact rfl); (case h2 => exact rfl); (case h3 => exact rfl); k_whole)
  intro loose mean mg mb dp un gd env outer A₀ base L' h₁ tk cells B F X N Y T hd hu
  obtain ⟨oC, oC2, hE, dC, dC2⟩ := CellsAre.two Y
  subst hE
  (try dsimp only); (try k_fold)
  k_steps
  (with_reducible rename Fr _ _ _ _ => F2); (with_reducible rename News _ _ _ _ => N2); (with_reducible rename IsRange _ _ _ _ _ _ _ _ => hr); (with_reducible rename DObj _ _ _ => hD0); (rename (_ == sysModules) = false => lo0)
  refine rangeA (n := 9) (GoneJ w v ns room side tr ts L') rfl hr rfl rfl F2 N2 (GoneJ.mk rfl rfl rfl rfl rfl lo0 (by omega) (by omega) (by omega) (by omega) (by omega) dC dC2 LObj.nil hD0) ?_ ?_ ?_
  · exact fun i m nx x p hp => x.off p hp
  · intro i t m₁ nx hp tk I0 o0 hi hJ hc hne F₁ N₁
    generalize hQQ : TurnJ _ _ _ _ _ _ = QQ
    refine hJ.turn F₁ N₁ hne ?_
    clear F₁ N₁ hne hJ
    intro hl ol g og oG vG oS vS u F₁ N₁ e1 e2 e3 e4 loG n1 n2 n3 n4 n5 hG hS hH hD
    have l1 := (gone_len room side ns i).1
    have l2 := (gone_len room side ns i).2
    (try k_fold)
    k_steps
    · (with_reducible rename Fr _ _ _ _ => F9); (with_reducible rename News _ _ _ _ => N9); (rename List.contains _ _ = true => hq)
      subst hQQ
      refine TurnJ.nextS [(g, og), (hl, ol), (L' + 1 + 1, oG), (L' + 1, oS)] F9 N9 (by ktr_rel) (GoneJ.mk rfl rfl rfl rfl rfl loG n1 n2 n3 n4 n5 hG hS ?_ ?_)
      · rw [goneAt_succ]; unfold goneStep; rw [if_pos hq]; exact hH
      · rw [goneAt_succ]; unfold goneStep; rw [if_pos hq]; exact hD
    · (with_reducible rename Fr _ _ _ _ => F3); (with_reducible rename News _ _ _ _ => N3); (with_reducible rename IsRange _ _ _ _ _ _ _ _ => hr3); (rename List.contains _ _ = false => hq)
      obtain ⟨sl, osl, oS1, hS1, hL0, ⟨m1, m2, m3, m4, m5⟩, N3'⟩ : ∃ (sl : Addr) (osl oS1 : Obj), oS1.data = .cell (some (.ref sl)) ∧ LObj osl [] ∧ ((@Ne Nat I0 sl) ∧ (@Ne Nat g sl) ∧ (@Ne Nat hl sl) ∧ (@Ne Nat (L' + 1 + 1) sl) ∧ (@Ne Nat (L' + 1) sl)) ∧ News s.heap L' _ [(sl, osl), (I0, o0), (g, og), (hl, ol), (L' + 1 + 1, oG), (L' + 1, oS1)] := ⟨_, _, _, by assumption, LObj.nil, by omega, N3⟩
      refine rangeB (n := 9 - (0 + (i : Int)).toNat) (SoonJ v ns room side tr ts L' i t hl g I0 sl o0 og ol oG oS1 (goneAt room side ns i).1) rfl hr3 (small_n i hi) (size_n i hi) F3 N3' (SoonJ.mk rfl rfl rfl rfl rfl rfl hL0) ?_ ?_ ?_
      · exact fun j m nx x p hp => (x.off p hp).imp_right (fun h => .tail _ h)
      · intro j tj m₁ nx hp tk I1 o1 hj hJ hc1 hne1 F₁ N₁
        generalize hQ2 : TurnJ _ _ _ _ _ _ = Q2
        refine hJ.turn F₁ N₁ hne1 ?_
        clear F₁ N₁ hne1 hJ
        intro osl u F₁ N₁ e1 e2 e3 e4 e5 e6 hSo
        have sl1 := soon_len ns (goneAt room side ns i).1 (0 + (i : Int)) j
        (try k_fold)
        k_steps
        all_goals (with_reducible rename Fr _ _ _ _ => F9); (with_reducible rename News _ _ _ _ => N9)
        all_goals subst hQ2
        all_goals refine TurnJ.nextS [(sl, _), (I0, o0), (g, og), (hl, ol), (L' + 1 + 1, oG), (L' + 1, oS1)] F9 N9 (by ktr_rel) (SoonJ.mk rfl rfl rfl rfl rfl rfl ?_)
        all_goals rw [soonAt_succ]
        all_goals unfold soonStep
        · rw [if_neg (fun q => by have q2 := q.2; rw [show List.contains _ _ = true by assumption] at q2; cases q2)]; assumption
        · rw [if_pos ⟨by assumption, by assumption⟩]; assumption
        · rw [if_neg (fun q => by have q2 := q.1; rw [show List.contains _ _ = false by assumption] at q2; cases q2)]; assumption
      · intro m₁ nx hp tk hJ F₁ N₁
        refine hJ.done F₁ N₁ ?_
        clear F₁ N₁ hJ
        intro osl u F₁ N₁ hSo
        have sl1 := soon_len ns (goneAt room side ns i).1 (0 + (i : Int)) (9 - (0 + (i : Int)).toNat)
        dsimp only
        k_steps
        refine Stop.off ?_
        (with_reducible rename Fr _ _ _ _ => F4); (with_reducible rename News _ _ _ _ => N4)
        with_unfolding_all refine compE (fun one => !(soonAt ns (goneAt room side ns i).1 (0 + (i : Int)) (9 - (0 + (i : Int)).toNat)).contains one) (fun k => k) F4 N4 (by rfl) (by decide) (by rfl) (by decide) (by rfl) (by rfl) ?_
        k_steps
        (with_reducible rename Fr _ _ _ _ => F5); (with_reducible rename News _ _ _ _ => N5)
        have gS := (N5 (L' + 1, oS1) (by k_mem)).1
        have DS := hSo.led N5 (l := sl) (by k_mem)
        dsimp only at gS
        refine Stop.off ⟨(goneAt room side ns i).1, SrcI.lst (by ktr_unf), by omega, F5, N5, ⟨?_, ?_⟩, ?_⟩
        · intro C k t' s₃ m₃ E' hk F6 hm6
          have N6 := fr_nil F6
          have DS' := DS.keeps F6.keep
          refine tests_one ?_
          (try k_fold)
          k_steps
        · intro C k t' s₃ m₃ E' hk _ F6 hm6
          k_steps
        · intro D7 vs7 n7 h' tk F7 N7 off7 keep7 hvs7
          replace off7 := offP_of off7
          simp only [offP, and_true] at off7
          rw [List.map_id'] at hvs7
          have fl := filter_le_length (fun one => !(soonAt ns (goneAt room side ns i).1 (0 + (i : Int)) (9 - (0 + (i : Int)).toNat)).contains one) (goneAt room side ns i).1
          law_fin
          have hfull : ((goneAt room side ns i).1.length : Int) = room := by assumption
          have nl := never_len (goneAt room side ns i).1 (soonAt ns (goneAt room side ns i).1 (0 + (i : Int)) (9 - (0 + (i : Int)).toNat))
          have snn := soon_never_ne (held := (goneAt room side ns i).1) (soon := soonAt ns (goneAt room side ns i).1 (0 + (i : Int)) (9 - (0 + (i : Int)).toNat)) (fun e => by rw [e] at hfull; simp only [List.length_nil] at hfull; omega)
          unfold neverOf at nl snn
          apply cutTail (H := fun h8 _ => ∃ (D8 : Addr) (oG1 : Obj) (tg : Tok), oG1.data = .cell (some (.int (goesOf side (soonAt ns (goneAt room side ns i).1 (0 + (i : Int)) (9 - (0 + (i : Int)).toNat)) (neverOf (goneAt room side ns i).1 (soonAt ns (goneAt room side ns i).1 (0 + (i : Int)) (9 - (0 + (i : Int)).toNat)))) tg)) ∧ News s.heap L' h8 [(I0, o0), (g, og), (hl, ol), (L' + 1 + 1, oG1), (L' + 1, oS1)] ∧ Fr s.heap L' h8 (fun y => if y = Str.ofString "never" then some (Value.ref D8) else fr [(Str.ofString "held", .ref hl), (Str.ofString "gone", .ref g), (Str.ofString "asked", v), (Str.ofString "room", .int room tr), (Str.ofString "side", .int side ts), (Str.ofString "n", .int (0 + (i : Int)) t)] u y))
          · intro tail
            k_steps
            · have hnv : (isort (List.filter (fun one => !(soonAt ns (goneAt room side ns i).1 (0 + (i : Int)) (9 - (0 + (i : Int)).toNat)).contains one) (goneAt room side ns i).1)) = [] := of_decide_eq_true (by assumption)
              have hgo : (goesOf side (soonAt ns (goneAt room side ns i).1 (0 + (i : Int)) (9 - (0 + (i : Int)).toNat)) (neverOf (goneAt room side ns i).1 (soonAt ns (goneAt room side ns i).1 (0 + (i : Int)) (9 - (0 + (i : Int)).toNat)))) = ((soonAt ns (goneAt room side ns i).1 (0 + (i : Int)) (9 - (0 + (i : Int)).toNat)) ++ (isort (List.filter (fun one => !(soonAt ns (goneAt room side ns i).1 (0 + (i : Int)) (9 - (0 + (i : Int)).toNat)).contains one) (goneAt room side ns i).1))).getLastD 0 := by unfold goesOf neverOf; rw [if_neg (fun q => q.2 hnv)]
              (with_reducible rename Fr _ _ _ _ => F8); (with_reducible rename News _ _ _ _ => N8)
              rename Heap => h8
              exact tail h8 tk ⟨_, _, _, by rw [hgo]; assumption, Mine.News.subs N8 (by ktr_rel), F8⟩
            · have hnv : (isort (List.filter (fun one => !(soonAt ns (goneAt room side ns i).1 (0 + (i : Int)) (9 - (0 + (i : Int)).toNat)).contains one) (goneAt room side ns i).1)) ≠ [] := of_decide_eq_false (by assumption)
              have il := List.length_pos_iff.mpr hnv
              refine Stop.off ?_
              refine lst_item (by ktr_unf) (by omega) (by omega) (by omega) ?_
              intro t9
              k_steps
              have hgo : (goesOf side (soonAt ns (goneAt room side ns i).1 (0 + (i : Int)) (9 - (0 + (i : Int)).toNat)) (neverOf (goneAt room side ns i).1 (soonAt ns (goneAt room side ns i).1 (0 + (i : Int)) (9 - (0 + (i : Int)).toNat)))) = geti (isort (List.filter (fun one => !(soonAt ns (goneAt room side ns i).1 (0 + (i : Int)) (9 - (0 + (i : Int)).toNat)).contains one) (goneAt room side ns i).1)) 0 := by unfold goesOf neverOf; rw [if_pos ⟨by assumption, hnv⟩]
              (with_reducible rename Fr _ _ _ _ => F8); (with_reducible rename News _ _ _ _ => N8)
              rename Heap => h8
              exact tail h8 (tk + 1) ⟨_, _, _, by rw [hgo]; assumption, Mine.News.subs N8 (by ktr_rel), F8⟩
            · have hsd : ¬ 0 < side := by assumption
              have hgo : (goesOf side (soonAt ns (goneAt room side ns i).1 (0 + (i : Int)) (9 - (0 + (i : Int)).toNat)) (neverOf (goneAt room side ns i).1 (soonAt ns (goneAt room side ns i).1 (0 + (i : Int)) (9 - (0 + (i : Int)).toNat)))) = ((soonAt ns (goneAt room side ns i).1 (0 + (i : Int)) (9 - (0 + (i : Int)).toNat)) ++ (isort (List.filter (fun one => !(soonAt ns (goneAt room side ns i).1 (0 + (i : Int)) (9 - (0 + (i : Int)).toNat)).contains one) (goneAt room side ns i).1))).getLastD 0 := by unfold goesOf neverOf; rw [if_neg (fun q => hsd q.1)]
              (with_reducible rename Fr _ _ _ _ => F8); (with_reducible rename News _ _ _ _ => N8)
              rename Heap => h8
              exact tail h8 tk ⟨_, _, _, by rw [hgo]; assumption, Mine.News.subs N8 (by ktr_rel), F8⟩
          · intro h8 tk8 xR1; obtain ⟨D8, oG1, tg, hG1, N8', F8⟩ := xR1
            refine Stop.off ?_
            with_unfolding_all refine compA (fun one => one != (goesOf side (soonAt ns (goneAt room side ns i).1 (0 + (i : Int)) (9 - (0 + (i : Int)).toNat)) (neverOf (goneAt room side ns i).1 (soonAt ns (goneAt room side ns i).1 (0 + (i : Int)) (9 - (0 + (i : Int)).toNat))))) (fun k => k) F8 N8' (by rfl) (by rfl) (by rfl) (by decide) (by rfl) (by decide) (by rfl) (by rfl) (by rfl) (by rfl) ?_
            k_steps
            (with_reducible rename Fr _ _ _ _ => F5b); (with_reducible rename News _ _ _ _ => N5b)
            have gG := (N5b (L' + 1 + 1, oG1) (by k_mem)).1
            dsimp only at gG
            refine Stop.off ⟨(goneAt room side ns i).1, SrcI.lst (by ktr_unf), by omega, F5b, N5b, ⟨?_, ?_⟩, ?_⟩
            · intro C k t' s₃ m₃ E' hk F6 hm6
              have N6 := fr_nil F6
              refine tests_one ?_
              (try k_fold)
              k_steps
            · intro C k t' s₃ m₃ E' hk _ F6 hm6
              k_steps
            · intro D9 vs9 n9 h' tk F9 N9 off9 hvs9
              replace off9 := offP_of off9
              simp only [offP, and_true] at off9
              rw [List.map_id'] at hvs9
              have fl9 := filter_le_length (fun one => one != (goesOf side (soonAt ns (goneAt room side ns i).1 (0 + (i : Int)) (9 - (0 + (i : Int)).toNat)) (neverOf (goneAt room side ns i).1 (soonAt ns (goneAt room side ns i).1 (0 + (i : Int)) (9 - (0 + (i : Int)).toNat))))) (goneAt room side ns i).1
              law_fin
              (try k_fold)
              k_steps
              (with_reducible rename Fr _ _ _ _ => F10); (with_reducible rename News _ _ _ _ => N10)
              subst hQQ
              refine TurnJ.nextS [(g, _), (_, _), (L' + 1 + 1, oG1), (L' + 1, oS1)] F10 N10 (by ktr_rel) (GoneJ.mk rfl rfl rfl rfl rfl loG (by omega) n2 n3 (by omega) (by omega) hG1 hS1 ?_ ?_)
              · rw [gone_full hq hfull]; assumption
              · rw [gone_full hq hfull]; assumption
    · (with_reducible rename Fr _ _ _ _ => F9); (with_reducible rename News _ _ _ _ => N9); (rename List.contains _ _ = false => hq)
      subst hQQ
      refine TurnJ.nextS [(g, og), (_, _), (L' + 1 + 1, oG), (L' + 1, oS)] F9 N9 (by ktr_rel) (GoneJ.mk rfl rfl rfl rfl rfl loG (by omega) n2 n3 (by omega) (by omega) hG hS ?_ ?_)
      · rw [goneAt_succ]; unfold goneStep; rw [if_neg (by rw [hq]; exact Bool.false_ne_true), if_neg (by assumption)]; assumption
      · rw [goneAt_succ]; unfold goneStep; rw [if_neg (by rw [hq]; exact Bool.false_ne_true), if_neg (by assumption)]; exact hD
  · intro m₁ nx hp tk hJ F₁ N₁
    refine hJ.done F₁ N₁ ?_
    clear F₁ N₁ hJ
    intro g og u F₁ N₁ loG hD
    dsimp only
    k_steps
    refine RetOk.intro (by assumption) ⟨g, og, rfl, (N₁ _ (.head _)).2.2, loG, (N₁ _ (.head _)).1, hD⟩

theorem ba_mro : mroOf (.type "bytearray") = pure [.type "bytearray", .type "object"] := by rw [mroOf_type]; kernel_rfl
theorem ba_lookup_new : typeLookup (.type "bytearray") "__new__" = pure (some (.builtin "bytearray.__new__")) := by rw [typeLookup_type, builtinLookup_eq_fast]; kernel_rfl
theorem ba_slot_init : Slot "bytearray" "__init__" "bytearray.__init__" :=
  .of (owner := "bytearray") (n := "__init__") (by rw [typeLookup_type, builtinLookup_eq_fast]; kernel_rfl) (by decide +kernel) (by decide +kernel) (by decide +kernel)
    (by first | exact .inl (by decide +kernel) | exact .inr (by decide +kernel)) (by rw [isSubtype_type]; kernel_rfl)
theorem ba_slot_setitem : Slot "bytearray" "__setitem__" "bytearray.__setitem__" :=
  .of (owner := "bytearray") (n := "__setitem__") (by rw [typeLookup_type, builtinLookup_eq_fast]; kernel_rfl) (by decide +kernel) (by decide +kernel) (by decide +kernel)
    (by first | exact .inl (by decide +kernel) | exact .inr (by decide +kernel)) (by rw [isSubtype_type]; kernel_rfl)
theorem ba_called : TypeCalled "bytearray" "bytearray.__new__" "bytearray.__init__" :=
  ⟨by decide +kernel, by decide +kernel, ⟨_, _, ba_mro⟩, madeBy_type ba_mro ba_lookup_new (by decide +kernel), by decide +kernel, by rw [isSubtype_type]; kernel_rfl, ba_slot_init⟩
theorem ba_typeCall (a : Value) : checkTypeCall "bytearray" ⟨[a], []⟩ = pure () := by kernel_rfl
theorem ba_newCall (a : Value) : checkBuiltinCall "bytearray.__new__" ⟨[.type "bytearray", a], []⟩ = pure () := by kernel_rfl
theorem ba_plain_new : plainId "bytearray.__new__" = true := by decide +kernel
theorem ba_entry_new : entryFor table "bytearray.__new__" = some Builtin.«list.__new__» := entryFor_alias (id' := "list.__new__") (by kernel_rfl) rfl (by decide +kernel) (by kernel_rfl)
theorem ba_entry_init : entryFor table "bytearray.__init__" = some Builtin.«bytearray.__init__» := by first | exact entryFor_of_fast (by kernel_rfl) | exact entryFor_of_tree (by kernel_rfl)
theorem ba_entry_setitem : entryFor table "bytearray.__setitem__" = some Builtin.«bytearray.__setitem__» := by first | exact entryFor_of_fast (by kernel_rfl) | exact entryFor_of_tree (by kernel_rfl)
theorem ba_sub : isSubtype (.type "bytearray") (.type "bytearray") = pure true := by rw [isSubtype_type]; kernel_rfl
theorem ba_bind (v : Value) : Builtin.Bytes.bindOptional "bytearray.__init__" "bytearray" ["source", "encoding", "errors"] [v] [] = pure [some v, none, none] := by kernel_rfl
set_option maxRecDepth 1000000 in
set_option maxHeartbeats 4000000 in
theorem ba_owner : ("bytearray.__new__".splitOn ".__new__").headD "" = "bytearray" := by simp +decide [String.splitOn, String.splitOnAux]

section
set_option maxRecDepth 100000
theorem ba_look_release : typeLookup (.type "bytearray") "__release_buffer__" = pure (some (.builtin "bytearray.__release_buffer__")) := by rw [typeLookup_type, builtinLookup_eq_fast]; kernel_rfl
theorem ba_look_buffer : typeLookup (.type "bytearray") "__buffer__" = pure (some (.builtin "bytearray.__buffer__")) := by rw [typeLookup_type, builtinLookup_eq_fast]; kernel_rfl
theorem ba_no_bytes : typeLookup (.type "bytearray") "__bytes__" = pure none := by rw [typeLookup_type, builtinLookup_eq_fast]; kernel_rfl
theorem ba_no_index : typeLookup (.type "bytearray") "__index__" = pure none := by rw [typeLookup_type, builtinLookup_eq_fast]; kernel_rfl
theorem int_index : typeLookup (.type "int") "__index__" = pure (some (.builtin "int.__index__")) := by rw [typeLookup_type, builtinLookup_eq_fast]; kernel_rfl
noncomputable abbrev baObj (b : Array UInt8) : Obj := { cls := .type "bytearray", data := .bytearray b }
section
variable {M : Model} {prog : Program} {w : World} {A : Around} {E : Value → Shared → Prop} {s : Shared} {S : Addr} {b : Array UInt8}
theorem ba_type (h : s.heap.get? S = some (baObj b)) : s.TypeIs (.ref S) "bytearray" := ⟨_, h, rfl⟩
theorem ba_ownRelease {v : Value} {Q : Bool → Shared → Prop} (hT : s.TypeIs v "bytearray") (h : Q false s) : wpAny M A (Builtin.Bytes.ownRelease v) Q E s := by
  have key : ∀ {Q' : Bool → Shared → Prop}, ∀ x : String, x = "bytearray" → Q' true s → wpAny M A (isInstance v (.type x)) Q' E s := fun x hx q => by rw [hx]; exact wpAny_isInstance hT ba_sub q
  unfold Builtin.Bytes.ownRelease Builtin.Bytes.slotIsOwn
  refine wpAny_bind (wpAny_bind (wpAny_specialOf hT ba_look_release ?_))
  dsimp only
  refine bm_if_false (by decide +kernel) ?_
  exact key _ (by decide +kernel) (wpAny_pure h)
theorem ba_ownBuffer {v : Value} {Q : Bool → Shared → Prop} (hT : s.TypeIs v "bytearray") (h : Q true s) : wpAny M A (Builtin.Bytes.slotIsOwn v "__buffer__") Q E s := by
  have key : ∀ {Q' : Bool → Shared → Prop}, ∀ x : String, x = "bytearray" → Q' true s → wpAny M A (isInstance v (.type x)) Q' E s := fun x hx q => by rw [hx]; exact wpAny_isInstance hT ba_sub q
  unfold Builtin.Bytes.slotIsOwn
  refine wpAny_bind (wpAny_specialOf hT ba_look_buffer ?_)
  dsimp only
  refine bm_if_false (by decide +kernel) ?_
  exact key _ (by decide +kernel) h
theorem ba_payload {Q : Array UInt8 → Shared → Prop} (hS : s.heap.get? S = some (baObj b)) (h : Q b s) : wpAny M A (Builtin.Bytes.payload (.ref S)) Q E s := by
  unfold Builtin.Bytes.payload Builtin.Bytes.payload?
  refine wpAny_bind (wpAny_bind (wpAny_load hS ?_))
  exact wpAny_pure (wpAny_pure h)
theorem ba_write {f : Array UInt8 → Array UInt8} {Q : Unit → Shared → Prop} (hS : s.heap.get? S = some (baObj b)) (hz : (f b).size ≤ 1000) (h : (s.heap.update S (Obj.mapBytearray f)).get? S = some (baObj (f b)) → Q () { s with heap := s.heap.update S (Obj.mapBytearray f) }) :
    wpAny M A (Builtin.Bytes.write (.ref S) f) Q E s := by
  show wpAny M A (updateBytearray S f) _ _ _
  unfold updateBytearray
  refine wpAny_bind (wpAny_load hS ?_)
  show wpAny _ _ (update S (Obj.mapBytearray f) >>= fun _ => lookBehind S) _ _ _
  refine wpAny_bind (wpAny_update hS ?_)
  have hS₂ : (s.heap.update S (Obj.mapBytearray f)).get? S = some (baObj (f b)) := Heap.get?_update_self (Obj.mapBytearray f) hS rfl
  refine wpAny_lookBehind hS₂ ?_ (h hS₂)
  show (if (f b).size > sizeLine then some "bytearray:memory" else none) = none
  rw [if_neg (by rw [sizeLine_eq]; omega)]
theorem ba_exports {Q : Nat → Shared → Prop} (hS : s.heap.get? S = some (baObj b)) (h : Q 0 s) : wpAny M A (Builtin.Bytes.exportsOf (.ref S)) Q E s := by
  unfold Builtin.Bytes.exportsOf
  refine wpAny_bind (wpAny_load hS ?_)
  exact wpAny_pure h
theorem ba_new (a : Value) {Q₁ : Value → Shared → Prop} (h : Q₁ (.ref s.heap.objs.size) { s with heap := s.heap.push (baObj #[]) }) :
    codeAny (model prog w) A (.call (.builtin "bytearray.__new__") ⟨[.type "bytearray", a], []⟩) (wants Q₁ E) s := by
  refine codeAny_of_tree ?_
  show wpAny _ A.in1 (do checkBuiltinCall "bytearray.__new__" ⟨[.type "bytearray", a], []⟩; again (.builtin "bytearray.__new__" ⟨[.type "bytearray", a], []⟩)) _ _ s
  refine wpAny_bind (wpAny_of_eq (ba_newCall a) (wpAny_pure ⟨plainId_quiet ba_plain_new _, codeAny_builtin_stack ba_entry_new rfl fun p st => ?_⟩))
  rw [Around.under_plainId ba_plain_new _]
  have hsub := ba_sub
  have hown := ba_owner
  obtain ⟨hp, g, d, tk, os⟩ := s
  simp only [hown]
  wp_walk
  exact h
end
end

section
set_option maxRecDepth 100000
section
variable {M : Model} {prog : Program} {w : World} {A : Around} {E : Value → Shared → Prop} {s : Shared} {S : Addr} {b : Array UInt8}
theorem ba_init {n : Int} {t : Tok} {Q : Shared → Prop} (hS : s.heap.get? S = some (baObj #[])) (h0 : 0 < n) (h1 : n ≤ 900)
    (h : ∀ h', h'.get? S = some (baObj (Array.replicate n.toNat 0)) → (∀ b o, b ≠ S → s.heap.get? b = some o → h'.get? b = some o) → Q { s with heap := h' }) :
    wpX M A (Builtin.«bytearray.__init__» ⟨[.ref S, .int n t], []⟩) (fun fin s' => fin = .done (.ret .none) ∧ Q s') E s := by
  unfold Builtin.«bytearray.__init__»
  refine wpX_bind (wpX_of (ba_ownRelease (ba_type hS) ?_))
  dsimp only
  rw [if_neg Bool.false_ne_true]
  refine wpX_bind (wpX_of (wpAny_of_eq (ba_bind _) ?_))
  dsimp only
  refine wpX_bind (wpX_of (wpAny_of_eq (a := ()) rfl ?_))
  refine wpX_bind (wpX_of (wpAny_of_eq (a := ()) rfl ?_))
  refine wpX_bind (wpX_bind (wpX_exported ?_))
  show wpX M A (do let x ← Builtin.Bytes.exportsOf (.ref S); pure (decide (x > 0))) _ _ _
  refine wpX_of (wpAny_bind (ba_exports hS (wpAny_pure ?_)))
  rw [if_neg (by decide)]
  refine wpX_of ?_
  refine wpAny_bind (ba_write hS (by decide) fun hS₂ => ?_)
  refine wpAny_bind (wpAny_of_eq (a := none) rfl ?_)
  refine bm_if_false rfl ?_
  refine bm_if_false (by unfold Builtin.Bytes.fitsIndex; simp only [Bool.not_eq_false', Bool.and_eq_true, decide_eq_true_eq]; omega) ?_
  rw [if_neg (by omega : ¬ n < 0)]
  refine bm_if_false (beq_eq_false_iff_ne.mpr (by omega)) ?_
  refine bm_if_false (by unfold Builtin.Bytes.tooLong; rw [sizeLine_eq]; exact decide_eq_false (by omega)) ?_
  refine wpAny_bind (wpAny_rule ?_)
  rw [if_pos (by omega : n > 0)]
  refine wpAny_bind (ba_write hS₂ (by rw [Array.size_replicate]; omega) fun hS₃ => ?_)
  refine wpAny_pure ⟨rfl, h _ hS₃ fun b o hb e => ?_⟩
  exact (Heap.get?_update_other _ _ (Ne.symm hb)).trans ((Heap.get?_update_other _ _ (Ne.symm hb)).trans e)
theorem codeX_builtin {id : String} {args : Args} {B : Builtin} {R : Result → Shared → Prop} (hi : Idle (.builtin id args)) (hb : entryFor table id = some B)
    (h : wpX (model prog w) (A.under (.builtin id args)) (B args) (fun fin s' => match fin with | .done f => R (.ok f) s' | .again c' => c'.quiet = true ∧ codeX (model prog w) A c' R s') (fun e s' => R (.error e) s') s) : codeX (model prog w) A (.builtin id args) R s := by
  refine codeX_tree hi ?_
  show wpX _ _ (match entryFor table id with | some b => b args | none => unsupported ((withoutEnding? id "#data").getD id)) _ _ s
  rw [hb]; exact h
theorem codeX_call_builtin {id : String} {args : Args} {B : Builtin} {R : Result → Shared → Prop} (hi : Idle (.builtin id args)) (hq : plainId id = true) (hb : entryFor table id = some B)
    (h : wpAny (model prog w) A.in1 (checkBuiltinCall id args) (fun _ s₁ => wpX (model prog w) A.in1 (B args) (fun fin s' => match fin with | .done f => R (.ok f) s' | .again c' => c'.quiet = true ∧ codeX (model prog w) A c' R s') (fun e s' => R (.error e) s') s₁) (fun e s' => R (.error e) s') s) :
    codeX (model prog w) A (.call (.builtin id) args) R s := by
  refine codeX_tree (idle_call _ _) (wpX_of ?_)
  show wpAny _ A.in1 (do checkBuiltinCall id args; again (.builtin id args)) _ _ s
  refine wpAny_bind (wpAny_mono h (fun _ s₁ h₁ => wpAny_pure ⟨plainId_quiet hq args, codeX_tree hi ?_⟩) fun _ _ h' => h')
  show wpX _ _ (match entryFor table id with | some b => b args | none => unsupported ((withoutEnding? id "#data").getD id)) _ _ s₁
  rw [hb, Around.under_plainId hq args]; exact h₁
theorem ba_call {n : Int} {t : Tok} {Q : Value → Shared → Prop} (h0 : 0 < n) (h1 : n ≤ 900)
    (h : ∀ S h', s.heap.get? S = none → h'.get? S = some (baObj (Array.replicate n.toNat 0)) → (∀ b o, s.heap.get? b = some o → h'.get? b = some o) → Q (.ref S) { s with heap := h' }) :
    wpX (model prog w) A (PySem.call (.type "bytearray") [.int n t]) Q E s := by
  refine wpX_call (codeX_tree (idle_call _ _) ?_)
  show wpX _ _ (callAny (.type "bytearray") _) _ _ _
  refine wpX_pure ⟨Code.quiet_builtin _ (by decide +kernel), codeX_builtin (idle_type _ _ _) F.entry_type_call ?_⟩
  rw [Around.under_plain (weight_type_call_type "bytearray" [.int n t] []) rfl]
  unfold Builtin.«type.__call__»
  try dsimp only
  rw [if_neg (by decide)]
  have hcc := ba_called.canCreate
  rw [if_neg (by rw [hcc]; exact Bool.false_ne_true)]
  rw [ba_typeCall]
  refine wpX_bind (wpX_pure ?_)
  refine wpX_bind (wpX_of (wpAny_of_eq ba_mro ?_))
  try dsimp only
  rw [if_neg (by decide)]
  refine wpX_bind (wpX_of (wpAny_of_eq ba_called.made ?_))
  try dsimp only
  refine wpX_bind (wpX_pure ?_)
  refine wpX_bind (wpX_holding (wpX_call (codeX_of (ba_new (Q₁ := fun obj s₁ => _) _ ?_))))
  have hS : (s.heap.push (baObj #[])).get? s.heap.objs.size = some (baObj #[]) := Heap.get?_push_size _ rfl
  try dsimp only
  refine wpX_bind (wpX_of (wpAny_isInstance (s := { s with heap := s.heap.push (baObj #[]) }) (ba_type hS) ba_sub ?_))
  rw [if_neg (by decide)]
  refine wpX_bind (wpX_holding ?_)
  simp only [callSpecial?]
  refine wpX_bind (wpX_of (wpAny_specialOf (ba_type hS) ba_slot_init.lookup ?_))
  simp only [ba_slot_init.bind]
  refine wpX_holding (wpX_bind (wpX_pure (wpX_bind (wpX_call (codeX_call_builtin (idle_init _) ba_slot_init.plain ba_entry_init (ba_slot_init.check _ _ _ _ _ _ _ _ (ba_type hS) (by rfl) ?_))))))
  refine wpX_mono (ba_init (Q := fun s' => Q (.ref s.heap.objs.size) s') hS h0 h1 (fun h' hS' hk => ?_)) (fun fin s' hf => ?_) fun _ _ e => e
  · refine h _ h' (Heap.get?_none_of_le (Nat.le_refl _)) hS' fun b o e => hk b o (Nat.ne_of_lt (Heap.lt_size e)) (Heap.get?_push_of_some _ e)
  · obtain ⟨rfl, hq⟩ := hf
    refine wpX_pure ?_
    dsimp only
    rw [if_neg (by decide)]
    exact wpX_pure hq
end
end

section
set_option maxRecDepth 100000
section
variable {M : Model} {prog : Program} {w : World} {A : Around} {E : Value → Shared → Prop} {s : Shared} {S : Addr} {b : Array UInt8}
theorem ba_setItem {k v : Int} {t u : Tok} {Q : Unit → Shared → Prop} (hS : s.heap.get? S = some (baObj b)) (h0 : 0 ≤ k) (h1 : k < (b.size : Int)) (hz : b.size ≤ 900) (v0 : 0 ≤ v) (v1 : v < 256)
    (h : ∀ h', h'.get? S = some (baObj (b.setIfInBounds k.toNat v.toNat.toUInt8)) → (∀ a o, a ≠ S → s.heap.get? a = some o → h'.get? a = some o) → Q () { s with heap := h' }) :
    wpAny (model prog w) A (setItem (.ref S) (.int k t) (.int v u)) Q E s := by
  unfold setItem
  refine wpAny_holding ?_
  refine wpAny_bind (wpAny_sequenceKey (ba_type hS) (by decide) ?_)
  refine wpAny_bind (wpAny_callSpecial?_slot (name := Str.ofString "__setitem__") (ba_type hS) ba_slot_setitem
    (wpAny_call_entry ba_slot_setitem (ba_type hS) ba_entry_setitem ?_ (by rfl)))
  unfold Builtin.«bytearray.__setitem__»
  refine bm_if_false rfl ?_
  dsimp only
  unfold Builtin.Bytes.subscript?
  refine wpAny_bind (wpAny_bind (wpAny_specialOf (T := "int") rfl int_index ?_))
  refine bm_if_false rfl ?_
  refine wpAny_bind (wpAny_of_eq (rfl : asIndex (.int k t) = pure k) ?_)
  refine bm_if_false (by unfold Builtin.Bytes.fitsIndex; simp only [Bool.not_eq_false', Bool.and_eq_true, decide_eq_true_eq]; omega) ?_
  refine wpAny_pure ?_
  dsimp only
  unfold Builtin.Bytes.byteValue
  refine wpAny_bind (wpAny_bind (wpAny_of_eq (rfl : asIndex (.int v u) = pure v) ?_))
  refine bm_if_false (by simp only [Bool.or_eq_false_iff, decide_eq_false_iff_not]; omega) ?_
  refine wpAny_pure ?_
  refine wpAny_bind (ba_payload hS ?_)
  rw [PySem.seqIndex_of h0 h1]
  dsimp only
  refine wpAny_bind (ba_write hS (by rw [Array.size_setIfInBounds]; omega) fun hS₂ => ?_)
  refine wpAny_pure ⟨.none, rfl, wpAny_pure (h _ hS₂ fun a o ha e => (Heap.get?_update_other _ _ (Ne.symm ha)).trans e)⟩
theorem bytes_of_ba {Q : Value → Shared → Prop} (hS : s.heap.get? S = some (baObj b)) (hz : b.size ≤ 900) (h : ∀ t k, Q (.bytes b t) { s with toks := k }) : wpAny (model prog w) A (call (.type "bytes") [.ref S]) Q E s := by
  have hT := ba_type hS
  have hnew : codeAny (model prog w) A.in1 (.call (.builtin "bytes.__new__") ⟨[.type "bytes", .ref S], []⟩) (wants (fun obj s₁ => s₁.TypeIs obj "bytes" ∧ Q obj s₁) E) s := by
    refine codeAny_of_tree ?_
    show wpAny _ A.in1.in1 (do checkBuiltinCall "bytes.__new__" ⟨[.type "bytes", .ref S], []⟩; again (.builtin "bytes.__new__" ⟨[.type "bytes", .ref S], []⟩)) _ _ s
    refine wpAny_bind (wpAny_of_eq (F.bm_newCall _) (wpAny_pure ⟨plainId_quiet F.bm_plain _, codeAny_builtin F.bm_entry ?_⟩))
    rw [Around.under_plainId F.bm_plain _]
    unfold Builtin.«bytes.__new__»
    refine wpAny_bind (wpAny_of_eq (a := true) rfl ?_)
    refine bm_if_false rfl ?_
    refine wpAny_bind (wpAny_of_eq F.bm_sub ?_)
    refine bm_if_false rfl ?_
    refine wpAny_bind (wpAny_of_eq (F.bm_bind _) ?_)
    refine wpAny_bind (wpAny_of_eq (a := ()) rfl ?_)
    refine wpAny_bind (wpAny_of_eq (a := ()) rfl ?_)
    refine bm_if_false rfl ?_
    refine wpAny_bind (wpAny_specialOf hT ba_no_bytes ?_)
    refine wpAny_bind (wpAny_bind ?_)
    show wpAny _ _ (load S >>= _) _ _ _
    refine wpAny_bind (wpAny_load hS ?_)
    refine wpAny_pure (wpAny_pure ?_)
    refine bm_if_false rfl ?_
    refine wpAny_bind (wpAny_specialOf hT ba_no_index ?_)
    refine bm_if_true rfl ?_
    first
      | show wpAny _ _ (Builtin.Bytes.buffer? "bytes.__new__" (.ref S) true >>= _) _ _ _
      | (refine wpAny_bind ?_; show wpAny _ _ (Builtin.Bytes.buffer? "bytes.__new__" (.ref S) true >>= _) _ _ _)
    refine wpAny_bind ?_
    unfold Builtin.Bytes.buffer?
    refine wpAny_bind (wpAny_specialOf hT ba_look_buffer ?_)
    dsimp only
    refine wpAny_bind (ba_ownBuffer hT ?_)
    refine bm_if_false rfl ?_
    refine wpAny_bind (wpAny_specialOf hT ba_look_buffer ?_)
    try dsimp only
    refine wpAny_bind (ba_ownRelease hT ?_)
    refine bm_if_false rfl ?_
    refine wpAny_bind (ba_payload hS ?_)
    refine wpAny_pure ?_
    refine wpAny_bind (wpAny_rule ?_)
    refine wpAny_bind (wpAny_mkBytes ?_ (by rw [sizeLine_eq]; omega))
    show wpAny _ _ (if (Value.type "bytes" == Value.type "bytes") = true then _ else _) _ _ _
    refine bm_if_true (by decide) ?_
    have fin : s.TypeIs (.ref S) "bytearray" := hT
    first
      | exact wpAny_pure ⟨PySem.W.typeIs_bytes _ _ _, h _ _⟩
      | exact wpAny_bind (wpAny_pure (wpAny_pure ⟨PySem.W.typeIs_bytes _ _ _, h _ _⟩))
      | exact wpAny_pure (wpAny_pure ⟨PySem.W.typeIs_bytes _ _ _, h _ _⟩)
  refine callType_codes (Q₁ := fun obj s₁ => s₁.TypeIs obj "bytes" ∧ Q obj s₁) F.bm_called (F.bm_typeCall _) F.entry_object_init hnew fun obj s₁ h₁ => ?_
  exact ⟨h₁.1, F.args_object_init_2 obj _, object_init_meets F.bm_called.init.lookup F.bm_called.made (by decide) prog w A.in1 _ s₁ ⟨h₁.1, rfl, h₁.2⟩⟩
end
end

section
set_option maxRecDepth 100000
section
variable {M : Model} {A : Around} {E : Value → Shared → Prop} {s : Shared} {env : Env}
theorem wpX_callWith_type1 {pos : Pos} {T : String} {e : PySem.Expr} {rest : List PySem.Expr} {Q : Value → Shared → Prop}
    (h : wpAny M A (spliced (backTo pos (starEach (e :: rest) env))) (fun vs s₁ => wpX M A (PySem.call (.type T) vs) Q E s₁) E s)
    (he : starEach (e :: rest) env = (false, eval e env) :: starEach rest env := by rfl) (hplain : (backTo pos (starEach rest env)).any (·.1) = false := by rfl) :
    wpX M A (callWith pos (.type T) [] (backTo pos (starEach (e :: rest) env)) []) Q E s := by
  rw [he] at h ⊢
  exact wpX_callWith_type (by show (false || (backTo pos (starEach rest env)).any (·.1)) = false; rw [hplain]; rfl) (Calls.evalArgs_plain h)
theorem wpX_callWith_fn1 {pos : Pos} {a : Addr} {e : PySem.Expr} {rest : List PySem.Expr} {Q : Value → Shared → Prop}
    (h : wpAny M A (spliced (backTo pos (starEach (e :: rest) env))) (fun vs s₁ => (∃ o fd, s₁.heap.get? a = some o ∧ o.data = .func fd) ∧ wpX M A (PySem.call (.ref a) vs) Q E s₁) E s)
    (he : starEach (e :: rest) env = (false, eval e env) :: starEach rest env := by rfl) (hplain : (backTo pos (starEach rest env)).any (·.1) = false := by rfl) (hl : (backTo pos (starEach (e :: rest) env)).length ≤ 30 := by decide) :
    wpX M A (callWith pos (.ref a) [] (backTo pos (starEach (e :: rest) env)) []) Q E s := by
  rw [he] at h hl ⊢
  exact wpX_callWith_fn (by show (false || (backTo pos (starEach rest env)).any (·.1)) = false; rw [hplain]; rfl) hl (Calls.evalArgs_plain h)
end
noncomputable def CallXOk (w : World) (n : Nat) (f : Addr) (vs : List Value) (kw : List (Str × Value)) (s : Shared) (R : Value → Heap → Prop) : Prop :=
  ∀ (loose : List Str) (mean : ExcName → Option Value) (mg mb : Str → Option Value) (dp un : Nat) (gd : Option (List Code)) (cn : Str) (cs : Scope) (a : Addr) (ccd : Value) (cl : List (Str × Addr)) (outer : List Env) (A₀ : Around) (base h₀ : Heap) (L : Addr) (m : Str → Option Value)
    (Q E : Value → Shared → Prop),
    Below A₀ base outer h₀ → Fr h₀ L s.heap m → (Mine.hd.heap_1 w.params).In h₀ → Top topProg loose mean mg mb h₀ → cs.kind = .function → dp + n < recursionLimit → un + 8 * n + 200 < cLine →
    (∀ v h' tk', (∀ b o, s.heap.get? b = some o → h'.get? b = some o) → R v h' → Q v { s with heap := h', toks := tk' }) →
    wpX (model PR w) (ktrTop dp un gd cn cs L a ccd cl outer) (PySem.call (.ref f) vs kw) Q E s
theorem CallXOk.intro {w : World} {n : Nat} {f : Addr} {vs : List Value} {kw : List (Str × Value)} {s : Shared} {R : Value → Heap → Prop}
    {name qual : Str} {params : Arguments} {body : List Stmt} {scope : Scope} {dV kV doc pm cdv ct oc : Value} {an od : Option Addr} {osl : Array (Option Value)} {binds : List (Str × Value)}
    (ho : (Mine.hd.heap_1 w.params).lookup f = some ⟨oc, od, .func (fnOf name qual params body scope dV kV doc pm an cdv ct), osl⟩) (hcd : codeIn (Mine.hd.heap_1 w.params) cdv qual = true)
    (hbind : (Mine.hd.heap_1 w.params).In s.heap → BindsTo s (fnOf name qual params body scope dV kV doc pm an cdv ct) ⟨vs, kw⟩ binds) (hloc : ∀ y ∈ binds, scope.names.lookup y.1 = some .local)
    (hcell : ∀ x ∈ scope.names, x.2 ≠ .cell) (hco : scope.isCoroutine = false) (hgen : scope.isGenerator = false) (hk : scope.kind = .function)
    (h : ∀ (loose : List Str) (mean : ExcName → Option Value) (mg mb : Str → Option Value) (dp un : Nat) (gd : Option (List Code)) (env : Env) (outer : List Env) (A₀ : Around) (base : Heap) (L' : Addr) (h₁ : Heap),
      Below A₀ base (env :: outer) s.heap → Fr s.heap L' h₁ (fun y => binds.reverse.lookup y) → (Mine.hd.heap_1 w.params).In s.heap → News s.heap L' h₁ [] → Top topProg loose mean mg mb s.heap → dp + n < recursionLimit → un + 8 * n + 200 < cLine →
      wpX (model PR w) (ktrTop dp un gd qual scope L' f cdv [] (env :: outer)) (PySem.execs body (envOf qual scope L' f cdv)) (RetOk s R) (fun _ _ => False) { s with heap := h₁, toks := s.toks + binds.length }) :
    CallXOk w (n + 1) f vs kw s R := by
  intro loose mean mg mb dp un gd cn cs a ccd cl outer A₀ base h₀ L m Q E B F X T hks hd hu hret
  have Xs : (Mine.hd.heap_1 w.params).In s.heap := X.keeps F.keep
  refine wpX_call ?_
  refine codeX_call_def (fd := fnOf name qual params body scope dV kV doc pm an cdv ct) (body := body) (binds := binds) (by show dp < recursionLimit; omega) (Xs _ _ ho) rfl (T.nolimit.keeps F.keep) (codeRec_of Xs hcd) rfl (hbind Xs) hcell hloc (fun h₁ hns hk₁ => ?_) hco hgen hk
  have B₁ := pushX (env := envX cn cs L a ccd cl) B F rfl hks
  refine wpX_mono (h loose mean mg mb (dp + 1) (un + 3) gd (envX cn cs L a ccd cl) outer _ base s.heap.objs.size h₁ B₁ ⟨hns, hk₁, Nat.le_refl _⟩ Xs News.nil (T.keeps F.keep) (by omega) (by omega)) (fun fl s' hl => ?_) fun _ _ x => x.elim
  obtain ⟨h', tk', rfl, hkeep, hr⟩ := hl
  exact hret _ h' tk' hkeep hr
section
variable {w : World} {A : Around} {E : Value → Shared → Prop} {s : Shared} {env : Env} {h₀ : Heap} {x : Str} {px : Pos} {body : List Stmt} {Q : Flow → Shared → Prop} {m₀ : Str → Option Value} {nx₀ : List (Addr × Obj)}
theorem rangeStep {r : Addr} {a₀ b₀ st : Int} {t₀ u₀ v₀ : Tok} {n : Nat} (J : Nat → (Str → Option Value) → List (Addr × Obj) → Prop)
    (hh : A.handled = none) (hr : IsRange s.heap r a₀ b₀ st t₀ u₀ v₀) (hsmall : Builtin.Range.small a₀ b₀ st = true) (hn : Builtin.Range.rangeSize a₀ b₀ st = (n : Int))
    (F : Fr h₀ env.locals s.heap m₀) (N : News h₀ env.locals s.heap nx₀) (hj : J 0 m₀ nx₀)
    (hcls : ∀ i m nx, J i m nx → ∀ p ∈ nx, NotIt "range_iterator" p.2 ∨ p ∈ nx₀)
    (turn : ∀ (i : Nat) t m₁ nx h tk I o, i < n → J i m₁ nx → o.cls = .type "range_iterator" → (∀ p ∈ nx, p.1 ≠ I) → Fr h₀ env.locals h m₁ → News h₀ env.locals h ((I, o) :: nx) →
      wpAny (model PR w) A (storeName env x (.int (a₀ + (i : Int) * st) t)) (fun _ s₃ => wpAny (model PR w) A (execs body env) (TurnJ h₀ env.locals (I, o) (J (i + 1)) { s with heap := h, toks := tk } Q) E s₃) E { s with heap := h, toks := tk })
    (done : ∀ m₁ nx h tk, J n m₁ nx → Fr h₀ env.locals h m₁ → News h₀ env.locals h nx → Q .next { s with heap := h, toks := tk }) :
    wpAny (model PR w) A (pyIter (.ref r)) (LoopAny w A h₀ env x px body Q E) E s := by
  refine wpAny_pyIter_range hr hsmall ?_
  have W : Walks PR w A s.heap.objs.size [s.heap.objs.size] [s.heap.objs.size] n (fun i v => i < n ∧ ∃ t, v = .int (a₀ + i * st) t)
      (fun i h => IsRangeIter h s.heap.objs.size (a₀ + (i : Nat) * st) ((n : Int) - (i : Nat)) st) := (Walks.range hh _ a₀ st n).bound
  refine ⟨_, _, n, _, _, "range_iterator", m₀, nx₀, J, rfl, W, next_is_new F, ?_, (fun i h st => ⟨_, st, rfl, _, rfl⟩), (fun b hb => .inl (List.mem_singleton.mp hb)), (fun i m nx hJ p hp => (hcls i m nx hJ p hp).imp id fun q => Nat.ne_of_lt (Heap.lt_size (N p q).1)), (by show IsRangeIter _ _ _ _ _; rw [hn]; simpa using Heap.get?_push_size _ rfl), (F.push _), (fun p hp => ⟨Heap.get?_push_of_some _ (N p hp).1, (N p hp).2⟩), hj, ?_, ?_⟩
  · intro hm
    exact absurd F.ns.lt ((List.mem_singleton.mp hm) ▸ Nat.lt_irrefl _)
  · intro i v m₁ nx h tk o hi xR1; obtain ⟨_, t, rfl⟩ := xR1; intro hJ hc hne F₁ N₁
    exact turn i t m₁ nx h tk _ o hi hJ hc hne F₁ N₁
  · exact done
theorem ba_set {L S : Addr} {m : Str → Option Value} {nx : List (Addr × Obj)} {g : Obj → List (Addr × Obj)} {b : Array UInt8} {k v : Int} {t u : Tok} {Q : Unit → Shared → Prop} (F : Fr h₀ L s.heap m) (N : News h₀ L s.heap nx) (U : UpdF S (baObj b) nx g)
    (h0 : 0 ≤ k) (h1 : k < (b.size : Int)) (hz : b.size ≤ 900) (v0 : 0 ≤ v) (v1 : v < 256) (h : ∀ h', Fr h₀ L h' m → News h₀ L h' (g (baObj (b.setIfInBounds k.toNat v.toNat.toUInt8))) → Q () { s with heap := h' }) :
    wpAny (model PR w) A (setItem (.ref S) (.int k t) (.int v u)) Q E s := by
  obtain ⟨own, rest, rfl, hg, h1', h2'⟩ := U.split
  have hmem := N (S, baObj b) (List.mem_append_right _ (.head _))
  refine ba_setItem hmem.1 h0 h1 hz v0 v1 fun h' hS' k' => h h' ⟨F.ns.at' fun o e => k' _ o (Ne.symm hmem.2.1) e, fun a o e => k' a o (fun q => by rw [q, hmem.2.2] at e; cases e) (F.keep a o e), F.above⟩ (hg _ ▸ fun p hp => ?_)
  rcases List.mem_append.mp hp with hp | hp
  · exact ⟨k' _ _ (h1' p hp) (N p (List.mem_append_left _ hp)).1, (N p (List.mem_append_left _ hp)).2⟩
  · rcases List.mem_cons.mp hp with rfl | hp
    · exact ⟨hS', hmem.2.1, hmem.2.2⟩
    · exact ⟨k' _ _ (h2' p hp) (N p (List.mem_append_right _ (.tail _ hp))).1, (N p (List.mem_append_right _ (.tail _ hp))).2⟩
end
end
theorem fresh_C11 : True := by w_top off; trivial

theorem u8_back (b : UInt8) : b.toNat.toUInt8 = b := by simp
noncomputable def swapAt (bs : List UInt8) (j : Nat) : Array UInt8 := (List.range j).foldl (fun a j => a.setIfInBounds (8 - j) (bs.getD j 0)) (Array.replicate 9 0)
theorem swapAt_succ (bs : List UInt8) (j : Nat) : swapAt bs (j + 1) = (swapAt bs j).setIfInBounds (8 - j) (bs.getD j 0) := by
  unfold swapAt; rw [List.range_succ, List.foldl_append]; rfl
theorem swapAt_size (bs : List UInt8) : ∀ j, (swapAt bs j).size = 9
  | 0 => rfl
  | j + 1 => by rw [swapAt_succ, Array.size_setIfInBounds]; exact swapAt_size bs j
noncomputable def swapL (bs : List UInt8) : Nat → List UInt8
  | 0 => List.replicate 9 0
  | j + 1 => (swapL bs j).set (8 - j) (bs.getD j 0)
theorem swapAt_list (bs : List UInt8) : ∀ j, swapAt bs j = (swapL bs j).toArray
  | 0 => rfl
  | j + 1 => by rw [swapAt_succ, swapAt_list bs j]; simp [swapL]
theorem swapAt_nine {bs : List UInt8} (h : bs.length = 9) : swapAt bs 9 = bs.reverse.toArray := by
  rw [swapAt_list]
  match bs, h with
  | [a, b, c, d, e, f, g, i, j], _ => rfl
set_option maxRecDepth 100000 in
set_option maxHeartbeats 8000000 in
theorem byteswap_ok (w : World) (s : Shared) (bs : List UInt8) (t tw : Tok) (hlen : bs.length = 9) :
    CallXOk w 1 125 [.bytes bs.toArray t, .int 9 tw] [] s (fun v h' => ∃ t, v = .bytes bs.reverse.toArray t) := by
  k_dflt (refine' CallXOk.intro (binds := [(Str.ofString "data", .bytes bs.toArray t), (Str.ofString "width", .int 9 tw)]) (ho := ?ho) (hcd := ?hcd) (hbind := ?hb) (hloc := ?hl) (hcell := ?hc) (hco := ?h1) (hgen := ?h2) (hk := ?h3) ?_; (case ho => k_is); (case hcd => k_is); (case hb => intro _; exact BindsTo.of_eq rfl); (case hc => decide); (case hl => exact locs rfl); (case h1 => exact rfl); (case h2 => exact rfl); (case h3 => exact rfl); k_whole)
  intro loose mean mg mb dp un gd env outer A₀ base L' h₁ B F X N T hd hu
  (try dsimp only)
  refine wpX_cons (wpX_assign (wpX_Call ?_))
  (try k_fold)
  k_steps
  refine wpX_callWith_type1 ?_
  (try k_fold)
  k_steps
  (with_reducible rename Fr _ _ _ _ => F1); (with_reducible rename News _ _ _ _ => N1)
  have hsz : (bs.toArray.size : Int) = 9 := by rw [List.size_toArray, hlen]; rfl
  rw [hsz]
  refine ba_call (by decide) (by decide) fun S h' hn hS keep => ?_
  have F2 := F1.keeps keep
  have N2 := news_add F1 (N1.grown keep) hn hS
  have hSa : Array.replicate (9 : Int).toNat (0 : UInt8) = swapAt bs 0 := rfl
  rw [hSa] at N2
  k_steps
  refine wpX_of ?_
  (try k_fold)
  k_steps
  (with_reducible rename Fr _ _ _ _ => F3); (with_reducible rename News _ _ _ _ => N3); (with_reducible rename IsRange _ _ _ _ _ _ _ _ => hr)
  rw [hsz] at hr
  refine rangeStep (n := 1) (fun i m nx => m (Str.ofString "swapped_data") = some (.ref S) ∧ m (Str.ofString "data") = some (.bytes bs.toArray t) ∧ m (Str.ofString "width") = some (.int 9 tw) ∧ nx = [(S, baObj (if i = 0 then swapAt bs 0 else swapAt bs 9))]) rfl hr (by decide) (by decide) F3 N3 ⟨rfl, rfl, rfl, rfl⟩ ?_ ?_ ?_
  · intro i m nx xR1; obtain ⟨_, _, _, rfl⟩ := xR1; intro p hp
    rw [List.mem_singleton.mp hp]
    exact .inl (.inl (by show (Value.type "bytearray") ≠ _; decide))
  · intro i ti m₁ nx hp tk I0 o0 hi xR2; obtain ⟨hm1, hm2, hm3, rfl⟩ := xR2; intro hc hne F₁ N₁
    obtain rfl : i = 0 := by omega
    rw [if_pos rfl] at N₁ hne
    obtain ⟨u, rfl⟩ := fr_eq (m := m₁) [(Str.ofString "swapped_data", .ref S), (Str.ofString "data", .bytes bs.toArray t), (Str.ofString "width", .int 9 tw)] ⟨hm1, hm2, hm3, trivial⟩
    replace hne := offP_of hne
    simp only [offP, and_true] at hne
    (try k_fold)
    k_steps
    (with_reducible rename Fr _ _ _ _ => F4); (with_reducible rename News _ _ _ _ => N4); (with_reducible rename IsRange _ _ _ _ _ _ _ _ => hr4)
    refine rangeB (n := 9) (fun j m nx => m (Str.ofString "swapped_data") = some (.ref S) ∧ m (Str.ofString "data") = some (.bytes bs.toArray t) ∧ m (Str.ofString "width") = some (.int 9 tw) ∧ m (Str.ofString "i") = some (.int (0 + ((0 : Nat) : Int) * 9) ti) ∧ nx = [(I0, o0), (S, baObj (swapAt bs j))]) rfl hr4 (by decide) (by decide) F4 N4 ⟨rfl, rfl, rfl, rfl, rfl⟩ ?_ ?_ ?_
    · intro j m nx xR3; obtain ⟨_, _, _, _, rfl⟩ := xR3; intro p hp
      simp only [List.mem_cons, List.not_mem_nil, or_false] at hp
      rcases hp with rfl | rfl
      · exact .inr (by k_mem)
      · exact .inl (.inl (by show (Value.type "bytearray") ≠ _; decide))
    · intro j tj m₁ nx hp tk I1 o1 hj xR4; obtain ⟨hm1, hm2, hm3, hm4, rfl⟩ := xR4; intro hc1 hne1 F₁ N₁
      obtain ⟨u, rfl⟩ := fr_eq (m := m₁) [(Str.ofString "swapped_data", .ref S), (Str.ofString "data", .bytes bs.toArray t), (Str.ofString "width", .int 9 tw), (Str.ofString "i", .int (0 + ((0 : Nat) : Int) * 9) ti)] ⟨hm1, hm2, hm3, hm4, trivial⟩
      replace hne1 := offP_of hne1
      simp only [offP, and_true] at hne1
      law_fin
      (try k_fold)
      k_steps
      (with_reducible rename Fr _ _ _ _ => F5); (with_reducible rename News _ _ _ _ => N5)
      dsimp only
      have hk : (0 + ((0 : Nat) : Int) * 9 + 9 - 1 - (0 + (j : Int))) = ((8 - j : Nat) : Int) := by omega
      rw [hk]
      have hsj := swapAt_size bs j
      refine ba_set (b := swapAt bs j) F5 N5 (by ktr_units) (by omega) (by omega) (by omega) ?_ ?_ ?_
      · exact Int.natCast_nonneg _
      · have := (bs.getD (0 + ((0 : Nat) : Int) * 9 + (0 + (j : Int))).toNat 0).toNat_lt; omega
      · intro h' F6 N6
        have hj2 : (0 + ((0 : Nat) : Int) * 9 + (0 + (j : Int))).toNat = j := by omega
        rw [hj2, Int.toNat_natCast, Int.toNat_natCast, u8_back, ← swapAt_succ] at N6
        k_steps
        exact TurnJ.next F6 N6 ⟨rfl, rfl, rfl, rfl, rfl⟩
    · intro m₁ nx hp tk xR5; obtain ⟨hm1, hm2, hm3, hm4, rfl⟩ := xR5; intro F₁ N₁
      dsimp only
      k_steps
      exact TurnJ.nextS [(S, baObj (swapAt bs 9))] F₁ N₁ (by ktr_rel) ⟨hm1, hm2, hm3, rfl⟩
  · intro m₁ nx hp tk xR6; obtain ⟨hm1, hm2, hm3, rfl⟩ := xR6; intro F₁ N₁
    rw [if_neg (by decide)] at N₁
    obtain ⟨u, rfl⟩ := fr_eq (m := m₁) [(Str.ofString "swapped_data", .ref S)] ⟨hm1, trivial⟩
    dsimp only
    k_steps
    (with_reducible rename Fr _ _ _ _ => F5); (with_reducible rename News _ _ _ _ => N5)
    refine bytes_of_ba (b := swapAt bs 9) (N5 _ (.head _)).1 (by rw [swapAt_size]; omega) ?_
    intro t9 k9
    k_steps
    refine RetOk.intro (by assumption) ⟨t9, by rw [swapAt_nine hlen]⟩

section
noncomputable def Pair (h : Heap) (p : Addr) (x : Int × Int) : Prop := ∃ t u, h.IsTuple p #[.int x.1 t, .int x.2 u]
theorem Pair.keeps {h h' : Heap} {p : Addr} {x : Int × Int} (P : Pair h p x) (k : ∀ b o, h.get? b = some o → h'.get? b = some o) : Pair h' p x := let ⟨t, u, o, e, r⟩ := P; ⟨t, u, o, k _ _ e, r⟩
section
variable {w : World} {A : Around} {E : Value → Shared → Prop} {s : Shared} {env : Env} {body : List Stmt} {Q : Flow → Shared → Prop}
inductive LoopPairs (w : World) (A : Around) (h₀ : Heap) (env : Env) (xk xv : Str) (body : List Stmt) (Q : Flow → Shared → Prop) (E : Value → Shared → Prop) (xval : Value) (s₁ : Shared) : Prop
  | intro (l : Addr) (ts : List Addr) (ps : List (Int × Int)) (m₀ : Str → Option Value) (nx₀ : List (Addr × Obj)) (J : Nat → (Str → Option Value) → List (Addr × Obj) → Prop) (q0 : xval = .ref l) (q1 : h₀.IsList l (ts.map Value.ref).toArray) (q2 : ts.length = ps.length) (q3 : (∀ (i : Nat) (t : Addr) (p : Int × Int), ts[i]? = some t → ps[i]? = some p → Pair h₀ t p)) (q4 : Fr h₀ env.locals s₁.heap m₀) (q5 : News h₀ env.locals s₁.heap nx₀) (q6 : J 0 m₀ nx₀) (q7 : (∀ i m nx, J i m nx → ∀ p ∈ nx, p.2.cls ≠ .type "list_iterator")) (q8 : (∀ (i : Nat) a b t u m₁ nx h tk I o, ps[i]? = some (a, b) → J i m₁ nx → o.cls = .type "list_iterator" → (∀ p ∈ nx, p.1 ≠ I) → Fr h₀ env.locals h (fun y => if y = xv then some (.int b u) else if y = xk then some (.int a t) else m₁ y) → News h₀ env.locals h ((I, o) :: nx) →
      wpAny (model PR w) A (execs body env) (TurnJ h₀ env.locals (I, o) (J (i + 1)) { s₁ with heap := h, toks := tk } Q) E { s₁ with heap := h, toks := tk })) (q9 : (∀ m₁ nx h tk, J ps.length m₁ nx → Fr h₀ env.locals h m₁ → News h₀ env.locals h nx → Q .next { s₁ with heap := h, toks := tk })) : LoopPairs w A h₀ env xk xv body Q E xval s₁

inductive PI (s₁ : Shared) (l : Addr) (ps : List (Int × Int)) (h₀ : Heap) (env : Env) (J : Nat → (Str → Option Value) → List (Addr × Obj) → Prop) (n : Nat) (s' : Shared) : Prop
  | intro (h' : _) (tk : _) (m' : _) (nx' : _) (i : _) (q0 : s' = { s₁ with heap := h', toks := tk }) (q1 : h'.IsListIter s₁.heap.objs.size l i) (q2 : Fr h₀ env.locals h' m') (q3 : News h₀ env.locals h' nx') (q4 : J i m' nx') (q5 : i ≤ ps.length) (q6 : n = ps.length + 1 - i) : PI s₁ l ps h₀ env J n s'
theorem For_pairs {xk xv : Str} {pk pv pt pos : Pos} {x1} {iter : PySem.Expr} (h₀ : Heap)
    (hh : A.handled = none) (hxk : env.kindOf xk = some .local) (hxv : env.kindOf xv = some .local)
    (hp : (env.scope.kind == .class || (env.scope.kind == .module && env.locals != env.globals)) = false)
    (h : wpAny (model PR w) A (eval iter env) (LoopPairs w A h₀ env xk xv body Q E) E s)
    (hs : ∀ x, foldedSetIterable iter env x = pure x := by intro _; rfl)
    (hE : PassesOwn (model PR w) A env E := by passes_own) :
    wpAny (model PR w) A (exec (.For (.Tuple [.Name xk pk, .Name xv pv] x1 pt) iter body [] pos) env) Q E s := by
  refine wpAny_For (wpAny_mono h (fun xval s₁ hL => ?_) fun _ _ e => e) hs
  obtain ⟨l, ts, ps, m₀, nx₀, J, rfl, hl₀, hlen, hps, F, N, hj, hcls, turn, done⟩ := hL
  have hl : ∀ {h : Heap} {m}, Fr h₀ env.locals h m → h.IsList l (ts.map Value.ref).toArray := fun F => hl₀.at fun o e => F.keep _ _ e
  have hlI : h₀.get? s₁.heap.objs.size = none := next_is_new F
  have hiL : s₁.heap.objs.size ≠ env.locals := Nat.ne_of_gt F.ns.lt
  refine wpAny_pyIter_list (hl F) ?_
  refine codeAny_forLoop_any
    (PI s₁ l ps h₀ env J) ?_ (ps.length + 1)
    ⟨_, s₁.toks, m₀, nx₀, 0, rfl, ⟨_, Heap.get?_push_size _ rfl, rfl, rfl⟩, F.push _, (fun p hp => ⟨Heap.get?_push_of_some _ (N p hp).1, (N p hp).2⟩), hj, Nat.zero_le _, rfl⟩
  intro n s' xR1; obtain ⟨H, tk, m', nx', i, rfl, hit', F', N', hJ, hi, rfl⟩ := xR1
  have off : ∀ p ∈ nx', p.1 ≠ s₁.heap.objs.size := fun p hp e => by
    have h1 := (N' p hp).1
    obtain ⟨o, ho, hc, _⟩ := hit'
    rw [e, ho] at h1
    exact hcls _ _ _ hJ p hp (by rw [← Option.some.inj h1]; exact hc)
  have old0 : ∀ b o, h₀.get? b = some o → b ≠ s₁.heap.objs.size := fun b o e q => by rw [q, hlI] at e; cases e
  cases hv' : ps[i]? with
  | none =>
    have hsz : i = ps.length := Nat.le_antisymm hi (by simpa using hv')
    refine wpAny_pyNext_list_end hh hit' (hl F') (by simp; omega) fun h₁ he₁ => wpAny_execs_nil ?_
    refine done m' nx' h₁ tk (by rw [← hsz]; exact hJ) ⟨F'.ns.extBut he₁ (Ne.symm hiL), fun b o e => he₁ b o (old0 b o e) (F'.keep b o e), F'.above⟩ fun p hp => ⟨he₁ _ _ (off p hp) (N' p hp).1, (N' p hp).2⟩
  | some kv =>
    obtain ⟨a, b⟩ := kv
    have hlt : i < ps.length := (List.getElem?_eq_some_iff.mp hv').1
    have hit : i < ts.length := hlen ▸ hlt
    obtain ⟨t, u, hT⟩ := hps i ts[i] (a, b) (List.getElem?_eq_getElem hit) hv'
    refine wpAny_pyNext_list_item hit' (hl F') (x := .ref ts[i]) (by simp [hit]) fun h₁ hit₁ hs₁ => ?_
    obtain ⟨oi, hoi, hci, hdi⟩ := id hit₁
    refine wpAny_letOwnedTupleGo_listiter hit₁ ?_
    have up₁ : ∀ b o, b ≠ s₁.heap.objs.size → H.get? b = some o → h₁.get? b = some o := fun b o hb e => hs₁.extBut b o hb e
    have F₁ : Fr h₀ env.locals h₁ m' := ⟨F'.ns.at fun o e => up₁ _ o (Ne.symm hiL) e, fun b o e => up₁ b o (old0 b o e) (F'.keep b o e), F'.above⟩
    have hT₁ : h₁.IsTuple ts[i] #[.int a t, .int b u] := let ⟨o, e, r⟩ := hT; ⟨o, F₁.keep _ _ e, r⟩
    refine wpAny_assign_Tuple hh hT₁ rfl rfl fun h₃ hx₃ => ?_
    replace hx₃ : Heap.ExtBut h₁.objs.size h₁ h₃ := hx₃
    have old₃ : ∀ b o, h₁.get? b = some o → h₃.get? b = some o := fun b o x => hx₃ b o (Nat.ne_of_lt (Heap.lt_size x)) x
    have F₃ : Fr h₀ env.locals h₃ m' := ⟨F₁.ns.at fun o e => old₃ _ o e, fun b o e => old₃ b o (F₁.keep b o e), F₁.above⟩
    have N₃ : News h₀ env.locals h₃ ((s₁.heap.objs.size, oi) :: nx') := fun p hp => by
      rcases List.mem_cons.mp hp with rfl | hp
      · exact ⟨old₃ _ _ hoi, hiL, hlI⟩
      · exact ⟨old₃ _ _ (up₁ _ _ (off p hp) (N' p hp).1), (N' p hp).2⟩
    show wpAny _ _ (do holding [Value.int b u] (assign (.Name xk pk) env (Value.int a t)); do holding [] (assign (.Name xv pv) env (Value.int b u)); pure ()) _ _ _
    refine wpAny_bind (wpAny_holding (wpAny_assign_Name (wpAny_storeName_local hxk F₃.ns (fun h₄ hn₄ hs₄ => ?_) hp)))
    have F₄ := F₃.set hn₄ hs₄
    have N₄ := N₃.set hs₄
    refine wpAny_bind (wpAny_holding (wpAny_assign_Name (wpAny_storeName_local hxv F₄.ns (fun h₅ hn₅ hs₅ => wpAny_pure ?_) hp)))
    have F₅ := F₄.set hn₅ hs₅
    have N₅ := N₄.set hs₅
    refine wpAny_mono (wpAny_passesOwn hE (turn i a b t u m' nx' h₅ _ _ _ hv' hJ hci off F₅ N₅)) (fun f s₃ h₆ => ?_) fun _ _ x => x
    have fin : (∃ h' tk m₂ nx₂, s₃ = { s₁ with heap := h', toks := tk } ∧ Fr h₀ env.locals h' m₂ ∧ News h₀ env.locals h' ((s₁.heap.objs.size, oi) :: nx₂) ∧ J (i + 1) m₂ nx₂) →
        ∃ mm, mm < ps.length + 1 - i ∧ PI s₁ l ps h₀ env J mm s₃ := by
      intro xR2; obtain ⟨h', tk', m₂, nx₂, rfl, F₆, N₆, hJ₆⟩ := xR2
      exact ⟨ps.length + 1 - (i + 1), by omega, h', tk', m₂, nx₂, i + 1, rfl, ⟨oi, (N₆ _ (.head _)).1, hci, hdi⟩, F₆, fun p hp => N₆ p (.tail _ hp), hJ₆, hlt, rfl⟩
    cases f with
    | ret v => exact h₆
    | brk => exact h₆
    | next => exact fin h₆
    | cont => exact fin h₆
theorem For_pairsF {xk xv : Str} {pk pv pt pos : Pos} {x1} {iter : PySem.Expr} {h₀ : Heap} {m : Str → Option Value} (_F : Fr h₀ env.locals s.heap m)
    (hh : A.handled = none) (hxk : env.kindOf xk = some .local) (hxv : env.kindOf xv = some .local)
    (hp : (env.scope.kind == .class || (env.scope.kind == .module && env.locals != env.globals)) = false)
    (h : wpAny (model PR w) A (eval iter env) (LoopPairs w A h₀ env xk xv body Q E) E s)
    (hs : ∀ x, foldedSetIterable iter env x = pure x := by intro _; rfl)
    (hE : PassesOwn (model PR w) A env E := by passes_own) :
    wpAny (model PR w) A (exec (.For (.Tuple [.Name xk pk, .Name xv pv] x1 pt) iter body [] pos) env) Q E s := For_pairs h₀ hh hxk hxv hp h hs hE

inductive Order (h : Heap) (c : Addr) (side : Int) : Prop
  | intro (ox : _) (od : _) (lst : _) (p : _) (q : _) (q0 : InstAt h c ox 38 (some od)) (q1 : lookIn (Str.ofString "comp_select_list") od = some (some (.ref lst))) (q2 : lookIn (Str.ofString "compare") od = some none) (q3 : h.IsList lst #[.ref p, .ref q]) (q4 : Pair h p (0, -1)) (q5 : Pair h q (1, side)) : Order h c side
theorem inst_keeps {h h' : Heap} {x C : Addr} {ox : Obj} {od : Option Obj} (I : InstAt h x ox C od) (k : ∀ b o, h.get? b = some o → h'.get? b = some o) : InstAt h' x ox C od :=
  ⟨k _ _ I.at_, I.cls, I.no, by
    have := I.dict
    cases h1 : ox.dict <;> cases h2 : od <;> simp only [h1, h2] at this ⊢
    exact k _ _ this⟩
theorem Order.keeps {h h' : Heap} {c : Addr} {side : Int} (O : Order h c side) (k : ∀ b o, h.get? b = some o → h'.get? b = some o) : Order h' c side := by
  obtain ⟨ox, od, lst, p, q, I, lk, lc, hl, P, R⟩ := O
  exact ⟨ox, od, lst, p, q, inst_keeps I k, lk, lc, hl.at fun o e => k _ _ e, P.keeps k, R.keeps k⟩
theorem ord_attr {K : Frag} {h₀ : Heap} {L c C lst : Addr} {ox od : Obj} {m : Str → Option Value} {name : Str} {expr : Bool} {attr : Option Value} {Q : Value → Shared → Prop} (F : Fr h₀ L s.heap m) (X₀ : K.In h₀) (I : InstAt h₀ c ox C (some od))
    (lk : lookIn name od = some (some (.ref lst))) (hga : findIn K (.ref C) "__getattribute__" = some (some (.builtin "object.__getattribute__"))) (hh : hasDictIn K C = true) (ha : findIn K (.ref C) name = some attr) (hn : noGet K attr = true)
    (h : Q (.ref lst) { s with toks := s.toks + 1 }) : wpAny (model PR w) A (getAttr (.ref c) name expr) Q E s :=
  get_value (X₀.keeps F.keep) (inst_keeps I F.keep) hga (findObj_own hh ha hn lk) rfl h
theorem ord_meth {K : Frag} {h₀ : Heap} {L c C f : Addr} {ox od : Obj} {m : Str → Option Value} {name : Str} {pl : Sem Bool} {Q : Value × List Value → Shared → Prop} (F : Fr h₀ L s.heap m) (X₀ : K.In h₀) (I : InstAt h₀ c ox C (some od))
    (hg : plainGet K C name = true) (hf : findIn K (.ref C) name = some (some (.ref f))) (ht : isFn K (.ref f) = true) (hl : lookIn name od = some none) (h : Q (.ref f, [.ref c]) s) : wpAny (model PR w) A (getMethod (.ref c) name pl) Q E s :=
  method_fn (X₀.keeps F.keep) (inst_keeps I F.keep) (plainGet_of hg).1 (plainGet_of hg).2 hf (beq_iff_eq.mp ht) (by show (lookIn name od).map _ = _; rw [hl]; rfl) h
theorem pr_getItem {p : Addr} {x : Int × Int} {u : Tok} {Q : Value → Shared → Prop} {k : Int} (P : Pair s.heap p x) (hk : k = 0 ∨ k = 1) (h : ∀ t, Q (.int (if k = 0 then x.1 else x.2) t) s) :
    wpAny (model PR w) A (getItem (.ref p) (.int k u)) Q E s := by
  obtain ⟨t, v, hT⟩ := P
  rcases hk with rfl | rfl
  · exact getItem_tuple hT (by decide) (by decide) (j := 0) rfl rfl (h t)
  · exact getItem_tuple hT (by decide) (by decide) (j := 1) rfl rfl (h v)
theorem pr_item {value slice : PySem.Expr} {p : Addr} {x : Int × Int} {u : Tok} {Q : Value → Shared → Prop} {k : Int} (P : Pair s.heap p x) (hk : k = 0 ∨ k = 1) (h : ∀ t, Q (.int (if k = 0 then x.1 else x.2) t) s)
    (hs : subscripted slice false (.ref p) (.int k u) = operate [.ref p, .int k u] (getItem (.ref p) (.int k u)) := by with_unfolding_all rfl) (hg : ∀ r, letTemporaryGo value (.ref p) r = pure () := by intro _; with_unfolding_all rfl) :
    wpAny (model PR w) A (subscriptTail value slice (.ref p) (.int k u)) Q E s :=
  subscriptTail_builtin (let ⟨_, _, hT⟩ := P; hT.typeIs) slot_tuple_getitem.lookup (pr_getItem P hk h) hs hg
end
end
theorem fresh_C12 : True := by w_top off; trivial

noncomputable def cmpF (side : Int) (x y : Int × Int) : Int := if x.1 < y.1 then 1 else if x.1 > y.1 then -1 else if x.2 < y.2 then -side else if x.2 > y.2 then side else 0
theorem cmpF_a {side : Int} {x y : Int × Int} (e : x.1 = y.1) (h : x.2 < y.2) : -side = cmpF side x y := by unfold cmpF; rw [if_neg (by omega), if_neg (by omega), if_pos h]
theorem cmpF_b {side : Int} {x y : Int × Int} (e : x.1 = y.1) (h : y.2 < x.2) : side = cmpF side x y := by unfold cmpF; rw [if_neg (by omega), if_neg (by omega), if_neg (by omega), if_pos h]
theorem cmpF_c {x y : Int × Int} (h : ¬ x.2 < y.2) (h : ¬ y.2 < x.2) : x.2 = y.2 := by omega
set_option maxRecDepth 100000 in
set_option maxHeartbeats 8000000 in
theorem compare_ok (w : World) (s : Shared) (c p q : Addr) (side : Int) (x y : Int × Int) (O : Order s.heap c side) (P : Pair s.heap p x) (R : Pair s.heap q y) :
    CallOk w 1 35 [.ref c, .ref p, .ref q] [] s (fun v _ => ∃ t, v = .int (cmpF side x y) t) := by
  k_dflt (refine' CallOk.intro (binds := [(Str.ofString "self", .ref c), (Str.ofString "left", .ref p), (Str.ofString "right", .ref q)]) (ho := ?ho) (hcd := ?hcd) (hbind := ?hb) (hloc := ?hl) (hcell := ?hc) (hco := ?h1) (hgen := ?h2) (hk := ?h3) ?_; (case ho => k_is); (case hcd => k_is); (case hb => intro _; exact BindsTo.of_eq rfl); (case hc => decide); (case hl => exact locs rfl); (case h1 => exact rfl); (case h2 => exact rfl); (case h3 => exact rfl); k_whole)
  intro loose mean mg mb dp un gd env outer A₀ base L' h₁ B F X N T hd hu
  obtain ⟨ox, od, lst, p1, q1, I, lk, lcm, hl, hp1, hq1⟩ := O
  (try dsimp only); (try k_fold)
  k_steps
  rename Fr _ _ _ _ => F0
  refine ⟨lst, [p1, q1], [(0, -1), (1, side)], _, [], fun i m nx => m (Str.ofString "left") = some (.ref p) ∧ m (Str.ofString "right") = some (.ref q) ∧ nx = [] ∧ (1 ≤ i → x.1 = y.1) ∧ (2 ≤ i → x.2 = y.2), rfl, hl, rfl, ?_, F0, N, ⟨rfl, rfl, rfl, fun h => absurd h (by decide), fun h => absurd h (by decide)⟩, ?_, ?_, ?_⟩
  · rintro (_ | _ | i) t p ht hp
    · cases ht; cases hp; exact hp1
    · cases ht; cases hp; exact hq1
    · cases ht
  · intro i m nx xR1; obtain ⟨_, _, rfl, _⟩ := xR1; intro p hp; cases hp
  · intro i a b t u m₁ nx h tk I oI hb xR2; obtain ⟨hm1, hm2, rfl, e1, e2⟩ := xR2; intro hc hne F₁ N₁
    obtain ⟨v, rfl⟩ := fr_self (m := m₁) (ps := [(Str.ofString "left", .ref p), (Str.ofString "right", .ref q)]) (by simp [hm1, hm2])
    have hi : (i = 0 ∧ a = 0 ∧ b = -1) ∨ (i = 1 ∧ a = 1 ∧ side = b) := by
      rcases i with (_ | _ | i)
      · cases hb; exact .inl ⟨rfl, rfl, rfl⟩
      · cases hb; exact .inr ⟨rfl, rfl, rfl⟩
      · cases hb
    rcases hi with ⟨rfl, rfl, rfl⟩ | ⟨rfl, rfl, rfl⟩
    · (try k_fold)
      k_steps
      all_goals first
        | (refine RetOk.intro (s := s) (R := fun v _ => ∃ t, v = Value.int (cmpF side x y) t) (by assumption) ⟨_, congrArg (fun z => Value.int z _) ?_⟩; unfold cmpF; simp only [if_true, if_pos] at *; omega)
        | (refine TurnJ.next (by assumption) (by assumption) ⟨rfl, rfl, rfl, fun _ => ?_, fun hq => absurd hq (by decide)⟩; simp only [if_true, if_pos] at *; omega)
    · have e1 := e1 (Nat.le_refl _)
      (try k_fold)
      k_steps
      all_goals first
        | exact RetOk.intro (s := s) (R := fun v _ => ∃ t, v = Value.int (cmpF side x y) t) (by assumption) ⟨_, congrArg (fun z => Value.int z _) (cmpF_a e1 (by assumption))⟩
        | exact RetOk.intro (s := s) (R := fun v _ => ∃ t, v = Value.int (cmpF side x y) t) (by assumption) ⟨_, congrArg (fun z => Value.int z u) (cmpF_b e1 (by assumption))⟩
        | exact TurnJ.next (by assumption) (by assumption) ⟨rfl, rfl, rfl, fun _ => e1, fun _ => cmpF_c (by assumption) (by assumption)⟩
  · intro m₁ nx h tk xR3; obtain ⟨hm1, hm2, rfl, e1, e2⟩ := xR3; intro F₁ N₁
    obtain ⟨v, rfl⟩ := fr_self (m := m₁) (ps := [(Str.ofString "left", .ref p), (Str.ofString "right", .ref q)]) (by simp [hm1, hm2])
    dsimp only
    have e1 := e1 (Nat.le_succ 1)
    have e2 := e2 (Nat.le_refl 2)
    k_steps
    refine RetOk.intro (s := s) (R := fun v _ => ∃ t, v = Value.int (cmpF side x y) t) (by assumption) ⟨_, congrArg (fun z => Value.int z _) ?_⟩
    unfold cmpF
    rw [if_neg (by omega), if_neg (by omega), if_neg (by omega), if_neg (by omega)]

theorem CallOk.introE {w : World} {n : Nat} {f c' : Addr} {vs : List Value} {kw : List (Str × Value)} {s : Shared} {R : Value → Heap → Prop}
    {name qual : Str} {params : Arguments} {body : PySem.Expr} {scope : Scope} {cl : List (Str × Addr)} {pm ctv : Value} {binds : List (Str × Value)}
    (ho : s.heap.get? f = some (kla_obj name qual params body scope cl pm c' ctv)) (hcd : s.heap.CodeRec (.ref c') qual)
    (hbind : bindArgs (kla_fn name qual params body scope cl pm (.ref c') ctv) ⟨vs, kw⟩ = pure binds) (hloc : ∀ y ∈ binds, scope.names.lookup y.1 = some .local)
    (hcell : ∀ x ∈ scope.names, x.2 ≠ .cell) (hco : scope.isCoroutine = false) (hgen : scope.isGenerator = false) (hk : scope.kind = .function)
    (h : ∀ (loose : List Str) (mean : ExcName → Option Value) (mg mb : Str → Option Value) (dp un : Nat) (gd : Option (List Code)) (env : Env) (outer : List Env) (A₀ : Around) (base : Heap) (L' : Addr) (h₁ : Heap),
      Below A₀ base (env :: outer) s.heap → Fr s.heap L' h₁ (fun y => binds.reverse.lookup y) → (Mine.hd.heap_1 w.params).In s.heap → News s.heap L' h₁ [] → Top topProg loose mean mg mb s.heap → dp + n < recursionLimit → un + 8 * n + 200 < cLine →
      wpAny (model PR w) (ktrTop dp un gd qual scope L' f (.ref c') cl (env :: outer)) (eval body (envX qual scope L' f (.ref c') cl)) (fun v s' => RetOk s R (.ret v) s') (fun _ _ => False) { s with heap := h₁, toks := s.toks + binds.length }) :
    CallOk w (n + 1) f vs kw s R := by
  intro loose mean mg mb dp un gd cn cs a ccd cl' outer A₀ base h₀ L m Q E B F X T hks hd hu hret
  have Xs : (Mine.hd.heap_1 w.params).In s.heap := X.keeps F.keep
  refine wpAny_call ?_
  refine kla_callFunE (by show dp < recursionLimit; omega) ho rfl hco hgen rfl hcd ?_
  rw [hbind]
  refine wpAny_pure (wpAny_newFunctionEnv hcell hloc (fun h₁ hns hsb => ⟨((T.nolimit).keeps F.keep).fresh _ hsb, ?_⟩) hk)
  have hk₁ : ∀ b o, s.heap.get? b = some o → h₁.get? b = some o := fun b o e => hsb.extBut b o (Nat.ne_of_lt (Heap.lt_size e)) (Heap.get?_push_of_some _ e)
  have B₁ := pushX (env := envX cn cs L a ccd cl') B F rfl hks
  refine kla_codeExpr (env := envX qual scope s.heap.objs.size f (.ref c') cl) (wpAny_mono (h loose mean mg mb (dp + 1) (un + 3) gd (envX cn cs L a ccd cl') outer _ base s.heap.objs.size h₁ B₁ ⟨hns, hk₁, Nat.le_refl _⟩ Xs News.nil (T.keeps F.keep) (by omega) (by omega)) (fun v s' hl => ?_) fun _ _ x => x.elim)
  obtain ⟨h', tk', rfl, hkeep, hr⟩ := hl
  exact hret _ h' tk' hkeep hr

noncomputable abbrev lamParams (p : Pos) : Arguments := { posonlyargs := [], args := [{ arg := Str.ofString "one", annotation := none, pos := p }], vararg := none, kwonlyargs := [], kw_defaults := [], kwarg := none, defaults := [] }
noncomputable abbrev lamBody (p1 p2 p3 p4 p5 : Pos) : PySem.Expr := .Call (.Attribute (.Name (Str.ofString "order") p1) (Str.ofString "compare") p2) [.Name (Str.ofString "one") p3, .Name (Str.ofString "pair") p4] [] p5
noncomputable abbrev lamScope : Scope := { kind := .function, names := [(Str.ofString "one", .local), (Str.ofString "order", .free), (Str.ofString "pair", .free)], isGenerator := false, isCoroutine := false }
noncomputable abbrev LamBodyOk (p1 p2 p3 p4 p5 : Pos) : Prop := ∀ env : Env, ∃ pl : Sem Bool, eval (lamBody p1 p2 p3 p4 p5) env = (do
      let ov ← eval (.Name (Str.ofString "order") p1) env
      standAt p2.atName
      let (f, first) ← holding [ov] (getMethod ov (Str.ofString "compare") pl)
      callWith p5 f first (backTo p5 (starEach [.Name (Str.ofString "one") p3, .Name (Str.ofString "pair") p4] env)) [])
inductive LamAt (h : Heap) (f : Addr) (side : Int) (x : Int × Int) : Prop
  | intro (qual : Str) (p p1 p2 p3 p4 p5 : Pos) (cO cP c' c pr : Addr) (pm ctv : Value) (oO oP : Obj) (q0 : h.get? f = some (kla_obj (Str.ofString "<lambda>") qual (lamParams p) (lamBody p1 p2 p3 p4 p5) lamScope [(Str.ofString "pair", cP), (Str.ofString "order", cO)] pm c' ctv)) (q1 : h.CodeRec (.ref c') qual) (q2 : h.get? cO = some oO) (q3 : oO.data = .cell (some (.ref c))) (q4 : h.get? cP = some oP) (q5 : oP.data = .cell (some (.ref pr))) (q6 : Order h c side) (q7 : Pair h pr x) (q8 : LamBodyOk p1 p2 p3 p4 p5) : LamAt h f side x
theorem codeRec_keeps {h h' : Heap} {v : Value} {q : Str} (C : h.CodeRec v q) (k : ∀ b o, h.get? b = some o → h'.get? b = some o) : h'.CodeRec v q :=
  let ⟨c, oc, vs, t, e, e2, r⟩ := C; ⟨c, oc, vs, t, e, k _ _ e2, r⟩
theorem LamAt.keeps {h h' : Heap} {f : Addr} {side : Int} {x : Int × Int} (Z : LamAt h f side x) (k : ∀ b o, h.get? b = some o → h'.get? b = some o) : LamAt h' f side x := by
  obtain ⟨qual, p, p1, p2, p3, p4, p5, cO, cP, c', c, pr, pm, ctv, oO, oP, a1, a2, a3, a4, a5, a6, a7, a8, a9⟩ := Z
  exact ⟨qual, p, p1, p2, p3, p4, p5, cO, cP, c', c, pr, pm, ctv, oO, oP, k _ _ a1, codeRec_keeps a2 k, k _ _ a3, a4, k _ _ a5, a6, a7.keeps k, a8.keeps k, a9⟩
theorem name_free {M : Model} {A : Around} {E : Value → Shared → Prop} {s : Shared} {h₀ : Heap} {L a : Addr} {m : Str → Option Value} {cn : Str} {cs : Scope} {ccd : Value} {cl : List (Str × Addr)} {x : Str} {pos : Pos} {v : Value} {Q : Value → Shared → Prop} {c : Addr} {o : Obj}
    (F : Fr h₀ L s.heap m) (hc : cl.lookup x = some c) (hm : h₀.get? c = some o) (hd : o.data = .cell (some v)) (h : Q v s)
    (hk : cs.kind = .function := by rfl) (hx : (envX cn cs L a ccd cl).kindOf x = some .free := by rfl) (hb : (x == ("__debug__" : Str)) = false := by decide) (hn : (x == ("__classdict__" : Str)) = false := by decide) :
    wpAny M A (eval (.Name x pos) (envX cn cs L a ccd cl)) Q E s := wpAny_Name (wpAny_loadName_free hk hx hc ⟨o, F.keep _ _ hm, hd⟩ h hn) hb
theorem fresh_C13 : True := by w_top off; trivial
theorem reg_C13 : True := by
  (k_with "eval Name" => ((guard_hyp on_C13 : True; ((k_dflt (refine' name_free (by k_asm) (by rfl) (by assumption) (by assumption) ?_ (by rfl) (by rfl) (by decide) (by decide)))))))
  (k_with "call ref" => ((guard_hyp on_C13 : True; (((with_reducible show wpAny _ _ (call (Value.ref 35) _ _) _ _ _); k_dflt (refine' use_cmp (by assumption) (by k_asm) (by assumption) (by k_asm) (by assumption) (by rfl) (by omega) (by omega) (by exact Order.keeps (by assumption) (Fr.keep (by k_asm))) (by exact Pair.keeps (by assumption) (Fr.keep (by k_asm))) (by exact Pair.keeps (by assumption) (Fr.keep (by k_asm))) ?_; intro _ _ _ _ _ _))))))
  trivial

theorem use_cmp {w : World} {s : Shared} {loose : List Str} {mean : ExcName → Option Value} {mg mb : Str → Option Value} {dp un : Nat} {gd : Option (List Code)} {cn : Str} {cs : Scope} {a : Addr} {ccd : Value} {cl : List (Str × Addr)} {outer : List Env} {A₀ : Around} {base h₀ : Heap} {L : Addr} {m : Str → Option Value} {nx : List (Addr × Obj)} {Q E : Value → Shared → Prop} {c p q : Addr} {side : Int} {x y : Int × Int}
    (B : Below A₀ base outer h₀) (F : Fr h₀ L s.heap m) (X : (Mine.hd.heap_1 w.params).In h₀) (N : News h₀ L s.heap nx) (T : Top topProg loose mean mg mb h₀) (hk : cs.kind = .function) (hd : dp + 1 < recursionLimit) (hu : un + 8 * 1 + 200 < cLine)
    (O : Order s.heap c side) (P : Pair s.heap p x) (R : Pair s.heap q y) (h : ∀ t h' tk', Fr h₀ L h' m → News h₀ L h' nx → (∀ b o, s.heap.get? b = some o → h'.get? b = some o) → Q (.int (cmpF side x y) t) { s with heap := h', toks := tk' }) :
    wpAny (model PR w) (ktrTop dp un gd cn cs L a ccd cl outer) (call (.ref 35) [.ref c, .ref p, .ref q] []) Q E s :=
  CallOk.use (compare_ok w s c p q side x y O P R) B F X N T hk hd hu fun v h' tk' F' N' keep hv => by
    obtain ⟨t, rfl⟩ := hv
    exact h t h' tk' F' N' keep
set_option maxRecDepth 100000 in
set_option maxHeartbeats 8000000 in
theorem lam_ok (w : World) (s : Shared) (f p : Addr) (side : Int) (x y : Int × Int) (Z : LamAt s.heap f side y) (P : Pair s.heap p x) :
    CallOk w 2 f [.ref p] [] s (fun v _ => ∃ t, v = .int (cmpF side x y) t) := by
  have on_C13 : True := trivial
  obtain ⟨qual, p0, p1, p2, p3, p4, p5, cO, cP, c', c, pr, pm, ctv, oO, oP, a1, a2, a3, a4, a5, a6, O, R, hev⟩ := Z
  refine CallOk.introE (binds := [(Str.ofString "one", .ref p)]) a1 a2 rfl (locs rfl) (by decide) rfl rfl rfl ?_
  intro loose mean mg mb dp un gd env outer A₀ base L' h₁ B F X N T hd hu
  have O' := O
  obtain ⟨ox, od, lst, q1, q2, I, lk, lcm, hl, hp1, hq1⟩ := O
  refine MethodCall_ ?_ (hev _).choose_spec
  (try k_fold)
  k_steps
  exact RetOk.intro (by assumption) ⟨_, rfl⟩

section
noncomputable def RLst (h : Heap) (l : Addr) (ts : List Addr) : Prop := h.IsList l (ts.map Value.ref).toArray
noncomputable def RObj (o : Obj) (ts : List Addr) : Prop := ∃ n, o = listOf (ts.map Value.ref).toArray n
theorem RLst.keeps {h h' : Heap} {l : Addr} {ts : List Addr} (x : RLst h l ts) (k : ∀ b o, h.get? b = some o → h'.get? b = some o) : RLst h' l ts := let ⟨o, e, r⟩ := x; ⟨o, k _ _ e, r⟩
theorem RObj.at {h : Heap} {l : Addr} {o : Obj} {ts : List Addr} (x : RObj o ts) (e : h.get? l = some o) : RLst h l ts := by obtain ⟨n, rfl⟩ := x; exact ⟨_, e, rfl, n, rfl⟩
noncomputable def geta (ts : List Addr) (k : Nat) : Addr := ts.getD k 0
noncomputable def getp (ps : List (Int × Int)) (k : Nat) : Int × Int := ps.getD k (0, 0)
structure Pairs (h : Heap) (ts : List Addr) (ps : List (Int × Int)) : Prop where
  len : ts.length = ps.length
  at_ : ∀ k : Nat, k < ts.length → Pair h (geta ts k) (getp ps k)
theorem Pairs.keeps {h h' : Heap} {ts : List Addr} {ps : List (Int × Int)} (x : Pairs h ts ps) (k : ∀ b o, h.get? b = some o → h'.get? b = some o) : Pairs h' ts ps := ⟨x.len, fun i hi => (x.at_ i hi).keeps k⟩
section
variable {w : World} {A : Around} {E : Value → Shared → Prop} {s : Shared} {l : Addr} {ts : List Addr}
theorem rl_item {value slice : PySem.Expr} {k : Int} {u : Tok} {Q : Value → Shared → Prop} (hl : RLst s.heap l ts) (h0 : 0 ≤ k) (h1 : k < (ts.length : Int)) (h : Q (.ref (geta ts k.toNat)) s)
    (hs : subscripted slice false (.ref l) (.int k u) = operate [.ref l, .int k u] (getItem (.ref l) (.int k u)) := by with_unfolding_all rfl) (hg : ∀ r, letTemporaryGo value (.ref l) r = pure () := by intro _; with_unfolding_all rfl)
    (hz : ts.length ≤ 1000 := by omega) : wpAny (model PR w) A (subscriptTail value slice (.ref l) (.int k u)) Q E s := by
  refine subscriptTail_builtin hl.typeIs slot_list_getitem.lookup (wpAny_getItem_list hl h0 (by omega) (x := .ref (geta ts k.toNat)) ?_ h) hs hg
  have hlt : k.toNat < ts.length := by omega
  unfold geta
  rw [List.getD_eq_getElem?_getD]
  simp [hlt]
theorem rl_len {Q : Value → Shared → Prop} (hl : RLst s.heap l ts) (hz : ts.length ≤ 1000) (h : ∀ t tk, Q (.int (ts.length : Nat) t) { s with toks := tk }) : wpAny (model PR w) A (call (.builtin "len") [.ref l]) Q E s := by
  have e : ((ts.map Value.ref).toArray).size = ts.length := by simp
  refine Calls.call_len_list hl (by rw [e]; omega) ?_
  rw [e]; exact h _ _
end
inductive Bis (p : Nat → Prop) : Int → Int → Int → Prop
  | done {lo hi : Int} : ¬ lo < hi → Bis p lo hi lo
  | up {lo hi r : Int} : lo < hi → p ((lo + hi).fdiv 2).toNat → Bis p ((lo + hi).fdiv 2 + 1) hi r → Bis p lo hi r
  | down {lo hi r : Int} : lo < hi → ¬ p ((lo + hi).fdiv 2).toNat → Bis p lo ((lo + hi).fdiv 2) r → Bis p lo hi r
end
theorem fresh_C14 : True := by w_top off; trivial
theorem reg_C14 : True := by
  (k_with "call ref" => ((guard_hyp on_C14 : True; (((with_reducible show wpAny _ _ (call (Value.ref _) [Value.ref _] _) _ _ _); k_dflt (refine' use_lam (by assumption) (by k_asm) (by assumption) (by k_asm) (by assumption) (by rfl) (by omega) (by omega) (by exact LamAt.keeps (by assumption) (Fr.keep (by k_asm))) (by first | exact Pair.keeps (by assumption) (Fr.keep (by k_asm))) ?_; intro _ _ _ _ _ _))))))
  (k_with "subscriptTail Name Name ref int" => ((guard_hyp on_C14 : True; ((k_dflt (refine rl_item (by exact RLst.keeps (by assumption) (Fr.keep (by k_asm))) (by omega) (by omega) ?_))))))
  (k_with "call builtin:len" => ((guard_hyp on_C14 : True; ((k_dflt ((with_reducible show wpAny _ _ (call (Value.builtin "len") [Value.ref _]) _ _ _); refine rl_len (by exact RLst.keeps (by assumption) (Fr.keep (by k_asm))) (by omega) ?_; intro _ _))))))
  (k_with "callWith ref" => ((guard_hyp on_C14 : True; ((k_dflt (refine' callWith_F (by exact fnAt_lam (LamAt.keeps (by assumption) (Fr.keep (by k_asm)))) ?_; k_whole))))))
  (k_with "FnAt" => ((guard_hyp on_C14 : True; ((k_dflt (exact fnAt_lam (LamAt.keeps (by assumption) (Fr.keep (by k_asm)))))))))
  trivial

theorem use_lam {w : World} {s : Shared} {loose : List Str} {mean : ExcName → Option Value} {mg mb : Str → Option Value} {dp un : Nat} {gd : Option (List Code)} {cn : Str} {cs : Scope} {a : Addr} {ccd : Value} {cl : List (Str × Addr)} {outer : List Env} {A₀ : Around} {base h₀ : Heap} {L : Addr} {m : Str → Option Value} {nx : List (Addr × Obj)} {Q E : Value → Shared → Prop} {f p : Addr} {side : Int} {x y : Int × Int}
    (B : Below A₀ base outer h₀) (F : Fr h₀ L s.heap m) (X : (Mine.hd.heap_1 w.params).In h₀) (N : News h₀ L s.heap nx) (T : Top topProg loose mean mg mb h₀) (hk : cs.kind = .function) (hd : dp + 2 < recursionLimit) (hu : un + 8 * 2 + 200 < cLine)
    (Z : LamAt s.heap f side y) (P : Pair s.heap p x) (h : ∀ t h' tk', Fr h₀ L h' m → News h₀ L h' nx → (∀ b o, s.heap.get? b = some o → h'.get? b = some o) → Q (.int (cmpF side x y) t) { s with heap := h', toks := tk' }) :
    wpAny (model PR w) (ktrTop dp un gd cn cs L a ccd cl outer) (call (.ref f) [.ref p] []) Q E s :=
  CallOk.use (lam_ok w s f p side x y Z P) B F X N T hk hd hu fun v h' tk' F' N' keep hv => by
    obtain ⟨t, rfl⟩ := hv
    exact h t h' tk' F' N' keep
theorem fnAt_lam {h : Heap} {f : Addr} {side : Int} {x : Int × Int} (Z : LamAt h f side x) : FnAt f h := by
  obtain ⟨qual, p, p1, p2, p3, p4, p5, cO, cP, c', c, pr, pm, ctv, oO, oP, a1, _⟩ := Z
  exact ⟨_, _, _, _, a1⟩
inductive BisK (s : Shared) (L' l f : Addr) (ts : List Addr) (side : Int) (ps : List (Int × Int)) (y : Int × Int) (t : Tok) (n : Nat) (s' : Shared) : Prop
  | intro (lo hi : Int) (t1 t2 : Tok) (h' : Heap) (tk' : Nat) (v : Str → Option Value) (q0 : s' = { s with heap := h', toks := tk' }) (q1 : Fr s.heap L' h' (fr [(Str.ofString "a", .ref l), (Str.ofString "x", .int 0 t), (Str.ofString "lo", .int lo t1), (Str.ofString "hi", .int hi t2), (Str.ofString "key", .ref f)] v)) (q2 : News s.heap L' h' []) (q3 : 0 ≤ lo) (q4 : lo ≤ hi) (q5 : hi ≤ (ts.length : Int)) (q6 : (∀ r, Bis (fun k => cmpF side (getp ps k) y < 0) lo hi r → Bis (fun k => cmpF side (getp ps k) y < 0) 0 ts.length r)) (q7 : n = (hi - lo).toNat) : BisK s L' l f ts side ps y t n s'
set_option maxRecDepth 100000 in
set_option maxHeartbeats 8000000 in
theorem bisect_key_ok (w : World) (s : Shared) (l f : Addr) (ts : List Addr) (ps : List (Int × Int)) (side : Int) (y : Int × Int) (t u : Tok) (hlen : ts.length ≤ 100) (D : RLst s.heap l ts) (P : Pairs s.heap ts ps) (Z : LamAt s.heap f side y) :
    CallOk w 3 83 [.ref l, .int 0 t, .int 0 u, .none] [(Str.ofString "key", .ref f)] s (fun v _ => ∃ r t, v = .int r t ∧ Bis (fun k => cmpF side (getp ps k) y < 0) 0 ts.length r ∧ 0 ≤ r ∧ r ≤ (ts.length : Int)) := by
  have on_C14 : True := trivial
  k_dflt (refine' CallOk.intro (ho := ?ho) (hcd := ?hcd) (hbind := ?hb) (hloc := ?hl) (hcell := ?hc) (hco := ?h1) (hgen := ?h2) (hk := ?h3) ?_; (case ho => k_is); (case hcd => k_is); (case hb => intro X9; exact kp_binds X9 (fun _ => rfl)); (case hc => decide); (case hl => exact locs rfl); (case h1 => exact rfl); (case h2 => exact rfl); (case h3 => exact rfl); k_whole)
  intro loose mean mg mb dp un gd env outer A₀ base L' h₁ B F X N T hd hu
  (try dsimp only); (try k_fold)
  k_steps
  try (refine Stop.off ?_)
  refine while_inv (BisK s L' l f ts side ps y t) (by passes_own) ?_ ts.length ?_
  · intro n s' xR1; obtain ⟨lo, hi, t1, t2, h', tk', v, rfl, F', N', h0, h1, h2, h3, rfl⟩ := xR1
    (try k_fold)
    k_steps
    by_cases hlt : lo < hi
    · refine WhlIf.yes (decide_eq_true hlt) ?_
      have e2 : (lo + hi).fdiv 2 = (lo + hi) / 2 := Int.fdiv_eq_ediv_of_nonneg _ (by omega)
      have hmA : lo ≤ (lo + hi).fdiv 2 := by omega
      have hmB : (lo + hi).fdiv 2 < hi := by omega
      have hP := P.at_ ((lo + hi).fdiv 2).toNat (by omega)
      (try k_fold)
      k_steps
      · (with_reducible rename Fr _ _ _ _ => F9); (with_reducible rename News _ _ _ _ => N9); (with_reducible rename cmpF _ _ _ < _ => hq)
        obtain ⟨u', F8⟩ := fr_of F9 [(Str.ofString "a", .ref l), (Str.ofString "x", .int 0 t), (Str.ofString "lo", .int ((lo + hi).fdiv 2 + 1) _), (Str.ofString "hi", .int hi t2), (Str.ofString "key", .ref f)] ⟨rfl, rfl, rfl, rfl, rfl, trivial⟩
        exact ⟨(hi - ((lo + hi).fdiv 2 + 1)).toNat, by omega, _, _, _, _, _, _, u', rfl, F8, N9, by omega, by omega, by omega, fun r hr => h3 r (.up hlt hq hr), rfl⟩
      · (with_reducible rename Fr _ _ _ _ => F9); (with_reducible rename News _ _ _ _ => N9); (rename ¬ _ => hq)
        obtain ⟨u', F8⟩ := fr_of F9 [(Str.ofString "a", .ref l), (Str.ofString "x", .int 0 t), (Str.ofString "lo", .int lo t1), (Str.ofString "hi", .int ((lo + hi).fdiv 2) _), (Str.ofString "key", .ref f)] ⟨rfl, rfl, rfl, rfl, rfl, trivial⟩
        exact ⟨((lo + hi).fdiv 2 - lo).toNat, by omega, _, _, _, _, _, _, u', rfl, F8, N9, by omega, by omega, by omega, fun r hr => h3 r (.down hlt hq hr), rfl⟩
    · refine WhlIf.no (decide_eq_false hlt) ?_
      (try k_fold)
      k_steps
      exact RetOk.intro (by assumption) ⟨lo, t1, rfl, h3 _ (.done hlt), h0, by omega⟩
  · (with_reducible rename Fr _ _ _ _ => F9); (with_reducible rename News _ _ _ _ => N9)
    obtain ⟨v, F8⟩ := fr_of F9 [(Str.ofString "a", .ref l), (Str.ofString "x", .int 0 t), (Str.ofString "lo", .int 0 _), (Str.ofString "hi", .int (ts.length : Nat) _), (Str.ofString "key", .ref f)] ⟨rfl, rfl, rfl, rfl, rfl, trivial⟩
    exact ⟨0, _, _, _, _, _, v, rfl, F8, N9, Int.le_refl 0, by omega, by omega, fun r hr => hr, by omega⟩

section
theorem UpdF.upd {d : Addr} {o : Obj} (o' : Obj) : ∀ {l : List (Addr × Obj)} {g : Obj → List (Addr × Obj)}, UpdF d o l g → Upd d o o' l (g o')
  | _, _, .head h => .head h
  | _, _, .tail h r => .tail h (UpdF.upd o' r)
section
variable {w : World} {A : Around} {E : Value → Shared → Prop} {s : Shared} {h₀ : Heap} {L D : Addr} {m : Str → Option Value} {nx : List (Addr × Obj)} {g : Obj → List (Addr × Obj)} {o : Obj} {ts : List Addr}
theorem rl_insert {r : Int} {u : Tok} {p : Addr} {Q : Value → Shared → Prop} (F : Fr h₀ L s.heap m) (N : News h₀ L s.heap nx) (U : UpdF D o nx g) (hL : RObj o ts) (h0 : 0 ≤ r) (h1 : r ≤ (ts.length : Int)) (hz : ts.length ≤ 1000)
    (h : ∀ h' o', Fr h₀ L h' m → News h₀ L h' (g o') → RObj o' (ts.take r.toNat ++ p :: ts.drop r.toNat) → Q .none { s with heap := h' }) : wpAny (model PR w) A (call (.builtin "list.insert") [.ref D, .int r u, .ref p]) Q E s := by
  obtain ⟨n, rfl⟩ := hL
  refine kl_insert F N (by unfold Builtin.List.listFitsIndex; simp; omega) rfl (UpdF.upd _ U) (by simp [sizeLine_eq]; omega) fun h' F' N' => h h' _ F' N' ⟨n + 1, ?_⟩
  unfold kl_ins
  rw [if_neg (by omega)]
  have e : min r.toNat ((ts.map Value.ref).toArray.toList).length = r.toNat := by simp; omega
  rw [e]
  simp [List.map_take, List.map_drop]
theorem rl_insertM {pl : Sem Bool} {Q : Value × List Value → Shared → Prop} (N : News h₀ L s.heap nx) (hm : (D, o) ∈ nx) (hL : RObj o ts) (h : Q (.builtin "list.insert", [.ref D]) s) : wpAny (model PR w) A (getMethod (.ref D) "insert" pl) Q E s := by
  obtain ⟨n, rfl⟩ := hL
  exact kl_method N hm PySem.F.slot_list_insert PySem.F.type_list_insert h
end
end
theorem fresh_C15 : True := by w_top off; trivial
theorem reg_C15 : True := by
  (k_with "call ref" => ((guard_hyp on_C15 : True; (((with_reducible show wpAny _ _ (call (Value.ref 83) _ _) _ _ _); k_dflt (refine' use_bisk (by assumption) (by k_asm) (by assumption) (by k_asm) (by assumption) (by rfl) (by omega) (by omega) (by exact cmpF_self _ _) (by omega) (by first | exact RObj.at (by assumption) (News.get (by k_asm) (by k_mem)) | exact RLst.keeps (by assumption) (Fr.keep (by k_asm))) (by exact Pairs.keeps (by assumption) (Fr.keep (by k_asm))) (by exact LamAt.keeps (by assumption) (Fr.keep (by k_asm))) ?_; intro _ _ _ _ _ _ _ _ _ _))))))
  trivial

theorem use_bisk {w : World} {s : Shared} {loose : List Str} {mean : ExcName → Option Value} {mg mb : Str → Option Value} {dp un : Nat} {gd : Option (List Code)} {cn : Str} {cs : Scope} {a : Addr} {ccd : Value} {cl : List (Str × Addr)} {outer : List Env} {A₀ : Around} {base h₀ : Heap} {L : Addr} {m : Str → Option Value} {nx : List (Addr × Obj)} {Q E : Value → Shared → Prop} {l f : Addr} {ts : List Addr} {ps : List (Int × Int)} {side : Int} {y : Int × Int} {z : Int} {t u : Tok}
    (B : Below A₀ base outer h₀) (F : Fr h₀ L s.heap m) (X : (Mine.hd.heap_1 w.params).In h₀) (N : News h₀ L s.heap nx) (T : Top topProg loose mean mg mb h₀) (hk : cs.kind = .function) (hd : dp + 3 < recursionLimit) (hu : un + 8 * 3 + 200 < cLine)
    (hz : z = 0) (hlen : ts.length ≤ 100) (D : RLst s.heap l ts) (P : Pairs s.heap ts ps) (Z : LamAt s.heap f side y) (h : ∀ r t h' tk', Fr h₀ L h' m → News h₀ L h' nx → (∀ b o, s.heap.get? b = some o → h'.get? b = some o) → Bis (fun k => cmpF side (getp ps k) y < 0) 0 ts.length r → 0 ≤ r → r ≤ (ts.length : Int) → Q (.int r t) { s with heap := h', toks := tk' }) :
    wpAny (model PR w) (ktrTop dp un gd cn cs L a ccd cl outer) (call (.ref 83) [.ref l, .int z t, .int 0 u, .none] [(Str.ofString "key", .ref f)]) Q E s := by
  subst hz
  exact CallOk.use (bisect_key_ok w s l f ts ps side y t u hlen D P Z) B F X N T hk hd hu fun v h' tk' F' N' keep hv => by
    obtain ⟨r, t, rfl, hb, h0, h1⟩ := hv
    exact h r t h' tk' F' N' keep hb h0 h1
theorem cmpF_self (side : Int) (x : Int × Int) : cmpF side x x = 0 := by unfold cmpF; simp
set_option maxRecDepth 100000 in
set_option maxHeartbeats 8000000 in
theorem insort_ok (w : World) (s : Shared) (l p f : Addr) (ts : List Addr) (ps : List (Int × Int)) (side : Int) (y : Int × Int) (hlen : ts.length ≤ 100) (D : ∀ o, s.heap.get? l = some o → RObj o ts) (P : Pairs (hideAll s.heap [l]) ts ps) (R : Pair (hideAll s.heap [l]) p y) (Z : LamAt (hideAll s.heap [l]) f side y) :
    CallUpd w 4 74 [.ref l, .ref p] [(Str.ofString "key", .ref f)] s l (fun v o _ => v = .none ∧ ∃ r, Bis (fun k => cmpF side (getp ps k) y < 0) 0 ts.length r ∧ RObj o (ts.take r.toNat ++ p :: ts.drop r.toNat)) := by
  have on_C15 : True := trivial
  k_dflt (refine' CallUpd.intro (ho := ?ho) (hcd := ?hcd) (hbind := ?hb) (hloc := ?hl) (hcell := ?hc) (hco := ?h1) (hgen := ?h2) (hk := ?h3) ?_; (case ho => k_is); (case hcd => k_is); (case hb => intro X9; exact kp_binds X9 (fun _ => rfl)); (case hc => decide); (case hl => exact locs rfl); (case h1 => exact rfl); (case h2 => exact rfl); (case h3 => exact rfl); k_whole)
  intro loose mean mg mb dp un gd env outer A₀ base gh L' h₁ o hgh hoa B F X N T hd hu
  have hL := D o hoa
  rw [← hgh] at P R Z
  (try dsimp only); (try k_fold)
  k_steps
  exact RetUpd.introN hgh (by assumption) (by assumption) (.head _) ⟨rfl, _, by assumption, by assumption⟩

theorem runs_toks {M : Model} {Γ : PySem.Ctx} {p : Pos} {t : Sem Fin} {fs : List Frame} {s s' : Shared} {e : End} (r : Runs M Γ p t fs s e s') : s.toks ≤ s'.toks := by
  induction r <;> first | exact Nat.le_refl _ | assumption | exact Nat.le_of_succ_le (by assumption) | exact Nat.le_trans (by assumption) (by assumption)
theorem wakes_toks {M : Model} {Γ : PySem.Ctx} {p : Pos} {g : Nat} {r : Resume} {s s' : Shared} {x : GenResult} (h : Wakes M Γ p g r s x s') : s.toks ≤ s'.toks := by
  unfold Wakes at h
  split at h
  · exact h.elim
  · split at h
    · obtain ⟨e₁, s₁, hr, _, _, rfl⟩ := h
      have := runs_toks hr
      simpa [Shared.setGen] using this
    · rw [h.2]; exact Nat.le_refl _
    · rw [h.2]; exact Nat.le_refl _
  · obtain ⟨e₁, s₁, hr, _, _, rfl⟩ := h
    have := runs_toks hr
    simpa [Shared.setGen] using this
  · rw [h.2]; exact Nat.le_refl _
  · rw [h.2]; exact Nat.le_refl _
theorem wp_toks {α : Type} {M : Model} {Γ : PySem.Ctx} (n : Nat) (t : Sem α) : ∀ {Q : α → Pos → Shared → Prop} {E : Value → Pos → Shared → Prop} {p : Pos} {s : Shared}, n ≤ s.toks →
    Sem.wp M Γ t Q E p s → Sem.wp M Γ t (fun a p s' => n ≤ s'.toks ∧ Q a p s') (fun e p s' => n ≤ s'.toks ∧ E e p s') p s := by
  induction t with
  | pure a => intro Q E p s hn h; rw [Sem.wp] at h ⊢; exact ⟨hn, h⟩
  | raise e => intro Q E p s hn h; rw [Sem.wp] at h ⊢; exact ⟨hn, h⟩
  | load a part k ih => intro Q E p s hn h; rw [Sem.wp] at h ⊢; obtain ⟨o, ho, h⟩ := h; exact ⟨o, ho, ih _ hn h⟩
  | update a part f k ih => intro Q E p s hn h; rw [Sem.wp] at h ⊢; exact ⟨h.1, ih _ hn h.2⟩
  | fresh k ih => intro Q E p s hn h; rw [Sem.wp] at h ⊢; exact ih _ (Nat.le_succ_of_le hn) h
  | choose src m k ih => intro Q E p s hn h; rw [Sem.wp] at h ⊢; exact ⟨h.1, ih _ hn h.2⟩
  | call c h g l k ih => intro Q E p s hn h; rw [Sem.wp] at h ⊢; obtain ⟨r, s', hr, hq⟩ := h; exact ⟨r, s', hr, ih _ (Nat.le_trans hn (runs_toks hr)) hq⟩
  | genState g k ih => intro Q E p s hn h; rw [Sem.wp] at h ⊢; obtain ⟨st, ho, h⟩ := h; exact ⟨st, ho, ih _ hn h⟩
  | resume g r l k ih => intro Q E p s hn h; rw [Sem.wp] at h ⊢; obtain ⟨res, s', hr, hq⟩ := h; exact ⟨res, s', hr, ih _ (Nat.le_trans hn (wakes_toks hr)) hq⟩
  | _ => intro Q E p s hn h; rw [Sem.wp] at h ⊢; first | exact h.elim | (rename_i ih; exact ih _ hn h)
theorem wpAny_toks {α : Type} {M : Model} {A : Around} {t : Sem α} {Q : α → Shared → Prop} {E : Value → Shared → Prop} {s : Shared} (h : wpAny M A t (fun a s' => s.toks ≤ s'.toks → Q a s') (fun e s' => s.toks ≤ s'.toks → E e s') s) : wpAny M A t Q E s := by
  intro Γ p hΓ
  have h2 := wp_toks s.toks t (Nat.le_refl _) (h Γ p hΓ)
  exact Sem.wp_mono _ _ _ (fun a p s' x => x.2 x.1) (fun e p s' x => x.2 x.1) _ _ h2

section
noncomputable def TurnE (h₀ : Heap) (L : Addr) (p q : Addr × Obj) (Jn : (Str → Option Value) → Prop) (s₁ : Shared) (Q : Flow → Shared → Prop) (f : Flow) (s₂ : Shared) : Prop :=
  match f with
  | .ret v => Q (.ret v) s₂
  | .brk => Q .next s₂
  | _ => ∃ h' tk m', s₂ = { s₁ with heap := h', toks := tk } ∧ Fr h₀ L h' m' ∧ News h₀ L h' [p, q] ∧ Jn m'
theorem TurnE.next {h₀ : Heap} {L : Addr} {p q : Addr × Obj} {Jn : (Str → Option Value) → Prop} {s₁ : Shared} {Q : Flow → Shared → Prop} {h' : Heap} {tk : Nat} {m' : Str → Option Value} (F : Fr h₀ L h' m') (N : News h₀ L h' [p, q]) (j : Jn m') :
    TurnE h₀ L p q Jn s₁ Q .next { s₁ with heap := h', toks := tk } := ⟨h', tk, m', rfl, F, N, j⟩
section
variable {w : World} {A : Around} {E : Value → Shared → Prop} {s : Shared} {env : Env} {body orelse : List Stmt} {Q : Flow → Shared → Prop}
inductive LoopEnum (w : World) (A : Around) (h₀ : Heap) (env : Env) (xi xv : Str) (body : List Stmt) (Q : Flow → Shared → Prop) (E : Value → Shared → Prop) (xval : Value) (s₁ : Shared) : Prop
  | intro (e it l : Addr) (ol : Obj) (vs : List Value) (nv : Nat) (ns : List Int) (m₀ : Str → Option Value) (J : Nat → (Str → Option Value) → Prop) (q0 : xval = .ref e) (q1 : IsEnum s₁.heap e it 0 .none) (q2 : s₁.heap.IsListIter it l 0) (q3 : h₀.get? l = some ol) (q4 : ol = listOf vs.toArray nv) (q5 : IntsAre vs ns) (q6 : e ≠ it) (q7 : e ≠ env.locals) (q8 : it ≠ env.locals) (q9 : h₀.get? e = none) (q10 : h₀.get? it = none) (q11 : Fr h₀ env.locals s₁.heap m₀) (q12 : J 0 m₀) (q13 : (∀ (i : Nat) n t u m₁ h tk oe oi, ns[i]? = some n → vs[i]? = some (.int n u) → J i m₁ → Fr h₀ env.locals h (fun y => if y = xv then some (.int n u) else if y = xi then some (.int (i : Nat) t) else m₁ y) → News h₀ env.locals h [(e, oe), (it, oi)] →
      wpAny (model PR w) A (execs body env) (TurnE h₀ env.locals (e, oe) (it, oi) (J (i + 1)) { s₁ with heap := h, toks := tk } Q) E { s₁ with heap := h, toks := tk })) (q14 : (∀ m₁, ¬ J ns.length m₁)) : LoopEnum w A h₀ env xi xv body Q E xval s₁
inductive EI (s₁ : Shared) (e it l : Addr) (ns : List Int) (h₀ : Heap) (env : Env) (J : Nat → (Str → Option Value) → Prop) (k : Nat) (s' : Shared) : Prop
  | intro (h' : _) (tk : _) (m' : _) (i : _) (old : _) (q0 : s' = { s₁ with heap := h', toks := tk }) (q1 : IsEnum h' e it ((i : Nat) : Int) old) (q2 : h'.IsListIter it l i) (q3 : Fr h₀ env.locals h' m') (q4 : J i m') (q5 : i ≤ ns.length) (q6 : k = ns.length + 1 - i) : EI s₁ e it l ns h₀ env J k s'
theorem For_enum {xi xv : Str} {pi pv pt pos : Pos} {x1} {iter : PySem.Expr} {h₀ : Heap} {m : Str → Option Value} (_F : Fr h₀ env.locals s.heap m)
    (hh : A.handled = none) (hxi : env.kindOf xi = some .local) (hxv : env.kindOf xv = some .local)
    (hp : (env.scope.kind == .class || (env.scope.kind == .module && env.locals != env.globals)) = false)
    (h : wpAny (model PR w) A (eval iter env) (LoopEnum w A h₀ env xi xv body Q E) E s)
    (hs : ∀ x, foldedSetIterable iter env x = pure x := by intro _; rfl)
    (hE : PassesOwn (model PR w) A env E := by passes_own) :
    wpAny (model PR w) A (exec (.For (.Tuple [.Name xi pi, .Name xv pv] x1 pt) iter body orelse pos) env) Q E s := by
  refine wpAny_For (wpAny_mono h (fun xval s₁ hL => ?_) fun _ _ e => e) hs
  obtain ⟨e, it, l, ol, vs, nv, ns, m₀, J, rfl, he, hit, hol, rfl, hints, hei, heL, hiL, he0, hi0, F, hj, turn, done⟩ := hL
  have hl₀ : h₀.IsList l vs.toArray := ⟨_, hol, rfl, nv, rfl⟩
  have hl : ∀ {h : Heap} {m}, Fr h₀ env.locals h m → h.IsList l vs.toArray := fun F => hl₀.at fun o e => F.keep _ _ e
  have hlen := hints.length
  have ole : l ≠ e := fun q => by rw [q, he0] at hol; cases hol
  have oli : l ≠ it := fun q => by rw [q, hi0] at hol; cases hol
  refine wpAny_pyIter_enum he ?_
  refine codeAny_forLoop_any
    (EI s₁ e it l ns h₀ env J) ?_ (ns.length + 1)
    ⟨s₁.heap, s₁.toks, m₀, 0, .none, rfl, he, hit, F, hj, Nat.zero_le _, rfl⟩
  intro k s' xR1; obtain ⟨H, tk, m', i, old, rfl, he', hit', F', hJ, hi, rfl⟩ := xR1
  by_cases hlt : i < ns.length
  · have hvi : i < vs.length := by omega
    obtain ⟨u, hx⟩ := hints.get i ns[i] (List.getElem?_eq_getElem hlt)
    have hv : vs.toArray[i]? = some (.int ns[i] u) := by simpa using hx
    have heH : e < H.objs.size := Heap.lt_size he'
    have hLH : env.locals < H.objs.size := F'.ns.lt
    obtain ⟨oi, hoi, _⟩ := id hit'
    have hiH : it < H.objs.size := Heap.lt_size hoi
    refine wpAny_pyNext_enum_item he' hit' (hl F') hv hei fun h₁ heo hit₁ ht₁ hz₁ hk₁ => ?_
    refine wpAny_letOwnedTupleGo_enum heo fun h₂ he₂ hs₂ => ?_
    replace hs₂ : Heap.SameBut e h₁ h₂ := hs₂
    have ht₂ : h₂.IsTuple H.objs.size #[.int i tk, .int ns[i] u] := ⟨_, (hs₂.2 _ (Nat.ne_of_gt heH)).trans ht₁, rfl, _, rfl⟩
    have hz₂ : h₂.objs.size = H.objs.size + 1 := hs₂.1.trans hz₁
    have hit₂ : h₂.IsListIter it l (i + 1) := hit₁.at fun o x => (hs₂.2 it hei.symm).trans x
    obtain ⟨oi₂, hoi₂, hci₂, hdi₂⟩ := hit₂
    obtain ⟨oe, hoe⟩ : ∃ oe, some oe = h₂.get? e := ⟨_, he₂.symm⟩
    refine wpAny_assign_Tuple hh ht₂ rfl rfl fun h₃ hx₃ => ?_
    replace hx₃ : Heap.ExtBut h₂.objs.size h₂ h₃ := hx₃
    have old₃ : ∀ b o, b < H.objs.size → h₂.get? b = some o → h₃.get? b = some o := fun b o hb x => hx₃ b o (by rw [hz₂]; exact Nat.ne_of_lt (Nat.lt_succ_of_lt hb)) x
    have up₃ : ∀ b o, b ≠ e → b ≠ it → H.get? b = some o → h₃.get? b = some o := fun b o hbe hbi x => old₃ b o (Heap.lt_size x) ((hs₂.2 b hbe).trans (hk₁ b o hbe hbi x))
    have F₃ : Fr h₀ env.locals h₃ m' := ⟨F'.ns.at fun o x => up₃ _ o (Ne.symm heL) (Ne.symm hiL) x, fun b o x => up₃ b o (fun q => by rw [q, he0] at x; cases x) (fun q => by rw [q, hi0] at x; cases x) (F'.keep b o x), F'.above⟩
    have N₃ : News h₀ env.locals h₃ [(e, oe), (it, oi₂)] := fun p hp => by
      rcases List.mem_cons.mp hp with rfl | hp
      · exact ⟨old₃ _ _ heH hoe.symm, heL, he0⟩
      · rw [List.mem_singleton.mp hp]
        exact ⟨old₃ _ _ hiH hoi₂, hiL, hi0⟩
    show wpAny _ _ (do holding [Value.int ns[i] u] (assign (.Name xi pi) env (Value.int i tk)); do holding [] (assign (.Name xv pv) env (Value.int ns[i] u)); pure ()) _ _ _
    refine wpAny_bind (wpAny_holding (wpAny_assign_Name (wpAny_storeName_local hxi F₃.ns (fun h₄ hn₄ hs₄ => ?_) hp)))
    have F₄ := F₃.set hn₄ hs₄
    have N₄ := N₃.set hs₄
    refine wpAny_bind (wpAny_holding (wpAny_assign_Name (wpAny_storeName_local hxv F₄.ns (fun h₅ hn₅ hs₅ => wpAny_pure ?_) hp)))
    have F₅ := F₄.set hn₅ hs₅
    have N₅ := N₄.set hs₅
    refine wpAny_mono (wpAny_passesOwn hE (turn i ns[i] tk u m' h₅ _ _ _ (List.getElem?_eq_getElem hlt) hx hJ F₅ N₅)) (fun f s₃ h₆ => ?_) fun _ _ x => x
    have fin : (∃ h' tk' m₂, s₃ = { s₁ with heap := h', toks := tk' } ∧ Fr h₀ env.locals h' m₂ ∧ News h₀ env.locals h' [(e, oe), (it, oi₂)] ∧ J (i + 1) m₂) →
        ∃ mm, mm < ns.length + 1 - i ∧ EI s₁ e it l ns h₀ env J mm s₃ := by
      intro xR2; obtain ⟨h', tk', m₂, rfl, F₆, N₆, hJ₆⟩ := xR2
      refine ⟨ns.length + 1 - (i + 1), by omega, h', tk', m₂, i + 1, .int ns[i] u, rfl, ?_, ⟨oi₂, (N₆ _ (.tail _ (.head _))).1, hci₂, hdi₂⟩, F₆, hJ₆, hlt, rfl⟩
      have : ((i + 1 : Nat) : Int) = (i : Int) + 1 := by push_cast; rfl
      rw [this]; exact (N₆ _ (.head _)).1.trans (hoe.trans he₂)
    cases f with
    | ret v => exact h₆
    | brk => exact h₆
    | next => exact fin h₆
    | cont => exact fin h₆
  · have hin : i = ns.length := by omega
    subst hin
    exact absurd hJ (done m')
theorem enum_call {l : Addr} {ol : Obj} {ns : List Int} {h₀ : Heap} {L : Addr} {m : Str → Option Value} {Q : Value → Shared → Prop} (F : Fr h₀ L s.heap m) (hol : h₀.get? l = some ol) (hL : LObj ol ns)
    (h : ∀ e it h', IsEnum h' e it 0 .none → h'.IsListIter it l 0 → e ≠ it → e ≠ L → it ≠ L → h₀.get? e = none → h₀.get? it = none → Fr h₀ L h' m → Q (.ref e) { s with heap := h' }) :
    wpAny (model PR w) A (call (.type "enumerate") [.ref l]) Q E s := by
  obtain ⟨vs, n, rfl, hi⟩ := hL
  refine call_enumerate_1 (F.keep _ _ hol) fun h' he hit hz hk => ?_
  have hL := F.ns.lt
  exact h _ _ h' he hit (Nat.succ_ne_self _) (Nat.ne_of_gt (Nat.lt_succ_of_lt hL)) (Nat.ne_of_gt hL) (Heap.get?_none_of_le (Nat.le_trans F.above (Nat.le_of_lt (Nat.lt_succ_of_lt hL)))) (Heap.get?_none_of_le (Nat.le_trans F.above (Nat.le_of_lt hL))) (F.keeps hk)
theorem is_int {x y : Int} {t u : Tok} {Q : Value → Shared → Prop} (ht : t ≠ 0) (hu : u ≠ 0) (hs : smallInt x = true) (hd : x ≠ y → t ≠ u) (h : Q (.bool (x == y)) s) : wpAny (model PR w) A (compareOp .Is (.int x t) (.int y u)) Q E s := by
  show wpAny _ A (do return .bool (← isSame (.int x t) (.int y u))) Q E s
  refine wpAny_bind ?_
  have h0 : (t == 0 || u == 0) = false := by simp [ht, hu]
  by_cases e : x = y
  · subst e
    show wpAny _ A (if (x == x && smallInt x) = true then isSame.cachedInt t u else isSame.created (x == x) t u) _ _ _
    rw [hs]
    simp only [beq_self_eq_true, Bool.and_self, if_true]
    unfold isSame.cachedInt
    rw [if_neg (by rw [h0]; exact Bool.false_ne_true)]
    refine wpAny_bind (wpAny_rule (wpAny_pure (wpAny_pure ?_)))
    simpa using h
  · have hb : (x == y) = false := by simpa using e
    show wpAny _ A (if (x == y && smallInt x) = true then isSame.cachedInt t u else isSame.created (x == y) t u) _ _ _
    rw [hb]
    rw [Bool.false_and, if_neg Bool.false_ne_true]
    unfold isSame.created
    rw [if_neg (by rw [h0]; exact Bool.false_ne_true)]
    have hb2 : (t == u) = false := by simpa using hd e
    rw [hb2, if_neg Bool.false_ne_true]
    refine wpAny_pure (wpAny_pure ?_)
    rw [hb] at h
    exact h
structure TokOk (vs : List Value) : Prop where
  small : ∀ x t, Value.int x t ∈ vs → smallInt x = true
  pos : ∀ x t, Value.int x t ∈ vs → t ≠ 0
  apart : ∀ x y t u, Value.int x t ∈ vs → Value.int y u ∈ vs → x ≠ y → t ≠ u
end
end
theorem fresh_C16 : True := by w_top off; trivial
theorem reg_C16 : True := by
  (k_with "exec For Tuple Call cons cons" => ((guard_hyp on_C16 : True; ((k_dflt ((with_unfolding_all refine For_enum (by k_asm) (by rfl) (by rfl) (by rfl) (by rfl) ?_)))))))
  (k_with "call type:enumerate" => ((guard_hyp on_C16 : True; ((k_dflt (refine' enum_call (by k_asm) (by assumption) (by exact LObj.of (by assumption)) ?_; intro _ _ _ _ _ _ _ _ _ _ _))))))
  (k_with "compareOp Is int int" => ((guard_hyp on_C16 : True; ((k_dflt (refine' is_int (by assumption) (by assumption) (by assumption) (by assumption) ?_))))))
  (k_with "compareOp Is" => ((guard_hyp on_C16 : True; ((k_dflt (dsimp only; refine' is_int (by assumption) (by assumption) (by assumption) (by assumption) ?_))))))
  trivial

theorem idxOf_at {ns : List Int} {k : Int} {i : Nat} (h : ns[i]? = some k) (hJ : ∀ j : Nat, j < i → geti ns j ≠ k) : ns.idxOf k = i := by
  induction ns generalizing i with
  | nil => cases h
  | cons n ns ih =>
    cases i with
    | zero => cases h; simp
    | succ i =>
      have h0 : n ≠ k := hJ 0 (Nat.succ_pos i)
      rw [List.idxOf_cons, show (n == k) = false by simpa using h0]
      have := ih (i := i) h fun j hj => by
        have := hJ (j + 1) (Nat.succ_lt_succ hj)
        unfold geti at this ⊢
        simpa using this
      simp [this]
set_option maxRecDepth 100000 in
set_option maxHeartbeats 8000000 in
theorem indexOf_ok (w : World) (s : Shared) (l : Addr) (vs : List Value) (nv : Nat) (ns : List Int) (k : Int) (t : Tok) (hol : s.heap.get? l = some (listOf vs.toArray nv)) (hi : IntsAre vs ns) (ht : TokOk vs) (hk : Value.int k t ∈ vs) :
    CallOk w 1 104 [.ref l, .int k t] [] s (fun v _ => ∃ t, v = .int (ns.idxOf k : Nat) t) := by
  have on_C16 : True := trivial
  k_dflt (refine' CallOk.intro (binds := [(Str.ofString "a", .ref l), (Str.ofString "b", .int k t)]) (ho := ?ho) (hcd := ?hcd) (hbind := ?hb) (hloc := ?hl) (hcell := ?hc) (hco := ?h1) (hgen := ?h2) (hk := ?h3) ?_; (case ho => k_is); (case hcd => k_is); (case hb => intro _; exact BindsTo.of_eq rfl); (case hc => decide); (case hl => exact locs rfl); (case h1 => exact rfl); (case h2 => exact rfl); (case h3 => exact rfl); k_whole)
  intro loose mean mg mb dp un gd env outer A₀ base L' h₁ B F X N T hd hu
  have ht0 := ht.pos _ _ hk
  (try dsimp only); (try k_fold)
  k_steps
  rename_i eN itN hN heN hitN n1 n2 n3 n4 n5 F9
  refine ⟨eN, itN, l, _, vs, nv, ns, _, fun i m => m (Str.ofString "b") = some (.int k t) ∧ ∀ j : Nat, j < i → geti ns j ≠ k, rfl, heN, hitN, hol, rfl, hi, n1, n2, n3, n4, n5, F9, ⟨rfl, fun j hj => absurd hj (Nat.not_lt_zero j)⟩, ?_, ?_⟩
  · intro i n u v m₁ h tk oe oi hn hvv xR1; obtain ⟨hm1, hJ⟩ := xR1; intro F₁ N₁
    obtain ⟨z, rfl⟩ := fr_self (m := m₁) (ps := [(Str.ofString "b", .int k t)]) (by simp [hm1])
    have hmem := List.mem_of_getElem? hvv
    have hs0 := ht.small _ _ hmem
    have hv0 := ht.pos _ _ hmem
    have hap := ht.apart _ _ _ _ hmem hk
    have hgi : geti ns i = n := by unfold geti; rw [Int.toNat_natCast, List.getD_eq_getElem?_getD, hn]; rfl
    (try k_fold)
    k_steps
    all_goals first
      | (have e9 : n = k := by assumption
         exact RetOk.intro (s := s) (R := fun v _ => ∃ t, v = Value.int (ns.idxOf k : Nat) t) (by assumption) ⟨u, congrArg (fun j : Nat => Value.int j u) (idxOf_at (e9 ▸ hn) hJ).symm⟩)
      | (exact absurd (show n = k by assumption) (by assumption))
      | (have e9 : n ≠ k := by assumption
         exact TurnE.next (by assumption) (by assumption) ⟨rfl, fun j hj => by
           rcases Nat.lt_succ_iff_lt_or_eq.mp hj with h | rfl
           · exact hJ j h
           · rw [hgi]; exact e9⟩)
  · intro m₁ xR2; obtain ⟨hm1, hJ⟩ := xR2
    have hk' : k ∈ ns := by
      obtain ⟨i, hi', e⟩ := List.getElem_of_mem hk
      obtain ⟨n, t', e2, e3⟩ := hi.at i _ (List.getElem?_eq_getElem hi')
      rw [e] at e2
      cases e2
      exact List.mem_of_getElem? e3
    obtain ⟨j, hj, e⟩ := List.getElem_of_mem hk'
    exact hJ j hj (by unfold geti; rw [Int.toNat_natCast, List.getD_eq_getElem?_getD, List.getElem?_eq_getElem hj, ← e]; rfl)

theorem CallUpd.introC {w : World} {n : Nat} {f : Addr} {vs : List Value} {kw : List (Str × Value)} {s : Shared} {a : Addr} {R : Value → Obj → Heap → Prop}
    {name qual : Str} {params : Arguments} {body : List Stmt} {scope : Scope} {dV kV doc pm cdv ct oc : Value} {an od : Option Addr} {osl : Array (Option Value)} {binds : List (Str × Value)}
    (ho : (Mine.hd.heap_1 w.params).lookup f = some ⟨oc, od, .func (fnOf name qual params body scope dV kV doc pm an cdv ct), osl⟩) (hcd : codeIn (Mine.hd.heap_1 w.params) cdv qual = true)
    (hbind : (Mine.hd.heap_1 w.params).In s.heap → BindsTo s (fnOf name qual params body scope dV kV doc pm an cdv ct) ⟨vs, kw⟩ binds) (hkind : (binds.all fun y => scope.names.lookup y.1 == some .local || scope.names.lookup y.1 == some .cell) = true)
    (hnd : ((cellsFrom 0 scope.names []).map (·.1)).Nodup) (hco : scope.isCoroutine = false) (hgen : scope.isGenerator = false) (hk : scope.kind = .function)
    (h : ∀ (loose : List Str) (mean : ExcName → Option Value) (mg mb : Str → Option Value) (dp un : Nat) (gd : Option (List Code)) (env : Env) (outer : List Env) (A₀ : Around) (base g : Heap) (L' : Addr) (h₁ : Heap) (o : Obj) (tk : Nat) (cells : List (Addr × Obj)), s.toks ≤ tk → g = hideAll s.heap [a] → s.heap.get? a = some o →
      Below A₀ base (env :: outer) g → Fr g L' h₁ (bindL (envOfC qual scope L' f cdv).kindOf binds fun _ => none) → (Mine.hd.heap_1 w.params).In g → News g L' h₁ ((a, o) :: cells) → CellsAre (bindC (envOfC qual scope L' f cdv).kindOf binds fun _ => none) (cellsFrom (L' + 1) scope.names []) cells → (∀ p ∈ cells, p.1 ≠ a) → Top topProg loose mean mg mb g → dp + n < recursionLimit → un + 8 * n + 200 < cLine →
      wpAny (model PR w) (ktrTop dp un gd qual scope L' f cdv (cellsFrom (L' + 1) scope.names []) (env :: outer)) (execs body (envOfC qual scope L' f cdv)) (RetUpd s a R) (fun _ _ => False) { s with heap := h₁, toks := tk }) :
    CallUpd w (n + 1) f vs kw s a R := by
  intro loose mean mg mb dp un gd cn cs fa ccd cl outer A₀ base h₀ L m o Q E B F X T hks hd hu hoa haL ha0 hret
  have Xs : (Mine.hd.heap_1 w.params).In s.heap := X.keeps F.keep
  have N₀ : News h₀ L s.heap [(a, o)] := fun p hp => by rw [List.mem_singleton.mp hp]; exact ⟨hoa, haL, ha0⟩
  have nm : ∀ b o, h₀.get? b = some o → b ∉ [a] := fun b o e q => by rw [List.mem_singleton.mp q, ha0] at e; cases e
  have st : ∀ b o, h₀.get? b = some o → (hideAll s.heap [a]).get? b = some o := fun b o e => hideAll_get _ (F.keep b o e) (nm b o e)
  have B₁ := pushX (env := envX cn cs L fa ccd cl) B F rfl hks
  have B₂ : Below ((ktrTop dp un gd cn cs L fa ccd cl outer)) base (envX cn cs L fa ccd cl :: outer) (hideAll s.heap [a]) :=
    (groundX (s := s) (A := ktrTop dp un gd cn cs L fa ccd cl outer) (env := envX cn cs L fa ccd cl) (R := fun _ _ => True) B F N₀ rfl rfl hks).2.1
  refine wpAny_call ?_
  have hcr := codeRec_of Xs hcd
  refine codeAny_call_function (fd := fnOf name qual params body scope dV kV doc pm an cdv ct) (by show dp < recursionLimit; omega) (Xs _ _ ho) rfl hco hgen rfl hcr (hbind Xs _ _ _ _ ?_)
  refine wpAny_toks (wpAny_newFunctionEnv_cells hk (kindsX hkind _) fun env' he s' x htk => ?_)
  subst he
  refine ⟨(T.nolimit.keeps F.keep).keeps x.toInCall.keep, codeAny_func ?_⟩
  obtain ⟨h₁, tk, rfl, _⟩ := x.done
  have hk₁ := x.toInCall.keep
  obtain ⟨cells, NC, Y⟩ := Cl.news (h₀ := s.heap) (Nat.le_refl _) fun n c hm => ⟨x.cell n c (lookup_of_mem_nodup (cellsFrom_names scope.names 0 (s.heap.objs.size + 1) [] [] rfl ▸ hnd) hm), x.above n c hm⟩
  have aN : a ≠ s.heap.objs.size := Nat.ne_of_lt (Heap.lt_size hoa)
  have cN : ∀ p ∈ cells, p.1 ≠ a := fun p hp q => by have := (NC p hp).2.2; rw [q, hoa] at this; cases this
  refine wpAny_mono (h loose mean mg mb (dp + 1) (un + 3) gd (envX cn cs L fa ccd cl) outer _ base _ s.heap.objs.size h₁ o tk cells htk rfl hoa B₂ ⟨x.toInCall.ns, fun b o e => hk₁ b o (of_hideAll _ e), Nat.le_of_eq (hideAll_size _ _)⟩ (X.keeps st) (fun p hp => ?_) Y cN (T.keeps st) (by omega) (by omega)) (fun fl s' hl => ?_) fun _ _ x => x.elim
  · rcases List.mem_cons.mp hp with rfl | hp
    · exact ⟨hk₁ _ _ hoa, aN, hideAll_none [_] (.head _)⟩
    · refine ⟨(NC p hp).1, (NC p hp).2.1, ?_⟩
      cases q : (hideAll s.heap [a]).get? p.1 with
      | none => rfl
      | some o => have := of_hideAll _ q; rw [(NC p hp).2.2] at this; cases this
  obtain ⟨h', tk', o', rfl, hkeep, hr⟩ := hl
  exact hret _ h' tk' o' hkeep hr.1 hr.2

section
theorem newEnv_cell1 {M : Model} {A : Around} {E : Value → Shared → Prop} {s : Shared} {scope : Scope} {globals : Addr} {cl : List (Str × Addr)} {qual : Str} {env : Env} {Q : Env → Shared → Prop} {n0 x g z : Str}
    (hn : scope.names = [(n0, .local), (x, .cell), (g, .globalImplicit), (z, .free)])
    (h : ∀ h' : Heap, h'.Ns s.heap.objs.size (fun _ => none) → h'.IsCell (s.heap.objs.size + 1) none → (∀ b o, s.heap.get? b = some o → h'.get? b = some o) →
      Q (newEnv scope s.heap.objs.size globals ((x, s.heap.objs.size + 1) :: cl) qual none .none (some env) builtinsNs) { s with heap := h' }) :
    wpAny M A (newFunctionEnv scope globals cl [] qual none .none (some env)) Q E s := by
  simp only [newFunctionEnv, Option.isSome_some, if_true]
  refine wpAny_bind (wpAny_alloc ?_)
  refine wpAny_bind (wpAny_layCells _ (fun name kind cells => by cases hkc : kind == NameKind.cell <;> simp [hkc]) _ _ _ _ ?_)
  rw [hn]
  have e1 : cellsFrom (s.heap.push { cls := .type "dict", data := .dict #[] }).objs.size [(n0, NameKind.local), (x, .cell), (g, .globalImplicit), (z, .free)] cl = (x, s.heap.objs.size + 1) :: cl := by
    rw [Heap.size_push]; rfl
  have e2 : pushCells (s.heap.push { cls := .type "dict", data := .dict #[] }) [(n0, NameKind.local), (x, .cell), (g, .globalImplicit), (z, .free)] = (s.heap.push { cls := .type "dict", data := .dict #[] }).push { cls := .type "cell", data := .cell none } := rfl
  show wpAny M A _ Q E _
  rw [e1, e2]
  refine wpAny_bind (wpAny_pure (wpAny_pure ?_))
  refine h _ ((Heap.Ns.new s.heap (.type "dict")).push _) ⟨{ cls := .type "cell", data := .cell none }, ?_, rfl⟩ fun b o e => Heap.get?_push_of_some _ (Heap.get?_push_of_some _ e)
  have := Heap.get?_push_size (s.heap.push { cls := .type "dict", data := .dict #[] }) (o := { cls := .type "cell", data := .cell none }) rfl
  rw [Heap.size_push] at this
  exact this
inductive RowsIn (G : Int → List Int) : List Int → List (Addr × Obj) → Prop
  | nil : RowsIn G [] []
  | snoc {ks : List Int} {es : List (Addr × Obj)} {k : Int} {r : Addr} {o : Obj} : RowsIn G ks es → LObj o (G k) → RowsIn G (ks ++ [k]) (es ++ [(r, o)])
noncomputable def compEnvR (scope : Scope) (cl : List (Str × Addr)) (C c : Addr) (x : Str) (env : Env) : Env :=
  { newEnv scope C env.globals ((x, c) :: cl) env.qual none .none (some env) builtinsNs with scope := relabel scope env }
section
variable {w : World} {A : Around} {E : Value → Shared → Prop} {s : Shared} {env : Env} {h₀ : Heap} {L : Addr} {m : Str → Option Value} {nx : List (Addr × Obj)}
inductive CellI (s₁ : Shared) (G : Int → List Int) (I D C c : Addr) (a₀ : Int) (n : Nat) (k : Nat) (s' : Shared) : Prop
  | intro (h' : Heap) (tk : Nat) (es : List (Addr × Obj)) (oc : Obj) (v : Option Value) (q0 : s' = { s₁ with heap := h', toks := tk }) (q1 : IsRangeIter h' I (a₀ + (es.length : Nat) * 1) ((n : Int) - (es.length : Nat)) 1) (q2 : h'.PlainList D (es.map fun e => Value.ref e.1).toArray) (q3 : h'.Ns C (fun _ => none)) (q4 : h'.get? c = some oc) (q5 : oc.data = .cell v) (q6 : RowsIn G (rangeKs a₀ es.length) es) (q7 : (∀ p ∈ es, h'.get? p.1 = some p.2 ∧ s₁.heap.get? p.1 = none ∧ p.1 ≠ I ∧ p.1 ≠ D ∧ p.1 ≠ C ∧ p.1 ≠ c)) (q8 : es.length ≤ n) (q9 : k = n + 1 - es.length) (q10 : ∀ b o, s₁.heap.get? b = some o → h'.get? b = some o) : CellI s₁ G I D C c a₀ n k s'
theorem compCell {elt iter : PySem.Expr} {x y n0 g z : Str} {px py : Pos} {scope : Scope} {cl : List (Str × Addr)} {pos spos : Pos} {Q : Flow → Shared → Prop} (G : Int → List Int) (_F₀ : Fr h₀ L s.heap m) (_N₀ : News h₀ L s.heap nx)
    (hsw : swapsWith (.ListComp elt [⟨.Name x px, iter, [], 0⟩] scope pos) (some (.Name y py)) spos.line env = pure true) (hL : env.locals = L)
    (hclos : closureFor scope env = pure cl) (hn : scope.names = [(n0, .local), (x, .cell), (g, .globalImplicit), (z, .free)]) (hkind : scope.kind = .function)
    (hnames : ∀ z ∈ scope.names, z.2 = .local → scope.names.lookup z.1 = some .local) (hxc : (compEnvR scope cl 0 0 x env).kindOf x = some .cell)
    (hy : env.kindOf y = some .local) (hp : (env.scope.kind == .class || (env.scope.kind == .module && env.locals != env.globals)) = false) (hh : A.handled = none)
    (h : wpAny (model PR w) A (eval iter env) (fun xv s₁ => Stop <| ∃ (r : Addr) (a₀ b₀ : Int) (t₀ u₀ v₀ : Tok) (n₀ : Nat) (ks : List Int), xv = .ref r ∧ IsRange s₁.heap r a₀ b₀ 1 t₀ u₀ v₀ ∧ Builtin.Range.small a₀ b₀ 1 = true ∧ Builtin.Range.rangeSize a₀ b₀ 1 = (n₀ : Int) ∧ ks = rangeKs a₀ n₀ ∧ n₀ ≤ 1000 ∧ Fr h₀ L s₁.heap m ∧ News h₀ L s₁.heap nx ∧
      (∀ C c k t s₃ oc E', k ∈ ks → oc.data = .cell (some (.int k t)) → s₃.heap.get? c = some oc → (∀ b o, s₁.heap.get? b = some o → s₃.heap.get? b = some o) → s₃.heap.Ns C (fun _ => none) → s₁.heap.objs.size ≤ C → s₁.heap.get? c = none → c ≠ C →
        wpAny (model PR w) A (eval elt (compEnvR scope cl C c x env)) (fun v s₄ => (∃ r o, v = .ref r ∧ s₃.heap.get? r = none ∧ s₄.heap.get? r = some o ∧ LObj o (G k)) ∧ Keeps s₃ s₄) E' s₃) ∧
      ∀ D n es h' tk, Fr h₀ L h' (fun z => if z = y then some (.ref D) else m z) → News h₀ L h' ((D, listOf (es.map fun e => Value.ref e.1).toArray n) :: es ++ nx) → RowsIn G ks es → (∀ p ∈ nx, ∀ q ∈ (D, listOf (es.map fun e => Value.ref e.1).toArray n) :: es, q.1 ≠ p.1) → Q .next { s₁ with heap := h', toks := tk }) E s)
    (hs : ∀ x, foldedSetIterable iter env x = pure x := by intro _; rfl) :
    wpAny (model PR w) A (exec (.Assign [.Name y py] (.ListComp elt [⟨.Name x px, iter, [], 0⟩] scope pos) spos) env) Q E s := by
  subst hL
  rw [exec_Assign_Name_used _ _ _ _ hsw]
  refine wpAny_bind (wpAny_standAt (wpAny_bind ?_))
  show wpAny _ A (do let _ ← comprehension (.ListComp elt [⟨.Name x px, iter, [], 0⟩] scope pos) scope env _ (newList []) false (eval iter env) (some (assign (.Name y py) env))) _ _ s
  refine wpAny_bind (wpAny_mono (wpAny_comprehension_free (use := some (assign (.Name y py) env)) (Q := fun _ s' => Q .next s') rfl hs hclos hkind hnames
    (wpAny_mono h (fun xv s₁ h₁ => ?_) fun _ _ e => e)) (fun _ s' hq => wpAny_pure (wpAny_pure hq)) fun _ _ e => e)
  obtain ⟨r, a₀, b₀, t₀, u₀, v₀, n, ks, rfl, hr, hsm, hrs, rfl, hlen, F, N, helt, hQ⟩ := h₁
  refine wpAny_pyIter_range hr hsm ?_
  have W := (Walks.range (prog := PR) (w := w) hh s₁.heap.objs.size a₀ 1 n).bound
  generalize hoI : ({ cls := .type "range_iterator", data := _ } : Obj) = oI
  have sz2 : (s₁.heap.push oI).objs.size = s₁.heap.objs.size + 1 := Heap.size_push ..
  have hst : IsRangeIter (s₁.heap.push oI) s₁.heap.objs.size (a₀ + ((0 : Nat) : Int) * 1) ((n : Int) - ((0 : Nat) : Int)) 1 := by
    subst hoI; show IsRangeIter _ _ _ _ _; rw [hrs]; simpa using Heap.get?_push_size _ rfl
  clear hoI
  refine wpAny_newObj_type (newEnv_cell1 hn fun h₁ hC hc hk₁ => ?_)
  dsimp only at hC hc hk₁ ⊢
  generalize hI : s₁.heap.objs.size = I at *
  have hgD : ((s₁.heap.push oI).push { cls := .type "list", dict := none, data := .seq ([] : List Value).toArray }).get? (s₁.heap.push oI).objs.size = some { cls := .type "list", dict := none, data := .seq ([] : List Value).toArray } := Heap.get?_push_size _ rfl
  generalize hD : (s₁.heap.push oI).objs.size = D at *
  generalize hCe : ((s₁.heap.push oI).push { cls := .type "list", dict := none, data := .seq ([] : List Value).toArray }).objs.size = C at *
  generalize hce : C + 1 = c at *
  have hszC : C = D + 1 := by rw [← hCe, Heap.size_push, hD]
  have old : ∀ b o, s₁.heap.get? b = some o → h₁.get? b = some o := fun b o e => hk₁ b o (Heap.get?_push_of_some _ (Heap.get?_push_of_some _ e))
  have lt : ∀ b o, s₁.heap.get? b = some o → @LT.lt Nat _ b I := fun b o e => hI ▸ Heap.lt_size e
  have itI : IsRangeIter h₁ I (a₀ + ((0 : Nat) : Int) * 1) ((n : Int) - ((0 : Nat) : Int)) 1 := hk₁ _ _ (Heap.get?_push_of_some _ hst)
  obtain ⟨oc0, hoc0, hdc0⟩ := hc
  have hLn : @LT.lt Nat _ env.locals I := hI ▸ F.ns.lt
  have loop : codeAny (model PR w) A (.compLoop (.ListComp elt [⟨.Name x px, iter, [], 0⟩] scope pos) 0 (.ref I) (.ref D) (compEnvR scope cl C c x env))
      (compPost (model PR w) A E (some (assign (.Name y py) env)) (fun _ s' => Q .next s') (.ref D) C) { s₁ with heap := h₁ } := by
    refine codeAny_compLoop_tests
      (CellI s₁ G I D C c a₀ n) ?_ (n + 1)
      ⟨h₁, s₁.toks, [], oc0, none, rfl, itI, ⟨0, hk₁ _ _ hgD⟩, hC, hoc0, hdc0, .nil, (fun p hp => nomatch hp), Nat.zero_le _, rfl, old⟩
    intro k s' xR1; obtain ⟨H, tk, es, oc, v, rfl, hit', hl', hC', hoc', hdc', hrows, hes, hle, rfl, hk⟩ := xR1
    by_cases hlt : es.length < n
    · refine W.item es.length _ _ _ hlt hit' fun v₂ h₂ tk₂ hPv hit₂ hk₂ => ?_
      obtain ⟨_, t, rfl⟩ := hPv
      have k₂ : ∀ b o, b ≠ I → H.get? b = some o → h₂.get? b = some o := fun b o hb e => hk₂ b o (fun q => hb (List.mem_singleton.mp q)) e
      refine wpAny_assign_Name (wpAny_storeName_cell (c := c) (v₀ := v) (by show scope.kind = _; exact hkind) hxc (by show List.lookup x ((x, c) :: cl) = some c; simp [List.lookup_cons]) ⟨oc, k₂ _ _ (by omega) hoc', hdc'⟩ fun h₃ hv₃ hs₃ => ?_)
      obtain ⟨oc₃, hoc₃, hdc₃⟩ := hv₃
      have k₃ : ∀ b o, b ≠ I → b ≠ c → H.get? b = some o → h₃.get? b = some o := fun b o hb hb2 e => hs₃.extBut b o hb2 (k₂ b o hb e)
      refine tests_nil ?_
      rw [if_pos rfl]
      have hm : a₀ + (es.length : Int) * 1 ∈ rangeKs a₀ n := by unfold rangeKs; exact List.mem_map.mpr ⟨es.length, List.mem_range.mpr hlt, by rw [Int.mul_one]⟩
      have keep₃ : ∀ b o, s₁.heap.get? b = some o → h₃.get? b = some o := fun b o e => by have := lt b o e; exact k₃ b o (by omega) (by omega) (hk b o e)
      have hC₃ : h₃.Ns C (fun _ => none) := hC'.at' fun o e => k₃ _ o (by omega) (by omega) e
      refine wpAny_mono (helt C c _ t _ oc₃ _ hm hdc₃ hoc₃ keep₃ hC₃ (by omega) (Heap.get?_none_of_le (by rw [hI]; omega)) (show @Ne Nat c C by omega)) (fun y' s₄ h₄ => ?_) fun _ _ e => e
      obtain ⟨⟨r', o', rfl, hr0, hr1, hL⟩, h₄', tk₄, rfl, hk₄⟩ := h₄
      dsimp only at hr0 hr1 hk₄
      have hI₃ : IsRangeIter h₃ I (a₀ + ((es.length + 1 : Nat) : Int) * 1) ((n : Int) - ((es.length + 1 : Nat) : Int)) 1 := hs₃.extBut _ _ (show @Ne Nat I c by omega) hit₂
      have hl₃ : h₃.PlainList D (es.map fun e => Value.ref e.1).toArray := hl'.at fun o e => k₃ _ o (by omega) (by omega) e
      refine wpAny_list_append_plain (hl₃.at fun o e => hk₄ _ o e) (fun h₅ hl₅ hs₅ => ?_) (by simp [sizeLine_eq]; omega)
      have k₅ : ∀ b o, b ≠ D → h₃.get? b = some o → h₅.get? b = some o := fun b o hb e => hs₅.extBut b o hb (hk₄ b o e)
      have rI : r' ≠ I := fun q => by rw [q, show h₃.get? I = _ from hI₃] at hr0; cases hr0
      have rD : r' ≠ D := fun q => by obtain ⟨nD, e⟩ := hl₃; rw [q, e] at hr0; cases hr0
      have rC : r' ≠ C := fun q => by obtain ⟨oC, _, _, e, _⟩ := hC₃; rw [q, e] at hr0; cases hr0
      have rc : r' ≠ c := fun q => by rw [q, hoc₃] at hr0; cases hr0
      have r0 : s₁.heap.get? r' = none := by
        cases q : s₁.heap.get? r' with
        | none => rfl
        | some o => rw [keep₃ _ _ q] at hr0; cases hr0
      refine ⟨n + 1 - (es.length + 1), by omega, h₅, tk₄, es ++ [(r', o')], oc₃, _, rfl, ?_, ?_, hC₃.at' fun o e => k₅ _ o (by omega) e, k₅ _ _ (by omega) hoc₃, hdc₃, ?_, ?_, by rw [List.length_append, List.length_singleton]; exact hlt, by rw [List.length_append, List.length_singleton], fun b o e => ?_⟩
      · rw [List.length_append, List.length_singleton]; exact k₅ _ _ (by omega) hI₃
      · simpa using hl₅
      · rw [List.length_append, List.length_singleton, rangeKs_succ]
        rw [Int.mul_one] at hL
        exact .snoc hrows hL
      · intro p hp
        rcases List.mem_append.mp hp with hp | hp
        · obtain ⟨e1, e2, e3, e4, e5, e6⟩ := hes p hp
          exact ⟨k₅ _ _ e4 (k₃ _ _ e3 e6 e1), e2, e3, e4, e5, e6⟩
        · rw [List.mem_singleton.mp hp]
          exact ⟨hs₅.extBut _ _ rD hr1, r0, rI, rD, rC, rc⟩
      · have := lt b o e
        exact k₅ b o (by omega) (keep₃ b o e)
    · have hin : es.length = n := by omega
      subst hin
      refine W.done _ _ _ hit' fun h₂ tk₂ hk₂ => ?_
      have k₂ : ∀ b o, b ≠ I → H.get? b = some o → h₂.get? b = some o := fun b o hb e => hk₂ b o (fun q => hb (List.mem_singleton.mp q)) e
      show wpAny _ A (assign (.Name y py) env (.ref D)) _ _ _
      refine wpAny_assign_Name (wpAny_storeName_local hy (F.ns.at' fun o e => k₂ _ o (by omega) (hk _ o e)) (fun h₃ hn₃ hs₃ => ?_) hp)
      refine ⟨_, (hC'.at' fun o e => k₂ _ o (by omega) e).sameBut hs₃ (show @Ne Nat C env.locals by omega), fun h₄ hs₄ => ?_⟩
      have k₄ : ∀ b o, b ≠ I → b ≠ env.locals → b ≠ C → H.get? b = some o → h₄.get? b = some o := fun b o hb hb2 hb3 e => hs₄.extBut b o hb3 (hs₃.extBut b o hb2 (k₂ b o hb e))
      have hL0 : h₀.get? env.locals = none := Heap.get?_none_of_le F.above
      have eL : ∀ p ∈ es, p.1 ≠ env.locals := fun p hp q => by have := (hes p hp).2.1; obtain ⟨oL, _, _, e, _⟩ := F.ns; rw [q, e] at this; cases this
      have h0n : ∀ b, s₁.heap.get? b = none → h₀.get? b = none := fun b hb => by
        cases q : h₀.get? b with
        | none => rfl
        | some o => rw [F.keep _ _ q] at hb; cases hb
      obtain ⟨nD, hDg⟩ := hl'
      have hD0 : s₁.heap.get? D = none := Heap.get?_none_of_le (by rw [hI]; omega)
      refine hQ D nD es h₄ _ ⟨hn₃.sameBut hs₄ (show @Ne Nat env.locals C by omega), fun b o e => ?_, F.above⟩ (fun p hp => ?_) hrows (fun p hp q hq => ?_)
      · have e1 := F.keep b o e
        have := lt b o e1
        exact k₄ b o (by omega) (fun q => by rw [q, hL0] at e; cases e) (by omega) (hk b o e1)
      · rcases List.mem_append.mp hp with hp | hp
        · rcases List.mem_cons.mp hp with rfl | hp
          · exact ⟨k₄ _ _ (by show D ≠ I; omega) (by show D ≠ env.locals; omega) (by show D ≠ C; omega) hDg, by show D ≠ env.locals; omega, h0n _ hD0⟩
          · obtain ⟨e1, e2, e3, e4, e5, e6⟩ := hes p hp
            exact ⟨k₄ _ _ e3 (eL p hp) e5 e1, eL p hp, h0n _ e2⟩
        · have e1 := (N p hp).1
          have := lt _ _ e1
          exact ⟨k₄ _ _ (by omega) (N p hp).2.1 (by omega) (hk _ _ e1), (N p hp).2⟩
      · have e1 := (N p hp).1
        rcases List.mem_cons.mp hq with rfl | hq
        · have := lt _ _ e1; show D ≠ p.1; omega
        · intro e
          have := (hes q hq).2.1
          rw [e, e1] at this; cases this
  exact codeAny_compStart_list loop (W.self 0 _ _ _ itI loop)
theorem cnameR_B {K : Frag} {hb : Heap} {C c : Addr} {mg mb : Str → Option Value} {p : Program} {loose : List Str} {scope : Scope} {cl : List (Str × Addr)} {x y : Str} {pos : Pos} {v : Value} {Q : Value → Shared → Prop}
    (F : Fr hb C s.heap m) (X : K.In hb) (T : TopRead p loose mg mb hb) (e : nsIn K mainGlobals y = some none) (hv : bootBuiltins y = some v) (hn : y ≠ "__name__") (h : Q v s)
    (hk : (compEnvR scope cl C c x env).scope.kind = .function := by rfl) (hx : (compEnvR scope cl C c x env).kindOf y = some .globalImplicit := by rfl) (hg : env.globals = mainGlobals := by rfl) (hbn : env.builtins = builtinsNs := by rfl) (hd : (y == ("__debug__" : Str)) = false := by decide) :
    wpAny (model PR w) A (eval (.Name y pos) (compEnvR scope cl C c x env)) Q E s := by
  refine Name_function_global hk hx (loadGlobal_builtin (env := compEnvR scope cl C c x env) ?_ (mg_none_of X T.g e) ?_ ((T.builtins y hn).trans hv) h) hd
  · show s.heap.Ns env.globals mg; rw [hg]; exact T.g.keeps F.keep
  · show s.heap.Ns env.builtins mb; rw [hbn]; exact T.b.keeps F.keep
end
end

section
section
variable {w : World} {A : Around} {E : Value → Shared → Prop} {s : Shared} {env : Env} {h₀ : Heap} {L : Addr} {m : Str → Option Value} {nx : List (Addr × Obj)}
theorem compEf {elt iter : PySem.Expr} {x : Str} {px : Pos} {ifs : List PySem.Expr} {scope : Scope} {cl : List (Str × Addr)} {pos : Pos} {Q : Value → Shared → Prop} (p : Int → Bool) (g : Int → Int) (_F₀ : Fr h₀ L s.heap m) (_N₀ : News h₀ L s.heap nx)
    (hclos : closureFor scope env = pure cl) (hcell : ∀ z ∈ scope.names, z.2 ≠ .cell) (hkind : scope.kind = .function)
    (hnames : ∀ z ∈ scope.names, z.2 = .local → scope.names.lookup z.1 = some .local) (hx : scope.names.lookup x = some .local) (hh : A.handled = none)
    (h : wpAny (model PR w) A (eval iter env) (fun xv s₁ => Stop <| ∃ ks, SrcI w s₁ xv ks ∧ ks.length ≤ 1000 ∧ Fr h₀ L s₁.heap m ∧ News h₀ L s₁.heap nx ∧ CompPure w A env scope cl x ifs elt s₁ ks p g ∧
      ∀ D vs n h' tk, Fr h₀ L h' m → News h₀ L h' ((D, listOf vs.toArray n) :: nx) → (∀ p ∈ nx, p.1 ≠ D) → (∀ b o, s₁.heap.get? b = some o → h'.get? b = some o) → s₁.heap.get? D = none → IntsAre vs ((ks.filter p).map g) → Q (.ref D) { s₁ with heap := h', toks := tk }) E s)
    (hs : ∀ x, foldedSetIterable iter env x = pure x := by intro _; rfl) :
    wpAny (model PR w) A (eval (.ListComp elt [⟨.Name x px, iter, ifs, 0⟩] scope pos) env) Q E s := by
  refine wpAny_ListComp_free (pInt p) (gInt g) hclos hcell hkind hnames hx (wpAny_mono h (fun xv s₁ h₁ => ?_) fun _ _ e => e) hs
  obtain ⟨ks, S, hlen, F, N, H, hQ⟩ := h₁
  refine wpAny_mono (src_walk hh S) (fun it s₂ h₂ => ?_) fun _ _ e => e
  obtain ⟨oI, fp, P, St, rfl, rfl, W, hst, hfp, hP⟩ := h₂
  refine ⟨s₁.heap.objs.size, fp, _, ks.length, P, St, rfl, W, by rw [sizeLine_eq]; omega, hst, hfp, H.quiet hP, ?_⟩
  intro D h' tk ys vs' hnew hlD hpl hl hv hF hk
  obtain ⟨n, hD⟩ := id hpl
  have keep : ∀ b o, s₁.heap.get? b = some o → h'.get? b = some o := fun b o e => hk b o (fun hm => absurd (Heap.lt_size e) ((List.mem_singleton.mp hm) ▸ Nat.lt_irrefl _)) (Heap.get?_push_of_some _ e)
  have hDne : s₁.heap.get? D = none := by
    cases q : s₁.heap.get? D with
    | none => rfl
    | some o => have e := Heap.get?_push_of_some oI q; rw [show (s₁.heap.push oI).get? D = none from hnew] at e; cases e
  refine hQ D ys.toList n h' tk (F.keeps keep) (news_add F (N.grown keep) hDne ?_) (news_ne N hDne) keep hDne (ints_filter (ints_of_walk hP hl hv) hF)
  rw [Array.toArray_toList]; exact hD
end
end

section
noncomputable def LV (o : Obj) (vs : List Value) (ns : List Int) : Prop := ∃ n, o = listOf vs.toArray n ∧ IntsAre vs ns
theorem LV.lo {o : Obj} {vs : List Value} {ns : List Int} (x : LV o vs ns) : LObj o ns := let ⟨n, e, i⟩ := x; ⟨vs, n, e, i⟩
section
variable {w : World} {A : Around} {E : Value → Shared → Prop} {s : Shared} {h₀ : Heap} {L D : Addr} {m : Str → Option Value} {nx : List (Addr × Obj)} {ns ms : List Int} {o : Obj} {g : Obj → List (Addr × Obj)}
theorem lv_del {vs : List Value} {i : Int} {u : Tok} {Q : Unit → Shared → Prop} (F : Fr h₀ L s.heap m) (N : News h₀ L s.heap nx) (U : UpdF D o nx g) (hL : LV o vs ns) (h0 : 0 ≤ i) (h1 : i < (ns.length : Int)) (hz : ns.length ≤ 1000)
    (h : ∀ h' o', Fr h₀ L h' m → News h₀ L h' (g o') → LV o' (vs.eraseIdx i.toNat) (ns.eraseIdx i.toNat) → Q () { s with heap := h' }) : wpAny (model PR w) A (delItem (.ref D) (.int i u)) Q E s := by
  obtain ⟨n, rfl, hi⟩ := hL
  obtain ⟨pre, post, rfl, hg, a, b⟩ := U.split
  have z := N (D, listOf vs.toArray n) (List.mem_append.mpr (.inr (.head _)))
  have hlen := hi.length
  have hfit : Builtin.List.listFitsIndex i = true := by unfold Builtin.List.listFitsIndex; simp only [Bool.and_eq_true, decide_eq_true_eq]; omega
  have hk : seqIndex? i vs.toArray.size = some i.toNat := PySem.seqIndex_of h0 (by rw [List.size_toArray]; omega)
  have e1 : vs.toArray.eraseIdxIfInBounds i.toNat = (vs.eraseIdx i.toNat).toArray := by
    apply Array.toList_inj.mp
    simp [Array.toList_eraseIdxIfInBounds]
  refine P.delItem_list (n := n) z.1 hfit hk (h _ (listOf (vs.eraseIdx i.toNat).toArray (if (vs.eraseIdx i.toNat).toArray.size == vs.toArray.size then n else n + 1)) (F.change (Heap.SameBut.update ..) z.2.1 z.2.2) ?_ ⟨_, rfl, ints_eraseIdx _ hi⟩) (by rw [List.size_toArray, sizeLine_eq]; omega)
  rw [hg]
  exact ki_turn _ N a b e1 rfl
theorem lv_iadd {vs us : List Value} {ob : Obj} {b : Addr} {Q : Value → Shared → Prop} (F : Fr h₀ L s.heap m) (N : News h₀ L s.heap nx) (U : UpdF D o nx g) (hL : LV o vs ns) (hb : s.heap.get? b = some ob) (hM : LV ob us ms) (hz : ns.length + ms.length ≤ 1000)
    (h : ∀ h' o', Fr h₀ L h' m → News h₀ L h' (g o') → LV o' (vs ++ us) (ns ++ ms) → Q (.ref D) { s with heap := h' }) : wpAny (model PR w) A (inplaceOp .Add (.ref D) (.ref b)) Q E s := by
  obtain ⟨n, rfl, hi⟩ := hL
  obtain ⟨k, rfl, hj⟩ := hM
  obtain ⟨pre, post, rfl, hg, a, c⟩ := U.split
  have z := N (D, listOf vs.toArray n) (List.mem_append.mpr (.inr (.head _)))
  have hlen := hi.length
  have hlen' := hj.length
  refine inplace_iadd ⟨_, z.1, rfl⟩ ⟨_, hb, rfl⟩ (call_meets PySem.F.slot_list_iadd ⟨_, z.1, rfl⟩ PySem.F.entry_list_iadd (PySem.F.args_list_iadd_2 _ _) (PySem.AutoSeq1.list___iadd___list_list_0 D vs.toArray n b us.toArray k ?_ ?_ ?_) ⟨z.1, hb, h _ (listOf (vs ++ us).toArray (if (vs ++ us).toArray.size == vs.toArray.size then n else n + 1)) (F.change (Heap.SameBut.update ..) z.2.1 z.2.2) ?_ ⟨_, rfl, ints_append hi hj⟩⟩)
  · unfold Builtin.List.listTooLong
    simp only [List.size_toArray, Bool.and_eq_true, decide_eq_true_eq, sizeLine_eq]; omega
  · rw [List.size_toArray, sizeLine_eq]; omega
  · rw [List.size_toArray, List.size_toArray, sizeLine_eq]; omega
  · rw [hg]
    exact ki_turn _ N a c (by simp) rfl
end
end
theorem fresh_C18 : True := by w_top off; trivial
theorem reg_C18 : True := by
  (k_with "delItem ref int" => ((guard_hyp on_C18 : True; ((k_dflt (refine' lv_del (by k_asm) (by k_asm) (by ktr_units) (by assumption) (by omega) (by omega) (by omega) ?_; intro _ _ _ N_r _; (try dsimp only at N_r)))))))
  (k_with "inplaceOp Add ref ref" => ((guard_hyp on_C18 : True; ((k_dflt (refine' lv_iadd (by k_asm) (by k_asm) (by ktr_units) (by assumption) (by first | assumption | exact Fr.keep (by k_asm) _ _ (by assumption) | exact News.get (by k_asm) (by k_mem)) (by assumption) (by omega) ?_; intro _ _ _ N_r _; (try dsimp only at N_r)))))))
  trivial

set_option maxRecDepth 100000 in
set_option maxHeartbeats 8000000 in
theorem delV_ok (w : World) (s : Shared) (l : Addr) (vs : List Value) (ns : List Int) (k : Int) (t : Tok) (h0 : 0 ≤ k) (h1 : k < (ns.length : Int)) (hz : ns.length ≤ 900) (D : ∀ o, s.heap.get? l = some o → LV o vs ns) :
    CallUpd w 1 97 [.ref l, .int k t] [] s l (fun v o _ => v = .none ∧ LV o (vs.eraseIdx k.toNat) (ns.eraseIdx k.toNat)) := by
  have on_C18 : True := trivial
  k_dflt (refine' CallUpd.intro (binds := [(Str.ofString "a", .ref l), (Str.ofString "b", .int k t)]) (ho := ?ho) (hcd := ?hcd) (hbind := ?hb) (hloc := ?hl) (hcell := ?hc) (hco := ?h1) (hgen := ?h2) (hk := ?h3) ?_; (case ho => k_is); (case hcd => k_is); (case hb => intro _; exact BindsTo.of_eq rfl); (case hc => decide); (case hl => exact locs rfl); (case h1 => exact rfl); (case h2 => exact rfl); (case h3 => exact rfl); k_whole)
  intro loose mean mg mb dp un gd env outer A₀ base gh L' h₁ o hgh hoa B F X N T hd hu
  have hL := D o hoa
  (try dsimp only); (try k_fold)
  k_steps
  exact RetUpd.introN hgh (by assumption) (by assumption) (.head _) ⟨rfl, by assumption⟩
set_option maxRecDepth 100000 in
set_option maxHeartbeats 8000000 in
theorem iaddV_ok (w : World) (s : Shared) (l b : Addr) (vs us : List Value) (ns ms : List Int) (ob : Obj) (hz : ns.length + ms.length ≤ 900) (hne : (@Ne Nat b l)) (D : ∀ o, s.heap.get? l = some o → LV o vs ns) (hb : s.heap.get? b = some ob) (hM : LV ob us ms) :
    CallUpd w 1 118 [.ref l, .ref b] [] s l (fun v o _ => v = .ref l ∧ LV o (vs ++ us) (ns ++ ms)) := by
  have on_C18 : True := trivial
  k_dflt (refine' CallUpd.intro (binds := [(Str.ofString "a", .ref l), (Str.ofString "b", .ref b)]) (ho := ?ho) (hcd := ?hcd) (hbind := ?hb) (hloc := ?hl) (hcell := ?hc) (hco := ?h1) (hgen := ?h2) (hk := ?h3) ?_; (case ho => k_is); (case hcd => k_is); (case hb => intro _; exact BindsTo.of_eq rfl); (case hc => decide); (case hl => exact locs rfl); (case h1 => exact rfl); (case h2 => exact rfl); (case h3 => exact rfl); k_whole)
  intro loose mean mg mb dp un gd env outer A₀ base gh L' h₁ o hgh hoa B F X N T hd hu
  have hL := D o hoa
  have hb' : gh.get? b = some ob := hgh ▸ hideAll_get [l] hb (fun q => hne (List.mem_singleton.mp q))
  (try dsimp only); (try k_fold)
  k_steps
  exact RetUpd.intro hgh (by assumption) (by assumption) (.head _) ⟨rfl, by assumption⟩

section
noncomputable def TkThen (a b : Nat) (p : Prop) : Prop := a ≤ b → p
theorem execs_consT {M : Model} {A : Around} {E : Value → Shared → Prop} {s : Shared} {env : Env} {st : Stmt} {rest : List Stmt} {Q : Flow → Shared → Prop}
    (h : wpAny M A (exec st env) (fun f s' => TkThen s.toks s'.toks (match f with | .next => wpAny M A (execs rest env) Q E s' | f => Q f s')) E s) : wpAny M A (execs (st :: rest) env) Q E s := by
  refine wpAny_execs_cons (wpAny_toks (wpAny_mono h (fun f s' h' ht => ?_) fun _ _ x _ => x))
  cases f <;> exact h' ht
noncomputable def TurnT (h₀ : Heap) (L : Addr) (p : Addr × Obj) (Jn : (Str → Option Value) → List (Addr × Obj) → Nat → Prop) (s₁ : Shared) (Q : Flow → Shared → Prop) (f : Flow) (s₂ : Shared) : Prop :=
  match f with
  | .ret v => Q (.ret v) s₂
  | .brk => Q .next s₂
  | _ => ∃ h' tk m' nx', s₂ = { s₁ with heap := h', toks := tk } ∧ Fr h₀ L h' m' ∧ News h₀ L h' (p :: nx') ∧ (s₁.toks ≤ tk → Jn m' nx' tk)
section
variable {w : World} {A : Around} {E : Value → Shared → Prop} {s : Shared} {env : Env} {h₀ : Heap} {x : Str} {px : Pos} {body : List Stmt} {Q : Flow → Shared → Prop}
theorem TurnT.nextS {L : Addr} {p : Addr × Obj} {Jn : (Str → Option Value) → List (Addr × Obj) → Nat → Prop} {s₁ : Shared} {h' : Heap} {tk : Nat} {m' : Str → Option Value} {all : List (Addr × Obj)} (nx' : List (Addr × Obj)) (F : Fr h₀ L h' m') (N : News h₀ L h' all) (s : ∀ q ∈ p :: nx', q ∈ all) (j : s₁.toks ≤ tk → Jn m' nx' tk) :
    TurnT h₀ L p Jn s₁ Q .next { s₁ with heap := h', toks := tk } := ⟨h', tk, m', nx', rfl, F, fun q hq => N q (s q hq), j⟩
theorem TurnT.contS {L : Addr} {p : Addr × Obj} {Jn : (Str → Option Value) → List (Addr × Obj) → Nat → Prop} {s₁ : Shared} {h' : Heap} {tk : Nat} {m' : Str → Option Value} {all : List (Addr × Obj)} (nx' : List (Addr × Obj)) (F : Fr h₀ L h' m') (N : News h₀ L h' all) (s : ∀ q ∈ p :: nx', q ∈ all) (j : s₁.toks ≤ tk → Jn m' nx' tk) :
    TurnT h₀ L p Jn s₁ Q .cont { s₁ with heap := h', toks := tk } := ⟨h', tk, m', nx', rfl, F, fun q hq => N q (s q hq), j⟩
end
end

section
noncomputable def SeqS (src : Option (List Value)) (h : Heap) (av : Value) (ns : List Int) : Prop := match src with
  | some avs => ∃ l, av = .ref l ∧ h.IsList l avs.toArray ∧ IntsAre avs ns
  | none => ∃ (bs : List UInt8) (t : Tok), av = .bytes bs.toArray t ∧ ns = bs.map fun b => (b.toNat : Int)
theorem SeqS.v {src : Option (List Value)} {h : Heap} {av : Value} {ns : List Int} (x : SeqS src h av ns) : SeqV h av ns := by
  cases src with
  | some avs => obtain ⟨l, rfl, hl, hi⟩ := x; exact .inl ⟨l, rfl, avs, hl, hi⟩
  | none => obtain ⟨bs, t, e, q⟩ := x; exact .inr ⟨bs, t, e, q.symm⟩
theorem SeqS.keeps {src : Option (List Value)} {h h' : Heap} {av : Value} {ns : List Int} (x : SeqS src h av ns) (k : ∀ b o, h.get? b = some o → h'.get? b = some o) : SeqS src h' av ns := by
  cases src with
  | some avs => obtain ⟨l, rfl, ⟨o, e, r⟩, hi⟩ := x; exact ⟨l, rfl, ⟨o, k _ _ e, r⟩, hi⟩
  | none => exact x
noncomputable def NewTok (src : Option (List Value)) (a : Nat) (v : Value) (b : Nat) : Prop := match src with
  | some avs => v ∈ avs
  | none => ∃ x, v = .int x a ∧ b = a + 1
noncomputable def HOk (src : Option (List Value)) (vs : List Value) (tk : Nat) : Prop := match src with
  | some avs => TokOk avs ∧ ∀ v ∈ vs, v ∈ avs
  | none => TokOk vs ∧ ∀ x t, Value.int x t ∈ vs → @LT.lt Nat _ t tk
theorem HOk.tok {src : Option (List Value)} {vs : List Value} {tk : Nat} (x : HOk src vs tk) : TokOk vs := by
  cases src with
  | some avs => exact ⟨fun a t h => x.1.small a t (x.2 _ h), fun a t h => x.1.pos a t (x.2 _ h), fun a b t u h k => x.1.apart a b t u (x.2 _ h) (x.2 _ k)⟩
  | none => exact x.1
theorem HOk.up {src : Option (List Value)} {vs : List Value} {tk tk' : Nat} (x : HOk src vs tk) (h : tk ≤ tk') : HOk src vs tk' := by
  cases src with
  | some avs => exact x
  | none => exact ⟨x.1, fun a t m => Nat.lt_of_lt_of_le (x.2 a t m) h⟩
theorem HOk.sub {src : Option (List Value)} {vs vs' : List Value} {tk : Nat} (x : HOk src vs tk) (h : ∀ v ∈ vs', v ∈ vs) : HOk src vs' tk := by
  cases src with
  | some avs => exact ⟨x.1, fun v m => x.2 v (h v m)⟩
  | none => exact ⟨⟨fun a t m => x.1.small a t (h _ m), fun a t m => x.1.pos a t (h _ m), fun a b t u m k => x.1.apart a b t u (h _ m) (h _ k)⟩, fun a t m => x.2 a t (h _ m)⟩
theorem HOk.add {src : Option (List Value)} {vs : List Value} {tk a b : Nat} {y : Int} {u : Tok} (x : HOk src vs tk) (h0 : 0 < tk) (ha : tk ≤ a) (hn : NewTok src a (.int y u) b) (hs : smallInt y = true) : HOk src (vs ++ [.int y u]) b := by
  cases src with
  | some avs =>
    refine ⟨x.1, fun v m => ?_⟩
    rcases List.mem_append.mp m with m | m
    · exact x.2 v m
    · rw [List.mem_singleton.mp m]; exact hn
  | none =>
    obtain ⟨z, e, rfl⟩ := hn
    injection e with e1 e2
    subst e1; subst e2
    have old : ∀ c t, Value.int c t ∈ vs → @LT.lt Nat _ t u := fun c t m => Nat.lt_of_lt_of_le (x.2 c t m) ha
    have split : ∀ c t, Value.int c t ∈ vs ++ [.int y u] → Value.int c t ∈ vs ∨ (c = y ∧ t = u) := fun c t m => by
      rcases List.mem_append.mp m with m | m
      · exact .inl m
      · have := List.mem_singleton.mp m
        injection this with e1 e2
        exact .inr ⟨e1, e2⟩
    refine ⟨⟨fun c t m => ?_, fun c t m => ?_, fun c d t v m k hne => ?_⟩, fun c t m => ?_⟩
    · rcases split c t m with m | ⟨rfl, rfl⟩
      · exact x.1.small c t m
      · exact hs
    · rcases split c t m with m | ⟨rfl, rfl⟩
      · exact x.1.pos c t m
      · exact Nat.ne_of_gt (Nat.lt_of_lt_of_le h0 ha)
    · rcases split c t m with m1 | ⟨e1, e2⟩
      · rcases split d v k with k1 | ⟨e3, e4⟩
        · exact x.1.apart c d t v m1 k1 hne
        · rw [e4]; exact Nat.ne_of_lt (old c t m1)
      · rcases split d v k with k1 | ⟨e3, e4⟩
        · rw [e2]; exact Nat.ne_of_gt (old d v k1)
        · exact absurd (e1.trans e3.symm) hne
    · rcases split c t m with m | ⟨rfl, rfl⟩
      · exact Nat.lt_succ_of_lt (old c t m)
      · exact Nat.lt_succ_self _
section
variable {w : World} {A : Around} {E : Value → Shared → Prop} {s : Shared}
theorem seq_itemT {value slice : PySem.Expr} {src : Option (List Value)} {v : Value} {ns : List Int} {k : Int} {u : Tok} {Q : Value → Shared → Prop} (hv : SeqS src s.heap v ns) (h0 : 0 ≤ k) (h1 : k < (ns.length : Int)) (hz : ns.length ≤ 1000) (h : ∀ t tk, NewTok src s.toks (.int (geti ns k) t) tk → Q (.int (geti ns k) t) { s with toks := tk })
    (hs : ∀ v, subscripted slice false v (.int k u) = operate [v, .int k u] (getItem v (.int k u)) := by intro _; with_unfolding_all rfl) (hg : ∀ v r, letTemporaryGo value v r = pure () := by intro _ _; with_unfolding_all rfl) :
    wpAny (model PR w) A (subscriptTail value slice v (.int k u)) Q E s := by
  cases src with
  | some avs =>
    obtain ⟨l, rfl, hl, hi⟩ := hv
    obtain ⟨t, hx⟩ := hi.get k.toNat (geti ns k) (by
      have hlt : k.toNat < ns.length := by omega
      unfold geti
      rw [List.getD_eq_getElem?_getD, List.getElem?_eq_getElem hlt]; rfl)
    exact subscriptTail_builtin hl.typeIs slot_list_getitem.lookup (wpAny_getItem_list hl h0 (by omega) (by simpa using hx) (h t s.toks (List.mem_of_getElem? hx))) (hs _) (hg _)
  | none =>
    obtain ⟨bs, t, rfl, rfl⟩ := hv
    rw [List.length_map] at h1 hz
    refine subscriptTail_builtin (typeIs_bytes s _ t) FB.slot_bytes_getitem.lookup (getItem_bytes (by omega) h0 h1 ?_) (hs _) (hg _)
    have e : geti (bs.map fun b => (b.toNat : Int)) k = ((bs.getD k.toNat 0).toNat : Int) := by
      unfold geti
      rw [List.getD_eq_getElem?_getD, List.getD_eq_getElem?_getD, List.getElem?_map, List.getElem?_eq_getElem (show k.toNat < bs.length by omega)]
      rfl
    rw [← e]; exact h _ _ ⟨_, rfl, rfl⟩
end
end

section
noncomputable def TabR (pos : Pos) (qual : Str) (ps : Array Value) (cc : Addr) (oc : Obj) : Prop :=
  ps = #[] ∨ (ps = #[rawInt pos.line, rawInt pos.col, .ref cc] ∧ ∃ (vs : Array Value) (t : Tok), oc.data = .fields vs ∧ vs[1]? = some (.str qual t))
noncomputable def TabR3 (h₀ : Heap) (pos : Pos) (qual : Str) (ps : Array Value) (cc : Addr) (oc : Obj) : Prop := TabR pos qual ps cc oc ∨ ∃ c0, ps = #[rawInt pos.line, rawInt pos.col, .ref c0] ∧ h₀.CodeRec (.ref c0) qual
section
variable {M : Model} {A : Around} {E : Value → Shared → Prop} {s : Shared} {h₀ : Heap} {L a c P cc : Addr} {m mg mb : Str → Option Value} {cn : Str} {cs : Scope} {ccd : Value} {cl : List (Str × Addr)} {rest : List (Addr × Obj)} {oc : Obj}
  {p : Program} {loose : List Str} {mean : ExcName → Option Value} {name qual : Str} {params : Arguments} {body : PySem.Expr} {scope : Scope} {ps : Array Value} {pos : Pos} {firstLine : Nat} {clos : List (Str × Addr)}
theorem lam_make {Q : Value → Shared → Prop} (AA : List Addr) (F : Fr h₀ L s.heap m) (N : News h₀ L s.heap ((P, tabObj ps) :: (cc, oc) :: rest)) (T : Top p loose mean mg mb h₀) (C : CodeHd h₀ c P) (hcd : ccd = .ref c)
    (hcP : cc ≠ P) (hrP : ∀ q ∈ rest, q.1 ≠ P) (R : TabR pos qual ps cc oc) (hAA : ∀ b ∈ AA, b ≠ cc ∧ ∃ o, (b, o) ∈ rest)
    (hcl : closureFor scope (envX cn cs L a ccd cl) = pure clos)
    (h : ∀ f c' oc' ctv ps' h' tk, Fr h₀ L h' m → News h₀ L h' ((f, kla_obj name qual params body scope clos ((mg "__name__").getD .none) c' ctv) :: (P, tabObj ps') :: (c', oc') :: rest) → TabR pos qual ps' c' oc' → h'.CodeRec (.ref c') qual → c' ≠ P → f ≠ P → f ≠ c' → (∀ b ∈ AA, b ≠ c' ∧ b ≠ f) →
      (∀ q ∈ rest, q.1 ≠ f) → Q (.ref f) { s with heap := h', toks := tk }) :
    wpAny M A (makeFunction name qual params (.expr body) scope (envX cn cs L a ccd cl) [] [] [] pos firstLine) Q E s := by
  have hPl : ∀ q ∈ (cc, oc) :: rest, q.1 ≠ P := fun q hq => by
    rcases List.mem_cons.mp hq with rfl | hq
    · exact hcP
    · exact hrP q hq
  rcases R with rfl | ⟨rfl, vs, t, hd, hv⟩
  · refine kla_nest F N T C hcd (.head hPl) (by first | exact True.intro | (simp [TriplesOk, rawInt]; done)) (by first | rfl | (simp [codeAmong, rawInt]; done)) hcl fun f c' oc' vs t ctv h' tk F' N' hd hv lt lt2 => ?_
    have ltn : ∀ q ∈ (P, tabObj #[]) :: (cc, oc) :: rest, @LT.lt Nat _ q.1 c' := lt
    refine h f c' oc' ctv _ h' tk F' (fun q hq => N' q ?_) (.inr ⟨rfl, vs, t, hd, hv⟩) ⟨c', oc', vs, t, rfl, (N' _ (.tail _ (.head _))).1, hd, hv⟩ (Nat.ne_of_gt (ltn _ (.head _))) (Nat.ne_of_gt (Nat.lt_trans (ltn _ (.head _)) lt2)) (Nat.ne_of_gt lt2) (fun b hb => ?_) (fun q hq => Nat.ne_of_lt (Nat.lt_trans (ltn q (.tail _ (.tail _ hq))) lt2))
    · rcases List.mem_cons.mp hq with rfl | hq
      · exact .head _
      · rcases List.mem_cons.mp hq with rfl | hq
        · exact .tail _ (.tail _ (.head _))
        · rcases List.mem_cons.mp hq with rfl | hq
          · exact .tail _ (.head _)
          · exact .tail _ (.tail _ (.tail _ (.tail _ hq)))
    · obtain ⟨o, ho⟩ := (hAA b hb).2
      have := ltn _ (.tail _ (.tail _ ho))
      exact ⟨Nat.ne_of_lt this, Nat.ne_of_lt (Nat.lt_trans this lt2)⟩
  · refine kla_hit F N T C hcd (.head _) (by first | exact True.intro | (simp [TriplesOk, rawInt]; done)) (c' := cc) (by first | rfl | (simp [codeAmong, rawInt]; done)) hcl fun f ctv h' tk F' N' lt => ?_
    have ltn : ∀ q ∈ (P, tabObj #[rawInt pos.line, rawInt pos.col, .ref cc]) :: (cc, oc) :: rest, @LT.lt Nat _ q.1 f := lt
    refine h f cc oc ctv _ h' tk F' N' (.inr ⟨rfl, vs, t, hd, hv⟩) ⟨cc, oc, vs, t, rfl, (N' _ (.tail _ (.tail _ (.head _)))).1, hd, hv⟩ hcP (Nat.ne_of_gt (ltn _ (.head _))) (Nat.ne_of_gt (ltn _ (.tail _ (.head _)))) (fun b hb => ?_) (fun q hq => Nat.ne_of_lt (ltn q (.tail _ (.tail _ hq))))
    obtain ⟨o, ho⟩ := (hAA b hb).2
    exact ⟨(hAA b hb).1, Nat.ne_of_lt (ltn _ (.tail _ (.tail _ ho)))⟩
theorem lam_make3 {Q : Value → Shared → Prop} (AA : List Addr) (F : Fr h₀ L s.heap m) (N : News h₀ L s.heap ((P, tabObj ps) :: (cc, oc) :: rest)) (T : Top p loose mean mg mb h₀) (C : CodeHd h₀ c P) (hcd : ccd = .ref c)
    (hcP : cc ≠ P) (hrP : ∀ q ∈ rest, q.1 ≠ P) (R : TabR3 h₀ pos qual ps cc oc) (hAA : ∀ b ∈ AA, b ≠ cc ∧ ∃ o, (b, o) ∈ rest)
    (hcl : closureFor scope (envX cn cs L a ccd cl) = pure clos)
    (h : ∀ f c' cc' oc' ctv ps' h' tk, Fr h₀ L h' m → News h₀ L h' ((f, kla_obj name qual params body scope clos ((mg "__name__").getD .none) c' ctv) :: (P, tabObj ps') :: (cc', oc') :: rest) → TabR3 h₀ pos qual ps' cc' oc' → h'.CodeRec (.ref c') qual → cc' ≠ P → f ≠ P → f ≠ cc' → (∀ b ∈ AA, b ≠ c' ∧ b ≠ cc' ∧ b ≠ f) →
      (∀ q ∈ rest, q.1 ≠ f) → Q (.ref f) { s with heap := h', toks := tk }) :
    wpAny M A (makeFunction name qual params (.expr body) scope (envX cn cs L a ccd cl) [] [] [] pos firstLine) Q E s := by
  rcases R with R | ⟨c0, rfl, hc0⟩
  · exact lam_make AA F N T C hcd hcP hrP R hAA hcl fun f c' oc' ctv ps' h' tk F' N' R' hc e1 e2 e3 hA hr => h f c' c' oc' ctv ps' h' tk F' N' (.inl R') hc e1 e2 e3 (fun b hb => ⟨(hA b hb).1, (hA b hb).1, (hA b hb).2⟩) hr
  · refine kla_hit F N T C hcd (.head _) (by first | exact True.intro | (simp [TriplesOk, rawInt]; done)) (c' := c0) (by first | rfl | (simp [codeAmong, rawInt]; done)) hcl fun f ctv h' tk F' N' lt => ?_
    have ltn : ∀ q ∈ (P, tabObj #[rawInt pos.line, rawInt pos.col, .ref c0]) :: (cc, oc) :: rest, @LT.lt Nat _ q.1 f := lt
    refine h f c0 cc oc ctv _ h' tk F' N' (.inr ⟨c0, rfl, hc0⟩) (codeRec_keeps hc0 F'.keep) hcP (Nat.ne_of_gt (ltn _ (.head _))) (Nat.ne_of_gt (ltn _ (.tail _ (.head _)))) (fun b hb => ?_) (fun q hq => Nat.ne_of_lt (ltn q (.tail _ (.tail _ hq))))
    obtain ⟨o, ho⟩ := (hAA b hb).2
    refine ⟨fun e => ?_, (hAA b hb).1, Nat.ne_of_lt (ltn _ (.tail _ (.tail _ ho)))⟩
    obtain ⟨c2, oc2, _, _, e2, e3, _⟩ := hc0
    cases e2
    have := (N _ (.tail _ (.tail _ ho))).2.2
    rw [show (b, o).1 = c0 from e, e3] at this
    cases this
end
theorem lent_code {w : World} {h : Heap} (X : (Mine.hd.heap_1 w.params).In h) : CodeHd h 136 134 :=
  ⟨_, _, _, _, _, _, _, _, _, X 136 _ (by rfl), rfl, rfl, rfl, rfl, rfl, rfl, rfl, rfl, by decide⟩
noncomputable def TabAt (pos : Pos) (qual : Str) (h : Heap) (o : Obj) : Prop := ∃ ps, o = tabObj ps ∧ (ps = #[] ∨ ∃ c1, ps = #[rawInt pos.line, rawInt pos.col, .ref c1] ∧ h.CodeRec (.ref c1) qual)
theorem TabAt.start {pos : Pos} {qual : Str} {h : Heap} {P cc : Addr} {o oc : Obj} (x : TabAt pos qual h o) (hP : h.get? P = some o) : ∃ ps, o = tabObj ps ∧ TabR3 (hideAll h [P]) pos qual ps cc oc := by
  obtain ⟨ps, rfl, rfl | ⟨c1, rfl, c2, oc2, vs, t, e, e3, hd, hv⟩⟩ := x
  · exact ⟨_, rfl, .inl (.inl rfl)⟩
  · cases e
    refine ⟨_, rfl, .inr ⟨c1, rfl, c1, oc2, vs, t, rfl, hideAll_get [P] e3 (fun q => ?_), hd, hv⟩⟩
    rw [List.mem_singleton.mp q, hP] at e3
    cases e3
    injection hd with hd
    subst hd
    cases hv
theorem SeqS.hide {src : Option (List Value)} {h : Heap} {av : Value} {ns : List Int} {P : Addr} {ps : Array Value} (x : SeqS src h av ns) (hP : h.get? P = some (tabObj ps)) : SeqS src (hideAll h [P]) av ns := by
  cases src with
  | some avs =>
    obtain ⟨l, rfl, ⟨o, e, hc, r⟩, hi⟩ := x
    refine ⟨l, rfl, ⟨o, hideAll_get [P] e (fun q => ?_), hc, r⟩, hi⟩
    rw [List.mem_singleton.mp q, hP] at e
    cases e
    cases hc
  | none => exact x
noncomputable def SrcOk (src : Option (List Value)) : Prop := match src with | some avs => TokOk avs | none => True
theorem HOk.nil {src : Option (List Value)} {tk : Nat} (x : SrcOk src) : HOk src [] tk := by
  cases src with
  | some avs => exact And.intro x (fun v m => absurd m List.not_mem_nil)
  | none => exact And.intro ⟨fun _ _ m => absurd m List.not_mem_nil, fun _ _ m => absurd m List.not_mem_nil, fun _ _ _ _ m => absurd m List.not_mem_nil⟩ (fun _ _ m => absurd m List.not_mem_nil)
end

theorem order_of {h : Heap} {x d l p q : Addr} {side : Int} {hs : Int} {t t1 t2 t3 t4 : Tok} {n : Nat} (hx : h.get? x = some (instObj 38 d)) (hd : h.get? d = some (dictOf [{ hash := hs, key := .str (Str.ofString "comp_select_list") t, val := .ref l }] n))
    (hl : h.get? l = some (listOf #[.ref p, .ref q] 0)) (hp : h.get? p = some { cls := .type "tuple", data := .seq #[.int 0 t1, .int (-1) t2] }) (hq : h.get? q = some { cls := .type "tuple", data := .seq #[.int 1 t3, .int side t4] }) : Order h x side := by
  refine ⟨_, dictOf [{ hash := hs, key := .str (Str.ofString "comp_select_list") t, val := .ref l }] n, l, p, q, ⟨hx, rfl, rfl, hd⟩, ?_, ?_, ⟨_, hl, rfl, _, rfl⟩, ⟨t1, t2, _, hp, rfl, _, rfl⟩, ⟨t3, t4, _, hq, rfl, _, rfl⟩⟩
  · rw [lookIn_dict]; rfl
  · rw [lookIn_dict]; rfl
theorem rows_of {G : Int → List Int} {es : List (Addr × Obj)} : ∀ {ks : List Int}, RowsIn G ks es → es.length = ks.length ∧ ∀ (i : Nat) (k : Int), ks[i]? = some k → ∃ r o, es[i]? = some (r, o) ∧ LObj o (G k) := by
  intro ks h
  induction h with
  | nil => exact ⟨rfl, fun i k h => by cases h⟩
  | @snoc ks es k r o hr hL ih =>
    refine ⟨by simp [ih.1], fun i j hi => ?_⟩
    by_cases hlt : i < ks.length
    · rw [List.getElem?_append_left hlt] at hi
      obtain ⟨r', o', e, hL'⟩ := ih.2 i j hi
      exact ⟨r', o', by rw [List.getElem?_append_left (by rw [ih.1]; exact hlt)]; exact e, hL'⟩
    · have hil : i < (ks ++ [k]).length := (List.getElem?_eq_some_iff.mp hi).1
      rw [List.length_append, List.length_singleton] at hil
      have hi2 : i = ks.length := by omega
      subst hi2
      rw [List.getElem?_append_right (Nat.le_refl _), Nat.sub_self] at hi
      cases hi
      exact ⟨r, o, by rw [← ih.1, List.getElem?_append_right (Nat.le_refl _), Nat.sub_self]; rfl, hL⟩

noncomputable def Stands (fz : List (Addr × Obj)) (h : Heap) : Prop := ∀ p ∈ fz, h.get? p.1 = some p.2
theorem lent_freeze {g h : Heap} {L x d l p q : Addr} {e1 e2 e3 e4 e5 e6 e7 : Addr × Obj} {fz : List (Addr × Obj)} {side : Int} {hs : Int} {t t1 t2 t3 t4 : Tok} {n : Nat}
    (N : News g L h (e1 :: e2 :: e3 :: (x, instObj 38 d) :: (d, dictOf [{ hash := hs, key := .str (Str.ofString "comp_select_list") t, val := .ref l }] n) :: (l, listOf #[.ref p, .ref q] 0) ::
      (q, ({ cls := .type "tuple", data := .seq #[.int 1 t3, .int side t4] } : Obj)) :: (p, ({ cls := .type "tuple", data := .seq #[.int 0 t1, .int (-1) t2] } : Obj)) :: e4 :: e5 :: e6 :: e7 :: fz)) :
    ∃ fz2, fz2 = (x, instObj 38 d) :: (d, dictOf [{ hash := hs, key := .str (Str.ofString "comp_select_list") t, val := .ref l }] n) :: (l, listOf #[.ref p, .ref q] 0) ::
      (q, ({ cls := .type "tuple", data := .seq #[.int 1 t3, .int side t4] } : Obj)) :: (p, ({ cls := .type "tuple", data := .seq #[.int 0 t1, .int (-1) t2] } : Obj)) :: fz ∧
      News g L h (e1 :: e2 :: e3 :: e4 :: e5 :: e6 :: e7 :: fz2) ∧ (∀ h', Stands fz2 h' → Order h' x side) ∧ ∀ z ∈ fz, z ∈ fz2 := by
  refine ⟨_, rfl, (pickAll N [0, 1, 2, 8, 9, 10, 11, 3, 4, 5, 6, 7] 12 :), fun h' S => ?_, fun z hz => ?_⟩
  · exact order_of (S _ (.head _)) (S _ (.tail _ (.head _))) (S _ (.tail _ (.tail _ (.head _)))) (S _ (.tail _ (.tail _ (.tail _ (.tail _ (.head _)))))) (S _ (.tail _ (.tail _ (.tail _ (.head _)))))
  · exact .tail _ (.tail _ (.tail _ (.tail _ (.tail _ hz))))
theorem stands_of {g h : Heap} {L : Addr} {nx fz : List (Addr × Obj)} (N : News g L h nx) (s : ∀ z ∈ fz, z ∈ nx) : Stands fz h := fun z hz => (N z (s z hz)).1

section
noncomputable def TurnO (h₀ : Heap) (L : Addr) (p : Addr × Obj) (Jn : (Str → Option Value) → List (Addr × Obj) → Nat → Prop) (s₁ : Shared) (Q : Flow → Shared → Prop) (f : Flow) (s₂ : Shared) : Prop :=
  match f with
  | .ret v => Q (.ret v) s₂
  | .brk => Q .next s₂
  | _ => ∃ h' tk m' nx', s₂ = { s₁ with heap := h', toks := tk } ∧ Fr h₀ L h' m' ∧ News h₀ L h' (p :: nx') ∧ (∀ q ∈ nx', q.1 ≠ p.1) ∧ (s₁.toks ≤ tk → Jn m' nx' tk)
noncomputable def NotCode (o : Obj) : Prop := ∀ vs q t, o.data = .fields vs → vs[1]? ≠ some (.str q t)
section
variable {w : World} {A : Around} {E : Value → Shared → Prop} {s : Shared} {env : Env} {h₀ : Heap} {x : Str} {px : Pos} {body : List Stmt} {Q : Flow → Shared → Prop} {m₀ : Str → Option Value} {nx₀ : List (Addr × Obj)}
theorem TurnO.nextS {L : Addr} {p : Addr × Obj} {Jn : (Str → Option Value) → List (Addr × Obj) → Nat → Prop} {s₁ : Shared} {h' : Heap} {tk : Nat} {m' : Str → Option Value} {all : List (Addr × Obj)} (nx' : List (Addr × Obj)) (F : Fr h₀ L h' m') (N : News h₀ L h' all) (s : ∀ q ∈ p :: nx', q ∈ all) (o : ∀ q ∈ nx', q.1 ≠ p.1) (j : s₁.toks ≤ tk → Jn m' nx' tk) :
    TurnO h₀ L p Jn s₁ Q .next { s₁ with heap := h', toks := tk } := ⟨h', tk, m', nx', rfl, F, fun q hq => N q (s q hq), o, j⟩
theorem TurnO.nextN {L : Addr} {p : Addr × Obj} {Jn : (Str → Option Value) → List (Addr × Obj) → Nat → Prop} {s₁ : Shared} {h' : Heap} {tk : Nat} {m' : Str → Option Value} {nx' : List (Addr × Obj)} (F : Fr h₀ L h' m') (N : News h₀ L h' (p :: nx')) (o : ∀ q ∈ nx', q.1 ≠ p.1) (j : s₁.toks ≤ tk → Jn m' nx' tk) :
    TurnO h₀ L p Jn s₁ Q .next { s₁ with heap := h', toks := tk } := ⟨h', tk, m', nx', rfl, F, N, o, j⟩
theorem TurnO.contS {L : Addr} {p : Addr × Obj} {Jn : (Str → Option Value) → List (Addr × Obj) → Nat → Prop} {s₁ : Shared} {h' : Heap} {tk : Nat} {m' : Str → Option Value} {all : List (Addr × Obj)} (nx' : List (Addr × Obj)) (F : Fr h₀ L h' m') (N : News h₀ L h' all) (s : ∀ q ∈ p :: nx', q ∈ all) (o : ∀ q ∈ nx', q.1 ≠ p.1) (j : s₁.toks ≤ tk → Jn m' nx' tk) :
    TurnO h₀ L p Jn s₁ Q .cont { s₁ with heap := h', toks := tk } := ⟨h', tk, m', nx', rfl, F, fun q hq => N q (s q hq), o, j⟩
inductive LoopO (w : World) (A : Around) (h₀ : Heap) (env : Env) (x : Str) (px : Pos) (body : List Stmt) (Q : Flow → Shared → Prop) (E : Value → Shared → Prop) (it : Value) (s : Shared) : Prop
  | intro (I : Addr) (fp : List Addr) (n : Nat) (P : Nat → Value → Prop) (St : Nat → Heap → Prop) (m₀ : Str → Option Value) (nx₀ : List (Addr × Obj)) (J : Nat → (Str → Option Value) → List (Addr × Obj) → Nat → Prop) (Io : Obj → Prop) (q0 : it = .ref I) (q1 : Walks PR w A I fp [I] n P St) (q2 : h₀.get? I = none) (q3 : env.locals ∉ fp) (q4 : (∀ i h, St i h → ∃ o, h.get? I = some o ∧ Io o)) (q5 : (∀ b ∈ fp, b = I ∨ (∃ q, h₀.get? b = some q) ∨ ∃ q, ∀ i m nx tk, J i m nx tk → (b, q) ∈ nx)) (q6 : (∀ p ∈ nx₀, p.1 ≠ I)) (q7 : St 0 s.heap) (q8 : Fr h₀ env.locals s.heap m₀) (q9 : News h₀ env.locals s.heap nx₀) (q10 : J 0 m₀ nx₀ s.toks) (q11 : (∀ i m nx tk tk', J i m nx tk → tk ≤ tk' → J i m nx tk')) (q12 : (∀ i v m₁ nx h tk o, i < n → P i v → Io o → J i m₁ nx tk → (∀ p ∈ nx, p.1 ≠ I) → Fr h₀ env.locals h m₁ → News h₀ env.locals h ((I, o) :: nx) →
      wpAny (model PR w) A (storeName env x v) (fun _ s₃ => wpAny (model PR w) A (execs body env) (TurnO h₀ env.locals (I, o) (J (i + 1)) { s with heap := h, toks := tk } Q) E s₃) E { s with heap := h, toks := tk })) (q13 : (∀ m₁ nx h tk, J n m₁ nx tk → Fr h₀ env.locals h m₁ → News h₀ env.locals h nx → Q .next { s with heap := h, toks := tk })) : LoopO w A h₀ env x px body Q E it s
inductive OI (s₂ : Shared) (St : Nat → Heap → Prop) (h₀ : Heap) (env : Env) (I : Addr) (J : Nat → (Str → Option Value) → List (Addr × Obj) → Nat → Prop) (n : Nat) (k : Nat) (s' : Shared) : Prop
  | intro (h' : _) (tk : _) (m' : _) (nx' : _) (i : _) (q0 : s' = { s₂ with heap := h', toks := tk }) (q1 : St i h') (q2 : Fr h₀ env.locals h' m') (q3 : News h₀ env.locals h' nx') (q4 : (∀ p ∈ nx', p.1 ≠ I)) (q5 : J i m' nx' tk) (q6 : i ≤ n) (q7 : k = n + 1 - i) : OI s₂ St h₀ env I J n k s'
theorem For_O {iter : PySem.Expr} {pos : Pos} {m : Str → Option Value} (_F : Fr h₀ env.locals s.heap m)
    (h : wpAny (model PR w) A (eval iter env) (fun xv s₁ => wpAny (model PR w) A (pyIter xv) (LoopO w A h₀ env x px body Q E) E s₁) E s)
    (hs : ∀ x, foldedSetIterable iter env x = pure x := by intro _; rfl)
    (hE : PassesOwn (model PR w) A env E := by passes_own) :
    wpAny (model PR w) A (exec (.For (.Name x px) iter body [] pos) env) Q E s := by
  refine wpAny_For (wpAny_mono h (fun xv s₁ h₁ => wpAny_mono h₁ (fun it s₂ h₂ => ?_) fun _ _ e => e) fun _ _ e => e) hs
  obtain ⟨I, fp, n, P, St, m₀, nx₀, J, Io, rfl, W, hI0, hLf, hio, hfp, hoff0, hst, F, N, hj, up, turn, done⟩ := h₂
  have hIw : I ∈ fp := W.sub I (.head _)
  have hIL : I ≠ env.locals := fun e => hLf (e ▸ hIw)
  refine codeAny_forLoop_any
    (OI s₂ St h₀ env I J n) ?_ (n + 1)
    ⟨s₂.heap, s₂.toks, m₀, nx₀, 0, rfl, hst, F, N, hoff0, hj, Nat.zero_le _, rfl⟩
  intro k s' xR1; obtain ⟨h', tk, m', nx', i, rfl, hst', F', N', off, hJ, hi, rfl⟩ := xR1
  have old0 : ∀ b o, h₀.get? b = some o → b ∉ [I] := fun b o e q => by rw [List.mem_singleton.mp q, hI0] at e; cases e
  have next : ∀ h₁ : Heap, (∀ b o, b ∉ [I] → h'.get? b = some o → h₁.get? b = some o) → Fr h₀ env.locals h₁ m' ∧ News h₀ env.locals h₁ nx' := fun h₁ hk₁ =>
    ⟨⟨F'.ns.at' fun o e => hk₁ _ o (fun q => hIL (List.mem_singleton.mp q).symm) e, fun b o e => hk₁ b o (old0 b o e) (F'.keep b o e), F'.above⟩, fun p hp => ⟨hk₁ _ _ (fun q => off p hp (List.mem_singleton.mp q)) (N' p hp).1, (N' p hp).2⟩⟩
  by_cases hlt : i < n
  · refine wpAny_toks (W.item i _ _ _ hlt hst' fun v h₁ tk₁ hP hst₁ hk₁ htk₁ => ?_)
    obtain ⟨F₁, N₁⟩ := next h₁ hk₁
    obtain ⟨o, ho, hIo⟩ := hio _ _ hst₁
    have N₂ : News h₀ env.locals h₁ ((I, o) :: nx') := fun p hp => by
      rcases List.mem_cons.mp hp with rfl | hp
      · exact ⟨ho, hIL, hI0⟩
      · exact N₁ p hp
    have base := turn i v m' nx' h₁ tk₁ o hlt hP hIo (up _ _ _ _ _ hJ htk₁) off F₁ N₂
    show wpAny (model PR w) A (pure ()) _ _ _
    refine wpAny_pure ?_
    refine wpAny_assign_Name ?_
    refine wpAny_passesOwn hE (wpAny_toks (wpAny_mono base (fun _ s₃ hb ht₃ => ?_) fun _ _ e _ => e))
    refine wpAny_toks (wpAny_mono (wpAny_passesOwn hE hb) (fun f s₄ h₄ ht₄ => ?_) fun _ _ e _ => e)
    have fin : (∃ h' tk' m₂ nx₂, s₄ = { s₂ with heap := h', toks := tk' } ∧ Fr h₀ env.locals h' m₂ ∧ News h₀ env.locals h' ((I, o) :: nx₂) ∧ (∀ q ∈ nx₂, q.1 ≠ I) ∧ (tk₁ ≤ tk' → J (i + 1) m₂ nx₂ tk')) →
        ∃ mm, mm < n + 1 - i ∧ OI s₂ St h₀ env I J n mm s₄ := by
      intro xR2; obtain ⟨h₄', tk₄, m₂, nx₂, rfl, F₄, N₄, off₄, hJ₄⟩ := xR2
      have ht := Nat.le_trans ht₃ ht₄
      refine ⟨n + 1 - (i + 1), by omega, h₄', tk₄, m₂, nx₂, i + 1, rfl, ?_, F₄, fun p hp => N₄ p (.tail _ hp), off₄, hJ₄ ht, hlt, rfl⟩
      refine W.frame _ _ _ hst₁ fun b hb ob e => ?_
      rcases hfp b hb with rfl | ⟨q, hq⟩ | ⟨q, hq⟩
      · rw [ho] at e
        rw [← Option.some.inj e]
        exact (N₄ _ (.head _)).1
      · have h6 := F₁.keep b q hq
        rw [e] at h6
        rw [Option.some.inj h6]
        exact F₄.keep b q hq
      · have h6 := (N₁ _ (hq i m' nx' _ hJ)).1
        have h7 : h₁.get? b = some q := h6
        rw [e] at h7
        rw [Option.some.inj h7]
        exact (N₄ _ (.tail _ (hq (i + 1) m₂ nx₂ _ (hJ₄ ht)))).1
    cases f with
    | ret v => exact h₄
    | brk => exact h₄
    | next => exact fin h₄
    | cont => exact fin h₄
  · have hin : i = n := by omega
    subst hin
    refine wpAny_toks (W.done _ _ _ hst' fun h₁ tk₁ hk₁ htk₁ => wpAny_execs_nil ?_)
    obtain ⟨F₁, N₁⟩ := next h₁ hk₁
    exact done m' nx' h₁ tk₁ (up _ _ _ _ _ hJ htk₁) F₁ N₁
theorem rangeP {r : Addr} {a₀ b₀ : Int} {t₀ u₀ v₀ : Tok} {n : Nat} (J : Nat → (Str → Option Value) → List (Addr × Obj) → Nat → Prop)
    (hh : A.handled = none) (hr : IsRange s.heap r a₀ b₀ 1 t₀ u₀ v₀) (hsmall : Builtin.Range.small a₀ b₀ 1 = true) (hn : Builtin.Range.rangeSize a₀ b₀ 1 = (n : Int))
    (F : Fr h₀ env.locals s.heap m₀) (N : News h₀ env.locals s.heap nx₀) (hj : J 0 m₀ nx₀ s.toks) (up : ∀ i m nx tk tk', J i m nx tk → tk ≤ tk' → J i m nx tk')
    (turn : ∀ (i : Nat) t m₁ nx h tk I o, i < n → J i m₁ nx tk → (∀ p ∈ nx, p.1 ≠ I) → NotCode o → Fr h₀ env.locals h m₁ → News h₀ env.locals h ((I, o) :: nx) →
      wpAny (model PR w) A (storeName env x (.int (a₀ + (i : Int)) t)) (fun _ s₃ => wpAny (model PR w) A (execs body env) (TurnO h₀ env.locals (I, o) (J (i + 1)) { s with heap := h, toks := tk } Q) E s₃) E { s with heap := h, toks := tk })
    (done : ∀ m₁ nx h tk, J n m₁ nx tk → Fr h₀ env.locals h m₁ → News h₀ env.locals h nx → Q .next { s with heap := h, toks := tk }) :
    wpAny (model PR w) A (pyIter (.ref r)) (LoopO w A h₀ env x px body Q E) E s := by
  refine wpAny_pyIter_range hr hsmall ?_
  have W : Walks PR w A s.heap.objs.size [s.heap.objs.size] [s.heap.objs.size] n (fun i v => i < n ∧ ∃ t, v = .int (a₀ + i * 1) t)
      (fun i h => IsRangeIter h s.heap.objs.size (a₀ + (i : Nat) * 1) ((n : Int) - (i : Nat)) 1) := (Walks.range hh _ a₀ 1 n).bound
  refine ⟨_, _, n, _, _, m₀, nx₀, J, NotCode, rfl, W, next_is_new F, ?_, (fun i h st => ⟨_, st, fun vs q t e c => by cases e; cases c⟩), (fun b hb => .inl (List.mem_singleton.mp hb)), (fun p hp => Nat.ne_of_lt (Heap.lt_size (N p hp).1)), (by show IsRangeIter _ _ _ _ _; rw [hn]; simpa using Heap.get?_push_size _ rfl), (F.push _), (fun p hp => ⟨Heap.get?_push_of_some _ (N p hp).1, (N p hp).2⟩), hj, up, ?_, ?_⟩
  · intro hm
    exact absurd F.ns.lt ((List.mem_singleton.mp hm) ▸ Nat.lt_irrefl _)
  · intro i v m₁ nx h tk o hi xR3; obtain ⟨_, t, rfl⟩ := xR3; intro hIo hJ hne F₁ N₁
    have e1 : a₀ + (i : Int) * 1 = a₀ + (i : Int) := by omega
    rw [e1]
    exact turn i t m₁ nx h tk _ o hi hJ hne hIo F₁ N₁
  · exact done
theorem rangeO {r : Addr} {a₀ b₀ : Int} {t₀ u₀ v₀ : Tok} {n : Nat} (J : Nat → (Str → Option Value) → List (Addr × Obj) → Nat → Prop)
    (hh : A.handled = none) (hr : IsRange s.heap r a₀ b₀ 1 t₀ u₀ v₀) (hsmall : Builtin.Range.small a₀ b₀ 1 = true) (hn : Builtin.Range.rangeSize a₀ b₀ 1 = (n : Int))
    (F : Fr h₀ env.locals s.heap m₀) (N : News h₀ env.locals s.heap nx₀) (hj : J 0 m₀ nx₀ s.toks) (up : ∀ i m nx tk tk', J i m nx tk → tk ≤ tk' → J i m nx tk')
    (turn : ∀ (i : Nat) t m₁ nx h tk I o, i < n → J i m₁ nx tk → (∀ p ∈ nx, p.1 ≠ I) → Fr h₀ env.locals h m₁ → News h₀ env.locals h ((I, o) :: nx) →
      wpAny (model PR w) A (storeName env x (.int (a₀ + (i : Int)) t)) (fun _ s₃ => wpAny (model PR w) A (execs body env) (TurnO h₀ env.locals (I, o) (J (i + 1)) { s with heap := h, toks := tk } Q) E s₃) E { s with heap := h, toks := tk })
    (done : ∀ m₁ nx h tk, J n m₁ nx tk → Fr h₀ env.locals h m₁ → News h₀ env.locals h nx → Q .next { s with heap := h, toks := tk }) :
    wpAny (model PR w) A (pyIter (.ref r)) (LoopO w A h₀ env x px body Q E) E s :=
  rangeP J hh hr hsmall hn F N hj up (fun i t m₁ nx h tk I o hi hJ hne _ F₁ N₁ => turn i t m₁ nx h tk I o hi hJ hne F₁ N₁) done
theorem listP {l : Addr} {vs : List Value} (J : Nat → (Str → Option Value) → List (Addr × Obj) → Nat → Prop)
    (hh : A.handled = none) (hl : s.heap.IsList l vs.toArray) (hloc : (∃ q, h₀.get? l = some q) ∨ ∃ q, ∀ i m nx tk, J i m nx tk → (l, q) ∈ nx)
    (F : Fr h₀ env.locals s.heap m₀) (N : News h₀ env.locals s.heap nx₀) (hj : J 0 m₀ nx₀ s.toks) (up : ∀ i m nx tk tk', J i m nx tk → tk ≤ tk' → J i m nx tk')
    (turn : ∀ (i : Nat) v m₁ nx h tk I o, vs[i]? = some v → J i m₁ nx tk → (∀ p ∈ nx, p.1 ≠ I) → NotCode o → Fr h₀ env.locals h m₁ → News h₀ env.locals h ((I, o) :: nx) →
      wpAny (model PR w) A (storeName env x v) (fun _ s₃ => wpAny (model PR w) A (execs body env) (TurnO h₀ env.locals (I, o) (J (i + 1)) { s with heap := h, toks := tk } Q) E s₃) E { s with heap := h, toks := tk })
    (done : ∀ m₁ nx h tk, J vs.length m₁ nx tk → Fr h₀ env.locals h m₁ → News h₀ env.locals h nx → Q .next { s with heap := h, toks := tk }) :
    wpAny (model PR w) A (pyIter (.ref l)) (LoopO w A h₀ env x px body Q E) E s := by
  obtain ⟨ol, hol, _⟩ := id hl
  have hne : l ≠ s.heap.objs.size := Nat.ne_of_lt (Heap.lt_size hol)
  refine wpAny_pyIter_list hl ?_
  have W := Walks.list (prog := PR) (w := w) hh s.heap.objs.size l hne vs.toArray
  have hlL : l ≠ env.locals := by
    intro e
    rcases hloc with ⟨q, hq⟩ | ⟨q, hq⟩
    · exact absurd (Nat.lt_of_lt_of_le (Heap.lt_size hq) F.above) (e ▸ Nat.lt_irrefl _)
    · exact (N _ (hq _ _ _ _ hj)).2.1 e
  refine ⟨_, _, _, _, _, m₀, nx₀, J, NotCode, rfl, W, next_is_new F, ?_, (fun i h st => let ⟨o, ho, _, hd⟩ := st.1; ⟨o, ho, fun vs q t e c => by rw [hd] at e; cases e; cases c⟩), (fun b hb => ?_), (fun p hp => Nat.ne_of_lt (Heap.lt_size (N p hp).1)), ⟨⟨_, Heap.get?_push_size _ rfl, rfl, rfl⟩, hl.at fun o e => Heap.get?_push_of_some _ e⟩, (F.push _), (fun p hp => ⟨Heap.get?_push_of_some _ (N p hp).1, (N p hp).2⟩), hj, up, ?_, ?_⟩
  · intro hm
    rcases List.mem_cons.mp hm with e | hm
    · exact absurd F.ns.lt (e ▸ Nat.lt_irrefl _)
    · exact hlL (List.mem_singleton.mp hm).symm
  · rcases List.mem_cons.mp hb with e | hb
    · exact .inl e
    · rw [List.mem_singleton.mp hb]; exact .inr hloc
  · rintro i v m₁ nx h tk o hi hP hIo hJ hne F₁ N₁
    exact turn i v m₁ nx h tk _ o (by simpa using hP) hJ hne hIo F₁ N₁
  · intro m₁ nx h tk hJ; exact done m₁ nx h tk (by simpa using hJ)
theorem listO {l : Addr} {vs : List Value} (J : Nat → (Str → Option Value) → List (Addr × Obj) → Nat → Prop)
    (hh : A.handled = none) (hl : s.heap.IsList l vs.toArray) (hloc : (∃ q, h₀.get? l = some q) ∨ ∃ q, ∀ i m nx tk, J i m nx tk → (l, q) ∈ nx)
    (F : Fr h₀ env.locals s.heap m₀) (N : News h₀ env.locals s.heap nx₀) (hj : J 0 m₀ nx₀ s.toks) (up : ∀ i m nx tk tk', J i m nx tk → tk ≤ tk' → J i m nx tk')
    (turn : ∀ (i : Nat) v m₁ nx h tk I o, vs[i]? = some v → J i m₁ nx tk → (∀ p ∈ nx, p.1 ≠ I) → Fr h₀ env.locals h m₁ → News h₀ env.locals h ((I, o) :: nx) →
      wpAny (model PR w) A (storeName env x v) (fun _ s₃ => wpAny (model PR w) A (execs body env) (TurnO h₀ env.locals (I, o) (J (i + 1)) { s with heap := h, toks := tk } Q) E s₃) E { s with heap := h, toks := tk })
    (done : ∀ m₁ nx h tk, J vs.length m₁ nx tk → Fr h₀ env.locals h m₁ → News h₀ env.locals h nx → Q .next { s with heap := h, toks := tk }) :
    wpAny (model PR w) A (pyIter (.ref l)) (LoopO w A h₀ env x px body Q E) E s :=
  listP J hh hl hloc F N hj up (fun i v m₁ nx h tk I o hv hJ hne _ F₁ N₁ => turn i v m₁ nx h tk I o hv hJ hne F₁ N₁) done
end
theorem places_of {fz es : List (Addr × Obj)} {D : Addr} {n : Nat} (hP : (D, listOf (es.map fun e => Value.ref e.1).toArray n) ∈ fz) (hR : ∀ p ∈ es, p ∈ fz) {G : Int → List Int} (h : RowsIn G (rangeKs 0 4) es) :
    ∃ rs : List Addr, rs.length = 4 ∧ ∀ h', Stands fz h' → RLst h' D rs ∧ ∀ j : Nat, j < 4 → Lst h' (geta rs j) (G (j : Int)) := by
  obtain ⟨hl, hr⟩ := rows_of h
  have hl4 : es.length = 4 := hl
  refine ⟨es.map (·.1), by rw [List.length_map]; exact hl4, fun h' S => ⟨⟨_, S _ hP, rfl, n, by rw [List.map_map]; rfl⟩, fun j hj => ?_⟩⟩
  have e : (rangeKs 0 4)[j]? = some ((j : Nat) : Int) := by
    rcases j with _ | _ | _ | _ | j
    · rfl
    · rfl
    · rfl
    · rfl
    · omega
  obtain ⟨r, o, e2, hL⟩ := hr j _ e
  have e3 : geta (es.map (·.1)) j = r := by
    unfold geta
    rw [List.getD_eq_getElem?_getD, List.getElem?_map, e2]; rfl
  rw [e3]
  obtain ⟨vs, k, rfl, hi⟩ := hL
  exact ⟨vs, ⟨_, S (r, listOf vs.toArray k) (hR _ (List.mem_of_getElem? e2)), rfl, k, rfl⟩, hi⟩
theorem Stands.keeps {fz : List (Addr × Obj)} {h h' : Heap} (S : Stands fz h) (k : ∀ b o, h.get? b = some o → h'.get? b = some o) : Stands fz h' := fun p hp => k _ _ (S p hp)
theorem allLt_ne {d : Addr} : ∀ {fz : List (Addr × Obj)}, AllLt d fz → ∀ p ∈ fz, p.1 ≠ d
  | [], _, _, hp => (nomatch hp)
  | q :: r, h, p, hp => by
    rcases List.mem_cons.mp hp with rfl | hp
    · exact Nat.ne_of_lt h.1
    · exact allLt_ne h.2 p hp
theorem offP_ne {d : Addr} : ∀ {fz : List (Addr × Obj)}, offP d fz → ∀ p ∈ fz, p.1 ≠ d
  | [], _, _, hp => (nomatch hp)
  | q :: r, h, p, hp => by
    rcases List.mem_cons.mp hp with rfl | hp
    · exact h.1
    · exact offP_ne h.2 p hp
end

noncomputable def placesOf (ns : List Int) (thing : Int) : List Int := (rangeKs 0 9).filter fun n => geti ns n == thing
noncomputable def bisF (p : Nat → Bool) : Nat → Int → Int → Int
  | 0, lo, _ => lo
  | f + 1, lo, hi => if lo < hi then (if p ((lo + hi).fdiv 2).toNat then bisF p f ((lo + hi).fdiv 2 + 1) hi else bisF p f lo ((lo + hi).fdiv 2)) else lo
theorem bisF_of {q : Nat → Prop} {p : Nat → Bool} (hpq : ∀ k, q k ↔ p k = true) {lo hi r : Int} (h : Bis q lo hi r) : ∀ f : Nat, 0 ≤ lo → (hi - lo).toNat < f → r = bisF p f lo hi := by
  induction h with
  | done h => intro f h0 hf; cases f with
    | zero => rfl
    | succ f => unfold bisF; rw [if_neg h]
  | @up lo hi r h hq _ ih =>
    intro f h0 hf
    have e2 : (lo + hi).fdiv 2 = (lo + hi) / 2 := Int.fdiv_eq_ediv_of_nonneg _ (by omega)
    cases f with
    | zero => omega
    | succ f =>
      unfold bisF
      rw [if_pos h, if_pos ((hpq _).mp hq)]
      exact ih f (by omega) (by omega)
  | @down lo hi r h hq _ ih =>
    intro f h0 hf
    have e2 : (lo + hi).fdiv 2 = (lo + hi) / 2 := Int.fdiv_eq_ediv_of_nonneg _ (by omega)
    cases f with
    | zero => omega
    | succ f =>
      unfold bisF
      rw [if_pos h, if_neg (fun e => hq ((hpq _).mpr e))]
      exact ih f (by omega) (by omega)
noncomputable def spot (side : Int) (line : List (Int × Int)) (x : Int × Int) : Nat := (bisF (fun k => decide (cmpF side (getp line k) x < 0)) (line.length + 1) 0 line.length).toNat
theorem spot_of {side : Int} {line : List (Int × Int)} {x : Int × Int} {r : Int} (h : Bis (fun k => cmpF side (getp line k) x < 0) 0 line.length r) : r.toNat = spot side line x := by
  unfold spot
  rw [← bisF_of (p := fun k => decide (cmpF side (getp line k) x < 0)) (fun k => (decide_eq_true_iff).symm) h (line.length + 1) (Int.le_refl 0) (by omega)]
noncomputable def insK (side : Int) (line : List (Int × Int)) (x : Int × Int) : List (Int × Int) := line.take (spot side line x) ++ x :: line.drop (spot side line x)
noncomputable def nextAt (ns : List Int) (th : Int) (n : Int) : Int := geti (placesOf ns th ++ [9]) (countLe (placesOf ns th) n)
noncomputable def lineOf (side : Int) (ns held : List Int) (n : Int) : List (Int × Int) := held.foldl (fun line th => insK side line (nextAt ns th n, th)) []
noncomputable def outOf (side : Int) (ns held : List Int) (n : Int) : Int := (getp (lineOf side ns held n) 0).2
structure LentSt where
  held : List Int
  came : List (Key × Int)
  went : List (Key × Int)
noncomputable def lentStep (room side : Int) (ns : List Int) (st : LentSt) (n : Int) : LentSt :=
  if st.held.contains (geti ns n) then st
  else if (st.held.length : Int) = room then
    { held := st.held.eraseIdx (st.held.idxOf (outOf side ns st.held n)) ++ [geti ns n], came := addC st.came [(some (geti ns n), 1)], went := addC st.went [(some (outOf side ns st.held n), 1)] }
  else { held := st.held ++ [geti ns n], came := addC st.came [(some (geti ns n), 1)], went := st.went }
noncomputable def lentAt (room side : Int) (ns : List Int) (i : Nat) : LentSt := (rangeKs 0 i).foldl (lentStep room side ns) ⟨[], [], []⟩
theorem lentAt_succ (room side : Int) (ns : List Int) (i : Nat) : lentAt room side ns (i + 1) = lentStep room side ns (lentAt room side ns i) (0 + (i : Int)) := by
  unfold lentAt; rw [rangeKs_succ, List.foldl_append]; rfl
theorem rangeKs_mem {n : Nat} {k : Int} (h : k ∈ rangeKs 0 n) : 0 ≤ k ∧ k < n := by
  unfold rangeKs at h
  obtain ⟨i, hi, rfl⟩ := List.mem_map.mp h
  have := List.mem_range.mp hi
  omega
noncomputable abbrev lamPos : Pos := ⟨134, 44, 134, 80⟩
noncomputable abbrev lamQual : Str := (envOfC (Str.ofString "_law_lent") lamScope 0 0 .none).qual ++ Str.ofString "<lambda>"
theorem lentAt_len (room side : Int) (ns : List Int) : ∀ i, (lentAt room side ns i).held.length ≤ i ∧ (lentAt room side ns i).came.length ≤ i ∧ (lentAt room side ns i).went.length ≤ i
  | 0 => ⟨Nat.le_refl _, Nat.le_refl _, Nat.le_refl _⟩
  | i + 1 => by
    obtain ⟨a, b, c⟩ := lentAt_len room side ns i
    rw [lentAt_succ]
    unfold lentStep
    have l1 := addC_length (lentAt room side ns i).came [(some (geti ns (0 + (i : Int))), 1)]
    have l2 := addC_length (lentAt room side ns i).went [(some (outOf side ns (lentAt room side ns i).held (0 + (i : Int))), 1)]
    have l3 := List.length_eraseIdx_le (lentAt room side ns i).held ((lentAt room side ns i).held.idxOf (outOf side ns (lentAt room side ns i).held (0 + (i : Int))))
    simp only [List.length_cons, List.length_nil] at l1 l2
    split
    · exact ⟨by omega, by omega, by omega⟩
    · split
      · refine ⟨?_, ?_, ?_⟩
        · simp only [List.length_append, List.length_cons, List.length_nil]; omega
        · show (addC _ _).length ≤ _; omega
        · show (addC _ _).length ≤ _; omega
      · refine ⟨?_, ?_, ?_⟩
        · simp only [List.length_append, List.length_cons, List.length_nil]; omega
        · show (addC _ _).length ≤ _; omega
        · show (lentAt room side ns i).went.length ≤ _; omega
theorem geti_mem {ns : List Int} {k : Int} (h0 : 0 ≤ k) (h1 : k < (ns.length : Int)) : geti ns k ∈ ns := by
  have hlt : k.toNat < ns.length := by omega
  unfold geti
  rw [List.getD_eq_getElem?_getD, List.getElem?_eq_getElem hlt]
  exact List.getElem_mem hlt
theorem lentAt_held {room side : Int} {ns : List Int} {i : Nat} (hi : i ≤ ns.length) : ∀ x ∈ (lentAt room side ns i).held, x ∈ ns := by
  induction i with
  | zero => intro x h; cases h
  | succ i ih =>
    have hm : geti ns (0 + (i : Int)) ∈ ns := geti_mem (by omega) (by omega)
    intro x h
    rw [lentAt_succ] at h
    unfold lentStep at h
    split at h
    · exact ih (by omega) x h
    · split at h
      · rcases List.mem_append.mp h with h | h
        · exact ih (by omega) x (List.mem_of_mem_eraseIdx h)
        · rw [List.mem_singleton.mp h]; exact hm
      · rcases List.mem_append.mp h with h | h
        · exact ih (by omega) x h
        · rw [List.mem_singleton.mp h]; exact hm
theorem placesOf_sorted (ns : List Int) (th : Int) : (placesOf ns th).Pairwise (· ≤ ·) := by
  unfold placesOf
  exact List.Pairwise.filter _ (by decide)
theorem placesOf_len (ns : List Int) (th : Int) : (placesOf ns th).length ≤ 9 := by
  unfold placesOf
  exact List.length_filter_le _ _
structure LineAt (h : Heap) (vs : List Value) (ts : List Addr) (ps : List (Int × Int)) : Prop where
  len : ts.length = ps.length
  at_ : ∀ (k : Nat) (p : Addr) (x : Int × Int), ts[k]? = some p → ps[k]? = some x → ∃ t u, h.IsTuple p #[.int x.1 t, .int x.2 u] ∧ Value.int x.2 u ∈ vs
theorem LineAt.keeps {h h' : Heap} {vs : List Value} {ts : List Addr} {ps : List (Int × Int)} (x : LineAt h vs ts ps) (k : ∀ b o, h.get? b = some o → h'.get? b = some o) : LineAt h' vs ts ps :=
  ⟨x.len, fun i p y e f => by obtain ⟨t, u, ⟨o, e2, r⟩, m⟩ := x.at_ i p y e f; exact ⟨t, u, ⟨o, k _ _ e2, r⟩, m⟩⟩
theorem LineAt.nil {h : Heap} {vs : List Value} : LineAt h vs [] [] := ⟨rfl, fun _ _ _ e => by cases e⟩
theorem LineAt.pairs {h : Heap} {vs : List Value} {ts : List Addr} {ps : List (Int × Int)} (x : LineAt h vs ts ps) : Pairs h ts ps := by
  refine ⟨x.len, fun k hk => ?_⟩
  have hk2 : k < ps.length := x.len ▸ hk
  obtain ⟨t, u, i, _⟩ := x.at_ k ts[k] ps[k] (List.getElem?_eq_getElem hk) (List.getElem?_eq_getElem hk2)
  unfold geta getp
  rw [List.getD_eq_getElem?_getD, List.getD_eq_getElem?_getD, List.getElem?_eq_getElem hk, List.getElem?_eq_getElem hk2]
  exact ⟨t, u, i⟩
theorem ins_get {α : Type} (l : List α) (r : Nat) (hr : r ≤ l.length) (a : α) (k : Nat) : (l.take r ++ a :: l.drop r)[k]? = if k < r then l[k]? else if k = r then some a else l[k - 1]? := by
  rw [List.getElem?_append]
  have e : (l.take r).length = r := by rw [List.length_take]; omega
  rw [e]
  by_cases h : k < r
  · rw [if_pos h, if_pos h, List.getElem?_take, if_pos h]
  · rw [if_neg h, if_neg h]
    by_cases h2 : k = r
    · subst h2; simp
    · rw [if_neg h2]
      obtain ⟨j, rfl⟩ : ∃ j, k = r + (j + 1) := ⟨k - r - 1, by omega⟩
      have e1 : r + (j + 1) - r = j + 1 := by omega
      have e2 : r + (j + 1) - 1 = r + j := by omega
      rw [e1, e2, List.getElem?_cons_succ, List.getElem?_drop]
theorem LineAt.ins {h : Heap} {vs : List Value} {ts : List Addr} {ps : List (Int × Int)} (x : LineAt h vs ts ps) {r : Nat} (hr : r ≤ ts.length) {p : Addr} {y : Int × Int} {t u : Tok} (hp : h.IsTuple p #[.int y.1 t, .int y.2 u]) (hm : Value.int y.2 u ∈ vs) :
    LineAt h vs (ts.take r ++ p :: ts.drop r) (ps.take r ++ y :: ps.drop r) := by
  have hr2 : r ≤ ps.length := x.len ▸ hr
  refine ⟨by simp [x.len], fun k q z e f => ?_⟩
  rw [ins_get _ _ hr] at e
  rw [ins_get _ _ hr2] at f
  by_cases h1 : k < r
  · rw [if_pos h1] at e f; exact x.at_ k q z e f
  · rw [if_neg h1] at e f
    by_cases h2 : k = r
    · rw [if_pos h2] at e f; cases e; cases f; exact ⟨t, u, hp, hm⟩
    · rw [if_neg h2] at e f; exact x.at_ (k - 1) q z e f

section
theorem led_at {g h : Heap} {L a : Addr} {o : Obj} {nx : List (Addr × Obj)} {k : Obj → List (Addr × Obj)} (N : News g L h nx) (U : UpdF a o nx k) : h.get? a = some o := by
  obtain ⟨own, rest, rfl, _⟩ := U.split; exact (N _ (List.mem_append_right _ (.head _))).1
theorem stands_hide {fz : List (Addr × Obj)} {h : Heap} {l : Addr} (S : Stands fz h) (k : ∀ p ∈ fz, p.1 ≠ l) : Stands fz (hideAll h [l]) := fun p hp => hideAll_get [l] (S p hp) fun q => k p hp (List.mem_singleton.mp q)
theorem Bis.le {p : Nat → Prop} {lo hi r : Int} (h : Bis p lo hi r) (h0 : lo ≤ hi) (h1 : 0 ≤ lo) : r ≤ hi := by
  induction h with
  | done h => omega
  | @up lo hi r h hq _ ih =>
    have e2 : (lo + hi).fdiv 2 = (lo + hi) / 2 := Int.fdiv_eq_ediv_of_nonneg _ (by omega)
    exact ih (by omega) (by omega)
  | @down lo hi r h hq _ ih =>
    have e2 : (lo + hi).fdiv 2 = (lo + hi) / 2 := Int.fdiv_eq_ediv_of_nonneg _ (by omega)
    exact Int.le_trans (ih (by omega) (by omega)) (by omega)
section
variable {w : World} {s : Shared} {loose : List Str} {mean : ExcName → Option Value} {mg mb : Str → Option Value} {dp un n : Nat} {gd : Option (List Code)} {cn : Str} {cs : Scope} {a : Addr} {ccd : Value} {cl : List (Str × Addr)} {outer : List Env} {A₀ : Around} {base h₀ : Heap} {L : Addr} {m : Str → Option Value} {nx : List (Addr × Obj)}
  {Q E : Value → Shared → Prop} {o : Obj} {g : Obj → List (Addr × Obj)}
theorem use_iaddV {l b : Addr} {vs us : List Value} {ns ms : List Int} {ob : Obj} (B : Below A₀ base outer h₀) (F : Fr h₀ L s.heap m) (X : (Mine.hd.heap_1 w.params).In h₀) (N : News h₀ L s.heap nx) (T : Top topProg loose mean mg mb h₀) (hk : cs.kind = .function) (hd : dp + 1 < recursionLimit) (hu : un + 8 * 1 + 200 < cLine)
    (U : UpdF l o nx g) (hL : LV o vs ns) (hne : (@Ne Nat b l)) (hb : (b, ob) ∈ nx) (hM : LV ob us ms) (hz : ns.length + ms.length ≤ 900)
    (h : ∀ h' tk' o', s.toks ≤ tk' → Fr h₀ L h' m → News h₀ L h' (g o') → LV o' (vs ++ us) (ns ++ ms) → (∀ b o, b ≠ l → s.heap.get? b = some o → h'.get? b = some o) → Q (.ref l) { s with heap := h', toks := tk' }) :
    wpAny (model PR w) (ktrTop dp un gd cn cs L a ccd cl outer) (call (.ref 118) [.ref l, .ref b] []) Q E s :=
  wpAny_toks (CallUpd.use (Q := fun v s' => s.toks ≤ s'.toks → Q v s') (iaddV_ok w s l b vs us ns ms ob hz hne (fun o' e => by rw [led_at N U] at e; exact Option.some.inj e ▸ hL) (N _ hb).1 hM) B F X N U T hk hd hu fun v h' tk' o' F' N' keep hv ht => by
    obtain ⟨rfl, hL'⟩ := hv
    exact h h' tk' o' ht F' N' hL' keep)
theorem use_delV {l : Addr} {vs : List Value} {ns : List Int} {k : Int} {t : Tok} (B : Below A₀ base outer h₀) (F : Fr h₀ L s.heap m) (X : (Mine.hd.heap_1 w.params).In h₀) (N : News h₀ L s.heap nx) (T : Top topProg loose mean mg mb h₀) (hk : cs.kind = .function) (hd : dp + 1 < recursionLimit) (hu : un + 8 * 1 + 200 < cLine)
    (U : UpdF l o nx g) (hL : LV o vs ns) (h0 : 0 ≤ k) (h1 : k < (ns.length : Int)) (hz : ns.length ≤ 900)
    (h : ∀ h' tk' o', Fr h₀ L h' m → News h₀ L h' (g o') → LV o' (vs.eraseIdx k.toNat) (ns.eraseIdx k.toNat) → (∀ b o, b ≠ l → s.heap.get? b = some o → h'.get? b = some o) → Q .none { s with heap := h', toks := tk' }) :
    wpAny (model PR w) (ktrTop dp un gd cn cs L a ccd cl outer) (call (.ref 97) [.ref l, .int k t] []) Q E s :=
  CallUpd.use (delV_ok w s l vs ns k t h0 h1 hz (fun o' e => by rw [led_at N U] at e; exact Option.some.inj e ▸ hL)) B F X N U T hk hd hu fun v h' tk' o' F' N' keep hv => by
    obtain ⟨rfl, hL'⟩ := hv
    exact h h' tk' o' F' N' hL' keep
theorem use_idx {l : Addr} {vs : List Value} {nv : Nat} {ns : List Int} {k : Int} {t : Tok} (B : Below A₀ base outer h₀) (F : Fr h₀ L s.heap m) (X : (Mine.hd.heap_1 w.params).In h₀) (N : News h₀ L s.heap nx) (T : Top topProg loose mean mg mb h₀) (hk : cs.kind = .function) (hd : dp + 1 < recursionLimit) (hu : un + 8 * 1 + 200 < cLine)
    (hm : (l, listOf vs.toArray nv) ∈ nx) (hi : IntsAre vs ns) (ht : TokOk vs) (hkm : Value.int k t ∈ vs)
    (h : ∀ t h' tk', Fr h₀ L h' m → News h₀ L h' nx → (∀ b o, s.heap.get? b = some o → h'.get? b = some o) → Q (.int (ns.idxOf k : Nat) t) { s with heap := h', toks := tk' }) :
    wpAny (model PR w) (ktrTop dp un gd cn cs L a ccd cl outer) (call (.ref 104) [.ref l, .int k t] []) Q E s :=
  CallOk.use (indexOf_ok w s l vs nv ns k t (N _ hm).1 hi ht hkm) B F X N T hk hd hu fun v h' tk' F' N' keep hv => by
    obtain ⟨t, rfl⟩ := hv
    exact h t h' tk' F' N' keep
theorem use_insort {l p f : Addr} {ts : List Addr} {ps : List (Int × Int)} {side : Int} {y : Int × Int} (B : Below A₀ base outer h₀) (F : Fr h₀ L s.heap m) (X : (Mine.hd.heap_1 w.params).In h₀) (N : News h₀ L s.heap nx) (T : Top topProg loose mean mg mb h₀) (hk : cs.kind = .function) (hd : dp + 4 < recursionLimit) (hu : un + 8 * 4 + 200 < cLine)
    (U : UpdF l o nx g) (hL : RObj o ts) (hlen : ts.length ≤ 100) (P : Pairs (hideAll s.heap [l]) ts ps) (R : Pair (hideAll s.heap [l]) p y) (Z : LamAt (hideAll s.heap [l]) f side y)
    (h : ∀ h' tk' o', Fr h₀ L h' m → News h₀ L h' (g o') → RObj o' (ts.take (spot side ps y) ++ p :: ts.drop (spot side ps y)) → spot side ps y ≤ ts.length → Q .none { s with heap := h', toks := tk' }) :
    wpAny (model PR w) (ktrTop dp un gd cn cs L a ccd cl outer) (call (.ref 74) [.ref l, .ref p] [(Str.ofString "key", .ref f)]) Q E s :=
  CallUpd.use (insort_ok w s l p f ts ps side y hlen (fun o' e => by rw [led_at N U] at e; exact Option.some.inj e ▸ hL) P R Z) B F X N U T hk hd hu fun v h' tk' o' F' N' keep hv => by
    obtain ⟨rfl, r, hB, hR⟩ := hv
    rw [P.len] at hB
    have e := spot_of hB
    rw [e] at hR
    refine h h' tk' o' F' N' hR ?_
    rw [← e, P.len]
    have := hB.le (by omega) (Int.le_refl 0)
    omega
end
noncomputable def PlacesAt (fz : List (Addr × Obj)) (D : Addr) (rs : List Addr) (ns : List Int) : Prop := ∀ h', Stands fz h' → RLst h' D rs ∧ ∀ (j : Nat), j < 4 → Lst h' (geta rs j) (placesOf ns (j : Int))
theorem PlacesAt.sub {fz fz2 : List (Addr × Obj)} {D : Addr} {rs : List Addr} {ns : List Int} (x : PlacesAt fz D rs ns) (k : ∀ h', Stands fz2 h' → Stands fz h') : PlacesAt fz2 D rs ns := fun h' S => x h' (k h' S)
theorem PlacesAt.rl {g h : Heap} {L : Addr} {nx fz : List (Addr × Obj)} {D : Addr} {rs : List Addr} {ns : List Int} (x : PlacesAt fz D rs ns) (N : News g L h nx) (s : ∀ z ∈ fz, z ∈ nx) : RLst h D rs := (x h (stands_of N s)).1
theorem PlacesAt.row {g h : Heap} {L : Addr} {nx fz : List (Addr × Obj)} {D : Addr} {rs : List Addr} {ns : List Int} {k : Int} (x : PlacesAt fz D rs ns) (N : News g L h nx) (s : ∀ z ∈ fz, z ∈ nx) (h0 : 0 ≤ k) (h1 : k ≤ 3) : Lst h (geta rs k.toNat) (placesOf ns k) := by
  have := (x h (stands_of N s)).2 k.toNat (by omega)
  rw [Int.toNat_of_nonneg h0] at this
  exact this
theorem countLe_le (ns : List Int) (x : Int) : countLe ns x ≤ ns.length := List.length_filter_le _ _
theorem name1 {g h : Heap} {L a : Addr} {o : Obj} {r : List (Addr × Obj)} (_N : News g L h ((a, o) :: r)) : ∃ b, b = a := ⟨_, rfl⟩
theorem codeRec_hide {h : Heap} {c l : Addr} {q : Str} (C : h.CodeRec (.ref c) q) (k : c ≠ l) : (hideAll h [l]).CodeRec (.ref c) q := by
  obtain ⟨c2, oc, vs, t, e, e2, r⟩ := C
  cases e
  exact ⟨c, oc, vs, t, rfl, hideAll_get [l] e2 fun e => k (List.mem_singleton.mp e), r⟩
theorem lamAt_of {h : Heap} {f c' cO cP c pr : Addr} {side : Int} {x : Int × Int} {qual : Str} {p p1 p2 p3 p4 p5 : Pos} {pm ctv : Value} {oO oP : Obj} (a1 : h.get? f = some (kla_obj (Str.ofString "<lambda>") qual (lamParams p) (lamBody p1 p2 p3 p4 p5) lamScope [(Str.ofString "pair", cP), (Str.ofString "order", cO)] pm c' ctv))
    (a2 : h.CodeRec (.ref c') qual) (a3 : h.get? cO = some oO) (a4 : oO.data = .cell (some (.ref c))) (a5 : h.get? cP = some oP) (a6 : oP.data = .cell (some (.ref pr))) (a7 : Order h c side) (a8 : Pair h pr x) (a9 : LamBodyOk p1 p2 p3 p4 p5) : LamAt h f side x :=
  ⟨qual, p, p1, p2, p3, p4, p5, cO, cP, c', c, pr, pm, ctv, oO, oP, a1, a2, a3, a4, a5, a6, a7, a8, a9⟩
theorem lent_lam : LamBodyOk ⟨134, 56, 134, 61⟩ ⟨134, 56, 134, 69⟩ ⟨134, 70, 134, 73⟩ ⟨134, 75, 134, 79⟩ ⟨134, 56, 134, 80⟩ := fun _ => ⟨_, by rfl⟩
theorem name3 {g h : Heap} {L a a2 a3 : Addr} {o o2 o3 : Obj} {r : List (Addr × Obj)} (_N : News g L h ((a, o) :: (a2, o2) :: (a3, o3) :: r)) : ∃ p, p = o3 := ⟨_, rfl⟩
theorem ltNe {l : List (Addr × Obj)} {d : Addr} (h : ∀ p ∈ l, p.1 < d) : ∀ p ∈ l, p.1 ≠ d := fun p hp => Nat.ne_of_lt (h p hp)
noncomputable def HeadAt (fz : List (Addr × Obj)) (p : Addr) (b : Int) (vs : List Value) : Prop := ∀ h', Stands fz h' → ∃ a t u, h'.IsTuple p #[.int a t, .int b u] ∧ Value.int b u ∈ vs
theorem head_item {w : World} {A : Around} {E : Value → Shared → Prop} {s : Shared} {g : Heap} {L : Addr} {nx fz : List (Addr × Obj)} {value slice : PySem.Expr} {p : Addr} {b : Int} {vs : List Value} {u : Tok} {Q : Value → Shared → Prop} (H : HeadAt fz p b vs) (N : News g L s.heap nx) (hs9 : ∀ z ∈ fz, z ∈ nx) (h : ∀ u, Value.int b u ∈ vs → Q (.int b u) s)
    (hs : subscripted slice false (.ref p) (.int 1 u) = operate [.ref p, .int 1 u] (getItem (.ref p) (.int 1 u)) := by with_unfolding_all rfl) (hg : ∀ r, letTemporaryGo value (.ref p) r = pure () := by intro _; with_unfolding_all rfl) :
    wpAny (model PR w) A (subscriptTail value slice (.ref p) (.int 1 u)) Q E s := by
  obtain ⟨a, t, v, hT, hm⟩ := H _ (stands_of N hs9)
  exact subscriptTail_builtin hT.typeIs slot_tuple_getitem.lookup (getItem_tuple hT (by decide) (by decide) (j := 1) rfl rfl (h v hm)) hs hg
theorem ints_memV {vs : List Value} {ns : List Int} {k : Int} {t : Tok} (hi : IntsAre vs ns) (hk : Value.int k t ∈ vs) : k ∈ ns := by
  obtain ⟨i, hi', e⟩ := List.getElem_of_mem hk
  obtain ⟨n, t', e2, e3⟩ := hi.at i _ (List.getElem?_eq_getElem hi')
  rw [e] at e2
  cases e2
  exact List.mem_of_getElem? e3
inductive LentRes (w : World) (s : Shared) (ns : List Int) (room side : Int) (v : Value) (h' : Heap) : Prop
  | intro (T cD wD H : Addr) (co wo ho : Obj) (vs : List Value) (q0 : v = .ref T) (q1 : s.heap.get? T = none) (q2 : h'.IsTuple T #[.ref cD, .ref wD, .ref H]) (q3 : (s.heap.get? cD = none ∧ (cD == sysModules) = false ∧ h'.get? cD = some co ∧ DObj w co (lentAt room side ns 9).came)) (q4 : (s.heap.get? wD = none ∧ (wD == sysModules) = false ∧ h'.get? wD = some wo ∧ DObj w wo (lentAt room side ns 9).went)) (q5 : (s.heap.get? H = none ∧ h'.get? H = some ho ∧ LV ho vs (lentAt room side ns 9).held)) : LentRes w s ns room side v h'
theorem unhide {h g : Heap} {a b : Addr} (hg : g = hideAll h [a]) (x : g.get? b = none) (hb : b ≠ a) : h.get? b = none := by
  cases q : h.get? b with
  | none => rfl
  | some o => rw [hg, hideAll_get [a] q fun e => hb (List.mem_singleton.mp e)] at x; cases x
theorem TabR3.tab {g h : Heap} {pos : Pos} {qual : Str} {ps : Array Value} {cc : Addr} {oc : Obj} (R : TabR3 g pos qual ps cc oc) (hc : h.get? cc = some oc) (k : ∀ b o, g.get? b = some o → h.get? b = some o) : TabAt pos qual h (tabObj ps) := by
  rcases R with (e | ⟨e, vs, t, hd, hv⟩) | ⟨c0, e, hc0⟩
  · exact ⟨ps, rfl, .inl e⟩
  · exact ⟨ps, rfl, .inr ⟨cc, e, cc, oc, vs, t, rfl, hc, hd, hv⟩⟩
  · exact ⟨ps, rfl, .inr ⟨c0, e, codeRec_keeps hc0 k⟩⟩
theorem nameO {o : Obj} {v : Data} (_h : o.data = v) : ∃ p, p = o := ⟨_, rfl⟩
noncomputable def lineUp (side : Int) (ns held : List Int) (n : Int) (q : Nat) : List (Int × Int) := (held.take q).foldl (fun line th => insK side line (nextAt ns th n, th)) []
theorem lineUp_succ {side : Int} {ns held : List Int} {n x : Int} {q : Nat} (h : held[q]? = some x) : lineUp side ns held n (q + 1) = insK side (lineUp side ns held n q) (nextAt ns x n, x) := by
  unfold lineUp; rw [List.take_add_one, h, List.foldl_append]; rfl
theorem lineUp_all (side : Int) (ns held : List Int) (n : Int) : lineUp side ns held n held.length = lineOf side ns held n := by
  unfold lineUp lineOf; rw [List.take_length]
end
theorem fresh_C17 : True := by w_top off; trivial
theorem reg_C17 : True := by
  (k_with "eval Name" => ((guard_hyp on_C17 : True; (((with_reducible show wpAny _ _ (eval _ (compEnvR _ _ _ _ _ _)) _ _ _); k_dflt (refine' cnameR_B (by k_asm) (by k_asm) (by k_asm) (by k_is) (by boot_fast) (by decide) ?_ (by rfl) (by rfl) (by rfl) (by rfl) (by decide)))))))
  (k_with "exec For Name Call cons nil" => ((guard_hyp on_C17 : True; ((k_dflt ((with_unfolding_all refine For_O (by k_asm) ?_)))))))
  (k_with "exec For Name Name cons nil" => ((guard_hyp on_C17 : True; ((k_dflt ((with_unfolding_all refine For_O (by k_asm) ?_)))))))
  (k_with "subscriptTail" => ((guard_hyp on_C17 : True; ((k_dflt ((try dsimp only); (with_reducible show wpAny _ _ (subscriptTail _ _ _ (Value.int _ _)) _ _ _); refine seq_itemT (by exact SeqS.keeps (by assumption) (Fr.keep (by k_asm))) (by omega) (by omega) (by omega) ?_; intro _ _ _))))))
  (k_with "ktr_rel" => ((guard_hyp on_C17 : True; ((intro _ hz_r; repeat (first | exact hz_r | apply List.Mem.tail))))))
  (k_with "ktr_unf" => ((guard_hyp on_C17 : True; (first | assumption | exact lst_led1 (by assumption) (by k_mem) | exact LObj.led (by assumption) (by k_mem) (by assumption) | exact PlacesAt.row (by assumption) (by k_asm) (by ktr_rel) (by assumption) (by assumption)))))
  (k_with "subscriptTail Name Name ref int" => ((guard_hyp on_C17 : True; ((k_dflt (refine rl_item (by exact PlacesAt.rl (by assumption) (by k_asm) (by ktr_rel)) (by omega) (by omega) ?_))))))
  (k_with "call ref" => ((guard_hyp on_C17 : True; (((with_reducible show wpAny _ _ (call (Value.ref 118) _ _) _ _ _); k_dflt (refine' use_iaddV (by assumption) (by k_asm) (by assumption) (by k_asm) (by assumption) (by rfl) (by omega) (by omega) (by ktr_units) (by first | assumption | exact ⟨_, rfl, by assumption⟩) (by ktr_room) (by k_mem) (by exact ⟨_, rfl, .cons _ _ .nil⟩) (by ((try simp only [List.length_cons, List.length_nil]); omega)) ?_; intro _ _ _ _ _ N_r _ _; (try dsimp only at N_r)))))))
  (k_with "call ref" => ((guard_hyp on_C17 : True; (((with_reducible show wpAny _ _ (call (Value.ref 97) _ _) _ _ _); k_dflt (refine' use_delV (by assumption) (by k_asm) (by assumption) (by k_asm) (by assumption) (by rfl) (by omega) (by omega) (by ktr_units) (by first | assumption | exact ⟨_, rfl, by assumption⟩) (by omega) (by omega) (by omega) ?_; intro _ _ _ _ N_r _ _; (try dsimp only at N_r)))))))
  (k_with "call ref" => ((guard_hyp on_C17 : True; (((with_reducible show wpAny _ _ (call (Value.ref 104) _ _) _ _ _); k_dflt (refine' use_idx (by assumption) (by k_asm) (by assumption) (by k_asm) (by assumption) (by rfl) (by omega) (by omega) (by k_mem) (by assumption) (by exact HOk.tok (by assumption)) (by assumption) ?_; intro _ _ _ _ _ _))))))
  (k_with "subscriptTail Name Call ref int" => ((guard_hyp on_C17 : True; ((k_dflt (refine lst_item (by ktr_unf) (by omega) (by omega) (by omega) ?_; intro _))))))
  (k_with "eval Dict cons cons" => ((guard_hyp on_C17 : True; ((k_dflt (refine' kdn_eval (knd := mk _) (by k_asm) (by k_asm) (by exact TopRead.nolimit (by k_asm)) (by rfl) (by rfl) (by exact List.cons_ne_nil _ _) (by exact Nat.le_of_ble_eq_true rfl) ?_); intro _ _ _ _ _ l1_r _ _; (have hz' := ltNe l1_r); (try k_lt l1_r))))))
  (k_with "KdnMade" => ((guard_hyp on_C17 : True; ((k_dflt (refine' dm_made1 (by k_asm) (by k_asm) (by exact UpdF.head (by assumption)) (by first | with_reducible assumption | assumption) (by tb_rel) ?_); intro _ _ _ N_r _; (try dsimp only at N_r))))))
  (k_with "subscriptTail Name Constant ref int" => ((guard_hyp on_C17 : True; ((k_dflt (refine rl_item (by exact RObj.at (by assumption) (News.get (by k_asm) (by k_mem))) (by omega) (by omega) ?_))))))
  (k_with "subscriptTail Name Constant ref int" => ((guard_hyp on_C17 : True; (((with_reducible show wpAny _ _ (subscriptTail _ _ _ (Value.int 1 _)) _ _ _); k_dflt (refine head_item (by assumption) (by k_asm) (by ktr_rel) ?_; intro _ _))))))
  trivial

theorem newsC {g h : Heap} {L : Addr} {nx : List (Addr × Obj)} {x : Addr × Obj} (N : News g L h nx) (hx : x ∈ nx) : News g L h (x :: nx)
  | _, .head _ => N _ hx
  | _, .tail _ m => N _ m
theorem newsK {g h : Heap} {L : Addr} {all l : List (Addr × Obj)} {x : Addr × Obj} (N : News g L h all) (hx : x ∈ all) (Nl : News g L h l) : News g L h (x :: l)
  | _, .head _ => N _ hx
  | _, .tail _ m => Nl _ m
inductive LentJ (w : World) (gh : Heap) (src : Option (List Value)) (ns : List Int) (room side : Int) (t u : Tok) (L' H D4 : Addr) (oR oA : Obj) (fz2 : List (Addr × Obj)) (i : Nat) (m : Str → Option Value) (nx : List (Addr × Obj)) (tk : Nat) : Prop
  | intro (wD cD : Addr) (wo co ho : Obj) (vs : List Value) (cc : Addr) (oc oP : Obj) (ps : Array Value) (vP : Option Value) (hm : holds m [(Str.ofString "held", .ref H), (Str.ofString "came", .ref cD), (Str.ofString "went", .ref wD), (Str.ofString "places", .ref D4), (Str.ofString "room", .int room t), (Str.ofString "side", .int side u)]) (hn : nx = (wD, wo) :: (cD, co) :: (H, ho) :: (134, tabObj ps) :: (L' + 1 + 1 + 1, oP) :: (L' + 1 + 1, oR) :: (L' + 1, oA) :: (cc, oc) :: fz2) (a1 : oP.data = .cell vP) (a2 : LV ho vs (lentAt room side ns i).held) (a3 : HOk src vs tk) (a4 : TabR3 gh lamPos lamQual ps cc oc) (a5 : (cD == sysModules) = false) (a6 : (wD == sysModules) = false) (a7 : DObj w co (lentAt room side ns i).came) (a8 : DObj w wo (lentAt room side ns i).went) (n1 : @Ne Nat cc 134) (n2 : @Ne Nat cc H) (n3 : @Ne Nat cc (L' + 1 + 1 + 1)) (n4 : @Ne Nat wD 134) (n5 : @Ne Nat wD H) (n6 : @Ne Nat wD (L' + 1 + 1 + 1)) (n7 : @Ne Nat cD 134) (n8 : @Ne Nat cD H) (n9 : @Ne Nat cD (L' + 1 + 1 + 1)) : LentJ w gh src ns room side t u L' H D4 oR oA fz2 i m nx tk
theorem LentJ.mk {w : World} {gh : Heap} {src : Option (List Value)} {ns : List Int} {room side : Int} {t u : Tok} {L' H D4 : Addr} {oR oA : Obj} {fz2 : List (Addr × Obj)} {i : Nat} {m : Str → Option Value} {tk : Nat} {wD cD : Addr} {wo co ho : Obj} {vs : List Value} {cc : Addr} {oc oP : Obj} {ps : Array Value} {vP : Option Value} (h0 : m (Str.ofString "held") = some (.ref H)) (h1 : m (Str.ofString "came") = some (.ref cD)) (h2 : m (Str.ofString "went") = some (.ref wD)) (h3 : m (Str.ofString "places") = some (.ref D4)) (h4 : m (Str.ofString "room") = some (.int room t)) (h5 : m (Str.ofString "side") = some (.int side u)) (a1 : oP.data = .cell vP) (a2 : LV ho vs (lentAt room side ns i).held) (a3 : HOk src vs tk) (a4 : TabR3 gh lamPos lamQual ps cc oc) (a5 : (cD == sysModules) = false) (a6 : (wD == sysModules) = false) (a7 : DObj w co (lentAt room side ns i).came) (a8 : DObj w wo (lentAt room side ns i).went) (n1 : @Ne Nat cc 134) (n2 : @Ne Nat cc H) (n3 : @Ne Nat cc (L' + 1 + 1 + 1)) (n4 : @Ne Nat wD 134) (n5 : @Ne Nat wD H) (n6 : @Ne Nat wD (L' + 1 + 1 + 1)) (n7 : @Ne Nat cD 134) (n8 : @Ne Nat cD H) (n9 : @Ne Nat cD (L' + 1 + 1 + 1)) : LentJ w gh src ns room side t u L' H D4 oR oA fz2 i m ((wD, wo) :: (cD, co) :: (H, ho) :: (134, tabObj ps) :: (L' + 1 + 1 + 1, oP) :: (L' + 1 + 1, oR) :: (L' + 1, oA) :: (cc, oc) :: fz2) tk :=
  .intro wD cD wo co ho vs cc oc oP ps vP ⟨h0, h1, h2, h3, h4, h5, trivial⟩ rfl a1 a2 a3 a4 a5 a6 a7 a8 n1 n2 n3 n4 n5 n6 n7 n8 n9
theorem LentJ.up {w : World} {gh : Heap} {src : Option (List Value)} {ns : List Int} {room side : Int} {t u : Tok} {L' H D4 : Addr} {oR oA : Obj} {fz2 : List (Addr × Obj)} {i : Nat} {m : Str → Option Value} {nx : List (Addr × Obj)} {tk tk' : Nat} (x : LentJ w gh src ns room side t u L' H D4 oR oA fz2 i m nx tk) (h : tk ≤ tk') : LentJ w gh src ns room side t u L' H D4 oR oA fz2 i m nx tk' := by
  obtain ⟨wD, cD, wo, co, ho, vs, cc, oc, oP, ps, vP, hm, hn, a1, a2, a3, a4, a5, a6, a7, a8, n1, n2, n3, n4, n5, n6, n7, n8, n9⟩ := x
  exact .intro wD cD wo co ho vs cc oc oP ps vP hm hn a1 a2 (a3.up h) a4 a5 a6 a7 a8 n1 n2 n3 n4 n5 n6 n7 n8 n9
theorem LentJ.turn {P : Prop} {w : World} {gh : Heap} {src : Option (List Value)} {ns : List Int} {room side : Int} {t u : Tok} {L' H D4 : Addr} {oR oA : Obj} {fz2 : List (Addr × Obj)} {i : Nat} {m : Str → Option Value} {nx : List (Addr × Obj)} {tk : Nat} {hp : Heap} {I : Addr} {oI : Obj} (x : LentJ w gh src ns room side t u L' H D4 oR oA fz2 i m nx tk) (hoff : ∀ p ∈ nx, p.1 ≠ I) (F : Fr gh L' hp m) (N : News gh L' hp ((I, oI) :: nx))
    (k : ∀ (wD cD : Addr) (wo co ho : Obj) (vs : List Value) (cc : Addr) (oc oP : Obj) (ps : Array Value) (vP : Option Value) z, Fr gh L' hp (fr [(Str.ofString "held", .ref H), (Str.ofString "came", .ref cD), (Str.ofString "went", .ref wD), (Str.ofString "places", .ref D4), (Str.ofString "room", .int room t), (Str.ofString "side", .int side u)] z) → News gh L' hp ((I, oI) :: (wD, wo) :: (cD, co) :: (H, ho) :: (134, tabObj ps) :: (L' + 1 + 1 + 1, oP) :: (L' + 1 + 1, oR) :: (L' + 1, oA) :: (cc, oc) :: fz2) → (∀ p ∈ (wD, wo) :: (cD, co) :: (H, ho) :: (134, tabObj ps) :: (L' + 1 + 1 + 1, oP) :: (L' + 1 + 1, oR) :: (L' + 1, oA) :: (cc, oc) :: fz2, p.1 ≠ I) → (@Ne Nat (wD) I) → (@Ne Nat (cD) I) → (@Ne Nat (H) I) → (@Ne Nat (134) I) → (@Ne Nat (L' + 1 + 1 + 1) I) → (@Ne Nat (L' + 1 + 1) I) → (@Ne Nat (L' + 1) I) → (@Ne Nat (cc) I) → (∀ p ∈ fz2, p.1 ≠ I) → (oP.data = .cell vP) → (LV ho vs (lentAt room side ns i).held) → (HOk src vs tk) → (TabR3 gh lamPos lamQual ps cc oc) → ((cD == sysModules) = false) → ((wD == sysModules) = false) → (DObj w co (lentAt room side ns i).came) → (DObj w wo (lentAt room side ns i).went) → (@Ne Nat cc 134) → (@Ne Nat cc H) → (@Ne Nat cc (L' + 1 + 1 + 1)) → (@Ne Nat wD 134) → (@Ne Nat wD H) → (@Ne Nat wD (L' + 1 + 1 + 1)) → (@Ne Nat cD 134) → (@Ne Nat cD H) → (@Ne Nat cD (L' + 1 + 1 + 1)) → P) : P := by
  obtain ⟨wD, cD, wo, co, ho, vs, cc, oc, oP, ps, vP, hm, rfl, a1, a2, a3, a4, a5, a6, a7, a8, n1, n2, n3, n4, n5, n6, n7, n8, n9⟩ := x
  obtain ⟨z, rfl⟩ := fr_eq (m := m) _ hm
  have hzI := hoff
  replace hoff := offP_of hoff
  simp only [offP] at hoff
  obtain ⟨w0, w1, w2, w3, w4, w5, w6, w7, wz⟩ := hoff
  exact k wD cD wo co ho vs cc oc oP ps vP z F N hzI w0 w1 w2 w3 w4 w5 w6 w7 (offP_ne wz) a1 a2 a3 a4 a5 a6 a7 a8 n1 n2 n3 n4 n5 n6 n7 n8 n9
theorem LentJ.done {P : Prop} {w : World} {gh : Heap} {src : Option (List Value)} {ns : List Int} {room side : Int} {t u : Tok} {L' H D4 : Addr} {oR oA : Obj} {fz2 : List (Addr × Obj)} {i : Nat} {m : Str → Option Value} {nx : List (Addr × Obj)} {tk : Nat} {hp : Heap} (x : LentJ w gh src ns room side t u L' H D4 oR oA fz2 i m nx tk) (F : Fr gh L' hp m) (N : News gh L' hp nx)
    (k : ∀ (wD cD : Addr) (wo co ho : Obj) (vs : List Value) (cc : Addr) (oc oP : Obj) (ps : Array Value) (vP : Option Value) z, Fr gh L' hp (fr [(Str.ofString "held", .ref H), (Str.ofString "came", .ref cD), (Str.ofString "went", .ref wD), (Str.ofString "places", .ref D4), (Str.ofString "room", .int room t), (Str.ofString "side", .int side u)] z) → News gh L' hp ((wD, wo) :: (cD, co) :: (H, ho) :: (134, tabObj ps) :: (L' + 1 + 1 + 1, oP) :: (L' + 1 + 1, oR) :: (L' + 1, oA) :: (cc, oc) :: fz2) → (oP.data = .cell vP) → (LV ho vs (lentAt room side ns i).held) → (HOk src vs tk) → (TabR3 gh lamPos lamQual ps cc oc) → ((cD == sysModules) = false) → ((wD == sysModules) = false) → (DObj w co (lentAt room side ns i).came) → (DObj w wo (lentAt room side ns i).went) → (@Ne Nat cc 134) → (@Ne Nat cc H) → (@Ne Nat cc (L' + 1 + 1 + 1)) → (@Ne Nat wD 134) → (@Ne Nat wD H) → (@Ne Nat wD (L' + 1 + 1 + 1)) → (@Ne Nat cD 134) → (@Ne Nat cD H) → (@Ne Nat cD (L' + 1 + 1 + 1)) → P) : P := by
  obtain ⟨wD, cD, wo, co, ho, vs, cc, oc, oP, ps, vP, hm, rfl, a1, a2, a3, a4, a5, a6, a7, a8, n1, n2, n3, n4, n5, n6, n7, n8, n9⟩ := x
  obtain ⟨z, rfl⟩ := fr_eq (m := m) _ hm
  exact k wD cD wo co ho vs cc oc oP ps vP z F N a1 a2 a3 a4 a5 a6 a7 a8 n1 n2 n3 n4 n5 n6 n7 n8 n9
inductive LineJ (gh : Heap) (ns held : List Int) (room side : Int) (i nv : Nat) (tn t u : Tok) (L' H D4 ln I0 wD cD : Addr) (o0 wo co oR oA : Obj) (vs : List Value) (fz2 : List (Addr × Obj)) (q : Nat) (m : Str → Option Value) (nx : List (Addr × Obj)) (tk : Nat) : Prop
  | intro (ts : List Addr) (lo : Obj) (fz : List (Addr × Obj)) (cc : Addr) (oc oP : Obj) (ps : Array Value) (vP : Option Value) (hm : holds m [(Str.ofString "held", .ref H), (Str.ofString "came", .ref cD), (Str.ofString "went", .ref wD), (Str.ofString "places", .ref D4), (Str.ofString "room", .int room t), (Str.ofString "side", .int side u), (Str.ofString "n", .int (0 + (i : Int)) tn), (Str.ofString "line", .ref ln)]) (hn : nx = (ln, lo) :: (I0, o0) :: (wD, wo) :: (cD, co) :: (H, listOf vs.toArray nv) :: (134, tabObj ps) :: (L' + 1 + 1 + 1, oP) :: (L' + 1 + 1, oR) :: (L' + 1, oA) :: (cc, oc) :: fz) (a1 : oP.data = .cell vP) (a2 : RObj lo ts) (a3 : ts.length = q) (a4 : TabR3 gh lamPos lamQual ps cc oc) (a5 : ∀ h', Stands fz h' → Stands fz2 h' ∧ LineAt h' vs ts (lineUp side ns held (0 + (i : Int)) q)) (f1 : ∀ z ∈ fz, z.1 ≠ 134) (f2 : ∀ z ∈ fz, z.1 ≠ H) (f3 : ∀ z ∈ fz, z.1 ≠ L' + 1 + 1 + 1) (f4 : ∀ z ∈ fz, z.1 ≠ ln) (g1 : @Ne Nat cc 134) (g2 : @Ne Nat cc H) (g3 : @Ne Nat cc (L' + 1 + 1 + 1)) (g4 : @Ne Nat cc ln) (g5 : @Ne Nat cc I0) : LineJ gh ns held room side i nv tn t u L' H D4 ln I0 wD cD o0 wo co oR oA vs fz2 q m nx tk
theorem LineJ.mk {gh : Heap} {ns held : List Int} {room side : Int} {i nv : Nat} {tn t u : Tok} {L' H D4 ln I0 wD cD : Addr} {o0 wo co oR oA : Obj} {vs : List Value} {fz2 : List (Addr × Obj)} {q : Nat} {m : Str → Option Value} {tk : Nat} {ts : List Addr} {lo : Obj} {fz : List (Addr × Obj)} {cc : Addr} {oc oP : Obj} {ps : Array Value} {vP : Option Value} (h0 : m (Str.ofString "held") = some (.ref H)) (h1 : m (Str.ofString "came") = some (.ref cD)) (h2 : m (Str.ofString "went") = some (.ref wD)) (h3 : m (Str.ofString "places") = some (.ref D4)) (h4 : m (Str.ofString "room") = some (.int room t)) (h5 : m (Str.ofString "side") = some (.int side u)) (h6 : m (Str.ofString "n") = some (.int (0 + (i : Int)) tn)) (h7 : m (Str.ofString "line") = some (.ref ln)) (a1 : oP.data = .cell vP) (a2 : RObj lo ts) (a3 : ts.length = q) (a4 : TabR3 gh lamPos lamQual ps cc oc) (a5 : ∀ h', Stands fz h' → Stands fz2 h' ∧ LineAt h' vs ts (lineUp side ns held (0 + (i : Int)) q)) (f1 : ∀ z ∈ fz, z.1 ≠ 134) (f2 : ∀ z ∈ fz, z.1 ≠ H) (f3 : ∀ z ∈ fz, z.1 ≠ L' + 1 + 1 + 1) (f4 : ∀ z ∈ fz, z.1 ≠ ln) (g1 : @Ne Nat cc 134) (g2 : @Ne Nat cc H) (g3 : @Ne Nat cc (L' + 1 + 1 + 1)) (g4 : @Ne Nat cc ln) (g5 : @Ne Nat cc I0) : LineJ gh ns held room side i nv tn t u L' H D4 ln I0 wD cD o0 wo co oR oA vs fz2 q m ((ln, lo) :: (I0, o0) :: (wD, wo) :: (cD, co) :: (H, listOf vs.toArray nv) :: (134, tabObj ps) :: (L' + 1 + 1 + 1, oP) :: (L' + 1 + 1, oR) :: (L' + 1, oA) :: (cc, oc) :: fz) tk :=
  .intro ts lo fz cc oc oP ps vP ⟨h0, h1, h2, h3, h4, h5, h6, h7, trivial⟩ rfl a1 a2 a3 a4 a5 f1 f2 f3 f4 g1 g2 g3 g4 g5
theorem LineJ.up {gh : Heap} {ns held : List Int} {room side : Int} {i nv : Nat} {tn t u : Tok} {L' H D4 ln I0 wD cD : Addr} {o0 wo co oR oA : Obj} {vs : List Value} {fz2 : List (Addr × Obj)} {q : Nat} {m : Str → Option Value} {nx : List (Addr × Obj)} {tk tk' : Nat} (x : LineJ gh ns held room side i nv tn t u L' H D4 ln I0 wD cD o0 wo co oR oA vs fz2 q m nx tk) (h : tk ≤ tk') : LineJ gh ns held room side i nv tn t u L' H D4 ln I0 wD cD o0 wo co oR oA vs fz2 q m nx tk' := by
  obtain ⟨ts, lo, fz, cc, oc, oP, ps, vP, hm, hn, a1, a2, a3, a4, a5, f1, f2, f3, f4, g1, g2, g3, g4, g5⟩ := x
  exact .intro ts lo fz cc oc oP ps vP hm hn a1 a2 a3 a4 a5 f1 f2 f3 f4 g1 g2 g3 g4 g5
theorem LineJ.turn {P : Prop} {gh : Heap} {ns held : List Int} {room side : Int} {i nv : Nat} {tn t u : Tok} {L' H D4 ln I0 wD cD : Addr} {o0 wo co oR oA : Obj} {vs : List Value} {fz2 : List (Addr × Obj)} {q : Nat} {m : Str → Option Value} {nx : List (Addr × Obj)} {tk : Nat} {hp : Heap} {I : Addr} {oI : Obj} (x : LineJ gh ns held room side i nv tn t u L' H D4 ln I0 wD cD o0 wo co oR oA vs fz2 q m nx tk) (hoff : ∀ p ∈ nx, p.1 ≠ I) (F : Fr gh L' hp m) (N : News gh L' hp ((I, oI) :: nx))
    (k : ∀ (ts : List Addr) (lo : Obj) (fz : List (Addr × Obj)) (cc : Addr) (oc oP : Obj) (ps : Array Value) (vP : Option Value) z, Fr gh L' hp (fr [(Str.ofString "held", .ref H), (Str.ofString "came", .ref cD), (Str.ofString "went", .ref wD), (Str.ofString "places", .ref D4), (Str.ofString "room", .int room t), (Str.ofString "side", .int side u), (Str.ofString "n", .int (0 + (i : Int)) tn), (Str.ofString "line", .ref ln)] z) → News gh L' hp ((I, oI) :: (ln, lo) :: (I0, o0) :: (wD, wo) :: (cD, co) :: (H, listOf vs.toArray nv) :: (134, tabObj ps) :: (L' + 1 + 1 + 1, oP) :: (L' + 1 + 1, oR) :: (L' + 1, oA) :: (cc, oc) :: fz) → (∀ p ∈ (ln, lo) :: (I0, o0) :: (wD, wo) :: (cD, co) :: (H, listOf vs.toArray nv) :: (134, tabObj ps) :: (L' + 1 + 1 + 1, oP) :: (L' + 1 + 1, oR) :: (L' + 1, oA) :: (cc, oc) :: fz, p.1 ≠ I) → (@Ne Nat (ln) I) → (@Ne Nat (I0) I) → (@Ne Nat (wD) I) → (@Ne Nat (cD) I) → (@Ne Nat (H) I) → (@Ne Nat (134) I) → (@Ne Nat (L' + 1 + 1 + 1) I) → (@Ne Nat (L' + 1 + 1) I) → (@Ne Nat (L' + 1) I) → (@Ne Nat (cc) I) → (∀ p ∈ fz, p.1 ≠ I) → (oP.data = .cell vP) → (RObj lo ts) → (ts.length = q) → (TabR3 gh lamPos lamQual ps cc oc) → (∀ h', Stands fz h' → Stands fz2 h' ∧ LineAt h' vs ts (lineUp side ns held (0 + (i : Int)) q)) → (∀ z ∈ fz, z.1 ≠ 134) → (∀ z ∈ fz, z.1 ≠ H) → (∀ z ∈ fz, z.1 ≠ L' + 1 + 1 + 1) → (∀ z ∈ fz, z.1 ≠ ln) → (@Ne Nat cc 134) → (@Ne Nat cc H) → (@Ne Nat cc (L' + 1 + 1 + 1)) → (@Ne Nat cc ln) → (@Ne Nat cc I0) → P) : P := by
  obtain ⟨ts, lo, fz, cc, oc, oP, ps, vP, hm, rfl, a1, a2, a3, a4, a5, f1, f2, f3, f4, g1, g2, g3, g4, g5⟩ := x
  obtain ⟨z, rfl⟩ := fr_eq (m := m) _ hm
  have hzI := hoff
  replace hoff := offP_of hoff
  simp only [offP] at hoff
  obtain ⟨w0, w1, w2, w3, w4, w5, w6, w7, w8, w9, wz⟩ := hoff
  exact k ts lo fz cc oc oP ps vP z F N hzI w0 w1 w2 w3 w4 w5 w6 w7 w8 w9 (offP_ne wz) a1 a2 a3 a4 a5 f1 f2 f3 f4 g1 g2 g3 g4 g5
theorem LineJ.done {P : Prop} {gh : Heap} {ns held : List Int} {room side : Int} {i nv : Nat} {tn t u : Tok} {L' H D4 ln I0 wD cD : Addr} {o0 wo co oR oA : Obj} {vs : List Value} {fz2 : List (Addr × Obj)} {q : Nat} {m : Str → Option Value} {nx : List (Addr × Obj)} {tk : Nat} {hp : Heap} (x : LineJ gh ns held room side i nv tn t u L' H D4 ln I0 wD cD o0 wo co oR oA vs fz2 q m nx tk) (F : Fr gh L' hp m) (N : News gh L' hp nx)
    (k : ∀ (ts : List Addr) (lo : Obj) (fz : List (Addr × Obj)) (cc : Addr) (oc oP : Obj) (ps : Array Value) (vP : Option Value) z, Fr gh L' hp (fr [(Str.ofString "held", .ref H), (Str.ofString "came", .ref cD), (Str.ofString "went", .ref wD), (Str.ofString "places", .ref D4), (Str.ofString "room", .int room t), (Str.ofString "side", .int side u), (Str.ofString "n", .int (0 + (i : Int)) tn), (Str.ofString "line", .ref ln)] z) → News gh L' hp ((ln, lo) :: (I0, o0) :: (wD, wo) :: (cD, co) :: (H, listOf vs.toArray nv) :: (134, tabObj ps) :: (L' + 1 + 1 + 1, oP) :: (L' + 1 + 1, oR) :: (L' + 1, oA) :: (cc, oc) :: fz) → (oP.data = .cell vP) → (RObj lo ts) → (ts.length = q) → (TabR3 gh lamPos lamQual ps cc oc) → (∀ h', Stands fz h' → Stands fz2 h' ∧ LineAt h' vs ts (lineUp side ns held (0 + (i : Int)) q)) → (∀ z ∈ fz, z.1 ≠ 134) → (∀ z ∈ fz, z.1 ≠ H) → (∀ z ∈ fz, z.1 ≠ L' + 1 + 1 + 1) → (∀ z ∈ fz, z.1 ≠ ln) → (@Ne Nat cc 134) → (@Ne Nat cc H) → (@Ne Nat cc (L' + 1 + 1 + 1)) → (@Ne Nat cc ln) → (@Ne Nat cc I0) → P) : P := by
  obtain ⟨ts, lo, fz, cc, oc, oP, ps, vP, hm, rfl, a1, a2, a3, a4, a5, f1, f2, f3, f4, g1, g2, g3, g4, g5⟩ := x
  obtain ⟨z, rfl⟩ := fr_eq (m := m) _ hm
  exact k ts lo fz cc oc oP ps vP z F N a1 a2 a3 a4 a5 f1 f2 f3 f4 g1 g2 g3 g4 g5
theorem LineJ.it {gh : Heap} {ns held : List Int} {room side : Int} {i nv : Nat} {tn t u : Tok} {L' H D4 ln I0 wD cD : Addr} {o0 wo co oR oA : Obj} {vs : List Value} {fz2 : List (Addr × Obj)} {q : Nat} {m : Str → Option Value} {nx : List (Addr × Obj)} {tk : Nat} (x : LineJ gh ns held room side i nv tn t u L' H D4 ln I0 wD cD o0 wo co oR oA vs fz2 q m nx tk) : (H, listOf vs.toArray nv) ∈ nx := by
  obtain ⟨ts, lo, fz, cc, oc, oP, ps, vP, hm, rfl, a1, a2, a3, a4, a5, f1, f2, f3, f4, g1, g2, g3, g4, g5⟩ := x
  exact .tail _ (.tail _ (.tail _ (.tail _ (.head _))))
set_option maxRecDepth 100000 in
set_option maxHeartbeats 16000000 in
theorem lent_ok (w : World) (s : Shared) (src : Option (List Value)) (av : Value) (ns : List Int) (room side : Int) (t u : Tok) (hn : ns.length = 9) (hns : ∀ x ∈ ns, 0 ≤ x ∧ x ≤ 3) (hroom : 1 ≤ room) (htk0 : 0 < s.toks) (hsrc : SrcOk src) (DS : SeqS src s.heap av ns) (HT : ∀ o, s.heap.get? 134 = some o → TabAt lamPos lamQual s.heap o) :
    CallUpd w 6 137 [av, .int room t, .int side u] [] s 134 (fun v o h' => LentRes w s ns room side v h' ∧ TabAt lamPos lamQual h' o) := by
  have on_C17 : True := trivial
  k_dflt (refine' CallUpd.introC (binds := [(Str.ofString "asked", av), (Str.ofString "room", .int room t), (Str.ofString "side", .int side u)]) (ho := ?ho) (hcd := ?hcd) (hbind := ?hb) (hkind := ?hl) (hnd := ?hc) (hco := ?h1) (hgen := ?h2) (hk := ?h3) ?_; (case ho => k_is); (case hcd => k_is); (case hb => intro _; exact BindsTo.of_eq rfl); (case hc => decide +kernel); (case hl => exact rfl); (case h1 => exact rfl); (case h2 => exact rfl); (case h3 => exact rfl); k_whole)
  intro loose mean mg mb dp un gd env outer A₀ base gh L' h₁ o tk cells htk hgh hoa B F X N Y cN T hd hu
  obtain ⟨oP, oO, oA, hE, dP, dO, dA⟩ := CellsAre.three Y
  subst hE
  (try dsimp only); (try k_fold)
  k_steps
  refine Stop.off ?_
  replace dA : oA.data = .cell (some av) := dA
  obtain ⟨ps, rfl, hTR⟩ := TabAt.start (cc := 0) (oc := default) (HT o hoa) hoa
  have DS1 : SeqS src gh av ns := hgh ▸ SeqS.hide DS hoa
  have D1 := DS1.v
  rw [← hgh] at hTR
  with_unfolding_all refine compCell (placesOf ns) F N (by rfl) (by rfl) (by rfl) (by rfl) (by rfl) (by decide) (by rfl) (by rfl) (by rfl) (by rfl) ?_
  k_steps
  (with_reducible rename Fr _ _ _ _ => F2); (with_reducible rename News _ _ _ _ => N2); (with_reducible rename IsRange _ _ _ _ _ _ _ _ => hr2)
  have gA2 := (N2 (L' + 1, oA) (by k_mem)).1
  dsimp only at gA2
  have D2 := D1.keeps F2.keep
  refine ⟨_, _, _, _, _, _, 4, _, rfl, hr2, rfl, rfl, rfl, by decide, F2, N2, ?_, ?_⟩
  · intro C c k tt s₃ oc E' hk hdc hoc keep3 hC3 hsz3 hc3 hcC
    have hk4 := rangeKs_mem hk
    have F3 : Fr _ C s₃.heap (fun _ => none) := ⟨hC3, keep3, hsz3⟩
    have N3 : News _ C s₃.heap [(c, oc)] := fun p hp => by rw [List.mem_singleton.mp hp]; exact ⟨hoc, hcC, hc3⟩
    have X2 := X.keeps F2.keep
    have T2 := T.keeps F2.keep
    have gA3 := keep3 _ _ gA2
    have D3 := D2.keeps keep3
    try dsimp only at gA3 D3
    with_unfolding_all refine compEf (fun n => geti ns n == k) (fun k => k) F3 N3 (by rfl) (by decide) (by rfl) (by decide) (by rfl) (by rfl) ?_
    k_steps
    (with_reducible rename Fr _ _ _ _ => F5); (with_reducible rename News _ _ _ _ => N5); (with_reducible rename IsRange _ _ _ _ _ _ _ _ => hr5); (rename ∀ b o, _ → _ => keep5)
    have gA5 := keep5 _ _ gA3
    have gc5 := (N5 (c, oc) (by k_mem)).1
    have D5 := D3.keeps keep5
    try dsimp only at gA5 gc5 D5
    refine Stop.off ⟨_, SrcI.range hr5 (n := 9) rfl rfl, by decide, F5, N5, ⟨?_, ?_⟩, ?_⟩
    · intro C k9 t' s₃ m₃ E' hk9 F6 hm6
      have hk9' := rangeKs_mem hk9
      have N6 := fr_nil F6
      have D6 := D5.keeps F6.keep
      refine tests_one ?_
      (try k_fold)
      k_steps
    · intro C k9 t' s₃ m₃ E' hk9 _ F6 hm6
      k_steps
    · intro D7 vs7 n7 h' tk F7 N7 off7 keep7 new7 hvs7
      rw [List.map_id'] at hvs7
      refine ⟨⟨D7, _, rfl, ?_, (N7 _ (.head _)).1, LObj.of hvs7⟩, ⟨h', _, rfl, fun b o e => keep7 b o (keep5 b o e)⟩⟩
      cases q : s₃.heap.get? D7 with
      | none => rfl
      | some o => exact absurd (keep5 _ _ q) (by rw [show _ = none from new7]; nofun)
  · intro D4 n4 es h4 tk4 F4 N4 hrows hne4
    obtain ⟨fz, hfz⟩ : ∃ fz, fz = (D4, listOf (es.map fun e => Value.ref e.1).toArray n4) :: es := ⟨_, rfl⟩
    have N5 : News gh L' h4 ((134, tabObj ps) :: (L' + 1 + 1 + 1, oP) :: (L' + 1 + 1, oO) :: (L' + 1, oA) :: fz) := fun p hp => N4 p (by
      rw [hfz] at hp
      simp only [List.mem_cons, List.mem_append, List.not_mem_nil, or_false] at hp ⊢
      rcases hp with h | h | h | h | h | h
      · exact .inr (.inr (.inl h))
      · exact .inr (.inr (.inr (.inl h)))
      · exact .inr (.inr (.inr (.inr (.inl h))))
      · exact .inr (.inr (.inr (.inr (.inr h))))
      · exact .inl h
      · exact .inr (.inl h))
    rw [← hfz] at hne4
    have z1 : ∀ p ∈ fz, p.1 ≠ 134 := hne4 (134, tabObj ps) (.head _)
    have z2 : ∀ p ∈ fz, p.1 ≠ L' + 1 + 1 + 1 := hne4 _ (.tail _ (.head _))
    have z3 : ∀ p ∈ fz, p.1 ≠ L' + 1 + 1 := hne4 _ (.tail _ (.tail _ (.head _)))
    have z4 : ∀ p ∈ fz, p.1 ≠ L' + 1 := hne4 _ (.tail _ (.tail _ (.tail _ (.head _))))
    have zP : (D4, listOf (es.map fun e => Value.ref e.1).toArray n4) ∈ fz := by rw [hfz]; exact .head _
    have zR : ∀ p ∈ es, p ∈ fz := fun p hp => by rw [hfz]; exact .tail _ hp
    have c1 := cN _ (.head _)
    have c2 := cN _ (.tail _ (.head _))
    have c3 := cN _ (.tail _ (.tail _ (.head _)))
    dsimp only at c1 c2 c3
    clear N4 N2 F2 hr2 gA2 D2 hne4 hfz
    dsimp only
    (try k_fold)
    k_steps
    try (refine Stop.off ?_)
    k_dflt (refine' call_cls ?k1 ?k2 ?k3 ?k4 ?k5 ?k6 ?_; (case k1 => k_asm); (case k2 => k_asm); (case k3 => k_asm); (case k4 => k_is); (case k5 => k_is); (case k6 => k_is); k_whole; intro oT d' h' F' N' l1 l2; (try k_lt l1); (try k_lt2 l2); (try k_sweep))
    refine' code_def ?k1 ?k2 ?k3 ?k4 ?k5 ?kA ?kF ?kK ?k6 ?k7 ?k8 ?k9 ?kB ?_ ?c2 ?c3 ?c4 ?c5; (case kA => exact rfl); (case kF => exact rfl); (case kK => exact rfl); (case k1 => k_asm); (case k2 => k_asm); (case k3 => k_asm); (case k4 => k_asm); (case k5 => k_asm); (case k6 => k_is); (case k7 => k_is); (case k8 => (show dp + 1 < recursionLimit; omega)); (case k9 => exact BindsTo.of_eq rfl); (case c5 => decide); (case kB => exact locs rfl); (case c2 => exact rfl); (case c3 => exact rfl); (case c4 => exact rfl); k_whole; intro g' L2 h' FG' F' N' B' X' T'; (try dsimp only); (try k_lift B'); (try k_fold)
    k_steps
    (with_reducible rename News _ _ _ _ => NL); (with_reducible rename Fr _ _ _ _ => FL); (with_reducible rename IsRange _ _ _ _ _ _ _ _ => hrL)
    obtain ⟨fz2, hfz2, NL2, hOrd, hsub⟩ := lent_freeze NL
    rename_i oR dO2 tk6 H hh1 lH1 hh2 cD hh3 co loC0 hDc lt1 hh4 wD hh5 wo loW0 hDw0 hh6 F66 N66 hh7 tk7 t7 u7 v7 a7
    clear F66 N66 a7
    obtain ⟨rs, hrs4, hPl⟩ := places_of zP zR hrows
    (rename _ < H ∧ _ => lH)
    have zH : ∀ p ∈ fz2, p.1 ≠ H := by
      rw [hfz2]; simp only [List.forall_mem_cons]
      exact ⟨Nat.ne_of_lt lH.1, Nat.ne_of_lt lH.2.1, Nat.ne_of_lt lH.2.2.1, Nat.ne_of_lt lH.2.2.2.1, Nat.ne_of_lt lH.2.2.2.2.1, allLt_ne lH.2.2.2.2.2.2.2.2.2⟩
    obtain ⟨q1, q2, q3, q4, q5, q6, q7, q8, q9, q10⟩ := lH
    obtain ⟨oc0, ho0⟩ : ∃ oc0, (oT, oc0) ∈ fz2 := ⟨_, by rw [hfz2]; exact .head _⟩
    have TR1 : ∃ cc oc, News gh L' _ ((wD, wo) :: (cD, co) :: (H, listOf #[] 0) :: (134, tabObj ps) :: (L' + 1 + 1 + 1, oP) :: (L' + 1 + 1, oR) :: (L' + 1, oA) :: (cc, oc) :: fz2) ∧ TabR3 gh lamPos lamQual ps cc oc ∧ (@Ne Nat cc 134) ∧ (@Ne Nat cc H) ∧ (@Ne Nat cc (L' + 1 + 1 + 1)) := ⟨oT, oc0, (pickAll (newsC NL2 (x := (oT, oc0)) (.tail _ (.tail _ (.tail _ (.tail _ (.tail _ (.tail _ (.tail _ ho0)))))))) [1, 2, 3, 4, 5, 6, 7, 0] 8 :), hTR.imp (fun h => by
        rcases h with h | ⟨h, vs, t, hd, _⟩
        · exact .inl h
        · cases hd) id, by omega, by omega, by omega⟩
    obtain ⟨cc, oc, NL3, TR3, y1, y2, y3⟩ := TR1
    have z2' : ∀ p ∈ fz2, p.1 ≠ 134 := by
      rw [hfz2]; simp only [List.forall_mem_cons]
      exact ⟨by ktr_room, by ktr_room, by ktr_room, by ktr_room, by ktr_room, z1⟩
    have z3' : ∀ p ∈ fz2, p.1 ≠ L' + 1 + 1 + 1 := by
      rw [hfz2]; simp only [List.forall_mem_cons]
      exact ⟨by ktr_room, by ktr_room, by ktr_room, by ktr_room, by ktr_room, z2⟩
    have hPl2 : PlacesAt fz2 D4 rs ns := fun h' S => hPl h' fun p hp => S p (hsub p hp)
    clear hfz2 NL NL2 hPl hrows zP zR hsub z1 z2 z3 z4 hTR
    refine rangeO (n := 9) (LentJ w gh src ns room side t u L' H D4 oR oA fz2) rfl (by assumption) (by decide) (by rfl) FL NL3 ?_ ?_ ?_ ?_
    · exact LentJ.mk rfl rfl rfl rfl rfl rfl (by assumption) ⟨_, rfl, .nil⟩ (HOk.nil hsrc) TR3 (by assumption) (by assumption) (by assumption) (by assumption) y1 y2 y3 (by omega) (by omega) (by omega) (by omega) (by omega) (by omega)
    · exact fun i m nx tk tk' x h => x.up h
    · intro i tn m₁ nx hp tkn I0 o0 hi9 hJ hoff F₁ N₁
      generalize hQQ : TurnO _ _ _ _ _ _ = QQ
      refine hJ.turn hoff F₁ N₁ ?_
      clear F₁ N₁ hoff hJ
      intro wD cD wo co ho vs cc oc oP ps vP z F₁ N₁ hzI w1 w2 w3 w4 w5 w6 w7 w8 hfI0 dP' hLV hHO TRi loC loW DC DW n1 n2 n3 n4 n5 n6 n7 n8 n9
      have hLO := hLV.lo
      have hsm : smallInt (geti ns (0 + (i : Int))) = true := by
        obtain ⟨s0, s1⟩ := hns _ (geti_mem (ns := ns) (k := 0 + (i : Int)) (by omega) (by omega))
        unfold smallInt
        simp only [Bool.and_eq_true, decide_eq_true_eq]
        omega
      obtain ⟨nv, rfl, hI⟩ := id hLV
      obtain ⟨len1, len2, len3⟩ := lentAt_len room side ns i
      refine wpAny_mono ?_ (fun _ _ h => execs_consT h) (fun _ _ e => e)
      (try k_fold)
      k_steps
      · (with_reducible rename Fr _ _ _ _ => F9); (with_reducible rename News _ _ _ _ => N9)
        have hst : lentAt room side ns (i + 1) = lentAt room side ns i := by rw [lentAt_succ]; unfold lentStep; rw [if_pos (by assumption)]
        subst hQQ
        exact fun _ => TurnO.contS _ F9 N9 (fun q hq => hq) hzI (fun htk => LentJ.mk rfl rfl rfl rfl rfl rfl dP' (hst ▸ hLV) (hHO.up (by omega)) TRi loC loW (hst ▸ DC) (hst ▸ DW) n1 n2 n3 n4 n5 n6 n7 n8 n9)
      · refine fun hT1 => ?_
        dsimp only at hT1 ⊢
        refine execs_consT ?_
        (try k_fold)
        k_steps
        · (with_reducible rename News _ _ _ _ => N9); (with_reducible rename Fr _ _ _ _ => F9)
          rename_i ln hh1 lL0 hh2
          (rename _ < ln ∧ _ => lL)
          have zL := allLt_ne lL.2.2.2.2.2.2.2.2.2
          obtain ⟨v1, v2, v3, v4, v5, v6, v7, v8, v9, v10⟩ := lL
          have hfz0 : ∀ z ∈ fz2, z.1 ≠ L' ∧ gh.get? z.1 = none := fun z hm9 => (N9 z (by repeat (first | exact hm9 | apply List.Mem.tail))).2
          refine listO (vs := vs) (LineJ gh ns (lentAt room side ns i).held room side i nv tn t u L' H D4 ln I0 wD cD o0 wo co oR oA vs fz2) rfl (News.isList N9 (by k_mem)) (.inr ⟨listOf vs.toArray nv, ?_⟩) F9 N9 ?_ ?_ ?_ ?_
          · exact fun q m nx tk x => x.it
          · exact LineJ.mk (ts := []) rfl rfl rfl rfl rfl rfl rfl rfl dP' ⟨_, rfl⟩ rfl TRi (fun h' S => ⟨S, LineAt.nil⟩) z2' zH z3' zL (by omega) (by omega) (by omega) (by omega) (by omega)
          · exact fun q m nx tk tk' x h => x.up h
          · intro q v m₁ nx hp tkq I1 o1 hv hJ hoff1 F₁ N₁
            generalize hQ1 : TurnO _ _ _ _ _ _ = Q1
            refine hJ.turn hoff1 F₁ N₁ ?_
            clear F₁ N₁ hoff1 hJ
            intro ts lo fz cc oc oP ps vP z F₁ N₁ hzI1 u1 u2 u3 u4 u5 u6 u7 u8 u9 u10 hfI1 dP' hRO hlq TRi hSt f1 f2 f3 f4 g1 g2 g3 g4 g5
            obtain ⟨x, tx, rfl, hx⟩ := IntsAre.at hI q v hv
            have hq9 := (List.getElem?_eq_some_iff.mp hx).1
            obtain ⟨x0, x1⟩ := hns x (lentAt_held (by omega) x (List.mem_of_getElem? hx))
            have hzP : ∀ p ∈ (L' + 1 + 1, oR) :: (L' + 1, oA) :: (cc, oc) :: fz, p.1 ≠ L' + 1 + 1 + 1 := by ktr_units
            have hPlz : PlacesAt fz D4 rs ns := hPl2.sub fun h' S => (hSt h' S).1
            have hsort := placesOf_sorted ns x
            have hplen := placesOf_len ns x
            have hcle := countLe_le (placesOf ns x) (0 + (i : Int))
            have hpl9 : (placesOf ns x ++ [9]).length = (placesOf ns x).length + 1 := by simp
            (try k_fold)
            k_steps
            (with_reducible rename News _ _ _ _ => N9); (with_reducible rename Fr _ _ _ _ => F9)
            rename_i pr hh1 lPr hh2 oQ dPr
            refine kla_eval rfl ?_
            have N10 : News gh L' _ ((134, tabObj ps) :: (cc, oc) :: (pr, _) :: (ln, lo) :: (I1, o1) :: (I0, o0) :: (wD, wo) :: (cD, co) :: (H, listOf vs.toArray nv) :: (L' + 1 + 1 + 1, oQ) :: (L' + 1 + 1, oR) :: (L' + 1, oA) :: fz) := (pickAll N9 [9, 13, 0, 4, 3, 5, 6, 7, 8, 10, 11, 12] 14 :)
            obtain ⟨oTup, eTup⟩ := name3 N10
            rw [← eTup] at N10
            have hPT : ∀ h' : Heap, h'.get? pr = some oTup → ∃ t u, h'.IsTuple pr #[.int (nextAt ns x (0 + (i : Int))) t, .int x u] ∧ Value.int x u ∈ vs := by
              intro h' e
              rw [eTup] at e
              exact ⟨_, tx, ⟨_, e, rfl, _, rfl⟩, List.mem_of_getElem? hv⟩
            clear eTup
            have hr10 : ∀ z ∈ (pr, oTup) :: (ln, lo) :: (I1, o1) :: (I0, o0) :: (wD, wo) :: (cD, co) :: (H, listOf vs.toArray nv) :: (L' + 1 + 1 + 1, oQ) :: (L' + 1 + 1, oR) :: (L' + 1, oA) :: fz, z.1 ≠ 134 := by ktr_units
            refine' lam_make3 [ln, I1, I0, H, L' + 1 + 1 + 1] F9 N10 T (lent_code X) ?cd g1 hr10 ?tr ?_ ?cl ?_
            case cd => exact rfl
            case cl => exact rfl
            case tr => exact TRi
            · simp only [List.forall_mem_cons]
              exact ⟨⟨by ktr_room, _, by k_mem⟩, ⟨by ktr_room, _, by k_mem⟩, ⟨by ktr_room, _, by k_mem⟩, ⟨by ktr_room, _, by k_mem⟩, ⟨by ktr_room, _, by k_mem⟩, List.forall_mem_nil _⟩
            · intro f c' cc' oc' ctv ps' h' tk F' N' TR' hCR ccP fP fcc hAf hrf
              simp only [List.forall_mem_cons] at hAf
              obtain ⟨⟨ha1, ha2, ha3⟩, ⟨hb1, hb2, hb3⟩, ⟨hc1, hc2, hc3⟩, ⟨hd1, hd2, hd3⟩, ⟨he1, he2, he3⟩, _⟩ := hAf
              k_steps
              (with_reducible rename News _ _ _ _ => N11)
              have hS11 : Stands fz _ := stands_of N11 (by ktr_rel)
              k_dflt (refine' use_insort (side := side) (y := (nextAt ns x (0 + (i : Int)), x)) (ps := lineUp side ns (lentAt room side ns i).held (0 + (i : Int)) q) ?B ?F ?X ?N ?T ?hk ?hd ?hu ?U ?l ?z ?P ?R ?Z ?_; (case B => assumption); (case F => k_asm); (case X => assumption); (case N => exact N11); (case T => assumption); (case hk => rfl); (case hd => omega); (case hu => omega); (case l => assumption); (case z => omega))
              case U =>
                refine UpdF.tail ?_ (UpdF.tail ?_ (UpdF.tail ?_ (UpdF.tail ?_ (UpdF.head ?_))))
                · exact Ne.symm ha3
                · exact Nat.ne_of_lt v5
                · exact Ne.symm ha2
                · ktr_room
                · ktr_units
              case P => exact (hSt _ (stands_hide hS11 f4)).2.pairs
              case R =>
                have gT := hideAll_get [ln] (N11.get (a := pr) (o := oTup) (by k_mem)) (fun e => absurd (List.mem_singleton.mp e) (by ktr_room))
                obtain ⟨t9, u9, i9, _⟩ := hPT _ gT
                exact ⟨t9, u9, i9⟩
              case Z =>
                have gO := hideAll_get [ln] (N11.get (a := L' + 1 + 1) (o := oR) (by k_mem)) (fun e => absurd (List.mem_singleton.mp e) (by ktr_room))
                have gP := hideAll_get [ln] (N11.get (a := L' + 1 + 1 + 1) (o := oQ) (by k_mem)) (fun e => absurd (List.mem_singleton.mp e) (by ktr_room))
                have gF := hideAll_get [ln] (N11.get (.head _)) (fun e => absurd (List.mem_singleton.mp e) (Ne.symm ha3))
                have gT := hideAll_get [ln] (N11.get (a := pr) (o := oTup) (by k_mem)) (fun e => absurd (List.mem_singleton.mp e) (by ktr_room))
                have gQ : Order (hideAll _ [ln]) oT side := hOrd _ (hSt _ (stands_hide hS11 f4)).1
                have gC := codeRec_hide hCR (Ne.symm ha1)
                obtain ⟨t9, u9, i9, _⟩ := hPT _ gT
                have gZ := lamAt_of (side := side) (x := (nextAt ns x (0 + (i : Int)), x)) gF gC gO (by assumption) gP dPr gQ ⟨t9, u9, i9⟩
                exact gZ lent_lam
              intro h' tk' o' F' N' hRO' hsp
              k_steps
              (with_reducible rename News _ _ _ _ => N12); (with_reducible rename Fr _ _ _ _ => F12)
              have TR'' : TabR3 gh lamPos lamQual ps' cc' oc' := TR'
              have hzn : ∀ z ∈ (ln, o') :: (I0, o0) :: (wD, wo) :: (cD, co) :: (H, listOf vs.toArray nv) :: (134, tabObj ps') :: (L' + 1 + 1 + 1, oQ) :: (L' + 1 + 1, oR) :: (L' + 1, oA) :: (cc', oc') :: (pr, oTup) :: fz, z.1 ≠ I1 := by ktr_units
              have hz1 : ∀ z ∈ (pr, oTup) :: fz, z.1 ≠ 134 := by ktr_units
              have hz2 : ∀ z ∈ (pr, oTup) :: fz, z.1 ≠ H := by ktr_units
              have hz3 : ∀ z ∈ (pr, oTup) :: fz, z.1 ≠ L' + 1 + 1 + 1 := by ktr_units
              have hz4 : ∀ z ∈ (pr, oTup) :: fz, z.1 ≠ ln := by ktr_units
              subst hQ1
              refine TurnO.nextN (nx' := ((ln, o') :: (I0, o0) :: (wD, wo) :: (cD, co) :: (H, listOf vs.toArray nv) :: (134, tabObj ps') :: (L' + 1 + 1 + 1, oQ) :: (L' + 1 + 1, oR) :: (L' + 1, oA) :: (cc', oc') :: (pr, oTup) :: fz)) F12 (pickAll N12 [5, 4, 6, 7, 8, 9, 1, 10, 11, 12, 2, 3] 13 :) hzn (fun _ => LineJ.mk rfl rfl rfl rfl rfl rfl rfl rfl dPr hRO' ?_ TR'' ?_ hz1 hz2 hz3 hz4 ccP (Ne.symm hd2) (Ne.symm he2) (Ne.symm ha2) (Ne.symm hc2))
              · simp only [List.length_append, List.length_cons, List.length_take, List.length_drop]; omega
              · intro h' S
                obtain ⟨S1, S2⟩ := hSt h' (fun p hp => S p (.tail _ hp))
                rw [lineUp_succ hx]
                obtain ⟨t9, u9, i9, m9⟩ := hPT _ (S _ (.head _))
                exact ⟨S1, S2.ins hsp i9 m9⟩
          · intro m₁ nx hp tkq hJ F₁ N₁
            refine hJ.done F₁ N₁ ?_
            clear F₁ N₁ hJ
            intro ts lo fz cc oc oP ps vP z F₁ N₁ dP' hRO hlq TRi hSt f1 f2 f3 f4 g1 g2 g3 g4 g5
            have hlv : vs.length = (lentAt room side ns i).held.length := hI.length
            have hS9 : Stands fz _ := stands_of N₁ (by ktr_rel)
            have hLn := (hSt _ hS9).2
            have hl1 : 1 ≤ ts.length := by omega
            have hH9 : HeadAt fz (geta ts 0) (outOf side ns (lentAt room side ns i).held (0 + (i : Int))) vs := by
              intro h' S
              have x9 := (hSt h' S).2
              have hk1 : 0 < ts.length := hl1
              have hk2 : 0 < (lineUp side ns (lentAt room side ns i).held (0 + (i : Int)) vs.length).length := x9.len ▸ hk1
              obtain ⟨t, u, i9, m9⟩ := x9.at_ 0 ts[0] _ (List.getElem?_eq_getElem hk1) (List.getElem?_eq_getElem hk2)
              have e9 : (lineUp side ns (lentAt room side ns i).held (0 + (i : Int)) vs.length)[0] = getp (lineOf side ns (lentAt room side ns i).held (0 + (i : Int))) 0 := by
                unfold getp
                rw [← lineUp_all, ← hlv, List.getD_eq_getElem?_getD, List.getElem?_eq_getElem hk2]; rfl
              rw [e9] at i9 m9
              unfold geta
              rw [List.getD_eq_getElem?_getD, List.getElem?_eq_getElem hk1]
              exact ⟨_, t, u, i9, m9⟩
            have hout : outOf side ns (lentAt room side ns i).held (0 + (i : Int)) ∈ (lentAt room side ns i).held := by
              obtain ⟨_, _, u, _, m9⟩ := hH9 _ hS9
              exact ints_memV hI m9
            have hix := List.idxOf_lt_length_of_mem hout
            dsimp only
            (try k_fold)
            k_steps
            (with_reducible rename News _ _ _ _ => N13); (with_reducible rename DObj _ _ _ => hDw)
            rename_i oH2 hL2 keep2 dW hh3 oW2 loW2 hdW tV hV2 hh4 oW3 hDW wr wro hh5 tk5 loW5 keep5 hh6 F66
            have S13 : Stands fz _ := stands_of N13 (by ktr_rel)
            have N14 : News gh L' _ ((wr, wro) :: (I0, o0) :: (cD, co) :: (H, oH2) :: (134, tabObj ps) :: (L' + 1 + 1 + 1, oP) :: (L' + 1 + 1, oR) :: (L' + 1, oA) :: (cc, oc) :: fz2) :=
              newsK N13 (by k_mem) (newsK N13 (by k_mem) (newsK N13 (by k_mem) (newsK N13 (by k_mem) (newsK N13 (by k_mem) (newsK N13 (by k_mem) (newsK N13 (by k_mem) (newsK N13 (by k_mem) (newsK N13 (by k_mem) fun z hm9 => ⟨(hSt _ S13).1 z hm9, hfz0 z hm9⟩))))))))
            have hle9 : ((lentAt room side ns i).held.eraseIdx (((lentAt room side ns i).held.idxOf (outOf side ns (lentAt room side ns i).held (0 + (i : Int))) : Nat) : Int).toNat).length ≤ (lentAt room side ns i).held.length := List.length_eraseIdx_le _ _
            have wr1 : (@Ne Nat wr 134) ∧ (@Ne Nat wr H) ∧ (@Ne Nat wr (L' + 1 + 1 + 1)) ∧ (@Ne Nat wr I0) := by refine ⟨?_, ?_, ?_, ?_⟩ <;> omega
            have lo9 : (wr == sysModules) = false := by assumption
            clear N13
            refine fun hT2 => ?_
            (try dsimp only at hT2)
            (try dsimp only)
            refine execs_consT ?_
            (try k_fold)
            k_steps
            (rename NewTok _ _ _ _ => hN1); (with_reducible rename LV _ _ _ => hLV1); (rename _ ≤ _ => hTi)
            dsimp only at hN1 hTi
            refine fun hT3 => ?_
            (try dsimp only at hT3)
            (try dsimp only)
            refine execs_consT ?_
            (try k_fold)
            k_steps
            refine fun hT4 => ?_
            (try dsimp only at hT4)
            (try dsimp only)
            refine wpAny_execs_nil ?_
            (with_reducible rename News _ _ _ _ => N12); (with_reducible rename Fr _ _ _ _ => F12); (with_reducible rename DObj _ _ _ => hD12)
            rename_i oH keep6 d6 hh7 o6 lo6 hd6 t6 tk66 hNT6 hh8 o66 hD6 r9 o9 hh9 tk9 lo66 keep66 hh10
            have hst : lentAt room side ns (i + 1) = ⟨(lentAt room side ns i).held.eraseIdx ((lentAt room side ns i).held.idxOf (outOf side ns (lentAt room side ns i).held (0 + (i : Int)))) ++ [geti ns (0 + (i : Int))], addC (lentAt room side ns i).came [(some (geti ns (0 + (i : Int))), 1)], addC (lentAt room side ns i).went [(some (outOf side ns (lentAt room side ns i).held (0 + (i : Int))), 1)]⟩ := by
              rw [lentAt_succ]; unfold lentStep; rw [if_neg (Bool.eq_false_iff.mp (by assumption)), if_pos (by assumption)]
            have hok := HOk.add ((HOk.sub (vs' := vs.eraseIdx (((lentAt room side ns i).held.idxOf (outOf side ns (lentAt room side ns i).held (0 + (i : Int))) : Nat) : Int).toNat) hHO fun v m => List.mem_of_mem_eraseIdx m).up (Nat.le_succ tkn)) (Nat.succ_pos tkn) (by omega) hN1 hsm
            have hoI : ∀ z ∈ (wr, wro) :: (r9, o9) :: (H, oH) :: (134, tabObj ps) :: (L' + 1 + 1 + 1, oP) :: (L' + 1 + 1, oR) :: (L' + 1, oA) :: (cc, oc) :: fz2, z.1 ≠ I0 := by ktr_units
            subst hQQ
            refine TurnO.nextN (nx' := ((wr, wro) :: (r9, o9) :: (H, oH) :: (134, tabObj ps) :: (L' + 1 + 1 + 1, oP) :: (L' + 1 + 1, oR) :: (L' + 1, oA) :: (cc, oc) :: fz2)) F12 (pickAll N12 [4, 3, 0, 6, 7, 8, 9, 10, 11] 12 :) hoI (fun _ => ?_)
            · refine LentJ.mk rfl rfl rfl rfl rfl rfl dP' ?_ (hok.up (by omega)) TRi (by assumption) lo9 ?_ ?_ g1 g2 g3 wr1.1 wr1.2.1 wr1.2.2.1 (by omega) (by omega) (by omega)
              · rw [hst]; exact hLV1
              · rw [hst]; exact hD12
              · rw [hst]; exact hDw
        · refine fun hT2 => ?_
          (try dsimp only at hT2)
          (try dsimp only)
          refine execs_consT ?_
          (try k_fold)
          k_steps
          (rename NewTok _ _ _ _ => hN1); (with_reducible rename LV _ _ _ => hLV1); (rename _ ≤ _ => hTi)
          dsimp only at hN1 hTi
          refine fun hT3 => ?_
          (try dsimp only at hT3)
          (try dsimp only)
          refine execs_consT ?_
          (try k_fold)
          k_steps
          refine fun hT4 => ?_
          (try dsimp only at hT4)
          (try dsimp only)
          refine wpAny_execs_nil ?_
          (with_reducible rename News _ _ _ _ => N12); (with_reducible rename Fr _ _ _ _ => F12); (with_reducible rename DObj _ _ _ => hD12)
          rename_i oH keep6 d6 hh7 o6 lo6 hd6 t6 tk66 hNT6 hh8 o66 hD6 r9 o9 hh9 tk9 lo66 keep66 hh10
          have hst : lentAt room side ns (i + 1) = ⟨(lentAt room side ns i).held ++ [geti ns (0 + (i : Int))], addC (lentAt room side ns i).came [(some (geti ns (0 + (i : Int))), 1)], (lentAt room side ns i).went⟩ := by
            rw [lentAt_succ]; unfold lentStep; rw [if_neg (Bool.eq_false_iff.mp (by assumption)), if_neg (by assumption)]
          have hok := HOk.add (hHO.up (Nat.le_succ tkn)) (Nat.succ_pos tkn) (by omega) hN1 hsm
          have hoI : ∀ z ∈ (wD, wo) :: (r9, o9) :: (H, oH) :: (134, tabObj ps) :: (L' + 1 + 1 + 1, oP) :: (L' + 1 + 1, oR) :: (L' + 1, oA) :: (cc, oc) :: fz2, z.1 ≠ I0 := by ktr_units
          subst hQQ
          refine TurnO.nextN (nx' := ((wD, wo) :: (r9, o9) :: (H, oH) :: (134, tabObj ps) :: (L' + 1 + 1 + 1, oP) :: (L' + 1 + 1, oR) :: (L' + 1, oA) :: (cc, oc) :: fz2)) F12 (pickAll N12 [3, 4, 0, 6, 7, 8, 9, 10, 11] 12 :) hoI (fun _ => ?_)
          · refine LentJ.mk rfl rfl rfl rfl rfl rfl dP' ?_ (hok.up (by omega)) TRi (by assumption) loW ?_ ?_ n1 n2 n3 n4 n5 n6 (by omega) (by omega) (by omega)
            · rw [hst]; exact hLV1
            · rw [hst]; exact hD12
            · rw [hst]; exact DW
    · intro m₁ nx hp tkn hJ F₁ N₁
      refine hJ.done F₁ N₁ ?_
      clear F₁ N₁ hJ
      intro wD cD wo co ho vs cc oc oP ps vP z F₁ N₁ dP' hLV hHO TRi loC loW DC DW n1 n2 n3 n4 n5 n6 n7 n8 n9
      k_steps
      (with_reducible rename News _ _ _ _ => N15); (with_reducible rename Fr _ _ _ _ => F15)
      rename_i T9 hh1 l9
      refine RetUpd.intro hgh F15 N15 (by k_mem) ⟨⟨T9, cD, wD, H, co, wo, ho, vs, rfl, unhide hgh (N15.fresh (.head _)) (by ktr_room), ⟨_, N15.get (.head _), rfl, _, rfl⟩, ⟨unhide hgh (N15.fresh (o := co) (by k_mem)) n7, loC, N15.get (by k_mem), DC⟩, ⟨unhide hgh (N15.fresh (o := wo) (by k_mem)) n4, loW, N15.get (by k_mem), DW⟩, ⟨unhide hgh (N15.fresh (o := ho) (by k_mem)) (by ktr_room), N15.get (by k_mem), hLV⟩⟩, TRi.tab (N15.get (by k_mem)) F15.keep⟩
theorem fresh_W1 : True := by w_top off; trivial

noncomputable def bodyIs {P : Params} {oc dV kV doc pm cdv ct : Value} {od an : Option Addr} {osl : Array (Option Value)} {name qual : Str} {params : Arguments} {body : List Stmt} {scope : Scope}
    (_ : (Mine.hd.heap_1 P).lookup 162 = some ⟨oc, od, .func (fnOf name qual params body scope dV kV doc pm an cdv ct), osl⟩) : List Stmt × Scope := (body, scope)
noncomputable def lawFn (P : Params) : List Stmt × Scope := by
  refine' bodyIs (P := P) ?h; (case h => k_is)
noncomputable def forB : List Stmt → List Stmt
  | .For _ _ b _ _ :: _ => b
  | _ => []
noncomputable def tailOf (P : Params) (k : Nat) : List Stmt := (lawFn P).1.drop k
noncomputable def loop2 (P : Params) : List Stmt := forB (tailOf P 9)
noncomputable def inner (P : Params) : List Stmt := forB ((loop2 P).drop 1)
noncomputable abbrev lawEnv (P : Params) (L' : Addr) : Env := envOfC (Str.ofString "law") (lawFn P).2 L' 162 (.ref 161)
noncomputable abbrev lawA (P : Params) (dp un : Nat) (gd : Option (List Code)) (L' : Addr) : Around := ktrTop dp un gd (Str.ofString "law") (lawFn P).2 L' 162 (.ref 161) (cellsFrom (L' + 1) (lawFn P).2.names []) []

noncomputable def dist (l : List Int) : Nat := ((rangeKs 0 4).filter (fun th => l.contains th)).length
noncomputable def keyOf (x : Int) (r : List Int) : Key := if r.contains x = true then some (dist (r.takeWhile (fun y => y != x)) : Int) else none
noncomputable def keysOf : List Int → List Key
  | [] => []
  | x :: r => keyOf x r :: keysOf r
noncomputable def RR : List Int → List Int
  | [] => []
  | x :: r => x :: (RR r).filter (fun y => y != x)
theorem dist_congr {l m : List Int} (h : ∀ x, x ∈ l ↔ x ∈ m) : dist l = dist m := by
  unfold dist
  congr 1
  refine List.filter_congr fun x _ => ?_
  have := h x
  by_cases q : x ∈ l
  · rw [List.contains_iff_mem.mpr q, List.contains_iff_mem.mpr (this.mp q)]
  · have q' : x ∉ m := fun e => q (this.mpr e)
    rw [Bool.eq_false_iff.mpr (fun e => q (List.contains_iff_mem.mp e)), Bool.eq_false_iff.mpr (fun e => q' (List.contains_iff_mem.mp e))]
theorem dist_rev (l : List Int) : dist l.reverse = dist l := dist_congr fun _ => List.mem_reverse
theorem takeWhile_snoc_in {x y : Int} {l : List Int} (h : x ∈ l) : (l ++ [y]).takeWhile (fun z => z != x) = l.takeWhile (fun z => z != x) := by
  induction l with
  | nil => cases h
  | cons a r ih =>
    by_cases e : a = x
    · subst e; simp
    · rw [List.cons_append, List.takeWhile_cons, List.takeWhile_cons]
      have : (a != x) = true := by simpa using e
      rw [this, if_pos rfl, if_pos rfl, ih (by rcases List.mem_cons.mp h with q | q; exact absurd q.symm e; exact q)]
theorem takeWhile_snoc_out {x : Int} {l : List Int} (h : x ∉ l) : (l ++ [x]).takeWhile (fun z => z != x) = l := by
  induction l with
  | nil => simp
  | cons a r ih =>
    have : (a != x) = true := by simpa using fun e : a = x => h (e ▸ .head _)
    rw [List.cons_append, List.takeWhile_cons, this, if_pos rfl, ih fun q => h (.tail _ q)]
theorem keyOf_in {x : Int} {r : List Int} (h : x ∈ r) : keyOf x r = some (dist (r.takeWhile (fun y => y != x)) : Int) := if_pos (List.contains_iff_mem.mpr h)
theorem keyOf_out {x : Int} {r : List Int} (h : x ∉ r) : keyOf x r = none := if_neg fun e => h (List.contains_iff_mem.mp e)
theorem keyOf_other {x y : Int} {l : List Int} (h : x ≠ y) : keyOf x (l ++ [y]) = keyOf x l := by
  by_cases q : x ∈ l
  · rw [keyOf_in (List.mem_append_left _ q), keyOf_in q, takeWhile_snoc_in q]
  · rw [keyOf_out q, keyOf_out]
    intro e
    rcases List.mem_append.mp e with e | e
    · exact q e
    · exact h (List.mem_singleton.mp e)
theorem keys_snoc (x : Int) : ∀ r : List Int, (keysOf (r ++ [x])).Perm (keyOf x r.reverse :: keysOf r)
  | [] => .refl _
  | y :: r => by
    show (keyOf y (r ++ [x]) :: keysOf (r ++ [x])).Perm (keyOf x (y :: r).reverse :: keyOf y r :: keysOf r)
    refine ((keys_snoc x r).cons _).trans ?_
    rw [List.reverse_cons]
    by_cases e : x = y
    · subst e
      by_cases q : x ∈ r
      · have q' : x ∈ r.reverse := List.mem_reverse.mpr q
        rw [keyOf_in (List.mem_append_left _ q), takeWhile_snoc_in q, ← keyOf_in q, keyOf_in (List.mem_append_left _ q'), takeWhile_snoc_in q', ← keyOf_in q']
        exact .swap _ _ _
      · have q' : x ∉ r.reverse := fun h => q (List.mem_reverse.mp h)
        rw [keyOf_in (List.mem_append_right _ (.head _)), takeWhile_snoc_out q, keyOf_in (List.mem_append_right _ (.head _)), takeWhile_snoc_out q', keyOf_out q, keyOf_out q', dist_rev]
    · rw [keyOf_other (fun h => e h.symm), keyOf_other e]
      exact .swap _ _ _
theorem keys_rev : ∀ r : List Int, (keysOf r.reverse).Perm (keysOf r)
  | [] => .refl _
  | y :: r => by
    rw [List.reverse_cons]
    refine (keys_snoc y r.reverse).trans ?_
    rw [List.reverse_reverse]
    exact (keys_rev r).cons _
noncomputable def bump (b : List (Key × Int)) (k : Key) : List (Key × Int) := dput b k ((dget b k).getD 0 + 1)
noncomputable def bk : List Key → List (Key × Int)
  | [] => []
  | k :: ks => bump (bk ks) k
theorem dget_bump (b : List (Key × Int)) (k j : Key) : dget (bump b k) j = if j = k then some ((dget b k).getD 0 + 1) else dget b j := dget_dput _ _ _ _
theorem dget_bk (j : Key) : ∀ ks, dget (bk ks) j = if ks.count j = 0 then none else some (ks.count j : Int)
  | [] => rfl
  | k :: ks => by
    show dget (bump (bk ks) k) j = _
    rw [dget_bump, List.count_cons]
    by_cases e : j = k
    · subst e
      rw [if_pos rfl, dget_bk j ks]
      simp only [beq_self_eq_true, if_true]
      rw [if_neg (Nat.succ_ne_zero _)]
      split
      · rename_i h; rw [h]; rfl
      · rfl
    · have e2 : (k == j) = false := by simpa using fun h => e h.symm
      rw [if_neg e, dget_bk j ks, e2]
      simp
theorem addC_one (b : List (Key × Int)) (k : Key) : addC b [(k, 1)] = bump b k := by
  unfold addC bump
  show addStep b (k, 1) = _
  unfold addStep
  cases dget b k <;> rfl
noncomputable def DEq (a b : List (Key × Int)) : Prop := a.length = b.length ∧ ∀ x ∈ a, dget b x.1 = some x.2
theorem dget_mem {b : List (Key × Int)} {k : Key} {v : Int} (h : dget b k = some v) : (k, v) ∈ b := by
  unfold dget at h
  cases q : b.find? (fun x => decide (x.1 = k)) with
  | none => rw [q] at h; cases h
  | some x =>
    rw [q] at h
    have h' : x.2 = v := Option.some.inj h
    have hk : x.1 = k := of_decide_eq_true (List.find?_some (p := fun x : Key × Int => decide (x.1 = k)) q)
    have := List.mem_of_find?_eq_some q
    rw [← h', ← hk]; exact this
theorem DEq.of_get {a b : List (Key × Int)} (na : (a.map (·.1)).Nodup) (nb : (b.map (·.1)).Nodup) (h : ∀ k, dget a k = dget b k) : DEq a b := by
  have sub : ∀ {a b : List (Key × Int)}, (a.map (·.1)).Nodup → (∀ k, dget a k = dget b k) → ∀ x ∈ a, dget b x.1 = some x.2 := by
    intro a b na h x hx
    obtain ⟨i, hi⟩ := List.mem_iff_getElem?.mp hx
    rw [← h]; exact dget_at na (j := i) hi
  have len : ∀ {a b : List (Key × Int)}, (a.map (·.1)).Nodup → (∀ k, dget a k = dget b k) → a.length ≤ b.length := by
    intro a b na h
    have := nodup_length na (r := b.map (·.1)) fun k hk => by
      obtain ⟨x, hx, rfl⟩ := List.mem_map.mp hk
      exact List.mem_map.mpr ⟨_, dget_mem (sub na h x hx), rfl⟩
    rw [List.length_map, List.length_map] at this
    exact this
  exact ⟨Nat.le_antisymm (len na h) (len nb fun k => (h k).symm), sub na h⟩
theorem dput_nodup {b : List (Key × Int)} (k : Key) (v : Int) (h : (b.map (·.1)).Nodup) : ((dput b k v).map (·.1)).Nodup := by
  unfold dput
  split
  · rw [List.map_map]
    have : ((fun x : Key × Int => x.1) ∘ fun x => if x.1 = k then (x.1, v) else x) = fun x => x.1 := by
      funext x
      simp only [Function.comp]
      split <;> rfl
    rw [this]; exact h
  · rename_i q
    rw [List.map_append, List.nodup_append]
    refine ⟨h, List.nodup_cons.mpr ⟨List.not_mem_nil, .nil⟩, fun a ha b' hb e => q ?_⟩
    obtain ⟨x, hx, hxa⟩ := List.mem_map.mp ha
    have hb' : b' = k := List.mem_singleton.mp hb
    exact List.any_eq_true.mpr ⟨x, hx, decide_eq_true (hxa.trans (e.trans hb'))⟩
theorem bk_nodup : ∀ ks, ((bk ks).map (·.1)).Nodup
  | [] => .nil
  | k :: ks => dput_nodup _ _ (bk_nodup ks)
theorem bk_perm {a b : List Key} (h : a.Perm b) : DEq (bk a) (bk b) := .of_get (bk_nodup a) (bk_nodup b) fun k => by rw [dget_bk, dget_bk, h.count_eq]
theorem RR_mem {y : Int} : ∀ {r : List Int}, y ∈ RR r ↔ y ∈ r
  | [] => Iff.rfl
  | x :: r => by
    show y ∈ x :: (RR r).filter (fun y => y != x) ↔ _
    rw [List.mem_cons, List.mem_cons, List.mem_filter, RR_mem (r := r)]
    constructor
    · rintro (h | h)
      · exact .inl h
      · exact .inr h.1
    · rintro (h | h)
      · exact .inl h
      · by_cases e : y = x
        · exact .inl e
        · exact .inr ⟨h, by simpa using e⟩
theorem nodup_filter {α : Type} (p : α → Bool) {l : List α} (h : l.Nodup) : (l.filter p).Nodup := List.Pairwise.filter _ h
theorem RR_nodup : ∀ r : List Int, (RR r).Nodup
  | [] => .nil
  | x :: r => List.nodup_cons.mpr ⟨fun h => by have := (List.mem_filter.mp h).2; simp at this, nodup_filter _ (RR_nodup r)⟩
noncomputable def Four (r : List Int) : Prop := ∀ x ∈ r, 0 ≤ x ∧ x < 4
theorem dist_RR {r : List Int} (h : Four r) : (RR r).length = dist r := by
  unfold dist
  refine Nat.le_antisymm (nodup_length (RR_nodup r) fun x hx => ?_) (nodup_length ?_ fun x hx => ?_)
  · have hx' := RR_mem.mp hx
    have := h x hx'
    refine List.mem_filter.mpr ⟨?_, List.contains_iff_mem.mpr hx'⟩
    unfold rangeKs
    exact List.mem_map.mpr ⟨x.toNat, List.mem_range.mpr (by omega), by omega⟩
  · exact nodup_filter _ (by decide)
  · exact RR_mem.mpr (List.contains_iff_mem.mp (List.mem_filter.mp hx).2)
theorem takeWhile_filter {x y : Int} (h : x ≠ y) : ∀ l : List Int, (l.filter (fun z => z != y)).takeWhile (fun z => z != x) = (l.takeWhile (fun z => z != x)).filter (fun z => z != y)
  | [] => rfl
  | a :: l => by
    by_cases e : a = x
    · subst e
      have : (a != y) = true := by simpa using h
      rw [List.filter_cons_of_pos (by exact this), List.takeWhile_cons, List.takeWhile_cons]
      simp
    · have e1 : (a != x) = true := by simpa using e
      by_cases e2 : a = y
      · subst e2
        rw [List.filter_cons_of_neg (by simp), takeWhile_filter h l, List.takeWhile_cons, e1, if_pos rfl, List.filter_cons_of_neg (by simp)]
      · have e3 : (a != y) = true := by simpa using e2
        rw [List.filter_cons_of_pos (by exact e3), List.takeWhile_cons, List.takeWhile_cons, e1, if_pos rfl, if_pos rfl, List.filter_cons_of_pos (by exact e3), takeWhile_filter h l]
theorem RR_takeWhile (x : Int) : ∀ r : List Int, (RR r).takeWhile (fun z => z != x) = RR (r.takeWhile (fun z => z != x))
  | [] => rfl
  | y :: r => by
    show (y :: (RR r).filter (fun z => z != y)).takeWhile _ = _
    rw [List.takeWhile_cons, List.takeWhile_cons]
    by_cases e : y = x
    · subst e; simp; rfl
    · have e1 : (y != x) = true := by simpa using e
      rw [e1, if_pos rfl, if_pos rfl, takeWhile_filter (fun h => e h.symm), RR_takeWhile x r]
      rfl
theorem Four.sub {r l : List Int} (h : Four r) (s : ∀ x ∈ l, x ∈ r) : Four l := fun x hx => h x (s x hx)
theorem keyOf_RR {x : Int} {r : List Int} (h : Four r) (hx : x ∈ r) : keyOf x r = some (((RR r).takeWhile (fun z => z != x)).length : Int) := by
  rw [keyOf_in hx, RR_takeWhile, dist_RR (h.sub fun y hy => (List.takeWhile_sublist _).mem hy)]
theorem nodup_place {l : List Int} {x : Int} (hn : l.Nodup) : ∀ {k : Nat}, l[k]? = some x → (l.takeWhile (fun z => z != x)).length = k ∧ l.eraseIdx k = l.filter (fun z => z != x) := by
  induction l with
  | nil => intro k h; simp at h
  | cons a l ih =>
    intro k h
    have hn' := List.nodup_cons.mp hn
    cases k with
    | zero =>
      simp only [List.getElem?_cons_zero, Option.some.injEq] at h
      subst h
      refine ⟨by simp, ?_⟩
      rw [List.filter_cons_of_neg (by simp), List.eraseIdx_zero, List.tail_cons]
      exact (List.filter_eq_self.mpr fun z hz => by simpa using fun e : z = a => hn'.1 (e ▸ hz)).symm
    | succ k =>
      simp only [List.getElem?_cons_succ] at h
      obtain ⟨i1, i2⟩ := ih hn'.2 h
      have e : (a != x) = true := by simpa using fun e : a = x => hn'.1 (e ▸ List.mem_of_getElem? h)
      rw [List.takeWhile_cons, e, if_pos rfl, List.filter_cons_of_pos (by exact e), List.eraseIdx_cons_succ, i2, List.length_cons, i1]
      exact ⟨rfl, rfl⟩
theorem nodup_rev {l : List Int} (h : l.Nodup) : l.reverse.Nodup := List.pairwise_reverse.mpr (h.imp fun x e => x e.symm)
theorem map_erase (f : Int → Int) : ∀ (l : List Int) (j : Nat), (l.eraseIdx j).map f = (l.map f).eraseIdx j
  | [], j => by simp
  | a :: l, 0 => rfl
  | a :: l, j + 1 => by simp [map_erase f l j]
theorem rev_get {l : List Int} {j : Nat} {x : Int} (h : l.reverse[j]? = some x) : j < l.length ∧ l[l.length - 1 - j]? = some x := by
  have hj : j < l.length := by
    have := (List.getElem?_eq_some_iff.mp h).1
    rwa [List.length_reverse] at this
  rw [List.getElem?_reverse hj] at h
  exact ⟨hj, h⟩
noncomputable def back (ns : List Int) (i : Nat) : List Int := (ns.take i).reverse
theorem back_succ {ns : List Int} {i : Nat} (h : i < ns.length) : back ns (i + 1) = geti ns (0 + (i : Int)) :: back ns i := by
  unfold back
  rw [List.take_add_one, List.getElem?_eq_getElem h]
  have : geti ns (0 + (i : Int)) = ns[i] := by rw [Int.zero_add]; exact geti_eq h
  rw [this]; simp
theorem since_is {ns : List Int} (h4 : Four ns) : ∀ i, i ≤ ns.length →
    (sinceAt ns i).1.map (geti ns) = (RR (back ns i)).reverse ∧ (∀ k, dget (sinceAt ns i).2.1 (some k) = none ↔ k ∉ back ns i) ∧ (sinceAt ns i).2.2 = bk (keysOf (back ns i))
  | 0, _ => ⟨rfl, fun k => ⟨fun _ => List.not_mem_nil, fun _ => rfl⟩, rfl⟩
  | i + 1, hi => by
    obtain ⟨h1, h2, h3⟩ := since_is h4 i (by omega)
    have I := since_inv ns i
    have hb : back ns (i + 1) = geti ns (0 + (i : Int)) :: back ns i := back_succ (by omega)
    have f4 : Four (back ns i) := h4.sub fun x hx => List.mem_of_mem_take (List.mem_reverse.mp hx)
    generalize hth : geti ns (0 + (i : Int)) = th at hb
    have hd : ∀ (b : List (Key × Int)), b = (sinceAt ns i).2.1 → ∀ k, dget (dput b (some th) (0 + (i : Int))) (some k) = none ↔ k ∉ th :: back ns i := by
      intro b hb k
      subst hb
      rw [dget_dput]
      by_cases e : k = th
      · subst e; simp
      · rw [if_neg (fun q => e (Option.some.inj q)), h2 k]; simp [e]
    cases hg : dget (sinceAt ns i).2.1 (some th) with
    | none =>
      have hout := (h2 th).mp hg
      rw [since_new (by rw [hth]; exact hg), hb]
      refine ⟨?_, fun k => ?_, ?_⟩
      · show ((sinceAt ns i).1 ++ [0 + (i : Int)]).map (geti ns) = (th :: (RR (back ns i)).filter (fun y => y != th)).reverse
        rw [List.map_append, h1, List.reverse_cons, List.filter_eq_self.mpr]
        · rw [show List.map (geti ns) [0 + (i : Int)] = [th] by rw [List.map_singleton, hth]]
        · intro z hz
          simpa using fun e : z = th => hout (RR_mem.mp (e ▸ hz))
      · rw [hth]; exact hd _ rfl k
      · show addC (sinceAt ns i).2.2 [(none, 1)] = bump (bk (keysOf (back ns i))) (keyOf th (back ns i))
        rw [addC_one, h3, keyOf_out hout]
    | some at_ =>
      have hin : th ∈ back ns i := by
        by_cases q : th ∈ back ns i
        · exact q
        · rw [(h2 th).mpr q] at hg; cases hg
      obtain ⟨m1, m2⟩ := I.held _ _ hg
      obtain ⟨c1, c2⟩ := countLt_at I.sorted m1
      rw [since_old (by rw [hth]; exact hg), hb]
      generalize countLt (sinceAt ns i).1 at_ = j at c1 c2
      have hj : (RR (back ns i)).reverse[j]? = some th := by
        rw [← h1, List.getElem?_map, c2, Option.map_some, m2]
      obtain ⟨r1, r2⟩ := rev_get hj
      obtain ⟨p1, _⟩ := nodup_place (RR_nodup _) r2
      obtain ⟨_, p2⟩ := nodup_place (nodup_rev (RR_nodup (back ns i))) hj
      have hl : (sinceAt ns i).1.length = (RR (back ns i)).length := by
        have := congrArg List.length h1
        rwa [List.length_map, List.length_reverse] at this
      refine ⟨?_, fun k => ?_, ?_⟩
      · show ((sinceAt ns i).1.eraseIdx j ++ [0 + (i : Int)]).map (geti ns) = (th :: (RR (back ns i)).filter (fun y => y != th)).reverse
        rw [List.map_append, map_erase, h1, p2, List.reverse_cons, List.filter_reverse]
        rw [show List.map (geti ns) [0 + (i : Int)] = [th] by rw [List.map_singleton, hth]]
      · rw [hth]; exact hd _ rfl k
      · show addC (sinceAt ns i).2.2 [(some (((sinceAt ns i).1.length : Int) - 1 - (j : Nat)), 1)] = bump (bk (keysOf (back ns i))) (keyOf th (back ns i))
        rw [addC_one, h3, keyOf_RR f4 hin, p1, hl]
        congr 2
        omega

section
theorem valueAt_dget {vals : List (Key × Int × Tok)} {k : Key} {v : Int} (h : dget (flatV vals) k = some v) : ∃ t, valueAt (intPairs vals) k = some (.int v t) := by
  obtain ⟨t, e⟩ := valueAt_intPairs_of_isSome (vals := vals) (k := k) (by rw [intAt_dget, h]; rfl)
  rw [intAt_dget, h] at e
  exact ⟨t, e⟩
theorem hits_of {A : Around} {s : Shared} {vb : List (Key × Int × Tok)} : ∀ {va : List (Key × Int × Tok)}, (∀ x ∈ flatV va, dget (flatV vb) x.1 = some x.2) → KeqHits A s (intPairs vb) (intPairs va) true
  | [], _ => .nil
  | (k, v, t) :: va, h => by
    have e := h (k, v) (.head _)
    obtain ⟨u, hu⟩ := valueAt_dget e
    have := KeqHits.hit (A := A) (s := s) (kb := intPairs vb) (k := k) (v := .int v t) (y := .int v u) (r := intPairs va) (e := true) (b := true) hu (by simpa using SeqAt.EqAt.int_int (A := A) (s := s) v t v u) (hits_of fun x hx => h x (.tail _ hx))
    exact this
section
variable {w : World} {A : Around} {E : Value → Shared → Prop} {s : Shared}
theorem dct_ne {a b : Addr} {ka kb : List (Key × Int)} {Q : Value → Shared → Prop} (da : Dct w s.heap a ka) (db : Dct w s.heap b kb) (h : DEq ka kb) (hu : A.units < cLine) (hq : Q (.bool false) s) : wpAny (model PR w) A (compareOp .NotEq (.ref a) (.ref b)) Q E s := by
  obtain ⟨va, ha, rfl⟩ := da.dictOf
  obtain ⟨vb, hb, rfl⟩ := db.dictOf
  refine keq_ne (r := true) da.1 db.1 ha hb hu (fun _ => hits_of h.2) ?_
  have : ((intPairs va).length == (intPairs vb).length) = true := by
    rw [intPairs_length, intPairs_length, ← flatV_length va, ← flatV_length vb, h.1]; simp
  rw [this]; exact hq
end
inductive SrcK (w : World) (s : Shared) : Value → List Key → Prop
  | list {l : Addr} {vs : List Value} {ks : List Int} : s.heap.IsList l vs.toArray → IntsAre vs ks → SrcK w s (.ref l) (ks.map some)
  | keys {d : Addr} {b : List (Key × Int)} : Dct w s.heap d b → SrcK w s (.ref d) (b.map (·.1))
inductive SrcAtK (w : World) (A : Around) (ks : List Key) (s₁ : Shared) (it : Value) (s₂ : Shared) : Prop
  | intro (oI : _) (fp : _) (P : _) (St : _) (q0 : it = .ref s₁.heap.objs.size) (q1 : s₂ = { s₁ with heap := s₁.heap.push oI }) (q2 : Walks PR w A s₁.heap.objs.size fp [s₁.heap.objs.size] ks.length P St) (q3 : St 0 s₂.heap) (q4 : (∀ b ∈ fp, b < s₂.heap.objs.size)) (q5 : ∀ i v, P i v → ∃ k, ks[i]? = some k ∧ (mk w).is k v = true) : SrcAtK w A ks s₁ it s₂
theorem src_walkK {w : World} {A : Around} {E : Value → Shared → Prop} {s₁ : Shared} {xv : Value} {ks : List Key} (hh : A.handled = none) (S : SrcK w s₁ xv ks) : wpAny (model PR w) A (pyIter xv) (SrcAtK w A ks s₁) E s₁ := by
  cases S with
  | @list l vs ks hl hi =>
    refine wpAny_mono (src_walk hh (SrcI.list (w := w) hl hi)) (fun it s₂ h => ?_) fun _ _ e => e
    obtain ⟨oI, fp, P, St, e1, e2, W, st, lt, hP⟩ := h
    refine ⟨oI, fp, P, St, e1, e2, by rw [List.length_map]; exact W, st, lt, fun i v hv => ?_⟩
    obtain ⟨k, t, e, rfl⟩ := hP i v hv
    exact ⟨some k, by rw [List.getElem?_map, e]; rfl, mk_int w k t⟩
  | @keys d b D =>
    obtain ⟨vals, ep, ha, rfl⟩ := D.at_
    have hlt : d < s₁.heap.objs.size := ha.lt_size
    refine wpAny_pyIter_dict D.1 ha ?_
    refine ⟨_, [s₁.heap.objs.size, d], (fun i v => ∃ k x, (intPairs vals)[i]? = some (k, x) ∧ (mk w).is k v = true), (fun i h => h.IsKeyIter s₁.heap.objs.size d i (intPairs vals).length ep ∧ h.DictAt (mk w) d (intPairs vals) ep), rfl, rfl, ?_, ⟨⟨_, Heap.get?_push_size _ rfl, rfl, rfl⟩, ha.push _⟩, ?_, ?_⟩
    · have W := Walks.dictKeys (prog := PR) (w := w) (knd := mk w) hh s₁.heap.objs.size d (Nat.ne_of_lt hlt) (intPairs vals) ep
      have hlen : (intPairs vals).length = ((flatV vals).map (·.1)).length := by rw [List.length_map, intPairs_length, flatV_length]
      rw [hlen] at W ⊢; exact W
    · intro b hb
      show b < (s₁.heap.push _).objs.size
      rw [Heap.size_push]
      rcases List.mem_cons.mp hb with rfl | hb
      · exact Nat.lt_succ_self _
      · rw [List.mem_singleton.mp hb]; exact Nat.lt_succ_of_lt hlt
    · intro i v xR1; obtain ⟨k, x, hx, hkv⟩ := xR1
      obtain ⟨n, t, _, hb⟩ := pairs_at hx
      exact ⟨k, by rw [List.getElem?_map, hb]; rfl, hkv⟩
noncomputable def KeyAs (w : World) : List Value → List Key → Prop
  | [], [] => True
  | v :: vs, k :: ks => (mk w).is k v = true ∧ KeyAs w vs ks
  | _, _ => False
theorem KeyAs.of {w : World} : ∀ {vs : List Value} {ks : List Key}, vs.length = ks.length → (∀ (i : Nat) (v : Value), vs[i]? = some v → ∃ k, ks[i]? = some k ∧ (mk w).is k v = true) → KeyAs w vs ks
  | [], [], _, _ => trivial
  | [], _ :: _, h, _ => by simp at h
  | _ :: _, [], h, _ => by simp at h
  | v :: vs, k :: ks, h, hP => by
    obtain ⟨k', e, hk⟩ := hP 0 v rfl
    have e' : k = k' := Option.some.inj e
    subst e'
    exact ⟨hk, KeyAs.of (by simpa using h) fun i u hu => by simpa using hP (i + 1) u (by simpa using hu)⟩
noncomputable def keyOfV : Value → Key
  | .int i _ => some i
  | _ => none
theorem keyOfV_is {w : World} {k : Key} {v : Value} (h : (mk w).is k v = true) : keyOfV v = k := by
  cases k with
  | none => obtain ⟨t, rfl⟩ := keyIs_none h; rfl
  | some i => obtain ⟨t, rfl⟩ := keyIs_some h; rfl
theorem KeyAs.filter {w : World} (p : Key → Bool) : ∀ {vs : List Value} {ks : List Key}, KeyAs w vs ks → KeyAs w (vs.filter fun v => p (keyOfV v)) (ks.filter p)
  | [], [], _ => trivial
  | [], _ :: _, h => h.elim
  | _ :: _, [], h => h.elim
  | v :: vs, k :: ks, ⟨h1, h2⟩ => by
    rw [List.filter_cons, List.filter_cons, keyOfV_is h1]
    split
    · exact ⟨h1, h2.filter p⟩
    · exact h2.filter p
theorem KeyAs.snoc {w : World} {v : Value} : ∀ {l : List Value} {ks : List Key}, KeyAs w (l ++ [v]) ks → ∃ ks' k, ks = ks' ++ [k] ∧ KeyAs w l ks' ∧ (mk w).is k v = true
  | [], [], h => h.elim
  | [], [k], ⟨h, _⟩ => ⟨[], k, rfl, trivial, h⟩
  | [], _ :: _ :: _, ⟨_, h⟩ => h.elim
  | _ :: _, [], h => h.elim
  | u :: l, k :: ks, ⟨h1, h2⟩ => by
    obtain ⟨ks', j, rfl, a, b⟩ := KeyAs.snoc h2
    exact ⟨k :: ks', j, rfl, ⟨h1, a⟩, b⟩
theorem stored_vals {w : World} {val : Key → Int} {l : List Value} {kvs : List (Key × Value)} (x : StoredAll (fun v k => (mk w).is k v = true) (fun v y => ∃ t, y = Value.int (val (keyOfV v)) t) l kvs) :
    ∀ ks, KeyAs w l ks → ks.Nodup → ∃ vals : List (Key × Int × Tok), kvs = intPairs vals ∧ flatV vals = ks.map fun k => (k, val k) := by
  induction x with
  | nil =>
    intro ks h _
    cases ks with
    | nil => exact ⟨[], rfl, rfl⟩
    | cons k ks => exact h.elim
  | @snoc l kvs v k y _ hk hy ih =>
    intro ks h hn
    obtain ⟨ks', j, rfl, a, b⟩ := h.snoc
    have ekj : k = j := (mk w).inj v _ _ hk b
    subst ekj
    have hn' := List.nodup_append.mp hn
    obtain ⟨vals, rfl, e⟩ := ih ks' a hn'.1
    obtain ⟨t, rfl⟩ := hy
    rw [keyOfV_is b, stored_int]
    refine ⟨_, rfl, ?_⟩
    rw [flatV_put, e]
    unfold dput
    rw [if_neg, List.map_append]
    · rfl
    · intro q
      obtain ⟨x, hx, hxk⟩ := List.any_eq_true.mp q
      obtain ⟨z, hz, rfl⟩ := List.mem_map.mp hx
      exact hn'.2.2 z hz k (.head _) (of_decide_eq_true hxk)
section
variable {w : World} {A : Around} {E : Value → Shared → Prop} {s : Shared} {env : Env} {h₀ : Heap} {L : Addr} {m : Str → Option Value} {nx : List (Addr × Obj)}
noncomputable def DCompPure (w : World) (A : Around) (env : Env) (scope : Scope) (cl : List (Str × Addr)) (x : Str) (ifs : List PySem.Expr) (kx vx : PySem.Expr) (s₁ : Shared) (ks : List Key) (p : Key → Bool) (val : Key → Int) : Prop :=
  (∀ C k v s₃ m₃ E', k ∈ ks → (mk w).is k v = true → Fr s₁.heap C s₃.heap m₃ → m₃ x = some v →
    wpAny (model PR w) A (forIn ifs true fun c r => if r = true then do let ok ← isTrue c (compEnvC scope cl C env) (eval c (compEnvC scope cl C env)); pure (ForInStep.yield ok) else pure (ForInStep.yield r))
      (fun ok s₄ => ok = p k ∧ Keeps s₃ s₄) E' s₃) ∧
  (∀ C k v s₃ m₃ E', k ∈ ks → p k = true → (mk w).is k v = true → Fr s₁.heap C s₃.heap m₃ → m₃ x = some v → wpAny (model PR w) A (eval kx (compEnvC scope cl C env)) (fun y s₄ => y = v ∧ Keeps s₃ s₄) E' s₃) ∧
  (∀ C k v s₃ m₃ E', k ∈ ks → p k = true → (mk w).is k v = true → Fr s₁.heap C s₃.heap m₃ → m₃ x = some v → wpAny (model PR w) A (eval vx (compEnvC scope cl C env)) (fun y s₄ => (∃ t, y = .int (val k) t) ∧ Keeps s₃ s₄) E' s₃)
theorem dcompE {kx vx iter : PySem.Expr} {x : Str} {px : Pos} {ifs : List PySem.Expr} {scope : Scope} {cl : List (Str × Addr)} {pos : Pos} {Q : Value → Shared → Prop} (p : Key → Bool) (val : Key → Int) (_F₀ : Fr h₀ L s.heap m) (_N₀ : News h₀ L s.heap nx) (hbig : h₀.NoLimit)
    (hclos : closureFor scope env = pure cl) (hcell : ∀ z ∈ scope.names, z.2 ≠ .cell) (hkind : scope.kind = .function)
    (hnames : ∀ z ∈ scope.names, z.2 = .local → scope.names.lookup z.1 = some .local) (hx : scope.names.lookup x = some .local) (hh : A.handled = none)
    (h : wpAny (model PR w) A (eval iter env) (fun xv s₁ => Stop <| ∃ ks, SrcK w s₁ xv ks ∧ ks.length ≤ 1000 ∧ ks.Nodup ∧ Fr h₀ L s₁.heap m ∧ News h₀ L s₁.heap nx ∧ DCompPure w A env scope cl x ifs kx vx s₁ ks p val ∧
      ∀ D o h' tk, Fr h₀ L h' m → News h₀ L h' ((D, o) :: nx) → offP D nx → (D == sysModules) = false → (∀ b o, s₁.heap.get? b = some o → h'.get? b = some o) → DObj w o ((ks.filter p).map fun k => (k, val k)) → Q (.ref D) { s₁ with heap := h', toks := tk }) E s)
    (hs : ∀ x, foldedSetIterable iter env x = pure x := by intro _; rfl) :
    wpAny (model PR w) A (eval (.DictComp kx vx [⟨.Name x px, iter, ifs, 0⟩] scope pos) env) Q E s := by
  rw [arm_eval_DictComp]
  refine wpAny_comprehension_free (use := none) rfl hs hclos hkind hnames (wpAny_mono h (fun xv s₁ h₁ => ?_) fun _ _ e => e)
  obtain ⟨ks, S, hlen, hnd, F, N, H, hQ⟩ := h₁
  refine wpAny_mono (src_walkK hh S) (fun it s₂ h₂ => ?_) fun _ _ e => e
  obtain ⟨oI, fp, P, St, rfl, rfl, W, hst, hfp, hP⟩ := h₂
  refine wpAny_newObj_type (wpAny_newFunctionEnv hcell (by intro y hy; simp at hy) (fun h₁ hns₁ hsb₁ => ?_) hkind)
  -- the places: I the iterator, D the dict, C the frame
  have sI : (s₁.heap.push oI).objs.size = s₁.heap.objs.size + 1 := Heap.size_push ..
  have newD : ((s₁.heap.push oI).push { cls := .type "dict", dict := none, data := .dict #[] }).DictOf (mk w) (s₁.heap.push oI).objs.size [] := Heap.DictOf.new _
  have sD : ((s₁.heap.push oI).push { cls := .type "dict", dict := none, data := .dict #[] }).objs.size = s₁.heap.objs.size + 2 := by rw [Heap.size_push, sI]
  dsimp only at hns₁ hsb₁ hst hfp ⊢
  rw [sI] at newD hfp
  rw [sD] at hns₁ hsb₁
  simp only [sI, sD]
  have old : ∀ b o, s₁.heap.get? b = some o → h₁.get? b = some o := fun b o e => hsb₁.extBut b o (by have : @LT.lt Nat _ b _ := Heap.lt_size e; show @Ne Nat _ _; omega) (Heap.get?_push_of_some _ (Heap.get?_push_of_some _ (Heap.get?_push_of_some _ e)))
  have lt : ∀ b o, s₁.heap.get? b = some o → @LT.lt Nat _ b s₁.heap.objs.size := fun b o e => Heap.lt_size e
  have accD : h₁.DictOf (mk w) (s₁.heap.objs.size + 1) [] := newD.at fun o e => hsb₁.extBut _ _ (by show @Ne Nat _ _; omega) (Heap.get?_push_of_some _ e)
  have st1 : St 0 h₁ := W.frame _ _ _ hst fun b hb o e => hsb₁.extBut b o (by have : @LT.lt Nat _ b _ := hfp b hb; show @Ne Nat _ _; omega) (Heap.get?_push_of_some _ (Heap.get?_push_of_some _ e))
  have fr : ∀ {h₃ : Heap} {m₃ : Str → Option Value}, h₃.Ns (s₁.heap.objs.size + 2) m₃ → (∀ b o, b ≠ s₁.heap.objs.size + 2 → b ∉ [s₁.heap.objs.size] → b ≠ s₁.heap.objs.size + 1 → h₁.get? b = some o → h₃.get? b = some o) → Fr s₁.heap (s₁.heap.objs.size + 2) h₃ m₃ := fun hn hk =>
    ⟨hn, fun b o e => by
      have := lt b o e
      exact hk b o (by show @Ne Nat _ _; omega) (fun q => by have : @Eq Nat b _ := List.mem_singleton.mp q; omega) (by show @Ne Nat _ _; omega) (old b o e), Nat.le_add_right _ _⟩
  have loop : ∀ R : Result → Shared → Prop, (∀ h' tk m' kvs (vs : List Value), h'.Ns (s₁.heap.objs.size + 2) m' → h'.DictOf (mk w) (s₁.heap.objs.size + 1) kvs → vs.length = ks.length → (∀ j v, vs[j]? = some v → P j v) →
        StoredAll (fun v k => (mk w).is k v = true) (fun v y => ∃ t, y = Value.int (val (keyOfV v)) t) (vs.filter fun v => p (keyOfV v)) kvs →
        (∀ b o, s₁.heap.get? b = some o → h'.get? b = some o) → R (.ok .next) { s₁ with heap := h', toks := tk }) →
      codeAny (model PR w) A (.compLoop (.DictComp kx vx [⟨.Name x px, iter, ifs, 0⟩] scope pos) 0 (.ref s₁.heap.objs.size) (.ref (s₁.heap.objs.size + 1)) (compEnvC scope cl (s₁.heap.objs.size + 2) env)) R { s₁ with heap := h₁, toks := s₁.toks + 0 } := by
    intro R hR
    refine codeAny_compLoop_walkD (knd := mk w) (cenv := compEnvC scope cl (s₁.heap.objs.size + 2) env) W (fun v => p (keyOfV v)) (fun v k => (mk w).is k v = true) (fun v y => ∃ t, y = Value.int (val (keyOfV v)) t) (lookup_relabel_local hx) (by simp [compEnvC, relabel, hkind])
      (by show @Ne Nat _ (s₁.heap.objs.size + 2); omega) (fun q => by have : @LT.lt Nat _ _ _ := hfp _ q; omega) (fun q => by have : @LT.lt Nat _ (s₁.heap.objs.size + 2) _ := hfp _ q; omega) st1 accD hns₁
      (fun i v s₃ m₃ hv hn hm hk => ?_) (fun i v s₃ m₃ hv hpv hn hm hk => ?_) (fun i v s₃ m₃ hv hpv hn hm hk => ?_) (fun h' tk m' kvs vs hn hD hl hPv hF hk => hR h' tk m' kvs vs hn hD hl hPv hF (fr hn hk).keep) (by rw [sizeLine_eq]; omega)
    · obtain ⟨k, hk1, hk2⟩ := hP i v hv
      rw [keyOfV_is hk2]
      exact H.1 _ k v s₃ m₃ _ (List.mem_of_getElem? hk1) hk2 (fr hn hk) hm
    · obtain ⟨k, hk1, hk2⟩ := hP i v hv
      rw [keyOfV_is hk2] at hpv
      exact wpAny_mono (H.2.1 _ k v s₃ m₃ _ (List.mem_of_getElem? hk1) hpv hk2 (fr hn hk) hm) (fun y s₄ h₄ => ⟨⟨k, by rw [h₄.1]; exact hk2, hk2⟩, h₄.2⟩) fun _ _ e => e
    · obtain ⟨k, hk1, hk2⟩ := hP i v hv
      rw [keyOfV_is hk2] at hpv
      rw [keyOfV_is hk2]
      exact H.2.2 _ k v s₃ m₃ _ (List.mem_of_getElem? hk1) hpv hk2 (fr hn hk) hm
  have fin : ∀ h' tk m' kvs (vs : List Value), h'.Ns (s₁.heap.objs.size + 2) m' → h'.DictOf (mk w) (s₁.heap.objs.size + 1) kvs → vs.length = ks.length → (∀ j v, vs[j]? = some v → P j v) →
        StoredAll (fun v k => (mk w).is k v = true) (fun v y => ∃ t, y = Value.int (val (keyOfV v)) t) (vs.filter fun v => p (keyOfV v)) kvs →
        (∀ b o, s₁.heap.get? b = some o → h'.get? b = some o) → compPost (model PR w) A E none Q (.ref (s₁.heap.objs.size + 1)) (s₁.heap.objs.size + 2) (.ok .next) { s₁ with heap := h', toks := tk } := by
    intro h' tk m' kvs vs hn hD hl hPv hF hk
    refine ⟨m', hn, fun h'' hs'' => ?_⟩
    have keep : ∀ b o, s₁.heap.get? b = some o → h''.get? b = some o := fun b o e => hs''.extBut b o (by have := lt b o e; show @Ne Nat _ _; omega) (hk b o e)
    have hDne : s₁.heap.get? (s₁.heap.objs.size + 1) = none := Heap.get?_none_of_le (Nat.le_succ _)
    obtain ⟨vals, rfl, e⟩ := stored_vals hF _ (KeyAs.filter p (KeyAs.of hl fun i v hvi => hP i v (hPv i v hvi))) (nodup_filter _ hnd)
    obtain ⟨o, ho, hDo⟩ := Heap.dictOf_iff.mp (hD.extBut hs''.extBut (show @Ne Nat _ _ by omega))
    have hmod : (s₁.heap.objs.size + 1 == sysModules) = false := by
      have := (F.push oI).notModules (modules_low hbig)
      rw [sI] at this
      exact this
    exact hQ _ o h'' tk (F.keeps keep) (news_add F (N.grown keep) hDne ho) (offP_of (news_ne N hDne)) hmod keep ⟨vals, hDo, e⟩
  exact codeAny_compStart_dict (loop _ fin) (W.self 0 _ _ _ st1 (loop _ fin))
end
end

section
section
variable {w : World} {A : Around} {E : Value → Shared → Prop} {s : Shared} {env : Env} {h₀ : Heap} {L : Addr} {m : Str → Option Value} {nx : List (Addr × Obj)}
inductive CompI (s₁ : Shared) (l : Addr) (us : List Value) (ks : List Int) (g : Int → Int) (k : Nat) (s' : Shared) : Prop
  | intro (h' : _) (tk : _) (m' : _) (vs : _) (q0 : s' = { s₁ with heap := h', toks := tk }) (q1 : (h'.IsListIter s₁.heap.objs.size l (List.length vs) ∧ h'.IsList l us.toArray)) (q2 : h'.PlainList (s₁.heap.objs.size + 1) (List.toArray vs)) (q3 : h'.Ns (s₁.heap.objs.size + 2) m') (q4 : IntsAre vs ((ks.take (List.length vs)).map g)) (q5 : HOk none vs tk) (q6 : s₁.toks ≤ tk) (q7 : List.length vs ≤ ks.length) (q8 : k = ks.length + 1 - List.length vs) (q9 : ∀ b o, s₁.heap.get? b = some o → h'.get? b = some o) : CompI s₁ l us ks g k s'
theorem compEt {elt iter : PySem.Expr} {x : Str} {px : Pos} {scope : Scope} {cl : List (Str × Addr)} {pos : Pos} {Q : Value → Shared → Prop} (g : Int → Int) (_F₀ : Fr h₀ L s.heap m) (_N₀ : News h₀ L s.heap nx)
    (hclos : closureFor scope env = pure cl) (hcell : ∀ z ∈ scope.names, z.2 ≠ .cell) (hkind : scope.kind = .function)
    (hnames : ∀ z ∈ scope.names, z.2 = .local → scope.names.lookup z.1 = some .local) (hx : scope.names.lookup x = some .local) (hh : A.handled = none)
    (h : wpAny (model PR w) A (eval iter env) (fun xv s₁ => Stop <| ∃ l us ks, xv = .ref l ∧ s₁.heap.IsList l us.toArray ∧ IntsAre us ks ∧ ks.length ≤ 1000 ∧ 0 < s₁.toks ∧ (∀ k, smallInt (g k) = true) ∧ Fr h₀ L s₁.heap m ∧ News h₀ L s₁.heap nx ∧
      (∀ C k t s₃ m₃ E', k ∈ ks → Fr s₁.heap C s₃.heap m₃ → m₃ x = some (.int k t) → wpAny (model PR w) A (eval elt (compEnvC scope cl C env)) (fun y s₄ => (∃ u, y = .int (g k) u ∧ s₃.toks ≤ u ∧ u < s₄.toks) ∧ Keeps s₃ s₄) E' s₃) ∧
      ∀ D vs n h' tk, Fr h₀ L h' m → News h₀ L h' ((D, listOf vs.toArray n) :: nx) → offP D nx → s₁.toks ≤ tk → IntsAre vs (ks.map g) → TokOk vs → Q (.ref D) { s₁ with heap := h', toks := tk }) E s)
    (hs : ∀ x, foldedSetIterable iter env x = pure x := by intro _; rfl) :
    wpAny (model PR w) A (eval (.ListComp elt [⟨.Name x px, iter, [], 0⟩] scope pos) env) Q E s := by
  rw [eval_ListComp]
  refine wpAny_comprehension_free (use := none) rfl hs hclos hkind hnames (wpAny_mono h (fun xv s₁ h₁ => ?_) fun _ _ e => e)
  obtain ⟨l, us, ks, rfl, hl, hi, hlen, htk0, hsm, F, N, helt, hQ⟩ := h₁
  have hul := hi.length
  obtain ⟨ol, hol, _⟩ := id hl
  have hll : @LT.lt Nat _ l s₁.heap.objs.size := Heap.lt_size hol
  refine wpAny_pyIter_list hl ?_
  have W := Walks.list (prog := PR) (w := w) hh s₁.heap.objs.size l (Nat.ne_of_lt hll) us.toArray
  have hst : (fun i (h : Heap) => h.IsListIter s₁.heap.objs.size l i ∧ h.IsList l us.toArray) 0 (s₁.heap.push { cls := .type "list_iterator", data := .fields #[.ref l, .int 0 0] }) := ⟨⟨_, Heap.get?_push_size _ rfl, rfl, rfl⟩, hl.push _⟩
  generalize hoI : ({ cls := .type "list_iterator", data := .fields #[.ref l, .int 0 0] } : Obj) = oI at hst
  refine wpAny_newObj_type (wpAny_newFunctionEnv hcell (by intro y hy; simp at hy) (fun h₁ hns₁ hsb₁ => ?_) hkind)
  have sI : (s₁.heap.push oI).objs.size = s₁.heap.objs.size + 1 := Heap.size_push ..
  have newD : ((s₁.heap.push oI).push { cls := .type "list", dict := none, data := .seq ([] : List Value).toArray }).get? (s₁.heap.push oI).objs.size = some { cls := .type "list", dict := none, data := .seq ([] : List Value).toArray } := Heap.get?_push_size _ rfl
  have sD : ((s₁.heap.push oI).push { cls := .type "list", dict := none, data := .seq ([] : List Value).toArray }).objs.size = s₁.heap.objs.size + 2 := by rw [Heap.size_push, sI]
  dsimp only at hns₁ hsb₁ hst ⊢
  rw [sI] at newD
  rw [sD] at hns₁ hsb₁
  simp only [sI, sD]
  have old : ∀ b o, s₁.heap.get? b = some o → h₁.get? b = some o := fun b o e => hsb₁.extBut b o (by have : @LT.lt Nat _ b _ := Heap.lt_size e; show @Ne Nat _ _; omega) (Heap.get?_push_of_some _ (Heap.get?_push_of_some _ (Heap.get?_push_of_some _ e)))
  have lt : ∀ b o, s₁.heap.get? b = some o → @LT.lt Nat _ b s₁.heap.objs.size := fun b o e => Heap.lt_size e
  have accD : h₁.PlainList (s₁.heap.objs.size + 1) #[] := ⟨_, hsb₁.extBut _ _ (by show @Ne Nat _ _; omega) (Heap.get?_push_of_some _ newD)⟩
  have st1 : (fun i (h : Heap) => h.IsListIter s₁.heap.objs.size l i ∧ h.IsList l us.toArray) 0 h₁ := W.frame _ _ _ hst fun b hb o e => hsb₁.extBut b o (by
    rcases List.mem_cons.mp hb with rfl | hb
    · show @Ne Nat _ _; omega
    · rw [List.mem_singleton.mp hb]; show @Ne Nat _ _; omega) (Heap.get?_push_of_some _ (Heap.get?_push_of_some _ e))
  have fp2 : ∀ b, b ∈ [s₁.heap.objs.size, l] → @LT.lt Nat _ b (s₁.heap.objs.size + 1) := fun b hb => by
    rcases List.mem_cons.mp hb with rfl | hb
    · omega
    · rw [List.mem_singleton.mp hb]; omega
  have loop : ∀ R : Result → Shared → Prop, (∀ h' tk m' vs, h'.Ns (s₁.heap.objs.size + 2) m' → h'.PlainList (s₁.heap.objs.size + 1) (List.toArray vs) → IntsAre vs (ks.map g) → TokOk vs → s₁.toks ≤ tk →
        (∀ b o, s₁.heap.get? b = some o → h'.get? b = some o) → R (.ok .next) { s₁ with heap := h', toks := tk }) →
      codeAny (model PR w) A (.compLoop (.ListComp elt [⟨.Name x px, iter, [], 0⟩] scope pos) 0 (.ref s₁.heap.objs.size) (.ref (s₁.heap.objs.size + 1)) (compEnvC scope cl (s₁.heap.objs.size + 2) env)) R { s₁ with heap := h₁, toks := s₁.toks + 0 } := by
    intro R hR
    refine codeAny_compLoop_tests
      (CompI s₁ l us ks g) ?_ (ks.length + 1)
      ⟨h₁, s₁.toks, _, [], rfl, st1, accD, hns₁, .nil, ⟨⟨(fun _ _ h => nomatch h), (fun _ _ h => nomatch h), (fun _ _ _ _ h => nomatch h)⟩, (fun _ _ h => nomatch h)⟩, Nat.le_refl _, Nat.zero_le _, rfl, old⟩
    intro k s' xR1; obtain ⟨H, tk, m', vs, rfl, hst', hD', hn', hiv, hok, htk, hle, rfl, hk⟩ := xR1
    by_cases hlt : vs.length < ks.length
    · refine wpAny_toks (W.item vs.length _ _ _ (by rw [List.size_toArray]; omega) hst' fun v h₂ tk₂ hv hst₂ hk₂ htk₂ => ?_)
      obtain ⟨kk, t, rfl, hkk⟩ := IntsAre.at hi vs.length v (by simpa using hv)
      refine wpAny_assign_Name (wpAny_storeName_local (show Env.kindOf (compEnvC scope cl (s₁.heap.objs.size + 2) env) x = some .local from lookup_relabel_local hx) (hn'.at' fun o e => hk₂ _ o (fun q => by have : @Eq Nat _ _ := List.mem_singleton.mp q; omega) e) (fun h₃ hn₃ hs₃ => ?_) (by simp [compEnvC, relabel, hkind]))
      refine tests_nil ?_
      rw [if_pos rfl]
      have k3 : ∀ b o, b ≠ s₁.heap.objs.size → b ≠ s₁.heap.objs.size + 2 → H.get? b = some o → h₃.get? b = some o := fun b o h1 h2 e => hs₃.extBut b o h2 (hk₂ b o (fun q => h1 (List.mem_singleton.mp q)) e)
      have keep₃ : ∀ b o, s₁.heap.get? b = some o → h₃.get? b = some o := fun b o e => by
        have := lt b o e
        exact k3 b o (by show @Ne Nat _ _; omega) (by show @Ne Nat _ _; omega) (hk b o e)
      have st3 : h₃.IsListIter s₁.heap.objs.size l (vs.length + 1) ∧ h₃.IsList l us.toArray := W.frame _ _ _ hst₂ fun b hb o e => hs₃.extBut b o (by have := fp2 b hb; show @Ne Nat b (s₁.heap.objs.size + 2); omega) e
      refine wpAny_mono (helt (s₁.heap.objs.size + 2) kk t _ _ _ (List.mem_of_getElem? hkk) ⟨hn₃, keep₃, Nat.le_add_right _ _⟩ (by simp)) (fun y s₄ h₄ => ?_) fun _ _ e => e
      obtain ⟨⟨u, rfl, hu1, hu2⟩, h₄', tk₄, rfl, hk₄⟩ := h₄
      dsimp only at hu1 hu2 hk₄
      have hD4 : h₄'.PlainList (s₁.heap.objs.size + 1) (List.toArray vs) := let ⟨n, e⟩ := hD'; ⟨n, hk₄ _ _ (k3 _ _ (by show @Ne Nat _ _; omega) (by show @Ne Nat _ _; omega) e)⟩
      have st4 : h₄'.IsListIter s₁.heap.objs.size l (vs.length + 1) ∧ h₄'.IsList l us.toArray := W.frame _ _ _ st3 fun b _ o e => hk₄ b o e
      refine wpAny_list_append_plain hD4 (fun h₅ hl₅ hs₅ => ?_) (by rw [List.size_toArray, sizeLine_eq]; omega)
      have hlen' : (vs ++ [Value.int (g kk) u]).length = vs.length + 1 := by simp
      refine ⟨ks.length + 1 - (vs.length + 1), by omega, h₅, tk₄, _, vs ++ [.int (g kk) u], rfl, ?_, by simpa using hl₅, (hn₃.keeps hk₄).sameBut hs₅ (show @Ne Nat (s₁.heap.objs.size + 2) (s₁.heap.objs.size + 1) by omega), ?_, ?_, ?_, by rw [hlen']; omega, by rw [hlen'], fun b o e => ?_⟩
      · rw [hlen']
        exact W.frame _ _ _ st4 fun b hb o e => hs₅.extBut b o (by have := fp2 b hb; show @Ne Nat b (s₁.heap.objs.size + 1); omega) e
      · rw [hlen', List.take_add_one, hkk, List.map_append]
        exact ints_append hiv (.cons _ u .nil)
      · have hup : tk ≤ tk₂ := htk₂
        have h6 := HOk.add (u := u) (y := g kk) (src := none) (b := u + 1) hok (Nat.lt_of_lt_of_le htk0 htk) (show tk ≤ u from Nat.le_trans (Nat.le_trans hup (Nat.le_add_right _ _)) hu1) ⟨_, rfl, rfl⟩ (hsm kk)
        exact h6.up hu2
      · exact Nat.le_trans htk (Nat.le_trans htk₂ (Nat.le_trans (Nat.le_trans (Nat.le_add_right _ _) hu1) (Nat.le_of_lt hu2)))
      · have := lt b o e
        exact hs₅.extBut b o (by show @Ne Nat _ _; omega) (hk₄ _ _ (keep₃ b o e))
    · have hin : vs.length = us.toArray.size := by rw [List.size_toArray]; omega
      refine wpAny_toks (W.done _ _ _ (hin ▸ hst') fun h₂ tk₂ hk₂ htk₂ => ?_)
      have k2 : ∀ b o, b ≠ s₁.heap.objs.size → H.get? b = some o → h₂.get? b = some o := fun b o h1 e => hk₂ b o (fun q => h1 (List.mem_singleton.mp q)) e
      have he : ks.take vs.length = ks := List.take_of_length_le (by omega)
      rw [he] at hiv
      refine hR h₂ tk₂ m' vs (hn'.at' fun o e => k2 _ o (by show @Ne Nat _ _; omega) e) (let ⟨n, e⟩ := hD'; ⟨n, k2 _ _ (by show @Ne Nat _ _; omega) e⟩) hiv hok.1 (Nat.le_trans htk htk₂) fun b o e => ?_
      have := lt b o e
      exact k2 b o (by show @Ne Nat _ _; omega) (hk b o e)
  have fin : ∀ h' tk m' vs, h'.Ns (s₁.heap.objs.size + 2) m' → h'.PlainList (s₁.heap.objs.size + 1) (List.toArray vs) → IntsAre vs (ks.map g) → TokOk vs → s₁.toks ≤ tk →
        (∀ b o, s₁.heap.get? b = some o → h'.get? b = some o) → compPost (model PR w) A E none Q (.ref (s₁.heap.objs.size + 1)) (s₁.heap.objs.size + 2) (.ok .next) { s₁ with heap := h', toks := tk } := by
    intro h' tk m' vs hn hD hiv hok htk hk
    refine ⟨m', hn, fun h'' hs'' => ?_⟩
    have keep : ∀ b o, s₁.heap.get? b = some o → h''.get? b = some o := fun b o e => hs''.extBut b o (by have := lt b o e; show @Ne Nat _ _; omega) (hk b o e)
    have hDne : s₁.heap.get? (s₁.heap.objs.size + 1) = none := Heap.get?_none_of_le (Nat.le_succ _)
    obtain ⟨n, hD⟩ := hD
    exact hQ _ vs n h'' tk (F.keeps keep) (news_add F (N.grown keep) hDne (hs''.extBut _ _ (show @Ne Nat _ _ by omega) hD)) (offP_of (news_ne N hDne)) htk hiv hok
  exact codeAny_compStart_list (loop _ fin) (W.self 0 _ _ _ st1 (loop _ fin))
end
end

section
noncomputable def TabL (g : Heap) (ps : Array Value) (ex : List (Addr × Obj)) : Prop := ∀ h', Stands ex h' → (∀ b o, g.get? b = some o → h'.get? b = some o) → TabAt lamPos lamQual h' (tabObj ps)
theorem TabL.empty (g : Heap) : TabL g #[] [] := fun _ _ _ => ⟨_, rfl, .inl rfl⟩
noncomputable def IsCode (o : Obj) : Prop := ∃ vs q t, o.data = .fields vs ∧ vs[1]? = some (.str q t)
noncomputable def CodeL (ex : List (Addr × Obj)) : Prop := ∀ p ∈ ex, IsCode p.2
theorem CodeL.nil : CodeL [] := fun _ h => nomatch h
theorem code_apart {g h : Heap} {L a : Addr} {o : Obj} {ex nx : List (Addr × Obj)} (Nx : News g L h ex) (N : News g L h nx) (hc : CodeL ex) (hm : (a, o) ∈ nx) (ho : NotCode o) : ∀ p ∈ ex, p.1 ≠ a := fun p hp e => by
  have h1 := (Nx p hp).1
  have h2 := (N _ hm).1
  dsimp only at h2
  rw [e, h2] at h1
  obtain ⟨vs, q, t, hd, hv⟩ := hc p hp
  rw [← Option.some.inj h1] at hd
  exact ho vs q t hd hv
theorem notCode_cell {o : Obj} {v : Option Value} (h : o.data = .cell v) : NotCode o := fun vs q t e => by rw [h] at e; cases e
theorem tab_keep {g h : Heap} {L : Addr} {m : Str → Option Value} {nx : List (Addr × Obj)} {ps : Array Value} (F : Fr g L h m) (N : News g L h nx) (hm : (134, tabObj ps) ∈ nx) (HT : TabAt lamPos lamQual h (tabObj ps)) :
    ∃ ex, News g L h ex ∧ (∀ p ∈ ex, p.1 ≠ 134) ∧ CodeL ex ∧ TabL g ps ex := by
  obtain ⟨ps0, e, hps⟩ := HT
  injection e with _ _ e
  injection e with e
  subst e
  rcases hps with rfl | ⟨c1, rfl, c2, oc, vs, t, e, hc, hd, hv⟩
  · exact ⟨[], News.nil, (fun _ h => nomatch h), CodeL.nil, TabL.empty g⟩
  · cases e
    have tab : ∀ h' : Heap, h'.get? c1 = some oc → TabAt lamPos lamQual h' (tabObj _) := fun h' hc' => ⟨_, rfl, .inr ⟨c1, rfl, c1, oc, vs, t, rfl, hc', hd, hv⟩⟩
    cases q : g.get? c1 with
    | some o' =>
      have e := F.keep _ _ q
      rw [hc] at e
      have e := Option.some.inj e
      subst e
      exact ⟨[], News.nil, (fun _ h => nomatch h), CodeL.nil, fun h' _ k => tab h' (k _ _ q)⟩
    | none =>
      refine ⟨[(c1, oc)], fun p hp => ?_, fun p hp => ?_, fun p hp => by rw [List.mem_singleton.mp hp]; exact ⟨vs, _, t, hd, hv⟩, fun h' S _ => tab h' (S _ (.head _))⟩
      · rw [List.mem_singleton.mp hp]
        refine ⟨hc, fun e => ?_, q⟩
        obtain ⟨oL, es, ep, hL, hLd, _⟩ := F.ns
        have e' : c1 = L := e
        rw [e', hL] at hc
        have e := Option.some.inj hc
        subst e
        rw [hLd] at hd
        cases hd
      · rw [List.mem_singleton.mp hp]
        intro e
        have e' : c1 = 134 := e
        rw [e', (N _ hm).1] at hc
        have e := Option.some.inj hc
        subst e
        injection hd with hd
        subst hd
        cases hv
section
variable {w : World} {s : Shared} {loose : List Str} {mean : ExcName → Option Value} {mg mb : Str → Option Value} {dp un n : Nat} {gd : Option (List Code)} {cn : Str} {cs : Scope} {a : Addr} {ccd : Value} {cl : List (Str × Addr)} {outer : List Env} {A₀ : Around} {base h₀ : Heap} {L : Addr} {m : Str → Option Value} {nx : List (Addr × Obj)}
  {Q E : Value → Shared → Prop}
theorem use_since {v : Value} {ns : List Int} (B : Below A₀ base outer h₀) (F : Fr h₀ L s.heap m) (X : (Mine.hd.heap_1 w.params).In h₀) (N : News h₀ L s.heap nx) (T : Top topProg loose mean mg mb h₀) (hk : cs.kind = .function) (hd : dp + 2 < recursionLimit) (hu : un + 8 * 2 + 200 < cLine)
    (D : SeqV s.heap v ns) (hlen : ns.length = 9)
    (h : ∀ r o h' tk', s.toks ≤ tk' → Fr h₀ L h' m → News h₀ L h' ((r, o) :: nx) → offP r nx → (r == sysModules) = false → DObj w o (sinceAt ns 9).2.2 → Q (.ref r) { s with heap := h', toks := tk' }) :
    wpAny (model PR w) (ktrTop dp un gd cn cs L a ccd cl outer) (call (.ref 132) [v] []) Q E s :=
  wpAny_toks (CallOk.use (Q := fun v s' => s.toks ≤ s'.toks → Q v s') (since_ok w s v ns hlen D) B F X N T hk hd hu fun v h' tk' F' N' keep hv ht => by
    obtain ⟨r, o, rfl, hnew, lo, ho, hD⟩ := hv
    exact h r o h' tk' ht F' (news_add F N' hnew ho) (offP_of (news_ne N hnew)) lo hD)
theorem use_between {l : Addr} {ns : List Int} (B : Below A₀ base outer h₀) (F : Fr h₀ L s.heap m) (X : (Mine.hd.heap_1 w.params).In h₀) (N : News h₀ L s.heap nx) (T : Top topProg loose mean mg mb h₀) (hk : cs.kind = .function) (hd : dp + 1 < recursionLimit) (hu : un + 8 * 1 + 200 < cLine)
    (D : Lst s.heap l ns) (hlen : ns.length = 9)
    (h : ∀ r o h' tk', s.toks ≤ tk' → Fr h₀ L h' m → News h₀ L h' ((r, o) :: nx) → offP r nx → (r == sysModules) = false → DObj w o (betweenAt ns 9) → Q (.ref r) { s with heap := h', toks := tk' }) :
    wpAny (model PR w) (ktrTop dp un gd cn cs L a ccd cl outer) (call (.ref 147) [.ref l] []) Q E s :=
  wpAny_toks (CallOk.use (Q := fun v s' => s.toks ≤ s'.toks → Q v s') (between_ok w s l ns hlen D) B F X N T hk hd hu fun v h' tk' F' N' keep hv ht => by
    obtain ⟨r, o, rfl, hnew, lo, ho, hD⟩ := hv
    exact h r o h' tk' ht F' (news_add F N' hnew ho) (offP_of (news_ne N hnew)) lo hD)
theorem use_gone {v : Value} {ns : List Int} {room side : Int} {tr ts : Tok} (B : Below A₀ base outer h₀) (F : Fr h₀ L s.heap m) (X : (Mine.hd.heap_1 w.params).In h₀) (N : News h₀ L s.heap nx) (T : Top topProg loose mean mg mb h₀) (hk : cs.kind = .function) (hd : dp + 1 < recursionLimit) (hu : un + 8 * 1 + 200 < cLine)
    (D : SeqV s.heap v ns) (hroom : 1 ≤ room) (hlen : ns.length = 9)
    (h : ∀ r o h' tk', s.toks ≤ tk' → Fr h₀ L h' m → News h₀ L h' ((r, o) :: nx) → offP r nx → (r == sysModules) = false → DObj w o (goneAt room side ns 9).2 → Q (.ref r) { s with heap := h', toks := tk' }) :
    wpAny (model PR w) (ktrTop dp un gd cn cs L a ccd cl outer) (call (.ref 142) [v, .int room tr, .int side ts] []) Q E s :=
  wpAny_toks (CallOk.use (Q := fun v s' => s.toks ≤ s'.toks → Q v s') (gone_ok w s v ns room side tr ts hroom hlen D) B F X N T hk hd hu fun v h' tk' F' N' keep hv ht => by
    obtain ⟨r, o, rfl, hnew, lo, ho, hD⟩ := hv
    exact h r o h' tk' ht F' (news_add F N' hnew ho) (offP_of (news_ne N hnew)) lo hD)
theorem use_shelf {l : Addr} {ns : List Int} {room : Int} {tr : Tok} (B : Below A₀ base outer h₀) (F : Fr h₀ L s.heap m) (X : (Mine.hd.heap_1 w.params).In h₀) (N : News h₀ L s.heap nx) (T : Top topProg loose mean mg mb h₀) (hk : cs.kind = .function) (hd : dp + 1 < recursionLimit) (hu : un + 8 * 1 + 200 < cLine)
    (D : Lst s.heap l ns) (hroom : 0 ≤ room) (hlen : ns.length = 9)
    (h : ∀ t h' tk', s.toks ≤ tk' → Fr h₀ L h' m → News h₀ L h' nx → Q (.int (shelfAt room ns 9).2 t) { s with heap := h', toks := tk' }) :
    wpAny (model PR w) (ktrTop dp un gd cn cs L a ccd cl outer) (call (.ref 152) [.ref l, .int room tr] []) Q E s :=
  wpAny_toks (CallOk.use (Q := fun v s' => s.toks ≤ s'.toks → Q v s') (shelf_ok w s l ns room tr hroom hlen D) B F X N T hk hd hu fun v h' tk' F' N' keep hv ht => by
    obtain ⟨t, rfl⟩ := hv
    exact h t h' tk' ht F' N')
theorem use_least {l : Addr} {ns : List Int} {room : Int} {tr : Tok} (B : Below A₀ base outer h₀) (F : Fr h₀ L s.heap m) (X : (Mine.hd.heap_1 w.params).In h₀) (N : News h₀ L s.heap nx) (T : Top topProg loose mean mg mb h₀) (hk : cs.kind = .function) (hd : dp + 1 < recursionLimit) (hu : un + 8 * 1 + 200 < cLine)
    (D : Lst s.heap l ns) (hroom : 1 ≤ room) (hlen : ns.length = 9) (hns : Four ns)
    (h : ∀ M t h' tk', s.toks ≤ tk' → Fr h₀ L h' m → News h₀ L h' nx → M ∈ (leastAt room ns 9).map (·.2) → (∀ a ∈ (leastAt room ns 9).map (·.2), M ≤ a) → Q (.int M t) { s with heap := h', toks := tk' }) :
    wpAny (model PR w) (ktrTop dp un gd cn cs L a ccd cl outer) (call (.ref 157) [.ref l, .int room tr] []) Q E s :=
  wpAny_toks (CallOk.use (Q := fun v s' => s.toks ≤ s'.toks → Q v s') (least_ok w s l ns room tr hroom hlen (fun x hx => hns x hx) D) B F X N T hk hd hu fun v h' tk' F' N' keep hv ht => by
    obtain ⟨M, t, rfl, h1, h2⟩ := hv
    exact h M t h' tk' ht F' N' h1 h2)
theorem use_countT {d : Addr} {b : List (Key × Int)} (B : Below A₀ base outer h₀) (F : Fr h₀ L s.heap m) (X : (Mine.hd.heap_1 w.params).In h₀) (N : News h₀ L s.heap nx) (T : Top topProg loose mean mg mb h₀) (hk : cs.kind = .function) (hd : dp + 1 < recursionLimit) (hu : un + 8 * 1 + 200 < cLine)
    (D : Dct w s.heap d b) (h : ∀ t h' tk', s.toks ≤ tk' → Fr h₀ L h' m → News h₀ L h' nx → Q (.int (b.map (·.2)).sum t) { s with heap := h', toks := tk' }) :
    wpAny (model PR w) (ktrTop dp un gd cn cs L a ccd cl outer) (call (.ref 56) [.ref d] []) Q E s :=
  wpAny_toks (CallOk.use (Q := fun v s' => s.toks ≤ s'.toks → Q v s') (count_calls_ok w s d b D) B F X N T hk hd hu fun v h' tk' F' N' keep hv ht => by
    obtain ⟨t, rfl⟩ := hv
    exact h t h' tk' ht F' N')
theorem use_addT {td sd : Addr} {tb sb : List (Key × Int)} (B : Below A₀ base outer h₀) (F : Fr h₀ L s.heap m) (X : (Mine.hd.heap_1 w.params).In h₀) (N : News h₀ L s.heap nx) (T : Top topProg loose mean mg mb h₀) (hk : cs.kind = .function) (hd : dp + 1 < recursionLimit) (hu : un + 8 * 1 + 200 < cLine)
    (TD : Dct w s.heap td tb) (SD : Dct w s.heap sd sb) (hlen : tb.length + sb.length ≤ 900)
    (h : ∀ r o h' tk', s.toks ≤ tk' → Fr h₀ L h' m → News h₀ L h' ((r, o) :: nx) → offP r nx → (r == sysModules) = false → DObj w o (addC tb sb) → Q (.ref r) { s with heap := h', toks := tk' }) :
    wpAny (model PR w) (ktrTop dp un gd cn cs L a ccd cl outer) (call (.ref 49) [.ref td, .ref sd] []) Q E s :=
  wpAny_toks (CallOk.use (Q := fun v s' => s.toks ≤ s'.toks → Q v s') (add_callers_ok w s td sd tb sb hlen TD SD) B F X N T hk hd hu fun v h' tk' F' N' keep hv ht => by
    obtain ⟨r, o, rfl, hnew, lo, ho, hD⟩ := hv
    exact h r o h' tk' ht F' (news_add F N' hnew ho) (offP_of (news_ne N hnew)) lo hD)
theorem use_lent {src : Option (List Value)} {av : Value} {ns : List Int} {room side : Int} {t u : Tok} {o : Obj} {g : Obj → List (Addr × Obj)} (B : Below A₀ base outer h₀) (F : Fr h₀ L s.heap m) (X : (Mine.hd.heap_1 w.params).In h₀) (N : News h₀ L s.heap nx) (T : Top topProg loose mean mg mb h₀) (hk : cs.kind = .function) (hd : dp + 6 < recursionLimit) (hu : un + 8 * 6 + 200 < cLine)
    (U : UpdF 134 o nx g) (hn : ns.length = 9) (hns : Four ns) (hroom : 1 ≤ room) (htk0 : 0 < s.toks) (hsrc : SrcOk src) (DS : SeqS src s.heap av ns) (HT : TabAt lamPos lamQual s.heap o)
    (h : ∀ Tt cD wD H co wo ho To vs h' tk' o', s.toks ≤ tk' → Fr h₀ L h' m → News h₀ L h' ((Tt, To) :: (cD, co) :: (wD, wo) :: (H, ho) :: g o') → To.cls = .type "tuple" → (∃ n, To.data = .seq #[.ref cD, .ref wD, .ref H] n) → TabAt lamPos lamQual h' o' →
      (∀ p ∈ nx, p.1 ≠ Tt ∧ p.1 ≠ cD ∧ p.1 ≠ wD ∧ p.1 ≠ H) → (cD == sysModules) = false → (wD == sysModules) = false → DObj w co (lentAt room side ns 9).came → DObj w wo (lentAt room side ns 9).went → LV ho vs (lentAt room side ns 9).held → Q (.ref Tt) { s with heap := h', toks := tk' }) :
    wpAny (model PR w) (ktrTop dp un gd cn cs L a ccd cl outer) (call (.ref 137) [av, .int room t, .int side u] []) Q E s := by
  have hg := led_at N U
  refine wpAny_toks (CallUpd.use (Q := fun v s' => s.toks ≤ s'.toks → Q v s') (lent_ok w s src av ns room side t u hn (fun x hx => by have := hns x hx; omega) hroom htk0 hsrc DS (fun o' e => by rw [hg] at e; exact Option.some.inj e ▸ HT)) B F X N U T hk hd hu fun v h' tk' o' F' N' keep hv ht => ?_)
  obtain ⟨⟨Tt, cD, wD, H, co, wo, ho, vs, rfl, hT, hTt, ⟨c1, c2, c3, c4⟩, ⟨w1, w2, w3, w4⟩, ⟨l1, l2, l3⟩⟩, hTab⟩ := hv
  obtain ⟨To, hTo, q1, q2⟩ := hTt
  have n1 := news_ne N hT
  have n2 := news_ne N c1
  have n3 := news_ne N w1
  have n4 := news_ne N l1
  exact h Tt cD wD H co wo ho To vs h' tk' o' ht F' (news_add F (news_add F (news_add F (news_add F N' l1 l2) w1 w3) c1 c3) hT hTo) q1 q2 hTab (fun p hp => ⟨n1 p hp, n2 p hp, n3 p hp, n4 p hp⟩) c2 w2 c4 w4 l3
end
end
theorem fresh_W2 : True := by w_top off; trivial
theorem reg_W2 : True := by
  (k_with "ktr_unf" => ((guard_hyp on_W2 : True; (first | assumption | exact SeqV.keeps (SeqS.v (by assumption)) (Fr.keep (by k_asm)) | exact Lst.keeps (by assumption) (Fr.keep (by assumption)) | exact lst_led1 (by assumption) (by k_mem) | exact LObj.led (by assumption) (by k_mem) (by assumption)))))
  (k_with "ktr_rel" => ((guard_hyp on_W2 : True; ((intro _ hz_r; repeat (first | exact hz_r | apply List.Mem.tail))))))
  (k_with "call ref" => ((guard_hyp on_W2 : True; ((refine Stop.on ?_)))))
  (k_with "eval DictComp" => ((guard_hyp on_W2 : True; ((refine Stop.on ?_)))))
  (k_with "compareOp NotEq ref ref" => ((guard_hyp on_W2 : True; ((refine Stop.on ?_)))))
  (k_with "assign Tuple" => ((guard_hyp on_W2 : True; (((with_reducible show wpAny _ _ (assign (Expr.Tuple _ _ _) _ (Value.ref _)) _ _ _); k_dflt (refine' unpackN_ (by k_asm) (by k_asm) (by with_reducible assumption) (by exact rfl) (by exact rfl) (by exact rfl) ?_); intro _ _ _)))))
  trivial

set_option maxRecDepth 100000 in
set_option maxHeartbeats 16000000 in
theorem regroup {g h : Heap} {L : Addr} {a b c d e f : Addr × Obj} {rest ex ex' : List (Addr × Obj)} (N : News g L h (a :: b :: c :: d :: e :: f :: (rest ++ ex))) (Nx : News g L h ex') :
    ∃ r2, (∀ z ∈ rest, z ∈ r2) ∧ (∀ z ∈ ex', z ∈ r2) ∧ News g L h (a :: b :: c :: d :: e :: f :: r2) := by
  refine ⟨rest ++ ex', fun z hz => List.mem_append_left _ hz, fun z hz => List.mem_append_right _ hz, ?_⟩
  exact fmc (N a (.head _)) (fmc (N b (by k_mem)) (fmc (N c (by k_mem)) (fmc (N d (by k_mem)) (fmc (N e (by k_mem)) (fmc (N f (by k_mem)) fun z hz => (List.mem_append.mp hz).elim (fun h => N z (.tail _ (.tail _ (.tail _ (.tail _ (.tail _ (.tail _ (List.mem_append_left _ h)))))))) fun h => Nx z h)))))
theorem nodup_some {l : List Int} (h : l.Nodup) : (l.map (some : Int → Key)).Nodup := by
  unfold List.Nodup
  rw [List.pairwise_map]
  exact h.imp fun x e => x (Option.some.inj e)
set_option maxRecDepth 100000 in
set_option maxHeartbeats 16000000 in
theorem inner_ok {w : World} {s : Shared} {loose : List Str} {mean : ExcName → Option Value} {mg mb : Str → Option Value} {dp un : Nat} {gd : Option (List Code)} {g : Heap} {L' : Addr} {m : Str → Option Value} {Q : Flow → Shared → Prop} {E : Value → Shared → Prop}
    {src : Option (List Value)} {av : Value} {ns : List Int} {room side M : Int} {tr ts tl : Tok} {ps : Array Value} {rest ex : List (Addr × Obj)} {o3 : Obj}
    (B : Below callerA g [] g) (X : (Mine.hd.heap_1 w.params).In g) (T : Top topProg loose mean mg mb g) (hd : dp + 100 < recursionLimit) (hu : un + 8 * 100 + 200 < cLine)
    (F : Fr g L' s.heap m) (N : News g L' s.heap ((134, tabObj ps) :: (L' + 1 + 1 + 1, o3) :: (rest ++ ex))) (hr : ∀ p ∈ (L' + 1 + 1 + 1, o3) :: rest, p.1 ≠ 134) (hx : ∀ p ∈ ex, p.1 ≠ 134) (d3 : o3.data = .cell (some (.int room tr)))
    (m1 : m (Str.ofString "line") = some av) (m2 : m (Str.ofString "side") = some (.int side ts)) (m3 : m (Str.ofString "least") = some (.int M tl))
    (hn : ns.length = 9) (h4 : Four ns) (hroom : 1 ≤ room) (htk0 : 0 < s.toks) (hsrc : SrcOk src) (DSs : ∀ h', Stands rest h' → SeqS src h' av ns) (HT : TabL g ps ex)
    (hM : ((lentAt room side ns 9).came.map (·.2)).sum = M) (hG : DEq (lentAt room side ns 9).went (goneAt room side ns 9).2)
    (hC : DEq (addC (lentAt room side ns 9).went ((lentAt room side ns 9).held.map fun th => (some th, 1))) (lentAt room side ns 9).came) (hH : (lentAt room side ns 9).held.Nodup)
    (hQ : ∀ h' tk' m' ps' ex', s.toks ≤ tk' → Fr g L' h' m' → News g L' h' ((134, tabObj ps') :: (L' + 1 + 1 + 1, o3) :: (rest ++ ex')) → (∀ p ∈ ex', p.1 ≠ 134) → CodeL ex' → TabL g ps' ex' →
      (∀ y, y ≠ Str.ofString "came" → y ≠ Str.ofString "went" → y ≠ Str.ofString "held" → m' y = m y) → Q .next { s with heap := h', toks := tk' }) :
    wpAny (model PR w) (lawA w.params dp un gd L') (execs (inner w.params) (lawEnv w.params L')) Q E s := by
  have on_W2 : True := trivial
  unfold lawA lawEnv inner loop2 tailOf lawFn bodyIs
  dsimp only [List.drop, forB]
  obtain ⟨u, rfl⟩ := fr_eq (m := m) [(Str.ofString "line", av), (Str.ofString "side", .int side ts), (Str.ofString "least", .int M tl)] ⟨m1, m2, m3, trivial⟩
  have DS := DSs _ (stands_of N fun z hz => .tail _ (.tail _ (List.mem_append_left _ hz)))
  have HT0 := HT _ (stands_of N fun z hz => .tail _ (.tail _ (List.mem_append_right _ hz))) F.keep
  have hr' : ∀ p ∈ (L' + 1 + 1 + 1, o3) :: (rest ++ ex), p.1 ≠ 134 := fun p hp => by
    rcases List.mem_cons.mp hp with rfl | hp
    · exact hr _ (.head _)
    · rcases List.mem_append.mp hp with hp | hp
      · exact hr _ (.tail _ hp)
      · exact hx _ hp
  refine wpAny_toks ?_
  (try k_fold)
  k_steps
  refine Stop.off ?_
  refine use_lent (src := src) B F X N T rfl (by omega) (by omega) (UpdF.head hr') hn h4 hroom htk0 hsrc DS HT0 ?_
  intro Tt cD wD H co wo ho To vs h1 tk1 o' ht1 F1 N1 hTc hTd HT1 off1 lc lw hDc hDw hLV
  obtain ⟨ps', rfl, _⟩ := id HT1
  obtain ⟨nT, hTd⟩ := hTd
  (try dsimp only at N1)
  obtain ⟨ex', Nx, hx', hcx', HTx⟩ := tab_keep F1 N1 (by k_mem) HT1
  obtain ⟨rest2, r2a, r2b, N1⟩ := regroup N1 Nx
  clear Nx HT1 HT0 HT hx hr' N F off1 DS
  have hTt : h1.IsTuple Tt #[.ref cD, .ref wD, .ref H] := ⟨To, (N1 _ (.head _)).1, hTc, nT, hTd⟩
  k_steps
  (with_reducible rename Fr _ _ _ _ => F2); (with_reducible rename News _ _ _ _ => N2)
  refine Stop.off ?_
  refine use_countT B F2 X N2 T rfl (by omega) (by omega) (dct_led lc N2 (by k_mem) hDc) ?_
  intro t3 h3 tk3 ht3 F3 N3
  rw [hM]
  clear F2 N2
  k_steps
  · exact (‹M ≠ M› rfl).elim
  refine Stop.off ?_
  refine use_gone B F3 X N3 T rfl (by omega) (by omega) (SeqS.v (DSs _ (stands_of N3 (fun z hz => by have hz := r2a z hz; (repeat (first | assumption | apply List.Mem.tail)))))) hroom hn ?_
  intro r4 o4 h4 tk4 ht4 F4 N4 off4 lo4 hD4
  clear F3 N3
  k_steps
  (with_reducible rename Fr _ _ _ _ => F5); (with_reducible rename News _ _ _ _ => N5)
  refine Stop.off ?_
  refine dct_ne (dct_led lw N5 (by k_mem) hDw) (dct_led lo4 N5 (by k_mem) hD4) hG (by first | units_room | (show _ < _; omega)) ?_
  k_steps
  (with_reducible rename Fr _ _ _ _ => F6); (with_reducible rename News _ _ _ _ => N6)
  refine Stop.off ?_
  with_unfolding_all refine dcompE (fun _ => true) (fun _ => 1) F6 N6 (TopRead.nolimit (by k_asm)) (by rfl) (by decide) (by rfl) (by decide) (by rfl) (by rfl) ?_
  k_steps
  (with_reducible rename Fr _ _ _ _ => F7); (with_reducible rename News _ _ _ _ => N7)
  obtain ⟨nH, rfl, hiH⟩ := id hLV
  have hlenH := (lentAt_len room side ns 9)
  refine Stop.off ⟨(lentAt room side ns 9).held.map some, SrcK.list ⟨_, (N7 (H, _) (by k_mem)).1, rfl, nH, rfl⟩ hiH, by rw [List.length_map]; omega, nodup_some hH, F7, N7, ⟨?_, ?_, ?_⟩, ?_⟩
  · intro C k v s₃ m₃ E' hk hkv F8 hm8
    exact tests_nil ⟨rfl, _, _, rfl, fun _ _ e => e⟩
  · intro C k v s₃ m₃ E' hk _ hkv F8 hm8
    have N8 := fr_nil F8
    (try k_fold)
    k_steps
  · intro C k v s₃ m₃ E' hk _ hkv F8 hm8
    have N8 := fr_nil F8
    (try k_fold)
    k_steps
  intro D9 o9 h9 tk9 F9 N9 off9 lo9 keep9 hD9
  clear F7 N7
  have eD9 : (((lentAt room side ns 9).held.map some).filter (fun _ => true)).map (fun k : Key => (k, (1 : Int))) = (lentAt room side ns 9).held.map fun th => (some th, 1) := by rw [List.filter_eq_self.mpr fun _ _ => rfl, List.map_map]; rfl
  rw [eD9] at hD9
  k_steps
  (with_reducible rename Fr _ _ _ _ => F10); (with_reducible rename News _ _ _ _ => N10)
  refine Stop.off ?_
  refine use_addT B F10 X N10 T rfl (by omega) (by omega) (dct_led lw N10 (by k_mem) hDw) (dct_led lo9 N10 (by k_mem) hD9) (by rw [List.length_map]; omega) ?_
  intro r11 o11 h11 tk11 ht11 F11 N11 off11 lo11 hD11
  clear F10 N10
  k_steps
  (with_reducible rename Fr _ _ _ _ => F12); (with_reducible rename News _ _ _ _ => N12)
  refine Stop.off ?_
  refine dct_ne (dct_led lo11 N12 (by k_mem) hD11) (dct_led lc N12 (by k_mem) hDc) hC (by first | units_room | (show _ < _; omega)) ?_
  k_steps
  (with_reducible rename Fr _ _ _ _ => F13); (with_reducible rename News _ _ _ _ => N13)
  exact hQ _ _ _ ps' ex' (by assumption) F13 (fun z hz => N13 z (by
    rcases List.mem_cons.mp hz with rfl | hz
    · k_mem
    · rcases List.mem_cons.mp hz with rfl | hz
      · k_mem
      · have hz := (List.mem_append.mp hz).elim (r2a z) (r2b z)
        (repeat (first | assumption | apply List.Mem.tail)))) hx' hcx' HTx (fun y y1 y2 y3 => by simp only [if_neg y1, if_neg y2, if_neg y3])

theorem last_of_sorted {l : List Int} {a d : Int} (hs : l.Pairwise (· ≤ ·)) (ha : a ∈ l) (h : ∀ x ∈ l, x ≤ a) : l.getLastD d = a := by
  induction l generalizing d with
  | nil => cases ha
  | cons x r ih =>
    cases r with
    | nil => rw [List.mem_singleton.mp ha]; rfl
    | cons y r =>
      have hs' := List.pairwise_cons.mp hs
      rw [List.getLastD_cons]
      have hm : a ∈ y :: r := by
        rcases List.mem_cons.mp ha with e | q
        · have h1 := hs'.1 y (.head _)
          have h2 := h y (.tail _ (.head _))
          have : y = a := by omega
          rw [← this]; exact .head _
        · exact q
      exact ih hs'.2 hm fun z hz => h z (.tail _ hz)
theorem rangeKs_sorted (n : Nat) : (rangeKs 0 n).Pairwise (· ≤ ·) := by
  unfold rangeKs
  rw [List.pairwise_map]
  exact List.pairwise_lt_range.imp fun h => by omega
theorem mem_range0 {n : Nat} {k : Int} : k ∈ rangeKs 0 n ↔ 0 ≤ k ∧ k < (n : Int) := by
  constructor
  · intro h; have := mem_rangeKs h; omega
  · intro h
    unfold rangeKs
    exact List.mem_map.mpr ⟨k.toNat, List.mem_range.mpr (by omega), by omega⟩
theorem split_at {th : Int} : ∀ {r : List Int}, th ∈ r → ∃ B A, r = B ++ th :: A ∧ th ∉ B ∧ r.takeWhile (fun z => z != th) = B
  | [], h => nomatch h
  | x :: r, h => by
    by_cases e : x = th
    · subst e; exact ⟨[], r, rfl, List.not_mem_nil, by simp⟩
    · obtain ⟨B, A, h1, h2, h3⟩ := split_at (r := r) (by rcases List.mem_cons.mp h with q | q; exact absurd q.symm e; exact q)
      refine ⟨x :: B, A, by rw [h1]; rfl, fun q => ?_, ?_⟩
      · rcases List.mem_cons.mp q with q | q
        · exact e q.symm
        · exact h2 q
      · rw [List.takeWhile_cons, show (x != th) = true by simpa using e, if_pos rfl, h3]
theorem between_key {ns : List Int} {i : Nat} (hi : i < ns.length) : betweenStep ns b (0 + (i : Int)) = bump b (keyOf (geti ns (0 + (i : Int))) (back ns i)) := by
  have hg : ∀ k : Nat, k < i → geti ns (k : Int) = (ns.take i)[k]?.getD 0 := fun k hk => by
    rw [geti_eq (by omega), List.getElem?_take, if_pos hk, List.getElem?_eq_getElem (by omega)]; rfl
  have hit : (0 + (i : Int)).toNat = i := by omega
  unfold betweenStep bump
  rw [hit]
  generalize hth : geti ns (0 + (i : Int)) = th
  have e : (if (rangeKs 0 i).filter (fun k => geti ns k == th) = [] then (none : Key) else some (((rangeKs 0 4).filter (fun x => (cut (some (((rangeKs 0 i).filter (fun k => geti ns k == th)).getLastD 0 + 1)) (some (0 + (i : Int))) ns).contains x)).length : Nat)) = keyOf th (back ns i) := by
    by_cases hin : th ∈ back ns i
    · obtain ⟨B, A, h1, h2, h3⟩ := split_at hin
      have ht : ns.take i = A.reverse ++ th :: B.reverse := by
        have := congrArg List.reverse h1
        unfold back at this
        rw [List.reverse_reverse] at this
        rw [this]; simp
      have hlen : A.length + B.length + 1 = i := by
        have := congrArg List.length ht
        simp only [List.length_take, List.length_append, List.length_cons, List.length_reverse] at this
        omega
      have ha : (A.length : Int) ∈ (rangeKs 0 i).filter (fun k => geti ns k == th) := by
        refine List.mem_filter.mpr ⟨mem_range0.mpr (by omega), ?_⟩
        rw [hg _ (by omega), ht]
        simp
      have hlast : ((rangeKs 0 i).filter (fun k => geti ns k == th)).getLastD 0 = A.length := by
        refine last_of_sorted (List.Pairwise.filter _ (rangeKs_sorted i)) ha fun k hk => ?_
        obtain ⟨k1, k2⟩ := List.mem_filter.mp hk
        have k3 := mem_range0.mp k1
        by_cases q : k ≤ A.length
        · exact q
        · exfalso
          have e1 : geti ns k = (ns.take i)[k.toNat]?.getD 0 := by
            have := hg k.toNat (by omega)
            rwa [show ((k.toNat : Nat) : Int) = k by omega] at this
          rw [beq_iff_eq] at k2
          rw [e1, ht] at k2
          obtain ⟨j, hj⟩ : ∃ j : Nat, k.toNat = A.length + 1 + j := ⟨k.toNat - A.length - 1, by omega⟩
          rw [List.getElem?_append_right (by rw [List.length_reverse]; omega), List.length_reverse, hj, show A.length + 1 + j - A.length = j + 1 by omega, List.getElem?_cons_succ] at k2
          have hjb : j < B.reverse.length := by rw [List.length_reverse]; omega
          rw [List.getElem?_eq_getElem hjb, Option.getD_some] at k2
          exact h2 (List.mem_reverse.mp (k2 ▸ List.getElem_mem hjb))
      have hne : (rangeKs 0 i).filter (fun k => geti ns k == th) ≠ [] := fun q => by rw [q] at ha; cases ha
      have hcut : cut (some (((rangeKs 0 i).filter (fun k => geti ns k == th)).getLastD 0 + 1)) (some (0 + (i : Int))) ns = B.reverse := by
        rw [hlast]
        unfold cut kms_lo kms_hi
        dsimp only
        rw [if_neg (by omega), if_neg (by omega), hit, show ((A.length : Int) + 1).toNat = A.length + 1 by omega, Nat.min_eq_left (by omega), Nat.min_eq_left (by omega)]
        rw [← List.drop_take, ht, List.drop_append, List.drop_eq_nil_of_le (by rw [List.length_reverse]; omega), List.length_reverse, show A.length + 1 - A.length = 1 by omega]
        rfl
      rw [if_neg hne, hcut, keyOf_in hin, h3]
      exact congrArg (fun n : Nat => (some (n : Int) : Key)) (dist_rev B)
    · have hnil : (rangeKs 0 i).filter (fun k => geti ns k == th) = [] := by
        rw [List.filter_eq_nil_iff]
        intro k hk q
        have k3 := mem_range0.mp hk
        rw [beq_iff_eq] at q
        have e1 := hg k.toNat (by omega)
        rw [show ((k.toNat : Nat) : Int) = k by omega, q] at e1
        have hlt : k.toNat < (ns.take i).length := by rw [List.length_take]; omega
        rw [List.getElem?_eq_getElem hlt, Option.getD_some] at e1
        exact hin (List.mem_reverse.mpr (e1 ▸ List.getElem_mem hlt))
      rw [if_pos hnil, keyOf_out hin]
  rw [← e]
theorem between_is {ns : List Int} : ∀ i, i ≤ ns.length → betweenAt ns i = bk (keysOf (back ns i))
  | 0, _ => rfl
  | i + 1, hi => by
    rw [betweenAt_succ, between_key (by omega), between_is i (by omega), back_succ (by omega)]
    rfl
theorem since_between {ns : List Int} (h4 : Four ns) (hn : ns.length = 9) : (sinceAt ns 9).2.2 = betweenAt ns 9 := by
  rw [(since_is h4 9 (by omega)).2.2, between_is 9 (by omega)]
theorem back_all {ns : List Int} (hn : ns.length = 9) : back ns 9 = ns.reverse := by unfold back; rw [List.take_of_length_le (by omega)]
theorem Four.rev {ns : List Int} (h : Four ns) : Four ns.reverse := h.sub fun _ hx => List.mem_reverse.mp hx
theorem since_mirror {ns : List Int} (h4 : Four ns) (hn : ns.length = 9) : DEq (sinceAt ns.reverse 9).2.2 (sinceAt ns 9).2.2 := by
  have hr : ns.reverse.length = 9 := by rw [List.length_reverse]; exact hn
  rw [(since_is h4 9 (by omega)).2.2, (since_is h4.rev 9 (by omega)).2.2, back_all hn, back_all hr]
  exact bk_perm (keys_rev _)
noncomputable def passes (room : Int) (k : Key) : Bool := match k with | none => true | some d => decide (room ≤ d)
theorem take_filter_nodup {x : Int} {l : List Int} (hn : l.Nodup) : ∀ m : Nat, ((l.take (m + 1)).filter (fun z => z != x)).take m = (l.filter (fun z => z != x)).take m := by
  induction l with
  | nil => intro m; simp
  | cons a l ih =>
    intro m
    have hn' := List.nodup_cons.mp hn
    rw [List.take_succ_cons]
    by_cases e : a = x
    · subst e
      have h1 : ∀ l' : List Int, a ∉ l' → l'.filter (fun z => z != a) = l' := fun l' h => List.filter_eq_self.mpr fun z hz => by simpa using fun e : z = a => h (e ▸ hz)
      rw [List.filter_cons_of_neg (by simp), List.filter_cons_of_neg (by simp), h1 _ hn'.1, h1 _ fun q => hn'.1 (List.mem_of_mem_take q), List.take_take, Nat.min_self]
    · have e1 : (a != x) = true := by simpa using e
      rw [List.filter_cons_of_pos (by exact e1), List.filter_cons_of_pos (by exact e1)]
      cases m with
      | zero => rfl
      | succ m => rw [List.take_succ_cons, List.take_succ_cons, ih hn'.2 m]
theorem place_lt {x : Int} : ∀ {l : List Int} {m : Nat}, x ∈ l → (x ∈ l.take m ↔ (l.takeWhile (fun z => z != x)).length < m)
  | [], m, h => nomatch h
  | a :: l, 0, h => by simp
  | a :: l, m + 1, h => by
    by_cases e : a = x
    · subst e; simp
    · have e1 : (a != x) = true := by simpa using e
      have hx : x ∈ l := by rcases List.mem_cons.mp h with q | q; exact absurd q.symm e; exact q
      rw [List.take_succ_cons, List.takeWhile_cons, e1, if_pos rfl, List.length_cons, List.mem_cons, place_lt (m := m) hx]
      constructor
      · rintro (q | q)
        · exact absurd q.symm e
        · omega
      · intro q; exact .inr (by omega)
theorem shelf_is {ns : List Int} {room : Int} (hr : 1 ≤ room) (h4 : Four ns) : ∀ i, i ≤ ns.length →
    shelfAt room ns i = ((RR (back ns i)).take room.toNat, ((keysOf (back ns i)).countP (passes room) : Int))
  | 0, _ => by
    show (([] : List Int), (0 : Int)) = (([] : List Int).take room.toNat, ((0 : Nat) : Int))
    rw [List.take_nil]; rfl
  | i + 1, hi => by
    have hg : ns[i]? = some (geti ns (0 + (i : Int))) := by rw [Int.zero_add, geti_eq (by omega)]; exact List.getElem?_eq_getElem (by omega)
    have f4 : Four (back ns i) := h4.sub fun x hx => List.mem_of_mem_take (List.mem_reverse.mp hx)
    rw [shelfAt_succ hg, shelf_is hr h4 i (by omega), back_succ (by omega)]
    generalize geti ns (0 + (i : Int)) = th
    obtain ⟨m, hm⟩ : ∃ m : Nat, room.toNat = m + 1 := ⟨room.toNat - 1, by omega⟩
    unfold shelfStep
    refine Prod.ext ?_ ?_
    · show ([th] ++ ((RR (back ns i)).take room.toNat).filter (fun one => one != th)).take room.toNat = (th :: (RR (back ns i)).filter (fun y => y != th)).take room.toNat
      rw [hm, List.singleton_append, List.take_succ_cons, List.take_succ_cons, take_filter_nodup (RR_nodup _)]
    · show (if ((RR (back ns i)).take room.toNat).contains th = true then ((keysOf (back ns i)).countP (passes room) : Int) else ((keysOf (back ns i)).countP (passes room) : Int) + 1) = (((keyOf th (back ns i) :: keysOf (back ns i)).countP (passes room) : Nat) : Int)
      rw [List.countP_cons]
      by_cases hin : th ∈ back ns i
      · have hR := RR_mem.mpr hin
        have hp := place_lt (m := room.toNat) hR
        rw [keyOf_RR f4 hin]
        by_cases q : ((RR (back ns i)).takeWhile (fun z => z != th)).length < room.toNat
        · rw [if_pos (List.contains_iff_mem.mpr (hp.mpr q))]
          have : passes room (some (((RR (back ns i)).takeWhile (fun z => z != th)).length : Int)) = false := decide_eq_false (by omega)
          rw [this]; rfl
        · rw [if_neg fun c => q (hp.mp (List.contains_iff_mem.mp c))]
          have : passes room (some (((RR (back ns i)).takeWhile (fun z => z != th)).length : Int)) = true := decide_eq_true (by omega)
          rw [this]; rfl
      · rw [keyOf_out hin, if_neg fun c => hin (RR_mem.mp (List.mem_of_mem_take (List.contains_iff_mem.mp c)))]
        rfl
noncomputable def passSum (p : Key → Bool) (b : List (Key × Int)) : Int := ((b.filter fun x => p x.1).map (·.2)).sum
theorem fpos {p : Key → Bool} {x : Key × Int} {b : List (Key × Int)} (h : p x.1 = true) : (x :: b).filter (fun x => p x.1) = x :: b.filter (fun x => p x.1) := List.filter_cons_of_pos h
theorem fneg {p : Key → Bool} {x : Key × Int} {b : List (Key × Int)} (h : ¬ p x.1 = true) : (x :: b).filter (fun x => p x.1) = b.filter (fun x => p x.1) := List.filter_cons_of_neg h
theorem passSum_out (p : Key → Bool) (k : Key) (v : Int) : ∀ b : List (Key × Int), k ∉ b.map (·.1) → b.map (fun x => if x.1 = k then (x.1, v) else x) = b
  | [], _ => rfl
  | x :: b, h => by
    rw [List.map_cons, List.mem_cons, not_or] at h
    rw [List.map_cons, if_neg fun e => h.1 e.symm, passSum_out p k v b h.2]
theorem passSum_bump (p : Key → Bool) (k : Key) : ∀ b : List (Key × Int), (b.map (·.1)).Nodup → passSum p (bump b k) = passSum p b + (if p k = true then 1 else 0) := by
  intro b hb
  unfold bump dput
  split
  · rename_i h
    induction b with
    | nil => simp at h
    | cons x b ih =>
      have hb' := List.nodup_cons.mp hb
      by_cases e : x.1 = k
      · subst e
        have hd : dget (x :: b) x.1 = some x.2 := by unfold dget; simp
        rw [hd, List.map_cons, if_pos rfl, passSum_out p _ _ _ hb'.1, Option.getD_some]
        unfold passSum
        by_cases q : p x.1 = true
        · rw [fpos (x := (x.1, x.2 + 1)) q, fpos (x := x) q, List.map_cons, List.map_cons, List.sum_cons, List.sum_cons, if_pos q]; dsimp only; omega
        · rw [fneg (x := (x.1, x.2 + 1)) q, fneg (x := x) q, if_neg q, Int.add_zero]
      · have hd : dget (x :: b) k = dget b k := by unfold dget; simp [e]
        have h' : b.any (fun x => decide (x.1 = k)) = true := by
          simp only [List.any_cons, e, decide_false, Bool.false_or] at h; exact h
        have := ih hb'.2 h'
        rw [hd, List.map_cons, if_neg e]
        unfold passSum at this ⊢
        by_cases q : p x.1 = true
        · rw [fpos q, fpos q, List.map_cons, List.map_cons, List.sum_cons, List.sum_cons, this]; omega
        · rw [fneg q, fneg q, this]
  · rename_i h
    have hd : dget b k = none := by
      cases q : dget b k with
      | none => rfl
      | some v => exact absurd (List.any_eq_true.mpr ⟨_, dget_mem q, decide_eq_true rfl⟩) h
    rw [hd]
    unfold passSum
    rw [List.filter_append, List.map_append, List.sum_append]
    congr 1
    by_cases q : p k = true
    · rw [fpos (by exact q), if_pos q]; rfl
    · rw [fneg (by exact q), if_neg q]; rfl
theorem passSum_bk (p : Key → Bool) : ∀ ks, passSum p (bk ks) = (ks.countP p : Int)
  | [] => rfl
  | k :: ks => by
    show passSum p (bump (bk ks) k) = _
    rw [passSum_bump p k _ (bk_nodup ks), passSum_bk p ks, List.countP_cons]
    split <;> simp
theorem mattson {ns : List Int} {room : Int} (hr : 1 ≤ room) (h4 : Four ns) (hn : ns.length = 9) : passSum (passes room) (sinceAt ns 9).2.2 = (shelfAt room ns 9).2 := by
  rw [(since_is h4 9 (by omega)).2.2, shelf_is hr h4 9 (by omega), passSum_bk]

section
noncomputable def has (S a : Nat) : Bool := S / 2 ^ a % 2 == 1
noncomputable def sizeN (S : Nat) : Nat := ((List.range 4).filter (has S)).length
noncomputable def waysN (room a S : Nat) : List Nat := if has S a then [S] else if sizeN S < room then [S + 2 ^ a] else ((List.range 4).filter (has S)).map fun one => S + 2 ^ a - 2 ^ one
noncomputable def priceN (a S : Nat) : Nat := if has S a then 0 else 1
noncomputable def inter (S T : Nat) : Nat := ((List.range 4).filter fun a => has S a && has T a).length
noncomputable def diff (S T : Nat) : Nat := ((List.range 4).filter fun a => has S a && !has T a).length
noncomputable def Run (room : Nat) : Nat → List Nat → Nat → Nat → Prop
  | S, [], T, c => T = S ∧ c = 0
  | S, a :: L, T, c => ∃ S' ∈ waysN room a S, ∃ c', Run room S' L T c' ∧ c = priceN a S + c'
noncomputable def Room (room : Nat) : Prop := room = 2 ∨ room = 3
noncomputable def Ok (room S : Nat) : Prop := S < 16 ∧ sizeN S ≤ room
theorem run_snoc {room a : Nat} : ∀ {L : List Nat} {S T c : Nat}, Run room S (L ++ [a]) T c ↔ ∃ T0 c0, Run room S L T0 c0 ∧ T ∈ waysN room a T0 ∧ c = c0 + priceN a T0
  | [], S, T, c => by
    constructor
    · intro xR1; obtain ⟨S', hS, c', ⟨e1, e2⟩, e⟩ := xR1
      exact ⟨S, 0, ⟨rfl, rfl⟩, e1 ▸ hS, by omega⟩
    · intro xR2; obtain ⟨T0, c0, ⟨e1, e2⟩, h, e⟩ := xR2
      subst e1
      exact ⟨T, h, 0, ⟨rfl, rfl⟩, by omega⟩
  | b :: L, S, T, c => by
    constructor
    · intro xR3; obtain ⟨S', hS, c', hr, e⟩ := xR3
      obtain ⟨T0, c0, h1, h2, h3⟩ := run_snoc.mp hr
      exact ⟨T0, priceN b S + c0, ⟨S', hS, c0, h1, rfl⟩, h2, by omega⟩
    · intro xR4; obtain ⟨T0, c0, ⟨S', hS, c', hr, e⟩, h2, h3⟩ := xR4
      exact ⟨S', hS, c' + priceN a T0, run_snoc.mpr ⟨T0, c', hr, h2, rfl⟩, by omega⟩
theorem any_of {p : Nat → Prop} [DecidablePred p] {l : List Nat} (h : l.any (fun T => decide (p T)) = true) : ∃ T ∈ l, p T := by
  obtain ⟨T, h1, h2⟩ := List.any_eq_true.mp h
  exact ⟨T, h1, of_decide_eq_true h2⟩
theorem ok_fin : ∀ room, 2 ≤ room → room < 4 → ∀ S, S < 16 → sizeN S ≤ room → ∀ a, a < 4 → ∀ T ∈ waysN room a S, T < 16 ∧ sizeN T ≤ room := by
  intro room h2 h4
  obtain rfl | rfl : room = 2 ∨ room = 3 := by omega
  · decide +kernel
  · decide +kernel
theorem lip_fin : ∀ room, 2 ≤ room → room < 4 → ∀ S, S < 16 → sizeN S ≤ room → ∀ S', S' < 16 → sizeN S' ≤ room → ∀ a, a < 4 → ∀ S'' ∈ waysN room a S', (waysN room a S).any (fun T => decide (priceN a S + diff S'' T ≤ priceN a S' + diff S' S)) = true := by
  intro room h2 h4
  obtain rfl | rfl : room = 2 ∨ room = 3 := by omega
  · decide +kernel
  · decide +kernel
theorem rev_fin : ∀ room, 2 ≤ room → room < 4 → ∀ S, S < 16 → sizeN S ≤ room → ∀ T0, T0 < 16 → sizeN T0 ≤ room → ∀ a, a < 4 → ∀ S' ∈ waysN room a S, (waysN room a T0).any (fun T => decide (priceN a T0 + inter S' T0 ≤ priceN a S + inter S T)) = true := by
  intro room h2 h4
  obtain rfl | rfl : room = 2 ∨ room = 3 := by omega
  · decide +kernel
  · decide +kernel
set_option synthInstance.maxSize 4000 in
set_option synthInstance.maxHeartbeats 400000 in
theorem exch_fin : ∀ room, 2 ≤ room → room < 4 → ∀ S', S' < 16 → sizeN S' ≤ room → ∀ x, x < 4 → ∀ y, y < 4 → x ≠ y → has S' y = true → has S' x = false → ∀ a, a < 4 → a ≠ y → ∀ S'' ∈ waysN room a S',
    (waysN room a (S' - 2 ^ y + 2 ^ x)).any (fun T => decide ((priceN a (S' - 2 ^ y + 2 ^ x) ≤ priceN a S' ∧ (T = S'' ∨ (a ≠ x ∧ has S'' y = true ∧ has S'' x = false ∧ T = S'' - 2 ^ y + 2 ^ x))) ∨ (priceN a (S' - 2 ^ y + 2 ^ x) + diff S'' T ≤ priceN a S'))) = true := by
  intro room h2 h4
  obtain rfl | rfl : room = 2 ∨ room = 3 := by omega
  · decide +kernel
  · decide +kernel
set_option synthInstance.maxSize 4000 in
set_option synthInstance.maxHeartbeats 400000 in
theorem swap_fin : ∀ S', S' < 16 → ∀ x, x < 4 → ∀ y, y < 4 → x ≠ y → has S' y = true → has S' x = false → S' - 2 ^ y + 2 ^ x < 16 ∧ sizeN (S' - 2 ^ y + 2 ^ x) = sizeN S' := by decide +kernel
set_option synthInstance.maxSize 4000 in
set_option synthInstance.maxHeartbeats 400000 in
theorem out_fin : ∀ S, S < 16 → ∀ a, a < 4 → has S a = false → ∀ v, v < 4 → has S v = true → ∀ z, z < 4 → has S z = true → z ≠ v → has (S + 2 ^ a - 2 ^ z) v = true ∧ has (S + 2 ^ a - 2 ^ z) z = false ∧ S + 2 ^ a - 2 ^ z - 2 ^ v + 2 ^ z = S + 2 ^ a - 2 ^ v := by decide +kernel
noncomputable def FourN (L : List Nat) : Prop := ∀ a ∈ L, a < 4
section
variable {room : Nat} (hroom : Room room)
include hroom
theorem lip : ∀ {L : List Nat} {S S' T c : Nat}, FourN L → Ok room S → Ok room S' → Run room S' L T c → ∃ T' c', Run room S L T' c' ∧ c' ≤ c + diff S' S
  | [], S, S', T, c, _, _, _, _ => ⟨S, 0, ⟨rfl, rfl⟩, Nat.zero_le _⟩
  | a :: L, S, S', T, c, h4, hS, hS', ⟨S'', hw, c', hr, e⟩ => by
    have ha := h4 a (.head _)
    have r2 : 2 ≤ room ∧ room < 4 := by rcases hroom with h | h <;> omega
    obtain ⟨U, hU, hle⟩ := any_of (lip_fin room r2.1 r2.2 S hS.1 hS.2 S' hS'.1 hS'.2 a ha S'' hw)
    obtain ⟨T', c2, hr2, hc2⟩ := lip (fun b hb => h4 b (.tail _ hb)) (ok_fin room r2.1 r2.2 S hS.1 hS.2 a ha U hU) (ok_fin room r2.1 r2.2 S' hS'.1 hS'.2 a ha S'' hw) hr
    exact ⟨T', priceN a S + c2, ⟨U, hU, c2, hr2, rfl⟩, by omega⟩
theorem rev_run : ∀ {L : List Nat} {S T c : Nat}, FourN L → Ok room S → Run room S L T c → ∃ T' c', Run room 0 L.reverse T' c' ∧ Ok room T' ∧ c' ≤ c + inter S T'
  | [], S, T, c, _, _, _ => ⟨0, 0, ⟨rfl, rfl⟩, ⟨by decide, Nat.zero_le _⟩, Nat.zero_le _⟩
  | a :: L, S, T, c, h4, hS, ⟨S', hw, c', hr, e⟩ => by
    have ha := h4 a (.head _)
    have r2 : 2 ≤ room ∧ room < 4 := by rcases hroom with h | h <;> omega
    obtain ⟨T0, c0, hr0, hok, hc0⟩ := rev_run (fun b hb => h4 b (.tail _ hb)) (ok_fin room r2.1 r2.2 S hS.1 hS.2 a ha S' hw) hr
    obtain ⟨U, hU, hle⟩ := any_of (rev_fin room r2.1 r2.2 S hS.1 hS.2 T0 hok.1 hok.2 a ha S' hw)
    rw [List.reverse_cons]
    exact ⟨U, c0 + priceN a T0, run_snoc.mpr ⟨T0, c0, hr0, hU, rfl⟩, ok_fin room r2.1 r2.2 T0 hok.1 hok.2 a ha U hU, by omega⟩
end
noncomputable def ix (x : Nat) (L : List Nat) : Nat := (L.takeWhile fun y => y != x).length
theorem ix_cons_ne {a x : Nat} {L : List Nat} (h : a ≠ x) : ix x (a :: L) = ix x L + 1 := by
  unfold ix
  rw [List.takeWhile_cons, show (a != x) = true by simpa using h, if_pos rfl, List.length_cons]
theorem ix_cons_eq {x : Nat} {L : List Nat} : ix x (x :: L) = 0 := by
  unfold ix
  rw [List.takeWhile_cons]; simp
section
variable {room : Nat} (hroom : Room room)
include hroom
theorem exch : ∀ {L : List Nat} {S' T c x y : Nat}, FourN L → Ok room S' → x < 4 → y < 4 → x ≠ y → has S' y = true → has S' x = false → ix x L ≤ ix y L → Run room S' L T c → ∃ T' c', Run room (S' - 2 ^ y + 2 ^ x) L T' c' ∧ c' ≤ c
  | [], S', T, c, x, y, _, _, _, _, _, _, _, _, _ => ⟨_, 0, ⟨rfl, rfl⟩, Nat.zero_le _⟩
  | a :: L, S', T, c, x, y, h4, hS', hx, hy, hxy, h1, h2, hix, ⟨S'', hw, c', hr, e⟩ => by
    have ha := h4 a (.head _)
    have r2 : 2 ≤ room ∧ room < 4 := by rcases hroom with h | h <;> omega
    have hay : a ≠ y := fun q => by
      subst q
      rw [ix_cons_eq, ix_cons_ne (fun q => hxy q.symm)] at hix
      omega
    obtain ⟨sw1, sw2⟩ := swap_fin S' hS'.1 x hx y hy hxy h1 h2
    have hS'' := ok_fin room r2.1 r2.2 S' hS'.1 hS'.2 a ha S'' hw
    obtain ⟨U, hU, hor⟩ := any_of (exch_fin room r2.1 r2.2 S' hS'.1 hS'.2 x hx y hy hxy h1 h2 a ha hay S'' hw)
    rcases hor with ⟨hp, hT⟩ | hp
    · rcases hT with hT | ⟨hax, g1, g2, hT⟩
      · subst hT
        exact ⟨T, _, ⟨U, hU, c', hr, rfl⟩, by omega⟩
      · subst hT
        have hix' : ix x L ≤ ix y L := by rw [ix_cons_ne hax, ix_cons_ne hay] at hix; omega
        obtain ⟨T', c2, hr2, hc2⟩ := exch (fun b hb => h4 b (.tail _ hb)) hS'' hx hy hxy g1 g2 hix' hr
        exact ⟨T', _, ⟨_, hU, c2, hr2, rfl⟩, by omega⟩
    · obtain ⟨T', c2, hr2, hc2⟩ := lip hroom (S := U) (fun b hb => h4 b (.tail _ hb)) (ok_fin room r2.1 r2.2 _ sw1 (by rw [sw2]; exact hS'.2) a ha U hU) hS'' hr
      exact ⟨T', _, ⟨U, hU, c2, hr2, rfl⟩, by omega⟩
end
noncomputable def Victim (S : Nat) (L : List Nat) (v : Nat) : Prop := v < 4 ∧ has S v = true ∧ ∀ z, z < 4 → has S z = true → ix z L ≤ ix v L
noncomputable def BRun (room : Nat) : Nat → List Nat → Nat → Prop
  | S, [], c => c = 0
  | S, a :: L, c => ∃ S' c', (if has S a = true then S' = S else if sizeN S < room then S' = S + 2 ^ a else ∃ v, Victim S L v ∧ S' = S + 2 ^ a - 2 ^ v) ∧ BRun room S' L c' ∧ c = priceN a S + c'
theorem mem_ways_full {room a S : Nat} (h1 : has S a = false) (h2 : ¬ sizeN S < room) {T : Nat} : T ∈ waysN room a S ↔ ∃ z, z < 4 ∧ has S z = true ∧ T = S + 2 ^ a - 2 ^ z := by
  unfold waysN
  rw [if_neg (by rw [h1]; exact Bool.false_ne_true), if_neg h2, List.mem_map]
  constructor
  · intro xR5; obtain ⟨z, hz, rfl⟩ := xR5
    obtain ⟨z1, z2⟩ := List.mem_filter.mp hz
    exact ⟨z, List.mem_range.mp z1, z2, rfl⟩
  · intro xR6; obtain ⟨z, z1, z2, rfl⟩ := xR6
    exact ⟨z, List.mem_filter.mpr ⟨List.mem_range.mpr z1, z2⟩, rfl⟩
theorem brun_run {room : Nat} : ∀ {L : List Nat} {S c : Nat}, BRun room S L c → ∃ T, Run room S L T c
  | [], S, c, h => ⟨S, rfl, h⟩
  | a :: L, S, c, ⟨S', c', hc, hr, e⟩ => by
    obtain ⟨T, hT⟩ := brun_run hr
    refine ⟨T, S', ?_, c', hT, e⟩
    by_cases q : has S a = true
    · rw [if_pos q] at hc
      unfold waysN
      rw [if_pos q, hc]; exact .head _
    · rw [if_neg q] at hc
      have q' : has S a = false := by simpa using q
      by_cases q2 : sizeN S < room
      · rw [if_pos q2] at hc
        unfold waysN
        rw [if_neg q, if_pos q2, hc]; exact .head _
      · rw [if_neg q2] at hc
        obtain ⟨v, hv, rfl⟩ := hc
        exact (mem_ways_full q' q2).mpr ⟨v, hv.1, hv.2.1, rfl⟩
theorem belady {room : Nat} (hroom : Room room) : ∀ {L : List Nat} {S T c k : Nat}, FourN L → Ok room S → BRun room S L k → Run room S L T c → k ≤ c
  | [], S, T, c, k, _, _, h, _ => by rw [show k = 0 from h]; exact Nat.zero_le _
  | a :: L, S, T, c, k, h4, hS, ⟨S1, k', hc, hb, e⟩, ⟨S', hw, c', hr, e'⟩ => by
    have ha := h4 a (.head _)
    have h4' : FourN L := fun b hb => h4 b (.tail _ hb)
    have r2 : 2 ≤ room ∧ room < 4 := by rcases hroom with h | h <;> omega
    have hS' := ok_fin room r2.1 r2.2 S hS.1 hS.2 a ha S' hw
    by_cases q : has S a = true
    · rw [if_pos q] at hc
      unfold waysN at hw
      rw [if_pos q] at hw
      have : S' = S1 := by rw [hc]; exact List.mem_singleton.mp hw
      subst this
      have := belady hroom h4' hS' hb hr
      omega
    · rw [if_neg q] at hc
      have q' : has S a = false := by simpa using q
      by_cases q2 : sizeN S < room
      · rw [if_pos q2] at hc
        unfold waysN at hw
        rw [if_neg q, if_pos q2] at hw
        have : S' = S1 := by rw [hc]; exact List.mem_singleton.mp hw
        subst this
        have := belady hroom h4' hS' hb hr
        omega
      · rw [if_neg q2] at hc
        obtain ⟨v, ⟨v1, v2, v3⟩, rfl⟩ := hc
        obtain ⟨z, z1, z2, rfl⟩ := (mem_ways_full q' q2).mp hw
        by_cases hzv : z = v
        · subst hzv
          have := belady hroom h4' hS' hb hr
          omega
        · obtain ⟨o1, o2, o3⟩ := out_fin S hS.1 a ha q' v v1 v2 z z1 z2 hzv
          obtain ⟨T', c2, hr2, hc2⟩ := exch hroom h4' hS' z1 v1 hzv o1 o2 (v3 z z1 z2) hr
          rw [o3] at hr2
          have hv' := ok_fin room r2.1 r2.2 S hS.1 hS.2 a ha (S + 2 ^ a - 2 ^ v) ((mem_ways_full q' q2).mpr ⟨v, v1, v2, rfl⟩)
          have := belady hroom h4' hv' hb hr2
          omega
end

noncomputable def Ln (ns : List Int) : List Nat := ns.map Int.toNat
theorem Ln_four {ns : List Int} (h : Four ns) : FourN (Ln ns) := fun a ha => by
  obtain ⟨x, hx, rfl⟩ := List.mem_map.mp ha
  have := h x hx
  omega
theorem ways_link : ∀ room : Nat, 2 ≤ room → room < 4 → ∀ S : Nat, S < 16 → ∀ a : Nat, a < 4 → waysOf (room : Int) (a : Int) (S : Int) = (waysN room a S).map (fun T : Nat => (T : Int)) := by
  intro room h2 h4
  obtain rfl | rfl : room = 2 ∨ room = 3 := by omega
  · decide +kernel
  · decide +kernel
theorem bits_link : ∀ S : Nat, S < 16 → ∀ a : Nat, a < 4 → (bitsOf (S : Int)).contains (a : Int) = has S a := by decide +kernel
theorem price_link {S a : Nat} (hS : S < 16) (ha : a < 4) (pr : Int) : priceOf (a : Int) (S : Int) pr = pr + (priceN a S : Nat) := by
  unfold priceOf priceN
  rw [bits_link S hS a ha]
  split <;> simp
noncomputable def GM (b : List (Key × Int)) (P : Int → Int → Prop) : Prop := (∀ w v, dget b (some w) = some v → P w v) ∧ ∀ w v, P w v → ∃ v', v' ≤ v ∧ dget b (some w) = some v'
theorem GM.congr {b : List (Key × Int)} {P P' : Int → Int → Prop} (h : GM b P) (e : ∀ w v, P w v ↔ P' w v) : GM b P' :=
  ⟨fun w v q => (e w v).mp (h.1 w v q), fun w v q => h.2 w v ((e w v).mpr q)⟩
theorem GM.put {a : List (Key × Int)} {P : Int → Int → Prop} (h : GM a P) (p w : Int) : GM (putWay p a w) (fun w' v => P w' v ∨ (w' = w ∧ v = p)) := by
  unfold putWay
  constructor
  · intro w' v q
    rw [dget_dput] at q
    by_cases e : w' = w
    · subst e
      rw [if_pos rfl] at q
      have q := Option.some.inj q
      cases hd : dget a (some w') with
      | none =>
        rw [hd] at q
        simp only [Option.getD_none, Int.lt_irrefl, if_false] at q
        exact .inr ⟨rfl, q.symm⟩
      | some x =>
        rw [hd] at q
        simp only [Option.getD_some] at q
        split at q
        · exact .inl (h.1 w' v (by rw [hd, q]))
        · exact .inr ⟨rfl, q.symm⟩
    · rw [if_neg (fun c => e (Option.some.inj c))] at q
      exact .inl (h.1 w' v q)
  · rintro w' v q
    rw [dget_dput]
    by_cases e : w' = w
    · subst e
      rw [if_pos rfl]
      refine ⟨_, ?_, rfl⟩
      rcases q with q | ⟨_, q⟩
      · obtain ⟨v', h1, h2⟩ := h.2 w' v q
        rw [h2, Option.getD_some]
        split <;> omega
      · subst q
        split <;> omega
    · rw [if_neg (fun c => e (Option.some.inj c))]
      rcases q with q | ⟨q, _⟩
      · exact h.2 w' v q
      · exact absurd q e
theorem GM.puts {p : Int} : ∀ {ws : List Int} {a : List (Key × Int)} {P : Int → Int → Prop}, GM a P → GM (putWays p a ws) (fun w' v => P w' v ∨ (w' ∈ ws ∧ v = p))
  | [], a, P, h => h.congr fun w v => by simp
  | w :: ws, a, P, h => by
    refine (GM.puts (ws := ws) (h.put p w)).congr fun w' v => ?_
    rw [List.mem_cons]
    constructor
    · rintro ((q | ⟨q, q2⟩) | ⟨q, q2⟩)
      · exact .inl q
      · exact .inr ⟨.inl q, q2⟩
      · exact .inr ⟨.inr q, q2⟩
    · rintro (q | ⟨q | q, q2⟩)
      · exact .inl (.inl q)
      · exact .inl (.inr ⟨q, q2⟩)
      · exact .inr ⟨q, q2⟩
theorem GM.turns {room th : Int} : ∀ {b : List (Key × Int)} {a : List (Key × Int)} {P : Int → Int → Prop}, GM a P →
    GM (b.foldl (leastTurn room th) a) (fun w v => P w v ∨ ∃ x ∈ b, w ∈ waysOf room th (x.1.getD 0) ∧ v = priceOf th (x.1.getD 0) x.2)
  | [], a, P, h => h.congr fun w v => by simp
  | x :: b, a, P, h => by
    refine (GM.turns (b := b) (a := leastTurn room th a x) (h.puts (ws := waysOf room th (x.1.getD 0)) (p := priceOf th (x.1.getD 0) x.2))).congr fun w v => ?_
    constructor
    · rintro ((q | q) | ⟨y, hy, q⟩)
      · exact .inl q
      · exact .inr ⟨x, .head _, q⟩
      · exact .inr ⟨y, .tail _ hy, q⟩
    · rintro (q | ⟨y, hy, q⟩)
      · exact .inl (.inl q)
      · rcases List.mem_cons.mp hy with rfl | hy
        · exact .inl (.inr q)
        · exact .inr ⟨y, hy, q⟩
theorem putWays_nodup (p : Int) : ∀ (ws : List Int) (a : List (Key × Int)), (a.map (·.1)).Nodup → ((putWays p a ws).map (·.1)).Nodup
  | [], a, h => h
  | w :: ws, a, h => putWays_nodup p ws (putWay p a w) (dput_nodup _ _ h)
theorem turns_nodup (room th : Int) : ∀ (b a : List (Key × Int)), (a.map (·.1)).Nodup → ((b.foldl (leastTurn room th) a).map (·.1)).Nodup
  | [], a, h => h
  | x :: b, a, h => turns_nodup room th b (leastTurn room th a x) (putWays_nodup _ _ _ h)
theorem leastAt_nodup {room : Int} {ns : List Int} : ∀ i, i ≤ ns.length → ((leastAt room ns i).map (·.1)).Nodup
  | 0, _ => List.nodup_cons.mpr ⟨List.not_mem_nil, .nil⟩
  | i + 1, hi => by
    rw [leastAt_succ (List.getElem?_eq_getElem (show i < ns.length by omega))]
    exact turns_nodup _ _ _ _ .nil
theorem run_ok {room : Nat} (hroom : Room room) : ∀ {L : List Nat} {S T c : Nat}, FourN L → Ok room S → Run room S L T c → Ok room T
  | [], S, T, c, _, hS, ⟨e, _⟩ => e ▸ hS
  | a :: L, S, T, c, h4, hS, ⟨S', hw, c', hr, e⟩ => by
    have r2 : 2 ≤ room ∧ room < 4 := by rcases hroom with h | h <;> omega
    exact run_ok hroom (fun b hb => h4 b (.tail _ hb)) (ok_fin room r2.1 r2.2 S hS.1 hS.2 a (h4 a (.head _)) S' hw) hr
theorem ok_zero (room : Nat) : Ok room 0 := ⟨by decide, Nat.zero_le _⟩
theorem least_run {room : Nat} (hroom : Room room) {ns : List Int} (h4 : Four ns) : ∀ i, i ≤ ns.length →
    GM (leastAt room ns i) (fun w v => ∃ T c : Nat, w = T ∧ v = c ∧ Run room 0 ((Ln ns).take i) T c)
  | 0, _ => by
    constructor
    · intro w v q
      unfold leastAt dget at q
      simp only [List.take_zero, List.foldl_nil, List.find?_cons] at q
      by_cases e : (some (0 : Int)) = some w
      · rw [decide_eq_true e] at q
        refine ⟨0, 0, (Option.some.inj e).symm, (Option.some.inj q).symm, rfl, rfl⟩
      · rw [decide_eq_false e] at q
        cases q
    · intro w v xR1; obtain ⟨T, c, rfl, rfl, e1, e2⟩ := xR1
      subst e1 e2
      exact ⟨0, Int.le_refl _, rfl⟩
  | i + 1, hi => by
    have r2 : 2 ≤ room ∧ room < 4 := by rcases hroom with h | h <;> omega
    have hlt : i < ns.length := by omega
    have ih := least_run hroom h4 i (by omega)
    have hn := leastAt_nodup (room := room) (ns := ns) i (by omega)
    rw [leastAt_succ (List.getElem?_eq_getElem hlt)]
    have hx := h4 ns[i] (List.getElem_mem hlt)
    obtain ⟨a, ha⟩ : ∃ a : Nat, ns[i] = (a : Int) := ⟨ns[i].toNat, by omega⟩
    have ha4 : a < 4 := by omega
    have hL : (Ln ns).take (i + 1) = (Ln ns).take i ++ [a] := by
      unfold Ln
      rw [List.take_add_one, List.getElem?_map, List.getElem?_eq_getElem hlt, ha]
      rfl
    have h4L : FourN ((Ln ns).take i) := fun b hb => Ln_four h4 b (List.mem_of_mem_take hb)
    rw [ha, hL]
    have hks := ks_leastAt (room := room) (ns := ns) (fun x hx => h4 x hx) i
    have G0 : GM (leastStep room (leastAt room ns i) a) (fun w v => (fun _ _ => False) w v ∨ ∃ x ∈ leastAt room ns i, w ∈ waysOf room a (x.1.getD 0) ∧ v = priceOf a (x.1.getD 0) x.2) :=
      GM.turns (And.intro (fun w v q => by cases q) (fun w v q => False.elim q))
    constructor
    · intro w v q
      rcases G0.1 w v q with q | ⟨x, hx, hw, hv⟩
      · exact False.elim q
      · obtain ⟨k, e, _⟩ := hks x hx
        obtain ⟨j, hj⟩ := List.mem_iff_getElem?.mp hx
        have hg := dget_at hn (j := j) (k := some k) (v := x.2) (by rw [hj, ← e])
        obtain ⟨T, c, rfl, e2, hr⟩ := ih.1 _ _ hg
        have hT := run_ok hroom h4L (ok_zero room) hr
        rw [e, Option.getD_some] at hw hv
        rw [ways_link room r2.1 r2.2 T hT.1 a ha4] at hw
        rw [price_link hT.1 ha4, e2] at hv
        obtain ⟨U, hU, rfl⟩ := List.mem_map.mp hw
        exact ⟨U, c + priceN a T, rfl, by rw [hv]; simp, run_snoc.mpr ⟨T, c, hr, hU, rfl⟩⟩
    · intro w v xR2; obtain ⟨U, c, rfl, rfl, hr⟩ := xR2
      obtain ⟨T, c0, hr0, hU, e⟩ := run_snoc.mp hr
      have hT := run_ok hroom h4L (ok_zero room) hr0
      obtain ⟨v', q1, q2⟩ := ih.2 _ _ ⟨T, c0, rfl, rfl, hr0⟩
      obtain ⟨v2, q3, q4⟩ := G0.2 (U : Int) (v' + (priceN a T : Nat)) (.inr ⟨_, dget_mem q2, by rw [Option.getD_some, ways_link room r2.1 r2.2 T hT.1 a ha4]; exact List.mem_map.mpr ⟨U, hU, rfl⟩, by rw [Option.getD_some, price_link hT.1 ha4]⟩)
      exact ⟨v2, by omega, q4⟩
theorem least_spec {room : Nat} (hroom : Room room) {ns : List Int} (h4 : Four ns) (hn : ns.length = 9) {M : Int} (h1 : M ∈ (leastAt room ns 9).map (·.2)) (h2 : ∀ a ∈ (leastAt room ns 9).map (·.2), M ≤ a) :
    ∃ m : Nat, M = m ∧ (∃ T, Run room 0 (Ln ns) T m) ∧ ∀ T c, Run room 0 (Ln ns) T c → m ≤ c := by
  have G := least_run hroom h4 9 (by omega)
  have hd := leastAt_nodup (room := room) (ns := ns) 9 (by omega)
  have hks := ks_leastAt (room := room) (ns := ns) (fun x hx => h4 x hx) 9
  have ht : (Ln ns).take 9 = Ln ns := List.take_of_length_le (by unfold Ln; rw [List.length_map]; omega)
  rw [ht] at G
  obtain ⟨x, hx, rfl⟩ := List.mem_map.mp h1
  obtain ⟨k, e, _⟩ := hks x hx
  obtain ⟨j, hj⟩ := List.mem_iff_getElem?.mp hx
  have hg := dget_at hd (j := j) (k := some k) (v := x.2) (by rw [hj, ← e])
  obtain ⟨T, c, _, e2, hr⟩ := G.1 _ _ hg
  refine ⟨c, e2, ⟨T, hr⟩, fun T' c' hr' => ?_⟩
  obtain ⟨v', q1, q2⟩ := G.2 _ _ ⟨T', c', rfl, rfl, hr'⟩
  have := h2 v' (List.mem_map.mpr ⟨_, dget_mem q2, rfl⟩)
  omega

noncomputable def Sided (side : Int) : Prop := side = 1 ∨ side = -1
theorem cmp_lt {side : Int} {a b : Int × Int} (h : a.1 < b.1) : cmpF side a b = 1 := if_pos h
theorem cmp_gt {side : Int} {a b : Int × Int} (h : b.1 < a.1) : cmpF side a b = -1 := by
  unfold cmpF
  rw [if_neg (Int.not_lt.mpr (Int.le_of_lt h)), if_pos h]
theorem cmp_eq {side : Int} {a b : Int × Int} (e : a.1 = b.1) : cmpF side a b = if a.2 < b.2 then -side else if a.2 > b.2 then side else 0 := by
  unfold cmpF
  rw [if_neg (e ▸ Int.lt_irrefl _), if_neg (e ▸ Int.lt_irrefl _)]
theorem not_lt_of {x y : Int} (h : x < y) : ¬ y < x := Int.not_lt.mpr (Int.le_of_lt h)
theorem cmp_neg {side : Int} (hs : Sided side) (a b : Int × Int) : cmpF side a b < 0 ↔ b.1 < a.1 ∨ (a.1 = b.1 ∧ ((side = 1 ∧ a.2 < b.2) ∨ (side = -1 ∧ b.2 < a.2))) := by
  rcases Int.lt_trichotomy a.1 b.1 with q | q | q
  · rw [cmp_lt q]
    exact ⟨fun h => absurd h (by decide), fun h => h.elim (fun h => absurd h (not_lt_of q)) fun h => absurd q (h.1 ▸ Int.lt_irrefl _)⟩
  · rw [cmp_eq q]
    have nq : ¬ b.1 < a.1 := q ▸ Int.lt_irrefl _
    rcases Int.lt_trichotomy a.2 b.2 with r | r | r
    · rw [if_pos r]
      rcases hs with rfl | rfl
      · exact ⟨fun _ => .inr ⟨q, .inl ⟨rfl, r⟩⟩, fun _ => by decide⟩
      · exact ⟨fun h => absurd h (by decide), fun h => h.elim (fun h => absurd h nq) fun h => h.2.elim (fun h => absurd h.1 (by decide)) fun h => absurd h.2 (not_lt_of r)⟩
    · have n1 : ¬ a.2 < b.2 := r ▸ Int.lt_irrefl _
      have n2 : ¬ b.2 < a.2 := r ▸ Int.lt_irrefl _
      rw [if_neg n1, if_neg n2]
      exact ⟨fun h => absurd h (by decide), fun h => h.elim (fun h => absurd h nq) fun h => h.2.elim (fun h => absurd h.2 n1) fun h => absurd h.2 n2⟩
    · rw [if_neg (not_lt_of r), if_pos r]
      rcases hs with rfl | rfl
      · exact ⟨fun h => absurd h (by decide), fun h => h.elim (fun h => absurd h nq) fun h => h.2.elim (fun h => absurd h.2 (not_lt_of r)) fun h => absurd h.1 (by decide)⟩
      · exact ⟨fun _ => .inr ⟨q, .inr ⟨rfl, r⟩⟩, fun _ => by decide⟩
  · rw [cmp_gt q]
    exact ⟨fun _ => .inl q, fun _ => by decide⟩
theorem cmp_total {side : Int} (hs : Sided side) {a b : Int × Int} (h : ¬ cmpF side a b < 0) (hne : a ≠ b) : cmpF side b a < 0 := by
  rw [cmp_neg hs] at h ⊢
  rcases Int.lt_trichotomy a.1 b.1 with q | q | q
  · exact .inl q
  · refine .inr ⟨q.symm, ?_⟩
    rcases Int.lt_trichotomy a.2 b.2 with r | r | r
    · exact hs.elim (fun e => absurd (.inr ⟨q, .inl ⟨e, r⟩⟩) h) fun e => .inr ⟨e, r⟩
    · exact absurd (Prod.ext q r) hne
    · exact hs.elim (fun e => .inl ⟨e, r⟩) fun e => absurd (.inr ⟨q, .inr ⟨e, r⟩⟩) h
  · exact absurd (.inl q) h
theorem cmp_trans {side : Int} (hs : Sided side) {a b c : Int × Int} (h : cmpF side a b < 0) (h' : cmpF side b c < 0) : cmpF side a c < 0 := by
  rw [cmp_neg hs] at h h' ⊢
  rcases h with h | ⟨e, h⟩
  · rcases h' with h' | ⟨e', h'⟩
    · exact .inl (Int.lt_trans h' h)
    · exact .inl (e' ▸ h)
  · rcases h' with h' | ⟨e', h'⟩
    · exact .inl (e.symm ▸ h')
    · refine .inr ⟨e.trans e', ?_⟩
      rcases h with ⟨u, h⟩ | ⟨u, h⟩
      · rcases h' with ⟨u', h'⟩ | ⟨u', h'⟩
        · exact .inl ⟨u, Int.lt_trans h h'⟩
        · exact absurd (u.symm.trans u') (by decide)
      · rcases h' with ⟨u', h'⟩ | ⟨u', h'⟩
        · exact absurd (u.symm.trans u') (by decide)
        · exact .inr ⟨u, Int.lt_trans h' h⟩
theorem cmp_asymm {side : Int} (hs : Sided side) {a b : Int × Int} (h : cmpF side a b < 0) (h' : cmpF side b a < 0) : False := by
  rw [cmp_neg hs] at h h'
  rcases h with h | ⟨e, h⟩
  · rcases h' with h' | ⟨e', h'⟩
    · exact Int.lt_irrefl _ (Int.lt_trans h h')
    · exact Int.lt_irrefl _ (e' ▸ h)
  · rcases h' with h' | ⟨e', h'⟩
    · exact Int.lt_irrefl _ (e ▸ h')
    · rcases h with ⟨u, h⟩ | ⟨u, h⟩
      · rcases h' with ⟨u', h'⟩ | ⟨u', h'⟩
        · exact Int.lt_irrefl _ (Int.lt_trans h h')
        · exact absurd (u.symm.trans u') (by decide)
      · rcases h' with ⟨u', h'⟩ | ⟨u', h'⟩
        · exact absurd (u.symm.trans u') (by decide)
        · exact Int.lt_irrefl _ (Int.lt_trans h h')
noncomputable def SortK (side : Int) (l : List (Int × Int)) : Prop := l.Pairwise fun p q => cmpF side p q < 0
theorem bisF_spec {p : Nat → Bool} {n : Nat} (mono : ∀ i j, i ≤ j → j < n → p j = true → p i = true) : ∀ (f : Nat) (lo hi : Int), 0 ≤ lo → lo ≤ hi → hi ≤ (n : Int) → (hi - lo).toNat < f →
    (∀ k : Nat, (k : Int) < lo → p k = true) → (∀ k : Nat, hi ≤ (k : Int) → k < n → p k = false) →
    0 ≤ bisF p f lo hi ∧ bisF p f lo hi ≤ (n : Int) ∧ (∀ k : Nat, (k : Int) < bisF p f lo hi → p k = true) ∧ ∀ k : Nat, bisF p f lo hi ≤ (k : Int) → k < n → p k = false
  | 0, lo, hi, _, _, _, hf, _, _ => by omega
  | f + 1, lo, hi, h0, h1, h2, hf, hl, hh => by
    unfold bisF
    have e2 : (lo + hi).fdiv 2 = (lo + hi) / 2 := Int.fdiv_eq_ediv_of_nonneg _ (by omega)
    by_cases q : lo < hi
    · rw [if_pos q]
      by_cases r : p ((lo + hi).fdiv 2).toNat = true
      · rw [if_pos r]
        refine bisF_spec mono f _ _ (by omega) (by omega) h2 (by omega) (fun k hk => ?_) hh
        exact mono k _ (by omega) (by omega) r
      · rw [if_neg r]
        refine bisF_spec mono f _ _ h0 (by omega) (by omega) (by omega) hl fun k hk hn => ?_
        cases c : p k with
        | false => rfl
        | true => exact absurd (mono _ k (by omega) hn c) r
    · rw [if_neg q]
      exact ⟨h0, by omega, hl, fun k hk hn => hh k (by omega) hn⟩
theorem getp_eq {l : List (Int × Int)} {k : Nat} (h : k < l.length) : getp l k = l[k] := by
  unfold getp; rw [List.getD_eq_getElem?_getD, List.getElem?_eq_getElem h]; rfl
theorem sortK_get {side : Int} {l : List (Int × Int)} (hs : SortK side l) {i j : Nat} (h : i < j) (hj : j < l.length) : cmpF side (getp l i) (getp l j) < 0 := by
  rw [getp_eq (by omega), getp_eq hj]
  exact List.pairwise_iff_getElem.mp hs i j (by omega) hj h
theorem spot_spec {side : Int} (hsd : Sided side) {l : List (Int × Int)} (hs : SortK side l) (x : Int × Int) :
    spot side l x ≤ l.length ∧ (∀ k : Nat, k < spot side l x → cmpF side (getp l k) x < 0) ∧ ∀ k : Nat, spot side l x ≤ k → k < l.length → ¬ cmpF side (getp l k) x < 0 := by
  have mono : ∀ i j, i ≤ j → j < l.length → (fun k => decide (cmpF side (getp l k) x < 0)) j = true → (fun k => decide (cmpF side (getp l k) x < 0)) i = true := by
    intro i j hij hj h
    rcases Nat.eq_or_lt_of_le hij with e | e
    · subst e; exact h
    · exact decide_eq_true (cmp_trans hsd (sortK_get hs e hj) (of_decide_eq_true h))
  obtain ⟨a, b, c, d⟩ := bisF_spec mono (l.length + 1) 0 l.length (Int.le_refl 0) (by omega) (Int.le_refl _) (by omega) (fun k hk => by omega) (fun k hk hn => by omega)
  unfold spot
  generalize bisF (fun k => decide (cmpF side (getp l k) x < 0)) (l.length + 1) 0 l.length = r at a b c d
  exact ⟨by omega, fun k hk => of_decide_eq_true (c k (by omega)), fun k hk hn => of_decide_eq_false (d k (by omega) hn)⟩
theorem insK_spec {side : Int} (hsd : Sided side) {l : List (Int × Int)} (hs : SortK side l) {x : Int × Int} (hx : x ∉ l) : SortK side (insK side l x) ∧ (insK side l x).Perm (x :: l) := by
  obtain ⟨h1, h2, h3⟩ := spot_spec hsd hs x
  unfold insK
  generalize spot side l x = r at h1 h2 h3
  have hsp : (l.take r ++ l.drop r).Pairwise fun p q => cmpF side p q < 0 := by rw [List.take_append_drop]; exact hs
  obtain ⟨p1, p2, p3⟩ := List.pairwise_append.mp hsp
  have ht : ∀ a ∈ l.take r, cmpF side a x < 0 := by
    intro a ha
    obtain ⟨k, hk, rfl⟩ := List.getElem_of_mem ha
    rw [List.length_take] at hk
    have := h2 k (by omega)
    rw [getp_eq (by omega)] at this
    rw [List.getElem_take]; exact this
  have hd : ∀ b ∈ l.drop r, cmpF side x b < 0 := by
    intro b hb
    obtain ⟨k, hk, rfl⟩ := List.getElem_of_mem hb
    rw [List.length_drop] at hk
    have := h3 (r + k) (by omega) (by omega)
    rw [getp_eq (by omega)] at this
    rw [List.getElem_drop]
    exact cmp_total hsd this fun e => hx (e ▸ List.getElem_mem (by omega))
  refine ⟨List.pairwise_append.mpr ⟨p1, List.pairwise_cons.mpr ⟨hd, p2⟩, fun a ha b hb => ?_⟩, ?_⟩
  · rcases List.mem_cons.mp hb with rfl | hb
    · exact ht a ha
    · exact p3 a ha b hb
  · have := (List.perm_middle (a := x) (l₁ := l.take r) (l₂ := l.drop r))
    rwa [List.take_append_drop] at this
theorem line_spec {side : Int} (hsd : Sided side) (ns : List Int) (n : Int) : ∀ (held done : List Int) (line : List (Int × Int)), (done ++ held).Nodup → SortK side line → line.Perm (done.map fun th => (nextAt ns th n, th)) →
    SortK side (held.foldl (fun line th => insK side line (nextAt ns th n, th)) line) ∧ (held.foldl (fun line th => insK side line (nextAt ns th n, th)) line).Perm ((done ++ held).map fun th => (nextAt ns th n, th))
  | [], done, line, _, h1, h2 => ⟨h1, by rw [List.append_nil]; exact h2⟩
  | th :: held, done, line, hn, h1, h2 => by
    have hout : (nextAt ns th n, th) ∉ line := fun h => by
      obtain ⟨y, hy, e⟩ := List.mem_map.mp (h2.mem_iff.mp h)
      have e' : y = th := congrArg Prod.snd e
      exact (List.nodup_append.mp hn).2.2 y hy th (.head _) e'
    obtain ⟨i1, i2⟩ := insK_spec hsd h1 hout
    have := line_spec hsd ns n held (done ++ [th]) (insK side line (nextAt ns th n, th)) (by rw [List.append_assoc]; exact hn) i1 (i2.trans (by rw [List.map_append]; exact ((h2.cons _).trans (List.perm_append_singleton _ _).symm)))
    rw [List.append_assoc] at this
    exact this
noncomputable def Best (side : Int) (ns held : List Int) (n v : Int) : Prop := v ∈ held ∧ ∀ z ∈ held, z ≠ v → cmpF side (nextAt ns v n, v) (nextAt ns z n, z) < 0
theorem out_best {side : Int} (hsd : Sided side) {ns held : List Int} {n : Int} (hn : held.Nodup) (hne : held ≠ []) : Best side ns held n (outOf side ns held n) := by
  obtain ⟨h1, h2⟩ := line_spec hsd ns n held [] [] hn .nil (.refl _)
  change SortK side (lineOf side ns held n) at h1
  change (lineOf side ns held n).Perm _ at h2
  unfold outOf
  cases hl : lineOf side ns held n with
  | nil =>
    rw [hl] at h2
    have := h2.length_eq
    rw [List.length_map] at this
    exact absurd (List.length_eq_zero_iff.mp this.symm) (by simpa using hne)
  | cons p r =>
    rw [hl] at h1 h2
    have h1' := List.pairwise_cons.mp h1
    have hp : p ∈ (([] ++ held).map fun th => (nextAt ns th n, th)) := h2.mem_iff.mp (.head _)
    obtain ⟨v, hv, rfl⟩ := List.mem_map.mp hp
    refine ⟨hv, fun z hz hzv => ?_⟩
    have hzl : (nextAt ns z n, z) ∈ (nextAt ns v n, v) :: r := h2.mem_iff.mpr (List.mem_map.mpr ⟨z, hz, rfl⟩)
    rcases List.mem_cons.mp hzl with e | q
    · exact absurd (congrArg Prod.snd e) hzv
    · exact h1'.1 _ q
theorem best_unique {side : Int} (hsd : Sided side) {ns held : List Int} {n v v' : Int} (h : Best side ns held n v) (h' : Best side ns held n v') : v = v' := by
  by_cases e : v = v'
  · exact e
  · exact (cmp_asymm hsd (h.2 v' h'.1 fun q => e q.symm) (h'.2 v h.1 e)).elim
structure NX (ns : List Int) (x n k : Int) : Prop where
  lo : n < k
  hi : k ≤ 9
  at_ : k < 9 → geti ns k = x
  before : ∀ j, n < j → j < k → geti ns j ≠ x
theorem sorted_split {l : List Int} (hs : l.Pairwise (· ≤ ·)) (n : Int) : l = l.filter (fun y => decide (y ≤ n)) ++ l.filter (fun y => decide (n < y)) := by
  induction l with
  | nil => rfl
  | cons a l ih =>
    have hs' := List.pairwise_cons.mp hs
    by_cases q : a ≤ n
    · rw [List.filter_cons_of_pos (by exact decide_eq_true q), List.filter_cons_of_neg (by simp; omega), List.cons_append, ← ih hs'.2]
    · rw [List.filter_cons_of_neg (by simpa using q), List.filter_cons_of_pos (by exact decide_eq_true (by omega))]
      have e1 : l.filter (fun y => decide (y ≤ n)) = [] := List.filter_eq_nil_iff.mpr fun y hy c => by have := hs'.1 y hy; have := of_decide_eq_true c; omega
      have e2 : l.filter (fun y => decide (n < y)) = l := List.filter_eq_self.mpr fun y hy => by have := hs'.1 y hy; exact decide_eq_true (by omega)
      rw [e1, e2]; rfl
theorem nextAt_nx {ns : List Int} {x n : Int} (h0 : 0 ≤ n) (h9 : n < 9) : NX ns x n (nextAt ns x n) := by
  have hsp := sorted_split (placesOf_sorted ns x) n
  have hmem : ∀ j, j ∈ (placesOf ns x).filter (fun y => decide (n < y)) ↔ (n < j ∧ j < 9 ∧ geti ns j = x) := by
    intro j
    rw [List.mem_filter]
    unfold placesOf
    rw [List.mem_filter, mem_range0, beq_iff_eq, decide_eq_true_iff]
    constructor
    · intro xR1; obtain ⟨⟨⟨a, b⟩, c⟩, d⟩ := xR1; exact ⟨d, by omega, c⟩
    · intro xR2; obtain ⟨a, b, c⟩ := xR2; exact ⟨⟨⟨by omega, by omega⟩, c⟩, a⟩
  have hsorted : ((placesOf ns x).filter (fun y => decide (n < y))).Pairwise (· ≤ ·) := List.Pairwise.filter _ (placesOf_sorted ns x)
  have e : nextAt ns x n = (((placesOf ns x).filter (fun y => decide (n < y))) ++ [9]).headD 0 := by
    unfold nextAt geti
    have hc : ((countLe (placesOf ns x) n : Nat) : Int).toNat = ((placesOf ns x).filter (fun y => decide (y ≤ n))).length := by unfold countLe; omega
    rw [hc, List.getD_eq_getElem?_getD]
    conv => lhs; arg 1; arg 1; rw [hsp]
    rw [List.append_assoc, List.getElem?_append_right (Nat.le_refl _), Nat.sub_self]
    cases (placesOf ns x).filter (fun y => decide (n < y)) <;> rfl
  rw [e]
  cases hB : (placesOf ns x).filter (fun y => decide (n < y)) with
  | nil =>
    rw [hB] at hmem
    refine ⟨h9, Int.le_refl _, fun h => absurd h (Int.lt_irrefl _), fun j h1 h2 q => ?_⟩
    exact absurd ((hmem j).mpr ⟨h1, h2, q⟩) List.not_mem_nil
  | cons b r =>
    rw [hB] at hmem hsorted
    obtain ⟨b1, b2, b3⟩ := (hmem b).mp (.head _)
    refine ⟨b1, by show b ≤ 9; omega, fun _ => b3, fun j h1 h2 q => ?_⟩
    have h2' : j < b := h2
    rcases List.mem_cons.mp ((hmem j).mpr ⟨h1, by omega, q⟩) with e | q
    · omega
    · have := (List.pairwise_cons.mp hsorted).1 j q; omega
theorem soon_spec {ns held : List Int} {n : Int} (h0 : 0 ≤ n) (h9 : n < 9) (hout : geti ns n ∉ held) : ∀ j : Nat, n + (j : Int) ≤ 9 →
    (∀ x, x ∈ soonAt ns held n j ↔ x ∈ held ∧ nextAt ns x n < n + (j : Int)) ∧ (soonAt ns held n j).Pairwise fun x y => nextAt ns x n < nextAt ns y n
  | 0, _ => And.intro (fun x => Iff.intro (fun h => absurd h List.not_mem_nil) (fun h => by have := (nextAt_nx (ns := ns) (x := x) h0 h9).lo; have := h.2; omega)) .nil
  | j + 1, hj => by
    obtain ⟨h1, h2⟩ := soon_spec h0 h9 hout j (by omega)
    rw [soonAt_succ]
    unfold soonStep
    have key : ∀ x ∈ held, x = geti ns (n + (j : Int)) → n + (j : Int) ≤ nextAt ns x n → nextAt ns x n = n + (j : Int) := by
      intro x hx e hle
      have X := nextAt_nx (ns := ns) (x := x) h0 h9
      by_cases q : nextAt ns x n = n + (j : Int)
      · exact q
      · by_cases z : j = 0
        · subst z
          rw [e] at hx
          exact absurd (by simpa using hx) hout
        · exact absurd e.symm (X.before (n + (j : Int)) (by omega) (by omega))
    have key2 : ∀ x, nextAt ns x n = n + (j : Int) → geti ns (n + (j : Int)) = x := fun x e => by
      have X := nextAt_nx (ns := ns) (x := x) h0 h9
      have := X.at_ (by omega)
      rwa [e] at this
    split
    · rename_i c
      obtain ⟨c1, c2⟩ := c
      have c1' := List.contains_iff_mem.mp c1
      have c2' : geti ns (n + (j : Int)) ∉ soonAt ns held n j := fun q => by rw [List.contains_iff_mem.mpr q] at c2; cases c2
      have hle : n + (j : Int) ≤ nextAt ns (geti ns (n + (j : Int))) n := by
        by_cases q : nextAt ns (geti ns (n + (j : Int))) n < n + (j : Int)
        · exact absurd ((h1 _).mpr ⟨c1', q⟩) c2'
        · omega
      have he := key _ c1' rfl hle
      refine ⟨fun x => ?_, List.pairwise_append.mpr ⟨h2, List.pairwise_singleton _ _, fun a ha b hb => ?_⟩⟩
      · rw [List.mem_append, List.mem_singleton, h1]
        constructor
        · rintro (⟨q1, q2⟩ | q)
          · exact ⟨q1, by omega⟩
          · subst q; exact ⟨c1', by omega⟩
        · intro xR3; obtain ⟨q1, q2⟩ := xR3
          by_cases q : nextAt ns x n < n + (j : Int)
          · exact .inl ⟨q1, q⟩
          · exact .inr (key2 x (by omega)).symm
      · rw [List.mem_singleton.mp hb, he]
        exact ((h1 a).mp ha).2
    · rename_i c
      refine ⟨fun x => ?_, h2⟩
      rw [h1]
      constructor
      · intro xR4; obtain ⟨q1, q2⟩ := xR4; exact ⟨q1, by omega⟩
      · intro xR5; obtain ⟨q1, q2⟩ := xR5
        refine ⟨q1, ?_⟩
        by_cases q : nextAt ns x n < n + (j : Int)
        · exact q
        · have e := key2 x (by omega)
          exfalso
          refine c ⟨List.contains_iff_mem.mpr (e ▸ q1), ?_⟩
          rw [e]
          cases c2 : (soonAt ns held n j).contains x with
          | false => rfl
          | true => exact absurd ((h1 x).mp (List.contains_iff_mem.mp c2)).2 q
theorem getLastD_mem {l : List Int} (h : l ≠ []) (d : Int) : ∃ l', l = l' ++ [l.getLastD d] := by
  induction l generalizing d with
  | nil => exact absurd rfl h
  | cons a r ih =>
    cases r with
    | nil => exact ⟨[], rfl⟩
    | cons b r =>
      obtain ⟨l', e⟩ := ih (List.cons_ne_nil _ _) a
      exact ⟨a :: l', by rw [List.getLastD_cons, List.cons_append, ← e]⟩
theorem isort_mem {l : List Int} {x : Int} : x ∈ isort l ↔ x ∈ l := (isort_perm l).mem_iff
theorem never_mem {held soon : List Int} {x : Int} : x ∈ neverOf held soon ↔ x ∈ held ∧ x ∉ soon := by
  unfold neverOf
  rw [isort_mem, List.mem_filter]
  constructor
  · intro xR6; obtain ⟨a, b⟩ := xR6
    exact ⟨a, fun q => by rw [List.contains_iff_mem.mpr q] at b; cases b⟩
  · intro xR7; obtain ⟨a, b⟩ := xR7
    refine ⟨a, ?_⟩
    cases c : soon.contains x with
    | false => rfl
    | true => exact absurd (List.contains_iff_mem.mp c) b
theorem goes_best {side : Int} (hsd : Sided side) {ns held : List Int} {n : Int} (h0 : 0 ≤ n) (h9 : n < 9) (hn : held.Nodup) (hne : held ≠ []) (hout : geti ns n ∉ held) :
    Best side ns held n (goesOf side (soonAt ns held n (9 - n.toNat)) (neverOf held (soonAt ns held n (9 - n.toNat)))) := by
  have hj : n + ((9 - n.toNat : Nat) : Int) = 9 := by omega
  obtain ⟨h1, h2⟩ := soon_spec h0 h9 hout (9 - n.toNat) (by omega)
  rw [hj] at h1
  generalize hsoon : soonAt ns held n (9 - n.toNat) = soon at h1 h2
  have h3 : ∀ x, x ∈ neverOf held soon ↔ x ∈ held ∧ nextAt ns x n = 9 := fun x => by
    rw [never_mem, h1]
    have := (nextAt_nx (ns := ns) (x := x) h0 h9).hi
    constructor
    · intro xR8; obtain ⟨a, b⟩ := xR8
      refine ⟨a, ?_⟩
      by_cases q : nextAt ns x n < 9
      · exact absurd ⟨a, q⟩ b
      · omega
    · intro xR9; obtain ⟨a, b⟩ := xR9
      exact ⟨a, fun q => by omega⟩
  have hsn := isort_sorted (held.filter (fun one => !soon.contains one))
  change (neverOf held soon).Pairwise (· ≤ ·) at hsn
  have hnn : (neverOf held soon).Nodup := (isort_perm _).nodup_iff.mpr (nodup_filter _ hn)
  generalize neverOf held soon = never at h3 hsn hnn
  unfold goesOf
  by_cases hv : never = []
  · subst hv
    rw [if_neg (by simp), List.append_nil]
    have hs : soon ≠ [] := by
      intro e
      obtain ⟨x, hx⟩ := List.exists_mem_of_ne_nil held hne
      have := (nextAt_nx (ns := ns) (x := x) h0 h9).hi
      by_cases q : nextAt ns x n < 9
      · have := (h1 x).mpr ⟨hx, q⟩; rw [e] at this; cases this
      · exact absurd ((h3 x).mpr ⟨hx, by omega⟩) List.not_mem_nil
    obtain ⟨l', e⟩ := getLastD_mem hs 0
    generalize soon.getLastD 0 = v at e
    subst e
    obtain ⟨g1, g2⟩ := (h1 v).mp (List.mem_append_right _ (.head _))
    refine ⟨g1, fun z hz hzv => (cmp_neg hsd _ _).mpr (.inl ?_)⟩
    have hz9 : nextAt ns z n < 9 := by
      have := (nextAt_nx (ns := ns) (x := z) h0 h9).hi
      by_cases q : nextAt ns z n < 9
      · exact q
      · exact absurd ((h3 z).mpr ⟨hz, by omega⟩) List.not_mem_nil
    rcases List.mem_append.mp ((h1 z).mpr ⟨hz, hz9⟩) with q | q
    · exact (List.pairwise_append.mp h2).2.2 z q v (.head _)
    · exact absurd (List.mem_singleton.mp q) hzv
  · by_cases hp : side > 0
    · rw [if_pos ⟨hp, hv⟩]
      obtain ⟨v, r, rfl⟩ := List.exists_cons_of_ne_nil hv
      have e : geti (v :: r) 0 = v := rfl
      rw [e]
      have hs1 : side = 1 := by rcases hsd with h | h <;> omega
      obtain ⟨g1, g2⟩ := (h3 v).mp (.head _)
      refine ⟨g1, fun z hz hzv => (cmp_neg hsd _ _).mpr ?_⟩
      have := (nextAt_nx (ns := ns) (x := z) h0 h9).hi
      dsimp only
      by_cases q : nextAt ns z n < 9
      · left; omega
      · right
        refine ⟨by omega, .inl ⟨hs1, ?_⟩⟩
        rcases List.mem_cons.mp ((h3 z).mpr ⟨hz, by omega⟩) with q | q
        · exact absurd q hzv
        · have := (List.pairwise_cons.mp hsn).1 z q; omega
    · rw [if_neg fun c => hp c.1]
      have hs1 : side = -1 := by rcases hsd with h | h <;> omega
      obtain ⟨l', e⟩ := getLastD_mem hv (soon.getLastD 0)
      have e2 : (soon ++ never).getLastD 0 = never.getLastD (soon.getLastD 0) := by
        rw [List.getLastD_eq_getLast?, List.getLast?_append, List.getLastD_eq_getLast?, List.getLastD_eq_getLast?]
        cases never.getLast? <;> rfl
      rw [e2]
      generalize never.getLastD (soon.getLastD 0) = v at e
      subst e
      obtain ⟨g1, g2⟩ := (h3 v).mp (List.mem_append_right _ (.head _))
      refine ⟨g1, fun z hz hzv => (cmp_neg hsd _ _).mpr ?_⟩
      have := (nextAt_nx (ns := ns) (x := z) h0 h9).hi
      dsimp only
      by_cases q : nextAt ns z n < 9
      · left; omega
      · right
        refine ⟨by omega, .inr ⟨hs1, ?_⟩⟩
        rcases List.mem_append.mp ((h3 z).mpr ⟨hz, by omega⟩) with q | q
        · have := (List.pairwise_append.mp hsn).2.2 z q v (.head _); omega
        · exact absurd (List.mem_singleton.mp q) hzv

section
noncomputable def maskB (b0 b1 b2 b3 : Bool) : Nat := b0.toNat + 2 * b1.toNat + 4 * b2.toNat + 8 * b3.toNat
noncomputable def maskL (l : List Int) : Nat := maskB (l.contains 0) (l.contains 1) (l.contains 2) (l.contains 3)
theorem mask_has (l : List Int) {a : Int} (h0 : 0 ≤ a) (h1 : a < 4) : has (maskL l) a.toNat = l.contains a := by
  unfold maskL
  obtain rfl | rfl | rfl | rfl : a = 0 ∨ a = 1 ∨ a = 2 ∨ a = 3 := by omega
  all_goals
    generalize l.contains 0 = b0; generalize l.contains 1 = b1; generalize l.contains 2 = b2; generalize l.contains 3 = b3
    revert b0 b1 b2 b3; decide
theorem mask_size (l : List Int) : sizeN (maskL l) = dist l := by
  unfold maskL dist
  have e : rangeKs 0 4 = [0, 1, 2, 3] := by decide
  rw [e]
  simp only [List.filter_cons, List.filter_nil]
  generalize l.contains 0 = b0; generalize l.contains 1 = b1; generalize l.contains 2 = b2; generalize l.contains 3 = b3
  revert b0 b1 b2 b3; decide
theorem mask_nodup {l : List Int} (hn : l.Nodup) (h : Four l) : sizeN (maskL l) = l.length := by
  rw [mask_size]
  unfold dist
  refine Nat.le_antisymm (nodup_length (nodup_filter _ (by decide)) fun x hx => List.contains_iff_mem.mp (List.mem_filter.mp hx).2) (nodup_length hn fun x hx => ?_)
  have := h x hx
  exact List.mem_filter.mpr ⟨mem_range0.mpr (by omega), List.contains_iff_mem.mpr hx⟩
theorem contains_snoc (l : List Int) (x y : Int) : (l ++ [x]).contains y = (l.contains y || y == x) := by
  rw [Bool.eq_iff_iff]
  simp
theorem contains_not (l : List Int) (v y : Int) : (l.filter (fun one => one != v)).contains y = (l.contains y && y != v) := by
  rw [Bool.eq_iff_iff]
  simp
theorem mask_snoc {l : List Int} {x : Int} (h0 : 0 ≤ x) (h1 : x < 4) (hx : l.contains x = false) : maskL (l ++ [x]) = maskL l + 2 ^ x.toNat := by
  unfold maskL
  rw [contains_snoc, contains_snoc, contains_snoc, contains_snoc]
  obtain rfl | rfl | rfl | rfl : x = 0 ∨ x = 1 ∨ x = 2 ∨ x = 3 := by omega
  all_goals
    rw [hx]; clear hx
    generalize l.contains 0 = b0; generalize l.contains 1 = b1; generalize l.contains 2 = b2; generalize l.contains 3 = b3
    revert b0 b1 b2 b3; decide
theorem mask_swap {l : List Int} {x v : Int} (h0 : 0 ≤ x) (h1 : x < 4) (hx : l.contains x = false) (v0 : 0 ≤ v) (v1 : v < 4) (hv : l.contains v = true) : maskL (l.filter (fun one => one != v) ++ [x]) = maskL l + 2 ^ x.toNat - 2 ^ v.toNat := by
  unfold maskL
  rw [contains_snoc, contains_snoc, contains_snoc, contains_snoc, contains_not, contains_not, contains_not, contains_not]
  obtain rfl | rfl | rfl | rfl : x = 0 ∨ x = 1 ∨ x = 2 ∨ x = 3 := by omega
  all_goals
    obtain rfl | rfl | rfl | rfl : v = 0 ∨ v = 1 ∨ v = 2 ∨ v = 3 := by omega
    all_goals
      first
        | (rw [hx] at hv; cases hv; done)
        | (rw [hx, hv]; clear hx hv
           generalize l.contains 0 = b0; generalize l.contains 1 = b1; generalize l.contains 2 = b2; generalize l.contains 3 = b3
           revert b0 b1 b2 b3; decide)
theorem ix_is {x : Nat} : ∀ {L : List Nat} {m : Nat}, (∀ j, j < m → L[j]? ≠ some x) → m ≤ L.length → (m < L.length → L[m]? = some x) → ix x L = m
  | [], m, _, h2, _ => by
    have : m = 0 := Nat.le_zero.mp h2
    rw [this]; rfl
  | a :: L, 0, _, _, h3 => by
    have := h3 (Nat.succ_pos _)
    simp only [List.getElem?_cons_zero, Option.some.injEq] at this
    subst this
    exact ix_cons_eq
  | a :: L, m + 1, h1, h2, h3 => by
    have ha : a ≠ x := fun e => h1 0 (Nat.succ_pos _) (by rw [List.getElem?_cons_zero, e])
    rw [ix_cons_ne ha, ix_is (L := L) (m := m) (fun j hj => by have := h1 (j + 1) (by omega); rwa [List.getElem?_cons_succ] at this) (by rw [List.length_cons] at h2; omega) fun h => by
      have := h3 (by rw [List.length_cons]; omega)
      rwa [List.getElem?_cons_succ] at this]
theorem ix_next {ns : List Int} (h4 : Four ns) (hn : ns.length = 9) {x : Int} (hx : 0 ≤ x) {i : Nat} (hi : i < 9) : (nextAt ns x (0 + (i : Int)) : Int) = (i : Int) + 1 + (ix x.toNat ((Ln ns).drop (i + 1)) : Nat) := by
  have X := nextAt_nx (ns := ns) (x := x) (n := 0 + (i : Int)) (by omega) (by omega)
  generalize nextAt ns x (0 + (i : Int)) = k at X
  have hlo := X.lo
  have hhi := X.hi
  have hl : ((Ln ns).drop (i + 1)).length = 9 - (i + 1) := by unfold Ln; rw [List.length_drop, List.length_map, hn]
  have hget : ∀ j : Nat, j < 9 - (i + 1) → ((Ln ns).drop (i + 1))[j]? = some (geti ns ((i + 1 + j : Nat) : Int)).toNat := fun j hj => by
    unfold Ln
    rw [List.getElem?_drop, List.getElem?_map, List.getElem?_eq_getElem (show i + 1 + j < ns.length by omega), geti_eq (show i + 1 + j < ns.length by omega)]
    rfl
  have e := ix_is (x := x.toNat) (L := (Ln ns).drop (i + 1)) (m := (k - i - 1).toNat) (fun j hj => by
    rw [hget j (by omega)]
    intro q
    have q := Option.some.inj q
    have h5 := h4 (geti ns ((i + 1 + j : Nat) : Int)) (geti_mem (by omega) (by omega))
    exact X.before ((i + 1 + j : Nat) : Int) (by omega) (by omega) (by omega)) (by omega) (fun h => by
    rw [hget _ (by omega)]
    have := X.at_ (by omega)
    rw [show ((i + 1 + (k - i - 1).toNat : Nat) : Int) = k by omega, this])
  rw [e]; omega
theorem idx_erase {v : Int} : ∀ {l : List Int}, l.Nodup → v ∈ l → l.eraseIdx (l.idxOf v) = l.filter (fun one => one != v)
  | [], _, h => nomatch h
  | a :: l, hn, h => by
    have hn' := List.nodup_cons.mp hn
    by_cases e : a = v
    · subst e
      rw [List.idxOf_cons, show (a == a) = true by simp, cond_true, List.eraseIdx_zero, List.tail_cons, List.filter_cons_of_neg (by simp)]
      exact (List.filter_eq_self.mpr fun z hz => by simpa using fun e : z = a => hn'.1 (e ▸ hz)).symm
    · have hv : v ∈ l := by rcases List.mem_cons.mp h with q | q; exact absurd q.symm e; exact q
      rw [List.idxOf_cons, show (a == v) = false by simpa using e, cond_false, List.eraseIdx_cons_succ, idx_erase hn'.2 hv, List.filter_cons_of_pos (by simpa using e)]
theorem perm_erase {v : Int} {l : List Int} (hn : l.Nodup) (h : v ∈ l) : l.Perm (v :: l.filter (fun one => one != v)) := by
  induction l with
  | nil => cases h
  | cons a l ih =>
    have hn' := List.nodup_cons.mp hn
    by_cases e : a = v
    · subst e
      rw [List.filter_cons_of_neg (by simp), List.filter_eq_self.mpr fun z hz => by simpa using fun e : z = a => hn'.1 (e ▸ hz)]
    · have hv : v ∈ l := by rcases List.mem_cons.mp h with q | q; exact absurd q.symm e; exact q
      rw [List.filter_cons_of_pos (by simpa using e)]
      exact ((ih hn'.2 hv).cons a).trans (.swap _ _ _)
structure LI (room : Nat) (st : LentSt) (sg : List Int × List (Key × Int)) : Prop where
  held : st.held = sg.1
  went : st.went = sg.2
  nodup : st.held.Nodup
  four : Four st.held
  len : st.held.length ≤ room
  books : ∃ ks vs, st.came = bk ks ∧ st.went = bk vs ∧ ks.Perm (st.held.map some ++ vs)
theorem perm_in {a b c : List Key} {k : Key} (h : a.Perm (b ++ c)) : (k :: a).Perm ((b ++ [k]) ++ c) := by
  rw [List.append_assoc]
  exact (h.cons k).trans (List.perm_middle (l₁ := b) (l₂ := c)).symm
theorem perm_out {b b' c : List Key} {v : Key} (h : b.Perm (v :: b')) : (b ++ c).Perm (b' ++ v :: c) :=
  (h.append_right c).trans (List.perm_middle (l₁ := b') (l₂ := c)).symm
section
variable {room : Nat} {side : Int} {ns : List Int} (hroom : Room room) (hsd : Sided side) (h4 : Four ns) (hn : ns.length = 9)
include hroom hsd h4 hn
theorem victim_is {held : List Int} {i : Nat} (hi : i < 9) (h1 : held.Nodup) (hne : held ≠ []) (hout : geti ns (0 + (i : Int)) ∉ held) : goesOf side (soonAt ns held (0 + (i : Int)) (9 - (0 + (i : Int)).toNat)) (neverOf held (soonAt ns held (0 + (i : Int)) (9 - (0 + (i : Int)).toNat))) = outOf side ns held (0 + (i : Int)) :=
  best_unique hsd (goes_best hsd (by omega) (by omega) h1 hne hout) (out_best hsd h1 hne)
theorem lent_inv : ∀ i, i ≤ 9 → LI room (lentAt room side ns i) (goneAt room side ns i)
  | 0, _ => ⟨rfl, rfl, .nil, (fun _ h => nomatch h), Nat.zero_le _, [], [], rfl, rfl, .refl _⟩
  | i + 1, hi => by
    obtain ⟨a1, a2, a3, a4, a5, ks, vs, b1, b2, b3⟩ := lent_inv i (by omega)
    have hr : 1 ≤ room := by rcases hroom with h | h <;> omega
    have hth := h4 (geti ns (0 + (i : Int))) (geti_mem (by omega) (by omega))
    by_cases c : (lentAt room side ns i).held.contains (geti ns (0 + (i : Int))) = true
    · have e1 : lentAt room side ns (i + 1) = lentAt room side ns i := by rw [lentAt_succ]; unfold lentStep; rw [if_pos c]
      have e2 : goneAt room side ns (i + 1) = goneAt room side ns i := by rw [goneAt_succ]; unfold goneStep; rw [if_pos (by rw [← a1]; exact c)]
      rw [e1, e2]; exact ⟨a1, a2, a3, a4, a5, ks, vs, b1, b2, b3⟩
    · have hout : geti ns (0 + (i : Int)) ∉ (lentAt room side ns i).held := fun q => c (List.contains_iff_mem.mpr q)
      by_cases f : ((lentAt room side ns i).held.length : Int) = (room : Int)
      · have hne : (lentAt room side ns i).held ≠ [] := fun q => by rw [q] at f; simp only [List.length_nil] at f; omega
        have hv := out_best hsd (ns := ns) (n := 0 + (i : Int)) a3 hne
        have hg := victim_is hroom hsd h4 hn (show i < 9 by omega) a3 hne hout
        have e1 : lentAt room side ns (i + 1) = ⟨(lentAt room side ns i).held.filter (fun one => one != outOf side ns (lentAt room side ns i).held (0 + (i : Int))) ++ [geti ns (0 + (i : Int))], bump (lentAt room side ns i).came (some (geti ns (0 + (i : Int)))), bump (lentAt room side ns i).went (some (outOf side ns (lentAt room side ns i).held (0 + (i : Int))))⟩ := by
          rw [lentAt_succ]; unfold lentStep; rw [if_neg c, if_pos f, idx_erase a3 hv.1, addC_one, addC_one]
        have e2 : goneAt room side ns (i + 1) = ((lentAt room side ns i).held.filter (fun one => one != outOf side ns (lentAt room side ns i).held (0 + (i : Int))) ++ [geti ns (0 + (i : Int))], bump (lentAt room side ns i).went (some (outOf side ns (lentAt room side ns i).held (0 + (i : Int))))) := by
          rw [goneAt_succ]; unfold goneStep; rw [← a1, ← a2, if_neg c, if_pos f]
          dsimp only
          rw [hg]; rfl
        have hp := perm_erase a3 hv.1
        generalize outOf side ns (lentAt room side ns i).held (0 + (i : Int)) = v at e1 e2 hv hp
        rw [e1, e2]
        refine ⟨rfl, rfl, ?_, ?_, ?_, some (geti ns (0 + (i : Int))) :: ks, some v :: vs, by rw [b1]; rfl, by rw [b2]; rfl, ?_⟩
        · refine List.nodup_append.mpr ⟨nodup_filter _ a3, List.nodup_cons.mpr ⟨List.not_mem_nil, .nil⟩, fun x hx y hy e => hout ?_⟩
          rw [List.mem_singleton.mp hy] at e
          rw [← e]; exact (List.mem_filter.mp hx).1
        · intro x hx
          rcases List.mem_append.mp hx with hx | hx
          · exact a4 x (List.mem_filter.mp hx).1
          · rw [List.mem_singleton.mp hx]; exact hth
        · have := hp.length_eq
          simp only [List.length_cons, List.length_append, List.length_nil] at this ⊢
          omega
        · rw [List.map_append, List.map_singleton]
          exact perm_in (b3.trans (perm_out (by have := hp.map some; rwa [List.map_cons] at this)))
      · have e1 : lentAt room side ns (i + 1) = ⟨(lentAt room side ns i).held ++ [geti ns (0 + (i : Int))], bump (lentAt room side ns i).came (some (geti ns (0 + (i : Int)))), (lentAt room side ns i).went⟩ := by
          rw [lentAt_succ]; unfold lentStep; rw [if_neg c, if_neg f, addC_one]
        have e2 : goneAt room side ns (i + 1) = ((lentAt room side ns i).held ++ [geti ns (0 + (i : Int))], (lentAt room side ns i).went) := by
          rw [goneAt_succ]; unfold goneStep; rw [← a1, ← a2, if_neg c, if_neg f]
        rw [e1, e2]
        refine ⟨rfl, rfl, ?_, ?_, ?_, some (geti ns (0 + (i : Int))) :: ks, vs, by rw [b1]; rfl, b2, ?_⟩
        · refine List.nodup_append.mpr ⟨a3, List.nodup_cons.mpr ⟨List.not_mem_nil, .nil⟩, fun x hx y hy e => hout ?_⟩
          rw [List.mem_singleton.mp hy] at e
          rw [← e]; exact hx
        · intro x hx
          rcases List.mem_append.mp hx with hx | hx
          · exact a4 x hx
          · rw [List.mem_singleton.mp hx]; exact hth
        · simp only [List.length_cons, List.length_append, List.length_nil]
          omega
        · rw [List.map_append, List.map_singleton]
          exact perm_in b3
theorem drop_cons {i : Nat} (hi : i < 9) : (Ln ns).drop i = (geti ns (0 + (i : Int))).toNat :: (Ln ns).drop (i + 1) := by
  have hl : i < (Ln ns).length := by unfold Ln; rw [List.length_map]; omega
  rw [List.drop_eq_getElem_cons hl, Int.zero_add, geti_eq (by omega)]
  congr 1
  exact List.getElem_map ..
theorem lent_brun (E : Int) (hE : passSum (fun _ => true) (lentAt room side ns 9).came = E) : ∀ k i, i + k = 9 → ∃ c : Nat, BRun room (maskL (lentAt room side ns i).held) ((Ln ns).drop i) c ∧ E = passSum (fun _ => true) (lentAt room side ns i).came + c
  | 0, i, hik => by
    obtain rfl : i = 9 := by omega
    refine ⟨0, ?_, by rw [hE]; simp⟩
    rw [List.drop_eq_nil_of_le (by unfold Ln; rw [List.length_map]; omega)]
    rfl
  | k + 1, i, hik => by
    have hi : i < 9 := by omega
    obtain ⟨c, hc, hs⟩ := lent_brun E hE k (i + 1) (by omega)
    obtain ⟨a1, a2, a3, a4, a5, ks, vs, b1, b2, b3⟩ := lent_inv hroom hsd h4 hn i (by omega)
    have hr : 1 ≤ room := by rcases hroom with h | h <;> omega
    have hth := h4 (geti ns (0 + (i : Int))) (geti_mem (by omega) (by omega))
    have hsz := mask_nodup a3 a4
    have hhas := mask_has (lentAt room side ns i).held hth.1 hth.2
    have hbn : ((lentAt room side ns i).came.map (·.1)).Nodup := by rw [b1]; exact bk_nodup ks
    rw [drop_cons hroom hsd h4 hn hi]
    rw [lentAt_succ] at hc hs
    unfold lentStep at hc hs
    by_cases q : (lentAt room side ns i).held.contains (geti ns (0 + (i : Int))) = true
    · rw [if_pos q] at hc hs
      refine ⟨c, ⟨_, c, ?_, hc, ?_⟩, hs⟩
      · rw [hhas, if_pos q]
      · unfold priceN; rw [hhas, if_pos q, Nat.zero_add]
    · have q' : (lentAt room side ns i).held.contains (geti ns (0 + (i : Int))) = false := by simpa using q
      have hout : geti ns (0 + (i : Int)) ∉ (lentAt room side ns i).held := fun h => q (List.contains_iff_mem.mpr h)
      have hp : priceN (geti ns (0 + (i : Int))).toNat (maskL (lentAt room side ns i).held) = 1 := by unfold priceN; rw [hhas, if_neg q]
      rw [if_neg q] at hc hs
      by_cases f : ((lentAt room side ns i).held.length : Int) = (room : Int)
      · rw [if_pos f] at hc hs
        have hne : (lentAt room side ns i).held ≠ [] := fun q => by rw [q] at f; simp only [List.length_nil] at f; omega
        have hv := out_best hsd (ns := ns) (n := 0 + (i : Int)) a3 hne
        dsimp only at hc hs
        rw [idx_erase a3 hv.1] at hc
        rw [addC_one, passSum_bump _ _ _ hbn, if_pos rfl] at hs
        generalize outOf side ns (lentAt room side ns i).held (0 + (i : Int)) = v at hc hv
        have hv4 := a4 v hv.1
        rw [mask_swap hth.1 hth.2 q' hv4.1 hv4.2 (List.contains_iff_mem.mpr hv.1)] at hc
        refine ⟨1 + c, ⟨_, c, ?_, hc, by rw [hp]⟩, by rw [hs]; simp; omega⟩
        rw [hhas, if_neg q, hsz, if_neg (by omega)]
        refine ⟨v.toNat, ⟨by omega, by rw [mask_has _ hv4.1 hv4.2]; exact List.contains_iff_mem.mpr hv.1, fun z hz hzs => ?_⟩, rfl⟩
        have hz' := mask_has (lentAt room side ns i).held (a := (z : Int)) (by omega) (by omega)
        rw [Int.toNat_natCast, hzs] at hz'
        have hzm := List.contains_iff_mem.mp hz'.symm
        have n1 := ix_next h4 hn (x := (z : Int)) (by omega) hi
        have n2 := ix_next h4 hn (x := v) hv4.1 hi
        rw [Int.toNat_natCast] at n1
        by_cases e : (z : Int) = v
        · rw [← e, Int.toNat_natCast]; exact Nat.le_refl _
        · have := (cmp_neg hsd _ _).mp (hv.2 z hzm e)
          dsimp only at this
          omega
      · rw [if_neg f] at hc hs
        dsimp only at hc hs
        rw [mask_snoc hth.1 hth.2 q'] at hc
        rw [addC_one, passSum_bump _ _ _ hbn, if_pos rfl] at hs
        refine ⟨1 + c, ⟨_, c, ?_, hc, by rw [hp]⟩, by rw [hs]; simp; omega⟩
        rw [hhas, if_neg q, hsz, if_pos (by omega)]
end
theorem passSum_true (b : List (Key × Int)) : passSum (fun _ => true) b = (b.map (·.2)).sum := by
  unfold passSum
  rw [List.filter_eq_self.mpr fun _ _ => rfl]
theorem came_run {room : Nat} {side : Int} {ns : List Int} (hroom : Room room) (hsd : Sided side) (h4 : Four ns) (hn : ns.length = 9) : ∃ c : Nat, ((lentAt room side ns 9).came.map (·.2)).sum = c ∧ BRun room 0 (Ln ns) c := by
  obtain ⟨c, h1, h2⟩ := lent_brun hroom hsd h4 hn _ rfl 9 0 rfl
  rw [passSum_true, passSum_true] at h2
  refine ⟨c, ?_, h1⟩
  rw [h2]
  show (0 : Int) + c = c
  omega
theorem Ln_rev (ns : List Int) : Ln ns.reverse = (Ln ns).reverse := List.map_reverse
theorem least_lent {room : Nat} {side : Int} {ns : List Int} (hroom : Room room) (hsd : Sided side) (h4 : Four ns) (hn : ns.length = 9) {M : Int} (h1 : M ∈ (leastAt room ns 9).map (·.2)) (h2 : ∀ a ∈ (leastAt room ns 9).map (·.2), M ≤ a) :
    ((lentAt room side ns 9).came.map (·.2)).sum = M ∧ ((lentAt room side ns.reverse 9).came.map (·.2)).sum = M := by
  obtain ⟨m, rfl, ⟨T, hT⟩, hmin⟩ := least_spec hroom h4 hn h1 h2
  have hnr : ns.reverse.length = 9 := by rw [List.length_reverse]; exact hn
  constructor
  · obtain ⟨c, e, hb⟩ := came_run hroom hsd h4 hn
    obtain ⟨U, hU⟩ := brun_run hb
    have g1 := hmin U c hU
    have g2 := belady hroom (Ln_four h4) (ok_zero room) hb hT
    rw [e]; omega
  · obtain ⟨c, e, hb⟩ := came_run hroom hsd h4.rev hnr
    obtain ⟨U, hU⟩ := brun_run hb
    obtain ⟨U', c', hU', _, hc'⟩ := rev_run hroom (Ln_four h4.rev) (ok_zero room) hU
    rw [Ln_rev, List.reverse_reverse] at hU'
    have g1 := hmin U' c' hU'
    obtain ⟨T', d', hT', _, hd'⟩ := rev_run hroom (Ln_four h4) (ok_zero room) hT
    rw [← Ln_rev] at hT'
    have g2 := belady hroom (Ln_four h4.rev) (ok_zero room) hb hT'
    have i0 : ∀ X, inter 0 X = 0 := fun X => by
      unfold inter
      rw [List.length_eq_zero_iff, List.filter_eq_nil_iff]
      intro a ha
      have := List.mem_range.mp ha
      rw [show has 0 a = false by unfold has; simp]
      simp
    rw [i0] at hc' hd'
    rw [e]; omega
theorem addC_keys (l : List Int) : ∀ (ks : List Key), addC (bk ks) (l.map fun th => (some th, 1)) = bk ((l.map some).reverse ++ ks) := by
  induction l with
  | nil => intro ks; rfl
  | cons a l ih =>
    intro ks
    have e : addC (bk ks) ((a :: l).map fun th => ((some th : Key), (1 : Int))) = addC (addC (bk ks) [(some a, 1)]) (l.map fun th => (some th, 1)) := rfl
    rw [e, addC_one]
    have := ih (some a :: ks)
    rw [show bump (bk ks) (some a) = bk (some a :: ks) from rfl, this]
    simp
theorem went_came {room : Nat} {side : Int} {ns : List Int} (hroom : Room room) (hsd : Sided side) (h4 : Four ns) (hn : ns.length = 9) :
    DEq (addC (lentAt room side ns 9).went ((lentAt room side ns 9).held.map fun th => (some th, 1))) (lentAt room side ns 9).came := by
  obtain ⟨a1, a2, a3, a4, a5, ks, vs, b1, b2, b3⟩ := lent_inv hroom hsd h4 hn 9 (Nat.le_refl _)
  rw [b1, b2, addC_keys]
  exact bk_perm (((List.reverse_perm _).append_right vs).trans b3.symm)
theorem DEq.rfl_of {b : List (Key × Int)} (h : (b.map (·.1)).Nodup) : DEq b b := .of_get h h fun _ => rfl
theorem went_gone {room : Nat} {side : Int} {ns : List Int} (hroom : Room room) (hsd : Sided side) (h4 : Four ns) (hn : ns.length = 9) : (lentAt room side ns 9).went = (goneAt room side ns 9).2 :=
  (lent_inv hroom hsd h4 hn 9 (Nat.le_refl _)).went
theorem lent_facts {room : Nat} {side : Int} {ns : List Int} (hroom : Room room) (hsd : Sided side) (h4 : Four ns) (hn : ns.length = 9) : DEq (lentAt room side ns 9).went (goneAt room side ns 9).2 ∧
    DEq (addC (lentAt room side ns 9).went ((lentAt room side ns 9).held.map fun th => (some th, 1))) (lentAt room side ns 9).came ∧ (lentAt room side ns 9).held.Nodup := by
  obtain ⟨a1, a2, a3, a4, a5, ks, vs, b1, b2, b3⟩ := lent_inv hroom hsd h4 hn 9 (Nat.le_refl _)
  refine ⟨?_, went_came hroom hsd h4 hn, a3⟩
  rw [← went_gone hroom hsd h4 hn, b2]
  exact DEq.rfl_of (bk_nodup vs)
end
theorem fresh_W3 : True := by w_top off; trivial
theorem reg_W3 : True := by
  (k_with "ktr_unf" => ((guard_hyp on_W3 : True; (first | assumption | exact Lst.keeps (by assumption) (Fr.keep (by assumption)) | exact lst_led (by assumption) (by k_mem) (by assumption) | exact LObj.led (by assumption) (by k_mem) (by assumption)))))
  (k_with "call ref" => ((guard_hyp on_W3 : True; ((refine Stop.on ?_)))))
  (k_with "exec For Name Call cons nil" => ((guard_hyp on_W3 : True; ((refine Stop.on ?_)))))
  (k_with "exec For Name List cons nil" => ((guard_hyp on_W3 : True; ((refine Stop.on ?_)))))
  trivial

theorem side_of (ns : List Int) : Sided (1 - 2 * ns.sum.fmod 2) := by
  have : ns.sum.fmod 2 = ns.sum % 2 := Int.fmod_eq_emod_of_nonneg _ (by decide)
  unfold Sided
  omega
theorem side_fr {g h : Heap} {L : Addr} {u : Str → Option Value} {b : Value} {side : Int} {T : Tok} (F : Fr g L h (fun y => if y = Str.ofString "side" then some (Value.int side T) else fr [(Str.ofString "mirror", b)] u y)) :
    ∃ ts u2, Fr g L h (fr [(Str.ofString "mirror", b), (Str.ofString "side", .int side ts)] u2) := ⟨T, fr_of F [(Str.ofString "mirror", b), (Str.ofString "side", .int side T)] ⟨rfl, rfl, trivial⟩⟩
theorem wpAny_toksF {α : Type} {M : Model} {A : Around} {t : Sem α} {Q : α → Shared → Prop} {s : Shared} (h : wpAny M A t (fun a s' => s.toks ≤ s'.toks → Q a s') (fun _ _ => False) s) : wpAny M A t Q (fun _ _ => False) s :=
  wpAny_toks (wpAny_mono h (fun _ _ x => x) fun _ _ f => f.elim)
theorem regroup2 {g h : Heap} {L : Addr} {a b c d e f : Addr × Obj} {ex : List (Addr × Obj)} (N : News g L h (a :: b :: c :: d :: e :: f :: ex)) : News g L h (c :: d :: ([a, b, e, f] ++ ex)) := pickAll N [2, 3, 0, 1, 4, 5] 6
theorem regroup3 {g h : Heap} {L : Addr} {a b c d e f i : Addr × Obj} {ex : List (Addr × Obj)} (N : News g L h (a :: b :: c :: ([d, e, f, i] ++ ex))) : News g L h (b :: c :: ([a, d, e, f, i] ++ ex)) := pickAll N [1, 2, 0, 3, 4, 5, 6] 7
theorem thenT {α : Type} {M : Model} {A : Around} {t : Sem α} {Q R : α → Shared → Prop} {s : Shared} (h : wpAny M A t (fun a s' => s.toks ≤ s'.toks → R a s') (fun _ _ => False) s) (k : ∀ a s', R a s' → Q a s') : wpAny M A t Q (fun _ _ => False) s :=
  wpAny_toksF (wpAny_mono h (fun _ _ x y => k _ _ (x y)) fun _ _ f => f)
inductive RoomJ (g : Heap) (L' A : Addr) (bs : List UInt8) (tm ts : Tok) (side : Int) (o1 oA : Obj) (i : Nat) (m : Str → Option Value) (nx : List (Addr × Obj)) (tk : Nat) : Prop
  | intro (ps : _) (ex : _) (o3 : _) (v3 : _) (q0 : m (Str.ofString "mirror") = some (.bytes bs.toArray tm)) (q1 : m (Str.ofString "side") = some (.int side ts)) (q2 : nx = (134, tabObj ps) :: (L' + 1 + 1 + 1, o3) :: ([(L' + 1, o1), (A, oA)] ++ ex)) (q3 : o3.data = .cell v3) (q4 : (∀ p ∈ ex, p.1 ≠ 134)) (q5 : CodeL ex) (q6 : TabL g ps ex) (q7 : 0 < tk) : RoomJ g L' A bs tm ts side o1 oA i m nx tk
inductive WayJ (g : Heap) (L' A LL I : Addr) (bs : List UInt8) (tm ts tl : Tok) (side M : Int) (o1 o5 oI oA : Obj) (k0 : Nat) (m : Str → Option Value) (nx : List (Addr × Obj)) (tk : Nat) : Prop
  | intro (ps : _) (ex : _) (q0 : m (Str.ofString "mirror") = some (.bytes bs.toArray tm)) (q1 : m (Str.ofString "side") = some (.int side ts)) (q2 : m (Str.ofString "least") = some (.int M tl)) (q3 : nx = (134, tabObj ps) :: (L' + 1 + 1 + 1, o5) :: ([(LL, listOf #[.ref A, .bytes bs.toArray tm] 0), (I, oI), (L' + 1, o1), (A, oA)] ++ ex)) (q4 : (∀ p ∈ ex, p.1 ≠ 134)) (q5 : CodeL ex) (q6 : TabL g ps ex) (q7 : 0 < tk) : WayJ g L' A LL I bs tm ts tl side M o1 o5 oI oA k0 m nx tk
set_option maxRecDepth 100000 in
set_option maxHeartbeats 16000000 in
theorem tail8_ok {w : World} {s : Shared} {loose : List Str} {mean : ExcName → Option Value} {mg mb : Str → Option Value} {dp un : Nat} {gd : Option (List Code)} {g : Heap} {L' A : Addr} {m : Str → Option Value} {Q : Flow → Shared → Prop}
    {avs : List Value} {ns : List Int} {bs : List UInt8} {tm : Tok} {nA : Nat} {o1 o3 : Obj} {v3 : Option Value}
    (B : Below callerA g [] g) (X : (Mine.hd.heap_1 w.params).In g) (T : Top topProg loose mean mg mb g) (hd : dp + 100 < recursionLimit) (hu : un + 8 * 100 + 200 < cLine)
    (F : Fr g L' s.heap m) (N : News g L' s.heap [(134, tabObj #[]), (L' + 1 + 1 + 1, o3), (L' + 1, o1), (A, listOf avs.toArray nA)]) (d1 : o1.data = .cell (some (.ref A))) (d3 : o3.data = .cell v3)
    (hA : (@Ne Nat A 134) ∧ (@Ne Nat A (L' + 1 + 1 + 1)) ∧ (@Ne Nat (L' + 1) 134) ∧ (@Ne Nat (L' + 1 + 1 + 1) 134))
    (m1 : m (Str.ofString "mirror") = some (.bytes bs.toArray tm)) (hbs : ns.reverse = bs.map fun b => (b.toNat : Int)) (hi : IntsAre avs ns) (hTok : TokOk avs) (hn : ns.length = 9) (h4 : Four ns) (htk0 : 0 < s.toks)
    (hQ : ∀ h' tk' ps', (∀ b o, g.get? b = some o → h'.get? b = some o) → h'.get? 134 = some (tabObj ps') → Q (.ret (.bool true)) { s with heap := h', toks := tk' }) :
    wpAny (model PR w) (lawA w.params dp un gd L') (execs (tailOf w.params 8) (lawEnv w.params L')) Q (fun _ _ => False) s := by
  have on_W3 : True := trivial
  unfold lawA lawEnv tailOf lawFn bodyIs
  dsimp only [List.drop]
  obtain ⟨u, rfl⟩ := fr_eq (m := m) [(Str.ofString "mirror", .bytes bs.toArray tm)] ⟨m1, trivial⟩
  (try k_fold)
  refine wpAny_toksF ?_
  refine execs_consT ?_
  k_steps
  intro ht2
  (with_reducible rename Fr _ _ _ _ => F2); (with_reducible rename News _ _ _ _ => N2)
  have hsd := side_of ns
  obtain ⟨ts, u2, F3⟩ := side_fr F2
  clear F2
  generalize 1 - 2 * ns.sum.fmod 2 = side at F3 hsd
  k_steps
  refine Stop.off ?_
  refine For_O F3 (wpAny_toksF ?_)
  k_steps
  (with_reducible rename Fr _ _ _ _ => F4); (with_reducible rename News _ _ _ _ => N4); (with_reducible rename IsRange _ _ _ _ _ _ _ _ => hr)
  refine rangeP (n := 2) (RoomJ g L' A bs tm ts side o1 (listOf avs.toArray nA)) rfl hr rfl rfl F4 N4 ?_ ?_ ?_ ?_
  · refine ⟨#[], [], o3, v3, rfl, rfl, rfl, d3, (fun _ h => nomatch h), CodeL.nil, TabL.empty g, ?_⟩
    exact Nat.lt_of_lt_of_le htk0 (Nat.le_trans ht2 (by assumption))
  · intro i m nx tk tk' xR1; obtain ⟨ps, ex, o3, v3, a1, a2, a3, a4, a5, a6, a7, a8⟩ := xR1; intro h
    exact ⟨ps, ex, o3, v3, a1, a2, a3, a4, a5, a6, a7, Nat.lt_of_lt_of_le a8 h⟩
  · intro i tr m₁ nx hp tk0 I oI hi2 xR2; obtain ⟨ps, ex, o3, v3, hm1, hm2, rfl, hd3, hx, hc, HT, htk⟩ := xR2; intro hne hIo F₁ N₁
    obtain ⟨u, rfl⟩ := fr_eq (m := m₁) [(Str.ofString "mirror", .bytes bs.toArray tm), (Str.ofString "side", .int side ts)] ⟨hm1, hm2, trivial⟩
    have er : (2 : Int) + (i : Int) = ((2 + i : Nat) : Int) := by omega
    have hroom : Room (2 + i) := by unfold Room; omega
    rw [er]
    dsimp only [List.cons_append, List.nil_append] at N₁
    have hc3 := code_apart (ex := ex) (pickAll N₁ [] 5 :) N₁ hc (a := L' + 1 + 1 + 1) (o := o3) (by k_mem) (notCode_cell hd3)
    have hI3 : (@Ne Nat I (L' + 1 + 1 + 1)) := fun e => hne (L' + 1 + 1 + 1, o3) (.tail _ (.head _)) e.symm
    have hI4 : (@Ne Nat I 134) := fun e => hne (134, tabObj ps) (.head _) e.symm
    have hrest : ∀ p ∈ (L' + 1, o1) :: (A, listOf avs.toArray nA) :: ex, p.1 ≠ L' + 1 + 1 + 1 := fun p hp => by
      rcases List.mem_cons.mp hp with rfl | hp
      · show @Ne Nat _ _; omega
      · rcases List.mem_cons.mp hp with rfl | hp
        · exact hA.2.1
        · exact hc3 p hp
    have hA4 := hA.2.2.2.symm
    refine thenT (k := fun _ _ h => execs_consT h) ?_
    k_steps
    (with_reducible rename Fr _ _ _ _ => F5); (with_reducible rename News _ _ _ _ => N5)
    rename _ = Data.cell (some (Value.int ((2 + i : Nat) : Int) tr)) => hd5
    rename tk0 ≤ _ => ht5
    have htk5 := Nat.lt_of_lt_of_le htk ht5
    refine Stop.off ?_
    refine use_least B F5 X N5 T rfl (by omega) (by omega) (lst_led N5 (by k_mem) hi) (by omega) hn h4 ?_
    intro M tl h6 tk6 ht6 F6 N6 hM1 hM2
    obtain ⟨eM1, eM2⟩ := least_lent hroom hsd h4 hn hM1 hM2
    clear F5 N5
    k_steps
    intro ht7
    dsimp only
    (with_reducible rename Fr _ _ _ _ => F7); (with_reducible rename News _ _ _ _ => N7)
    have htk7 := Nat.lt_of_lt_of_le htk5 ht7
    refine wpAny_execs_cons ?_
    refine For_O F7 (wpAny_toksF ?_)
    k_steps
    (with_reducible rename Fr _ _ _ _ => F8); (with_reducible rename News _ _ _ _ => N8)
    obtain ⟨LL, rfl⟩ := name1 N8
    obtain ⟨o5, rfl⟩ := nameO hd5
    rename I < LL ∧ _ => hlt8
    have N9 := regroup2 N8
    have ht8 : 0 < tk6 + 1 := Nat.succ_pos _
    have hA3 := hA.2.2.1
    refine listP (vs := [.ref A, .bytes bs.toArray tm]) (WayJ g L' A LL I bs tm ts tl side M o1 o5 oI (listOf avs.toArray nA)) rfl ⟨_, (N8 _ (.head _)).1, rfl, 0, rfl⟩ (.inr ⟨listOf #[.ref A, .bytes bs.toArray tm] 0, ?_⟩) F8 N9 ?_ ?_ ?_ ?_
    · intro k m nx tk xR3; obtain ⟨ps, ex, _, _, _, rfl, _⟩ := xR3
      exact .tail _ (.tail _ (.head _))
    · exact ⟨ps, ex, rfl, rfl, rfl, rfl, hx, hc, HT, ht8⟩
    · intro k m nx tk tk' xR4; obtain ⟨ps, ex, a1, a2, a3, a4, a5, a6, a7, a8⟩ := xR4; intro h
      exact ⟨ps, ex, a1, a2, a3, a4, a5, a6, a7, Nat.lt_of_lt_of_le a8 h⟩
    · intro k v m₂ nx h2 tk2 I2 o2 hv xR5; obtain ⟨ps2, ex2, hn1, hn2, hn3, rfl, hx2, hc2, HT2, htk2⟩ := xR5; intro hne2 hIo2 F₂ N₂
      refine wpAny_storeName_local rfl F₂.ns (fun h3 hn3' hs3 => ?_) rfl
      have F3' := F₂.set hn3' hs3
      have N3' := N₂.set hs3
      obtain ⟨f1, f2, f3⟩ := lent_facts hroom hsd h4 hn
      obtain ⟨f1', f2', f3'⟩ := lent_facts hroom hsd h4.rev (by rw [List.length_reverse]; exact hn)
      obtain ⟨src, ms, hsrc, hds, hml, hm4, g1, g2, g3, g4⟩ : ∃ (src : Option (List Value)) (ms : List Int), SrcOk src ∧ (∀ h', Stands [(I2, o2), (LL, listOf #[.ref A, .bytes bs.toArray tm] 0), (I, oI), (L' + 1, o1), (A, listOf avs.toArray nA)] h' → SeqS src h' v ms) ∧ ms.length = 9 ∧ Four ms ∧
          ((lentAt ((2 + i : Nat) : Int) side ms 9).came.map (·.2)).sum = M ∧ DEq (lentAt ((2 + i : Nat) : Int) side ms 9).went (goneAt ((2 + i : Nat) : Int) side ms 9).2 ∧ DEq (addC (lentAt ((2 + i : Nat) : Int) side ms 9).went ((lentAt ((2 + i : Nat) : Int) side ms 9).held.map fun th => (some th, 1))) (lentAt ((2 + i : Nat) : Int) side ms 9).came ∧ (lentAt ((2 + i : Nat) : Int) side ms 9).held.Nodup := by
        match k, hv with
        | 0, hv => cases hv; exact ⟨some avs, ns, hTok, (fun h' S => ⟨A, rfl, ⟨_, S (A, listOf avs.toArray nA) (by k_mem), rfl, nA, rfl⟩, hi⟩), hn, h4, eM1, f1, f2, f3⟩
        | 1, hv => cases hv; exact ⟨none, ns.reverse, trivial, (fun h' S => ⟨bs, tm, rfl, hbs⟩), (by rw [List.length_reverse]; exact hn), h4.rev, eM2, f1', f2', f3'⟩
        | k + 2, hv => simp at hv
      refine inner_ok (src := src) (av := v) (ns := ms) (room := ((2 + i : Nat) : Int)) (side := side) (M := M) (tl := tl) (ts := ts) (tr := tr) (ex := ex2) B X T hd hu F3' (regroup3 N3') ?_ hx2 hd5 rfl hn2 hn3 hml hm4 (by omega) (Nat.lt_succ_of_lt htk2) hsrc hds HT2 g1 g2 g3 g4 ?_
      · exact fmc hA.2.2.2 (fmc (fun e => hne2 (134, tabObj ps2) (.head _) e.symm) (fmc (Ne.symm (Nat.ne_of_lt hlt8.2.1)) (fmc hI4 (fmc hA.2.2.1 (fmc hA.1 fmn)))))
      · intro h9 tk9 m9 ps9 ex9 ht9 F9 N9 hx9 hc9 HT9 hm9
        have hex9 := code_apart (ex := ex9) (pickAll N9 [] 7 :) N9 hc9 (a := I2) (o := o2) (by k_mem) hIo2
        refine TurnO.nextN (nx' := (134, tabObj ps9) :: (L' + 1 + 1 + 1, o5) :: ([(LL, listOf #[.ref A, .bytes bs.toArray tm] 0), (I, oI), (L' + 1, o1), (A, listOf avs.toArray nA)] ++ ex9)) F9 (pickAll N9 [2, 0, 1, 3, 4, 5, 6] 7 :) ?_ (fun _ => ⟨ps9, ex9, (hm9 _ (by decide) (by decide) (by decide)).trans hn1, (hm9 _ (by decide) (by decide) (by decide)).trans hn2, (hm9 _ (by decide) (by decide) (by decide)).trans hn3, rfl, hx9, hc9, HT9, Nat.lt_of_lt_of_le (Nat.succ_pos _) ht9⟩)
        exact fmc (fun e => hne2 (134, tabObj ps2) (.head _) e) (fmc (fun e => hne2 (L' + 1 + 1 + 1, o5) (.tail _ (.head _)) e) (fmc (fun e => hne2 (LL, listOf #[.ref A, .bytes bs.toArray tm] 0) (by k_mem) e) (fmc (fun e => hne2 (I, oI) (by k_mem) e) (fmc (fun e => hne2 (L' + 1, o1) (by k_mem) e) (fmc (fun e => hne2 (A, listOf avs.toArray nA) (by k_mem) e) hex9)))))
    · intro m₂ nx h2 tk2 xR6; obtain ⟨ps2, ex2, hn1, hn2, hn3, rfl, hx2, hc2, HT2, htk2⟩ := xR6; intro F₂ N₂
      dsimp only
      k_steps
      (with_reducible rename Fr _ _ _ _ => F9); (with_reducible rename News _ _ _ _ => N9)
      have hex9 := code_apart (ex := ex2) (pickAll N9 [] 6 :) N9 hc2 (a := I) (o := oI) (by k_mem) hIo
      refine TurnO.nextN (nx' := (134, tabObj ps2) :: (L' + 1 + 1 + 1, o5) :: ([(L' + 1, o1), (A, listOf avs.toArray nA)] ++ ex2)) F9 (pickAll N9 [3, 0, 1, 4, 5] 6 :) ?_ (fun ht => ⟨ps2, ex2, o5, _, hn1, hn2, rfl, hd5, hx2, hc2, HT2, Nat.lt_of_lt_of_le htk ht⟩)
      exact fmc (fun e => hI4 e.symm) (fmc (fun e => hI3 e.symm) (fmc (fun e => hne (L' + 1, o1) (by k_mem) e) (fmc (fun e => hne (A, listOf avs.toArray nA) (by k_mem) e) hex9)))
  · intro m₁ nx hp tk xR7; obtain ⟨ps, ex, o3, v3, hm1, hm2, rfl, hd3, hx, hc, HT, htk⟩ := xR7; intro F₁ N₁
    dsimp only
    k_steps
    (with_reducible rename Fr _ _ _ _ => F9); (with_reducible rename News _ _ _ _ => N9)
    exact hQ _ _ ps F9.keep (N9 _ (.head _)).1
theorem fresh_W4 : True := by w_top off; trivial
theorem reg_W4 : True := by
  (k_with "ktr_unf" => ((guard_hyp on_W4 : True; (first | assumption | exact Lst.keeps (by assumption) (Fr.keep (by assumption)) | exact lst_led (by assumption) (by k_mem) (by assumption) | exact LObj.led (by assumption) (by k_mem) (by assumption)))))
  (k_with "call ref" => ((guard_hyp on_W4 : True; ((refine Stop.on ?_)))))
  (k_with "eval DictComp" => ((guard_hyp on_W4 : True; ((refine Stop.on ?_)))))
  (k_with "exec For Name Call cons nil" => ((guard_hyp on_W4 : True; ((refine Stop.on ?_)))))
  trivial

theorem pass_vals (p : Key → Bool) : ∀ {b : List (Key × Int)}, (b.map (·.1)).Nodup → ((((b.map (·.1)).filter p).map fun k => (k, (dget b k).getD 0)).map (·.2)).sum = passSum p b := by
  intro b hb
  have key : ∀ l : List (Key × Int), (∀ x ∈ l, dget b x.1 = some x.2) → ((((l.map (·.1)).filter p).map fun k => (k, (dget b k).getD 0)).map (·.2)).sum = passSum p l := by
    intro l
    induction l with
    | nil => intro _; rfl
    | cons x l ih =>
      intro h
      have ih := ih fun y hy => h y (.tail _ hy)
      unfold passSum at ih ⊢
      rw [List.map_cons]
      by_cases q : p x.1 = true
      · rw [fpos q, List.filter_cons_of_pos q, List.map_cons, List.map_cons, List.map_cons, List.sum_cons, List.sum_cons, ih, h x (.head _)]; rfl
      · rw [fneg q, List.filter_cons_of_neg q, ih]
  refine key b fun x hx => ?_
  obtain ⟨i, hi⟩ := List.mem_iff_getElem?.mp hx
  exact dget_at hb (j := i) hi
inductive MissJ (L' A D : Addr) (bs : List UInt8) (tm : Tok) (o1 o2 oA oD : Obj) (i : Nat) (m : Str → Option Value) (nx : List (Addr × Obj)) (tk : Nat) : Prop
  | intro (o3 : _) (v3 : _) (q0 : m (Str.ofString "mirror") = some (.bytes bs.toArray tm)) (q1 : nx = [(134, tabObj #[]), (L' + 1 + 1 + 1, o3), (L' + 1 + 1, o2), (L' + 1, o1), (A, oA), (D, oD)]) (q2 : o3.data = .cell v3) (q3 : 0 < tk) : MissJ L' A D bs tm o1 o2 oA oD i m nx tk
set_option maxRecDepth 100000 in
set_option maxHeartbeats 16000000 in
theorem tail7_ok {w : World} {s : Shared} {loose : List Str} {mean : ExcName → Option Value} {mg mb : Str → Option Value} {dp un : Nat} {gd : Option (List Code)} {g : Heap} {L' A D : Addr} {m : Str → Option Value} {Q : Flow → Shared → Prop}
    {avs : List Value} {ns : List Int} {bs : List UInt8} {tm : Tok} {nA : Nat} {o1 o2 o3 oD : Obj} {v3 : Option Value}
    (B : Below callerA g [] g) (X : (Mine.hd.heap_1 w.params).In g) (T : Top topProg loose mean mg mb g) (hd : dp + 100 < recursionLimit) (hu : un + 8 * 100 + 200 < cLine)
    (F : Fr g L' s.heap m) (N : News g L' s.heap [(134, tabObj #[]), (L' + 1 + 1 + 1, o3), (L' + 1 + 1, o2), (L' + 1, o1), (A, listOf avs.toArray nA), (D, oD)]) (d1 : o1.data = .cell (some (.ref A))) (d2 : o2.data = .cell (some (.ref D))) (d3 : o3.data = .cell v3)
    (hA : (@Ne Nat A 134) ∧ (@Ne Nat A (L' + 1 + 1 + 1)) ∧ (@Ne Nat (L' + 1) 134) ∧ (@Ne Nat (L' + 1 + 1 + 1) 134)) (hD3 : (@Ne Nat D (L' + 1 + 1 + 1))) (loD : (D == sysModules) = false) {b : List (Key × Int)} (hD : DObj w oD b) (hbl : b.length ≤ 9) (hmat : ∀ room : Int, 1 ≤ room → passSum (passes room) b = (shelfAt room ns 9).2)
    (m1 : m (Str.ofString "mirror") = some (.bytes bs.toArray tm)) (hbs : ns.reverse = bs.map fun b => (b.toNat : Int)) (hi : IntsAre avs ns) (hTok : TokOk avs) (hn : ns.length = 9) (h4 : Four ns) (htk0 : 0 < s.toks)
    (hQ : ∀ h' tk' ps', (∀ b o, g.get? b = some o → h'.get? b = some o) → h'.get? 134 = some (tabObj ps') → Q (.ret (.bool true)) { s with heap := h', toks := tk' }) :
    wpAny (model PR w) (lawA w.params dp un gd L') (execs (tailOf w.params 7) (lawEnv w.params L')) Q (fun _ _ => False) s := by
  have on_W4 : True := trivial
  unfold lawA lawEnv tailOf lawFn bodyIs
  dsimp only [List.drop]
  obtain ⟨u, rfl⟩ := fr_eq (m := m) [(Str.ofString "mirror", .bytes bs.toArray tm)] ⟨m1, trivial⟩
  refine wpAny_execs_cons ?_
  refine For_O F (wpAny_toksF ?_)
  (try k_fold)
  k_steps
  (with_reducible rename Fr _ _ _ _ => F4); (with_reducible rename News _ _ _ _ => N4); (with_reducible rename IsRange _ _ _ _ _ _ _ _ => hr)
  refine rangeP (n := 3) (MissJ L' A D bs tm o1 o2 (listOf avs.toArray nA) oD) rfl hr rfl rfl F4 N4 ?_ ?_ ?_ ?_
  · refine ⟨o3, v3, rfl, rfl, d3, ?_⟩
    exact Nat.lt_of_lt_of_le htk0 (by assumption)
  · intro i m nx tk tk' xR1; obtain ⟨o3, v3, a1, a2, a3, a4⟩ := xR1; intro h
    exact ⟨o3, v3, a1, a2, a3, Nat.lt_of_lt_of_le a4 h⟩
  · intro i tr m₁ nx hp tk0 I oI hi2 xR2; obtain ⟨o3, v3, hm1, rfl, hd3, htk⟩ := xR2; intro hne hIo F₁ N₁
    obtain ⟨u, rfl⟩ := fr_eq (m := m₁) [(Str.ofString "mirror", .bytes bs.toArray tm)] ⟨hm1, trivial⟩
    have hne2 := offP_of hne
    simp only [offP, and_true] at hne2
    obtain ⟨hI1, hI2, _⟩ := hne2
    have er : (1 : Int) + (i : Int) = ((1 + i : Nat) : Int) := by omega
    rw [er]
    have hA3 := hA.2.1
    have hA4 := hA.2.2.2.symm
    k_steps
    (with_reducible rename Fr _ _ _ _ => F5); (with_reducible rename News _ _ _ _ => N5)
    rename _ = Data.cell (some (Value.int ((1 + i : Nat) : Int) tr)) => hd5
    obtain ⟨o5, rfl⟩ := nameO hd5
    refine Stop.off ?_
    with_unfolding_all refine dcompE (passes ((1 + i : Nat) : Int)) (fun k => (dget b k).getD 0) F5 N5 (TopRead.nolimit (by k_asm)) (by rfl) (by decide) (by rfl) (by decide) (by rfl) (by rfl) ?_
    k_steps
    (with_reducible rename Fr _ _ _ _ => F6); (with_reducible rename News _ _ _ _ => N6)
    have DD := dct_led loD N6 (by k_mem) hD
    refine Stop.off ⟨b.map (·.1), SrcK.keys DD, by rw [List.length_map]; omega, hD.nodup, F6, N6, ⟨?_, ?_, ?_⟩, ?_⟩
    · intro C k v s₃ m₃ E' hk hkv F8 hm8
      have N8 := fr_nil F8
      have g5 := (N6 (L' + 1 + 1 + 1, o5) (by k_mem)).1
      refine tests_one ?_
      (try k_fold)
      cases k with
      | none =>
        obtain ⟨t, rfl⟩ := keyIs_none hkv
        k_steps
      | some j =>
        obtain ⟨t, rfl⟩ := keyIs_some hkv
        k_steps
        · exact (decide_eq_true (by omega)).symm
        · exact (decide_eq_false (by omega)).symm
    · intro C k v s₃ m₃ E' hk _ hkv F8 hm8
      have N8 := fr_nil F8
      (try k_fold)
      k_steps
    · intro C k v s₃ m₃ E' hk _ hkv F8 hm8
      have N8 := fr_nil F8
      have g2 := (N6 (L' + 1 + 1, o2) (by k_mem)).1
      obtain ⟨x, hx, hxk⟩ := List.mem_map.mp hk
      obtain ⟨j, hj⟩ := List.mem_iff_getElem?.mp hx
      have hv : dget b k = some x.2 := dget_at hD.nodup (j := j) (by rw [hj, ← hxk])
      dsimp only
      rw [hv, Option.getD_some]
      (try k_fold)
      cases k with
      | none =>
        obtain ⟨t, rfl⟩ := keyIs_none hkv
        k_steps
        refine dm_item (Dct.keeps DD F8.keep) hkv hv ?_
        intro t2
        exact ⟨⟨t2, rfl⟩, _, _, rfl, fun _ _ e => e⟩
      | some i9 =>
        obtain ⟨t, rfl⟩ := keyIs_some hkv
        k_steps
        refine dm_item (Dct.keeps DD F8.keep) hkv hv ?_
        intro t2
        exact ⟨⟨t2, rfl⟩, _, _, rfl, fun _ _ e => e⟩
    intro D9 o9 h9 tk9 F9 N9 off9 lo9 keep9 hD9
    clear F6 N6
    have hsum := (pass_vals (passes ((1 + i : Nat) : Int)) hD.nodup).trans (hmat ((1 + i : Nat) : Int) (by omega))
    k_steps
    (with_reducible rename Fr _ _ _ _ => F10); (with_reducible rename News _ _ _ _ => N10)
    refine Stop.off ?_
    refine use_countT B F10 X N10 T rfl (by omega) (by omega) (dct_led lo9 N10 (by k_mem) hD9) ?_
    intro t11 h11 tk11 ht11 F11 N11
    rw [hsum]
    clear F10 N10
    k_steps
    (with_reducible rename Fr _ _ _ _ => F12); (with_reducible rename News _ _ _ _ => N12)
    refine Stop.off ?_
    refine use_shelf B F12 X N12 T rfl (by omega) (by omega) (lst_led N12 (by k_mem) hi) (by omega) hn ?_
    intro t13 h13 tk13 ht13 F13 N13
    clear F12 N12
    k_steps
    · exact ((‹(_ : Int) ≠ _› : (shelfAt ((1 + i : Nat) : Int) ns 9).2 ≠ (shelfAt ((1 + i : Nat) : Int) ns 9).2) rfl).elim
    (with_reducible rename Fr _ _ _ _ => F14); (with_reducible rename News _ _ _ _ => N14)
    refine TurnO.nextN (nx' := [(134, tabObj #[]), (L' + 1 + 1 + 1, o5), (L' + 1 + 1, o2), (L' + 1, o1), (A, listOf avs.toArray nA), (D, oD)]) F14 (pickAll N14 [1, 2, 3, 4, 5, 6, 7] 8 :) ?_ (fun ht => ⟨o5, _, rfl, rfl, hd5, Nat.lt_of_lt_of_le htk ht⟩)
    exact fmc (hne (134, tabObj #[]) (.head _)) (fmc (hne (L' + 1 + 1 + 1, o3) (by k_mem)) (fmc (hne (L' + 1 + 1, o2) (by k_mem)) (fmc (hne (L' + 1, o1) (by k_mem)) (fmc (hne (A, listOf avs.toArray nA) (by k_mem)) (fmc (hne (D, oD) (by k_mem)) fmn)))))
  · intro m₁ nx hp tk xR3; obtain ⟨o3, v3, hm1, rfl, hd3, htk⟩ := xR3; intro F₁ N₁
    dsimp only
    exact tail8_ok (A := A) (nA := nA) (o1 := o1) (o3 := o3) (s := { s with heap := hp, toks := tk }) B X T hd hu F₁ (pickAll N₁ [0, 1, 3, 4] 6 :) d1 hd3 hA hm1 hbs hi hTok hn h4 htk hQ
theorem fresh_W5 : True := by w_top off; trivial
theorem reg_W5 : True := by
  (k_with "ktr_unf" => ((guard_hyp on_W5 : True; (first | assumption | exact Lst.keeps (by assumption) (Fr.keep (by assumption)) | exact lst_led (by assumption) (by k_mem) (by assumption) | exact LObj.led (by assumption) (by k_mem) (by assumption)))))
  (k_with "call ref" => ((guard_hyp on_W5 : True; ((refine Stop.on ?_)))))
  (k_with "call type:bytes ref" => ((guard_hyp on_W5 : True; ((refine Stop.on ?_)))))
  (k_with "call type:bytes" => ((guard_hyp on_W5 : True; ((refine Stop.on ?_)))))
  (k_with "compareOp NotEq ref ref" => ((guard_hyp on_W5 : True; ((refine Stop.on ?_)))))
  trivial

noncomputable def bsOf (ns : List Int) : List UInt8 := ns.map fun n => n.toNat.toUInt8
theorem bs_back {ns : List Int} (h : Four ns) : ns = (bsOf ns).map fun b => (b.toNat : Int) := by
  unfold bsOf
  rw [List.map_map]
  conv => lhs; rw [← List.map_id ns]
  refine List.map_congr_left fun n hn => ?_
  have := h n hn
  have e : n = 0 ∨ n = 1 ∨ n = 2 ∨ n = 3 := by omega
  rcases e with rfl | rfl | rfl | rfl <;> rfl
theorem bs_rev (ns : List Int) : (bsOf ns).reverse = bsOf ns.reverse := List.map_reverse.symm
theorem wpX_toksF {α : Type} {M : Model} {A : Around} {t : Sem α} {Q : α → Shared → Prop} {s : Shared} (h : wpX M A t (fun a s' => s.toks ≤ s'.toks → Q a s') (fun _ _ => False) s) : wpX M A t Q (fun _ _ => False) s := by
  intro Γ p hΓ i j
  have h2 := wp_toks s.toks t (Nat.le_refl _) (h Γ p hΓ i j)
  exact Sem.wp_mono _ _ _ (fun a p s' x => x.2 x.1) (fun e p s' x => x.2) _ _ h2
set_option maxRecDepth 100000 in
set_option maxHeartbeats 16000000 in
theorem tail3_ok {w : World} {s : Shared} {loose : List Str} {mean : ExcName → Option Value} {mg mb : Str → Option Value} {dp un : Nat} {gd : Option (List Code)} {g : Heap} {L' A Bk : Addr} {m : Str → Option Value} {Q : Flow → Shared → Prop}
    {avs bvs : List Value} {ns : List Int} {nA nB : Nat} {o1 o2 o3 : Obj} {v2 v3 : Option Value}
    (B : Below callerA g [] g) (X : (Mine.hd.heap_1 w.params).In g) (T : Top topProg loose mean mg mb g) (hd : dp + 100 < recursionLimit) (hu : un + 8 * 100 + 200 < cLine)
    (F : Fr g L' s.heap m) (N : News g L' s.heap [(134, tabObj #[]), (L' + 1 + 1 + 1, o3), (L' + 1 + 1, o2), (L' + 1, o1), (A, listOf avs.toArray nA), (Bk, listOf bvs.toArray nB)]) (d1 : o1.data = .cell (some (.ref A))) (d2 : o2.data = .cell v2) (d3 : o3.data = .cell v3)
    (hA : (@Ne Nat A 134) ∧ (@Ne Nat A (L' + 1 + 1 + 1)) ∧ (@Ne Nat (L' + 1) 134) ∧ (@Ne Nat (L' + 1 + 1 + 1) 134)) (hA2 : (@Ne Nat A (L' + 1 + 1)) ∧ (@Ne Nat (L' + 1 + 1) 134) ∧ (@Ne Nat Bk (L' + 1 + 1)))
    (m1 : m (Str.ofString "back") = some (.ref Bk)) (hi : IntsAre avs ns) (hb : IntsAre bvs ns.reverse) (hTok : TokOk avs) (hn : ns.length = 9) (h4 : Four ns) (htk0 : 0 < s.toks)
    (hQ : ∀ h' tk' ps', (∀ b o, g.get? b = some o → h'.get? b = some o) → h'.get? 134 = some (tabObj ps') → Q (.ret (.bool true)) { s with heap := h', toks := tk' }) :
    wpX (model PR w) (lawA w.params dp un gd L') (execs (tailOf w.params 3) (lawEnv w.params L')) Q (fun _ _ => False) s := by
  have on_W5 : True := trivial
  unfold lawA lawEnv tailOf lawFn bodyIs
  dsimp only [List.drop]
  obtain ⟨u, rfl⟩ := fr_eq (m := m) [(Str.ofString "back", .ref Bk)] ⟨m1, trivial⟩
  refine wpX_cons (wpX_toksF (wpX_assign (wpX_Call ?_)))
  (try k_fold)
  k_steps
  refine wpX_callWith_fn1 (hl := Nat.le_of_ble_eq_true rfl) ?_
  (try k_fold)
  k_steps
  have r4 : ∀ n ∈ ns, 0 ≤ n ∧ n < 256 := fun n hn' => by have := h4 n hn'; omega
  have hal := hi.length
  refine Stop.off ?_
  refine call_bytes_ints ⟨_, (N (A, _) (by k_mem)).1, rfl, nA, rfl⟩ hi r4 (by rw [sizeLine_eq]; omega) rfl ?_
  intro h2 t2 tk2 keep2
  have F2 := F.keeps keep2
  have N2 := N.grown keep2
  clear F N
  k_steps
  · exact F2.keep _ _ (X 125 _ (by rfl))
  · rfl
  (with_reducible rename Fr _ _ _ _ => F3); (with_reducible rename News _ _ _ _ => N3)
  refine (byteswap_ok w _ (bsOf ns) t2 _ (by unfold bsOf; rw [List.length_map]; exact hn)) loose mean mg mb dp un gd _ _ _ _ _ _ _ _ g _ _ _ _ B F3 X T rfl (by omega) (by omega) ?_
  intro v h4' tk4 keep4 hv
  obtain ⟨t4, rfl⟩ := hv
  rw [bs_rev]
  have F4 := F3.keeps keep4
  have N4 := N3.grown keep4
  clear F3 N3
  k_steps
  (with_reducible rename Fr _ _ _ _ => F5); (with_reducible rename News _ _ _ _ => N5)
  rename s.toks ≤ _ => ht5
  have htk5 := Nat.lt_of_lt_of_le htk0 ht5
  refine wpX_of ?_
  refine execs_consT ?_
  k_steps
  (with_reducible rename Fr _ _ _ _ => F6); (with_reducible rename News _ _ _ _ => N6)
  have r4' : ∀ n ∈ ns.reverse, 0 ≤ n ∧ n < 256 := fun n hn' => r4 n (List.mem_reverse.mp hn')
  have hbl := hb.length
  rw [List.length_reverse] at hbl
  refine Stop.off ?_
  refine call_bytes_ints ⟨_, (N6 (Bk, _) (by k_mem)).1, rfl, nB, rfl⟩ hb r4' (by rw [sizeLine_eq]; omega) rfl ?_
  intro h7 t7 tk7 keep7
  have F7 := F6.keeps keep7
  have N7 := N6.grown keep7
  clear F6 N6
  refine ne_bytes ?_
  have e7 : ((bsOf ns.reverse).toArray.toList != (byteArr ns.reverse).toList) = false := by
    show ((bsOf ns.reverse) != (bsOf ns.reverse)) = false
    simp
  rw [e7]
  k_steps
  intro ht8
  have htk8 := Nat.lt_of_lt_of_le htk5 ht8
  dsimp only
  clear keep7 keep4 keep2 ht8 ht5 htk5
  refine execs_consT ?_
  k_steps
  (with_reducible rename Fr _ _ _ _ => F8); (with_reducible rename News _ _ _ _ => N8)
  refine Stop.off ?_
  refine use_since B F8 X N8 T rfl (by omega) (by omega) (.inl ⟨A, rfl, lst_led N8 (by k_mem) hi⟩) hn ?_
  intro D oD h9 tk9 ht9 F9 N9 off9 loD hD
  simp only [offP, and_true] at off9
  obtain ⟨q1, q2, q3, q4, q5, q6⟩ := off9
  clear F8 N8
  have hcell3 : (@Ne Nat D (L' + 1 + 1)) := Ne.symm q3
  have hcell4 : (@Ne Nat 134 (L' + 1 + 1)) := Ne.symm hA2.2.1
  have hcell5 := hA2.1
  have hcell6 := hA2.2.2
  k_steps
  intro ht10
  have htk10 := Nat.lt_of_lt_of_le htk8 ht10
  dsimp only
  (with_reducible rename Fr _ _ _ _ => F10); (with_reducible rename News _ _ _ _ => N10)
  rename _ = Data.cell (some (Value.ref D)) => hd2
  have hbl9 := (since_inv ns 9).len3
  have hbt : DEq (sinceAt ns 9).2.2 (betweenAt ns 9) := by rw [← since_between h4 hn]; exact DEq.rfl_of hD.nodup
  have hmi := since_mirror h4 hn
  have hmat : ∀ room : Int, 1 ≤ room → passSum (passes room) (sinceAt ns 9).2.2 = (shelfAt room ns 9).2 := fun room hr => mattson hr h4 hn
  generalize (sinceAt ns 9).2.2 = b at hD hbl9 hbt hmi hmat
  have q2' := q2
  clear ht9 q1 q2 q3 q4 q6 hcell3 hcell4 hcell5 hcell6 ht10 htk8 e7 r4' r4
  refine execs_consT ?_
  k_steps
  (with_reducible rename Fr _ _ _ _ => F11); (with_reducible rename News _ _ _ _ => N11)
  refine Stop.off ?_
  refine use_between B F11 X N11 T rfl (by omega) (by omega) (lst_led N11 (by k_mem) hi) hn ?_
  intro r12 o12 h12 tk12 ht12 F12 N12 off12 lo12 hD12
  clear F11 N11
  k_steps
  (with_reducible rename Fr _ _ _ _ => F13); (with_reducible rename News _ _ _ _ => N13)
  refine Stop.off ?_
  refine dct_ne (dct_led loD N13 (by k_mem) hD) (dct_led lo12 N13 (by k_mem) hD12) hbt (by first | units_room | (show _ < _; omega)) ?_
  k_steps
  (with_reducible rename Fr _ _ _ _ => F14); (with_reducible rename News _ _ _ _ => N14)
  refine Stop.off ?_
  refine use_since B F14 X N14 T rfl (by omega) (by omega) (.inr ⟨bsOf ns.reverse, _, rfl, (bs_back h4.rev).symm⟩) (by rw [List.length_reverse]; exact hn) ?_
  intro r15 o15 h15 tk15 ht15 F15 N15 off15 lo15 hD15
  clear F14 N14
  k_steps
  (with_reducible rename Fr _ _ _ _ => F16); (with_reducible rename News _ _ _ _ => N16)
  refine Stop.off ?_
  refine dct_ne (dct_led lo15 N16 (by k_mem) hD15) (dct_led loD N16 (by k_mem) hD) hmi (by first | units_room | (show _ < _; omega)) ?_
  k_steps
  intro ht17
  have htk17 := Nat.lt_of_lt_of_le htk10 ht17
  dsimp only
  (with_reducible rename Fr _ _ _ _ => F17); (with_reducible rename News _ _ _ _ => N17)
  obtain ⟨o2', rfl⟩ := nameO hd2
  exact tail7_ok (A := A) (D := D) (nA := nA) (o1 := o1) (o2 := o2') (o3 := o3) (oD := oD) (bs := bsOf ns.reverse) (b := b) B X T hd hu F17 (pickAll N17 [3, 4, 5, 6, 7, 2] 9 :) d1 hd2 d3 hA (Ne.symm q2') loD hD hbl9 hmat rfl (bs_back h4.rev) hi hTok hn h4 htk17 hQ
theorem fresh_W6 : True := by w_top off; trivial
theorem reg_W6 : True := by
  (k_with "ktr_unf" => ((guard_hyp on_W6 : True; (first | assumption | exact Lst.keeps (by assumption) (Fr.keep (by assumption)) | exact lst_led (by assumption) (by k_mem) (by assumption) | exact LObj.led (by assumption) (by k_mem) (by assumption)))))
  (k_with "eval ListComp" => ((guard_hyp on_W6 : True; ((refine Stop.on ?_)))))
  (k_with "subscriptTail List Slice ref ref" => ((guard_hyp on_W6 : True; ((refine Stop.on ?_)))))
  (k_with "subscriptTail Name Slice ref ref" => ((guard_hyp on_W6 : True; ((refine Stop.on ?_)))))
  (k_with "binaryOp Add ref ref" => ((guard_hyp on_W6 : True; ((refine Stop.on ?_)))))
  trivial

theorem back_rev {ns : List Int} (h : ns.length = 9) : (((rangeKs 0 9).filter (fun _ => true)).map fun n => geti ns (8 - n)) = ns.reverse := by
  match ns, h with
  | [a, b, c, d, e, f, g, i, j], _ => rfl
theorem news9 {g h : Heap} {L : Addr} {a b e f i k : Addr × Obj} (N : News g L h (a :: b :: [e, f, i, k])) : News g L h [a, e, f, i, k] := pickAll N [0, 2, 3, 4, 5] 6
theorem news5 {g h : Heap} {L : Addr} {a b c d e f i k : Addr × Obj} (N : News g L h (a :: b :: c :: d :: [e, f, i, k])) : News g L h [a, e, f, i, k] := pickAll N [0, 4, 5, 6, 7] 8
theorem small4 (k : Int) : smallInt (k.fmod 4) = true := by
  have e : k.fmod 4 = k % 4 := Int.fmod_eq_emod_of_nonneg _ (by decide)
  unfold smallInt
  rw [e, Bool.and_eq_true, decide_eq_true_iff, decide_eq_true_iff]
  omega
theorem four_mod (fl : List Int) : Four (fl.map fun k => k.fmod 4) := fun x hx => by
  obtain ⟨k, _, rfl⟩ := List.mem_map.mp hx
  have e : k.fmod 4 = k % 4 := Int.fmod_eq_emod_of_nonneg _ (by decide)
  rw [e]
  omega
theorem fill_nine (ns0 : List Int) : (cut none (some 9) ns0 ++ cut (some ((ns0.length : Nat) : Int)) none [0, 1, 0, 2, 3, 1, 2, 2, 0]).length = 9 := by
  unfold cut kms_lo kms_hi
  dsimp only
  rw [if_neg (by decide), if_neg (by omega)]
  simp only [List.length_append, List.length_take, List.length_drop, List.length_cons, List.length_nil, Int.toNat_natCast, List.drop_zero]
  have : (9 : Int).toNat = 9 := rfl
  rw [this]
  omega
set_option maxRecDepth 100000 in
set_option maxHeartbeats 16000000 in
theorem head3_ok {w : World} {s : Shared} {loose : List Str} {mean : ExcName → Option Value} {mg mb : Str → Option Value} {dp un : Nat} {gd : Option (List Code)} {g : Heap} {L' l0 : Addr} {m : Str → Option Value} {Q : Flow → Shared → Prop}
    {vs0 : List Value} {ns0 : List Int} {o1 o2 o3 : Obj} {v1 v2 v3 : Option Value}
    (B : Below callerA g [] g) (X : (Mine.hd.heap_1 w.params).In g) (T : Top topProg loose mean mg mb g) (hd : dp + 100 < recursionLimit) (hu : un + 8 * 100 + 200 < cLine)
    (F : Fr g L' s.heap m) (N : News g L' s.heap [(134, tabObj #[]), (L' + 1 + 1 + 1, o3), (L' + 1 + 1, o2), (L' + 1, o1)]) (d1 : o1.data = .cell v1) (d2 : o2.data = .cell v2) (d3 : o3.data = .cell v3)
    (hP : (@Ne Nat (L' + 1) 134) ∧ (@Ne Nat (L' + 1 + 1) 134) ∧ (@Ne Nat (L' + 1 + 1 + 1) 134)) (m1 : m (Str.ofString "script") = some (.ref l0)) (gL : g.IsList l0 vs0.toArray) (hi : IntsAre vs0 ns0) (hz : ns0.length ≤ 63)
    (hQ : ∀ h' tk' m' A Bk avs bvs nA nB ns o1', Fr g L' h' m' → News g L' h' [(134, tabObj #[]), (L' + 1 + 1 + 1, o3), (L' + 1 + 1, o2), (L' + 1, o1'), (A, listOf (List.toArray avs) nA), (Bk, listOf (List.toArray bvs) nB)] → o1'.data = .cell (some (.ref A)) →
      ((@Ne Nat A 134) ∧ (@Ne Nat A (L' + 1 + 1 + 1)) ∧ (@Ne Nat (L' + 1) 134) ∧ (@Ne Nat (L' + 1 + 1 + 1) 134)) → ((@Ne Nat A (L' + 1 + 1)) ∧ (@Ne Nat (L' + 1 + 1) 134) ∧ (@Ne Nat Bk (L' + 1 + 1))) → m' (Str.ofString "back") = some (.ref Bk) →
      IntsAre avs ns → IntsAre bvs ns.reverse → TokOk avs → ns.length = 9 → Four ns → 0 < tk' → Q .next { s with heap := h', toks := tk' }) :
    wpAny (model PR w) (lawA w.params dp un gd L') (execs ((lawFn w.params).1.take 3) (lawEnv w.params L')) Q (fun _ _ => False) s := by
  have on_W6 : True := trivial
  unfold lawA lawEnv lawFn bodyIs
  dsimp only [List.take]
  obtain ⟨u, rfl⟩ := fr_eq (m := m) [(Str.ofString "script", .ref l0)] ⟨m1, trivial⟩
  refine execs_consT ?_
  (try k_fold)
  k_steps
  refine Stop.off ?_
  have L0 : Lst s.heap l0 ns0 := ⟨vs0, gL.at (fun o e => F.keep _ o e), hi⟩
  refine lst_slice (lo := none) (hi := some 9) F N L0 (by omega) (by kmk_part) (by kmk_part) ?_
  intro D1 vs1 h1 F1 N1 lt1 hi1 keep1
  have L1 := L0.keeps keep1
  clear F N L0
  k_steps
  (with_reducible rename Fr _ _ _ _ => F2); (with_reducible rename News _ _ _ _ => N2)
  have L2 : Lst _ _ [0, 1, 0, 2, 3, 1, 2, 2, 0] := ⟨_, ⟨_, (N2 _ (.head _)).1, rfl, _, rfl⟩, .cons _ _ (.cons _ _ (.cons _ _ (.cons _ _ (.cons _ _ (.cons _ _ (.cons _ _ (.cons _ _ (.cons _ _ .nil))))))))⟩
  refine lst_slice (lo := some ((ns0.length : Nat) : Int)) (hi := none) F2 N2 L2 (by decide) (by kmk_part) (by kmk_part) ?_
  intro D3 vs3 h3 F3 N3 lt3 hi3 keep3
  clear F2 N2 L2
  k_steps
  have f9 := fill_nine ns0
  refine Stop.off ?_
  refine lst_add F3 N3 (lst_led N3 (by k_mem) hi1) (lst_led N3 (by k_mem) hi3) (by rw [← List.length_append]; omega) ?_
  intro D5 o5 h5 F5 N5 lt5 hL5
  generalize cut none (some 9) ns0 ++ cut (some ((ns0.length : Nat) : Int)) none [0, 1, 0, 2, 3, 1, 2, 2, 0] = fl at f9 hL5
  have N5 := news5 N5
  clear F3 N3 L1 lt1 lt3 lt5 hi1 hi3 keep1 keep3
  k_steps
  intro ht6
  have htk6 : 0 < s.toks + 1 := Nat.succ_pos _
  (try dsimp only)
  (with_reducible rename Fr _ _ _ _ => F6); (with_reducible rename News _ _ _ _ => N6)
  refine execs_consT ?_
  k_steps
  refine Stop.off ?_
  with_unfolding_all refine compEt (fun k => k.fmod 4) F6 N6 (by rfl) (by decide) (by rfl) (by decide) (by rfl) (by rfl) ?_
  k_steps
  (with_reducible rename Fr _ _ _ _ => F7); (with_reducible rename News _ _ _ _ => N7)
  obtain ⟨us, nu, rfl, hiu⟩ := hL5
  refine Stop.off ⟨D5, us, fl, rfl, ⟨_, (N7 _ (.head _)).1, rfl, nu, rfl⟩, hiu, by omega, ?_, small4, F7, N7, ?_, ?_⟩
  · exact Nat.succ_pos _
  · intro C k t s₃ m₃ E' hk F8 hm8
    have N8 := fr_nil F8
    (try k_fold)
    k_steps
    all_goals first | exact Nat.le_succ _ | exact Nat.lt_succ_self _
  intro A avs nA h9 tk9 F9 N9 off9 ht9 hi9 hTok
  simp only [offP, and_true] at off9
  obtain ⟨q0, q1, q2, q3, q4⟩ := off9
  have N9 := news9 N9
  have hf4 := four_mod fl
  have hn : (fl.map fun k => k.fmod 4).length = 9 := by rw [List.length_map]; exact f9
  generalize (fl.map fun k => k.fmod 4) = ns at hi9 hf4 hn
  clear F7 N7
  have hc1 := hP.1.symm
  k_steps
  intro ht10
  have htk10 := Nat.lt_of_lt_of_le (Nat.succ_pos _) ht10
  (try dsimp only)
  (with_reducible rename Fr _ _ _ _ => F10); (with_reducible rename News _ _ _ _ => N10)
  rename _ = Data.cell (some (Value.ref A)) => hd1
  obtain ⟨o1', rfl⟩ := nameO hd1
  refine wpAny_toksF ?_
  refine wpAny_execs_cons ?_
  with_unfolding_all refine compA (fun _ => true) (fun n => geti ns (8 - n)) F10 N10 (by rfl) (by rfl) (by rfl) (by decide) (by rfl) (by decide) (by rfl) (by rfl) (by rfl) (by rfl) ?_
  k_steps
  (with_reducible rename Fr _ _ _ _ => F11); (with_reducible rename News _ _ _ _ => N11); (with_reducible rename IsRange _ _ _ _ _ _ _ _ => hr)
  have gA := (N11 (L' + 1, o1') (by k_mem)).1
  dsimp only at gA
  have LA := lst_led N11 (.head _) hi9
  refine Stop.off ⟨rangeKs 0 9, SrcI.range hr rfl rfl, by decide, F11, N11, ⟨?_, ?_⟩, ?_⟩
  · intro C k t s₃ m₃ E' hk F12 hm12
    exact tests_nil ⟨rfl, _, _, rfl, fun _ _ e => e⟩
  · intro C k t s₃ m₃ E' hk _ F12 hm12
    have N12 := fr_nil F12
    have hk9 := mem_range0.mp hk
    (try k_fold)
    k_steps
    refine lst_item (LA.keeps F12.keep) (by omega) (by omega) (by omega) ?_
    intro t9
    exact ⟨⟨t9, rfl⟩, _, _, rfl, fun _ _ e => e⟩
  intro Bk bvs nB h13 tk13 F13 N13 off13 hb13
  replace off13 := offP_of off13
  simp only [offP, and_true] at off13
  rw [back_rev hn] at hb13
  k_steps
  (with_reducible rename Fr _ _ _ _ => F14); (with_reducible rename News _ _ _ _ => N14)
  refine hQ _ _ _ A Bk avs bvs nA nB ns o1' F14 (pickAll N14 [2, 3, 4, 5, 1, 0] 6 :) hd1 ⟨Ne.symm q1, Ne.symm q2, hP.1, hP.2.2⟩ ⟨Ne.symm q3, hP.2.1, Ne.symm off13.2.2.2.1⟩ rfl hi9 hb13 hTok hn hf4 ?_
  exact Nat.lt_of_lt_of_le htk10 (by assumption)

section
set_option maxRecDepth 100000
section
variable {A : Around} {s : Shared}
theorem codeX_call_function {prog : Program} {w : World} {R : Result → Shared → Prop} {a : Addr} {args : Args} {o : Obj} {fd : FuncData} {body : List Stmt} (hroom : A.depth < recursionLimit)
    (ho : s.heap.get? a = some o) (hd' : o.data = .func fd) (hco : fd.scope.isCoroutine = false) (hgen : fd.scope.isGenerator = false) (hbody : fd.body = .stmts body) (hcd : s.heap.CodeRec fd.code fd.qualname)
    (h : wpAny (model prog w) A.in1 (bindArgs fd args) (fun binds s₁ =>
      wpAny (model prog w) A.in1 (newFunctionEnv fd.scope fd.globals fd.closure binds (fd.qualname ++ ".<locals>.") (some a) fd.code none fd.builtins)
        (fun env s₂ => s₂.heap.NoLimit ∧ codeX (model prog w) A (.func body env) R s₂) (fun e s' => R (.error e) s') s₁) (fun e s' => R (.error e) s') s) :
    codeX (model prog w) A (.call (.ref a) args) R s := by
  refine codeX_tree (idle_call _ _) (wpX_of ?_)
  show wpAny _ A.in1 (callAny (.ref a) args) _ _ s
  simp only [callAny]
  refine wpAny_bind (wpAny_load ho ?_)
  obtain ⟨c, oc, vs, tq, hc, hoc, hdc, hq⟩ := hcd
  simp only [hd', callFunction, hco, hgen, hbody, hc]
  rw [hc] at h
  refine wpAny_bind (m := field (.ref c) 1) (wpAny_field hoc hdc hq (wpAny_bind (wpAny_pure ?_)))
  exact wpAny_bind (wpAny_mono h (fun binds s₁ h₁ => wpAny_bind (wpAny_mono h₁ (fun env s₂ h₂ => wpAny_bind (wpAny_enterFrame h₂.1 hroom
    (wpAny_pure (And.intro rfl h₂.2)))) fun _ _ h' => h')) fun _ _ h' => h')
end
end

section
set_option maxRecDepth 100000
theorem callI {w : World} {f : Addr} {vs : List Value} {s : Shared} {a : Addr} {o : Obj} {Q E : Value → Shared → Prop} {loose : List Str} {mean : ExcName → Option Value} {mg mb : Str → Option Value}
    {name qual : Str} {params : Arguments} {body : List Stmt} {scope : Scope} {dV kV doc pm cdv ct oc : Value} {an od : Option Addr} {osl : Array (Option Value)} {binds : List (Str × Value)}
    (Xs : (Mine.hd.heap_1 w.params).In s.heap) (T : Top topProg loose mean mg mb (hideAll s.heap [a])) (X : (Mine.hd.heap_1 w.params).In (hideAll s.heap [a])) (hoa : s.heap.get? a = some o)
    (ho : (Mine.hd.heap_1 w.params).lookup f = some ⟨oc, od, .func (fnOf name qual params body scope dV kV doc pm an cdv ct), osl⟩) (hcd : codeIn (Mine.hd.heap_1 w.params) cdv qual = true)
    (hbind : BindsTo s (fnOf name qual params body scope dV kV doc pm an cdv ct) ⟨vs, []⟩ binds) (hkind : (binds.all fun y => scope.names.lookup y.1 == some .local || scope.names.lookup y.1 == some .cell) = true)
    (hnd : ((cellsFrom 0 scope.names []).map (·.1)).Nodup) (hco : scope.isCoroutine = false) (hgen : scope.isGenerator = false) (hk : scope.kind = .function)
    (h : ∀ (dp un : Nat) (gd : Option (List Code)) (g : Heap) (L' : Addr) (h₁ : Heap) (tk : Nat) (cells : List (Addr × Obj)), s.toks ≤ tk → g = hideAll s.heap [a] → L' = s.heap.objs.size →
      Below callerA g [] g → Fr g L' h₁ (bindL (envOfC qual scope L' f cdv).kindOf binds fun _ => none) → (∀ b o, s.heap.get? b = some o → h₁.get? b = some o) → News g L' h₁ ((a, o) :: cells) → CellsAre (bindC (envOfC qual scope L' f cdv).kindOf binds fun _ => none) (cellsFrom (L' + 1) scope.names []) cells → (∀ p ∈ cells, p.1 ≠ a) → dp + 100 < recursionLimit → un + 8 * 100 + 200 < cLine →
      wpX (model PR w) (ktrTop dp un gd qual scope L' f cdv (cellsFrom (L' + 1) scope.names []) []) (PySem.execs body (envOfC qual scope L' f cdv)) (fun fl s' => Q (match fl with | .ret v => v | _ => .none) s') (fun _ _ => False) { s with heap := h₁, toks := tk }) :
    wpX (model PR w) callerA (PySem.call (.ref f) vs) Q E s := by
  have nm : ∀ b o, (hideAll s.heap [a]).get? b = some o → s.heap.get? b = some o := fun b o e => of_hideAll _ e
  refine wpX_call ?_
  refine codeX_call_function (fd := fnOf name qual params body scope dV kV doc pm an cdv ct) (by decide) (Xs _ _ ho) rfl hco hgen rfl (codeRec_of Xs hcd) (hbind _ _ _ _ ?_)
  refine wpAny_toks (wpAny_newFunctionEnv_cells hk (kindsX hkind _) fun env' he s' x htk => ?_)
  subst he
  refine ⟨(T.nolimit.keeps nm).keeps x.toInCall.keep, codeX_func ?_⟩
  obtain ⟨h₁, tk, rfl, _⟩ := x.done
  have hk₁ := x.toInCall.keep
  obtain ⟨cells, NC, Y⟩ := Cl.news (h₀ := s.heap) (Nat.le_refl _) fun n c hm => ⟨x.cell n c (lookup_of_mem_nodup (cellsFrom_names scope.names 0 (s.heap.objs.size + 1) [] [] rfl ▸ hnd) hm), x.above n c hm⟩
  have aN : a ≠ s.heap.objs.size := Nat.ne_of_lt (Heap.lt_size hoa)
  have cN : ∀ p ∈ cells, p.1 ≠ a := fun p hp q => by have := (NC p hp).2.2; rw [q, hoa] at this; cases this
  refine wpX_mono (h _ _ _ _ s.heap.objs.size h₁ tk cells htk rfl rfl (below_caller _) ⟨x.toInCall.ns, fun b o e => hk₁ b o (of_hideAll _ e), Nat.le_of_eq (hideAll_size _ _)⟩ hk₁ (fun p hp => ?_) Y cN (by decide) (by decide)) (fun fl s' hl => hl) fun _ _ x => x.elim
  rcases List.mem_cons.mp hp with rfl | hp
  · exact ⟨hk₁ _ _ hoa, aN, hideAll_none [_] (.head _)⟩
  · refine ⟨(NC p hp).1, (NC p hp).2.1, ?_⟩
    cases q : (hideAll s.heap [a]).get? p.1 with
    | none => rfl
    | some o => have := of_hideAll _ q; rw [(NC p hp).2.2] at this; cases this
end

theorem goodTrue {cw : ClaimW} {cl : Str → Option Addr} {mean : ExcName → Option Value} {args : List WData} {s₁ : Shared} {h' : Heap} {tk' : Nat} (hpost : cw.post args (.bool true) args = true) (hr : ∀ x, cw.raises args x = false)
    (hC : isCodeTable s₁.heap 134) (hT : s₁.heap.get? 134 = some (tabObj #[])) (keep : ∀ b o, b ≠ 134 → s₁.heap.get? b = some o → h'.get? b = some o) (hg : ∃ ps, h'.get? 134 = some (tabObj ps)) (hb : s₁.gens = #[]) :
    GoodWG cw cl mean args s₁ (.ok (.ret (.bool true))) { s₁ with heap := h', toks := tk' } := by
  refine ⟨.inl ⟨.bool true, .bool true, [], rfl, hr, .bool true, hpost, fun _ => ⟨List.nodup_nil, fun _ h => nomatch h⟩⟩, ⟨fun b o e => ?_, fun b o e => ?_⟩, rfl, .of_eq hb⟩
  · by_cases q : b = 134
    · subst q
      obtain ⟨ps, hP⟩ := hg
      rw [hT] at e
      cases e
      exact .inr (.inl ⟨hC, rfl, #[], ps, rfl, by rw [Array.empty_append]; exact hP⟩)
    · exact .inl (keep b o q e)
  · by_cases q : b = 134
    · subst q
      obtain ⟨ps, hP⟩ := hg
      exact ⟨_, hP⟩
    · exact ⟨o, keep b o q e⟩
theorem nameIs {h : Heap} {a : Addr} {vs : List Value} {ns : List Int} (_ : h.IsList a vs.toArray) (_ : IntsAre vs ns) : ∃ b ys ms, b = a ∧ ys = vs ∧ ms = ns := ⟨_, _, _, rfl, rfl, rfl⟩
theorem fresh_W7 : True := by w_top off; trivial

theorem post_true (args : List WData) : Challenge.rw_zn0023_01.row.claim.post args (WData.bool true) args = true := by
  show (WShape.has [] (WData.bool true) .bool && WTm.holds [] (WTm.eq .res (.lit (.bool true))) { args := args, res := some (WData.bool true), after := args }) = true
  have h1 : WShape.has [] (WData.bool true) .bool = true := by decide +kernel
  have h2 : W.same (WData.bool true) (WData.bool true) = true := by decide +kernel
  rw [h1]
  simp [WTm.holds, WTm.value, h2]
set_option maxRecDepth 100000 in
set_option maxHeartbeats 16000000 in
theorem law_walk : PySem.Challenge.rw_zn0023_01.Holds := by
  refine Mine.hd ?_
  intro w s₀ s₁ mg mb G Y fa o pm cd doc dV kV ho hd hcd hD hmg hg args vals as hpre hlay hrd hwl hlo
  have KX := km_in_of Y
  have hT8 := km_tabs_of Y
  have X := (Ground.X G).1
  have V := (Ground.X G).2
  refine Ground.open G ?_
  intro T B D TE TW
  have hT9 : TabsAt ([(136, 134)] : List (Addr × Addr)) s₁.heap := List.forall_mem_cons.mpr ⟨⟨codeHd_of_K (c := 136) (P := 134) KX (by kernel_rfl), hT8 134 (by k_mem)⟩, fun _ h => nomatch h⟩
  have gT := ghost_top hT9 T
  have gX : (Mine.hd.heap_1 w.params).In (ghostOf s₁.heap [(136, 134)]) := ghost_K hT9 KX (by kernel_rfl)
  wrow_args hpre hlay hrd hwl hlo
  (with_reducible rename IntsAre _ _ => hIs); (with_reducible rename Heap.IsList _ _ _ => hLs)
  obtain ⟨l0, vs0, ns0, e1, e2, e3⟩ := nameIs hLs hIs
  subst e1 e2 e3
  have efa := mg_of KX T.g (n := Str.ofString "law") (v := .ref 162) (by k_is)
  rw [show mg (Str.ofString "law") = some (.ref fa) from hmg] at efa
  cases efa
  clear hcd hD hmg hd ho
  k_dflt (refine' callI (a := 134) (o := tabObj #[]) (loose := ?lo) (mean := ?me) (mg := mg) (mb := mb) (binds := [(Str.ofString "script", .ref l0)]) KX ?T ?X (hT8 134 (by k_mem)) ?ho ?hcd ?hb ?hl ?hc ?h1 ?h2 ?h3 ?_; (case T => exact gT); (case X => exact gX); (case ho => k_is); (case hcd => k_is); (case hb => exact BindsTo.of_eq rfl); (case hc => decide +kernel); (case hl => exact rfl); (case h1 => exact rfl); (case h2 => exact rfl); (case h3 => exact rfl); k_whole)
  intro dp un gd g L' h₁ tk cells htk hgh hL' B F hk₁ N Y cN hd hu
  obtain ⟨o3, o2, o1, hE, d3, d2, d1⟩ := CellsAre.three Y
  subst hE
  have gL : g.IsList l0 vs0.toArray := by rw [hgh]; exact ghost_list hT9 hLs
  have hgh2 : ghostOf s₁.heap [(136, 134)] = g := hgh.symm
  rw [hgh2] at gT gX
  have hP : (@Ne Nat (L' + 1) 134) ∧ (@Ne Nat (L' + 1 + 1) 134) ∧ (@Ne Nat (L' + 1 + 1 + 1) 134) := ⟨cN (L' + 1, o1) (by k_mem), cN (L' + 1 + 1, o2) (by k_mem), cN (L' + 1 + 1 + 1, o3) (by k_mem)⟩
  have h134 := hT8 134 (by k_mem)
  show wpX _ _ (PySem.execs ((lawFn w.params).1.take 3 ++ tailOf w.params 3) (lawEnv w.params L')) _ _ _
  refine wpX_execs (wpX_of (head3_ok (s := { s₁ with heap := h₁, toks := tk }) B gX gT hd hu F N d1 d2 d3 hP rfl gL hIs (by omega) ?_))
  intro h' tk' m' A Bk avs bvs nA nB ns o1' F' N' hd1 hA hA2 hmb hia hib hTok hn h4 htk'
  refine tail3_ok (s := { s₁ with heap := h', toks := tk' }) B gX gT hd hu F' N' hd1 d2 d3 hA hA2 hmb hia hib hTok hn h4 htk' ?_
  intro h2 tk2 ps' keep hps
  refine goodTrue (s₁ := s₁) (post_true _) (fun x => by rfl) (((hT9 _ (.head _)).1.tab (hT9 _ (.head _)).2).isCodeTable) h134 (fun b o hb e => keep b o ?_) ⟨ps', hps⟩ hg
  rw [hgh]
  exact hideAll_get [134] e (fun q => hb (List.mem_singleton.mp q))
end Mine
theorem PySem.Challenge.cw_zn0023_01_holds : PySem.Challenge.rw_zn0023_01.Holds := by
  exact Mine.law_walk
