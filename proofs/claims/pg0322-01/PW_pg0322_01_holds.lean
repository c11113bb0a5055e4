import PyProof.Rows.All
import Wide.All
import OpenK.AllK
import Wide.FinOn
import Lean
import PySem.Challenge.RW_pg0322_01
set_option Elab.async false
section
open PySem PySem.W PyProof.Rows
namespace Pg
set_option maxRecDepth 100000 in
set_option maxHeartbeats 8000000 in
open_top hd for PySem.Challenge.rw_pg0322_01
end Pg
end
open PySem PySem.W PySem.Spec PySem.Calls PyProof.Rows
open Builtin.Int (intBits)
-- PgBase
section
namespace Pg
abbrev tupI (q r : Int) (t1 t2 : Tok) (c : Nat) : Obj := { cls := .type "tuple", data := .seq #[.int q t1, .int r t2] c }
/-- a call in a def's frame, told by what comes back -/
abbrev Told1 (w : World) (dep uni : Nat) (f : Addr) (vs : List Value) (news : List (Addr × Obj)) (R : (Value → List (Addr × Obj) → Prop) → Prop) : Prop :=
   ∀ (loose : List Str) (mean : ExcName → Option Value) (mg mb : Str → Option Value)
   (dp un : Nat) (gd : Option (List Code)) (cn : Str) (cs : Scope) (ad : Addr) (ccd : Value) (cl : List (Str × Addr)) (outer : List Env) (A₀ : Around) (base h₀ : Heap) (L : Addr) (m : Str → Option Value) (s : Shared) (Q E : Value → Shared → Prop),
   Below A₀ base outer h₀ → Fr h₀ L s.heap m → (hd.heap_39 w.params).In h₀ → News h₀ L s.heap news → Top topProg loose mean mg mb h₀ → cs.kind = .function →
   dp + dep < recursionLimit → un + uni < cLine → CodeHd base 87 83 → CodeHd base 80 76 → CodeHd base 52 48 →
   R (fun v news' => ∀ (h' : Heap) (tk' : Nat), Fr h₀ L h' m → News h₀ L h' news' → Q v { s with heap := h', toks := tk' }) →
   wpAny (model PySem.Challenge.rw_pg0322_01.row.prog w) (ktrTop dp un gd cn cs L ad ccd cl outer) (call (.ref f) vs) Q E s
theorem divmod_pg {prog : Program} {w : World} {A : Around} {E : Value → Shared → Prop} {s : Shared} {a b : Int} {t u : Tok} {Q : Value → Shared → Prop}
    {h₀ : Heap} {L : Addr} {m : Str → Option Value} {news : List (Addr × Obj)} (F : Fr h₀ L s.heap m) (N : News h₀ L s.heap news) (hb : 0 < b)
    (hp : Builtin.Int.intBits b ≤ 400)
    (h : ∀ D t1 t2 c h' tk', Fr h₀ L h' m → News h₀ L h' ((D, tupI (a / b) (a % b) t1 t2 c) :: news) → (∀ p ∈ news, p.1 < D) →
      Q (.ref D) { s with heap := h', toks := tk' }) :
    wpAny (model prog w) A (call (.builtin "divmod") [.int a t, .int b u]) Q E s := by
  refine divmod_N F N (by omega) (fun h' F' N' => ?_) (.inl (PyProof.noPylong_of_log2 ?_))
  · have e1 : a.fdiv b = a / b := Int.fdiv_eq_ediv_of_nonneg _ (by omega)
    have e2 : a.fmod b = a % b := Int.fmod_eq_emod_of_nonneg _ (by omega)
    rw [e1, e2] at N'
    exact h _ _ _ _ h' _ F' N' fun p hp => Heap.lt_size (N p hp).1
  · unfold Builtin.Int.intBits at hp
    rw [if_neg (by simp; omega)] at hp
    omega
end Pg
end
-- PgMath
section
namespace Pg
/-- the digits of x in base 2^n, k of them, the least first -/
def digs (n : Nat) : Nat → Int → List Int
  | 0, _ => []
  | k + 1, x => (x % 2 ^ n) :: digs n k (x / 2 ^ n)
theorem digs_len (n : Nat) : ∀ (k : Nat) (x : Int), (digs n k x).length = k
  | 0, _ => rfl
  | k + 1, x => by rw [digs, List.length_cons, digs_len n k]
theorem two_pow_pos (k : Nat) : (0 : Int) < 2 ^ k := Int.pow_pos (by decide)
theorem two_pow_mul (n k : Nat) : (2 : Int) ^ (n * (k + 1)) = 2 ^ n * 2 ^ (n * k) := by
  rw [Nat.mul_succ, Nat.add_comm, Int.pow_add]
theorem digs_add (n : Nat) : ∀ (k j : Nat) (x : Int), digs n (k + j) x = digs n k (x % 2 ^ (n * k)) ++ digs n j (x / 2 ^ (n * k))
  | 0, j, x => by simp [digs]
  | k + 1, j, x => by
    have e : k + 1 + j = (k + j) + 1 := by omega
    rw [e, digs, digs, digs_add n k j (x / 2 ^ n), List.cons_append]
    have h1 : x % 2 ^ (n * (k + 1)) % 2 ^ n = x % 2 ^ n := Int.emod_emod_of_dvd _ ⟨2 ^ (n * k), two_pow_mul n k⟩
    have h2 : x % 2 ^ (n * (k + 1)) / 2 ^ n = x / 2 ^ n % 2 ^ (n * k) := by
      rw [two_pow_mul]
      have hp := two_pow_pos n
      have q1 := Int.emod_def x (2 ^ n * 2 ^ (n * k))
      have q2 := Int.emod_def (x / 2 ^ n) (2 ^ (n * k))
      have q3 : x / 2 ^ n / 2 ^ (n * k) = x / (2 ^ n * 2 ^ (n * k)) := Int.ediv_ediv_of_nonneg (Int.le_of_lt hp)
      rw [q1, q2, q3]
      have q4 : x - 2 ^ n * 2 ^ (n * k) * (x / (2 ^ n * 2 ^ (n * k))) = x + 2 ^ n * (-(2 ^ (n * k) * (x / (2 ^ n * 2 ^ (n * k))))) := by
        rw [Int.mul_neg, ← Int.mul_assoc]; omega
      rw [q4, Int.add_mul_ediv_left _ _ (by omega)]
      omega
    have h3 : x / 2 ^ n / 2 ^ (n * k) = x / 2 ^ (n * (k + 1)) := by
      rw [two_pow_mul]
      exact Int.ediv_ediv_of_nonneg (Int.le_of_lt (two_pow_pos n))
    rw [h1, h2, h3]
theorem digs_one {n : Nat} {x : Int} (h0 : 0 ≤ x) (h1 : x < 2 ^ n) : digs n 1 x = [x] := by
  show [x % 2 ^ n] = [x]
  rw [Int.emod_eq_of_lt h0 h1]
/-- ds laid into ns from L on -/
def put (ns : List Int) (L : Nat) (ds : List Int) : List Int := ns.take L ++ ds ++ ns.drop (L + ds.length)
theorem put_len {ns ds : List Int} {L : Nat} (h : L + ds.length ≤ ns.length) : (put ns L ds).length = ns.length := by
  unfold put
  simp only [List.length_append, List.length_take, List.length_drop]
  omega
theorem put_put {ns d1 d2 : List Int} {L : Nat} (h : L + d1.length + d2.length ≤ ns.length) : put (put ns L d1) (L + d1.length) d2 = put ns L (d1 ++ d2) := by
  unfold put
  have e1 : (ns.take L ++ d1 ++ ns.drop (L + d1.length)).take (L + d1.length) = ns.take L ++ d1 := by
    rw [List.take_append_of_le_length (by simp; omega), List.take_of_length_le (by simp; omega)]
  have e2 : (ns.take L ++ d1 ++ ns.drop (L + d1.length)).drop (L + d1.length + d2.length) = ns.drop (L + d1.length + d2.length) := by
    rw [List.drop_append, List.drop_of_length_le (by simp; omega), List.nil_append, List.drop_drop]
    congr 1
    simp; omega
  rw [e1, e2, List.length_append, ← Nat.add_assoc, List.append_assoc (ns.take L) d1 d2]
theorem put_set {ns : List Int} {L : Nat} {x : Int} (h : L < ns.length) : ns.set L x = put ns L [x] := by
  unfold put
  rw [List.set_eq_take_append_cons_drop, if_pos h]
  simp
theorem put_all {ns ds : List Int} (h : ds.length = ns.length) : put ns 0 ds = ds := by
  unfold put
  rw [List.take_zero, List.nil_append, Nat.zero_add, h, List.drop_length, List.append_nil]
/-- x without its high part -/
theorem nat_and_high (q r k : Nat) (h : r < 2 ^ k) : (2 ^ k * q + r) &&& (2 ^ k * q) = 2 ^ k * q := by
  apply Nat.eq_of_testBit_eq
  intro i
  rw [Nat.testBit_and, Nat.testBit_two_pow_mul_add _ h, Nat.testBit_two_pow_mul]
  by_cases hi : i < k
  · simp [hi]
    intro h1
    exact absurd hi (Nat.not_lt.mpr h1)
  · simp [hi]
theorem xor_high {x : Int} (k : Nat) (h0 : 0 ≤ x) : Builtin.bitXor x (x / 2 ^ k * 2 ^ k) = x % 2 ^ k := by
  have hp := two_pow_pos k
  have hm := Int.emod_nonneg x (Int.ne_of_gt hp)
  have hl := Int.emod_lt_of_pos x hp
  have hd := Int.mul_ediv_add_emod x (2 ^ k)
  have hq : 0 ≤ x / 2 ^ k := Int.ediv_nonneg h0 (Int.le_of_lt hp)
  have hq2 : 0 ≤ x / 2 ^ k * 2 ^ k := Int.mul_nonneg hq (Int.le_of_lt hp)
  rw [bitXor_and, bitAnd_pp h0 hq2]
  have key : x.toNat &&& (x / 2 ^ k * 2 ^ k).toNat = (x / 2 ^ k * 2 ^ k).toNat := by
    have e1 : (x / 2 ^ k * 2 ^ k).toNat = 2 ^ k * (x / 2 ^ k).toNat := by
      rw [Int.mul_comm, Int.toNat_mul (Int.le_of_lt hp) hq]
      congr 1
    have hd' : x / 2 ^ k * 2 ^ k + x % 2 ^ k = x := by rw [Int.mul_comm]; exact hd
    have e2 : x.toNat = 2 ^ k * (x / 2 ^ k).toNat + (x % 2 ^ k).toNat := by
      rw [← e1]
      generalize x / 2 ^ k * 2 ^ k = a at *
      generalize x % 2 ^ k = b at *
      omega
    rw [e1]
    rw [e2]
    apply nat_and_high
    have : (2 ^ k : Int) = ((2 ^ k : Nat) : Int) := by simp
    omega
  rw [key]
  have hd' : x / 2 ^ k * 2 ^ k + x % 2 ^ k = x := by rw [Int.mul_comm]; exact hd
  generalize x / 2 ^ k * 2 ^ k = a at *
  generalize x % 2 ^ k = b at *
  omega
/-- what digits say -/
def valD (n : Nat) : List Int → Int
  | [] => 0
  | d :: r => d + 2 ^ n * valD n r
theorem valD_app (n : Nat) : ∀ (a b : List Int), valD n (a ++ b) = valD n a + 2 ^ (n * a.length) * valD n b
  | [], b => by simp [valD]
  | d :: r, b => by
    rw [List.cons_append, valD, valD_app n r b, valD, List.length_cons, two_pow_mul, Int.mul_add, Int.mul_assoc]
    omega
theorem valD_digs (n : Nat) : ∀ (k : Nat) (x : Int), 0 ≤ x → x < 2 ^ (n * k) → valD n (digs n k x) = x
  | 0, x, h0, h1 => by simp at h1; simp [digs, valD]; omega
  | k + 1, x, h0, h1 => by
    have hp := two_pow_pos n
    rw [digs, valD, valD_digs n k (x / 2 ^ n) (Int.ediv_nonneg h0 (Int.le_of_lt hp)) (by
      rw [two_pow_mul] at h1
      exact Int.ediv_lt_of_lt_mul hp (by rw [Int.mul_comm]; exact h1))]
    have := Int.mul_ediv_add_emod x (2 ^ n)
    omega
theorem digs_mem {n : Nat} {d : Int} : ∀ (k : Nat) (x : Int), d ∈ digs n k x → 0 ≤ d ∧ d < 2 ^ n
  | 0, _, h => nomatch h
  | k + 1, x, h => by
    have hp := two_pow_pos n
    rcases List.mem_cons.mp h with rfl | h
    · exact ⟨Int.emod_nonneg x (Int.ne_of_gt hp), Int.emod_lt_of_pos x hp⟩
    · exact digs_mem k _ h
theorem s_nat {S M L n : Int} (hS : S = (M - L) * n) (h1 : L ≤ M) (hn : 0 < n) : S.toNat = n.toNat * (M - L).toNat := by
  rw [hS, Int.mul_comm, Int.toNat_mul (by omega) (by omega)]
theorem low_lt {x W S M L n : Int} (hW : W = x % 2 ^ S.toNat) (hS : S = (M - L) * n) (h1 : L ≤ M) (hn : 0 < n) : W < 2 ^ (n.toNat * (M - L).toNat) := by
  rw [hW, s_nat hS h1 hn]
  exact Int.emod_lt_of_pos _ (two_pow_pos _)
theorem up_lt {x U S M L R n : Int} (hU : U = x / 2 ^ S.toNat) (hS : S = (M - L) * n) (hx : x < 2 ^ (n.toNat * (R - L).toNat)) (h1 : L ≤ M) (h2 : M ≤ R) (hn : 0 < n) : U < 2 ^ (n.toNat * (R - M).toNat) := by
  have e : (R - L).toNat = (R - M).toNat + (M - L).toNat := by omega
  rw [e, Nat.mul_add, Int.pow_add] at hx
  rw [hU, s_nat hS h1 hn]
  exact Int.ediv_lt_of_lt_mul (two_pow_pos _) hx
theorem leaf_eq {ns : List Int} {n L R x : Int} (h : L + 1 = R) (h0 : 0 ≤ L) (hR : R ≤ ns.length) (hx : 0 ≤ x) (hx2 : x < 2 ^ (n.toNat * (R - L).toNat)) : ns.set L.toNat x = put ns L.toNat (digs n.toNat (R - L).toNat x) := by
  have e : (R - L).toNat = 1 := by omega
  rw [e, Nat.mul_one] at hx2
  rw [e, digs_one hx hx2, put_set (by omega)]
theorem node_eq {ns ns1 ns2 : List Int} {n L M R x W U S : Int} (e2 : ns2 = put ns1 M.toNat (digs n.toNat (R - M).toNat U)) (e1 : ns1 = put ns L.toNat (digs n.toNat (M - L).toNat W))
    (hS : S = (M - L) * n) (hW : W = x % 2 ^ S.toNat) (hU : U = x / 2 ^ S.toNat) (hL : 0 ≤ L) (h1 : L ≤ M) (h2 : M ≤ R) (hR : R ≤ ns.length) (hn : 0 < n) : ns2 = put ns L.toNat (digs n.toNat (R - L).toNat x) := by
  have e : (R - L).toNat = (M - L).toNat + (R - M).toNat := by omega
  have eM : M.toNat = L.toNat + (digs n.toNat (M - L).toNat W).length := by rw [digs_len]; omega
  rw [e2, e1, eM, put_put (by rw [digs_len, digs_len]; omega), e, digs_add, hW, hU, s_nat hS h1 hn]
end Pg
namespace Pg
/-- the part of qs from L to R -/
def seg (qs : List Int) (L R : Int) : List Int := (qs.drop L.toNat).take (R - L).toNat
theorem seg_len {qs : List Int} {L R : Int} (h0 : 0 ≤ L) (h1 : L ≤ R) (h2 : R ≤ qs.length) : (seg qs L R).length = (R - L).toNat := by
  unfold seg
  rw [List.length_take, List.length_drop]
  omega
theorem seg_app {qs : List Int} {L M R : Int} (h0 : 0 ≤ L) (h1 : L ≤ M) (h2 : M ≤ R) : seg qs L R = seg qs L M ++ seg qs M R := by
  unfold seg
  have e : (R - L).toNat = (M - L).toNat + (R - M).toNat := by omega
  have e2 : M.toNat = L.toNat + (M - L).toNat := by omega
  rw [e, List.take_add, List.drop_drop, e2]
theorem seg_one {qs : List Int} {L R : Int} (h0 : 0 ≤ L) (h1 : L + 1 = R) (h2 : R ≤ qs.length) : seg qs L R = [qs.getD L.toNat 0] := by
  unfold seg
  have e : (R - L).toNat = 1 := by omega
  have hl : L.toNat < qs.length := by omega
  rw [e, List.drop_eq_getElem_cons hl, List.getD_eq_getElem?_getD, List.getElem?_eq_getElem hl]
  rfl
theorem seg_all {qs : List Int} : seg qs 0 (qs.length : Int) = qs := by
  unfold seg
  simp
theorem seg_mem {qs : List Int} {L R q : Int} (h : q ∈ seg qs L R) : q ∈ qs := List.mem_of_mem_drop (List.mem_of_mem_take h)
theorem valD_bound {n : Nat} : ∀ (qs : List Int), (∀ q ∈ qs, 0 ≤ q ∧ q < 2 ^ n) → 0 ≤ valD n qs ∧ valD n qs < 2 ^ (n * qs.length)
  | [], _ => by simp [valD]
  | q :: r, h => by
    have ih := valD_bound r fun x hx => h x (.tail _ hx)
    have hq := h q (.head _)
    have hp := two_pow_pos n
    rw [valD, List.length_cons, two_pow_mul]
    refine ⟨Int.add_nonneg hq.1 (Int.mul_nonneg (Int.le_of_lt hp) ih.1), ?_⟩
    have h1 : valD n r + 1 ≤ 2 ^ (n * r.length) := ih.2
    have h2 := Int.mul_le_mul_of_nonneg_left h1 (Int.le_of_lt hp)
    rw [Int.mul_add, Int.mul_one] at h2
    omega
theorem val_node {qs : List Int} {n L M R S v1 v2 r : Int} (hr : r = v1 * 2 ^ S.toNat) (h1 : v1 = valD n.toNat (seg qs M R)) (h2 : v2 = valD n.toNat (seg qs L M)) (hS : S = (M - L) * n) (hL : 0 ≤ L) (hLM : L ≤ M) (hMR : M ≤ R) (hR : R ≤ qs.length) (hn : 0 < n) :
    r + v2 = valD n.toNat (seg qs L R) := by
  rw [seg_app hL hLM hMR, valD_app, seg_len hL hLM (by omega), hr, h1, h2, s_nat hS hLM hn, Int.mul_comm, Int.add_comm]
theorem seg_bits {qs : List Int} {n L R : Int} (hq : ∀ q ∈ qs, 0 ≤ q ∧ q < 2 ^ n.toNat) (hL : 0 ≤ L) (hLR : L ≤ R) (hR : R ≤ qs.length) (hlen : qs.length ≤ 160) (hn0 : 0 ≤ n) (hn : n ≤ 160) : Builtin.Int.intBits (valD n.toNat (seg qs L R)) ≤ 25600 := by
  have hb := valD_bound (n := n.toNat) (seg qs L R) fun q h => hq q (seg_mem h)
  rw [seg_len hL hLR hR] at hb
  refine intBits_le_iff.mpr ?_
  have h1 : n.toNat * (R - L).toNat ≤ 160 * 160 := Nat.mul_le_mul (by omega) (by omega)
  have h2 : 2 ^ (n.toNat * (R - L).toNat) ≤ 2 ^ 25600 := Nat.pow_le_pow_right (by decide) h1
  have h3 : ((2 ^ (n.toNat * (R - L).toNat) : Nat) : Int) = 2 ^ (n.toNat * (R - L).toNat) := by simp
  generalize 2 ^ 25600 = big at *
  omega
theorem seg_val {qs : List Int} {n : Nat} {r : Int} (h : r = valD n (seg qs 0 (qs.length : Int))) : r = valD n qs := by rw [h, seg_all]
/-- the number that digits say, the greatest first, behind v -/
def hor (n : Nat) : Int → List Int → Int
  | v, [] => v
  | v, d :: r => hor n (v * 2 ^ n + d) r
theorem hor_app (n : Nat) : ∀ (v : Int) (a b : List Int), hor n v (a ++ b) = hor n (hor n v a) b
  | _, [], _ => rfl
  | v, d :: r, b => by rw [List.cons_append, hor, hor_app n _ r b, hor]
theorem hor_rev (n : Nat) : ∀ (ds : List Int), hor n 0 ds.reverse = valD n ds
  | [] => rfl
  | d :: r => by
    rw [List.reverse_cons, hor_app, hor_rev n r, valD]
    show valD n r * 2 ^ n + d = _
    rw [Int.mul_comm, Int.add_comm]
theorem turn_div {v b d t r : Int} {n : Nat} (hb : 0 < b) (hr : r = v % b) (ht : t = r * 2 ^ n + d) : (v * 2 ^ n + d) / b = v / b * 2 ^ n + t / b ∧ (v * 2 ^ n + d) % b = t % b := by
  have e : v * 2 ^ n + d = t + b * (v / b * 2 ^ n) := by
    have := Int.mul_ediv_add_emod v b
    rw [ht, hr, ← Int.mul_assoc]
    have e2 : v * 2 ^ n = (b * (v / b) + v % b) * 2 ^ n := by rw [this]
    rw [Int.add_mul] at e2
    omega
  rw [e, Int.add_mul_ediv_left _ _ (by omega), Int.add_mul_emod_self_left]
  exact ⟨by omega, rfl⟩
theorem turn_lt {b d t r : Int} {n : Nat} (hr : r < b) (ht : t = r * 2 ^ n + d) (hd : d < 2 ^ n) : t < b * 2 ^ n := by
  have h1 : r + 1 ≤ b := hr
  have h2 := Int.mul_le_mul_of_nonneg_right h1 (Int.le_of_lt (two_pow_pos n))
  rw [Int.add_mul, Int.one_mul] at h2
  omega
theorem turn_q {b t : Int} {n : Nat} (hb : 0 < b) (h0 : 0 ≤ t) (h : t < b * 2 ^ n) : 0 ≤ t / b ∧ t / b < 2 ^ n :=
  ⟨Int.ediv_nonneg h0 (Int.le_of_lt hb), Int.ediv_lt_of_lt_mul hb (by rw [Int.mul_comm]; exact h)⟩
theorem turn_bits {b t : Int} {n : Nat} (h0 : 0 ≤ t) (h : t < b * 2 ^ n) (hb : Builtin.Int.intBits b ≤ 160) (hb0 : 0 < b) (hn : n ≤ 160) : Builtin.Int.intBits t ≤ 400 := by
  refine intBits_le_iff.mpr ?_
  have h1 := intBits_le_iff.mp hb
  have h2 : (2 : Nat) ^ n ≤ 2 ^ 160 := Nat.pow_le_pow_right (by decide) hn
  have h3 : b.natAbs * 2 ^ n < 2 ^ 160 * 2 ^ 160 := Nat.lt_of_le_of_lt (Nat.mul_le_mul_left _ h2) (Nat.mul_lt_mul_of_pos_right h1 (by decide))
  have h4 : ((b.natAbs * 2 ^ n : Nat) : Int) = b * 2 ^ n := by
    rw [Int.natCast_mul]
    have : ((b.natAbs : Nat) : Int) = b := by omega
    rw [this]
    simp
  have h5 : (2 : Nat) ^ 160 * 2 ^ 160 ≤ 2 ^ 400 := by decide
  omega
theorem rev_app {n : Nat} {Qs : List Int} {q v b t x : Int} (h : valD n Qs.reverse = v / b) (e : x / b = v / b * 2 ^ n + t / b) (hq : q = t / b) : valD n (Qs ++ [q]).reverse = x / b := by
  rw [List.reverse_append]
  show q + 2 ^ n * valD n Qs.reverse = _
  rw [h, e, hq, Int.mul_comm]
  omega
theorem tfacts {V r d b v : Int} {n : Nat} (hV : V = r * 2 ^ n) (hr : r = v % b) (hd0 : 0 ≤ d) (hd1 : d < 2 ^ n) (hb : 0 < b) (hbb : Builtin.Int.intBits b ≤ 160) (hn : n ≤ 160) :
   0 ≤ V + d ∧ Builtin.Int.intBits (V + d) ≤ 400 ∧ 0 ≤ (V + d) / b ∧ (V + d) / b < 2 ^ n := by
  have h0 : 0 ≤ r := by rw [hr]; exact Int.emod_nonneg _ (by omega)
  have h1 : r < b := by rw [hr]; exact Int.emod_lt_of_pos _ hb
  have h2 : 0 ≤ V := by rw [hV]; exact Int.mul_nonneg h0 (Int.le_of_lt (two_pow_pos n))
  have h3 : V + d < b * 2 ^ n := turn_lt h1 (by rw [hV]) hd1
  exact ⟨by omega, turn_bits (by omega) h3 hbb hb hn, turn_q hb (by omega) h3⟩
theorem vd_eq {V r d : Int} {n : Nat} (h : V = r * 2 ^ n) : V + d = r * 2 ^ n + d := by rw [h]
end Pg
end
-- PgLib
section
namespace Pg
section
variable {prog : Program} {w : World} {A : Around} {E : Value → Shared → Prop} {s : Shared} {h₀ : Heap} {L : Addr} {m : Str → Option Value} {news : List (Addr × Obj)} {Q : Value → Shared → Prop}
theorem mul_pg {l : Addr} {t u : Tok} {c : Nat} {x : Int}
    (F : Fr h₀ L s.heap m) (N : News h₀ L s.heap news) (hm : (l, W.listOf #[.int 0 t] c) ∈ news) (h0 : 0 ≤ x) (h1 : x ≤ 1000)
    (h : ∀ D h' vs, Fr h₀ L h' m → News h₀ L h' ((D, W.listOf (List.toArray vs) 0) :: news) → (∀ p ∈ news, p.1 < D) → IntsAre vs (List.replicate x.toNat 0) → Q (.ref D) { s with heap := h' }) :
    wpAny (model prog w) A (binaryOp .Mult (.ref l) (.int x u)) Q E s := by
  refine KM.mul (vs := [.int 0 t]) (ns := [0]) F N (News.isList N hm) (.cons 0 t .nil) (by omega) (by omega) (by simp; omega) (fun D h' F' N' l1 i1 _ _ _ _ _ => ?_)
  refine h D h' _ F' N' l1 ?_
  rw [krep_flat] at i1
  exact i1
theorem len_pg {D : Addr} {vs : List Value} {ns : List Int} {c : Nat} (N : News h₀ L s.heap news) (hm : (D, W.listOf (List.toArray vs) c) ∈ news) (hi : IntsAre vs ns) (hf : ns.length < 1000) (h : Q (.int (ns.length : Nat) (s.toks + 1)) { s with toks := s.toks + 1 + 1 }) :
    wpAny (model prog w) A (call (.builtin "len") [.ref D]) Q E s :=
  KM.len_K N hm (by rw [List.size_toArray]; exact hi.length) (by omega) h
theorem smul_pg {a b : Int} {t u : Tok} (ha : 0 ≤ a) (ha2 : a ≤ 200) (hb : 0 ≤ b) (hb2 : b ≤ 200) (h : ∀ r tk tk', r = a * b → 0 ≤ r → r ≤ 40000 → Q (.int r tk) { s with toks := tk' }) :
    wpAny (model prog w) A (binaryOp .Mult (.int a t) (.int b u)) Q E s :=
  PyProof.Rows.mul_int (h _ _ _ rfl (Int.mul_nonneg ha hb) (Int.le_trans (Int.mul_le_mul ha2 hb2 hb (by decide)) (by decide))) (IntMulOk.of_le (m := 64) (n := 64) (intBits_le_64 (by omega) (by omega)) (intBits_le_64 (by omega) (by omega)) (by decide))
theorem rsh1_pg {a : Int} {t u : Tok} (h : ∀ r tk tk', r = a / 2 → Q (.int r tk) { s with toks := tk' }) :
    wpAny (model prog w) A (binaryOp .RShift (.int a t) (.int 1 u)) Q E s :=
  PyProof.Rows.rshift_int (by decide) (h _ _ _ (Int.fdiv_eq_ediv_of_nonneg _ (by decide)))
theorem bits_abs {x y : Int} {m : Nat} (h : intBits y ≤ m) (h0 : 0 ≤ x) (h1 : x ≤ y) : intBits x ≤ m := intBits_le_of_natAbs (by omega) h
theorem rsh_pg {a n : Int} {t u : Tok} {b : Nat} (hn : 0 ≤ n) (h0 : 0 ≤ a) (hb : Builtin.Int.intBits a ≤ b) (h : ∀ r tk tk', r = a / 2 ^ n.toNat → 0 ≤ r → Builtin.Int.intBits r ≤ b → Q (.int r tk) { s with toks := tk' }) :
    wpAny (model prog w) A (binaryOp .RShift (.int a t) (.int n u)) Q E s := by
  have hp := two_pow_pos n.toNat
  have e : a.fdiv (2 ^ n.toNat) = a / 2 ^ n.toNat := Int.fdiv_eq_ediv_of_nonneg _ (Int.le_of_lt hp)
  have hr : 0 ≤ a / 2 ^ n.toNat := Int.ediv_nonneg h0 (Int.le_of_lt hp)
  exact PyProof.Rows.rshift_int hn (h _ _ _ e (by rw [e]; exact hr) (by rw [e]; exact bits_abs hb hr (Int.ediv_le_self _ h0)))
theorem lsh_pg {a n : Int} {t u : Tok} {b : Nat} (hn : 0 ≤ n) (hn2 : n ≤ 100000) (hb : Builtin.Int.intBits a ≤ b) (hb2 : b ≤ 100000) (h : ∀ r tk tk', r = a * 2 ^ n.toNat → Q (.int r tk) { s with toks := tk' }) :
    wpAny (model prog w) A (binaryOp .LShift (.int a t) (.int n u)) Q E s :=
  PyProof.Rows.lshift_int hn (by omega) (h _ _ _ rfl)
theorem xor_pg {x U S r : Int} {t u : Tok} {b : Nat} (h0 : 0 ≤ x) (hU : U = x / 2 ^ S.toNat) (hr : r = U * 2 ^ S.toNat) (hb : Builtin.Int.intBits x ≤ b)
    (h : ∀ r tk tk', r = x % 2 ^ S.toNat → 0 ≤ r → Builtin.Int.intBits r ≤ b → Q (.int r tk) { s with toks := tk' }) :
    wpAny (model prog w) A (binaryOp .BitXor (.int x t) (.int r u)) Q E s := by
  have hp := two_pow_pos S.toNat
  have e : Builtin.bitXor x r = x % 2 ^ S.toNat := by rw [hr, hU]; exact xor_high _ h0
  have hm : 0 ≤ x % 2 ^ S.toNat := Int.emod_nonneg _ (Int.ne_of_gt hp)
  have hl : x % 2 ^ S.toNat ≤ x := by
    have := Int.mul_ediv_add_emod x (2 ^ S.toNat)
    have := Int.mul_nonneg (Int.le_of_lt hp) (Int.ediv_nonneg h0 (Int.le_of_lt hp))
    omega
  exact PyProof.Rows.xor_int (h _ _ _ e (by rw [e]; exact hm) (by rw [e]; exact bits_abs hb hm hl))
end
theorem nd_bounds {b : Nat} {n : Int} (hn : 0 < n) (hb : b ≤ 160) : 0 ≤ ((b : Int) + n - 1).fdiv n ∧ ((b : Int) + n - 1).fdiv n ≤ 160 := by
  rw [Int.fdiv_eq_ediv_of_nonneg _ (by omega)]
  refine ⟨Int.ediv_nonneg (by omega) (by omega), ?_⟩
  refine Int.ediv_le_of_le_mul hn ?_
  omega
theorem updF_ne {d : Addr} {o : Obj} {l : List (Addr × Obj)} {g : Obj → List (Addr × Obj)} (U : UpdF d o l g) {a : Addr} {o1 : Obj} (hm : (a, o1) ∈ l) (hne : o1 ≠ o) : a ≠ d := by
  obtain ⟨pre, post, rfl, _, h1, h2⟩ := U.split
  rcases List.mem_append.mp hm with h | h
  · exact h1 _ h
  · rcases List.mem_cons.mp h with h | h
    · cases h; exact absurd rfl hne
    · exact h2 _ h
/-- what a call of _int2digits' inner function does -/
def InnerI (w : World) (n : Int) (f : Addr) (fo : Obj) (c' : Addr) (oc : Obj) (cA : Addr) (oA : Obj) (cI : Addr) (oI : Obj) (cN : Addr) (oN : Obj) (D : Addr) (k : Nat) : Prop :=
  ∀ (loose : List Str) (mean : ExcName → Option Value) (mg mb : Str → Option Value)
   (dp un : Nat) (gd : Option (List Code)) (cn : Str) (cs : Scope) (ad : Addr) (ccd : Value) (cl : List (Str × Addr)) (outer : List Env) (A₀ : Around) (base h₀ : Heap) (Lf : Addr) (m : Str → Option Value) (s : Shared) (Q E : Value → Shared → Prop)
   (news : List (Addr × Obj)) (g : Obj → List (Addr × Obj)) (vs : List Value) (ns : List Int) (c : Nat) (x L R : Int) (tx tL tR : Tok),
   Below A₀ base outer h₀ → Fr h₀ Lf s.heap m → (hd.heap_39 w.params).In h₀ → News h₀ Lf s.heap news → Top topProg loose mean mg mb h₀ → cs.kind = .function →
   (f, fo) ∈ news → (c', oc) ∈ news → (cA, oA) ∈ news → (cI, oI) ∈ news → (cN, oN) ∈ news → UpdF D (W.listOf (List.toArray vs) c) news g →
   IntsAre vs ns → ns.length ≤ 160 → 0 ≤ L → L < R → R ≤ ns.length → 0 ≤ x → x < 2 ^ (n.toNat * (R - L).toNat) → Builtin.Int.intBits x ≤ 160 → (R - L).toNat = k →
   dp + k + 1 < recursionLimit → un + 8 * (k + 1) < cLine →
   (∀ (h' : Heap) (tk' : Nat) (vs' : List Value), Fr h₀ Lf h' m → News h₀ Lf h' (g (W.listOf (List.toArray vs') c)) → IntsAre vs' (put ns L.toNat (digs n.toNat (R - L).toNat x)) → Q .none { s with heap := h', toks := tk' }) →
   wpAny (model PySem.Challenge.rw_pg0322_01.row.prog w) (ktrTop dp un gd cn cs Lf ad ccd cl outer) (call (.ref f) [.int x tx, .int L tL, .int R tR]) Q E s
theorem use_inner {w : World} {n : Int} {f : Addr} {fo : Obj} {c' : Addr} {oc : Obj} {cA : Addr} {oA : Obj} {cI : Addr} {oI : Obj} {cN : Addr} {oN : Obj} {D : Addr} {k : Nat}
   {loose : List Str} {mean : ExcName → Option Value} {mg mb : Str → Option Value}
   {dp un : Nat} {gd : Option (List Code)} {cn : Str} {cs : Scope} {ad : Addr} {ccd : Value} {cl : List (Str × Addr)} {outer : List Env} {A₀ : Around} {base h₀ : Heap} {Lf : Addr} {m : Str → Option Value} {s : Shared} {Q E : Value → Shared → Prop}
   {news : List (Addr × Obj)} {g : Obj → List (Addr × Obj)} {vs : List Value} {ns : List Int} {c : Nat} {x L R : Int} {tx tL tR : Tok}
   (claim : ∀ j, j < k → InnerI w n f fo c' oc cA oA cI oI cN oN D j)
   (B : Below A₀ base outer h₀) (F : Fr h₀ Lf s.heap m) (X : (hd.heap_39 w.params).In h₀) (N : News h₀ Lf s.heap news) (T : Top topProg loose mean mg mb h₀) (hk : cs.kind = .function)
   (m1 : (f, fo) ∈ news) (m2 : (c', oc) ∈ news) (m3 : (cA, oA) ∈ news) (m4 : (cI, oI) ∈ news) (m5 : (cN, oN) ∈ news) (_mD : (D, W.listOf (List.toArray vs) c) ∈ news) (U : UpdF D (W.listOf (List.toArray vs) c) news g)
   (hi : IntsAre vs ns) (hlen : ns.length ≤ 160) (hL : 0 ≤ L) (hLR : L < R) (hR : R ≤ ns.length) (hx : 0 ≤ x) (hx2 : x < 2 ^ (n.toNat * (R - L).toNat)) (hxb : Builtin.Int.intBits x ≤ 160)
   (hlt : (R - L).toNat < k) (hd : dp + (R - L).toNat + 1 < recursionLimit) (hu : un + 8 * ((R - L).toNat + 1) < cLine)
   (h : ∀ (h' : Heap) (tk' : Nat) (vs' : List Value) (ns' : List Int), Fr h₀ Lf h' m → News h₀ Lf h' (g (W.listOf (List.toArray vs') c)) → IntsAre vs' ns' → ns' = put ns L.toNat (digs n.toNat (R - L).toNat x) → ns'.length = ns.length → Q .none { s with heap := h', toks := tk' }) :
   wpAny (model PySem.Challenge.rw_pg0322_01.row.prog w) (ktrTop dp un gd cn cs Lf ad ccd cl outer) (call (.ref f) [.int x tx, .int L tL, .int R tR]) Q E s :=
  claim _ hlt _ _ _ _ _ _ _ _ _ _ _ _ _ _ _ _ _ _ _ _ _ _ _ _ _ _ _ _ _ _ _ _ B F X N T hk m1 m2 m3 m4 m5 U hi hlen hL hLR hR hx hx2 hxb rfl hd hu (fun h' tk' vs' F' N' hi' => h h' tk' vs' _ F' N' hi' rfl (put_len (by rw [digs_len]; omega)))
theorem pg_tail {news : List (Addr × Obj)} {L d : Nat} (h : ∀ p ∈ news, p.1 < L) (hd : L ≤ d) : ∀ p ∈ news, p.1 ≠ d := fun p hp => Nat.ne_of_lt (Nat.lt_of_lt_of_le (h p hp) hd)
theorem lt_two_pow_bits {a : Int} (ha : 0 ≤ a) {n : Int} (hn : 0 < n) {b : Nat} (hb : Builtin.Int.intBits a = b) : a < 2 ^ (n.toNat * (((b : Int) + n - 1).fdiv n).toNat) := by
  have h1 := intBits_le_iff.mp (Nat.le_of_eq hb)
  have e : ((b : Int) + n - 1).fdiv n = (b + n - 1) / n := Int.fdiv_eq_ediv_of_nonneg _ (by omega)
  have h2 : b ≤ n.toNat * (((b : Int) + n - 1).fdiv n).toNat := by
    rw [e]
    have q1 := Int.mul_ediv_add_emod ((b : Int) + n - 1) n
    have q2 := Int.emod_lt_of_pos ((b : Int) + n - 1) hn
    have q3 : 0 ≤ ((b : Int) + n - 1) / n := Int.ediv_nonneg (by omega) (by omega)
    have q4 : ((n.toNat * (((b : Int) + n - 1) / n).toNat : Nat) : Int) = n * (((b : Int) + n - 1) / n) := by
      rw [Int.natCast_mul, Int.toNat_of_nonneg (by omega), Int.toNat_of_nonneg q3]
    omega
  have h3 : 2 ^ b ≤ 2 ^ (n.toNat * (((b : Int) + n - 1).fdiv n).toNat) := Nat.pow_le_pow_right (by decide) h2
  have h4 : ((2 ^ (n.toNat * (((b : Int) + n - 1).fdiv n).toNat) : Nat) : Int) = 2 ^ (n.toNat * (((b : Int) + n - 1).fdiv n).toNat) := by simp
  omega
theorem inner_shape {h₀ h : Heap} {Lf D : Addr} {o : Obj} {news : List (Addr × Obj)} {g : Obj → List (Addr × Obj)} {p1 p2 p3 p4 p5 : Addr × Obj} (N : News h₀ Lf h news) (U : UpdF D o news g)
   (m1 : p1 ∈ news) (m2 : p2 ∈ news) (m3 : p3 ∈ news) (m4 : p4 ∈ news) (m5 : p5 ∈ news) :
   ∃ rest, News h₀ Lf h ((D, o) :: p1 :: p2 :: p3 :: p4 :: p5 :: rest) ∧ (∀ p ∈ rest, p.1 ≠ D) ∧ (∀ o', ∀ p ∈ g o', p = (D, o') ∨ p ∈ rest) := by
  obtain ⟨pre, post, rfl, hg, h1, h2⟩ := U.split
  refine ⟨pre ++ post, fun p hp => ?_, fun p hp => ?_, fun o' p hp => ?_⟩
  · apply N
    simp only [List.mem_cons, List.mem_append] at hp ⊢
    rcases hp with rfl | rfl | rfl | rfl | rfl | rfl | hp | hp
    · exact .inr (.inl rfl)
    · simpa using m1
    · simpa using m2
    · simpa using m3
    · simpa using m4
    · simpa using m5
    · exact .inl hp
    · exact .inr (.inr hp)
  · rcases List.mem_append.mp hp with h | h
    · exact h1 p h
    · exact h2 p h
  · rw [hg] at hp
    simp only [List.mem_cons, List.mem_append] at hp ⊢
    rcases hp with h | h | h
    · exact .inr (.inl h)
    · exact .inl h
    · exact .inr (.inr h)
theorem inner_back {h₀ h : Heap} {Lf D : Addr} {o : Obj} {g : Obj → List (Addr × Obj)} {p1 p2 p3 p4 p5 : Addr × Obj} {rest : List (Addr × Obj)}
   (N : News h₀ Lf h ((D, o) :: p1 :: p2 :: p3 :: p4 :: p5 :: rest)) (hg : ∀ o', ∀ p ∈ g o', p = (D, o') ∨ p ∈ rest) : News h₀ Lf h (g o) := fun p hp => by
  rcases hg o p hp with rfl | h
  · exact N _ (.head _)
  · exact N _ (.tail _ (.tail _ (.tail _ (.tail _ (.tail _ (.tail _ h))))))
theorem cell_ne {o : Obj} {v : Option Value} {vs : Array Value} {c : Nat} (h : o.data = .cell v) : o ≠ W.listOf vs c := fun e => by rw [e] at h; cases h
theorem code_ne {o : Obj} {v : Array Value} {vs : Array Value} {c : Nat} (h : o.data = .fields v) : o ≠ W.listOf vs c := fun e => by rw [e] at h; cases h
theorem nd_pos {a n : Int} (hn : 0 < n) (ha : 0 < a) : (0 : Int) < ((((intBits a : Int) + n - 1).fdiv n).toNat : Int) := by
  have hb : intBits a ≠ 0 := by
    intro h
    have := intBits_le_iff.mp (Nat.le_of_eq h)
    omega
  rw [Int.fdiv_eq_ediv_of_nonneg _ (by omega)]
  have : 1 ≤ ((intBits a : Int) + n - 1) / n := (Int.le_ediv_iff_mul_le hn).mpr (by omega)
  omega
theorem nd_lt {a n : Int} (ha : 0 < a) (hn : 0 < n) : a < 2 ^ (n.toNat * (((((intBits a : Int) + n - 1).fdiv n).toNat : Int) - 0).toNat) := by
  rw [Int.sub_zero, Int.toNat_natCast]
  exact lt_two_pow_bits (Int.le_of_lt ha) hn rfl
theorem nd_lt2 {a n : Int} (ha : 0 < a) (hn : 0 < n) : a < 2 ^ (n.toNat * (((intBits a : Int) + n - 1).fdiv n).toNat) := lt_two_pow_bits (Int.le_of_lt ha) hn rfl
/-- a table of a def's code: empty, or with the one code object made from it -/
def TabOk (ps : Array Value) (line col : Int) (qual : Str) (news : List (Addr × Obj)) : Prop :=
  ps = #[] ∨ ∃ c' oc vs t, ps = #[rawInt line, rawInt col, .ref c'] ∧ (c', oc) ∈ news ∧ oc.data = .fields vs ∧ vs[1]? = some (.str qual t)
theorem TabOk.mono {ps : Array Value} {line col : Int} {qual : Str} {news news' : List (Addr × Obj)} (h : TabOk ps line col qual news) (hs : ∀ p ∈ news, p ∈ news') : TabOk ps line col qual news' := by
  rcases h with h | ⟨c', oc, vs, t, e, hm, hd, hv⟩
  · exact .inl h
  · exact .inr ⟨c', oc, vs, t, e, hs _ hm, hd, hv⟩
theorem nest_either {M : Model} {A : Around} {E : Value → Shared → Prop} {s : Shared} {h₀ : Heap} {L a c P : Addr} {m mg mb : Str → Option Value} {cn : Str} {cs : Scope} {ccd : Value} {cl : List (Str × Addr)} {news news0 : List (Addr × Obj)} {g : Obj → List (Addr × Obj)}
  {p : Program} {loose : List Str} {mean : ExcName → Option Value} {name qual : Str} {params : Arguments} {body : List Stmt} {scope : Scope} {ps : Array Value} {pos : Pos} {firstLine : Nat} {clos : List (Str × Addr)} {Q : Value → Shared → Prop}
  (F : Fr h₀ L s.heap m) (N : News h₀ L s.heap news) (T : Top p loose mean mg mb h₀) (C : CodeHd h₀ c P) (hcd : ccd = .ref c) (U : UpdF P (tabObj ps) news g)
  (hps : TabOk ps pos.line pos.col qual news0) (hsub : ∀ p ∈ news0, p ∈ news) (hlt : ∀ p ∈ news0, p.1 < L) (hcl : closureFor scope (envX cn cs L a ccd cl) = pure clos)
  (h : ∀ f c' oc vs t ctv doc h' tk, Fr h₀ L h' m →
      News h₀ L h' ((f, fnMade name qual params body scope clos doc ((mg "__name__").getD .none) c' ctv) :: (c', oc) :: g (tabObj #[rawInt pos.line, rawInt pos.col, .ref c'])) →
      oc.data = .fields vs → vs[1]? = some (.str qual t) → (c' < L ∨ ∀ q ∈ news, q.1 < c') → (∀ q ∈ news, q.1 < f) → c' < f → Q (.ref f) { s with heap := h', toks := tk }) :
  wpAny M A (makeFunction name qual params (.stmts body) scope (envX cn cs L a ccd cl) [] [] [] pos firstLine) Q E s := by
  rcases hps with rfl | ⟨c', oc, vs, t, rfl, hm, hd, hv⟩
  · exact nest_K F N T C hcd U True.intro rfl hcl fun f c' oc vs t ctv doc h' tk F' N' d1 d2 l1 l2 =>
      h f c' oc vs t ctv doc h' tk F' N' d1 d2 (.inr l1) (fun q hq => Nat.lt_trans (l1 q hq) l2) l2
  · obtain ⟨pre, post, e1, e2, _, _⟩ := U.split
    have hP : (P, tabObj #[rawInt pos.line, rawInt pos.col, .ref c']) ∈ news := by rw [e1]; exact List.mem_append_right _ (.head _)
    refine nestHit_K (c' := c') F N T C hcd hP (by simp [TriplesOk, rawInt]) (by simp [codeAmong, rawInt]) hcl fun f ctv doc h' tk F' N' l1 => ?_
    refine h f c' oc vs t ctv doc h' tk F' (fun q hq => ?_) hd hv (.inl (hlt _ hm)) l1 (l1 _ (hsub _ hm))
    rw [e2, ← e1] at hq
    rcases List.mem_cons.mp hq with rfl | hq
    · exact N' _ (.head _)
    · rcases List.mem_cons.mp hq with rfl | hq
      · exact N' _ (.tail _ (hsub _ hm))
      · exact N' _ (.tail _ hq)
theorem all_eq {ns' : List Int} {k n : Nat} {a : Int} (h : ns' = put (List.replicate k 0) (Int.toNat 0) (digs n ((k : Int) - 0).toNat a)) : ns' = digs n k a := by
  rw [h, Int.sub_zero, Int.toNat_natCast, Int.toNat_zero]
  exact put_all (by rw [digs_len, List.length_replicate])
theorem lt_tail {news : List (Addr × Obj)} {L d : Nat} (h : ∀ p ∈ news, p.1 < L) (hd : L ≤ d) : ∀ p ∈ news, p.1 < d := fun p hp => Nat.lt_of_lt_of_le (h p hp) hd
theorem code_ne_tab {h₀ h : Heap} {L P c' : Addr} {news : List (Addr × Obj)} {oc : Obj} {vs : Array Value} {q : Str} {t : Tok} {l k : Int} {v : Value} (N : News h₀ L h news) (hP : (P, tabObj #[rawInt l, rawInt k, v]) ∈ news) (hc : (c', oc) ∈ news)
   (hd : oc.data = .fields vs) (hv : vs[1]? = some (.str q t)) : c' ≠ P := fun e => by
  subst e
  have e1 := (N _ hP).1
  rw [(N _ hc).1] at e1
  cases e1
  cases hd
  simp [rawInt] at hv
section
variable {prog : Program} {w : World} {A : Around} {E : Value → Shared → Prop} {s : Shared} {h₀ : Heap} {L : Addr} {m : Str → Option Value} {news : List (Addr × Obj)}
theorem truthy_pg {Q : Bool → Shared → Prop} {D : Addr} {vs : List Value} {ns : List Int} {c : Nat} (N : News h₀ L s.heap news) (hm : (D, W.listOf (List.toArray vs) c) ∈ news) (hi : IntsAre vs ns) (h0 : 0 < ns.length) (hf : ns.length < 1000)
    (h : ∀ tk', Q true { s with toks := tk' }) : wpAny (model prog w) A (truthy (.ref D)) Q E s := by
  have hl := hi.length
  refine wpAny_truthy_list (News.isList N hm) (by rw [List.size_toArray]; omega) ?_
  have e : (!(List.toArray vs).isEmpty) = true := by
    cases vs with
    | nil => simp at hl; omega
    | cons _ _ => rfl
  rw [e]
  exact h _
end
theorem use_told {w : World} {dep uni : Nat} {f : Addr} {vs : List Value} {news : List (Addr × Obj)} {R : (Value → List (Addr × Obj) → Prop) → Prop}
   {loose : List Str} {mean : ExcName → Option Value} {mg mb : Str → Option Value}
   {dp un : Nat} {gd : Option (List Code)} {cn : Str} {cs : Scope} {ad : Addr} {ccd : Value} {cl : List (Str × Addr)} {outer : List Env} {A₀ : Around} {base h₀ : Heap} {L : Addr} {m : Str → Option Value} {s : Shared} {Q E : Value → Shared → Prop}
   (C : Told1 w dep uni f vs news R) (B : Below A₀ base outer h₀) (F : Fr h₀ L s.heap m) (X : (hd.heap_39 w.params).In h₀) (N : News h₀ L s.heap news) (T : Top topProg loose mean mg mb h₀) (hk : cs.kind = .function)
   (hd : dp + dep < recursionLimit) (hu : un + uni < cLine) (C1 : CodeHd base 87 83) (C2 : CodeHd base 80 76) (C3 : CodeHd base 52 48)
   (h : R (fun v news' => ∀ (h' : Heap) (tk' : Nat), Fr h₀ L h' m → News h₀ L h' news' → Q v { s with heap := h', toks := tk' })) :
   wpAny (model PySem.Challenge.rw_pg0322_01.row.prog w) (ktrTop dp un gd cn cs L ad ccd cl outer) (call (.ref f) vs) Q E s := C _ _ _ _ _ _ _ _ _ _ _ _ _ _ _ _ _ _ _ _ _ B F X N T hk hd hu C1 C2 C3 h
section
variable {prog : Program} {w : World} {A : Around} {E : Value → Shared → Prop} {s : Shared} {env : Env} {h₀ : Heap} {x : Str} {body : List Stmt} {Q : Flow → Shared → Prop} {I : Addr} {lp : Addr × Obj}
theorem unrPost_mono {L : Addr} {s₁ s₂ : Shared} {it : Obj} {R R' : (Str → Option Value) → List (Addr × Obj) → Prop} {f : Flow} (h : UnrPost h₀ L s₁ I it R Q f s₂) (hR : ∀ m n, R m n → R' m n) : UnrPost h₀ L s₁ I it R' Q f s₂ := by
  have key : UnrEnd h₀ L s₁ I it R s₂ → UnrEnd h₀ L s₁ I it R' s₂ := fun ⟨h', tk, m', news', e, F, N, off, r⟩ => ⟨h', tk, m', news', e, F, N, off, hR _ _ r⟩
  cases f with
  | ret v => exact h
  | brk => exact h
  | next => exact key h
  | cont => exact key h
theorem revRest_ind (Inv : List Value → (Str → Option Value) → List (Addr × Obj) → Prop)
   (step : ∀ v r m news, Inv (v :: r) m news → ∀ (it : Obj) h tk, it.cls = .type "list_reverseiterator" → Fr h₀ env.locals h (fun y => if y = x then some v else m y) → News h₀ env.locals h ((I, it) :: news) →
      wpAny (model prog w) A (execs body env) (UnrPost h₀ env.locals { s with heap := h, toks := tk } I it (fun m' n' => lp ∈ n' ∧ Inv r m' n') Q) E { s with heap := h, toks := tk })
   (done : ∀ m news, Inv [] m news → ∀ h tk, Fr h₀ env.locals h m → News h₀ env.locals h news → Q .next { s with heap := h, toks := tk }) :
   ∀ vs m news, Inv vs m news → RevRest prog w A E h₀ env x body Q s I lp vs m news
  | [], m, news, hi => done m news hi
  | v :: r, m, news, hi => fun it h tk hc F N =>
    wpAny_mono (step v r m news hi it h tk hc F N) (fun _ _ p => unrPost_mono p fun m' n' q => ⟨q.1, revRest_ind Inv step done r m' n' q.2⟩) fun _ _ e => e
end
theorem offI_of {ro : Obj} : ∀ {l : List (Addr × Obj)}, (∀ p ∈ l, p.1 < I) → OffI I ro l
  | [], _ => trivial
  | _ :: _, h => ⟨.inl (Nat.ne_of_lt (h _ (.head _))), offI_of fun q hq => h q (.tail _ hq)⟩
def mapD (u1 u2 : Option Value) (r : Int) (tr : Tok) (m₀ : Str → Option Value) : Str → Option Value :=
  fun y => if y = Str.ofString "q_digit" then u1 else if y = Str.ofString "a_digit" then u2 else if y = Str.ofString "r" then some (.int r tr) else m₀ y
theorem mapD_self {m₀ : Str → Option Value} {r : Int} {tr : Tok} (h : m₀ (Str.ofString "r") = some (.int r tr)) : m₀ = mapD (m₀ (Str.ofString "q_digit")) (m₀ (Str.ofString "a_digit")) r tr m₀ := by
  funext y
  unfold mapD
  by_cases h1 : y = Str.ofString "q_digit"
  · rw [if_pos h1, h1]
  · rw [if_neg h1]
    by_cases h2 : y = Str.ofString "a_digit"
    · rw [if_pos h2, h2]
    · rw [if_neg h2]
      by_cases h3 : y = Str.ofString "r"
      · rw [if_pos h3, h3, h]
      · rw [if_neg h3]
theorem mapD_step {u1 u2 : Option Value} {r r' : Int} {tr tr' : Tok} {m₀ : Str → Option Value} {b c : Option Value} :
   (fun y => if y = Str.ofString "r" then some (.int r' tr') else if y = Str.ofString "q_digit" then b else if y = Str.ofString "a_digit" then c else mapD u1 u2 r tr m₀ y) = mapD b c r' tr' m₀ := by
  funext y
  unfold mapD
  have n1 : (Str.ofString "r" : Str) ≠ Str.ofString "q_digit" := by decide
  have n2 : (Str.ofString "r" : Str) ≠ Str.ofString "a_digit" := by decide
  by_cases h1 : y = Str.ofString "q_digit"
  · rw [if_neg (by rw [h1]; exact n1.symm), if_pos h1, if_pos h1]
  · by_cases h2 : y = Str.ofString "a_digit"
    · rw [if_neg (by rw [h2]; exact n2.symm), if_neg h1, if_pos h2, if_neg h1, if_pos h2]
    · by_cases h3 : y = Str.ofString "r"
      · rw [if_pos h3, if_neg h1, if_neg h2, if_pos h3]
      · rw [if_neg h3, if_neg h1, if_neg h2, if_neg h1, if_neg h2, if_neg h3, if_neg h1, if_neg h2, if_neg h3]
/-- what stands between the turns of _divmod_pos' loop -/
def DivInv (n : Nat) (b a : Int) (k : Nat) (m₀ : Str → Option Value) (Dq : Addr) (newsR : List (Addr × Obj)) (vs : List Value) (m : Str → Option Value) (news : List (Addr × Obj)) : Prop :=
  ∃ (ws : List Int) (v r : Int) (Qs : List Int) (vq : List Value) (c : Nat) (tr : Tok) (u1 u2 : Option Value),
    IntsAre vs ws ∧ (∀ d ∈ ws, 0 ≤ d ∧ d < 2 ^ n) ∧ r = v % b ∧ valD n Qs.reverse = v / b ∧ (∀ q ∈ Qs, 0 ≤ q ∧ q < 2 ^ n) ∧ IntsAre vq Qs ∧ Qs.length + ws.length = k ∧ hor n v ws = a ∧ m = mapD u1 u2 r tr m₀ ∧ news = (Dq, W.listOf (List.toArray vq) c) :: newsR
theorem ints_rev : ∀ {vs : List Value} {ns : List Int}, IntsAre vs ns → IntsAre vs.reverse ns.reverse
  | _, _, .nil => .nil
  | _, _, .cons i t h => by
    rw [List.reverse_cons, List.reverse_cons]
    exact IntsAre.append (ints_rev h) (.cons i t .nil)
theorem DivInv.start {n : Nat} {b a : Int} {k : Nat} {m₀ : Str → Option Value} {Dq : Addr} {newsR : List (Addr × Obj)} {vs : List Value} {tr : Tok} (ha : 0 ≤ a) (_hb : 0 < b) (ha2 : a < 2 ^ (n * k)) (hi : IntsAre vs (digs n k a)) (hr : m₀ (Str.ofString "r") = some (.int 0 tr)) :
   DivInv n b a k m₀ Dq newsR vs.reverse m₀ ((Dq, W.listOf #[] 0) :: newsR) := by
  refine ⟨(digs n k a).reverse, 0, 0, [], [], 0, tr, _, _, ints_rev hi, fun d hd => digs_mem k a (List.mem_reverse.mp hd), ?_, ?_, fun _ h => (nomatch h), .nil, ?_, ?_, mapD_self hr, rfl⟩
  · simp
  · simp [valD]
  · rw [List.length_reverse, digs_len]; simp
  · rw [hor_rev, valD_digs n k a ha ha2]
section
variable {prog : Program} {w : World} {A : Around} {E : Value → Shared → Prop} {s : Shared} {h₀ : Heap} {L D : Addr} {m : Str → Option Value} {news news' : List (Addr × Obj)} {vs : List Value} {ns : List Int} {c : Nat}
theorem app_pg {q : Int} {t : Tok} {Q : Value → Shared → Prop} (F : Fr h₀ L s.heap m) (N : News h₀ L s.heap news) (hi : IntsAre vs ns) (hlen : ns.length ≤ 1000) (U : Upd D (W.listOf (List.toArray vs) c) (W.listOf (List.toArray (vs ++ [.int q t])) (c + 1)) news news')
    (h : ∀ h' vs', Fr h₀ L h' m → vs' = vs ++ [.int q t] → IntsAre (vs ++ [.int q t]) (ns ++ [q]) → News h₀ L h' news' → Q .none { s with heap := h' }) : wpAny (model prog w) A (call (.builtin "list.append") [.ref D, .int q t]) Q E s := by
  have e : (List.toArray vs).push (.int q t) = List.toArray (vs ++ [.int q t]) := by simp
  have hl := hi.length
  refine append_K F N (by rw [e]; exact U) (fun h' F' N' => h h' _ F' rfl (IntsAre.append hi (.cons q t .nil)) N') ?_
  rw [sizeLine_eq]
  simp
  omega
end
section
variable {prog : Program} {w : World} {A : Around} {E : Value → Shared → Prop} {s : Shared} {h₀ h : Heap} {L D : Addr} {m : Str → Option Value} {news news' : List (Addr × Obj)} {vs : List Value} {ns : List Int} {c : Nat}
theorem rev_pg {Q : Value → Shared → Prop} (F : Fr h₀ L s.heap m) (N : News h₀ L s.heap news) (hi : IntsAre vs ns) (hlen : ns.length ≤ 1000) (U : Upd D (W.listOf (List.toArray vs) c) (W.listOf (List.toArray vs.reverse) c) news news')
    (h : ∀ h', Fr h₀ L h' m → IntsAre vs.reverse ns.reverse → News h₀ L h' news' → Q .none { s with heap := h' }) : wpAny (model prog w) A (call (.builtin "list.reverse") [.ref D]) Q E s := by
  have hl := hi.length
  refine kl_reverse F N (by simp) U ?_ (fun h' F' N' => h h' F' (ints_rev hi) N')
  rw [sizeLine_eq]
  simp
  omega
theorem rot4 {p1 p2 p3 p4 p5 : Addr × Obj} {r : List (Addr × Obj)} (N : News h₀ L h (p1 :: p2 :: p3 :: p4 :: p5 :: r)) : News h₀ L h (p5 :: p1 :: p2 :: p3 :: p4 :: r) := fun p hp => N p (by
  simp only [List.mem_cons] at hp ⊢
  rcases hp with h | h | h | h | h | h <;> simp only [h, true_or, or_true])
theorem code_ne_tab2 {P c' : Addr} {oc : Obj} {vs ps : Array Value} {q q2 : Str} {t : Tok} {l k : Int} (N : News h₀ L h news) (hP : (P, tabObj ps) ∈ news) (hc : (c', oc) ∈ news) (hps : TabOk ps l k q2 news')
   (hd : oc.data = .fields vs) (hv : vs[1]? = some (.str q t)) : c' ≠ P := fun e => by
  subst e
  have e1 := (N _ hP).1
  rw [(N _ hc).1] at e1
  cases e1
  cases hd
  rcases hps with rfl | ⟨_, _, _, _, rfl, _⟩
  · simp at hv
  · simp [rawInt] at hv
end
/-- as Told1, where the call may draw an order -/
abbrev Told2 (w : World) (dep uni : Nat) (f : Addr) (vs : List Value) (news : List (Addr × Obj)) (R : (Value → List (Addr × Obj) → Prop) → Prop) : Prop :=
   ∀ (loose : List Str) (mean : ExcName → Option Value) (mg mb : Str → Option Value)
   (dp un : Nat) (gd : Option (List Code)) (cn : Str) (cs : Scope) (ad : Addr) (ccd : Value) (cl : List (Str × Addr)) (outer : List Env) (A₀ : Around) (base h₀ : Heap) (L : Addr) (m : Str → Option Value) (s : Shared) (Q E : Value → Shared → Prop),
   Below A₀ base outer h₀ → Fr h₀ L s.heap m → (hd.heap_39 w.params).In h₀ → News h₀ L s.heap news → Top topProg loose mean mg mb h₀ → cs.kind = .function →
   dp + dep < recursionLimit → un + uni < cLine → CodeHd base 87 83 → CodeHd base 80 76 → CodeHd base 52 48 →
   R (fun v news' => ∀ (h' : Heap) (tk' : Nat) (dr' : Drawn), Fr h₀ L h' m → News h₀ L h' news' → Q v { s with heap := h', toks := tk', drawn := dr' }) →
   wpAny (model PySem.Challenge.rw_pg0322_01.row.prog w) (ktrTop dp un gd cn cs L ad ccd cl outer) (call (.ref f) vs) Q E s
theorem use_told2 {w : World} {dep uni : Nat} {f : Addr} {vs : List Value} {news : List (Addr × Obj)} {R : (Value → List (Addr × Obj) → Prop) → Prop}
   {loose : List Str} {mean : ExcName → Option Value} {mg mb : Str → Option Value}
   {dp un : Nat} {gd : Option (List Code)} {cn : Str} {cs : Scope} {ad : Addr} {ccd : Value} {cl : List (Str × Addr)} {outer : List Env} {A₀ : Around} {base h₀ : Heap} {L : Addr} {m : Str → Option Value} {s : Shared} {Q E : Value → Shared → Prop}
   (C : Told2 w dep uni f vs news R) (B : Below A₀ base outer h₀) (F : Fr h₀ L s.heap m) (X : (hd.heap_39 w.params).In h₀) (N : News h₀ L s.heap news) (T : Top topProg loose mean mg mb h₀) (hk : cs.kind = .function)
   (hd : dp + dep < recursionLimit) (hu : un + uni < cLine) (C1 : CodeHd base 87 83) (C2 : CodeHd base 80 76) (C3 : CodeHd base 52 48)
   (h : R (fun v news' => ∀ (h' : Heap) (tk' : Nat) (dr' : Drawn), Fr h₀ L h' m → News h₀ L h' news' → Q v { s with heap := h', toks := tk', drawn := dr' })) :
   wpAny (model PySem.Challenge.rw_pg0322_01.row.prog w) (ktrTop dp un gd cn cs L ad ccd cl outer) (call (.ref f) vs) Q E s := C _ _ _ _ _ _ _ _ _ _ _ _ _ _ _ _ _ _ _ _ _ B F X N T hk hd hu C1 C2 C3 h
/-- as Told1, with keywords -/
abbrev Told3 (w : World) (dep uni : Nat) (f : Addr) (vs : List Value) (kw : List (Str × Value)) (news : List (Addr × Obj)) (R : (Value → List (Addr × Obj) → Prop) → Prop) : Prop :=
   ∀ (loose : List Str) (mean : ExcName → Option Value) (mg mb : Str → Option Value)
   (dp un : Nat) (gd : Option (List Code)) (cn : Str) (cs : Scope) (ad : Addr) (ccd : Value) (cl : List (Str × Addr)) (outer : List Env) (A₀ : Around) (base h₀ : Heap) (L : Addr) (m : Str → Option Value) (s : Shared) (Q E : Value → Shared → Prop),
   Below A₀ base outer h₀ → Fr h₀ L s.heap m → (hd.heap_39 w.params).In h₀ → News h₀ L s.heap news → Top topProg loose mean mg mb h₀ → cs.kind = .function →
   dp + dep < recursionLimit → un + uni < cLine →
   R (fun v news' => ∀ (h' : Heap) (tk' : Nat), Fr h₀ L h' m → News h₀ L h' news' → Q v { s with heap := h', toks := tk' }) →
   wpAny (model PySem.Challenge.rw_pg0322_01.row.prog w) (ktrTop dp un gd cn cs L ad ccd cl outer) (call (.ref f) vs kw) Q E s
theorem use_told3 {w : World} {dep uni : Nat} {f : Addr} {vs : List Value} {kw : List (Str × Value)} {news : List (Addr × Obj)} {R : (Value → List (Addr × Obj) → Prop) → Prop}
   {loose : List Str} {mean : ExcName → Option Value} {mg mb : Str → Option Value}
   {dp un : Nat} {gd : Option (List Code)} {cn : Str} {cs : Scope} {ad : Addr} {ccd : Value} {cl : List (Str × Addr)} {outer : List Env} {A₀ : Around} {base h₀ : Heap} {L : Addr} {m : Str → Option Value} {s : Shared} {Q E : Value → Shared → Prop}
   (C : Told3 w dep uni f vs kw news R) (B : Below A₀ base outer h₀) (F : Fr h₀ L s.heap m) (X : (hd.heap_39 w.params).In h₀) (N : News h₀ L s.heap news) (T : Top topProg loose mean mg mb h₀) (hk : cs.kind = .function)
   (hd : dp + dep < recursionLimit) (hu : un + uni < cLine)
   (h : R (fun v news' => ∀ (h' : Heap) (tk' : Nat), Fr h₀ L h' m → News h₀ L h' news' → Q v { s with heap := h', toks := tk' })) :
   wpAny (model PySem.Challenge.rw_pg0322_01.row.prog w) (ktrTop dp un gd cn cs L ad ccd cl outer) (call (.ref f) vs kw) Q E s := C _ _ _ _ _ _ _ _ _ _ _ _ _ _ _ _ _ _ _ _ _ B F X N T hk hd hu h
end Pg
end
local macro_rules | `(tactic| walk_at $s:str) => `(tactic| k_extra $s)
-- C1
section
namespace Pg
set_option maxRecDepth 100000 in
set_option maxHeartbeats 8000000 in
theorem c_div2n1n : ∀ (w : World) (news : List (Addr × Obj)) (a b n : Int) (ta tb tn : Tok), 
   0 ≤ a → 0 < b → 0 ≤ n → Builtin.Int.intBits a ≤ 400 → Builtin.Int.intBits b ≤ 400 → 
   Told1 w 2 16 67 [.int a ta, .int b tb, .int n tn] news fun K => ∀ D t1 t2 c, (∀ p ∈ news, p.1 < D) → K (.ref D) ((D, tupI (a / b) (a % b) t1 t2 c) :: news) := by
  w_top off
  k_with_none
  k_with "call builtin:divmod cons nil" => (k_here; refine divmod_pg (by k_asm) (by k_asm) (by assumption) (by assumption) ?_; intro D' t1' t2' c' h' tk' F' N' l1)
  w_strict (
    unfold Told1
    k_fill
    intro w news a b n ta tb tn ha hb hn hab hbb loose mean mg mb dp un gd cn cs ad ccd cl outer A₀ base h₀ L m s Q E B F X N T hk hd hu C1 C2 C3 hret
    refine wpAny_call ?_
    k_dflt cell_enter
    repeat (first | (k_unfold; (try dsimp only)) | (k_end; wrow_close) | walk1 | (dsimp only; walk1) | (leave1; walk_say "STEP leave1"; try dsimp only) | fail "no step")
    all_goals exact hret _ _ _ _ (by assumption) _ _ (by k_asm) (by k_asm))
end Pg
end
-- C2
section
namespace Pg
section
local macro_rules | `(tactic| k_all) => `(tactic| first | with_reducible assumption | exact pg_tail (by assumption) (by omega))
local macro_rules | `(tactic| k_room) => `(tactic| ktr_room)
local macro_rules | `(tactic| ktr_enter) => `(tactic| (refine' code_defC ?k1 ?k2 ?k3 ?k4 ?k5 ?kA ?kF ?kK ?k6 ?k7 ?k8 ?k9 ?kB ?kD ?_ ?c2 ?c3 ?c4; (case kA => exact rfl); (case kF => exact rfl); (case kK => assumption); (case k1 => k_asm); (case k2 => k_asm); (case k3 => k_asm); (case k4 => k_asm); (case k5 => k_asm); (case k6 => k_is); (case k7 => k_is); (case k8 => k_room); (case k9 => first | exact BindsTo.of_eq rfl | exact binds_K (by k_in) rfl (by k_is) rfl rfl rfl | fail "k_enter: no rule for these arguments"); (case kB => exact rfl); (case kD => decide +kernel); (case c2 => exact rfl); (case c3 => exact rfl); (case c4 => exact rfl); k_whole; intro g' L' h' tk' cells' FG' F' N' Y' B' X' T' l1; (have hT' := fun p hp => l1 p (List.mem_cons_of_mem _ hp)); (try k_lt l1); k_cells Y'; (try simp only [List.cons_append, List.nil_append] at N'); (try dsimp only); (try k_lift B'); (try k_fold)))
set_option maxRecDepth 100000 in
set_option maxHeartbeats 8000000 in
theorem c_int2digits : ∀ (w : World) (news : List (Addr × Obj)) (ps : Array Value) (a n : Int) (ta tn : Tok), 
   0 < a → 0 < n → n ≤ 160 → Builtin.Int.intBits a ≤ 160 → (∀ p ∈ news, p.1 ≠ 76) → TabOk ps 90 4 (Str.ofString "_int2digits.<locals>.inner") news →
   Told1 w 200 2000 81 [.int a ta, .int n tn] ((76, tabObj ps) :: news) fun K => ∀ D vs c c' oc cvs t, (∀ p ∈ news, p.1 < D) → c' ≠ D → c' ≠ 76 → 76 < D → oc.data = .fields cvs → cvs[1]? = some (.str (Str.ofString "_int2digits.<locals>.inner") t) →
     IntsAre vs (digs n.toNat (((Builtin.Int.intBits a : Int) + n - 1).fdiv n).toNat a) → K (.ref D) ((76, tabObj #[rawInt 90, rawInt 4, .ref c']) :: (D, W.listOf (List.toArray vs) c) :: (c', oc) :: news) := by
  w_top off
  k_with_none
  k_with "binaryOp Mult ref int" => (k_here; k_dflt (refine mul_pg (by k_asm) (by k_asm) (by k_mem) (by omega) (by omega) ?_); intro D' h' vs' F' N' l1 hI'; (try k_lt l1))
  k_with "exec FunctionDef cons nil none nil none" => (k_here; kn_here; k_dflt (refine' nestDef_K ?d0 ?k0 ?a0 ?_; (case d0 => exact rfl); (case k0 => exact rfl); (case a0 => exact rfl)); (k_dflt (refine' nest_either ?F ?N ?T ?C ?cd ?U ?ps ?sub ?lt ?cl ?_; (case F => k_asm); (case N => k_asm); (case T => k_asm); (case cd => exact rfl); (case C => kn_code); (case U => k_updF); (case ps => assumption); (case lt => assumption); (case sub => (intro p9 h9; (repeat (first | exact h9 | refine List.mem_cons_of_mem _ ?_)))); (case cl => exact rfl); k_whole)); intro f' c' oc' vs' t' ct' dc' h' tk' F' N' d1' d2' hc' l1 l2; (try dsimp only at N'); (replace hc' := hc'.imp ltN (fun h => ltN (h _ (List.Mem.head _)))); (try dsimp only at hc'); (try k_lt l1); (try k_lt2 l2))
  k_with "execs cons FunctionDef cons" => refine wpAny_execs_cons ?_
  k_with "call builtin:len cons nil" => (k_here; k_dflt (refine len_pg (by k_asm) (by k_mem) (by assumption) (by simp only [List.length_replicate]; omega) ?_); simp only [List.length_replicate])
  k_with "call ref cons nil" => (k_here; k_dflt (refine' use_inner ?claim ?B ?F ?X ?N ?T ?hk ?m1 ?m2 ?m3 ?m4 ?m5 ?mD ?U ?hi ?hlen ?hL ?hLR ?hR ?hx ?hx2 ?hxb ?hlt ?hd ?hu ?_; (case claim => assumption); (case B => k_asm); (case F => k_asm); (case X => k_asm); (case N => k_asm); (case T => k_asm); (case hk => first | exact rfl | assumption); (case m1 => k_mem); (case m2 => k_mem); (case m3 => k_mem); (case m4 => k_mem); (case m5 => k_mem); (case mD => k_mem); (case U => k_updF); (case hi => with_reducible assumption); (case hlen => omega); (case hL => omega); (case hLR => omega); (case hR => omega); (case hx => assumption); (case hx2 => first | exact low_lt (by assumption) (by assumption) (by omega) (by assumption) | exact up_lt (by assumption) (by assumption) (by assumption) (by omega) (by omega) (by assumption)); (case hxb => assumption); (case hlt => omega); (case hd => ktr_room); (case hu => ktr_units)); intro h' tk' vs' ns' F' N' hI' hE' hl')
  k_with "binaryOp RShift int int" => (k_here; first | (refine rsh1_pg ?_; intro M' tkM tkN hM) | (refine rsh_pg (by omega) (by omega) (by assumption) ?_; intro U' tkM tkN hU hU0 hUb))
  k_with "binaryOp Mult int int" => (k_here; refine smul_pg (by omega) (by omega) (by omega) (by omega) ?_; intro S' tkM tkN hS hS0 hS1)
  k_with "binaryOp LShift int int" => (k_here; refine lsh_pg (by omega) (by omega) (by assumption) (by decide) ?_; intro V' tkM tkN hV)
  k_with "binaryOp BitXor int int" => (k_here; refine xor_pg (by omega) (by assumption) (by assumption) (by assumption) ?_; intro W' tkM tkN hW hW0 hWb)
  k_with "setItem ref int" => (k_here; k_dflt (refine' ksa_set ?k1 ?k2 ?k3 ?k4 ?k5 ?k6 ?k7 ?_; (case k1 => k_asm); (case k2 => k_asm); (case k3 => k_upd); (case k4 => with_reducible assumption); (case k5 => omega); (case k6 => omega); (case k7 => omega); k_whole); intro h' F' N' hi' hl' hs'; (try k_sweep))
  w_strict (
    unfold Told1
    k_fill
    intro w news ps a n ta tn ha hn hn4 hab hne hps loose mean mg mb dp un gd cn cs ad ccd cl outer A₀ base h₀ L m s Q E B F X N T hk hd hu C1 C2 C3 hret
    dsimp only at hret
    have hnd := nd_bounds hn hab
    refine wpAny_call ?_
    k_dflt ktr_enter
    iterate 53 (first | (k_unfold; (try dsimp only)) | (k_end; wrow_close) | walk1 | (dsimp only; walk1) | (leave1; walk_say "STEP leave1"; try dsimp only) | fail "no step")
    k_dflt (refine' use_inner (n := n) (k := 161) ?claim ?B ?F ?X ?N ?T ?hk ?m1 ?m2 ?m3 ?m4 ?m5 ?mD ?U ?hi ?hlen ?hL ?hLR ?hR ?hx ?hx2 ?hxb ?hlt ?hd ?hu ?_)
    (case hi => with_reducible assumption)
    (case B => k_dflt k_asm); (case F => k_dflt k_asm); (case X => k_dflt k_asm); (case N => k_dflt k_asm); (case T => k_dflt k_asm); (case hk => first | exact rfl | assumption)
    (case m1 => k_dflt k_mem)
    (case mD => k_dflt k_mem)
    (case m2 => exact .tail _ (.head _))
    (case m4 => exact .tail _ (.tail _ (.tail _ (.tail _ (.head _)))))
    (case m3 => exact .tail _ (.tail _ (.tail _ (.tail _ (.tail _ (.head _))))))
    (case m5 => exact .tail _ (.tail _ (.tail _ (.tail _ (.tail _ (.tail _ (.head _)))))))
    (case U => k_dflt k_updF)
    (case hlen => simp only [List.length_replicate]; omega)
    (case hL => decide)
    (case hR => simp only [List.length_replicate]; omega)
    (case hx => omega)
    (case hxb => assumption)
    (case hlt => omega)
    (case hd => ktr_room)
    (case hu => ktr_units)
    (case hLR => exact nd_pos hn ha)
    (case hx2 => exact nd_lt ha hn)
    (case claim =>
      intro j
      induction j using Nat.strongRecOn with
      | ind j IH =>
        intro hj
        clear hret
        unfold InnerI
        intro loose mean mg mb dp un gd cn cs ad ccd cl outer A₀ base h₀ Lf m s Q E news g vs ns c x L R tx tL tR B F X N T hk m1 m2 m3 m4 m5 U hi hlen hL hLR hR hx hx2 hxb hkj hd hu hret
        have n1 := updF_ne U m1 (fun e => by have e2 := congrArg Obj.data e; cases e2)
        have n2 := updF_ne U m2 (code_ne (by assumption))
        have n3 := updF_ne U m3 (cell_ne (by assumption))
        have n4 := updF_ne U m4 (cell_ne (by assumption))
        have n5 := updF_ne U m5 (cell_ne (by assumption))
        obtain ⟨rest, N2, hrest, hg⟩ := inner_shape N U m1 m2 m3 m4 m5
        clear N U m1 m2 m3 m4 m5
        have IH2 := fun j' (h : j' < j) => IH j' h (Nat.lt_trans h hj)
        clear IH
        refine wpAny_call ?_
        k_dflt (refine' code_nest ?k1 ?k2 ?k3 ?k4 ?k5 ?kA ?kF ?kK ?k6 ?k7 ?k8 ?k9 ?kB ?_ ?c2 ?c3 ?c4 ?c5; (case kA => exact rfl); (case kF => exact rfl); (case kK => assumption); (case k1 => k_asm); (case k2 => k_asm); (case k3 => k_asm); (case k4 => exact N2); (case k5 => k_asm); (case k6 => k_mem); (case k7 => exact codeRec_news N2 (by k_mem) (by assumption) (by assumption)); (case k8 => k_room); (case k9 => exact BindsTo.of_eq rfl); (case c5 => decide); (case kB => exact locs rfl); (case c2 => exact rfl); (case c3 => exact rfl); (case c4 => exact rfl); k_whole; intro g' L' h' FG' F' N' B' X' T'; (try dsimp only); (try k_lift B'); (try k_fold))
        repeat (first | (k_unfold; (try dsimp only)) | (k_end; wrow_close) | walk1 | (dsimp only; walk1) | (leave1; walk_say "STEP leave1"; try dsimp only) | fail "no step")
        · refine hret _ _ _ (by k_asm) (inner_back (by k_asm) hg) ?_
          have e := node_eq (by assumption) (by assumption) (by assumption) (by assumption) (by assumption) hL (by omega) (by omega) hR hn
          rw [← e]
          assumption
        repeat (first | (k_unfold; (try dsimp only)) | (k_end; wrow_close) | walk1 | (dsimp only; walk1) | (leave1; walk_say "STEP leave1"; try dsimp only) | fail "no step")
        · refine hret _ _ _ (by k_asm) (inner_back (by k_asm) hg) ?_
          rw [← leaf_eq (by omega) hL hR hx hx2]
          assumption)
    repeat (first | (k_unfold; (try dsimp only)) | (k_end; wrow_close) | walk1 | (dsimp only; walk1) | (leave1; walk_say "STEP leave1"; try dsimp only) | fail "no step")
    · have e := all_eq (by assumption)
      subst e
      refine' hret _ _ _ _ _ _ _ ?a ?b ?c ?d ?e ?f ?g _ _ ?h ?i
      case e => assumption
      case f => assumption
      case g => assumption
      case h => k_asm
      case i =>
        refine cb_drop (by k_asm) ?_
        refine List.forall_mem_cons.mpr ⟨by k_mem, List.forall_mem_cons.mpr ⟨by k_mem, List.forall_mem_cons.mpr ⟨by k_mem, fun p9 h9 => ?_⟩⟩⟩
        (repeat (first | exact h9 | refine List.mem_cons_of_mem _ ?_))
      case a => exact lt_tail (by assumption) (by omega)
      case b => exact neN (by omega)
      case c => exact code_ne_tab (P := 76) (by k_asm) (by k_mem) (by k_mem) (by assumption) (by assumption)
      case d => exact ltN (by omega)
    · exfalso
      omega)
end
end Pg
end
-- C3
section
namespace Pg
section
/-- what a call of _digits2int's inner function does -/
def InnerD (w : World) (n : Int) (f : Addr) (fo : Obj) (c' : Addr) (oc : Obj) (cD : Addr) (oD : Obj) (cI : Addr) (oI : Obj) (cN : Addr) (oN : Obj) (D : Addr) (vs : List Value) (qs : List Int) (c : Nat) (k : Nat) : Prop :=
  ∀ (loose : List Str) (mean : ExcName → Option Value) (mg mb : Str → Option Value)
   (dp un : Nat) (gd : Option (List Code)) (cn : Str) (cs : Scope) (ad : Addr) (ccd : Value) (cl : List (Str × Addr)) (outer : List Env) (A₀ : Around) (base h₀ : Heap) (Lf : Addr) (m : Str → Option Value) (s : Shared) (Q E : Value → Shared → Prop)
   (news : List (Addr × Obj)) (L R : Int) (tL tR : Tok),
   Below A₀ base outer h₀ → Fr h₀ Lf s.heap m → (hd.heap_39 w.params).In h₀ → News h₀ Lf s.heap news → Top topProg loose mean mg mb h₀ → cs.kind = .function →
   (f, fo) ∈ news → (c', oc) ∈ news → (cD, oD) ∈ news → (cI, oI) ∈ news → (cN, oN) ∈ news → (D, W.listOf (List.toArray vs) c) ∈ news →
   0 ≤ L → L < R → R ≤ qs.length → (R - L).toNat = k →
   dp + k + 1 < recursionLimit → un + 8 * (k + 1) < cLine →
   (∀ (h' : Heap) (tk' : Nat) (r : Int) (t : Tok), Fr h₀ Lf h' m → News h₀ Lf h' news → r = valD n.toNat (seg qs L R) → Q (.int r t) { s with heap := h', toks := tk' }) →
   wpAny (model PySem.Challenge.rw_pg0322_01.row.prog w) (ktrTop dp un gd cn cs Lf ad ccd cl outer) (call (.ref f) [.int L tL, .int R tR]) Q E s
theorem use_innerD {w : World} {n : Int} {f : Addr} {fo : Obj} {c' : Addr} {oc : Obj} {cD : Addr} {oD : Obj} {cI : Addr} {oI : Obj} {cN : Addr} {oN : Obj} {D : Addr} {vs : List Value} {qs : List Int} {c : Nat} {k : Nat}
   {loose : List Str} {mean : ExcName → Option Value} {mg mb : Str → Option Value}
   {dp un : Nat} {gd : Option (List Code)} {cn : Str} {cs : Scope} {ad : Addr} {ccd : Value} {cl : List (Str × Addr)} {outer : List Env} {A₀ : Around} {base h₀ : Heap} {Lf : Addr} {m : Str → Option Value} {s : Shared} {Q E : Value → Shared → Prop}
   {news : List (Addr × Obj)} {L R : Int} {tL tR : Tok}
   (claim : ∀ j, j < k → InnerD w n f fo c' oc cD oD cI oI cN oN D vs qs c j)
   (B : Below A₀ base outer h₀) (F : Fr h₀ Lf s.heap m) (X : (hd.heap_39 w.params).In h₀) (N : News h₀ Lf s.heap news) (T : Top topProg loose mean mg mb h₀) (hk : cs.kind = .function)
   (m1 : (f, fo) ∈ news) (m2 : (c', oc) ∈ news) (m3 : (cD, oD) ∈ news) (m4 : (cI, oI) ∈ news) (m5 : (cN, oN) ∈ news) (mD : (D, W.listOf (List.toArray vs) c) ∈ news)
   (_hi : IntsAre vs qs) (hq : ∀ q ∈ qs, 0 ≤ q ∧ q < 2 ^ n.toNat) (hlen : qs.length ≤ 160) (hn0 : 0 < n) (hn : n ≤ 160) (hL : 0 ≤ L) (hLR : L < R) (hR : R ≤ qs.length)
   (hlt : (R - L).toNat < k) (hd : dp + (R - L).toNat + 1 < recursionLimit) (hu : un + 8 * ((R - L).toNat + 1) < cLine)
   (h : ∀ (h' : Heap) (tk' : Nat) (r : Int) (t : Tok), Fr h₀ Lf h' m → News h₀ Lf h' news → r = valD n.toNat (seg qs L R) → intBits r ≤ 25600 → Q (.int r t) { s with heap := h', toks := tk' }) :
   wpAny (model PySem.Challenge.rw_pg0322_01.row.prog w) (ktrTop dp un gd cn cs Lf ad ccd cl outer) (call (.ref f) [.int L tL, .int R tR]) Q E s :=
  claim _ hlt _ _ _ _ _ _ _ _ _ _ _ _ _ _ _ _ _ _ _ _ _ _ _ _ _ _ B F X N T hk m1 m2 m3 m4 m5 mD hL hLR hR rfl hd hu
    (fun h' tk' r t F' N' e => h h' tk' r t F' N' e (by rw [e]; exact seg_bits hq hL (Int.le_of_lt hLR) hR hlen (Int.le_of_lt hn0) hn))
local macro_rules | `(tactic| k_all) => `(tactic| first | with_reducible assumption | exact pg_tail (by assumption) (by omega))
local macro_rules | `(tactic| k_mem) => `(tactic| ((repeat (refine List.mem_cons_of_mem _ ?_)); ktr_member))
local macro_rules | `(tactic| k_room) => `(tactic| ktr_room)
local macro_rules | `(tactic| ktr_enter) => `(tactic| (refine' code_defC ?k1 ?k2 ?k3 ?k4 ?k5 ?kA ?kF ?kK ?k6 ?k7 ?k8 ?k9 ?kB ?kD ?_ ?c2 ?c3 ?c4; (case kA => exact rfl); (case kF => exact rfl); (case kK => assumption); (case k1 => k_asm); (case k2 => k_asm); (case k3 => k_asm); (case k4 => k_asm); (case k5 => k_asm); (case k6 => k_is); (case k7 => k_is); (case k8 => k_room); (case k9 => first | exact BindsTo.of_eq rfl | exact binds_K (by k_in) rfl (by k_is) rfl rfl rfl | fail "k_enter: no rule for these arguments"); (case kB => exact rfl); (case kD => decide +kernel); (case c2 => exact rfl); (case c3 => exact rfl); (case c4 => exact rfl); k_whole; intro g' L' h' tk' cells' FG' F' N' Y' B' X' T' l1; (have hT' := fun p hp => l1 p (List.mem_cons_of_mem _ hp)); (try k_lt l1); k_cells Y'; (try simp only [List.cons_append, List.nil_append] at N'); (try dsimp only); (try k_lift B'); (try k_fold)))
set_option maxRecDepth 100000 in
set_option maxHeartbeats 8000000 in
theorem c_digits2int : ∀ (w : World) (news : List (Addr × Obj)) (ps : Array Value) (D : Addr) (vs : List Value) (qs : List Int) (c : Nat) (n : Int) (tn : Tok), 
   0 < n → n ≤ 160 → (D, W.listOf (List.toArray vs) c) ∈ news → IntsAre vs qs → 0 < qs.length → qs.length ≤ 160 → (∀ q ∈ qs, 0 ≤ q ∧ q < 2 ^ n.toNat) → (∀ p ∈ news, p.1 ≠ 83) → TabOk ps 105 4 (Str.ofString "_digits2int.<locals>.inner") news →
   Told1 w 200 2000 88 [.ref D, .int n tn] ((83, tabObj ps) :: news) fun K => ∀ t1 c' oc cvs t, oc.data = .fields cvs → cvs[1]? = some (.str (Str.ofString "_digits2int.<locals>.inner") t) → c' ≠ 83 →
     K (.int (valD n.toNat qs) t1) ((83, tabObj #[rawInt 105, rawInt 4, .ref c']) :: (c', oc) :: news) := by
  w_top off
  k_with_none
  k_with "exec FunctionDef cons nil none nil none" => (k_here; kn_here; k_dflt (refine' nestDef_K ?d0 ?k0 ?a0 ?_; (case d0 => exact rfl); (case k0 => exact rfl); (case a0 => exact rfl)); (k_dflt (refine' nest_either ?F ?N ?T ?C ?cd ?U ?ps ?sub ?lt ?cl ?_; (case F => k_asm); (case N => k_asm); (case T => k_asm); (case cd => exact rfl); (case C => kn_code); (case U => k_updF); (case ps => assumption); (case lt => assumption); (case sub => (intro p9 h9; (repeat (first | exact h9 | refine List.mem_cons_of_mem _ ?_)))); (case cl => exact rfl); k_whole)); intro f' c' oc' vs' t' ct' dc' h' tk' F' N' d1' d2' hc' l1 l2; (try dsimp only at N'); (replace hc' := hc'.imp ltN (fun h => ltN (h _ (List.Mem.head _)))); (try dsimp only at hc'); (try k_lt l1); (try k_lt2 l2))
  k_with "execs cons FunctionDef cons" => refine wpAny_execs_cons ?_
  k_with "call builtin:len cons nil" => (k_here; k_dflt (refine len_pg (by k_asm) (by k_mem) (by assumption) (by omega) ?_))
  k_with "call ref cons nil" => (k_here; k_dflt (refine' use_innerD ?claim ?B ?F ?X ?N ?T ?hk ?m1 ?m2 ?m3 ?m4 ?m5 ?mD ?hi ?hq ?hlen ?hn0 ?hn ?hL ?hLR ?hR ?hlt ?hd ?hu ?_; (case claim => assumption); (case B => k_asm); (case F => k_asm); (case X => k_asm); (case N => k_asm); (case T => k_asm); (case hk => first | exact rfl | assumption); (case m1 => k_mem); (case m2 => k_mem); (case m3 => k_mem); (case m4 => k_mem); (case m5 => k_mem); (case mD => k_mem); (case hi => with_reducible assumption); (case hq => assumption); (case hlen => assumption); (case hn0 => assumption); (case hn => assumption); (case hL => omega); (case hLR => omega); (case hR => omega); (case hlt => omega); (case hd => ktr_room); (case hu => ktr_units)); intro h' tk' r' t' F' N' hE' hB')
  k_with "truthy ref" => (k_here; k_dflt (refine truthy_pg (by k_asm) (by k_mem) (by assumption) (by assumption) (by omega) ?_); intro tkT)
  k_with "binaryOp RShift int int" => (k_here; (refine rsh1_pg ?_; intro M' tkM tkN hM))
  k_with "binaryOp Mult int int" => (k_here; refine smul_pg (by omega) (by omega) (by omega) (by omega) ?_; intro S' tkM tkN hS hS0 hS1)
  k_with "binaryOp LShift int int" => (k_here; refine lsh_pg (by omega) (by omega) (by assumption) (by decide) ?_; intro V' tkM tkN hV)
  k_with "subscriptTail Name Name ref int" => (k_here; k_dflt (refine' ksa_sub ?k1 ?k2 ?k3 ?k4 ?k5 ?k6 ?_ ?k7; (case k1 => k_asm); (case k2 => k_mem); (case k3 => with_reducible assumption); (case k4 => omega); (case k5 => omega); (case k6 => omega); (case k7 => with_unfolding_all rfl); k_whole); intro _)
  w_strict (
    unfold Told1
    k_fill
    intro w news ps D vs qs c n tn hn hn4 hmD hIs hpos hlen hq hne hps loose mean mg mb dp un gd cn cs ad ccd cl outer A₀ base h₀ L m s Q E B F X N T hk hd hu C1 C2 C3 hret
    dsimp only at hret
    refine wpAny_call ?_
    k_dflt ktr_enter
    iterate 26 (first | (k_unfold; (try dsimp only)) | (k_end; wrow_close) | walk1 | (dsimp only; walk1) | (leave1; walk_say "STEP leave1"; try dsimp only) | fail "no step")
    k_dflt (refine' use_innerD (n := n) (k := 161) ?claim ?B ?F ?X ?N ?T ?hk ?m1 ?m2 ?m3 ?m4 ?m5 ?mD ?hi ?hq ?hlen ?hn0 ?hn ?hL ?hLR ?hR ?hlt ?hd ?hu ?_)
    (case hi => exact hIs)
    (case hq => exact hq)
    (case hn0 => exact hn)
    (case hn => exact hn4)
    (case B => k_dflt k_asm); (case F => k_dflt k_asm); (case X => k_dflt k_asm); (case N => k_dflt k_asm); (case T => k_dflt k_asm); (case hk => first | exact rfl | assumption)
    (case m1 => k_dflt k_mem)
    (case mD => (repeat (first | exact hmD | refine List.mem_cons_of_mem _ ?_)))
    (case m2 => exact .tail _ (.head _))
    (case m4 => exact .tail _ (.tail _ (.head _)))
    (case m5 => exact .tail _ (.tail _ (.tail _ (.head _))))
    (case m3 => exact .tail _ (.tail _ (.tail _ (.tail _ (.head _)))))
    (case hlen => omega)
    (case hL => decide)
    (case hR => omega)
    (case hlt => omega)
    (case hd => ktr_room)
    (case hu => ktr_units)
    (case hLR => omega)
    (case claim =>
      intro j
      induction j using Nat.strongRecOn with
      | ind j IH =>
        intro hj
        clear hret
        unfold InnerD
        intro loose mean mg mb dp un gd cn cs ad ccd cl outer A₀ base h₀ Lf m s Q E news2 L R tL tR B F X N T hk m1 m2 m3 m4 m5 mD hL hLR hR hkj hd hu hret
        have IH2 := fun j' (h : j' < j) => IH j' h (Nat.lt_trans h hj)
        clear IH
        have N2 := cb_drop N (List.forall_mem_cons.mpr ⟨m1, List.forall_mem_cons.mpr ⟨m2, List.forall_mem_cons.mpr ⟨m3, List.forall_mem_cons.mpr ⟨m4, List.forall_mem_cons.mpr ⟨m5, List.forall_mem_cons.mpr ⟨mD, fun p hp => hp⟩⟩⟩⟩⟩⟩)
        clear N m1 m2 m3 m4 m5 mD
        refine wpAny_call ?_
        k_dflt (refine' code_nest ?k1 ?k2 ?k3 ?k4 ?k5 ?kA ?kF ?kK ?k6 ?k7 ?k8 ?k9 ?kB ?_ ?c2 ?c3 ?c4 ?c5; (case kA => exact rfl); (case kF => exact rfl); (case kK => assumption); (case k1 => k_asm); (case k2 => k_asm); (case k3 => k_asm); (case k4 => exact N2); (case k5 => k_asm); (case k6 => k_mem); (case k7 => exact codeRec_news N2 (by k_mem) (by assumption) (by assumption)); (case k8 => k_room); (case k9 => exact BindsTo.of_eq rfl); (case c5 => decide); (case kB => exact locs rfl); (case c2 => exact rfl); (case c3 => exact rfl); (case c4 => exact rfl); k_whole; intro g' L' h' FG' F' N' B' X' T'; (try dsimp only); (try k_lift B'); (try k_fold))
        repeat (first | (k_unfold; (try dsimp only)) | (k_end; wrow_close) | walk1 | (dsimp only; walk1) | (leave1; walk_say "STEP leave1"; try dsimp only) | fail "no step")
        · refine' hret _ _ _ _ ?zf ?zn ?ze
          case zf => k_asm
          case zn => exact cb_drop (by k_asm) (fun p9 h9 => by (repeat (first | exact h9 | refine List.mem_cons_of_mem _ ?_)))
          case ze => rw [seg_one hL (by omega) hR]; simp [valD]
        repeat (first | (k_unfold; (try dsimp only)) | (k_end; wrow_close) | walk1 | (dsimp only; walk1) | (leave1; walk_say "STEP leave1"; try dsimp only) | fail "no step")
        · refine' hret _ _ _ _ ?zf ?zn ?ze
          case zf => k_asm
          case zn => exact cb_drop (by k_asm) (fun p9 h9 => by (repeat (first | exact h9 | refine List.mem_cons_of_mem _ ?_)))
          case ze => exact val_node (by assumption) (by assumption) (by assumption) (by assumption) hL (by omega) (by omega) hR hn)
    repeat (first | (k_unfold; (try dsimp only)) | (k_end; wrow_close) | walk1 | (dsimp only; walk1) | (leave1; walk_say "STEP leave1"; try dsimp only) | fail "no step")
    · have e := seg_val (by assumption)
      subst e
      refine' hret _ _ _ _ _ ?e ?f ?c _ _ ?h ?i
      case e => assumption
      case f => assumption
      case h => k_asm
      case i =>
        refine cb_drop (by k_asm) ?_
        refine List.forall_mem_cons.mpr ⟨by k_mem, List.forall_mem_cons.mpr ⟨by k_mem, fun p9 h9 => ?_⟩⟩
        (repeat (first | exact h9 | refine List.mem_cons_of_mem _ ?_))
      case c => exact code_ne_tab (P := 83) (by k_asm) (by k_mem) (by k_mem) (by assumption) (by assumption))
end
end Pg
end
-- C4
section
namespace Pg
section
local macro_rules | `(tactic| k_mem) => `(tactic| ((repeat (refine List.mem_cons_of_mem _ ?_)); ktr_member))
local macro_rules | `(tactic| k_all) => `(tactic| first | with_reducible assumption | exact pg_tail (by assumption) (by omega))
local macro_rules | `(tactic| k_room) => `(tactic| ktr_room)
set_option maxRecDepth 100000 in
set_option maxHeartbeats 8000000 in
theorem c_divmod_pos : ∀ (w : World) (news : List (Addr × Obj)) (ps ps2 : Array Value) (a b : Int) (ta tb : Tok), 
   0 < a → 0 < b → intBits a ≤ 160 → intBits b ≤ 160 → (∀ p ∈ news, p.1 ≠ 76) → (∀ p ∈ news, p.1 ≠ 83) →
   TabOk ps 90 4 (Str.ofString "_int2digits.<locals>.inner") news → TabOk ps2 105 4 (Str.ofString "_digits2int.<locals>.inner") news →
   Told1 w 210 2100 95 [.int a ta, .int b tb] ((76, tabObj ps) :: (83, tabObj ps2) :: news) fun K => ∀ ps' ps2' T t1 t2 c c1 oc1 c2 oc2, (∀ p ∈ news, p.1 < T) →
     TabOk ps' 90 4 (Str.ofString "_int2digits.<locals>.inner") ((c1, oc1) :: (c2, oc2) :: news) → TabOk ps2' 105 4 (Str.ofString "_digits2int.<locals>.inner") ((c1, oc1) :: (c2, oc2) :: news) →
     c1 ≠ 76 → c2 ≠ 76 → c1 ≠ 83 → c2 ≠ 83 → c1 < T → c2 < T → 83 < T →
     K (.ref T) ((76, tabObj ps') :: (83, tabObj ps2') :: (T, tupI (a / b) (a % b) t1 t2 c) :: (c1, oc1) :: (c2, oc2) :: news) := by
  w_top off
  k_with_none
  k_with "call ref cons nil" => (k_here; k_dflt (refine' use_told (c_int2digits _ _ _ _ _ _ _ ?p1 ?p2 ?p3 ?p4 ?p5 ?p6) ?B ?F ?X ?N ?T ?hk ?hd ?hu ?C1 ?C2 ?C3 ?_; (case B => k_asm); (case F => k_asm); (case X => k_asm); (case N => k_asm); (case T => k_asm); (case hk => exact rfl); (case hd => ktr_room); (case hu => ktr_units); (case C1 => assumption); (case C2 => assumption); (case C3 => assumption); (case p1 => omega); (case p2 => assumption); (case p3 => omega); (case p4 => assumption); (case p5 => assumption); (case p6 => assumption)); intro D' vs' c' cc' oc' cvs' t' lD' nD' nC' n76' hd' hv' hI' h' tk' F' N'; (have hT' := fun p hp => lD' p (List.mem_cons_of_mem _ hp)); (have nC83' := neN (code_ne_tab2 (P := 83) (c' := cc') (oc := oc') N' (by k_mem) (by k_mem) (by assumption) hd' hv')); (have n83' := ltN (lD' _ (List.Mem.head _))); (try dsimp only at n83'); (have n76' := ltN n76'); (have nD' := neN nD'); (have nC' := neN nC'))
  k_with "call ref cons nil" => (k_here; k_dflt (refine' use_told (c_div2n1n _ _ _ _ _ _ _ _ ?p1 ?p2 ?p3 ?p4 ?p5) ?B ?F ?X ?N ?T ?hk ?hd ?hu ?C1 ?C2 ?C3 ?_; (case B => k_asm); (case F => k_asm); (case X => k_asm); (case N => k_asm); (case T => k_asm); (case hk => exact rfl); (case hd => ktr_room); (case hu => ktr_units); (case C1 => assumption); (case C2 => assumption); (case C3 => assumption); (case p1 => exact (tfacts (by assumption) (by assumption) (by assumption) (by assumption) (by assumption) (by assumption) (by omega)).1); (case p2 => assumption); (case p3 => omega); (case p4 => exact (tfacts (by assumption) (by assumption) (by assumption) (by assumption) (by assumption) (by assumption) (by omega)).2.1); (case p5 => omega)); intro D' t1' t2' c' lD' h' tk' F' N'; (try k_lt lD'))
  k_with "binaryOp LShift int int" => (k_here; refine lsh_pg (by omega) (by omega) (by assumption) (by decide) ?_; intro V' tkM tkN hV)
  k_with "call builtin:list.append cons nil" => (k_here; k_dflt (refine' app_pg ?F ?N ?i ?l ?U ?_; (case F => k_asm); (case N => k_asm); (case U => k_upd); (case i => assumption); (case l => assumption); k_whole); intro h' vs' F' eV' hI' N')
  k_with "call builtin:list.reverse cons nil" => (k_here; k_dflt (refine' rev_pg ?F ?N ?i ?l ?U ?_; (case F => k_asm); (case N => k_asm); (case U => k_upd); (case i => assumption); (case l => omega); k_whole); intro h' F' hI' N')
  k_with "call ref cons nil" => (k_here; k_dflt (refine' use_told (c_digits2int _ _ _ _ _ _ _ _ _ ?p1 ?p2 ?p3 ?p4 ?p5 ?p6 ?p7 ?p8 ?p9) ?B ?F ?X ?N ?T ?hk ?hd ?hu ?C1 ?C2 ?C3 ?_; (case B => k_asm); (case F => k_asm); (case X => k_asm); (case N => exact rot4 (by k_asm)); (case T => k_asm); (case hk => exact rfl); (case hd => ktr_room); (case hu => ktr_units); (case C1 => assumption); (case C2 => assumption); (case C3 => assumption); (case p1 => assumption); (case p2 => omega); (case p3 => k_mem); (case p4 => with_reducible assumption); (case p5 => assumption); (case p6 => assumption); (case p7 => assumption); (case p8 => k_all); (case p9 => exact TabOk.mono (by assumption) (fun p9 h9 => by (repeat (first | exact h9 | refine List.mem_cons_of_mem _ ?_))))); intro t1' c2' oc2' cvs2' t2' hd2' hv2' n2' h' tk' F' N')
  k_with "call type:reversed cons nil" => (k_here; (with_reducible show wpAny _ _ (call (Value.type _) [Value.ref _]) _ _ _); k_dflt (refine' krv_reversed ?F ?N ?l ?_; (case F => k_asm); (case N => k_asm); (case l => is_list)); intro D' h' F' N' l1; (have l1' := l1); (try k_lt l1'); (try k_sweep))
  w_strict (
    unfold Told1
    k_fill
    intro w news ps ps2 a b ta tb ha hb hba hbb hne hne2 hps hps2 loose mean mg mb dp un gd cn cs ad ccd cl outer A₀ base h₀ L m s Q E B F X N T hk hd hu C1 C2 C3 hret
    dsimp only at hret
    have hn0 : (0 : Int) < (intBits b : Int) := by
      have : intBits b ≠ 0 := fun e => by
        have := intBits_le_iff.mp (Nat.le_of_eq e)
        omega
      omega
    have hnx : ∀ p ∈ (83, tabObj ps2) :: news, p.1 ≠ 76 := List.forall_mem_cons.mpr ⟨(by decide : (83 : Nat) ≠ 76), hne⟩
    have hpsx : TabOk ps 90 4 (Str.ofString "_int2digits.<locals>.inner") ((83, tabObj ps2) :: news) := hps.mono (fun p hp => .tail _ hp)
    refine wpAny_call ?_
    k_dflt cell_enter
    iterate 43 (first | (k_unfold; (try dsimp only)) | (k_end; wrow_close) | walk1 | (dsimp only; walk1) | (leave1; walk_say "STEP leave1"; try dsimp only) | fail "no step")
    rename Fr _ _ _ _ => lF'
    rename News _ _ _ _ => lN'
    k_dflt (refine' iter_revUnr ?zh lF' lN' ?zo ?zm ?zc ?zd ?zr)
    case zh => exact rfl
    case zo => exact offI_of (by assumption)
    case zm => k_dflt k_mem
    case zc => exact rfl
    case zd => exact rfl
    clear lF'
    refine' revRest_ind (DivInv (intBits b : Int).toNat b a ((((intBits a : Int) + (intBits b : Int) - 1).fdiv (intBits b : Int)).toNat) _ _ _) ?step ?done _ _ _ ?start
    case start =>
      refine' DivInv.start (by omega) hb (nd_lt2 ha hn0) (by assumption) ?zz
      case zz => exact rfl
    case step =>
      intro w0 wr m1 news1 hInv it hh htk hit F1 N1
      obtain ⟨ws, v, r, Qs, vq, c9, tr, u1, u2, hiw, hw, hr, hQ, hQb, hiq, hlen, hhor, rfl, rfl⟩ := hInv
      cases hiw with
      | cons d td hiw =>
        rename_i ws
        have hd9 := hw _ (.head _)
        have hd0 := hd9.1
        have hd1 := hd9.2
        have hrb : intBits r ≤ 160 := bits_abs hbb (by rw [hr]; exact Int.emod_nonneg _ (by omega)) (by rw [hr]; exact Int.le_of_lt (Int.emod_lt_of_pos _ hb))
        have hnd := nd_bounds hn0 hba
        have hlen2 : Qs.length + 1 + ws.length = ((((intBits a : Int) + (intBits b : Int) - 1).fdiv (intBits b : Int)).toNat) := by rw [← hlen, List.length_cons]; omega
        have hQl : Qs.length ≤ 1000 := by omega
        (try dsimp only)
        (try k_fold)
        repeat (first | (k_unfold; (try dsimp only)) | (k_end; wrow_close) | walk1 | (dsimp only; walk1) | (leave1; walk_say "STEP leave1"; try dsimp only) | fail "no step")
        have hV9 := vd_eq (d := d) (by assumption)
        have hTd := turn_div hb hr hV9
        have hTf := tfacts (by assumption) hr hd0 hd1 hb hbb (by omega)
        refine' UnrEnd.intro ?zF ?zN _ ?zs ?zo ⟨?zm, ?zi⟩
        case zF => k_asm
        case zN => k_asm
        case zi =>
          refine' ⟨ws, _, _, Qs ++ [_], vq ++ [_], c9 + 1, _, _, _, hiw, (fun d hd => hw d (.tail _ hd)), hTd.2.symm, ?y1, ?y2, ?y3, ?y4, hhor, mapD_step, rfl⟩
          case y3 => assumption
          case y1 => exact rev_app hQ hTd.1 rfl
          case y2 => exact fun q hq => (List.mem_append.mp hq).elim (hQb q) fun h => by rw [List.mem_singleton.mp h]; exact hTf.2.2
          case y4 => rw [List.length_append, List.length_singleton]; exact hlen2
        case zs => exact fun p hp => .tail _ hp
        case zo => k_dflt k_all
        case zm => k_dflt k_mem
    case done =>
      intro m1 news1 hInv hh htk F1 N1
      obtain ⟨ws, v, r, Qs, vq, c9, tr, u1, u2, hiw, hw, hr, hQ, hQb, hiq, hlen, hhor, rfl, rfl⟩ := hInv
      cases hiw
      have hnd := nd_bounds hn0 hba
      have hql : Qs.reverse.length ≤ 160 := by rw [List.length_reverse]; simp at hlen; omega
      have hqp : 0 < Qs.reverse.length := by
        have := nd_pos hn0 ha
        rw [List.length_reverse]; simp at hlen; omega
      have hqm : ∀ q ∈ Qs.reverse, 0 ≤ q ∧ q < 2 ^ (intBits b : Int).toNat := fun q hq => hQb q (List.mem_reverse.mp hq)
      have hl9 : Qs.length ≤ 160 := by rw [← List.length_reverse]; exact hql
      (try dsimp only)
      (try k_fold)
      repeat (first | (k_unfold; (try dsimp only)) | (k_end; wrow_close) | walk1 | (dsimp only; walk1) | (leave1; walk_say "STEP leave1"; try dsimp only) | fail "no step")
      have hv9 : v = a := hhor
      rw [hv9] at hQ hr
      rw [← hQ, ← hr] at hret
      refine' hret _ _ _ _ _ _ _ _ _ _ ?z1 ?z2 ?z3 ?z4 ?z5 ?z6 ?z7 ?z8 ?z9 ?z10 _ _ ?zF ?zN
      case zF => k_asm
      case zN =>
        refine cb_drop (by k_asm) ?_
        refine List.forall_mem_cons.mpr ⟨by k_mem, List.forall_mem_cons.mpr ⟨by k_mem, List.forall_mem_cons.mpr ⟨by k_mem, List.forall_mem_cons.mpr ⟨?_, List.forall_mem_cons.mpr ⟨?_, fun p9 h9 => ?_⟩⟩⟩⟩⟩
        · refine .tail _ (.tail _ (.tail _ (.tail _ (.tail _ (.tail _ ?_)))))
          exact List.Mem.head _
        · refine .tail _ (.tail _ ?_)
          exact List.Mem.head _
        · (repeat (first | exact h9 | refine List.mem_cons_of_mem _ ?_))
      case z1 => exact lt_tail (by assumption) (by omega)
      case z2 => exact .inr ⟨_, _, _, _, rfl, .head _, by assumption, by assumption⟩
      case z3 => exact .inr ⟨_, _, _, _, rfl, .tail _ (.head _), by assumption, by assumption⟩
      case z4 => assumption
      case z5 => exact code_ne_tab (P := 76) (by k_asm) (.tail _ (.tail _ (.tail _ (.tail _ (.head _))))) (.tail _ (.tail _ (.head _))) (by assumption) (by assumption)
      case z6 => assumption
      case z7 => assumption
      case z8 => exact ltN (by omega)
      case z9 => exact ltN (by omega)
      case z10 => exact ltN (by omega))
end
end Pg
end
-- C5
section
namespace Pg
section
local macro_rules | `(tactic| k_room) => `(tactic| ktr_room)
set_option maxRecDepth 100000 in
set_option maxHeartbeats 8000000 in
theorem c_int_divmod : ∀ (w : World) (news : List (Addr × Obj)) (ps ps2 : Array Value) (a b : Int) (ta tb : Tok), 
   0 < a → 0 < b → intBits a ≤ 160 → intBits b ≤ 160 → (∀ p ∈ news, p.1 ≠ 76) → (∀ p ∈ news, p.1 ≠ 83) →
   TabOk ps 90 4 (Str.ofString "_int2digits.<locals>.inner") news → TabOk ps2 105 4 (Str.ofString "_digits2int.<locals>.inner") news →
   Told1 w 220 2200 102 [.int a ta, .int b tb] ((76, tabObj ps) :: (83, tabObj ps2) :: news) fun K => ∀ ps' ps2' T t1 t2 c c1 oc1 c2 oc2, (∀ p ∈ news, p.1 < T) →
     TabOk ps' 90 4 (Str.ofString "_int2digits.<locals>.inner") ((c1, oc1) :: (c2, oc2) :: news) → TabOk ps2' 105 4 (Str.ofString "_digits2int.<locals>.inner") ((c1, oc1) :: (c2, oc2) :: news) →
     c1 ≠ 76 → c2 ≠ 76 → c1 ≠ 83 → c2 ≠ 83 → c1 < T → c2 < T → 83 < T →
     K (.ref T) ((76, tabObj ps') :: (83, tabObj ps2') :: (T, tupI (a / b) (a % b) t1 t2 c) :: (c1, oc1) :: (c2, oc2) :: news) := by
  w_top off
  k_with_none
  k_with "ite" => first | (refine ite_neg (by simp only [beq_iff_eq, decide_eq_true_eq]; omega) ?_) | (refine ite_pos (by simp only [beq_iff_eq, decide_eq_true_eq]; omega) ?_)
  k_with "call ref cons nil" => (k_here; k_dflt (refine' use_told (c_divmod_pos _ _ _ _ _ _ _ _ ?p1 ?p2 ?p3 ?p4 ?p5 ?p6 ?p7 ?p8) ?B ?F ?X ?N ?T ?hk ?hd ?hu ?C1 ?C2 ?C3 ?_; (case B => k_asm); (case F => k_asm); (case X => k_asm); (case N => k_asm); (case T => k_asm); (case hk => exact rfl); (case hd => ktr_room); (case hu => ktr_units); (case C1 => assumption); (case C2 => assumption); (case C3 => assumption); (case p1 => assumption); (case p2 => assumption); (case p3 => assumption); (case p4 => assumption); (case p5 => assumption); (case p6 => assumption); (case p7 => assumption); (case p8 => assumption)); intro ps' ps2' T' t1' t2' c' c1' oc1' c2' oc2' z1 z2 z3 z4 z5 z6 z7 z8 z9 z10 h' tk' F' N')
  w_strict (
    unfold Told1
    k_fill
    intro w news ps ps2 a b ta tb ha hb hba hbb hne hne2 hps hps2 loose mean mg mb dp un gd cn cs ad ccd cl outer A₀ base h₀ L m s Q E B F X N T hk hd hu C1 C2 C3 hret
    dsimp only at hret
    refine wpAny_call ?_
    k_dflt cell_enter
    repeat (first | (k_unfold; (try dsimp only)) | (k_end; wrow_close) | walk1 | (dsimp only; walk1) | (leave1; walk_say "STEP leave1"; try dsimp only) | fail "no step")
    all_goals exact hret _ _ _ _ _ _ _ _ _ _ (by assumption) (by assumption) (by assumption) (by assumption) (by assumption) (by assumption) (by assumption) (by assumption) (by assumption) (by assumption) _ _ (by k_asm) (by k_asm)
    )
end
end Pg
end
-- PgSet
section
namespace Pg
theorem no_bool_set : typeLookup (.type "set") "__bool__" = pure none := by rw [typeLookup_type, builtinLookup_eq_fast]; kernel_rfl
section
variable {prog : Program} {w : World} {A : Around} {E : Value → Shared → Prop} {s : Shared}
theorem truthy_set_at {a : Addr} {o : Obj} {es : Array (Int × Value)} {ep : Nat} {t : SetTable} {Q : Bool → Shared → Prop}
    (ho : s.heap.get? a = some o) (hex : o.ExactSet) (hd : o.data = .set es ep t) (hf : t.fits es.size = true) (hfit : (es.size : Int) < 2 ^ 63)
    (h : Q ((es.size : Int) != 0) { s with toks := s.toks + 1 + 1 }) : wpAny (model prog w) A (truthy (.ref a)) Q E s := by
  have hT : s.TypeIs (.ref a) "set" := ⟨o, ho, hex.1⟩
  have key : wpAny (model prog w) A (runValue (.builtin "len" ⟨[.ref a], []⟩)) (fun r s' => r = .int es.size (s.toks + 1) ∧ Q ((es.size : Int) != 0) s') E s := by
    refine wpAny_runValue (codeAny_builtin entry_len ?_)
    rw [Around.under_plainId plain_len _]
    exact wpAny_mono (wpAny_len_body_set (Q := fun r s' => r = .int es.size (s.toks + 1) ∧ Q ((es.size : Int) != 0) s') ho hex hd hf hfit ⟨rfl, h⟩)
      (fun fin s' h' => by obtain ⟨r, rfl, hq⟩ := h'; exact hq) fun _ _ e => e
  unfold truthy
  first
    | refine wpAny_bind (wpAny_callSpecial?_none (name := Str.ofString "__bool__") hT no_bool_set ?_)
    | refine wpAny_bind (wpAny_pure (wpAny_bind (wpAny_callSpecial?_none (name := Str.ofString "__bool__") hT no_bool_set ?_)))
  first
    | refine wpAny_bind (wpAny_specialOf (name := Str.ofString "__len__") hT PySem.F.slot_set_len.lookup ?_)
    | refine wpAny_bind (wpAny_pure (wpAny_bind (wpAny_specialOf (name := Str.ofString "__len__") hT PySem.F.slot_set_len.lookup ?_)))
  first
    | exact wpAny_bind (wpAny_mono key (fun r s' h' => by obtain ⟨rfl, hq⟩ := h'; exact wpAny_pure hq) fun _ _ e => e)
    | exact wpAny_bind (wpAny_pure (wpAny_bind (wpAny_mono key (fun r s' h' => by obtain ⟨rfl, hq⟩ := h'; exact wpAny_pure hq) fun _ _ e => e)))
variable {h₀ : Heap} {L sa : Addr} {m : Str → Option Value} {news : List (Addr × Obj)} {g : Obj → List (Addr × Obj)} {so : Obj} {S : Int → Bool} {n : Nat}
theorem truthy_set {Q : Bool → Shared → Prop} (N : News h₀ L s.heap news) (hm : (sa, so) ∈ news) (hso : so.SetObjOf (PySem.intKind prog w) S n) (hb : n < 1000)
    (h : ∀ tk, Q (decide (n ≠ 0)) { s with toks := tk }) : wpAny (model prog w) A (truthy (.ref sa)) Q E s := by
  obtain ⟨hex, es, ep, t, hd, hel, hmem, hn, hf⟩ := hso
  refine truthy_set_at (N _ hm).1 hex hd hf (by omega) ?_
  have e : ((es.size : Int) != 0) = decide (n ≠ 0) := by
    rw [hn]
    by_cases h0 : n = 0
    · simp [h0]
    · simp [h0]
  rw [e]
  exact h _
theorem truthy_set_t {Q : Bool → Shared → Prop} (N : News h₀ L s.heap news) (hm : (sa, so) ∈ news) (hso : so.SetObjOf (PySem.intKind prog w) S n) (hn : n ≠ 0) (hb : n < 1000)
    (h : ∀ tk, Q true { s with toks := tk }) : wpAny (model prog w) A (truthy (.ref sa)) Q E s := truthy_set N hm hso hb (by rw [decide_eq_true hn]; exact h)
theorem truthy_set_f {Q : Bool → Shared → Prop} (N : News h₀ L s.heap news) (hm : (sa, so) ∈ news) (hso : so.SetObjOf (PySem.intKind prog w) S n) (hn : n = 0)
    (h : ∀ tk, Q false { s with toks := tk }) : wpAny (model prog w) A (truthy (.ref sa)) Q E s := truthy_set N hm hso (by omega) (by rw [decide_eq_false (not_not_intro hn)]; exact h)
theorem choose_one {M : Model} {Q : Nat → Shared → Prop} (h : ∀ dr, Q 0 { s with drawn := dr }) : wpAny M A (choose .order 1) Q E s := fun Γ p _ => by
  show Sem.wp M Γ (.choose .order 1 .pure) _ _ p s
  rw [Sem.wp_choose]
  refine ⟨by decide, ?_⟩
  rw [Nat.mod_one]
  exact h _
theorem setPop_one {x : Int} {Q : Option Value → Shared → Prop} (F : Fr h₀ L s.heap m) (N : News h₀ L s.heap news) (U : UpdF sa so news g) (hso : so.SetObjOf (PySem.intKind prog w) S 1) (hS : ∀ k, S k = true → k = x)
    (h : ∀ h' so' t dr, Fr h₀ L h' m → News h₀ L h' (g so') → so'.SetObjOf (PySem.intKind prog w) (fun _ => false) 0 → Q (some (.int x t)) { s with heap := h', drawn := dr }) :
    wpAny (model prog w) A (setPop sa) Q E s := by
  obtain ⟨pre, post, rfl, hg, a, b⟩ := U.split
  have hm := N (sa, so) (List.mem_append_right _ (.head _))
  obtain ⟨hex, es, ep, t, hd, hel, hmem, hn, hf⟩ := hso
  obtain ⟨e, rfl⟩ : ∃ e, es = #[e] := by
    obtain ⟨l⟩ := es
    match l, hn with
    | [e], _ => exact ⟨e, rfl⟩
  have hx : ∃ tk, e.2 = .int x tk := by
    obtain ⟨⟨k, hk, _⟩, _⟩ := hel e (by simp)
    have hk2 : S k = true := (hmem k).mpr ⟨e, by simp, hk⟩
    have hk3 := hS k hk2
    subst hk3
    exact Value.isInt_shape hk
  obtain ⟨tk, hx⟩ := hx
  obtain ⟨eh, ev⟩ := e
  dsimp only at hx
  subst hx
  have hf2 := hf
  unfold SetTable.fits at hf2
  rw [Bool.and_eq_true] at hf2
  have hp1 : t.place.size = 1 := by have := hf2.1; simpa using this
  have hfl : t.place.size + t.dummies.size ≤ t.mask := by have := hf2.2; unfold SetTable.fill at this; simpa using this
  have hpop : t.popPlace = some 0 := by
    unfold SetTable.popPlace
    have : t.place.isEmpty = false := by unfold Array.isEmpty; rw [hp1]; rfl
    rw [this]
    simp only [Bool.false_eq_true, if_false, hp1]
    split <;> simp_all
  obtain ⟨j, hj⟩ : ∃ j, t.place = #[j] := by
    cases hpl : t.place with
    | mk l =>
      rw [hpl] at hp1
      match l, hp1 with
      | [j], _ => exact ⟨j, rfl⟩
  have hfd : (t.popped 0).fits (SetTable.eraseAt #[(eh, Value.int x tk)] 0).size = true := by
    unfold SetTable.popped SetTable.drop SetTable.fits SetTable.fill
    simp [hj, SetTable.eraseAt, SetTable.insertAt]
    rw [hj] at hfl
    simp at hfl
    omega
  have fin : ∀ dr, wpAny (model prog w) A (do
      let some (_, y) := (#[(eh, Value.int x tk)] : Array (Int × Value))[0]? | unsupported "internal:set.pop"
      storeSet sa (SetTable.eraseAt #[(eh, Value.int x tk)] 0) (t.popped 0)
      return some y) Q E { s with drawn := dr } := by
    intro dr
    show wpAny (model prog w) A (storeSet sa (SetTable.eraseAt #[(eh, Value.int x tk)] 0) (t.popped 0) >>= fun _ => pure (some (Value.int x tk))) Q E _
    have he0 : SetTable.eraseAt #[(eh, Value.int x tk)] 0 = #[] := by simp [SetTable.eraseAt]
    refine wpAny_bind (wpAny_storeSet_of (s := { s with drawn := dr }) hm.1 hd (wpAny_pure ?_) (by rw [he0]; exact Nat.zero_le _))
    obtain ⟨_, hS2⟩ := SetOf_store (knd := PySem.intKind prog w) (S' := fun _ => false) hm.1 hex hd (es' := SetTable.eraseAt #[(eh, Value.int x tk)] 0) (t' := t.popped 0) (by rw [he0]; intro e he; simp at he) (by rw [he0]; intro k; simp) (by rw [he0]; exact (by decide : (0:Nat) < 4096)) hfd
    obtain ⟨so', ho', hso'⟩ := hS2.objOf
    rw [he0] at hso'
    have hsb := Heap.SameBut.update s.heap sa (Obj.putSet (SetTable.eraseAt #[(eh, Value.int x tk)] 0) (t.popped 0))
    exact h _ so' tk dr (F.change hsb hm.2.1 hm.2.2) (hg so' ▸ N.setIn a b hsb ho') hso'
  unfold setPop
  refine wpAny_bind (wpAny_setState_of hm.1 hd hf ?_)
  dsimp only
  rw [hpop]
  dsimp only
  refine wpAny_bind ?_
  unfold setsByText
  refine wpAny_bind (wpAny_askSetting (wpAny_pure ?_))
  refine wpAny_ite ?_
  split
  · refine wpAny_bind (choose_one fun dr => ?_)
    exact fin dr
  · refine wpAny_bind ?_
    show wpAny (model prog w) A (if (!t.led && decide ((#[(eh, Value.int x tk)] : Array (Int × Value)).size > 1)) = true then unsupported "set:maker-not-led" else pure ()) _ E s
    rw [if_neg (by simp)]
    refine wpAny_pure ?_
    exact fin s.drawn
theorem call_set_pop {x : Int} {Q : Value → Shared → Prop} (F : Fr h₀ L s.heap m) (N : News h₀ L s.heap news) (U : UpdF sa so news g) (hso : so.SetObjOf (PySem.intKind prog w) S 1) (hS : ∀ k, S k = true → k = x)
    (h : ∀ h' so' t dr, Fr h₀ L h' m → News h₀ L h' (g so') → so'.SetObjOf (PySem.intKind prog w) (fun _ => false) 0 → Q (.int x t) { s with heap := h', drawn := dr }) :
    wpAny (model prog w) A (call (.builtin "set.pop") [.ref sa]) Q E s := by
  obtain ⟨pre, post, e1, _, _, _⟩ := id U.split
  have hm := N (sa, so) (e1 ▸ List.mem_append_right _ (.head _))
  refine wpAny_call_entry PySem.F.slot_set_pop ⟨_, hm.1, hso.1.1⟩ PySem.F.entry_set_pop ?_ (PySem.F.args_set_pop_1 _)
  unfold Builtin.«set.pop» Builtin.Frozenset.noArgs
  show wpAny _ _ (Builtin.Frozenset.addrOf (.ref sa) >>= fun s => setPop s >>= _) _ _ _
  unfold Builtin.Frozenset.addrOf
  refine wpAny_bind (wpAny_pure ?_)
  refine wpAny_bind (setPop_one F N U hso hS fun h' so' t dr F' N' hs' => ?_)
  exact wpAny_pure ⟨_, rfl, h h' so' t dr F' N' hs'⟩
theorem method_set_pop {pl : Sem Bool} {Q : Value × List Value → Shared → Prop} (N : News h₀ L s.heap news) (hm : (sa, so) ∈ news) (hso : so.SetObjOf (PySem.intKind prog w) S n)
    (h : Q (.builtin "set.pop", [.ref sa]) s) : wpAny (model prog w) A (getMethod (.ref sa) (Str.ofString "pop") pl) Q E s :=
  getMethod_builtin ⟨_, (N _ hm).1, hso.1.1⟩ PySem.F.plainAttrs_set PySem.F.slot_set_pop PySem.F.type_set_pop (fun a e => by cases e; exact ⟨_, (N _ hm).1, hso.1.2.1⟩) h
end
end Pg
end
-- C6
section
namespace Pg
open Builtin Builtin.Str in
theorem gives_replace_none (x y z : Str) (t u v : Tok) (h : (occurrences x y 0 x.length (x.length + 1)).isEmpty = true) :
    GivesAt (fun _ => True) («str.replace» ⟨[.str x t, .str y u, .str z v], []⟩) (.val (.str x t)) := by
  show GivesAt _ (if ((occurrences x y 0 x.length (x.length + 1)).isEmpty || (y.length == 0 && z.length == 0)) = true then (do rule "str.replace.nothing"; ret (.str x t)) else
          (do let same ← isSame (.str y u) (.str z v)
              if same = true then (do rule "str.replace.old-is-new"; ret (.str x t)) else
              if tooLong (x.length + (occurrences x y 0 x.length (x.length + 1)).length * z.length) = true then unsupported "str.replace:memory" else
              retStr (glued z (partsBetween x (occurrences x y 0 x.length (x.length + 1)) y.length)))) _
  rw [if_pos (by rw [h]; rfl)]
  exact Gives.at (.rule (.of_eq rfl))
theorem replace_none_pg {prog : Program} {w : World} {A : Around} {E : Value → Shared → Prop} {s : Shared} {x y z : Str} {t u v : Tok} {Q : Value → Shared → Prop}
   (h : (Builtin.Str.occurrences x y 0 x.length (x.length + 1)).isEmpty = true) (hq : ∀ t', Q (.str x t') s) :
   wpAny (model prog w) A (call (.builtin "str.replace") [.str x t, .str y u, .str z v]) Q E s :=
  call_givesAt F.slot_str_replace (typeIs_str _ _ _) F.entry_str_replace (F.args_str_replace_3 _ _ _) (gives_replace_none x y z t u v h) trivial (hq t)
/-- a text of digits that says n -/
structure Numeral (x : Str) (n : Int) : Prop where
  len : x.length ≤ 100
  pos : 0 < x.length
  strip : Txt.rstrip x = x
  bare : (Builtin.Str.occurrences x (Str.ofString "_") 0 x.length (x.length + 1)).isEmpty = true
  cut : Txt.slice x (some 0) (some (x.length : Int)) = x
  val : PySem.intText? x = some n
section
local macro_rules | `(tactic| k_room) => `(tactic| ktr_room)
local macro_rules | `(tactic| k_mem) => `(tactic| ((repeat (refine List.mem_cons_of_mem _ ?_)); ktr_member))
local macro_rules | `(tactic| ktr_enter) => `(tactic| (refine' code_def ?k1 ?k2 ?k3 ?k4 ?k5 ?kA ?kF ?kK ?k6 ?k7 ?k8 ?k9 ?kB ?_ ?c2 ?c3 ?c4 ?c5; (case kA => exact rfl); (case kF => exact rfl); (case kK => first | exact rfl | assumption); (case k1 => k_asm); (case k2 => k_asm); (case k3 => k_asm); (case k4 => k_asm); (case k5 => k_asm); (case k6 => k_is); (case k7 => k_is); (case k8 => k_room); (case k9 => first | exact BindsTo.of_eq rfl | exact binds_K (by k_in) rfl (by k_is) rfl rfl rfl | fail "k_enter: no rule for these arguments"); (case c5 => decide); (case kB => exact locs rfl); (case c2 => exact rfl); (case c3 => exact rfl); (case c4 => exact rfl); k_whole; intro g' L' h' FG' F' N' B' X' T'; (try dsimp only); (try k_lift B'); (try k_fold)))
set_option maxRecDepth 100000 in
set_option maxHeartbeats 8000000 in
theorem c_compute_powers : ∀ (w : World) (news : List (Addr × Obj)) (a : Int) (ta tb tc : Tok), 
   0 ≤ a → a ≤ 100 →
   Told2 w 10 100 46 [.int a ta, .int 5 tb, .int 2048 tc] news fun K => ∀ D, K (.ref D) news := by
  w_top off
  k_with_none
  k_with "truthy ref" => (k_here; k_dflt (first | refine truthy_set_t (by k_asm) (by k_mem) (by assumption) (by decide) (by decide) ?_ | refine truthy_set_f (by k_asm) (by k_mem) (by assumption) rfl ?_); intro tkT)
  k_with "getMethod ref" => (k_here; k_dflt (refine method_set_pop (by k_asm) (by k_mem) (by assumption) ?_))
  k_with "call builtin:set.pop cons nil" => (k_here; k_dflt (refine' call_set_pop ?F ?N ?U ?hso ?hS ?_; (case F => k_asm); (case N => k_asm); (case U => k_updF); (case hso => assumption); (case hS => intro k hk; simpa using hk); k_whole); intro h' so' t' dr' F' N' hs'; (try dsimp only at N'))
  w_strict (
    unfold Told2
    k_fill
    intro w news a ta tb tc ha hb loose mean mg mb dp un gd cn cs ad ccd cl outer A₀ base h₀ L m s Q E B F X N T hk hd hu C1 C2 C3 hret
    dsimp only at hret
    refine wpAny_call ?_
    k_dflt ktr_enter
    repeat (first | (k_unfold; (try dsimp only)) | (k_end; wrow_close) | walk1 | (dsimp only; walk1) | (leave1; walk_say "STEP leave1"; try dsimp only) | fail "no step")
    all_goals exact hret _ _ _ _ (by k_asm) (cb_drop (by k_asm) (fun p9 h9 => by (repeat (first | exact h9 | refine List.mem_cons_of_mem _ ?_))))
    )
end
section
local macro_rules | `(tactic| k_all) => `(tactic| first | with_reducible assumption | exact pg_tail (by assumption) (by omega))
local macro_rules | `(tactic| k_room) => `(tactic| ktr_room)
local macro_rules | `(tactic| ktr_enter) => `(tactic| (refine' code_defC ?k1 ?k2 ?k3 ?k4 ?k5 ?kA ?kF ?kK ?k6 ?k7 ?k8 ?k9 ?kB ?kD ?_ ?c2 ?c3 ?c4; (case kA => exact rfl); (case kF => exact rfl); (case kK => assumption); (case k1 => k_asm); (case k2 => k_asm); (case k3 => k_asm); (case k4 => k_asm); (case k5 => k_asm); (case k6 => k_is); (case k7 => k_is); (case k8 => k_room); (case k9 => first | exact BindsTo.of_eq rfl | exact binds_K (by k_in) rfl (by k_is) rfl rfl rfl | fail "k_enter: no rule for these arguments"); (case kB => exact rfl); (case kD => decide +kernel); (case c2 => exact rfl); (case c3 => exact rfl); (case c4 => exact rfl); k_whole; intro g' L' h' tk' cells' FG' F' N' Y' B' X' T' l1; (have hT' := fun p hp => l1 p (List.mem_cons_of_mem _ hp)); (try k_lt l1); k_cells Y'; (try simp only [List.cons_append, List.nil_append] at N'); (try dsimp only); (try k_lift B'); (try k_fold)))
set_option maxRecDepth 100000 in
set_option maxHeartbeats 8000000 in
theorem c_str_to_int : ∀ (w : World) (news : List (Addr × Obj)) (ps : Array Value) (x : Str) (n : Int) (tx : Tok), 
   Numeral x n → TabOk ps 50 4 (Str.ofString "_str_to_int_inner.<locals>.inner") news → (∀ p ∈ news, p.1 ≠ 48) →
   Told2 w 20 200 53 [.str x tx] ((48, tabObj ps) :: news) fun K => ∀ t c' oc cvs t2, oc.data = .fields cvs → cvs[1]? = some (.str (Str.ofString "_str_to_int_inner.<locals>.inner") t2) → c' ≠ 48 → K (.int n t) ((48, tabObj #[rawInt 50, rawInt 4, .ref c']) :: (c', oc) :: news) := by
  w_top off
  k_with_none
  k_with "exec FunctionDef cons nil none nil none" => (k_here; kn_here; k_dflt (refine' nestDef_K ?d0 ?k0 ?a0 ?_; (case d0 => exact rfl); (case k0 => exact rfl); (case a0 => exact rfl)); (k_dflt (refine' nest_either ?F ?N ?T ?C ?cd ?U ?ps ?sub ?lt ?cl ?_; (case F => k_asm); (case N => k_asm); (case T => k_asm); (case cd => exact rfl); (case C => kn_code); (case U => k_updF); (case ps => assumption); (case lt => assumption); (case sub => (intro p9 h9; (repeat (first | exact h9 | refine List.mem_cons_of_mem _ ?_)))); (case cl => exact rfl); k_whole)); intro f' c' oc' vs' t' ct' dc' h' tk' F' N' d1' d2' hc' l1 l2; (try dsimp only at N'); (replace hc' := hc'.imp ltN (fun h => ltN (h _ (List.Mem.head _)))); (try dsimp only at hc'); (try k_lt l1); (try k_lt2 l2))
  k_with "execs cons FunctionDef cons" => refine wpAny_execs_cons ?_
  k_with "call ref cons nil" => (k_here; k_dflt (refine' use_told2 (c_compute_powers _ _ _ _ _ _ ?p1 ?p2) ?B ?F ?X ?N ?T ?hk ?hd ?hu ?C1 ?C2 ?C3 ?_; (case B => k_asm); (case F => k_asm); (case X => k_asm); (case N => k_asm); (case T => k_asm); (case hk => exact rfl); (case hd => ktr_room); (case hu => ktr_units); (case C1 => assumption); (case C2 => assumption); (case C3 => assumption); (case p1 => omega); (case p2 => omega)); intro D' h' tk' dr' F' N')
  k_with "call type:int cons nil" => (k_here; k_dflt (rw [Numeral.cut (by assumption)]; refine KIN.call_text (Numeral.val (by assumption)) (by omega) ?_))
  w_strict (
    unfold Told2
    k_fill
    intro w news ps x n tx hN hps hne loose mean mg mb dp un gd cn cs ad ccd cl outer A₀ base h₀ L m s Q E B F X N T hk hd hu C1 C2 C3 hret
    dsimp only at hret
    have hx1 := hN.len
    have hx2 := hN.pos
    refine wpAny_call ?_
    k_dflt ktr_enter
    repeat (first | (k_unfold; (try dsimp only)) | (k_end; wrow_close) | walk1 | (dsimp only; walk1) | (leave1; walk_say "STEP leave1"; try dsimp only) | fail "no step")
    · refine' hret _ _ _ _ _ ?e ?f ?c _ _ _ ?h ?i
      case e => assumption
      case f => assumption
      case h => k_asm
      case i =>
        refine cb_drop (by k_asm) ?_
        refine List.forall_mem_cons.mpr ⟨by k_mem, List.forall_mem_cons.mpr ⟨by k_mem, fun p9 h9 => ?_⟩⟩
        (repeat (first | exact h9 | refine List.mem_cons_of_mem _ ?_))
      case c => exact code_ne_tab (P := 48) (by k_asm) (by k_mem) (by k_mem) (by assumption) (by assumption)
    )
end
section
local macro_rules | `(tactic| k_room) => `(tactic| ktr_room)
set_option maxRecDepth 100000 in
set_option maxHeartbeats 8000000 in
theorem c_int_from_string : ∀ (w : World) (news : List (Addr × Obj)) (ps : Array Value) (x : Str) (n : Int) (tx : Tok), 
   Numeral x n → TabOk ps 50 4 (Str.ofString "_str_to_int_inner.<locals>.inner") news → (∀ p ∈ news, p.1 ≠ 48) →
   Told2 w 30 300 60 [.str x tx] ((48, tabObj ps) :: news) fun K => ∀ t c' oc cvs t2, oc.data = .fields cvs → cvs[1]? = some (.str (Str.ofString "_str_to_int_inner.<locals>.inner") t2) → c' ≠ 48 → K (.int n t) ((48, tabObj #[rawInt 50, rawInt 4, .ref c']) :: (c', oc) :: news) := by
  w_top off
  k_with_none
  k_with "call builtin:str.replace cons nil" => (k_here; k_dflt (rw [Numeral.strip (by assumption)]; refine replace_none_pg (Numeral.bare (by assumption)) ?_); intro t')
  k_with "call ref cons nil" => (k_here; k_dflt (refine' use_told2 (c_str_to_int _ _ _ _ _ _ ?p1 ?p2 ?p3) ?B ?F ?X ?N ?T ?hk ?hd ?hu ?C1 ?C2 ?C3 ?_; (case B => k_asm); (case F => k_asm); (case X => k_asm); (case N => k_asm); (case T => k_asm); (case hk => exact rfl); (case hd => ktr_room); (case hu => ktr_units); (case C1 => assumption); (case C2 => assumption); (case C3 => assumption); (case p1 => assumption); (case p2 => assumption); (case p3 => assumption)); intro t' c' oc' cvs' t2' z1 z2 z3 h' tk' dr' F' N')
  w_strict (
    unfold Told2
    k_fill
    intro w news ps x n tx hN hps hne loose mean mg mb dp un gd cn cs ad ccd cl outer A₀ base h₀ L m s Q E B F X N T hk hd hu C1 C2 C3 hret
    dsimp only at hret
    have hx1 := hN.len
    have hx2 := hN.pos
    refine wpAny_call ?_
    k_dflt cell_enter
    repeat (first | (k_unfold; (try dsimp only)) | (k_end; wrow_close) | walk1 | (dsimp only; walk1) | (leave1; walk_say "STEP leave1"; try dsimp only) | fail "no step")
    all_goals exact hret _ _ _ _ _ (by assumption) (by assumption) (by assumption) _ _ _ (by k_asm) (by k_asm)
    )
end
end Pg
end
-- C7
section
namespace Pg
/-- what the law's replace makes of x: a for every n, then b for every o -/
structure Rep (x a b y r : Str) : Prop where
  lx : x.length ≤ 10
  h1 : Txt.join a (Txt.split x (Str.ofString "n")) = y
  w1 : ((Txt.split x (Str.ofString "n")).map (·.length)).sum + (Txt.split x (Str.ofString "n")).length * a.length ≤ 16777216
  ly : y.length ≤ 1000
  h2 : Txt.join b (Txt.split y (Str.ofString "o")) = r
  w2 : ((Txt.split y (Str.ofString "o")).map (·.length)).sum + (Txt.split y (Str.ofString "o")).length * b.length ≤ 16777216
theorem rep_join {prog : Program} {w : World} {A : Around} {E : Value → Shared → Prop} {s : Shared} {x sep a r : Str} {t : Tok} {Q : Value → Shared → Prop} {D : Addr} {l : List (Str × Tok)}
   (hl : s.heap.IsList D (strValues l).toArray) (hi : StrsAre (strValues l) (l.map fun x => x.fst)) (e : (l.map fun x => x.fst) = Txt.split x sep)
   (hok : ((Txt.split x sep).map (·.length)).sum + (Txt.split x sep).length * a.length ≤ 16777216) (hr : Txt.join a (Txt.split x sep) = r)
   (h : ∀ t' k, Q (.str r t') { s with toks := k }) : wpAny (model prog w) A (call (.builtin "str.join") [.str a t, .ref D]) Q E s := by
  rw [← hr, ← e] at h
  rw [← e] at hok
  exact join_list hl hi hok h
section
local macro_rules | `(tactic| k_room) => `(tactic| ktr_room)
local macro_rules | `(tactic| k_mem) => `(tactic| ((repeat (refine List.mem_cons_of_mem _ ?_)); ktr_member))
set_option maxRecDepth 100000 in
set_option maxHeartbeats 8000000 in
theorem c_replace : ∀ (w : World) (news : List (Addr × Obj)) (x a b y r : Str) (t1 t2 t3 t4 t5 : Tok), 
   Rep x a b y r →
   Told1 w 10 100 109 [.str x t1, .str (Str.ofString "n") t2, .str a t3, .str (Str.ofString "o") t4, .str b t5] news fun K => ∀ t, K (.str r t) news := by
  w_top off
  k_with_none
  k_with "call builtin:str.join cons nil" => (k_here; k_dflt (first | refine rep_join (by assumption) (by assumption) (by assumption) (Rep.w1 (by assumption)) (Rep.h1 (by assumption)) ?_ | refine rep_join (by assumption) (by assumption) (by assumption) (Rep.w2 (by assumption)) (Rep.h2 (by assumption)) ?_); intro t' k')
  k_with "subscriptTail Name Slice ref ref" => (k_here; k_dflt (refine slice_tuple_from (a := 2) (by k_asm) (by k_asm) (News.isTup (by k_asm) (by k_mem)) (by decide) (by exact Nat.le_of_ble_eq_true rfl) ?_); intro h' F' N'; (try simp only [List.drop_succ_cons, List.drop_zero] at N'))
  k_with "exec While Name cons nil" => (k_here; k_dflt (refine whl_start 100 ?_))
  w_strict (
    unfold Told1
    k_fill
    intro w news x a b y r t1 t2 t3 t4 t5 hR loose mean mg mb dp un gd cn cs ad ccd cl outer A₀ base h₀ L m s Q E B F X N T hk hd hu C1 C2 C3 hret
    dsimp only at hret
    have hlx := hR.lx
    have hly := hR.ly
    refine wpAny_call ?_
    k_dflt (refine' kp_rest ?k1 ?k2 ?k3 ?k4 ?k5 ?kA ?kF ?kK ?k6 ?k7 ?k8 ?kV ?kP ?kG ?kB ?_ ?c2 ?c3 ?c4 ?c5; (case kA => exact rfl); (case kF => exact rfl); (case kK => assumption); (case k1 => k_asm); (case k2 => k_asm); (case k3 => k_asm); (case k4 => k_asm); (case k5 => k_asm); (case k6 => k_is); (case k7 => k_is); (case k8 => k_room); (case kV => kl_lit); (case kP => exact rfl); (case kG => exact fun _ => rfl); (case kB => exact fun _ => locs rfl); (case c5 => decide); (case c2 => exact rfl); (case c3 => exact rfl); (case c4 => exact rfl); k_whole; intro D' g' L' h' l1 FG' F' N' B' X' T'; (try k_lt l1); (try dsimp only); (try k_lift B'); (try k_fold))
    repeat (first | (k_unfold; (try dsimp only)) | (k_end; wrow_close) | walk1 | (dsimp only; walk1) | (leave1; walk_say "STEP leave1"; try dsimp only) | fail "no step")
    all_goals exact hret _ _ _ (by k_asm) (cb_drop (by k_asm) (fun p9 h9 => by (repeat (first | exact h9 | refine List.mem_cons_of_mem _ ?_))))
    )
end
end Pg
end
-- PgSre
section
namespace Pg
theorem slot_search : Slot "re.Pattern" "search" "re.Pattern.search" :=
  .of (owner := "re.Pattern") (n := "search") (by rw [typeLookup_type, builtinLookup_eq_fast]; kernel_rfl) (by decide +kernel) (by decide +kernel) (by decide +kernel)
    (by first | exact .inl (by decide +kernel) | exact .inr (by decide +kernel)) (by rw [isSubtype_type]; kernel_rfl)
theorem type_search : typeOf (.builtin "re.Pattern.search") = pure (.type "method_descriptor") := by show builtinType _ = _; rw [builtinType_eq_fast]; kernel_rfl
theorem entry_search : entryFor table "re.Pattern.search" = some Builtin.«re.Pattern.search» := entryFor_of_tree (by kernel_rfl)
theorem args_search (a b : Value) : argsOk "re.Pattern.search" ⟨[a, b], []⟩ := by unfold argsOk; kernel_rfl
theorem plainAttrs_pattern : PlainAttrs "re.Pattern" :=
  ⟨⟨"object.__getattribute__", by rw [typeLookup_type, builtinLookup_eq_fast]; kernel_rfl, by decide +kernel⟩, by rw [typeLookup_type, builtinLookup_eq_fast]; kernel_rfl⟩
/-- what is left of a tree of notes alone -/
def bare {α : Type} : Nat → Sem α → Option α
  | 0, _ => none
  | n + 1, t => match t with
    | .pure a => some a
    | .rule _ k => bare n (k ())
    | _ => none
theorem bare_rule {α : Type} {M : Model} {A : Around} {E : Value → Shared → Prop} {s : Shared} {Q : α → Shared → Prop} {tag : String} {k : Unit → Sem α} (h : wpAny M A (k ()) Q E s) : wpAny M A (.rule tag k) Q E s := by
  intro Γ p hΓ
  rw [Sem.wp_rule]
  exact h Γ p hΓ
theorem bare_wp {α : Type} {M : Model} {A : Around} {E : Value → Shared → Prop} {s : Shared} {Q : α → Shared → Prop} : ∀ (n : Nat) (t : Sem α) (a : α), bare n t = some a → Q a s → wpAny M A t Q E s
  | 0, t, a, h, _ => by cases h
  | n + 1, t, a, h, hq => by
    cases t with
    | pure b =>
      have e : b = a := Option.some.inj h
      subst e
      exact wpAny_pure hq
    | rule tag k => exact bare_rule (bare_wp n (k ()) a h hq)
    | _ => cases h
/-- the search finds nothing in x -/
def Clean (code : Array Nat) (x : Str) : Prop := (bare 500 (Builtin.Re.reRunToEnd (Sre.forSearch code x.cps 0 0 x.cps.size false))).map Option.isNone = some true
def vCode : Array Nat := #[14, 14, 4, 1, 1, 9, 4294966783, 0, 0, 2147483648, 0, 0, 0, 0, 0, 13, 11, 9, 4294966783, 0, 0, 2147483648, 0, 0, 0, 0, 0, 1]
def nCode : Array Nat := #[14, 10, 4, 1, 1, 22, 0, 31, 16, 127, 0, 13, 7, 22, 0, 31, 16, 127, 0, 1]
theorem clean1 : Clean vCode (Str.ofString "0010100101") := by unfold Clean; decide +kernel
theorem clean2 : Clean nCode (Str.ofString "newer") := by unfold Clean; decide +kernel
theorem clean43 : Clean vCode (Str.ofString "0010100101001010010100101001010010100101001") := by unfold Clean; decide +kernel
section
variable {prog : Program} {w : World} {A : Around} {E : Value → Shared → Prop} {s : Shared}
theorem method_search {pa : Addr} {o : Obj} {pl : Sem Bool} {Q : Value × List Value → Shared → Prop} (ho : s.heap.get? pa = some o) (hc : o.cls = .type "re.Pattern") (hd : o.dict = none)
    (h : Q (.builtin "re.Pattern.search", [.ref pa]) s) : wpAny (model prog w) A (getMethod (.ref pa) (Str.ofString "search") pl) Q E s :=
  getMethod_builtin ⟨_, ho, hc⟩ plainAttrs_pattern slot_search type_search (fun a e => by cases e; exact ⟨_, ho, hd⟩) h
theorem call_search {pa ta : Addr} {o ot : Obj} {fs items : Array Value} {n : Nat} {x : Str} {t : Tok} {code : Array Nat} {Q : Value → Shared → Prop} (ho : s.heap.get? pa = some o) (hc : o.cls = .type "re.Pattern") (hd : o.data = .fields fs)
    (h5 : fs.getD 5 .none = .ref ta) (h6 : Builtin.Re.reRawNat (fs.getD 6 .none) = 0) (h2 : Builtin.Re.reRawNat (fs.getD 2 .none) = 0)
    (ht : s.heap.get? ta = some ot) (htd : ot.data = .seq items n) (hcode : (items.map Builtin.Re.reRawOf).map (·.toNat) = code) (hx : x.cps.size < 2 ^ 62) (hcl : Clean code x)
    (h : Q .none s) : wpAny (model prog w) A (call (.builtin "re.Pattern.search") [.ref pa, .str x t]) Q E s := by
  refine wpAny_call_entry slot_search ⟨_, ho, hc⟩ entry_search ?_ (args_search _ _)
  unfold Builtin.«re.Pattern.search»
  refine wpAny_bind ?_
  unfold Builtin.Re.reTarget
  dsimp only
  refine wpAny_bind (wpAny_of_eq (a := [some (.str x t), none, none]) (by rfl) ?_)
  dsimp only
  refine wpAny_bind (wpAny_pure ?_)
  refine wpAny_bind (wpAny_pure ?_)
  refine wpAny_bind (wpAny_fieldsOf ho hd ?_)
  refine wpAny_bind (wpAny_of_eq (a := (x.cps, 0)) (by rfl) ?_)
  dsimp only
  rw [h6, if_neg (by decide), if_neg (by decide)]
  refine wpAny_bind (wpAny_of_eq (a := ()) (by rfl) ?_)
  refine wpAny_bind ?_
  unfold Builtin.Re.reRawItems
  rw [h5]
  refine wpAny_bind (wpAny_seqItems ht htd ?_)
  refine wpAny_pure ?_
  refine wpAny_pure ?_
  dsimp only [Option.getD]
  have e1 : min (Int.toNat 0) x.cps.size = 0 := Nat.zero_min _
  have e2 : min (Int.toNat (2 ^ 63 - 1)) x.cps.size = x.cps.size := Nat.min_eq_right (by omega)
  rw [hcode, h2, e1, e2]
  unfold Builtin.Re.reAnswer
  refine wpAny_bind ?_
  have hb : bare 500 (Builtin.Re.reRunToEnd (Sre.forSearch code x.cps 0 0 x.cps.size false)) = some none := by
    unfold Clean at hcl
    cases hm : bare 500 (Builtin.Re.reRunToEnd (Sre.forSearch code x.cps 0 0 x.cps.size false)) with
    | none => rw [hm] at hcl; cases hcl
    | some r =>
      rw [hm] at hcl
      cases r with
      | none => rfl
      | some m => cases hcl
  refine bare_wp 500 _ none hb ?_
  exact wpAny_pure ⟨_, rfl, h⟩
end
end Pg
end
-- PgNum
section
namespace Pg
theorem bounds3 (n : Nat) : sliceBounds (some (n : Int)) none none 3 = (((min n 3 : Nat) : Int), 3, 1) := by
  unfold sliceBounds
  have h : ¬ ((n : Int) < 0) := by omega
  simp only [Option.getD_none, if_neg h]
  simp
  omega
theorem range3 (k : Nat) (h : k ≤ 3) : sliceRange (k : Int) 3 1 = (List.range 3).drop k := by
  match k, h with
  | 0, _ => rfl
  | 1, _ => rfl
  | 2, _ => rfl
  | 3, _ => rfl
theorem pick3 {t0 t1 t2 : Tok} (n : Nat) : IntsAre (slicePick #[.int 1 t0, .int 0 t1, .int 5 t2] (some (n : Int)) none none).toList (([1, 0, 5] : List Int).drop n) := by
  have e : slicePick #[.int 1 t0, .int 0 t1, .int 5 t2] (some (n : Int)) none none = ((((List.range 3).drop (min n 3)).filterMap ((#[Value.int 1 t0, .int 0 t1, .int 5 t2] : Array Value)[·]?)).toArray) := by
    unfold slicePick
    have hs : (#[Value.int 1 t0, .int 0 t1, .int 5 t2] : Array Value).size = 3 := rfl
    rw [hs, bounds3]
    show (List.filterMap _ (sliceRange ((min n 3 : Nat) : Int) 3 1)).toArray = _
    rw [range3 _ (Nat.min_le_right _ _)]
  rw [e]
  match n with
  | 0 => exact .cons 1 t0 (.cons 0 t1 (.cons 5 t2 .nil))
  | 1 => exact .cons 0 t1 (.cons 5 t2 .nil)
  | 2 => exact .cons 5 t2 .nil
  | n + 3 =>
    have e2 : min (n + 3) 3 = 3 := by omega
    rw [e2, List.drop_eq_nil_of_le (by simp : ([1, 0, 5] : List Int).length ≤ n + 3)]
    exact .nil
theorem three (ns : List Int) : ∃ a b c, ns.take 3 ++ ([1, 0, 5] : List Int).drop ns.length = [a, b, c] := by
  match ns with
  | [] => exact ⟨_, _, _, rfl⟩
  | [x] => exact ⟨_, _, _, rfl⟩
  | [x, y] => exact ⟨_, _, _, rfl⟩
  | x :: y :: z :: r => exact ⟨x, y, z, by simp⟩
end Pg
end
-- C8
section
namespace Pg
section
local macro_rules | `(tactic| k_room) => `(tactic| ktr_room)
local macro_rules | `(tactic| k_mem) => `(tactic| ((repeat (refine List.mem_cons_of_mem _ ?_)); ktr_member))
local macro_rules | `(tactic| ktr_enter) => `(tactic| (refine' code_def ?k1 ?k2 ?k3 ?k4 ?k5 ?kA ?kF ?kK ?k6 ?k7 ?k8 ?k9 ?kB ?_ ?c2 ?c3 ?c4 ?c5; (case kA => exact rfl); (case kF => exact rfl); (case kK => assumption); (case k1 => k_asm); (case k2 => k_asm); (case k3 => k_asm); (case k4 => k_asm); (case k5 => k_asm); (case k6 => k_is); (case k7 => k_is); (case k8 => k_room); (case k9 => (refine' kp_binds ?kx ?ke; (case kx => k_in); (case ke => exact fun _ => rfl))); (case c5 => decide); (case kB => exact locs rfl); (case c2 => exact rfl); (case c3 => exact rfl); (case c4 => exact rfl); k_whole; intro g' L' h' FG' F' N' B' X' T'; (try dsimp only); (try k_lift B'); (try k_fold)))
set_option maxRecDepth 100000 in
set_option maxHeartbeats 8000000 in
theorem c_convN : ∀ (w : World) (news : List (Addr × Obj)) (self : Value) (x : Str) (t : Tok), Clean nCode x → x.cps.size < 2 ^ 62 →
   Told3 w 5 50 141 [self, .str x t] [(Str.ofString "name", .bool true)] news fun K => K (.str x t) news := by
  w_top off
  k_with_none
  k_with "getMethod ref" => (k_here; k_dflt (refine' method_search ?zo ?zc ?zd ?_; (case zo => exact Fr.keep (by k_asm) _ _ ((by assumption : Frag.In _ _) _ _ (by k_is))); (case zc => exact rfl); (case zd => exact rfl); k_whole))
  k_with "call builtin:re.Pattern.search cons nil" => (k_here; k_dflt (refine' call_search ?zo ?zc ?zd ?z5 ?z6 ?z2 ?zt ?ztd ?zcode ?zx ?zcl ?_; (case zo => exact Fr.keep (by k_asm) _ _ ((by assumption : Frag.In _ _) _ _ (by k_is))); (case zc => exact rfl); (case zd => exact rfl); (case z5 => exact rfl); (case z6 => exact rfl); (case z2 => exact rfl); (case zt => exact Fr.keep (by k_asm) _ _ ((by assumption : Frag.In _ _) _ _ (by k_is))); (case ztd => exact rfl); (case zcl => assumption); (case zcode => decide +kernel); (case zx => assumption)))
  w_strict (
    unfold Told3
    k_fill
    intro w news self x t hcl hsz loose mean mg mb dp un gd cn cs ad ccd cl outer A₀ base h₀ L m s Q E B F X N T hk hd hu hret
    dsimp only at hret
    refine wpAny_call ?_
    k_dflt ktr_enter
    repeat (first | (k_unfold; (try dsimp only)) | (k_end; wrow_close) | walk1 | (dsimp only; walk1) | (leave1; walk_say "STEP leave1"; try dsimp only) | fail "no step")
    exact hret _ _ (by assumption) (by assumption)
    )
set_option maxRecDepth 100000 in
set_option maxHeartbeats 8000000 in
theorem c_convV : ∀ (w : World) (news : List (Addr × Obj)) (self : Value) (x : Str) (t : Tok), Clean vCode x → x.cps.size < 2 ^ 62 →
   Told3 w 5 50 141 [self, .str x t] [(Str.ofString "name", .bool false)] news fun K => K (.str x t) news := by
  w_top off
  k_with_none
  k_with "getMethod ref" => (k_here; k_dflt (refine' method_search ?zo ?zc ?zd ?_; (case zo => exact Fr.keep (by k_asm) _ _ ((by assumption : Frag.In _ _) _ _ (by k_is))); (case zc => exact rfl); (case zd => exact rfl); k_whole))
  k_with "call builtin:re.Pattern.search cons nil" => (k_here; k_dflt (refine' call_search ?zo ?zc ?zd ?z5 ?z6 ?z2 ?zt ?ztd ?zcode ?zx ?zcl ?_; (case zo => exact Fr.keep (by k_asm) _ _ ((by assumption : Frag.In _ _) _ _ (by k_is))); (case zc => exact rfl); (case zd => exact rfl); (case z5 => exact rfl); (case z6 => exact rfl); (case z2 => exact rfl); (case zt => exact Fr.keep (by k_asm) _ _ ((by assumption : Frag.In _ _) _ _ (by k_is))); (case ztd => exact rfl); (case zcl => assumption); (case zcode => decide +kernel); (case zx => assumption)))
  w_strict (
    unfold Told3
    k_fill
    intro w news self x t hcl hsz loose mean mg mb dp un gd cn cs ad ccd cl outer A₀ base h₀ L m s Q E B F X N T hk hd hu hret
    dsimp only at hret
    refine wpAny_call ?_
    k_dflt ktr_enter
    repeat (first | (k_unfold; (try dsimp only)) | (k_end; wrow_close) | walk1 | (dsimp only; walk1) | (leave1; walk_say "STEP leave1"; try dsimp only) | fail "no step")
    exact hret _ _ (by assumption) (by assumption)
    )
end
end Pg
end
-- PgWord
section
namespace Pg
/-- where the law stands: the last two words and the dues -/
structure WSt where
  p : Str
  l : Str
  ds : List Int
def dueOf (p l : Str) (t : Nat) : Int := ((List.range t).map fun k => (10 : Int) ^ (p.length + k * l.length)).sum
def stepW (s : WSt) (t : Nat) : WSt := ⟨s.l, Txt.mul s.l (t : Int) ++ s.p, s.ds ++ [dueOf s.p s.l t]⟩
def runW (ts : List Nat) : WSt := ts.foldl stepW ⟨Str.ofString "1", Str.ofString "0", []⟩
def cleanB (x : Str) : Bool := (bare 500 (Builtin.Re.reRunToEnd (Sre.forSearch vCode x.cps 0 0 x.cps.size false))).map Option.isNone == some true
def turnB (p l : Str) (t : Nat) : Bool :=
  let x := Txt.mul (Str.ofString "n") (t : Int) ++ Str.ofString "o"
  let y := Txt.join l (Txt.split x (Str.ofString "n"))
  let r := Txt.mul l (t : Int) ++ p
  decide (x.length ≤ 10) && decide (((Txt.split x (Str.ofString "n")).map (·.length)).sum + (Txt.split x (Str.ofString "n")).length * l.length ≤ 16777216)
  && decide (y.length ≤ 1000) && decide (Txt.join p (Txt.split y (Str.ofString "o")) = r)
  && decide (((Txt.split y (Str.ofString "o")).map (·.length)).sum + (Txt.split y (Str.ofString "o")).length * p.length ≤ 16777216)
  && cleanB r && cleanB l && decide (l.length ≤ 50) && decide (l.cps.size ≤ 50) && decide (p.length ≤ 50) && decide (0 < l.length) && decide (0 < p.length) && decide (r.length ≤ 50) && decide (r.cps.size ≤ 50) && decide (0 < r.length)
def three13 : List Nat := [1, 2, 3]
def tsAll : List (List Nat) := [] :: (three13.map fun a => [a]) ++ (three13.map fun a => three13.map fun b => [a, b]).flatten
def tsAll3 : List (List Nat) := (three13.map fun a => (three13.map fun b => three13.map fun c => [a, b, c]).flatten).flatten
theorem turn_at0 : (three13.all fun t => turnB (runW []).p (runW []).l t) = true := by decide +kernel
theorem turn_at1 : (three13.all fun t => turnB (runW [1]).p (runW [1]).l t) = true := by decide +kernel
theorem turn_at2 : (three13.all fun t => turnB (runW [2]).p (runW [2]).l t) = true := by decide +kernel
theorem turn_at3 : (three13.all fun t => turnB (runW [3]).p (runW [3]).l t) = true := by decide +kernel
theorem turn_at11 : (three13.all fun t => turnB (runW [1, 1]).p (runW [1, 1]).l t) = true := by decide +kernel
theorem turn_at12 : (three13.all fun t => turnB (runW [1, 2]).p (runW [1, 2]).l t) = true := by decide +kernel
theorem turn_at13 : (three13.all fun t => turnB (runW [1, 3]).p (runW [1, 3]).l t) = true := by decide +kernel
theorem turn_at21 : (three13.all fun t => turnB (runW [2, 1]).p (runW [2, 1]).l t) = true := by decide +kernel
theorem turn_at22 : (three13.all fun t => turnB (runW [2, 2]).p (runW [2, 2]).l t) = true := by decide +kernel
theorem turn_at23 : (three13.all fun t => turnB (runW [2, 3]).p (runW [2, 3]).l t) = true := by decide +kernel
theorem turn_at31 : (three13.all fun t => turnB (runW [3, 1]).p (runW [3, 1]).l t) = true := by decide +kernel
theorem turn_at32 : (three13.all fun t => turnB (runW [3, 2]).p (runW [3, 2]).l t) = true := by decide +kernel
theorem turn_at33 : (three13.all fun t => turnB (runW [3, 3]).p (runW [3, 3]).l t) = true := by decide +kernel
theorem turn_all : (tsAll.all fun ts => three13.all fun t => turnB (runW ts).p (runW ts).l t) = true := by
  refine List.all_eq_true.mpr fun ts h => ?_
  have h2 : ts ∈ [[], [1], [2], [3], [1, 1], [1, 2], [1, 3], [2, 1], [2, 2], [2, 3], [3, 1], [3, 2], [3, 3]] := h
  simp only [List.mem_cons, List.not_mem_nil, or_false] at h2
  rcases h2 with rfl | rfl | rfl | rfl | rfl | rfl | rfl | rfl | rfl | rfl | rfl | rfl | rfl
  · exact turn_at0
  · exact turn_at1
  · exact turn_at2
  · exact turn_at3
  · exact turn_at11
  · exact turn_at12
  · exact turn_at13
  · exact turn_at21
  · exact turn_at22
  · exact turn_at23
  · exact turn_at31
  · exact turn_at32
  · exact turn_at33
def ones (n : Nat) : Str := Txt.mul (Str.ofString "1") (n : Int)
def numB (x : Str) : Bool := decide (x.length ≤ 100) && decide (0 < x.length) && decide (Txt.rstrip x = x) && (Builtin.Str.occurrences x (Str.ofString "_") 0 x.length (x.length + 1)).isEmpty
  && decide (Txt.slice x (some 0) (some (x.length : Int)) = x) && (PySem.intText? x).isSome
def valOf (x : Str) : Int := (PySem.intText? x).getD 0
def endB (s : WSt) : Bool :=
  let a := valOf (ones s.l.length)
  let b := valOf s.l
  let r1 := a % b
  let r2 := b % r1
  numB s.l && numB (ones s.l.length) && decide (0 < a) && decide (0 < b) && decide (0 < r1) && decide (r2 = 1) && decide (intBits a ≤ 160) && decide (intBits b ≤ 160) && decide (intBits r1 ≤ 160)
  && decide (s.ds = [a / b - 1, b / r1, r1 / r2]) && decide (r1 % r2 = 0)
theorem end_at111 : endB (runW [1, 1, 1]) = true := by decide +kernel
theorem end_at112 : endB (runW [1, 1, 2]) = true := by decide +kernel
theorem end_at113 : endB (runW [1, 1, 3]) = true := by decide +kernel
theorem end_at121 : endB (runW [1, 2, 1]) = true := by decide +kernel
theorem end_at122 : endB (runW [1, 2, 2]) = true := by decide +kernel
theorem end_at123 : endB (runW [1, 2, 3]) = true := by decide +kernel
theorem end_at131 : endB (runW [1, 3, 1]) = true := by decide +kernel
theorem end_at132 : endB (runW [1, 3, 2]) = true := by decide +kernel
theorem end_at133 : endB (runW [1, 3, 3]) = true := by decide +kernel
theorem end_at211 : endB (runW [2, 1, 1]) = true := by decide +kernel
theorem end_at212 : endB (runW [2, 1, 2]) = true := by decide +kernel
theorem end_at213 : endB (runW [2, 1, 3]) = true := by decide +kernel
theorem end_at221 : endB (runW [2, 2, 1]) = true := by decide +kernel
theorem end_at222 : endB (runW [2, 2, 2]) = true := by decide +kernel
theorem end_at223 : endB (runW [2, 2, 3]) = true := by decide +kernel
theorem end_at231 : endB (runW [2, 3, 1]) = true := by decide +kernel
theorem end_at232 : endB (runW [2, 3, 2]) = true := by decide +kernel
theorem end_at233 : endB (runW [2, 3, 3]) = true := by decide +kernel
theorem end_at311 : endB (runW [3, 1, 1]) = true := by decide +kernel
theorem end_at312 : endB (runW [3, 1, 2]) = true := by decide +kernel
theorem end_at313 : endB (runW [3, 1, 3]) = true := by decide +kernel
theorem end_at321 : endB (runW [3, 2, 1]) = true := by decide +kernel
theorem end_at322 : endB (runW [3, 2, 2]) = true := by decide +kernel
theorem end_at323 : endB (runW [3, 2, 3]) = true := by decide +kernel
theorem end_at331 : endB (runW [3, 3, 1]) = true := by decide +kernel
theorem end_at332 : endB (runW [3, 3, 2]) = true := by decide +kernel
theorem end_at333 : endB (runW [3, 3, 3]) = true := by decide +kernel
theorem end_all : (tsAll3.all fun ts => endB (runW ts)) = true := by
  refine List.all_eq_true.mpr fun ts h => ?_
  have h2 : ts ∈ [[1, 1, 1], [1, 1, 2], [1, 1, 3], [1, 2, 1], [1, 2, 2], [1, 2, 3], [1, 3, 1], [1, 3, 2], [1, 3, 3], [2, 1, 1], [2, 1, 2], [2, 1, 3], [2, 2, 1], [2, 2, 2], [2, 2, 3], [2, 3, 1], [2, 3, 2], [2, 3, 3], [3, 1, 1], [3, 1, 2], [3, 1, 3], [3, 2, 1], [3, 2, 2], [3, 2, 3], [3, 3, 1], [3, 3, 2], [3, 3, 3]] := h
  simp only [List.mem_cons, List.not_mem_nil, or_false] at h2
  rcases h2 with rfl | rfl | rfl | rfl | rfl | rfl | rfl | rfl | rfl | rfl | rfl | rfl | rfl | rfl | rfl | rfl | rfl | rfl | rfl | rfl | rfl | rfl | rfl | rfl | rfl | rfl | rfl
  · exact end_at111
  · exact end_at112
  · exact end_at113
  · exact end_at121
  · exact end_at122
  · exact end_at123
  · exact end_at131
  · exact end_at132
  · exact end_at133
  · exact end_at211
  · exact end_at212
  · exact end_at213
  · exact end_at221
  · exact end_at222
  · exact end_at223
  · exact end_at231
  · exact end_at232
  · exact end_at233
  · exact end_at311
  · exact end_at312
  · exact end_at313
  · exact end_at321
  · exact end_at322
  · exact end_at323
  · exact end_at331
  · exact end_at332
  · exact end_at333
theorem mem_tsAll {ts : List Nat} (h : ts.length ≤ 2) (hm : ∀ t ∈ ts, t = 1 ∨ t = 2 ∨ t = 3) : ts ∈ tsAll := by
  match ts, h, hm with
  | [], _, _ => decide
  | [a], _, hm => rcases hm a (by simp) with rfl | rfl | rfl <;> decide
  | [a, b], _, hm => rcases hm a (by simp) with rfl | rfl | rfl <;> rcases hm b (by simp) with rfl | rfl | rfl <;> decide
  | _ :: _ :: _ :: _, h, _ => simp at h
theorem mem_tsAll3 {ts : List Nat} (h : ts.length = 3) (hm : ∀ t ∈ ts, t = 1 ∨ t = 2 ∨ t = 3) : ts ∈ tsAll3 := by
  match ts, h, hm with
  | [a, b, c], _, hm => rcases hm a (by simp) with rfl | rfl | rfl <;> rcases hm b (by simp) with rfl | rfl | rfl <;> rcases hm c (by simp) with rfl | rfl | rfl <;> decide
theorem clean_of {x : Str} (h : cleanB x = true) : Clean vCode x := by
  unfold Clean
  exact eq_of_beq h
structure TurnOk (p l : Str) (t : Nat) : Prop where
  rep : Rep (Txt.mul (Str.ofString "n") (t : Int) ++ Str.ofString "o") l p (Txt.join l (Txt.split (Txt.mul (Str.ofString "n") (t : Int) ++ Str.ofString "o") (Str.ofString "n"))) (Txt.mul l (t : Int) ++ p)
  cr : Clean vCode (Txt.mul l (t : Int) ++ p)
  cl : Clean vCode l
  ll : l.length ≤ 50
  sl : l.cps.size ≤ 50
  lp : p.length ≤ 50
  l0 : 0 < l.length
  p0 : 0 < p.length
  lr : (Txt.mul l (t : Int) ++ p).length ≤ 50
  sr : (Txt.mul l (t : Int) ++ p).cps.size ≤ 50
  r0 : 0 < (Txt.mul l (t : Int) ++ p).length
theorem turn_ok {ts : List Nat} {t : Nat} (h : ts.length ≤ 2) (hm : ∀ t ∈ ts, t = 1 ∨ t = 2 ∨ t = 3) (ht : t = 1 ∨ t = 2 ∨ t = 3) : TurnOk (runW ts).p (runW ts).l t := by
  have h1 := List.all_eq_true.mp (List.all_eq_true.mp turn_all _ (mem_tsAll h hm)) t (by rcases ht with rfl | rfl | rfl <;> decide)
  unfold turnB at h1
  simp only [Bool.and_eq_true, decide_eq_true_eq] at h1
  obtain ⟨⟨⟨⟨⟨⟨⟨⟨⟨⟨⟨⟨⟨⟨h1, h2⟩, h3⟩, h4⟩, h5⟩, h6⟩, h7⟩, h8⟩, h9⟩, h10⟩, h11⟩, h12⟩, h13⟩, h14⟩, h15⟩ := h1
  exact ⟨⟨h1, rfl, h2, h3, h4, h5⟩, clean_of h6, clean_of h7, h8, h9, h10, h11, h12, h13, h14, h15⟩
theorem numeral_of {x : Str} (h : numB x = true) : Numeral x (valOf x) := by
  unfold numB at h
  simp only [Bool.and_eq_true, decide_eq_true_eq] at h
  obtain ⟨⟨⟨⟨⟨h1, h2⟩, h3⟩, h4⟩, h5⟩, h6⟩ := h
  refine ⟨h1, h2, h3, h4, h5, ?_⟩
  unfold valOf
  obtain ⟨n, e⟩ := Option.isSome_iff_exists.mp h6
  rw [e]
  rfl
theorem end_ok {ts : List Nat} (h : ts.length = 3) (hm : ∀ t ∈ ts, t = 1 ∨ t = 2 ∨ t = 3) : ∃ a b r1 : Int, Numeral (ones (runW ts).l.length) a ∧ Numeral (runW ts).l b ∧ 0 < a ∧ 0 < b ∧ 0 < r1 ∧ intBits a ≤ 160 ∧ intBits b ≤ 160 ∧ intBits r1 ≤ 160 ∧
    a % b = r1 ∧ b % r1 = 1 ∧ r1 % 1 = 0 ∧ (runW ts).ds = [a / b - 1, b / r1, r1 / 1] := by
  have h1 := List.all_eq_true.mp end_all _ (mem_tsAll3 h hm)
  unfold endB at h1
  simp only [Bool.and_eq_true, decide_eq_true_eq] at h1
  obtain ⟨⟨⟨⟨⟨⟨⟨⟨⟨⟨h1, h2⟩, h3⟩, h4⟩, h5⟩, h6⟩, h7⟩, h8⟩, h9⟩, h10⟩, h11⟩ := h1
  refine ⟨_, _, _, numeral_of h2, numeral_of h1, h3, h4, h5, h7, h8, h9, rfl, h6, Int.emod_one _, ?_⟩
  rw [h10, h6]
end Pg
end
-- PgTurn
section
namespace Pg
section
variable {prog : Program} {w : World} {A : Around} {E : Value → Shared → Prop} {s : Shared} {env : Env} {h₀ : Heap} {x : Str} {body : List Stmt} {Q : Flow → Shared → Prop} {I : Addr} {lp : Addr × Obj}
theorem listRest_ind (Inv : List Value → (Str → Option Value) → List (Addr × Obj) → Prop)
   (step : ∀ v r m news, Inv (v :: r) m news → ∀ (it : Obj) h tk, it.cls = .type "list_iterator" → Fr h₀ env.locals h (fun y => if y = x then some v else m y) → News h₀ env.locals h ((I, it) :: news) →
      wpAny (model prog w) A (execs body env) (UnrPost h₀ env.locals { s with heap := h, toks := tk } I it (fun m' n' => lp ∈ n' ∧ Inv r m' n') Q) E { s with heap := h, toks := tk })
   (done : ∀ m news, Inv [] m news → ∀ h tk, Fr h₀ env.locals h m → News h₀ env.locals h news → Q .next { s with heap := h, toks := tk }) :
   ∀ vs m news, Inv vs m news → ListRest prog w A E h₀ env x body Q s I lp vs m news
  | [], m, news, hi => done m news hi
  | v :: r, m, news, hi => fun it h tk hc F N =>
    wpAny_mono (step v r m news hi it h tk hc F N) (fun _ _ p => unrPost_mono p fun m' n' q => ⟨q.1, listRest_ind Inv step done r m' n' q.2⟩) fun _ _ e => e
end
def NewerNm (nm : Str) : Prop := nm = Str.ofString "newer" ∨ nm = Str.ofString "Newer"
theorem NewerNm.lower {nm : Str} (h : NewerNm nm) : Txt.lower nm = Str.ofString "newer" := by rcases h with rfl | rfl <;> decide +kernel
section
variable {prog : Program} {w : World} {A : Around} {E : Value → Shared → Prop} {s : Shared} {Q : Value → Shared → Prop} {l : Addr}
theorem pick2 {value slice : PySem.Expr} {x k : Int} {u t1 t2 : Tok} (hl : s.heap.IsList l (List.toArray [.str (Str.ofString "newer") t1, .str (Str.ofString "Newer") t2])) (hk : k = x.fmod 2) (h : ∀ nm t, NewerNm nm → Q (.str nm t) s)
    (hs : subscripted slice false (.ref l) (.int k u) = operate [.ref l, .int k u] (getItem (.ref l) (.int k u)) := by with_unfolding_all rfl) :
    wpAny (model prog w) A (subscriptTail value slice (.ref l) (.int k u)) Q E s := by
  have e : x.fmod 2 = x % 2 := Int.fmod_eq_emod_of_nonneg _ (by decide)
  have h2 : k = 0 ∨ k = 1 := by omega
  rcases h2 with rfl | rfl
  · exact item_litK hl (by decide) (by decide) rfl (h _ _ (.inl rfl)) hs
  · exact item_litK hl (by decide) (by decide) rfl (h _ _ (.inr rfl)) hs
theorem last1 {value slice : PySem.Expr} {u : Tok} {pre : List Value} {a b : Value} (hl : s.heap.IsList l (List.toArray (pre ++ [a, b]))) (h : Q b s)
    (hs : subscripted slice false (.ref l) (.int (-1) u) = operate [.ref l, .int (-1) u] (getItem (.ref l) (.int (-1) u)) := by with_unfolding_all rfl) :
    wpAny (model prog w) A (subscriptTail value slice (.ref l) (.int (-1) u)) Q E s := by
  refine kde_neg (j := pre.length + 1) hl (by decide) (by decide) ?_ ?_ h hs
  · unfold seqIndex?
    simp only [List.length_append, List.length_cons, List.length_nil]
    split <;> simp <;> omega
  · simp
theorem last2 {value slice : PySem.Expr} {u : Tok} {pre : List Value} {a b : Value} (hl : s.heap.IsList l (List.toArray (pre ++ [a, b]))) (h : Q a s)
    (hs : subscripted slice false (.ref l) (.int (-2) u) = operate [.ref l, .int (-2) u] (getItem (.ref l) (.int (-2) u)) := by with_unfolding_all rfl) :
    wpAny (model prog w) A (subscriptTail value slice (.ref l) (.int (-2) u)) Q E s := by
  refine kde_neg (j := pre.length) hl (by decide) (by decide) ?_ ?_ h hs
  · unfold seqIndex?
    simp only [List.length_append, List.length_cons, List.length_nil]
    split <;> simp <;> omega
  · simp
end
def mapT (uv ut un ug : Option Value) (m₀ : Str → Option Value) : Str → Option Value :=
  fun y => if y = Str.ofString "grown" then ug else if y = Str.ofString "name" then un else if y = Str.ofString "times" then ut else if y = Str.ofString "v" then uv else m₀ y
theorem mapT_self (m₀ : Str → Option Value) : m₀ = mapT (m₀ (Str.ofString "v")) (m₀ (Str.ofString "times")) (m₀ (Str.ofString "name")) (m₀ (Str.ofString "grown")) m₀ := by
  funext y
  unfold mapT
  split
  · next h => rw [h]
  · split
    · next h => rw [h]
    · split
      · next h => rw [h]
      · split
        · next h => rw [h]
        · rfl
theorem mapT_step {a b c d g n t v : Option Value} {m₀ : Str → Option Value} :
    (fun y => if y = Str.ofString "grown" then g else if y = Str.ofString "name" then n else if y = Str.ofString "times" then t else if y = Str.ofString "v" then v else mapT a b c d m₀ y) = mapT v t n g m₀ := by
  funext y
  unfold mapT
  split
  · rfl
  · split
    · rfl
    · split
      · rfl
      · split
        · rfl
        · rfl
abbrev pair (k : Str) (tk : Tok) (v : Str) (tv : Tok) (c : Nat) : Obj := { cls := .type "tuple", data := .seq #[.str k tk, .str v tv] c }
/-- what stands between the turns of the law's loop -/
def TurnInv (m₀ : Str → Option Value) (Du W hl : Addr) (fixed : List (Addr × Obj)) (vs : List Value) (m : Str → Option Value) (news : List (Addr × Obj)) : Prop :=
  ∃ (ts : List Nat) (k1 k2 : Str) (k1t k2t v1t v2t tp tl : Tok) (c1 c2 cD cW cH : Nat) (p1 p2 : Addr) (pre dvs : List Value) (uv ut un ug : Option Value),
    (∀ v ∈ vs, ∃ a t, v = .int a t) ∧ ts.length + vs.length = 3 ∧ (∀ t ∈ ts, t = 1 ∨ t = 2 ∨ t = 3) ∧ Txt.lower k1 = Str.ofString "older" ∧ NewerNm k2 ∧
    (ts ≠ [] → k1 = Str.ofString "oldER" ∧ ∃ tn, un = some (.str k2 tn)) ∧ pre.length = ts.length ∧ IntsAre dvs (runW ts).ds ∧ m = mapT uv ut un ug m₀ ∧
    news = (Du, PySem.W.listOf (List.toArray dvs) cD) :: (W, PySem.W.listOf (List.toArray (pre ++ [.str (runW ts).p tp, .str (runW ts).l tl])) cW) :: (hl, PySem.W.listOf #[.ref p1, .ref p2] cH) :: (p1, pair k1 k1t (runW ts).p v1t c1) :: (p2, pair k2 k2t (runW ts).l v2t c2) :: fixed
section
variable {prog : Program} {w : World} {A : Around} {E : Value → Shared → Prop} {s : Shared} {env : Env} {h₀ : Heap} {x : Str} {body : List Stmt} {Q : Flow → Shared → Prop} {I : Addr} {lp : Addr × Obj}
theorem listRest_sub {m : Str → Option Value} {news news' : List (Addr × Obj)} (hs : ∀ p ∈ news', p ∈ news) : ∀ {vs : List Value}, ListRest prog w A E h₀ env x body Q s I lp vs m news' → ListRest prog w A E h₀ env x body Q s I lp vs m news
  | [], h => fun h' tk F N => h h' tk F (fun p hp => N p (hs p hp))
  | _ :: _, h => fun it h' tk hc F N => h it h' tk hc F (fun p hp => N p (by
      rcases List.mem_cons.mp hp with rfl | hp
      · exact .head _
      · exact .tail _ (hs p hp)))
theorem loop_pg {m : Str → Option Value} {Du W T dx hl p1 p2 : Addr} {oT oD : Obj} {rest : List (Addr × Obj)} {a b c : Int} {ta tb tc tp tl k1t k2t v1t v2t : Tok} {cD cW cH c1 c2 : Nat}
   (step : ∀ v r m' news, TurnInv m Du W hl ((T, oT) :: (dx, oD) :: rest) (v :: r) m' news → ∀ (it : Obj) h tk, it.cls = .type "list_iterator" → Fr h₀ env.locals h (fun y => if y = x then some v else m' y) → News h₀ env.locals h ((I, it) :: news) →
      wpAny (model prog w) A (execs body env) (UnrPost h₀ env.locals { s with heap := h, toks := tk } I it (fun m' n' => lp ∈ n' ∧ TurnInv m Du W hl ((T, oT) :: (dx, oD) :: rest) r m' n') Q) E { s with heap := h, toks := tk })
   (done : ∀ m' news, TurnInv m Du W hl ((T, oT) :: (dx, oD) :: rest) [] m' news → ∀ h tk, Fr h₀ env.locals h m' → News h₀ env.locals h news → Q .next { s with heap := h, toks := tk }) :
   ListRest prog w A E h₀ env x body Q s I lp [.int a ta, .int b tb, .int c tc] m ((Du, PySem.W.listOf #[] cD) :: (W, PySem.W.listOf #[.str (Str.ofString "1") tp, .str (Str.ofString "0") tl] cW) :: (T, oT) :: (dx, oD) :: (hl, PySem.W.listOf #[.ref p1, .ref p2] cH) ::
     (p2, pair (Str.ofString "newer") k2t (Str.ofString "0") v2t c2) :: (p1, pair (Str.ofString "Older") k1t (Str.ofString "1") v1t c1) :: rest) := by
  refine listRest_sub (news' := (Du, PySem.W.listOf #[] cD) :: (W, PySem.W.listOf #[.str (Str.ofString "1") tp, .str (Str.ofString "0") tl] cW) :: (hl, PySem.W.listOf #[.ref p1, .ref p2] cH) ::
     (p1, pair (Str.ofString "Older") k1t (Str.ofString "1") v1t c1) :: (p2, pair (Str.ofString "newer") k2t (Str.ofString "0") v2t c2) :: (T, oT) :: (dx, oD) :: rest) ?_ (listRest_ind (TurnInv m Du W hl ((T, oT) :: (dx, oD) :: rest)) step done _ _ _ ?_)
  · intro p hp
    simp only [List.mem_cons] at hp ⊢
    rcases hp with h | h | h | h | h | h | h | h <;> simp only [h, true_or, or_true]
  · refine ⟨[], Str.ofString "Older", Str.ofString "newer", k1t, k2t, v1t, v2t, tp, tl, c1, c2, cD, cW, cH, p1, p2, [], [], _, _, _, _, ?_, rfl, fun _ h => (nomatch h), by decide +kernel, .inl rfl, fun h => absurd rfl h, rfl, .nil, mapT_self m, rfl⟩
    intro v hv
    simp only [List.mem_cons, List.not_mem_nil, or_false] at hv
    rcases hv with rfl | rfl | rfl
    · exact ⟨_, _, rfl⟩
    · exact ⟨_, _, rfl⟩
    · exact ⟨_, _, rfl⟩
end
section
variable {prog : Program} {w : World} {A : Around} {E : Value → Shared → Prop} {s : Shared} {Q : Value → Shared → Prop}
theorem times_of (a : Int) : ∃ t : Nat, (t = 1 ∨ t = 2 ∨ t = 3) ∧ 1 + a.fmod 3 = (t : Int) := by
  have e : a.fmod 3 = a % 3 := Int.fmod_eq_emod_of_nonneg _ (by decide)
  rw [e]
  have h1 := Int.emod_nonneg a (by decide : (3 : Int) ≠ 0)
  have h2 := Int.emod_lt_of_pos a (by decide : (0 : Int) < 3)
  refine ⟨(1 + a % 3).toNat, ?_, ?_⟩ <;> omega
theorem times_pg {a : Int} {t : Nat} {t1 u : Tok} (et : 1 + a.fmod 3 = (t : Int)) (h : ∀ tk tk', Q (.int (t : Int) tk) { s with toks := tk' }) : wpAny (model prog w) A (binaryOp .Add (.int 1 t1) (.int (a.fmod 3) u)) Q E s :=
  PyProof.Rows.add_int (by rw [et]; exact h _ _)
theorem cat_pg {x y : Str} {t u : Tok} (hl : (x ++ y).length ≤ 1000) (h : ∀ t' tk, Q (.str (x ++ y) t') { s with toks := tk }) : wpAny (model prog w) A (binaryOp .Add (.str x t) (.str y u)) Q E s :=
  PyProof.Rows.add_str h (by rw [PySem.Str.length_append] at hl; rw [sizeLine_eq]; omega)
end
theorem lower_pg {prog : Program} {w : World} {A : Around} {E : Value → Shared → Prop} {s : Shared} {Q : Value → Shared → Prop} {x y : Str} {t : Tok} (e : Txt.lower x = y) (hf : Builtin.Str.tooLong y.length = false) (h : ∀ t' k, Q (.str y t') { s with toks := k }) : wpAny (model prog w) A (call (.builtin "str.lower") [.str x t]) Q E s :=
  KXw.lower e (by rw [e]; exact hf) h
end Pg
end
-- PgDel
section
namespace Pg
section
variable {M : Model} {A : Around} {E : Value → Shared → Prop} {s : Shared} {K : Frag} {x C L f : Addr} {h₀ : Heap} {m : Str → Option Value} {ox : Obj} {od : Option Obj} {i : Value}
theorem pg_delItem {Q : Unit → Shared → Prop} (F : Fr h₀ L s.heap m) (X₀ : K.In h₀) (I : InstAt s.heap x ox C od) (hq : noSeq K C = true) (hs : findIn K (.ref C) "__delitem__" = some (some (.ref f))) (hf : isFn K (.ref f) = true)
    (h : wpAny M A (call (.ref f) [.ref x, i]) (fun _ s' => Q () s') E s) : wpAny M A (delItem (.ref x) i) Q E s := by
  have X := X₀.keeps F.keep
  unfold delItem sequenceKey
  refine wpAny_holding (wpAny_bind (wpAny_bind (I.type.here ?_)))
  refine wpAny_bind ((anyM_none X hq).here ?_)
  rw [if_pos (show (!false) = true from rfl)]
  exact wpAny_pure (wpAny_bind (special_fn X I hs (beq_iff_eq.mp hf) (wpAny_mono h (fun _ _ z => wpAny_pure z) fun _ _ z => z)))
end
end Pg
end
-- PgSlice
section
namespace Pg
section
variable {prog : Program} {w : World} {A : Around} {E : Value → Shared → Prop} {s : Shared} {h₀ : Heap} {L : Addr} {m : Str → Option Value} {news : List (Addr × Obj)} {g : Obj → List (Addr × Obj)}
theorem setSlice_at {l sl D : Addr} {items new : Array Value} {n k : Nat} {Q : Unit → Shared → Prop} (ho : s.heap.get? l = some (PySem.W.listOf items n)) (hv : s.heap.get? D = some (PySem.W.listOf new k)) (hne : l ≠ D)
    (hs : s.heap.IsSliceOf sl .none .none .none) (z1 : items.size ≤ 100) (z2 : new.size ≤ 100)
    (h : Q () { s with heap := s.heap.update l (Obj.mapSeq fun xs => xs.extract 0 0 ++ new ++ xs.extract items.size xs.size) }) :
    wpAny (model prog w) A (setItem (.ref l) (.ref sl) (.ref D)) Q E s := by
  have hl : s.heap.IsList l items := PySem.IsL.isList (n := n) ho
  obtain ⟨os, hos, hcs, hds⟩ := id hs
  have hTs : s.TypeIs (.ref sl) "slice" := ⟨os, hos, hcs⟩
  have hTv : s.TypeIs (.ref D) "list" := ⟨_, hv, rfl⟩
  unfold setItem
  try with_reducible refine wpAny_holding ?_
  first | refine wpAny_bind (wpAny_pure ?_) | skip
  refine wpAny_bind (wpAny_sequenceKey hl.typeIs (by decide) ?_)
  refine wpAny_bind (wpAny_callSpecial?_slot (name := Str.ofString "__setitem__") hl.typeIs slot_list_setitem
    (wpAny_call_entry slot_list_setitem hl.typeIs entry_list_setitem ?_ (args_list_setitem _ _ _)))
  show wpAny _ _ (Builtin.List.listSubscript? (.ref sl) >>= _) _ _ s
  refine wpAny_bind ?_
  unfold Builtin.List.listSubscript?
  refine wpAny_bind (wpAny_specialOf hTs slice_no_index ?_)
  simp only [Option.isNone_none, if_true]
  refine wpAny_pure ?_
  show wpAny _ _ (typeOf (.ref sl) >>= _) _ _ s
  refine wpAny_bind (wpAny_typeOf hTs ?_)
  rw [if_neg (by decide)]
  rw [listSliceParts_eq]
  refine wpAny_bind (wpAny_bind (wpAny_field hos hds (x := .none) rfl (wpAny_bind (wpAny_listPart .none ?_))))
  rw [if_neg (by exact Bool.false_ne_true)]
  refine wpAny_bind (wpAny_field hos hds (x := .none) rfl (wpAny_bind (wpAny_listPart .none ?_)))
  refine wpAny_bind (wpAny_field hos hds (x := .none) rfl (wpAny_bind (wpAny_listPart .none (wpAny_pure ?_))))
  dsimp only
  rw [if_neg (by simpa [Builtin.List.listSameRef] using hne)]
  refine wpAny_bind ?_
  · unfold Builtin.List.listAllItems
    refine wpAny_bind (wpAny_typeOf hTv ?_)
    rw [if_pos (by decide)]
    unfold Builtin.List.listItems
    refine wpAny_bind (wpAny_seqItems hv rfl (wpAny_pure ?_))
    refine wpAny_bind (m := Builtin.List.listItems (.ref l)) ?_
    unfold Builtin.List.listItems
    refine wpAny_bind (wpAny_seqItems ho rfl (wpAny_pure ?_))
    refine wpAny_bind (wpAny_of_eq (sliceIndices_raw none none none items.size (by simp)) ?_)
    have eb : sliceBounds none none none items.size = (0, (items.size : Int), 1) := by simp [sliceBounds]
    rw [eb]
    rw [if_pos (by rfl)]
    refine wpAny_bind (wpAny_rule ?_)
    rw [if_neg (by simp [Builtin.List.listTooLong, sizeLine_eq]; omega)]
    have e2 : (max (0 : Int) (items.size : Int)).toNat = items.size := by omega
    dsimp only
    rw [e2]
    refine wpAny_bind (listUpdate_at ho rfl ?_ (by rw [sizeLine_eq]; omega) (by rw [sizeLine_eq]; simp; omega))
    refine wpAny_bind (wpAny_letGo ?_)
    exact wpAny_pure ⟨.none, rfl, wpAny_pure h⟩
theorem pg_setSlice {l D : Addr} {items new : Array Value} {n k : Nat} {Q : Unit → Shared → Prop} (F : Fr h₀ L s.heap m) (N : News h₀ L s.heap news) (U : UpdF l (PySem.W.listOf items n) news g) (hm : (D, PySem.W.listOf new k) ∈ news) (hne : l ≠ D)
    (z1 : items.size ≤ 100) (z2 : new.size ≤ 100) (h : ∀ h' n', Fr h₀ L h' m → News h₀ L h' (g (PySem.W.listOf new n')) → Q () { s with heap := h' }) :
    wpAny (model prog w) A (setItem (.ref l) (.ref s.heap.objs.size) (.ref D)) Q E { s with heap := s.heap.push { cls := .type "slice", data := .fields #[.none, .none, .none] } } := by
  obtain ⟨pre, post, rfl, hg, a, b⟩ := U.split
  have F1 := F.push { cls := .type "slice", data := .fields #[.none, .none, .none] }
  have N1 := N.pushKeep { cls := .type "slice", data := .fields #[.none, .none, .none] }
  have z := N1 (l, PySem.W.listOf items n) (List.mem_append.mpr (.inr (.head _)))
  refine setSlice_at z.1 (N1 _ hm).1 hne (Heap.IsSliceOf.new ..) z1 z2 (h _ (if new.size == items.size then n else n + 1) (F1.change (Heap.SameBut.update ..) z.2.1 z.2.2) ?_)
  rw [hg]
  refine ki_turn _ N1 a b ?_ rfl
  simp
end
end Pg
end
-- C9
section
namespace Pg
theorem clean_older : Clean nCode (Str.ofString "older") := by unfold Clean; decide +kernel
theorem clean_newer : Clean nCode (Str.ofString "newer") := by unfold Clean; decide +kernel
theorem SubL.of {all : List (Addr × Obj)} : ∀ {l : List (Addr × Obj)}, (∀ p ∈ l, p ∈ all) → SubL l all
  | [], _ => trivial
  | _ :: _, h => ⟨h _ List.mem_cons_self, SubL.of fun p hp => h p (List.mem_cons_of_mem _ hp)⟩
theorem OffW.of {I : Addr} {it : Obj} : ∀ {l : List (Addr × Obj)}, (∀ p ∈ l, p.1 < I) → OffW [(I, it)] l
  | [], _ => trivial
  | _ :: _, h => ⟨⟨.inl (Nat.ne_of_lt (h _ List.mem_cons_self)), trivial⟩, OffW.of fun p hp => h p (List.mem_cons_of_mem _ hp)⟩
theorem unrEndW_one {h₀ : Heap} {L I : Addr} {it : Obj} {keep nl : List (Addr × Obj)} {R : (Str → Option Value) → List (Addr × Obj) → Prop} {s₁ : Shared} {h' : Heap} {tk : Nat} {m' : Str → Option Value}
   (F : Fr h₀ L h' m') (N : News h₀ L h' ((I, it) :: nl)) (hlt : ∀ p ∈ nl, p.1 < I) (hk : ∀ p ∈ keep, p ∈ nl) (r : R m' nl) :
   UnrEndW h₀ L s₁ [(I, it)] (fun m' n' => SubL keep n' ∧ R m' n') { s₁ with heap := h', toks := tk } :=
  UnrEndW.intro F N nl ⟨List.mem_cons_self, trivial⟩ (SubL.of fun p hp => List.mem_cons_of_mem _ hp) (OffW.of hlt) ⟨SubL.of hk, r⟩
section
local macro_rules | `(tactic| k_room) => `(tactic| ktr_room)
local macro_rules | `(tactic| k_mem) => `(tactic| ((repeat (refine List.mem_cons_of_mem _ ?_)); ktr_member))
local macro_rules | `(tactic| ktr_enter) => `(tactic| (refine' code_def ?k1 ?k2 ?k3 ?k4 ?k5 ?kA ?kF ?kK ?k6 ?k7 ?k8 ?k9 ?kB ?_ ?c2 ?c3 ?c4 ?c5; (case kA => exact rfl); (case kF => exact rfl); (case kK => assumption); (case k1 => k_asm); (case k2 => k_asm); (case k3 => k_asm); (case k4 => k_asm); (case k5 => k_asm); (case k6 => k_is); (case k7 => k_is); (case k8 => k_room); (case k9 => first | exact BindsTo.of_eq rfl | exact binds_K (by k_in) rfl (by k_is) rfl rfl rfl | (refine' kp_binds ?kx ?ke; (case kx => k_in); (case ke => exact fun _ => rfl))); (case c5 => decide); (case kB => exact locs rfl); (case c2 => exact rfl); (case c3 => exact rfl); (case c4 => exact rfl); k_whole; intro g' L' h' FG' F' N' B' X' T'; (try dsimp only); (try k_lift B'); (try k_fold)))
set_option maxRecDepth 100000 in
set_option maxHeartbeats 8000000 in
theorem c_get_new : ∀ (w : World) (news : List (Addr × Obj)) (T dx hl p1 p2 : Addr) (tk k1t k2t v1t v2t : Tok) (k1 k2 v1 v2 : Str) (c c1 c2 : Nat) (x : Str) (t : Tok),
   Txt.lower k1 = Str.ofString "older" → Txt.lower k2 = Str.ofString "newer" → Txt.lower x = Str.ofString "newer" →
   Told1 w 10 100 189 [.ref T, .str x t] ((hl, W.listOf #[.ref p1, .ref p2] c) :: (p1, pair k1 k1t v1 v1t c1) :: (p2, pair k2 k2t v2 v2t c2) :: (T, instObj 242 dx) :: (dx, W.dictOf [{ hash := PyData.keyHash w.params (Str.ofString "_headers"), key := Value.str (Str.ofString "_headers") tk, val := Value.ref hl }] 1) :: news) fun K => K (.str v2 v2t) news := by
  w_top off
  k_with_none
  k_with "call builtin:str.lower cons nil" => (k_here; k_dflt (refine lower_pg (by assumption) (by decide +kernel) ?_); intro t9 k9)
  k_with "pyIter ref" => (k_here; (with_reducible show wpAny _ _ (pyIter (Value.ref _)) (fun it s₂ => TurnsAt _ _ _ _ _ _ _ _ _ it s₂) _ _); (rename Fr _ _ _ _ => lF'); (rename News _ _ _ _ => lN'); (with_unfolding_all refine iter_listTurns (vs := [.ref _, .ref _]) (by rfl) lF' lN' (.head _) (by rfl) (by rfl) ?_); clear lF' lN'; intro i' l1)
  k_with "UnrEndW cons" => (refine unrEndW_one (by assumption) (by assumption) (by assumption) (by simp) ?_)
  k_with "exec For Tuple Attribute cons nil" => (k_here; (rename Fr _ _ _ _ => lF'); (with_unfolding_all refine' For_turns lF' ?_; k_whole))
  k_with "call ref cons" => (k_here; (show wpAny _ _ (call (Value.ref _) _ [(Str.ofString "name", Value.bool _)]) _ _ _); (with_reducible show wpAny _ _ (call (Value.ref _) _ [(Str.ofString "name", Value.bool true)]) _ _ _); k_dflt (refine' use_told3 (c_convN _ _ _ _ _ ?zcl ?zsz) ?zB ?zF ?zX ?zN ?zT ?zhk ?zhd ?zhu ?_); (case zB => k_asm); (case zF => k_asm); (case zX => k_asm); (case zN => k_asm); (case zT => k_asm); (case zhk => exact rfl); (case zhd => ktr_room); (case zhu => ktr_units); (case zcl => with_reducible first | assumption | exact clean_newer | exact clean_older); (case zsz => first | assumption | decide); intro h' tk' F' N')
  k_with "call ref cons" => (k_here; (show wpAny _ _ (call (Value.ref _) _ [(Str.ofString "name", Value.bool _)]) _ _ _); (with_reducible show wpAny _ _ (call (Value.ref _) _ [(Str.ofString "name", Value.bool false)]) _ _ _); k_dflt (refine' use_told3 (c_convV _ _ _ _ _ ?zcl ?zsz) ?zB ?zF ?zX ?zN ?zT ?zhk ?zhd ?zhu ?_); (case zB => k_asm); (case zF => k_asm); (case zX => k_asm); (case zN => k_asm); (case zT => k_asm); (case zhk => exact rfl); (case zhd => ktr_room); (case zhu => ktr_units); (case zcl => with_reducible first | assumption | exact clean_newer | exact clean_older); (case zsz => first | assumption | decide); intro h' tk' F' N')
  w_strict (
    unfold Told1
    k_fill
    intro w news TT dx hl p1 p2 tk k1t k2t v1t v2t k1 k2 v1 v2 c c1 c2 x t e1 e2 e3 loose mean mg mb dp un gd cn cs ad ccd cl outer A₀ base h₀ L m s Q E B F X N T hk hd hu C1 C2 C3 hret
    dsimp only at hret
    refine wpAny_call ?_
    k_dflt ktr_enter
    repeat (first | (k_unfold; (try dsimp only)) | (k_end; wrow_close) | walk1 | (dsimp only; walk1) | (leave1; walk_say "STEP leave1"; try dsimp only) | fail "no step")
    all_goals exact hret _ _ (by k_asm) (cb_drop (by k_asm) (fun p9 h9 => by (repeat (first | exact h9 | refine List.mem_cons_of_mem _ ?_))))
    )
set_option maxRecDepth 100000 in
set_option maxHeartbeats 8000000 in
theorem c_get_old : ∀ (w : World) (news : List (Addr × Obj)) (T dx hl p1 p2 : Addr) (tk k1t k2t v1t v2t : Tok) (k1 k2 v1 v2 : Str) (c c1 c2 : Nat) (x : Str) (t : Tok),
   Txt.lower k1 = Str.ofString "older" → Txt.lower k2 = Str.ofString "newer" → Txt.lower x = Str.ofString "older" →
   Told1 w 10 100 189 [.ref T, .str x t] ((hl, W.listOf #[.ref p1, .ref p2] c) :: (p1, pair k1 k1t v1 v1t c1) :: (p2, pair k2 k2t v2 v2t c2) :: (T, instObj 242 dx) :: (dx, W.dictOf [{ hash := PyData.keyHash w.params (Str.ofString "_headers"), key := Value.str (Str.ofString "_headers") tk, val := Value.ref hl }] 1) :: news) fun K => K (.str v1 v1t) news := by
  w_top off
  k_with_none
  k_with "call builtin:str.lower cons nil" => (k_here; k_dflt (refine lower_pg (by assumption) (by decide +kernel) ?_); intro t9 k9)
  k_with "pyIter ref" => (k_here; (with_reducible show wpAny _ _ (pyIter (Value.ref _)) (fun it s₂ => TurnsAt _ _ _ _ _ _ _ _ _ it s₂) _ _); (rename Fr _ _ _ _ => lF'); (rename News _ _ _ _ => lN'); (with_unfolding_all refine iter_listTurns (vs := [.ref _, .ref _]) (by rfl) lF' lN' (.head _) (by rfl) (by rfl) ?_); clear lF' lN'; intro i' l1)
  k_with "UnrEndW cons" => (refine unrEndW_one (by assumption) (by assumption) (by assumption) (by simp) ?_)
  k_with "exec For Tuple Attribute cons nil" => (k_here; (rename Fr _ _ _ _ => lF'); (with_unfolding_all refine' For_turns lF' ?_; k_whole))
  k_with "call ref cons" => (k_here; (show wpAny _ _ (call (Value.ref _) _ [(Str.ofString "name", Value.bool _)]) _ _ _); (with_reducible show wpAny _ _ (call (Value.ref _) _ [(Str.ofString "name", Value.bool true)]) _ _ _); k_dflt (refine' use_told3 (c_convN _ _ _ _ _ ?zcl ?zsz) ?zB ?zF ?zX ?zN ?zT ?zhk ?zhd ?zhu ?_); (case zB => k_asm); (case zF => k_asm); (case zX => k_asm); (case zN => k_asm); (case zT => k_asm); (case zhk => exact rfl); (case zhd => ktr_room); (case zhu => ktr_units); (case zcl => with_reducible first | assumption | exact clean_newer | exact clean_older); (case zsz => first | assumption | decide); intro h' tk' F' N')
  k_with "call ref cons" => (k_here; (show wpAny _ _ (call (Value.ref _) _ [(Str.ofString "name", Value.bool _)]) _ _ _); (with_reducible show wpAny _ _ (call (Value.ref _) _ [(Str.ofString "name", Value.bool false)]) _ _ _); k_dflt (refine' use_told3 (c_convV _ _ _ _ _ ?zcl ?zsz) ?zB ?zF ?zX ?zN ?zT ?zhk ?zhd ?zhu ?_); (case zB => k_asm); (case zF => k_asm); (case zX => k_asm); (case zN => k_asm); (case zT => k_asm); (case zhk => exact rfl); (case zhd => ktr_room); (case zhu => ktr_units); (case zcl => with_reducible first | assumption | exact clean_newer | exact clean_older); (case zsz => first | assumption | decide); intro h' tk' F' N')
  w_strict (
    unfold Told1
    k_fill
    intro w news TT dx hl p1 p2 tk k1t k2t v1t v2t k1 k2 v1 v2 c c1 c2 x t e1 e2 e3 loose mean mg mb dp un gd cn cs ad ccd cl outer A₀ base h₀ L m s Q E B F X N T hk hd hu C1 C2 C3 hret
    dsimp only at hret
    refine wpAny_call ?_
    k_dflt ktr_enter
    repeat (first | (k_unfold; (try dsimp only)) | (k_end; wrow_close) | walk1 | (dsimp only; walk1) | (leave1; walk_say "STEP leave1"; try dsimp only) | fail "no step")
    all_goals exact hret _ _ (by k_asm) (cb_drop (by k_asm) (fun p9 h9 => by (repeat (first | exact h9 | refine List.mem_cons_of_mem _ ?_))))
    )
theorem Told1.widen {w : World} {dep uni : Nat} {f : Addr} {vs : List Value} {H news : List (Addr × Obj)} {R : (Value → List (Addr × Obj) → Prop) → Prop} (C : Told1 w dep uni f vs (H ++ news) R) (h : ∀ p ∈ H, p ∈ news) : Told1 w dep uni f vs news R :=
  fun loose mean mg mb dp un gd cn cs ad ccd cl outer A₀ base h₀ L m s Q E B F X N T hk hd hu C1 C2 C3 hR => C loose mean mg mb dp un gd cn cs ad ccd cl outer A₀ base h₀ L m s Q E B F X (fun p hp => by
    rcases List.mem_append.mp hp with hp | hp
    · exact N p (h p hp)
    · exact N p hp) T hk hd hu C1 C2 C3 hR
end
end Pg
end
-- C10
section
namespace Pg
theorem news_ne {h₀ h : Heap} {L a b : Addr} {o o' : Obj} {news : List (Addr × Obj)} (N : News h₀ L h news) (h1 : (a, o) ∈ news) (h2 : (b, o') ∈ news) (hc : o.cls ≠ o'.cls) : @Ne Nat a b := fun e => by
  have q1 := (N _ h1).1
  have q2 := (N _ h2).1
  have e' : a = b := e
  subst e'
  exact hc (congrArg Obj.cls (Option.some.inj (q1.symm.trans q2)))
section
local macro_rules | `(tactic| ktr_enter) => `(tactic| (refine' code_defC ?k1 ?k2 ?k3 ?k4 ?k5 ?kA ?kF ?kK ?k6 ?k7 ?k8 ?k9 ?kB ?kD ?_ ?c2 ?c3 ?c4; (case kA => exact rfl); (case kF => exact rfl); (case kK => assumption); (case k1 => k_asm); (case k2 => k_asm); (case k3 => k_asm); (case k4 => k_asm); (case k5 => k_asm); (case k6 => k_is); (case k7 => k_is); (case k8 => k_room); (case k9 => first | exact BindsTo.of_eq rfl | exact binds_K (by k_in) rfl (by k_is) rfl rfl rfl | fail "k_enter: no rule for these arguments"); (case kB => exact rfl); (case kD => decide +kernel); (case c2 => exact rfl); (case c3 => exact rfl); (case c4 => exact rfl); k_whole; intro g' L' h' tk' cells' FG' F' N' Y' B' X' T' l1; (have hT' := fun p hp => l1 p (List.mem_cons_of_mem _ hp)); (try k_lt l1); k_cells Y'; (try simp only [List.cons_append, List.nil_append] at N'); (try dsimp only); (try k_lift B'); (try k_fold)))
local macro_rules | `(tactic| k_all) => `(tactic| first | with_reducible assumption | exact pg_tail (by assumption) (by omega))
local macro_rules | `(tactic| k_room) => `(tactic| ktr_room)
local macro_rules | `(tactic| k_mem) => `(tactic| ((repeat (refine List.mem_cons_of_mem _ ?_)); ktr_member))
set_option maxRecDepth 100000 in
set_option maxHeartbeats 8000000 in
theorem c_del_old : ∀ (w : World) (news : List (Addr × Obj)) (TT dx hl p1 p2 : Addr) (tk k1t k2t v1t v2t : Tok) (k1 k2 v1 v2 : Str) (c c1 c2 : Nat) (x : Str) (t : Tok),
   Txt.lower k1 = Str.ofString "older" → Txt.lower k2 = Str.ofString "newer" → Txt.lower x = Str.ofString "older" → (∀ p ∈ news, p.1 ≠ hl) →
   Told1 w 10 100 160 [.ref TT, .str x t] ((hl, W.listOf #[.ref p1, .ref p2] c) :: (p1, pair k1 k1t v1 v1t c1) :: (p2, pair k2 k2t v2 v2t c2) :: (TT, instObj 242 dx) :: (dx, W.dictOf [{ hash := PyData.keyHash w.params (Str.ofString "_headers"), key := Value.str (Str.ofString "_headers") tk, val := Value.ref hl }] 1) :: news) fun K => ∀ c', K .none ((hl, W.listOf #[.ref p2] c') :: (p1, pair k1 k1t v1 v1t c1) :: (p2, pair k2 k2t v2 v2t c2) :: (TT, instObj 242 dx) :: (dx, W.dictOf [{ hash := PyData.keyHash w.params (Str.ofString "_headers"), key := Value.str (Str.ofString "_headers") tk, val := Value.ref hl }] 1) :: news) := by
  w_top off
  k_with_none
  k_with "call builtin:str.lower cons nil" => (k_here; k_dflt (refine lower_pg (by assumption) (by decide +kernel) ?_); intro t9 k9)
  k_with "pyIter ref" => (k_here; (with_reducible show wpAny _ _ (pyIter (Value.ref _)) (fun it s₂ => TurnsAt _ _ _ _ _ _ _ _ _ it s₂) _ _); (rename Fr _ _ _ _ => lF'); (rename News _ _ _ _ => lN'); (with_unfolding_all refine iter_listTurns (vs := [.ref _, .ref _]) (by rfl) lF' lN' (.head _) (by rfl) (by rfl) ?_); clear lF' lN'; intro i' l1)
  k_with "CompEnd none" => (refine LCg.CompEnd.intro (by assumption) (by assumption) _ (fun _ h => h) (by simp only [LCg.Off3, and_true]; assumption) (by lcg_src) ?_)
  k_with "CompEnd ref" => (refine LCg.CompEnd.intro (by assumption) (by assumption) _ (fun _ h => h) (by simp only [LCg.Off3, and_true]; assumption) (by lcg_src) ?_)
  k_with "UnrEndW cons" => (refine unrEndW_one (by assumption) (by assumption) (by assumption) (by simp) ?_)
  k_with "exec For Tuple Attribute cons nil" => (k_here; (rename Fr _ _ _ _ => lF'); (with_unfolding_all refine' For_turns lF' ?_; k_whole))
  k_with "call ref cons" => (k_here; (show wpAny _ _ (call (Value.ref _) _ [(Str.ofString "name", Value.bool _)]) _ _ _); (with_reducible show wpAny _ _ (call (Value.ref _) _ [(Str.ofString "name", Value.bool true)]) _ _ _); k_dflt (refine' use_told3 (c_convN _ _ _ _ _ ?zcl ?zsz) ?zB ?zF ?zX ?zN ?zT ?zhk ?zhd ?zhu ?_); (case zB => k_asm); (case zF => k_asm); (case zX => k_asm); (case zN => k_asm); (case zT => k_asm); (case zhk => exact rfl); (case zhd => ktr_room); (case zhu => ktr_units); (case zcl => with_reducible first | assumption | exact clean_newer | exact clean_older); (case zsz => first | assumption | decide); intro h' tk' F' N')
  k_with "call ref cons" => (k_here; (show wpAny _ _ (call (Value.ref _) _ [(Str.ofString "name", Value.bool _)]) _ _ _); (with_reducible show wpAny _ _ (call (Value.ref _) _ [(Str.ofString "name", Value.bool false)]) _ _ _); k_dflt (refine' use_told3 (c_convV _ _ _ _ _ ?zcl ?zsz) ?zB ?zF ?zX ?zN ?zT ?zhk ?zhd ?zhu ?_); (case zB => k_asm); (case zF => k_asm); (case zX => k_asm); (case zN => k_asm); (case zT => k_asm); (case zhk => exact rfl); (case zhd => ktr_room); (case zhu => ktr_units); (case zcl => with_reducible first | assumption | exact clean_newer | exact clean_older); (case zsz => first | assumption | decide); intro h' tk' F' N')
  k_with "setItem ref ref ref" => (k_here; k_dflt (refine' pg_setSlice ?F ?N ?U ?hm ?ne ?z1 ?z2 ?_; (case F => k_asm); (case N => k_asm); (case U => k_updF); (case hm => k_mem); (case ne => first | k_ne | omega); (case z1 => exact Nat.le_of_ble_eq_true rfl); (case z2 => exact Nat.le_of_ble_eq_true rfl)); intro h' n' F' N'; (try dsimp only at N'))
  w_strict (
    unfold Told1
    k_fill
    intro w news TT dx hl p1 p2 tk k1t k2t v1t v2t k1 k2 v1 v2 c c1 c2 x t e1 e2 e3 hne loose mean mg mb dp un gd cn cs ad ccd cl outer A₀ base h₀ L m s Q E B F X N T hk hd hu C1 C2 C3 hret
    dsimp only at hret
    have n1 : @Ne Nat p1 hl := news_ne N (by k_mem) (by k_mem) (by k_cls)
    have n2 : @Ne Nat p2 hl := news_ne N (by k_mem) (by k_mem) (by k_cls)
    have n3 : @Ne Nat TT hl := news_ne N (by k_mem) (by k_mem) (by k_cls)
    have n4 : @Ne Nat dx hl := news_ne N (by k_mem) (by k_mem) (by k_cls)
    refine wpAny_call ?_
    k_dflt ktr_enter
    repeat (first | (k_unfold; (try dsimp only)) | (k_end; wrow_close) | walk1 | (dsimp only; walk1) | (leave1; walk_say "STEP leave1"; try dsimp only) | fail "no step")
    all_goals exact hret _ _ _ (by k_asm) (cb_drop (by k_asm) (fun p9 h9 => by (repeat (first | exact h9 | refine List.mem_cons_of_mem _ ?_))))
    )
set_option maxRecDepth 100000 in
set_option maxHeartbeats 8000000 in
theorem c_del_new : ∀ (w : World) (news : List (Addr × Obj)) (TT dx hl p1 p2 : Addr) (tk k1t k2t v1t v2t : Tok) (k1 k2 v1 v2 : Str) (c c1 c2 : Nat) (x : Str) (t : Tok),
   Txt.lower k1 = Str.ofString "newer" → Txt.lower k2 = Str.ofString "older" → Txt.lower x = Str.ofString "newer" → (∀ p ∈ news, p.1 ≠ hl) →
   Told1 w 10 100 160 [.ref TT, .str x t] ((hl, W.listOf #[.ref p1, .ref p2] c) :: (p1, pair k1 k1t v1 v1t c1) :: (p2, pair k2 k2t v2 v2t c2) :: (TT, instObj 242 dx) :: (dx, W.dictOf [{ hash := PyData.keyHash w.params (Str.ofString "_headers"), key := Value.str (Str.ofString "_headers") tk, val := Value.ref hl }] 1) :: news) fun K => ∀ c', K .none ((hl, W.listOf #[.ref p2] c') :: (p1, pair k1 k1t v1 v1t c1) :: (p2, pair k2 k2t v2 v2t c2) :: (TT, instObj 242 dx) :: (dx, W.dictOf [{ hash := PyData.keyHash w.params (Str.ofString "_headers"), key := Value.str (Str.ofString "_headers") tk, val := Value.ref hl }] 1) :: news) := by
  w_top off
  k_with_none
  k_with "call builtin:str.lower cons nil" => (k_here; k_dflt (refine lower_pg (by assumption) (by decide +kernel) ?_); intro t9 k9)
  k_with "pyIter ref" => (k_here; (with_reducible show wpAny _ _ (pyIter (Value.ref _)) (fun it s₂ => TurnsAt _ _ _ _ _ _ _ _ _ it s₂) _ _); (rename Fr _ _ _ _ => lF'); (rename News _ _ _ _ => lN'); (with_unfolding_all refine iter_listTurns (vs := [.ref _, .ref _]) (by rfl) lF' lN' (.head _) (by rfl) (by rfl) ?_); clear lF' lN'; intro i' l1)
  k_with "CompEnd none" => (refine LCg.CompEnd.intro (by assumption) (by assumption) _ (fun _ h => h) (by simp only [LCg.Off3, and_true]; assumption) (by lcg_src) ?_)
  k_with "CompEnd ref" => (refine LCg.CompEnd.intro (by assumption) (by assumption) _ (fun _ h => h) (by simp only [LCg.Off3, and_true]; assumption) (by lcg_src) ?_)
  k_with "UnrEndW cons" => (refine unrEndW_one (by assumption) (by assumption) (by assumption) (by simp) ?_)
  k_with "exec For Tuple Attribute cons nil" => (k_here; (rename Fr _ _ _ _ => lF'); (with_unfolding_all refine' For_turns lF' ?_; k_whole))
  k_with "call ref cons" => (k_here; (show wpAny _ _ (call (Value.ref _) _ [(Str.ofString "name", Value.bool _)]) _ _ _); (with_reducible show wpAny _ _ (call (Value.ref _) _ [(Str.ofString "name", Value.bool true)]) _ _ _); k_dflt (refine' use_told3 (c_convN _ _ _ _ _ ?zcl ?zsz) ?zB ?zF ?zX ?zN ?zT ?zhk ?zhd ?zhu ?_); (case zB => k_asm); (case zF => k_asm); (case zX => k_asm); (case zN => k_asm); (case zT => k_asm); (case zhk => exact rfl); (case zhd => ktr_room); (case zhu => ktr_units); (case zcl => with_reducible first | assumption | exact clean_newer | exact clean_older); (case zsz => first | assumption | decide); intro h' tk' F' N')
  k_with "call ref cons" => (k_here; (show wpAny _ _ (call (Value.ref _) _ [(Str.ofString "name", Value.bool _)]) _ _ _); (with_reducible show wpAny _ _ (call (Value.ref _) _ [(Str.ofString "name", Value.bool false)]) _ _ _); k_dflt (refine' use_told3 (c_convV _ _ _ _ _ ?zcl ?zsz) ?zB ?zF ?zX ?zN ?zT ?zhk ?zhd ?zhu ?_); (case zB => k_asm); (case zF => k_asm); (case zX => k_asm); (case zN => k_asm); (case zT => k_asm); (case zhk => exact rfl); (case zhd => ktr_room); (case zhu => ktr_units); (case zcl => with_reducible first | assumption | exact clean_newer | exact clean_older); (case zsz => first | assumption | decide); intro h' tk' F' N')
  k_with "setItem ref ref ref" => (k_here; k_dflt (refine' pg_setSlice ?F ?N ?U ?hm ?ne ?z1 ?z2 ?_; (case F => k_asm); (case N => k_asm); (case U => k_updF); (case hm => k_mem); (case ne => first | k_ne | omega); (case z1 => exact Nat.le_of_ble_eq_true rfl); (case z2 => exact Nat.le_of_ble_eq_true rfl)); intro h' n' F' N'; (try dsimp only at N'))
  w_strict (
    unfold Told1
    k_fill
    intro w news TT dx hl p1 p2 tk k1t k2t v1t v2t k1 k2 v1 v2 c c1 c2 x t e1 e2 e3 hne loose mean mg mb dp un gd cn cs ad ccd cl outer A₀ base h₀ L m s Q E B F X N T hk hd hu C1 C2 C3 hret
    dsimp only at hret
    have n1 : @Ne Nat p1 hl := news_ne N (by k_mem) (by k_mem) (by k_cls)
    have n2 : @Ne Nat p2 hl := news_ne N (by k_mem) (by k_mem) (by k_cls)
    have n3 : @Ne Nat TT hl := news_ne N (by k_mem) (by k_mem) (by k_cls)
    have n4 : @Ne Nat dx hl := news_ne N (by k_mem) (by k_mem) (by k_cls)
    refine wpAny_call ?_
    k_dflt ktr_enter
    repeat (first | (k_unfold; (try dsimp only)) | (k_end; wrow_close) | walk1 | (dsimp only; walk1) | (leave1; walk_say "STEP leave1"; try dsimp only) | fail "no step")
    all_goals exact hret _ _ _ (by k_asm) (cb_drop (by k_asm) (fun p9 h9 => by (repeat (first | exact h9 | refine List.mem_cons_of_mem _ ?_))))
    )
end
end Pg
end
-- C11
section
namespace Pg
section
local macro_rules | `(tactic| ktr_enter) => `(tactic| (refine' code_def ?k1 ?k2 ?k3 ?k4 ?k5 ?kA ?kF ?kK ?k6 ?k7 ?k8 ?k9 ?kB ?_ ?c2 ?c3 ?c4 ?c5; (case kA => exact rfl); (case kF => exact rfl); (case kK => assumption); (case k1 => k_asm); (case k2 => k_asm); (case k3 => k_asm); (case k4 => k_asm); (case k5 => k_asm); (case k6 => k_is); (case k7 => k_is); (case k8 => k_room); (case k9 => first | exact BindsTo.of_eq rfl | exact binds_K (by k_in) rfl (by k_is) rfl rfl rfl | (refine' kp_binds ?kx ?ke; (case kx => k_in); (case ke => exact fun _ => rfl))); (case c5 => decide); (case kB => exact locs rfl); (case c2 => exact rfl); (case c3 => exact rfl); (case c4 => exact rfl); k_whole; intro g' L' h' FG' F' N' B' X' T'; (try dsimp only); (try k_lift B'); (try k_fold)))
local macro_rules | `(tactic| k_all) => `(tactic| first | with_reducible assumption | exact pg_tail (by assumption) (by omega))
local macro_rules | `(tactic| k_room) => `(tactic| ktr_room)
local macro_rules | `(tactic| k_mem) => `(tactic| ((repeat (refine List.mem_cons_of_mem _ ?_)); ktr_member))
set_option maxRecDepth 100000 in
set_option maxHeartbeats 8000000 in
theorem c_set_old : ∀ (w : World) (news : List (Addr × Obj)) (TT dx hl p1 p2 : Addr) (tk k1t k2t v1t v2t : Tok) (k1 k2 v1 v2 : Str) (c c1 c2 : Nat) (x v : Str) (t tv : Tok),
   Txt.lower k1 = Str.ofString "older" → Txt.lower k2 = Str.ofString "newer" → Txt.lower x = Str.ofString "older" → (∀ p ∈ news, p.1 ≠ hl) → Clean nCode x → x.cps.size < 2 ^ 62 → Clean vCode v → v.cps.size < 2 ^ 62 →
   Told1 w 20 200 155 [.ref TT, .str x t, .str v tv] ((hl, W.listOf #[.ref p1, .ref p2] c) :: (p1, pair k1 k1t v1 v1t c1) :: (p2, pair k2 k2t v2 v2t c2) :: (TT, instObj 242 dx) :: (dx, W.dictOf [{ hash := PyData.keyHash w.params (Str.ofString "_headers"), key := Value.str (Str.ofString "_headers") tk, val := Value.ref hl }] 1) :: news) fun K => ∀ D c' cc, (hl < D ∧ p1 < D ∧ p2 < D ∧ TT < D ∧ dx < D ∧ AllLt D news) →
     K .none ((D, pair x t v tv cc) :: (hl, W.listOf #[.ref p2, .ref D] c') :: (p1, pair k1 k1t v1 v1t c1) :: (p2, pair k2 k2t v2 v2t c2) :: (TT, instObj 242 dx) :: (dx, W.dictOf [{ hash := PyData.keyHash w.params (Str.ofString "_headers"), key := Value.str (Str.ofString "_headers") tk, val := Value.ref hl }] 1) :: news) := by
  w_top off
  k_with_none
  k_with "call builtin:str.lower cons nil" => (k_here; k_dflt (refine lower_pg (by assumption) (by decide +kernel) ?_); intro t9 k9)
  k_with "pyIter ref" => (k_here; (with_reducible show wpAny _ _ (pyIter (Value.ref _)) (fun it s₂ => TurnsAt _ _ _ _ _ _ _ _ _ it s₂) _ _); (rename Fr _ _ _ _ => lF'); (rename News _ _ _ _ => lN'); (with_unfolding_all refine iter_listTurns (vs := [.ref _, .ref _]) (by rfl) lF' lN' (.head _) (by rfl) (by rfl) ?_); clear lF' lN'; intro i' l1)
  k_with "CompEnd none" => (refine LCg.CompEnd.intro (by assumption) (by assumption) _ (fun _ h => h) (by simp only [LCg.Off3, and_true]; assumption) (by lcg_src) ?_)
  k_with "CompEnd ref" => (refine LCg.CompEnd.intro (by assumption) (by assumption) _ (fun _ h => h) (by simp only [LCg.Off3, and_true]; assumption) (by lcg_src) ?_)
  k_with "UnrEndW cons" => (refine unrEndW_one (by assumption) (by assumption) (by assumption) (by simp) ?_)
  k_with "exec For Tuple Attribute cons nil" => (k_here; (rename Fr _ _ _ _ => lF'); (with_unfolding_all refine' For_turns lF' ?_; k_whole))
  k_with "call ref cons" => (k_here; (show wpAny _ _ (call (Value.ref _) _ [(Str.ofString "name", Value.bool _)]) _ _ _); (with_reducible show wpAny _ _ (call (Value.ref _) _ [(Str.ofString "name", Value.bool true)]) _ _ _); k_dflt (refine' use_told3 (c_convN _ _ _ _ _ ?zcl ?zsz) ?zB ?zF ?zX ?zN ?zT ?zhk ?zhd ?zhu ?_); (case zB => k_asm); (case zF => k_asm); (case zX => k_asm); (case zN => k_asm); (case zT => k_asm); (case zhk => exact rfl); (case zhd => ktr_room); (case zhu => ktr_units); (case zcl => with_reducible first | assumption | exact clean_newer | exact clean_older); (case zsz => first | assumption | decide); intro h' tk' F' N')
  k_with "call ref cons" => (k_here; (show wpAny _ _ (call (Value.ref _) _ [(Str.ofString "name", Value.bool _)]) _ _ _); (with_reducible show wpAny _ _ (call (Value.ref _) _ [(Str.ofString "name", Value.bool false)]) _ _ _); k_dflt (refine' use_told3 (c_convV _ _ _ _ _ ?zcl ?zsz) ?zB ?zF ?zX ?zN ?zT ?zhk ?zhd ?zhu ?_); (case zB => k_asm); (case zF => k_asm); (case zX => k_asm); (case zN => k_asm); (case zT => k_asm); (case zhk => exact rfl); (case zhd => ktr_room); (case zhu => ktr_units); (case zcl => with_reducible first | assumption | exact clean_newer | exact clean_older); (case zsz => first | assumption | decide); intro h' tk' F' N')
  k_with "setItem ref ref ref" => (k_here; k_dflt (refine' pg_setSlice ?F ?N ?U ?hm ?ne ?z1 ?z2 ?_; (case F => k_asm); (case N => k_asm); (case U => k_updF); (case hm => k_mem); (case ne => first | k_ne | omega); (case z1 => exact Nat.le_of_ble_eq_true rfl); (case z2 => exact Nat.le_of_ble_eq_true rfl)); intro h' n' F' N'; (try dsimp only at N'))
  k_with "delItem ref str" => (k_here; (with_reducible show wpAny _ _ (delItem (Value.ref _) _) _ _ _); k_dflt (refine' pg_delItem ?F ?X ?I ?hQ ?hS ?hF ?_; (case F => k_asm); (case X => k_asm); (case I => k_inst); (case hS => k_is); (case hF => k_is); (case hQ => k_is); k_whole))
  k_with "call ref cons nil" => (k_here; (with_reducible show wpAny _ _ (call _ [_, _]) _ _ _); k_dflt (refine' use_told (c_del_old _ _ _ _ _ _ _ _ _ _ _ _ _ _ _ _ _ _ _ _ _ ?p1 ?p2 ?p3 ?p4) ?B ?F ?X ?N ?T ?hk ?hd ?hu ?C1 ?C2 ?C3 ?_; (case B => k_asm); (case F => k_asm); (case X => k_asm); (case N => k_asm); (case T => k_asm); (case hk => exact rfl); (case hd => ktr_room); (case hu => ktr_units); (case C1 => assumption); (case C2 => assumption); (case C3 => assumption); (case p1 => assumption); (case p2 => assumption); (case p3 => assumption); (case p4 => assumption)); intro c' h' tk' F' N')
  w_strict (
    unfold Told1
    k_fill
    intro w news TT dx hl p1 p2 tk k1t k2t v1t v2t k1 k2 v1 v2 c c1 c2 x v t tv e1 e2 e3 hne q1 q2 q3 q4 loose mean mg mb dp un gd cn cs ad ccd cl outer A₀ base h₀ L m s Q E B F X N T hk hd hu C1 C2 C3 hret
    dsimp only at hret
    have n1 : @Ne Nat p1 hl := news_ne N (by k_mem) (by k_mem) (by k_cls)
    have n2 : @Ne Nat p2 hl := news_ne N (by k_mem) (by k_mem) (by k_cls)
    have n3 : @Ne Nat TT hl := news_ne N (by k_mem) (by k_mem) (by k_cls)
    have n4 : @Ne Nat dx hl := news_ne N (by k_mem) (by k_mem) (by k_cls)
    refine wpAny_call ?_
    k_dflt ktr_enter
    repeat (first | (k_unfold; (try dsimp only)) | (k_end; wrow_close) | walk1 | (dsimp only; walk1) | (leave1; walk_say "STEP leave1"; try dsimp only) | fail "no step")
    all_goals exact hret _ _ _ (by assumption) _ _ (by k_asm) (by k_asm)
    )
end
section
local macro_rules | `(tactic| ktr_enter) => `(tactic| (refine' code_def ?k1 ?k2 ?k3 ?k4 ?k5 ?kA ?kF ?kK ?k6 ?k7 ?k8 ?k9 ?kB ?_ ?c2 ?c3 ?c4 ?c5; (case kA => exact rfl); (case kF => exact rfl); (case kK => assumption); (case k1 => k_asm); (case k2 => k_asm); (case k3 => k_asm); (case k4 => k_asm); (case k5 => k_asm); (case k6 => k_is); (case k7 => k_is); (case k8 => k_room); (case k9 => first | exact BindsTo.of_eq rfl | exact binds_K (by k_in) rfl (by k_is) rfl rfl rfl | (refine' kp_binds ?kx ?ke; (case kx => k_in); (case ke => exact fun _ => rfl))); (case c5 => decide); (case kB => exact locs rfl); (case c2 => exact rfl); (case c3 => exact rfl); (case c4 => exact rfl); k_whole; intro g' L' h' FG' F' N' B' X' T'; (try dsimp only); (try k_lift B'); (try k_fold)))
local macro_rules | `(tactic| k_all) => `(tactic| first | with_reducible assumption | exact pg_tail (by assumption) (by omega))
local macro_rules | `(tactic| k_room) => `(tactic| ktr_room)
local macro_rules | `(tactic| k_mem) => `(tactic| ((repeat (refine List.mem_cons_of_mem _ ?_)); ktr_member))
set_option maxRecDepth 100000 in
set_option maxHeartbeats 8000000 in
theorem c_set_new : ∀ (w : World) (news : List (Addr × Obj)) (TT dx hl p1 p2 : Addr) (tk k1t k2t v1t v2t : Tok) (k1 k2 v1 v2 : Str) (c c1 c2 : Nat) (x v : Str) (t tv : Tok),
   Txt.lower k1 = Str.ofString "newer" → Txt.lower k2 = Str.ofString "older" → Txt.lower x = Str.ofString "newer" → (∀ p ∈ news, p.1 ≠ hl) → Clean nCode x → x.cps.size < 2 ^ 62 → Clean vCode v → v.cps.size < 2 ^ 62 →
   Told1 w 20 200 155 [.ref TT, .str x t, .str v tv] ((hl, W.listOf #[.ref p1, .ref p2] c) :: (p1, pair k1 k1t v1 v1t c1) :: (p2, pair k2 k2t v2 v2t c2) :: (TT, instObj 242 dx) :: (dx, W.dictOf [{ hash := PyData.keyHash w.params (Str.ofString "_headers"), key := Value.str (Str.ofString "_headers") tk, val := Value.ref hl }] 1) :: news) fun K => ∀ D c' cc, (hl < D ∧ p1 < D ∧ p2 < D ∧ TT < D ∧ dx < D ∧ AllLt D news) →
     K .none ((D, pair x t v tv cc) :: (hl, W.listOf #[.ref p2, .ref D] c') :: (p1, pair k1 k1t v1 v1t c1) :: (p2, pair k2 k2t v2 v2t c2) :: (TT, instObj 242 dx) :: (dx, W.dictOf [{ hash := PyData.keyHash w.params (Str.ofString "_headers"), key := Value.str (Str.ofString "_headers") tk, val := Value.ref hl }] 1) :: news) := by
  w_top off
  k_with_none
  k_with "call builtin:str.lower cons nil" => (k_here; k_dflt (refine lower_pg (by assumption) (by decide +kernel) ?_); intro t9 k9)
  k_with "pyIter ref" => (k_here; (with_reducible show wpAny _ _ (pyIter (Value.ref _)) (fun it s₂ => TurnsAt _ _ _ _ _ _ _ _ _ it s₂) _ _); (rename Fr _ _ _ _ => lF'); (rename News _ _ _ _ => lN'); (with_unfolding_all refine iter_listTurns (vs := [.ref _, .ref _]) (by rfl) lF' lN' (.head _) (by rfl) (by rfl) ?_); clear lF' lN'; intro i' l1)
  k_with "CompEnd none" => (refine LCg.CompEnd.intro (by assumption) (by assumption) _ (fun _ h => h) (by simp only [LCg.Off3, and_true]; assumption) (by lcg_src) ?_)
  k_with "CompEnd ref" => (refine LCg.CompEnd.intro (by assumption) (by assumption) _ (fun _ h => h) (by simp only [LCg.Off3, and_true]; assumption) (by lcg_src) ?_)
  k_with "UnrEndW cons" => (refine unrEndW_one (by assumption) (by assumption) (by assumption) (by simp) ?_)
  k_with "exec For Tuple Attribute cons nil" => (k_here; (rename Fr _ _ _ _ => lF'); (with_unfolding_all refine' For_turns lF' ?_; k_whole))
  k_with "call ref cons" => (k_here; (show wpAny _ _ (call (Value.ref _) _ [(Str.ofString "name", Value.bool _)]) _ _ _); (with_reducible show wpAny _ _ (call (Value.ref _) _ [(Str.ofString "name", Value.bool true)]) _ _ _); k_dflt (refine' use_told3 (c_convN _ _ _ _ _ ?zcl ?zsz) ?zB ?zF ?zX ?zN ?zT ?zhk ?zhd ?zhu ?_); (case zB => k_asm); (case zF => k_asm); (case zX => k_asm); (case zN => k_asm); (case zT => k_asm); (case zhk => exact rfl); (case zhd => ktr_room); (case zhu => ktr_units); (case zcl => with_reducible first | assumption | exact clean_newer | exact clean_older); (case zsz => first | assumption | decide); intro h' tk' F' N')
  k_with "call ref cons" => (k_here; (show wpAny _ _ (call (Value.ref _) _ [(Str.ofString "name", Value.bool _)]) _ _ _); (with_reducible show wpAny _ _ (call (Value.ref _) _ [(Str.ofString "name", Value.bool false)]) _ _ _); k_dflt (refine' use_told3 (c_convV _ _ _ _ _ ?zcl ?zsz) ?zB ?zF ?zX ?zN ?zT ?zhk ?zhd ?zhu ?_); (case zB => k_asm); (case zF => k_asm); (case zX => k_asm); (case zN => k_asm); (case zT => k_asm); (case zhk => exact rfl); (case zhd => ktr_room); (case zhu => ktr_units); (case zcl => with_reducible first | assumption | exact clean_newer | exact clean_older); (case zsz => first | assumption | decide); intro h' tk' F' N')
  k_with "setItem ref ref ref" => (k_here; k_dflt (refine' pg_setSlice ?F ?N ?U ?hm ?ne ?z1 ?z2 ?_; (case F => k_asm); (case N => k_asm); (case U => k_updF); (case hm => k_mem); (case ne => first | k_ne | omega); (case z1 => exact Nat.le_of_ble_eq_true rfl); (case z2 => exact Nat.le_of_ble_eq_true rfl)); intro h' n' F' N'; (try dsimp only at N'))
  k_with "delItem ref str" => (k_here; (with_reducible show wpAny _ _ (delItem (Value.ref _) _) _ _ _); k_dflt (refine' pg_delItem ?F ?X ?I ?hQ ?hS ?hF ?_; (case F => k_asm); (case X => k_asm); (case I => k_inst); (case hS => k_is); (case hF => k_is); (case hQ => k_is); k_whole))
  k_with "call ref cons nil" => (k_here; (with_reducible show wpAny _ _ (call _ [_, _]) _ _ _); k_dflt (refine' use_told (c_del_new _ _ _ _ _ _ _ _ _ _ _ _ _ _ _ _ _ _ _ _ _ ?p1 ?p2 ?p3 ?p4) ?B ?F ?X ?N ?T ?hk ?hd ?hu ?C1 ?C2 ?C3 ?_; (case B => k_asm); (case F => k_asm); (case X => k_asm); (case N => k_asm); (case T => k_asm); (case hk => exact rfl); (case hd => ktr_room); (case hu => ktr_units); (case C1 => assumption); (case C2 => assumption); (case C3 => assumption); (case p1 => assumption); (case p2 => assumption); (case p3 => assumption); (case p4 => assumption)); intro c' h' tk' F' N')
  w_strict (
    unfold Told1
    k_fill
    intro w news TT dx hl p1 p2 tk k1t k2t v1t v2t k1 k2 v1 v2 c c1 c2 x v t tv e1 e2 e3 hne q1 q2 q3 q4 loose mean mg mb dp un gd cn cs ad ccd cl outer A₀ base h₀ L m s Q E B F X N T hk hd hu C1 C2 C3 hret
    dsimp only at hret
    have n1 : @Ne Nat p1 hl := news_ne N (by k_mem) (by k_mem) (by k_cls)
    have n2 : @Ne Nat p2 hl := news_ne N (by k_mem) (by k_mem) (by k_cls)
    have n3 : @Ne Nat TT hl := news_ne N (by k_mem) (by k_mem) (by k_cls)
    have n4 : @Ne Nat dx hl := news_ne N (by k_mem) (by k_mem) (by k_cls)
    refine wpAny_call ?_
    k_dflt ktr_enter
    repeat (first | (k_unfold; (try dsimp only)) | (k_end; wrow_close) | walk1 | (dsimp only; walk1) | (leave1; walk_say "STEP leave1"; try dsimp only) | fail "no step")
    all_goals exact hret _ _ _ (by assumption) _ _ (by k_asm) (by k_asm)
    )
end
end Pg
end
-- C12
section
namespace Pg
theorem allLt_at {d : Addr} : ∀ {l : List (Addr × Obj)}, AllLt d l → ∀ p ∈ l, p.1 < d
  | [], _, _, h => nomatch h
  | _ :: _, x, p, h => by
    rcases List.mem_cons.mp h with rfl | h
    · exact x.1
    · exact allLt_at x.2 p h
section
local macro_rules | `(tactic| ktr_enter) => `(tactic| (refine' code_def ?k1 ?k2 ?k3 ?k4 ?k5 ?kA ?kF ?kK ?k6 ?k7 ?k8 ?k9 ?kB ?_ ?c2 ?c3 ?c4 ?c5; (case kA => exact rfl); (case kF => exact rfl); (case kK => assumption); (case k1 => k_asm); (case k2 => k_asm); (case k3 => k_asm); (case k4 => k_asm); (case k5 => k_asm); (case k6 => k_is); (case k7 => k_is); (case k8 => k_room); (case k9 => first | exact BindsTo.of_eq rfl | exact binds_K (by k_in) rfl (by k_is) rfl rfl rfl | (refine' kp_binds ?kx ?ke; (case kx => k_in); (case ke => exact fun _ => rfl))); (case c5 => decide); (case kB => exact locs rfl); (case c2 => exact rfl); (case c3 => exact rfl); (case c4 => exact rfl); k_whole; intro g' L' h' FG' F' N' B' X' T'; (try dsimp only); (try k_lift B'); (try k_fold)))
local macro_rules | `(tactic| k_all) => `(tactic| first | with_reducible assumption | exact pg_tail (by assumption) (by omega))
local macro_rules | `(tactic| k_room) => `(tactic| ktr_room)
local macro_rules | `(tactic| k_mem) => `(tactic| ((repeat (refine List.mem_cons_of_mem _ ?_)); ktr_member))
set_option maxRecDepth 100000 in
set_option maxHeartbeats 8000000 in
theorem c_gi_new : ∀ (w : World) (news : List (Addr × Obj)) (TT dx hl p1 p2 : Addr) (tk k1t k2t v1t v2t : Tok) (k1 k2 v1 v2 : Str) (c c1 c2 : Nat) (x : Str) (t : Tok),
   Txt.lower k1 = Str.ofString "older" → Txt.lower k2 = Str.ofString "newer" → Txt.lower x = Str.ofString "newer" →
   Told1 w 20 200 167 [.ref TT, .str x t] ((hl, W.listOf #[.ref p1, .ref p2] c) :: (p1, pair k1 k1t v1 v1t c1) :: (p2, pair k2 k2t v2 v2t c2) :: (TT, instObj 242 dx) :: (dx, W.dictOf [{ hash := PyData.keyHash w.params (Str.ofString "_headers"), key := Value.str (Str.ofString "_headers") tk, val := Value.ref hl }] 1) :: news) fun K => K (.str v2 v2t) news := by
  w_top off
  k_with_none
  k_with "setItem ref ref ref" => (k_here; k_dflt (refine' pg_setSlice ?F ?N ?U ?hm ?ne ?z1 ?z2 ?_; (case F => k_asm); (case N => k_asm); (case U => k_updF); (case hm => k_mem); (case ne => first | k_ne | omega); (case z1 => exact Nat.le_of_ble_eq_true rfl); (case z2 => exact Nat.le_of_ble_eq_true rfl)); intro h' n' F' N'; (try dsimp only at N'))
  k_with "call ref cons nil" => (k_here; (with_reducible show wpAny _ _ (call _ [_, _]) _ _ _); k_dflt (refine' use_told (c_get_new _ _ _ _ _ _ _ _ _ _ _ _ _ _ _ _ _ _ _ _ _ ?p1 ?p2 ?p3) ?B ?F ?X ?N ?T ?hk ?hd ?hu ?C1 ?C2 ?C3 ?_; (case B => k_asm); (case F => k_asm); (case X => k_asm); (case N => k_asm); (case T => k_asm); (case hk => exact rfl); (case hd => ktr_room); (case hu => ktr_units); (case C1 => assumption); (case C2 => assumption); (case C3 => assumption); (case p1 => assumption); (case p2 => assumption); (case p3 => assumption)); intro h' tk' F' N')
  w_strict (
    unfold Told1
    k_fill
    intro w news TT dx hl p1 p2 tk k1t k2t v1t v2t k1 k2 v1 v2 c c1 c2 x t e1 e2 e3 loose mean mg mb dp un gd cn cs ad ccd cl outer A₀ base h₀ L m s Q E B F X N T hk hd hu C1 C2 C3 hret
    dsimp only at hret
    refine wpAny_call ?_
    k_dflt ktr_enter
    repeat (first | (k_unfold; (try dsimp only)) | (k_end; wrow_close) | walk1 | (dsimp only; walk1) | (leave1; walk_say "STEP leave1"; try dsimp only) | fail "no step")
    all_goals exact hret _ _ (by k_asm) (by k_asm)
    )
end
section
local macro_rules | `(tactic| ktr_enter) => `(tactic| (refine' code_def ?k1 ?k2 ?k3 ?k4 ?k5 ?kA ?kF ?kK ?k6 ?k7 ?k8 ?k9 ?kB ?_ ?c2 ?c3 ?c4 ?c5; (case kA => exact rfl); (case kF => exact rfl); (case kK => assumption); (case k1 => k_asm); (case k2 => k_asm); (case k3 => k_asm); (case k4 => k_asm); (case k5 => k_asm); (case k6 => k_is); (case k7 => k_is); (case k8 => k_room); (case k9 => first | exact BindsTo.of_eq rfl | exact binds_K (by k_in) rfl (by k_is) rfl rfl rfl | (refine' kp_binds ?kx ?ke; (case kx => k_in); (case ke => exact fun _ => rfl))); (case c5 => decide); (case kB => exact locs rfl); (case c2 => exact rfl); (case c3 => exact rfl); (case c4 => exact rfl); k_whole; intro g' L' h' FG' F' N' B' X' T'; (try dsimp only); (try k_lift B'); (try k_fold)))
local macro_rules | `(tactic| k_all) => `(tactic| first | with_reducible assumption | exact pg_tail (by assumption) (by omega))
local macro_rules | `(tactic| k_room) => `(tactic| ktr_room)
local macro_rules | `(tactic| k_mem) => `(tactic| ((repeat (refine List.mem_cons_of_mem _ ?_)); ktr_member))
set_option maxRecDepth 100000 in
set_option maxHeartbeats 8000000 in
theorem c_gi_old : ∀ (w : World) (news : List (Addr × Obj)) (TT dx hl p1 p2 : Addr) (tk k1t k2t v1t v2t : Tok) (k1 k2 v1 v2 : Str) (c c1 c2 : Nat) (x : Str) (t : Tok),
   Txt.lower k1 = Str.ofString "older" → Txt.lower k2 = Str.ofString "newer" → Txt.lower x = Str.ofString "older" →
   Told1 w 20 200 167 [.ref TT, .str x t] ((hl, W.listOf #[.ref p1, .ref p2] c) :: (p1, pair k1 k1t v1 v1t c1) :: (p2, pair k2 k2t v2 v2t c2) :: (TT, instObj 242 dx) :: (dx, W.dictOf [{ hash := PyData.keyHash w.params (Str.ofString "_headers"), key := Value.str (Str.ofString "_headers") tk, val := Value.ref hl }] 1) :: news) fun K => K (.str v1 v1t) news := by
  w_top off
  k_with_none
  k_with "setItem ref ref ref" => (k_here; k_dflt (refine' pg_setSlice ?F ?N ?U ?hm ?ne ?z1 ?z2 ?_; (case F => k_asm); (case N => k_asm); (case U => k_updF); (case hm => k_mem); (case ne => first | k_ne | omega); (case z1 => exact Nat.le_of_ble_eq_true rfl); (case z2 => exact Nat.le_of_ble_eq_true rfl)); intro h' n' F' N'; (try dsimp only at N'))
  k_with "call ref cons nil" => (k_here; (with_reducible show wpAny _ _ (call _ [_, _]) _ _ _); k_dflt (refine' use_told (c_get_old _ _ _ _ _ _ _ _ _ _ _ _ _ _ _ _ _ _ _ _ _ ?p1 ?p2 ?p3) ?B ?F ?X ?N ?T ?hk ?hd ?hu ?C1 ?C2 ?C3 ?_; (case B => k_asm); (case F => k_asm); (case X => k_asm); (case N => k_asm); (case T => k_asm); (case hk => exact rfl); (case hd => ktr_room); (case hu => ktr_units); (case C1 => assumption); (case C2 => assumption); (case C3 => assumption); (case p1 => assumption); (case p2 => assumption); (case p3 => assumption)); intro h' tk' F' N')
  w_strict (
    unfold Told1
    k_fill
    intro w news TT dx hl p1 p2 tk k1t k2t v1t v2t k1 k2 v1 v2 c c1 c2 x t e1 e2 e3 loose mean mg mb dp un gd cn cs ad ccd cl outer A₀ base h₀ L m s Q E B F X N T hk hd hu C1 C2 C3 hret
    dsimp only at hret
    refine wpAny_call ?_
    k_dflt ktr_enter
    repeat (first | (k_unfold; (try dsimp only)) | (k_end; wrow_close) | walk1 | (dsimp only; walk1) | (leave1; walk_say "STEP leave1"; try dsimp only) | fail "no step")
    all_goals exact hret _ _ (by k_asm) (by k_asm)
    )
end

theorem c_gi_newM {w : World} {news : List (Addr × Obj)} {TT dx hl p1 p2 : Addr} {tk k1t k2t v1t v2t : Tok} {k1 k2 v1 v2 : Str} {c c1 c2 : Nat} {x : Str} {t : Tok}
   (e1 : Txt.lower k1 = Str.ofString "older") (e2 : Txt.lower k2 = Str.ofString "newer") (e3 : Txt.lower x = Str.ofString "newer")
   (m1 : (hl, W.listOf #[.ref p1, .ref p2] c) ∈ news) (m2 : (p1, pair k1 k1t v1 v1t c1) ∈ news) (m3 : (p2, pair k2 k2t v2 v2t c2) ∈ news) (m4 : (TT, instObj 242 dx) ∈ news)
   (m5 : (dx, W.dictOf [{ hash := PyData.keyHash w.params (Str.ofString "_headers"), key := Value.str (Str.ofString "_headers") tk, val := Value.ref hl }] 1) ∈ news) :
   Told1 w 20 200 167 [.ref TT, .str x t] news fun K => K (.str v2 v2t) news :=
  Told1.widen (H := [_, _, _, _, _]) (c_gi_new w news TT dx hl p1 p2 tk k1t k2t v1t v2t k1 k2 v1 v2 c c1 c2 x t e1 e2 e3) (fun p hp => by
    simp only [List.mem_cons, List.not_mem_nil, or_false] at hp
    rcases hp with rfl | rfl | rfl | rfl | rfl
    · exact m1
    · exact m2
    · exact m3
    · exact m4
    · exact m5)

theorem c_gi_oldM {w : World} {news : List (Addr × Obj)} {TT dx hl p1 p2 : Addr} {tk k1t k2t v1t v2t : Tok} {k1 k2 v1 v2 : Str} {c c1 c2 : Nat} {x : Str} {t : Tok}
   (e1 : Txt.lower k1 = Str.ofString "older") (e2 : Txt.lower k2 = Str.ofString "newer") (e3 : Txt.lower x = Str.ofString "older")
   (m1 : (hl, W.listOf #[.ref p1, .ref p2] c) ∈ news) (m2 : (p1, pair k1 k1t v1 v1t c1) ∈ news) (m3 : (p2, pair k2 k2t v2 v2t c2) ∈ news) (m4 : (TT, instObj 242 dx) ∈ news)
   (m5 : (dx, W.dictOf [{ hash := PyData.keyHash w.params (Str.ofString "_headers"), key := Value.str (Str.ofString "_headers") tk, val := Value.ref hl }] 1) ∈ news) :
   Told1 w 20 200 167 [.ref TT, .str x t] news fun K => K (.str v1 v1t) news :=
  Told1.widen (H := [_, _, _, _, _]) (c_gi_old w news TT dx hl p1 p2 tk k1t k2t v1t v2t k1 k2 v1 v2 c c1 c2 x t e1 e2 e3) (fun p hp => by
    simp only [List.mem_cons, List.not_mem_nil, or_false] at hp
    rcases hp with rfl | rfl | rfl | rfl | rfl
    · exact m1
    · exact m2
    · exact m3
    · exact m4
    · exact m5)

theorem c_set_oldM {w : World} {news : List (Addr × Obj)} {g : Obj → List (Addr × Obj)} {TT dx hl p1 p2 : Addr} {tk k1t k2t v1t v2t : Tok} {k1 k2 v1 v2 : Str} {c c1 c2 : Nat} {x v : Str} {t tv : Tok}
   (e1 : Txt.lower k1 = Str.ofString "older") (e2 : Txt.lower k2 = Str.ofString "newer") (e3 : Txt.lower x = Str.ofString "older") (q1 : Clean nCode x) (q2 : x.cps.size < 2 ^ 62) (q3 : Clean vCode v) (q4 : v.cps.size < 2 ^ 62)
   (U : UpdF hl (W.listOf #[.ref p1, .ref p2] c) news g) (m2 : (p1, pair k1 k1t v1 v1t c1) ∈ news) (m3 : (p2, pair k2 k2t v2 v2t c2) ∈ news) (m4 : (TT, instObj 242 dx) ∈ news)
   (m5 : (dx, W.dictOf [{ hash := PyData.keyHash w.params (Str.ofString "_headers"), key := Value.str (Str.ofString "_headers") tk, val := Value.ref hl }] 1) ∈ news) :
   Told1 w 20 200 155 [.ref TT, .str x t, .str v tv] news fun K => ∀ D c' cc, AllLt D news → K .none ((D, pair x t v tv cc) :: g (W.listOf #[.ref p2, .ref D] c')) := by
  intro loose mean mg mb dp un gd cn cs ad ccd cl outer A₀ base h₀ L m s Q E B F X N T hk hd hu C1 C2 C3 hR
  obtain ⟨pre, post, rfl, hg, a, b⟩ := U.split
  refine c_set_old w (pre ++ post) TT dx hl p1 p2 tk k1t k2t v1t v2t k1 k2 v1 v2 c c1 c2 x v t tv e1 e2 e3 (fun p hp => ?_) q1 q2 q3 q4 loose mean mg mb dp un gd cn cs ad ccd cl outer A₀ base h₀ L m s Q E B F X ?_ T hk hd hu C1 C2 C3 (fun D c' cc hlt h' tk' F' N' => hR D c' cc ?_ h' tk' F' ?_)
  · rcases List.mem_append.mp hp with hp | hp
    · exact a p hp
    · exact b p hp
  · intro p hp
    apply N
    simp only [List.mem_cons, List.mem_append] at hp
    rcases hp with rfl | rfl | rfl | rfl | rfl | hp | hp
    · exact List.mem_append_right _ (.head _)
    · exact m2
    · exact m3
    · exact m4
    · exact m5
    · exact List.mem_append_left _ hp
    · exact List.mem_append_right _ (.tail _ hp)
  · refine allLt_of fun p hp => ?_
    have h6 := allLt_at hlt.2.2.2.2.2
    rcases List.mem_append.mp hp with hp | hp
    · exact h6 p (List.mem_append_left _ hp)
    · rcases List.mem_cons.mp hp with rfl | hp
      · exact hlt.1
      · exact h6 p (List.mem_append_right _ hp)
  · rw [hg]
    intro p hp
    apply N'
    simp only [List.mem_cons, List.mem_append] at hp ⊢
    rcases hp with rfl | hp | rfl | hp
    · exact .inl rfl
    · exact .inr (.inr (.inr (.inr (.inr (.inr (.inl hp))))))
    · exact .inr (.inl rfl)
    · exact .inr (.inr (.inr (.inr (.inr (.inr (.inr hp))))))

theorem c_set_newM {w : World} {news : List (Addr × Obj)} {g : Obj → List (Addr × Obj)} {TT dx hl p1 p2 : Addr} {tk k1t k2t v1t v2t : Tok} {k1 k2 v1 v2 : Str} {c c1 c2 : Nat} {x v : Str} {t tv : Tok}
   (e1 : Txt.lower k1 = Str.ofString "newer") (e2 : Txt.lower k2 = Str.ofString "older") (e3 : Txt.lower x = Str.ofString "newer") (q1 : Clean nCode x) (q2 : x.cps.size < 2 ^ 62) (q3 : Clean vCode v) (q4 : v.cps.size < 2 ^ 62)
   (U : UpdF hl (W.listOf #[.ref p1, .ref p2] c) news g) (m2 : (p1, pair k1 k1t v1 v1t c1) ∈ news) (m3 : (p2, pair k2 k2t v2 v2t c2) ∈ news) (m4 : (TT, instObj 242 dx) ∈ news)
   (m5 : (dx, W.dictOf [{ hash := PyData.keyHash w.params (Str.ofString "_headers"), key := Value.str (Str.ofString "_headers") tk, val := Value.ref hl }] 1) ∈ news) :
   Told1 w 20 200 155 [.ref TT, .str x t, .str v tv] news fun K => ∀ D c' cc, AllLt D news → K .none ((D, pair x t v tv cc) :: g (W.listOf #[.ref p2, .ref D] c')) := by
  intro loose mean mg mb dp un gd cn cs ad ccd cl outer A₀ base h₀ L m s Q E B F X N T hk hd hu C1 C2 C3 hR
  obtain ⟨pre, post, rfl, hg, a, b⟩ := U.split
  refine c_set_new w (pre ++ post) TT dx hl p1 p2 tk k1t k2t v1t v2t k1 k2 v1 v2 c c1 c2 x v t tv e1 e2 e3 (fun p hp => ?_) q1 q2 q3 q4 loose mean mg mb dp un gd cn cs ad ccd cl outer A₀ base h₀ L m s Q E B F X ?_ T hk hd hu C1 C2 C3 (fun D c' cc hlt h' tk' F' N' => hR D c' cc ?_ h' tk' F' ?_)
  · rcases List.mem_append.mp hp with hp | hp
    · exact a p hp
    · exact b p hp
  · intro p hp
    apply N
    simp only [List.mem_cons, List.mem_append] at hp
    rcases hp with rfl | rfl | rfl | rfl | rfl | hp | hp
    · exact List.mem_append_right _ (.head _)
    · exact m2
    · exact m3
    · exact m4
    · exact m5
    · exact List.mem_append_left _ hp
    · exact List.mem_append_right _ (.tail _ hp)
  · refine allLt_of fun p hp => ?_
    have h6 := allLt_at hlt.2.2.2.2.2
    rcases List.mem_append.mp hp with hp | hp
    · exact h6 p (List.mem_append_left _ hp)
    · rcases List.mem_cons.mp hp with rfl | hp
      · exact hlt.1
      · exact h6 p (List.mem_append_right _ hp)
  · rw [hg]
    intro p hp
    apply N'
    simp only [List.mem_cons, List.mem_append] at hp ⊢
    rcases hp with rfl | hp | rfl | hp
    · exact .inl rfl
    · exact .inr (.inr (.inr (.inr (.inr (.inr (.inl hp))))))
    · exact .inr (.inl rfl)
    · exact .inr (.inr (.inr (.inr (.inr (.inr (.inr hp))))))
end Pg
end
-- PgMore
section
namespace Pg
theorem NewerNm.clean {nm : Str} (h : NewerNm nm) : Clean nCode nm := by rcases h with rfl | rfl <;> (unfold Clean; decide +kernel)
theorem NewerNm.size {nm : Str} (h : NewerNm nm) : nm.cps.size < 2 ^ 62 := by rcases h with rfl | rfl <;> decide +kernel
def LenLe (x : Str) (n : Nat) : Prop := x.length ≤ n
theorem times_ofI (a : Int) : ∃ (t : Nat) (ti : Int), ((t = 1 ∧ ti = 1) ∨ (t = 2 ∧ ti = 2) ∨ (t = 3 ∧ ti = 3)) ∧ ti = (t : Int) ∧ 1 + a.fmod 3 = ti := by
  obtain ⟨t, ht, et⟩ := times_of a
  exact ⟨t, t, by omega, rfl, et⟩
theorem times_or {t : Nat} {ti : Int} (h : (t = 1 ∧ ti = 1) ∨ (t = 2 ∧ ti = 2) ∨ (t = 3 ∧ ti = 3)) : t = 1 ∨ t = 2 ∨ t = 3 := by omega
section
variable {prog : Program} {w : World} {A : Around} {E : Value → Shared → Prop} {s : Shared} {Q : Value → Shared → Prop}
theorem times_pgI {a ti : Int} {t1 u : Tok} (et : 1 + a.fmod 3 = ti) (h : ∀ tk tk', Q (.int ti tk) { s with toks := tk' }) : wpAny (model prog w) A (binaryOp .Add (.int 1 t1) (.int (a.fmod 3) u)) Q E s :=
  PyProof.Rows.add_int (by rw [et]; exact h _ _)
theorem cat_pgL {x y : Str} {t u : Tok} (hl : LenLe (x ++ y) 50) (h : ∀ t' tk, Q (.str (x ++ y) t') { s with toks := tk }) : wpAny (model prog w) A (binaryOp .Add (.str x t) (.str y u)) Q E s :=
  cat_pg (Nat.le_trans hl (by decide)) h
end
theorem turn_ne {h₀ h : Heap} {L I Du W hl p1 p2 : Addr} {it : Obj} {x y z : Array Value} {a b c c1 c2 : Nat} {k1 k2 v1 v2 : Str} {t1 t2 t3 t4 : Tok} {rest : List (Addr × Obj)}
   (N : News h₀ L h ((I, it) :: (Du, PySem.W.listOf x a) :: (W, PySem.W.listOf y b) :: (hl, PySem.W.listOf z c) :: (p1, pair k1 t1 v1 t2 c1) :: (p2, pair k2 t3 v2 t4 c2) :: rest)) :
   @Ne Nat p1 Du ∧ @Ne Nat p1 W ∧ @Ne Nat p1 hl ∧ @Ne Nat p2 Du ∧ @Ne Nat p2 W ∧ @Ne Nat p2 hl := by
  have mp1 : (p1, pair k1 t1 v1 t2 c1) ∈ (I, it) :: (Du, PySem.W.listOf x a) :: (W, PySem.W.listOf y b) :: (hl, PySem.W.listOf z c) :: (p1, pair k1 t1 v1 t2 c1) :: (p2, pair k2 t3 v2 t4 c2) :: rest := by simp
  have mp2 : (p2, pair k2 t3 v2 t4 c2) ∈ (I, it) :: (Du, PySem.W.listOf x a) :: (W, PySem.W.listOf y b) :: (hl, PySem.W.listOf z c) :: (p1, pair k1 t1 v1 t2 c1) :: (p2, pair k2 t3 v2 t4 c2) :: rest := by simp
  exact ⟨news_ne N mp1 (.tail _ (.head _)) (by k_cls), news_ne N mp1 (.tail _ (.tail _ (.head _))) (by k_cls), news_ne N mp1 (.tail _ (.tail _ (.tail _ (.head _)))) (by k_cls), news_ne N mp2 (.tail _ (.head _)) (by k_cls), news_ne N mp2 (.tail _ (.tail _ (.head _))) (by k_cls), news_ne N mp2 (.tail _ (.tail _ (.tail _ (.head _)))) (by k_cls)⟩
section
variable {prog : Program} {w : World} {A : Around} {E : Value → Shared → Prop} {s : Shared} {Q : Value → Shared → Prop}
def IsPow (r n : Int) : Prop := r = 10 ^ n.toNat
theorem pow_pg {n : Int} {t u : Tok} (h0 : 0 ≤ n) (h1 : n ≤ 1000) (h : ∀ r tk tk', IsPow r n → Q (.int r tk) { s with toks := tk' }) :
    wpAny (model prog w) A (binaryOp .Pow (.int 10 t) (.int n u)) Q E s :=
  PyProof.Rows.pow_int_small h0 (by omega) (by decide) (h _ _ _ rfl)
variable {h₀ : Heap} {L D : Addr} {m : Str → Option Value} {news : List (Addr × Obj)} {g : Obj → List (Addr × Obj)}
theorem append_pg {xs : List Value} {n : Nat} {x : Value} (F : Fr h₀ L s.heap m) (N : News h₀ L s.heap news) (U : UpdF D (PySem.W.listOf (List.toArray xs) n) news g) (hz : xs.length ≤ 1000)
    (h : ∀ h', Fr h₀ L h' m → News h₀ L h' (g (PySem.W.listOf (List.toArray (xs ++ [x])) (n + 1))) → Q .none { s with heap := h' }) : wpAny (model prog w) A (call (.builtin "list.append") [.ref D, x]) Q E s := by
  obtain ⟨pre, post, rfl, hg, a, b⟩ := U.split
  have z := N (D, PySem.W.listOf (List.toArray xs) n) (List.mem_append.mpr (.inr (.head _)))
  refine append_at (hsz := by rw [sizeLine_eq, List.size_toArray]; omega) z.1 fun h' hs ho' => h h' (F.change hs z.2.1 z.2.2) ?_
  rw [hg]
  refine news_set N a b hs ?_
  rw [ho']
  simp
end
theorem run_ds_len : ∀ (ts : List Nat) (s : WSt), (ts.foldl stepW s).ds.length = s.ds.length + ts.length
  | [], _ => rfl
  | t :: r, s => by
    show (r.foldl stepW (stepW s t)).ds.length = _
    rw [run_ds_len r]
    show (s.ds ++ [_]).length + _ = _
    simp
    omega
theorem ds_len {dvs : List Value} {ts : List Nat} (h : IntsAre dvs (runW ts).ds) (hl : ts.length ≤ 2) : dvs.length ≤ 2 := by
  have h1 := h.length
  have h2 : (runW ts).ds.length = 0 + ts.length := run_ds_len ts _
  omega

theorem pow_term {p l : Str} {k : Nat} {c r0 r1 : Int} (h1 : IsPow r1 ((p.length : Int) + r0)) (h0 : r0 = c * (l.length : Int)) (hc : c = (k : Int)) : r1 = 10 ^ (p.length + k * l.length) := by
  have e : (p.length : Int) + r0 = ((p.length + k * l.length : Nat) : Int) := by rw [h0, hc]; simp
  unfold IsPow at h1
  rw [h1, e, Int.toNat_natCast]
theorem due1 {p l : Str} {a1 b1 c1 : Int} (h1 : IsPow b1 ((p.length : Int) + a1)) (e1 : a1 = c1 * (l.length : Int)) (q1 : c1 = ((0 : Nat) : Int)) : b1 + 0 = dueOf p l 1 := by
  rw [pow_term h1 e1 q1]
  simp [dueOf, List.range_succ]
theorem due2 {p l : Str} {a1 b1 c1 a2 b2 c2 : Int} (h1 : IsPow b1 ((p.length : Int) + a1)) (e1 : a1 = c1 * (l.length : Int)) (q1 : c1 = ((0 : Nat) : Int))
   (h2 : IsPow b2 ((p.length : Int) + a2)) (e2 : a2 = c2 * (l.length : Int)) (q2 : c2 = ((1 : Nat) : Int)) : b1 + (b2 + 0) = dueOf p l 2 := by
  rw [pow_term h1 e1 q1, pow_term h2 e2 q2]
  simp [dueOf, List.range_succ]
theorem due3 {p l : Str} {a1 b1 c1 a2 b2 c2 a3 b3 c3 : Int} (h1 : IsPow b1 ((p.length : Int) + a1)) (e1 : a1 = c1 * (l.length : Int)) (q1 : c1 = ((0 : Nat) : Int))
   (h2 : IsPow b2 ((p.length : Int) + a2)) (e2 : a2 = c2 * (l.length : Int)) (q2 : c2 = ((1 : Nat) : Int))
   (h3 : IsPow b3 ((p.length : Int) + a3)) (e3 : a3 = c3 * (l.length : Int)) (q3 : c3 = ((2 : Nat) : Int)) : b1 + (b2 + (b3 + 0)) = dueOf p l 3 := by
  rw [pow_term h1 e1 q1, pow_term h2 e2 q2, pow_term h3 e3 q3]
  simp [dueOf, List.range_succ]
theorem run_snoc (ts : List Nat) (t : Nat) : runW (ts ++ [t]) = stepW (runW ts) t := by simp [runW, List.foldl_append]
theorem ints_snoc {x : Int} {u : Tok} : ∀ {vs : List Value} {ns : List Int}, IntsAre vs ns → IntsAre (vs ++ [.int x u]) (ns ++ [x])
  | _, _, .nil => .cons x u .nil
  | _, _, .cons i t h => .cons i t (ints_snoc h)
theorem turn_end {h₀ h' : Heap} {L I Du W hl q1 q2 : Addr} {it : Obj} {s₁ : Shared} {tk : Nat} {m₀ : Str → Option Value} {all fixed : List (Addr × Obj)} {lp : Addr × Obj} {v : Value} {r : List Value} {ts : List Nat} {t : Nat} {ti due : Int}
   {nm : Str} {tn tn0 tg tg0 tp tl tl0 tv1 tk1 tdu : Tok} {pre dvs : List Value} {a b c d ut uv : Option Value} {cD cW cH c1 c2 : Nat}
   (hv : ∀ x ∈ v :: r, ∃ a t, x = .int a t) (hlen : ts.length + (v :: r).length = 3) (hts : ∀ t ∈ ts, t = 1 ∨ t = 2 ∨ t = 3) (hnm : NewerNm nm) (hpre : pre.length = ts.length) (hds : IntsAre dvs (runW ts).ds)
   (ht : t = 1 ∨ t = 2 ∨ t = 3) (hti : ti = (t : Int)) (hdue : due = dueOf (runW ts).p (runW ts).l t)
   (F : Fr h₀ L h' (fun y => if y = Str.ofString "grown" then some (.str (Txt.mul (runW ts).l ti ++ (runW ts).p) tg) else if y = Str.ofString "name" then some (.str nm tn) else if y = Str.ofString "times" then ut else if y = Str.ofString "v" then uv else mapT a b c d m₀ y))
   (N : News h₀ L h' all) (mI : (I, it) ∈ all)
   (mD : (Du, PySem.W.listOf (List.toArray (dvs ++ [.int due tdu])) cD) ∈ all) (mW : (W, PySem.W.listOf (List.toArray ((pre ++ [.str (runW ts).p tp, .str (runW ts).l tl]) ++ [.str (Txt.mul (runW ts).l ti ++ (runW ts).p) tv1])) cW) ∈ all)
   (mH : (hl, PySem.W.listOf #[.ref q1, .ref q2] cH) ∈ all) (m1 : (q1, pair (Str.ofString "oldER") tk1 (runW ts).l tl0 c1) ∈ all) (m2 : (q2, pair nm tn0 (Txt.mul (runW ts).l ti ++ (runW ts).p) tg0 c2) ∈ all)
   (mf : SubL fixed all) (hlp : lp ∈ fixed)
   (off : OffI I it ((Du, PySem.W.listOf (List.toArray (dvs ++ [.int due tdu])) cD) :: (W, PySem.W.listOf (List.toArray ((pre ++ [.str (runW ts).p tp, .str (runW ts).l tl]) ++ [.str (Txt.mul (runW ts).l ti ++ (runW ts).p) tv1])) cW) ::
     (hl, PySem.W.listOf #[.ref q1, .ref q2] cH) :: (q1, pair (Str.ofString "oldER") tk1 (runW ts).l tl0 c1) :: (q2, pair nm tn0 (Txt.mul (runW ts).l ti ++ (runW ts).p) tg0 c2) :: fixed)) :
   UnrEnd h₀ L s₁ I it (fun m' n' => lp ∈ n' ∧ TurnInv m₀ Du W hl fixed r m' n') { s₁ with heap := h', toks := tk } := by
  subst hti
  have hsub := mf.mem
  rw [mapT_step] at F
  refine UnrEnd.intro3 F N _ mI (SubL.of fun p hp => ?_) off ⟨?_, ?_⟩
  · simp only [List.mem_cons] at hp
    rcases hp with rfl | rfl | rfl | rfl | rfl | hp
    · exact mD
    · exact mW
    · exact mH
    · exact m1
    · exact m2
    · exact hsub p hp
  · exact .tail _ (.tail _ (.tail _ (.tail _ (.tail _ hlp))))
  · refine ⟨ts ++ [t], Str.ofString "oldER", nm, tk1, tn0, tl0, tg0, tl, tv1, c1, c2, cD, cW, cH, q1, q2, pre ++ [.str (runW ts).p tp], dvs ++ [.int due tdu], _, _, _, _, fun x hx => hv x (.tail _ hx), ?_, ?_, by decide +kernel, hnm, fun _ => ⟨rfl, tn, rfl⟩, ?_, ?_, rfl, ?_⟩
    · simp only [List.length_append, List.length_cons, List.length_nil] at hlen ⊢
      omega
    · intro x hx
      rcases List.mem_append.mp hx with hx | hx
      · exact hts x hx
      · rw [List.mem_singleton.mp hx]
        exact ht
    · simp [hpre]
    · rw [run_snoc, hdue]
      exact ints_snoc hds
    · rw [run_snoc]
      show _ = (Du, _) :: (W, PySem.W.listOf (List.toArray ((pre ++ [.str (runW ts).p tp]) ++ [.str (runW ts).l tl, .str (Txt.mul (runW ts).l (t : Int) ++ (runW ts).p) tv1])) cW) :: _
      have e : (pre ++ [Value.str (runW ts).p tp]) ++ [.str (runW ts).l tl, .str (Txt.mul (runW ts).l (t : Int) ++ (runW ts).p) tv1] = (pre ++ [.str (runW ts).p tp, .str (runW ts).l tl]) ++ [.str (Txt.mul (runW ts).l (t : Int) ++ (runW ts).p) tv1] := by simp
      rw [e]
      rfl
end Pg
end
-- PgEnd
section
namespace Pg
structure EndF (l : Str) (x1 x2 x3 a b r1 : Int) : Prop where
  na : Numeral (ones l.length) a
  nb : Numeral l b
  a0 : 0 < a
  b0 : 0 < b
  r0 : 0 < r1
  ia : intBits a ≤ 160
  ib : intBits b ≤ 160
  ir : intBits r1 ≤ 160
  e1 : a % b = r1
  e2 : b % r1 = 1
  e3 : r1 % 1 = 0
  d1 : x1 + 1 = a / b
  d2 : x2 = b / r1
  d3 : x3 = r1 / 1
theorem end_facts {dvs : List Value} {ts : List Nat} (hlen : ts.length + ([] : List Value).length = 3) (hts : ∀ t ∈ ts, t = 1 ∨ t = 2 ∨ t = 3) (hds : IntsAre dvs (runW ts).ds) :
    ∃ x1 x2 x3 t1 t2 t3 a b r1, dvs = [.int x1 t1, .int x2 t2, .int x3 t3] ∧ EndF (runW ts).l x1 x2 x3 a b r1 := by
  obtain ⟨a, b, r1, h1, h2, h3, h4, h5, h6, h7, h8, h9, h10, h11, h12⟩ := end_ok (by simpa using hlen) hts
  rw [h12] at hds
  cases hds with
  | cons _ t1 hds => cases hds with
    | cons _ t2 hds => cases hds with
      | cons _ t3 hds =>
        cases hds
        exact ⟨_, _, _, t1, t2, t3, a, b, r1, rfl, ⟨h1, h2, h3, h4, h5, h6, h7, h8, h9, h10, h11, by omega, rfl, rfl⟩⟩
theorem ok_all : (tsAll3.all fun ts => PyData.strOk (runW ts).p && PyData.strOk (runW ts).l) = true := by decide +kernel
theorem words_ok {ts : List Nat} (h : ts.length + ([] : List Value).length = 3) (hm : ∀ t ∈ ts, t = 1 ∨ t = 2 ∨ t = 3) : PyData.strOk (runW ts).p = true ∧ PyData.strOk (runW ts).l = true := by
  have h1 := List.all_eq_true.mp ok_all _ (mem_tsAll3 (by simpa using h) hm)
  simpa using h1
theorem NewerNm.ok {nm : Str} (h : NewerNm nm) : PyData.strOk nm = true := by rcases h with rfl | rfl <;> decide +kernel
theorem ok_oldER : PyData.strOk (Str.ofString "oldER") = true := by decide +kernel
section
variable {prog : Program} {w : World} {A : Around} {E : Value → Shared → Prop} {s : Shared} {Q : Value → Shared → Prop} {h₀ : Heap} {L : Addr} {m : Str → Option Value} {news : List (Addr × Obj)}
theorem table_ne {a b t1 t2 u1 u2 : Addr} {x y p l : Str} {q1 q2 q3 q4 q5 q6 q7 q8 : Tok} {ka kb c1 c2 c3 c4 : Nat} (N : News h₀ L s.heap news) (ma : (a, PySem.W.listOf #[.ref t1, .ref t2] ka) ∈ news) (mb : (b, PySem.W.listOf #[.ref u1, .ref u2] kb) ∈ news)
   (m1 : (t1, pair x q1 p q2 c1) ∈ news) (m2 : (t2, pair y q3 l q4 c2) ∈ news) (m3 : (u1, pair x q5 p q6 c3) ∈ news) (m4 : (u2, pair y q7 l q8 c4) ∈ news)
   (ox : PyData.strOk x = true) (oy : PyData.strOk y = true) (op : PyData.strOk p = true) (ol : PyData.strOk l = true) (hu : A.units + 64 < cLine) (h : Q (.bool false) s) :
   wpAny (model prog w) A (compareOp .NotEq (.ref a) (.ref b)) Q E s := by
  have hk : ∀ d ∈ [Dat.tuple [.str x, .str p], Dat.tuple [.str y, .str l]], kqdOk 8 d = true := by
    intro d hd
    simp only [List.mem_cons, List.not_mem_nil, or_false] at hd
    rcases hd with rfl | rfl
    · simp [kqdOk, ox, op]
    · simp [kqdOk, oy, ol]
  refine kqd_ne (xs := [.ref t1, .ref t2]) (ys := [.ref u1, .ref u2]) (ds := [Dat.tuple [.str x, .str p], Dat.tuple [.str y, .str l]]) (es := [Dat.tuple [.str x, .str p], Dat.tuple [.str y, .str l]]) N ma rfl rfl
    (DatAll.cons (DatIn.tuple (vs := [.str x q1, .str p q2]) m1 (.cons (.str _ _) (.cons (.str _ _) .nil))) (.cons (DatIn.tuple (vs := [.str y q3, .str l q4]) m2 (.cons (.str _ _) (.cons (.str _ _) .nil))) .nil)) (fun _ h => h) mb rfl rfl
    (DatAll.cons (DatIn.tuple (vs := [.str x q5, .str p q6]) m3 (.cons (.str _ _) (.cons (.str _ _) .nil))) (.cons (DatIn.tuple (vs := [.str y q7, .str l q8]) m4 (.cons (.str _ _) (.cons (.str _ _) .nil))) .nil)) (fun _ h => h) hk hk hu ?_
  simpa using h
end
end Pg
end
-- PgEuc
section
namespace Pg
inductive Pull (d : Addr) (o : Obj) : List (Addr × Obj) → List (Addr × Obj) → Prop
  | head {r} : Pull d o ((d, o) :: r) r
  | tail {p r r'} : Pull d o r r' → Pull d o (p :: r) (p :: r')
theorem Pull.mem {d : Addr} {o : Obj} : ∀ {l r : List (Addr × Obj)}, Pull d o l r → ∀ p, p = (d, o) ∨ p ∈ r → p ∈ l
  | _, _, .head, p, h => by
    rcases h with rfl | h
    · exact .head _
    · exact .tail _ h
  | _, _, .tail x, p, h => by
    rcases h with h | h
    · exact .tail _ (x.mem p (.inl h))
    · rcases List.mem_cons.mp h with rfl | h
      · exact .head _
      · exact .tail _ (x.mem p (.inr h))
theorem TabOk.mono2 {ps : Array Value} {line col : Int} {qual : Str} {news news' : List (Addr × Obj)} (h : TabOk ps line col qual news) (hs : ∀ p ∈ news, p ∈ news' ∨ ∀ vs q t, p.2.data = .fields vs → vs[1]? ≠ some (.str q t)) : TabOk ps line col qual news' := by
  rcases h with h | ⟨c', oc, vs, t, e, hm, hd, hv⟩
  · exact .inl h
  · rcases hs _ hm with h | h
    · exact .inr ⟨c', oc, vs, t, e, h, hd, hv⟩
    · exact absurd hv (h _ _ _ hd)
theorem nc_list {D : Addr} {xs : Array Value} {n : Nat} : ∀ vs q t, ((D, PySem.W.listOf xs n) : Addr × Obj).2.data = .fields vs → vs[1]? ≠ some (.str q t) := fun _ _ _ e => by cases e
theorem nc_it {I : Addr} {x y : Int} : ∀ vs q t, ((I, itR x y) : Addr × Obj).2.data = .fields vs → vs[1]? ≠ some (.str q t) := by
  intro vs q t e
  cases e
  simp [rawInt]
theorem c_dmM {w : World} {news r1 rest : List (Addr × Obj)} {ps ps2 : Array Value} {a b q r : Int} {ta tb : Tok} (P1 : Pull 76 (tabObj ps) news r1) (P2 : Pull 83 (tabObj ps2) r1 rest)
   (ha : 0 < a) (hb : 0 < b) (hba : intBits a ≤ 160) (hbb : intBits b ≤ 160) (hq : q = a / b) (hr : r = a % b) (hne : ∀ p ∈ rest, p.1 ≠ 76) (hne2 : ∀ p ∈ rest, p.1 ≠ 83)
   (hps : TabOk ps 90 4 (Str.ofString "_int2digits.<locals>.inner") rest) (hps2 : TabOk ps2 105 4 (Str.ofString "_digits2int.<locals>.inner") rest) :
   Told1 w 220 2200 102 [.int a ta, .int b tb] news fun K => ∀ ps' ps2' T t1 t2 c c1 oc1 c2 oc2, (∀ p ∈ rest, p.1 < T) →
     TabOk ps' 90 4 (Str.ofString "_int2digits.<locals>.inner") ((c1, oc1) :: (c2, oc2) :: rest) → TabOk ps2' 105 4 (Str.ofString "_digits2int.<locals>.inner") ((c1, oc1) :: (c2, oc2) :: rest) →
     c1 ≠ 76 → c2 ≠ 76 → c1 ≠ 83 → c2 ≠ 83 → c1 < T → c2 < T → 83 < T →
     K (.ref T) ((76, tabObj ps') :: (83, tabObj ps2') :: (T, tupI q r t1 t2 c) :: (c1, oc1) :: (c2, oc2) :: rest) := by
  intro loose mean mg mb dp un gd cn cs ad ccd cl outer A₀ base h₀ L m s Q E B F X N T hk hd hu C1 C2 C3 hR
  subst hq hr
  exact c_int_divmod w rest ps ps2 a b ta tb ha hb hba hbb hne hne2 hps hps2 loose mean mg mb dp un gd cn cs ad ccd cl outer A₀ base h₀ L m s Q E B F X (cb_drop N fun p hp => by
    rcases List.mem_cons.mp hp with rfl | hp
    · exact P1.mem _ (.inl rfl)
    · refine P1.mem _ (.inr (P2.mem _ ?_))
      rcases List.mem_cons.mp hp with rfl | hp
      · exact .inl rfl
      · exact .inr hp) T hk hd hu C1 C2 C3 hR
theorem fix_code {h₀ h : Heap} {L D I c T e : Addr} {oc oe : Obj} {xs : Array Value} {n : Nat} {x y : Int} {all : List (Addr × Obj)} (N : News h₀ L h all) (mc : (c, oc) ∈ all) (mD : (D, PySem.W.listOf xs n) ∈ all) (mI : (I, itR x y) ∈ all) (me : (e, oe) ∈ all)
   (eD : @Ne Nat e D) (eI : @Ne Nat e I) (e76 : @Ne Nat e 76) (e83 : @Ne Nat e 83) (eT : @LT.lt Nat _ e T) (c76 : c ≠ 76) (c83 : c ≠ 83) (cT : c < T) :
   ∃ d od, (d, od) ∈ all ∧ @Ne Nat d D ∧ @Ne Nat d I ∧ d ≠ 76 ∧ d ≠ 83 ∧ d < T ∧ ∀ vs q t, oc.data = .fields vs → vs[1]? = some (.str q t) → (d, od) = (c, oc) := by
  have same : ∀ {a : Addr} {o : Obj}, (a, o) ∈ all → c = a → oc = o := fun hm e => by
    have q1 := (N _ mc).1
    have q2 := (N _ hm).1
    rw [e] at q1
    exact Option.some.inj (q1.symm.trans q2)
  by_cases h1 : c = D
  · refine ⟨e, oe, me, eD, eI, e76, e83, eT, fun vs q t hd hv => ?_⟩
    rw [same mD h1] at hd
    cases hd
  · by_cases h2 : c = I
    · refine ⟨e, oe, me, eD, eI, e76, e83, eT, fun vs q t hd hv => ?_⟩
      rw [same mI h2] at hd
      cases hd
      simp [rawInt] at hv
    · exact ⟨c, oc, mc, h1, h2, c76, c83, cT, fun _ _ _ _ _ => rfl⟩
theorem c_dmL {w : World} {news r1 rest : List (Addr × Obj)} {ps ps2 : Array Value} {a b q r : Int} {ta tb : Tok} {D I e : Addr} {y1 y2 y3 : Int} {u1 u2 u3 : Tok} {ne : Nat} {xs : Array Value} {n : Nat} {x y : Int} (P1 : Pull 76 (tabObj ps) news r1) (P2 : Pull 83 (tabObj ps2) r1 rest)
   (ha : 0 < a) (hb : 0 < b) (hba : intBits a ≤ 160) (hbb : intBits b ≤ 160) (hq : q = a / b) (hr : r = a % b) (hne : ∀ p ∈ rest, p.1 ≠ 76) (hne2 : ∀ p ∈ rest, p.1 ≠ 83)
   (hps : TabOk ps 90 4 (Str.ofString "_int2digits.<locals>.inner") rest) (hps2 : TabOk ps2 105 4 (Str.ofString "_digits2int.<locals>.inner") rest)
   (mI : (I, itR x y) ∈ rest) (mD : (D, PySem.W.listOf xs n) ∈ rest) (me : (e, PySem.W.listOf #[.int y1 u1, .int y2 u2, .int y3 u3] ne) ∈ rest) (eD : @Ne Nat e D) (eI : @Ne Nat e I) :
   Told1 w 220 2200 102 [.int a ta, .int b tb] news fun K => ∀ ps' ps2' T t1 t2 c c1 oc1 c2 oc2, (∀ p ∈ rest, p.1 < T) →
     TabOk ps' 90 4 (Str.ofString "_int2digits.<locals>.inner") ((c1, oc1) :: (c2, oc2) :: rest) → TabOk ps2' 105 4 (Str.ofString "_digits2int.<locals>.inner") ((c1, oc1) :: (c2, oc2) :: rest) →
     c1 ≠ 76 → c2 ≠ 76 → c1 ≠ 83 → c2 ≠ 83 → c1 < T → c2 < T → 83 < T → @Ne Nat c1 D → @Ne Nat c1 I → @Ne Nat c2 D → @Ne Nat c2 I →
     K (.ref T) ((76, tabObj ps') :: (83, tabObj ps2') :: (T, tupI q r t1 t2 c) :: (c1, oc1) :: (c2, oc2) :: rest) := by
  intro loose mean mg mb dp un gd cn cs ad ccd cl outer A₀ base h₀ L m s Q E B F X N T hk hd hu C1 C2 C3 hR
  refine c_dmM P1 P2 ha hb hba hbb hq hr hne hne2 hps hps2 loose mean mg mb dp un gd cn cs ad ccd cl outer A₀ base h₀ L m s Q E B F X N T hk hd hu C1 C2 C3 (fun ps' ps2' T t1 t2 c c1 oc1 c2 oc2 hl tb1 tb2 z1 z2 z3 z4 z5 z6 z7 h' tk' F' N' => ?_)
  have up : ∀ p ∈ rest, p ∈ (76, tabObj ps') :: (83, tabObj ps2') :: (T, tupI q r t1 t2 c) :: (c1, oc1) :: (c2, oc2) :: rest := fun p hp => .tail _ (.tail _ (.tail _ (.tail _ (.tail _ hp))))
  obtain ⟨d1, od1, m1, n1, n2, n3, n4, n5, k1⟩ := fix_code (c := c1) (oc := oc1) (T := T) N' (.tail _ (.tail _ (.tail _ (.head _)))) (up _ mD) (up _ mI) (up _ me) eD eI (hne _ me) (hne2 _ me) (hl _ me) z1 z3 z5
  obtain ⟨d2, od2, m2, n6, n7, n8, n9, n10, k2⟩ := fix_code (c := c2) (oc := oc2) (T := T) N' (.tail _ (.tail _ (.tail _ (.tail _ (.head _))))) (up _ mD) (up _ mI) (up _ me) eD eI (hne _ me) (hne2 _ me) (hl _ me) z2 z4 z6
  have tab : ∀ {ps : Array Value} {line col : Int} {qual : Str}, TabOk ps line col qual ((c1, oc1) :: (c2, oc2) :: rest) → TabOk ps line col qual ((d1, od1) :: (d2, od2) :: rest) := by
    intro ps line col qual h
    rcases h with h | ⟨c', oc, vs, t, e, hm, hd, hv⟩
    · exact .inl h
    · refine .inr ⟨c', oc, vs, t, e, ?_, hd, hv⟩
      rcases List.mem_cons.mp hm with h | hm
      · cases h
        rw [← k1 _ _ _ hd hv]
        exact .head _
      · rcases List.mem_cons.mp hm with h | hm
        · cases h
          rw [← k2 _ _ _ hd hv]
          exact .tail _ (.head _)
        · exact .tail _ (.tail _ hm)
  refine hR ps' ps2' T t1 t2 c d1 od1 d2 od2 hl (tab tb1) (tab tb2) n3 n8 n4 n9 n5 n10 z7 n1 n2 n6 n7 h' tk' F' (cb_drop N' fun p hp => ?_)
  rcases List.mem_cons.mp hp with rfl | hp
  · exact .head _
  · rcases List.mem_cons.mp hp with rfl | hp
    · exact .tail _ (.head _)
    · rcases List.mem_cons.mp hp with rfl | hp
      · exact .tail _ (.tail _ (.head _))
      · rcases List.mem_cons.mp hp with rfl | hp
        · exact m1
        · rcases List.mem_cons.mp hp with rfl | hp
          · exact m2
          · exact up _ hp
end Pg
end
-- the law
namespace Pg
theorem clean_Older : Clean nCode (Str.ofString "Older") := by unfold Clean; decide +kernel
theorem clean_oldER : Clean nCode (Str.ofString "oldER") := by unfold Clean; decide +kernel
theorem clean_Newer : Clean nCode (Str.ofString "Newer") := by unfold Clean; decide +kernel
theorem clean_v1 : Clean vCode (Str.ofString "1") := by unfold Clean; decide +kernel
theorem clean_v0 : Clean vCode (Str.ofString "0") := by unfold Clean; decide +kernel
theorem three_ints {ws : List Value} {ns : List Int} (h : IntsAre ws (ns.take 3 ++ ([1, 0, 5] : List Int).drop ns.length)) : ∃ a b c ta tb tc, ws = [.int a ta, .int b tb, .int c tc] := by
  obtain ⟨a, b, c, e⟩ := three ns
  rw [e] at h
  cases h with
  | cons _ ta h => cases h with
    | cons _ tb h => cases h with
      | cons _ tc h => cases h; exact ⟨a, b, c, ta, tb, tc, rfl⟩
theorem end_ne {h₀ h : Heap} {L Du W hl p1 p2 : Addr} {x y z : Array Value} {a b c c1 c2 : Nat} {k1 k2 v1 v2 : Str} {t1 t2 t3 t4 : Tok} {rest : List (Addr × Obj)}
   (N : News h₀ L h ((Du, PySem.W.listOf x a) :: (W, PySem.W.listOf y b) :: (hl, PySem.W.listOf z c) :: (p1, pair k1 t1 v1 t2 c1) :: (p2, pair k2 t3 v2 t4 c2) :: rest)) :
   @Ne Nat p1 Du ∧ @Ne Nat p1 W ∧ @Ne Nat p1 hl ∧ @Ne Nat p2 Du ∧ @Ne Nat p2 W ∧ @Ne Nat p2 hl := by
  have mp1 : (p1, pair k1 t1 v1 t2 c1) ∈ (Du, PySem.W.listOf x a) :: (W, PySem.W.listOf y b) :: (hl, PySem.W.listOf z c) :: (p1, pair k1 t1 v1 t2 c1) :: (p2, pair k2 t3 v2 t4 c2) :: rest := by simp
  have mp2 : (p2, pair k2 t3 v2 t4 c2) ∈ (Du, PySem.W.listOf x a) :: (W, PySem.W.listOf y b) :: (hl, PySem.W.listOf z c) :: (p1, pair k1 t1 v1 t2 c1) :: (p2, pair k2 t3 v2 t4 c2) :: rest := by simp
  exact ⟨news_ne N mp1 (.head _) (by k_cls), news_ne N mp1 (.tail _ (.head _)) (by k_cls), news_ne N mp1 (.tail _ (.tail _ (.head _))) (by k_cls), news_ne N mp2 (.head _) (by k_cls), news_ne N mp2 (.tail _ (.head _)) (by k_cls), news_ne N mp2 (.tail _ (.tail _ (.head _))) (by k_cls)⟩
section
local macro_rules | `(tactic| k_ne) => `(tactic| (refine neN ?_; (try dsimp only); with_reducible first | assumption | exact Ne.symm (by assumption)))
abbrev HoldsOf {P Q : Prop} (_ : P → Q) : Prop := P
set_option maxRecDepth 100000 in
set_option maxHeartbeats 16000000 in
theorem walk : HoldsOf Pg.hd := by
  delta HoldsOf
  w_top off
  k_with_none
  k_with "subscriptTail List cons Slice ref ref" => (k_here; k_dflt (refine kba_turn (value' := PySem.Expr.Name (PySem.Str.ofString "_") ⟨0, 0, 0, 0⟩) (fun _ => rfl) ?_))
  k_with "subscriptTail Name Slice ref ref" => (k_here; k_dflt (refine' kmk_slice_ints ?zF ?zN ?zl ?zp ?zq ?zhi ?zhm ?zhc ?_ ?zs ?zt ?zz; (case zF => k_asm); (case zN => k_asm); (case zl => exact News.isList (by k_asm) (by k_mem)); (case zp => exact IsPart.int _ _); (case zq => exact IsPart.none); (case zhi => exact .cons _ _ (.cons _ _ (.cons _ _ .nil))); (case zhm => exact pick3 _); (case zhc => exact rfl); (case zs => with_unfolding_all rfl); (case zt => kmk_pure); (case zz => exact Nat.le_of_ble_eq_true rfl)); intro D' ws' h' F' N' l1 hI' hc' hl'; clear hc' hl'; (try k_lt l1))
  k_with "call ref cons" => (k_here; (show wpAny _ _ (call (Value.ref _) _ [(Str.ofString "name", Value.bool _)]) _ _ _); (with_reducible show wpAny _ _ (call (Value.ref _) _ [(Str.ofString "name", Value.bool true)]) _ _ _); k_dflt (refine' use_told3 (c_convN _ _ _ _ _ ?zcl ?zsz) ?zB ?zF ?zX ?zN ?zT ?zhk ?zhd ?zhu ?_); (case zB => k_asm); (case zF => k_asm); (case zX => k_asm); (case zN => k_asm); (case zT => k_asm); (case zhk => exact rfl); (case zhd => exact Nat.le_of_ble_eq_true rfl); (case zhu => (rw [cLine_is]; exact Nat.le_of_ble_eq_true rfl)); (case zcl => with_reducible first | assumption | exact clean_Older | exact clean_newer | exact clean_older | exact clean_oldER | exact clean_Newer | exact clean_v1 | exact clean_v0); (case zsz => first | assumption | decide); intro h' tk' F' N')
  k_with "call ref cons" => (k_here; (show wpAny _ _ (call (Value.ref _) _ [(Str.ofString "name", Value.bool _)]) _ _ _); (with_reducible show wpAny _ _ (call (Value.ref _) _ [(Str.ofString "name", Value.bool false)]) _ _ _); k_dflt (refine' use_told3 (c_convV _ _ _ _ _ ?zcl ?zsz) ?zB ?zF ?zX ?zN ?zT ?zhk ?zhd ?zhu ?_); (case zB => k_asm); (case zF => k_asm); (case zX => k_asm); (case zN => k_asm); (case zT => k_asm); (case zhk => exact rfl); (case zhd => exact Nat.le_of_ble_eq_true rfl); (case zhu => (rw [cLine_is]; exact Nat.le_of_ble_eq_true rfl)); (case zcl => with_reducible first | assumption | exact clean_Older | exact clean_newer | exact clean_older | exact clean_oldER | exact clean_Newer | exact clean_v1 | exact clean_v0); (case zsz => first | assumption | decide); intro h' tk' F' N')
  k_with "binaryOp Add int int" => (k_here; (with_reducible show wpAny _ _ (binaryOp _ (Value.int _ _) (Value.int (Int.fmod _ _) _)) _ _ _); k_dflt (refine times_pgI (by assumption) ?_); intro _ _)
  k_with "binaryOp Add str str" => (k_here; k_dflt (refine cat_pgL (by with_reducible assumption) ?_); intro _ _)
  k_with "call ref cons nil" => (k_here; (with_reducible show wpAny _ _ (call _ [_, _, _, _, _]) _ _ _); k_dflt (refine' use_told (c_replace _ _ _ _ _ _ _ _ _ _ _ _ (by assumption)) ?zB ?zF ?zX ?zN ?zT ?zhk ?zhd ?zhu ?zc1 ?zc2 ?zc3 ?_); (case zB => k_asm); (case zF => k_asm); (case zX => k_asm); (case zN => k_asm); (case zT => k_asm); (case zhk => exact rfl); (case zhd => exact Nat.le_of_ble_eq_true rfl); (case zhu => (rw [cLine_is]; exact Nat.le_of_ble_eq_true rfl)); (case zc1 => assumption); (case zc2 => assumption); (case zc3 => assumption); intro t9 h' tk' F' N')
  k_with "subscriptTail List cons BinOp ref int" => (k_here; k_dflt (refine pick2 (News.isList (by k_asm) (by k_mem)) rfl ?_); intro nm9 t9 hnm9)
  k_with "call ref cons nil" => (k_here; (with_reducible show wpAny _ _ (call _ [_, _]) _ _ _); k_dflt (refine' use_told (c_gi_newM ?e1 ?e2 ?e3 ?m1 ?m2 ?m3 ?m4 ?m5) ?zB ?zF ?zX ?zN ?zT ?zhk ?zhd ?zhu ?zc1 ?zc2 ?zc3 ?_; (case zB => k_asm); (case zF => k_asm); (case zX => k_asm); (case zN => k_asm); (case zT => k_asm); (case zhk => exact rfl); (case zhd => exact Nat.le_of_ble_eq_true rfl); (case zhu => (rw [cLine_is]; exact Nat.le_of_ble_eq_true rfl)); (case m4 => k_mem); (case m5 => k_mem); (case m1 => k_mem); (case m2 => k_mem); (case m3 => k_mem); (case e1 => first | with_reducible assumption | (with_reducible exact NewerNm.lower (by assumption)) | decide +kernel); (case e2 => first | with_reducible assumption | (with_reducible exact NewerNm.lower (by assumption)) | decide +kernel); (case e3 => first | with_reducible assumption | (with_reducible exact NewerNm.lower (by assumption)) | decide +kernel); (case zc1 => assumption); (case zc2 => assumption); (case zc3 => assumption)); intro h' tk' F' N')
  k_with "call ref cons nil" => (k_here; (with_reducible show wpAny _ _ (call _ [_, _]) _ _ _); k_dflt (refine' use_told (c_gi_oldM ?e1 ?e2 ?e3 ?m1 ?m2 ?m3 ?m4 ?m5) ?zB ?zF ?zX ?zN ?zT ?zhk ?zhd ?zhu ?zc1 ?zc2 ?zc3 ?_; (case zB => k_asm); (case zF => k_asm); (case zX => k_asm); (case zN => k_asm); (case zT => k_asm); (case zhk => exact rfl); (case zhd => exact Nat.le_of_ble_eq_true rfl); (case zhu => (rw [cLine_is]; exact Nat.le_of_ble_eq_true rfl)); (case m4 => k_mem); (case m5 => k_mem); (case m1 => k_mem); (case m2 => k_mem); (case m3 => k_mem); (case e1 => first | with_reducible assumption | (with_reducible exact NewerNm.lower (by assumption)) | decide +kernel); (case e2 => first | with_reducible assumption | (with_reducible exact NewerNm.lower (by assumption)) | decide +kernel); (case e3 => first | with_reducible assumption | (with_reducible exact NewerNm.lower (by assumption)) | decide +kernel); (case zc1 => assumption); (case zc2 => assumption); (case zc3 => assumption)); intro h' tk' F' N')
  k_with "call ref cons nil" => (k_here; (with_reducible show wpAny _ _ (call _ [_, _, _]) _ _ _); k_dflt (refine' use_told (c_set_oldM ?e1 ?e2 ?e3 ?q1 ?q2 ?q3 ?q4 ?zU ?m2 ?m3 ?m4 ?m5) ?zB ?zF ?zX ?zN ?zT ?zhk ?zhd ?zhu ?zc1 ?zc2 ?zc3 ?_; (case zB => k_asm); (case zF => k_asm); (case zX => k_asm); (case zN => k_asm); (case zT => k_asm); (case zhk => exact rfl); (case zhd => exact Nat.le_of_ble_eq_true rfl); (case zhu => (rw [cLine_is]; exact Nat.le_of_ble_eq_true rfl)); (case m4 => k_mem); (case m5 => k_mem); (case zU => k_updF); (case m2 => k_mem); (case m3 => k_mem); (case e1 => first | with_reducible assumption | (with_reducible exact NewerNm.lower (by assumption)) | decide +kernel); (case e2 => first | with_reducible assumption | (with_reducible exact NewerNm.lower (by assumption)) | decide +kernel); (case e3 => first | with_reducible assumption | (with_reducible exact NewerNm.lower (by assumption)) | decide +kernel); (case q1 => with_reducible first | assumption | exact NewerNm.clean (by assumption) | exact clean_oldER); (case q2 => first | assumption | exact NewerNm.size (by assumption) | decide); (case q3 => with_reducible assumption); (case q4 => assumption); (case zc1 => assumption); (case zc2 => assumption); (case zc3 => assumption)); intro D' c' cc' l1 h' tk' F' N'; (try simp only [AllLt, and_true] at l1); (try dsimp only at N'))
  k_with "call ref cons nil" => (k_here; (with_reducible show wpAny _ _ (call _ [_, _, _]) _ _ _); k_dflt (refine' use_told (c_set_newM ?e1 ?e2 ?e3 ?q1 ?q2 ?q3 ?q4 ?zU ?m2 ?m3 ?m4 ?m5) ?zB ?zF ?zX ?zN ?zT ?zhk ?zhd ?zhu ?zc1 ?zc2 ?zc3 ?_; (case zB => k_asm); (case zF => k_asm); (case zX => k_asm); (case zN => k_asm); (case zT => k_asm); (case zhk => exact rfl); (case zhd => exact Nat.le_of_ble_eq_true rfl); (case zhu => (rw [cLine_is]; exact Nat.le_of_ble_eq_true rfl)); (case m4 => k_mem); (case m5 => k_mem); (case zU => k_updF); (case m2 => k_mem); (case m3 => k_mem); (case e1 => first | with_reducible assumption | (with_reducible exact NewerNm.lower (by assumption)) | decide +kernel); (case e2 => first | with_reducible assumption | (with_reducible exact NewerNm.lower (by assumption)) | decide +kernel); (case e3 => first | with_reducible assumption | (with_reducible exact NewerNm.lower (by assumption)) | decide +kernel); (case q1 => with_reducible first | assumption | exact NewerNm.clean (by assumption) | exact clean_oldER); (case q2 => first | assumption | exact NewerNm.size (by assumption) | decide); (case q3 => with_reducible assumption); (case q4 => assumption); (case zc1 => assumption); (case zc2 => assumption); (case zc3 => assumption)); intro D' c' cc' l1 h' tk' F' N'; (try simp only [AllLt, and_true] at l1); (try dsimp only at N'))
  k_with "subscriptTail Name UnaryOp ref int" => (k_here; (with_reducible show wpAny _ _ (subscriptTail _ _ _ (Value.int (-1) _)) _ _ _); k_dflt (refine last1 (News.isList (by k_asm) (by k_mem)) ?_))
  k_with "subscriptTail Name UnaryOp ref int" => (k_here; (with_reducible show wpAny _ _ (subscriptTail _ _ _ (Value.int (-2) _)) _ _ _); k_dflt (refine last2 (News.isList (by k_asm) (by k_mem)) ?_))
  k_with "binaryOp Pow int int" => (k_here; k_dflt (refine pow_pg ?p1 ?p2 ?_; (case p1 => omega); (case p2 => omega)); intro r' _ _ hr')
  k_with "CompEnd int" => (refine LCg.CompEnd.intro (by assumption) (by assumption) _ (fun _ h => h) (by simp only [LCg.Off3, and_true]; assumption) (by lcg_src) ?_)
  k_with "binaryOp Mult int int" => (k_here; k_dflt (refine' smul_pg ?p1 ?p2 ?p3 ?p4 ?_; (case p1 => omega); (case p2 => omega); (case p3 => omega); (case p4 => omega)); intro r' _ _ hr' hr0' hr1')
  k_with "CompSrc BinOp cons ref" => (k_here; k_dflt (refine LCg.CompSrc.range (by rfl) (by k_asm) (by k_asm) (by assumption) (by first | decide | rfl) (by first | rfl | decide) (by first | size_fits | exact Nat.le_of_ble_eq_true rfl) ?_; intro g'; lcg_lit))
  k_with "call builtin:list.append cons nil" => (k_here; k_dflt (refine' append_pg ?zF ?zN ?zU ?zz ?_; (case zF => k_asm); (case zN => k_asm); (case zU => k_updF); (case zz => first | omega | (simp only [List.length_append, List.length_cons, List.length_nil]; omega))); intro h' F' N'; (try dsimp only at N'))
  k_with "UnrEnd" => (goal_has Pg.TurnInv; k_dflt (refine' turn_end (t := 1) ?hv ?hlen ?hts ?hnm ?hpre ?hds ?ht ?hti ?hdue ?zF ?zN ?mI ?mD ?mW ?mH ?m1 ?m2 ?mf ?lp ?off; (case zF => k_asm); (case hti => exact rfl); (case zN => k_asm); (case mI => k_mem); (case mD => k_mem); (case mW => k_mem); (case mH => k_mem); (case m1 => k_mem); (case m2 => k_mem); (case mf => k_subL); (case lp => k_mem); (case hv => assumption); (case hlen => assumption); (case hts => assumption); (case hnm => assumption); (case hpre => assumption); (case hds => assumption); (case ht => decide); (case hdue => exact due1 (by assumption) (by assumption) (by rfl)); (case off => ktu_offI)))
  k_with "UnrEnd" => (goal_has Pg.TurnInv; k_dflt (refine' turn_end (t := 2) ?hv ?hlen ?hts ?hnm ?hpre ?hds ?ht ?hti ?hdue ?zF ?zN ?mI ?mD ?mW ?mH ?m1 ?m2 ?mf ?lp ?off; (case zF => k_asm); (case hti => exact rfl); (case zN => k_asm); (case mI => k_mem); (case mD => k_mem); (case mW => k_mem); (case mH => k_mem); (case m1 => k_mem); (case m2 => k_mem); (case mf => k_subL); (case lp => k_mem); (case hv => assumption); (case hlen => assumption); (case hts => assumption); (case hnm => assumption); (case hpre => assumption); (case hds => assumption); (case ht => decide); (case hdue => exact due2 (by assumption) (by assumption) (by rfl) (by assumption) (by assumption) (by rfl)); (case off => ktu_offI)))
  k_with "UnrEnd" => (goal_has Pg.TurnInv; k_dflt (refine' turn_end (t := 3) ?hv ?hlen ?hts ?hnm ?hpre ?hds ?ht ?hti ?hdue ?zF ?zN ?mI ?mD ?mW ?mH ?m1 ?m2 ?mf ?lp ?off; (case zF => k_asm); (case hti => exact rfl); (case zN => k_asm); (case mI => k_mem); (case mD => k_mem); (case mW => k_mem); (case mH => k_mem); (case m1 => k_mem); (case m2 => k_mem); (case mf => k_subL); (case lp => k_mem); (case hv => assumption); (case hlen => assumption); (case hts => assumption); (case hnm => assumption); (case hpre => assumption); (case hds => assumption); (case ht => decide); (case hdue => exact due3 (by assumption) (by assumption) (by rfl) (by assumption) (by assumption) (by rfl) (by assumption) (by assumption) (by rfl)); (case off => ktu_offI)))
  k_with "compareOp NotEq ref ref" => (k_here; k_dflt (refine' table_ne ?zN ?ma ?mb ?m1 ?m2 ?m3 ?m4 ?ox ?oy ?op ?ol ?hu ?_; (case zN => k_asm); (case ma => k_mem); (case mb => k_mem); (case m1 => k_mem); (case m2 => k_mem); (case m3 => k_mem); (case m4 => k_mem); (case ox => exact ok_oldER); (case oy => assumption); (case op => assumption); (case ol => assumption); (case hu => (rw [cLine_is]; exact Nat.le_of_ble_eq_true rfl))))
  k_with "call ref cons nil" => (k_here; (with_reducible show wpAny _ _ (call _ [Value.str _ _]) _ _ _); k_dflt (refine' use_told2 (c_int_from_string _ _ _ _ _ _ ?p1 ?p2 ?p3) ?zB ?zF ?zX ?zN ?zT ?zhk ?zhd ?zhu ?zc1 ?zc2 ?zc3 ?_; (case zB => k_asm); (case zF => k_asm); (case zX => k_asm); (case zN => k_asm); (case zT => k_asm); (case zhk => exact rfl); (case zhd => exact Nat.le_of_ble_eq_true rfl); (case zhu => (rw [cLine_is]; exact Nat.le_of_ble_eq_true rfl)); (case zc1 => assumption); (case zc2 => assumption); (case zc3 => assumption); (case p1 => with_reducible assumption); (case p2 => first | exact .inl rfl | exact .inr ⟨_, _, _, _, rfl, .head _, by assumption, by assumption⟩); (case p3 => k_all)); intro t' c' oc' cvs' t2' z1 z2 z3 h' tk' dr' F' N')
  k_with "pg pull" => first | exact Pull.head | (refine' Pull.tail ?pb; (case pb => walk_at "pg pull"))
  k_with "pg sub" => first | exact List.forall_mem_nil _ | (refine List.forall_mem_cons.mpr ⟨?_, ?_⟩; (focus (first | exact Or.inl (by k_mem) | exact Or.inr nc_list | exact Or.inr nc_it)); walk_at "pg sub")
  k_with "call ref cons nil" => (k_here; (with_reducible show wpAny _ _ (call _ [Value.int _ _, Value.int _ _]) _ _ _); k_dflt (refine' use_told (c_dmL ?p1 ?p2 ?q1 ?q2 ?q3 ?q4 ?q5 ?q6 ?n1 ?n2 ?t1 ?t2 ?mI ?mD ?me ?eD ?eI) ?zB ?zF ?zX ?zN ?zT ?zhk ?zhd ?zhu ?zc1 ?zc2 ?zc3 ?_; (case zB => k_asm); (case zF => k_asm); (case zX => k_asm); (case zN => k_asm); (case zT => k_asm); (case zhk => exact rfl); (case zhd => exact Nat.le_of_ble_eq_true rfl); (case zhu => (rw [cLine_is]; exact Nat.le_of_ble_eq_true rfl)); (case zc1 => assumption); (case zc2 => assumption); (case zc3 => assumption); (case p1 => walk_at "pg pull"); (case p2 => walk_at "pg pull"); (case q1 => with_reducible assumption); (case q2 => with_reducible assumption); (case q3 => with_reducible assumption); (case q4 => with_reducible assumption); (case q5 => with_reducible assumption); (case q6 => with_reducible assumption); (case n1 => k_all); (case n2 => k_all); (case mI => k_mem); (case mD => k_mem); (case me => k_mem); (case eD => k_ne); (case eI => k_ne); (case t1 => first | exact .inl rfl | exact TabOk.mono2 (by assumption) (by walk_at "pg sub")); (case t2 => first | exact .inl rfl | exact TabOk.mono2 (by assumption) (by walk_at "pg sub"))); intro ps' ps2' T' t1' t2' c' c1' oc1' c2' oc2' l1 z1 z2 z3 z4 z5 z6 z7 z8 z9 z10 z11 z12 z13 h' tk' F' N'; (try k_lt l1))
  w_strict (
    k_go0
    (all_goals try k_fold)
    w_top off
    exact (by w_strict (
    iterate 34 (first | (k_unfold; (try dsimp only)) | (k_end; wrow_close) | walk1 | (dsimp only; walk1) | (leave1; walk_say "STEP leave1"; try dsimp only) | fail "no step")
    (k_here; k_dflt (refine' kmk_add_ints ?zF ?zN ?za ?zb ?zi ?zj ?_ ?zz; (case zF => k_asm); (case zN => k_asm); (case za => kmk_list); (case zb => kmk_list); (case zi => l_ints); (case zj => l_ints); (case zz => kmk_sum)); intro D' ws' h' F' N' l1 hI'; (try k_lt l1))
    obtain ⟨a, b, c, ta, tb, tc, rfl⟩ := three_ints hI'
    clear hI'
    (try dsimp only [List.toArray] at N')
    iterate 189 (first | (k_unfold; (try dsimp only)) | (k_end; wrow_close) | walk1 | (dsimp only; walk1) | (leave1; walk_say "STEP leave1"; try dsimp only) | fail "no step")
    refine loop_pg ?_ ?_
    · as_aux_lemma => exact (by w_top off; w_strict (
      intro v r m' news hI it h tk hc F N
      obtain ⟨ts, k1, k2, k1t, k2t, v1t, v2t, tp, tl, c1, c2, cD, cW, cH, p1, p2, pre, dvs, uv, ut, un, ug, hv, hlen, hts, hk1, hk2, hnm, hpre, hds, rfl, rfl⟩ := hI
      obtain ⟨a, ta, rfl⟩ := hv _ (.head _)
      have hlen2 : ts.length ≤ 2 := by simp only [List.length_cons] at hlen; omega
      obtain ⟨t, ti, ht, hti, et⟩ := times_ofI a
      have hOk := turn_ok hlen2 hts (times_or ht)
      have hRep := hOk.rep
      have hx1 : LenLe (Txt.mul (runW ts).l (t : Int) ++ (runW ts).p) 50 := hOk.lr
      have hk2' := hk2.lower
      have hcl := hOk.cl
      have hcr := hOk.cr
      have hsl : (runW ts).l.cps.size < 2 ^ 62 := Nat.lt_of_le_of_lt hOk.sl (by decide)
      have hsr : (Txt.mul (runW ts).l (t : Int) ++ (runW ts).p).cps.size < 2 ^ 62 := Nat.lt_of_le_of_lt hOk.sr (by decide)
      rw [← hti] at hRep hx1 hcr hsr
      have hx0 : LenLe (Txt.mul (Str.ofString "n") ti ++ Str.ofString "o") 50 := Nat.le_trans hRep.lx (by decide)
      have hll := hOk.ll
      have hlp := hOk.lp
      clear hOk hti
      have hne := turn_ne N
      iterate 100 (first | (k_unfold; (try dsimp only)) | (k_end; wrow_close) | walk1 | (dsimp only; walk1) | (leave1; walk_say "STEP leave1"; try dsimp only) | fail "no step")
      have hdl := ds_len hds hlen2
      obtain ⟨hn1, hn2, hn3, hn4, hn5, hn6⟩ := hne
      rcases ht with ⟨rfl, rfl⟩ | ⟨rfl, rfl⟩ | ⟨rfl, rfl⟩
      · repeat' (first | (k_unfold; (try dsimp only)) | (k_end; wrow_close) | walk1 | (dsimp only; walk1) | (leave1; walk_say "STEP leave1"; try dsimp only) | fail "no step")
      · repeat' (first | (k_unfold; (try dsimp only)) | (k_end; wrow_close) | walk1 | (dsimp only; walk1) | (leave1; walk_say "STEP leave1"; try dsimp only) | fail "no step")
      · repeat' (first | (k_unfold; (try dsimp only)) | (k_end; wrow_close) | walk1 | (dsimp only; walk1) | (leave1; walk_say "STEP leave1"; try dsimp only) | fail "no step")))
    · as_aux_lemma => exact (by w_top off; w_strict (
      intro m' news hI h tk F N
      obtain ⟨ts, k1, k2, k1t, k2t, v1t, v2t, tp, tl, c1, c2, cD, cW, cH, p1, p2, pre, dvs, uv, ut, un, ug, hv, hlen, hts, hk1, hk2, hnm, hpre, hds, rfl, rfl⟩ := hI
      obtain ⟨x1, x2, x3, t1, t2, t3, a, b, r1, rfl, hE⟩ := end_facts hlen hts hds
      obtain ⟨rfl, tn, rfl⟩ := hnm (by intro e; rw [e] at hlen; exact absurd hlen (by decide))
      have hk2' := hk2.lower
      have hne := end_ne N
      obtain ⟨hn1, hn2, hn3, hn4, hn5, hn6⟩ := hne
      obtain ⟨hop, hol⟩ := words_ok hlen hts
      have hon := hk2.ok
      clear hds hnm hv
      iterate 59 (first | (k_unfold; (try dsimp only)) | (k_end; wrow_close) | walk1 | (dsimp only; walk1) | (leave1; walk_say "STEP leave1"; try dsimp only) | fail "no step")
      have hll := hE.nb.len
      have hl0 := hE.nb.pos
      have hna : Numeral (Txt.mul (Str.ofString "1") ((runW ts).l.length : Int)) a := hE.na
      have hnb := hE.nb
      have ha0 := hE.a0
      have hb0 := hE.b0
      have hr0 := hE.r0
      have hia := hE.ia
      have hib := hE.ib
      have hir := hE.ir
      have hd1 := hE.d1
      have hd2 := hE.d2
      have hd3 := hE.d3
      have he1 := hE.e1.symm
      have he2 := hE.e2.symm
      have he3 := hE.e3.symm
      have hp1 : (0 : Int) < 1 := by decide
      have hi1 : intBits 1 ≤ 160 := by decide
      iterate 17 (first | (k_unfold; (try dsimp only)) | (k_end; wrow_close) | walk1 | (dsimp only; walk1) | (leave1; walk_say "STEP leave1"; try dsimp only) | fail "no step")
      (rename News _ _ _ _ => lN)
      have N2 := cb_drop (news := [(48, tabObj #[]), (76, tabObj #[]), (83, tabObj #[]), (_, PySem.W.listOf #[.int (x1 + 1) _, .int x2 _, .int x3 _] _)]) lN (List.forall_mem_cons.mpr ⟨by k_dflt k_mem, List.forall_mem_cons.mpr ⟨by k_dflt k_mem, List.forall_mem_cons.mpr ⟨by k_dflt k_mem, List.forall_mem_cons.mpr ⟨by k_dflt k_mem, List.forall_mem_nil _⟩⟩⟩⟩)
      clear lN
      iterate 29 (first | (k_unfold; (try dsimp only)) | (k_end; wrow_close) | walk1 | (dsimp only; walk1) | (leave1; walk_say "STEP leave1"; try dsimp only) | fail "no step")
      (rename News _ _ _ _ => lN)
      have N3 := cb_drop (news := [(76, tabObj #[]), (83, tabObj #[]), (48, tabObj _), (_, PySem.W.listOf #[.int (x1 + 1) _, .int x2 _, .int x3 _] _)]) lN (List.forall_mem_cons.mpr ⟨by k_dflt k_mem, List.forall_mem_cons.mpr ⟨by k_dflt k_mem, List.forall_mem_cons.mpr ⟨by k_dflt k_mem, List.forall_mem_cons.mpr ⟨by k_dflt k_mem, List.forall_mem_nil _⟩⟩⟩⟩)
      clear lN
      repeat' ((fail_if_success w_end); (first | (k_unfold; (try dsimp only)) | (k_end; wrow_close) | walk1 | (dsimp only; walk1) | (leave1; walk_say "STEP leave1"; try dsimp only) | fail "no step"))
      refine goodW_bool (by assumption) (by assumption) (raisesW_false ?_) ?_
      (· wrow_none_raised)
      (· with_unfolding_all rfl))))))
end
end Pg
theorem PySem.Challenge.cw_pg0322_01_holds : PySem.Challenge.rw_pg0322_01.Holds :=
  Pg.hd Pg.walk
