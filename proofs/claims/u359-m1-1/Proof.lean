import JvmDerived
import JvmDerived.Pilot.@@N@@Statement
import JvmDerived.Pilot.@@N@@Code
set_option linter.unusedVariables false
set_option linter.unusedSimpArgs false
namespace Jvm.RoadKit
open Sem ClassFile Op Lib Jvm.Stand Jvm.Free Jvm.LawKit
section New
variable {p : Program} {l : Launch} {e : Env} {R : Room} {s : State} {m : MethodId} {args : Array Value} {below : List Frame} {meth : Method} {c : Code} {T : State} {locs : List Loc} {cells slots : Nat}
theorem retI (X : Stand p l e R s m args below meth c T locs cells slots) (hx : p.tables.exec = Jvm.exec) {pc : Nat} {Ls : Array Slot} {z : Int32} {rest : List Value} (hret : meth.sig.returnType = some .int) (hd : decode c.code pc = .ok (.ireturn, 1)) {fs : List Frame}
    (hl : ∀ (f : JFrame) (acts : List Action), f.method = m → f.locked = none → f.entered = [] → (doReturn e (T.setTop f) acts (some (.int z))).1 = T.setFrames fs) : Steps p.tables e below (T.setTop (mkF m pc Ls (.int z :: rest))) (T.setFrames fs) := by
  have hm' : T.vm.method? m = some meth := X.method'
  have hn : narrow .int (.int z) = .int z := rfl
  show Steps p.tables e below (T.setTop { method := m, pc := pc, locals := Ls, stack := _ :: rest, locked := none }) _
  jvm_step X.here [X.here.top, hx, hd, hm', hret, hn]
  first | (intro acts; rw [hl _ acts rfl rfl rfl]) | rw [hl _ _ rfl rfl rfl]
  exact Steps.refl _
theorem retL (X : Stand p l e R s m args below meth c T locs cells slots) (hx : p.tables.exec = Jvm.exec) {pc : Nat} {Ls : Array Slot} {z : Int64} {rest : List Value} (hret : meth.sig.returnType = some .long) (hd : decode c.code pc = .ok (.lreturn, 1)) {fs : List Frame}
    (hl : ∀ (f : JFrame) (acts : List Action), f.method = m → f.locked = none → f.entered = [] → (doReturn e (T.setTop f) acts (some (.long z))).1 = T.setFrames fs) : Steps p.tables e below (T.setTop (mkF m pc Ls (.long z :: rest))) (T.setFrames fs) := by
  have hm' : T.vm.method? m = some meth := X.method'
  have hn : narrow .long (.long z) = .long z := rfl
  show Steps p.tables e below (T.setTop { method := m, pc := pc, locals := Ls, stack := _ :: rest, locked := none }) _
  jvm_step X.here [X.here.top, hx, hd, hm', hret, hn]
  first | (intro acts; rw [hl _ acts rfl rfl rfl]) | rw [hl _ _ rfl rfl rfl]
  exact Steps.refl _
end New
end Jvm.RoadKit
namespace Jvm.Pilot.@@N@@
open Jvm Jvm.ClassFile Sem Op Lib Jvm.Free Jvm.Stand Jvm.LawKit Jvm.RoadKit Bundle Jvm.Pilot.@@N@@.Jvm.D

theorem own_toN {i : Nat} (h : i < 2147483648) : (Int32.ofNat i).toInt = i := Int32.toInt_ofNat_of_lt (by omega)
theorem own_clamp {i : Nat} (h : i < 2147483648) : (Int32.ofNat i).toNatClampNeg = i := by
  rw [Int32.toNatClampNeg, own_toN h]; omega
theorem own_ltN {i j : Nat} (hi : i < 2147483648) (hj : j < 2147483648) : Int32.ofNat i < Int32.ofNat j ↔ i < j := by
  rw [Int32.lt_iff_toInt_lt, own_toN hi, own_toN hj]; omega
theorem own_injN {i j : Nat} (hi : i < 2147483648) (hj : j < 2147483648) : Int32.ofNat i = Int32.ofNat j ↔ i = j := by
  rw [← Int32.toInt_inj, own_toN hi, own_toN hj]; omega
theorem own_nn {i : Nat} (h : i < 2147483648) : ¬ Int32.ofNat i < 0 := by
  rw [Int32.lt_iff_toInt_lt, own_toN h, show (0 : Int32).toInt = 0 from by decide]; omega
theorem own_addN (i j : Nat) : Int32.ofNat i + Int32.ofNat j = Int32.ofNat (i + j) := (Int32.ofNat_add i j).symm
theorem own_mulN (i j : Nat) : Int32.ofNat i * Int32.ofNat j = Int32.ofNat (i * j) := (Int32.ofNat_mul i j).symm
theorem own_mask (x : Int32) : ∃ n : Nat, n ≤ 255 ∧ (x &&& (255 : Int32)) = Int32.ofNat n := by
  refine ⟨(x &&& 255).toBitVec.toNat, ?_, ?_⟩
  · simp only [Int32.toBitVec_and, BitVec.toNat_and]
    exact Nat.and_le_right
  · apply Int32.toBitVec_inj.mp
    show _ = BitVec.ofNat 32 _
    rw [BitVec.ofNat_toNat]; simp
/-! tables of ints by a function -/
def own_tab (f : Nat → Int32) (n : Nat) : List Value := (List.range n).map fun j => .int (f j)
theorem own_tab_len (f : Nat → Int32) (n : Nat) : (own_tab f n).length = n := by simp [own_tab]
theorem own_tab_get {f : Nat → Int32} {n j : Nat} (h : j < n) (d : Value) : (own_tab f n).getD j d = .int (f j) := by
  simp [own_tab, List.getD_eq_getElem?_getD, List.getElem?_range h]
theorem own_tab_set (f : Nat → Int32) (n j : Nat) (x : Int32) : (own_tab f n).set j (.int x) = own_tab (fun i => if i = j then x else f i) n := by
  apply List.ext_getElem
  · simp [own_tab]
  · intro i h1 h2
    simp only [own_tab, List.getElem_set, List.getElem_map, List.getElem_range]
    by_cases h : i = j
    · subst h; simp
    · simp [h, Ne.symm h]
theorem own_tab_pad (n : Nat) : own_tab (fun _ => 0) n = [] ++ List.replicate n (Value.int (0 : Int32)) := by
  apply List.ext_getElem
  · simp [own_tab]
  · intro i h1 h2; simp [own_tab]
/-! the low bit, and the tree's facts: finite checks -/
def own_low (j : Nat) : Nat := j &&& (1024 - j)
set_option maxRecDepth 65536 in
theorem own_F1 : ∀ i, i < 257 → 0 < i → Int32.ofNat i &&& -(Int32.ofNat i) = Int32.ofNat (own_low i) := by decide +kernel
set_option maxRecDepth 65536 in
theorem own_F2 : ∀ i, i < 257 → ∀ j, j < 257 → 0 < i → i < j → j < i + own_low i → i ≤ j - own_low j := by decide +kernel
set_option maxRecDepth 65536 in
theorem own_F3 : ∀ i, i < 257 → 0 < i → 0 < own_low i ∧ own_low i ≤ i ∧ (i + own_low i) - own_low (i + own_low i) ≤ i - own_low i := by decide +kernel
set_option maxRecDepth 65536 in
theorem own_F4 : ∀ e, e < 8 → ∀ j, j < 257 → 2 ^ e < j → j < 2 * 2 ^ e → 2 ^ e ≤ j - own_low j := by decide +kernel
set_option maxRecDepth 65536 in
theorem own_F4' : ∀ e, e < 9 → own_low (2 ^ e) = 2 ^ e := by decide +kernel
set_option maxRecDepth 65536 in
theorem own_F5 : ∀ k, k < 9 → ∀ q, q < 257 → q % (2 * 2 ^ k) = 0 → q + 2 ^ k < 257 → own_low (q + 2 ^ k) = 2 ^ k := by decide +kernel
set_option maxRecDepth 65536 in
theorem own_F6 : ∀ k, k < 9 → Int32.ofNat (2 ^ (k + 1)) / 2 = Int32.ofNat (2 ^ k) := by decide +kernel
theorem own_pow8 {e : Nat} (h : e ≤ 8) : 2 ^ e ≤ 256 ∧ 0 < 2 ^ e := ⟨Nat.pow_le_pow_right (n := 2) (by decide) h, Nat.pow_pos (by decide)⟩
/-! counting the members -/
def own_cnt (S : List Nat) (lo hi : Nat) : Nat := S.countP fun p => decide (lo ≤ p) && decide (p < hi)
theorem own_cnt_cons (p : Nat) (S : List Nat) (lo hi : Nat) : own_cnt (p :: S) lo hi = own_cnt S lo hi + if lo ≤ p ∧ p < hi then 1 else 0 := by
  simp [own_cnt, List.countP_cons]
theorem own_cnt_nil (lo hi : Nat) : own_cnt [] lo hi = 0 := rfl
theorem own_cnt_erase {p : Nat} {S : List Nat} (h : p ∈ S) (lo hi : Nat) : own_cnt S lo hi = own_cnt (S.erase p) lo hi + if lo ≤ p ∧ p < hi then 1 else 0 := by
  induction S with
  | nil => cases h
  | cons q S ih =>
    by_cases e : q = p
    · subst e; rw [List.erase_cons_head]; exact own_cnt_cons _ _ _ _
    · rw [List.erase_cons_tail (by simpa using e), own_cnt_cons, own_cnt_cons, ih ((List.mem_cons.mp h).resolve_left (Ne.symm e))]
      omega
theorem own_cnt_le (S : List Nat) (lo hi : Nat) : own_cnt S lo hi ≤ S.length := List.countP_le_length
theorem own_cnt_all {S : List Nat} {lo hi : Nat} (h : ∀ p ∈ S, lo ≤ p ∧ p < hi) : own_cnt S lo hi = S.length := by
  rw [own_cnt, List.countP_eq_length]; intro p hp; simp [h p hp]
theorem own_cnt_no {S : List Nat} {lo hi : Nat} (h : ∀ p ∈ S, ¬ (lo ≤ p ∧ p < hi)) : own_cnt S lo hi = 0 := by
  rw [own_cnt, List.countP_eq_zero]; intro p hp; have := h p hp; simp; omega
theorem own_cnt_add (S : List Nat) {a b c : Nat} (h1 : a ≤ b) (h2 : b ≤ c) : own_cnt S a b + own_cnt S b c = own_cnt S a c := by
  induction S with
  | nil => rfl
  | cons p S ih => rw [own_cnt_cons, own_cnt_cons, own_cnt_cons]; split <;> split <;> split <;> omega
theorem own_subN {a b : Nat} (h : b ≤ a) : Int32.ofNat a - Int32.ofNat b = Int32.ofNat (a - b) := by
  rw [← Int32.add_right_inj (Int32.ofNat b), own_addN, show b + (a - b) = a by omega, Int32.add_comm, Int32.sub_add_cancel]
theorem own_step {cap i po : Nat} {f g : Nat → Int32} {d : Int32} (hcap : cap ≤ 256) (hi : i ≤ cap) (h1 : i - own_low i ≤ po) (h2 : po < i) (hg : ∀ j, j ≤ cap → g j = if j - own_low j ≤ po ∧ po < j ∧ j < i then f j + d else f j) :
    ∀ j, j ≤ cap → (if j = i then g i + d else g j) = if j - own_low j ≤ po ∧ po < j ∧ j < i + own_low i then f j + d else f j := by
  intro j hj
  have a := own_F3 i (by omega) (by omega)
  by_cases e : j = i
  · subst e
    rw [if_pos rfl, if_pos ⟨h1, h2, by omega⟩, hg j hj, if_neg (by omega)]
  · rw [if_neg e, hg j hj]
    by_cases c : j - own_low j ≤ po ∧ po < j ∧ j < i
    · rw [if_pos c, if_pos ⟨c.1, c.2.1, by omega⟩]
    · rw [if_neg c, if_neg]
      rintro ⟨c1, c2, c3⟩
      have q1 : ¬ j < i := fun q => c ⟨c1, c2, q⟩
      have q2 := own_F2 i (by omega) j (by omega) (by omega) (by omega) c3
      omega
def own_G : Nat → Nat
  | 0 => 0
  | e + 1 => own_G e + (2 ^ (e + 1) + 1)
theorem own_G_mono : ∀ {a b : Nat}, a ≤ b → own_G a ≤ own_G b := by
  intro a b h
  induction h with
  | refl => exact Nat.le_refl _
  | step _ ih => exact Nat.le_trans ih (Nat.le_add_right _ _)
theorem own_G8 : own_G 8 = 518 := by decide
theorem own_dbl {ex : Nat} {S : List Nat} {f : Nat → Int32} (he : ex < 8) (hf : ∀ j, 0 < j → j ≤ 2 ^ ex → f j = Int32.ofNat (own_cnt S (j - own_low j) j)) (hS : ∀ p ∈ S, p < 2 ^ ex) :
    ∀ j, 0 < j → j ≤ 2 ^ (ex + 1) → (if j = 2 ^ (ex + 1) then Int32.ofNat S.length else if j < 2 ^ ex + 1 then f j else 0) = Int32.ofNat (own_cnt S (j - own_low j) j) := by
  intro j h0 hj
  have hp := own_pow8 (e := ex + 1) (by omega)
  have h2 : 2 ^ (ex + 1) = 2 * 2 ^ ex := by rw [Nat.pow_succ, Nat.mul_comm]
  by_cases e1 : j = 2 ^ (ex + 1)
  · rw [if_pos e1, e1, own_F4' (ex + 1) (by omega), Nat.sub_self, own_cnt_all]
    intro p hp'; have := hS p hp'; omega
  · rw [if_neg e1]
    by_cases e2 : j < 2 ^ ex + 1
    · rw [if_pos e2]; exact hf j h0 (by omega)
    · rw [if_neg e2, own_cnt_no]; · rfl
      intro p hp'
      have := hS p hp'
      have := own_F4 ex he j (by omega) (by omega) (by omega)
      omega
theorem own_copy (f : Nat → Int32) {n1 n2 : Nat} (h : n1 ≤ n2) (hb : n1 < 2147483648) : (own_tab (fun _ => 0) n2).take (0 : Int32).toNatClampNeg ++ ((List.range (Int32.ofNat n1).toNatClampNeg).map fun i => (own_tab f n1).getD ((0 : Int32).toNatClampNeg + i) (.int (0 : Int32))) ++ (own_tab (fun _ => 0) n2).drop ((0 : Int32).toNatClampNeg + (Int32.ofNat n1).toNatClampNeg) = own_tab (fun j => if j < n1 then f j else 0) n2 := by
  rw [own_clamp hb, show (0 : Int32).toNatClampNeg = 0 from by decide]
  apply List.ext_getElem
  · simp [own_tab]; omega
  · intro i h1 h2
    have hi : i < n2 := by simpa [own_tab] using h2
    simp only [List.take_zero, List.nil_append, Nat.zero_add]
    by_cases c : i < n1
    · rw [List.getElem_append_left (by simpa using c)]
      simp only [List.getElem_map, List.getElem_range]
      rw [own_tab_get c]
      simp [own_tab, c]
    · rw [List.getElem_append_right (by simpa using Nat.le_of_not_lt c)]
      simp [own_tab, c]
def own_st : Nat → Nat
  | 0 => 0
  | k + 1 => 2 ^ k
set_option maxRecDepth 65536 in
theorem own_F7 : ∀ k, k < 9 → Int32.ofNat (own_st (k + 1)) / 2 = Int32.ofNat (own_st k) := by decide +kernel
theorem own_mod {q j : Nat} (h : q % 2 ^ (j + 1) = 0) : q % (2 * 2 ^ j) = 0 ∧ q % 2 ^ j = 0 ∧ (q + 2 ^ j) % 2 ^ j = 0 := by
  have h2 : 2 ^ (j + 1) = 2 * 2 ^ j := by rw [Nat.pow_succ, Nat.mul_comm]
  rw [h2] at h
  have h3 : q % 2 ^ j = 0 := Nat.mod_eq_zero_of_dvd (Nat.dvd_trans (Nat.dvd_mul_left _ _) (Nat.dvd_of_mod_eq_zero h))
  exact ⟨h, h3, by rw [Nat.add_mod_right]; exact h3⟩
theorem own_fit (ex po : Nat) (he : ex ≤ 8) (hp : po < 256) : ∃ ey, ex ≤ ey ∧ ey ≤ 8 ∧ po < 2 ^ ey ∧ (ex = ey ∨ 2 ^ (ey - 1) ≤ po) := by
  by_cases h : po < 2 ^ ex
  · exact ⟨ex, Nat.le_refl _, he, h, Or.inl rfl⟩
  · obtain ⟨k, hk⟩ : ∃ k, ex + k = 8 := ⟨8 - ex, by omega⟩
    induction k generalizing ex with
    | zero => exfalso; have : ex = 8 := by omega
              subst this; omega
    | succ k ih =>
      by_cases h' : po < 2 ^ (ex + 1)
      · exact ⟨ex + 1, by omega, by omega, h', Or.inr (by simpa using h)⟩
      · obtain ⟨ey, a, b, c, d⟩ := ih (ex + 1) (by omega) h' (by omega)
        refine ⟨ey, by omega, b, c, Or.inr ?_⟩
        rcases d with d | d
        · exfalso; rw [← d] at c; exact h' c
        · exact d
theorem own_fitlt {ex ey po : Nat} (h : ex < ey) (d : ex = ey ∨ 2 ^ (ey - 1) ≤ po) : ¬ po < 2 ^ ex := by
  have h1 : 2 ^ ex ≤ 2 ^ (ey - 1) := Nat.pow_le_pow_right (by decide) (by omega)
  rcases d with d | d <;> omega
/-! the law's own array -/
def own_nl (L : List Nat) : List Value := L.map fun x => .int (Int32.ofNat x)
theorem own_nl_get {L : List Nat} {i : Nat} (h : i < L.length) (d : Value) : (own_nl L).getD i d = .int (Int32.ofNat (L.getD i 0)) := by
  simp [own_nl, List.getD_eq_getElem?_getD, List.getElem?_eq_getElem h]
theorem own_nl_set (L : List Nat) (i v : Nat) : (own_nl L).set i (.int (Int32.ofNat v)) = own_nl (L.set i v) := by simp [own_nl, List.map_set]
def own_ord (i j : Nat) (L : List Nat) : List Nat := if L.getD j 0 < L.getD i 0 then (L.set i (L.getD j 0)).set j (L.getD i 0) else L
theorem own_ord_len (i j : Nat) (L : List Nat) : (own_ord i j L).length = L.length := by unfold own_ord; split <;> simp
def own_b (x q : Nat) : Nat := if x < q then 1 else 0
theorem own_b_cases (x q : Nat) : (own_b x q = 0 ∧ q ≤ x) ∨ (own_b x q = 1 ∧ x < q) := by
  unfold own_b
  by_cases h : x < q
  · exact Or.inr ⟨if_pos h, h⟩
  · exact Or.inl ⟨if_neg h, by omega⟩
theorem own_cnt_b (p : Nat) (S : List Nat) (q : Nat) : own_cnt (p :: S) 0 q = own_cnt S 0 q + own_b p q := by
  rw [own_cnt_cons]; simp [own_b]
theorem own_ord01 (x y z : Nat) : own_ord 0 1 [x, y, z] = if y < x then [y, x, z] else [x, y, z] := rfl
theorem own_ord12 (x y z : Nat) : own_ord 1 2 [x, y, z] = if z < y then [x, z, y] else [x, y, z] := rfl
theorem own_sort (x y z : Nat) : ∃ a b c, own_ord 0 1 (own_ord 1 2 (own_ord 0 1 [x, y, z])) = [a, b, c] ∧ a ≤ b ∧ b ≤ c ∧ ∀ q, own_b x q + own_b y q + own_b z q = own_b a q + own_b b q + own_b c q := by
  rw [own_ord01]
  split
  · rw [own_ord12]
    split
    · rw [own_ord01]; split
      · exact ⟨_, _, _, rfl, by omega, by omega, fun q => by omega⟩
      · exact ⟨_, _, _, rfl, by omega, by omega, fun q => by omega⟩
    · rw [own_ord01]; split
      · exact ⟨_, _, _, rfl, by omega, by omega, fun q => by omega⟩
      · exact ⟨_, _, _, rfl, by omega, by omega, fun q => by omega⟩
  · rw [own_ord12]
    split
    · rw [own_ord01]; split
      · exact ⟨_, _, _, rfl, by omega, by omega, fun q => by omega⟩
      · exact ⟨_, _, _, rfl, by omega, by omega, fun q => by omega⟩
    · rw [own_ord01]; split
      · exact ⟨_, _, _, rfl, by omega, by omega, fun q => by omega⟩
      · exact ⟨_, _, _, rfl, by omega, by omega, fun q => by omega⟩
theorem own_find {S : List Nat} {a b c q i : Nat} (h1 : a ≤ b) (h2 : b ≤ c) (hc : ∀ q, q ≤ 257 → own_cnt S 0 q = own_b a q + own_b b q + own_b c q) (hi : i < 3) (hq : q ≤ 256) (k1 : own_cnt S 0 q ≤ i) (k2 : i < own_cnt S 0 (q + 1)) : q = [a, b, c].getD i 0 := by
  rw [hc q (by omega)] at k1
  rw [hc (q + 1) (by omega)] at k2
  have a1 := own_b_cases a q; have a2 := own_b_cases b q; have a3 := own_b_cases c q
  have b1 := own_b_cases a (q + 1); have b2 := own_b_cases b (q + 1); have b3 := own_b_cases c (q + 1)
  rcases i with _ | _ | _ | i
  · show q = a; omega
  · show q = b; omega
  · show q = c; omega
  · omega
theorem own_b_big {q : Nat} (h : q ≤ 257) : own_b 2147483647 q = 0 := if_neg (by omega)
theorem own_rel {A B C n1 n2 n3 : Nat} {rA hB hC : Int32} {S2 S3 S4 L1 L2 L3 : List Nat} (hA : A ≤ 255) (hB' : B ≤ 255) (hC' : C ≤ 255)
    (s2 : (hB ≠ 0 ∧ B ≠ A ∧ S2 = [B, A]) ∨ (hB = 0 ∧ S2 = [A])) (s3 : (hC ≠ 0 ∧ C ≠ A ∧ C ≠ B ∧ S3 = C :: S2) ∨ (hC = 0 ∧ S3 = S2)) (s4 : (rA = 0 ∧ S4 = S3) ∨ (rA ≠ 0 ∧ S4 = S3.erase A))
    (l1 : (rA = 0 ∧ n1 = 1 ∧ L1 = [A, 2147483647, 2147483647]) ∨ (rA ≠ 0 ∧ n1 = 0 ∧ L1 = [2147483647, 2147483647, 2147483647])) (l2 : (hB ≠ 0 ∧ n2 = n1 + 1 ∧ L2 = L1.set n1 B) ∨ (hB = 0 ∧ n2 = n1 ∧ L2 = L1)) (l3 : (hC ≠ 0 ∧ n3 = n2 + 1 ∧ L3 = L2.set n2 C) ∨ (hC = 0 ∧ n3 = n2 ∧ L3 = L2)) :
    S4.length = n3 ∧ n3 ≤ 3 ∧ ∃ x y z, L3 = [x, y, z] ∧ x < 2147483648 ∧ y < 2147483648 ∧ z < 2147483648 ∧ ∀ q, q ≤ 257 → own_cnt S4 0 q = own_b x q + own_b y q + own_b z q := by
  rcases l1 with ⟨r, rfl, rfl⟩ | ⟨r, rfl, rfl⟩
  · have e4 : S4 = S3 := by
      rcases s4 with ⟨_, q⟩ | ⟨q, _⟩
      · exact q
      · exact absurd r q
    subst e4
    rcases l2 with ⟨b, rfl, rfl⟩ | ⟨b, rfl, rfl⟩
    · obtain ⟨-, -, rfl⟩ := s2.resolve_right fun z => b z.1
      rcases l3 with ⟨g, rfl, rfl⟩ | ⟨g, rfl, rfl⟩
      · obtain ⟨-, -, -, rfl⟩ := s3.resolve_right fun z => g z.1
        exact ⟨rfl, by omega, A, B, C, rfl, by omega, by omega, by omega, fun q hq => by rw [own_cnt_b, own_cnt_b, own_cnt_b, own_cnt_nil]; omega⟩
      · obtain ⟨-, rfl⟩ := s3.resolve_left fun z => z.1 g
        exact ⟨rfl, by omega, A, B, _, rfl, by omega, by omega, by omega, fun q hq => by rw [own_cnt_b, own_cnt_b, own_cnt_nil, own_b_big hq]; omega⟩
    · obtain ⟨-, rfl⟩ := s2.resolve_left fun z => z.1 b
      rcases l3 with ⟨g, rfl, rfl⟩ | ⟨g, rfl, rfl⟩
      · obtain ⟨-, -, -, rfl⟩ := s3.resolve_right fun z => g z.1
        exact ⟨rfl, by omega, A, C, _, rfl, by omega, by omega, by omega, fun q hq => by rw [own_cnt_b, own_cnt_b, own_cnt_nil, own_b_big hq]; omega⟩
      · obtain ⟨-, rfl⟩ := s3.resolve_left fun z => z.1 g
        exact ⟨rfl, by omega, A, _, _, rfl, by omega, by omega, by omega, fun q hq => by rw [own_cnt_b, own_cnt_nil, own_b_big hq]; omega⟩
  · have e4 : S4 = S3.erase A := by
      rcases s4 with ⟨q, _⟩ | ⟨_, q⟩
      · exact absurd q r
      · exact q
    subst e4
    rcases l2 with ⟨b, rfl, rfl⟩ | ⟨b, rfl, rfl⟩
    · obtain ⟨-, nb, rfl⟩ := s2.resolve_right fun z => b z.1
      have eB : [B, A].erase A = [B] := by simp [List.erase_cons, nb]
      rcases l3 with ⟨g, rfl, rfl⟩ | ⟨g, rfl, rfl⟩
      · obtain ⟨-, nc, -, rfl⟩ := s3.resolve_right fun z => g z.1
        have eC : [C, B, A].erase A = [C, B] := by simp [List.erase_cons, nb, nc]
        rw [eC]
        exact ⟨rfl, by omega, B, C, _, rfl, by omega, by omega, by omega, fun q hq => by rw [own_cnt_b, own_cnt_b, own_cnt_nil, own_b_big hq]; omega⟩
      · obtain ⟨-, rfl⟩ := s3.resolve_left fun z => z.1 g
        rw [eB]
        exact ⟨rfl, by omega, B, _, _, rfl, by omega, by omega, by omega, fun q hq => by rw [own_cnt_b, own_cnt_nil, own_b_big hq]; omega⟩
    · obtain ⟨-, rfl⟩ := s2.resolve_left fun z => z.1 b
      have eA : [A].erase A = [] := by simp
      rcases l3 with ⟨g, rfl, rfl⟩ | ⟨g, rfl, rfl⟩
      · obtain ⟨-, nc, -, rfl⟩ := s3.resolve_right fun z => g z.1
        have eC : [C, A].erase A = [C] := by simp [List.erase_cons, nc]
        rw [eC]
        exact ⟨rfl, by omega, C, _, _, rfl, by omega, by omega, by omega, fun q hq => by rw [own_cnt_b, own_cnt_nil, own_b_big hq]; omega⟩
      · obtain ⟨-, rfl⟩ := s3.resolve_left fun z => z.1 g
        rw [eA]
        exact ⟨rfl, by omega, _, _, _, rfl, by omega, by omega, by omega, fun q hq => by rw [own_cnt_nil, own_b_big hq]⟩
theorem own_B3 {q : List Nat} (h : ∀ v ∈ q, v < 2147483648) (i : Nat) : q.getD i 0 < 2147483648 := by
  rw [List.getD_eq_getElem?_getD]
  rcases Nat.lt_or_ge i q.length with g | g
  · rw [List.getElem?_eq_getElem g]; exact h _ (List.getElem_mem g)
  · rw [List.getElem?_eq_none g]; decide
theorem own_O3 (i j : Nat) {q : List Nat} (h : ∀ v ∈ q, v < 2147483648) : ∀ v ∈ own_ord i j q, v < 2147483648 := by
  intro v hv
  unfold own_ord at hv
  split at hv
  · rcases List.mem_or_eq_of_mem_set hv with g | g
    · rcases List.mem_or_eq_of_mem_set g with g | g
      · exact h _ g
      · rw [g]; exact own_B3 h _
    · rw [g]; exact own_B3 h _
  · exact h _ hv
theorem own_M3 {x y z : Nat} (hx : x < 2147483648) (hy : y < 2147483648) (hz : z < 2147483648) : ∀ v ∈ [x, y, z], v < 2147483648 := by
  intro v hv
  simp only [List.mem_cons, List.not_mem_nil, or_false] at hv
  rcases hv with rfl | rfl | rfl <;> assumption

theorem own_sel {Z s : State} {a0 args : Array Value} {y : MethodName} {n : Nat} (hZ : Z.Warmed39 s.vm) (wi : (Cond.instantiable y.cls n).before a0 Z = true) (wp : (Cond.privateMethod y).before a0 Z = true) (wn : (Cond.instanceMethod y).before a0 Z = true) (hy : y.cls ≠ "java/lang/invoke/MethodHandle" ∧ y.cls ≠ "java/lang/invoke/VarHandle") : (Cond.selects y.cls y y).before args s = true := by
  have wi' : (Cond.instantiable y.cls n).before args s = true := mv hZ wi
  obtain ⟨c, k, h1, h2, -, h4, -⟩ := Cond.instantiable_spec wi'
  rw [Bool.or_eq_false_iff] at h4
  exact Stand.selects_self_of_private h1 h2 h4.1 (Cond.privateMethod_at (mvP hZ wp (args := args))) (mv hZ wn) hy

def own_PS (Z : State) (h : Heap) (sa : Addr) (ex : Nat) (S : List Nat) (n0 : Nat) : Prop := ∃ (ta : Addr) (k0 : ClassId) (f : Nat → Int32), Exa Z h sa "com/example/earmark/earmark/ledger/PositionSet" ∧ Fld Z h sa "com/example/earmark/earmark/ledger/PositionSet" "counts" "[I" (.ref ta) ∧ Fld Z h sa "com/example/earmark/earmark/ledger/PositionSet" "capacity" "I" (.int (Int32.ofNat (2 ^ ex))) ∧ Fld Z h sa "com/example/earmark/earmark/ledger/PositionSet" "size" "I" (.int (Int32.ofNat S.length)) ∧ Arv Z h ta k0 .int (Int32.ofNat (2 ^ ex + 1)) (own_tab f (2 ^ ex + 1)) (.int (0 : Int32)) ∧ (∀ j, 0 < j → j ≤ 2 ^ ex → f j = Int32.ofNat (own_cnt S (j - own_low j) j)) ∧ (∀ p ∈ S, p < 2 ^ ex) ∧ ex ≤ 8 ∧ n0 ≤ sa ∧ n0 ≤ ta ∧ sa ≠ ta
theorem own_PS.keep {Z : State} {h h' : Heap} {sa : Addr} {ex : Nat} {S : List Nat} {n0 : Nat} {ws : List Addr} (P : own_PS Z h sa ex S n0) (K : Keep h h' ws) (q : ∀ x ∈ ws, h.size ≤ x) : own_PS Z h' sa ex S n0 := by
  obtain ⟨ta, k0, f, E, F1, F2, F3, V, r⟩ := P
  have nin : ∀ {x : Addr}, x < h.size → x ∉ ws := fun hx hm => absurd hx (Nat.not_lt.mpr (q _ hm))
  exact ⟨ta, k0, f, E.keep K, F1.keep K (nin F1.lt), F2.keep K (nin F2.lt), F3.keep K (nin F3.lt), V.keep K (nin V.lt), r⟩
theorem own_PS.ext {Z : State} {h h' : Heap} {sa : Addr} {ex : Nat} {S : List Nat} {n0 : Nat} (P : own_PS Z h sa ex S n0) (X : Ext h h') : own_PS Z h' sa ex S n0 := by
  obtain ⟨ta, k0, f, E, F1, F2, F3, V, r⟩ := P
  exact ⟨ta, k0, f, E.ext X, F1.ext X, F2.ext X, F3.ext X, V.ext X, r⟩
theorem own_PS.exa {Z : State} {h : Heap} {sa : Addr} {ex : Nat} {S : List Nat} {n0 : Nat} (P : own_PS Z h sa ex S n0) : Exa Z h sa "com/example/earmark/earmark/ledger/PositionSet" := by
  obtain ⟨ta, k0, f, E, r⟩ := P; exact E
theorem own_PS.size {Z : State} {h : Heap} {sa : Addr} {ex : Nat} {S : List Nat} {n0 : Nat} (P : own_PS Z h sa ex S n0) : n0 ≤ h.size := by
  obtain ⟨ta, k0, f, E, -, -, -, -, -, -, -, g, -⟩ := P; exact Nat.le_trans g (Nat.le_of_lt E.lt)
theorem own_PS.le8 {Z : State} {h : Heap} {sa : Addr} {ex : Nat} {S : List Nat} {n0 : Nat} (P : own_PS Z h sa ex S n0) : ex ≤ 8 := by
  obtain ⟨ta, k0, f, E, -, -, -, -, -, -, q, -⟩ := P; exact q
theorem own_s5 {a : Addr} {r q b st v : Int32} {o : Slot} (h : One o) : storeLocals #[.val (.ref a), .val (.int r), .val (.int q), .val (.int b), .val (.int st), o] 5 (.int v) = some #[.val (.ref a), .val (.int r), .val (.int q), .val (.int b), .val (.int st), .val (.int v)] := by
  rcases h with rfl | ⟨w, rfl, hw⟩
  · rfl
  · cases w <;> first | rfl | (simp [Value.category] at hw)
theorem own_dec (n : Nat) : Int32.ofNat (n + 1) + (-1 : Int32) = Int32.ofNat n := by
  rw [← own_addN n 1, Int32.add_assoc, show Int32.ofNat 1 + (-1 : Int32) = 0 from by decide, Int32.add_zero]

theorem d1_0 : decode prog_101_method_1_code 0 = .ok (.aload_n 0, 1) := by decide +kernel
theorem d1_1 : decode prog_101_method_1_code 1 = .ok (.invokespecial 1, 3) := by decide +kernel
theorem d1_4 : decode prog_101_method_1_code 4 = .ok (.aload_n 0, 1) := by decide +kernel
theorem d1_5 : decode prog_101_method_1_code 5 = .ok (.iconst 2, 1) := by decide +kernel
theorem d1_6 : decode prog_101_method_1_code 6 = .ok (.newarray .int, 2) := by decide +kernel
theorem d1_8 : decode prog_101_method_1_code 8 = .ok (.putfield 7, 3) := by decide +kernel
theorem d1_11 : decode prog_101_method_1_code 11 = .ok (.aload_n 0, 1) := by decide +kernel
theorem d1_12 : decode prog_101_method_1_code 12 = .ok (.iconst 1, 1) := by decide +kernel
theorem d1_13 : decode prog_101_method_1_code 13 = .ok (.putfield 13, 3) := by decide +kernel
theorem d1_16 : decode prog_101_method_1_code 16 = .ok (.return_, 1) := by decide +kernel
theorem d3_0 : decode prog_101_method_2_code 0 = .ok (.aload_n 0, 1) := by decide +kernel
theorem d3_1 : decode prog_101_method_2_code 1 = .ok (.iload_n 1, 1) := by decide +kernel
theorem d3_2 : decode prog_101_method_2_code 2 = .ok (.invokevirtual 17, 3) := by decide +kernel
theorem d3_5 : decode prog_101_method_2_code 5 = .ok (.aload_n 0, 1) := by decide +kernel
theorem d3_6 : decode prog_101_method_2_code 6 = .ok (.iload_n 1, 1) := by decide +kernel
theorem d3_7 : decode prog_101_method_2_code 7 = .ok (.iconst 1, 1) := by decide +kernel
theorem d3_8 : decode prog_101_method_2_code 8 = .ok (.invokevirtual 21, 3) := by decide +kernel
theorem d3_11 : decode prog_101_method_2_code 11 = .ok (.aload_n 0, 1) := by decide +kernel
theorem d3_12 : decode prog_101_method_2_code 12 = .ok (.dup, 1) := by decide +kernel
theorem d3_13 : decode prog_101_method_2_code 13 = .ok (.getfield 25, 3) := by decide +kernel
theorem d3_16 : decode prog_101_method_2_code 16 = .ok (.iconst 1, 1) := by decide +kernel
theorem d3_17 : decode prog_101_method_2_code 17 = .ok (.iadd, 1) := by decide +kernel
theorem d3_18 : decode prog_101_method_2_code 18 = .ok (.putfield 25, 3) := by decide +kernel
theorem d3_21 : decode prog_101_method_2_code 21 = .ok (.return_, 1) := by decide +kernel
theorem d4_0 : decode prog_101_method_8_code 0 = .ok (.iload_n 1, 1) := by decide +kernel
theorem d4_1 : decode prog_101_method_8_code 1 = .ok (.aload_n 0, 1) := by decide +kernel
theorem d4_2 : decode prog_101_method_8_code 2 = .ok (.getfield 13, 3) := by decide +kernel
theorem d4_5 : decode prog_101_method_8_code 5 = .ok (.if_icmp .lt 48, 3) := by decide +kernel
theorem d4_8 : decode prog_101_method_8_code 8 = .ok (.aload_n 0, 1) := by decide +kernel
theorem d4_9 : decode prog_101_method_8_code 9 = .ok (.aload_n 0, 1) := by decide +kernel
theorem d4_10 : decode prog_101_method_8_code 10 = .ok (.getfield 7, 3) := by decide +kernel
theorem d4_13 : decode prog_101_method_8_code 13 = .ok (.aload_n 0, 1) := by decide +kernel
theorem d4_14 : decode prog_101_method_8_code 14 = .ok (.getfield 13, 3) := by decide +kernel
theorem d4_17 : decode prog_101_method_8_code 17 = .ok (.iconst 2, 1) := by decide +kernel
theorem d4_18 : decode prog_101_method_8_code 18 = .ok (.imul, 1) := by decide +kernel
theorem d4_19 : decode prog_101_method_8_code 19 = .ok (.iconst 1, 1) := by decide +kernel
theorem d4_20 : decode prog_101_method_8_code 20 = .ok (.iadd, 1) := by decide +kernel
theorem d4_21 : decode prog_101_method_8_code 21 = .ok (.invokestatic 32, 3) := by decide +kernel
theorem d4_24 : decode prog_101_method_8_code 24 = .ok (.putfield 7, 3) := by decide +kernel
theorem d4_27 : decode prog_101_method_8_code 27 = .ok (.aload_n 0, 1) := by decide +kernel
theorem d4_28 : decode prog_101_method_8_code 28 = .ok (.dup, 1) := by decide +kernel
theorem d4_29 : decode prog_101_method_8_code 29 = .ok (.getfield 13, 3) := by decide +kernel
theorem d4_32 : decode prog_101_method_8_code 32 = .ok (.iconst 2, 1) := by decide +kernel
theorem d4_33 : decode prog_101_method_8_code 33 = .ok (.imul, 1) := by decide +kernel
theorem d4_34 : decode prog_101_method_8_code 34 = .ok (.putfield 13, 3) := by decide +kernel
theorem d4_37 : decode prog_101_method_8_code 37 = .ok (.aload_n 0, 1) := by decide +kernel
theorem d4_38 : decode prog_101_method_8_code 38 = .ok (.getfield 7, 3) := by decide +kernel
theorem d4_41 : decode prog_101_method_8_code 41 = .ok (.aload_n 0, 1) := by decide +kernel
theorem d4_42 : decode prog_101_method_8_code 42 = .ok (.getfield 13, 3) := by decide +kernel
theorem d4_45 : decode prog_101_method_8_code 45 = .ok (.aload_n 0, 1) := by decide +kernel
theorem d4_46 : decode prog_101_method_8_code 46 = .ok (.getfield 25, 3) := by decide +kernel
theorem d4_49 : decode prog_101_method_8_code 49 = .ok (.iastore, 1) := by decide +kernel
theorem d4_50 : decode prog_101_method_8_code 50 = .ok (.goto (-50), 3) := by decide +kernel
theorem d4_53 : decode prog_101_method_8_code 53 = .ok (.return_, 1) := by decide +kernel
theorem d5_0 : decode prog_101_method_9_code 0 = .ok (.iload_n 1, 1) := by decide +kernel
theorem d5_1 : decode prog_101_method_9_code 1 = .ok (.iconst 1, 1) := by decide +kernel
theorem d5_2 : decode prog_101_method_9_code 2 = .ok (.iadd, 1) := by decide +kernel
theorem d5_3 : decode prog_101_method_9_code 3 = .ok (.istore_n 3, 1) := by decide +kernel
theorem d5_4 : decode prog_101_method_9_code 4 = .ok (.iload_n 3, 1) := by decide +kernel
theorem d5_5 : decode prog_101_method_9_code 5 = .ok (.aload_n 0, 1) := by decide +kernel
theorem d5_6 : decode prog_101_method_9_code 6 = .ok (.getfield 13, 3) := by decide +kernel
theorem d5_9 : decode prog_101_method_9_code 9 = .ok (.if_icmp .gt 23, 3) := by decide +kernel
theorem d5_12 : decode prog_101_method_9_code 12 = .ok (.aload_n 0, 1) := by decide +kernel
theorem d5_13 : decode prog_101_method_9_code 13 = .ok (.getfield 7, 3) := by decide +kernel
theorem d5_16 : decode prog_101_method_9_code 16 = .ok (.iload_n 3, 1) := by decide +kernel
theorem d5_17 : decode prog_101_method_9_code 17 = .ok (.dup2, 1) := by decide +kernel
theorem d5_18 : decode prog_101_method_9_code 18 = .ok (.iaload, 1) := by decide +kernel
theorem d5_19 : decode prog_101_method_9_code 19 = .ok (.iload_n 2, 1) := by decide +kernel
theorem d5_20 : decode prog_101_method_9_code 20 = .ok (.iadd, 1) := by decide +kernel
theorem d5_21 : decode prog_101_method_9_code 21 = .ok (.iastore, 1) := by decide +kernel
theorem d5_22 : decode prog_101_method_9_code 22 = .ok (.iload_n 3, 1) := by decide +kernel
theorem d5_23 : decode prog_101_method_9_code 23 = .ok (.iload_n 3, 1) := by decide +kernel
theorem d5_24 : decode prog_101_method_9_code 24 = .ok (.iload_n 3, 1) := by decide +kernel
theorem d5_25 : decode prog_101_method_9_code 25 = .ok (.ineg, 1) := by decide +kernel
theorem d5_26 : decode prog_101_method_9_code 26 = .ok (.iand, 1) := by decide +kernel
theorem d5_27 : decode prog_101_method_9_code 27 = .ok (.iadd, 1) := by decide +kernel
theorem d5_28 : decode prog_101_method_9_code 28 = .ok (.istore_n 3, 1) := by decide +kernel
theorem d5_29 : decode prog_101_method_9_code 29 = .ok (.goto (-25), 3) := by decide +kernel
theorem d5_32 : decode prog_101_method_9_code 32 = .ok (.return_, 1) := by decide +kernel
theorem d6_0 : decode jdk_65_method_123_code 0 = .ok (.iload_n 1, 1) := by decide +kernel
theorem d6_1 : decode jdk_65_method_123_code 1 = .ok (.aload_n 0, 1) := by decide +kernel
theorem d6_2 : decode jdk_65_method_123_code 2 = .ok (.arraylength, 1) := by decide +kernel
theorem d6_3 : decode jdk_65_method_123_code 3 = .ok (.if_icmp .ne 11, 3) := by decide +kernel
theorem d6_14 : decode jdk_65_method_123_code 14 = .ok (.iload_n 1, 1) := by decide +kernel
theorem d6_15 : decode jdk_65_method_123_code 15 = .ok (.newarray .int, 2) := by decide +kernel
theorem d6_17 : decode jdk_65_method_123_code 17 = .ok (.astore_n 2, 1) := by decide +kernel
theorem d6_18 : decode jdk_65_method_123_code 18 = .ok (.aload_n 0, 1) := by decide +kernel
theorem d6_19 : decode jdk_65_method_123_code 19 = .ok (.iconst 0, 1) := by decide +kernel
theorem d6_20 : decode jdk_65_method_123_code 20 = .ok (.aload_n 2, 1) := by decide +kernel
theorem d6_21 : decode jdk_65_method_123_code 21 = .ok (.iconst 0, 1) := by decide +kernel
theorem d6_22 : decode jdk_65_method_123_code 22 = .ok (.aload_n 0, 1) := by decide +kernel
theorem d6_23 : decode jdk_65_method_123_code 23 = .ok (.arraylength, 1) := by decide +kernel
theorem d6_24 : decode jdk_65_method_123_code 24 = .ok (.iload_n 1, 1) := by decide +kernel
theorem d6_25 : decode jdk_65_method_123_code 25 = .ok (.invokestatic 304, 3) := by decide +kernel
theorem d6_28 : decode jdk_65_method_123_code 28 = .ok (.invokestatic 150, 3) := by decide +kernel
theorem d6_31 : decode jdk_65_method_123_code 31 = .ok (.aload_n 2, 1) := by decide +kernel
theorem d6_32 : decode jdk_65_method_123_code 32 = .ok (.areturn, 1) := by decide +kernel
theorem d7_0 : decode jdk_29_method_69_code 0 = .ok (.iload_n 0, 1) := by decide +kernel
theorem d7_1 : decode jdk_29_method_69_code 1 = .ok (.iload_n 1, 1) := by decide +kernel
theorem d7_2 : decode jdk_29_method_69_code 2 = .ok (.if_icmp .gt 7, 3) := by decide +kernel
theorem d7_5 : decode jdk_29_method_69_code 5 = .ok (.iload_n 0, 1) := by decide +kernel
theorem d7_6 : decode jdk_29_method_69_code 6 = .ok (.goto 4, 3) := by decide +kernel
theorem d7_10 : decode jdk_29_method_69_code 10 = .ok (.ireturn, 1) := by decide +kernel
theorem d8_0 : decode prog_101_method_3_code 0 = .ok (.aload_n 0, 1) := by decide +kernel
theorem d8_1 : decode prog_101_method_3_code 1 = .ok (.iload_n 1, 1) := by decide +kernel
theorem d8_2 : decode prog_101_method_3_code 2 = .ok (.iconst (-1), 1) := by decide +kernel
theorem d8_3 : decode prog_101_method_3_code 3 = .ok (.invokevirtual 21, 3) := by decide +kernel
theorem d8_6 : decode prog_101_method_3_code 6 = .ok (.aload_n 0, 1) := by decide +kernel
theorem d8_7 : decode prog_101_method_3_code 7 = .ok (.dup, 1) := by decide +kernel
theorem d8_8 : decode prog_101_method_3_code 8 = .ok (.getfield 25, 3) := by decide +kernel
theorem d8_11 : decode prog_101_method_3_code 11 = .ok (.iconst 1, 1) := by decide +kernel
theorem d8_12 : decode prog_101_method_3_code 12 = .ok (.isub, 1) := by decide +kernel
theorem d8_13 : decode prog_101_method_3_code 13 = .ok (.putfield 25, 3) := by decide +kernel
theorem d8_16 : decode prog_101_method_3_code 16 = .ok (.return_, 1) := by decide +kernel
theorem d9_0 : decode method_2_code 0 = .ok (.aload_n 0, 1) := by decide +kernel
theorem d9_1 : decode method_2_code 1 = .ok (.iload_n 1, 1) := by decide +kernel
theorem d9_2 : decode method_2_code 2 = .ok (.iaload, 1) := by decide +kernel
theorem d9_3 : decode method_2_code 3 = .ok (.aload_n 0, 1) := by decide +kernel
theorem d9_4 : decode method_2_code 4 = .ok (.iload_n 2, 1) := by decide +kernel
theorem d9_5 : decode method_2_code 5 = .ok (.iaload, 1) := by decide +kernel
theorem d9_6 : decode method_2_code 6 = .ok (.if_icmp .le 17, 3) := by decide +kernel
theorem d9_9 : decode method_2_code 9 = .ok (.aload_n 0, 1) := by decide +kernel
theorem d9_10 : decode method_2_code 10 = .ok (.iload_n 1, 1) := by decide +kernel
theorem d9_11 : decode method_2_code 11 = .ok (.iaload, 1) := by decide +kernel
theorem d9_12 : decode method_2_code 12 = .ok (.istore_n 3, 1) := by decide +kernel
theorem d9_13 : decode method_2_code 13 = .ok (.aload_n 0, 1) := by decide +kernel
theorem d9_14 : decode method_2_code 14 = .ok (.iload_n 1, 1) := by decide +kernel
theorem d9_15 : decode method_2_code 15 = .ok (.aload_n 0, 1) := by decide +kernel
theorem d9_16 : decode method_2_code 16 = .ok (.iload_n 2, 1) := by decide +kernel
theorem d9_17 : decode method_2_code 17 = .ok (.iaload, 1) := by decide +kernel
theorem d9_18 : decode method_2_code 18 = .ok (.iastore, 1) := by decide +kernel
theorem d9_19 : decode method_2_code 19 = .ok (.aload_n 0, 1) := by decide +kernel
theorem d9_20 : decode method_2_code 20 = .ok (.iload_n 2, 1) := by decide +kernel
theorem d9_21 : decode method_2_code 21 = .ok (.iload_n 3, 1) := by decide +kernel
theorem d9_22 : decode method_2_code 22 = .ok (.iastore, 1) := by decide +kernel
theorem d9_23 : decode method_2_code 23 = .ok (.return_, 1) := by decide +kernel
theorem d10_0 : decode prog_101_method_6_code 0 = .ok (.aload_n 0, 1) := by decide +kernel
theorem d10_1 : decode prog_101_method_6_code 1 = .ok (.getfield 25, 3) := by decide +kernel
theorem d10_4 : decode prog_101_method_6_code 4 = .ok (.ireturn, 1) := by decide +kernel
theorem d11_0 : decode prog_101_method_7_code 0 = .ok (.iconst 0, 1) := by decide +kernel
theorem d11_1 : decode prog_101_method_7_code 1 = .ok (.istore_n 2, 1) := by decide +kernel
theorem d11_2 : decode prog_101_method_7_code 2 = .ok (.iload_n 1, 1) := by decide +kernel
theorem d11_3 : decode prog_101_method_7_code 3 = .ok (.istore_n 3, 1) := by decide +kernel
theorem d11_4 : decode prog_101_method_7_code 4 = .ok (.aload_n 0, 1) := by decide +kernel
theorem d11_5 : decode prog_101_method_7_code 5 = .ok (.getfield 13, 3) := by decide +kernel
theorem d11_8 : decode prog_101_method_7_code 8 = .ok (.istore 4, 2) := by decide +kernel
theorem d11_10 : decode prog_101_method_7_code 10 = .ok (.iload 4, 2) := by decide +kernel
theorem d11_12 : decode prog_101_method_7_code 12 = .ok (.ifCond .le 51, 3) := by decide +kernel
theorem d11_15 : decode prog_101_method_7_code 15 = .ok (.iload_n 2, 1) := by decide +kernel
theorem d11_16 : decode prog_101_method_7_code 16 = .ok (.iload 4, 2) := by decide +kernel
theorem d11_18 : decode prog_101_method_7_code 18 = .ok (.iadd, 1) := by decide +kernel
theorem d11_19 : decode prog_101_method_7_code 19 = .ok (.istore 5, 2) := by decide +kernel
theorem d11_21 : decode prog_101_method_7_code 21 = .ok (.iload 5, 2) := by decide +kernel
theorem d11_23 : decode prog_101_method_7_code 23 = .ok (.aload_n 0, 1) := by decide +kernel
theorem d11_24 : decode prog_101_method_7_code 24 = .ok (.getfield 13, 3) := by decide +kernel
theorem d11_27 : decode prog_101_method_7_code 27 = .ok (.if_icmp .gt 27, 3) := by decide +kernel
theorem d11_30 : decode prog_101_method_7_code 30 = .ok (.aload_n 0, 1) := by decide +kernel
theorem d11_31 : decode prog_101_method_7_code 31 = .ok (.getfield 7, 3) := by decide +kernel
theorem d11_34 : decode prog_101_method_7_code 34 = .ok (.iload 5, 2) := by decide +kernel
theorem d11_36 : decode prog_101_method_7_code 36 = .ok (.iaload, 1) := by decide +kernel
theorem d11_37 : decode prog_101_method_7_code 37 = .ok (.iload_n 3, 1) := by decide +kernel
theorem d11_38 : decode prog_101_method_7_code 38 = .ok (.if_icmp .gt 16, 3) := by decide +kernel
theorem d11_41 : decode prog_101_method_7_code 41 = .ok (.iload 5, 2) := by decide +kernel
theorem d11_43 : decode prog_101_method_7_code 43 = .ok (.istore_n 2, 1) := by decide +kernel
theorem d11_44 : decode prog_101_method_7_code 44 = .ok (.iload_n 3, 1) := by decide +kernel
theorem d11_45 : decode prog_101_method_7_code 45 = .ok (.aload_n 0, 1) := by decide +kernel
theorem d11_46 : decode prog_101_method_7_code 46 = .ok (.getfield 7, 3) := by decide +kernel
theorem d11_49 : decode prog_101_method_7_code 49 = .ok (.iload 5, 2) := by decide +kernel
theorem d11_51 : decode prog_101_method_7_code 51 = .ok (.iaload, 1) := by decide +kernel
theorem d11_52 : decode prog_101_method_7_code 52 = .ok (.isub, 1) := by decide +kernel
theorem d11_53 : decode prog_101_method_7_code 53 = .ok (.istore_n 3, 1) := by decide +kernel
theorem d11_54 : decode prog_101_method_7_code 54 = .ok (.iload 4, 2) := by decide +kernel
theorem d11_56 : decode prog_101_method_7_code 56 = .ok (.iconst 2, 1) := by decide +kernel
theorem d11_57 : decode prog_101_method_7_code 57 = .ok (.idiv, 1) := by decide +kernel
theorem d11_58 : decode prog_101_method_7_code 58 = .ok (.istore 4, 2) := by decide +kernel
theorem d11_60 : decode prog_101_method_7_code 60 = .ok (.goto (-50), 3) := by decide +kernel
theorem d11_63 : decode prog_101_method_7_code 63 = .ok (.iload_n 2, 1) := by decide +kernel
theorem d11_64 : decode prog_101_method_7_code 64 = .ok (.ireturn, 1) := by decide +kernel
theorem pn_com_example_earmark_earmark_ledger_PositionSetPositionPinLaw : plainName "com/example/earmark/earmark/ledger/PositionSetPositionPinLaw" = true := by first | (simp [plainName, overriddenIn]; done) | decide +kernel
theorem pn_com_example_earmark_earmark_ledger_PositionSet : plainName "com/example/earmark/earmark/ledger/PositionSet" = true := by first | (simp [plainName, overriddenIn]; done) | decide +kernel
theorem pn_java_util_Arrays : plainName "java/util/Arrays" = true := by first | (simp [plainName, overriddenIn]; done) | decide +kernel
theorem pd_0 : parseMethodDescriptor "(II)I" = some ⟨[.int, .int], some .int⟩ := by decide +kernel
theorem pd_1 : parseMethodDescriptor "([II)[I" = some ⟨[(.array .int), .int], some (.array .int)⟩ := by decide +kernel
theorem pd_2 : parseMethodDescriptor "(I)V" = some ⟨[.int], none⟩ := by decide +kernel
theorem pd_3 : parseMethodDescriptor "(II)V" = some ⟨[.int, .int], none⟩ := by decide +kernel
theorem pd_4 : parseMethodDescriptor "()V" = some ⟨[], none⟩ := by decide +kernel
theorem pd_5 : parseMethodDescriptor "([III)V" = some ⟨[(.array .int), .int, .int], none⟩ := by decide +kernel
theorem pd_6 : parseMethodDescriptor "()I" = some ⟨[], some .int⟩ := by decide +kernel
theorem pd_7 : parseMethodDescriptor "(I)I" = some ⟨[.int], some .int⟩ := by decide +kernel
set_option maxRecDepth 65536 in
set_option maxHeartbeats 40000000 in
theorem loopC {p : Program} {l : Launch} {e : Env} {R : Room} {s : State} {m : MethodId} {args : Array Value} {below : List Frame} {meth : Method} {c : Code} {Z : State} {a0 : Array Value} (hx : p.tables.exec = Jvm.exec) (hZ : Z.Warmed39 s.vm) (hw : ∀ d ∈ tables_1, d.before a0 Z = true) (hby : c.code = prog_101_method_9_code) (hml : c.maxLocals = 4) (hown : s.vm.findClass "com/example/earmark/earmark/ledger/PositionSet" = some m.cls) {n0 cells slots : Nat} (sa ta : Addr) (k0 : ClassId) (po : Nat) (d : Int32) (cap : Nat) (f : Nat → Int32) (hcap : cap ≤ 256) (hst : sa ≠ ta) (gt : n0 ≤ ta) :
    ∀ (fu i : Nat) (T0 : State) (h0 : Heap) (locs : List Loc) (g : Nat → Int32), cap < i + fu → i ≤ 512 → i - own_low i ≤ po → po < i → (∀ j, j ≤ cap → g j = if j - own_low j ≤ po ∧ po < j ∧ j < i then f j + d else f j) → Stand p l e R s m args below meth c T0 locs cells slots → T0.heap = h0 → Fr n0 locs → n0 ≤ h0.size →
      Fld Z h0 sa "com/example/earmark/earmark/ledger/PositionSet" "counts" "[I" (.ref ta) → Fld Z h0 sa "com/example/earmark/earmark/ledger/PositionSet" "capacity" "I" (.int (Int32.ofNat cap)) → Arv Z h0 ta k0 .int (Int32.ofNat (cap + 1)) (own_tab g (cap + 1)) (.int (0 : Int32)) →
      ∃ (T' : State) (h' : Heap) (locs' : List Loc) (g' : Nat → Int32), Stand p l e R s m args below meth c T' locs' cells slots ∧ T'.heap = h' ∧ Fr n0 locs' ∧ Keep h0 h' [ta] ∧ Arv Z h' ta k0 .int (Int32.ofNat (cap + 1)) (own_tab g' (cap + 1)) (.int (0 : Int32)) ∧ (∀ j, j ≤ cap → g' j = if j - own_low j ≤ po ∧ po < j then f j + d else f j) ∧
        ∃ z : Int32, ∀ t, Steps p.tables e below (T'.setTop (mkF m 32 #[.val (.ref sa), .val (.int (Int32.ofNat po)), .val (.int d), .val (.int z)] [])) t → Steps p.tables e below (T0.setTop (mkF m 4 #[.val (.ref sa), .val (.int (Int32.ofNat po)), .val (.int d), .val (.int (Int32.ofNat i))] [])) t := by
  intro fu
  induction fu with
  | zero =>
    intro i T0 h0 locs g hfu hi512 hi1 hi2 hg X0 e0 N0 Z0 Fc Fk Va
    have hgt : cap < i := by omega
    have pre0 := fun τ (κ : Steps p.tables e below (T0.setTop (mkF m 4 #[.val (.ref sa), .val (.int (Int32.ofNat po)), .val (.int d), .val (.int (Int32.ofNat i))] [])) τ) => κ
    have Kp0 : Keep h0 h0 [ta] := Keep.refl _ _
    have pre1 := fun τ (κ : Steps p.tables e below (T0.setTop (mkF m 6 #[.val (.ref sa), .val (.int (Int32.ofNat po)), .val (.int d), .val (.int (Int32.ofNat i))] [(.ref sa), (.int (Int32.ofNat i))])) τ) => pre0 τ (by
      refine XS.iloadN X0.here hx rfl (hb hby d5_4) rfl ?_
      show Steps p.tables e below (T0.setTop (mkF m 5 #[.val (.ref sa), .val (.int (Int32.ofNat po)), .val (.int d), .val (.int (Int32.ofNat i))] [(.int (Int32.ofNat i))])) _
      refine XS.aloadN X0.here hx rfl (hb hby d5_5) rfl rfl ?_
      show Steps p.tables e below (T0.setTop (mkF m 6 #[.val (.ref sa), .val (.int (Int32.ofNat po)), .val (.int d), .val (.int (Int32.ofNat i))] [(.ref sa), (.int (Int32.ofNat i))])) _
      exact κ)
    obtain ⟨T2, X2, e2, st2⟩ := getF X0 hx hZ hown (host := "") (Or.inl (hw _ (List.mem_of_getElem? (i := 12) rfl))) Via.refl e0 Fk (g := (mkF m 6 #[.val (.ref sa), .val (.int (Int32.ofNat po)), .val (.int d), .val (.int (Int32.ofNat i))] [(.ref sa), (.int (Int32.ofNat i))])) rfl rfl (hb hby d5_6)
    have pre3 := fun τ (κ : Steps p.tables e below (T2.setTop (mkF m 9 #[.val (.ref sa), .val (.int (Int32.ofNat po)), .val (.int d), .val (.int (Int32.ofNat i))] [(.int (Int32.ofNat cap)), (.int (Int32.ofNat i))])) τ) => pre1 τ (st2 _ κ)
    have pre4 := fun τ (κ : Steps p.tables e below (T2.setTop (mkF m 32 #[.val (.ref sa), .val (.int (Int32.ofNat po)), .val (.int d), .val (.int (Int32.ofNat i))] [])) τ) => pre3 τ (by
      refine XS.icmpYes X2.here hx rfl (pc0 := 9) (pc' := 32) rfl (hb hby d5_9) rfl (tlt ((own_ltN (by omega) (by omega)).mpr hgt)).2.2.1 (by decide) (by decide) ?_
      show Steps p.tables e below (T2.setTop (mkF m 32 #[.val (.ref sa), .val (.int (Int32.ofNat po)), .val (.int d), .val (.int (Int32.ofNat i))] [])) _
      exact κ)
    have hg' : ∀ j, j ≤ cap → g j = if j - own_low j ≤ po ∧ po < j then f j + d else f j := by
      intro j hj
      rw [hg j hj]
      by_cases q : j - own_low j ≤ po ∧ po < j
      · rw [if_pos q, if_pos ⟨q.1, q.2, by omega⟩]
      · rw [if_neg q, if_neg fun z => q ⟨z.1, z.2.1⟩]
    exact ⟨T2, h0, locs, g, X2, e2, N0, Keep.refl _ _, Va, hg', _, pre4⟩
  | succ fu ih =>
    intro i T0 h0 locs g hfu hi512 hi1 hi2 hg X0 e0 N0 Z0 Fc Fk Va
    by_cases hgt : cap < i
    · skip
      have pre0 := fun τ (κ : Steps p.tables e below (T0.setTop (mkF m 4 #[.val (.ref sa), .val (.int (Int32.ofNat po)), .val (.int d), .val (.int (Int32.ofNat i))] [])) τ) => κ
      have Kp0 : Keep h0 h0 [ta] := Keep.refl _ _
      have pre1 := fun τ (κ : Steps p.tables e below (T0.setTop (mkF m 6 #[.val (.ref sa), .val (.int (Int32.ofNat po)), .val (.int d), .val (.int (Int32.ofNat i))] [(.ref sa), (.int (Int32.ofNat i))])) τ) => pre0 τ (by
        refine XS.iloadN X0.here hx rfl (hb hby d5_4) rfl ?_
        show Steps p.tables e below (T0.setTop (mkF m 5 #[.val (.ref sa), .val (.int (Int32.ofNat po)), .val (.int d), .val (.int (Int32.ofNat i))] [(.int (Int32.ofNat i))])) _
        refine XS.aloadN X0.here hx rfl (hb hby d5_5) rfl rfl ?_
        show Steps p.tables e below (T0.setTop (mkF m 6 #[.val (.ref sa), .val (.int (Int32.ofNat po)), .val (.int d), .val (.int (Int32.ofNat i))] [(.ref sa), (.int (Int32.ofNat i))])) _
        exact κ)
      obtain ⟨T2, X2, e2, st2⟩ := getF X0 hx hZ hown (host := "") (Or.inl (hw _ (List.mem_of_getElem? (i := 12) rfl))) Via.refl e0 Fk (g := (mkF m 6 #[.val (.ref sa), .val (.int (Int32.ofNat po)), .val (.int d), .val (.int (Int32.ofNat i))] [(.ref sa), (.int (Int32.ofNat i))])) rfl rfl (hb hby d5_6)
      have pre3 := fun τ (κ : Steps p.tables e below (T2.setTop (mkF m 9 #[.val (.ref sa), .val (.int (Int32.ofNat po)), .val (.int d), .val (.int (Int32.ofNat i))] [(.int (Int32.ofNat cap)), (.int (Int32.ofNat i))])) τ) => pre1 τ (st2 _ κ)
      have pre4 := fun τ (κ : Steps p.tables e below (T2.setTop (mkF m 32 #[.val (.ref sa), .val (.int (Int32.ofNat po)), .val (.int d), .val (.int (Int32.ofNat i))] [])) τ) => pre3 τ (by
        refine XS.icmpYes X2.here hx rfl (pc0 := 9) (pc' := 32) rfl (hb hby d5_9) rfl (tlt ((own_ltN (by omega) (by omega)).mpr hgt)).2.2.1 (by decide) (by decide) ?_
        show Steps p.tables e below (T2.setTop (mkF m 32 #[.val (.ref sa), .val (.int (Int32.ofNat po)), .val (.int d), .val (.int (Int32.ofNat i))] [])) _
        exact κ)
      have hg' : ∀ j, j ≤ cap → g j = if j - own_low j ≤ po ∧ po < j then f j + d else f j := by
        intro j hj
        rw [hg j hj]
        by_cases q : j - own_low j ≤ po ∧ po < j
        · rw [if_pos q, if_pos ⟨q.1, q.2, by omega⟩]
        · rw [if_neg q, if_neg fun z => q ⟨z.1, z.2.1⟩]
      exact ⟨T2, h0, locs, g, X2, e2, N0, Keep.refl _ _, Va, hg', _, pre4⟩
    · skip
      have pre0 := fun τ (κ : Steps p.tables e below (T0.setTop (mkF m 4 #[.val (.ref sa), .val (.int (Int32.ofNat po)), .val (.int d), .val (.int (Int32.ofNat i))] [])) τ) => κ
      have Kp0 : Keep h0 h0 [ta] := Keep.refl _ _
      have pre1 := fun τ (κ : Steps p.tables e below (T0.setTop (mkF m 6 #[.val (.ref sa), .val (.int (Int32.ofNat po)), .val (.int d), .val (.int (Int32.ofNat i))] [(.ref sa), (.int (Int32.ofNat i))])) τ) => pre0 τ (by
        refine XS.iloadN X0.here hx rfl (hb hby d5_4) rfl ?_
        show Steps p.tables e below (T0.setTop (mkF m 5 #[.val (.ref sa), .val (.int (Int32.ofNat po)), .val (.int d), .val (.int (Int32.ofNat i))] [(.int (Int32.ofNat i))])) _
        refine XS.aloadN X0.here hx rfl (hb hby d5_5) rfl rfl ?_
        show Steps p.tables e below (T0.setTop (mkF m 6 #[.val (.ref sa), .val (.int (Int32.ofNat po)), .val (.int d), .val (.int (Int32.ofNat i))] [(.ref sa), (.int (Int32.ofNat i))])) _
        exact κ)
      obtain ⟨T2, X2, e2, st2⟩ := getF X0 hx hZ hown (host := "") (Or.inl (hw _ (List.mem_of_getElem? (i := 12) rfl))) Via.refl e0 Fk (g := (mkF m 6 #[.val (.ref sa), .val (.int (Int32.ofNat po)), .val (.int d), .val (.int (Int32.ofNat i))] [(.ref sa), (.int (Int32.ofNat i))])) rfl rfl (hb hby d5_6)
      have pre3 := fun τ (κ : Steps p.tables e below (T2.setTop (mkF m 9 #[.val (.ref sa), .val (.int (Int32.ofNat po)), .val (.int d), .val (.int (Int32.ofNat i))] [(.int (Int32.ofNat cap)), (.int (Int32.ofNat i))])) τ) => pre1 τ (st2 _ κ)
      have pre4 := fun τ (κ : Steps p.tables e below (T2.setTop (mkF m 13 #[.val (.ref sa), .val (.int (Int32.ofNat po)), .val (.int d), .val (.int (Int32.ofNat i))] [(.ref sa)])) τ) => pre3 τ (by
        refine XS.icmpNo X2.here hx rfl (hb hby d5_9) rfl (flt (fun q => hgt ((own_ltN (by omega) (by omega)).mp q))).2.2.1 ?_
        show Steps p.tables e below (T2.setTop (mkF m 12 #[.val (.ref sa), .val (.int (Int32.ofNat po)), .val (.int d), .val (.int (Int32.ofNat i))] [])) _
        refine XS.aloadN X2.here hx rfl (hb hby d5_12) rfl rfl ?_
        show Steps p.tables e below (T2.setTop (mkF m 13 #[.val (.ref sa), .val (.int (Int32.ofNat po)), .val (.int d), .val (.int (Int32.ofNat i))] [(.ref sa)])) _
        exact κ)
      obtain ⟨T5, X5, e5, st5⟩ := getF X2 hx hZ hown (host := "") (Or.inl (hw _ (List.mem_of_getElem? (i := 10) rfl))) Via.refl e2 Fc (g := (mkF m 13 #[.val (.ref sa), .val (.int (Int32.ofNat po)), .val (.int d), .val (.int (Int32.ofNat i))] [(.ref sa)])) rfl rfl (hb hby d5_13)
      have pre6 := fun τ (κ : Steps p.tables e below (T5.setTop (mkF m 16 #[.val (.ref sa), .val (.int (Int32.ofNat po)), .val (.int d), .val (.int (Int32.ofNat i))] [(.ref ta)])) τ) => pre4 τ (st5 _ κ)
      have pre7 := fun τ (κ : Steps p.tables e below (T5.setTop (mkF m 18 #[.val (.ref sa), .val (.int (Int32.ofNat po)), .val (.int d), .val (.int (Int32.ofNat i))] [(.int (Int32.ofNat i)), (.ref ta), (.int (Int32.ofNat i)), (.ref ta)])) τ) => pre6 τ (by
        refine XS.iloadN X5.here hx rfl (hb hby d5_16) rfl ?_
        show Steps p.tables e below (T5.setTop (mkF m 17 #[.val (.ref sa), .val (.int (Int32.ofNat po)), .val (.int d), .val (.int (Int32.ofNat i))] [(.int (Int32.ofNat i)), (.ref ta)])) _
        refine Jvm.Free.XT.dup2 X5.here hx rfl (hb hby d5_17) rfl rfl rfl ?_
        show Steps p.tables e below (T5.setTop (mkF m 18 #[.val (.ref sa), .val (.int (Int32.ofNat po)), .val (.int d), .val (.int (Int32.ofNat i))] [(.int (Int32.ofNat i)), (.ref ta), (.int (Int32.ofNat i)), (.ref ta)])) _
        exact κ)
      have hj9 : (Int32.ofNat i).toNatClampNeg = i := own_clamp (by omega)
      have hi9 : i < (own_tab g (cap + 1)).length := by rw [own_tab_len]; omega
      have inb9 : ¬ (Int32.ofNat i) < 0 ∧ (Int32.ofNat i) < (Int32.ofNat (cap + 1)) := ⟨own_nn (by omega), (own_ltN (by omega) (by omega)).mpr (by omega)⟩
      obtain ⟨cl8, Ar8, -, S8, M8, H8, -⟩ := id Va
      have in8 : ¬ ((Int32.ofNat i) < 0 ∨ cl8.slots.size ≤ ((Int32.ofNat i)).toNatClampNeg) := inb_of S8 inb9
      have at8 : cl8.slots[((Int32.ofNat i)).toNatClampNeg]? = some (.int (g i)) := H8.at in8 (by rw [hj9]; exact own_tab_get (by omega) _)
      have pre9 := fun τ (κ : Steps p.tables e below (T5.setTop (mkF m 21 #[.val (.ref sa), .val (.int (Int32.ofNat po)), .val (.int d), .val (.int (Int32.ofNat i))] [(.int ((g i) + d)), (.int (Int32.ofNat i)), (.ref ta)])) τ) => pre7 τ (by
        refine X5.iaload hx (j := (Int32.ofNat i)) (v := (.int (g i))) (by rw [e5]; exact Ar8.1) (State.isArrayOf_alike hZ.alike Ar8.2.1) Ar8.2.2 in8 at8 (g := (mkF m 18 #[.val (.ref sa), .val (.int (Int32.ofNat po)), .val (.int d), .val (.int (Int32.ofNat i))] [(.int (Int32.ofNat i)), (.ref ta), (.int (Int32.ofNat i)), (.ref ta)])) rfl rfl (hb hby d5_18) _ ?_
        show Steps p.tables e below (T5.setTop (mkF m 19 #[.val (.ref sa), .val (.int (Int32.ofNat po)), .val (.int d), .val (.int (Int32.ofNat i))] [(.int (g i)), (.int (Int32.ofNat i)), (.ref ta)])) _
        refine XS.iloadN X5.here hx rfl (hb hby d5_19) rfl ?_
        show Steps p.tables e below (T5.setTop (mkF m 20 #[.val (.ref sa), .val (.int (Int32.ofNat po)), .val (.int d), .val (.int (Int32.ofNat i))] [(.int d), (.int (g i)), (.int (Int32.ofNat i)), (.ref ta)])) _
        refine XS.iadd X5.here hx rfl (hb hby d5_20) rfl ?_
        show Steps p.tables e below (T5.setTop (mkF m 21 #[.val (.ref sa), .val (.int (Int32.ofNat po)), .val (.int d), .val (.int (Int32.ofNat i))] [(.int ((g i) + d)), (.int (Int32.ofNat i)), (.ref ta)])) _
        exact κ)
      obtain ⟨cl10, Ar10, q10, S10, M10, H10, G10⟩ := id Va
      have in10 : ¬ ((Int32.ofNat i) < 0 ∨ cl10.slots.size ≤ ((Int32.ofNat i)).toNatClampNeg) := inb_of S10 inb9
      obtain ⟨T11, h11, X11, e11, W11, st11⟩ := stI X5 hx hZ e5 Ar10 (j := (Int32.ofNat i)) in10 (g := (mkF m 21 #[.val (.ref sa), .val (.int (Int32.ofNat po)), .val (.int d), .val (.int (Int32.ofNat i))] [(.int ((g i) + d)), (.int (Int32.ofNat i)), (.ref ta)])) rfl rfl (hb hby d5_21)
      have Fc_11 : Fld Z h11 sa "com/example/earmark/earmark/ledger/PositionSet" "counts" "[I" (.ref ta) := Fc.other W11 (Or.inl hst)
      have Fk_11 : Fld Z h11 sa "com/example/earmark/earmark/ledger/PositionSet" "capacity" "I" (.int (Int32.ofNat cap)) := Fk.other W11 (Or.inl hst)
      have Kp11 : Keep h0 h11 [ta] := Kp0.wr W11 (Or.inl (List.mem_of_getElem? (i := 0) rfl))
      have N11 := Fr.snoc X11 N0 gt
      have Z11 : n0 ≤ h11.size := Nat.le_trans Z0 (Keep.of_wr W11).1
      have V_ta_11 : Arv Z h11 ta k0 .int (Int32.ofNat (cap + 1)) (own_tab (fun x => if x = i then g i + d else g x) (cap + 1)) (.int (0 : Int32)) := (own_tab_set g (cap + 1) i (g i + d)) ▸ (Arv.set Ar10 q10 S10 M10 H10 G10 rfl W11 i (by first | rfl | assumption) (by assumption))
      have pre12 := fun τ (κ : Steps p.tables e below (T11.setTop (mkF m 22 #[.val (.ref sa), .val (.int (Int32.ofNat po)), .val (.int d), .val (.int (Int32.ofNat i))] [])) τ) => pre9 τ (st11 _ κ)
      have pre13 := fun τ (κ : Steps p.tables e below (T11.setTop (mkF m 4 #[.val (.ref sa), .val (.int (Int32.ofNat po)), .val (.int d), .val (.int ((Int32.ofNat i) + ((Int32.ofNat i) &&& (-(Int32.ofNat i)))))] [])) τ) => pre12 τ (by
        refine XS.iloadN X11.here hx rfl (hb hby d5_22) rfl ?_
        show Steps p.tables e below (T11.setTop (mkF m 23 #[.val (.ref sa), .val (.int (Int32.ofNat po)), .val (.int d), .val (.int (Int32.ofNat i))] [(.int (Int32.ofNat i))])) _
        refine XS.iloadN X11.here hx rfl (hb hby d5_23) rfl ?_
        show Steps p.tables e below (T11.setTop (mkF m 24 #[.val (.ref sa), .val (.int (Int32.ofNat po)), .val (.int d), .val (.int (Int32.ofNat i))] [(.int (Int32.ofNat i)), (.int (Int32.ofNat i))])) _
        refine XS.iloadN X11.here hx rfl (hb hby d5_24) rfl ?_
        show Steps p.tables e below (T11.setTop (mkF m 25 #[.val (.ref sa), .val (.int (Int32.ofNat po)), .val (.int d), .val (.int (Int32.ofNat i))] [(.int (Int32.ofNat i)), (.int (Int32.ofNat i)), (.int (Int32.ofNat i))])) _
        refine XS.ineg X11.here hx rfl (hb hby d5_25) rfl ?_
        show Steps p.tables e below (T11.setTop (mkF m 26 #[.val (.ref sa), .val (.int (Int32.ofNat po)), .val (.int d), .val (.int (Int32.ofNat i))] [(.int (-(Int32.ofNat i))), (.int (Int32.ofNat i)), (.int (Int32.ofNat i))])) _
        refine XS.iand X11.here hx rfl (hb hby d5_26) rfl ?_
        show Steps p.tables e below (T11.setTop (mkF m 27 #[.val (.ref sa), .val (.int (Int32.ofNat po)), .val (.int d), .val (.int (Int32.ofNat i))] [(.int ((Int32.ofNat i) &&& (-(Int32.ofNat i)))), (.int (Int32.ofNat i))])) _
        refine XS.iadd X11.here hx rfl (hb hby d5_27) rfl ?_
        show Steps p.tables e below (T11.setTop (mkF m 28 #[.val (.ref sa), .val (.int (Int32.ofNat po)), .val (.int d), .val (.int (Int32.ofNat i))] [(.int ((Int32.ofNat i) + ((Int32.ofNat i) &&& (-(Int32.ofNat i)))))])) _
        refine XS.istoreN X11.here hx rfl (hb hby d5_28) rfl (l' := #[.val (.ref sa), .val (.int (Int32.ofNat po)), .val (.int d), .val (.int ((Int32.ofNat i) + ((Int32.ofNat i) &&& (-(Int32.ofNat i)))))]) rfl ?_
        show Steps p.tables e below (T11.setTop (mkF m 29 #[.val (.ref sa), .val (.int (Int32.ofNat po)), .val (.int d), .val (.int ((Int32.ofNat i) + ((Int32.ofNat i) &&& (-(Int32.ofNat i)))))] [])) _
        refine XS.goto X11.here hx rfl (pc0 := 29) (pc' := 4) rfl (hb hby d5_29) (by decide) (by decide) ?_
        show Steps p.tables e below (T11.setTop (mkF m 4 #[.val (.ref sa), .val (.int (Int32.ofNat po)), .val (.int d), .val (.int ((Int32.ofNat i) + ((Int32.ofNat i) &&& (-(Int32.ofNat i)))))] [])) _
        exact κ)
      rw [show ((Int32.ofNat i) + ((Int32.ofNat i) &&& (-(Int32.ofNat i)))) = (Int32.ofNat (i + own_low i)) from (by rw [own_F1 i (by omega) (by omega)]; exact own_addN _ _)] at pre13
      have a3 := own_F3 i (by omega) (by omega)
      obtain ⟨T', h', lo', g', X', e', N', K', V', G', z, st⟩ := ih (i + own_low i) _ _ _ _ (by omega) (by omega) (by omega) (by omega) (own_step hcap (by omega) hi1 hi2 hg) X11 e11 N11 Z11 Fc_11 Fk_11 V_ta_11
      exact ⟨T', h', lo', g', X', e', N', Kp11.trans K' (allS (Or.inl (List.mem_of_getElem? (i := 0) rfl)) all0), V', G', z, fun τ κ => pre13 τ (st τ κ)⟩
theorem ef_5 (m : MethodId) (a1 : Addr) (po : Nat) (d : Int32) (ta : Addr) (ex : Nat) : entryFrame m #[(.ref a1), (.int (Int32.ofNat po)), (.int d)] 4 = mkF m 0 #[.val (.ref a1), .val (.int (Int32.ofNat po)), .val (.int d), .unset] [] := by first | (simp [entryFrame, mkF, argsToLocals, Value.category]; done) | rfl
def Q5 (Z : State) (a1 : Addr) (po : Nat) (d : Int32) (ta : Addr) (k0 : ClassId) (ex : Nat) (f : Nat → Int32) (h0 : Heap) (n0 : Nat) (v : Option Value) (h : Heap) (L : List Loc) : Prop := v = none ∧ Fr n0 L ∧ Keep h0 h [ta] ∧ ∃ g' : Nat → Int32, Arv Z h ta k0 .int (Int32.ofNat (2 ^ ex + 1)) (own_tab g' (2 ^ ex + 1)) (.int (0 : Int32)) ∧ ∀ j, j ≤ 2 ^ ex → g' j = if j - own_low j ≤ po ∧ po < j then f j + d else f j
set_option maxRecDepth 65536 in
set_option maxHeartbeats 40000000 in
theorem rm5 (l : Launch) (Z : State) (a0 : Array Value) (hw : ∀ d ∈ tables_1, d.before a0 Z = true) (ws : List Jvm.Cond) (a1 : Addr) (po : Nat) (d : Int32) (ta : Addr) (k0 : ClassId) (ex : Nat) (f : Nat → Int32) (h0 : Heap) (n0 : Nat) (Z0 : n0 ≤ h0.size) (Fc : Fld Z h0 a1 "com/example/earmark/earmark/ledger/PositionSet" "counts" "[I" (.ref ta)) (Fk : Fld Z h0 a1 "com/example/earmark/earmark/ledger/PositionSet" "capacity" "I" (.int (Int32.ofNat (2 ^ ex)))) (Va : Arv Z h0 ta k0 .int (Int32.ofNat (2 ^ ex + 1)) (own_tab f (2 ^ ex + 1)) (.int (0 : Int32))) (hst : a1 ≠ ta) (gt : n0 ≤ ta) (hex : ex ≤ 8) (hpo : po < 2 ^ ex) :
    MetFree l (⟨"com/example/earmark/earmark/ledger/PositionSet", "change", "(II)V"⟩ : MethodName) (head1 (Jvm.Cond.code (⟨"com/example/earmark/earmark/ledger/PositionSet", "change", "(II)V"⟩ : MethodName) prog_101_method_9_code 4 none :: ws) ({ frames := 0, cells := 0, slots := 0, locals := 0 } : Room)) (fun α υ => α = #[(.ref a1), (.int (Int32.ofNat po)), (.int d)] ∧ Z.Warmed39 υ.vm ∧ υ.heap = h0) (fun _ _ _ _ _ => True) (fun _ υ ω υ' => ∃ v L, ω = .returned v ∧ Q5 Z a1 po d ta k0 ex f h0 n0 v υ'.heap L ∧ FrameEnd υ ω υ' L ({ frames := 0, cells := 0, slots := 0, locals := 0 } : Room).cells ({ frames := 0, cells := 0, slots := 0, locals := 0 } : Room).slots) := by
  refine MetFree.of_bodySF (plainFor_of_name pn_com_example_earmark_earmark_ledger_PositionSet) hisR ?_
  intro p e s m args below meth c s₁ Bd hml0 hP hK
  obtain ⟨rfl, hZ, hh⟩ := hP
  have hx := Bd.exec
  have hby := Bd.bytes
  have hml : c.maxLocals = 4 := hml0
  have hown : s.vm.findClass "com/example/earmark/earmark/ledger/PositionSet" = some m.cls := findClass_of_methodNamed Bd.named
  have hnm := (name_of_methodNamed Bd.named Bd.method).1
  have X0 : Stand p l e ({ frames := 0, cells := 0, slots := 0, locals := 0 } : Room) s m #[(.ref a1), (.int (Int32.ofNat po)), (.int d)] below meth c s₁ [] 0 0 := Stand.of_body Bd
  have e0 : s₁.heap = h0 := by rw [← hh, Bd.state]; rfl
  have N0 := Fr.nil n0
  have pre0 : ∀ τ, Steps p.tables e below (s₁.setTop (mkF m 0 #[.val (.ref a1), .val (.int (Int32.ofNat po)), .val (.int d), .unset] [])) τ → Steps p.tables e below (s₁.setTop (entryFrame m #[(.ref a1), (.int (Int32.ofNat po)), (.int d)] 4)) τ := fun τ κ => castTop (ef_5 m a1 po d ta ex) κ
  have pre1 := fun τ (κ : Steps p.tables e below (s₁.setTop (mkF m 3 #[.val (.ref a1), .val (.int (Int32.ofNat po)), .val (.int d), .unset] [(.int ((Int32.ofNat po) + (1 : Int32)))])) τ) => pre0 τ (by
    refine XS.iloadN X0.here hx rfl (hb hby d5_0) rfl ?_
    show Steps p.tables e below (s₁.setTop (mkF m 1 #[.val (.ref a1), .val (.int (Int32.ofNat po)), .val (.int d), .unset] [(.int (Int32.ofNat po))])) _
    refine XS.iconst X0.here hx rfl (hb hby d5_1) ?_
    show Steps p.tables e below (s₁.setTop (mkF m 2 #[.val (.ref a1), .val (.int (Int32.ofNat po)), .val (.int d), .unset] [(.int (1 : Int32)), (.int (Int32.ofNat po))])) _
    refine XS.iadd X0.here hx rfl (hb hby d5_2) rfl ?_
    show Steps p.tables e below (s₁.setTop (mkF m 3 #[.val (.ref a1), .val (.int (Int32.ofNat po)), .val (.int d), .unset] [(.int ((Int32.ofNat po) + (1 : Int32)))])) _
    exact κ)
  rw [show ((Int32.ofNat po) + (1 : Int32)) = (Int32.ofNat (po + 1)) from (own_addN po 1)] at pre1
  have pre2 := fun τ (κ : Steps p.tables e below (s₁.setTop (mkF m 4 #[.val (.ref a1), .val (.int (Int32.ofNat po)), .val (.int d), .val (.int (Int32.ofNat (po + 1)))] [])) τ) => pre1 τ (by
    refine XS.istoreN X0.here hx rfl (hb hby d5_3) rfl (l' := #[.val (.ref a1), .val (.int (Int32.ofNat po)), .val (.int d), .val (.int (Int32.ofNat (po + 1)))]) rfl ?_
    show Steps p.tables e below (s₁.setTop (mkF m 4 #[.val (.ref a1), .val (.int (Int32.ofNat po)), .val (.int d), .val (.int (Int32.ofNat (po + 1)))] [])) _
    exact κ)
  have hp8 := own_pow8 hex
  have a3 := own_F3 (po + 1) (by omega) (by omega)
  obtain ⟨T9, h9, lo9, g9, X9, e9, N9, K9, V9, G9, z9, st9⟩ := loopC hx hZ hw hby hml hown a1 ta k0 po d (2 ^ ex) f hp8.1 hst gt (2 ^ ex) (po + 1) _ _ _ f (by omega) (by omega) (by omega) (by omega) (fun j hj => by rw [if_neg (by omega)]) X0 e0 N0 Z0 Fc Fk Va
  have pre99 := fun τ (κ : Steps p.tables e below (T9.setTop (mkF m 32 #[.val (.ref a1), .val (.int (Int32.ofNat po)), .val (.int d), .val (.int z9)] [])) τ) => pre2 τ (st9 τ κ)
  obtain ⟨fs, hr, hrun, hended, hW, hsame⟩ := X9.leave (v := none) (fun _ => rfl)
  refine ⟨_, _, pre99 _ ?_, hrun, hended, _, _, rfl, ?_, ⟨_, rfl⟩, hW, hsame.mono (by decide) (by decide)⟩
  · exact X9.returnOut hx Bd.returns (hb hby d5_32) hr
  · show Q5 Z a1 po d ta k0 ex f h0 n0 _ T9.heap _
    rw [e9]
    exact ⟨rfl, N9, K9, g9, V9, G9⟩
theorem ef_7 (m : MethodId) (x : Int32) (y : Int32) : entryFrame m #[(.int x), (.int y)] 2 = mkF m 0 #[.val (.int x), .val (.int y)] [] := by first | (simp [entryFrame, mkF, argsToLocals, Value.category]; done) | rfl
def Q7 (Z : State) (x : Int32) (y : Int32) (h0 : Heap) (n0 : Nat) (v : Option Value) (h : Heap) (L : List Loc) : Prop := v = some (.int x) ∧ Fr n0 L ∧ h = h0
set_option maxRecDepth 65536 in
set_option maxHeartbeats 40000000 in
theorem rm7 (l : Launch) (Z : State) (a0 : Array Value) (hw : ∀ d ∈ tables_1, d.before a0 Z = true) (ws : List Jvm.Cond) (x : Int32) (y : Int32) (h0 : Heap) (n0 : Nat) (Z0 : n0 ≤ h0.size) (hle : ¬ y < x) :
    MetFree l (⟨"java/lang/Math", "min", "(II)I"⟩ : MethodName) (head1 (Jvm.Cond.code (⟨"java/lang/Math", "min", "(II)I"⟩ : MethodName) jdk_29_method_69_code 2 (some .int) :: ws) ({ frames := 0, cells := 0, slots := 0, locals := 0 } : Room)) (fun α υ => α = #[(.int x), (.int y)] ∧ Z.Warmed39 υ.vm ∧ υ.heap = h0) (fun _ _ _ _ _ => True) (fun _ υ ω υ' => ∃ v L, ω = .returned v ∧ Q7 Z x y h0 n0 v υ'.heap L ∧ FrameEnd υ ω υ' L ({ frames := 0, cells := 0, slots := 0, locals := 0 } : Room).cells ({ frames := 0, cells := 0, slots := 0, locals := 0 } : Room).slots) := by
  refine MetFree.of_bodySF (Jvm.Free.JP.mathPlain rfl (by decide +kernel)) hisR ?_
  intro p e s m args below meth c s₁ Bd hml0 hP hK
  obtain ⟨rfl, hZ, hh⟩ := hP
  have hx := Bd.exec
  have hby := Bd.bytes
  have hml : c.maxLocals = 2 := hml0
  have hown : s.vm.findClass "java/lang/Math" = some m.cls := findClass_of_methodNamed Bd.named
  have hnm := (name_of_methodNamed Bd.named Bd.method).1
  have X0 : Stand p l e ({ frames := 0, cells := 0, slots := 0, locals := 0 } : Room) s m #[(.int x), (.int y)] below meth c s₁ [] 0 0 := Stand.of_body Bd
  have e0 : s₁.heap = h0 := by rw [← hh, Bd.state]; rfl
  have N0 := Fr.nil n0
  have pre0 : ∀ τ, Steps p.tables e below (s₁.setTop (mkF m 0 #[.val (.int x), .val (.int y)] [])) τ → Steps p.tables e below (s₁.setTop (entryFrame m #[(.int x), (.int y)] 2)) τ := fun τ κ => castTop (ef_7 m x y) κ
  have pre1 := fun τ (κ : Steps p.tables e below (s₁.setTop (mkF m 10 #[.val (.int x), .val (.int y)] [(.int x)])) τ) => pre0 τ (by
    refine XS.iloadN X0.here hx rfl (hb hby d7_0) rfl ?_
    show Steps p.tables e below (s₁.setTop (mkF m 1 #[.val (.int x), .val (.int y)] [(.int x)])) _
    refine XS.iloadN X0.here hx rfl (hb hby d7_1) rfl ?_
    show Steps p.tables e below (s₁.setTop (mkF m 2 #[.val (.int x), .val (.int y)] [(.int y), (.int x)])) _
    refine XS.icmpNo X0.here hx rfl (hb hby d7_2) rfl (flt hle).2.2.1 ?_
    show Steps p.tables e below (s₁.setTop (mkF m 5 #[.val (.int x), .val (.int y)] [])) _
    refine XS.iloadN X0.here hx rfl (hb hby d7_5) rfl ?_
    show Steps p.tables e below (s₁.setTop (mkF m 6 #[.val (.int x), .val (.int y)] [(.int x)])) _
    refine XS.goto X0.here hx rfl (pc0 := 6) (pc' := 10) rfl (hb hby d7_6) (by decide) (by decide) ?_
    show Steps p.tables e below (s₁.setTop (mkF m 10 #[.val (.int x), .val (.int y)] [(.int x)])) _
    exact κ)
  obtain ⟨fs, hr, hrun, hended, hW, hsame⟩ := X0.leave (v := some (.int x)) (fun h => by rw [Bd.returns] at h; cases h)
  refine ⟨_, _, pre1 _ ?_, hrun, hended, _, _, rfl, ?_, ⟨_, rfl⟩, hW, hsame.mono (by decide) (by decide)⟩
  · exact retI X0 hx Bd.returns (hb hby d7_10) hr
  · show Q7 Z x y h0 n0 _ s₁.heap _
    rw [e0]
    exact ⟨rfl, N0, rfl⟩
theorem ef_6 (m : MethodId) (a1 : Addr) (n1 : Nat) (n2 : Nat) : entryFrame m #[(.ref a1), (.int (Int32.ofNat n2))] 3 = mkF m 0 #[.val (.ref a1), .val (.int (Int32.ofNat n2)), .unset] [] := by first | (simp [entryFrame, mkF, argsToLocals, Value.category]; done) | rfl
def Q6 (Z : State) (a1 : Addr) (n1 : Nat) (n2 : Nat) (k0 : ClassId) (f : Nat → Int32) (h0 : Heap) (n0 : Nat) (v : Option Value) (h : Heap) (L : List Loc) : Prop := ∃ (b : Addr) (kb : ClassId), v = some (.ref b) ∧ Fr n0 L ∧ Keep h0 h [] ∧ Arv Z h b kb .int (Int32.ofNat n2) (own_tab (fun j => if j < n1 then f j else 0) n2) (.int (0 : Int32)) ∧ h0.size ≤ b
set_option maxRecDepth 65536 in
set_option maxHeartbeats 40000000 in
theorem rm6 (l : Launch) (Z : State) (a0 : Array Value) (hw : ∀ d ∈ tables_1, d.before a0 Z = true) (ws : List Jvm.Cond) (a1 : Addr) (n1 : Nat) (n2 : Nat) (k0 : ClassId) (f : Nat → Int32) (h0 : Heap) (n0 : Nat) (Z0 : n0 ≤ h0.size) (Va : Arv Z h0 a1 k0 .int (Int32.ofNat n1) (own_tab f n1) (.int (0 : Int32))) (h12 : n1 < n2) (hn2 : n2 ≤ 600) :
    MetFree l (⟨"java/util/Arrays", "copyOf", "([II)[I"⟩ : MethodName) (head1 (Jvm.Cond.code (⟨"java/util/Arrays", "copyOf", "([II)[I"⟩ : MethodName) jdk_65_method_123_code 3 (some (.array .int)) :: ws) ({ frames := 1, cells := 1, slots := n2, locals := 40 } : Room)) (fun α υ => α = #[(.ref a1), (.int (Int32.ofNat n2))] ∧ Z.Warmed39 υ.vm ∧ υ.heap = h0) (fun _ _ _ _ _ => True) (fun _ υ ω υ' => ∃ v L, ω = .returned v ∧ Q6 Z a1 n1 n2 k0 f h0 n0 v υ'.heap L ∧ FrameEnd υ ω υ' L ({ frames := 1, cells := 1, slots := n2, locals := 40 } : Room).cells ({ frames := 1, cells := 1, slots := n2, locals := 40 } : Room).slots) := by
  refine MetFree.of_bodySF (plainFor_of_name pn_java_util_Arrays) hisR ?_
  intro p e s m args below meth c s₁ Bd hml0 hP hK
  obtain ⟨rfl, hZ, hh⟩ := hP
  have hx := Bd.exec
  have hby := Bd.bytes
  have hml : c.maxLocals = 3 := hml0
  have hown : s.vm.findClass "java/util/Arrays" = some m.cls := findClass_of_methodNamed Bd.named
  have hnm := (name_of_methodNamed Bd.named Bd.method).1
  have X0 : Stand p l e ({ frames := 1, cells := 1, slots := n2, locals := 40 } : Room) s m #[(.ref a1), (.int (Int32.ofNat n2))] below meth c s₁ [] 0 0 := Stand.of_body Bd
  have e0 : s₁.heap = h0 := by rw [← hh, Bd.state]; rfl
  have N0 := Fr.nil n0
  have pre0 : ∀ τ, Steps p.tables e below (s₁.setTop (mkF m 0 #[.val (.ref a1), .val (.int (Int32.ofNat n2)), .unset] [])) τ → Steps p.tables e below (s₁.setTop (entryFrame m #[(.ref a1), (.int (Int32.ofNat n2))] 3)) τ := fun τ κ => castTop (ef_6 m a1 n1 n2) κ
  have Kp0 : Keep h0 h0 [] := Keep.refl _ _
  have pre1 := fun τ (κ : Steps p.tables e below (s₁.setTop (mkF m 2 #[.val (.ref a1), .val (.int (Int32.ofNat n2)), .unset] [(.ref a1), (.int (Int32.ofNat n2))])) τ) => pre0 τ (by
    refine XS.iloadN X0.here hx rfl (hb hby d6_0) rfl ?_
    show Steps p.tables e below (s₁.setTop (mkF m 1 #[.val (.ref a1), .val (.int (Int32.ofNat n2)), .unset] [(.int (Int32.ofNat n2))])) _
    refine XS.aloadN X0.here hx rfl (hb hby d6_1) rfl rfl ?_
    show Steps p.tables e below (s₁.setTop (mkF m 2 #[.val (.ref a1), .val (.int (Int32.ofNat n2)), .unset] [(.ref a1), (.int (Int32.ofNat n2))])) _
    exact κ)
  obtain ⟨cl2, Ar2, -, S2, M2, -, -⟩ := id Va
  have pre3 := fun τ (κ : Steps p.tables e below (s₁.setTop (mkF m 15 #[.val (.ref a1), .val (.int (Int32.ofNat n2)), .unset] [(.int (Int32.ofNat n2))])) τ) => pre1 τ (by
    refine X0.arraylength hx (by rw [e0]; exact Ar2.1) (State.isArrayOf_alike hZ.alike Ar2.2.1) (g := (mkF m 2 #[.val (.ref a1), .val (.int (Int32.ofNat n2)), .unset] [(.ref a1), (.int (Int32.ofNat n2))])) rfl rfl (hb hby d6_2) _ ?_
    rw [len_of S2 M2]
    show Steps p.tables e below (s₁.setTop (mkF m 3 #[.val (.ref a1), .val (.int (Int32.ofNat n2)), .unset] [(.int (Int32.ofNat n1)), (.int (Int32.ofNat n2))])) _
    refine XS.icmpYes X0.here hx rfl (pc0 := 3) (pc' := 14) rfl (hb hby d6_3) rfl (feq (fun q => by have := (own_injN (by omega) (by omega)).mp q; omega)).2 (by decide) (by decide) ?_
    show Steps p.tables e below (s₁.setTop (mkF m 14 #[.val (.ref a1), .val (.int (Int32.ofNat n2)), .unset] [])) _
    refine XS.iloadN X0.here hx rfl (hb hby d6_14) rfl ?_
    show Steps p.tables e below (s₁.setTop (mkF m 15 #[.val (.ref a1), .val (.int (Int32.ofNat n2)), .unset] [(.int (Int32.ofNat n2))])) _
    exact κ)
  obtain ⟨T4, h4, k4, X4, e4, E4, A4, st4⟩ := newP X0 hx hZ (hw _ (List.mem_of_getElem? (i := 9) rfl)) e0 (g := (mkF m 15 #[.val (.ref a1), .val (.int (Int32.ofNat n2)), .unset] [(.int (Int32.ofNat n2))])) rfl (hb hby d6_15) rfl (own_nn (by omega)) (cap := n2) (Nat.le_of_eq (own_clamp (by omega))) (by omega) (Nat.le_of_ble_eq_true rfl) (by show 0 + n2 ≤ n2; omega)
  obtain ⟨b, g4⟩ : ∃ z, z = h0.size := ⟨_, rfl⟩
  rw [← g4] at A4 st4
  have g_b : n0 ≤ b := Nat.le_trans Z0 (Nat.le_of_eq g4.symm)
  have ne_a1_b : a1 ≠ b := Nat.ne_of_lt (Nat.lt_of_lt_of_le Va.lt (Nat.le_of_eq g4.symm))
  have Va_4 : Arv Z h4 a1 k0 .int (Int32.ofNat n1) (own_tab f (n1)) (.int (0 : Int32)) := Va.ext E4
  have sz_b : h0.size ≤ b := Nat.le_trans Kp0.1 (Nat.le_of_eq g4.symm)
  have Kp4 : Keep h0 h4 [] := Kp0.ext E4
  have Z4 : n0 ≤ h4.size := Nat.le_trans Z0 E4.1
  have V_b_4 : Arv Z h4 b k4 .int (Int32.ofNat n2) [] (.int (0 : Int32)) := Arv.new A4 (own_nn (by omega))
  have pre5 := fun τ (κ : Steps p.tables e below (T4.setTop (mkF m 17 #[.val (.ref a1), .val (.int (Int32.ofNat n2)), .unset] [(.ref b)])) τ) => pre3 τ (st4 _ κ)
  have Vb : Arv Z h4 b k4 .int (Int32.ofNat n2) (own_tab (fun _ => 0) (n2)) (.int (0 : Int32)) := by rw [own_tab_pad]; exact V_b_4.pad (pad_rep [] _ n2)
  have pre6 := fun τ (κ : Steps p.tables e below (T4.setTop (mkF m 23 #[.val (.ref a1), .val (.int (Int32.ofNat n2)), .val (.ref b)] [(.ref a1), (.int (0 : Int32)), (.ref b), (.int (0 : Int32)), (.ref a1)])) τ) => pre5 τ (by
    refine XS.astoreN X4.here hx rfl (hb hby d6_17) rfl rfl (l' := #[.val (.ref a1), .val (.int (Int32.ofNat n2)), .val (.ref b)]) rfl ?_
    show Steps p.tables e below (T4.setTop (mkF m 18 #[.val (.ref a1), .val (.int (Int32.ofNat n2)), .val (.ref b)] [])) _
    refine XS.aloadN X4.here hx rfl (hb hby d6_18) rfl rfl ?_
    show Steps p.tables e below (T4.setTop (mkF m 19 #[.val (.ref a1), .val (.int (Int32.ofNat n2)), .val (.ref b)] [(.ref a1)])) _
    refine XS.iconst X4.here hx rfl (hb hby d6_19) ?_
    show Steps p.tables e below (T4.setTop (mkF m 20 #[.val (.ref a1), .val (.int (Int32.ofNat n2)), .val (.ref b)] [(.int (0 : Int32)), (.ref a1)])) _
    refine XS.aloadN X4.here hx rfl (hb hby d6_20) rfl rfl ?_
    show Steps p.tables e below (T4.setTop (mkF m 21 #[.val (.ref a1), .val (.int (Int32.ofNat n2)), .val (.ref b)] [(.ref b), (.int (0 : Int32)), (.ref a1)])) _
    refine XS.iconst X4.here hx rfl (hb hby d6_21) ?_
    show Steps p.tables e below (T4.setTop (mkF m 22 #[.val (.ref a1), .val (.int (Int32.ofNat n2)), .val (.ref b)] [(.int (0 : Int32)), (.ref b), (.int (0 : Int32)), (.ref a1)])) _
    refine XS.aloadN X4.here hx rfl (hb hby d6_22) rfl rfl ?_
    show Steps p.tables e below (T4.setTop (mkF m 23 #[.val (.ref a1), .val (.int (Int32.ofNat n2)), .val (.ref b)] [(.ref a1), (.int (0 : Int32)), (.ref b), (.int (0 : Int32)), (.ref a1)])) _
    exact κ)
  obtain ⟨cl7, Ar7, -, S7, M7, -, -⟩ := id Va_4
  have pre8 := fun τ (κ : Steps p.tables e below (T4.setTop (mkF m 25 #[.val (.ref a1), .val (.int (Int32.ofNat n2)), .val (.ref b)] [(.int (Int32.ofNat n2)), (.int (Int32.ofNat n1)), (.int (0 : Int32)), (.ref b), (.int (0 : Int32)), (.ref a1)])) τ) => pre6 τ (by
    refine X4.arraylength hx (by rw [e4]; exact Ar7.1) (State.isArrayOf_alike hZ.alike Ar7.2.1) (g := (mkF m 23 #[.val (.ref a1), .val (.int (Int32.ofNat n2)), .val (.ref b)] [(.ref a1), (.int (0 : Int32)), (.ref b), (.int (0 : Int32)), (.ref a1)])) rfl rfl (hb hby d6_23) _ ?_
    rw [len_of S7 M7]
    show Steps p.tables e below (T4.setTop (mkF m 24 #[.val (.ref a1), .val (.int (Int32.ofNat n2)), .val (.ref b)] [(.int (Int32.ofNat n1)), (.int (0 : Int32)), (.ref b), (.int (0 : Int32)), (.ref a1)])) _
    refine XS.iloadN X4.here hx rfl (hb hby d6_24) rfl ?_
    show Steps p.tables e below (T4.setTop (mkF m 25 #[.val (.ref a1), .val (.int (Int32.ofNat n2)), .val (.ref b)] [(.int (Int32.ofNat n2)), (.int (Int32.ofNat n1)), (.int (0 : Int32)), (.ref b), (.int (0 : Int32)), (.ref a1)])) _
    exact κ)
  obtain ⟨_, _, ⟨T9, L9, k9, n9⟩, -, X9, ⟨Lc9, hQ9, l9, y9, z9⟩, st9⟩ := Jvm.LawKit.callS X4 hx (y := (⟨"java/lang/Math", "min", "(II)I"⟩ : MethodName)) hown (mvT hZ (hw _ (List.mem_of_getElem? (i := 33) rfl))) (mvT hZ (hw _ (List.mem_of_getElem? (i := 34) rfl))) (mvT hZ (hw _ (List.mem_of_getElem? (i := 35) rfl))) (mvT hZ (hw _ (List.mem_of_getElem? (i := 36) rfl))) (by decide) (backOf (W := 4) (rm7 l Z a0 hw [] (Int32.ofNat n1) (Int32.ofNat n2) h4 n0 Z4 (fun q => by have := (own_ltN (by omega) (by omega)).mp q; omega)) hZ (hw _ (List.mem_of_getElem? (i := 36) rfl)) (hw _ (List.mem_of_getElem? (i := 35) rfl)) (Nat.le_of_ble_eq_true rfl) (Nat.le_of_ble_eq_true rfl)) (g := (mkF m 25 #[.val (.ref a1), .val (.int (Int32.ofNat n2)), .val (.ref b)] [(.int (Int32.ofNat n2)), (.int (Int32.ofNat n1)), (.int (0 : Int32)), (.ref b), (.int (0 : Int32)), (.ref a1)])) rfl (by rw [hml]; rfl) (argsL := [(.int (Int32.ofNat n1)), (.int (Int32.ofNat n2))]) (rest := [(.int (0 : Int32)), (.ref b), (.int (0 : Int32)), (.ref a1)]) (lenOf pd_0 rfl) rfl (by show 2 * 0 + _ ≤ _; exact Nat.le_of_eq rfl) (hb hby d6_25) (fun _ _ => ⟨rfl, e4, (Nat.le_of_ble_eq_true rfl : 1 + 0 ≤ 1), (by show 0 + n2 + 0 ≤ n2; omega)⟩)
  dsimp only [Pt.U, Pt.locs, Pt.cells, Pt.slots] at X9 l9 y9 z9 st9 hQ9
  subst l9 y9 z9
  obtain ⟨rfl, Nq9, hh9⟩ := hQ9
  have Va_9 : Arv Z T9.heap a1 k0 .int (Int32.ofNat n1) (own_tab f (n1)) (.int (0 : Int32)) := by rw [hh9]; exact Va_4
  have Vb_9 : Arv Z T9.heap b k4 .int (Int32.ofNat n2) (own_tab (fun _ => 0) (n2)) (.int (0 : Int32)) := by rw [hh9]; exact Vb
  have Z9 : n0 ≤ T9.heap.size := by rw [hh9]; exact Z4
  have Kp9 : Keep h0 T9.heap [] := by rw [hh9]; exact Kp4
  have N9 := Fr.app N0 Nq9
  have pre10 := fun τ (κ : Steps p.tables e below (T9.setTop (mkF m 28 #[.val (.ref a1), .val (.int (Int32.ofNat n2)), .val (.ref b)] [(.int (Int32.ofNat n1)), (.int (0 : Int32)), (.ref b), (.int (0 : Int32)), (.ref a1)])) τ) => pre8 τ (st9 _ κ)
  obtain ⟨T11, h11, L11, X11, e11, N11, K11, V11, st11⟩ := cpA X9 hx hZ hown (hw _ (List.mem_of_getElem? (i := 37) rfl)) (hw _ (List.mem_of_getElem? (i := 40) rfl)) (hw _ (List.mem_of_getElem? (i := 38) rfl)) (hw _ (List.mem_of_getElem? (i := 39) rfl)) rfl Va_9 Vb_9 (Or.inl ⟨rfl, rfl⟩) (by decide) (by decide) (own_nn (by omega)) (by rw [own_clamp (by omega)]; show 0 + n1 ≤ n1; omega) (by rw [own_clamp (by omega), own_clamp (by omega)]; show 0 + n1 ≤ n2; omega) rfl (by rw [own_tab_len, own_clamp (by omega)]; show 0 + n1 ≤ n2; omega) N9 g_b (g := (mkF m 28 #[.val (.ref a1), .val (.int (Int32.ofNat n2)), .val (.ref b)] [(.int (Int32.ofNat n1)), (.int (0 : Int32)), (.ref b), (.int (0 : Int32)), (.ref a1)])) rfl (by rw [hml]; rfl) rfl (hb hby d6_28) (Nat.le_of_ble_eq_true rfl) (W := 0) (by show 2 * 0 + _ ≤ _; exact Nat.le_of_eq rfl) (Nat.le_of_ble_eq_true rfl)
  rw [own_copy f (by omega) (by omega)] at V11
  have Kq11 : Keep h0 h11 [] := Kp9.trans K11 (allS (Or.inr sz_b) all0)
  have pre12 := fun τ (κ : Steps p.tables e below (T11.setTop (mkF m 31 #[.val (.ref a1), .val (.int (Int32.ofNat n2)), .val (.ref b)] [])) τ) => pre10 τ (st11 _ κ)
  have pre13 := fun τ (κ : Steps p.tables e below (T11.setTop (mkF m 32 #[.val (.ref a1), .val (.int (Int32.ofNat n2)), .val (.ref b)] [(.ref b)])) τ) => pre12 τ (by
    refine XS.aloadN X11.here hx rfl (hb hby d6_31) rfl rfl ?_
    show Steps p.tables e below (T11.setTop (mkF m 32 #[.val (.ref a1), .val (.int (Int32.ofNat n2)), .val (.ref b)] [(.ref b)])) _
    exact κ)
  obtain ⟨fs, hr, hrun, hended, hW, hsame⟩ := X11.leave (v := some (.ref b)) (fun h => by rw [Bd.returns] at h; cases h)
  refine ⟨_, _, pre13 _ ?_, hrun, hended, _, _, rfl, ?_, ⟨_, rfl⟩, hW, hsame.mono (Nat.le_of_ble_eq_true rfl) (by show 0 + n2 + 0 ≤ n2; omega)⟩
  · jvm_step X11.here [X11.here.top, hx, (hb hby d6_32), X11.method', Bd.returns, Value.isRef, FieldType.isReference]
    first | (intro acts; rw [hr _ acts rfl rfl rfl]) | rw [hr _ _ rfl rfl rfl]
    exact Steps.refl _
  · show Q6 Z a1 n1 n2 k0 f h0 n0 _ T11.heap _
    rw [e11]
    exact ⟨b, k4, rfl, N11, Kq11, V11, sz_b⟩
set_option maxRecDepth 65536 in
set_option maxHeartbeats 40000000 in
theorem loopF {p : Program} {l : Launch} {e : Env} {R : Room} {s : State} {m : MethodId} {args : Array Value} {below : List Frame} {meth : Method} {c : Code} {Z : State} {a0 : Array Value} (hx : p.tables.exec = Jvm.exec) (hZ : Z.Warmed39 s.vm) (hw : ∀ d ∈ tables_1, d.before a0 Z = true) (hby : c.code = prog_101_method_8_code) (hml : c.maxLocals = 2) (hown : s.vm.findClass "com/example/earmark/earmark/ledger/PositionSet" = some m.cls) {n0 : Nat} (sa : Addr) (po ey : Nat) (S : List Nat) (hey : ey ≤ 8) (hpo : po < 2 ^ ey) (hRf : 2 ≤ R.frames) (hRl : 1 + (3 + 11) + 40 ≤ R.locals) :
    ∀ (fu ex : Nat) (T0 : State) (h0 : Heap) (locs : List Loc) (cells slots : Nat), ex + fu = ey → (ex = ey ∨ 2 ^ (ey - 1) ≤ po) → cells + fu ≤ R.cells → slots + (own_G ey - own_G ex) ≤ R.slots → Stand p l e R s m args below meth c T0 locs cells slots → T0.heap = h0 → Fr n0 locs → n0 ≤ h0.size → own_PS Z h0 sa ex S n0 →
      ∃ (T' : State) (h' : Heap) (locs' : List Loc), Stand p l e R s m args below meth c T' locs' (cells + fu) (slots + (own_G ey - own_G ex)) ∧ T'.heap = h' ∧ Fr n0 locs' ∧ n0 ≤ h'.size ∧ own_PS Z h' sa ey S n0 ∧
        ∀ t, Steps p.tables e below (T'.setTop (mkF m 53 #[.val (.ref sa), .val (.int (Int32.ofNat po))] [])) t → Steps p.tables e below (T0.setTop (mkF m 0 #[.val (.ref sa), .val (.int (Int32.ofNat po))] [])) t := by
  intro fu
  induction fu with
  | zero =>
    intro ex T0 h0 locs cells slots hfu hd hce hsl X0 e0 N0 Z0 P0
    have hee : ex = ey := by omega
    have pre0 := fun τ (κ : Steps p.tables e below (T0.setTop (mkF m 0 #[.val (.ref sa), .val (.int (Int32.ofNat po))] [])) τ) => κ
    have P1 := P0
    obtain ⟨ta, k0, f, E_s, Fc, Fk, Fz, Va, hf, hS, he8, gs, gt, hst⟩ := P0
    have hp8 := own_pow8 he8
    have hpy := own_pow8 hey
    have pre1 := fun τ (κ : Steps p.tables e below (T0.setTop (mkF m 2 #[.val (.ref sa), .val (.int (Int32.ofNat po))] [(.ref sa), (.int (Int32.ofNat po))])) τ) => pre0 τ (by
      refine XS.iloadN X0.here hx rfl (hb hby d4_0) rfl ?_
      show Steps p.tables e below (T0.setTop (mkF m 1 #[.val (.ref sa), .val (.int (Int32.ofNat po))] [(.int (Int32.ofNat po))])) _
      refine XS.aloadN X0.here hx rfl (hb hby d4_1) rfl rfl ?_
      show Steps p.tables e below (T0.setTop (mkF m 2 #[.val (.ref sa), .val (.int (Int32.ofNat po))] [(.ref sa), (.int (Int32.ofNat po))])) _
      exact κ)
    obtain ⟨T2, X2, e2, st2⟩ := getF X0 hx hZ hown (host := "") (Or.inl (hw _ (List.mem_of_getElem? (i := 12) rfl))) Via.refl e0 Fk (g := (mkF m 2 #[.val (.ref sa), .val (.int (Int32.ofNat po))] [(.ref sa), (.int (Int32.ofNat po))])) rfl rfl (hb hby d4_2)
    have pre3 := fun τ (κ : Steps p.tables e below (T2.setTop (mkF m 5 #[.val (.ref sa), .val (.int (Int32.ofNat po))] [(.int (Int32.ofNat (2 ^ ex))), (.int (Int32.ofNat po))])) τ) => pre1 τ (st2 _ κ)
    have pre4 := fun τ (κ : Steps p.tables e below (T2.setTop (mkF m 53 #[.val (.ref sa), .val (.int (Int32.ofNat po))] [])) τ) => pre3 τ (by
      refine XS.icmpYes X2.here hx rfl (pc0 := 5) (pc' := 53) rfl (hb hby d4_5) rfl (tlt ((own_ltN (by omega) (by omega)).mpr (by rw [hee]; exact hpo))).1 (by decide) (by decide) ?_
      show Steps p.tables e below (T2.setTop (mkF m 53 #[.val (.ref sa), .val (.int (Int32.ofNat po))] [])) _
      exact κ)
    rw [← hee]
    exact ⟨T2, h0, locs, X2.more (by omega) (by omega), e2, N0, Z0, P1, pre4⟩
  | succ fu ih =>
    intro ex T0 h0 locs cells slots hfu hd hce hsl X0 e0 N0 Z0 P0
    have pre0 := fun τ (κ : Steps p.tables e below (T0.setTop (mkF m 0 #[.val (.ref sa), .val (.int (Int32.ofNat po))] [])) τ) => κ
    obtain ⟨ta, k0, f, E_s, Fc, Fk, Fz, Va, hf, hS, he8, gs, gt, hst⟩ := P0
    have hp8 := own_pow8 he8
    have hpy := own_pow8 hey
    have hlt : ex < ey := by omega
    have hnp := own_fitlt hlt hd
    have h2 : 2 ^ (ex + 1) = 2 * 2 ^ ex := by rw [Nat.pow_succ, Nat.mul_comm]
    have hp9 := own_pow8 (e := ex + 1) (by omega)
    have hG : own_G ex + (2 ^ (ex + 1) + 1) ≤ own_G ey := own_G_mono (a := ex + 1) hlt
    have pre1 := fun τ (κ : Steps p.tables e below (T0.setTop (mkF m 2 #[.val (.ref sa), .val (.int (Int32.ofNat po))] [(.ref sa), (.int (Int32.ofNat po))])) τ) => pre0 τ (by
      refine XS.iloadN X0.here hx rfl (hb hby d4_0) rfl ?_
      show Steps p.tables e below (T0.setTop (mkF m 1 #[.val (.ref sa), .val (.int (Int32.ofNat po))] [(.int (Int32.ofNat po))])) _
      refine XS.aloadN X0.here hx rfl (hb hby d4_1) rfl rfl ?_
      show Steps p.tables e below (T0.setTop (mkF m 2 #[.val (.ref sa), .val (.int (Int32.ofNat po))] [(.ref sa), (.int (Int32.ofNat po))])) _
      exact κ)
    obtain ⟨T2, X2, e2, st2⟩ := getF X0 hx hZ hown (host := "") (Or.inl (hw _ (List.mem_of_getElem? (i := 12) rfl))) Via.refl e0 Fk (g := (mkF m 2 #[.val (.ref sa), .val (.int (Int32.ofNat po))] [(.ref sa), (.int (Int32.ofNat po))])) rfl rfl (hb hby d4_2)
    have pre3 := fun τ (κ : Steps p.tables e below (T2.setTop (mkF m 5 #[.val (.ref sa), .val (.int (Int32.ofNat po))] [(.int (Int32.ofNat (2 ^ ex))), (.int (Int32.ofNat po))])) τ) => pre1 τ (st2 _ κ)
    have pre4 := fun τ (κ : Steps p.tables e below (T2.setTop (mkF m 10 #[.val (.ref sa), .val (.int (Int32.ofNat po))] [(.ref sa), (.ref sa)])) τ) => pre3 τ (by
      refine XS.icmpNo X2.here hx rfl (hb hby d4_5) rfl (flt (fun q => hnp ((own_ltN (by omega) (by omega)).mp q))).1 ?_
      show Steps p.tables e below (T2.setTop (mkF m 8 #[.val (.ref sa), .val (.int (Int32.ofNat po))] [])) _
      refine XS.aloadN X2.here hx rfl (hb hby d4_8) rfl rfl ?_
      show Steps p.tables e below (T2.setTop (mkF m 9 #[.val (.ref sa), .val (.int (Int32.ofNat po))] [(.ref sa)])) _
      refine XS.aloadN X2.here hx rfl (hb hby d4_9) rfl rfl ?_
      show Steps p.tables e below (T2.setTop (mkF m 10 #[.val (.ref sa), .val (.int (Int32.ofNat po))] [(.ref sa), (.ref sa)])) _
      exact κ)
    obtain ⟨T5, X5, e5, st5⟩ := getF X2 hx hZ hown (host := "") (Or.inl (hw _ (List.mem_of_getElem? (i := 10) rfl))) Via.refl e2 Fc (g := (mkF m 10 #[.val (.ref sa), .val (.int (Int32.ofNat po))] [(.ref sa), (.ref sa)])) rfl rfl (hb hby d4_10)
    have pre6 := fun τ (κ : Steps p.tables e below (T5.setTop (mkF m 13 #[.val (.ref sa), .val (.int (Int32.ofNat po))] [(.ref ta), (.ref sa)])) τ) => pre4 τ (st5 _ κ)
    have pre7 := fun τ (κ : Steps p.tables e below (T5.setTop (mkF m 14 #[.val (.ref sa), .val (.int (Int32.ofNat po))] [(.ref sa), (.ref ta), (.ref sa)])) τ) => pre6 τ (by
      refine XS.aloadN X5.here hx rfl (hb hby d4_13) rfl rfl ?_
      show Steps p.tables e below (T5.setTop (mkF m 14 #[.val (.ref sa), .val (.int (Int32.ofNat po))] [(.ref sa), (.ref ta), (.ref sa)])) _
      exact κ)
    obtain ⟨T8, X8, e8, st8⟩ := getF X5 hx hZ hown (host := "") (Or.inl (hw _ (List.mem_of_getElem? (i := 12) rfl))) Via.refl e5 Fk (g := (mkF m 14 #[.val (.ref sa), .val (.int (Int32.ofNat po))] [(.ref sa), (.ref ta), (.ref sa)])) rfl rfl (hb hby d4_14)
    have pre9 := fun τ (κ : Steps p.tables e below (T8.setTop (mkF m 17 #[.val (.ref sa), .val (.int (Int32.ofNat po))] [(.int (Int32.ofNat (2 ^ ex))), (.ref ta), (.ref sa)])) τ) => pre7 τ (st8 _ κ)
    have pre10 := fun τ (κ : Steps p.tables e below (T8.setTop (mkF m 19 #[.val (.ref sa), .val (.int (Int32.ofNat po))] [(.int ((Int32.ofNat (2 ^ ex)) * (2 : Int32))), (.ref ta), (.ref sa)])) τ) => pre9 τ (by
      refine XS.iconst X8.here hx rfl (hb hby d4_17) ?_
      show Steps p.tables e below (T8.setTop (mkF m 18 #[.val (.ref sa), .val (.int (Int32.ofNat po))] [(.int (2 : Int32)), (.int (Int32.ofNat (2 ^ ex))), (.ref ta), (.ref sa)])) _
      refine XS.imul X8.here hx rfl (hb hby d4_18) rfl ?_
      show Steps p.tables e below (T8.setTop (mkF m 19 #[.val (.ref sa), .val (.int (Int32.ofNat po))] [(.int ((Int32.ofNat (2 ^ ex)) * (2 : Int32))), (.ref ta), (.ref sa)])) _
      exact κ)
    rw [show ((Int32.ofNat (2 ^ ex)) * (2 : Int32)) = (Int32.ofNat (2 ^ (ex + 1))) from (by rw [h2, Nat.mul_comm]; exact own_mulN _ 2)] at pre10
    have pre11 := fun τ (κ : Steps p.tables e below (T8.setTop (mkF m 21 #[.val (.ref sa), .val (.int (Int32.ofNat po))] [(.int ((Int32.ofNat (2 ^ (ex + 1))) + (1 : Int32))), (.ref ta), (.ref sa)])) τ) => pre10 τ (by
      refine XS.iconst X8.here hx rfl (hb hby d4_19) ?_
      show Steps p.tables e below (T8.setTop (mkF m 20 #[.val (.ref sa), .val (.int (Int32.ofNat po))] [(.int (1 : Int32)), (.int (Int32.ofNat (2 ^ (ex + 1)))), (.ref ta), (.ref sa)])) _
      refine XS.iadd X8.here hx rfl (hb hby d4_20) rfl ?_
      show Steps p.tables e below (T8.setTop (mkF m 21 #[.val (.ref sa), .val (.int (Int32.ofNat po))] [(.int ((Int32.ofNat (2 ^ (ex + 1))) + (1 : Int32))), (.ref ta), (.ref sa)])) _
      exact κ)
    rw [show ((Int32.ofNat (2 ^ (ex + 1))) + (1 : Int32)) = (Int32.ofNat (2 ^ (ex + 1) + 1)) from (own_addN _ 1)] at pre11
    obtain ⟨_, _, ⟨T12, L12, k12, n12⟩, -, X12, ⟨Lc12, hQ12, l12, y12, z12⟩, st12⟩ := Jvm.LawKit.callS X8 hx (y := (⟨"java/util/Arrays", "copyOf", "([II)[I"⟩ : MethodName)) hown (mvT hZ (hw _ (List.mem_of_getElem? (i := 29) rfl))) (mvT hZ (hw _ (List.mem_of_getElem? (i := 30) rfl))) (mvT hZ (hw _ (List.mem_of_getElem? (i := 31) rfl))) (mvT hZ (hw _ (List.mem_of_getElem? (i := 32) rfl))) (by decide) (backOf (W := 1) (rm6 l Z a0 hw [] ta (2 ^ ex + 1) (2 ^ (ex + 1) + 1) k0 f h0 n0 Z0 Va (by omega) (by omega)) hZ (hw _ (List.mem_of_getElem? (i := 32) rfl)) (hw _ (List.mem_of_getElem? (i := 31) rfl)) hRf hRl) (g := (mkF m 21 #[.val (.ref sa), .val (.int (Int32.ofNat po))] [(.int (Int32.ofNat (2 ^ (ex + 1) + 1))), (.ref ta), (.ref sa)])) rfl (by rw [hml]; rfl) (argsL := [(.ref ta), (.int (Int32.ofNat (2 ^ (ex + 1) + 1)))]) (rest := [(.ref sa)]) (lenOf pd_1 rfl) rfl (by show 2 * 0 + _ ≤ _; exact Nat.le_of_eq rfl) (hb hby d4_21) (fun _ _ => ⟨rfl, e8, (by show cells + 1 ≤ R.cells; omega), (by show slots + (2 ^ (ex + 1) + 1) ≤ R.slots; omega)⟩)
    dsimp only [Pt.U, Pt.locs, Pt.cells, Pt.slots] at X12 l12 y12 z12 st12 hQ12
    subst l12 y12 z12
    obtain ⟨nb, kb, rfl, Nq12, K12, Vn12, sn12⟩ := hQ12
    have E_s_12 : Exa Z T12.heap sa "com/example/earmark/earmark/ledger/PositionSet" := E_s.keep K12
    have Fc_12 : Fld Z T12.heap sa "com/example/earmark/earmark/ledger/PositionSet" "counts" "[I" (.ref ta) := Fc.keep K12 nin0
    have Fk_12 : Fld Z T12.heap sa "com/example/earmark/earmark/ledger/PositionSet" "capacity" "I" (.int (Int32.ofNat (2 ^ ex))) := Fk.keep K12 nin0
    have Fz_12 : Fld Z T12.heap sa "com/example/earmark/earmark/ledger/PositionSet" "size" "I" (.int (Int32.ofNat S.length)) := Fz.keep K12 nin0
    have Va_12 : Arv Z T12.heap ta k0 .int (Int32.ofNat (2 ^ ex + 1)) (own_tab f (2 ^ ex + 1)) (.int (0 : Int32)) := Va.keep K12 nin0
    have Z12 : n0 ≤ T12.heap.size := Nat.le_trans Z0 K12.1
    have N12 := Fr.app N0 Nq12
    have pre13 := fun τ (κ : Steps p.tables e below (T12.setTop (mkF m 24 #[.val (.ref sa), .val (.int (Int32.ofNat po))] [(.ref nb), (.ref sa)])) τ) => pre11 τ (st12 _ κ)
    have gb : n0 ≤ nb := Nat.le_trans Z0 sn12
    have ne_sa_nb : sa ≠ nb := Nat.ne_of_lt (Nat.lt_of_lt_of_le Fz.lt sn12)
    obtain ⟨T14, h14, X14, e14, W14, st14⟩ := putF X12 hx hZ hown (host := "") (Or.inl (hw _ (List.mem_of_getElem? (i := 10) rfl))) Via.refl rfl Fc_12 E_s_12 (Or.inl (hw _ (List.mem_of_getElem? (i := 11) rfl))) (hw _ (List.mem_of_getElem? (i := 1) rfl)) (ty := (.array .int)) (by decide) rfl rfl (g := (mkF m 24 #[.val (.ref sa), .val (.int (Int32.ofNat po))] [(.ref nb), (.ref sa)])) rfl rfl (hb hby d4_24)
    have E_s_14 : Exa Z h14 sa "com/example/earmark/earmark/ledger/PositionSet" := E_s_12.wr W14
    have Fk_14 : Fld Z h14 sa "com/example/earmark/earmark/ledger/PositionSet" "capacity" "I" (.int (Int32.ofNat (2 ^ ex))) := Fk_12.other W14 (Or.inr (slot_ne (Or.inl (hw _ (List.mem_of_getElem? (i := 13) rfl))) (Or.inl (hw _ (List.mem_of_getElem? (i := 11) rfl))) (by decide) (t := .int) (t' := (.array .int)) (by decide) (by decide)))
    have Fz_14 : Fld Z h14 sa "com/example/earmark/earmark/ledger/PositionSet" "size" "I" (.int (Int32.ofNat S.length)) := Fz_12.other W14 (Or.inr (slot_ne (Or.inl (hw _ (List.mem_of_getElem? (i := 28) rfl))) (Or.inl (hw _ (List.mem_of_getElem? (i := 11) rfl))) (by decide) (t := .int) (t' := (.array .int)) (by decide) (by decide)))
    have Vn12_14 : Arv Z h14 nb kb .int (Int32.ofNat (2 ^ (ex + 1) + 1)) (own_tab (fun j => if j < 2 ^ ex + 1 then f j else 0) (2 ^ (ex + 1) + 1)) (.int (0 : Int32)) := Vn12.other W14 (Ne.symm ne_sa_nb)
    have N14 := Fr.snoc X14 N12 gs
    have Z14 : n0 ≤ h14.size := Nat.le_trans Z12 (Keep.of_wr W14).1
    have F_counts_sa_14 : Fld Z h14 sa "com/example/earmark/earmark/ledger/PositionSet" "counts" "[I" (.ref nb) := Fc_12.same W14
    have pre15 := fun τ (κ : Steps p.tables e below (T14.setTop (mkF m 27 #[.val (.ref sa), .val (.int (Int32.ofNat po))] [])) τ) => pre13 τ (st14 _ κ)
    have pre16 := fun τ (κ : Steps p.tables e below (T14.setTop (mkF m 29 #[.val (.ref sa), .val (.int (Int32.ofNat po))] [(.ref sa), (.ref sa)])) τ) => pre15 τ (by
      refine XS.aloadN X14.here hx rfl (hb hby d4_27) rfl rfl ?_
      show Steps p.tables e below (T14.setTop (mkF m 28 #[.val (.ref sa), .val (.int (Int32.ofNat po))] [(.ref sa)])) _
      refine XS.dup X14.here hx rfl (hb hby d4_28) rfl rfl ?_
      show Steps p.tables e below (T14.setTop (mkF m 29 #[.val (.ref sa), .val (.int (Int32.ofNat po))] [(.ref sa), (.ref sa)])) _
      exact κ)
    obtain ⟨T17, X17, e17, st17⟩ := getF X14 hx hZ hown (host := "") (Or.inl (hw _ (List.mem_of_getElem? (i := 12) rfl))) Via.refl e14 Fk_14 (g := (mkF m 29 #[.val (.ref sa), .val (.int (Int32.ofNat po))] [(.ref sa), (.ref sa)])) rfl rfl (hb hby d4_29)
    have pre18 := fun τ (κ : Steps p.tables e below (T17.setTop (mkF m 32 #[.val (.ref sa), .val (.int (Int32.ofNat po))] [(.int (Int32.ofNat (2 ^ ex))), (.ref sa)])) τ) => pre16 τ (st17 _ κ)
    have pre19 := fun τ (κ : Steps p.tables e below (T17.setTop (mkF m 34 #[.val (.ref sa), .val (.int (Int32.ofNat po))] [(.int ((Int32.ofNat (2 ^ ex)) * (2 : Int32))), (.ref sa)])) τ) => pre18 τ (by
      refine XS.iconst X17.here hx rfl (hb hby d4_32) ?_
      show Steps p.tables e below (T17.setTop (mkF m 33 #[.val (.ref sa), .val (.int (Int32.ofNat po))] [(.int (2 : Int32)), (.int (Int32.ofNat (2 ^ ex))), (.ref sa)])) _
      refine XS.imul X17.here hx rfl (hb hby d4_33) rfl ?_
      show Steps p.tables e below (T17.setTop (mkF m 34 #[.val (.ref sa), .val (.int (Int32.ofNat po))] [(.int ((Int32.ofNat (2 ^ ex)) * (2 : Int32))), (.ref sa)])) _
      exact κ)
    rw [show ((Int32.ofNat (2 ^ ex)) * (2 : Int32)) = (Int32.ofNat (2 ^ (ex + 1))) from (by rw [h2, Nat.mul_comm]; exact own_mulN _ 2)] at pre19
    obtain ⟨T20, h20, X20, e20, W20, st20⟩ := putF X17 hx hZ hown (host := "") (Or.inl (hw _ (List.mem_of_getElem? (i := 12) rfl))) Via.refl e17 Fk_14 E_s_14 (Or.inl (hw _ (List.mem_of_getElem? (i := 13) rfl))) (hw _ (List.mem_of_getElem? (i := 1) rfl)) (ty := .int) (by decide) rfl rfl (g := (mkF m 34 #[.val (.ref sa), .val (.int (Int32.ofNat po))] [(.int (Int32.ofNat (2 ^ (ex + 1)))), (.ref sa)])) rfl rfl (hb hby d4_34)
    have E_s_20 : Exa Z h20 sa "com/example/earmark/earmark/ledger/PositionSet" := E_s_14.wr W20
    have Fz_20 : Fld Z h20 sa "com/example/earmark/earmark/ledger/PositionSet" "size" "I" (.int (Int32.ofNat S.length)) := Fz_14.other W20 (Or.inr (slot_ne (Or.inl (hw _ (List.mem_of_getElem? (i := 28) rfl))) (Or.inl (hw _ (List.mem_of_getElem? (i := 13) rfl))) (by decide) (t := .int) (t' := .int) (by decide) (by decide)))
    have Vn12_20 : Arv Z h20 nb kb .int (Int32.ofNat (2 ^ (ex + 1) + 1)) (own_tab (fun j => if j < 2 ^ ex + 1 then f j else 0) (2 ^ (ex + 1) + 1)) (.int (0 : Int32)) := Vn12_14.other W20 (Ne.symm ne_sa_nb)
    have F_counts_sa_20 : Fld Z h20 sa "com/example/earmark/earmark/ledger/PositionSet" "counts" "[I" (.ref nb) := F_counts_sa_14.other W20 (Or.inr (slot_ne (Or.inl (hw _ (List.mem_of_getElem? (i := 11) rfl))) (Or.inl (hw _ (List.mem_of_getElem? (i := 13) rfl))) (by decide) (t := (.array .int)) (t' := .int) (by decide) (by decide)))
    have N20 := Fr.snoc X20 N14 gs
    have Z20 : n0 ≤ h20.size := Nat.le_trans Z14 (Keep.of_wr W20).1
    have F_capacity_sa_20 : Fld Z h20 sa "com/example/earmark/earmark/ledger/PositionSet" "capacity" "I" (.int (Int32.ofNat (2 ^ (ex + 1)))) := Fk_14.same W20
    have pre21 := fun τ (κ : Steps p.tables e below (T20.setTop (mkF m 37 #[.val (.ref sa), .val (.int (Int32.ofNat po))] [])) τ) => pre19 τ (st20 _ κ)
    have pre22 := fun τ (κ : Steps p.tables e below (T20.setTop (mkF m 38 #[.val (.ref sa), .val (.int (Int32.ofNat po))] [(.ref sa)])) τ) => pre21 τ (by
      refine XS.aloadN X20.here hx rfl (hb hby d4_37) rfl rfl ?_
      show Steps p.tables e below (T20.setTop (mkF m 38 #[.val (.ref sa), .val (.int (Int32.ofNat po))] [(.ref sa)])) _
      exact κ)
    obtain ⟨T23, X23, e23, st23⟩ := getF X20 hx hZ hown (host := "") (Or.inl (hw _ (List.mem_of_getElem? (i := 10) rfl))) Via.refl e20 F_counts_sa_20 (g := (mkF m 38 #[.val (.ref sa), .val (.int (Int32.ofNat po))] [(.ref sa)])) rfl rfl (hb hby d4_38)
    have pre24 := fun τ (κ : Steps p.tables e below (T23.setTop (mkF m 41 #[.val (.ref sa), .val (.int (Int32.ofNat po))] [(.ref nb)])) τ) => pre22 τ (st23 _ κ)
    have pre25 := fun τ (κ : Steps p.tables e below (T23.setTop (mkF m 42 #[.val (.ref sa), .val (.int (Int32.ofNat po))] [(.ref sa), (.ref nb)])) τ) => pre24 τ (by
      refine XS.aloadN X23.here hx rfl (hb hby d4_41) rfl rfl ?_
      show Steps p.tables e below (T23.setTop (mkF m 42 #[.val (.ref sa), .val (.int (Int32.ofNat po))] [(.ref sa), (.ref nb)])) _
      exact κ)
    obtain ⟨T26, X26, e26, st26⟩ := getF X23 hx hZ hown (host := "") (Or.inl (hw _ (List.mem_of_getElem? (i := 12) rfl))) Via.refl e23 F_capacity_sa_20 (g := (mkF m 42 #[.val (.ref sa), .val (.int (Int32.ofNat po))] [(.ref sa), (.ref nb)])) rfl rfl (hb hby d4_42)
    have pre27 := fun τ (κ : Steps p.tables e below (T26.setTop (mkF m 45 #[.val (.ref sa), .val (.int (Int32.ofNat po))] [(.int (Int32.ofNat (2 ^ (ex + 1)))), (.ref nb)])) τ) => pre25 τ (st26 _ κ)
    have pre28 := fun τ (κ : Steps p.tables e below (T26.setTop (mkF m 46 #[.val (.ref sa), .val (.int (Int32.ofNat po))] [(.ref sa), (.int (Int32.ofNat (2 ^ (ex + 1)))), (.ref nb)])) τ) => pre27 τ (by
      refine XS.aloadN X26.here hx rfl (hb hby d4_45) rfl rfl ?_
      show Steps p.tables e below (T26.setTop (mkF m 46 #[.val (.ref sa), .val (.int (Int32.ofNat po))] [(.ref sa), (.int (Int32.ofNat (2 ^ (ex + 1)))), (.ref nb)])) _
      exact κ)
    obtain ⟨T29, X29, e29, st29⟩ := getF X26 hx hZ hown (host := "") (Or.inl (hw _ (List.mem_of_getElem? (i := 27) rfl))) Via.refl e26 Fz_20 (g := (mkF m 46 #[.val (.ref sa), .val (.int (Int32.ofNat po))] [(.ref sa), (.int (Int32.ofNat (2 ^ (ex + 1)))), (.ref nb)])) rfl rfl (hb hby d4_46)
    have pre30 := fun τ (κ : Steps p.tables e below (T29.setTop (mkF m 49 #[.val (.ref sa), .val (.int (Int32.ofNat po))] [(.int (Int32.ofNat S.length)), (.int (Int32.ofNat (2 ^ (ex + 1)))), (.ref nb)])) τ) => pre28 τ (st29 _ κ)
    have hj9 : (Int32.ofNat (2 ^ (ex + 1))).toNatClampNeg = 2 ^ (ex + 1) := own_clamp (by omega)
    have hi9 : 2 ^ (ex + 1) < (own_tab (fun j => if j < 2 ^ ex + 1 then f j else 0) (2 ^ (ex + 1) + 1)).length := by rw [own_tab_len]; omega
    obtain ⟨cl31, Ar31, q31, S31, M31, H31, G31⟩ := id Vn12_20
    have in31 : ¬ ((Int32.ofNat (2 ^ (ex + 1))) < 0 ∨ cl31.slots.size ≤ ((Int32.ofNat (2 ^ (ex + 1)))).toNatClampNeg) := inb_of S31 ⟨own_nn (by omega), (own_ltN (by omega) (by omega)).mpr (by omega)⟩
    obtain ⟨T32, h32, X32, e32, W32, st32⟩ := stI X29 hx hZ e29 Ar31 (j := (Int32.ofNat (2 ^ (ex + 1)))) in31 (g := (mkF m 49 #[.val (.ref sa), .val (.int (Int32.ofNat po))] [(.int (Int32.ofNat S.length)), (.int (Int32.ofNat (2 ^ (ex + 1)))), (.ref nb)])) rfl rfl (hb hby d4_49)
    have E_s_32 : Exa Z h32 sa "com/example/earmark/earmark/ledger/PositionSet" := E_s_20.wr W32
    have Fz_32 : Fld Z h32 sa "com/example/earmark/earmark/ledger/PositionSet" "size" "I" (.int (Int32.ofNat S.length)) := Fz_20.other W32 (Or.inl ne_sa_nb)
    have F_counts_sa_32 : Fld Z h32 sa "com/example/earmark/earmark/ledger/PositionSet" "counts" "[I" (.ref nb) := F_counts_sa_20.other W32 (Or.inl ne_sa_nb)
    have F_capacity_sa_32 : Fld Z h32 sa "com/example/earmark/earmark/ledger/PositionSet" "capacity" "I" (.int (Int32.ofNat (2 ^ (ex + 1)))) := F_capacity_sa_20.other W32 (Or.inl ne_sa_nb)
    have N32 := Fr.snoc X32 N20 gb
    have Z32 : n0 ≤ h32.size := Nat.le_trans Z20 (Keep.of_wr W32).1
    have V_nb_32 : Arv Z h32 nb kb .int (Int32.ofNat (2 ^ (ex + 1) + 1)) (own_tab (fun j => if j = 2 ^ (ex + 1) then Int32.ofNat S.length else if j < 2 ^ ex + 1 then f j else 0) (2 ^ (ex + 1) + 1)) (.int (0 : Int32)) := (own_tab_set (fun j => if j < 2 ^ ex + 1 then f j else 0) (2 ^ (ex + 1) + 1) (2 ^ (ex + 1)) (Int32.ofNat S.length)) ▸ (Arv.set Ar31 q31 S31 M31 H31 G31 rfl W32 (2 ^ (ex + 1)) (by first | rfl | assumption) (by assumption))
    have pre33 := fun τ (κ : Steps p.tables e below (T32.setTop (mkF m 50 #[.val (.ref sa), .val (.int (Int32.ofNat po))] [])) τ) => pre30 τ (st32 _ κ)
    have pre34 := fun τ (κ : Steps p.tables e below (T32.setTop (mkF m 0 #[.val (.ref sa), .val (.int (Int32.ofNat po))] [])) τ) => pre33 τ (by
      refine XS.goto X32.here hx rfl (pc0 := 50) (pc' := 0) rfl (hb hby d4_50) (by decide) (by decide) ?_
      show Steps p.tables e below (T32.setTop (mkF m 0 #[.val (.ref sa), .val (.int (Int32.ofNat po))] [])) _
      exact κ)
    have hd' : ex + 1 = ey ∨ 2 ^ (ey - 1) ≤ po := by
      rcases hd with q | q
      · omega
      · exact Or.inr q
    obtain ⟨T', h', lo', X', e', N', Z', P', st⟩ := ih (ex + 1) _ _ _ _ _ (by omega) hd' (by omega) (by show _ ≤ _; simp only [own_G]; omega) X32 e32 N32 Z32 ⟨nb, kb, _, E_s_32, F_counts_sa_32, F_capacity_sa_32, Fz_32, V_nb_32, own_dbl (by omega) hf hS, fun p hp => by have := hS p hp; omega, by omega, gs, gb, ne_sa_nb⟩
    exact ⟨T', h', lo', X'.more (by omega) (by simp only [own_G] at *; omega), e', N', Z', P', fun τ κ => pre34 τ (st τ κ)⟩
theorem ef_4 (m : MethodId) (a1 : Addr) (po : Nat) (ex : Nat) (ey : Nat) : entryFrame m #[(.ref a1), (.int (Int32.ofNat po))] 2 = mkF m 0 #[.val (.ref a1), .val (.int (Int32.ofNat po))] [] := by first | (simp [entryFrame, mkF, argsToLocals, Value.category]; done) | rfl
def Q4 (Z : State) (a1 : Addr) (po : Nat) (ex : Nat) (ey : Nat) (S : List Nat) (h0 : Heap) (n0 : Nat) (v : Option Value) (h : Heap) (L : List Loc) : Prop := v = none ∧ Fr n0 L ∧ own_PS Z h a1 ey S n0
set_option maxRecDepth 65536 in
set_option maxHeartbeats 40000000 in
theorem rm4 (l : Launch) (Z : State) (a0 : Array Value) (hw : ∀ d ∈ tables_1, d.before a0 Z = true) (ws : List Jvm.Cond) (a1 : Addr) (po : Nat) (ex : Nat) (ey : Nat) (S : List Nat) (h0 : Heap) (n0 : Nat) (Z0 : n0 ≤ h0.size) (P0 : own_PS Z h0 a1 ex S n0) (hey : ey ≤ 8) (hpo : po < 2 ^ ey) (hle : ex ≤ ey) (hd : ex = ey ∨ 2 ^ (ey - 1) ≤ po) :
    MetFree l (⟨"com/example/earmark/earmark/ledger/PositionSet", "fit", "(I)V"⟩ : MethodName) (head1 (Jvm.Cond.code (⟨"com/example/earmark/earmark/ledger/PositionSet", "fit", "(I)V"⟩ : MethodName) prog_101_method_8_code 2 none :: ws) ({ frames := 2, cells := (ey - ex), slots := (own_G ey - own_G ex), locals := 55 } : Room)) (fun α υ => α = #[(.ref a1), (.int (Int32.ofNat po))] ∧ Z.Warmed39 υ.vm ∧ υ.heap = h0) (fun _ _ _ _ _ => True) (fun _ υ ω υ' => ∃ v L, ω = .returned v ∧ Q4 Z a1 po ex ey S h0 n0 v υ'.heap L ∧ FrameEnd υ ω υ' L ({ frames := 2, cells := (ey - ex), slots := (own_G ey - own_G ex), locals := 55 } : Room).cells ({ frames := 2, cells := (ey - ex), slots := (own_G ey - own_G ex), locals := 55 } : Room).slots) := by
  refine MetFree.of_bodySF (plainFor_of_name pn_com_example_earmark_earmark_ledger_PositionSet) hisR ?_
  intro p e s m args below meth c s₁ Bd hml0 hP hK
  obtain ⟨rfl, hZ, hh⟩ := hP
  have hx := Bd.exec
  have hby := Bd.bytes
  have hml : c.maxLocals = 2 := hml0
  have hown : s.vm.findClass "com/example/earmark/earmark/ledger/PositionSet" = some m.cls := findClass_of_methodNamed Bd.named
  have hnm := (name_of_methodNamed Bd.named Bd.method).1
  have X0 : Stand p l e ({ frames := 2, cells := (ey - ex), slots := (own_G ey - own_G ex), locals := 55 } : Room) s m #[(.ref a1), (.int (Int32.ofNat po))] below meth c s₁ [] 0 0 := Stand.of_body Bd
  have e0 : s₁.heap = h0 := by rw [← hh, Bd.state]; rfl
  have N0 := Fr.nil n0
  have pre0 : ∀ τ, Steps p.tables e below (s₁.setTop (mkF m 0 #[.val (.ref a1), .val (.int (Int32.ofNat po))] [])) τ → Steps p.tables e below (s₁.setTop (entryFrame m #[(.ref a1), (.int (Int32.ofNat po))] 2)) τ := fun τ κ => castTop (ef_4 m a1 po ex ey) κ
  obtain ⟨T9, h9, lo9, X9, e9, N9, Z9, P9, st9⟩ := loopF hx hZ hw hby hml hown a1 po ey S hey hpo (Nat.le_of_ble_eq_true rfl) (Nat.le_of_ble_eq_true rfl) (ey - ex) ex _ _ _ 0 0 (by omega) hd (by show 0 + (ey - ex) ≤ ey - ex; omega) (by show 0 + (own_G ey - own_G ex) ≤ own_G ey - own_G ex; omega) X0 e0 N0 Z0 P0
  have pre99 := fun τ (κ : Steps p.tables e below (T9.setTop (mkF m 53 #[.val (.ref a1), .val (.int (Int32.ofNat po))] [])) τ) => pre0 τ (st9 τ κ)
  obtain ⟨fs, hr, hrun, hended, hW, hsame⟩ := X9.leave (v := none) (fun _ => rfl)
  refine ⟨_, _, pre99 _ ?_, hrun, hended, _, _, rfl, ?_, ⟨_, rfl⟩, hW, hsame.mono (by show 0 + (ey - ex) ≤ ey - ex; omega) (by show 0 + (own_G ey - own_G ex) ≤ own_G ey - own_G ex; omega)⟩
  · exact X9.returnOut hx Bd.returns (hb hby d4_53) hr
  · show Q4 Z a1 po ex ey S h0 n0 _ T9.heap _
    rw [e9]
    exact ⟨rfl, N9, P9⟩
theorem ef_3 (m : MethodId) (a1 : Addr) (po : Nat) (ex : Nat) (ey : Nat) : entryFrame m #[(.ref a1), (.int (Int32.ofNat po))] 2 = mkF m 0 #[.val (.ref a1), .val (.int (Int32.ofNat po))] [] := by first | (simp [entryFrame, mkF, argsToLocals, Value.category]; done) | rfl
def Q3 (Z : State) (a1 : Addr) (po : Nat) (ex : Nat) (ey : Nat) (S : List Nat) (h0 : Heap) (n0 : Nat) (v : Option Value) (h : Heap) (L : List Loc) : Prop := v = none ∧ Fr n0 L ∧ own_PS Z h a1 ey (po :: S) n0
set_option maxRecDepth 65536 in
set_option maxHeartbeats 40000000 in
theorem rm3 (l : Launch) (Z : State) (a0 : Array Value) (hw : ∀ d ∈ tables_1, d.before a0 Z = true) (ws : List Jvm.Cond) (a1 : Addr) (po : Nat) (ex : Nat) (ey : Nat) (S : List Nat) (h0 : Heap) (n0 : Nat) (Z0 : n0 ≤ h0.size) (P0 : own_PS Z h0 a1 ex S n0) (hey : ey ≤ 8) (hpo : po < 2 ^ ey) (hle : ex ≤ ey) (hd : ex = ey ∨ 2 ^ (ey - 1) ≤ po) :
    MetFree l (⟨"com/example/earmark/earmark/ledger/PositionSet", "add", "(I)V"⟩ : MethodName) (head1 (Jvm.Cond.code (⟨"com/example/earmark/earmark/ledger/PositionSet", "add", "(I)V"⟩ : MethodName) prog_101_method_2_code 2 none :: ws) ({ frames := 3, cells := (ey - ex), slots := (own_G ey - own_G ex), locals := 68 } : Room)) (fun α υ => α = #[(.ref a1), (.int (Int32.ofNat po))] ∧ Z.Warmed39 υ.vm ∧ υ.heap = h0) (fun _ _ _ _ _ => True) (fun _ υ ω υ' => ∃ v L, ω = .returned v ∧ Q3 Z a1 po ex ey S h0 n0 v υ'.heap L ∧ FrameEnd υ ω υ' L ({ frames := 3, cells := (ey - ex), slots := (own_G ey - own_G ex), locals := 68 } : Room).cells ({ frames := 3, cells := (ey - ex), slots := (own_G ey - own_G ex), locals := 68 } : Room).slots) := by
  refine MetFree.of_bodySF (plainFor_of_name pn_com_example_earmark_earmark_ledger_PositionSet) hisR ?_
  intro p e s m args below meth c s₁ Bd hml0 hP hK
  obtain ⟨rfl, hZ, hh⟩ := hP
  have hx := Bd.exec
  have hby := Bd.bytes
  have hml : c.maxLocals = 2 := hml0
  have hown : s.vm.findClass "com/example/earmark/earmark/ledger/PositionSet" = some m.cls := findClass_of_methodNamed Bd.named
  have hnm := (name_of_methodNamed Bd.named Bd.method).1
  have X0 : Stand p l e ({ frames := 3, cells := (ey - ex), slots := (own_G ey - own_G ex), locals := 68 } : Room) s m #[(.ref a1), (.int (Int32.ofNat po))] below meth c s₁ [] 0 0 := Stand.of_body Bd
  have e0 : s₁.heap = h0 := by rw [← hh, Bd.state]; rfl
  have N0 := Fr.nil n0
  have pre0 : ∀ τ, Steps p.tables e below (s₁.setTop (mkF m 0 #[.val (.ref a1), .val (.int (Int32.ofNat po))] [])) τ → Steps p.tables e below (s₁.setTop (entryFrame m #[(.ref a1), (.int (Int32.ofNat po))] 2)) τ := fun τ κ => castTop (ef_3 m a1 po ex ey) κ
  have E0 := P0.exa
  have pre1 := fun τ (κ : Steps p.tables e below (s₁.setTop (mkF m 2 #[.val (.ref a1), .val (.int (Int32.ofNat po))] [(.int (Int32.ofNat po)), (.ref a1)])) τ) => pre0 τ (by
    refine XS.aloadN X0.here hx rfl (hb hby d3_0) rfl rfl ?_
    show Steps p.tables e below (s₁.setTop (mkF m 1 #[.val (.ref a1), .val (.int (Int32.ofNat po))] [(.ref a1)])) _
    refine XS.iloadN X0.here hx rfl (hb hby d3_1) rfl ?_
    show Steps p.tables e below (s₁.setTop (mkF m 2 #[.val (.ref a1), .val (.int (Int32.ofNat po))] [(.int (Int32.ofNat po)), (.ref a1)])) _
    exact κ)
  obtain ⟨cq2, q2, q2'⟩ := E0.cell
  obtain ⟨_, _, ⟨T2, L2, k2, n2⟩, -, X2, ⟨Lc2, hQ2, l2, y2, z2⟩, st2⟩ := X0.privateBack hx (y := (⟨"com/example/earmark/earmark/ledger/PositionSet", "fit", "(I)V"⟩ : MethodName)) hown (mvT hZ (hw _ (List.mem_of_getElem? (i := 19) rfl))) (mvT hZ (hw _ (List.mem_of_getElem? (i := 20) rfl))) (own_sel hZ (hw _ (List.mem_of_getElem? (i := 1) rfl)) (hw _ (List.mem_of_getElem? (i := 21) rfl)) (hw _ (List.mem_of_getElem? (i := 20) rfl)) (by decide)) (Cond.privateMethod_at (mvP hZ (hw _ (List.mem_of_getElem? (i := 21) rfl)) (args := #[]))) (mvT hZ (hw _ (List.mem_of_getElem? (i := 22) rfl))) (by decide) (backOf (W := 0) (rm4 l Z a0 hw [] a1 po ex ey S h0 n0 Z0 P0 hey hpo hle hd) hZ (hw _ (List.mem_of_getElem? (i := 22) rfl)) (hw _ (List.mem_of_getElem? (i := 2) rfl)) (Nat.le_of_ble_eq_true rfl) (Nat.le_of_ble_eq_true rfl)) (g := (mkF m 2 #[.val (.ref a1), .val (.int (Int32.ofNat po))] [(.int (Int32.ofNat po)), (.ref a1)])) rfl (by rw [hml]; rfl) (Steps.refl _) (a := a1) (by rw [e0]; exact q2) q2' (argsL := [(.int (Int32.ofNat po))]) (rest := []) (lenOf pd_2 rfl) rfl (by show 2 * 0 + _ ≤ _; exact Nat.le_of_eq rfl) (hb hby d3_2) (fun _ _ => ⟨rfl, e0, (by show 0 + (ey - ex) ≤ ey - ex; omega), (by show 0 + (own_G ey - own_G ex) ≤ own_G ey - own_G ex; omega)⟩)
  dsimp only [Pt.U, Pt.locs, Pt.cells, Pt.slots] at X2 l2 y2 z2 st2 hQ2
  subst l2 y2 z2
  obtain ⟨rfl, Nq2, P2⟩ := hQ2
  have N2 := Fr.app N0 Nq2
  have pre3 := fun τ (κ : Steps p.tables e below (T2.setTop (mkF m 5 #[.val (.ref a1), .val (.int (Int32.ofNat po))] [])) τ) => pre1 τ (st2.trans κ)
  have Z2 := P2.size
  obtain ⟨ta, k0, f, E_s, Fc, Fk, Fz, Va, hf, hS, he8, gs, gt, hst⟩ := P2
  have pre4 := fun τ (κ : Steps p.tables e below (T2.setTop (mkF m 8 #[.val (.ref a1), .val (.int (Int32.ofNat po))] [(.int (1 : Int32)), (.int (Int32.ofNat po)), (.ref a1)])) τ) => pre3 τ (by
    refine XS.aloadN X2.here hx rfl (hb hby d3_5) rfl rfl ?_
    show Steps p.tables e below (T2.setTop (mkF m 6 #[.val (.ref a1), .val (.int (Int32.ofNat po))] [(.ref a1)])) _
    refine XS.iloadN X2.here hx rfl (hb hby d3_6) rfl ?_
    show Steps p.tables e below (T2.setTop (mkF m 7 #[.val (.ref a1), .val (.int (Int32.ofNat po))] [(.int (Int32.ofNat po)), (.ref a1)])) _
    refine XS.iconst X2.here hx rfl (hb hby d3_7) ?_
    show Steps p.tables e below (T2.setTop (mkF m 8 #[.val (.ref a1), .val (.int (Int32.ofNat po))] [(.int (1 : Int32)), (.int (Int32.ofNat po)), (.ref a1)])) _
    exact κ)
  obtain ⟨cq5, q5, q5'⟩ := E_s.cell
  obtain ⟨_, _, ⟨T5, L5, k5, n5⟩, -, X5, ⟨Lc5, hQ5, l5, y5, z5⟩, st5⟩ := X2.privateBack hx (y := (⟨"com/example/earmark/earmark/ledger/PositionSet", "change", "(II)V"⟩ : MethodName)) hown (mvT hZ (hw _ (List.mem_of_getElem? (i := 23) rfl))) (mvT hZ (hw _ (List.mem_of_getElem? (i := 24) rfl))) (own_sel hZ (hw _ (List.mem_of_getElem? (i := 1) rfl)) (hw _ (List.mem_of_getElem? (i := 25) rfl)) (hw _ (List.mem_of_getElem? (i := 24) rfl)) (by decide)) (Cond.privateMethod_at (mvP hZ (hw _ (List.mem_of_getElem? (i := 25) rfl)) (args := #[]))) (mvT hZ (hw _ (List.mem_of_getElem? (i := 26) rfl))) (by decide) (backOf (W := 0) (rm5 l Z a0 hw [] a1 po (1 : Int32) ta k0 ey f T2.heap n0 Z2 Fc Fk Va hst gt hey hpo) hZ (hw _ (List.mem_of_getElem? (i := 26) rfl)) (hw _ (List.mem_of_getElem? (i := 2) rfl)) (Nat.le_of_ble_eq_true rfl) (Nat.le_of_ble_eq_true rfl)) (g := (mkF m 8 #[.val (.ref a1), .val (.int (Int32.ofNat po))] [(.int (1 : Int32)), (.int (Int32.ofNat po)), (.ref a1)])) rfl (by rw [hml]; rfl) (Steps.refl _) (a := a1) q5 q5' (argsL := [(.int (Int32.ofNat po)), (.int (1 : Int32))]) (rest := []) (lenOf pd_3 rfl) rfl (by show 2 * 0 + _ ≤ _; exact Nat.le_of_eq rfl) (hb hby d3_8) (fun _ _ => ⟨rfl, rfl, (by show 0 + (ey - ex) + 0 ≤ ey - ex; omega), (by show 0 + (own_G ey - own_G ex) + 0 ≤ own_G ey - own_G ex; omega)⟩)
  dsimp only [Pt.U, Pt.locs, Pt.cells, Pt.slots] at X5 l5 y5 z5 st5 hQ5
  subst l5 y5 z5
  obtain ⟨rfl, Nq5, K5, g5, V5, G5⟩ := hQ5
  have E_s_5 : Exa Z T5.heap a1 "com/example/earmark/earmark/ledger/PositionSet" := E_s.keep K5
  have Fc_5 : Fld Z T5.heap a1 "com/example/earmark/earmark/ledger/PositionSet" "counts" "[I" (.ref ta) := Fc.keep K5 (ninS hst nin0)
  have Fk_5 : Fld Z T5.heap a1 "com/example/earmark/earmark/ledger/PositionSet" "capacity" "I" (.int (Int32.ofNat (2 ^ ey))) := Fk.keep K5 (ninS hst nin0)
  have Fz_5 : Fld Z T5.heap a1 "com/example/earmark/earmark/ledger/PositionSet" "size" "I" (.int (Int32.ofNat S.length)) := Fz.keep K5 (ninS hst nin0)
  have Z5 : n0 ≤ T5.heap.size := Nat.le_trans Z2 K5.1
  have N5 := Fr.app N2 Nq5
  have pre6 := fun τ (κ : Steps p.tables e below (T5.setTop (mkF m 11 #[.val (.ref a1), .val (.int (Int32.ofNat po))] [])) τ) => pre4 τ (st5.trans κ)
  have pre7 := fun τ (κ : Steps p.tables e below (T5.setTop (mkF m 13 #[.val (.ref a1), .val (.int (Int32.ofNat po))] [(.ref a1), (.ref a1)])) τ) => pre6 τ (by
    refine XS.aloadN X5.here hx rfl (hb hby d3_11) rfl rfl ?_
    show Steps p.tables e below (T5.setTop (mkF m 12 #[.val (.ref a1), .val (.int (Int32.ofNat po))] [(.ref a1)])) _
    refine XS.dup X5.here hx rfl (hb hby d3_12) rfl rfl ?_
    show Steps p.tables e below (T5.setTop (mkF m 13 #[.val (.ref a1), .val (.int (Int32.ofNat po))] [(.ref a1), (.ref a1)])) _
    exact κ)
  obtain ⟨T8, X8, e8, st8⟩ := getF X5 hx hZ hown (host := "") (Or.inl (hw _ (List.mem_of_getElem? (i := 27) rfl))) Via.refl rfl Fz_5 (g := (mkF m 13 #[.val (.ref a1), .val (.int (Int32.ofNat po))] [(.ref a1), (.ref a1)])) rfl rfl (hb hby d3_13)
  have pre9 := fun τ (κ : Steps p.tables e below (T8.setTop (mkF m 16 #[.val (.ref a1), .val (.int (Int32.ofNat po))] [(.int (Int32.ofNat S.length)), (.ref a1)])) τ) => pre7 τ (st8 _ κ)
  have pre10 := fun τ (κ : Steps p.tables e below (T8.setTop (mkF m 18 #[.val (.ref a1), .val (.int (Int32.ofNat po))] [(.int ((Int32.ofNat S.length) + (1 : Int32))), (.ref a1)])) τ) => pre9 τ (by
    refine XS.iconst X8.here hx rfl (hb hby d3_16) ?_
    show Steps p.tables e below (T8.setTop (mkF m 17 #[.val (.ref a1), .val (.int (Int32.ofNat po))] [(.int (1 : Int32)), (.int (Int32.ofNat S.length)), (.ref a1)])) _
    refine XS.iadd X8.here hx rfl (hb hby d3_17) rfl ?_
    show Steps p.tables e below (T8.setTop (mkF m 18 #[.val (.ref a1), .val (.int (Int32.ofNat po))] [(.int ((Int32.ofNat S.length) + (1 : Int32))), (.ref a1)])) _
    exact κ)
  rw [show ((Int32.ofNat S.length) + (1 : Int32)) = (Int32.ofNat (po :: S).length) from (own_addN _ 1)] at pre10
  obtain ⟨T11, h11, X11, e11, W11, st11⟩ := putF X8 hx hZ hown (host := "") (Or.inl (hw _ (List.mem_of_getElem? (i := 27) rfl))) Via.refl e8 Fz_5 E_s_5 (Or.inl (hw _ (List.mem_of_getElem? (i := 28) rfl))) (hw _ (List.mem_of_getElem? (i := 1) rfl)) (ty := .int) (by decide) rfl rfl (g := (mkF m 18 #[.val (.ref a1), .val (.int (Int32.ofNat po))] [(.int (Int32.ofNat (po :: S).length)), (.ref a1)])) rfl rfl (hb hby d3_18)
  have E_s_11 : Exa Z h11 a1 "com/example/earmark/earmark/ledger/PositionSet" := E_s_5.wr W11
  have Fc_11 : Fld Z h11 a1 "com/example/earmark/earmark/ledger/PositionSet" "counts" "[I" (.ref ta) := Fc_5.other W11 (Or.inr (slot_ne (Or.inl (hw _ (List.mem_of_getElem? (i := 11) rfl))) (Or.inl (hw _ (List.mem_of_getElem? (i := 28) rfl))) (by decide) (t := (.array .int)) (t' := .int) (by decide) (by decide)))
  have Fk_11 : Fld Z h11 a1 "com/example/earmark/earmark/ledger/PositionSet" "capacity" "I" (.int (Int32.ofNat (2 ^ ey))) := Fk_5.other W11 (Or.inr (slot_ne (Or.inl (hw _ (List.mem_of_getElem? (i := 13) rfl))) (Or.inl (hw _ (List.mem_of_getElem? (i := 28) rfl))) (by decide) (t := .int) (t' := .int) (by decide) (by decide)))
  have V5_11 : Arv Z h11 ta k0 .int (Int32.ofNat (2 ^ ey + 1)) (own_tab g5 (2 ^ ey + 1)) (.int (0 : Int32)) := V5.other W11 (Ne.symm hst)
  have N11 := Fr.snoc X11 N5 gs
  have Z11 : n0 ≤ h11.size := Nat.le_trans Z5 (Keep.of_wr W11).1
  have F_size_a1_11 : Fld Z h11 a1 "com/example/earmark/earmark/ledger/PositionSet" "size" "I" (.int (Int32.ofNat (po :: S).length)) := Fz_5.same W11
  have pre12 := fun τ (κ : Steps p.tables e below (T11.setTop (mkF m 21 #[.val (.ref a1), .val (.int (Int32.ofNat po))] [])) τ) => pre10 τ (st11 _ κ)
  have hf' : ∀ j, 0 < j → j ≤ 2 ^ ey → g5 j = Int32.ofNat (own_cnt (po :: S) (j - own_low j) j) := by
    intro j h1 h2
    rw [G5 j h2, hf j h1 h2, own_cnt_cons]
    by_cases q : j - own_low j ≤ po ∧ po < j
    · rw [if_pos q, if_pos q]; exact own_addN _ 1
    · rw [if_neg q, if_neg q, Nat.add_zero]
  have hS' : ∀ p ∈ po :: S, p < 2 ^ ey := by
    intro p hp
    rcases List.mem_cons.mp hp with q | q
    · rw [q]; exact hpo
    · exact hS p q
  obtain ⟨fs, hr, hrun, hended, hW, hsame⟩ := X11.leave (v := none) (fun _ => rfl)
  refine ⟨_, _, pre12 _ ?_, hrun, hended, _, _, rfl, ?_, ⟨_, rfl⟩, hW, hsame.mono (by show 0 + (ey - ex) + 0 ≤ ey - ex; omega) (by show 0 + (own_G ey - own_G ex) + 0 ≤ own_G ey - own_G ex; omega)⟩
  · exact X11.returnOut hx Bd.returns (hb hby d3_21) hr
  · show Q3 Z a1 po ex ey S h0 n0 _ T11.heap _
    rw [e11]
    exact ⟨rfl, N11, ta, k0, g5, E_s_11, Fc_11, Fk_11, F_size_a1_11, V5_11, hf', hS', hey, gs, gt, hst⟩
theorem ef_8 (m : MethodId) (a1 : Addr) (po : Nat) (ex : Nat) : entryFrame m #[(.ref a1), (.int (Int32.ofNat po))] 2 = mkF m 0 #[.val (.ref a1), .val (.int (Int32.ofNat po))] [] := by first | (simp [entryFrame, mkF, argsToLocals, Value.category]; done) | rfl
def Q8 (Z : State) (a1 : Addr) (po : Nat) (ex : Nat) (S : List Nat) (h0 : Heap) (n0 : Nat) (v : Option Value) (h : Heap) (L : List Loc) : Prop := v = none ∧ Fr n0 L ∧ own_PS Z h a1 ex (S.erase po) n0
set_option maxRecDepth 65536 in
set_option maxHeartbeats 40000000 in
theorem rm8 (l : Launch) (Z : State) (a0 : Array Value) (hw : ∀ d ∈ tables_1, d.before a0 Z = true) (ws : List Jvm.Cond) (a1 : Addr) (po : Nat) (ex : Nat) (S : List Nat) (h0 : Heap) (n0 : Nat) (Z0 : n0 ≤ h0.size) (P0 : own_PS Z h0 a1 ex S n0) (hmem : po ∈ S) :
    MetFree l (⟨"com/example/earmark/earmark/ledger/PositionSet", "remove", "(I)V"⟩ : MethodName) (head1 (Jvm.Cond.code (⟨"com/example/earmark/earmark/ledger/PositionSet", "remove", "(I)V"⟩ : MethodName) prog_101_method_3_code 2 none :: ws) ({ frames := 1, cells := 0, slots := 0, locals := 15 } : Room)) (fun α υ => α = #[(.ref a1), (.int (Int32.ofNat po))] ∧ Z.Warmed39 υ.vm ∧ υ.heap = h0) (fun _ _ _ _ _ => True) (fun _ υ ω υ' => ∃ v L, ω = .returned v ∧ Q8 Z a1 po ex S h0 n0 v υ'.heap L ∧ FrameEnd υ ω υ' L ({ frames := 1, cells := 0, slots := 0, locals := 15 } : Room).cells ({ frames := 1, cells := 0, slots := 0, locals := 15 } : Room).slots) := by
  refine MetFree.of_bodySF (plainFor_of_name pn_com_example_earmark_earmark_ledger_PositionSet) hisR ?_
  intro p e s m args below meth c s₁ Bd hml0 hP hK
  obtain ⟨rfl, hZ, hh⟩ := hP
  have hx := Bd.exec
  have hby := Bd.bytes
  have hml : c.maxLocals = 2 := hml0
  have hown : s.vm.findClass "com/example/earmark/earmark/ledger/PositionSet" = some m.cls := findClass_of_methodNamed Bd.named
  have hnm := (name_of_methodNamed Bd.named Bd.method).1
  have X0 : Stand p l e ({ frames := 1, cells := 0, slots := 0, locals := 15 } : Room) s m #[(.ref a1), (.int (Int32.ofNat po))] below meth c s₁ [] 0 0 := Stand.of_body Bd
  have e0 : s₁.heap = h0 := by rw [← hh, Bd.state]; rfl
  have N0 := Fr.nil n0
  have pre0 : ∀ τ, Steps p.tables e below (s₁.setTop (mkF m 0 #[.val (.ref a1), .val (.int (Int32.ofNat po))] [])) τ → Steps p.tables e below (s₁.setTop (entryFrame m #[(.ref a1), (.int (Int32.ofNat po))] 2)) τ := fun τ κ => castTop (ef_8 m a1 po ex) κ
  obtain ⟨ta, k0, f, E_s, Fc, Fk, Fz, Va, hf, hS, he8, gs, gt, hst⟩ := P0
  have pre1 := fun τ (κ : Steps p.tables e below (s₁.setTop (mkF m 3 #[.val (.ref a1), .val (.int (Int32.ofNat po))] [(.int (-1 : Int32)), (.int (Int32.ofNat po)), (.ref a1)])) τ) => pre0 τ (by
    refine XS.aloadN X0.here hx rfl (hb hby d8_0) rfl rfl ?_
    show Steps p.tables e below (s₁.setTop (mkF m 1 #[.val (.ref a1), .val (.int (Int32.ofNat po))] [(.ref a1)])) _
    refine XS.iloadN X0.here hx rfl (hb hby d8_1) rfl ?_
    show Steps p.tables e below (s₁.setTop (mkF m 2 #[.val (.ref a1), .val (.int (Int32.ofNat po))] [(.int (Int32.ofNat po)), (.ref a1)])) _
    refine XS.iconst X0.here hx rfl (hb hby d8_2) ?_
    show Steps p.tables e below (s₁.setTop (mkF m 3 #[.val (.ref a1), .val (.int (Int32.ofNat po))] [(.int (-1 : Int32)), (.int (Int32.ofNat po)), (.ref a1)])) _
    exact κ)
  obtain ⟨cq2, q2, q2'⟩ := E_s.cell
  obtain ⟨_, _, ⟨T2, L2, k2, n2⟩, -, X2, ⟨Lc2, hQ2, l2, y2, z2⟩, st2⟩ := X0.privateBack hx (y := (⟨"com/example/earmark/earmark/ledger/PositionSet", "change", "(II)V"⟩ : MethodName)) hown (mvT hZ (hw _ (List.mem_of_getElem? (i := 23) rfl))) (mvT hZ (hw _ (List.mem_of_getElem? (i := 24) rfl))) (own_sel hZ (hw _ (List.mem_of_getElem? (i := 1) rfl)) (hw _ (List.mem_of_getElem? (i := 25) rfl)) (hw _ (List.mem_of_getElem? (i := 24) rfl)) (by decide)) (Cond.privateMethod_at (mvP hZ (hw _ (List.mem_of_getElem? (i := 25) rfl)) (args := #[]))) (mvT hZ (hw _ (List.mem_of_getElem? (i := 26) rfl))) (by decide) (backOf (W := 0) (rm5 l Z a0 hw [] a1 po (-1 : Int32) ta k0 ex f h0 n0 Z0 Fc Fk Va hst gt he8 (hS po hmem)) hZ (hw _ (List.mem_of_getElem? (i := 26) rfl)) (hw _ (List.mem_of_getElem? (i := 2) rfl)) (by decide) (by decide)) (g := (mkF m 3 #[.val (.ref a1), .val (.int (Int32.ofNat po))] [(.int (-1 : Int32)), (.int (Int32.ofNat po)), (.ref a1)])) rfl (by rw [hml]; rfl) (Steps.refl _) (a := a1) (by rw [e0]; exact q2) q2' (argsL := [(.int (Int32.ofNat po)), (.int (-1 : Int32))]) (rest := []) (lenOf pd_3 rfl) rfl (by show 2 * 0 + _ ≤ _; exact Nat.le_of_eq rfl) (hb hby d8_3) (fun _ _ => ⟨rfl, e0, (by decide : 0 + 0 ≤ _), (by decide : 0 + 0 ≤ _)⟩)
  dsimp only [Pt.U, Pt.locs, Pt.cells, Pt.slots] at X2 l2 y2 z2 st2 hQ2
  subst l2 y2 z2
  obtain ⟨rfl, Nq2, K2, g2, V2, G2⟩ := hQ2
  have E_s_2 : Exa Z T2.heap a1 "com/example/earmark/earmark/ledger/PositionSet" := E_s.keep K2
  have Fc_2 : Fld Z T2.heap a1 "com/example/earmark/earmark/ledger/PositionSet" "counts" "[I" (.ref ta) := Fc.keep K2 (ninS hst nin0)
  have Fk_2 : Fld Z T2.heap a1 "com/example/earmark/earmark/ledger/PositionSet" "capacity" "I" (.int (Int32.ofNat (2 ^ ex))) := Fk.keep K2 (ninS hst nin0)
  have Fz_2 : Fld Z T2.heap a1 "com/example/earmark/earmark/ledger/PositionSet" "size" "I" (.int (Int32.ofNat S.length)) := Fz.keep K2 (ninS hst nin0)
  have Z2 : n0 ≤ T2.heap.size := Nat.le_trans Z0 K2.1
  have N2 := Fr.app N0 Nq2
  have pre3 := fun τ (κ : Steps p.tables e below (T2.setTop (mkF m 6 #[.val (.ref a1), .val (.int (Int32.ofNat po))] [])) τ) => pre1 τ (st2.trans κ)
  have hlen : S.length = (S.erase po).length + 1 := by rw [List.length_erase_of_mem hmem]; have := List.length_pos_of_mem hmem; omega
  have pre4 := fun τ (κ : Steps p.tables e below (T2.setTop (mkF m 8 #[.val (.ref a1), .val (.int (Int32.ofNat po))] [(.ref a1), (.ref a1)])) τ) => pre3 τ (by
    refine XS.aloadN X2.here hx rfl (hb hby d8_6) rfl rfl ?_
    show Steps p.tables e below (T2.setTop (mkF m 7 #[.val (.ref a1), .val (.int (Int32.ofNat po))] [(.ref a1)])) _
    refine XS.dup X2.here hx rfl (hb hby d8_7) rfl rfl ?_
    show Steps p.tables e below (T2.setTop (mkF m 8 #[.val (.ref a1), .val (.int (Int32.ofNat po))] [(.ref a1), (.ref a1)])) _
    exact κ)
  obtain ⟨T5, X5, e5, st5⟩ := getF X2 hx hZ hown (host := "") (Or.inl (hw _ (List.mem_of_getElem? (i := 27) rfl))) Via.refl rfl Fz_2 (g := (mkF m 8 #[.val (.ref a1), .val (.int (Int32.ofNat po))] [(.ref a1), (.ref a1)])) rfl rfl (hb hby d8_8)
  have pre6 := fun τ (κ : Steps p.tables e below (T5.setTop (mkF m 11 #[.val (.ref a1), .val (.int (Int32.ofNat po))] [(.int (Int32.ofNat S.length)), (.ref a1)])) τ) => pre4 τ (st5 _ κ)
  have pre7 := fun τ (κ : Steps p.tables e below (T5.setTop (mkF m 13 #[.val (.ref a1), .val (.int (Int32.ofNat po))] [(.int ((Int32.ofNat S.length) - (1 : Int32))), (.ref a1)])) τ) => pre6 τ (by
    refine XS.iconst X5.here hx rfl (hb hby d8_11) ?_
    show Steps p.tables e below (T5.setTop (mkF m 12 #[.val (.ref a1), .val (.int (Int32.ofNat po))] [(.int (1 : Int32)), (.int (Int32.ofNat S.length)), (.ref a1)])) _
    refine XS.isub X5.here hx rfl (hb hby d8_12) rfl ?_
    show Steps p.tables e below (T5.setTop (mkF m 13 #[.val (.ref a1), .val (.int (Int32.ofNat po))] [(.int ((Int32.ofNat S.length) - (1 : Int32))), (.ref a1)])) _
    exact κ)
  rw [show ((Int32.ofNat S.length) - (1 : Int32)) = (Int32.ofNat (S.erase po).length) from (by rw [hlen]; exact own_subN (a := _ + 1) (b := 1) (by omega))] at pre7
  obtain ⟨T8, h8, X8, e8, W8, st8⟩ := putF X5 hx hZ hown (host := "") (Or.inl (hw _ (List.mem_of_getElem? (i := 27) rfl))) Via.refl e5 Fz_2 E_s_2 (Or.inl (hw _ (List.mem_of_getElem? (i := 28) rfl))) (hw _ (List.mem_of_getElem? (i := 1) rfl)) (ty := .int) (by decide) rfl rfl (g := (mkF m 13 #[.val (.ref a1), .val (.int (Int32.ofNat po))] [(.int (Int32.ofNat (S.erase po).length)), (.ref a1)])) rfl rfl (hb hby d8_13)
  have E_s_8 : Exa Z h8 a1 "com/example/earmark/earmark/ledger/PositionSet" := E_s_2.wr W8
  have Fc_8 : Fld Z h8 a1 "com/example/earmark/earmark/ledger/PositionSet" "counts" "[I" (.ref ta) := Fc_2.other W8 (Or.inr (slot_ne (Or.inl (hw _ (List.mem_of_getElem? (i := 11) rfl))) (Or.inl (hw _ (List.mem_of_getElem? (i := 28) rfl))) (by decide) (t := (.array .int)) (t' := .int) (by decide) (by decide)))
  have Fk_8 : Fld Z h8 a1 "com/example/earmark/earmark/ledger/PositionSet" "capacity" "I" (.int (Int32.ofNat (2 ^ ex))) := Fk_2.other W8 (Or.inr (slot_ne (Or.inl (hw _ (List.mem_of_getElem? (i := 13) rfl))) (Or.inl (hw _ (List.mem_of_getElem? (i := 28) rfl))) (by decide) (t := .int) (t' := .int) (by decide) (by decide)))
  have V2_8 : Arv Z h8 ta k0 .int (Int32.ofNat (2 ^ ex + 1)) (own_tab g2 (2 ^ ex + 1)) (.int (0 : Int32)) := V2.other W8 (Ne.symm hst)
  have N8 := Fr.snoc X8 N2 gs
  have Z8 : n0 ≤ h8.size := Nat.le_trans Z2 (Keep.of_wr W8).1
  have F_size_a1_8 : Fld Z h8 a1 "com/example/earmark/earmark/ledger/PositionSet" "size" "I" (.int (Int32.ofNat (S.erase po).length)) := Fz_2.same W8
  have pre9 := fun τ (κ : Steps p.tables e below (T8.setTop (mkF m 16 #[.val (.ref a1), .val (.int (Int32.ofNat po))] [])) τ) => pre7 τ (st8 _ κ)
  have hf' : ∀ j, 0 < j → j ≤ 2 ^ ex → g2 j = Int32.ofNat (own_cnt (S.erase po) (j - own_low j) j) := by
    intro j h1 h2
    rw [G2 j h2, hf j h1 h2, own_cnt_erase hmem]
    by_cases q : j - own_low j ≤ po ∧ po < j
    · rw [if_pos q, if_pos q]; exact own_dec _
    · rw [if_neg q, if_neg q, Nat.add_zero]
  obtain ⟨fs, hr, hrun, hended, hW, hsame⟩ := X8.leave (v := none) (fun _ => rfl)
  refine ⟨_, _, pre9 _ ?_, hrun, hended, _, _, rfl, ?_, ⟨_, rfl⟩, hW, hsame.mono (by decide) (by decide)⟩
  · exact X8.returnOut hx Bd.returns (hb hby d8_16) hr
  · show Q8 Z a1 po ex S h0 n0 _ T8.heap _
    rw [e8]
    exact ⟨rfl, N8, ta, k0, g2, E_s_8, Fc_8, Fk_8, F_size_a1_8, V2_8, hf', fun p hp => hS p (List.mem_of_mem_erase hp), he8, gs, gt, hst⟩
theorem ef_10 (m : MethodId) (a1 : Addr) (ex : Nat) : entryFrame m #[(.ref a1)] 1 = mkF m 0 #[.val (.ref a1)] [] := by first | (simp [entryFrame, mkF, argsToLocals, Value.category]; done) | rfl
def Q10 (Z : State) (a1 : Addr) (ex : Nat) (S : List Nat) (h0 : Heap) (n0 : Nat) (v : Option Value) (h : Heap) (L : List Loc) : Prop := v = some (.int (Int32.ofNat S.length)) ∧ Fr n0 L ∧ h = h0
set_option maxRecDepth 65536 in
set_option maxHeartbeats 40000000 in
theorem rm10 (l : Launch) (Z : State) (a0 : Array Value) (hw : ∀ d ∈ tables_1, d.before a0 Z = true) (ws : List Jvm.Cond) (a1 : Addr) (ex : Nat) (S : List Nat) (h0 : Heap) (n0 : Nat) (Z0 : n0 ≤ h0.size) (P0 : own_PS Z h0 a1 ex S n0) :
    MetFree l (⟨"com/example/earmark/earmark/ledger/PositionSet", "size", "()I"⟩ : MethodName) (head1 (Jvm.Cond.code (⟨"com/example/earmark/earmark/ledger/PositionSet", "size", "()I"⟩ : MethodName) prog_101_method_6_code 1 (some .int) :: ws) ({ frames := 0, cells := 0, slots := 0, locals := 0 } : Room)) (fun α υ => α = #[(.ref a1)] ∧ Z.Warmed39 υ.vm ∧ υ.heap = h0) (fun _ _ _ _ _ => True) (fun _ υ ω υ' => ∃ v L, ω = .returned v ∧ Q10 Z a1 ex S h0 n0 v υ'.heap L ∧ FrameEnd υ ω υ' L ({ frames := 0, cells := 0, slots := 0, locals := 0 } : Room).cells ({ frames := 0, cells := 0, slots := 0, locals := 0 } : Room).slots) := by
  refine MetFree.of_bodySF (plainFor_of_name pn_com_example_earmark_earmark_ledger_PositionSet) hisR ?_
  intro p e s m args below meth c s₁ Bd hml0 hP hK
  obtain ⟨rfl, hZ, hh⟩ := hP
  have hx := Bd.exec
  have hby := Bd.bytes
  have hml : c.maxLocals = 1 := hml0
  have hown : s.vm.findClass "com/example/earmark/earmark/ledger/PositionSet" = some m.cls := findClass_of_methodNamed Bd.named
  have hnm := (name_of_methodNamed Bd.named Bd.method).1
  have X0 : Stand p l e ({ frames := 0, cells := 0, slots := 0, locals := 0 } : Room) s m #[(.ref a1)] below meth c s₁ [] 0 0 := Stand.of_body Bd
  have e0 : s₁.heap = h0 := by rw [← hh, Bd.state]; rfl
  have N0 := Fr.nil n0
  have pre0 : ∀ τ, Steps p.tables e below (s₁.setTop (mkF m 0 #[.val (.ref a1)] [])) τ → Steps p.tables e below (s₁.setTop (entryFrame m #[(.ref a1)] 1)) τ := fun τ κ => castTop (ef_10 m a1 ex) κ
  obtain ⟨ta, k0, f, E_s, Fc, Fk, Fz, Va, hf, hS, he8, gs, gt, hst⟩ := P0
  have pre1 := fun τ (κ : Steps p.tables e below (s₁.setTop (mkF m 1 #[.val (.ref a1)] [(.ref a1)])) τ) => pre0 τ (by
    refine XS.aloadN X0.here hx rfl (hb hby d10_0) rfl rfl ?_
    show Steps p.tables e below (s₁.setTop (mkF m 1 #[.val (.ref a1)] [(.ref a1)])) _
    exact κ)
  obtain ⟨T2, X2, e2, st2⟩ := getF X0 hx hZ hown (host := "") (Or.inl (hw _ (List.mem_of_getElem? (i := 27) rfl))) Via.refl e0 Fz (g := (mkF m 1 #[.val (.ref a1)] [(.ref a1)])) rfl rfl (hb hby d10_1)
  have pre3 := fun τ (κ : Steps p.tables e below (T2.setTop (mkF m 4 #[.val (.ref a1)] [(.int (Int32.ofNat S.length))])) τ) => pre1 τ (st2 _ κ)
  obtain ⟨fs, hr, hrun, hended, hW, hsame⟩ := X2.leave (v := some (.int (Int32.ofNat S.length))) (fun h => by rw [Bd.returns] at h; cases h)
  refine ⟨_, _, pre3 _ ?_, hrun, hended, _, _, rfl, ?_, ⟨_, rfl⟩, hW, hsame.mono (by decide) (by decide)⟩
  · exact retI X2 hx Bd.returns (hb hby d10_4) hr
  · show Q10 Z a1 ex S h0 n0 _ T2.heap _
    rw [e2]
    exact ⟨rfl, N0, rfl⟩
theorem ef_1 (m : MethodId) (a1 : Addr) : entryFrame m #[(.ref a1)] 1 = mkF m 0 #[.val (.ref a1)] [] := by first | (simp [entryFrame, mkF, argsToLocals, Value.category]; done) | rfl
def Q1 (Z : State) (a1 : Addr) (h0 : Heap) (n0 : Nat) (v : Option Value) (h : Heap) (L : List Loc) : Prop := v = none ∧ Fr n0 L ∧ own_PS Z h a1 0 [] n0
set_option maxRecDepth 65536 in
set_option maxHeartbeats 40000000 in
theorem rm1 (l : Launch) (Z : State) (a0 : Array Value) (hw : ∀ d ∈ tables_1, d.before a0 Z = true) (ws : List Jvm.Cond) (a1 : Addr) (h0 : Heap) (n0 : Nat) (Z0 : n0 ≤ h0.size) (E1 : Exa Z h0 a1 "com/example/earmark/earmark/ledger/PositionSet") (F1 : Fld Z h0 a1 "com/example/earmark/earmark/ledger/PositionSet" "counts" "[I" .null) (F2 : Fld Z h0 a1 "com/example/earmark/earmark/ledger/PositionSet" "capacity" "I" (.int (0 : Int32))) (F3 : Fld Z h0 a1 "com/example/earmark/earmark/ledger/PositionSet" "size" "I" (.int (0 : Int32))) (g_a1 : n0 ≤ a1) :
    MetFree l (⟨"com/example/earmark/earmark/ledger/PositionSet", "<init>", "()V"⟩ : MethodName) (head1 (Jvm.Cond.code (⟨"com/example/earmark/earmark/ledger/PositionSet", "<init>", "()V"⟩ : MethodName) prog_101_method_1_code 1 none :: ws) ({ frames := 1, cells := 1, slots := 2, locals := 12 } : Room)) (fun α υ => α = #[(.ref a1)] ∧ Z.Warmed39 υ.vm ∧ υ.heap = h0) (fun _ _ _ _ _ => True) (fun _ υ ω υ' => ∃ v L, ω = .returned v ∧ Q1 Z a1 h0 n0 v υ'.heap L ∧ FrameEnd υ ω υ' L ({ frames := 1, cells := 1, slots := 2, locals := 12 } : Room).cells ({ frames := 1, cells := 1, slots := 2, locals := 12 } : Room).slots) := by
  refine MetFree.of_bodySF (plainFor_of_name pn_com_example_earmark_earmark_ledger_PositionSet) hisR ?_
  intro p e s m args below meth c s₁ Bd hml0 hP hK
  obtain ⟨rfl, hZ, hh⟩ := hP
  have hx := Bd.exec
  have hby := Bd.bytes
  have hml : c.maxLocals = 1 := hml0
  have hown : s.vm.findClass "com/example/earmark/earmark/ledger/PositionSet" = some m.cls := findClass_of_methodNamed Bd.named
  have hnm := (name_of_methodNamed Bd.named Bd.method).1
  have X0 : Stand p l e ({ frames := 1, cells := 1, slots := 2, locals := 12 } : Room) s m #[(.ref a1)] below meth c s₁ [] 0 0 := Stand.of_body Bd
  have e0 : s₁.heap = h0 := by rw [← hh, Bd.state]; rfl
  have N0 := Fr.nil n0
  have pre0 : ∀ τ, Steps p.tables e below (s₁.setTop (mkF m 0 #[.val (.ref a1)] [])) τ → Steps p.tables e below (s₁.setTop (entryFrame m #[(.ref a1)] 1)) τ := fun τ κ => castTop (ef_1 m a1) κ
  have pre1 := fun τ (κ : Steps p.tables e below (s₁.setTop (mkF m 1 #[.val (.ref a1)] [(.ref a1)])) τ) => pre0 τ (by
    refine XS.aloadN X0.here hx rfl (hb hby d1_0) rfl rfl ?_
    show Steps p.tables e below (s₁.setTop (mkF m 1 #[.val (.ref a1)] [(.ref a1)])) _
    exact κ)
  obtain ⟨T2, X2, e2, st2⟩ := initO X0 hx hZ hown (hw _ (List.mem_of_getElem? (i := 6) rfl)) (hw _ (List.mem_of_getElem? (i := 7) rfl)) (hw _ (List.mem_of_getElem? (i := 8) rfl)) e0 (g := (mkF m 1 #[.val (.ref a1)] [(.ref a1)])) rfl (by rw [hml]; rfl) rfl (hb hby d1_1) (by decide) (W := 0) (by show 2 * 0 + _ ≤ _; exact Nat.le_of_eq rfl) (by decide)
  have pre3 := fun τ (κ : Steps p.tables e below (T2.setTop (mkF m 4 #[.val (.ref a1)] [])) τ) => pre1 τ (st2 _ κ)
  have pre4 := fun τ (κ : Steps p.tables e below (T2.setTop (mkF m 6 #[.val (.ref a1)] [(.int (2 : Int32)), (.ref a1)])) τ) => pre3 τ (by
    refine XS.aloadN X2.here hx rfl (hb hby d1_4) rfl rfl ?_
    show Steps p.tables e below (T2.setTop (mkF m 5 #[.val (.ref a1)] [(.ref a1)])) _
    refine XS.iconst X2.here hx rfl (hb hby d1_5) ?_
    show Steps p.tables e below (T2.setTop (mkF m 6 #[.val (.ref a1)] [(.int (2 : Int32)), (.ref a1)])) _
    exact κ)
  obtain ⟨T5, h5, k5, X5, e5, E5, A5, st5⟩ := newP X2 hx hZ (hw _ (List.mem_of_getElem? (i := 9) rfl)) e2 (g := (mkF m 6 #[.val (.ref a1)] [(.int (2 : Int32)), (.ref a1)])) rfl (hb hby d1_6) rfl (by decide) (cap := 2) (by decide) (by decide) (by decide) (by decide)
  obtain ⟨b, g5⟩ : ∃ z, z = h0.size := ⟨_, rfl⟩
  rw [← g5] at A5 st5
  have g_b : n0 ≤ b := Nat.le_trans Z0 (Nat.le_of_eq g5.symm)
  have ne_a1_b : a1 ≠ b := Nat.ne_of_lt (Nat.lt_of_lt_of_le E1.lt (Nat.le_of_eq g5.symm))
  have E1_5 : Exa Z h5 a1 "com/example/earmark/earmark/ledger/PositionSet" := E1.ext E5
  have F1_5 : Fld Z h5 a1 "com/example/earmark/earmark/ledger/PositionSet" "counts" "[I" .null := F1.ext E5
  have F2_5 : Fld Z h5 a1 "com/example/earmark/earmark/ledger/PositionSet" "capacity" "I" (.int (0 : Int32)) := F2.ext E5
  have F3_5 : Fld Z h5 a1 "com/example/earmark/earmark/ledger/PositionSet" "size" "I" (.int (0 : Int32)) := F3.ext E5
  have Z5 : n0 ≤ h5.size := Nat.le_trans Z0 E5.1
  have V_b_5 : Arv Z h5 b k5 .int (2 : Int32) [(.int (0 : Int32)), (.int (0 : Int32))] (.int (0 : Int32)) := (Arv.new A5 (by decide)).pad (pad_rep [] (.int (0 : Int32)) 2)
  have pre6 := fun τ (κ : Steps p.tables e below (T5.setTop (mkF m 8 #[.val (.ref a1)] [(.ref b), (.ref a1)])) τ) => pre4 τ (st5 _ κ)
  obtain ⟨T7, h7, X7, e7, W7, st7⟩ := putF X5 hx hZ hown (host := "") (Or.inl (hw _ (List.mem_of_getElem? (i := 10) rfl))) Via.refl e5 F1_5 E1_5 (Or.inl (hw _ (List.mem_of_getElem? (i := 11) rfl))) (hw _ (List.mem_of_getElem? (i := 1) rfl)) (ty := (.array .int)) (by decide) rfl rfl (g := (mkF m 8 #[.val (.ref a1)] [(.ref b), (.ref a1)])) rfl rfl (hb hby d1_8)
  have E1_7 : Exa Z h7 a1 "com/example/earmark/earmark/ledger/PositionSet" := E1_5.wr W7
  have F2_7 : Fld Z h7 a1 "com/example/earmark/earmark/ledger/PositionSet" "capacity" "I" (.int (0 : Int32)) := F2_5.other W7 (Or.inr (slot_ne (Or.inl (hw _ (List.mem_of_getElem? (i := 13) rfl))) (Or.inl (hw _ (List.mem_of_getElem? (i := 11) rfl))) (by decide) (t := .int) (t' := (.array .int)) (by decide) (by decide)))
  have F3_7 : Fld Z h7 a1 "com/example/earmark/earmark/ledger/PositionSet" "size" "I" (.int (0 : Int32)) := F3_5.other W7 (Or.inr (slot_ne (Or.inl (hw _ (List.mem_of_getElem? (i := 28) rfl))) (Or.inl (hw _ (List.mem_of_getElem? (i := 11) rfl))) (by decide) (t := .int) (t' := (.array .int)) (by decide) (by decide)))
  have V_b_7 : Arv Z h7 b k5 .int (2 : Int32) [(.int (0 : Int32)), (.int (0 : Int32))] (.int (0 : Int32)) := V_b_5.other W7 (Ne.symm ne_a1_b)
  have N7 := Fr.snoc X7 N0 g_a1
  have Z7 : n0 ≤ h7.size := Nat.le_trans Z5 (Keep.of_wr W7).1
  have F_counts_a1_7 : Fld Z h7 a1 "com/example/earmark/earmark/ledger/PositionSet" "counts" "[I" (.ref b) := F1_5.same W7
  have pre8 := fun τ (κ : Steps p.tables e below (T7.setTop (mkF m 11 #[.val (.ref a1)] [])) τ) => pre6 τ (st7 _ κ)
  have pre9 := fun τ (κ : Steps p.tables e below (T7.setTop (mkF m 13 #[.val (.ref a1)] [(.int (1 : Int32)), (.ref a1)])) τ) => pre8 τ (by
    refine XS.aloadN X7.here hx rfl (hb hby d1_11) rfl rfl ?_
    show Steps p.tables e below (T7.setTop (mkF m 12 #[.val (.ref a1)] [(.ref a1)])) _
    refine XS.iconst X7.here hx rfl (hb hby d1_12) ?_
    show Steps p.tables e below (T7.setTop (mkF m 13 #[.val (.ref a1)] [(.int (1 : Int32)), (.ref a1)])) _
    exact κ)
  obtain ⟨T10, h10, X10, e10, W10, st10⟩ := putF X7 hx hZ hown (host := "") (Or.inl (hw _ (List.mem_of_getElem? (i := 12) rfl))) Via.refl e7 F2_7 E1_7 (Or.inl (hw _ (List.mem_of_getElem? (i := 13) rfl))) (hw _ (List.mem_of_getElem? (i := 1) rfl)) (ty := .int) (by decide) rfl rfl (g := (mkF m 13 #[.val (.ref a1)] [(.int (1 : Int32)), (.ref a1)])) rfl rfl (hb hby d1_13)
  have E1_10 : Exa Z h10 a1 "com/example/earmark/earmark/ledger/PositionSet" := E1_7.wr W10
  have F3_10 : Fld Z h10 a1 "com/example/earmark/earmark/ledger/PositionSet" "size" "I" (.int (0 : Int32)) := F3_7.other W10 (Or.inr (slot_ne (Or.inl (hw _ (List.mem_of_getElem? (i := 28) rfl))) (Or.inl (hw _ (List.mem_of_getElem? (i := 13) rfl))) (by decide) (t := .int) (t' := .int) (by decide) (by decide)))
  have V_b_10 : Arv Z h10 b k5 .int (2 : Int32) [(.int (0 : Int32)), (.int (0 : Int32))] (.int (0 : Int32)) := V_b_7.other W10 (Ne.symm ne_a1_b)
  have F_counts_a1_10 : Fld Z h10 a1 "com/example/earmark/earmark/ledger/PositionSet" "counts" "[I" (.ref b) := F_counts_a1_7.other W10 (Or.inr (slot_ne (Or.inl (hw _ (List.mem_of_getElem? (i := 11) rfl))) (Or.inl (hw _ (List.mem_of_getElem? (i := 13) rfl))) (by decide) (t := (.array .int)) (t' := .int) (by decide) (by decide)))
  have N10 := Fr.snoc X10 N7 g_a1
  have Z10 : n0 ≤ h10.size := Nat.le_trans Z7 (Keep.of_wr W10).1
  have F_capacity_a1_10 : Fld Z h10 a1 "com/example/earmark/earmark/ledger/PositionSet" "capacity" "I" (.int (1 : Int32)) := F2_7.same W10
  have pre11 := fun τ (κ : Steps p.tables e below (T10.setTop (mkF m 16 #[.val (.ref a1)] [])) τ) => pre9 τ (st10 _ κ)
  obtain ⟨fs, hr, hrun, hended, hW, hsame⟩ := X10.leave (v := none) (fun _ => rfl)
  refine ⟨_, _, pre11 _ ?_, hrun, hended, _, _, rfl, ?_, ⟨_, rfl⟩, hW, hsame.mono (by decide) (by decide)⟩
  · exact X10.returnOut hx Bd.returns (hb hby d1_16) hr
  · show Q1 Z a1 h0 n0 _ T10.heap _
    rw [e10]
    exact ⟨rfl, N10, b, k5, fun _ => 0, E1_10, F_counts_a1_10, F_capacity_a1_10, F3_10, V_b_10, fun j _ _ => by rw [own_cnt_nil]; rfl, nofun, by decide, g_a1, g_b, ne_a1_b⟩
set_option maxRecDepth 65536 in
set_option maxHeartbeats 40000000 in
theorem loopP {p : Program} {l : Launch} {e : Env} {R : Room} {s : State} {m : MethodId} {args : Array Value} {below : List Frame} {meth : Method} {c : Code} {Z : State} {a0 : Array Value} (hx : p.tables.exec = Jvm.exec) (hZ : Z.Warmed39 s.vm) (hw : ∀ d ∈ tables_1, d.before a0 Z = true) (hby : c.code = prog_101_method_7_code) (hml : c.maxLocals = 6) (hown : s.vm.findClass "com/example/earmark/earmark/ledger/PositionSet" = some m.cls) {locs : List Loc} {cells slots : Nat} {h0 : Heap} (sa ta : Addr) (k0 : ClassId) (ex : Nat) (S : List Nat) (f : Nat → Int32) (rk : Nat) (Fc : Fld Z h0 sa "com/example/earmark/earmark/ledger/PositionSet" "counts" "[I" (.ref ta)) (Fk : Fld Z h0 sa "com/example/earmark/earmark/ledger/PositionSet" "capacity" "I" (.int (Int32.ofNat (2 ^ ex)))) (Va : Arv Z h0 ta k0 .int (Int32.ofNat (2 ^ ex + 1)) (own_tab f (2 ^ ex + 1)) (.int (0 : Int32)))
    (hf : ∀ j, 0 < j → j ≤ 2 ^ ex → f j = Int32.ofNat (own_cnt S (j - own_low j) j)) (hS : ∀ p ∈ S, p < 2 ^ ex) (he8 : ex ≤ 8) (hrk : rk < S.length) (hlen : S.length ≤ 1000) :
    ∀ (k q : Nat) (s5 : Slot) (T0 : State), One s5 → k ≤ ex + 1 → q ≤ 2 ^ ex → q % 2 ^ k = 0 → own_cnt S 0 q ≤ rk → rk < own_cnt S 0 (q + 2 ^ k) → Stand p l e R s m args below meth c T0 locs cells slots → T0.heap = h0 →
      ∃ (T' : State) (q' : Nat) (s' : Slot) (z' : Int32), Stand p l e R s m args below meth c T' locs cells slots ∧ T'.heap = h0 ∧ q' ≤ 256 ∧ own_cnt S 0 q' ≤ rk ∧ rk < own_cnt S 0 (q' + 1) ∧
        ∀ t, Steps p.tables e below (T'.setTop (mkF m 63 #[.val (.ref sa), .val (.int (Int32.ofNat rk)), .val (.int (Int32.ofNat q')), .val (.int z'), .val (.int (0 : Int32)), s'] [])) t → Steps p.tables e below (T0.setTop (mkF m 10 #[.val (.ref sa), .val (.int (Int32.ofNat rk)), .val (.int (Int32.ofNat q)), .val (.int (Int32.ofNat (rk - own_cnt S 0 q))), .val (.int (Int32.ofNat (own_st k))), s5] [])) t := by
  intro k
  induction k with
  | zero =>
    intro q s5 T0 hs5 hk hq0 hmod hq1 hq2 X0 e0
    have hp8 := own_pow8 he8
    show ∃ (T' : State) (q' : Nat) (s' : Slot) (z' : Int32), Stand p l e R s m args below meth c T' locs cells slots ∧ T'.heap = h0 ∧ q' ≤ 256 ∧ own_cnt S 0 q' ≤ rk ∧ rk < own_cnt S 0 (q' + 1) ∧ ∀ t, Steps p.tables e below (T'.setTop (mkF m 63 #[.val (.ref sa), .val (.int (Int32.ofNat rk)), .val (.int (Int32.ofNat q')), .val (.int z'), .val (.int (0 : Int32)), s'] [])) t → Steps p.tables e below (T0.setTop (mkF m 10 #[.val (.ref sa), .val (.int (Int32.ofNat rk)), .val (.int (Int32.ofNat q)), .val (.int (Int32.ofNat (rk - own_cnt S 0 q))), .val (.int (0 : Int32)), s5] [])) t
    have pre0 := fun τ (κ : Steps p.tables e below (T0.setTop (mkF m 10 #[.val (.ref sa), .val (.int (Int32.ofNat rk)), .val (.int (Int32.ofNat q)), .val (.int (Int32.ofNat (rk - own_cnt S 0 q))), .val (.int (0 : Int32)), s5] [])) τ) => κ
    have pre1 := fun τ (κ : Steps p.tables e below (T0.setTop (mkF m 63 #[.val (.ref sa), .val (.int (Int32.ofNat rk)), .val (.int (Int32.ofNat q)), .val (.int (Int32.ofNat (rk - own_cnt S 0 q))), .val (.int (0 : Int32)), s5] [])) τ) => pre0 τ (by
      refine XS.iload X0.here hx rfl (hb hby d11_10) rfl ?_
      show Steps p.tables e below (T0.setTop (mkF m 12 #[.val (.ref sa), .val (.int (Int32.ofNat rk)), .val (.int (Int32.ofNat q)), .val (.int (Int32.ofNat (rk - own_cnt S 0 q))), .val (.int (0 : Int32)), s5] [(.int (0 : Int32))])) _
      refine XS.ifYes X0.here hx rfl (pc0 := 12) (pc' := 63) rfl (hb hby d11_12) rfl ((if0 _ _).trans (flt (by decide)).2.2.2) (by decide) (by decide) ?_
      show Steps p.tables e below (T0.setTop (mkF m 63 #[.val (.ref sa), .val (.int (Int32.ofNat rk)), .val (.int (Int32.ofNat q)), .val (.int (Int32.ofNat (rk - own_cnt S 0 q))), .val (.int (0 : Int32)), s5] [])) _
      exact κ)
    exact ⟨T0, q, s5, _, X0, e0, by omega, hq1, by simpa using hq2, pre1⟩
  | succ j ih =>
    intro q s5 T0 hs5 hk hq0 hmod hq1 hq2 X0 e0
    have pre0 := fun τ (κ : Steps p.tables e below (T0.setTop (mkF m 10 #[.val (.ref sa), .val (.int (Int32.ofNat rk)), .val (.int (Int32.ofNat q)), .val (.int (Int32.ofNat (rk - own_cnt S 0 q))), .val (.int (Int32.ofNat (2 ^ j))), s5] [])) τ) => κ
    have hm := own_mod hmod
    have h2 : 2 ^ (j + 1) = 2 * 2 ^ j := by rw [Nat.pow_succ, Nat.mul_comm]
    have hp8 := own_pow8 he8
    have hpj := own_pow8 (e := j) (by omega)
    have hje : 2 ^ j ≤ 2 ^ ex := Nat.pow_le_pow_right (by decide) (by omega)
    have hpos : (0 : Int32) < Int32.ofNat (2 ^ j) := (own_ltN (i := 0) (by omega) (by omega)).mpr (by omega)
    have hcl := own_cnt_le S 0 q
    have pre1 := fun τ (κ : Steps p.tables e below (T0.setTop (mkF m 19 #[.val (.ref sa), .val (.int (Int32.ofNat rk)), .val (.int (Int32.ofNat q)), .val (.int (Int32.ofNat (rk - own_cnt S 0 q))), .val (.int (Int32.ofNat (2 ^ j))), s5] [(.int ((Int32.ofNat q) + (Int32.ofNat (2 ^ j))))])) τ) => pre0 τ (by
      refine XS.iload X0.here hx rfl (hb hby d11_10) rfl ?_
      show Steps p.tables e below (T0.setTop (mkF m 12 #[.val (.ref sa), .val (.int (Int32.ofNat rk)), .val (.int (Int32.ofNat q)), .val (.int (Int32.ofNat (rk - own_cnt S 0 q))), .val (.int (Int32.ofNat (2 ^ j))), s5] [(.int (Int32.ofNat (2 ^ j)))])) _
      refine XS.ifNo X0.here hx rfl (hb hby d11_12) rfl ((if0 _ _).trans (tlt hpos).2.2.2) ?_
      show Steps p.tables e below (T0.setTop (mkF m 15 #[.val (.ref sa), .val (.int (Int32.ofNat rk)), .val (.int (Int32.ofNat q)), .val (.int (Int32.ofNat (rk - own_cnt S 0 q))), .val (.int (Int32.ofNat (2 ^ j))), s5] [])) _
      refine XS.iloadN X0.here hx rfl (hb hby d11_15) rfl ?_
      show Steps p.tables e below (T0.setTop (mkF m 16 #[.val (.ref sa), .val (.int (Int32.ofNat rk)), .val (.int (Int32.ofNat q)), .val (.int (Int32.ofNat (rk - own_cnt S 0 q))), .val (.int (Int32.ofNat (2 ^ j))), s5] [(.int (Int32.ofNat q))])) _
      refine XS.iload X0.here hx rfl (hb hby d11_16) rfl ?_
      show Steps p.tables e below (T0.setTop (mkF m 18 #[.val (.ref sa), .val (.int (Int32.ofNat rk)), .val (.int (Int32.ofNat q)), .val (.int (Int32.ofNat (rk - own_cnt S 0 q))), .val (.int (Int32.ofNat (2 ^ j))), s5] [(.int (Int32.ofNat (2 ^ j))), (.int (Int32.ofNat q))])) _
      refine XS.iadd X0.here hx rfl (hb hby d11_18) rfl ?_
      show Steps p.tables e below (T0.setTop (mkF m 19 #[.val (.ref sa), .val (.int (Int32.ofNat rk)), .val (.int (Int32.ofNat q)), .val (.int (Int32.ofNat (rk - own_cnt S 0 q))), .val (.int (Int32.ofNat (2 ^ j))), s5] [(.int ((Int32.ofNat q) + (Int32.ofNat (2 ^ j))))])) _
      exact κ)
    rw [show ((Int32.ofNat q) + (Int32.ofNat (2 ^ j))) = (Int32.ofNat (q + 2 ^ j)) from (own_addN _ _)] at pre1
    have pre2 := fun τ (κ : Steps p.tables e below (T0.setTop (mkF m 24 #[.val (.ref sa), .val (.int (Int32.ofNat rk)), .val (.int (Int32.ofNat q)), .val (.int (Int32.ofNat (rk - own_cnt S 0 q))), .val (.int (Int32.ofNat (2 ^ j))), .val (.int (Int32.ofNat (q + 2 ^ j)))] [(.ref sa), (.int (Int32.ofNat (q + 2 ^ j)))])) τ) => pre1 τ (by
      refine XS.istore X0.here hx rfl (hb hby d11_19) rfl (l' := #[.val (.ref sa), .val (.int (Int32.ofNat rk)), .val (.int (Int32.ofNat q)), .val (.int (Int32.ofNat (rk - own_cnt S 0 q))), .val (.int (Int32.ofNat (2 ^ j))), .val (.int (Int32.ofNat (q + 2 ^ j)))]) (own_s5 hs5) ?_
      show Steps p.tables e below (T0.setTop (mkF m 21 #[.val (.ref sa), .val (.int (Int32.ofNat rk)), .val (.int (Int32.ofNat q)), .val (.int (Int32.ofNat (rk - own_cnt S 0 q))), .val (.int (Int32.ofNat (2 ^ j))), .val (.int (Int32.ofNat (q + 2 ^ j)))] [])) _
      refine XS.iload X0.here hx rfl (hb hby d11_21) rfl ?_
      show Steps p.tables e below (T0.setTop (mkF m 23 #[.val (.ref sa), .val (.int (Int32.ofNat rk)), .val (.int (Int32.ofNat q)), .val (.int (Int32.ofNat (rk - own_cnt S 0 q))), .val (.int (Int32.ofNat (2 ^ j))), .val (.int (Int32.ofNat (q + 2 ^ j)))] [(.int (Int32.ofNat (q + 2 ^ j)))])) _
      refine XS.aloadN X0.here hx rfl (hb hby d11_23) rfl rfl ?_
      show Steps p.tables e below (T0.setTop (mkF m 24 #[.val (.ref sa), .val (.int (Int32.ofNat rk)), .val (.int (Int32.ofNat q)), .val (.int (Int32.ofNat (rk - own_cnt S 0 q))), .val (.int (Int32.ofNat (2 ^ j))), .val (.int (Int32.ofNat (q + 2 ^ j)))] [(.ref sa), (.int (Int32.ofNat (q + 2 ^ j)))])) _
      exact κ)
    obtain ⟨T3, X3, e3, st3⟩ := getF X0 hx hZ hown (host := "") (Or.inl (hw _ (List.mem_of_getElem? (i := 12) rfl))) Via.refl e0 Fk (g := (mkF m 24 #[.val (.ref sa), .val (.int (Int32.ofNat rk)), .val (.int (Int32.ofNat q)), .val (.int (Int32.ofNat (rk - own_cnt S 0 q))), .val (.int (Int32.ofNat (2 ^ j))), .val (.int (Int32.ofNat (q + 2 ^ j)))] [(.ref sa), (.int (Int32.ofNat (q + 2 ^ j)))])) rfl rfl (hb hby d11_24)
    have pre4 := fun τ (κ : Steps p.tables e below (T3.setTop (mkF m 27 #[.val (.ref sa), .val (.int (Int32.ofNat rk)), .val (.int (Int32.ofNat q)), .val (.int (Int32.ofNat (rk - own_cnt S 0 q))), .val (.int (Int32.ofNat (2 ^ j))), .val (.int (Int32.ofNat (q + 2 ^ j)))] [(.int (Int32.ofNat (2 ^ ex))), (.int (Int32.ofNat (q + 2 ^ j)))])) τ) => pre2 τ (st3 _ κ)
    by_cases hb1 : (Int32.ofNat (2 ^ ex)) < (Int32.ofNat (q + 2 ^ j))
    · have hcap : 2 ^ ex < q + 2 ^ j := (own_ltN (by omega) (by omega)).mp hb1
      have hall : own_cnt S 0 (q + 2 ^ j) = S.length := own_cnt_all fun p hp => ⟨Nat.zero_le _, by have := hS p hp; omega⟩
      have pre5 := fun τ (κ : Steps p.tables e below (T3.setTop (mkF m 58 #[.val (.ref sa), .val (.int (Int32.ofNat rk)), .val (.int (Int32.ofNat q)), .val (.int (Int32.ofNat (rk - own_cnt S 0 q))), .val (.int (Int32.ofNat (2 ^ j))), .val (.int (Int32.ofNat (q + 2 ^ j)))] [(.int ((Int32.ofNat (2 ^ j)) / (2 : Int32)))])) τ) => pre4 τ (by
        refine XS.icmpYes X3.here hx rfl (pc0 := 27) (pc' := 54) rfl (hb hby d11_27) rfl (tlt hb1).2.2.1 (by decide) (by decide) ?_
        show Steps p.tables e below (T3.setTop (mkF m 54 #[.val (.ref sa), .val (.int (Int32.ofNat rk)), .val (.int (Int32.ofNat q)), .val (.int (Int32.ofNat (rk - own_cnt S 0 q))), .val (.int (Int32.ofNat (2 ^ j))), .val (.int (Int32.ofNat (q + 2 ^ j)))] [])) _
        refine XS.iload X3.here hx rfl (hb hby d11_54) rfl ?_
        show Steps p.tables e below (T3.setTop (mkF m 56 #[.val (.ref sa), .val (.int (Int32.ofNat rk)), .val (.int (Int32.ofNat q)), .val (.int (Int32.ofNat (rk - own_cnt S 0 q))), .val (.int (Int32.ofNat (2 ^ j))), .val (.int (Int32.ofNat (q + 2 ^ j)))] [(.int (Int32.ofNat (2 ^ j)))])) _
        refine XS.iconst X3.here hx rfl (hb hby d11_56) ?_
        show Steps p.tables e below (T3.setTop (mkF m 57 #[.val (.ref sa), .val (.int (Int32.ofNat rk)), .val (.int (Int32.ofNat q)), .val (.int (Int32.ofNat (rk - own_cnt S 0 q))), .val (.int (Int32.ofNat (2 ^ j))), .val (.int (Int32.ofNat (q + 2 ^ j)))] [(.int (2 : Int32)), (.int (Int32.ofNat (2 ^ j)))])) _
        refine XS.idiv X3.here hx rfl (hb hby d11_57) rfl (by decide) ?_
        show Steps p.tables e below (T3.setTop (mkF m 58 #[.val (.ref sa), .val (.int (Int32.ofNat rk)), .val (.int (Int32.ofNat q)), .val (.int (Int32.ofNat (rk - own_cnt S 0 q))), .val (.int (Int32.ofNat (2 ^ j))), .val (.int (Int32.ofNat (q + 2 ^ j)))] [(.int ((Int32.ofNat (2 ^ j)) / (2 : Int32)))])) _
        exact κ)
      rw [show ((Int32.ofNat (2 ^ j)) / (2 : Int32)) = (Int32.ofNat (own_st j)) from (own_F7 j (by omega))] at pre5
      have pre6 := fun τ (κ : Steps p.tables e below (T3.setTop (mkF m 10 #[.val (.ref sa), .val (.int (Int32.ofNat rk)), .val (.int (Int32.ofNat q)), .val (.int (Int32.ofNat (rk - own_cnt S 0 q))), .val (.int (Int32.ofNat (own_st j))), .val (.int (Int32.ofNat (q + 2 ^ j)))] [])) τ) => pre5 τ (by
        refine XS.istore X3.here hx rfl (hb hby d11_58) rfl (l' := #[.val (.ref sa), .val (.int (Int32.ofNat rk)), .val (.int (Int32.ofNat q)), .val (.int (Int32.ofNat (rk - own_cnt S 0 q))), .val (.int (Int32.ofNat (own_st j))), .val (.int (Int32.ofNat (q + 2 ^ j)))]) rfl ?_
        show Steps p.tables e below (T3.setTop (mkF m 60 #[.val (.ref sa), .val (.int (Int32.ofNat rk)), .val (.int (Int32.ofNat q)), .val (.int (Int32.ofNat (rk - own_cnt S 0 q))), .val (.int (Int32.ofNat (own_st j))), .val (.int (Int32.ofNat (q + 2 ^ j)))] [])) _
        refine XS.goto X3.here hx rfl (pc0 := 60) (pc' := 10) rfl (hb hby d11_60) (by decide) (by decide) ?_
        show Steps p.tables e below (T3.setTop (mkF m 10 #[.val (.ref sa), .val (.int (Int32.ofNat rk)), .val (.int (Int32.ofNat q)), .val (.int (Int32.ofNat (rk - own_cnt S 0 q))), .val (.int (Int32.ofNat (own_st j))), .val (.int (Int32.ofNat (q + 2 ^ j)))] [])) _
        exact κ)
      obtain ⟨T', q', s', z', X', e', r0, r1, r2, st⟩ := ih q (.val (.int (Int32.ofNat (q + 2 ^ j)))) _ (One.val rfl) (by omega) hq0 hm.2.1 hq1 (by omega) X3 e3
      exact ⟨T', q', s', z', X', e', r0, r1, r2, fun τ κ => pre6 τ (st τ κ)⟩
    · have hcap : ¬ 2 ^ ex < q + 2 ^ j := fun z => hb1 ((own_ltN (by omega) (by omega)).mpr z)
      have hlow := own_F5 j (by omega) q (by omega) hm.1 (by omega)
      have hfn : f (q + 2 ^ j) = Int32.ofNat (own_cnt S q (q + 2 ^ j)) := by rw [hf (q + 2 ^ j) (by omega) (by omega), hlow, Nat.add_sub_cancel]
      have hadd := own_cnt_add S (a := 0) (b := q) (c := q + 2 ^ j) (by omega) (by omega)
      have hcn := own_cnt_le S q (q + 2 ^ j)
      have inb9 : ¬ (Int32.ofNat (q + 2 ^ j)) < 0 ∧ (Int32.ofNat (q + 2 ^ j)) < (Int32.ofNat (2 ^ ex + 1)) := ⟨own_nn (by omega), (own_ltN (by omega) (by omega)).mpr (by omega)⟩
      have pre7 := fun τ (κ : Steps p.tables e below (T3.setTop (mkF m 31 #[.val (.ref sa), .val (.int (Int32.ofNat rk)), .val (.int (Int32.ofNat q)), .val (.int (Int32.ofNat (rk - own_cnt S 0 q))), .val (.int (Int32.ofNat (2 ^ j))), .val (.int (Int32.ofNat (q + 2 ^ j)))] [(.ref sa)])) τ) => pre4 τ (by
        refine XS.icmpNo X3.here hx rfl (hb hby d11_27) rfl (flt hb1).2.2.1 ?_
        show Steps p.tables e below (T3.setTop (mkF m 30 #[.val (.ref sa), .val (.int (Int32.ofNat rk)), .val (.int (Int32.ofNat q)), .val (.int (Int32.ofNat (rk - own_cnt S 0 q))), .val (.int (Int32.ofNat (2 ^ j))), .val (.int (Int32.ofNat (q + 2 ^ j)))] [])) _
        refine XS.aloadN X3.here hx rfl (hb hby d11_30) rfl rfl ?_
        show Steps p.tables e below (T3.setTop (mkF m 31 #[.val (.ref sa), .val (.int (Int32.ofNat rk)), .val (.int (Int32.ofNat q)), .val (.int (Int32.ofNat (rk - own_cnt S 0 q))), .val (.int (Int32.ofNat (2 ^ j))), .val (.int (Int32.ofNat (q + 2 ^ j)))] [(.ref sa)])) _
        exact κ)
      obtain ⟨T8, X8, e8, st8⟩ := getF X3 hx hZ hown (host := "") (Or.inl (hw _ (List.mem_of_getElem? (i := 10) rfl))) Via.refl e3 Fc (g := (mkF m 31 #[.val (.ref sa), .val (.int (Int32.ofNat rk)), .val (.int (Int32.ofNat q)), .val (.int (Int32.ofNat (rk - own_cnt S 0 q))), .val (.int (Int32.ofNat (2 ^ j))), .val (.int (Int32.ofNat (q + 2 ^ j)))] [(.ref sa)])) rfl rfl (hb hby d11_31)
      have pre9 := fun τ (κ : Steps p.tables e below (T8.setTop (mkF m 34 #[.val (.ref sa), .val (.int (Int32.ofNat rk)), .val (.int (Int32.ofNat q)), .val (.int (Int32.ofNat (rk - own_cnt S 0 q))), .val (.int (Int32.ofNat (2 ^ j))), .val (.int (Int32.ofNat (q + 2 ^ j)))] [(.ref ta)])) τ) => pre7 τ (st8 _ κ)
      have pre10 := fun τ (κ : Steps p.tables e below (T8.setTop (mkF m 36 #[.val (.ref sa), .val (.int (Int32.ofNat rk)), .val (.int (Int32.ofNat q)), .val (.int (Int32.ofNat (rk - own_cnt S 0 q))), .val (.int (Int32.ofNat (2 ^ j))), .val (.int (Int32.ofNat (q + 2 ^ j)))] [(.int (Int32.ofNat (q + 2 ^ j))), (.ref ta)])) τ) => pre9 τ (by
        refine XS.iload X8.here hx rfl (hb hby d11_34) rfl ?_
        show Steps p.tables e below (T8.setTop (mkF m 36 #[.val (.ref sa), .val (.int (Int32.ofNat rk)), .val (.int (Int32.ofNat q)), .val (.int (Int32.ofNat (rk - own_cnt S 0 q))), .val (.int (Int32.ofNat (2 ^ j))), .val (.int (Int32.ofNat (q + 2 ^ j)))] [(.int (Int32.ofNat (q + 2 ^ j))), (.ref ta)])) _
        exact κ)
      obtain ⟨cl11, Ar11, -, S11, M11, H11, -⟩ := id Va
      have in11 : ¬ ((Int32.ofNat (q + 2 ^ j)) < 0 ∨ cl11.slots.size ≤ ((Int32.ofNat (q + 2 ^ j))).toNatClampNeg) := inb_of S11 inb9
      have at11 : cl11.slots[((Int32.ofNat (q + 2 ^ j))).toNatClampNeg]? = some (.int (Int32.ofNat (own_cnt S q (q + 2 ^ j)))) := H11.at in11 (by rw [own_clamp (by omega), own_tab_get (by omega), hfn])
      have pre12 := fun τ (κ : Steps p.tables e below (T8.setTop (mkF m 38 #[.val (.ref sa), .val (.int (Int32.ofNat rk)), .val (.int (Int32.ofNat q)), .val (.int (Int32.ofNat (rk - own_cnt S 0 q))), .val (.int (Int32.ofNat (2 ^ j))), .val (.int (Int32.ofNat (q + 2 ^ j)))] [(.int (Int32.ofNat (rk - own_cnt S 0 q))), (.int (Int32.ofNat (own_cnt S q (q + 2 ^ j))))])) τ) => pre10 τ (by
        refine X8.iaload hx (j := (Int32.ofNat (q + 2 ^ j))) (v := (.int (Int32.ofNat (own_cnt S q (q + 2 ^ j))))) (by rw [e8]; exact Ar11.1) (State.isArrayOf_alike hZ.alike Ar11.2.1) Ar11.2.2 in11 at11 (g := (mkF m 36 #[.val (.ref sa), .val (.int (Int32.ofNat rk)), .val (.int (Int32.ofNat q)), .val (.int (Int32.ofNat (rk - own_cnt S 0 q))), .val (.int (Int32.ofNat (2 ^ j))), .val (.int (Int32.ofNat (q + 2 ^ j)))] [(.int (Int32.ofNat (q + 2 ^ j))), (.ref ta)])) rfl rfl (hb hby d11_36) _ ?_
        show Steps p.tables e below (T8.setTop (mkF m 37 #[.val (.ref sa), .val (.int (Int32.ofNat rk)), .val (.int (Int32.ofNat q)), .val (.int (Int32.ofNat (rk - own_cnt S 0 q))), .val (.int (Int32.ofNat (2 ^ j))), .val (.int (Int32.ofNat (q + 2 ^ j)))] [(.int (Int32.ofNat (own_cnt S q (q + 2 ^ j))))])) _
        refine XS.iloadN X8.here hx rfl (hb hby d11_37) rfl ?_
        show Steps p.tables e below (T8.setTop (mkF m 38 #[.val (.ref sa), .val (.int (Int32.ofNat rk)), .val (.int (Int32.ofNat q)), .val (.int (Int32.ofNat (rk - own_cnt S 0 q))), .val (.int (Int32.ofNat (2 ^ j))), .val (.int (Int32.ofNat (q + 2 ^ j)))] [(.int (Int32.ofNat (rk - own_cnt S 0 q))), (.int (Int32.ofNat (own_cnt S q (q + 2 ^ j))))])) _
        exact κ)
      by_cases hb2 : (Int32.ofNat (rk - own_cnt S 0 q)) < (Int32.ofNat (own_cnt S q (q + 2 ^ j)))
      · have hgo : rk - own_cnt S 0 q < own_cnt S q (q + 2 ^ j) := (own_ltN (by omega) (by omega)).mp hb2
        have pre13 := fun τ (κ : Steps p.tables e below (T8.setTop (mkF m 58 #[.val (.ref sa), .val (.int (Int32.ofNat rk)), .val (.int (Int32.ofNat q)), .val (.int (Int32.ofNat (rk - own_cnt S 0 q))), .val (.int (Int32.ofNat (2 ^ j))), .val (.int (Int32.ofNat (q + 2 ^ j)))] [(.int ((Int32.ofNat (2 ^ j)) / (2 : Int32)))])) τ) => pre12 τ (by
          refine XS.icmpYes X8.here hx rfl (pc0 := 38) (pc' := 54) rfl (hb hby d11_38) rfl (tlt hb2).2.2.1 (by decide) (by decide) ?_
          show Steps p.tables e below (T8.setTop (mkF m 54 #[.val (.ref sa), .val (.int (Int32.ofNat rk)), .val (.int (Int32.ofNat q)), .val (.int (Int32.ofNat (rk - own_cnt S 0 q))), .val (.int (Int32.ofNat (2 ^ j))), .val (.int (Int32.ofNat (q + 2 ^ j)))] [])) _
          refine XS.iload X8.here hx rfl (hb hby d11_54) rfl ?_
          show Steps p.tables e below (T8.setTop (mkF m 56 #[.val (.ref sa), .val (.int (Int32.ofNat rk)), .val (.int (Int32.ofNat q)), .val (.int (Int32.ofNat (rk - own_cnt S 0 q))), .val (.int (Int32.ofNat (2 ^ j))), .val (.int (Int32.ofNat (q + 2 ^ j)))] [(.int (Int32.ofNat (2 ^ j)))])) _
          refine XS.iconst X8.here hx rfl (hb hby d11_56) ?_
          show Steps p.tables e below (T8.setTop (mkF m 57 #[.val (.ref sa), .val (.int (Int32.ofNat rk)), .val (.int (Int32.ofNat q)), .val (.int (Int32.ofNat (rk - own_cnt S 0 q))), .val (.int (Int32.ofNat (2 ^ j))), .val (.int (Int32.ofNat (q + 2 ^ j)))] [(.int (2 : Int32)), (.int (Int32.ofNat (2 ^ j)))])) _
          refine XS.idiv X8.here hx rfl (hb hby d11_57) rfl (by decide) ?_
          show Steps p.tables e below (T8.setTop (mkF m 58 #[.val (.ref sa), .val (.int (Int32.ofNat rk)), .val (.int (Int32.ofNat q)), .val (.int (Int32.ofNat (rk - own_cnt S 0 q))), .val (.int (Int32.ofNat (2 ^ j))), .val (.int (Int32.ofNat (q + 2 ^ j)))] [(.int ((Int32.ofNat (2 ^ j)) / (2 : Int32)))])) _
          exact κ)
        rw [show ((Int32.ofNat (2 ^ j)) / (2 : Int32)) = (Int32.ofNat (own_st j)) from (own_F7 j (by omega))] at pre13
        have pre14 := fun τ (κ : Steps p.tables e below (T8.setTop (mkF m 10 #[.val (.ref sa), .val (.int (Int32.ofNat rk)), .val (.int (Int32.ofNat q)), .val (.int (Int32.ofNat (rk - own_cnt S 0 q))), .val (.int (Int32.ofNat (own_st j))), .val (.int (Int32.ofNat (q + 2 ^ j)))] [])) τ) => pre13 τ (by
          refine XS.istore X8.here hx rfl (hb hby d11_58) rfl (l' := #[.val (.ref sa), .val (.int (Int32.ofNat rk)), .val (.int (Int32.ofNat q)), .val (.int (Int32.ofNat (rk - own_cnt S 0 q))), .val (.int (Int32.ofNat (own_st j))), .val (.int (Int32.ofNat (q + 2 ^ j)))]) rfl ?_
          show Steps p.tables e below (T8.setTop (mkF m 60 #[.val (.ref sa), .val (.int (Int32.ofNat rk)), .val (.int (Int32.ofNat q)), .val (.int (Int32.ofNat (rk - own_cnt S 0 q))), .val (.int (Int32.ofNat (own_st j))), .val (.int (Int32.ofNat (q + 2 ^ j)))] [])) _
          refine XS.goto X8.here hx rfl (pc0 := 60) (pc' := 10) rfl (hb hby d11_60) (by decide) (by decide) ?_
          show Steps p.tables e below (T8.setTop (mkF m 10 #[.val (.ref sa), .val (.int (Int32.ofNat rk)), .val (.int (Int32.ofNat q)), .val (.int (Int32.ofNat (rk - own_cnt S 0 q))), .val (.int (Int32.ofNat (own_st j))), .val (.int (Int32.ofNat (q + 2 ^ j)))] [])) _
          exact κ)
        obtain ⟨T', q', s', z', X', e', r0, r1, r2, st⟩ := ih q (.val (.int (Int32.ofNat (q + 2 ^ j)))) _ (One.val rfl) (by omega) hq0 hm.2.1 hq1 (by omega) X8 e8
        exact ⟨T', q', s', z', X', e', r0, r1, r2, fun τ κ => pre14 τ (st τ κ)⟩
      · have hgo : ¬ rk - own_cnt S 0 q < own_cnt S q (q + 2 ^ j) := fun z => hb2 ((own_ltN (by omega) (by omega)).mpr z)
        have pre15 := fun τ (κ : Steps p.tables e below (T8.setTop (mkF m 46 #[.val (.ref sa), .val (.int (Int32.ofNat rk)), .val (.int (Int32.ofNat (q + 2 ^ j))), .val (.int (Int32.ofNat (rk - own_cnt S 0 q))), .val (.int (Int32.ofNat (2 ^ j))), .val (.int (Int32.ofNat (q + 2 ^ j)))] [(.ref sa), (.int (Int32.ofNat (rk - own_cnt S 0 q)))])) τ) => pre12 τ (by
          refine XS.icmpNo X8.here hx rfl (hb hby d11_38) rfl (flt hb2).2.2.1 ?_
          show Steps p.tables e below (T8.setTop (mkF m 41 #[.val (.ref sa), .val (.int (Int32.ofNat rk)), .val (.int (Int32.ofNat q)), .val (.int (Int32.ofNat (rk - own_cnt S 0 q))), .val (.int (Int32.ofNat (2 ^ j))), .val (.int (Int32.ofNat (q + 2 ^ j)))] [])) _
          refine XS.iload X8.here hx rfl (hb hby d11_41) rfl ?_
          show Steps p.tables e below (T8.setTop (mkF m 43 #[.val (.ref sa), .val (.int (Int32.ofNat rk)), .val (.int (Int32.ofNat q)), .val (.int (Int32.ofNat (rk - own_cnt S 0 q))), .val (.int (Int32.ofNat (2 ^ j))), .val (.int (Int32.ofNat (q + 2 ^ j)))] [(.int (Int32.ofNat (q + 2 ^ j)))])) _
          refine XS.istoreN X8.here hx rfl (hb hby d11_43) rfl (l' := #[.val (.ref sa), .val (.int (Int32.ofNat rk)), .val (.int (Int32.ofNat (q + 2 ^ j))), .val (.int (Int32.ofNat (rk - own_cnt S 0 q))), .val (.int (Int32.ofNat (2 ^ j))), .val (.int (Int32.ofNat (q + 2 ^ j)))]) rfl ?_
          show Steps p.tables e below (T8.setTop (mkF m 44 #[.val (.ref sa), .val (.int (Int32.ofNat rk)), .val (.int (Int32.ofNat (q + 2 ^ j))), .val (.int (Int32.ofNat (rk - own_cnt S 0 q))), .val (.int (Int32.ofNat (2 ^ j))), .val (.int (Int32.ofNat (q + 2 ^ j)))] [])) _
          refine XS.iloadN X8.here hx rfl (hb hby d11_44) rfl ?_
          show Steps p.tables e below (T8.setTop (mkF m 45 #[.val (.ref sa), .val (.int (Int32.ofNat rk)), .val (.int (Int32.ofNat (q + 2 ^ j))), .val (.int (Int32.ofNat (rk - own_cnt S 0 q))), .val (.int (Int32.ofNat (2 ^ j))), .val (.int (Int32.ofNat (q + 2 ^ j)))] [(.int (Int32.ofNat (rk - own_cnt S 0 q)))])) _
          refine XS.aloadN X8.here hx rfl (hb hby d11_45) rfl rfl ?_
          show Steps p.tables e below (T8.setTop (mkF m 46 #[.val (.ref sa), .val (.int (Int32.ofNat rk)), .val (.int (Int32.ofNat (q + 2 ^ j))), .val (.int (Int32.ofNat (rk - own_cnt S 0 q))), .val (.int (Int32.ofNat (2 ^ j))), .val (.int (Int32.ofNat (q + 2 ^ j)))] [(.ref sa), (.int (Int32.ofNat (rk - own_cnt S 0 q)))])) _
          exact κ)
        obtain ⟨T16, X16, e16, st16⟩ := getF X8 hx hZ hown (host := "") (Or.inl (hw _ (List.mem_of_getElem? (i := 10) rfl))) Via.refl e8 Fc (g := (mkF m 46 #[.val (.ref sa), .val (.int (Int32.ofNat rk)), .val (.int (Int32.ofNat (q + 2 ^ j))), .val (.int (Int32.ofNat (rk - own_cnt S 0 q))), .val (.int (Int32.ofNat (2 ^ j))), .val (.int (Int32.ofNat (q + 2 ^ j)))] [(.ref sa), (.int (Int32.ofNat (rk - own_cnt S 0 q)))])) rfl rfl (hb hby d11_46)
        have pre17 := fun τ (κ : Steps p.tables e below (T16.setTop (mkF m 49 #[.val (.ref sa), .val (.int (Int32.ofNat rk)), .val (.int (Int32.ofNat (q + 2 ^ j))), .val (.int (Int32.ofNat (rk - own_cnt S 0 q))), .val (.int (Int32.ofNat (2 ^ j))), .val (.int (Int32.ofNat (q + 2 ^ j)))] [(.ref ta), (.int (Int32.ofNat (rk - own_cnt S 0 q)))])) τ) => pre15 τ (st16 _ κ)
        have pre18 := fun τ (κ : Steps p.tables e below (T16.setTop (mkF m 51 #[.val (.ref sa), .val (.int (Int32.ofNat rk)), .val (.int (Int32.ofNat (q + 2 ^ j))), .val (.int (Int32.ofNat (rk - own_cnt S 0 q))), .val (.int (Int32.ofNat (2 ^ j))), .val (.int (Int32.ofNat (q + 2 ^ j)))] [(.int (Int32.ofNat (q + 2 ^ j))), (.ref ta), (.int (Int32.ofNat (rk - own_cnt S 0 q)))])) τ) => pre17 τ (by
          refine XS.iload X16.here hx rfl (hb hby d11_49) rfl ?_
          show Steps p.tables e below (T16.setTop (mkF m 51 #[.val (.ref sa), .val (.int (Int32.ofNat rk)), .val (.int (Int32.ofNat (q + 2 ^ j))), .val (.int (Int32.ofNat (rk - own_cnt S 0 q))), .val (.int (Int32.ofNat (2 ^ j))), .val (.int (Int32.ofNat (q + 2 ^ j)))] [(.int (Int32.ofNat (q + 2 ^ j))), (.ref ta), (.int (Int32.ofNat (rk - own_cnt S 0 q)))])) _
          exact κ)
        obtain ⟨cl19, Ar19, -, S19, M19, H19, -⟩ := id Va
        have in19 : ¬ ((Int32.ofNat (q + 2 ^ j)) < 0 ∨ cl19.slots.size ≤ ((Int32.ofNat (q + 2 ^ j))).toNatClampNeg) := inb_of S19 inb9
        have at19 : cl19.slots[((Int32.ofNat (q + 2 ^ j))).toNatClampNeg]? = some (.int (Int32.ofNat (own_cnt S q (q + 2 ^ j)))) := H19.at in19 (by rw [own_clamp (by omega), own_tab_get (by omega), hfn])
        have pre20 := fun τ (κ : Steps p.tables e below (T16.setTop (mkF m 53 #[.val (.ref sa), .val (.int (Int32.ofNat rk)), .val (.int (Int32.ofNat (q + 2 ^ j))), .val (.int (Int32.ofNat (rk - own_cnt S 0 q))), .val (.int (Int32.ofNat (2 ^ j))), .val (.int (Int32.ofNat (q + 2 ^ j)))] [(.int ((Int32.ofNat (rk - own_cnt S 0 q)) - (Int32.ofNat (own_cnt S q (q + 2 ^ j)))))])) τ) => pre18 τ (by
          refine X16.iaload hx (j := (Int32.ofNat (q + 2 ^ j))) (v := (.int (Int32.ofNat (own_cnt S q (q + 2 ^ j))))) (by rw [e16]; exact Ar19.1) (State.isArrayOf_alike hZ.alike Ar19.2.1) Ar19.2.2 in19 at19 (g := (mkF m 51 #[.val (.ref sa), .val (.int (Int32.ofNat rk)), .val (.int (Int32.ofNat (q + 2 ^ j))), .val (.int (Int32.ofNat (rk - own_cnt S 0 q))), .val (.int (Int32.ofNat (2 ^ j))), .val (.int (Int32.ofNat (q + 2 ^ j)))] [(.int (Int32.ofNat (q + 2 ^ j))), (.ref ta), (.int (Int32.ofNat (rk - own_cnt S 0 q)))])) rfl rfl (hb hby d11_51) _ ?_
          show Steps p.tables e below (T16.setTop (mkF m 52 #[.val (.ref sa), .val (.int (Int32.ofNat rk)), .val (.int (Int32.ofNat (q + 2 ^ j))), .val (.int (Int32.ofNat (rk - own_cnt S 0 q))), .val (.int (Int32.ofNat (2 ^ j))), .val (.int (Int32.ofNat (q + 2 ^ j)))] [(.int (Int32.ofNat (own_cnt S q (q + 2 ^ j)))), (.int (Int32.ofNat (rk - own_cnt S 0 q)))])) _
          refine XS.isub X16.here hx rfl (hb hby d11_52) rfl ?_
          show Steps p.tables e below (T16.setTop (mkF m 53 #[.val (.ref sa), .val (.int (Int32.ofNat rk)), .val (.int (Int32.ofNat (q + 2 ^ j))), .val (.int (Int32.ofNat (rk - own_cnt S 0 q))), .val (.int (Int32.ofNat (2 ^ j))), .val (.int (Int32.ofNat (q + 2 ^ j)))] [(.int ((Int32.ofNat (rk - own_cnt S 0 q)) - (Int32.ofNat (own_cnt S q (q + 2 ^ j)))))])) _
          exact κ)
        rw [show ((Int32.ofNat (rk - own_cnt S 0 q)) - (Int32.ofNat (own_cnt S q (q + 2 ^ j)))) = (Int32.ofNat (rk - own_cnt S 0 (q + 2 ^ j))) from (by rw [own_subN (by omega)]; congr 1; omega)] at pre20
        have pre21 := fun τ (κ : Steps p.tables e below (T16.setTop (mkF m 58 #[.val (.ref sa), .val (.int (Int32.ofNat rk)), .val (.int (Int32.ofNat (q + 2 ^ j))), .val (.int (Int32.ofNat (rk - own_cnt S 0 (q + 2 ^ j)))), .val (.int (Int32.ofNat (2 ^ j))), .val (.int (Int32.ofNat (q + 2 ^ j)))] [(.int ((Int32.ofNat (2 ^ j)) / (2 : Int32)))])) τ) => pre20 τ (by
          refine XS.istoreN X16.here hx rfl (hb hby d11_53) rfl (l' := #[.val (.ref sa), .val (.int (Int32.ofNat rk)), .val (.int (Int32.ofNat (q + 2 ^ j))), .val (.int (Int32.ofNat (rk - own_cnt S 0 (q + 2 ^ j)))), .val (.int (Int32.ofNat (2 ^ j))), .val (.int (Int32.ofNat (q + 2 ^ j)))]) rfl ?_
          show Steps p.tables e below (T16.setTop (mkF m 54 #[.val (.ref sa), .val (.int (Int32.ofNat rk)), .val (.int (Int32.ofNat (q + 2 ^ j))), .val (.int (Int32.ofNat (rk - own_cnt S 0 (q + 2 ^ j)))), .val (.int (Int32.ofNat (2 ^ j))), .val (.int (Int32.ofNat (q + 2 ^ j)))] [])) _
          refine XS.iload X16.here hx rfl (hb hby d11_54) rfl ?_
          show Steps p.tables e below (T16.setTop (mkF m 56 #[.val (.ref sa), .val (.int (Int32.ofNat rk)), .val (.int (Int32.ofNat (q + 2 ^ j))), .val (.int (Int32.ofNat (rk - own_cnt S 0 (q + 2 ^ j)))), .val (.int (Int32.ofNat (2 ^ j))), .val (.int (Int32.ofNat (q + 2 ^ j)))] [(.int (Int32.ofNat (2 ^ j)))])) _
          refine XS.iconst X16.here hx rfl (hb hby d11_56) ?_
          show Steps p.tables e below (T16.setTop (mkF m 57 #[.val (.ref sa), .val (.int (Int32.ofNat rk)), .val (.int (Int32.ofNat (q + 2 ^ j))), .val (.int (Int32.ofNat (rk - own_cnt S 0 (q + 2 ^ j)))), .val (.int (Int32.ofNat (2 ^ j))), .val (.int (Int32.ofNat (q + 2 ^ j)))] [(.int (2 : Int32)), (.int (Int32.ofNat (2 ^ j)))])) _
          refine XS.idiv X16.here hx rfl (hb hby d11_57) rfl (by decide) ?_
          show Steps p.tables e below (T16.setTop (mkF m 58 #[.val (.ref sa), .val (.int (Int32.ofNat rk)), .val (.int (Int32.ofNat (q + 2 ^ j))), .val (.int (Int32.ofNat (rk - own_cnt S 0 (q + 2 ^ j)))), .val (.int (Int32.ofNat (2 ^ j))), .val (.int (Int32.ofNat (q + 2 ^ j)))] [(.int ((Int32.ofNat (2 ^ j)) / (2 : Int32)))])) _
          exact κ)
        rw [show ((Int32.ofNat (2 ^ j)) / (2 : Int32)) = (Int32.ofNat (own_st j)) from (own_F7 j (by omega))] at pre21
        have pre22 := fun τ (κ : Steps p.tables e below (T16.setTop (mkF m 10 #[.val (.ref sa), .val (.int (Int32.ofNat rk)), .val (.int (Int32.ofNat (q + 2 ^ j))), .val (.int (Int32.ofNat (rk - own_cnt S 0 (q + 2 ^ j)))), .val (.int (Int32.ofNat (own_st j))), .val (.int (Int32.ofNat (q + 2 ^ j)))] [])) τ) => pre21 τ (by
          refine XS.istore X16.here hx rfl (hb hby d11_58) rfl (l' := #[.val (.ref sa), .val (.int (Int32.ofNat rk)), .val (.int (Int32.ofNat (q + 2 ^ j))), .val (.int (Int32.ofNat (rk - own_cnt S 0 (q + 2 ^ j)))), .val (.int (Int32.ofNat (own_st j))), .val (.int (Int32.ofNat (q + 2 ^ j)))]) rfl ?_
          show Steps p.tables e below (T16.setTop (mkF m 60 #[.val (.ref sa), .val (.int (Int32.ofNat rk)), .val (.int (Int32.ofNat (q + 2 ^ j))), .val (.int (Int32.ofNat (rk - own_cnt S 0 (q + 2 ^ j)))), .val (.int (Int32.ofNat (own_st j))), .val (.int (Int32.ofNat (q + 2 ^ j)))] [])) _
          refine XS.goto X16.here hx rfl (pc0 := 60) (pc' := 10) rfl (hb hby d11_60) (by decide) (by decide) ?_
          show Steps p.tables e below (T16.setTop (mkF m 10 #[.val (.ref sa), .val (.int (Int32.ofNat rk)), .val (.int (Int32.ofNat (q + 2 ^ j))), .val (.int (Int32.ofNat (rk - own_cnt S 0 (q + 2 ^ j)))), .val (.int (Int32.ofNat (own_st j))), .val (.int (Int32.ofNat (q + 2 ^ j)))] [])) _
          exact κ)
        obtain ⟨T', q', s', z', X', e', r0, r1, r2, st⟩ := ih (q + 2 ^ j) (.val (.int (Int32.ofNat (q + 2 ^ j)))) _ (One.val rfl) (by omega) (by omega) hm.2.2 (by omega) (by rw [Nat.add_assoc, ← Nat.two_mul, ← h2]; exact hq2) X16 e16
        exact ⟨T', q', s', z', X', e', r0, r1, r2, fun τ κ => pre22 τ (st τ κ)⟩
theorem ef_11 (m : MethodId) (a1 : Addr) (rk : Nat) (ex : Nat) : entryFrame m #[(.ref a1), (.int (Int32.ofNat rk))] 6 = mkF m 0 #[.val (.ref a1), .val (.int (Int32.ofNat rk)), .unset, .unset, .unset, .unset] [] := by first | (simp [entryFrame, mkF, argsToLocals, Value.category]; done) | rfl
def Q11 (Z : State) (a1 : Addr) (rk : Nat) (ex : Nat) (S : List Nat) (h0 : Heap) (n0 : Nat) (v : Option Value) (h : Heap) (L : List Loc) : Prop := ∃ q : Nat, v = some (.int (Int32.ofNat q)) ∧ Fr n0 L ∧ h = h0 ∧ q ≤ 256 ∧ own_cnt S 0 q ≤ rk ∧ rk < own_cnt S 0 (q + 1)
set_option maxRecDepth 65536 in
set_option maxHeartbeats 40000000 in
theorem rm11 (l : Launch) (Z : State) (a0 : Array Value) (hw : ∀ d ∈ tables_1, d.before a0 Z = true) (ws : List Jvm.Cond) (a1 : Addr) (rk : Nat) (ex : Nat) (S : List Nat) (h0 : Heap) (n0 : Nat) (Z0 : n0 ≤ h0.size) (P0 : own_PS Z h0 a1 ex S n0) (hrk : rk < S.length) (hlen : S.length ≤ 1000) :
    MetFree l (⟨"com/example/earmark/earmark/ledger/PositionSet", "position", "(I)I"⟩ : MethodName) (head1 (Jvm.Cond.code (⟨"com/example/earmark/earmark/ledger/PositionSet", "position", "(I)I"⟩ : MethodName) prog_101_method_7_code 6 (some .int) :: ws) ({ frames := 0, cells := 0, slots := 0, locals := 0 } : Room)) (fun α υ => α = #[(.ref a1), (.int (Int32.ofNat rk))] ∧ Z.Warmed39 υ.vm ∧ υ.heap = h0) (fun _ _ _ _ _ => True) (fun _ υ ω υ' => ∃ v L, ω = .returned v ∧ Q11 Z a1 rk ex S h0 n0 v υ'.heap L ∧ FrameEnd υ ω υ' L ({ frames := 0, cells := 0, slots := 0, locals := 0 } : Room).cells ({ frames := 0, cells := 0, slots := 0, locals := 0 } : Room).slots) := by
  refine MetFree.of_bodySF (plainFor_of_name pn_com_example_earmark_earmark_ledger_PositionSet) hisR ?_
  intro p e s m args below meth c s₁ Bd hml0 hP hK
  obtain ⟨rfl, hZ, hh⟩ := hP
  have hx := Bd.exec
  have hby := Bd.bytes
  have hml : c.maxLocals = 6 := hml0
  have hown : s.vm.findClass "com/example/earmark/earmark/ledger/PositionSet" = some m.cls := findClass_of_methodNamed Bd.named
  have hnm := (name_of_methodNamed Bd.named Bd.method).1
  have X0 : Stand p l e ({ frames := 0, cells := 0, slots := 0, locals := 0 } : Room) s m #[(.ref a1), (.int (Int32.ofNat rk))] below meth c s₁ [] 0 0 := Stand.of_body Bd
  have e0 : s₁.heap = h0 := by rw [← hh, Bd.state]; rfl
  have N0 := Fr.nil n0
  have pre0 : ∀ τ, Steps p.tables e below (s₁.setTop (mkF m 0 #[.val (.ref a1), .val (.int (Int32.ofNat rk)), .unset, .unset, .unset, .unset] [])) τ → Steps p.tables e below (s₁.setTop (entryFrame m #[(.ref a1), (.int (Int32.ofNat rk))] 6)) τ := fun τ κ => castTop (ef_11 m a1 rk ex) κ
  obtain ⟨ta, k0, f, E_s, Fc, Fk, Fz, Va, hf, hS, he8, gs, gt, hst⟩ := P0
  have pre1 := fun τ (κ : Steps p.tables e below (s₁.setTop (mkF m 5 #[.val (.ref a1), .val (.int (Int32.ofNat rk)), .val (.int (0 : Int32)), .val (.int (Int32.ofNat rk)), .unset, .unset] [(.ref a1)])) τ) => pre0 τ (by
    refine XS.iconst X0.here hx rfl (hb hby d11_0) ?_
    show Steps p.tables e below (s₁.setTop (mkF m 1 #[.val (.ref a1), .val (.int (Int32.ofNat rk)), .unset, .unset, .unset, .unset] [(.int (0 : Int32))])) _
    refine XS.istoreN X0.here hx rfl (hb hby d11_1) rfl (l' := #[.val (.ref a1), .val (.int (Int32.ofNat rk)), .val (.int (0 : Int32)), .unset, .unset, .unset]) rfl ?_
    show Steps p.tables e below (s₁.setTop (mkF m 2 #[.val (.ref a1), .val (.int (Int32.ofNat rk)), .val (.int (0 : Int32)), .unset, .unset, .unset] [])) _
    refine XS.iloadN X0.here hx rfl (hb hby d11_2) rfl ?_
    show Steps p.tables e below (s₁.setTop (mkF m 3 #[.val (.ref a1), .val (.int (Int32.ofNat rk)), .val (.int (0 : Int32)), .unset, .unset, .unset] [(.int (Int32.ofNat rk))])) _
    refine XS.istoreN X0.here hx rfl (hb hby d11_3) rfl (l' := #[.val (.ref a1), .val (.int (Int32.ofNat rk)), .val (.int (0 : Int32)), .val (.int (Int32.ofNat rk)), .unset, .unset]) rfl ?_
    show Steps p.tables e below (s₁.setTop (mkF m 4 #[.val (.ref a1), .val (.int (Int32.ofNat rk)), .val (.int (0 : Int32)), .val (.int (Int32.ofNat rk)), .unset, .unset] [])) _
    refine XS.aloadN X0.here hx rfl (hb hby d11_4) rfl rfl ?_
    show Steps p.tables e below (s₁.setTop (mkF m 5 #[.val (.ref a1), .val (.int (Int32.ofNat rk)), .val (.int (0 : Int32)), .val (.int (Int32.ofNat rk)), .unset, .unset] [(.ref a1)])) _
    exact κ)
  obtain ⟨T2, X2, e2, st2⟩ := getF X0 hx hZ hown (host := "") (Or.inl (hw _ (List.mem_of_getElem? (i := 12) rfl))) Via.refl e0 Fk (g := (mkF m 5 #[.val (.ref a1), .val (.int (Int32.ofNat rk)), .val (.int (0 : Int32)), .val (.int (Int32.ofNat rk)), .unset, .unset] [(.ref a1)])) rfl rfl (hb hby d11_5)
  have pre3 := fun τ (κ : Steps p.tables e below (T2.setTop (mkF m 8 #[.val (.ref a1), .val (.int (Int32.ofNat rk)), .val (.int (0 : Int32)), .val (.int (Int32.ofNat rk)), .unset, .unset] [(.int (Int32.ofNat (2 ^ ex)))])) τ) => pre1 τ (st2 _ κ)
  have pre4 := fun τ (κ : Steps p.tables e below (T2.setTop (mkF m 10 #[.val (.ref a1), .val (.int (Int32.ofNat rk)), .val (.int (0 : Int32)), .val (.int (Int32.ofNat rk)), .val (.int (Int32.ofNat (2 ^ ex))), .unset] [])) τ) => pre3 τ (by
    refine XS.istore X2.here hx rfl (hb hby d11_8) rfl (l' := #[.val (.ref a1), .val (.int (Int32.ofNat rk)), .val (.int (0 : Int32)), .val (.int (Int32.ofNat rk)), .val (.int (Int32.ofNat (2 ^ ex))), .unset]) rfl ?_
    show Steps p.tables e below (T2.setTop (mkF m 10 #[.val (.ref a1), .val (.int (Int32.ofNat rk)), .val (.int (0 : Int32)), .val (.int (Int32.ofNat rk)), .val (.int (Int32.ofNat (2 ^ ex))), .unset] [])) _
    exact κ)
  have hz : Int32.ofNat (rk - own_cnt S 0 0) = Int32.ofNat rk := by rw [own_cnt_no (fun p _ => by omega), Nat.sub_zero]
  have hall : own_cnt S 0 (0 + 2 ^ (ex + 1)) = S.length := own_cnt_all fun p hp => ⟨Nat.zero_le _, by have := hS p hp; rw [Nat.zero_add, Nat.pow_succ]; omega⟩
  obtain ⟨T9, q9, s9, z9, X9, e9, r0, r1, r2, st9⟩ := loopP hx hZ hw hby hml hown a1 ta k0 ex S f rk Fc Fk Va hf hS he8 hrk hlen (ex + 1) 0 .unset _ One.u (by omega) (Nat.zero_le _) (by simp) (by rw [own_cnt_no (fun p _ => by omega)]; omega) (by rw [hall]; exact hrk) X2 e2
  rw [hz] at st9
  have pre99 := fun τ (κ : Steps p.tables e below (T9.setTop (mkF m 63 #[.val (.ref a1), .val (.int (Int32.ofNat rk)), .val (.int (Int32.ofNat q9)), .val (.int z9), .val (.int (0 : Int32)), s9] [])) τ) => pre4 τ (st9 τ κ)
  have pre5 := fun τ (κ : Steps p.tables e below (T9.setTop (mkF m 64 #[.val (.ref a1), .val (.int (Int32.ofNat rk)), .val (.int (Int32.ofNat q9)), .val (.int z9), .val (.int (0 : Int32)), s9] [(.int (Int32.ofNat q9))])) τ) => pre99 τ (by
    refine XS.iloadN X9.here hx rfl (hb hby d11_63) rfl ?_
    show Steps p.tables e below (T9.setTop (mkF m 64 #[.val (.ref a1), .val (.int (Int32.ofNat rk)), .val (.int (Int32.ofNat q9)), .val (.int z9), .val (.int (0 : Int32)), s9] [(.int (Int32.ofNat q9))])) _
    exact κ)
  obtain ⟨fs, hr, hrun, hended, hW, hsame⟩ := X9.leave (v := some (.int (Int32.ofNat q9))) (fun h => by rw [Bd.returns] at h; cases h)
  refine ⟨_, _, pre5 _ ?_, hrun, hended, _, _, rfl, ?_, ⟨_, rfl⟩, hW, hsame.mono (by decide) (by decide)⟩
  · exact retI X9 hx Bd.returns (hb hby d11_64) hr
  · show Q11 Z a1 rk ex S h0 n0 _ T9.heap _
    rw [e9]
    exact ⟨q9, rfl, N0, rfl, r0, r1, r2⟩
theorem ef_9 (m : MethodId) (a1 : Addr) (i : Nat) (j : Nat) : entryFrame m #[(.ref a1), (.int (Int32.ofNat i)), (.int (Int32.ofNat j))] 4 = mkF m 0 #[.val (.ref a1), .val (.int (Int32.ofNat i)), .val (.int (Int32.ofNat j)), .unset] [] := by first | (simp [entryFrame, mkF, argsToLocals, Value.category]; done) | rfl
def Q9 (Z : State) (a1 : Addr) (i : Nat) (j : Nat) (k0 : ClassId) (L0 : List Nat) (h0 : Heap) (n0 : Nat) (v : Option Value) (h : Heap) (L : List Loc) : Prop := v = none ∧ Fr n0 L ∧ Keep h0 h [a1] ∧ Arv Z h a1 k0 .int (3 : Int32) (own_nl (own_ord i j L0)) (.int (0 : Int32))
set_option maxRecDepth 65536 in
set_option maxHeartbeats 40000000 in
theorem rm9 (l : Launch) (Z : State) (a0 : Array Value) (hw : ∀ d ∈ tables_1, d.before a0 Z = true) (ws : List Jvm.Cond) (a1 : Addr) (i : Nat) (j : Nat) (k0 : ClassId) (L0 : List Nat) (h0 : Heap) (n0 : Nat) (Z0 : n0 ≤ h0.size) (Va : Arv Z h0 a1 k0 .int (3 : Int32) (own_nl L0) (.int (0 : Int32))) (hi : i < 3) (hj : j < 3) (hL : L0.length = 3) (hbi : L0.getD i 0 < 2147483648) (hbj : L0.getD j 0 < 2147483648) (g_a1 : n0 ≤ a1) :
    MetFree l (⟨"com/example/earmark/earmark/ledger/PositionSetPositionPinLaw", "order", "([III)V"⟩ : MethodName) (head1 (Jvm.Cond.code (⟨"com/example/earmark/earmark/ledger/PositionSetPositionPinLaw", "order", "([III)V"⟩ : MethodName) method_2_code 4 none :: ws) ({ frames := 0, cells := 0, slots := 0, locals := 0 } : Room)) (fun α υ => α = #[(.ref a1), (.int (Int32.ofNat i)), (.int (Int32.ofNat j))] ∧ Z.Warmed39 υ.vm ∧ υ.heap = h0) (fun _ _ _ _ _ => True) (fun _ υ ω υ' => ∃ v L, ω = .returned v ∧ Q9 Z a1 i j k0 L0 h0 n0 v υ'.heap L ∧ FrameEnd υ ω υ' L ({ frames := 0, cells := 0, slots := 0, locals := 0 } : Room).cells ({ frames := 0, cells := 0, slots := 0, locals := 0 } : Room).slots) := by
  refine MetFree.of_bodySF (plainFor_of_name pn_com_example_earmark_earmark_ledger_PositionSetPositionPinLaw) hisR ?_
  intro p e s m args below meth c s₁ Bd hml0 hP hK
  obtain ⟨rfl, hZ, hh⟩ := hP
  have hx := Bd.exec
  have hby := Bd.bytes
  have hml : c.maxLocals = 4 := hml0
  have hown : s.vm.findClass "com/example/earmark/earmark/ledger/PositionSetPositionPinLaw" = some m.cls := findClass_of_methodNamed Bd.named
  have hnm := (name_of_methodNamed Bd.named Bd.method).1
  have X0 : Stand p l e ({ frames := 0, cells := 0, slots := 0, locals := 0 } : Room) s m #[(.ref a1), (.int (Int32.ofNat i)), (.int (Int32.ofNat j))] below meth c s₁ [] 0 0 := Stand.of_body Bd
  have e0 : s₁.heap = h0 := by rw [← hh, Bd.state]; rfl
  have N0 := Fr.nil n0
  have pre0 : ∀ τ, Steps p.tables e below (s₁.setTop (mkF m 0 #[.val (.ref a1), .val (.int (Int32.ofNat i)), .val (.int (Int32.ofNat j)), .unset] [])) τ → Steps p.tables e below (s₁.setTop (entryFrame m #[(.ref a1), (.int (Int32.ofNat i)), (.int (Int32.ofNat j))] 4)) τ := fun τ κ => castTop (ef_9 m a1 i j) κ
  have Kp0 : Keep h0 h0 [a1] := Keep.refl _ _
  have ci : (Int32.ofNat i).toNatClampNeg = i := own_clamp (by omega)
  have bi : ¬ (Int32.ofNat i) < 0 ∧ (Int32.ofNat i) < (3 : Int32) := ⟨own_nn (by omega), (own_ltN (j := 3) (by omega) (by omega)).mpr hi⟩
  have ti : (own_nl L0).getD (Int32.ofNat i).toNatClampNeg (.int (0 : Int32)) = .int (Int32.ofNat (L0.getD i 0)) := by rw [ci]; exact own_nl_get (by omega) _
  have cj : (Int32.ofNat j).toNatClampNeg = j := own_clamp (by omega)
  have bj : ¬ (Int32.ofNat j) < 0 ∧ (Int32.ofNat j) < (3 : Int32) := ⟨own_nn (by omega), (own_ltN (j := 3) (by omega) (by omega)).mpr hj⟩
  have tj : (own_nl L0).getD (Int32.ofNat j).toNatClampNeg (.int (0 : Int32)) = .int (Int32.ofNat (L0.getD j 0)) := by rw [cj]; exact own_nl_get (by omega) _
  have pre1 := fun τ (κ : Steps p.tables e below (s₁.setTop (mkF m 2 #[.val (.ref a1), .val (.int (Int32.ofNat i)), .val (.int (Int32.ofNat j)), .unset] [(.int (Int32.ofNat i)), (.ref a1)])) τ) => pre0 τ (by
    refine XS.aloadN X0.here hx rfl (hb hby d9_0) rfl rfl ?_
    show Steps p.tables e below (s₁.setTop (mkF m 1 #[.val (.ref a1), .val (.int (Int32.ofNat i)), .val (.int (Int32.ofNat j)), .unset] [(.ref a1)])) _
    refine XS.iloadN X0.here hx rfl (hb hby d9_1) rfl ?_
    show Steps p.tables e below (s₁.setTop (mkF m 2 #[.val (.ref a1), .val (.int (Int32.ofNat i)), .val (.int (Int32.ofNat j)), .unset] [(.int (Int32.ofNat i)), (.ref a1)])) _
    exact κ)
  obtain ⟨cl2, Ar2, -, S2, M2, H2, -⟩ := id Va
  have in2 : ¬ ((Int32.ofNat i) < 0 ∨ cl2.slots.size ≤ ((Int32.ofNat i)).toNatClampNeg) := inb_of S2 bi
  have at2 : cl2.slots[((Int32.ofNat i)).toNatClampNeg]? = some (.int (Int32.ofNat (L0.getD i 0))) := H2.at in2 ti
  have pre3 := fun τ (κ : Steps p.tables e below (s₁.setTop (mkF m 5 #[.val (.ref a1), .val (.int (Int32.ofNat i)), .val (.int (Int32.ofNat j)), .unset] [(.int (Int32.ofNat j)), (.ref a1), (.int (Int32.ofNat (L0.getD i 0)))])) τ) => pre1 τ (by
    refine X0.iaload hx (j := (Int32.ofNat i)) (v := (.int (Int32.ofNat (L0.getD i 0)))) (by rw [e0]; exact Ar2.1) (State.isArrayOf_alike hZ.alike Ar2.2.1) Ar2.2.2 in2 at2 (g := (mkF m 2 #[.val (.ref a1), .val (.int (Int32.ofNat i)), .val (.int (Int32.ofNat j)), .unset] [(.int (Int32.ofNat i)), (.ref a1)])) rfl rfl (hb hby d9_2) _ ?_
    show Steps p.tables e below (s₁.setTop (mkF m 3 #[.val (.ref a1), .val (.int (Int32.ofNat i)), .val (.int (Int32.ofNat j)), .unset] [(.int (Int32.ofNat (L0.getD i 0)))])) _
    refine XS.aloadN X0.here hx rfl (hb hby d9_3) rfl rfl ?_
    show Steps p.tables e below (s₁.setTop (mkF m 4 #[.val (.ref a1), .val (.int (Int32.ofNat i)), .val (.int (Int32.ofNat j)), .unset] [(.ref a1), (.int (Int32.ofNat (L0.getD i 0)))])) _
    refine XS.iloadN X0.here hx rfl (hb hby d9_4) rfl ?_
    show Steps p.tables e below (s₁.setTop (mkF m 5 #[.val (.ref a1), .val (.int (Int32.ofNat i)), .val (.int (Int32.ofNat j)), .unset] [(.int (Int32.ofNat j)), (.ref a1), (.int (Int32.ofNat (L0.getD i 0)))])) _
    exact κ)
  obtain ⟨cl4, Ar4, -, S4, M4, H4, -⟩ := id Va
  have in4 : ¬ ((Int32.ofNat j) < 0 ∨ cl4.slots.size ≤ ((Int32.ofNat j)).toNatClampNeg) := inb_of S4 bj
  have at4 : cl4.slots[((Int32.ofNat j)).toNatClampNeg]? = some (.int (Int32.ofNat (L0.getD j 0))) := H4.at in4 tj
  have pre5 := fun τ (κ : Steps p.tables e below (s₁.setTop (mkF m 6 #[.val (.ref a1), .val (.int (Int32.ofNat i)), .val (.int (Int32.ofNat j)), .unset] [(.int (Int32.ofNat (L0.getD j 0))), (.int (Int32.ofNat (L0.getD i 0)))])) τ) => pre3 τ (by
    refine X0.iaload hx (j := (Int32.ofNat j)) (v := (.int (Int32.ofNat (L0.getD j 0)))) (by rw [e0]; exact Ar4.1) (State.isArrayOf_alike hZ.alike Ar4.2.1) Ar4.2.2 in4 at4 (g := (mkF m 5 #[.val (.ref a1), .val (.int (Int32.ofNat i)), .val (.int (Int32.ofNat j)), .unset] [(.int (Int32.ofNat j)), (.ref a1), (.int (Int32.ofNat (L0.getD i 0)))])) rfl rfl (hb hby d9_5) _ ?_
    show Steps p.tables e below (s₁.setTop (mkF m 6 #[.val (.ref a1), .val (.int (Int32.ofNat i)), .val (.int (Int32.ofNat j)), .unset] [(.int (Int32.ofNat (L0.getD j 0))), (.int (Int32.ofNat (L0.getD i 0)))])) _
    exact κ)
  by_cases hb1 : (Int32.ofNat (L0.getD j 0)) < (Int32.ofNat (L0.getD i 0))
  · have hlt : L0.getD j 0 < L0.getD i 0 := (own_ltN hbj hbi).mp hb1
    have pre6 := fun τ (κ : Steps p.tables e below (s₁.setTop (mkF m 11 #[.val (.ref a1), .val (.int (Int32.ofNat i)), .val (.int (Int32.ofNat j)), .unset] [(.int (Int32.ofNat i)), (.ref a1)])) τ) => pre5 τ (by
      refine XS.icmpNo X0.here hx rfl (hb hby d9_6) rfl (tlt hb1).2.2.2 ?_
      show Steps p.tables e below (s₁.setTop (mkF m 9 #[.val (.ref a1), .val (.int (Int32.ofNat i)), .val (.int (Int32.ofNat j)), .unset] [])) _
      refine XS.aloadN X0.here hx rfl (hb hby d9_9) rfl rfl ?_
      show Steps p.tables e below (s₁.setTop (mkF m 10 #[.val (.ref a1), .val (.int (Int32.ofNat i)), .val (.int (Int32.ofNat j)), .unset] [(.ref a1)])) _
      refine XS.iloadN X0.here hx rfl (hb hby d9_10) rfl ?_
      show Steps p.tables e below (s₁.setTop (mkF m 11 #[.val (.ref a1), .val (.int (Int32.ofNat i)), .val (.int (Int32.ofNat j)), .unset] [(.int (Int32.ofNat i)), (.ref a1)])) _
      exact κ)
    obtain ⟨cl7, Ar7, -, S7, M7, H7, -⟩ := id Va
    have in7 : ¬ ((Int32.ofNat i) < 0 ∨ cl7.slots.size ≤ ((Int32.ofNat i)).toNatClampNeg) := inb_of S7 bi
    have at7 : cl7.slots[((Int32.ofNat i)).toNatClampNeg]? = some (.int (Int32.ofNat (L0.getD i 0))) := H7.at in7 ti
    have pre8 := fun τ (κ : Steps p.tables e below (s₁.setTop (mkF m 17 #[.val (.ref a1), .val (.int (Int32.ofNat i)), .val (.int (Int32.ofNat j)), .val (.int (Int32.ofNat (L0.getD i 0)))] [(.int (Int32.ofNat j)), (.ref a1), (.int (Int32.ofNat i)), (.ref a1)])) τ) => pre6 τ (by
      refine X0.iaload hx (j := (Int32.ofNat i)) (v := (.int (Int32.ofNat (L0.getD i 0)))) (by rw [e0]; exact Ar7.1) (State.isArrayOf_alike hZ.alike Ar7.2.1) Ar7.2.2 in7 at7 (g := (mkF m 11 #[.val (.ref a1), .val (.int (Int32.ofNat i)), .val (.int (Int32.ofNat j)), .unset] [(.int (Int32.ofNat i)), (.ref a1)])) rfl rfl (hb hby d9_11) _ ?_
      show Steps p.tables e below (s₁.setTop (mkF m 12 #[.val (.ref a1), .val (.int (Int32.ofNat i)), .val (.int (Int32.ofNat j)), .unset] [(.int (Int32.ofNat (L0.getD i 0)))])) _
      refine XS.istoreN X0.here hx rfl (hb hby d9_12) rfl (l' := #[.val (.ref a1), .val (.int (Int32.ofNat i)), .val (.int (Int32.ofNat j)), .val (.int (Int32.ofNat (L0.getD i 0)))]) rfl ?_
      show Steps p.tables e below (s₁.setTop (mkF m 13 #[.val (.ref a1), .val (.int (Int32.ofNat i)), .val (.int (Int32.ofNat j)), .val (.int (Int32.ofNat (L0.getD i 0)))] [])) _
      refine XS.aloadN X0.here hx rfl (hb hby d9_13) rfl rfl ?_
      show Steps p.tables e below (s₁.setTop (mkF m 14 #[.val (.ref a1), .val (.int (Int32.ofNat i)), .val (.int (Int32.ofNat j)), .val (.int (Int32.ofNat (L0.getD i 0)))] [(.ref a1)])) _
      refine XS.iloadN X0.here hx rfl (hb hby d9_14) rfl ?_
      show Steps p.tables e below (s₁.setTop (mkF m 15 #[.val (.ref a1), .val (.int (Int32.ofNat i)), .val (.int (Int32.ofNat j)), .val (.int (Int32.ofNat (L0.getD i 0)))] [(.int (Int32.ofNat i)), (.ref a1)])) _
      refine XS.aloadN X0.here hx rfl (hb hby d9_15) rfl rfl ?_
      show Steps p.tables e below (s₁.setTop (mkF m 16 #[.val (.ref a1), .val (.int (Int32.ofNat i)), .val (.int (Int32.ofNat j)), .val (.int (Int32.ofNat (L0.getD i 0)))] [(.ref a1), (.int (Int32.ofNat i)), (.ref a1)])) _
      refine XS.iloadN X0.here hx rfl (hb hby d9_16) rfl ?_
      show Steps p.tables e below (s₁.setTop (mkF m 17 #[.val (.ref a1), .val (.int (Int32.ofNat i)), .val (.int (Int32.ofNat j)), .val (.int (Int32.ofNat (L0.getD i 0)))] [(.int (Int32.ofNat j)), (.ref a1), (.int (Int32.ofNat i)), (.ref a1)])) _
      exact κ)
    obtain ⟨cl9, Ar9, -, S9, M9, H9, -⟩ := id Va
    have in9 : ¬ ((Int32.ofNat j) < 0 ∨ cl9.slots.size ≤ ((Int32.ofNat j)).toNatClampNeg) := inb_of S9 bj
    have at9 : cl9.slots[((Int32.ofNat j)).toNatClampNeg]? = some (.int (Int32.ofNat (L0.getD j 0))) := H9.at in9 tj
    have pre10 := fun τ (κ : Steps p.tables e below (s₁.setTop (mkF m 18 #[.val (.ref a1), .val (.int (Int32.ofNat i)), .val (.int (Int32.ofNat j)), .val (.int (Int32.ofNat (L0.getD i 0)))] [(.int (Int32.ofNat (L0.getD j 0))), (.int (Int32.ofNat i)), (.ref a1)])) τ) => pre8 τ (by
      refine X0.iaload hx (j := (Int32.ofNat j)) (v := (.int (Int32.ofNat (L0.getD j 0)))) (by rw [e0]; exact Ar9.1) (State.isArrayOf_alike hZ.alike Ar9.2.1) Ar9.2.2 in9 at9 (g := (mkF m 17 #[.val (.ref a1), .val (.int (Int32.ofNat i)), .val (.int (Int32.ofNat j)), .val (.int (Int32.ofNat (L0.getD i 0)))] [(.int (Int32.ofNat j)), (.ref a1), (.int (Int32.ofNat i)), (.ref a1)])) rfl rfl (hb hby d9_17) _ ?_
      show Steps p.tables e below (s₁.setTop (mkF m 18 #[.val (.ref a1), .val (.int (Int32.ofNat i)), .val (.int (Int32.ofNat j)), .val (.int (Int32.ofNat (L0.getD i 0)))] [(.int (Int32.ofNat (L0.getD j 0))), (.int (Int32.ofNat i)), (.ref a1)])) _
      exact κ)
    have li : i < (own_nl L0).length := by rw [own_nl, List.length_map]; omega
    obtain ⟨cl11, Ar11, q11, S11, M11, H11, G11⟩ := id Va
    have in11 : ¬ ((Int32.ofNat i) < 0 ∨ cl11.slots.size ≤ ((Int32.ofNat i)).toNatClampNeg) := inb_of S11 bi
    obtain ⟨T12, h12, X12, e12, W12, st12⟩ := stI X0 hx hZ e0 Ar11 (j := (Int32.ofNat i)) in11 (g := (mkF m 18 #[.val (.ref a1), .val (.int (Int32.ofNat i)), .val (.int (Int32.ofNat j)), .val (.int (Int32.ofNat (L0.getD i 0)))] [(.int (Int32.ofNat (L0.getD j 0))), (.int (Int32.ofNat i)), (.ref a1)])) rfl rfl (hb hby d9_18)
    have Kp12 : Keep h0 h12 [a1] := Kp0.wr W12 (Or.inl (List.mem_of_getElem? (i := 0) rfl))
    have N12 := Fr.snoc X12 N0 g_a1
    have Z12 : n0 ≤ h12.size := Nat.le_trans Z0 (Keep.of_wr W12).1
    have V_a1_12 : Arv Z h12 a1 k0 .int (3 : Int32) (own_nl (L0.set i (L0.getD j 0))) (.int (0 : Int32)) := (own_nl_set L0 i (L0.getD j 0)) ▸ (Arv.set Ar11 q11 S11 M11 H11 G11 rfl W12 i (by first | rfl | assumption) (by assumption))
    have pre13 := fun τ (κ : Steps p.tables e below (T12.setTop (mkF m 19 #[.val (.ref a1), .val (.int (Int32.ofNat i)), .val (.int (Int32.ofNat j)), .val (.int (Int32.ofNat (L0.getD i 0)))] [])) τ) => pre10 τ (st12 _ κ)
    have pre14 := fun τ (κ : Steps p.tables e below (T12.setTop (mkF m 22 #[.val (.ref a1), .val (.int (Int32.ofNat i)), .val (.int (Int32.ofNat j)), .val (.int (Int32.ofNat (L0.getD i 0)))] [(.int (Int32.ofNat (L0.getD i 0))), (.int (Int32.ofNat j)), (.ref a1)])) τ) => pre13 τ (by
      refine XS.aloadN X12.here hx rfl (hb hby d9_19) rfl rfl ?_
      show Steps p.tables e below (T12.setTop (mkF m 20 #[.val (.ref a1), .val (.int (Int32.ofNat i)), .val (.int (Int32.ofNat j)), .val (.int (Int32.ofNat (L0.getD i 0)))] [(.ref a1)])) _
      refine XS.iloadN X12.here hx rfl (hb hby d9_20) rfl ?_
      show Steps p.tables e below (T12.setTop (mkF m 21 #[.val (.ref a1), .val (.int (Int32.ofNat i)), .val (.int (Int32.ofNat j)), .val (.int (Int32.ofNat (L0.getD i 0)))] [(.int (Int32.ofNat j)), (.ref a1)])) _
      refine XS.iloadN X12.here hx rfl (hb hby d9_21) rfl ?_
      show Steps p.tables e below (T12.setTop (mkF m 22 #[.val (.ref a1), .val (.int (Int32.ofNat i)), .val (.int (Int32.ofNat j)), .val (.int (Int32.ofNat (L0.getD i 0)))] [(.int (Int32.ofNat (L0.getD i 0))), (.int (Int32.ofNat j)), (.ref a1)])) _
      exact κ)
    have lj : j < (own_nl (L0.set i (L0.getD j 0))).length := by rw [own_nl, List.length_map, List.length_set]; omega
    obtain ⟨cl15, Ar15, q15, S15, M15, H15, G15⟩ := id V_a1_12
    have in15 : ¬ ((Int32.ofNat j) < 0 ∨ cl15.slots.size ≤ ((Int32.ofNat j)).toNatClampNeg) := inb_of S15 bj
    obtain ⟨T16, h16, X16, e16, W16, st16⟩ := stI X12 hx hZ e12 Ar15 (j := (Int32.ofNat j)) in15 (g := (mkF m 22 #[.val (.ref a1), .val (.int (Int32.ofNat i)), .val (.int (Int32.ofNat j)), .val (.int (Int32.ofNat (L0.getD i 0)))] [(.int (Int32.ofNat (L0.getD i 0))), (.int (Int32.ofNat j)), (.ref a1)])) rfl rfl (hb hby d9_22)
    have Kp16 : Keep h0 h16 [a1] := Kp12.wr W16 (Or.inl (List.mem_of_getElem? (i := 0) rfl))
    have N16 := Fr.snoc X16 N12 g_a1
    have Z16 : n0 ≤ h16.size := Nat.le_trans Z12 (Keep.of_wr W16).1
    have V_a1_16 : Arv Z h16 a1 k0 .int (3 : Int32) (own_nl ((L0.set i (L0.getD j 0)).set j (L0.getD i 0))) (.int (0 : Int32)) := (own_nl_set (L0.set i (L0.getD j 0)) j (L0.getD i 0)) ▸ (Arv.set Ar15 q15 S15 M15 H15 G15 rfl W16 j (by first | rfl | assumption) (by assumption))
    have pre17 := fun τ (κ : Steps p.tables e below (T16.setTop (mkF m 23 #[.val (.ref a1), .val (.int (Int32.ofNat i)), .val (.int (Int32.ofNat j)), .val (.int (Int32.ofNat (L0.getD i 0)))] [])) τ) => pre14 τ (st16 _ κ)
    obtain ⟨fs, hr, hrun, hended, hW, hsame⟩ := X16.leave (v := none) (fun _ => rfl)
    refine ⟨_, _, pre17 _ ?_, hrun, hended, _, _, rfl, ?_, ⟨_, rfl⟩, hW, hsame.mono (by decide) (by decide)⟩
    · exact X16.returnOut hx Bd.returns (hb hby d9_23) hr
    · show Q9 Z a1 i j k0 L0 h0 n0 _ T16.heap _
      rw [e16]
      exact ⟨rfl, N16, Kp16, by rw [own_ord, if_pos hlt]; exact V_a1_16⟩
  · have hlt : ¬ L0.getD j 0 < L0.getD i 0 := fun z => hb1 ((own_ltN hbj hbi).mpr z)
    have pre18 := fun τ (κ : Steps p.tables e below (s₁.setTop (mkF m 23 #[.val (.ref a1), .val (.int (Int32.ofNat i)), .val (.int (Int32.ofNat j)), .unset] [])) τ) => pre5 τ (by
      refine XS.icmpYes X0.here hx rfl (pc0 := 6) (pc' := 23) rfl (hb hby d9_6) rfl (flt hb1).2.2.2 (by decide) (by decide) ?_
      show Steps p.tables e below (s₁.setTop (mkF m 23 #[.val (.ref a1), .val (.int (Int32.ofNat i)), .val (.int (Int32.ofNat j)), .unset] [])) _
      exact κ)
    obtain ⟨fs, hr, hrun, hended, hW, hsame⟩ := X0.leave (v := none) (fun _ => rfl)
    refine ⟨_, _, pre18 _ ?_, hrun, hended, _, _, rfl, ?_, ⟨_, rfl⟩, hW, hsame.mono (by decide) (by decide)⟩
    · exact X0.returnOut hx Bd.returns (hb hby d9_23) hr
    · show Q9 Z a1 i j k0 L0 h0 n0 _ s₁.heap _
      rw [e0]
      exact ⟨rfl, N0, Kp0, by rw [own_ord, if_neg hlt]; exact Va⟩
theorem ef_0 (m : MethodId) (p0 : Int32) (p1 : Int32) (p2 : Int32) (p3 : Int32) : entryFrame m #[(.int p0), (.int p1), (.int p2), (.int p3)] maxLocals = mkF m 0 #[.val (.int p0), .val (.int p1), .val (.int p2), .val (.int p3), .unset, .unset, .unset, .unset, .unset, .unset, .unset, .unset, .unset, .unset] [] := by first | (simp [entryFrame, mkF, argsToLocals, Value.category, maxLocals]; done) | rfl
def Q0 (Z : State) (p0 : Int32) (p1 : Int32) (p2 : Int32) (p3 : Int32) (h0 : Heap) (n0 : Nat) (v : Option Value) (h : Heap) (L : List Loc) : Prop := v = some (.int 1) ∧ Fr n0 L
set_option maxRecDepth 65536 in
set_option maxHeartbeats 40000000 in
theorem rm0 (l : Launch) (Z : State) (a0 : Array Value) (hw : ∀ d ∈ tables_1, d.before a0 Z = true) (ws : List Jvm.Cond) (p0 : Int32) (p1 : Int32) (p2 : Int32) (p3 : Int32) (h0 : Heap) (n0 : Nat) (Z0 : n0 ≤ h0.size) :
    MetFree l x (head1 (Jvm.Cond.code x code maxLocals ret :: ws) room_1) (fun α υ => α = #[(.int p0), (.int p1), (.int p2), (.int p3)] ∧ Z.Warmed39 υ.vm ∧ υ.heap = h0) (fun _ _ _ _ _ => True) (fun _ υ ω υ' => ∃ v L, ω = .returned v ∧ Q0 Z p0 p1 p2 p3 h0 n0 v υ'.heap L ∧ FrameEnd υ ω υ' L room_1.cells room_1.slots) := by
  refine MetFree.of_bodySF (plainFor_of_name pn_com_example_earmark_earmark_ledger_PositionSetPositionPinLaw) hisR ?_
  intro p e s m args below meth c s₁ Bd hml0 hP hK
  obtain ⟨rfl, hZ, hh⟩ := hP
  have hx := Bd.exec
  have hby := Bd.bytes
  have hml : c.maxLocals = 14 := hml0
  have hown : s.vm.findClass "com/example/earmark/earmark/ledger/PositionSetPositionPinLaw" = some m.cls := findClass_of_methodNamed Bd.named
  have hnm := (name_of_methodNamed Bd.named Bd.method).1
  have X0 : Stand p l e room_1 s m #[(.int p0), (.int p1), (.int p2), (.int p3)] below meth c s₁ [] 0 0 := Stand.of_body Bd
  have e0 : s₁.heap = h0 := by rw [← hh, Bd.state]; rfl
  have N0 := Fr.nil n0
  have pre0 : ∀ τ, Steps p.tables e below (s₁.setTop (mkF m 0 #[.val (.int p0), .val (.int p1), .val (.int p2), .val (.int p3), .unset, .unset, .unset, .unset, .unset, .unset, .unset, .unset, .unset, .unset] [])) τ → Steps p.tables e below (s₁.setTop (entryFrame m #[(.int p0), (.int p1), (.int p2), (.int p3)] maxLocals)) τ := fun τ κ => castTop (ef_0 m p0 p1 p2 p3) κ
  have pre1 := fun τ (κ : Steps p.tables e below (s₁.setTop (mkF m 5 #[.val (.int p0), .val (.int p1), .val (.int p2), .val (.int p3), .unset, .unset, .unset, .unset, .unset, .unset, .unset, .unset, .unset, .unset] [(.int (p0 &&& (255 : Int32)))])) τ) => pre0 τ (by
    refine XS.iloadN X0.here hx rfl (hb hby at_0) rfl ?_
    show Steps p.tables e below (s₁.setTop (mkF m 1 #[.val (.int p0), .val (.int p1), .val (.int p2), .val (.int p3), .unset, .unset, .unset, .unset, .unset, .unset, .unset, .unset, .unset, .unset] [(.int p0)])) _
    refine XS.sipush X0.here hx rfl (hb hby at_1) ?_
    show Steps p.tables e below (s₁.setTop (mkF m 4 #[.val (.int p0), .val (.int p1), .val (.int p2), .val (.int p3), .unset, .unset, .unset, .unset, .unset, .unset, .unset, .unset, .unset, .unset] [(.int (255 : Int32)), (.int p0)])) _
    refine XS.iand X0.here hx rfl (hb hby at_4) rfl ?_
    show Steps p.tables e below (s₁.setTop (mkF m 5 #[.val (.int p0), .val (.int p1), .val (.int p2), .val (.int p3), .unset, .unset, .unset, .unset, .unset, .unset, .unset, .unset, .unset, .unset] [(.int (p0 &&& (255 : Int32)))])) _
    exact κ)
  obtain ⟨A, hA, eA⟩ := own_mask p0
  rw [show (p0 &&& (255 : Int32)) = (Int32.ofNat A) from eA] at pre1
  have pre2 := fun τ (κ : Steps p.tables e below (s₁.setTop (mkF m 12 #[.val (.int p0), .val (.int p1), .val (.int p2), .val (.int p3), .val (.int (Int32.ofNat A)), .unset, .unset, .unset, .unset, .unset, .unset, .unset, .unset, .unset] [(.int (p1 &&& (255 : Int32)))])) τ) => pre1 τ (by
    refine XS.istore X0.here hx rfl (hb hby at_5) rfl (l' := #[.val (.int p0), .val (.int p1), .val (.int p2), .val (.int p3), .val (.int (Int32.ofNat A)), .unset, .unset, .unset, .unset, .unset, .unset, .unset, .unset, .unset]) rfl ?_
    show Steps p.tables e below (s₁.setTop (mkF m 7 #[.val (.int p0), .val (.int p1), .val (.int p2), .val (.int p3), .val (.int (Int32.ofNat A)), .unset, .unset, .unset, .unset, .unset, .unset, .unset, .unset, .unset] [])) _
    refine XS.iloadN X0.here hx rfl (hb hby at_7) rfl ?_
    show Steps p.tables e below (s₁.setTop (mkF m 8 #[.val (.int p0), .val (.int p1), .val (.int p2), .val (.int p3), .val (.int (Int32.ofNat A)), .unset, .unset, .unset, .unset, .unset, .unset, .unset, .unset, .unset] [(.int p1)])) _
    refine XS.sipush X0.here hx rfl (hb hby at_8) ?_
    show Steps p.tables e below (s₁.setTop (mkF m 11 #[.val (.int p0), .val (.int p1), .val (.int p2), .val (.int p3), .val (.int (Int32.ofNat A)), .unset, .unset, .unset, .unset, .unset, .unset, .unset, .unset, .unset] [(.int (255 : Int32)), (.int p1)])) _
    refine XS.iand X0.here hx rfl (hb hby at_11) rfl ?_
    show Steps p.tables e below (s₁.setTop (mkF m 12 #[.val (.int p0), .val (.int p1), .val (.int p2), .val (.int p3), .val (.int (Int32.ofNat A)), .unset, .unset, .unset, .unset, .unset, .unset, .unset, .unset, .unset] [(.int (p1 &&& (255 : Int32)))])) _
    exact κ)
  obtain ⟨B, hB', eB⟩ := own_mask p1
  rw [show (p1 &&& (255 : Int32)) = (Int32.ofNat B) from eB] at pre2
  have pre3 := fun τ (κ : Steps p.tables e below (s₁.setTop (mkF m 19 #[.val (.int p0), .val (.int p1), .val (.int p2), .val (.int p3), .val (.int (Int32.ofNat A)), .val (.int (Int32.ofNat B)), .unset, .unset, .unset, .unset, .unset, .unset, .unset, .unset] [(.int (p2 &&& (255 : Int32)))])) τ) => pre2 τ (by
    refine XS.istore X0.here hx rfl (hb hby at_12) rfl (l' := #[.val (.int p0), .val (.int p1), .val (.int p2), .val (.int p3), .val (.int (Int32.ofNat A)), .val (.int (Int32.ofNat B)), .unset, .unset, .unset, .unset, .unset, .unset, .unset, .unset]) rfl ?_
    show Steps p.tables e below (s₁.setTop (mkF m 14 #[.val (.int p0), .val (.int p1), .val (.int p2), .val (.int p3), .val (.int (Int32.ofNat A)), .val (.int (Int32.ofNat B)), .unset, .unset, .unset, .unset, .unset, .unset, .unset, .unset] [])) _
    refine XS.iloadN X0.here hx rfl (hb hby at_14) rfl ?_
    show Steps p.tables e below (s₁.setTop (mkF m 15 #[.val (.int p0), .val (.int p1), .val (.int p2), .val (.int p3), .val (.int (Int32.ofNat A)), .val (.int (Int32.ofNat B)), .unset, .unset, .unset, .unset, .unset, .unset, .unset, .unset] [(.int p2)])) _
    refine XS.sipush X0.here hx rfl (hb hby at_15) ?_
    show Steps p.tables e below (s₁.setTop (mkF m 18 #[.val (.int p0), .val (.int p1), .val (.int p2), .val (.int p3), .val (.int (Int32.ofNat A)), .val (.int (Int32.ofNat B)), .unset, .unset, .unset, .unset, .unset, .unset, .unset, .unset] [(.int (255 : Int32)), (.int p2)])) _
    refine XS.iand X0.here hx rfl (hb hby at_18) rfl ?_
    show Steps p.tables e below (s₁.setTop (mkF m 19 #[.val (.int p0), .val (.int p1), .val (.int p2), .val (.int p3), .val (.int (Int32.ofNat A)), .val (.int (Int32.ofNat B)), .unset, .unset, .unset, .unset, .unset, .unset, .unset, .unset] [(.int (p2 &&& (255 : Int32)))])) _
    exact κ)
  obtain ⟨C, hC', eC⟩ := own_mask p2
  rw [show (p2 &&& (255 : Int32)) = (Int32.ofNat C) from eC] at pre3
  have pre4 := fun τ (κ : Steps p.tables e below (s₁.setTop (mkF m 24 #[.val (.int p0), .val (.int p1), .val (.int p2), .val (.int p3), .val (.int (Int32.ofNat A)), .val (.int (Int32.ofNat B)), .val (.int (Int32.ofNat C)), .unset, .unset, .unset, .unset, .unset, .unset, .unset] [(.int (p3 &&& (1 : Int32)))])) τ) => pre3 τ (by
    refine XS.istore X0.here hx rfl (hb hby at_19) rfl (l' := #[.val (.int p0), .val (.int p1), .val (.int p2), .val (.int p3), .val (.int (Int32.ofNat A)), .val (.int (Int32.ofNat B)), .val (.int (Int32.ofNat C)), .unset, .unset, .unset, .unset, .unset, .unset, .unset]) rfl ?_
    show Steps p.tables e below (s₁.setTop (mkF m 21 #[.val (.int p0), .val (.int p1), .val (.int p2), .val (.int p3), .val (.int (Int32.ofNat A)), .val (.int (Int32.ofNat B)), .val (.int (Int32.ofNat C)), .unset, .unset, .unset, .unset, .unset, .unset, .unset] [])) _
    refine XS.iloadN X0.here hx rfl (hb hby at_21) rfl ?_
    show Steps p.tables e below (s₁.setTop (mkF m 22 #[.val (.int p0), .val (.int p1), .val (.int p2), .val (.int p3), .val (.int (Int32.ofNat A)), .val (.int (Int32.ofNat B)), .val (.int (Int32.ofNat C)), .unset, .unset, .unset, .unset, .unset, .unset, .unset] [(.int p3)])) _
    refine XS.iconst X0.here hx rfl (hb hby at_22) ?_
    show Steps p.tables e below (s₁.setTop (mkF m 23 #[.val (.int p0), .val (.int p1), .val (.int p2), .val (.int p3), .val (.int (Int32.ofNat A)), .val (.int (Int32.ofNat B)), .val (.int (Int32.ofNat C)), .unset, .unset, .unset, .unset, .unset, .unset, .unset] [(.int (1 : Int32)), (.int p3)])) _
    refine XS.iand X0.here hx rfl (hb hby at_23) rfl ?_
    show Steps p.tables e below (s₁.setTop (mkF m 24 #[.val (.int p0), .val (.int p1), .val (.int p2), .val (.int p3), .val (.int (Int32.ofNat A)), .val (.int (Int32.ofNat B)), .val (.int (Int32.ofNat C)), .unset, .unset, .unset, .unset, .unset, .unset, .unset] [(.int (p3 &&& (1 : Int32)))])) _
    exact κ)
  obtain ⟨rA, pre5⟩ : ∃ rA : Int32, ∀ τ, Steps p.tables e below (s₁.setTop (mkF m 34 #[.val (.int p0), .val (.int p1), .val (.int p2), .val (.int p3), .val (.int (Int32.ofNat A)), .val (.int (Int32.ofNat B)), .val (.int (Int32.ofNat C)), .val (.int rA), .unset, .unset, .unset, .unset, .unset, .unset] [])) τ → Steps p.tables e below (s₁.setTop (entryFrame m #[(.int p0), (.int p1), (.int p2), (.int p3)] maxLocals)) τ := by
    by_cases q1 : (p3 &&& (1 : Int32)) = (0 : Int32)
    · have pre6 := fun τ (κ : Steps p.tables e below (s₁.setTop (mkF m 34 #[.val (.int p0), .val (.int p1), .val (.int p2), .val (.int p3), .val (.int (Int32.ofNat A)), .val (.int (Int32.ofNat B)), .val (.int (Int32.ofNat C)), .val (.int (0 : Int32)), .unset, .unset, .unset, .unset, .unset, .unset] [])) τ) => pre4 τ (by
        refine XS.ifYes X0.here hx rfl (pc0 := 24) (pc' := 31) rfl (hb hby at_24) rfl ((if0 _ _).trans (teq q1).1) (by decide) (by decide) ?_
        show Steps p.tables e below (s₁.setTop (mkF m 31 #[.val (.int p0), .val (.int p1), .val (.int p2), .val (.int p3), .val (.int (Int32.ofNat A)), .val (.int (Int32.ofNat B)), .val (.int (Int32.ofNat C)), .unset, .unset, .unset, .unset, .unset, .unset, .unset] [])) _
        refine XS.iconst X0.here hx rfl (hb hby at_31) ?_
        show Steps p.tables e below (s₁.setTop (mkF m 32 #[.val (.int p0), .val (.int p1), .val (.int p2), .val (.int p3), .val (.int (Int32.ofNat A)), .val (.int (Int32.ofNat B)), .val (.int (Int32.ofNat C)), .unset, .unset, .unset, .unset, .unset, .unset, .unset] [(.int (0 : Int32))])) _
        refine XS.istore X0.here hx rfl (hb hby at_32) rfl (l' := #[.val (.int p0), .val (.int p1), .val (.int p2), .val (.int p3), .val (.int (Int32.ofNat A)), .val (.int (Int32.ofNat B)), .val (.int (Int32.ofNat C)), .val (.int (0 : Int32)), .unset, .unset, .unset, .unset, .unset, .unset]) rfl ?_
        show Steps p.tables e below (s₁.setTop (mkF m 34 #[.val (.int p0), .val (.int p1), .val (.int p2), .val (.int p3), .val (.int (Int32.ofNat A)), .val (.int (Int32.ofNat B)), .val (.int (Int32.ofNat C)), .val (.int (0 : Int32)), .unset, .unset, .unset, .unset, .unset, .unset] [])) _
        exact κ)
      exact ⟨_, pre6⟩
    · have pre7 := fun τ (κ : Steps p.tables e below (s₁.setTop (mkF m 34 #[.val (.int p0), .val (.int p1), .val (.int p2), .val (.int p3), .val (.int (Int32.ofNat A)), .val (.int (Int32.ofNat B)), .val (.int (Int32.ofNat C)), .val (.int (1 : Int32)), .unset, .unset, .unset, .unset, .unset, .unset] [])) τ) => pre4 τ (by
        refine XS.ifNo X0.here hx rfl (hb hby at_24) rfl ((if0 _ _).trans (feq q1).1) ?_
        show Steps p.tables e below (s₁.setTop (mkF m 27 #[.val (.int p0), .val (.int p1), .val (.int p2), .val (.int p3), .val (.int (Int32.ofNat A)), .val (.int (Int32.ofNat B)), .val (.int (Int32.ofNat C)), .unset, .unset, .unset, .unset, .unset, .unset, .unset] [])) _
        refine XS.iconst X0.here hx rfl (hb hby at_27) ?_
        show Steps p.tables e below (s₁.setTop (mkF m 28 #[.val (.int p0), .val (.int p1), .val (.int p2), .val (.int p3), .val (.int (Int32.ofNat A)), .val (.int (Int32.ofNat B)), .val (.int (Int32.ofNat C)), .unset, .unset, .unset, .unset, .unset, .unset, .unset] [(.int (1 : Int32))])) _
        refine XS.goto X0.here hx rfl (pc0 := 28) (pc' := 32) rfl (hb hby at_28) (by decide) (by decide) ?_
        show Steps p.tables e below (s₁.setTop (mkF m 32 #[.val (.int p0), .val (.int p1), .val (.int p2), .val (.int p3), .val (.int (Int32.ofNat A)), .val (.int (Int32.ofNat B)), .val (.int (Int32.ofNat C)), .unset, .unset, .unset, .unset, .unset, .unset, .unset] [(.int (1 : Int32))])) _
        refine XS.istore X0.here hx rfl (hb hby at_32) rfl (l' := #[.val (.int p0), .val (.int p1), .val (.int p2), .val (.int p3), .val (.int (Int32.ofNat A)), .val (.int (Int32.ofNat B)), .val (.int (Int32.ofNat C)), .val (.int (1 : Int32)), .unset, .unset, .unset, .unset, .unset, .unset]) rfl ?_
        show Steps p.tables e below (s₁.setTop (mkF m 34 #[.val (.int p0), .val (.int p1), .val (.int p2), .val (.int p3), .val (.int (Int32.ofNat A)), .val (.int (Int32.ofNat B)), .val (.int (Int32.ofNat C)), .val (.int (1 : Int32)), .unset, .unset, .unset, .unset, .unset, .unset] [])) _
        exact κ)
      exact ⟨_, pre7⟩
  have pre8 := fun τ (κ : Steps p.tables e below (s₁.setTop (mkF m 38 #[.val (.int p0), .val (.int p1), .val (.int p2), .val (.int p3), .val (.int (Int32.ofNat A)), .val (.int (Int32.ofNat B)), .val (.int (Int32.ofNat C)), .val (.int rA), .unset, .unset, .unset, .unset, .unset, .unset] [(.int (Int32.ofNat A)), (.int (Int32.ofNat B))])) τ) => pre5 τ (by
    refine XS.iload X0.here hx rfl (hb hby at_34) rfl ?_
    show Steps p.tables e below (s₁.setTop (mkF m 36 #[.val (.int p0), .val (.int p1), .val (.int p2), .val (.int p3), .val (.int (Int32.ofNat A)), .val (.int (Int32.ofNat B)), .val (.int (Int32.ofNat C)), .val (.int rA), .unset, .unset, .unset, .unset, .unset, .unset] [(.int (Int32.ofNat B))])) _
    refine XS.iload X0.here hx rfl (hb hby at_36) rfl ?_
    show Steps p.tables e below (s₁.setTop (mkF m 38 #[.val (.int p0), .val (.int p1), .val (.int p2), .val (.int p3), .val (.int (Int32.ofNat A)), .val (.int (Int32.ofNat B)), .val (.int (Int32.ofNat C)), .val (.int rA), .unset, .unset, .unset, .unset, .unset, .unset] [(.int (Int32.ofNat A)), (.int (Int32.ofNat B))])) _
    exact κ)
  obtain ⟨hB, qB, pre9⟩ : ∃ hB : Int32, ((hB ≠ 0 ∧ B ≠ A) ∨ hB = 0) ∧ ∀ τ, Steps p.tables e below (s₁.setTop (mkF m 48 #[.val (.int p0), .val (.int p1), .val (.int p2), .val (.int p3), .val (.int (Int32.ofNat A)), .val (.int (Int32.ofNat B)), .val (.int (Int32.ofNat C)), .val (.int rA), .val (.int hB), .unset, .unset, .unset, .unset, .unset] [])) τ → Steps p.tables e below (s₁.setTop (entryFrame m #[(.int p0), (.int p1), (.int p2), (.int p3)] maxLocals)) τ := by
    by_cases q1 : (Int32.ofNat B) = (Int32.ofNat A)
    · have pre10 := fun τ (κ : Steps p.tables e below (s₁.setTop (mkF m 48 #[.val (.int p0), .val (.int p1), .val (.int p2), .val (.int p3), .val (.int (Int32.ofNat A)), .val (.int (Int32.ofNat B)), .val (.int (Int32.ofNat C)), .val (.int rA), .val (.int (0 : Int32)), .unset, .unset, .unset, .unset, .unset] [])) τ) => pre8 τ (by
        refine XS.icmpYes X0.here hx rfl (pc0 := 38) (pc' := 45) rfl (hb hby at_38) rfl (teq q1).1 (by decide) (by decide) ?_
        show Steps p.tables e below (s₁.setTop (mkF m 45 #[.val (.int p0), .val (.int p1), .val (.int p2), .val (.int p3), .val (.int (Int32.ofNat A)), .val (.int (Int32.ofNat B)), .val (.int (Int32.ofNat C)), .val (.int rA), .unset, .unset, .unset, .unset, .unset, .unset] [])) _
        refine XS.iconst X0.here hx rfl (hb hby at_45) ?_
        show Steps p.tables e below (s₁.setTop (mkF m 46 #[.val (.int p0), .val (.int p1), .val (.int p2), .val (.int p3), .val (.int (Int32.ofNat A)), .val (.int (Int32.ofNat B)), .val (.int (Int32.ofNat C)), .val (.int rA), .unset, .unset, .unset, .unset, .unset, .unset] [(.int (0 : Int32))])) _
        refine XS.istore X0.here hx rfl (hb hby at_46) rfl (l' := #[.val (.int p0), .val (.int p1), .val (.int p2), .val (.int p3), .val (.int (Int32.ofNat A)), .val (.int (Int32.ofNat B)), .val (.int (Int32.ofNat C)), .val (.int rA), .val (.int (0 : Int32)), .unset, .unset, .unset, .unset, .unset]) rfl ?_
        show Steps p.tables e below (s₁.setTop (mkF m 48 #[.val (.int p0), .val (.int p1), .val (.int p2), .val (.int p3), .val (.int (Int32.ofNat A)), .val (.int (Int32.ofNat B)), .val (.int (Int32.ofNat C)), .val (.int rA), .val (.int (0 : Int32)), .unset, .unset, .unset, .unset, .unset] [])) _
        exact κ)
      exact ⟨_, Or.inr rfl, pre10⟩
    · have pre11 := fun τ (κ : Steps p.tables e below (s₁.setTop (mkF m 48 #[.val (.int p0), .val (.int p1), .val (.int p2), .val (.int p3), .val (.int (Int32.ofNat A)), .val (.int (Int32.ofNat B)), .val (.int (Int32.ofNat C)), .val (.int rA), .val (.int (1 : Int32)), .unset, .unset, .unset, .unset, .unset] [])) τ) => pre8 τ (by
        refine XS.icmpNo X0.here hx rfl (hb hby at_38) rfl (feq q1).1 ?_
        show Steps p.tables e below (s₁.setTop (mkF m 41 #[.val (.int p0), .val (.int p1), .val (.int p2), .val (.int p3), .val (.int (Int32.ofNat A)), .val (.int (Int32.ofNat B)), .val (.int (Int32.ofNat C)), .val (.int rA), .unset, .unset, .unset, .unset, .unset, .unset] [])) _
        refine XS.iconst X0.here hx rfl (hb hby at_41) ?_
        show Steps p.tables e below (s₁.setTop (mkF m 42 #[.val (.int p0), .val (.int p1), .val (.int p2), .val (.int p3), .val (.int (Int32.ofNat A)), .val (.int (Int32.ofNat B)), .val (.int (Int32.ofNat C)), .val (.int rA), .unset, .unset, .unset, .unset, .unset, .unset] [(.int (1 : Int32))])) _
        refine XS.goto X0.here hx rfl (pc0 := 42) (pc' := 46) rfl (hb hby at_42) (by decide) (by decide) ?_
        show Steps p.tables e below (s₁.setTop (mkF m 46 #[.val (.int p0), .val (.int p1), .val (.int p2), .val (.int p3), .val (.int (Int32.ofNat A)), .val (.int (Int32.ofNat B)), .val (.int (Int32.ofNat C)), .val (.int rA), .unset, .unset, .unset, .unset, .unset, .unset] [(.int (1 : Int32))])) _
        refine XS.istore X0.here hx rfl (hb hby at_46) rfl (l' := #[.val (.int p0), .val (.int p1), .val (.int p2), .val (.int p3), .val (.int (Int32.ofNat A)), .val (.int (Int32.ofNat B)), .val (.int (Int32.ofNat C)), .val (.int rA), .val (.int (1 : Int32)), .unset, .unset, .unset, .unset, .unset]) rfl ?_
        show Steps p.tables e below (s₁.setTop (mkF m 48 #[.val (.int p0), .val (.int p1), .val (.int p2), .val (.int p3), .val (.int (Int32.ofNat A)), .val (.int (Int32.ofNat B)), .val (.int (Int32.ofNat C)), .val (.int rA), .val (.int (1 : Int32)), .unset, .unset, .unset, .unset, .unset] [])) _
        exact κ)
      exact ⟨_, Or.inl ⟨by decide, fun z => q1 (by rw [z])⟩, pre11⟩
  have pre12 := fun τ (κ : Steps p.tables e below (s₁.setTop (mkF m 52 #[.val (.int p0), .val (.int p1), .val (.int p2), .val (.int p3), .val (.int (Int32.ofNat A)), .val (.int (Int32.ofNat B)), .val (.int (Int32.ofNat C)), .val (.int rA), .val (.int hB), .unset, .unset, .unset, .unset, .unset] [(.int (Int32.ofNat A)), (.int (Int32.ofNat C))])) τ) => pre9 τ (by
    refine XS.iload X0.here hx rfl (hb hby at_48) rfl ?_
    show Steps p.tables e below (s₁.setTop (mkF m 50 #[.val (.int p0), .val (.int p1), .val (.int p2), .val (.int p3), .val (.int (Int32.ofNat A)), .val (.int (Int32.ofNat B)), .val (.int (Int32.ofNat C)), .val (.int rA), .val (.int hB), .unset, .unset, .unset, .unset, .unset] [(.int (Int32.ofNat C))])) _
    refine XS.iload X0.here hx rfl (hb hby at_50) rfl ?_
    show Steps p.tables e below (s₁.setTop (mkF m 52 #[.val (.int p0), .val (.int p1), .val (.int p2), .val (.int p3), .val (.int (Int32.ofNat A)), .val (.int (Int32.ofNat B)), .val (.int (Int32.ofNat C)), .val (.int rA), .val (.int hB), .unset, .unset, .unset, .unset, .unset] [(.int (Int32.ofNat A)), (.int (Int32.ofNat C))])) _
    exact κ)
  obtain ⟨hC, qC, pre13⟩ : ∃ hC : Int32, ((hC ≠ 0 ∧ C ≠ A ∧ C ≠ B) ∨ hC = 0) ∧ ∀ τ, Steps p.tables e below (s₁.setTop (mkF m 69 #[.val (.int p0), .val (.int p1), .val (.int p2), .val (.int p3), .val (.int (Int32.ofNat A)), .val (.int (Int32.ofNat B)), .val (.int (Int32.ofNat C)), .val (.int rA), .val (.int hB), .val (.int hC), .unset, .unset, .unset, .unset] [])) τ → Steps p.tables e below (s₁.setTop (entryFrame m #[(.int p0), (.int p1), (.int p2), (.int p3)] maxLocals)) τ := by
    by_cases q1 : (Int32.ofNat C) = (Int32.ofNat A)
    · have pre14 := fun τ (κ : Steps p.tables e below (s₁.setTop (mkF m 69 #[.val (.int p0), .val (.int p1), .val (.int p2), .val (.int p3), .val (.int (Int32.ofNat A)), .val (.int (Int32.ofNat B)), .val (.int (Int32.ofNat C)), .val (.int rA), .val (.int hB), .val (.int (0 : Int32)), .unset, .unset, .unset, .unset] [])) τ) => pre12 τ (by
        refine XS.icmpYes X0.here hx rfl (pc0 := 52) (pc' := 66) rfl (hb hby at_52) rfl (teq q1).1 (by decide) (by decide) ?_
        show Steps p.tables e below (s₁.setTop (mkF m 66 #[.val (.int p0), .val (.int p1), .val (.int p2), .val (.int p3), .val (.int (Int32.ofNat A)), .val (.int (Int32.ofNat B)), .val (.int (Int32.ofNat C)), .val (.int rA), .val (.int hB), .unset, .unset, .unset, .unset, .unset] [])) _
        refine XS.iconst X0.here hx rfl (hb hby at_66) ?_
        show Steps p.tables e below (s₁.setTop (mkF m 67 #[.val (.int p0), .val (.int p1), .val (.int p2), .val (.int p3), .val (.int (Int32.ofNat A)), .val (.int (Int32.ofNat B)), .val (.int (Int32.ofNat C)), .val (.int rA), .val (.int hB), .unset, .unset, .unset, .unset, .unset] [(.int (0 : Int32))])) _
        refine XS.istore X0.here hx rfl (hb hby at_67) rfl (l' := #[.val (.int p0), .val (.int p1), .val (.int p2), .val (.int p3), .val (.int (Int32.ofNat A)), .val (.int (Int32.ofNat B)), .val (.int (Int32.ofNat C)), .val (.int rA), .val (.int hB), .val (.int (0 : Int32)), .unset, .unset, .unset, .unset]) rfl ?_
        show Steps p.tables e below (s₁.setTop (mkF m 69 #[.val (.int p0), .val (.int p1), .val (.int p2), .val (.int p3), .val (.int (Int32.ofNat A)), .val (.int (Int32.ofNat B)), .val (.int (Int32.ofNat C)), .val (.int rA), .val (.int hB), .val (.int (0 : Int32)), .unset, .unset, .unset, .unset] [])) _
        exact κ)
      exact ⟨_, Or.inr rfl, pre14⟩
    · have pre15 := fun τ (κ : Steps p.tables e below (s₁.setTop (mkF m 59 #[.val (.int p0), .val (.int p1), .val (.int p2), .val (.int p3), .val (.int (Int32.ofNat A)), .val (.int (Int32.ofNat B)), .val (.int (Int32.ofNat C)), .val (.int rA), .val (.int hB), .unset, .unset, .unset, .unset, .unset] [(.int (Int32.ofNat B)), (.int (Int32.ofNat C))])) τ) => pre12 τ (by
        refine XS.icmpNo X0.here hx rfl (hb hby at_52) rfl (feq q1).1 ?_
        show Steps p.tables e below (s₁.setTop (mkF m 55 #[.val (.int p0), .val (.int p1), .val (.int p2), .val (.int p3), .val (.int (Int32.ofNat A)), .val (.int (Int32.ofNat B)), .val (.int (Int32.ofNat C)), .val (.int rA), .val (.int hB), .unset, .unset, .unset, .unset, .unset] [])) _
        refine XS.iload X0.here hx rfl (hb hby at_55) rfl ?_
        show Steps p.tables e below (s₁.setTop (mkF m 57 #[.val (.int p0), .val (.int p1), .val (.int p2), .val (.int p3), .val (.int (Int32.ofNat A)), .val (.int (Int32.ofNat B)), .val (.int (Int32.ofNat C)), .val (.int rA), .val (.int hB), .unset, .unset, .unset, .unset, .unset] [(.int (Int32.ofNat C))])) _
        refine XS.iload X0.here hx rfl (hb hby at_57) rfl ?_
        show Steps p.tables e below (s₁.setTop (mkF m 59 #[.val (.int p0), .val (.int p1), .val (.int p2), .val (.int p3), .val (.int (Int32.ofNat A)), .val (.int (Int32.ofNat B)), .val (.int (Int32.ofNat C)), .val (.int rA), .val (.int hB), .unset, .unset, .unset, .unset, .unset] [(.int (Int32.ofNat B)), (.int (Int32.ofNat C))])) _
        exact κ)
      by_cases q2 : (Int32.ofNat C) = (Int32.ofNat B)
      · have pre16 := fun τ (κ : Steps p.tables e below (s₁.setTop (mkF m 69 #[.val (.int p0), .val (.int p1), .val (.int p2), .val (.int p3), .val (.int (Int32.ofNat A)), .val (.int (Int32.ofNat B)), .val (.int (Int32.ofNat C)), .val (.int rA), .val (.int hB), .val (.int (0 : Int32)), .unset, .unset, .unset, .unset] [])) τ) => pre15 τ (by
          refine XS.icmpYes X0.here hx rfl (pc0 := 59) (pc' := 66) rfl (hb hby at_59) rfl (teq q2).1 (by decide) (by decide) ?_
          show Steps p.tables e below (s₁.setTop (mkF m 66 #[.val (.int p0), .val (.int p1), .val (.int p2), .val (.int p3), .val (.int (Int32.ofNat A)), .val (.int (Int32.ofNat B)), .val (.int (Int32.ofNat C)), .val (.int rA), .val (.int hB), .unset, .unset, .unset, .unset, .unset] [])) _
          refine XS.iconst X0.here hx rfl (hb hby at_66) ?_
          show Steps p.tables e below (s₁.setTop (mkF m 67 #[.val (.int p0), .val (.int p1), .val (.int p2), .val (.int p3), .val (.int (Int32.ofNat A)), .val (.int (Int32.ofNat B)), .val (.int (Int32.ofNat C)), .val (.int rA), .val (.int hB), .unset, .unset, .unset, .unset, .unset] [(.int (0 : Int32))])) _
          refine XS.istore X0.here hx rfl (hb hby at_67) rfl (l' := #[.val (.int p0), .val (.int p1), .val (.int p2), .val (.int p3), .val (.int (Int32.ofNat A)), .val (.int (Int32.ofNat B)), .val (.int (Int32.ofNat C)), .val (.int rA), .val (.int hB), .val (.int (0 : Int32)), .unset, .unset, .unset, .unset]) rfl ?_
          show Steps p.tables e below (s₁.setTop (mkF m 69 #[.val (.int p0), .val (.int p1), .val (.int p2), .val (.int p3), .val (.int (Int32.ofNat A)), .val (.int (Int32.ofNat B)), .val (.int (Int32.ofNat C)), .val (.int rA), .val (.int hB), .val (.int (0 : Int32)), .unset, .unset, .unset, .unset] [])) _
          exact κ)
        exact ⟨_, Or.inr rfl, pre16⟩
      · have pre17 := fun τ (κ : Steps p.tables e below (s₁.setTop (mkF m 69 #[.val (.int p0), .val (.int p1), .val (.int p2), .val (.int p3), .val (.int (Int32.ofNat A)), .val (.int (Int32.ofNat B)), .val (.int (Int32.ofNat C)), .val (.int rA), .val (.int hB), .val (.int (1 : Int32)), .unset, .unset, .unset, .unset] [])) τ) => pre15 τ (by
          refine XS.icmpNo X0.here hx rfl (hb hby at_59) rfl (feq q2).1 ?_
          show Steps p.tables e below (s₁.setTop (mkF m 62 #[.val (.int p0), .val (.int p1), .val (.int p2), .val (.int p3), .val (.int (Int32.ofNat A)), .val (.int (Int32.ofNat B)), .val (.int (Int32.ofNat C)), .val (.int rA), .val (.int hB), .unset, .unset, .unset, .unset, .unset] [])) _
          refine XS.iconst X0.here hx rfl (hb hby at_62) ?_
          show Steps p.tables e below (s₁.setTop (mkF m 63 #[.val (.int p0), .val (.int p1), .val (.int p2), .val (.int p3), .val (.int (Int32.ofNat A)), .val (.int (Int32.ofNat B)), .val (.int (Int32.ofNat C)), .val (.int rA), .val (.int hB), .unset, .unset, .unset, .unset, .unset] [(.int (1 : Int32))])) _
          refine XS.goto X0.here hx rfl (pc0 := 63) (pc' := 67) rfl (hb hby at_63) (by decide) (by decide) ?_
          show Steps p.tables e below (s₁.setTop (mkF m 67 #[.val (.int p0), .val (.int p1), .val (.int p2), .val (.int p3), .val (.int (Int32.ofNat A)), .val (.int (Int32.ofNat B)), .val (.int (Int32.ofNat C)), .val (.int rA), .val (.int hB), .unset, .unset, .unset, .unset, .unset] [(.int (1 : Int32))])) _
          refine XS.istore X0.here hx rfl (hb hby at_67) rfl (l' := #[.val (.int p0), .val (.int p1), .val (.int p2), .val (.int p3), .val (.int (Int32.ofNat A)), .val (.int (Int32.ofNat B)), .val (.int (Int32.ofNat C)), .val (.int rA), .val (.int hB), .val (.int (1 : Int32)), .unset, .unset, .unset, .unset]) rfl ?_
          show Steps p.tables e below (s₁.setTop (mkF m 69 #[.val (.int p0), .val (.int p1), .val (.int p2), .val (.int p3), .val (.int (Int32.ofNat A)), .val (.int (Int32.ofNat B)), .val (.int (Int32.ofNat C)), .val (.int rA), .val (.int hB), .val (.int (1 : Int32)), .unset, .unset, .unset, .unset] [])) _
          exact κ)
        exact ⟨_, Or.inl ⟨by decide, fun z => q1 (by rw [z]), fun z => q2 (by rw [z])⟩, pre17⟩
  obtain ⟨T18, h18, X18, e18, E18, A18, D18, -, st18⟩ := newO X0 hx hZ hown (hw _ (List.mem_of_getElem? (i := 0) rfl)) (hw _ (List.mem_of_getElem? (i := 1) rfl)) (hw _ (List.mem_of_getElem? (i := 2) rfl)) e0 (g := (mkF m 69 #[.val (.int p0), .val (.int p1), .val (.int p2), .val (.int p3), .val (.int (Int32.ofNat A)), .val (.int (Int32.ofNat B)), .val (.int (Int32.ofNat C)), .val (.int rA), .val (.int hB), .val (.int hC), .unset, .unset, .unset, .unset] [])) rfl (hb hby at_69) (by decide) (by decide)
  obtain ⟨ob, g18⟩ : ∃ z, z = h0.size := ⟨_, rfl⟩
  rw [← g18] at A18 D18 st18
  have g_ob : n0 ≤ ob := Nat.le_trans Z0 (Nat.le_of_eq g18.symm)
  have Z18 : n0 ≤ h18.size := Nat.le_trans Z0 E18.1
  have F_counts_ob_18 : Fld Z h18 ob "com/example/earmark/earmark/ledger/PositionSet" "counts" "[I" .null := D18 (Or.inl (hw _ (List.mem_of_getElem? (i := 11) rfl))) (ty := (.array .int)) (by decide)
  have F_capacity_ob_18 : Fld Z h18 ob "com/example/earmark/earmark/ledger/PositionSet" "capacity" "I" (.int (0 : Int32)) := D18 (Or.inl (hw _ (List.mem_of_getElem? (i := 13) rfl))) (ty := .int) (by decide)
  have F_size_ob_18 : Fld Z h18 ob "com/example/earmark/earmark/ledger/PositionSet" "size" "I" (.int (0 : Int32)) := D18 (Or.inl (hw _ (List.mem_of_getElem? (i := 28) rfl))) (ty := .int) (by decide)
  have pre19 := fun τ (κ : Steps p.tables e below (T18.setTop (mkF m 72 #[.val (.int p0), .val (.int p1), .val (.int p2), .val (.int p3), .val (.int (Int32.ofNat A)), .val (.int (Int32.ofNat B)), .val (.int (Int32.ofNat C)), .val (.int rA), .val (.int hB), .val (.int hC), .unset, .unset, .unset, .unset] [(.ref ob)])) τ) => pre13 τ (st18 _ κ)
  have pre20 := fun τ (κ : Steps p.tables e below (T18.setTop (mkF m 73 #[.val (.int p0), .val (.int p1), .val (.int p2), .val (.int p3), .val (.int (Int32.ofNat A)), .val (.int (Int32.ofNat B)), .val (.int (Int32.ofNat C)), .val (.int rA), .val (.int hB), .val (.int hC), .unset, .unset, .unset, .unset] [(.ref ob), (.ref ob)])) τ) => pre19 τ (by
    refine XS.dup X18.here hx rfl (hb hby at_72) rfl rfl ?_
    show Steps p.tables e below (T18.setTop (mkF m 73 #[.val (.int p0), .val (.int p1), .val (.int p2), .val (.int p3), .val (.int (Int32.ofNat A)), .val (.int (Int32.ofNat B)), .val (.int (Int32.ofNat C)), .val (.int rA), .val (.int hB), .val (.int hC), .unset, .unset, .unset, .unset] [(.ref ob), (.ref ob)])) _
    exact κ)
  obtain ⟨_, _, ⟨T21, L21, k21, n21⟩, -, X21, ⟨Lc21, hQ21, l21, y21, z21⟩, st21⟩ := X18.specialBack hx (y := (⟨"com/example/earmark/earmark/ledger/PositionSet", "<init>", "()V"⟩ : MethodName)) rfl hown (mvT hZ (hw _ (List.mem_of_getElem? (i := 3) rfl))) (mvT hZ (hw _ (List.mem_of_getElem? (i := 4) rfl))) (mvT hZ (hw _ (List.mem_of_getElem? (i := 5) rfl))) (by decide) (backOf (W := 1) (rm1 l Z a0 hw [] ob h18 n0 Z18 A18 F_counts_ob_18 F_capacity_ob_18 F_size_ob_18 g_ob) hZ (hw _ (List.mem_of_getElem? (i := 5) rfl)) (hw _ (List.mem_of_getElem? (i := 2) rfl)) (by decide) (by decide)) (g := (mkF m 73 #[.val (.int p0), .val (.int p1), .val (.int p2), .val (.int p3), .val (.int (Int32.ofNat A)), .val (.int (Int32.ofNat B)), .val (.int (Int32.ofNat C)), .val (.int rA), .val (.int hB), .val (.int hC), .unset, .unset, .unset, .unset] [(.ref ob), (.ref ob)])) rfl (by rw [hml]; rfl) (Steps.refl _) (a := ob) (argsL := []) (rest := [(.ref ob)]) (lenOf pd_4 rfl) rfl (by show 2 * 0 + _ ≤ _; exact Nat.le_of_eq rfl) (hb hby at_73) (fun _ _ => ⟨rfl, e18, (by decide : 1 + 1 ≤ _), (by decide : 3 + 2 ≤ _)⟩)
  dsimp only [Pt.U, Pt.locs, Pt.cells, Pt.slots] at X21 l21 y21 z21 st21 hQ21
  subst l21 y21 z21
  obtain ⟨rfl, Nq21, P21⟩ := hQ21
  have N21 := Fr.app N0 Nq21
  have pre22 := fun τ (κ : Steps p.tables e below (T21.setTop (mkF m 76 #[.val (.int p0), .val (.int p1), .val (.int p2), .val (.int p3), .val (.int (Int32.ofNat A)), .val (.int (Int32.ofNat B)), .val (.int (Int32.ofNat C)), .val (.int rA), .val (.int hB), .val (.int hC), .unset, .unset, .unset, .unset] [(.ref ob)])) τ) => pre20 τ (st21.trans κ)
  have Zz := P21.size
  have g00 : own_G 0 = 0 := rfl
  have pre23 := fun τ (κ : Steps p.tables e below (T21.setTop (mkF m 82 #[.val (.int p0), .val (.int p1), .val (.int p2), .val (.int p3), .val (.int (Int32.ofNat A)), .val (.int (Int32.ofNat B)), .val (.int (Int32.ofNat C)), .val (.int rA), .val (.int hB), .val (.int hC), .val (.ref ob), .unset, .unset, .unset] [(.int (Int32.ofNat A)), (.ref ob)])) τ) => pre22 τ (by
    refine XS.astore X21.here hx rfl (hb hby at_76) rfl rfl (l' := #[.val (.int p0), .val (.int p1), .val (.int p2), .val (.int p3), .val (.int (Int32.ofNat A)), .val (.int (Int32.ofNat B)), .val (.int (Int32.ofNat C)), .val (.int rA), .val (.int hB), .val (.int hC), .val (.ref ob), .unset, .unset, .unset]) rfl ?_
    show Steps p.tables e below (T21.setTop (mkF m 78 #[.val (.int p0), .val (.int p1), .val (.int p2), .val (.int p3), .val (.int (Int32.ofNat A)), .val (.int (Int32.ofNat B)), .val (.int (Int32.ofNat C)), .val (.int rA), .val (.int hB), .val (.int hC), .val (.ref ob), .unset, .unset, .unset] [])) _
    refine XS.aload X21.here hx rfl (hb hby at_78) rfl rfl ?_
    show Steps p.tables e below (T21.setTop (mkF m 80 #[.val (.int p0), .val (.int p1), .val (.int p2), .val (.int p3), .val (.int (Int32.ofNat A)), .val (.int (Int32.ofNat B)), .val (.int (Int32.ofNat C)), .val (.int rA), .val (.int hB), .val (.int hC), .val (.ref ob), .unset, .unset, .unset] [(.ref ob)])) _
    refine XS.iload X21.here hx rfl (hb hby at_80) rfl ?_
    show Steps p.tables e below (T21.setTop (mkF m 82 #[.val (.int p0), .val (.int p1), .val (.int p2), .val (.int p3), .val (.int (Int32.ofNat A)), .val (.int (Int32.ofNat B)), .val (.int (Int32.ofNat C)), .val (.int rA), .val (.int hB), .val (.int hC), .val (.ref ob), .unset, .unset, .unset] [(.int (Int32.ofNat A)), (.ref ob)])) _
    exact κ)
  obtain ⟨e1, f1e1, f2e1, f3e1, f4e1⟩ := own_fit 0 A P21.le8 (by omega)
  have m1e1 := own_G_mono f1e1
  have m2e1 := own_G_mono f2e1
  rw [own_G8] at m2e1
  have Exe1 := P21.exa
  obtain ⟨cq24, kq24, q24a, q24b, q24c⟩ := isOf hZ rfl Exe1
  obtain ⟨_, _, ⟨T24, L24, k24, n24⟩, -, X24, ⟨Lc24, hQ24, l24, y24, z24⟩, st24⟩ := X21.virtualBack hx (y := (⟨"com/example/earmark/earmark/ledger/PositionSet", "add", "(I)V"⟩ : MethodName)) (z := (⟨"com/example/earmark/earmark/ledger/PositionSet", "add", "(I)V"⟩ : MethodName)) hown (mvT hZ (hw _ (List.mem_of_getElem? (i := 14) rfl))) (mvT hZ (hw _ (List.mem_of_getElem? (i := 15) rfl))) (notFace_of_selects (args := #[]) (mvT hZ (hw _ (List.mem_of_getElem? (i := 17) rfl)))) (mvT hZ (hw _ (List.mem_of_getElem? (i := 17) rfl))) (mvT hZ (hw _ (List.mem_of_getElem? (i := 16) rfl))) (by decide) (backOf (W := 0) (rm3 l Z a0 hw [] ob A 0 e1 [] T21.heap n0 Zz P21 f2e1 f3e1 f1e1 f4e1) hZ (hw _ (List.mem_of_getElem? (i := 18) rfl)) (hw _ (List.mem_of_getElem? (i := 2) rfl)) (Nat.le_of_ble_eq_true rfl) (Nat.le_of_ble_eq_true rfl)) q24a q24c (g := (mkF m 82 #[.val (.int p0), .val (.int p1), .val (.int p2), .val (.int p3), .val (.int (Int32.ofNat A)), .val (.int (Int32.ofNat B)), .val (.int (Int32.ofNat C)), .val (.int rA), .val (.int hB), .val (.int hC), .val (.ref ob), .unset, .unset, .unset] [(.int (Int32.ofNat A)), (.ref ob)])) rfl (by rw [hml]; rfl) (Steps.refl _) (argsL := [(.int (Int32.ofNat A))]) (rest := []) (lenOf pd_2 rfl) rfl (by show 2 * 0 + _ ≤ _; exact Nat.le_of_eq rfl) (hb hby at_82) (fun _ _ => ⟨rfl, rfl, (by show 2 + (e1 - 0) ≤ 32; omega), (by show 5 + (own_G e1 - own_G 0) ≤ 1152; omega)⟩)
  dsimp only [Pt.U, Pt.locs, Pt.cells, Pt.slots] at X24 l24 y24 z24 st24 hQ24
  subst l24 y24 z24
  obtain ⟨rfl, Nq24, P24⟩ := hQ24
  have N24 := Fr.app N21 Nq24
  have pre25 := fun τ (κ : Steps p.tables e below (T24.setTop (mkF m 85 #[.val (.int p0), .val (.int p1), .val (.int p2), .val (.int p3), .val (.int (Int32.ofNat A)), .val (.int (Int32.ofNat B)), .val (.int (Int32.ofNat C)), .val (.int rA), .val (.int hB), .val (.int hC), .val (.ref ob), .unset, .unset, .unset] [])) τ) => pre23 τ (st24.trans κ)
  have Y24 := X24.more (cells' := 2 + e1) (slots' := 5 + own_G e1) (by omega) (by omega)
  have Zz24 := P24.size
  have pre26 := fun τ (κ : Steps p.tables e below (T24.setTop (mkF m 87 #[.val (.int p0), .val (.int p1), .val (.int p2), .val (.int p3), .val (.int (Int32.ofNat A)), .val (.int (Int32.ofNat B)), .val (.int (Int32.ofNat C)), .val (.int rA), .val (.int hB), .val (.int hC), .val (.ref ob), .unset, .unset, .unset] [(.int hB)])) τ) => pre25 τ (by
    refine XS.iload Y24.here hx rfl (hb hby at_85) rfl ?_
    show Steps p.tables e below (T24.setTop (mkF m 87 #[.val (.int p0), .val (.int p1), .val (.int p2), .val (.int p3), .val (.int (Int32.ofNat A)), .val (.int (Int32.ofNat B)), .val (.int (Int32.ofNat C)), .val (.int rA), .val (.int hB), .val (.int hC), .val (.ref ob), .unset, .unset, .unset] [(.int hB)])) _
    exact κ)
  have e18 := P24.le8
  obtain ⟨T27, h27, lo27, e2, S2, X27, e27, N27, Z27, P_27, sS2, pre27⟩ : ∃ (T27 : State) (h27 : Heap) (lo27 : List Loc) (e2 : Nat) (S2 : List Nat), Stand p l e room_1 s m #[(.int p0), (.int p1), (.int p2), (.int p3)] below meth c T27 lo27 ((2 + e2)) ((5 + own_G e2)) ∧ T27.heap = h27 ∧ Fr n0 lo27 ∧ n0 ≤ h27.size ∧ (own_PS Z h27 ob e2 S2 n0) ∧ ((hB ≠ 0 ∧ B ≠ A ∧ S2 = [B, A]) ∨ (hB = 0 ∧ S2 = [A])) ∧ ∀ τ, Steps p.tables e below (T27.setTop (mkF m 97 #[.val (.int p0), .val (.int p1), .val (.int p2), .val (.int p3), .val (.int (Int32.ofNat A)), .val (.int (Int32.ofNat B)), .val (.int (Int32.ofNat C)), .val (.int rA), .val (.int hB), .val (.int hC), .val (.ref ob), .unset, .unset, .unset] [])) τ → Steps p.tables e below (s₁.setTop (entryFrame m #[(.int p0), (.int p1), (.int p2), (.int p3)] maxLocals)) τ := by
    by_cases qq : hB = (0 : Int32)
    · have pre28 := fun τ (κ : Steps p.tables e below (T24.setTop (mkF m 97 #[.val (.int p0), .val (.int p1), .val (.int p2), .val (.int p3), .val (.int (Int32.ofNat A)), .val (.int (Int32.ofNat B)), .val (.int (Int32.ofNat C)), .val (.int rA), .val (.int hB), .val (.int hC), .val (.ref ob), .unset, .unset, .unset] [])) τ) => pre26 τ (by
        refine XS.ifYes Y24.here hx rfl (pc0 := 87) (pc' := 97) rfl (hb hby at_87) rfl ((if0 _ _).trans (teq qq).1) (by decide) (by decide) ?_
        show Steps p.tables e below (T24.setTop (mkF m 97 #[.val (.int p0), .val (.int p1), .val (.int p2), .val (.int p3), .val (.int (Int32.ofNat A)), .val (.int (Int32.ofNat B)), .val (.int (Int32.ofNat C)), .val (.int rA), .val (.int hB), .val (.int hC), .val (.ref ob), .unset, .unset, .unset] [])) _
        exact κ)
      exact ⟨T24, T24.heap, _, e1, [A], Y24, rfl, N24, Zz24, P24, Or.inr ⟨qq, rfl⟩, pre28⟩
    · have pre29 := fun τ (κ : Steps p.tables e below (T24.setTop (mkF m 94 #[.val (.int p0), .val (.int p1), .val (.int p2), .val (.int p3), .val (.int (Int32.ofNat A)), .val (.int (Int32.ofNat B)), .val (.int (Int32.ofNat C)), .val (.int rA), .val (.int hB), .val (.int hC), .val (.ref ob), .unset, .unset, .unset] [(.int (Int32.ofNat B)), (.ref ob)])) τ) => pre26 τ (by
        refine XS.ifNo Y24.here hx rfl (hb hby at_87) rfl ((if0 _ _).trans (feq qq).1) ?_
        show Steps p.tables e below (T24.setTop (mkF m 90 #[.val (.int p0), .val (.int p1), .val (.int p2), .val (.int p3), .val (.int (Int32.ofNat A)), .val (.int (Int32.ofNat B)), .val (.int (Int32.ofNat C)), .val (.int rA), .val (.int hB), .val (.int hC), .val (.ref ob), .unset, .unset, .unset] [])) _
        refine XS.aload Y24.here hx rfl (hb hby at_90) rfl rfl ?_
        show Steps p.tables e below (T24.setTop (mkF m 92 #[.val (.int p0), .val (.int p1), .val (.int p2), .val (.int p3), .val (.int (Int32.ofNat A)), .val (.int (Int32.ofNat B)), .val (.int (Int32.ofNat C)), .val (.int rA), .val (.int hB), .val (.int hC), .val (.ref ob), .unset, .unset, .unset] [(.ref ob)])) _
        refine XS.iload Y24.here hx rfl (hb hby at_92) rfl ?_
        show Steps p.tables e below (T24.setTop (mkF m 94 #[.val (.int p0), .val (.int p1), .val (.int p2), .val (.int p3), .val (.int (Int32.ofNat A)), .val (.int (Int32.ofNat B)), .val (.int (Int32.ofNat C)), .val (.int rA), .val (.int hB), .val (.int hC), .val (.ref ob), .unset, .unset, .unset] [(.int (Int32.ofNat B)), (.ref ob)])) _
        exact κ)
      obtain ⟨ey, f1ey, f2ey, f3ey, f4ey⟩ := own_fit e1 B P24.le8 (by omega)
      have m1ey := own_G_mono f1ey
      have m2ey := own_G_mono f2ey
      rw [own_G8] at m2ey
      have Exey := P24.exa
      obtain ⟨cq30, kq30, q30a, q30b, q30c⟩ := isOf hZ rfl Exey
      obtain ⟨_, _, ⟨T30, L30, k30, n30⟩, -, X30, ⟨Lc30, hQ30, l30, y30, z30⟩, st30⟩ := Y24.virtualBack hx (y := (⟨"com/example/earmark/earmark/ledger/PositionSet", "add", "(I)V"⟩ : MethodName)) (z := (⟨"com/example/earmark/earmark/ledger/PositionSet", "add", "(I)V"⟩ : MethodName)) hown (mvT hZ (hw _ (List.mem_of_getElem? (i := 14) rfl))) (mvT hZ (hw _ (List.mem_of_getElem? (i := 15) rfl))) (notFace_of_selects (args := #[]) (mvT hZ (hw _ (List.mem_of_getElem? (i := 17) rfl)))) (mvT hZ (hw _ (List.mem_of_getElem? (i := 17) rfl))) (mvT hZ (hw _ (List.mem_of_getElem? (i := 16) rfl))) (by decide) (backOf (W := 0) (rm3 l Z a0 hw [] ob B e1 ey [A] T24.heap n0 Zz24 P24 f2ey f3ey f1ey f4ey) hZ (hw _ (List.mem_of_getElem? (i := 18) rfl)) (hw _ (List.mem_of_getElem? (i := 2) rfl)) (Nat.le_of_ble_eq_true rfl) (Nat.le_of_ble_eq_true rfl)) q30a q30c (g := (mkF m 94 #[.val (.int p0), .val (.int p1), .val (.int p2), .val (.int p3), .val (.int (Int32.ofNat A)), .val (.int (Int32.ofNat B)), .val (.int (Int32.ofNat C)), .val (.int rA), .val (.int hB), .val (.int hC), .val (.ref ob), .unset, .unset, .unset] [(.int (Int32.ofNat B)), (.ref ob)])) rfl (by rw [hml]; rfl) (Steps.refl _) (argsL := [(.int (Int32.ofNat B))]) (rest := []) (lenOf pd_2 rfl) rfl (by show 2 * 0 + _ ≤ _; exact Nat.le_of_eq rfl) (hb hby at_94) (fun _ _ => ⟨rfl, rfl, (by show (2 + e1) + (ey - e1) ≤ 32; omega), (by show (5 + own_G e1) + (own_G ey - own_G e1) ≤ 1152; omega)⟩)
      dsimp only [Pt.U, Pt.locs, Pt.cells, Pt.slots] at X30 l30 y30 z30 st30 hQ30
      subst l30 y30 z30
      obtain ⟨rfl, Nq30, P30⟩ := hQ30
      have N30 := Fr.app N24 Nq30
      have pre31 := fun τ (κ : Steps p.tables e below (T30.setTop (mkF m 97 #[.val (.int p0), .val (.int p1), .val (.int p2), .val (.int p3), .val (.int (Int32.ofNat A)), .val (.int (Int32.ofNat B)), .val (.int (Int32.ofNat C)), .val (.int rA), .val (.int hB), .val (.int hC), .val (.ref ob), .unset, .unset, .unset] [])) τ) => pre29 τ (st30.trans κ)
      have Y30 := X30.more (cells' := 2 + ey) (slots' := 5 + own_G ey) (by omega) (by omega)
      have Zz30 := P30.size
      exact ⟨T30, T30.heap, _, ey, (B :: [A]), Y30, rfl, N30, Zz30, P30, Or.inl ⟨qq, (qB.resolve_right qq).2, rfl⟩, pre31⟩
  have pre32 := fun τ (κ : Steps p.tables e below (T27.setTop (mkF m 99 #[.val (.int p0), .val (.int p1), .val (.int p2), .val (.int p3), .val (.int (Int32.ofNat A)), .val (.int (Int32.ofNat B)), .val (.int (Int32.ofNat C)), .val (.int rA), .val (.int hB), .val (.int hC), .val (.ref ob), .unset, .unset, .unset] [(.int hC)])) τ) => pre27 τ (by
    refine XS.iload X27.here hx rfl (hb hby at_97) rfl ?_
    show Steps p.tables e below (T27.setTop (mkF m 99 #[.val (.int p0), .val (.int p1), .val (.int p2), .val (.int p3), .val (.int (Int32.ofNat A)), .val (.int (Int32.ofNat B)), .val (.int (Int32.ofNat C)), .val (.int rA), .val (.int hB), .val (.int hC), .val (.ref ob), .unset, .unset, .unset] [(.int hC)])) _
    exact κ)
  have e28 := P_27.le8
  obtain ⟨T33, h33, lo33, e3, S3, X33, e33, N33, Z33, P_33, sS3, pre33⟩ : ∃ (T33 : State) (h33 : Heap) (lo33 : List Loc) (e3 : Nat) (S3 : List Nat), Stand p l e room_1 s m #[(.int p0), (.int p1), (.int p2), (.int p3)] below meth c T33 lo33 ((2 + e3)) ((5 + own_G e3)) ∧ T33.heap = h33 ∧ Fr n0 lo33 ∧ n0 ≤ h33.size ∧ (own_PS Z h33 ob e3 S3 n0) ∧ ((hC ≠ 0 ∧ C ≠ A ∧ C ≠ B ∧ S3 = C :: S2) ∨ (hC = 0 ∧ S3 = S2)) ∧ ∀ τ, Steps p.tables e below (T33.setTop (mkF m 109 #[.val (.int p0), .val (.int p1), .val (.int p2), .val (.int p3), .val (.int (Int32.ofNat A)), .val (.int (Int32.ofNat B)), .val (.int (Int32.ofNat C)), .val (.int rA), .val (.int hB), .val (.int hC), .val (.ref ob), .unset, .unset, .unset] [])) τ → Steps p.tables e below (s₁.setTop (entryFrame m #[(.int p0), (.int p1), (.int p2), (.int p3)] maxLocals)) τ := by
    by_cases qq : hC = (0 : Int32)
    · have pre34 := fun τ (κ : Steps p.tables e below (T27.setTop (mkF m 109 #[.val (.int p0), .val (.int p1), .val (.int p2), .val (.int p3), .val (.int (Int32.ofNat A)), .val (.int (Int32.ofNat B)), .val (.int (Int32.ofNat C)), .val (.int rA), .val (.int hB), .val (.int hC), .val (.ref ob), .unset, .unset, .unset] [])) τ) => pre32 τ (by
        refine XS.ifYes X27.here hx rfl (pc0 := 99) (pc' := 109) rfl (hb hby at_99) rfl ((if0 _ _).trans (teq qq).1) (by decide) (by decide) ?_
        show Steps p.tables e below (T27.setTop (mkF m 109 #[.val (.int p0), .val (.int p1), .val (.int p2), .val (.int p3), .val (.int (Int32.ofNat A)), .val (.int (Int32.ofNat B)), .val (.int (Int32.ofNat C)), .val (.int rA), .val (.int hB), .val (.int hC), .val (.ref ob), .unset, .unset, .unset] [])) _
        exact κ)
      exact ⟨T27, h27, _, e2, S2, X27, e27, N27, Z27, P_27, Or.inr ⟨qq, rfl⟩, pre34⟩
    · have pre35 := fun τ (κ : Steps p.tables e below (T27.setTop (mkF m 106 #[.val (.int p0), .val (.int p1), .val (.int p2), .val (.int p3), .val (.int (Int32.ofNat A)), .val (.int (Int32.ofNat B)), .val (.int (Int32.ofNat C)), .val (.int rA), .val (.int hB), .val (.int hC), .val (.ref ob), .unset, .unset, .unset] [(.int (Int32.ofNat C)), (.ref ob)])) τ) => pre32 τ (by
        refine XS.ifNo X27.here hx rfl (hb hby at_99) rfl ((if0 _ _).trans (feq qq).1) ?_
        show Steps p.tables e below (T27.setTop (mkF m 102 #[.val (.int p0), .val (.int p1), .val (.int p2), .val (.int p3), .val (.int (Int32.ofNat A)), .val (.int (Int32.ofNat B)), .val (.int (Int32.ofNat C)), .val (.int rA), .val (.int hB), .val (.int hC), .val (.ref ob), .unset, .unset, .unset] [])) _
        refine XS.aload X27.here hx rfl (hb hby at_102) rfl rfl ?_
        show Steps p.tables e below (T27.setTop (mkF m 104 #[.val (.int p0), .val (.int p1), .val (.int p2), .val (.int p3), .val (.int (Int32.ofNat A)), .val (.int (Int32.ofNat B)), .val (.int (Int32.ofNat C)), .val (.int rA), .val (.int hB), .val (.int hC), .val (.ref ob), .unset, .unset, .unset] [(.ref ob)])) _
        refine XS.iload X27.here hx rfl (hb hby at_104) rfl ?_
        show Steps p.tables e below (T27.setTop (mkF m 106 #[.val (.int p0), .val (.int p1), .val (.int p2), .val (.int p3), .val (.int (Int32.ofNat A)), .val (.int (Int32.ofNat B)), .val (.int (Int32.ofNat C)), .val (.int rA), .val (.int hB), .val (.int hC), .val (.ref ob), .unset, .unset, .unset] [(.int (Int32.ofNat C)), (.ref ob)])) _
        exact κ)
      obtain ⟨ey, f1ey, f2ey, f3ey, f4ey⟩ := own_fit e2 C P_27.le8 (by omega)
      have m1ey := own_G_mono f1ey
      have m2ey := own_G_mono f2ey
      rw [own_G8] at m2ey
      have Exey := P_27.exa
      obtain ⟨cq36, kq36, q36a, q36b, q36c⟩ := isOf hZ e27 Exey
      obtain ⟨_, _, ⟨T36, L36, k36, n36⟩, -, X36, ⟨Lc36, hQ36, l36, y36, z36⟩, st36⟩ := X27.virtualBack hx (y := (⟨"com/example/earmark/earmark/ledger/PositionSet", "add", "(I)V"⟩ : MethodName)) (z := (⟨"com/example/earmark/earmark/ledger/PositionSet", "add", "(I)V"⟩ : MethodName)) hown (mvT hZ (hw _ (List.mem_of_getElem? (i := 14) rfl))) (mvT hZ (hw _ (List.mem_of_getElem? (i := 15) rfl))) (notFace_of_selects (args := #[]) (mvT hZ (hw _ (List.mem_of_getElem? (i := 17) rfl)))) (mvT hZ (hw _ (List.mem_of_getElem? (i := 17) rfl))) (mvT hZ (hw _ (List.mem_of_getElem? (i := 16) rfl))) (by decide) (backOf (W := 0) (rm3 l Z a0 hw [] ob C e2 ey S2 h27 n0 Z27 P_27 f2ey f3ey f1ey f4ey) hZ (hw _ (List.mem_of_getElem? (i := 18) rfl)) (hw _ (List.mem_of_getElem? (i := 2) rfl)) (Nat.le_of_ble_eq_true rfl) (Nat.le_of_ble_eq_true rfl)) q36a q36c (g := (mkF m 106 #[.val (.int p0), .val (.int p1), .val (.int p2), .val (.int p3), .val (.int (Int32.ofNat A)), .val (.int (Int32.ofNat B)), .val (.int (Int32.ofNat C)), .val (.int rA), .val (.int hB), .val (.int hC), .val (.ref ob), .unset, .unset, .unset] [(.int (Int32.ofNat C)), (.ref ob)])) rfl (by rw [hml]; rfl) (Steps.refl _) (argsL := [(.int (Int32.ofNat C))]) (rest := []) (lenOf pd_2 rfl) rfl (by show 2 * 0 + _ ≤ _; exact Nat.le_of_eq rfl) (hb hby at_106) (fun _ _ => ⟨rfl, e27, (by show (2 + e2) + (ey - e2) ≤ 32; omega), (by show (5 + own_G e2) + (own_G ey - own_G e2) ≤ 1152; omega)⟩)
      dsimp only [Pt.U, Pt.locs, Pt.cells, Pt.slots] at X36 l36 y36 z36 st36 hQ36
      subst l36 y36 z36
      obtain ⟨rfl, Nq36, P36⟩ := hQ36
      have N36 := Fr.app N27 Nq36
      have pre37 := fun τ (κ : Steps p.tables e below (T36.setTop (mkF m 109 #[.val (.int p0), .val (.int p1), .val (.int p2), .val (.int p3), .val (.int (Int32.ofNat A)), .val (.int (Int32.ofNat B)), .val (.int (Int32.ofNat C)), .val (.int rA), .val (.int hB), .val (.int hC), .val (.ref ob), .unset, .unset, .unset] [])) τ) => pre35 τ (st36.trans κ)
      have Y36 := X36.more (cells' := 2 + ey) (slots' := 5 + own_G ey) (by omega) (by omega)
      have Zz36 := P36.size
      exact ⟨T36, T36.heap, _, ey, (C :: S2), Y36, rfl, N36, Zz36, P36, Or.inl ⟨qq, (qC.resolve_right qq).2.1, (qC.resolve_right qq).2.2, rfl⟩, pre37⟩
  have pre38 := fun τ (κ : Steps p.tables e below (T33.setTop (mkF m 111 #[.val (.int p0), .val (.int p1), .val (.int p2), .val (.int p3), .val (.int (Int32.ofNat A)), .val (.int (Int32.ofNat B)), .val (.int (Int32.ofNat C)), .val (.int rA), .val (.int hB), .val (.int hC), .val (.ref ob), .unset, .unset, .unset] [(.int rA)])) τ) => pre33 τ (by
    refine XS.iload X33.here hx rfl (hb hby at_109) rfl ?_
    show Steps p.tables e below (T33.setTop (mkF m 111 #[.val (.int p0), .val (.int p1), .val (.int p2), .val (.int p3), .val (.int (Int32.ofNat A)), .val (.int (Int32.ofNat B)), .val (.int (Int32.ofNat C)), .val (.int rA), .val (.int hB), .val (.int hC), .val (.ref ob), .unset, .unset, .unset] [(.int rA)])) _
    exact κ)
  have e38 := P_33.le8
  have hG3 := own_G_mono e38
  rw [own_G8] at hG3
  have hmem : A ∈ S3 := by rcases sS3 with ⟨-, -, -, z⟩ | ⟨-, z⟩ <;> rcases sS2 with ⟨-, -, y⟩ | ⟨-, y⟩ <;> rw [z, y] <;> simp
  obtain ⟨T39, h39, lo39, S4, X39, e39, N39, Z39, P_39, sS4, pre39⟩ : ∃ (T39 : State) (h39 : Heap) (lo39 : List Loc) (S4 : List Nat), Stand p l e room_1 s m #[(.int p0), (.int p1), (.int p2), (.int p3)] below meth c T39 lo39 ((2 + e3)) ((5 + own_G e3)) ∧ T39.heap = h39 ∧ Fr n0 lo39 ∧ n0 ≤ h39.size ∧ (own_PS Z h39 ob e3 S4 n0) ∧ ((rA = 0 ∧ S4 = S3) ∨ (rA ≠ 0 ∧ S4 = S3.erase A)) ∧ ∀ τ, Steps p.tables e below (T39.setTop (mkF m 121 #[.val (.int p0), .val (.int p1), .val (.int p2), .val (.int p3), .val (.int (Int32.ofNat A)), .val (.int (Int32.ofNat B)), .val (.int (Int32.ofNat C)), .val (.int rA), .val (.int hB), .val (.int hC), .val (.ref ob), .unset, .unset, .unset] [])) τ → Steps p.tables e below (s₁.setTop (entryFrame m #[(.int p0), (.int p1), (.int p2), (.int p3)] maxLocals)) τ := by
    by_cases qq : rA = (0 : Int32)
    · have pre40 := fun τ (κ : Steps p.tables e below (T33.setTop (mkF m 121 #[.val (.int p0), .val (.int p1), .val (.int p2), .val (.int p3), .val (.int (Int32.ofNat A)), .val (.int (Int32.ofNat B)), .val (.int (Int32.ofNat C)), .val (.int rA), .val (.int hB), .val (.int hC), .val (.ref ob), .unset, .unset, .unset] [])) τ) => pre38 τ (by
        refine XS.ifYes X33.here hx rfl (pc0 := 111) (pc' := 121) rfl (hb hby at_111) rfl ((if0 _ _).trans (teq qq).1) (by decide) (by decide) ?_
        show Steps p.tables e below (T33.setTop (mkF m 121 #[.val (.int p0), .val (.int p1), .val (.int p2), .val (.int p3), .val (.int (Int32.ofNat A)), .val (.int (Int32.ofNat B)), .val (.int (Int32.ofNat C)), .val (.int rA), .val (.int hB), .val (.int hC), .val (.ref ob), .unset, .unset, .unset] [])) _
        exact κ)
      exact ⟨T33, h33, _, S3, X33, e33, N33, Z33, P_33, Or.inl ⟨qq, rfl⟩, pre40⟩
    · have Ex := P_33.exa
      have pre41 := fun τ (κ : Steps p.tables e below (T33.setTop (mkF m 118 #[.val (.int p0), .val (.int p1), .val (.int p2), .val (.int p3), .val (.int (Int32.ofNat A)), .val (.int (Int32.ofNat B)), .val (.int (Int32.ofNat C)), .val (.int rA), .val (.int hB), .val (.int hC), .val (.ref ob), .unset, .unset, .unset] [(.int (Int32.ofNat A)), (.ref ob)])) τ) => pre38 τ (by
        refine XS.ifNo X33.here hx rfl (hb hby at_111) rfl ((if0 _ _).trans (feq qq).1) ?_
        show Steps p.tables e below (T33.setTop (mkF m 114 #[.val (.int p0), .val (.int p1), .val (.int p2), .val (.int p3), .val (.int (Int32.ofNat A)), .val (.int (Int32.ofNat B)), .val (.int (Int32.ofNat C)), .val (.int rA), .val (.int hB), .val (.int hC), .val (.ref ob), .unset, .unset, .unset] [])) _
        refine XS.aload X33.here hx rfl (hb hby at_114) rfl rfl ?_
        show Steps p.tables e below (T33.setTop (mkF m 116 #[.val (.int p0), .val (.int p1), .val (.int p2), .val (.int p3), .val (.int (Int32.ofNat A)), .val (.int (Int32.ofNat B)), .val (.int (Int32.ofNat C)), .val (.int rA), .val (.int hB), .val (.int hC), .val (.ref ob), .unset, .unset, .unset] [(.ref ob)])) _
        refine XS.iload X33.here hx rfl (hb hby at_116) rfl ?_
        show Steps p.tables e below (T33.setTop (mkF m 118 #[.val (.int p0), .val (.int p1), .val (.int p2), .val (.int p3), .val (.int (Int32.ofNat A)), .val (.int (Int32.ofNat B)), .val (.int (Int32.ofNat C)), .val (.int rA), .val (.int hB), .val (.int hC), .val (.ref ob), .unset, .unset, .unset] [(.int (Int32.ofNat A)), (.ref ob)])) _
        exact κ)
      obtain ⟨cq42, kq42, q42a, q42b, q42c⟩ := isOf hZ e33 Ex
      obtain ⟨_, _, ⟨T42, L42, k42, n42⟩, -, X42, ⟨Lc42, hQ42, l42, y42, z42⟩, st42⟩ := X33.virtualBack hx (y := (⟨"com/example/earmark/earmark/ledger/PositionSet", "remove", "(I)V"⟩ : MethodName)) (z := (⟨"com/example/earmark/earmark/ledger/PositionSet", "remove", "(I)V"⟩ : MethodName)) hown (mvT hZ (hw _ (List.mem_of_getElem? (i := 41) rfl))) (mvT hZ (hw _ (List.mem_of_getElem? (i := 42) rfl))) (notFace_of_selects (args := #[]) (mvT hZ (hw _ (List.mem_of_getElem? (i := 44) rfl)))) (mvT hZ (hw _ (List.mem_of_getElem? (i := 44) rfl))) (mvT hZ (hw _ (List.mem_of_getElem? (i := 43) rfl))) (by decide) (backOf (W := 0) (rm8 l Z a0 hw [] ob A e3 S3 h33 n0 Z33 P_33 hmem) hZ (hw _ (List.mem_of_getElem? (i := 45) rfl)) (hw _ (List.mem_of_getElem? (i := 2) rfl)) (Nat.le_of_ble_eq_true rfl) (Nat.le_of_ble_eq_true rfl)) q42a q42c (g := (mkF m 118 #[.val (.int p0), .val (.int p1), .val (.int p2), .val (.int p3), .val (.int (Int32.ofNat A)), .val (.int (Int32.ofNat B)), .val (.int (Int32.ofNat C)), .val (.int rA), .val (.int hB), .val (.int hC), .val (.ref ob), .unset, .unset, .unset] [(.int (Int32.ofNat A)), (.ref ob)])) rfl (by rw [hml]; rfl) (Steps.refl _) (argsL := [(.int (Int32.ofNat A))]) (rest := []) (lenOf pd_2 rfl) rfl (by show 2 * 0 + _ ≤ _; exact Nat.le_of_eq rfl) (hb hby at_118) (fun _ _ => ⟨rfl, e33, (by show 2 + e3 + 0 ≤ 32; omega), (by show 5 + own_G e3 + 0 ≤ 1152; omega)⟩)
      dsimp only [Pt.U, Pt.locs, Pt.cells, Pt.slots] at X42 l42 y42 z42 st42 hQ42
      subst l42 y42 z42
      obtain ⟨rfl, Nq42, P42⟩ := hQ42
      have N42 := Fr.app N33 Nq42
      have pre43 := fun τ (κ : Steps p.tables e below (T42.setTop (mkF m 121 #[.val (.int p0), .val (.int p1), .val (.int p2), .val (.int p3), .val (.int (Int32.ofNat A)), .val (.int (Int32.ofNat B)), .val (.int (Int32.ofNat C)), .val (.int rA), .val (.int hB), .val (.int hC), .val (.ref ob), .unset, .unset, .unset] [])) τ) => pre41 τ (st42.trans κ)
      have Zz := P42.size
      exact ⟨T42, T42.heap, _, (S3.erase A), X42, rfl, N42, Zz, P42, Or.inr ⟨qq, rfl⟩, pre43⟩
  obtain ⟨ta, k0, f, E_s, Fc, Fk, Fz, Va, hf, hS, he8, gs, gt, hst⟩ := P_39
  have pre44 := fun τ (κ : Steps p.tables e below (T39.setTop (mkF m 122 #[.val (.int p0), .val (.int p1), .val (.int p2), .val (.int p3), .val (.int (Int32.ofNat A)), .val (.int (Int32.ofNat B)), .val (.int (Int32.ofNat C)), .val (.int rA), .val (.int hB), .val (.int hC), .val (.ref ob), .unset, .unset, .unset] [(.int (3 : Int32))])) τ) => pre39 τ (by
    refine XS.iconst X39.here hx rfl (hb hby at_121) ?_
    show Steps p.tables e below (T39.setTop (mkF m 122 #[.val (.int p0), .val (.int p1), .val (.int p2), .val (.int p3), .val (.int (Int32.ofNat A)), .val (.int (Int32.ofNat B)), .val (.int (Int32.ofNat C)), .val (.int rA), .val (.int hB), .val (.int hC), .val (.ref ob), .unset, .unset, .unset] [(.int (3 : Int32))])) _
    exact κ)
  obtain ⟨T45, h45, k45, X45, e45, E45, A45, st45⟩ := newP X39 hx hZ (hw _ (List.mem_of_getElem? (i := 9) rfl)) e39 (g := (mkF m 122 #[.val (.int p0), .val (.int p1), .val (.int p2), .val (.int p3), .val (.int (Int32.ofNat A)), .val (.int (Int32.ofNat B)), .val (.int (Int32.ofNat C)), .val (.int rA), .val (.int hB), .val (.int hC), .val (.ref ob), .unset, .unset, .unset] [(.int (3 : Int32))])) rfl (hb hby at_122) rfl (by decide) (cap := 3) (by decide) (by decide) (by show 2 + e3 + 1 ≤ 32; omega) (by show 5 + own_G e3 + 3 ≤ 1152; omega)
  obtain ⟨mm, g45⟩ : ∃ z, z = h39.size := ⟨_, rfl⟩
  rw [← g45] at A45 st45
  have g_mm : n0 ≤ mm := Nat.le_trans Z39 (Nat.le_of_eq g45.symm)
  have ne_ob_mm : ob ≠ mm := Nat.ne_of_lt (Nat.lt_of_lt_of_le E_s.lt (Nat.le_of_eq g45.symm))
  have ne_ta_mm : ta ≠ mm := Nat.ne_of_lt (Nat.lt_of_lt_of_le Va.lt (Nat.le_of_eq g45.symm))
  have E_s_45 : Exa Z h45 ob "com/example/earmark/earmark/ledger/PositionSet" := E_s.ext E45
  have Fc_45 : Fld Z h45 ob "com/example/earmark/earmark/ledger/PositionSet" "counts" "[I" (.ref ta) := Fc.ext E45
  have Fk_45 : Fld Z h45 ob "com/example/earmark/earmark/ledger/PositionSet" "capacity" "I" (.int (Int32.ofNat (2 ^ e3))) := Fk.ext E45
  have Fz_45 : Fld Z h45 ob "com/example/earmark/earmark/ledger/PositionSet" "size" "I" (.int (Int32.ofNat S4.length)) := Fz.ext E45
  have Va_45 : Arv Z h45 ta k0 .int (Int32.ofNat (2 ^ e3 + 1)) (own_tab f (2 ^ e3 + 1)) (.int (0 : Int32)) := Va.ext E45
  have Z45 : n0 ≤ h45.size := Nat.le_trans Z39 E45.1
  have V_mm_45 : Arv Z h45 mm k45 .int (3 : Int32) [(.int (0 : Int32)), (.int (0 : Int32)), (.int (0 : Int32))] (.int (0 : Int32)) := (Arv.new A45 (by decide)).pad (pad_rep [] (.int (0 : Int32)) 3)
  have pre46 := fun τ (κ : Steps p.tables e below (T45.setTop (mkF m 124 #[.val (.int p0), .val (.int p1), .val (.int p2), .val (.int p3), .val (.int (Int32.ofNat A)), .val (.int (Int32.ofNat B)), .val (.int (Int32.ofNat C)), .val (.int rA), .val (.int hB), .val (.int hC), .val (.ref ob), .unset, .unset, .unset] [(.ref mm)])) τ) => pre44 τ (st45 _ κ)
  have pre47 := fun τ (κ : Steps p.tables e below (T45.setTop (mkF m 131 #[.val (.int p0), .val (.int p1), .val (.int p2), .val (.int p3), .val (.int (Int32.ofNat A)), .val (.int (Int32.ofNat B)), .val (.int (Int32.ofNat C)), .val (.int rA), .val (.int hB), .val (.int hC), .val (.ref ob), .val (.ref mm), .unset, .unset] [(.int (2147483647 : Int32)), (.int (0 : Int32)), (.ref mm)])) τ) => pre46 τ (by
    refine XS.astore X45.here hx rfl (hb hby at_124) rfl rfl (l' := #[.val (.int p0), .val (.int p1), .val (.int p2), .val (.int p3), .val (.int (Int32.ofNat A)), .val (.int (Int32.ofNat B)), .val (.int (Int32.ofNat C)), .val (.int rA), .val (.int hB), .val (.int hC), .val (.ref ob), .val (.ref mm), .unset, .unset]) rfl ?_
    show Steps p.tables e below (T45.setTop (mkF m 126 #[.val (.int p0), .val (.int p1), .val (.int p2), .val (.int p3), .val (.int (Int32.ofNat A)), .val (.int (Int32.ofNat B)), .val (.int (Int32.ofNat C)), .val (.int rA), .val (.int hB), .val (.int hC), .val (.ref ob), .val (.ref mm), .unset, .unset] [])) _
    refine XS.aload X45.here hx rfl (hb hby at_126) rfl rfl ?_
    show Steps p.tables e below (T45.setTop (mkF m 128 #[.val (.int p0), .val (.int p1), .val (.int p2), .val (.int p3), .val (.int (Int32.ofNat A)), .val (.int (Int32.ofNat B)), .val (.int (Int32.ofNat C)), .val (.int rA), .val (.int hB), .val (.int hC), .val (.ref ob), .val (.ref mm), .unset, .unset] [(.ref mm)])) _
    refine XS.iconst X45.here hx rfl (hb hby at_128) ?_
    show Steps p.tables e below (T45.setTop (mkF m 129 #[.val (.int p0), .val (.int p1), .val (.int p2), .val (.int p3), .val (.int (Int32.ofNat A)), .val (.int (Int32.ofNat B)), .val (.int (Int32.ofNat C)), .val (.int rA), .val (.int hB), .val (.int hC), .val (.ref ob), .val (.ref mm), .unset, .unset] [(.int (0 : Int32)), (.ref mm)])) _
    refine X45.ldcInt hx hown (mvT hZ (hw _ (List.mem_of_getElem? (i := 46) rfl))) (g := (mkF m 129 #[.val (.int p0), .val (.int p1), .val (.int p2), .val (.int p3), .val (.int (Int32.ofNat A)), .val (.int (Int32.ofNat B)), .val (.int (Int32.ofNat C)), .val (.int rA), .val (.int hB), .val (.int hC), .val (.ref ob), .val (.ref mm), .unset, .unset] [(.int (0 : Int32)), (.ref mm)])) rfl (hb hby at_129) _ ?_
    show Steps p.tables e below (T45.setTop (mkF m 131 #[.val (.int p0), .val (.int p1), .val (.int p2), .val (.int p3), .val (.int (Int32.ofNat A)), .val (.int (Int32.ofNat B)), .val (.int (Int32.ofNat C)), .val (.int rA), .val (.int hB), .val (.int hC), .val (.ref ob), .val (.ref mm), .unset, .unset] [(.int (2147483647 : Int32)), (.int (0 : Int32)), (.ref mm)])) _
    exact κ)
  obtain ⟨cl48, Ar48, q48, S48, M48, H48, G48⟩ := id V_mm_45
  have in48 : ¬ ((0 : Int32) < 0 ∨ cl48.slots.size ≤ ((0 : Int32)).toNatClampNeg) := inb_of S48 ⟨by decide, by decide⟩
  obtain ⟨T49, h49, X49, e49, W49, st49⟩ := stI X45 hx hZ e45 Ar48 (j := (0 : Int32)) in48 (g := (mkF m 131 #[.val (.int p0), .val (.int p1), .val (.int p2), .val (.int p3), .val (.int (Int32.ofNat A)), .val (.int (Int32.ofNat B)), .val (.int (Int32.ofNat C)), .val (.int rA), .val (.int hB), .val (.int hC), .val (.ref ob), .val (.ref mm), .unset, .unset] [(.int (2147483647 : Int32)), (.int (0 : Int32)), (.ref mm)])) rfl rfl (hb hby at_131)
  have E_s_49 : Exa Z h49 ob "com/example/earmark/earmark/ledger/PositionSet" := E_s_45.wr W49
  have Fc_49 : Fld Z h49 ob "com/example/earmark/earmark/ledger/PositionSet" "counts" "[I" (.ref ta) := Fc_45.other W49 (Or.inl ne_ob_mm)
  have Fk_49 : Fld Z h49 ob "com/example/earmark/earmark/ledger/PositionSet" "capacity" "I" (.int (Int32.ofNat (2 ^ e3))) := Fk_45.other W49 (Or.inl ne_ob_mm)
  have Fz_49 : Fld Z h49 ob "com/example/earmark/earmark/ledger/PositionSet" "size" "I" (.int (Int32.ofNat S4.length)) := Fz_45.other W49 (Or.inl ne_ob_mm)
  have Va_49 : Arv Z h49 ta k0 .int (Int32.ofNat (2 ^ e3 + 1)) (own_tab f (2 ^ e3 + 1)) (.int (0 : Int32)) := Va_45.other W49 ne_ta_mm
  have N49 := Fr.snoc X49 N39 g_mm
  have Z49 : n0 ≤ h49.size := Nat.le_trans Z45 (Keep.of_wr W49).1
  have V_mm_49 : Arv Z h49 mm k45 .int (3 : Int32) [(.int (2147483647 : Int32)), (.int (0 : Int32)), (.int (0 : Int32))] (.int (0 : Int32)) := Arv.set Ar48 q48 S48 M48 H48 G48 rfl W49 0 rfl (Nat.le_of_ble_eq_true rfl)
  have pre50 := fun τ (κ : Steps p.tables e below (T49.setTop (mkF m 132 #[.val (.int p0), .val (.int p1), .val (.int p2), .val (.int p3), .val (.int (Int32.ofNat A)), .val (.int (Int32.ofNat B)), .val (.int (Int32.ofNat C)), .val (.int rA), .val (.int hB), .val (.int hC), .val (.ref ob), .val (.ref mm), .unset, .unset] [])) τ) => pre47 τ (st49 _ κ)
  have pre51 := fun τ (κ : Steps p.tables e below (T49.setTop (mkF m 137 #[.val (.int p0), .val (.int p1), .val (.int p2), .val (.int p3), .val (.int (Int32.ofNat A)), .val (.int (Int32.ofNat B)), .val (.int (Int32.ofNat C)), .val (.int rA), .val (.int hB), .val (.int hC), .val (.ref ob), .val (.ref mm), .unset, .unset] [(.int (2147483647 : Int32)), (.int (1 : Int32)), (.ref mm)])) τ) => pre50 τ (by
    refine XS.aload X49.here hx rfl (hb hby at_132) rfl rfl ?_
    show Steps p.tables e below (T49.setTop (mkF m 134 #[.val (.int p0), .val (.int p1), .val (.int p2), .val (.int p3), .val (.int (Int32.ofNat A)), .val (.int (Int32.ofNat B)), .val (.int (Int32.ofNat C)), .val (.int rA), .val (.int hB), .val (.int hC), .val (.ref ob), .val (.ref mm), .unset, .unset] [(.ref mm)])) _
    refine XS.iconst X49.here hx rfl (hb hby at_134) ?_
    show Steps p.tables e below (T49.setTop (mkF m 135 #[.val (.int p0), .val (.int p1), .val (.int p2), .val (.int p3), .val (.int (Int32.ofNat A)), .val (.int (Int32.ofNat B)), .val (.int (Int32.ofNat C)), .val (.int rA), .val (.int hB), .val (.int hC), .val (.ref ob), .val (.ref mm), .unset, .unset] [(.int (1 : Int32)), (.ref mm)])) _
    refine X49.ldcInt hx hown (mvT hZ (hw _ (List.mem_of_getElem? (i := 46) rfl))) (g := (mkF m 135 #[.val (.int p0), .val (.int p1), .val (.int p2), .val (.int p3), .val (.int (Int32.ofNat A)), .val (.int (Int32.ofNat B)), .val (.int (Int32.ofNat C)), .val (.int rA), .val (.int hB), .val (.int hC), .val (.ref ob), .val (.ref mm), .unset, .unset] [(.int (1 : Int32)), (.ref mm)])) rfl (hb hby at_135) _ ?_
    show Steps p.tables e below (T49.setTop (mkF m 137 #[.val (.int p0), .val (.int p1), .val (.int p2), .val (.int p3), .val (.int (Int32.ofNat A)), .val (.int (Int32.ofNat B)), .val (.int (Int32.ofNat C)), .val (.int rA), .val (.int hB), .val (.int hC), .val (.ref ob), .val (.ref mm), .unset, .unset] [(.int (2147483647 : Int32)), (.int (1 : Int32)), (.ref mm)])) _
    exact κ)
  obtain ⟨cl52, Ar52, q52, S52, M52, H52, G52⟩ := id V_mm_49
  have in52 : ¬ ((1 : Int32) < 0 ∨ cl52.slots.size ≤ ((1 : Int32)).toNatClampNeg) := inb_of S52 ⟨by decide, by decide⟩
  obtain ⟨T53, h53, X53, e53, W53, st53⟩ := stI X49 hx hZ e49 Ar52 (j := (1 : Int32)) in52 (g := (mkF m 137 #[.val (.int p0), .val (.int p1), .val (.int p2), .val (.int p3), .val (.int (Int32.ofNat A)), .val (.int (Int32.ofNat B)), .val (.int (Int32.ofNat C)), .val (.int rA), .val (.int hB), .val (.int hC), .val (.ref ob), .val (.ref mm), .unset, .unset] [(.int (2147483647 : Int32)), (.int (1 : Int32)), (.ref mm)])) rfl rfl (hb hby at_137)
  have E_s_53 : Exa Z h53 ob "com/example/earmark/earmark/ledger/PositionSet" := E_s_49.wr W53
  have Fc_53 : Fld Z h53 ob "com/example/earmark/earmark/ledger/PositionSet" "counts" "[I" (.ref ta) := Fc_49.other W53 (Or.inl ne_ob_mm)
  have Fk_53 : Fld Z h53 ob "com/example/earmark/earmark/ledger/PositionSet" "capacity" "I" (.int (Int32.ofNat (2 ^ e3))) := Fk_49.other W53 (Or.inl ne_ob_mm)
  have Fz_53 : Fld Z h53 ob "com/example/earmark/earmark/ledger/PositionSet" "size" "I" (.int (Int32.ofNat S4.length)) := Fz_49.other W53 (Or.inl ne_ob_mm)
  have Va_53 : Arv Z h53 ta k0 .int (Int32.ofNat (2 ^ e3 + 1)) (own_tab f (2 ^ e3 + 1)) (.int (0 : Int32)) := Va_49.other W53 ne_ta_mm
  have N53 := Fr.snoc X53 N49 g_mm
  have Z53 : n0 ≤ h53.size := Nat.le_trans Z49 (Keep.of_wr W53).1
  have V_mm_53 : Arv Z h53 mm k45 .int (3 : Int32) [(.int (2147483647 : Int32)), (.int (2147483647 : Int32)), (.int (0 : Int32))] (.int (0 : Int32)) := Arv.set Ar52 q52 S52 M52 H52 G52 rfl W53 1 rfl (Nat.le_of_ble_eq_true rfl)
  have pre54 := fun τ (κ : Steps p.tables e below (T53.setTop (mkF m 138 #[.val (.int p0), .val (.int p1), .val (.int p2), .val (.int p3), .val (.int (Int32.ofNat A)), .val (.int (Int32.ofNat B)), .val (.int (Int32.ofNat C)), .val (.int rA), .val (.int hB), .val (.int hC), .val (.ref ob), .val (.ref mm), .unset, .unset] [])) τ) => pre51 τ (st53 _ κ)
  have pre55 := fun τ (κ : Steps p.tables e below (T53.setTop (mkF m 143 #[.val (.int p0), .val (.int p1), .val (.int p2), .val (.int p3), .val (.int (Int32.ofNat A)), .val (.int (Int32.ofNat B)), .val (.int (Int32.ofNat C)), .val (.int rA), .val (.int hB), .val (.int hC), .val (.ref ob), .val (.ref mm), .unset, .unset] [(.int (2147483647 : Int32)), (.int (2 : Int32)), (.ref mm)])) τ) => pre54 τ (by
    refine XS.aload X53.here hx rfl (hb hby at_138) rfl rfl ?_
    show Steps p.tables e below (T53.setTop (mkF m 140 #[.val (.int p0), .val (.int p1), .val (.int p2), .val (.int p3), .val (.int (Int32.ofNat A)), .val (.int (Int32.ofNat B)), .val (.int (Int32.ofNat C)), .val (.int rA), .val (.int hB), .val (.int hC), .val (.ref ob), .val (.ref mm), .unset, .unset] [(.ref mm)])) _
    refine XS.iconst X53.here hx rfl (hb hby at_140) ?_
    show Steps p.tables e below (T53.setTop (mkF m 141 #[.val (.int p0), .val (.int p1), .val (.int p2), .val (.int p3), .val (.int (Int32.ofNat A)), .val (.int (Int32.ofNat B)), .val (.int (Int32.ofNat C)), .val (.int rA), .val (.int hB), .val (.int hC), .val (.ref ob), .val (.ref mm), .unset, .unset] [(.int (2 : Int32)), (.ref mm)])) _
    refine X53.ldcInt hx hown (mvT hZ (hw _ (List.mem_of_getElem? (i := 46) rfl))) (g := (mkF m 141 #[.val (.int p0), .val (.int p1), .val (.int p2), .val (.int p3), .val (.int (Int32.ofNat A)), .val (.int (Int32.ofNat B)), .val (.int (Int32.ofNat C)), .val (.int rA), .val (.int hB), .val (.int hC), .val (.ref ob), .val (.ref mm), .unset, .unset] [(.int (2 : Int32)), (.ref mm)])) rfl (hb hby at_141) _ ?_
    show Steps p.tables e below (T53.setTop (mkF m 143 #[.val (.int p0), .val (.int p1), .val (.int p2), .val (.int p3), .val (.int (Int32.ofNat A)), .val (.int (Int32.ofNat B)), .val (.int (Int32.ofNat C)), .val (.int rA), .val (.int hB), .val (.int hC), .val (.ref ob), .val (.ref mm), .unset, .unset] [(.int (2147483647 : Int32)), (.int (2 : Int32)), (.ref mm)])) _
    exact κ)
  obtain ⟨cl56, Ar56, q56, S56, M56, H56, G56⟩ := id V_mm_53
  have in56 : ¬ ((2 : Int32) < 0 ∨ cl56.slots.size ≤ ((2 : Int32)).toNatClampNeg) := inb_of S56 ⟨by decide, by decide⟩
  obtain ⟨T57, h57, X57, e57, W57, st57⟩ := stI X53 hx hZ e53 Ar56 (j := (2 : Int32)) in56 (g := (mkF m 143 #[.val (.int p0), .val (.int p1), .val (.int p2), .val (.int p3), .val (.int (Int32.ofNat A)), .val (.int (Int32.ofNat B)), .val (.int (Int32.ofNat C)), .val (.int rA), .val (.int hB), .val (.int hC), .val (.ref ob), .val (.ref mm), .unset, .unset] [(.int (2147483647 : Int32)), (.int (2 : Int32)), (.ref mm)])) rfl rfl (hb hby at_143)
  have E_s_57 : Exa Z h57 ob "com/example/earmark/earmark/ledger/PositionSet" := E_s_53.wr W57
  have Fc_57 : Fld Z h57 ob "com/example/earmark/earmark/ledger/PositionSet" "counts" "[I" (.ref ta) := Fc_53.other W57 (Or.inl ne_ob_mm)
  have Fk_57 : Fld Z h57 ob "com/example/earmark/earmark/ledger/PositionSet" "capacity" "I" (.int (Int32.ofNat (2 ^ e3))) := Fk_53.other W57 (Or.inl ne_ob_mm)
  have Fz_57 : Fld Z h57 ob "com/example/earmark/earmark/ledger/PositionSet" "size" "I" (.int (Int32.ofNat S4.length)) := Fz_53.other W57 (Or.inl ne_ob_mm)
  have Va_57 : Arv Z h57 ta k0 .int (Int32.ofNat (2 ^ e3 + 1)) (own_tab f (2 ^ e3 + 1)) (.int (0 : Int32)) := Va_53.other W57 ne_ta_mm
  have N57 := Fr.snoc X57 N53 g_mm
  have Z57 : n0 ≤ h57.size := Nat.le_trans Z53 (Keep.of_wr W57).1
  have V_mm_57 : Arv Z h57 mm k45 .int (3 : Int32) [(.int (2147483647 : Int32)), (.int (2147483647 : Int32)), (.int (2147483647 : Int32))] (.int (0 : Int32)) := Arv.set Ar56 q56 S56 M56 H56 G56 rfl W57 2 rfl (Nat.le_of_ble_eq_true rfl)
  have pre58 := fun τ (κ : Steps p.tables e below (T57.setTop (mkF m 144 #[.val (.int p0), .val (.int p1), .val (.int p2), .val (.int p3), .val (.int (Int32.ofNat A)), .val (.int (Int32.ofNat B)), .val (.int (Int32.ofNat C)), .val (.int rA), .val (.int hB), .val (.int hC), .val (.ref ob), .val (.ref mm), .unset, .unset] [])) τ) => pre55 τ (st57 _ κ)
  have Vm : Arv Z h57 mm k45 .int (3 : Int32) (own_nl [2147483647, 2147483647, 2147483647]) (.int (0 : Int32)) := V_mm_57
  have pre59 := fun τ (κ : Steps p.tables e below (T57.setTop (mkF m 149 #[.val (.int p0), .val (.int p1), .val (.int p2), .val (.int p3), .val (.int (Int32.ofNat A)), .val (.int (Int32.ofNat B)), .val (.int (Int32.ofNat C)), .val (.int rA), .val (.int hB), .val (.int hC), .val (.ref ob), .val (.ref mm), .val (.int (0 : Int32)), .unset] [(.int rA)])) τ) => pre58 τ (by
    refine XS.iconst X57.here hx rfl (hb hby at_144) ?_
    show Steps p.tables e below (T57.setTop (mkF m 145 #[.val (.int p0), .val (.int p1), .val (.int p2), .val (.int p3), .val (.int (Int32.ofNat A)), .val (.int (Int32.ofNat B)), .val (.int (Int32.ofNat C)), .val (.int rA), .val (.int hB), .val (.int hC), .val (.ref ob), .val (.ref mm), .unset, .unset] [(.int (0 : Int32))])) _
    refine XS.istore X57.here hx rfl (hb hby at_145) rfl (l' := #[.val (.int p0), .val (.int p1), .val (.int p2), .val (.int p3), .val (.int (Int32.ofNat A)), .val (.int (Int32.ofNat B)), .val (.int (Int32.ofNat C)), .val (.int rA), .val (.int hB), .val (.int hC), .val (.ref ob), .val (.ref mm), .val (.int (0 : Int32)), .unset]) rfl ?_
    show Steps p.tables e below (T57.setTop (mkF m 147 #[.val (.int p0), .val (.int p1), .val (.int p2), .val (.int p3), .val (.int (Int32.ofNat A)), .val (.int (Int32.ofNat B)), .val (.int (Int32.ofNat C)), .val (.int rA), .val (.int hB), .val (.int hC), .val (.ref ob), .val (.ref mm), .val (.int (0 : Int32)), .unset] [])) _
    refine XS.iload X57.here hx rfl (hb hby at_147) rfl ?_
    show Steps p.tables e below (T57.setTop (mkF m 149 #[.val (.int p0), .val (.int p1), .val (.int p2), .val (.int p3), .val (.int (Int32.ofNat A)), .val (.int (Int32.ofNat B)), .val (.int (Int32.ofNat C)), .val (.int rA), .val (.int hB), .val (.int hC), .val (.ref ob), .val (.ref mm), .val (.int (0 : Int32)), .unset] [(.int rA)])) _
    exact κ)
  obtain ⟨n0', L00, hn0', hL00⟩ : ∃ (n : Nat) (L : List Nat), n = 0 ∧ L = [2147483647, 2147483647, 2147483647] := ⟨_, _, rfl, rfl⟩
  have hl00 : L00.length = 3 := by rw [hL00]; rfl
  rw [show (0 : Int32) = Int32.ofNat n0' from by rw [hn0']; rfl] at pre59
  rw [← hL00] at Vm
  obtain ⟨T60, h60, lo60, n1, L1, X60, e60, N60, Z60, E_s_60, Fc_60, Fk_60, Fz_60, Va_60, Vm_60, lL1, lnL1, llL1, pre60⟩ : ∃ (T60 : State) (h60 : Heap) (lo60 : List Loc) (n1 : Nat) (L1 : List Nat), Stand p l e room_1 s m #[(.int p0), (.int p1), (.int p2), (.int p3)] below meth c T60 lo60 ((2 + e3 + 1)) ((5 + own_G e3 + 3)) ∧ T60.heap = h60 ∧ Fr n0 lo60 ∧ n0 ≤ h60.size ∧ (Exa Z h60 ob "com/example/earmark/earmark/ledger/PositionSet") ∧ (Fld Z h60 ob "com/example/earmark/earmark/ledger/PositionSet" "counts" "[I" (.ref ta)) ∧ (Fld Z h60 ob "com/example/earmark/earmark/ledger/PositionSet" "capacity" "I" (.int (Int32.ofNat (2 ^ e3)))) ∧ (Fld Z h60 ob "com/example/earmark/earmark/ledger/PositionSet" "size" "I" (.int (Int32.ofNat S4.length))) ∧ (Arv Z h60 ta k0 .int (Int32.ofNat (2 ^ e3 + 1)) (own_tab f (2 ^ e3 + 1)) (.int (0 : Int32))) ∧ (Arv Z h60 mm k45 .int (3 : Int32) (own_nl L1) (.int (0 : Int32))) ∧ ((rA = 0 ∧ n1 = 1 ∧ L1 = [A, 2147483647, 2147483647]) ∨ (rA ≠ 0 ∧ n1 = 0 ∧ L1 = [2147483647, 2147483647, 2147483647])) ∧ (n1 ≤ 1) ∧ (L1.length = 3) ∧ ∀ τ, Steps p.tables e below (T60.setTop (mkF m 165 #[.val (.int p0), .val (.int p1), .val (.int p2), .val (.int p3), .val (.int (Int32.ofNat A)), .val (.int (Int32.ofNat B)), .val (.int (Int32.ofNat C)), .val (.int rA), .val (.int hB), .val (.int hC), .val (.ref ob), .val (.ref mm), .val (.int (Int32.ofNat n1)), .unset] [])) τ → Steps p.tables e below (s₁.setTop (entryFrame m #[(.int p0), (.int p1), (.int p2), (.int p3)] maxLocals)) τ := by
    by_cases qq : rA = (0 : Int32)
    · have pre61 := fun τ (κ : Steps p.tables e below (T57.setTop (mkF m 158 #[.val (.int p0), .val (.int p1), .val (.int p2), .val (.int p3), .val (.int (Int32.ofNat A)), .val (.int (Int32.ofNat B)), .val (.int (Int32.ofNat C)), .val (.int rA), .val (.int hB), .val (.int hC), .val (.ref ob), .val (.ref mm), .val (.int (Int32.ofNat n0')), .unset] [(.int (Int32.ofNat A)), (.int (Int32.ofNat n0')), (.ref mm)])) τ) => pre59 τ (by
        refine XS.ifNo X57.here hx rfl (hb hby at_149) rfl ((if0 _ _).trans (teq qq).2) ?_
        show Steps p.tables e below (T57.setTop (mkF m 152 #[.val (.int p0), .val (.int p1), .val (.int p2), .val (.int p3), .val (.int (Int32.ofNat A)), .val (.int (Int32.ofNat B)), .val (.int (Int32.ofNat C)), .val (.int rA), .val (.int hB), .val (.int hC), .val (.ref ob), .val (.ref mm), .val (.int (Int32.ofNat n0')), .unset] [])) _
        refine XS.aload X57.here hx rfl (hb hby at_152) rfl rfl ?_
        show Steps p.tables e below (T57.setTop (mkF m 154 #[.val (.int p0), .val (.int p1), .val (.int p2), .val (.int p3), .val (.int (Int32.ofNat A)), .val (.int (Int32.ofNat B)), .val (.int (Int32.ofNat C)), .val (.int rA), .val (.int hB), .val (.int hC), .val (.ref ob), .val (.ref mm), .val (.int (Int32.ofNat n0')), .unset] [(.ref mm)])) _
        refine XS.iload X57.here hx rfl (hb hby at_154) rfl ?_
        show Steps p.tables e below (T57.setTop (mkF m 156 #[.val (.int p0), .val (.int p1), .val (.int p2), .val (.int p3), .val (.int (Int32.ofNat A)), .val (.int (Int32.ofNat B)), .val (.int (Int32.ofNat C)), .val (.int rA), .val (.int hB), .val (.int hC), .val (.ref ob), .val (.ref mm), .val (.int (Int32.ofNat n0')), .unset] [(.int (Int32.ofNat n0')), (.ref mm)])) _
        refine XS.iload X57.here hx rfl (hb hby at_156) rfl ?_
        show Steps p.tables e below (T57.setTop (mkF m 158 #[.val (.int p0), .val (.int p1), .val (.int p2), .val (.int p3), .val (.int (Int32.ofNat A)), .val (.int (Int32.ofNat B)), .val (.int (Int32.ofNat C)), .val (.int rA), .val (.int hB), .val (.int hC), .val (.ref ob), .val (.ref mm), .val (.int (Int32.ofNat n0')), .unset] [(.int (Int32.ofNat A)), (.int (Int32.ofNat n0')), (.ref mm)])) _
        exact κ)
      have cj : (Int32.ofNat n0').toNatClampNeg = n0' := own_clamp (by omega)
      have lj : n0' < (own_nl L00).length := by rw [own_nl, List.length_map]; omega
      obtain ⟨cl62, Ar62, q62, S62, M62, H62, G62⟩ := id Vm
      have in62 : ¬ ((Int32.ofNat n0') < 0 ∨ cl62.slots.size ≤ ((Int32.ofNat n0')).toNatClampNeg) := inb_of S62 ⟨own_nn (by omega), (own_ltN (j := 3) (by omega) (by omega)).mpr (by omega)⟩
      obtain ⟨T63, h63, X63, e63, W63, st63⟩ := stI X57 hx hZ e57 Ar62 (j := (Int32.ofNat n0')) in62 (g := (mkF m 158 #[.val (.int p0), .val (.int p1), .val (.int p2), .val (.int p3), .val (.int (Int32.ofNat A)), .val (.int (Int32.ofNat B)), .val (.int (Int32.ofNat C)), .val (.int rA), .val (.int hB), .val (.int hC), .val (.ref ob), .val (.ref mm), .val (.int (Int32.ofNat n0')), .unset] [(.int (Int32.ofNat A)), (.int (Int32.ofNat n0')), (.ref mm)])) rfl rfl (hb hby at_158)
      have E_s_63 : Exa Z h63 ob "com/example/earmark/earmark/ledger/PositionSet" := E_s_57.wr W63
      have Fc_63 : Fld Z h63 ob "com/example/earmark/earmark/ledger/PositionSet" "counts" "[I" (.ref ta) := Fc_57.other W63 (Or.inl ne_ob_mm)
      have Fk_63 : Fld Z h63 ob "com/example/earmark/earmark/ledger/PositionSet" "capacity" "I" (.int (Int32.ofNat (2 ^ e3))) := Fk_57.other W63 (Or.inl ne_ob_mm)
      have Fz_63 : Fld Z h63 ob "com/example/earmark/earmark/ledger/PositionSet" "size" "I" (.int (Int32.ofNat S4.length)) := Fz_57.other W63 (Or.inl ne_ob_mm)
      have Va_63 : Arv Z h63 ta k0 .int (Int32.ofNat (2 ^ e3 + 1)) (own_tab f (2 ^ e3 + 1)) (.int (0 : Int32)) := Va_57.other W63 ne_ta_mm
      have N63 := Fr.snoc X63 N57 g_mm
      have Z63 : n0 ≤ h63.size := Nat.le_trans Z57 (Keep.of_wr W63).1
      have V_mm_63 : Arv Z h63 mm k45 .int (3 : Int32) (own_nl (L00.set n0' A)) (.int (0 : Int32)) := (own_nl_set L00 n0' A) ▸ (Arv.set Ar62 q62 S62 M62 H62 G62 rfl W63 n0' (by first | rfl | assumption) (by assumption))
      have pre64 := fun τ (κ : Steps p.tables e below (T63.setTop (mkF m 159 #[.val (.int p0), .val (.int p1), .val (.int p2), .val (.int p3), .val (.int (Int32.ofNat A)), .val (.int (Int32.ofNat B)), .val (.int (Int32.ofNat C)), .val (.int rA), .val (.int hB), .val (.int hC), .val (.ref ob), .val (.ref mm), .val (.int (Int32.ofNat n0')), .unset] [])) τ) => pre61 τ (st63 _ κ)
      have pre65 := fun τ (κ : Steps p.tables e below (T63.setTop (mkF m 163 #[.val (.int p0), .val (.int p1), .val (.int p2), .val (.int p3), .val (.int (Int32.ofNat A)), .val (.int (Int32.ofNat B)), .val (.int (Int32.ofNat C)), .val (.int rA), .val (.int hB), .val (.int hC), .val (.ref ob), .val (.ref mm), .val (.int (Int32.ofNat n0')), .unset] [(.int ((Int32.ofNat n0') + (1 : Int32)))])) τ) => pre64 τ (by
        refine XS.iload X63.here hx rfl (hb hby at_159) rfl ?_
        show Steps p.tables e below (T63.setTop (mkF m 161 #[.val (.int p0), .val (.int p1), .val (.int p2), .val (.int p3), .val (.int (Int32.ofNat A)), .val (.int (Int32.ofNat B)), .val (.int (Int32.ofNat C)), .val (.int rA), .val (.int hB), .val (.int hC), .val (.ref ob), .val (.ref mm), .val (.int (Int32.ofNat n0')), .unset] [(.int (Int32.ofNat n0'))])) _
        refine XS.iconst X63.here hx rfl (hb hby at_161) ?_
        show Steps p.tables e below (T63.setTop (mkF m 162 #[.val (.int p0), .val (.int p1), .val (.int p2), .val (.int p3), .val (.int (Int32.ofNat A)), .val (.int (Int32.ofNat B)), .val (.int (Int32.ofNat C)), .val (.int rA), .val (.int hB), .val (.int hC), .val (.ref ob), .val (.ref mm), .val (.int (Int32.ofNat n0')), .unset] [(.int (1 : Int32)), (.int (Int32.ofNat n0'))])) _
        refine XS.iadd X63.here hx rfl (hb hby at_162) rfl ?_
        show Steps p.tables e below (T63.setTop (mkF m 163 #[.val (.int p0), .val (.int p1), .val (.int p2), .val (.int p3), .val (.int (Int32.ofNat A)), .val (.int (Int32.ofNat B)), .val (.int (Int32.ofNat C)), .val (.int rA), .val (.int hB), .val (.int hC), .val (.ref ob), .val (.ref mm), .val (.int (Int32.ofNat n0')), .unset] [(.int ((Int32.ofNat n0') + (1 : Int32)))])) _
        exact κ)
      rw [show ((Int32.ofNat n0') + (1 : Int32)) = (Int32.ofNat (n0' + 1)) from (own_addN _ 1)] at pre65
      have pre66 := fun τ (κ : Steps p.tables e below (T63.setTop (mkF m 165 #[.val (.int p0), .val (.int p1), .val (.int p2), .val (.int p3), .val (.int (Int32.ofNat A)), .val (.int (Int32.ofNat B)), .val (.int (Int32.ofNat C)), .val (.int rA), .val (.int hB), .val (.int hC), .val (.ref ob), .val (.ref mm), .val (.int (Int32.ofNat (n0' + 1))), .unset] [])) τ) => pre65 τ (by
        refine XS.istore X63.here hx rfl (hb hby at_163) rfl (l' := #[.val (.int p0), .val (.int p1), .val (.int p2), .val (.int p3), .val (.int (Int32.ofNat A)), .val (.int (Int32.ofNat B)), .val (.int (Int32.ofNat C)), .val (.int rA), .val (.int hB), .val (.int hC), .val (.ref ob), .val (.ref mm), .val (.int (Int32.ofNat (n0' + 1))), .unset]) rfl ?_
        show Steps p.tables e below (T63.setTop (mkF m 165 #[.val (.int p0), .val (.int p1), .val (.int p2), .val (.int p3), .val (.int (Int32.ofNat A)), .val (.int (Int32.ofNat B)), .val (.int (Int32.ofNat C)), .val (.int rA), .val (.int hB), .val (.int hC), .val (.ref ob), .val (.ref mm), .val (.int (Int32.ofNat (n0' + 1))), .unset] [])) _
        exact κ)
      exact ⟨T63, h63, _, (n0' + 1), (L00.set n0' A), X63, e63, N63, Z63, E_s_63, Fc_63, Fk_63, Fz_63, Va_63, V_mm_63, Or.inl ⟨qq, by omega, by rw [hL00, hn0']; rfl⟩, by omega, by rw [List.length_set]; omega, pre66⟩
    · have pre67 := fun τ (κ : Steps p.tables e below (T57.setTop (mkF m 165 #[.val (.int p0), .val (.int p1), .val (.int p2), .val (.int p3), .val (.int (Int32.ofNat A)), .val (.int (Int32.ofNat B)), .val (.int (Int32.ofNat C)), .val (.int rA), .val (.int hB), .val (.int hC), .val (.ref ob), .val (.ref mm), .val (.int (Int32.ofNat n0')), .unset] [])) τ) => pre59 τ (by
        refine XS.ifYes X57.here hx rfl (pc0 := 149) (pc' := 165) rfl (hb hby at_149) rfl ((if0 _ _).trans (feq qq).2) (by decide) (by decide) ?_
        show Steps p.tables e below (T57.setTop (mkF m 165 #[.val (.int p0), .val (.int p1), .val (.int p2), .val (.int p3), .val (.int (Int32.ofNat A)), .val (.int (Int32.ofNat B)), .val (.int (Int32.ofNat C)), .val (.int rA), .val (.int hB), .val (.int hC), .val (.ref ob), .val (.ref mm), .val (.int (Int32.ofNat n0')), .unset] [])) _
        exact κ)
      exact ⟨T57, h57, _, n0', L00, X57, e57, N57, Z57, E_s_57, Fc_57, Fk_57, Fz_57, Va_57, Vm, Or.inr ⟨qq, hn0', hL00⟩, by omega, by omega, pre67⟩
  have pre68 := fun τ (κ : Steps p.tables e below (T60.setTop (mkF m 167 #[.val (.int p0), .val (.int p1), .val (.int p2), .val (.int p3), .val (.int (Int32.ofNat A)), .val (.int (Int32.ofNat B)), .val (.int (Int32.ofNat C)), .val (.int rA), .val (.int hB), .val (.int hC), .val (.ref ob), .val (.ref mm), .val (.int (Int32.ofNat n1)), .unset] [(.int hB)])) τ) => pre60 τ (by
    refine XS.iload X60.here hx rfl (hb hby at_165) rfl ?_
    show Steps p.tables e below (T60.setTop (mkF m 167 #[.val (.int p0), .val (.int p1), .val (.int p2), .val (.int p3), .val (.int (Int32.ofNat A)), .val (.int (Int32.ofNat B)), .val (.int (Int32.ofNat C)), .val (.int rA), .val (.int hB), .val (.int hC), .val (.ref ob), .val (.ref mm), .val (.int (Int32.ofNat n1)), .unset] [(.int hB)])) _
    exact κ)
  obtain ⟨T69, h69, lo69, n2, L2, X69, e69, N69, Z69, E_s_69, Fc_69, Fk_69, Fz_69, Va_69, Vm_69, lL2, lnL2, llL2, pre69⟩ : ∃ (T69 : State) (h69 : Heap) (lo69 : List Loc) (n2 : Nat) (L2 : List Nat), Stand p l e room_1 s m #[(.int p0), (.int p1), (.int p2), (.int p3)] below meth c T69 lo69 ((2 + e3 + 1)) ((5 + own_G e3 + 3)) ∧ T69.heap = h69 ∧ Fr n0 lo69 ∧ n0 ≤ h69.size ∧ (Exa Z h69 ob "com/example/earmark/earmark/ledger/PositionSet") ∧ (Fld Z h69 ob "com/example/earmark/earmark/ledger/PositionSet" "counts" "[I" (.ref ta)) ∧ (Fld Z h69 ob "com/example/earmark/earmark/ledger/PositionSet" "capacity" "I" (.int (Int32.ofNat (2 ^ e3)))) ∧ (Fld Z h69 ob "com/example/earmark/earmark/ledger/PositionSet" "size" "I" (.int (Int32.ofNat S4.length))) ∧ (Arv Z h69 ta k0 .int (Int32.ofNat (2 ^ e3 + 1)) (own_tab f (2 ^ e3 + 1)) (.int (0 : Int32))) ∧ (Arv Z h69 mm k45 .int (3 : Int32) (own_nl L2) (.int (0 : Int32))) ∧ ((hB ≠ 0 ∧ n2 = n1 + 1 ∧ L2 = L1.set n1 B) ∨ (hB = 0 ∧ n2 = n1 ∧ L2 = L1)) ∧ (n2 ≤ 2) ∧ (L2.length = 3) ∧ ∀ τ, Steps p.tables e below (T69.setTop (mkF m 183 #[.val (.int p0), .val (.int p1), .val (.int p2), .val (.int p3), .val (.int (Int32.ofNat A)), .val (.int (Int32.ofNat B)), .val (.int (Int32.ofNat C)), .val (.int rA), .val (.int hB), .val (.int hC), .val (.ref ob), .val (.ref mm), .val (.int (Int32.ofNat n2)), .unset] [])) τ → Steps p.tables e below (s₁.setTop (entryFrame m #[(.int p0), (.int p1), (.int p2), (.int p3)] maxLocals)) τ := by
    by_cases qq : hB = (0 : Int32)
    · have pre70 := fun τ (κ : Steps p.tables e below (T60.setTop (mkF m 183 #[.val (.int p0), .val (.int p1), .val (.int p2), .val (.int p3), .val (.int (Int32.ofNat A)), .val (.int (Int32.ofNat B)), .val (.int (Int32.ofNat C)), .val (.int rA), .val (.int hB), .val (.int hC), .val (.ref ob), .val (.ref mm), .val (.int (Int32.ofNat n1)), .unset] [])) τ) => pre68 τ (by
        refine XS.ifYes X60.here hx rfl (pc0 := 167) (pc' := 183) rfl (hb hby at_167) rfl ((if0 _ _).trans (teq qq).1) (by decide) (by decide) ?_
        show Steps p.tables e below (T60.setTop (mkF m 183 #[.val (.int p0), .val (.int p1), .val (.int p2), .val (.int p3), .val (.int (Int32.ofNat A)), .val (.int (Int32.ofNat B)), .val (.int (Int32.ofNat C)), .val (.int rA), .val (.int hB), .val (.int hC), .val (.ref ob), .val (.ref mm), .val (.int (Int32.ofNat n1)), .unset] [])) _
        exact κ)
      exact ⟨T60, h60, _, n1, L1, X60, e60, N60, Z60, E_s_60, Fc_60, Fk_60, Fz_60, Va_60, Vm_60, Or.inr ⟨qq, rfl, rfl⟩, by omega, by omega, pre70⟩
    · have pre71 := fun τ (κ : Steps p.tables e below (T60.setTop (mkF m 176 #[.val (.int p0), .val (.int p1), .val (.int p2), .val (.int p3), .val (.int (Int32.ofNat A)), .val (.int (Int32.ofNat B)), .val (.int (Int32.ofNat C)), .val (.int rA), .val (.int hB), .val (.int hC), .val (.ref ob), .val (.ref mm), .val (.int (Int32.ofNat n1)), .unset] [(.int (Int32.ofNat B)), (.int (Int32.ofNat n1)), (.ref mm)])) τ) => pre68 τ (by
        refine XS.ifNo X60.here hx rfl (hb hby at_167) rfl ((if0 _ _).trans (feq qq).1) ?_
        show Steps p.tables e below (T60.setTop (mkF m 170 #[.val (.int p0), .val (.int p1), .val (.int p2), .val (.int p3), .val (.int (Int32.ofNat A)), .val (.int (Int32.ofNat B)), .val (.int (Int32.ofNat C)), .val (.int rA), .val (.int hB), .val (.int hC), .val (.ref ob), .val (.ref mm), .val (.int (Int32.ofNat n1)), .unset] [])) _
        refine XS.aload X60.here hx rfl (hb hby at_170) rfl rfl ?_
        show Steps p.tables e below (T60.setTop (mkF m 172 #[.val (.int p0), .val (.int p1), .val (.int p2), .val (.int p3), .val (.int (Int32.ofNat A)), .val (.int (Int32.ofNat B)), .val (.int (Int32.ofNat C)), .val (.int rA), .val (.int hB), .val (.int hC), .val (.ref ob), .val (.ref mm), .val (.int (Int32.ofNat n1)), .unset] [(.ref mm)])) _
        refine XS.iload X60.here hx rfl (hb hby at_172) rfl ?_
        show Steps p.tables e below (T60.setTop (mkF m 174 #[.val (.int p0), .val (.int p1), .val (.int p2), .val (.int p3), .val (.int (Int32.ofNat A)), .val (.int (Int32.ofNat B)), .val (.int (Int32.ofNat C)), .val (.int rA), .val (.int hB), .val (.int hC), .val (.ref ob), .val (.ref mm), .val (.int (Int32.ofNat n1)), .unset] [(.int (Int32.ofNat n1)), (.ref mm)])) _
        refine XS.iload X60.here hx rfl (hb hby at_174) rfl ?_
        show Steps p.tables e below (T60.setTop (mkF m 176 #[.val (.int p0), .val (.int p1), .val (.int p2), .val (.int p3), .val (.int (Int32.ofNat A)), .val (.int (Int32.ofNat B)), .val (.int (Int32.ofNat C)), .val (.int rA), .val (.int hB), .val (.int hC), .val (.ref ob), .val (.ref mm), .val (.int (Int32.ofNat n1)), .unset] [(.int (Int32.ofNat B)), (.int (Int32.ofNat n1)), (.ref mm)])) _
        exact κ)
      have cj : (Int32.ofNat n1).toNatClampNeg = n1 := own_clamp (by omega)
      have lj : n1 < (own_nl L1).length := by rw [own_nl, List.length_map]; omega
      obtain ⟨cl72, Ar72, q72, S72, M72, H72, G72⟩ := id Vm_60
      have in72 : ¬ ((Int32.ofNat n1) < 0 ∨ cl72.slots.size ≤ ((Int32.ofNat n1)).toNatClampNeg) := inb_of S72 ⟨own_nn (by omega), (own_ltN (j := 3) (by omega) (by omega)).mpr (by omega)⟩
      obtain ⟨T73, h73, X73, e73, W73, st73⟩ := stI X60 hx hZ e60 Ar72 (j := (Int32.ofNat n1)) in72 (g := (mkF m 176 #[.val (.int p0), .val (.int p1), .val (.int p2), .val (.int p3), .val (.int (Int32.ofNat A)), .val (.int (Int32.ofNat B)), .val (.int (Int32.ofNat C)), .val (.int rA), .val (.int hB), .val (.int hC), .val (.ref ob), .val (.ref mm), .val (.int (Int32.ofNat n1)), .unset] [(.int (Int32.ofNat B)), (.int (Int32.ofNat n1)), (.ref mm)])) rfl rfl (hb hby at_176)
      have E_s_73 : Exa Z h73 ob "com/example/earmark/earmark/ledger/PositionSet" := E_s_60.wr W73
      have Fc_73 : Fld Z h73 ob "com/example/earmark/earmark/ledger/PositionSet" "counts" "[I" (.ref ta) := Fc_60.other W73 (Or.inl ne_ob_mm)
      have Fk_73 : Fld Z h73 ob "com/example/earmark/earmark/ledger/PositionSet" "capacity" "I" (.int (Int32.ofNat (2 ^ e3))) := Fk_60.other W73 (Or.inl ne_ob_mm)
      have Fz_73 : Fld Z h73 ob "com/example/earmark/earmark/ledger/PositionSet" "size" "I" (.int (Int32.ofNat S4.length)) := Fz_60.other W73 (Or.inl ne_ob_mm)
      have Va_73 : Arv Z h73 ta k0 .int (Int32.ofNat (2 ^ e3 + 1)) (own_tab f (2 ^ e3 + 1)) (.int (0 : Int32)) := Va_60.other W73 ne_ta_mm
      have N73 := Fr.snoc X73 N60 g_mm
      have Z73 : n0 ≤ h73.size := Nat.le_trans Z60 (Keep.of_wr W73).1
      have V_mm_73 : Arv Z h73 mm k45 .int (3 : Int32) (own_nl (L1.set n1 B)) (.int (0 : Int32)) := (own_nl_set L1 n1 B) ▸ (Arv.set Ar72 q72 S72 M72 H72 G72 rfl W73 n1 (by first | rfl | assumption) (by assumption))
      have pre74 := fun τ (κ : Steps p.tables e below (T73.setTop (mkF m 177 #[.val (.int p0), .val (.int p1), .val (.int p2), .val (.int p3), .val (.int (Int32.ofNat A)), .val (.int (Int32.ofNat B)), .val (.int (Int32.ofNat C)), .val (.int rA), .val (.int hB), .val (.int hC), .val (.ref ob), .val (.ref mm), .val (.int (Int32.ofNat n1)), .unset] [])) τ) => pre71 τ (st73 _ κ)
      have pre75 := fun τ (κ : Steps p.tables e below (T73.setTop (mkF m 181 #[.val (.int p0), .val (.int p1), .val (.int p2), .val (.int p3), .val (.int (Int32.ofNat A)), .val (.int (Int32.ofNat B)), .val (.int (Int32.ofNat C)), .val (.int rA), .val (.int hB), .val (.int hC), .val (.ref ob), .val (.ref mm), .val (.int (Int32.ofNat n1)), .unset] [(.int ((Int32.ofNat n1) + (1 : Int32)))])) τ) => pre74 τ (by
        refine XS.iload X73.here hx rfl (hb hby at_177) rfl ?_
        show Steps p.tables e below (T73.setTop (mkF m 179 #[.val (.int p0), .val (.int p1), .val (.int p2), .val (.int p3), .val (.int (Int32.ofNat A)), .val (.int (Int32.ofNat B)), .val (.int (Int32.ofNat C)), .val (.int rA), .val (.int hB), .val (.int hC), .val (.ref ob), .val (.ref mm), .val (.int (Int32.ofNat n1)), .unset] [(.int (Int32.ofNat n1))])) _
        refine XS.iconst X73.here hx rfl (hb hby at_179) ?_
        show Steps p.tables e below (T73.setTop (mkF m 180 #[.val (.int p0), .val (.int p1), .val (.int p2), .val (.int p3), .val (.int (Int32.ofNat A)), .val (.int (Int32.ofNat B)), .val (.int (Int32.ofNat C)), .val (.int rA), .val (.int hB), .val (.int hC), .val (.ref ob), .val (.ref mm), .val (.int (Int32.ofNat n1)), .unset] [(.int (1 : Int32)), (.int (Int32.ofNat n1))])) _
        refine XS.iadd X73.here hx rfl (hb hby at_180) rfl ?_
        show Steps p.tables e below (T73.setTop (mkF m 181 #[.val (.int p0), .val (.int p1), .val (.int p2), .val (.int p3), .val (.int (Int32.ofNat A)), .val (.int (Int32.ofNat B)), .val (.int (Int32.ofNat C)), .val (.int rA), .val (.int hB), .val (.int hC), .val (.ref ob), .val (.ref mm), .val (.int (Int32.ofNat n1)), .unset] [(.int ((Int32.ofNat n1) + (1 : Int32)))])) _
        exact κ)
      rw [show ((Int32.ofNat n1) + (1 : Int32)) = (Int32.ofNat (n1 + 1)) from (own_addN _ 1)] at pre75
      have pre76 := fun τ (κ : Steps p.tables e below (T73.setTop (mkF m 183 #[.val (.int p0), .val (.int p1), .val (.int p2), .val (.int p3), .val (.int (Int32.ofNat A)), .val (.int (Int32.ofNat B)), .val (.int (Int32.ofNat C)), .val (.int rA), .val (.int hB), .val (.int hC), .val (.ref ob), .val (.ref mm), .val (.int (Int32.ofNat (n1 + 1))), .unset] [])) τ) => pre75 τ (by
        refine XS.istore X73.here hx rfl (hb hby at_181) rfl (l' := #[.val (.int p0), .val (.int p1), .val (.int p2), .val (.int p3), .val (.int (Int32.ofNat A)), .val (.int (Int32.ofNat B)), .val (.int (Int32.ofNat C)), .val (.int rA), .val (.int hB), .val (.int hC), .val (.ref ob), .val (.ref mm), .val (.int (Int32.ofNat (n1 + 1))), .unset]) rfl ?_
        show Steps p.tables e below (T73.setTop (mkF m 183 #[.val (.int p0), .val (.int p1), .val (.int p2), .val (.int p3), .val (.int (Int32.ofNat A)), .val (.int (Int32.ofNat B)), .val (.int (Int32.ofNat C)), .val (.int rA), .val (.int hB), .val (.int hC), .val (.ref ob), .val (.ref mm), .val (.int (Int32.ofNat (n1 + 1))), .unset] [])) _
        exact κ)
      exact ⟨T73, h73, _, (n1 + 1), (L1.set n1 B), X73, e73, N73, Z73, E_s_73, Fc_73, Fk_73, Fz_73, Va_73, V_mm_73, Or.inl ⟨qq, rfl, rfl⟩, by omega, by rw [List.length_set]; omega, pre76⟩
  have pre77 := fun τ (κ : Steps p.tables e below (T69.setTop (mkF m 185 #[.val (.int p0), .val (.int p1), .val (.int p2), .val (.int p3), .val (.int (Int32.ofNat A)), .val (.int (Int32.ofNat B)), .val (.int (Int32.ofNat C)), .val (.int rA), .val (.int hB), .val (.int hC), .val (.ref ob), .val (.ref mm), .val (.int (Int32.ofNat n2)), .unset] [(.int hC)])) τ) => pre69 τ (by
    refine XS.iload X69.here hx rfl (hb hby at_183) rfl ?_
    show Steps p.tables e below (T69.setTop (mkF m 185 #[.val (.int p0), .val (.int p1), .val (.int p2), .val (.int p3), .val (.int (Int32.ofNat A)), .val (.int (Int32.ofNat B)), .val (.int (Int32.ofNat C)), .val (.int rA), .val (.int hB), .val (.int hC), .val (.ref ob), .val (.ref mm), .val (.int (Int32.ofNat n2)), .unset] [(.int hC)])) _
    exact κ)
  obtain ⟨T78, h78, lo78, n3, L3, X78, e78, N78, Z78, E_s_78, Fc_78, Fk_78, Fz_78, Va_78, Vm_78, lL3, lnL3, llL3, pre78⟩ : ∃ (T78 : State) (h78 : Heap) (lo78 : List Loc) (n3 : Nat) (L3 : List Nat), Stand p l e room_1 s m #[(.int p0), (.int p1), (.int p2), (.int p3)] below meth c T78 lo78 ((2 + e3 + 1)) ((5 + own_G e3 + 3)) ∧ T78.heap = h78 ∧ Fr n0 lo78 ∧ n0 ≤ h78.size ∧ (Exa Z h78 ob "com/example/earmark/earmark/ledger/PositionSet") ∧ (Fld Z h78 ob "com/example/earmark/earmark/ledger/PositionSet" "counts" "[I" (.ref ta)) ∧ (Fld Z h78 ob "com/example/earmark/earmark/ledger/PositionSet" "capacity" "I" (.int (Int32.ofNat (2 ^ e3)))) ∧ (Fld Z h78 ob "com/example/earmark/earmark/ledger/PositionSet" "size" "I" (.int (Int32.ofNat S4.length))) ∧ (Arv Z h78 ta k0 .int (Int32.ofNat (2 ^ e3 + 1)) (own_tab f (2 ^ e3 + 1)) (.int (0 : Int32))) ∧ (Arv Z h78 mm k45 .int (3 : Int32) (own_nl L3) (.int (0 : Int32))) ∧ ((hC ≠ 0 ∧ n3 = n2 + 1 ∧ L3 = L2.set n2 C) ∨ (hC = 0 ∧ n3 = n2 ∧ L3 = L2)) ∧ (n3 ≤ 3) ∧ (L3.length = 3) ∧ ∀ τ, Steps p.tables e below (T78.setTop (mkF m 201 #[.val (.int p0), .val (.int p1), .val (.int p2), .val (.int p3), .val (.int (Int32.ofNat A)), .val (.int (Int32.ofNat B)), .val (.int (Int32.ofNat C)), .val (.int rA), .val (.int hB), .val (.int hC), .val (.ref ob), .val (.ref mm), .val (.int (Int32.ofNat n3)), .unset] [])) τ → Steps p.tables e below (s₁.setTop (entryFrame m #[(.int p0), (.int p1), (.int p2), (.int p3)] maxLocals)) τ := by
    by_cases qq : hC = (0 : Int32)
    · have pre79 := fun τ (κ : Steps p.tables e below (T69.setTop (mkF m 201 #[.val (.int p0), .val (.int p1), .val (.int p2), .val (.int p3), .val (.int (Int32.ofNat A)), .val (.int (Int32.ofNat B)), .val (.int (Int32.ofNat C)), .val (.int rA), .val (.int hB), .val (.int hC), .val (.ref ob), .val (.ref mm), .val (.int (Int32.ofNat n2)), .unset] [])) τ) => pre77 τ (by
        refine XS.ifYes X69.here hx rfl (pc0 := 185) (pc' := 201) rfl (hb hby at_185) rfl ((if0 _ _).trans (teq qq).1) (by decide) (by decide) ?_
        show Steps p.tables e below (T69.setTop (mkF m 201 #[.val (.int p0), .val (.int p1), .val (.int p2), .val (.int p3), .val (.int (Int32.ofNat A)), .val (.int (Int32.ofNat B)), .val (.int (Int32.ofNat C)), .val (.int rA), .val (.int hB), .val (.int hC), .val (.ref ob), .val (.ref mm), .val (.int (Int32.ofNat n2)), .unset] [])) _
        exact κ)
      exact ⟨T69, h69, _, n2, L2, X69, e69, N69, Z69, E_s_69, Fc_69, Fk_69, Fz_69, Va_69, Vm_69, Or.inr ⟨qq, rfl, rfl⟩, by omega, by omega, pre79⟩
    · have pre80 := fun τ (κ : Steps p.tables e below (T69.setTop (mkF m 194 #[.val (.int p0), .val (.int p1), .val (.int p2), .val (.int p3), .val (.int (Int32.ofNat A)), .val (.int (Int32.ofNat B)), .val (.int (Int32.ofNat C)), .val (.int rA), .val (.int hB), .val (.int hC), .val (.ref ob), .val (.ref mm), .val (.int (Int32.ofNat n2)), .unset] [(.int (Int32.ofNat C)), (.int (Int32.ofNat n2)), (.ref mm)])) τ) => pre77 τ (by
        refine XS.ifNo X69.here hx rfl (hb hby at_185) rfl ((if0 _ _).trans (feq qq).1) ?_
        show Steps p.tables e below (T69.setTop (mkF m 188 #[.val (.int p0), .val (.int p1), .val (.int p2), .val (.int p3), .val (.int (Int32.ofNat A)), .val (.int (Int32.ofNat B)), .val (.int (Int32.ofNat C)), .val (.int rA), .val (.int hB), .val (.int hC), .val (.ref ob), .val (.ref mm), .val (.int (Int32.ofNat n2)), .unset] [])) _
        refine XS.aload X69.here hx rfl (hb hby at_188) rfl rfl ?_
        show Steps p.tables e below (T69.setTop (mkF m 190 #[.val (.int p0), .val (.int p1), .val (.int p2), .val (.int p3), .val (.int (Int32.ofNat A)), .val (.int (Int32.ofNat B)), .val (.int (Int32.ofNat C)), .val (.int rA), .val (.int hB), .val (.int hC), .val (.ref ob), .val (.ref mm), .val (.int (Int32.ofNat n2)), .unset] [(.ref mm)])) _
        refine XS.iload X69.here hx rfl (hb hby at_190) rfl ?_
        show Steps p.tables e below (T69.setTop (mkF m 192 #[.val (.int p0), .val (.int p1), .val (.int p2), .val (.int p3), .val (.int (Int32.ofNat A)), .val (.int (Int32.ofNat B)), .val (.int (Int32.ofNat C)), .val (.int rA), .val (.int hB), .val (.int hC), .val (.ref ob), .val (.ref mm), .val (.int (Int32.ofNat n2)), .unset] [(.int (Int32.ofNat n2)), (.ref mm)])) _
        refine XS.iload X69.here hx rfl (hb hby at_192) rfl ?_
        show Steps p.tables e below (T69.setTop (mkF m 194 #[.val (.int p0), .val (.int p1), .val (.int p2), .val (.int p3), .val (.int (Int32.ofNat A)), .val (.int (Int32.ofNat B)), .val (.int (Int32.ofNat C)), .val (.int rA), .val (.int hB), .val (.int hC), .val (.ref ob), .val (.ref mm), .val (.int (Int32.ofNat n2)), .unset] [(.int (Int32.ofNat C)), (.int (Int32.ofNat n2)), (.ref mm)])) _
        exact κ)
      have cj : (Int32.ofNat n2).toNatClampNeg = n2 := own_clamp (by omega)
      have lj : n2 < (own_nl L2).length := by rw [own_nl, List.length_map]; omega
      obtain ⟨cl81, Ar81, q81, S81, M81, H81, G81⟩ := id Vm_69
      have in81 : ¬ ((Int32.ofNat n2) < 0 ∨ cl81.slots.size ≤ ((Int32.ofNat n2)).toNatClampNeg) := inb_of S81 ⟨own_nn (by omega), (own_ltN (j := 3) (by omega) (by omega)).mpr (by omega)⟩
      obtain ⟨T82, h82, X82, e82, W82, st82⟩ := stI X69 hx hZ e69 Ar81 (j := (Int32.ofNat n2)) in81 (g := (mkF m 194 #[.val (.int p0), .val (.int p1), .val (.int p2), .val (.int p3), .val (.int (Int32.ofNat A)), .val (.int (Int32.ofNat B)), .val (.int (Int32.ofNat C)), .val (.int rA), .val (.int hB), .val (.int hC), .val (.ref ob), .val (.ref mm), .val (.int (Int32.ofNat n2)), .unset] [(.int (Int32.ofNat C)), (.int (Int32.ofNat n2)), (.ref mm)])) rfl rfl (hb hby at_194)
      have E_s_82 : Exa Z h82 ob "com/example/earmark/earmark/ledger/PositionSet" := E_s_69.wr W82
      have Fc_82 : Fld Z h82 ob "com/example/earmark/earmark/ledger/PositionSet" "counts" "[I" (.ref ta) := Fc_69.other W82 (Or.inl ne_ob_mm)
      have Fk_82 : Fld Z h82 ob "com/example/earmark/earmark/ledger/PositionSet" "capacity" "I" (.int (Int32.ofNat (2 ^ e3))) := Fk_69.other W82 (Or.inl ne_ob_mm)
      have Fz_82 : Fld Z h82 ob "com/example/earmark/earmark/ledger/PositionSet" "size" "I" (.int (Int32.ofNat S4.length)) := Fz_69.other W82 (Or.inl ne_ob_mm)
      have Va_82 : Arv Z h82 ta k0 .int (Int32.ofNat (2 ^ e3 + 1)) (own_tab f (2 ^ e3 + 1)) (.int (0 : Int32)) := Va_69.other W82 ne_ta_mm
      have N82 := Fr.snoc X82 N69 g_mm
      have Z82 : n0 ≤ h82.size := Nat.le_trans Z69 (Keep.of_wr W82).1
      have V_mm_82 : Arv Z h82 mm k45 .int (3 : Int32) (own_nl (L2.set n2 C)) (.int (0 : Int32)) := (own_nl_set L2 n2 C) ▸ (Arv.set Ar81 q81 S81 M81 H81 G81 rfl W82 n2 (by first | rfl | assumption) (by assumption))
      have pre83 := fun τ (κ : Steps p.tables e below (T82.setTop (mkF m 195 #[.val (.int p0), .val (.int p1), .val (.int p2), .val (.int p3), .val (.int (Int32.ofNat A)), .val (.int (Int32.ofNat B)), .val (.int (Int32.ofNat C)), .val (.int rA), .val (.int hB), .val (.int hC), .val (.ref ob), .val (.ref mm), .val (.int (Int32.ofNat n2)), .unset] [])) τ) => pre80 τ (st82 _ κ)
      have pre84 := fun τ (κ : Steps p.tables e below (T82.setTop (mkF m 199 #[.val (.int p0), .val (.int p1), .val (.int p2), .val (.int p3), .val (.int (Int32.ofNat A)), .val (.int (Int32.ofNat B)), .val (.int (Int32.ofNat C)), .val (.int rA), .val (.int hB), .val (.int hC), .val (.ref ob), .val (.ref mm), .val (.int (Int32.ofNat n2)), .unset] [(.int ((Int32.ofNat n2) + (1 : Int32)))])) τ) => pre83 τ (by
        refine XS.iload X82.here hx rfl (hb hby at_195) rfl ?_
        show Steps p.tables e below (T82.setTop (mkF m 197 #[.val (.int p0), .val (.int p1), .val (.int p2), .val (.int p3), .val (.int (Int32.ofNat A)), .val (.int (Int32.ofNat B)), .val (.int (Int32.ofNat C)), .val (.int rA), .val (.int hB), .val (.int hC), .val (.ref ob), .val (.ref mm), .val (.int (Int32.ofNat n2)), .unset] [(.int (Int32.ofNat n2))])) _
        refine XS.iconst X82.here hx rfl (hb hby at_197) ?_
        show Steps p.tables e below (T82.setTop (mkF m 198 #[.val (.int p0), .val (.int p1), .val (.int p2), .val (.int p3), .val (.int (Int32.ofNat A)), .val (.int (Int32.ofNat B)), .val (.int (Int32.ofNat C)), .val (.int rA), .val (.int hB), .val (.int hC), .val (.ref ob), .val (.ref mm), .val (.int (Int32.ofNat n2)), .unset] [(.int (1 : Int32)), (.int (Int32.ofNat n2))])) _
        refine XS.iadd X82.here hx rfl (hb hby at_198) rfl ?_
        show Steps p.tables e below (T82.setTop (mkF m 199 #[.val (.int p0), .val (.int p1), .val (.int p2), .val (.int p3), .val (.int (Int32.ofNat A)), .val (.int (Int32.ofNat B)), .val (.int (Int32.ofNat C)), .val (.int rA), .val (.int hB), .val (.int hC), .val (.ref ob), .val (.ref mm), .val (.int (Int32.ofNat n2)), .unset] [(.int ((Int32.ofNat n2) + (1 : Int32)))])) _
        exact κ)
      rw [show ((Int32.ofNat n2) + (1 : Int32)) = (Int32.ofNat (n2 + 1)) from (own_addN _ 1)] at pre84
      have pre85 := fun τ (κ : Steps p.tables e below (T82.setTop (mkF m 201 #[.val (.int p0), .val (.int p1), .val (.int p2), .val (.int p3), .val (.int (Int32.ofNat A)), .val (.int (Int32.ofNat B)), .val (.int (Int32.ofNat C)), .val (.int rA), .val (.int hB), .val (.int hC), .val (.ref ob), .val (.ref mm), .val (.int (Int32.ofNat (n2 + 1))), .unset] [])) τ) => pre84 τ (by
        refine XS.istore X82.here hx rfl (hb hby at_199) rfl (l' := #[.val (.int p0), .val (.int p1), .val (.int p2), .val (.int p3), .val (.int (Int32.ofNat A)), .val (.int (Int32.ofNat B)), .val (.int (Int32.ofNat C)), .val (.int rA), .val (.int hB), .val (.int hC), .val (.ref ob), .val (.ref mm), .val (.int (Int32.ofNat (n2 + 1))), .unset]) rfl ?_
        show Steps p.tables e below (T82.setTop (mkF m 201 #[.val (.int p0), .val (.int p1), .val (.int p2), .val (.int p3), .val (.int (Int32.ofNat A)), .val (.int (Int32.ofNat B)), .val (.int (Int32.ofNat C)), .val (.int rA), .val (.int hB), .val (.int hC), .val (.ref ob), .val (.ref mm), .val (.int (Int32.ofNat (n2 + 1))), .unset] [])) _
        exact κ)
      exact ⟨T82, h82, _, (n2 + 1), (L2.set n2 C), X82, e82, N82, Z82, E_s_82, Fc_82, Fk_82, Fz_82, Va_82, V_mm_82, Or.inl ⟨qq, rfl, rfl⟩, by omega, by rw [List.length_set]; omega, pre85⟩
  obtain ⟨hlen, hn3, x, y, z, rfl, hx31, hy31, hz31, hcnt⟩ := own_rel hA hB' hC' sS2 sS3 sS4 lL1 lL2 lL3
  obtain ⟨a, b, d, hsort, hab, hbd, hsum⟩ := own_sort x y z
  have M0 := own_M3 hx31 hy31 hz31
  have pre86 := fun τ (κ : Steps p.tables e below (T78.setTop (mkF m 205 #[.val (.int p0), .val (.int p1), .val (.int p2), .val (.int p3), .val (.int (Int32.ofNat A)), .val (.int (Int32.ofNat B)), .val (.int (Int32.ofNat C)), .val (.int rA), .val (.int hB), .val (.int hC), .val (.ref ob), .val (.ref mm), .val (.int (Int32.ofNat n3)), .unset] [(.int (1 : Int32)), (.int (0 : Int32)), (.ref mm)])) τ) => pre78 τ (by
    refine XS.aload X78.here hx rfl (hb hby at_201) rfl rfl ?_
    show Steps p.tables e below (T78.setTop (mkF m 203 #[.val (.int p0), .val (.int p1), .val (.int p2), .val (.int p3), .val (.int (Int32.ofNat A)), .val (.int (Int32.ofNat B)), .val (.int (Int32.ofNat C)), .val (.int rA), .val (.int hB), .val (.int hC), .val (.ref ob), .val (.ref mm), .val (.int (Int32.ofNat n3)), .unset] [(.ref mm)])) _
    refine XS.iconst X78.here hx rfl (hb hby at_203) ?_
    show Steps p.tables e below (T78.setTop (mkF m 204 #[.val (.int p0), .val (.int p1), .val (.int p2), .val (.int p3), .val (.int (Int32.ofNat A)), .val (.int (Int32.ofNat B)), .val (.int (Int32.ofNat C)), .val (.int rA), .val (.int hB), .val (.int hC), .val (.ref ob), .val (.ref mm), .val (.int (Int32.ofNat n3)), .unset] [(.int (0 : Int32)), (.ref mm)])) _
    refine XS.iconst X78.here hx rfl (hb hby at_204) ?_
    show Steps p.tables e below (T78.setTop (mkF m 205 #[.val (.int p0), .val (.int p1), .val (.int p2), .val (.int p3), .val (.int (Int32.ofNat A)), .val (.int (Int32.ofNat B)), .val (.int (Int32.ofNat C)), .val (.int rA), .val (.int hB), .val (.int hC), .val (.ref ob), .val (.ref mm), .val (.int (Int32.ofNat n3)), .unset] [(.int (1 : Int32)), (.int (0 : Int32)), (.ref mm)])) _
    exact κ)
  obtain ⟨_, _, ⟨T87, L87, k87, n87⟩, -, X87, ⟨Lc87, hQ87, l87, y87, z87⟩, st87⟩ := Jvm.LawKit.callS X78 hx (y := (⟨"com/example/earmark/earmark/ledger/PositionSetPositionPinLaw", "order", "([III)V"⟩ : MethodName)) hown (mvT hZ (hw _ (List.mem_of_getElem? (i := 47) rfl))) (mvT hZ (hw _ (List.mem_of_getElem? (i := 48) rfl))) (mvT hZ (hw _ (List.mem_of_getElem? (i := 49) rfl))) (mvT hZ (hw _ (List.mem_of_getElem? (i := 50) rfl))) (by decide) (backOf (W := 0) (rm9 l Z a0 hw [] mm 0 1 k45 [x, y, z] h78 n0 Z78 Vm_78 (by decide) (by decide) (by simp [own_ord_len]) (own_B3 M0 _) (own_B3 M0 _) g_mm) hZ (hw _ (List.mem_of_getElem? (i := 50) rfl)) (hw _ (List.mem_of_getElem? (i := 49) rfl)) (Nat.le_of_ble_eq_true rfl) (Nat.le_of_ble_eq_true rfl)) (g := (mkF m 205 #[.val (.int p0), .val (.int p1), .val (.int p2), .val (.int p3), .val (.int (Int32.ofNat A)), .val (.int (Int32.ofNat B)), .val (.int (Int32.ofNat C)), .val (.int rA), .val (.int hB), .val (.int hC), .val (.ref ob), .val (.ref mm), .val (.int (Int32.ofNat n3)), .unset] [(.int (1 : Int32)), (.int (0 : Int32)), (.ref mm)])) rfl (by rw [hml]; rfl) (argsL := [(.ref mm), (.int (0 : Int32)), (.int (1 : Int32))]) (rest := []) (lenOf pd_5 rfl) rfl (by show 2 * 0 + _ ≤ _; exact Nat.le_of_eq rfl) (hb hby at_205) (fun _ _ => ⟨rfl, e78, (by show 2 + e3 + 1 + 0 ≤ 32; omega), (by show 5 + own_G e3 + 3 + 0 ≤ 1152; omega)⟩)
  dsimp only [Pt.U, Pt.locs, Pt.cells, Pt.slots] at X87 l87 y87 z87 st87 hQ87
  subst l87 y87 z87
  obtain ⟨rfl, Nq87, K87, V87⟩ := hQ87
  have E_s_87 : Exa Z T87.heap ob "com/example/earmark/earmark/ledger/PositionSet" := E_s_78.keep K87
  have Fc_87 : Fld Z T87.heap ob "com/example/earmark/earmark/ledger/PositionSet" "counts" "[I" (.ref ta) := Fc_78.keep K87 (ninS ne_ob_mm nin0)
  have Fk_87 : Fld Z T87.heap ob "com/example/earmark/earmark/ledger/PositionSet" "capacity" "I" (.int (Int32.ofNat (2 ^ e3))) := Fk_78.keep K87 (ninS ne_ob_mm nin0)
  have Fz_87 : Fld Z T87.heap ob "com/example/earmark/earmark/ledger/PositionSet" "size" "I" (.int (Int32.ofNat S4.length)) := Fz_78.keep K87 (ninS ne_ob_mm nin0)
  have Va_87 : Arv Z T87.heap ta k0 .int (Int32.ofNat (2 ^ e3 + 1)) (own_tab f (2 ^ e3 + 1)) (.int (0 : Int32)) := Va_78.keep K87 (ninS ne_ta_mm nin0)
  have Z87 : n0 ≤ T87.heap.size := Nat.le_trans Z78 K87.1
  have N87 := Fr.app N78 Nq87
  have pre88 := fun τ (κ : Steps p.tables e below (T87.setTop (mkF m 208 #[.val (.int p0), .val (.int p1), .val (.int p2), .val (.int p3), .val (.int (Int32.ofNat A)), .val (.int (Int32.ofNat B)), .val (.int (Int32.ofNat C)), .val (.int rA), .val (.int hB), .val (.int hC), .val (.ref ob), .val (.ref mm), .val (.int (Int32.ofNat n3)), .unset] [])) τ) => pre86 τ (st87 _ κ)
  have M1 := own_O3 0 1 M0
  have pre89 := fun τ (κ : Steps p.tables e below (T87.setTop (mkF m 212 #[.val (.int p0), .val (.int p1), .val (.int p2), .val (.int p3), .val (.int (Int32.ofNat A)), .val (.int (Int32.ofNat B)), .val (.int (Int32.ofNat C)), .val (.int rA), .val (.int hB), .val (.int hC), .val (.ref ob), .val (.ref mm), .val (.int (Int32.ofNat n3)), .unset] [(.int (2 : Int32)), (.int (1 : Int32)), (.ref mm)])) τ) => pre88 τ (by
    refine XS.aload X87.here hx rfl (hb hby at_208) rfl rfl ?_
    show Steps p.tables e below (T87.setTop (mkF m 210 #[.val (.int p0), .val (.int p1), .val (.int p2), .val (.int p3), .val (.int (Int32.ofNat A)), .val (.int (Int32.ofNat B)), .val (.int (Int32.ofNat C)), .val (.int rA), .val (.int hB), .val (.int hC), .val (.ref ob), .val (.ref mm), .val (.int (Int32.ofNat n3)), .unset] [(.ref mm)])) _
    refine XS.iconst X87.here hx rfl (hb hby at_210) ?_
    show Steps p.tables e below (T87.setTop (mkF m 211 #[.val (.int p0), .val (.int p1), .val (.int p2), .val (.int p3), .val (.int (Int32.ofNat A)), .val (.int (Int32.ofNat B)), .val (.int (Int32.ofNat C)), .val (.int rA), .val (.int hB), .val (.int hC), .val (.ref ob), .val (.ref mm), .val (.int (Int32.ofNat n3)), .unset] [(.int (1 : Int32)), (.ref mm)])) _
    refine XS.iconst X87.here hx rfl (hb hby at_211) ?_
    show Steps p.tables e below (T87.setTop (mkF m 212 #[.val (.int p0), .val (.int p1), .val (.int p2), .val (.int p3), .val (.int (Int32.ofNat A)), .val (.int (Int32.ofNat B)), .val (.int (Int32.ofNat C)), .val (.int rA), .val (.int hB), .val (.int hC), .val (.ref ob), .val (.ref mm), .val (.int (Int32.ofNat n3)), .unset] [(.int (2 : Int32)), (.int (1 : Int32)), (.ref mm)])) _
    exact κ)
  obtain ⟨_, _, ⟨T90, L90, k90, n90⟩, -, X90, ⟨Lc90, hQ90, l90, y90, z90⟩, st90⟩ := Jvm.LawKit.callS X87 hx (y := (⟨"com/example/earmark/earmark/ledger/PositionSetPositionPinLaw", "order", "([III)V"⟩ : MethodName)) hown (mvT hZ (hw _ (List.mem_of_getElem? (i := 47) rfl))) (mvT hZ (hw _ (List.mem_of_getElem? (i := 48) rfl))) (mvT hZ (hw _ (List.mem_of_getElem? (i := 49) rfl))) (mvT hZ (hw _ (List.mem_of_getElem? (i := 50) rfl))) (by decide) (backOf (W := 0) (rm9 l Z a0 hw [] mm 1 2 k45 (own_ord 0 1 [x, y, z]) T87.heap n0 Z87 V87 (by decide) (by decide) (by simp [own_ord_len]) (own_B3 M1 _) (own_B3 M1 _) g_mm) hZ (hw _ (List.mem_of_getElem? (i := 50) rfl)) (hw _ (List.mem_of_getElem? (i := 49) rfl)) (Nat.le_of_ble_eq_true rfl) (Nat.le_of_ble_eq_true rfl)) (g := (mkF m 212 #[.val (.int p0), .val (.int p1), .val (.int p2), .val (.int p3), .val (.int (Int32.ofNat A)), .val (.int (Int32.ofNat B)), .val (.int (Int32.ofNat C)), .val (.int rA), .val (.int hB), .val (.int hC), .val (.ref ob), .val (.ref mm), .val (.int (Int32.ofNat n3)), .unset] [(.int (2 : Int32)), (.int (1 : Int32)), (.ref mm)])) rfl (by rw [hml]; rfl) (argsL := [(.ref mm), (.int (1 : Int32)), (.int (2 : Int32))]) (rest := []) (lenOf pd_5 rfl) rfl (by show 2 * 0 + _ ≤ _; exact Nat.le_of_eq rfl) (hb hby at_212) (fun _ _ => ⟨rfl, rfl, (by show 2 + e3 + 1 + 0 ≤ 32; omega), (by show 5 + own_G e3 + 3 + 0 ≤ 1152; omega)⟩)
  dsimp only [Pt.U, Pt.locs, Pt.cells, Pt.slots] at X90 l90 y90 z90 st90 hQ90
  subst l90 y90 z90
  obtain ⟨rfl, Nq90, K90, V90⟩ := hQ90
  have E_s_90 : Exa Z T90.heap ob "com/example/earmark/earmark/ledger/PositionSet" := E_s_87.keep K90
  have Fc_90 : Fld Z T90.heap ob "com/example/earmark/earmark/ledger/PositionSet" "counts" "[I" (.ref ta) := Fc_87.keep K90 (ninS ne_ob_mm nin0)
  have Fk_90 : Fld Z T90.heap ob "com/example/earmark/earmark/ledger/PositionSet" "capacity" "I" (.int (Int32.ofNat (2 ^ e3))) := Fk_87.keep K90 (ninS ne_ob_mm nin0)
  have Fz_90 : Fld Z T90.heap ob "com/example/earmark/earmark/ledger/PositionSet" "size" "I" (.int (Int32.ofNat S4.length)) := Fz_87.keep K90 (ninS ne_ob_mm nin0)
  have Va_90 : Arv Z T90.heap ta k0 .int (Int32.ofNat (2 ^ e3 + 1)) (own_tab f (2 ^ e3 + 1)) (.int (0 : Int32)) := Va_87.keep K90 (ninS ne_ta_mm nin0)
  have Z90 : n0 ≤ T90.heap.size := Nat.le_trans Z87 K90.1
  have N90 := Fr.app N87 Nq90
  have pre91 := fun τ (κ : Steps p.tables e below (T90.setTop (mkF m 215 #[.val (.int p0), .val (.int p1), .val (.int p2), .val (.int p3), .val (.int (Int32.ofNat A)), .val (.int (Int32.ofNat B)), .val (.int (Int32.ofNat C)), .val (.int rA), .val (.int hB), .val (.int hC), .val (.ref ob), .val (.ref mm), .val (.int (Int32.ofNat n3)), .unset] [])) τ) => pre89 τ (st90 _ κ)
  have M2 := own_O3 1 2 M1
  have pre92 := fun τ (κ : Steps p.tables e below (T90.setTop (mkF m 219 #[.val (.int p0), .val (.int p1), .val (.int p2), .val (.int p3), .val (.int (Int32.ofNat A)), .val (.int (Int32.ofNat B)), .val (.int (Int32.ofNat C)), .val (.int rA), .val (.int hB), .val (.int hC), .val (.ref ob), .val (.ref mm), .val (.int (Int32.ofNat n3)), .unset] [(.int (1 : Int32)), (.int (0 : Int32)), (.ref mm)])) τ) => pre91 τ (by
    refine XS.aload X90.here hx rfl (hb hby at_215) rfl rfl ?_
    show Steps p.tables e below (T90.setTop (mkF m 217 #[.val (.int p0), .val (.int p1), .val (.int p2), .val (.int p3), .val (.int (Int32.ofNat A)), .val (.int (Int32.ofNat B)), .val (.int (Int32.ofNat C)), .val (.int rA), .val (.int hB), .val (.int hC), .val (.ref ob), .val (.ref mm), .val (.int (Int32.ofNat n3)), .unset] [(.ref mm)])) _
    refine XS.iconst X90.here hx rfl (hb hby at_217) ?_
    show Steps p.tables e below (T90.setTop (mkF m 218 #[.val (.int p0), .val (.int p1), .val (.int p2), .val (.int p3), .val (.int (Int32.ofNat A)), .val (.int (Int32.ofNat B)), .val (.int (Int32.ofNat C)), .val (.int rA), .val (.int hB), .val (.int hC), .val (.ref ob), .val (.ref mm), .val (.int (Int32.ofNat n3)), .unset] [(.int (0 : Int32)), (.ref mm)])) _
    refine XS.iconst X90.here hx rfl (hb hby at_218) ?_
    show Steps p.tables e below (T90.setTop (mkF m 219 #[.val (.int p0), .val (.int p1), .val (.int p2), .val (.int p3), .val (.int (Int32.ofNat A)), .val (.int (Int32.ofNat B)), .val (.int (Int32.ofNat C)), .val (.int rA), .val (.int hB), .val (.int hC), .val (.ref ob), .val (.ref mm), .val (.int (Int32.ofNat n3)), .unset] [(.int (1 : Int32)), (.int (0 : Int32)), (.ref mm)])) _
    exact κ)
  obtain ⟨_, _, ⟨T93, L93, k93, n93⟩, -, X93, ⟨Lc93, hQ93, l93, y93, z93⟩, st93⟩ := Jvm.LawKit.callS X90 hx (y := (⟨"com/example/earmark/earmark/ledger/PositionSetPositionPinLaw", "order", "([III)V"⟩ : MethodName)) hown (mvT hZ (hw _ (List.mem_of_getElem? (i := 47) rfl))) (mvT hZ (hw _ (List.mem_of_getElem? (i := 48) rfl))) (mvT hZ (hw _ (List.mem_of_getElem? (i := 49) rfl))) (mvT hZ (hw _ (List.mem_of_getElem? (i := 50) rfl))) (by decide) (backOf (W := 0) (rm9 l Z a0 hw [] mm 0 1 k45 (own_ord 1 2 (own_ord 0 1 [x, y, z])) T90.heap n0 Z90 V90 (by decide) (by decide) (by simp [own_ord_len]) (own_B3 M2 _) (own_B3 M2 _) g_mm) hZ (hw _ (List.mem_of_getElem? (i := 50) rfl)) (hw _ (List.mem_of_getElem? (i := 49) rfl)) (Nat.le_of_ble_eq_true rfl) (Nat.le_of_ble_eq_true rfl)) (g := (mkF m 219 #[.val (.int p0), .val (.int p1), .val (.int p2), .val (.int p3), .val (.int (Int32.ofNat A)), .val (.int (Int32.ofNat B)), .val (.int (Int32.ofNat C)), .val (.int rA), .val (.int hB), .val (.int hC), .val (.ref ob), .val (.ref mm), .val (.int (Int32.ofNat n3)), .unset] [(.int (1 : Int32)), (.int (0 : Int32)), (.ref mm)])) rfl (by rw [hml]; rfl) (argsL := [(.ref mm), (.int (0 : Int32)), (.int (1 : Int32))]) (rest := []) (lenOf pd_5 rfl) rfl (by show 2 * 0 + _ ≤ _; exact Nat.le_of_eq rfl) (hb hby at_219) (fun _ _ => ⟨rfl, rfl, (by show 2 + e3 + 1 + 0 ≤ 32; omega), (by show 5 + own_G e3 + 3 + 0 ≤ 1152; omega)⟩)
  dsimp only [Pt.U, Pt.locs, Pt.cells, Pt.slots] at X93 l93 y93 z93 st93 hQ93
  subst l93 y93 z93
  obtain ⟨rfl, Nq93, K93, V93⟩ := hQ93
  have E_s_93 : Exa Z T93.heap ob "com/example/earmark/earmark/ledger/PositionSet" := E_s_90.keep K93
  have Fc_93 : Fld Z T93.heap ob "com/example/earmark/earmark/ledger/PositionSet" "counts" "[I" (.ref ta) := Fc_90.keep K93 (ninS ne_ob_mm nin0)
  have Fk_93 : Fld Z T93.heap ob "com/example/earmark/earmark/ledger/PositionSet" "capacity" "I" (.int (Int32.ofNat (2 ^ e3))) := Fk_90.keep K93 (ninS ne_ob_mm nin0)
  have Fz_93 : Fld Z T93.heap ob "com/example/earmark/earmark/ledger/PositionSet" "size" "I" (.int (Int32.ofNat S4.length)) := Fz_90.keep K93 (ninS ne_ob_mm nin0)
  have Va_93 : Arv Z T93.heap ta k0 .int (Int32.ofNat (2 ^ e3 + 1)) (own_tab f (2 ^ e3 + 1)) (.int (0 : Int32)) := Va_90.keep K93 (ninS ne_ta_mm nin0)
  have Z93 : n0 ≤ T93.heap.size := Nat.le_trans Z90 K93.1
  have N93 := Fr.app N90 Nq93
  have pre94 := fun τ (κ : Steps p.tables e below (T93.setTop (mkF m 222 #[.val (.int p0), .val (.int p1), .val (.int p2), .val (.int p3), .val (.int (Int32.ofNat A)), .val (.int (Int32.ofNat B)), .val (.int (Int32.ofNat C)), .val (.int rA), .val (.int hB), .val (.int hC), .val (.ref ob), .val (.ref mm), .val (.int (Int32.ofNat n3)), .unset] [])) τ) => pre92 τ (st93 _ κ)
  have M3 := own_O3 0 1 M2
  rw [hsort] at V93
  rw [hsort] at M3
  have pre95 := fun τ (κ : Steps p.tables e below (T93.setTop (mkF m 224 #[.val (.int p0), .val (.int p1), .val (.int p2), .val (.int p3), .val (.int (Int32.ofNat A)), .val (.int (Int32.ofNat B)), .val (.int (Int32.ofNat C)), .val (.int rA), .val (.int hB), .val (.int hC), .val (.ref ob), .val (.ref mm), .val (.int (Int32.ofNat n3)), .unset] [(.ref ob)])) τ) => pre94 τ (by
    refine XS.aload X93.here hx rfl (hb hby at_222) rfl rfl ?_
    show Steps p.tables e below (T93.setTop (mkF m 224 #[.val (.int p0), .val (.int p1), .val (.int p2), .val (.int p3), .val (.int (Int32.ofNat A)), .val (.int (Int32.ofNat B)), .val (.int (Int32.ofNat C)), .val (.int rA), .val (.int hB), .val (.int hC), .val (.ref ob), .val (.ref mm), .val (.int (Int32.ofNat n3)), .unset] [(.ref ob)])) _
    exact κ)
  obtain ⟨cq96, kq96, q96a, q96b, q96c⟩ := isOf hZ rfl E_s_93
  obtain ⟨_, _, ⟨T96, L96, k96, n96⟩, -, X96, ⟨Lc96, hQ96, l96, y96, z96⟩, st96⟩ := X93.virtualBack hx (y := (⟨"com/example/earmark/earmark/ledger/PositionSet", "size", "()I"⟩ : MethodName)) (z := (⟨"com/example/earmark/earmark/ledger/PositionSet", "size", "()I"⟩ : MethodName)) hown (mvT hZ (hw _ (List.mem_of_getElem? (i := 51) rfl))) (mvT hZ (hw _ (List.mem_of_getElem? (i := 52) rfl))) (notFace_of_selects (args := #[]) (mvT hZ (hw _ (List.mem_of_getElem? (i := 54) rfl)))) (mvT hZ (hw _ (List.mem_of_getElem? (i := 54) rfl))) (mvT hZ (hw _ (List.mem_of_getElem? (i := 53) rfl))) (by decide) (backOf (W := 0) (rm10 l Z a0 hw [] ob e3 S4 T93.heap n0 Z93 ⟨ta, k0, f, E_s_93, Fc_93, Fk_93, Fz_93, Va_93, hf, hS, he8, gs, gt, hst⟩) hZ (hw _ (List.mem_of_getElem? (i := 55) rfl)) (hw _ (List.mem_of_getElem? (i := 2) rfl)) (Nat.le_of_ble_eq_true rfl) (Nat.le_of_ble_eq_true rfl)) q96a q96c (g := (mkF m 224 #[.val (.int p0), .val (.int p1), .val (.int p2), .val (.int p3), .val (.int (Int32.ofNat A)), .val (.int (Int32.ofNat B)), .val (.int (Int32.ofNat C)), .val (.int rA), .val (.int hB), .val (.int hC), .val (.ref ob), .val (.ref mm), .val (.int (Int32.ofNat n3)), .unset] [(.ref ob)])) rfl (by rw [hml]; rfl) (Steps.refl _) (argsL := []) (rest := []) (lenOf pd_6 rfl) rfl (by show 2 * 0 + _ ≤ _; exact Nat.le_of_eq rfl) (hb hby at_224) (fun _ _ => ⟨rfl, rfl, (by show 2 + e3 + 1 + 0 ≤ 32; omega), (by show 5 + own_G e3 + 3 + 0 ≤ 1152; omega)⟩)
  dsimp only [Pt.U, Pt.locs, Pt.cells, Pt.slots] at X96 l96 y96 z96 st96 hQ96
  subst l96 y96 z96
  obtain ⟨rfl, Nq96, hh96⟩ := hQ96
  have E_s_96 : Exa Z T96.heap ob "com/example/earmark/earmark/ledger/PositionSet" := by rw [hh96]; exact E_s_93
  have Fc_96 : Fld Z T96.heap ob "com/example/earmark/earmark/ledger/PositionSet" "counts" "[I" (.ref ta) := by rw [hh96]; exact Fc_93
  have Fk_96 : Fld Z T96.heap ob "com/example/earmark/earmark/ledger/PositionSet" "capacity" "I" (.int (Int32.ofNat (2 ^ e3))) := by rw [hh96]; exact Fk_93
  have Fz_96 : Fld Z T96.heap ob "com/example/earmark/earmark/ledger/PositionSet" "size" "I" (.int (Int32.ofNat S4.length)) := by rw [hh96]; exact Fz_93
  have Va_96 : Arv Z T96.heap ta k0 .int (Int32.ofNat (2 ^ e3 + 1)) (own_tab f (2 ^ e3 + 1)) (.int (0 : Int32)) := by rw [hh96]; exact Va_93
  have V93_96 : Arv Z T96.heap mm k45 .int (3 : Int32) (own_nl [a, b, d]) (.int (0 : Int32)) := by rw [hh96]; exact V93
  have Z96 : n0 ≤ T96.heap.size := by rw [hh96]; exact Z93
  have N96 := Fr.app N93 Nq96
  have pre97 := fun τ (κ : Steps p.tables e below (T96.setTop (mkF m 227 #[.val (.int p0), .val (.int p1), .val (.int p2), .val (.int p3), .val (.int (Int32.ofNat A)), .val (.int (Int32.ofNat B)), .val (.int (Int32.ofNat C)), .val (.int rA), .val (.int hB), .val (.int hC), .val (.ref ob), .val (.ref mm), .val (.int (Int32.ofNat n3)), .unset] [(.int (Int32.ofNat S4.length))])) τ) => pre95 τ (st96.trans κ)
  have pre98 := fun τ (κ : Steps p.tables e below (T96.setTop (mkF m 241 #[.val (.int p0), .val (.int p1), .val (.int p2), .val (.int p3), .val (.int (Int32.ofNat A)), .val (.int (Int32.ofNat B)), .val (.int (Int32.ofNat C)), .val (.int rA), .val (.int hB), .val (.int hC), .val (.ref ob), .val (.ref mm), .val (.int (Int32.ofNat n3)), .val (.int (1 : Int32))] [(.int (Int32.ofNat n3))])) τ) => pre97 τ (by
    refine XS.iload X96.here hx rfl (hb hby at_227) rfl ?_
    show Steps p.tables e below (T96.setTop (mkF m 229 #[.val (.int p0), .val (.int p1), .val (.int p2), .val (.int p3), .val (.int (Int32.ofNat A)), .val (.int (Int32.ofNat B)), .val (.int (Int32.ofNat C)), .val (.int rA), .val (.int hB), .val (.int hC), .val (.ref ob), .val (.ref mm), .val (.int (Int32.ofNat n3)), .unset] [(.int (Int32.ofNat n3)), (.int (Int32.ofNat S4.length))])) _
    refine XS.icmpNo X96.here hx rfl (hb hby at_229) rfl (teq (by rw [hlen])).2 ?_
    show Steps p.tables e below (T96.setTop (mkF m 232 #[.val (.int p0), .val (.int p1), .val (.int p2), .val (.int p3), .val (.int (Int32.ofNat A)), .val (.int (Int32.ofNat B)), .val (.int (Int32.ofNat C)), .val (.int rA), .val (.int hB), .val (.int hC), .val (.ref ob), .val (.ref mm), .val (.int (Int32.ofNat n3)), .unset] [])) _
    refine XS.iconst X96.here hx rfl (hb hby at_232) ?_
    show Steps p.tables e below (T96.setTop (mkF m 233 #[.val (.int p0), .val (.int p1), .val (.int p2), .val (.int p3), .val (.int (Int32.ofNat A)), .val (.int (Int32.ofNat B)), .val (.int (Int32.ofNat C)), .val (.int rA), .val (.int hB), .val (.int hC), .val (.ref ob), .val (.ref mm), .val (.int (Int32.ofNat n3)), .unset] [(.int (1 : Int32))])) _
    refine XS.goto X96.here hx rfl (pc0 := 233) (pc' := 237) rfl (hb hby at_233) (by decide) (by decide) ?_
    show Steps p.tables e below (T96.setTop (mkF m 237 #[.val (.int p0), .val (.int p1), .val (.int p2), .val (.int p3), .val (.int (Int32.ofNat A)), .val (.int (Int32.ofNat B)), .val (.int (Int32.ofNat C)), .val (.int rA), .val (.int hB), .val (.int hC), .val (.ref ob), .val (.ref mm), .val (.int (Int32.ofNat n3)), .unset] [(.int (1 : Int32))])) _
    refine XS.istore X96.here hx rfl (hb hby at_237) rfl (l' := #[.val (.int p0), .val (.int p1), .val (.int p2), .val (.int p3), .val (.int (Int32.ofNat A)), .val (.int (Int32.ofNat B)), .val (.int (Int32.ofNat C)), .val (.int rA), .val (.int hB), .val (.int hC), .val (.ref ob), .val (.ref mm), .val (.int (Int32.ofNat n3)), .val (.int (1 : Int32))]) rfl ?_
    show Steps p.tables e below (T96.setTop (mkF m 239 #[.val (.int p0), .val (.int p1), .val (.int p2), .val (.int p3), .val (.int (Int32.ofNat A)), .val (.int (Int32.ofNat B)), .val (.int (Int32.ofNat C)), .val (.int rA), .val (.int hB), .val (.int hC), .val (.ref ob), .val (.ref mm), .val (.int (Int32.ofNat n3)), .val (.int (1 : Int32))] [])) _
    refine XS.iload X96.here hx rfl (hb hby at_239) rfl ?_
    show Steps p.tables e below (T96.setTop (mkF m 241 #[.val (.int p0), .val (.int p1), .val (.int p2), .val (.int p3), .val (.int (Int32.ofNat A)), .val (.int (Int32.ofNat B)), .val (.int (Int32.ofNat C)), .val (.int rA), .val (.int hB), .val (.int hC), .val (.ref ob), .val (.ref mm), .val (.int (Int32.ofNat n3)), .val (.int (1 : Int32))] [(.int (Int32.ofNat n3))])) _
    exact κ)
  obtain ⟨T99, h99, lo99, X99, e99, N99, Z99, E_s_99, Fc_99, Fk_99, Fz_99, Va_99, V93_99, pre99⟩ : ∃ (T99 : State) (h99 : Heap) (lo99 : List Loc), Stand p l e room_1 s m #[(.int p0), (.int p1), (.int p2), (.int p3)] below meth c T99 lo99 ((2 + e3 + 1)) ((5 + own_G e3 + 3)) ∧ T99.heap = h99 ∧ Fr n0 lo99 ∧ n0 ≤ h99.size ∧ (Exa Z h99 ob "com/example/earmark/earmark/ledger/PositionSet") ∧ (Fld Z h99 ob "com/example/earmark/earmark/ledger/PositionSet" "counts" "[I" (.ref ta)) ∧ (Fld Z h99 ob "com/example/earmark/earmark/ledger/PositionSet" "capacity" "I" (.int (Int32.ofNat (2 ^ e3)))) ∧ (Fld Z h99 ob "com/example/earmark/earmark/ledger/PositionSet" "size" "I" (.int (Int32.ofNat S4.length))) ∧ (Arv Z h99 ta k0 .int (Int32.ofNat (2 ^ e3 + 1)) (own_tab f (2 ^ e3 + 1)) (.int (0 : Int32))) ∧ (Arv Z h99 mm k45 .int (3 : Int32) (own_nl [a, b, d]) (.int (0 : Int32))) ∧ ∀ τ, Steps p.tables e below (T99.setTop (mkF m 269 #[.val (.int p0), .val (.int p1), .val (.int p2), .val (.int p3), .val (.int (Int32.ofNat A)), .val (.int (Int32.ofNat B)), .val (.int (Int32.ofNat C)), .val (.int rA), .val (.int hB), .val (.int hC), .val (.ref ob), .val (.ref mm), .val (.int (Int32.ofNat n3)), .val (.int (1 : Int32))] [])) τ → Steps p.tables e below (s₁.setTop (entryFrame m #[(.int p0), (.int p1), (.int p2), (.int p3)] maxLocals)) τ := by
    by_cases qq : (0 : Int32) < (Int32.ofNat n3)
    · have hin : 0 < n3 := (own_ltN (i := 0) (by omega) (by omega)).mp qq
      have pre100 := fun τ (κ : Steps p.tables e below (T96.setTop (mkF m 252 #[.val (.int p0), .val (.int p1), .val (.int p2), .val (.int p3), .val (.int (Int32.ofNat A)), .val (.int (Int32.ofNat B)), .val (.int (Int32.ofNat C)), .val (.int rA), .val (.int hB), .val (.int hC), .val (.ref ob), .val (.ref mm), .val (.int (Int32.ofNat n3)), .val (.int (1 : Int32))] [(.int (0 : Int32)), (.ref ob)])) τ) => pre98 τ (by
        refine XS.ifNo X96.here hx rfl (hb hby at_241) rfl ((if0 _ _).trans (tlt qq).2.2.2) ?_
        show Steps p.tables e below (T96.setTop (mkF m 244 #[.val (.int p0), .val (.int p1), .val (.int p2), .val (.int p3), .val (.int (Int32.ofNat A)), .val (.int (Int32.ofNat B)), .val (.int (Int32.ofNat C)), .val (.int rA), .val (.int hB), .val (.int hC), .val (.ref ob), .val (.ref mm), .val (.int (Int32.ofNat n3)), .val (.int (1 : Int32))] [])) _
        refine XS.iload X96.here hx rfl (hb hby at_244) rfl ?_
        show Steps p.tables e below (T96.setTop (mkF m 246 #[.val (.int p0), .val (.int p1), .val (.int p2), .val (.int p3), .val (.int (Int32.ofNat A)), .val (.int (Int32.ofNat B)), .val (.int (Int32.ofNat C)), .val (.int rA), .val (.int hB), .val (.int hC), .val (.ref ob), .val (.ref mm), .val (.int (Int32.ofNat n3)), .val (.int (1 : Int32))] [(.int (1 : Int32))])) _
        refine XS.ifNo X96.here hx rfl (hb hby at_246) rfl ((if0 _ _).trans (feq (by decide)).1) ?_
        show Steps p.tables e below (T96.setTop (mkF m 249 #[.val (.int p0), .val (.int p1), .val (.int p2), .val (.int p3), .val (.int (Int32.ofNat A)), .val (.int (Int32.ofNat B)), .val (.int (Int32.ofNat C)), .val (.int rA), .val (.int hB), .val (.int hC), .val (.ref ob), .val (.ref mm), .val (.int (Int32.ofNat n3)), .val (.int (1 : Int32))] [])) _
        refine XS.aload X96.here hx rfl (hb hby at_249) rfl rfl ?_
        show Steps p.tables e below (T96.setTop (mkF m 251 #[.val (.int p0), .val (.int p1), .val (.int p2), .val (.int p3), .val (.int (Int32.ofNat A)), .val (.int (Int32.ofNat B)), .val (.int (Int32.ofNat C)), .val (.int rA), .val (.int hB), .val (.int hC), .val (.ref ob), .val (.ref mm), .val (.int (Int32.ofNat n3)), .val (.int (1 : Int32))] [(.ref ob)])) _
        refine XS.iconst X96.here hx rfl (hb hby at_251) ?_
        show Steps p.tables e below (T96.setTop (mkF m 252 #[.val (.int p0), .val (.int p1), .val (.int p2), .val (.int p3), .val (.int (Int32.ofNat A)), .val (.int (Int32.ofNat B)), .val (.int (Int32.ofNat C)), .val (.int rA), .val (.int hB), .val (.int hC), .val (.ref ob), .val (.ref mm), .val (.int (Int32.ofNat n3)), .val (.int (1 : Int32))] [(.int (0 : Int32)), (.ref ob)])) _
        exact κ)
      obtain ⟨cq101, kq101, q101a, q101b, q101c⟩ := isOf hZ rfl E_s_96
      obtain ⟨_, _, ⟨T101, L101, k101, n101⟩, -, X101, ⟨Lc101, hQ101, l101, y101, z101⟩, st101⟩ := X96.virtualBack hx (y := (⟨"com/example/earmark/earmark/ledger/PositionSet", "position", "(I)I"⟩ : MethodName)) (z := (⟨"com/example/earmark/earmark/ledger/PositionSet", "position", "(I)I"⟩ : MethodName)) hown (mvT hZ (hw _ (List.mem_of_getElem? (i := 56) rfl))) (mvT hZ (hw _ (List.mem_of_getElem? (i := 57) rfl))) (notFace_of_selects (args := #[]) (mvT hZ (hw _ (List.mem_of_getElem? (i := 59) rfl)))) (mvT hZ (hw _ (List.mem_of_getElem? (i := 59) rfl))) (mvT hZ (hw _ (List.mem_of_getElem? (i := 58) rfl))) (by decide) (backOf (W := 0) (rm11 l Z a0 hw [] ob 0 e3 S4 T96.heap n0 Z96 ⟨ta, k0, f, E_s_96, Fc_96, Fk_96, Fz_96, Va_96, hf, hS, he8, gs, gt, hst⟩ (by omega) (by omega)) hZ (hw _ (List.mem_of_getElem? (i := 60) rfl)) (hw _ (List.mem_of_getElem? (i := 2) rfl)) (Nat.le_of_ble_eq_true rfl) (Nat.le_of_ble_eq_true rfl)) q101a q101c (g := (mkF m 252 #[.val (.int p0), .val (.int p1), .val (.int p2), .val (.int p3), .val (.int (Int32.ofNat A)), .val (.int (Int32.ofNat B)), .val (.int (Int32.ofNat C)), .val (.int rA), .val (.int hB), .val (.int hC), .val (.ref ob), .val (.ref mm), .val (.int (Int32.ofNat n3)), .val (.int (1 : Int32))] [(.int (0 : Int32)), (.ref ob)])) rfl (by rw [hml]; rfl) (Steps.refl _) (argsL := [(.int (0 : Int32))]) (rest := []) (lenOf pd_7 rfl) rfl (by show 2 * 0 + _ ≤ _; exact Nat.le_of_eq rfl) (hb hby at_252) (fun _ _ => ⟨rfl, rfl, (by show 2 + e3 + 1 + 0 ≤ 32; omega), (by show 5 + own_G e3 + 3 + 0 ≤ 1152; omega)⟩)
      dsimp only [Pt.U, Pt.locs, Pt.cells, Pt.slots] at X101 l101 y101 z101 st101 hQ101
      subst l101 y101 z101
      obtain ⟨q9, rfl, Nq101, hh101, r0, r1, r2⟩ := hQ101
      have E_s_101 : Exa Z T101.heap ob "com/example/earmark/earmark/ledger/PositionSet" := by rw [hh101]; exact E_s_96
      have Fc_101 : Fld Z T101.heap ob "com/example/earmark/earmark/ledger/PositionSet" "counts" "[I" (.ref ta) := by rw [hh101]; exact Fc_96
      have Fk_101 : Fld Z T101.heap ob "com/example/earmark/earmark/ledger/PositionSet" "capacity" "I" (.int (Int32.ofNat (2 ^ e3))) := by rw [hh101]; exact Fk_96
      have Fz_101 : Fld Z T101.heap ob "com/example/earmark/earmark/ledger/PositionSet" "size" "I" (.int (Int32.ofNat S4.length)) := by rw [hh101]; exact Fz_96
      have Va_101 : Arv Z T101.heap ta k0 .int (Int32.ofNat (2 ^ e3 + 1)) (own_tab f (2 ^ e3 + 1)) (.int (0 : Int32)) := by rw [hh101]; exact Va_96
      have V93_101 : Arv Z T101.heap mm k45 .int (3 : Int32) (own_nl [a, b, d]) (.int (0 : Int32)) := by rw [hh101]; exact V93_96
      have Z101 : n0 ≤ T101.heap.size := by rw [hh101]; exact Z96
      have N101 := Fr.app N96 Nq101
      have pre102 := fun τ (κ : Steps p.tables e below (T101.setTop (mkF m 255 #[.val (.int p0), .val (.int p1), .val (.int p2), .val (.int p3), .val (.int (Int32.ofNat A)), .val (.int (Int32.ofNat B)), .val (.int (Int32.ofNat C)), .val (.int rA), .val (.int hB), .val (.int hC), .val (.ref ob), .val (.ref mm), .val (.int (Int32.ofNat n3)), .val (.int (1 : Int32))] [(.int (Int32.ofNat q9))])) τ) => pre100 τ (st101.trans κ)
      have hq9 := own_find hab hbd (fun q hq => (hcnt q hq).trans (hsum q)) (by decide) r0 r1 r2
      have pre103 := fun τ (κ : Steps p.tables e below (T101.setTop (mkF m 258 #[.val (.int p0), .val (.int p1), .val (.int p2), .val (.int p3), .val (.int (Int32.ofNat A)), .val (.int (Int32.ofNat B)), .val (.int (Int32.ofNat C)), .val (.int rA), .val (.int hB), .val (.int hC), .val (.ref ob), .val (.ref mm), .val (.int (Int32.ofNat n3)), .val (.int (1 : Int32))] [(.int (0 : Int32)), (.ref mm), (.int (Int32.ofNat q9))])) τ) => pre102 τ (by
        refine XS.aload X101.here hx rfl (hb hby at_255) rfl rfl ?_
        show Steps p.tables e below (T101.setTop (mkF m 257 #[.val (.int p0), .val (.int p1), .val (.int p2), .val (.int p3), .val (.int (Int32.ofNat A)), .val (.int (Int32.ofNat B)), .val (.int (Int32.ofNat C)), .val (.int rA), .val (.int hB), .val (.int hC), .val (.ref ob), .val (.ref mm), .val (.int (Int32.ofNat n3)), .val (.int (1 : Int32))] [(.ref mm), (.int (Int32.ofNat q9))])) _
        refine XS.iconst X101.here hx rfl (hb hby at_257) ?_
        show Steps p.tables e below (T101.setTop (mkF m 258 #[.val (.int p0), .val (.int p1), .val (.int p2), .val (.int p3), .val (.int (Int32.ofNat A)), .val (.int (Int32.ofNat B)), .val (.int (Int32.ofNat C)), .val (.int rA), .val (.int hB), .val (.int hC), .val (.ref ob), .val (.ref mm), .val (.int (Int32.ofNat n3)), .val (.int (1 : Int32))] [(.int (0 : Int32)), (.ref mm), (.int (Int32.ofNat q9))])) _
        exact κ)
      obtain ⟨cl104, Ar104, -, S104, M104, H104, -⟩ := id V93_101
      have in104 : ¬ ((0 : Int32) < 0 ∨ cl104.slots.size ≤ ((0 : Int32)).toNatClampNeg) := inb_of S104 ⟨by decide, by decide⟩
      have at104 : cl104.slots[((0 : Int32)).toNatClampNeg]? = some (.int (Int32.ofNat a)) := H104.at in104 rfl
      have pre105 := fun τ (κ : Steps p.tables e below (T101.setTop (mkF m 269 #[.val (.int p0), .val (.int p1), .val (.int p2), .val (.int p3), .val (.int (Int32.ofNat A)), .val (.int (Int32.ofNat B)), .val (.int (Int32.ofNat C)), .val (.int rA), .val (.int hB), .val (.int hC), .val (.ref ob), .val (.ref mm), .val (.int (Int32.ofNat n3)), .val (.int (1 : Int32))] [])) τ) => pre103 τ (by
        refine X101.iaload hx (j := (0 : Int32)) (v := (.int (Int32.ofNat a))) Ar104.1 (State.isArrayOf_alike hZ.alike Ar104.2.1) Ar104.2.2 in104 at104 (g := (mkF m 258 #[.val (.int p0), .val (.int p1), .val (.int p2), .val (.int p3), .val (.int (Int32.ofNat A)), .val (.int (Int32.ofNat B)), .val (.int (Int32.ofNat C)), .val (.int rA), .val (.int hB), .val (.int hC), .val (.ref ob), .val (.ref mm), .val (.int (Int32.ofNat n3)), .val (.int (1 : Int32))] [(.int (0 : Int32)), (.ref mm), (.int (Int32.ofNat q9))])) rfl rfl (hb hby at_258) _ ?_
        show Steps p.tables e below (T101.setTop (mkF m 259 #[.val (.int p0), .val (.int p1), .val (.int p2), .val (.int p3), .val (.int (Int32.ofNat A)), .val (.int (Int32.ofNat B)), .val (.int (Int32.ofNat C)), .val (.int rA), .val (.int hB), .val (.int hC), .val (.ref ob), .val (.ref mm), .val (.int (Int32.ofNat n3)), .val (.int (1 : Int32))] [(.int (Int32.ofNat a)), (.int (Int32.ofNat q9))])) _
        refine XS.icmpNo X101.here hx rfl (hb hby at_259) rfl (teq (by rw [hq9]; rfl)).2 ?_
        show Steps p.tables e below (T101.setTop (mkF m 262 #[.val (.int p0), .val (.int p1), .val (.int p2), .val (.int p3), .val (.int (Int32.ofNat A)), .val (.int (Int32.ofNat B)), .val (.int (Int32.ofNat C)), .val (.int rA), .val (.int hB), .val (.int hC), .val (.ref ob), .val (.ref mm), .val (.int (Int32.ofNat n3)), .val (.int (1 : Int32))] [])) _
        refine XS.iconst X101.here hx rfl (hb hby at_262) ?_
        show Steps p.tables e below (T101.setTop (mkF m 263 #[.val (.int p0), .val (.int p1), .val (.int p2), .val (.int p3), .val (.int (Int32.ofNat A)), .val (.int (Int32.ofNat B)), .val (.int (Int32.ofNat C)), .val (.int rA), .val (.int hB), .val (.int hC), .val (.ref ob), .val (.ref mm), .val (.int (Int32.ofNat n3)), .val (.int (1 : Int32))] [(.int (1 : Int32))])) _
        refine XS.goto X101.here hx rfl (pc0 := 263) (pc' := 267) rfl (hb hby at_263) (by decide) (by decide) ?_
        show Steps p.tables e below (T101.setTop (mkF m 267 #[.val (.int p0), .val (.int p1), .val (.int p2), .val (.int p3), .val (.int (Int32.ofNat A)), .val (.int (Int32.ofNat B)), .val (.int (Int32.ofNat C)), .val (.int rA), .val (.int hB), .val (.int hC), .val (.ref ob), .val (.ref mm), .val (.int (Int32.ofNat n3)), .val (.int (1 : Int32))] [(.int (1 : Int32))])) _
        refine XS.istore X101.here hx rfl (hb hby at_267) rfl (l' := #[.val (.int p0), .val (.int p1), .val (.int p2), .val (.int p3), .val (.int (Int32.ofNat A)), .val (.int (Int32.ofNat B)), .val (.int (Int32.ofNat C)), .val (.int rA), .val (.int hB), .val (.int hC), .val (.ref ob), .val (.ref mm), .val (.int (Int32.ofNat n3)), .val (.int (1 : Int32))]) rfl ?_
        show Steps p.tables e below (T101.setTop (mkF m 269 #[.val (.int p0), .val (.int p1), .val (.int p2), .val (.int p3), .val (.int (Int32.ofNat A)), .val (.int (Int32.ofNat B)), .val (.int (Int32.ofNat C)), .val (.int rA), .val (.int hB), .val (.int hC), .val (.ref ob), .val (.ref mm), .val (.int (Int32.ofNat n3)), .val (.int (1 : Int32))] [])) _
        exact κ)
      exact ⟨T101, T101.heap, _, X101, rfl, N101, Z101, E_s_101, Fc_101, Fk_101, Fz_101, Va_101, V93_101, pre105⟩
    · have pre106 := fun τ (κ : Steps p.tables e below (T96.setTop (mkF m 269 #[.val (.int p0), .val (.int p1), .val (.int p2), .val (.int p3), .val (.int (Int32.ofNat A)), .val (.int (Int32.ofNat B)), .val (.int (Int32.ofNat C)), .val (.int rA), .val (.int hB), .val (.int hC), .val (.ref ob), .val (.ref mm), .val (.int (Int32.ofNat n3)), .val (.int (1 : Int32))] [])) τ) => pre98 τ (by
        refine XS.ifYes X96.here hx rfl (pc0 := 241) (pc' := 269) rfl (hb hby at_241) rfl ((if0 _ _).trans (flt qq).2.2.2) (by decide) (by decide) ?_
        show Steps p.tables e below (T96.setTop (mkF m 269 #[.val (.int p0), .val (.int p1), .val (.int p2), .val (.int p3), .val (.int (Int32.ofNat A)), .val (.int (Int32.ofNat B)), .val (.int (Int32.ofNat C)), .val (.int rA), .val (.int hB), .val (.int hC), .val (.ref ob), .val (.ref mm), .val (.int (Int32.ofNat n3)), .val (.int (1 : Int32))] [])) _
        exact κ)
      exact ⟨T96, T96.heap, _, X96, rfl, N96, Z96, E_s_96, Fc_96, Fk_96, Fz_96, Va_96, V93_96, pre106⟩
  have pre107 := fun τ (κ : Steps p.tables e below (T99.setTop (mkF m 272 #[.val (.int p0), .val (.int p1), .val (.int p2), .val (.int p3), .val (.int (Int32.ofNat A)), .val (.int (Int32.ofNat B)), .val (.int (Int32.ofNat C)), .val (.int rA), .val (.int hB), .val (.int hC), .val (.ref ob), .val (.ref mm), .val (.int (Int32.ofNat n3)), .val (.int (1 : Int32))] [(.int (1 : Int32)), (.int (Int32.ofNat n3))])) τ) => pre99 τ (by
    refine XS.iload X99.here hx rfl (hb hby at_269) rfl ?_
    show Steps p.tables e below (T99.setTop (mkF m 271 #[.val (.int p0), .val (.int p1), .val (.int p2), .val (.int p3), .val (.int (Int32.ofNat A)), .val (.int (Int32.ofNat B)), .val (.int (Int32.ofNat C)), .val (.int rA), .val (.int hB), .val (.int hC), .val (.ref ob), .val (.ref mm), .val (.int (Int32.ofNat n3)), .val (.int (1 : Int32))] [(.int (Int32.ofNat n3))])) _
    refine XS.iconst X99.here hx rfl (hb hby at_271) ?_
    show Steps p.tables e below (T99.setTop (mkF m 272 #[.val (.int p0), .val (.int p1), .val (.int p2), .val (.int p3), .val (.int (Int32.ofNat A)), .val (.int (Int32.ofNat B)), .val (.int (Int32.ofNat C)), .val (.int rA), .val (.int hB), .val (.int hC), .val (.ref ob), .val (.ref mm), .val (.int (Int32.ofNat n3)), .val (.int (1 : Int32))] [(.int (1 : Int32)), (.int (Int32.ofNat n3))])) _
    exact κ)
  obtain ⟨T108, h108, lo108, X108, e108, N108, Z108, E_s_108, Fc_108, Fk_108, Fz_108, Va_108, V93_108, pre108⟩ : ∃ (T108 : State) (h108 : Heap) (lo108 : List Loc), Stand p l e room_1 s m #[(.int p0), (.int p1), (.int p2), (.int p3)] below meth c T108 lo108 ((2 + e3 + 1)) ((5 + own_G e3 + 3)) ∧ T108.heap = h108 ∧ Fr n0 lo108 ∧ n0 ≤ h108.size ∧ (Exa Z h108 ob "com/example/earmark/earmark/ledger/PositionSet") ∧ (Fld Z h108 ob "com/example/earmark/earmark/ledger/PositionSet" "counts" "[I" (.ref ta)) ∧ (Fld Z h108 ob "com/example/earmark/earmark/ledger/PositionSet" "capacity" "I" (.int (Int32.ofNat (2 ^ e3)))) ∧ (Fld Z h108 ob "com/example/earmark/earmark/ledger/PositionSet" "size" "I" (.int (Int32.ofNat S4.length))) ∧ (Arv Z h108 ta k0 .int (Int32.ofNat (2 ^ e3 + 1)) (own_tab f (2 ^ e3 + 1)) (.int (0 : Int32))) ∧ (Arv Z h108 mm k45 .int (3 : Int32) (own_nl [a, b, d]) (.int (0 : Int32))) ∧ ∀ τ, Steps p.tables e below (T108.setTop (mkF m 300 #[.val (.int p0), .val (.int p1), .val (.int p2), .val (.int p3), .val (.int (Int32.ofNat A)), .val (.int (Int32.ofNat B)), .val (.int (Int32.ofNat C)), .val (.int rA), .val (.int hB), .val (.int hC), .val (.ref ob), .val (.ref mm), .val (.int (Int32.ofNat n3)), .val (.int (1 : Int32))] [])) τ → Steps p.tables e below (s₁.setTop (entryFrame m #[(.int p0), (.int p1), (.int p2), (.int p3)] maxLocals)) τ := by
    by_cases qq : (1 : Int32) < (Int32.ofNat n3)
    · have hin : 1 < n3 := (own_ltN (i := 1) (by omega) (by omega)).mp qq
      have pre109 := fun τ (κ : Steps p.tables e below (T99.setTop (mkF m 283 #[.val (.int p0), .val (.int p1), .val (.int p2), .val (.int p3), .val (.int (Int32.ofNat A)), .val (.int (Int32.ofNat B)), .val (.int (Int32.ofNat C)), .val (.int rA), .val (.int hB), .val (.int hC), .val (.ref ob), .val (.ref mm), .val (.int (Int32.ofNat n3)), .val (.int (1 : Int32))] [(.int (1 : Int32)), (.ref ob)])) τ) => pre107 τ (by
        refine XS.icmpNo X99.here hx rfl (hb hby at_272) rfl (tlt qq).2.2.2 ?_
        show Steps p.tables e below (T99.setTop (mkF m 275 #[.val (.int p0), .val (.int p1), .val (.int p2), .val (.int p3), .val (.int (Int32.ofNat A)), .val (.int (Int32.ofNat B)), .val (.int (Int32.ofNat C)), .val (.int rA), .val (.int hB), .val (.int hC), .val (.ref ob), .val (.ref mm), .val (.int (Int32.ofNat n3)), .val (.int (1 : Int32))] [])) _
        refine XS.iload X99.here hx rfl (hb hby at_275) rfl ?_
        show Steps p.tables e below (T99.setTop (mkF m 277 #[.val (.int p0), .val (.int p1), .val (.int p2), .val (.int p3), .val (.int (Int32.ofNat A)), .val (.int (Int32.ofNat B)), .val (.int (Int32.ofNat C)), .val (.int rA), .val (.int hB), .val (.int hC), .val (.ref ob), .val (.ref mm), .val (.int (Int32.ofNat n3)), .val (.int (1 : Int32))] [(.int (1 : Int32))])) _
        refine XS.ifNo X99.here hx rfl (hb hby at_277) rfl ((if0 _ _).trans (feq (by decide)).1) ?_
        show Steps p.tables e below (T99.setTop (mkF m 280 #[.val (.int p0), .val (.int p1), .val (.int p2), .val (.int p3), .val (.int (Int32.ofNat A)), .val (.int (Int32.ofNat B)), .val (.int (Int32.ofNat C)), .val (.int rA), .val (.int hB), .val (.int hC), .val (.ref ob), .val (.ref mm), .val (.int (Int32.ofNat n3)), .val (.int (1 : Int32))] [])) _
        refine XS.aload X99.here hx rfl (hb hby at_280) rfl rfl ?_
        show Steps p.tables e below (T99.setTop (mkF m 282 #[.val (.int p0), .val (.int p1), .val (.int p2), .val (.int p3), .val (.int (Int32.ofNat A)), .val (.int (Int32.ofNat B)), .val (.int (Int32.ofNat C)), .val (.int rA), .val (.int hB), .val (.int hC), .val (.ref ob), .val (.ref mm), .val (.int (Int32.ofNat n3)), .val (.int (1 : Int32))] [(.ref ob)])) _
        refine XS.iconst X99.here hx rfl (hb hby at_282) ?_
        show Steps p.tables e below (T99.setTop (mkF m 283 #[.val (.int p0), .val (.int p1), .val (.int p2), .val (.int p3), .val (.int (Int32.ofNat A)), .val (.int (Int32.ofNat B)), .val (.int (Int32.ofNat C)), .val (.int rA), .val (.int hB), .val (.int hC), .val (.ref ob), .val (.ref mm), .val (.int (Int32.ofNat n3)), .val (.int (1 : Int32))] [(.int (1 : Int32)), (.ref ob)])) _
        exact κ)
      obtain ⟨cq110, kq110, q110a, q110b, q110c⟩ := isOf hZ e99 E_s_99
      obtain ⟨_, _, ⟨T110, L110, k110, n110⟩, -, X110, ⟨Lc110, hQ110, l110, y110, z110⟩, st110⟩ := X99.virtualBack hx (y := (⟨"com/example/earmark/earmark/ledger/PositionSet", "position", "(I)I"⟩ : MethodName)) (z := (⟨"com/example/earmark/earmark/ledger/PositionSet", "position", "(I)I"⟩ : MethodName)) hown (mvT hZ (hw _ (List.mem_of_getElem? (i := 56) rfl))) (mvT hZ (hw _ (List.mem_of_getElem? (i := 57) rfl))) (notFace_of_selects (args := #[]) (mvT hZ (hw _ (List.mem_of_getElem? (i := 59) rfl)))) (mvT hZ (hw _ (List.mem_of_getElem? (i := 59) rfl))) (mvT hZ (hw _ (List.mem_of_getElem? (i := 58) rfl))) (by decide) (backOf (W := 0) (rm11 l Z a0 hw [] ob 1 e3 S4 h99 n0 Z99 ⟨ta, k0, f, E_s_99, Fc_99, Fk_99, Fz_99, Va_99, hf, hS, he8, gs, gt, hst⟩ (by omega) (by omega)) hZ (hw _ (List.mem_of_getElem? (i := 60) rfl)) (hw _ (List.mem_of_getElem? (i := 2) rfl)) (Nat.le_of_ble_eq_true rfl) (Nat.le_of_ble_eq_true rfl)) q110a q110c (g := (mkF m 283 #[.val (.int p0), .val (.int p1), .val (.int p2), .val (.int p3), .val (.int (Int32.ofNat A)), .val (.int (Int32.ofNat B)), .val (.int (Int32.ofNat C)), .val (.int rA), .val (.int hB), .val (.int hC), .val (.ref ob), .val (.ref mm), .val (.int (Int32.ofNat n3)), .val (.int (1 : Int32))] [(.int (1 : Int32)), (.ref ob)])) rfl (by rw [hml]; rfl) (Steps.refl _) (argsL := [(.int (1 : Int32))]) (rest := []) (lenOf pd_7 rfl) rfl (by show 2 * 0 + _ ≤ _; exact Nat.le_of_eq rfl) (hb hby at_283) (fun _ _ => ⟨rfl, e99, (by show 2 + e3 + 1 + 0 ≤ 32; omega), (by show 5 + own_G e3 + 3 + 0 ≤ 1152; omega)⟩)
      dsimp only [Pt.U, Pt.locs, Pt.cells, Pt.slots] at X110 l110 y110 z110 st110 hQ110
      subst l110 y110 z110
      obtain ⟨q9, rfl, Nq110, hh110, r0, r1, r2⟩ := hQ110
      have E_s_110 : Exa Z T110.heap ob "com/example/earmark/earmark/ledger/PositionSet" := by rw [hh110]; exact E_s_99
      have Fc_110 : Fld Z T110.heap ob "com/example/earmark/earmark/ledger/PositionSet" "counts" "[I" (.ref ta) := by rw [hh110]; exact Fc_99
      have Fk_110 : Fld Z T110.heap ob "com/example/earmark/earmark/ledger/PositionSet" "capacity" "I" (.int (Int32.ofNat (2 ^ e3))) := by rw [hh110]; exact Fk_99
      have Fz_110 : Fld Z T110.heap ob "com/example/earmark/earmark/ledger/PositionSet" "size" "I" (.int (Int32.ofNat S4.length)) := by rw [hh110]; exact Fz_99
      have Va_110 : Arv Z T110.heap ta k0 .int (Int32.ofNat (2 ^ e3 + 1)) (own_tab f (2 ^ e3 + 1)) (.int (0 : Int32)) := by rw [hh110]; exact Va_99
      have V93_110 : Arv Z T110.heap mm k45 .int (3 : Int32) (own_nl [a, b, d]) (.int (0 : Int32)) := by rw [hh110]; exact V93_99
      have Z110 : n0 ≤ T110.heap.size := by rw [hh110]; exact Z99
      have N110 := Fr.app N99 Nq110
      have pre111 := fun τ (κ : Steps p.tables e below (T110.setTop (mkF m 286 #[.val (.int p0), .val (.int p1), .val (.int p2), .val (.int p3), .val (.int (Int32.ofNat A)), .val (.int (Int32.ofNat B)), .val (.int (Int32.ofNat C)), .val (.int rA), .val (.int hB), .val (.int hC), .val (.ref ob), .val (.ref mm), .val (.int (Int32.ofNat n3)), .val (.int (1 : Int32))] [(.int (Int32.ofNat q9))])) τ) => pre109 τ (st110.trans κ)
      have hq9 := own_find hab hbd (fun q hq => (hcnt q hq).trans (hsum q)) (by decide) r0 r1 r2
      have pre112 := fun τ (κ : Steps p.tables e below (T110.setTop (mkF m 289 #[.val (.int p0), .val (.int p1), .val (.int p2), .val (.int p3), .val (.int (Int32.ofNat A)), .val (.int (Int32.ofNat B)), .val (.int (Int32.ofNat C)), .val (.int rA), .val (.int hB), .val (.int hC), .val (.ref ob), .val (.ref mm), .val (.int (Int32.ofNat n3)), .val (.int (1 : Int32))] [(.int (1 : Int32)), (.ref mm), (.int (Int32.ofNat q9))])) τ) => pre111 τ (by
        refine XS.aload X110.here hx rfl (hb hby at_286) rfl rfl ?_
        show Steps p.tables e below (T110.setTop (mkF m 288 #[.val (.int p0), .val (.int p1), .val (.int p2), .val (.int p3), .val (.int (Int32.ofNat A)), .val (.int (Int32.ofNat B)), .val (.int (Int32.ofNat C)), .val (.int rA), .val (.int hB), .val (.int hC), .val (.ref ob), .val (.ref mm), .val (.int (Int32.ofNat n3)), .val (.int (1 : Int32))] [(.ref mm), (.int (Int32.ofNat q9))])) _
        refine XS.iconst X110.here hx rfl (hb hby at_288) ?_
        show Steps p.tables e below (T110.setTop (mkF m 289 #[.val (.int p0), .val (.int p1), .val (.int p2), .val (.int p3), .val (.int (Int32.ofNat A)), .val (.int (Int32.ofNat B)), .val (.int (Int32.ofNat C)), .val (.int rA), .val (.int hB), .val (.int hC), .val (.ref ob), .val (.ref mm), .val (.int (Int32.ofNat n3)), .val (.int (1 : Int32))] [(.int (1 : Int32)), (.ref mm), (.int (Int32.ofNat q9))])) _
        exact κ)
      obtain ⟨cl113, Ar113, -, S113, M113, H113, -⟩ := id V93_110
      have in113 : ¬ ((1 : Int32) < 0 ∨ cl113.slots.size ≤ ((1 : Int32)).toNatClampNeg) := inb_of S113 ⟨by decide, by decide⟩
      have at113 : cl113.slots[((1 : Int32)).toNatClampNeg]? = some (.int (Int32.ofNat b)) := H113.at in113 rfl
      have pre114 := fun τ (κ : Steps p.tables e below (T110.setTop (mkF m 300 #[.val (.int p0), .val (.int p1), .val (.int p2), .val (.int p3), .val (.int (Int32.ofNat A)), .val (.int (Int32.ofNat B)), .val (.int (Int32.ofNat C)), .val (.int rA), .val (.int hB), .val (.int hC), .val (.ref ob), .val (.ref mm), .val (.int (Int32.ofNat n3)), .val (.int (1 : Int32))] [])) τ) => pre112 τ (by
        refine X110.iaload hx (j := (1 : Int32)) (v := (.int (Int32.ofNat b))) Ar113.1 (State.isArrayOf_alike hZ.alike Ar113.2.1) Ar113.2.2 in113 at113 (g := (mkF m 289 #[.val (.int p0), .val (.int p1), .val (.int p2), .val (.int p3), .val (.int (Int32.ofNat A)), .val (.int (Int32.ofNat B)), .val (.int (Int32.ofNat C)), .val (.int rA), .val (.int hB), .val (.int hC), .val (.ref ob), .val (.ref mm), .val (.int (Int32.ofNat n3)), .val (.int (1 : Int32))] [(.int (1 : Int32)), (.ref mm), (.int (Int32.ofNat q9))])) rfl rfl (hb hby at_289) _ ?_
        show Steps p.tables e below (T110.setTop (mkF m 290 #[.val (.int p0), .val (.int p1), .val (.int p2), .val (.int p3), .val (.int (Int32.ofNat A)), .val (.int (Int32.ofNat B)), .val (.int (Int32.ofNat C)), .val (.int rA), .val (.int hB), .val (.int hC), .val (.ref ob), .val (.ref mm), .val (.int (Int32.ofNat n3)), .val (.int (1 : Int32))] [(.int (Int32.ofNat b)), (.int (Int32.ofNat q9))])) _
        refine XS.icmpNo X110.here hx rfl (hb hby at_290) rfl (teq (by rw [hq9]; rfl)).2 ?_
        show Steps p.tables e below (T110.setTop (mkF m 293 #[.val (.int p0), .val (.int p1), .val (.int p2), .val (.int p3), .val (.int (Int32.ofNat A)), .val (.int (Int32.ofNat B)), .val (.int (Int32.ofNat C)), .val (.int rA), .val (.int hB), .val (.int hC), .val (.ref ob), .val (.ref mm), .val (.int (Int32.ofNat n3)), .val (.int (1 : Int32))] [])) _
        refine XS.iconst X110.here hx rfl (hb hby at_293) ?_
        show Steps p.tables e below (T110.setTop (mkF m 294 #[.val (.int p0), .val (.int p1), .val (.int p2), .val (.int p3), .val (.int (Int32.ofNat A)), .val (.int (Int32.ofNat B)), .val (.int (Int32.ofNat C)), .val (.int rA), .val (.int hB), .val (.int hC), .val (.ref ob), .val (.ref mm), .val (.int (Int32.ofNat n3)), .val (.int (1 : Int32))] [(.int (1 : Int32))])) _
        refine XS.goto X110.here hx rfl (pc0 := 294) (pc' := 298) rfl (hb hby at_294) (by decide) (by decide) ?_
        show Steps p.tables e below (T110.setTop (mkF m 298 #[.val (.int p0), .val (.int p1), .val (.int p2), .val (.int p3), .val (.int (Int32.ofNat A)), .val (.int (Int32.ofNat B)), .val (.int (Int32.ofNat C)), .val (.int rA), .val (.int hB), .val (.int hC), .val (.ref ob), .val (.ref mm), .val (.int (Int32.ofNat n3)), .val (.int (1 : Int32))] [(.int (1 : Int32))])) _
        refine XS.istore X110.here hx rfl (hb hby at_298) rfl (l' := #[.val (.int p0), .val (.int p1), .val (.int p2), .val (.int p3), .val (.int (Int32.ofNat A)), .val (.int (Int32.ofNat B)), .val (.int (Int32.ofNat C)), .val (.int rA), .val (.int hB), .val (.int hC), .val (.ref ob), .val (.ref mm), .val (.int (Int32.ofNat n3)), .val (.int (1 : Int32))]) rfl ?_
        show Steps p.tables e below (T110.setTop (mkF m 300 #[.val (.int p0), .val (.int p1), .val (.int p2), .val (.int p3), .val (.int (Int32.ofNat A)), .val (.int (Int32.ofNat B)), .val (.int (Int32.ofNat C)), .val (.int rA), .val (.int hB), .val (.int hC), .val (.ref ob), .val (.ref mm), .val (.int (Int32.ofNat n3)), .val (.int (1 : Int32))] [])) _
        exact κ)
      exact ⟨T110, T110.heap, _, X110, rfl, N110, Z110, E_s_110, Fc_110, Fk_110, Fz_110, Va_110, V93_110, pre114⟩
    · have pre115 := fun τ (κ : Steps p.tables e below (T99.setTop (mkF m 300 #[.val (.int p0), .val (.int p1), .val (.int p2), .val (.int p3), .val (.int (Int32.ofNat A)), .val (.int (Int32.ofNat B)), .val (.int (Int32.ofNat C)), .val (.int rA), .val (.int hB), .val (.int hC), .val (.ref ob), .val (.ref mm), .val (.int (Int32.ofNat n3)), .val (.int (1 : Int32))] [])) τ) => pre107 τ (by
        refine XS.icmpYes X99.here hx rfl (pc0 := 272) (pc' := 300) rfl (hb hby at_272) rfl (flt qq).2.2.2 (by decide) (by decide) ?_
        show Steps p.tables e below (T99.setTop (mkF m 300 #[.val (.int p0), .val (.int p1), .val (.int p2), .val (.int p3), .val (.int (Int32.ofNat A)), .val (.int (Int32.ofNat B)), .val (.int (Int32.ofNat C)), .val (.int rA), .val (.int hB), .val (.int hC), .val (.ref ob), .val (.ref mm), .val (.int (Int32.ofNat n3)), .val (.int (1 : Int32))] [])) _
        exact κ)
      exact ⟨T99, h99, _, X99, e99, N99, Z99, E_s_99, Fc_99, Fk_99, Fz_99, Va_99, V93_99, pre115⟩
  have pre116 := fun τ (κ : Steps p.tables e below (T108.setTop (mkF m 303 #[.val (.int p0), .val (.int p1), .val (.int p2), .val (.int p3), .val (.int (Int32.ofNat A)), .val (.int (Int32.ofNat B)), .val (.int (Int32.ofNat C)), .val (.int rA), .val (.int hB), .val (.int hC), .val (.ref ob), .val (.ref mm), .val (.int (Int32.ofNat n3)), .val (.int (1 : Int32))] [(.int (2 : Int32)), (.int (Int32.ofNat n3))])) τ) => pre108 τ (by
    refine XS.iload X108.here hx rfl (hb hby at_300) rfl ?_
    show Steps p.tables e below (T108.setTop (mkF m 302 #[.val (.int p0), .val (.int p1), .val (.int p2), .val (.int p3), .val (.int (Int32.ofNat A)), .val (.int (Int32.ofNat B)), .val (.int (Int32.ofNat C)), .val (.int rA), .val (.int hB), .val (.int hC), .val (.ref ob), .val (.ref mm), .val (.int (Int32.ofNat n3)), .val (.int (1 : Int32))] [(.int (Int32.ofNat n3))])) _
    refine XS.iconst X108.here hx rfl (hb hby at_302) ?_
    show Steps p.tables e below (T108.setTop (mkF m 303 #[.val (.int p0), .val (.int p1), .val (.int p2), .val (.int p3), .val (.int (Int32.ofNat A)), .val (.int (Int32.ofNat B)), .val (.int (Int32.ofNat C)), .val (.int rA), .val (.int hB), .val (.int hC), .val (.ref ob), .val (.ref mm), .val (.int (Int32.ofNat n3)), .val (.int (1 : Int32))] [(.int (2 : Int32)), (.int (Int32.ofNat n3))])) _
    exact κ)
  obtain ⟨T117, h117, lo117, X117, e117, N117, Z117, E_s_117, Fc_117, Fk_117, Fz_117, Va_117, V93_117, pre117⟩ : ∃ (T117 : State) (h117 : Heap) (lo117 : List Loc), Stand p l e room_1 s m #[(.int p0), (.int p1), (.int p2), (.int p3)] below meth c T117 lo117 ((2 + e3 + 1)) ((5 + own_G e3 + 3)) ∧ T117.heap = h117 ∧ Fr n0 lo117 ∧ n0 ≤ h117.size ∧ (Exa Z h117 ob "com/example/earmark/earmark/ledger/PositionSet") ∧ (Fld Z h117 ob "com/example/earmark/earmark/ledger/PositionSet" "counts" "[I" (.ref ta)) ∧ (Fld Z h117 ob "com/example/earmark/earmark/ledger/PositionSet" "capacity" "I" (.int (Int32.ofNat (2 ^ e3)))) ∧ (Fld Z h117 ob "com/example/earmark/earmark/ledger/PositionSet" "size" "I" (.int (Int32.ofNat S4.length))) ∧ (Arv Z h117 ta k0 .int (Int32.ofNat (2 ^ e3 + 1)) (own_tab f (2 ^ e3 + 1)) (.int (0 : Int32))) ∧ (Arv Z h117 mm k45 .int (3 : Int32) (own_nl [a, b, d]) (.int (0 : Int32))) ∧ ∀ τ, Steps p.tables e below (T117.setTop (mkF m 331 #[.val (.int p0), .val (.int p1), .val (.int p2), .val (.int p3), .val (.int (Int32.ofNat A)), .val (.int (Int32.ofNat B)), .val (.int (Int32.ofNat C)), .val (.int rA), .val (.int hB), .val (.int hC), .val (.ref ob), .val (.ref mm), .val (.int (Int32.ofNat n3)), .val (.int (1 : Int32))] [])) τ → Steps p.tables e below (s₁.setTop (entryFrame m #[(.int p0), (.int p1), (.int p2), (.int p3)] maxLocals)) τ := by
    by_cases qq : (2 : Int32) < (Int32.ofNat n3)
    · have hin : 2 < n3 := (own_ltN (i := 2) (by omega) (by omega)).mp qq
      have pre118 := fun τ (κ : Steps p.tables e below (T108.setTop (mkF m 314 #[.val (.int p0), .val (.int p1), .val (.int p2), .val (.int p3), .val (.int (Int32.ofNat A)), .val (.int (Int32.ofNat B)), .val (.int (Int32.ofNat C)), .val (.int rA), .val (.int hB), .val (.int hC), .val (.ref ob), .val (.ref mm), .val (.int (Int32.ofNat n3)), .val (.int (1 : Int32))] [(.int (2 : Int32)), (.ref ob)])) τ) => pre116 τ (by
        refine XS.icmpNo X108.here hx rfl (hb hby at_303) rfl (tlt qq).2.2.2 ?_
        show Steps p.tables e below (T108.setTop (mkF m 306 #[.val (.int p0), .val (.int p1), .val (.int p2), .val (.int p3), .val (.int (Int32.ofNat A)), .val (.int (Int32.ofNat B)), .val (.int (Int32.ofNat C)), .val (.int rA), .val (.int hB), .val (.int hC), .val (.ref ob), .val (.ref mm), .val (.int (Int32.ofNat n3)), .val (.int (1 : Int32))] [])) _
        refine XS.iload X108.here hx rfl (hb hby at_306) rfl ?_
        show Steps p.tables e below (T108.setTop (mkF m 308 #[.val (.int p0), .val (.int p1), .val (.int p2), .val (.int p3), .val (.int (Int32.ofNat A)), .val (.int (Int32.ofNat B)), .val (.int (Int32.ofNat C)), .val (.int rA), .val (.int hB), .val (.int hC), .val (.ref ob), .val (.ref mm), .val (.int (Int32.ofNat n3)), .val (.int (1 : Int32))] [(.int (1 : Int32))])) _
        refine XS.ifNo X108.here hx rfl (hb hby at_308) rfl ((if0 _ _).trans (feq (by decide)).1) ?_
        show Steps p.tables e below (T108.setTop (mkF m 311 #[.val (.int p0), .val (.int p1), .val (.int p2), .val (.int p3), .val (.int (Int32.ofNat A)), .val (.int (Int32.ofNat B)), .val (.int (Int32.ofNat C)), .val (.int rA), .val (.int hB), .val (.int hC), .val (.ref ob), .val (.ref mm), .val (.int (Int32.ofNat n3)), .val (.int (1 : Int32))] [])) _
        refine XS.aload X108.here hx rfl (hb hby at_311) rfl rfl ?_
        show Steps p.tables e below (T108.setTop (mkF m 313 #[.val (.int p0), .val (.int p1), .val (.int p2), .val (.int p3), .val (.int (Int32.ofNat A)), .val (.int (Int32.ofNat B)), .val (.int (Int32.ofNat C)), .val (.int rA), .val (.int hB), .val (.int hC), .val (.ref ob), .val (.ref mm), .val (.int (Int32.ofNat n3)), .val (.int (1 : Int32))] [(.ref ob)])) _
        refine XS.iconst X108.here hx rfl (hb hby at_313) ?_
        show Steps p.tables e below (T108.setTop (mkF m 314 #[.val (.int p0), .val (.int p1), .val (.int p2), .val (.int p3), .val (.int (Int32.ofNat A)), .val (.int (Int32.ofNat B)), .val (.int (Int32.ofNat C)), .val (.int rA), .val (.int hB), .val (.int hC), .val (.ref ob), .val (.ref mm), .val (.int (Int32.ofNat n3)), .val (.int (1 : Int32))] [(.int (2 : Int32)), (.ref ob)])) _
        exact κ)
      obtain ⟨cq119, kq119, q119a, q119b, q119c⟩ := isOf hZ e108 E_s_108
      obtain ⟨_, _, ⟨T119, L119, k119, n119⟩, -, X119, ⟨Lc119, hQ119, l119, y119, z119⟩, st119⟩ := X108.virtualBack hx (y := (⟨"com/example/earmark/earmark/ledger/PositionSet", "position", "(I)I"⟩ : MethodName)) (z := (⟨"com/example/earmark/earmark/ledger/PositionSet", "position", "(I)I"⟩ : MethodName)) hown (mvT hZ (hw _ (List.mem_of_getElem? (i := 56) rfl))) (mvT hZ (hw _ (List.mem_of_getElem? (i := 57) rfl))) (notFace_of_selects (args := #[]) (mvT hZ (hw _ (List.mem_of_getElem? (i := 59) rfl)))) (mvT hZ (hw _ (List.mem_of_getElem? (i := 59) rfl))) (mvT hZ (hw _ (List.mem_of_getElem? (i := 58) rfl))) (by decide) (backOf (W := 0) (rm11 l Z a0 hw [] ob 2 e3 S4 h108 n0 Z108 ⟨ta, k0, f, E_s_108, Fc_108, Fk_108, Fz_108, Va_108, hf, hS, he8, gs, gt, hst⟩ (by omega) (by omega)) hZ (hw _ (List.mem_of_getElem? (i := 60) rfl)) (hw _ (List.mem_of_getElem? (i := 2) rfl)) (Nat.le_of_ble_eq_true rfl) (Nat.le_of_ble_eq_true rfl)) q119a q119c (g := (mkF m 314 #[.val (.int p0), .val (.int p1), .val (.int p2), .val (.int p3), .val (.int (Int32.ofNat A)), .val (.int (Int32.ofNat B)), .val (.int (Int32.ofNat C)), .val (.int rA), .val (.int hB), .val (.int hC), .val (.ref ob), .val (.ref mm), .val (.int (Int32.ofNat n3)), .val (.int (1 : Int32))] [(.int (2 : Int32)), (.ref ob)])) rfl (by rw [hml]; rfl) (Steps.refl _) (argsL := [(.int (2 : Int32))]) (rest := []) (lenOf pd_7 rfl) rfl (by show 2 * 0 + _ ≤ _; exact Nat.le_of_eq rfl) (hb hby at_314) (fun _ _ => ⟨rfl, e108, (by show 2 + e3 + 1 + 0 ≤ 32; omega), (by show 5 + own_G e3 + 3 + 0 ≤ 1152; omega)⟩)
      dsimp only [Pt.U, Pt.locs, Pt.cells, Pt.slots] at X119 l119 y119 z119 st119 hQ119
      subst l119 y119 z119
      obtain ⟨q9, rfl, Nq119, hh119, r0, r1, r2⟩ := hQ119
      have E_s_119 : Exa Z T119.heap ob "com/example/earmark/earmark/ledger/PositionSet" := by rw [hh119]; exact E_s_108
      have Fc_119 : Fld Z T119.heap ob "com/example/earmark/earmark/ledger/PositionSet" "counts" "[I" (.ref ta) := by rw [hh119]; exact Fc_108
      have Fk_119 : Fld Z T119.heap ob "com/example/earmark/earmark/ledger/PositionSet" "capacity" "I" (.int (Int32.ofNat (2 ^ e3))) := by rw [hh119]; exact Fk_108
      have Fz_119 : Fld Z T119.heap ob "com/example/earmark/earmark/ledger/PositionSet" "size" "I" (.int (Int32.ofNat S4.length)) := by rw [hh119]; exact Fz_108
      have Va_119 : Arv Z T119.heap ta k0 .int (Int32.ofNat (2 ^ e3 + 1)) (own_tab f (2 ^ e3 + 1)) (.int (0 : Int32)) := by rw [hh119]; exact Va_108
      have V93_119 : Arv Z T119.heap mm k45 .int (3 : Int32) (own_nl [a, b, d]) (.int (0 : Int32)) := by rw [hh119]; exact V93_108
      have Z119 : n0 ≤ T119.heap.size := by rw [hh119]; exact Z108
      have N119 := Fr.app N108 Nq119
      have pre120 := fun τ (κ : Steps p.tables e below (T119.setTop (mkF m 317 #[.val (.int p0), .val (.int p1), .val (.int p2), .val (.int p3), .val (.int (Int32.ofNat A)), .val (.int (Int32.ofNat B)), .val (.int (Int32.ofNat C)), .val (.int rA), .val (.int hB), .val (.int hC), .val (.ref ob), .val (.ref mm), .val (.int (Int32.ofNat n3)), .val (.int (1 : Int32))] [(.int (Int32.ofNat q9))])) τ) => pre118 τ (st119.trans κ)
      have hq9 := own_find hab hbd (fun q hq => (hcnt q hq).trans (hsum q)) (by decide) r0 r1 r2
      have pre121 := fun τ (κ : Steps p.tables e below (T119.setTop (mkF m 320 #[.val (.int p0), .val (.int p1), .val (.int p2), .val (.int p3), .val (.int (Int32.ofNat A)), .val (.int (Int32.ofNat B)), .val (.int (Int32.ofNat C)), .val (.int rA), .val (.int hB), .val (.int hC), .val (.ref ob), .val (.ref mm), .val (.int (Int32.ofNat n3)), .val (.int (1 : Int32))] [(.int (2 : Int32)), (.ref mm), (.int (Int32.ofNat q9))])) τ) => pre120 τ (by
        refine XS.aload X119.here hx rfl (hb hby at_317) rfl rfl ?_
        show Steps p.tables e below (T119.setTop (mkF m 319 #[.val (.int p0), .val (.int p1), .val (.int p2), .val (.int p3), .val (.int (Int32.ofNat A)), .val (.int (Int32.ofNat B)), .val (.int (Int32.ofNat C)), .val (.int rA), .val (.int hB), .val (.int hC), .val (.ref ob), .val (.ref mm), .val (.int (Int32.ofNat n3)), .val (.int (1 : Int32))] [(.ref mm), (.int (Int32.ofNat q9))])) _
        refine XS.iconst X119.here hx rfl (hb hby at_319) ?_
        show Steps p.tables e below (T119.setTop (mkF m 320 #[.val (.int p0), .val (.int p1), .val (.int p2), .val (.int p3), .val (.int (Int32.ofNat A)), .val (.int (Int32.ofNat B)), .val (.int (Int32.ofNat C)), .val (.int rA), .val (.int hB), .val (.int hC), .val (.ref ob), .val (.ref mm), .val (.int (Int32.ofNat n3)), .val (.int (1 : Int32))] [(.int (2 : Int32)), (.ref mm), (.int (Int32.ofNat q9))])) _
        exact κ)
      obtain ⟨cl122, Ar122, -, S122, M122, H122, -⟩ := id V93_119
      have in122 : ¬ ((2 : Int32) < 0 ∨ cl122.slots.size ≤ ((2 : Int32)).toNatClampNeg) := inb_of S122 ⟨by decide, by decide⟩
      have at122 : cl122.slots[((2 : Int32)).toNatClampNeg]? = some (.int (Int32.ofNat d)) := H122.at in122 rfl
      have pre123 := fun τ (κ : Steps p.tables e below (T119.setTop (mkF m 331 #[.val (.int p0), .val (.int p1), .val (.int p2), .val (.int p3), .val (.int (Int32.ofNat A)), .val (.int (Int32.ofNat B)), .val (.int (Int32.ofNat C)), .val (.int rA), .val (.int hB), .val (.int hC), .val (.ref ob), .val (.ref mm), .val (.int (Int32.ofNat n3)), .val (.int (1 : Int32))] [])) τ) => pre121 τ (by
        refine X119.iaload hx (j := (2 : Int32)) (v := (.int (Int32.ofNat d))) Ar122.1 (State.isArrayOf_alike hZ.alike Ar122.2.1) Ar122.2.2 in122 at122 (g := (mkF m 320 #[.val (.int p0), .val (.int p1), .val (.int p2), .val (.int p3), .val (.int (Int32.ofNat A)), .val (.int (Int32.ofNat B)), .val (.int (Int32.ofNat C)), .val (.int rA), .val (.int hB), .val (.int hC), .val (.ref ob), .val (.ref mm), .val (.int (Int32.ofNat n3)), .val (.int (1 : Int32))] [(.int (2 : Int32)), (.ref mm), (.int (Int32.ofNat q9))])) rfl rfl (hb hby at_320) _ ?_
        show Steps p.tables e below (T119.setTop (mkF m 321 #[.val (.int p0), .val (.int p1), .val (.int p2), .val (.int p3), .val (.int (Int32.ofNat A)), .val (.int (Int32.ofNat B)), .val (.int (Int32.ofNat C)), .val (.int rA), .val (.int hB), .val (.int hC), .val (.ref ob), .val (.ref mm), .val (.int (Int32.ofNat n3)), .val (.int (1 : Int32))] [(.int (Int32.ofNat d)), (.int (Int32.ofNat q9))])) _
        refine XS.icmpNo X119.here hx rfl (hb hby at_321) rfl (teq (by rw [hq9]; rfl)).2 ?_
        show Steps p.tables e below (T119.setTop (mkF m 324 #[.val (.int p0), .val (.int p1), .val (.int p2), .val (.int p3), .val (.int (Int32.ofNat A)), .val (.int (Int32.ofNat B)), .val (.int (Int32.ofNat C)), .val (.int rA), .val (.int hB), .val (.int hC), .val (.ref ob), .val (.ref mm), .val (.int (Int32.ofNat n3)), .val (.int (1 : Int32))] [])) _
        refine XS.iconst X119.here hx rfl (hb hby at_324) ?_
        show Steps p.tables e below (T119.setTop (mkF m 325 #[.val (.int p0), .val (.int p1), .val (.int p2), .val (.int p3), .val (.int (Int32.ofNat A)), .val (.int (Int32.ofNat B)), .val (.int (Int32.ofNat C)), .val (.int rA), .val (.int hB), .val (.int hC), .val (.ref ob), .val (.ref mm), .val (.int (Int32.ofNat n3)), .val (.int (1 : Int32))] [(.int (1 : Int32))])) _
        refine XS.goto X119.here hx rfl (pc0 := 325) (pc' := 329) rfl (hb hby at_325) (by decide) (by decide) ?_
        show Steps p.tables e below (T119.setTop (mkF m 329 #[.val (.int p0), .val (.int p1), .val (.int p2), .val (.int p3), .val (.int (Int32.ofNat A)), .val (.int (Int32.ofNat B)), .val (.int (Int32.ofNat C)), .val (.int rA), .val (.int hB), .val (.int hC), .val (.ref ob), .val (.ref mm), .val (.int (Int32.ofNat n3)), .val (.int (1 : Int32))] [(.int (1 : Int32))])) _
        refine XS.istore X119.here hx rfl (hb hby at_329) rfl (l' := #[.val (.int p0), .val (.int p1), .val (.int p2), .val (.int p3), .val (.int (Int32.ofNat A)), .val (.int (Int32.ofNat B)), .val (.int (Int32.ofNat C)), .val (.int rA), .val (.int hB), .val (.int hC), .val (.ref ob), .val (.ref mm), .val (.int (Int32.ofNat n3)), .val (.int (1 : Int32))]) rfl ?_
        show Steps p.tables e below (T119.setTop (mkF m 331 #[.val (.int p0), .val (.int p1), .val (.int p2), .val (.int p3), .val (.int (Int32.ofNat A)), .val (.int (Int32.ofNat B)), .val (.int (Int32.ofNat C)), .val (.int rA), .val (.int hB), .val (.int hC), .val (.ref ob), .val (.ref mm), .val (.int (Int32.ofNat n3)), .val (.int (1 : Int32))] [])) _
        exact κ)
      exact ⟨T119, T119.heap, _, X119, rfl, N119, Z119, E_s_119, Fc_119, Fk_119, Fz_119, Va_119, V93_119, pre123⟩
    · have pre124 := fun τ (κ : Steps p.tables e below (T108.setTop (mkF m 331 #[.val (.int p0), .val (.int p1), .val (.int p2), .val (.int p3), .val (.int (Int32.ofNat A)), .val (.int (Int32.ofNat B)), .val (.int (Int32.ofNat C)), .val (.int rA), .val (.int hB), .val (.int hC), .val (.ref ob), .val (.ref mm), .val (.int (Int32.ofNat n3)), .val (.int (1 : Int32))] [])) τ) => pre116 τ (by
        refine XS.icmpYes X108.here hx rfl (pc0 := 303) (pc' := 331) rfl (hb hby at_303) rfl (flt qq).2.2.2 (by decide) (by decide) ?_
        show Steps p.tables e below (T108.setTop (mkF m 331 #[.val (.int p0), .val (.int p1), .val (.int p2), .val (.int p3), .val (.int (Int32.ofNat A)), .val (.int (Int32.ofNat B)), .val (.int (Int32.ofNat C)), .val (.int rA), .val (.int hB), .val (.int hC), .val (.ref ob), .val (.ref mm), .val (.int (Int32.ofNat n3)), .val (.int (1 : Int32))] [])) _
        exact κ)
      exact ⟨T108, h108, _, X108, e108, N108, Z108, E_s_108, Fc_108, Fk_108, Fz_108, Va_108, V93_108, pre124⟩
  have pre125 := fun τ (κ : Steps p.tables e below (T117.setTop (mkF m 333 #[.val (.int p0), .val (.int p1), .val (.int p2), .val (.int p3), .val (.int (Int32.ofNat A)), .val (.int (Int32.ofNat B)), .val (.int (Int32.ofNat C)), .val (.int rA), .val (.int hB), .val (.int hC), .val (.ref ob), .val (.ref mm), .val (.int (Int32.ofNat n3)), .val (.int (1 : Int32))] [(.int (1 : Int32))])) τ) => pre117 τ (by
    refine XS.iload X117.here hx rfl (hb hby at_331) rfl ?_
    show Steps p.tables e below (T117.setTop (mkF m 333 #[.val (.int p0), .val (.int p1), .val (.int p2), .val (.int p3), .val (.int (Int32.ofNat A)), .val (.int (Int32.ofNat B)), .val (.int (Int32.ofNat C)), .val (.int rA), .val (.int hB), .val (.int hC), .val (.ref ob), .val (.ref mm), .val (.int (Int32.ofNat n3)), .val (.int (1 : Int32))] [(.int (1 : Int32))])) _
    exact κ)
  obtain ⟨fs, hr, hrun, hended, hW, hsame⟩ := X117.leave (v := some (.int (1 : Int32))) (fun h => by rw [Bd.returns] at h; cases h)
  refine ⟨_, _, pre125 _ ?_, hrun, hended, _, _, rfl, ?_, ⟨_, rfl⟩, hW, hsame.mono (by show 2 + e3 + 1 ≤ 32; omega) (by show 5 + own_G e3 + 3 ≤ 1152; omega)⟩
  · exact retN X117 hx (t := .boolean) Bd.returns (by simp) (hb hby at_333) hr
  · show Q0 Z p0 p1 p2 p3 h0 n0 _ T117.heap _
    rw [e117]
    exact ⟨rfl, N117⟩
set_option maxRecDepth 65536 in
set_option maxHeartbeats 40000000 in
theorem comes_1 {Post : Tables → Env → Array Value → State → Outcome → State → Prop} (hpost : ∀ tb e args s v u, (limb_1_1.after args s (.returned v) u = true ∧ limb_1_2.after args s (.returned v) u = true ∧ True) → FrameEnd s (.returned v) u (Jvm.fieldLocs frame_1_writes args s ++ Jvm.arrayLocs frame_1_arrays args s ++ Jvm.staticLocs frame_1_statics s) 32 1152 → Post tb e args s (.returned v) u) :
    ArmFor flags0 classFile x code maxLocals ret World_1 tables_1 room_1 Calls_1 rest_1 Pre_1 Post := by
  intro l hfl _ _ p e ha hc hk s m args below hf hA hF happ hP
  obtain ⟨hcalls, hrest, hpre⟩ := hP
  obtain ⟨-, -, -, hnamed, -, -, -, hat⟩ := (Spec.applies_iff hf).mp happ
  obtain ⟨hg, hn⟩ := and_e (Cond.before_iff.mp (show (Jvm.Cond.and given_1 narrow_1).before args s = true from hpre))
  obtain ⟨gc, ga⟩ := and_e hg
  obtain ⟨ga0, gr0⟩ := and_e ga
  obtain ⟨ga1, gr1⟩ := and_e gr0
  obtain ⟨ga2, gr2⟩ := and_e gr1
  obtain ⟨w0, w1, w2, w3, rfl⟩ : ∃ w0 w1 w2 w3 : Value, args = #[w0, w1, w2, w3] := by
    have hs : args.size = 4 := by simpa [Cond.value, given_1] using gc
    obtain ⟨L⟩ := args
    match L, hs with
    | [w0, w1, w2, w3], _ => exact ⟨w0, w1, w2, w3, rfl⟩
  have hw := fun d (hd : d ∈ tables_1) => atoms_spec (ws := Jvm.Cond.code x code maxLocals ret :: tables_1) hat d (List.mem_cons_of_mem _ hd)
  have hfit : Fit s := fun {y c} hc i hi => by
    obtain ⟨ha, rfl⟩ := Array.getElem?_eq_some_iff.mp hc
    have q := List.all_eq_true.mp ((Array.all_eq_true_iff_forall_mem.mp hF) _ (Array.getElem_mem ha)) i (List.mem_range.mpr hi)
    simpa [Array.getElem?_eq_getElem hi] using q
  obtain ⟨i0, ei0⟩ := is_v ga0
  obtain rfl : w0 = (.int i0) := Option.some.inj ei0
  obtain ⟨i1, ei1⟩ := is_v ga1
  obtain rfl : w1 = (.int i1) := Option.some.inj ei1
  obtain ⟨i2, ei2⟩ := is_v ga2
  obtain rfl : w2 = (.int i2) := Option.some.inj ei2
  obtain ⟨i3, ei3⟩ := is_v gr2
  obtain rfl : w3 = (.int i3) := Option.some.inj ei3
  obtain ⟨n, o, h1, h2, h3, _, L, rfl, ⟨rfl, N⟩, hq⟩ := rm0 l s _ hw tables_1 i0 i1 i2 i3 s.heap s.heap.size (Nat.le_refl _) p e ha hc hk s m _ below hf ((Spec.applies_iff_loose hf).mp happ).1 ⟨rfl, State.Warmed39.refl s, rfl⟩ trivial
  refine ⟨n, _, h1, h2, h3, hpost _ _ _ _ _ _ ⟨Cond.after_iff.mpr rfl, Cond.after_iff.mpr (eq_i res_at (Term.int_eval (1)) rfl), trivial⟩ ⟨hq.1, hq.2.1, (hq.2.2.sift fun y hy => Or.inr (N y hy)).mono (by decide) (by decide)⟩⟩
theorem main_1_1 : Claimed_1_1 := comes_1 fun _ _ _ _ _ _ h hF => ⟨h.1, hF⟩
theorem main_1_2 : Claimed_1_2 := comes_1 fun _ _ _ _ _ _ h hF => ⟨h.2.1, hF⟩
end Jvm.Pilot.@@N@@
namespace Jvm.Pilot.@@N@@
open Jvm Jvm.ClassFile Sem Op Lib Jvm.Free Jvm.Stand Jvm.Pilot.@@N@@.Jvm.D
/-! MADE BY PROGRAM (witnessworld.py) out of the Statement's table words and the real class files: 12 classes; the members and pool entries that the words name. The judged class is class 1, her method 2. -/
namespace start1
open Jvm.ClassFile
def u (s : String) : CpInfo := .utf8 (stringToUtf16 s)
/-- a pool by its gaps: so many unusable entries, then the entry; so many at the end -/
def gap : Nat → List CpInfo → List CpInfo
  | 0, r => r
  | n + 1, r => .unusable :: gap n r
def poolList (es : List (Nat × CpInfo)) (last : Nat) : List CpInfo := es.foldr (fun e r => gap e.1 (e.2 :: r)) (gap last [])
def pool (es : List (Nat × CpInfo)) (last : Nat) : Array CpInfo := ⟨poolList es last⟩
def fileOf (pool : Array CpInfo) (this : Nat) (attrs : Array Attribute := #[]) (ms : Array MethodInfo := #[]) (fl : Nat := 33) (sup : Nat := 0) (ifs : Array Nat := #[]) (fds : Array FieldInfo := #[]) : ClassFile where
  minorVersion := 0
  majorVersion := 65
  constantPool := pool
  accessFlags := fl
  thisClass := this
  superClass := sup
  interfaces := ifs
  fields := fds
  methods := ms
  attributes := attrs
def plain (name : String) (sup : Option ClassId) : Class where
  name := name
  kind := .ordinary
  loader := none
  accessFlags := 33
  super := sup
  interfaces := #[]
  cf := none
  fields := #[]
  methods := #[]
  instanceTypes := #[]
  staticTypes := #[]
  resolved := #[]
  callSites := []
  init := .initialized
  statics := none
  mirror := none

def pool0 : Array CpInfo := pool [(5, u "<init>"), (0, u "()V"), (1, .class_ 10), (1, u "java/lang/Object")] 113

def k0c0 : Code := { maxStack := 0, maxLocals := 1, code := object_method_1_code, exceptionTable := #[], attributes := #[] }
def k0m0 : Method := { name := "<init>", desc := "()V", sig := { parameters := [], returnType := none }, accessFlags := 1, code := some k0c0 }
/-- java/lang/Object -/
def k0 : Class := { plain "java/lang/Object" none with
  accessFlags := 33
  interfaces := #[]
  cf := some (fileOf pool0 8 #[] #[{ accessFlags := 1, nameIndex := 5, descriptorIndex := 6, attributes := #[] }] 33 0 #[] #[])
  fields := #[]
  methods := #[k0m0]
  instanceTypes := #[]
  staticTypes := #[]
  resolved := Array.replicate 124 none
  statics := none }

def pool1 : Array CpInfo := pool [(2, .class_ 4), (0, .nameAndType 5 6), (0, u "java/lang/Object"), (0, u "<init>"), (0, u "()V"), (0, .class_ 8), (0, u "com/example/earmark/earmark/ledger/PositionSet"), (0, .methodref 7 3), (0, .methodref 7 11), (0, .nameAndType 12 13), (0, u "add"), (0, u "(I)V"), (0, .methodref 7 15), (0, .nameAndType 16 13), (0, u "remove"), (2, .integer 2147483647), (0, .methodref 21 22), (0, .class_ 23), (0, .nameAndType 24 25), (0, u "com/example/earmark/earmark/ledger/PositionSetPositionPinLaw"), (0, u "order"), (0, u "([III)V"), (0, .methodref 7 27), (0, .nameAndType 28 29), (0, u "size"), (0, u "()I"), (0, .methodref 7 31), (0, .nameAndType 32 33), (0, u "position"), (0, u "(I)I"), (3, u "law"), (0, u "(IIII)Z")] 4

def k1m0 : Method := { name := "<init>", desc := "()V", sig := { parameters := [], returnType := none }, accessFlags := 2, code := none }
def k1c1 : Code := { maxStack := 4, maxLocals := 4, code := method_2_code, exceptionTable := #[], attributes := #[] }
def k1m1 : Method := { name := "order", desc := "([III)V", sig := { parameters := [(.array .int), .int, .int], returnType := none }, accessFlags := 10, code := some k1c1 }
def k1c2 : Code := { maxStack := 3, maxLocals := 14, code := code, exceptionTable := #[], attributes := #[] }
def k1m2 : Method := { name := "law", desc := "(IIII)Z", sig := { parameters := [.int, .int, .int, .int], returnType := some .boolean }, accessFlags := 9, code := some k1c2 }
/-- com/example/earmark/earmark/ledger/PositionSetPositionPinLaw -/
def k1 : Class := { plain "com/example/earmark/earmark/ledger/PositionSetPositionPinLaw" (some 0) with
  accessFlags := 49
  interfaces := #[]
  cf := some (fileOf pool1 21 #[] #[{ accessFlags := 2, nameIndex := 5, descriptorIndex := 6, attributes := #[] }, { accessFlags := 10, nameIndex := 24, descriptorIndex := 25, attributes := #[] }, { accessFlags := 9, nameIndex := 37, descriptorIndex := 38, attributes := #[] }] 49 2 #[] #[])
  fields := #[]
  methods := #[k1m0, k1m1, k1m2]
  instanceTypes := #[]
  staticTypes := #[]
  resolved := Array.replicate 43 none
  statics := none }

def pool2 : Array CpInfo := pool [(1, .methodref 2 3), (0, .class_ 4), (0, .nameAndType 5 6), (0, u "java/lang/Object"), (0, u "<init>"), (0, u "()V"), (0, .fieldref 8 9), (0, .class_ 10), (0, .nameAndType 11 12), (0, u "com/example/earmark/earmark/ledger/PositionSet"), (0, u "counts"), (0, u "[I"), (0, .fieldref 8 14), (0, .nameAndType 15 16), (0, u "capacity"), (0, u "I"), (0, .methodref 8 18), (0, .nameAndType 19 20), (0, u "fit"), (0, u "(I)V"), (0, .methodref 8 22), (0, .nameAndType 23 24), (0, u "change"), (0, u "(II)V"), (0, .fieldref 8 26), (0, .nameAndType 27 16), (0, u "size"), (4, .methodref 33 34), (0, .class_ 35), (0, .nameAndType 36 37), (0, u "java/util/Arrays"), (0, u "copyOf"), (0, u "([II)[I"), (11, u "(I)I"), (6, u "add"), (0, u "remove"), (4, u "()I"), (0, u "position")] 2

def k2c0 : Code := { maxStack := 2, maxLocals := 1, code := prog_101_method_1_code, exceptionTable := #[], attributes := #[] }
def k2m0 : Method := { name := "<init>", desc := "()V", sig := { parameters := [], returnType := none }, accessFlags := 0, code := some k2c0 }
def k2c1 : Code := { maxStack := 3, maxLocals := 2, code := prog_101_method_2_code, exceptionTable := #[], attributes := #[] }
def k2m1 : Method := { name := "add", desc := "(I)V", sig := { parameters := [.int], returnType := none }, accessFlags := 0, code := some k2c1 }
def k2c2 : Code := { maxStack := 3, maxLocals := 2, code := prog_101_method_3_code, exceptionTable := #[], attributes := #[] }
def k2m2 : Method := { name := "remove", desc := "(I)V", sig := { parameters := [.int], returnType := none }, accessFlags := 0, code := some k2c2 }
def k2c3 : Code := { maxStack := 1, maxLocals := 1, code := prog_101_method_6_code, exceptionTable := #[], attributes := #[] }
def k2m3 : Method := { name := "size", desc := "()I", sig := { parameters := [], returnType := some .int }, accessFlags := 0, code := some k2c3 }
def k2c4 : Code := { maxStack := 3, maxLocals := 6, code := prog_101_method_7_code, exceptionTable := #[], attributes := #[] }
def k2m4 : Method := { name := "position", desc := "(I)I", sig := { parameters := [.int], returnType := some .int }, accessFlags := 0, code := some k2c4 }
def k2c5 : Code := { maxStack := 4, maxLocals := 2, code := prog_101_method_8_code, exceptionTable := #[], attributes := #[] }
def k2m5 : Method := { name := "fit", desc := "(I)V", sig := { parameters := [.int], returnType := none }, accessFlags := 2, code := some k2c5 }
def k2c6 : Code := { maxStack := 4, maxLocals := 4, code := prog_101_method_9_code, exceptionTable := #[], attributes := #[] }
def k2m6 : Method := { name := "change", desc := "(II)V", sig := { parameters := [.int, .int], returnType := none }, accessFlags := 2, code := some k2c6 }
/-- com/example/earmark/earmark/ledger/PositionSet -/
def k2 : Class := { plain "com/example/earmark/earmark/ledger/PositionSet" (some 0) with
  accessFlags := 48
  interfaces := #[]
  cf := some (fileOf pool2 8 #[] #[{ accessFlags := 0, nameIndex := 5, descriptorIndex := 6, attributes := #[] }, { accessFlags := 0, nameIndex := 56, descriptorIndex := 20, attributes := #[] }, { accessFlags := 0, nameIndex := 57, descriptorIndex := 20, attributes := #[] }, { accessFlags := 0, nameIndex := 27, descriptorIndex := 62, attributes := #[] }, { accessFlags := 0, nameIndex := 63, descriptorIndex := 49, attributes := #[] }, { accessFlags := 2, nameIndex := 19, descriptorIndex := 20, attributes := #[] }, { accessFlags := 2, nameIndex := 23, descriptorIndex := 24, attributes := #[] }] 48 2 #[] #[{ accessFlags := 2, nameIndex := 11, descriptorIndex := 12, attributes := #[] }, { accessFlags := 2, nameIndex := 15, descriptorIndex := 16, attributes := #[] }, { accessFlags := 2, nameIndex := 27, descriptorIndex := 16, attributes := #[] }])
  fields := #[{ name := "counts", type := (.array .int), accessFlags := 2, slot := 0, constantValue := 0 }, { name := "capacity", type := .int, accessFlags := 2, slot := 1, constantValue := 0 }, { name := "size", type := .int, accessFlags := 2, slot := 2, constantValue := 0 }]
  methods := #[k2m0, k2m1, k2m2, k2m3, k2m4, k2m5, k2m6]
  instanceTypes := #[(.array .int), .int, .int]
  staticTypes := #[]
  resolved := Array.replicate 66 none
  statics := none }

def pool3 : Array CpInfo := pool [(2, .class_ 4), (1, u "java/lang/Object"), (0, u "<init>"), (0, u "()V"), (7, .class_ 16), (1, u "java/util/Arrays"), (57, .class_ 76), (1, u "java/util/Arrays$NaturalOrder"), (36, .class_ 115), (1, u "java/util/Arrays$LegacyMergeSort"), (1, u "Z"), (32, .methodref 151 152), (0, .class_ 153), (0, .nameAndType 154 155), (0, u "java/lang/System"), (0, u "arraycopy"), (0, u "(Ljava/lang/Object;ILjava/lang/Object;II)V"), (146, u "copyOf"), (1, .methodref 305 306), (0, .class_ 307), (0, .nameAndType 308 309), (0, u "java/lang/Math"), (0, u "min"), (0, u "(II)I"), (65, .class_ 376), (0, u "java/util/Arrays$ArrayList"), (68, u "$assertionsDisabled"), (269, u "MIN_ARRAY_SORT_GRAN"), (0, u "I"), (2, u "INSERTIONSORT_THRESHOLD"), (151, u "([II)[I"), (103, .class_ 976), (0, u "java/util/Arrays$ArrayItr")] 52

def k3m0 : Method := { name := "<init>", desc := "()V", sig := { parameters := [], returnType := none }, accessFlags := 2, code := none }
def k3c1 : Code := { maxStack := 6, maxLocals := 3, code := jdk_65_method_123_code, exceptionTable := #[], attributes := #[] }
def k3m1 : Method := { name := "copyOf", desc := "([II)[I", sig := { parameters := [(.array .int), .int], returnType := some (.array .int) }, accessFlags := 9, code := some k3c1 }
/-- java/util/Arrays -/
def k3 : Class := { plain "java/util/Arrays" (some 0) with
  accessFlags := 49
  interfaces := #[]
  cf := some (fileOf pool3 14 #[.nestMembers #[975, 375, 113, 74]] #[{ accessFlags := 2, nameIndex := 5, descriptorIndex := 6, attributes := #[] }, { accessFlags := 9, nameIndex := 302, descriptorIndex := 871, attributes := #[] }] 49 2 #[] #[{ accessFlags := 26, nameIndex := 715, descriptorIndex := 716, attributes := #[] }, { accessFlags := 26, nameIndex := 719, descriptorIndex := 716, attributes := #[] }, { accessFlags := 4120, nameIndex := 445, descriptorIndex := 117, attributes := #[] }])
  fields := #[{ name := "MIN_ARRAY_SORT_GRAN", type := .int, accessFlags := 26, slot := 0, constantValue := 0 }, { name := "INSERTIONSORT_THRESHOLD", type := .int, accessFlags := 26, slot := 1, constantValue := 0 }, { name := "$assertionsDisabled", type := .boolean, accessFlags := 4120, slot := 2, constantValue := 0 }]
  methods := #[k3m0, k3m1]
  instanceTypes := #[]
  staticTypes := #[.int, .int, .boolean]
  resolved := Array.replicate 1029 none
  statics := none }

def pool4 : Array CpInfo := pool [(1, .class_ 2), (0, u "java/lang/Math"), (1, .class_ 6), (1, u "java/lang/Object"), (0, u "<init>"), (0, u "()V"), (89, .class_ 100), (1, u "java/lang/Math$RandomNumberGeneratorHolder"), (71, u "negativeZeroFloatBits"), (0, u "J"), (2, u "negativeZeroDoubleBits"), (24, u "min"), (43, u "$assertionsDisabled"), (0, u "Z"), (88, u "(II)I"), (2, u "twoToTheDoubleScaleDown"), (0, u "D"), (4, u "twoToTheDoubleScaleUp"), (9, u "E"), (3, u "PI"), (2, u "TAU"), (2, u "DEGREES_TO_RADIANS"), (0, u "RADIANS_TO_DEGREES")] 94

def k4m0 : Method := { name := "<init>", desc := "()V", sig := { parameters := [], returnType := none }, accessFlags := 2, code := none }
def k4c1 : Code := { maxStack := 2, maxLocals := 2, code := jdk_29_method_69_code, exceptionTable := #[], attributes := #[] }
def k4m1 : Method := { name := "min", desc := "(II)I", sig := { parameters := [.int, .int], returnType := some .int }, accessFlags := 9, code := some k4c1 }
/-- java/lang/Math -/
def k4 : Class := { plain "java/lang/Math" (some 0) with
  accessFlags := 49
  interfaces := #[]
  cf := some (fileOf pool4 1 #[.nestMembers #[98]] #[{ accessFlags := 2, nameIndex := 7, descriptorIndex := 8, attributes := #[] }, { accessFlags := 9, nameIndex := 201, descriptorIndex := 335, attributes := #[] }] 49 4 #[] #[{ accessFlags := 25, nameIndex := 354, descriptorIndex := 339, attributes := #[] }, { accessFlags := 25, nameIndex := 358, descriptorIndex := 339, attributes := #[] }, { accessFlags := 25, nameIndex := 361, descriptorIndex := 339, attributes := #[] }, { accessFlags := 26, nameIndex := 364, descriptorIndex := 339, attributes := #[] }, { accessFlags := 26, nameIndex := 365, descriptorIndex := 339, attributes := #[] }, { accessFlags := 26, nameIndex := 172, descriptorIndex := 173, attributes := #[] }, { accessFlags := 26, nameIndex := 176, descriptorIndex := 173, attributes := #[] }, { accessFlags := 8, nameIndex := 344, descriptorIndex := 339, attributes := #[] }, { accessFlags := 8, nameIndex := 338, descriptorIndex := 339, attributes := #[] }, { accessFlags := 4120, nameIndex := 245, descriptorIndex := 246, attributes := #[] }])
  fields := #[{ name := "E", type := .double, accessFlags := 25, slot := 0, constantValue := 0 }, { name := "PI", type := .double, accessFlags := 25, slot := 1, constantValue := 0 }, { name := "TAU", type := .double, accessFlags := 25, slot := 2, constantValue := 0 }, { name := "DEGREES_TO_RADIANS", type := .double, accessFlags := 26, slot := 3, constantValue := 0 }, { name := "RADIANS_TO_DEGREES", type := .double, accessFlags := 26, slot := 4, constantValue := 0 }, { name := "negativeZeroFloatBits", type := .long, accessFlags := 26, slot := 5, constantValue := 0 }, { name := "negativeZeroDoubleBits", type := .long, accessFlags := 26, slot := 6, constantValue := 0 }, { name := "twoToTheDoubleScaleUp", type := .double, accessFlags := 8, slot := 7, constantValue := 0 }, { name := "twoToTheDoubleScaleDown", type := .double, accessFlags := 8, slot := 8, constantValue := 0 }, { name := "$assertionsDisabled", type := .boolean, accessFlags := 4120, slot := 9, constantValue := 0 }]
  methods := #[k4m0, k4m1]
  instanceTypes := #[]
  staticTypes := #[.double, .double, .double, .double, .double, .long, .long, .double, .double, .boolean]
  resolved := Array.replicate 460 none
  statics := none }

def pool5 : Array CpInfo := pool [(2, .class_ 4), (1, u "java/lang/Object"), (0, u "<init>"), (0, u "()V"), (1, .class_ 10), (1, u "java/lang/System"), (0, u "allowSecurityManager"), (0, u "I"), (16, u "cons"), (0, u "Ljava/io/Console;"), (77, .class_ 110), (1, u "java/lang/System$CallersHolder"), (43, u "initialErrStream"), (0, u "Ljava/io/PrintStream;"), (19, u "security"), (0, u "Ljava/lang/SecurityManager;"), (31, .class_ 209), (0, u "java/lang/System$1"), (7, u "props"), (0, u "Ljava/util/Properties;"), (2, u "lineSeparator"), (0, u "Ljava/lang/String;"), (96, .class_ 321), (1, u "java/lang/System$LoggerFinder"), (5, .class_ 328), (0, u "java/lang/System$Logger"), (67, u "err"), (2, u "out"), (91, u "notSupportedJnuEncoding"), (15, u "in"), (17, u "initialIn"), (0, u "Ljava/io/InputStream;"), (35, u "bootLayer"), (0, u "Ljava/lang/ModuleLayer;"), (99, .class_ 664), (0, u "java/lang/System$2"), (9, u "NEVER"), (2, u "MAYBE"), (49, u "arraycopy"), (0, u "(Ljava/lang/Object;ILjava/lang/Object;II)V"), (72, .class_ 802), (0, u "java/lang/System$Logger$Level")] 31

def k5m0 : Method := { name := "<init>", desc := "()V", sig := { parameters := [], returnType := none }, accessFlags := 2, code := none }
def k5m1 : Method := { name := "arraycopy", desc := "(Ljava/lang/Object;ILjava/lang/Object;II)V", sig := { parameters := [(.object "java/lang/Object"), .int, (.object "java/lang/Object"), .int, .int], returnType := none }, accessFlags := 265, code := none }
/-- java/lang/System -/
def k5 : Class := { plain "java/lang/System" (some 0) with
  accessFlags := 49
  interfaces := #[]
  cf := some (fileOf pool5 8 #[.nestMembers #[319, 327, 801, 108, 663, 208]] #[{ accessFlags := 2, nameIndex := 5, descriptorIndex := 6, attributes := #[] }, { accessFlags := 265, nameIndex := 727, descriptorIndex := 728, attributes := #[] }] 49 2 #[] #[{ accessFlags := 25, nameIndex := 507, descriptorIndex := 526, attributes := #[] }, { accessFlags := 25, nameIndex := 399, descriptorIndex := 155, attributes := #[] }, { accessFlags := 25, nameIndex := 396, descriptorIndex := 155, attributes := #[] }, { accessFlags := 10, nameIndex := 525, descriptorIndex := 526, attributes := #[] }, { accessFlags := 26, nameIndex := 674, descriptorIndex := 12, attributes := #[] }, { accessFlags := 26, nameIndex := 677, descriptorIndex := 12, attributes := #[] }, { accessFlags := 10, nameIndex := 11, descriptorIndex := 12, attributes := #[] }, { accessFlags := 74, nameIndex := 175, descriptorIndex := 176, attributes := #[] }, { accessFlags := 10, nameIndex := 491, descriptorIndex := 222, attributes := #[] }, { accessFlags := 74, nameIndex := 29, descriptorIndex := 30, attributes := #[] }, { accessFlags := 74, nameIndex := 154, descriptorIndex := 155, attributes := #[] }, { accessFlags := 10, nameIndex := 217, descriptorIndex := 218, attributes := #[] }, { accessFlags := 10, nameIndex := 221, descriptorIndex := 222, attributes := #[] }, { accessFlags := 8, nameIndex := 562, descriptorIndex := 563, attributes := #[] }])
  fields := #[{ name := "in", type := (.object "java/io/InputStream"), accessFlags := 25, slot := 0, constantValue := 0 }, { name := "out", type := (.object "java/io/PrintStream"), accessFlags := 25, slot := 1, constantValue := 0 }, { name := "err", type := (.object "java/io/PrintStream"), accessFlags := 25, slot := 2, constantValue := 0 }, { name := "initialIn", type := (.object "java/io/InputStream"), accessFlags := 10, slot := 3, constantValue := 0 }, { name := "NEVER", type := .int, accessFlags := 26, slot := 4, constantValue := 0 }, { name := "MAYBE", type := .int, accessFlags := 26, slot := 5, constantValue := 0 }, { name := "allowSecurityManager", type := .int, accessFlags := 10, slot := 6, constantValue := 0 }, { name := "security", type := (.object "java/lang/SecurityManager"), accessFlags := 74, slot := 7, constantValue := 0 }, { name := "notSupportedJnuEncoding", type := (.object "java/lang/String"), accessFlags := 10, slot := 8, constantValue := 0 }, { name := "cons", type := (.object "java/io/Console"), accessFlags := 74, slot := 9, constantValue := 0 }, { name := "initialErrStream", type := (.object "java/io/PrintStream"), accessFlags := 74, slot := 10, constantValue := 0 }, { name := "props", type := (.object "java/util/Properties"), accessFlags := 10, slot := 11, constantValue := 0 }, { name := "lineSeparator", type := (.object "java/lang/String"), accessFlags := 10, slot := 12, constantValue := 0 }, { name := "bootLayer", type := (.object "java/lang/ModuleLayer"), accessFlags := 8, slot := 13, constantValue := 0 }]
  methods := #[k5m0, k5m1]
  instanceTypes := #[]
  staticTypes := #[(.object "java/io/InputStream"), (.object "java/io/PrintStream"), (.object "java/io/PrintStream"), (.object "java/io/InputStream"), .int, .int, .int, (.object "java/lang/SecurityManager"), (.object "java/lang/String"), (.object "java/io/Console"), (.object "java/io/PrintStream"), (.object "java/util/Properties"), (.object "java/lang/String"), (.object "java/lang/ModuleLayer")]
  resolved := Array.replicate 834 none
  statics := none }

def pool6 : Array CpInfo := pool [(1, u "java/lang/Cloneable"), (0, .class_ 1), (0, u "java/lang/Object"), (0, .class_ 3)] 3

/-- java/lang/Cloneable -/
def k6 : Class := { plain "java/lang/Cloneable" (some 0) with
  accessFlags := 1537
  interfaces := #[]
  cf := some (fileOf pool6 2 #[] #[] 1537 4 #[] #[])
  fields := #[]
  methods := #[]
  instanceTypes := #[]
  staticTypes := #[]
  resolved := Array.replicate 8 none
  statics := none }

def pool7 : Array CpInfo := pool [(1, u "java/io/Serializable"), (0, .class_ 1), (0, u "java/lang/Object"), (0, .class_ 3)] 3

/-- java/io/Serializable -/
def k7 : Class := { plain "java/io/Serializable" (some 0) with
  accessFlags := 1537
  interfaces := #[]
  cf := some (fileOf pool7 2 #[] #[] 1537 4 #[] #[])
  fields := #[]
  methods := #[]
  instanceTypes := #[]
  staticTypes := #[]
  resolved := Array.replicate 8 none
  statics := none }

/-- the primitive byte -/
def k8 : Class := { plain "byte" none with kind := .primitive 'B', accessFlags := 0x411 }
/-- [B -/
def k9 : Class := { plain "[B" (some 0) with kind := .array 8 .byte, interfaces := #[6, 7], accessFlags := 1041 }

/-- the primitive int -/
def k10 : Class := { plain "int" none with kind := .primitive 'I', accessFlags := 0x411 }
/-- [I -/
def k11 : Class := { plain "[I" (some 0) with kind := .array 10 .int, interfaces := #[6, 7], accessFlags := 1041 }

def heap : Heap := #[]
def classes : Array Class := #[k0, k1, k2, k3, k4, k5, k6, k7, k8, k9, k10, k11]
def interned : List (Array UInt16 × Addr) := []
def slotsUsed : Nat := 0
def theMethod : MethodId := ⟨1, 2⟩
def args0 : Array Value := #[.int 5, .int 3, .int 2, .int 1]
def aboutOver (below : List Frame) : State where
  vm := { classes := classes, interned := interned.toArray }
  heap := heap
  slotsUsed := slotsUsed
  threads := #[{ frames := .invoking theMethod args0 :: below }]
def below0 : List Frame := [.native { method := ⟨0, 0⟩, args := #[] }]
def about1 : State := aboutOver below0
def p0 : Program := .bare "" "" ""
def e0 : Env := launch0.env 0 0 0
theorem w_frames : about1.frames = Frame.invoking theMethod args0 :: below0 := rfl
set_option maxRecDepth 65536 in
theorem w_args : argsFit about1.vm theMethod args0 = true := by decide +kernel
set_option maxRecDepth 65536 in
theorem w_heap : heapFits about1 = true := by decide +kernel
set_option maxRecDepth 65536 in
theorem w_runnable : about1.curStatus? = some .runnable := by decide +kernel
set_option maxRecDepth 65536 in
theorem w_alone : about1.alone = true := by decide +kernel
set_option maxRecDepth 65536 in
theorem w_named : about1.methodNamed? x = some theMethod := by decide +kernel
set_option maxRecDepth 65536 in
theorem w_hears : about1.hears theMethod below0 = true := by decide +kernel
set_option maxRecDepth 65536 in
theorem w_ripe : about1.ripe theMethod args0 below0 = true := by decide +kernel
theorem w_running : about1.status = .running := rfl
set_option maxRecDepth 65536 in
theorem w_room : about1.hasRoom e0.platform room_1 = true :=
  launch0.hasRoom_least _ room_1 (by decide +kernel) (by decide +kernel) (by decide +kernel) (by decide +kernel) (by decide +kernel) (by decide +kernel)
theorem allAtoms_all (ts : List Jvm.Cond) (a : Array Jvm.Value) (st : Jvm.State) : (allAtoms ts).before a st = ts.all (fun c => c.before a st) := by
  induction ts with
  | nil => rfl
  | cons c t ih =>
    show (Jvm.Cond.and c (allAtoms t)).before a st = _
    rw [Jvm.Cond.before_and, ih, List.all_cons]
def words1 : List Jvm.Cond := Jvm.Cond.code x code maxLocals ret :: tables_1
/-- a 'code' word, met by the world's own term for the bytes: nothing is compared byte by byte -/
theorem code_word {y : MethodName} {bytes : ByteArray} {mx : Nat} {rt : Option FieldType} {a : Array Value} {s : State} {m : MethodId} {meth : Method} {c : Code} (h1 : s.methodNamed? y = some m) (h2 : s.vm.method? m = some meth) (h3 : meth.code = some c) (h4 : c.code = bytes)
    (h5 : (c.maxLocals == mx && c.exceptionTable.isEmpty && decide (c.maxStack ≤ mostOperands) && decide (meth.sig.returnType = rt) && !meth.locks && decide (parseMethodDescriptor y.desc = some meth.sig)) = true) : (Jvm.Cond.code y bytes mx rt).before a s = true := by
  simp only [Bool.and_eq_true, beq_iff_eq, Bool.not_eq_true', decide_eq_true_eq] at h5
  obtain ⟨⟨⟨⟨⟨g1, g2⟩, g3⟩, g4⟩, g5⟩, g6⟩ := h5
  simp [Cond.before, Cond.holds, Cond.value, h1, h2, h3, h4, g1, g2, g3, g4, g5, g6]
def isCode : Jvm.Cond → Bool
  | .code _ _ _ _ => true
  | _ => false
theorem all_split {L : List Jvm.Cond} {P : Jvm.Cond → Bool} (h1 : L.all (fun c => isCode c || P c) = true) (h2 : ∀ c ∈ L.filter isCode, P c = true) : L.all P = true := by
  refine List.all_eq_true.mpr fun c hc => ?_
  have h := List.all_eq_true.mp h1 c hc
  rcases Bool.eq_false_or_eq_true (isCode c) with hi | hi
  · exact h2 c (List.mem_filter.mpr ⟨hc, hi⟩)
  · simpa [hi] using h
set_option maxRecDepth 65536 in
theorem w_c0 : (Jvm.Cond.code x code maxLocals ret).before args0 about1 = true := code_word (m := ⟨1, 2⟩) (meth := k1m2) (c := k1c2) (by decide +kernel) rfl rfl rfl (by decide +kernel)
set_option maxRecDepth 65536 in
theorem w_c1 : (Jvm.Cond.code ({ cls := "com/example/earmark/earmark/ledger/PositionSet", name := "<init>", desc := "()V" } : Jvm.MethodName) prog_101_method_1_code (1 : Nat) (Option.none : Option Jvm.ClassFile.FieldType)).before args0 about1 = true := code_word (m := ⟨2, 0⟩) (meth := k2m0) (c := k2c0) (by decide +kernel) rfl rfl rfl (by decide +kernel)
set_option maxRecDepth 65536 in
theorem w_c2 : (Jvm.Cond.code ({ cls := "java/lang/Object", name := "<init>", desc := "()V" } : Jvm.MethodName) object_method_1_code (1 : Nat) (Option.none : Option Jvm.ClassFile.FieldType)).before args0 about1 = true := code_word (m := ⟨0, 0⟩) (meth := k0m0) (c := k0c0) (by decide +kernel) rfl rfl rfl (by decide +kernel)
set_option maxRecDepth 65536 in
theorem w_c3 : (Jvm.Cond.code ({ cls := "com/example/earmark/earmark/ledger/PositionSet", name := "add", desc := "(I)V" } : Jvm.MethodName) prog_101_method_2_code (2 : Nat) (Option.none : Option Jvm.ClassFile.FieldType)).before args0 about1 = true := code_word (m := ⟨2, 1⟩) (meth := k2m1) (c := k2c1) (by decide +kernel) rfl rfl rfl (by decide +kernel)
set_option maxRecDepth 65536 in
theorem w_c4 : (Jvm.Cond.code ({ cls := "com/example/earmark/earmark/ledger/PositionSet", name := "fit", desc := "(I)V" } : Jvm.MethodName) prog_101_method_8_code (2 : Nat) (Option.none : Option Jvm.ClassFile.FieldType)).before args0 about1 = true := code_word (m := ⟨2, 5⟩) (meth := k2m5) (c := k2c5) (by decide +kernel) rfl rfl rfl (by decide +kernel)
set_option maxRecDepth 65536 in
theorem w_c5 : (Jvm.Cond.code ({ cls := "com/example/earmark/earmark/ledger/PositionSet", name := "change", desc := "(II)V" } : Jvm.MethodName) prog_101_method_9_code (4 : Nat) (Option.none : Option Jvm.ClassFile.FieldType)).before args0 about1 = true := code_word (m := ⟨2, 6⟩) (meth := k2m6) (c := k2c6) (by decide +kernel) rfl rfl rfl (by decide +kernel)
set_option maxRecDepth 65536 in
theorem w_c6 : (Jvm.Cond.code ({ cls := "java/util/Arrays", name := "copyOf", desc := "([II)[I" } : Jvm.MethodName) jdk_65_method_123_code (3 : Nat) (Option.some (Jvm.ClassFile.FieldType.array Jvm.ClassFile.FieldType.int))).before args0 about1 = true := code_word (m := ⟨3, 1⟩) (meth := k3m1) (c := k3c1) (by decide +kernel) rfl rfl rfl (by decide +kernel)
set_option maxRecDepth 65536 in
theorem w_c7 : (Jvm.Cond.code ({ cls := "java/lang/Math", name := "min", desc := "(II)I" } : Jvm.MethodName) jdk_29_method_69_code (2 : Nat) (Option.some Jvm.ClassFile.FieldType.int)).before args0 about1 = true := code_word (m := ⟨4, 1⟩) (meth := k4m1) (c := k4c1) (by decide +kernel) rfl rfl rfl (by decide +kernel)
set_option maxRecDepth 65536 in
theorem w_c8 : (Jvm.Cond.code ({ cls := "com/example/earmark/earmark/ledger/PositionSet", name := "remove", desc := "(I)V" } : Jvm.MethodName) prog_101_method_3_code (2 : Nat) (Option.none : Option Jvm.ClassFile.FieldType)).before args0 about1 = true := code_word (m := ⟨2, 2⟩) (meth := k2m2) (c := k2c2) (by decide +kernel) rfl rfl rfl (by decide +kernel)
set_option maxRecDepth 65536 in
theorem w_c9 : (Jvm.Cond.code ({ cls := "com/example/earmark/earmark/ledger/PositionSetPositionPinLaw", name := "order", desc := "([III)V" } : Jvm.MethodName) method_2_code (4 : Nat) (Option.none : Option Jvm.ClassFile.FieldType)).before args0 about1 = true := code_word (m := ⟨1, 1⟩) (meth := k1m1) (c := k1c1) (by decide +kernel) rfl rfl rfl (by decide +kernel)
set_option maxRecDepth 65536 in
theorem w_c10 : (Jvm.Cond.code ({ cls := "com/example/earmark/earmark/ledger/PositionSet", name := "size", desc := "()I" } : Jvm.MethodName) prog_101_method_6_code (1 : Nat) (Option.some Jvm.ClassFile.FieldType.int)).before args0 about1 = true := code_word (m := ⟨2, 3⟩) (meth := k2m3) (c := k2c3) (by decide +kernel) rfl rfl rfl (by decide +kernel)
set_option maxRecDepth 65536 in
theorem w_c11 : (Jvm.Cond.code ({ cls := "com/example/earmark/earmark/ledger/PositionSet", name := "position", desc := "(I)I" } : Jvm.MethodName) prog_101_method_7_code (6 : Nat) (Option.some Jvm.ClassFile.FieldType.int)).before args0 about1 = true := code_word (m := ⟨2, 4⟩) (meth := k2m4) (c := k2c4) (by decide +kernel) rfl rfl rfl (by decide +kernel)
def codes1 : List Jvm.Cond := [Jvm.Cond.code x code maxLocals ret, Jvm.Cond.code ({ cls := "com/example/earmark/earmark/ledger/PositionSet", name := "<init>", desc := "()V" } : Jvm.MethodName) prog_101_method_1_code (1 : Nat) (Option.none : Option Jvm.ClassFile.FieldType), Jvm.Cond.code ({ cls := "java/lang/Object", name := "<init>", desc := "()V" } : Jvm.MethodName) object_method_1_code (1 : Nat) (Option.none : Option Jvm.ClassFile.FieldType), Jvm.Cond.code ({ cls := "com/example/earmark/earmark/ledger/PositionSet", name := "add", desc := "(I)V" } : Jvm.MethodName) prog_101_method_2_code (2 : Nat) (Option.none : Option Jvm.ClassFile.FieldType), Jvm.Cond.code ({ cls := "com/example/earmark/earmark/ledger/PositionSet", name := "fit", desc := "(I)V" } : Jvm.MethodName) prog_101_method_8_code (2 : Nat) (Option.none : Option Jvm.ClassFile.FieldType), Jvm.Cond.code ({ cls := "com/example/earmark/earmark/ledger/PositionSet", name := "change", desc := "(II)V" } : Jvm.MethodName) prog_101_method_9_code (4 : Nat) (Option.none : Option Jvm.ClassFile.FieldType), Jvm.Cond.code ({ cls := "java/util/Arrays", name := "copyOf", desc := "([II)[I" } : Jvm.MethodName) jdk_65_method_123_code (3 : Nat) (Option.some (Jvm.ClassFile.FieldType.array Jvm.ClassFile.FieldType.int)), Jvm.Cond.code ({ cls := "java/lang/Math", name := "min", desc := "(II)I" } : Jvm.MethodName) jdk_29_method_69_code (2 : Nat) (Option.some Jvm.ClassFile.FieldType.int), Jvm.Cond.code ({ cls := "com/example/earmark/earmark/ledger/PositionSet", name := "remove", desc := "(I)V" } : Jvm.MethodName) prog_101_method_3_code (2 : Nat) (Option.none : Option Jvm.ClassFile.FieldType), Jvm.Cond.code ({ cls := "com/example/earmark/earmark/ledger/PositionSetPositionPinLaw", name := "order", desc := "([III)V" } : Jvm.MethodName) method_2_code (4 : Nat) (Option.none : Option Jvm.ClassFile.FieldType), Jvm.Cond.code ({ cls := "com/example/earmark/earmark/ledger/PositionSet", name := "size", desc := "()I" } : Jvm.MethodName) prog_101_method_6_code (1 : Nat) (Option.some Jvm.ClassFile.FieldType.int), Jvm.Cond.code ({ cls := "com/example/earmark/earmark/ledger/PositionSet", name := "position", desc := "(I)I" } : Jvm.MethodName) prog_101_method_7_code (6 : Nat) (Option.some Jvm.ClassFile.FieldType.int)]
set_option maxRecDepth 65536 in
theorem codes_eq : words1.filter isCode = codes1 := rfl
theorem w_codes : ∀ c ∈ words1.filter isCode, c.before args0 about1 = true := by
  rw [codes_eq]
  intro c hc
  simp only [codes1, List.mem_cons, List.not_mem_nil, or_false] at hc
  rcases hc with rfl | rfl | rfl | rfl | rfl | rfl | rfl | rfl | rfl | rfl | rfl | rfl
  · exact w_c0
  · exact w_c1
  · exact w_c2
  · exact w_c3
  · exact w_c4
  · exact w_c5
  · exact w_c6
  · exact w_c7
  · exact w_c8
  · exact w_c9
  · exact w_c10
  · exact w_c11
set_option maxRecDepth 65536 in
theorem w_t1 : (words1.take 24).all (fun c => isCode c || c.before args0 about1) = true := by decide +kernel
set_option maxRecDepth 65536 in
theorem w_t2 : ((words1.drop 24).take 24).all (fun c => isCode c || c.before args0 about1) = true := by decide +kernel
set_option maxRecDepth 65536 in
theorem w_t3 : ((words1.drop 24).drop 24).all (fun c => isCode c || c.before args0 about1) = true := by decide +kernel
theorem w_tables : (allAtoms (Jvm.Cond.code x code maxLocals ret :: tables_1)).before args0 about1 = true := by
  rw [allAtoms_all]
  show words1.all (fun c => c.before args0 about1) = true
  refine all_split ?_ w_codes
  rw [← List.take_append_drop 24 words1, List.all_append, w_t1, ← List.take_append_drop 24 (words1.drop 24), List.all_append, w_t2, w_t3]
  rfl
set_option maxRecDepth 65536 in
theorem w_case : (Jvm.Cond.and given_1 narrow_1).before args0 about1 = true := by decide +kernel
theorem w_applies : (headSpec (Jvm.Cond.code x code maxLocals ret :: tables_1) room_1).applies x e0.platform about1 = true :=
  (Spec.applies_iff w_frames).mpr ⟨w_running, w_runnable, w_alone, w_named, w_hears, w_ripe, w_room, w_tables⟩
theorem atStart : AtStart classFile x code maxLocals ret World_1 tables_1 room_1 Calls_1 rest_1 Pre_1 launch0 p0 e0 about1 theMethod args0 below0 :=
  ⟨lists_1, trivial, launch0.admits_env _ _ _, launch0.least_env, fairChoices_fair.cas, fairChoices_fair.clock, w_frames, w_args, w_heap, w_applies, trivial, trivial, w_case⟩
end start1
theorem witness_1 : WitnessClaimed_1 := ⟨start1.p0, start1.e0, start1.about1, start1.theMethod, start1.args0, start1.below0, start1.atStart⟩
end Jvm.Pilot.@@N@@
