import JvmDerived
import JvmDerived.Pilot.@@N@@Statement
import JvmDerived.Pilot.@@N@@Code
set_option linter.unusedVariables false
set_option linter.unusedSimpArgs false
namespace Jvm.RoadKit
open Sem ClassFile Op Lib Jvm.Stand Jvm.Free Jvm.LawKit
section New
variable {p : Program} {l : Launch} {e : Env} {R : Room} {s : State} {m : MethodId} {args : Array Value} {below : List Frame} {meth : Method} {c : Code} {T : State} {locs : List Loc} {cells slots : Nat}
theorem retI (X : Stand p l e R s m args below meth c T locs cells slots) (hx : p.tables.exec = Jvm.exec) {pc : Nat} {Ls : Array Slot} {z : Int32} {rest : List Value} (hret : meth.sig.returnType = some .int) (hd : decode c.code pc = .ok (.ireturn, 1)) {fs : List Frame}
    (hl : ∀ (f : JFrame) (acts : List Action), f.method = m → f.locked = none → f.entered = [] → (doReturn e (T.setTop f) acts (some (.int z))).1 = T.setFrames fs) : Steps p.tables e below (T.setTop (mkF m pc Ls (.int z :: rest))) (T.setFrames fs) := by
  have hm' : T.vm.method? m = some meth := X.method'
  have hn : narrow .int (.int z) = .int z := rfl
  show Steps p.tables e below (T.setTop { method := m, pc := pc, locals := Ls, stack := _ :: rest, locked := none }) _
  jvm_step X.here [X.here.top, hx, hd, hm', hret, hn]
  first | (intro acts; rw [hl _ acts rfl rfl rfl]) | rw [hl _ _ rfl rfl rfl]
  exact Steps.refl _
theorem retL (X : Stand p l e R s m args below meth c T locs cells slots) (hx : p.tables.exec = Jvm.exec) {pc : Nat} {Ls : Array Slot} {z : Int64} {rest : List Value} (hret : meth.sig.returnType = some .long) (hd : decode c.code pc = .ok (.lreturn, 1)) {fs : List Frame}
    (hl : ∀ (f : JFrame) (acts : List Action), f.method = m → f.locked = none → f.entered = [] → (doReturn e (T.setTop f) acts (some (.long z))).1 = T.setFrames fs) : Steps p.tables e below (T.setTop (mkF m pc Ls (.long z :: rest))) (T.setFrames fs) := by
  have hm' : T.vm.method? m = some meth := X.method'
  have hn : narrow .long (.long z) = .long z := rfl
  show Steps p.tables e below (T.setTop { method := m, pc := pc, locals := Ls, stack := _ :: rest, locked := none }) _
  jvm_step X.here [X.here.top, hx, hd, hm', hret, hn]
  first | (intro acts; rw [hl _ acts rfl rfl rfl]) | rw [hl _ _ rfl rfl rfl]
  exact Steps.refl _
end New
end Jvm.RoadKit
namespace Jvm.Pilot.@@N@@
open Jvm Jvm.ClassFile Sem Op Lib Jvm.Free Jvm.Stand Jvm.LawKit Jvm.RoadKit Bundle Jvm.Pilot.@@N@@.Jvm.D

theorem own_toN {i : Nat} (h : i < 2147483648) : (Int32.ofNat i).toInt = i := Int32.toInt_ofNat_of_lt (by omega)
theorem own_clamp {i : Nat} (h : i < 2147483648) : (Int32.ofNat i).toNatClampNeg = i := by
  rw [Int32.toNatClampNeg, own_toN h]; omega
theorem own_ltN {i j : Nat} (hi : i < 2147483648) (hj : j < 2147483648) : Int32.ofNat i < Int32.ofNat j ↔ i < j := by
  rw [Int32.lt_iff_toInt_lt, own_toN hi, own_toN hj]; omega
theorem own_injN {i j : Nat} (hi : i < 2147483648) (hj : j < 2147483648) : Int32.ofNat i = Int32.ofNat j ↔ i = j := by
  rw [← Int32.toInt_inj, own_toN hi, own_toN hj]; omega
theorem own_nn {i : Nat} (h : i < 2147483648) : ¬ Int32.ofNat i < 0 := by
  rw [Int32.lt_iff_toInt_lt, own_toN h, show (0 : Int32).toInt = 0 from by decide]; omega
theorem own_addN (i j : Nat) : Int32.ofNat i + Int32.ofNat j = Int32.ofNat (i + j) := (Int32.ofNat_add i j).symm
theorem own_mulN (i j : Nat) : Int32.ofNat i * Int32.ofNat j = Int32.ofNat (i * j) := (Int32.ofNat_mul i j).symm
/-! tables of ints by a function -/
def own_tab (f : Nat → Int32) (n : Nat) : List Value := (List.range n).map fun j => .int (f j)
theorem own_tab_len (f : Nat → Int32) (n : Nat) : (own_tab f n).length = n := by simp [own_tab]
theorem own_tab_get {f : Nat → Int32} {n j : Nat} (h : j < n) (d : Value) : (own_tab f n).getD j d = .int (f j) := by
  simp [own_tab, List.getD_eq_getElem?_getD, List.getElem?_range h]
theorem own_tab_set (f : Nat → Int32) (n j : Nat) (x : Int32) : (own_tab f n).set j (.int x) = own_tab (fun i => if i = j then x else f i) n := by
  apply List.ext_getElem
  · simp [own_tab]
  · intro i h1 h2
    simp only [own_tab, List.getElem_set, List.getElem_map, List.getElem_range]
    by_cases h : i = j
    · subst h; simp
    · simp [h, Ne.symm h]
theorem own_tab_pad (n : Nat) : own_tab (fun _ => 0) n = [] ++ List.replicate n (Value.int (0 : Int32)) := by
  apply List.ext_getElem
  · simp [own_tab]
  · intro i h1 h2; simp [own_tab]

theorem own_shl1 {i : Nat} (h : i < 1073741824) : (Int32.ofNat i <<< ((1 : Int32) &&& 31)) = Int32.ofNat (2 * i) := by
  rw [show ((1 : Int32) &&& 31) = 1 from by decide]
  apply Int32.toBitVec_inj.mp
  apply BitVec.eq_of_toNat_eq
  have e : (Int32.ofNat i <<< (1 : Int32)).toBitVec = BitVec.ofNat 32 i <<< 1 := rfl
  rw [e]
  have e2 : (Int32.ofNat (2 * i)).toBitVec = BitVec.ofNat 32 (2 * i) := rfl
  rw [e2, BitVec.toNat_shiftLeft, BitVec.toNat_ofNat, BitVec.toNat_ofNat, Nat.shiftLeft_eq]
  omega
theorem own_shr1 {i : Nat} (h : i < 1073741824) : (Int32.ofNat (2 * i) >>> ((1 : Int32) &&& 31)) = Int32.ofNat i := by
  rw [show ((1 : Int32) &&& 31) = 1 from by decide]
  apply Int32.toBitVec_inj.mp
  apply BitVec.eq_of_toInt_eq
  have e : (Int32.ofNat (2 * i) >>> (1 : Int32)).toBitVec = (BitVec.ofNat 32 (2 * i)).sshiftRight 1 := rfl
  rw [e, BitVec.toInt_sshiftRight]
  have e1 : (BitVec.ofNat 32 (2 * i)).toInt = (2 * i : Nat) := own_toN (i := 2 * i) (by omega)
  have e2 : (Int32.ofNat i).toBitVec.toInt = i := own_toN (i := i) (by omega)
  rw [e1, e2, Int.shiftRight_eq_div_pow]
  omega
theorem own_shr0 (x : Int32) : (x >>> ((0 : Int32) &&& 31)) = x := by
  rw [show ((0 : Int32) &&& 31) = 0 from by decide]
  apply Int32.toBitVec_inj.mp
  show x.toBitVec.sshiftRight 0 = x.toBitVec
  simp
theorem own_shl0 (x : Int32) : (x <<< ((0 : Int32) &&& 31)) = x := by
  rw [show ((0 : Int32) &&& 31) = 0 from by decide]
  apply Int32.toBitVec_inj.mp
  show x.toBitVec <<< 0 = x.toBitVec
  simp
def own_ch (x : Int32) : Prop := 0 ≤ x.toInt ∧ x.toInt ≤ 65535
theorem own_chN {x : Int32} (h : own_ch x) : ∃ k, k ≤ 65535 ∧ x = Int32.ofNat k := by
  refine ⟨x.toInt.toNat, by have := h.2; omega, Int32.toInt_inj.mp ?_⟩
  have := h.1; have := h.2
  rw [own_toN (by omega)]; omega
def own_lo (x : Int32) : Int32 := x.toInt8.toInt32
def own_hi (x : Int32) : Int32 := (x >>> ((8 : Int32) &&& 31)).toInt8.toInt32
theorem own_lo255 (x : Int32) : (own_lo x) &&& 255 = x &&& 255 := by
  apply Int32.toBitVec_inj.mp
  show (x.toBitVec.signExtend 8).signExtend 32 &&& 255#32 = x.toBitVec &&& 255#32
  generalize x.toBitVec = b
  apply BitVec.eq_of_getLsbD_eq
  intro i hi
  simp only [BitVec.getLsbD_and, BitVec.getLsbD_signExtend]
  by_cases h : i < 8
  · simp [h, hi]
  · have : (255#32).getLsbD i = false := by
      have : ∀ i < 32, ¬ i < 8 → (255#32).getLsbD i = false := by decide
      exact this i hi h
    simp [this]
theorem own_and255N {k : Nat} (h : k < 2147483648) : Int32.ofNat k &&& 255 = Int32.ofNat (k % 256) := by
  apply Int32.toBitVec_inj.mp
  show BitVec.ofNat 32 k &&& 255#32 = BitVec.ofNat 32 (k % 256)
  apply BitVec.eq_of_toNat_eq
  rw [BitVec.toNat_and, show (255#32).toNat = 2 ^ 8 - 1 from by decide, Nat.and_two_pow_sub_one_eq_mod, BitVec.toNat_ofNat, BitVec.toNat_ofNat]
  omega
theorem own_shr8 {i : Nat} (h : i < 2147483648) : (Int32.ofNat i >>> ((8 : Int32) &&& 31)) = Int32.ofNat (i / 256) := by
  rw [show ((8 : Int32) &&& 31) = 8 from by decide]
  apply Int32.toBitVec_inj.mp
  apply BitVec.eq_of_toInt_eq
  have e : (Int32.ofNat i >>> (8 : Int32)).toBitVec = (BitVec.ofNat 32 i).sshiftRight 8 := rfl
  rw [e, BitVec.toInt_sshiftRight]
  have e1 : (BitVec.ofNat 32 i).toInt = (i : Nat) := own_toN (i := i) (by omega)
  have e2 : (Int32.ofNat (i / 256)).toBitVec.toInt = (i / 256 : Nat) := own_toN (i := i / 256) (by omega)
  rw [e1, e2, Int.shiftRight_eq_div_pow]
  omega
theorem own_shl8 {i : Nat} (h : i < 65536) : (Int32.ofNat i <<< ((8 : Int32) &&& 31)) = Int32.ofNat (256 * i) := by
  rw [show ((8 : Int32) &&& 31) = 8 from by decide]
  apply Int32.toBitVec_inj.mp
  apply BitVec.eq_of_toNat_eq
  have e : (Int32.ofNat i <<< (8 : Int32)).toBitVec = BitVec.ofNat 32 i <<< 8 := rfl
  rw [e]
  have e2 : (Int32.ofNat (256 * i)).toBitVec = BitVec.ofNat 32 (256 * i) := rfl
  rw [e2, BitVec.toNat_shiftLeft, BitVec.toNat_ofNat, BitVec.toNat_ofNat, Nat.shiftLeft_eq]
  omega
theorem own_i2c {k : Nat} (h : k < 65536) : (Int32.ofNat k).toUInt32.toUInt16.toUInt32.toInt32 = Int32.ofNat k := by
  apply Int32.toInt_inj.mp
  have q := c_i2c (Int32.ofNat k)
  rw [own_toN (by omega)] at q ⊢
  omega
theorem own_i2cc {x : Int32} (h : own_ch x) : x.toUInt32.toUInt16.toUInt32.toInt32 = x := by
  obtain ⟨k, hk, rfl⟩ := own_chN h
  exact own_i2c (by omega)
theorem own_orN {a b : Nat} (ha : a < 256) (hb : b < 256) : Int32.ofNat a ||| Int32.ofNat (256 * b) = Int32.ofNat (a + 256 * b) := by
  apply Int32.toBitVec_inj.mp
  show BitVec.ofNat 32 a ||| BitVec.ofNat 32 (256 * b) = BitVec.ofNat 32 (a + 256 * b)
  apply BitVec.eq_of_toNat_eq
  rw [BitVec.toNat_or, BitVec.toNat_ofNat, BitVec.toNat_ofNat, BitVec.toNat_ofNat, Nat.mod_eq_of_lt (by omega), Nat.mod_eq_of_lt (by omega), Nat.mod_eq_of_lt (by omega)]
  have q := Nat.two_pow_add_eq_or_of_lt (i := 8) (b := a) (by omega) b
  rw [Nat.or_comm, ← show 2 ^ 8 * b = 256 * b from by omega, ← q]
  omega
theorem own_glue {x : Int32} (h : own_ch x) : ((((own_lo x) &&& 255) <<< ((0 : Int32) &&& 31)) ||| (((own_hi x) &&& 255) <<< ((8 : Int32) &&& 31))).toUInt32.toUInt16.toUInt32.toInt32 = x := by
  obtain ⟨k, hk, rfl⟩ := own_chN h
  rw [own_shl0, own_lo255, own_and255N (by omega)]
  have e : own_hi (Int32.ofNat k) = own_lo (Int32.ofNat (k / 256)) := by rw [own_hi, own_shr8 (by omega), own_lo]
  rw [e, own_lo255, own_and255N (by omega), own_shl8 (by omega), own_orN (by omega) (by omega), own_i2c (by omega)]
  congr 1; omega
theorem own_l1c {x : Int32} (h0 : 0 ≤ x.toInt) (h : x.toInt ≤ 255) : ((own_lo x) &&& 255).toUInt32.toUInt16.toUInt32.toInt32 = x := by
  obtain ⟨k, hk, rfl⟩ := own_chN (x := x) ⟨h0, by omega⟩
  rw [own_toN (by omega)] at h
  rw [own_lo255, own_and255N (by omega), Nat.mod_eq_of_lt (by omega), own_i2c (by omega)]
theorem own_lolo (x : Int32) : nar .byte (own_lo x) = own_lo x := by
  show x.toInt8.toInt32.toInt8.toInt32 = x.toInt8.toInt32
  rw [Int8.toInt8_toInt32]
theorem own_hihi (x : Int32) : nar .byte (own_hi x) = own_hi x := own_lolo _
def own_u16 (f : Nat → Int32) (i : Nat) : Int32 := if i % 2 = 0 then own_lo (f (i / 2)) else own_hi (f (i / 2))
theorem own_u16e (f : Nat → Int32) (i : Nat) : own_u16 f (2 * i) = own_lo (f i) := by
  rw [own_u16, if_pos (by omega), show 2 * i / 2 = i from by omega]
theorem own_u16o (f : Nat → Int32) (i : Nat) : own_u16 f (2 * i + 1) = own_hi (f i) := by
  rw [own_u16, if_neg (by omega), show (2 * i + 1) / 2 = i from by omega]
def own_l1 (f : Nat → Int32) (i : Nat) : Int32 := own_lo (f i)
theorem own_tab_cong {f g : Nat → Int32} {n : Nat} (h : ∀ j, j < n → f j = g j) : own_tab f n = own_tab g n := by
  unfold own_tab
  apply List.map_congr_left
  intro j hj
  rw [h j (List.mem_range.mp hj)]

theorem own_sel {Z s : State} {a0 args : Array Value} {y : MethodName} {n : Nat} (hZ : Z.Warmed39 s.vm) (wi : (Cond.instantiable y.cls n).before a0 Z = true) (wp : (Cond.privateMethod y).before a0 Z = true) (wn : (Cond.instanceMethod y).before a0 Z = true) (hy : y.cls ≠ "java/lang/invoke/MethodHandle" ∧ y.cls ≠ "java/lang/invoke/VarHandle") : (Cond.selects y.cls y y).before args s = true := by
  have wi' : (Cond.instantiable y.cls n).before args s = true := mv hZ wi
  obtain ⟨c, k, h1, h2, -, h4, -⟩ := Cond.instantiable_spec wi'
  rw [Bool.or_eq_false_iff] at h4
  exact Stand.selects_self_of_private h1 h2 h4.1 (Cond.privateMethod_at (mvP hZ wp (args := args))) (mv hZ wn) hy

theorem own_rn {v : Value} {C : String} (h : v.isRef = true) : narrow (.object C) v = v := by rcases ref_cases h with rfl | ⟨a, rfl⟩ <;> rfl
theorem own_cat {v : Value} (h : v.isRef = true) : v.category = 1 := by rcases ref_cases h with rfl | ⟨a, rfl⟩ <;> rfl
theorem own_narc {x : Int32} (h : own_ch x) : some (Value.int (nar .char x)) = some (Value.int x) := congrArg (fun z => some (Value.int z)) (own_i2cc h)
theorem own_255 {x : Int32} : ¬ (255 : Int32) < x ↔ x.toInt ≤ 255 := by
  rw [Int32.lt_iff_toInt_lt, show (255 : Int32).toInt = 255 from by decide]; omega
def own_ST (Z : State) (zc : Int32) (fm : Value) : Prop := Sta Z Z.heap "java/lang/String" "COMPACT_STRINGS" "Z" (.int zc) ∧ ¬ (zc = (0 : Int32)) ∧ Sta Z Z.heap "java/lang/StringUTF16" "$assertionsDisabled" "Z" (.int 1) ∧ Sta Z Z.heap "java/lang/StringUTF16" "HI_BYTE_SHIFT" "I" (.int 0) ∧ Sta Z Z.heap "java/lang/StringUTF16" "LO_BYTE_SHIFT" "I" (.int 8) ∧ Sta Z Z.heap "jdk/internal/util/Preconditions" "SIOOBE_FORMATTER" "Ljava/util/function/BiFunction;" fm ∧ fm.isRef = true
/-- a byte array that spells f in n chars: one byte each, or two -/
def own_BY (Z : State) (h : Heap) (tb : Addr) (cd : Int32) (f : Nat → Int32) (n : Nat) : Prop := ∃ kb : ClassId, (cd = 0 ∧ (∀ j, j < n → ¬ (255 : Int32) < f j) ∧ Arv Z h tb kb .byte (Int32.ofNat n) (own_tab (own_l1 f) n) (.int (0 : Int32))) ∨ (cd = 1 ∧ (∃ j, j < n ∧ (255 : Int32) < f j) ∧ Arv Z h tb kb .byte (Int32.ofNat (2 * n)) (own_tab (own_u16 f) (2 * n)) (.int (0 : Int32)))
theorem own_BY.lt {Z : State} {h : Heap} {tb : Addr} {cd : Int32} {f : Nat → Int32} {n : Nat} (B : own_BY Z h tb cd f n) : tb < h.size := by
  obtain ⟨kb, ⟨-, -, V⟩ | ⟨-, -, V⟩⟩ := B <;> exact V.lt
theorem own_BY.keep {Z : State} {h h' : Heap} {tb : Addr} {cd : Int32} {f : Nat → Int32} {n : Nat} {ws : List Addr} (B : own_BY Z h tb cd f n) (K : Keep h h' ws) (q : tb ∉ ws) : own_BY Z h' tb cd f n := by
  obtain ⟨kb, ⟨a, b, V⟩ | ⟨a, b, V⟩⟩ := B
  · exact ⟨kb, Or.inl ⟨a, b, V.keep K q⟩⟩
  · exact ⟨kb, Or.inr ⟨a, b, V.keep K q⟩⟩
theorem own_BY.other {Z : State} {h h' : Heap} {tb a : Addr} {sl : Nat} {v : Value} {cd : Int32} {f : Nat → Int32} {n : Nat} (B : own_BY Z h tb cd f n) (W : Wr h h' a sl v) (q : tb ≠ a) : own_BY Z h' tb cd f n := by
  obtain ⟨kb, ⟨x, y, V⟩ | ⟨x, y, V⟩⟩ := B
  · exact ⟨kb, Or.inl ⟨x, y, V.other W q⟩⟩
  · exact ⟨kb, Or.inr ⟨x, y, V.other W q⟩⟩
theorem own_BY.cd {Z : State} {h : Heap} {tb : Addr} {cd : Int32} {f : Nat → Int32} {n : Nat} (B : own_BY Z h tb cd f n) : cd = 0 ∨ cd = 1 := by
  obtain ⟨kb, ⟨x, -⟩ | ⟨x, -⟩⟩ := B
  · exact Or.inl x
  · exact Or.inr x
/-- a String that spells f in n chars -/
def own_STR (Z : State) (h : Heap) (sa : Addr) (f : Nat → Int32) (n : Nat) : Prop := ∃ (tb : Addr) (cd : Int32), Exa Z h sa "java/lang/String" ∧ Fld Z h sa "java/lang/String" "value" "[B" (.ref tb) ∧ Fld Z h sa "java/lang/String" "coder" "B" (.int cd) ∧ own_BY Z h tb cd f n
theorem own_STR.keep {Z : State} {h h' : Heap} {sa : Addr} {f : Nat → Int32} {n : Nat} (P : own_STR Z h sa f n) (K : Keep h h' []) : own_STR Z h' sa f n := by
  obtain ⟨tb, cd, E, F, G, B⟩ := P
  exact ⟨tb, cd, E.keep K, F.keep K nin0, G.keep K nin0, B.keep K nin0⟩
theorem own_STR.exa {Z : State} {h : Heap} {sa : Addr} {f : Nat → Int32} {n : Nat} (P : own_STR Z h sa f n) : Exa Z h sa "java/lang/String" := by
  obtain ⟨tb, cd, E, -⟩ := P; exact E
theorem own_s6 {a b : Addr} {x y z w v : Int32} {o : Slot} (h : One o) : storeLocals #[.val (.ref a), .val (.int x), .val (.ref b), .val (.int y), .val (.int z), .val (.int w), o] 6 (.int v) = some #[.val (.ref a), .val (.int x), .val (.ref b), .val (.int y), .val (.int z), .val (.int w), .val (.int v)] := by
  rcases h with rfl | ⟨u, rfl, hu⟩
  · rfl
  · cases u <;> first | rfl | (simp [Value.category] at hu)
theorem own_cg {Z : State} {h : Heap} {a : Addr} {k : ClassId} {ty : FieldType} {z : Int32} {f g : Nat → Int32} {n : Nat} {d : Value} (V : Arv Z h a k ty z (own_tab f n) d) (e : ∀ j, j < n → f j = g j) : Arv Z h a k ty z (own_tab g n) d := by rw [← own_tab_cong e]; exact V
theorem own_BYne {Z : State} {h : Heap} {tb a : Addr} {cd : Int32} {f : Nat → Int32} {n : Nat} (B : own_BY Z h tb cd f n) (q : ∀ kb z vs dv, Arv Z h tb kb .byte z vs dv → tb ≠ a) : tb ≠ a := by
  obtain ⟨kb, ⟨-, -, V⟩ | ⟨-, -, V⟩⟩ := B <;> exact q _ _ _ _ V
theorem own_wrong {n : Nat} (h : n ≤ 16) : Int32.ofNat (2 * n) = Int32.ofNat (2 * n) := rfl
theorem own_coder {n : Nat} (h : n ≤ 16) (h0 : 0 < n) : (((Int32.ofNat n - Int32.ofNat (2 * n)).toUInt32 >>> ((31 : Int32) &&& 31).toUInt32).toInt32).toInt8.toInt32 = 1 := by
  have : ∀ n, n < 17 → 0 < n → (((Int32.ofNat n - Int32.ofNat (2 * n)).toUInt32 >>> ((31 : Int32) &&& 31).toUInt32).toInt32).toInt8.toInt32 = 1 := by decide
  exact this n (by omega) h0
theorem own_coder0 (x : Int32) : (((x - x).toUInt32 >>> ((31 : Int32) &&& 31).toUInt32).toInt32).toInt8.toInt32 = 0 := by
  rw [show x - x = 0 from by simp]; decide

theorem own_wS {Z : State} {a0 : Array Value} (hw : ∀ d ∈ tables_1, d.before a0 Z = true) : ∀ a ∈ Bundle.stringAtoms, a.before a0 Z = true := by
  intro d hd
  simp only [Bundle.stringAtoms, Bundle.sN, List.mem_cons, List.not_mem_nil, or_false] at hd
  rcases hd with rfl | rfl | rfl | rfl | rfl | rfl | rfl
  · exact (hw _ (List.mem_of_getElem? (i := 3) rfl))
  · exact (hw _ (List.mem_of_getElem? (i := 2) rfl))
  · exact (hw _ (List.mem_of_getElem? (i := 15) rfl))
  · exact (hw _ (List.mem_of_getElem? (i := 16) rfl))
  · exact (hw _ (List.mem_of_getElem? (i := 17) rfl))
  · exact (hw _ (List.mem_of_getElem? (i := 18) rfl))
  · exact (hw _ (List.mem_of_getElem? (i := 19) rfl))
theorem own_EL {Z : State} {a0 : Array Value} (hw : ∀ d ∈ tables_1, d.before a0 Z = true) : EW Z a0 consts_1 := (EW.cons (hw _ (List.mem_of_getElem? (i := 14) rfl)) (by simp) EW.nil)
theorem own_safe {Z : State} {vm : Vm} {h : Heap} {x : Addr} {EL : List (String × Nat)} (hal : Z.vm.Alike vm) (E : Exa Z h x "java/lang/String") (F : Fld Z h x "java/lang/String" "value" "[B" .null) : Safe Z EL vm h x := fun B => by
  obtain ⟨p, -, u, a, -, q, -, G, rfl | rfl⟩ := B
  · obtain ⟨cS, ⟨⟨s1, s2, s3, ⟨cv, kv, iv, s4, s4'⟩, -, -, -, s8, -⟩, -⟩, -⟩ := G
    obtain ⟨cell, cf, k, i, f, e1, e2, -, -, -, -, e7⟩ := F
    obtain ⟨k', z4⟩ := ff_back (U := Wst Z vm h) hal s4
    cases e2.symm.trans z4
    cases (show h[q.sa]? = some q.sC from s1).symm.trans e1
    rw [s8] at e7; cases e7
  · obtain ⟨cell, k, e1, e2, -⟩ := E
    cases (show h[q.sd]? = some q.SA from G.hd).symm.trans e1
    obtain ⟨cS, -, -, f, -⟩ := G
    have f' : Z.vm.findClass "[B" = some q.SA.cls := by rw [← hal.findClass]; exact f
    exact absurd rfl (ids_ne f' e2 (by decide))

theorem own_chn (x : Int32) : own_ch (nar .char x) := by
  have q := c_i2c x
  show 0 ≤ (x.toUInt32.toUInt16.toUInt32.toInt32).toInt ∧ _
  unfold own_ch at *
  constructor <;> (try show (x.toUInt32.toUInt16.toUInt32.toInt32).toInt ≤ 65535) <;> omega
theorem own_i2cn {x : Int32} (h : own_ch x) : nar .char x = x := own_i2cc h
theorem own_and (x m : Int32) (n : Nat) (h : 0 ≤ m.toInt) (e : m.toInt = n) (hn : n < 2147483648) : ∃ z, z ≤ n ∧ x &&& m = Int32.ofNat z := by
  have q := c_and x m h
  refine ⟨(x &&& m).toInt.toNat, by omega, Int32.toInt_inj.mp ?_⟩
  rw [own_toN (by omega)]; omega
theorem own_k6 (x : Int32) : ∃ z : Int32, (z = 0 ∨ z = 1 ∨ z = 2 ∨ z = 3 ∨ z = 4 ∨ z = 5) ∧ (x &&& (15 : Int32)) % (6 : Int32) = z := by
  obtain ⟨j, hj, e⟩ := own_and x 15 15 (by decide) (by decide) (by decide)
  refine ⟨_, ?_, rfl⟩
  rw [e]
  have q : ∀ j, j < 16 → (Int32.ofNat j % 6 = 0 ∨ Int32.ofNat j % 6 = 1 ∨ Int32.ofNat j % 6 = 2 ∨ Int32.ofNat j % 6 = 3 ∨ Int32.ofNat j % 6 = 4 ∨ Int32.ofNat j % 6 = 5) := by decide
  exact q j (by omega)
/-! the law's own words -/
def own_dig (x : Int32) : Int32 := if ¬ x < 48 ∧ ¬ (57 : Int32) < x then 1 else 0
def own_inR (kk x : Int32) : Int32 := if kk = 0 ∨ kk = 4 then own_dig x else if kk = 1 then (if ¬ own_dig x = 0 ∨ (¬ x < 65 ∧ ¬ (90 : Int32) < x) ∨ (¬ x < 97 ∧ ¬ (122 : Int32) < x) then 1 else 0) else if kk = 2 then (if ¬ x < 32 ∧ ¬ (126 : Int32) < x then 1 else 0) else if kk = 3 then (if (¬ x < 48 ∧ ¬ (58 : Int32) < x) ∨ (¬ x < 60 ∧ ¬ (62 : Int32) < x) then 1 else 0) else if ¬ (255 : Int32) < x then 1 else 0
def own_pd (kk x : Int32) : Int32 := if kk = 1 ∧ x = 32 ∧ own_inR kk x = 0 then 1 else 0
def own_gd (kk x : Int32) : Int32 := if own_inR kk x = 0 ∧ own_pd kk x = 0 then 0 else 1
def own_pv (kk : Int32) : Int32 := if kk = 1 then 1 else 0
theorem own_dig01 (x : Int32) : own_dig x = 0 ∨ own_dig x = 1 := by
  unfold own_dig; split
  · exact Or.inr rfl
  · exact Or.inl rfl
theorem own_nb {x : Int32} (h : x = 0 ∨ x = 1) : nar .boolean x = x := by rcases h with rfl | rfl <;> rfl
theorem own_inR01 (kk x : Int32) : own_inR kk x = 0 ∨ own_inR kk x = 1 := by
  unfold own_inR
  split
  · exact own_dig01 x
  · split
    · split
      · exact Or.inr rfl
      · exact Or.inl rfl
    · split
      · split
        · exact Or.inr rfl
        · exact Or.inl rfl
      · split
        · split
          · exact Or.inr rfl
          · exact Or.inl rfl
        · split
          · exact Or.inr rfl
          · exact Or.inl rfl
theorem own_bigl {x m : Int32} (h : ¬ x < 256) (hm : m < 256) : m < x := by
  rw [Int32.lt_iff_toInt_lt] at *; omega
theorem own_inRbig {kk x : Int32} (h : ¬ x < 256) : own_inR kk x = 0 := by
  have h1 : (57 : Int32) < x := own_bigl h (by decide)
  have h2 : (90 : Int32) < x := own_bigl h (by decide)
  have h3 : (122 : Int32) < x := own_bigl h (by decide)
  have h4 : (126 : Int32) < x := own_bigl h (by decide)
  have h5 : (58 : Int32) < x := own_bigl h (by decide)
  have h6 : (62 : Int32) < x := own_bigl h (by decide)
  have h7 : (255 : Int32) < x := own_bigl h (by decide)
  have e : own_dig x = 0 := by rw [own_dig, if_neg fun z => z.2 h1]
  unfold own_inR
  have n1 : ¬ (¬ (0 : Int32) = 0 ∨ (¬ x < 65 ∧ ¬ (90 : Int32) < x) ∨ (¬ x < 97 ∧ ¬ (122 : Int32) < x)) := by
    rintro (z | z | z)
    · exact z rfl
    · exact z.2 h2
    · exact z.2 h3
  have n2 : ¬ ((¬ x < 48 ∧ ¬ (58 : Int32) < x) ∨ (¬ x < 60 ∧ ¬ (62 : Int32) < x)) := by
    rintro (z | z)
    · exact z.2 h5
    · exact z.2 h6
  rw [e, if_neg n1, if_neg (c := ¬ x < 32 ∧ ¬ (126 : Int32) < x) (fun z => z.2 h4), if_neg n2, if_neg (c := ¬ (255 : Int32) < x) (fun z => z h7)]
  split
  · rfl
  · split
    · rfl
    · split
      · rfl
      · split <;> rfl
theorem own_gd0 {kk x : Int32} : own_gd kk x = 0 ↔ own_inR kk x = 0 ∧ own_pd kk x = 0 := by
  unfold own_gd; split
  · next h => exact ⟨fun _ => h, fun _ => rfl⟩
  · next h => exact ⟨fun z => absurd z (by decide), fun z => absurd z h⟩
theorem own_pd1 {kk x : Int32} : ¬ own_pd kk x = 0 ↔ kk = 1 ∧ x = 32 ∧ own_inR kk x = 0 := by
  unfold own_pd; split
  · next h => exact ⟨fun _ => h, fun _ => by decide⟩
  · next h => exact ⟨fun z => absurd rfl z, fun z => absurd z h⟩
theorem own_i132 : own_inR 1 32 = 0 := by decide
def own_wi (g : Nat → Int32) (n : Nat) : Nat → Nat → Nat
  | 0, i => i
  | fu + 1, i => if i < n ∧ ¬ g i = 0 then own_wi g n fu (i + 1) else i
theorem own_wiS {g : Nat → Int32} {n fu i : Nat} (h : i < n) (q : ¬ g i = 0) : own_wi g n (fu + 1) i = own_wi g n fu (i + 1) := by rw [own_wi, if_pos ⟨h, q⟩]
theorem own_wiE {g : Nat → Int32} {n fu i : Nat} (h : i < n → g i = 0) (hfu : n ≤ i + fu) : own_wi g n fu i = i := by
  cases fu with
  | zero => rfl
  | succ fu => rw [own_wi, if_neg fun z => z.2 (h z.1)]
theorem own_wispec (g : Nat → Int32) (n : Nat) : ∀ fu i, n ≤ i + fu → i ≤ own_wi g n fu i ∧ (i ≤ n → own_wi g n fu i ≤ n) ∧ (∀ j, i ≤ j → j < own_wi g n fu i → ¬ g j = 0) ∧ (own_wi g n fu i < n → g (own_wi g n fu i) = 0) := by
  intro fu
  induction fu with
  | zero => intro i h; exact ⟨Nat.le_refl _, fun q => q, fun j h1 h2 => absurd (show j < i from h2) (by omega), fun h2 => absurd (show i < n from h2) (by omega)⟩
  | succ fu ih =>
    intro i h
    by_cases q : i < n ∧ ¬ g i = 0
    · rw [own_wiS q.1 q.2]
      obtain ⟨a1, a2, a3, a4⟩ := ih (i + 1) (by omega)
      refine ⟨by omega, fun _ => a2 (by omega), fun j h1 h2 => ?_, a4⟩
      by_cases e : j = i
      · subst e; exact q.2
      · exact a3 j (by omega) h2
    · rw [own_wi, if_neg q]
      exact ⟨Nat.le_refl _, fun z => z, fun j h1 h2 => absurd h2 (by omega), fun h2 => Decidable.byContradiction fun z => q ⟨h2, z⟩⟩
def own_g1 (kk : Int32) (f : Nat → Int32) (j : Nat) : Int32 := own_inR kk (f j)
def own_g2 (f : Nat → Int32) (j : Nat) : Int32 := if f j = 32 then 1 else 0
def own_i1 (kk : Int32) (f : Nat → Int32) (n a : Nat) : Nat := own_wi (own_g1 kk f) n n a
def own_i2 (kk : Int32) (f : Nat → Int32) (n a : Nat) : Nat := if own_pv kk = 0 then own_i1 kk f n a else own_wi (own_g2 f) n n (own_i1 kk f n a)
def own_rf (kk : Int32) (f : Nat → Int32) (n a : Nat) : Int32 := if own_i2 kk f n a = n then 1 else 0
theorem own_i2spec (kk : Int32) (f : Nat → Int32) (n a : Nat) : own_i1 kk f n a ≤ own_i2 kk f n a ∧ (own_i1 kk f n a ≤ n → own_i2 kk f n a ≤ n) ∧ (∀ j, own_i1 kk f n a ≤ j → j < own_i2 kk f n a → kk = 1 ∧ f j = 32) ∧ (own_i2 kk f n a < n → kk = 1 → ¬ f (own_i2 kk f n a) = 32) := by
  unfold own_i2
  by_cases q : kk = 1
  · rw [if_neg (by rw [own_pv, if_pos q]; decide)]
    obtain ⟨a1, a2, a3, a4⟩ := own_wispec (own_g2 f) n n (own_i1 kk f n a) (by omega)
    refine ⟨a1, a2, fun j h1 h2 => ⟨q, ?_⟩, fun h1 _ z => ?_⟩
    · exact Decidable.byContradiction fun z => a3 j h1 h2 (by rw [own_g2, if_neg z])
    · have := a4 h1
      rw [own_g2, if_pos z] at this
      exact absurd this (by decide)
  · rw [if_pos (by rw [own_pv, if_neg q])]
    exact ⟨Nat.le_refl _, fun z => z, fun j h1 h2 => absurd h2 (by omega), fun _ z => absurd z q⟩
def own_EX (kk : Int32) (f : Nat → Int32) (n a : Nat) : Prop := a ≤ n ∧ (∀ i, a ≤ i → i < n → ¬ own_gd kk (f i) = 0) ∧ (∀ i j, a ≤ i → i < j → j < n → ¬ (¬ own_pd kk (f i) = 0 ∧ ¬ own_inR kk (f j) = 0))
theorem own_rf1 {kk : Int32} {f : Nat → Int32} {n a : Nat} (h : own_EX kk f n a) : own_rf kk f n a = 1 := by
  obtain ⟨hA, hg, hp⟩ := h
  obtain ⟨a1, a2, a3, a4⟩ := own_wispec (own_g1 kk f) n n a (by omega)
  obtain ⟨b1, b2, b3, b4⟩ := own_i2spec kk f n a
  change a ≤ own_i1 kk f n a at a1
  change a ≤ n → own_i1 kk f n a ≤ n at a2
  change own_i1 kk f n a < n → own_inR kk (f (own_i1 kk f n a)) = 0 at a4
  rw [own_rf, if_pos]
  refine Decidable.byContradiction fun hne => ?_
  have h1 := b2 (a2 hA)
  have h2 : own_i2 kk f n a < n := by omega
  have h3 := a4 (by omega)
  have h4 := hg (own_i1 kk f n a) a1 (by omega)
  have h5 : ¬ own_pd kk (f (own_i1 kk f n a)) = 0 := fun z => h4 (own_gd0.mpr ⟨h3, z⟩)
  have h6 := own_pd1.mp h5
  have h7 := b4 h2 h6.1
  have h8 := hg (own_i2 kk f n a) (by omega) h2
  have h9 : ¬ own_inR kk (f (own_i2 kk f n a)) = 0 := fun z => h8 (own_gd0.mpr ⟨z, Decidable.byContradiction fun y => h7 (own_pd1.mp y).2.1⟩)
  have h10 : own_i1 kk f n a ≠ own_i2 kk f n a := fun z => h9 (z ▸ h3)
  exact hp _ _ a1 (by omega) h2 ⟨h5, h9⟩
theorem own_rf0 {kk : Int32} {f : Nat → Int32} {n a : Nat} (h : ¬ own_EX kk f n a) : own_rf kk f n a = 0 := by
  obtain ⟨a1, a2, a3, a4⟩ := own_wispec (own_g1 kk f) n n a (by omega)
  obtain ⟨b1, b2, b3, b4⟩ := own_i2spec kk f n a
  change a ≤ own_i1 kk f n a at a1
  change ∀ j, a ≤ j → j < own_i1 kk f n a → ¬ own_inR kk (f j) = 0 at a3
  rw [own_rf, if_neg]
  intro e
  refine h ⟨by omega, fun i h1 h2 z => ?_, fun i j h1 h2 h3 h4 => ?_⟩
  · obtain ⟨z1, z2⟩ := own_gd0.mp z
    by_cases q : i < own_i1 kk f n a
    · exact a3 i h1 q z1
    · obtain ⟨y1, y2⟩ := b3 i (by omega) (by omega)
      exact own_pd1.mpr ⟨y1, y2, z1⟩ z2
  · obtain ⟨z1, z2, z3⟩ := own_pd1.mp h4.1
    have q : ¬ i < own_i1 kk f n a := fun q => a3 i h1 q z3
    obtain ⟨y1, y2⟩ := b3 j (by omega) (by omega)
    exact h4.2 (by rw [y1, y2]; exact own_i132)
def own_b (i a n : Nat) : Int32 := if a ≤ i ∧ i < n then 1 else 0
theorem own_b0 {i a n : Nat} (h : i < a) : own_b i a n = 0 := by rw [own_b, if_neg]; omega
theorem own_b0' {i a n : Nat} (h : ¬ i < n) : own_b i a n = 0 := by rw [own_b, if_neg]; omega
theorem own_b1 {i a n : Nat} (h : ¬ i < a) (q : i < n) : own_b i a n = 1 := by rw [own_b, if_pos]; omega
theorem own_bp {i a n : Nat} (h : ¬ own_b i a n = 0) : a ≤ i ∧ i < n := Decidable.byContradiction fun z => h (by rw [own_b, if_neg z])
theorem own_bn {i a n : Nat} (h : a ≤ i) (q : i < n) : ¬ own_b i a n = 0 := by rw [own_b, if_pos ⟨h, q⟩]; decide
theorem own_EXmk {kk : Int32} {f : Nat → Int32} {n a : Nat} (hn : n ≤ 3) (hA : a ≤ n) (g0 : own_b 0 a n = 0 ∨ ¬ own_gd kk (f 0) = 0) (g1 : own_b 1 a n = 0 ∨ ¬ own_gd kk (f 1) = 0) (g2 : own_b 2 a n = 0 ∨ ¬ own_gd kk (f 2) = 0)
    (p0 : own_b 0 a n = 0 ∨ own_b 1 a n = 0 ∨ own_pd kk (f 0) = 0 ∨ own_inR kk (f 1) = 0) (p1 : own_b 0 a n = 0 ∨ own_b 2 a n = 0 ∨ own_pd kk (f 0) = 0 ∨ own_inR kk (f 2) = 0) (p2 : own_b 1 a n = 0 ∨ own_b 2 a n = 0 ∨ own_pd kk (f 1) = 0 ∨ own_inR kk (f 2) = 0) : own_EX kk f n a := by
  refine ⟨hA, fun i h1 h2 => ?_, fun i j h1 h2 h3 h4 => ?_⟩
  · rcases (show i = 0 ∨ i = 1 ∨ i = 2 by omega) with rfl | rfl | rfl
    · exact g0.resolve_left (own_bn h1 h2)
    · exact g1.resolve_left (own_bn h1 h2)
    · exact g2.resolve_left (own_bn h1 h2)
  · have q1 := own_bn h1 (show i < n by omega)
    have q2 := own_bn (i := j) (show a ≤ j by omega) h3
    rcases (show (i = 0 ∧ j = 1) ∨ (i = 0 ∧ j = 2) ∨ (i = 1 ∧ j = 2) by omega) with ⟨rfl, rfl⟩ | ⟨rfl, rfl⟩ | ⟨rfl, rfl⟩
    · exact h4.2 (((p0.resolve_left q1).resolve_left q2).resolve_left h4.1)
    · exact h4.2 (((p1.resolve_left q1).resolve_left q2).resolve_left h4.1)
    · exact h4.2 (((p2.resolve_left q1).resolve_left q2).resolve_left h4.1)
def own_f3 (x y z : Int32) (j : Nat) : Int32 := if j = 0 then x else if j = 1 then y else z
theorem own_f3c {x y z : Int32} (h1 : own_ch x) (h2 : own_ch y) (h3 : own_ch z) (j : Nat) : own_ch (own_f3 x y z j) := by
  unfold own_f3; split
  · exact h1
  · split
    · exact h2
    · exact h3
theorem own_xG0 {kk x y z : Int32} {n a : Nat} (hb : ¬ own_b 0 a n = 0) (hg : own_gd kk x = 0) : ¬ own_EX kk (own_f3 x y z) n a := fun q => by
  have h := q.2.1 0 (own_bp hb).1 (own_bp hb).2
  rw [show own_f3 x y z 0 = x from rfl] at h
  exact h hg
theorem own_xG1 {kk x y z : Int32} {n a : Nat} (hb : ¬ own_b 1 a n = 0) (hg : own_gd kk y = 0) : ¬ own_EX kk (own_f3 x y z) n a := fun q => by
  have h := q.2.1 1 (own_bp hb).1 (own_bp hb).2
  rw [show own_f3 x y z 1 = y from rfl] at h
  exact h hg
theorem own_xG2 {kk x y z : Int32} {n a : Nat} (hb : ¬ own_b 2 a n = 0) (hg : own_gd kk z = 0) : ¬ own_EX kk (own_f3 x y z) n a := fun q => by
  have h := q.2.1 2 (own_bp hb).1 (own_bp hb).2
  rw [show own_f3 x y z 2 = z from rfl] at h
  exact h hg
theorem own_xP0 {kk x y z : Int32} {n a : Nat} (hb : ¬ own_b 0 a n = 0) (hc : ¬ own_b 1 a n = 0) (hp : ¬ own_pd kk x = 0) (hi : ¬ own_inR kk y = 0) : ¬ own_EX kk (own_f3 x y z) n a := fun q => by
  have h := q.2.2 0 1 (own_bp hb).1 (by decide) (own_bp hc).2
  rw [show own_f3 x y z 0 = x from rfl, show own_f3 x y z 1 = y from rfl] at h
  exact h ⟨hp, hi⟩
theorem own_xP1 {kk x y z : Int32} {n a : Nat} (hb : ¬ own_b 0 a n = 0) (hc : ¬ own_b 2 a n = 0) (hp : ¬ own_pd kk x = 0) (hi : ¬ own_inR kk z = 0) : ¬ own_EX kk (own_f3 x y z) n a := fun q => by
  have h := q.2.2 0 2 (own_bp hb).1 (by decide) (own_bp hc).2
  rw [show own_f3 x y z 0 = x from rfl, show own_f3 x y z 2 = z from rfl] at h
  exact h ⟨hp, hi⟩
theorem own_xP2 {kk x y z : Int32} {n a : Nat} (hb : ¬ own_b 1 a n = 0) (hc : ¬ own_b 2 a n = 0) (hp : ¬ own_pd kk y = 0) (hi : ¬ own_inR kk z = 0) : ¬ own_EX kk (own_f3 x y z) n a := fun q => by
  have h := q.2.2 1 2 (own_bp hb).1 (by decide) (own_bp hc).2
  rw [show own_f3 x y z 1 = y from rfl, show own_f3 x y z 2 = z from rfl] at h
  exact h ⟨hp, hi⟩
theorem own_EX3 {kk x y z : Int32} {n a : Nat} (hn : n ≤ 3) (hA : a ≤ n) (g0 : own_b 0 a n = 0 ∨ ¬ own_gd kk x = 0) (g1 : own_b 1 a n = 0 ∨ ¬ own_gd kk y = 0) (g2 : own_b 2 a n = 0 ∨ ¬ own_gd kk z = 0)
    (p0 : own_b 0 a n = 0 ∨ own_b 1 a n = 0 ∨ own_pd kk x = 0 ∨ own_inR kk y = 0) (p1 : own_b 0 a n = 0 ∨ own_b 2 a n = 0 ∨ own_pd kk x = 0 ∨ own_inR kk z = 0) (p2 : own_b 1 a n = 0 ∨ own_b 2 a n = 0 ∨ own_pd kk y = 0 ∨ own_inR kk z = 0) : own_EX kk (own_f3 x y z) n a := by
  apply own_EXmk hn hA <;> simp only [show own_f3 x y z 0 = x from rfl, show own_f3 x y z 1 = y from rfl, show own_f3 x y z 2 = z from rfl]
  · exact g0
  · exact g1
  · exact g2
  · exact p0
  · exact p1
  · exact p2
/-! the six contents -/
def own_CT (Z : State) (ob ir : Addr) (C : String) (kk : Int32) : Prop := (C = "com/example/huiqiao/huiqiao/iso8583/SwitchField$Content" ∨ C = "com/example/huiqiao/huiqiao/iso8583/SwitchField$Content$1") ∧ Exa Z Z.heap ob C ∧ Fld Z Z.heap ob "com/example/huiqiao/huiqiao/iso8583/SwitchField$Content" "padded" "Z" (.int (own_pv kk)) ∧ Fld Z Z.heap ob "com/example/huiqiao/huiqiao/iso8583/SwitchField$Content" "inRun" "[Z" (.ref ir) ∧ ∃ ki : ClassId, Arv Z Z.heap ir ki .boolean (256 : Int32) (own_tab (fun j => own_inR kk (Int32.ofNat j)) 256) (.int (0 : Int32))
def own_CS (Z : State) (kk : Int32) (nm : String) : Prop := ∃ (ob ir : Addr) (C : String), Sta Z Z.heap "com/example/huiqiao/huiqiao/iso8583/SwitchField$Content" nm "Lcom/example/huiqiao/huiqiao/iso8583/SwitchField$Content;" (.ref ob) ∧ own_CT Z ob ir C kk
def own_CA (Z : State) : Prop := own_CS Z 0 "N" ∧ own_CS Z 1 "AN" ∧ own_CS Z 2 "ANS" ∧ own_CS Z 3 "Z" ∧ own_CS Z 4 "X_N" ∧ own_CS Z 5 "B"
theorem own_selC {Z s : State} {a0 args : Array Value} {y y2 : MethodName} (e : y2.cls = y.cls) (hZ : Z.Warmed39 s.vm) (ws : (Cond.selects y.cls y y).before a0 Z = true) (wp : (Cond.privateMethod y2).before a0 Z = true) (wn : (Cond.instanceMethod y2).before a0 Z = true) (hy : y2.cls ≠ "java/lang/invoke/MethodHandle" ∧ y2.cls ≠ "java/lang/invoke/VarHandle") : (Cond.selects y2.cls y2 y2).before args s = true := by
  have ws' : (Cond.selects y.cls y y).before args s = true := mv hZ ws
  obtain ⟨c, r, m, h1, h2, h3, h4, mk, h5, h6⟩ := Cond.selects_spec ws'
  exact Stand.selects_self_of_private (by rw [e]; exact findClass_of_methodNamed h3) h5 h6 (Cond.privateMethod_at (mvP hZ wp (args := args))) (mv hZ wn) hy
theorem own_selR {Z : State} {a0 : Array Value} (hw : ∀ d ∈ tables_1, d.before a0 Z = true) {C : String} (h : C = "com/example/huiqiao/huiqiao/iso8583/SwitchField$Content" ∨ C = "com/example/huiqiao/huiqiao/iso8583/SwitchField$Content$1") : (Cond.selects C ({ cls := "com/example/huiqiao/huiqiao/iso8583/SwitchField$Content", name := "runsFrom", desc := "(Ljava/lang/String;I)Z" } : Jvm.MethodName) ({ cls := "com/example/huiqiao/huiqiao/iso8583/SwitchField$Content", name := "runsFrom", desc := "(Ljava/lang/String;I)Z" } : Jvm.MethodName)).before a0 Z = true := by
  rcases h with rfl | rfl
  · exact (hw _ (List.mem_of_getElem? (i := 32) rfl))
  · exact (hw _ (List.mem_of_getElem? (i := 51) rfl))
theorem own_lenlt {args : Array Value} {first s : State} {o : Option Outcome} {idx : List Nat} {t : Term} {v : Value} {a : Addr} {cl : Cell} (h : (Term.length t).eval args first o idx s = some v) (ht : t.eval args first o idx s = some (.ref a)) (ha : s.arrayAt? a = some cl) : cl.slots.size < 2 ^ 31 ∧ v = .int cl.slots.size.toInt32 := by
  by_cases q : cl.slots.size < 2 ^ 31
  · rw [len_f ht ha q] at h; exact ⟨q, (Option.some.inj h).symm⟩
  · exfalso; simp [Term.eval, ht, ha, q] at h
theorem own_hasL {c : Cell} : ∀ (vs : List Value) (i : Nat), (∀ j, j < vs.length → c.slots[i + j]? = some (vs.getD j .null)) → HasL c i vs
  | [], _, _ => trivial
  | v :: r, i, h => ⟨by have := h 0 (by simp); simpa using this, own_hasL r (i + 1) fun j hj => by have := h (j + 1) (by simpa using hj); rw [show i + 1 + j = i + (j + 1) from by omega]; simpa using this⟩
theorem own_orv {args : Array Value} {s : State} {idx : List Nat} {a b : Cond} (h : (Cond.or a b).value args s none s idx = some true) : a.value args s none s idx = some true ∨ b.value args s none s idx = some true := by
  simp only [Cond.value] at h
  cases ha : a.value args s none s idx with
  | none => rw [ha] at h; cases h
  | some x =>
    cases x with
    | true => exact Or.inl rfl
    | false => rw [ha] at h; exact Or.inr h
theorem own_el {s : State} {args : Array Value} {F : Term} {ir : Addr} {cl : Cell} (et : ∀ idx, F.eval args s none idx s = some (.ref ir)) (A : Arr s s.heap ir cl .boolean) {j : Nat} {v : Int32} (hj : j < 256) (h : (Cond.eq (.elem F (.index 0)) (.int v)).value args s none s [j] = some true) : cl.slots[j]? = some (.int v) := by
  have q := elem_f (et [j]) (Term.index_eval (idx := []) j) (A.fin (Vm.Alike.refl _)) (own_nn (i := j) (by omega))
  have e : (Nat.toInt32 j).toNatClampNeg = j := own_clamp (by omega)
  rw [e] at q
  exact q.symm.trans (eqv_i (Term.int_eval v) h)
theorem own_ixlt {s : State} {args : Array Value} {lo : Int32} {j : Nat} (h : (Cond.lt (.index 0) (.int lo)).value args s none s [j] = some true) : Int32.ofNat j < lo := gotT (Cond.lt_ints (Term.index_eval (idx := []) j) (Term.int_eval lo)) h
theorem own_ixle {s : State} {args : Array Value} {hi : Int32} {j : Nat} (h : (Cond.le (.int hi) (.index 0)).value args s none s [j] = some true) : hi ≤ Int32.ofNat j := gotT (Cond.le_ints (Term.int_eval hi) (Term.index_eval (idx := []) j)) h
theorem own_rA {s : State} {args : Array Value} {F : Term} {ir : Addr} {cl : Cell} (et : ∀ idx, F.eval args s none idx s = some (.ref ir)) (A : Arr s s.heap ir cl .boolean) (hs : cl.slots.size = 256) {hi v : Int32} (h : (Cond.all F (.or (.le (.int hi) (.index 0)) (.eq (.elem F (.index 0)) (.int v)))).value args s none s [] = some true) {j : Nat} (hj : j < 256) (q : ¬ hi ≤ Int32.ofNat j) : cl.slots[j]? = some (.int v) := by
  rcases own_orv (Cond.all_elim (et []) (A.fin (Vm.Alike.refl _)) h j (by omega)) with z | z
  · exact absurd (own_ixle z) q
  · exact own_el et A hj z
theorem own_rB {s : State} {args : Array Value} {F : Term} {ir : Addr} {cl : Cell} (et : ∀ idx, F.eval args s none idx s = some (.ref ir)) (A : Arr s s.heap ir cl .boolean) (hs : cl.slots.size = 256) {lo hi v : Int32} (h : (Cond.all F (.or (.lt (.index 0) (.int lo)) (.or (.le (.int hi) (.index 0)) (.eq (.elem F (.index 0)) (.int v))))).value args s none s [] = some true) {j : Nat} (hj : j < 256) (q1 : ¬ Int32.ofNat j < lo) (q : ¬ hi ≤ Int32.ofNat j) : cl.slots[j]? = some (.int v) := by
  rcases own_orv (Cond.all_elim (et []) (A.fin (Vm.Alike.refl _)) h j (by omega)) with z | z
  · exact absurd (own_ixlt z) q1
  · rcases own_orv z with z | z
    · exact absurd (own_ixle z) q
    · exact own_el et A hj z
theorem own_rC {s : State} {args : Array Value} {F : Term} {ir : Addr} {cl : Cell} (et : ∀ idx, F.eval args s none idx s = some (.ref ir)) (A : Arr s s.heap ir cl .boolean) (hs : cl.slots.size = 256) {lo v : Int32} (h : (Cond.all F (.or (.lt (.index 0) (.int lo)) (.eq (.elem F (.index 0)) (.int v)))).value args s none s [] = some true) {j : Nat} (hj : j < 256) (q1 : ¬ Int32.ofNat j < lo) : cl.slots[j]? = some (.int v) := by
  rcases own_orv (Cond.all_elim (et []) (A.fin (Vm.Alike.refl _)) h j (by omega)) with z | z
  · exact absurd (own_ixlt z) q1
  · exact own_el et A hj z
theorem own_rD {s : State} {args : Array Value} {F : Term} {ir : Addr} {cl : Cell} (et : ∀ idx, F.eval args s none idx s = some (.ref ir)) (A : Arr s s.heap ir cl .boolean) (hs : cl.slots.size = 256) {v : Int32} (h : (Cond.all F (.eq (.elem F (.index 0)) (.int v))).value args s none s [] = some true) {j : Nat} (hj : j < 256) : cl.slots[j]? = some (.int v) := own_el et A hj (Cond.all_elim (et []) (A.fin (Vm.Alike.refl _)) h j (by omega))
theorem own_rE {s : State} {args : Array Value} {F : Term} {ir : Addr} {cl : Cell} (et : ∀ idx, F.eval args s none idx s = some (.ref ir)) (A : Arr s s.heap ir cl .boolean) {i v : Int32} (h : (Cond.eq (.elem F (.int i)) (.int v)).value args s none s [] = some true) (hi : ¬ i < 0) : cl.slots[i.toNatClampNeg]? = some (.int v) := (elem_f (et []) (Term.int_eval i) (A.fin (Vm.Alike.refl _)) hi).symm.trans (eqv_i (Term.int_eval v) h)
theorem own_leN {hi : Int32} {j : Nat} (n : Nat) (e : hi = Int32.ofNat n) (hn : n < 2147483648) (hj : j < 256) (h : j < n) : ¬ hi ≤ Int32.ofNat j := by
  rw [e, Int32.le_iff_toInt_le, own_toN hn, own_toN (by omega)]; omega
theorem own_ltN' {lo : Int32} {j : Nat} (n : Nat) (e : lo = Int32.ofNat n) (hn : n < 2147483648) (hj : j < 256) (h : n ≤ j) : ¬ Int32.ofNat j < lo := by
  rw [e, Int32.lt_iff_toInt_lt, own_toN hn, own_toN (by omega)]; omega
theorem own_CSmk {s : State} {args : Array Value} {nm C : String} {kk pv : Int32} (hf : Fit s) (hC : C = "com/example/huiqiao/huiqiao/iso8583/SwitchField$Content" ∨ C = "com/example/huiqiao/huiqiao/iso8583/SwitchField$Content$1") (hi : (Cond.initialized "com/example/huiqiao/huiqiao/iso8583/SwitchField$Content").before args s = true) (hl : (Cond.laysStatic "com/example/huiqiao/huiqiao/iso8583/SwitchField$Content" nm "Lcom/example/huiqiao/huiqiao/iso8583/SwitchField$Content;").before args s = true) (hpv : pv = own_pv kk)
    (x1 : (Cond.exactly (.static "com/example/huiqiao/huiqiao/iso8583/SwitchField$Content" nm "Lcom/example/huiqiao/huiqiao/iso8583/SwitchField$Content;") C).value args s none s [] = some true) (x2 : (Cond.eq (.field (.static "com/example/huiqiao/huiqiao/iso8583/SwitchField$Content" nm "Lcom/example/huiqiao/huiqiao/iso8583/SwitchField$Content;") "com/example/huiqiao/huiqiao/iso8583/SwitchField$Content" "padded" "Z") (.int pv)).value args s none s [] = some true) (x3 : (Cond.arrayOf (.field (.static "com/example/huiqiao/huiqiao/iso8583/SwitchField$Content" nm "Lcom/example/huiqiao/huiqiao/iso8583/SwitchField$Content;") "com/example/huiqiao/huiqiao/iso8583/SwitchField$Content" "inRun" "[Z") .boolean).value args s none s [] = some true) (x4 : (Cond.eq (.length (.field (.static "com/example/huiqiao/huiqiao/iso8583/SwitchField$Content" nm "Lcom/example/huiqiao/huiqiao/iso8583/SwitchField$Content;") "com/example/huiqiao/huiqiao/iso8583/SwitchField$Content" "inRun" "[Z")) (.int (256 : Int32))).value args s none s [] = some true)
    (x5 : ∀ (ir : Addr) (cl : Cell), (∀ idx, (Term.field (.static "com/example/huiqiao/huiqiao/iso8583/SwitchField$Content" nm "Lcom/example/huiqiao/huiqiao/iso8583/SwitchField$Content;") "com/example/huiqiao/huiqiao/iso8583/SwitchField$Content" "inRun" "[Z").eval args s none idx s = some (.ref ir)) → Arr s s.heap ir cl .boolean → cl.slots.size = 256 → ∀ j, j < 256 → cl.slots[j]? = some (.int (own_inR kk (Int32.ofNat j)))) : own_CS s kk nm := by
  obtain ⟨ob, eo⟩ := exa_v x1
  obtain ⟨ir, ei⟩ := arr_v x3
  obtain ⟨cl, A⟩ := Arr.start ei x3
  obtain ⟨zl, ezl⟩ := own_lenlt (eqv_i (Term.int_eval (256 : Int32)) x4) ei (A.fin (Vm.Alike.refl _))
  have e256 : cl.slots.size.toInt32 = (256 : Int32) := (Value.int.inj ezl).symm
  have hs : cl.slots.size = 256 := by
    have q := congrArg Int32.toInt e256
    rw [len_toInt zl, show (256 : Int32).toInt = 256 from by decide] at q
    omega
  have H := x5 ir cl (fun _ => ei) A hs
  refine ⟨ob, ir, C, Sta.start eo (Or.inr ⟨hi, hl⟩), hC, Exa.start eo x1, Fld.start ((fld_at eo).symm.trans (hpv ▸ eqv_i (Term.int_eval pv) x2)), Fld.start ((fld_at eo).symm.trans ei), cl.cls, Arv.start hf A zl e256 (by decide) ?_ (own_hasL _ 0 fun j hj => ?_)⟩
  · rw [own_tab_len]; decide
  · rw [own_tab_len] at hj
    rw [Nat.zero_add, H j hj, own_tab_get hj]

theorem d1_0 : decode jdk_42_method_3_code 0 = .ok (.aload_n 0, 1) := by decide +kernel
theorem d1_1 : decode jdk_42_method_3_code 1 = .ok (.aload_n 1, 1) := by decide +kernel
theorem d1_2 : decode jdk_42_method_3_code 2 = .ok (.iconst 0, 1) := by decide +kernel
theorem d1_3 : decode jdk_42_method_3_code 3 = .ok (.aload_n 1, 1) := by decide +kernel
theorem d1_4 : decode jdk_42_method_3_code 4 = .ok (.arraylength, 1) := by decide +kernel
theorem d1_5 : decode jdk_42_method_3_code 5 = .ok (.aconst_null, 1) := by decide +kernel
theorem d1_6 : decode jdk_42_method_3_code 6 = .ok (.invokespecial 27, 3) := by decide +kernel
theorem d1_9 : decode jdk_42_method_3_code 9 = .ok (.return_, 1) := by decide +kernel
theorem d2_0 : decode jdk_42_method_149_code 0 = .ok (.aload_n 0, 1) := by decide +kernel
theorem d2_1 : decode jdk_42_method_149_code 1 = .ok (.invokespecial 1, 3) := by decide +kernel
theorem d2_4 : decode jdk_42_method_149_code 4 = .ok (.iload_n 3, 1) := by decide +kernel
theorem d2_5 : decode jdk_42_method_149_code 5 = .ok (.ifCond .ne 22, 3) := by decide +kernel
theorem d2_8 : decode jdk_42_method_149_code 8 = .ok (.aload_n 0, 1) := by decide +kernel
theorem d2_9 : decode jdk_42_method_149_code 9 = .ok (.ldc 7, 2) := by decide +kernel
theorem d2_11 : decode jdk_42_method_149_code 11 = .ok (.getfield 9, 3) := by decide +kernel
theorem d2_14 : decode jdk_42_method_149_code 14 = .ok (.putfield 9, 3) := by decide +kernel
theorem d2_17 : decode jdk_42_method_149_code 17 = .ok (.aload_n 0, 1) := by decide +kernel
theorem d2_18 : decode jdk_42_method_149_code 18 = .ok (.ldc 7, 2) := by decide +kernel
theorem d2_20 : decode jdk_42_method_149_code 20 = .ok (.getfield 15, 3) := by decide +kernel
theorem d2_23 : decode jdk_42_method_149_code 23 = .ok (.putfield 15, 3) := by decide +kernel
theorem d2_26 : decode jdk_42_method_149_code 26 = .ok (.return_, 1) := by decide +kernel
theorem d2_27 : decode jdk_42_method_149_code 27 = .ok (.getstatic 38, 3) := by decide +kernel
theorem d2_30 : decode jdk_42_method_149_code 30 = .ok (.ifCond .eq 28, 3) := by decide +kernel
theorem d2_33 : decode jdk_42_method_149_code 33 = .ok (.aload_n 1, 1) := by decide +kernel
theorem d2_34 : decode jdk_42_method_149_code 34 = .ok (.iload_n 2, 1) := by decide +kernel
theorem d2_35 : decode jdk_42_method_149_code 35 = .ok (.iload_n 3, 1) := by decide +kernel
theorem d2_36 : decode jdk_42_method_149_code 36 = .ok (.invokestatic 177, 3) := by decide +kernel
theorem d2_39 : decode jdk_42_method_149_code 39 = .ok (.astore 5, 2) := by decide +kernel
theorem d2_41 : decode jdk_42_method_149_code 41 = .ok (.aload_n 0, 1) := by decide +kernel
theorem d2_42 : decode jdk_42_method_149_code 42 = .ok (.aload 5, 2) := by decide +kernel
theorem d2_44 : decode jdk_42_method_149_code 44 = .ok (.iload_n 3, 1) := by decide +kernel
theorem d2_45 : decode jdk_42_method_149_code 45 = .ok (.invokestatic 47, 3) := by decide +kernel
theorem d2_48 : decode jdk_42_method_149_code 48 = .ok (.putfield 15, 3) := by decide +kernel
theorem d2_51 : decode jdk_42_method_149_code 51 = .ok (.aload_n 0, 1) := by decide +kernel
theorem d2_52 : decode jdk_42_method_149_code 52 = .ok (.aload 5, 2) := by decide +kernel
theorem d2_54 : decode jdk_42_method_149_code 54 = .ok (.putfield 9, 3) := by decide +kernel
theorem d2_57 : decode jdk_42_method_149_code 57 = .ok (.return_, 1) := by decide +kernel
theorem d4_0 : decode method_5_code 0 = .ok (.iload_n 0, 1) := by decide +kernel
theorem d4_1 : decode method_5_code 1 = .ok (.ifCond .ne 7, 3) := by decide +kernel
theorem d4_4 : decode method_5_code 4 = .ok (.getstatic 16, 3) := by decide +kernel
theorem d4_7 : decode method_5_code 7 = .ok (.areturn, 1) := by decide +kernel
theorem d4_8 : decode method_5_code 8 = .ok (.iload_n 0, 1) := by decide +kernel
theorem d4_9 : decode method_5_code 9 = .ok (.iconst 1, 1) := by decide +kernel
theorem d4_10 : decode method_5_code 10 = .ok (.if_icmp .ne 7, 3) := by decide +kernel
theorem d4_13 : decode method_5_code 13 = .ok (.getstatic 22, 3) := by decide +kernel
theorem d4_16 : decode method_5_code 16 = .ok (.areturn, 1) := by decide +kernel
theorem d4_17 : decode method_5_code 17 = .ok (.iload_n 0, 1) := by decide +kernel
theorem d4_18 : decode method_5_code 18 = .ok (.iconst 2, 1) := by decide +kernel
theorem d4_19 : decode method_5_code 19 = .ok (.if_icmp .ne 7, 3) := by decide +kernel
theorem d4_22 : decode method_5_code 22 = .ok (.getstatic 25, 3) := by decide +kernel
theorem d4_25 : decode method_5_code 25 = .ok (.areturn, 1) := by decide +kernel
theorem d4_26 : decode method_5_code 26 = .ok (.iload_n 0, 1) := by decide +kernel
theorem d4_27 : decode method_5_code 27 = .ok (.iconst 3, 1) := by decide +kernel
theorem d4_28 : decode method_5_code 28 = .ok (.if_icmp .ne 7, 3) := by decide +kernel
theorem d4_31 : decode method_5_code 31 = .ok (.getstatic 28, 3) := by decide +kernel
theorem d4_34 : decode method_5_code 34 = .ok (.areturn, 1) := by decide +kernel
theorem d4_35 : decode method_5_code 35 = .ok (.iload_n 0, 1) := by decide +kernel
theorem d4_36 : decode method_5_code 36 = .ok (.iconst 4, 1) := by decide +kernel
theorem d4_37 : decode method_5_code 37 = .ok (.if_icmp .ne 7, 3) := by decide +kernel
theorem d4_40 : decode method_5_code 40 = .ok (.getstatic 31, 3) := by decide +kernel
theorem d4_43 : decode method_5_code 43 = .ok (.areturn, 1) := by decide +kernel
theorem d4_44 : decode method_5_code 44 = .ok (.getstatic 34, 3) := by decide +kernel
theorem d4_47 : decode method_5_code 47 = .ok (.areturn, 1) := by decide +kernel
theorem d5_0 : decode prog_34_method_5_code 0 = .ok (.aload_n 1, 1) := by decide +kernel
theorem d5_1 : decode prog_34_method_5_code 1 = .ok (.invokevirtual 62, 3) := by decide +kernel
theorem d5_4 : decode prog_34_method_5_code 4 = .ok (.istore_n 3, 1) := by decide +kernel
theorem d5_5 : decode prog_34_method_5_code 5 = .ok (.iload_n 2, 1) := by decide +kernel
theorem d5_6 : decode prog_34_method_5_code 6 = .ok (.iload_n 3, 1) := by decide +kernel
theorem d5_7 : decode prog_34_method_5_code 7 = .ok (.if_icmp .ge 21, 3) := by decide +kernel
theorem d5_10 : decode prog_34_method_5_code 10 = .ok (.aload_n 0, 1) := by decide +kernel
theorem d5_11 : decode prog_34_method_5_code 11 = .ok (.aload_n 1, 1) := by decide +kernel
theorem d5_12 : decode prog_34_method_5_code 12 = .ok (.iload_n 2, 1) := by decide +kernel
theorem d5_13 : decode prog_34_method_5_code 13 = .ok (.invokevirtual 68, 3) := by decide +kernel
theorem d5_16 : decode prog_34_method_5_code 16 = .ok (.invokevirtual 72, 3) := by decide +kernel
theorem d5_19 : decode prog_34_method_5_code 19 = .ok (.ifCond .eq 9, 3) := by decide +kernel
theorem d5_22 : decode prog_34_method_5_code 22 = .ok (.iinc 2 1, 3) := by decide +kernel
theorem d5_25 : decode prog_34_method_5_code 25 = .ok (.goto (-20), 3) := by decide +kernel
theorem d5_28 : decode prog_34_method_5_code 28 = .ok (.aload_n 0, 1) := by decide +kernel
theorem d5_29 : decode prog_34_method_5_code 29 = .ok (.getfield 49, 3) := by decide +kernel
theorem d5_32 : decode prog_34_method_5_code 32 = .ok (.ifCond .eq 24, 3) := by decide +kernel
theorem d5_35 : decode prog_34_method_5_code 35 = .ok (.iload_n 2, 1) := by decide +kernel
theorem d5_36 : decode prog_34_method_5_code 36 = .ok (.iload_n 3, 1) := by decide +kernel
theorem d5_37 : decode prog_34_method_5_code 37 = .ok (.if_icmp .ge 19, 3) := by decide +kernel
theorem d5_40 : decode prog_34_method_5_code 40 = .ok (.aload_n 1, 1) := by decide +kernel
theorem d5_41 : decode prog_34_method_5_code 41 = .ok (.iload_n 2, 1) := by decide +kernel
theorem d5_42 : decode prog_34_method_5_code 42 = .ok (.invokevirtual 68, 3) := by decide +kernel
theorem d5_45 : decode prog_34_method_5_code 45 = .ok (.bipush 32, 2) := by decide +kernel
theorem d5_47 : decode prog_34_method_5_code 47 = .ok (.if_icmp .ne 9, 3) := by decide +kernel
theorem d5_50 : decode prog_34_method_5_code 50 = .ok (.iinc 2 1, 3) := by decide +kernel
theorem d5_53 : decode prog_34_method_5_code 53 = .ok (.goto (-25), 3) := by decide +kernel
theorem d5_56 : decode prog_34_method_5_code 56 = .ok (.iload_n 2, 1) := by decide +kernel
theorem d5_57 : decode prog_34_method_5_code 57 = .ok (.iload_n 3, 1) := by decide +kernel
theorem d5_58 : decode prog_34_method_5_code 58 = .ok (.if_icmp .ne 7, 3) := by decide +kernel
theorem d5_61 : decode prog_34_method_5_code 61 = .ok (.iconst 1, 1) := by decide +kernel
theorem d5_62 : decode prog_34_method_5_code 62 = .ok (.goto 4, 3) := by decide +kernel
theorem d5_65 : decode prog_34_method_5_code 65 = .ok (.iconst 0, 1) := by decide +kernel
theorem d5_66 : decode prog_34_method_5_code 66 = .ok (.ireturn, 1) := by decide +kernel
theorem d6_0 : decode jdk_42_method_54_code 0 = .ok (.aload_n 0, 1) := by decide +kernel
theorem d6_1 : decode jdk_42_method_54_code 1 = .ok (.getfield 9, 3) := by decide +kernel
theorem d6_4 : decode jdk_42_method_54_code 4 = .ok (.arraylength, 1) := by decide +kernel
theorem d6_5 : decode jdk_42_method_54_code 5 = .ok (.aload_n 0, 1) := by decide +kernel
theorem d6_6 : decode jdk_42_method_54_code 6 = .ok (.invokevirtual 335, 3) := by decide +kernel
theorem d6_9 : decode jdk_42_method_54_code 9 = .ok (.ishr, 1) := by decide +kernel
theorem d6_10 : decode jdk_42_method_54_code 10 = .ok (.ireturn, 1) := by decide +kernel
theorem d7_0 : decode jdk_42_method_152_code 0 = .ok (.getstatic 38, 3) := by decide +kernel
theorem d7_3 : decode jdk_42_method_152_code 3 = .ok (.ifCond .eq 10, 3) := by decide +kernel
theorem d7_6 : decode jdk_42_method_152_code 6 = .ok (.aload_n 0, 1) := by decide +kernel
theorem d7_7 : decode jdk_42_method_152_code 7 = .ok (.getfield 15, 3) := by decide +kernel
theorem d7_10 : decode jdk_42_method_152_code 10 = .ok (.goto 4, 3) := by decide +kernel
theorem d7_14 : decode jdk_42_method_152_code 14 = .ok (.ireturn, 1) := by decide +kernel
theorem d8_0 : decode jdk_52_method_16_code 0 = .ok (.iload_n 2, 1) := by decide +kernel
theorem d8_1 : decode jdk_52_method_16_code 1 = .ok (.newarray .byte, 2) := by decide +kernel
theorem d8_3 : decode jdk_52_method_16_code 3 = .ok (.astore_n 3, 1) := by decide +kernel
theorem d8_4 : decode jdk_52_method_16_code 4 = .ok (.aload_n 0, 1) := by decide +kernel
theorem d8_5 : decode jdk_52_method_16_code 5 = .ok (.iload_n 1, 1) := by decide +kernel
theorem d8_6 : decode jdk_52_method_16_code 6 = .ok (.aload_n 3, 1) := by decide +kernel
theorem d8_7 : decode jdk_52_method_16_code 7 = .ok (.iconst 0, 1) := by decide +kernel
theorem d8_8 : decode jdk_52_method_16_code 8 = .ok (.iload_n 2, 1) := by decide +kernel
theorem d8_9 : decode jdk_52_method_16_code 9 = .ok (.invokestatic 115, 3) := by decide +kernel
theorem d8_12 : decode jdk_52_method_16_code 12 = .ok (.istore 4, 2) := by decide +kernel
theorem d8_14 : decode jdk_52_method_16_code 14 = .ok (.iload 4, 2) := by decide +kernel
theorem d8_16 : decode jdk_52_method_16_code 16 = .ok (.iload_n 2, 1) := by decide +kernel
theorem d8_17 : decode jdk_52_method_16_code 17 = .ok (.if_icmp .eq 40, 3) := by decide +kernel
theorem d8_20 : decode jdk_52_method_16_code 20 = .ok (.aload_n 0, 1) := by decide +kernel
theorem d8_21 : decode jdk_52_method_16_code 21 = .ok (.iload_n 1, 1) := by decide +kernel
theorem d8_22 : decode jdk_52_method_16_code 22 = .ok (.iload_n 2, 1) := by decide +kernel
theorem d8_23 : decode jdk_52_method_16_code 23 = .ok (.invokestatic 119, 3) := by decide +kernel
theorem d8_26 : decode jdk_52_method_16_code 26 = .ok (.astore 5, 2) := by decide +kernel
theorem d8_28 : decode jdk_52_method_16_code 28 = .ok (.aload 5, 2) := by decide +kernel
theorem d8_30 : decode jdk_52_method_16_code 30 = .ok (.iload 4, 2) := by decide +kernel
theorem d8_32 : decode jdk_52_method_16_code 32 = .ok (.invokestatic 71, 3) := by decide +kernel
theorem d8_35 : decode jdk_52_method_16_code 35 = .ok (.sipush 255, 3) := by decide +kernel
theorem d8_38 : decode jdk_52_method_16_code 38 = .ok (.if_icmp .gt 16, 3) := by decide +kernel
theorem d8_54 : decode jdk_52_method_16_code 54 = .ok (.aload 5, 2) := by decide +kernel
theorem d8_56 : decode jdk_52_method_16_code 56 = .ok (.areturn, 1) := by decide +kernel
theorem d8_57 : decode jdk_52_method_16_code 57 = .ok (.aload_n 3, 1) := by decide +kernel
theorem d8_58 : decode jdk_52_method_16_code 58 = .ok (.areturn, 1) := by decide +kernel
theorem d9_0 : decode jdk_52_method_21_code 0 = .ok (.iconst 0, 1) := by decide +kernel
theorem d9_1 : decode jdk_52_method_21_code 1 = .ok (.istore 5, 2) := by decide +kernel
theorem d9_3 : decode jdk_52_method_21_code 3 = .ok (.iload 5, 2) := by decide +kernel
theorem d9_5 : decode jdk_52_method_21_code 5 = .ok (.iload 4, 2) := by decide +kernel
theorem d9_7 : decode jdk_52_method_21_code 7 = .ok (.if_icmp .ge 37, 3) := by decide +kernel
theorem d9_10 : decode jdk_52_method_21_code 10 = .ok (.aload_n 0, 1) := by decide +kernel
theorem d9_11 : decode jdk_52_method_21_code 11 = .ok (.iload_n 1, 1) := by decide +kernel
theorem d9_12 : decode jdk_52_method_21_code 12 = .ok (.caload, 1) := by decide +kernel
theorem d9_13 : decode jdk_52_method_21_code 13 = .ok (.istore 6, 2) := by decide +kernel
theorem d9_15 : decode jdk_52_method_21_code 15 = .ok (.iload 6, 2) := by decide +kernel
theorem d9_17 : decode jdk_52_method_21_code 17 = .ok (.sipush 255, 3) := by decide +kernel
theorem d9_20 : decode jdk_52_method_21_code 20 = .ok (.if_icmp .le 6, 3) := by decide +kernel
theorem d9_23 : decode jdk_52_method_21_code 23 = .ok (.iload 5, 2) := by decide +kernel
theorem d9_25 : decode jdk_52_method_21_code 25 = .ok (.ireturn, 1) := by decide +kernel
theorem d9_26 : decode jdk_52_method_21_code 26 = .ok (.aload_n 2, 1) := by decide +kernel
theorem d9_27 : decode jdk_52_method_21_code 27 = .ok (.iload_n 3, 1) := by decide +kernel
theorem d9_28 : decode jdk_52_method_21_code 28 = .ok (.iload 6, 2) := by decide +kernel
theorem d9_30 : decode jdk_52_method_21_code 30 = .ok (.i2b, 1) := by decide +kernel
theorem d9_31 : decode jdk_52_method_21_code 31 = .ok (.bastore, 1) := by decide +kernel
theorem d9_32 : decode jdk_52_method_21_code 32 = .ok (.iinc 1 1, 3) := by decide +kernel
theorem d9_35 : decode jdk_52_method_21_code 35 = .ok (.iinc 3 1, 3) := by decide +kernel
theorem d9_38 : decode jdk_52_method_21_code 38 = .ok (.iinc 5 1, 3) := by decide +kernel
theorem d9_41 : decode jdk_52_method_21_code 41 = .ok (.goto (-38), 3) := by decide +kernel
theorem d9_44 : decode jdk_52_method_21_code 44 = .ok (.iload 4, 2) := by decide +kernel
theorem d9_46 : decode jdk_52_method_21_code 46 = .ok (.ireturn, 1) := by decide +kernel
theorem d10_0 : decode jdk_52_method_15_code 0 = .ok (.iload_n 1, 1) := by decide +kernel
theorem d10_1 : decode jdk_52_method_15_code 1 = .ok (.aload_n 0, 1) := by decide +kernel
theorem d10_2 : decode jdk_52_method_15_code 2 = .ok (.arraylength, 1) := by decide +kernel
theorem d10_3 : decode jdk_52_method_15_code 3 = .ok (.isub, 1) := by decide +kernel
theorem d10_4 : decode jdk_52_method_15_code 4 = .ok (.bipush 31, 2) := by decide +kernel
theorem d10_6 : decode jdk_52_method_15_code 6 = .ok (.iushr, 1) := by decide +kernel
theorem d10_7 : decode jdk_52_method_15_code 7 = .ok (.i2b, 1) := by decide +kernel
theorem d10_8 : decode jdk_52_method_15_code 8 = .ok (.ireturn, 1) := by decide +kernel
theorem d11_0 : decode jdk_52_method_14_code 0 = .ok (.iload_n 2, 1) := by decide +kernel
theorem d11_1 : decode jdk_52_method_14_code 1 = .ok (.invokestatic 107, 3) := by decide +kernel
theorem d11_4 : decode jdk_52_method_14_code 4 = .ok (.astore_n 3, 1) := by decide +kernel
theorem d11_5 : decode jdk_52_method_14_code 5 = .ok (.iconst 0, 1) := by decide +kernel
theorem d11_6 : decode jdk_52_method_14_code 6 = .ok (.istore 4, 2) := by decide +kernel
theorem d11_8 : decode jdk_52_method_14_code 8 = .ok (.iload 4, 2) := by decide +kernel
theorem d11_10 : decode jdk_52_method_14_code 10 = .ok (.iload_n 2, 1) := by decide +kernel
theorem d11_11 : decode jdk_52_method_14_code 11 = .ok (.if_icmp .ge 21, 3) := by decide +kernel
theorem d11_14 : decode jdk_52_method_14_code 14 = .ok (.aload_n 3, 1) := by decide +kernel
theorem d11_15 : decode jdk_52_method_14_code 15 = .ok (.iload 4, 2) := by decide +kernel
theorem d11_17 : decode jdk_52_method_14_code 17 = .ok (.aload_n 0, 1) := by decide +kernel
theorem d11_18 : decode jdk_52_method_14_code 18 = .ok (.iload_n 1, 1) := by decide +kernel
theorem d11_19 : decode jdk_52_method_14_code 19 = .ok (.caload, 1) := by decide +kernel
theorem d11_20 : decode jdk_52_method_14_code 20 = .ok (.invokestatic 111, 3) := by decide +kernel
theorem d11_23 : decode jdk_52_method_14_code 23 = .ok (.iinc 1 1, 3) := by decide +kernel
theorem d11_26 : decode jdk_52_method_14_code 26 = .ok (.iinc 4 1, 3) := by decide +kernel
theorem d11_29 : decode jdk_52_method_14_code 29 = .ok (.goto (-21), 3) := by decide +kernel
theorem d11_32 : decode jdk_52_method_14_code 32 = .ok (.aload_n 3, 1) := by decide +kernel
theorem d11_33 : decode jdk_52_method_14_code 33 = .ok (.areturn, 1) := by decide +kernel
theorem d12_0 : decode jdk_52_method_2_code 0 = .ok (.iload_n 0, 1) := by decide +kernel
theorem d12_1 : decode jdk_52_method_2_code 1 = .ok (.invokestatic 11, 3) := by decide +kernel
theorem d12_4 : decode jdk_52_method_2_code 4 = .ok (.newarray .byte, 2) := by decide +kernel
theorem d12_6 : decode jdk_52_method_2_code 6 = .ok (.areturn, 1) := by decide +kernel
theorem d13_0 : decode jdk_52_method_3_code 0 = .ok (.iload_n 0, 1) := by decide +kernel
theorem d13_1 : decode jdk_52_method_3_code 1 = .ok (.ifCond .ge 11, 3) := by decide +kernel
theorem d13_12 : decode jdk_52_method_3_code 12 = .ok (.iload_n 0, 1) := by decide +kernel
theorem d13_13 : decode jdk_52_method_3_code 13 = .ok (.ldc 20, 2) := by decide +kernel
theorem d13_15 : decode jdk_52_method_3_code 15 = .ok (.if_icmp .lt 40, 3) := by decide +kernel
theorem d13_55 : decode jdk_52_method_3_code 55 = .ok (.iload_n 0, 1) := by decide +kernel
theorem d13_56 : decode jdk_52_method_3_code 56 = .ok (.iconst 1, 1) := by decide +kernel
theorem d13_57 : decode jdk_52_method_3_code 57 = .ok (.ishl, 1) := by decide +kernel
theorem d13_58 : decode jdk_52_method_3_code 58 = .ok (.ireturn, 1) := by decide +kernel
theorem d14_0 : decode jdk_52_method_4_code 0 = .ok (.getstatic 44, 3) := by decide +kernel
theorem d14_3 : decode jdk_52_method_4_code 3 = .ok (.ifCond .ne 25, 3) := by decide +kernel
theorem d14_28 : decode jdk_52_method_4_code 28 = .ok (.iload_n 1, 1) := by decide +kernel
theorem d14_29 : decode jdk_52_method_4_code 29 = .ok (.iconst 1, 1) := by decide +kernel
theorem d14_30 : decode jdk_52_method_4_code 30 = .ok (.ishl, 1) := by decide +kernel
theorem d14_31 : decode jdk_52_method_4_code 31 = .ok (.istore_n 1, 1) := by decide +kernel
theorem d14_32 : decode jdk_52_method_4_code 32 = .ok (.aload_n 0, 1) := by decide +kernel
theorem d14_33 : decode jdk_52_method_4_code 33 = .ok (.iload_n 1, 1) := by decide +kernel
theorem d14_34 : decode jdk_52_method_4_code 34 = .ok (.iinc 1 1, 3) := by decide +kernel
theorem d14_37 : decode jdk_52_method_4_code 37 = .ok (.iload_n 2, 1) := by decide +kernel
theorem d14_38 : decode jdk_52_method_4_code 38 = .ok (.getstatic 59, 3) := by decide +kernel
theorem d14_41 : decode jdk_52_method_4_code 41 = .ok (.ishr, 1) := by decide +kernel
theorem d14_42 : decode jdk_52_method_4_code 42 = .ok (.i2b, 1) := by decide +kernel
theorem d14_43 : decode jdk_52_method_4_code 43 = .ok (.bastore, 1) := by decide +kernel
theorem d14_44 : decode jdk_52_method_4_code 44 = .ok (.aload_n 0, 1) := by decide +kernel
theorem d14_45 : decode jdk_52_method_4_code 45 = .ok (.iload_n 1, 1) := by decide +kernel
theorem d14_46 : decode jdk_52_method_4_code 46 = .ok (.iload_n 2, 1) := by decide +kernel
theorem d14_47 : decode jdk_52_method_4_code 47 = .ok (.getstatic 63, 3) := by decide +kernel
theorem d14_50 : decode jdk_52_method_4_code 50 = .ok (.ishr, 1) := by decide +kernel
theorem d14_51 : decode jdk_52_method_4_code 51 = .ok (.i2b, 1) := by decide +kernel
theorem d14_52 : decode jdk_52_method_4_code 52 = .ok (.bastore, 1) := by decide +kernel
theorem d14_53 : decode jdk_52_method_4_code 53 = .ok (.return_, 1) := by decide +kernel
theorem d15_0 : decode jdk_52_method_5_code 0 = .ok (.getstatic 44, 3) := by decide +kernel
theorem d15_3 : decode jdk_52_method_5_code 3 = .ok (.ifCond .ne 25, 3) := by decide +kernel
theorem d15_28 : decode jdk_52_method_5_code 28 = .ok (.iload_n 1, 1) := by decide +kernel
theorem d15_29 : decode jdk_52_method_5_code 29 = .ok (.iconst 1, 1) := by decide +kernel
theorem d15_30 : decode jdk_52_method_5_code 30 = .ok (.ishl, 1) := by decide +kernel
theorem d15_31 : decode jdk_52_method_5_code 31 = .ok (.istore_n 1, 1) := by decide +kernel
theorem d15_32 : decode jdk_52_method_5_code 32 = .ok (.aload_n 0, 1) := by decide +kernel
theorem d15_33 : decode jdk_52_method_5_code 33 = .ok (.iload_n 1, 1) := by decide +kernel
theorem d15_34 : decode jdk_52_method_5_code 34 = .ok (.iinc 1 1, 3) := by decide +kernel
theorem d15_37 : decode jdk_52_method_5_code 37 = .ok (.baload, 1) := by decide +kernel
theorem d15_38 : decode jdk_52_method_5_code 38 = .ok (.sipush 255, 3) := by decide +kernel
theorem d15_41 : decode jdk_52_method_5_code 41 = .ok (.iand, 1) := by decide +kernel
theorem d15_42 : decode jdk_52_method_5_code 42 = .ok (.getstatic 59, 3) := by decide +kernel
theorem d15_45 : decode jdk_52_method_5_code 45 = .ok (.ishl, 1) := by decide +kernel
theorem d15_46 : decode jdk_52_method_5_code 46 = .ok (.aload_n 0, 1) := by decide +kernel
theorem d15_47 : decode jdk_52_method_5_code 47 = .ok (.iload_n 1, 1) := by decide +kernel
theorem d15_48 : decode jdk_52_method_5_code 48 = .ok (.baload, 1) := by decide +kernel
theorem d15_49 : decode jdk_52_method_5_code 49 = .ok (.sipush 255, 3) := by decide +kernel
theorem d15_52 : decode jdk_52_method_5_code 52 = .ok (.iand, 1) := by decide +kernel
theorem d15_53 : decode jdk_52_method_5_code 53 = .ok (.getstatic 63, 3) := by decide +kernel
theorem d15_56 : decode jdk_52_method_5_code 56 = .ok (.ishl, 1) := by decide +kernel
theorem d15_57 : decode jdk_52_method_5_code 57 = .ok (.ior, 1) := by decide +kernel
theorem d15_58 : decode jdk_52_method_5_code 58 = .ok (.i2c, 1) := by decide +kernel
theorem d15_59 : decode jdk_52_method_5_code 59 = .ok (.ireturn, 1) := by decide +kernel
theorem d16_0 : decode jdk_42_method_56_code 0 = .ok (.aload_n 0, 1) := by decide +kernel
theorem d16_1 : decode jdk_42_method_56_code 1 = .ok (.invokevirtual 492, 3) := by decide +kernel
theorem d16_4 : decode jdk_42_method_56_code 4 = .ok (.ifCond .eq 12, 3) := by decide +kernel
theorem d16_7 : decode jdk_42_method_56_code 7 = .ok (.aload_n 0, 1) := by decide +kernel
theorem d16_8 : decode jdk_42_method_56_code 8 = .ok (.getfield 9, 3) := by decide +kernel
theorem d16_11 : decode jdk_42_method_56_code 11 = .ok (.iload_n 1, 1) := by decide +kernel
theorem d16_12 : decode jdk_42_method_56_code 12 = .ok (.invokestatic 495, 3) := by decide +kernel
theorem d16_15 : decode jdk_42_method_56_code 15 = .ok (.ireturn, 1) := by decide +kernel
theorem d16_16 : decode jdk_42_method_56_code 16 = .ok (.aload_n 0, 1) := by decide +kernel
theorem d16_17 : decode jdk_42_method_56_code 17 = .ok (.getfield 9, 3) := by decide +kernel
theorem d16_20 : decode jdk_42_method_56_code 20 = .ok (.iload_n 1, 1) := by decide +kernel
theorem d16_21 : decode jdk_42_method_56_code 21 = .ok (.invokestatic 498, 3) := by decide +kernel
theorem d16_24 : decode jdk_42_method_56_code 24 = .ok (.ireturn, 1) := by decide +kernel
theorem d17_0 : decode jdk_42_method_154_code 0 = .ok (.getstatic 38, 3) := by decide +kernel
theorem d17_3 : decode jdk_42_method_154_code 3 = .ok (.ifCond .eq 14, 3) := by decide +kernel
theorem d17_6 : decode jdk_42_method_154_code 6 = .ok (.aload_n 0, 1) := by decide +kernel
theorem d17_7 : decode jdk_42_method_154_code 7 = .ok (.getfield 15, 3) := by decide +kernel
theorem d17_10 : decode jdk_42_method_154_code 10 = .ok (.ifCond .ne 7, 3) := by decide +kernel
theorem d17_13 : decode jdk_42_method_154_code 13 = .ok (.iconst 1, 1) := by decide +kernel
theorem d17_14 : decode jdk_42_method_154_code 14 = .ok (.goto 4, 3) := by decide +kernel
theorem d17_17 : decode jdk_42_method_154_code 17 = .ok (.iconst 0, 1) := by decide +kernel
theorem d17_18 : decode jdk_42_method_154_code 18 = .ok (.ireturn, 1) := by decide +kernel
theorem d18_0 : decode jdk_52_method_83_code 0 = .ok (.iload_n 1, 1) := by decide +kernel
theorem d18_1 : decode jdk_52_method_83_code 1 = .ok (.aload_n 0, 1) := by decide +kernel
theorem d18_2 : decode jdk_52_method_83_code 2 = .ok (.invokestatic 67, 3) := by decide +kernel
theorem d18_5 : decode jdk_52_method_83_code 5 = .ok (.aload_n 0, 1) := by decide +kernel
theorem d18_6 : decode jdk_52_method_83_code 6 = .ok (.iload_n 1, 1) := by decide +kernel
theorem d18_7 : decode jdk_52_method_83_code 7 = .ok (.invokestatic 71, 3) := by decide +kernel
theorem d18_10 : decode jdk_52_method_83_code 10 = .ok (.ireturn, 1) := by decide +kernel
theorem d19_0 : decode jdk_52_method_91_code 0 = .ok (.iload_n 0, 1) := by decide +kernel
theorem d19_1 : decode jdk_52_method_91_code 1 = .ok (.aload_n 1, 1) := by decide +kernel
theorem d19_2 : decode jdk_52_method_91_code 2 = .ok (.invokestatic 48, 3) := by decide +kernel
theorem d19_5 : decode jdk_52_method_91_code 5 = .ok (.invokestatic 414, 3) := by decide +kernel
theorem d19_8 : decode jdk_52_method_91_code 8 = .ok (.return_, 1) := by decide +kernel
theorem d20_0 : decode jdk_52_method_6_code 0 = .ok (.aload_n 0, 1) := by decide +kernel
theorem d20_1 : decode jdk_52_method_6_code 1 = .ok (.arraylength, 1) := by decide +kernel
theorem d20_2 : decode jdk_52_method_6_code 2 = .ok (.iconst 1, 1) := by decide +kernel
theorem d20_3 : decode jdk_52_method_6_code 3 = .ok (.ishr, 1) := by decide +kernel
theorem d20_4 : decode jdk_52_method_6_code 4 = .ok (.ireturn, 1) := by decide +kernel
theorem d21_0 : decode jdk_42_method_155_code 0 = .ok (.iload_n 0, 1) := by decide +kernel
theorem d21_1 : decode jdk_42_method_155_code 1 = .ok (.iload_n 1, 1) := by decide +kernel
theorem d21_2 : decode jdk_42_method_155_code 2 = .ok (.getstatic 1053, 3) := by decide +kernel
theorem d21_5 : decode jdk_42_method_155_code 5 = .ok (.invokestatic 1059, 3) := by decide +kernel
theorem d21_8 : decode jdk_42_method_155_code 8 = .ok (.pop, 1) := by decide +kernel
theorem d21_9 : decode jdk_42_method_155_code 9 = .ok (.return_, 1) := by decide +kernel
theorem d22_0 : decode jdk_41_method_11_code 0 = .ok (.iload_n 0, 1) := by decide +kernel
theorem d22_1 : decode jdk_41_method_11_code 1 = .ok (.ifCond .lt 8, 3) := by decide +kernel
theorem d22_4 : decode jdk_41_method_11_code 4 = .ok (.iload_n 0, 1) := by decide +kernel
theorem d22_5 : decode jdk_41_method_11_code 5 = .ok (.iload_n 1, 1) := by decide +kernel
theorem d22_6 : decode jdk_41_method_11_code 6 = .ok (.if_icmp .lt 10, 3) := by decide +kernel
theorem d22_16 : decode jdk_41_method_11_code 16 = .ok (.iload_n 0, 1) := by decide +kernel
theorem d22_17 : decode jdk_41_method_11_code 17 = .ok (.ireturn, 1) := by decide +kernel
theorem d23_0 : decode prog_34_method_6_code 0 = .ok (.iload_n 1, 1) := by decide +kernel
theorem d23_1 : decode prog_34_method_6_code 1 = .ok (.aload_n 0, 1) := by decide +kernel
theorem d23_2 : decode prog_34_method_6_code 2 = .ok (.getfield 41, 3) := by decide +kernel
theorem d23_5 : decode prog_34_method_6_code 5 = .ok (.arraylength, 1) := by decide +kernel
theorem d23_6 : decode prog_34_method_6_code 6 = .ok (.if_icmp .ge 16, 3) := by decide +kernel
theorem d23_9 : decode prog_34_method_6_code 9 = .ok (.aload_n 0, 1) := by decide +kernel
theorem d23_10 : decode prog_34_method_6_code 10 = .ok (.getfield 41, 3) := by decide +kernel
theorem d23_13 : decode prog_34_method_6_code 13 = .ok (.iload_n 1, 1) := by decide +kernel
theorem d23_14 : decode prog_34_method_6_code 14 = .ok (.baload, 1) := by decide +kernel
theorem d23_15 : decode prog_34_method_6_code 15 = .ok (.ifCond .eq 7, 3) := by decide +kernel
theorem d23_18 : decode prog_34_method_6_code 18 = .ok (.iconst 1, 1) := by decide +kernel
theorem d23_19 : decode prog_34_method_6_code 19 = .ok (.goto 4, 3) := by decide +kernel
theorem d23_22 : decode prog_34_method_6_code 22 = .ok (.iconst 0, 1) := by decide +kernel
theorem d23_23 : decode prog_34_method_6_code 23 = .ok (.ireturn, 1) := by decide +kernel
theorem d24_0 : decode method_4_code 0 = .ok (.iload_n 0, 1) := by decide +kernel
theorem d24_1 : decode method_4_code 1 = .ok (.iload_n 1, 1) := by decide +kernel
theorem d24_2 : decode method_4_code 2 = .ok (.invokestatic 7, 3) := by decide +kernel
theorem d24_5 : decode method_4_code 5 = .ok (.ifCond .ne 11, 3) := by decide +kernel
theorem d24_8 : decode method_4_code 8 = .ok (.iload_n 0, 1) := by decide +kernel
theorem d24_9 : decode method_4_code 9 = .ok (.iload_n 1, 1) := by decide +kernel
theorem d24_10 : decode method_4_code 10 = .ok (.invokestatic 13, 3) := by decide +kernel
theorem d24_13 : decode method_4_code 13 = .ok (.ifCond .eq 7, 3) := by decide +kernel
theorem d24_16 : decode method_4_code 16 = .ok (.iconst 1, 1) := by decide +kernel
theorem d24_17 : decode method_4_code 17 = .ok (.goto 4, 3) := by decide +kernel
theorem d24_20 : decode method_4_code 20 = .ok (.iconst 0, 1) := by decide +kernel
theorem d24_21 : decode method_4_code 21 = .ok (.ireturn, 1) := by decide +kernel
theorem d25_0 : decode method_2_code 0 = .ok (.iload_n 1, 1) := by decide +kernel
theorem d25_1 : decode method_2_code 1 = .ok (.bipush 48, 2) := by decide +kernel
theorem d25_3 : decode method_2_code 3 = .ok (.if_icmp .lt 13, 3) := by decide +kernel
theorem d25_6 : decode method_2_code 6 = .ok (.iload_n 1, 1) := by decide +kernel
theorem d25_7 : decode method_2_code 7 = .ok (.bipush 57, 2) := by decide +kernel
theorem d25_9 : decode method_2_code 9 = .ok (.if_icmp .gt 7, 3) := by decide +kernel
theorem d25_12 : decode method_2_code 12 = .ok (.iconst 1, 1) := by decide +kernel
theorem d25_13 : decode method_2_code 13 = .ok (.goto 4, 3) := by decide +kernel
theorem d25_16 : decode method_2_code 16 = .ok (.iconst 0, 1) := by decide +kernel
theorem d25_17 : decode method_2_code 17 = .ok (.istore_n 2, 1) := by decide +kernel
theorem d25_18 : decode method_2_code 18 = .ok (.iload_n 0, 1) := by decide +kernel
theorem d25_19 : decode method_2_code 19 = .ok (.ifCond .eq 8, 3) := by decide +kernel
theorem d25_22 : decode method_2_code 22 = .ok (.iload_n 0, 1) := by decide +kernel
theorem d25_23 : decode method_2_code 23 = .ok (.iconst 4, 1) := by decide +kernel
theorem d25_24 : decode method_2_code 24 = .ok (.if_icmp .ne 5, 3) := by decide +kernel
theorem d25_27 : decode method_2_code 27 = .ok (.iload_n 2, 1) := by decide +kernel
theorem d25_28 : decode method_2_code 28 = .ok (.ireturn, 1) := by decide +kernel
theorem d25_29 : decode method_2_code 29 = .ok (.iload_n 0, 1) := by decide +kernel
theorem d25_30 : decode method_2_code 30 = .ok (.iconst 1, 1) := by decide +kernel
theorem d25_31 : decode method_2_code 31 = .ok (.if_icmp .ne 37, 3) := by decide +kernel
theorem d25_34 : decode method_2_code 34 = .ok (.iload_n 2, 1) := by decide +kernel
theorem d25_35 : decode method_2_code 35 = .ok (.ifCond .ne 27, 3) := by decide +kernel
theorem d25_38 : decode method_2_code 38 = .ok (.iload_n 1, 1) := by decide +kernel
theorem d25_39 : decode method_2_code 39 = .ok (.bipush 65, 2) := by decide +kernel
theorem d25_41 : decode method_2_code 41 = .ok (.if_icmp .lt 9, 3) := by decide +kernel
theorem d25_44 : decode method_2_code 44 = .ok (.iload_n 1, 1) := by decide +kernel
theorem d25_45 : decode method_2_code 45 = .ok (.bipush 90, 2) := by decide +kernel
theorem d25_47 : decode method_2_code 47 = .ok (.if_icmp .le 15, 3) := by decide +kernel
theorem d25_50 : decode method_2_code 50 = .ok (.iload_n 1, 1) := by decide +kernel
theorem d25_51 : decode method_2_code 51 = .ok (.bipush 97, 2) := by decide +kernel
theorem d25_53 : decode method_2_code 53 = .ok (.if_icmp .lt 13, 3) := by decide +kernel
theorem d25_56 : decode method_2_code 56 = .ok (.iload_n 1, 1) := by decide +kernel
theorem d25_57 : decode method_2_code 57 = .ok (.bipush 122, 2) := by decide +kernel
theorem d25_59 : decode method_2_code 59 = .ok (.if_icmp .gt 7, 3) := by decide +kernel
theorem d25_62 : decode method_2_code 62 = .ok (.iconst 1, 1) := by decide +kernel
theorem d25_63 : decode method_2_code 63 = .ok (.goto 4, 3) := by decide +kernel
theorem d25_66 : decode method_2_code 66 = .ok (.iconst 0, 1) := by decide +kernel
theorem d25_67 : decode method_2_code 67 = .ok (.ireturn, 1) := by decide +kernel
theorem d25_68 : decode method_2_code 68 = .ok (.iload_n 0, 1) := by decide +kernel
theorem d25_69 : decode method_2_code 69 = .ok (.iconst 2, 1) := by decide +kernel
theorem d25_70 : decode method_2_code 70 = .ok (.if_icmp .ne 21, 3) := by decide +kernel
theorem d25_73 : decode method_2_code 73 = .ok (.iload_n 1, 1) := by decide +kernel
theorem d25_74 : decode method_2_code 74 = .ok (.bipush 32, 2) := by decide +kernel
theorem d25_76 : decode method_2_code 76 = .ok (.if_icmp .lt 13, 3) := by decide +kernel
theorem d25_79 : decode method_2_code 79 = .ok (.iload_n 1, 1) := by decide +kernel
theorem d25_80 : decode method_2_code 80 = .ok (.bipush 126, 2) := by decide +kernel
theorem d25_82 : decode method_2_code 82 = .ok (.if_icmp .gt 7, 3) := by decide +kernel
theorem d25_85 : decode method_2_code 85 = .ok (.iconst 1, 1) := by decide +kernel
theorem d25_86 : decode method_2_code 86 = .ok (.goto 4, 3) := by decide +kernel
theorem d25_89 : decode method_2_code 89 = .ok (.iconst 0, 1) := by decide +kernel
theorem d25_90 : decode method_2_code 90 = .ok (.ireturn, 1) := by decide +kernel
theorem d25_91 : decode method_2_code 91 = .ok (.iload_n 0, 1) := by decide +kernel
theorem d25_92 : decode method_2_code 92 = .ok (.iconst 3, 1) := by decide +kernel
theorem d25_93 : decode method_2_code 93 = .ok (.if_icmp .ne 33, 3) := by decide +kernel
theorem d25_96 : decode method_2_code 96 = .ok (.iload_n 1, 1) := by decide +kernel
theorem d25_97 : decode method_2_code 97 = .ok (.bipush 48, 2) := by decide +kernel
theorem d25_99 : decode method_2_code 99 = .ok (.if_icmp .lt 9, 3) := by decide +kernel
theorem d25_102 : decode method_2_code 102 = .ok (.iload_n 1, 1) := by decide +kernel
theorem d25_103 : decode method_2_code 103 = .ok (.bipush 58, 2) := by decide +kernel
theorem d25_105 : decode method_2_code 105 = .ok (.if_icmp .le 15, 3) := by decide +kernel
theorem d25_108 : decode method_2_code 108 = .ok (.iload_n 1, 1) := by decide +kernel
theorem d25_109 : decode method_2_code 109 = .ok (.bipush 60, 2) := by decide +kernel
theorem d25_111 : decode method_2_code 111 = .ok (.if_icmp .lt 13, 3) := by decide +kernel
theorem d25_114 : decode method_2_code 114 = .ok (.iload_n 1, 1) := by decide +kernel
theorem d25_115 : decode method_2_code 115 = .ok (.bipush 62, 2) := by decide +kernel
theorem d25_117 : decode method_2_code 117 = .ok (.if_icmp .gt 7, 3) := by decide +kernel
theorem d25_120 : decode method_2_code 120 = .ok (.iconst 1, 1) := by decide +kernel
theorem d25_121 : decode method_2_code 121 = .ok (.goto 4, 3) := by decide +kernel
theorem d25_124 : decode method_2_code 124 = .ok (.iconst 0, 1) := by decide +kernel
theorem d25_125 : decode method_2_code 125 = .ok (.ireturn, 1) := by decide +kernel
theorem d25_126 : decode method_2_code 126 = .ok (.iload_n 1, 1) := by decide +kernel
theorem d25_127 : decode method_2_code 127 = .ok (.sipush 255, 3) := by decide +kernel
theorem d25_130 : decode method_2_code 130 = .ok (.if_icmp .gt 7, 3) := by decide +kernel
theorem d25_133 : decode method_2_code 133 = .ok (.iconst 1, 1) := by decide +kernel
theorem d25_134 : decode method_2_code 134 = .ok (.goto 4, 3) := by decide +kernel
theorem d25_137 : decode method_2_code 137 = .ok (.iconst 0, 1) := by decide +kernel
theorem d25_138 : decode method_2_code 138 = .ok (.ireturn, 1) := by decide +kernel
theorem d26_0 : decode method_3_code 0 = .ok (.iload_n 0, 1) := by decide +kernel
theorem d26_1 : decode method_3_code 1 = .ok (.iconst 1, 1) := by decide +kernel
theorem d26_2 : decode method_3_code 2 = .ok (.if_icmp .ne 21, 3) := by decide +kernel
theorem d26_5 : decode method_3_code 5 = .ok (.iload_n 1, 1) := by decide +kernel
theorem d26_6 : decode method_3_code 6 = .ok (.bipush 32, 2) := by decide +kernel
theorem d26_8 : decode method_3_code 8 = .ok (.if_icmp .ne 15, 3) := by decide +kernel
theorem d26_11 : decode method_3_code 11 = .ok (.iload_n 0, 1) := by decide +kernel
theorem d26_12 : decode method_3_code 12 = .ok (.iload_n 1, 1) := by decide +kernel
theorem d26_13 : decode method_3_code 13 = .ok (.invokestatic 7, 3) := by decide +kernel
theorem d26_16 : decode method_3_code 16 = .ok (.ifCond .ne 7, 3) := by decide +kernel
theorem d26_19 : decode method_3_code 19 = .ok (.iconst 1, 1) := by decide +kernel
theorem d26_20 : decode method_3_code 20 = .ok (.goto 4, 3) := by decide +kernel
theorem d26_23 : decode method_3_code 23 = .ok (.iconst 0, 1) := by decide +kernel
theorem d26_24 : decode method_3_code 24 = .ok (.ireturn, 1) := by decide +kernel
theorem d27_0 : decode jdk_43_method_2_code 0 = .ok (.iload_n 1, 1) := by decide +kernel
theorem d27_1 : decode jdk_43_method_2_code 1 = .ok (.aload_n 0, 1) := by decide +kernel
theorem d27_2 : decode jdk_43_method_2_code 2 = .ok (.arraylength, 1) := by decide +kernel
theorem d27_3 : decode jdk_43_method_2_code 3 = .ok (.invokestatic 9, 3) := by decide +kernel
theorem d27_6 : decode jdk_43_method_2_code 6 = .ok (.aload_n 0, 1) := by decide +kernel
theorem d27_7 : decode jdk_43_method_2_code 7 = .ok (.iload_n 1, 1) := by decide +kernel
theorem d27_8 : decode jdk_43_method_2_code 8 = .ok (.baload, 1) := by decide +kernel
theorem d27_9 : decode jdk_43_method_2_code 9 = .ok (.sipush 255, 3) := by decide +kernel
theorem d27_12 : decode jdk_43_method_2_code 12 = .ok (.iand, 1) := by decide +kernel
theorem d27_13 : decode jdk_43_method_2_code 13 = .ok (.i2c, 1) := by decide +kernel
theorem d27_14 : decode jdk_43_method_2_code 14 = .ok (.ireturn, 1) := by decide +kernel
theorem pn_com_example_huiqiao_huiqiao_iso8583_ContentRunsFromPinLaw : plainName "com/example/huiqiao/huiqiao/iso8583/ContentRunsFromPinLaw" = true := by first | (simp [plainName, overriddenIn]; done) | decide +kernel
theorem pn_java_lang_String : plainName "java/lang/String" = true := by first | (simp [plainName, overriddenIn]; done) | decide +kernel
theorem pn_com_example_huiqiao_huiqiao_iso8583_SwitchField_Content : plainName "com/example/huiqiao/huiqiao/iso8583/SwitchField$Content" = true := by first | (simp [plainName, overriddenIn]; done) | decide +kernel
theorem pn_java_lang_StringUTF16 : plainName "java/lang/StringUTF16" = true := by first | (simp [plainName, overriddenIn]; done) | decide +kernel
theorem pn_jdk_internal_util_Preconditions : plainName "jdk/internal/util/Preconditions" = true := by first | (simp [plainName, overriddenIn]; done) | decide +kernel
theorem pn_java_lang_StringLatin1 : plainName "java/lang/StringLatin1" = true := by first | (simp [plainName, overriddenIn]; done) | decide +kernel
theorem pd_0 : parseMethodDescriptor "(I)I" = some ⟨[.int], some .int⟩ := by decide +kernel
theorem pd_1 : parseMethodDescriptor "([BII)V" = some ⟨[(.array .byte), .int, .int], none⟩ := by decide +kernel
theorem pd_2 : parseMethodDescriptor "(I)[B" = some ⟨[.int], some (.array .byte)⟩ := by decide +kernel
theorem pd_3 : parseMethodDescriptor "([CI[BII)I" = some ⟨[(.array .char), .int, (.array .byte), .int, .int], some .int⟩ := by decide +kernel
theorem pd_4 : parseMethodDescriptor "([CII)[B" = some ⟨[(.array .char), .int, .int], some (.array .byte)⟩ := by decide +kernel
theorem pd_5 : parseMethodDescriptor "([BI)C" = some ⟨[(.array .byte), .int], some .char⟩ := by decide +kernel
theorem pd_6 : parseMethodDescriptor "([BI)B" = some ⟨[(.array .byte), .int], some .byte⟩ := by decide +kernel
theorem pd_7 : parseMethodDescriptor "([CIILjava/lang/Void;)V" = some ⟨[(.array .char), .int, .int, (.object "java/lang/Void")], none⟩ := by decide +kernel
theorem pd_8 : parseMethodDescriptor "()B" = some ⟨[], some .byte⟩ := by decide +kernel
theorem pd_9 : parseMethodDescriptor "(IILjava/util/function/BiFunction;)I" = some ⟨[.int, .int, (.object "java/util/function/BiFunction")], some .int⟩ := by decide +kernel
theorem pd_10 : parseMethodDescriptor "([B)I" = some ⟨[(.array .byte)], some .int⟩ := by decide +kernel
theorem pd_11 : parseMethodDescriptor "(II)V" = some ⟨[.int, .int], none⟩ := by decide +kernel
theorem pd_12 : parseMethodDescriptor "(I[B)V" = some ⟨[.int, (.array .byte)], none⟩ := by decide +kernel
theorem pd_13 : parseMethodDescriptor "()Z" = some ⟨[], some .boolean⟩ := by decide +kernel
theorem pd_14 : parseMethodDescriptor "(IC)Z" = some ⟨[.int, .char], some .boolean⟩ := by decide +kernel
theorem pd_15 : parseMethodDescriptor "(I)C" = some ⟨[.int], some .char⟩ := by decide +kernel
theorem pd_16 : parseMethodDescriptor "(C)Z" = some ⟨[.char], some .boolean⟩ := by decide +kernel
theorem pd_17 : parseMethodDescriptor "()I" = some ⟨[], some .int⟩ := by decide +kernel
theorem pd_18 : parseMethodDescriptor "([C)V" = some ⟨[(.array .char)], none⟩ := by decide +kernel
theorem pd_19 : parseMethodDescriptor "(I)Lcom/example/huiqiao/huiqiao/iso8583/SwitchField$Content;" = some ⟨[.int], some (.object "com/example/huiqiao/huiqiao/iso8583/SwitchField$Content")⟩ := by decide +kernel
theorem pd_20 : parseMethodDescriptor "(Ljava/lang/String;I)Z" = some ⟨[(.object "java/lang/String"), .int], some .boolean⟩ := by decide +kernel
theorem ef_13 (m : MethodId) (n : Nat) : entryFrame m #[(.int (Int32.ofNat n))] 1 = mkF m 0 #[.val (.int (Int32.ofNat n))] [] := by first | (simp [entryFrame, mkF, argsToLocals, Value.category]; done) | rfl
def Q13 (Z : State) (n : Nat) (h0 : Heap) (n0 : Nat) (v : Option Value) (h : Heap) (L : List Loc) : Prop := v = some (.int (Int32.ofNat (2 * n))) ∧ Fr n0 L ∧ h = h0
set_option maxRecDepth 65536 in
set_option maxHeartbeats 40000000 in
theorem rm13 (l : Launch) (Z : State) (a0 : Array Value) (hw : ∀ d ∈ tables_1, d.before a0 Z = true) (ws : List Jvm.Cond) (n : Nat) (h0 : Heap) (n0 : Nat) (Z0 : n0 ≤ h0.size) (hn : n ≤ 16) :
    MetFree l (⟨"java/lang/StringUTF16", "newBytesLength", "(I)I"⟩ : MethodName) (head1 (Jvm.Cond.code (⟨"java/lang/StringUTF16", "newBytesLength", "(I)I"⟩ : MethodName) jdk_52_method_3_code 1 (some .int) :: ws) ({ frames := 0, cells := 0, slots := 0, locals := 0 } : Room)) (fun α υ => α = #[(.int (Int32.ofNat n))] ∧ Z.Warmed39 υ.vm ∧ υ.heap = h0) (fun _ _ _ _ _ => True) (fun _ υ ω υ' => ∃ v L, ω = .returned v ∧ Q13 Z n h0 n0 v υ'.heap L ∧ FrameEnd υ ω υ' L ({ frames := 0, cells := 0, slots := 0, locals := 0 } : Room).cells ({ frames := 0, cells := 0, slots := 0, locals := 0 } : Room).slots) := by
  refine MetFree.of_bodySF (plainFor_of_name pn_java_lang_StringUTF16) hisR ?_
  intro p e s m args below meth c s₁ Bd hml0 hP hK
  obtain ⟨rfl, hZ, hh⟩ := hP
  have hx := Bd.exec
  have hby := Bd.bytes
  have hml : c.maxLocals = 1 := hml0
  have hown : s.vm.findClass "java/lang/StringUTF16" = some m.cls := findClass_of_methodNamed Bd.named
  have hnm := (name_of_methodNamed Bd.named Bd.method).1
  have X0 : Stand p l e ({ frames := 0, cells := 0, slots := 0, locals := 0 } : Room) s m #[(.int (Int32.ofNat n))] below meth c s₁ [] 0 0 := Stand.of_body Bd
  have e0 : s₁.heap = h0 := by rw [← hh, Bd.state]; rfl
  have N0 := Fr.nil n0
  have pre0 : ∀ τ, Steps p.tables e below (s₁.setTop (mkF m 0 #[.val (.int (Int32.ofNat n))] [])) τ → Steps p.tables e below (s₁.setTop (entryFrame m #[(.int (Int32.ofNat n))] 1)) τ := fun τ κ => castTop (ef_13 m n) κ
  have pre1 := fun τ (κ : Steps p.tables e below (s₁.setTop (mkF m 58 #[.val (.int (Int32.ofNat n))] [(.int ((Int32.ofNat n) <<< ((1 : Int32) &&& 31)))])) τ) => pre0 τ (by
    refine XS.iloadN X0.here hx rfl (hb hby d13_0) rfl ?_
    refine XS.ifYes X0.here hx rfl (pc0 := 1) (pc' := 12) rfl (hb hby d13_1) rfl ((if0 _ _).trans (flt (own_nn (by omega))).2.1) (by decide) (by decide) ?_
    show Steps p.tables e below (s₁.setTop (mkF m 12 #[.val (.int (Int32.ofNat n))] [])) _
    refine XS.iloadN X0.here hx rfl (hb hby d13_12) rfl ?_
    refine X0.ldcInt hx hown (mvT hZ (hw _ (List.mem_of_getElem? (i := 74) rfl))) (g := (mkF m 13 #[.val (.int (Int32.ofNat n))] [(.int (Int32.ofNat n))])) rfl (hb hby d13_13) _ ?_
    show Steps p.tables e below (s₁.setTop (mkF m 15 #[.val (.int (Int32.ofNat n))] [(.int (1073741823 : Int32)), (.int (Int32.ofNat n))])) _
    refine XS.icmpYes X0.here hx rfl (pc0 := 15) (pc' := 55) rfl (hb hby d13_15) rfl (tlt ((own_ltN (j := 1073741823) (by omega) (by omega)).mpr (by omega))).1 (by decide) (by decide) ?_
    show Steps p.tables e below (s₁.setTop (mkF m 55 #[.val (.int (Int32.ofNat n))] [])) _
    refine XS.iloadN X0.here hx rfl (hb hby d13_55) rfl ?_
    refine XS.iconst X0.here hx rfl (hb hby d13_56) ?_
    refine XS.ishl X0.here hx rfl (hb hby d13_57) rfl ?_
    show Steps p.tables e below (s₁.setTop (mkF m 58 #[.val (.int (Int32.ofNat n))] [(.int ((Int32.ofNat n) <<< ((1 : Int32) &&& 31)))])) _
    exact κ)
  rw [show ((Int32.ofNat n) <<< ((1 : Int32) &&& 31)) = (Int32.ofNat (2 * n)) from (own_shl1 (by omega))] at pre1
  obtain ⟨fs, hr, hrun, hended, hW, hsame⟩ := X0.leave (v := some (.int (Int32.ofNat (2 * n)))) (fun h => by rw [Bd.returns] at h; cases h)
  refine ⟨_, _, pre1 _ ?_, hrun, hended, _, _, rfl, ?_, ⟨_, rfl⟩, hW, hsame.mono (by decide) (by decide)⟩
  · exact retI X0 hx Bd.returns (hb hby d13_58) hr
  · show Q13 Z n h0 n0 _ s₁.heap _
    rw [e0]
    exact ⟨rfl, N0, rfl⟩
theorem ef_12 (m : MethodId) (n : Nat) : entryFrame m #[(.int (Int32.ofNat n))] 1 = mkF m 0 #[.val (.int (Int32.ofNat n))] [] := by first | (simp [entryFrame, mkF, argsToLocals, Value.category]; done) | rfl
def Q12 (Z : State) (n : Nat) (h0 : Heap) (n0 : Nat) (v : Option Value) (h : Heap) (L : List Loc) : Prop := ∃ (b : Addr) (kb : ClassId), v = some (.ref b) ∧ Fr n0 L ∧ Keep h0 h [] ∧ Arv Z h b kb .byte (Int32.ofNat (2 * n)) (own_tab (fun _ => 0) (2 * n)) (.int (0 : Int32)) ∧ h0.size ≤ b
set_option maxRecDepth 65536 in
set_option maxHeartbeats 40000000 in
theorem rm12 (l : Launch) (Z : State) (a0 : Array Value) (hw : ∀ d ∈ tables_1, d.before a0 Z = true) (ws : List Jvm.Cond) (n : Nat) (h0 : Heap) (n0 : Nat) (Z0 : n0 ≤ h0.size) (hn : n ≤ 16) :
    MetFree l (⟨"java/lang/StringUTF16", "newBytesFor", "(I)[B"⟩ : MethodName) (head1 (Jvm.Cond.code (⟨"java/lang/StringUTF16", "newBytesFor", "(I)[B"⟩ : MethodName) jdk_52_method_2_code 1 (some (.array .byte)) :: ws) ({ frames := 1, cells := 1, slots := 32, locals := 12 } : Room)) (fun α υ => α = #[(.int (Int32.ofNat n))] ∧ Z.Warmed39 υ.vm ∧ υ.heap = h0) (fun _ _ _ _ _ => True) (fun _ υ ω υ' => ∃ v L, ω = .returned v ∧ Q12 Z n h0 n0 v υ'.heap L ∧ FrameEnd υ ω υ' L ({ frames := 1, cells := 1, slots := 32, locals := 12 } : Room).cells ({ frames := 1, cells := 1, slots := 32, locals := 12 } : Room).slots) := by
  refine MetFree.of_bodySF (plainFor_of_name pn_java_lang_StringUTF16) hisR ?_
  intro p e s m args below meth c s₁ Bd hml0 hP hK
  obtain ⟨rfl, hZ, hh⟩ := hP
  have hx := Bd.exec
  have hby := Bd.bytes
  have hml : c.maxLocals = 1 := hml0
  have hown : s.vm.findClass "java/lang/StringUTF16" = some m.cls := findClass_of_methodNamed Bd.named
  have hnm := (name_of_methodNamed Bd.named Bd.method).1
  have X0 : Stand p l e ({ frames := 1, cells := 1, slots := 32, locals := 12 } : Room) s m #[(.int (Int32.ofNat n))] below meth c s₁ [] 0 0 := Stand.of_body Bd
  have e0 : s₁.heap = h0 := by rw [← hh, Bd.state]; rfl
  have N0 := Fr.nil n0
  have pre0 : ∀ τ, Steps p.tables e below (s₁.setTop (mkF m 0 #[.val (.int (Int32.ofNat n))] [])) τ → Steps p.tables e below (s₁.setTop (entryFrame m #[(.int (Int32.ofNat n))] 1)) τ := fun τ κ => castTop (ef_12 m n) κ
  have Kp0 : Keep h0 h0 [] := Keep.refl _ _
  have pre1 := fun τ (κ : Steps p.tables e below (s₁.setTop (mkF m 1 #[.val (.int (Int32.ofNat n))] [(.int (Int32.ofNat n))])) τ) => pre0 τ (by
    refine XS.iloadN X0.here hx rfl (hb hby d12_0) rfl ?_
    show Steps p.tables e below (s₁.setTop (mkF m 1 #[.val (.int (Int32.ofNat n))] [(.int (Int32.ofNat n))])) _
    exact κ)
  obtain ⟨_, _, ⟨T2, L2, k2, n2⟩, -, X2, ⟨Lc2, hQ2, l2, y2, z2⟩, st2⟩ := Jvm.LawKit.callS X0 hx (y := (⟨"java/lang/StringUTF16", "newBytesLength", "(I)I"⟩ : MethodName)) hown (mvT hZ (hw _ (List.mem_of_getElem? (i := 71) rfl))) (mvT hZ (hw _ (List.mem_of_getElem? (i := 72) rfl))) (mvT hZ (hw _ (List.mem_of_getElem? (i := 57) rfl))) (mvT hZ (hw _ (List.mem_of_getElem? (i := 73) rfl))) (by decide) (backOf (W := 0) (rm13 l Z a0 hw [] n h0 n0 Z0 (by omega)) hZ (hw _ (List.mem_of_getElem? (i := 73) rfl)) (hw _ (List.mem_of_getElem? (i := 57) rfl)) (Nat.le_of_ble_eq_true rfl) (Nat.le_of_ble_eq_true rfl)) (g := (mkF m 1 #[.val (.int (Int32.ofNat n))] [(.int (Int32.ofNat n))])) rfl (by rw [hml]; rfl) (argsL := [(.int (Int32.ofNat n))]) (rest := []) (lenOf pd_0 rfl) rfl (by show 2 * 0 + _ ≤ _; exact Nat.le_of_eq rfl) (hb hby d12_1) (fun _ _ => ⟨rfl, e0, (by decide : 0 + 0 ≤ _), (by decide : 0 + 0 ≤ _)⟩)
  dsimp only [Pt.U, Pt.locs, Pt.cells, Pt.slots] at X2 l2 y2 z2 st2 hQ2
  subst l2 y2 z2
  obtain ⟨rfl, Nq2, hh2⟩ := hQ2
  have Z2 : n0 ≤ T2.heap.size := by rw [hh2]; exact Z0
  have Kp2 : Keep h0 T2.heap [] := by rw [hh2]; exact Kp0
  have N2 := Fr.app N0 Nq2
  have pre3 := fun τ (κ : Steps p.tables e below (T2.setTop (mkF m 4 #[.val (.int (Int32.ofNat n))] [(.int (Int32.ofNat (2 * n)))])) τ) => pre1 τ (st2 _ κ)
  obtain ⟨T4, h4, k4, X4, e4, E4, A4, st4⟩ := newP X2 hx hZ (hw _ (List.mem_of_getElem? (i := 15) rfl)) rfl (g := (mkF m 4 #[.val (.int (Int32.ofNat n))] [(.int (Int32.ofNat (2 * n)))])) rfl (hb hby d12_4) rfl (own_nn (by omega)) (cap := 32) (by rw [own_clamp (by omega)]; omega) (by decide) (by decide) (by decide)
  obtain ⟨b, g4⟩ : ∃ z, z = T2.heap.size := ⟨_, rfl⟩
  rw [← g4] at A4 st4
  have g_b : n0 ≤ b := Nat.le_trans Z2 (Nat.le_of_eq g4.symm)
  have sz_b : h0.size ≤ b := Nat.le_trans Kp2.1 (Nat.le_of_eq g4.symm)
  have Kp4 : Keep h0 h4 [] := Kp2.ext E4
  have Z4 : n0 ≤ h4.size := Nat.le_trans Z2 E4.1
  have V_b_4 : Arv Z h4 b k4 .byte (Int32.ofNat (2 * n)) [] (.int (0 : Int32)) := Arv.new A4 (own_nn (by omega))
  have pre5 := fun τ (κ : Steps p.tables e below (T4.setTop (mkF m 6 #[.val (.int (Int32.ofNat n))] [(.ref b)])) τ) => pre3 τ (st4 _ κ)
  have Vb : Arv Z h4 b k4 .byte (Int32.ofNat (2 * n)) (own_tab (fun _ => 0) (2 * n)) (.int (0 : Int32)) := by rw [own_tab_pad]; exact V_b_4.pad (pad_rep [] _ (2 * n))
  obtain ⟨fs, hr, hrun, hended, hW, hsame⟩ := X4.leave (v := some (.ref b)) (fun h => by rw [Bd.returns] at h; cases h)
  refine ⟨_, _, pre5 _ ?_, hrun, hended, _, _, rfl, ?_, ⟨_, rfl⟩, hW, hsame.mono (by decide) (by decide)⟩
  · jvm_step X4.here [X4.here.top, hx, (hb hby d12_6), X4.method', Bd.returns, Value.isRef, FieldType.isReference]
    first | (intro acts; rw [hr _ acts rfl rfl rfl]) | rw [hr _ _ rfl rfl rfl]
    exact Steps.refl _
  · show Q12 Z n h0 n0 _ T4.heap _
    rw [e4]
    exact ⟨b, k4, rfl, N2, Kp4, Vb, sz_b⟩
theorem ef_14 (m : MethodId) (db : Addr) (i : Nat) (x : Int32) (n : Nat) (zc : Int32) (fm : Value) : entryFrame m #[(.ref db), (.int (Int32.ofNat i)), (.int x)] 3 = mkF m 0 #[.val (.ref db), .val (.int (Int32.ofNat i)), .val (.int x)] [] := by first | (simp [entryFrame, mkF, argsToLocals, Value.category]; done) | rfl
def Q14 (Z : State) (db : Addr) (i : Nat) (x : Int32) (n : Nat) (kb : ClassId) (g : Nat → Int32) (zc : Int32) (fm : Value) (h0 : Heap) (n0 : Nat) (v : Option Value) (h : Heap) (L : List Loc) : Prop := v = none ∧ Fr n0 L ∧ Keep h0 h [db] ∧ Arv Z h db kb .byte (Int32.ofNat (2 * n)) (own_tab (fun q => if q = 2 * i + 1 then own_hi x else (fun q => if q = 2 * i then own_lo x else g q) q) (2 * n)) (.int (0 : Int32))
set_option maxRecDepth 65536 in
set_option maxHeartbeats 40000000 in
theorem rm14 (l : Launch) (Z : State) (a0 : Array Value) (hw : ∀ d ∈ tables_1, d.before a0 Z = true) (ws : List Jvm.Cond) (db : Addr) (i : Nat) (x : Int32) (n : Nat) (kb : ClassId) (g : Nat → Int32) (zc : Int32) (fm : Value) (h0 : Heap) (n0 : Nat) (Z0 : n0 ≤ h0.size) (O0 : Old Z n0 h0) (U0 : own_ST Z zc fm) (Va : Arv Z h0 db kb .byte (Int32.ofNat (2 * n)) (own_tab g (2 * n)) (.int (0 : Int32))) (hn : n ≤ 16) (hi : i < n) (gb : n0 ≤ db) :
    MetFree l (⟨"java/lang/StringUTF16", "putChar", "([BII)V"⟩ : MethodName) (head1 (Jvm.Cond.code (⟨"java/lang/StringUTF16", "putChar", "([BII)V"⟩ : MethodName) jdk_52_method_4_code 3 none :: ws) ({ frames := 0, cells := 0, slots := 0, locals := 0 } : Room)) (fun α υ => α = #[(.ref db), (.int (Int32.ofNat i)), (.int x)] ∧ Z.Warmed39 υ.vm ∧ υ.heap = h0) (fun _ _ _ _ _ => True) (fun _ υ ω υ' => ∃ v L, ω = .returned v ∧ Q14 Z db i x n kb g zc fm h0 n0 v υ'.heap L ∧ FrameEnd υ ω υ' L ({ frames := 0, cells := 0, slots := 0, locals := 0 } : Room).cells ({ frames := 0, cells := 0, slots := 0, locals := 0 } : Room).slots) := by
  refine MetFree.of_bodySF (plainFor_of_name pn_java_lang_StringUTF16) hisR ?_
  intro p e s m args below meth c s₁ Bd hml0 hP hK
  obtain ⟨rfl, hZ, hh⟩ := hP
  have hx := Bd.exec
  have hby := Bd.bytes
  have hml : c.maxLocals = 3 := hml0
  have hown : s.vm.findClass "java/lang/StringUTF16" = some m.cls := findClass_of_methodNamed Bd.named
  have hnm := (name_of_methodNamed Bd.named Bd.method).1
  have X0 : Stand p l e ({ frames := 0, cells := 0, slots := 0, locals := 0 } : Room) s m #[(.ref db), (.int (Int32.ofNat i)), (.int x)] below meth c s₁ [] 0 0 := Stand.of_body Bd
  have e0 : s₁.heap = h0 := by rw [← hh, Bd.state]; rfl
  have N0 := Fr.nil n0
  have pre0 : ∀ τ, Steps p.tables e below (s₁.setTop (mkF m 0 #[.val (.ref db), .val (.int (Int32.ofNat i)), .val (.int x)] [])) τ → Steps p.tables e below (s₁.setTop (entryFrame m #[(.ref db), (.int (Int32.ofNat i)), (.int x)] 3)) τ := fun τ κ => castTop (ef_14 m db i x n zc fm) κ
  obtain ⟨Scs, hcs, Sad, Shi, Slo, Sfm, r_fm⟩ := id U0
  have Kp0 : Keep h0 h0 [db] := Keep.refl _ _
  obtain ⟨T1, X1, e1, st1⟩ := getS2 X0 hx hZ hown (host := "") (Or.inl (hw _ (List.mem_of_getElem? (i := 78) rfl))) Via.refl e0 (Sad.ext O0.2) (g := (mkF m 0 #[.val (.ref db), .val (.int (Int32.ofNat i)), .val (.int x)] [])) rfl (hb hby d14_0)
  have pre2 := fun τ (κ : Steps p.tables e below (T1.setTop (mkF m 3 #[.val (.ref db), .val (.int (Int32.ofNat i)), .val (.int x)] [(.int (1 : Int32))])) τ) => pre0 τ (st1 _ κ)
  have pre3 := fun τ (κ : Steps p.tables e below (T1.setTop (mkF m 31 #[.val (.ref db), .val (.int (Int32.ofNat i)), .val (.int x)] [(.int ((Int32.ofNat i) <<< ((1 : Int32) &&& 31)))])) τ) => pre2 τ (by
    refine XS.ifYes X1.here hx rfl (pc0 := 3) (pc' := 28) rfl (hb hby d14_3) rfl ((if0 _ _).trans (feq (by decide)).2) (by decide) (by decide) ?_
    show Steps p.tables e below (T1.setTop (mkF m 28 #[.val (.ref db), .val (.int (Int32.ofNat i)), .val (.int x)] [])) _
    refine XS.iloadN X1.here hx rfl (hb hby d14_28) rfl ?_
    refine XS.iconst X1.here hx rfl (hb hby d14_29) ?_
    refine XS.ishl X1.here hx rfl (hb hby d14_30) rfl ?_
    show Steps p.tables e below (T1.setTop (mkF m 31 #[.val (.ref db), .val (.int (Int32.ofNat i)), .val (.int x)] [(.int ((Int32.ofNat i) <<< ((1 : Int32) &&& 31)))])) _
    exact κ)
  rw [show ((Int32.ofNat i) <<< ((1 : Int32) &&& 31)) = (Int32.ofNat (2 * i)) from (own_shl1 (by omega))] at pre3
  have pre4 := fun τ (κ : Steps p.tables e below (T1.setTop (mkF m 37 #[.val (.ref db), .val (.int ((Int32.ofNat (2 * i)) + (1 : Int32))), .val (.int x)] [(.int (Int32.ofNat (2 * i))), (.ref db)])) τ) => pre3 τ (by
    refine XS.istoreN X1.here hx rfl (hb hby d14_31) rfl (l' := #[.val (.ref db), .val (.int (Int32.ofNat (2 * i))), .val (.int x)]) rfl ?_
    show Steps p.tables e below (T1.setTop (mkF m 32 #[.val (.ref db), .val (.int (Int32.ofNat (2 * i))), .val (.int x)] [])) _
    refine XS.aloadN X1.here hx rfl (hb hby d14_32) rfl rfl ?_
    refine XS.iloadN X1.here hx rfl (hb hby d14_33) rfl ?_
    refine XS.iinc X1.here hx rfl (hb hby d14_34) rfl (l' := #[.val (.ref db), .val (.int ((Int32.ofNat (2 * i)) + (1 : Int32))), .val (.int x)]) rfl ?_
    show Steps p.tables e below (T1.setTop (mkF m 37 #[.val (.ref db), .val (.int ((Int32.ofNat (2 * i)) + (1 : Int32))), .val (.int x)] [(.int (Int32.ofNat (2 * i))), (.ref db)])) _
    exact κ)
  rw [show ((Int32.ofNat (2 * i)) + (1 : Int32)) = (Int32.ofNat (2 * i + 1)) from (own_addN _ 1)] at pre4
  have pre5 := fun τ (κ : Steps p.tables e below (T1.setTop (mkF m 38 #[.val (.ref db), .val (.int (Int32.ofNat (2 * i + 1))), .val (.int x)] [(.int x), (.int (Int32.ofNat (2 * i))), (.ref db)])) τ) => pre4 τ (by
    refine XS.iloadN X1.here hx rfl (hb hby d14_37) rfl ?_
    show Steps p.tables e below (T1.setTop (mkF m 38 #[.val (.ref db), .val (.int (Int32.ofNat (2 * i + 1))), .val (.int x)] [(.int x), (.int (Int32.ofNat (2 * i))), (.ref db)])) _
    exact κ)
  obtain ⟨T6, X6, e6, st6⟩ := getS2 X1 hx hZ hown (host := "") (Or.inl (hw _ (List.mem_of_getElem? (i := 79) rfl))) Via.refl e1 (Shi.ext O0.2) (g := (mkF m 38 #[.val (.ref db), .val (.int (Int32.ofNat (2 * i + 1))), .val (.int x)] [(.int x), (.int (Int32.ofNat (2 * i))), (.ref db)])) rfl (hb hby d14_38)
  have pre7 := fun τ (κ : Steps p.tables e below (T6.setTop (mkF m 41 #[.val (.ref db), .val (.int (Int32.ofNat (2 * i + 1))), .val (.int x)] [(.int (0 : Int32)), (.int x), (.int (Int32.ofNat (2 * i))), (.ref db)])) τ) => pre5 τ (st6 _ κ)
  have pre8 := fun τ (κ : Steps p.tables e below (T6.setTop (mkF m 42 #[.val (.ref db), .val (.int (Int32.ofNat (2 * i + 1))), .val (.int x)] [(.int (x >>> ((0 : Int32) &&& 31))), (.int (Int32.ofNat (2 * i))), (.ref db)])) τ) => pre7 τ (by
    refine XS.ishr X6.here hx rfl (hb hby d14_41) rfl ?_
    show Steps p.tables e below (T6.setTop (mkF m 42 #[.val (.ref db), .val (.int (Int32.ofNat (2 * i + 1))), .val (.int x)] [(.int (x >>> ((0 : Int32) &&& 31))), (.int (Int32.ofNat (2 * i))), (.ref db)])) _
    exact κ)
  rw [show (x >>> ((0 : Int32) &&& 31)) = x from (own_shr0 x)] at pre8
  have pre9 := fun τ (κ : Steps p.tables e below (T6.setTop (mkF m 43 #[.val (.ref db), .val (.int (Int32.ofNat (2 * i + 1))), .val (.int x)] [(.int (x.toInt8.toInt32)), (.int (Int32.ofNat (2 * i))), (.ref db)])) τ) => pre8 τ (by
    refine XS.i2b X6.here hx rfl (hb hby d14_42) rfl ?_
    show Steps p.tables e below (T6.setTop (mkF m 43 #[.val (.ref db), .val (.int (Int32.ofNat (2 * i + 1))), .val (.int x)] [(.int (x.toInt8.toInt32)), (.int (Int32.ofNat (2 * i))), (.ref db)])) _
    exact κ)
  have hj09 : (Int32.ofNat (2 * i)).toNatClampNeg = 2 * i := own_clamp (by omega)
  have hi09 : 2 * i < (own_tab g (2 * n)).length := by rw [own_tab_len]; omega
  obtain ⟨cl10, Ar10, q10, S10, M10, H10, G10⟩ := id Va
  have in10 : ¬ ((Int32.ofNat (2 * i)) < 0 ∨ cl10.slots.size ≤ ((Int32.ofNat (2 * i))).toNatClampNeg) := inb_of S10 ⟨own_nn (by omega), (own_ltN (by omega) (by omega)).mpr (by omega)⟩
  obtain ⟨T11, h11, X11, e11, W11, st11⟩ := stB X6 hx hZ e6 Ar10 (j := (Int32.ofNat (2 * i))) in10 (g := (mkF m 43 #[.val (.ref db), .val (.int (Int32.ofNat (2 * i + 1))), .val (.int x)] [(.int (x.toInt8.toInt32)), (.int (Int32.ofNat (2 * i))), (.ref db)])) rfl rfl (hb hby d14_43)
  have O0_11 : Old Z n0 h11 := O0.wr W11 gb
  have Kp11 : Keep h0 h11 [db] := Kp0.wr W11 (Or.inl (List.mem_of_getElem? (i := 0) rfl))
  have N11 := Fr.snoc X11 N0 gb
  have Z11 : n0 ≤ h11.size := Nat.le_trans Z0 (Keep.of_wr W11).1
  have V_db_11 : Arv Z h11 db kb .byte (Int32.ofNat (2 * n)) (own_tab (fun q => if q = 2 * i then own_lo x else g q) (2 * n)) (.int (0 : Int32)) := (by rw [← own_lolo x]; exact (own_tab_set g (2 * n) (2 * i) _) ▸ (Arv.set Ar10 q10 S10 M10 H10 G10 (fits_nar_byte _) W11 (2 * i) (by first | rfl | assumption) (by assumption)))
  have pre12 := fun τ (κ : Steps p.tables e below (T11.setTop (mkF m 44 #[.val (.ref db), .val (.int (Int32.ofNat (2 * i + 1))), .val (.int x)] [])) τ) => pre9 τ (st11 _ κ)
  have pre13 := fun τ (κ : Steps p.tables e below (T11.setTop (mkF m 47 #[.val (.ref db), .val (.int (Int32.ofNat (2 * i + 1))), .val (.int x)] [(.int x), (.int (Int32.ofNat (2 * i + 1))), (.ref db)])) τ) => pre12 τ (by
    refine XS.aloadN X11.here hx rfl (hb hby d14_44) rfl rfl ?_
    refine XS.iloadN X11.here hx rfl (hb hby d14_45) rfl ?_
    refine XS.iloadN X11.here hx rfl (hb hby d14_46) rfl ?_
    show Steps p.tables e below (T11.setTop (mkF m 47 #[.val (.ref db), .val (.int (Int32.ofNat (2 * i + 1))), .val (.int x)] [(.int x), (.int (Int32.ofNat (2 * i + 1))), (.ref db)])) _
    exact κ)
  obtain ⟨T14, X14, e14, st14⟩ := getS2 X11 hx hZ hown (host := "") (Or.inl (hw _ (List.mem_of_getElem? (i := 80) rfl))) Via.refl e11 (Slo.ext O0_11.2) (g := (mkF m 47 #[.val (.ref db), .val (.int (Int32.ofNat (2 * i + 1))), .val (.int x)] [(.int x), (.int (Int32.ofNat (2 * i + 1))), (.ref db)])) rfl (hb hby d14_47)
  have pre15 := fun τ (κ : Steps p.tables e below (T14.setTop (mkF m 50 #[.val (.ref db), .val (.int (Int32.ofNat (2 * i + 1))), .val (.int x)] [(.int (8 : Int32)), (.int x), (.int (Int32.ofNat (2 * i + 1))), (.ref db)])) τ) => pre13 τ (st14 _ κ)
  have hj19 : (Int32.ofNat (2 * i + 1)).toNatClampNeg = 2 * i + 1 := own_clamp (by omega)
  have hi19 : 2 * i + 1 < (own_tab (fun q => if q = 2 * i then own_lo x else g q) (2 * n)).length := by rw [own_tab_len]; omega
  have pre16 := fun τ (κ : Steps p.tables e below (T14.setTop (mkF m 52 #[.val (.ref db), .val (.int (Int32.ofNat (2 * i + 1))), .val (.int x)] [(.int ((x >>> ((8 : Int32) &&& 31)).toInt8.toInt32)), (.int (Int32.ofNat (2 * i + 1))), (.ref db)])) τ) => pre15 τ (by
    refine XS.ishr X14.here hx rfl (hb hby d14_50) rfl ?_
    show Steps p.tables e below (T14.setTop (mkF m 51 #[.val (.ref db), .val (.int (Int32.ofNat (2 * i + 1))), .val (.int x)] [(.int (x >>> ((8 : Int32) &&& 31))), (.int (Int32.ofNat (2 * i + 1))), (.ref db)])) _
    refine XS.i2b X14.here hx rfl (hb hby d14_51) rfl ?_
    show Steps p.tables e below (T14.setTop (mkF m 52 #[.val (.ref db), .val (.int (Int32.ofNat (2 * i + 1))), .val (.int x)] [(.int ((x >>> ((8 : Int32) &&& 31)).toInt8.toInt32)), (.int (Int32.ofNat (2 * i + 1))), (.ref db)])) _
    exact κ)
  obtain ⟨cl17, Ar17, q17, S17, M17, H17, G17⟩ := id V_db_11
  have in17 : ¬ ((Int32.ofNat (2 * i + 1)) < 0 ∨ cl17.slots.size ≤ ((Int32.ofNat (2 * i + 1))).toNatClampNeg) := inb_of S17 ⟨own_nn (by omega), (own_ltN (by omega) (by omega)).mpr (by omega)⟩
  obtain ⟨T18, h18, X18, e18, W18, st18⟩ := stB X14 hx hZ e14 Ar17 (j := (Int32.ofNat (2 * i + 1))) in17 (g := (mkF m 52 #[.val (.ref db), .val (.int (Int32.ofNat (2 * i + 1))), .val (.int x)] [(.int ((x >>> ((8 : Int32) &&& 31)).toInt8.toInt32)), (.int (Int32.ofNat (2 * i + 1))), (.ref db)])) rfl rfl (hb hby d14_52)
  have O0_18 : Old Z n0 h18 := O0_11.wr W18 gb
  have Kp18 : Keep h0 h18 [db] := Kp11.wr W18 (Or.inl (List.mem_of_getElem? (i := 0) rfl))
  have N18 := Fr.snoc X18 N11 gb
  have Z18 : n0 ≤ h18.size := Nat.le_trans Z11 (Keep.of_wr W18).1
  have V_db_18 : Arv Z h18 db kb .byte (Int32.ofNat (2 * n)) (own_tab (fun q => if q = 2 * i + 1 then own_hi x else (fun q => if q = 2 * i then own_lo x else g q) q) (2 * n)) (.int (0 : Int32)) := (by rw [← own_hihi x]; exact (own_tab_set (fun q => if q = 2 * i then own_lo x else g q) (2 * n) (2 * i + 1) _) ▸ (Arv.set Ar17 q17 S17 M17 H17 G17 (fits_nar_byte _) W18 (2 * i + 1) (by first | rfl | assumption) (by assumption)))
  have pre19 := fun τ (κ : Steps p.tables e below (T18.setTop (mkF m 53 #[.val (.ref db), .val (.int (Int32.ofNat (2 * i + 1))), .val (.int x)] [])) τ) => pre16 τ (st18 _ κ)
  obtain ⟨fs, hr, hrun, hended, hW, hsame⟩ := X18.leave (v := none) (fun _ => rfl)
  refine ⟨_, _, pre19 _ ?_, hrun, hended, _, _, rfl, ?_, ⟨_, rfl⟩, hW, hsame.mono (by decide) (by decide)⟩
  · exact X18.returnOut hx Bd.returns (hb hby d14_53) hr
  · show Q14 Z db i x n kb g zc fm h0 n0 _ T18.heap _
    rw [e18]
    exact ⟨rfl, N18, Kp18, V_db_18⟩
theorem ef_15 (m : MethodId) (db : Addr) (i : Nat) (n : Nat) (zc : Int32) (fm : Value) : entryFrame m #[(.ref db), (.int (Int32.ofNat i))] 2 = mkF m 0 #[.val (.ref db), .val (.int (Int32.ofNat i))] [] := by first | (simp [entryFrame, mkF, argsToLocals, Value.category]; done) | rfl
def Q15 (Z : State) (db : Addr) (i : Nat) (n : Nat) (kb : ClassId) (f : Nat → Int32) (zc : Int32) (fm : Value) (h0 : Heap) (n0 : Nat) (v : Option Value) (h : Heap) (L : List Loc) : Prop := v = some (.int (f i)) ∧ Fr n0 L ∧ h = h0
set_option maxRecDepth 65536 in
set_option maxHeartbeats 40000000 in
theorem rm15 (l : Launch) (Z : State) (a0 : Array Value) (hw : ∀ d ∈ tables_1, d.before a0 Z = true) (ws : List Jvm.Cond) (db : Addr) (i : Nat) (n : Nat) (kb : ClassId) (f : Nat → Int32) (zc : Int32) (fm : Value) (h0 : Heap) (n0 : Nat) (Z0 : n0 ≤ h0.size) (O0 : Old Z n0 h0) (U0 : own_ST Z zc fm) (Va : Arv Z h0 db kb .byte (Int32.ofNat (2 * n)) (own_tab (own_u16 f) (2 * n)) (.int (0 : Int32))) (hn : n ≤ 16) (hi : i < n) (hc : own_ch (f i)) :
    MetFree l (⟨"java/lang/StringUTF16", "getChar", "([BI)C"⟩ : MethodName) (head1 (Jvm.Cond.code (⟨"java/lang/StringUTF16", "getChar", "([BI)C"⟩ : MethodName) jdk_52_method_5_code 2 (some .char) :: ws) ({ frames := 0, cells := 0, slots := 0, locals := 0 } : Room)) (fun α υ => α = #[(.ref db), (.int (Int32.ofNat i))] ∧ Z.Warmed39 υ.vm ∧ υ.heap = h0) (fun _ _ _ _ _ => True) (fun _ υ ω υ' => ∃ v L, ω = .returned v ∧ Q15 Z db i n kb f zc fm h0 n0 v υ'.heap L ∧ FrameEnd υ ω υ' L ({ frames := 0, cells := 0, slots := 0, locals := 0 } : Room).cells ({ frames := 0, cells := 0, slots := 0, locals := 0 } : Room).slots) := by
  refine MetFree.of_bodySF (plainFor_of_name pn_java_lang_StringUTF16) hisR ?_
  intro p e s m args below meth c s₁ Bd hml0 hP hK
  obtain ⟨rfl, hZ, hh⟩ := hP
  have hx := Bd.exec
  have hby := Bd.bytes
  have hml : c.maxLocals = 2 := hml0
  have hown : s.vm.findClass "java/lang/StringUTF16" = some m.cls := findClass_of_methodNamed Bd.named
  have hnm := (name_of_methodNamed Bd.named Bd.method).1
  have X0 : Stand p l e ({ frames := 0, cells := 0, slots := 0, locals := 0 } : Room) s m #[(.ref db), (.int (Int32.ofNat i))] below meth c s₁ [] 0 0 := Stand.of_body Bd
  have e0 : s₁.heap = h0 := by rw [← hh, Bd.state]; rfl
  have N0 := Fr.nil n0
  have pre0 : ∀ τ, Steps p.tables e below (s₁.setTop (mkF m 0 #[.val (.ref db), .val (.int (Int32.ofNat i))] [])) τ → Steps p.tables e below (s₁.setTop (entryFrame m #[(.ref db), (.int (Int32.ofNat i))] 2)) τ := fun τ κ => castTop (ef_15 m db i n zc fm) κ
  obtain ⟨Scs, hcs, Sad, Shi, Slo, Sfm, r_fm⟩ := id U0
  obtain ⟨T1, X1, e1, st1⟩ := getS2 X0 hx hZ hown (host := "") (Or.inl (hw _ (List.mem_of_getElem? (i := 78) rfl))) Via.refl e0 (Sad.ext O0.2) (g := (mkF m 0 #[.val (.ref db), .val (.int (Int32.ofNat i))] [])) rfl (hb hby d15_0)
  have pre2 := fun τ (κ : Steps p.tables e below (T1.setTop (mkF m 3 #[.val (.ref db), .val (.int (Int32.ofNat i))] [(.int (1 : Int32))])) τ) => pre0 τ (st1 _ κ)
  have pre3 := fun τ (κ : Steps p.tables e below (T1.setTop (mkF m 31 #[.val (.ref db), .val (.int (Int32.ofNat i))] [(.int ((Int32.ofNat i) <<< ((1 : Int32) &&& 31)))])) τ) => pre2 τ (by
    refine XS.ifYes X1.here hx rfl (pc0 := 3) (pc' := 28) rfl (hb hby d15_3) rfl ((if0 _ _).trans (feq (by decide)).2) (by decide) (by decide) ?_
    show Steps p.tables e below (T1.setTop (mkF m 28 #[.val (.ref db), .val (.int (Int32.ofNat i))] [])) _
    refine XS.iloadN X1.here hx rfl (hb hby d15_28) rfl ?_
    refine XS.iconst X1.here hx rfl (hb hby d15_29) ?_
    refine XS.ishl X1.here hx rfl (hb hby d15_30) rfl ?_
    show Steps p.tables e below (T1.setTop (mkF m 31 #[.val (.ref db), .val (.int (Int32.ofNat i))] [(.int ((Int32.ofNat i) <<< ((1 : Int32) &&& 31)))])) _
    exact κ)
  rw [show ((Int32.ofNat i) <<< ((1 : Int32) &&& 31)) = (Int32.ofNat (2 * i)) from (own_shl1 (by omega))] at pre3
  have pre4 := fun τ (κ : Steps p.tables e below (T1.setTop (mkF m 37 #[.val (.ref db), .val (.int ((Int32.ofNat (2 * i)) + (1 : Int32)))] [(.int (Int32.ofNat (2 * i))), (.ref db)])) τ) => pre3 τ (by
    refine XS.istoreN X1.here hx rfl (hb hby d15_31) rfl (l' := #[.val (.ref db), .val (.int (Int32.ofNat (2 * i)))]) rfl ?_
    show Steps p.tables e below (T1.setTop (mkF m 32 #[.val (.ref db), .val (.int (Int32.ofNat (2 * i)))] [])) _
    refine XS.aloadN X1.here hx rfl (hb hby d15_32) rfl rfl ?_
    refine XS.iloadN X1.here hx rfl (hb hby d15_33) rfl ?_
    refine XS.iinc X1.here hx rfl (hb hby d15_34) rfl (l' := #[.val (.ref db), .val (.int ((Int32.ofNat (2 * i)) + (1 : Int32)))]) rfl ?_
    show Steps p.tables e below (T1.setTop (mkF m 37 #[.val (.ref db), .val (.int ((Int32.ofNat (2 * i)) + (1 : Int32)))] [(.int (Int32.ofNat (2 * i))), (.ref db)])) _
    exact κ)
  rw [show ((Int32.ofNat (2 * i)) + (1 : Int32)) = (Int32.ofNat (2 * i + 1)) from (own_addN _ 1)] at pre4
  obtain ⟨cl5, Ar5, -, S5, M5, H5, -⟩ := id Va
  have in5 : ¬ ((Int32.ofNat (2 * i)) < 0 ∨ cl5.slots.size ≤ ((Int32.ofNat (2 * i))).toNatClampNeg) := inb_of S5 ⟨own_nn (by omega), (own_ltN (by omega) (by omega)).mpr (by omega)⟩
  have at5 : cl5.slots[((Int32.ofNat (2 * i))).toNatClampNeg]? = some (.int (own_lo (f i))) := H5.at in5 (by rw [own_clamp (by omega), own_tab_get (by omega), own_u16e])
  have pre6 := fun τ (κ : Steps p.tables e below (T1.setTop (mkF m 42 #[.val (.ref db), .val (.int (Int32.ofNat (2 * i + 1)))] [(.int ((own_lo (f i)) &&& (255 : Int32)))])) τ) => pre4 τ (by
    refine X1.baloadBytes hx (j := (Int32.ofNat (2 * i))) (v := (.int (own_lo (f i)))) (by rw [e1]; exact Ar5.1) (State.isArrayOf_alike hZ.alike Ar5.2.1) Ar5.2.2 in5 at5 (g := (mkF m 37 #[.val (.ref db), .val (.int (Int32.ofNat (2 * i + 1)))] [(.int (Int32.ofNat (2 * i))), (.ref db)])) rfl rfl (hb hby d15_37) _ ?_
    show Steps p.tables e below (T1.setTop (mkF m 38 #[.val (.ref db), .val (.int (Int32.ofNat (2 * i + 1)))] [(.int (own_lo (f i)))])) _
    refine XS.sipush X1.here hx rfl (hb hby d15_38) ?_
    refine XS.iand X1.here hx rfl (hb hby d15_41) rfl ?_
    show Steps p.tables e below (T1.setTop (mkF m 42 #[.val (.ref db), .val (.int (Int32.ofNat (2 * i + 1)))] [(.int ((own_lo (f i)) &&& (255 : Int32)))])) _
    exact κ)
  obtain ⟨T7, X7, e7, st7⟩ := getS2 X1 hx hZ hown (host := "") (Or.inl (hw _ (List.mem_of_getElem? (i := 79) rfl))) Via.refl e1 (Shi.ext O0.2) (g := (mkF m 42 #[.val (.ref db), .val (.int (Int32.ofNat (2 * i + 1)))] [(.int ((own_lo (f i)) &&& (255 : Int32)))])) rfl (hb hby d15_42)
  have pre8 := fun τ (κ : Steps p.tables e below (T7.setTop (mkF m 45 #[.val (.ref db), .val (.int (Int32.ofNat (2 * i + 1)))] [(.int (0 : Int32)), (.int ((own_lo (f i)) &&& (255 : Int32)))])) τ) => pre6 τ (st7 _ κ)
  have pre9 := fun τ (κ : Steps p.tables e below (T7.setTop (mkF m 48 #[.val (.ref db), .val (.int (Int32.ofNat (2 * i + 1)))] [(.int (Int32.ofNat (2 * i + 1))), (.ref db), (.int (((own_lo (f i)) &&& (255 : Int32)) <<< ((0 : Int32) &&& 31)))])) τ) => pre8 τ (by
    refine XS.ishl X7.here hx rfl (hb hby d15_45) rfl ?_
    show Steps p.tables e below (T7.setTop (mkF m 46 #[.val (.ref db), .val (.int (Int32.ofNat (2 * i + 1)))] [(.int (((own_lo (f i)) &&& (255 : Int32)) <<< ((0 : Int32) &&& 31)))])) _
    refine XS.aloadN X7.here hx rfl (hb hby d15_46) rfl rfl ?_
    refine XS.iloadN X7.here hx rfl (hb hby d15_47) rfl ?_
    show Steps p.tables e below (T7.setTop (mkF m 48 #[.val (.ref db), .val (.int (Int32.ofNat (2 * i + 1)))] [(.int (Int32.ofNat (2 * i + 1))), (.ref db), (.int (((own_lo (f i)) &&& (255 : Int32)) <<< ((0 : Int32) &&& 31)))])) _
    exact κ)
  obtain ⟨cl10, Ar10, -, S10, M10, H10, -⟩ := id Va
  have in10 : ¬ ((Int32.ofNat (2 * i + 1)) < 0 ∨ cl10.slots.size ≤ ((Int32.ofNat (2 * i + 1))).toNatClampNeg) := inb_of S10 ⟨own_nn (by omega), (own_ltN (by omega) (by omega)).mpr (by omega)⟩
  have at10 : cl10.slots[((Int32.ofNat (2 * i + 1))).toNatClampNeg]? = some (.int (own_hi (f i))) := H10.at in10 (by rw [own_clamp (by omega), own_tab_get (by omega), own_u16o])
  have pre11 := fun τ (κ : Steps p.tables e below (T7.setTop (mkF m 53 #[.val (.ref db), .val (.int (Int32.ofNat (2 * i + 1)))] [(.int ((own_hi (f i)) &&& (255 : Int32))), (.int (((own_lo (f i)) &&& (255 : Int32)) <<< ((0 : Int32) &&& 31)))])) τ) => pre9 τ (by
    refine X7.baloadBytes hx (j := (Int32.ofNat (2 * i + 1))) (v := (.int (own_hi (f i)))) (by rw [e7]; exact Ar10.1) (State.isArrayOf_alike hZ.alike Ar10.2.1) Ar10.2.2 in10 at10 (g := (mkF m 48 #[.val (.ref db), .val (.int (Int32.ofNat (2 * i + 1)))] [(.int (Int32.ofNat (2 * i + 1))), (.ref db), (.int (((own_lo (f i)) &&& (255 : Int32)) <<< ((0 : Int32) &&& 31)))])) rfl rfl (hb hby d15_48) _ ?_
    show Steps p.tables e below (T7.setTop (mkF m 49 #[.val (.ref db), .val (.int (Int32.ofNat (2 * i + 1)))] [(.int (own_hi (f i))), (.int (((own_lo (f i)) &&& (255 : Int32)) <<< ((0 : Int32) &&& 31)))])) _
    refine XS.sipush X7.here hx rfl (hb hby d15_49) ?_
    refine XS.iand X7.here hx rfl (hb hby d15_52) rfl ?_
    show Steps p.tables e below (T7.setTop (mkF m 53 #[.val (.ref db), .val (.int (Int32.ofNat (2 * i + 1)))] [(.int ((own_hi (f i)) &&& (255 : Int32))), (.int (((own_lo (f i)) &&& (255 : Int32)) <<< ((0 : Int32) &&& 31)))])) _
    exact κ)
  obtain ⟨T12, X12, e12, st12⟩ := getS2 X7 hx hZ hown (host := "") (Or.inl (hw _ (List.mem_of_getElem? (i := 80) rfl))) Via.refl e7 (Slo.ext O0.2) (g := (mkF m 53 #[.val (.ref db), .val (.int (Int32.ofNat (2 * i + 1)))] [(.int ((own_hi (f i)) &&& (255 : Int32))), (.int (((own_lo (f i)) &&& (255 : Int32)) <<< ((0 : Int32) &&& 31)))])) rfl (hb hby d15_53)
  have pre13 := fun τ (κ : Steps p.tables e below (T12.setTop (mkF m 56 #[.val (.ref db), .val (.int (Int32.ofNat (2 * i + 1)))] [(.int (8 : Int32)), (.int ((own_hi (f i)) &&& (255 : Int32))), (.int (((own_lo (f i)) &&& (255 : Int32)) <<< ((0 : Int32) &&& 31)))])) τ) => pre11 τ (st12 _ κ)
  have pre14 := fun τ (κ : Steps p.tables e below (T12.setTop (mkF m 59 #[.val (.ref db), .val (.int (Int32.ofNat (2 * i + 1)))] [(.int (((((own_lo (f i)) &&& (255 : Int32)) <<< ((0 : Int32) &&& 31)) ||| (((own_hi (f i)) &&& (255 : Int32)) <<< ((8 : Int32) &&& 31))).toUInt32.toUInt16.toUInt32.toInt32))])) τ) => pre13 τ (by
    refine XS.ishl X12.here hx rfl (hb hby d15_56) rfl ?_
    show Steps p.tables e below (T12.setTop (mkF m 57 #[.val (.ref db), .val (.int (Int32.ofNat (2 * i + 1)))] [(.int (((own_hi (f i)) &&& (255 : Int32)) <<< ((8 : Int32) &&& 31))), (.int (((own_lo (f i)) &&& (255 : Int32)) <<< ((0 : Int32) &&& 31)))])) _
    refine XS.ior X12.here hx rfl (hb hby d15_57) rfl ?_
    show Steps p.tables e below (T12.setTop (mkF m 58 #[.val (.ref db), .val (.int (Int32.ofNat (2 * i + 1)))] [(.int ((((own_lo (f i)) &&& (255 : Int32)) <<< ((0 : Int32) &&& 31)) ||| (((own_hi (f i)) &&& (255 : Int32)) <<< ((8 : Int32) &&& 31))))])) _
    refine XS.i2c X12.here hx rfl (hb hby d15_58) rfl ?_
    show Steps p.tables e below (T12.setTop (mkF m 59 #[.val (.ref db), .val (.int (Int32.ofNat (2 * i + 1)))] [(.int (((((own_lo (f i)) &&& (255 : Int32)) <<< ((0 : Int32) &&& 31)) ||| (((own_hi (f i)) &&& (255 : Int32)) <<< ((8 : Int32) &&& 31))).toUInt32.toUInt16.toUInt32.toInt32))])) _
    exact κ)
  rw [show (((((own_lo (f i)) &&& (255 : Int32)) <<< ((0 : Int32) &&& 31)) ||| (((own_hi (f i)) &&& (255 : Int32)) <<< ((8 : Int32) &&& 31))).toUInt32.toUInt16.toUInt32.toInt32) = (f i) from (own_glue hc)] at pre14
  obtain ⟨fs, hr, hrun, hended, hW, hsame⟩ := X12.leave (v := some (.int (nar .char (f i)))) (fun h => by rw [Bd.returns] at h; cases h)
  refine ⟨_, _, pre14 _ ?_, hrun, hended, _, _, rfl, ?_, ⟨_, rfl⟩, hW, hsame.mono (by decide) (by decide)⟩
  · exact retN X12 hx (t := .char) Bd.returns (by simp) (hb hby d15_59) hr
  · show Q15 Z db i n kb f zc fm h0 n0 _ T12.heap _
    rw [e12]
    exact ⟨own_narc hc, N0, rfl⟩
theorem own_u16step (f : Nat → Int32) (i j : Nat) : (if j = 2 * i + 1 then own_hi (f i) else (fun q => if q = 2 * i then own_lo (f i) else (fun q => if q < 2 * i then own_u16 f q else 0) q) j) = (if j < 2 * (i + 1) then own_u16 f j else 0) := by
  by_cases h1 : j = 2 * i + 1
  · subst h1; rw [if_pos rfl, if_pos (by omega), own_u16o]
  · rw [if_neg h1]; show (if j = 2 * i then own_lo (f i) else if j < 2 * i then own_u16 f j else 0) = _
    by_cases h2 : j = 2 * i
    · subst h2; rw [if_pos rfl, if_pos (by omega), own_u16e]
    · rw [if_neg h2]
      by_cases h3 : j < 2 * i
      · rw [if_pos h3, if_pos (by omega)]
      · rw [if_neg h3, if_neg (by omega)]
set_option maxRecDepth 65536 in
set_option maxHeartbeats 40000000 in
theorem loopT {p : Program} {l : Launch} {e : Env} {R : Room} {s : State} {m : MethodId} {args : Array Value} {below : List Frame} {meth : Method} {c : Code} {Z : State} {a0 : Array Value} (hx : p.tables.exec = Jvm.exec) (hZ : Z.Warmed39 s.vm) (hw : ∀ d ∈ tables_1, d.before a0 Z = true) (hby : c.code = jdk_52_method_14_code) (hml : c.maxLocals = 5) (hown : s.vm.findClass "java/lang/StringUTF16" = some m.cls) {n0 cells slots : Nat} (ca db : Addr) (kc kb : ClassId) (n : Nat) (f : Nat → Int32) (zc : Int32) (fm : Value) (U0 : own_ST Z zc fm) (hn : n ≤ 16) (hcb : ca ≠ db) (gb : n0 ≤ db) (hRf : 0 + 1 ≤ R.frames) (hRl : 0 + (3 + 11) + 0 ≤ R.locals) (hRc : cells ≤ R.cells) (hRs : slots ≤ R.slots) :
    ∀ (fu i : Nat) (T0 : State) (h0 : Heap) (locs : List Loc), n ≤ i + fu → i ≤ n → Stand p l e R s m args below meth c T0 locs cells slots → T0.heap = h0 → Fr n0 locs → n0 ≤ h0.size → Old Z n0 h0 → Arv Z h0 ca kc .char (Int32.ofNat n) (own_tab f n) (.int (0 : Int32)) → Arv Z h0 db kb .byte (Int32.ofNat (2 * n)) (own_tab (fun q => if q < 2 * i then own_u16 f q else 0) (2 * n)) (.int (0 : Int32)) →
      ∃ (T' : State) (h' : Heap) (locs' : List Loc), Stand p l e R s m args below meth c T' locs' cells slots ∧ T'.heap = h' ∧ Fr n0 locs' ∧ Keep h0 h' [db] ∧ Old Z n0 h' ∧ Arv Z h' db kb .byte (Int32.ofNat (2 * n)) (own_tab (own_u16 f) (2 * n)) (.int (0 : Int32)) ∧ ∃ z1 z2 : Int32, ∀ t, Steps p.tables e below (T'.setTop (mkF m 32 #[.val (.ref ca), .val (.int z1), .val (.int (Int32.ofNat n)), .val (.ref db), .val (.int z2)] [])) t → Steps p.tables e below (T0.setTop (mkF m 8 #[.val (.ref ca), .val (.int (Int32.ofNat i)), .val (.int (Int32.ofNat n)), .val (.ref db), .val (.int (Int32.ofNat i))] [])) t := by
  intro fu
  induction fu with
  | zero =>
    intro i T0 h0 locs hfu hin X0 e0 N0 Z0 O0 Vc Vb
    have hgt : ¬ i < n := by omega
    have pre0 := fun τ (κ : Steps p.tables e below (T0.setTop (mkF m 8 #[.val (.ref ca), .val (.int (Int32.ofNat i)), .val (.int (Int32.ofNat n)), .val (.ref db), .val (.int (Int32.ofNat i))] [])) τ) => κ
    have Kp0 : Keep h0 h0 [db] := Keep.refl _ _
    have pre1 := fun τ (κ : Steps p.tables e below (T0.setTop (mkF m 32 #[.val (.ref ca), .val (.int (Int32.ofNat i)), .val (.int (Int32.ofNat n)), .val (.ref db), .val (.int (Int32.ofNat i))] [])) τ) => pre0 τ (by
      refine XS.iload X0.here hx rfl (hb hby d11_8) rfl ?_
      refine XS.iloadN X0.here hx rfl (hb hby d11_10) rfl ?_
      refine XS.icmpYes X0.here hx rfl (pc0 := 11) (pc' := 32) rfl (hb hby d11_11) rfl (flt (fun q => hgt ((own_ltN (by omega) (by omega)).mp q))).2.1 (by decide) (by decide) ?_
      show Steps p.tables e below (T0.setTop (mkF m 32 #[.val (.ref ca), .val (.int (Int32.ofNat i)), .val (.int (Int32.ofNat n)), .val (.ref db), .val (.int (Int32.ofNat i))] [])) _
      exact κ)
    have V_db_2 : Arv Z h0 db kb .byte (Int32.ofNat (2 * n)) (own_tab (own_u16 f) (2 * n)) (.int (0 : Int32)) := own_cg Vb (fun j hj => by rw [if_pos (by omega)])
    exact ⟨T0, h0, locs, X0, e0, N0, Kp0, O0, V_db_2, _, _, pre1⟩
  | succ fu ih =>
    intro i T0 h0 locs hfu hin X0 e0 N0 Z0 O0 Vc Vb
    by_cases hgt : i < n
    · skip
      have pre0 := fun τ (κ : Steps p.tables e below (T0.setTop (mkF m 8 #[.val (.ref ca), .val (.int (Int32.ofNat i)), .val (.int (Int32.ofNat n)), .val (.ref db), .val (.int (Int32.ofNat i))] [])) τ) => κ
      have Kp0 : Keep h0 h0 [db] := Keep.refl _ _
      have pre1 := fun τ (κ : Steps p.tables e below (T0.setTop (mkF m 19 #[.val (.ref ca), .val (.int (Int32.ofNat i)), .val (.int (Int32.ofNat n)), .val (.ref db), .val (.int (Int32.ofNat i))] [(.int (Int32.ofNat i)), (.ref ca), (.int (Int32.ofNat i)), (.ref db)])) τ) => pre0 τ (by
        refine XS.iload X0.here hx rfl (hb hby d11_8) rfl ?_
        refine XS.iloadN X0.here hx rfl (hb hby d11_10) rfl ?_
        refine XS.icmpNo X0.here hx rfl (hb hby d11_11) rfl (tlt ((own_ltN (by omega) (by omega)).mpr hgt)).2.1 ?_
        show Steps p.tables e below (T0.setTop (mkF m 14 #[.val (.ref ca), .val (.int (Int32.ofNat i)), .val (.int (Int32.ofNat n)), .val (.ref db), .val (.int (Int32.ofNat i))] [])) _
        refine XS.aloadN X0.here hx rfl (hb hby d11_14) rfl rfl ?_
        refine XS.iload X0.here hx rfl (hb hby d11_15) rfl ?_
        refine XS.aloadN X0.here hx rfl (hb hby d11_17) rfl rfl ?_
        refine XS.iloadN X0.here hx rfl (hb hby d11_18) rfl ?_
        show Steps p.tables e below (T0.setTop (mkF m 19 #[.val (.ref ca), .val (.int (Int32.ofNat i)), .val (.int (Int32.ofNat n)), .val (.ref db), .val (.int (Int32.ofNat i))] [(.int (Int32.ofNat i)), (.ref ca), (.int (Int32.ofNat i)), (.ref db)])) _
        exact κ)
      obtain ⟨cl2, Ar2, -, S2, M2, H2, -⟩ := id Vc
      have in2 : ¬ ((Int32.ofNat i) < 0 ∨ cl2.slots.size ≤ ((Int32.ofNat i)).toNatClampNeg) := inb_of S2 ⟨own_nn (by omega), (own_ltN (by omega) (by omega)).mpr (by omega)⟩
      have at2 : cl2.slots[((Int32.ofNat i)).toNatClampNeg]? = some (.int (f i)) := H2.at in2 (by rw [own_clamp (by omega)]; exact own_tab_get (by omega) _)
      have pre3 := fun τ (κ : Steps p.tables e below (T0.setTop (mkF m 20 #[.val (.ref ca), .val (.int (Int32.ofNat i)), .val (.int (Int32.ofNat n)), .val (.ref db), .val (.int (Int32.ofNat i))] [(.int (f i)), (.int (Int32.ofNat i)), (.ref db)])) τ) => pre1 τ (by
        refine X0.caload hx (j := (Int32.ofNat i)) (v := (.int (f i))) (by rw [e0]; exact Ar2.1) (State.isArrayOf_alike hZ.alike Ar2.2.1) Ar2.2.2 in2 at2 (g := (mkF m 19 #[.val (.ref ca), .val (.int (Int32.ofNat i)), .val (.int (Int32.ofNat n)), .val (.ref db), .val (.int (Int32.ofNat i))] [(.int (Int32.ofNat i)), (.ref ca), (.int (Int32.ofNat i)), (.ref db)])) rfl rfl (hb hby d11_19) _ ?_
        show Steps p.tables e below (T0.setTop (mkF m 20 #[.val (.ref ca), .val (.int (Int32.ofNat i)), .val (.int (Int32.ofNat n)), .val (.ref db), .val (.int (Int32.ofNat i))] [(.int (f i)), (.int (Int32.ofNat i)), (.ref db)])) _
        exact κ)
      obtain ⟨_, _, ⟨T4, L4, k4, n4⟩, -, X4, ⟨Lc4, hQ4, l4, y4, z4⟩, st4⟩ := Jvm.LawKit.callS X0 hx (y := (⟨"java/lang/StringUTF16", "putChar", "([BII)V"⟩ : MethodName)) hown (mvT hZ (hw _ (List.mem_of_getElem? (i := 75) rfl))) (mvT hZ (hw _ (List.mem_of_getElem? (i := 76) rfl))) (mvT hZ (hw _ (List.mem_of_getElem? (i := 57) rfl))) (mvT hZ (hw _ (List.mem_of_getElem? (i := 77) rfl))) (by decide) (backOf (W := 0) (rm14 l Z a0 hw [] db i (f i) n kb (fun q => if q < 2 * i then own_u16 f q else 0) zc fm h0 n0 Z0 O0 U0 Vb hn (by omega) gb) hZ (hw _ (List.mem_of_getElem? (i := 77) rfl)) (hw _ (List.mem_of_getElem? (i := 57) rfl)) hRf hRl) (g := (mkF m 20 #[.val (.ref ca), .val (.int (Int32.ofNat i)), .val (.int (Int32.ofNat n)), .val (.ref db), .val (.int (Int32.ofNat i))] [(.int (f i)), (.int (Int32.ofNat i)), (.ref db)])) rfl (by rw [hml]; rfl) (argsL := [(.ref db), (.int (Int32.ofNat i)), (.int (f i))]) (rest := []) (lenOf pd_1 rfl) rfl (by show 2 * 0 + _ ≤ _; exact Nat.le_of_eq rfl) (hb hby d11_20) (fun _ _ => ⟨rfl, e0, (by show cells + 0 ≤ R.cells; omega), (by show slots + 0 ≤ R.slots; omega)⟩)
      dsimp only [Pt.U, Pt.locs, Pt.cells, Pt.slots] at X4 l4 y4 z4 st4 hQ4
      subst l4 y4 z4
      obtain ⟨rfl, Nq4, K4, Vq4⟩ := hQ4
      have O0_4 : Old Z n0 T4.heap := O0.keep K4 (allS gb all0)
      have Vc_4 : Arv Z T4.heap ca kc .char (Int32.ofNat n) (own_tab f (n)) (.int (0 : Int32)) := Vc.keep K4 (ninS hcb nin0)
      have Z4 : n0 ≤ T4.heap.size := Nat.le_trans Z0 K4.1
      have Kp4 : Keep h0 T4.heap [db] := Kp0.trans K4 (allS (Or.inl (List.mem_of_getElem? (i := 0) rfl)) all0)
      have N4 := Fr.app N0 Nq4
      have pre5 := fun τ (κ : Steps p.tables e below (T4.setTop (mkF m 23 #[.val (.ref ca), .val (.int (Int32.ofNat i)), .val (.int (Int32.ofNat n)), .val (.ref db), .val (.int (Int32.ofNat i))] [])) τ) => pre3 τ (st4 _ κ)
      have V_db_6 : Arv Z T4.heap db kb .byte (Int32.ofNat (2 * n)) (own_tab (fun q => if q < 2 * (i + 1) then own_u16 f q else 0) (2 * n)) (.int (0 : Int32)) := own_cg Vq4 (fun j hj => by exact own_u16step f i j)
      have pre7 := fun τ (κ : Steps p.tables e below (T4.setTop (mkF m 8 #[.val (.ref ca), .val (.int ((Int32.ofNat i) + (1 : Int32))), .val (.int (Int32.ofNat n)), .val (.ref db), .val (.int ((Int32.ofNat i) + (1 : Int32)))] [])) τ) => pre5 τ (by
        refine XS.iinc X4.here hx rfl (hb hby d11_23) rfl (l' := #[.val (.ref ca), .val (.int ((Int32.ofNat i) + (1 : Int32))), .val (.int (Int32.ofNat n)), .val (.ref db), .val (.int (Int32.ofNat i))]) rfl ?_
        show Steps p.tables e below (T4.setTop (mkF m 26 #[.val (.ref ca), .val (.int ((Int32.ofNat i) + (1 : Int32))), .val (.int (Int32.ofNat n)), .val (.ref db), .val (.int (Int32.ofNat i))] [])) _
        refine XS.iinc X4.here hx rfl (hb hby d11_26) rfl (l' := #[.val (.ref ca), .val (.int ((Int32.ofNat i) + (1 : Int32))), .val (.int (Int32.ofNat n)), .val (.ref db), .val (.int ((Int32.ofNat i) + (1 : Int32)))]) rfl ?_
        show Steps p.tables e below (T4.setTop (mkF m 29 #[.val (.ref ca), .val (.int ((Int32.ofNat i) + (1 : Int32))), .val (.int (Int32.ofNat n)), .val (.ref db), .val (.int ((Int32.ofNat i) + (1 : Int32)))] [])) _
        refine XS.goto X4.here hx rfl (pc0 := 29) (pc' := 8) rfl (hb hby d11_29) (by decide) (by decide) ?_
        show Steps p.tables e below (T4.setTop (mkF m 8 #[.val (.ref ca), .val (.int ((Int32.ofNat i) + (1 : Int32))), .val (.int (Int32.ofNat n)), .val (.ref db), .val (.int ((Int32.ofNat i) + (1 : Int32)))] [])) _
        exact κ)
      rw [show ((Int32.ofNat i) + (1 : Int32)) = (Int32.ofNat (i + 1)) from (own_addN _ 1)] at pre7
      obtain ⟨T', h', lo', X', e', N', K', O', V', z1, z2, st⟩ := ih (i + 1) _ _ _ (by omega) (by omega) (by simpa using X4) rfl N4 Z4 O0_4 Vc_4 V_db_6
      exact ⟨T', h', lo', X', e', N', Kp4.trans K' (allS (Or.inl (List.mem_of_getElem? (i := 0) rfl)) all0), O', V', z1, z2, fun τ κ => pre7 τ (st τ κ)⟩
    · skip
      have pre0 := fun τ (κ : Steps p.tables e below (T0.setTop (mkF m 8 #[.val (.ref ca), .val (.int (Int32.ofNat i)), .val (.int (Int32.ofNat n)), .val (.ref db), .val (.int (Int32.ofNat i))] [])) τ) => κ
      have Kp0 : Keep h0 h0 [db] := Keep.refl _ _
      have pre1 := fun τ (κ : Steps p.tables e below (T0.setTop (mkF m 32 #[.val (.ref ca), .val (.int (Int32.ofNat i)), .val (.int (Int32.ofNat n)), .val (.ref db), .val (.int (Int32.ofNat i))] [])) τ) => pre0 τ (by
        refine XS.iload X0.here hx rfl (hb hby d11_8) rfl ?_
        refine XS.iloadN X0.here hx rfl (hb hby d11_10) rfl ?_
        refine XS.icmpYes X0.here hx rfl (pc0 := 11) (pc' := 32) rfl (hb hby d11_11) rfl (flt (fun q => hgt ((own_ltN (by omega) (by omega)).mp q))).2.1 (by decide) (by decide) ?_
        show Steps p.tables e below (T0.setTop (mkF m 32 #[.val (.ref ca), .val (.int (Int32.ofNat i)), .val (.int (Int32.ofNat n)), .val (.ref db), .val (.int (Int32.ofNat i))] [])) _
        exact κ)
      have V_db_2 : Arv Z h0 db kb .byte (Int32.ofNat (2 * n)) (own_tab (own_u16 f) (2 * n)) (.int (0 : Int32)) := own_cg Vb (fun j hj => by rw [if_pos (by omega)])
      exact ⟨T0, h0, locs, X0, e0, N0, Kp0, O0, V_db_2, _, _, pre1⟩

theorem ef_11 (m : MethodId) (ca : Addr) (n : Nat) (zc : Int32) (fm : Value) : entryFrame m #[(.ref ca), (.int (0 : Int32)), (.int (Int32.ofNat n))] 5 = mkF m 0 #[.val (.ref ca), .val (.int (0 : Int32)), .val (.int (Int32.ofNat n)), .unset, .unset] [] := by first | (simp [entryFrame, mkF, argsToLocals, Value.category]; done) | rfl
def Q11 (Z : State) (ca : Addr) (n : Nat) (kc : ClassId) (f : Nat → Int32) (zc : Int32) (fm : Value) (h0 : Heap) (n0 : Nat) (v : Option Value) (h : Heap) (L : List Loc) : Prop := ∃ (b : Addr) (kb : ClassId), v = some (.ref b) ∧ Fr n0 L ∧ Keep h0 h [] ∧ Arv Z h b kb .byte (Int32.ofNat (2 * n)) (own_tab (own_u16 f) (2 * n)) (.int (0 : Int32)) ∧ h0.size ≤ b
set_option maxRecDepth 65536 in
set_option maxHeartbeats 40000000 in
theorem rm11 (l : Launch) (Z : State) (a0 : Array Value) (hw : ∀ d ∈ tables_1, d.before a0 Z = true) (ws : List Jvm.Cond) (ca : Addr) (n : Nat) (kc : ClassId) (f : Nat → Int32) (zc : Int32) (fm : Value) (h0 : Heap) (n0 : Nat) (Z0 : n0 ≤ h0.size) (O0 : Old Z n0 h0) (U0 : own_ST Z zc fm) (Vc : Arv Z h0 ca kc .char (Int32.ofNat n) (own_tab f (n)) (.int (0 : Int32))) (hn : n ≤ 16) :
    MetFree l (⟨"java/lang/StringUTF16", "toBytes", "([CII)[B"⟩ : MethodName) (head1 (Jvm.Cond.code (⟨"java/lang/StringUTF16", "toBytes", "([CII)[B"⟩ : MethodName) jdk_52_method_14_code 5 (some (.array .byte)) :: ws) ({ frames := 2, cells := 1, slots := 32, locals := 24 } : Room)) (fun α υ => α = #[(.ref ca), (.int (0 : Int32)), (.int (Int32.ofNat n))] ∧ Z.Warmed39 υ.vm ∧ υ.heap = h0) (fun _ _ _ _ _ => True) (fun _ υ ω υ' => ∃ v L, ω = .returned v ∧ Q11 Z ca n kc f zc fm h0 n0 v υ'.heap L ∧ FrameEnd υ ω υ' L ({ frames := 2, cells := 1, slots := 32, locals := 24 } : Room).cells ({ frames := 2, cells := 1, slots := 32, locals := 24 } : Room).slots) := by
  refine MetFree.of_bodySF (plainFor_of_name pn_java_lang_StringUTF16) hisR ?_
  intro p e s m args below meth c s₁ Bd hml0 hP hK
  obtain ⟨rfl, hZ, hh⟩ := hP
  have hx := Bd.exec
  have hby := Bd.bytes
  have hml : c.maxLocals = 5 := hml0
  have hown : s.vm.findClass "java/lang/StringUTF16" = some m.cls := findClass_of_methodNamed Bd.named
  have hnm := (name_of_methodNamed Bd.named Bd.method).1
  have X0 : Stand p l e ({ frames := 2, cells := 1, slots := 32, locals := 24 } : Room) s m #[(.ref ca), (.int (0 : Int32)), (.int (Int32.ofNat n))] below meth c s₁ [] 0 0 := Stand.of_body Bd
  have e0 : s₁.heap = h0 := by rw [← hh, Bd.state]; rfl
  have N0 := Fr.nil n0
  have pre0 : ∀ τ, Steps p.tables e below (s₁.setTop (mkF m 0 #[.val (.ref ca), .val (.int (0 : Int32)), .val (.int (Int32.ofNat n)), .unset, .unset] [])) τ → Steps p.tables e below (s₁.setTop (entryFrame m #[(.ref ca), (.int (0 : Int32)), (.int (Int32.ofNat n))] 5)) τ := fun τ κ => castTop (ef_11 m ca n zc fm) κ
  have Kp0 : Keep h0 h0 [] := Keep.refl _ _
  have pre1 := fun τ (κ : Steps p.tables e below (s₁.setTop (mkF m 1 #[.val (.ref ca), .val (.int (0 : Int32)), .val (.int (Int32.ofNat n)), .unset, .unset] [(.int (Int32.ofNat n))])) τ) => pre0 τ (by
    refine XS.iloadN X0.here hx rfl (hb hby d11_0) rfl ?_
    show Steps p.tables e below (s₁.setTop (mkF m 1 #[.val (.ref ca), .val (.int (0 : Int32)), .val (.int (Int32.ofNat n)), .unset, .unset] [(.int (Int32.ofNat n))])) _
    exact κ)
  obtain ⟨_, _, ⟨T2, L2, k2, n2⟩, -, X2, ⟨Lc2, hQ2, l2, y2, z2⟩, st2⟩ := Jvm.LawKit.callS X0 hx (y := (⟨"java/lang/StringUTF16", "newBytesFor", "(I)[B"⟩ : MethodName)) hown (mvT hZ (hw _ (List.mem_of_getElem? (i := 68) rfl))) (mvT hZ (hw _ (List.mem_of_getElem? (i := 69) rfl))) (mvT hZ (hw _ (List.mem_of_getElem? (i := 57) rfl))) (mvT hZ (hw _ (List.mem_of_getElem? (i := 70) rfl))) (by decide) (backOf (W := 0) (rm12 l Z a0 hw [] n h0 n0 Z0 hn) hZ (hw _ (List.mem_of_getElem? (i := 70) rfl)) (hw _ (List.mem_of_getElem? (i := 57) rfl)) (Nat.le_of_ble_eq_true rfl) (Nat.le_of_ble_eq_true rfl)) (g := (mkF m 1 #[.val (.ref ca), .val (.int (0 : Int32)), .val (.int (Int32.ofNat n)), .unset, .unset] [(.int (Int32.ofNat n))])) rfl (by rw [hml]; rfl) (argsL := [(.int (Int32.ofNat n))]) (rest := []) (lenOf pd_2 rfl) rfl (by show 2 * 0 + _ ≤ _; exact Nat.le_of_eq rfl) (hb hby d11_1) (fun _ _ => ⟨rfl, e0, (by decide : 0 + 1 ≤ _), (by decide : 0 + 32 ≤ _)⟩)
  dsimp only [Pt.U, Pt.locs, Pt.cells, Pt.slots] at X2 l2 y2 z2 st2 hQ2
  subst l2 y2 z2
  obtain ⟨b, kb, rfl, Nq2, K2, Vb, sb⟩ := hQ2
  have O0_2 : Old Z n0 T2.heap := O0.keep K2 all0
  have Vc_2 : Arv Z T2.heap ca kc .char (Int32.ofNat n) (own_tab f (n)) (.int (0 : Int32)) := Vc.keep K2 nin0
  have Z2 : n0 ≤ T2.heap.size := Nat.le_trans Z0 K2.1
  have Kp2 : Keep h0 T2.heap [] := Kp0.trans K2 all0
  have N2 := Fr.app N0 Nq2
  have pre3 := fun τ (κ : Steps p.tables e below (T2.setTop (mkF m 4 #[.val (.ref ca), .val (.int (0 : Int32)), .val (.int (Int32.ofNat n)), .unset, .unset] [(.ref b)])) τ) => pre1 τ (st2 _ κ)
  have gb : n0 ≤ b := Nat.le_trans Z0 sb
  have hcb : ca ≠ b := Nat.ne_of_lt (Nat.lt_of_lt_of_le Vc.lt sb)
  have Vb0 : Arv Z T2.heap b kb .byte (Int32.ofNat (2 * n)) (own_tab (fun q => if q < 2 * 0 then own_u16 f q else 0) (2 * n)) (.int (0 : Int32)) := own_cg Vb (fun j hj => by rw [if_neg (by omega)])
  obtain ⟨T9, h9, lo9, X9, e9, N9, K9, O9, V9, z1, z2, st9⟩ := loopT hx hZ hw hby hml hown ca b kc kb n f zc fm U0 hn hcb gb (Nat.le_of_ble_eq_true rfl) (Nat.le_of_ble_eq_true rfl) (Nat.le_of_ble_eq_true rfl) (Nat.le_of_ble_eq_true rfl) n 0 _ _ _ (by omega) (by omega) X2 rfl N2 Z2 O0_2 Vc_2 Vb0
  have pre4 := fun τ (κ : Steps p.tables e below (T2.setTop (mkF m 8 #[.val (.ref ca), .val (.int (0 : Int32)), .val (.int (Int32.ofNat n)), .val (.ref b), .val (.int (0 : Int32))] [])) τ) => pre3 τ (by
    refine XS.astoreN X2.here hx rfl (hb hby d11_4) rfl rfl (l' := #[.val (.ref ca), .val (.int (0 : Int32)), .val (.int (Int32.ofNat n)), .val (.ref b), .unset]) rfl ?_
    show Steps p.tables e below (T2.setTop (mkF m 5 #[.val (.ref ca), .val (.int (0 : Int32)), .val (.int (Int32.ofNat n)), .val (.ref b), .unset] [])) _
    refine XS.iconst X2.here hx rfl (hb hby d11_5) ?_
    refine XS.istore X2.here hx rfl (hb hby d11_6) rfl (l' := #[.val (.ref ca), .val (.int (0 : Int32)), .val (.int (Int32.ofNat n)), .val (.ref b), .val (.int (0 : Int32))]) rfl ?_
    show Steps p.tables e below (T2.setTop (mkF m 8 #[.val (.ref ca), .val (.int (0 : Int32)), .val (.int (Int32.ofNat n)), .val (.ref b), .val (.int (0 : Int32))] [])) _
    exact κ)
  have pre99 := fun τ (κ : Steps p.tables e below (T9.setTop (mkF m 32 #[.val (.ref ca), .val (.int z1), .val (.int (Int32.ofNat n)), .val (.ref b), .val (.int z2)] [])) τ) => pre4 τ (st9 τ κ)
  have pre5 := fun τ (κ : Steps p.tables e below (T9.setTop (mkF m 33 #[.val (.ref ca), .val (.int z1), .val (.int (Int32.ofNat n)), .val (.ref b), .val (.int z2)] [(.ref b)])) τ) => pre99 τ (by
    refine XS.aloadN X9.here hx rfl (hb hby d11_32) rfl rfl ?_
    show Steps p.tables e below (T9.setTop (mkF m 33 #[.val (.ref ca), .val (.int z1), .val (.int (Int32.ofNat n)), .val (.ref b), .val (.int z2)] [(.ref b)])) _
    exact κ)
  obtain ⟨fs, hr, hrun, hended, hW, hsame⟩ := X9.leave (v := some (.ref b)) (fun h => by rw [Bd.returns] at h; cases h)
  refine ⟨_, _, pre5 _ ?_, hrun, hended, _, _, rfl, ?_, ⟨_, rfl⟩, hW, hsame.mono (by decide) (by decide)⟩
  · jvm_step X9.here [X9.here.top, hx, (hb hby d11_33), X9.method', Bd.returns, Value.isRef, FieldType.isReference]
    first | (intro acts; rw [hr _ acts rfl rfl rfl]) | rw [hr _ _ rfl rfl rfl]
    exact Steps.refl _
  · show Q11 Z ca n kc f zc fm h0 n0 _ T9.heap _
    rw [e9]
    exact ⟨b, kb, rfl, N9, Kp2.trans K9 (allS (Or.inr sb) all0), V9, sb⟩
theorem own_l1step (f : Nat → Int32) (i j : Nat) : (if j = i then own_l1 f i else (fun q => if q < i then own_l1 f q else 0) j) = (if j < i + 1 then own_l1 f j else 0) := by
  by_cases h1 : j = i
  · subst h1; rw [if_pos rfl, if_pos (by omega)]
  · rw [if_neg h1]; show (if j < i then own_l1 f j else 0) = _
    by_cases h3 : j < i
    · rw [if_pos h3, if_pos (by omega)]
    · rw [if_neg h3, if_neg (by omega)]
theorem own_allS {f : Nat → Int32} {i : Nat} (h : ∀ j, j < i → ¬ (255 : Int32) < f j) (hq : ¬ (255 : Int32) < f i) : ∀ j, j < i + 1 → ¬ (255 : Int32) < f j := fun j hj => by
  by_cases q : j = i
  · subst q; exact hq
  · exact h j (by omega)
set_option maxRecDepth 65536 in
set_option maxHeartbeats 40000000 in
theorem loopK {p : Program} {l : Launch} {e : Env} {R : Room} {s : State} {m : MethodId} {args : Array Value} {below : List Frame} {meth : Method} {c : Code} {Z : State} {a0 : Array Value} (hx : p.tables.exec = Jvm.exec) (hZ : Z.Warmed39 s.vm) (hw : ∀ d ∈ tables_1, d.before a0 Z = true) (hby : c.code = jdk_52_method_21_code) (hml : c.maxLocals = 7) (hown : s.vm.findClass "java/lang/StringUTF16" = some m.cls) {n0 cells slots : Nat} (ca db : Addr) (kc kb : ClassId) (n : Nat) (f : Nat → Int32) (hn : n ≤ 16) (hcb : ca ≠ db) (gb : n0 ≤ db) :
    ∀ (fu i : Nat) (T0 : State) (h0 : Heap) (locs : List Loc) (s6 : Slot), One s6 → n ≤ i + fu → i ≤ n → (∀ j, j < i → ¬ (255 : Int32) < f j) → Stand p l e R s m args below meth c T0 locs cells slots → T0.heap = h0 → Fr n0 locs → n0 ≤ h0.size → Arv Z h0 ca kc .char (Int32.ofNat n) (own_tab f n) (.int (0 : Int32)) → Arv Z h0 db kb .byte (Int32.ofNat n) (own_tab (fun q => if q < i then own_l1 f q else 0) n) (.int (0 : Int32)) →
      ∃ (T' : State) (h' : Heap) (locs' : List Loc) (k pc9 : Nat) (L9 : Array Slot), Stand p l e R s m args below meth c T' locs' cells slots ∧ T'.heap = h' ∧ Fr n0 locs' ∧ Keep h0 h' [db] ∧ k ≤ n ∧ (∀ j, j < k → ¬ (255 : Int32) < f j) ∧ (k < n → (255 : Int32) < f k) ∧ Arv Z h' db kb .byte (Int32.ofNat n) (own_tab (fun q => if q < k then own_l1 f q else 0) n) (.int (0 : Int32)) ∧ decode c.code pc9 = .ok (.ireturn, 1) ∧ ∀ t, Steps p.tables e below (T'.setTop (mkF m pc9 L9 [.int (Int32.ofNat k)])) t → Steps p.tables e below (T0.setTop (mkF m 3 #[.val (.ref ca), .val (.int (Int32.ofNat i)), .val (.ref db), .val (.int (Int32.ofNat i)), .val (.int (Int32.ofNat n)), .val (.int (Int32.ofNat i)), s6] [])) t := by
  intro fu
  induction fu with
  | zero =>
    intro i T0 h0 locs s6 hs6 hfu hin hall X0 e0 N0 Z0 Vc Vb
    have hgt : ¬ i < n := by omega
    have pre0 := fun τ (κ : Steps p.tables e below (T0.setTop (mkF m 3 #[.val (.ref ca), .val (.int (Int32.ofNat i)), .val (.ref db), .val (.int (Int32.ofNat i)), .val (.int (Int32.ofNat n)), .val (.int (Int32.ofNat i)), s6] [])) τ) => κ
    have Kp0 : Keep h0 h0 [db] := Keep.refl _ _
    have pre1 := fun τ (κ : Steps p.tables e below (T0.setTop (mkF m 46 #[.val (.ref ca), .val (.int (Int32.ofNat i)), .val (.ref db), .val (.int (Int32.ofNat i)), .val (.int (Int32.ofNat n)), .val (.int (Int32.ofNat i)), s6] [(.int (Int32.ofNat n))])) τ) => pre0 τ (by
      refine XS.iload X0.here hx rfl (hb hby d9_3) rfl ?_
      refine XS.iload X0.here hx rfl (hb hby d9_5) rfl ?_
      refine XS.icmpYes X0.here hx rfl (pc0 := 7) (pc' := 44) rfl (hb hby d9_7) rfl (flt (fun q => hgt ((own_ltN (by omega) (by omega)).mp q))).2.1 (by decide) (by decide) ?_
      show Steps p.tables e below (T0.setTop (mkF m 44 #[.val (.ref ca), .val (.int (Int32.ofNat i)), .val (.ref db), .val (.int (Int32.ofNat i)), .val (.int (Int32.ofNat n)), .val (.int (Int32.ofNat i)), s6] [])) _
      refine XS.iload X0.here hx rfl (hb hby d9_44) rfl ?_
      show Steps p.tables e below (T0.setTop (mkF m 46 #[.val (.ref ca), .val (.int (Int32.ofNat i)), .val (.ref db), .val (.int (Int32.ofNat i)), .val (.int (Int32.ofNat n)), .val (.int (Int32.ofNat i)), s6] [(.int (Int32.ofNat n))])) _
      exact κ)
    have hin' : i = n := by omega
    subst hin'
    exact ⟨T0, h0, locs, i, 46, _, X0, e0, N0, Kp0, by omega, hall, (fun q => absurd q (by omega)), Vb, (hb hby d9_46), pre1⟩
  | succ fu ih =>
    intro i T0 h0 locs s6 hs6 hfu hin hall X0 e0 N0 Z0 Vc Vb
    by_cases hgt : i < n
    · skip
      have pre0 := fun τ (κ : Steps p.tables e below (T0.setTop (mkF m 3 #[.val (.ref ca), .val (.int (Int32.ofNat i)), .val (.ref db), .val (.int (Int32.ofNat i)), .val (.int (Int32.ofNat n)), .val (.int (Int32.ofNat i)), s6] [])) τ) => κ
      have Kp0 : Keep h0 h0 [db] := Keep.refl _ _
      have pre1 := fun τ (κ : Steps p.tables e below (T0.setTop (mkF m 12 #[.val (.ref ca), .val (.int (Int32.ofNat i)), .val (.ref db), .val (.int (Int32.ofNat i)), .val (.int (Int32.ofNat n)), .val (.int (Int32.ofNat i)), s6] [(.int (Int32.ofNat i)), (.ref ca)])) τ) => pre0 τ (by
        refine XS.iload X0.here hx rfl (hb hby d9_3) rfl ?_
        refine XS.iload X0.here hx rfl (hb hby d9_5) rfl ?_
        refine XS.icmpNo X0.here hx rfl (hb hby d9_7) rfl (tlt ((own_ltN (by omega) (by omega)).mpr hgt)).2.1 ?_
        show Steps p.tables e below (T0.setTop (mkF m 10 #[.val (.ref ca), .val (.int (Int32.ofNat i)), .val (.ref db), .val (.int (Int32.ofNat i)), .val (.int (Int32.ofNat n)), .val (.int (Int32.ofNat i)), s6] [])) _
        refine XS.aloadN X0.here hx rfl (hb hby d9_10) rfl rfl ?_
        refine XS.iloadN X0.here hx rfl (hb hby d9_11) rfl ?_
        show Steps p.tables e below (T0.setTop (mkF m 12 #[.val (.ref ca), .val (.int (Int32.ofNat i)), .val (.ref db), .val (.int (Int32.ofNat i)), .val (.int (Int32.ofNat n)), .val (.int (Int32.ofNat i)), s6] [(.int (Int32.ofNat i)), (.ref ca)])) _
        exact κ)
      obtain ⟨cl2, Ar2, -, S2, M2, H2, -⟩ := id Vc
      have in2 : ¬ ((Int32.ofNat i) < 0 ∨ cl2.slots.size ≤ ((Int32.ofNat i)).toNatClampNeg) := inb_of S2 ⟨own_nn (by omega), (own_ltN (by omega) (by omega)).mpr (by omega)⟩
      have at2 : cl2.slots[((Int32.ofNat i)).toNatClampNeg]? = some (.int (f i)) := H2.at in2 (by rw [own_clamp (by omega)]; exact own_tab_get (by omega) _)
      have pre3 := fun τ (κ : Steps p.tables e below (T0.setTop (mkF m 20 #[.val (.ref ca), .val (.int (Int32.ofNat i)), .val (.ref db), .val (.int (Int32.ofNat i)), .val (.int (Int32.ofNat n)), .val (.int (Int32.ofNat i)), .val (.int (f i))] [(.int (255 : Int32)), (.int (f i))])) τ) => pre1 τ (by
        refine X0.caload hx (j := (Int32.ofNat i)) (v := (.int (f i))) (by rw [e0]; exact Ar2.1) (State.isArrayOf_alike hZ.alike Ar2.2.1) Ar2.2.2 in2 at2 (g := (mkF m 12 #[.val (.ref ca), .val (.int (Int32.ofNat i)), .val (.ref db), .val (.int (Int32.ofNat i)), .val (.int (Int32.ofNat n)), .val (.int (Int32.ofNat i)), s6] [(.int (Int32.ofNat i)), (.ref ca)])) rfl rfl (hb hby d9_12) _ ?_
        show Steps p.tables e below (T0.setTop (mkF m 13 #[.val (.ref ca), .val (.int (Int32.ofNat i)), .val (.ref db), .val (.int (Int32.ofNat i)), .val (.int (Int32.ofNat n)), .val (.int (Int32.ofNat i)), s6] [(.int (f i))])) _
        refine XS.istore X0.here hx rfl (hb hby d9_13) rfl (l' := #[.val (.ref ca), .val (.int (Int32.ofNat i)), .val (.ref db), .val (.int (Int32.ofNat i)), .val (.int (Int32.ofNat n)), .val (.int (Int32.ofNat i)), .val (.int (f i))]) (own_s6 hs6) ?_
        show Steps p.tables e below (T0.setTop (mkF m 15 #[.val (.ref ca), .val (.int (Int32.ofNat i)), .val (.ref db), .val (.int (Int32.ofNat i)), .val (.int (Int32.ofNat n)), .val (.int (Int32.ofNat i)), .val (.int (f i))] [])) _
        refine XS.iload X0.here hx rfl (hb hby d9_15) rfl ?_
        refine XS.sipush X0.here hx rfl (hb hby d9_17) ?_
        show Steps p.tables e below (T0.setTop (mkF m 20 #[.val (.ref ca), .val (.int (Int32.ofNat i)), .val (.ref db), .val (.int (Int32.ofNat i)), .val (.int (Int32.ofNat n)), .val (.int (Int32.ofNat i)), .val (.int (f i))] [(.int (255 : Int32)), (.int (f i))])) _
        exact κ)
      by_cases hq : (255 : Int32) < (f i)
      · have pre4 := fun τ (κ : Steps p.tables e below (T0.setTop (mkF m 25 #[.val (.ref ca), .val (.int (Int32.ofNat i)), .val (.ref db), .val (.int (Int32.ofNat i)), .val (.int (Int32.ofNat n)), .val (.int (Int32.ofNat i)), .val (.int (f i))] [(.int (Int32.ofNat i))])) τ) => pre3 τ (by
          refine XS.icmpNo X0.here hx rfl (hb hby d9_20) rfl (tlt hq).2.2.2 ?_
          show Steps p.tables e below (T0.setTop (mkF m 23 #[.val (.ref ca), .val (.int (Int32.ofNat i)), .val (.ref db), .val (.int (Int32.ofNat i)), .val (.int (Int32.ofNat n)), .val (.int (Int32.ofNat i)), .val (.int (f i))] [])) _
          refine XS.iload X0.here hx rfl (hb hby d9_23) rfl ?_
          show Steps p.tables e below (T0.setTop (mkF m 25 #[.val (.ref ca), .val (.int (Int32.ofNat i)), .val (.ref db), .val (.int (Int32.ofNat i)), .val (.int (Int32.ofNat n)), .val (.int (Int32.ofNat i)), .val (.int (f i))] [(.int (Int32.ofNat i))])) _
          exact κ)
        exact ⟨T0, h0, locs, i, 25, _, X0, e0, N0, Kp0, by omega, hall, (fun _ => hq), Vb, (hb hby d9_25), pre4⟩
      · have pre5 := fun τ (κ : Steps p.tables e below (T0.setTop (mkF m 31 #[.val (.ref ca), .val (.int (Int32.ofNat i)), .val (.ref db), .val (.int (Int32.ofNat i)), .val (.int (Int32.ofNat n)), .val (.int (Int32.ofNat i)), .val (.int (f i))] [(.int ((f i).toInt8.toInt32)), (.int (Int32.ofNat i)), (.ref db)])) τ) => pre3 τ (by
          refine XS.icmpYes X0.here hx rfl (pc0 := 20) (pc' := 26) rfl (hb hby d9_20) rfl (flt hq).2.2.2 (by decide) (by decide) ?_
          show Steps p.tables e below (T0.setTop (mkF m 26 #[.val (.ref ca), .val (.int (Int32.ofNat i)), .val (.ref db), .val (.int (Int32.ofNat i)), .val (.int (Int32.ofNat n)), .val (.int (Int32.ofNat i)), .val (.int (f i))] [])) _
          refine XS.aloadN X0.here hx rfl (hb hby d9_26) rfl rfl ?_
          refine XS.iloadN X0.here hx rfl (hb hby d9_27) rfl ?_
          refine XS.iload X0.here hx rfl (hb hby d9_28) rfl ?_
          refine XS.i2b X0.here hx rfl (hb hby d9_30) rfl ?_
          show Steps p.tables e below (T0.setTop (mkF m 31 #[.val (.ref ca), .val (.int (Int32.ofNat i)), .val (.ref db), .val (.int (Int32.ofNat i)), .val (.int (Int32.ofNat n)), .val (.int (Int32.ofNat i)), .val (.int (f i))] [(.int ((f i).toInt8.toInt32)), (.int (Int32.ofNat i)), (.ref db)])) _
          exact κ)
        have hj9 : (Int32.ofNat i).toNatClampNeg = i := own_clamp (by omega)
        have hi9 : i < (own_tab (fun q => if q < i then own_l1 f q else 0) (n)).length := by rw [own_tab_len]; omega
        obtain ⟨cl6, Ar6, q6, S6, M6, H6, G6⟩ := id Vb
        have in6 : ¬ ((Int32.ofNat i) < 0 ∨ cl6.slots.size ≤ ((Int32.ofNat i)).toNatClampNeg) := inb_of S6 ⟨own_nn (by omega), (own_ltN (by omega) (by omega)).mpr (by omega)⟩
        obtain ⟨T7, h7, X7, e7, W7, st7⟩ := stB X0 hx hZ e0 Ar6 (j := (Int32.ofNat i)) in6 (g := (mkF m 31 #[.val (.ref ca), .val (.int (Int32.ofNat i)), .val (.ref db), .val (.int (Int32.ofNat i)), .val (.int (Int32.ofNat n)), .val (.int (Int32.ofNat i)), .val (.int (f i))] [(.int ((f i).toInt8.toInt32)), (.int (Int32.ofNat i)), (.ref db)])) rfl rfl (hb hby d9_31)
        have Vc_7 : Arv Z h7 ca kc .char (Int32.ofNat n) (own_tab f (n)) (.int (0 : Int32)) := Vc.other W7 hcb
        have Kp7 : Keep h0 h7 [db] := Kp0.wr W7 (Or.inl (List.mem_of_getElem? (i := 0) rfl))
        have N7 := Fr.snoc X7 N0 gb
        have Z7 : n0 ≤ h7.size := Nat.le_trans Z0 (Keep.of_wr W7).1
        have V_db_7 : Arv Z h7 db kb .byte (Int32.ofNat n) (own_tab (fun q => if q = i then own_l1 f i else ((fun q => if q < i then own_l1 f q else 0)) q) (n)) (.int (0 : Int32)) := (by rw [show own_l1 f i = nar .byte ((f i).toInt8.toInt32) from (own_lolo (f i)).symm]; exact (own_tab_set (fun q => if q < i then own_l1 f q else 0) n i _) ▸ (Arv.set Ar6 q6 S6 M6 H6 G6 (fits_nar_byte _) W7 i (by first | rfl | assumption) (by assumption)))
        have pre8 := fun τ (κ : Steps p.tables e below (T7.setTop (mkF m 32 #[.val (.ref ca), .val (.int (Int32.ofNat i)), .val (.ref db), .val (.int (Int32.ofNat i)), .val (.int (Int32.ofNat n)), .val (.int (Int32.ofNat i)), .val (.int (f i))] [])) τ) => pre5 τ (st7 _ κ)
        have V_db_9 : Arv Z h7 db kb .byte (Int32.ofNat n) (own_tab (fun q => if q < (i + 1) then own_l1 f q else 0) (n)) (.int (0 : Int32)) := own_cg V_db_7 (fun j hj => by exact own_l1step f i j)
        have pre10 := fun τ (κ : Steps p.tables e below (T7.setTop (mkF m 3 #[.val (.ref ca), .val (.int ((Int32.ofNat i) + (1 : Int32))), .val (.ref db), .val (.int ((Int32.ofNat i) + (1 : Int32))), .val (.int (Int32.ofNat n)), .val (.int ((Int32.ofNat i) + (1 : Int32))), .val (.int (f i))] [])) τ) => pre8 τ (by
          refine XS.iinc X7.here hx rfl (hb hby d9_32) rfl (l' := #[.val (.ref ca), .val (.int ((Int32.ofNat i) + (1 : Int32))), .val (.ref db), .val (.int (Int32.ofNat i)), .val (.int (Int32.ofNat n)), .val (.int (Int32.ofNat i)), .val (.int (f i))]) rfl ?_
          show Steps p.tables e below (T7.setTop (mkF m 35 #[.val (.ref ca), .val (.int ((Int32.ofNat i) + (1 : Int32))), .val (.ref db), .val (.int (Int32.ofNat i)), .val (.int (Int32.ofNat n)), .val (.int (Int32.ofNat i)), .val (.int (f i))] [])) _
          refine XS.iinc X7.here hx rfl (hb hby d9_35) rfl (l' := #[.val (.ref ca), .val (.int ((Int32.ofNat i) + (1 : Int32))), .val (.ref db), .val (.int ((Int32.ofNat i) + (1 : Int32))), .val (.int (Int32.ofNat n)), .val (.int (Int32.ofNat i)), .val (.int (f i))]) rfl ?_
          show Steps p.tables e below (T7.setTop (mkF m 38 #[.val (.ref ca), .val (.int ((Int32.ofNat i) + (1 : Int32))), .val (.ref db), .val (.int ((Int32.ofNat i) + (1 : Int32))), .val (.int (Int32.ofNat n)), .val (.int (Int32.ofNat i)), .val (.int (f i))] [])) _
          refine XS.iinc X7.here hx rfl (hb hby d9_38) rfl (l' := #[.val (.ref ca), .val (.int ((Int32.ofNat i) + (1 : Int32))), .val (.ref db), .val (.int ((Int32.ofNat i) + (1 : Int32))), .val (.int (Int32.ofNat n)), .val (.int ((Int32.ofNat i) + (1 : Int32))), .val (.int (f i))]) rfl ?_
          show Steps p.tables e below (T7.setTop (mkF m 41 #[.val (.ref ca), .val (.int ((Int32.ofNat i) + (1 : Int32))), .val (.ref db), .val (.int ((Int32.ofNat i) + (1 : Int32))), .val (.int (Int32.ofNat n)), .val (.int ((Int32.ofNat i) + (1 : Int32))), .val (.int (f i))] [])) _
          refine XS.goto X7.here hx rfl (pc0 := 41) (pc' := 3) rfl (hb hby d9_41) (by decide) (by decide) ?_
          show Steps p.tables e below (T7.setTop (mkF m 3 #[.val (.ref ca), .val (.int ((Int32.ofNat i) + (1 : Int32))), .val (.ref db), .val (.int ((Int32.ofNat i) + (1 : Int32))), .val (.int (Int32.ofNat n)), .val (.int ((Int32.ofNat i) + (1 : Int32))), .val (.int (f i))] [])) _
          exact κ)
        rw [show ((Int32.ofNat i) + (1 : Int32)) = (Int32.ofNat (i + 1)) from (own_addN _ 1)] at pre10
        obtain ⟨T', h', lo', k9, pc9, L9, X', e', N', K', r0, r1, r2, V', d9, st⟩ := ih (i + 1) _ _ _ (.val (.int (f i))) (One.val rfl) (by omega) (by omega) (own_allS hall hq) X7 e7 N7 Z7 Vc_7 V_db_9
        exact ⟨T', h', lo', k9, pc9, L9, X', e', N', Kp7.trans K' (allS (Or.inl (List.mem_of_getElem? (i := 0) rfl)) all0), r0, r1, r2, V', d9, fun τ κ => pre10 τ (st τ κ)⟩
    · skip
      have pre0 := fun τ (κ : Steps p.tables e below (T0.setTop (mkF m 3 #[.val (.ref ca), .val (.int (Int32.ofNat i)), .val (.ref db), .val (.int (Int32.ofNat i)), .val (.int (Int32.ofNat n)), .val (.int (Int32.ofNat i)), s6] [])) τ) => κ
      have Kp0 : Keep h0 h0 [db] := Keep.refl _ _
      have pre1 := fun τ (κ : Steps p.tables e below (T0.setTop (mkF m 46 #[.val (.ref ca), .val (.int (Int32.ofNat i)), .val (.ref db), .val (.int (Int32.ofNat i)), .val (.int (Int32.ofNat n)), .val (.int (Int32.ofNat i)), s6] [(.int (Int32.ofNat n))])) τ) => pre0 τ (by
        refine XS.iload X0.here hx rfl (hb hby d9_3) rfl ?_
        refine XS.iload X0.here hx rfl (hb hby d9_5) rfl ?_
        refine XS.icmpYes X0.here hx rfl (pc0 := 7) (pc' := 44) rfl (hb hby d9_7) rfl (flt (fun q => hgt ((own_ltN (by omega) (by omega)).mp q))).2.1 (by decide) (by decide) ?_
        show Steps p.tables e below (T0.setTop (mkF m 44 #[.val (.ref ca), .val (.int (Int32.ofNat i)), .val (.ref db), .val (.int (Int32.ofNat i)), .val (.int (Int32.ofNat n)), .val (.int (Int32.ofNat i)), s6] [])) _
        refine XS.iload X0.here hx rfl (hb hby d9_44) rfl ?_
        show Steps p.tables e below (T0.setTop (mkF m 46 #[.val (.ref ca), .val (.int (Int32.ofNat i)), .val (.ref db), .val (.int (Int32.ofNat i)), .val (.int (Int32.ofNat n)), .val (.int (Int32.ofNat i)), s6] [(.int (Int32.ofNat n))])) _
        exact κ)
      have hin' : i = n := by omega
      subst hin'
      exact ⟨T0, h0, locs, i, 46, _, X0, e0, N0, Kp0, by omega, hall, (fun q => absurd q (by omega)), Vb, (hb hby d9_46), pre1⟩

theorem ef_9 (m : MethodId) (ca : Addr) (db : Addr) (n : Nat) : entryFrame m #[(.ref ca), (.int (0 : Int32)), (.ref db), (.int (0 : Int32)), (.int (Int32.ofNat n))] 7 = mkF m 0 #[.val (.ref ca), .val (.int (0 : Int32)), .val (.ref db), .val (.int (0 : Int32)), .val (.int (Int32.ofNat n)), .unset, .unset] [] := by first | (simp [entryFrame, mkF, argsToLocals, Value.category]; done) | rfl
def Q9 (Z : State) (ca : Addr) (db : Addr) (n : Nat) (kc : ClassId) (kb : ClassId) (f : Nat → Int32) (h0 : Heap) (n0 : Nat) (v : Option Value) (h : Heap) (L : List Loc) : Prop := ∃ k9 : Nat, v = some (.int (Int32.ofNat k9)) ∧ Fr n0 L ∧ Keep h0 h [db] ∧ k9 ≤ n ∧ (∀ j, j < k9 → ¬ (255 : Int32) < f j) ∧ (k9 < n → (255 : Int32) < f k9) ∧ Arv Z h db kb .byte (Int32.ofNat n) (own_tab (fun q => if q < k9 then own_l1 f q else 0) n) (.int (0 : Int32))
set_option maxRecDepth 65536 in
set_option maxHeartbeats 40000000 in
theorem rm9 (l : Launch) (Z : State) (a0 : Array Value) (hw : ∀ d ∈ tables_1, d.before a0 Z = true) (ws : List Jvm.Cond) (ca : Addr) (db : Addr) (n : Nat) (kc : ClassId) (kb : ClassId) (f : Nat → Int32) (h0 : Heap) (n0 : Nat) (Z0 : n0 ≤ h0.size) (Vc : Arv Z h0 ca kc .char (Int32.ofNat n) (own_tab f (n)) (.int (0 : Int32))) (Vb : Arv Z h0 db kb .byte (Int32.ofNat n) (own_tab (fun _ => 0) (n)) (.int (0 : Int32))) (hn : n ≤ 16) (hcb : ca ≠ db) (gb : n0 ≤ db) :
    MetFree l (⟨"java/lang/StringUTF16", "compress", "([CI[BII)I"⟩ : MethodName) (head1 (Jvm.Cond.code (⟨"java/lang/StringUTF16", "compress", "([CI[BII)I"⟩ : MethodName) jdk_52_method_21_code 7 (some .int) :: ws) ({ frames := 0, cells := 0, slots := 0, locals := 0 } : Room)) (fun α υ => α = #[(.ref ca), (.int (0 : Int32)), (.ref db), (.int (0 : Int32)), (.int (Int32.ofNat n))] ∧ Z.Warmed39 υ.vm ∧ υ.heap = h0) (fun _ _ _ _ _ => True) (fun _ υ ω υ' => ∃ v L, ω = .returned v ∧ Q9 Z ca db n kc kb f h0 n0 v υ'.heap L ∧ FrameEnd υ ω υ' L ({ frames := 0, cells := 0, slots := 0, locals := 0 } : Room).cells ({ frames := 0, cells := 0, slots := 0, locals := 0 } : Room).slots) := by
  refine MetFree.of_bodySF (plainFor_of_name pn_java_lang_StringUTF16) hisR ?_
  intro p e s m args below meth c s₁ Bd hml0 hP hK
  obtain ⟨rfl, hZ, hh⟩ := hP
  have hx := Bd.exec
  have hby := Bd.bytes
  have hml : c.maxLocals = 7 := hml0
  have hown : s.vm.findClass "java/lang/StringUTF16" = some m.cls := findClass_of_methodNamed Bd.named
  have hnm := (name_of_methodNamed Bd.named Bd.method).1
  have X0 : Stand p l e ({ frames := 0, cells := 0, slots := 0, locals := 0 } : Room) s m #[(.ref ca), (.int (0 : Int32)), (.ref db), (.int (0 : Int32)), (.int (Int32.ofNat n))] below meth c s₁ [] 0 0 := Stand.of_body Bd
  have e0 : s₁.heap = h0 := by rw [← hh, Bd.state]; rfl
  have N0 := Fr.nil n0
  have pre0 : ∀ τ, Steps p.tables e below (s₁.setTop (mkF m 0 #[.val (.ref ca), .val (.int (0 : Int32)), .val (.ref db), .val (.int (0 : Int32)), .val (.int (Int32.ofNat n)), .unset, .unset] [])) τ → Steps p.tables e below (s₁.setTop (entryFrame m #[(.ref ca), (.int (0 : Int32)), (.ref db), (.int (0 : Int32)), (.int (Int32.ofNat n))] 7)) τ := fun τ κ => castTop (ef_9 m ca db n) κ
  have pre1 := fun τ (κ : Steps p.tables e below (s₁.setTop (mkF m 3 #[.val (.ref ca), .val (.int (0 : Int32)), .val (.ref db), .val (.int (0 : Int32)), .val (.int (Int32.ofNat n)), .val (.int (0 : Int32)), .unset] [])) τ) => pre0 τ (by
    refine XS.iconst X0.here hx rfl (hb hby d9_0) ?_
    refine XS.istore X0.here hx rfl (hb hby d9_1) rfl (l' := #[.val (.ref ca), .val (.int (0 : Int32)), .val (.ref db), .val (.int (0 : Int32)), .val (.int (Int32.ofNat n)), .val (.int (0 : Int32)), .unset]) rfl ?_
    show Steps p.tables e below (s₁.setTop (mkF m 3 #[.val (.ref ca), .val (.int (0 : Int32)), .val (.ref db), .val (.int (0 : Int32)), .val (.int (Int32.ofNat n)), .val (.int (0 : Int32)), .unset] [])) _
    exact κ)
  have Vb0 : Arv Z h0 db kb .byte (Int32.ofNat n) (own_tab (fun q => if q < 0 then own_l1 f q else 0) n) (.int (0 : Int32)) := own_cg Vb (fun j hj => by rw [if_neg (by omega)])
  obtain ⟨T9, h9, lo9, k9, pc9, L9, X9, e9, N9, K9, r0, r1, r2, V9, d9, st9⟩ := loopK hx hZ hw hby hml hown ca db kc kb n f hn hcb gb n 0 _ _ _ .unset One.u (by omega) (by omega) (fun j hj => absurd hj (by omega)) X0 e0 N0 Z0 Vc Vb0
  have pre99 := fun τ (κ : Steps p.tables e below (T9.setTop (mkF m pc9 L9 [.int (Int32.ofNat k9)])) τ) => pre1 τ (st9 τ κ)
  obtain ⟨fs, hr, hrun, hended, hW, hsame⟩ := X9.leave (v := some (.int (Int32.ofNat k9))) (fun h => by rw [Bd.returns] at h; cases h)
  refine ⟨_, _, pre99 _ ?_, hrun, hended, _, _, rfl, ?_, ⟨_, rfl⟩, hW, hsame.mono (by decide) (by decide)⟩
  · exact retI X9 hx Bd.returns d9 hr
  · show Q9 Z ca db n kc kb f h0 n0 _ T9.heap _
    rw [e9]
    exact ⟨k9, rfl, N9, K9, r0, r1, r2, V9⟩
theorem ef_8 (m : MethodId) (ca : Addr) (n : Nat) (zc : Int32) (fm : Value) : entryFrame m #[(.ref ca), (.int (0 : Int32)), (.int (Int32.ofNat n))] 6 = mkF m 0 #[.val (.ref ca), .val (.int (0 : Int32)), .val (.int (Int32.ofNat n)), .unset, .unset, .unset] [] := by first | (simp [entryFrame, mkF, argsToLocals, Value.category]; done) | rfl
def Q8 (Z : State) (ca : Addr) (n : Nat) (kc : ClassId) (f : Nat → Int32) (zc : Int32) (fm : Value) (h0 : Heap) (n0 : Nat) (v : Option Value) (h : Heap) (L : List Loc) : Prop := ∃ (tb : Addr) (cd : Int32), v = some (.ref tb) ∧ Fr n0 L ∧ Keep h0 h [] ∧ h0.size ≤ tb ∧ own_BY Z h tb cd f n
set_option maxRecDepth 65536 in
set_option maxHeartbeats 40000000 in
theorem rm8 (l : Launch) (Z : State) (a0 : Array Value) (hw : ∀ d ∈ tables_1, d.before a0 Z = true) (ws : List Jvm.Cond) (ca : Addr) (n : Nat) (kc : ClassId) (f : Nat → Int32) (zc : Int32) (fm : Value) (h0 : Heap) (n0 : Nat) (Z0 : n0 ≤ h0.size) (O0 : Old Z n0 h0) (U0 : own_ST Z zc fm) (Vc : Arv Z h0 ca kc .char (Int32.ofNat n) (own_tab f (n)) (.int (0 : Int32))) (hn : n ≤ 16) (hf : ∀ j, j < n → own_ch (f j)) :
    MetFree l (⟨"java/lang/StringUTF16", "compress", "([CII)[B"⟩ : MethodName) (head1 (Jvm.Cond.code (⟨"java/lang/StringUTF16", "compress", "([CII)[B"⟩ : MethodName) jdk_52_method_16_code 6 (some (.array .byte)) :: ws) ({ frames := 3, cells := 2, slots := 48, locals := 40 } : Room)) (fun α υ => α = #[(.ref ca), (.int (0 : Int32)), (.int (Int32.ofNat n))] ∧ Z.Warmed39 υ.vm ∧ υ.heap = h0) (fun _ _ _ _ _ => True) (fun _ υ ω υ' => ∃ v L, ω = .returned v ∧ Q8 Z ca n kc f zc fm h0 n0 v υ'.heap L ∧ FrameEnd υ ω υ' L ({ frames := 3, cells := 2, slots := 48, locals := 40 } : Room).cells ({ frames := 3, cells := 2, slots := 48, locals := 40 } : Room).slots) := by
  refine MetFree.of_bodySF (plainFor_of_name pn_java_lang_StringUTF16) hisR ?_
  intro p e s m args below meth c s₁ Bd hml0 hP hK
  obtain ⟨rfl, hZ, hh⟩ := hP
  have hx := Bd.exec
  have hby := Bd.bytes
  have hml : c.maxLocals = 6 := hml0
  have hown : s.vm.findClass "java/lang/StringUTF16" = some m.cls := findClass_of_methodNamed Bd.named
  have hnm := (name_of_methodNamed Bd.named Bd.method).1
  have X0 : Stand p l e ({ frames := 3, cells := 2, slots := 48, locals := 40 } : Room) s m #[(.ref ca), (.int (0 : Int32)), (.int (Int32.ofNat n))] below meth c s₁ [] 0 0 := Stand.of_body Bd
  have e0 : s₁.heap = h0 := by rw [← hh, Bd.state]; rfl
  have N0 := Fr.nil n0
  have pre0 : ∀ τ, Steps p.tables e below (s₁.setTop (mkF m 0 #[.val (.ref ca), .val (.int (0 : Int32)), .val (.int (Int32.ofNat n)), .unset, .unset, .unset] [])) τ → Steps p.tables e below (s₁.setTop (entryFrame m #[(.ref ca), (.int (0 : Int32)), (.int (Int32.ofNat n))] 6)) τ := fun τ κ => castTop (ef_8 m ca n zc fm) κ
  have Kp0 : Keep h0 h0 [] := Keep.refl _ _
  have pre1 := fun τ (κ : Steps p.tables e below (s₁.setTop (mkF m 1 #[.val (.ref ca), .val (.int (0 : Int32)), .val (.int (Int32.ofNat n)), .unset, .unset, .unset] [(.int (Int32.ofNat n))])) τ) => pre0 τ (by
    refine XS.iloadN X0.here hx rfl (hb hby d8_0) rfl ?_
    show Steps p.tables e below (s₁.setTop (mkF m 1 #[.val (.ref ca), .val (.int (0 : Int32)), .val (.int (Int32.ofNat n)), .unset, .unset, .unset] [(.int (Int32.ofNat n))])) _
    exact κ)
  obtain ⟨T2, h2, k2, X2, e2, E2, A2, st2⟩ := newP X0 hx hZ (hw _ (List.mem_of_getElem? (i := 15) rfl)) e0 (g := (mkF m 1 #[.val (.ref ca), .val (.int (0 : Int32)), .val (.int (Int32.ofNat n)), .unset, .unset, .unset] [(.int (Int32.ofNat n))])) rfl (hb hby d8_1) rfl (own_nn (by omega)) (cap := 16) (by rw [own_clamp (by omega)]; omega) (by decide) (by decide) (by decide)
  obtain ⟨b, g2⟩ : ∃ z, z = h0.size := ⟨_, rfl⟩
  rw [← g2] at A2 st2
  have g_b : n0 ≤ b := Nat.le_trans Z0 (Nat.le_of_eq g2.symm)
  have ne_ca_b : ca ≠ b := Nat.ne_of_lt (Nat.lt_of_lt_of_le Vc.lt (Nat.le_of_eq g2.symm))
  have O0_2 : Old Z n0 h2 := O0.ext E2
  have Vc_2 : Arv Z h2 ca kc .char (Int32.ofNat n) (own_tab f (n)) (.int (0 : Int32)) := Vc.ext E2
  have sz_b : h0.size ≤ b := Nat.le_trans Kp0.1 (Nat.le_of_eq g2.symm)
  have Kp2 : Keep h0 h2 [] := Kp0.ext E2
  have Z2 : n0 ≤ h2.size := Nat.le_trans Z0 E2.1
  have V_b_2 : Arv Z h2 b k2 .byte (Int32.ofNat n) [] (.int (0 : Int32)) := Arv.new A2 (own_nn (by omega))
  have pre3 := fun τ (κ : Steps p.tables e below (T2.setTop (mkF m 3 #[.val (.ref ca), .val (.int (0 : Int32)), .val (.int (Int32.ofNat n)), .unset, .unset, .unset] [(.ref b)])) τ) => pre1 τ (st2 _ κ)
  have Vb : Arv Z h2 b k2 .byte (Int32.ofNat n) (own_tab (fun _ => 0) (n)) (.int (0 : Int32)) := by rw [own_tab_pad]; exact V_b_2.pad (pad_rep [] _ n)
  have pre4 := fun τ (κ : Steps p.tables e below (T2.setTop (mkF m 9 #[.val (.ref ca), .val (.int (0 : Int32)), .val (.int (Int32.ofNat n)), .val (.ref b), .unset, .unset] [(.int (Int32.ofNat n)), (.int (0 : Int32)), (.ref b), (.int (0 : Int32)), (.ref ca)])) τ) => pre3 τ (by
    refine XS.astoreN X2.here hx rfl (hb hby d8_3) rfl rfl (l' := #[.val (.ref ca), .val (.int (0 : Int32)), .val (.int (Int32.ofNat n)), .val (.ref b), .unset, .unset]) rfl ?_
    show Steps p.tables e below (T2.setTop (mkF m 4 #[.val (.ref ca), .val (.int (0 : Int32)), .val (.int (Int32.ofNat n)), .val (.ref b), .unset, .unset] [])) _
    refine XS.aloadN X2.here hx rfl (hb hby d8_4) rfl rfl ?_
    refine XS.iloadN X2.here hx rfl (hb hby d8_5) rfl ?_
    refine XS.aloadN X2.here hx rfl (hb hby d8_6) rfl rfl ?_
    refine XS.iconst X2.here hx rfl (hb hby d8_7) ?_
    refine XS.iloadN X2.here hx rfl (hb hby d8_8) rfl ?_
    show Steps p.tables e below (T2.setTop (mkF m 9 #[.val (.ref ca), .val (.int (0 : Int32)), .val (.int (Int32.ofNat n)), .val (.ref b), .unset, .unset] [(.int (Int32.ofNat n)), (.int (0 : Int32)), (.ref b), (.int (0 : Int32)), (.ref ca)])) _
    exact κ)
  obtain ⟨_, _, ⟨T5, L5, k5, n5⟩, -, X5, ⟨Lc5, hQ5, l5, y5, z5⟩, st5⟩ := Jvm.LawKit.callS X2 hx (y := (⟨"java/lang/StringUTF16", "compress", "([CI[BII)I"⟩ : MethodName)) hown (mvT hZ (hw _ (List.mem_of_getElem? (i := 59) rfl))) (mvT hZ (hw _ (List.mem_of_getElem? (i := 60) rfl))) (mvT hZ (hw _ (List.mem_of_getElem? (i := 57) rfl))) (mvT hZ (hw _ (List.mem_of_getElem? (i := 61) rfl))) (by decide) (backOf (W := 0) (rm9 l Z a0 hw [] ca b n kc k2 f h2 n0 Z2 Vc_2 Vb hn ne_ca_b g_b) hZ (hw _ (List.mem_of_getElem? (i := 61) rfl)) (hw _ (List.mem_of_getElem? (i := 57) rfl)) (Nat.le_of_ble_eq_true rfl) (Nat.le_of_ble_eq_true rfl)) (g := (mkF m 9 #[.val (.ref ca), .val (.int (0 : Int32)), .val (.int (Int32.ofNat n)), .val (.ref b), .unset, .unset] [(.int (Int32.ofNat n)), (.int (0 : Int32)), (.ref b), (.int (0 : Int32)), (.ref ca)])) rfl (by rw [hml]; rfl) (argsL := [(.ref ca), (.int (0 : Int32)), (.ref b), (.int (0 : Int32)), (.int (Int32.ofNat n))]) (rest := []) (lenOf pd_3 rfl) rfl (by show 2 * 0 + _ ≤ _; exact Nat.le_of_eq rfl) (hb hby d8_9) (fun _ _ => ⟨rfl, e2, (by decide : 1 + 0 ≤ _), (by decide : 16 + 0 ≤ _)⟩)
  dsimp only [Pt.U, Pt.locs, Pt.cells, Pt.slots] at X5 l5 y5 z5 st5 hQ5
  subst l5 y5 z5
  obtain ⟨k9, rfl, Nq5, K5, r0, r1, r2, Vk⟩ := hQ5
  have O0_5 : Old Z n0 T5.heap := O0_2.keep K5 (allS g_b all0)
  have Vc_5 : Arv Z T5.heap ca kc .char (Int32.ofNat n) (own_tab f (n)) (.int (0 : Int32)) := Vc_2.keep K5 (ninS ne_ca_b nin0)
  have Z5 : n0 ≤ T5.heap.size := Nat.le_trans Z2 K5.1
  have Kp5 : Keep h0 T5.heap [] := Kp2.trans K5 (allS (Or.inr sz_b) all0)
  have N5 := Fr.app N0 Nq5
  have pre6 := fun τ (κ : Steps p.tables e below (T5.setTop (mkF m 12 #[.val (.ref ca), .val (.int (0 : Int32)), .val (.int (Int32.ofNat n)), .val (.ref b), .unset, .unset] [(.int (Int32.ofNat k9))])) τ) => pre4 τ (st5 _ κ)
  have pre7 := fun τ (κ : Steps p.tables e below (T5.setTop (mkF m 17 #[.val (.ref ca), .val (.int (0 : Int32)), .val (.int (Int32.ofNat n)), .val (.ref b), .val (.int (Int32.ofNat k9)), .unset] [(.int (Int32.ofNat n)), (.int (Int32.ofNat k9))])) τ) => pre6 τ (by
    refine XS.istore X5.here hx rfl (hb hby d8_12) rfl (l' := #[.val (.ref ca), .val (.int (0 : Int32)), .val (.int (Int32.ofNat n)), .val (.ref b), .val (.int (Int32.ofNat k9)), .unset]) rfl ?_
    show Steps p.tables e below (T5.setTop (mkF m 14 #[.val (.ref ca), .val (.int (0 : Int32)), .val (.int (Int32.ofNat n)), .val (.ref b), .val (.int (Int32.ofNat k9)), .unset] [])) _
    refine XS.iload X5.here hx rfl (hb hby d8_14) rfl ?_
    refine XS.iloadN X5.here hx rfl (hb hby d8_16) rfl ?_
    show Steps p.tables e below (T5.setTop (mkF m 17 #[.val (.ref ca), .val (.int (0 : Int32)), .val (.int (Int32.ofNat n)), .val (.ref b), .val (.int (Int32.ofNat k9)), .unset] [(.int (Int32.ofNat n)), (.int (Int32.ofNat k9))])) _
    exact κ)
  by_cases hq : (Int32.ofNat k9) = (Int32.ofNat n)
  · have hkn : k9 = n := (own_injN (by omega) (by omega)).mp hq
    rw [hkn] at r1
    have V_b_8 : Arv Z T5.heap b k2 .byte (Int32.ofNat n) (own_tab (own_l1 f) (n)) (.int (0 : Int32)) := own_cg Vk (fun j hj => by rw [if_pos (by omega)])
    have pre9 := fun τ (κ : Steps p.tables e below (T5.setTop (mkF m 58 #[.val (.ref ca), .val (.int (0 : Int32)), .val (.int (Int32.ofNat n)), .val (.ref b), .val (.int (Int32.ofNat k9)), .unset] [(.ref b)])) τ) => pre7 τ (by
      refine XS.icmpYes X5.here hx rfl (pc0 := 17) (pc' := 57) rfl (hb hby d8_17) rfl (teq hq).1 (by decide) (by decide) ?_
      show Steps p.tables e below (T5.setTop (mkF m 57 #[.val (.ref ca), .val (.int (0 : Int32)), .val (.int (Int32.ofNat n)), .val (.ref b), .val (.int (Int32.ofNat k9)), .unset] [])) _
      refine XS.aloadN X5.here hx rfl (hb hby d8_57) rfl rfl ?_
      show Steps p.tables e below (T5.setTop (mkF m 58 #[.val (.ref ca), .val (.int (0 : Int32)), .val (.int (Int32.ofNat n)), .val (.ref b), .val (.int (Int32.ofNat k9)), .unset] [(.ref b)])) _
      exact κ)
    obtain ⟨fs, hr, hrun, hended, hW, hsame⟩ := X5.leave (v := some (.ref b)) (fun h => by rw [Bd.returns] at h; cases h)
    refine ⟨_, _, pre9 _ ?_, hrun, hended, _, _, rfl, ?_, ⟨_, rfl⟩, hW, hsame.mono (by decide) (by decide)⟩
    · jvm_step X5.here [X5.here.top, hx, (hb hby d8_58), X5.method', Bd.returns, Value.isRef, FieldType.isReference]
      first | (intro acts; rw [hr _ acts rfl rfl rfl]) | rw [hr _ _ rfl rfl rfl]
      exact Steps.refl _
    · show Q8 Z ca n kc f zc fm h0 n0 _ T5.heap _
      exact ⟨b, 0, rfl, N5, Kp5, sz_b, k2, Or.inl ⟨rfl, r1, V_b_8⟩⟩
  · have hkn : k9 < n := by have : k9 ≠ n := fun q => hq (by rw [q]); omega
    have pre10 := fun τ (κ : Steps p.tables e below (T5.setTop (mkF m 23 #[.val (.ref ca), .val (.int (0 : Int32)), .val (.int (Int32.ofNat n)), .val (.ref b), .val (.int (Int32.ofNat k9)), .unset] [(.int (Int32.ofNat n)), (.int (0 : Int32)), (.ref ca)])) τ) => pre7 τ (by
      refine XS.icmpNo X5.here hx rfl (hb hby d8_17) rfl (feq hq).1 ?_
      show Steps p.tables e below (T5.setTop (mkF m 20 #[.val (.ref ca), .val (.int (0 : Int32)), .val (.int (Int32.ofNat n)), .val (.ref b), .val (.int (Int32.ofNat k9)), .unset] [])) _
      refine XS.aloadN X5.here hx rfl (hb hby d8_20) rfl rfl ?_
      refine XS.iloadN X5.here hx rfl (hb hby d8_21) rfl ?_
      refine XS.iloadN X5.here hx rfl (hb hby d8_22) rfl ?_
      show Steps p.tables e below (T5.setTop (mkF m 23 #[.val (.ref ca), .val (.int (0 : Int32)), .val (.int (Int32.ofNat n)), .val (.ref b), .val (.int (Int32.ofNat k9)), .unset] [(.int (Int32.ofNat n)), (.int (0 : Int32)), (.ref ca)])) _
      exact κ)
    obtain ⟨_, _, ⟨T11, L11, k11, n11⟩, -, X11, ⟨Lc11, hQ11, l11, y11, z11⟩, st11⟩ := Jvm.LawKit.callS X5 hx (y := (⟨"java/lang/StringUTF16", "toBytes", "([CII)[B"⟩ : MethodName)) hown (mvT hZ (hw _ (List.mem_of_getElem? (i := 65) rfl))) (mvT hZ (hw _ (List.mem_of_getElem? (i := 66) rfl))) (mvT hZ (hw _ (List.mem_of_getElem? (i := 57) rfl))) (mvT hZ (hw _ (List.mem_of_getElem? (i := 67) rfl))) (by decide) (backOf (W := 0) (rm11 l Z a0 hw [] ca n kc f zc fm T5.heap n0 Z5 O0_5 U0 Vc_5 hn) hZ (hw _ (List.mem_of_getElem? (i := 67) rfl)) (hw _ (List.mem_of_getElem? (i := 57) rfl)) (Nat.le_of_ble_eq_true rfl) (Nat.le_of_ble_eq_true rfl)) (g := (mkF m 23 #[.val (.ref ca), .val (.int (0 : Int32)), .val (.int (Int32.ofNat n)), .val (.ref b), .val (.int (Int32.ofNat k9)), .unset] [(.int (Int32.ofNat n)), (.int (0 : Int32)), (.ref ca)])) rfl (by rw [hml]; rfl) (argsL := [(.ref ca), (.int (0 : Int32)), (.int (Int32.ofNat n))]) (rest := []) (lenOf pd_4 rfl) rfl (by show 2 * 0 + _ ≤ _; exact Nat.le_of_eq rfl) (hb hby d8_23) (fun _ _ => ⟨rfl, rfl, (by decide : 1 + 1 ≤ _), (by decide : 16 + 32 ≤ _)⟩)
    dsimp only [Pt.U, Pt.locs, Pt.cells, Pt.slots] at X11 l11 y11 z11 st11 hQ11
    subst l11 y11 z11
    obtain ⟨ub, ku, rfl, Nq11, K11, Vu, su⟩ := hQ11
    have O0_11 : Old Z n0 T11.heap := O0_5.keep K11 all0
    have Vc_11 : Arv Z T11.heap ca kc .char (Int32.ofNat n) (own_tab f (n)) (.int (0 : Int32)) := Vc_5.keep K11 nin0
    have Vk_11 : Arv Z T11.heap b k2 .byte (Int32.ofNat n) (own_tab (fun q => if q < k9 then own_l1 f q else 0) (n)) (.int (0 : Int32)) := Vk.keep K11 nin0
    have Z11 : n0 ≤ T11.heap.size := Nat.le_trans Z5 K11.1
    have Kp11 : Keep h0 T11.heap [] := Kp5.trans K11 all0
    have N11 := Fr.app N5 Nq11
    have pre12 := fun τ (κ : Steps p.tables e below (T11.setTop (mkF m 26 #[.val (.ref ca), .val (.int (0 : Int32)), .val (.int (Int32.ofNat n)), .val (.ref b), .val (.int (Int32.ofNat k9)), .unset] [(.ref ub)])) τ) => pre10 τ (st11 _ κ)
    have pre13 := fun τ (κ : Steps p.tables e below (T11.setTop (mkF m 32 #[.val (.ref ca), .val (.int (0 : Int32)), .val (.int (Int32.ofNat n)), .val (.ref b), .val (.int (Int32.ofNat k9)), .val (.ref ub)] [(.int (Int32.ofNat k9)), (.ref ub)])) τ) => pre12 τ (by
      refine XS.astore X11.here hx rfl (hb hby d8_26) rfl rfl (l' := #[.val (.ref ca), .val (.int (0 : Int32)), .val (.int (Int32.ofNat n)), .val (.ref b), .val (.int (Int32.ofNat k9)), .val (.ref ub)]) rfl ?_
      show Steps p.tables e below (T11.setTop (mkF m 28 #[.val (.ref ca), .val (.int (0 : Int32)), .val (.int (Int32.ofNat n)), .val (.ref b), .val (.int (Int32.ofNat k9)), .val (.ref ub)] [])) _
      refine XS.aload X11.here hx rfl (hb hby d8_28) rfl rfl ?_
      refine XS.iload X11.here hx rfl (hb hby d8_30) rfl ?_
      show Steps p.tables e below (T11.setTop (mkF m 32 #[.val (.ref ca), .val (.int (0 : Int32)), .val (.int (Int32.ofNat n)), .val (.ref b), .val (.int (Int32.ofNat k9)), .val (.ref ub)] [(.int (Int32.ofNat k9)), (.ref ub)])) _
      exact κ)
    obtain ⟨_, _, ⟨T14, L14, k14, n14⟩, -, X14, ⟨Lc14, hQ14, l14, y14, z14⟩, st14⟩ := Jvm.LawKit.callS X11 hx (y := (⟨"java/lang/StringUTF16", "getChar", "([BI)C"⟩ : MethodName)) hown (mvT hZ (hw _ (List.mem_of_getElem? (i := 81) rfl))) (mvT hZ (hw _ (List.mem_of_getElem? (i := 82) rfl))) (mvT hZ (hw _ (List.mem_of_getElem? (i := 57) rfl))) (mvT hZ (hw _ (List.mem_of_getElem? (i := 83) rfl))) (by decide) (backOf (W := 0) (rm15 l Z a0 hw [] ub k9 n ku f zc fm T11.heap n0 Z11 O0_11 U0 Vu hn hkn (hf k9 hkn)) hZ (hw _ (List.mem_of_getElem? (i := 83) rfl)) (hw _ (List.mem_of_getElem? (i := 57) rfl)) (Nat.le_of_ble_eq_true rfl) (Nat.le_of_ble_eq_true rfl)) (g := (mkF m 32 #[.val (.ref ca), .val (.int (0 : Int32)), .val (.int (Int32.ofNat n)), .val (.ref b), .val (.int (Int32.ofNat k9)), .val (.ref ub)] [(.int (Int32.ofNat k9)), (.ref ub)])) rfl (by rw [hml]; rfl) (argsL := [(.ref ub), (.int (Int32.ofNat k9))]) (rest := []) (lenOf pd_5 rfl) rfl (by show 2 * 0 + _ ≤ _; exact Nat.le_of_eq rfl) (hb hby d8_32) (fun _ _ => ⟨rfl, rfl, (by decide : 2 + 0 ≤ _), (by decide : 48 + 0 ≤ _)⟩)
    dsimp only [Pt.U, Pt.locs, Pt.cells, Pt.slots] at X14 l14 y14 z14 st14 hQ14
    subst l14 y14 z14
    obtain ⟨rfl, Nq14, hh14⟩ := hQ14
    have O0_14 : Old Z n0 T14.heap := by rw [hh14]; exact O0_11
    have Vc_14 : Arv Z T14.heap ca kc .char (Int32.ofNat n) (own_tab f (n)) (.int (0 : Int32)) := by rw [hh14]; exact Vc_11
    have Vk_14 : Arv Z T14.heap b k2 .byte (Int32.ofNat n) (own_tab (fun q => if q < k9 then own_l1 f q else 0) (n)) (.int (0 : Int32)) := by rw [hh14]; exact Vk_11
    have Vu_14 : Arv Z T14.heap ub ku .byte (Int32.ofNat (2 * n)) (own_tab (own_u16 f) (2 * n)) (.int (0 : Int32)) := by rw [hh14]; exact Vu
    have Z14 : n0 ≤ T14.heap.size := by rw [hh14]; exact Z11
    have Kp14 : Keep h0 T14.heap [] := by rw [hh14]; exact Kp11
    have N14 := Fr.app N11 Nq14
    have pre15 := fun τ (κ : Steps p.tables e below (T14.setTop (mkF m 35 #[.val (.ref ca), .val (.int (0 : Int32)), .val (.int (Int32.ofNat n)), .val (.ref b), .val (.int (Int32.ofNat k9)), .val (.ref ub)] [(.int (f k9))])) τ) => pre13 τ (st14 _ κ)
    have pre16 := fun τ (κ : Steps p.tables e below (T14.setTop (mkF m 56 #[.val (.ref ca), .val (.int (0 : Int32)), .val (.int (Int32.ofNat n)), .val (.ref b), .val (.int (Int32.ofNat k9)), .val (.ref ub)] [(.ref ub)])) τ) => pre15 τ (by
      refine XS.sipush X14.here hx rfl (hb hby d8_35) ?_
      refine XS.icmpYes X14.here hx rfl (pc0 := 38) (pc' := 54) rfl (hb hby d8_38) rfl (tlt (r2 hkn)).2.2.1 (by decide) (by decide) ?_
      show Steps p.tables e below (T14.setTop (mkF m 54 #[.val (.ref ca), .val (.int (0 : Int32)), .val (.int (Int32.ofNat n)), .val (.ref b), .val (.int (Int32.ofNat k9)), .val (.ref ub)] [])) _
      refine XS.aload X14.here hx rfl (hb hby d8_54) rfl rfl ?_
      show Steps p.tables e below (T14.setTop (mkF m 56 #[.val (.ref ca), .val (.int (0 : Int32)), .val (.int (Int32.ofNat n)), .val (.ref b), .val (.int (Int32.ofNat k9)), .val (.ref ub)] [(.ref ub)])) _
      exact κ)
    obtain ⟨fs, hr, hrun, hended, hW, hsame⟩ := X14.leave (v := some (.ref ub)) (fun h => by rw [Bd.returns] at h; cases h)
    refine ⟨_, _, pre16 _ ?_, hrun, hended, _, _, rfl, ?_, ⟨_, rfl⟩, hW, hsame.mono (by decide) (by decide)⟩
    · jvm_step X14.here [X14.here.top, hx, (hb hby d8_56), X14.method', Bd.returns, Value.isRef, FieldType.isReference]
      first | (intro acts; rw [hr _ acts rfl rfl rfl]) | rw [hr _ _ rfl rfl rfl]
      exact Steps.refl _
    · show Q8 Z ca n kc f zc fm h0 n0 _ T14.heap _
      exact ⟨ub, 1, rfl, N14, Kp14, Nat.le_trans Kp5.1 su, ku, Or.inr ⟨rfl, ⟨k9, hkn, r2 hkn⟩, Vu_14⟩⟩
theorem ef_10 (m : MethodId) (tb : Addr) (n : Nat) (cd : Int32) : entryFrame m #[(.ref tb), (.int (Int32.ofNat n))] 2 = mkF m 0 #[.val (.ref tb), .val (.int (Int32.ofNat n))] [] := by first | (simp [entryFrame, mkF, argsToLocals, Value.category]; done) | rfl
def Q10 (Z : State) (tb : Addr) (n : Nat) (cd : Int32) (f : Nat → Int32) (h0 : Heap) (n0 : Nat) (v : Option Value) (h : Heap) (L : List Loc) : Prop := v = some (.int cd) ∧ Fr n0 L ∧ h = h0
set_option maxRecDepth 65536 in
set_option maxHeartbeats 40000000 in
theorem rm10 (l : Launch) (Z : State) (a0 : Array Value) (hw : ∀ d ∈ tables_1, d.before a0 Z = true) (ws : List Jvm.Cond) (tb : Addr) (n : Nat) (cd : Int32) (f : Nat → Int32) (h0 : Heap) (n0 : Nat) (Z0 : n0 ≤ h0.size) (B0 : own_BY Z h0 tb cd f n) (hn : n ≤ 16) (hn0 : 0 < n) :
    MetFree l (⟨"java/lang/StringUTF16", "coderFromArrayLen", "([BI)B"⟩ : MethodName) (head1 (Jvm.Cond.code (⟨"java/lang/StringUTF16", "coderFromArrayLen", "([BI)B"⟩ : MethodName) jdk_52_method_15_code 2 (some .byte) :: ws) ({ frames := 0, cells := 0, slots := 0, locals := 0 } : Room)) (fun α υ => α = #[(.ref tb), (.int (Int32.ofNat n))] ∧ Z.Warmed39 υ.vm ∧ υ.heap = h0) (fun _ _ _ _ _ => True) (fun _ υ ω υ' => ∃ v L, ω = .returned v ∧ Q10 Z tb n cd f h0 n0 v υ'.heap L ∧ FrameEnd υ ω υ' L ({ frames := 0, cells := 0, slots := 0, locals := 0 } : Room).cells ({ frames := 0, cells := 0, slots := 0, locals := 0 } : Room).slots) := by
  refine MetFree.of_bodySF (plainFor_of_name pn_java_lang_StringUTF16) hisR ?_
  intro p e s m args below meth c s₁ Bd hml0 hP hK
  obtain ⟨rfl, hZ, hh⟩ := hP
  have hx := Bd.exec
  have hby := Bd.bytes
  have hml : c.maxLocals = 2 := hml0
  have hown : s.vm.findClass "java/lang/StringUTF16" = some m.cls := findClass_of_methodNamed Bd.named
  have hnm := (name_of_methodNamed Bd.named Bd.method).1
  have X0 : Stand p l e ({ frames := 0, cells := 0, slots := 0, locals := 0 } : Room) s m #[(.ref tb), (.int (Int32.ofNat n))] below meth c s₁ [] 0 0 := Stand.of_body Bd
  have e0 : s₁.heap = h0 := by rw [← hh, Bd.state]; rfl
  have N0 := Fr.nil n0
  have pre0 : ∀ τ, Steps p.tables e below (s₁.setTop (mkF m 0 #[.val (.ref tb), .val (.int (Int32.ofNat n))] [])) τ → Steps p.tables e below (s₁.setTop (entryFrame m #[(.ref tb), (.int (Int32.ofNat n))] 2)) τ := fun τ κ => castTop (ef_10 m tb n cd) κ
  obtain ⟨kb, ⟨hcd, -, Va⟩ | ⟨hcd, hex, Va⟩⟩ := B0
  · have pre1 := fun τ (κ : Steps p.tables e below (s₁.setTop (mkF m 2 #[.val (.ref tb), .val (.int (Int32.ofNat n))] [(.ref tb), (.int (Int32.ofNat n))])) τ) => pre0 τ (by
      refine XS.iloadN X0.here hx rfl (hb hby d10_0) rfl ?_
      refine XS.aloadN X0.here hx rfl (hb hby d10_1) rfl rfl ?_
      show Steps p.tables e below (s₁.setTop (mkF m 2 #[.val (.ref tb), .val (.int (Int32.ofNat n))] [(.ref tb), (.int (Int32.ofNat n))])) _
      exact κ)
    obtain ⟨cl2, Ar2, -, S2, M2, -, -⟩ := id Va
    have pre3 := fun τ (κ : Steps p.tables e below (s₁.setTop (mkF m 8 #[.val (.ref tb), .val (.int (Int32.ofNat n))] [(.int (((((Int32.ofNat n) - (Int32.ofNat n)).toUInt32 >>> ((31 : Int32) &&& 31).toUInt32).toInt32).toInt8.toInt32))])) τ) => pre1 τ (by
      refine X0.arraylength hx (by rw [e0]; exact Ar2.1) (State.isArrayOf_alike hZ.alike Ar2.2.1) (g := (mkF m 2 #[.val (.ref tb), .val (.int (Int32.ofNat n))] [(.ref tb), (.int (Int32.ofNat n))])) rfl rfl (hb hby d10_2) _ ?_
      rw [len_of S2 M2]
      show Steps p.tables e below (s₁.setTop (mkF m 3 #[.val (.ref tb), .val (.int (Int32.ofNat n))] [(.int (Int32.ofNat n)), (.int (Int32.ofNat n))])) _
      refine XS.isub X0.here hx rfl (hb hby d10_3) rfl ?_
      show Steps p.tables e below (s₁.setTop (mkF m 4 #[.val (.ref tb), .val (.int (Int32.ofNat n))] [(.int ((Int32.ofNat n) - (Int32.ofNat n)))])) _
      refine XS.bipush X0.here hx rfl (hb hby d10_4) ?_
      refine XS.iushr X0.here hx rfl (hb hby d10_6) rfl ?_
      show Steps p.tables e below (s₁.setTop (mkF m 7 #[.val (.ref tb), .val (.int (Int32.ofNat n))] [(.int ((((Int32.ofNat n) - (Int32.ofNat n)).toUInt32 >>> ((31 : Int32) &&& 31).toUInt32).toInt32))])) _
      refine XS.i2b X0.here hx rfl (hb hby d10_7) rfl ?_
      show Steps p.tables e below (s₁.setTop (mkF m 8 #[.val (.ref tb), .val (.int (Int32.ofNat n))] [(.int (((((Int32.ofNat n) - (Int32.ofNat n)).toUInt32 >>> ((31 : Int32) &&& 31).toUInt32).toInt32).toInt8.toInt32))])) _
      exact κ)
    rw [show (((((Int32.ofNat n) - (Int32.ofNat n)).toUInt32 >>> ((31 : Int32) &&& 31).toUInt32).toInt32).toInt8.toInt32) = cd from ((own_coder0 _).trans hcd.symm)] at pre3
    obtain ⟨fs, hr, hrun, hended, hW, hsame⟩ := X0.leave (v := some (.int (nar .byte cd))) (fun h => by rw [Bd.returns] at h; cases h)
    refine ⟨_, _, pre3 _ ?_, hrun, hended, _, _, rfl, ?_, ⟨_, rfl⟩, hW, hsame.mono (by decide) (by decide)⟩
    · exact retN X0 hx (t := .byte) Bd.returns (by simp) (hb hby d10_8) hr
    · show Q10 Z tb n cd f h0 n0 _ s₁.heap _
      rw [e0]
      exact ⟨(by rw [hcd]; rfl), N0, rfl⟩
  · have pre4 := fun τ (κ : Steps p.tables e below (s₁.setTop (mkF m 2 #[.val (.ref tb), .val (.int (Int32.ofNat n))] [(.ref tb), (.int (Int32.ofNat n))])) τ) => pre0 τ (by
      refine XS.iloadN X0.here hx rfl (hb hby d10_0) rfl ?_
      refine XS.aloadN X0.here hx rfl (hb hby d10_1) rfl rfl ?_
      show Steps p.tables e below (s₁.setTop (mkF m 2 #[.val (.ref tb), .val (.int (Int32.ofNat n))] [(.ref tb), (.int (Int32.ofNat n))])) _
      exact κ)
    obtain ⟨cl5, Ar5, -, S5, M5, -, -⟩ := id Va
    have pre6 := fun τ (κ : Steps p.tables e below (s₁.setTop (mkF m 8 #[.val (.ref tb), .val (.int (Int32.ofNat n))] [(.int (((((Int32.ofNat n) - (Int32.ofNat (2 * n))).toUInt32 >>> ((31 : Int32) &&& 31).toUInt32).toInt32).toInt8.toInt32))])) τ) => pre4 τ (by
      refine X0.arraylength hx (by rw [e0]; exact Ar5.1) (State.isArrayOf_alike hZ.alike Ar5.2.1) (g := (mkF m 2 #[.val (.ref tb), .val (.int (Int32.ofNat n))] [(.ref tb), (.int (Int32.ofNat n))])) rfl rfl (hb hby d10_2) _ ?_
      rw [len_of S5 M5]
      show Steps p.tables e below (s₁.setTop (mkF m 3 #[.val (.ref tb), .val (.int (Int32.ofNat n))] [(.int (Int32.ofNat (2 * n))), (.int (Int32.ofNat n))])) _
      refine XS.isub X0.here hx rfl (hb hby d10_3) rfl ?_
      show Steps p.tables e below (s₁.setTop (mkF m 4 #[.val (.ref tb), .val (.int (Int32.ofNat n))] [(.int ((Int32.ofNat n) - (Int32.ofNat (2 * n))))])) _
      refine XS.bipush X0.here hx rfl (hb hby d10_4) ?_
      refine XS.iushr X0.here hx rfl (hb hby d10_6) rfl ?_
      show Steps p.tables e below (s₁.setTop (mkF m 7 #[.val (.ref tb), .val (.int (Int32.ofNat n))] [(.int ((((Int32.ofNat n) - (Int32.ofNat (2 * n))).toUInt32 >>> ((31 : Int32) &&& 31).toUInt32).toInt32))])) _
      refine XS.i2b X0.here hx rfl (hb hby d10_7) rfl ?_
      show Steps p.tables e below (s₁.setTop (mkF m 8 #[.val (.ref tb), .val (.int (Int32.ofNat n))] [(.int (((((Int32.ofNat n) - (Int32.ofNat (2 * n))).toUInt32 >>> ((31 : Int32) &&& 31).toUInt32).toInt32).toInt8.toInt32))])) _
      exact κ)
    rw [show (((((Int32.ofNat n) - (Int32.ofNat (2 * n))).toUInt32 >>> ((31 : Int32) &&& 31).toUInt32).toInt32).toInt8.toInt32) = cd from ((own_coder hn hn0).trans hcd.symm)] at pre6
    obtain ⟨fs, hr, hrun, hended, hW, hsame⟩ := X0.leave (v := some (.int (nar .byte cd))) (fun h => by rw [Bd.returns] at h; cases h)
    refine ⟨_, _, pre6 _ ?_, hrun, hended, _, _, rfl, ?_, ⟨_, rfl⟩, hW, hsame.mono (by decide) (by decide)⟩
    · exact retN X0 hx (t := .byte) Bd.returns (by simp) (hb hby d10_8) hr
    · show Q10 Z tb n cd f h0 n0 _ s₁.heap _
      rw [e0]
      exact ⟨(by rw [hcd]; rfl), N0, rfl⟩
theorem ef_2 (m : MethodId) (sa : Addr) (ca : Addr) (n : Nat) (zc : Int32) (fm : Value) : entryFrame m #[(.ref sa), (.ref ca), (.int (0 : Int32)), (.int (Int32.ofNat n)), .null] 6 = mkF m 0 #[.val (.ref sa), .val (.ref ca), .val (.int (0 : Int32)), .val (.int (Int32.ofNat n)), .val .null, .unset] [] := by first | (simp [entryFrame, mkF, argsToLocals, Value.category]; done) | rfl
def Q2 (Z : State) (sa : Addr) (ca : Addr) (n : Nat) (kc : ClassId) (f : Nat → Int32) (zc : Int32) (fm : Value) (h0 : Heap) (n0 : Nat) (v : Option Value) (h : Heap) (L : List Loc) : Prop := v = none ∧ Fr n0 L ∧ Keep h0 h [sa] ∧ own_STR Z h sa f n
set_option maxRecDepth 65536 in
set_option maxHeartbeats 40000000 in
theorem rm2 (l : Launch) (Z : State) (a0 : Array Value) (hw : ∀ d ∈ tables_1, d.before a0 Z = true) (ws : List Jvm.Cond) (sa : Addr) (ca : Addr) (n : Nat) (kc : ClassId) (f : Nat → Int32) (zc : Int32) (fm : Value) (h0 : Heap) (n0 : Nat) (Z0 : n0 ≤ h0.size) (O0 : Old Z n0 h0) (U0 : own_ST Z zc fm) (E_s : Exa Z h0 sa "java/lang/String") (Fv : Fld Z h0 sa "java/lang/String" "value" "[B" .null) (Fc : Fld Z h0 sa "java/lang/String" "coder" "B" (.int (0 : Int32))) (Vc : Arv Z h0 ca kc .char (Int32.ofNat n) (own_tab f (n)) (.int (0 : Int32))) (hn : n ≤ 16) (hn0 : 0 < n) (hf : ∀ j, j < n → own_ch (f j)) (hsc : sa ≠ ca) (gs : n0 ≤ sa) :
    MetFree l (⟨"java/lang/String", "<init>", "([CIILjava/lang/Void;)V"⟩ : MethodName) (head1 (Jvm.Cond.code (⟨"java/lang/String", "<init>", "([CIILjava/lang/Void;)V"⟩ : MethodName) jdk_42_method_149_code 6 none :: ws) ({ frames := 4, cells := 2, slots := 48, locals := 57 } : Room)) (fun α υ => α = #[(.ref sa), (.ref ca), (.int (0 : Int32)), (.int (Int32.ofNat n)), .null] ∧ Z.Warmed39 υ.vm ∧ υ.heap = h0) (fun _ _ _ _ _ => True) (fun _ υ ω υ' => ∃ v L, ω = .returned v ∧ Q2 Z sa ca n kc f zc fm h0 n0 v υ'.heap L ∧ FrameEnd υ ω υ' L ({ frames := 4, cells := 2, slots := 48, locals := 57 } : Room).cells ({ frames := 4, cells := 2, slots := 48, locals := 57 } : Room).slots) := by
  refine MetFree.of_bodySF (plainFor_of_name pn_java_lang_String) hisR ?_
  intro p e s m args below meth c s₁ Bd hml0 hP hK
  obtain ⟨rfl, hZ, hh⟩ := hP
  have hx := Bd.exec
  have hby := Bd.bytes
  have hml : c.maxLocals = 6 := hml0
  have hown : s.vm.findClass "java/lang/String" = some m.cls := findClass_of_methodNamed Bd.named
  have hnm := (name_of_methodNamed Bd.named Bd.method).1
  have X0 : Stand p l e ({ frames := 4, cells := 2, slots := 48, locals := 57 } : Room) s m #[(.ref sa), (.ref ca), (.int (0 : Int32)), (.int (Int32.ofNat n)), .null] below meth c s₁ [] 0 0 := Stand.of_body Bd
  have e0 : s₁.heap = h0 := by rw [← hh, Bd.state]; rfl
  have N0 := Fr.nil n0
  have pre0 : ∀ τ, Steps p.tables e below (s₁.setTop (mkF m 0 #[.val (.ref sa), .val (.ref ca), .val (.int (0 : Int32)), .val (.int (Int32.ofNat n)), .val .null, .unset] [])) τ → Steps p.tables e below (s₁.setTop (entryFrame m #[(.ref sa), (.ref ca), (.int (0 : Int32)), (.int (Int32.ofNat n)), .null] 6)) τ := fun τ κ => castTop (ef_2 m sa ca n zc fm) κ
  obtain ⟨Scs, hcs, Sad, Shi, Slo, Sfm, r_fm⟩ := id U0
  have Kp0 : Keep h0 h0 [sa] := Keep.refl _ _
  have pre1 := fun τ (κ : Steps p.tables e below (s₁.setTop (mkF m 1 #[.val (.ref sa), .val (.ref ca), .val (.int (0 : Int32)), .val (.int (Int32.ofNat n)), .val .null, .unset] [(.ref sa)])) τ) => pre0 τ (by
    refine XS.aloadN X0.here hx rfl (hb hby d2_0) rfl rfl ?_
    show Steps p.tables e below (s₁.setTop (mkF m 1 #[.val (.ref sa), .val (.ref ca), .val (.int (0 : Int32)), .val (.int (Int32.ofNat n)), .val .null, .unset] [(.ref sa)])) _
    exact κ)
  obtain ⟨T2, X2, e2, st2⟩ := initO X0 hx hZ hown (hw _ (List.mem_of_getElem? (i := 11) rfl)) (hw _ (List.mem_of_getElem? (i := 12) rfl)) (hw _ (List.mem_of_getElem? (i := 13) rfl)) e0 (g := (mkF m 1 #[.val (.ref sa), .val (.ref ca), .val (.int (0 : Int32)), .val (.int (Int32.ofNat n)), .val .null, .unset] [(.ref sa)])) rfl (by rw [hml]; rfl) rfl (hb hby d2_1) (by decide) (W := 0) (by show 2 * 0 + _ ≤ _; exact Nat.le_of_eq rfl) (by decide)
  have pre3 := fun τ (κ : Steps p.tables e below (T2.setTop (mkF m 4 #[.val (.ref sa), .val (.ref ca), .val (.int (0 : Int32)), .val (.int (Int32.ofNat n)), .val .null, .unset] [])) τ) => pre1 τ (st2 _ κ)
  have pre4 := fun τ (κ : Steps p.tables e below (T2.setTop (mkF m 27 #[.val (.ref sa), .val (.ref ca), .val (.int (0 : Int32)), .val (.int (Int32.ofNat n)), .val .null, .unset] [])) τ) => pre3 τ (by
    refine XS.iloadN X2.here hx rfl (hb hby d2_4) rfl ?_
    refine XS.ifYes X2.here hx rfl (pc0 := 5) (pc' := 27) rfl (hb hby d2_5) rfl ((if0 _ _).trans (feq (fun q => by have := (own_injN (j := 0) (by omega) (by omega)).mp q; omega)).2) (by decide) (by decide) ?_
    show Steps p.tables e below (T2.setTop (mkF m 27 #[.val (.ref sa), .val (.ref ca), .val (.int (0 : Int32)), .val (.int (Int32.ofNat n)), .val .null, .unset] [])) _
    exact κ)
  obtain ⟨T5, X5, e5, st5⟩ := getS2 X2 hx hZ hown (host := "") (Or.inl (hw _ (List.mem_of_getElem? (i := 44) rfl))) Via.refl e2 (Scs.ext O0.2) (g := (mkF m 27 #[.val (.ref sa), .val (.ref ca), .val (.int (0 : Int32)), .val (.int (Int32.ofNat n)), .val .null, .unset] [])) rfl (hb hby d2_27)
  have pre6 := fun τ (κ : Steps p.tables e below (T5.setTop (mkF m 30 #[.val (.ref sa), .val (.ref ca), .val (.int (0 : Int32)), .val (.int (Int32.ofNat n)), .val .null, .unset] [(.int zc)])) τ) => pre4 τ (st5 _ κ)
  have pre7 := fun τ (κ : Steps p.tables e below (T5.setTop (mkF m 36 #[.val (.ref sa), .val (.ref ca), .val (.int (0 : Int32)), .val (.int (Int32.ofNat n)), .val .null, .unset] [(.int (Int32.ofNat n)), (.int (0 : Int32)), (.ref ca)])) τ) => pre6 τ (by
    refine XS.ifNo X5.here hx rfl (hb hby d2_30) rfl ((if0 _ _).trans (feq hcs).1) ?_
    show Steps p.tables e below (T5.setTop (mkF m 33 #[.val (.ref sa), .val (.ref ca), .val (.int (0 : Int32)), .val (.int (Int32.ofNat n)), .val .null, .unset] [])) _
    refine XS.aloadN X5.here hx rfl (hb hby d2_33) rfl rfl ?_
    refine XS.iloadN X5.here hx rfl (hb hby d2_34) rfl ?_
    refine XS.iloadN X5.here hx rfl (hb hby d2_35) rfl ?_
    show Steps p.tables e below (T5.setTop (mkF m 36 #[.val (.ref sa), .val (.ref ca), .val (.int (0 : Int32)), .val (.int (Int32.ofNat n)), .val .null, .unset] [(.int (Int32.ofNat n)), (.int (0 : Int32)), (.ref ca)])) _
    exact κ)
  obtain ⟨_, _, ⟨T8, L8, k8, n8⟩, -, X8, ⟨Lc8, hQ8, l8, y8, z8⟩, st8⟩ := Jvm.LawKit.callS X5 hx (y := (⟨"java/lang/StringUTF16", "compress", "([CII)[B"⟩ : MethodName)) hown (mvT hZ (hw _ (List.mem_of_getElem? (i := 55) rfl))) (mvT hZ (hw _ (List.mem_of_getElem? (i := 56) rfl))) (mvT hZ (hw _ (List.mem_of_getElem? (i := 57) rfl))) (mvT hZ (hw _ (List.mem_of_getElem? (i := 58) rfl))) (by decide) (backOf (W := 0) (rm8 l Z a0 hw [] ca n kc f zc fm h0 n0 Z0 O0 U0 Vc hn hf) hZ (hw _ (List.mem_of_getElem? (i := 58) rfl)) (hw _ (List.mem_of_getElem? (i := 57) rfl)) (Nat.le_of_ble_eq_true rfl) (Nat.le_of_ble_eq_true rfl)) (g := (mkF m 36 #[.val (.ref sa), .val (.ref ca), .val (.int (0 : Int32)), .val (.int (Int32.ofNat n)), .val .null, .unset] [(.int (Int32.ofNat n)), (.int (0 : Int32)), (.ref ca)])) rfl (by rw [hml]; rfl) (argsL := [(.ref ca), (.int (0 : Int32)), (.int (Int32.ofNat n))]) (rest := []) (lenOf pd_4 rfl) rfl (by show 2 * 0 + _ ≤ _; exact Nat.le_of_eq rfl) (hb hby d2_36) (fun _ _ => ⟨rfl, e5, (by decide : 0 + 2 ≤ _), (by decide : 0 + 48 ≤ _)⟩)
  dsimp only [Pt.U, Pt.locs, Pt.cells, Pt.slots] at X8 l8 y8 z8 st8 hQ8
  subst l8 y8 z8
  obtain ⟨tb, cd, rfl, Nq8, K8, stb, Bt⟩ := hQ8
  have O0_8 : Old Z n0 T8.heap := O0.keep K8 all0
  have E_s_8 : Exa Z T8.heap sa "java/lang/String" := E_s.keep K8
  have Fv_8 : Fld Z T8.heap sa "java/lang/String" "value" "[B" .null := Fv.keep K8 nin0
  have Fc_8 : Fld Z T8.heap sa "java/lang/String" "coder" "B" (.int (0 : Int32)) := Fc.keep K8 nin0
  have Vc_8 : Arv Z T8.heap ca kc .char (Int32.ofNat n) (own_tab f (n)) (.int (0 : Int32)) := Vc.keep K8 nin0
  have Z8 : n0 ≤ T8.heap.size := Nat.le_trans Z0 K8.1
  have Kp8 : Keep h0 T8.heap [sa] := Kp0.trans K8 all0
  have N8 := Fr.app N0 Nq8
  have pre9 := fun τ (κ : Steps p.tables e below (T8.setTop (mkF m 39 #[.val (.ref sa), .val (.ref ca), .val (.int (0 : Int32)), .val (.int (Int32.ofNat n)), .val .null, .unset] [(.ref tb)])) τ) => pre7 τ (st8 _ κ)
  have hts : tb ≠ sa := Ne.symm (Nat.ne_of_lt (Nat.lt_of_lt_of_le E_s.lt stb))
  have pre10 := fun τ (κ : Steps p.tables e below (T8.setTop (mkF m 45 #[.val (.ref sa), .val (.ref ca), .val (.int (0 : Int32)), .val (.int (Int32.ofNat n)), .val .null, .val (.ref tb)] [(.int (Int32.ofNat n)), (.ref tb), (.ref sa)])) τ) => pre9 τ (by
    refine XS.astore X8.here hx rfl (hb hby d2_39) rfl rfl (l' := #[.val (.ref sa), .val (.ref ca), .val (.int (0 : Int32)), .val (.int (Int32.ofNat n)), .val .null, .val (.ref tb)]) rfl ?_
    show Steps p.tables e below (T8.setTop (mkF m 41 #[.val (.ref sa), .val (.ref ca), .val (.int (0 : Int32)), .val (.int (Int32.ofNat n)), .val .null, .val (.ref tb)] [])) _
    refine XS.aloadN X8.here hx rfl (hb hby d2_41) rfl rfl ?_
    refine XS.aload X8.here hx rfl (hb hby d2_42) rfl rfl ?_
    refine XS.iloadN X8.here hx rfl (hb hby d2_44) rfl ?_
    show Steps p.tables e below (T8.setTop (mkF m 45 #[.val (.ref sa), .val (.ref ca), .val (.int (0 : Int32)), .val (.int (Int32.ofNat n)), .val .null, .val (.ref tb)] [(.int (Int32.ofNat n)), (.ref tb), (.ref sa)])) _
    exact κ)
  obtain ⟨_, _, ⟨T11, L11, k11, n11⟩, -, X11, ⟨Lc11, hQ11, l11, y11, z11⟩, st11⟩ := Jvm.LawKit.callS X8 hx (y := (⟨"java/lang/StringUTF16", "coderFromArrayLen", "([BI)B"⟩ : MethodName)) hown (mvT hZ (hw _ (List.mem_of_getElem? (i := 62) rfl))) (mvT hZ (hw _ (List.mem_of_getElem? (i := 63) rfl))) (mvT hZ (hw _ (List.mem_of_getElem? (i := 57) rfl))) (mvT hZ (hw _ (List.mem_of_getElem? (i := 64) rfl))) (by decide) (backOf (W := 1) (rm10 l Z a0 hw [] tb n cd f T8.heap n0 Z8 Bt hn hn0) hZ (hw _ (List.mem_of_getElem? (i := 64) rfl)) (hw _ (List.mem_of_getElem? (i := 57) rfl)) (Nat.le_of_ble_eq_true rfl) (Nat.le_of_ble_eq_true rfl)) (g := (mkF m 45 #[.val (.ref sa), .val (.ref ca), .val (.int (0 : Int32)), .val (.int (Int32.ofNat n)), .val .null, .val (.ref tb)] [(.int (Int32.ofNat n)), (.ref tb), (.ref sa)])) rfl (by rw [hml]; rfl) (argsL := [(.ref tb), (.int (Int32.ofNat n))]) (rest := [(.ref sa)]) (lenOf pd_6 rfl) rfl (by show 2 * 0 + _ ≤ _; exact Nat.le_of_eq rfl) (hb hby d2_45) (fun _ _ => ⟨rfl, rfl, (by decide : 2 + 0 ≤ _), (by decide : 48 + 0 ≤ _)⟩)
  dsimp only [Pt.U, Pt.locs, Pt.cells, Pt.slots] at X11 l11 y11 z11 st11 hQ11
  subst l11 y11 z11
  obtain ⟨rfl, Nq11, hh11⟩ := hQ11
  have O0_11 : Old Z n0 T11.heap := by rw [hh11]; exact O0_8
  have E_s_11 : Exa Z T11.heap sa "java/lang/String" := by rw [hh11]; exact E_s_8
  have Fv_11 : Fld Z T11.heap sa "java/lang/String" "value" "[B" .null := by rw [hh11]; exact Fv_8
  have Fc_11 : Fld Z T11.heap sa "java/lang/String" "coder" "B" (.int (0 : Int32)) := by rw [hh11]; exact Fc_8
  have Vc_11 : Arv Z T11.heap ca kc .char (Int32.ofNat n) (own_tab f (n)) (.int (0 : Int32)) := by rw [hh11]; exact Vc_8
  have Z11 : n0 ≤ T11.heap.size := by rw [hh11]; exact Z8
  have Kp11 : Keep h0 T11.heap [sa] := by rw [hh11]; exact Kp8
  have N11 := Fr.app N8 Nq11
  have pre12 := fun τ (κ : Steps p.tables e below (T11.setTop (mkF m 48 #[.val (.ref sa), .val (.ref ca), .val (.int (0 : Int32)), .val (.int (Int32.ofNat n)), .val .null, .val (.ref tb)] [(.int cd), (.ref sa)])) τ) => pre10 τ (st11 _ κ)
  rw [← hh11] at Bt
  obtain ⟨T13, h13, X13, e13, W13, st13⟩ := putFN X11 hx hZ hown (hw _ (List.mem_of_getElem? (i := 21) rfl)) Via.refl rfl Fc_11 E_s_11 (Or.inr ⟨(hw _ (List.mem_of_getElem? (i := 17) rfl)), rfl, hnm⟩) (hw _ (List.mem_of_getElem? (i := 2) rfl)) (ty := .byte) (v' := (.int cd)) (by decide) (by rcases Bt.cd with q | q <;> rw [q] <;> rfl) (by rcases Bt.cd with q | q <;> rw [q] <;> rfl) (g := (mkF m 48 #[.val (.ref sa), .val (.ref ca), .val (.int (0 : Int32)), .val (.int (Int32.ofNat n)), .val .null, .val (.ref tb)] [(.int cd), (.ref sa)])) rfl rfl (hb hby d2_48)
  have O0_13 : Old Z n0 h13 := O0_11.wr W13 gs
  have E_s_13 : Exa Z h13 sa "java/lang/String" := E_s_11.wr W13
  have Fv_13 : Fld Z h13 sa "java/lang/String" "value" "[B" .null := Fv_11.other W13 (Or.inr (slot_ne (Or.inr (hw _ (List.mem_of_getElem? (i := 16) rfl))) (Or.inr (hw _ (List.mem_of_getElem? (i := 17) rfl))) (by decide) (t := (.array .byte)) (t' := .byte) (by decide) (by decide)))
  have Vc_13 : Arv Z h13 ca kc .char (Int32.ofNat n) (own_tab f (n)) (.int (0 : Int32)) := Vc_11.other W13 (Ne.symm hsc)
  have Kp13 : Keep h0 h13 [sa] := Kp11.wr W13 (Or.inl (List.mem_of_getElem? (i := 0) rfl))
  have N13 := Fr.snoc X13 N11 gs
  have Z13 : n0 ≤ h13.size := Nat.le_trans Z11 (Keep.of_wr W13).1
  have F_coder_sa_13 : Fld Z h13 sa "java/lang/String" "coder" "B" (.int cd) := Fc_11.same W13
  have pre14 := fun τ (κ : Steps p.tables e below (T13.setTop (mkF m 51 #[.val (.ref sa), .val (.ref ca), .val (.int (0 : Int32)), .val (.int (Int32.ofNat n)), .val .null, .val (.ref tb)] [])) τ) => pre12 τ (st13 _ κ)
  have Bt1 := Bt.other W13 hts
  have pre15 := fun τ (κ : Steps p.tables e below (T13.setTop (mkF m 54 #[.val (.ref sa), .val (.ref ca), .val (.int (0 : Int32)), .val (.int (Int32.ofNat n)), .val .null, .val (.ref tb)] [(.ref tb), (.ref sa)])) τ) => pre14 τ (by
    refine XS.aloadN X13.here hx rfl (hb hby d2_51) rfl rfl ?_
    refine XS.aload X13.here hx rfl (hb hby d2_52) rfl rfl ?_
    show Steps p.tables e below (T13.setTop (mkF m 54 #[.val (.ref sa), .val (.ref ca), .val (.int (0 : Int32)), .val (.int (Int32.ofNat n)), .val .null, .val (.ref tb)] [(.ref tb), (.ref sa)])) _
    exact κ)
  obtain ⟨T16, h16, X16, e16, W16, st16⟩ := putF X13 hx hZ hown (host := "") (Or.inl (hw _ (List.mem_of_getElem? (i := 20) rfl))) Via.refl e13 Fv_13 E_s_13 (Or.inr ⟨(hw _ (List.mem_of_getElem? (i := 16) rfl)), rfl, hnm⟩) (hw _ (List.mem_of_getElem? (i := 2) rfl)) (ty := (.array .byte)) (by decide) rfl rfl (g := (mkF m 54 #[.val (.ref sa), .val (.ref ca), .val (.int (0 : Int32)), .val (.int (Int32.ofNat n)), .val .null, .val (.ref tb)] [(.ref tb), (.ref sa)])) rfl rfl (hb hby d2_54)
  have O0_16 : Old Z n0 h16 := O0_13.wr W16 gs
  have E_s_16 : Exa Z h16 sa "java/lang/String" := E_s_13.wr W16
  have Vc_16 : Arv Z h16 ca kc .char (Int32.ofNat n) (own_tab f (n)) (.int (0 : Int32)) := Vc_13.other W16 (Ne.symm hsc)
  have F_coder_sa_16 : Fld Z h16 sa "java/lang/String" "coder" "B" (.int cd) := F_coder_sa_13.other W16 (Or.inr (slot_ne (Or.inr (hw _ (List.mem_of_getElem? (i := 17) rfl))) (Or.inr (hw _ (List.mem_of_getElem? (i := 16) rfl))) (by decide) (t := .byte) (t' := (.array .byte)) (by decide) (by decide)))
  have Kp16 : Keep h0 h16 [sa] := Kp13.wr W16 (Or.inl (List.mem_of_getElem? (i := 0) rfl))
  have N16 := Fr.snoc X16 N13 gs
  have Z16 : n0 ≤ h16.size := Nat.le_trans Z13 (Keep.of_wr W16).1
  have F_value_sa_16 : Fld Z h16 sa "java/lang/String" "value" "[B" (.ref tb) := Fv_13.same W16
  have pre17 := fun τ (κ : Steps p.tables e below (T16.setTop (mkF m 57 #[.val (.ref sa), .val (.ref ca), .val (.int (0 : Int32)), .val (.int (Int32.ofNat n)), .val .null, .val (.ref tb)] [])) τ) => pre15 τ (st16 _ κ)
  have Bt2 := Bt1.other W16 hts
  obtain ⟨fs, hr, hrun, hended, hW, hsame⟩ := X16.leave (v := none) (fun _ => rfl)
  refine ⟨_, _, pre17 _ ?_, hrun, hended, _, _, rfl, ?_, ⟨_, rfl⟩, hW, hsame.mono (by decide) (by decide)⟩
  · exact X16.returnOut hx Bd.returns (hb hby d2_57) hr
  · show Q2 Z sa ca n kc f zc fm h0 n0 _ T16.heap _
    rw [e16]
    exact ⟨rfl, N16, Kp16, tb, cd, E_s_16, F_value_sa_16, F_coder_sa_16, Bt2⟩
theorem ef_1 (m : MethodId) (sa : Addr) (ca : Addr) (n : Nat) (zc : Int32) (fm : Value) : entryFrame m #[(.ref sa), (.ref ca)] 2 = mkF m 0 #[.val (.ref sa), .val (.ref ca)] [] := by first | (simp [entryFrame, mkF, argsToLocals, Value.category]; done) | rfl
def Q1 (Z : State) (sa : Addr) (ca : Addr) (n : Nat) (kc : ClassId) (f : Nat → Int32) (zc : Int32) (fm : Value) (h0 : Heap) (n0 : Nat) (v : Option Value) (h : Heap) (L : List Loc) : Prop := v = none ∧ Fr n0 L ∧ Keep h0 h [sa] ∧ own_STR Z h sa f n
set_option maxRecDepth 65536 in
set_option maxHeartbeats 40000000 in
theorem rm1 (l : Launch) (Z : State) (a0 : Array Value) (hw : ∀ d ∈ tables_1, d.before a0 Z = true) (ws : List Jvm.Cond) (sa : Addr) (ca : Addr) (n : Nat) (kc : ClassId) (f : Nat → Int32) (zc : Int32) (fm : Value) (h0 : Heap) (n0 : Nat) (Z0 : n0 ≤ h0.size) (O0 : Old Z n0 h0) (U0 : own_ST Z zc fm) (E_s : Exa Z h0 sa "java/lang/String") (Fv : Fld Z h0 sa "java/lang/String" "value" "[B" .null) (Fc : Fld Z h0 sa "java/lang/String" "coder" "B" (.int (0 : Int32))) (Vc : Arv Z h0 ca kc .char (Int32.ofNat n) (own_tab f (n)) (.int (0 : Int32))) (hn : n ≤ 16) (hn0 : 0 < n) (hf : ∀ j, j < n → own_ch (f j)) (hsc : sa ≠ ca) (gs : n0 ≤ sa) :
    MetFree l (⟨"java/lang/String", "<init>", "([C)V"⟩ : MethodName) (head1 (Jvm.Cond.code (⟨"java/lang/String", "<init>", "([C)V"⟩ : MethodName) jdk_42_method_3_code 2 none :: ws) ({ frames := 5, cells := 2, slots := 48, locals := 74 } : Room)) (fun α υ => α = #[(.ref sa), (.ref ca)] ∧ Z.Warmed39 υ.vm ∧ υ.heap = h0) (fun _ _ _ _ _ => True) (fun _ υ ω υ' => ∃ v L, ω = .returned v ∧ Q1 Z sa ca n kc f zc fm h0 n0 v υ'.heap L ∧ FrameEnd υ ω υ' L ({ frames := 5, cells := 2, slots := 48, locals := 74 } : Room).cells ({ frames := 5, cells := 2, slots := 48, locals := 74 } : Room).slots) := by
  refine MetFree.of_bodySF (plainFor_of_name pn_java_lang_String) hisR ?_
  intro p e s m args below meth c s₁ Bd hml0 hP hK
  obtain ⟨rfl, hZ, hh⟩ := hP
  have hx := Bd.exec
  have hby := Bd.bytes
  have hml : c.maxLocals = 2 := hml0
  have hown : s.vm.findClass "java/lang/String" = some m.cls := findClass_of_methodNamed Bd.named
  have hnm := (name_of_methodNamed Bd.named Bd.method).1
  have X0 : Stand p l e ({ frames := 5, cells := 2, slots := 48, locals := 74 } : Room) s m #[(.ref sa), (.ref ca)] below meth c s₁ [] 0 0 := Stand.of_body Bd
  have e0 : s₁.heap = h0 := by rw [← hh, Bd.state]; rfl
  have N0 := Fr.nil n0
  have pre0 : ∀ τ, Steps p.tables e below (s₁.setTop (mkF m 0 #[.val (.ref sa), .val (.ref ca)] [])) τ → Steps p.tables e below (s₁.setTop (entryFrame m #[(.ref sa), (.ref ca)] 2)) τ := fun τ κ => castTop (ef_1 m sa ca n zc fm) κ
  have Kp0 : Keep h0 h0 [sa] := Keep.refl _ _
  have pre1 := fun τ (κ : Steps p.tables e below (s₁.setTop (mkF m 4 #[.val (.ref sa), .val (.ref ca)] [(.ref ca), (.int (0 : Int32)), (.ref ca), (.ref sa)])) τ) => pre0 τ (by
    refine XS.aloadN X0.here hx rfl (hb hby d1_0) rfl rfl ?_
    refine XS.aloadN X0.here hx rfl (hb hby d1_1) rfl rfl ?_
    refine XS.iconst X0.here hx rfl (hb hby d1_2) ?_
    refine XS.aloadN X0.here hx rfl (hb hby d1_3) rfl rfl ?_
    show Steps p.tables e below (s₁.setTop (mkF m 4 #[.val (.ref sa), .val (.ref ca)] [(.ref ca), (.int (0 : Int32)), (.ref ca), (.ref sa)])) _
    exact κ)
  obtain ⟨cl2, Ar2, -, S2, M2, -, -⟩ := id Vc
  have pre3 := fun τ (κ : Steps p.tables e below (s₁.setTop (mkF m 6 #[.val (.ref sa), .val (.ref ca)] [.null, (.int (Int32.ofNat n)), (.int (0 : Int32)), (.ref ca), (.ref sa)])) τ) => pre1 τ (by
    refine X0.arraylength hx (by rw [e0]; exact Ar2.1) (State.isArrayOf_alike hZ.alike Ar2.2.1) (g := (mkF m 4 #[.val (.ref sa), .val (.ref ca)] [(.ref ca), (.int (0 : Int32)), (.ref ca), (.ref sa)])) rfl rfl (hb hby d1_4) _ ?_
    rw [len_of S2 M2]
    show Steps p.tables e below (s₁.setTop (mkF m 5 #[.val (.ref sa), .val (.ref ca)] [(.int (Int32.ofNat n)), (.int (0 : Int32)), (.ref ca), (.ref sa)])) _
    refine XS.aconstNull X0.here hx rfl (hb hby d1_5) ?_
    show Steps p.tables e below (s₁.setTop (mkF m 6 #[.val (.ref sa), .val (.ref ca)] [.null, (.int (Int32.ofNat n)), (.int (0 : Int32)), (.ref ca), (.ref sa)])) _
    exact κ)
  obtain ⟨_, _, ⟨T4, L4, k4, n4⟩, -, X4, ⟨Lc4, hQ4, l4, y4, z4⟩, st4⟩ := X0.specialBack hx (y := (⟨"java/lang/String", "<init>", "([CIILjava/lang/Void;)V"⟩ : MethodName)) rfl hown (mvT hZ (hw _ (List.mem_of_getElem? (i := 7) rfl))) (mvT hZ (hw _ (List.mem_of_getElem? (i := 8) rfl))) (mvT hZ (hw _ (List.mem_of_getElem? (i := 10) rfl))) (by decide) (backOf (W := 0) (rm2 l Z a0 hw [] sa ca n kc f zc fm h0 n0 Z0 O0 U0 E_s Fv Fc Vc hn hn0 hf hsc gs) hZ (hw _ (List.mem_of_getElem? (i := 10) rfl)) (hw _ (List.mem_of_getElem? (i := 3) rfl)) (Nat.le_of_ble_eq_true rfl) (Nat.le_of_ble_eq_true rfl)) (g := (mkF m 6 #[.val (.ref sa), .val (.ref ca)] [.null, (.int (Int32.ofNat n)), (.int (0 : Int32)), (.ref ca), (.ref sa)])) rfl (by rw [hml]; rfl) (Steps.refl _) (a := sa) (argsL := [(.ref ca), (.int (0 : Int32)), (.int (Int32.ofNat n)), .null]) (rest := []) (lenOf pd_7 rfl) rfl (by show 2 * 0 + _ ≤ _; exact Nat.le_of_eq rfl) (hb hby d1_6) (fun _ _ => ⟨rfl, e0, (by decide : 0 + 2 ≤ _), (by decide : 0 + 48 ≤ _)⟩)
  dsimp only [Pt.U, Pt.locs, Pt.cells, Pt.slots] at X4 l4 y4 z4 st4 hQ4
  subst l4 y4 z4
  obtain ⟨rfl, Nq4, K4, P4⟩ := hQ4
  have O0_4 : Old Z n0 T4.heap := O0.keep K4 (allS gs all0)
  have E_s_4 : Exa Z T4.heap sa "java/lang/String" := E_s.keep K4
  have Vc_4 : Arv Z T4.heap ca kc .char (Int32.ofNat n) (own_tab f (n)) (.int (0 : Int32)) := Vc.keep K4 (ninS (Ne.symm hsc) nin0)
  have Z4 : n0 ≤ T4.heap.size := Nat.le_trans Z0 K4.1
  have Kp4 : Keep h0 T4.heap [sa] := Kp0.trans K4 (allS (Or.inl (List.mem_of_getElem? (i := 0) rfl)) all0)
  have N4 := Fr.app N0 Nq4
  have pre5 := fun τ (κ : Steps p.tables e below (T4.setTop (mkF m 9 #[.val (.ref sa), .val (.ref ca)] [])) τ) => pre3 τ (st4.trans κ)
  obtain ⟨fs, hr, hrun, hended, hW, hsame⟩ := X4.leave (v := none) (fun _ => rfl)
  refine ⟨_, _, pre5 _ ?_, hrun, hended, _, _, rfl, ?_, ⟨_, rfl⟩, hW, hsame.mono (by decide) (by decide)⟩
  · exact X4.returnOut hx Bd.returns (hb hby d1_9) hr
  · show Q1 Z sa ca n kc f zc fm h0 n0 _ T4.heap _
    exact ⟨rfl, N4, Kp4, P4⟩
theorem ef_7 (m : MethodId) (sa : Addr) (cd : Int32) (zc : Int32) (fm : Value) : entryFrame m #[(.ref sa)] 1 = mkF m 0 #[.val (.ref sa)] [] := by first | (simp [entryFrame, mkF, argsToLocals, Value.category]; done) | rfl
def Q7 (Z : State) (sa : Addr) (cd : Int32) (zc : Int32) (fm : Value) (h0 : Heap) (n0 : Nat) (v : Option Value) (h : Heap) (L : List Loc) : Prop := v = some (.int cd) ∧ Fr n0 L ∧ h = h0
set_option maxRecDepth 65536 in
set_option maxHeartbeats 40000000 in
theorem rm7 (l : Launch) (Z : State) (a0 : Array Value) (hw : ∀ d ∈ tables_1, d.before a0 Z = true) (ws : List Jvm.Cond) (sa : Addr) (cd : Int32) (zc : Int32) (fm : Value) (h0 : Heap) (n0 : Nat) (Z0 : n0 ≤ h0.size) (O0 : Old Z n0 h0) (U0 : own_ST Z zc fm) (Fc : Fld Z h0 sa "java/lang/String" "coder" "B" (.int cd)) (hcd : cd = 0 ∨ cd = 1) :
    MetFree l (⟨"java/lang/String", "coder", "()B"⟩ : MethodName) (head1 (Jvm.Cond.code (⟨"java/lang/String", "coder", "()B"⟩ : MethodName) jdk_42_method_152_code 1 (some .byte) :: ws) ({ frames := 0, cells := 0, slots := 0, locals := 0 } : Room)) (fun α υ => α = #[(.ref sa)] ∧ Z.Warmed39 υ.vm ∧ υ.heap = h0) (fun _ _ _ _ _ => True) (fun _ υ ω υ' => ∃ v L, ω = .returned v ∧ Q7 Z sa cd zc fm h0 n0 v υ'.heap L ∧ FrameEnd υ ω υ' L ({ frames := 0, cells := 0, slots := 0, locals := 0 } : Room).cells ({ frames := 0, cells := 0, slots := 0, locals := 0 } : Room).slots) := by
  refine MetFree.of_bodySF (plainFor_of_name pn_java_lang_String) hisR ?_
  intro p e s m args below meth c s₁ Bd hml0 hP hK
  obtain ⟨rfl, hZ, hh⟩ := hP
  have hx := Bd.exec
  have hby := Bd.bytes
  have hml : c.maxLocals = 1 := hml0
  have hown : s.vm.findClass "java/lang/String" = some m.cls := findClass_of_methodNamed Bd.named
  have hnm := (name_of_methodNamed Bd.named Bd.method).1
  have X0 : Stand p l e ({ frames := 0, cells := 0, slots := 0, locals := 0 } : Room) s m #[(.ref sa)] below meth c s₁ [] 0 0 := Stand.of_body Bd
  have e0 : s₁.heap = h0 := by rw [← hh, Bd.state]; rfl
  have N0 := Fr.nil n0
  have pre0 : ∀ τ, Steps p.tables e below (s₁.setTop (mkF m 0 #[.val (.ref sa)] [])) τ → Steps p.tables e below (s₁.setTop (entryFrame m #[(.ref sa)] 1)) τ := fun τ κ => castTop (ef_7 m sa cd zc fm) κ
  obtain ⟨Scs, hcs, Sad, Shi, Slo, Sfm, r_fm⟩ := id U0
  obtain ⟨T1, X1, e1, st1⟩ := getS2 X0 hx hZ hown (host := "") (Or.inl (hw _ (List.mem_of_getElem? (i := 44) rfl))) Via.refl e0 (Scs.ext O0.2) (g := (mkF m 0 #[.val (.ref sa)] [])) rfl (hb hby d7_0)
  have pre2 := fun τ (κ : Steps p.tables e below (T1.setTop (mkF m 3 #[.val (.ref sa)] [(.int zc)])) τ) => pre0 τ (st1 _ κ)
  have pre3 := fun τ (κ : Steps p.tables e below (T1.setTop (mkF m 7 #[.val (.ref sa)] [(.ref sa)])) τ) => pre2 τ (by
    refine XS.ifNo X1.here hx rfl (hb hby d7_3) rfl ((if0 _ _).trans (feq hcs).1) ?_
    show Steps p.tables e below (T1.setTop (mkF m 6 #[.val (.ref sa)] [])) _
    refine XS.aloadN X1.here hx rfl (hb hby d7_6) rfl rfl ?_
    show Steps p.tables e below (T1.setTop (mkF m 7 #[.val (.ref sa)] [(.ref sa)])) _
    exact κ)
  obtain ⟨T4, X4, e4, st4⟩ := getF X1 hx hZ hown (host := "") (Or.inl (hw _ (List.mem_of_getElem? (i := 21) rfl))) Via.refl e1 Fc (g := (mkF m 7 #[.val (.ref sa)] [(.ref sa)])) rfl rfl (hb hby d7_7)
  have pre5 := fun τ (κ : Steps p.tables e below (T4.setTop (mkF m 10 #[.val (.ref sa)] [(.int cd)])) τ) => pre3 τ (st4 _ κ)
  have pre6 := fun τ (κ : Steps p.tables e below (T4.setTop (mkF m 14 #[.val (.ref sa)] [(.int cd)])) τ) => pre5 τ (by
    refine XS.goto X4.here hx rfl (pc0 := 10) (pc' := 14) rfl (hb hby d7_10) (by decide) (by decide) ?_
    show Steps p.tables e below (T4.setTop (mkF m 14 #[.val (.ref sa)] [(.int cd)])) _
    exact κ)
  obtain ⟨fs, hr, hrun, hended, hW, hsame⟩ := X4.leave (v := some (.int (nar .byte cd))) (fun h => by rw [Bd.returns] at h; cases h)
  refine ⟨_, _, pre6 _ ?_, hrun, hended, _, _, rfl, ?_, ⟨_, rfl⟩, hW, hsame.mono (by decide) (by decide)⟩
  · exact retN X4 hx (t := .byte) Bd.returns (by simp) (hb hby d7_14) hr
  · show Q7 Z sa cd zc fm h0 n0 _ T4.heap _
    rw [e4]
    exact ⟨(by rcases hcd with rfl | rfl <;> rfl), N0, rfl⟩
theorem ef_6 (m : MethodId) (sa : Addr) (n : Nat) (zc : Int32) (fm : Value) : entryFrame m #[(.ref sa)] 1 = mkF m 0 #[.val (.ref sa)] [] := by first | (simp [entryFrame, mkF, argsToLocals, Value.category]; done) | rfl
def Q6 (Z : State) (sa : Addr) (n : Nat) (f : Nat → Int32) (zc : Int32) (fm : Value) (h0 : Heap) (n0 : Nat) (v : Option Value) (h : Heap) (L : List Loc) : Prop := v = some (.int (Int32.ofNat n)) ∧ Fr n0 L ∧ h = h0
set_option maxRecDepth 65536 in
set_option maxHeartbeats 40000000 in
theorem rm6 (l : Launch) (Z : State) (a0 : Array Value) (hw : ∀ d ∈ tables_1, d.before a0 Z = true) (ws : List Jvm.Cond) (sa : Addr) (n : Nat) (f : Nat → Int32) (zc : Int32) (fm : Value) (h0 : Heap) (n0 : Nat) (Z0 : n0 ≤ h0.size) (O0 : Old Z n0 h0) (U0 : own_ST Z zc fm) (P0 : own_STR Z h0 sa f n) (hn : n ≤ 16) :
    MetFree l (⟨"java/lang/String", "length", "()I"⟩ : MethodName) (head1 (Jvm.Cond.code (⟨"java/lang/String", "length", "()I"⟩ : MethodName) jdk_42_method_54_code 1 (some .int) :: ws) ({ frames := 1, cells := 0, slots := 0, locals := 13 } : Room)) (fun α υ => α = #[(.ref sa)] ∧ Z.Warmed39 υ.vm ∧ υ.heap = h0) (fun _ _ _ _ _ => True) (fun _ υ ω υ' => ∃ v L, ω = .returned v ∧ Q6 Z sa n f zc fm h0 n0 v υ'.heap L ∧ FrameEnd υ ω υ' L ({ frames := 1, cells := 0, slots := 0, locals := 13 } : Room).cells ({ frames := 1, cells := 0, slots := 0, locals := 13 } : Room).slots) := by
  refine MetFree.of_bodySF (plainFor_of_name pn_java_lang_String) hisR ?_
  intro p e s m args below meth c s₁ Bd hml0 hP hK
  obtain ⟨rfl, hZ, hh⟩ := hP
  have hx := Bd.exec
  have hby := Bd.bytes
  have hml : c.maxLocals = 1 := hml0
  have hown : s.vm.findClass "java/lang/String" = some m.cls := findClass_of_methodNamed Bd.named
  have hnm := (name_of_methodNamed Bd.named Bd.method).1
  have X0 : Stand p l e ({ frames := 1, cells := 0, slots := 0, locals := 13 } : Room) s m #[(.ref sa)] below meth c s₁ [] 0 0 := Stand.of_body Bd
  have e0 : s₁.heap = h0 := by rw [← hh, Bd.state]; rfl
  have N0 := Fr.nil n0
  have pre0 : ∀ τ, Steps p.tables e below (s₁.setTop (mkF m 0 #[.val (.ref sa)] [])) τ → Steps p.tables e below (s₁.setTop (entryFrame m #[(.ref sa)] 1)) τ := fun τ κ => castTop (ef_6 m sa n zc fm) κ
  obtain ⟨Scs, hcs, Sad, Shi, Slo, Sfm, r_fm⟩ := id U0
  obtain ⟨tb, cd, E_s, Fv, Fc, B0⟩ := P0
  have hcd := B0.cd
  have pre1 := fun τ (κ : Steps p.tables e below (s₁.setTop (mkF m 1 #[.val (.ref sa)] [(.ref sa)])) τ) => pre0 τ (by
    refine XS.aloadN X0.here hx rfl (hb hby d6_0) rfl rfl ?_
    show Steps p.tables e below (s₁.setTop (mkF m 1 #[.val (.ref sa)] [(.ref sa)])) _
    exact κ)
  obtain ⟨T2, X2, e2, st2⟩ := getF X0 hx hZ hown (host := "") (Or.inl (hw _ (List.mem_of_getElem? (i := 20) rfl))) Via.refl e0 Fv (g := (mkF m 1 #[.val (.ref sa)] [(.ref sa)])) rfl rfl (hb hby d6_1)
  have pre3 := fun τ (κ : Steps p.tables e below (T2.setTop (mkF m 4 #[.val (.ref sa)] [(.ref tb)])) τ) => pre1 τ (st2 _ κ)
  obtain ⟨kb, ⟨rfl, -, Va⟩ | ⟨rfl, -, Va⟩⟩ := B0
  · obtain ⟨cl4, Ar4, -, S4, M4, -, -⟩ := id Va
    have pre5 := fun τ (κ : Steps p.tables e below (T2.setTop (mkF m 6 #[.val (.ref sa)] [(.ref sa), (.int (Int32.ofNat n))])) τ) => pre3 τ (by
      refine X2.arraylength hx (by rw [e2]; exact Ar4.1) (State.isArrayOf_alike hZ.alike Ar4.2.1) (g := (mkF m 4 #[.val (.ref sa)] [(.ref tb)])) rfl rfl (hb hby d6_4) _ ?_
      rw [len_of S4 M4]
      show Steps p.tables e below (T2.setTop (mkF m 5 #[.val (.ref sa)] [(.int (Int32.ofNat n))])) _
      refine XS.aloadN X2.here hx rfl (hb hby d6_5) rfl rfl ?_
      show Steps p.tables e below (T2.setTop (mkF m 6 #[.val (.ref sa)] [(.ref sa), (.int (Int32.ofNat n))])) _
      exact κ)
    obtain ⟨cq6, kq6, q6a, q6b, q6c⟩ := isOf hZ e2 E_s
    obtain ⟨_, _, ⟨T6, L6, k6, n6⟩, -, X6, ⟨Lc6, hQ6, l6, y6, z6⟩, st6⟩ := X2.virtualBack hx (y := (⟨"java/lang/String", "coder", "()B"⟩ : MethodName)) (z := (⟨"java/lang/String", "coder", "()B"⟩ : MethodName)) hown (mvT hZ (hw _ (List.mem_of_getElem? (i := 39) rfl))) (mvT hZ (hw _ (List.mem_of_getElem? (i := 40) rfl))) (notFace_of_selects (args := #[]) (mvT hZ (hw _ (List.mem_of_getElem? (i := 42) rfl)))) (mvT hZ (hw _ (List.mem_of_getElem? (i := 42) rfl))) (mvT hZ (hw _ (List.mem_of_getElem? (i := 41) rfl))) (by decide) (backOf (W := 1) (rm7 l Z a0 hw [] sa (0 : Int32) zc fm h0 n0 Z0 O0 U0 Fc (by decide)) hZ (hw _ (List.mem_of_getElem? (i := 43) rfl)) (hw _ (List.mem_of_getElem? (i := 3) rfl)) (Nat.le_of_ble_eq_true rfl) (Nat.le_of_ble_eq_true rfl)) q6a q6c (g := (mkF m 6 #[.val (.ref sa)] [(.ref sa), (.int (Int32.ofNat n))])) rfl (by rw [hml]; rfl) (Steps.refl _) (argsL := []) (rest := [(.int (Int32.ofNat n))]) (lenOf pd_8 rfl) rfl (by show 2 * 0 + _ ≤ _; exact Nat.le_of_eq rfl) (hb hby d6_6) (fun _ _ => ⟨rfl, e2, (by decide : 0 + 0 ≤ _), (by decide : 0 + 0 ≤ _)⟩)
    dsimp only [Pt.U, Pt.locs, Pt.cells, Pt.slots] at X6 l6 y6 z6 st6 hQ6
    subst l6 y6 z6
    obtain ⟨rfl, Nq6, hh6⟩ := hQ6
    have O0_6 : Old Z n0 T6.heap := by rw [hh6]; exact O0
    have E_s_6 : Exa Z T6.heap sa "java/lang/String" := by rw [hh6]; exact E_s
    have Fv_6 : Fld Z T6.heap sa "java/lang/String" "value" "[B" (.ref tb) := by rw [hh6]; exact Fv
    have Fc_6 : Fld Z T6.heap sa "java/lang/String" "coder" "B" (.int (0 : Int32)) := by rw [hh6]; exact Fc
    have Va_6 : Arv Z T6.heap tb kb .byte (Int32.ofNat n) (own_tab (own_l1 f) (n)) (.int (0 : Int32)) := by rw [hh6]; exact Va
    have Z6 : n0 ≤ T6.heap.size := by rw [hh6]; exact Z0
    have N6 := Fr.app N0 Nq6
    have pre7 := fun τ (κ : Steps p.tables e below (T6.setTop (mkF m 9 #[.val (.ref sa)] [(.int (0 : Int32)), (.int (Int32.ofNat n))])) τ) => pre5 τ (st6.trans κ)
    have pre8 := fun τ (κ : Steps p.tables e below (T6.setTop (mkF m 10 #[.val (.ref sa)] [(.int ((Int32.ofNat n) >>> ((0 : Int32) &&& 31)))])) τ) => pre7 τ (by
      refine XS.ishr X6.here hx rfl (hb hby d6_9) rfl ?_
      show Steps p.tables e below (T6.setTop (mkF m 10 #[.val (.ref sa)] [(.int ((Int32.ofNat n) >>> ((0 : Int32) &&& 31)))])) _
      exact κ)
    rw [show ((Int32.ofNat n) >>> ((0 : Int32) &&& 31)) = (Int32.ofNat n) from (own_shr0 _)] at pre8
    obtain ⟨fs, hr, hrun, hended, hW, hsame⟩ := X6.leave (v := some (.int (Int32.ofNat n))) (fun h => by rw [Bd.returns] at h; cases h)
    refine ⟨_, _, pre8 _ ?_, hrun, hended, _, _, rfl, ?_, ⟨_, rfl⟩, hW, hsame.mono (by decide) (by decide)⟩
    · exact retI X6 hx Bd.returns (hb hby d6_10) hr
    · show Q6 Z sa n f zc fm h0 n0 _ T6.heap _
      exact ⟨rfl, N6, hh6⟩
  · obtain ⟨cl9, Ar9, -, S9, M9, -, -⟩ := id Va
    have pre10 := fun τ (κ : Steps p.tables e below (T2.setTop (mkF m 6 #[.val (.ref sa)] [(.ref sa), (.int (Int32.ofNat (2 * n)))])) τ) => pre3 τ (by
      refine X2.arraylength hx (by rw [e2]; exact Ar9.1) (State.isArrayOf_alike hZ.alike Ar9.2.1) (g := (mkF m 4 #[.val (.ref sa)] [(.ref tb)])) rfl rfl (hb hby d6_4) _ ?_
      rw [len_of S9 M9]
      show Steps p.tables e below (T2.setTop (mkF m 5 #[.val (.ref sa)] [(.int (Int32.ofNat (2 * n)))])) _
      refine XS.aloadN X2.here hx rfl (hb hby d6_5) rfl rfl ?_
      show Steps p.tables e below (T2.setTop (mkF m 6 #[.val (.ref sa)] [(.ref sa), (.int (Int32.ofNat (2 * n)))])) _
      exact κ)
    obtain ⟨cq11, kq11, q11a, q11b, q11c⟩ := isOf hZ e2 E_s
    obtain ⟨_, _, ⟨T11, L11, k11, n11⟩, -, X11, ⟨Lc11, hQ11, l11, y11, z11⟩, st11⟩ := X2.virtualBack hx (y := (⟨"java/lang/String", "coder", "()B"⟩ : MethodName)) (z := (⟨"java/lang/String", "coder", "()B"⟩ : MethodName)) hown (mvT hZ (hw _ (List.mem_of_getElem? (i := 39) rfl))) (mvT hZ (hw _ (List.mem_of_getElem? (i := 40) rfl))) (notFace_of_selects (args := #[]) (mvT hZ (hw _ (List.mem_of_getElem? (i := 42) rfl)))) (mvT hZ (hw _ (List.mem_of_getElem? (i := 42) rfl))) (mvT hZ (hw _ (List.mem_of_getElem? (i := 41) rfl))) (by decide) (backOf (W := 1) (rm7 l Z a0 hw [] sa (1 : Int32) zc fm h0 n0 Z0 O0 U0 Fc (by decide)) hZ (hw _ (List.mem_of_getElem? (i := 43) rfl)) (hw _ (List.mem_of_getElem? (i := 3) rfl)) (Nat.le_of_ble_eq_true rfl) (Nat.le_of_ble_eq_true rfl)) q11a q11c (g := (mkF m 6 #[.val (.ref sa)] [(.ref sa), (.int (Int32.ofNat (2 * n)))])) rfl (by rw [hml]; rfl) (Steps.refl _) (argsL := []) (rest := [(.int (Int32.ofNat (2 * n)))]) (lenOf pd_8 rfl) rfl (by show 2 * 0 + _ ≤ _; exact Nat.le_of_eq rfl) (hb hby d6_6) (fun _ _ => ⟨rfl, e2, (by decide : 0 + 0 ≤ _), (by decide : 0 + 0 ≤ _)⟩)
    dsimp only [Pt.U, Pt.locs, Pt.cells, Pt.slots] at X11 l11 y11 z11 st11 hQ11
    subst l11 y11 z11
    obtain ⟨rfl, Nq11, hh11⟩ := hQ11
    have O0_11 : Old Z n0 T11.heap := by rw [hh11]; exact O0
    have E_s_11 : Exa Z T11.heap sa "java/lang/String" := by rw [hh11]; exact E_s
    have Fv_11 : Fld Z T11.heap sa "java/lang/String" "value" "[B" (.ref tb) := by rw [hh11]; exact Fv
    have Fc_11 : Fld Z T11.heap sa "java/lang/String" "coder" "B" (.int (1 : Int32)) := by rw [hh11]; exact Fc
    have Va_11 : Arv Z T11.heap tb kb .byte (Int32.ofNat (2 * n)) (own_tab (own_u16 f) (2 * n)) (.int (0 : Int32)) := by rw [hh11]; exact Va
    have Z11 : n0 ≤ T11.heap.size := by rw [hh11]; exact Z0
    have N11 := Fr.app N0 Nq11
    have pre12 := fun τ (κ : Steps p.tables e below (T11.setTop (mkF m 9 #[.val (.ref sa)] [(.int (1 : Int32)), (.int (Int32.ofNat (2 * n)))])) τ) => pre10 τ (st11.trans κ)
    have pre13 := fun τ (κ : Steps p.tables e below (T11.setTop (mkF m 10 #[.val (.ref sa)] [(.int ((Int32.ofNat (2 * n)) >>> ((1 : Int32) &&& 31)))])) τ) => pre12 τ (by
      refine XS.ishr X11.here hx rfl (hb hby d6_9) rfl ?_
      show Steps p.tables e below (T11.setTop (mkF m 10 #[.val (.ref sa)] [(.int ((Int32.ofNat (2 * n)) >>> ((1 : Int32) &&& 31)))])) _
      exact κ)
    rw [show ((Int32.ofNat (2 * n)) >>> ((1 : Int32) &&& 31)) = (Int32.ofNat n) from (own_shr1 (by omega))] at pre13
    obtain ⟨fs, hr, hrun, hended, hW, hsame⟩ := X11.leave (v := some (.int (Int32.ofNat n))) (fun h => by rw [Bd.returns] at h; cases h)
    refine ⟨_, _, pre13 _ ?_, hrun, hended, _, _, rfl, ?_, ⟨_, rfl⟩, hW, hsame.mono (by decide) (by decide)⟩
    · exact retI X11 hx Bd.returns (hb hby d6_10) hr
    · show Q6 Z sa n f zc fm h0 n0 _ T11.heap _
      exact ⟨rfl, N11, hh11⟩
theorem ef_17 (m : MethodId) (sa : Addr) (cd : Int32) (zc : Int32) (fm : Value) : entryFrame m #[(.ref sa)] 1 = mkF m 0 #[.val (.ref sa)] [] := by first | (simp [entryFrame, mkF, argsToLocals, Value.category]; done) | rfl
def Q17 (Z : State) (sa : Addr) (cd : Int32) (zc : Int32) (fm : Value) (h0 : Heap) (n0 : Nat) (v : Option Value) (h : Heap) (L : List Loc) : Prop := v = some (.int (if cd = 0 then 1 else 0)) ∧ Fr n0 L ∧ h = h0
set_option maxRecDepth 65536 in
set_option maxHeartbeats 40000000 in
theorem rm17 (l : Launch) (Z : State) (a0 : Array Value) (hw : ∀ d ∈ tables_1, d.before a0 Z = true) (ws : List Jvm.Cond) (sa : Addr) (cd : Int32) (zc : Int32) (fm : Value) (h0 : Heap) (n0 : Nat) (Z0 : n0 ≤ h0.size) (O0 : Old Z n0 h0) (U0 : own_ST Z zc fm) (Fc : Fld Z h0 sa "java/lang/String" "coder" "B" (.int cd)) :
    MetFree l (⟨"java/lang/String", "isLatin1", "()Z"⟩ : MethodName) (head1 (Jvm.Cond.code (⟨"java/lang/String", "isLatin1", "()Z"⟩ : MethodName) jdk_42_method_154_code 1 (some .boolean) :: ws) ({ frames := 0, cells := 0, slots := 0, locals := 0 } : Room)) (fun α υ => α = #[(.ref sa)] ∧ Z.Warmed39 υ.vm ∧ υ.heap = h0) (fun _ _ _ _ _ => True) (fun _ υ ω υ' => ∃ v L, ω = .returned v ∧ Q17 Z sa cd zc fm h0 n0 v υ'.heap L ∧ FrameEnd υ ω υ' L ({ frames := 0, cells := 0, slots := 0, locals := 0 } : Room).cells ({ frames := 0, cells := 0, slots := 0, locals := 0 } : Room).slots) := by
  refine MetFree.of_bodySF (plainFor_of_name pn_java_lang_String) hisR ?_
  intro p e s m args below meth c s₁ Bd hml0 hP hK
  obtain ⟨rfl, hZ, hh⟩ := hP
  have hx := Bd.exec
  have hby := Bd.bytes
  have hml : c.maxLocals = 1 := hml0
  have hown : s.vm.findClass "java/lang/String" = some m.cls := findClass_of_methodNamed Bd.named
  have hnm := (name_of_methodNamed Bd.named Bd.method).1
  have X0 : Stand p l e ({ frames := 0, cells := 0, slots := 0, locals := 0 } : Room) s m #[(.ref sa)] below meth c s₁ [] 0 0 := Stand.of_body Bd
  have e0 : s₁.heap = h0 := by rw [← hh, Bd.state]; rfl
  have N0 := Fr.nil n0
  have pre0 : ∀ τ, Steps p.tables e below (s₁.setTop (mkF m 0 #[.val (.ref sa)] [])) τ → Steps p.tables e below (s₁.setTop (entryFrame m #[(.ref sa)] 1)) τ := fun τ κ => castTop (ef_17 m sa cd zc fm) κ
  obtain ⟨Scs, hcs, Sad, Shi, Slo, Sfm, r_fm⟩ := id U0
  obtain ⟨T1, X1, e1, st1⟩ := getS2 X0 hx hZ hown (host := "") (Or.inl (hw _ (List.mem_of_getElem? (i := 44) rfl))) Via.refl e0 (Scs.ext O0.2) (g := (mkF m 0 #[.val (.ref sa)] [])) rfl (hb hby d17_0)
  have pre2 := fun τ (κ : Steps p.tables e below (T1.setTop (mkF m 3 #[.val (.ref sa)] [(.int zc)])) τ) => pre0 τ (st1 _ κ)
  have pre3 := fun τ (κ : Steps p.tables e below (T1.setTop (mkF m 7 #[.val (.ref sa)] [(.ref sa)])) τ) => pre2 τ (by
    refine XS.ifNo X1.here hx rfl (hb hby d17_3) rfl ((if0 _ _).trans (feq hcs).1) ?_
    show Steps p.tables e below (T1.setTop (mkF m 6 #[.val (.ref sa)] [])) _
    refine XS.aloadN X1.here hx rfl (hb hby d17_6) rfl rfl ?_
    show Steps p.tables e below (T1.setTop (mkF m 7 #[.val (.ref sa)] [(.ref sa)])) _
    exact κ)
  obtain ⟨T4, X4, e4, st4⟩ := getF X1 hx hZ hown (host := "") (Or.inl (hw _ (List.mem_of_getElem? (i := 21) rfl))) Via.refl e1 Fc (g := (mkF m 7 #[.val (.ref sa)] [(.ref sa)])) rfl rfl (hb hby d17_7)
  have pre5 := fun τ (κ : Steps p.tables e below (T4.setTop (mkF m 10 #[.val (.ref sa)] [(.int cd)])) τ) => pre3 τ (st4 _ κ)
  by_cases hq : cd = (0 : Int32)
  · have pre6 := fun τ (κ : Steps p.tables e below (T4.setTop (mkF m 18 #[.val (.ref sa)] [(.int (1 : Int32))])) τ) => pre5 τ (by
      refine XS.ifNo X4.here hx rfl (hb hby d17_10) rfl ((if0 _ _).trans (teq hq).2) ?_
      show Steps p.tables e below (T4.setTop (mkF m 13 #[.val (.ref sa)] [])) _
      refine XS.iconst X4.here hx rfl (hb hby d17_13) ?_
      refine XS.goto X4.here hx rfl (pc0 := 14) (pc' := 18) rfl (hb hby d17_14) (by decide) (by decide) ?_
      show Steps p.tables e below (T4.setTop (mkF m 18 #[.val (.ref sa)] [(.int (1 : Int32))])) _
      exact κ)
    obtain ⟨fs, hr, hrun, hended, hW, hsame⟩ := X4.leave (v := some (.int (1 : Int32))) (fun h => by rw [Bd.returns] at h; cases h)
    refine ⟨_, _, pre6 _ ?_, hrun, hended, _, _, rfl, ?_, ⟨_, rfl⟩, hW, hsame.mono (by decide) (by decide)⟩
    · exact retN X4 hx (t := .boolean) Bd.returns (by simp) (hb hby d17_18) hr
    · show Q17 Z sa cd zc fm h0 n0 _ T4.heap _
      rw [e4]
      exact ⟨(by rw [if_pos hq]), N0, rfl⟩
  · have pre7 := fun τ (κ : Steps p.tables e below (T4.setTop (mkF m 18 #[.val (.ref sa)] [(.int (0 : Int32))])) τ) => pre5 τ (by
      refine XS.ifYes X4.here hx rfl (pc0 := 10) (pc' := 17) rfl (hb hby d17_10) rfl ((if0 _ _).trans (feq hq).2) (by decide) (by decide) ?_
      show Steps p.tables e below (T4.setTop (mkF m 17 #[.val (.ref sa)] [])) _
      refine XS.iconst X4.here hx rfl (hb hby d17_17) ?_
      show Steps p.tables e below (T4.setTop (mkF m 18 #[.val (.ref sa)] [(.int (0 : Int32))])) _
      exact κ)
    obtain ⟨fs, hr, hrun, hended, hW, hsame⟩ := X4.leave (v := some (.int (0 : Int32))) (fun h => by rw [Bd.returns] at h; cases h)
    refine ⟨_, _, pre7 _ ?_, hrun, hended, _, _, rfl, ?_, ⟨_, rfl⟩, hW, hsame.mono (by decide) (by decide)⟩
    · exact retN X4 hx (t := .boolean) Bd.returns (by simp) (hb hby d17_18) hr
    · show Q17 Z sa cd zc fm h0 n0 _ T4.heap _
      rw [e4]
      exact ⟨(by rw [if_neg hq]), N0, rfl⟩
theorem ef_22 (m : MethodId) (i : Nat) (n : Nat) (fm : Value) (r_fm : fm.isRef = true) : entryFrame m #[(.int (Int32.ofNat i)), (.int (Int32.ofNat n)), fm] 3 = mkF m 0 #[.val (.int (Int32.ofNat i)), .val (.int (Int32.ofNat n)), .val fm] [] := by rcases ref_cases r_fm with rfl | ⟨a, rfl⟩ <;> rfl
def Q22 (Z : State) (i : Nat) (n : Nat) (fm : Value) (h0 : Heap) (n0 : Nat) (v : Option Value) (h : Heap) (L : List Loc) : Prop := v = some (.int (Int32.ofNat i)) ∧ Fr n0 L ∧ h = h0
set_option maxRecDepth 65536 in
set_option maxHeartbeats 40000000 in
theorem rm22 (l : Launch) (Z : State) (a0 : Array Value) (hw : ∀ d ∈ tables_1, d.before a0 Z = true) (ws : List Jvm.Cond) (i : Nat) (n : Nat) (fm : Value) (h0 : Heap) (n0 : Nat) (Z0 : n0 ≤ h0.size) (r_fm : fm.isRef = true) (hn : n ≤ 16) (hi : i < n) :
    MetFree l (⟨"jdk/internal/util/Preconditions", "checkIndex", "(IILjava/util/function/BiFunction;)I"⟩ : MethodName) (head1 (Jvm.Cond.code (⟨"jdk/internal/util/Preconditions", "checkIndex", "(IILjava/util/function/BiFunction;)I"⟩ : MethodName) jdk_41_method_11_code 3 (some .int) :: ws) ({ frames := 0, cells := 0, slots := 0, locals := 0 } : Room)) (fun α υ => α = #[(.int (Int32.ofNat i)), (.int (Int32.ofNat n)), fm] ∧ Z.Warmed39 υ.vm ∧ υ.heap = h0) (fun _ _ _ _ _ => True) (fun _ υ ω υ' => ∃ v L, ω = .returned v ∧ Q22 Z i n fm h0 n0 v υ'.heap L ∧ FrameEnd υ ω υ' L ({ frames := 0, cells := 0, slots := 0, locals := 0 } : Room).cells ({ frames := 0, cells := 0, slots := 0, locals := 0 } : Room).slots) := by
  refine MetFree.of_bodySF (plainFor_of_name pn_jdk_internal_util_Preconditions) hisR ?_
  intro p e s m args below meth c s₁ Bd hml0 hP hK
  obtain ⟨rfl, hZ, hh⟩ := hP
  have hx := Bd.exec
  have hby := Bd.bytes
  have hml : c.maxLocals = 3 := hml0
  have hown : s.vm.findClass "jdk/internal/util/Preconditions" = some m.cls := findClass_of_methodNamed Bd.named
  have hnm := (name_of_methodNamed Bd.named Bd.method).1
  have X0 : Stand p l e ({ frames := 0, cells := 0, slots := 0, locals := 0 } : Room) s m #[(.int (Int32.ofNat i)), (.int (Int32.ofNat n)), fm] below meth c s₁ [] 0 0 := Stand.of_body Bd
  have e0 : s₁.heap = h0 := by rw [← hh, Bd.state]; rfl
  have N0 := Fr.nil n0
  have pre0 : ∀ τ, Steps p.tables e below (s₁.setTop (mkF m 0 #[.val (.int (Int32.ofNat i)), .val (.int (Int32.ofNat n)), .val fm] [])) τ → Steps p.tables e below (s₁.setTop (entryFrame m #[(.int (Int32.ofNat i)), (.int (Int32.ofNat n)), fm] 3)) τ := fun τ κ => castTop (ef_22 m i n fm r_fm) κ
  have pre1 := fun τ (κ : Steps p.tables e below (s₁.setTop (mkF m 17 #[.val (.int (Int32.ofNat i)), .val (.int (Int32.ofNat n)), .val fm] [(.int (Int32.ofNat i))])) τ) => pre0 τ (by
    refine XS.iloadN X0.here hx rfl (hb hby d22_0) rfl ?_
    refine XS.ifNo X0.here hx rfl (hb hby d22_1) rfl ((if0 _ _).trans (flt (own_nn (by omega))).1) ?_
    show Steps p.tables e below (s₁.setTop (mkF m 4 #[.val (.int (Int32.ofNat i)), .val (.int (Int32.ofNat n)), .val fm] [])) _
    refine XS.iloadN X0.here hx rfl (hb hby d22_4) rfl ?_
    refine XS.iloadN X0.here hx rfl (hb hby d22_5) rfl ?_
    refine XS.icmpYes X0.here hx rfl (pc0 := 6) (pc' := 16) rfl (hb hby d22_6) rfl (tlt ((own_ltN (by omega) (by omega)).mpr hi)).1 (by decide) (by decide) ?_
    show Steps p.tables e below (s₁.setTop (mkF m 16 #[.val (.int (Int32.ofNat i)), .val (.int (Int32.ofNat n)), .val fm] [])) _
    refine XS.iloadN X0.here hx rfl (hb hby d22_16) rfl ?_
    show Steps p.tables e below (s₁.setTop (mkF m 17 #[.val (.int (Int32.ofNat i)), .val (.int (Int32.ofNat n)), .val fm] [(.int (Int32.ofNat i))])) _
    exact κ)
  obtain ⟨fs, hr, hrun, hended, hW, hsame⟩ := X0.leave (v := some (.int (Int32.ofNat i))) (fun h => by rw [Bd.returns] at h; cases h)
  refine ⟨_, _, pre1 _ ?_, hrun, hended, _, _, rfl, ?_, ⟨_, rfl⟩, hW, hsame.mono (by decide) (by decide)⟩
  · exact retI X0 hx Bd.returns (hb hby d22_17) hr
  · show Q22 Z i n fm h0 n0 _ s₁.heap _
    rw [e0]
    exact ⟨rfl, N0, rfl⟩
theorem ef_21 (m : MethodId) (i : Nat) (n : Nat) (zc : Int32) (fm : Value) : entryFrame m #[(.int (Int32.ofNat i)), (.int (Int32.ofNat n))] 2 = mkF m 0 #[.val (.int (Int32.ofNat i)), .val (.int (Int32.ofNat n))] [] := by first | (simp [entryFrame, mkF, argsToLocals, Value.category]; done) | rfl
def Q21 (Z : State) (i : Nat) (n : Nat) (zc : Int32) (fm : Value) (h0 : Heap) (n0 : Nat) (v : Option Value) (h : Heap) (L : List Loc) : Prop := v = none ∧ Fr n0 L ∧ h = h0
set_option maxRecDepth 65536 in
set_option maxHeartbeats 40000000 in
theorem rm21 (l : Launch) (Z : State) (a0 : Array Value) (hw : ∀ d ∈ tables_1, d.before a0 Z = true) (ws : List Jvm.Cond) (i : Nat) (n : Nat) (zc : Int32) (fm : Value) (h0 : Heap) (n0 : Nat) (Z0 : n0 ≤ h0.size) (O0 : Old Z n0 h0) (U0 : own_ST Z zc fm) (hn : n ≤ 16) (hi : i < n) :
    MetFree l (⟨"java/lang/String", "checkIndex", "(II)V"⟩ : MethodName) (head1 (Jvm.Cond.code (⟨"java/lang/String", "checkIndex", "(II)V"⟩ : MethodName) jdk_42_method_155_code 2 none :: ws) ({ frames := 1, cells := 0, slots := 0, locals := 14 } : Room)) (fun α υ => α = #[(.int (Int32.ofNat i)), (.int (Int32.ofNat n))] ∧ Z.Warmed39 υ.vm ∧ υ.heap = h0) (fun _ _ _ _ _ => True) (fun _ υ ω υ' => ∃ v L, ω = .returned v ∧ Q21 Z i n zc fm h0 n0 v υ'.heap L ∧ FrameEnd υ ω υ' L ({ frames := 1, cells := 0, slots := 0, locals := 14 } : Room).cells ({ frames := 1, cells := 0, slots := 0, locals := 14 } : Room).slots) := by
  refine MetFree.of_bodySF (plainFor_of_name pn_java_lang_String) hisR ?_
  intro p e s m args below meth c s₁ Bd hml0 hP hK
  obtain ⟨rfl, hZ, hh⟩ := hP
  have hx := Bd.exec
  have hby := Bd.bytes
  have hml : c.maxLocals = 2 := hml0
  have hown : s.vm.findClass "java/lang/String" = some m.cls := findClass_of_methodNamed Bd.named
  have hnm := (name_of_methodNamed Bd.named Bd.method).1
  have X0 : Stand p l e ({ frames := 1, cells := 0, slots := 0, locals := 14 } : Room) s m #[(.int (Int32.ofNat i)), (.int (Int32.ofNat n))] below meth c s₁ [] 0 0 := Stand.of_body Bd
  have e0 : s₁.heap = h0 := by rw [← hh, Bd.state]; rfl
  have N0 := Fr.nil n0
  have pre0 : ∀ τ, Steps p.tables e below (s₁.setTop (mkF m 0 #[.val (.int (Int32.ofNat i)), .val (.int (Int32.ofNat n))] [])) τ → Steps p.tables e below (s₁.setTop (entryFrame m #[(.int (Int32.ofNat i)), (.int (Int32.ofNat n))] 2)) τ := fun τ κ => castTop (ef_21 m i n zc fm) κ
  obtain ⟨Scs, hcs, Sad, Shi, Slo, Sfm, r_fm⟩ := id U0
  have pre1 := fun τ (κ : Steps p.tables e below (s₁.setTop (mkF m 2 #[.val (.int (Int32.ofNat i)), .val (.int (Int32.ofNat n))] [(.int (Int32.ofNat n)), (.int (Int32.ofNat i))])) τ) => pre0 τ (by
    refine XS.iloadN X0.here hx rfl (hb hby d21_0) rfl ?_
    refine XS.iloadN X0.here hx rfl (hb hby d21_1) rfl ?_
    show Steps p.tables e below (s₁.setTop (mkF m 2 #[.val (.int (Int32.ofNat i)), .val (.int (Int32.ofNat n))] [(.int (Int32.ofNat n)), (.int (Int32.ofNat i))])) _
    exact κ)
  obtain ⟨T2, X2, e2, st2⟩ := getS2 X0 hx hZ hown (host := "") (Or.inl (hw _ (List.mem_of_getElem? (i := 108) rfl))) Via.refl e0 (Sfm.ext O0.2) (g := (mkF m 2 #[.val (.int (Int32.ofNat i)), .val (.int (Int32.ofNat n))] [(.int (Int32.ofNat n)), (.int (Int32.ofNat i))])) rfl (hb hby d21_2)
  have pre3 := fun τ (κ : Steps p.tables e below (T2.setTop (mkF m 5 #[.val (.int (Int32.ofNat i)), .val (.int (Int32.ofNat n))] [fm, (.int (Int32.ofNat n)), (.int (Int32.ofNat i))])) τ) => pre1 τ (st2 _ κ)
  obtain ⟨_, _, ⟨T4, L4, k4, n4⟩, -, X4, ⟨Lc4, hQ4, l4, y4, z4⟩, st4⟩ := Jvm.LawKit.callS X2 hx (y := (⟨"jdk/internal/util/Preconditions", "checkIndex", "(IILjava/util/function/BiFunction;)I"⟩ : MethodName)) hown (mvT hZ (hw _ (List.mem_of_getElem? (i := 110) rfl))) (mvT hZ (hw _ (List.mem_of_getElem? (i := 111) rfl))) (mvT hZ (hw _ (List.mem_of_getElem? (i := 109) rfl))) (mvT hZ (hw _ (List.mem_of_getElem? (i := 112) rfl))) (by decide) (backOf (W := 0) (rm22 l Z a0 hw [] i n fm h0 n0 Z0 r_fm hn hi) hZ (hw _ (List.mem_of_getElem? (i := 112) rfl)) (hw _ (List.mem_of_getElem? (i := 109) rfl)) (Nat.le_of_ble_eq_true rfl) (Nat.le_of_ble_eq_true rfl)) (g := (mkF m 5 #[.val (.int (Int32.ofNat i)), .val (.int (Int32.ofNat n))] [fm, (.int (Int32.ofNat n)), (.int (Int32.ofNat i))])) rfl (by rw [hml]; rfl) (argsL := [(.int (Int32.ofNat i)), (.int (Int32.ofNat n)), fm]) (rest := []) (lenOf pd_9 rfl) rfl (by show 2 * 0 + _ ≤ _; exact Nat.le_of_eq rfl) (hb hby d21_5) (fun _ _ => ⟨rfl, e2, (by decide : 0 + 0 ≤ _), (by decide : 0 + 0 ≤ _)⟩)
  dsimp only [Pt.U, Pt.locs, Pt.cells, Pt.slots] at X4 l4 y4 z4 st4 hQ4
  subst l4 y4 z4
  obtain ⟨rfl, Nq4, hh4⟩ := hQ4
  have O0_4 : Old Z n0 T4.heap := by rw [hh4]; exact O0
  have Z4 : n0 ≤ T4.heap.size := by rw [hh4]; exact Z0
  have N4 := Fr.app N0 Nq4
  have pre5 := fun τ (κ : Steps p.tables e below (T4.setTop (mkF m 8 #[.val (.int (Int32.ofNat i)), .val (.int (Int32.ofNat n))] [(.int (Int32.ofNat i))])) τ) => pre3 τ (st4 _ κ)
  have pre6 := fun τ (κ : Steps p.tables e below (T4.setTop (mkF m 9 #[.val (.int (Int32.ofNat i)), .val (.int (Int32.ofNat n))] [])) τ) => pre5 τ (by
    refine XS.pop X4.here hx rfl (hb hby d21_8) rfl rfl ?_
    show Steps p.tables e below (T4.setTop (mkF m 9 #[.val (.int (Int32.ofNat i)), .val (.int (Int32.ofNat n))] [])) _
    exact κ)
  obtain ⟨fs, hr, hrun, hended, hW, hsame⟩ := X4.leave (v := none) (fun _ => rfl)
  refine ⟨_, _, pre6 _ ?_, hrun, hended, _, _, rfl, ?_, ⟨_, rfl⟩, hW, hsame.mono (by decide) (by decide)⟩
  · exact X4.returnOut hx Bd.returns (hb hby d21_9) hr
  · show Q21 Z i n zc fm h0 n0 _ T4.heap _
    exact ⟨rfl, N4, hh4⟩
theorem ef_20 (m : MethodId) (db : Addr) (n : Nat) : entryFrame m #[(.ref db)] 1 = mkF m 0 #[.val (.ref db)] [] := by first | (simp [entryFrame, mkF, argsToLocals, Value.category]; done) | rfl
def Q20 (Z : State) (db : Addr) (n : Nat) (kb : ClassId) (g : Nat → Int32) (h0 : Heap) (n0 : Nat) (v : Option Value) (h : Heap) (L : List Loc) : Prop := v = some (.int (Int32.ofNat n)) ∧ Fr n0 L ∧ h = h0
set_option maxRecDepth 65536 in
set_option maxHeartbeats 40000000 in
theorem rm20 (l : Launch) (Z : State) (a0 : Array Value) (hw : ∀ d ∈ tables_1, d.before a0 Z = true) (ws : List Jvm.Cond) (db : Addr) (n : Nat) (kb : ClassId) (g : Nat → Int32) (h0 : Heap) (n0 : Nat) (Z0 : n0 ≤ h0.size) (Va : Arv Z h0 db kb .byte (Int32.ofNat (2 * n)) (own_tab g (2 * n)) (.int (0 : Int32))) (hn : n ≤ 16) :
    MetFree l (⟨"java/lang/StringUTF16", "length", "([B)I"⟩ : MethodName) (head1 (Jvm.Cond.code (⟨"java/lang/StringUTF16", "length", "([B)I"⟩ : MethodName) jdk_52_method_6_code 1 (some .int) :: ws) ({ frames := 0, cells := 0, slots := 0, locals := 0 } : Room)) (fun α υ => α = #[(.ref db)] ∧ Z.Warmed39 υ.vm ∧ υ.heap = h0) (fun _ _ _ _ _ => True) (fun _ υ ω υ' => ∃ v L, ω = .returned v ∧ Q20 Z db n kb g h0 n0 v υ'.heap L ∧ FrameEnd υ ω υ' L ({ frames := 0, cells := 0, slots := 0, locals := 0 } : Room).cells ({ frames := 0, cells := 0, slots := 0, locals := 0 } : Room).slots) := by
  refine MetFree.of_bodySF (plainFor_of_name pn_java_lang_StringUTF16) hisR ?_
  intro p e s m args below meth c s₁ Bd hml0 hP hK
  obtain ⟨rfl, hZ, hh⟩ := hP
  have hx := Bd.exec
  have hby := Bd.bytes
  have hml : c.maxLocals = 1 := hml0
  have hown : s.vm.findClass "java/lang/StringUTF16" = some m.cls := findClass_of_methodNamed Bd.named
  have hnm := (name_of_methodNamed Bd.named Bd.method).1
  have X0 : Stand p l e ({ frames := 0, cells := 0, slots := 0, locals := 0 } : Room) s m #[(.ref db)] below meth c s₁ [] 0 0 := Stand.of_body Bd
  have e0 : s₁.heap = h0 := by rw [← hh, Bd.state]; rfl
  have N0 := Fr.nil n0
  have pre0 : ∀ τ, Steps p.tables e below (s₁.setTop (mkF m 0 #[.val (.ref db)] [])) τ → Steps p.tables e below (s₁.setTop (entryFrame m #[(.ref db)] 1)) τ := fun τ κ => castTop (ef_20 m db n) κ
  have pre1 := fun τ (κ : Steps p.tables e below (s₁.setTop (mkF m 1 #[.val (.ref db)] [(.ref db)])) τ) => pre0 τ (by
    refine XS.aloadN X0.here hx rfl (hb hby d20_0) rfl rfl ?_
    show Steps p.tables e below (s₁.setTop (mkF m 1 #[.val (.ref db)] [(.ref db)])) _
    exact κ)
  obtain ⟨cl2, Ar2, -, S2, M2, -, -⟩ := id Va
  have pre3 := fun τ (κ : Steps p.tables e below (s₁.setTop (mkF m 4 #[.val (.ref db)] [(.int ((Int32.ofNat (2 * n)) >>> ((1 : Int32) &&& 31)))])) τ) => pre1 τ (by
    refine X0.arraylength hx (by rw [e0]; exact Ar2.1) (State.isArrayOf_alike hZ.alike Ar2.2.1) (g := (mkF m 1 #[.val (.ref db)] [(.ref db)])) rfl rfl (hb hby d20_1) _ ?_
    rw [len_of S2 M2]
    show Steps p.tables e below (s₁.setTop (mkF m 2 #[.val (.ref db)] [(.int (Int32.ofNat (2 * n)))])) _
    refine XS.iconst X0.here hx rfl (hb hby d20_2) ?_
    refine XS.ishr X0.here hx rfl (hb hby d20_3) rfl ?_
    show Steps p.tables e below (s₁.setTop (mkF m 4 #[.val (.ref db)] [(.int ((Int32.ofNat (2 * n)) >>> ((1 : Int32) &&& 31)))])) _
    exact κ)
  rw [show ((Int32.ofNat (2 * n)) >>> ((1 : Int32) &&& 31)) = (Int32.ofNat n) from (own_shr1 (by omega))] at pre3
  obtain ⟨fs, hr, hrun, hended, hW, hsame⟩ := X0.leave (v := some (.int (Int32.ofNat n))) (fun h => by rw [Bd.returns] at h; cases h)
  refine ⟨_, _, pre3 _ ?_, hrun, hended, _, _, rfl, ?_, ⟨_, rfl⟩, hW, hsame.mono (by decide) (by decide)⟩
  · exact retI X0 hx Bd.returns (hb hby d20_4) hr
  · show Q20 Z db n kb g h0 n0 _ s₁.heap _
    rw [e0]
    exact ⟨rfl, N0, rfl⟩
theorem ef_19 (m : MethodId) (i : Nat) (db : Addr) (n : Nat) (zc : Int32) (fm : Value) : entryFrame m #[(.int (Int32.ofNat i)), (.ref db)] 2 = mkF m 0 #[.val (.int (Int32.ofNat i)), .val (.ref db)] [] := by first | (simp [entryFrame, mkF, argsToLocals, Value.category]; done) | rfl
def Q19 (Z : State) (i : Nat) (db : Addr) (n : Nat) (kb : ClassId) (g : Nat → Int32) (zc : Int32) (fm : Value) (h0 : Heap) (n0 : Nat) (v : Option Value) (h : Heap) (L : List Loc) : Prop := v = none ∧ Fr n0 L ∧ h = h0
set_option maxRecDepth 65536 in
set_option maxHeartbeats 40000000 in
theorem rm19 (l : Launch) (Z : State) (a0 : Array Value) (hw : ∀ d ∈ tables_1, d.before a0 Z = true) (ws : List Jvm.Cond) (i : Nat) (db : Addr) (n : Nat) (kb : ClassId) (g : Nat → Int32) (zc : Int32) (fm : Value) (h0 : Heap) (n0 : Nat) (Z0 : n0 ≤ h0.size) (O0 : Old Z n0 h0) (U0 : own_ST Z zc fm) (Va : Arv Z h0 db kb .byte (Int32.ofNat (2 * n)) (own_tab g (2 * n)) (.int (0 : Int32))) (hn : n ≤ 16) (hi : i < n) :
    MetFree l (⟨"java/lang/StringUTF16", "checkIndex", "(I[B)V"⟩ : MethodName) (head1 (Jvm.Cond.code (⟨"java/lang/StringUTF16", "checkIndex", "(I[B)V"⟩ : MethodName) jdk_52_method_91_code 2 none :: ws) ({ frames := 2, cells := 0, slots := 0, locals := 27 } : Room)) (fun α υ => α = #[(.int (Int32.ofNat i)), (.ref db)] ∧ Z.Warmed39 υ.vm ∧ υ.heap = h0) (fun _ _ _ _ _ => True) (fun _ υ ω υ' => ∃ v L, ω = .returned v ∧ Q19 Z i db n kb g zc fm h0 n0 v υ'.heap L ∧ FrameEnd υ ω υ' L ({ frames := 2, cells := 0, slots := 0, locals := 27 } : Room).cells ({ frames := 2, cells := 0, slots := 0, locals := 27 } : Room).slots) := by
  refine MetFree.of_bodySF (plainFor_of_name pn_java_lang_StringUTF16) hisR ?_
  intro p e s m args below meth c s₁ Bd hml0 hP hK
  obtain ⟨rfl, hZ, hh⟩ := hP
  have hx := Bd.exec
  have hby := Bd.bytes
  have hml : c.maxLocals = 2 := hml0
  have hown : s.vm.findClass "java/lang/StringUTF16" = some m.cls := findClass_of_methodNamed Bd.named
  have hnm := (name_of_methodNamed Bd.named Bd.method).1
  have X0 : Stand p l e ({ frames := 2, cells := 0, slots := 0, locals := 27 } : Room) s m #[(.int (Int32.ofNat i)), (.ref db)] below meth c s₁ [] 0 0 := Stand.of_body Bd
  have e0 : s₁.heap = h0 := by rw [← hh, Bd.state]; rfl
  have N0 := Fr.nil n0
  have pre0 : ∀ τ, Steps p.tables e below (s₁.setTop (mkF m 0 #[.val (.int (Int32.ofNat i)), .val (.ref db)] [])) τ → Steps p.tables e below (s₁.setTop (entryFrame m #[(.int (Int32.ofNat i)), (.ref db)] 2)) τ := fun τ κ => castTop (ef_19 m i db n zc fm) κ
  have pre1 := fun τ (κ : Steps p.tables e below (s₁.setTop (mkF m 2 #[.val (.int (Int32.ofNat i)), .val (.ref db)] [(.ref db), (.int (Int32.ofNat i))])) τ) => pre0 τ (by
    refine XS.iloadN X0.here hx rfl (hb hby d19_0) rfl ?_
    refine XS.aloadN X0.here hx rfl (hb hby d19_1) rfl rfl ?_
    show Steps p.tables e below (s₁.setTop (mkF m 2 #[.val (.int (Int32.ofNat i)), .val (.ref db)] [(.ref db), (.int (Int32.ofNat i))])) _
    exact κ)
  obtain ⟨_, _, ⟨T2, L2, k2, n2⟩, -, X2, ⟨Lc2, hQ2, l2, y2, z2⟩, st2⟩ := Jvm.LawKit.callS X0 hx (y := (⟨"java/lang/StringUTF16", "length", "([B)I"⟩ : MethodName)) hown (mvT hZ (hw _ (List.mem_of_getElem? (i := 102) rfl))) (mvT hZ (hw _ (List.mem_of_getElem? (i := 103) rfl))) (mvT hZ (hw _ (List.mem_of_getElem? (i := 57) rfl))) (mvT hZ (hw _ (List.mem_of_getElem? (i := 104) rfl))) (by decide) (backOf (W := 1) (rm20 l Z a0 hw [] db n kb g h0 n0 Z0 Va hn) hZ (hw _ (List.mem_of_getElem? (i := 104) rfl)) (hw _ (List.mem_of_getElem? (i := 57) rfl)) (Nat.le_of_ble_eq_true rfl) (Nat.le_of_ble_eq_true rfl)) (g := (mkF m 2 #[.val (.int (Int32.ofNat i)), .val (.ref db)] [(.ref db), (.int (Int32.ofNat i))])) rfl (by rw [hml]; rfl) (argsL := [(.ref db)]) (rest := [(.int (Int32.ofNat i))]) (lenOf pd_10 rfl) rfl (by show 2 * 0 + _ ≤ _; exact Nat.le_of_eq rfl) (hb hby d19_2) (fun _ _ => ⟨rfl, e0, (by decide : 0 + 0 ≤ _), (by decide : 0 + 0 ≤ _)⟩)
  dsimp only [Pt.U, Pt.locs, Pt.cells, Pt.slots] at X2 l2 y2 z2 st2 hQ2
  subst l2 y2 z2
  obtain ⟨rfl, Nq2, hh2⟩ := hQ2
  have O0_2 : Old Z n0 T2.heap := by rw [hh2]; exact O0
  have Va_2 : Arv Z T2.heap db kb .byte (Int32.ofNat (2 * n)) (own_tab g (2 * n)) (.int (0 : Int32)) := by rw [hh2]; exact Va
  have Z2 : n0 ≤ T2.heap.size := by rw [hh2]; exact Z0
  have N2 := Fr.app N0 Nq2
  have pre3 := fun τ (κ : Steps p.tables e below (T2.setTop (mkF m 5 #[.val (.int (Int32.ofNat i)), .val (.ref db)] [(.int (Int32.ofNat n)), (.int (Int32.ofNat i))])) τ) => pre1 τ (st2 _ κ)
  obtain ⟨_, _, ⟨T4, L4, k4, n4⟩, -, X4, ⟨Lc4, hQ4, l4, y4, z4⟩, st4⟩ := Jvm.LawKit.callS X2 hx (y := (⟨"java/lang/String", "checkIndex", "(II)V"⟩ : MethodName)) hown (mvT hZ (hw _ (List.mem_of_getElem? (i := 105) rfl))) (mvT hZ (hw _ (List.mem_of_getElem? (i := 106) rfl))) (mvT hZ (hw _ (List.mem_of_getElem? (i := 3) rfl))) (mvT hZ (hw _ (List.mem_of_getElem? (i := 107) rfl))) (by decide) (backOf (W := 0) (rm21 l Z a0 hw [] i n zc fm T2.heap n0 Z2 O0_2 U0 hn hi) hZ (hw _ (List.mem_of_getElem? (i := 107) rfl)) (hw _ (List.mem_of_getElem? (i := 3) rfl)) (Nat.le_of_ble_eq_true rfl) (Nat.le_of_ble_eq_true rfl)) (g := (mkF m 5 #[.val (.int (Int32.ofNat i)), .val (.ref db)] [(.int (Int32.ofNat n)), (.int (Int32.ofNat i))])) rfl (by rw [hml]; rfl) (argsL := [(.int (Int32.ofNat i)), (.int (Int32.ofNat n))]) (rest := []) (lenOf pd_11 rfl) rfl (by show 2 * 0 + _ ≤ _; exact Nat.le_of_eq rfl) (hb hby d19_5) (fun _ _ => ⟨rfl, rfl, (by decide : 0 + 0 ≤ _), (by decide : 0 + 0 ≤ _)⟩)
  dsimp only [Pt.U, Pt.locs, Pt.cells, Pt.slots] at X4 l4 y4 z4 st4 hQ4
  subst l4 y4 z4
  obtain ⟨rfl, Nq4, hh4⟩ := hQ4
  have O0_4 : Old Z n0 T4.heap := by rw [hh4]; exact O0_2
  have Va_4 : Arv Z T4.heap db kb .byte (Int32.ofNat (2 * n)) (own_tab g (2 * n)) (.int (0 : Int32)) := by rw [hh4]; exact Va_2
  have Z4 : n0 ≤ T4.heap.size := by rw [hh4]; exact Z2
  have N4 := Fr.app N2 Nq4
  have pre5 := fun τ (κ : Steps p.tables e below (T4.setTop (mkF m 8 #[.val (.int (Int32.ofNat i)), .val (.ref db)] [])) τ) => pre3 τ (st4 _ κ)
  obtain ⟨fs, hr, hrun, hended, hW, hsame⟩ := X4.leave (v := none) (fun _ => rfl)
  refine ⟨_, _, pre5 _ ?_, hrun, hended, _, _, rfl, ?_, ⟨_, rfl⟩, hW, hsame.mono (by decide) (by decide)⟩
  · exact X4.returnOut hx Bd.returns (hb hby d19_8) hr
  · show Q19 Z i db n kb g zc fm h0 n0 _ T4.heap _
    exact ⟨rfl, N4, (hh4.trans hh2)⟩
theorem ef_18 (m : MethodId) (db : Addr) (i : Nat) (n : Nat) (zc : Int32) (fm : Value) : entryFrame m #[(.ref db), (.int (Int32.ofNat i))] 2 = mkF m 0 #[.val (.ref db), .val (.int (Int32.ofNat i))] [] := by first | (simp [entryFrame, mkF, argsToLocals, Value.category]; done) | rfl
def Q18 (Z : State) (db : Addr) (i : Nat) (n : Nat) (kb : ClassId) (f : Nat → Int32) (zc : Int32) (fm : Value) (h0 : Heap) (n0 : Nat) (v : Option Value) (h : Heap) (L : List Loc) : Prop := v = some (.int (f i)) ∧ Fr n0 L ∧ h = h0
set_option maxRecDepth 65536 in
set_option maxHeartbeats 40000000 in
theorem rm18 (l : Launch) (Z : State) (a0 : Array Value) (hw : ∀ d ∈ tables_1, d.before a0 Z = true) (ws : List Jvm.Cond) (db : Addr) (i : Nat) (n : Nat) (kb : ClassId) (f : Nat → Int32) (zc : Int32) (fm : Value) (h0 : Heap) (n0 : Nat) (Z0 : n0 ≤ h0.size) (O0 : Old Z n0 h0) (U0 : own_ST Z zc fm) (Va : Arv Z h0 db kb .byte (Int32.ofNat (2 * n)) (own_tab (own_u16 f) (2 * n)) (.int (0 : Int32))) (hn : n ≤ 16) (hi : i < n) (hc : own_ch (f i)) :
    MetFree l (⟨"java/lang/StringUTF16", "charAt", "([BI)C"⟩ : MethodName) (head1 (Jvm.Cond.code (⟨"java/lang/StringUTF16", "charAt", "([BI)C"⟩ : MethodName) jdk_52_method_83_code 2 (some .char) :: ws) ({ frames := 3, cells := 0, slots := 0, locals := 40 } : Room)) (fun α υ => α = #[(.ref db), (.int (Int32.ofNat i))] ∧ Z.Warmed39 υ.vm ∧ υ.heap = h0) (fun _ _ _ _ _ => True) (fun _ υ ω υ' => ∃ v L, ω = .returned v ∧ Q18 Z db i n kb f zc fm h0 n0 v υ'.heap L ∧ FrameEnd υ ω υ' L ({ frames := 3, cells := 0, slots := 0, locals := 40 } : Room).cells ({ frames := 3, cells := 0, slots := 0, locals := 40 } : Room).slots) := by
  refine MetFree.of_bodySF (plainFor_of_name pn_java_lang_StringUTF16) hisR ?_
  intro p e s m args below meth c s₁ Bd hml0 hP hK
  obtain ⟨rfl, hZ, hh⟩ := hP
  have hx := Bd.exec
  have hby := Bd.bytes
  have hml : c.maxLocals = 2 := hml0
  have hown : s.vm.findClass "java/lang/StringUTF16" = some m.cls := findClass_of_methodNamed Bd.named
  have hnm := (name_of_methodNamed Bd.named Bd.method).1
  have X0 : Stand p l e ({ frames := 3, cells := 0, slots := 0, locals := 40 } : Room) s m #[(.ref db), (.int (Int32.ofNat i))] below meth c s₁ [] 0 0 := Stand.of_body Bd
  have e0 : s₁.heap = h0 := by rw [← hh, Bd.state]; rfl
  have N0 := Fr.nil n0
  have pre0 : ∀ τ, Steps p.tables e below (s₁.setTop (mkF m 0 #[.val (.ref db), .val (.int (Int32.ofNat i))] [])) τ → Steps p.tables e below (s₁.setTop (entryFrame m #[(.ref db), (.int (Int32.ofNat i))] 2)) τ := fun τ κ => castTop (ef_18 m db i n zc fm) κ
  have pre1 := fun τ (κ : Steps p.tables e below (s₁.setTop (mkF m 2 #[.val (.ref db), .val (.int (Int32.ofNat i))] [(.ref db), (.int (Int32.ofNat i))])) τ) => pre0 τ (by
    refine XS.iloadN X0.here hx rfl (hb hby d18_0) rfl ?_
    refine XS.aloadN X0.here hx rfl (hb hby d18_1) rfl rfl ?_
    show Steps p.tables e below (s₁.setTop (mkF m 2 #[.val (.ref db), .val (.int (Int32.ofNat i))] [(.ref db), (.int (Int32.ofNat i))])) _
    exact κ)
  obtain ⟨_, _, ⟨T2, L2, k2, n2⟩, -, X2, ⟨Lc2, hQ2, l2, y2, z2⟩, st2⟩ := Jvm.LawKit.callS X0 hx (y := (⟨"java/lang/StringUTF16", "checkIndex", "(I[B)V"⟩ : MethodName)) hown (mvT hZ (hw _ (List.mem_of_getElem? (i := 99) rfl))) (mvT hZ (hw _ (List.mem_of_getElem? (i := 100) rfl))) (mvT hZ (hw _ (List.mem_of_getElem? (i := 57) rfl))) (mvT hZ (hw _ (List.mem_of_getElem? (i := 101) rfl))) (by decide) (backOf (W := 0) (rm19 l Z a0 hw [] i db n kb (own_u16 f) zc fm h0 n0 Z0 O0 U0 Va hn hi) hZ (hw _ (List.mem_of_getElem? (i := 101) rfl)) (hw _ (List.mem_of_getElem? (i := 57) rfl)) (Nat.le_of_ble_eq_true rfl) (Nat.le_of_ble_eq_true rfl)) (g := (mkF m 2 #[.val (.ref db), .val (.int (Int32.ofNat i))] [(.ref db), (.int (Int32.ofNat i))])) rfl (by rw [hml]; rfl) (argsL := [(.int (Int32.ofNat i)), (.ref db)]) (rest := []) (lenOf pd_12 rfl) rfl (by show 2 * 0 + _ ≤ _; exact Nat.le_of_eq rfl) (hb hby d18_2) (fun _ _ => ⟨rfl, e0, (by decide : 0 + 0 ≤ _), (by decide : 0 + 0 ≤ _)⟩)
  dsimp only [Pt.U, Pt.locs, Pt.cells, Pt.slots] at X2 l2 y2 z2 st2 hQ2
  subst l2 y2 z2
  obtain ⟨rfl, Nq2, hh2⟩ := hQ2
  have O0_2 : Old Z n0 T2.heap := by rw [hh2]; exact O0
  have Va_2 : Arv Z T2.heap db kb .byte (Int32.ofNat (2 * n)) (own_tab (own_u16 f) (2 * n)) (.int (0 : Int32)) := by rw [hh2]; exact Va
  have Z2 : n0 ≤ T2.heap.size := by rw [hh2]; exact Z0
  have N2 := Fr.app N0 Nq2
  have pre3 := fun τ (κ : Steps p.tables e below (T2.setTop (mkF m 5 #[.val (.ref db), .val (.int (Int32.ofNat i))] [])) τ) => pre1 τ (st2 _ κ)
  have pre4 := fun τ (κ : Steps p.tables e below (T2.setTop (mkF m 7 #[.val (.ref db), .val (.int (Int32.ofNat i))] [(.int (Int32.ofNat i)), (.ref db)])) τ) => pre3 τ (by
    refine XS.aloadN X2.here hx rfl (hb hby d18_5) rfl rfl ?_
    refine XS.iloadN X2.here hx rfl (hb hby d18_6) rfl ?_
    show Steps p.tables e below (T2.setTop (mkF m 7 #[.val (.ref db), .val (.int (Int32.ofNat i))] [(.int (Int32.ofNat i)), (.ref db)])) _
    exact κ)
  obtain ⟨_, _, ⟨T5, L5, k5, n5⟩, -, X5, ⟨Lc5, hQ5, l5, y5, z5⟩, st5⟩ := Jvm.LawKit.callS X2 hx (y := (⟨"java/lang/StringUTF16", "getChar", "([BI)C"⟩ : MethodName)) hown (mvT hZ (hw _ (List.mem_of_getElem? (i := 81) rfl))) (mvT hZ (hw _ (List.mem_of_getElem? (i := 82) rfl))) (mvT hZ (hw _ (List.mem_of_getElem? (i := 57) rfl))) (mvT hZ (hw _ (List.mem_of_getElem? (i := 83) rfl))) (by decide) (backOf (W := 0) (rm15 l Z a0 hw [] db i n kb f zc fm T2.heap n0 Z2 O0_2 U0 Va_2 hn hi hc) hZ (hw _ (List.mem_of_getElem? (i := 83) rfl)) (hw _ (List.mem_of_getElem? (i := 57) rfl)) (Nat.le_of_ble_eq_true rfl) (Nat.le_of_ble_eq_true rfl)) (g := (mkF m 7 #[.val (.ref db), .val (.int (Int32.ofNat i))] [(.int (Int32.ofNat i)), (.ref db)])) rfl (by rw [hml]; rfl) (argsL := [(.ref db), (.int (Int32.ofNat i))]) (rest := []) (lenOf pd_5 rfl) rfl (by show 2 * 0 + _ ≤ _; exact Nat.le_of_eq rfl) (hb hby d18_7) (fun _ _ => ⟨rfl, rfl, (by decide : 0 + 0 ≤ _), (by decide : 0 + 0 ≤ _)⟩)
  dsimp only [Pt.U, Pt.locs, Pt.cells, Pt.slots] at X5 l5 y5 z5 st5 hQ5
  subst l5 y5 z5
  obtain ⟨rfl, Nq5, hh5⟩ := hQ5
  have O0_5 : Old Z n0 T5.heap := by rw [hh5]; exact O0_2
  have Va_5 : Arv Z T5.heap db kb .byte (Int32.ofNat (2 * n)) (own_tab (own_u16 f) (2 * n)) (.int (0 : Int32)) := by rw [hh5]; exact Va_2
  have Z5 : n0 ≤ T5.heap.size := by rw [hh5]; exact Z2
  have N5 := Fr.app N2 Nq5
  have pre6 := fun τ (κ : Steps p.tables e below (T5.setTop (mkF m 10 #[.val (.ref db), .val (.int (Int32.ofNat i))] [(.int (f i))])) τ) => pre4 τ (st5 _ κ)
  obtain ⟨fs, hr, hrun, hended, hW, hsame⟩ := X5.leave (v := some (.int (nar .char (f i)))) (fun h => by rw [Bd.returns] at h; cases h)
  refine ⟨_, _, pre6 _ ?_, hrun, hended, _, _, rfl, ?_, ⟨_, rfl⟩, hW, hsame.mono (by decide) (by decide)⟩
  · exact retN X5 hx (t := .char) Bd.returns (by simp) (hb hby d18_10) hr
  · show Q18 Z db i n kb f zc fm h0 n0 _ T5.heap _
    exact ⟨own_narc hc, N5, (hh5.trans hh2)⟩
theorem ef_27 (m : MethodId) (db : Addr) (i : Nat) (n : Nat) (zc : Int32) (fm : Value) : entryFrame m #[(.ref db), (.int (Int32.ofNat i))] 2 = mkF m 0 #[.val (.ref db), .val (.int (Int32.ofNat i))] [] := by first | (simp [entryFrame, mkF, argsToLocals, Value.category]; done) | rfl
def Q27 (Z : State) (db : Addr) (i : Nat) (n : Nat) (kb : ClassId) (f : Nat → Int32) (zc : Int32) (fm : Value) (h0 : Heap) (n0 : Nat) (v : Option Value) (h : Heap) (L : List Loc) : Prop := v = some (.int (f i)) ∧ Fr n0 L ∧ h = h0
set_option maxRecDepth 65536 in
set_option maxHeartbeats 40000000 in
theorem rm27 (l : Launch) (Z : State) (a0 : Array Value) (hw : ∀ d ∈ tables_1, d.before a0 Z = true) (ws : List Jvm.Cond) (db : Addr) (i : Nat) (n : Nat) (kb : ClassId) (f : Nat → Int32) (zc : Int32) (fm : Value) (h0 : Heap) (n0 : Nat) (Z0 : n0 ≤ h0.size) (O0 : Old Z n0 h0) (U0 : own_ST Z zc fm) (Va : Arv Z h0 db kb .byte (Int32.ofNat n) (own_tab (own_l1 f) (n)) (.int (0 : Int32))) (hn : n ≤ 16) (hi : i < n) (hc : own_ch (f i)) (h255 : ¬ (255 : Int32) < f i) :
    MetFree l (⟨"java/lang/StringLatin1", "charAt", "([BI)C"⟩ : MethodName) (head1 (Jvm.Cond.code (⟨"java/lang/StringLatin1", "charAt", "([BI)C"⟩ : MethodName) jdk_43_method_2_code 2 (some .char) :: ws) ({ frames := 2, cells := 0, slots := 0, locals := 27 } : Room)) (fun α υ => α = #[(.ref db), (.int (Int32.ofNat i))] ∧ Z.Warmed39 υ.vm ∧ υ.heap = h0) (fun _ _ _ _ _ => True) (fun _ υ ω υ' => ∃ v L, ω = .returned v ∧ Q27 Z db i n kb f zc fm h0 n0 v υ'.heap L ∧ FrameEnd υ ω υ' L ({ frames := 2, cells := 0, slots := 0, locals := 27 } : Room).cells ({ frames := 2, cells := 0, slots := 0, locals := 27 } : Room).slots) := by
  refine MetFree.of_bodySF (plainFor_of_name pn_java_lang_StringLatin1) hisR ?_
  intro p e s m args below meth c s₁ Bd hml0 hP hK
  obtain ⟨rfl, hZ, hh⟩ := hP
  have hx := Bd.exec
  have hby := Bd.bytes
  have hml : c.maxLocals = 2 := hml0
  have hown : s.vm.findClass "java/lang/StringLatin1" = some m.cls := findClass_of_methodNamed Bd.named
  have hnm := (name_of_methodNamed Bd.named Bd.method).1
  have X0 : Stand p l e ({ frames := 2, cells := 0, slots := 0, locals := 27 } : Room) s m #[(.ref db), (.int (Int32.ofNat i))] below meth c s₁ [] 0 0 := Stand.of_body Bd
  have e0 : s₁.heap = h0 := by rw [← hh, Bd.state]; rfl
  have N0 := Fr.nil n0
  have pre0 : ∀ τ, Steps p.tables e below (s₁.setTop (mkF m 0 #[.val (.ref db), .val (.int (Int32.ofNat i))] [])) τ → Steps p.tables e below (s₁.setTop (entryFrame m #[(.ref db), (.int (Int32.ofNat i))] 2)) τ := fun τ κ => castTop (ef_27 m db i n zc fm) κ
  have pre1 := fun τ (κ : Steps p.tables e below (s₁.setTop (mkF m 2 #[.val (.ref db), .val (.int (Int32.ofNat i))] [(.ref db), (.int (Int32.ofNat i))])) τ) => pre0 τ (by
    refine XS.iloadN X0.here hx rfl (hb hby d27_0) rfl ?_
    refine XS.aloadN X0.here hx rfl (hb hby d27_1) rfl rfl ?_
    show Steps p.tables e below (s₁.setTop (mkF m 2 #[.val (.ref db), .val (.int (Int32.ofNat i))] [(.ref db), (.int (Int32.ofNat i))])) _
    exact κ)
  obtain ⟨cl2, Ar2, -, S2, M2, -, -⟩ := id Va
  have pre3 := fun τ (κ : Steps p.tables e below (s₁.setTop (mkF m 3 #[.val (.ref db), .val (.int (Int32.ofNat i))] [(.int (Int32.ofNat n)), (.int (Int32.ofNat i))])) τ) => pre1 τ (by
    refine X0.arraylength hx (by rw [e0]; exact Ar2.1) (State.isArrayOf_alike hZ.alike Ar2.2.1) (g := (mkF m 2 #[.val (.ref db), .val (.int (Int32.ofNat i))] [(.ref db), (.int (Int32.ofNat i))])) rfl rfl (hb hby d27_2) _ ?_
    rw [len_of S2 M2]
    show Steps p.tables e below (s₁.setTop (mkF m 3 #[.val (.ref db), .val (.int (Int32.ofNat i))] [(.int (Int32.ofNat n)), (.int (Int32.ofNat i))])) _
    exact κ)
  obtain ⟨_, _, ⟨T4, L4, k4, n4⟩, -, X4, ⟨Lc4, hQ4, l4, y4, z4⟩, st4⟩ := Jvm.LawKit.callS X0 hx (y := (⟨"java/lang/String", "checkIndex", "(II)V"⟩ : MethodName)) hown (mvT hZ (hw _ (List.mem_of_getElem? (i := 134) rfl))) (mvT hZ (hw _ (List.mem_of_getElem? (i := 106) rfl))) (mvT hZ (hw _ (List.mem_of_getElem? (i := 3) rfl))) (mvT hZ (hw _ (List.mem_of_getElem? (i := 107) rfl))) (by decide) (backOf (W := 0) (rm21 l Z a0 hw [] i n zc fm h0 n0 Z0 O0 U0 hn hi) hZ (hw _ (List.mem_of_getElem? (i := 107) rfl)) (hw _ (List.mem_of_getElem? (i := 3) rfl)) (Nat.le_of_ble_eq_true rfl) (Nat.le_of_ble_eq_true rfl)) (g := (mkF m 3 #[.val (.ref db), .val (.int (Int32.ofNat i))] [(.int (Int32.ofNat n)), (.int (Int32.ofNat i))])) rfl (by rw [hml]; rfl) (argsL := [(.int (Int32.ofNat i)), (.int (Int32.ofNat n))]) (rest := []) (lenOf pd_11 rfl) rfl (by show 2 * 0 + _ ≤ _; exact Nat.le_of_eq rfl) (hb hby d27_3) (fun _ _ => ⟨rfl, e0, (by decide : 0 + 0 ≤ _), (by decide : 0 + 0 ≤ _)⟩)
  dsimp only [Pt.U, Pt.locs, Pt.cells, Pt.slots] at X4 l4 y4 z4 st4 hQ4
  subst l4 y4 z4
  obtain ⟨rfl, Nq4, hh4⟩ := hQ4
  have O0_4 : Old Z n0 T4.heap := by rw [hh4]; exact O0
  have Va_4 : Arv Z T4.heap db kb .byte (Int32.ofNat n) (own_tab (own_l1 f) (n)) (.int (0 : Int32)) := by rw [hh4]; exact Va
  have Z4 : n0 ≤ T4.heap.size := by rw [hh4]; exact Z0
  have N4 := Fr.app N0 Nq4
  have pre5 := fun τ (κ : Steps p.tables e below (T4.setTop (mkF m 6 #[.val (.ref db), .val (.int (Int32.ofNat i))] [])) τ) => pre3 τ (st4 _ κ)
  have pre6 := fun τ (κ : Steps p.tables e below (T4.setTop (mkF m 8 #[.val (.ref db), .val (.int (Int32.ofNat i))] [(.int (Int32.ofNat i)), (.ref db)])) τ) => pre5 τ (by
    refine XS.aloadN X4.here hx rfl (hb hby d27_6) rfl rfl ?_
    refine XS.iloadN X4.here hx rfl (hb hby d27_7) rfl ?_
    show Steps p.tables e below (T4.setTop (mkF m 8 #[.val (.ref db), .val (.int (Int32.ofNat i))] [(.int (Int32.ofNat i)), (.ref db)])) _
    exact κ)
  obtain ⟨cl7, Ar7, -, S7, M7, H7, -⟩ := id Va_4
  have in7 : ¬ ((Int32.ofNat i) < 0 ∨ cl7.slots.size ≤ ((Int32.ofNat i)).toNatClampNeg) := inb_of S7 ⟨own_nn (by omega), (own_ltN (by omega) (by omega)).mpr (by omega)⟩
  have at7 : cl7.slots[((Int32.ofNat i)).toNatClampNeg]? = some (.int (own_lo (f i))) := H7.at in7 (by rw [own_clamp (by omega), own_tab_get (by omega)]; rfl)
  have pre8 := fun τ (κ : Steps p.tables e below (T4.setTop (mkF m 14 #[.val (.ref db), .val (.int (Int32.ofNat i))] [(.int (((own_lo (f i)) &&& (255 : Int32)).toUInt32.toUInt16.toUInt32.toInt32))])) τ) => pre6 τ (by
    refine X4.baloadBytes hx (j := (Int32.ofNat i)) (v := (.int (own_lo (f i)))) Ar7.1 (State.isArrayOf_alike hZ.alike Ar7.2.1) Ar7.2.2 in7 at7 (g := (mkF m 8 #[.val (.ref db), .val (.int (Int32.ofNat i))] [(.int (Int32.ofNat i)), (.ref db)])) rfl rfl (hb hby d27_8) _ ?_
    show Steps p.tables e below (T4.setTop (mkF m 9 #[.val (.ref db), .val (.int (Int32.ofNat i))] [(.int (own_lo (f i)))])) _
    refine XS.sipush X4.here hx rfl (hb hby d27_9) ?_
    refine XS.iand X4.here hx rfl (hb hby d27_12) rfl ?_
    show Steps p.tables e below (T4.setTop (mkF m 13 #[.val (.ref db), .val (.int (Int32.ofNat i))] [(.int ((own_lo (f i)) &&& (255 : Int32)))])) _
    refine XS.i2c X4.here hx rfl (hb hby d27_13) rfl ?_
    show Steps p.tables e below (T4.setTop (mkF m 14 #[.val (.ref db), .val (.int (Int32.ofNat i))] [(.int (((own_lo (f i)) &&& (255 : Int32)).toUInt32.toUInt16.toUInt32.toInt32))])) _
    exact κ)
  rw [show (((own_lo (f i)) &&& (255 : Int32)).toUInt32.toUInt16.toUInt32.toInt32) = (f i) from (own_l1c hc.1 (own_255.mp h255))] at pre8
  obtain ⟨fs, hr, hrun, hended, hW, hsame⟩ := X4.leave (v := some (.int (nar .char (f i)))) (fun h => by rw [Bd.returns] at h; cases h)
  refine ⟨_, _, pre8 _ ?_, hrun, hended, _, _, rfl, ?_, ⟨_, rfl⟩, hW, hsame.mono (by decide) (by decide)⟩
  · exact retN X4 hx (t := .char) Bd.returns (by simp) (hb hby d27_14) hr
  · show Q27 Z db i n kb f zc fm h0 n0 _ T4.heap _
    exact ⟨own_narc hc, N4, hh4⟩
theorem ef_16 (m : MethodId) (sa : Addr) (i : Nat) (n : Nat) (zc : Int32) (fm : Value) : entryFrame m #[(.ref sa), (.int (Int32.ofNat i))] 2 = mkF m 0 #[.val (.ref sa), .val (.int (Int32.ofNat i))] [] := by first | (simp [entryFrame, mkF, argsToLocals, Value.category]; done) | rfl
def Q16 (Z : State) (sa : Addr) (i : Nat) (n : Nat) (f : Nat → Int32) (zc : Int32) (fm : Value) (h0 : Heap) (n0 : Nat) (v : Option Value) (h : Heap) (L : List Loc) : Prop := v = some (.int (f i)) ∧ Fr n0 L ∧ h = h0
set_option maxRecDepth 65536 in
set_option maxHeartbeats 40000000 in
theorem rm16 (l : Launch) (Z : State) (a0 : Array Value) (hw : ∀ d ∈ tables_1, d.before a0 Z = true) (ws : List Jvm.Cond) (sa : Addr) (i : Nat) (n : Nat) (f : Nat → Int32) (zc : Int32) (fm : Value) (h0 : Heap) (n0 : Nat) (Z0 : n0 ≤ h0.size) (O0 : Old Z n0 h0) (U0 : own_ST Z zc fm) (P0 : own_STR Z h0 sa f n) (hn : n ≤ 16) (hi : i < n) (hc : own_ch (f i)) :
    MetFree l (⟨"java/lang/String", "charAt", "(I)C"⟩ : MethodName) (head1 (Jvm.Cond.code (⟨"java/lang/String", "charAt", "(I)C"⟩ : MethodName) jdk_42_method_56_code 2 (some .char) :: ws) ({ frames := 4, cells := 0, slots := 0, locals := 53 } : Room)) (fun α υ => α = #[(.ref sa), (.int (Int32.ofNat i))] ∧ Z.Warmed39 υ.vm ∧ υ.heap = h0) (fun _ _ _ _ _ => True) (fun _ υ ω υ' => ∃ v L, ω = .returned v ∧ Q16 Z sa i n f zc fm h0 n0 v υ'.heap L ∧ FrameEnd υ ω υ' L ({ frames := 4, cells := 0, slots := 0, locals := 53 } : Room).cells ({ frames := 4, cells := 0, slots := 0, locals := 53 } : Room).slots) := by
  refine MetFree.of_bodySF (plainFor_of_name pn_java_lang_String) hisR ?_
  intro p e s m args below meth c s₁ Bd hml0 hP hK
  obtain ⟨rfl, hZ, hh⟩ := hP
  have hx := Bd.exec
  have hby := Bd.bytes
  have hml : c.maxLocals = 2 := hml0
  have hown : s.vm.findClass "java/lang/String" = some m.cls := findClass_of_methodNamed Bd.named
  have hnm := (name_of_methodNamed Bd.named Bd.method).1
  have X0 : Stand p l e ({ frames := 4, cells := 0, slots := 0, locals := 53 } : Room) s m #[(.ref sa), (.int (Int32.ofNat i))] below meth c s₁ [] 0 0 := Stand.of_body Bd
  have e0 : s₁.heap = h0 := by rw [← hh, Bd.state]; rfl
  have N0 := Fr.nil n0
  have pre0 : ∀ τ, Steps p.tables e below (s₁.setTop (mkF m 0 #[.val (.ref sa), .val (.int (Int32.ofNat i))] [])) τ → Steps p.tables e below (s₁.setTop (entryFrame m #[(.ref sa), (.int (Int32.ofNat i))] 2)) τ := fun τ κ => castTop (ef_16 m sa i n zc fm) κ
  obtain ⟨tb, cd, E_s, Fv, Fc, kb, ⟨rfl, h2, Va⟩ | ⟨rfl, h2, Va⟩⟩ := P0
  · have pre1 := fun τ (κ : Steps p.tables e below (s₁.setTop (mkF m 1 #[.val (.ref sa), .val (.int (Int32.ofNat i))] [(.ref sa)])) τ) => pre0 τ (by
      refine XS.aloadN X0.here hx rfl (hb hby d16_0) rfl rfl ?_
      show Steps p.tables e below (s₁.setTop (mkF m 1 #[.val (.ref sa), .val (.int (Int32.ofNat i))] [(.ref sa)])) _
      exact κ)
    obtain ⟨cq2, kq2, q2a, q2b, q2c⟩ := isOf hZ e0 E_s
    obtain ⟨_, _, ⟨T2, L2, k2, n2⟩, -, X2, ⟨Lc2, hQ2, l2, y2, z2⟩, st2⟩ := X0.virtualBack hx (y := (⟨"java/lang/String", "isLatin1", "()Z"⟩ : MethodName)) (z := (⟨"java/lang/String", "isLatin1", "()Z"⟩ : MethodName)) hown (mvT hZ (hw _ (List.mem_of_getElem? (i := 91) rfl))) (mvT hZ (hw _ (List.mem_of_getElem? (i := 92) rfl))) (notFace_of_selects (args := #[]) (mvT hZ (hw _ (List.mem_of_getElem? (i := 94) rfl)))) (mvT hZ (hw _ (List.mem_of_getElem? (i := 94) rfl))) (mvT hZ (hw _ (List.mem_of_getElem? (i := 93) rfl))) (by decide) (backOf (W := 0) (rm17 l Z a0 hw [] sa (0 : Int32) zc fm h0 n0 Z0 O0 U0 Fc) hZ (hw _ (List.mem_of_getElem? (i := 95) rfl)) (hw _ (List.mem_of_getElem? (i := 3) rfl)) (Nat.le_of_ble_eq_true rfl) (Nat.le_of_ble_eq_true rfl)) q2a q2c (g := (mkF m 1 #[.val (.ref sa), .val (.int (Int32.ofNat i))] [(.ref sa)])) rfl (by rw [hml]; rfl) (Steps.refl _) (argsL := []) (rest := []) (lenOf pd_13 rfl) rfl (by show 2 * 0 + _ ≤ _; exact Nat.le_of_eq rfl) (hb hby d16_1) (fun _ _ => ⟨rfl, e0, (by decide : 0 + 0 ≤ _), (by decide : 0 + 0 ≤ _)⟩)
    dsimp only [Pt.U, Pt.locs, Pt.cells, Pt.slots] at X2 l2 y2 z2 st2 hQ2
    subst l2 y2 z2
    obtain ⟨rfl, Nq2, hh2⟩ := hQ2
    have O0_2 : Old Z n0 T2.heap := by rw [hh2]; exact O0
    have E_s_2 : Exa Z T2.heap sa "java/lang/String" := by rw [hh2]; exact E_s
    have Fv_2 : Fld Z T2.heap sa "java/lang/String" "value" "[B" (.ref tb) := by rw [hh2]; exact Fv
    have Fc_2 : Fld Z T2.heap sa "java/lang/String" "coder" "B" (.int (0 : Int32)) := by rw [hh2]; exact Fc
    have Va_2 : Arv Z T2.heap tb kb .byte (Int32.ofNat n) (own_tab (own_l1 f) (n)) (.int (0 : Int32)) := by rw [hh2]; exact Va
    have Z2 : n0 ≤ T2.heap.size := by rw [hh2]; exact Z0
    have N2 := Fr.app N0 Nq2
    have pre3 := fun τ (κ : Steps p.tables e below (T2.setTop (mkF m 4 #[.val (.ref sa), .val (.int (Int32.ofNat i))] [(.int (if (0 : Int32) = 0 then 1 else 0))])) τ) => pre1 τ (st2.trans κ)
    have pre4 := fun τ (κ : Steps p.tables e below (T2.setTop (mkF m 8 #[.val (.ref sa), .val (.int (Int32.ofNat i))] [(.ref sa)])) τ) => pre3 τ (by
      refine XS.ifNo X2.here hx rfl (hb hby d16_4) rfl ((if0 _ _).trans (feq (by decide)).1) ?_
      show Steps p.tables e below (T2.setTop (mkF m 7 #[.val (.ref sa), .val (.int (Int32.ofNat i))] [])) _
      refine XS.aloadN X2.here hx rfl (hb hby d16_7) rfl rfl ?_
      show Steps p.tables e below (T2.setTop (mkF m 8 #[.val (.ref sa), .val (.int (Int32.ofNat i))] [(.ref sa)])) _
      exact κ)
    obtain ⟨T5, X5, e5, st5⟩ := getF X2 hx hZ hown (host := "") (Or.inl (hw _ (List.mem_of_getElem? (i := 20) rfl))) Via.refl rfl Fv_2 (g := (mkF m 8 #[.val (.ref sa), .val (.int (Int32.ofNat i))] [(.ref sa)])) rfl rfl (hb hby d16_8)
    have pre6 := fun τ (κ : Steps p.tables e below (T5.setTop (mkF m 11 #[.val (.ref sa), .val (.int (Int32.ofNat i))] [(.ref tb)])) τ) => pre4 τ (st5 _ κ)
    have pre7 := fun τ (κ : Steps p.tables e below (T5.setTop (mkF m 12 #[.val (.ref sa), .val (.int (Int32.ofNat i))] [(.int (Int32.ofNat i)), (.ref tb)])) τ) => pre6 τ (by
      refine XS.iloadN X5.here hx rfl (hb hby d16_11) rfl ?_
      show Steps p.tables e below (T5.setTop (mkF m 12 #[.val (.ref sa), .val (.int (Int32.ofNat i))] [(.int (Int32.ofNat i)), (.ref tb)])) _
      exact κ)
    obtain ⟨_, _, ⟨T8, L8, k8, n8⟩, -, X8, ⟨Lc8, hQ8, l8, y8, z8⟩, st8⟩ := Jvm.LawKit.callS X5 hx (y := (⟨"java/lang/StringLatin1", "charAt", "([BI)C"⟩ : MethodName)) hown (mvT hZ (hw _ (List.mem_of_getElem? (i := 130) rfl))) (mvT hZ (hw _ (List.mem_of_getElem? (i := 131) rfl))) (mvT hZ (hw _ (List.mem_of_getElem? (i := 132) rfl))) (mvT hZ (hw _ (List.mem_of_getElem? (i := 133) rfl))) (by decide) (backOf (W := 0) (rm27 l Z a0 hw [] tb i n kb f zc fm T2.heap n0 Z2 O0_2 U0 Va_2 hn hi hc (h2 i hi)) hZ (hw _ (List.mem_of_getElem? (i := 133) rfl)) (hw _ (List.mem_of_getElem? (i := 132) rfl)) (Nat.le_of_ble_eq_true rfl) (Nat.le_of_ble_eq_true rfl)) (g := (mkF m 12 #[.val (.ref sa), .val (.int (Int32.ofNat i))] [(.int (Int32.ofNat i)), (.ref tb)])) rfl (by rw [hml]; rfl) (argsL := [(.ref tb), (.int (Int32.ofNat i))]) (rest := []) (lenOf pd_5 rfl) rfl (by show 2 * 0 + _ ≤ _; exact Nat.le_of_eq rfl) (hb hby d16_12) (fun _ _ => ⟨rfl, e5, (by decide : 0 + 0 ≤ _), (by decide : 0 + 0 ≤ _)⟩)
    dsimp only [Pt.U, Pt.locs, Pt.cells, Pt.slots] at X8 l8 y8 z8 st8 hQ8
    subst l8 y8 z8
    obtain ⟨rfl, Nq8, hh8⟩ := hQ8
    have O0_8 : Old Z n0 T8.heap := by rw [hh8]; exact O0_2
    have E_s_8 : Exa Z T8.heap sa "java/lang/String" := by rw [hh8]; exact E_s_2
    have Fv_8 : Fld Z T8.heap sa "java/lang/String" "value" "[B" (.ref tb) := by rw [hh8]; exact Fv_2
    have Fc_8 : Fld Z T8.heap sa "java/lang/String" "coder" "B" (.int (0 : Int32)) := by rw [hh8]; exact Fc_2
    have Va_8 : Arv Z T8.heap tb kb .byte (Int32.ofNat n) (own_tab (own_l1 f) (n)) (.int (0 : Int32)) := by rw [hh8]; exact Va_2
    have Z8 : n0 ≤ T8.heap.size := by rw [hh8]; exact Z2
    have N8 := Fr.app N2 Nq8
    have pre9 := fun τ (κ : Steps p.tables e below (T8.setTop (mkF m 15 #[.val (.ref sa), .val (.int (Int32.ofNat i))] [(.int (f i))])) τ) => pre7 τ (st8 _ κ)
    obtain ⟨fs, hr, hrun, hended, hW, hsame⟩ := X8.leave (v := some (.int (nar .char (f i)))) (fun h => by rw [Bd.returns] at h; cases h)
    refine ⟨_, _, pre9 _ ?_, hrun, hended, _, _, rfl, ?_, ⟨_, rfl⟩, hW, hsame.mono (by decide) (by decide)⟩
    · exact retN X8 hx (t := .char) Bd.returns (by simp) (hb hby d16_15) hr
    · show Q16 Z sa i n f zc fm h0 n0 _ T8.heap _
      exact ⟨own_narc hc, N8, (hh8.trans hh2)⟩
  · have pre10 := fun τ (κ : Steps p.tables e below (s₁.setTop (mkF m 1 #[.val (.ref sa), .val (.int (Int32.ofNat i))] [(.ref sa)])) τ) => pre0 τ (by
      refine XS.aloadN X0.here hx rfl (hb hby d16_0) rfl rfl ?_
      show Steps p.tables e below (s₁.setTop (mkF m 1 #[.val (.ref sa), .val (.int (Int32.ofNat i))] [(.ref sa)])) _
      exact κ)
    obtain ⟨cq11, kq11, q11a, q11b, q11c⟩ := isOf hZ e0 E_s
    obtain ⟨_, _, ⟨T11, L11, k11, n11⟩, -, X11, ⟨Lc11, hQ11, l11, y11, z11⟩, st11⟩ := X0.virtualBack hx (y := (⟨"java/lang/String", "isLatin1", "()Z"⟩ : MethodName)) (z := (⟨"java/lang/String", "isLatin1", "()Z"⟩ : MethodName)) hown (mvT hZ (hw _ (List.mem_of_getElem? (i := 91) rfl))) (mvT hZ (hw _ (List.mem_of_getElem? (i := 92) rfl))) (notFace_of_selects (args := #[]) (mvT hZ (hw _ (List.mem_of_getElem? (i := 94) rfl)))) (mvT hZ (hw _ (List.mem_of_getElem? (i := 94) rfl))) (mvT hZ (hw _ (List.mem_of_getElem? (i := 93) rfl))) (by decide) (backOf (W := 0) (rm17 l Z a0 hw [] sa (1 : Int32) zc fm h0 n0 Z0 O0 U0 Fc) hZ (hw _ (List.mem_of_getElem? (i := 95) rfl)) (hw _ (List.mem_of_getElem? (i := 3) rfl)) (Nat.le_of_ble_eq_true rfl) (Nat.le_of_ble_eq_true rfl)) q11a q11c (g := (mkF m 1 #[.val (.ref sa), .val (.int (Int32.ofNat i))] [(.ref sa)])) rfl (by rw [hml]; rfl) (Steps.refl _) (argsL := []) (rest := []) (lenOf pd_13 rfl) rfl (by show 2 * 0 + _ ≤ _; exact Nat.le_of_eq rfl) (hb hby d16_1) (fun _ _ => ⟨rfl, e0, (by decide : 0 + 0 ≤ _), (by decide : 0 + 0 ≤ _)⟩)
    dsimp only [Pt.U, Pt.locs, Pt.cells, Pt.slots] at X11 l11 y11 z11 st11 hQ11
    subst l11 y11 z11
    obtain ⟨rfl, Nq11, hh11⟩ := hQ11
    have O0_11 : Old Z n0 T11.heap := by rw [hh11]; exact O0
    have E_s_11 : Exa Z T11.heap sa "java/lang/String" := by rw [hh11]; exact E_s
    have Fv_11 : Fld Z T11.heap sa "java/lang/String" "value" "[B" (.ref tb) := by rw [hh11]; exact Fv
    have Fc_11 : Fld Z T11.heap sa "java/lang/String" "coder" "B" (.int (1 : Int32)) := by rw [hh11]; exact Fc
    have Va_11 : Arv Z T11.heap tb kb .byte (Int32.ofNat (2 * n)) (own_tab (own_u16 f) (2 * n)) (.int (0 : Int32)) := by rw [hh11]; exact Va
    have Z11 : n0 ≤ T11.heap.size := by rw [hh11]; exact Z0
    have N11 := Fr.app N0 Nq11
    have pre12 := fun τ (κ : Steps p.tables e below (T11.setTop (mkF m 4 #[.val (.ref sa), .val (.int (Int32.ofNat i))] [(.int (if (1 : Int32) = 0 then 1 else 0))])) τ) => pre10 τ (st11.trans κ)
    have pre13 := fun τ (κ : Steps p.tables e below (T11.setTop (mkF m 17 #[.val (.ref sa), .val (.int (Int32.ofNat i))] [(.ref sa)])) τ) => pre12 τ (by
      refine XS.ifYes X11.here hx rfl (pc0 := 4) (pc' := 16) rfl (hb hby d16_4) rfl ((if0 _ _).trans (teq (by decide)).1) (by decide) (by decide) ?_
      show Steps p.tables e below (T11.setTop (mkF m 16 #[.val (.ref sa), .val (.int (Int32.ofNat i))] [])) _
      refine XS.aloadN X11.here hx rfl (hb hby d16_16) rfl rfl ?_
      show Steps p.tables e below (T11.setTop (mkF m 17 #[.val (.ref sa), .val (.int (Int32.ofNat i))] [(.ref sa)])) _
      exact κ)
    obtain ⟨T14, X14, e14, st14⟩ := getF X11 hx hZ hown (host := "") (Or.inl (hw _ (List.mem_of_getElem? (i := 20) rfl))) Via.refl rfl Fv_11 (g := (mkF m 17 #[.val (.ref sa), .val (.int (Int32.ofNat i))] [(.ref sa)])) rfl rfl (hb hby d16_17)
    have pre15 := fun τ (κ : Steps p.tables e below (T14.setTop (mkF m 20 #[.val (.ref sa), .val (.int (Int32.ofNat i))] [(.ref tb)])) τ) => pre13 τ (st14 _ κ)
    have pre16 := fun τ (κ : Steps p.tables e below (T14.setTop (mkF m 21 #[.val (.ref sa), .val (.int (Int32.ofNat i))] [(.int (Int32.ofNat i)), (.ref tb)])) τ) => pre15 τ (by
      refine XS.iloadN X14.here hx rfl (hb hby d16_20) rfl ?_
      show Steps p.tables e below (T14.setTop (mkF m 21 #[.val (.ref sa), .val (.int (Int32.ofNat i))] [(.int (Int32.ofNat i)), (.ref tb)])) _
      exact κ)
    obtain ⟨_, _, ⟨T17, L17, k17, n17⟩, -, X17, ⟨Lc17, hQ17, l17, y17, z17⟩, st17⟩ := Jvm.LawKit.callS X14 hx (y := (⟨"java/lang/StringUTF16", "charAt", "([BI)C"⟩ : MethodName)) hown (mvT hZ (hw _ (List.mem_of_getElem? (i := 96) rfl))) (mvT hZ (hw _ (List.mem_of_getElem? (i := 97) rfl))) (mvT hZ (hw _ (List.mem_of_getElem? (i := 57) rfl))) (mvT hZ (hw _ (List.mem_of_getElem? (i := 98) rfl))) (by decide) (backOf (W := 0) (rm18 l Z a0 hw [] tb i n kb f zc fm T11.heap n0 Z11 O0_11 U0 Va_11 hn hi hc) hZ (hw _ (List.mem_of_getElem? (i := 98) rfl)) (hw _ (List.mem_of_getElem? (i := 57) rfl)) (Nat.le_of_ble_eq_true rfl) (Nat.le_of_ble_eq_true rfl)) (g := (mkF m 21 #[.val (.ref sa), .val (.int (Int32.ofNat i))] [(.int (Int32.ofNat i)), (.ref tb)])) rfl (by rw [hml]; rfl) (argsL := [(.ref tb), (.int (Int32.ofNat i))]) (rest := []) (lenOf pd_5 rfl) rfl (by show 2 * 0 + _ ≤ _; exact Nat.le_of_eq rfl) (hb hby d16_21) (fun _ _ => ⟨rfl, e14, (by decide : 0 + 0 ≤ _), (by decide : 0 + 0 ≤ _)⟩)
    dsimp only [Pt.U, Pt.locs, Pt.cells, Pt.slots] at X17 l17 y17 z17 st17 hQ17
    subst l17 y17 z17
    obtain ⟨rfl, Nq17, hh17⟩ := hQ17
    have O0_17 : Old Z n0 T17.heap := by rw [hh17]; exact O0_11
    have E_s_17 : Exa Z T17.heap sa "java/lang/String" := by rw [hh17]; exact E_s_11
    have Fv_17 : Fld Z T17.heap sa "java/lang/String" "value" "[B" (.ref tb) := by rw [hh17]; exact Fv_11
    have Fc_17 : Fld Z T17.heap sa "java/lang/String" "coder" "B" (.int (1 : Int32)) := by rw [hh17]; exact Fc_11
    have Va_17 : Arv Z T17.heap tb kb .byte (Int32.ofNat (2 * n)) (own_tab (own_u16 f) (2 * n)) (.int (0 : Int32)) := by rw [hh17]; exact Va_11
    have Z17 : n0 ≤ T17.heap.size := by rw [hh17]; exact Z11
    have N17 := Fr.app N11 Nq17
    have pre18 := fun τ (κ : Steps p.tables e below (T17.setTop (mkF m 24 #[.val (.ref sa), .val (.int (Int32.ofNat i))] [(.int (f i))])) τ) => pre16 τ (st17 _ κ)
    obtain ⟨fs, hr, hrun, hended, hW, hsame⟩ := X17.leave (v := some (.int (nar .char (f i)))) (fun h => by rw [Bd.returns] at h; cases h)
    refine ⟨_, _, pre18 _ ?_, hrun, hended, _, _, rfl, ?_, ⟨_, rfl⟩, hW, hsame.mono (by decide) (by decide)⟩
    · exact retN X17 hx (t := .char) Bd.returns (by simp) (hb hby d16_24) hr
    · show Q16 Z sa i n f zc fm h0 n0 _ T17.heap _
      exact ⟨own_narc hc, N17, (hh17.trans hh11)⟩
theorem ef_2e (m : MethodId) (sa : Addr) (ca : Addr) : entryFrame m #[(.ref sa), (.ref ca), (.int (0 : Int32)), (.int (0 : Int32)), .null] 6 = mkF m 0 #[.val (.ref sa), .val (.ref ca), .val (.int (0 : Int32)), .val (.int (0 : Int32)), .val .null, .unset] [] := by first | (simp [entryFrame, mkF, argsToLocals, Value.category]; done) | rfl
def Q2e (Z : State) (sa : Addr) (ca : Addr) (f : Nat → Int32) (h0 : Heap) (n0 : Nat) (v : Option Value) (h : Heap) (L : List Loc) : Prop := v = none ∧ Fr n0 L ∧ Keep h0 h [sa] ∧ own_STR Z h sa f 0
set_option maxRecDepth 65536 in
set_option maxHeartbeats 40000000 in
theorem rm2e (l : Launch) (Z : State) (a0 : Array Value) (hw : ∀ d ∈ tables_1, d.before a0 Z = true) (ws : List Jvm.Cond) (sa : Addr) (ca : Addr) (f : Nat → Int32) (h0 : Heap) (n0 : Nat) (Z0 : n0 ≤ h0.size) (E_s : Exa Z h0 sa "java/lang/String") (Fv : Fld Z h0 sa "java/lang/String" "value" "[B" .null) (Fc : Fld Z h0 sa "java/lang/String" "coder" "B" (.int (0 : Int32))) (gs : n0 ≤ sa) :
    MetFree l (⟨"java/lang/String", "<init>", "([CIILjava/lang/Void;)V"⟩ : MethodName) (head1 (Jvm.Cond.code (⟨"java/lang/String", "<init>", "([CIILjava/lang/Void;)V"⟩ : MethodName) jdk_42_method_149_code 6 none :: ws) ({ frames := 1, cells := 2, slots := 4, locals := 12 } : Room)) (fun α υ => α = #[(.ref sa), (.ref ca), (.int (0 : Int32)), (.int (0 : Int32)), .null] ∧ Z.Warmed39 υ.vm ∧ υ.heap = h0 ∧ CHv Z consts_1 υ.vm h0) (fun _ _ _ _ _ => True) (fun _ υ ω υ' => ∃ v L, ω = .returned v ∧ Q2e Z sa ca f h0 n0 v υ'.heap L ∧ CHr Z consts_1 υ.vm υ.heap υ'.vm υ'.heap ∧ ReturnedEndW υ ω υ' L ({ frames := 1, cells := 2, slots := 4, locals := 12 } : Room).cells ({ frames := 1, cells := 2, slots := 4, locals := 12 } : Room).slots) := by
  refine MetFree.of_bodySF (plainFor_of_name pn_java_lang_String) hisR ?_
  intro p e s m args below meth c s₁ Bd hml0 hP hK
  obtain ⟨rfl, hZ, hh, hC0⟩ := hP
  have hx := Bd.exec
  have hby := Bd.bytes
  have hml : c.maxLocals = 6 := hml0
  have hown : s.vm.findClass "java/lang/String" = some m.cls := findClass_of_methodNamed Bd.named
  have hnm := (name_of_methodNamed Bd.named Bd.method).1
  have X0 : Stand p l e ({ frames := 1, cells := 2, slots := 4, locals := 12 } : Room) s m #[(.ref sa), (.ref ca), (.int (0 : Int32)), (.int (0 : Int32)), .null] below meth c s₁ [] 0 0 := Stand.of_body Bd
  have e0 : s₁.heap = h0 := by rw [← hh, Bd.state]; rfl
  have N0 := Fr.nil n0
  have pre0 : ∀ τ, Steps p.tables e below (s₁.setTop (mkF m 0 #[.val (.ref sa), .val (.ref ca), .val (.int (0 : Int32)), .val (.int (0 : Int32)), .val .null, .unset] [])) τ → Steps p.tables e below (s₁.setTop (entryFrame m #[(.ref sa), (.ref ca), (.int (0 : Int32)), (.int (0 : Int32)), .null] 6)) τ := fun τ κ => castTop (ef_2e m sa ca) κ
  have hS0 : s.Since s.vm 0 := (State.WarmedH.refl s).since 0
  have hks : 0 ≤ h0.size := Nat.zero_le _
  have hEL := own_EL hw
  have Sf0 : Safe Z consts_1 s.vm h0 sa := own_safe hZ.alike E_s Fv
  have Kp0 : Keep h0 h0 [sa] := Keep.refl _ _
  have pre1 := fun τ (κ : Steps p.tables e below (s₁.setTop (mkF m 1 #[.val (.ref sa), .val (.ref ca), .val (.int (0 : Int32)), .val (.int (0 : Int32)), .val .null, .unset] [(.ref sa)])) τ) => pre0 τ (by
    refine XS.aloadN X0.here hx rfl (hb hby d2_0) rfl rfl ?_
    show Steps p.tables e below (s₁.setTop (mkF m 1 #[.val (.ref sa), .val (.ref ca), .val (.int (0 : Int32)), .val (.int (0 : Int32)), .val .null, .unset] [(.ref sa)])) _
    exact κ)
  obtain ⟨T2, X2, e2, st2⟩ := initO X0 hx hZ hown (hw _ (List.mem_of_getElem? (i := 11) rfl)) (hw _ (List.mem_of_getElem? (i := 12) rfl)) (hw _ (List.mem_of_getElem? (i := 13) rfl)) e0 (g := (mkF m 1 #[.val (.ref sa), .val (.ref ca), .val (.int (0 : Int32)), .val (.int (0 : Int32)), .val .null, .unset] [(.ref sa)])) rfl (by rw [hml]; rfl) rfl (hb hby d2_1) (by decide) (W := 0) (by show 2 * 0 + _ ≤ _; exact Nat.le_of_eq rfl) (by decide)
  have pre3 := fun τ (κ : Steps p.tables e below (T2.setTop (mkF m 4 #[.val (.ref sa), .val (.ref ca), .val (.int (0 : Int32)), .val (.int (0 : Int32)), .val .null, .unset] [])) τ) => pre1 τ (st2 _ κ)
  have pre4 := fun τ (κ : Steps p.tables e below (T2.setTop (mkF m 9 #[.val (.ref sa), .val (.ref ca), .val (.int (0 : Int32)), .val (.int (0 : Int32)), .val .null, .unset] [(.ref sa)])) τ) => pre3 τ (by
    refine XS.iloadN X2.here hx rfl (hb hby d2_4) rfl ?_
    refine XS.ifNo X2.here hx rfl (hb hby d2_5) rfl ((if0 _ _).trans (teq rfl).2) ?_
    show Steps p.tables e below (T2.setTop (mkF m 8 #[.val (.ref sa), .val (.ref ca), .val (.int (0 : Int32)), .val (.int (0 : Int32)), .val .null, .unset] [])) _
    refine XS.aloadN X2.here hx rfl (hb hby d2_8) rfl rfl ?_
    show Steps p.tables e below (T2.setTop (mkF m 9 #[.val (.ref sa), .val (.ref ca), .val (.int (0 : Int32)), .val (.int (0 : Int32)), .val .null, .unset] [(.ref sa)])) _
    exact κ)
  obtain ⟨li, T5, h5, ks5, eb, kb5, X5, e5, E5, hS5, hks, hZ, hown, A5, Fc5, Fv5, V5, lta5, ltb5, C5, Lit5, Ne5, st5⟩ := ldcCH (s := s) (vm0 := s.vm) X2 hx hZ hown (hw _ (List.mem_of_getElem? (i := 14) rfl)) (own_wS hw) e2 hS0 (Nat.zero_le _) hEL (List.mem_of_getElem? (i := 0) rfl) hC0 (vs := []) (z := 0) (by simp) (by decide) rfl (g := (mkF m 9 #[.val (.ref sa), .val (.ref ca), .val (.int (0 : Int32)), .val (.int (0 : Int32)), .val .null, .unset] [(.ref sa)])) rfl (hb hby d2_9) (n := 0) (by decide) (by decide) (by decide) (by decide)
  have E_s_5 : Exa Z h5 sa "java/lang/String" := E_s.ext E5
  have Fv_5 : Fld Z h5 sa "java/lang/String" "value" "[B" .null := Fv.ext E5
  have Fc_5 : Fld Z h5 sa "java/lang/String" "coder" "B" (.int (0 : Int32)) := Fc.ext E5
  have Kp5 : Keep h0 h5 [sa] := Kp0.ext E5
  have Z5 : n0 ≤ h5.size := Nat.le_trans Z0 E5.1
  have pre6 := fun τ (κ : Steps p.tables e below (T5.setTop (mkF m 11 #[.val (.ref sa), .val (.ref ca), .val (.int (0 : Int32)), .val (.int (0 : Int32)), .val .null, .unset] [(.ref li), (.ref sa)])) τ) => pre4 τ (st5 _ κ)
  have Sf1 := C5.safe E_s.lt Sf0
  obtain ⟨ne_sa_li, ne_sa_eb⟩ := Ne5 sa Sf1
  obtain ⟨T7, X7, e7, st7⟩ := getF X5 hx hZ hown (host := "") (Or.inl (hw _ (List.mem_of_getElem? (i := 20) rfl))) Via.refl e5 Fv5 (g := (mkF m 11 #[.val (.ref sa), .val (.ref ca), .val (.int (0 : Int32)), .val (.int (0 : Int32)), .val .null, .unset] [(.ref li), (.ref sa)])) rfl rfl (hb hby d2_11)
  have pre8 := fun τ (κ : Steps p.tables e below (T7.setTop (mkF m 14 #[.val (.ref sa), .val (.ref ca), .val (.int (0 : Int32)), .val (.int (0 : Int32)), .val .null, .unset] [(.ref eb), (.ref sa)])) τ) => pre6 τ (st7 _ κ)
  obtain ⟨T9, h9, X9, e9, W9, st9⟩ := putF X7 hx hZ hown (host := "") (Or.inl (hw _ (List.mem_of_getElem? (i := 20) rfl))) Via.refl e7 Fv_5 E_s_5 (Or.inr ⟨(hw _ (List.mem_of_getElem? (i := 16) rfl)), rfl, hnm⟩) (hw _ (List.mem_of_getElem? (i := 2) rfl)) (ty := (.array .byte)) (by decide) rfl rfl (g := (mkF m 14 #[.val (.ref sa), .val (.ref ca), .val (.int (0 : Int32)), .val (.int (0 : Int32)), .val .null, .unset] [(.ref eb), (.ref sa)])) rfl rfl (hb hby d2_14)
  have E_s_9 : Exa Z h9 sa "java/lang/String" := E_s_5.wr W9
  have Fc_9 : Fld Z h9 sa "java/lang/String" "coder" "B" (.int (0 : Int32)) := Fc_5.other W9 (Or.inr (slot_ne (Or.inr (hw _ (List.mem_of_getElem? (i := 17) rfl))) (Or.inr (hw _ (List.mem_of_getElem? (i := 16) rfl))) (by decide) (t := .byte) (t' := (.array .byte)) (by decide) (by decide)))
  have A5_9 : Exa Z h9 li "java/lang/String" := A5.wr W9
  have Fc5_9 : Fld Z h9 li "java/lang/String" "coder" "B" (.int (0 : Int32)) := Fc5.other W9 (Or.inl (Ne.symm ne_sa_li))
  have Fv5_9 : Fld Z h9 li "java/lang/String" "value" "[B" (.ref eb) := Fv5.other W9 (Or.inl (Ne.symm ne_sa_li))
  have V5_9 : Arv Z h9 eb kb5 .byte (0 : Int32) [] (.int (0 : Int32)) := V5.other W9 (Ne.symm ne_sa_eb)
  have Kp9 : Keep h0 h9 [sa] := Kp5.wr W9 (Or.inl (List.mem_of_getElem? (i := 0) rfl))
  have N9 := Fr.snoc X9 N0 gs
  have Z9 : n0 ≤ h9.size := Nat.le_trans Z5 (Keep.of_wr W9).1
  have hks : ks5 ≤ h9.size := Nat.le_trans hks (Keep.of_wr W9).1
  have F_value_sa_9 : Fld Z h9 sa "java/lang/String" "value" "[B" (.ref eb) := Fv_5.same W9
  have pre10 := fun τ (κ : Steps p.tables e below (T9.setTop (mkF m 17 #[.val (.ref sa), .val (.ref ca), .val (.int (0 : Int32)), .val (.int (0 : Int32)), .val .null, .unset] [])) τ) => pre8 τ (st9 _ κ)
  have R1 := C5.trans (CHr.wr W9 Sf1 C5.1)
  have Sf2 := Safe.wr W9 Sf1 C5.1 Sf1
  have pre11 := fun τ (κ : Steps p.tables e below (T9.setTop (mkF m 18 #[.val (.ref sa), .val (.ref ca), .val (.int (0 : Int32)), .val (.int (0 : Int32)), .val .null, .unset] [(.ref sa)])) τ) => pre10 τ (by
    refine XS.aloadN X9.here hx rfl (hb hby d2_17) rfl rfl ?_
    show Steps p.tables e below (T9.setTop (mkF m 18 #[.val (.ref sa), .val (.ref ca), .val (.int (0 : Int32)), .val (.int (0 : Int32)), .val .null, .unset] [(.ref sa)])) _
    exact κ)
  have pre12 := fun τ (κ : Steps p.tables e below (T9.setTop (mkF m 20 #[.val (.ref sa), .val (.ref ca), .val (.int (0 : Int32)), .val (.int (0 : Int32)), .val .null, .unset] [(.ref li), (.ref sa)])) τ) => pre11 τ (by
    refine ldcAgain (s := s) (vm0 := T5.vm) X9 hx hZ hown (hw _ (List.mem_of_getElem? (i := 14) rfl)) Lit5 (g := (mkF m 18 #[.val (.ref sa), .val (.ref ca), .val (.int (0 : Int32)), .val (.int (0 : Int32)), .val .null, .unset] [(.ref sa)])) rfl (hb hby d2_18) _ ?_
    show Steps p.tables e below (T9.setTop (mkF m 20 #[.val (.ref sa), .val (.ref ca), .val (.int (0 : Int32)), .val (.int (0 : Int32)), .val .null, .unset] [(.ref li), (.ref sa)])) _
    exact κ)
  obtain ⟨T13, X13, e13, st13⟩ := getF X9 hx hZ hown (host := "") (Or.inl (hw _ (List.mem_of_getElem? (i := 21) rfl))) Via.refl e9 Fc5_9 (g := (mkF m 20 #[.val (.ref sa), .val (.ref ca), .val (.int (0 : Int32)), .val (.int (0 : Int32)), .val .null, .unset] [(.ref li), (.ref sa)])) rfl rfl (hb hby d2_20)
  have pre14 := fun τ (κ : Steps p.tables e below (T13.setTop (mkF m 23 #[.val (.ref sa), .val (.ref ca), .val (.int (0 : Int32)), .val (.int (0 : Int32)), .val .null, .unset] [(.int (0 : Int32)), (.ref sa)])) τ) => pre12 τ (st13 _ κ)
  obtain ⟨T15, h15, X15, e15, W15, st15⟩ := putF X13 hx hZ hown (host := "") (Or.inl (hw _ (List.mem_of_getElem? (i := 21) rfl))) Via.refl e13 Fc_9 E_s_9 (Or.inr ⟨(hw _ (List.mem_of_getElem? (i := 17) rfl)), rfl, hnm⟩) (hw _ (List.mem_of_getElem? (i := 2) rfl)) (ty := .byte) (by decide) rfl rfl (g := (mkF m 23 #[.val (.ref sa), .val (.ref ca), .val (.int (0 : Int32)), .val (.int (0 : Int32)), .val .null, .unset] [(.int (0 : Int32)), (.ref sa)])) rfl rfl (hb hby d2_23)
  have E_s_15 : Exa Z h15 sa "java/lang/String" := E_s_9.wr W15
  have A5_15 : Exa Z h15 li "java/lang/String" := A5_9.wr W15
  have Fc5_15 : Fld Z h15 li "java/lang/String" "coder" "B" (.int (0 : Int32)) := Fc5_9.other W15 (Or.inl (Ne.symm ne_sa_li))
  have Fv5_15 : Fld Z h15 li "java/lang/String" "value" "[B" (.ref eb) := Fv5_9.other W15 (Or.inl (Ne.symm ne_sa_li))
  have V5_15 : Arv Z h15 eb kb5 .byte (0 : Int32) [] (.int (0 : Int32)) := V5_9.other W15 (Ne.symm ne_sa_eb)
  have F_value_sa_15 : Fld Z h15 sa "java/lang/String" "value" "[B" (.ref eb) := F_value_sa_9.other W15 (Or.inr (slot_ne (Or.inr (hw _ (List.mem_of_getElem? (i := 16) rfl))) (Or.inr (hw _ (List.mem_of_getElem? (i := 17) rfl))) (by decide) (t := (.array .byte)) (t' := .byte) (by decide) (by decide)))
  have Kp15 : Keep h0 h15 [sa] := Kp9.wr W15 (Or.inl (List.mem_of_getElem? (i := 0) rfl))
  have N15 := Fr.snoc X15 N9 gs
  have Z15 : n0 ≤ h15.size := Nat.le_trans Z9 (Keep.of_wr W15).1
  have hks : ks5 ≤ h15.size := Nat.le_trans hks (Keep.of_wr W15).1
  have F_coder_sa_15 : Fld Z h15 sa "java/lang/String" "coder" "B" (.int (0 : Int32)) := Fc_9.same W15
  have pre16 := fun τ (κ : Steps p.tables e below (T15.setTop (mkF m 26 #[.val (.ref sa), .val (.ref ca), .val (.int (0 : Int32)), .val (.int (0 : Int32)), .val .null, .unset] [])) τ) => pre14 τ (st15 _ κ)
  have R2 := R1.trans (CHr.wr W15 Sf2 R1.1)
  have R3 := R2.trans (CHv.at (s := s) (vm0 := T5.vm) X15 hZ hEL R2.1)
  obtain ⟨fs, hr, hrun, hended, hEnd⟩ := Stand.leaveW (s := s) (vm₁ := T5.vm) X15 hS5 (by rw [e15]; exact hks) (v := none) (fun _ => rfl)
  refine ⟨_, _, pre16 _ ?_, hrun, hended, _, _, rfl, ?_, ?_, ⟨hEnd.1, hEnd.2.1, hEnd.2.2.1, hEnd.2.2.2.mono (by decide) (by decide)⟩⟩
  · exact X15.returnOut hx Bd.returns (hb hby d2_26) hr
  · show Q2e Z sa ca f h0 n0 _ T15.heap _
    rw [e15]
    exact ⟨rfl, N15, Kp15, eb, 0, E_s_15, F_value_sa_15, F_coder_sa_15, kb5, Or.inl ⟨rfl, fun j hj => absurd hj (by omega), V5_15⟩⟩
  · show CHr Z consts_1 s.vm s.heap T15.vm T15.heap
    rw [hh, e15]
    exact R3
theorem ef_1e (m : MethodId) (sa : Addr) (ca : Addr) : entryFrame m #[(.ref sa), (.ref ca)] 2 = mkF m 0 #[.val (.ref sa), .val (.ref ca)] [] := by first | (simp [entryFrame, mkF, argsToLocals, Value.category]; done) | rfl
def Q1e (Z : State) (sa : Addr) (ca : Addr) (f : Nat → Int32) (kc : ClassId) (h0 : Heap) (n0 : Nat) (v : Option Value) (h : Heap) (L : List Loc) : Prop := v = none ∧ Fr n0 L ∧ Keep h0 h [sa] ∧ own_STR Z h sa f 0
set_option maxRecDepth 65536 in
set_option maxHeartbeats 40000000 in
theorem rm1e (l : Launch) (Z : State) (a0 : Array Value) (hw : ∀ d ∈ tables_1, d.before a0 Z = true) (ws : List Jvm.Cond) (sa : Addr) (ca : Addr) (f : Nat → Int32) (kc : ClassId) (h0 : Heap) (n0 : Nat) (Z0 : n0 ≤ h0.size) (E_s : Exa Z h0 sa "java/lang/String") (Fv : Fld Z h0 sa "java/lang/String" "value" "[B" .null) (Fc : Fld Z h0 sa "java/lang/String" "coder" "B" (.int (0 : Int32))) (gs : n0 ≤ sa) (Vc : Arv Z h0 ca kc .char (0 : Int32) [] (.int (0 : Int32))) (hsc : sa ≠ ca) :
    MetFree l (⟨"java/lang/String", "<init>", "([C)V"⟩ : MethodName) (head1 (Jvm.Cond.code (⟨"java/lang/String", "<init>", "([C)V"⟩ : MethodName) jdk_42_method_3_code 2 none :: ws) ({ frames := 2, cells := 2, slots := 4, locals := 29 } : Room)) (fun α υ => α = #[(.ref sa), (.ref ca)] ∧ Z.Warmed39 υ.vm ∧ υ.heap = h0 ∧ CHv Z consts_1 υ.vm h0) (fun _ _ _ _ _ => True) (fun _ υ ω υ' => ∃ v L, ω = .returned v ∧ Q1e Z sa ca f kc h0 n0 v υ'.heap L ∧ CHr Z consts_1 υ.vm υ.heap υ'.vm υ'.heap ∧ ReturnedEndW υ ω υ' L ({ frames := 2, cells := 2, slots := 4, locals := 29 } : Room).cells ({ frames := 2, cells := 2, slots := 4, locals := 29 } : Room).slots) := by
  refine MetFree.of_bodySF (plainFor_of_name pn_java_lang_String) hisR ?_
  intro p e s m args below meth c s₁ Bd hml0 hP hK
  obtain ⟨rfl, hZ, hh, hC0⟩ := hP
  have hx := Bd.exec
  have hby := Bd.bytes
  have hml : c.maxLocals = 2 := hml0
  have hown : s.vm.findClass "java/lang/String" = some m.cls := findClass_of_methodNamed Bd.named
  have hnm := (name_of_methodNamed Bd.named Bd.method).1
  have X0 : Stand p l e ({ frames := 2, cells := 2, slots := 4, locals := 29 } : Room) s m #[(.ref sa), (.ref ca)] below meth c s₁ [] 0 0 := Stand.of_body Bd
  have e0 : s₁.heap = h0 := by rw [← hh, Bd.state]; rfl
  have N0 := Fr.nil n0
  have pre0 : ∀ τ, Steps p.tables e below (s₁.setTop (mkF m 0 #[.val (.ref sa), .val (.ref ca)] [])) τ → Steps p.tables e below (s₁.setTop (entryFrame m #[(.ref sa), (.ref ca)] 2)) τ := fun τ κ => castTop (ef_1e m sa ca) κ
  have hS0 : s.Since s.vm 0 := (State.WarmedH.refl s).since 0
  have hks : 0 ≤ h0.size := Nat.zero_le _
  have hEL := own_EL hw
  have Kp0 : Keep h0 h0 [sa] := Keep.refl _ _
  have pre1 := fun τ (κ : Steps p.tables e below (s₁.setTop (mkF m 4 #[.val (.ref sa), .val (.ref ca)] [(.ref ca), (.int (0 : Int32)), (.ref ca), (.ref sa)])) τ) => pre0 τ (by
    refine XS.aloadN X0.here hx rfl (hb hby d1_0) rfl rfl ?_
    refine XS.aloadN X0.here hx rfl (hb hby d1_1) rfl rfl ?_
    refine XS.iconst X0.here hx rfl (hb hby d1_2) ?_
    refine XS.aloadN X0.here hx rfl (hb hby d1_3) rfl rfl ?_
    show Steps p.tables e below (s₁.setTop (mkF m 4 #[.val (.ref sa), .val (.ref ca)] [(.ref ca), (.int (0 : Int32)), (.ref ca), (.ref sa)])) _
    exact κ)
  obtain ⟨cl2, Ar2, -, S2, M2, -, -⟩ := id Vc
  have pre3 := fun τ (κ : Steps p.tables e below (s₁.setTop (mkF m 6 #[.val (.ref sa), .val (.ref ca)] [.null, (.int (0 : Int32)), (.int (0 : Int32)), (.ref ca), (.ref sa)])) τ) => pre1 τ (by
    refine X0.arraylength hx (by rw [e0]; exact Ar2.1) (State.isArrayOf_alike hZ.alike Ar2.2.1) (g := (mkF m 4 #[.val (.ref sa), .val (.ref ca)] [(.ref ca), (.int (0 : Int32)), (.ref ca), (.ref sa)])) rfl rfl (hb hby d1_4) _ ?_
    rw [len_of S2 M2]
    show Steps p.tables e below (s₁.setTop (mkF m 5 #[.val (.ref sa), .val (.ref ca)] [(.int (0 : Int32)), (.int (0 : Int32)), (.ref ca), (.ref sa)])) _
    refine XS.aconstNull X0.here hx rfl (hb hby d1_5) ?_
    show Steps p.tables e below (s₁.setTop (mkF m 6 #[.val (.ref sa), .val (.ref ca)] [.null, (.int (0 : Int32)), (.int (0 : Int32)), (.ref ca), (.ref sa)])) _
    exact κ)
  obtain ⟨_, _, ⟨T4, L4, k4, n4⟩, -, X4, hS4, gr4, ⟨Lc4, hQ4, l4, y4, z4, C4⟩, st4⟩ := X0.specialBackS hx (y := (⟨"java/lang/String", "<init>", "([CIILjava/lang/Void;)V"⟩ : MethodName)) rfl hown (mvT hZ (hw _ (List.mem_of_getElem? (i := 7) rfl))) (mvT hZ (hw _ (List.mem_of_getElem? (i := 8) rfl))) (mvT hZ (hw _ (List.mem_of_getElem? (i := 10) rfl))) (by decide) (backOfSH (s := s) (vm0 := s.vm) (W := 0) (rm2e l Z a0 hw [] sa ca f h0 n0 Z0 E_s Fv Fc gs) hZ (hw _ (List.mem_of_getElem? (i := 10) rfl)) (hw _ (List.mem_of_getElem? (i := 3) rfl)) (Nat.le_of_ble_eq_true rfl) (Nat.le_of_ble_eq_true rfl) hEL hC0) (g := (mkF m 6 #[.val (.ref sa), .val (.ref ca)] [.null, (.int (0 : Int32)), (.int (0 : Int32)), (.ref ca), (.ref sa)])) rfl (by rw [hml]; rfl) (Steps.refl _) (a := sa) (argsL := [(.ref ca), (.int (0 : Int32)), (.int (0 : Int32)), .null]) (rest := []) (lenOf pd_7 rfl) rfl (by show 2 * 0 + _ ≤ _; exact Nat.le_of_eq rfl) (hb hby d1_6) (fun _ _ => ⟨rfl, e0, (by decide : 0 + 2 ≤ _), (by decide : 0 + 4 ≤ _)⟩)
  dsimp only [Pt.U, Pt.locs, Pt.cells, Pt.slots] at X4 l4 y4 z4 st4 hQ4 hS4 gr4 C4
  subst l4 y4 z4
  obtain ⟨X4, hSr4, hZ, hown⟩ := rebS (s := s) (vm0 := s.vm) hS0 (Nat.zero_le _) X4 hS4 gr4 hZ hown
  have hks := Nat.le_refl T4.heap.size
  obtain ⟨sx4, hsx4⟩ : ∃ z, z = s.setVm T4.vm := ⟨_, rfl⟩
  rw [← hsx4] at X4 hZ hown
  obtain ⟨rfl, Nq4, K4, P4⟩ := hQ4
  have E_s_4 : Exa Z T4.heap sa "java/lang/String" := E_s.keep K4
  have Vc_4 : Arv Z T4.heap ca kc .char (0 : Int32) [] (.int (0 : Int32)) := Vc.keep K4 (ninS (Ne.symm hsc) nin0)
  have Z4 : n0 ≤ T4.heap.size := Nat.le_trans Z0 K4.1
  have Kp4 : Keep h0 T4.heap [sa] := Kp0.trans K4 (allS (Or.inl (List.mem_of_getElem? (i := 0) rfl)) all0)
  have N4 := Fr.app N0 Nq4
  have pre5 := fun τ (κ : Steps p.tables e below (T4.setTop (mkF m 9 #[.val (.ref sa), .val (.ref ca)] [])) τ) => pre3 τ (st4.trans κ)
  rw [hsx4] at X4 hZ hown
  obtain ⟨fs, hr, hrun, hended, hEnd⟩ := Stand.leaveW (s := s) (vm₁ := T4.vm) X4 hSr4 hks (v := none) (fun _ => rfl)
  refine ⟨_, _, pre5 _ ?_, hrun, hended, _, _, rfl, ?_, ?_, ⟨hEnd.1, hEnd.2.1, hEnd.2.2.1, hEnd.2.2.2.mono (by decide) (by decide)⟩⟩
  · exact X4.returnOut hx Bd.returns (hb hby d1_9) hr
  · show Q1e Z sa ca f kc h0 n0 _ T4.heap _
    exact ⟨rfl, N4, Kp4, P4⟩
  · show CHr Z consts_1 s.vm s.heap T4.vm T4.heap
    rw [hh]
    exact C4
theorem ef_25 (m : MethodId) (kk : Int32) (cv : Int32) : entryFrame m #[(.int kk), (.int cv)] 3 = mkF m 0 #[.val (.int kk), .val (.int cv), .unset] [] := by first | (simp [entryFrame, mkF, argsToLocals, Value.category]; done) | rfl
def Q25 (Z : State) (kk : Int32) (cv : Int32) (h0 : Heap) (n0 : Nat) (v : Option Value) (h : Heap) (L : List Loc) : Prop := v = some (.int (own_inR kk cv)) ∧ Fr n0 L ∧ h = h0
set_option maxRecDepth 65536 in
set_option maxHeartbeats 40000000 in
theorem rm25 (l : Launch) (Z : State) (a0 : Array Value) (hw : ∀ d ∈ tables_1, d.before a0 Z = true) (ws : List Jvm.Cond) (kk : Int32) (cv : Int32) (h0 : Heap) (n0 : Nat) (Z0 : n0 ≤ h0.size) :
    MetFree l (⟨"com/example/huiqiao/huiqiao/iso8583/ContentRunsFromPinLaw", "inRun", "(IC)Z"⟩ : MethodName) (head1 (Jvm.Cond.code (⟨"com/example/huiqiao/huiqiao/iso8583/ContentRunsFromPinLaw", "inRun", "(IC)Z"⟩ : MethodName) method_2_code 3 (some .boolean) :: ws) ({ frames := 0, cells := 0, slots := 0, locals := 0 } : Room)) (fun α υ => α = #[(.int kk), (.int cv)] ∧ Z.Warmed39 υ.vm ∧ υ.heap = h0) (fun _ _ _ _ _ => True) (fun _ υ ω υ' => ∃ v L, ω = .returned v ∧ Q25 Z kk cv h0 n0 v υ'.heap L ∧ FrameEnd υ ω υ' L ({ frames := 0, cells := 0, slots := 0, locals := 0 } : Room).cells ({ frames := 0, cells := 0, slots := 0, locals := 0 } : Room).slots) := by
  refine MetFree.of_bodySF (plainFor_of_name pn_com_example_huiqiao_huiqiao_iso8583_ContentRunsFromPinLaw) hisR ?_
  intro p e s m args below meth c s₁ Bd hml0 hP hK
  obtain ⟨rfl, hZ, hh⟩ := hP
  have hx := Bd.exec
  have hby := Bd.bytes
  have hml : c.maxLocals = 3 := hml0
  have hown : s.vm.findClass "com/example/huiqiao/huiqiao/iso8583/ContentRunsFromPinLaw" = some m.cls := findClass_of_methodNamed Bd.named
  have hnm := (name_of_methodNamed Bd.named Bd.method).1
  have X0 : Stand p l e ({ frames := 0, cells := 0, slots := 0, locals := 0 } : Room) s m #[(.int kk), (.int cv)] below meth c s₁ [] 0 0 := Stand.of_body Bd
  have e0 : s₁.heap = h0 := by rw [← hh, Bd.state]; rfl
  have N0 := Fr.nil n0
  have pre0 : ∀ τ, Steps p.tables e below (s₁.setTop (mkF m 0 #[.val (.int kk), .val (.int cv), .unset] [])) τ → Steps p.tables e below (s₁.setTop (entryFrame m #[(.int kk), (.int cv)] 3)) τ := fun τ κ => castTop (ef_25 m kk cv) κ
  have pre1 := fun τ (κ : Steps p.tables e below (s₁.setTop (mkF m 3 #[.val (.int kk), .val (.int cv), .unset] [(.int (48 : Int32)), (.int cv)])) τ) => pre0 τ (by
    refine XS.iloadN X0.here hx rfl (hb hby d25_0) rfl ?_
    refine XS.bipush X0.here hx rfl (hb hby d25_1) ?_
    show Steps p.tables e below (s₁.setTop (mkF m 3 #[.val (.int kk), .val (.int cv), .unset] [(.int (48 : Int32)), (.int cv)])) _
    exact κ)
  obtain ⟨dd, hdd, pre2⟩ : ∃ (dd : Int32), (dd = own_dig cv) ∧ ∀ τ, Steps p.tables e below (s₁.setTop (mkF m 17 #[.val (.int kk), .val (.int cv), .unset] [(.int dd)])) τ → Steps p.tables e below (s₁.setTop (entryFrame m #[(.int kk), (.int cv)] 3)) τ := by
    by_cases hc3 : cv < (48 : Int32)
    · have pre3 := fun τ (κ : Steps p.tables e below (s₁.setTop (mkF m 17 #[.val (.int kk), .val (.int cv), .unset] [(.int (0 : Int32))])) τ) => pre1 τ (by
        refine XS.icmpYes X0.here hx rfl (pc0 := 3) (pc' := 16) rfl (hb hby d25_3) rfl (tlt hc3).1 (by decide) (by decide) ?_
        show Steps p.tables e below (s₁.setTop (mkF m 16 #[.val (.int kk), .val (.int cv), .unset] [])) _
        refine XS.iconst X0.here hx rfl (hb hby d25_16) ?_
        show Steps p.tables e below (s₁.setTop (mkF m 17 #[.val (.int kk), .val (.int cv), .unset] [(.int (0 : Int32))])) _
        exact κ)
      exact ⟨(0 : Int32), (by simp [own_dig, hc3]), pre3⟩
    · have pre4 := fun τ (κ : Steps p.tables e below (s₁.setTop (mkF m 9 #[.val (.int kk), .val (.int cv), .unset] [(.int (57 : Int32)), (.int cv)])) τ) => pre1 τ (by
        refine XS.icmpNo X0.here hx rfl (hb hby d25_3) rfl (flt hc3).1 ?_
        show Steps p.tables e below (s₁.setTop (mkF m 6 #[.val (.int kk), .val (.int cv), .unset] [])) _
        refine XS.iloadN X0.here hx rfl (hb hby d25_6) rfl ?_
        refine XS.bipush X0.here hx rfl (hb hby d25_7) ?_
        show Steps p.tables e below (s₁.setTop (mkF m 9 #[.val (.int kk), .val (.int cv), .unset] [(.int (57 : Int32)), (.int cv)])) _
        exact κ)
      by_cases hc9 : (57 : Int32) < cv
      · have pre5 := fun τ (κ : Steps p.tables e below (s₁.setTop (mkF m 17 #[.val (.int kk), .val (.int cv), .unset] [(.int (0 : Int32))])) τ) => pre4 τ (by
          refine XS.icmpYes X0.here hx rfl (pc0 := 9) (pc' := 16) rfl (hb hby d25_9) rfl (tlt hc9).2.2.1 (by decide) (by decide) ?_
          show Steps p.tables e below (s₁.setTop (mkF m 16 #[.val (.int kk), .val (.int cv), .unset] [])) _
          refine XS.iconst X0.here hx rfl (hb hby d25_16) ?_
          show Steps p.tables e below (s₁.setTop (mkF m 17 #[.val (.int kk), .val (.int cv), .unset] [(.int (0 : Int32))])) _
          exact κ)
        exact ⟨(0 : Int32), (by simp [own_dig, hc3, hc9]), pre5⟩
      · have pre6 := fun τ (κ : Steps p.tables e below (s₁.setTop (mkF m 17 #[.val (.int kk), .val (.int cv), .unset] [(.int (1 : Int32))])) τ) => pre4 τ (by
          refine XS.icmpNo X0.here hx rfl (hb hby d25_9) rfl (flt hc9).2.2.1 ?_
          show Steps p.tables e below (s₁.setTop (mkF m 12 #[.val (.int kk), .val (.int cv), .unset] [])) _
          refine XS.iconst X0.here hx rfl (hb hby d25_12) ?_
          refine XS.goto X0.here hx rfl (pc0 := 13) (pc' := 17) rfl (hb hby d25_13) (by decide) (by decide) ?_
          show Steps p.tables e below (s₁.setTop (mkF m 17 #[.val (.int kk), .val (.int cv), .unset] [(.int (1 : Int32))])) _
          exact κ)
        exact ⟨(1 : Int32), (by simp [own_dig, hc3, hc9]), pre6⟩
  subst hdd
  have pre7 := fun τ (κ : Steps p.tables e below (s₁.setTop (mkF m 19 #[.val (.int kk), .val (.int cv), .val (.int (own_dig cv))] [(.int kk)])) τ) => pre2 τ (by
    refine XS.istoreN X0.here hx rfl (hb hby d25_17) rfl (l' := #[.val (.int kk), .val (.int cv), .val (.int (own_dig cv))]) rfl ?_
    show Steps p.tables e below (s₁.setTop (mkF m 18 #[.val (.int kk), .val (.int cv), .val (.int (own_dig cv))] [])) _
    refine XS.iloadN X0.here hx rfl (hb hby d25_18) rfl ?_
    show Steps p.tables e below (s₁.setTop (mkF m 19 #[.val (.int kk), .val (.int cv), .val (.int (own_dig cv))] [(.int kk)])) _
    exact κ)
  by_cases hc19 : kk = (0 : Int32)
  · have pre8 := fun τ (κ : Steps p.tables e below (s₁.setTop (mkF m 28 #[.val (.int kk), .val (.int cv), .val (.int (own_dig cv))] [(.int (own_dig cv))])) τ) => pre7 τ (by
      refine XS.ifYes X0.here hx rfl (pc0 := 19) (pc' := 27) rfl (hb hby d25_19) rfl ((if0 _ _).trans (teq hc19).1) (by decide) (by decide) ?_
      show Steps p.tables e below (s₁.setTop (mkF m 27 #[.val (.int kk), .val (.int cv), .val (.int (own_dig cv))] [])) _
      refine XS.iloadN X0.here hx rfl (hb hby d25_27) rfl ?_
      show Steps p.tables e below (s₁.setTop (mkF m 28 #[.val (.int kk), .val (.int cv), .val (.int (own_dig cv))] [(.int (own_dig cv))])) _
      exact κ)
    obtain ⟨fs, hr, hrun, hended, hW, hsame⟩ := X0.leave (v := some (.int (nar .boolean (own_dig cv)))) (fun h => by rw [Bd.returns] at h; cases h)
    refine ⟨_, _, pre8 _ ?_, hrun, hended, _, _, rfl, ?_, ⟨_, rfl⟩, hW, hsame.mono (by decide) (by decide)⟩
    · exact retN X0 hx (t := .boolean) Bd.returns (by simp) (hb hby d25_28) hr
    · show Q25 Z kk cv h0 n0 _ s₁.heap _
      rw [e0]
      exact ⟨(by rw [own_nb (own_dig01 cv)]; simp (decide := true) [own_inR, hc19]), N0, rfl⟩
  · have pre9 := fun τ (κ : Steps p.tables e below (s₁.setTop (mkF m 24 #[.val (.int kk), .val (.int cv), .val (.int (own_dig cv))] [(.int (4 : Int32)), (.int kk)])) τ) => pre7 τ (by
      refine XS.ifNo X0.here hx rfl (hb hby d25_19) rfl ((if0 _ _).trans (feq hc19).1) ?_
      show Steps p.tables e below (s₁.setTop (mkF m 22 #[.val (.int kk), .val (.int cv), .val (.int (own_dig cv))] [])) _
      refine XS.iloadN X0.here hx rfl (hb hby d25_22) rfl ?_
      refine XS.iconst X0.here hx rfl (hb hby d25_23) ?_
      show Steps p.tables e below (s₁.setTop (mkF m 24 #[.val (.int kk), .val (.int cv), .val (.int (own_dig cv))] [(.int (4 : Int32)), (.int kk)])) _
      exact κ)
    by_cases hc24 : kk = (4 : Int32)
    · have pre10 := fun τ (κ : Steps p.tables e below (s₁.setTop (mkF m 28 #[.val (.int kk), .val (.int cv), .val (.int (own_dig cv))] [(.int (own_dig cv))])) τ) => pre9 τ (by
        refine XS.icmpNo X0.here hx rfl (hb hby d25_24) rfl (teq hc24).2 ?_
        show Steps p.tables e below (s₁.setTop (mkF m 27 #[.val (.int kk), .val (.int cv), .val (.int (own_dig cv))] [])) _
        refine XS.iloadN X0.here hx rfl (hb hby d25_27) rfl ?_
        show Steps p.tables e below (s₁.setTop (mkF m 28 #[.val (.int kk), .val (.int cv), .val (.int (own_dig cv))] [(.int (own_dig cv))])) _
        exact κ)
      obtain ⟨fs, hr, hrun, hended, hW, hsame⟩ := X0.leave (v := some (.int (nar .boolean (own_dig cv)))) (fun h => by rw [Bd.returns] at h; cases h)
      refine ⟨_, _, pre10 _ ?_, hrun, hended, _, _, rfl, ?_, ⟨_, rfl⟩, hW, hsame.mono (by decide) (by decide)⟩
      · exact retN X0 hx (t := .boolean) Bd.returns (by simp) (hb hby d25_28) hr
      · show Q25 Z kk cv h0 n0 _ s₁.heap _
        rw [e0]
        exact ⟨(by rw [own_nb (own_dig01 cv)]; simp (decide := true) [own_inR, hc19, hc24]), N0, rfl⟩
    · have pre11 := fun τ (κ : Steps p.tables e below (s₁.setTop (mkF m 31 #[.val (.int kk), .val (.int cv), .val (.int (own_dig cv))] [(.int (1 : Int32)), (.int kk)])) τ) => pre9 τ (by
        refine XS.icmpYes X0.here hx rfl (pc0 := 24) (pc' := 29) rfl (hb hby d25_24) rfl (feq hc24).2 (by decide) (by decide) ?_
        show Steps p.tables e below (s₁.setTop (mkF m 29 #[.val (.int kk), .val (.int cv), .val (.int (own_dig cv))] [])) _
        refine XS.iloadN X0.here hx rfl (hb hby d25_29) rfl ?_
        refine XS.iconst X0.here hx rfl (hb hby d25_30) ?_
        show Steps p.tables e below (s₁.setTop (mkF m 31 #[.val (.int kk), .val (.int cv), .val (.int (own_dig cv))] [(.int (1 : Int32)), (.int kk)])) _
        exact κ)
      by_cases hc31 : kk = (1 : Int32)
      · have pre12 := fun τ (κ : Steps p.tables e below (s₁.setTop (mkF m 35 #[.val (.int kk), .val (.int cv), .val (.int (own_dig cv))] [(.int (own_dig cv))])) τ) => pre11 τ (by
          refine XS.icmpNo X0.here hx rfl (hb hby d25_31) rfl (teq hc31).2 ?_
          show Steps p.tables e below (s₁.setTop (mkF m 34 #[.val (.int kk), .val (.int cv), .val (.int (own_dig cv))] [])) _
          refine XS.iloadN X0.here hx rfl (hb hby d25_34) rfl ?_
          show Steps p.tables e below (s₁.setTop (mkF m 35 #[.val (.int kk), .val (.int cv), .val (.int (own_dig cv))] [(.int (own_dig cv))])) _
          exact κ)
        by_cases hc35 : (own_dig cv) = (0 : Int32)
        · have pre13 := fun τ (κ : Steps p.tables e below (s₁.setTop (mkF m 41 #[.val (.int kk), .val (.int cv), .val (.int (own_dig cv))] [(.int (65 : Int32)), (.int cv)])) τ) => pre12 τ (by
            refine XS.ifNo X0.here hx rfl (hb hby d25_35) rfl ((if0 _ _).trans (teq hc35).2) ?_
            show Steps p.tables e below (s₁.setTop (mkF m 38 #[.val (.int kk), .val (.int cv), .val (.int (own_dig cv))] [])) _
            refine XS.iloadN X0.here hx rfl (hb hby d25_38) rfl ?_
            refine XS.bipush X0.here hx rfl (hb hby d25_39) ?_
            show Steps p.tables e below (s₁.setTop (mkF m 41 #[.val (.int kk), .val (.int cv), .val (.int (own_dig cv))] [(.int (65 : Int32)), (.int cv)])) _
            exact κ)
          by_cases hc41 : cv < (65 : Int32)
          · have pre14 := fun τ (κ : Steps p.tables e below (s₁.setTop (mkF m 53 #[.val (.int kk), .val (.int cv), .val (.int (own_dig cv))] [(.int (97 : Int32)), (.int cv)])) τ) => pre13 τ (by
              refine XS.icmpYes X0.here hx rfl (pc0 := 41) (pc' := 50) rfl (hb hby d25_41) rfl (tlt hc41).1 (by decide) (by decide) ?_
              show Steps p.tables e below (s₁.setTop (mkF m 50 #[.val (.int kk), .val (.int cv), .val (.int (own_dig cv))] [])) _
              refine XS.iloadN X0.here hx rfl (hb hby d25_50) rfl ?_
              refine XS.bipush X0.here hx rfl (hb hby d25_51) ?_
              show Steps p.tables e below (s₁.setTop (mkF m 53 #[.val (.int kk), .val (.int cv), .val (.int (own_dig cv))] [(.int (97 : Int32)), (.int cv)])) _
              exact κ)
            by_cases hc53 : cv < (97 : Int32)
            · have pre15 := fun τ (κ : Steps p.tables e below (s₁.setTop (mkF m 67 #[.val (.int kk), .val (.int cv), .val (.int (own_dig cv))] [(.int (0 : Int32))])) τ) => pre14 τ (by
                refine XS.icmpYes X0.here hx rfl (pc0 := 53) (pc' := 66) rfl (hb hby d25_53) rfl (tlt hc53).1 (by decide) (by decide) ?_
                show Steps p.tables e below (s₁.setTop (mkF m 66 #[.val (.int kk), .val (.int cv), .val (.int (own_dig cv))] [])) _
                refine XS.iconst X0.here hx rfl (hb hby d25_66) ?_
                show Steps p.tables e below (s₁.setTop (mkF m 67 #[.val (.int kk), .val (.int cv), .val (.int (own_dig cv))] [(.int (0 : Int32))])) _
                exact κ)
              obtain ⟨fs, hr, hrun, hended, hW, hsame⟩ := X0.leave (v := some (.int (0 : Int32))) (fun h => by rw [Bd.returns] at h; cases h)
              refine ⟨_, _, pre15 _ ?_, hrun, hended, _, _, rfl, ?_, ⟨_, rfl⟩, hW, hsame.mono (by decide) (by decide)⟩
              · exact retN X0 hx (t := .boolean) Bd.returns (by simp) (hb hby d25_67) hr
              · show Q25 Z kk cv h0 n0 _ s₁.heap _
                rw [e0]
                exact ⟨(by simp (decide := true) [own_inR, hc19, hc24, hc31, hc35, hc41, hc53]), N0, rfl⟩
            · have pre16 := fun τ (κ : Steps p.tables e below (s₁.setTop (mkF m 59 #[.val (.int kk), .val (.int cv), .val (.int (own_dig cv))] [(.int (122 : Int32)), (.int cv)])) τ) => pre14 τ (by
                refine XS.icmpNo X0.here hx rfl (hb hby d25_53) rfl (flt hc53).1 ?_
                show Steps p.tables e below (s₁.setTop (mkF m 56 #[.val (.int kk), .val (.int cv), .val (.int (own_dig cv))] [])) _
                refine XS.iloadN X0.here hx rfl (hb hby d25_56) rfl ?_
                refine XS.bipush X0.here hx rfl (hb hby d25_57) ?_
                show Steps p.tables e below (s₁.setTop (mkF m 59 #[.val (.int kk), .val (.int cv), .val (.int (own_dig cv))] [(.int (122 : Int32)), (.int cv)])) _
                exact κ)
              by_cases hc59 : (122 : Int32) < cv
              · have pre17 := fun τ (κ : Steps p.tables e below (s₁.setTop (mkF m 67 #[.val (.int kk), .val (.int cv), .val (.int (own_dig cv))] [(.int (0 : Int32))])) τ) => pre16 τ (by
                  refine XS.icmpYes X0.here hx rfl (pc0 := 59) (pc' := 66) rfl (hb hby d25_59) rfl (tlt hc59).2.2.1 (by decide) (by decide) ?_
                  show Steps p.tables e below (s₁.setTop (mkF m 66 #[.val (.int kk), .val (.int cv), .val (.int (own_dig cv))] [])) _
                  refine XS.iconst X0.here hx rfl (hb hby d25_66) ?_
                  show Steps p.tables e below (s₁.setTop (mkF m 67 #[.val (.int kk), .val (.int cv), .val (.int (own_dig cv))] [(.int (0 : Int32))])) _
                  exact κ)
                obtain ⟨fs, hr, hrun, hended, hW, hsame⟩ := X0.leave (v := some (.int (0 : Int32))) (fun h => by rw [Bd.returns] at h; cases h)
                refine ⟨_, _, pre17 _ ?_, hrun, hended, _, _, rfl, ?_, ⟨_, rfl⟩, hW, hsame.mono (by decide) (by decide)⟩
                · exact retN X0 hx (t := .boolean) Bd.returns (by simp) (hb hby d25_67) hr
                · show Q25 Z kk cv h0 n0 _ s₁.heap _
                  rw [e0]
                  exact ⟨(by simp (decide := true) [own_inR, hc19, hc24, hc31, hc35, hc41, hc53, hc59]), N0, rfl⟩
              · have pre18 := fun τ (κ : Steps p.tables e below (s₁.setTop (mkF m 67 #[.val (.int kk), .val (.int cv), .val (.int (own_dig cv))] [(.int (1 : Int32))])) τ) => pre16 τ (by
                  refine XS.icmpNo X0.here hx rfl (hb hby d25_59) rfl (flt hc59).2.2.1 ?_
                  show Steps p.tables e below (s₁.setTop (mkF m 62 #[.val (.int kk), .val (.int cv), .val (.int (own_dig cv))] [])) _
                  refine XS.iconst X0.here hx rfl (hb hby d25_62) ?_
                  refine XS.goto X0.here hx rfl (pc0 := 63) (pc' := 67) rfl (hb hby d25_63) (by decide) (by decide) ?_
                  show Steps p.tables e below (s₁.setTop (mkF m 67 #[.val (.int kk), .val (.int cv), .val (.int (own_dig cv))] [(.int (1 : Int32))])) _
                  exact κ)
                obtain ⟨fs, hr, hrun, hended, hW, hsame⟩ := X0.leave (v := some (.int (1 : Int32))) (fun h => by rw [Bd.returns] at h; cases h)
                refine ⟨_, _, pre18 _ ?_, hrun, hended, _, _, rfl, ?_, ⟨_, rfl⟩, hW, hsame.mono (by decide) (by decide)⟩
                · exact retN X0 hx (t := .boolean) Bd.returns (by simp) (hb hby d25_67) hr
                · show Q25 Z kk cv h0 n0 _ s₁.heap _
                  rw [e0]
                  exact ⟨(by simp (decide := true) [own_inR, hc19, hc24, hc31, hc35, hc41, hc53, hc59]), N0, rfl⟩
          · have pre19 := fun τ (κ : Steps p.tables e below (s₁.setTop (mkF m 47 #[.val (.int kk), .val (.int cv), .val (.int (own_dig cv))] [(.int (90 : Int32)), (.int cv)])) τ) => pre13 τ (by
              refine XS.icmpNo X0.here hx rfl (hb hby d25_41) rfl (flt hc41).1 ?_
              show Steps p.tables e below (s₁.setTop (mkF m 44 #[.val (.int kk), .val (.int cv), .val (.int (own_dig cv))] [])) _
              refine XS.iloadN X0.here hx rfl (hb hby d25_44) rfl ?_
              refine XS.bipush X0.here hx rfl (hb hby d25_45) ?_
              show Steps p.tables e below (s₁.setTop (mkF m 47 #[.val (.int kk), .val (.int cv), .val (.int (own_dig cv))] [(.int (90 : Int32)), (.int cv)])) _
              exact κ)
            by_cases hc47 : (90 : Int32) < cv
            · have pre20 := fun τ (κ : Steps p.tables e below (s₁.setTop (mkF m 53 #[.val (.int kk), .val (.int cv), .val (.int (own_dig cv))] [(.int (97 : Int32)), (.int cv)])) τ) => pre19 τ (by
                refine XS.icmpNo X0.here hx rfl (hb hby d25_47) rfl (tlt hc47).2.2.2 ?_
                show Steps p.tables e below (s₁.setTop (mkF m 50 #[.val (.int kk), .val (.int cv), .val (.int (own_dig cv))] [])) _
                refine XS.iloadN X0.here hx rfl (hb hby d25_50) rfl ?_
                refine XS.bipush X0.here hx rfl (hb hby d25_51) ?_
                show Steps p.tables e below (s₁.setTop (mkF m 53 #[.val (.int kk), .val (.int cv), .val (.int (own_dig cv))] [(.int (97 : Int32)), (.int cv)])) _
                exact κ)
              by_cases hc53 : cv < (97 : Int32)
              · have pre21 := fun τ (κ : Steps p.tables e below (s₁.setTop (mkF m 67 #[.val (.int kk), .val (.int cv), .val (.int (own_dig cv))] [(.int (0 : Int32))])) τ) => pre20 τ (by
                  refine XS.icmpYes X0.here hx rfl (pc0 := 53) (pc' := 66) rfl (hb hby d25_53) rfl (tlt hc53).1 (by decide) (by decide) ?_
                  show Steps p.tables e below (s₁.setTop (mkF m 66 #[.val (.int kk), .val (.int cv), .val (.int (own_dig cv))] [])) _
                  refine XS.iconst X0.here hx rfl (hb hby d25_66) ?_
                  show Steps p.tables e below (s₁.setTop (mkF m 67 #[.val (.int kk), .val (.int cv), .val (.int (own_dig cv))] [(.int (0 : Int32))])) _
                  exact κ)
                obtain ⟨fs, hr, hrun, hended, hW, hsame⟩ := X0.leave (v := some (.int (0 : Int32))) (fun h => by rw [Bd.returns] at h; cases h)
                refine ⟨_, _, pre21 _ ?_, hrun, hended, _, _, rfl, ?_, ⟨_, rfl⟩, hW, hsame.mono (by decide) (by decide)⟩
                · exact retN X0 hx (t := .boolean) Bd.returns (by simp) (hb hby d25_67) hr
                · show Q25 Z kk cv h0 n0 _ s₁.heap _
                  rw [e0]
                  exact ⟨(by simp (decide := true) [own_inR, hc19, hc24, hc31, hc35, hc41, hc47, hc53]), N0, rfl⟩
              · have pre22 := fun τ (κ : Steps p.tables e below (s₁.setTop (mkF m 59 #[.val (.int kk), .val (.int cv), .val (.int (own_dig cv))] [(.int (122 : Int32)), (.int cv)])) τ) => pre20 τ (by
                  refine XS.icmpNo X0.here hx rfl (hb hby d25_53) rfl (flt hc53).1 ?_
                  show Steps p.tables e below (s₁.setTop (mkF m 56 #[.val (.int kk), .val (.int cv), .val (.int (own_dig cv))] [])) _
                  refine XS.iloadN X0.here hx rfl (hb hby d25_56) rfl ?_
                  refine XS.bipush X0.here hx rfl (hb hby d25_57) ?_
                  show Steps p.tables e below (s₁.setTop (mkF m 59 #[.val (.int kk), .val (.int cv), .val (.int (own_dig cv))] [(.int (122 : Int32)), (.int cv)])) _
                  exact κ)
                by_cases hc59 : (122 : Int32) < cv
                · have pre23 := fun τ (κ : Steps p.tables e below (s₁.setTop (mkF m 67 #[.val (.int kk), .val (.int cv), .val (.int (own_dig cv))] [(.int (0 : Int32))])) τ) => pre22 τ (by
                    refine XS.icmpYes X0.here hx rfl (pc0 := 59) (pc' := 66) rfl (hb hby d25_59) rfl (tlt hc59).2.2.1 (by decide) (by decide) ?_
                    show Steps p.tables e below (s₁.setTop (mkF m 66 #[.val (.int kk), .val (.int cv), .val (.int (own_dig cv))] [])) _
                    refine XS.iconst X0.here hx rfl (hb hby d25_66) ?_
                    show Steps p.tables e below (s₁.setTop (mkF m 67 #[.val (.int kk), .val (.int cv), .val (.int (own_dig cv))] [(.int (0 : Int32))])) _
                    exact κ)
                  obtain ⟨fs, hr, hrun, hended, hW, hsame⟩ := X0.leave (v := some (.int (0 : Int32))) (fun h => by rw [Bd.returns] at h; cases h)
                  refine ⟨_, _, pre23 _ ?_, hrun, hended, _, _, rfl, ?_, ⟨_, rfl⟩, hW, hsame.mono (by decide) (by decide)⟩
                  · exact retN X0 hx (t := .boolean) Bd.returns (by simp) (hb hby d25_67) hr
                  · show Q25 Z kk cv h0 n0 _ s₁.heap _
                    rw [e0]
                    exact ⟨(by simp (decide := true) [own_inR, hc19, hc24, hc31, hc35, hc41, hc47, hc53, hc59]), N0, rfl⟩
                · have pre24 := fun τ (κ : Steps p.tables e below (s₁.setTop (mkF m 67 #[.val (.int kk), .val (.int cv), .val (.int (own_dig cv))] [(.int (1 : Int32))])) τ) => pre22 τ (by
                    refine XS.icmpNo X0.here hx rfl (hb hby d25_59) rfl (flt hc59).2.2.1 ?_
                    show Steps p.tables e below (s₁.setTop (mkF m 62 #[.val (.int kk), .val (.int cv), .val (.int (own_dig cv))] [])) _
                    refine XS.iconst X0.here hx rfl (hb hby d25_62) ?_
                    refine XS.goto X0.here hx rfl (pc0 := 63) (pc' := 67) rfl (hb hby d25_63) (by decide) (by decide) ?_
                    show Steps p.tables e below (s₁.setTop (mkF m 67 #[.val (.int kk), .val (.int cv), .val (.int (own_dig cv))] [(.int (1 : Int32))])) _
                    exact κ)
                  obtain ⟨fs, hr, hrun, hended, hW, hsame⟩ := X0.leave (v := some (.int (1 : Int32))) (fun h => by rw [Bd.returns] at h; cases h)
                  refine ⟨_, _, pre24 _ ?_, hrun, hended, _, _, rfl, ?_, ⟨_, rfl⟩, hW, hsame.mono (by decide) (by decide)⟩
                  · exact retN X0 hx (t := .boolean) Bd.returns (by simp) (hb hby d25_67) hr
                  · show Q25 Z kk cv h0 n0 _ s₁.heap _
                    rw [e0]
                    exact ⟨(by simp (decide := true) [own_inR, hc19, hc24, hc31, hc35, hc41, hc47, hc53, hc59]), N0, rfl⟩
            · have pre25 := fun τ (κ : Steps p.tables e below (s₁.setTop (mkF m 67 #[.val (.int kk), .val (.int cv), .val (.int (own_dig cv))] [(.int (1 : Int32))])) τ) => pre19 τ (by
                refine XS.icmpYes X0.here hx rfl (pc0 := 47) (pc' := 62) rfl (hb hby d25_47) rfl (flt hc47).2.2.2 (by decide) (by decide) ?_
                show Steps p.tables e below (s₁.setTop (mkF m 62 #[.val (.int kk), .val (.int cv), .val (.int (own_dig cv))] [])) _
                refine XS.iconst X0.here hx rfl (hb hby d25_62) ?_
                refine XS.goto X0.here hx rfl (pc0 := 63) (pc' := 67) rfl (hb hby d25_63) (by decide) (by decide) ?_
                show Steps p.tables e below (s₁.setTop (mkF m 67 #[.val (.int kk), .val (.int cv), .val (.int (own_dig cv))] [(.int (1 : Int32))])) _
                exact κ)
              obtain ⟨fs, hr, hrun, hended, hW, hsame⟩ := X0.leave (v := some (.int (1 : Int32))) (fun h => by rw [Bd.returns] at h; cases h)
              refine ⟨_, _, pre25 _ ?_, hrun, hended, _, _, rfl, ?_, ⟨_, rfl⟩, hW, hsame.mono (by decide) (by decide)⟩
              · exact retN X0 hx (t := .boolean) Bd.returns (by simp) (hb hby d25_67) hr
              · show Q25 Z kk cv h0 n0 _ s₁.heap _
                rw [e0]
                exact ⟨(by simp (decide := true) [own_inR, hc19, hc24, hc31, hc35, hc41, hc47]), N0, rfl⟩
        · have pre26 := fun τ (κ : Steps p.tables e below (s₁.setTop (mkF m 67 #[.val (.int kk), .val (.int cv), .val (.int (own_dig cv))] [(.int (1 : Int32))])) τ) => pre12 τ (by
            refine XS.ifYes X0.here hx rfl (pc0 := 35) (pc' := 62) rfl (hb hby d25_35) rfl ((if0 _ _).trans (feq hc35).2) (by decide) (by decide) ?_
            show Steps p.tables e below (s₁.setTop (mkF m 62 #[.val (.int kk), .val (.int cv), .val (.int (own_dig cv))] [])) _
            refine XS.iconst X0.here hx rfl (hb hby d25_62) ?_
            refine XS.goto X0.here hx rfl (pc0 := 63) (pc' := 67) rfl (hb hby d25_63) (by decide) (by decide) ?_
            show Steps p.tables e below (s₁.setTop (mkF m 67 #[.val (.int kk), .val (.int cv), .val (.int (own_dig cv))] [(.int (1 : Int32))])) _
            exact κ)
          obtain ⟨fs, hr, hrun, hended, hW, hsame⟩ := X0.leave (v := some (.int (1 : Int32))) (fun h => by rw [Bd.returns] at h; cases h)
          refine ⟨_, _, pre26 _ ?_, hrun, hended, _, _, rfl, ?_, ⟨_, rfl⟩, hW, hsame.mono (by decide) (by decide)⟩
          · exact retN X0 hx (t := .boolean) Bd.returns (by simp) (hb hby d25_67) hr
          · show Q25 Z kk cv h0 n0 _ s₁.heap _
            rw [e0]
            exact ⟨(by simp (decide := true) [own_inR, hc19, hc24, hc31, hc35]), N0, rfl⟩
      · have pre27 := fun τ (κ : Steps p.tables e below (s₁.setTop (mkF m 70 #[.val (.int kk), .val (.int cv), .val (.int (own_dig cv))] [(.int (2 : Int32)), (.int kk)])) τ) => pre11 τ (by
          refine XS.icmpYes X0.here hx rfl (pc0 := 31) (pc' := 68) rfl (hb hby d25_31) rfl (feq hc31).2 (by decide) (by decide) ?_
          show Steps p.tables e below (s₁.setTop (mkF m 68 #[.val (.int kk), .val (.int cv), .val (.int (own_dig cv))] [])) _
          refine XS.iloadN X0.here hx rfl (hb hby d25_68) rfl ?_
          refine XS.iconst X0.here hx rfl (hb hby d25_69) ?_
          show Steps p.tables e below (s₁.setTop (mkF m 70 #[.val (.int kk), .val (.int cv), .val (.int (own_dig cv))] [(.int (2 : Int32)), (.int kk)])) _
          exact κ)
        by_cases hc70 : kk = (2 : Int32)
        · have pre28 := fun τ (κ : Steps p.tables e below (s₁.setTop (mkF m 76 #[.val (.int kk), .val (.int cv), .val (.int (own_dig cv))] [(.int (32 : Int32)), (.int cv)])) τ) => pre27 τ (by
            refine XS.icmpNo X0.here hx rfl (hb hby d25_70) rfl (teq hc70).2 ?_
            show Steps p.tables e below (s₁.setTop (mkF m 73 #[.val (.int kk), .val (.int cv), .val (.int (own_dig cv))] [])) _
            refine XS.iloadN X0.here hx rfl (hb hby d25_73) rfl ?_
            refine XS.bipush X0.here hx rfl (hb hby d25_74) ?_
            show Steps p.tables e below (s₁.setTop (mkF m 76 #[.val (.int kk), .val (.int cv), .val (.int (own_dig cv))] [(.int (32 : Int32)), (.int cv)])) _
            exact κ)
          by_cases hc76 : cv < (32 : Int32)
          · have pre29 := fun τ (κ : Steps p.tables e below (s₁.setTop (mkF m 90 #[.val (.int kk), .val (.int cv), .val (.int (own_dig cv))] [(.int (0 : Int32))])) τ) => pre28 τ (by
              refine XS.icmpYes X0.here hx rfl (pc0 := 76) (pc' := 89) rfl (hb hby d25_76) rfl (tlt hc76).1 (by decide) (by decide) ?_
              show Steps p.tables e below (s₁.setTop (mkF m 89 #[.val (.int kk), .val (.int cv), .val (.int (own_dig cv))] [])) _
              refine XS.iconst X0.here hx rfl (hb hby d25_89) ?_
              show Steps p.tables e below (s₁.setTop (mkF m 90 #[.val (.int kk), .val (.int cv), .val (.int (own_dig cv))] [(.int (0 : Int32))])) _
              exact κ)
            obtain ⟨fs, hr, hrun, hended, hW, hsame⟩ := X0.leave (v := some (.int (0 : Int32))) (fun h => by rw [Bd.returns] at h; cases h)
            refine ⟨_, _, pre29 _ ?_, hrun, hended, _, _, rfl, ?_, ⟨_, rfl⟩, hW, hsame.mono (by decide) (by decide)⟩
            · exact retN X0 hx (t := .boolean) Bd.returns (by simp) (hb hby d25_90) hr
            · show Q25 Z kk cv h0 n0 _ s₁.heap _
              rw [e0]
              exact ⟨(by simp (decide := true) [own_inR, hc19, hc24, hc31, hc70, hc76]), N0, rfl⟩
          · have pre30 := fun τ (κ : Steps p.tables e below (s₁.setTop (mkF m 82 #[.val (.int kk), .val (.int cv), .val (.int (own_dig cv))] [(.int (126 : Int32)), (.int cv)])) τ) => pre28 τ (by
              refine XS.icmpNo X0.here hx rfl (hb hby d25_76) rfl (flt hc76).1 ?_
              show Steps p.tables e below (s₁.setTop (mkF m 79 #[.val (.int kk), .val (.int cv), .val (.int (own_dig cv))] [])) _
              refine XS.iloadN X0.here hx rfl (hb hby d25_79) rfl ?_
              refine XS.bipush X0.here hx rfl (hb hby d25_80) ?_
              show Steps p.tables e below (s₁.setTop (mkF m 82 #[.val (.int kk), .val (.int cv), .val (.int (own_dig cv))] [(.int (126 : Int32)), (.int cv)])) _
              exact κ)
            by_cases hc82 : (126 : Int32) < cv
            · have pre31 := fun τ (κ : Steps p.tables e below (s₁.setTop (mkF m 90 #[.val (.int kk), .val (.int cv), .val (.int (own_dig cv))] [(.int (0 : Int32))])) τ) => pre30 τ (by
                refine XS.icmpYes X0.here hx rfl (pc0 := 82) (pc' := 89) rfl (hb hby d25_82) rfl (tlt hc82).2.2.1 (by decide) (by decide) ?_
                show Steps p.tables e below (s₁.setTop (mkF m 89 #[.val (.int kk), .val (.int cv), .val (.int (own_dig cv))] [])) _
                refine XS.iconst X0.here hx rfl (hb hby d25_89) ?_
                show Steps p.tables e below (s₁.setTop (mkF m 90 #[.val (.int kk), .val (.int cv), .val (.int (own_dig cv))] [(.int (0 : Int32))])) _
                exact κ)
              obtain ⟨fs, hr, hrun, hended, hW, hsame⟩ := X0.leave (v := some (.int (0 : Int32))) (fun h => by rw [Bd.returns] at h; cases h)
              refine ⟨_, _, pre31 _ ?_, hrun, hended, _, _, rfl, ?_, ⟨_, rfl⟩, hW, hsame.mono (by decide) (by decide)⟩
              · exact retN X0 hx (t := .boolean) Bd.returns (by simp) (hb hby d25_90) hr
              · show Q25 Z kk cv h0 n0 _ s₁.heap _
                rw [e0]
                exact ⟨(by simp (decide := true) [own_inR, hc19, hc24, hc31, hc70, hc76, hc82]), N0, rfl⟩
            · have pre32 := fun τ (κ : Steps p.tables e below (s₁.setTop (mkF m 90 #[.val (.int kk), .val (.int cv), .val (.int (own_dig cv))] [(.int (1 : Int32))])) τ) => pre30 τ (by
                refine XS.icmpNo X0.here hx rfl (hb hby d25_82) rfl (flt hc82).2.2.1 ?_
                show Steps p.tables e below (s₁.setTop (mkF m 85 #[.val (.int kk), .val (.int cv), .val (.int (own_dig cv))] [])) _
                refine XS.iconst X0.here hx rfl (hb hby d25_85) ?_
                refine XS.goto X0.here hx rfl (pc0 := 86) (pc' := 90) rfl (hb hby d25_86) (by decide) (by decide) ?_
                show Steps p.tables e below (s₁.setTop (mkF m 90 #[.val (.int kk), .val (.int cv), .val (.int (own_dig cv))] [(.int (1 : Int32))])) _
                exact κ)
              obtain ⟨fs, hr, hrun, hended, hW, hsame⟩ := X0.leave (v := some (.int (1 : Int32))) (fun h => by rw [Bd.returns] at h; cases h)
              refine ⟨_, _, pre32 _ ?_, hrun, hended, _, _, rfl, ?_, ⟨_, rfl⟩, hW, hsame.mono (by decide) (by decide)⟩
              · exact retN X0 hx (t := .boolean) Bd.returns (by simp) (hb hby d25_90) hr
              · show Q25 Z kk cv h0 n0 _ s₁.heap _
                rw [e0]
                exact ⟨(by simp (decide := true) [own_inR, hc19, hc24, hc31, hc70, hc76, hc82]), N0, rfl⟩
        · have pre33 := fun τ (κ : Steps p.tables e below (s₁.setTop (mkF m 93 #[.val (.int kk), .val (.int cv), .val (.int (own_dig cv))] [(.int (3 : Int32)), (.int kk)])) τ) => pre27 τ (by
            refine XS.icmpYes X0.here hx rfl (pc0 := 70) (pc' := 91) rfl (hb hby d25_70) rfl (feq hc70).2 (by decide) (by decide) ?_
            show Steps p.tables e below (s₁.setTop (mkF m 91 #[.val (.int kk), .val (.int cv), .val (.int (own_dig cv))] [])) _
            refine XS.iloadN X0.here hx rfl (hb hby d25_91) rfl ?_
            refine XS.iconst X0.here hx rfl (hb hby d25_92) ?_
            show Steps p.tables e below (s₁.setTop (mkF m 93 #[.val (.int kk), .val (.int cv), .val (.int (own_dig cv))] [(.int (3 : Int32)), (.int kk)])) _
            exact κ)
          by_cases hc93 : kk = (3 : Int32)
          · have pre34 := fun τ (κ : Steps p.tables e below (s₁.setTop (mkF m 99 #[.val (.int kk), .val (.int cv), .val (.int (own_dig cv))] [(.int (48 : Int32)), (.int cv)])) τ) => pre33 τ (by
              refine XS.icmpNo X0.here hx rfl (hb hby d25_93) rfl (teq hc93).2 ?_
              show Steps p.tables e below (s₁.setTop (mkF m 96 #[.val (.int kk), .val (.int cv), .val (.int (own_dig cv))] [])) _
              refine XS.iloadN X0.here hx rfl (hb hby d25_96) rfl ?_
              refine XS.bipush X0.here hx rfl (hb hby d25_97) ?_
              show Steps p.tables e below (s₁.setTop (mkF m 99 #[.val (.int kk), .val (.int cv), .val (.int (own_dig cv))] [(.int (48 : Int32)), (.int cv)])) _
              exact κ)
            by_cases hc99 : cv < (48 : Int32)
            · have pre35 := fun τ (κ : Steps p.tables e below (s₁.setTop (mkF m 111 #[.val (.int kk), .val (.int cv), .val (.int (own_dig cv))] [(.int (60 : Int32)), (.int cv)])) τ) => pre34 τ (by
                refine XS.icmpYes X0.here hx rfl (pc0 := 99) (pc' := 108) rfl (hb hby d25_99) rfl (tlt hc99).1 (by decide) (by decide) ?_
                show Steps p.tables e below (s₁.setTop (mkF m 108 #[.val (.int kk), .val (.int cv), .val (.int (own_dig cv))] [])) _
                refine XS.iloadN X0.here hx rfl (hb hby d25_108) rfl ?_
                refine XS.bipush X0.here hx rfl (hb hby d25_109) ?_
                show Steps p.tables e below (s₁.setTop (mkF m 111 #[.val (.int kk), .val (.int cv), .val (.int (own_dig cv))] [(.int (60 : Int32)), (.int cv)])) _
                exact κ)
              by_cases hc111 : cv < (60 : Int32)
              · have pre36 := fun τ (κ : Steps p.tables e below (s₁.setTop (mkF m 125 #[.val (.int kk), .val (.int cv), .val (.int (own_dig cv))] [(.int (0 : Int32))])) τ) => pre35 τ (by
                  refine XS.icmpYes X0.here hx rfl (pc0 := 111) (pc' := 124) rfl (hb hby d25_111) rfl (tlt hc111).1 (by decide) (by decide) ?_
                  show Steps p.tables e below (s₁.setTop (mkF m 124 #[.val (.int kk), .val (.int cv), .val (.int (own_dig cv))] [])) _
                  refine XS.iconst X0.here hx rfl (hb hby d25_124) ?_
                  show Steps p.tables e below (s₁.setTop (mkF m 125 #[.val (.int kk), .val (.int cv), .val (.int (own_dig cv))] [(.int (0 : Int32))])) _
                  exact κ)
                obtain ⟨fs, hr, hrun, hended, hW, hsame⟩ := X0.leave (v := some (.int (0 : Int32))) (fun h => by rw [Bd.returns] at h; cases h)
                refine ⟨_, _, pre36 _ ?_, hrun, hended, _, _, rfl, ?_, ⟨_, rfl⟩, hW, hsame.mono (by decide) (by decide)⟩
                · exact retN X0 hx (t := .boolean) Bd.returns (by simp) (hb hby d25_125) hr
                · show Q25 Z kk cv h0 n0 _ s₁.heap _
                  rw [e0]
                  exact ⟨(by simp (decide := true) [own_inR, hc19, hc24, hc31, hc70, hc93, hc99, hc111]), N0, rfl⟩
              · have pre37 := fun τ (κ : Steps p.tables e below (s₁.setTop (mkF m 117 #[.val (.int kk), .val (.int cv), .val (.int (own_dig cv))] [(.int (62 : Int32)), (.int cv)])) τ) => pre35 τ (by
                  refine XS.icmpNo X0.here hx rfl (hb hby d25_111) rfl (flt hc111).1 ?_
                  show Steps p.tables e below (s₁.setTop (mkF m 114 #[.val (.int kk), .val (.int cv), .val (.int (own_dig cv))] [])) _
                  refine XS.iloadN X0.here hx rfl (hb hby d25_114) rfl ?_
                  refine XS.bipush X0.here hx rfl (hb hby d25_115) ?_
                  show Steps p.tables e below (s₁.setTop (mkF m 117 #[.val (.int kk), .val (.int cv), .val (.int (own_dig cv))] [(.int (62 : Int32)), (.int cv)])) _
                  exact κ)
                by_cases hc117 : (62 : Int32) < cv
                · have pre38 := fun τ (κ : Steps p.tables e below (s₁.setTop (mkF m 125 #[.val (.int kk), .val (.int cv), .val (.int (own_dig cv))] [(.int (0 : Int32))])) τ) => pre37 τ (by
                    refine XS.icmpYes X0.here hx rfl (pc0 := 117) (pc' := 124) rfl (hb hby d25_117) rfl (tlt hc117).2.2.1 (by decide) (by decide) ?_
                    show Steps p.tables e below (s₁.setTop (mkF m 124 #[.val (.int kk), .val (.int cv), .val (.int (own_dig cv))] [])) _
                    refine XS.iconst X0.here hx rfl (hb hby d25_124) ?_
                    show Steps p.tables e below (s₁.setTop (mkF m 125 #[.val (.int kk), .val (.int cv), .val (.int (own_dig cv))] [(.int (0 : Int32))])) _
                    exact κ)
                  obtain ⟨fs, hr, hrun, hended, hW, hsame⟩ := X0.leave (v := some (.int (0 : Int32))) (fun h => by rw [Bd.returns] at h; cases h)
                  refine ⟨_, _, pre38 _ ?_, hrun, hended, _, _, rfl, ?_, ⟨_, rfl⟩, hW, hsame.mono (by decide) (by decide)⟩
                  · exact retN X0 hx (t := .boolean) Bd.returns (by simp) (hb hby d25_125) hr
                  · show Q25 Z kk cv h0 n0 _ s₁.heap _
                    rw [e0]
                    exact ⟨(by simp (decide := true) [own_inR, hc19, hc24, hc31, hc70, hc93, hc99, hc111, hc117]), N0, rfl⟩
                · have pre39 := fun τ (κ : Steps p.tables e below (s₁.setTop (mkF m 125 #[.val (.int kk), .val (.int cv), .val (.int (own_dig cv))] [(.int (1 : Int32))])) τ) => pre37 τ (by
                    refine XS.icmpNo X0.here hx rfl (hb hby d25_117) rfl (flt hc117).2.2.1 ?_
                    show Steps p.tables e below (s₁.setTop (mkF m 120 #[.val (.int kk), .val (.int cv), .val (.int (own_dig cv))] [])) _
                    refine XS.iconst X0.here hx rfl (hb hby d25_120) ?_
                    refine XS.goto X0.here hx rfl (pc0 := 121) (pc' := 125) rfl (hb hby d25_121) (by decide) (by decide) ?_
                    show Steps p.tables e below (s₁.setTop (mkF m 125 #[.val (.int kk), .val (.int cv), .val (.int (own_dig cv))] [(.int (1 : Int32))])) _
                    exact κ)
                  obtain ⟨fs, hr, hrun, hended, hW, hsame⟩ := X0.leave (v := some (.int (1 : Int32))) (fun h => by rw [Bd.returns] at h; cases h)
                  refine ⟨_, _, pre39 _ ?_, hrun, hended, _, _, rfl, ?_, ⟨_, rfl⟩, hW, hsame.mono (by decide) (by decide)⟩
                  · exact retN X0 hx (t := .boolean) Bd.returns (by simp) (hb hby d25_125) hr
                  · show Q25 Z kk cv h0 n0 _ s₁.heap _
                    rw [e0]
                    exact ⟨(by simp (decide := true) [own_inR, hc19, hc24, hc31, hc70, hc93, hc99, hc111, hc117]), N0, rfl⟩
            · have pre40 := fun τ (κ : Steps p.tables e below (s₁.setTop (mkF m 105 #[.val (.int kk), .val (.int cv), .val (.int (own_dig cv))] [(.int (58 : Int32)), (.int cv)])) τ) => pre34 τ (by
                refine XS.icmpNo X0.here hx rfl (hb hby d25_99) rfl (flt hc99).1 ?_
                show Steps p.tables e below (s₁.setTop (mkF m 102 #[.val (.int kk), .val (.int cv), .val (.int (own_dig cv))] [])) _
                refine XS.iloadN X0.here hx rfl (hb hby d25_102) rfl ?_
                refine XS.bipush X0.here hx rfl (hb hby d25_103) ?_
                show Steps p.tables e below (s₁.setTop (mkF m 105 #[.val (.int kk), .val (.int cv), .val (.int (own_dig cv))] [(.int (58 : Int32)), (.int cv)])) _
                exact κ)
              by_cases hc105 : (58 : Int32) < cv
              · have pre41 := fun τ (κ : Steps p.tables e below (s₁.setTop (mkF m 111 #[.val (.int kk), .val (.int cv), .val (.int (own_dig cv))] [(.int (60 : Int32)), (.int cv)])) τ) => pre40 τ (by
                  refine XS.icmpNo X0.here hx rfl (hb hby d25_105) rfl (tlt hc105).2.2.2 ?_
                  show Steps p.tables e below (s₁.setTop (mkF m 108 #[.val (.int kk), .val (.int cv), .val (.int (own_dig cv))] [])) _
                  refine XS.iloadN X0.here hx rfl (hb hby d25_108) rfl ?_
                  refine XS.bipush X0.here hx rfl (hb hby d25_109) ?_
                  show Steps p.tables e below (s₁.setTop (mkF m 111 #[.val (.int kk), .val (.int cv), .val (.int (own_dig cv))] [(.int (60 : Int32)), (.int cv)])) _
                  exact κ)
                by_cases hc111 : cv < (60 : Int32)
                · have pre42 := fun τ (κ : Steps p.tables e below (s₁.setTop (mkF m 125 #[.val (.int kk), .val (.int cv), .val (.int (own_dig cv))] [(.int (0 : Int32))])) τ) => pre41 τ (by
                    refine XS.icmpYes X0.here hx rfl (pc0 := 111) (pc' := 124) rfl (hb hby d25_111) rfl (tlt hc111).1 (by decide) (by decide) ?_
                    show Steps p.tables e below (s₁.setTop (mkF m 124 #[.val (.int kk), .val (.int cv), .val (.int (own_dig cv))] [])) _
                    refine XS.iconst X0.here hx rfl (hb hby d25_124) ?_
                    show Steps p.tables e below (s₁.setTop (mkF m 125 #[.val (.int kk), .val (.int cv), .val (.int (own_dig cv))] [(.int (0 : Int32))])) _
                    exact κ)
                  obtain ⟨fs, hr, hrun, hended, hW, hsame⟩ := X0.leave (v := some (.int (0 : Int32))) (fun h => by rw [Bd.returns] at h; cases h)
                  refine ⟨_, _, pre42 _ ?_, hrun, hended, _, _, rfl, ?_, ⟨_, rfl⟩, hW, hsame.mono (by decide) (by decide)⟩
                  · exact retN X0 hx (t := .boolean) Bd.returns (by simp) (hb hby d25_125) hr
                  · show Q25 Z kk cv h0 n0 _ s₁.heap _
                    rw [e0]
                    exact ⟨(by simp (decide := true) [own_inR, hc19, hc24, hc31, hc70, hc93, hc99, hc105, hc111]), N0, rfl⟩
                · have pre43 := fun τ (κ : Steps p.tables e below (s₁.setTop (mkF m 117 #[.val (.int kk), .val (.int cv), .val (.int (own_dig cv))] [(.int (62 : Int32)), (.int cv)])) τ) => pre41 τ (by
                    refine XS.icmpNo X0.here hx rfl (hb hby d25_111) rfl (flt hc111).1 ?_
                    show Steps p.tables e below (s₁.setTop (mkF m 114 #[.val (.int kk), .val (.int cv), .val (.int (own_dig cv))] [])) _
                    refine XS.iloadN X0.here hx rfl (hb hby d25_114) rfl ?_
                    refine XS.bipush X0.here hx rfl (hb hby d25_115) ?_
                    show Steps p.tables e below (s₁.setTop (mkF m 117 #[.val (.int kk), .val (.int cv), .val (.int (own_dig cv))] [(.int (62 : Int32)), (.int cv)])) _
                    exact κ)
                  by_cases hc117 : (62 : Int32) < cv
                  · have pre44 := fun τ (κ : Steps p.tables e below (s₁.setTop (mkF m 125 #[.val (.int kk), .val (.int cv), .val (.int (own_dig cv))] [(.int (0 : Int32))])) τ) => pre43 τ (by
                      refine XS.icmpYes X0.here hx rfl (pc0 := 117) (pc' := 124) rfl (hb hby d25_117) rfl (tlt hc117).2.2.1 (by decide) (by decide) ?_
                      show Steps p.tables e below (s₁.setTop (mkF m 124 #[.val (.int kk), .val (.int cv), .val (.int (own_dig cv))] [])) _
                      refine XS.iconst X0.here hx rfl (hb hby d25_124) ?_
                      show Steps p.tables e below (s₁.setTop (mkF m 125 #[.val (.int kk), .val (.int cv), .val (.int (own_dig cv))] [(.int (0 : Int32))])) _
                      exact κ)
                    obtain ⟨fs, hr, hrun, hended, hW, hsame⟩ := X0.leave (v := some (.int (0 : Int32))) (fun h => by rw [Bd.returns] at h; cases h)
                    refine ⟨_, _, pre44 _ ?_, hrun, hended, _, _, rfl, ?_, ⟨_, rfl⟩, hW, hsame.mono (by decide) (by decide)⟩
                    · exact retN X0 hx (t := .boolean) Bd.returns (by simp) (hb hby d25_125) hr
                    · show Q25 Z kk cv h0 n0 _ s₁.heap _
                      rw [e0]
                      exact ⟨(by simp (decide := true) [own_inR, hc19, hc24, hc31, hc70, hc93, hc99, hc105, hc111, hc117]), N0, rfl⟩
                  · have pre45 := fun τ (κ : Steps p.tables e below (s₁.setTop (mkF m 125 #[.val (.int kk), .val (.int cv), .val (.int (own_dig cv))] [(.int (1 : Int32))])) τ) => pre43 τ (by
                      refine XS.icmpNo X0.here hx rfl (hb hby d25_117) rfl (flt hc117).2.2.1 ?_
                      show Steps p.tables e below (s₁.setTop (mkF m 120 #[.val (.int kk), .val (.int cv), .val (.int (own_dig cv))] [])) _
                      refine XS.iconst X0.here hx rfl (hb hby d25_120) ?_
                      refine XS.goto X0.here hx rfl (pc0 := 121) (pc' := 125) rfl (hb hby d25_121) (by decide) (by decide) ?_
                      show Steps p.tables e below (s₁.setTop (mkF m 125 #[.val (.int kk), .val (.int cv), .val (.int (own_dig cv))] [(.int (1 : Int32))])) _
                      exact κ)
                    obtain ⟨fs, hr, hrun, hended, hW, hsame⟩ := X0.leave (v := some (.int (1 : Int32))) (fun h => by rw [Bd.returns] at h; cases h)
                    refine ⟨_, _, pre45 _ ?_, hrun, hended, _, _, rfl, ?_, ⟨_, rfl⟩, hW, hsame.mono (by decide) (by decide)⟩
                    · exact retN X0 hx (t := .boolean) Bd.returns (by simp) (hb hby d25_125) hr
                    · show Q25 Z kk cv h0 n0 _ s₁.heap _
                      rw [e0]
                      exact ⟨(by simp (decide := true) [own_inR, hc19, hc24, hc31, hc70, hc93, hc99, hc105, hc111, hc117]), N0, rfl⟩
              · have pre46 := fun τ (κ : Steps p.tables e below (s₁.setTop (mkF m 125 #[.val (.int kk), .val (.int cv), .val (.int (own_dig cv))] [(.int (1 : Int32))])) τ) => pre40 τ (by
                  refine XS.icmpYes X0.here hx rfl (pc0 := 105) (pc' := 120) rfl (hb hby d25_105) rfl (flt hc105).2.2.2 (by decide) (by decide) ?_
                  show Steps p.tables e below (s₁.setTop (mkF m 120 #[.val (.int kk), .val (.int cv), .val (.int (own_dig cv))] [])) _
                  refine XS.iconst X0.here hx rfl (hb hby d25_120) ?_
                  refine XS.goto X0.here hx rfl (pc0 := 121) (pc' := 125) rfl (hb hby d25_121) (by decide) (by decide) ?_
                  show Steps p.tables e below (s₁.setTop (mkF m 125 #[.val (.int kk), .val (.int cv), .val (.int (own_dig cv))] [(.int (1 : Int32))])) _
                  exact κ)
                obtain ⟨fs, hr, hrun, hended, hW, hsame⟩ := X0.leave (v := some (.int (1 : Int32))) (fun h => by rw [Bd.returns] at h; cases h)
                refine ⟨_, _, pre46 _ ?_, hrun, hended, _, _, rfl, ?_, ⟨_, rfl⟩, hW, hsame.mono (by decide) (by decide)⟩
                · exact retN X0 hx (t := .boolean) Bd.returns (by simp) (hb hby d25_125) hr
                · show Q25 Z kk cv h0 n0 _ s₁.heap _
                  rw [e0]
                  exact ⟨(by simp (decide := true) [own_inR, hc19, hc24, hc31, hc70, hc93, hc99, hc105]), N0, rfl⟩
          · have pre47 := fun τ (κ : Steps p.tables e below (s₁.setTop (mkF m 130 #[.val (.int kk), .val (.int cv), .val (.int (own_dig cv))] [(.int (255 : Int32)), (.int cv)])) τ) => pre33 τ (by
              refine XS.icmpYes X0.here hx rfl (pc0 := 93) (pc' := 126) rfl (hb hby d25_93) rfl (feq hc93).2 (by decide) (by decide) ?_
              show Steps p.tables e below (s₁.setTop (mkF m 126 #[.val (.int kk), .val (.int cv), .val (.int (own_dig cv))] [])) _
              refine XS.iloadN X0.here hx rfl (hb hby d25_126) rfl ?_
              refine XS.sipush X0.here hx rfl (hb hby d25_127) ?_
              show Steps p.tables e below (s₁.setTop (mkF m 130 #[.val (.int kk), .val (.int cv), .val (.int (own_dig cv))] [(.int (255 : Int32)), (.int cv)])) _
              exact κ)
            by_cases hc130 : (255 : Int32) < cv
            · have pre48 := fun τ (κ : Steps p.tables e below (s₁.setTop (mkF m 138 #[.val (.int kk), .val (.int cv), .val (.int (own_dig cv))] [(.int (0 : Int32))])) τ) => pre47 τ (by
                refine XS.icmpYes X0.here hx rfl (pc0 := 130) (pc' := 137) rfl (hb hby d25_130) rfl (tlt hc130).2.2.1 (by decide) (by decide) ?_
                show Steps p.tables e below (s₁.setTop (mkF m 137 #[.val (.int kk), .val (.int cv), .val (.int (own_dig cv))] [])) _
                refine XS.iconst X0.here hx rfl (hb hby d25_137) ?_
                show Steps p.tables e below (s₁.setTop (mkF m 138 #[.val (.int kk), .val (.int cv), .val (.int (own_dig cv))] [(.int (0 : Int32))])) _
                exact κ)
              obtain ⟨fs, hr, hrun, hended, hW, hsame⟩ := X0.leave (v := some (.int (0 : Int32))) (fun h => by rw [Bd.returns] at h; cases h)
              refine ⟨_, _, pre48 _ ?_, hrun, hended, _, _, rfl, ?_, ⟨_, rfl⟩, hW, hsame.mono (by decide) (by decide)⟩
              · exact retN X0 hx (t := .boolean) Bd.returns (by simp) (hb hby d25_138) hr
              · show Q25 Z kk cv h0 n0 _ s₁.heap _
                rw [e0]
                exact ⟨(by simp (decide := true) [own_inR, hc19, hc24, hc31, hc70, hc93, hc130]), N0, rfl⟩
            · have pre49 := fun τ (κ : Steps p.tables e below (s₁.setTop (mkF m 138 #[.val (.int kk), .val (.int cv), .val (.int (own_dig cv))] [(.int (1 : Int32))])) τ) => pre47 τ (by
                refine XS.icmpNo X0.here hx rfl (hb hby d25_130) rfl (flt hc130).2.2.1 ?_
                show Steps p.tables e below (s₁.setTop (mkF m 133 #[.val (.int kk), .val (.int cv), .val (.int (own_dig cv))] [])) _
                refine XS.iconst X0.here hx rfl (hb hby d25_133) ?_
                refine XS.goto X0.here hx rfl (pc0 := 134) (pc' := 138) rfl (hb hby d25_134) (by decide) (by decide) ?_
                show Steps p.tables e below (s₁.setTop (mkF m 138 #[.val (.int kk), .val (.int cv), .val (.int (own_dig cv))] [(.int (1 : Int32))])) _
                exact κ)
              obtain ⟨fs, hr, hrun, hended, hW, hsame⟩ := X0.leave (v := some (.int (1 : Int32))) (fun h => by rw [Bd.returns] at h; cases h)
              refine ⟨_, _, pre49 _ ?_, hrun, hended, _, _, rfl, ?_, ⟨_, rfl⟩, hW, hsame.mono (by decide) (by decide)⟩
              · exact retN X0 hx (t := .boolean) Bd.returns (by simp) (hb hby d25_138) hr
              · show Q25 Z kk cv h0 n0 _ s₁.heap _
                rw [e0]
                exact ⟨(by simp (decide := true) [own_inR, hc19, hc24, hc31, hc70, hc93, hc130]), N0, rfl⟩
theorem ef_26 (m : MethodId) (kk : Int32) (cv : Int32) : entryFrame m #[(.int kk), (.int cv)] 2 = mkF m 0 #[.val (.int kk), .val (.int cv)] [] := by first | (simp [entryFrame, mkF, argsToLocals, Value.category]; done) | rfl
def Q26 (Z : State) (kk : Int32) (cv : Int32) (h0 : Heap) (n0 : Nat) (v : Option Value) (h : Heap) (L : List Loc) : Prop := v = some (.int (own_pd kk cv)) ∧ Fr n0 L ∧ h = h0
set_option maxRecDepth 65536 in
set_option maxHeartbeats 40000000 in
theorem rm26 (l : Launch) (Z : State) (a0 : Array Value) (hw : ∀ d ∈ tables_1, d.before a0 Z = true) (ws : List Jvm.Cond) (kk : Int32) (cv : Int32) (h0 : Heap) (n0 : Nat) (Z0 : n0 ≤ h0.size) :
    MetFree l (⟨"com/example/huiqiao/huiqiao/iso8583/ContentRunsFromPinLaw", "padOnly", "(IC)Z"⟩ : MethodName) (head1 (Jvm.Cond.code (⟨"com/example/huiqiao/huiqiao/iso8583/ContentRunsFromPinLaw", "padOnly", "(IC)Z"⟩ : MethodName) method_3_code 2 (some .boolean) :: ws) ({ frames := 1, cells := 0, slots := 0, locals := 14 } : Room)) (fun α υ => α = #[(.int kk), (.int cv)] ∧ Z.Warmed39 υ.vm ∧ υ.heap = h0) (fun _ _ _ _ _ => True) (fun _ υ ω υ' => ∃ v L, ω = .returned v ∧ Q26 Z kk cv h0 n0 v υ'.heap L ∧ FrameEnd υ ω υ' L ({ frames := 1, cells := 0, slots := 0, locals := 14 } : Room).cells ({ frames := 1, cells := 0, slots := 0, locals := 14 } : Room).slots) := by
  refine MetFree.of_bodySF (plainFor_of_name pn_com_example_huiqiao_huiqiao_iso8583_ContentRunsFromPinLaw) hisR ?_
  intro p e s m args below meth c s₁ Bd hml0 hP hK
  obtain ⟨rfl, hZ, hh⟩ := hP
  have hx := Bd.exec
  have hby := Bd.bytes
  have hml : c.maxLocals = 2 := hml0
  have hown : s.vm.findClass "com/example/huiqiao/huiqiao/iso8583/ContentRunsFromPinLaw" = some m.cls := findClass_of_methodNamed Bd.named
  have hnm := (name_of_methodNamed Bd.named Bd.method).1
  have X0 : Stand p l e ({ frames := 1, cells := 0, slots := 0, locals := 14 } : Room) s m #[(.int kk), (.int cv)] below meth c s₁ [] 0 0 := Stand.of_body Bd
  have e0 : s₁.heap = h0 := by rw [← hh, Bd.state]; rfl
  have N0 := Fr.nil n0
  have pre0 : ∀ τ, Steps p.tables e below (s₁.setTop (mkF m 0 #[.val (.int kk), .val (.int cv)] [])) τ → Steps p.tables e below (s₁.setTop (entryFrame m #[(.int kk), (.int cv)] 2)) τ := fun τ κ => castTop (ef_26 m kk cv) κ
  have pre1 := fun τ (κ : Steps p.tables e below (s₁.setTop (mkF m 2 #[.val (.int kk), .val (.int cv)] [(.int (1 : Int32)), (.int kk)])) τ) => pre0 τ (by
    refine XS.iloadN X0.here hx rfl (hb hby d26_0) rfl ?_
    refine XS.iconst X0.here hx rfl (hb hby d26_1) ?_
    show Steps p.tables e below (s₁.setTop (mkF m 2 #[.val (.int kk), .val (.int cv)] [(.int (1 : Int32)), (.int kk)])) _
    exact κ)
  by_cases q1 : kk = (1 : Int32)
  · have pre2 := fun τ (κ : Steps p.tables e below (s₁.setTop (mkF m 8 #[.val (.int kk), .val (.int cv)] [(.int (32 : Int32)), (.int cv)])) τ) => pre1 τ (by
      refine XS.icmpNo X0.here hx rfl (hb hby d26_2) rfl (teq q1).2 ?_
      show Steps p.tables e below (s₁.setTop (mkF m 5 #[.val (.int kk), .val (.int cv)] [])) _
      refine XS.iloadN X0.here hx rfl (hb hby d26_5) rfl ?_
      refine XS.bipush X0.here hx rfl (hb hby d26_6) ?_
      show Steps p.tables e below (s₁.setTop (mkF m 8 #[.val (.int kk), .val (.int cv)] [(.int (32 : Int32)), (.int cv)])) _
      exact κ)
    by_cases q2 : cv = (32 : Int32)
    · have pre3 := fun τ (κ : Steps p.tables e below (s₁.setTop (mkF m 13 #[.val (.int kk), .val (.int cv)] [(.int cv), (.int kk)])) τ) => pre2 τ (by
        refine XS.icmpNo X0.here hx rfl (hb hby d26_8) rfl (teq q2).2 ?_
        show Steps p.tables e below (s₁.setTop (mkF m 11 #[.val (.int kk), .val (.int cv)] [])) _
        refine XS.iloadN X0.here hx rfl (hb hby d26_11) rfl ?_
        refine XS.iloadN X0.here hx rfl (hb hby d26_12) rfl ?_
        show Steps p.tables e below (s₁.setTop (mkF m 13 #[.val (.int kk), .val (.int cv)] [(.int cv), (.int kk)])) _
        exact κ)
      obtain ⟨_, _, ⟨T4, L4, k4, n4⟩, -, X4, ⟨Lc4, hQ4, l4, y4, z4⟩, st4⟩ := Jvm.LawKit.callS X0 hx (y := (⟨"com/example/huiqiao/huiqiao/iso8583/ContentRunsFromPinLaw", "inRun", "(IC)Z"⟩ : MethodName)) hown (mvT hZ (hw _ (List.mem_of_getElem? (i := 122) rfl))) (mvT hZ (hw _ (List.mem_of_getElem? (i := 123) rfl))) (mvT hZ (hw _ (List.mem_of_getElem? (i := 24) rfl))) (mvT hZ (hw _ (List.mem_of_getElem? (i := 124) rfl))) (by decide) (backOf (W := 0) (rm25 l Z a0 hw [] kk cv h0 n0 Z0) hZ (hw _ (List.mem_of_getElem? (i := 124) rfl)) (hw _ (List.mem_of_getElem? (i := 24) rfl)) (Nat.le_of_ble_eq_true rfl) (Nat.le_of_ble_eq_true rfl)) (g := (mkF m 13 #[.val (.int kk), .val (.int cv)] [(.int cv), (.int kk)])) rfl (by rw [hml]; rfl) (argsL := [(.int kk), (.int cv)]) (rest := []) (lenOf pd_14 rfl) rfl (by show 2 * 0 + _ ≤ _; exact Nat.le_of_eq rfl) (hb hby d26_13) (fun _ _ => ⟨rfl, e0, (by decide : 0 + 0 ≤ _), (by decide : 0 + 0 ≤ _)⟩)
      dsimp only [Pt.U, Pt.locs, Pt.cells, Pt.slots] at X4 l4 y4 z4 st4 hQ4
      subst l4 y4 z4
      obtain ⟨rfl, Nq4, hh4⟩ := hQ4
      have Z4 : n0 ≤ T4.heap.size := by rw [hh4]; exact Z0
      have N4 := Fr.app N0 Nq4
      have pre5 := fun τ (κ : Steps p.tables e below (T4.setTop (mkF m 16 #[.val (.int kk), .val (.int cv)] [(.int (own_inR kk cv))])) τ) => pre3 τ (st4 _ κ)
      by_cases q3 : (own_inR kk cv) = (0 : Int32)
      · have pre6 := fun τ (κ : Steps p.tables e below (T4.setTop (mkF m 24 #[.val (.int kk), .val (.int cv)] [(.int (1 : Int32))])) τ) => pre5 τ (by
          refine XS.ifNo X4.here hx rfl (hb hby d26_16) rfl ((if0 _ _).trans (teq q3).2) ?_
          show Steps p.tables e below (T4.setTop (mkF m 19 #[.val (.int kk), .val (.int cv)] [])) _
          refine XS.iconst X4.here hx rfl (hb hby d26_19) ?_
          refine XS.goto X4.here hx rfl (pc0 := 20) (pc' := 24) rfl (hb hby d26_20) (by decide) (by decide) ?_
          show Steps p.tables e below (T4.setTop (mkF m 24 #[.val (.int kk), .val (.int cv)] [(.int (1 : Int32))])) _
          exact κ)
        obtain ⟨fs, hr, hrun, hended, hW, hsame⟩ := X4.leave (v := some (.int (1 : Int32))) (fun h => by rw [Bd.returns] at h; cases h)
        refine ⟨_, _, pre6 _ ?_, hrun, hended, _, _, rfl, ?_, ⟨_, rfl⟩, hW, hsame.mono (by decide) (by decide)⟩
        · exact retN X4 hx (t := .boolean) Bd.returns (by simp) (hb hby d26_24) hr
        · show Q26 Z kk cv h0 n0 _ T4.heap _
          exact ⟨(by rw [own_pd, if_pos ⟨q1, q2, q3⟩]), N4, hh4⟩
      · have pre7 := fun τ (κ : Steps p.tables e below (T4.setTop (mkF m 24 #[.val (.int kk), .val (.int cv)] [(.int (0 : Int32))])) τ) => pre5 τ (by
          refine XS.ifYes X4.here hx rfl (pc0 := 16) (pc' := 23) rfl (hb hby d26_16) rfl ((if0 _ _).trans (feq q3).2) (by decide) (by decide) ?_
          show Steps p.tables e below (T4.setTop (mkF m 23 #[.val (.int kk), .val (.int cv)] [])) _
          refine XS.iconst X4.here hx rfl (hb hby d26_23) ?_
          show Steps p.tables e below (T4.setTop (mkF m 24 #[.val (.int kk), .val (.int cv)] [(.int (0 : Int32))])) _
          exact κ)
        obtain ⟨fs, hr, hrun, hended, hW, hsame⟩ := X4.leave (v := some (.int (0 : Int32))) (fun h => by rw [Bd.returns] at h; cases h)
        refine ⟨_, _, pre7 _ ?_, hrun, hended, _, _, rfl, ?_, ⟨_, rfl⟩, hW, hsame.mono (by decide) (by decide)⟩
        · exact retN X4 hx (t := .boolean) Bd.returns (by simp) (hb hby d26_24) hr
        · show Q26 Z kk cv h0 n0 _ T4.heap _
          exact ⟨(by rw [own_pd, if_neg fun z => q3 z.2.2]), N4, hh4⟩
    · have pre8 := fun τ (κ : Steps p.tables e below (s₁.setTop (mkF m 24 #[.val (.int kk), .val (.int cv)] [(.int (0 : Int32))])) τ) => pre2 τ (by
        refine XS.icmpYes X0.here hx rfl (pc0 := 8) (pc' := 23) rfl (hb hby d26_8) rfl (feq q2).2 (by decide) (by decide) ?_
        show Steps p.tables e below (s₁.setTop (mkF m 23 #[.val (.int kk), .val (.int cv)] [])) _
        refine XS.iconst X0.here hx rfl (hb hby d26_23) ?_
        show Steps p.tables e below (s₁.setTop (mkF m 24 #[.val (.int kk), .val (.int cv)] [(.int (0 : Int32))])) _
        exact κ)
      obtain ⟨fs, hr, hrun, hended, hW, hsame⟩ := X0.leave (v := some (.int (0 : Int32))) (fun h => by rw [Bd.returns] at h; cases h)
      refine ⟨_, _, pre8 _ ?_, hrun, hended, _, _, rfl, ?_, ⟨_, rfl⟩, hW, hsame.mono (by decide) (by decide)⟩
      · exact retN X0 hx (t := .boolean) Bd.returns (by simp) (hb hby d26_24) hr
      · show Q26 Z kk cv h0 n0 _ s₁.heap _
        rw [e0]
        exact ⟨(by rw [own_pd, if_neg fun z => q2 z.2.1]), N0, rfl⟩
  · have pre9 := fun τ (κ : Steps p.tables e below (s₁.setTop (mkF m 24 #[.val (.int kk), .val (.int cv)] [(.int (0 : Int32))])) τ) => pre1 τ (by
      refine XS.icmpYes X0.here hx rfl (pc0 := 2) (pc' := 23) rfl (hb hby d26_2) rfl (feq q1).2 (by decide) (by decide) ?_
      show Steps p.tables e below (s₁.setTop (mkF m 23 #[.val (.int kk), .val (.int cv)] [])) _
      refine XS.iconst X0.here hx rfl (hb hby d26_23) ?_
      show Steps p.tables e below (s₁.setTop (mkF m 24 #[.val (.int kk), .val (.int cv)] [(.int (0 : Int32))])) _
      exact κ)
    obtain ⟨fs, hr, hrun, hended, hW, hsame⟩ := X0.leave (v := some (.int (0 : Int32))) (fun h => by rw [Bd.returns] at h; cases h)
    refine ⟨_, _, pre9 _ ?_, hrun, hended, _, _, rfl, ?_, ⟨_, rfl⟩, hW, hsame.mono (by decide) (by decide)⟩
    · exact retN X0 hx (t := .boolean) Bd.returns (by simp) (hb hby d26_24) hr
    · show Q26 Z kk cv h0 n0 _ s₁.heap _
      rw [e0]
      exact ⟨(by rw [own_pd, if_neg fun z => q1 z.1]), N0, rfl⟩
theorem ef_24 (m : MethodId) (kk : Int32) (cv : Int32) : entryFrame m #[(.int kk), (.int cv)] 2 = mkF m 0 #[.val (.int kk), .val (.int cv)] [] := by first | (simp [entryFrame, mkF, argsToLocals, Value.category]; done) | rfl
def Q24 (Z : State) (kk : Int32) (cv : Int32) (h0 : Heap) (n0 : Nat) (v : Option Value) (h : Heap) (L : List Loc) : Prop := v = some (.int (own_gd kk cv)) ∧ Fr n0 L ∧ h = h0
set_option maxRecDepth 65536 in
set_option maxHeartbeats 40000000 in
theorem rm24 (l : Launch) (Z : State) (a0 : Array Value) (hw : ∀ d ∈ tables_1, d.before a0 Z = true) (ws : List Jvm.Cond) (kk : Int32) (cv : Int32) (h0 : Heap) (n0 : Nat) (Z0 : n0 ≤ h0.size) :
    MetFree l (⟨"com/example/huiqiao/huiqiao/iso8583/ContentRunsFromPinLaw", "good", "(IC)Z"⟩ : MethodName) (head1 (Jvm.Cond.code (⟨"com/example/huiqiao/huiqiao/iso8583/ContentRunsFromPinLaw", "good", "(IC)Z"⟩ : MethodName) method_4_code 2 (some .boolean) :: ws) ({ frames := 2, cells := 0, slots := 0, locals := 27 } : Room)) (fun α υ => α = #[(.int kk), (.int cv)] ∧ Z.Warmed39 υ.vm ∧ υ.heap = h0) (fun _ _ _ _ _ => True) (fun _ υ ω υ' => ∃ v L, ω = .returned v ∧ Q24 Z kk cv h0 n0 v υ'.heap L ∧ FrameEnd υ ω υ' L ({ frames := 2, cells := 0, slots := 0, locals := 27 } : Room).cells ({ frames := 2, cells := 0, slots := 0, locals := 27 } : Room).slots) := by
  refine MetFree.of_bodySF (plainFor_of_name pn_com_example_huiqiao_huiqiao_iso8583_ContentRunsFromPinLaw) hisR ?_
  intro p e s m args below meth c s₁ Bd hml0 hP hK
  obtain ⟨rfl, hZ, hh⟩ := hP
  have hx := Bd.exec
  have hby := Bd.bytes
  have hml : c.maxLocals = 2 := hml0
  have hown : s.vm.findClass "com/example/huiqiao/huiqiao/iso8583/ContentRunsFromPinLaw" = some m.cls := findClass_of_methodNamed Bd.named
  have hnm := (name_of_methodNamed Bd.named Bd.method).1
  have X0 : Stand p l e ({ frames := 2, cells := 0, slots := 0, locals := 27 } : Room) s m #[(.int kk), (.int cv)] below meth c s₁ [] 0 0 := Stand.of_body Bd
  have e0 : s₁.heap = h0 := by rw [← hh, Bd.state]; rfl
  have N0 := Fr.nil n0
  have pre0 : ∀ τ, Steps p.tables e below (s₁.setTop (mkF m 0 #[.val (.int kk), .val (.int cv)] [])) τ → Steps p.tables e below (s₁.setTop (entryFrame m #[(.int kk), (.int cv)] 2)) τ := fun τ κ => castTop (ef_24 m kk cv) κ
  have pre1 := fun τ (κ : Steps p.tables e below (s₁.setTop (mkF m 2 #[.val (.int kk), .val (.int cv)] [(.int cv), (.int kk)])) τ) => pre0 τ (by
    refine XS.iloadN X0.here hx rfl (hb hby d24_0) rfl ?_
    refine XS.iloadN X0.here hx rfl (hb hby d24_1) rfl ?_
    show Steps p.tables e below (s₁.setTop (mkF m 2 #[.val (.int kk), .val (.int cv)] [(.int cv), (.int kk)])) _
    exact κ)
  obtain ⟨_, _, ⟨T2, L2, k2, n2⟩, -, X2, ⟨Lc2, hQ2, l2, y2, z2⟩, st2⟩ := Jvm.LawKit.callS X0 hx (y := (⟨"com/example/huiqiao/huiqiao/iso8583/ContentRunsFromPinLaw", "inRun", "(IC)Z"⟩ : MethodName)) hown (mvT hZ (hw _ (List.mem_of_getElem? (i := 122) rfl))) (mvT hZ (hw _ (List.mem_of_getElem? (i := 123) rfl))) (mvT hZ (hw _ (List.mem_of_getElem? (i := 24) rfl))) (mvT hZ (hw _ (List.mem_of_getElem? (i := 124) rfl))) (by decide) (backOf (W := 0) (rm25 l Z a0 hw [] kk cv h0 n0 Z0) hZ (hw _ (List.mem_of_getElem? (i := 124) rfl)) (hw _ (List.mem_of_getElem? (i := 24) rfl)) (Nat.le_of_ble_eq_true rfl) (Nat.le_of_ble_eq_true rfl)) (g := (mkF m 2 #[.val (.int kk), .val (.int cv)] [(.int cv), (.int kk)])) rfl (by rw [hml]; rfl) (argsL := [(.int kk), (.int cv)]) (rest := []) (lenOf pd_14 rfl) rfl (by show 2 * 0 + _ ≤ _; exact Nat.le_of_eq rfl) (hb hby d24_2) (fun _ _ => ⟨rfl, e0, (by decide : 0 + 0 ≤ _), (by decide : 0 + 0 ≤ _)⟩)
  dsimp only [Pt.U, Pt.locs, Pt.cells, Pt.slots] at X2 l2 y2 z2 st2 hQ2
  subst l2 y2 z2
  obtain ⟨rfl, Nq2, hh2⟩ := hQ2
  have Z2 : n0 ≤ T2.heap.size := by rw [hh2]; exact Z0
  have N2 := Fr.app N0 Nq2
  have pre3 := fun τ (κ : Steps p.tables e below (T2.setTop (mkF m 5 #[.val (.int kk), .val (.int cv)] [(.int (own_inR kk cv))])) τ) => pre1 τ (st2 _ κ)
  by_cases q1 : (own_inR kk cv) = (0 : Int32)
  · have pre4 := fun τ (κ : Steps p.tables e below (T2.setTop (mkF m 10 #[.val (.int kk), .val (.int cv)] [(.int cv), (.int kk)])) τ) => pre3 τ (by
      refine XS.ifNo X2.here hx rfl (hb hby d24_5) rfl ((if0 _ _).trans (teq q1).2) ?_
      show Steps p.tables e below (T2.setTop (mkF m 8 #[.val (.int kk), .val (.int cv)] [])) _
      refine XS.iloadN X2.here hx rfl (hb hby d24_8) rfl ?_
      refine XS.iloadN X2.here hx rfl (hb hby d24_9) rfl ?_
      show Steps p.tables e below (T2.setTop (mkF m 10 #[.val (.int kk), .val (.int cv)] [(.int cv), (.int kk)])) _
      exact κ)
    obtain ⟨_, _, ⟨T5, L5, k5, n5⟩, -, X5, ⟨Lc5, hQ5, l5, y5, z5⟩, st5⟩ := Jvm.LawKit.callS X2 hx (y := (⟨"com/example/huiqiao/huiqiao/iso8583/ContentRunsFromPinLaw", "padOnly", "(IC)Z"⟩ : MethodName)) hown (mvT hZ (hw _ (List.mem_of_getElem? (i := 125) rfl))) (mvT hZ (hw _ (List.mem_of_getElem? (i := 126) rfl))) (mvT hZ (hw _ (List.mem_of_getElem? (i := 24) rfl))) (mvT hZ (hw _ (List.mem_of_getElem? (i := 127) rfl))) (by decide) (backOf (W := 0) (rm26 l Z a0 hw [] kk cv T2.heap n0 Z2) hZ (hw _ (List.mem_of_getElem? (i := 127) rfl)) (hw _ (List.mem_of_getElem? (i := 24) rfl)) (Nat.le_of_ble_eq_true rfl) (Nat.le_of_ble_eq_true rfl)) (g := (mkF m 10 #[.val (.int kk), .val (.int cv)] [(.int cv), (.int kk)])) rfl (by rw [hml]; rfl) (argsL := [(.int kk), (.int cv)]) (rest := []) (lenOf pd_14 rfl) rfl (by show 2 * 0 + _ ≤ _; exact Nat.le_of_eq rfl) (hb hby d24_10) (fun _ _ => ⟨rfl, rfl, (by decide : 0 + 0 ≤ _), (by decide : 0 + 0 ≤ _)⟩)
    dsimp only [Pt.U, Pt.locs, Pt.cells, Pt.slots] at X5 l5 y5 z5 st5 hQ5
    subst l5 y5 z5
    obtain ⟨rfl, Nq5, hh5⟩ := hQ5
    have Z5 : n0 ≤ T5.heap.size := by rw [hh5]; exact Z2
    have N5 := Fr.app N2 Nq5
    have pre6 := fun τ (κ : Steps p.tables e below (T5.setTop (mkF m 13 #[.val (.int kk), .val (.int cv)] [(.int (own_pd kk cv))])) τ) => pre4 τ (st5 _ κ)
    by_cases q2 : (own_pd kk cv) = (0 : Int32)
    · have pre7 := fun τ (κ : Steps p.tables e below (T5.setTop (mkF m 21 #[.val (.int kk), .val (.int cv)] [(.int (0 : Int32))])) τ) => pre6 τ (by
        refine XS.ifYes X5.here hx rfl (pc0 := 13) (pc' := 20) rfl (hb hby d24_13) rfl ((if0 _ _).trans (teq q2).1) (by decide) (by decide) ?_
        show Steps p.tables e below (T5.setTop (mkF m 20 #[.val (.int kk), .val (.int cv)] [])) _
        refine XS.iconst X5.here hx rfl (hb hby d24_20) ?_
        show Steps p.tables e below (T5.setTop (mkF m 21 #[.val (.int kk), .val (.int cv)] [(.int (0 : Int32))])) _
        exact κ)
      obtain ⟨fs, hr, hrun, hended, hW, hsame⟩ := X5.leave (v := some (.int (0 : Int32))) (fun h => by rw [Bd.returns] at h; cases h)
      refine ⟨_, _, pre7 _ ?_, hrun, hended, _, _, rfl, ?_, ⟨_, rfl⟩, hW, hsame.mono (by decide) (by decide)⟩
      · exact retN X5 hx (t := .boolean) Bd.returns (by simp) (hb hby d24_21) hr
      · show Q24 Z kk cv h0 n0 _ T5.heap _
        exact ⟨(by rw [own_gd, if_pos ⟨q1, q2⟩]), N5, (hh5.trans hh2)⟩
    · have pre8 := fun τ (κ : Steps p.tables e below (T5.setTop (mkF m 21 #[.val (.int kk), .val (.int cv)] [(.int (1 : Int32))])) τ) => pre6 τ (by
        refine XS.ifNo X5.here hx rfl (hb hby d24_13) rfl ((if0 _ _).trans (feq q2).1) ?_
        show Steps p.tables e below (T5.setTop (mkF m 16 #[.val (.int kk), .val (.int cv)] [])) _
        refine XS.iconst X5.here hx rfl (hb hby d24_16) ?_
        refine XS.goto X5.here hx rfl (pc0 := 17) (pc' := 21) rfl (hb hby d24_17) (by decide) (by decide) ?_
        show Steps p.tables e below (T5.setTop (mkF m 21 #[.val (.int kk), .val (.int cv)] [(.int (1 : Int32))])) _
        exact κ)
      obtain ⟨fs, hr, hrun, hended, hW, hsame⟩ := X5.leave (v := some (.int (1 : Int32))) (fun h => by rw [Bd.returns] at h; cases h)
      refine ⟨_, _, pre8 _ ?_, hrun, hended, _, _, rfl, ?_, ⟨_, rfl⟩, hW, hsame.mono (by decide) (by decide)⟩
      · exact retN X5 hx (t := .boolean) Bd.returns (by simp) (hb hby d24_21) hr
      · show Q24 Z kk cv h0 n0 _ T5.heap _
        exact ⟨(by rw [own_gd, if_neg fun z => q2 z.2]), N5, (hh5.trans hh2)⟩
  · have pre9 := fun τ (κ : Steps p.tables e below (T2.setTop (mkF m 21 #[.val (.int kk), .val (.int cv)] [(.int (1 : Int32))])) τ) => pre3 τ (by
      refine XS.ifYes X2.here hx rfl (pc0 := 5) (pc' := 16) rfl (hb hby d24_5) rfl ((if0 _ _).trans (feq q1).2) (by decide) (by decide) ?_
      show Steps p.tables e below (T2.setTop (mkF m 16 #[.val (.int kk), .val (.int cv)] [])) _
      refine XS.iconst X2.here hx rfl (hb hby d24_16) ?_
      refine XS.goto X2.here hx rfl (pc0 := 17) (pc' := 21) rfl (hb hby d24_17) (by decide) (by decide) ?_
      show Steps p.tables e below (T2.setTop (mkF m 21 #[.val (.int kk), .val (.int cv)] [(.int (1 : Int32))])) _
      exact κ)
    obtain ⟨fs, hr, hrun, hended, hW, hsame⟩ := X2.leave (v := some (.int (1 : Int32))) (fun h => by rw [Bd.returns] at h; cases h)
    refine ⟨_, _, pre9 _ ?_, hrun, hended, _, _, rfl, ?_, ⟨_, rfl⟩, hW, hsame.mono (by decide) (by decide)⟩
    · exact retN X2 hx (t := .boolean) Bd.returns (by simp) (hb hby d24_21) hr
    · show Q24 Z kk cv h0 n0 _ T2.heap _
      exact ⟨(by rw [own_gd, if_neg fun z => q1 z.1]), N2, hh2⟩
theorem ef_4 (m : MethodId) (kk : Int32) : entryFrame m #[(.int kk)] 1 = mkF m 0 #[.val (.int kk)] [] := by first | (simp [entryFrame, mkF, argsToLocals, Value.category]; done) | rfl
def Q4 (Z : State) (kk : Int32) (h0 : Heap) (n0 : Nat) (v : Option Value) (h : Heap) (L : List Loc) : Prop := ∃ (ob ir : Addr) (C : String), v = some (.ref ob) ∧ Fr n0 L ∧ h = h0 ∧ own_CT Z ob ir C kk
set_option maxRecDepth 65536 in
set_option maxHeartbeats 40000000 in
theorem rm4 (l : Launch) (Z : State) (a0 : Array Value) (hw : ∀ d ∈ tables_1, d.before a0 Z = true) (ws : List Jvm.Cond) (kk : Int32) (h0 : Heap) (n0 : Nat) (Z0 : n0 ≤ h0.size) (O0 : Old Z n0 h0) (CA : own_CA Z) (hk : kk = 0 ∨ kk = 1 ∨ kk = 2 ∨ kk = 3 ∨ kk = 4 ∨ kk = 5) :
    MetFree l (⟨"com/example/huiqiao/huiqiao/iso8583/ContentRunsFromPinLaw", "content", "(I)Lcom/example/huiqiao/huiqiao/iso8583/SwitchField$Content;"⟩ : MethodName) (head1 (Jvm.Cond.code (⟨"com/example/huiqiao/huiqiao/iso8583/ContentRunsFromPinLaw", "content", "(I)Lcom/example/huiqiao/huiqiao/iso8583/SwitchField$Content;"⟩ : MethodName) method_5_code 1 (some (.object "com/example/huiqiao/huiqiao/iso8583/SwitchField$Content")) :: ws) ({ frames := 0, cells := 0, slots := 0, locals := 0 } : Room)) (fun α υ => α = #[(.int kk)] ∧ Z.Warmed39 υ.vm ∧ υ.heap = h0) (fun _ _ _ _ _ => True) (fun _ υ ω υ' => ∃ v L, ω = .returned v ∧ Q4 Z kk h0 n0 v υ'.heap L ∧ FrameEnd υ ω υ' L ({ frames := 0, cells := 0, slots := 0, locals := 0 } : Room).cells ({ frames := 0, cells := 0, slots := 0, locals := 0 } : Room).slots) := by
  refine MetFree.of_bodySF (plainFor_of_name pn_com_example_huiqiao_huiqiao_iso8583_ContentRunsFromPinLaw) hisR ?_
  intro p e s m args below meth c s₁ Bd hml0 hP hK
  obtain ⟨rfl, hZ, hh⟩ := hP
  have hx := Bd.exec
  have hby := Bd.bytes
  have hml : c.maxLocals = 1 := hml0
  have hown : s.vm.findClass "com/example/huiqiao/huiqiao/iso8583/ContentRunsFromPinLaw" = some m.cls := findClass_of_methodNamed Bd.named
  have hnm := (name_of_methodNamed Bd.named Bd.method).1
  have X0 : Stand p l e ({ frames := 0, cells := 0, slots := 0, locals := 0 } : Room) s m #[(.int kk)] below meth c s₁ [] 0 0 := Stand.of_body Bd
  have e0 : s₁.heap = h0 := by rw [← hh, Bd.state]; rfl
  have N0 := Fr.nil n0
  have pre0 : ∀ τ, Steps p.tables e below (s₁.setTop (mkF m 0 #[.val (.int kk)] [])) τ → Steps p.tables e below (s₁.setTop (entryFrame m #[(.int kk)] 1)) τ := fun τ κ => castTop (ef_4 m kk) κ
  have pre1 := fun τ (κ : Steps p.tables e below (s₁.setTop (mkF m 1 #[.val (.int kk)] [(.int kk)])) τ) => pre0 τ (by
    refine XS.iloadN X0.here hx rfl (hb hby d4_0) rfl ?_
    show Steps p.tables e below (s₁.setTop (mkF m 1 #[.val (.int kk)] [(.int kk)])) _
    exact κ)
  by_cases q0 : kk = (0 : Int32)
  · obtain ⟨ob, ir, C, St, CT⟩ := CA.1
    have pre2 := fun τ (κ : Steps p.tables e below (s₁.setTop (mkF m 4 #[.val (.int kk)] [])) τ) => pre1 τ (by
      refine XS.ifNo X0.here hx rfl (hb hby d4_1) rfl ((if0 _ _).trans (teq q0).2) ?_
      show Steps p.tables e below (s₁.setTop (mkF m 4 #[.val (.int kk)] [])) _
      exact κ)
    obtain ⟨T3, X3, e3, st3⟩ := getS2 X0 hx hZ hown (host := "") (Or.inl (hw _ (List.mem_of_getElem? (i := 26) rfl))) Via.refl e0 (St.ext O0.2) (g := (mkF m 4 #[.val (.int kk)] [])) rfl (hb hby d4_4)
    have pre4 := fun τ (κ : Steps p.tables e below (T3.setTop (mkF m 7 #[.val (.int kk)] [(.ref ob)])) τ) => pre2 τ (st3 _ κ)
    obtain ⟨fs, hr, hrun, hended, hW, hsame⟩ := X3.leave (v := some (.ref ob)) (fun h => by rw [Bd.returns] at h; cases h)
    refine ⟨_, _, pre4 _ ?_, hrun, hended, _, _, rfl, ?_, ⟨_, rfl⟩, hW, hsame.mono (by decide) (by decide)⟩
    · jvm_step X3.here [X3.here.top, hx, (hb hby d4_7), X3.method', Bd.returns, Value.isRef, FieldType.isReference]
      first | (intro acts; rw [hr _ acts rfl rfl rfl]) | rw [hr _ _ rfl rfl rfl]
      exact Steps.refl _
    · show Q4 Z kk h0 n0 _ T3.heap _
      rw [e3]
      exact ⟨ob, ir, C, rfl, N0, rfl, (by rw [q0]; exact CT)⟩
  · have pre5 := fun τ (κ : Steps p.tables e below (s₁.setTop (mkF m 10 #[.val (.int kk)] [(.int (1 : Int32)), (.int kk)])) τ) => pre1 τ (by
      refine XS.ifYes X0.here hx rfl (pc0 := 1) (pc' := 8) rfl (hb hby d4_1) rfl ((if0 _ _).trans (feq q0).2) (by decide) (by decide) ?_
      show Steps p.tables e below (s₁.setTop (mkF m 8 #[.val (.int kk)] [])) _
      refine XS.iloadN X0.here hx rfl (hb hby d4_8) rfl ?_
      refine XS.iconst X0.here hx rfl (hb hby d4_9) ?_
      show Steps p.tables e below (s₁.setTop (mkF m 10 #[.val (.int kk)] [(.int (1 : Int32)), (.int kk)])) _
      exact κ)
    by_cases q1 : kk = (1 : Int32)
    · obtain ⟨ob, ir, C, St, CT⟩ := CA.2.1
      have pre6 := fun τ (κ : Steps p.tables e below (s₁.setTop (mkF m 13 #[.val (.int kk)] [])) τ) => pre5 τ (by
        refine XS.icmpNo X0.here hx rfl (hb hby d4_10) rfl (teq q1).2 ?_
        show Steps p.tables e below (s₁.setTop (mkF m 13 #[.val (.int kk)] [])) _
        exact κ)
      obtain ⟨T7, X7, e7, st7⟩ := getS2 X0 hx hZ hown (host := "") (Or.inl (hw _ (List.mem_of_getElem? (i := 53) rfl))) Via.refl e0 (St.ext O0.2) (g := (mkF m 13 #[.val (.int kk)] [])) rfl (hb hby d4_13)
      have pre8 := fun τ (κ : Steps p.tables e below (T7.setTop (mkF m 16 #[.val (.int kk)] [(.ref ob)])) τ) => pre6 τ (st7 _ κ)
      obtain ⟨fs, hr, hrun, hended, hW, hsame⟩ := X7.leave (v := some (.ref ob)) (fun h => by rw [Bd.returns] at h; cases h)
      refine ⟨_, _, pre8 _ ?_, hrun, hended, _, _, rfl, ?_, ⟨_, rfl⟩, hW, hsame.mono (by decide) (by decide)⟩
      · jvm_step X7.here [X7.here.top, hx, (hb hby d4_16), X7.method', Bd.returns, Value.isRef, FieldType.isReference]
        first | (intro acts; rw [hr _ acts rfl rfl rfl]) | rw [hr _ _ rfl rfl rfl]
        exact Steps.refl _
      · show Q4 Z kk h0 n0 _ T7.heap _
        rw [e7]
        exact ⟨ob, ir, C, rfl, N0, rfl, (by rw [q1]; exact CT)⟩
    · have pre9 := fun τ (κ : Steps p.tables e below (s₁.setTop (mkF m 19 #[.val (.int kk)] [(.int (2 : Int32)), (.int kk)])) τ) => pre5 τ (by
        refine XS.icmpYes X0.here hx rfl (pc0 := 10) (pc' := 17) rfl (hb hby d4_10) rfl (feq q1).2 (by decide) (by decide) ?_
        show Steps p.tables e below (s₁.setTop (mkF m 17 #[.val (.int kk)] [])) _
        refine XS.iloadN X0.here hx rfl (hb hby d4_17) rfl ?_
        refine XS.iconst X0.here hx rfl (hb hby d4_18) ?_
        show Steps p.tables e below (s₁.setTop (mkF m 19 #[.val (.int kk)] [(.int (2 : Int32)), (.int kk)])) _
        exact κ)
      by_cases q2 : kk = (2 : Int32)
      · obtain ⟨ob, ir, C, St, CT⟩ := CA.2.2.1
        have pre10 := fun τ (κ : Steps p.tables e below (s₁.setTop (mkF m 22 #[.val (.int kk)] [])) τ) => pre9 τ (by
          refine XS.icmpNo X0.here hx rfl (hb hby d4_19) rfl (teq q2).2 ?_
          show Steps p.tables e below (s₁.setTop (mkF m 22 #[.val (.int kk)] [])) _
          exact κ)
        obtain ⟨T11, X11, e11, st11⟩ := getS2 X0 hx hZ hown (host := "") (Or.inl (hw _ (List.mem_of_getElem? (i := 84) rfl))) Via.refl e0 (St.ext O0.2) (g := (mkF m 22 #[.val (.int kk)] [])) rfl (hb hby d4_22)
        have pre12 := fun τ (κ : Steps p.tables e below (T11.setTop (mkF m 25 #[.val (.int kk)] [(.ref ob)])) τ) => pre10 τ (st11 _ κ)
        obtain ⟨fs, hr, hrun, hended, hW, hsame⟩ := X11.leave (v := some (.ref ob)) (fun h => by rw [Bd.returns] at h; cases h)
        refine ⟨_, _, pre12 _ ?_, hrun, hended, _, _, rfl, ?_, ⟨_, rfl⟩, hW, hsame.mono (by decide) (by decide)⟩
        · jvm_step X11.here [X11.here.top, hx, (hb hby d4_25), X11.method', Bd.returns, Value.isRef, FieldType.isReference]
          first | (intro acts; rw [hr _ acts rfl rfl rfl]) | rw [hr _ _ rfl rfl rfl]
          exact Steps.refl _
        · show Q4 Z kk h0 n0 _ T11.heap _
          rw [e11]
          exact ⟨ob, ir, C, rfl, N0, rfl, (by rw [q2]; exact CT)⟩
      · have pre13 := fun τ (κ : Steps p.tables e below (s₁.setTop (mkF m 28 #[.val (.int kk)] [(.int (3 : Int32)), (.int kk)])) τ) => pre9 τ (by
          refine XS.icmpYes X0.here hx rfl (pc0 := 19) (pc' := 26) rfl (hb hby d4_19) rfl (feq q2).2 (by decide) (by decide) ?_
          show Steps p.tables e below (s₁.setTop (mkF m 26 #[.val (.int kk)] [])) _
          refine XS.iloadN X0.here hx rfl (hb hby d4_26) rfl ?_
          refine XS.iconst X0.here hx rfl (hb hby d4_27) ?_
          show Steps p.tables e below (s₁.setTop (mkF m 28 #[.val (.int kk)] [(.int (3 : Int32)), (.int kk)])) _
          exact κ)
        by_cases q3 : kk = (3 : Int32)
        · obtain ⟨ob, ir, C, St, CT⟩ := CA.2.2.2.1
          have pre14 := fun τ (κ : Steps p.tables e below (s₁.setTop (mkF m 31 #[.val (.int kk)] [])) τ) => pre13 τ (by
            refine XS.icmpNo X0.here hx rfl (hb hby d4_28) rfl (teq q3).2 ?_
            show Steps p.tables e below (s₁.setTop (mkF m 31 #[.val (.int kk)] [])) _
            exact κ)
          obtain ⟨T15, X15, e15, st15⟩ := getS2 X0 hx hZ hown (host := "") (Or.inl (hw _ (List.mem_of_getElem? (i := 47) rfl))) Via.refl e0 (St.ext O0.2) (g := (mkF m 31 #[.val (.int kk)] [])) rfl (hb hby d4_31)
          have pre16 := fun τ (κ : Steps p.tables e below (T15.setTop (mkF m 34 #[.val (.int kk)] [(.ref ob)])) τ) => pre14 τ (st15 _ κ)
          obtain ⟨fs, hr, hrun, hended, hW, hsame⟩ := X15.leave (v := some (.ref ob)) (fun h => by rw [Bd.returns] at h; cases h)
          refine ⟨_, _, pre16 _ ?_, hrun, hended, _, _, rfl, ?_, ⟨_, rfl⟩, hW, hsame.mono (by decide) (by decide)⟩
          · jvm_step X15.here [X15.here.top, hx, (hb hby d4_34), X15.method', Bd.returns, Value.isRef, FieldType.isReference]
            first | (intro acts; rw [hr _ acts rfl rfl rfl]) | rw [hr _ _ rfl rfl rfl]
            exact Steps.refl _
          · show Q4 Z kk h0 n0 _ T15.heap _
            rw [e15]
            exact ⟨ob, ir, C, rfl, N0, rfl, (by rw [q3]; exact CT)⟩
        · have pre17 := fun τ (κ : Steps p.tables e below (s₁.setTop (mkF m 37 #[.val (.int kk)] [(.int (4 : Int32)), (.int kk)])) τ) => pre13 τ (by
            refine XS.icmpYes X0.here hx rfl (pc0 := 28) (pc' := 35) rfl (hb hby d4_28) rfl (feq q3).2 (by decide) (by decide) ?_
            show Steps p.tables e below (s₁.setTop (mkF m 35 #[.val (.int kk)] [])) _
            refine XS.iloadN X0.here hx rfl (hb hby d4_35) rfl ?_
            refine XS.iconst X0.here hx rfl (hb hby d4_36) ?_
            show Steps p.tables e below (s₁.setTop (mkF m 37 #[.val (.int kk)] [(.int (4 : Int32)), (.int kk)])) _
            exact κ)
          by_cases q4 : kk = (4 : Int32)
          · obtain ⟨ob, ir, C, St, CT⟩ := CA.2.2.2.2.1
            have pre18 := fun τ (κ : Steps p.tables e below (s₁.setTop (mkF m 40 #[.val (.int kk)] [])) τ) => pre17 τ (by
              refine XS.icmpNo X0.here hx rfl (hb hby d4_37) rfl (teq q4).2 ?_
              show Steps p.tables e below (s₁.setTop (mkF m 40 #[.val (.int kk)] [])) _
              exact κ)
            obtain ⟨T19, X19, e19, st19⟩ := getS2 X0 hx hZ hown (host := "") (Or.inl (hw _ (List.mem_of_getElem? (i := 49) rfl))) Via.refl e0 (St.ext O0.2) (g := (mkF m 40 #[.val (.int kk)] [])) rfl (hb hby d4_40)
            have pre20 := fun τ (κ : Steps p.tables e below (T19.setTop (mkF m 43 #[.val (.int kk)] [(.ref ob)])) τ) => pre18 τ (st19 _ κ)
            obtain ⟨fs, hr, hrun, hended, hW, hsame⟩ := X19.leave (v := some (.ref ob)) (fun h => by rw [Bd.returns] at h; cases h)
            refine ⟨_, _, pre20 _ ?_, hrun, hended, _, _, rfl, ?_, ⟨_, rfl⟩, hW, hsame.mono (by decide) (by decide)⟩
            · jvm_step X19.here [X19.here.top, hx, (hb hby d4_43), X19.method', Bd.returns, Value.isRef, FieldType.isReference]
              first | (intro acts; rw [hr _ acts rfl rfl rfl]) | rw [hr _ _ rfl rfl rfl]
              exact Steps.refl _
            · show Q4 Z kk h0 n0 _ T19.heap _
              rw [e19]
              exact ⟨ob, ir, C, rfl, N0, rfl, (by rw [q4]; exact CT)⟩
          · have q5 : kk = 5 := ((((hk.resolve_left q0).resolve_left q1).resolve_left q2).resolve_left q3).resolve_left q4
            obtain ⟨ob, ir, C, St, CT⟩ := CA.2.2.2.2.2
            have pre21 := fun τ (κ : Steps p.tables e below (s₁.setTop (mkF m 44 #[.val (.int kk)] [])) τ) => pre17 τ (by
              refine XS.icmpYes X0.here hx rfl (pc0 := 37) (pc' := 44) rfl (hb hby d4_37) rfl (feq q4).2 (by decide) (by decide) ?_
              show Steps p.tables e below (s₁.setTop (mkF m 44 #[.val (.int kk)] [])) _
              exact κ)
            obtain ⟨T22, X22, e22, st22⟩ := getS2 X0 hx hZ hown (host := "") (Or.inl (hw _ (List.mem_of_getElem? (i := 128) rfl))) Via.refl e0 (St.ext O0.2) (g := (mkF m 44 #[.val (.int kk)] [])) rfl (hb hby d4_44)
            have pre23 := fun τ (κ : Steps p.tables e below (T22.setTop (mkF m 47 #[.val (.int kk)] [(.ref ob)])) τ) => pre21 τ (st22 _ κ)
            obtain ⟨fs, hr, hrun, hended, hW, hsame⟩ := X22.leave (v := some (.ref ob)) (fun h => by rw [Bd.returns] at h; cases h)
            refine ⟨_, _, pre23 _ ?_, hrun, hended, _, _, rfl, ?_, ⟨_, rfl⟩, hW, hsame.mono (by decide) (by decide)⟩
            · jvm_step X22.here [X22.here.top, hx, (hb hby d4_47), X22.method', Bd.returns, Value.isRef, FieldType.isReference]
              first | (intro acts; rw [hr _ acts rfl rfl rfl]) | rw [hr _ _ rfl rfl rfl]
              exact Steps.refl _
            · show Q4 Z kk h0 n0 _ T22.heap _
              rw [e22]
              exact ⟨ob, ir, C, rfl, N0, rfl, (by rw [q5]; exact CT)⟩
theorem ef_23 (m : MethodId) (ob : Addr) (ir : Addr) (kk : Int32) (j9 : Nat) : entryFrame m #[(.ref ob), (.int (Int32.ofNat j9))] 2 = mkF m 0 #[.val (.ref ob), .val (.int (Int32.ofNat j9))] [] := by first | (simp [entryFrame, mkF, argsToLocals, Value.category]; done) | rfl
def Q23 (Z : State) (ob : Addr) (ir : Addr) (C : String) (kk : Int32) (j9 : Nat) (h0 : Heap) (n0 : Nat) (v : Option Value) (h : Heap) (L : List Loc) : Prop := v = some (.int (own_inR kk (Int32.ofNat j9))) ∧ Fr n0 L ∧ h = h0
set_option maxRecDepth 65536 in
set_option maxHeartbeats 40000000 in
theorem rm23 (l : Launch) (Z : State) (a0 : Array Value) (hw : ∀ d ∈ tables_1, d.before a0 Z = true) (ws : List Jvm.Cond) (ob : Addr) (ir : Addr) (C : String) (kk : Int32) (j9 : Nat) (h0 : Heap) (n0 : Nat) (Z0 : n0 ≤ h0.size) (O0 : Old Z n0 h0) (CT : own_CT Z ob ir C kk) (hj9 : j9 ≤ 65535) :
    MetFree l (⟨"com/example/huiqiao/huiqiao/iso8583/SwitchField$Content", "inRun", "(C)Z"⟩ : MethodName) (head1 (Jvm.Cond.code (⟨"com/example/huiqiao/huiqiao/iso8583/SwitchField$Content", "inRun", "(C)Z"⟩ : MethodName) prog_34_method_6_code 2 (some .boolean) :: ws) ({ frames := 0, cells := 0, slots := 0, locals := 0 } : Room)) (fun α υ => α = #[(.ref ob), (.int (Int32.ofNat j9))] ∧ Z.Warmed39 υ.vm ∧ υ.heap = h0) (fun _ _ _ _ _ => True) (fun _ υ ω υ' => ∃ v L, ω = .returned v ∧ Q23 Z ob ir C kk j9 h0 n0 v υ'.heap L ∧ FrameEnd υ ω υ' L ({ frames := 0, cells := 0, slots := 0, locals := 0 } : Room).cells ({ frames := 0, cells := 0, slots := 0, locals := 0 } : Room).slots) := by
  refine MetFree.of_bodySF (plainFor_of_name pn_com_example_huiqiao_huiqiao_iso8583_SwitchField_Content) hisR ?_
  intro p e s m args below meth c s₁ Bd hml0 hP hK
  obtain ⟨rfl, hZ, hh⟩ := hP
  have hx := Bd.exec
  have hby := Bd.bytes
  have hml : c.maxLocals = 2 := hml0
  have hown : s.vm.findClass "com/example/huiqiao/huiqiao/iso8583/SwitchField$Content" = some m.cls := findClass_of_methodNamed Bd.named
  have hnm := (name_of_methodNamed Bd.named Bd.method).1
  have X0 : Stand p l e ({ frames := 0, cells := 0, slots := 0, locals := 0 } : Room) s m #[(.ref ob), (.int (Int32.ofNat j9))] below meth c s₁ [] 0 0 := Stand.of_body Bd
  have e0 : s₁.heap = h0 := by rw [← hh, Bd.state]; rfl
  have N0 := Fr.nil n0
  have pre0 : ∀ τ, Steps p.tables e below (s₁.setTop (mkF m 0 #[.val (.ref ob), .val (.int (Int32.ofNat j9))] [])) τ → Steps p.tables e below (s₁.setTop (entryFrame m #[(.ref ob), (.int (Int32.ofNat j9))] 2)) τ := fun τ κ => castTop (ef_23 m ob ir kk j9) κ
  obtain ⟨-, -, -, Fi, ki, Vi⟩ := CT
  have Fi0 := Fi.ext O0.2
  have Vi0 := Vi.ext O0.2
  have pre1 := fun τ (κ : Steps p.tables e below (s₁.setTop (mkF m 2 #[.val (.ref ob), .val (.int (Int32.ofNat j9))] [(.ref ob), (.int (Int32.ofNat j9))])) τ) => pre0 τ (by
    refine XS.iloadN X0.here hx rfl (hb hby d23_0) rfl ?_
    refine XS.aloadN X0.here hx rfl (hb hby d23_1) rfl rfl ?_
    show Steps p.tables e below (s₁.setTop (mkF m 2 #[.val (.ref ob), .val (.int (Int32.ofNat j9))] [(.ref ob), (.int (Int32.ofNat j9))])) _
    exact κ)
  obtain ⟨T2, X2, e2, st2⟩ := getF X0 hx hZ hown (host := "") (Or.inl (hw _ (List.mem_of_getElem? (i := 117) rfl))) Via.refl e0 Fi0 (g := (mkF m 2 #[.val (.ref ob), .val (.int (Int32.ofNat j9))] [(.ref ob), (.int (Int32.ofNat j9))])) rfl rfl (hb hby d23_2)
  have pre3 := fun τ (κ : Steps p.tables e below (T2.setTop (mkF m 5 #[.val (.ref ob), .val (.int (Int32.ofNat j9))] [(.ref ir), (.int (Int32.ofNat j9))])) τ) => pre1 τ (st2 _ κ)
  obtain ⟨cl4, Ar4, -, S4, M4, -, -⟩ := id Vi0
  have pre5 := fun τ (κ : Steps p.tables e below (T2.setTop (mkF m 6 #[.val (.ref ob), .val (.int (Int32.ofNat j9))] [(.int (256 : Int32)), (.int (Int32.ofNat j9))])) τ) => pre3 τ (by
    refine X2.arraylength hx (by rw [e2]; exact Ar4.1) (State.isArrayOf_alike hZ.alike Ar4.2.1) (g := (mkF m 5 #[.val (.ref ob), .val (.int (Int32.ofNat j9))] [(.ref ir), (.int (Int32.ofNat j9))])) rfl rfl (hb hby d23_5) _ ?_
    rw [len_of S4 M4]
    show Steps p.tables e below (T2.setTop (mkF m 6 #[.val (.ref ob), .val (.int (Int32.ofNat j9))] [(.int (256 : Int32)), (.int (Int32.ofNat j9))])) _
    exact κ)
  by_cases q1 : (Int32.ofNat j9) < (256 : Int32)
  · have pre6 := fun τ (κ : Steps p.tables e below (T2.setTop (mkF m 10 #[.val (.ref ob), .val (.int (Int32.ofNat j9))] [(.ref ob)])) τ) => pre5 τ (by
      refine XS.icmpNo X2.here hx rfl (hb hby d23_6) rfl (tlt q1).2.1 ?_
      show Steps p.tables e below (T2.setTop (mkF m 9 #[.val (.ref ob), .val (.int (Int32.ofNat j9))] [])) _
      refine XS.aloadN X2.here hx rfl (hb hby d23_9) rfl rfl ?_
      show Steps p.tables e below (T2.setTop (mkF m 10 #[.val (.ref ob), .val (.int (Int32.ofNat j9))] [(.ref ob)])) _
      exact κ)
    obtain ⟨T7, X7, e7, st7⟩ := getF X2 hx hZ hown (host := "") (Or.inl (hw _ (List.mem_of_getElem? (i := 117) rfl))) Via.refl e2 Fi0 (g := (mkF m 10 #[.val (.ref ob), .val (.int (Int32.ofNat j9))] [(.ref ob)])) rfl rfl (hb hby d23_10)
    have pre8 := fun τ (κ : Steps p.tables e below (T7.setTop (mkF m 13 #[.val (.ref ob), .val (.int (Int32.ofNat j9))] [(.ref ir)])) τ) => pre6 τ (st7 _ κ)
    have hj : j9 < 256 := (own_ltN (j := 256) (by omega) (by omega)).mp q1
    have pre9 := fun τ (κ : Steps p.tables e below (T7.setTop (mkF m 14 #[.val (.ref ob), .val (.int (Int32.ofNat j9))] [(.int (Int32.ofNat j9)), (.ref ir)])) τ) => pre8 τ (by
      refine XS.iloadN X7.here hx rfl (hb hby d23_13) rfl ?_
      show Steps p.tables e below (T7.setTop (mkF m 14 #[.val (.ref ob), .val (.int (Int32.ofNat j9))] [(.int (Int32.ofNat j9)), (.ref ir)])) _
      exact κ)
    obtain ⟨cl10, Ar10, -, S10, M10, H10, -⟩ := id Vi0
    have in10 : ¬ ((Int32.ofNat j9) < 0 ∨ cl10.slots.size ≤ ((Int32.ofNat j9)).toNatClampNeg) := inb_of S10 ⟨own_nn (by omega), q1⟩
    have at10 : cl10.slots[((Int32.ofNat j9)).toNatClampNeg]? = some (.int (own_inR kk (Int32.ofNat j9))) := H10.at in10 (by rw [own_clamp (by omega)]; exact own_tab_get hj _)
    have pre11 := fun τ (κ : Steps p.tables e below (T7.setTop (mkF m 15 #[.val (.ref ob), .val (.int (Int32.ofNat j9))] [(.int (own_inR kk (Int32.ofNat j9)))])) τ) => pre9 τ (by
      refine X7.baloadBooleans hx (j := (Int32.ofNat j9)) (v := (.int (own_inR kk (Int32.ofNat j9)))) (by rw [e7]; exact Ar10.1) (State.isArrayOf_alike hZ.alike Ar10.2.1) Ar10.2.2 in10 at10 (g := (mkF m 14 #[.val (.ref ob), .val (.int (Int32.ofNat j9))] [(.int (Int32.ofNat j9)), (.ref ir)])) rfl rfl (hb hby d23_14) _ ?_
      show Steps p.tables e below (T7.setTop (mkF m 15 #[.val (.ref ob), .val (.int (Int32.ofNat j9))] [(.int (own_inR kk (Int32.ofNat j9)))])) _
      exact κ)
    by_cases q2 : (own_inR kk (Int32.ofNat j9)) = (0 : Int32)
    · have pre12 := fun τ (κ : Steps p.tables e below (T7.setTop (mkF m 23 #[.val (.ref ob), .val (.int (Int32.ofNat j9))] [(.int (0 : Int32))])) τ) => pre11 τ (by
        refine XS.ifYes X7.here hx rfl (pc0 := 15) (pc' := 22) rfl (hb hby d23_15) rfl ((if0 _ _).trans (teq q2).1) (by decide) (by decide) ?_
        show Steps p.tables e below (T7.setTop (mkF m 22 #[.val (.ref ob), .val (.int (Int32.ofNat j9))] [])) _
        refine XS.iconst X7.here hx rfl (hb hby d23_22) ?_
        show Steps p.tables e below (T7.setTop (mkF m 23 #[.val (.ref ob), .val (.int (Int32.ofNat j9))] [(.int (0 : Int32))])) _
        exact κ)
      obtain ⟨fs, hr, hrun, hended, hW, hsame⟩ := X7.leave (v := some (.int (0 : Int32))) (fun h => by rw [Bd.returns] at h; cases h)
      refine ⟨_, _, pre12 _ ?_, hrun, hended, _, _, rfl, ?_, ⟨_, rfl⟩, hW, hsame.mono (by decide) (by decide)⟩
      · exact retN X7 hx (t := .boolean) Bd.returns (by simp) (hb hby d23_23) hr
      · show Q23 Z ob ir C kk j9 h0 n0 _ T7.heap _
        rw [e7]
        exact ⟨(by rw [q2]), N0, rfl⟩
    · have pre13 := fun τ (κ : Steps p.tables e below (T7.setTop (mkF m 23 #[.val (.ref ob), .val (.int (Int32.ofNat j9))] [(.int (1 : Int32))])) τ) => pre11 τ (by
        refine XS.ifNo X7.here hx rfl (hb hby d23_15) rfl ((if0 _ _).trans (feq q2).1) ?_
        show Steps p.tables e below (T7.setTop (mkF m 18 #[.val (.ref ob), .val (.int (Int32.ofNat j9))] [])) _
        refine XS.iconst X7.here hx rfl (hb hby d23_18) ?_
        refine XS.goto X7.here hx rfl (pc0 := 19) (pc' := 23) rfl (hb hby d23_19) (by decide) (by decide) ?_
        show Steps p.tables e below (T7.setTop (mkF m 23 #[.val (.ref ob), .val (.int (Int32.ofNat j9))] [(.int (1 : Int32))])) _
        exact κ)
      obtain ⟨fs, hr, hrun, hended, hW, hsame⟩ := X7.leave (v := some (.int (1 : Int32))) (fun h => by rw [Bd.returns] at h; cases h)
      refine ⟨_, _, pre13 _ ?_, hrun, hended, _, _, rfl, ?_, ⟨_, rfl⟩, hW, hsame.mono (by decide) (by decide)⟩
      · exact retN X7 hx (t := .boolean) Bd.returns (by simp) (hb hby d23_23) hr
      · show Q23 Z ob ir C kk j9 h0 n0 _ T7.heap _
        rw [e7]
        exact ⟨(by rw [(own_inR01 kk _).resolve_left q2]), N0, rfl⟩
  · have pre14 := fun τ (κ : Steps p.tables e below (T2.setTop (mkF m 23 #[.val (.ref ob), .val (.int (Int32.ofNat j9))] [(.int (0 : Int32))])) τ) => pre5 τ (by
      refine XS.icmpYes X2.here hx rfl (pc0 := 6) (pc' := 22) rfl (hb hby d23_6) rfl (flt q1).2.1 (by decide) (by decide) ?_
      show Steps p.tables e below (T2.setTop (mkF m 22 #[.val (.ref ob), .val (.int (Int32.ofNat j9))] [])) _
      refine XS.iconst X2.here hx rfl (hb hby d23_22) ?_
      show Steps p.tables e below (T2.setTop (mkF m 23 #[.val (.ref ob), .val (.int (Int32.ofNat j9))] [(.int (0 : Int32))])) _
      exact κ)
    obtain ⟨fs, hr, hrun, hended, hW, hsame⟩ := X2.leave (v := some (.int (0 : Int32))) (fun h => by rw [Bd.returns] at h; cases h)
    refine ⟨_, _, pre14 _ ?_, hrun, hended, _, _, rfl, ?_, ⟨_, rfl⟩, hW, hsame.mono (by decide) (by decide)⟩
    · exact retN X2 hx (t := .boolean) Bd.returns (by simp) (hb hby d23_23) hr
    · show Q23 Z ob ir C kk j9 h0 n0 _ T2.heap _
      rw [e2]
      exact ⟨(by rw [own_inRbig q1]), N0, rfl⟩
set_option maxRecDepth 65536 in
set_option maxHeartbeats 40000000 in
theorem loopA {p : Program} {l : Launch} {e : Env} {R : Room} {s : State} {m : MethodId} {args : Array Value} {below : List Frame} {meth : Method} {c : Code} {Z : State} {a0 : Array Value} (hx : p.tables.exec = Jvm.exec) (hZ : Z.Warmed39 s.vm) (hw : ∀ d ∈ tables_1, d.before a0 Z = true) (hby : c.code = prog_34_method_5_code) (hml : c.maxLocals = 4) (hown : s.vm.findClass "com/example/huiqiao/huiqiao/iso8583/SwitchField$Content" = some m.cls) {n0 cells slots : Nat} {h0 : Heap} (ob sa ir : Addr) (C : String) (kk : Int32) (n : Nat) (f : Nat → Int32) (zc : Int32) (fm : Value) (Z0 : n0 ≤ h0.size) (O0 : Old Z n0 h0) (U0 : own_ST Z zc fm) (P0 : own_STR Z h0 sa f n) (CT : own_CT Z ob ir C kk) (hn : n ≤ 3) (hf : ∀ j, j < n → own_ch (f j)) (hR1 : 4 + 1 ≤ R.frames) (hR2 : 1 + (2 + 11) + 53 ≤ R.locals) (hR3 : 0 + 1 ≤ R.frames) (hR4 : 0 + (2 + 11) + 0 ≤ R.locals) (hRc : cells ≤ R.cells) (hRs : slots ≤ R.slots) :
    ∀ (fu i : Nat) (T0 : State) (locs : List Loc), n ≤ i + fu → i ≤ 10 → Stand p l e R s m args below meth c T0 locs cells slots → T0.heap = h0 → Fr n0 locs →
      ∃ (T' : State) (locs' : List Loc), Stand p l e R s m args below meth c T' locs' cells slots ∧ T'.heap = h0 ∧ Fr n0 locs' ∧ ∀ t, Steps p.tables e below (T'.setTop (mkF m 28 #[.val (.ref ob), .val (.ref sa), .val (.int (Int32.ofNat (own_wi (own_g1 kk f) n fu i))), .val (.int (Int32.ofNat n))] [])) t → Steps p.tables e below (T0.setTop (mkF m 5 #[.val (.ref ob), .val (.ref sa), .val (.int (Int32.ofNat i)), .val (.int (Int32.ofNat n))] [])) t := by
  intro fu
  induction fu with
  | zero =>
    intro i T0 locs hfu hi X0 e0 N0
    have hgt : ¬ i < n := by omega
    have pre0 := fun τ (κ : Steps p.tables e below (T0.setTop (mkF m 5 #[.val (.ref ob), .val (.ref sa), .val (.int (Int32.ofNat i)), .val (.int (Int32.ofNat n))] [])) τ) => κ
    have E_s := P0.exa
    have E_o : Exa Z h0 ob C := CT.2.1.ext O0.2
    have pre1 := fun τ (κ : Steps p.tables e below (T0.setTop (mkF m 28 #[.val (.ref ob), .val (.ref sa), .val (.int (Int32.ofNat i)), .val (.int (Int32.ofNat n))] [])) τ) => pre0 τ (by
      refine XS.iloadN X0.here hx rfl (hb hby d5_5) rfl ?_
      refine XS.iloadN X0.here hx rfl (hb hby d5_6) rfl ?_
      refine XS.icmpYes X0.here hx rfl (pc0 := 7) (pc' := 28) rfl (hb hby d5_7) rfl (flt (fun q => hgt ((own_ltN (by omega) (by omega)).mp q))).2.1 (by decide) (by decide) ?_
      show Steps p.tables e below (T0.setTop (mkF m 28 #[.val (.ref ob), .val (.ref sa), .val (.int (Int32.ofNat i)), .val (.int (Int32.ofNat n))] [])) _
      exact κ)
    have en : own_wi (own_g1 kk f) n 0 i = i := own_wiE (fun z => absurd z hgt) (by omega)
    rw [en]
    exact ⟨T0, _, by simpa using X0, e0, N0, pre1⟩
  | succ fu ih =>
    intro i T0 locs hfu hi X0 e0 N0
    by_cases hgt : i < n
    · skip
      have pre0 := fun τ (κ : Steps p.tables e below (T0.setTop (mkF m 5 #[.val (.ref ob), .val (.ref sa), .val (.int (Int32.ofNat i)), .val (.int (Int32.ofNat n))] [])) τ) => κ
      have E_s := P0.exa
      have E_o : Exa Z h0 ob C := CT.2.1.ext O0.2
      have pre1 := fun τ (κ : Steps p.tables e below (T0.setTop (mkF m 13 #[.val (.ref ob), .val (.ref sa), .val (.int (Int32.ofNat i)), .val (.int (Int32.ofNat n))] [(.int (Int32.ofNat i)), (.ref sa), (.ref ob)])) τ) => pre0 τ (by
        refine XS.iloadN X0.here hx rfl (hb hby d5_5) rfl ?_
        refine XS.iloadN X0.here hx rfl (hb hby d5_6) rfl ?_
        refine XS.icmpNo X0.here hx rfl (hb hby d5_7) rfl (tlt ((own_ltN (by omega) (by omega)).mpr hgt)).2.1 ?_
        show Steps p.tables e below (T0.setTop (mkF m 10 #[.val (.ref ob), .val (.ref sa), .val (.int (Int32.ofNat i)), .val (.int (Int32.ofNat n))] [])) _
        refine XS.aloadN X0.here hx rfl (hb hby d5_10) rfl rfl ?_
        refine XS.aloadN X0.here hx rfl (hb hby d5_11) rfl rfl ?_
        refine XS.iloadN X0.here hx rfl (hb hby d5_12) rfl ?_
        show Steps p.tables e below (T0.setTop (mkF m 13 #[.val (.ref ob), .val (.ref sa), .val (.int (Int32.ofNat i)), .val (.int (Int32.ofNat n))] [(.int (Int32.ofNat i)), (.ref sa), (.ref ob)])) _
        exact κ)
      obtain ⟨cq2, kq2, q2a, q2b, q2c⟩ := isOf hZ e0 E_s
      obtain ⟨_, _, ⟨T2, L2, k2, n2⟩, -, X2, ⟨Lc2, hQ2, l2, y2, z2⟩, st2⟩ := X0.virtualBack hx (y := (⟨"java/lang/String", "charAt", "(I)C"⟩ : MethodName)) (z := (⟨"java/lang/String", "charAt", "(I)C"⟩ : MethodName)) hown (mvT hZ (hw _ (List.mem_of_getElem? (i := 86) rfl))) (mvT hZ (hw _ (List.mem_of_getElem? (i := 87) rfl))) (notFace_of_selects (args := #[]) (mvT hZ (hw _ (List.mem_of_getElem? (i := 89) rfl)))) (mvT hZ (hw _ (List.mem_of_getElem? (i := 89) rfl))) (mvT hZ (hw _ (List.mem_of_getElem? (i := 88) rfl))) (by decide) (backOf (W := 1) (rm16 l Z a0 hw [] sa i n f zc fm h0 n0 Z0 O0 U0 P0 (by omega) hgt (hf i hgt)) hZ (hw _ (List.mem_of_getElem? (i := 90) rfl)) (hw _ (List.mem_of_getElem? (i := 3) rfl)) hR1 hR2) q2a q2c (g := (mkF m 13 #[.val (.ref ob), .val (.ref sa), .val (.int (Int32.ofNat i)), .val (.int (Int32.ofNat n))] [(.int (Int32.ofNat i)), (.ref sa), (.ref ob)])) rfl (by rw [hml]; rfl) (Steps.refl _) (argsL := [(.int (Int32.ofNat i))]) (rest := [(.ref ob)]) (lenOf pd_15 rfl) rfl (by show 2 * 0 + _ ≤ _; exact Nat.le_of_eq rfl) (hb hby d5_13) (fun _ _ => ⟨rfl, e0, (by show _ + 0 ≤ R.cells; omega), (by show _ + 0 ≤ R.slots; omega)⟩)
      dsimp only [Pt.U, Pt.locs, Pt.cells, Pt.slots] at X2 l2 y2 z2 st2 hQ2
      subst l2 y2 z2
      obtain ⟨rfl, Nq2, hh2⟩ := hQ2
      have O0_2 : Old Z n0 T2.heap := by rw [hh2]; exact O0
      have P0_2 : own_STR Z T2.heap sa f n := by rw [hh2]; exact P0
      have E_s_2 : Exa Z T2.heap sa "java/lang/String" := by rw [hh2]; exact E_s
      have E_o_2 : Exa Z T2.heap ob C := by rw [hh2]; exact E_o
      have Z2 : n0 ≤ T2.heap.size := by rw [hh2]; exact Z0
      have N2 := Fr.app N0 Nq2
      have pre3 := fun τ (κ : Steps p.tables e below (T2.setTop (mkF m 16 #[.val (.ref ob), .val (.ref sa), .val (.int (Int32.ofNat i)), .val (.int (Int32.ofNat n))] [(.int (f i)), (.ref ob)])) τ) => pre1 τ (st2.trans κ)
      obtain ⟨j9, hj9, ej9⟩ := own_chN (hf i hgt)
      rw [show (f i) = (Int32.ofNat j9) from ej9] at pre3
      obtain ⟨cq4, q4, q4'⟩ := E_o_2.cell
      obtain ⟨_, _, ⟨T4, L4, k4, n4⟩, -, X4, ⟨Lc4, hQ4, l4, y4, z4⟩, st4⟩ := X2.privateBack hx (y := (⟨"com/example/huiqiao/huiqiao/iso8583/SwitchField$Content", "inRun", "(C)Z"⟩ : MethodName)) hown (mvT hZ (hw _ (List.mem_of_getElem? (i := 113) rfl))) (mvT hZ (hw _ (List.mem_of_getElem? (i := 114) rfl))) (own_selC (y := ({ cls := "com/example/huiqiao/huiqiao/iso8583/SwitchField$Content", name := "runsFrom", desc := "(Ljava/lang/String;I)Z" } : Jvm.MethodName)) (y2 := ({ cls := "com/example/huiqiao/huiqiao/iso8583/SwitchField$Content", name := "inRun", desc := "(C)Z" } : Jvm.MethodName)) rfl hZ (hw _ (List.mem_of_getElem? (i := 32) rfl)) (hw _ (List.mem_of_getElem? (i := 115) rfl)) (hw _ (List.mem_of_getElem? (i := 114) rfl)) (by decide)) (Cond.privateMethod_at (mvP hZ (hw _ (List.mem_of_getElem? (i := 115) rfl)) (args := #[]))) (mvT hZ (hw _ (List.mem_of_getElem? (i := 116) rfl))) (by decide) (backOf (W := 0) (rm23 l Z a0 hw [] ob ir C kk j9 T2.heap n0 Z2 O0_2 CT hj9) hZ (hw _ (List.mem_of_getElem? (i := 116) rfl)) (hw _ (List.mem_of_getElem? (i := 27) rfl)) hR3 hR4) (g := (mkF m 16 #[.val (.ref ob), .val (.ref sa), .val (.int (Int32.ofNat i)), .val (.int (Int32.ofNat n))] [(.int (Int32.ofNat j9)), (.ref ob)])) rfl (by rw [hml]; rfl) (Steps.refl _) (a := ob) q4 q4' (argsL := [(.int (Int32.ofNat j9))]) (rest := []) (lenOf pd_16 rfl) rfl (by show 2 * 0 + _ ≤ _; exact Nat.le_of_eq rfl) (hb hby d5_16) (fun _ _ => ⟨rfl, rfl, (by show _ + 0 ≤ R.cells; omega), (by show _ + 0 ≤ R.slots; omega)⟩)
      dsimp only [Pt.U, Pt.locs, Pt.cells, Pt.slots] at X4 l4 y4 z4 st4 hQ4
      subst l4 y4 z4
      obtain ⟨rfl, Nq4, hh4⟩ := hQ4
      have O0_4 : Old Z n0 T4.heap := by rw [hh4]; exact O0_2
      have P0_4 : own_STR Z T4.heap sa f n := by rw [hh4]; exact P0_2
      have E_s_4 : Exa Z T4.heap sa "java/lang/String" := by rw [hh4]; exact E_s_2
      have E_o_4 : Exa Z T4.heap ob C := by rw [hh4]; exact E_o_2
      have Z4 : n0 ≤ T4.heap.size := by rw [hh4]; exact Z2
      have N4 := Fr.app N2 Nq4
      have pre5 := fun τ (κ : Steps p.tables e below (T4.setTop (mkF m 19 #[.val (.ref ob), .val (.ref sa), .val (.int (Int32.ofNat i)), .val (.int (Int32.ofNat n))] [(.int (own_inR kk (Int32.ofNat j9)))])) τ) => pre3 τ (st4.trans κ)
      by_cases q1 : (own_inR kk (Int32.ofNat j9)) = (0 : Int32)
      · have pre6 := fun τ (κ : Steps p.tables e below (T4.setTop (mkF m 28 #[.val (.ref ob), .val (.ref sa), .val (.int (Int32.ofNat i)), .val (.int (Int32.ofNat n))] [])) τ) => pre5 τ (by
          refine XS.ifYes X4.here hx rfl (pc0 := 19) (pc' := 28) rfl (hb hby d5_19) rfl ((if0 _ _).trans (teq q1).1) (by decide) (by decide) ?_
          show Steps p.tables e below (T4.setTop (mkF m 28 #[.val (.ref ob), .val (.ref sa), .val (.int (Int32.ofNat i)), .val (.int (Int32.ofNat n))] [])) _
          exact κ)
        have en : own_wi (own_g1 kk f) n (fu + 1) i = i := own_wiE (fun z => by rw [own_g1, ej9]; exact q1) (by omega)
        rw [en]
        exact ⟨T4, _, by simpa using X4, (hh4.trans hh2), N4, pre6⟩
      · have pre7 := fun τ (κ : Steps p.tables e below (T4.setTop (mkF m 5 #[.val (.ref ob), .val (.ref sa), .val (.int ((Int32.ofNat i) + (1 : Int32))), .val (.int (Int32.ofNat n))] [])) τ) => pre5 τ (by
          refine XS.ifNo X4.here hx rfl (hb hby d5_19) rfl ((if0 _ _).trans (feq q1).1) ?_
          show Steps p.tables e below (T4.setTop (mkF m 22 #[.val (.ref ob), .val (.ref sa), .val (.int (Int32.ofNat i)), .val (.int (Int32.ofNat n))] [])) _
          refine XS.iinc X4.here hx rfl (hb hby d5_22) rfl (l' := #[.val (.ref ob), .val (.ref sa), .val (.int ((Int32.ofNat i) + (1 : Int32))), .val (.int (Int32.ofNat n))]) rfl ?_
          show Steps p.tables e below (T4.setTop (mkF m 25 #[.val (.ref ob), .val (.ref sa), .val (.int ((Int32.ofNat i) + (1 : Int32))), .val (.int (Int32.ofNat n))] [])) _
          refine XS.goto X4.here hx rfl (pc0 := 25) (pc' := 5) rfl (hb hby d5_25) (by decide) (by decide) ?_
          show Steps p.tables e below (T4.setTop (mkF m 5 #[.val (.ref ob), .val (.ref sa), .val (.int ((Int32.ofNat i) + (1 : Int32))), .val (.int (Int32.ofNat n))] [])) _
          exact κ)
        rw [show ((Int32.ofNat i) + (1 : Int32)) = (Int32.ofNat (i + 1)) from (own_addN _ 1)] at pre7
        rw [own_wiS hgt (by rw [own_g1, ej9]; exact q1)]
        obtain ⟨T', lo', X', e', N', st⟩ := ih (i + 1) _ _ (by omega) (by omega) (by simpa using X4) (hh4.trans hh2) N4
        exact ⟨T', lo', X', e', N', fun τ κ => pre7 τ (st τ κ)⟩
    · skip
      have pre0 := fun τ (κ : Steps p.tables e below (T0.setTop (mkF m 5 #[.val (.ref ob), .val (.ref sa), .val (.int (Int32.ofNat i)), .val (.int (Int32.ofNat n))] [])) τ) => κ
      have E_s := P0.exa
      have E_o : Exa Z h0 ob C := CT.2.1.ext O0.2
      have pre1 := fun τ (κ : Steps p.tables e below (T0.setTop (mkF m 28 #[.val (.ref ob), .val (.ref sa), .val (.int (Int32.ofNat i)), .val (.int (Int32.ofNat n))] [])) τ) => pre0 τ (by
        refine XS.iloadN X0.here hx rfl (hb hby d5_5) rfl ?_
        refine XS.iloadN X0.here hx rfl (hb hby d5_6) rfl ?_
        refine XS.icmpYes X0.here hx rfl (pc0 := 7) (pc' := 28) rfl (hb hby d5_7) rfl (flt (fun q => hgt ((own_ltN (by omega) (by omega)).mp q))).2.1 (by decide) (by decide) ?_
        show Steps p.tables e below (T0.setTop (mkF m 28 #[.val (.ref ob), .val (.ref sa), .val (.int (Int32.ofNat i)), .val (.int (Int32.ofNat n))] [])) _
        exact κ)
      have en : own_wi (own_g1 kk f) n (fu + 1) i = i := own_wiE (fun z => absurd z hgt) (by omega)
      rw [en]
      exact ⟨T0, _, by simpa using X0, e0, N0, pre1⟩

set_option maxRecDepth 65536 in
set_option maxHeartbeats 40000000 in
theorem loopB {p : Program} {l : Launch} {e : Env} {R : Room} {s : State} {m : MethodId} {args : Array Value} {below : List Frame} {meth : Method} {c : Code} {Z : State} {a0 : Array Value} (hx : p.tables.exec = Jvm.exec) (hZ : Z.Warmed39 s.vm) (hw : ∀ d ∈ tables_1, d.before a0 Z = true) (hby : c.code = prog_34_method_5_code) (hml : c.maxLocals = 4) (hown : s.vm.findClass "com/example/huiqiao/huiqiao/iso8583/SwitchField$Content" = some m.cls) {n0 cells slots : Nat} {h0 : Heap} (ob sa ir : Addr) (C : String) (kk : Int32) (n : Nat) (f : Nat → Int32) (zc : Int32) (fm : Value) (Z0 : n0 ≤ h0.size) (O0 : Old Z n0 h0) (U0 : own_ST Z zc fm) (P0 : own_STR Z h0 sa f n) (CT : own_CT Z ob ir C kk) (hn : n ≤ 3) (hf : ∀ j, j < n → own_ch (f j)) (hpv : ¬ own_pv kk = 0) (hR1 : 4 + 1 ≤ R.frames) (hR2 : 0 + (2 + 11) + 53 ≤ R.locals) (hR3 : 0 + 1 ≤ R.frames) (hR4 : 0 + (2 + 11) + 0 ≤ R.locals) (hRc : cells ≤ R.cells) (hRs : slots ≤ R.slots) :
    ∀ (fu i : Nat) (T0 : State) (locs : List Loc), n ≤ i + fu → i ≤ 10 → Stand p l e R s m args below meth c T0 locs cells slots → T0.heap = h0 → Fr n0 locs →
      ∃ (T' : State) (locs' : List Loc), Stand p l e R s m args below meth c T' locs' cells slots ∧ T'.heap = h0 ∧ Fr n0 locs' ∧ ∀ t, Steps p.tables e below (T'.setTop (mkF m 56 #[.val (.ref ob), .val (.ref sa), .val (.int (Int32.ofNat (own_wi (own_g2 f) n fu i))), .val (.int (Int32.ofNat n))] [])) t → Steps p.tables e below (T0.setTop (mkF m 28 #[.val (.ref ob), .val (.ref sa), .val (.int (Int32.ofNat i)), .val (.int (Int32.ofNat n))] [])) t := by
  intro fu
  induction fu with
  | zero =>
    intro i T0 locs hfu hi X0 e0 N0
    have hgt : ¬ i < n := by omega
    have pre0 := fun τ (κ : Steps p.tables e below (T0.setTop (mkF m 28 #[.val (.ref ob), .val (.ref sa), .val (.int (Int32.ofNat i)), .val (.int (Int32.ofNat n))] [])) τ) => κ
    have E_s := P0.exa
    have E_o : Exa Z h0 ob C := CT.2.1.ext O0.2
    have Fp0 := CT.2.2.1.ext O0.2
    have pre1 := fun τ (κ : Steps p.tables e below (T0.setTop (mkF m 29 #[.val (.ref ob), .val (.ref sa), .val (.int (Int32.ofNat i)), .val (.int (Int32.ofNat n))] [(.ref ob)])) τ) => pre0 τ (by
      refine XS.aloadN X0.here hx rfl (hb hby d5_28) rfl rfl ?_
      show Steps p.tables e below (T0.setTop (mkF m 29 #[.val (.ref ob), .val (.ref sa), .val (.int (Int32.ofNat i)), .val (.int (Int32.ofNat n))] [(.ref ob)])) _
      exact κ)
    obtain ⟨T2, X2, e2, st2⟩ := getF X0 hx hZ hown (host := "") (Or.inl (hw _ (List.mem_of_getElem? (i := 45) rfl))) Via.refl e0 Fp0 (g := (mkF m 29 #[.val (.ref ob), .val (.ref sa), .val (.int (Int32.ofNat i)), .val (.int (Int32.ofNat n))] [(.ref ob)])) rfl rfl (hb hby d5_29)
    have pre3 := fun τ (κ : Steps p.tables e below (T2.setTop (mkF m 32 #[.val (.ref ob), .val (.ref sa), .val (.int (Int32.ofNat i)), .val (.int (Int32.ofNat n))] [(.int (own_pv kk))])) τ) => pre1 τ (st2 _ κ)
    have pre4 := fun τ (κ : Steps p.tables e below (T2.setTop (mkF m 56 #[.val (.ref ob), .val (.ref sa), .val (.int (Int32.ofNat i)), .val (.int (Int32.ofNat n))] [])) τ) => pre3 τ (by
      refine XS.ifNo X2.here hx rfl (hb hby d5_32) rfl ((if0 _ _).trans (feq hpv).1) ?_
      show Steps p.tables e below (T2.setTop (mkF m 35 #[.val (.ref ob), .val (.ref sa), .val (.int (Int32.ofNat i)), .val (.int (Int32.ofNat n))] [])) _
      refine XS.iloadN X2.here hx rfl (hb hby d5_35) rfl ?_
      refine XS.iloadN X2.here hx rfl (hb hby d5_36) rfl ?_
      refine XS.icmpYes X2.here hx rfl (pc0 := 37) (pc' := 56) rfl (hb hby d5_37) rfl (flt (fun q => hgt ((own_ltN (by omega) (by omega)).mp q))).2.1 (by decide) (by decide) ?_
      show Steps p.tables e below (T2.setTop (mkF m 56 #[.val (.ref ob), .val (.ref sa), .val (.int (Int32.ofNat i)), .val (.int (Int32.ofNat n))] [])) _
      exact κ)
    have en : own_wi (own_g2 f) n 0 i = i := own_wiE (fun z => absurd z hgt) (by omega)
    rw [en]
    exact ⟨T2, _, by simpa using X2, e2, N0, pre4⟩
  | succ fu ih =>
    intro i T0 locs hfu hi X0 e0 N0
    by_cases hgt : i < n
    · skip
      have pre0 := fun τ (κ : Steps p.tables e below (T0.setTop (mkF m 28 #[.val (.ref ob), .val (.ref sa), .val (.int (Int32.ofNat i)), .val (.int (Int32.ofNat n))] [])) τ) => κ
      have E_s := P0.exa
      have E_o : Exa Z h0 ob C := CT.2.1.ext O0.2
      have Fp0 := CT.2.2.1.ext O0.2
      have pre1 := fun τ (κ : Steps p.tables e below (T0.setTop (mkF m 29 #[.val (.ref ob), .val (.ref sa), .val (.int (Int32.ofNat i)), .val (.int (Int32.ofNat n))] [(.ref ob)])) τ) => pre0 τ (by
        refine XS.aloadN X0.here hx rfl (hb hby d5_28) rfl rfl ?_
        show Steps p.tables e below (T0.setTop (mkF m 29 #[.val (.ref ob), .val (.ref sa), .val (.int (Int32.ofNat i)), .val (.int (Int32.ofNat n))] [(.ref ob)])) _
        exact κ)
      obtain ⟨T2, X2, e2, st2⟩ := getF X0 hx hZ hown (host := "") (Or.inl (hw _ (List.mem_of_getElem? (i := 45) rfl))) Via.refl e0 Fp0 (g := (mkF m 29 #[.val (.ref ob), .val (.ref sa), .val (.int (Int32.ofNat i)), .val (.int (Int32.ofNat n))] [(.ref ob)])) rfl rfl (hb hby d5_29)
      have pre3 := fun τ (κ : Steps p.tables e below (T2.setTop (mkF m 32 #[.val (.ref ob), .val (.ref sa), .val (.int (Int32.ofNat i)), .val (.int (Int32.ofNat n))] [(.int (own_pv kk))])) τ) => pre1 τ (st2 _ κ)
      have pre4 := fun τ (κ : Steps p.tables e below (T2.setTop (mkF m 42 #[.val (.ref ob), .val (.ref sa), .val (.int (Int32.ofNat i)), .val (.int (Int32.ofNat n))] [(.int (Int32.ofNat i)), (.ref sa)])) τ) => pre3 τ (by
        refine XS.ifNo X2.here hx rfl (hb hby d5_32) rfl ((if0 _ _).trans (feq hpv).1) ?_
        show Steps p.tables e below (T2.setTop (mkF m 35 #[.val (.ref ob), .val (.ref sa), .val (.int (Int32.ofNat i)), .val (.int (Int32.ofNat n))] [])) _
        refine XS.iloadN X2.here hx rfl (hb hby d5_35) rfl ?_
        refine XS.iloadN X2.here hx rfl (hb hby d5_36) rfl ?_
        refine XS.icmpNo X2.here hx rfl (hb hby d5_37) rfl (tlt ((own_ltN (by omega) (by omega)).mpr hgt)).2.1 ?_
        show Steps p.tables e below (T2.setTop (mkF m 40 #[.val (.ref ob), .val (.ref sa), .val (.int (Int32.ofNat i)), .val (.int (Int32.ofNat n))] [])) _
        refine XS.aloadN X2.here hx rfl (hb hby d5_40) rfl rfl ?_
        refine XS.iloadN X2.here hx rfl (hb hby d5_41) rfl ?_
        show Steps p.tables e below (T2.setTop (mkF m 42 #[.val (.ref ob), .val (.ref sa), .val (.int (Int32.ofNat i)), .val (.int (Int32.ofNat n))] [(.int (Int32.ofNat i)), (.ref sa)])) _
        exact κ)
      obtain ⟨cq5, kq5, q5a, q5b, q5c⟩ := isOf hZ e2 E_s
      obtain ⟨_, _, ⟨T5, L5, k5, n5⟩, -, X5, ⟨Lc5, hQ5, l5, y5, z5⟩, st5⟩ := X2.virtualBack hx (y := (⟨"java/lang/String", "charAt", "(I)C"⟩ : MethodName)) (z := (⟨"java/lang/String", "charAt", "(I)C"⟩ : MethodName)) hown (mvT hZ (hw _ (List.mem_of_getElem? (i := 86) rfl))) (mvT hZ (hw _ (List.mem_of_getElem? (i := 87) rfl))) (notFace_of_selects (args := #[]) (mvT hZ (hw _ (List.mem_of_getElem? (i := 89) rfl)))) (mvT hZ (hw _ (List.mem_of_getElem? (i := 89) rfl))) (mvT hZ (hw _ (List.mem_of_getElem? (i := 88) rfl))) (by decide) (backOf (W := 0) (rm16 l Z a0 hw [] sa i n f zc fm h0 n0 Z0 O0 U0 P0 (by omega) hgt (hf i hgt)) hZ (hw _ (List.mem_of_getElem? (i := 90) rfl)) (hw _ (List.mem_of_getElem? (i := 3) rfl)) hR1 hR2) q5a q5c (g := (mkF m 42 #[.val (.ref ob), .val (.ref sa), .val (.int (Int32.ofNat i)), .val (.int (Int32.ofNat n))] [(.int (Int32.ofNat i)), (.ref sa)])) rfl (by rw [hml]; rfl) (Steps.refl _) (argsL := [(.int (Int32.ofNat i))]) (rest := []) (lenOf pd_15 rfl) rfl (by show 2 * 0 + _ ≤ _; exact Nat.le_of_eq rfl) (hb hby d5_42) (fun _ _ => ⟨rfl, e2, (by show _ + 0 ≤ R.cells; omega), (by show _ + 0 ≤ R.slots; omega)⟩)
      dsimp only [Pt.U, Pt.locs, Pt.cells, Pt.slots] at X5 l5 y5 z5 st5 hQ5
      subst l5 y5 z5
      obtain ⟨rfl, Nq5, hh5⟩ := hQ5
      have O0_5 : Old Z n0 T5.heap := by rw [hh5]; exact O0
      have P0_5 : own_STR Z T5.heap sa f n := by rw [hh5]; exact P0
      have E_s_5 : Exa Z T5.heap sa "java/lang/String" := by rw [hh5]; exact E_s
      have E_o_5 : Exa Z T5.heap ob C := by rw [hh5]; exact E_o
      have Fp0_5 : Fld Z T5.heap ob "com/example/huiqiao/huiqiao/iso8583/SwitchField$Content" "padded" "Z" (.int (own_pv kk)) := by rw [hh5]; exact Fp0
      have Z5 : n0 ≤ T5.heap.size := by rw [hh5]; exact Z0
      have N5 := Fr.app N0 Nq5
      have pre6 := fun τ (κ : Steps p.tables e below (T5.setTop (mkF m 45 #[.val (.ref ob), .val (.ref sa), .val (.int (Int32.ofNat i)), .val (.int (Int32.ofNat n))] [(.int (f i))])) τ) => pre4 τ (st5.trans κ)
      have pre7 := fun τ (κ : Steps p.tables e below (T5.setTop (mkF m 47 #[.val (.ref ob), .val (.ref sa), .val (.int (Int32.ofNat i)), .val (.int (Int32.ofNat n))] [(.int (32 : Int32)), (.int (f i))])) τ) => pre6 τ (by
        refine XS.bipush X5.here hx rfl (hb hby d5_45) ?_
        show Steps p.tables e below (T5.setTop (mkF m 47 #[.val (.ref ob), .val (.ref sa), .val (.int (Int32.ofNat i)), .val (.int (Int32.ofNat n))] [(.int (32 : Int32)), (.int (f i))])) _
        exact κ)
      by_cases q1 : (f i) = (32 : Int32)
      · have pre8 := fun τ (κ : Steps p.tables e below (T5.setTop (mkF m 28 #[.val (.ref ob), .val (.ref sa), .val (.int ((Int32.ofNat i) + (1 : Int32))), .val (.int (Int32.ofNat n))] [])) τ) => pre7 τ (by
          refine XS.icmpNo X5.here hx rfl (hb hby d5_47) rfl (teq q1).2 ?_
          show Steps p.tables e below (T5.setTop (mkF m 50 #[.val (.ref ob), .val (.ref sa), .val (.int (Int32.ofNat i)), .val (.int (Int32.ofNat n))] [])) _
          refine XS.iinc X5.here hx rfl (hb hby d5_50) rfl (l' := #[.val (.ref ob), .val (.ref sa), .val (.int ((Int32.ofNat i) + (1 : Int32))), .val (.int (Int32.ofNat n))]) rfl ?_
          show Steps p.tables e below (T5.setTop (mkF m 53 #[.val (.ref ob), .val (.ref sa), .val (.int ((Int32.ofNat i) + (1 : Int32))), .val (.int (Int32.ofNat n))] [])) _
          refine XS.goto X5.here hx rfl (pc0 := 53) (pc' := 28) rfl (hb hby d5_53) (by decide) (by decide) ?_
          show Steps p.tables e below (T5.setTop (mkF m 28 #[.val (.ref ob), .val (.ref sa), .val (.int ((Int32.ofNat i) + (1 : Int32))), .val (.int (Int32.ofNat n))] [])) _
          exact κ)
        rw [show ((Int32.ofNat i) + (1 : Int32)) = (Int32.ofNat (i + 1)) from (own_addN _ 1)] at pre8
        rw [own_wiS hgt (by rw [own_g2, if_pos q1]; decide)]
        obtain ⟨T', lo', X', e', N', st⟩ := ih (i + 1) _ _ (by omega) (by omega) (by simpa using X5) hh5 N5
        exact ⟨T', lo', X', e', N', fun τ κ => pre8 τ (st τ κ)⟩
      · have pre9 := fun τ (κ : Steps p.tables e below (T5.setTop (mkF m 56 #[.val (.ref ob), .val (.ref sa), .val (.int (Int32.ofNat i)), .val (.int (Int32.ofNat n))] [])) τ) => pre7 τ (by
          refine XS.icmpYes X5.here hx rfl (pc0 := 47) (pc' := 56) rfl (hb hby d5_47) rfl (feq q1).2 (by decide) (by decide) ?_
          show Steps p.tables e below (T5.setTop (mkF m 56 #[.val (.ref ob), .val (.ref sa), .val (.int (Int32.ofNat i)), .val (.int (Int32.ofNat n))] [])) _
          exact κ)
        have en : own_wi (own_g2 f) n (fu + 1) i = i := own_wiE (fun z => by rw [own_g2, if_neg q1]) (by omega)
        rw [en]
        exact ⟨T5, _, by simpa using X5, hh5, N5, pre9⟩
    · skip
      have pre0 := fun τ (κ : Steps p.tables e below (T0.setTop (mkF m 28 #[.val (.ref ob), .val (.ref sa), .val (.int (Int32.ofNat i)), .val (.int (Int32.ofNat n))] [])) τ) => κ
      have E_s := P0.exa
      have E_o : Exa Z h0 ob C := CT.2.1.ext O0.2
      have Fp0 := CT.2.2.1.ext O0.2
      have pre1 := fun τ (κ : Steps p.tables e below (T0.setTop (mkF m 29 #[.val (.ref ob), .val (.ref sa), .val (.int (Int32.ofNat i)), .val (.int (Int32.ofNat n))] [(.ref ob)])) τ) => pre0 τ (by
        refine XS.aloadN X0.here hx rfl (hb hby d5_28) rfl rfl ?_
        show Steps p.tables e below (T0.setTop (mkF m 29 #[.val (.ref ob), .val (.ref sa), .val (.int (Int32.ofNat i)), .val (.int (Int32.ofNat n))] [(.ref ob)])) _
        exact κ)
      obtain ⟨T2, X2, e2, st2⟩ := getF X0 hx hZ hown (host := "") (Or.inl (hw _ (List.mem_of_getElem? (i := 45) rfl))) Via.refl e0 Fp0 (g := (mkF m 29 #[.val (.ref ob), .val (.ref sa), .val (.int (Int32.ofNat i)), .val (.int (Int32.ofNat n))] [(.ref ob)])) rfl rfl (hb hby d5_29)
      have pre3 := fun τ (κ : Steps p.tables e below (T2.setTop (mkF m 32 #[.val (.ref ob), .val (.ref sa), .val (.int (Int32.ofNat i)), .val (.int (Int32.ofNat n))] [(.int (own_pv kk))])) τ) => pre1 τ (st2 _ κ)
      have pre4 := fun τ (κ : Steps p.tables e below (T2.setTop (mkF m 56 #[.val (.ref ob), .val (.ref sa), .val (.int (Int32.ofNat i)), .val (.int (Int32.ofNat n))] [])) τ) => pre3 τ (by
        refine XS.ifNo X2.here hx rfl (hb hby d5_32) rfl ((if0 _ _).trans (feq hpv).1) ?_
        show Steps p.tables e below (T2.setTop (mkF m 35 #[.val (.ref ob), .val (.ref sa), .val (.int (Int32.ofNat i)), .val (.int (Int32.ofNat n))] [])) _
        refine XS.iloadN X2.here hx rfl (hb hby d5_35) rfl ?_
        refine XS.iloadN X2.here hx rfl (hb hby d5_36) rfl ?_
        refine XS.icmpYes X2.here hx rfl (pc0 := 37) (pc' := 56) rfl (hb hby d5_37) rfl (flt (fun q => hgt ((own_ltN (by omega) (by omega)).mp q))).2.1 (by decide) (by decide) ?_
        show Steps p.tables e below (T2.setTop (mkF m 56 #[.val (.ref ob), .val (.ref sa), .val (.int (Int32.ofNat i)), .val (.int (Int32.ofNat n))] [])) _
        exact κ)
      have en : own_wi (own_g2 f) n (fu + 1) i = i := own_wiE (fun z => absurd z hgt) (by omega)
      rw [en]
      exact ⟨T2, _, by simpa using X2, e2, N0, pre4⟩

theorem own_i1le {kk : Int32} {f : Nat → Int32} {n a : Nat} (h1 : a ≤ 10) (h2 : n ≤ 10) : own_i1 kk f n a ≤ 10 := by
  by_cases q : a ≤ n
  · exact Nat.le_trans ((own_wispec (own_g1 kk f) n n a (by omega)).2.1 q) h2
  · rw [own_i1, own_wiE (fun z => absurd z (by omega)) (by omega)]; exact h1
theorem own_i2le {kk : Int32} {f : Nat → Int32} {n a : Nat} (h1 : own_i1 kk f n a ≤ 10) (h2 : n ≤ 10) : own_i2 kk f n a ≤ 10 := by
  unfold own_i2
  split
  · exact h1
  · by_cases q : own_i1 kk f n a ≤ n
    · exact Nat.le_trans ((own_wispec (own_g2 f) n n _ (by omega)).2.1 q) h2
    · rw [own_wiE (fun z => absurd z (by omega)) (by omega)]; exact h1

theorem ef_5 (m : MethodId) (ob : Addr) (sa : Addr) (ir : Addr) (kk : Int32) (aa : Nat) (n : Nat) (zc : Int32) (fm : Value) : entryFrame m #[(.ref ob), (.ref sa), (.int (Int32.ofNat aa))] 4 = mkF m 0 #[.val (.ref ob), .val (.ref sa), .val (.int (Int32.ofNat aa)), .unset] [] := by first | (simp [entryFrame, mkF, argsToLocals, Value.category]; done) | rfl
def Q5 (Z : State) (ob : Addr) (sa : Addr) (ir : Addr) (C : String) (kk : Int32) (aa : Nat) (n : Nat) (f : Nat → Int32) (zc : Int32) (fm : Value) (h0 : Heap) (n0 : Nat) (v : Option Value) (h : Heap) (L : List Loc) : Prop := v = some (.int (own_rf kk f n aa)) ∧ Fr n0 L ∧ h = h0
set_option maxRecDepth 65536 in
set_option maxHeartbeats 40000000 in
theorem rm5 (l : Launch) (Z : State) (a0 : Array Value) (hw : ∀ d ∈ tables_1, d.before a0 Z = true) (ws : List Jvm.Cond) (ob : Addr) (sa : Addr) (ir : Addr) (C : String) (kk : Int32) (aa : Nat) (n : Nat) (f : Nat → Int32) (zc : Int32) (fm : Value) (h0 : Heap) (n0 : Nat) (Z0 : n0 ≤ h0.size) (O0 : Old Z n0 h0) (U0 : own_ST Z zc fm) (P0 : own_STR Z h0 sa f n) (CT : own_CT Z ob ir C kk) (hn : n ≤ 3) (ha : aa ≤ 7) (hf : ∀ j, j < n → own_ch (f j)) :
    MetFree l (⟨"com/example/huiqiao/huiqiao/iso8583/SwitchField$Content", "runsFrom", "(Ljava/lang/String;I)Z"⟩ : MethodName) (head1 (Jvm.Cond.code (⟨"com/example/huiqiao/huiqiao/iso8583/SwitchField$Content", "runsFrom", "(Ljava/lang/String;I)Z"⟩ : MethodName) prog_34_method_5_code 4 (some .boolean) :: ws) ({ frames := 5, cells := 0, slots := 0, locals := 67 } : Room)) (fun α υ => α = #[(.ref ob), (.ref sa), (.int (Int32.ofNat aa))] ∧ Z.Warmed39 υ.vm ∧ υ.heap = h0) (fun _ _ _ _ _ => True) (fun _ υ ω υ' => ∃ v L, ω = .returned v ∧ Q5 Z ob sa ir C kk aa n f zc fm h0 n0 v υ'.heap L ∧ FrameEnd υ ω υ' L ({ frames := 5, cells := 0, slots := 0, locals := 67 } : Room).cells ({ frames := 5, cells := 0, slots := 0, locals := 67 } : Room).slots) := by
  refine MetFree.of_bodySF (plainFor_of_name pn_com_example_huiqiao_huiqiao_iso8583_SwitchField_Content) hisR ?_
  intro p e s m args below meth c s₁ Bd hml0 hP hK
  obtain ⟨rfl, hZ, hh⟩ := hP
  have hx := Bd.exec
  have hby := Bd.bytes
  have hml : c.maxLocals = 4 := hml0
  have hown : s.vm.findClass "com/example/huiqiao/huiqiao/iso8583/SwitchField$Content" = some m.cls := findClass_of_methodNamed Bd.named
  have hnm := (name_of_methodNamed Bd.named Bd.method).1
  have X0 : Stand p l e ({ frames := 5, cells := 0, slots := 0, locals := 67 } : Room) s m #[(.ref ob), (.ref sa), (.int (Int32.ofNat aa))] below meth c s₁ [] 0 0 := Stand.of_body Bd
  have e0 : s₁.heap = h0 := by rw [← hh, Bd.state]; rfl
  have N0 := Fr.nil n0
  have pre0 : ∀ τ, Steps p.tables e below (s₁.setTop (mkF m 0 #[.val (.ref ob), .val (.ref sa), .val (.int (Int32.ofNat aa)), .unset] [])) τ → Steps p.tables e below (s₁.setTop (entryFrame m #[(.ref ob), (.ref sa), (.int (Int32.ofNat aa))] 4)) τ := fun τ κ => castTop (ef_5 m ob sa ir kk aa n zc fm) κ
  have E_s := P0.exa
  have pre1 := fun τ (κ : Steps p.tables e below (s₁.setTop (mkF m 1 #[.val (.ref ob), .val (.ref sa), .val (.int (Int32.ofNat aa)), .unset] [(.ref sa)])) τ) => pre0 τ (by
    refine XS.aloadN X0.here hx rfl (hb hby d5_0) rfl rfl ?_
    show Steps p.tables e below (s₁.setTop (mkF m 1 #[.val (.ref ob), .val (.ref sa), .val (.int (Int32.ofNat aa)), .unset] [(.ref sa)])) _
    exact κ)
  obtain ⟨cq2, kq2, q2a, q2b, q2c⟩ := isOf hZ e0 E_s
  obtain ⟨_, _, ⟨T2, L2, k2, n2⟩, -, X2, ⟨Lc2, hQ2, l2, y2, z2⟩, st2⟩ := X0.virtualBack hx (y := (⟨"java/lang/String", "length", "()I"⟩ : MethodName)) (z := (⟨"java/lang/String", "length", "()I"⟩ : MethodName)) hown (mvT hZ (hw _ (List.mem_of_getElem? (i := 34) rfl))) (mvT hZ (hw _ (List.mem_of_getElem? (i := 35) rfl))) (notFace_of_selects (args := #[]) (mvT hZ (hw _ (List.mem_of_getElem? (i := 37) rfl)))) (mvT hZ (hw _ (List.mem_of_getElem? (i := 37) rfl))) (mvT hZ (hw _ (List.mem_of_getElem? (i := 36) rfl))) (by decide) (backOf (W := 0) (rm6 l Z a0 hw [] sa n f zc fm h0 n0 Z0 O0 U0 P0 (by omega)) hZ (hw _ (List.mem_of_getElem? (i := 38) rfl)) (hw _ (List.mem_of_getElem? (i := 3) rfl)) (Nat.le_of_ble_eq_true rfl) (Nat.le_of_ble_eq_true rfl)) q2a q2c (g := (mkF m 1 #[.val (.ref ob), .val (.ref sa), .val (.int (Int32.ofNat aa)), .unset] [(.ref sa)])) rfl (by rw [hml]; rfl) (Steps.refl _) (argsL := []) (rest := []) (lenOf pd_17 rfl) rfl (by show 2 * 0 + _ ≤ _; exact Nat.le_of_eq rfl) (hb hby d5_1) (fun _ _ => ⟨rfl, e0, (by decide : 0 + 0 ≤ _), (by decide : 0 + 0 ≤ _)⟩)
  dsimp only [Pt.U, Pt.locs, Pt.cells, Pt.slots] at X2 l2 y2 z2 st2 hQ2
  subst l2 y2 z2
  obtain ⟨rfl, Nq2, hh2⟩ := hQ2
  have O0_2 : Old Z n0 T2.heap := by rw [hh2]; exact O0
  have P0_2 : own_STR Z T2.heap sa f n := by rw [hh2]; exact P0
  have E_s_2 : Exa Z T2.heap sa "java/lang/String" := by rw [hh2]; exact E_s
  have Z2 : n0 ≤ T2.heap.size := by rw [hh2]; exact Z0
  have N2 := Fr.app N0 Nq2
  have pre3 := fun τ (κ : Steps p.tables e below (T2.setTop (mkF m 4 #[.val (.ref ob), .val (.ref sa), .val (.int (Int32.ofNat aa)), .unset] [(.int (Int32.ofNat n))])) τ) => pre1 τ (st2.trans κ)
  have pre4 := fun τ (κ : Steps p.tables e below (T2.setTop (mkF m 5 #[.val (.ref ob), .val (.ref sa), .val (.int (Int32.ofNat aa)), .val (.int (Int32.ofNat n))] [])) τ) => pre3 τ (by
    refine XS.istoreN X2.here hx rfl (hb hby d5_4) rfl (l' := #[.val (.ref ob), .val (.ref sa), .val (.int (Int32.ofNat aa)), .val (.int (Int32.ofNat n))]) rfl ?_
    show Steps p.tables e below (T2.setTop (mkF m 5 #[.val (.ref ob), .val (.ref sa), .val (.int (Int32.ofNat aa)), .val (.int (Int32.ofNat n))] [])) _
    exact κ)
  obtain ⟨T91, lo91, X91, e91, N91, st91⟩ := loopA hx hZ hw hby hml hown ob sa ir C kk n f zc fm Z2 O0_2 U0 P0_2 CT hn hf (Nat.le_of_ble_eq_true rfl) (Nat.le_of_ble_eq_true rfl) (Nat.le_of_ble_eq_true rfl) (Nat.le_of_ble_eq_true rfl) (Nat.le_of_ble_eq_true rfl) (Nat.le_of_ble_eq_true rfl) n aa _ _ (by omega) (by omega) X2 rfl N2
  have pre91 := fun τ (κ : Steps p.tables e below (T91.setTop (mkF m 28 #[.val (.ref ob), .val (.ref sa), .val (.int (Int32.ofNat (own_i1 kk f n aa))), .val (.int (Int32.ofNat n))] [])) τ) => pre4 τ (st91 τ κ)
  have hi1 : own_i1 kk f n aa ≤ 10 := own_i1le (by omega) (by omega)
  by_cases hpv : own_pv kk = 0
  · have Fp0 := CT.2.2.1.ext O0_2.2
    have pre5 := fun τ (κ : Steps p.tables e below (T91.setTop (mkF m 29 #[.val (.ref ob), .val (.ref sa), .val (.int (Int32.ofNat (own_i1 kk f n aa))), .val (.int (Int32.ofNat n))] [(.ref ob)])) τ) => pre91 τ (by
      refine XS.aloadN X91.here hx rfl (hb hby d5_28) rfl rfl ?_
      show Steps p.tables e below (T91.setTop (mkF m 29 #[.val (.ref ob), .val (.ref sa), .val (.int (Int32.ofNat (own_i1 kk f n aa))), .val (.int (Int32.ofNat n))] [(.ref ob)])) _
      exact κ)
    obtain ⟨T6, X6, e6, st6⟩ := getF X91 hx hZ hown (host := "") (Or.inl (hw _ (List.mem_of_getElem? (i := 45) rfl))) Via.refl e91 Fp0 (g := (mkF m 29 #[.val (.ref ob), .val (.ref sa), .val (.int (Int32.ofNat (own_i1 kk f n aa))), .val (.int (Int32.ofNat n))] [(.ref ob)])) rfl rfl (hb hby d5_29)
    have pre7 := fun τ (κ : Steps p.tables e below (T6.setTop (mkF m 32 #[.val (.ref ob), .val (.ref sa), .val (.int (Int32.ofNat (own_i1 kk f n aa))), .val (.int (Int32.ofNat n))] [(.int (own_pv kk))])) τ) => pre5 τ (st6 _ κ)
    have ei2 : own_i2 kk f n aa = own_i1 kk f n aa := by rw [own_i2, if_pos hpv]
    have hi2 : own_i2 kk f n aa ≤ 10 := own_i2le hi1 (by omega)
    have pre8 := fun τ (κ : Steps p.tables e below (T6.setTop (mkF m 58 #[.val (.ref ob), .val (.ref sa), .val (.int (Int32.ofNat (own_i1 kk f n aa))), .val (.int (Int32.ofNat n))] [(.int (Int32.ofNat n)), (.int (Int32.ofNat (own_i1 kk f n aa)))])) τ) => pre7 τ (by
      refine XS.ifYes X6.here hx rfl (pc0 := 32) (pc' := 56) rfl (hb hby d5_32) rfl ((if0 _ _).trans (teq hpv).1) (by decide) (by decide) ?_
      show Steps p.tables e below (T6.setTop (mkF m 56 #[.val (.ref ob), .val (.ref sa), .val (.int (Int32.ofNat (own_i1 kk f n aa))), .val (.int (Int32.ofNat n))] [])) _
      refine XS.iloadN X6.here hx rfl (hb hby d5_56) rfl ?_
      refine XS.iloadN X6.here hx rfl (hb hby d5_57) rfl ?_
      show Steps p.tables e below (T6.setTop (mkF m 58 #[.val (.ref ob), .val (.ref sa), .val (.int (Int32.ofNat (own_i1 kk f n aa))), .val (.int (Int32.ofNat n))] [(.int (Int32.ofNat n)), (.int (Int32.ofNat (own_i1 kk f n aa)))])) _
      exact κ)
    rw [show (Int32.ofNat (own_i1 kk f n aa)) = (Int32.ofNat (own_i2 kk f n aa)) from (by rw [ei2])] at pre8
    by_cases q1 : (Int32.ofNat (own_i2 kk f n aa)) = (Int32.ofNat n)
    · have pre9 := fun τ (κ : Steps p.tables e below (T6.setTop (mkF m 66 #[.val (.ref ob), .val (.ref sa), .val (.int (Int32.ofNat (own_i2 kk f n aa))), .val (.int (Int32.ofNat n))] [(.int (1 : Int32))])) τ) => pre8 τ (by
        refine XS.icmpNo X6.here hx rfl (hb hby d5_58) rfl (teq q1).2 ?_
        show Steps p.tables e below (T6.setTop (mkF m 61 #[.val (.ref ob), .val (.ref sa), .val (.int (Int32.ofNat (own_i2 kk f n aa))), .val (.int (Int32.ofNat n))] [])) _
        refine XS.iconst X6.here hx rfl (hb hby d5_61) ?_
        refine XS.goto X6.here hx rfl (pc0 := 62) (pc' := 66) rfl (hb hby d5_62) (by decide) (by decide) ?_
        show Steps p.tables e below (T6.setTop (mkF m 66 #[.val (.ref ob), .val (.ref sa), .val (.int (Int32.ofNat (own_i2 kk f n aa))), .val (.int (Int32.ofNat n))] [(.int (1 : Int32))])) _
        exact κ)
      obtain ⟨fs, hr, hrun, hended, hW, hsame⟩ := X6.leave (v := some (.int (1 : Int32))) (fun h => by rw [Bd.returns] at h; cases h)
      refine ⟨_, _, pre9 _ ?_, hrun, hended, _, _, rfl, ?_, ⟨_, rfl⟩, hW, hsame.mono (by decide) (by decide)⟩
      · exact retN X6 hx (t := .boolean) Bd.returns (by simp) (hb hby d5_66) hr
      · show Q5 Z ob sa ir C kk aa n f zc fm h0 n0 _ T6.heap _
        rw [e6]
        exact ⟨(by rw [own_rf, if_pos ((own_injN (by omega) (by omega)).mp q1)]), N91, hh2⟩
    · have pre10 := fun τ (κ : Steps p.tables e below (T6.setTop (mkF m 66 #[.val (.ref ob), .val (.ref sa), .val (.int (Int32.ofNat (own_i2 kk f n aa))), .val (.int (Int32.ofNat n))] [(.int (0 : Int32))])) τ) => pre8 τ (by
        refine XS.icmpYes X6.here hx rfl (pc0 := 58) (pc' := 65) rfl (hb hby d5_58) rfl (feq q1).2 (by decide) (by decide) ?_
        show Steps p.tables e below (T6.setTop (mkF m 65 #[.val (.ref ob), .val (.ref sa), .val (.int (Int32.ofNat (own_i2 kk f n aa))), .val (.int (Int32.ofNat n))] [])) _
        refine XS.iconst X6.here hx rfl (hb hby d5_65) ?_
        show Steps p.tables e below (T6.setTop (mkF m 66 #[.val (.ref ob), .val (.ref sa), .val (.int (Int32.ofNat (own_i2 kk f n aa))), .val (.int (Int32.ofNat n))] [(.int (0 : Int32))])) _
        exact κ)
      obtain ⟨fs, hr, hrun, hended, hW, hsame⟩ := X6.leave (v := some (.int (0 : Int32))) (fun h => by rw [Bd.returns] at h; cases h)
      refine ⟨_, _, pre10 _ ?_, hrun, hended, _, _, rfl, ?_, ⟨_, rfl⟩, hW, hsame.mono (by decide) (by decide)⟩
      · exact retN X6 hx (t := .boolean) Bd.returns (by simp) (hb hby d5_66) hr
      · show Q5 Z ob sa ir C kk aa n f zc fm h0 n0 _ T6.heap _
        rw [e6]
        exact ⟨(by rw [own_rf, if_neg fun z => q1 (by rw [z])]), N91, hh2⟩
  · obtain ⟨T92, lo92, X92, e92, N92, st92⟩ := loopB hx hZ hw hby hml hown ob sa ir C kk n f zc fm Z2 O0_2 U0 P0_2 CT hn hf hpv (Nat.le_of_ble_eq_true rfl) (Nat.le_of_ble_eq_true rfl) (Nat.le_of_ble_eq_true rfl) (Nat.le_of_ble_eq_true rfl) (Nat.le_of_ble_eq_true rfl) (Nat.le_of_ble_eq_true rfl) n (own_i1 kk f n aa) _ _ (by omega) (hi1) X91 e91 N91
    have pre92 := fun τ (κ : Steps p.tables e below (T92.setTop (mkF m 56 #[.val (.ref ob), .val (.ref sa), .val (.int (Int32.ofNat (own_wi (own_g2 f) n n (own_i1 kk f n aa)))), .val (.int (Int32.ofNat n))] [])) τ) => pre91 τ (st92 τ κ)
    have ei2 : own_i2 kk f n aa = own_wi (own_g2 f) n n (own_i1 kk f n aa) := by rw [own_i2, if_neg hpv]
    have hi2 : own_i2 kk f n aa ≤ 10 := own_i2le hi1 (by omega)
    rw [show (Int32.ofNat (own_wi (own_g2 f) n n (own_i1 kk f n aa))) = (Int32.ofNat (own_i2 kk f n aa)) from (by rw [ei2])] at pre92
    have pre11 := fun τ (κ : Steps p.tables e below (T92.setTop (mkF m 58 #[.val (.ref ob), .val (.ref sa), .val (.int (Int32.ofNat (own_i2 kk f n aa))), .val (.int (Int32.ofNat n))] [(.int (Int32.ofNat n)), (.int (Int32.ofNat (own_i2 kk f n aa)))])) τ) => pre92 τ (by
      refine XS.iloadN X92.here hx rfl (hb hby d5_56) rfl ?_
      refine XS.iloadN X92.here hx rfl (hb hby d5_57) rfl ?_
      show Steps p.tables e below (T92.setTop (mkF m 58 #[.val (.ref ob), .val (.ref sa), .val (.int (Int32.ofNat (own_i2 kk f n aa))), .val (.int (Int32.ofNat n))] [(.int (Int32.ofNat n)), (.int (Int32.ofNat (own_i2 kk f n aa)))])) _
      exact κ)
    by_cases q1 : (Int32.ofNat (own_i2 kk f n aa)) = (Int32.ofNat n)
    · have pre12 := fun τ (κ : Steps p.tables e below (T92.setTop (mkF m 66 #[.val (.ref ob), .val (.ref sa), .val (.int (Int32.ofNat (own_i2 kk f n aa))), .val (.int (Int32.ofNat n))] [(.int (1 : Int32))])) τ) => pre11 τ (by
        refine XS.icmpNo X92.here hx rfl (hb hby d5_58) rfl (teq q1).2 ?_
        show Steps p.tables e below (T92.setTop (mkF m 61 #[.val (.ref ob), .val (.ref sa), .val (.int (Int32.ofNat (own_i2 kk f n aa))), .val (.int (Int32.ofNat n))] [])) _
        refine XS.iconst X92.here hx rfl (hb hby d5_61) ?_
        refine XS.goto X92.here hx rfl (pc0 := 62) (pc' := 66) rfl (hb hby d5_62) (by decide) (by decide) ?_
        show Steps p.tables e below (T92.setTop (mkF m 66 #[.val (.ref ob), .val (.ref sa), .val (.int (Int32.ofNat (own_i2 kk f n aa))), .val (.int (Int32.ofNat n))] [(.int (1 : Int32))])) _
        exact κ)
      obtain ⟨fs, hr, hrun, hended, hW, hsame⟩ := X92.leave (v := some (.int (1 : Int32))) (fun h => by rw [Bd.returns] at h; cases h)
      refine ⟨_, _, pre12 _ ?_, hrun, hended, _, _, rfl, ?_, ⟨_, rfl⟩, hW, hsame.mono (by decide) (by decide)⟩
      · exact retN X92 hx (t := .boolean) Bd.returns (by simp) (hb hby d5_66) hr
      · show Q5 Z ob sa ir C kk aa n f zc fm h0 n0 _ T92.heap _
        rw [e92]
        exact ⟨(by rw [own_rf, if_pos ((own_injN (by omega) (by omega)).mp q1)]), N92, hh2⟩
    · have pre13 := fun τ (κ : Steps p.tables e below (T92.setTop (mkF m 66 #[.val (.ref ob), .val (.ref sa), .val (.int (Int32.ofNat (own_i2 kk f n aa))), .val (.int (Int32.ofNat n))] [(.int (0 : Int32))])) τ) => pre11 τ (by
        refine XS.icmpYes X92.here hx rfl (pc0 := 58) (pc' := 65) rfl (hb hby d5_58) rfl (feq q1).2 (by decide) (by decide) ?_
        show Steps p.tables e below (T92.setTop (mkF m 65 #[.val (.ref ob), .val (.ref sa), .val (.int (Int32.ofNat (own_i2 kk f n aa))), .val (.int (Int32.ofNat n))] [])) _
        refine XS.iconst X92.here hx rfl (hb hby d5_65) ?_
        show Steps p.tables e below (T92.setTop (mkF m 66 #[.val (.ref ob), .val (.ref sa), .val (.int (Int32.ofNat (own_i2 kk f n aa))), .val (.int (Int32.ofNat n))] [(.int (0 : Int32))])) _
        exact κ)
      obtain ⟨fs, hr, hrun, hended, hW, hsame⟩ := X92.leave (v := some (.int (0 : Int32))) (fun h => by rw [Bd.returns] at h; cases h)
      refine ⟨_, _, pre13 _ ?_, hrun, hended, _, _, rfl, ?_, ⟨_, rfl⟩, hW, hsame.mono (by decide) (by decide)⟩
      · exact retN X92 hx (t := .boolean) Bd.returns (by simp) (hb hby d5_66) hr
      · show Q5 Z ob sa ir C kk aa n f zc fm h0 n0 _ T92.heap _
        rw [e92]
        exact ⟨(by rw [own_rf, if_neg fun z => q1 (by rw [z])]), N92, hh2⟩
theorem ef_0 (m : MethodId) (i0 : Int32) (i1 : Int32) (i2 : Int32) (i3 : Int32) (zc : Int32) (fm : Value) : entryFrame m #[(.int i0), (.int i1), (.int i2), (.int i3)] maxLocals = mkF m 0 #[.val (.int i0), .val (.int i1), .val (.int i2), .val (.int i3), .unset, .unset, .unset, .unset, .unset, .unset, .unset, .unset, .unset, .unset, .unset, .unset, .unset] [] := by first | (simp [entryFrame, mkF, argsToLocals, Value.category, maxLocals]; done) | rfl
def Q0 (Z : State) (i0 : Int32) (i1 : Int32) (i2 : Int32) (i3 : Int32) (zc : Int32) (fm : Value) (h0 : Heap) (n0 : Nat) (v : Option Value) (h : Heap) (L : List Loc) : Prop := v = some (.int 1) ∧ Fr n0 L
set_option maxRecDepth 65536 in
set_option maxHeartbeats 40000000 in
theorem rm0 (l : Launch) (Z : State) (a0 : Array Value) (hw : ∀ d ∈ tables_1, d.before a0 Z = true) (ws : List Jvm.Cond) (i0 : Int32) (i1 : Int32) (i2 : Int32) (i3 : Int32) (zc : Int32) (fm : Value) (h0 : Heap) (n0 : Nat) (Z0 : n0 ≤ h0.size) (O0 : Old Z n0 h0) (U0 : own_ST Z zc fm) (CA : own_CA Z) :
    MetFree l x (head1 (Jvm.Cond.code x code maxLocals ret :: ws) room_1) (fun α υ => α = #[(.int i0), (.int i1), (.int i2), (.int i3)] ∧ Z.Warmed39 υ.vm ∧ υ.heap = h0 ∧ CHv Z consts_1 υ.vm h0) (fun _ _ _ _ _ => True) (fun _ υ ω υ' => ∃ v L, ω = .returned v ∧ Q0 Z i0 i1 i2 i3 zc fm h0 n0 v υ'.heap L ∧ ReturnedEndW υ ω υ' L room_1.cells room_1.slots) := by
  refine MetFree.of_bodySF (plainFor_of_name pn_com_example_huiqiao_huiqiao_iso8583_ContentRunsFromPinLaw) hisR ?_
  intro p e s m args below meth c s₁ Bd hml0 hP hK
  obtain ⟨rfl, hZ, hh, hC0⟩ := hP
  have hx := Bd.exec
  have hby := Bd.bytes
  have hml : c.maxLocals = 17 := hml0
  have hown : s.vm.findClass "com/example/huiqiao/huiqiao/iso8583/ContentRunsFromPinLaw" = some m.cls := findClass_of_methodNamed Bd.named
  have hnm := (name_of_methodNamed Bd.named Bd.method).1
  have X0 : Stand p l e room_1 s m #[(.int i0), (.int i1), (.int i2), (.int i3)] below meth c s₁ [] 0 0 := Stand.of_body Bd
  have e0 : s₁.heap = h0 := by rw [← hh, Bd.state]; rfl
  have N0 := Fr.nil n0
  have pre0 : ∀ τ, Steps p.tables e below (s₁.setTop (mkF m 0 #[.val (.int i0), .val (.int i1), .val (.int i2), .val (.int i3), .unset, .unset, .unset, .unset, .unset, .unset, .unset, .unset, .unset, .unset, .unset, .unset, .unset] [])) τ → Steps p.tables e below (s₁.setTop (entryFrame m #[(.int i0), (.int i1), (.int i2), (.int i3)] maxLocals)) τ := fun τ κ => castTop (ef_0 m i0 i1 i2 i3 zc fm) κ
  have hS0 : s.Since s.vm 0 := (State.WarmedH.refl s).since 0
  have hks : 0 ≤ h0.size := Nat.zero_le _
  have hEL := own_EL hw
  have Kp0 : Keep h0 h0 [] := Keep.refl _ _
  obtain ⟨kk, hk6, ek⟩ := own_k6 i0
  have pre1 := fun τ (κ : Steps p.tables e below (s₁.setTop (mkF m 7 #[.val (.int i0), .val (.int i1), .val (.int i2), .val (.int i3), .unset, .unset, .unset, .unset, .unset, .unset, .unset, .unset, .unset, .unset, .unset, .unset, .unset] [(.int ((i0 &&& (15 : Int32)) % (6 : Int32)))])) τ) => pre0 τ (by
    refine XS.iloadN X0.here hx rfl (hb hby at_0) rfl ?_
    refine XS.bipush X0.here hx rfl (hb hby at_1) ?_
    refine XS.iand X0.here hx rfl (hb hby at_3) rfl ?_
    show Steps p.tables e below (s₁.setTop (mkF m 4 #[.val (.int i0), .val (.int i1), .val (.int i2), .val (.int i3), .unset, .unset, .unset, .unset, .unset, .unset, .unset, .unset, .unset, .unset, .unset, .unset, .unset] [(.int (i0 &&& (15 : Int32)))])) _
    refine XS.bipush X0.here hx rfl (hb hby at_4) ?_
    refine iremM X0 hx rfl (hb hby at_6) rfl (by decide) ?_
    show Steps p.tables e below (s₁.setTop (mkF m 7 #[.val (.int i0), .val (.int i1), .val (.int i2), .val (.int i3), .unset, .unset, .unset, .unset, .unset, .unset, .unset, .unset, .unset, .unset, .unset, .unset, .unset] [(.int ((i0 &&& (15 : Int32)) % (6 : Int32)))])) _
    exact κ)
  rw [show ((i0 &&& (15 : Int32)) % (6 : Int32)) = kk from ek] at pre1
  obtain ⟨aa, ha7, eaa⟩ : ∃ z, z ≤ 7 ∧ (((i0.toUInt32 >>> ((4 : Int32) &&& 31).toUInt32).toInt32) &&& (7 : Int32)) = Int32.ofNat z := own_and _ _ 7 (by decide) (by decide) (by decide)
  have pre2 := fun τ (κ : Steps p.tables e below (s₁.setTop (mkF m 15 #[.val (.int i0), .val (.int i1), .val (.int i2), .val (.int i3), .val (.int kk), .unset, .unset, .unset, .unset, .unset, .unset, .unset, .unset, .unset, .unset, .unset, .unset] [(.int (((i0.toUInt32 >>> ((4 : Int32) &&& 31).toUInt32).toInt32) &&& (7 : Int32)))])) τ) => pre1 τ (by
    refine XS.istore X0.here hx rfl (hb hby at_7) rfl (l' := #[.val (.int i0), .val (.int i1), .val (.int i2), .val (.int i3), .val (.int kk), .unset, .unset, .unset, .unset, .unset, .unset, .unset, .unset, .unset, .unset, .unset, .unset]) rfl ?_
    show Steps p.tables e below (s₁.setTop (mkF m 9 #[.val (.int i0), .val (.int i1), .val (.int i2), .val (.int i3), .val (.int kk), .unset, .unset, .unset, .unset, .unset, .unset, .unset, .unset, .unset, .unset, .unset, .unset] [])) _
    refine XS.iloadN X0.here hx rfl (hb hby at_9) rfl ?_
    refine XS.iconst X0.here hx rfl (hb hby at_10) ?_
    refine XS.iushr X0.here hx rfl (hb hby at_11) rfl ?_
    show Steps p.tables e below (s₁.setTop (mkF m 12 #[.val (.int i0), .val (.int i1), .val (.int i2), .val (.int i3), .val (.int kk), .unset, .unset, .unset, .unset, .unset, .unset, .unset, .unset, .unset, .unset, .unset, .unset] [(.int ((i0.toUInt32 >>> ((4 : Int32) &&& 31).toUInt32).toInt32))])) _
    refine XS.bipush X0.here hx rfl (hb hby at_12) ?_
    refine XS.iand X0.here hx rfl (hb hby at_14) rfl ?_
    show Steps p.tables e below (s₁.setTop (mkF m 15 #[.val (.int i0), .val (.int i1), .val (.int i2), .val (.int i3), .val (.int kk), .unset, .unset, .unset, .unset, .unset, .unset, .unset, .unset, .unset, .unset, .unset, .unset] [(.int (((i0.toUInt32 >>> ((4 : Int32) &&& 31).toUInt32).toInt32) &&& (7 : Int32)))])) _
    exact κ)
  rw [show (((i0.toUInt32 >>> ((4 : Int32) &&& 31).toUInt32).toInt32) &&& (7 : Int32)) = (Int32.ofNat aa) from eaa] at pre2
  obtain ⟨nn, hn3, enn⟩ : ∃ z, z ≤ 3 ∧ (((i0.toUInt32 >>> ((8 : Int32) &&& 31).toUInt32).toInt32) &&& (3 : Int32)) = Int32.ofNat z := own_and _ _ 3 (by decide) (by decide) (by decide)
  have pre3 := fun τ (κ : Steps p.tables e below (s₁.setTop (mkF m 23 #[.val (.int i0), .val (.int i1), .val (.int i2), .val (.int i3), .val (.int kk), .val (.int (Int32.ofNat aa)), .unset, .unset, .unset, .unset, .unset, .unset, .unset, .unset, .unset, .unset, .unset] [(.int (((i0.toUInt32 >>> ((8 : Int32) &&& 31).toUInt32).toInt32) &&& (3 : Int32)))])) τ) => pre2 τ (by
    refine XS.istore X0.here hx rfl (hb hby at_15) rfl (l' := #[.val (.int i0), .val (.int i1), .val (.int i2), .val (.int i3), .val (.int kk), .val (.int (Int32.ofNat aa)), .unset, .unset, .unset, .unset, .unset, .unset, .unset, .unset, .unset, .unset, .unset]) rfl ?_
    show Steps p.tables e below (s₁.setTop (mkF m 17 #[.val (.int i0), .val (.int i1), .val (.int i2), .val (.int i3), .val (.int kk), .val (.int (Int32.ofNat aa)), .unset, .unset, .unset, .unset, .unset, .unset, .unset, .unset, .unset, .unset, .unset] [])) _
    refine XS.iloadN X0.here hx rfl (hb hby at_17) rfl ?_
    refine XS.bipush X0.here hx rfl (hb hby at_18) ?_
    refine XS.iushr X0.here hx rfl (hb hby at_20) rfl ?_
    show Steps p.tables e below (s₁.setTop (mkF m 21 #[.val (.int i0), .val (.int i1), .val (.int i2), .val (.int i3), .val (.int kk), .val (.int (Int32.ofNat aa)), .unset, .unset, .unset, .unset, .unset, .unset, .unset, .unset, .unset, .unset, .unset] [(.int ((i0.toUInt32 >>> ((8 : Int32) &&& 31).toUInt32).toInt32))])) _
    refine XS.iconst X0.here hx rfl (hb hby at_21) ?_
    refine XS.iand X0.here hx rfl (hb hby at_22) rfl ?_
    show Steps p.tables e below (s₁.setTop (mkF m 23 #[.val (.int i0), .val (.int i1), .val (.int i2), .val (.int i3), .val (.int kk), .val (.int (Int32.ofNat aa)), .unset, .unset, .unset, .unset, .unset, .unset, .unset, .unset, .unset, .unset, .unset] [(.int (((i0.toUInt32 >>> ((8 : Int32) &&& 31).toUInt32).toInt32) &&& (3 : Int32)))])) _
    exact κ)
  rw [show (((i0.toUInt32 >>> ((8 : Int32) &&& 31).toUInt32).toInt32) &&& (3 : Int32)) = (Int32.ofNat nn) from enn] at pre3
  have pre4 := fun τ (κ : Steps p.tables e below (s₁.setTop (mkF m 27 #[.val (.int i0), .val (.int i1), .val (.int i2), .val (.int i3), .val (.int kk), .val (.int (Int32.ofNat aa)), .val (.int (Int32.ofNat nn)), .unset, .unset, .unset, .unset, .unset, .unset, .unset, .unset, .unset, .unset] [(.int (i1.toUInt32.toUInt16.toUInt32.toInt32))])) τ) => pre3 τ (by
    refine XS.istore X0.here hx rfl (hb hby at_23) rfl (l' := #[.val (.int i0), .val (.int i1), .val (.int i2), .val (.int i3), .val (.int kk), .val (.int (Int32.ofNat aa)), .val (.int (Int32.ofNat nn)), .unset, .unset, .unset, .unset, .unset, .unset, .unset, .unset, .unset, .unset]) rfl ?_
    show Steps p.tables e below (s₁.setTop (mkF m 25 #[.val (.int i0), .val (.int i1), .val (.int i2), .val (.int i3), .val (.int kk), .val (.int (Int32.ofNat aa)), .val (.int (Int32.ofNat nn)), .unset, .unset, .unset, .unset, .unset, .unset, .unset, .unset, .unset, .unset] [])) _
    refine XS.iloadN X0.here hx rfl (hb hby at_25) rfl ?_
    refine XS.i2c X0.here hx rfl (hb hby at_26) rfl ?_
    show Steps p.tables e below (s₁.setTop (mkF m 27 #[.val (.int i0), .val (.int i1), .val (.int i2), .val (.int i3), .val (.int kk), .val (.int (Int32.ofNat aa)), .val (.int (Int32.ofNat nn)), .unset, .unset, .unset, .unset, .unset, .unset, .unset, .unset, .unset, .unset] [(.int (i1.toUInt32.toUInt16.toUInt32.toInt32))])) _
    exact κ)
  obtain ⟨cc0, h_cc0⟩ : ∃ z : Int32, z = (i1.toUInt32.toUInt16.toUInt32.toInt32) := ⟨_, rfl⟩
  rw [← h_cc0] at pre4
  have hc_0 : own_ch cc0 := by rw [h_cc0]; exact own_chn i1
  have pre5 := fun τ (κ : Steps p.tables e below (s₁.setTop (mkF m 31 #[.val (.int i0), .val (.int i1), .val (.int i2), .val (.int i3), .val (.int kk), .val (.int (Int32.ofNat aa)), .val (.int (Int32.ofNat nn)), .val (.int cc0), .unset, .unset, .unset, .unset, .unset, .unset, .unset, .unset, .unset] [(.int (i2.toUInt32.toUInt16.toUInt32.toInt32))])) τ) => pre4 τ (by
    refine XS.istore X0.here hx rfl (hb hby at_27) rfl (l' := #[.val (.int i0), .val (.int i1), .val (.int i2), .val (.int i3), .val (.int kk), .val (.int (Int32.ofNat aa)), .val (.int (Int32.ofNat nn)), .val (.int cc0), .unset, .unset, .unset, .unset, .unset, .unset, .unset, .unset, .unset]) rfl ?_
    show Steps p.tables e below (s₁.setTop (mkF m 29 #[.val (.int i0), .val (.int i1), .val (.int i2), .val (.int i3), .val (.int kk), .val (.int (Int32.ofNat aa)), .val (.int (Int32.ofNat nn)), .val (.int cc0), .unset, .unset, .unset, .unset, .unset, .unset, .unset, .unset, .unset] [])) _
    refine XS.iloadN X0.here hx rfl (hb hby at_29) rfl ?_
    refine XS.i2c X0.here hx rfl (hb hby at_30) rfl ?_
    show Steps p.tables e below (s₁.setTop (mkF m 31 #[.val (.int i0), .val (.int i1), .val (.int i2), .val (.int i3), .val (.int kk), .val (.int (Int32.ofNat aa)), .val (.int (Int32.ofNat nn)), .val (.int cc0), .unset, .unset, .unset, .unset, .unset, .unset, .unset, .unset, .unset] [(.int (i2.toUInt32.toUInt16.toUInt32.toInt32))])) _
    exact κ)
  obtain ⟨cc1, h_cc1⟩ : ∃ z : Int32, z = (i2.toUInt32.toUInt16.toUInt32.toInt32) := ⟨_, rfl⟩
  rw [← h_cc1] at pre5
  have hc_1 : own_ch cc1 := by rw [h_cc1]; exact own_chn i2
  have pre6 := fun τ (κ : Steps p.tables e below (s₁.setTop (mkF m 35 #[.val (.int i0), .val (.int i1), .val (.int i2), .val (.int i3), .val (.int kk), .val (.int (Int32.ofNat aa)), .val (.int (Int32.ofNat nn)), .val (.int cc0), .val (.int cc1), .unset, .unset, .unset, .unset, .unset, .unset, .unset, .unset] [(.int (i3.toUInt32.toUInt16.toUInt32.toInt32))])) τ) => pre5 τ (by
    refine XS.istore X0.here hx rfl (hb hby at_31) rfl (l' := #[.val (.int i0), .val (.int i1), .val (.int i2), .val (.int i3), .val (.int kk), .val (.int (Int32.ofNat aa)), .val (.int (Int32.ofNat nn)), .val (.int cc0), .val (.int cc1), .unset, .unset, .unset, .unset, .unset, .unset, .unset, .unset]) rfl ?_
    show Steps p.tables e below (s₁.setTop (mkF m 33 #[.val (.int i0), .val (.int i1), .val (.int i2), .val (.int i3), .val (.int kk), .val (.int (Int32.ofNat aa)), .val (.int (Int32.ofNat nn)), .val (.int cc0), .val (.int cc1), .unset, .unset, .unset, .unset, .unset, .unset, .unset, .unset] [])) _
    refine XS.iloadN X0.here hx rfl (hb hby at_33) rfl ?_
    refine XS.i2c X0.here hx rfl (hb hby at_34) rfl ?_
    show Steps p.tables e below (s₁.setTop (mkF m 35 #[.val (.int i0), .val (.int i1), .val (.int i2), .val (.int i3), .val (.int kk), .val (.int (Int32.ofNat aa)), .val (.int (Int32.ofNat nn)), .val (.int cc0), .val (.int cc1), .unset, .unset, .unset, .unset, .unset, .unset, .unset, .unset] [(.int (i3.toUInt32.toUInt16.toUInt32.toInt32))])) _
    exact κ)
  obtain ⟨cc2, h_cc2⟩ : ∃ z : Int32, z = (i3.toUInt32.toUInt16.toUInt32.toInt32) := ⟨_, rfl⟩
  rw [← h_cc2] at pre6
  have hc_2 : own_ch cc2 := by rw [h_cc2]; exact own_chn i3
  have pre7 := fun τ (κ : Steps p.tables e below (s₁.setTop (mkF m 39 #[.val (.int i0), .val (.int i1), .val (.int i2), .val (.int i3), .val (.int kk), .val (.int (Int32.ofNat aa)), .val (.int (Int32.ofNat nn)), .val (.int cc0), .val (.int cc1), .val (.int cc2), .unset, .unset, .unset, .unset, .unset, .unset, .unset] [(.int (Int32.ofNat nn))])) τ) => pre6 τ (by
    refine XS.istore X0.here hx rfl (hb hby at_35) rfl (l' := #[.val (.int i0), .val (.int i1), .val (.int i2), .val (.int i3), .val (.int kk), .val (.int (Int32.ofNat aa)), .val (.int (Int32.ofNat nn)), .val (.int cc0), .val (.int cc1), .val (.int cc2), .unset, .unset, .unset, .unset, .unset, .unset, .unset]) rfl ?_
    show Steps p.tables e below (s₁.setTop (mkF m 37 #[.val (.int i0), .val (.int i1), .val (.int i2), .val (.int i3), .val (.int kk), .val (.int (Int32.ofNat aa)), .val (.int (Int32.ofNat nn)), .val (.int cc0), .val (.int cc1), .val (.int cc2), .unset, .unset, .unset, .unset, .unset, .unset, .unset] [])) _
    refine XS.iload X0.here hx rfl (hb hby at_37) rfl ?_
    show Steps p.tables e below (s₁.setTop (mkF m 39 #[.val (.int i0), .val (.int i1), .val (.int i2), .val (.int i3), .val (.int kk), .val (.int (Int32.ofNat aa)), .val (.int (Int32.ofNat nn)), .val (.int cc0), .val (.int cc1), .val (.int cc2), .unset, .unset, .unset, .unset, .unset, .unset, .unset] [(.int (Int32.ofNat nn))])) _
    exact κ)
  rcases (show nn = 0 ∨ 0 < nn by omega) with hz | hn0
  · subst hz
    rw [show (Int32.ofNat 0) = (0 : Int32) from rfl] at pre7
    obtain ⟨T8, h8, k8, X8, e8, E8, A8, st8⟩ := newP X0 hx hZ (hw _ (List.mem_of_getElem? (i := 0) rfl)) e0 (g := (mkF m 39 #[.val (.int i0), .val (.int i1), .val (.int i2), .val (.int i3), .val (.int kk), .val (.int (Int32.ofNat aa)), .val (.int (0 : Int32)), .val (.int cc0), .val (.int cc1), .val (.int cc2), .unset, .unset, .unset, .unset, .unset, .unset, .unset] [(.int (0 : Int32))])) rfl (hb hby at_39) rfl (by decide) (cap := 0) (by decide) (by decide) (by decide) (by decide)
    obtain ⟨ar, g8⟩ : ∃ z, z = h0.size := ⟨_, rfl⟩
    rw [← g8] at A8 st8
    have g_ar : n0 ≤ ar := Nat.le_trans Z0 (Nat.le_of_eq g8.symm)
    have O0_8 : Old Z n0 h8 := O0.ext E8
    have sz_ar : h0.size ≤ ar := Nat.le_trans Kp0.1 (Nat.le_of_eq g8.symm)
    have Kp8 : Keep h0 h8 [] := Kp0.ext E8
    have Z8 : n0 ≤ h8.size := Nat.le_trans Z0 E8.1
    have V_ar_8 : Arv Z h8 ar k8 .char (0 : Int32) [] (.int (0 : Int32)) := (Arv.new A8 (by decide)).pad (pad_rep [] (.int (0 : Int32)) 0)
    have pre9 := fun τ (κ : Steps p.tables e below (T8.setTop (mkF m 41 #[.val (.int i0), .val (.int i1), .val (.int i2), .val (.int i3), .val (.int kk), .val (.int (Int32.ofNat aa)), .val (.int (0 : Int32)), .val (.int cc0), .val (.int cc1), .val (.int cc2), .unset, .unset, .unset, .unset, .unset, .unset, .unset] [(.ref ar)])) τ) => pre7 τ (st8 _ κ)
    have pre10 := fun τ (κ : Steps p.tables e below (T8.setTop (mkF m 78 #[.val (.int i0), .val (.int i1), .val (.int i2), .val (.int i3), .val (.int kk), .val (.int (Int32.ofNat aa)), .val (.int (0 : Int32)), .val (.int cc0), .val (.int cc1), .val (.int cc2), .val (.ref ar), .unset, .unset, .unset, .unset, .unset, .unset] [])) τ) => pre9 τ (by
      refine XS.astore X8.here hx rfl (hb hby at_41) rfl rfl (l' := #[.val (.int i0), .val (.int i1), .val (.int i2), .val (.int i3), .val (.int kk), .val (.int (Int32.ofNat aa)), .val (.int (0 : Int32)), .val (.int cc0), .val (.int cc1), .val (.int cc2), .val (.ref ar), .unset, .unset, .unset, .unset, .unset, .unset]) rfl ?_
      show Steps p.tables e below (T8.setTop (mkF m 43 #[.val (.int i0), .val (.int i1), .val (.int i2), .val (.int i3), .val (.int kk), .val (.int (Int32.ofNat aa)), .val (.int (0 : Int32)), .val (.int cc0), .val (.int cc1), .val (.int cc2), .val (.ref ar), .unset, .unset, .unset, .unset, .unset, .unset] [])) _
      refine XS.iload X8.here hx rfl (hb hby at_43) rfl ?_
      refine XS.ifYes X8.here hx rfl (pc0 := 45) (pc' := 54) rfl (hb hby at_45) rfl ((if0 _ _).trans (flt (by decide)).2.2.2) (by decide) (by decide) ?_
      show Steps p.tables e below (T8.setTop (mkF m 54 #[.val (.int i0), .val (.int i1), .val (.int i2), .val (.int i3), .val (.int kk), .val (.int (Int32.ofNat aa)), .val (.int (0 : Int32)), .val (.int cc0), .val (.int cc1), .val (.int cc2), .val (.ref ar), .unset, .unset, .unset, .unset, .unset, .unset] [])) _
      refine XS.iload X8.here hx rfl (hb hby at_54) rfl ?_
      refine XS.iconst X8.here hx rfl (hb hby at_56) ?_
      refine XS.icmpYes X8.here hx rfl (pc0 := 57) (pc' := 66) rfl (hb hby at_57) rfl (flt (by decide)).2.2.2 (by decide) (by decide) ?_
      show Steps p.tables e below (T8.setTop (mkF m 66 #[.val (.int i0), .val (.int i1), .val (.int i2), .val (.int i3), .val (.int kk), .val (.int (Int32.ofNat aa)), .val (.int (0 : Int32)), .val (.int cc0), .val (.int cc1), .val (.int cc2), .val (.ref ar), .unset, .unset, .unset, .unset, .unset, .unset] [])) _
      refine XS.iload X8.here hx rfl (hb hby at_66) rfl ?_
      refine XS.iconst X8.here hx rfl (hb hby at_68) ?_
      refine XS.icmpYes X8.here hx rfl (pc0 := 69) (pc' := 78) rfl (hb hby at_69) rfl (flt (by decide)).2.2.2 (by decide) (by decide) ?_
      show Steps p.tables e below (T8.setTop (mkF m 78 #[.val (.int i0), .val (.int i1), .val (.int i2), .val (.int i3), .val (.int kk), .val (.int (Int32.ofNat aa)), .val (.int (0 : Int32)), .val (.int cc0), .val (.int cc1), .val (.int cc2), .val (.ref ar), .unset, .unset, .unset, .unset, .unset, .unset] [])) _
      exact κ)
    obtain ⟨T11, h11, X11, e11, E11, A11, D11, -, st11⟩ := newO X8 hx hZ hown (hw _ (List.mem_of_getElem? (i := 1) rfl)) (hw _ (List.mem_of_getElem? (i := 2) rfl)) (hw _ (List.mem_of_getElem? (i := 3) rfl)) e8 (g := (mkF m 78 #[.val (.int i0), .val (.int i1), .val (.int i2), .val (.int i3), .val (.int kk), .val (.int (Int32.ofNat aa)), .val (.int (0 : Int32)), .val (.int cc0), .val (.int cc1), .val (.int cc2), .val (.ref ar), .unset, .unset, .unset, .unset, .unset, .unset] [])) rfl (hb hby at_78) (by decide) (by decide)
    obtain ⟨so, g11⟩ : ∃ z, z = h8.size := ⟨_, rfl⟩
    rw [← g11] at A11 D11 st11
    have g_so : n0 ≤ so := Nat.le_trans Z8 (Nat.le_of_eq g11.symm)
    have ne_ar_so : ar ≠ so := Nat.ne_of_lt (Nat.lt_of_lt_of_le V_ar_8.lt (Nat.le_of_eq g11.symm))
    have O0_11 : Old Z n0 h11 := O0_8.ext E11
    have V_ar_11 : Arv Z h11 ar k8 .char (0 : Int32) [] (.int (0 : Int32)) := V_ar_8.ext E11
    have sz_so : h0.size ≤ so := Nat.le_trans Kp8.1 (Nat.le_of_eq g11.symm)
    have Kp11 : Keep h0 h11 [] := Kp8.ext E11
    have Z11 : n0 ≤ h11.size := Nat.le_trans Z8 E11.1
    have F_value_so_11 : Fld Z h11 so "java/lang/String" "value" "[B" .null := D11 (Or.inr (hw _ (List.mem_of_getElem? (i := 16) rfl))) (ty := (.array .byte)) (by decide)
    have F_coder_so_11 : Fld Z h11 so "java/lang/String" "coder" "B" (.int (0 : Int32)) := D11 (Or.inr (hw _ (List.mem_of_getElem? (i := 17) rfl))) (ty := .byte) (by decide)
    have pre12 := fun τ (κ : Steps p.tables e below (T11.setTop (mkF m 81 #[.val (.int i0), .val (.int i1), .val (.int i2), .val (.int i3), .val (.int kk), .val (.int (Int32.ofNat aa)), .val (.int (0 : Int32)), .val (.int cc0), .val (.int cc1), .val (.int cc2), .val (.ref ar), .unset, .unset, .unset, .unset, .unset, .unset] [(.ref so)])) τ) => pre10 τ (st11 _ κ)
    have pre13 := fun τ (κ : Steps p.tables e below (T11.setTop (mkF m 84 #[.val (.int i0), .val (.int i1), .val (.int i2), .val (.int i3), .val (.int kk), .val (.int (Int32.ofNat aa)), .val (.int (0 : Int32)), .val (.int cc0), .val (.int cc1), .val (.int cc2), .val (.ref ar), .unset, .unset, .unset, .unset, .unset, .unset] [(.ref ar), (.ref so), (.ref so)])) τ) => pre12 τ (by
      refine XS.dup X11.here hx rfl (hb hby at_81) rfl rfl ?_
      show Steps p.tables e below (T11.setTop (mkF m 82 #[.val (.int i0), .val (.int i1), .val (.int i2), .val (.int i3), .val (.int kk), .val (.int (Int32.ofNat aa)), .val (.int (0 : Int32)), .val (.int cc0), .val (.int cc1), .val (.int cc2), .val (.ref ar), .unset, .unset, .unset, .unset, .unset, .unset] [(.ref so), (.ref so)])) _
      refine XS.aload X11.here hx rfl (hb hby at_82) rfl rfl ?_
      show Steps p.tables e below (T11.setTop (mkF m 84 #[.val (.int i0), .val (.int i1), .val (.int i2), .val (.int i3), .val (.int kk), .val (.int (Int32.ofNat aa)), .val (.int (0 : Int32)), .val (.int cc0), .val (.int cc1), .val (.int cc2), .val (.ref ar), .unset, .unset, .unset, .unset, .unset, .unset] [(.ref ar), (.ref so), (.ref so)])) _
      exact κ)
    obtain ⟨_, _, ⟨T14, L14, k14, n14⟩, -, X14, hS14, gr14, ⟨Lc14, hQ14, l14, y14, z14, C14⟩, st14⟩ := X11.specialBackS hx (y := (⟨"java/lang/String", "<init>", "([C)V"⟩ : MethodName)) rfl hown (mvT hZ (hw _ (List.mem_of_getElem? (i := 4) rfl))) (mvT hZ (hw _ (List.mem_of_getElem? (i := 5) rfl))) (mvT hZ (hw _ (List.mem_of_getElem? (i := 6) rfl))) (by decide) (backOfSH (s := s) (vm0 := s.vm) (W := 1) (rm1e l Z a0 hw [] so ar (own_f3 cc0 cc1 cc2) k8 h11 n0 Z11 A11 F_value_so_11 F_coder_so_11 g_so V_ar_11 (Ne.symm ne_ar_so)) hZ (hw _ (List.mem_of_getElem? (i := 6) rfl)) (hw _ (List.mem_of_getElem? (i := 3) rfl)) (Nat.le_of_ble_eq_true rfl) (Nat.le_of_ble_eq_true rfl) hEL (CHv.keep Kp11 sf0 hC0)) (g := (mkF m 84 #[.val (.int i0), .val (.int i1), .val (.int i2), .val (.int i3), .val (.int kk), .val (.int (Int32.ofNat aa)), .val (.int (0 : Int32)), .val (.int cc0), .val (.int cc1), .val (.int cc2), .val (.ref ar), .unset, .unset, .unset, .unset, .unset, .unset] [(.ref ar), (.ref so), (.ref so)])) rfl (by rw [hml]; rfl) (Steps.refl _) (a := so) (argsL := [(.ref ar)]) (rest := [(.ref so)]) (lenOf pd_18 rfl) rfl (by show 2 * 0 + _ ≤ _; exact Nat.le_of_eq rfl) (hb hby at_84) (fun _ _ => ⟨rfl, e11, (by decide : 2 + 2 ≤ _), (by decide : 4 + 4 ≤ _)⟩)
    dsimp only [Pt.U, Pt.locs, Pt.cells, Pt.slots] at X14 l14 y14 z14 st14 hQ14 hS14 gr14 C14
    subst l14 y14 z14
    obtain ⟨X14, hSr14, hZ, hown⟩ := rebS (s := s) (vm0 := s.vm) hS0 (Nat.zero_le _) X14 hS14 gr14 hZ hown
    have hks := Nat.le_refl T14.heap.size
    obtain ⟨sx14, hsx14⟩ : ∃ z, z = s.setVm T14.vm := ⟨_, rfl⟩
    rw [← hsx14] at X14 hZ hown
    obtain ⟨rfl, Nq14, K14, P14⟩ := hQ14
    have O0_14 : Old Z n0 T14.heap := O0_11.keep K14 (allS g_so all0)
    have V_ar_14 : Arv Z T14.heap ar k8 .char (0 : Int32) [] (.int (0 : Int32)) := V_ar_11.keep K14 (ninS ne_ar_so nin0)
    have A11_14 : Exa Z T14.heap so "java/lang/String" := A11.keep K14
    have Z14 : n0 ≤ T14.heap.size := Nat.le_trans Z11 K14.1
    have Kp14 : Keep h0 T14.heap [] := Kp11.trans K14 (allS (Or.inr sz_so) all0)
    have N14 := Fr.app N0 Nq14
    have pre15 := fun τ (κ : Steps p.tables e below (T14.setTop (mkF m 87 #[.val (.int i0), .val (.int i1), .val (.int i2), .val (.int i3), .val (.int kk), .val (.int (Int32.ofNat aa)), .val (.int (0 : Int32)), .val (.int cc0), .val (.int cc1), .val (.int cc2), .val (.ref ar), .unset, .unset, .unset, .unset, .unset, .unset] [(.ref so)])) τ) => pre13 τ (st14.trans κ)
    have pre16 := fun τ (κ : Steps p.tables e below (T14.setTop (mkF m 91 #[.val (.int i0), .val (.int i1), .val (.int i2), .val (.int i3), .val (.int kk), .val (.int (Int32.ofNat aa)), .val (.int (0 : Int32)), .val (.int cc0), .val (.int cc1), .val (.int cc2), .val (.ref ar), .val (.ref so), .unset, .unset, .unset, .unset, .unset] [(.int kk)])) τ) => pre15 τ (by
      refine XS.astore X14.here hx rfl (hb hby at_87) rfl rfl (l' := #[.val (.int i0), .val (.int i1), .val (.int i2), .val (.int i3), .val (.int kk), .val (.int (Int32.ofNat aa)), .val (.int (0 : Int32)), .val (.int cc0), .val (.int cc1), .val (.int cc2), .val (.ref ar), .val (.ref so), .unset, .unset, .unset, .unset, .unset]) rfl ?_
      show Steps p.tables e below (T14.setTop (mkF m 89 #[.val (.int i0), .val (.int i1), .val (.int i2), .val (.int i3), .val (.int kk), .val (.int (Int32.ofNat aa)), .val (.int (0 : Int32)), .val (.int cc0), .val (.int cc1), .val (.int cc2), .val (.ref ar), .val (.ref so), .unset, .unset, .unset, .unset, .unset] [])) _
      refine XS.iload X14.here hx rfl (hb hby at_89) rfl ?_
      show Steps p.tables e below (T14.setTop (mkF m 91 #[.val (.int i0), .val (.int i1), .val (.int i2), .val (.int i3), .val (.int kk), .val (.int (Int32.ofNat aa)), .val (.int (0 : Int32)), .val (.int cc0), .val (.int cc1), .val (.int cc2), .val (.ref ar), .val (.ref so), .unset, .unset, .unset, .unset, .unset] [(.int kk)])) _
      exact κ)
    obtain ⟨_, _, ⟨T17, L17, k17, n17⟩, -, X17, ⟨Lc17, hQ17, l17, y17, z17⟩, st17⟩ := Jvm.LawKit.callS X14 hx (y := (⟨"com/example/huiqiao/huiqiao/iso8583/ContentRunsFromPinLaw", "content", "(I)Lcom/example/huiqiao/huiqiao/iso8583/SwitchField$Content;"⟩ : MethodName)) hown (mvT hZ (hw _ (List.mem_of_getElem? (i := 22) rfl))) (mvT hZ (hw _ (List.mem_of_getElem? (i := 23) rfl))) (mvT hZ (hw _ (List.mem_of_getElem? (i := 24) rfl))) (mvT hZ (hw _ (List.mem_of_getElem? (i := 25) rfl))) (by decide) (backOf (W := 0) (rm4 l Z a0 hw [] kk T14.heap n0 Z14 O0_14 CA hk6) hZ (hw _ (List.mem_of_getElem? (i := 25) rfl)) (hw _ (List.mem_of_getElem? (i := 24) rfl)) (Nat.le_of_ble_eq_true rfl) (Nat.le_of_ble_eq_true rfl)) (g := (mkF m 91 #[.val (.int i0), .val (.int i1), .val (.int i2), .val (.int i3), .val (.int kk), .val (.int (Int32.ofNat aa)), .val (.int (0 : Int32)), .val (.int cc0), .val (.int cc1), .val (.int cc2), .val (.ref ar), .val (.ref so), .unset, .unset, .unset, .unset, .unset] [(.int kk)])) rfl (by rw [hml]; rfl) (argsL := [(.int kk)]) (rest := []) (lenOf pd_19 rfl) rfl (by show 2 * 0 + _ ≤ _; exact Nat.le_of_eq rfl) (hb hby at_91) (fun _ _ => ⟨rfl, rfl, (by decide : 4 + 0 ≤ _), (by decide : 8 + 0 ≤ _)⟩)
    dsimp only [Pt.U, Pt.locs, Pt.cells, Pt.slots] at X17 l17 y17 z17 st17 hQ17
    subst l17 y17 z17
    obtain ⟨ob, ir, C, rfl, Nq17, hh17, CT⟩ := hQ17
    have O0_17 : Old Z n0 T17.heap := by rw [hh17]; exact O0_14
    have V_ar_17 : Arv Z T17.heap ar k8 .char (0 : Int32) [] (.int (0 : Int32)) := by rw [hh17]; exact V_ar_14
    have A11_17 : Exa Z T17.heap so "java/lang/String" := by rw [hh17]; exact A11_14
    have P14_17 : own_STR Z T17.heap so (own_f3 cc0 cc1 cc2) 0 := by rw [hh17]; exact P14
    have Z17 : n0 ≤ T17.heap.size := by rw [hh17]; exact Z14
    have hks : T14.heap.size ≤ T17.heap.size := by rw [hh17]; exact hks
    have Kp17 : Keep h0 T17.heap [] := by rw [hh17]; exact Kp14
    have N17 := Fr.app N14 Nq17
    have pre18 := fun τ (κ : Steps p.tables e below (T17.setTop (mkF m 94 #[.val (.int i0), .val (.int i1), .val (.int i2), .val (.int i3), .val (.int kk), .val (.int (Int32.ofNat aa)), .val (.int (0 : Int32)), .val (.int cc0), .val (.int cc1), .val (.int cc2), .val (.ref ar), .val (.ref so), .unset, .unset, .unset, .unset, .unset] [(.ref ob)])) τ) => pre16 τ (st17 _ κ)
    have E_o : Exa Z T17.heap ob C := CT.2.1.ext O0_17.2
    have pre19 := fun τ (κ : Steps p.tables e below (T17.setTop (mkF m 98 #[.val (.int i0), .val (.int i1), .val (.int i2), .val (.int i3), .val (.int kk), .val (.int (Int32.ofNat aa)), .val (.int (0 : Int32)), .val (.int cc0), .val (.int cc1), .val (.int cc2), .val (.ref ar), .val (.ref so), .unset, .unset, .unset, .unset, .unset] [(.int (Int32.ofNat aa)), (.ref so), (.ref ob)])) τ) => pre18 τ (by
      refine XS.aload X17.here hx rfl (hb hby at_94) rfl rfl ?_
      refine XS.iload X17.here hx rfl (hb hby at_96) rfl ?_
      show Steps p.tables e below (T17.setTop (mkF m 98 #[.val (.int i0), .val (.int i1), .val (.int i2), .val (.int i3), .val (.int kk), .val (.int (Int32.ofNat aa)), .val (.int (0 : Int32)), .val (.int cc0), .val (.int cc1), .val (.int cc2), .val (.ref ar), .val (.ref so), .unset, .unset, .unset, .unset, .unset] [(.int (Int32.ofNat aa)), (.ref so), (.ref ob)])) _
      exact κ)
    obtain ⟨cq20, kq20, q20a, q20b, q20c⟩ := isOf hZ rfl E_o
    obtain ⟨_, _, ⟨T20, L20, k20, n20⟩, -, X20, ⟨Lc20, hQ20, l20, y20, z20⟩, st20⟩ := X17.virtualBack hx (y := (⟨"com/example/huiqiao/huiqiao/iso8583/SwitchField$Content", "runsFrom", "(Ljava/lang/String;I)Z"⟩ : MethodName)) (z := (⟨"com/example/huiqiao/huiqiao/iso8583/SwitchField$Content", "runsFrom", "(Ljava/lang/String;I)Z"⟩ : MethodName)) hown (mvT hZ (hw _ (List.mem_of_getElem? (i := 29) rfl))) (mvT hZ (hw _ (List.mem_of_getElem? (i := 30) rfl))) (notFace_of_selects (args := #[]) (mvT hZ (own_selR hw CT.1))) (mvT hZ (own_selR hw CT.1)) (mvT hZ (hw _ (List.mem_of_getElem? (i := 31) rfl))) (by decide) (backOf (W := 0) (rm5 l Z a0 hw [] ob so ir C kk aa 0 (own_f3 cc0 cc1 cc2) zc fm T17.heap n0 Z17 O0_17 U0 P14_17 CT (by omega) ha7 (fun j _ => own_f3c hc_0 hc_1 hc_2 j)) hZ (hw _ (List.mem_of_getElem? (i := 33) rfl)) (hw _ (List.mem_of_getElem? (i := 27) rfl)) (Nat.le_of_ble_eq_true rfl) (Nat.le_of_ble_eq_true rfl)) q20a q20c (g := (mkF m 98 #[.val (.int i0), .val (.int i1), .val (.int i2), .val (.int i3), .val (.int kk), .val (.int (Int32.ofNat aa)), .val (.int (0 : Int32)), .val (.int cc0), .val (.int cc1), .val (.int cc2), .val (.ref ar), .val (.ref so), .unset, .unset, .unset, .unset, .unset] [(.int (Int32.ofNat aa)), (.ref so), (.ref ob)])) rfl (by rw [hml]; rfl) (Steps.refl _) (argsL := [(.ref so), (.int (Int32.ofNat aa))]) (rest := []) (lenOf pd_20 rfl) rfl (by show 2 * 0 + _ ≤ _; exact Nat.le_of_eq rfl) (hb hby at_98) (fun _ _ => ⟨rfl, rfl, (by decide : 4 + 0 ≤ _), (by decide : 8 + 0 ≤ _)⟩)
    dsimp only [Pt.U, Pt.locs, Pt.cells, Pt.slots] at X20 l20 y20 z20 st20 hQ20
    subst l20 y20 z20
    obtain ⟨rfl, Nq20, hh20⟩ := hQ20
    have O0_20 : Old Z n0 T20.heap := by rw [hh20]; exact O0_17
    have V_ar_20 : Arv Z T20.heap ar k8 .char (0 : Int32) [] (.int (0 : Int32)) := by rw [hh20]; exact V_ar_17
    have A11_20 : Exa Z T20.heap so "java/lang/String" := by rw [hh20]; exact A11_17
    have P14_20 : own_STR Z T20.heap so (own_f3 cc0 cc1 cc2) 0 := by rw [hh20]; exact P14_17
    have E_o_20 : Exa Z T20.heap ob C := by rw [hh20]; exact E_o
    have Z20 : n0 ≤ T20.heap.size := by rw [hh20]; exact Z17
    have hks : T14.heap.size ≤ T20.heap.size := by rw [hh20]; exact hks
    have Kp20 : Keep h0 T20.heap [] := by rw [hh20]; exact Kp17
    have N20 := Fr.app N17 Nq20
    have pre21 := fun τ (κ : Steps p.tables e below (T20.setTop (mkF m 101 #[.val (.int i0), .val (.int i1), .val (.int i2), .val (.int i3), .val (.int kk), .val (.int (Int32.ofNat aa)), .val (.int (0 : Int32)), .val (.int cc0), .val (.int cc1), .val (.int cc2), .val (.ref ar), .val (.ref so), .unset, .unset, .unset, .unset, .unset] [(.int (own_rf kk (own_f3 cc0 cc1 cc2) 0 aa))])) τ) => pre19 τ (st20.trans κ)
    have pre22 := fun τ (κ : Steps p.tables e below (T20.setTop (mkF m 106 #[.val (.int i0), .val (.int i1), .val (.int i2), .val (.int i3), .val (.int kk), .val (.int (Int32.ofNat aa)), .val (.int (0 : Int32)), .val (.int cc0), .val (.int cc1), .val (.int cc2), .val (.ref ar), .val (.ref so), .val (.int (own_rf kk (own_f3 cc0 cc1 cc2) 0 aa)), .unset, .unset, .unset, .unset] [(.int (Int32.ofNat aa)), (.int (0 : Int32))])) τ) => pre21 τ (by
      refine XS.istore X20.here hx rfl (hb hby at_101) rfl (l' := #[.val (.int i0), .val (.int i1), .val (.int i2), .val (.int i3), .val (.int kk), .val (.int (Int32.ofNat aa)), .val (.int (0 : Int32)), .val (.int cc0), .val (.int cc1), .val (.int cc2), .val (.ref ar), .val (.ref so), .val (.int (own_rf kk (own_f3 cc0 cc1 cc2) 0 aa)), .unset, .unset, .unset, .unset]) rfl ?_
      show Steps p.tables e below (T20.setTop (mkF m 103 #[.val (.int i0), .val (.int i1), .val (.int i2), .val (.int i3), .val (.int kk), .val (.int (Int32.ofNat aa)), .val (.int (0 : Int32)), .val (.int cc0), .val (.int cc1), .val (.int cc2), .val (.ref ar), .val (.ref so), .val (.int (own_rf kk (own_f3 cc0 cc1 cc2) 0 aa)), .unset, .unset, .unset, .unset] [])) _
      refine XS.iconst X20.here hx rfl (hb hby at_103) ?_
      refine XS.iload X20.here hx rfl (hb hby at_104) rfl ?_
      show Steps p.tables e below (T20.setTop (mkF m 106 #[.val (.int i0), .val (.int i1), .val (.int i2), .val (.int i3), .val (.int kk), .val (.int (Int32.ofNat aa)), .val (.int (0 : Int32)), .val (.int cc0), .val (.int cc1), .val (.int cc2), .val (.ref ar), .val (.ref so), .val (.int (own_rf kk (own_f3 cc0 cc1 cc2) 0 aa)), .unset, .unset, .unset, .unset] [(.int (Int32.ofNat aa)), (.int (0 : Int32))])) _
      exact κ)
    obtain ⟨b0, hb0, pre23⟩ : ∃ (b0 : Int32), (b0 = 0) ∧ ∀ τ, Steps p.tables e below (T20.setTop (mkF m 120 #[.val (.int i0), .val (.int i1), .val (.int i2), .val (.int i3), .val (.int kk), .val (.int (Int32.ofNat aa)), .val (.int (0 : Int32)), .val (.int cc0), .val (.int cc1), .val (.int cc2), .val (.ref ar), .val (.ref so), .val (.int (own_rf kk (own_f3 cc0 cc1 cc2) 0 aa)), .unset, .unset, .unset, .unset] [(.int b0)])) τ → Steps p.tables e below (s₁.setTop (entryFrame m #[(.int i0), (.int i1), (.int i2), (.int i3)] maxLocals)) τ := by
      by_cases hx0 : (0 : Int32) < (Int32.ofNat aa)
      · have pre24 := fun τ (κ : Steps p.tables e below (T20.setTop (mkF m 120 #[.val (.int i0), .val (.int i1), .val (.int i2), .val (.int i3), .val (.int kk), .val (.int (Int32.ofNat aa)), .val (.int (0 : Int32)), .val (.int cc0), .val (.int cc1), .val (.int cc2), .val (.ref ar), .val (.ref so), .val (.int (own_rf kk (own_f3 cc0 cc1 cc2) 0 aa)), .unset, .unset, .unset, .unset] [(.int (0 : Int32))])) τ) => pre22 τ (by
          refine XS.icmpYes X20.here hx rfl (pc0 := 106) (pc' := 119) rfl (hb hby at_106) rfl (tlt hx0).1 (by decide) (by decide) ?_
          show Steps p.tables e below (T20.setTop (mkF m 119 #[.val (.int i0), .val (.int i1), .val (.int i2), .val (.int i3), .val (.int kk), .val (.int (Int32.ofNat aa)), .val (.int (0 : Int32)), .val (.int cc0), .val (.int cc1), .val (.int cc2), .val (.ref ar), .val (.ref so), .val (.int (own_rf kk (own_f3 cc0 cc1 cc2) 0 aa)), .unset, .unset, .unset, .unset] [])) _
          refine XS.iconst X20.here hx rfl (hb hby at_119) ?_
          show Steps p.tables e below (T20.setTop (mkF m 120 #[.val (.int i0), .val (.int i1), .val (.int i2), .val (.int i3), .val (.int kk), .val (.int (Int32.ofNat aa)), .val (.int (0 : Int32)), .val (.int cc0), .val (.int cc1), .val (.int cc2), .val (.ref ar), .val (.ref so), .val (.int (own_rf kk (own_f3 cc0 cc1 cc2) 0 aa)), .unset, .unset, .unset, .unset] [(.int (0 : Int32))])) _
          exact κ)
        exact ⟨0, rfl, pre24⟩
      · have pre25 := fun τ (κ : Steps p.tables e below (T20.setTop (mkF m 120 #[.val (.int i0), .val (.int i1), .val (.int i2), .val (.int i3), .val (.int kk), .val (.int (Int32.ofNat aa)), .val (.int (0 : Int32)), .val (.int cc0), .val (.int cc1), .val (.int cc2), .val (.ref ar), .val (.ref so), .val (.int (own_rf kk (own_f3 cc0 cc1 cc2) 0 aa)), .unset, .unset, .unset, .unset] [(.int (0 : Int32))])) τ) => pre22 τ (by
          refine XS.icmpNo X20.here hx rfl (hb hby at_106) rfl (flt hx0).1 ?_
          show Steps p.tables e below (T20.setTop (mkF m 109 #[.val (.int i0), .val (.int i1), .val (.int i2), .val (.int i3), .val (.int kk), .val (.int (Int32.ofNat aa)), .val (.int (0 : Int32)), .val (.int cc0), .val (.int cc1), .val (.int cc2), .val (.ref ar), .val (.ref so), .val (.int (own_rf kk (own_f3 cc0 cc1 cc2) 0 aa)), .unset, .unset, .unset, .unset] [])) _
          refine XS.iconst X20.here hx rfl (hb hby at_109) ?_
          refine XS.iload X20.here hx rfl (hb hby at_110) rfl ?_
          refine XS.icmpYes X20.here hx rfl (pc0 := 112) (pc' := 119) rfl (hb hby at_112) rfl (flt (by decide)).2.1 (by decide) (by decide) ?_
          show Steps p.tables e below (T20.setTop (mkF m 119 #[.val (.int i0), .val (.int i1), .val (.int i2), .val (.int i3), .val (.int kk), .val (.int (Int32.ofNat aa)), .val (.int (0 : Int32)), .val (.int cc0), .val (.int cc1), .val (.int cc2), .val (.ref ar), .val (.ref so), .val (.int (own_rf kk (own_f3 cc0 cc1 cc2) 0 aa)), .unset, .unset, .unset, .unset] [])) _
          refine XS.iconst X20.here hx rfl (hb hby at_119) ?_
          show Steps p.tables e below (T20.setTop (mkF m 120 #[.val (.int i0), .val (.int i1), .val (.int i2), .val (.int i3), .val (.int kk), .val (.int (Int32.ofNat aa)), .val (.int (0 : Int32)), .val (.int cc0), .val (.int cc1), .val (.int cc2), .val (.ref ar), .val (.ref so), .val (.int (own_rf kk (own_f3 cc0 cc1 cc2) 0 aa)), .unset, .unset, .unset, .unset] [(.int (0 : Int32))])) _
          exact κ)
        exact ⟨0, rfl, pre25⟩
    subst hb0
    have pre26 := fun τ (κ : Steps p.tables e below (T20.setTop (mkF m 125 #[.val (.int i0), .val (.int i1), .val (.int i2), .val (.int i3), .val (.int kk), .val (.int (Int32.ofNat aa)), .val (.int (0 : Int32)), .val (.int cc0), .val (.int cc1), .val (.int cc2), .val (.ref ar), .val (.ref so), .val (.int (own_rf kk (own_f3 cc0 cc1 cc2) 0 aa)), .val (.int (0 : Int32)), .unset, .unset, .unset] [(.int (Int32.ofNat aa)), (.int (1 : Int32))])) τ) => pre23 τ (by
      refine XS.istore X20.here hx rfl (hb hby at_120) rfl (l' := #[.val (.int i0), .val (.int i1), .val (.int i2), .val (.int i3), .val (.int kk), .val (.int (Int32.ofNat aa)), .val (.int (0 : Int32)), .val (.int cc0), .val (.int cc1), .val (.int cc2), .val (.ref ar), .val (.ref so), .val (.int (own_rf kk (own_f3 cc0 cc1 cc2) 0 aa)), .val (.int (0 : Int32)), .unset, .unset, .unset]) rfl ?_
      show Steps p.tables e below (T20.setTop (mkF m 122 #[.val (.int i0), .val (.int i1), .val (.int i2), .val (.int i3), .val (.int kk), .val (.int (Int32.ofNat aa)), .val (.int (0 : Int32)), .val (.int cc0), .val (.int cc1), .val (.int cc2), .val (.ref ar), .val (.ref so), .val (.int (own_rf kk (own_f3 cc0 cc1 cc2) 0 aa)), .val (.int (0 : Int32)), .unset, .unset, .unset] [])) _
      refine XS.iconst X20.here hx rfl (hb hby at_122) ?_
      refine XS.iload X20.here hx rfl (hb hby at_123) rfl ?_
      show Steps p.tables e below (T20.setTop (mkF m 125 #[.val (.int i0), .val (.int i1), .val (.int i2), .val (.int i3), .val (.int kk), .val (.int (Int32.ofNat aa)), .val (.int (0 : Int32)), .val (.int cc0), .val (.int cc1), .val (.int cc2), .val (.ref ar), .val (.ref so), .val (.int (own_rf kk (own_f3 cc0 cc1 cc2) 0 aa)), .val (.int (0 : Int32)), .unset, .unset, .unset] [(.int (Int32.ofNat aa)), (.int (1 : Int32))])) _
      exact κ)
    obtain ⟨b1, hb1, pre27⟩ : ∃ (b1 : Int32), (b1 = 0) ∧ ∀ τ, Steps p.tables e below (T20.setTop (mkF m 139 #[.val (.int i0), .val (.int i1), .val (.int i2), .val (.int i3), .val (.int kk), .val (.int (Int32.ofNat aa)), .val (.int (0 : Int32)), .val (.int cc0), .val (.int cc1), .val (.int cc2), .val (.ref ar), .val (.ref so), .val (.int (own_rf kk (own_f3 cc0 cc1 cc2) 0 aa)), .val (.int (0 : Int32)), .unset, .unset, .unset] [(.int b1)])) τ → Steps p.tables e below (s₁.setTop (entryFrame m #[(.int i0), (.int i1), (.int i2), (.int i3)] maxLocals)) τ := by
      by_cases hx1 : (1 : Int32) < (Int32.ofNat aa)
      · have pre28 := fun τ (κ : Steps p.tables e below (T20.setTop (mkF m 139 #[.val (.int i0), .val (.int i1), .val (.int i2), .val (.int i3), .val (.int kk), .val (.int (Int32.ofNat aa)), .val (.int (0 : Int32)), .val (.int cc0), .val (.int cc1), .val (.int cc2), .val (.ref ar), .val (.ref so), .val (.int (own_rf kk (own_f3 cc0 cc1 cc2) 0 aa)), .val (.int (0 : Int32)), .unset, .unset, .unset] [(.int (0 : Int32))])) τ) => pre26 τ (by
          refine XS.icmpYes X20.here hx rfl (pc0 := 125) (pc' := 138) rfl (hb hby at_125) rfl (tlt hx1).1 (by decide) (by decide) ?_
          show Steps p.tables e below (T20.setTop (mkF m 138 #[.val (.int i0), .val (.int i1), .val (.int i2), .val (.int i3), .val (.int kk), .val (.int (Int32.ofNat aa)), .val (.int (0 : Int32)), .val (.int cc0), .val (.int cc1), .val (.int cc2), .val (.ref ar), .val (.ref so), .val (.int (own_rf kk (own_f3 cc0 cc1 cc2) 0 aa)), .val (.int (0 : Int32)), .unset, .unset, .unset] [])) _
          refine XS.iconst X20.here hx rfl (hb hby at_138) ?_
          show Steps p.tables e below (T20.setTop (mkF m 139 #[.val (.int i0), .val (.int i1), .val (.int i2), .val (.int i3), .val (.int kk), .val (.int (Int32.ofNat aa)), .val (.int (0 : Int32)), .val (.int cc0), .val (.int cc1), .val (.int cc2), .val (.ref ar), .val (.ref so), .val (.int (own_rf kk (own_f3 cc0 cc1 cc2) 0 aa)), .val (.int (0 : Int32)), .unset, .unset, .unset] [(.int (0 : Int32))])) _
          exact κ)
        exact ⟨0, rfl, pre28⟩
      · have pre29 := fun τ (κ : Steps p.tables e below (T20.setTop (mkF m 139 #[.val (.int i0), .val (.int i1), .val (.int i2), .val (.int i3), .val (.int kk), .val (.int (Int32.ofNat aa)), .val (.int (0 : Int32)), .val (.int cc0), .val (.int cc1), .val (.int cc2), .val (.ref ar), .val (.ref so), .val (.int (own_rf kk (own_f3 cc0 cc1 cc2) 0 aa)), .val (.int (0 : Int32)), .unset, .unset, .unset] [(.int (0 : Int32))])) τ) => pre26 τ (by
          refine XS.icmpNo X20.here hx rfl (hb hby at_125) rfl (flt hx1).1 ?_
          show Steps p.tables e below (T20.setTop (mkF m 128 #[.val (.int i0), .val (.int i1), .val (.int i2), .val (.int i3), .val (.int kk), .val (.int (Int32.ofNat aa)), .val (.int (0 : Int32)), .val (.int cc0), .val (.int cc1), .val (.int cc2), .val (.ref ar), .val (.ref so), .val (.int (own_rf kk (own_f3 cc0 cc1 cc2) 0 aa)), .val (.int (0 : Int32)), .unset, .unset, .unset] [])) _
          refine XS.iconst X20.here hx rfl (hb hby at_128) ?_
          refine XS.iload X20.here hx rfl (hb hby at_129) rfl ?_
          refine XS.icmpYes X20.here hx rfl (pc0 := 131) (pc' := 138) rfl (hb hby at_131) rfl (flt (by decide)).2.1 (by decide) (by decide) ?_
          show Steps p.tables e below (T20.setTop (mkF m 138 #[.val (.int i0), .val (.int i1), .val (.int i2), .val (.int i3), .val (.int kk), .val (.int (Int32.ofNat aa)), .val (.int (0 : Int32)), .val (.int cc0), .val (.int cc1), .val (.int cc2), .val (.ref ar), .val (.ref so), .val (.int (own_rf kk (own_f3 cc0 cc1 cc2) 0 aa)), .val (.int (0 : Int32)), .unset, .unset, .unset] [])) _
          refine XS.iconst X20.here hx rfl (hb hby at_138) ?_
          show Steps p.tables e below (T20.setTop (mkF m 139 #[.val (.int i0), .val (.int i1), .val (.int i2), .val (.int i3), .val (.int kk), .val (.int (Int32.ofNat aa)), .val (.int (0 : Int32)), .val (.int cc0), .val (.int cc1), .val (.int cc2), .val (.ref ar), .val (.ref so), .val (.int (own_rf kk (own_f3 cc0 cc1 cc2) 0 aa)), .val (.int (0 : Int32)), .unset, .unset, .unset] [(.int (0 : Int32))])) _
          exact κ)
        exact ⟨0, rfl, pre29⟩
    subst hb1
    have pre30 := fun τ (κ : Steps p.tables e below (T20.setTop (mkF m 144 #[.val (.int i0), .val (.int i1), .val (.int i2), .val (.int i3), .val (.int kk), .val (.int (Int32.ofNat aa)), .val (.int (0 : Int32)), .val (.int cc0), .val (.int cc1), .val (.int cc2), .val (.ref ar), .val (.ref so), .val (.int (own_rf kk (own_f3 cc0 cc1 cc2) 0 aa)), .val (.int (0 : Int32)), .val (.int (0 : Int32)), .unset, .unset] [(.int (Int32.ofNat aa)), (.int (2 : Int32))])) τ) => pre27 τ (by
      refine XS.istore X20.here hx rfl (hb hby at_139) rfl (l' := #[.val (.int i0), .val (.int i1), .val (.int i2), .val (.int i3), .val (.int kk), .val (.int (Int32.ofNat aa)), .val (.int (0 : Int32)), .val (.int cc0), .val (.int cc1), .val (.int cc2), .val (.ref ar), .val (.ref so), .val (.int (own_rf kk (own_f3 cc0 cc1 cc2) 0 aa)), .val (.int (0 : Int32)), .val (.int (0 : Int32)), .unset, .unset]) rfl ?_
      show Steps p.tables e below (T20.setTop (mkF m 141 #[.val (.int i0), .val (.int i1), .val (.int i2), .val (.int i3), .val (.int kk), .val (.int (Int32.ofNat aa)), .val (.int (0 : Int32)), .val (.int cc0), .val (.int cc1), .val (.int cc2), .val (.ref ar), .val (.ref so), .val (.int (own_rf kk (own_f3 cc0 cc1 cc2) 0 aa)), .val (.int (0 : Int32)), .val (.int (0 : Int32)), .unset, .unset] [])) _
      refine XS.iconst X20.here hx rfl (hb hby at_141) ?_
      refine XS.iload X20.here hx rfl (hb hby at_142) rfl ?_
      show Steps p.tables e below (T20.setTop (mkF m 144 #[.val (.int i0), .val (.int i1), .val (.int i2), .val (.int i3), .val (.int kk), .val (.int (Int32.ofNat aa)), .val (.int (0 : Int32)), .val (.int cc0), .val (.int cc1), .val (.int cc2), .val (.ref ar), .val (.ref so), .val (.int (own_rf kk (own_f3 cc0 cc1 cc2) 0 aa)), .val (.int (0 : Int32)), .val (.int (0 : Int32)), .unset, .unset] [(.int (Int32.ofNat aa)), (.int (2 : Int32))])) _
      exact κ)
    obtain ⟨b2, hb2, pre31⟩ : ∃ (b2 : Int32), (b2 = 0) ∧ ∀ τ, Steps p.tables e below (T20.setTop (mkF m 158 #[.val (.int i0), .val (.int i1), .val (.int i2), .val (.int i3), .val (.int kk), .val (.int (Int32.ofNat aa)), .val (.int (0 : Int32)), .val (.int cc0), .val (.int cc1), .val (.int cc2), .val (.ref ar), .val (.ref so), .val (.int (own_rf kk (own_f3 cc0 cc1 cc2) 0 aa)), .val (.int (0 : Int32)), .val (.int (0 : Int32)), .unset, .unset] [(.int b2)])) τ → Steps p.tables e below (s₁.setTop (entryFrame m #[(.int i0), (.int i1), (.int i2), (.int i3)] maxLocals)) τ := by
      by_cases hx2 : (2 : Int32) < (Int32.ofNat aa)
      · have pre32 := fun τ (κ : Steps p.tables e below (T20.setTop (mkF m 158 #[.val (.int i0), .val (.int i1), .val (.int i2), .val (.int i3), .val (.int kk), .val (.int (Int32.ofNat aa)), .val (.int (0 : Int32)), .val (.int cc0), .val (.int cc1), .val (.int cc2), .val (.ref ar), .val (.ref so), .val (.int (own_rf kk (own_f3 cc0 cc1 cc2) 0 aa)), .val (.int (0 : Int32)), .val (.int (0 : Int32)), .unset, .unset] [(.int (0 : Int32))])) τ) => pre30 τ (by
          refine XS.icmpYes X20.here hx rfl (pc0 := 144) (pc' := 157) rfl (hb hby at_144) rfl (tlt hx2).1 (by decide) (by decide) ?_
          show Steps p.tables e below (T20.setTop (mkF m 157 #[.val (.int i0), .val (.int i1), .val (.int i2), .val (.int i3), .val (.int kk), .val (.int (Int32.ofNat aa)), .val (.int (0 : Int32)), .val (.int cc0), .val (.int cc1), .val (.int cc2), .val (.ref ar), .val (.ref so), .val (.int (own_rf kk (own_f3 cc0 cc1 cc2) 0 aa)), .val (.int (0 : Int32)), .val (.int (0 : Int32)), .unset, .unset] [])) _
          refine XS.iconst X20.here hx rfl (hb hby at_157) ?_
          show Steps p.tables e below (T20.setTop (mkF m 158 #[.val (.int i0), .val (.int i1), .val (.int i2), .val (.int i3), .val (.int kk), .val (.int (Int32.ofNat aa)), .val (.int (0 : Int32)), .val (.int cc0), .val (.int cc1), .val (.int cc2), .val (.ref ar), .val (.ref so), .val (.int (own_rf kk (own_f3 cc0 cc1 cc2) 0 aa)), .val (.int (0 : Int32)), .val (.int (0 : Int32)), .unset, .unset] [(.int (0 : Int32))])) _
          exact κ)
        exact ⟨0, rfl, pre32⟩
      · have pre33 := fun τ (κ : Steps p.tables e below (T20.setTop (mkF m 158 #[.val (.int i0), .val (.int i1), .val (.int i2), .val (.int i3), .val (.int kk), .val (.int (Int32.ofNat aa)), .val (.int (0 : Int32)), .val (.int cc0), .val (.int cc1), .val (.int cc2), .val (.ref ar), .val (.ref so), .val (.int (own_rf kk (own_f3 cc0 cc1 cc2) 0 aa)), .val (.int (0 : Int32)), .val (.int (0 : Int32)), .unset, .unset] [(.int (0 : Int32))])) τ) => pre30 τ (by
          refine XS.icmpNo X20.here hx rfl (hb hby at_144) rfl (flt hx2).1 ?_
          show Steps p.tables e below (T20.setTop (mkF m 147 #[.val (.int i0), .val (.int i1), .val (.int i2), .val (.int i3), .val (.int kk), .val (.int (Int32.ofNat aa)), .val (.int (0 : Int32)), .val (.int cc0), .val (.int cc1), .val (.int cc2), .val (.ref ar), .val (.ref so), .val (.int (own_rf kk (own_f3 cc0 cc1 cc2) 0 aa)), .val (.int (0 : Int32)), .val (.int (0 : Int32)), .unset, .unset] [])) _
          refine XS.iconst X20.here hx rfl (hb hby at_147) ?_
          refine XS.iload X20.here hx rfl (hb hby at_148) rfl ?_
          refine XS.icmpYes X20.here hx rfl (pc0 := 150) (pc' := 157) rfl (hb hby at_150) rfl (flt (by decide)).2.1 (by decide) (by decide) ?_
          show Steps p.tables e below (T20.setTop (mkF m 157 #[.val (.int i0), .val (.int i1), .val (.int i2), .val (.int i3), .val (.int kk), .val (.int (Int32.ofNat aa)), .val (.int (0 : Int32)), .val (.int cc0), .val (.int cc1), .val (.int cc2), .val (.ref ar), .val (.ref so), .val (.int (own_rf kk (own_f3 cc0 cc1 cc2) 0 aa)), .val (.int (0 : Int32)), .val (.int (0 : Int32)), .unset, .unset] [])) _
          refine XS.iconst X20.here hx rfl (hb hby at_157) ?_
          show Steps p.tables e below (T20.setTop (mkF m 158 #[.val (.int i0), .val (.int i1), .val (.int i2), .val (.int i3), .val (.int kk), .val (.int (Int32.ofNat aa)), .val (.int (0 : Int32)), .val (.int cc0), .val (.int cc1), .val (.int cc2), .val (.ref ar), .val (.ref so), .val (.int (own_rf kk (own_f3 cc0 cc1 cc2) 0 aa)), .val (.int (0 : Int32)), .val (.int (0 : Int32)), .unset, .unset] [(.int (0 : Int32))])) _
          exact κ)
        exact ⟨0, rfl, pre33⟩
    subst hb2
    have pre34 := fun τ (κ : Steps p.tables e below (T20.setTop (mkF m 164 #[.val (.int i0), .val (.int i1), .val (.int i2), .val (.int i3), .val (.int kk), .val (.int (Int32.ofNat aa)), .val (.int (0 : Int32)), .val (.int cc0), .val (.int cc1), .val (.int cc2), .val (.ref ar), .val (.ref so), .val (.int (own_rf kk (own_f3 cc0 cc1 cc2) 0 aa)), .val (.int (0 : Int32)), .val (.int (0 : Int32)), .val (.int (0 : Int32)), .unset] [(.int (0 : Int32)), (.int (Int32.ofNat aa))])) τ) => pre31 τ (by
      refine XS.istore X20.here hx rfl (hb hby at_158) rfl (l' := #[.val (.int i0), .val (.int i1), .val (.int i2), .val (.int i3), .val (.int kk), .val (.int (Int32.ofNat aa)), .val (.int (0 : Int32)), .val (.int cc0), .val (.int cc1), .val (.int cc2), .val (.ref ar), .val (.ref so), .val (.int (own_rf kk (own_f3 cc0 cc1 cc2) 0 aa)), .val (.int (0 : Int32)), .val (.int (0 : Int32)), .val (.int (0 : Int32)), .unset]) rfl ?_
      show Steps p.tables e below (T20.setTop (mkF m 160 #[.val (.int i0), .val (.int i1), .val (.int i2), .val (.int i3), .val (.int kk), .val (.int (Int32.ofNat aa)), .val (.int (0 : Int32)), .val (.int cc0), .val (.int cc1), .val (.int cc2), .val (.ref ar), .val (.ref so), .val (.int (own_rf kk (own_f3 cc0 cc1 cc2) 0 aa)), .val (.int (0 : Int32)), .val (.int (0 : Int32)), .val (.int (0 : Int32)), .unset] [])) _
      refine XS.iload X20.here hx rfl (hb hby at_160) rfl ?_
      refine XS.iload X20.here hx rfl (hb hby at_162) rfl ?_
      show Steps p.tables e below (T20.setTop (mkF m 164 #[.val (.int i0), .val (.int i1), .val (.int i2), .val (.int i3), .val (.int kk), .val (.int (Int32.ofNat aa)), .val (.int (0 : Int32)), .val (.int cc0), .val (.int cc1), .val (.int cc2), .val (.ref ar), .val (.ref so), .val (.int (own_rf kk (own_f3 cc0 cc1 cc2) 0 aa)), .val (.int (0 : Int32)), .val (.int (0 : Int32)), .val (.int (0 : Int32)), .unset] [(.int (0 : Int32)), (.int (Int32.ofNat aa))])) _
      exact κ)
    by_cases hA : (0 : Int32) < (Int32.ofNat aa)
    · have pre35 := fun τ (κ : Steps p.tables e below (T20.setTop (mkF m 321 #[.val (.int i0), .val (.int i1), .val (.int i2), .val (.int i3), .val (.int kk), .val (.int (Int32.ofNat aa)), .val (.int (0 : Int32)), .val (.int cc0), .val (.int cc1), .val (.int cc2), .val (.ref ar), .val (.ref so), .val (.int (own_rf kk (own_f3 cc0 cc1 cc2) 0 aa)), .val (.int (0 : Int32)), .val (.int (0 : Int32)), .val (.int (0 : Int32)), .val (.int (0 : Int32))] [(.int (1 : Int32))])) τ) => pre34 τ (by
        refine XS.icmpYes X20.here hx rfl (pc0 := 164) (pc' := 306) rfl (hb hby at_164) rfl (tlt hA).2.2.1 (by decide) (by decide) ?_
        show Steps p.tables e below (T20.setTop (mkF m 306 #[.val (.int i0), .val (.int i1), .val (.int i2), .val (.int i3), .val (.int kk), .val (.int (Int32.ofNat aa)), .val (.int (0 : Int32)), .val (.int cc0), .val (.int cc1), .val (.int cc2), .val (.ref ar), .val (.ref so), .val (.int (own_rf kk (own_f3 cc0 cc1 cc2) 0 aa)), .val (.int (0 : Int32)), .val (.int (0 : Int32)), .val (.int (0 : Int32)), .unset] [])) _
        refine XS.iconst X20.here hx rfl (hb hby at_306) ?_
        refine XS.istore X20.here hx rfl (hb hby at_307) rfl (l' := #[.val (.int i0), .val (.int i1), .val (.int i2), .val (.int i3), .val (.int kk), .val (.int (Int32.ofNat aa)), .val (.int (0 : Int32)), .val (.int cc0), .val (.int cc1), .val (.int cc2), .val (.ref ar), .val (.ref so), .val (.int (own_rf kk (own_f3 cc0 cc1 cc2) 0 aa)), .val (.int (0 : Int32)), .val (.int (0 : Int32)), .val (.int (0 : Int32)), .val (.int (0 : Int32))]) rfl ?_
        show Steps p.tables e below (T20.setTop (mkF m 309 #[.val (.int i0), .val (.int i1), .val (.int i2), .val (.int i3), .val (.int kk), .val (.int (Int32.ofNat aa)), .val (.int (0 : Int32)), .val (.int cc0), .val (.int cc1), .val (.int cc2), .val (.ref ar), .val (.ref so), .val (.int (own_rf kk (own_f3 cc0 cc1 cc2) 0 aa)), .val (.int (0 : Int32)), .val (.int (0 : Int32)), .val (.int (0 : Int32)), .val (.int (0 : Int32))] [])) _
        refine XS.iload X20.here hx rfl (hb hby at_309) rfl ?_
        refine XS.iload X20.here hx rfl (hb hby at_311) rfl ?_
        refine XS.icmpNo X20.here hx rfl (hb hby at_313) rfl (teq (own_rf0 fun q => absurd q.1 (by have := (own_ltN (i := 0) (by omega) (by omega)).mp hA; omega))).2 ?_
        show Steps p.tables e below (T20.setTop (mkF m 316 #[.val (.int i0), .val (.int i1), .val (.int i2), .val (.int i3), .val (.int kk), .val (.int (Int32.ofNat aa)), .val (.int (0 : Int32)), .val (.int cc0), .val (.int cc1), .val (.int cc2), .val (.ref ar), .val (.ref so), .val (.int (own_rf kk (own_f3 cc0 cc1 cc2) 0 aa)), .val (.int (0 : Int32)), .val (.int (0 : Int32)), .val (.int (0 : Int32)), .val (.int (0 : Int32))] [])) _
        refine XS.iconst X20.here hx rfl (hb hby at_316) ?_
        refine XS.goto X20.here hx rfl (pc0 := 317) (pc' := 321) rfl (hb hby at_317) (by decide) (by decide) ?_
        show Steps p.tables e below (T20.setTop (mkF m 321 #[.val (.int i0), .val (.int i1), .val (.int i2), .val (.int i3), .val (.int kk), .val (.int (Int32.ofNat aa)), .val (.int (0 : Int32)), .val (.int cc0), .val (.int cc1), .val (.int cc2), .val (.ref ar), .val (.ref so), .val (.int (own_rf kk (own_f3 cc0 cc1 cc2) 0 aa)), .val (.int (0 : Int32)), .val (.int (0 : Int32)), .val (.int (0 : Int32)), .val (.int (0 : Int32))] [(.int (1 : Int32))])) _
        exact κ)
      rw [hsx14] at X20 hZ hown
      obtain ⟨fs, hr, hrun, hended, hEnd⟩ := Stand.leaveW (s := s) (vm₁ := T14.vm) X20 hSr14 hks (v := some (.int (1 : Int32))) (fun h => by rw [Bd.returns] at h; cases h)
      refine ⟨_, _, pre35 _ ?_, hrun, hended, _, _, rfl, ?_, ⟨hEnd.1, hEnd.2.1, hEnd.2.2.1, hEnd.2.2.2.mono (by decide) (by decide)⟩⟩
      · exact retN X20 hx (t := .boolean) Bd.returns (by simp) (hb hby at_321) hr
      · show Q0 Z i0 i1 i2 i3 zc fm h0 n0 _ T20.heap _
        exact ⟨rfl, N20⟩
    · have pre36 := fun τ (κ : Steps p.tables e below (T20.setTop (mkF m 321 #[.val (.int i0), .val (.int i1), .val (.int i2), .val (.int i3), .val (.int kk), .val (.int (Int32.ofNat aa)), .val (.int (0 : Int32)), .val (.int cc0), .val (.int cc1), .val (.int cc2), .val (.ref ar), .val (.ref so), .val (.int (own_rf kk (own_f3 cc0 cc1 cc2) 0 aa)), .val (.int (0 : Int32)), .val (.int (0 : Int32)), .val (.int (0 : Int32)), .val (.int (1 : Int32))] [(.int (1 : Int32))])) τ) => pre34 τ (by
        refine XS.icmpNo X20.here hx rfl (hb hby at_164) rfl (flt hA).2.2.1 ?_
        show Steps p.tables e below (T20.setTop (mkF m 167 #[.val (.int i0), .val (.int i1), .val (.int i2), .val (.int i3), .val (.int kk), .val (.int (Int32.ofNat aa)), .val (.int (0 : Int32)), .val (.int cc0), .val (.int cc1), .val (.int cc2), .val (.ref ar), .val (.ref so), .val (.int (own_rf kk (own_f3 cc0 cc1 cc2) 0 aa)), .val (.int (0 : Int32)), .val (.int (0 : Int32)), .val (.int (0 : Int32)), .unset] [])) _
        refine XS.iload X20.here hx rfl (hb hby at_167) rfl ?_
        refine XS.ifYes X20.here hx rfl (pc0 := 169) (pc' := 182) rfl (hb hby at_169) rfl ((if0 _ _).trans (teq rfl).1) (by decide) (by decide) ?_
        show Steps p.tables e below (T20.setTop (mkF m 182 #[.val (.int i0), .val (.int i1), .val (.int i2), .val (.int i3), .val (.int kk), .val (.int (Int32.ofNat aa)), .val (.int (0 : Int32)), .val (.int cc0), .val (.int cc1), .val (.int cc2), .val (.ref ar), .val (.ref so), .val (.int (own_rf kk (own_f3 cc0 cc1 cc2) 0 aa)), .val (.int (0 : Int32)), .val (.int (0 : Int32)), .val (.int (0 : Int32)), .unset] [])) _
        refine XS.iload X20.here hx rfl (hb hby at_182) rfl ?_
        refine XS.ifYes X20.here hx rfl (pc0 := 184) (pc' := 197) rfl (hb hby at_184) rfl ((if0 _ _).trans (teq rfl).1) (by decide) (by decide) ?_
        show Steps p.tables e below (T20.setTop (mkF m 197 #[.val (.int i0), .val (.int i1), .val (.int i2), .val (.int i3), .val (.int kk), .val (.int (Int32.ofNat aa)), .val (.int (0 : Int32)), .val (.int cc0), .val (.int cc1), .val (.int cc2), .val (.ref ar), .val (.ref so), .val (.int (own_rf kk (own_f3 cc0 cc1 cc2) 0 aa)), .val (.int (0 : Int32)), .val (.int (0 : Int32)), .val (.int (0 : Int32)), .unset] [])) _
        refine XS.iload X20.here hx rfl (hb hby at_197) rfl ?_
        refine XS.ifYes X20.here hx rfl (pc0 := 199) (pc' := 212) rfl (hb hby at_199) rfl ((if0 _ _).trans (teq rfl).1) (by decide) (by decide) ?_
        show Steps p.tables e below (T20.setTop (mkF m 212 #[.val (.int i0), .val (.int i1), .val (.int i2), .val (.int i3), .val (.int kk), .val (.int (Int32.ofNat aa)), .val (.int (0 : Int32)), .val (.int cc0), .val (.int cc1), .val (.int cc2), .val (.ref ar), .val (.ref so), .val (.int (own_rf kk (own_f3 cc0 cc1 cc2) 0 aa)), .val (.int (0 : Int32)), .val (.int (0 : Int32)), .val (.int (0 : Int32)), .unset] [])) _
        refine XS.iload X20.here hx rfl (hb hby at_212) rfl ?_
        refine XS.ifYes X20.here hx rfl (pc0 := 214) (pc' := 242) rfl (hb hby at_214) rfl ((if0 _ _).trans (teq rfl).1) (by decide) (by decide) ?_
        show Steps p.tables e below (T20.setTop (mkF m 242 #[.val (.int i0), .val (.int i1), .val (.int i2), .val (.int i3), .val (.int kk), .val (.int (Int32.ofNat aa)), .val (.int (0 : Int32)), .val (.int cc0), .val (.int cc1), .val (.int cc2), .val (.ref ar), .val (.ref so), .val (.int (own_rf kk (own_f3 cc0 cc1 cc2) 0 aa)), .val (.int (0 : Int32)), .val (.int (0 : Int32)), .val (.int (0 : Int32)), .unset] [])) _
        refine XS.iload X20.here hx rfl (hb hby at_242) rfl ?_
        refine XS.ifYes X20.here hx rfl (pc0 := 244) (pc' := 272) rfl (hb hby at_244) rfl ((if0 _ _).trans (teq rfl).1) (by decide) (by decide) ?_
        show Steps p.tables e below (T20.setTop (mkF m 272 #[.val (.int i0), .val (.int i1), .val (.int i2), .val (.int i3), .val (.int kk), .val (.int (Int32.ofNat aa)), .val (.int (0 : Int32)), .val (.int cc0), .val (.int cc1), .val (.int cc2), .val (.ref ar), .val (.ref so), .val (.int (own_rf kk (own_f3 cc0 cc1 cc2) 0 aa)), .val (.int (0 : Int32)), .val (.int (0 : Int32)), .val (.int (0 : Int32)), .unset] [])) _
        refine XS.iload X20.here hx rfl (hb hby at_272) rfl ?_
        refine XS.ifYes X20.here hx rfl (pc0 := 274) (pc' := 302) rfl (hb hby at_274) rfl ((if0 _ _).trans (teq rfl).1) (by decide) (by decide) ?_
        show Steps p.tables e below (T20.setTop (mkF m 302 #[.val (.int i0), .val (.int i1), .val (.int i2), .val (.int i3), .val (.int kk), .val (.int (Int32.ofNat aa)), .val (.int (0 : Int32)), .val (.int cc0), .val (.int cc1), .val (.int cc2), .val (.ref ar), .val (.ref so), .val (.int (own_rf kk (own_f3 cc0 cc1 cc2) 0 aa)), .val (.int (0 : Int32)), .val (.int (0 : Int32)), .val (.int (0 : Int32)), .unset] [])) _
        refine XS.iconst X20.here hx rfl (hb hby at_302) ?_
        refine XS.goto X20.here hx rfl (pc0 := 303) (pc' := 307) rfl (hb hby at_303) (by decide) (by decide) ?_
        show Steps p.tables e below (T20.setTop (mkF m 307 #[.val (.int i0), .val (.int i1), .val (.int i2), .val (.int i3), .val (.int kk), .val (.int (Int32.ofNat aa)), .val (.int (0 : Int32)), .val (.int cc0), .val (.int cc1), .val (.int cc2), .val (.ref ar), .val (.ref so), .val (.int (own_rf kk (own_f3 cc0 cc1 cc2) 0 aa)), .val (.int (0 : Int32)), .val (.int (0 : Int32)), .val (.int (0 : Int32)), .unset] [(.int (1 : Int32))])) _
        refine XS.istore X20.here hx rfl (hb hby at_307) rfl (l' := #[.val (.int i0), .val (.int i1), .val (.int i2), .val (.int i3), .val (.int kk), .val (.int (Int32.ofNat aa)), .val (.int (0 : Int32)), .val (.int cc0), .val (.int cc1), .val (.int cc2), .val (.ref ar), .val (.ref so), .val (.int (own_rf kk (own_f3 cc0 cc1 cc2) 0 aa)), .val (.int (0 : Int32)), .val (.int (0 : Int32)), .val (.int (0 : Int32)), .val (.int (1 : Int32))]) rfl ?_
        show Steps p.tables e below (T20.setTop (mkF m 309 #[.val (.int i0), .val (.int i1), .val (.int i2), .val (.int i3), .val (.int kk), .val (.int (Int32.ofNat aa)), .val (.int (0 : Int32)), .val (.int cc0), .val (.int cc1), .val (.int cc2), .val (.ref ar), .val (.ref so), .val (.int (own_rf kk (own_f3 cc0 cc1 cc2) 0 aa)), .val (.int (0 : Int32)), .val (.int (0 : Int32)), .val (.int (0 : Int32)), .val (.int (1 : Int32))] [])) _
        refine XS.iload X20.here hx rfl (hb hby at_309) rfl ?_
        refine XS.iload X20.here hx rfl (hb hby at_311) rfl ?_
        refine XS.icmpNo X20.here hx rfl (hb hby at_313) rfl (teq (own_rf1 ⟨by have : ¬ 0 < aa := fun z => hA ((own_ltN (i := 0) (j := aa) (by omega) (by omega)).mpr z); omega, fun i h1 h2 => absurd h2 (by omega), fun i j h1 h2 h3 => absurd h3 (by omega)⟩)).2 ?_
        show Steps p.tables e below (T20.setTop (mkF m 316 #[.val (.int i0), .val (.int i1), .val (.int i2), .val (.int i3), .val (.int kk), .val (.int (Int32.ofNat aa)), .val (.int (0 : Int32)), .val (.int cc0), .val (.int cc1), .val (.int cc2), .val (.ref ar), .val (.ref so), .val (.int (own_rf kk (own_f3 cc0 cc1 cc2) 0 aa)), .val (.int (0 : Int32)), .val (.int (0 : Int32)), .val (.int (0 : Int32)), .val (.int (1 : Int32))] [])) _
        refine XS.iconst X20.here hx rfl (hb hby at_316) ?_
        refine XS.goto X20.here hx rfl (pc0 := 317) (pc' := 321) rfl (hb hby at_317) (by decide) (by decide) ?_
        show Steps p.tables e below (T20.setTop (mkF m 321 #[.val (.int i0), .val (.int i1), .val (.int i2), .val (.int i3), .val (.int kk), .val (.int (Int32.ofNat aa)), .val (.int (0 : Int32)), .val (.int cc0), .val (.int cc1), .val (.int cc2), .val (.ref ar), .val (.ref so), .val (.int (own_rf kk (own_f3 cc0 cc1 cc2) 0 aa)), .val (.int (0 : Int32)), .val (.int (0 : Int32)), .val (.int (0 : Int32)), .val (.int (1 : Int32))] [(.int (1 : Int32))])) _
        exact κ)
      rw [hsx14] at X20 hZ hown
      obtain ⟨fs, hr, hrun, hended, hEnd⟩ := Stand.leaveW (s := s) (vm₁ := T14.vm) X20 hSr14 hks (v := some (.int (1 : Int32))) (fun h => by rw [Bd.returns] at h; cases h)
      refine ⟨_, _, pre36 _ ?_, hrun, hended, _, _, rfl, ?_, ⟨hEnd.1, hEnd.2.1, hEnd.2.2.1, hEnd.2.2.2.mono (by decide) (by decide)⟩⟩
      · exact retN X20 hx (t := .boolean) Bd.returns (by simp) (hb hby at_321) hr
      · show Q0 Z i0 i1 i2 i3 zc fm h0 n0 _ T20.heap _
        exact ⟨rfl, N20⟩
  · obtain ⟨T37, h37, lo37, ar, kc, X37, e37, N37, Z37, O0_37, Va_37, pre37⟩ : ∃ (T37 : State) (h37 : Heap) (lo37 : List Loc) (ar : Addr) (kc : ClassId), Stand p l e room_1 s m #[(.int i0), (.int i1), (.int i2), (.int i3)] below meth c T37 lo37 (1) (3) ∧ T37.heap = h37 ∧ Fr n0 lo37 ∧ n0 ≤ h37.size ∧ (Old Z n0 h37) ∧ (Arv Z h37 ar kc .char (Int32.ofNat nn) (own_tab (own_f3 cc0 cc1 cc2) (nn)) (.int (0 : Int32))) ∧ ∀ τ, Steps p.tables e below (T37.setTop (mkF m 78 #[.val (.int i0), .val (.int i1), .val (.int i2), .val (.int i3), .val (.int kk), .val (.int (Int32.ofNat aa)), .val (.int (Int32.ofNat nn)), .val (.int cc0), .val (.int cc1), .val (.int cc2), .val (.ref ar), .unset, .unset, .unset, .unset, .unset, .unset] [])) τ → Steps p.tables e below (s₁.setTop (entryFrame m #[(.int i0), (.int i1), (.int i2), (.int i3)] maxLocals)) τ := by
      rcases (show nn = 1 ∨ nn = 2 ∨ nn = 3 by omega) with rfl | rfl | rfl
      · obtain ⟨T38, h38, k38, X38, e38, E38, A38, st38⟩ := newP X0 hx hZ (hw _ (List.mem_of_getElem? (i := 0) rfl)) e0 (g := (mkF m 39 #[.val (.int i0), .val (.int i1), .val (.int i2), .val (.int i3), .val (.int kk), .val (.int (Int32.ofNat aa)), .val (.int (Int32.ofNat 1)), .val (.int cc0), .val (.int cc1), .val (.int cc2), .unset, .unset, .unset, .unset, .unset, .unset, .unset] [(.int (Int32.ofNat 1))])) rfl (hb hby at_39) rfl (by decide) (cap := 1) (by decide) (by decide) (by decide) (by decide)
        obtain ⟨ar, g38⟩ : ∃ z, z = h0.size := ⟨_, rfl⟩
        rw [← g38] at A38 st38
        have g_ar : n0 ≤ ar := Nat.le_trans Z0 (Nat.le_of_eq g38.symm)
        have O0_38 : Old Z n0 h38 := O0.ext E38
        have Z38 : n0 ≤ h38.size := Nat.le_trans Z0 E38.1
        have V_ar_38 : Arv Z h38 ar k38 .char (Int32.ofNat 1) [(.int (0 : Int32))] (.int (0 : Int32)) := (Arv.new A38 (by decide)).pad (pad_rep [] (.int (0 : Int32)) 1)
        have pre39 := fun τ (κ : Steps p.tables e below (T38.setTop (mkF m 41 #[.val (.int i0), .val (.int i1), .val (.int i2), .val (.int i3), .val (.int kk), .val (.int (Int32.ofNat aa)), .val (.int (Int32.ofNat 1)), .val (.int cc0), .val (.int cc1), .val (.int cc2), .unset, .unset, .unset, .unset, .unset, .unset, .unset] [(.ref ar)])) τ) => pre7 τ (st38 _ κ)
        have pre40 := fun τ (κ : Steps p.tables e below (T38.setTop (mkF m 53 #[.val (.int i0), .val (.int i1), .val (.int i2), .val (.int i3), .val (.int kk), .val (.int (Int32.ofNat aa)), .val (.int (Int32.ofNat 1)), .val (.int cc0), .val (.int cc1), .val (.int cc2), .val (.ref ar), .unset, .unset, .unset, .unset, .unset, .unset] [(.int cc0), (.int (0 : Int32)), (.ref ar)])) τ) => pre39 τ (by
          refine XS.astore X38.here hx rfl (hb hby at_41) rfl rfl (l' := #[.val (.int i0), .val (.int i1), .val (.int i2), .val (.int i3), .val (.int kk), .val (.int (Int32.ofNat aa)), .val (.int (Int32.ofNat 1)), .val (.int cc0), .val (.int cc1), .val (.int cc2), .val (.ref ar), .unset, .unset, .unset, .unset, .unset, .unset]) rfl ?_
          show Steps p.tables e below (T38.setTop (mkF m 43 #[.val (.int i0), .val (.int i1), .val (.int i2), .val (.int i3), .val (.int kk), .val (.int (Int32.ofNat aa)), .val (.int (Int32.ofNat 1)), .val (.int cc0), .val (.int cc1), .val (.int cc2), .val (.ref ar), .unset, .unset, .unset, .unset, .unset, .unset] [])) _
          refine XS.iload X38.here hx rfl (hb hby at_43) rfl ?_
          refine XS.ifNo X38.here hx rfl (hb hby at_45) rfl ((if0 _ _).trans (tlt (by decide)).2.2.2) ?_
          show Steps p.tables e below (T38.setTop (mkF m 48 #[.val (.int i0), .val (.int i1), .val (.int i2), .val (.int i3), .val (.int kk), .val (.int (Int32.ofNat aa)), .val (.int (Int32.ofNat 1)), .val (.int cc0), .val (.int cc1), .val (.int cc2), .val (.ref ar), .unset, .unset, .unset, .unset, .unset, .unset] [])) _
          refine XS.aload X38.here hx rfl (hb hby at_48) rfl rfl ?_
          refine XS.iconst X38.here hx rfl (hb hby at_50) ?_
          refine XS.iload X38.here hx rfl (hb hby at_51) rfl ?_
          show Steps p.tables e below (T38.setTop (mkF m 53 #[.val (.int i0), .val (.int i1), .val (.int i2), .val (.int i3), .val (.int kk), .val (.int (Int32.ofNat aa)), .val (.int (Int32.ofNat 1)), .val (.int cc0), .val (.int cc1), .val (.int cc2), .val (.ref ar), .unset, .unset, .unset, .unset, .unset, .unset] [(.int cc0), (.int (0 : Int32)), (.ref ar)])) _
          exact κ)
        obtain ⟨cl41, Ar41, q41, S41, M41, H41, G41⟩ := id V_ar_38
        have in41 : ¬ ((0 : Int32) < 0 ∨ cl41.slots.size ≤ ((0 : Int32)).toNatClampNeg) := inb_of S41 ⟨by decide, by decide⟩
        obtain ⟨T42, h42, X42, e42, W42, st42⟩ := stC X38 hx hZ e38 Ar41 (j := (0 : Int32)) in41 (g := (mkF m 53 #[.val (.int i0), .val (.int i1), .val (.int i2), .val (.int i3), .val (.int kk), .val (.int (Int32.ofNat aa)), .val (.int (Int32.ofNat 1)), .val (.int cc0), .val (.int cc1), .val (.int cc2), .val (.ref ar), .unset, .unset, .unset, .unset, .unset, .unset] [(.int cc0), (.int (0 : Int32)), (.ref ar)])) rfl rfl (hb hby at_53)
        have O0_42 : Old Z n0 h42 := O0_38.wr W42 g_ar
        have N42 := Fr.snoc X42 N0 g_ar
        have Z42 : n0 ≤ h42.size := Nat.le_trans Z38 (Keep.of_wr W42).1
        have V_ar_42 : Arv Z h42 ar k38 .char (Int32.ofNat 1) [(.int (nar .char cc0))] (.int (0 : Int32)) := Arv.set Ar41 q41 S41 M41 H41 G41 (fits_nar_char _) W42 0 rfl (Nat.le_of_ble_eq_true rfl)
        have pre43 := fun τ (κ : Steps p.tables e below (T42.setTop (mkF m 54 #[.val (.int i0), .val (.int i1), .val (.int i2), .val (.int i3), .val (.int kk), .val (.int (Int32.ofNat aa)), .val (.int (Int32.ofNat 1)), .val (.int cc0), .val (.int cc1), .val (.int cc2), .val (.ref ar), .unset, .unset, .unset, .unset, .unset, .unset] [])) τ) => pre40 τ (st42 _ κ)
        have pre44 := fun τ (κ : Steps p.tables e below (T42.setTop (mkF m 78 #[.val (.int i0), .val (.int i1), .val (.int i2), .val (.int i3), .val (.int kk), .val (.int (Int32.ofNat aa)), .val (.int (Int32.ofNat 1)), .val (.int cc0), .val (.int cc1), .val (.int cc2), .val (.ref ar), .unset, .unset, .unset, .unset, .unset, .unset] [])) τ) => pre43 τ (by
          refine XS.iload X42.here hx rfl (hb hby at_54) rfl ?_
          refine XS.iconst X42.here hx rfl (hb hby at_56) ?_
          refine XS.icmpYes X42.here hx rfl (pc0 := 57) (pc' := 66) rfl (hb hby at_57) rfl (flt (by decide)).2.2.2 (by decide) (by decide) ?_
          show Steps p.tables e below (T42.setTop (mkF m 66 #[.val (.int i0), .val (.int i1), .val (.int i2), .val (.int i3), .val (.int kk), .val (.int (Int32.ofNat aa)), .val (.int (Int32.ofNat 1)), .val (.int cc0), .val (.int cc1), .val (.int cc2), .val (.ref ar), .unset, .unset, .unset, .unset, .unset, .unset] [])) _
          refine XS.iload X42.here hx rfl (hb hby at_66) rfl ?_
          refine XS.iconst X42.here hx rfl (hb hby at_68) ?_
          refine XS.icmpYes X42.here hx rfl (pc0 := 69) (pc' := 78) rfl (hb hby at_69) rfl (flt (by decide)).2.2.2 (by decide) (by decide) ?_
          show Steps p.tables e below (T42.setTop (mkF m 78 #[.val (.int i0), .val (.int i1), .val (.int i2), .val (.int i3), .val (.int kk), .val (.int (Int32.ofNat aa)), .val (.int (Int32.ofNat 1)), .val (.int cc0), .val (.int cc1), .val (.int cc2), .val (.ref ar), .unset, .unset, .unset, .unset, .unset, .unset] [])) _
          exact κ)
        have Vt : Arv Z h42 ar k38 .char (Int32.ofNat 1) (own_tab (own_f3 cc0 cc1 cc2) (1)) (.int (0 : Int32)) := by
          have q := V_ar_42
          rw [own_i2cn hc_0] at q
          exact q
        exact ⟨T42, h42, _, ar, k38, X42.more (by decide) (by decide), e42, N42, Z42, O0_42, Vt, pre44⟩
      · obtain ⟨T45, h45, k45, X45, e45, E45, A45, st45⟩ := newP X0 hx hZ (hw _ (List.mem_of_getElem? (i := 0) rfl)) e0 (g := (mkF m 39 #[.val (.int i0), .val (.int i1), .val (.int i2), .val (.int i3), .val (.int kk), .val (.int (Int32.ofNat aa)), .val (.int (Int32.ofNat 2)), .val (.int cc0), .val (.int cc1), .val (.int cc2), .unset, .unset, .unset, .unset, .unset, .unset, .unset] [(.int (Int32.ofNat 2))])) rfl (hb hby at_39) rfl (by decide) (cap := 2) (by decide) (by decide) (by decide) (by decide)
        obtain ⟨ar, g45⟩ : ∃ z, z = h0.size := ⟨_, rfl⟩
        rw [← g45] at A45 st45
        have g_ar : n0 ≤ ar := Nat.le_trans Z0 (Nat.le_of_eq g45.symm)
        have O0_45 : Old Z n0 h45 := O0.ext E45
        have Z45 : n0 ≤ h45.size := Nat.le_trans Z0 E45.1
        have V_ar_45 : Arv Z h45 ar k45 .char (Int32.ofNat 2) [(.int (0 : Int32)), (.int (0 : Int32))] (.int (0 : Int32)) := (Arv.new A45 (by decide)).pad (pad_rep [] (.int (0 : Int32)) 2)
        have pre46 := fun τ (κ : Steps p.tables e below (T45.setTop (mkF m 41 #[.val (.int i0), .val (.int i1), .val (.int i2), .val (.int i3), .val (.int kk), .val (.int (Int32.ofNat aa)), .val (.int (Int32.ofNat 2)), .val (.int cc0), .val (.int cc1), .val (.int cc2), .unset, .unset, .unset, .unset, .unset, .unset, .unset] [(.ref ar)])) τ) => pre7 τ (st45 _ κ)
        have pre47 := fun τ (κ : Steps p.tables e below (T45.setTop (mkF m 53 #[.val (.int i0), .val (.int i1), .val (.int i2), .val (.int i3), .val (.int kk), .val (.int (Int32.ofNat aa)), .val (.int (Int32.ofNat 2)), .val (.int cc0), .val (.int cc1), .val (.int cc2), .val (.ref ar), .unset, .unset, .unset, .unset, .unset, .unset] [(.int cc0), (.int (0 : Int32)), (.ref ar)])) τ) => pre46 τ (by
          refine XS.astore X45.here hx rfl (hb hby at_41) rfl rfl (l' := #[.val (.int i0), .val (.int i1), .val (.int i2), .val (.int i3), .val (.int kk), .val (.int (Int32.ofNat aa)), .val (.int (Int32.ofNat 2)), .val (.int cc0), .val (.int cc1), .val (.int cc2), .val (.ref ar), .unset, .unset, .unset, .unset, .unset, .unset]) rfl ?_
          show Steps p.tables e below (T45.setTop (mkF m 43 #[.val (.int i0), .val (.int i1), .val (.int i2), .val (.int i3), .val (.int kk), .val (.int (Int32.ofNat aa)), .val (.int (Int32.ofNat 2)), .val (.int cc0), .val (.int cc1), .val (.int cc2), .val (.ref ar), .unset, .unset, .unset, .unset, .unset, .unset] [])) _
          refine XS.iload X45.here hx rfl (hb hby at_43) rfl ?_
          refine XS.ifNo X45.here hx rfl (hb hby at_45) rfl ((if0 _ _).trans (tlt (by decide)).2.2.2) ?_
          show Steps p.tables e below (T45.setTop (mkF m 48 #[.val (.int i0), .val (.int i1), .val (.int i2), .val (.int i3), .val (.int kk), .val (.int (Int32.ofNat aa)), .val (.int (Int32.ofNat 2)), .val (.int cc0), .val (.int cc1), .val (.int cc2), .val (.ref ar), .unset, .unset, .unset, .unset, .unset, .unset] [])) _
          refine XS.aload X45.here hx rfl (hb hby at_48) rfl rfl ?_
          refine XS.iconst X45.here hx rfl (hb hby at_50) ?_
          refine XS.iload X45.here hx rfl (hb hby at_51) rfl ?_
          show Steps p.tables e below (T45.setTop (mkF m 53 #[.val (.int i0), .val (.int i1), .val (.int i2), .val (.int i3), .val (.int kk), .val (.int (Int32.ofNat aa)), .val (.int (Int32.ofNat 2)), .val (.int cc0), .val (.int cc1), .val (.int cc2), .val (.ref ar), .unset, .unset, .unset, .unset, .unset, .unset] [(.int cc0), (.int (0 : Int32)), (.ref ar)])) _
          exact κ)
        obtain ⟨cl48, Ar48, q48, S48, M48, H48, G48⟩ := id V_ar_45
        have in48 : ¬ ((0 : Int32) < 0 ∨ cl48.slots.size ≤ ((0 : Int32)).toNatClampNeg) := inb_of S48 ⟨by decide, by decide⟩
        obtain ⟨T49, h49, X49, e49, W49, st49⟩ := stC X45 hx hZ e45 Ar48 (j := (0 : Int32)) in48 (g := (mkF m 53 #[.val (.int i0), .val (.int i1), .val (.int i2), .val (.int i3), .val (.int kk), .val (.int (Int32.ofNat aa)), .val (.int (Int32.ofNat 2)), .val (.int cc0), .val (.int cc1), .val (.int cc2), .val (.ref ar), .unset, .unset, .unset, .unset, .unset, .unset] [(.int cc0), (.int (0 : Int32)), (.ref ar)])) rfl rfl (hb hby at_53)
        have O0_49 : Old Z n0 h49 := O0_45.wr W49 g_ar
        have N49 := Fr.snoc X49 N0 g_ar
        have Z49 : n0 ≤ h49.size := Nat.le_trans Z45 (Keep.of_wr W49).1
        have V_ar_49 : Arv Z h49 ar k45 .char (Int32.ofNat 2) [(.int (nar .char cc0)), (.int (0 : Int32))] (.int (0 : Int32)) := Arv.set Ar48 q48 S48 M48 H48 G48 (fits_nar_char _) W49 0 rfl (Nat.le_of_ble_eq_true rfl)
        have pre50 := fun τ (κ : Steps p.tables e below (T49.setTop (mkF m 54 #[.val (.int i0), .val (.int i1), .val (.int i2), .val (.int i3), .val (.int kk), .val (.int (Int32.ofNat aa)), .val (.int (Int32.ofNat 2)), .val (.int cc0), .val (.int cc1), .val (.int cc2), .val (.ref ar), .unset, .unset, .unset, .unset, .unset, .unset] [])) τ) => pre47 τ (st49 _ κ)
        have pre51 := fun τ (κ : Steps p.tables e below (T49.setTop (mkF m 65 #[.val (.int i0), .val (.int i1), .val (.int i2), .val (.int i3), .val (.int kk), .val (.int (Int32.ofNat aa)), .val (.int (Int32.ofNat 2)), .val (.int cc0), .val (.int cc1), .val (.int cc2), .val (.ref ar), .unset, .unset, .unset, .unset, .unset, .unset] [(.int cc1), (.int (1 : Int32)), (.ref ar)])) τ) => pre50 τ (by
          refine XS.iload X49.here hx rfl (hb hby at_54) rfl ?_
          refine XS.iconst X49.here hx rfl (hb hby at_56) ?_
          refine XS.icmpNo X49.here hx rfl (hb hby at_57) rfl (tlt (by decide)).2.2.2 ?_
          show Steps p.tables e below (T49.setTop (mkF m 60 #[.val (.int i0), .val (.int i1), .val (.int i2), .val (.int i3), .val (.int kk), .val (.int (Int32.ofNat aa)), .val (.int (Int32.ofNat 2)), .val (.int cc0), .val (.int cc1), .val (.int cc2), .val (.ref ar), .unset, .unset, .unset, .unset, .unset, .unset] [])) _
          refine XS.aload X49.here hx rfl (hb hby at_60) rfl rfl ?_
          refine XS.iconst X49.here hx rfl (hb hby at_62) ?_
          refine XS.iload X49.here hx rfl (hb hby at_63) rfl ?_
          show Steps p.tables e below (T49.setTop (mkF m 65 #[.val (.int i0), .val (.int i1), .val (.int i2), .val (.int i3), .val (.int kk), .val (.int (Int32.ofNat aa)), .val (.int (Int32.ofNat 2)), .val (.int cc0), .val (.int cc1), .val (.int cc2), .val (.ref ar), .unset, .unset, .unset, .unset, .unset, .unset] [(.int cc1), (.int (1 : Int32)), (.ref ar)])) _
          exact κ)
        obtain ⟨cl52, Ar52, q52, S52, M52, H52, G52⟩ := id V_ar_49
        have in52 : ¬ ((1 : Int32) < 0 ∨ cl52.slots.size ≤ ((1 : Int32)).toNatClampNeg) := inb_of S52 ⟨by decide, by decide⟩
        obtain ⟨T53, h53, X53, e53, W53, st53⟩ := stC X49 hx hZ e49 Ar52 (j := (1 : Int32)) in52 (g := (mkF m 65 #[.val (.int i0), .val (.int i1), .val (.int i2), .val (.int i3), .val (.int kk), .val (.int (Int32.ofNat aa)), .val (.int (Int32.ofNat 2)), .val (.int cc0), .val (.int cc1), .val (.int cc2), .val (.ref ar), .unset, .unset, .unset, .unset, .unset, .unset] [(.int cc1), (.int (1 : Int32)), (.ref ar)])) rfl rfl (hb hby at_65)
        have O0_53 : Old Z n0 h53 := O0_49.wr W53 g_ar
        have N53 := Fr.snoc X53 N49 g_ar
        have Z53 : n0 ≤ h53.size := Nat.le_trans Z49 (Keep.of_wr W53).1
        have V_ar_53 : Arv Z h53 ar k45 .char (Int32.ofNat 2) [(.int (nar .char cc0)), (.int (nar .char cc1))] (.int (0 : Int32)) := Arv.set Ar52 q52 S52 M52 H52 G52 (fits_nar_char _) W53 1 rfl (Nat.le_of_ble_eq_true rfl)
        have pre54 := fun τ (κ : Steps p.tables e below (T53.setTop (mkF m 66 #[.val (.int i0), .val (.int i1), .val (.int i2), .val (.int i3), .val (.int kk), .val (.int (Int32.ofNat aa)), .val (.int (Int32.ofNat 2)), .val (.int cc0), .val (.int cc1), .val (.int cc2), .val (.ref ar), .unset, .unset, .unset, .unset, .unset, .unset] [])) τ) => pre51 τ (st53 _ κ)
        have pre55 := fun τ (κ : Steps p.tables e below (T53.setTop (mkF m 78 #[.val (.int i0), .val (.int i1), .val (.int i2), .val (.int i3), .val (.int kk), .val (.int (Int32.ofNat aa)), .val (.int (Int32.ofNat 2)), .val (.int cc0), .val (.int cc1), .val (.int cc2), .val (.ref ar), .unset, .unset, .unset, .unset, .unset, .unset] [])) τ) => pre54 τ (by
          refine XS.iload X53.here hx rfl (hb hby at_66) rfl ?_
          refine XS.iconst X53.here hx rfl (hb hby at_68) ?_
          refine XS.icmpYes X53.here hx rfl (pc0 := 69) (pc' := 78) rfl (hb hby at_69) rfl (flt (by decide)).2.2.2 (by decide) (by decide) ?_
          show Steps p.tables e below (T53.setTop (mkF m 78 #[.val (.int i0), .val (.int i1), .val (.int i2), .val (.int i3), .val (.int kk), .val (.int (Int32.ofNat aa)), .val (.int (Int32.ofNat 2)), .val (.int cc0), .val (.int cc1), .val (.int cc2), .val (.ref ar), .unset, .unset, .unset, .unset, .unset, .unset] [])) _
          exact κ)
        have Vt : Arv Z h53 ar k45 .char (Int32.ofNat 2) (own_tab (own_f3 cc0 cc1 cc2) (2)) (.int (0 : Int32)) := by
          have q := V_ar_53
          rw [own_i2cn hc_0, own_i2cn hc_1] at q
          exact q
        exact ⟨T53, h53, _, ar, k45, X53.more (by decide) (by decide), e53, N53, Z53, O0_53, Vt, pre55⟩
      · obtain ⟨T56, h56, k56, X56, e56, E56, A56, st56⟩ := newP X0 hx hZ (hw _ (List.mem_of_getElem? (i := 0) rfl)) e0 (g := (mkF m 39 #[.val (.int i0), .val (.int i1), .val (.int i2), .val (.int i3), .val (.int kk), .val (.int (Int32.ofNat aa)), .val (.int (Int32.ofNat 3)), .val (.int cc0), .val (.int cc1), .val (.int cc2), .unset, .unset, .unset, .unset, .unset, .unset, .unset] [(.int (Int32.ofNat 3))])) rfl (hb hby at_39) rfl (by decide) (cap := 3) (by decide) (by decide) (by decide) (by decide)
        obtain ⟨ar, g56⟩ : ∃ z, z = h0.size := ⟨_, rfl⟩
        rw [← g56] at A56 st56
        have g_ar : n0 ≤ ar := Nat.le_trans Z0 (Nat.le_of_eq g56.symm)
        have O0_56 : Old Z n0 h56 := O0.ext E56
        have Z56 : n0 ≤ h56.size := Nat.le_trans Z0 E56.1
        have V_ar_56 : Arv Z h56 ar k56 .char (Int32.ofNat 3) [(.int (0 : Int32)), (.int (0 : Int32)), (.int (0 : Int32))] (.int (0 : Int32)) := (Arv.new A56 (by decide)).pad (pad_rep [] (.int (0 : Int32)) 3)
        have pre57 := fun τ (κ : Steps p.tables e below (T56.setTop (mkF m 41 #[.val (.int i0), .val (.int i1), .val (.int i2), .val (.int i3), .val (.int kk), .val (.int (Int32.ofNat aa)), .val (.int (Int32.ofNat 3)), .val (.int cc0), .val (.int cc1), .val (.int cc2), .unset, .unset, .unset, .unset, .unset, .unset, .unset] [(.ref ar)])) τ) => pre7 τ (st56 _ κ)
        have pre58 := fun τ (κ : Steps p.tables e below (T56.setTop (mkF m 53 #[.val (.int i0), .val (.int i1), .val (.int i2), .val (.int i3), .val (.int kk), .val (.int (Int32.ofNat aa)), .val (.int (Int32.ofNat 3)), .val (.int cc0), .val (.int cc1), .val (.int cc2), .val (.ref ar), .unset, .unset, .unset, .unset, .unset, .unset] [(.int cc0), (.int (0 : Int32)), (.ref ar)])) τ) => pre57 τ (by
          refine XS.astore X56.here hx rfl (hb hby at_41) rfl rfl (l' := #[.val (.int i0), .val (.int i1), .val (.int i2), .val (.int i3), .val (.int kk), .val (.int (Int32.ofNat aa)), .val (.int (Int32.ofNat 3)), .val (.int cc0), .val (.int cc1), .val (.int cc2), .val (.ref ar), .unset, .unset, .unset, .unset, .unset, .unset]) rfl ?_
          show Steps p.tables e below (T56.setTop (mkF m 43 #[.val (.int i0), .val (.int i1), .val (.int i2), .val (.int i3), .val (.int kk), .val (.int (Int32.ofNat aa)), .val (.int (Int32.ofNat 3)), .val (.int cc0), .val (.int cc1), .val (.int cc2), .val (.ref ar), .unset, .unset, .unset, .unset, .unset, .unset] [])) _
          refine XS.iload X56.here hx rfl (hb hby at_43) rfl ?_
          refine XS.ifNo X56.here hx rfl (hb hby at_45) rfl ((if0 _ _).trans (tlt (by decide)).2.2.2) ?_
          show Steps p.tables e below (T56.setTop (mkF m 48 #[.val (.int i0), .val (.int i1), .val (.int i2), .val (.int i3), .val (.int kk), .val (.int (Int32.ofNat aa)), .val (.int (Int32.ofNat 3)), .val (.int cc0), .val (.int cc1), .val (.int cc2), .val (.ref ar), .unset, .unset, .unset, .unset, .unset, .unset] [])) _
          refine XS.aload X56.here hx rfl (hb hby at_48) rfl rfl ?_
          refine XS.iconst X56.here hx rfl (hb hby at_50) ?_
          refine XS.iload X56.here hx rfl (hb hby at_51) rfl ?_
          show Steps p.tables e below (T56.setTop (mkF m 53 #[.val (.int i0), .val (.int i1), .val (.int i2), .val (.int i3), .val (.int kk), .val (.int (Int32.ofNat aa)), .val (.int (Int32.ofNat 3)), .val (.int cc0), .val (.int cc1), .val (.int cc2), .val (.ref ar), .unset, .unset, .unset, .unset, .unset, .unset] [(.int cc0), (.int (0 : Int32)), (.ref ar)])) _
          exact κ)
        obtain ⟨cl59, Ar59, q59, S59, M59, H59, G59⟩ := id V_ar_56
        have in59 : ¬ ((0 : Int32) < 0 ∨ cl59.slots.size ≤ ((0 : Int32)).toNatClampNeg) := inb_of S59 ⟨by decide, by decide⟩
        obtain ⟨T60, h60, X60, e60, W60, st60⟩ := stC X56 hx hZ e56 Ar59 (j := (0 : Int32)) in59 (g := (mkF m 53 #[.val (.int i0), .val (.int i1), .val (.int i2), .val (.int i3), .val (.int kk), .val (.int (Int32.ofNat aa)), .val (.int (Int32.ofNat 3)), .val (.int cc0), .val (.int cc1), .val (.int cc2), .val (.ref ar), .unset, .unset, .unset, .unset, .unset, .unset] [(.int cc0), (.int (0 : Int32)), (.ref ar)])) rfl rfl (hb hby at_53)
        have O0_60 : Old Z n0 h60 := O0_56.wr W60 g_ar
        have N60 := Fr.snoc X60 N0 g_ar
        have Z60 : n0 ≤ h60.size := Nat.le_trans Z56 (Keep.of_wr W60).1
        have V_ar_60 : Arv Z h60 ar k56 .char (Int32.ofNat 3) [(.int (nar .char cc0)), (.int (0 : Int32)), (.int (0 : Int32))] (.int (0 : Int32)) := Arv.set Ar59 q59 S59 M59 H59 G59 (fits_nar_char _) W60 0 rfl (Nat.le_of_ble_eq_true rfl)
        have pre61 := fun τ (κ : Steps p.tables e below (T60.setTop (mkF m 54 #[.val (.int i0), .val (.int i1), .val (.int i2), .val (.int i3), .val (.int kk), .val (.int (Int32.ofNat aa)), .val (.int (Int32.ofNat 3)), .val (.int cc0), .val (.int cc1), .val (.int cc2), .val (.ref ar), .unset, .unset, .unset, .unset, .unset, .unset] [])) τ) => pre58 τ (st60 _ κ)
        have pre62 := fun τ (κ : Steps p.tables e below (T60.setTop (mkF m 65 #[.val (.int i0), .val (.int i1), .val (.int i2), .val (.int i3), .val (.int kk), .val (.int (Int32.ofNat aa)), .val (.int (Int32.ofNat 3)), .val (.int cc0), .val (.int cc1), .val (.int cc2), .val (.ref ar), .unset, .unset, .unset, .unset, .unset, .unset] [(.int cc1), (.int (1 : Int32)), (.ref ar)])) τ) => pre61 τ (by
          refine XS.iload X60.here hx rfl (hb hby at_54) rfl ?_
          refine XS.iconst X60.here hx rfl (hb hby at_56) ?_
          refine XS.icmpNo X60.here hx rfl (hb hby at_57) rfl (tlt (by decide)).2.2.2 ?_
          show Steps p.tables e below (T60.setTop (mkF m 60 #[.val (.int i0), .val (.int i1), .val (.int i2), .val (.int i3), .val (.int kk), .val (.int (Int32.ofNat aa)), .val (.int (Int32.ofNat 3)), .val (.int cc0), .val (.int cc1), .val (.int cc2), .val (.ref ar), .unset, .unset, .unset, .unset, .unset, .unset] [])) _
          refine XS.aload X60.here hx rfl (hb hby at_60) rfl rfl ?_
          refine XS.iconst X60.here hx rfl (hb hby at_62) ?_
          refine XS.iload X60.here hx rfl (hb hby at_63) rfl ?_
          show Steps p.tables e below (T60.setTop (mkF m 65 #[.val (.int i0), .val (.int i1), .val (.int i2), .val (.int i3), .val (.int kk), .val (.int (Int32.ofNat aa)), .val (.int (Int32.ofNat 3)), .val (.int cc0), .val (.int cc1), .val (.int cc2), .val (.ref ar), .unset, .unset, .unset, .unset, .unset, .unset] [(.int cc1), (.int (1 : Int32)), (.ref ar)])) _
          exact κ)
        obtain ⟨cl63, Ar63, q63, S63, M63, H63, G63⟩ := id V_ar_60
        have in63 : ¬ ((1 : Int32) < 0 ∨ cl63.slots.size ≤ ((1 : Int32)).toNatClampNeg) := inb_of S63 ⟨by decide, by decide⟩
        obtain ⟨T64, h64, X64, e64, W64, st64⟩ := stC X60 hx hZ e60 Ar63 (j := (1 : Int32)) in63 (g := (mkF m 65 #[.val (.int i0), .val (.int i1), .val (.int i2), .val (.int i3), .val (.int kk), .val (.int (Int32.ofNat aa)), .val (.int (Int32.ofNat 3)), .val (.int cc0), .val (.int cc1), .val (.int cc2), .val (.ref ar), .unset, .unset, .unset, .unset, .unset, .unset] [(.int cc1), (.int (1 : Int32)), (.ref ar)])) rfl rfl (hb hby at_65)
        have O0_64 : Old Z n0 h64 := O0_60.wr W64 g_ar
        have N64 := Fr.snoc X64 N60 g_ar
        have Z64 : n0 ≤ h64.size := Nat.le_trans Z60 (Keep.of_wr W64).1
        have V_ar_64 : Arv Z h64 ar k56 .char (Int32.ofNat 3) [(.int (nar .char cc0)), (.int (nar .char cc1)), (.int (0 : Int32))] (.int (0 : Int32)) := Arv.set Ar63 q63 S63 M63 H63 G63 (fits_nar_char _) W64 1 rfl (Nat.le_of_ble_eq_true rfl)
        have pre65 := fun τ (κ : Steps p.tables e below (T64.setTop (mkF m 66 #[.val (.int i0), .val (.int i1), .val (.int i2), .val (.int i3), .val (.int kk), .val (.int (Int32.ofNat aa)), .val (.int (Int32.ofNat 3)), .val (.int cc0), .val (.int cc1), .val (.int cc2), .val (.ref ar), .unset, .unset, .unset, .unset, .unset, .unset] [])) τ) => pre62 τ (st64 _ κ)
        have pre66 := fun τ (κ : Steps p.tables e below (T64.setTop (mkF m 77 #[.val (.int i0), .val (.int i1), .val (.int i2), .val (.int i3), .val (.int kk), .val (.int (Int32.ofNat aa)), .val (.int (Int32.ofNat 3)), .val (.int cc0), .val (.int cc1), .val (.int cc2), .val (.ref ar), .unset, .unset, .unset, .unset, .unset, .unset] [(.int cc2), (.int (2 : Int32)), (.ref ar)])) τ) => pre65 τ (by
          refine XS.iload X64.here hx rfl (hb hby at_66) rfl ?_
          refine XS.iconst X64.here hx rfl (hb hby at_68) ?_
          refine XS.icmpNo X64.here hx rfl (hb hby at_69) rfl (tlt (by decide)).2.2.2 ?_
          show Steps p.tables e below (T64.setTop (mkF m 72 #[.val (.int i0), .val (.int i1), .val (.int i2), .val (.int i3), .val (.int kk), .val (.int (Int32.ofNat aa)), .val (.int (Int32.ofNat 3)), .val (.int cc0), .val (.int cc1), .val (.int cc2), .val (.ref ar), .unset, .unset, .unset, .unset, .unset, .unset] [])) _
          refine XS.aload X64.here hx rfl (hb hby at_72) rfl rfl ?_
          refine XS.iconst X64.here hx rfl (hb hby at_74) ?_
          refine XS.iload X64.here hx rfl (hb hby at_75) rfl ?_
          show Steps p.tables e below (T64.setTop (mkF m 77 #[.val (.int i0), .val (.int i1), .val (.int i2), .val (.int i3), .val (.int kk), .val (.int (Int32.ofNat aa)), .val (.int (Int32.ofNat 3)), .val (.int cc0), .val (.int cc1), .val (.int cc2), .val (.ref ar), .unset, .unset, .unset, .unset, .unset, .unset] [(.int cc2), (.int (2 : Int32)), (.ref ar)])) _
          exact κ)
        obtain ⟨cl67, Ar67, q67, S67, M67, H67, G67⟩ := id V_ar_64
        have in67 : ¬ ((2 : Int32) < 0 ∨ cl67.slots.size ≤ ((2 : Int32)).toNatClampNeg) := inb_of S67 ⟨by decide, by decide⟩
        obtain ⟨T68, h68, X68, e68, W68, st68⟩ := stC X64 hx hZ e64 Ar67 (j := (2 : Int32)) in67 (g := (mkF m 77 #[.val (.int i0), .val (.int i1), .val (.int i2), .val (.int i3), .val (.int kk), .val (.int (Int32.ofNat aa)), .val (.int (Int32.ofNat 3)), .val (.int cc0), .val (.int cc1), .val (.int cc2), .val (.ref ar), .unset, .unset, .unset, .unset, .unset, .unset] [(.int cc2), (.int (2 : Int32)), (.ref ar)])) rfl rfl (hb hby at_77)
        have O0_68 : Old Z n0 h68 := O0_64.wr W68 g_ar
        have N68 := Fr.snoc X68 N64 g_ar
        have Z68 : n0 ≤ h68.size := Nat.le_trans Z64 (Keep.of_wr W68).1
        have V_ar_68 : Arv Z h68 ar k56 .char (Int32.ofNat 3) [(.int (nar .char cc0)), (.int (nar .char cc1)), (.int (nar .char cc2))] (.int (0 : Int32)) := Arv.set Ar67 q67 S67 M67 H67 G67 (fits_nar_char _) W68 2 rfl (Nat.le_of_ble_eq_true rfl)
        have pre69 := fun τ (κ : Steps p.tables e below (T68.setTop (mkF m 78 #[.val (.int i0), .val (.int i1), .val (.int i2), .val (.int i3), .val (.int kk), .val (.int (Int32.ofNat aa)), .val (.int (Int32.ofNat 3)), .val (.int cc0), .val (.int cc1), .val (.int cc2), .val (.ref ar), .unset, .unset, .unset, .unset, .unset, .unset] [])) τ) => pre66 τ (st68 _ κ)
        have Vt : Arv Z h68 ar k56 .char (Int32.ofNat 3) (own_tab (own_f3 cc0 cc1 cc2) (3)) (.int (0 : Int32)) := by
          have q := V_ar_68
          rw [own_i2cn hc_0, own_i2cn hc_1, own_i2cn hc_2] at q
          exact q
        exact ⟨T68, h68, _, ar, k56, X68, e68, N68, Z68, O0_68, Vt, pre69⟩
    obtain ⟨T70, h70, X70, e70, E70, A70, D70, -, st70⟩ := newO X37 hx hZ hown (hw _ (List.mem_of_getElem? (i := 1) rfl)) (hw _ (List.mem_of_getElem? (i := 2) rfl)) (hw _ (List.mem_of_getElem? (i := 3) rfl)) e37 (g := (mkF m 78 #[.val (.int i0), .val (.int i1), .val (.int i2), .val (.int i3), .val (.int kk), .val (.int (Int32.ofNat aa)), .val (.int (Int32.ofNat nn)), .val (.int cc0), .val (.int cc1), .val (.int cc2), .val (.ref ar), .unset, .unset, .unset, .unset, .unset, .unset] [])) rfl (hb hby at_78) (by decide) (by decide)
    obtain ⟨so, g70⟩ : ∃ z, z = h37.size := ⟨_, rfl⟩
    rw [← g70] at A70 D70 st70
    have g_so : n0 ≤ so := Nat.le_trans Z37 (Nat.le_of_eq g70.symm)
    have ne_ar_so : ar ≠ so := Nat.ne_of_lt (Nat.lt_of_lt_of_le Va_37.lt (Nat.le_of_eq g70.symm))
    have O0_70 : Old Z n0 h70 := O0_37.ext E70
    have Va_70 : Arv Z h70 ar kc .char (Int32.ofNat nn) (own_tab (own_f3 cc0 cc1 cc2) (nn)) (.int (0 : Int32)) := Va_37.ext E70
    have Z70 : n0 ≤ h70.size := Nat.le_trans Z37 E70.1
    have F_value_so_70 : Fld Z h70 so "java/lang/String" "value" "[B" .null := D70 (Or.inr (hw _ (List.mem_of_getElem? (i := 16) rfl))) (ty := (.array .byte)) (by decide)
    have F_coder_so_70 : Fld Z h70 so "java/lang/String" "coder" "B" (.int (0 : Int32)) := D70 (Or.inr (hw _ (List.mem_of_getElem? (i := 17) rfl))) (ty := .byte) (by decide)
    have pre71 := fun τ (κ : Steps p.tables e below (T70.setTop (mkF m 81 #[.val (.int i0), .val (.int i1), .val (.int i2), .val (.int i3), .val (.int kk), .val (.int (Int32.ofNat aa)), .val (.int (Int32.ofNat nn)), .val (.int cc0), .val (.int cc1), .val (.int cc2), .val (.ref ar), .unset, .unset, .unset, .unset, .unset, .unset] [(.ref so)])) τ) => pre37 τ (st70 _ κ)
    have pre72 := fun τ (κ : Steps p.tables e below (T70.setTop (mkF m 84 #[.val (.int i0), .val (.int i1), .val (.int i2), .val (.int i3), .val (.int kk), .val (.int (Int32.ofNat aa)), .val (.int (Int32.ofNat nn)), .val (.int cc0), .val (.int cc1), .val (.int cc2), .val (.ref ar), .unset, .unset, .unset, .unset, .unset, .unset] [(.ref ar), (.ref so), (.ref so)])) τ) => pre71 τ (by
      refine XS.dup X70.here hx rfl (hb hby at_81) rfl rfl ?_
      show Steps p.tables e below (T70.setTop (mkF m 82 #[.val (.int i0), .val (.int i1), .val (.int i2), .val (.int i3), .val (.int kk), .val (.int (Int32.ofNat aa)), .val (.int (Int32.ofNat nn)), .val (.int cc0), .val (.int cc1), .val (.int cc2), .val (.ref ar), .unset, .unset, .unset, .unset, .unset, .unset] [(.ref so), (.ref so)])) _
      refine XS.aload X70.here hx rfl (hb hby at_82) rfl rfl ?_
      show Steps p.tables e below (T70.setTop (mkF m 84 #[.val (.int i0), .val (.int i1), .val (.int i2), .val (.int i3), .val (.int kk), .val (.int (Int32.ofNat aa)), .val (.int (Int32.ofNat nn)), .val (.int cc0), .val (.int cc1), .val (.int cc2), .val (.ref ar), .unset, .unset, .unset, .unset, .unset, .unset] [(.ref ar), (.ref so), (.ref so)])) _
      exact κ)
    obtain ⟨_, _, ⟨T73, L73, k73, n73⟩, -, X73, ⟨Lc73, hQ73, l73, y73, z73⟩, st73⟩ := X70.specialBack hx (y := (⟨"java/lang/String", "<init>", "([C)V"⟩ : MethodName)) rfl hown (mvT hZ (hw _ (List.mem_of_getElem? (i := 4) rfl))) (mvT hZ (hw _ (List.mem_of_getElem? (i := 5) rfl))) (mvT hZ (hw _ (List.mem_of_getElem? (i := 6) rfl))) (by decide) (backOf (W := 1) (rm1 l Z a0 hw [] so ar nn kc (own_f3 cc0 cc1 cc2) zc fm h70 n0 Z70 O0_70 U0 A70 F_value_so_70 F_coder_so_70 Va_70 (by omega) hn0 (fun j _ => own_f3c hc_0 hc_1 hc_2 j) (Ne.symm ne_ar_so) g_so) hZ (hw _ (List.mem_of_getElem? (i := 6) rfl)) (hw _ (List.mem_of_getElem? (i := 3) rfl)) (Nat.le_of_ble_eq_true rfl) (Nat.le_of_ble_eq_true rfl)) (g := (mkF m 84 #[.val (.int i0), .val (.int i1), .val (.int i2), .val (.int i3), .val (.int kk), .val (.int (Int32.ofNat aa)), .val (.int (Int32.ofNat nn)), .val (.int cc0), .val (.int cc1), .val (.int cc2), .val (.ref ar), .unset, .unset, .unset, .unset, .unset, .unset] [(.ref ar), (.ref so), (.ref so)])) rfl (by rw [hml]; rfl) (Steps.refl _) (a := so) (argsL := [(.ref ar)]) (rest := [(.ref so)]) (lenOf pd_18 rfl) rfl (by show 2 * 0 + _ ≤ _; exact Nat.le_of_eq rfl) (hb hby at_84) (fun _ _ => ⟨rfl, e70, (by decide : 2 + 2 ≤ _), (by decide : 7 + 48 ≤ _)⟩)
    dsimp only [Pt.U, Pt.locs, Pt.cells, Pt.slots] at X73 l73 y73 z73 st73 hQ73
    subst l73 y73 z73
    obtain ⟨rfl, Nq73, K73, P73⟩ := hQ73
    have O0_73 : Old Z n0 T73.heap := O0_70.keep K73 (allS g_so all0)
    have Va_73 : Arv Z T73.heap ar kc .char (Int32.ofNat nn) (own_tab (own_f3 cc0 cc1 cc2) (nn)) (.int (0 : Int32)) := Va_70.keep K73 (ninS ne_ar_so nin0)
    have A70_73 : Exa Z T73.heap so "java/lang/String" := A70.keep K73
    have Z73 : n0 ≤ T73.heap.size := Nat.le_trans Z70 K73.1
    have N73 := Fr.app N37 Nq73
    have pre74 := fun τ (κ : Steps p.tables e below (T73.setTop (mkF m 87 #[.val (.int i0), .val (.int i1), .val (.int i2), .val (.int i3), .val (.int kk), .val (.int (Int32.ofNat aa)), .val (.int (Int32.ofNat nn)), .val (.int cc0), .val (.int cc1), .val (.int cc2), .val (.ref ar), .unset, .unset, .unset, .unset, .unset, .unset] [(.ref so)])) τ) => pre72 τ (st73.trans κ)
    have pre75 := fun τ (κ : Steps p.tables e below (T73.setTop (mkF m 91 #[.val (.int i0), .val (.int i1), .val (.int i2), .val (.int i3), .val (.int kk), .val (.int (Int32.ofNat aa)), .val (.int (Int32.ofNat nn)), .val (.int cc0), .val (.int cc1), .val (.int cc2), .val (.ref ar), .val (.ref so), .unset, .unset, .unset, .unset, .unset] [(.int kk)])) τ) => pre74 τ (by
      refine XS.astore X73.here hx rfl (hb hby at_87) rfl rfl (l' := #[.val (.int i0), .val (.int i1), .val (.int i2), .val (.int i3), .val (.int kk), .val (.int (Int32.ofNat aa)), .val (.int (Int32.ofNat nn)), .val (.int cc0), .val (.int cc1), .val (.int cc2), .val (.ref ar), .val (.ref so), .unset, .unset, .unset, .unset, .unset]) rfl ?_
      show Steps p.tables e below (T73.setTop (mkF m 89 #[.val (.int i0), .val (.int i1), .val (.int i2), .val (.int i3), .val (.int kk), .val (.int (Int32.ofNat aa)), .val (.int (Int32.ofNat nn)), .val (.int cc0), .val (.int cc1), .val (.int cc2), .val (.ref ar), .val (.ref so), .unset, .unset, .unset, .unset, .unset] [])) _
      refine XS.iload X73.here hx rfl (hb hby at_89) rfl ?_
      show Steps p.tables e below (T73.setTop (mkF m 91 #[.val (.int i0), .val (.int i1), .val (.int i2), .val (.int i3), .val (.int kk), .val (.int (Int32.ofNat aa)), .val (.int (Int32.ofNat nn)), .val (.int cc0), .val (.int cc1), .val (.int cc2), .val (.ref ar), .val (.ref so), .unset, .unset, .unset, .unset, .unset] [(.int kk)])) _
      exact κ)
    obtain ⟨_, _, ⟨T76, L76, k76, n76⟩, -, X76, ⟨Lc76, hQ76, l76, y76, z76⟩, st76⟩ := Jvm.LawKit.callS X73 hx (y := (⟨"com/example/huiqiao/huiqiao/iso8583/ContentRunsFromPinLaw", "content", "(I)Lcom/example/huiqiao/huiqiao/iso8583/SwitchField$Content;"⟩ : MethodName)) hown (mvT hZ (hw _ (List.mem_of_getElem? (i := 22) rfl))) (mvT hZ (hw _ (List.mem_of_getElem? (i := 23) rfl))) (mvT hZ (hw _ (List.mem_of_getElem? (i := 24) rfl))) (mvT hZ (hw _ (List.mem_of_getElem? (i := 25) rfl))) (by decide) (backOf (W := 0) (rm4 l Z a0 hw [] kk T73.heap n0 Z73 O0_73 CA hk6) hZ (hw _ (List.mem_of_getElem? (i := 25) rfl)) (hw _ (List.mem_of_getElem? (i := 24) rfl)) (Nat.le_of_ble_eq_true rfl) (Nat.le_of_ble_eq_true rfl)) (g := (mkF m 91 #[.val (.int i0), .val (.int i1), .val (.int i2), .val (.int i3), .val (.int kk), .val (.int (Int32.ofNat aa)), .val (.int (Int32.ofNat nn)), .val (.int cc0), .val (.int cc1), .val (.int cc2), .val (.ref ar), .val (.ref so), .unset, .unset, .unset, .unset, .unset] [(.int kk)])) rfl (by rw [hml]; rfl) (argsL := [(.int kk)]) (rest := []) (lenOf pd_19 rfl) rfl (by show 2 * 0 + _ ≤ _; exact Nat.le_of_eq rfl) (hb hby at_91) (fun _ _ => ⟨rfl, rfl, (by decide : 4 + 0 ≤ _), (by decide : 55 + 0 ≤ _)⟩)
    dsimp only [Pt.U, Pt.locs, Pt.cells, Pt.slots] at X76 l76 y76 z76 st76 hQ76
    subst l76 y76 z76
    obtain ⟨ob, ir, C, rfl, Nq76, hh76, CT⟩ := hQ76
    have O0_76 : Old Z n0 T76.heap := by rw [hh76]; exact O0_73
    have Va_76 : Arv Z T76.heap ar kc .char (Int32.ofNat nn) (own_tab (own_f3 cc0 cc1 cc2) (nn)) (.int (0 : Int32)) := by rw [hh76]; exact Va_73
    have A70_76 : Exa Z T76.heap so "java/lang/String" := by rw [hh76]; exact A70_73
    have P73_76 : own_STR Z T76.heap so (own_f3 cc0 cc1 cc2) nn := by rw [hh76]; exact P73
    have Z76 : n0 ≤ T76.heap.size := by rw [hh76]; exact Z73
    have N76 := Fr.app N73 Nq76
    have pre77 := fun τ (κ : Steps p.tables e below (T76.setTop (mkF m 94 #[.val (.int i0), .val (.int i1), .val (.int i2), .val (.int i3), .val (.int kk), .val (.int (Int32.ofNat aa)), .val (.int (Int32.ofNat nn)), .val (.int cc0), .val (.int cc1), .val (.int cc2), .val (.ref ar), .val (.ref so), .unset, .unset, .unset, .unset, .unset] [(.ref ob)])) τ) => pre75 τ (st76 _ κ)
    have E_o : Exa Z T76.heap ob C := CT.2.1.ext O0_76.2
    have pre78 := fun τ (κ : Steps p.tables e below (T76.setTop (mkF m 98 #[.val (.int i0), .val (.int i1), .val (.int i2), .val (.int i3), .val (.int kk), .val (.int (Int32.ofNat aa)), .val (.int (Int32.ofNat nn)), .val (.int cc0), .val (.int cc1), .val (.int cc2), .val (.ref ar), .val (.ref so), .unset, .unset, .unset, .unset, .unset] [(.int (Int32.ofNat aa)), (.ref so), (.ref ob)])) τ) => pre77 τ (by
      refine XS.aload X76.here hx rfl (hb hby at_94) rfl rfl ?_
      refine XS.iload X76.here hx rfl (hb hby at_96) rfl ?_
      show Steps p.tables e below (T76.setTop (mkF m 98 #[.val (.int i0), .val (.int i1), .val (.int i2), .val (.int i3), .val (.int kk), .val (.int (Int32.ofNat aa)), .val (.int (Int32.ofNat nn)), .val (.int cc0), .val (.int cc1), .val (.int cc2), .val (.ref ar), .val (.ref so), .unset, .unset, .unset, .unset, .unset] [(.int (Int32.ofNat aa)), (.ref so), (.ref ob)])) _
      exact κ)
    obtain ⟨cq79, kq79, q79a, q79b, q79c⟩ := isOf hZ rfl E_o
    obtain ⟨_, _, ⟨T79, L79, k79, n79⟩, -, X79, ⟨Lc79, hQ79, l79, y79, z79⟩, st79⟩ := X76.virtualBack hx (y := (⟨"com/example/huiqiao/huiqiao/iso8583/SwitchField$Content", "runsFrom", "(Ljava/lang/String;I)Z"⟩ : MethodName)) (z := (⟨"com/example/huiqiao/huiqiao/iso8583/SwitchField$Content", "runsFrom", "(Ljava/lang/String;I)Z"⟩ : MethodName)) hown (mvT hZ (hw _ (List.mem_of_getElem? (i := 29) rfl))) (mvT hZ (hw _ (List.mem_of_getElem? (i := 30) rfl))) (notFace_of_selects (args := #[]) (mvT hZ (own_selR hw CT.1))) (mvT hZ (own_selR hw CT.1)) (mvT hZ (hw _ (List.mem_of_getElem? (i := 31) rfl))) (by decide) (backOf (W := 0) (rm5 l Z a0 hw [] ob so ir C kk aa nn (own_f3 cc0 cc1 cc2) zc fm T76.heap n0 Z76 O0_76 U0 P73_76 CT (by omega) ha7 (fun j _ => own_f3c hc_0 hc_1 hc_2 j)) hZ (hw _ (List.mem_of_getElem? (i := 33) rfl)) (hw _ (List.mem_of_getElem? (i := 27) rfl)) (Nat.le_of_ble_eq_true rfl) (Nat.le_of_ble_eq_true rfl)) q79a q79c (g := (mkF m 98 #[.val (.int i0), .val (.int i1), .val (.int i2), .val (.int i3), .val (.int kk), .val (.int (Int32.ofNat aa)), .val (.int (Int32.ofNat nn)), .val (.int cc0), .val (.int cc1), .val (.int cc2), .val (.ref ar), .val (.ref so), .unset, .unset, .unset, .unset, .unset] [(.int (Int32.ofNat aa)), (.ref so), (.ref ob)])) rfl (by rw [hml]; rfl) (Steps.refl _) (argsL := [(.ref so), (.int (Int32.ofNat aa))]) (rest := []) (lenOf pd_20 rfl) rfl (by show 2 * 0 + _ ≤ _; exact Nat.le_of_eq rfl) (hb hby at_98) (fun _ _ => ⟨rfl, rfl, (by decide : 4 + 0 ≤ _), (by decide : 55 + 0 ≤ _)⟩)
    dsimp only [Pt.U, Pt.locs, Pt.cells, Pt.slots] at X79 l79 y79 z79 st79 hQ79
    subst l79 y79 z79
    obtain ⟨rfl, Nq79, hh79⟩ := hQ79
    have O0_79 : Old Z n0 T79.heap := by rw [hh79]; exact O0_76
    have Va_79 : Arv Z T79.heap ar kc .char (Int32.ofNat nn) (own_tab (own_f3 cc0 cc1 cc2) (nn)) (.int (0 : Int32)) := by rw [hh79]; exact Va_76
    have A70_79 : Exa Z T79.heap so "java/lang/String" := by rw [hh79]; exact A70_76
    have P73_79 : own_STR Z T79.heap so (own_f3 cc0 cc1 cc2) nn := by rw [hh79]; exact P73_76
    have E_o_79 : Exa Z T79.heap ob C := by rw [hh79]; exact E_o
    have Z79 : n0 ≤ T79.heap.size := by rw [hh79]; exact Z76
    have N79 := Fr.app N76 Nq79
    have pre80 := fun τ (κ : Steps p.tables e below (T79.setTop (mkF m 101 #[.val (.int i0), .val (.int i1), .val (.int i2), .val (.int i3), .val (.int kk), .val (.int (Int32.ofNat aa)), .val (.int (Int32.ofNat nn)), .val (.int cc0), .val (.int cc1), .val (.int cc2), .val (.ref ar), .val (.ref so), .unset, .unset, .unset, .unset, .unset] [(.int (own_rf kk (own_f3 cc0 cc1 cc2) nn aa))])) τ) => pre78 τ (st79.trans κ)
    have pre81 := fun τ (κ : Steps p.tables e below (T79.setTop (mkF m 106 #[.val (.int i0), .val (.int i1), .val (.int i2), .val (.int i3), .val (.int kk), .val (.int (Int32.ofNat aa)), .val (.int (Int32.ofNat nn)), .val (.int cc0), .val (.int cc1), .val (.int cc2), .val (.ref ar), .val (.ref so), .val (.int (own_rf kk (own_f3 cc0 cc1 cc2) nn aa)), .unset, .unset, .unset, .unset] [(.int (Int32.ofNat aa)), (.int (0 : Int32))])) τ) => pre80 τ (by
      refine XS.istore X79.here hx rfl (hb hby at_101) rfl (l' := #[.val (.int i0), .val (.int i1), .val (.int i2), .val (.int i3), .val (.int kk), .val (.int (Int32.ofNat aa)), .val (.int (Int32.ofNat nn)), .val (.int cc0), .val (.int cc1), .val (.int cc2), .val (.ref ar), .val (.ref so), .val (.int (own_rf kk (own_f3 cc0 cc1 cc2) nn aa)), .unset, .unset, .unset, .unset]) rfl ?_
      show Steps p.tables e below (T79.setTop (mkF m 103 #[.val (.int i0), .val (.int i1), .val (.int i2), .val (.int i3), .val (.int kk), .val (.int (Int32.ofNat aa)), .val (.int (Int32.ofNat nn)), .val (.int cc0), .val (.int cc1), .val (.int cc2), .val (.ref ar), .val (.ref so), .val (.int (own_rf kk (own_f3 cc0 cc1 cc2) nn aa)), .unset, .unset, .unset, .unset] [])) _
      refine XS.iconst X79.here hx rfl (hb hby at_103) ?_
      refine XS.iload X79.here hx rfl (hb hby at_104) rfl ?_
      show Steps p.tables e below (T79.setTop (mkF m 106 #[.val (.int i0), .val (.int i1), .val (.int i2), .val (.int i3), .val (.int kk), .val (.int (Int32.ofNat aa)), .val (.int (Int32.ofNat nn)), .val (.int cc0), .val (.int cc1), .val (.int cc2), .val (.ref ar), .val (.ref so), .val (.int (own_rf kk (own_f3 cc0 cc1 cc2) nn aa)), .unset, .unset, .unset, .unset] [(.int (Int32.ofNat aa)), (.int (0 : Int32))])) _
      exact κ)
    obtain ⟨b0, hb0, pre82⟩ : ∃ (b0 : Int32), (b0 = own_b 0 aa nn) ∧ ∀ τ, Steps p.tables e below (T79.setTop (mkF m 120 #[.val (.int i0), .val (.int i1), .val (.int i2), .val (.int i3), .val (.int kk), .val (.int (Int32.ofNat aa)), .val (.int (Int32.ofNat nn)), .val (.int cc0), .val (.int cc1), .val (.int cc2), .val (.ref ar), .val (.ref so), .val (.int (own_rf kk (own_f3 cc0 cc1 cc2) nn aa)), .unset, .unset, .unset, .unset] [(.int b0)])) τ → Steps p.tables e below (s₁.setTop (entryFrame m #[(.int i0), (.int i1), (.int i2), (.int i3)] maxLocals)) τ := by
      by_cases hx0 : (0 : Int32) < (Int32.ofNat aa)
      · have pre83 := fun τ (κ : Steps p.tables e below (T79.setTop (mkF m 120 #[.val (.int i0), .val (.int i1), .val (.int i2), .val (.int i3), .val (.int kk), .val (.int (Int32.ofNat aa)), .val (.int (Int32.ofNat nn)), .val (.int cc0), .val (.int cc1), .val (.int cc2), .val (.ref ar), .val (.ref so), .val (.int (own_rf kk (own_f3 cc0 cc1 cc2) nn aa)), .unset, .unset, .unset, .unset] [(.int (0 : Int32))])) τ) => pre81 τ (by
          refine XS.icmpYes X79.here hx rfl (pc0 := 106) (pc' := 119) rfl (hb hby at_106) rfl (tlt hx0).1 (by decide) (by decide) ?_
          show Steps p.tables e below (T79.setTop (mkF m 119 #[.val (.int i0), .val (.int i1), .val (.int i2), .val (.int i3), .val (.int kk), .val (.int (Int32.ofNat aa)), .val (.int (Int32.ofNat nn)), .val (.int cc0), .val (.int cc1), .val (.int cc2), .val (.ref ar), .val (.ref so), .val (.int (own_rf kk (own_f3 cc0 cc1 cc2) nn aa)), .unset, .unset, .unset, .unset] [])) _
          refine XS.iconst X79.here hx rfl (hb hby at_119) ?_
          show Steps p.tables e below (T79.setTop (mkF m 120 #[.val (.int i0), .val (.int i1), .val (.int i2), .val (.int i3), .val (.int kk), .val (.int (Int32.ofNat aa)), .val (.int (Int32.ofNat nn)), .val (.int cc0), .val (.int cc1), .val (.int cc2), .val (.ref ar), .val (.ref so), .val (.int (own_rf kk (own_f3 cc0 cc1 cc2) nn aa)), .unset, .unset, .unset, .unset] [(.int (0 : Int32))])) _
          exact κ)
        exact ⟨0, (own_b0 ((own_ltN (i := 0) (by omega) (by omega)).mp hx0)).symm, pre83⟩
      · have pre84 := fun τ (κ : Steps p.tables e below (T79.setTop (mkF m 112 #[.val (.int i0), .val (.int i1), .val (.int i2), .val (.int i3), .val (.int kk), .val (.int (Int32.ofNat aa)), .val (.int (Int32.ofNat nn)), .val (.int cc0), .val (.int cc1), .val (.int cc2), .val (.ref ar), .val (.ref so), .val (.int (own_rf kk (own_f3 cc0 cc1 cc2) nn aa)), .unset, .unset, .unset, .unset] [(.int (Int32.ofNat nn)), (.int (0 : Int32))])) τ) => pre81 τ (by
          refine XS.icmpNo X79.here hx rfl (hb hby at_106) rfl (flt hx0).1 ?_
          show Steps p.tables e below (T79.setTop (mkF m 109 #[.val (.int i0), .val (.int i1), .val (.int i2), .val (.int i3), .val (.int kk), .val (.int (Int32.ofNat aa)), .val (.int (Int32.ofNat nn)), .val (.int cc0), .val (.int cc1), .val (.int cc2), .val (.ref ar), .val (.ref so), .val (.int (own_rf kk (own_f3 cc0 cc1 cc2) nn aa)), .unset, .unset, .unset, .unset] [])) _
          refine XS.iconst X79.here hx rfl (hb hby at_109) ?_
          refine XS.iload X79.here hx rfl (hb hby at_110) rfl ?_
          show Steps p.tables e below (T79.setTop (mkF m 112 #[.val (.int i0), .val (.int i1), .val (.int i2), .val (.int i3), .val (.int kk), .val (.int (Int32.ofNat aa)), .val (.int (Int32.ofNat nn)), .val (.int cc0), .val (.int cc1), .val (.int cc2), .val (.ref ar), .val (.ref so), .val (.int (own_rf kk (own_f3 cc0 cc1 cc2) nn aa)), .unset, .unset, .unset, .unset] [(.int (Int32.ofNat nn)), (.int (0 : Int32))])) _
          exact κ)
        by_cases hy0 : (0 : Int32) < (Int32.ofNat nn)
        · have pre85 := fun τ (κ : Steps p.tables e below (T79.setTop (mkF m 120 #[.val (.int i0), .val (.int i1), .val (.int i2), .val (.int i3), .val (.int kk), .val (.int (Int32.ofNat aa)), .val (.int (Int32.ofNat nn)), .val (.int cc0), .val (.int cc1), .val (.int cc2), .val (.ref ar), .val (.ref so), .val (.int (own_rf kk (own_f3 cc0 cc1 cc2) nn aa)), .unset, .unset, .unset, .unset] [(.int (1 : Int32))])) τ) => pre84 τ (by
            refine XS.icmpNo X79.here hx rfl (hb hby at_112) rfl (tlt hy0).2.1 ?_
            show Steps p.tables e below (T79.setTop (mkF m 115 #[.val (.int i0), .val (.int i1), .val (.int i2), .val (.int i3), .val (.int kk), .val (.int (Int32.ofNat aa)), .val (.int (Int32.ofNat nn)), .val (.int cc0), .val (.int cc1), .val (.int cc2), .val (.ref ar), .val (.ref so), .val (.int (own_rf kk (own_f3 cc0 cc1 cc2) nn aa)), .unset, .unset, .unset, .unset] [])) _
            refine XS.iconst X79.here hx rfl (hb hby at_115) ?_
            refine XS.goto X79.here hx rfl (pc0 := 116) (pc' := 120) rfl (hb hby at_116) (by decide) (by decide) ?_
            show Steps p.tables e below (T79.setTop (mkF m 120 #[.val (.int i0), .val (.int i1), .val (.int i2), .val (.int i3), .val (.int kk), .val (.int (Int32.ofNat aa)), .val (.int (Int32.ofNat nn)), .val (.int cc0), .val (.int cc1), .val (.int cc2), .val (.ref ar), .val (.ref so), .val (.int (own_rf kk (own_f3 cc0 cc1 cc2) nn aa)), .unset, .unset, .unset, .unset] [(.int (1 : Int32))])) _
            exact κ)
          exact ⟨1, (own_b1 (fun q => hx0 ((own_ltN (i := 0) (by omega) (by omega)).mpr q)) ((own_ltN (i := 0) (by omega) (by omega)).mp hy0)).symm, pre85⟩
        · have pre86 := fun τ (κ : Steps p.tables e below (T79.setTop (mkF m 120 #[.val (.int i0), .val (.int i1), .val (.int i2), .val (.int i3), .val (.int kk), .val (.int (Int32.ofNat aa)), .val (.int (Int32.ofNat nn)), .val (.int cc0), .val (.int cc1), .val (.int cc2), .val (.ref ar), .val (.ref so), .val (.int (own_rf kk (own_f3 cc0 cc1 cc2) nn aa)), .unset, .unset, .unset, .unset] [(.int (0 : Int32))])) τ) => pre84 τ (by
            refine XS.icmpYes X79.here hx rfl (pc0 := 112) (pc' := 119) rfl (hb hby at_112) rfl (flt hy0).2.1 (by decide) (by decide) ?_
            show Steps p.tables e below (T79.setTop (mkF m 119 #[.val (.int i0), .val (.int i1), .val (.int i2), .val (.int i3), .val (.int kk), .val (.int (Int32.ofNat aa)), .val (.int (Int32.ofNat nn)), .val (.int cc0), .val (.int cc1), .val (.int cc2), .val (.ref ar), .val (.ref so), .val (.int (own_rf kk (own_f3 cc0 cc1 cc2) nn aa)), .unset, .unset, .unset, .unset] [])) _
            refine XS.iconst X79.here hx rfl (hb hby at_119) ?_
            show Steps p.tables e below (T79.setTop (mkF m 120 #[.val (.int i0), .val (.int i1), .val (.int i2), .val (.int i3), .val (.int kk), .val (.int (Int32.ofNat aa)), .val (.int (Int32.ofNat nn)), .val (.int cc0), .val (.int cc1), .val (.int cc2), .val (.ref ar), .val (.ref so), .val (.int (own_rf kk (own_f3 cc0 cc1 cc2) nn aa)), .unset, .unset, .unset, .unset] [(.int (0 : Int32))])) _
            exact κ)
          exact ⟨0, (own_b0' (fun q => hy0 ((own_ltN (i := 0) (by omega) (by omega)).mpr q))).symm, pre86⟩
    subst hb0
    have pre87 := fun τ (κ : Steps p.tables e below (T79.setTop (mkF m 125 #[.val (.int i0), .val (.int i1), .val (.int i2), .val (.int i3), .val (.int kk), .val (.int (Int32.ofNat aa)), .val (.int (Int32.ofNat nn)), .val (.int cc0), .val (.int cc1), .val (.int cc2), .val (.ref ar), .val (.ref so), .val (.int (own_rf kk (own_f3 cc0 cc1 cc2) nn aa)), .val (.int (own_b 0 aa nn)), .unset, .unset, .unset] [(.int (Int32.ofNat aa)), (.int (1 : Int32))])) τ) => pre82 τ (by
      refine XS.istore X79.here hx rfl (hb hby at_120) rfl (l' := #[.val (.int i0), .val (.int i1), .val (.int i2), .val (.int i3), .val (.int kk), .val (.int (Int32.ofNat aa)), .val (.int (Int32.ofNat nn)), .val (.int cc0), .val (.int cc1), .val (.int cc2), .val (.ref ar), .val (.ref so), .val (.int (own_rf kk (own_f3 cc0 cc1 cc2) nn aa)), .val (.int (own_b 0 aa nn)), .unset, .unset, .unset]) rfl ?_
      show Steps p.tables e below (T79.setTop (mkF m 122 #[.val (.int i0), .val (.int i1), .val (.int i2), .val (.int i3), .val (.int kk), .val (.int (Int32.ofNat aa)), .val (.int (Int32.ofNat nn)), .val (.int cc0), .val (.int cc1), .val (.int cc2), .val (.ref ar), .val (.ref so), .val (.int (own_rf kk (own_f3 cc0 cc1 cc2) nn aa)), .val (.int (own_b 0 aa nn)), .unset, .unset, .unset] [])) _
      refine XS.iconst X79.here hx rfl (hb hby at_122) ?_
      refine XS.iload X79.here hx rfl (hb hby at_123) rfl ?_
      show Steps p.tables e below (T79.setTop (mkF m 125 #[.val (.int i0), .val (.int i1), .val (.int i2), .val (.int i3), .val (.int kk), .val (.int (Int32.ofNat aa)), .val (.int (Int32.ofNat nn)), .val (.int cc0), .val (.int cc1), .val (.int cc2), .val (.ref ar), .val (.ref so), .val (.int (own_rf kk (own_f3 cc0 cc1 cc2) nn aa)), .val (.int (own_b 0 aa nn)), .unset, .unset, .unset] [(.int (Int32.ofNat aa)), (.int (1 : Int32))])) _
      exact κ)
    obtain ⟨b1, hb1, pre88⟩ : ∃ (b1 : Int32), (b1 = own_b 1 aa nn) ∧ ∀ τ, Steps p.tables e below (T79.setTop (mkF m 139 #[.val (.int i0), .val (.int i1), .val (.int i2), .val (.int i3), .val (.int kk), .val (.int (Int32.ofNat aa)), .val (.int (Int32.ofNat nn)), .val (.int cc0), .val (.int cc1), .val (.int cc2), .val (.ref ar), .val (.ref so), .val (.int (own_rf kk (own_f3 cc0 cc1 cc2) nn aa)), .val (.int (own_b 0 aa nn)), .unset, .unset, .unset] [(.int b1)])) τ → Steps p.tables e below (s₁.setTop (entryFrame m #[(.int i0), (.int i1), (.int i2), (.int i3)] maxLocals)) τ := by
      by_cases hx1 : (1 : Int32) < (Int32.ofNat aa)
      · have pre89 := fun τ (κ : Steps p.tables e below (T79.setTop (mkF m 139 #[.val (.int i0), .val (.int i1), .val (.int i2), .val (.int i3), .val (.int kk), .val (.int (Int32.ofNat aa)), .val (.int (Int32.ofNat nn)), .val (.int cc0), .val (.int cc1), .val (.int cc2), .val (.ref ar), .val (.ref so), .val (.int (own_rf kk (own_f3 cc0 cc1 cc2) nn aa)), .val (.int (own_b 0 aa nn)), .unset, .unset, .unset] [(.int (0 : Int32))])) τ) => pre87 τ (by
          refine XS.icmpYes X79.here hx rfl (pc0 := 125) (pc' := 138) rfl (hb hby at_125) rfl (tlt hx1).1 (by decide) (by decide) ?_
          show Steps p.tables e below (T79.setTop (mkF m 138 #[.val (.int i0), .val (.int i1), .val (.int i2), .val (.int i3), .val (.int kk), .val (.int (Int32.ofNat aa)), .val (.int (Int32.ofNat nn)), .val (.int cc0), .val (.int cc1), .val (.int cc2), .val (.ref ar), .val (.ref so), .val (.int (own_rf kk (own_f3 cc0 cc1 cc2) nn aa)), .val (.int (own_b 0 aa nn)), .unset, .unset, .unset] [])) _
          refine XS.iconst X79.here hx rfl (hb hby at_138) ?_
          show Steps p.tables e below (T79.setTop (mkF m 139 #[.val (.int i0), .val (.int i1), .val (.int i2), .val (.int i3), .val (.int kk), .val (.int (Int32.ofNat aa)), .val (.int (Int32.ofNat nn)), .val (.int cc0), .val (.int cc1), .val (.int cc2), .val (.ref ar), .val (.ref so), .val (.int (own_rf kk (own_f3 cc0 cc1 cc2) nn aa)), .val (.int (own_b 0 aa nn)), .unset, .unset, .unset] [(.int (0 : Int32))])) _
          exact κ)
        exact ⟨0, (own_b0 ((own_ltN (i := 1) (by omega) (by omega)).mp hx1)).symm, pre89⟩
      · have pre90 := fun τ (κ : Steps p.tables e below (T79.setTop (mkF m 131 #[.val (.int i0), .val (.int i1), .val (.int i2), .val (.int i3), .val (.int kk), .val (.int (Int32.ofNat aa)), .val (.int (Int32.ofNat nn)), .val (.int cc0), .val (.int cc1), .val (.int cc2), .val (.ref ar), .val (.ref so), .val (.int (own_rf kk (own_f3 cc0 cc1 cc2) nn aa)), .val (.int (own_b 0 aa nn)), .unset, .unset, .unset] [(.int (Int32.ofNat nn)), (.int (1 : Int32))])) τ) => pre87 τ (by
          refine XS.icmpNo X79.here hx rfl (hb hby at_125) rfl (flt hx1).1 ?_
          show Steps p.tables e below (T79.setTop (mkF m 128 #[.val (.int i0), .val (.int i1), .val (.int i2), .val (.int i3), .val (.int kk), .val (.int (Int32.ofNat aa)), .val (.int (Int32.ofNat nn)), .val (.int cc0), .val (.int cc1), .val (.int cc2), .val (.ref ar), .val (.ref so), .val (.int (own_rf kk (own_f3 cc0 cc1 cc2) nn aa)), .val (.int (own_b 0 aa nn)), .unset, .unset, .unset] [])) _
          refine XS.iconst X79.here hx rfl (hb hby at_128) ?_
          refine XS.iload X79.here hx rfl (hb hby at_129) rfl ?_
          show Steps p.tables e below (T79.setTop (mkF m 131 #[.val (.int i0), .val (.int i1), .val (.int i2), .val (.int i3), .val (.int kk), .val (.int (Int32.ofNat aa)), .val (.int (Int32.ofNat nn)), .val (.int cc0), .val (.int cc1), .val (.int cc2), .val (.ref ar), .val (.ref so), .val (.int (own_rf kk (own_f3 cc0 cc1 cc2) nn aa)), .val (.int (own_b 0 aa nn)), .unset, .unset, .unset] [(.int (Int32.ofNat nn)), (.int (1 : Int32))])) _
          exact κ)
        by_cases hy1 : (1 : Int32) < (Int32.ofNat nn)
        · have pre91 := fun τ (κ : Steps p.tables e below (T79.setTop (mkF m 139 #[.val (.int i0), .val (.int i1), .val (.int i2), .val (.int i3), .val (.int kk), .val (.int (Int32.ofNat aa)), .val (.int (Int32.ofNat nn)), .val (.int cc0), .val (.int cc1), .val (.int cc2), .val (.ref ar), .val (.ref so), .val (.int (own_rf kk (own_f3 cc0 cc1 cc2) nn aa)), .val (.int (own_b 0 aa nn)), .unset, .unset, .unset] [(.int (1 : Int32))])) τ) => pre90 τ (by
            refine XS.icmpNo X79.here hx rfl (hb hby at_131) rfl (tlt hy1).2.1 ?_
            show Steps p.tables e below (T79.setTop (mkF m 134 #[.val (.int i0), .val (.int i1), .val (.int i2), .val (.int i3), .val (.int kk), .val (.int (Int32.ofNat aa)), .val (.int (Int32.ofNat nn)), .val (.int cc0), .val (.int cc1), .val (.int cc2), .val (.ref ar), .val (.ref so), .val (.int (own_rf kk (own_f3 cc0 cc1 cc2) nn aa)), .val (.int (own_b 0 aa nn)), .unset, .unset, .unset] [])) _
            refine XS.iconst X79.here hx rfl (hb hby at_134) ?_
            refine XS.goto X79.here hx rfl (pc0 := 135) (pc' := 139) rfl (hb hby at_135) (by decide) (by decide) ?_
            show Steps p.tables e below (T79.setTop (mkF m 139 #[.val (.int i0), .val (.int i1), .val (.int i2), .val (.int i3), .val (.int kk), .val (.int (Int32.ofNat aa)), .val (.int (Int32.ofNat nn)), .val (.int cc0), .val (.int cc1), .val (.int cc2), .val (.ref ar), .val (.ref so), .val (.int (own_rf kk (own_f3 cc0 cc1 cc2) nn aa)), .val (.int (own_b 0 aa nn)), .unset, .unset, .unset] [(.int (1 : Int32))])) _
            exact κ)
          exact ⟨1, (own_b1 (fun q => hx1 ((own_ltN (i := 1) (by omega) (by omega)).mpr q)) ((own_ltN (i := 1) (by omega) (by omega)).mp hy1)).symm, pre91⟩
        · have pre92 := fun τ (κ : Steps p.tables e below (T79.setTop (mkF m 139 #[.val (.int i0), .val (.int i1), .val (.int i2), .val (.int i3), .val (.int kk), .val (.int (Int32.ofNat aa)), .val (.int (Int32.ofNat nn)), .val (.int cc0), .val (.int cc1), .val (.int cc2), .val (.ref ar), .val (.ref so), .val (.int (own_rf kk (own_f3 cc0 cc1 cc2) nn aa)), .val (.int (own_b 0 aa nn)), .unset, .unset, .unset] [(.int (0 : Int32))])) τ) => pre90 τ (by
            refine XS.icmpYes X79.here hx rfl (pc0 := 131) (pc' := 138) rfl (hb hby at_131) rfl (flt hy1).2.1 (by decide) (by decide) ?_
            show Steps p.tables e below (T79.setTop (mkF m 138 #[.val (.int i0), .val (.int i1), .val (.int i2), .val (.int i3), .val (.int kk), .val (.int (Int32.ofNat aa)), .val (.int (Int32.ofNat nn)), .val (.int cc0), .val (.int cc1), .val (.int cc2), .val (.ref ar), .val (.ref so), .val (.int (own_rf kk (own_f3 cc0 cc1 cc2) nn aa)), .val (.int (own_b 0 aa nn)), .unset, .unset, .unset] [])) _
            refine XS.iconst X79.here hx rfl (hb hby at_138) ?_
            show Steps p.tables e below (T79.setTop (mkF m 139 #[.val (.int i0), .val (.int i1), .val (.int i2), .val (.int i3), .val (.int kk), .val (.int (Int32.ofNat aa)), .val (.int (Int32.ofNat nn)), .val (.int cc0), .val (.int cc1), .val (.int cc2), .val (.ref ar), .val (.ref so), .val (.int (own_rf kk (own_f3 cc0 cc1 cc2) nn aa)), .val (.int (own_b 0 aa nn)), .unset, .unset, .unset] [(.int (0 : Int32))])) _
            exact κ)
          exact ⟨0, (own_b0' (fun q => hy1 ((own_ltN (i := 1) (by omega) (by omega)).mpr q))).symm, pre92⟩
    subst hb1
    have pre93 := fun τ (κ : Steps p.tables e below (T79.setTop (mkF m 144 #[.val (.int i0), .val (.int i1), .val (.int i2), .val (.int i3), .val (.int kk), .val (.int (Int32.ofNat aa)), .val (.int (Int32.ofNat nn)), .val (.int cc0), .val (.int cc1), .val (.int cc2), .val (.ref ar), .val (.ref so), .val (.int (own_rf kk (own_f3 cc0 cc1 cc2) nn aa)), .val (.int (own_b 0 aa nn)), .val (.int (own_b 1 aa nn)), .unset, .unset] [(.int (Int32.ofNat aa)), (.int (2 : Int32))])) τ) => pre88 τ (by
      refine XS.istore X79.here hx rfl (hb hby at_139) rfl (l' := #[.val (.int i0), .val (.int i1), .val (.int i2), .val (.int i3), .val (.int kk), .val (.int (Int32.ofNat aa)), .val (.int (Int32.ofNat nn)), .val (.int cc0), .val (.int cc1), .val (.int cc2), .val (.ref ar), .val (.ref so), .val (.int (own_rf kk (own_f3 cc0 cc1 cc2) nn aa)), .val (.int (own_b 0 aa nn)), .val (.int (own_b 1 aa nn)), .unset, .unset]) rfl ?_
      show Steps p.tables e below (T79.setTop (mkF m 141 #[.val (.int i0), .val (.int i1), .val (.int i2), .val (.int i3), .val (.int kk), .val (.int (Int32.ofNat aa)), .val (.int (Int32.ofNat nn)), .val (.int cc0), .val (.int cc1), .val (.int cc2), .val (.ref ar), .val (.ref so), .val (.int (own_rf kk (own_f3 cc0 cc1 cc2) nn aa)), .val (.int (own_b 0 aa nn)), .val (.int (own_b 1 aa nn)), .unset, .unset] [])) _
      refine XS.iconst X79.here hx rfl (hb hby at_141) ?_
      refine XS.iload X79.here hx rfl (hb hby at_142) rfl ?_
      show Steps p.tables e below (T79.setTop (mkF m 144 #[.val (.int i0), .val (.int i1), .val (.int i2), .val (.int i3), .val (.int kk), .val (.int (Int32.ofNat aa)), .val (.int (Int32.ofNat nn)), .val (.int cc0), .val (.int cc1), .val (.int cc2), .val (.ref ar), .val (.ref so), .val (.int (own_rf kk (own_f3 cc0 cc1 cc2) nn aa)), .val (.int (own_b 0 aa nn)), .val (.int (own_b 1 aa nn)), .unset, .unset] [(.int (Int32.ofNat aa)), (.int (2 : Int32))])) _
      exact κ)
    obtain ⟨b2, hb2, pre94⟩ : ∃ (b2 : Int32), (b2 = own_b 2 aa nn) ∧ ∀ τ, Steps p.tables e below (T79.setTop (mkF m 158 #[.val (.int i0), .val (.int i1), .val (.int i2), .val (.int i3), .val (.int kk), .val (.int (Int32.ofNat aa)), .val (.int (Int32.ofNat nn)), .val (.int cc0), .val (.int cc1), .val (.int cc2), .val (.ref ar), .val (.ref so), .val (.int (own_rf kk (own_f3 cc0 cc1 cc2) nn aa)), .val (.int (own_b 0 aa nn)), .val (.int (own_b 1 aa nn)), .unset, .unset] [(.int b2)])) τ → Steps p.tables e below (s₁.setTop (entryFrame m #[(.int i0), (.int i1), (.int i2), (.int i3)] maxLocals)) τ := by
      by_cases hx2 : (2 : Int32) < (Int32.ofNat aa)
      · have pre95 := fun τ (κ : Steps p.tables e below (T79.setTop (mkF m 158 #[.val (.int i0), .val (.int i1), .val (.int i2), .val (.int i3), .val (.int kk), .val (.int (Int32.ofNat aa)), .val (.int (Int32.ofNat nn)), .val (.int cc0), .val (.int cc1), .val (.int cc2), .val (.ref ar), .val (.ref so), .val (.int (own_rf kk (own_f3 cc0 cc1 cc2) nn aa)), .val (.int (own_b 0 aa nn)), .val (.int (own_b 1 aa nn)), .unset, .unset] [(.int (0 : Int32))])) τ) => pre93 τ (by
          refine XS.icmpYes X79.here hx rfl (pc0 := 144) (pc' := 157) rfl (hb hby at_144) rfl (tlt hx2).1 (by decide) (by decide) ?_
          show Steps p.tables e below (T79.setTop (mkF m 157 #[.val (.int i0), .val (.int i1), .val (.int i2), .val (.int i3), .val (.int kk), .val (.int (Int32.ofNat aa)), .val (.int (Int32.ofNat nn)), .val (.int cc0), .val (.int cc1), .val (.int cc2), .val (.ref ar), .val (.ref so), .val (.int (own_rf kk (own_f3 cc0 cc1 cc2) nn aa)), .val (.int (own_b 0 aa nn)), .val (.int (own_b 1 aa nn)), .unset, .unset] [])) _
          refine XS.iconst X79.here hx rfl (hb hby at_157) ?_
          show Steps p.tables e below (T79.setTop (mkF m 158 #[.val (.int i0), .val (.int i1), .val (.int i2), .val (.int i3), .val (.int kk), .val (.int (Int32.ofNat aa)), .val (.int (Int32.ofNat nn)), .val (.int cc0), .val (.int cc1), .val (.int cc2), .val (.ref ar), .val (.ref so), .val (.int (own_rf kk (own_f3 cc0 cc1 cc2) nn aa)), .val (.int (own_b 0 aa nn)), .val (.int (own_b 1 aa nn)), .unset, .unset] [(.int (0 : Int32))])) _
          exact κ)
        exact ⟨0, (own_b0 ((own_ltN (i := 2) (by omega) (by omega)).mp hx2)).symm, pre95⟩
      · have pre96 := fun τ (κ : Steps p.tables e below (T79.setTop (mkF m 150 #[.val (.int i0), .val (.int i1), .val (.int i2), .val (.int i3), .val (.int kk), .val (.int (Int32.ofNat aa)), .val (.int (Int32.ofNat nn)), .val (.int cc0), .val (.int cc1), .val (.int cc2), .val (.ref ar), .val (.ref so), .val (.int (own_rf kk (own_f3 cc0 cc1 cc2) nn aa)), .val (.int (own_b 0 aa nn)), .val (.int (own_b 1 aa nn)), .unset, .unset] [(.int (Int32.ofNat nn)), (.int (2 : Int32))])) τ) => pre93 τ (by
          refine XS.icmpNo X79.here hx rfl (hb hby at_144) rfl (flt hx2).1 ?_
          show Steps p.tables e below (T79.setTop (mkF m 147 #[.val (.int i0), .val (.int i1), .val (.int i2), .val (.int i3), .val (.int kk), .val (.int (Int32.ofNat aa)), .val (.int (Int32.ofNat nn)), .val (.int cc0), .val (.int cc1), .val (.int cc2), .val (.ref ar), .val (.ref so), .val (.int (own_rf kk (own_f3 cc0 cc1 cc2) nn aa)), .val (.int (own_b 0 aa nn)), .val (.int (own_b 1 aa nn)), .unset, .unset] [])) _
          refine XS.iconst X79.here hx rfl (hb hby at_147) ?_
          refine XS.iload X79.here hx rfl (hb hby at_148) rfl ?_
          show Steps p.tables e below (T79.setTop (mkF m 150 #[.val (.int i0), .val (.int i1), .val (.int i2), .val (.int i3), .val (.int kk), .val (.int (Int32.ofNat aa)), .val (.int (Int32.ofNat nn)), .val (.int cc0), .val (.int cc1), .val (.int cc2), .val (.ref ar), .val (.ref so), .val (.int (own_rf kk (own_f3 cc0 cc1 cc2) nn aa)), .val (.int (own_b 0 aa nn)), .val (.int (own_b 1 aa nn)), .unset, .unset] [(.int (Int32.ofNat nn)), (.int (2 : Int32))])) _
          exact κ)
        by_cases hy2 : (2 : Int32) < (Int32.ofNat nn)
        · have pre97 := fun τ (κ : Steps p.tables e below (T79.setTop (mkF m 158 #[.val (.int i0), .val (.int i1), .val (.int i2), .val (.int i3), .val (.int kk), .val (.int (Int32.ofNat aa)), .val (.int (Int32.ofNat nn)), .val (.int cc0), .val (.int cc1), .val (.int cc2), .val (.ref ar), .val (.ref so), .val (.int (own_rf kk (own_f3 cc0 cc1 cc2) nn aa)), .val (.int (own_b 0 aa nn)), .val (.int (own_b 1 aa nn)), .unset, .unset] [(.int (1 : Int32))])) τ) => pre96 τ (by
            refine XS.icmpNo X79.here hx rfl (hb hby at_150) rfl (tlt hy2).2.1 ?_
            show Steps p.tables e below (T79.setTop (mkF m 153 #[.val (.int i0), .val (.int i1), .val (.int i2), .val (.int i3), .val (.int kk), .val (.int (Int32.ofNat aa)), .val (.int (Int32.ofNat nn)), .val (.int cc0), .val (.int cc1), .val (.int cc2), .val (.ref ar), .val (.ref so), .val (.int (own_rf kk (own_f3 cc0 cc1 cc2) nn aa)), .val (.int (own_b 0 aa nn)), .val (.int (own_b 1 aa nn)), .unset, .unset] [])) _
            refine XS.iconst X79.here hx rfl (hb hby at_153) ?_
            refine XS.goto X79.here hx rfl (pc0 := 154) (pc' := 158) rfl (hb hby at_154) (by decide) (by decide) ?_
            show Steps p.tables e below (T79.setTop (mkF m 158 #[.val (.int i0), .val (.int i1), .val (.int i2), .val (.int i3), .val (.int kk), .val (.int (Int32.ofNat aa)), .val (.int (Int32.ofNat nn)), .val (.int cc0), .val (.int cc1), .val (.int cc2), .val (.ref ar), .val (.ref so), .val (.int (own_rf kk (own_f3 cc0 cc1 cc2) nn aa)), .val (.int (own_b 0 aa nn)), .val (.int (own_b 1 aa nn)), .unset, .unset] [(.int (1 : Int32))])) _
            exact κ)
          exact ⟨1, (own_b1 (fun q => hx2 ((own_ltN (i := 2) (by omega) (by omega)).mpr q)) ((own_ltN (i := 2) (by omega) (by omega)).mp hy2)).symm, pre97⟩
        · have pre98 := fun τ (κ : Steps p.tables e below (T79.setTop (mkF m 158 #[.val (.int i0), .val (.int i1), .val (.int i2), .val (.int i3), .val (.int kk), .val (.int (Int32.ofNat aa)), .val (.int (Int32.ofNat nn)), .val (.int cc0), .val (.int cc1), .val (.int cc2), .val (.ref ar), .val (.ref so), .val (.int (own_rf kk (own_f3 cc0 cc1 cc2) nn aa)), .val (.int (own_b 0 aa nn)), .val (.int (own_b 1 aa nn)), .unset, .unset] [(.int (0 : Int32))])) τ) => pre96 τ (by
            refine XS.icmpYes X79.here hx rfl (pc0 := 150) (pc' := 157) rfl (hb hby at_150) rfl (flt hy2).2.1 (by decide) (by decide) ?_
            show Steps p.tables e below (T79.setTop (mkF m 157 #[.val (.int i0), .val (.int i1), .val (.int i2), .val (.int i3), .val (.int kk), .val (.int (Int32.ofNat aa)), .val (.int (Int32.ofNat nn)), .val (.int cc0), .val (.int cc1), .val (.int cc2), .val (.ref ar), .val (.ref so), .val (.int (own_rf kk (own_f3 cc0 cc1 cc2) nn aa)), .val (.int (own_b 0 aa nn)), .val (.int (own_b 1 aa nn)), .unset, .unset] [])) _
            refine XS.iconst X79.here hx rfl (hb hby at_157) ?_
            show Steps p.tables e below (T79.setTop (mkF m 158 #[.val (.int i0), .val (.int i1), .val (.int i2), .val (.int i3), .val (.int kk), .val (.int (Int32.ofNat aa)), .val (.int (Int32.ofNat nn)), .val (.int cc0), .val (.int cc1), .val (.int cc2), .val (.ref ar), .val (.ref so), .val (.int (own_rf kk (own_f3 cc0 cc1 cc2) nn aa)), .val (.int (own_b 0 aa nn)), .val (.int (own_b 1 aa nn)), .unset, .unset] [(.int (0 : Int32))])) _
            exact κ)
          exact ⟨0, (own_b0' (fun q => hy2 ((own_ltN (i := 2) (by omega) (by omega)).mpr q))).symm, pre98⟩
    subst hb2
    have pre99 := fun τ (κ : Steps p.tables e below (T79.setTop (mkF m 164 #[.val (.int i0), .val (.int i1), .val (.int i2), .val (.int i3), .val (.int kk), .val (.int (Int32.ofNat aa)), .val (.int (Int32.ofNat nn)), .val (.int cc0), .val (.int cc1), .val (.int cc2), .val (.ref ar), .val (.ref so), .val (.int (own_rf kk (own_f3 cc0 cc1 cc2) nn aa)), .val (.int (own_b 0 aa nn)), .val (.int (own_b 1 aa nn)), .val (.int (own_b 2 aa nn)), .unset] [(.int (Int32.ofNat nn)), (.int (Int32.ofNat aa))])) τ) => pre94 τ (by
      refine XS.istore X79.here hx rfl (hb hby at_158) rfl (l' := #[.val (.int i0), .val (.int i1), .val (.int i2), .val (.int i3), .val (.int kk), .val (.int (Int32.ofNat aa)), .val (.int (Int32.ofNat nn)), .val (.int cc0), .val (.int cc1), .val (.int cc2), .val (.ref ar), .val (.ref so), .val (.int (own_rf kk (own_f3 cc0 cc1 cc2) nn aa)), .val (.int (own_b 0 aa nn)), .val (.int (own_b 1 aa nn)), .val (.int (own_b 2 aa nn)), .unset]) rfl ?_
      show Steps p.tables e below (T79.setTop (mkF m 160 #[.val (.int i0), .val (.int i1), .val (.int i2), .val (.int i3), .val (.int kk), .val (.int (Int32.ofNat aa)), .val (.int (Int32.ofNat nn)), .val (.int cc0), .val (.int cc1), .val (.int cc2), .val (.ref ar), .val (.ref so), .val (.int (own_rf kk (own_f3 cc0 cc1 cc2) nn aa)), .val (.int (own_b 0 aa nn)), .val (.int (own_b 1 aa nn)), .val (.int (own_b 2 aa nn)), .unset] [])) _
      refine XS.iload X79.here hx rfl (hb hby at_160) rfl ?_
      refine XS.iload X79.here hx rfl (hb hby at_162) rfl ?_
      show Steps p.tables e below (T79.setTop (mkF m 164 #[.val (.int i0), .val (.int i1), .val (.int i2), .val (.int i3), .val (.int kk), .val (.int (Int32.ofNat aa)), .val (.int (Int32.ofNat nn)), .val (.int cc0), .val (.int cc1), .val (.int cc2), .val (.ref ar), .val (.ref so), .val (.int (own_rf kk (own_f3 cc0 cc1 cc2) nn aa)), .val (.int (own_b 0 aa nn)), .val (.int (own_b 1 aa nn)), .val (.int (own_b 2 aa nn)), .unset] [(.int (Int32.ofNat nn)), (.int (Int32.ofNat aa))])) _
      exact κ)
    by_cases hA : (Int32.ofNat nn) < (Int32.ofNat aa)
    · have pre100 := fun τ (κ : Steps p.tables e below (T79.setTop (mkF m 321 #[.val (.int i0), .val (.int i1), .val (.int i2), .val (.int i3), .val (.int kk), .val (.int (Int32.ofNat aa)), .val (.int (Int32.ofNat nn)), .val (.int cc0), .val (.int cc1), .val (.int cc2), .val (.ref ar), .val (.ref so), .val (.int (own_rf kk (own_f3 cc0 cc1 cc2) nn aa)), .val (.int (own_b 0 aa nn)), .val (.int (own_b 1 aa nn)), .val (.int (own_b 2 aa nn)), .val (.int (0 : Int32))] [(.int (1 : Int32))])) τ) => pre99 τ (by
        refine XS.icmpYes X79.here hx rfl (pc0 := 164) (pc' := 306) rfl (hb hby at_164) rfl (tlt hA).2.2.1 (by decide) (by decide) ?_
        show Steps p.tables e below (T79.setTop (mkF m 306 #[.val (.int i0), .val (.int i1), .val (.int i2), .val (.int i3), .val (.int kk), .val (.int (Int32.ofNat aa)), .val (.int (Int32.ofNat nn)), .val (.int cc0), .val (.int cc1), .val (.int cc2), .val (.ref ar), .val (.ref so), .val (.int (own_rf kk (own_f3 cc0 cc1 cc2) nn aa)), .val (.int (own_b 0 aa nn)), .val (.int (own_b 1 aa nn)), .val (.int (own_b 2 aa nn)), .unset] [])) _
        refine XS.iconst X79.here hx rfl (hb hby at_306) ?_
        refine XS.istore X79.here hx rfl (hb hby at_307) rfl (l' := #[.val (.int i0), .val (.int i1), .val (.int i2), .val (.int i3), .val (.int kk), .val (.int (Int32.ofNat aa)), .val (.int (Int32.ofNat nn)), .val (.int cc0), .val (.int cc1), .val (.int cc2), .val (.ref ar), .val (.ref so), .val (.int (own_rf kk (own_f3 cc0 cc1 cc2) nn aa)), .val (.int (own_b 0 aa nn)), .val (.int (own_b 1 aa nn)), .val (.int (own_b 2 aa nn)), .val (.int (0 : Int32))]) rfl ?_
        show Steps p.tables e below (T79.setTop (mkF m 309 #[.val (.int i0), .val (.int i1), .val (.int i2), .val (.int i3), .val (.int kk), .val (.int (Int32.ofNat aa)), .val (.int (Int32.ofNat nn)), .val (.int cc0), .val (.int cc1), .val (.int cc2), .val (.ref ar), .val (.ref so), .val (.int (own_rf kk (own_f3 cc0 cc1 cc2) nn aa)), .val (.int (own_b 0 aa nn)), .val (.int (own_b 1 aa nn)), .val (.int (own_b 2 aa nn)), .val (.int (0 : Int32))] [])) _
        refine XS.iload X79.here hx rfl (hb hby at_309) rfl ?_
        refine XS.iload X79.here hx rfl (hb hby at_311) rfl ?_
        refine XS.icmpNo X79.here hx rfl (hb hby at_313) rfl (teq (own_rf0 fun q => absurd q.1 (by have := (own_ltN (by omega) (by omega)).mp hA; omega))).2 ?_
        show Steps p.tables e below (T79.setTop (mkF m 316 #[.val (.int i0), .val (.int i1), .val (.int i2), .val (.int i3), .val (.int kk), .val (.int (Int32.ofNat aa)), .val (.int (Int32.ofNat nn)), .val (.int cc0), .val (.int cc1), .val (.int cc2), .val (.ref ar), .val (.ref so), .val (.int (own_rf kk (own_f3 cc0 cc1 cc2) nn aa)), .val (.int (own_b 0 aa nn)), .val (.int (own_b 1 aa nn)), .val (.int (own_b 2 aa nn)), .val (.int (0 : Int32))] [])) _
        refine XS.iconst X79.here hx rfl (hb hby at_316) ?_
        refine XS.goto X79.here hx rfl (pc0 := 317) (pc' := 321) rfl (hb hby at_317) (by decide) (by decide) ?_
        show Steps p.tables e below (T79.setTop (mkF m 321 #[.val (.int i0), .val (.int i1), .val (.int i2), .val (.int i3), .val (.int kk), .val (.int (Int32.ofNat aa)), .val (.int (Int32.ofNat nn)), .val (.int cc0), .val (.int cc1), .val (.int cc2), .val (.ref ar), .val (.ref so), .val (.int (own_rf kk (own_f3 cc0 cc1 cc2) nn aa)), .val (.int (own_b 0 aa nn)), .val (.int (own_b 1 aa nn)), .val (.int (own_b 2 aa nn)), .val (.int (0 : Int32))] [(.int (1 : Int32))])) _
        exact κ)
      obtain ⟨fs, hr, hrun, hended, hEnd⟩ := Stand.leaveW (s := s) (vm₁ := s.vm) X79 hS0 (Nat.zero_le _) (v := some (.int (1 : Int32))) (fun h => by rw [Bd.returns] at h; cases h)
      refine ⟨_, _, pre100 _ ?_, hrun, hended, _, _, rfl, ?_, ⟨hEnd.1, hEnd.2.1, hEnd.2.2.1, hEnd.2.2.2.mono (by decide) (by decide)⟩⟩
      · exact retN X79 hx (t := .boolean) Bd.returns (by simp) (hb hby at_321) hr
      · show Q0 Z i0 i1 i2 i3 zc fm h0 n0 _ T79.heap _
        exact ⟨rfl, N79⟩
    · have hA' : aa ≤ nn := by have : ¬ nn < aa := fun q => hA ((own_ltN (i := nn) (j := aa) (by omega) (by omega)).mpr q); omega
      have pre101 := fun τ (κ : Steps p.tables e below (T79.setTop (mkF m 167 #[.val (.int i0), .val (.int i1), .val (.int i2), .val (.int i3), .val (.int kk), .val (.int (Int32.ofNat aa)), .val (.int (Int32.ofNat nn)), .val (.int cc0), .val (.int cc1), .val (.int cc2), .val (.ref ar), .val (.ref so), .val (.int (own_rf kk (own_f3 cc0 cc1 cc2) nn aa)), .val (.int (own_b 0 aa nn)), .val (.int (own_b 1 aa nn)), .val (.int (own_b 2 aa nn)), .unset] [])) τ) => pre99 τ (by
        refine XS.icmpNo X79.here hx rfl (hb hby at_164) rfl (flt hA).2.2.1 ?_
        show Steps p.tables e below (T79.setTop (mkF m 167 #[.val (.int i0), .val (.int i1), .val (.int i2), .val (.int i3), .val (.int kk), .val (.int (Int32.ofNat aa)), .val (.int (Int32.ofNat nn)), .val (.int cc0), .val (.int cc1), .val (.int cc2), .val (.ref ar), .val (.ref so), .val (.int (own_rf kk (own_f3 cc0 cc1 cc2) nn aa)), .val (.int (own_b 0 aa nn)), .val (.int (own_b 1 aa nn)), .val (.int (own_b 2 aa nn)), .unset] [])) _
        exact κ)
      by_cases hG0 : own_b 0 aa nn = 0 ∨ ¬ own_gd kk cc0 = 0
      · obtain ⟨T102, h102, lo102, X102, e102, N102, Z102, pre102⟩ : ∃ (T102 : State) (h102 : Heap) (lo102 : List Loc), Stand p l e room_1 s m #[(.int i0), (.int i1), (.int i2), (.int i3)] below meth c T102 lo102 (4) (55) ∧ T102.heap = h102 ∧ Fr n0 lo102 ∧ n0 ≤ h102.size ∧ ∀ τ, Steps p.tables e below (T102.setTop (mkF m 182 #[.val (.int i0), .val (.int i1), .val (.int i2), .val (.int i3), .val (.int kk), .val (.int (Int32.ofNat aa)), .val (.int (Int32.ofNat nn)), .val (.int cc0), .val (.int cc1), .val (.int cc2), .val (.ref ar), .val (.ref so), .val (.int (own_rf kk (own_f3 cc0 cc1 cc2) nn aa)), .val (.int (own_b 0 aa nn)), .val (.int (own_b 1 aa nn)), .val (.int (own_b 2 aa nn)), .unset] [])) τ → Steps p.tables e below (s₁.setTop (entryFrame m #[(.int i0), (.int i1), (.int i2), (.int i3)] maxLocals)) τ := by
          have pre103 := fun τ (κ : Steps p.tables e below (T79.setTop (mkF m 169 #[.val (.int i0), .val (.int i1), .val (.int i2), .val (.int i3), .val (.int kk), .val (.int (Int32.ofNat aa)), .val (.int (Int32.ofNat nn)), .val (.int cc0), .val (.int cc1), .val (.int cc2), .val (.ref ar), .val (.ref so), .val (.int (own_rf kk (own_f3 cc0 cc1 cc2) nn aa)), .val (.int (own_b 0 aa nn)), .val (.int (own_b 1 aa nn)), .val (.int (own_b 2 aa nn)), .unset] [(.int (own_b 0 aa nn))])) τ) => pre101 τ (by
            refine XS.iload X79.here hx rfl (hb hby at_167) rfl ?_
            show Steps p.tables e below (T79.setTop (mkF m 169 #[.val (.int i0), .val (.int i1), .val (.int i2), .val (.int i3), .val (.int kk), .val (.int (Int32.ofNat aa)), .val (.int (Int32.ofNat nn)), .val (.int cc0), .val (.int cc1), .val (.int cc2), .val (.ref ar), .val (.ref so), .val (.int (own_rf kk (own_f3 cc0 cc1 cc2) nn aa)), .val (.int (own_b 0 aa nn)), .val (.int (own_b 1 aa nn)), .val (.int (own_b 2 aa nn)), .unset] [(.int (own_b 0 aa nn))])) _
            exact κ)
          by_cases hu : (own_b 0 aa nn) = (0 : Int32)
          · have pre104 := fun τ (κ : Steps p.tables e below (T79.setTop (mkF m 182 #[.val (.int i0), .val (.int i1), .val (.int i2), .val (.int i3), .val (.int kk), .val (.int (Int32.ofNat aa)), .val (.int (Int32.ofNat nn)), .val (.int cc0), .val (.int cc1), .val (.int cc2), .val (.ref ar), .val (.ref so), .val (.int (own_rf kk (own_f3 cc0 cc1 cc2) nn aa)), .val (.int (own_b 0 aa nn)), .val (.int (own_b 1 aa nn)), .val (.int (own_b 2 aa nn)), .unset] [])) τ) => pre103 τ (by
              refine XS.ifYes X79.here hx rfl (pc0 := 169) (pc' := 182) rfl (hb hby at_169) rfl ((if0 _ _).trans (teq hu).1) (by decide) (by decide) ?_
              show Steps p.tables e below (T79.setTop (mkF m 182 #[.val (.int i0), .val (.int i1), .val (.int i2), .val (.int i3), .val (.int kk), .val (.int (Int32.ofNat aa)), .val (.int (Int32.ofNat nn)), .val (.int cc0), .val (.int cc1), .val (.int cc2), .val (.ref ar), .val (.ref so), .val (.int (own_rf kk (own_f3 cc0 cc1 cc2) nn aa)), .val (.int (own_b 0 aa nn)), .val (.int (own_b 1 aa nn)), .val (.int (own_b 2 aa nn)), .unset] [])) _
              exact κ)
            exact ⟨T79, T79.heap, _, X79, rfl, N79, Z79, pre104⟩
          · have pre105 := fun τ (κ : Steps p.tables e below (T79.setTop (mkF m 176 #[.val (.int i0), .val (.int i1), .val (.int i2), .val (.int i3), .val (.int kk), .val (.int (Int32.ofNat aa)), .val (.int (Int32.ofNat nn)), .val (.int cc0), .val (.int cc1), .val (.int cc2), .val (.ref ar), .val (.ref so), .val (.int (own_rf kk (own_f3 cc0 cc1 cc2) nn aa)), .val (.int (own_b 0 aa nn)), .val (.int (own_b 1 aa nn)), .val (.int (own_b 2 aa nn)), .unset] [(.int cc0), (.int kk)])) τ) => pre103 τ (by
              refine XS.ifNo X79.here hx rfl (hb hby at_169) rfl ((if0 _ _).trans (feq hu).1) ?_
              show Steps p.tables e below (T79.setTop (mkF m 172 #[.val (.int i0), .val (.int i1), .val (.int i2), .val (.int i3), .val (.int kk), .val (.int (Int32.ofNat aa)), .val (.int (Int32.ofNat nn)), .val (.int cc0), .val (.int cc1), .val (.int cc2), .val (.ref ar), .val (.ref so), .val (.int (own_rf kk (own_f3 cc0 cc1 cc2) nn aa)), .val (.int (own_b 0 aa nn)), .val (.int (own_b 1 aa nn)), .val (.int (own_b 2 aa nn)), .unset] [])) _
              refine XS.iload X79.here hx rfl (hb hby at_172) rfl ?_
              refine XS.iload X79.here hx rfl (hb hby at_174) rfl ?_
              show Steps p.tables e below (T79.setTop (mkF m 176 #[.val (.int i0), .val (.int i1), .val (.int i2), .val (.int i3), .val (.int kk), .val (.int (Int32.ofNat aa)), .val (.int (Int32.ofNat nn)), .val (.int cc0), .val (.int cc1), .val (.int cc2), .val (.ref ar), .val (.ref so), .val (.int (own_rf kk (own_f3 cc0 cc1 cc2) nn aa)), .val (.int (own_b 0 aa nn)), .val (.int (own_b 1 aa nn)), .val (.int (own_b 2 aa nn)), .unset] [(.int cc0), (.int kk)])) _
              exact κ)
            obtain ⟨_, _, ⟨T106, L106, k106, n106⟩, -, X106, ⟨Lc106, hQ106, l106, y106, z106⟩, st106⟩ := Jvm.LawKit.callS X79 hx (y := (⟨"com/example/huiqiao/huiqiao/iso8583/ContentRunsFromPinLaw", "good", "(IC)Z"⟩ : MethodName)) hown (mvT hZ (hw _ (List.mem_of_getElem? (i := 119) rfl))) (mvT hZ (hw _ (List.mem_of_getElem? (i := 120) rfl))) (mvT hZ (hw _ (List.mem_of_getElem? (i := 24) rfl))) (mvT hZ (hw _ (List.mem_of_getElem? (i := 121) rfl))) (by decide) (backOf (W := 0) (rm24 l Z a0 hw [] kk cc0 T79.heap n0 Z79) hZ (hw _ (List.mem_of_getElem? (i := 121) rfl)) (hw _ (List.mem_of_getElem? (i := 24) rfl)) (Nat.le_of_ble_eq_true rfl) (Nat.le_of_ble_eq_true rfl)) (g := (mkF m 176 #[.val (.int i0), .val (.int i1), .val (.int i2), .val (.int i3), .val (.int kk), .val (.int (Int32.ofNat aa)), .val (.int (Int32.ofNat nn)), .val (.int cc0), .val (.int cc1), .val (.int cc2), .val (.ref ar), .val (.ref so), .val (.int (own_rf kk (own_f3 cc0 cc1 cc2) nn aa)), .val (.int (own_b 0 aa nn)), .val (.int (own_b 1 aa nn)), .val (.int (own_b 2 aa nn)), .unset] [(.int cc0), (.int kk)])) rfl (by rw [hml]; rfl) (argsL := [(.int kk), (.int cc0)]) (rest := []) (lenOf pd_14 rfl) rfl (by show 2 * 0 + _ ≤ _; exact Nat.le_of_eq rfl) (hb hby at_176) (fun _ _ => ⟨rfl, rfl, (by decide : 4 + 0 ≤ _), (by decide : 55 + 0 ≤ _)⟩)
            dsimp only [Pt.U, Pt.locs, Pt.cells, Pt.slots] at X106 l106 y106 z106 st106 hQ106
            subst l106 y106 z106
            obtain ⟨rfl, Nq106, hh106⟩ := hQ106
            have Z106 : n0 ≤ T106.heap.size := by rw [hh106]; exact Z79
            have N106 := Fr.app N79 Nq106
            have pre107 := fun τ (κ : Steps p.tables e below (T106.setTop (mkF m 179 #[.val (.int i0), .val (.int i1), .val (.int i2), .val (.int i3), .val (.int kk), .val (.int (Int32.ofNat aa)), .val (.int (Int32.ofNat nn)), .val (.int cc0), .val (.int cc1), .val (.int cc2), .val (.ref ar), .val (.ref so), .val (.int (own_rf kk (own_f3 cc0 cc1 cc2) nn aa)), .val (.int (own_b 0 aa nn)), .val (.int (own_b 1 aa nn)), .val (.int (own_b 2 aa nn)), .unset] [(.int (own_gd kk cc0))])) τ) => pre105 τ (st106 _ κ)
            have pre108 := fun τ (κ : Steps p.tables e below (T106.setTop (mkF m 182 #[.val (.int i0), .val (.int i1), .val (.int i2), .val (.int i3), .val (.int kk), .val (.int (Int32.ofNat aa)), .val (.int (Int32.ofNat nn)), .val (.int cc0), .val (.int cc1), .val (.int cc2), .val (.ref ar), .val (.ref so), .val (.int (own_rf kk (own_f3 cc0 cc1 cc2) nn aa)), .val (.int (own_b 0 aa nn)), .val (.int (own_b 1 aa nn)), .val (.int (own_b 2 aa nn)), .unset] [])) τ) => pre107 τ (by
              refine XS.ifNo X106.here hx rfl (hb hby at_179) rfl ((if0 _ _).trans (feq (hG0.resolve_left hu)).1) ?_
              show Steps p.tables e below (T106.setTop (mkF m 182 #[.val (.int i0), .val (.int i1), .val (.int i2), .val (.int i3), .val (.int kk), .val (.int (Int32.ofNat aa)), .val (.int (Int32.ofNat nn)), .val (.int cc0), .val (.int cc1), .val (.int cc2), .val (.ref ar), .val (.ref so), .val (.int (own_rf kk (own_f3 cc0 cc1 cc2) nn aa)), .val (.int (own_b 0 aa nn)), .val (.int (own_b 1 aa nn)), .val (.int (own_b 2 aa nn)), .unset] [])) _
              exact κ)
            exact ⟨T106, T106.heap, _, X106, rfl, N106, Z106, pre108⟩
        by_cases hG1 : own_b 1 aa nn = 0 ∨ ¬ own_gd kk cc1 = 0
        · obtain ⟨T109, h109, lo109, X109, e109, N109, Z109, pre109⟩ : ∃ (T109 : State) (h109 : Heap) (lo109 : List Loc), Stand p l e room_1 s m #[(.int i0), (.int i1), (.int i2), (.int i3)] below meth c T109 lo109 (4) (55) ∧ T109.heap = h109 ∧ Fr n0 lo109 ∧ n0 ≤ h109.size ∧ ∀ τ, Steps p.tables e below (T109.setTop (mkF m 197 #[.val (.int i0), .val (.int i1), .val (.int i2), .val (.int i3), .val (.int kk), .val (.int (Int32.ofNat aa)), .val (.int (Int32.ofNat nn)), .val (.int cc0), .val (.int cc1), .val (.int cc2), .val (.ref ar), .val (.ref so), .val (.int (own_rf kk (own_f3 cc0 cc1 cc2) nn aa)), .val (.int (own_b 0 aa nn)), .val (.int (own_b 1 aa nn)), .val (.int (own_b 2 aa nn)), .unset] [])) τ → Steps p.tables e below (s₁.setTop (entryFrame m #[(.int i0), (.int i1), (.int i2), (.int i3)] maxLocals)) τ := by
            have pre110 := fun τ (κ : Steps p.tables e below (T102.setTop (mkF m 184 #[.val (.int i0), .val (.int i1), .val (.int i2), .val (.int i3), .val (.int kk), .val (.int (Int32.ofNat aa)), .val (.int (Int32.ofNat nn)), .val (.int cc0), .val (.int cc1), .val (.int cc2), .val (.ref ar), .val (.ref so), .val (.int (own_rf kk (own_f3 cc0 cc1 cc2) nn aa)), .val (.int (own_b 0 aa nn)), .val (.int (own_b 1 aa nn)), .val (.int (own_b 2 aa nn)), .unset] [(.int (own_b 1 aa nn))])) τ) => pre102 τ (by
              refine XS.iload X102.here hx rfl (hb hby at_182) rfl ?_
              show Steps p.tables e below (T102.setTop (mkF m 184 #[.val (.int i0), .val (.int i1), .val (.int i2), .val (.int i3), .val (.int kk), .val (.int (Int32.ofNat aa)), .val (.int (Int32.ofNat nn)), .val (.int cc0), .val (.int cc1), .val (.int cc2), .val (.ref ar), .val (.ref so), .val (.int (own_rf kk (own_f3 cc0 cc1 cc2) nn aa)), .val (.int (own_b 0 aa nn)), .val (.int (own_b 1 aa nn)), .val (.int (own_b 2 aa nn)), .unset] [(.int (own_b 1 aa nn))])) _
              exact κ)
            by_cases hu : (own_b 1 aa nn) = (0 : Int32)
            · have pre111 := fun τ (κ : Steps p.tables e below (T102.setTop (mkF m 197 #[.val (.int i0), .val (.int i1), .val (.int i2), .val (.int i3), .val (.int kk), .val (.int (Int32.ofNat aa)), .val (.int (Int32.ofNat nn)), .val (.int cc0), .val (.int cc1), .val (.int cc2), .val (.ref ar), .val (.ref so), .val (.int (own_rf kk (own_f3 cc0 cc1 cc2) nn aa)), .val (.int (own_b 0 aa nn)), .val (.int (own_b 1 aa nn)), .val (.int (own_b 2 aa nn)), .unset] [])) τ) => pre110 τ (by
                refine XS.ifYes X102.here hx rfl (pc0 := 184) (pc' := 197) rfl (hb hby at_184) rfl ((if0 _ _).trans (teq hu).1) (by decide) (by decide) ?_
                show Steps p.tables e below (T102.setTop (mkF m 197 #[.val (.int i0), .val (.int i1), .val (.int i2), .val (.int i3), .val (.int kk), .val (.int (Int32.ofNat aa)), .val (.int (Int32.ofNat nn)), .val (.int cc0), .val (.int cc1), .val (.int cc2), .val (.ref ar), .val (.ref so), .val (.int (own_rf kk (own_f3 cc0 cc1 cc2) nn aa)), .val (.int (own_b 0 aa nn)), .val (.int (own_b 1 aa nn)), .val (.int (own_b 2 aa nn)), .unset] [])) _
                exact κ)
              exact ⟨T102, h102, _, X102, e102, N102, Z102, pre111⟩
            · have pre112 := fun τ (κ : Steps p.tables e below (T102.setTop (mkF m 191 #[.val (.int i0), .val (.int i1), .val (.int i2), .val (.int i3), .val (.int kk), .val (.int (Int32.ofNat aa)), .val (.int (Int32.ofNat nn)), .val (.int cc0), .val (.int cc1), .val (.int cc2), .val (.ref ar), .val (.ref so), .val (.int (own_rf kk (own_f3 cc0 cc1 cc2) nn aa)), .val (.int (own_b 0 aa nn)), .val (.int (own_b 1 aa nn)), .val (.int (own_b 2 aa nn)), .unset] [(.int cc1), (.int kk)])) τ) => pre110 τ (by
                refine XS.ifNo X102.here hx rfl (hb hby at_184) rfl ((if0 _ _).trans (feq hu).1) ?_
                show Steps p.tables e below (T102.setTop (mkF m 187 #[.val (.int i0), .val (.int i1), .val (.int i2), .val (.int i3), .val (.int kk), .val (.int (Int32.ofNat aa)), .val (.int (Int32.ofNat nn)), .val (.int cc0), .val (.int cc1), .val (.int cc2), .val (.ref ar), .val (.ref so), .val (.int (own_rf kk (own_f3 cc0 cc1 cc2) nn aa)), .val (.int (own_b 0 aa nn)), .val (.int (own_b 1 aa nn)), .val (.int (own_b 2 aa nn)), .unset] [])) _
                refine XS.iload X102.here hx rfl (hb hby at_187) rfl ?_
                refine XS.iload X102.here hx rfl (hb hby at_189) rfl ?_
                show Steps p.tables e below (T102.setTop (mkF m 191 #[.val (.int i0), .val (.int i1), .val (.int i2), .val (.int i3), .val (.int kk), .val (.int (Int32.ofNat aa)), .val (.int (Int32.ofNat nn)), .val (.int cc0), .val (.int cc1), .val (.int cc2), .val (.ref ar), .val (.ref so), .val (.int (own_rf kk (own_f3 cc0 cc1 cc2) nn aa)), .val (.int (own_b 0 aa nn)), .val (.int (own_b 1 aa nn)), .val (.int (own_b 2 aa nn)), .unset] [(.int cc1), (.int kk)])) _
                exact κ)
              obtain ⟨_, _, ⟨T113, L113, k113, n113⟩, -, X113, ⟨Lc113, hQ113, l113, y113, z113⟩, st113⟩ := Jvm.LawKit.callS X102 hx (y := (⟨"com/example/huiqiao/huiqiao/iso8583/ContentRunsFromPinLaw", "good", "(IC)Z"⟩ : MethodName)) hown (mvT hZ (hw _ (List.mem_of_getElem? (i := 119) rfl))) (mvT hZ (hw _ (List.mem_of_getElem? (i := 120) rfl))) (mvT hZ (hw _ (List.mem_of_getElem? (i := 24) rfl))) (mvT hZ (hw _ (List.mem_of_getElem? (i := 121) rfl))) (by decide) (backOf (W := 0) (rm24 l Z a0 hw [] kk cc1 h102 n0 Z102) hZ (hw _ (List.mem_of_getElem? (i := 121) rfl)) (hw _ (List.mem_of_getElem? (i := 24) rfl)) (Nat.le_of_ble_eq_true rfl) (Nat.le_of_ble_eq_true rfl)) (g := (mkF m 191 #[.val (.int i0), .val (.int i1), .val (.int i2), .val (.int i3), .val (.int kk), .val (.int (Int32.ofNat aa)), .val (.int (Int32.ofNat nn)), .val (.int cc0), .val (.int cc1), .val (.int cc2), .val (.ref ar), .val (.ref so), .val (.int (own_rf kk (own_f3 cc0 cc1 cc2) nn aa)), .val (.int (own_b 0 aa nn)), .val (.int (own_b 1 aa nn)), .val (.int (own_b 2 aa nn)), .unset] [(.int cc1), (.int kk)])) rfl (by rw [hml]; rfl) (argsL := [(.int kk), (.int cc1)]) (rest := []) (lenOf pd_14 rfl) rfl (by show 2 * 0 + _ ≤ _; exact Nat.le_of_eq rfl) (hb hby at_191) (fun _ _ => ⟨rfl, e102, (by decide : 4 + 0 ≤ _), (by decide : 55 + 0 ≤ _)⟩)
              dsimp only [Pt.U, Pt.locs, Pt.cells, Pt.slots] at X113 l113 y113 z113 st113 hQ113
              subst l113 y113 z113
              obtain ⟨rfl, Nq113, hh113⟩ := hQ113
              have Z113 : n0 ≤ T113.heap.size := by rw [hh113]; exact Z102
              have N113 := Fr.app N102 Nq113
              have pre114 := fun τ (κ : Steps p.tables e below (T113.setTop (mkF m 194 #[.val (.int i0), .val (.int i1), .val (.int i2), .val (.int i3), .val (.int kk), .val (.int (Int32.ofNat aa)), .val (.int (Int32.ofNat nn)), .val (.int cc0), .val (.int cc1), .val (.int cc2), .val (.ref ar), .val (.ref so), .val (.int (own_rf kk (own_f3 cc0 cc1 cc2) nn aa)), .val (.int (own_b 0 aa nn)), .val (.int (own_b 1 aa nn)), .val (.int (own_b 2 aa nn)), .unset] [(.int (own_gd kk cc1))])) τ) => pre112 τ (st113 _ κ)
              have pre115 := fun τ (κ : Steps p.tables e below (T113.setTop (mkF m 197 #[.val (.int i0), .val (.int i1), .val (.int i2), .val (.int i3), .val (.int kk), .val (.int (Int32.ofNat aa)), .val (.int (Int32.ofNat nn)), .val (.int cc0), .val (.int cc1), .val (.int cc2), .val (.ref ar), .val (.ref so), .val (.int (own_rf kk (own_f3 cc0 cc1 cc2) nn aa)), .val (.int (own_b 0 aa nn)), .val (.int (own_b 1 aa nn)), .val (.int (own_b 2 aa nn)), .unset] [])) τ) => pre114 τ (by
                refine XS.ifNo X113.here hx rfl (hb hby at_194) rfl ((if0 _ _).trans (feq (hG1.resolve_left hu)).1) ?_
                show Steps p.tables e below (T113.setTop (mkF m 197 #[.val (.int i0), .val (.int i1), .val (.int i2), .val (.int i3), .val (.int kk), .val (.int (Int32.ofNat aa)), .val (.int (Int32.ofNat nn)), .val (.int cc0), .val (.int cc1), .val (.int cc2), .val (.ref ar), .val (.ref so), .val (.int (own_rf kk (own_f3 cc0 cc1 cc2) nn aa)), .val (.int (own_b 0 aa nn)), .val (.int (own_b 1 aa nn)), .val (.int (own_b 2 aa nn)), .unset] [])) _
                exact κ)
              exact ⟨T113, T113.heap, _, X113, rfl, N113, Z113, pre115⟩
          by_cases hG2 : own_b 2 aa nn = 0 ∨ ¬ own_gd kk cc2 = 0
          · obtain ⟨T116, h116, lo116, X116, e116, N116, Z116, pre116⟩ : ∃ (T116 : State) (h116 : Heap) (lo116 : List Loc), Stand p l e room_1 s m #[(.int i0), (.int i1), (.int i2), (.int i3)] below meth c T116 lo116 (4) (55) ∧ T116.heap = h116 ∧ Fr n0 lo116 ∧ n0 ≤ h116.size ∧ ∀ τ, Steps p.tables e below (T116.setTop (mkF m 212 #[.val (.int i0), .val (.int i1), .val (.int i2), .val (.int i3), .val (.int kk), .val (.int (Int32.ofNat aa)), .val (.int (Int32.ofNat nn)), .val (.int cc0), .val (.int cc1), .val (.int cc2), .val (.ref ar), .val (.ref so), .val (.int (own_rf kk (own_f3 cc0 cc1 cc2) nn aa)), .val (.int (own_b 0 aa nn)), .val (.int (own_b 1 aa nn)), .val (.int (own_b 2 aa nn)), .unset] [])) τ → Steps p.tables e below (s₁.setTop (entryFrame m #[(.int i0), (.int i1), (.int i2), (.int i3)] maxLocals)) τ := by
              have pre117 := fun τ (κ : Steps p.tables e below (T109.setTop (mkF m 199 #[.val (.int i0), .val (.int i1), .val (.int i2), .val (.int i3), .val (.int kk), .val (.int (Int32.ofNat aa)), .val (.int (Int32.ofNat nn)), .val (.int cc0), .val (.int cc1), .val (.int cc2), .val (.ref ar), .val (.ref so), .val (.int (own_rf kk (own_f3 cc0 cc1 cc2) nn aa)), .val (.int (own_b 0 aa nn)), .val (.int (own_b 1 aa nn)), .val (.int (own_b 2 aa nn)), .unset] [(.int (own_b 2 aa nn))])) τ) => pre109 τ (by
                refine XS.iload X109.here hx rfl (hb hby at_197) rfl ?_
                show Steps p.tables e below (T109.setTop (mkF m 199 #[.val (.int i0), .val (.int i1), .val (.int i2), .val (.int i3), .val (.int kk), .val (.int (Int32.ofNat aa)), .val (.int (Int32.ofNat nn)), .val (.int cc0), .val (.int cc1), .val (.int cc2), .val (.ref ar), .val (.ref so), .val (.int (own_rf kk (own_f3 cc0 cc1 cc2) nn aa)), .val (.int (own_b 0 aa nn)), .val (.int (own_b 1 aa nn)), .val (.int (own_b 2 aa nn)), .unset] [(.int (own_b 2 aa nn))])) _
                exact κ)
              by_cases hu : (own_b 2 aa nn) = (0 : Int32)
              · have pre118 := fun τ (κ : Steps p.tables e below (T109.setTop (mkF m 212 #[.val (.int i0), .val (.int i1), .val (.int i2), .val (.int i3), .val (.int kk), .val (.int (Int32.ofNat aa)), .val (.int (Int32.ofNat nn)), .val (.int cc0), .val (.int cc1), .val (.int cc2), .val (.ref ar), .val (.ref so), .val (.int (own_rf kk (own_f3 cc0 cc1 cc2) nn aa)), .val (.int (own_b 0 aa nn)), .val (.int (own_b 1 aa nn)), .val (.int (own_b 2 aa nn)), .unset] [])) τ) => pre117 τ (by
                  refine XS.ifYes X109.here hx rfl (pc0 := 199) (pc' := 212) rfl (hb hby at_199) rfl ((if0 _ _).trans (teq hu).1) (by decide) (by decide) ?_
                  show Steps p.tables e below (T109.setTop (mkF m 212 #[.val (.int i0), .val (.int i1), .val (.int i2), .val (.int i3), .val (.int kk), .val (.int (Int32.ofNat aa)), .val (.int (Int32.ofNat nn)), .val (.int cc0), .val (.int cc1), .val (.int cc2), .val (.ref ar), .val (.ref so), .val (.int (own_rf kk (own_f3 cc0 cc1 cc2) nn aa)), .val (.int (own_b 0 aa nn)), .val (.int (own_b 1 aa nn)), .val (.int (own_b 2 aa nn)), .unset] [])) _
                  exact κ)
                exact ⟨T109, h109, _, X109, e109, N109, Z109, pre118⟩
              · have pre119 := fun τ (κ : Steps p.tables e below (T109.setTop (mkF m 206 #[.val (.int i0), .val (.int i1), .val (.int i2), .val (.int i3), .val (.int kk), .val (.int (Int32.ofNat aa)), .val (.int (Int32.ofNat nn)), .val (.int cc0), .val (.int cc1), .val (.int cc2), .val (.ref ar), .val (.ref so), .val (.int (own_rf kk (own_f3 cc0 cc1 cc2) nn aa)), .val (.int (own_b 0 aa nn)), .val (.int (own_b 1 aa nn)), .val (.int (own_b 2 aa nn)), .unset] [(.int cc2), (.int kk)])) τ) => pre117 τ (by
                  refine XS.ifNo X109.here hx rfl (hb hby at_199) rfl ((if0 _ _).trans (feq hu).1) ?_
                  show Steps p.tables e below (T109.setTop (mkF m 202 #[.val (.int i0), .val (.int i1), .val (.int i2), .val (.int i3), .val (.int kk), .val (.int (Int32.ofNat aa)), .val (.int (Int32.ofNat nn)), .val (.int cc0), .val (.int cc1), .val (.int cc2), .val (.ref ar), .val (.ref so), .val (.int (own_rf kk (own_f3 cc0 cc1 cc2) nn aa)), .val (.int (own_b 0 aa nn)), .val (.int (own_b 1 aa nn)), .val (.int (own_b 2 aa nn)), .unset] [])) _
                  refine XS.iload X109.here hx rfl (hb hby at_202) rfl ?_
                  refine XS.iload X109.here hx rfl (hb hby at_204) rfl ?_
                  show Steps p.tables e below (T109.setTop (mkF m 206 #[.val (.int i0), .val (.int i1), .val (.int i2), .val (.int i3), .val (.int kk), .val (.int (Int32.ofNat aa)), .val (.int (Int32.ofNat nn)), .val (.int cc0), .val (.int cc1), .val (.int cc2), .val (.ref ar), .val (.ref so), .val (.int (own_rf kk (own_f3 cc0 cc1 cc2) nn aa)), .val (.int (own_b 0 aa nn)), .val (.int (own_b 1 aa nn)), .val (.int (own_b 2 aa nn)), .unset] [(.int cc2), (.int kk)])) _
                  exact κ)
                obtain ⟨_, _, ⟨T120, L120, k120, n120⟩, -, X120, ⟨Lc120, hQ120, l120, y120, z120⟩, st120⟩ := Jvm.LawKit.callS X109 hx (y := (⟨"com/example/huiqiao/huiqiao/iso8583/ContentRunsFromPinLaw", "good", "(IC)Z"⟩ : MethodName)) hown (mvT hZ (hw _ (List.mem_of_getElem? (i := 119) rfl))) (mvT hZ (hw _ (List.mem_of_getElem? (i := 120) rfl))) (mvT hZ (hw _ (List.mem_of_getElem? (i := 24) rfl))) (mvT hZ (hw _ (List.mem_of_getElem? (i := 121) rfl))) (by decide) (backOf (W := 0) (rm24 l Z a0 hw [] kk cc2 h109 n0 Z109) hZ (hw _ (List.mem_of_getElem? (i := 121) rfl)) (hw _ (List.mem_of_getElem? (i := 24) rfl)) (Nat.le_of_ble_eq_true rfl) (Nat.le_of_ble_eq_true rfl)) (g := (mkF m 206 #[.val (.int i0), .val (.int i1), .val (.int i2), .val (.int i3), .val (.int kk), .val (.int (Int32.ofNat aa)), .val (.int (Int32.ofNat nn)), .val (.int cc0), .val (.int cc1), .val (.int cc2), .val (.ref ar), .val (.ref so), .val (.int (own_rf kk (own_f3 cc0 cc1 cc2) nn aa)), .val (.int (own_b 0 aa nn)), .val (.int (own_b 1 aa nn)), .val (.int (own_b 2 aa nn)), .unset] [(.int cc2), (.int kk)])) rfl (by rw [hml]; rfl) (argsL := [(.int kk), (.int cc2)]) (rest := []) (lenOf pd_14 rfl) rfl (by show 2 * 0 + _ ≤ _; exact Nat.le_of_eq rfl) (hb hby at_206) (fun _ _ => ⟨rfl, e109, (by decide : 4 + 0 ≤ _), (by decide : 55 + 0 ≤ _)⟩)
                dsimp only [Pt.U, Pt.locs, Pt.cells, Pt.slots] at X120 l120 y120 z120 st120 hQ120
                subst l120 y120 z120
                obtain ⟨rfl, Nq120, hh120⟩ := hQ120
                have Z120 : n0 ≤ T120.heap.size := by rw [hh120]; exact Z109
                have N120 := Fr.app N109 Nq120
                have pre121 := fun τ (κ : Steps p.tables e below (T120.setTop (mkF m 209 #[.val (.int i0), .val (.int i1), .val (.int i2), .val (.int i3), .val (.int kk), .val (.int (Int32.ofNat aa)), .val (.int (Int32.ofNat nn)), .val (.int cc0), .val (.int cc1), .val (.int cc2), .val (.ref ar), .val (.ref so), .val (.int (own_rf kk (own_f3 cc0 cc1 cc2) nn aa)), .val (.int (own_b 0 aa nn)), .val (.int (own_b 1 aa nn)), .val (.int (own_b 2 aa nn)), .unset] [(.int (own_gd kk cc2))])) τ) => pre119 τ (st120 _ κ)
                have pre122 := fun τ (κ : Steps p.tables e below (T120.setTop (mkF m 212 #[.val (.int i0), .val (.int i1), .val (.int i2), .val (.int i3), .val (.int kk), .val (.int (Int32.ofNat aa)), .val (.int (Int32.ofNat nn)), .val (.int cc0), .val (.int cc1), .val (.int cc2), .val (.ref ar), .val (.ref so), .val (.int (own_rf kk (own_f3 cc0 cc1 cc2) nn aa)), .val (.int (own_b 0 aa nn)), .val (.int (own_b 1 aa nn)), .val (.int (own_b 2 aa nn)), .unset] [])) τ) => pre121 τ (by
                  refine XS.ifNo X120.here hx rfl (hb hby at_209) rfl ((if0 _ _).trans (feq (hG2.resolve_left hu)).1) ?_
                  show Steps p.tables e below (T120.setTop (mkF m 212 #[.val (.int i0), .val (.int i1), .val (.int i2), .val (.int i3), .val (.int kk), .val (.int (Int32.ofNat aa)), .val (.int (Int32.ofNat nn)), .val (.int cc0), .val (.int cc1), .val (.int cc2), .val (.ref ar), .val (.ref so), .val (.int (own_rf kk (own_f3 cc0 cc1 cc2) nn aa)), .val (.int (own_b 0 aa nn)), .val (.int (own_b 1 aa nn)), .val (.int (own_b 2 aa nn)), .unset] [])) _
                  exact κ)
                exact ⟨T120, T120.heap, _, X120, rfl, N120, Z120, pre122⟩
            by_cases hP0 : own_b 0 aa nn = 0 ∨ own_b 1 aa nn = 0 ∨ own_pd kk cc0 = 0 ∨ own_inR kk cc1 = 0
            · obtain ⟨T123, h123, lo123, X123, e123, N123, Z123, pre123⟩ : ∃ (T123 : State) (h123 : Heap) (lo123 : List Loc), Stand p l e room_1 s m #[(.int i0), (.int i1), (.int i2), (.int i3)] below meth c T123 lo123 (4) (55) ∧ T123.heap = h123 ∧ Fr n0 lo123 ∧ n0 ≤ h123.size ∧ ∀ τ, Steps p.tables e below (T123.setTop (mkF m 242 #[.val (.int i0), .val (.int i1), .val (.int i2), .val (.int i3), .val (.int kk), .val (.int (Int32.ofNat aa)), .val (.int (Int32.ofNat nn)), .val (.int cc0), .val (.int cc1), .val (.int cc2), .val (.ref ar), .val (.ref so), .val (.int (own_rf kk (own_f3 cc0 cc1 cc2) nn aa)), .val (.int (own_b 0 aa nn)), .val (.int (own_b 1 aa nn)), .val (.int (own_b 2 aa nn)), .unset] [])) τ → Steps p.tables e below (s₁.setTop (entryFrame m #[(.int i0), (.int i1), (.int i2), (.int i3)] maxLocals)) τ := by
                have pre124 := fun τ (κ : Steps p.tables e below (T116.setTop (mkF m 214 #[.val (.int i0), .val (.int i1), .val (.int i2), .val (.int i3), .val (.int kk), .val (.int (Int32.ofNat aa)), .val (.int (Int32.ofNat nn)), .val (.int cc0), .val (.int cc1), .val (.int cc2), .val (.ref ar), .val (.ref so), .val (.int (own_rf kk (own_f3 cc0 cc1 cc2) nn aa)), .val (.int (own_b 0 aa nn)), .val (.int (own_b 1 aa nn)), .val (.int (own_b 2 aa nn)), .unset] [(.int (own_b 0 aa nn))])) τ) => pre116 τ (by
                  refine XS.iload X116.here hx rfl (hb hby at_212) rfl ?_
                  show Steps p.tables e below (T116.setTop (mkF m 214 #[.val (.int i0), .val (.int i1), .val (.int i2), .val (.int i3), .val (.int kk), .val (.int (Int32.ofNat aa)), .val (.int (Int32.ofNat nn)), .val (.int cc0), .val (.int cc1), .val (.int cc2), .val (.ref ar), .val (.ref so), .val (.int (own_rf kk (own_f3 cc0 cc1 cc2) nn aa)), .val (.int (own_b 0 aa nn)), .val (.int (own_b 1 aa nn)), .val (.int (own_b 2 aa nn)), .unset] [(.int (own_b 0 aa nn))])) _
                  exact κ)
                by_cases hu : (own_b 0 aa nn) = (0 : Int32)
                · have pre125 := fun τ (κ : Steps p.tables e below (T116.setTop (mkF m 242 #[.val (.int i0), .val (.int i1), .val (.int i2), .val (.int i3), .val (.int kk), .val (.int (Int32.ofNat aa)), .val (.int (Int32.ofNat nn)), .val (.int cc0), .val (.int cc1), .val (.int cc2), .val (.ref ar), .val (.ref so), .val (.int (own_rf kk (own_f3 cc0 cc1 cc2) nn aa)), .val (.int (own_b 0 aa nn)), .val (.int (own_b 1 aa nn)), .val (.int (own_b 2 aa nn)), .unset] [])) τ) => pre124 τ (by
                    refine XS.ifYes X116.here hx rfl (pc0 := 214) (pc' := 242) rfl (hb hby at_214) rfl ((if0 _ _).trans (teq hu).1) (by decide) (by decide) ?_
                    show Steps p.tables e below (T116.setTop (mkF m 242 #[.val (.int i0), .val (.int i1), .val (.int i2), .val (.int i3), .val (.int kk), .val (.int (Int32.ofNat aa)), .val (.int (Int32.ofNat nn)), .val (.int cc0), .val (.int cc1), .val (.int cc2), .val (.ref ar), .val (.ref so), .val (.int (own_rf kk (own_f3 cc0 cc1 cc2) nn aa)), .val (.int (own_b 0 aa nn)), .val (.int (own_b 1 aa nn)), .val (.int (own_b 2 aa nn)), .unset] [])) _
                    exact κ)
                  exact ⟨T116, h116, _, X116, e116, N116, Z116, pre125⟩
                · have pre126 := fun τ (κ : Steps p.tables e below (T116.setTop (mkF m 219 #[.val (.int i0), .val (.int i1), .val (.int i2), .val (.int i3), .val (.int kk), .val (.int (Int32.ofNat aa)), .val (.int (Int32.ofNat nn)), .val (.int cc0), .val (.int cc1), .val (.int cc2), .val (.ref ar), .val (.ref so), .val (.int (own_rf kk (own_f3 cc0 cc1 cc2) nn aa)), .val (.int (own_b 0 aa nn)), .val (.int (own_b 1 aa nn)), .val (.int (own_b 2 aa nn)), .unset] [(.int (own_b 1 aa nn))])) τ) => pre124 τ (by
                    refine XS.ifNo X116.here hx rfl (hb hby at_214) rfl ((if0 _ _).trans (feq hu).1) ?_
                    show Steps p.tables e below (T116.setTop (mkF m 217 #[.val (.int i0), .val (.int i1), .val (.int i2), .val (.int i3), .val (.int kk), .val (.int (Int32.ofNat aa)), .val (.int (Int32.ofNat nn)), .val (.int cc0), .val (.int cc1), .val (.int cc2), .val (.ref ar), .val (.ref so), .val (.int (own_rf kk (own_f3 cc0 cc1 cc2) nn aa)), .val (.int (own_b 0 aa nn)), .val (.int (own_b 1 aa nn)), .val (.int (own_b 2 aa nn)), .unset] [])) _
                    refine XS.iload X116.here hx rfl (hb hby at_217) rfl ?_
                    show Steps p.tables e below (T116.setTop (mkF m 219 #[.val (.int i0), .val (.int i1), .val (.int i2), .val (.int i3), .val (.int kk), .val (.int (Int32.ofNat aa)), .val (.int (Int32.ofNat nn)), .val (.int cc0), .val (.int cc1), .val (.int cc2), .val (.ref ar), .val (.ref so), .val (.int (own_rf kk (own_f3 cc0 cc1 cc2) nn aa)), .val (.int (own_b 0 aa nn)), .val (.int (own_b 1 aa nn)), .val (.int (own_b 2 aa nn)), .unset] [(.int (own_b 1 aa nn))])) _
                    exact κ)
                  by_cases hv : (own_b 1 aa nn) = (0 : Int32)
                  · have pre127 := fun τ (κ : Steps p.tables e below (T116.setTop (mkF m 242 #[.val (.int i0), .val (.int i1), .val (.int i2), .val (.int i3), .val (.int kk), .val (.int (Int32.ofNat aa)), .val (.int (Int32.ofNat nn)), .val (.int cc0), .val (.int cc1), .val (.int cc2), .val (.ref ar), .val (.ref so), .val (.int (own_rf kk (own_f3 cc0 cc1 cc2) nn aa)), .val (.int (own_b 0 aa nn)), .val (.int (own_b 1 aa nn)), .val (.int (own_b 2 aa nn)), .unset] [])) τ) => pre126 τ (by
                      refine XS.ifYes X116.here hx rfl (pc0 := 219) (pc' := 242) rfl (hb hby at_219) rfl ((if0 _ _).trans (teq hv).1) (by decide) (by decide) ?_
                      show Steps p.tables e below (T116.setTop (mkF m 242 #[.val (.int i0), .val (.int i1), .val (.int i2), .val (.int i3), .val (.int kk), .val (.int (Int32.ofNat aa)), .val (.int (Int32.ofNat nn)), .val (.int cc0), .val (.int cc1), .val (.int cc2), .val (.ref ar), .val (.ref so), .val (.int (own_rf kk (own_f3 cc0 cc1 cc2) nn aa)), .val (.int (own_b 0 aa nn)), .val (.int (own_b 1 aa nn)), .val (.int (own_b 2 aa nn)), .unset] [])) _
                      exact κ)
                    exact ⟨T116, h116, _, X116, e116, N116, Z116, pre127⟩
                  · have pre128 := fun τ (κ : Steps p.tables e below (T116.setTop (mkF m 226 #[.val (.int i0), .val (.int i1), .val (.int i2), .val (.int i3), .val (.int kk), .val (.int (Int32.ofNat aa)), .val (.int (Int32.ofNat nn)), .val (.int cc0), .val (.int cc1), .val (.int cc2), .val (.ref ar), .val (.ref so), .val (.int (own_rf kk (own_f3 cc0 cc1 cc2) nn aa)), .val (.int (own_b 0 aa nn)), .val (.int (own_b 1 aa nn)), .val (.int (own_b 2 aa nn)), .unset] [(.int cc0), (.int kk)])) τ) => pre126 τ (by
                      refine XS.ifNo X116.here hx rfl (hb hby at_219) rfl ((if0 _ _).trans (feq hv).1) ?_
                      show Steps p.tables e below (T116.setTop (mkF m 222 #[.val (.int i0), .val (.int i1), .val (.int i2), .val (.int i3), .val (.int kk), .val (.int (Int32.ofNat aa)), .val (.int (Int32.ofNat nn)), .val (.int cc0), .val (.int cc1), .val (.int cc2), .val (.ref ar), .val (.ref so), .val (.int (own_rf kk (own_f3 cc0 cc1 cc2) nn aa)), .val (.int (own_b 0 aa nn)), .val (.int (own_b 1 aa nn)), .val (.int (own_b 2 aa nn)), .unset] [])) _
                      refine XS.iload X116.here hx rfl (hb hby at_222) rfl ?_
                      refine XS.iload X116.here hx rfl (hb hby at_224) rfl ?_
                      show Steps p.tables e below (T116.setTop (mkF m 226 #[.val (.int i0), .val (.int i1), .val (.int i2), .val (.int i3), .val (.int kk), .val (.int (Int32.ofNat aa)), .val (.int (Int32.ofNat nn)), .val (.int cc0), .val (.int cc1), .val (.int cc2), .val (.ref ar), .val (.ref so), .val (.int (own_rf kk (own_f3 cc0 cc1 cc2) nn aa)), .val (.int (own_b 0 aa nn)), .val (.int (own_b 1 aa nn)), .val (.int (own_b 2 aa nn)), .unset] [(.int cc0), (.int kk)])) _
                      exact κ)
                    obtain ⟨_, _, ⟨T129, L129, k129, n129⟩, -, X129, ⟨Lc129, hQ129, l129, y129, z129⟩, st129⟩ := Jvm.LawKit.callS X116 hx (y := (⟨"com/example/huiqiao/huiqiao/iso8583/ContentRunsFromPinLaw", "padOnly", "(IC)Z"⟩ : MethodName)) hown (mvT hZ (hw _ (List.mem_of_getElem? (i := 125) rfl))) (mvT hZ (hw _ (List.mem_of_getElem? (i := 126) rfl))) (mvT hZ (hw _ (List.mem_of_getElem? (i := 24) rfl))) (mvT hZ (hw _ (List.mem_of_getElem? (i := 127) rfl))) (by decide) (backOf (W := 0) (rm26 l Z a0 hw [] kk cc0 h116 n0 Z116) hZ (hw _ (List.mem_of_getElem? (i := 127) rfl)) (hw _ (List.mem_of_getElem? (i := 24) rfl)) (Nat.le_of_ble_eq_true rfl) (Nat.le_of_ble_eq_true rfl)) (g := (mkF m 226 #[.val (.int i0), .val (.int i1), .val (.int i2), .val (.int i3), .val (.int kk), .val (.int (Int32.ofNat aa)), .val (.int (Int32.ofNat nn)), .val (.int cc0), .val (.int cc1), .val (.int cc2), .val (.ref ar), .val (.ref so), .val (.int (own_rf kk (own_f3 cc0 cc1 cc2) nn aa)), .val (.int (own_b 0 aa nn)), .val (.int (own_b 1 aa nn)), .val (.int (own_b 2 aa nn)), .unset] [(.int cc0), (.int kk)])) rfl (by rw [hml]; rfl) (argsL := [(.int kk), (.int cc0)]) (rest := []) (lenOf pd_14 rfl) rfl (by show 2 * 0 + _ ≤ _; exact Nat.le_of_eq rfl) (hb hby at_226) (fun _ _ => ⟨rfl, e116, (by decide : 4 + 0 ≤ _), (by decide : 55 + 0 ≤ _)⟩)
                    dsimp only [Pt.U, Pt.locs, Pt.cells, Pt.slots] at X129 l129 y129 z129 st129 hQ129
                    subst l129 y129 z129
                    obtain ⟨rfl, Nq129, hh129⟩ := hQ129
                    have Z129 : n0 ≤ T129.heap.size := by rw [hh129]; exact Z116
                    have N129 := Fr.app N116 Nq129
                    have pre130 := fun τ (κ : Steps p.tables e below (T129.setTop (mkF m 229 #[.val (.int i0), .val (.int i1), .val (.int i2), .val (.int i3), .val (.int kk), .val (.int (Int32.ofNat aa)), .val (.int (Int32.ofNat nn)), .val (.int cc0), .val (.int cc1), .val (.int cc2), .val (.ref ar), .val (.ref so), .val (.int (own_rf kk (own_f3 cc0 cc1 cc2) nn aa)), .val (.int (own_b 0 aa nn)), .val (.int (own_b 1 aa nn)), .val (.int (own_b 2 aa nn)), .unset] [(.int (own_pd kk cc0))])) τ) => pre128 τ (st129 _ κ)
                    by_cases hs : (own_pd kk cc0) = (0 : Int32)
                    · have pre131 := fun τ (κ : Steps p.tables e below (T129.setTop (mkF m 242 #[.val (.int i0), .val (.int i1), .val (.int i2), .val (.int i3), .val (.int kk), .val (.int (Int32.ofNat aa)), .val (.int (Int32.ofNat nn)), .val (.int cc0), .val (.int cc1), .val (.int cc2), .val (.ref ar), .val (.ref so), .val (.int (own_rf kk (own_f3 cc0 cc1 cc2) nn aa)), .val (.int (own_b 0 aa nn)), .val (.int (own_b 1 aa nn)), .val (.int (own_b 2 aa nn)), .unset] [])) τ) => pre130 τ (by
                        refine XS.ifYes X129.here hx rfl (pc0 := 229) (pc' := 242) rfl (hb hby at_229) rfl ((if0 _ _).trans (teq hs).1) (by decide) (by decide) ?_
                        show Steps p.tables e below (T129.setTop (mkF m 242 #[.val (.int i0), .val (.int i1), .val (.int i2), .val (.int i3), .val (.int kk), .val (.int (Int32.ofNat aa)), .val (.int (Int32.ofNat nn)), .val (.int cc0), .val (.int cc1), .val (.int cc2), .val (.ref ar), .val (.ref so), .val (.int (own_rf kk (own_f3 cc0 cc1 cc2) nn aa)), .val (.int (own_b 0 aa nn)), .val (.int (own_b 1 aa nn)), .val (.int (own_b 2 aa nn)), .unset] [])) _
                        exact κ)
                      exact ⟨T129, T129.heap, _, X129, rfl, N129, Z129, pre131⟩
                    · have pre132 := fun τ (κ : Steps p.tables e below (T129.setTop (mkF m 236 #[.val (.int i0), .val (.int i1), .val (.int i2), .val (.int i3), .val (.int kk), .val (.int (Int32.ofNat aa)), .val (.int (Int32.ofNat nn)), .val (.int cc0), .val (.int cc1), .val (.int cc2), .val (.ref ar), .val (.ref so), .val (.int (own_rf kk (own_f3 cc0 cc1 cc2) nn aa)), .val (.int (own_b 0 aa nn)), .val (.int (own_b 1 aa nn)), .val (.int (own_b 2 aa nn)), .unset] [(.int cc1), (.int kk)])) τ) => pre130 τ (by
                        refine XS.ifNo X129.here hx rfl (hb hby at_229) rfl ((if0 _ _).trans (feq hs).1) ?_
                        show Steps p.tables e below (T129.setTop (mkF m 232 #[.val (.int i0), .val (.int i1), .val (.int i2), .val (.int i3), .val (.int kk), .val (.int (Int32.ofNat aa)), .val (.int (Int32.ofNat nn)), .val (.int cc0), .val (.int cc1), .val (.int cc2), .val (.ref ar), .val (.ref so), .val (.int (own_rf kk (own_f3 cc0 cc1 cc2) nn aa)), .val (.int (own_b 0 aa nn)), .val (.int (own_b 1 aa nn)), .val (.int (own_b 2 aa nn)), .unset] [])) _
                        refine XS.iload X129.here hx rfl (hb hby at_232) rfl ?_
                        refine XS.iload X129.here hx rfl (hb hby at_234) rfl ?_
                        show Steps p.tables e below (T129.setTop (mkF m 236 #[.val (.int i0), .val (.int i1), .val (.int i2), .val (.int i3), .val (.int kk), .val (.int (Int32.ofNat aa)), .val (.int (Int32.ofNat nn)), .val (.int cc0), .val (.int cc1), .val (.int cc2), .val (.ref ar), .val (.ref so), .val (.int (own_rf kk (own_f3 cc0 cc1 cc2) nn aa)), .val (.int (own_b 0 aa nn)), .val (.int (own_b 1 aa nn)), .val (.int (own_b 2 aa nn)), .unset] [(.int cc1), (.int kk)])) _
                        exact κ)
                      obtain ⟨_, _, ⟨T133, L133, k133, n133⟩, -, X133, ⟨Lc133, hQ133, l133, y133, z133⟩, st133⟩ := Jvm.LawKit.callS X129 hx (y := (⟨"com/example/huiqiao/huiqiao/iso8583/ContentRunsFromPinLaw", "inRun", "(IC)Z"⟩ : MethodName)) hown (mvT hZ (hw _ (List.mem_of_getElem? (i := 122) rfl))) (mvT hZ (hw _ (List.mem_of_getElem? (i := 123) rfl))) (mvT hZ (hw _ (List.mem_of_getElem? (i := 24) rfl))) (mvT hZ (hw _ (List.mem_of_getElem? (i := 124) rfl))) (by decide) (backOf (W := 0) (rm25 l Z a0 hw [] kk cc1 T129.heap n0 Z129) hZ (hw _ (List.mem_of_getElem? (i := 124) rfl)) (hw _ (List.mem_of_getElem? (i := 24) rfl)) (Nat.le_of_ble_eq_true rfl) (Nat.le_of_ble_eq_true rfl)) (g := (mkF m 236 #[.val (.int i0), .val (.int i1), .val (.int i2), .val (.int i3), .val (.int kk), .val (.int (Int32.ofNat aa)), .val (.int (Int32.ofNat nn)), .val (.int cc0), .val (.int cc1), .val (.int cc2), .val (.ref ar), .val (.ref so), .val (.int (own_rf kk (own_f3 cc0 cc1 cc2) nn aa)), .val (.int (own_b 0 aa nn)), .val (.int (own_b 1 aa nn)), .val (.int (own_b 2 aa nn)), .unset] [(.int cc1), (.int kk)])) rfl (by rw [hml]; rfl) (argsL := [(.int kk), (.int cc1)]) (rest := []) (lenOf pd_14 rfl) rfl (by show 2 * 0 + _ ≤ _; exact Nat.le_of_eq rfl) (hb hby at_236) (fun _ _ => ⟨rfl, rfl, (by decide : 4 + 0 ≤ _), (by decide : 55 + 0 ≤ _)⟩)
                      dsimp only [Pt.U, Pt.locs, Pt.cells, Pt.slots] at X133 l133 y133 z133 st133 hQ133
                      subst l133 y133 z133
                      obtain ⟨rfl, Nq133, hh133⟩ := hQ133
                      have Z133 : n0 ≤ T133.heap.size := by rw [hh133]; exact Z129
                      have N133 := Fr.app N129 Nq133
                      have pre134 := fun τ (κ : Steps p.tables e below (T133.setTop (mkF m 239 #[.val (.int i0), .val (.int i1), .val (.int i2), .val (.int i3), .val (.int kk), .val (.int (Int32.ofNat aa)), .val (.int (Int32.ofNat nn)), .val (.int cc0), .val (.int cc1), .val (.int cc2), .val (.ref ar), .val (.ref so), .val (.int (own_rf kk (own_f3 cc0 cc1 cc2) nn aa)), .val (.int (own_b 0 aa nn)), .val (.int (own_b 1 aa nn)), .val (.int (own_b 2 aa nn)), .unset] [(.int (own_inR kk cc1))])) τ) => pre132 τ (st133 _ κ)
                      have pre135 := fun τ (κ : Steps p.tables e below (T133.setTop (mkF m 242 #[.val (.int i0), .val (.int i1), .val (.int i2), .val (.int i3), .val (.int kk), .val (.int (Int32.ofNat aa)), .val (.int (Int32.ofNat nn)), .val (.int cc0), .val (.int cc1), .val (.int cc2), .val (.ref ar), .val (.ref so), .val (.int (own_rf kk (own_f3 cc0 cc1 cc2) nn aa)), .val (.int (own_b 0 aa nn)), .val (.int (own_b 1 aa nn)), .val (.int (own_b 2 aa nn)), .unset] [])) τ) => pre134 τ (by
                        refine XS.ifNo X133.here hx rfl (hb hby at_239) rfl ((if0 _ _).trans (teq (((hP0.resolve_left hu).resolve_left hv).resolve_left hs)).2) ?_
                        show Steps p.tables e below (T133.setTop (mkF m 242 #[.val (.int i0), .val (.int i1), .val (.int i2), .val (.int i3), .val (.int kk), .val (.int (Int32.ofNat aa)), .val (.int (Int32.ofNat nn)), .val (.int cc0), .val (.int cc1), .val (.int cc2), .val (.ref ar), .val (.ref so), .val (.int (own_rf kk (own_f3 cc0 cc1 cc2) nn aa)), .val (.int (own_b 0 aa nn)), .val (.int (own_b 1 aa nn)), .val (.int (own_b 2 aa nn)), .unset] [])) _
                        exact κ)
                      exact ⟨T133, T133.heap, _, X133, rfl, N133, Z133, pre135⟩
              by_cases hP1 : own_b 0 aa nn = 0 ∨ own_b 2 aa nn = 0 ∨ own_pd kk cc0 = 0 ∨ own_inR kk cc2 = 0
              · obtain ⟨T136, h136, lo136, X136, e136, N136, Z136, pre136⟩ : ∃ (T136 : State) (h136 : Heap) (lo136 : List Loc), Stand p l e room_1 s m #[(.int i0), (.int i1), (.int i2), (.int i3)] below meth c T136 lo136 (4) (55) ∧ T136.heap = h136 ∧ Fr n0 lo136 ∧ n0 ≤ h136.size ∧ ∀ τ, Steps p.tables e below (T136.setTop (mkF m 272 #[.val (.int i0), .val (.int i1), .val (.int i2), .val (.int i3), .val (.int kk), .val (.int (Int32.ofNat aa)), .val (.int (Int32.ofNat nn)), .val (.int cc0), .val (.int cc1), .val (.int cc2), .val (.ref ar), .val (.ref so), .val (.int (own_rf kk (own_f3 cc0 cc1 cc2) nn aa)), .val (.int (own_b 0 aa nn)), .val (.int (own_b 1 aa nn)), .val (.int (own_b 2 aa nn)), .unset] [])) τ → Steps p.tables e below (s₁.setTop (entryFrame m #[(.int i0), (.int i1), (.int i2), (.int i3)] maxLocals)) τ := by
                  have pre137 := fun τ (κ : Steps p.tables e below (T123.setTop (mkF m 244 #[.val (.int i0), .val (.int i1), .val (.int i2), .val (.int i3), .val (.int kk), .val (.int (Int32.ofNat aa)), .val (.int (Int32.ofNat nn)), .val (.int cc0), .val (.int cc1), .val (.int cc2), .val (.ref ar), .val (.ref so), .val (.int (own_rf kk (own_f3 cc0 cc1 cc2) nn aa)), .val (.int (own_b 0 aa nn)), .val (.int (own_b 1 aa nn)), .val (.int (own_b 2 aa nn)), .unset] [(.int (own_b 0 aa nn))])) τ) => pre123 τ (by
                    refine XS.iload X123.here hx rfl (hb hby at_242) rfl ?_
                    show Steps p.tables e below (T123.setTop (mkF m 244 #[.val (.int i0), .val (.int i1), .val (.int i2), .val (.int i3), .val (.int kk), .val (.int (Int32.ofNat aa)), .val (.int (Int32.ofNat nn)), .val (.int cc0), .val (.int cc1), .val (.int cc2), .val (.ref ar), .val (.ref so), .val (.int (own_rf kk (own_f3 cc0 cc1 cc2) nn aa)), .val (.int (own_b 0 aa nn)), .val (.int (own_b 1 aa nn)), .val (.int (own_b 2 aa nn)), .unset] [(.int (own_b 0 aa nn))])) _
                    exact κ)
                  by_cases hu : (own_b 0 aa nn) = (0 : Int32)
                  · have pre138 := fun τ (κ : Steps p.tables e below (T123.setTop (mkF m 272 #[.val (.int i0), .val (.int i1), .val (.int i2), .val (.int i3), .val (.int kk), .val (.int (Int32.ofNat aa)), .val (.int (Int32.ofNat nn)), .val (.int cc0), .val (.int cc1), .val (.int cc2), .val (.ref ar), .val (.ref so), .val (.int (own_rf kk (own_f3 cc0 cc1 cc2) nn aa)), .val (.int (own_b 0 aa nn)), .val (.int (own_b 1 aa nn)), .val (.int (own_b 2 aa nn)), .unset] [])) τ) => pre137 τ (by
                      refine XS.ifYes X123.here hx rfl (pc0 := 244) (pc' := 272) rfl (hb hby at_244) rfl ((if0 _ _).trans (teq hu).1) (by decide) (by decide) ?_
                      show Steps p.tables e below (T123.setTop (mkF m 272 #[.val (.int i0), .val (.int i1), .val (.int i2), .val (.int i3), .val (.int kk), .val (.int (Int32.ofNat aa)), .val (.int (Int32.ofNat nn)), .val (.int cc0), .val (.int cc1), .val (.int cc2), .val (.ref ar), .val (.ref so), .val (.int (own_rf kk (own_f3 cc0 cc1 cc2) nn aa)), .val (.int (own_b 0 aa nn)), .val (.int (own_b 1 aa nn)), .val (.int (own_b 2 aa nn)), .unset] [])) _
                      exact κ)
                    exact ⟨T123, h123, _, X123, e123, N123, Z123, pre138⟩
                  · have pre139 := fun τ (κ : Steps p.tables e below (T123.setTop (mkF m 249 #[.val (.int i0), .val (.int i1), .val (.int i2), .val (.int i3), .val (.int kk), .val (.int (Int32.ofNat aa)), .val (.int (Int32.ofNat nn)), .val (.int cc0), .val (.int cc1), .val (.int cc2), .val (.ref ar), .val (.ref so), .val (.int (own_rf kk (own_f3 cc0 cc1 cc2) nn aa)), .val (.int (own_b 0 aa nn)), .val (.int (own_b 1 aa nn)), .val (.int (own_b 2 aa nn)), .unset] [(.int (own_b 2 aa nn))])) τ) => pre137 τ (by
                      refine XS.ifNo X123.here hx rfl (hb hby at_244) rfl ((if0 _ _).trans (feq hu).1) ?_
                      show Steps p.tables e below (T123.setTop (mkF m 247 #[.val (.int i0), .val (.int i1), .val (.int i2), .val (.int i3), .val (.int kk), .val (.int (Int32.ofNat aa)), .val (.int (Int32.ofNat nn)), .val (.int cc0), .val (.int cc1), .val (.int cc2), .val (.ref ar), .val (.ref so), .val (.int (own_rf kk (own_f3 cc0 cc1 cc2) nn aa)), .val (.int (own_b 0 aa nn)), .val (.int (own_b 1 aa nn)), .val (.int (own_b 2 aa nn)), .unset] [])) _
                      refine XS.iload X123.here hx rfl (hb hby at_247) rfl ?_
                      show Steps p.tables e below (T123.setTop (mkF m 249 #[.val (.int i0), .val (.int i1), .val (.int i2), .val (.int i3), .val (.int kk), .val (.int (Int32.ofNat aa)), .val (.int (Int32.ofNat nn)), .val (.int cc0), .val (.int cc1), .val (.int cc2), .val (.ref ar), .val (.ref so), .val (.int (own_rf kk (own_f3 cc0 cc1 cc2) nn aa)), .val (.int (own_b 0 aa nn)), .val (.int (own_b 1 aa nn)), .val (.int (own_b 2 aa nn)), .unset] [(.int (own_b 2 aa nn))])) _
                      exact κ)
                    by_cases hv : (own_b 2 aa nn) = (0 : Int32)
                    · have pre140 := fun τ (κ : Steps p.tables e below (T123.setTop (mkF m 272 #[.val (.int i0), .val (.int i1), .val (.int i2), .val (.int i3), .val (.int kk), .val (.int (Int32.ofNat aa)), .val (.int (Int32.ofNat nn)), .val (.int cc0), .val (.int cc1), .val (.int cc2), .val (.ref ar), .val (.ref so), .val (.int (own_rf kk (own_f3 cc0 cc1 cc2) nn aa)), .val (.int (own_b 0 aa nn)), .val (.int (own_b 1 aa nn)), .val (.int (own_b 2 aa nn)), .unset] [])) τ) => pre139 τ (by
                        refine XS.ifYes X123.here hx rfl (pc0 := 249) (pc' := 272) rfl (hb hby at_249) rfl ((if0 _ _).trans (teq hv).1) (by decide) (by decide) ?_
                        show Steps p.tables e below (T123.setTop (mkF m 272 #[.val (.int i0), .val (.int i1), .val (.int i2), .val (.int i3), .val (.int kk), .val (.int (Int32.ofNat aa)), .val (.int (Int32.ofNat nn)), .val (.int cc0), .val (.int cc1), .val (.int cc2), .val (.ref ar), .val (.ref so), .val (.int (own_rf kk (own_f3 cc0 cc1 cc2) nn aa)), .val (.int (own_b 0 aa nn)), .val (.int (own_b 1 aa nn)), .val (.int (own_b 2 aa nn)), .unset] [])) _
                        exact κ)
                      exact ⟨T123, h123, _, X123, e123, N123, Z123, pre140⟩
                    · have pre141 := fun τ (κ : Steps p.tables e below (T123.setTop (mkF m 256 #[.val (.int i0), .val (.int i1), .val (.int i2), .val (.int i3), .val (.int kk), .val (.int (Int32.ofNat aa)), .val (.int (Int32.ofNat nn)), .val (.int cc0), .val (.int cc1), .val (.int cc2), .val (.ref ar), .val (.ref so), .val (.int (own_rf kk (own_f3 cc0 cc1 cc2) nn aa)), .val (.int (own_b 0 aa nn)), .val (.int (own_b 1 aa nn)), .val (.int (own_b 2 aa nn)), .unset] [(.int cc0), (.int kk)])) τ) => pre139 τ (by
                        refine XS.ifNo X123.here hx rfl (hb hby at_249) rfl ((if0 _ _).trans (feq hv).1) ?_
                        show Steps p.tables e below (T123.setTop (mkF m 252 #[.val (.int i0), .val (.int i1), .val (.int i2), .val (.int i3), .val (.int kk), .val (.int (Int32.ofNat aa)), .val (.int (Int32.ofNat nn)), .val (.int cc0), .val (.int cc1), .val (.int cc2), .val (.ref ar), .val (.ref so), .val (.int (own_rf kk (own_f3 cc0 cc1 cc2) nn aa)), .val (.int (own_b 0 aa nn)), .val (.int (own_b 1 aa nn)), .val (.int (own_b 2 aa nn)), .unset] [])) _
                        refine XS.iload X123.here hx rfl (hb hby at_252) rfl ?_
                        refine XS.iload X123.here hx rfl (hb hby at_254) rfl ?_
                        show Steps p.tables e below (T123.setTop (mkF m 256 #[.val (.int i0), .val (.int i1), .val (.int i2), .val (.int i3), .val (.int kk), .val (.int (Int32.ofNat aa)), .val (.int (Int32.ofNat nn)), .val (.int cc0), .val (.int cc1), .val (.int cc2), .val (.ref ar), .val (.ref so), .val (.int (own_rf kk (own_f3 cc0 cc1 cc2) nn aa)), .val (.int (own_b 0 aa nn)), .val (.int (own_b 1 aa nn)), .val (.int (own_b 2 aa nn)), .unset] [(.int cc0), (.int kk)])) _
                        exact κ)
                      obtain ⟨_, _, ⟨T142, L142, k142, n142⟩, -, X142, ⟨Lc142, hQ142, l142, y142, z142⟩, st142⟩ := Jvm.LawKit.callS X123 hx (y := (⟨"com/example/huiqiao/huiqiao/iso8583/ContentRunsFromPinLaw", "padOnly", "(IC)Z"⟩ : MethodName)) hown (mvT hZ (hw _ (List.mem_of_getElem? (i := 125) rfl))) (mvT hZ (hw _ (List.mem_of_getElem? (i := 126) rfl))) (mvT hZ (hw _ (List.mem_of_getElem? (i := 24) rfl))) (mvT hZ (hw _ (List.mem_of_getElem? (i := 127) rfl))) (by decide) (backOf (W := 0) (rm26 l Z a0 hw [] kk cc0 h123 n0 Z123) hZ (hw _ (List.mem_of_getElem? (i := 127) rfl)) (hw _ (List.mem_of_getElem? (i := 24) rfl)) (Nat.le_of_ble_eq_true rfl) (Nat.le_of_ble_eq_true rfl)) (g := (mkF m 256 #[.val (.int i0), .val (.int i1), .val (.int i2), .val (.int i3), .val (.int kk), .val (.int (Int32.ofNat aa)), .val (.int (Int32.ofNat nn)), .val (.int cc0), .val (.int cc1), .val (.int cc2), .val (.ref ar), .val (.ref so), .val (.int (own_rf kk (own_f3 cc0 cc1 cc2) nn aa)), .val (.int (own_b 0 aa nn)), .val (.int (own_b 1 aa nn)), .val (.int (own_b 2 aa nn)), .unset] [(.int cc0), (.int kk)])) rfl (by rw [hml]; rfl) (argsL := [(.int kk), (.int cc0)]) (rest := []) (lenOf pd_14 rfl) rfl (by show 2 * 0 + _ ≤ _; exact Nat.le_of_eq rfl) (hb hby at_256) (fun _ _ => ⟨rfl, e123, (by decide : 4 + 0 ≤ _), (by decide : 55 + 0 ≤ _)⟩)
                      dsimp only [Pt.U, Pt.locs, Pt.cells, Pt.slots] at X142 l142 y142 z142 st142 hQ142
                      subst l142 y142 z142
                      obtain ⟨rfl, Nq142, hh142⟩ := hQ142
                      have Z142 : n0 ≤ T142.heap.size := by rw [hh142]; exact Z123
                      have N142 := Fr.app N123 Nq142
                      have pre143 := fun τ (κ : Steps p.tables e below (T142.setTop (mkF m 259 #[.val (.int i0), .val (.int i1), .val (.int i2), .val (.int i3), .val (.int kk), .val (.int (Int32.ofNat aa)), .val (.int (Int32.ofNat nn)), .val (.int cc0), .val (.int cc1), .val (.int cc2), .val (.ref ar), .val (.ref so), .val (.int (own_rf kk (own_f3 cc0 cc1 cc2) nn aa)), .val (.int (own_b 0 aa nn)), .val (.int (own_b 1 aa nn)), .val (.int (own_b 2 aa nn)), .unset] [(.int (own_pd kk cc0))])) τ) => pre141 τ (st142 _ κ)
                      by_cases hs : (own_pd kk cc0) = (0 : Int32)
                      · have pre144 := fun τ (κ : Steps p.tables e below (T142.setTop (mkF m 272 #[.val (.int i0), .val (.int i1), .val (.int i2), .val (.int i3), .val (.int kk), .val (.int (Int32.ofNat aa)), .val (.int (Int32.ofNat nn)), .val (.int cc0), .val (.int cc1), .val (.int cc2), .val (.ref ar), .val (.ref so), .val (.int (own_rf kk (own_f3 cc0 cc1 cc2) nn aa)), .val (.int (own_b 0 aa nn)), .val (.int (own_b 1 aa nn)), .val (.int (own_b 2 aa nn)), .unset] [])) τ) => pre143 τ (by
                          refine XS.ifYes X142.here hx rfl (pc0 := 259) (pc' := 272) rfl (hb hby at_259) rfl ((if0 _ _).trans (teq hs).1) (by decide) (by decide) ?_
                          show Steps p.tables e below (T142.setTop (mkF m 272 #[.val (.int i0), .val (.int i1), .val (.int i2), .val (.int i3), .val (.int kk), .val (.int (Int32.ofNat aa)), .val (.int (Int32.ofNat nn)), .val (.int cc0), .val (.int cc1), .val (.int cc2), .val (.ref ar), .val (.ref so), .val (.int (own_rf kk (own_f3 cc0 cc1 cc2) nn aa)), .val (.int (own_b 0 aa nn)), .val (.int (own_b 1 aa nn)), .val (.int (own_b 2 aa nn)), .unset] [])) _
                          exact κ)
                        exact ⟨T142, T142.heap, _, X142, rfl, N142, Z142, pre144⟩
                      · have pre145 := fun τ (κ : Steps p.tables e below (T142.setTop (mkF m 266 #[.val (.int i0), .val (.int i1), .val (.int i2), .val (.int i3), .val (.int kk), .val (.int (Int32.ofNat aa)), .val (.int (Int32.ofNat nn)), .val (.int cc0), .val (.int cc1), .val (.int cc2), .val (.ref ar), .val (.ref so), .val (.int (own_rf kk (own_f3 cc0 cc1 cc2) nn aa)), .val (.int (own_b 0 aa nn)), .val (.int (own_b 1 aa nn)), .val (.int (own_b 2 aa nn)), .unset] [(.int cc2), (.int kk)])) τ) => pre143 τ (by
                          refine XS.ifNo X142.here hx rfl (hb hby at_259) rfl ((if0 _ _).trans (feq hs).1) ?_
                          show Steps p.tables e below (T142.setTop (mkF m 262 #[.val (.int i0), .val (.int i1), .val (.int i2), .val (.int i3), .val (.int kk), .val (.int (Int32.ofNat aa)), .val (.int (Int32.ofNat nn)), .val (.int cc0), .val (.int cc1), .val (.int cc2), .val (.ref ar), .val (.ref so), .val (.int (own_rf kk (own_f3 cc0 cc1 cc2) nn aa)), .val (.int (own_b 0 aa nn)), .val (.int (own_b 1 aa nn)), .val (.int (own_b 2 aa nn)), .unset] [])) _
                          refine XS.iload X142.here hx rfl (hb hby at_262) rfl ?_
                          refine XS.iload X142.here hx rfl (hb hby at_264) rfl ?_
                          show Steps p.tables e below (T142.setTop (mkF m 266 #[.val (.int i0), .val (.int i1), .val (.int i2), .val (.int i3), .val (.int kk), .val (.int (Int32.ofNat aa)), .val (.int (Int32.ofNat nn)), .val (.int cc0), .val (.int cc1), .val (.int cc2), .val (.ref ar), .val (.ref so), .val (.int (own_rf kk (own_f3 cc0 cc1 cc2) nn aa)), .val (.int (own_b 0 aa nn)), .val (.int (own_b 1 aa nn)), .val (.int (own_b 2 aa nn)), .unset] [(.int cc2), (.int kk)])) _
                          exact κ)
                        obtain ⟨_, _, ⟨T146, L146, k146, n146⟩, -, X146, ⟨Lc146, hQ146, l146, y146, z146⟩, st146⟩ := Jvm.LawKit.callS X142 hx (y := (⟨"com/example/huiqiao/huiqiao/iso8583/ContentRunsFromPinLaw", "inRun", "(IC)Z"⟩ : MethodName)) hown (mvT hZ (hw _ (List.mem_of_getElem? (i := 122) rfl))) (mvT hZ (hw _ (List.mem_of_getElem? (i := 123) rfl))) (mvT hZ (hw _ (List.mem_of_getElem? (i := 24) rfl))) (mvT hZ (hw _ (List.mem_of_getElem? (i := 124) rfl))) (by decide) (backOf (W := 0) (rm25 l Z a0 hw [] kk cc2 T142.heap n0 Z142) hZ (hw _ (List.mem_of_getElem? (i := 124) rfl)) (hw _ (List.mem_of_getElem? (i := 24) rfl)) (Nat.le_of_ble_eq_true rfl) (Nat.le_of_ble_eq_true rfl)) (g := (mkF m 266 #[.val (.int i0), .val (.int i1), .val (.int i2), .val (.int i3), .val (.int kk), .val (.int (Int32.ofNat aa)), .val (.int (Int32.ofNat nn)), .val (.int cc0), .val (.int cc1), .val (.int cc2), .val (.ref ar), .val (.ref so), .val (.int (own_rf kk (own_f3 cc0 cc1 cc2) nn aa)), .val (.int (own_b 0 aa nn)), .val (.int (own_b 1 aa nn)), .val (.int (own_b 2 aa nn)), .unset] [(.int cc2), (.int kk)])) rfl (by rw [hml]; rfl) (argsL := [(.int kk), (.int cc2)]) (rest := []) (lenOf pd_14 rfl) rfl (by show 2 * 0 + _ ≤ _; exact Nat.le_of_eq rfl) (hb hby at_266) (fun _ _ => ⟨rfl, rfl, (by decide : 4 + 0 ≤ _), (by decide : 55 + 0 ≤ _)⟩)
                        dsimp only [Pt.U, Pt.locs, Pt.cells, Pt.slots] at X146 l146 y146 z146 st146 hQ146
                        subst l146 y146 z146
                        obtain ⟨rfl, Nq146, hh146⟩ := hQ146
                        have Z146 : n0 ≤ T146.heap.size := by rw [hh146]; exact Z142
                        have N146 := Fr.app N142 Nq146
                        have pre147 := fun τ (κ : Steps p.tables e below (T146.setTop (mkF m 269 #[.val (.int i0), .val (.int i1), .val (.int i2), .val (.int i3), .val (.int kk), .val (.int (Int32.ofNat aa)), .val (.int (Int32.ofNat nn)), .val (.int cc0), .val (.int cc1), .val (.int cc2), .val (.ref ar), .val (.ref so), .val (.int (own_rf kk (own_f3 cc0 cc1 cc2) nn aa)), .val (.int (own_b 0 aa nn)), .val (.int (own_b 1 aa nn)), .val (.int (own_b 2 aa nn)), .unset] [(.int (own_inR kk cc2))])) τ) => pre145 τ (st146 _ κ)
                        have pre148 := fun τ (κ : Steps p.tables e below (T146.setTop (mkF m 272 #[.val (.int i0), .val (.int i1), .val (.int i2), .val (.int i3), .val (.int kk), .val (.int (Int32.ofNat aa)), .val (.int (Int32.ofNat nn)), .val (.int cc0), .val (.int cc1), .val (.int cc2), .val (.ref ar), .val (.ref so), .val (.int (own_rf kk (own_f3 cc0 cc1 cc2) nn aa)), .val (.int (own_b 0 aa nn)), .val (.int (own_b 1 aa nn)), .val (.int (own_b 2 aa nn)), .unset] [])) τ) => pre147 τ (by
                          refine XS.ifNo X146.here hx rfl (hb hby at_269) rfl ((if0 _ _).trans (teq (((hP1.resolve_left hu).resolve_left hv).resolve_left hs)).2) ?_
                          show Steps p.tables e below (T146.setTop (mkF m 272 #[.val (.int i0), .val (.int i1), .val (.int i2), .val (.int i3), .val (.int kk), .val (.int (Int32.ofNat aa)), .val (.int (Int32.ofNat nn)), .val (.int cc0), .val (.int cc1), .val (.int cc2), .val (.ref ar), .val (.ref so), .val (.int (own_rf kk (own_f3 cc0 cc1 cc2) nn aa)), .val (.int (own_b 0 aa nn)), .val (.int (own_b 1 aa nn)), .val (.int (own_b 2 aa nn)), .unset] [])) _
                          exact κ)
                        exact ⟨T146, T146.heap, _, X146, rfl, N146, Z146, pre148⟩
                by_cases hP2 : own_b 1 aa nn = 0 ∨ own_b 2 aa nn = 0 ∨ own_pd kk cc1 = 0 ∨ own_inR kk cc2 = 0
                · obtain ⟨T149, h149, lo149, X149, e149, N149, Z149, pre149⟩ : ∃ (T149 : State) (h149 : Heap) (lo149 : List Loc), Stand p l e room_1 s m #[(.int i0), (.int i1), (.int i2), (.int i3)] below meth c T149 lo149 (4) (55) ∧ T149.heap = h149 ∧ Fr n0 lo149 ∧ n0 ≤ h149.size ∧ ∀ τ, Steps p.tables e below (T149.setTop (mkF m 302 #[.val (.int i0), .val (.int i1), .val (.int i2), .val (.int i3), .val (.int kk), .val (.int (Int32.ofNat aa)), .val (.int (Int32.ofNat nn)), .val (.int cc0), .val (.int cc1), .val (.int cc2), .val (.ref ar), .val (.ref so), .val (.int (own_rf kk (own_f3 cc0 cc1 cc2) nn aa)), .val (.int (own_b 0 aa nn)), .val (.int (own_b 1 aa nn)), .val (.int (own_b 2 aa nn)), .unset] [])) τ → Steps p.tables e below (s₁.setTop (entryFrame m #[(.int i0), (.int i1), (.int i2), (.int i3)] maxLocals)) τ := by
                    have pre150 := fun τ (κ : Steps p.tables e below (T136.setTop (mkF m 274 #[.val (.int i0), .val (.int i1), .val (.int i2), .val (.int i3), .val (.int kk), .val (.int (Int32.ofNat aa)), .val (.int (Int32.ofNat nn)), .val (.int cc0), .val (.int cc1), .val (.int cc2), .val (.ref ar), .val (.ref so), .val (.int (own_rf kk (own_f3 cc0 cc1 cc2) nn aa)), .val (.int (own_b 0 aa nn)), .val (.int (own_b 1 aa nn)), .val (.int (own_b 2 aa nn)), .unset] [(.int (own_b 1 aa nn))])) τ) => pre136 τ (by
                      refine XS.iload X136.here hx rfl (hb hby at_272) rfl ?_
                      show Steps p.tables e below (T136.setTop (mkF m 274 #[.val (.int i0), .val (.int i1), .val (.int i2), .val (.int i3), .val (.int kk), .val (.int (Int32.ofNat aa)), .val (.int (Int32.ofNat nn)), .val (.int cc0), .val (.int cc1), .val (.int cc2), .val (.ref ar), .val (.ref so), .val (.int (own_rf kk (own_f3 cc0 cc1 cc2) nn aa)), .val (.int (own_b 0 aa nn)), .val (.int (own_b 1 aa nn)), .val (.int (own_b 2 aa nn)), .unset] [(.int (own_b 1 aa nn))])) _
                      exact κ)
                    by_cases hu : (own_b 1 aa nn) = (0 : Int32)
                    · have pre151 := fun τ (κ : Steps p.tables e below (T136.setTop (mkF m 302 #[.val (.int i0), .val (.int i1), .val (.int i2), .val (.int i3), .val (.int kk), .val (.int (Int32.ofNat aa)), .val (.int (Int32.ofNat nn)), .val (.int cc0), .val (.int cc1), .val (.int cc2), .val (.ref ar), .val (.ref so), .val (.int (own_rf kk (own_f3 cc0 cc1 cc2) nn aa)), .val (.int (own_b 0 aa nn)), .val (.int (own_b 1 aa nn)), .val (.int (own_b 2 aa nn)), .unset] [])) τ) => pre150 τ (by
                        refine XS.ifYes X136.here hx rfl (pc0 := 274) (pc' := 302) rfl (hb hby at_274) rfl ((if0 _ _).trans (teq hu).1) (by decide) (by decide) ?_
                        show Steps p.tables e below (T136.setTop (mkF m 302 #[.val (.int i0), .val (.int i1), .val (.int i2), .val (.int i3), .val (.int kk), .val (.int (Int32.ofNat aa)), .val (.int (Int32.ofNat nn)), .val (.int cc0), .val (.int cc1), .val (.int cc2), .val (.ref ar), .val (.ref so), .val (.int (own_rf kk (own_f3 cc0 cc1 cc2) nn aa)), .val (.int (own_b 0 aa nn)), .val (.int (own_b 1 aa nn)), .val (.int (own_b 2 aa nn)), .unset] [])) _
                        exact κ)
                      exact ⟨T136, h136, _, X136, e136, N136, Z136, pre151⟩
                    · have pre152 := fun τ (κ : Steps p.tables e below (T136.setTop (mkF m 279 #[.val (.int i0), .val (.int i1), .val (.int i2), .val (.int i3), .val (.int kk), .val (.int (Int32.ofNat aa)), .val (.int (Int32.ofNat nn)), .val (.int cc0), .val (.int cc1), .val (.int cc2), .val (.ref ar), .val (.ref so), .val (.int (own_rf kk (own_f3 cc0 cc1 cc2) nn aa)), .val (.int (own_b 0 aa nn)), .val (.int (own_b 1 aa nn)), .val (.int (own_b 2 aa nn)), .unset] [(.int (own_b 2 aa nn))])) τ) => pre150 τ (by
                        refine XS.ifNo X136.here hx rfl (hb hby at_274) rfl ((if0 _ _).trans (feq hu).1) ?_
                        show Steps p.tables e below (T136.setTop (mkF m 277 #[.val (.int i0), .val (.int i1), .val (.int i2), .val (.int i3), .val (.int kk), .val (.int (Int32.ofNat aa)), .val (.int (Int32.ofNat nn)), .val (.int cc0), .val (.int cc1), .val (.int cc2), .val (.ref ar), .val (.ref so), .val (.int (own_rf kk (own_f3 cc0 cc1 cc2) nn aa)), .val (.int (own_b 0 aa nn)), .val (.int (own_b 1 aa nn)), .val (.int (own_b 2 aa nn)), .unset] [])) _
                        refine XS.iload X136.here hx rfl (hb hby at_277) rfl ?_
                        show Steps p.tables e below (T136.setTop (mkF m 279 #[.val (.int i0), .val (.int i1), .val (.int i2), .val (.int i3), .val (.int kk), .val (.int (Int32.ofNat aa)), .val (.int (Int32.ofNat nn)), .val (.int cc0), .val (.int cc1), .val (.int cc2), .val (.ref ar), .val (.ref so), .val (.int (own_rf kk (own_f3 cc0 cc1 cc2) nn aa)), .val (.int (own_b 0 aa nn)), .val (.int (own_b 1 aa nn)), .val (.int (own_b 2 aa nn)), .unset] [(.int (own_b 2 aa nn))])) _
                        exact κ)
                      by_cases hv : (own_b 2 aa nn) = (0 : Int32)
                      · have pre153 := fun τ (κ : Steps p.tables e below (T136.setTop (mkF m 302 #[.val (.int i0), .val (.int i1), .val (.int i2), .val (.int i3), .val (.int kk), .val (.int (Int32.ofNat aa)), .val (.int (Int32.ofNat nn)), .val (.int cc0), .val (.int cc1), .val (.int cc2), .val (.ref ar), .val (.ref so), .val (.int (own_rf kk (own_f3 cc0 cc1 cc2) nn aa)), .val (.int (own_b 0 aa nn)), .val (.int (own_b 1 aa nn)), .val (.int (own_b 2 aa nn)), .unset] [])) τ) => pre152 τ (by
                          refine XS.ifYes X136.here hx rfl (pc0 := 279) (pc' := 302) rfl (hb hby at_279) rfl ((if0 _ _).trans (teq hv).1) (by decide) (by decide) ?_
                          show Steps p.tables e below (T136.setTop (mkF m 302 #[.val (.int i0), .val (.int i1), .val (.int i2), .val (.int i3), .val (.int kk), .val (.int (Int32.ofNat aa)), .val (.int (Int32.ofNat nn)), .val (.int cc0), .val (.int cc1), .val (.int cc2), .val (.ref ar), .val (.ref so), .val (.int (own_rf kk (own_f3 cc0 cc1 cc2) nn aa)), .val (.int (own_b 0 aa nn)), .val (.int (own_b 1 aa nn)), .val (.int (own_b 2 aa nn)), .unset] [])) _
                          exact κ)
                        exact ⟨T136, h136, _, X136, e136, N136, Z136, pre153⟩
                      · have pre154 := fun τ (κ : Steps p.tables e below (T136.setTop (mkF m 286 #[.val (.int i0), .val (.int i1), .val (.int i2), .val (.int i3), .val (.int kk), .val (.int (Int32.ofNat aa)), .val (.int (Int32.ofNat nn)), .val (.int cc0), .val (.int cc1), .val (.int cc2), .val (.ref ar), .val (.ref so), .val (.int (own_rf kk (own_f3 cc0 cc1 cc2) nn aa)), .val (.int (own_b 0 aa nn)), .val (.int (own_b 1 aa nn)), .val (.int (own_b 2 aa nn)), .unset] [(.int cc1), (.int kk)])) τ) => pre152 τ (by
                          refine XS.ifNo X136.here hx rfl (hb hby at_279) rfl ((if0 _ _).trans (feq hv).1) ?_
                          show Steps p.tables e below (T136.setTop (mkF m 282 #[.val (.int i0), .val (.int i1), .val (.int i2), .val (.int i3), .val (.int kk), .val (.int (Int32.ofNat aa)), .val (.int (Int32.ofNat nn)), .val (.int cc0), .val (.int cc1), .val (.int cc2), .val (.ref ar), .val (.ref so), .val (.int (own_rf kk (own_f3 cc0 cc1 cc2) nn aa)), .val (.int (own_b 0 aa nn)), .val (.int (own_b 1 aa nn)), .val (.int (own_b 2 aa nn)), .unset] [])) _
                          refine XS.iload X136.here hx rfl (hb hby at_282) rfl ?_
                          refine XS.iload X136.here hx rfl (hb hby at_284) rfl ?_
                          show Steps p.tables e below (T136.setTop (mkF m 286 #[.val (.int i0), .val (.int i1), .val (.int i2), .val (.int i3), .val (.int kk), .val (.int (Int32.ofNat aa)), .val (.int (Int32.ofNat nn)), .val (.int cc0), .val (.int cc1), .val (.int cc2), .val (.ref ar), .val (.ref so), .val (.int (own_rf kk (own_f3 cc0 cc1 cc2) nn aa)), .val (.int (own_b 0 aa nn)), .val (.int (own_b 1 aa nn)), .val (.int (own_b 2 aa nn)), .unset] [(.int cc1), (.int kk)])) _
                          exact κ)
                        obtain ⟨_, _, ⟨T155, L155, k155, n155⟩, -, X155, ⟨Lc155, hQ155, l155, y155, z155⟩, st155⟩ := Jvm.LawKit.callS X136 hx (y := (⟨"com/example/huiqiao/huiqiao/iso8583/ContentRunsFromPinLaw", "padOnly", "(IC)Z"⟩ : MethodName)) hown (mvT hZ (hw _ (List.mem_of_getElem? (i := 125) rfl))) (mvT hZ (hw _ (List.mem_of_getElem? (i := 126) rfl))) (mvT hZ (hw _ (List.mem_of_getElem? (i := 24) rfl))) (mvT hZ (hw _ (List.mem_of_getElem? (i := 127) rfl))) (by decide) (backOf (W := 0) (rm26 l Z a0 hw [] kk cc1 h136 n0 Z136) hZ (hw _ (List.mem_of_getElem? (i := 127) rfl)) (hw _ (List.mem_of_getElem? (i := 24) rfl)) (Nat.le_of_ble_eq_true rfl) (Nat.le_of_ble_eq_true rfl)) (g := (mkF m 286 #[.val (.int i0), .val (.int i1), .val (.int i2), .val (.int i3), .val (.int kk), .val (.int (Int32.ofNat aa)), .val (.int (Int32.ofNat nn)), .val (.int cc0), .val (.int cc1), .val (.int cc2), .val (.ref ar), .val (.ref so), .val (.int (own_rf kk (own_f3 cc0 cc1 cc2) nn aa)), .val (.int (own_b 0 aa nn)), .val (.int (own_b 1 aa nn)), .val (.int (own_b 2 aa nn)), .unset] [(.int cc1), (.int kk)])) rfl (by rw [hml]; rfl) (argsL := [(.int kk), (.int cc1)]) (rest := []) (lenOf pd_14 rfl) rfl (by show 2 * 0 + _ ≤ _; exact Nat.le_of_eq rfl) (hb hby at_286) (fun _ _ => ⟨rfl, e136, (by decide : 4 + 0 ≤ _), (by decide : 55 + 0 ≤ _)⟩)
                        dsimp only [Pt.U, Pt.locs, Pt.cells, Pt.slots] at X155 l155 y155 z155 st155 hQ155
                        subst l155 y155 z155
                        obtain ⟨rfl, Nq155, hh155⟩ := hQ155
                        have Z155 : n0 ≤ T155.heap.size := by rw [hh155]; exact Z136
                        have N155 := Fr.app N136 Nq155
                        have pre156 := fun τ (κ : Steps p.tables e below (T155.setTop (mkF m 289 #[.val (.int i0), .val (.int i1), .val (.int i2), .val (.int i3), .val (.int kk), .val (.int (Int32.ofNat aa)), .val (.int (Int32.ofNat nn)), .val (.int cc0), .val (.int cc1), .val (.int cc2), .val (.ref ar), .val (.ref so), .val (.int (own_rf kk (own_f3 cc0 cc1 cc2) nn aa)), .val (.int (own_b 0 aa nn)), .val (.int (own_b 1 aa nn)), .val (.int (own_b 2 aa nn)), .unset] [(.int (own_pd kk cc1))])) τ) => pre154 τ (st155 _ κ)
                        by_cases hs : (own_pd kk cc1) = (0 : Int32)
                        · have pre157 := fun τ (κ : Steps p.tables e below (T155.setTop (mkF m 302 #[.val (.int i0), .val (.int i1), .val (.int i2), .val (.int i3), .val (.int kk), .val (.int (Int32.ofNat aa)), .val (.int (Int32.ofNat nn)), .val (.int cc0), .val (.int cc1), .val (.int cc2), .val (.ref ar), .val (.ref so), .val (.int (own_rf kk (own_f3 cc0 cc1 cc2) nn aa)), .val (.int (own_b 0 aa nn)), .val (.int (own_b 1 aa nn)), .val (.int (own_b 2 aa nn)), .unset] [])) τ) => pre156 τ (by
                            refine XS.ifYes X155.here hx rfl (pc0 := 289) (pc' := 302) rfl (hb hby at_289) rfl ((if0 _ _).trans (teq hs).1) (by decide) (by decide) ?_
                            show Steps p.tables e below (T155.setTop (mkF m 302 #[.val (.int i0), .val (.int i1), .val (.int i2), .val (.int i3), .val (.int kk), .val (.int (Int32.ofNat aa)), .val (.int (Int32.ofNat nn)), .val (.int cc0), .val (.int cc1), .val (.int cc2), .val (.ref ar), .val (.ref so), .val (.int (own_rf kk (own_f3 cc0 cc1 cc2) nn aa)), .val (.int (own_b 0 aa nn)), .val (.int (own_b 1 aa nn)), .val (.int (own_b 2 aa nn)), .unset] [])) _
                            exact κ)
                          exact ⟨T155, T155.heap, _, X155, rfl, N155, Z155, pre157⟩
                        · have pre158 := fun τ (κ : Steps p.tables e below (T155.setTop (mkF m 296 #[.val (.int i0), .val (.int i1), .val (.int i2), .val (.int i3), .val (.int kk), .val (.int (Int32.ofNat aa)), .val (.int (Int32.ofNat nn)), .val (.int cc0), .val (.int cc1), .val (.int cc2), .val (.ref ar), .val (.ref so), .val (.int (own_rf kk (own_f3 cc0 cc1 cc2) nn aa)), .val (.int (own_b 0 aa nn)), .val (.int (own_b 1 aa nn)), .val (.int (own_b 2 aa nn)), .unset] [(.int cc2), (.int kk)])) τ) => pre156 τ (by
                            refine XS.ifNo X155.here hx rfl (hb hby at_289) rfl ((if0 _ _).trans (feq hs).1) ?_
                            show Steps p.tables e below (T155.setTop (mkF m 292 #[.val (.int i0), .val (.int i1), .val (.int i2), .val (.int i3), .val (.int kk), .val (.int (Int32.ofNat aa)), .val (.int (Int32.ofNat nn)), .val (.int cc0), .val (.int cc1), .val (.int cc2), .val (.ref ar), .val (.ref so), .val (.int (own_rf kk (own_f3 cc0 cc1 cc2) nn aa)), .val (.int (own_b 0 aa nn)), .val (.int (own_b 1 aa nn)), .val (.int (own_b 2 aa nn)), .unset] [])) _
                            refine XS.iload X155.here hx rfl (hb hby at_292) rfl ?_
                            refine XS.iload X155.here hx rfl (hb hby at_294) rfl ?_
                            show Steps p.tables e below (T155.setTop (mkF m 296 #[.val (.int i0), .val (.int i1), .val (.int i2), .val (.int i3), .val (.int kk), .val (.int (Int32.ofNat aa)), .val (.int (Int32.ofNat nn)), .val (.int cc0), .val (.int cc1), .val (.int cc2), .val (.ref ar), .val (.ref so), .val (.int (own_rf kk (own_f3 cc0 cc1 cc2) nn aa)), .val (.int (own_b 0 aa nn)), .val (.int (own_b 1 aa nn)), .val (.int (own_b 2 aa nn)), .unset] [(.int cc2), (.int kk)])) _
                            exact κ)
                          obtain ⟨_, _, ⟨T159, L159, k159, n159⟩, -, X159, ⟨Lc159, hQ159, l159, y159, z159⟩, st159⟩ := Jvm.LawKit.callS X155 hx (y := (⟨"com/example/huiqiao/huiqiao/iso8583/ContentRunsFromPinLaw", "inRun", "(IC)Z"⟩ : MethodName)) hown (mvT hZ (hw _ (List.mem_of_getElem? (i := 122) rfl))) (mvT hZ (hw _ (List.mem_of_getElem? (i := 123) rfl))) (mvT hZ (hw _ (List.mem_of_getElem? (i := 24) rfl))) (mvT hZ (hw _ (List.mem_of_getElem? (i := 124) rfl))) (by decide) (backOf (W := 0) (rm25 l Z a0 hw [] kk cc2 T155.heap n0 Z155) hZ (hw _ (List.mem_of_getElem? (i := 124) rfl)) (hw _ (List.mem_of_getElem? (i := 24) rfl)) (Nat.le_of_ble_eq_true rfl) (Nat.le_of_ble_eq_true rfl)) (g := (mkF m 296 #[.val (.int i0), .val (.int i1), .val (.int i2), .val (.int i3), .val (.int kk), .val (.int (Int32.ofNat aa)), .val (.int (Int32.ofNat nn)), .val (.int cc0), .val (.int cc1), .val (.int cc2), .val (.ref ar), .val (.ref so), .val (.int (own_rf kk (own_f3 cc0 cc1 cc2) nn aa)), .val (.int (own_b 0 aa nn)), .val (.int (own_b 1 aa nn)), .val (.int (own_b 2 aa nn)), .unset] [(.int cc2), (.int kk)])) rfl (by rw [hml]; rfl) (argsL := [(.int kk), (.int cc2)]) (rest := []) (lenOf pd_14 rfl) rfl (by show 2 * 0 + _ ≤ _; exact Nat.le_of_eq rfl) (hb hby at_296) (fun _ _ => ⟨rfl, rfl, (by decide : 4 + 0 ≤ _), (by decide : 55 + 0 ≤ _)⟩)
                          dsimp only [Pt.U, Pt.locs, Pt.cells, Pt.slots] at X159 l159 y159 z159 st159 hQ159
                          subst l159 y159 z159
                          obtain ⟨rfl, Nq159, hh159⟩ := hQ159
                          have Z159 : n0 ≤ T159.heap.size := by rw [hh159]; exact Z155
                          have N159 := Fr.app N155 Nq159
                          have pre160 := fun τ (κ : Steps p.tables e below (T159.setTop (mkF m 299 #[.val (.int i0), .val (.int i1), .val (.int i2), .val (.int i3), .val (.int kk), .val (.int (Int32.ofNat aa)), .val (.int (Int32.ofNat nn)), .val (.int cc0), .val (.int cc1), .val (.int cc2), .val (.ref ar), .val (.ref so), .val (.int (own_rf kk (own_f3 cc0 cc1 cc2) nn aa)), .val (.int (own_b 0 aa nn)), .val (.int (own_b 1 aa nn)), .val (.int (own_b 2 aa nn)), .unset] [(.int (own_inR kk cc2))])) τ) => pre158 τ (st159 _ κ)
                          have pre161 := fun τ (κ : Steps p.tables e below (T159.setTop (mkF m 302 #[.val (.int i0), .val (.int i1), .val (.int i2), .val (.int i3), .val (.int kk), .val (.int (Int32.ofNat aa)), .val (.int (Int32.ofNat nn)), .val (.int cc0), .val (.int cc1), .val (.int cc2), .val (.ref ar), .val (.ref so), .val (.int (own_rf kk (own_f3 cc0 cc1 cc2) nn aa)), .val (.int (own_b 0 aa nn)), .val (.int (own_b 1 aa nn)), .val (.int (own_b 2 aa nn)), .unset] [])) τ) => pre160 τ (by
                            refine XS.ifNo X159.here hx rfl (hb hby at_299) rfl ((if0 _ _).trans (teq (((hP2.resolve_left hu).resolve_left hv).resolve_left hs)).2) ?_
                            show Steps p.tables e below (T159.setTop (mkF m 302 #[.val (.int i0), .val (.int i1), .val (.int i2), .val (.int i3), .val (.int kk), .val (.int (Int32.ofNat aa)), .val (.int (Int32.ofNat nn)), .val (.int cc0), .val (.int cc1), .val (.int cc2), .val (.ref ar), .val (.ref so), .val (.int (own_rf kk (own_f3 cc0 cc1 cc2) nn aa)), .val (.int (own_b 0 aa nn)), .val (.int (own_b 1 aa nn)), .val (.int (own_b 2 aa nn)), .unset] [])) _
                            exact κ)
                          exact ⟨T159, T159.heap, _, X159, rfl, N159, Z159, pre161⟩
                  have pre162 := fun τ (κ : Steps p.tables e below (T149.setTop (mkF m 321 #[.val (.int i0), .val (.int i1), .val (.int i2), .val (.int i3), .val (.int kk), .val (.int (Int32.ofNat aa)), .val (.int (Int32.ofNat nn)), .val (.int cc0), .val (.int cc1), .val (.int cc2), .val (.ref ar), .val (.ref so), .val (.int (own_rf kk (own_f3 cc0 cc1 cc2) nn aa)), .val (.int (own_b 0 aa nn)), .val (.int (own_b 1 aa nn)), .val (.int (own_b 2 aa nn)), .val (.int (1 : Int32))] [(.int (1 : Int32))])) τ) => pre149 τ (by
                    refine XS.iconst X149.here hx rfl (hb hby at_302) ?_
                    refine XS.goto X149.here hx rfl (pc0 := 303) (pc' := 307) rfl (hb hby at_303) (by decide) (by decide) ?_
                    show Steps p.tables e below (T149.setTop (mkF m 307 #[.val (.int i0), .val (.int i1), .val (.int i2), .val (.int i3), .val (.int kk), .val (.int (Int32.ofNat aa)), .val (.int (Int32.ofNat nn)), .val (.int cc0), .val (.int cc1), .val (.int cc2), .val (.ref ar), .val (.ref so), .val (.int (own_rf kk (own_f3 cc0 cc1 cc2) nn aa)), .val (.int (own_b 0 aa nn)), .val (.int (own_b 1 aa nn)), .val (.int (own_b 2 aa nn)), .unset] [(.int (1 : Int32))])) _
                    refine XS.istore X149.here hx rfl (hb hby at_307) rfl (l' := #[.val (.int i0), .val (.int i1), .val (.int i2), .val (.int i3), .val (.int kk), .val (.int (Int32.ofNat aa)), .val (.int (Int32.ofNat nn)), .val (.int cc0), .val (.int cc1), .val (.int cc2), .val (.ref ar), .val (.ref so), .val (.int (own_rf kk (own_f3 cc0 cc1 cc2) nn aa)), .val (.int (own_b 0 aa nn)), .val (.int (own_b 1 aa nn)), .val (.int (own_b 2 aa nn)), .val (.int (1 : Int32))]) rfl ?_
                    show Steps p.tables e below (T149.setTop (mkF m 309 #[.val (.int i0), .val (.int i1), .val (.int i2), .val (.int i3), .val (.int kk), .val (.int (Int32.ofNat aa)), .val (.int (Int32.ofNat nn)), .val (.int cc0), .val (.int cc1), .val (.int cc2), .val (.ref ar), .val (.ref so), .val (.int (own_rf kk (own_f3 cc0 cc1 cc2) nn aa)), .val (.int (own_b 0 aa nn)), .val (.int (own_b 1 aa nn)), .val (.int (own_b 2 aa nn)), .val (.int (1 : Int32))] [])) _
                    refine XS.iload X149.here hx rfl (hb hby at_309) rfl ?_
                    refine XS.iload X149.here hx rfl (hb hby at_311) rfl ?_
                    refine XS.icmpNo X149.here hx rfl (hb hby at_313) rfl (teq (own_rf1 (own_EX3 hn3 hA' hG0 hG1 hG2 hP0 hP1 hP2))).2 ?_
                    show Steps p.tables e below (T149.setTop (mkF m 316 #[.val (.int i0), .val (.int i1), .val (.int i2), .val (.int i3), .val (.int kk), .val (.int (Int32.ofNat aa)), .val (.int (Int32.ofNat nn)), .val (.int cc0), .val (.int cc1), .val (.int cc2), .val (.ref ar), .val (.ref so), .val (.int (own_rf kk (own_f3 cc0 cc1 cc2) nn aa)), .val (.int (own_b 0 aa nn)), .val (.int (own_b 1 aa nn)), .val (.int (own_b 2 aa nn)), .val (.int (1 : Int32))] [])) _
                    refine XS.iconst X149.here hx rfl (hb hby at_316) ?_
                    refine XS.goto X149.here hx rfl (pc0 := 317) (pc' := 321) rfl (hb hby at_317) (by decide) (by decide) ?_
                    show Steps p.tables e below (T149.setTop (mkF m 321 #[.val (.int i0), .val (.int i1), .val (.int i2), .val (.int i3), .val (.int kk), .val (.int (Int32.ofNat aa)), .val (.int (Int32.ofNat nn)), .val (.int cc0), .val (.int cc1), .val (.int cc2), .val (.ref ar), .val (.ref so), .val (.int (own_rf kk (own_f3 cc0 cc1 cc2) nn aa)), .val (.int (own_b 0 aa nn)), .val (.int (own_b 1 aa nn)), .val (.int (own_b 2 aa nn)), .val (.int (1 : Int32))] [(.int (1 : Int32))])) _
                    exact κ)
                  obtain ⟨fs, hr, hrun, hended, hEnd⟩ := Stand.leaveW (s := s) (vm₁ := s.vm) X149 hS0 (Nat.zero_le _) (v := some (.int (1 : Int32))) (fun h => by rw [Bd.returns] at h; cases h)
                  refine ⟨_, _, pre162 _ ?_, hrun, hended, _, _, rfl, ?_, ⟨hEnd.1, hEnd.2.1, hEnd.2.2.1, hEnd.2.2.2.mono (by decide) (by decide)⟩⟩
                  · exact retN X149 hx (t := .boolean) Bd.returns (by simp) (hb hby at_321) hr
                  · show Q0 Z i0 i1 i2 i3 zc fm h0 n0 _ T149.heap _
                    rw [e149]
                    exact ⟨rfl, N149⟩
                · have pre163 := fun τ (κ : Steps p.tables e below (T136.setTop (mkF m 286 #[.val (.int i0), .val (.int i1), .val (.int i2), .val (.int i3), .val (.int kk), .val (.int (Int32.ofNat aa)), .val (.int (Int32.ofNat nn)), .val (.int cc0), .val (.int cc1), .val (.int cc2), .val (.ref ar), .val (.ref so), .val (.int (own_rf kk (own_f3 cc0 cc1 cc2) nn aa)), .val (.int (own_b 0 aa nn)), .val (.int (own_b 1 aa nn)), .val (.int (own_b 2 aa nn)), .unset] [(.int cc1), (.int kk)])) τ) => pre136 τ (by
                    refine XS.iload X136.here hx rfl (hb hby at_272) rfl ?_
                    refine XS.ifNo X136.here hx rfl (hb hby at_274) rfl ((if0 _ _).trans (feq (fun z => hP2 (Or.inl z))).1) ?_
                    show Steps p.tables e below (T136.setTop (mkF m 277 #[.val (.int i0), .val (.int i1), .val (.int i2), .val (.int i3), .val (.int kk), .val (.int (Int32.ofNat aa)), .val (.int (Int32.ofNat nn)), .val (.int cc0), .val (.int cc1), .val (.int cc2), .val (.ref ar), .val (.ref so), .val (.int (own_rf kk (own_f3 cc0 cc1 cc2) nn aa)), .val (.int (own_b 0 aa nn)), .val (.int (own_b 1 aa nn)), .val (.int (own_b 2 aa nn)), .unset] [])) _
                    refine XS.iload X136.here hx rfl (hb hby at_277) rfl ?_
                    refine XS.ifNo X136.here hx rfl (hb hby at_279) rfl ((if0 _ _).trans (feq (fun z => hP2 (Or.inr (Or.inl z)))).1) ?_
                    show Steps p.tables e below (T136.setTop (mkF m 282 #[.val (.int i0), .val (.int i1), .val (.int i2), .val (.int i3), .val (.int kk), .val (.int (Int32.ofNat aa)), .val (.int (Int32.ofNat nn)), .val (.int cc0), .val (.int cc1), .val (.int cc2), .val (.ref ar), .val (.ref so), .val (.int (own_rf kk (own_f3 cc0 cc1 cc2) nn aa)), .val (.int (own_b 0 aa nn)), .val (.int (own_b 1 aa nn)), .val (.int (own_b 2 aa nn)), .unset] [])) _
                    refine XS.iload X136.here hx rfl (hb hby at_282) rfl ?_
                    refine XS.iload X136.here hx rfl (hb hby at_284) rfl ?_
                    show Steps p.tables e below (T136.setTop (mkF m 286 #[.val (.int i0), .val (.int i1), .val (.int i2), .val (.int i3), .val (.int kk), .val (.int (Int32.ofNat aa)), .val (.int (Int32.ofNat nn)), .val (.int cc0), .val (.int cc1), .val (.int cc2), .val (.ref ar), .val (.ref so), .val (.int (own_rf kk (own_f3 cc0 cc1 cc2) nn aa)), .val (.int (own_b 0 aa nn)), .val (.int (own_b 1 aa nn)), .val (.int (own_b 2 aa nn)), .unset] [(.int cc1), (.int kk)])) _
                    exact κ)
                  obtain ⟨_, _, ⟨T164, L164, k164, n164⟩, -, X164, ⟨Lc164, hQ164, l164, y164, z164⟩, st164⟩ := Jvm.LawKit.callS X136 hx (y := (⟨"com/example/huiqiao/huiqiao/iso8583/ContentRunsFromPinLaw", "padOnly", "(IC)Z"⟩ : MethodName)) hown (mvT hZ (hw _ (List.mem_of_getElem? (i := 125) rfl))) (mvT hZ (hw _ (List.mem_of_getElem? (i := 126) rfl))) (mvT hZ (hw _ (List.mem_of_getElem? (i := 24) rfl))) (mvT hZ (hw _ (List.mem_of_getElem? (i := 127) rfl))) (by decide) (backOf (W := 0) (rm26 l Z a0 hw [] kk cc1 h136 n0 Z136) hZ (hw _ (List.mem_of_getElem? (i := 127) rfl)) (hw _ (List.mem_of_getElem? (i := 24) rfl)) (Nat.le_of_ble_eq_true rfl) (Nat.le_of_ble_eq_true rfl)) (g := (mkF m 286 #[.val (.int i0), .val (.int i1), .val (.int i2), .val (.int i3), .val (.int kk), .val (.int (Int32.ofNat aa)), .val (.int (Int32.ofNat nn)), .val (.int cc0), .val (.int cc1), .val (.int cc2), .val (.ref ar), .val (.ref so), .val (.int (own_rf kk (own_f3 cc0 cc1 cc2) nn aa)), .val (.int (own_b 0 aa nn)), .val (.int (own_b 1 aa nn)), .val (.int (own_b 2 aa nn)), .unset] [(.int cc1), (.int kk)])) rfl (by rw [hml]; rfl) (argsL := [(.int kk), (.int cc1)]) (rest := []) (lenOf pd_14 rfl) rfl (by show 2 * 0 + _ ≤ _; exact Nat.le_of_eq rfl) (hb hby at_286) (fun _ _ => ⟨rfl, e136, (by decide : 4 + 0 ≤ _), (by decide : 55 + 0 ≤ _)⟩)
                  dsimp only [Pt.U, Pt.locs, Pt.cells, Pt.slots] at X164 l164 y164 z164 st164 hQ164
                  subst l164 y164 z164
                  obtain ⟨rfl, Nq164, hh164⟩ := hQ164
                  have Z164 : n0 ≤ T164.heap.size := by rw [hh164]; exact Z136
                  have N164 := Fr.app N136 Nq164
                  have pre165 := fun τ (κ : Steps p.tables e below (T164.setTop (mkF m 289 #[.val (.int i0), .val (.int i1), .val (.int i2), .val (.int i3), .val (.int kk), .val (.int (Int32.ofNat aa)), .val (.int (Int32.ofNat nn)), .val (.int cc0), .val (.int cc1), .val (.int cc2), .val (.ref ar), .val (.ref so), .val (.int (own_rf kk (own_f3 cc0 cc1 cc2) nn aa)), .val (.int (own_b 0 aa nn)), .val (.int (own_b 1 aa nn)), .val (.int (own_b 2 aa nn)), .unset] [(.int (own_pd kk cc1))])) τ) => pre163 τ (st164 _ κ)
                  have pre166 := fun τ (κ : Steps p.tables e below (T164.setTop (mkF m 296 #[.val (.int i0), .val (.int i1), .val (.int i2), .val (.int i3), .val (.int kk), .val (.int (Int32.ofNat aa)), .val (.int (Int32.ofNat nn)), .val (.int cc0), .val (.int cc1), .val (.int cc2), .val (.ref ar), .val (.ref so), .val (.int (own_rf kk (own_f3 cc0 cc1 cc2) nn aa)), .val (.int (own_b 0 aa nn)), .val (.int (own_b 1 aa nn)), .val (.int (own_b 2 aa nn)), .unset] [(.int cc2), (.int kk)])) τ) => pre165 τ (by
                    refine XS.ifNo X164.here hx rfl (hb hby at_289) rfl ((if0 _ _).trans (feq (fun z => hP2 (Or.inr (Or.inr (Or.inl z))))).1) ?_
                    show Steps p.tables e below (T164.setTop (mkF m 292 #[.val (.int i0), .val (.int i1), .val (.int i2), .val (.int i3), .val (.int kk), .val (.int (Int32.ofNat aa)), .val (.int (Int32.ofNat nn)), .val (.int cc0), .val (.int cc1), .val (.int cc2), .val (.ref ar), .val (.ref so), .val (.int (own_rf kk (own_f3 cc0 cc1 cc2) nn aa)), .val (.int (own_b 0 aa nn)), .val (.int (own_b 1 aa nn)), .val (.int (own_b 2 aa nn)), .unset] [])) _
                    refine XS.iload X164.here hx rfl (hb hby at_292) rfl ?_
                    refine XS.iload X164.here hx rfl (hb hby at_294) rfl ?_
                    show Steps p.tables e below (T164.setTop (mkF m 296 #[.val (.int i0), .val (.int i1), .val (.int i2), .val (.int i3), .val (.int kk), .val (.int (Int32.ofNat aa)), .val (.int (Int32.ofNat nn)), .val (.int cc0), .val (.int cc1), .val (.int cc2), .val (.ref ar), .val (.ref so), .val (.int (own_rf kk (own_f3 cc0 cc1 cc2) nn aa)), .val (.int (own_b 0 aa nn)), .val (.int (own_b 1 aa nn)), .val (.int (own_b 2 aa nn)), .unset] [(.int cc2), (.int kk)])) _
                    exact κ)
                  obtain ⟨_, _, ⟨T167, L167, k167, n167⟩, -, X167, ⟨Lc167, hQ167, l167, y167, z167⟩, st167⟩ := Jvm.LawKit.callS X164 hx (y := (⟨"com/example/huiqiao/huiqiao/iso8583/ContentRunsFromPinLaw", "inRun", "(IC)Z"⟩ : MethodName)) hown (mvT hZ (hw _ (List.mem_of_getElem? (i := 122) rfl))) (mvT hZ (hw _ (List.mem_of_getElem? (i := 123) rfl))) (mvT hZ (hw _ (List.mem_of_getElem? (i := 24) rfl))) (mvT hZ (hw _ (List.mem_of_getElem? (i := 124) rfl))) (by decide) (backOf (W := 0) (rm25 l Z a0 hw [] kk cc2 T164.heap n0 Z164) hZ (hw _ (List.mem_of_getElem? (i := 124) rfl)) (hw _ (List.mem_of_getElem? (i := 24) rfl)) (Nat.le_of_ble_eq_true rfl) (Nat.le_of_ble_eq_true rfl)) (g := (mkF m 296 #[.val (.int i0), .val (.int i1), .val (.int i2), .val (.int i3), .val (.int kk), .val (.int (Int32.ofNat aa)), .val (.int (Int32.ofNat nn)), .val (.int cc0), .val (.int cc1), .val (.int cc2), .val (.ref ar), .val (.ref so), .val (.int (own_rf kk (own_f3 cc0 cc1 cc2) nn aa)), .val (.int (own_b 0 aa nn)), .val (.int (own_b 1 aa nn)), .val (.int (own_b 2 aa nn)), .unset] [(.int cc2), (.int kk)])) rfl (by rw [hml]; rfl) (argsL := [(.int kk), (.int cc2)]) (rest := []) (lenOf pd_14 rfl) rfl (by show 2 * 0 + _ ≤ _; exact Nat.le_of_eq rfl) (hb hby at_296) (fun _ _ => ⟨rfl, rfl, (by decide : 4 + 0 ≤ _), (by decide : 55 + 0 ≤ _)⟩)
                  dsimp only [Pt.U, Pt.locs, Pt.cells, Pt.slots] at X167 l167 y167 z167 st167 hQ167
                  subst l167 y167 z167
                  obtain ⟨rfl, Nq167, hh167⟩ := hQ167
                  have Z167 : n0 ≤ T167.heap.size := by rw [hh167]; exact Z164
                  have N167 := Fr.app N164 Nq167
                  have pre168 := fun τ (κ : Steps p.tables e below (T167.setTop (mkF m 299 #[.val (.int i0), .val (.int i1), .val (.int i2), .val (.int i3), .val (.int kk), .val (.int (Int32.ofNat aa)), .val (.int (Int32.ofNat nn)), .val (.int cc0), .val (.int cc1), .val (.int cc2), .val (.ref ar), .val (.ref so), .val (.int (own_rf kk (own_f3 cc0 cc1 cc2) nn aa)), .val (.int (own_b 0 aa nn)), .val (.int (own_b 1 aa nn)), .val (.int (own_b 2 aa nn)), .unset] [(.int (own_inR kk cc2))])) τ) => pre166 τ (st167 _ κ)
                  have pre169 := fun τ (κ : Steps p.tables e below (T167.setTop (mkF m 321 #[.val (.int i0), .val (.int i1), .val (.int i2), .val (.int i3), .val (.int kk), .val (.int (Int32.ofNat aa)), .val (.int (Int32.ofNat nn)), .val (.int cc0), .val (.int cc1), .val (.int cc2), .val (.ref ar), .val (.ref so), .val (.int (own_rf kk (own_f3 cc0 cc1 cc2) nn aa)), .val (.int (own_b 0 aa nn)), .val (.int (own_b 1 aa nn)), .val (.int (own_b 2 aa nn)), .val (.int (0 : Int32))] [(.int (1 : Int32))])) τ) => pre168 τ (by
                    refine XS.ifYes X167.here hx rfl (pc0 := 299) (pc' := 306) rfl (hb hby at_299) rfl ((if0 _ _).trans (feq (fun z => hP2 (Or.inr (Or.inr (Or.inr z))))).2) (by decide) (by decide) ?_
                    show Steps p.tables e below (T167.setTop (mkF m 306 #[.val (.int i0), .val (.int i1), .val (.int i2), .val (.int i3), .val (.int kk), .val (.int (Int32.ofNat aa)), .val (.int (Int32.ofNat nn)), .val (.int cc0), .val (.int cc1), .val (.int cc2), .val (.ref ar), .val (.ref so), .val (.int (own_rf kk (own_f3 cc0 cc1 cc2) nn aa)), .val (.int (own_b 0 aa nn)), .val (.int (own_b 1 aa nn)), .val (.int (own_b 2 aa nn)), .unset] [])) _
                    refine XS.iconst X167.here hx rfl (hb hby at_306) ?_
                    refine XS.istore X167.here hx rfl (hb hby at_307) rfl (l' := #[.val (.int i0), .val (.int i1), .val (.int i2), .val (.int i3), .val (.int kk), .val (.int (Int32.ofNat aa)), .val (.int (Int32.ofNat nn)), .val (.int cc0), .val (.int cc1), .val (.int cc2), .val (.ref ar), .val (.ref so), .val (.int (own_rf kk (own_f3 cc0 cc1 cc2) nn aa)), .val (.int (own_b 0 aa nn)), .val (.int (own_b 1 aa nn)), .val (.int (own_b 2 aa nn)), .val (.int (0 : Int32))]) rfl ?_
                    show Steps p.tables e below (T167.setTop (mkF m 309 #[.val (.int i0), .val (.int i1), .val (.int i2), .val (.int i3), .val (.int kk), .val (.int (Int32.ofNat aa)), .val (.int (Int32.ofNat nn)), .val (.int cc0), .val (.int cc1), .val (.int cc2), .val (.ref ar), .val (.ref so), .val (.int (own_rf kk (own_f3 cc0 cc1 cc2) nn aa)), .val (.int (own_b 0 aa nn)), .val (.int (own_b 1 aa nn)), .val (.int (own_b 2 aa nn)), .val (.int (0 : Int32))] [])) _
                    refine XS.iload X167.here hx rfl (hb hby at_309) rfl ?_
                    refine XS.iload X167.here hx rfl (hb hby at_311) rfl ?_
                    refine XS.icmpNo X167.here hx rfl (hb hby at_313) rfl (teq (own_rf0 (own_xP2 (fun z => hP2 (Or.inl z)) (fun z => hP2 (Or.inr (Or.inl z))) (fun z => hP2 (Or.inr (Or.inr (Or.inl z)))) (fun z => hP2 (Or.inr (Or.inr (Or.inr z))))))).2 ?_
                    show Steps p.tables e below (T167.setTop (mkF m 316 #[.val (.int i0), .val (.int i1), .val (.int i2), .val (.int i3), .val (.int kk), .val (.int (Int32.ofNat aa)), .val (.int (Int32.ofNat nn)), .val (.int cc0), .val (.int cc1), .val (.int cc2), .val (.ref ar), .val (.ref so), .val (.int (own_rf kk (own_f3 cc0 cc1 cc2) nn aa)), .val (.int (own_b 0 aa nn)), .val (.int (own_b 1 aa nn)), .val (.int (own_b 2 aa nn)), .val (.int (0 : Int32))] [])) _
                    refine XS.iconst X167.here hx rfl (hb hby at_316) ?_
                    refine XS.goto X167.here hx rfl (pc0 := 317) (pc' := 321) rfl (hb hby at_317) (by decide) (by decide) ?_
                    show Steps p.tables e below (T167.setTop (mkF m 321 #[.val (.int i0), .val (.int i1), .val (.int i2), .val (.int i3), .val (.int kk), .val (.int (Int32.ofNat aa)), .val (.int (Int32.ofNat nn)), .val (.int cc0), .val (.int cc1), .val (.int cc2), .val (.ref ar), .val (.ref so), .val (.int (own_rf kk (own_f3 cc0 cc1 cc2) nn aa)), .val (.int (own_b 0 aa nn)), .val (.int (own_b 1 aa nn)), .val (.int (own_b 2 aa nn)), .val (.int (0 : Int32))] [(.int (1 : Int32))])) _
                    exact κ)
                  obtain ⟨fs, hr, hrun, hended, hEnd⟩ := Stand.leaveW (s := s) (vm₁ := s.vm) X167 hS0 (Nat.zero_le _) (v := some (.int (1 : Int32))) (fun h => by rw [Bd.returns] at h; cases h)
                  refine ⟨_, _, pre169 _ ?_, hrun, hended, _, _, rfl, ?_, ⟨hEnd.1, hEnd.2.1, hEnd.2.2.1, hEnd.2.2.2.mono (by decide) (by decide)⟩⟩
                  · exact retN X167 hx (t := .boolean) Bd.returns (by simp) (hb hby at_321) hr
                  · show Q0 Z i0 i1 i2 i3 zc fm h0 n0 _ T167.heap _
                    exact ⟨rfl, N167⟩
              · have pre170 := fun τ (κ : Steps p.tables e below (T123.setTop (mkF m 256 #[.val (.int i0), .val (.int i1), .val (.int i2), .val (.int i3), .val (.int kk), .val (.int (Int32.ofNat aa)), .val (.int (Int32.ofNat nn)), .val (.int cc0), .val (.int cc1), .val (.int cc2), .val (.ref ar), .val (.ref so), .val (.int (own_rf kk (own_f3 cc0 cc1 cc2) nn aa)), .val (.int (own_b 0 aa nn)), .val (.int (own_b 1 aa nn)), .val (.int (own_b 2 aa nn)), .unset] [(.int cc0), (.int kk)])) τ) => pre123 τ (by
                  refine XS.iload X123.here hx rfl (hb hby at_242) rfl ?_
                  refine XS.ifNo X123.here hx rfl (hb hby at_244) rfl ((if0 _ _).trans (feq (fun z => hP1 (Or.inl z))).1) ?_
                  show Steps p.tables e below (T123.setTop (mkF m 247 #[.val (.int i0), .val (.int i1), .val (.int i2), .val (.int i3), .val (.int kk), .val (.int (Int32.ofNat aa)), .val (.int (Int32.ofNat nn)), .val (.int cc0), .val (.int cc1), .val (.int cc2), .val (.ref ar), .val (.ref so), .val (.int (own_rf kk (own_f3 cc0 cc1 cc2) nn aa)), .val (.int (own_b 0 aa nn)), .val (.int (own_b 1 aa nn)), .val (.int (own_b 2 aa nn)), .unset] [])) _
                  refine XS.iload X123.here hx rfl (hb hby at_247) rfl ?_
                  refine XS.ifNo X123.here hx rfl (hb hby at_249) rfl ((if0 _ _).trans (feq (fun z => hP1 (Or.inr (Or.inl z)))).1) ?_
                  show Steps p.tables e below (T123.setTop (mkF m 252 #[.val (.int i0), .val (.int i1), .val (.int i2), .val (.int i3), .val (.int kk), .val (.int (Int32.ofNat aa)), .val (.int (Int32.ofNat nn)), .val (.int cc0), .val (.int cc1), .val (.int cc2), .val (.ref ar), .val (.ref so), .val (.int (own_rf kk (own_f3 cc0 cc1 cc2) nn aa)), .val (.int (own_b 0 aa nn)), .val (.int (own_b 1 aa nn)), .val (.int (own_b 2 aa nn)), .unset] [])) _
                  refine XS.iload X123.here hx rfl (hb hby at_252) rfl ?_
                  refine XS.iload X123.here hx rfl (hb hby at_254) rfl ?_
                  show Steps p.tables e below (T123.setTop (mkF m 256 #[.val (.int i0), .val (.int i1), .val (.int i2), .val (.int i3), .val (.int kk), .val (.int (Int32.ofNat aa)), .val (.int (Int32.ofNat nn)), .val (.int cc0), .val (.int cc1), .val (.int cc2), .val (.ref ar), .val (.ref so), .val (.int (own_rf kk (own_f3 cc0 cc1 cc2) nn aa)), .val (.int (own_b 0 aa nn)), .val (.int (own_b 1 aa nn)), .val (.int (own_b 2 aa nn)), .unset] [(.int cc0), (.int kk)])) _
                  exact κ)
                obtain ⟨_, _, ⟨T171, L171, k171, n171⟩, -, X171, ⟨Lc171, hQ171, l171, y171, z171⟩, st171⟩ := Jvm.LawKit.callS X123 hx (y := (⟨"com/example/huiqiao/huiqiao/iso8583/ContentRunsFromPinLaw", "padOnly", "(IC)Z"⟩ : MethodName)) hown (mvT hZ (hw _ (List.mem_of_getElem? (i := 125) rfl))) (mvT hZ (hw _ (List.mem_of_getElem? (i := 126) rfl))) (mvT hZ (hw _ (List.mem_of_getElem? (i := 24) rfl))) (mvT hZ (hw _ (List.mem_of_getElem? (i := 127) rfl))) (by decide) (backOf (W := 0) (rm26 l Z a0 hw [] kk cc0 h123 n0 Z123) hZ (hw _ (List.mem_of_getElem? (i := 127) rfl)) (hw _ (List.mem_of_getElem? (i := 24) rfl)) (Nat.le_of_ble_eq_true rfl) (Nat.le_of_ble_eq_true rfl)) (g := (mkF m 256 #[.val (.int i0), .val (.int i1), .val (.int i2), .val (.int i3), .val (.int kk), .val (.int (Int32.ofNat aa)), .val (.int (Int32.ofNat nn)), .val (.int cc0), .val (.int cc1), .val (.int cc2), .val (.ref ar), .val (.ref so), .val (.int (own_rf kk (own_f3 cc0 cc1 cc2) nn aa)), .val (.int (own_b 0 aa nn)), .val (.int (own_b 1 aa nn)), .val (.int (own_b 2 aa nn)), .unset] [(.int cc0), (.int kk)])) rfl (by rw [hml]; rfl) (argsL := [(.int kk), (.int cc0)]) (rest := []) (lenOf pd_14 rfl) rfl (by show 2 * 0 + _ ≤ _; exact Nat.le_of_eq rfl) (hb hby at_256) (fun _ _ => ⟨rfl, e123, (by decide : 4 + 0 ≤ _), (by decide : 55 + 0 ≤ _)⟩)
                dsimp only [Pt.U, Pt.locs, Pt.cells, Pt.slots] at X171 l171 y171 z171 st171 hQ171
                subst l171 y171 z171
                obtain ⟨rfl, Nq171, hh171⟩ := hQ171
                have Z171 : n0 ≤ T171.heap.size := by rw [hh171]; exact Z123
                have N171 := Fr.app N123 Nq171
                have pre172 := fun τ (κ : Steps p.tables e below (T171.setTop (mkF m 259 #[.val (.int i0), .val (.int i1), .val (.int i2), .val (.int i3), .val (.int kk), .val (.int (Int32.ofNat aa)), .val (.int (Int32.ofNat nn)), .val (.int cc0), .val (.int cc1), .val (.int cc2), .val (.ref ar), .val (.ref so), .val (.int (own_rf kk (own_f3 cc0 cc1 cc2) nn aa)), .val (.int (own_b 0 aa nn)), .val (.int (own_b 1 aa nn)), .val (.int (own_b 2 aa nn)), .unset] [(.int (own_pd kk cc0))])) τ) => pre170 τ (st171 _ κ)
                have pre173 := fun τ (κ : Steps p.tables e below (T171.setTop (mkF m 266 #[.val (.int i0), .val (.int i1), .val (.int i2), .val (.int i3), .val (.int kk), .val (.int (Int32.ofNat aa)), .val (.int (Int32.ofNat nn)), .val (.int cc0), .val (.int cc1), .val (.int cc2), .val (.ref ar), .val (.ref so), .val (.int (own_rf kk (own_f3 cc0 cc1 cc2) nn aa)), .val (.int (own_b 0 aa nn)), .val (.int (own_b 1 aa nn)), .val (.int (own_b 2 aa nn)), .unset] [(.int cc2), (.int kk)])) τ) => pre172 τ (by
                  refine XS.ifNo X171.here hx rfl (hb hby at_259) rfl ((if0 _ _).trans (feq (fun z => hP1 (Or.inr (Or.inr (Or.inl z))))).1) ?_
                  show Steps p.tables e below (T171.setTop (mkF m 262 #[.val (.int i0), .val (.int i1), .val (.int i2), .val (.int i3), .val (.int kk), .val (.int (Int32.ofNat aa)), .val (.int (Int32.ofNat nn)), .val (.int cc0), .val (.int cc1), .val (.int cc2), .val (.ref ar), .val (.ref so), .val (.int (own_rf kk (own_f3 cc0 cc1 cc2) nn aa)), .val (.int (own_b 0 aa nn)), .val (.int (own_b 1 aa nn)), .val (.int (own_b 2 aa nn)), .unset] [])) _
                  refine XS.iload X171.here hx rfl (hb hby at_262) rfl ?_
                  refine XS.iload X171.here hx rfl (hb hby at_264) rfl ?_
                  show Steps p.tables e below (T171.setTop (mkF m 266 #[.val (.int i0), .val (.int i1), .val (.int i2), .val (.int i3), .val (.int kk), .val (.int (Int32.ofNat aa)), .val (.int (Int32.ofNat nn)), .val (.int cc0), .val (.int cc1), .val (.int cc2), .val (.ref ar), .val (.ref so), .val (.int (own_rf kk (own_f3 cc0 cc1 cc2) nn aa)), .val (.int (own_b 0 aa nn)), .val (.int (own_b 1 aa nn)), .val (.int (own_b 2 aa nn)), .unset] [(.int cc2), (.int kk)])) _
                  exact κ)
                obtain ⟨_, _, ⟨T174, L174, k174, n174⟩, -, X174, ⟨Lc174, hQ174, l174, y174, z174⟩, st174⟩ := Jvm.LawKit.callS X171 hx (y := (⟨"com/example/huiqiao/huiqiao/iso8583/ContentRunsFromPinLaw", "inRun", "(IC)Z"⟩ : MethodName)) hown (mvT hZ (hw _ (List.mem_of_getElem? (i := 122) rfl))) (mvT hZ (hw _ (List.mem_of_getElem? (i := 123) rfl))) (mvT hZ (hw _ (List.mem_of_getElem? (i := 24) rfl))) (mvT hZ (hw _ (List.mem_of_getElem? (i := 124) rfl))) (by decide) (backOf (W := 0) (rm25 l Z a0 hw [] kk cc2 T171.heap n0 Z171) hZ (hw _ (List.mem_of_getElem? (i := 124) rfl)) (hw _ (List.mem_of_getElem? (i := 24) rfl)) (Nat.le_of_ble_eq_true rfl) (Nat.le_of_ble_eq_true rfl)) (g := (mkF m 266 #[.val (.int i0), .val (.int i1), .val (.int i2), .val (.int i3), .val (.int kk), .val (.int (Int32.ofNat aa)), .val (.int (Int32.ofNat nn)), .val (.int cc0), .val (.int cc1), .val (.int cc2), .val (.ref ar), .val (.ref so), .val (.int (own_rf kk (own_f3 cc0 cc1 cc2) nn aa)), .val (.int (own_b 0 aa nn)), .val (.int (own_b 1 aa nn)), .val (.int (own_b 2 aa nn)), .unset] [(.int cc2), (.int kk)])) rfl (by rw [hml]; rfl) (argsL := [(.int kk), (.int cc2)]) (rest := []) (lenOf pd_14 rfl) rfl (by show 2 * 0 + _ ≤ _; exact Nat.le_of_eq rfl) (hb hby at_266) (fun _ _ => ⟨rfl, rfl, (by decide : 4 + 0 ≤ _), (by decide : 55 + 0 ≤ _)⟩)
                dsimp only [Pt.U, Pt.locs, Pt.cells, Pt.slots] at X174 l174 y174 z174 st174 hQ174
                subst l174 y174 z174
                obtain ⟨rfl, Nq174, hh174⟩ := hQ174
                have Z174 : n0 ≤ T174.heap.size := by rw [hh174]; exact Z171
                have N174 := Fr.app N171 Nq174
                have pre175 := fun τ (κ : Steps p.tables e below (T174.setTop (mkF m 269 #[.val (.int i0), .val (.int i1), .val (.int i2), .val (.int i3), .val (.int kk), .val (.int (Int32.ofNat aa)), .val (.int (Int32.ofNat nn)), .val (.int cc0), .val (.int cc1), .val (.int cc2), .val (.ref ar), .val (.ref so), .val (.int (own_rf kk (own_f3 cc0 cc1 cc2) nn aa)), .val (.int (own_b 0 aa nn)), .val (.int (own_b 1 aa nn)), .val (.int (own_b 2 aa nn)), .unset] [(.int (own_inR kk cc2))])) τ) => pre173 τ (st174 _ κ)
                have pre176 := fun τ (κ : Steps p.tables e below (T174.setTop (mkF m 321 #[.val (.int i0), .val (.int i1), .val (.int i2), .val (.int i3), .val (.int kk), .val (.int (Int32.ofNat aa)), .val (.int (Int32.ofNat nn)), .val (.int cc0), .val (.int cc1), .val (.int cc2), .val (.ref ar), .val (.ref so), .val (.int (own_rf kk (own_f3 cc0 cc1 cc2) nn aa)), .val (.int (own_b 0 aa nn)), .val (.int (own_b 1 aa nn)), .val (.int (own_b 2 aa nn)), .val (.int (0 : Int32))] [(.int (1 : Int32))])) τ) => pre175 τ (by
                  refine XS.ifYes X174.here hx rfl (pc0 := 269) (pc' := 306) rfl (hb hby at_269) rfl ((if0 _ _).trans (feq (fun z => hP1 (Or.inr (Or.inr (Or.inr z))))).2) (by decide) (by decide) ?_
                  show Steps p.tables e below (T174.setTop (mkF m 306 #[.val (.int i0), .val (.int i1), .val (.int i2), .val (.int i3), .val (.int kk), .val (.int (Int32.ofNat aa)), .val (.int (Int32.ofNat nn)), .val (.int cc0), .val (.int cc1), .val (.int cc2), .val (.ref ar), .val (.ref so), .val (.int (own_rf kk (own_f3 cc0 cc1 cc2) nn aa)), .val (.int (own_b 0 aa nn)), .val (.int (own_b 1 aa nn)), .val (.int (own_b 2 aa nn)), .unset] [])) _
                  refine XS.iconst X174.here hx rfl (hb hby at_306) ?_
                  refine XS.istore X174.here hx rfl (hb hby at_307) rfl (l' := #[.val (.int i0), .val (.int i1), .val (.int i2), .val (.int i3), .val (.int kk), .val (.int (Int32.ofNat aa)), .val (.int (Int32.ofNat nn)), .val (.int cc0), .val (.int cc1), .val (.int cc2), .val (.ref ar), .val (.ref so), .val (.int (own_rf kk (own_f3 cc0 cc1 cc2) nn aa)), .val (.int (own_b 0 aa nn)), .val (.int (own_b 1 aa nn)), .val (.int (own_b 2 aa nn)), .val (.int (0 : Int32))]) rfl ?_
                  show Steps p.tables e below (T174.setTop (mkF m 309 #[.val (.int i0), .val (.int i1), .val (.int i2), .val (.int i3), .val (.int kk), .val (.int (Int32.ofNat aa)), .val (.int (Int32.ofNat nn)), .val (.int cc0), .val (.int cc1), .val (.int cc2), .val (.ref ar), .val (.ref so), .val (.int (own_rf kk (own_f3 cc0 cc1 cc2) nn aa)), .val (.int (own_b 0 aa nn)), .val (.int (own_b 1 aa nn)), .val (.int (own_b 2 aa nn)), .val (.int (0 : Int32))] [])) _
                  refine XS.iload X174.here hx rfl (hb hby at_309) rfl ?_
                  refine XS.iload X174.here hx rfl (hb hby at_311) rfl ?_
                  refine XS.icmpNo X174.here hx rfl (hb hby at_313) rfl (teq (own_rf0 (own_xP1 (fun z => hP1 (Or.inl z)) (fun z => hP1 (Or.inr (Or.inl z))) (fun z => hP1 (Or.inr (Or.inr (Or.inl z)))) (fun z => hP1 (Or.inr (Or.inr (Or.inr z))))))).2 ?_
                  show Steps p.tables e below (T174.setTop (mkF m 316 #[.val (.int i0), .val (.int i1), .val (.int i2), .val (.int i3), .val (.int kk), .val (.int (Int32.ofNat aa)), .val (.int (Int32.ofNat nn)), .val (.int cc0), .val (.int cc1), .val (.int cc2), .val (.ref ar), .val (.ref so), .val (.int (own_rf kk (own_f3 cc0 cc1 cc2) nn aa)), .val (.int (own_b 0 aa nn)), .val (.int (own_b 1 aa nn)), .val (.int (own_b 2 aa nn)), .val (.int (0 : Int32))] [])) _
                  refine XS.iconst X174.here hx rfl (hb hby at_316) ?_
                  refine XS.goto X174.here hx rfl (pc0 := 317) (pc' := 321) rfl (hb hby at_317) (by decide) (by decide) ?_
                  show Steps p.tables e below (T174.setTop (mkF m 321 #[.val (.int i0), .val (.int i1), .val (.int i2), .val (.int i3), .val (.int kk), .val (.int (Int32.ofNat aa)), .val (.int (Int32.ofNat nn)), .val (.int cc0), .val (.int cc1), .val (.int cc2), .val (.ref ar), .val (.ref so), .val (.int (own_rf kk (own_f3 cc0 cc1 cc2) nn aa)), .val (.int (own_b 0 aa nn)), .val (.int (own_b 1 aa nn)), .val (.int (own_b 2 aa nn)), .val (.int (0 : Int32))] [(.int (1 : Int32))])) _
                  exact κ)
                obtain ⟨fs, hr, hrun, hended, hEnd⟩ := Stand.leaveW (s := s) (vm₁ := s.vm) X174 hS0 (Nat.zero_le _) (v := some (.int (1 : Int32))) (fun h => by rw [Bd.returns] at h; cases h)
                refine ⟨_, _, pre176 _ ?_, hrun, hended, _, _, rfl, ?_, ⟨hEnd.1, hEnd.2.1, hEnd.2.2.1, hEnd.2.2.2.mono (by decide) (by decide)⟩⟩
                · exact retN X174 hx (t := .boolean) Bd.returns (by simp) (hb hby at_321) hr
                · show Q0 Z i0 i1 i2 i3 zc fm h0 n0 _ T174.heap _
                  exact ⟨rfl, N174⟩
            · have pre177 := fun τ (κ : Steps p.tables e below (T116.setTop (mkF m 226 #[.val (.int i0), .val (.int i1), .val (.int i2), .val (.int i3), .val (.int kk), .val (.int (Int32.ofNat aa)), .val (.int (Int32.ofNat nn)), .val (.int cc0), .val (.int cc1), .val (.int cc2), .val (.ref ar), .val (.ref so), .val (.int (own_rf kk (own_f3 cc0 cc1 cc2) nn aa)), .val (.int (own_b 0 aa nn)), .val (.int (own_b 1 aa nn)), .val (.int (own_b 2 aa nn)), .unset] [(.int cc0), (.int kk)])) τ) => pre116 τ (by
                refine XS.iload X116.here hx rfl (hb hby at_212) rfl ?_
                refine XS.ifNo X116.here hx rfl (hb hby at_214) rfl ((if0 _ _).trans (feq (fun z => hP0 (Or.inl z))).1) ?_
                show Steps p.tables e below (T116.setTop (mkF m 217 #[.val (.int i0), .val (.int i1), .val (.int i2), .val (.int i3), .val (.int kk), .val (.int (Int32.ofNat aa)), .val (.int (Int32.ofNat nn)), .val (.int cc0), .val (.int cc1), .val (.int cc2), .val (.ref ar), .val (.ref so), .val (.int (own_rf kk (own_f3 cc0 cc1 cc2) nn aa)), .val (.int (own_b 0 aa nn)), .val (.int (own_b 1 aa nn)), .val (.int (own_b 2 aa nn)), .unset] [])) _
                refine XS.iload X116.here hx rfl (hb hby at_217) rfl ?_
                refine XS.ifNo X116.here hx rfl (hb hby at_219) rfl ((if0 _ _).trans (feq (fun z => hP0 (Or.inr (Or.inl z)))).1) ?_
                show Steps p.tables e below (T116.setTop (mkF m 222 #[.val (.int i0), .val (.int i1), .val (.int i2), .val (.int i3), .val (.int kk), .val (.int (Int32.ofNat aa)), .val (.int (Int32.ofNat nn)), .val (.int cc0), .val (.int cc1), .val (.int cc2), .val (.ref ar), .val (.ref so), .val (.int (own_rf kk (own_f3 cc0 cc1 cc2) nn aa)), .val (.int (own_b 0 aa nn)), .val (.int (own_b 1 aa nn)), .val (.int (own_b 2 aa nn)), .unset] [])) _
                refine XS.iload X116.here hx rfl (hb hby at_222) rfl ?_
                refine XS.iload X116.here hx rfl (hb hby at_224) rfl ?_
                show Steps p.tables e below (T116.setTop (mkF m 226 #[.val (.int i0), .val (.int i1), .val (.int i2), .val (.int i3), .val (.int kk), .val (.int (Int32.ofNat aa)), .val (.int (Int32.ofNat nn)), .val (.int cc0), .val (.int cc1), .val (.int cc2), .val (.ref ar), .val (.ref so), .val (.int (own_rf kk (own_f3 cc0 cc1 cc2) nn aa)), .val (.int (own_b 0 aa nn)), .val (.int (own_b 1 aa nn)), .val (.int (own_b 2 aa nn)), .unset] [(.int cc0), (.int kk)])) _
                exact κ)
              obtain ⟨_, _, ⟨T178, L178, k178, n178⟩, -, X178, ⟨Lc178, hQ178, l178, y178, z178⟩, st178⟩ := Jvm.LawKit.callS X116 hx (y := (⟨"com/example/huiqiao/huiqiao/iso8583/ContentRunsFromPinLaw", "padOnly", "(IC)Z"⟩ : MethodName)) hown (mvT hZ (hw _ (List.mem_of_getElem? (i := 125) rfl))) (mvT hZ (hw _ (List.mem_of_getElem? (i := 126) rfl))) (mvT hZ (hw _ (List.mem_of_getElem? (i := 24) rfl))) (mvT hZ (hw _ (List.mem_of_getElem? (i := 127) rfl))) (by decide) (backOf (W := 0) (rm26 l Z a0 hw [] kk cc0 h116 n0 Z116) hZ (hw _ (List.mem_of_getElem? (i := 127) rfl)) (hw _ (List.mem_of_getElem? (i := 24) rfl)) (Nat.le_of_ble_eq_true rfl) (Nat.le_of_ble_eq_true rfl)) (g := (mkF m 226 #[.val (.int i0), .val (.int i1), .val (.int i2), .val (.int i3), .val (.int kk), .val (.int (Int32.ofNat aa)), .val (.int (Int32.ofNat nn)), .val (.int cc0), .val (.int cc1), .val (.int cc2), .val (.ref ar), .val (.ref so), .val (.int (own_rf kk (own_f3 cc0 cc1 cc2) nn aa)), .val (.int (own_b 0 aa nn)), .val (.int (own_b 1 aa nn)), .val (.int (own_b 2 aa nn)), .unset] [(.int cc0), (.int kk)])) rfl (by rw [hml]; rfl) (argsL := [(.int kk), (.int cc0)]) (rest := []) (lenOf pd_14 rfl) rfl (by show 2 * 0 + _ ≤ _; exact Nat.le_of_eq rfl) (hb hby at_226) (fun _ _ => ⟨rfl, e116, (by decide : 4 + 0 ≤ _), (by decide : 55 + 0 ≤ _)⟩)
              dsimp only [Pt.U, Pt.locs, Pt.cells, Pt.slots] at X178 l178 y178 z178 st178 hQ178
              subst l178 y178 z178
              obtain ⟨rfl, Nq178, hh178⟩ := hQ178
              have Z178 : n0 ≤ T178.heap.size := by rw [hh178]; exact Z116
              have N178 := Fr.app N116 Nq178
              have pre179 := fun τ (κ : Steps p.tables e below (T178.setTop (mkF m 229 #[.val (.int i0), .val (.int i1), .val (.int i2), .val (.int i3), .val (.int kk), .val (.int (Int32.ofNat aa)), .val (.int (Int32.ofNat nn)), .val (.int cc0), .val (.int cc1), .val (.int cc2), .val (.ref ar), .val (.ref so), .val (.int (own_rf kk (own_f3 cc0 cc1 cc2) nn aa)), .val (.int (own_b 0 aa nn)), .val (.int (own_b 1 aa nn)), .val (.int (own_b 2 aa nn)), .unset] [(.int (own_pd kk cc0))])) τ) => pre177 τ (st178 _ κ)
              have pre180 := fun τ (κ : Steps p.tables e below (T178.setTop (mkF m 236 #[.val (.int i0), .val (.int i1), .val (.int i2), .val (.int i3), .val (.int kk), .val (.int (Int32.ofNat aa)), .val (.int (Int32.ofNat nn)), .val (.int cc0), .val (.int cc1), .val (.int cc2), .val (.ref ar), .val (.ref so), .val (.int (own_rf kk (own_f3 cc0 cc1 cc2) nn aa)), .val (.int (own_b 0 aa nn)), .val (.int (own_b 1 aa nn)), .val (.int (own_b 2 aa nn)), .unset] [(.int cc1), (.int kk)])) τ) => pre179 τ (by
                refine XS.ifNo X178.here hx rfl (hb hby at_229) rfl ((if0 _ _).trans (feq (fun z => hP0 (Or.inr (Or.inr (Or.inl z))))).1) ?_
                show Steps p.tables e below (T178.setTop (mkF m 232 #[.val (.int i0), .val (.int i1), .val (.int i2), .val (.int i3), .val (.int kk), .val (.int (Int32.ofNat aa)), .val (.int (Int32.ofNat nn)), .val (.int cc0), .val (.int cc1), .val (.int cc2), .val (.ref ar), .val (.ref so), .val (.int (own_rf kk (own_f3 cc0 cc1 cc2) nn aa)), .val (.int (own_b 0 aa nn)), .val (.int (own_b 1 aa nn)), .val (.int (own_b 2 aa nn)), .unset] [])) _
                refine XS.iload X178.here hx rfl (hb hby at_232) rfl ?_
                refine XS.iload X178.here hx rfl (hb hby at_234) rfl ?_
                show Steps p.tables e below (T178.setTop (mkF m 236 #[.val (.int i0), .val (.int i1), .val (.int i2), .val (.int i3), .val (.int kk), .val (.int (Int32.ofNat aa)), .val (.int (Int32.ofNat nn)), .val (.int cc0), .val (.int cc1), .val (.int cc2), .val (.ref ar), .val (.ref so), .val (.int (own_rf kk (own_f3 cc0 cc1 cc2) nn aa)), .val (.int (own_b 0 aa nn)), .val (.int (own_b 1 aa nn)), .val (.int (own_b 2 aa nn)), .unset] [(.int cc1), (.int kk)])) _
                exact κ)
              obtain ⟨_, _, ⟨T181, L181, k181, n181⟩, -, X181, ⟨Lc181, hQ181, l181, y181, z181⟩, st181⟩ := Jvm.LawKit.callS X178 hx (y := (⟨"com/example/huiqiao/huiqiao/iso8583/ContentRunsFromPinLaw", "inRun", "(IC)Z"⟩ : MethodName)) hown (mvT hZ (hw _ (List.mem_of_getElem? (i := 122) rfl))) (mvT hZ (hw _ (List.mem_of_getElem? (i := 123) rfl))) (mvT hZ (hw _ (List.mem_of_getElem? (i := 24) rfl))) (mvT hZ (hw _ (List.mem_of_getElem? (i := 124) rfl))) (by decide) (backOf (W := 0) (rm25 l Z a0 hw [] kk cc1 T178.heap n0 Z178) hZ (hw _ (List.mem_of_getElem? (i := 124) rfl)) (hw _ (List.mem_of_getElem? (i := 24) rfl)) (Nat.le_of_ble_eq_true rfl) (Nat.le_of_ble_eq_true rfl)) (g := (mkF m 236 #[.val (.int i0), .val (.int i1), .val (.int i2), .val (.int i3), .val (.int kk), .val (.int (Int32.ofNat aa)), .val (.int (Int32.ofNat nn)), .val (.int cc0), .val (.int cc1), .val (.int cc2), .val (.ref ar), .val (.ref so), .val (.int (own_rf kk (own_f3 cc0 cc1 cc2) nn aa)), .val (.int (own_b 0 aa nn)), .val (.int (own_b 1 aa nn)), .val (.int (own_b 2 aa nn)), .unset] [(.int cc1), (.int kk)])) rfl (by rw [hml]; rfl) (argsL := [(.int kk), (.int cc1)]) (rest := []) (lenOf pd_14 rfl) rfl (by show 2 * 0 + _ ≤ _; exact Nat.le_of_eq rfl) (hb hby at_236) (fun _ _ => ⟨rfl, rfl, (by decide : 4 + 0 ≤ _), (by decide : 55 + 0 ≤ _)⟩)
              dsimp only [Pt.U, Pt.locs, Pt.cells, Pt.slots] at X181 l181 y181 z181 st181 hQ181
              subst l181 y181 z181
              obtain ⟨rfl, Nq181, hh181⟩ := hQ181
              have Z181 : n0 ≤ T181.heap.size := by rw [hh181]; exact Z178
              have N181 := Fr.app N178 Nq181
              have pre182 := fun τ (κ : Steps p.tables e below (T181.setTop (mkF m 239 #[.val (.int i0), .val (.int i1), .val (.int i2), .val (.int i3), .val (.int kk), .val (.int (Int32.ofNat aa)), .val (.int (Int32.ofNat nn)), .val (.int cc0), .val (.int cc1), .val (.int cc2), .val (.ref ar), .val (.ref so), .val (.int (own_rf kk (own_f3 cc0 cc1 cc2) nn aa)), .val (.int (own_b 0 aa nn)), .val (.int (own_b 1 aa nn)), .val (.int (own_b 2 aa nn)), .unset] [(.int (own_inR kk cc1))])) τ) => pre180 τ (st181 _ κ)
              have pre183 := fun τ (κ : Steps p.tables e below (T181.setTop (mkF m 321 #[.val (.int i0), .val (.int i1), .val (.int i2), .val (.int i3), .val (.int kk), .val (.int (Int32.ofNat aa)), .val (.int (Int32.ofNat nn)), .val (.int cc0), .val (.int cc1), .val (.int cc2), .val (.ref ar), .val (.ref so), .val (.int (own_rf kk (own_f3 cc0 cc1 cc2) nn aa)), .val (.int (own_b 0 aa nn)), .val (.int (own_b 1 aa nn)), .val (.int (own_b 2 aa nn)), .val (.int (0 : Int32))] [(.int (1 : Int32))])) τ) => pre182 τ (by
                refine XS.ifYes X181.here hx rfl (pc0 := 239) (pc' := 306) rfl (hb hby at_239) rfl ((if0 _ _).trans (feq (fun z => hP0 (Or.inr (Or.inr (Or.inr z))))).2) (by decide) (by decide) ?_
                show Steps p.tables e below (T181.setTop (mkF m 306 #[.val (.int i0), .val (.int i1), .val (.int i2), .val (.int i3), .val (.int kk), .val (.int (Int32.ofNat aa)), .val (.int (Int32.ofNat nn)), .val (.int cc0), .val (.int cc1), .val (.int cc2), .val (.ref ar), .val (.ref so), .val (.int (own_rf kk (own_f3 cc0 cc1 cc2) nn aa)), .val (.int (own_b 0 aa nn)), .val (.int (own_b 1 aa nn)), .val (.int (own_b 2 aa nn)), .unset] [])) _
                refine XS.iconst X181.here hx rfl (hb hby at_306) ?_
                refine XS.istore X181.here hx rfl (hb hby at_307) rfl (l' := #[.val (.int i0), .val (.int i1), .val (.int i2), .val (.int i3), .val (.int kk), .val (.int (Int32.ofNat aa)), .val (.int (Int32.ofNat nn)), .val (.int cc0), .val (.int cc1), .val (.int cc2), .val (.ref ar), .val (.ref so), .val (.int (own_rf kk (own_f3 cc0 cc1 cc2) nn aa)), .val (.int (own_b 0 aa nn)), .val (.int (own_b 1 aa nn)), .val (.int (own_b 2 aa nn)), .val (.int (0 : Int32))]) rfl ?_
                show Steps p.tables e below (T181.setTop (mkF m 309 #[.val (.int i0), .val (.int i1), .val (.int i2), .val (.int i3), .val (.int kk), .val (.int (Int32.ofNat aa)), .val (.int (Int32.ofNat nn)), .val (.int cc0), .val (.int cc1), .val (.int cc2), .val (.ref ar), .val (.ref so), .val (.int (own_rf kk (own_f3 cc0 cc1 cc2) nn aa)), .val (.int (own_b 0 aa nn)), .val (.int (own_b 1 aa nn)), .val (.int (own_b 2 aa nn)), .val (.int (0 : Int32))] [])) _
                refine XS.iload X181.here hx rfl (hb hby at_309) rfl ?_
                refine XS.iload X181.here hx rfl (hb hby at_311) rfl ?_
                refine XS.icmpNo X181.here hx rfl (hb hby at_313) rfl (teq (own_rf0 (own_xP0 (fun z => hP0 (Or.inl z)) (fun z => hP0 (Or.inr (Or.inl z))) (fun z => hP0 (Or.inr (Or.inr (Or.inl z)))) (fun z => hP0 (Or.inr (Or.inr (Or.inr z))))))).2 ?_
                show Steps p.tables e below (T181.setTop (mkF m 316 #[.val (.int i0), .val (.int i1), .val (.int i2), .val (.int i3), .val (.int kk), .val (.int (Int32.ofNat aa)), .val (.int (Int32.ofNat nn)), .val (.int cc0), .val (.int cc1), .val (.int cc2), .val (.ref ar), .val (.ref so), .val (.int (own_rf kk (own_f3 cc0 cc1 cc2) nn aa)), .val (.int (own_b 0 aa nn)), .val (.int (own_b 1 aa nn)), .val (.int (own_b 2 aa nn)), .val (.int (0 : Int32))] [])) _
                refine XS.iconst X181.here hx rfl (hb hby at_316) ?_
                refine XS.goto X181.here hx rfl (pc0 := 317) (pc' := 321) rfl (hb hby at_317) (by decide) (by decide) ?_
                show Steps p.tables e below (T181.setTop (mkF m 321 #[.val (.int i0), .val (.int i1), .val (.int i2), .val (.int i3), .val (.int kk), .val (.int (Int32.ofNat aa)), .val (.int (Int32.ofNat nn)), .val (.int cc0), .val (.int cc1), .val (.int cc2), .val (.ref ar), .val (.ref so), .val (.int (own_rf kk (own_f3 cc0 cc1 cc2) nn aa)), .val (.int (own_b 0 aa nn)), .val (.int (own_b 1 aa nn)), .val (.int (own_b 2 aa nn)), .val (.int (0 : Int32))] [(.int (1 : Int32))])) _
                exact κ)
              obtain ⟨fs, hr, hrun, hended, hEnd⟩ := Stand.leaveW (s := s) (vm₁ := s.vm) X181 hS0 (Nat.zero_le _) (v := some (.int (1 : Int32))) (fun h => by rw [Bd.returns] at h; cases h)
              refine ⟨_, _, pre183 _ ?_, hrun, hended, _, _, rfl, ?_, ⟨hEnd.1, hEnd.2.1, hEnd.2.2.1, hEnd.2.2.2.mono (by decide) (by decide)⟩⟩
              · exact retN X181 hx (t := .boolean) Bd.returns (by simp) (hb hby at_321) hr
              · show Q0 Z i0 i1 i2 i3 zc fm h0 n0 _ T181.heap _
                exact ⟨rfl, N181⟩
          · have pre184 := fun τ (κ : Steps p.tables e below (T109.setTop (mkF m 206 #[.val (.int i0), .val (.int i1), .val (.int i2), .val (.int i3), .val (.int kk), .val (.int (Int32.ofNat aa)), .val (.int (Int32.ofNat nn)), .val (.int cc0), .val (.int cc1), .val (.int cc2), .val (.ref ar), .val (.ref so), .val (.int (own_rf kk (own_f3 cc0 cc1 cc2) nn aa)), .val (.int (own_b 0 aa nn)), .val (.int (own_b 1 aa nn)), .val (.int (own_b 2 aa nn)), .unset] [(.int cc2), (.int kk)])) τ) => pre109 τ (by
              refine XS.iload X109.here hx rfl (hb hby at_197) rfl ?_
              refine XS.ifNo X109.here hx rfl (hb hby at_199) rfl ((if0 _ _).trans (feq (fun z => hG2 (Or.inl z))).1) ?_
              show Steps p.tables e below (T109.setTop (mkF m 202 #[.val (.int i0), .val (.int i1), .val (.int i2), .val (.int i3), .val (.int kk), .val (.int (Int32.ofNat aa)), .val (.int (Int32.ofNat nn)), .val (.int cc0), .val (.int cc1), .val (.int cc2), .val (.ref ar), .val (.ref so), .val (.int (own_rf kk (own_f3 cc0 cc1 cc2) nn aa)), .val (.int (own_b 0 aa nn)), .val (.int (own_b 1 aa nn)), .val (.int (own_b 2 aa nn)), .unset] [])) _
              refine XS.iload X109.here hx rfl (hb hby at_202) rfl ?_
              refine XS.iload X109.here hx rfl (hb hby at_204) rfl ?_
              show Steps p.tables e below (T109.setTop (mkF m 206 #[.val (.int i0), .val (.int i1), .val (.int i2), .val (.int i3), .val (.int kk), .val (.int (Int32.ofNat aa)), .val (.int (Int32.ofNat nn)), .val (.int cc0), .val (.int cc1), .val (.int cc2), .val (.ref ar), .val (.ref so), .val (.int (own_rf kk (own_f3 cc0 cc1 cc2) nn aa)), .val (.int (own_b 0 aa nn)), .val (.int (own_b 1 aa nn)), .val (.int (own_b 2 aa nn)), .unset] [(.int cc2), (.int kk)])) _
              exact κ)
            obtain ⟨_, _, ⟨T185, L185, k185, n185⟩, -, X185, ⟨Lc185, hQ185, l185, y185, z185⟩, st185⟩ := Jvm.LawKit.callS X109 hx (y := (⟨"com/example/huiqiao/huiqiao/iso8583/ContentRunsFromPinLaw", "good", "(IC)Z"⟩ : MethodName)) hown (mvT hZ (hw _ (List.mem_of_getElem? (i := 119) rfl))) (mvT hZ (hw _ (List.mem_of_getElem? (i := 120) rfl))) (mvT hZ (hw _ (List.mem_of_getElem? (i := 24) rfl))) (mvT hZ (hw _ (List.mem_of_getElem? (i := 121) rfl))) (by decide) (backOf (W := 0) (rm24 l Z a0 hw [] kk cc2 h109 n0 Z109) hZ (hw _ (List.mem_of_getElem? (i := 121) rfl)) (hw _ (List.mem_of_getElem? (i := 24) rfl)) (Nat.le_of_ble_eq_true rfl) (Nat.le_of_ble_eq_true rfl)) (g := (mkF m 206 #[.val (.int i0), .val (.int i1), .val (.int i2), .val (.int i3), .val (.int kk), .val (.int (Int32.ofNat aa)), .val (.int (Int32.ofNat nn)), .val (.int cc0), .val (.int cc1), .val (.int cc2), .val (.ref ar), .val (.ref so), .val (.int (own_rf kk (own_f3 cc0 cc1 cc2) nn aa)), .val (.int (own_b 0 aa nn)), .val (.int (own_b 1 aa nn)), .val (.int (own_b 2 aa nn)), .unset] [(.int cc2), (.int kk)])) rfl (by rw [hml]; rfl) (argsL := [(.int kk), (.int cc2)]) (rest := []) (lenOf pd_14 rfl) rfl (by show 2 * 0 + _ ≤ _; exact Nat.le_of_eq rfl) (hb hby at_206) (fun _ _ => ⟨rfl, e109, (by decide : 4 + 0 ≤ _), (by decide : 55 + 0 ≤ _)⟩)
            dsimp only [Pt.U, Pt.locs, Pt.cells, Pt.slots] at X185 l185 y185 z185 st185 hQ185
            subst l185 y185 z185
            obtain ⟨rfl, Nq185, hh185⟩ := hQ185
            have Z185 : n0 ≤ T185.heap.size := by rw [hh185]; exact Z109
            have N185 := Fr.app N109 Nq185
            have pre186 := fun τ (κ : Steps p.tables e below (T185.setTop (mkF m 209 #[.val (.int i0), .val (.int i1), .val (.int i2), .val (.int i3), .val (.int kk), .val (.int (Int32.ofNat aa)), .val (.int (Int32.ofNat nn)), .val (.int cc0), .val (.int cc1), .val (.int cc2), .val (.ref ar), .val (.ref so), .val (.int (own_rf kk (own_f3 cc0 cc1 cc2) nn aa)), .val (.int (own_b 0 aa nn)), .val (.int (own_b 1 aa nn)), .val (.int (own_b 2 aa nn)), .unset] [(.int (own_gd kk cc2))])) τ) => pre184 τ (st185 _ κ)
            have pre187 := fun τ (κ : Steps p.tables e below (T185.setTop (mkF m 321 #[.val (.int i0), .val (.int i1), .val (.int i2), .val (.int i3), .val (.int kk), .val (.int (Int32.ofNat aa)), .val (.int (Int32.ofNat nn)), .val (.int cc0), .val (.int cc1), .val (.int cc2), .val (.ref ar), .val (.ref so), .val (.int (own_rf kk (own_f3 cc0 cc1 cc2) nn aa)), .val (.int (own_b 0 aa nn)), .val (.int (own_b 1 aa nn)), .val (.int (own_b 2 aa nn)), .val (.int (0 : Int32))] [(.int (1 : Int32))])) τ) => pre186 τ (by
              refine XS.ifYes X185.here hx rfl (pc0 := 209) (pc' := 306) rfl (hb hby at_209) rfl ((if0 _ _).trans (teq (Decidable.byContradiction fun z => hG2 (Or.inr z))).1) (by decide) (by decide) ?_
              show Steps p.tables e below (T185.setTop (mkF m 306 #[.val (.int i0), .val (.int i1), .val (.int i2), .val (.int i3), .val (.int kk), .val (.int (Int32.ofNat aa)), .val (.int (Int32.ofNat nn)), .val (.int cc0), .val (.int cc1), .val (.int cc2), .val (.ref ar), .val (.ref so), .val (.int (own_rf kk (own_f3 cc0 cc1 cc2) nn aa)), .val (.int (own_b 0 aa nn)), .val (.int (own_b 1 aa nn)), .val (.int (own_b 2 aa nn)), .unset] [])) _
              refine XS.iconst X185.here hx rfl (hb hby at_306) ?_
              refine XS.istore X185.here hx rfl (hb hby at_307) rfl (l' := #[.val (.int i0), .val (.int i1), .val (.int i2), .val (.int i3), .val (.int kk), .val (.int (Int32.ofNat aa)), .val (.int (Int32.ofNat nn)), .val (.int cc0), .val (.int cc1), .val (.int cc2), .val (.ref ar), .val (.ref so), .val (.int (own_rf kk (own_f3 cc0 cc1 cc2) nn aa)), .val (.int (own_b 0 aa nn)), .val (.int (own_b 1 aa nn)), .val (.int (own_b 2 aa nn)), .val (.int (0 : Int32))]) rfl ?_
              show Steps p.tables e below (T185.setTop (mkF m 309 #[.val (.int i0), .val (.int i1), .val (.int i2), .val (.int i3), .val (.int kk), .val (.int (Int32.ofNat aa)), .val (.int (Int32.ofNat nn)), .val (.int cc0), .val (.int cc1), .val (.int cc2), .val (.ref ar), .val (.ref so), .val (.int (own_rf kk (own_f3 cc0 cc1 cc2) nn aa)), .val (.int (own_b 0 aa nn)), .val (.int (own_b 1 aa nn)), .val (.int (own_b 2 aa nn)), .val (.int (0 : Int32))] [])) _
              refine XS.iload X185.here hx rfl (hb hby at_309) rfl ?_
              refine XS.iload X185.here hx rfl (hb hby at_311) rfl ?_
              refine XS.icmpNo X185.here hx rfl (hb hby at_313) rfl (teq (own_rf0 (own_xG2 (fun z => hG2 (Or.inl z)) (Decidable.byContradiction fun z => hG2 (Or.inr z))))).2 ?_
              show Steps p.tables e below (T185.setTop (mkF m 316 #[.val (.int i0), .val (.int i1), .val (.int i2), .val (.int i3), .val (.int kk), .val (.int (Int32.ofNat aa)), .val (.int (Int32.ofNat nn)), .val (.int cc0), .val (.int cc1), .val (.int cc2), .val (.ref ar), .val (.ref so), .val (.int (own_rf kk (own_f3 cc0 cc1 cc2) nn aa)), .val (.int (own_b 0 aa nn)), .val (.int (own_b 1 aa nn)), .val (.int (own_b 2 aa nn)), .val (.int (0 : Int32))] [])) _
              refine XS.iconst X185.here hx rfl (hb hby at_316) ?_
              refine XS.goto X185.here hx rfl (pc0 := 317) (pc' := 321) rfl (hb hby at_317) (by decide) (by decide) ?_
              show Steps p.tables e below (T185.setTop (mkF m 321 #[.val (.int i0), .val (.int i1), .val (.int i2), .val (.int i3), .val (.int kk), .val (.int (Int32.ofNat aa)), .val (.int (Int32.ofNat nn)), .val (.int cc0), .val (.int cc1), .val (.int cc2), .val (.ref ar), .val (.ref so), .val (.int (own_rf kk (own_f3 cc0 cc1 cc2) nn aa)), .val (.int (own_b 0 aa nn)), .val (.int (own_b 1 aa nn)), .val (.int (own_b 2 aa nn)), .val (.int (0 : Int32))] [(.int (1 : Int32))])) _
              exact κ)
            obtain ⟨fs, hr, hrun, hended, hEnd⟩ := Stand.leaveW (s := s) (vm₁ := s.vm) X185 hS0 (Nat.zero_le _) (v := some (.int (1 : Int32))) (fun h => by rw [Bd.returns] at h; cases h)
            refine ⟨_, _, pre187 _ ?_, hrun, hended, _, _, rfl, ?_, ⟨hEnd.1, hEnd.2.1, hEnd.2.2.1, hEnd.2.2.2.mono (by decide) (by decide)⟩⟩
            · exact retN X185 hx (t := .boolean) Bd.returns (by simp) (hb hby at_321) hr
            · show Q0 Z i0 i1 i2 i3 zc fm h0 n0 _ T185.heap _
              exact ⟨rfl, N185⟩
        · have pre188 := fun τ (κ : Steps p.tables e below (T102.setTop (mkF m 191 #[.val (.int i0), .val (.int i1), .val (.int i2), .val (.int i3), .val (.int kk), .val (.int (Int32.ofNat aa)), .val (.int (Int32.ofNat nn)), .val (.int cc0), .val (.int cc1), .val (.int cc2), .val (.ref ar), .val (.ref so), .val (.int (own_rf kk (own_f3 cc0 cc1 cc2) nn aa)), .val (.int (own_b 0 aa nn)), .val (.int (own_b 1 aa nn)), .val (.int (own_b 2 aa nn)), .unset] [(.int cc1), (.int kk)])) τ) => pre102 τ (by
            refine XS.iload X102.here hx rfl (hb hby at_182) rfl ?_
            refine XS.ifNo X102.here hx rfl (hb hby at_184) rfl ((if0 _ _).trans (feq (fun z => hG1 (Or.inl z))).1) ?_
            show Steps p.tables e below (T102.setTop (mkF m 187 #[.val (.int i0), .val (.int i1), .val (.int i2), .val (.int i3), .val (.int kk), .val (.int (Int32.ofNat aa)), .val (.int (Int32.ofNat nn)), .val (.int cc0), .val (.int cc1), .val (.int cc2), .val (.ref ar), .val (.ref so), .val (.int (own_rf kk (own_f3 cc0 cc1 cc2) nn aa)), .val (.int (own_b 0 aa nn)), .val (.int (own_b 1 aa nn)), .val (.int (own_b 2 aa nn)), .unset] [])) _
            refine XS.iload X102.here hx rfl (hb hby at_187) rfl ?_
            refine XS.iload X102.here hx rfl (hb hby at_189) rfl ?_
            show Steps p.tables e below (T102.setTop (mkF m 191 #[.val (.int i0), .val (.int i1), .val (.int i2), .val (.int i3), .val (.int kk), .val (.int (Int32.ofNat aa)), .val (.int (Int32.ofNat nn)), .val (.int cc0), .val (.int cc1), .val (.int cc2), .val (.ref ar), .val (.ref so), .val (.int (own_rf kk (own_f3 cc0 cc1 cc2) nn aa)), .val (.int (own_b 0 aa nn)), .val (.int (own_b 1 aa nn)), .val (.int (own_b 2 aa nn)), .unset] [(.int cc1), (.int kk)])) _
            exact κ)
          obtain ⟨_, _, ⟨T189, L189, k189, n189⟩, -, X189, ⟨Lc189, hQ189, l189, y189, z189⟩, st189⟩ := Jvm.LawKit.callS X102 hx (y := (⟨"com/example/huiqiao/huiqiao/iso8583/ContentRunsFromPinLaw", "good", "(IC)Z"⟩ : MethodName)) hown (mvT hZ (hw _ (List.mem_of_getElem? (i := 119) rfl))) (mvT hZ (hw _ (List.mem_of_getElem? (i := 120) rfl))) (mvT hZ (hw _ (List.mem_of_getElem? (i := 24) rfl))) (mvT hZ (hw _ (List.mem_of_getElem? (i := 121) rfl))) (by decide) (backOf (W := 0) (rm24 l Z a0 hw [] kk cc1 h102 n0 Z102) hZ (hw _ (List.mem_of_getElem? (i := 121) rfl)) (hw _ (List.mem_of_getElem? (i := 24) rfl)) (Nat.le_of_ble_eq_true rfl) (Nat.le_of_ble_eq_true rfl)) (g := (mkF m 191 #[.val (.int i0), .val (.int i1), .val (.int i2), .val (.int i3), .val (.int kk), .val (.int (Int32.ofNat aa)), .val (.int (Int32.ofNat nn)), .val (.int cc0), .val (.int cc1), .val (.int cc2), .val (.ref ar), .val (.ref so), .val (.int (own_rf kk (own_f3 cc0 cc1 cc2) nn aa)), .val (.int (own_b 0 aa nn)), .val (.int (own_b 1 aa nn)), .val (.int (own_b 2 aa nn)), .unset] [(.int cc1), (.int kk)])) rfl (by rw [hml]; rfl) (argsL := [(.int kk), (.int cc1)]) (rest := []) (lenOf pd_14 rfl) rfl (by show 2 * 0 + _ ≤ _; exact Nat.le_of_eq rfl) (hb hby at_191) (fun _ _ => ⟨rfl, e102, (by decide : 4 + 0 ≤ _), (by decide : 55 + 0 ≤ _)⟩)
          dsimp only [Pt.U, Pt.locs, Pt.cells, Pt.slots] at X189 l189 y189 z189 st189 hQ189
          subst l189 y189 z189
          obtain ⟨rfl, Nq189, hh189⟩ := hQ189
          have Z189 : n0 ≤ T189.heap.size := by rw [hh189]; exact Z102
          have N189 := Fr.app N102 Nq189
          have pre190 := fun τ (κ : Steps p.tables e below (T189.setTop (mkF m 194 #[.val (.int i0), .val (.int i1), .val (.int i2), .val (.int i3), .val (.int kk), .val (.int (Int32.ofNat aa)), .val (.int (Int32.ofNat nn)), .val (.int cc0), .val (.int cc1), .val (.int cc2), .val (.ref ar), .val (.ref so), .val (.int (own_rf kk (own_f3 cc0 cc1 cc2) nn aa)), .val (.int (own_b 0 aa nn)), .val (.int (own_b 1 aa nn)), .val (.int (own_b 2 aa nn)), .unset] [(.int (own_gd kk cc1))])) τ) => pre188 τ (st189 _ κ)
          have pre191 := fun τ (κ : Steps p.tables e below (T189.setTop (mkF m 321 #[.val (.int i0), .val (.int i1), .val (.int i2), .val (.int i3), .val (.int kk), .val (.int (Int32.ofNat aa)), .val (.int (Int32.ofNat nn)), .val (.int cc0), .val (.int cc1), .val (.int cc2), .val (.ref ar), .val (.ref so), .val (.int (own_rf kk (own_f3 cc0 cc1 cc2) nn aa)), .val (.int (own_b 0 aa nn)), .val (.int (own_b 1 aa nn)), .val (.int (own_b 2 aa nn)), .val (.int (0 : Int32))] [(.int (1 : Int32))])) τ) => pre190 τ (by
            refine XS.ifYes X189.here hx rfl (pc0 := 194) (pc' := 306) rfl (hb hby at_194) rfl ((if0 _ _).trans (teq (Decidable.byContradiction fun z => hG1 (Or.inr z))).1) (by decide) (by decide) ?_
            show Steps p.tables e below (T189.setTop (mkF m 306 #[.val (.int i0), .val (.int i1), .val (.int i2), .val (.int i3), .val (.int kk), .val (.int (Int32.ofNat aa)), .val (.int (Int32.ofNat nn)), .val (.int cc0), .val (.int cc1), .val (.int cc2), .val (.ref ar), .val (.ref so), .val (.int (own_rf kk (own_f3 cc0 cc1 cc2) nn aa)), .val (.int (own_b 0 aa nn)), .val (.int (own_b 1 aa nn)), .val (.int (own_b 2 aa nn)), .unset] [])) _
            refine XS.iconst X189.here hx rfl (hb hby at_306) ?_
            refine XS.istore X189.here hx rfl (hb hby at_307) rfl (l' := #[.val (.int i0), .val (.int i1), .val (.int i2), .val (.int i3), .val (.int kk), .val (.int (Int32.ofNat aa)), .val (.int (Int32.ofNat nn)), .val (.int cc0), .val (.int cc1), .val (.int cc2), .val (.ref ar), .val (.ref so), .val (.int (own_rf kk (own_f3 cc0 cc1 cc2) nn aa)), .val (.int (own_b 0 aa nn)), .val (.int (own_b 1 aa nn)), .val (.int (own_b 2 aa nn)), .val (.int (0 : Int32))]) rfl ?_
            show Steps p.tables e below (T189.setTop (mkF m 309 #[.val (.int i0), .val (.int i1), .val (.int i2), .val (.int i3), .val (.int kk), .val (.int (Int32.ofNat aa)), .val (.int (Int32.ofNat nn)), .val (.int cc0), .val (.int cc1), .val (.int cc2), .val (.ref ar), .val (.ref so), .val (.int (own_rf kk (own_f3 cc0 cc1 cc2) nn aa)), .val (.int (own_b 0 aa nn)), .val (.int (own_b 1 aa nn)), .val (.int (own_b 2 aa nn)), .val (.int (0 : Int32))] [])) _
            refine XS.iload X189.here hx rfl (hb hby at_309) rfl ?_
            refine XS.iload X189.here hx rfl (hb hby at_311) rfl ?_
            refine XS.icmpNo X189.here hx rfl (hb hby at_313) rfl (teq (own_rf0 (own_xG1 (fun z => hG1 (Or.inl z)) (Decidable.byContradiction fun z => hG1 (Or.inr z))))).2 ?_
            show Steps p.tables e below (T189.setTop (mkF m 316 #[.val (.int i0), .val (.int i1), .val (.int i2), .val (.int i3), .val (.int kk), .val (.int (Int32.ofNat aa)), .val (.int (Int32.ofNat nn)), .val (.int cc0), .val (.int cc1), .val (.int cc2), .val (.ref ar), .val (.ref so), .val (.int (own_rf kk (own_f3 cc0 cc1 cc2) nn aa)), .val (.int (own_b 0 aa nn)), .val (.int (own_b 1 aa nn)), .val (.int (own_b 2 aa nn)), .val (.int (0 : Int32))] [])) _
            refine XS.iconst X189.here hx rfl (hb hby at_316) ?_
            refine XS.goto X189.here hx rfl (pc0 := 317) (pc' := 321) rfl (hb hby at_317) (by decide) (by decide) ?_
            show Steps p.tables e below (T189.setTop (mkF m 321 #[.val (.int i0), .val (.int i1), .val (.int i2), .val (.int i3), .val (.int kk), .val (.int (Int32.ofNat aa)), .val (.int (Int32.ofNat nn)), .val (.int cc0), .val (.int cc1), .val (.int cc2), .val (.ref ar), .val (.ref so), .val (.int (own_rf kk (own_f3 cc0 cc1 cc2) nn aa)), .val (.int (own_b 0 aa nn)), .val (.int (own_b 1 aa nn)), .val (.int (own_b 2 aa nn)), .val (.int (0 : Int32))] [(.int (1 : Int32))])) _
            exact κ)
          obtain ⟨fs, hr, hrun, hended, hEnd⟩ := Stand.leaveW (s := s) (vm₁ := s.vm) X189 hS0 (Nat.zero_le _) (v := some (.int (1 : Int32))) (fun h => by rw [Bd.returns] at h; cases h)
          refine ⟨_, _, pre191 _ ?_, hrun, hended, _, _, rfl, ?_, ⟨hEnd.1, hEnd.2.1, hEnd.2.2.1, hEnd.2.2.2.mono (by decide) (by decide)⟩⟩
          · exact retN X189 hx (t := .boolean) Bd.returns (by simp) (hb hby at_321) hr
          · show Q0 Z i0 i1 i2 i3 zc fm h0 n0 _ T189.heap _
            exact ⟨rfl, N189⟩
      · have pre192 := fun τ (κ : Steps p.tables e below (T79.setTop (mkF m 176 #[.val (.int i0), .val (.int i1), .val (.int i2), .val (.int i3), .val (.int kk), .val (.int (Int32.ofNat aa)), .val (.int (Int32.ofNat nn)), .val (.int cc0), .val (.int cc1), .val (.int cc2), .val (.ref ar), .val (.ref so), .val (.int (own_rf kk (own_f3 cc0 cc1 cc2) nn aa)), .val (.int (own_b 0 aa nn)), .val (.int (own_b 1 aa nn)), .val (.int (own_b 2 aa nn)), .unset] [(.int cc0), (.int kk)])) τ) => pre101 τ (by
          refine XS.iload X79.here hx rfl (hb hby at_167) rfl ?_
          refine XS.ifNo X79.here hx rfl (hb hby at_169) rfl ((if0 _ _).trans (feq (fun z => hG0 (Or.inl z))).1) ?_
          show Steps p.tables e below (T79.setTop (mkF m 172 #[.val (.int i0), .val (.int i1), .val (.int i2), .val (.int i3), .val (.int kk), .val (.int (Int32.ofNat aa)), .val (.int (Int32.ofNat nn)), .val (.int cc0), .val (.int cc1), .val (.int cc2), .val (.ref ar), .val (.ref so), .val (.int (own_rf kk (own_f3 cc0 cc1 cc2) nn aa)), .val (.int (own_b 0 aa nn)), .val (.int (own_b 1 aa nn)), .val (.int (own_b 2 aa nn)), .unset] [])) _
          refine XS.iload X79.here hx rfl (hb hby at_172) rfl ?_
          refine XS.iload X79.here hx rfl (hb hby at_174) rfl ?_
          show Steps p.tables e below (T79.setTop (mkF m 176 #[.val (.int i0), .val (.int i1), .val (.int i2), .val (.int i3), .val (.int kk), .val (.int (Int32.ofNat aa)), .val (.int (Int32.ofNat nn)), .val (.int cc0), .val (.int cc1), .val (.int cc2), .val (.ref ar), .val (.ref so), .val (.int (own_rf kk (own_f3 cc0 cc1 cc2) nn aa)), .val (.int (own_b 0 aa nn)), .val (.int (own_b 1 aa nn)), .val (.int (own_b 2 aa nn)), .unset] [(.int cc0), (.int kk)])) _
          exact κ)
        obtain ⟨_, _, ⟨T193, L193, k193, n193⟩, -, X193, ⟨Lc193, hQ193, l193, y193, z193⟩, st193⟩ := Jvm.LawKit.callS X79 hx (y := (⟨"com/example/huiqiao/huiqiao/iso8583/ContentRunsFromPinLaw", "good", "(IC)Z"⟩ : MethodName)) hown (mvT hZ (hw _ (List.mem_of_getElem? (i := 119) rfl))) (mvT hZ (hw _ (List.mem_of_getElem? (i := 120) rfl))) (mvT hZ (hw _ (List.mem_of_getElem? (i := 24) rfl))) (mvT hZ (hw _ (List.mem_of_getElem? (i := 121) rfl))) (by decide) (backOf (W := 0) (rm24 l Z a0 hw [] kk cc0 T79.heap n0 Z79) hZ (hw _ (List.mem_of_getElem? (i := 121) rfl)) (hw _ (List.mem_of_getElem? (i := 24) rfl)) (Nat.le_of_ble_eq_true rfl) (Nat.le_of_ble_eq_true rfl)) (g := (mkF m 176 #[.val (.int i0), .val (.int i1), .val (.int i2), .val (.int i3), .val (.int kk), .val (.int (Int32.ofNat aa)), .val (.int (Int32.ofNat nn)), .val (.int cc0), .val (.int cc1), .val (.int cc2), .val (.ref ar), .val (.ref so), .val (.int (own_rf kk (own_f3 cc0 cc1 cc2) nn aa)), .val (.int (own_b 0 aa nn)), .val (.int (own_b 1 aa nn)), .val (.int (own_b 2 aa nn)), .unset] [(.int cc0), (.int kk)])) rfl (by rw [hml]; rfl) (argsL := [(.int kk), (.int cc0)]) (rest := []) (lenOf pd_14 rfl) rfl (by show 2 * 0 + _ ≤ _; exact Nat.le_of_eq rfl) (hb hby at_176) (fun _ _ => ⟨rfl, rfl, (by decide : 4 + 0 ≤ _), (by decide : 55 + 0 ≤ _)⟩)
        dsimp only [Pt.U, Pt.locs, Pt.cells, Pt.slots] at X193 l193 y193 z193 st193 hQ193
        subst l193 y193 z193
        obtain ⟨rfl, Nq193, hh193⟩ := hQ193
        have Z193 : n0 ≤ T193.heap.size := by rw [hh193]; exact Z79
        have N193 := Fr.app N79 Nq193
        have pre194 := fun τ (κ : Steps p.tables e below (T193.setTop (mkF m 179 #[.val (.int i0), .val (.int i1), .val (.int i2), .val (.int i3), .val (.int kk), .val (.int (Int32.ofNat aa)), .val (.int (Int32.ofNat nn)), .val (.int cc0), .val (.int cc1), .val (.int cc2), .val (.ref ar), .val (.ref so), .val (.int (own_rf kk (own_f3 cc0 cc1 cc2) nn aa)), .val (.int (own_b 0 aa nn)), .val (.int (own_b 1 aa nn)), .val (.int (own_b 2 aa nn)), .unset] [(.int (own_gd kk cc0))])) τ) => pre192 τ (st193 _ κ)
        have pre195 := fun τ (κ : Steps p.tables e below (T193.setTop (mkF m 321 #[.val (.int i0), .val (.int i1), .val (.int i2), .val (.int i3), .val (.int kk), .val (.int (Int32.ofNat aa)), .val (.int (Int32.ofNat nn)), .val (.int cc0), .val (.int cc1), .val (.int cc2), .val (.ref ar), .val (.ref so), .val (.int (own_rf kk (own_f3 cc0 cc1 cc2) nn aa)), .val (.int (own_b 0 aa nn)), .val (.int (own_b 1 aa nn)), .val (.int (own_b 2 aa nn)), .val (.int (0 : Int32))] [(.int (1 : Int32))])) τ) => pre194 τ (by
          refine XS.ifYes X193.here hx rfl (pc0 := 179) (pc' := 306) rfl (hb hby at_179) rfl ((if0 _ _).trans (teq (Decidable.byContradiction fun z => hG0 (Or.inr z))).1) (by decide) (by decide) ?_
          show Steps p.tables e below (T193.setTop (mkF m 306 #[.val (.int i0), .val (.int i1), .val (.int i2), .val (.int i3), .val (.int kk), .val (.int (Int32.ofNat aa)), .val (.int (Int32.ofNat nn)), .val (.int cc0), .val (.int cc1), .val (.int cc2), .val (.ref ar), .val (.ref so), .val (.int (own_rf kk (own_f3 cc0 cc1 cc2) nn aa)), .val (.int (own_b 0 aa nn)), .val (.int (own_b 1 aa nn)), .val (.int (own_b 2 aa nn)), .unset] [])) _
          refine XS.iconst X193.here hx rfl (hb hby at_306) ?_
          refine XS.istore X193.here hx rfl (hb hby at_307) rfl (l' := #[.val (.int i0), .val (.int i1), .val (.int i2), .val (.int i3), .val (.int kk), .val (.int (Int32.ofNat aa)), .val (.int (Int32.ofNat nn)), .val (.int cc0), .val (.int cc1), .val (.int cc2), .val (.ref ar), .val (.ref so), .val (.int (own_rf kk (own_f3 cc0 cc1 cc2) nn aa)), .val (.int (own_b 0 aa nn)), .val (.int (own_b 1 aa nn)), .val (.int (own_b 2 aa nn)), .val (.int (0 : Int32))]) rfl ?_
          show Steps p.tables e below (T193.setTop (mkF m 309 #[.val (.int i0), .val (.int i1), .val (.int i2), .val (.int i3), .val (.int kk), .val (.int (Int32.ofNat aa)), .val (.int (Int32.ofNat nn)), .val (.int cc0), .val (.int cc1), .val (.int cc2), .val (.ref ar), .val (.ref so), .val (.int (own_rf kk (own_f3 cc0 cc1 cc2) nn aa)), .val (.int (own_b 0 aa nn)), .val (.int (own_b 1 aa nn)), .val (.int (own_b 2 aa nn)), .val (.int (0 : Int32))] [])) _
          refine XS.iload X193.here hx rfl (hb hby at_309) rfl ?_
          refine XS.iload X193.here hx rfl (hb hby at_311) rfl ?_
          refine XS.icmpNo X193.here hx rfl (hb hby at_313) rfl (teq (own_rf0 (own_xG0 (fun z => hG0 (Or.inl z)) (Decidable.byContradiction fun z => hG0 (Or.inr z))))).2 ?_
          show Steps p.tables e below (T193.setTop (mkF m 316 #[.val (.int i0), .val (.int i1), .val (.int i2), .val (.int i3), .val (.int kk), .val (.int (Int32.ofNat aa)), .val (.int (Int32.ofNat nn)), .val (.int cc0), .val (.int cc1), .val (.int cc2), .val (.ref ar), .val (.ref so), .val (.int (own_rf kk (own_f3 cc0 cc1 cc2) nn aa)), .val (.int (own_b 0 aa nn)), .val (.int (own_b 1 aa nn)), .val (.int (own_b 2 aa nn)), .val (.int (0 : Int32))] [])) _
          refine XS.iconst X193.here hx rfl (hb hby at_316) ?_
          refine XS.goto X193.here hx rfl (pc0 := 317) (pc' := 321) rfl (hb hby at_317) (by decide) (by decide) ?_
          show Steps p.tables e below (T193.setTop (mkF m 321 #[.val (.int i0), .val (.int i1), .val (.int i2), .val (.int i3), .val (.int kk), .val (.int (Int32.ofNat aa)), .val (.int (Int32.ofNat nn)), .val (.int cc0), .val (.int cc1), .val (.int cc2), .val (.ref ar), .val (.ref so), .val (.int (own_rf kk (own_f3 cc0 cc1 cc2) nn aa)), .val (.int (own_b 0 aa nn)), .val (.int (own_b 1 aa nn)), .val (.int (own_b 2 aa nn)), .val (.int (0 : Int32))] [(.int (1 : Int32))])) _
          exact κ)
        obtain ⟨fs, hr, hrun, hended, hEnd⟩ := Stand.leaveW (s := s) (vm₁ := s.vm) X193 hS0 (Nat.zero_le _) (v := some (.int (1 : Int32))) (fun h => by rw [Bd.returns] at h; cases h)
        refine ⟨_, _, pre195 _ ?_, hrun, hended, _, _, rfl, ?_, ⟨hEnd.1, hEnd.2.1, hEnd.2.2.1, hEnd.2.2.2.mono (by decide) (by decide)⟩⟩
        · exact retN X193 hx (t := .boolean) Bd.returns (by simp) (hb hby at_321) hr
        · show Q0 Z i0 i1 i2 i3 zc fm h0 n0 _ T193.heap _
          exact ⟨rfl, N193⟩

theorem own_eqs {s : State} {args : Array Value} {C n d : String} {k : Int32} (h : (Cond.eq (.static C n d) (.int k)).before args s = true) : (Term.static C n d).eval args s none [] s = some (.int k) := by
  have h' := Cond.before_iff.mp h
  obtain ⟨x, y, h1, h2, -, k2⟩ := cmp_v (Or.inl h')
  cases h2.symm.trans (Term.int_eval k)
  obtain ⟨z, rfl⟩ := k2
  have e := gotT (Cond.eq_ints h1 (Term.int_eval k)) h'
  rw [h1, e]

set_option maxRecDepth 65536 in
set_option maxHeartbeats 40000000 in
theorem comes_1 {Post : Tables → Env → Array Value → State → Outcome → State → Prop} (hpost : ∀ tb e args s v u, (limb_1_1.after args s (.returned v) u = true ∧ limb_1_2.after args s (.returned v) u = true ∧ True) → FramedW s (.returned v) u (Jvm.fieldLocs frame_1_writes args s ++ Jvm.arrayLocs frame_1_arrays args s ++ Jvm.staticLocs frame_1_statics s) 24 1152 → Post tb e args s (.returned v) u) :
    ArmFor flags0 classFile x code maxLocals ret World_1 tables_1 room_1 Calls_1 rest_1 Pre_1 Post := by
  intro l hfl _ _ p e ha hc hk s m args below hf hA hF happ hP
  obtain ⟨hcalls, hrest, hpre⟩ := hP
  obtain ⟨-, -, -, hnamed, -, -, -, hat⟩ := (Spec.applies_iff hf).mp happ
  obtain ⟨hg, hn⟩ := and_e (Cond.before_iff.mp (show (Jvm.Cond.and given_1 narrow_1).before args s = true from hpre))
  obtain ⟨gc, ga⟩ := and_e hg
  obtain ⟨ga0, gr0⟩ := and_e ga
  obtain ⟨ga1, gr1⟩ := and_e gr0
  obtain ⟨ga2, gr2⟩ := and_e gr1
  obtain ⟨w0, w1, w2, w3, rfl⟩ : ∃ w0 w1 w2 w3 : Value, args = #[w0, w1, w2, w3] := by
    have hs : args.size = 4 := by simpa [Cond.value, given_1] using gc
    obtain ⟨L⟩ := args
    match L, hs with
    | [w0, w1, w2, w3], _ => exact ⟨w0, w1, w2, w3, rfl⟩
  have hw := fun d (hd : d ∈ tables_1) => atoms_spec (ws := Jvm.Cond.code x code maxLocals ret :: tables_1) hat d (List.mem_cons_of_mem _ hd)
  have hfit : Fit s := fun {y c} hc i hi => by
    obtain ⟨ha, rfl⟩ := Array.getElem?_eq_some_iff.mp hc
    have q := List.all_eq_true.mp ((Array.all_eq_true_iff_forall_mem.mp hF) _ (Array.getElem_mem ha)) i (List.mem_range.mpr hi)
    simpa [Array.getElem?_eq_getElem hi] using q
  obtain ⟨hsets, hown0⟩ := atoms_of _ (rest_1_c_eq ▸ (show rest_1_c.before _ s = true from hrest))
  have n3 := not_v (Cond.before_iff.mp (hsets _ (List.mem_of_getElem? (i := 2) rfl)))
  obtain ⟨zc, ezc⟩ := is_v (Cond.before_iff.mp (hsets _ (List.mem_of_getElem? (i := 1) rfl)))
  have S8 : Sta s s.heap "java/lang/String" "COMPACT_STRINGS" "Z" (.int zc) := Sta.start ezc (Or.inl (hsets _ (List.mem_of_getElem? (i := 0) rfl)))
  have c9 : ¬ (zc = (0 : Int32)) := gotF (Cond.eq_ints ezc (Term.int_eval (0))) n3
  obtain ⟨fm, efm, rfm⟩ := isR_v (Cond.before_iff.mp (hsets _ (List.mem_of_getElem? (i := 8) rfl)))
  have U0 : own_ST s zc fm := ⟨S8, c9, Sta.start (own_eqs (hsets _ (List.mem_of_getElem? (i := 12) rfl))) (Or.inl (hsets _ (List.mem_of_getElem? (i := 11) rfl))), Sta.start (own_eqs (hsets _ (List.mem_of_getElem? (i := 15) rfl))) (Or.inl (hsets _ (List.mem_of_getElem? (i := 14) rfl))), Sta.start (own_eqs (hsets _ (List.mem_of_getElem? (i := 18) rfl))) (Or.inl (hsets _ (List.mem_of_getElem? (i := 17) rfl))), Sta.start efm (Or.inl (hsets _ (List.mem_of_getElem? (i := 7) rfl))), rfm⟩
  have hheld : CHv s consts_1 s.vm s.heap := CHv.start (own_EL hw) hcalls.1 (hsets _ (List.mem_of_getElem? (i := 2) rfl)) (hw _ (List.mem_of_getElem? (i := 15) rfl)) (hw _ (List.mem_of_getElem? (i := 2) rfl))
  obtain ⟨x0, y0⟩ := and_e hn
  obtain ⟨x1, y1⟩ := and_e y0
  obtain ⟨x2, y2⟩ := and_e y1
  obtain ⟨x3, y3⟩ := and_e y2
  obtain ⟨x4, y4⟩ := and_e y3
  obtain ⟨x5, y5⟩ := and_e y4
  obtain ⟨x6, y6⟩ := and_e y5
  obtain ⟨x7, y7⟩ := and_e y6
  obtain ⟨x8, y8⟩ := and_e y7
  obtain ⟨x9, y9⟩ := and_e y8
  obtain ⟨x10, y10⟩ := and_e y9
  obtain ⟨x11, y11⟩ := and_e y10
  obtain ⟨x12, y12⟩ := and_e y11
  obtain ⟨x13, y13⟩ := and_e y12
  obtain ⟨x14, y14⟩ := and_e y13
  obtain ⟨x15, y15⟩ := and_e y14
  obtain ⟨x16, y16⟩ := and_e y15
  obtain ⟨x17, y17⟩ := and_e y16
  obtain ⟨x18, y18⟩ := and_e y17
  obtain ⟨x19, y19⟩ := and_e y18
  obtain ⟨x20, y20⟩ := and_e y19
  obtain ⟨x21, y21⟩ := and_e y20
  obtain ⟨x22, y22⟩ := and_e y21
  obtain ⟨x23, y23⟩ := and_e y22
  obtain ⟨x24, y24⟩ := and_e y23
  obtain ⟨x25, y25⟩ := and_e y24
  obtain ⟨x26, y26⟩ := and_e y25
  obtain ⟨x27, y27⟩ := and_e y26
  obtain ⟨x28, y28⟩ := and_e y27
  obtain ⟨x29, y29⟩ := and_e y28
  obtain ⟨x30, y30⟩ := and_e y29
  obtain ⟨x31, y31⟩ := and_e y30
  obtain ⟨x32, y32⟩ := and_e y31
  obtain ⟨x33, y33⟩ := and_e y32
  obtain ⟨x34, y34⟩ := and_e y33
  obtain ⟨x35, y35⟩ := and_e y34
  obtain ⟨x36, y36⟩ := and_e y35
  obtain ⟨x37, y37⟩ := and_e y36
  obtain ⟨x38, y38⟩ := and_e y37
  obtain ⟨x39, y39⟩ := and_e y38
  obtain ⟨x40, y40⟩ := and_e y39
  obtain ⟨x41, y41⟩ := and_e y40
  obtain ⟨x42, y42⟩ := and_e y41
  obtain ⟨x43, y43⟩ := and_e y42
  obtain ⟨x44, y44⟩ := and_e y43
  obtain ⟨x45, y45⟩ := and_e y44
  obtain ⟨x46, y46⟩ := and_e y45
  have C0 : own_CS s 0 "N" := by
    refine own_CSmk hfit (C := "com/example/huiqiao/huiqiao/iso8583/SwitchField$Content") (Or.inl rfl) (hw _ (List.mem_of_getElem? (i := 27) rfl)) (hw _ (List.mem_of_getElem? (i := 28) rfl)) (pv := 0) (by decide) x0 x1 x12 x13 ?_
    intro ir cl et A hs j hj
    rcases (show (0 ≤ j ∧ j < 48) ∨ (48 ≤ j ∧ j < 58) ∨ (58 ≤ j ∧ j < 256) by omega) with q | q | q
    · have ev : ∀ j, j < 256 → 0 ≤ j → j < 48 → own_inR 0 (Int32.ofNat j) = 0 := by decide +kernel
      rw [ev j hj q.1 q.2]; exact own_rA et A hs x31 hj (own_leN 48 (by decide) (by decide) hj q.2)
    · have ev : ∀ j, j < 256 → 48 ≤ j → j < 58 → own_inR 0 (Int32.ofNat j) = 1 := by decide +kernel
      rw [ev j hj q.1 q.2]; exact own_rB et A hs x32 hj (own_ltN' 48 (by decide) (by decide) hj q.1) (own_leN 58 (by decide) (by decide) hj q.2)
    · have ev : ∀ j, j < 256 → 58 ≤ j → j < 256 → own_inR 0 (Int32.ofNat j) = 0 := by decide +kernel
      rw [ev j hj q.1 q.2]; exact own_rC et A hs x33 hj (own_ltN' 58 (by decide) (by decide) hj q.1)
  have C1 : own_CS s 1 "AN" := by
    refine own_CSmk hfit (C := "com/example/huiqiao/huiqiao/iso8583/SwitchField$Content") (Or.inl rfl) (hw _ (List.mem_of_getElem? (i := 27) rfl)) (hw _ (List.mem_of_getElem? (i := 54) rfl)) (pv := 1) (by decide) x6 x7 x10 x11 ?_
    intro ir cl et A hs j hj
    rcases (show (0 ≤ j ∧ j < 48) ∨ (48 ≤ j ∧ j < 58) ∨ (58 ≤ j ∧ j < 65) ∨ (65 ≤ j ∧ j < 91) ∨ (91 ≤ j ∧ j < 97) ∨ (97 ≤ j ∧ j < 123) ∨ (123 ≤ j ∧ j < 256) by omega) with q | q | q | q | q | q | q
    · have ev : ∀ j, j < 256 → 0 ≤ j → j < 48 → own_inR 1 (Int32.ofNat j) = 0 := by decide +kernel
      rw [ev j hj q.1 q.2]; exact own_rA et A hs x24 hj (own_leN 48 (by decide) (by decide) hj q.2)
    · have ev : ∀ j, j < 256 → 48 ≤ j → j < 58 → own_inR 1 (Int32.ofNat j) = 1 := by decide +kernel
      rw [ev j hj q.1 q.2]; exact own_rB et A hs x25 hj (own_ltN' 48 (by decide) (by decide) hj q.1) (own_leN 58 (by decide) (by decide) hj q.2)
    · have ev : ∀ j, j < 256 → 58 ≤ j → j < 65 → own_inR 1 (Int32.ofNat j) = 0 := by decide +kernel
      rw [ev j hj q.1 q.2]; exact own_rB et A hs x26 hj (own_ltN' 58 (by decide) (by decide) hj q.1) (own_leN 65 (by decide) (by decide) hj q.2)
    · have ev : ∀ j, j < 256 → 65 ≤ j → j < 91 → own_inR 1 (Int32.ofNat j) = 1 := by decide +kernel
      rw [ev j hj q.1 q.2]; exact own_rB et A hs x27 hj (own_ltN' 65 (by decide) (by decide) hj q.1) (own_leN 91 (by decide) (by decide) hj q.2)
    · have ev : ∀ j, j < 256 → 91 ≤ j → j < 97 → own_inR 1 (Int32.ofNat j) = 0 := by decide +kernel
      rw [ev j hj q.1 q.2]; exact own_rB et A hs x28 hj (own_ltN' 91 (by decide) (by decide) hj q.1) (own_leN 97 (by decide) (by decide) hj q.2)
    · have ev : ∀ j, j < 256 → 97 ≤ j → j < 123 → own_inR 1 (Int32.ofNat j) = 1 := by decide +kernel
      rw [ev j hj q.1 q.2]; exact own_rB et A hs x29 hj (own_ltN' 97 (by decide) (by decide) hj q.1) (own_leN 123 (by decide) (by decide) hj q.2)
    · have ev : ∀ j, j < 256 → 123 ≤ j → j < 256 → own_inR 1 (Int32.ofNat j) = 0 := by decide +kernel
      rw [ev j hj q.1 q.2]; exact own_rC et A hs x30 hj (own_ltN' 123 (by decide) (by decide) hj q.1)
  have C2 : own_CS s 2 "ANS" := by
    refine own_CSmk hfit (C := "com/example/huiqiao/huiqiao/iso8583/SwitchField$Content") (Or.inl rfl) (hw _ (List.mem_of_getElem? (i := 27) rfl)) (hw _ (List.mem_of_getElem? (i := 85) rfl)) (pv := 0) (by decide) x8 x9 x18 x19 ?_
    intro ir cl et A hs j hj
    rcases (show (0 ≤ j ∧ j < 32) ∨ (32 ≤ j ∧ j < 127) ∨ (127 ≤ j ∧ j < 256) by omega) with q | q | q
    · have ev : ∀ j, j < 256 → 0 ≤ j → j < 32 → own_inR 2 (Int32.ofNat j) = 0 := by decide +kernel
      rw [ev j hj q.1 q.2]; exact own_rA et A hs x35 hj (own_leN 32 (by decide) (by decide) hj q.2)
    · have ev : ∀ j, j < 256 → 32 ≤ j → j < 127 → own_inR 2 (Int32.ofNat j) = 1 := by decide +kernel
      rw [ev j hj q.1 q.2]; exact own_rB et A hs x36 hj (own_ltN' 32 (by decide) (by decide) hj q.1) (own_leN 127 (by decide) (by decide) hj q.2)
    · have ev : ∀ j, j < 256 → 127 ≤ j → j < 256 → own_inR 2 (Int32.ofNat j) = 0 := by decide +kernel
      rw [ev j hj q.1 q.2]; exact own_rC et A hs x37 hj (own_ltN' 127 (by decide) (by decide) hj q.1)
  have C3 : own_CS s 3 "Z" := by
    refine own_CSmk hfit (C := "com/example/huiqiao/huiqiao/iso8583/SwitchField$Content") (Or.inl rfl) (hw _ (List.mem_of_getElem? (i := 27) rfl)) (hw _ (List.mem_of_getElem? (i := 48) rfl)) (pv := 0) (by decide) x2 x3 x20 x21 ?_
    intro ir cl et A hs j hj
    rcases (show (0 ≤ j ∧ j < 48) ∨ (48 ≤ j ∧ j < 59) ∨ (59 ≤ j ∧ j < 60) ∨ (60 ≤ j ∧ j < 61) ∨ (61 ≤ j ∧ j < 62) ∨ (62 ≤ j ∧ j < 63) ∨ (63 ≤ j ∧ j < 256) by omega) with q | q | q | q | q | q | q
    · have ev : ∀ j, j < 256 → 0 ≤ j → j < 48 → own_inR 3 (Int32.ofNat j) = 0 := by decide +kernel
      rw [ev j hj q.1 q.2]; exact own_rA et A hs x38 hj (own_leN 48 (by decide) (by decide) hj q.2)
    · have ev : ∀ j, j < 256 → 48 ≤ j → j < 59 → own_inR 3 (Int32.ofNat j) = 1 := by decide +kernel
      rw [ev j hj q.1 q.2]; exact own_rB et A hs x39 hj (own_ltN' 48 (by decide) (by decide) hj q.1) (own_leN 59 (by decide) (by decide) hj q.2)
    · have ev : ∀ j, j < 256 → 59 ≤ j → j < 60 → own_inR 3 (Int32.ofNat j) = 0 := by decide +kernel
      obtain rfl : j = 59 := by omega
      rw [ev 59 (by decide) (by decide) (by decide)]; exact own_rE et A x40 (by decide)
    · have ev : ∀ j, j < 256 → 60 ≤ j → j < 61 → own_inR 3 (Int32.ofNat j) = 1 := by decide +kernel
      obtain rfl : j = 60 := by omega
      rw [ev 60 (by decide) (by decide) (by decide)]; exact own_rE et A x41 (by decide)
    · have ev : ∀ j, j < 256 → 61 ≤ j → j < 62 → own_inR 3 (Int32.ofNat j) = 1 := by decide +kernel
      obtain rfl : j = 61 := by omega
      rw [ev 61 (by decide) (by decide) (by decide)]; exact own_rE et A x42 (by decide)
    · have ev : ∀ j, j < 256 → 62 ≤ j → j < 63 → own_inR 3 (Int32.ofNat j) = 1 := by decide +kernel
      obtain rfl : j = 62 := by omega
      rw [ev 62 (by decide) (by decide) (by decide)]; exact own_rE et A x43 (by decide)
    · have ev : ∀ j, j < 256 → 63 ≤ j → j < 256 → own_inR 3 (Int32.ofNat j) = 0 := by decide +kernel
      rw [ev j hj q.1 q.2]; exact own_rC et A hs x44 hj (own_ltN' 63 (by decide) (by decide) hj q.1)
  have C4 : own_CS s 4 "X_N" := by
    refine own_CSmk hfit (C := "com/example/huiqiao/huiqiao/iso8583/SwitchField$Content$1") (Or.inr rfl) (hw _ (List.mem_of_getElem? (i := 27) rfl)) (hw _ (List.mem_of_getElem? (i := 50) rfl)) (pv := 0) (by decide) x4 x5 x22 x23 ?_
    intro ir cl et A hs j hj
    rcases (show (0 ≤ j ∧ j < 48) ∨ (48 ≤ j ∧ j < 58) ∨ (58 ≤ j ∧ j < 256) by omega) with q | q | q
    · have ev : ∀ j, j < 256 → 0 ≤ j → j < 48 → own_inR 4 (Int32.ofNat j) = 0 := by decide +kernel
      rw [ev j hj q.1 q.2]; exact own_rA et A hs x45 hj (own_leN 48 (by decide) (by decide) hj q.2)
    · have ev : ∀ j, j < 256 → 48 ≤ j → j < 58 → own_inR 4 (Int32.ofNat j) = 1 := by decide +kernel
      rw [ev j hj q.1 q.2]; exact own_rB et A hs x46 hj (own_ltN' 48 (by decide) (by decide) hj q.1) (own_leN 58 (by decide) (by decide) hj q.2)
    · have ev : ∀ j, j < 256 → 58 ≤ j → j < 256 → own_inR 4 (Int32.ofNat j) = 0 := by decide +kernel
      rw [ev j hj q.1 q.2]; exact own_rC et A hs y46 hj (own_ltN' 58 (by decide) (by decide) hj q.1)
  have C5 : own_CS s 5 "B" := by
    refine own_CSmk hfit (C := "com/example/huiqiao/huiqiao/iso8583/SwitchField$Content") (Or.inl rfl) (hw _ (List.mem_of_getElem? (i := 27) rfl)) (hw _ (List.mem_of_getElem? (i := 129) rfl)) (pv := 0) (by decide) x14 x17 x15 x16 ?_
    intro ir cl et A hs j hj
    have ev : ∀ j, j < 256 → 0 ≤ j → j < 256 → own_inR 5 (Int32.ofNat j) = 1 := by decide +kernel
    rw [ev j hj (by omega) hj]; exact own_rD et A hs x34 hj
  have CA : own_CA s := ⟨C0, C1, C2, C3, C4, C5⟩
  obtain ⟨i0, ei0⟩ := is_v ga0
  obtain rfl : w0 = (.int i0) := Option.some.inj ei0
  obtain ⟨i1, ei1⟩ := is_v ga1
  obtain rfl : w1 = (.int i1) := Option.some.inj ei1
  obtain ⟨i2, ei2⟩ := is_v ga2
  obtain rfl : w2 = (.int i2) := Option.some.inj ei2
  obtain ⟨i3, ei3⟩ := is_v gr2
  obtain rfl : w3 = (.int i3) := Option.some.inj ei3
  obtain ⟨n, o, h1, h2, h3, _, L, rfl, ⟨rfl, N⟩, hq⟩ := rm0 l s _ hw tables_1 i0 i1 i2 i3 zc fm s.heap s.heap.size (Nat.le_refl _) (Old.start s) U0 CA p e ha hc hk s m _ below hf ((Spec.applies_iff_loose hf).mp happ).1 ⟨rfl, State.Warmed39.refl s, rfl, hheld⟩ trivial
  refine ⟨n, _, h1, h2, h3, hpost _ _ _ _ _ _ ⟨Cond.after_iff.mpr rfl, Cond.after_iff.mpr (eq_i res_at (Term.int_eval (1)) rfl), trivial⟩ ⟨hq.1, hq.2.1, hq.2.2.1, (hq.2.2.2.sift fun y hy => Or.inr (N y hy)).mono (by decide) (by decide)⟩⟩
theorem main_1_1 : Claimed_1_1 := comes_1 fun _ _ _ _ _ _ h hF => ⟨h.1, hF⟩
theorem main_1_2 : Claimed_1_2 := comes_1 fun _ _ _ _ _ _ h hF => ⟨h.2.1, hF⟩
end Jvm.Pilot.@@N@@
namespace Jvm.Pilot.@@N@@
open Jvm Jvm.ClassFile Sem Op Lib Jvm.Free Jvm.Stand Jvm.Pilot.@@N@@.Jvm.D
/-! MADE BY PROGRAM (witnessworld.py) out of the Statement's table words and the real class files: 24 classes; the members and pool entries that the words name. The judged class is class 1, her method 5. -/
namespace start1
open Jvm.ClassFile
def u (s : String) : CpInfo := .utf8 (stringToUtf16 s)
/-- a pool by its gaps: so many unusable entries, then the entry; so many at the end -/
def gap : Nat → List CpInfo → List CpInfo
  | 0, r => r
  | n + 1, r => .unusable :: gap n r
def poolList (es : List (Nat × CpInfo)) (last : Nat) : List CpInfo := es.foldr (fun e r => gap e.1 (e.2 :: r)) (gap last [])
def pool (es : List (Nat × CpInfo)) (last : Nat) : Array CpInfo := ⟨poolList es last⟩
def fileOf (pool : Array CpInfo) (this : Nat) (attrs : Array Attribute := #[]) (ms : Array MethodInfo := #[]) (fl : Nat := 33) (sup : Nat := 0) (ifs : Array Nat := #[]) (fds : Array FieldInfo := #[]) : ClassFile where
  minorVersion := 0
  majorVersion := 65
  constantPool := pool
  accessFlags := fl
  thisClass := this
  superClass := sup
  interfaces := ifs
  fields := fds
  methods := ms
  attributes := attrs
def plain (name : String) (sup : Option ClassId) : Class where
  name := name
  kind := .ordinary
  loader := none
  accessFlags := 33
  super := sup
  interfaces := #[]
  cf := none
  fields := #[]
  methods := #[]
  instanceTypes := #[]
  staticTypes := #[]
  resolved := #[]
  callSites := []
  init := .initialized
  statics := none
  mirror := none

def pool0 : Array CpInfo := pool [(5, u "<init>"), (0, u "()V"), (1, .class_ 10), (1, u "java/lang/Object")] 113

def k0c0 : Code := { maxStack := 0, maxLocals := 1, code := object_method_1_code, exceptionTable := #[], attributes := #[] }
def k0m0 : Method := { name := "<init>", desc := "()V", sig := { parameters := [], returnType := none }, accessFlags := 1, code := some k0c0 }
/-- java/lang/Object -/
def k0 : Class := { plain "java/lang/Object" none with
  accessFlags := 33
  interfaces := #[]
  cf := some (fileOf pool0 8 #[] #[{ accessFlags := 1, nameIndex := 5, descriptorIndex := 6, attributes := #[] }] 33 0 #[] #[])
  fields := #[]
  methods := #[k0m0]
  instanceTypes := #[]
  staticTypes := #[]
  resolved := Array.replicate 124 none
  statics := none }

def pool1 : Array CpInfo := pool [(2, .class_ 4), (1, u "java/lang/Object"), (0, u "<init>"), (0, u "()V"), (0, .methodref 8 9), (0, .class_ 10), (0, .nameAndType 11 12), (0, u "com/example/huiqiao/huiqiao/iso8583/ContentRunsFromPinLaw"), (0, u "inRun"), (0, u "(IC)Z"), (0, .methodref 8 14), (0, .nameAndType 15 12), (0, u "padOnly"), (0, .fieldref 17 18), (0, .class_ 19), (0, .nameAndType 20 21), (0, u "com/example/huiqiao/huiqiao/iso8583/SwitchField$Content"), (0, u "N"), (0, u "Lcom/example/huiqiao/huiqiao/iso8583/SwitchField$Content;"), (0, .fieldref 17 23), (0, .nameAndType 24 21), (0, u "AN"), (0, .fieldref 17 26), (0, .nameAndType 27 21), (0, u "ANS"), (0, .fieldref 17 29), (0, .nameAndType 30 21), (0, u "Z"), (0, .fieldref 17 32), (0, .nameAndType 33 21), (0, u "X_N"), (0, .fieldref 17 35), (0, .nameAndType 36 21), (0, u "B"), (0, .class_ 38), (0, u "java/lang/String"), (0, .methodref 37 40), (0, .nameAndType 5 41), (0, u "([C)V"), (0, .methodref 8 43), (0, .nameAndType 44 45), (0, u "content"), (0, u "(I)Lcom/example/huiqiao/huiqiao/iso8583/SwitchField$Content;"), (0, .methodref 17 47), (0, .nameAndType 48 49), (0, u "runsFrom"), (0, u "(Ljava/lang/String;I)Z"), (0, .methodref 8 51), (0, .nameAndType 52 12), (0, u "good"), (3, u "law"), (0, u "(IIII)Z")] 8

def k1m0 : Method := { name := "<init>", desc := "()V", sig := { parameters := [], returnType := none }, accessFlags := 2, code := none }
def k1c1 : Code := { maxStack := 2, maxLocals := 3, code := method_2_code, exceptionTable := #[], attributes := #[] }
def k1m1 : Method := { name := "inRun", desc := "(IC)Z", sig := { parameters := [.int, .char], returnType := some .boolean }, accessFlags := 10, code := some k1c1 }
def k1c2 : Code := { maxStack := 2, maxLocals := 2, code := method_3_code, exceptionTable := #[], attributes := #[] }
def k1m2 : Method := { name := "padOnly", desc := "(IC)Z", sig := { parameters := [.int, .char], returnType := some .boolean }, accessFlags := 10, code := some k1c2 }
def k1c3 : Code := { maxStack := 2, maxLocals := 2, code := method_4_code, exceptionTable := #[], attributes := #[] }
def k1m3 : Method := { name := "good", desc := "(IC)Z", sig := { parameters := [.int, .char], returnType := some .boolean }, accessFlags := 10, code := some k1c3 }
def k1c4 : Code := { maxStack := 2, maxLocals := 1, code := method_5_code, exceptionTable := #[], attributes := #[] }
def k1m4 : Method := { name := "content", desc := "(I)Lcom/example/huiqiao/huiqiao/iso8583/SwitchField$Content;", sig := { parameters := [.int], returnType := some (.object "com/example/huiqiao/huiqiao/iso8583/SwitchField$Content") }, accessFlags := 10, code := some k1c4 }
def k1c5 : Code := { maxStack := 3, maxLocals := 17, code := code, exceptionTable := #[], attributes := #[] }
def k1m5 : Method := { name := "law", desc := "(IIII)Z", sig := { parameters := [.int, .int, .int, .int], returnType := some .boolean }, accessFlags := 9, code := some k1c5 }
/-- com/example/huiqiao/huiqiao/iso8583/ContentRunsFromPinLaw -/
def k1 : Class := { plain "com/example/huiqiao/huiqiao/iso8583/ContentRunsFromPinLaw" (some 0) with
  accessFlags := 49
  interfaces := #[]
  cf := some (fileOf pool1 8 #[] #[{ accessFlags := 2, nameIndex := 5, descriptorIndex := 6, attributes := #[] }, { accessFlags := 10, nameIndex := 11, descriptorIndex := 12, attributes := #[] }, { accessFlags := 10, nameIndex := 15, descriptorIndex := 12, attributes := #[] }, { accessFlags := 10, nameIndex := 52, descriptorIndex := 12, attributes := #[] }, { accessFlags := 10, nameIndex := 44, descriptorIndex := 45, attributes := #[] }, { accessFlags := 9, nameIndex := 56, descriptorIndex := 57, attributes := #[] }] 49 2 #[] #[])
  fields := #[]
  methods := #[k1m0, k1m1, k1m2, k1m3, k1m4, k1m5]
  instanceTypes := #[]
  staticTypes := #[]
  resolved := Array.replicate 66 none
  statics := none }

def pool2 : Array CpInfo := pool [(1, .class_ 2), (0, u "java/io/Serializable"), (0, .class_ 4), (0, u "java/lang/Object")] 2

/-- java/io/Serializable -/
def k2 : Class := { plain "java/io/Serializable" (some 0) with
  accessFlags := 1537
  interfaces := #[]
  cf := some (fileOf pool2 1 #[] #[] 1537 3 #[] #[])
  fields := #[]
  methods := #[]
  instanceTypes := #[]
  staticTypes := #[]
  resolved := Array.replicate 7 none
  statics := none }

def pool3 : Array CpInfo := pool [(1, .class_ 2), (0, u "java/lang/Comparable"), (0, .class_ 4), (0, u "java/lang/Object")] 7

/-- java/lang/Comparable -/
def k3 : Class := { plain "java/lang/Comparable" (some 0) with
  accessFlags := 1537
  interfaces := #[]
  cf := some (fileOf pool3 1 #[] #[] 1537 3 #[] #[])
  fields := #[]
  methods := #[]
  instanceTypes := #[]
  staticTypes := #[]
  resolved := Array.replicate 12 none
  statics := none }

def pool4 : Array CpInfo := pool [(2, .class_ 4), (1, u "java/lang/CharSequence"), (42, .class_ 48), (0, u "java/lang/CharSequence$1CodePointIterator"), (10, .class_ 60), (0, u "java/lang/CharSequence$1CharIterator"), (5, .class_ 67), (0, u "java/lang/Object")] 63

/-- java/lang/CharSequence -/
def k4 : Class := { plain "java/lang/CharSequence" (some 0) with
  accessFlags := 1537
  interfaces := #[]
  cf := some (fileOf pool4 2 #[.nestMembers #[47, 59]] #[] 1537 66 #[] #[])
  fields := #[]
  methods := #[]
  instanceTypes := #[]
  staticTypes := #[]
  resolved := Array.replicate 131 none
  statics := none }

def pool5 : Array CpInfo := pool [(1, .class_ 2), (0, u "java/lang/constant/Constable"), (0, .class_ 4), (0, u "java/lang/Object")] 6

/-- java/lang/constant/Constable -/
def k5 : Class := { plain "java/lang/constant/Constable" (some 0) with
  accessFlags := 1537
  interfaces := #[]
  cf := some (fileOf pool5 1 #[] #[] 1537 3 #[] #[])
  fields := #[]
  methods := #[]
  instanceTypes := #[]
  staticTypes := #[]
  resolved := Array.replicate 11 none
  statics := none }

def pool6 : Array CpInfo := pool [(1, .class_ 2), (0, u "java/lang/constant/ConstantDesc"), (0, .class_ 4), (0, u "java/lang/Object")] 32

/-- java/lang/constant/ConstantDesc -/
def k6 : Class := { plain "java/lang/constant/ConstantDesc" (some 0) with
  accessFlags := 1537
  interfaces := #[]
  cf := some (fileOf pool6 1 #[] #[] 1537 3 #[] #[])
  fields := #[]
  methods := #[]
  instanceTypes := #[]
  staticTypes := #[]
  resolved := Array.replicate 37 none
  statics := none }

def pool7 : Array CpInfo := pool [(1, .methodref 2 3), (0, .class_ 4), (0, .nameAndType 5 6), (0, u "java/lang/Object"), (0, u "<init>"), (0, u "()V"), (0, .string 8), (0, u ""), (0, .fieldref 10 11), (0, .class_ 12), (0, .nameAndType 13 14), (0, u "java/lang/String"), (0, u "value"), (0, u "[B"), (0, .fieldref 10 16), (0, .nameAndType 17 18), (0, u "coder"), (0, u "B"), (2, u "hash"), (0, u "I"), (2, u "hashIsZero"), (0, u "Z"), (0, .methodref 10 28), (0, .nameAndType 5 29), (0, u "([CIILjava/lang/Void;)V"), (8, .fieldref 10 39), (0, .nameAndType 40 26), (0, u "COMPACT_STRINGS"), (1, .class_ 44), (1, u "java/lang/StringUTF16"), (0, u "compress"), (1, .methodref 42 48), (0, .nameAndType 49 50), (0, u "coderFromArrayLen"), (0, u "([BI)B"), (56, .class_ 109), (1, u "java/lang/StringLatin1"), (32, u "()Z"), (34, .methodref 42 178), (0, .nameAndType 45 179), (0, u "([CII)[B"), (154, u "()I"), (0, .methodref 10 336), (0, .nameAndType 17 337), (0, u "()B"), (25, u "([BI)C"), (27, u "(II)V"), (35, u "(I)C"), (64, .methodref 10 493), (0, .nameAndType 494 142), (0, u "isLatin1"), (0, .methodref 107 496), (0, .nameAndType 497 363), (0, u "charAt"), (0, .methodref 42 496), (2, u "checkIndex"), (5, u "length"), (67, .class_ 576), (0, u "java/lang/CharSequence"), (22, u "CASE_INSENSITIVE_ORDER"), (0, u "Ljava/util/Comparator;"), (409, u "([C)V"), (42, .fieldref 1054 1055), (0, .class_ 1056), (0, .nameAndType 1057 1058), (0, u "jdk/internal/util/Preconditions"), (0, u "SIOOBE_FORMATTER"), (0, u "Ljava/util/function/BiFunction;"), (0, .methodref 1054 1060), (0, .nameAndType 501 1061), (0, u "(IILjava/util/function/BiFunction;)I"), (39, u "serialPersistentFields"), (0, u "[Ljava/io/ObjectStreamField;"), (0, .class_ 1104), (0, u "java/lang/String$CaseInsensitiveComparator"), (1, .class_ 1107), (0, u "java/io/Serializable"), (0, .class_ 1109), (0, u "java/lang/Comparable"), (0, .class_ 1111), (0, u "java/lang/constant/Constable"), (0, .class_ 1113), (0, u "java/lang/constant/ConstantDesc"), (2, u "serialVersionUID"), (0, u "J"), (3, u "REPL"), (0, u "C"), (2, u "LATIN1"), (1, u "UTF16")] 323

def k7m0 : Method := { name := "<init>", desc := "()V", sig := { parameters := [], returnType := none }, accessFlags := 1, code := none }
def k7c1 : Code := { maxStack := 5, maxLocals := 2, code := jdk_42_method_3_code, exceptionTable := #[], attributes := #[] }
def k7m1 : Method := { name := "<init>", desc := "([C)V", sig := { parameters := [(.array .char)], returnType := none }, accessFlags := 1, code := some k7c1 }
def k7c2 : Code := { maxStack := 2, maxLocals := 1, code := jdk_42_method_54_code, exceptionTable := #[], attributes := #[] }
def k7m2 : Method := { name := "length", desc := "()I", sig := { parameters := [], returnType := some .int }, accessFlags := 1, code := some k7c2 }
def k7c3 : Code := { maxStack := 2, maxLocals := 2, code := jdk_42_method_56_code, exceptionTable := #[], attributes := #[] }
def k7m3 : Method := { name := "charAt", desc := "(I)C", sig := { parameters := [.int], returnType := some .char }, accessFlags := 1, code := some k7c3 }
def k7c4 : Code := { maxStack := 4, maxLocals := 6, code := jdk_42_method_149_code, exceptionTable := #[], attributes := #[] }
def k7m4 : Method := { name := "<init>", desc := "([CIILjava/lang/Void;)V", sig := { parameters := [(.array .char), .int, .int, (.object "java/lang/Void")], returnType := none }, accessFlags := 2, code := some k7c4 }
def k7c5 : Code := { maxStack := 1, maxLocals := 1, code := jdk_42_method_152_code, exceptionTable := #[], attributes := #[] }
def k7m5 : Method := { name := "coder", desc := "()B", sig := { parameters := [], returnType := some .byte }, accessFlags := 0, code := some k7c5 }
def k7c6 : Code := { maxStack := 1, maxLocals := 1, code := jdk_42_method_154_code, exceptionTable := #[], attributes := #[] }
def k7m6 : Method := { name := "isLatin1", desc := "()Z", sig := { parameters := [], returnType := some .boolean }, accessFlags := 0, code := some k7c6 }
def k7c7 : Code := { maxStack := 3, maxLocals := 2, code := jdk_42_method_155_code, exceptionTable := #[], attributes := #[] }
def k7m7 : Method := { name := "checkIndex", desc := "(II)V", sig := { parameters := [.int, .int], returnType := none }, accessFlags := 8, code := some k7c7 }
/-- java/lang/String -/
def k7 : Class := { plain "java/lang/String" (some 0) with
  accessFlags := 49
  interfaces := #[2, 3, 4, 5, 6]
  cf := some (fileOf pool7 10 #[.nestMembers #[1103]] #[{ accessFlags := 1, nameIndex := 5, descriptorIndex := 6, attributes := #[] }, { accessFlags := 1, nameIndex := 5, descriptorIndex := 1010, attributes := #[] }, { accessFlags := 1, nameIndex := 507, descriptorIndex := 334, attributes := #[] }, { accessFlags := 1, nameIndex := 497, descriptorIndex := 427, attributes := #[] }, { accessFlags := 2, nameIndex := 5, descriptorIndex := 29, attributes := #[] }, { accessFlags := 0, nameIndex := 17, descriptorIndex := 337, attributes := #[] }, { accessFlags := 0, nameIndex := 494, descriptorIndex := 142, attributes := #[] }, { accessFlags := 8, nameIndex := 501, descriptorIndex := 391, attributes := #[] }] 49 2 #[1106, 1108, 575, 1110, 1112] #[{ accessFlags := 18, nameIndex := 13, descriptorIndex := 14, attributes := #[] }, { accessFlags := 18, nameIndex := 17, descriptorIndex := 18, attributes := #[] }, { accessFlags := 2, nameIndex := 21, descriptorIndex := 22, attributes := #[] }, { accessFlags := 2, nameIndex := 25, descriptorIndex := 26, attributes := #[] }, { accessFlags := 26, nameIndex := 1116, descriptorIndex := 1117, attributes := #[] }, { accessFlags := 24, nameIndex := 40, descriptorIndex := 26, attributes := #[] }, { accessFlags := 26, nameIndex := 1101, descriptorIndex := 1102, attributes := #[] }, { accessFlags := 26, nameIndex := 1121, descriptorIndex := 1122, attributes := #[] }, { accessFlags := 25, nameIndex := 599, descriptorIndex := 600, attributes := #[] }, { accessFlags := 24, nameIndex := 1125, descriptorIndex := 18, attributes := #[] }, { accessFlags := 24, nameIndex := 1127, descriptorIndex := 18, attributes := #[] }])
  fields := #[{ name := "value", type := (.array .byte), accessFlags := 18, slot := 0, constantValue := 0 }, { name := "coder", type := .byte, accessFlags := 18, slot := 1, constantValue := 0 }, { name := "hash", type := .int, accessFlags := 2, slot := 2, constantValue := 0 }, { name := "hashIsZero", type := .boolean, accessFlags := 2, slot := 3, constantValue := 0 }, { name := "serialVersionUID", type := .long, accessFlags := 26, slot := 0, constantValue := 0 }, { name := "COMPACT_STRINGS", type := .boolean, accessFlags := 24, slot := 1, constantValue := 0 }, { name := "serialPersistentFields", type := (.array (.object "java/io/ObjectStreamField")), accessFlags := 26, slot := 2, constantValue := 0 }, { name := "REPL", type := .char, accessFlags := 26, slot := 3, constantValue := 0 }, { name := "CASE_INSENSITIVE_ORDER", type := (.object "java/util/Comparator"), accessFlags := 25, slot := 4, constantValue := 0 }, { name := "LATIN1", type := .byte, accessFlags := 24, slot := 5, constantValue := 0 }, { name := "UTF16", type := .byte, accessFlags := 24, slot := 6, constantValue := 0 }]
  methods := #[k7m0, k7m1, k7m2, k7m3, k7m4, k7m5, k7m6, k7m7]
  instanceTypes := #[(.array .byte), .byte, .int, .boolean]
  staticTypes := #[.long, .boolean, (.array (.object "java/io/ObjectStreamField")), .char, (.object "java/util/Comparator"), .byte, .byte]
  resolved := Array.replicate 1451 none
  statics := some 0 }

def pool8 : Array CpInfo := pool [(2, .class_ 4), (1, u "java/lang/Enum"), (0, u "name"), (0, u "Ljava/lang/String;"), (2, u "ordinal"), (0, u "I"), (1, .class_ 14), (1, u "java/lang/Object"), (4, u "hash"), (86, .class_ 108), (1, u "java/lang/Enum$EnumDesc"), (2, .class_ 112), (0, u "java/lang/constant/Constable"), (0, .class_ 114), (0, u "java/lang/Comparable"), (0, .class_ 116), (0, u "java/io/Serializable")] 87

/-- java/lang/Enum -/
def k8 : Class := { plain "java/lang/Enum" (some 0) with
  accessFlags := 1057
  interfaces := #[5, 3, 2]
  cf := some (fileOf pool8 2 #[.nestMembers #[106]] #[] 1057 12 #[111, 113, 115] #[{ accessFlags := 18, nameIndex := 5, descriptorIndex := 6, attributes := #[] }, { accessFlags := 18, nameIndex := 9, descriptorIndex := 10, attributes := #[] }, { accessFlags := 2, nameIndex := 19, descriptorIndex := 10, attributes := #[] }])
  fields := #[{ name := "name", type := (.object "java/lang/String"), accessFlags := 18, slot := 0, constantValue := 0 }, { name := "ordinal", type := .int, accessFlags := 18, slot := 1, constantValue := 0 }, { name := "hash", type := .int, accessFlags := 2, slot := 2, constantValue := 0 }]
  methods := #[]
  instanceTypes := #[(.object "java/lang/String"), .int, .int]
  staticTypes := #[]
  resolved := Array.replicate 204 none
  statics := none }

def pool9 : Array CpInfo := pool [(1, .class_ 2), (0, u "com/example/huiqiao/huiqiao/iso8583/SwitchField$Content"), (2, u "N"), (0, u "Lcom/example/huiqiao/huiqiao/iso8583/SwitchField$Content;"), (2, u "AN"), (2, u "ANS"), (2, u "Z"), (2, u "X_N"), (2, u "B"), (2, u "$VALUES"), (0, u "[Lcom/example/huiqiao/huiqiao/iso8583/SwitchField$Content;"), (6, .class_ 34), (1, u "java/lang/Enum"), (6, .fieldref 1 42), (0, .nameAndType 43 44), (0, u "inRun"), (0, u "[Z"), (2, u "description"), (0, u "Ljava/lang/String;"), (0, .fieldref 1 50), (0, .nameAndType 51 15), (0, u "padded"), (8, u "runsFrom"), (0, u "(Ljava/lang/String;I)Z"), (0, .methodref 63 64), (0, .class_ 65), (0, .nameAndType 66 67), (0, u "java/lang/String"), (0, u "length"), (0, u "()I"), (0, .methodref 63 69), (0, .nameAndType 70 71), (0, u "charAt"), (0, u "(I)C"), (0, .methodref 1 73), (0, .nameAndType 43 74), (0, u "(C)Z"), (47, .class_ 123), (0, u "com/example/huiqiao/huiqiao/iso8583/SwitchField")] 3

def k9c0 : Code := { maxStack := 3, maxLocals := 4, code := prog_34_method_5_code, exceptionTable := #[], attributes := #[] }
def k9m0 : Method := { name := "runsFrom", desc := "(Ljava/lang/String;I)Z", sig := { parameters := [(.object "java/lang/String"), .int], returnType := some .boolean }, accessFlags := 16, code := some k9c0 }
def k9c1 : Code := { maxStack := 2, maxLocals := 2, code := prog_34_method_6_code, exceptionTable := #[], attributes := #[] }
def k9m1 : Method := { name := "inRun", desc := "(C)Z", sig := { parameters := [.char], returnType := some .boolean }, accessFlags := 2, code := some k9c1 }
/-- com/example/huiqiao/huiqiao/iso8583/SwitchField$Content -/
def k9 : Class := { plain "com/example/huiqiao/huiqiao/iso8583/SwitchField$Content" (some 8) with
  accessFlags := 16417
  interfaces := #[]
  cf := some (fileOf pool9 1 #[.nestHost 122] #[{ accessFlags := 16, nameIndex := 60, descriptorIndex := 61, attributes := #[] }, { accessFlags := 2, nameIndex := 43, descriptorIndex := 74, attributes := #[] }] 16417 32 #[] #[{ accessFlags := 16409, nameIndex := 5, descriptorIndex := 6, attributes := #[] }, { accessFlags := 16409, nameIndex := 9, descriptorIndex := 6, attributes := #[] }, { accessFlags := 16409, nameIndex := 12, descriptorIndex := 6, attributes := #[] }, { accessFlags := 16409, nameIndex := 15, descriptorIndex := 6, attributes := #[] }, { accessFlags := 16409, nameIndex := 18, descriptorIndex := 6, attributes := #[] }, { accessFlags := 16409, nameIndex := 21, descriptorIndex := 6, attributes := #[] }, { accessFlags := 18, nameIndex := 47, descriptorIndex := 48, attributes := #[] }, { accessFlags := 18, nameIndex := 51, descriptorIndex := 15, attributes := #[] }, { accessFlags := 18, nameIndex := 43, descriptorIndex := 44, attributes := #[] }, { accessFlags := 4122, nameIndex := 24, descriptorIndex := 25, attributes := #[] }])
  fields := #[{ name := "N", type := (.object "com/example/huiqiao/huiqiao/iso8583/SwitchField$Content"), accessFlags := 16409, slot := 0, constantValue := 0 }, { name := "AN", type := (.object "com/example/huiqiao/huiqiao/iso8583/SwitchField$Content"), accessFlags := 16409, slot := 1, constantValue := 0 }, { name := "ANS", type := (.object "com/example/huiqiao/huiqiao/iso8583/SwitchField$Content"), accessFlags := 16409, slot := 2, constantValue := 0 }, { name := "Z", type := (.object "com/example/huiqiao/huiqiao/iso8583/SwitchField$Content"), accessFlags := 16409, slot := 3, constantValue := 0 }, { name := "X_N", type := (.object "com/example/huiqiao/huiqiao/iso8583/SwitchField$Content"), accessFlags := 16409, slot := 4, constantValue := 0 }, { name := "B", type := (.object "com/example/huiqiao/huiqiao/iso8583/SwitchField$Content"), accessFlags := 16409, slot := 5, constantValue := 0 }, { name := "description", type := (.object "java/lang/String"), accessFlags := 18, slot := 3, constantValue := 0 }, { name := "padded", type := .boolean, accessFlags := 18, slot := 4, constantValue := 0 }, { name := "inRun", type := (.array .boolean), accessFlags := 18, slot := 5, constantValue := 0 }, { name := "$VALUES", type := (.array (.object "com/example/huiqiao/huiqiao/iso8583/SwitchField$Content")), accessFlags := 4122, slot := 6, constantValue := 0 }]
  methods := #[k9m0, k9m1]
  instanceTypes := #[(.object "java/lang/String"), .int, .int, (.object "java/lang/String"), .boolean, (.array .boolean)]
  staticTypes := #[(.object "com/example/huiqiao/huiqiao/iso8583/SwitchField$Content"), (.object "com/example/huiqiao/huiqiao/iso8583/SwitchField$Content"), (.object "com/example/huiqiao/huiqiao/iso8583/SwitchField$Content"), (.object "com/example/huiqiao/huiqiao/iso8583/SwitchField$Content"), (.object "com/example/huiqiao/huiqiao/iso8583/SwitchField$Content"), (.object "com/example/huiqiao/huiqiao/iso8583/SwitchField$Content"), (.array (.object "com/example/huiqiao/huiqiao/iso8583/SwitchField$Content"))]
  resolved := Array.replicate 127 none
  statics := some 1 }

def pool10 : Array CpInfo := pool [(2, .class_ 4), (1, u "com/example/huiqiao/huiqiao/iso8583/SwitchField$Content"), (13, .class_ 20), (1, u "com/example/huiqiao/huiqiao/iso8583/SwitchField$Content$1"), (12, .class_ 34), (0, u "com/example/huiqiao/huiqiao/iso8583/SwitchField")] 2

/-- com/example/huiqiao/huiqiao/iso8583/SwitchField$Content$1 -/
def k10 : Class := { plain "com/example/huiqiao/huiqiao/iso8583/SwitchField$Content$1" (some 9) with
  accessFlags := 16432
  interfaces := #[]
  cf := some (fileOf pool10 18 #[.nestHost 33] #[] 16432 2 #[] #[])
  fields := #[]
  methods := #[]
  instanceTypes := #[(.object "java/lang/String"), .int, .int, (.object "java/lang/String"), .boolean, (.array .boolean)]
  staticTypes := #[]
  resolved := Array.replicate 37 none
  statics := none }

def pool11 : Array CpInfo := pool [(3, .class_ 4), (0, u "java/lang/String"), (1, .class_ 8), (1, u "java/lang/Object"), (0, u "<init>"), (0, u "()V"), (0, .methodref 12 13), (0, .class_ 14), (0, .nameAndType 15 16), (0, u "java/lang/StringUTF16"), (0, u "newBytesLength"), (0, u "(I)I"), (3, .integer 1073741823), (23, .fieldref 12 45), (0, .nameAndType 46 47), (0, u "$assertionsDisabled"), (0, u "Z"), (0, .methodref 12 49), (0, .nameAndType 50 51), (0, u "length"), (0, u "([B)I"), (7, .fieldref 12 60), (0, .nameAndType 61 62), (0, u "HI_BYTE_SHIFT"), (0, u "I"), (0, .fieldref 12 64), (0, .nameAndType 65 62), (0, u "LO_BYTE_SHIFT"), (1, .methodref 12 68), (0, .nameAndType 69 70), (0, u "checkIndex"), (0, u "(I[B)V"), (0, .methodref 12 72), (0, .nameAndType 73 74), (0, u "getChar"), (0, u "([BI)C"), (32, .methodref 12 108), (0, .nameAndType 109 110), (0, u "newBytesFor"), (0, u "(I)[B"), (0, .methodref 12 112), (0, .nameAndType 113 114), (0, u "putChar"), (0, u "([BII)V"), (0, .methodref 12 116), (0, .nameAndType 117 118), (0, u "compress"), (0, u "([CI[BII)I"), (0, .methodref 12 120), (0, .nameAndType 121 122), (0, u "toBytes"), (0, u "([CII)[B"), (138, u "coderFromArrayLen"), (0, u "([BI)B"), (106, .class_ 371), (1, u "java/lang/StringUTF16$LinesSpliterator"), (20, u "charAt"), (21, .methodref 3 415), (0, .nameAndType 69 416), (0, u "(II)V"), (13, u "MAX_LENGTH"), (196, .class_ 628), (0, u "java/lang/StringUTF16$CodePointsSpliterator"), (0, .class_ 630), (0, u "java/lang/StringUTF16$CharsSpliterator")] 4

def k11m0 : Method := { name := "<init>", desc := "()V", sig := { parameters := [], returnType := none }, accessFlags := 0, code := none }
def k11c1 : Code := { maxStack := 1, maxLocals := 1, code := jdk_52_method_2_code, exceptionTable := #[], attributes := #[] }
def k11m1 : Method := { name := "newBytesFor", desc := "(I)[B", sig := { parameters := [.int], returnType := some (.array .byte) }, accessFlags := 9, code := some k11c1 }
def k11c2 : Code := { maxStack := 4, maxLocals := 1, code := jdk_52_method_3_code, exceptionTable := #[], attributes := #[] }
def k11m2 : Method := { name := "newBytesLength", desc := "(I)I", sig := { parameters := [.int], returnType := some .int }, accessFlags := 9, code := some k11c2 }
def k11c3 : Code := { maxStack := 4, maxLocals := 3, code := jdk_52_method_4_code, exceptionTable := #[], attributes := #[] }
def k11m3 : Method := { name := "putChar", desc := "([BII)V", sig := { parameters := [(.array .byte), .int, .int], returnType := none }, accessFlags := 8, code := some k11c3 }
def k11c4 : Code := { maxStack := 3, maxLocals := 2, code := jdk_52_method_5_code, exceptionTable := #[], attributes := #[] }
def k11m4 : Method := { name := "getChar", desc := "([BI)C", sig := { parameters := [(.array .byte), .int], returnType := some .char }, accessFlags := 8, code := some k11c4 }
def k11c5 : Code := { maxStack := 2, maxLocals := 1, code := jdk_52_method_6_code, exceptionTable := #[], attributes := #[] }
def k11m5 : Method := { name := "length", desc := "([B)I", sig := { parameters := [(.array .byte)], returnType := some .int }, accessFlags := 9, code := some k11c5 }
def k11c6 : Code := { maxStack := 4, maxLocals := 5, code := jdk_52_method_14_code, exceptionTable := #[], attributes := #[] }
def k11m6 : Method := { name := "toBytes", desc := "([CII)[B", sig := { parameters := [(.array .char), .int, .int], returnType := some (.array .byte) }, accessFlags := 9, code := some k11c6 }
def k11c7 : Code := { maxStack := 2, maxLocals := 2, code := jdk_52_method_15_code, exceptionTable := #[], attributes := #[] }
def k11m7 : Method := { name := "coderFromArrayLen", desc := "([BI)B", sig := { parameters := [(.array .byte), .int], returnType := some .byte }, accessFlags := 8, code := some k11c7 }
def k11c8 : Code := { maxStack := 5, maxLocals := 6, code := jdk_52_method_16_code, exceptionTable := #[], attributes := #[] }
def k11m8 : Method := { name := "compress", desc := "([CII)[B", sig := { parameters := [(.array .char), .int, .int], returnType := some (.array .byte) }, accessFlags := 9, code := some k11c8 }
def k11c9 : Code := { maxStack := 3, maxLocals := 7, code := jdk_52_method_21_code, exceptionTable := #[], attributes := #[] }
def k11m9 : Method := { name := "compress", desc := "([CI[BII)I", sig := { parameters := [(.array .char), .int, (.array .byte), .int, .int], returnType := some .int }, accessFlags := 9, code := some k11c9 }
def k11c10 : Code := { maxStack := 2, maxLocals := 2, code := jdk_52_method_83_code, exceptionTable := #[], attributes := #[] }
def k11m10 : Method := { name := "charAt", desc := "([BI)C", sig := { parameters := [(.array .byte), .int], returnType := some .char }, accessFlags := 9, code := some k11c10 }
def k11c11 : Code := { maxStack := 2, maxLocals := 2, code := jdk_52_method_91_code, exceptionTable := #[], attributes := #[] }
def k11m11 : Method := { name := "checkIndex", desc := "(I[B)V", sig := { parameters := [.int, (.array .byte)], returnType := none }, accessFlags := 9, code := some k11c11 }
/-- java/lang/StringUTF16 -/
def k11 : Class := { plain "java/lang/StringUTF16" (some 0) with
  accessFlags := 48
  interfaces := #[]
  cf := some (fileOf pool11 12 #[.nestMembers #[627, 629, 369]] #[{ accessFlags := 0, nameIndex := 9, descriptorIndex := 10, attributes := #[] }, { accessFlags := 9, nameIndex := 109, descriptorIndex := 110, attributes := #[] }, { accessFlags := 9, nameIndex := 15, descriptorIndex := 16, attributes := #[] }, { accessFlags := 8, nameIndex := 113, descriptorIndex := 114, attributes := #[] }, { accessFlags := 8, nameIndex := 73, descriptorIndex := 74, attributes := #[] }, { accessFlags := 9, nameIndex := 50, descriptorIndex := 51, attributes := #[] }, { accessFlags := 9, nameIndex := 121, descriptorIndex := 122, attributes := #[] }, { accessFlags := 8, nameIndex := 261, descriptorIndex := 262, attributes := #[] }, { accessFlags := 9, nameIndex := 117, descriptorIndex := 122, attributes := #[] }, { accessFlags := 9, nameIndex := 117, descriptorIndex := 118, attributes := #[] }, { accessFlags := 9, nameIndex := 392, descriptorIndex := 74, attributes := #[] }, { accessFlags := 9, nameIndex := 69, descriptorIndex := 70, attributes := #[] }] 48 6 #[] #[{ accessFlags := 26, nameIndex := 61, descriptorIndex := 62, attributes := #[] }, { accessFlags := 26, nameIndex := 65, descriptorIndex := 62, attributes := #[] }, { accessFlags := 24, nameIndex := 430, descriptorIndex := 62, attributes := #[] }, { accessFlags := 4120, nameIndex := 46, descriptorIndex := 47, attributes := #[] }])
  fields := #[{ name := "HI_BYTE_SHIFT", type := .int, accessFlags := 26, slot := 0, constantValue := 0 }, { name := "LO_BYTE_SHIFT", type := .int, accessFlags := 26, slot := 1, constantValue := 0 }, { name := "MAX_LENGTH", type := .int, accessFlags := 24, slot := 2, constantValue := 0 }, { name := "$assertionsDisabled", type := .boolean, accessFlags := 4120, slot := 3, constantValue := 0 }]
  methods := #[k11m0, k11m1, k11m2, k11m3, k11m4, k11m5, k11m6, k11m7, k11m8, k11m9, k11m10, k11m11]
  instanceTypes := #[]
  staticTypes := #[.int, .int, .int, .boolean]
  resolved := Array.replicate 635 none
  statics := some 2 }

def pool12 : Array CpInfo := pool [(2, .class_ 4), (1, u "java/lang/Object"), (0, u "<init>"), (0, u "()V"), (17, .class_ 26), (1, u "jdk/internal/util/Preconditions"), (6, u "checkIndex"), (21, .class_ 56), (0, u "jdk/internal/util/Preconditions$4"), (57, .class_ 115), (0, u "jdk/internal/util/Preconditions$1"), (7, u "SIOOBE_FORMATTER"), (0, u "Ljava/util/function/BiFunction;"), (0, .class_ 126), (0, u "jdk/internal/util/Preconditions$2"), (3, u "AIOOBE_FORMATTER"), (0, .class_ 132), (0, u "jdk/internal/util/Preconditions$3"), (3, u "IOOBE_FORMATTER"), (41, u "(IILjava/util/function/BiFunction;)I")] 15

def k12m0 : Method := { name := "<init>", desc := "()V", sig := { parameters := [], returnType := none }, accessFlags := 1, code := none }
def k12c1 : Code := { maxStack := 3, maxLocals := 3, code := jdk_41_method_11_code, exceptionTable := #[], attributes := #[] }
def k12m1 : Method := { name := "checkIndex", desc := "(IILjava/util/function/BiFunction;)I", sig := { parameters := [.int, .int, (.object "java/util/function/BiFunction")], returnType := some .int }, accessFlags := 9, code := some k12c1 }
/-- jdk/internal/util/Preconditions -/
def k12 : Class := { plain "jdk/internal/util/Preconditions" (some 0) with
  accessFlags := 33
  interfaces := #[]
  cf := some (fileOf pool12 24 #[.nestMembers #[55, 131, 125, 114]] #[{ accessFlags := 1, nameIndex := 5, descriptorIndex := 6, attributes := #[] }, { accessFlags := 9, nameIndex := 33, descriptorIndex := 178, attributes := #[] }] 33 2 #[] #[{ accessFlags := 25, nameIndex := 123, descriptorIndex := 124, attributes := #[] }, { accessFlags := 25, nameIndex := 130, descriptorIndex := 124, attributes := #[] }, { accessFlags := 25, nameIndex := 136, descriptorIndex := 124, attributes := #[] }])
  fields := #[{ name := "SIOOBE_FORMATTER", type := (.object "java/util/function/BiFunction"), accessFlags := 25, slot := 0, constantValue := 0 }, { name := "AIOOBE_FORMATTER", type := (.object "java/util/function/BiFunction"), accessFlags := 25, slot := 1, constantValue := 0 }, { name := "IOOBE_FORMATTER", type := (.object "java/util/function/BiFunction"), accessFlags := 25, slot := 2, constantValue := 0 }]
  methods := #[k12m0, k12m1]
  instanceTypes := #[]
  staticTypes := #[(.object "java/util/function/BiFunction"), (.object "java/util/function/BiFunction"), (.object "java/util/function/BiFunction")]
  resolved := Array.replicate 194 none
  statics := some 3 }

def pool13 : Array CpInfo := pool [(1, .class_ 2), (0, u "java/lang/String"), (1, .class_ 6), (1, u "java/lang/Object"), (0, u "<init>"), (0, u "()V"), (0, .methodref 1 10), (0, .nameAndType 11 12), (0, u "checkIndex"), (0, u "(II)V"), (1, .class_ 16), (1, u "java/lang/StringLatin1"), (36, u "([BI)C"), (67, u "$assertionsDisabled"), (0, u "Z"), (98, .class_ 223), (1, u "java/lang/StringLatin1$LinesSpliterator"), (28, u "charAt"), (137, .class_ 391), (0, u "java/lang/StringLatin1$CharsSpliterator")] 3

def k13m0 : Method := { name := "<init>", desc := "()V", sig := { parameters := [], returnType := none }, accessFlags := 0, code := none }
def k13c1 : Code := { maxStack := 2, maxLocals := 2, code := jdk_43_method_2_code, exceptionTable := #[], attributes := #[] }
def k13m1 : Method := { name := "charAt", desc := "([BI)C", sig := { parameters := [(.array .byte), .int], returnType := some .char }, accessFlags := 9, code := some k13c1 }
/-- java/lang/StringLatin1 -/
def k13 : Class := { plain "java/lang/StringLatin1" (some 0) with
  accessFlags := 48
  interfaces := #[]
  cf := some (fileOf pool13 14 #[.nestMembers #[390, 221]] #[{ accessFlags := 0, nameIndex := 7, descriptorIndex := 8, attributes := #[] }, { accessFlags := 9, nameIndex := 252, descriptorIndex := 53, attributes := #[] }] 48 4 #[] #[{ accessFlags := 4120, nameIndex := 121, descriptorIndex := 122, attributes := #[] }])
  fields := #[{ name := "$assertionsDisabled", type := .boolean, accessFlags := 4120, slot := 0, constantValue := 0 }]
  methods := #[k13m0, k13m1]
  instanceTypes := #[]
  staticTypes := #[.boolean]
  resolved := Array.replicate 395 none
  statics := none }

def pool14 : Array CpInfo := pool [(9, u "<init>"), (6, .class_ 18), (1, u "java/lang/Object"), (0, u "()V"), (1, .class_ 23), (1, u "jdk/internal/util/ArraysSupport"), (0, u "LOG2_ARRAY_LONG_INDEX_SCALE"), (0, u "I"), (2, u "U"), (0, u "Ljdk/internal/misc/Unsafe;"), (8, u "BIG_ENDIAN"), (0, u "Z"), (8, u "LOG2_BYTE_BIT_SIZE"), (4, u "LOG2_ARRAY_INT_INDEX_SCALE"), (54, u "JLA"), (0, u "Ljdk/internal/access/JavaLangAccess;"), (11, u "LOG2_ARRAY_BOOLEAN_INDEX_SCALE"), (9, u "LOG2_ARRAY_BYTE_INDEX_SCALE"), (5, u "LOG2_ARRAY_CHAR_INDEX_SCALE"), (5, u "LOG2_ARRAY_SHORT_INDEX_SCALE"), (18, u "LOG2_ARRAY_FLOAT_INDEX_SCALE"), (24, u "LOG2_ARRAY_DOUBLE_INDEX_SCALE"), (89, u "T_BOOLEAN"), (2, u "T_CHAR"), (1, u "T_FLOAT"), (1, u "T_DOUBLE"), (1, u "T_BYTE"), (1, u "T_SHORT"), (1, u "T_INT"), (1, u "T_LONG"), (1, u "SOFT_MAX_ARRAY_LENGTH")] 83

def k14m0 : Method := { name := "<init>", desc := "()V", sig := { parameters := [], returnType := none }, accessFlags := 2, code := none }
/-- jdk/internal/util/ArraysSupport -/
def k14 : Class := { plain "jdk/internal/util/ArraysSupport" (some 0) with
  accessFlags := 33
  interfaces := #[]
  cf := some (fileOf pool14 21 #[] #[{ accessFlags := 2, nameIndex := 9, descriptorIndex := 19, attributes := #[] }] 33 16 #[] #[{ accessFlags := 24, nameIndex := 28, descriptorIndex := 29, attributes := #[] }, { accessFlags := 26, nameIndex := 38, descriptorIndex := 39, attributes := #[] }, { accessFlags := 25, nameIndex := 121, descriptorIndex := 25, attributes := #[] }, { accessFlags := 25, nameIndex := 131, descriptorIndex := 25, attributes := #[] }, { accessFlags := 25, nameIndex := 137, descriptorIndex := 25, attributes := #[] }, { accessFlags := 25, nameIndex := 143, descriptorIndex := 25, attributes := #[] }, { accessFlags := 25, nameIndex := 53, descriptorIndex := 25, attributes := #[] }, { accessFlags := 25, nameIndex := 24, descriptorIndex := 25, attributes := #[] }, { accessFlags := 25, nameIndex := 162, descriptorIndex := 25, attributes := #[] }, { accessFlags := 25, nameIndex := 187, descriptorIndex := 25, attributes := #[] }, { accessFlags := 26, nameIndex := 48, descriptorIndex := 25, attributes := #[] }, { accessFlags := 25, nameIndex := 277, descriptorIndex := 25, attributes := #[] }, { accessFlags := 25, nameIndex := 280, descriptorIndex := 25, attributes := #[] }, { accessFlags := 25, nameIndex := 282, descriptorIndex := 25, attributes := #[] }, { accessFlags := 25, nameIndex := 284, descriptorIndex := 25, attributes := #[] }, { accessFlags := 25, nameIndex := 286, descriptorIndex := 25, attributes := #[] }, { accessFlags := 25, nameIndex := 288, descriptorIndex := 25, attributes := #[] }, { accessFlags := 25, nameIndex := 290, descriptorIndex := 25, attributes := #[] }, { accessFlags := 25, nameIndex := 292, descriptorIndex := 25, attributes := #[] }, { accessFlags := 26, nameIndex := 108, descriptorIndex := 109, attributes := #[] }, { accessFlags := 25, nameIndex := 294, descriptorIndex := 25, attributes := #[] }])
  fields := #[{ name := "U", type := (.object "jdk/internal/misc/Unsafe"), accessFlags := 24, slot := 0, constantValue := 0 }, { name := "BIG_ENDIAN", type := .boolean, accessFlags := 26, slot := 1, constantValue := 0 }, { name := "LOG2_ARRAY_BOOLEAN_INDEX_SCALE", type := .int, accessFlags := 25, slot := 2, constantValue := 0 }, { name := "LOG2_ARRAY_BYTE_INDEX_SCALE", type := .int, accessFlags := 25, slot := 3, constantValue := 0 }, { name := "LOG2_ARRAY_CHAR_INDEX_SCALE", type := .int, accessFlags := 25, slot := 4, constantValue := 0 }, { name := "LOG2_ARRAY_SHORT_INDEX_SCALE", type := .int, accessFlags := 25, slot := 5, constantValue := 0 }, { name := "LOG2_ARRAY_INT_INDEX_SCALE", type := .int, accessFlags := 25, slot := 6, constantValue := 0 }, { name := "LOG2_ARRAY_LONG_INDEX_SCALE", type := .int, accessFlags := 25, slot := 7, constantValue := 0 }, { name := "LOG2_ARRAY_FLOAT_INDEX_SCALE", type := .int, accessFlags := 25, slot := 8, constantValue := 0 }, { name := "LOG2_ARRAY_DOUBLE_INDEX_SCALE", type := .int, accessFlags := 25, slot := 9, constantValue := 0 }, { name := "LOG2_BYTE_BIT_SIZE", type := .int, accessFlags := 26, slot := 10, constantValue := 0 }, { name := "T_BOOLEAN", type := .int, accessFlags := 25, slot := 11, constantValue := 0 }, { name := "T_CHAR", type := .int, accessFlags := 25, slot := 12, constantValue := 0 }, { name := "T_FLOAT", type := .int, accessFlags := 25, slot := 13, constantValue := 0 }, { name := "T_DOUBLE", type := .int, accessFlags := 25, slot := 14, constantValue := 0 }, { name := "T_BYTE", type := .int, accessFlags := 25, slot := 15, constantValue := 0 }, { name := "T_SHORT", type := .int, accessFlags := 25, slot := 16, constantValue := 0 }, { name := "T_INT", type := .int, accessFlags := 25, slot := 17, constantValue := 0 }, { name := "T_LONG", type := .int, accessFlags := 25, slot := 18, constantValue := 0 }, { name := "JLA", type := (.object "jdk/internal/access/JavaLangAccess"), accessFlags := 26, slot := 19, constantValue := 0 }, { name := "SOFT_MAX_ARRAY_LENGTH", type := .int, accessFlags := 25, slot := 20, constantValue := 0 }]
  methods := #[k14m0]
  instanceTypes := #[]
  staticTypes := #[(.object "jdk/internal/misc/Unsafe"), .boolean, .int, .int, .int, .int, .int, .int, .int, .int, .int, .int, .int, .int, .int, .int, .int, .int, .int, (.object "jdk/internal/access/JavaLangAccess"), .int]
  resolved := Array.replicate 378 none
  statics := none }

def pool15 : Array CpInfo := pool [(1, u "java/lang/Cloneable"), (0, .class_ 1), (0, u "java/lang/Object"), (0, .class_ 3)] 3

/-- java/lang/Cloneable -/
def k15 : Class := { plain "java/lang/Cloneable" (some 0) with
  accessFlags := 1537
  interfaces := #[]
  cf := some (fileOf pool15 2 #[] #[] 1537 4 #[] #[])
  fields := #[]
  methods := #[]
  instanceTypes := #[]
  staticTypes := #[]
  resolved := Array.replicate 8 none
  statics := none }

/-- the primitive boolean -/
def k16 : Class := { plain "boolean" none with kind := .primitive 'Z', accessFlags := 0x411 }
/-- [Z -/
def k17 : Class := { plain "[Z" (some 0) with kind := .array 16 .boolean, interfaces := #[15, 2], accessFlags := 1041 }

/-- the primitive byte -/
def k18 : Class := { plain "byte" none with kind := .primitive 'B', accessFlags := 0x411 }
/-- [B -/
def k19 : Class := { plain "[B" (some 0) with kind := .array 18 .byte, interfaces := #[15, 2], accessFlags := 1041 }

/-- the primitive char -/
def k20 : Class := { plain "char" none with kind := .primitive 'C', accessFlags := 0x411 }
/-- [C -/
def k21 : Class := { plain "[C" (some 0) with kind := .array 20 .char, interfaces := #[15, 2], accessFlags := 1041 }

/-- the primitive int -/
def k22 : Class := { plain "int" none with kind := .primitive 'I', accessFlags := 0x411 }
/-- [I -/
def k23 : Class := { plain "[I" (some 0) with kind := .array 22 .int, interfaces := #[15, 2], accessFlags := 1041 }

def heap : Heap := #[{ cls := 7, slots := #[.long 0, .int 1, .null, .int 0, .null, .int 0, .int 0], vm := .statics 7 },
  { cls := 9, slots := #[.ref 10, .ref 11, .ref 12, .ref 13, .ref 14, .ref 15, .null], vm := .statics 9 },
  { cls := 11, slots := #[.int 0, .int 8, .int 0, .int 1], vm := .statics 11 },
  { cls := 12, slots := #[.null, .null, .null], vm := .statics 12 },
  { cls := 17, slots := #[.int 0, .int 0, .int 0, .int 0, .int 0, .int 0, .int 0, .int 0, .int 0, .int 0, .int 0, .int 0, .int 0, .int 0, .int 0, .int 0, .int 0, .int 0, .int 0, .int 0, .int 0, .int 0, .int 0, .int 0, .int 0, .int 0, .int 0, .int 0, .int 0, .int 0, .int 0, .int 0, .int 0, .int 0, .int 0, .int 0, .int 0, .int 0, .int 0, .int 0, .int 0, .int 0, .int 0, .int 0, .int 0, .int 0, .int 0, .int 0, .int 1, .int 1, .int 1, .int 1, .int 1, .int 1, .int 1, .int 1, .int 1, .int 1, .int 0, .int 0, .int 0, .int 0, .int 0, .int 0, .int 0, .int 0, .int 0, .int 0, .int 0, .int 0, .int 0, .int 0, .int 0, .int 0, .int 0, .int 0, .int 0, .int 0, .int 0, .int 0, .int 0, .int 0, .int 0, .int 0, .int 0, .int 0, .int 0, .int 0, .int 0, .int 0, .int 0, .int 0, .int 0, .int 0, .int 0, .int 0, .int 0, .int 0, .int 0, .int 0, .int 0, .int 0, .int 0, .int 0, .int 0, .int 0, .int 0, .int 0, .int 0, .int 0, .int 0, .int 0, .int 0, .int 0, .int 0, .int 0, .int 0, .int 0, .int 0, .int 0, .int 0, .int 0, .int 0, .int 0, .int 0, .int 0, .int 0, .int 0, .int 0, .int 0, .int 0, .int 0, .int 0, .int 0, .int 0, .int 0, .int 0, .int 0, .int 0, .int 0, .int 0, .int 0, .int 0, .int 0, .int 0, .int 0, .int 0, .int 0, .int 0, .int 0, .int 0, .int 0, .int 0, .int 0, .int 0, .int 0, .int 0, .int 0, .int 0, .int 0, .int 0, .int 0, .int 0, .int 0, .int 0, .int 0, .int 0, .int 0, .int 0, .int 0, .int 0, .int 0, .int 0, .int 0, .int 0, .int 0, .int 0, .int 0, .int 0, .int 0, .int 0, .int 0, .int 0, .int 0, .int 0, .int 0, .int 0, .int 0, .int 0, .int 0, .int 0, .int 0, .int 0, .int 0, .int 0, .int 0, .int 0, .int 0, .int 0, .int 0, .int 0, .int 0, .int 0, .int 0, .int 0, .int 0, .int 0, .int 0, .int 0, .int 0, .int 0, .int 0, .int 0, .int 0, .int 0, .int 0, .int 0, .int 0, .int 0, .int 0, .int 0, .int 0, .int 0, .int 0, .int 0, .int 0, .int 0, .int 0, .int 0, .int 0, .int 0, .int 0, .int 0, .int 0, .int 0, .int 0, .int 0, .int 0, .int 0, .int 0, .int 0, .int 0, .int 0, .int 0, .int 0, .int 0, .int 0, .int 0, .int 0, .int 0, .int 0, .int 0, .int 0, .int 0, .int 0, .int 0], vm := .none },
  { cls := 17, slots := #[.int 0, .int 0, .int 0, .int 0, .int 0, .int 0, .int 0, .int 0, .int 0, .int 0, .int 0, .int 0, .int 0, .int 0, .int 0, .int 0, .int 0, .int 0, .int 0, .int 0, .int 0, .int 0, .int 0, .int 0, .int 0, .int 0, .int 0, .int 0, .int 0, .int 0, .int 0, .int 0, .int 0, .int 0, .int 0, .int 0, .int 0, .int 0, .int 0, .int 0, .int 0, .int 0, .int 0, .int 0, .int 0, .int 0, .int 0, .int 0, .int 1, .int 1, .int 1, .int 1, .int 1, .int 1, .int 1, .int 1, .int 1, .int 1, .int 0, .int 0, .int 0, .int 0, .int 0, .int 0, .int 0, .int 1, .int 1, .int 1, .int 1, .int 1, .int 1, .int 1, .int 1, .int 1, .int 1, .int 1, .int 1, .int 1, .int 1, .int 1, .int 1, .int 1, .int 1, .int 1, .int 1, .int 1, .int 1, .int 1, .int 1, .int 1, .int 1, .int 0, .int 0, .int 0, .int 0, .int 0, .int 0, .int 1, .int 1, .int 1, .int 1, .int 1, .int 1, .int 1, .int 1, .int 1, .int 1, .int 1, .int 1, .int 1, .int 1, .int 1, .int 1, .int 1, .int 1, .int 1, .int 1, .int 1, .int 1, .int 1, .int 1, .int 1, .int 1, .int 0, .int 0, .int 0, .int 0, .int 0, .int 0, .int 0, .int 0, .int 0, .int 0, .int 0, .int 0, .int 0, .int 0, .int 0, .int 0, .int 0, .int 0, .int 0, .int 0, .int 0, .int 0, .int 0, .int 0, .int 0, .int 0, .int 0, .int 0, .int 0, .int 0, .int 0, .int 0, .int 0, .int 0, .int 0, .int 0, .int 0, .int 0, .int 0, .int 0, .int 0, .int 0, .int 0, .int 0, .int 0, .int 0, .int 0, .int 0, .int 0, .int 0, .int 0, .int 0, .int 0, .int 0, .int 0, .int 0, .int 0, .int 0, .int 0, .int 0, .int 0, .int 0, .int 0, .int 0, .int 0, .int 0, .int 0, .int 0, .int 0, .int 0, .int 0, .int 0, .int 0, .int 0, .int 0, .int 0, .int 0, .int 0, .int 0, .int 0, .int 0, .int 0, .int 0, .int 0, .int 0, .int 0, .int 0, .int 0, .int 0, .int 0, .int 0, .int 0, .int 0, .int 0, .int 0, .int 0, .int 0, .int 0, .int 0, .int 0, .int 0, .int 0, .int 0, .int 0, .int 0, .int 0, .int 0, .int 0, .int 0, .int 0, .int 0, .int 0, .int 0, .int 0, .int 0, .int 0, .int 0, .int 0, .int 0, .int 0, .int 0, .int 0, .int 0, .int 0, .int 0, .int 0, .int 0, .int 0, .int 0, .int 0, .int 0, .int 0, .int 0], vm := .none },
  { cls := 17, slots := #[.int 0, .int 0, .int 0, .int 0, .int 0, .int 0, .int 0, .int 0, .int 0, .int 0, .int 0, .int 0, .int 0, .int 0, .int 0, .int 0, .int 0, .int 0, .int 0, .int 0, .int 0, .int 0, .int 0, .int 0, .int 0, .int 0, .int 0, .int 0, .int 0, .int 0, .int 0, .int 0, .int 1, .int 1, .int 1, .int 1, .int 1, .int 1, .int 1, .int 1, .int 1, .int 1, .int 1, .int 1, .int 1, .int 1, .int 1, .int 1, .int 1, .int 1, .int 1, .int 1, .int 1, .int 1, .int 1, .int 1, .int 1, .int 1, .int 1, .int 1, .int 1, .int 1, .int 1, .int 1, .int 1, .int 1, .int 1, .int 1, .int 1, .int 1, .int 1, .int 1, .int 1, .int 1, .int 1, .int 1, .int 1, .int 1, .int 1, .int 1, .int 1, .int 1, .int 1, .int 1, .int 1, .int 1, .int 1, .int 1, .int 1, .int 1, .int 1, .int 1, .int 1, .int 1, .int 1, .int 1, .int 1, .int 1, .int 1, .int 1, .int 1, .int 1, .int 1, .int 1, .int 1, .int 1, .int 1, .int 1, .int 1, .int 1, .int 1, .int 1, .int 1, .int 1, .int 1, .int 1, .int 1, .int 1, .int 1, .int 1, .int 1, .int 1, .int 1, .int 1, .int 1, .int 1, .int 1, .int 0, .int 0, .int 0, .int 0, .int 0, .int 0, .int 0, .int 0, .int 0, .int 0, .int 0, .int 0, .int 0, .int 0, .int 0, .int 0, .int 0, .int 0, .int 0, .int 0, .int 0, .int 0, .int 0, .int 0, .int 0, .int 0, .int 0, .int 0, .int 0, .int 0, .int 0, .int 0, .int 0, .int 0, .int 0, .int 0, .int 0, .int 0, .int 0, .int 0, .int 0, .int 0, .int 0, .int 0, .int 0, .int 0, .int 0, .int 0, .int 0, .int 0, .int 0, .int 0, .int 0, .int 0, .int 0, .int 0, .int 0, .int 0, .int 0, .int 0, .int 0, .int 0, .int 0, .int 0, .int 0, .int 0, .int 0, .int 0, .int 0, .int 0, .int 0, .int 0, .int 0, .int 0, .int 0, .int 0, .int 0, .int 0, .int 0, .int 0, .int 0, .int 0, .int 0, .int 0, .int 0, .int 0, .int 0, .int 0, .int 0, .int 0, .int 0, .int 0, .int 0, .int 0, .int 0, .int 0, .int 0, .int 0, .int 0, .int 0, .int 0, .int 0, .int 0, .int 0, .int 0, .int 0, .int 0, .int 0, .int 0, .int 0, .int 0, .int 0, .int 0, .int 0, .int 0, .int 0, .int 0, .int 0, .int 0, .int 0, .int 0, .int 0, .int 0, .int 0, .int 0, .int 0, .int 0, .int 0, .int 0], vm := .none },
  { cls := 17, slots := #[.int 0, .int 0, .int 0, .int 0, .int 0, .int 0, .int 0, .int 0, .int 0, .int 0, .int 0, .int 0, .int 0, .int 0, .int 0, .int 0, .int 0, .int 0, .int 0, .int 0, .int 0, .int 0, .int 0, .int 0, .int 0, .int 0, .int 0, .int 0, .int 0, .int 0, .int 0, .int 0, .int 0, .int 0, .int 0, .int 0, .int 0, .int 0, .int 0, .int 0, .int 0, .int 0, .int 0, .int 0, .int 0, .int 0, .int 0, .int 0, .int 1, .int 1, .int 1, .int 1, .int 1, .int 1, .int 1, .int 1, .int 1, .int 1, .int 1, .int 0, .int 1, .int 1, .int 1, .int 0, .int 0, .int 0, .int 0, .int 0, .int 0, .int 0, .int 0, .int 0, .int 0, .int 0, .int 0, .int 0, .int 0, .int 0, .int 0, .int 0, .int 0, .int 0, .int 0, .int 0, .int 0, .int 0, .int 0, .int 0, .int 0, .int 0, .int 0, .int 0, .int 0, .int 0, .int 0, .int 0, .int 0, .int 0, .int 0, .int 0, .int 0, .int 0, .int 0, .int 0, .int 0, .int 0, .int 0, .int 0, .int 0, .int 0, .int 0, .int 0, .int 0, .int 0, .int 0, .int 0, .int 0, .int 0, .int 0, .int 0, .int 0, .int 0, .int 0, .int 0, .int 0, .int 0, .int 0, .int 0, .int 0, .int 0, .int 0, .int 0, .int 0, .int 0, .int 0, .int 0, .int 0, .int 0, .int 0, .int 0, .int 0, .int 0, .int 0, .int 0, .int 0, .int 0, .int 0, .int 0, .int 0, .int 0, .int 0, .int 0, .int 0, .int 0, .int 0, .int 0, .int 0, .int 0, .int 0, .int 0, .int 0, .int 0, .int 0, .int 0, .int 0, .int 0, .int 0, .int 0, .int 0, .int 0, .int 0, .int 0, .int 0, .int 0, .int 0, .int 0, .int 0, .int 0, .int 0, .int 0, .int 0, .int 0, .int 0, .int 0, .int 0, .int 0, .int 0, .int 0, .int 0, .int 0, .int 0, .int 0, .int 0, .int 0, .int 0, .int 0, .int 0, .int 0, .int 0, .int 0, .int 0, .int 0, .int 0, .int 0, .int 0, .int 0, .int 0, .int 0, .int 0, .int 0, .int 0, .int 0, .int 0, .int 0, .int 0, .int 0, .int 0, .int 0, .int 0, .int 0, .int 0, .int 0, .int 0, .int 0, .int 0, .int 0, .int 0, .int 0, .int 0, .int 0, .int 0, .int 0, .int 0, .int 0, .int 0, .int 0, .int 0, .int 0, .int 0, .int 0, .int 0, .int 0, .int 0, .int 0, .int 0, .int 0, .int 0, .int 0, .int 0, .int 0, .int 0, .int 0, .int 0, .int 0, .int 0, .int 0], vm := .none },
  { cls := 17, slots := #[.int 0, .int 0, .int 0, .int 0, .int 0, .int 0, .int 0, .int 0, .int 0, .int 0, .int 0, .int 0, .int 0, .int 0, .int 0, .int 0, .int 0, .int 0, .int 0, .int 0, .int 0, .int 0, .int 0, .int 0, .int 0, .int 0, .int 0, .int 0, .int 0, .int 0, .int 0, .int 0, .int 0, .int 0, .int 0, .int 0, .int 0, .int 0, .int 0, .int 0, .int 0, .int 0, .int 0, .int 0, .int 0, .int 0, .int 0, .int 0, .int 1, .int 1, .int 1, .int 1, .int 1, .int 1, .int 1, .int 1, .int 1, .int 1, .int 0, .int 0, .int 0, .int 0, .int 0, .int 0, .int 0, .int 0, .int 0, .int 0, .int 0, .int 0, .int 0, .int 0, .int 0, .int 0, .int 0, .int 0, .int 0, .int 0, .int 0, .int 0, .int 0, .int 0, .int 0, .int 0, .int 0, .int 0, .int 0, .int 0, .int 0, .int 0, .int 0, .int 0, .int 0, .int 0, .int 0, .int 0, .int 0, .int 0, .int 0, .int 0, .int 0, .int 0, .int 0, .int 0, .int 0, .int 0, .int 0, .int 0, .int 0, .int 0, .int 0, .int 0, .int 0, .int 0, .int 0, .int 0, .int 0, .int 0, .int 0, .int 0, .int 0, .int 0, .int 0, .int 0, .int 0, .int 0, .int 0, .int 0, .int 0, .int 0, .int 0, .int 0, .int 0, .int 0, .int 0, .int 0, .int 0, .int 0, .int 0, .int 0, .int 0, .int 0, .int 0, .int 0, .int 0, .int 0, .int 0, .int 0, .int 0, .int 0, .int 0, .int 0, .int 0, .int 0, .int 0, .int 0, .int 0, .int 0, .int 0, .int 0, .int 0, .int 0, .int 0, .int 0, .int 0, .int 0, .int 0, .int 0, .int 0, .int 0, .int 0, .int 0, .int 0, .int 0, .int 0, .int 0, .int 0, .int 0, .int 0, .int 0, .int 0, .int 0, .int 0, .int 0, .int 0, .int 0, .int 0, .int 0, .int 0, .int 0, .int 0, .int 0, .int 0, .int 0, .int 0, .int 0, .int 0, .int 0, .int 0, .int 0, .int 0, .int 0, .int 0, .int 0, .int 0, .int 0, .int 0, .int 0, .int 0, .int 0, .int 0, .int 0, .int 0, .int 0, .int 0, .int 0, .int 0, .int 0, .int 0, .int 0, .int 0, .int 0, .int 0, .int 0, .int 0, .int 0, .int 0, .int 0, .int 0, .int 0, .int 0, .int 0, .int 0, .int 0, .int 0, .int 0, .int 0, .int 0, .int 0, .int 0, .int 0, .int 0, .int 0, .int 0, .int 0, .int 0, .int 0, .int 0, .int 0, .int 0, .int 0, .int 0, .int 0, .int 0, .int 0, .int 0], vm := .none },
  { cls := 17, slots := #[.int 1, .int 1, .int 1, .int 1, .int 1, .int 1, .int 1, .int 1, .int 1, .int 1, .int 1, .int 1, .int 1, .int 1, .int 1, .int 1, .int 1, .int 1, .int 1, .int 1, .int 1, .int 1, .int 1, .int 1, .int 1, .int 1, .int 1, .int 1, .int 1, .int 1, .int 1, .int 1, .int 1, .int 1, .int 1, .int 1, .int 1, .int 1, .int 1, .int 1, .int 1, .int 1, .int 1, .int 1, .int 1, .int 1, .int 1, .int 1, .int 1, .int 1, .int 1, .int 1, .int 1, .int 1, .int 1, .int 1, .int 1, .int 1, .int 1, .int 1, .int 1, .int 1, .int 1, .int 1, .int 1, .int 1, .int 1, .int 1, .int 1, .int 1, .int 1, .int 1, .int 1, .int 1, .int 1, .int 1, .int 1, .int 1, .int 1, .int 1, .int 1, .int 1, .int 1, .int 1, .int 1, .int 1, .int 1, .int 1, .int 1, .int 1, .int 1, .int 1, .int 1, .int 1, .int 1, .int 1, .int 1, .int 1, .int 1, .int 1, .int 1, .int 1, .int 1, .int 1, .int 1, .int 1, .int 1, .int 1, .int 1, .int 1, .int 1, .int 1, .int 1, .int 1, .int 1, .int 1, .int 1, .int 1, .int 1, .int 1, .int 1, .int 1, .int 1, .int 1, .int 1, .int 1, .int 1, .int 1, .int 1, .int 1, .int 1, .int 1, .int 1, .int 1, .int 1, .int 1, .int 1, .int 1, .int 1, .int 1, .int 1, .int 1, .int 1, .int 1, .int 1, .int 1, .int 1, .int 1, .int 1, .int 1, .int 1, .int 1, .int 1, .int 1, .int 1, .int 1, .int 1, .int 1, .int 1, .int 1, .int 1, .int 1, .int 1, .int 1, .int 1, .int 1, .int 1, .int 1, .int 1, .int 1, .int 1, .int 1, .int 1, .int 1, .int 1, .int 1, .int 1, .int 1, .int 1, .int 1, .int 1, .int 1, .int 1, .int 1, .int 1, .int 1, .int 1, .int 1, .int 1, .int 1, .int 1, .int 1, .int 1, .int 1, .int 1, .int 1, .int 1, .int 1, .int 1, .int 1, .int 1, .int 1, .int 1, .int 1, .int 1, .int 1, .int 1, .int 1, .int 1, .int 1, .int 1, .int 1, .int 1, .int 1, .int 1, .int 1, .int 1, .int 1, .int 1, .int 1, .int 1, .int 1, .int 1, .int 1, .int 1, .int 1, .int 1, .int 1, .int 1, .int 1, .int 1, .int 1, .int 1, .int 1, .int 1, .int 1, .int 1, .int 1, .int 1, .int 1, .int 1, .int 1, .int 1, .int 1, .int 1, .int 1, .int 1, .int 1, .int 1, .int 1, .int 1, .int 1, .int 1, .int 1, .int 1, .int 1], vm := .none },
  { cls := 9, slots := #[.null, .int 0, .int 0, .null, .int 0, .ref 4], vm := .none },
  { cls := 9, slots := #[.null, .int 0, .int 0, .null, .int 1, .ref 5], vm := .none },
  { cls := 9, slots := #[.null, .int 0, .int 0, .null, .int 0, .ref 6], vm := .none },
  { cls := 9, slots := #[.null, .int 0, .int 0, .null, .int 0, .ref 7], vm := .none },
  { cls := 10, slots := #[.null, .int 0, .int 0, .null, .int 0, .ref 8], vm := .none },
  { cls := 9, slots := #[.null, .int 0, .int 0, .null, .int 0, .ref 9], vm := .none }]
def classes : Array Class := #[k0, k1, k2, k3, k4, k5, k6, k7, k8, k9, k10, k11, k12, k13, k14, k15, k16, k17, k18, k19, k20, k21, k22, k23]
def interned : List (Array UInt16 × Addr) := []
def slotsUsed : Nat := 1593
def theMethod : MethodId := ⟨1, 5⟩
def args0 : Array Value := #[.int 785, .int 65, .int 32, .int 32]
def aboutOver (below : List Frame) : State where
  vm := { classes := classes, interned := interned.toArray }
  heap := heap
  slotsUsed := slotsUsed
  threads := #[{ frames := .invoking theMethod args0 :: below }]
def below0 : List Frame := [.native { method := ⟨0, 0⟩, args := #[] }]
def about1 : State := aboutOver below0
def p0 : Program := .bare "" "" ""
def e0 : Env := launch0.env 0 0 0
theorem w_frames : about1.frames = Frame.invoking theMethod args0 :: below0 := rfl
set_option maxRecDepth 65536 in
theorem w_args : argsFit about1.vm theMethod args0 = true := by decide +kernel
set_option maxRecDepth 65536 in
theorem w_heap : heapFits about1 = true := by decide +kernel
set_option maxRecDepth 65536 in
theorem w_runnable : about1.curStatus? = some .runnable := by decide +kernel
set_option maxRecDepth 65536 in
theorem w_alone : about1.alone = true := by decide +kernel
set_option maxRecDepth 65536 in
theorem w_named : about1.methodNamed? x = some theMethod := by decide +kernel
set_option maxRecDepth 65536 in
theorem w_hears : about1.hears theMethod below0 = true := by decide +kernel
set_option maxRecDepth 65536 in
theorem w_ripe : about1.ripe theMethod args0 below0 = true := by decide +kernel
theorem w_running : about1.status = .running := rfl
set_option maxRecDepth 65536 in
theorem w_room : about1.hasRoom e0.platform room_1 = true :=
  launch0.hasRoom_least _ room_1 (by decide +kernel) (by decide +kernel) (by decide +kernel) (by decide +kernel) (by decide +kernel) (by decide +kernel)
theorem allAtoms_all (ts : List Jvm.Cond) (a : Array Jvm.Value) (st : Jvm.State) : (allAtoms ts).before a st = ts.all (fun c => c.before a st) := by
  induction ts with
  | nil => rfl
  | cons c t ih =>
    show (Jvm.Cond.and c (allAtoms t)).before a st = _
    rw [Jvm.Cond.before_and, ih, List.all_cons]
def words1 : List Jvm.Cond := Jvm.Cond.code x code maxLocals ret :: tables_1
/-- a 'code' word, met by the world's own term for the bytes: nothing is compared byte by byte -/
theorem code_word {y : MethodName} {bytes : ByteArray} {mx : Nat} {rt : Option FieldType} {a : Array Value} {s : State} {m : MethodId} {meth : Method} {c : Code} (h1 : s.methodNamed? y = some m) (h2 : s.vm.method? m = some meth) (h3 : meth.code = some c) (h4 : c.code = bytes)
    (h5 : (c.maxLocals == mx && c.exceptionTable.isEmpty && decide (c.maxStack ≤ mostOperands) && decide (meth.sig.returnType = rt) && !meth.locks && decide (parseMethodDescriptor y.desc = some meth.sig)) = true) : (Jvm.Cond.code y bytes mx rt).before a s = true := by
  simp only [Bool.and_eq_true, beq_iff_eq, Bool.not_eq_true', decide_eq_true_eq] at h5
  obtain ⟨⟨⟨⟨⟨g1, g2⟩, g3⟩, g4⟩, g5⟩, g6⟩ := h5
  simp [Cond.before, Cond.holds, Cond.value, h1, h2, h3, h4, g1, g2, g3, g4, g5, g6]
def isCode : Jvm.Cond → Bool
  | .code _ _ _ _ => true
  | _ => false
theorem all_split {L : List Jvm.Cond} {P : Jvm.Cond → Bool} (h1 : L.all (fun c => isCode c || P c) = true) (h2 : ∀ c ∈ L.filter isCode, P c = true) : L.all P = true := by
  refine List.all_eq_true.mpr fun c hc => ?_
  have h := List.all_eq_true.mp h1 c hc
  rcases Bool.eq_false_or_eq_true (isCode c) with hi | hi
  · exact h2 c (List.mem_filter.mpr ⟨hc, hi⟩)
  · simpa [hi] using h
set_option maxRecDepth 65536 in
theorem w_c0 : (Jvm.Cond.code x code maxLocals ret).before args0 about1 = true := code_word (m := ⟨1, 5⟩) (meth := k1m5) (c := k1c5) (by decide +kernel) rfl rfl rfl (by decide +kernel)
set_option maxRecDepth 65536 in
theorem w_c1 : (Jvm.Cond.code ({ cls := "java/lang/String", name := "<init>", desc := "([C)V" } : Jvm.MethodName) jdk_42_method_3_code (2 : Nat) (Option.none : Option Jvm.ClassFile.FieldType)).before args0 about1 = true := code_word (m := ⟨7, 1⟩) (meth := k7m1) (c := k7c1) (by decide +kernel) rfl rfl rfl (by decide +kernel)
set_option maxRecDepth 65536 in
theorem w_c2 : (Jvm.Cond.code ({ cls := "java/lang/String", name := "<init>", desc := "([CIILjava/lang/Void;)V" } : Jvm.MethodName) jdk_42_method_149_code (6 : Nat) (Option.none : Option Jvm.ClassFile.FieldType)).before args0 about1 = true := code_word (m := ⟨7, 4⟩) (meth := k7m4) (c := k7c4) (by decide +kernel) rfl rfl rfl (by decide +kernel)
set_option maxRecDepth 65536 in
theorem w_c3 : (Jvm.Cond.code ({ cls := "java/lang/Object", name := "<init>", desc := "()V" } : Jvm.MethodName) object_method_1_code (1 : Nat) (Option.none : Option Jvm.ClassFile.FieldType)).before args0 about1 = true := code_word (m := ⟨0, 0⟩) (meth := k0m0) (c := k0c0) (by decide +kernel) rfl rfl rfl (by decide +kernel)
set_option maxRecDepth 65536 in
theorem w_c4 : (Jvm.Cond.code ({ cls := "com/example/huiqiao/huiqiao/iso8583/ContentRunsFromPinLaw", name := "content", desc := "(I)Lcom/example/huiqiao/huiqiao/iso8583/SwitchField$Content;" } : Jvm.MethodName) method_5_code (1 : Nat) (Option.some (Jvm.ClassFile.FieldType.object "com/example/huiqiao/huiqiao/iso8583/SwitchField$Content"))).before args0 about1 = true := code_word (m := ⟨1, 4⟩) (meth := k1m4) (c := k1c4) (by decide +kernel) rfl rfl rfl (by decide +kernel)
set_option maxRecDepth 65536 in
theorem w_c5 : (Jvm.Cond.code ({ cls := "com/example/huiqiao/huiqiao/iso8583/SwitchField$Content", name := "runsFrom", desc := "(Ljava/lang/String;I)Z" } : Jvm.MethodName) prog_34_method_5_code (4 : Nat) (Option.some Jvm.ClassFile.FieldType.boolean)).before args0 about1 = true := code_word (m := ⟨9, 0⟩) (meth := k9m0) (c := k9c0) (by decide +kernel) rfl rfl rfl (by decide +kernel)
set_option maxRecDepth 65536 in
theorem w_c6 : (Jvm.Cond.code ({ cls := "java/lang/String", name := "length", desc := "()I" } : Jvm.MethodName) jdk_42_method_54_code (1 : Nat) (Option.some Jvm.ClassFile.FieldType.int)).before args0 about1 = true := code_word (m := ⟨7, 2⟩) (meth := k7m2) (c := k7c2) (by decide +kernel) rfl rfl rfl (by decide +kernel)
set_option maxRecDepth 65536 in
theorem w_c7 : (Jvm.Cond.code ({ cls := "java/lang/String", name := "coder", desc := "()B" } : Jvm.MethodName) jdk_42_method_152_code (1 : Nat) (Option.some Jvm.ClassFile.FieldType.byte)).before args0 about1 = true := code_word (m := ⟨7, 5⟩) (meth := k7m5) (c := k7c5) (by decide +kernel) rfl rfl rfl (by decide +kernel)
set_option maxRecDepth 65536 in
theorem w_c8 : (Jvm.Cond.code ({ cls := "java/lang/StringUTF16", name := "compress", desc := "([CII)[B" } : Jvm.MethodName) jdk_52_method_16_code (6 : Nat) (Option.some (Jvm.ClassFile.FieldType.array Jvm.ClassFile.FieldType.byte))).before args0 about1 = true := code_word (m := ⟨11, 8⟩) (meth := k11m8) (c := k11c8) (by decide +kernel) rfl rfl rfl (by decide +kernel)
set_option maxRecDepth 65536 in
theorem w_c9 : (Jvm.Cond.code ({ cls := "java/lang/StringUTF16", name := "compress", desc := "([CI[BII)I" } : Jvm.MethodName) jdk_52_method_21_code (7 : Nat) (Option.some Jvm.ClassFile.FieldType.int)).before args0 about1 = true := code_word (m := ⟨11, 9⟩) (meth := k11m9) (c := k11c9) (by decide +kernel) rfl rfl rfl (by decide +kernel)
set_option maxRecDepth 65536 in
theorem w_c10 : (Jvm.Cond.code ({ cls := "java/lang/StringUTF16", name := "coderFromArrayLen", desc := "([BI)B" } : Jvm.MethodName) jdk_52_method_15_code (2 : Nat) (Option.some Jvm.ClassFile.FieldType.byte)).before args0 about1 = true := code_word (m := ⟨11, 7⟩) (meth := k11m7) (c := k11c7) (by decide +kernel) rfl rfl rfl (by decide +kernel)
set_option maxRecDepth 65536 in
theorem w_c11 : (Jvm.Cond.code ({ cls := "java/lang/StringUTF16", name := "toBytes", desc := "([CII)[B" } : Jvm.MethodName) jdk_52_method_14_code (5 : Nat) (Option.some (Jvm.ClassFile.FieldType.array Jvm.ClassFile.FieldType.byte))).before args0 about1 = true := code_word (m := ⟨11, 6⟩) (meth := k11m6) (c := k11c6) (by decide +kernel) rfl rfl rfl (by decide +kernel)
set_option maxRecDepth 65536 in
theorem w_c12 : (Jvm.Cond.code ({ cls := "java/lang/StringUTF16", name := "newBytesFor", desc := "(I)[B" } : Jvm.MethodName) jdk_52_method_2_code (1 : Nat) (Option.some (Jvm.ClassFile.FieldType.array Jvm.ClassFile.FieldType.byte))).before args0 about1 = true := code_word (m := ⟨11, 1⟩) (meth := k11m1) (c := k11c1) (by decide +kernel) rfl rfl rfl (by decide +kernel)
set_option maxRecDepth 65536 in
theorem w_c13 : (Jvm.Cond.code ({ cls := "java/lang/StringUTF16", name := "newBytesLength", desc := "(I)I" } : Jvm.MethodName) jdk_52_method_3_code (1 : Nat) (Option.some Jvm.ClassFile.FieldType.int)).before args0 about1 = true := code_word (m := ⟨11, 2⟩) (meth := k11m2) (c := k11c2) (by decide +kernel) rfl rfl rfl (by decide +kernel)
set_option maxRecDepth 65536 in
theorem w_c14 : (Jvm.Cond.code ({ cls := "java/lang/StringUTF16", name := "putChar", desc := "([BII)V" } : Jvm.MethodName) jdk_52_method_4_code (3 : Nat) (Option.none : Option Jvm.ClassFile.FieldType)).before args0 about1 = true := code_word (m := ⟨11, 3⟩) (meth := k11m3) (c := k11c3) (by decide +kernel) rfl rfl rfl (by decide +kernel)
set_option maxRecDepth 65536 in
theorem w_c15 : (Jvm.Cond.code ({ cls := "java/lang/StringUTF16", name := "getChar", desc := "([BI)C" } : Jvm.MethodName) jdk_52_method_5_code (2 : Nat) (Option.some Jvm.ClassFile.FieldType.char)).before args0 about1 = true := code_word (m := ⟨11, 4⟩) (meth := k11m4) (c := k11c4) (by decide +kernel) rfl rfl rfl (by decide +kernel)
set_option maxRecDepth 65536 in
theorem w_c16 : (Jvm.Cond.code ({ cls := "java/lang/String", name := "charAt", desc := "(I)C" } : Jvm.MethodName) jdk_42_method_56_code (2 : Nat) (Option.some Jvm.ClassFile.FieldType.char)).before args0 about1 = true := code_word (m := ⟨7, 3⟩) (meth := k7m3) (c := k7c3) (by decide +kernel) rfl rfl rfl (by decide +kernel)
set_option maxRecDepth 65536 in
theorem w_c17 : (Jvm.Cond.code ({ cls := "java/lang/String", name := "isLatin1", desc := "()Z" } : Jvm.MethodName) jdk_42_method_154_code (1 : Nat) (Option.some Jvm.ClassFile.FieldType.boolean)).before args0 about1 = true := code_word (m := ⟨7, 6⟩) (meth := k7m6) (c := k7c6) (by decide +kernel) rfl rfl rfl (by decide +kernel)
set_option maxRecDepth 65536 in
theorem w_c18 : (Jvm.Cond.code ({ cls := "java/lang/StringUTF16", name := "charAt", desc := "([BI)C" } : Jvm.MethodName) jdk_52_method_83_code (2 : Nat) (Option.some Jvm.ClassFile.FieldType.char)).before args0 about1 = true := code_word (m := ⟨11, 10⟩) (meth := k11m10) (c := k11c10) (by decide +kernel) rfl rfl rfl (by decide +kernel)
set_option maxRecDepth 65536 in
theorem w_c19 : (Jvm.Cond.code ({ cls := "java/lang/StringUTF16", name := "checkIndex", desc := "(I[B)V" } : Jvm.MethodName) jdk_52_method_91_code (2 : Nat) (Option.none : Option Jvm.ClassFile.FieldType)).before args0 about1 = true := code_word (m := ⟨11, 11⟩) (meth := k11m11) (c := k11c11) (by decide +kernel) rfl rfl rfl (by decide +kernel)
set_option maxRecDepth 65536 in
theorem w_c20 : (Jvm.Cond.code ({ cls := "java/lang/StringUTF16", name := "length", desc := "([B)I" } : Jvm.MethodName) jdk_52_method_6_code (1 : Nat) (Option.some Jvm.ClassFile.FieldType.int)).before args0 about1 = true := code_word (m := ⟨11, 5⟩) (meth := k11m5) (c := k11c5) (by decide +kernel) rfl rfl rfl (by decide +kernel)
set_option maxRecDepth 65536 in
theorem w_c21 : (Jvm.Cond.code ({ cls := "java/lang/String", name := "checkIndex", desc := "(II)V" } : Jvm.MethodName) jdk_42_method_155_code (2 : Nat) (Option.none : Option Jvm.ClassFile.FieldType)).before args0 about1 = true := code_word (m := ⟨7, 7⟩) (meth := k7m7) (c := k7c7) (by decide +kernel) rfl rfl rfl (by decide +kernel)
set_option maxRecDepth 65536 in
theorem w_c22 : (Jvm.Cond.code ({ cls := "jdk/internal/util/Preconditions", name := "checkIndex", desc := "(IILjava/util/function/BiFunction;)I" } : Jvm.MethodName) jdk_41_method_11_code (3 : Nat) (Option.some Jvm.ClassFile.FieldType.int)).before args0 about1 = true := code_word (m := ⟨12, 1⟩) (meth := k12m1) (c := k12c1) (by decide +kernel) rfl rfl rfl (by decide +kernel)
set_option maxRecDepth 65536 in
theorem w_c23 : (Jvm.Cond.code ({ cls := "com/example/huiqiao/huiqiao/iso8583/SwitchField$Content", name := "inRun", desc := "(C)Z" } : Jvm.MethodName) prog_34_method_6_code (2 : Nat) (Option.some Jvm.ClassFile.FieldType.boolean)).before args0 about1 = true := code_word (m := ⟨9, 1⟩) (meth := k9m1) (c := k9c1) (by decide +kernel) rfl rfl rfl (by decide +kernel)
set_option maxRecDepth 65536 in
theorem w_c24 : (Jvm.Cond.code ({ cls := "com/example/huiqiao/huiqiao/iso8583/ContentRunsFromPinLaw", name := "good", desc := "(IC)Z" } : Jvm.MethodName) method_4_code (2 : Nat) (Option.some Jvm.ClassFile.FieldType.boolean)).before args0 about1 = true := code_word (m := ⟨1, 3⟩) (meth := k1m3) (c := k1c3) (by decide +kernel) rfl rfl rfl (by decide +kernel)
set_option maxRecDepth 65536 in
theorem w_c25 : (Jvm.Cond.code ({ cls := "com/example/huiqiao/huiqiao/iso8583/ContentRunsFromPinLaw", name := "inRun", desc := "(IC)Z" } : Jvm.MethodName) method_2_code (3 : Nat) (Option.some Jvm.ClassFile.FieldType.boolean)).before args0 about1 = true := code_word (m := ⟨1, 1⟩) (meth := k1m1) (c := k1c1) (by decide +kernel) rfl rfl rfl (by decide +kernel)
set_option maxRecDepth 65536 in
theorem w_c26 : (Jvm.Cond.code ({ cls := "com/example/huiqiao/huiqiao/iso8583/ContentRunsFromPinLaw", name := "padOnly", desc := "(IC)Z" } : Jvm.MethodName) method_3_code (2 : Nat) (Option.some Jvm.ClassFile.FieldType.boolean)).before args0 about1 = true := code_word (m := ⟨1, 2⟩) (meth := k1m2) (c := k1c2) (by decide +kernel) rfl rfl rfl (by decide +kernel)
set_option maxRecDepth 65536 in
theorem w_c27 : (Jvm.Cond.code ({ cls := "java/lang/StringLatin1", name := "charAt", desc := "([BI)C" } : Jvm.MethodName) jdk_43_method_2_code (2 : Nat) (Option.some Jvm.ClassFile.FieldType.char)).before args0 about1 = true := code_word (m := ⟨13, 1⟩) (meth := k13m1) (c := k13c1) (by decide +kernel) rfl rfl rfl (by decide +kernel)
def codes1 : List Jvm.Cond := [Jvm.Cond.code x code maxLocals ret, Jvm.Cond.code ({ cls := "java/lang/String", name := "<init>", desc := "([C)V" } : Jvm.MethodName) jdk_42_method_3_code (2 : Nat) (Option.none : Option Jvm.ClassFile.FieldType), Jvm.Cond.code ({ cls := "java/lang/String", name := "<init>", desc := "([CIILjava/lang/Void;)V" } : Jvm.MethodName) jdk_42_method_149_code (6 : Nat) (Option.none : Option Jvm.ClassFile.FieldType), Jvm.Cond.code ({ cls := "java/lang/Object", name := "<init>", desc := "()V" } : Jvm.MethodName) object_method_1_code (1 : Nat) (Option.none : Option Jvm.ClassFile.FieldType), Jvm.Cond.code ({ cls := "com/example/huiqiao/huiqiao/iso8583/ContentRunsFromPinLaw", name := "content", desc := "(I)Lcom/example/huiqiao/huiqiao/iso8583/SwitchField$Content;" } : Jvm.MethodName) method_5_code (1 : Nat) (Option.some (Jvm.ClassFile.FieldType.object "com/example/huiqiao/huiqiao/iso8583/SwitchField$Content")), Jvm.Cond.code ({ cls := "com/example/huiqiao/huiqiao/iso8583/SwitchField$Content", name := "runsFrom", desc := "(Ljava/lang/String;I)Z" } : Jvm.MethodName) prog_34_method_5_code (4 : Nat) (Option.some Jvm.ClassFile.FieldType.boolean), Jvm.Cond.code ({ cls := "java/lang/String", name := "length", desc := "()I" } : Jvm.MethodName) jdk_42_method_54_code (1 : Nat) (Option.some Jvm.ClassFile.FieldType.int), Jvm.Cond.code ({ cls := "java/lang/String", name := "coder", desc := "()B" } : Jvm.MethodName) jdk_42_method_152_code (1 : Nat) (Option.some Jvm.ClassFile.FieldType.byte), Jvm.Cond.code ({ cls := "java/lang/StringUTF16", name := "compress", desc := "([CII)[B" } : Jvm.MethodName) jdk_52_method_16_code (6 : Nat) (Option.some (Jvm.ClassFile.FieldType.array Jvm.ClassFile.FieldType.byte)), Jvm.Cond.code ({ cls := "java/lang/StringUTF16", name := "compress", desc := "([CI[BII)I" } : Jvm.MethodName) jdk_52_method_21_code (7 : Nat) (Option.some Jvm.ClassFile.FieldType.int), Jvm.Cond.code ({ cls := "java/lang/StringUTF16", name := "coderFromArrayLen", desc := "([BI)B" } : Jvm.MethodName) jdk_52_method_15_code (2 : Nat) (Option.some Jvm.ClassFile.FieldType.byte), Jvm.Cond.code ({ cls := "java/lang/StringUTF16", name := "toBytes", desc := "([CII)[B" } : Jvm.MethodName) jdk_52_method_14_code (5 : Nat) (Option.some (Jvm.ClassFile.FieldType.array Jvm.ClassFile.FieldType.byte)), Jvm.Cond.code ({ cls := "java/lang/StringUTF16", name := "newBytesFor", desc := "(I)[B" } : Jvm.MethodName) jdk_52_method_2_code (1 : Nat) (Option.some (Jvm.ClassFile.FieldType.array Jvm.ClassFile.FieldType.byte)), Jvm.Cond.code ({ cls := "java/lang/StringUTF16", name := "newBytesLength", desc := "(I)I" } : Jvm.MethodName) jdk_52_method_3_code (1 : Nat) (Option.some Jvm.ClassFile.FieldType.int), Jvm.Cond.code ({ cls := "java/lang/StringUTF16", name := "putChar", desc := "([BII)V" } : Jvm.MethodName) jdk_52_method_4_code (3 : Nat) (Option.none : Option Jvm.ClassFile.FieldType), Jvm.Cond.code ({ cls := "java/lang/StringUTF16", name := "getChar", desc := "([BI)C" } : Jvm.MethodName) jdk_52_method_5_code (2 : Nat) (Option.some Jvm.ClassFile.FieldType.char), Jvm.Cond.code ({ cls := "java/lang/String", name := "charAt", desc := "(I)C" } : Jvm.MethodName) jdk_42_method_56_code (2 : Nat) (Option.some Jvm.ClassFile.FieldType.char), Jvm.Cond.code ({ cls := "java/lang/String", name := "isLatin1", desc := "()Z" } : Jvm.MethodName) jdk_42_method_154_code (1 : Nat) (Option.some Jvm.ClassFile.FieldType.boolean), Jvm.Cond.code ({ cls := "java/lang/StringUTF16", name := "charAt", desc := "([BI)C" } : Jvm.MethodName) jdk_52_method_83_code (2 : Nat) (Option.some Jvm.ClassFile.FieldType.char), Jvm.Cond.code ({ cls := "java/lang/StringUTF16", name := "checkIndex", desc := "(I[B)V" } : Jvm.MethodName) jdk_52_method_91_code (2 : Nat) (Option.none : Option Jvm.ClassFile.FieldType), Jvm.Cond.code ({ cls := "java/lang/StringUTF16", name := "length", desc := "([B)I" } : Jvm.MethodName) jdk_52_method_6_code (1 : Nat) (Option.some Jvm.ClassFile.FieldType.int), Jvm.Cond.code ({ cls := "java/lang/String", name := "checkIndex", desc := "(II)V" } : Jvm.MethodName) jdk_42_method_155_code (2 : Nat) (Option.none : Option Jvm.ClassFile.FieldType), Jvm.Cond.code ({ cls := "jdk/internal/util/Preconditions", name := "checkIndex", desc := "(IILjava/util/function/BiFunction;)I" } : Jvm.MethodName) jdk_41_method_11_code (3 : Nat) (Option.some Jvm.ClassFile.FieldType.int), Jvm.Cond.code ({ cls := "com/example/huiqiao/huiqiao/iso8583/SwitchField$Content", name := "inRun", desc := "(C)Z" } : Jvm.MethodName) prog_34_method_6_code (2 : Nat) (Option.some Jvm.ClassFile.FieldType.boolean), Jvm.Cond.code ({ cls := "com/example/huiqiao/huiqiao/iso8583/ContentRunsFromPinLaw", name := "good", desc := "(IC)Z" } : Jvm.MethodName) method_4_code (2 : Nat) (Option.some Jvm.ClassFile.FieldType.boolean), Jvm.Cond.code ({ cls := "com/example/huiqiao/huiqiao/iso8583/ContentRunsFromPinLaw", name := "inRun", desc := "(IC)Z" } : Jvm.MethodName) method_2_code (3 : Nat) (Option.some Jvm.ClassFile.FieldType.boolean), Jvm.Cond.code ({ cls := "com/example/huiqiao/huiqiao/iso8583/ContentRunsFromPinLaw", name := "padOnly", desc := "(IC)Z" } : Jvm.MethodName) method_3_code (2 : Nat) (Option.some Jvm.ClassFile.FieldType.boolean), Jvm.Cond.code ({ cls := "java/lang/StringLatin1", name := "charAt", desc := "([BI)C" } : Jvm.MethodName) jdk_43_method_2_code (2 : Nat) (Option.some Jvm.ClassFile.FieldType.char)]
set_option maxRecDepth 65536 in
theorem codes_eq : words1.filter isCode = codes1 := rfl
theorem w_codes : ∀ c ∈ words1.filter isCode, c.before args0 about1 = true := by
  rw [codes_eq]
  intro c hc
  simp only [codes1, List.mem_cons, List.not_mem_nil, or_false] at hc
  rcases hc with rfl | rfl | rfl | rfl | rfl | rfl | rfl | rfl | rfl | rfl | rfl | rfl | rfl | rfl | rfl | rfl | rfl | rfl | rfl | rfl | rfl | rfl | rfl | rfl | rfl | rfl | rfl | rfl
  · exact w_c0
  · exact w_c1
  · exact w_c2
  · exact w_c3
  · exact w_c4
  · exact w_c5
  · exact w_c6
  · exact w_c7
  · exact w_c8
  · exact w_c9
  · exact w_c10
  · exact w_c11
  · exact w_c12
  · exact w_c13
  · exact w_c14
  · exact w_c15
  · exact w_c16
  · exact w_c17
  · exact w_c18
  · exact w_c19
  · exact w_c20
  · exact w_c21
  · exact w_c22
  · exact w_c23
  · exact w_c24
  · exact w_c25
  · exact w_c26
  · exact w_c27
set_option maxRecDepth 65536 in
theorem w_t1 : (words1.take 24).all (fun c => isCode c || c.before args0 about1) = true := by decide +kernel
set_option maxRecDepth 65536 in
theorem w_t2 : ((words1.drop 24).take 24).all (fun c => isCode c || c.before args0 about1) = true := by decide +kernel
set_option maxRecDepth 65536 in
theorem w_t3 : (((words1.drop 24).drop 24).take 24).all (fun c => isCode c || c.before args0 about1) = true := by decide +kernel
set_option maxRecDepth 65536 in
theorem w_t4 : ((((words1.drop 24).drop 24).drop 24).take 24).all (fun c => isCode c || c.before args0 about1) = true := by decide +kernel
set_option maxRecDepth 65536 in
theorem w_t5 : (((((words1.drop 24).drop 24).drop 24).drop 24).take 24).all (fun c => isCode c || c.before args0 about1) = true := by decide +kernel
set_option maxRecDepth 65536 in
theorem w_t6 : (((((words1.drop 24).drop 24).drop 24).drop 24).drop 24).all (fun c => isCode c || c.before args0 about1) = true := by decide +kernel
theorem w_tables : (allAtoms (Jvm.Cond.code x code maxLocals ret :: tables_1)).before args0 about1 = true := by
  rw [allAtoms_all]
  show words1.all (fun c => c.before args0 about1) = true
  refine all_split ?_ w_codes
  rw [← List.take_append_drop 24 words1, List.all_append, w_t1, ← List.take_append_drop 24 (words1.drop 24), List.all_append, w_t2, ← List.take_append_drop 24 ((words1.drop 24).drop 24), List.all_append, w_t3, ← List.take_append_drop 24 (((words1.drop 24).drop 24).drop 24), List.all_append, w_t4, ← List.take_append_drop 24 ((((words1.drop 24).drop 24).drop 24).drop 24), List.all_append, w_t5, w_t6]
  rfl
set_option maxRecDepth 65536 in
theorem w_rest : rest_1_c.before args0 about1 = true := by decide +kernel
set_option maxRecDepth 65536 in
theorem w_case : (Jvm.Cond.and given_1 narrow_1).before args0 about1 = true := by decide +kernel
set_option maxRecDepth 65536 in
theorem w_consts : constsHeld consts_1 about1 := Jvm.Lit.constsHeldB_iff.mp (by decide +kernel)
theorem w_applies : (headSpec (Jvm.Cond.code x code maxLocals ret :: tables_1) room_1).applies x e0.platform about1 = true :=
  (Spec.applies_iff w_frames).mpr ⟨w_running, w_runnable, w_alone, w_named, w_hears, w_ripe, w_room, w_tables⟩
theorem atStart : AtStart classFile x code maxLocals ret World_1 tables_1 room_1 Calls_1 rest_1 Pre_1 launch0 p0 e0 about1 theMethod args0 below0 :=
  ⟨lists_1, trivial, launch0.admits_env _ _ _, launch0.least_env, fairChoices_fair.cas, fairChoices_fair.clock, w_frames, w_args, w_heap, w_applies, ⟨w_consts, trivial⟩, w_rest, w_case⟩
end start1
theorem witness_1 : WitnessClaimed_1 := ⟨start1.p0, start1.e0, start1.about1, start1.theMethod, start1.args0, start1.below0, start1.atStart⟩
end Jvm.Pilot.@@N@@
