import JvmDerived
import JvmDerived.Pilot.@@N@@Statement
import JvmDerived.Pilot.@@N@@Code
set_option linter.unusedVariables false
set_option linter.unusedSimpArgs false
namespace Jvm.RoadKit
open Sem ClassFile Op Lib Jvm.Stand Jvm.Free Jvm.LawKit
section New
variable {p : Program} {l : Launch} {e : Env} {R : Room} {s : State} {m : MethodId} {args : Array Value} {below : List Frame} {meth : Method} {c : Code} {T : State} {locs : List Loc} {cells slots : Nat}
theorem retI (X : Stand p l e R s m args below meth c T locs cells slots) (hx : p.tables.exec = Jvm.exec) {pc : Nat} {Ls : Array Slot} {z : Int32} {rest : List Value} (hret : meth.sig.returnType = some .int) (hd : decode c.code pc = .ok (.ireturn, 1)) {fs : List Frame}
    (hl : ∀ (f : JFrame) (acts : List Action), f.method = m → f.locked = none → f.entered = [] → (doReturn e (T.setTop f) acts (some (.int z))).1 = T.setFrames fs) : Steps p.tables e below (T.setTop (mkF m pc Ls (.int z :: rest))) (T.setFrames fs) := by
  have hm' : T.vm.method? m = some meth := X.method'
  have hn : narrow .int (.int z) = .int z := rfl
  show Steps p.tables e below (T.setTop { method := m, pc := pc, locals := Ls, stack := _ :: rest, locked := none }) _
  jvm_step X.here [X.here.top, hx, hd, hm', hret, hn]
  first | (intro acts; rw [hl _ acts rfl rfl rfl]) | rw [hl _ _ rfl rfl rfl]
  exact Steps.refl _
theorem retL (X : Stand p l e R s m args below meth c T locs cells slots) (hx : p.tables.exec = Jvm.exec) {pc : Nat} {Ls : Array Slot} {z : Int64} {rest : List Value} (hret : meth.sig.returnType = some .long) (hd : decode c.code pc = .ok (.lreturn, 1)) {fs : List Frame}
    (hl : ∀ (f : JFrame) (acts : List Action), f.method = m → f.locked = none → f.entered = [] → (doReturn e (T.setTop f) acts (some (.long z))).1 = T.setFrames fs) : Steps p.tables e below (T.setTop (mkF m pc Ls (.long z :: rest))) (T.setFrames fs) := by
  have hm' : T.vm.method? m = some meth := X.method'
  have hn : narrow .long (.long z) = .long z := rfl
  show Steps p.tables e below (T.setTop { method := m, pc := pc, locals := Ls, stack := _ :: rest, locked := none }) _
  jvm_step X.here [X.here.top, hx, hd, hm', hret, hn]
  first | (intro acts; rw [hl _ acts rfl rfl rfl]) | rw [hl _ _ rfl rfl rfl]
  exact Steps.refl _
end New
end Jvm.RoadKit
namespace Jvm.Pilot.@@N@@
open Jvm Jvm.ClassFile Sem Op Lib Jvm.Free Jvm.Stand Jvm.LawKit Jvm.RoadKit Bundle Jvm.Pilot.@@N@@.Jvm.D

theorem own_toN {i : Nat} (h : i < 2147483648) : (Int32.ofNat i).toInt = i := Int32.toInt_ofNat_of_lt (by omega)
theorem own_clamp {i : Nat} (h : i < 2147483648) : (Int32.ofNat i).toNatClampNeg = i := by
  rw [Int32.toNatClampNeg, own_toN h]; omega
theorem own_ltN {i j : Nat} (hi : i < 2147483648) (hj : j < 2147483648) : Int32.ofNat i < Int32.ofNat j ↔ i < j := by
  rw [Int32.lt_iff_toInt_lt, own_toN hi, own_toN hj]; omega
theorem own_injN {i j : Nat} (hi : i < 2147483648) (hj : j < 2147483648) : Int32.ofNat i = Int32.ofNat j ↔ i = j := by
  rw [← Int32.toInt_inj, own_toN hi, own_toN hj]; omega
theorem own_nn {i : Nat} (h : i < 2147483648) : ¬ Int32.ofNat i < 0 := by
  rw [Int32.lt_iff_toInt_lt, own_toN h, show (0 : Int32).toInt = 0 from by decide]; omega
theorem own_addN (i j : Nat) : Int32.ofNat i + Int32.ofNat j = Int32.ofNat (i + j) := (Int32.ofNat_add i j).symm
theorem own_mulN (i j : Nat) : Int32.ofNat i * Int32.ofNat j = Int32.ofNat (i * j) := (Int32.ofNat_mul i j).symm
/-! tables of ints by a function -/
def own_tab (f : Nat → Int32) (n : Nat) : List Value := (List.range n).map fun j => .int (f j)
theorem own_tab_len (f : Nat → Int32) (n : Nat) : (own_tab f n).length = n := by simp [own_tab]
theorem own_tab_get {f : Nat → Int32} {n j : Nat} (h : j < n) (d : Value) : (own_tab f n).getD j d = .int (f j) := by
  simp [own_tab, List.getD_eq_getElem?_getD, List.getElem?_range h]
theorem own_tab_set (f : Nat → Int32) (n j : Nat) (x : Int32) : (own_tab f n).set j (.int x) = own_tab (fun i => if i = j then x else f i) n := by
  apply List.ext_getElem
  · simp [own_tab]
  · intro i h1 h2
    simp only [own_tab, List.getElem_set, List.getElem_map, List.getElem_range]
    by_cases h : i = j
    · subst h; simp
    · simp [h, Ne.symm h]
theorem own_tab_pad (n : Nat) : own_tab (fun _ => 0) n = [] ++ List.replicate n (Value.int (0 : Int32)) := by
  apply List.ext_getElem
  · simp [own_tab]
  · intro i h1 h2; simp [own_tab]

theorem own_shl1 {i : Nat} (h : i < 1073741824) : (Int32.ofNat i <<< ((1 : Int32) &&& 31)) = Int32.ofNat (2 * i) := by
  rw [show ((1 : Int32) &&& 31) = 1 from by decide]
  apply Int32.toBitVec_inj.mp
  apply BitVec.eq_of_toNat_eq
  have e : (Int32.ofNat i <<< (1 : Int32)).toBitVec = BitVec.ofNat 32 i <<< 1 := rfl
  rw [e]
  have e2 : (Int32.ofNat (2 * i)).toBitVec = BitVec.ofNat 32 (2 * i) := rfl
  rw [e2, BitVec.toNat_shiftLeft, BitVec.toNat_ofNat, BitVec.toNat_ofNat, Nat.shiftLeft_eq]
  omega
theorem own_shr1 {i : Nat} (h : i < 1073741824) : (Int32.ofNat (2 * i) >>> ((1 : Int32) &&& 31)) = Int32.ofNat i := by
  rw [show ((1 : Int32) &&& 31) = 1 from by decide]
  apply Int32.toBitVec_inj.mp
  apply BitVec.eq_of_toInt_eq
  have e : (Int32.ofNat (2 * i) >>> (1 : Int32)).toBitVec = (BitVec.ofNat 32 (2 * i)).sshiftRight 1 := rfl
  rw [e, BitVec.toInt_sshiftRight]
  have e1 : (BitVec.ofNat 32 (2 * i)).toInt = (2 * i : Nat) := own_toN (i := 2 * i) (by omega)
  have e2 : (Int32.ofNat i).toBitVec.toInt = i := own_toN (i := i) (by omega)
  rw [e1, e2, Int.shiftRight_eq_div_pow]
  omega
theorem own_shr0 (x : Int32) : (x >>> ((0 : Int32) &&& 31)) = x := by
  rw [show ((0 : Int32) &&& 31) = 0 from by decide]
  apply Int32.toBitVec_inj.mp
  show x.toBitVec.sshiftRight 0 = x.toBitVec
  simp
theorem own_shl0 (x : Int32) : (x <<< ((0 : Int32) &&& 31)) = x := by
  rw [show ((0 : Int32) &&& 31) = 0 from by decide]
  apply Int32.toBitVec_inj.mp
  show x.toBitVec <<< 0 = x.toBitVec
  simp
def own_ch (x : Int32) : Prop := 0 ≤ x.toInt ∧ x.toInt ≤ 65535
theorem own_chN {x : Int32} (h : own_ch x) : ∃ k, k ≤ 65535 ∧ x = Int32.ofNat k := by
  refine ⟨x.toInt.toNat, by have := h.2; omega, Int32.toInt_inj.mp ?_⟩
  have := h.1; have := h.2
  rw [own_toN (by omega)]; omega
def own_lo (x : Int32) : Int32 := x.toInt8.toInt32
def own_hi (x : Int32) : Int32 := (x >>> ((8 : Int32) &&& 31)).toInt8.toInt32
theorem own_lo255 (x : Int32) : (own_lo x) &&& 255 = x &&& 255 := by
  apply Int32.toBitVec_inj.mp
  show (x.toBitVec.signExtend 8).signExtend 32 &&& 255#32 = x.toBitVec &&& 255#32
  generalize x.toBitVec = b
  apply BitVec.eq_of_getLsbD_eq
  intro i hi
  simp only [BitVec.getLsbD_and, BitVec.getLsbD_signExtend]
  by_cases h : i < 8
  · simp [h, hi]
  · have : (255#32).getLsbD i = false := by
      have : ∀ i < 32, ¬ i < 8 → (255#32).getLsbD i = false := by decide
      exact this i hi h
    simp [this]
theorem own_and255N {k : Nat} (h : k < 2147483648) : Int32.ofNat k &&& 255 = Int32.ofNat (k % 256) := by
  apply Int32.toBitVec_inj.mp
  show BitVec.ofNat 32 k &&& 255#32 = BitVec.ofNat 32 (k % 256)
  apply BitVec.eq_of_toNat_eq
  rw [BitVec.toNat_and, show (255#32).toNat = 2 ^ 8 - 1 from by decide, Nat.and_two_pow_sub_one_eq_mod, BitVec.toNat_ofNat, BitVec.toNat_ofNat]
  omega
theorem own_shr8 {i : Nat} (h : i < 2147483648) : (Int32.ofNat i >>> ((8 : Int32) &&& 31)) = Int32.ofNat (i / 256) := by
  rw [show ((8 : Int32) &&& 31) = 8 from by decide]
  apply Int32.toBitVec_inj.mp
  apply BitVec.eq_of_toInt_eq
  have e : (Int32.ofNat i >>> (8 : Int32)).toBitVec = (BitVec.ofNat 32 i).sshiftRight 8 := rfl
  rw [e, BitVec.toInt_sshiftRight]
  have e1 : (BitVec.ofNat 32 i).toInt = (i : Nat) := own_toN (i := i) (by omega)
  have e2 : (Int32.ofNat (i / 256)).toBitVec.toInt = (i / 256 : Nat) := own_toN (i := i / 256) (by omega)
  rw [e1, e2, Int.shiftRight_eq_div_pow]
  omega
theorem own_shl8 {i : Nat} (h : i < 65536) : (Int32.ofNat i <<< ((8 : Int32) &&& 31)) = Int32.ofNat (256 * i) := by
  rw [show ((8 : Int32) &&& 31) = 8 from by decide]
  apply Int32.toBitVec_inj.mp
  apply BitVec.eq_of_toNat_eq
  have e : (Int32.ofNat i <<< (8 : Int32)).toBitVec = BitVec.ofNat 32 i <<< 8 := rfl
  rw [e]
  have e2 : (Int32.ofNat (256 * i)).toBitVec = BitVec.ofNat 32 (256 * i) := rfl
  rw [e2, BitVec.toNat_shiftLeft, BitVec.toNat_ofNat, BitVec.toNat_ofNat, Nat.shiftLeft_eq]
  omega
theorem own_i2c {k : Nat} (h : k < 65536) : (Int32.ofNat k).toUInt32.toUInt16.toUInt32.toInt32 = Int32.ofNat k := by
  apply Int32.toInt_inj.mp
  have q := c_i2c (Int32.ofNat k)
  rw [own_toN (by omega)] at q ⊢
  omega
theorem own_i2cc {x : Int32} (h : own_ch x) : x.toUInt32.toUInt16.toUInt32.toInt32 = x := by
  obtain ⟨k, hk, rfl⟩ := own_chN h
  exact own_i2c (by omega)
theorem own_orN {a b : Nat} (ha : a < 256) (hb : b < 256) : Int32.ofNat a ||| Int32.ofNat (256 * b) = Int32.ofNat (a + 256 * b) := by
  apply Int32.toBitVec_inj.mp
  show BitVec.ofNat 32 a ||| BitVec.ofNat 32 (256 * b) = BitVec.ofNat 32 (a + 256 * b)
  apply BitVec.eq_of_toNat_eq
  rw [BitVec.toNat_or, BitVec.toNat_ofNat, BitVec.toNat_ofNat, BitVec.toNat_ofNat, Nat.mod_eq_of_lt (by omega), Nat.mod_eq_of_lt (by omega), Nat.mod_eq_of_lt (by omega)]
  have q := Nat.two_pow_add_eq_or_of_lt (i := 8) (b := a) (by omega) b
  rw [Nat.or_comm, ← show 2 ^ 8 * b = 256 * b from by omega, ← q]
  omega
theorem own_glue {x : Int32} (h : own_ch x) : ((((own_lo x) &&& 255) <<< ((0 : Int32) &&& 31)) ||| (((own_hi x) &&& 255) <<< ((8 : Int32) &&& 31))).toUInt32.toUInt16.toUInt32.toInt32 = x := by
  obtain ⟨k, hk, rfl⟩ := own_chN h
  rw [own_shl0, own_lo255, own_and255N (by omega)]
  have e : own_hi (Int32.ofNat k) = own_lo (Int32.ofNat (k / 256)) := by rw [own_hi, own_shr8 (by omega), own_lo]
  rw [e, own_lo255, own_and255N (by omega), own_shl8 (by omega), own_orN (by omega) (by omega), own_i2c (by omega)]
  congr 1; omega
theorem own_l1c {x : Int32} (h0 : 0 ≤ x.toInt) (h : x.toInt ≤ 255) : ((own_lo x) &&& 255).toUInt32.toUInt16.toUInt32.toInt32 = x := by
  obtain ⟨k, hk, rfl⟩ := own_chN (x := x) ⟨h0, by omega⟩
  rw [own_toN (by omega)] at h
  rw [own_lo255, own_and255N (by omega), Nat.mod_eq_of_lt (by omega), own_i2c (by omega)]
theorem own_lolo (x : Int32) : nar .byte (own_lo x) = own_lo x := by
  show x.toInt8.toInt32.toInt8.toInt32 = x.toInt8.toInt32
  rw [Int8.toInt8_toInt32]
theorem own_hihi (x : Int32) : nar .byte (own_hi x) = own_hi x := own_lolo _
def own_u16 (f : Nat → Int32) (i : Nat) : Int32 := if i % 2 = 0 then own_lo (f (i / 2)) else own_hi (f (i / 2))
theorem own_u16e (f : Nat → Int32) (i : Nat) : own_u16 f (2 * i) = own_lo (f i) := by
  rw [own_u16, if_pos (by omega), show 2 * i / 2 = i from by omega]
theorem own_u16o (f : Nat → Int32) (i : Nat) : own_u16 f (2 * i + 1) = own_hi (f i) := by
  rw [own_u16, if_neg (by omega), show (2 * i + 1) / 2 = i from by omega]
def own_l1 (f : Nat → Int32) (i : Nat) : Int32 := own_lo (f i)
theorem own_tab_cong {f g : Nat → Int32} {n : Nat} (h : ∀ j, j < n → f j = g j) : own_tab f n = own_tab g n := by
  unfold own_tab
  apply List.map_congr_left
  intro j hj
  rw [h j (List.mem_range.mp hj)]

theorem own_sel {Z s : State} {a0 args : Array Value} {y : MethodName} {n : Nat} (hZ : Z.Warmed39 s.vm) (wi : (Cond.instantiable y.cls n).before a0 Z = true) (wp : (Cond.privateMethod y).before a0 Z = true) (wn : (Cond.instanceMethod y).before a0 Z = true) (hy : y.cls ≠ "java/lang/invoke/MethodHandle" ∧ y.cls ≠ "java/lang/invoke/VarHandle") : (Cond.selects y.cls y y).before args s = true := by
  have wi' : (Cond.instantiable y.cls n).before args s = true := mv hZ wi
  obtain ⟨c, k, h1, h2, -, h4, -⟩ := Cond.instantiable_spec wi'
  rw [Bool.or_eq_false_iff] at h4
  exact Stand.selects_self_of_private h1 h2 h4.1 (Cond.privateMethod_at (mvP hZ wp (args := args))) (mv hZ wn) hy

theorem own_rn {v : Value} {C : String} (h : v.isRef = true) : narrow (.object C) v = v := by rcases ref_cases h with rfl | ⟨a, rfl⟩ <;> rfl
theorem own_cat {v : Value} (h : v.isRef = true) : v.category = 1 := by rcases ref_cases h with rfl | ⟨a, rfl⟩ <;> rfl
theorem own_narc {x : Int32} (h : own_ch x) : some (Value.int (nar .char x)) = some (Value.int x) := congrArg (fun z => some (Value.int z)) (own_i2cc h)
theorem own_255 {x : Int32} : ¬ (255 : Int32) < x ↔ x.toInt ≤ 255 := by
  rw [Int32.lt_iff_toInt_lt, show (255 : Int32).toInt = 255 from by decide]; omega
def own_ST (Z : State) (zc : Int32) (fm : Value) : Prop := Sta Z Z.heap "java/lang/String" "COMPACT_STRINGS" "Z" (.int zc) ∧ ¬ (zc = (0 : Int32)) ∧ Sta Z Z.heap "java/lang/StringUTF16" "$assertionsDisabled" "Z" (.int 1) ∧ Sta Z Z.heap "java/lang/StringUTF16" "HI_BYTE_SHIFT" "I" (.int 0) ∧ Sta Z Z.heap "java/lang/StringUTF16" "LO_BYTE_SHIFT" "I" (.int 8) ∧ Sta Z Z.heap "jdk/internal/util/Preconditions" "SIOOBE_FORMATTER" "Ljava/util/function/BiFunction;" fm ∧ fm.isRef = true
/-- a byte array that spells f in n chars: one byte each, or two -/
def own_BY (Z : State) (h : Heap) (tb : Addr) (cd : Int32) (f : Nat → Int32) (n : Nat) : Prop := ∃ kb : ClassId, (cd = 0 ∧ (∀ j, j < n → ¬ (255 : Int32) < f j) ∧ Arv Z h tb kb .byte (Int32.ofNat n) (own_tab (own_l1 f) n) (.int (0 : Int32))) ∨ (cd = 1 ∧ (∃ j, j < n ∧ (255 : Int32) < f j) ∧ Arv Z h tb kb .byte (Int32.ofNat (2 * n)) (own_tab (own_u16 f) (2 * n)) (.int (0 : Int32)))
theorem own_BY.lt {Z : State} {h : Heap} {tb : Addr} {cd : Int32} {f : Nat → Int32} {n : Nat} (B : own_BY Z h tb cd f n) : tb < h.size := by
  obtain ⟨kb, ⟨-, -, V⟩ | ⟨-, -, V⟩⟩ := B <;> exact V.lt
theorem own_BY.keep {Z : State} {h h' : Heap} {tb : Addr} {cd : Int32} {f : Nat → Int32} {n : Nat} {ws : List Addr} (B : own_BY Z h tb cd f n) (K : Keep h h' ws) (q : tb ∉ ws) : own_BY Z h' tb cd f n := by
  obtain ⟨kb, ⟨a, b, V⟩ | ⟨a, b, V⟩⟩ := B
  · exact ⟨kb, Or.inl ⟨a, b, V.keep K q⟩⟩
  · exact ⟨kb, Or.inr ⟨a, b, V.keep K q⟩⟩
theorem own_BY.other {Z : State} {h h' : Heap} {tb a : Addr} {sl : Nat} {v : Value} {cd : Int32} {f : Nat → Int32} {n : Nat} (B : own_BY Z h tb cd f n) (W : Wr h h' a sl v) (q : tb ≠ a) : own_BY Z h' tb cd f n := by
  obtain ⟨kb, ⟨x, y, V⟩ | ⟨x, y, V⟩⟩ := B
  · exact ⟨kb, Or.inl ⟨x, y, V.other W q⟩⟩
  · exact ⟨kb, Or.inr ⟨x, y, V.other W q⟩⟩
theorem own_BY.cd {Z : State} {h : Heap} {tb : Addr} {cd : Int32} {f : Nat → Int32} {n : Nat} (B : own_BY Z h tb cd f n) : cd = 0 ∨ cd = 1 := by
  obtain ⟨kb, ⟨x, -⟩ | ⟨x, -⟩⟩ := B
  · exact Or.inl x
  · exact Or.inr x
/-- a String that spells f in n chars -/
def own_STR (Z : State) (h : Heap) (sa : Addr) (f : Nat → Int32) (n : Nat) : Prop := ∃ (tb : Addr) (cd : Int32), Exa Z h sa "java/lang/String" ∧ Fld Z h sa "java/lang/String" "value" "[B" (.ref tb) ∧ Fld Z h sa "java/lang/String" "coder" "B" (.int cd) ∧ own_BY Z h tb cd f n
theorem own_STR.keep {Z : State} {h h' : Heap} {sa : Addr} {f : Nat → Int32} {n : Nat} (P : own_STR Z h sa f n) (K : Keep h h' []) : own_STR Z h' sa f n := by
  obtain ⟨tb, cd, E, F, G, B⟩ := P
  exact ⟨tb, cd, E.keep K, F.keep K nin0, G.keep K nin0, B.keep K nin0⟩
theorem own_STR.exa {Z : State} {h : Heap} {sa : Addr} {f : Nat → Int32} {n : Nat} (P : own_STR Z h sa f n) : Exa Z h sa "java/lang/String" := by
  obtain ⟨tb, cd, E, -⟩ := P; exact E
theorem own_s6 {a b : Addr} {x y z w v : Int32} {o : Slot} (h : One o) : storeLocals #[.val (.ref a), .val (.int x), .val (.ref b), .val (.int y), .val (.int z), .val (.int w), o] 6 (.int v) = some #[.val (.ref a), .val (.int x), .val (.ref b), .val (.int y), .val (.int z), .val (.int w), .val (.int v)] := by
  rcases h with rfl | ⟨u, rfl, hu⟩
  · rfl
  · cases u <;> first | rfl | (simp [Value.category] at hu)
theorem own_cg {Z : State} {h : Heap} {a : Addr} {k : ClassId} {ty : FieldType} {z : Int32} {f g : Nat → Int32} {n : Nat} {d : Value} (V : Arv Z h a k ty z (own_tab f n) d) (e : ∀ j, j < n → f j = g j) : Arv Z h a k ty z (own_tab g n) d := by rw [← own_tab_cong e]; exact V
theorem own_BYne {Z : State} {h : Heap} {tb a : Addr} {cd : Int32} {f : Nat → Int32} {n : Nat} (B : own_BY Z h tb cd f n) (q : ∀ kb z vs dv, Arv Z h tb kb .byte z vs dv → tb ≠ a) : tb ≠ a := by
  obtain ⟨kb, ⟨-, -, V⟩ | ⟨-, -, V⟩⟩ := B <;> exact q _ _ _ _ V
theorem own_wrong {n : Nat} (h : n ≤ 16) : Int32.ofNat (2 * n) = Int32.ofNat (2 * n) := rfl
theorem own_coder {n : Nat} (h : n ≤ 16) (h0 : 0 < n) : (((Int32.ofNat n - Int32.ofNat (2 * n)).toUInt32 >>> ((31 : Int32) &&& 31).toUInt32).toInt32).toInt8.toInt32 = 1 := by
  have : ∀ n, n < 17 → 0 < n → (((Int32.ofNat n - Int32.ofNat (2 * n)).toUInt32 >>> ((31 : Int32) &&& 31).toUInt32).toInt32).toInt8.toInt32 = 1 := by decide
  exact this n (by omega) h0
theorem own_coder0 (x : Int32) : (((x - x).toUInt32 >>> ((31 : Int32) &&& 31).toUInt32).toInt32).toInt8.toInt32 = 0 := by
  rw [show x - x = 0 from by simp]; decide

theorem own_wS {Z : State} {a0 : Array Value} (hw : ∀ d ∈ tables_1, d.before a0 Z = true) : ∀ a ∈ Bundle.stringAtoms, a.before a0 Z = true := by
  intro d hd
  simp only [Bundle.stringAtoms, Bundle.sN, List.mem_cons, List.not_mem_nil, or_false] at hd
  rcases hd with rfl | rfl | rfl | rfl | rfl | rfl | rfl
  · exact (hw _ (List.mem_of_getElem? (i := 11) rfl))
  · exact (hw _ (List.mem_of_getElem? (i := 10) rfl))
  · exact (hw _ (List.mem_of_getElem? (i := 24) rfl))
  · exact (hw _ (List.mem_of_getElem? (i := 25) rfl))
  · exact (hw _ (List.mem_of_getElem? (i := 26) rfl))
  · exact (hw _ (List.mem_of_getElem? (i := 27) rfl))
  · exact (hw _ (List.mem_of_getElem? (i := 28) rfl))
theorem own_EL {Z : State} {a0 : Array Value} (hw : ∀ d ∈ tables_1, d.before a0 Z = true) : EW Z a0 consts_1 := (EW.cons (hw _ (List.mem_of_getElem? (i := 23) rfl)) (by simp) (EW.cons (hw _ (List.mem_of_getElem? (i := 107) rfl)) (by simp) (EW.cons (hw _ (List.mem_of_getElem? (i := 176) rfl)) (by simp) EW.nil)))
theorem own_safe {Z : State} {vm : Vm} {h : Heap} {x : Addr} {EL : List (String × Nat)} (hal : Z.vm.Alike vm) (E : Exa Z h x "java/lang/String") (F : Fld Z h x "java/lang/String" "value" "[B" .null) : Safe Z EL vm h x := fun B => by
  obtain ⟨p, -, u, a, -, q, -, G, rfl | rfl⟩ := B
  · obtain ⟨cS, ⟨⟨s1, s2, s3, ⟨cv, kv, iv, s4, s4'⟩, -, -, -, s8, -⟩, -⟩, -⟩ := G
    obtain ⟨cell, cf, k, i, f, e1, e2, -, -, -, -, e7⟩ := F
    obtain ⟨k', z4⟩ := ff_back (U := Wst Z vm h) hal s4
    cases e2.symm.trans z4
    cases (show h[q.sa]? = some q.sC from s1).symm.trans e1
    rw [s8] at e7; cases e7
  · obtain ⟨cell, k, e1, e2, -⟩ := E
    cases (show h[q.sd]? = some q.SA from G.hd).symm.trans e1
    obtain ⟨cS, -, -, f, -⟩ := G
    have f' : Z.vm.findClass "[B" = some q.SA.cls := by rw [← hal.findClass]; exact f
    exact absurd rfl (ids_ne f' e2 (by decide))

theorem own_chn (x : Int32) : own_ch (nar .char x) := by
  have q := c_i2c x
  show 0 ≤ (x.toUInt32.toUInt16.toUInt32.toInt32).toInt ∧ _
  unfold own_ch at *
  constructor <;> (try show (x.toUInt32.toUInt16.toUInt32.toInt32).toInt ≤ 65535) <;> omega
theorem own_i2cn {x : Int32} (h : own_ch x) : nar .char x = x := own_i2cc h
theorem own_n5 (x : Int32) : ∃ k, k ≤ 4 ∧ (x &&& (2147483647 : Int32)) % (5 : Int32) = Int32.ofNat k := by
  have h := c_and x 2147483647 (by decide)
  rw [show (2147483647 : Int32).toInt = 2147483647 from by decide] at h
  obtain ⟨y, hy⟩ : ∃ y, y = x &&& (2147483647 : Int32) := ⟨_, rfl⟩
  rw [← hy] at h ⊢
  have e : (y % (5 : Int32)).toInt = y.toInt.tmod 5 := by
    rw [Int32.toInt_mod]; rfl
  refine ⟨(y.toInt.tmod 5).toNat, ?_, ?_⟩
  · rw [Int.tmod_eq_emod_of_nonneg h.1]; omega
  · apply Int32.toInt_inj.mp
    rw [e, own_toN (by rw [Int.tmod_eq_emod_of_nonneg h.1]; omega), Int.tmod_eq_emod_of_nonneg h.1]; omega
def own_f4 (x y z w : Int32) (j : Nat) : Int32 := if j = 0 then x else if j = 1 then y else if j = 2 then z else w
theorem own_f4c {x y z w : Int32} (h1 : own_ch x) (h2 : own_ch y) (h3 : own_ch z) (h4 : own_ch w) (j : Nat) : own_ch (own_f4 x y z w j) := by
  unfold own_f4; split
  · exact h1
  · split
    · exact h2
    · split
      · exact h3
      · exact h4
/-- one below -/
def own_dn : Nat → Int32
  | 0 => -1
  | k + 1 => Int32.ofNat k
theorem own_dn1 (k : Nat) : own_dn k + (1 : Int32) = Int32.ofNat k := by
  cases k with
  | zero => decide
  | succ k => exact (Int32.ofNat_add k 1).symm
theorem own_dns (k : Nat) : Int32.ofNat k - (1 : Int32) = own_dn k := by
  rw [← own_dn1 k]; simp
theorem own_dnS (i : Nat) : Int32.ofNat i + (-1 : Int32) = own_dn i := by
  rw [← own_dn1 i, Int32.add_assoc, show (1 : Int32) + (-1) = 0 from by decide, Int32.add_zero]
def own_LI (f : Nat → Int32) (n k : Nat) : Prop := k ≤ n ∧ (0 < k → f (k - 1) = 47) ∧ ∀ j, k ≤ j → j < n → ¬ f j = 47
theorem own_LIu {f : Nat → Int32} {n a b : Nat} (h1 : own_LI f n a) (h2 : own_LI f n b) : a = b := by
  obtain ⟨p1, p2, p3⟩ := h1
  obtain ⟨q1, q2, q3⟩ := h2
  rcases Nat.lt_trichotomy a b with h | h | h
  · exact absurd (q2 (by omega)) (p3 (b - 1) (by omega) (by omega))
  · exact h
  · exact absurd (p2 (by omega)) (q3 (a - 1) (by omega) (by omega))
theorem own_LIy {f : Nat → Int32} {n i : Nat} (hn : i < n) (h : f i = 47) : own_LI f (min n (i + 1)) (i + 1) := ⟨by omega, fun _ => h, fun j h1 h2 => absurd h2 (by omega)⟩
theorem own_LIn {f : Nat → Int32} {n i k : Nat} (h : own_LI f (min n i) k) (q : i < n → ¬ f i = 47) : own_LI f (min n (i + 1)) k := by
  obtain ⟨a, b, d⟩ := h
  refine ⟨by omega, b, fun j h1 h2 => ?_⟩
  by_cases e : j = i
  · subst e; exact q (by omega)
  · exact d j h1 (by omega)
theorem own_lo47 {x : Int32} (h : own_ch x) (h2 : ¬ (255 : Int32) < x) : own_lo x = ((47 : Int32).toInt8.toInt32) ↔ x = 47 := by
  constructor
  · intro e
    have e1 := own_l1c h.1 (own_255.mp h2)
    have e2 : own_lo x = own_lo 47 := e
    rw [e2] at e1
    rw [← e1]; decide
  · intro e; rw [e]; rfl
theorem own_usB {g : Nat → Int32} {z k : Nat} (h : k ≤ z) (hk : k < 2147483648) : own_tab g k = (List.range (Int32.ofNat k).toNatClampNeg).map fun i => (own_tab g z).getD ((0 : Int32).toNatClampNeg + i) (.int (0 : Int32)) := by
  rw [own_clamp hk, show (0 : Int32).toNatClampNeg = 0 from by decide]
  show (List.range k).map _ = _
  apply List.map_congr_left
  intro j hj
  rw [Nat.zero_add]
  exact (own_tab_get (by have := List.mem_range.mp hj; omega) _).symm
theorem own_copyB {g : Nat → Int32} {k : Nat} : (own_tab (fun _ => 0) k).take 0 ++ own_tab g k ++ (own_tab (fun _ => 0) k).drop (0 + k) = own_tab g k := by
  have e : (own_tab (fun _ => 0) k).drop (0 + k) = [] := List.drop_eq_nil_of_le (by rw [own_tab_len]; omega)
  rw [List.take_zero, List.nil_append, e, List.append_nil]
theorem own_orn {n k : Nat} (hn : n ≤ 16) (hk : k ≤ 16) : ¬ ((Int32.ofNat n ||| (0 : Int32)) ||| Int32.ofNat k) < 0 := by
  have q : ∀ n, n < 17 → ∀ k, k < 17 → ¬ ((Int32.ofNat n ||| (0 : Int32)) ||| Int32.ofNat k) < 0 := by decide
  exact q n (by omega) k (by omega)
theorem own_BYcd {Z : State} {h : Heap} {tb tb2 : Addr} {cd cd2 : Int32} {f : Nat → Int32} {n : Nat} (A : own_BY Z h tb cd f n) (B : own_BY Z h tb2 cd2 f n) : cd2 = cd := by
  obtain ⟨k1, ⟨a, b, -⟩ | ⟨a, ⟨j, hj, b⟩, -⟩⟩ := A <;> obtain ⟨k2, ⟨a2, b2, -⟩ | ⟨a2, ⟨j2, hj2, b2⟩, -⟩⟩ := B
  · rw [a, a2]
  · exact absurd b2 (b j2 hj2)
  · exact absurd b (b2 j hj)
  · rw [a, a2]
theorem own_BY2 {Z : State} {h : Heap} {tb tb2 : Addr} {cd : Int32} {f : Nat → Int32} {n : Nat} (hn : n ≤ 16) (A : own_BY Z h tb cd f n) (B : own_BY Z h tb2 cd f n) : ∃ (k1 k2 : ClassId) (z : Nat) (g : Nat → Int32), z ≤ 32 ∧ Arv Z h tb k1 .byte (Int32.ofNat z) (own_tab g z) (.int (0 : Int32)) ∧ Arv Z h tb2 k2 .byte (Int32.ofNat z) (own_tab g z) (.int (0 : Int32)) := by
  obtain ⟨k1, ⟨a, b, V1⟩ | ⟨a, b, V1⟩⟩ := A <;> obtain ⟨k2, ⟨a2, b2, V2⟩ | ⟨a2, b2, V2⟩⟩ := B
  · exact ⟨k1, k2, n, _, by omega, V1, V2⟩
  · rw [a] at a2; exact absurd a2 (by decide)
  · rw [a] at a2; exact absurd a2 (by decide)
  · exact ⟨k1, k2, 2 * n, _, by omega, V1, V2⟩
section
open Jvm.Free.SB Jvm.Free.SBG
variable {p : Program} {l : Launch} {e : Env} {R : Room} {s : State} {m : MethodId} {args : Array Value} {below : List Frame} {meth : Method} {c : Code} {T : State} {locs : List Loc} {cells slots : Nat}
/-- what an ldc_w of the empty String leaves -/
def own_Wst (s T : State) (mc : ClassId) (index : Nat) (a : Addr) (T2 : State) : Prop :=
  s.Since T2.vm T2.heap.size ∧ (∃ k2, T2.vm.classes[mc]? = some k2 ∧ k2.resolved[index]? = some (some (.string a))) ∧ (∀ b, b < T.heap.size → T2.heap[b]? = T.heap[b]?) ∧ T.heap.size ≤ T2.heap.size ∧ T.Warmed39 T2.vm ∧
    (T2.vm.interned = T.vm.interned ∨ ∃ u : Array UInt16, T2.vm.interned = T.vm.interned.push (u, a) ∧ T.vm.interned.find? (fun p => p.1 == u) = none ∧ (u.all (· < 256) = true → SlIn 0 T.heap.size T2 a u))
set_option maxHeartbeats 2000000 in
theorem own_ldcWN (X : Stand p l e R s m args below meth c T locs cells slots) (hx : p.tables.exec = Jvm.exec) {own : String} {index : Nat} (hown : s.vm.findClass own = some m.cls) (hl : (Cond.stringLink own index "").before args s = true) (hS : ∀ a ∈ Bundle.stringAtoms, a.before args s = true) {g : JFrame} (hg : g.method = m) (hd : decode c.code g.pc = .ok (.ldc_w index, 3)) (hc : cells + 2 ≤ R.cells) (hs : slots + 4 ≤ R.slots) :
    ∃ (a : Addr) (T2 : State), Stand p l e R (s.setVm T2.vm) m args below meth c T2 locs (cells + 2) (slots + 4) ∧ own_Wst s T m.cls index a T2 ∧ ∀ target, Steps p.tables e below (T2.setTop { g with pc := g.pc + 3, stack := .ref a :: g.stack }) target → Steps p.tables e below (T.setTop g) target := by
  obtain ⟨k, cf, i, u, hk, hcf, hcp, hu, hnm, hdec, hres⟩ := Cond.stringLink_spec hown hl
  obtain ⟨k1, hk1, he⟩ := X.warmed.alike.2.2 _ _ hk
  have hcf1 : k1.cf = some cf := by rw [he]; exact hcf
  have hb0 : (stringBytes u).size = 0 := Nat.le_zero.mp (text_bytes_le hdec)
  have A1 : k.cf.bind (namesOf? ·.constantPool index) = some (.string "") := by rw [hcf]; exact hnm
  have A2 : k.cf.bind (·.constantPool[index]?) = some (.string i) := by rw [hcf]; exact hcp
  have A3 : k.cf.bind (·.constantPool.utf8? i) = some u := by rw [hcf]; simp [ConstantPool.utf8?, hu]
  have B1 : k1.cf.bind (namesOf? ·.constantPool index) = some (.string "") := by rw [hcf1]; exact hnm
  have B2 : k1.cf.bind (·.constantPool[index]?) = some (.string i) := by rw [hcf1]; exact hcp
  have B3 : k1.cf.bind (·.constantPool.utf8? i) = some u := by rw [hcf1]; simp [ConstantPool.utf8?, hu]
  have Xm : Stand p l e R s m args below meth c T locs (cells + 2) (slots + 4) := X.mono (by omega) (by omega)
  have hnow : (k1.resolved[index]? = some none ∧ k.resolved[index]? = some none) ∨ ∃ a, k1.resolved[index]? = some (some (.string a)) := by
    rcases X.warmed.wide.entry hk hk1 index with e0 | ⟨-, r, e1, hr | ⟨a, t, rfl, -⟩⟩
    · exact hres.imp (fun q => ⟨e0.trans q, q⟩) fun ⟨a, q⟩ => ⟨a, e0.trans q⟩
    · cases r <;> simp [State.rightAt, hk, hcf, hnm] at hr
    · exact Or.inr ⟨a, e1⟩
  subst hg
  rcases hnow with ⟨o1, o0⟩ | ⟨a, hr⟩
  · cases hf : T.vm.interned.find? (fun p => p.1 == u) with
    | some pr =>
      obtain ⟨u2, a⟩ := pr
      obtain rfl : u2 = u := by have := Array.find?_some hf; simpa using this
      have hW := X.warmed.wide.notedString hk (Or.inl o0) A1 A2 A3 hf
      have hT := (State.Warmed39.refl T).notedString hk1 (Or.inl o1) B1 B2 B3 hf
      refine ⟨a, T.setVm (T.vm.noted g.method.cls index (.string a)), Xm.retabled hW, ⟨⟨hW, State.Booked.step (T₂ := T.setVm (T.vm.noted g.method.cls index (.string a))) (X.warmed.no_new_pair _) X.same.2.1 ⟨Nat.le_refl _, Or.inl rfl⟩⟩, ⟨_, Vm.classes_note_self index (.string a) hk1, Class.resolved_note_self (.string a) o1⟩, fun _ _ => rfl, Nat.le_refl _, hT, Or.inl rfl⟩, fun target κ => ?_⟩
      jvm_step X.here [hx, hd, ldc_w.wp_string_found (e := e) (s := T) (f := g) X.here.top hk1 hcf1 hcp hu o1 hf]
      exact κ
    | none =>
      obtain ⟨Q, LQ, q4, fv, fc⟩ := StringT.of_atoms (args := args) hS
      obtain ⟨kS, kB, L2, tyS⟩ := LQ.warmer X.warmed.alike
      have efs : T.fitsSlot = s.fitsSlot := (show T.fitsSlot = (s.setVm T.vm).fitsSlot from rfl).trans (State.fitsSlot_setVm X.warmed.alike)
      obtain ⟨vmI, hvI⟩ : ∃ z, z = ({ T.vm with interned := T.vm.interned.push (u, T.heap.size + 1) } : Vm) := ⟨_, rfl⟩
      have hp : vmI.interned.find? (fun p => p.1 == u) = some (u, T.heap.size + 1) := by
        rw [hvI]
        show (T.vm.interned.push (u, T.heap.size + 1)).find? _ = _
        rw [Array.find?_push, hf]; simp
      have hW : s.Warmed39 (vmI.noted g.method.cls index (.string (T.heap.size + 1))) := by
        subst hvI; exact (X.warmed.wide.interns u (T.heap.size + 1)).notedString hk (Or.inl o0) A1 A2 A3 hp
      have hT : T.Warmed39 (vmI.noted g.method.cls index (.string (T.heap.size + 1))) := by
        subst hvI; exact ((State.Warmed39.refl T).interns u (T.heap.size + 1)).notedString hk1 (Or.inl o1) B1 B2 B3 hp
      obtain ⟨V, hV⟩ : ∃ z, z = withString T Q.cB Q.cS kS Q.fv Q.fc u := ⟨_, rfl⟩
      have eV : V.heap = (T.heap.push (bytesOf Q.cB u)).push (stringAt Q.cS kS Q.fv Q.fc u T.heap.size) := by rw [hV, withString_eq]; rfl
      have X2 := (X.pushed (bytesOf Q.cB u)).pushed (stringAt Q.cS kS Q.fv Q.fc u T.heap.size)
      rw [← withString_eq, ← hV] at X2
      have zV : V.heap.size = T.heap.size + 2 := by rw [eV]; simp
      have b1 : (bytesOf Q.cB u).slots.size = 0 := by rw [(Cell.writeAll_facts _ _).2.2]; simp [bytes0, hb0]
      have b2 : (stringAt Q.cS kS Q.fv Q.fc u T.heap.size).slots.size = 4 := by simp [string0, Cell.setSlot, tyS, q4]
      have X3 : Stand p l e R (s.setVm ((V.setVm (vmI.noted g.method.cls index (.string (T.heap.size + 1)))).vm)) g.method args below meth c (V.setVm (vmI.noted g.method.cls index (.string (T.heap.size + 1)))) locs (cells + 2) (slots + 4) := (X2.mono (by omega) (by rw [b1, b2]; omega)).retabled hW
      have at0 : V.heap[T.heap.size]? = some (bytesOf Q.cB u) := by rw [eV, Array.getElem?_push, if_neg (by rw [Array.size_push]; omega), Array.getElem?_push, if_pos rfl]
      have at1 : V.heap[T.heap.size + 1]? = some (stringAt Q.cS kS Q.fv Q.fc u T.heap.size) := by rw [eV, Array.getElem?_push, if_pos (by rw [Array.size_push])]
      have below' : ∀ b, b < T.heap.size → V.heap[b]? = T.heap[b]? := fun b hb => by rw [eV, Array.getElem?_push, if_neg (by rw [Array.size_push]; omega), Array.getElem?_push, if_neg (by omega)]
      have one : T.Interned1 (V.setVm (vmI.noted g.method.cls index (.string (T.heap.size + 1)))) := ⟨by show T.heap.size ≤ V.heap.size; omega, Or.inr ⟨u, T.heap.size + 1, by rw [hvI]; rfl, by omega, by show T.heap.size + 1 < V.heap.size; omega⟩⟩
      refine ⟨T.heap.size + 1, V.setVm (vmI.noted g.method.cls index (.string (T.heap.size + 1))), X3, ⟨⟨hW, State.Booked.step (X.warmed.no_new_pair _) X.same.2.1 one⟩, ⟨_, Vm.classes_note_self (vm := vmI) index (.string (T.heap.size + 1)) (by rw [hvI]; exact hk1), Class.resolved_note_self (.string (T.heap.size + 1)) o1⟩, below', by show T.heap.size ≤ V.heap.size; omega, hT, Or.inr ⟨u, by rw [hvI]; rfl, hf, fun ha => made_sl (W := V.setVm (vmI.noted g.method.cls index (.string (T.heap.size + 1)))) hS LQ q4 tyS hW.alike at0 at1 ha (by omega) 0⟩⟩, fun target κ => ?_⟩
      refine Steps.instr (c := _) (by simpa using X.here) ?_
      simp [jvm, wpRun, exec, X.here.top, hx, hd]
      refine ldc_w.wp_string_new (e := e) (s := T) (f := g) X.here.top hk1 hcf1 hcp hu o1 hf L2.found L2.cls L2.initialized L2.ordinary L2.foundB L2.clsB L2.kindB L2.value L2.coder ?_ ?_ (X.cellsAbove hc) ?_ (stringBytes_fit L2.clsB L2.kindB u) L2.valueSlot L2.coderSlot (by rw [efs]; exact fv _) (by rw [efs]; exact fc _) (fun d2 acts2 => ?_)
      · rw [hb0]; omega
      · rw [hb0]; omega
      · have := X.slotsAbove hs
        rw [hb0, tyS, q4]; omega
      · intro acts3
        have t1 : (withString T Q.cB Q.cS kS Q.fv Q.fc u).topJava?.isSome := by simpa [withString] using X.here.top
        rw [← hvI, ← hV]
        rw [← hV] at t1
        have t2 : (V.setVm (vmI.noted g.method.cls index (.string (T.heap.size + 1)))).topJava?.isSome := by simpa using t1
        simp [jvm, afterInstr, t1, t2]
        rw [State.modifyTopJava_setTop]
        exact κ
  · refine ⟨a, T, Xm.retabled X.warmed.wide, ⟨X.warmed.since _, ⟨k1, hk1, hr⟩, fun _ _ => rfl, Nat.le_refl _, State.Warmed39.refl T, Or.inl rfl⟩, fun target κ => ?_⟩
    jvm_step X.here [hx, hd, ldc_w.wp_string (e := e) (s := T) (f := g) X.here.top hk1 hcf1 hcp hr]
    exact κ
theorem own_ldcW {vm0 : Vm} {Z : State} {a0 : Array Value} {own : String} {index : Nat} {EL : List (String × Nat)} {h : Heap} (X : Stand p l e R (s.setVm vm0) m args below meth c T locs cells slots) (hx : p.tables.exec = Jvm.exec) (hZ : Z.Warmed39 vm0) (hown : vm0.findClass own = some m.cls) (w : (Cond.stringLink own index "").before a0 Z = true) (wS : ∀ a ∈ Bundle.stringAtoms, a.before a0 Z = true)
    (eT : T.heap = h) {k0 : Nat} (hS : s.Since vm0 k0) (hk : k0 ≤ h.size) (hEL : EW Z a0 EL) (hmem : (own, index) ∈ EL) (H : CHv Z EL vm0 h)
    {vs : List Value} {z : Int32} (ht : (∀ c ∈ "".toList, c.toNat < 256) ∧ "".toList.map (fun c => Value.int (Jvm.Lit.byteI c.toNat.toUInt16)) = vs) (hz : ¬ z < 0) (hl : z.toNatClampNeg = vs.length)
    {g : JFrame} (hg : g.method = m) (hd : decode c.code g.pc = .ok (.ldc_w index, 3)) {n : Nat} (hn : n = 0) (hn2 : n = 0) (hc : cells + 2 ≤ R.cells) (hl' : slots + (n + 4) ≤ R.slots) :
    ∃ (a : Addr) (T' : State) (h' : Heap) (k1 : Nat) (b : Addr) (k : ClassId), Stand p l e R (s.setVm T'.vm) m args below meth c T' locs (cells + 2) (slots + (n + 4)) ∧ T'.heap = h' ∧ Ext h h' ∧ s.Since T'.vm k1 ∧ k1 ≤ h'.size ∧ Z.Warmed39 (s.setVm T'.vm).vm ∧ (s.setVm T'.vm).vm.findClass own = some m.cls ∧
      Exa Z h' a "java/lang/String" ∧ Fld Z h' a "java/lang/String" "coder" "B" (.int 0) ∧ Fld Z h' a "java/lang/String" "value" "[B" (.ref b) ∧ Arv Z h' b k .byte z vs (.int 0) ∧ a < h'.size ∧ b < h'.size ∧ CHr Z EL vm0 h T'.vm h' ∧ Lit (s.setVm T'.vm) own index a ∧ (∀ x, Safe Z EL T'.vm h' x → x ≠ a ∧ x ≠ b) ∧
      ∀ target, Steps p.tables e below (T'.setTop { g with pc := g.pc + 3, stack := .ref a :: g.stack }) target → Steps p.tables e below (T.setTop g) target := by
  subst hn eT
  obtain ⟨a, T2, X2, ⟨hS2, ⟨k2, hk2, hr2⟩, hb, hsz, hT2, hint⟩, st⟩ := own_ldcWN X hx (own := own) hown (mvS (s := s.setVm vm0) hZ w) (fun d hd => by
    have q := wS d hd
    simp only [Bundle.stringAtoms, List.mem_cons, List.not_mem_nil, or_false] at hd
    rcases hd with rfl | rfl | rfl | rfl | rfl | rfl | rfl
    · exact mv (s := s.setVm vm0) hZ q
    · exact mv (s := s.setVm vm0) hZ q
    · exact mvA (s := s.setVm vm0) hZ q
    · exact mv (s := s.setVm vm0) hZ q
    · exact mv (s := s.setVm vm0) hZ q
    · exact mv (s := s.setVm vm0) hZ q
    · exact mv (s := s.setVm vm0) hZ q) hg hd hc (by omega)
  have E : Ext T.heap T2.heap := ⟨hsz, fun b cc q => by rw [hb b (Array.getElem?_eq_some_iff.mp q).1]; exact q⟩
  have hZ2 : Z.Warmed39 T2.vm := State.Warmed39.trans (t := s.setVm vm0) hZ hS2.1
  have hal := hZ2.alike
  have C1 := CHv.at X hZ hEL H
  have hZT : Z.Warmed39 T.vm := wtrans (s := s.setVm vm0) hZ X.warmed
  have C2 := CHv.later (vm := T.vm) (vm1 := T2.vm) hZT (show (Wst Z T.vm T.heap).Warmed39 T2.vm from hT2) hEL E (hint.imp id fun ⟨u, e1, e2, e3⟩ => ⟨u, a, e1, e2, fun ha => by
    obtain ⟨q, cS, hq, r1, r2, r3, r4, r5⟩ := e3 ha
    have F : SlB T2 q u := ⟨cS, r1, r2, r3, r4⟩
    refine ⟨q, hq, F.carry (V := Wst Z T2.vm T2.heap) (Vm.Alike.refl _) F.ha F.hd, ?_⟩
    rcases r5 with ⟨y, -⟩ | y
    · exact absurd y (Nat.not_lt_zero _)
    · exact y⟩) C1.1
  have C : CHr Z EL vm0 T.heap T2.vm T2.heap := C1.trans ⟨C2.1, E.1, C2.2⟩
  have hf2 : T2.vm.findClass own = some m.cls := by rw [hS2.1.alike.findClass]; exact hown
  have L2 : Lit (s.setVm T2.vm) own index a := by simp [Lit, State.resolvedAt?, hf2, hk2, hr2]
  have hO : Z.vm.findClass own = some m.cls := by rw [← hal.findClass]; exact hf2
  obtain ⟨kz, cf, i, u, hkz, hcf, hcp, hu, -, hdec, -⟩ := Cond.stringLink_spec hO w
  obtain ⟨k3, hk3, he3⟩ := hal.2.2 _ _ hkz
  cases hk2.symm.trans hk3
  have Bk0 : Booksv T2.vm own index u a := ⟨m.cls, k2, cf, i, hf2, hk2, by rw [he3]; exact hcf, hcp, hu, Or.inl hr2⟩
  have hb0 : (stringBytes u).size = 0 := Nat.le_zero.mp (text_bytes_le hdec)
  obtain ⟨q, rfl, F⟩ := SlB.of (C.1 _ hmem u a Bk0)
  have hne : ∀ x, Safe Z EL T2.vm T2.heap x → x ≠ q.sa ∧ x ≠ q.sd := fun x S => ⟨fun e1 => S ⟨_, hmem, u, _, Bk0, q, rfl, F, Or.inl e1⟩, fun e1 => S ⟨_, hmem, u, _, Bk0, q, rfl, F, Or.inr e1⟩⟩
  obtain ⟨cS, ⟨⟨s1, s2, s3, ⟨cv, kv, iv, s4, s4'⟩, ⟨cc, kc, ic, s5, s5'⟩, s6, s7, s8, s9, s10, s11, s12, s13, s14, s15, s16⟩, hfS, hcS⟩, ⟨kS, g1, g2, g3⟩, hB, hbyt⟩ := F
  obtain ⟨kv', z4⟩ := ff_back (U := Wst Z T2.vm T2.heap) hal s4
  obtain ⟨kc', z5⟩ := ff_back (U := Wst Z T2.vm T2.heap) hal s5
  have hfS' : T2.vm.findClass "java/lang/String" = some cS := hfS
  have hfZ : Z.vm.findClass "java/lang/String" = some q.sC.cls := by rw [← hal.findClass, hcS]; exact hfS'
  obtain ⟨ks, hks, -⟩ := Vm.findClass_spec hfZ
  obtain ⟨ks', hks', eks⟩ := hal.2.2 _ _ hks
  have g1' : T2.vm.classes[cS]? = some kS := g1
  have ekS : ks' = kS := Option.some.inj (hks'.symm.trans (hcS ▸ g1'))
  have hB' : T2.vm.findClass "[B" = some q.SA.cls := hB
  have hBZ : Z.vm.findClass "[B" = some q.SA.cls := by rw [← hal.findClass]; exact hB'
  obtain ⟨kb, hkb, -⟩ := Vm.findClass_spec hBZ
  obtain ⟨kb', hkb', ekb⟩ := hal.2.2 _ _ hkb
  obtain ⟨hst, k9, hk9, comp, hk9k⟩ := s11
  have hk9' : T2.vm.classes[q.SA.cls]? = some k9 := hk9
  have ek9 : k9 = kb' := Option.some.inj (hk9'.symm.trans hkb')
  have hAZ : Z.isArrayOf q.SA .byte := ⟨hst, kb, hkb, comp, by rw [ek9, ekb] at hk9k; exact hk9k⟩
  have evs : vs = [] := by rw [← ht.2]; rfl
  subst evs
  have hz0 : q.SA.slots.size = 0 := by rw [hbyt]; exact hb0
  refine ⟨q.sa, T2, _, _, q.sd, q.SA.cls, X2, rfl, E, hS.trans hS2 (Nat.le_trans hk E.1), Nat.le_refl _, hZ2, hf2,
    ⟨q.sC, ks, s1, hfZ, hks, s3, fun ho => by rw [g3, ← ekS, eks]⟩, ⟨q.sC, cc, kc', ic, q.fSC, s1, z5, s7, s2, s3, by rw [← hal.assignable]; exact s5', s9⟩, ⟨q.sC, cv, kv', iv, q.fSV, s1, z4, s6, s2, s3, by rw [← hal.assignable]; exact s4', s8⟩,
    ⟨q.SA, ⟨s10, hAZ, s12⟩, rfl, by rw [hz0, hl]; rfl, hz, fun j hj => absurd hj (by omega), fun j hj => absurd hj (by omega)⟩, (Array.getElem?_eq_some_iff.mp s1).1, (Array.getElem?_eq_some_iff.mp s10).1, C, L2, hne, st⟩
end

theorem d1_0 : decode method_2_code 0 = .ok (.iload_n 0, 1) := by decide +kernel
theorem d1_1 : decode method_2_code 1 = .ok (.bipush 16, 2) := by decide +kernel
theorem d1_3 : decode method_2_code 3 = .ok (.iushr, 1) := by decide +kernel
theorem d1_4 : decode method_2_code 4 = .ok (.iconst 1, 1) := by decide +kernel
theorem d1_5 : decode method_2_code 5 = .ok (.iand, 1) := by decide +kernel
theorem d1_6 : decode method_2_code 6 = .ok (.ifCond .eq 6, 3) := by decide +kernel
theorem d1_9 : decode method_2_code 9 = .ok (.bipush 47, 2) := by decide +kernel
theorem d1_11 : decode method_2_code 11 = .ok (.ireturn, 1) := by decide +kernel
theorem d1_12 : decode method_2_code 12 = .ok (.iload_n 0, 1) := by decide +kernel
theorem d1_13 : decode method_2_code 13 = .ok (.ldc 7, 2) := by decide +kernel
theorem d1_15 : decode method_2_code 15 = .ok (.iand, 1) := by decide +kernel
theorem d1_16 : decode method_2_code 16 = .ok (.i2c, 1) := by decide +kernel
theorem d1_17 : decode method_2_code 17 = .ok (.ireturn, 1) := by decide +kernel
theorem d2_0 : decode method_3_code 0 = .ok (.iload 4, 2) := by decide +kernel
theorem d2_2 : decode method_3_code 2 = .ok (.ifCond .gt 14, 3) := by decide +kernel
theorem d2_5 : decode method_3_code 5 = .ok (.new 8, 3) := by decide +kernel
theorem d2_8 : decode method_3_code 8 = .ok (.dup, 1) := by decide +kernel
theorem d2_9 : decode method_3_code 9 = .ok (.iconst 0, 1) := by decide +kernel
theorem d2_10 : decode method_3_code 10 = .ok (.newarray .char, 2) := by decide +kernel
theorem d2_12 : decode method_3_code 12 = .ok (.invokespecial 10, 3) := by decide +kernel
theorem d2_15 : decode method_3_code 15 = .ok (.areturn, 1) := by decide +kernel
theorem d2_16 : decode method_3_code 16 = .ok (.iload 4, 2) := by decide +kernel
theorem d2_18 : decode method_3_code 18 = .ok (.iconst 1, 1) := by decide +kernel
theorem d2_19 : decode method_3_code 19 = .ok (.if_icmp .ne 18, 3) := by decide +kernel
theorem d2_22 : decode method_3_code 22 = .ok (.new 8, 3) := by decide +kernel
theorem d2_25 : decode method_3_code 25 = .ok (.dup, 1) := by decide +kernel
theorem d2_26 : decode method_3_code 26 = .ok (.iconst 1, 1) := by decide +kernel
theorem d2_27 : decode method_3_code 27 = .ok (.newarray .char, 2) := by decide +kernel
theorem d2_29 : decode method_3_code 29 = .ok (.dup, 1) := by decide +kernel
theorem d2_30 : decode method_3_code 30 = .ok (.iconst 0, 1) := by decide +kernel
theorem d2_31 : decode method_3_code 31 = .ok (.iload_n 0, 1) := by decide +kernel
theorem d2_32 : decode method_3_code 32 = .ok (.castore, 1) := by decide +kernel
theorem d2_33 : decode method_3_code 33 = .ok (.invokespecial 10, 3) := by decide +kernel
theorem d2_36 : decode method_3_code 36 = .ok (.areturn, 1) := by decide +kernel
theorem d2_37 : decode method_3_code 37 = .ok (.iload 4, 2) := by decide +kernel
theorem d2_39 : decode method_3_code 39 = .ok (.iconst 2, 1) := by decide +kernel
theorem d2_40 : decode method_3_code 40 = .ok (.if_icmp .ne 22, 3) := by decide +kernel
theorem d2_43 : decode method_3_code 43 = .ok (.new 8, 3) := by decide +kernel
theorem d2_46 : decode method_3_code 46 = .ok (.dup, 1) := by decide +kernel
theorem d2_47 : decode method_3_code 47 = .ok (.iconst 2, 1) := by decide +kernel
theorem d2_48 : decode method_3_code 48 = .ok (.newarray .char, 2) := by decide +kernel
theorem d2_50 : decode method_3_code 50 = .ok (.dup, 1) := by decide +kernel
theorem d2_51 : decode method_3_code 51 = .ok (.iconst 0, 1) := by decide +kernel
theorem d2_52 : decode method_3_code 52 = .ok (.iload_n 0, 1) := by decide +kernel
theorem d2_53 : decode method_3_code 53 = .ok (.castore, 1) := by decide +kernel
theorem d2_54 : decode method_3_code 54 = .ok (.dup, 1) := by decide +kernel
theorem d2_55 : decode method_3_code 55 = .ok (.iconst 1, 1) := by decide +kernel
theorem d2_56 : decode method_3_code 56 = .ok (.iload_n 1, 1) := by decide +kernel
theorem d2_57 : decode method_3_code 57 = .ok (.castore, 1) := by decide +kernel
theorem d2_58 : decode method_3_code 58 = .ok (.invokespecial 10, 3) := by decide +kernel
theorem d2_61 : decode method_3_code 61 = .ok (.areturn, 1) := by decide +kernel
theorem d2_62 : decode method_3_code 62 = .ok (.iload 4, 2) := by decide +kernel
theorem d2_64 : decode method_3_code 64 = .ok (.iconst 3, 1) := by decide +kernel
theorem d2_65 : decode method_3_code 65 = .ok (.if_icmp .ne 26, 3) := by decide +kernel
theorem d2_68 : decode method_3_code 68 = .ok (.new 8, 3) := by decide +kernel
theorem d2_71 : decode method_3_code 71 = .ok (.dup, 1) := by decide +kernel
theorem d2_72 : decode method_3_code 72 = .ok (.iconst 3, 1) := by decide +kernel
theorem d2_73 : decode method_3_code 73 = .ok (.newarray .char, 2) := by decide +kernel
theorem d2_75 : decode method_3_code 75 = .ok (.dup, 1) := by decide +kernel
theorem d2_76 : decode method_3_code 76 = .ok (.iconst 0, 1) := by decide +kernel
theorem d2_77 : decode method_3_code 77 = .ok (.iload_n 0, 1) := by decide +kernel
theorem d2_78 : decode method_3_code 78 = .ok (.castore, 1) := by decide +kernel
theorem d2_79 : decode method_3_code 79 = .ok (.dup, 1) := by decide +kernel
theorem d2_80 : decode method_3_code 80 = .ok (.iconst 1, 1) := by decide +kernel
theorem d2_81 : decode method_3_code 81 = .ok (.iload_n 1, 1) := by decide +kernel
theorem d2_82 : decode method_3_code 82 = .ok (.castore, 1) := by decide +kernel
theorem d2_83 : decode method_3_code 83 = .ok (.dup, 1) := by decide +kernel
theorem d2_84 : decode method_3_code 84 = .ok (.iconst 2, 1) := by decide +kernel
theorem d2_85 : decode method_3_code 85 = .ok (.iload_n 2, 1) := by decide +kernel
theorem d2_86 : decode method_3_code 86 = .ok (.castore, 1) := by decide +kernel
theorem d2_87 : decode method_3_code 87 = .ok (.invokespecial 10, 3) := by decide +kernel
theorem d2_90 : decode method_3_code 90 = .ok (.areturn, 1) := by decide +kernel
theorem d2_91 : decode method_3_code 91 = .ok (.new 8, 3) := by decide +kernel
theorem d2_94 : decode method_3_code 94 = .ok (.dup, 1) := by decide +kernel
theorem d2_95 : decode method_3_code 95 = .ok (.iconst 4, 1) := by decide +kernel
theorem d2_96 : decode method_3_code 96 = .ok (.newarray .char, 2) := by decide +kernel
theorem d2_98 : decode method_3_code 98 = .ok (.dup, 1) := by decide +kernel
theorem d2_99 : decode method_3_code 99 = .ok (.iconst 0, 1) := by decide +kernel
theorem d2_100 : decode method_3_code 100 = .ok (.iload_n 0, 1) := by decide +kernel
theorem d2_101 : decode method_3_code 101 = .ok (.castore, 1) := by decide +kernel
theorem d2_102 : decode method_3_code 102 = .ok (.dup, 1) := by decide +kernel
theorem d2_103 : decode method_3_code 103 = .ok (.iconst 1, 1) := by decide +kernel
theorem d2_104 : decode method_3_code 104 = .ok (.iload_n 1, 1) := by decide +kernel
theorem d2_105 : decode method_3_code 105 = .ok (.castore, 1) := by decide +kernel
theorem d2_106 : decode method_3_code 106 = .ok (.dup, 1) := by decide +kernel
theorem d2_107 : decode method_3_code 107 = .ok (.iconst 2, 1) := by decide +kernel
theorem d2_108 : decode method_3_code 108 = .ok (.iload_n 2, 1) := by decide +kernel
theorem d2_109 : decode method_3_code 109 = .ok (.castore, 1) := by decide +kernel
theorem d2_110 : decode method_3_code 110 = .ok (.dup, 1) := by decide +kernel
theorem d2_111 : decode method_3_code 111 = .ok (.iconst 3, 1) := by decide +kernel
theorem d2_112 : decode method_3_code 112 = .ok (.iload_n 3, 1) := by decide +kernel
theorem d2_113 : decode method_3_code 113 = .ok (.castore, 1) := by decide +kernel
theorem d2_114 : decode method_3_code 114 = .ok (.invokespecial 10, 3) := by decide +kernel
theorem d2_117 : decode method_3_code 117 = .ok (.areturn, 1) := by decide +kernel
theorem d3_0 : decode jdk_42_method_3_code 0 = .ok (.aload_n 0, 1) := by decide +kernel
theorem d3_1 : decode jdk_42_method_3_code 1 = .ok (.aload_n 1, 1) := by decide +kernel
theorem d3_2 : decode jdk_42_method_3_code 2 = .ok (.iconst 0, 1) := by decide +kernel
theorem d3_3 : decode jdk_42_method_3_code 3 = .ok (.aload_n 1, 1) := by decide +kernel
theorem d3_4 : decode jdk_42_method_3_code 4 = .ok (.arraylength, 1) := by decide +kernel
theorem d3_5 : decode jdk_42_method_3_code 5 = .ok (.aconst_null, 1) := by decide +kernel
theorem d3_6 : decode jdk_42_method_3_code 6 = .ok (.invokespecial 27, 3) := by decide +kernel
theorem d3_9 : decode jdk_42_method_3_code 9 = .ok (.return_, 1) := by decide +kernel
theorem d4_0 : decode jdk_42_method_149_code 0 = .ok (.aload_n 0, 1) := by decide +kernel
theorem d4_1 : decode jdk_42_method_149_code 1 = .ok (.invokespecial 1, 3) := by decide +kernel
theorem d4_4 : decode jdk_42_method_149_code 4 = .ok (.iload_n 3, 1) := by decide +kernel
theorem d4_5 : decode jdk_42_method_149_code 5 = .ok (.ifCond .ne 22, 3) := by decide +kernel
theorem d4_8 : decode jdk_42_method_149_code 8 = .ok (.aload_n 0, 1) := by decide +kernel
theorem d4_9 : decode jdk_42_method_149_code 9 = .ok (.ldc 7, 2) := by decide +kernel
theorem d4_11 : decode jdk_42_method_149_code 11 = .ok (.getfield 9, 3) := by decide +kernel
theorem d4_14 : decode jdk_42_method_149_code 14 = .ok (.putfield 9, 3) := by decide +kernel
theorem d4_17 : decode jdk_42_method_149_code 17 = .ok (.aload_n 0, 1) := by decide +kernel
theorem d4_18 : decode jdk_42_method_149_code 18 = .ok (.ldc 7, 2) := by decide +kernel
theorem d4_20 : decode jdk_42_method_149_code 20 = .ok (.getfield 15, 3) := by decide +kernel
theorem d4_23 : decode jdk_42_method_149_code 23 = .ok (.putfield 15, 3) := by decide +kernel
theorem d4_26 : decode jdk_42_method_149_code 26 = .ok (.return_, 1) := by decide +kernel
theorem d4_27 : decode jdk_42_method_149_code 27 = .ok (.getstatic 38, 3) := by decide +kernel
theorem d4_30 : decode jdk_42_method_149_code 30 = .ok (.ifCond .eq 28, 3) := by decide +kernel
theorem d4_33 : decode jdk_42_method_149_code 33 = .ok (.aload_n 1, 1) := by decide +kernel
theorem d4_34 : decode jdk_42_method_149_code 34 = .ok (.iload_n 2, 1) := by decide +kernel
theorem d4_35 : decode jdk_42_method_149_code 35 = .ok (.iload_n 3, 1) := by decide +kernel
theorem d4_36 : decode jdk_42_method_149_code 36 = .ok (.invokestatic 177, 3) := by decide +kernel
theorem d4_39 : decode jdk_42_method_149_code 39 = .ok (.astore 5, 2) := by decide +kernel
theorem d4_41 : decode jdk_42_method_149_code 41 = .ok (.aload_n 0, 1) := by decide +kernel
theorem d4_42 : decode jdk_42_method_149_code 42 = .ok (.aload 5, 2) := by decide +kernel
theorem d4_44 : decode jdk_42_method_149_code 44 = .ok (.iload_n 3, 1) := by decide +kernel
theorem d4_45 : decode jdk_42_method_149_code 45 = .ok (.invokestatic 47, 3) := by decide +kernel
theorem d4_48 : decode jdk_42_method_149_code 48 = .ok (.putfield 15, 3) := by decide +kernel
theorem d4_51 : decode jdk_42_method_149_code 51 = .ok (.aload_n 0, 1) := by decide +kernel
theorem d4_52 : decode jdk_42_method_149_code 52 = .ok (.aload 5, 2) := by decide +kernel
theorem d4_54 : decode jdk_42_method_149_code 54 = .ok (.putfield 9, 3) := by decide +kernel
theorem d4_57 : decode jdk_42_method_149_code 57 = .ok (.return_, 1) := by decide +kernel
theorem d6_0 : decode prog_49_method_8_code 0 = .ok (.aload_n 0, 1) := by decide +kernel
theorem d6_1 : decode prog_49_method_8_code 1 = .ok (.iconst 0, 1) := by decide +kernel
theorem d6_2 : decode prog_49_method_8_code 2 = .ok (.aload_n 0, 1) := by decide +kernel
theorem d6_3 : decode prog_49_method_8_code 3 = .ok (.bipush 47, 2) := by decide +kernel
theorem d6_5 : decode prog_49_method_8_code 5 = .ok (.invokevirtual 191, 3) := by decide +kernel
theorem d6_8 : decode prog_49_method_8_code 8 = .ok (.iconst 1, 1) := by decide +kernel
theorem d6_9 : decode prog_49_method_8_code 9 = .ok (.iadd, 1) := by decide +kernel
theorem d6_10 : decode prog_49_method_8_code 10 = .ok (.invokevirtual 195, 3) := by decide +kernel
theorem d6_13 : decode prog_49_method_8_code 13 = .ok (.areturn, 1) := by decide +kernel
theorem d7_0 : decode jdk_42_method_82_code 0 = .ok (.aload_n 0, 1) := by decide +kernel
theorem d7_1 : decode jdk_42_method_82_code 1 = .ok (.iload_n 1, 1) := by decide +kernel
theorem d7_2 : decode jdk_42_method_82_code 2 = .ok (.aload_n 0, 1) := by decide +kernel
theorem d7_3 : decode jdk_42_method_82_code 3 = .ok (.invokevirtual 505, 3) := by decide +kernel
theorem d7_6 : decode jdk_42_method_82_code 6 = .ok (.iconst 1, 1) := by decide +kernel
theorem d7_7 : decode jdk_42_method_82_code 7 = .ok (.isub, 1) := by decide +kernel
theorem d7_8 : decode jdk_42_method_82_code 8 = .ok (.invokevirtual 641, 3) := by decide +kernel
theorem d7_11 : decode jdk_42_method_82_code 11 = .ok (.ireturn, 1) := by decide +kernel
theorem d8_0 : decode jdk_42_method_54_code 0 = .ok (.aload_n 0, 1) := by decide +kernel
theorem d8_1 : decode jdk_42_method_54_code 1 = .ok (.getfield 9, 3) := by decide +kernel
theorem d8_4 : decode jdk_42_method_54_code 4 = .ok (.arraylength, 1) := by decide +kernel
theorem d8_5 : decode jdk_42_method_54_code 5 = .ok (.aload_n 0, 1) := by decide +kernel
theorem d8_6 : decode jdk_42_method_54_code 6 = .ok (.invokevirtual 335, 3) := by decide +kernel
theorem d8_9 : decode jdk_42_method_54_code 9 = .ok (.ishr, 1) := by decide +kernel
theorem d8_10 : decode jdk_42_method_54_code 10 = .ok (.ireturn, 1) := by decide +kernel
theorem d9_0 : decode jdk_42_method_152_code 0 = .ok (.getstatic 38, 3) := by decide +kernel
theorem d9_3 : decode jdk_42_method_152_code 3 = .ok (.ifCond .eq 10, 3) := by decide +kernel
theorem d9_6 : decode jdk_42_method_152_code 6 = .ok (.aload_n 0, 1) := by decide +kernel
theorem d9_7 : decode jdk_42_method_152_code 7 = .ok (.getfield 15, 3) := by decide +kernel
theorem d9_10 : decode jdk_42_method_152_code 10 = .ok (.goto 4, 3) := by decide +kernel
theorem d9_14 : decode jdk_42_method_152_code 14 = .ok (.ireturn, 1) := by decide +kernel
theorem d10_0 : decode jdk_42_method_83_code 0 = .ok (.aload_n 0, 1) := by decide +kernel
theorem d10_1 : decode jdk_42_method_83_code 1 = .ok (.invokevirtual 492, 3) := by decide +kernel
theorem d10_4 : decode jdk_42_method_83_code 4 = .ok (.ifCond .eq 15, 3) := by decide +kernel
theorem d10_7 : decode jdk_42_method_83_code 7 = .ok (.aload_n 0, 1) := by decide +kernel
theorem d10_8 : decode jdk_42_method_83_code 8 = .ok (.getfield 9, 3) := by decide +kernel
theorem d10_11 : decode jdk_42_method_83_code 11 = .ok (.iload_n 1, 1) := by decide +kernel
theorem d10_12 : decode jdk_42_method_83_code 12 = .ok (.iload_n 2, 1) := by decide +kernel
theorem d10_13 : decode jdk_42_method_83_code 13 = .ok (.invokestatic 644, 3) := by decide +kernel
theorem d10_16 : decode jdk_42_method_83_code 16 = .ok (.goto 12, 3) := by decide +kernel
theorem d10_19 : decode jdk_42_method_83_code 19 = .ok (.aload_n 0, 1) := by decide +kernel
theorem d10_20 : decode jdk_42_method_83_code 20 = .ok (.getfield 9, 3) := by decide +kernel
theorem d10_23 : decode jdk_42_method_83_code 23 = .ok (.iload_n 1, 1) := by decide +kernel
theorem d10_24 : decode jdk_42_method_83_code 24 = .ok (.iload_n 2, 1) := by decide +kernel
theorem d10_25 : decode jdk_42_method_83_code 25 = .ok (.invokestatic 646, 3) := by decide +kernel
theorem d10_28 : decode jdk_42_method_83_code 28 = .ok (.ireturn, 1) := by decide +kernel
theorem d11_0 : decode jdk_42_method_154_code 0 = .ok (.getstatic 38, 3) := by decide +kernel
theorem d11_3 : decode jdk_42_method_154_code 3 = .ok (.ifCond .eq 14, 3) := by decide +kernel
theorem d11_6 : decode jdk_42_method_154_code 6 = .ok (.aload_n 0, 1) := by decide +kernel
theorem d11_7 : decode jdk_42_method_154_code 7 = .ok (.getfield 15, 3) := by decide +kernel
theorem d11_10 : decode jdk_42_method_154_code 10 = .ok (.ifCond .ne 7, 3) := by decide +kernel
theorem d11_13 : decode jdk_42_method_154_code 13 = .ok (.iconst 1, 1) := by decide +kernel
theorem d11_14 : decode jdk_42_method_154_code 14 = .ok (.goto 4, 3) := by decide +kernel
theorem d11_17 : decode jdk_42_method_154_code 17 = .ok (.iconst 0, 1) := by decide +kernel
theorem d11_18 : decode jdk_42_method_154_code 18 = .ok (.ireturn, 1) := by decide +kernel
theorem d12_0 : decode jdk_43_method_27_code 0 = .ok (.iload_n 1, 1) := by decide +kernel
theorem d12_1 : decode jdk_43_method_27_code 1 = .ok (.invokestatic 88, 3) := by decide +kernel
theorem d12_4 : decode jdk_43_method_27_code 4 = .ok (.ifCond .ne 5, 3) := by decide +kernel
theorem d12_9 : decode jdk_43_method_27_code 9 = .ok (.iload_n 2, 1) := by decide +kernel
theorem d12_10 : decode jdk_43_method_27_code 10 = .ok (.aload_n 0, 1) := by decide +kernel
theorem d12_11 : decode jdk_43_method_27_code 11 = .ok (.arraylength, 1) := by decide +kernel
theorem d12_12 : decode jdk_43_method_27_code 12 = .ok (.iconst 1, 1) := by decide +kernel
theorem d12_13 : decode jdk_43_method_27_code 13 = .ok (.isub, 1) := by decide +kernel
theorem d12_14 : decode jdk_43_method_27_code 14 = .ok (.invokestatic 38, 3) := by decide +kernel
theorem d12_17 : decode jdk_43_method_27_code 17 = .ok (.istore_n 3, 1) := by decide +kernel
theorem d12_18 : decode jdk_43_method_27_code 18 = .ok (.iload_n 3, 1) := by decide +kernel
theorem d12_19 : decode jdk_43_method_27_code 19 = .ok (.ifCond .lt 19, 3) := by decide +kernel
theorem d12_22 : decode jdk_43_method_27_code 22 = .ok (.aload_n 0, 1) := by decide +kernel
theorem d12_23 : decode jdk_43_method_27_code 23 = .ok (.iload_n 3, 1) := by decide +kernel
theorem d12_24 : decode jdk_43_method_27_code 24 = .ok (.baload, 1) := by decide +kernel
theorem d12_25 : decode jdk_43_method_27_code 25 = .ok (.iload_n 1, 1) := by decide +kernel
theorem d12_26 : decode jdk_43_method_27_code 26 = .ok (.i2b, 1) := by decide +kernel
theorem d12_27 : decode jdk_43_method_27_code 27 = .ok (.if_icmp .ne 5, 3) := by decide +kernel
theorem d12_30 : decode jdk_43_method_27_code 30 = .ok (.iload_n 3, 1) := by decide +kernel
theorem d12_31 : decode jdk_43_method_27_code 31 = .ok (.ireturn, 1) := by decide +kernel
theorem d12_32 : decode jdk_43_method_27_code 32 = .ok (.iinc 3 (-1), 3) := by decide +kernel
theorem d12_35 : decode jdk_43_method_27_code 35 = .ok (.goto (-17), 3) := by decide +kernel
theorem d12_38 : decode jdk_43_method_27_code 38 = .ok (.iconst (-1), 1) := by decide +kernel
theorem d12_39 : decode jdk_43_method_27_code 39 = .ok (.ireturn, 1) := by decide +kernel
theorem d13_0 : decode jdk_43_method_4_code 0 = .ok (.iload_n 0, 1) := by decide +kernel
theorem d13_1 : decode jdk_43_method_4_code 1 = .ok (.ifCond .lt 14, 3) := by decide +kernel
theorem d13_4 : decode jdk_43_method_4_code 4 = .ok (.iload_n 0, 1) := by decide +kernel
theorem d13_5 : decode jdk_43_method_4_code 5 = .ok (.sipush 255, 3) := by decide +kernel
theorem d13_8 : decode jdk_43_method_4_code 8 = .ok (.if_icmp .gt 7, 3) := by decide +kernel
theorem d13_11 : decode jdk_43_method_4_code 11 = .ok (.iconst 1, 1) := by decide +kernel
theorem d13_12 : decode jdk_43_method_4_code 12 = .ok (.goto 4, 3) := by decide +kernel
theorem d13_16 : decode jdk_43_method_4_code 16 = .ok (.ireturn, 1) := by decide +kernel
theorem d14_0 : decode jdk_29_method_69_code 0 = .ok (.iload_n 0, 1) := by decide +kernel
theorem d14_1 : decode jdk_29_method_69_code 1 = .ok (.iload_n 1, 1) := by decide +kernel
theorem d14_2 : decode jdk_29_method_69_code 2 = .ok (.if_icmp .gt 7, 3) := by decide +kernel
theorem d14_5 : decode jdk_29_method_69_code 5 = .ok (.iload_n 0, 1) := by decide +kernel
theorem d14_6 : decode jdk_29_method_69_code 6 = .ok (.goto 4, 3) := by decide +kernel
theorem d14_9 : decode jdk_29_method_69_code 9 = .ok (.iload_n 1, 1) := by decide +kernel
theorem d14_10 : decode jdk_29_method_69_code 10 = .ok (.ireturn, 1) := by decide +kernel
theorem d15_0 : decode jdk_42_method_92_code 0 = .ok (.aload_n 0, 1) := by decide +kernel
theorem d15_1 : decode jdk_42_method_92_code 1 = .ok (.invokevirtual 505, 3) := by decide +kernel
theorem d15_4 : decode jdk_42_method_92_code 4 = .ok (.istore_n 3, 1) := by decide +kernel
theorem d15_5 : decode jdk_42_method_92_code 5 = .ok (.iload_n 1, 1) := by decide +kernel
theorem d15_6 : decode jdk_42_method_92_code 6 = .ok (.iload_n 2, 1) := by decide +kernel
theorem d15_7 : decode jdk_42_method_92_code 7 = .ok (.iload_n 3, 1) := by decide +kernel
theorem d15_8 : decode jdk_42_method_92_code 8 = .ok (.invokestatic 521, 3) := by decide +kernel
theorem d15_11 : decode jdk_42_method_92_code 11 = .ok (.iload_n 1, 1) := by decide +kernel
theorem d15_12 : decode jdk_42_method_92_code 12 = .ok (.ifCond .ne 10, 3) := by decide +kernel
theorem d15_15 : decode jdk_42_method_92_code 15 = .ok (.iload_n 2, 1) := by decide +kernel
theorem d15_16 : decode jdk_42_method_92_code 16 = .ok (.iload_n 3, 1) := by decide +kernel
theorem d15_17 : decode jdk_42_method_92_code 17 = .ok (.if_icmp .ne 5, 3) := by decide +kernel
theorem d15_20 : decode jdk_42_method_92_code 20 = .ok (.aload_n 0, 1) := by decide +kernel
theorem d15_21 : decode jdk_42_method_92_code 21 = .ok (.areturn, 1) := by decide +kernel
theorem d15_22 : decode jdk_42_method_92_code 22 = .ok (.iload_n 2, 1) := by decide +kernel
theorem d15_23 : decode jdk_42_method_92_code 23 = .ok (.iload_n 1, 1) := by decide +kernel
theorem d15_24 : decode jdk_42_method_92_code 24 = .ok (.isub, 1) := by decide +kernel
theorem d15_25 : decode jdk_42_method_92_code 25 = .ok (.istore 4, 2) := by decide +kernel
theorem d15_27 : decode jdk_42_method_92_code 27 = .ok (.aload_n 0, 1) := by decide +kernel
theorem d15_28 : decode jdk_42_method_92_code 28 = .ok (.invokevirtual 492, 3) := by decide +kernel
theorem d15_31 : decode jdk_42_method_92_code 31 = .ok (.ifCond .eq 16, 3) := by decide +kernel
theorem d15_34 : decode jdk_42_method_92_code 34 = .ok (.aload_n 0, 1) := by decide +kernel
theorem d15_35 : decode jdk_42_method_92_code 35 = .ok (.getfield 9, 3) := by decide +kernel
theorem d15_38 : decode jdk_42_method_92_code 38 = .ok (.iload_n 1, 1) := by decide +kernel
theorem d15_39 : decode jdk_42_method_92_code 39 = .ok (.iload 4, 2) := by decide +kernel
theorem d15_41 : decode jdk_42_method_92_code 41 = .ok (.invokestatic 685, 3) := by decide +kernel
theorem d15_44 : decode jdk_42_method_92_code 44 = .ok (.goto 13, 3) := by decide +kernel
theorem d15_47 : decode jdk_42_method_92_code 47 = .ok (.aload_n 0, 1) := by decide +kernel
theorem d15_48 : decode jdk_42_method_92_code 48 = .ok (.getfield 9, 3) := by decide +kernel
theorem d15_51 : decode jdk_42_method_92_code 51 = .ok (.iload_n 1, 1) := by decide +kernel
theorem d15_52 : decode jdk_42_method_92_code 52 = .ok (.iload 4, 2) := by decide +kernel
theorem d15_54 : decode jdk_42_method_92_code 54 = .ok (.invokestatic 689, 3) := by decide +kernel
theorem d15_57 : decode jdk_42_method_92_code 57 = .ok (.areturn, 1) := by decide +kernel
theorem d16_0 : decode jdk_42_method_158_code 0 = .ok (.iload_n 0, 1) := by decide +kernel
theorem d16_1 : decode jdk_42_method_158_code 1 = .ok (.iload_n 1, 1) := by decide +kernel
theorem d16_2 : decode jdk_42_method_158_code 2 = .ok (.iload_n 2, 1) := by decide +kernel
theorem d16_3 : decode jdk_42_method_158_code 3 = .ok (.getstatic 1053, 3) := by decide +kernel
theorem d16_6 : decode jdk_42_method_158_code 6 = .ok (.invokestatic 1062, 3) := by decide +kernel
theorem d16_9 : decode jdk_42_method_158_code 9 = .ok (.pop, 1) := by decide +kernel
theorem d16_10 : decode jdk_42_method_158_code 10 = .ok (.return_, 1) := by decide +kernel
theorem d17_0 : decode jdk_41_method_12_code 0 = .ok (.iload_n 0, 1) := by decide +kernel
theorem d17_1 : decode jdk_41_method_12_code 1 = .ok (.ifCond .lt 13, 3) := by decide +kernel
theorem d17_4 : decode jdk_41_method_12_code 4 = .ok (.iload_n 0, 1) := by decide +kernel
theorem d17_5 : decode jdk_41_method_12_code 5 = .ok (.iload_n 1, 1) := by decide +kernel
theorem d17_6 : decode jdk_41_method_12_code 6 = .ok (.if_icmp .gt 8, 3) := by decide +kernel
theorem d17_9 : decode jdk_41_method_12_code 9 = .ok (.iload_n 1, 1) := by decide +kernel
theorem d17_10 : decode jdk_41_method_12_code 10 = .ok (.iload_n 2, 1) := by decide +kernel
theorem d17_11 : decode jdk_41_method_12_code 11 = .ok (.if_icmp .le 11, 3) := by decide +kernel
theorem d17_22 : decode jdk_41_method_12_code 22 = .ok (.iload_n 0, 1) := by decide +kernel
theorem d17_23 : decode jdk_41_method_12_code 23 = .ok (.ireturn, 1) := by decide +kernel
theorem d18_0 : decode jdk_42_method_66_code 0 = .ok (.aload_n 0, 1) := by decide +kernel
theorem d18_1 : decode jdk_42_method_66_code 1 = .ok (.aload_n 1, 1) := by decide +kernel
theorem d18_2 : decode jdk_42_method_66_code 2 = .ok (.if_acmp .ne 5, 3) := by decide +kernel
theorem d18_5 : decode jdk_42_method_66_code 5 = .ok (.iconst 1, 1) := by decide +kernel
theorem d18_6 : decode jdk_42_method_66_code 6 = .ok (.ireturn, 1) := by decide +kernel
theorem d18_7 : decode jdk_42_method_66_code 7 = .ok (.aload_n 1, 1) := by decide +kernel
theorem d18_8 : decode jdk_42_method_66_code 8 = .ok (.instanceof 10, 3) := by decide +kernel
theorem d18_11 : decode jdk_42_method_66_code 11 = .ok (.ifCond .eq 43, 3) := by decide +kernel
theorem d18_14 : decode jdk_42_method_66_code 14 = .ok (.aload_n 1, 1) := by decide +kernel
theorem d18_15 : decode jdk_42_method_66_code 15 = .ok (.checkcast 10, 3) := by decide +kernel
theorem d18_18 : decode jdk_42_method_66_code 18 = .ok (.astore_n 2, 1) := by decide +kernel
theorem d18_19 : decode jdk_42_method_66_code 19 = .ok (.getstatic 38, 3) := by decide +kernel
theorem d18_22 : decode jdk_42_method_66_code 22 = .ok (.ifCond .eq 14, 3) := by decide +kernel
theorem d18_25 : decode jdk_42_method_66_code 25 = .ok (.aload_n 0, 1) := by decide +kernel
theorem d18_26 : decode jdk_42_method_66_code 26 = .ok (.getfield 15, 3) := by decide +kernel
theorem d18_29 : decode jdk_42_method_66_code 29 = .ok (.aload_n 2, 1) := by decide +kernel
theorem d18_30 : decode jdk_42_method_66_code 30 = .ok (.getfield 15, 3) := by decide +kernel
theorem d18_33 : decode jdk_42_method_66_code 33 = .ok (.if_icmp .ne 21, 3) := by decide +kernel
theorem d18_36 : decode jdk_42_method_66_code 36 = .ok (.aload_n 0, 1) := by decide +kernel
theorem d18_37 : decode jdk_42_method_66_code 37 = .ok (.getfield 9, 3) := by decide +kernel
theorem d18_40 : decode jdk_42_method_66_code 40 = .ok (.aload_n 2, 1) := by decide +kernel
theorem d18_41 : decode jdk_42_method_66_code 41 = .ok (.getfield 9, 3) := by decide +kernel
theorem d18_44 : decode jdk_42_method_66_code 44 = .ok (.invokestatic 541, 3) := by decide +kernel
theorem d18_47 : decode jdk_42_method_66_code 47 = .ok (.ifCond .eq 7, 3) := by decide +kernel
theorem d18_50 : decode jdk_42_method_66_code 50 = .ok (.iconst 1, 1) := by decide +kernel
theorem d18_51 : decode jdk_42_method_66_code 51 = .ok (.goto 4, 3) := by decide +kernel
theorem d18_55 : decode jdk_42_method_66_code 55 = .ok (.ireturn, 1) := by decide +kernel
theorem d19_0 : decode jdk_43_method_13_code 0 = .ok (.aload_n 0, 1) := by decide +kernel
theorem d19_1 : decode jdk_43_method_13_code 1 = .ok (.arraylength, 1) := by decide +kernel
theorem d19_2 : decode jdk_43_method_13_code 2 = .ok (.aload_n 1, 1) := by decide +kernel
theorem d19_3 : decode jdk_43_method_13_code 3 = .ok (.arraylength, 1) := by decide +kernel
theorem d19_4 : decode jdk_43_method_13_code 4 = .ok (.if_icmp .ne 30, 3) := by decide +kernel
theorem d19_7 : decode jdk_43_method_13_code 7 = .ok (.iconst 0, 1) := by decide +kernel
theorem d19_8 : decode jdk_43_method_13_code 8 = .ok (.istore_n 2, 1) := by decide +kernel
theorem d19_9 : decode jdk_43_method_13_code 9 = .ok (.iload_n 2, 1) := by decide +kernel
theorem d19_10 : decode jdk_43_method_13_code 10 = .ok (.aload_n 0, 1) := by decide +kernel
theorem d19_11 : decode jdk_43_method_13_code 11 = .ok (.arraylength, 1) := by decide +kernel
theorem d19_12 : decode jdk_43_method_13_code 12 = .ok (.if_icmp .ge 20, 3) := by decide +kernel
theorem d19_15 : decode jdk_43_method_13_code 15 = .ok (.aload_n 0, 1) := by decide +kernel
theorem d19_16 : decode jdk_43_method_13_code 16 = .ok (.iload_n 2, 1) := by decide +kernel
theorem d19_17 : decode jdk_43_method_13_code 17 = .ok (.baload, 1) := by decide +kernel
theorem d19_18 : decode jdk_43_method_13_code 18 = .ok (.aload_n 1, 1) := by decide +kernel
theorem d19_19 : decode jdk_43_method_13_code 19 = .ok (.iload_n 2, 1) := by decide +kernel
theorem d19_20 : decode jdk_43_method_13_code 20 = .ok (.baload, 1) := by decide +kernel
theorem d19_21 : decode jdk_43_method_13_code 21 = .ok (.if_icmp .eq 5, 3) := by decide +kernel
theorem d19_26 : decode jdk_43_method_13_code 26 = .ok (.iinc 2 1, 3) := by decide +kernel
theorem d19_29 : decode jdk_43_method_13_code 29 = .ok (.goto (-20), 3) := by decide +kernel
theorem d19_32 : decode jdk_43_method_13_code 32 = .ok (.iconst 1, 1) := by decide +kernel
theorem d19_33 : decode jdk_43_method_13_code 33 = .ok (.ireturn, 1) := by decide +kernel
theorem d20_0 : decode jdk_52_method_16_code 0 = .ok (.iload_n 2, 1) := by decide +kernel
theorem d20_1 : decode jdk_52_method_16_code 1 = .ok (.newarray .byte, 2) := by decide +kernel
theorem d20_3 : decode jdk_52_method_16_code 3 = .ok (.astore_n 3, 1) := by decide +kernel
theorem d20_4 : decode jdk_52_method_16_code 4 = .ok (.aload_n 0, 1) := by decide +kernel
theorem d20_5 : decode jdk_52_method_16_code 5 = .ok (.iload_n 1, 1) := by decide +kernel
theorem d20_6 : decode jdk_52_method_16_code 6 = .ok (.aload_n 3, 1) := by decide +kernel
theorem d20_7 : decode jdk_52_method_16_code 7 = .ok (.iconst 0, 1) := by decide +kernel
theorem d20_8 : decode jdk_52_method_16_code 8 = .ok (.iload_n 2, 1) := by decide +kernel
theorem d20_9 : decode jdk_52_method_16_code 9 = .ok (.invokestatic 115, 3) := by decide +kernel
theorem d20_12 : decode jdk_52_method_16_code 12 = .ok (.istore 4, 2) := by decide +kernel
theorem d20_14 : decode jdk_52_method_16_code 14 = .ok (.iload 4, 2) := by decide +kernel
theorem d20_16 : decode jdk_52_method_16_code 16 = .ok (.iload_n 2, 1) := by decide +kernel
theorem d20_17 : decode jdk_52_method_16_code 17 = .ok (.if_icmp .eq 40, 3) := by decide +kernel
theorem d20_20 : decode jdk_52_method_16_code 20 = .ok (.aload_n 0, 1) := by decide +kernel
theorem d20_21 : decode jdk_52_method_16_code 21 = .ok (.iload_n 1, 1) := by decide +kernel
theorem d20_22 : decode jdk_52_method_16_code 22 = .ok (.iload_n 2, 1) := by decide +kernel
theorem d20_23 : decode jdk_52_method_16_code 23 = .ok (.invokestatic 119, 3) := by decide +kernel
theorem d20_26 : decode jdk_52_method_16_code 26 = .ok (.astore 5, 2) := by decide +kernel
theorem d20_28 : decode jdk_52_method_16_code 28 = .ok (.aload 5, 2) := by decide +kernel
theorem d20_30 : decode jdk_52_method_16_code 30 = .ok (.iload 4, 2) := by decide +kernel
theorem d20_32 : decode jdk_52_method_16_code 32 = .ok (.invokestatic 71, 3) := by decide +kernel
theorem d20_35 : decode jdk_52_method_16_code 35 = .ok (.sipush 255, 3) := by decide +kernel
theorem d20_38 : decode jdk_52_method_16_code 38 = .ok (.if_icmp .gt 16, 3) := by decide +kernel
theorem d20_54 : decode jdk_52_method_16_code 54 = .ok (.aload 5, 2) := by decide +kernel
theorem d20_56 : decode jdk_52_method_16_code 56 = .ok (.areturn, 1) := by decide +kernel
theorem d20_57 : decode jdk_52_method_16_code 57 = .ok (.aload_n 3, 1) := by decide +kernel
theorem d20_58 : decode jdk_52_method_16_code 58 = .ok (.areturn, 1) := by decide +kernel
theorem d21_0 : decode jdk_52_method_21_code 0 = .ok (.iconst 0, 1) := by decide +kernel
theorem d21_1 : decode jdk_52_method_21_code 1 = .ok (.istore 5, 2) := by decide +kernel
theorem d21_3 : decode jdk_52_method_21_code 3 = .ok (.iload 5, 2) := by decide +kernel
theorem d21_5 : decode jdk_52_method_21_code 5 = .ok (.iload 4, 2) := by decide +kernel
theorem d21_7 : decode jdk_52_method_21_code 7 = .ok (.if_icmp .ge 37, 3) := by decide +kernel
theorem d21_10 : decode jdk_52_method_21_code 10 = .ok (.aload_n 0, 1) := by decide +kernel
theorem d21_11 : decode jdk_52_method_21_code 11 = .ok (.iload_n 1, 1) := by decide +kernel
theorem d21_12 : decode jdk_52_method_21_code 12 = .ok (.caload, 1) := by decide +kernel
theorem d21_13 : decode jdk_52_method_21_code 13 = .ok (.istore 6, 2) := by decide +kernel
theorem d21_15 : decode jdk_52_method_21_code 15 = .ok (.iload 6, 2) := by decide +kernel
theorem d21_17 : decode jdk_52_method_21_code 17 = .ok (.sipush 255, 3) := by decide +kernel
theorem d21_20 : decode jdk_52_method_21_code 20 = .ok (.if_icmp .le 6, 3) := by decide +kernel
theorem d21_23 : decode jdk_52_method_21_code 23 = .ok (.iload 5, 2) := by decide +kernel
theorem d21_25 : decode jdk_52_method_21_code 25 = .ok (.ireturn, 1) := by decide +kernel
theorem d21_26 : decode jdk_52_method_21_code 26 = .ok (.aload_n 2, 1) := by decide +kernel
theorem d21_27 : decode jdk_52_method_21_code 27 = .ok (.iload_n 3, 1) := by decide +kernel
theorem d21_28 : decode jdk_52_method_21_code 28 = .ok (.iload 6, 2) := by decide +kernel
theorem d21_30 : decode jdk_52_method_21_code 30 = .ok (.i2b, 1) := by decide +kernel
theorem d21_31 : decode jdk_52_method_21_code 31 = .ok (.bastore, 1) := by decide +kernel
theorem d21_32 : decode jdk_52_method_21_code 32 = .ok (.iinc 1 1, 3) := by decide +kernel
theorem d21_35 : decode jdk_52_method_21_code 35 = .ok (.iinc 3 1, 3) := by decide +kernel
theorem d21_38 : decode jdk_52_method_21_code 38 = .ok (.iinc 5 1, 3) := by decide +kernel
theorem d21_41 : decode jdk_52_method_21_code 41 = .ok (.goto (-38), 3) := by decide +kernel
theorem d21_44 : decode jdk_52_method_21_code 44 = .ok (.iload 4, 2) := by decide +kernel
theorem d21_46 : decode jdk_52_method_21_code 46 = .ok (.ireturn, 1) := by decide +kernel
theorem d22_0 : decode jdk_52_method_15_code 0 = .ok (.iload_n 1, 1) := by decide +kernel
theorem d22_1 : decode jdk_52_method_15_code 1 = .ok (.aload_n 0, 1) := by decide +kernel
theorem d22_2 : decode jdk_52_method_15_code 2 = .ok (.arraylength, 1) := by decide +kernel
theorem d22_3 : decode jdk_52_method_15_code 3 = .ok (.isub, 1) := by decide +kernel
theorem d22_4 : decode jdk_52_method_15_code 4 = .ok (.bipush 31, 2) := by decide +kernel
theorem d22_6 : decode jdk_52_method_15_code 6 = .ok (.iushr, 1) := by decide +kernel
theorem d22_7 : decode jdk_52_method_15_code 7 = .ok (.i2b, 1) := by decide +kernel
theorem d22_8 : decode jdk_52_method_15_code 8 = .ok (.ireturn, 1) := by decide +kernel
theorem d23_0 : decode jdk_43_method_47_code 0 = .ok (.iload_n 2, 1) := by decide +kernel
theorem d23_1 : decode jdk_43_method_47_code 1 = .ok (.ifCond .ne 6, 3) := by decide +kernel
theorem d23_4 : decode jdk_43_method_47_code 4 = .ok (.ldc 151, 2) := by decide +kernel
theorem d23_6 : decode jdk_43_method_47_code 6 = .ok (.areturn, 1) := by decide +kernel
theorem d23_7 : decode jdk_43_method_47_code 7 = .ok (.new 1, 3) := by decide +kernel
theorem d23_10 : decode jdk_43_method_47_code 10 = .ok (.dup, 1) := by decide +kernel
theorem d23_11 : decode jdk_43_method_47_code 11 = .ok (.aload_n 0, 1) := by decide +kernel
theorem d23_12 : decode jdk_43_method_47_code 12 = .ok (.iload_n 1, 1) := by decide +kernel
theorem d23_13 : decode jdk_43_method_47_code 13 = .ok (.iload_n 1, 1) := by decide +kernel
theorem d23_14 : decode jdk_43_method_47_code 14 = .ok (.iload_n 2, 1) := by decide +kernel
theorem d23_15 : decode jdk_43_method_47_code 15 = .ok (.iadd, 1) := by decide +kernel
theorem d23_16 : decode jdk_43_method_47_code 16 = .ok (.invokestatic 232, 3) := by decide +kernel
theorem d23_19 : decode jdk_43_method_47_code 19 = .ok (.iconst 0, 1) := by decide +kernel
theorem d23_20 : decode jdk_43_method_47_code 20 = .ok (.invokespecial 112, 3) := by decide +kernel
theorem d23_23 : decode jdk_43_method_47_code 23 = .ok (.areturn, 1) := by decide +kernel
theorem d24_0 : decode jdk_65_method_132_code 0 = .ok (.iload_n 1, 1) := by decide +kernel
theorem d24_1 : decode jdk_65_method_132_code 1 = .ok (.ifCond .ne 9, 3) := by decide +kernel
theorem d24_4 : decode jdk_65_method_132_code 4 = .ok (.iload_n 2, 1) := by decide +kernel
theorem d24_5 : decode jdk_65_method_132_code 5 = .ok (.aload_n 0, 1) := by decide +kernel
theorem d24_6 : decode jdk_65_method_132_code 6 = .ok (.arraylength, 1) := by decide +kernel
theorem d24_7 : decode jdk_65_method_132_code 7 = .ok (.if_icmp .eq 10, 3) := by decide +kernel
theorem d24_10 : decode jdk_65_method_132_code 10 = .ok (.aload_n 0, 1) := by decide +kernel
theorem d24_11 : decode jdk_65_method_132_code 11 = .ok (.iload_n 1, 1) := by decide +kernel
theorem d24_12 : decode jdk_65_method_132_code 12 = .ok (.iload_n 2, 1) := by decide +kernel
theorem d24_13 : decode jdk_65_method_132_code 13 = .ok (.invokestatic 339, 3) := by decide +kernel
theorem d24_16 : decode jdk_65_method_132_code 16 = .ok (.areturn, 1) := by decide +kernel
theorem d25_0 : decode jdk_65_method_133_code 0 = .ok (.iload_n 1, 1) := by decide +kernel
theorem d25_1 : decode jdk_65_method_133_code 1 = .ok (.iload_n 2, 1) := by decide +kernel
theorem d25_2 : decode jdk_65_method_133_code 2 = .ok (.invokestatic 343, 3) := by decide +kernel
theorem d25_5 : decode jdk_65_method_133_code 5 = .ok (.iload_n 2, 1) := by decide +kernel
theorem d25_6 : decode jdk_65_method_133_code 6 = .ok (.iload_n 1, 1) := by decide +kernel
theorem d25_7 : decode jdk_65_method_133_code 7 = .ok (.isub, 1) := by decide +kernel
theorem d25_8 : decode jdk_65_method_133_code 8 = .ok (.istore_n 3, 1) := by decide +kernel
theorem d25_9 : decode jdk_65_method_133_code 9 = .ok (.iload_n 3, 1) := by decide +kernel
theorem d25_10 : decode jdk_65_method_133_code 10 = .ok (.newarray .byte, 2) := by decide +kernel
theorem d25_12 : decode jdk_65_method_133_code 12 = .ok (.astore 4, 2) := by decide +kernel
theorem d25_14 : decode jdk_65_method_133_code 14 = .ok (.aload_n 0, 1) := by decide +kernel
theorem d25_15 : decode jdk_65_method_133_code 15 = .ok (.iload_n 1, 1) := by decide +kernel
theorem d25_16 : decode jdk_65_method_133_code 16 = .ok (.aload 4, 2) := by decide +kernel
theorem d25_18 : decode jdk_65_method_133_code 18 = .ok (.iconst 0, 1) := by decide +kernel
theorem d25_19 : decode jdk_65_method_133_code 19 = .ok (.aload_n 0, 1) := by decide +kernel
theorem d25_20 : decode jdk_65_method_133_code 20 = .ok (.arraylength, 1) := by decide +kernel
theorem d25_21 : decode jdk_65_method_133_code 21 = .ok (.iload_n 1, 1) := by decide +kernel
theorem d25_22 : decode jdk_65_method_133_code 22 = .ok (.isub, 1) := by decide +kernel
theorem d25_23 : decode jdk_65_method_133_code 23 = .ok (.iload_n 3, 1) := by decide +kernel
theorem d25_24 : decode jdk_65_method_133_code 24 = .ok (.invokestatic 304, 3) := by decide +kernel
theorem d25_27 : decode jdk_65_method_133_code 27 = .ok (.invokestatic 150, 3) := by decide +kernel
theorem d25_30 : decode jdk_65_method_133_code 30 = .ok (.aload 4, 2) := by decide +kernel
theorem d25_32 : decode jdk_65_method_133_code 32 = .ok (.areturn, 1) := by decide +kernel
theorem d26_0 : decode jdk_65_method_131_code 0 = .ok (.iload_n 1, 1) := by decide +kernel
theorem d26_1 : decode jdk_65_method_131_code 1 = .ok (.iload_n 0, 1) := by decide +kernel
theorem d26_2 : decode jdk_65_method_131_code 2 = .ok (.if_icmp .ge 35, 3) := by decide +kernel
theorem d26_37 : decode jdk_65_method_131_code 37 = .ok (.return_, 1) := by decide +kernel
theorem d27_0 : decode jdk_42_method_151_code 0 = .ok (.aload_n 0, 1) := by decide +kernel
theorem d27_1 : decode jdk_42_method_151_code 1 = .ok (.invokespecial 1, 3) := by decide +kernel
theorem d27_4 : decode jdk_42_method_151_code 4 = .ok (.aload_n 0, 1) := by decide +kernel
theorem d27_5 : decode jdk_42_method_151_code 5 = .ok (.aload_n 1, 1) := by decide +kernel
theorem d27_6 : decode jdk_42_method_151_code 6 = .ok (.putfield 9, 3) := by decide +kernel
theorem d27_9 : decode jdk_42_method_151_code 9 = .ok (.aload_n 0, 1) := by decide +kernel
theorem d27_10 : decode jdk_42_method_151_code 10 = .ok (.iload_n 2, 1) := by decide +kernel
theorem d27_11 : decode jdk_42_method_151_code 11 = .ok (.putfield 15, 3) := by decide +kernel
theorem d27_14 : decode jdk_42_method_151_code 14 = .ok (.return_, 1) := by decide +kernel
theorem d28_0 : decode jdk_52_method_14_code 0 = .ok (.iload_n 2, 1) := by decide +kernel
theorem d28_1 : decode jdk_52_method_14_code 1 = .ok (.invokestatic 107, 3) := by decide +kernel
theorem d28_4 : decode jdk_52_method_14_code 4 = .ok (.astore_n 3, 1) := by decide +kernel
theorem d28_5 : decode jdk_52_method_14_code 5 = .ok (.iconst 0, 1) := by decide +kernel
theorem d28_6 : decode jdk_52_method_14_code 6 = .ok (.istore 4, 2) := by decide +kernel
theorem d28_8 : decode jdk_52_method_14_code 8 = .ok (.iload 4, 2) := by decide +kernel
theorem d28_10 : decode jdk_52_method_14_code 10 = .ok (.iload_n 2, 1) := by decide +kernel
theorem d28_11 : decode jdk_52_method_14_code 11 = .ok (.if_icmp .ge 21, 3) := by decide +kernel
theorem d28_14 : decode jdk_52_method_14_code 14 = .ok (.aload_n 3, 1) := by decide +kernel
theorem d28_15 : decode jdk_52_method_14_code 15 = .ok (.iload 4, 2) := by decide +kernel
theorem d28_17 : decode jdk_52_method_14_code 17 = .ok (.aload_n 0, 1) := by decide +kernel
theorem d28_18 : decode jdk_52_method_14_code 18 = .ok (.iload_n 1, 1) := by decide +kernel
theorem d28_19 : decode jdk_52_method_14_code 19 = .ok (.caload, 1) := by decide +kernel
theorem d28_20 : decode jdk_52_method_14_code 20 = .ok (.invokestatic 111, 3) := by decide +kernel
theorem d28_23 : decode jdk_52_method_14_code 23 = .ok (.iinc 1 1, 3) := by decide +kernel
theorem d28_26 : decode jdk_52_method_14_code 26 = .ok (.iinc 4 1, 3) := by decide +kernel
theorem d28_29 : decode jdk_52_method_14_code 29 = .ok (.goto (-21), 3) := by decide +kernel
theorem d28_32 : decode jdk_52_method_14_code 32 = .ok (.aload_n 3, 1) := by decide +kernel
theorem d28_33 : decode jdk_52_method_14_code 33 = .ok (.areturn, 1) := by decide +kernel
theorem d29_0 : decode jdk_52_method_2_code 0 = .ok (.iload_n 0, 1) := by decide +kernel
theorem d29_1 : decode jdk_52_method_2_code 1 = .ok (.invokestatic 11, 3) := by decide +kernel
theorem d29_4 : decode jdk_52_method_2_code 4 = .ok (.newarray .byte, 2) := by decide +kernel
theorem d29_6 : decode jdk_52_method_2_code 6 = .ok (.areturn, 1) := by decide +kernel
theorem d30_0 : decode jdk_52_method_3_code 0 = .ok (.iload_n 0, 1) := by decide +kernel
theorem d30_1 : decode jdk_52_method_3_code 1 = .ok (.ifCond .ge 11, 3) := by decide +kernel
theorem d30_12 : decode jdk_52_method_3_code 12 = .ok (.iload_n 0, 1) := by decide +kernel
theorem d30_13 : decode jdk_52_method_3_code 13 = .ok (.ldc 20, 2) := by decide +kernel
theorem d30_15 : decode jdk_52_method_3_code 15 = .ok (.if_icmp .lt 40, 3) := by decide +kernel
theorem d30_55 : decode jdk_52_method_3_code 55 = .ok (.iload_n 0, 1) := by decide +kernel
theorem d30_56 : decode jdk_52_method_3_code 56 = .ok (.iconst 1, 1) := by decide +kernel
theorem d30_57 : decode jdk_52_method_3_code 57 = .ok (.ishl, 1) := by decide +kernel
theorem d30_58 : decode jdk_52_method_3_code 58 = .ok (.ireturn, 1) := by decide +kernel
theorem d31_0 : decode jdk_52_method_4_code 0 = .ok (.getstatic 44, 3) := by decide +kernel
theorem d31_3 : decode jdk_52_method_4_code 3 = .ok (.ifCond .ne 25, 3) := by decide +kernel
theorem d31_28 : decode jdk_52_method_4_code 28 = .ok (.iload_n 1, 1) := by decide +kernel
theorem d31_29 : decode jdk_52_method_4_code 29 = .ok (.iconst 1, 1) := by decide +kernel
theorem d31_30 : decode jdk_52_method_4_code 30 = .ok (.ishl, 1) := by decide +kernel
theorem d31_31 : decode jdk_52_method_4_code 31 = .ok (.istore_n 1, 1) := by decide +kernel
theorem d31_32 : decode jdk_52_method_4_code 32 = .ok (.aload_n 0, 1) := by decide +kernel
theorem d31_33 : decode jdk_52_method_4_code 33 = .ok (.iload_n 1, 1) := by decide +kernel
theorem d31_34 : decode jdk_52_method_4_code 34 = .ok (.iinc 1 1, 3) := by decide +kernel
theorem d31_37 : decode jdk_52_method_4_code 37 = .ok (.iload_n 2, 1) := by decide +kernel
theorem d31_38 : decode jdk_52_method_4_code 38 = .ok (.getstatic 59, 3) := by decide +kernel
theorem d31_41 : decode jdk_52_method_4_code 41 = .ok (.ishr, 1) := by decide +kernel
theorem d31_42 : decode jdk_52_method_4_code 42 = .ok (.i2b, 1) := by decide +kernel
theorem d31_43 : decode jdk_52_method_4_code 43 = .ok (.bastore, 1) := by decide +kernel
theorem d31_44 : decode jdk_52_method_4_code 44 = .ok (.aload_n 0, 1) := by decide +kernel
theorem d31_45 : decode jdk_52_method_4_code 45 = .ok (.iload_n 1, 1) := by decide +kernel
theorem d31_46 : decode jdk_52_method_4_code 46 = .ok (.iload_n 2, 1) := by decide +kernel
theorem d31_47 : decode jdk_52_method_4_code 47 = .ok (.getstatic 63, 3) := by decide +kernel
theorem d31_50 : decode jdk_52_method_4_code 50 = .ok (.ishr, 1) := by decide +kernel
theorem d31_51 : decode jdk_52_method_4_code 51 = .ok (.i2b, 1) := by decide +kernel
theorem d31_52 : decode jdk_52_method_4_code 52 = .ok (.bastore, 1) := by decide +kernel
theorem d31_53 : decode jdk_52_method_4_code 53 = .ok (.return_, 1) := by decide +kernel
theorem d32_0 : decode jdk_52_method_5_code 0 = .ok (.getstatic 44, 3) := by decide +kernel
theorem d32_3 : decode jdk_52_method_5_code 3 = .ok (.ifCond .ne 25, 3) := by decide +kernel
theorem d32_28 : decode jdk_52_method_5_code 28 = .ok (.iload_n 1, 1) := by decide +kernel
theorem d32_29 : decode jdk_52_method_5_code 29 = .ok (.iconst 1, 1) := by decide +kernel
theorem d32_30 : decode jdk_52_method_5_code 30 = .ok (.ishl, 1) := by decide +kernel
theorem d32_31 : decode jdk_52_method_5_code 31 = .ok (.istore_n 1, 1) := by decide +kernel
theorem d32_32 : decode jdk_52_method_5_code 32 = .ok (.aload_n 0, 1) := by decide +kernel
theorem d32_33 : decode jdk_52_method_5_code 33 = .ok (.iload_n 1, 1) := by decide +kernel
theorem d32_34 : decode jdk_52_method_5_code 34 = .ok (.iinc 1 1, 3) := by decide +kernel
theorem d32_37 : decode jdk_52_method_5_code 37 = .ok (.baload, 1) := by decide +kernel
theorem d32_38 : decode jdk_52_method_5_code 38 = .ok (.sipush 255, 3) := by decide +kernel
theorem d32_41 : decode jdk_52_method_5_code 41 = .ok (.iand, 1) := by decide +kernel
theorem d32_42 : decode jdk_52_method_5_code 42 = .ok (.getstatic 59, 3) := by decide +kernel
theorem d32_45 : decode jdk_52_method_5_code 45 = .ok (.ishl, 1) := by decide +kernel
theorem d32_46 : decode jdk_52_method_5_code 46 = .ok (.aload_n 0, 1) := by decide +kernel
theorem d32_47 : decode jdk_52_method_5_code 47 = .ok (.iload_n 1, 1) := by decide +kernel
theorem d32_48 : decode jdk_52_method_5_code 48 = .ok (.baload, 1) := by decide +kernel
theorem d32_49 : decode jdk_52_method_5_code 49 = .ok (.sipush 255, 3) := by decide +kernel
theorem d32_52 : decode jdk_52_method_5_code 52 = .ok (.iand, 1) := by decide +kernel
theorem d32_53 : decode jdk_52_method_5_code 53 = .ok (.getstatic 63, 3) := by decide +kernel
theorem d32_56 : decode jdk_52_method_5_code 56 = .ok (.ishl, 1) := by decide +kernel
theorem d32_57 : decode jdk_52_method_5_code 57 = .ok (.ior, 1) := by decide +kernel
theorem d32_58 : decode jdk_52_method_5_code 58 = .ok (.i2c, 1) := by decide +kernel
theorem d32_59 : decode jdk_52_method_5_code 59 = .ok (.ireturn, 1) := by decide +kernel
theorem d33_0 : decode jdk_52_method_51_code 0 = .ok (.iload_n 1, 1) := by decide +kernel
theorem d33_1 : decode jdk_52_method_51_code 1 = .ok (.ldc 227, 2) := by decide +kernel
theorem d33_3 : decode jdk_52_method_51_code 3 = .ok (.if_icmp .ge 37, 3) := by decide +kernel
theorem d33_6 : decode jdk_52_method_51_code 6 = .ok (.iload_n 2, 1) := by decide +kernel
theorem d33_7 : decode jdk_52_method_51_code 7 = .ok (.aload_n 0, 1) := by decide +kernel
theorem d33_8 : decode jdk_52_method_51_code 8 = .ok (.arraylength, 1) := by decide +kernel
theorem d33_9 : decode jdk_52_method_51_code 9 = .ok (.iconst 1, 1) := by decide +kernel
theorem d33_10 : decode jdk_52_method_51_code 10 = .ok (.ishr, 1) := by decide +kernel
theorem d33_11 : decode jdk_52_method_51_code 11 = .ok (.iconst 1, 1) := by decide +kernel
theorem d33_12 : decode jdk_52_method_51_code 12 = .ok (.isub, 1) := by decide +kernel
theorem d33_13 : decode jdk_52_method_51_code 13 = .ok (.invokestatic 183, 3) := by decide +kernel
theorem d33_16 : decode jdk_52_method_51_code 16 = .ok (.istore_n 3, 1) := by decide +kernel
theorem d33_17 : decode jdk_52_method_51_code 17 = .ok (.iload_n 3, 1) := by decide +kernel
theorem d33_18 : decode jdk_52_method_51_code 18 = .ok (.ifCond .lt 20, 3) := by decide +kernel
theorem d33_21 : decode jdk_52_method_51_code 21 = .ok (.aload_n 0, 1) := by decide +kernel
theorem d33_22 : decode jdk_52_method_51_code 22 = .ok (.iload_n 3, 1) := by decide +kernel
theorem d33_23 : decode jdk_52_method_51_code 23 = .ok (.invokestatic 71, 3) := by decide +kernel
theorem d33_26 : decode jdk_52_method_51_code 26 = .ok (.iload_n 1, 1) := by decide +kernel
theorem d33_27 : decode jdk_52_method_51_code 27 = .ok (.if_icmp .ne 5, 3) := by decide +kernel
theorem d33_30 : decode jdk_52_method_51_code 30 = .ok (.iload_n 3, 1) := by decide +kernel
theorem d33_31 : decode jdk_52_method_51_code 31 = .ok (.ireturn, 1) := by decide +kernel
theorem d33_32 : decode jdk_52_method_51_code 32 = .ok (.iinc 3 (-1), 3) := by decide +kernel
theorem d33_35 : decode jdk_52_method_51_code 35 = .ok (.goto (-18), 3) := by decide +kernel
theorem d33_38 : decode jdk_52_method_51_code 38 = .ok (.iconst (-1), 1) := by decide +kernel
theorem d33_39 : decode jdk_52_method_51_code 39 = .ok (.ireturn, 1) := by decide +kernel
theorem d34_0 : decode jdk_52_method_69_code 0 = .ok (.iload_n 2, 1) := by decide +kernel
theorem d34_1 : decode jdk_52_method_69_code 1 = .ok (.ifCond .ne 7, 3) := by decide +kernel
theorem d34_4 : decode jdk_52_method_69_code 4 = .ok (.ldc_w 295, 3) := by decide +kernel
theorem d34_7 : decode jdk_52_method_69_code 7 = .ok (.areturn, 1) := by decide +kernel
theorem d34_8 : decode jdk_52_method_69_code 8 = .ok (.getstatic 251, 3) := by decide +kernel
theorem d34_11 : decode jdk_52_method_69_code 11 = .ok (.ifCond .eq 28, 3) := by decide +kernel
theorem d34_14 : decode jdk_52_method_69_code 14 = .ok (.aload_n 0, 1) := by decide +kernel
theorem d34_15 : decode jdk_52_method_69_code 15 = .ok (.iload_n 1, 1) := by decide +kernel
theorem d34_16 : decode jdk_52_method_69_code 16 = .ok (.iload_n 2, 1) := by decide +kernel
theorem d34_17 : decode jdk_52_method_69_code 17 = .ok (.invokestatic 257, 3) := by decide +kernel
theorem d34_20 : decode jdk_52_method_69_code 20 = .ok (.astore_n 3, 1) := by decide +kernel
theorem d34_21 : decode jdk_52_method_69_code 21 = .ok (.aload_n 3, 1) := by decide +kernel
theorem d34_22 : decode jdk_52_method_69_code 22 = .ok (.iload_n 2, 1) := by decide +kernel
theorem d34_23 : decode jdk_52_method_69_code 23 = .ok (.invokestatic 259, 3) := by decide +kernel
theorem d34_26 : decode jdk_52_method_69_code 26 = .ok (.istore 4, 2) := by decide +kernel
theorem d34_28 : decode jdk_52_method_69_code 28 = .ok (.new 3, 3) := by decide +kernel
theorem d34_31 : decode jdk_52_method_69_code 31 = .ok (.dup, 1) := by decide +kernel
theorem d34_32 : decode jdk_52_method_69_code 32 = .ok (.aload_n 3, 1) := by decide +kernel
theorem d34_33 : decode jdk_52_method_69_code 33 = .ok (.iload 4, 2) := by decide +kernel
theorem d34_35 : decode jdk_52_method_69_code 35 = .ok (.invokespecial 263, 3) := by decide +kernel
theorem d34_38 : decode jdk_52_method_69_code 38 = .ok (.areturn, 1) := by decide +kernel
theorem d35_0 : decode jdk_52_method_17_code 0 = .ok (.iload_n 2, 1) := by decide +kernel
theorem d35_1 : decode jdk_52_method_17_code 1 = .ok (.newarray .byte, 2) := by decide +kernel
theorem d35_3 : decode jdk_52_method_17_code 3 = .ok (.astore_n 3, 1) := by decide +kernel
theorem d35_4 : decode jdk_52_method_17_code 4 = .ok (.aload_n 0, 1) := by decide +kernel
theorem d35_5 : decode jdk_52_method_17_code 5 = .ok (.iload_n 1, 1) := by decide +kernel
theorem d35_6 : decode jdk_52_method_17_code 6 = .ok (.aload_n 3, 1) := by decide +kernel
theorem d35_7 : decode jdk_52_method_17_code 7 = .ok (.iconst 0, 1) := by decide +kernel
theorem d35_8 : decode jdk_52_method_17_code 8 = .ok (.iload_n 2, 1) := by decide +kernel
theorem d35_9 : decode jdk_52_method_17_code 9 = .ok (.invokestatic 123, 3) := by decide +kernel
theorem d35_12 : decode jdk_52_method_17_code 12 = .ok (.istore 4, 2) := by decide +kernel
theorem d35_14 : decode jdk_52_method_17_code 14 = .ok (.iload 4, 2) := by decide +kernel
theorem d35_16 : decode jdk_52_method_17_code 16 = .ok (.iload_n 2, 1) := by decide +kernel
theorem d35_17 : decode jdk_52_method_17_code 17 = .ok (.if_icmp .eq 47, 3) := by decide +kernel
theorem d35_20 : decode jdk_52_method_17_code 20 = .ok (.aload_n 0, 1) := by decide +kernel
theorem d35_21 : decode jdk_52_method_17_code 21 = .ok (.iload_n 1, 1) := by decide +kernel
theorem d35_22 : decode jdk_52_method_17_code 22 = .ok (.iconst 1, 1) := by decide +kernel
theorem d35_23 : decode jdk_52_method_17_code 23 = .ok (.ishl, 1) := by decide +kernel
theorem d35_24 : decode jdk_52_method_17_code 24 = .ok (.iload_n 1, 1) := by decide +kernel
theorem d35_25 : decode jdk_52_method_17_code 25 = .ok (.iload_n 2, 1) := by decide +kernel
theorem d35_26 : decode jdk_52_method_17_code 26 = .ok (.iadd, 1) := by decide +kernel
theorem d35_27 : decode jdk_52_method_17_code 27 = .ok (.invokestatic 11, 3) := by decide +kernel
theorem d35_30 : decode jdk_52_method_17_code 30 = .ok (.invokestatic 126, 3) := by decide +kernel
theorem d35_33 : decode jdk_52_method_17_code 33 = .ok (.astore 5, 2) := by decide +kernel
theorem d35_35 : decode jdk_52_method_17_code 35 = .ok (.aload 5, 2) := by decide +kernel
theorem d35_37 : decode jdk_52_method_17_code 37 = .ok (.iload 4, 2) := by decide +kernel
theorem d35_39 : decode jdk_52_method_17_code 39 = .ok (.invokestatic 71, 3) := by decide +kernel
theorem d35_42 : decode jdk_52_method_17_code 42 = .ok (.sipush 255, 3) := by decide +kernel
theorem d35_45 : decode jdk_52_method_17_code 45 = .ok (.if_icmp .gt 16, 3) := by decide +kernel
theorem d35_61 : decode jdk_52_method_17_code 61 = .ok (.aload 5, 2) := by decide +kernel
theorem d35_63 : decode jdk_52_method_17_code 63 = .ok (.areturn, 1) := by decide +kernel
theorem d35_64 : decode jdk_52_method_17_code 64 = .ok (.aload_n 3, 1) := by decide +kernel
theorem d35_65 : decode jdk_52_method_17_code 65 = .ok (.areturn, 1) := by decide +kernel
theorem d36_0 : decode jdk_52_method_22_code 0 = .ok (.iload_n 1, 1) := by decide +kernel
theorem d36_1 : decode jdk_52_method_22_code 1 = .ok (.iload 4, 2) := by decide +kernel
theorem d36_3 : decode jdk_52_method_22_code 3 = .ok (.aload_n 0, 1) := by decide +kernel
theorem d36_4 : decode jdk_52_method_22_code 4 = .ok (.invokestatic 173, 3) := by decide +kernel
theorem d36_7 : decode jdk_52_method_22_code 7 = .ok (.iconst 0, 1) := by decide +kernel
theorem d36_8 : decode jdk_52_method_22_code 8 = .ok (.istore 5, 2) := by decide +kernel
theorem d36_10 : decode jdk_52_method_22_code 10 = .ok (.iload 5, 2) := by decide +kernel
theorem d36_12 : decode jdk_52_method_22_code 12 = .ok (.iload 4, 2) := by decide +kernel
theorem d36_14 : decode jdk_52_method_22_code 14 = .ok (.if_icmp .ge 39, 3) := by decide +kernel
theorem d36_17 : decode jdk_52_method_22_code 17 = .ok (.aload_n 0, 1) := by decide +kernel
theorem d36_18 : decode jdk_52_method_22_code 18 = .ok (.iload_n 1, 1) := by decide +kernel
theorem d36_19 : decode jdk_52_method_22_code 19 = .ok (.invokestatic 71, 3) := by decide +kernel
theorem d36_22 : decode jdk_52_method_22_code 22 = .ok (.istore 6, 2) := by decide +kernel
theorem d36_24 : decode jdk_52_method_22_code 24 = .ok (.iload 6, 2) := by decide +kernel
theorem d36_26 : decode jdk_52_method_22_code 26 = .ok (.sipush 255, 3) := by decide +kernel
theorem d36_29 : decode jdk_52_method_22_code 29 = .ok (.if_icmp .le 6, 3) := by decide +kernel
theorem d36_32 : decode jdk_52_method_22_code 32 = .ok (.iload 5, 2) := by decide +kernel
theorem d36_34 : decode jdk_52_method_22_code 34 = .ok (.ireturn, 1) := by decide +kernel
theorem d36_35 : decode jdk_52_method_22_code 35 = .ok (.aload_n 2, 1) := by decide +kernel
theorem d36_36 : decode jdk_52_method_22_code 36 = .ok (.iload_n 3, 1) := by decide +kernel
theorem d36_37 : decode jdk_52_method_22_code 37 = .ok (.iload 6, 2) := by decide +kernel
theorem d36_39 : decode jdk_52_method_22_code 39 = .ok (.i2b, 1) := by decide +kernel
theorem d36_40 : decode jdk_52_method_22_code 40 = .ok (.bastore, 1) := by decide +kernel
theorem d36_41 : decode jdk_52_method_22_code 41 = .ok (.iinc 1 1, 3) := by decide +kernel
theorem d36_44 : decode jdk_52_method_22_code 44 = .ok (.iinc 3 1, 3) := by decide +kernel
theorem d36_47 : decode jdk_52_method_22_code 47 = .ok (.iinc 5 1, 3) := by decide +kernel
theorem d36_50 : decode jdk_52_method_22_code 50 = .ok (.goto (-40), 3) := by decide +kernel
theorem d36_53 : decode jdk_52_method_22_code 53 = .ok (.iload 4, 2) := by decide +kernel
theorem d36_55 : decode jdk_52_method_22_code 55 = .ok (.ireturn, 1) := by decide +kernel
theorem d37_0 : decode jdk_52_method_94_code 0 = .ok (.iload_n 0, 1) := by decide +kernel
theorem d37_1 : decode jdk_52_method_94_code 1 = .ok (.iload_n 1, 1) := by decide +kernel
theorem d37_2 : decode jdk_52_method_94_code 2 = .ok (.aload_n 2, 1) := by decide +kernel
theorem d37_3 : decode jdk_52_method_94_code 3 = .ok (.invokestatic 48, 3) := by decide +kernel
theorem d37_6 : decode jdk_52_method_94_code 6 = .ok (.invokestatic 419, 3) := by decide +kernel
theorem d37_9 : decode jdk_52_method_94_code 9 = .ok (.pop, 1) := by decide +kernel
theorem d37_10 : decode jdk_52_method_94_code 10 = .ok (.return_, 1) := by decide +kernel
theorem d38_0 : decode jdk_52_method_6_code 0 = .ok (.aload_n 0, 1) := by decide +kernel
theorem d38_1 : decode jdk_52_method_6_code 1 = .ok (.arraylength, 1) := by decide +kernel
theorem d38_2 : decode jdk_52_method_6_code 2 = .ok (.iconst 1, 1) := by decide +kernel
theorem d38_3 : decode jdk_52_method_6_code 3 = .ok (.ishr, 1) := by decide +kernel
theorem d38_4 : decode jdk_52_method_6_code 4 = .ok (.ireturn, 1) := by decide +kernel
theorem d39_0 : decode jdk_42_method_157_code 0 = .ok (.iload_n 0, 1) := by decide +kernel
theorem d39_1 : decode jdk_42_method_157_code 1 = .ok (.iload_n 1, 1) := by decide +kernel
theorem d39_2 : decode jdk_42_method_157_code 2 = .ok (.iload_n 2, 1) := by decide +kernel
theorem d39_3 : decode jdk_42_method_157_code 3 = .ok (.getstatic 1053, 3) := by decide +kernel
theorem d39_6 : decode jdk_42_method_157_code 6 = .ok (.invokestatic 1065, 3) := by decide +kernel
theorem d39_9 : decode jdk_42_method_157_code 9 = .ok (.ireturn, 1) := by decide +kernel
theorem d40_0 : decode jdk_41_method_13_code 0 = .ok (.iload_n 2, 1) := by decide +kernel
theorem d40_1 : decode jdk_41_method_13_code 1 = .ok (.iload_n 0, 1) := by decide +kernel
theorem d40_2 : decode jdk_41_method_13_code 2 = .ok (.ior, 1) := by decide +kernel
theorem d40_3 : decode jdk_41_method_13_code 3 = .ok (.iload_n 1, 1) := by decide +kernel
theorem d40_4 : decode jdk_41_method_13_code 4 = .ok (.ior, 1) := by decide +kernel
theorem d40_5 : decode jdk_41_method_13_code 5 = .ok (.ifCond .lt 10, 3) := by decide +kernel
theorem d40_8 : decode jdk_41_method_13_code 8 = .ok (.iload_n 1, 1) := by decide +kernel
theorem d40_9 : decode jdk_41_method_13_code 9 = .ok (.iload_n 2, 1) := by decide +kernel
theorem d40_10 : decode jdk_41_method_13_code 10 = .ok (.iload_n 0, 1) := by decide +kernel
theorem d40_11 : decode jdk_41_method_13_code 11 = .ok (.isub, 1) := by decide +kernel
theorem d40_12 : decode jdk_41_method_13_code 12 = .ok (.if_icmp .le 11, 3) := by decide +kernel
theorem d40_23 : decode jdk_41_method_13_code 23 = .ok (.iload_n 0, 1) := by decide +kernel
theorem d40_24 : decode jdk_41_method_13_code 24 = .ok (.ireturn, 1) := by decide +kernel
theorem pn_com_example_tympan_tympan_xjdf_XjdfPackageFolderPinLaw : plainName "com/example/tympan/tympan/xjdf/XjdfPackageFolderPinLaw" = true := by first | (simp [plainName, overriddenIn]; done) | decide +kernel
theorem pn_java_lang_String : plainName "java/lang/String" = true := by first | (simp [plainName, overriddenIn]; done) | decide +kernel
theorem pn_com_example_tympan_tympan_xjdf_XjdfPackage : plainName "com/example/tympan/tympan/xjdf/XjdfPackage" = true := by first | (simp [plainName, overriddenIn]; done) | decide +kernel
theorem pn_java_lang_StringLatin1 : plainName "java/lang/StringLatin1" = true := by first | (simp [plainName, overriddenIn]; done) | decide +kernel
theorem pn_jdk_internal_util_Preconditions : plainName "jdk/internal/util/Preconditions" = true := by first | (simp [plainName, overriddenIn]; done) | decide +kernel
theorem pn_java_lang_StringUTF16 : plainName "java/lang/StringUTF16" = true := by first | (simp [plainName, overriddenIn]; done) | decide +kernel
theorem pn_java_util_Arrays : plainName "java/util/Arrays" = true := by first | (simp [plainName, overriddenIn]; done) | decide +kernel
theorem pd_0 : parseMethodDescriptor "(I)I" = some ⟨[.int], some .int⟩ := by decide +kernel
theorem pd_1 : parseMethodDescriptor "([BII)V" = some ⟨[(.array .byte), .int, .int], none⟩ := by decide +kernel
theorem pd_2 : parseMethodDescriptor "(I)[B" = some ⟨[.int], some (.array .byte)⟩ := by decide +kernel
theorem pd_3 : parseMethodDescriptor "([CI[BII)I" = some ⟨[(.array .char), .int, (.array .byte), .int, .int], some .int⟩ := by decide +kernel
theorem pd_4 : parseMethodDescriptor "([CII)[B" = some ⟨[(.array .char), .int, .int], some (.array .byte)⟩ := by decide +kernel
theorem pd_5 : parseMethodDescriptor "([BI)C" = some ⟨[(.array .byte), .int], some .char⟩ := by decide +kernel
theorem pd_6 : parseMethodDescriptor "([BI)B" = some ⟨[(.array .byte), .int], some .byte⟩ := by decide +kernel
theorem pd_7 : parseMethodDescriptor "([CIILjava/lang/Void;)V" = some ⟨[(.array .char), .int, .int, (.object "java/lang/Void")], none⟩ := by decide +kernel
theorem pd_8 : parseMethodDescriptor "()B" = some ⟨[], some .byte⟩ := by decide +kernel
theorem pd_9 : parseMethodDescriptor "([C)V" = some ⟨[(.array .char)], none⟩ := by decide +kernel
theorem pd_10 : parseMethodDescriptor "(I)Z" = some ⟨[.int], some .boolean⟩ := by decide +kernel
theorem pd_11 : parseMethodDescriptor "(II)I" = some ⟨[.int, .int], some .int⟩ := by decide +kernel
theorem pd_12 : parseMethodDescriptor "()Z" = some ⟨[], some .boolean⟩ := by decide +kernel
theorem pd_13 : parseMethodDescriptor "([BII)I" = some ⟨[(.array .byte), .int, .int], some .int⟩ := by decide +kernel
theorem pd_14 : parseMethodDescriptor "()I" = some ⟨[], some .int⟩ := by decide +kernel
theorem pd_15 : parseMethodDescriptor "(IIILjava/util/function/BiFunction;)I" = some ⟨[.int, .int, .int, (.object "java/util/function/BiFunction")], some .int⟩ := by decide +kernel
theorem pd_16 : parseMethodDescriptor "([B)I" = some ⟨[(.array .byte)], some .int⟩ := by decide +kernel
theorem pd_17 : parseMethodDescriptor "(III)I" = some ⟨[.int, .int, .int], some .int⟩ := by decide +kernel
theorem pd_18 : parseMethodDescriptor "(II)V" = some ⟨[.int, .int], none⟩ := by decide +kernel
theorem pd_19 : parseMethodDescriptor "([BII)[B" = some ⟨[(.array .byte), .int, .int], some (.array .byte)⟩ := by decide +kernel
theorem pd_20 : parseMethodDescriptor "(II[B)V" = some ⟨[.int, .int, (.array .byte)], none⟩ := by decide +kernel
theorem pd_21 : parseMethodDescriptor "([BI[BII)I" = some ⟨[(.array .byte), .int, (.array .byte), .int, .int], some .int⟩ := by decide +kernel
theorem pd_22 : parseMethodDescriptor "([BB)V" = some ⟨[(.array .byte), .byte], none⟩ := by decide +kernel
theorem pd_23 : parseMethodDescriptor "(III)V" = some ⟨[.int, .int, .int], none⟩ := by decide +kernel
theorem pd_24 : parseMethodDescriptor "([BII)Ljava/lang/String;" = some ⟨[(.array .byte), .int, .int], some (.object "java/lang/String")⟩ := by decide +kernel
theorem pd_25 : parseMethodDescriptor "(II)Ljava/lang/String;" = some ⟨[.int, .int], some (.object "java/lang/String")⟩ := by decide +kernel
theorem pd_26 : parseMethodDescriptor "([B[B)Z" = some ⟨[(.array .byte), (.array .byte)], some .boolean⟩ := by decide +kernel
theorem pd_27 : parseMethodDescriptor "(I)C" = some ⟨[.int], some .char⟩ := by decide +kernel
theorem pd_28 : parseMethodDescriptor "(CCCCI)Ljava/lang/String;" = some ⟨[.char, .char, .char, .char, .int], some (.object "java/lang/String")⟩ := by decide +kernel
theorem pd_29 : parseMethodDescriptor "(Ljava/lang/String;)Ljava/lang/String;" = some ⟨[(.object "java/lang/String")], some (.object "java/lang/String")⟩ := by decide +kernel
theorem pd_30 : parseMethodDescriptor "(Ljava/lang/Object;)Z" = some ⟨[(.object "java/lang/Object")], some .boolean⟩ := by decide +kernel
theorem ef_30 (m : MethodId) (n : Nat) : entryFrame m #[(.int (Int32.ofNat n))] 1 = mkF m 0 #[.val (.int (Int32.ofNat n))] [] := by first | (simp [entryFrame, mkF, argsToLocals, Value.category]; done) | rfl
def Q30 (Z : State) (n : Nat) (h0 : Heap) (n0 : Nat) (v : Option Value) (h : Heap) (L : List Loc) : Prop := v = some (.int (Int32.ofNat (2 * n))) ∧ Fr n0 L ∧ h = h0
set_option maxRecDepth 65536 in
set_option maxHeartbeats 40000000 in
theorem rm30 (l : Launch) (Z : State) (a0 : Array Value) (hw : ∀ d ∈ tables_1, d.before a0 Z = true) (ws : List Jvm.Cond) (n : Nat) (h0 : Heap) (n0 : Nat) (Z0 : n0 ≤ h0.size) (hn : n ≤ 16) :
    MetFree l (⟨"java/lang/StringUTF16", "newBytesLength", "(I)I"⟩ : MethodName) (head1 (Jvm.Cond.code (⟨"java/lang/StringUTF16", "newBytesLength", "(I)I"⟩ : MethodName) jdk_52_method_3_code 1 (some .int) :: ws) ({ frames := 0, cells := 0, slots := 0, locals := 0 } : Room)) (fun α υ => α = #[(.int (Int32.ofNat n))] ∧ Z.Warmed39 υ.vm ∧ υ.heap = h0) (fun _ _ _ _ _ => True) (fun _ υ ω υ' => ∃ v L, ω = .returned v ∧ Q30 Z n h0 n0 v υ'.heap L ∧ FrameEnd υ ω υ' L ({ frames := 0, cells := 0, slots := 0, locals := 0 } : Room).cells ({ frames := 0, cells := 0, slots := 0, locals := 0 } : Room).slots) := by
  refine MetFree.of_bodySF (plainFor_of_name pn_java_lang_StringUTF16) hisR ?_
  intro p e s m args below meth c s₁ Bd hml0 hP hK
  obtain ⟨rfl, hZ, hh⟩ := hP
  have hx := Bd.exec
  have hby := Bd.bytes
  have hml : c.maxLocals = 1 := hml0
  have hown : s.vm.findClass "java/lang/StringUTF16" = some m.cls := findClass_of_methodNamed Bd.named
  have hnm := (name_of_methodNamed Bd.named Bd.method).1
  have X0 : Stand p l e ({ frames := 0, cells := 0, slots := 0, locals := 0 } : Room) s m #[(.int (Int32.ofNat n))] below meth c s₁ [] 0 0 := Stand.of_body Bd
  have e0 : s₁.heap = h0 := by rw [← hh, Bd.state]; rfl
  have N0 := Fr.nil n0
  have pre0 : ∀ τ, Steps p.tables e below (s₁.setTop (mkF m 0 #[.val (.int (Int32.ofNat n))] [])) τ → Steps p.tables e below (s₁.setTop (entryFrame m #[(.int (Int32.ofNat n))] 1)) τ := fun τ κ => castTop (ef_30 m n) κ
  have pre1 := fun τ (κ : Steps p.tables e below (s₁.setTop (mkF m 58 #[.val (.int (Int32.ofNat n))] [(.int ((Int32.ofNat n) <<< ((1 : Int32) &&& 31)))])) τ) => pre0 τ (by
    refine XS.iloadN X0.here hx rfl (hb hby d30_0) rfl ?_
    refine XS.ifYes X0.here hx rfl (pc0 := 1) (pc' := 12) rfl (hb hby d30_1) rfl ((if0 _ _).trans (flt (own_nn (by omega))).2.1) (by decide) (by decide) ?_
    show Steps p.tables e below (s₁.setTop (mkF m 12 #[.val (.int (Int32.ofNat n))] [])) _
    refine XS.iloadN X0.here hx rfl (hb hby d30_12) rfl ?_
    refine X0.ldcInt hx hown (mvT hZ (hw _ (List.mem_of_getElem? (i := 136) rfl))) (g := (mkF m 13 #[.val (.int (Int32.ofNat n))] [(.int (Int32.ofNat n))])) rfl (hb hby d30_13) _ ?_
    show Steps p.tables e below (s₁.setTop (mkF m 15 #[.val (.int (Int32.ofNat n))] [(.int (1073741823 : Int32)), (.int (Int32.ofNat n))])) _
    refine XS.icmpYes X0.here hx rfl (pc0 := 15) (pc' := 55) rfl (hb hby d30_15) rfl (tlt ((own_ltN (j := 1073741823) (by omega) (by omega)).mpr (by omega))).1 (by decide) (by decide) ?_
    show Steps p.tables e below (s₁.setTop (mkF m 55 #[.val (.int (Int32.ofNat n))] [])) _
    refine XS.iloadN X0.here hx rfl (hb hby d30_55) rfl ?_
    refine XS.iconst X0.here hx rfl (hb hby d30_56) ?_
    refine XS.ishl X0.here hx rfl (hb hby d30_57) rfl ?_
    show Steps p.tables e below (s₁.setTop (mkF m 58 #[.val (.int (Int32.ofNat n))] [(.int ((Int32.ofNat n) <<< ((1 : Int32) &&& 31)))])) _
    exact κ)
  rw [show ((Int32.ofNat n) <<< ((1 : Int32) &&& 31)) = (Int32.ofNat (2 * n)) from (own_shl1 (by omega))] at pre1
  obtain ⟨fs, hr, hrun, hended, hW, hsame⟩ := X0.leave (v := some (.int (Int32.ofNat (2 * n)))) (fun h => by rw [Bd.returns] at h; cases h)
  refine ⟨_, _, pre1 _ ?_, hrun, hended, _, _, rfl, ?_, ⟨_, rfl⟩, hW, hsame.mono (by decide) (by decide)⟩
  · exact retI X0 hx Bd.returns (hb hby d30_58) hr
  · show Q30 Z n h0 n0 _ s₁.heap _
    rw [e0]
    exact ⟨rfl, N0, rfl⟩
theorem ef_29 (m : MethodId) (n : Nat) : entryFrame m #[(.int (Int32.ofNat n))] 1 = mkF m 0 #[.val (.int (Int32.ofNat n))] [] := by first | (simp [entryFrame, mkF, argsToLocals, Value.category]; done) | rfl
def Q29 (Z : State) (n : Nat) (h0 : Heap) (n0 : Nat) (v : Option Value) (h : Heap) (L : List Loc) : Prop := ∃ (b : Addr) (kb : ClassId), v = some (.ref b) ∧ Fr n0 L ∧ Keep h0 h [] ∧ Arv Z h b kb .byte (Int32.ofNat (2 * n)) (own_tab (fun _ => 0) (2 * n)) (.int (0 : Int32)) ∧ h0.size ≤ b
set_option maxRecDepth 65536 in
set_option maxHeartbeats 40000000 in
theorem rm29 (l : Launch) (Z : State) (a0 : Array Value) (hw : ∀ d ∈ tables_1, d.before a0 Z = true) (ws : List Jvm.Cond) (n : Nat) (h0 : Heap) (n0 : Nat) (Z0 : n0 ≤ h0.size) (hn : n ≤ 16) :
    MetFree l (⟨"java/lang/StringUTF16", "newBytesFor", "(I)[B"⟩ : MethodName) (head1 (Jvm.Cond.code (⟨"java/lang/StringUTF16", "newBytesFor", "(I)[B"⟩ : MethodName) jdk_52_method_2_code 1 (some (.array .byte)) :: ws) ({ frames := 1, cells := 1, slots := 32, locals := 12 } : Room)) (fun α υ => α = #[(.int (Int32.ofNat n))] ∧ Z.Warmed39 υ.vm ∧ υ.heap = h0) (fun _ _ _ _ _ => True) (fun _ υ ω υ' => ∃ v L, ω = .returned v ∧ Q29 Z n h0 n0 v υ'.heap L ∧ FrameEnd υ ω υ' L ({ frames := 1, cells := 1, slots := 32, locals := 12 } : Room).cells ({ frames := 1, cells := 1, slots := 32, locals := 12 } : Room).slots) := by
  refine MetFree.of_bodySF (plainFor_of_name pn_java_lang_StringUTF16) hisR ?_
  intro p e s m args below meth c s₁ Bd hml0 hP hK
  obtain ⟨rfl, hZ, hh⟩ := hP
  have hx := Bd.exec
  have hby := Bd.bytes
  have hml : c.maxLocals = 1 := hml0
  have hown : s.vm.findClass "java/lang/StringUTF16" = some m.cls := findClass_of_methodNamed Bd.named
  have hnm := (name_of_methodNamed Bd.named Bd.method).1
  have X0 : Stand p l e ({ frames := 1, cells := 1, slots := 32, locals := 12 } : Room) s m #[(.int (Int32.ofNat n))] below meth c s₁ [] 0 0 := Stand.of_body Bd
  have e0 : s₁.heap = h0 := by rw [← hh, Bd.state]; rfl
  have N0 := Fr.nil n0
  have pre0 : ∀ τ, Steps p.tables e below (s₁.setTop (mkF m 0 #[.val (.int (Int32.ofNat n))] [])) τ → Steps p.tables e below (s₁.setTop (entryFrame m #[(.int (Int32.ofNat n))] 1)) τ := fun τ κ => castTop (ef_29 m n) κ
  have Kp0 : Keep h0 h0 [] := Keep.refl _ _
  have pre1 := fun τ (κ : Steps p.tables e below (s₁.setTop (mkF m 1 #[.val (.int (Int32.ofNat n))] [(.int (Int32.ofNat n))])) τ) => pre0 τ (by
    refine XS.iloadN X0.here hx rfl (hb hby d29_0) rfl ?_
    show Steps p.tables e below (s₁.setTop (mkF m 1 #[.val (.int (Int32.ofNat n))] [(.int (Int32.ofNat n))])) _
    exact κ)
  obtain ⟨_, _, ⟨T2, L2, k2, n2⟩, -, X2, ⟨Lc2, hQ2, l2, y2, z2⟩, st2⟩ := Jvm.LawKit.callS X0 hx (y := (⟨"java/lang/StringUTF16", "newBytesLength", "(I)I"⟩ : MethodName)) hown (mvT hZ (hw _ (List.mem_of_getElem? (i := 133) rfl))) (mvT hZ (hw _ (List.mem_of_getElem? (i := 134) rfl))) (mvT hZ (hw _ (List.mem_of_getElem? (i := 96) rfl))) (mvT hZ (hw _ (List.mem_of_getElem? (i := 135) rfl))) (by decide) (backOf (W := 0) (rm30 l Z a0 hw [] n h0 n0 Z0 (by omega)) hZ (hw _ (List.mem_of_getElem? (i := 135) rfl)) (hw _ (List.mem_of_getElem? (i := 96) rfl)) (Nat.le_of_ble_eq_true rfl) (Nat.le_of_ble_eq_true rfl)) (g := (mkF m 1 #[.val (.int (Int32.ofNat n))] [(.int (Int32.ofNat n))])) rfl (by rw [hml]; rfl) (argsL := [(.int (Int32.ofNat n))]) (rest := []) (lenOf pd_0 rfl) rfl (by show 2 * 0 + _ ≤ _; exact Nat.le_of_eq rfl) (hb hby d29_1) (fun _ _ => ⟨rfl, e0, (by decide : 0 + 0 ≤ _), (by decide : 0 + 0 ≤ _)⟩)
  dsimp only [Pt.U, Pt.locs, Pt.cells, Pt.slots] at X2 l2 y2 z2 st2 hQ2
  subst l2 y2 z2
  obtain ⟨rfl, Nq2, hh2⟩ := hQ2
  have Z2 : n0 ≤ T2.heap.size := by rw [hh2]; exact Z0
  have Kp2 : Keep h0 T2.heap [] := by rw [hh2]; exact Kp0
  have N2 := Fr.app N0 Nq2
  have pre3 := fun τ (κ : Steps p.tables e below (T2.setTop (mkF m 4 #[.val (.int (Int32.ofNat n))] [(.int (Int32.ofNat (2 * n)))])) τ) => pre1 τ (st2 _ κ)
  obtain ⟨T4, h4, k4, X4, e4, E4, A4, st4⟩ := newP X2 hx hZ (hw _ (List.mem_of_getElem? (i := 24) rfl)) rfl (g := (mkF m 4 #[.val (.int (Int32.ofNat n))] [(.int (Int32.ofNat (2 * n)))])) rfl (hb hby d29_4) rfl (own_nn (by omega)) (cap := 32) (by rw [own_clamp (by omega)]; omega) (by decide) (by decide) (by decide)
  obtain ⟨b, g4⟩ : ∃ z, z = T2.heap.size := ⟨_, rfl⟩
  rw [← g4] at A4 st4
  have g_b : n0 ≤ b := Nat.le_trans Z2 (Nat.le_of_eq g4.symm)
  have sz_b : h0.size ≤ b := Nat.le_trans Kp2.1 (Nat.le_of_eq g4.symm)
  have Kp4 : Keep h0 h4 [] := Kp2.ext E4
  have Z4 : n0 ≤ h4.size := Nat.le_trans Z2 E4.1
  have V_b_4 : Arv Z h4 b k4 .byte (Int32.ofNat (2 * n)) [] (.int (0 : Int32)) := Arv.new A4 (own_nn (by omega))
  have pre5 := fun τ (κ : Steps p.tables e below (T4.setTop (mkF m 6 #[.val (.int (Int32.ofNat n))] [(.ref b)])) τ) => pre3 τ (st4 _ κ)
  have Vb : Arv Z h4 b k4 .byte (Int32.ofNat (2 * n)) (own_tab (fun _ => 0) (2 * n)) (.int (0 : Int32)) := by rw [own_tab_pad]; exact V_b_4.pad (pad_rep [] _ (2 * n))
  obtain ⟨fs, hr, hrun, hended, hW, hsame⟩ := X4.leave (v := some (.ref b)) (fun h => by rw [Bd.returns] at h; cases h)
  refine ⟨_, _, pre5 _ ?_, hrun, hended, _, _, rfl, ?_, ⟨_, rfl⟩, hW, hsame.mono (by decide) (by decide)⟩
  · jvm_step X4.here [X4.here.top, hx, (hb hby d29_6), X4.method', Bd.returns, Value.isRef, FieldType.isReference]
    first | (intro acts; rw [hr _ acts rfl rfl rfl]) | rw [hr _ _ rfl rfl rfl]
    exact Steps.refl _
  · show Q29 Z n h0 n0 _ T4.heap _
    rw [e4]
    exact ⟨b, k4, rfl, N2, Kp4, Vb, sz_b⟩
theorem ef_31 (m : MethodId) (db : Addr) (i : Nat) (x : Int32) (n : Nat) (zc : Int32) (fm : Value) : entryFrame m #[(.ref db), (.int (Int32.ofNat i)), (.int x)] 3 = mkF m 0 #[.val (.ref db), .val (.int (Int32.ofNat i)), .val (.int x)] [] := by first | (simp [entryFrame, mkF, argsToLocals, Value.category]; done) | rfl
def Q31 (Z : State) (db : Addr) (i : Nat) (x : Int32) (n : Nat) (kb : ClassId) (g : Nat → Int32) (zc : Int32) (fm : Value) (h0 : Heap) (n0 : Nat) (v : Option Value) (h : Heap) (L : List Loc) : Prop := v = none ∧ Fr n0 L ∧ Keep h0 h [db] ∧ Arv Z h db kb .byte (Int32.ofNat (2 * n)) (own_tab (fun q => if q = 2 * i + 1 then own_hi x else (fun q => if q = 2 * i then own_lo x else g q) q) (2 * n)) (.int (0 : Int32))
set_option maxRecDepth 65536 in
set_option maxHeartbeats 40000000 in
theorem rm31 (l : Launch) (Z : State) (a0 : Array Value) (hw : ∀ d ∈ tables_1, d.before a0 Z = true) (ws : List Jvm.Cond) (db : Addr) (i : Nat) (x : Int32) (n : Nat) (kb : ClassId) (g : Nat → Int32) (zc : Int32) (fm : Value) (h0 : Heap) (n0 : Nat) (Z0 : n0 ≤ h0.size) (O0 : Old Z n0 h0) (U0 : own_ST Z zc fm) (Va : Arv Z h0 db kb .byte (Int32.ofNat (2 * n)) (own_tab g (2 * n)) (.int (0 : Int32))) (hn : n ≤ 16) (hi : i < n) (gb : n0 ≤ db) :
    MetFree l (⟨"java/lang/StringUTF16", "putChar", "([BII)V"⟩ : MethodName) (head1 (Jvm.Cond.code (⟨"java/lang/StringUTF16", "putChar", "([BII)V"⟩ : MethodName) jdk_52_method_4_code 3 none :: ws) ({ frames := 0, cells := 0, slots := 0, locals := 0 } : Room)) (fun α υ => α = #[(.ref db), (.int (Int32.ofNat i)), (.int x)] ∧ Z.Warmed39 υ.vm ∧ υ.heap = h0) (fun _ _ _ _ _ => True) (fun _ υ ω υ' => ∃ v L, ω = .returned v ∧ Q31 Z db i x n kb g zc fm h0 n0 v υ'.heap L ∧ FrameEnd υ ω υ' L ({ frames := 0, cells := 0, slots := 0, locals := 0 } : Room).cells ({ frames := 0, cells := 0, slots := 0, locals := 0 } : Room).slots) := by
  refine MetFree.of_bodySF (plainFor_of_name pn_java_lang_StringUTF16) hisR ?_
  intro p e s m args below meth c s₁ Bd hml0 hP hK
  obtain ⟨rfl, hZ, hh⟩ := hP
  have hx := Bd.exec
  have hby := Bd.bytes
  have hml : c.maxLocals = 3 := hml0
  have hown : s.vm.findClass "java/lang/StringUTF16" = some m.cls := findClass_of_methodNamed Bd.named
  have hnm := (name_of_methodNamed Bd.named Bd.method).1
  have X0 : Stand p l e ({ frames := 0, cells := 0, slots := 0, locals := 0 } : Room) s m #[(.ref db), (.int (Int32.ofNat i)), (.int x)] below meth c s₁ [] 0 0 := Stand.of_body Bd
  have e0 : s₁.heap = h0 := by rw [← hh, Bd.state]; rfl
  have N0 := Fr.nil n0
  have pre0 : ∀ τ, Steps p.tables e below (s₁.setTop (mkF m 0 #[.val (.ref db), .val (.int (Int32.ofNat i)), .val (.int x)] [])) τ → Steps p.tables e below (s₁.setTop (entryFrame m #[(.ref db), (.int (Int32.ofNat i)), (.int x)] 3)) τ := fun τ κ => castTop (ef_31 m db i x n zc fm) κ
  obtain ⟨Scs, hcs, Sad, Shi, Slo, Sfm, r_fm⟩ := id U0
  have Kp0 : Keep h0 h0 [db] := Keep.refl _ _
  obtain ⟨T1, X1, e1, st1⟩ := getS2 X0 hx hZ hown (host := "") (Or.inl (hw _ (List.mem_of_getElem? (i := 140) rfl))) Via.refl e0 (Sad.ext O0.2) (g := (mkF m 0 #[.val (.ref db), .val (.int (Int32.ofNat i)), .val (.int x)] [])) rfl (hb hby d31_0)
  have pre2 := fun τ (κ : Steps p.tables e below (T1.setTop (mkF m 3 #[.val (.ref db), .val (.int (Int32.ofNat i)), .val (.int x)] [(.int (1 : Int32))])) τ) => pre0 τ (st1 _ κ)
  have pre3 := fun τ (κ : Steps p.tables e below (T1.setTop (mkF m 31 #[.val (.ref db), .val (.int (Int32.ofNat i)), .val (.int x)] [(.int ((Int32.ofNat i) <<< ((1 : Int32) &&& 31)))])) τ) => pre2 τ (by
    refine XS.ifYes X1.here hx rfl (pc0 := 3) (pc' := 28) rfl (hb hby d31_3) rfl ((if0 _ _).trans (feq (by decide)).2) (by decide) (by decide) ?_
    show Steps p.tables e below (T1.setTop (mkF m 28 #[.val (.ref db), .val (.int (Int32.ofNat i)), .val (.int x)] [])) _
    refine XS.iloadN X1.here hx rfl (hb hby d31_28) rfl ?_
    refine XS.iconst X1.here hx rfl (hb hby d31_29) ?_
    refine XS.ishl X1.here hx rfl (hb hby d31_30) rfl ?_
    show Steps p.tables e below (T1.setTop (mkF m 31 #[.val (.ref db), .val (.int (Int32.ofNat i)), .val (.int x)] [(.int ((Int32.ofNat i) <<< ((1 : Int32) &&& 31)))])) _
    exact κ)
  rw [show ((Int32.ofNat i) <<< ((1 : Int32) &&& 31)) = (Int32.ofNat (2 * i)) from (own_shl1 (by omega))] at pre3
  have pre4 := fun τ (κ : Steps p.tables e below (T1.setTop (mkF m 37 #[.val (.ref db), .val (.int ((Int32.ofNat (2 * i)) + (1 : Int32))), .val (.int x)] [(.int (Int32.ofNat (2 * i))), (.ref db)])) τ) => pre3 τ (by
    refine XS.istoreN X1.here hx rfl (hb hby d31_31) rfl (l' := #[.val (.ref db), .val (.int (Int32.ofNat (2 * i))), .val (.int x)]) rfl ?_
    show Steps p.tables e below (T1.setTop (mkF m 32 #[.val (.ref db), .val (.int (Int32.ofNat (2 * i))), .val (.int x)] [])) _
    refine XS.aloadN X1.here hx rfl (hb hby d31_32) rfl rfl ?_
    refine XS.iloadN X1.here hx rfl (hb hby d31_33) rfl ?_
    refine XS.iinc X1.here hx rfl (hb hby d31_34) rfl (l' := #[.val (.ref db), .val (.int ((Int32.ofNat (2 * i)) + (1 : Int32))), .val (.int x)]) rfl ?_
    show Steps p.tables e below (T1.setTop (mkF m 37 #[.val (.ref db), .val (.int ((Int32.ofNat (2 * i)) + (1 : Int32))), .val (.int x)] [(.int (Int32.ofNat (2 * i))), (.ref db)])) _
    exact κ)
  rw [show ((Int32.ofNat (2 * i)) + (1 : Int32)) = (Int32.ofNat (2 * i + 1)) from (own_addN _ 1)] at pre4
  have pre5 := fun τ (κ : Steps p.tables e below (T1.setTop (mkF m 38 #[.val (.ref db), .val (.int (Int32.ofNat (2 * i + 1))), .val (.int x)] [(.int x), (.int (Int32.ofNat (2 * i))), (.ref db)])) τ) => pre4 τ (by
    refine XS.iloadN X1.here hx rfl (hb hby d31_37) rfl ?_
    show Steps p.tables e below (T1.setTop (mkF m 38 #[.val (.ref db), .val (.int (Int32.ofNat (2 * i + 1))), .val (.int x)] [(.int x), (.int (Int32.ofNat (2 * i))), (.ref db)])) _
    exact κ)
  obtain ⟨T6, X6, e6, st6⟩ := getS2 X1 hx hZ hown (host := "") (Or.inl (hw _ (List.mem_of_getElem? (i := 141) rfl))) Via.refl e1 (Shi.ext O0.2) (g := (mkF m 38 #[.val (.ref db), .val (.int (Int32.ofNat (2 * i + 1))), .val (.int x)] [(.int x), (.int (Int32.ofNat (2 * i))), (.ref db)])) rfl (hb hby d31_38)
  have pre7 := fun τ (κ : Steps p.tables e below (T6.setTop (mkF m 41 #[.val (.ref db), .val (.int (Int32.ofNat (2 * i + 1))), .val (.int x)] [(.int (0 : Int32)), (.int x), (.int (Int32.ofNat (2 * i))), (.ref db)])) τ) => pre5 τ (st6 _ κ)
  have pre8 := fun τ (κ : Steps p.tables e below (T6.setTop (mkF m 42 #[.val (.ref db), .val (.int (Int32.ofNat (2 * i + 1))), .val (.int x)] [(.int (x >>> ((0 : Int32) &&& 31))), (.int (Int32.ofNat (2 * i))), (.ref db)])) τ) => pre7 τ (by
    refine XS.ishr X6.here hx rfl (hb hby d31_41) rfl ?_
    show Steps p.tables e below (T6.setTop (mkF m 42 #[.val (.ref db), .val (.int (Int32.ofNat (2 * i + 1))), .val (.int x)] [(.int (x >>> ((0 : Int32) &&& 31))), (.int (Int32.ofNat (2 * i))), (.ref db)])) _
    exact κ)
  rw [show (x >>> ((0 : Int32) &&& 31)) = x from (own_shr0 x)] at pre8
  have pre9 := fun τ (κ : Steps p.tables e below (T6.setTop (mkF m 43 #[.val (.ref db), .val (.int (Int32.ofNat (2 * i + 1))), .val (.int x)] [(.int (x.toInt8.toInt32)), (.int (Int32.ofNat (2 * i))), (.ref db)])) τ) => pre8 τ (by
    refine XS.i2b X6.here hx rfl (hb hby d31_42) rfl ?_
    show Steps p.tables e below (T6.setTop (mkF m 43 #[.val (.ref db), .val (.int (Int32.ofNat (2 * i + 1))), .val (.int x)] [(.int (x.toInt8.toInt32)), (.int (Int32.ofNat (2 * i))), (.ref db)])) _
    exact κ)
  have hj09 : (Int32.ofNat (2 * i)).toNatClampNeg = 2 * i := own_clamp (by omega)
  have hi09 : 2 * i < (own_tab g (2 * n)).length := by rw [own_tab_len]; omega
  obtain ⟨cl10, Ar10, q10, S10, M10, H10, G10⟩ := id Va
  have in10 : ¬ ((Int32.ofNat (2 * i)) < 0 ∨ cl10.slots.size ≤ ((Int32.ofNat (2 * i))).toNatClampNeg) := inb_of S10 ⟨own_nn (by omega), (own_ltN (by omega) (by omega)).mpr (by omega)⟩
  obtain ⟨T11, h11, X11, e11, W11, st11⟩ := stB X6 hx hZ e6 Ar10 (j := (Int32.ofNat (2 * i))) in10 (g := (mkF m 43 #[.val (.ref db), .val (.int (Int32.ofNat (2 * i + 1))), .val (.int x)] [(.int (x.toInt8.toInt32)), (.int (Int32.ofNat (2 * i))), (.ref db)])) rfl rfl (hb hby d31_43)
  have O0_11 : Old Z n0 h11 := O0.wr W11 gb
  have Kp11 : Keep h0 h11 [db] := Kp0.wr W11 (Or.inl (List.mem_of_getElem? (i := 0) rfl))
  have N11 := Fr.snoc X11 N0 gb
  have Z11 : n0 ≤ h11.size := Nat.le_trans Z0 (Keep.of_wr W11).1
  have V_db_11 : Arv Z h11 db kb .byte (Int32.ofNat (2 * n)) (own_tab (fun q => if q = 2 * i then own_lo x else g q) (2 * n)) (.int (0 : Int32)) := (by rw [← own_lolo x]; exact (own_tab_set g (2 * n) (2 * i) _) ▸ (Arv.set Ar10 q10 S10 M10 H10 G10 (fits_nar_byte _) W11 (2 * i) (by first | rfl | assumption) (by assumption)))
  have pre12 := fun τ (κ : Steps p.tables e below (T11.setTop (mkF m 44 #[.val (.ref db), .val (.int (Int32.ofNat (2 * i + 1))), .val (.int x)] [])) τ) => pre9 τ (st11 _ κ)
  have pre13 := fun τ (κ : Steps p.tables e below (T11.setTop (mkF m 47 #[.val (.ref db), .val (.int (Int32.ofNat (2 * i + 1))), .val (.int x)] [(.int x), (.int (Int32.ofNat (2 * i + 1))), (.ref db)])) τ) => pre12 τ (by
    refine XS.aloadN X11.here hx rfl (hb hby d31_44) rfl rfl ?_
    refine XS.iloadN X11.here hx rfl (hb hby d31_45) rfl ?_
    refine XS.iloadN X11.here hx rfl (hb hby d31_46) rfl ?_
    show Steps p.tables e below (T11.setTop (mkF m 47 #[.val (.ref db), .val (.int (Int32.ofNat (2 * i + 1))), .val (.int x)] [(.int x), (.int (Int32.ofNat (2 * i + 1))), (.ref db)])) _
    exact κ)
  obtain ⟨T14, X14, e14, st14⟩ := getS2 X11 hx hZ hown (host := "") (Or.inl (hw _ (List.mem_of_getElem? (i := 142) rfl))) Via.refl e11 (Slo.ext O0_11.2) (g := (mkF m 47 #[.val (.ref db), .val (.int (Int32.ofNat (2 * i + 1))), .val (.int x)] [(.int x), (.int (Int32.ofNat (2 * i + 1))), (.ref db)])) rfl (hb hby d31_47)
  have pre15 := fun τ (κ : Steps p.tables e below (T14.setTop (mkF m 50 #[.val (.ref db), .val (.int (Int32.ofNat (2 * i + 1))), .val (.int x)] [(.int (8 : Int32)), (.int x), (.int (Int32.ofNat (2 * i + 1))), (.ref db)])) τ) => pre13 τ (st14 _ κ)
  have hj19 : (Int32.ofNat (2 * i + 1)).toNatClampNeg = 2 * i + 1 := own_clamp (by omega)
  have hi19 : 2 * i + 1 < (own_tab (fun q => if q = 2 * i then own_lo x else g q) (2 * n)).length := by rw [own_tab_len]; omega
  have pre16 := fun τ (κ : Steps p.tables e below (T14.setTop (mkF m 52 #[.val (.ref db), .val (.int (Int32.ofNat (2 * i + 1))), .val (.int x)] [(.int ((x >>> ((8 : Int32) &&& 31)).toInt8.toInt32)), (.int (Int32.ofNat (2 * i + 1))), (.ref db)])) τ) => pre15 τ (by
    refine XS.ishr X14.here hx rfl (hb hby d31_50) rfl ?_
    show Steps p.tables e below (T14.setTop (mkF m 51 #[.val (.ref db), .val (.int (Int32.ofNat (2 * i + 1))), .val (.int x)] [(.int (x >>> ((8 : Int32) &&& 31))), (.int (Int32.ofNat (2 * i + 1))), (.ref db)])) _
    refine XS.i2b X14.here hx rfl (hb hby d31_51) rfl ?_
    show Steps p.tables e below (T14.setTop (mkF m 52 #[.val (.ref db), .val (.int (Int32.ofNat (2 * i + 1))), .val (.int x)] [(.int ((x >>> ((8 : Int32) &&& 31)).toInt8.toInt32)), (.int (Int32.ofNat (2 * i + 1))), (.ref db)])) _
    exact κ)
  obtain ⟨cl17, Ar17, q17, S17, M17, H17, G17⟩ := id V_db_11
  have in17 : ¬ ((Int32.ofNat (2 * i + 1)) < 0 ∨ cl17.slots.size ≤ ((Int32.ofNat (2 * i + 1))).toNatClampNeg) := inb_of S17 ⟨own_nn (by omega), (own_ltN (by omega) (by omega)).mpr (by omega)⟩
  obtain ⟨T18, h18, X18, e18, W18, st18⟩ := stB X14 hx hZ e14 Ar17 (j := (Int32.ofNat (2 * i + 1))) in17 (g := (mkF m 52 #[.val (.ref db), .val (.int (Int32.ofNat (2 * i + 1))), .val (.int x)] [(.int ((x >>> ((8 : Int32) &&& 31)).toInt8.toInt32)), (.int (Int32.ofNat (2 * i + 1))), (.ref db)])) rfl rfl (hb hby d31_52)
  have O0_18 : Old Z n0 h18 := O0_11.wr W18 gb
  have Kp18 : Keep h0 h18 [db] := Kp11.wr W18 (Or.inl (List.mem_of_getElem? (i := 0) rfl))
  have N18 := Fr.snoc X18 N11 gb
  have Z18 : n0 ≤ h18.size := Nat.le_trans Z11 (Keep.of_wr W18).1
  have V_db_18 : Arv Z h18 db kb .byte (Int32.ofNat (2 * n)) (own_tab (fun q => if q = 2 * i + 1 then own_hi x else (fun q => if q = 2 * i then own_lo x else g q) q) (2 * n)) (.int (0 : Int32)) := (by rw [← own_hihi x]; exact (own_tab_set (fun q => if q = 2 * i then own_lo x else g q) (2 * n) (2 * i + 1) _) ▸ (Arv.set Ar17 q17 S17 M17 H17 G17 (fits_nar_byte _) W18 (2 * i + 1) (by first | rfl | assumption) (by assumption)))
  have pre19 := fun τ (κ : Steps p.tables e below (T18.setTop (mkF m 53 #[.val (.ref db), .val (.int (Int32.ofNat (2 * i + 1))), .val (.int x)] [])) τ) => pre16 τ (st18 _ κ)
  obtain ⟨fs, hr, hrun, hended, hW, hsame⟩ := X18.leave (v := none) (fun _ => rfl)
  refine ⟨_, _, pre19 _ ?_, hrun, hended, _, _, rfl, ?_, ⟨_, rfl⟩, hW, hsame.mono (by decide) (by decide)⟩
  · exact X18.returnOut hx Bd.returns (hb hby d31_53) hr
  · show Q31 Z db i x n kb g zc fm h0 n0 _ T18.heap _
    rw [e18]
    exact ⟨rfl, N18, Kp18, V_db_18⟩
theorem ef_32 (m : MethodId) (db : Addr) (i : Nat) (n : Nat) (zc : Int32) (fm : Value) : entryFrame m #[(.ref db), (.int (Int32.ofNat i))] 2 = mkF m 0 #[.val (.ref db), .val (.int (Int32.ofNat i))] [] := by first | (simp [entryFrame, mkF, argsToLocals, Value.category]; done) | rfl
def Q32 (Z : State) (db : Addr) (i : Nat) (n : Nat) (kb : ClassId) (f : Nat → Int32) (zc : Int32) (fm : Value) (h0 : Heap) (n0 : Nat) (v : Option Value) (h : Heap) (L : List Loc) : Prop := v = some (.int (f i)) ∧ Fr n0 L ∧ h = h0
set_option maxRecDepth 65536 in
set_option maxHeartbeats 40000000 in
theorem rm32 (l : Launch) (Z : State) (a0 : Array Value) (hw : ∀ d ∈ tables_1, d.before a0 Z = true) (ws : List Jvm.Cond) (db : Addr) (i : Nat) (n : Nat) (kb : ClassId) (f : Nat → Int32) (zc : Int32) (fm : Value) (h0 : Heap) (n0 : Nat) (Z0 : n0 ≤ h0.size) (O0 : Old Z n0 h0) (U0 : own_ST Z zc fm) (Va : Arv Z h0 db kb .byte (Int32.ofNat (2 * n)) (own_tab (own_u16 f) (2 * n)) (.int (0 : Int32))) (hn : n ≤ 16) (hi : i < n) (hc : own_ch (f i)) :
    MetFree l (⟨"java/lang/StringUTF16", "getChar", "([BI)C"⟩ : MethodName) (head1 (Jvm.Cond.code (⟨"java/lang/StringUTF16", "getChar", "([BI)C"⟩ : MethodName) jdk_52_method_5_code 2 (some .char) :: ws) ({ frames := 0, cells := 0, slots := 0, locals := 0 } : Room)) (fun α υ => α = #[(.ref db), (.int (Int32.ofNat i))] ∧ Z.Warmed39 υ.vm ∧ υ.heap = h0) (fun _ _ _ _ _ => True) (fun _ υ ω υ' => ∃ v L, ω = .returned v ∧ Q32 Z db i n kb f zc fm h0 n0 v υ'.heap L ∧ FrameEnd υ ω υ' L ({ frames := 0, cells := 0, slots := 0, locals := 0 } : Room).cells ({ frames := 0, cells := 0, slots := 0, locals := 0 } : Room).slots) := by
  refine MetFree.of_bodySF (plainFor_of_name pn_java_lang_StringUTF16) hisR ?_
  intro p e s m args below meth c s₁ Bd hml0 hP hK
  obtain ⟨rfl, hZ, hh⟩ := hP
  have hx := Bd.exec
  have hby := Bd.bytes
  have hml : c.maxLocals = 2 := hml0
  have hown : s.vm.findClass "java/lang/StringUTF16" = some m.cls := findClass_of_methodNamed Bd.named
  have hnm := (name_of_methodNamed Bd.named Bd.method).1
  have X0 : Stand p l e ({ frames := 0, cells := 0, slots := 0, locals := 0 } : Room) s m #[(.ref db), (.int (Int32.ofNat i))] below meth c s₁ [] 0 0 := Stand.of_body Bd
  have e0 : s₁.heap = h0 := by rw [← hh, Bd.state]; rfl
  have N0 := Fr.nil n0
  have pre0 : ∀ τ, Steps p.tables e below (s₁.setTop (mkF m 0 #[.val (.ref db), .val (.int (Int32.ofNat i))] [])) τ → Steps p.tables e below (s₁.setTop (entryFrame m #[(.ref db), (.int (Int32.ofNat i))] 2)) τ := fun τ κ => castTop (ef_32 m db i n zc fm) κ
  obtain ⟨Scs, hcs, Sad, Shi, Slo, Sfm, r_fm⟩ := id U0
  obtain ⟨T1, X1, e1, st1⟩ := getS2 X0 hx hZ hown (host := "") (Or.inl (hw _ (List.mem_of_getElem? (i := 140) rfl))) Via.refl e0 (Sad.ext O0.2) (g := (mkF m 0 #[.val (.ref db), .val (.int (Int32.ofNat i))] [])) rfl (hb hby d32_0)
  have pre2 := fun τ (κ : Steps p.tables e below (T1.setTop (mkF m 3 #[.val (.ref db), .val (.int (Int32.ofNat i))] [(.int (1 : Int32))])) τ) => pre0 τ (st1 _ κ)
  have pre3 := fun τ (κ : Steps p.tables e below (T1.setTop (mkF m 31 #[.val (.ref db), .val (.int (Int32.ofNat i))] [(.int ((Int32.ofNat i) <<< ((1 : Int32) &&& 31)))])) τ) => pre2 τ (by
    refine XS.ifYes X1.here hx rfl (pc0 := 3) (pc' := 28) rfl (hb hby d32_3) rfl ((if0 _ _).trans (feq (by decide)).2) (by decide) (by decide) ?_
    show Steps p.tables e below (T1.setTop (mkF m 28 #[.val (.ref db), .val (.int (Int32.ofNat i))] [])) _
    refine XS.iloadN X1.here hx rfl (hb hby d32_28) rfl ?_
    refine XS.iconst X1.here hx rfl (hb hby d32_29) ?_
    refine XS.ishl X1.here hx rfl (hb hby d32_30) rfl ?_
    show Steps p.tables e below (T1.setTop (mkF m 31 #[.val (.ref db), .val (.int (Int32.ofNat i))] [(.int ((Int32.ofNat i) <<< ((1 : Int32) &&& 31)))])) _
    exact κ)
  rw [show ((Int32.ofNat i) <<< ((1 : Int32) &&& 31)) = (Int32.ofNat (2 * i)) from (own_shl1 (by omega))] at pre3
  have pre4 := fun τ (κ : Steps p.tables e below (T1.setTop (mkF m 37 #[.val (.ref db), .val (.int ((Int32.ofNat (2 * i)) + (1 : Int32)))] [(.int (Int32.ofNat (2 * i))), (.ref db)])) τ) => pre3 τ (by
    refine XS.istoreN X1.here hx rfl (hb hby d32_31) rfl (l' := #[.val (.ref db), .val (.int (Int32.ofNat (2 * i)))]) rfl ?_
    show Steps p.tables e below (T1.setTop (mkF m 32 #[.val (.ref db), .val (.int (Int32.ofNat (2 * i)))] [])) _
    refine XS.aloadN X1.here hx rfl (hb hby d32_32) rfl rfl ?_
    refine XS.iloadN X1.here hx rfl (hb hby d32_33) rfl ?_
    refine XS.iinc X1.here hx rfl (hb hby d32_34) rfl (l' := #[.val (.ref db), .val (.int ((Int32.ofNat (2 * i)) + (1 : Int32)))]) rfl ?_
    show Steps p.tables e below (T1.setTop (mkF m 37 #[.val (.ref db), .val (.int ((Int32.ofNat (2 * i)) + (1 : Int32)))] [(.int (Int32.ofNat (2 * i))), (.ref db)])) _
    exact κ)
  rw [show ((Int32.ofNat (2 * i)) + (1 : Int32)) = (Int32.ofNat (2 * i + 1)) from (own_addN _ 1)] at pre4
  obtain ⟨cl5, Ar5, -, S5, M5, H5, -⟩ := id Va
  have in5 : ¬ ((Int32.ofNat (2 * i)) < 0 ∨ cl5.slots.size ≤ ((Int32.ofNat (2 * i))).toNatClampNeg) := inb_of S5 ⟨own_nn (by omega), (own_ltN (by omega) (by omega)).mpr (by omega)⟩
  have at5 : cl5.slots[((Int32.ofNat (2 * i))).toNatClampNeg]? = some (.int (own_lo (f i))) := H5.at in5 (by rw [own_clamp (by omega), own_tab_get (by omega), own_u16e])
  have pre6 := fun τ (κ : Steps p.tables e below (T1.setTop (mkF m 42 #[.val (.ref db), .val (.int (Int32.ofNat (2 * i + 1)))] [(.int ((own_lo (f i)) &&& (255 : Int32)))])) τ) => pre4 τ (by
    refine X1.baloadBytes hx (j := (Int32.ofNat (2 * i))) (v := (.int (own_lo (f i)))) (by rw [e1]; exact Ar5.1) (State.isArrayOf_alike hZ.alike Ar5.2.1) Ar5.2.2 in5 at5 (g := (mkF m 37 #[.val (.ref db), .val (.int (Int32.ofNat (2 * i + 1)))] [(.int (Int32.ofNat (2 * i))), (.ref db)])) rfl rfl (hb hby d32_37) _ ?_
    show Steps p.tables e below (T1.setTop (mkF m 38 #[.val (.ref db), .val (.int (Int32.ofNat (2 * i + 1)))] [(.int (own_lo (f i)))])) _
    refine XS.sipush X1.here hx rfl (hb hby d32_38) ?_
    refine XS.iand X1.here hx rfl (hb hby d32_41) rfl ?_
    show Steps p.tables e below (T1.setTop (mkF m 42 #[.val (.ref db), .val (.int (Int32.ofNat (2 * i + 1)))] [(.int ((own_lo (f i)) &&& (255 : Int32)))])) _
    exact κ)
  obtain ⟨T7, X7, e7, st7⟩ := getS2 X1 hx hZ hown (host := "") (Or.inl (hw _ (List.mem_of_getElem? (i := 141) rfl))) Via.refl e1 (Shi.ext O0.2) (g := (mkF m 42 #[.val (.ref db), .val (.int (Int32.ofNat (2 * i + 1)))] [(.int ((own_lo (f i)) &&& (255 : Int32)))])) rfl (hb hby d32_42)
  have pre8 := fun τ (κ : Steps p.tables e below (T7.setTop (mkF m 45 #[.val (.ref db), .val (.int (Int32.ofNat (2 * i + 1)))] [(.int (0 : Int32)), (.int ((own_lo (f i)) &&& (255 : Int32)))])) τ) => pre6 τ (st7 _ κ)
  have pre9 := fun τ (κ : Steps p.tables e below (T7.setTop (mkF m 48 #[.val (.ref db), .val (.int (Int32.ofNat (2 * i + 1)))] [(.int (Int32.ofNat (2 * i + 1))), (.ref db), (.int (((own_lo (f i)) &&& (255 : Int32)) <<< ((0 : Int32) &&& 31)))])) τ) => pre8 τ (by
    refine XS.ishl X7.here hx rfl (hb hby d32_45) rfl ?_
    show Steps p.tables e below (T7.setTop (mkF m 46 #[.val (.ref db), .val (.int (Int32.ofNat (2 * i + 1)))] [(.int (((own_lo (f i)) &&& (255 : Int32)) <<< ((0 : Int32) &&& 31)))])) _
    refine XS.aloadN X7.here hx rfl (hb hby d32_46) rfl rfl ?_
    refine XS.iloadN X7.here hx rfl (hb hby d32_47) rfl ?_
    show Steps p.tables e below (T7.setTop (mkF m 48 #[.val (.ref db), .val (.int (Int32.ofNat (2 * i + 1)))] [(.int (Int32.ofNat (2 * i + 1))), (.ref db), (.int (((own_lo (f i)) &&& (255 : Int32)) <<< ((0 : Int32) &&& 31)))])) _
    exact κ)
  obtain ⟨cl10, Ar10, -, S10, M10, H10, -⟩ := id Va
  have in10 : ¬ ((Int32.ofNat (2 * i + 1)) < 0 ∨ cl10.slots.size ≤ ((Int32.ofNat (2 * i + 1))).toNatClampNeg) := inb_of S10 ⟨own_nn (by omega), (own_ltN (by omega) (by omega)).mpr (by omega)⟩
  have at10 : cl10.slots[((Int32.ofNat (2 * i + 1))).toNatClampNeg]? = some (.int (own_hi (f i))) := H10.at in10 (by rw [own_clamp (by omega), own_tab_get (by omega), own_u16o])
  have pre11 := fun τ (κ : Steps p.tables e below (T7.setTop (mkF m 53 #[.val (.ref db), .val (.int (Int32.ofNat (2 * i + 1)))] [(.int ((own_hi (f i)) &&& (255 : Int32))), (.int (((own_lo (f i)) &&& (255 : Int32)) <<< ((0 : Int32) &&& 31)))])) τ) => pre9 τ (by
    refine X7.baloadBytes hx (j := (Int32.ofNat (2 * i + 1))) (v := (.int (own_hi (f i)))) (by rw [e7]; exact Ar10.1) (State.isArrayOf_alike hZ.alike Ar10.2.1) Ar10.2.2 in10 at10 (g := (mkF m 48 #[.val (.ref db), .val (.int (Int32.ofNat (2 * i + 1)))] [(.int (Int32.ofNat (2 * i + 1))), (.ref db), (.int (((own_lo (f i)) &&& (255 : Int32)) <<< ((0 : Int32) &&& 31)))])) rfl rfl (hb hby d32_48) _ ?_
    show Steps p.tables e below (T7.setTop (mkF m 49 #[.val (.ref db), .val (.int (Int32.ofNat (2 * i + 1)))] [(.int (own_hi (f i))), (.int (((own_lo (f i)) &&& (255 : Int32)) <<< ((0 : Int32) &&& 31)))])) _
    refine XS.sipush X7.here hx rfl (hb hby d32_49) ?_
    refine XS.iand X7.here hx rfl (hb hby d32_52) rfl ?_
    show Steps p.tables e below (T7.setTop (mkF m 53 #[.val (.ref db), .val (.int (Int32.ofNat (2 * i + 1)))] [(.int ((own_hi (f i)) &&& (255 : Int32))), (.int (((own_lo (f i)) &&& (255 : Int32)) <<< ((0 : Int32) &&& 31)))])) _
    exact κ)
  obtain ⟨T12, X12, e12, st12⟩ := getS2 X7 hx hZ hown (host := "") (Or.inl (hw _ (List.mem_of_getElem? (i := 142) rfl))) Via.refl e7 (Slo.ext O0.2) (g := (mkF m 53 #[.val (.ref db), .val (.int (Int32.ofNat (2 * i + 1)))] [(.int ((own_hi (f i)) &&& (255 : Int32))), (.int (((own_lo (f i)) &&& (255 : Int32)) <<< ((0 : Int32) &&& 31)))])) rfl (hb hby d32_53)
  have pre13 := fun τ (κ : Steps p.tables e below (T12.setTop (mkF m 56 #[.val (.ref db), .val (.int (Int32.ofNat (2 * i + 1)))] [(.int (8 : Int32)), (.int ((own_hi (f i)) &&& (255 : Int32))), (.int (((own_lo (f i)) &&& (255 : Int32)) <<< ((0 : Int32) &&& 31)))])) τ) => pre11 τ (st12 _ κ)
  have pre14 := fun τ (κ : Steps p.tables e below (T12.setTop (mkF m 59 #[.val (.ref db), .val (.int (Int32.ofNat (2 * i + 1)))] [(.int (((((own_lo (f i)) &&& (255 : Int32)) <<< ((0 : Int32) &&& 31)) ||| (((own_hi (f i)) &&& (255 : Int32)) <<< ((8 : Int32) &&& 31))).toUInt32.toUInt16.toUInt32.toInt32))])) τ) => pre13 τ (by
    refine XS.ishl X12.here hx rfl (hb hby d32_56) rfl ?_
    show Steps p.tables e below (T12.setTop (mkF m 57 #[.val (.ref db), .val (.int (Int32.ofNat (2 * i + 1)))] [(.int (((own_hi (f i)) &&& (255 : Int32)) <<< ((8 : Int32) &&& 31))), (.int (((own_lo (f i)) &&& (255 : Int32)) <<< ((0 : Int32) &&& 31)))])) _
    refine XS.ior X12.here hx rfl (hb hby d32_57) rfl ?_
    show Steps p.tables e below (T12.setTop (mkF m 58 #[.val (.ref db), .val (.int (Int32.ofNat (2 * i + 1)))] [(.int ((((own_lo (f i)) &&& (255 : Int32)) <<< ((0 : Int32) &&& 31)) ||| (((own_hi (f i)) &&& (255 : Int32)) <<< ((8 : Int32) &&& 31))))])) _
    refine XS.i2c X12.here hx rfl (hb hby d32_58) rfl ?_
    show Steps p.tables e below (T12.setTop (mkF m 59 #[.val (.ref db), .val (.int (Int32.ofNat (2 * i + 1)))] [(.int (((((own_lo (f i)) &&& (255 : Int32)) <<< ((0 : Int32) &&& 31)) ||| (((own_hi (f i)) &&& (255 : Int32)) <<< ((8 : Int32) &&& 31))).toUInt32.toUInt16.toUInt32.toInt32))])) _
    exact κ)
  rw [show (((((own_lo (f i)) &&& (255 : Int32)) <<< ((0 : Int32) &&& 31)) ||| (((own_hi (f i)) &&& (255 : Int32)) <<< ((8 : Int32) &&& 31))).toUInt32.toUInt16.toUInt32.toInt32) = (f i) from (own_glue hc)] at pre14
  obtain ⟨fs, hr, hrun, hended, hW, hsame⟩ := X12.leave (v := some (.int (nar .char (f i)))) (fun h => by rw [Bd.returns] at h; cases h)
  refine ⟨_, _, pre14 _ ?_, hrun, hended, _, _, rfl, ?_, ⟨_, rfl⟩, hW, hsame.mono (by decide) (by decide)⟩
  · exact retN X12 hx (t := .char) Bd.returns (by simp) (hb hby d32_59) hr
  · show Q32 Z db i n kb f zc fm h0 n0 _ T12.heap _
    rw [e12]
    exact ⟨own_narc hc, N0, rfl⟩
theorem own_u16step (f : Nat → Int32) (i j : Nat) : (if j = 2 * i + 1 then own_hi (f i) else (fun q => if q = 2 * i then own_lo (f i) else (fun q => if q < 2 * i then own_u16 f q else 0) q) j) = (if j < 2 * (i + 1) then own_u16 f j else 0) := by
  by_cases h1 : j = 2 * i + 1
  · subst h1; rw [if_pos rfl, if_pos (by omega), own_u16o]
  · rw [if_neg h1]; show (if j = 2 * i then own_lo (f i) else if j < 2 * i then own_u16 f j else 0) = _
    by_cases h2 : j = 2 * i
    · subst h2; rw [if_pos rfl, if_pos (by omega), own_u16e]
    · rw [if_neg h2]
      by_cases h3 : j < 2 * i
      · rw [if_pos h3, if_pos (by omega)]
      · rw [if_neg h3, if_neg (by omega)]
set_option maxRecDepth 65536 in
set_option maxHeartbeats 40000000 in
theorem loopT {p : Program} {l : Launch} {e : Env} {R : Room} {s : State} {m : MethodId} {args : Array Value} {below : List Frame} {meth : Method} {c : Code} {Z : State} {a0 : Array Value} (hx : p.tables.exec = Jvm.exec) (hZ : Z.Warmed39 s.vm) (hw : ∀ d ∈ tables_1, d.before a0 Z = true) (hby : c.code = jdk_52_method_14_code) (hml : c.maxLocals = 5) (hown : s.vm.findClass "java/lang/StringUTF16" = some m.cls) {n0 cells slots : Nat} (ca db : Addr) (kc kb : ClassId) (n : Nat) (f : Nat → Int32) (zc : Int32) (fm : Value) (U0 : own_ST Z zc fm) (hn : n ≤ 16) (hcb : ca ≠ db) (gb : n0 ≤ db) (hRf : 0 + 1 ≤ R.frames) (hRl : 0 + (3 + 11) + 0 ≤ R.locals) (hRc : cells ≤ R.cells) (hRs : slots ≤ R.slots) :
    ∀ (fu i : Nat) (T0 : State) (h0 : Heap) (locs : List Loc), n ≤ i + fu → i ≤ n → Stand p l e R s m args below meth c T0 locs cells slots → T0.heap = h0 → Fr n0 locs → n0 ≤ h0.size → Old Z n0 h0 → Arv Z h0 ca kc .char (Int32.ofNat n) (own_tab f n) (.int (0 : Int32)) → Arv Z h0 db kb .byte (Int32.ofNat (2 * n)) (own_tab (fun q => if q < 2 * i then own_u16 f q else 0) (2 * n)) (.int (0 : Int32)) →
      ∃ (T' : State) (h' : Heap) (locs' : List Loc), Stand p l e R s m args below meth c T' locs' cells slots ∧ T'.heap = h' ∧ Fr n0 locs' ∧ Keep h0 h' [db] ∧ Old Z n0 h' ∧ Arv Z h' db kb .byte (Int32.ofNat (2 * n)) (own_tab (own_u16 f) (2 * n)) (.int (0 : Int32)) ∧ ∃ z1 z2 : Int32, ∀ t, Steps p.tables e below (T'.setTop (mkF m 32 #[.val (.ref ca), .val (.int z1), .val (.int (Int32.ofNat n)), .val (.ref db), .val (.int z2)] [])) t → Steps p.tables e below (T0.setTop (mkF m 8 #[.val (.ref ca), .val (.int (Int32.ofNat i)), .val (.int (Int32.ofNat n)), .val (.ref db), .val (.int (Int32.ofNat i))] [])) t := by
  intro fu
  induction fu with
  | zero =>
    intro i T0 h0 locs hfu hin X0 e0 N0 Z0 O0 Vc Vb
    have hgt : ¬ i < n := by omega
    have pre0 := fun τ (κ : Steps p.tables e below (T0.setTop (mkF m 8 #[.val (.ref ca), .val (.int (Int32.ofNat i)), .val (.int (Int32.ofNat n)), .val (.ref db), .val (.int (Int32.ofNat i))] [])) τ) => κ
    have Kp0 : Keep h0 h0 [db] := Keep.refl _ _
    have pre1 := fun τ (κ : Steps p.tables e below (T0.setTop (mkF m 32 #[.val (.ref ca), .val (.int (Int32.ofNat i)), .val (.int (Int32.ofNat n)), .val (.ref db), .val (.int (Int32.ofNat i))] [])) τ) => pre0 τ (by
      refine XS.iload X0.here hx rfl (hb hby d28_8) rfl ?_
      refine XS.iloadN X0.here hx rfl (hb hby d28_10) rfl ?_
      refine XS.icmpYes X0.here hx rfl (pc0 := 11) (pc' := 32) rfl (hb hby d28_11) rfl (flt (fun q => hgt ((own_ltN (by omega) (by omega)).mp q))).2.1 (by decide) (by decide) ?_
      show Steps p.tables e below (T0.setTop (mkF m 32 #[.val (.ref ca), .val (.int (Int32.ofNat i)), .val (.int (Int32.ofNat n)), .val (.ref db), .val (.int (Int32.ofNat i))] [])) _
      exact κ)
    have V_db_2 : Arv Z h0 db kb .byte (Int32.ofNat (2 * n)) (own_tab (own_u16 f) (2 * n)) (.int (0 : Int32)) := own_cg Vb (fun j hj => by rw [if_pos (by omega)])
    exact ⟨T0, h0, locs, X0, e0, N0, Kp0, O0, V_db_2, _, _, pre1⟩
  | succ fu ih =>
    intro i T0 h0 locs hfu hin X0 e0 N0 Z0 O0 Vc Vb
    by_cases hgt : i < n
    · skip
      have pre0 := fun τ (κ : Steps p.tables e below (T0.setTop (mkF m 8 #[.val (.ref ca), .val (.int (Int32.ofNat i)), .val (.int (Int32.ofNat n)), .val (.ref db), .val (.int (Int32.ofNat i))] [])) τ) => κ
      have Kp0 : Keep h0 h0 [db] := Keep.refl _ _
      have pre1 := fun τ (κ : Steps p.tables e below (T0.setTop (mkF m 19 #[.val (.ref ca), .val (.int (Int32.ofNat i)), .val (.int (Int32.ofNat n)), .val (.ref db), .val (.int (Int32.ofNat i))] [(.int (Int32.ofNat i)), (.ref ca), (.int (Int32.ofNat i)), (.ref db)])) τ) => pre0 τ (by
        refine XS.iload X0.here hx rfl (hb hby d28_8) rfl ?_
        refine XS.iloadN X0.here hx rfl (hb hby d28_10) rfl ?_
        refine XS.icmpNo X0.here hx rfl (hb hby d28_11) rfl (tlt ((own_ltN (by omega) (by omega)).mpr hgt)).2.1 ?_
        show Steps p.tables e below (T0.setTop (mkF m 14 #[.val (.ref ca), .val (.int (Int32.ofNat i)), .val (.int (Int32.ofNat n)), .val (.ref db), .val (.int (Int32.ofNat i))] [])) _
        refine XS.aloadN X0.here hx rfl (hb hby d28_14) rfl rfl ?_
        refine XS.iload X0.here hx rfl (hb hby d28_15) rfl ?_
        refine XS.aloadN X0.here hx rfl (hb hby d28_17) rfl rfl ?_
        refine XS.iloadN X0.here hx rfl (hb hby d28_18) rfl ?_
        show Steps p.tables e below (T0.setTop (mkF m 19 #[.val (.ref ca), .val (.int (Int32.ofNat i)), .val (.int (Int32.ofNat n)), .val (.ref db), .val (.int (Int32.ofNat i))] [(.int (Int32.ofNat i)), (.ref ca), (.int (Int32.ofNat i)), (.ref db)])) _
        exact κ)
      obtain ⟨cl2, Ar2, -, S2, M2, H2, -⟩ := id Vc
      have in2 : ¬ ((Int32.ofNat i) < 0 ∨ cl2.slots.size ≤ ((Int32.ofNat i)).toNatClampNeg) := inb_of S2 ⟨own_nn (by omega), (own_ltN (by omega) (by omega)).mpr (by omega)⟩
      have at2 : cl2.slots[((Int32.ofNat i)).toNatClampNeg]? = some (.int (f i)) := H2.at in2 (by rw [own_clamp (by omega)]; exact own_tab_get (by omega) _)
      have pre3 := fun τ (κ : Steps p.tables e below (T0.setTop (mkF m 20 #[.val (.ref ca), .val (.int (Int32.ofNat i)), .val (.int (Int32.ofNat n)), .val (.ref db), .val (.int (Int32.ofNat i))] [(.int (f i)), (.int (Int32.ofNat i)), (.ref db)])) τ) => pre1 τ (by
        refine X0.caload hx (j := (Int32.ofNat i)) (v := (.int (f i))) (by rw [e0]; exact Ar2.1) (State.isArrayOf_alike hZ.alike Ar2.2.1) Ar2.2.2 in2 at2 (g := (mkF m 19 #[.val (.ref ca), .val (.int (Int32.ofNat i)), .val (.int (Int32.ofNat n)), .val (.ref db), .val (.int (Int32.ofNat i))] [(.int (Int32.ofNat i)), (.ref ca), (.int (Int32.ofNat i)), (.ref db)])) rfl rfl (hb hby d28_19) _ ?_
        show Steps p.tables e below (T0.setTop (mkF m 20 #[.val (.ref ca), .val (.int (Int32.ofNat i)), .val (.int (Int32.ofNat n)), .val (.ref db), .val (.int (Int32.ofNat i))] [(.int (f i)), (.int (Int32.ofNat i)), (.ref db)])) _
        exact κ)
      obtain ⟨_, _, ⟨T4, L4, k4, n4⟩, -, X4, ⟨Lc4, hQ4, l4, y4, z4⟩, st4⟩ := Jvm.LawKit.callS X0 hx (y := (⟨"java/lang/StringUTF16", "putChar", "([BII)V"⟩ : MethodName)) hown (mvT hZ (hw _ (List.mem_of_getElem? (i := 137) rfl))) (mvT hZ (hw _ (List.mem_of_getElem? (i := 138) rfl))) (mvT hZ (hw _ (List.mem_of_getElem? (i := 96) rfl))) (mvT hZ (hw _ (List.mem_of_getElem? (i := 139) rfl))) (by decide) (backOf (W := 0) (rm31 l Z a0 hw [] db i (f i) n kb (fun q => if q < 2 * i then own_u16 f q else 0) zc fm h0 n0 Z0 O0 U0 Vb hn (by omega) gb) hZ (hw _ (List.mem_of_getElem? (i := 139) rfl)) (hw _ (List.mem_of_getElem? (i := 96) rfl)) hRf hRl) (g := (mkF m 20 #[.val (.ref ca), .val (.int (Int32.ofNat i)), .val (.int (Int32.ofNat n)), .val (.ref db), .val (.int (Int32.ofNat i))] [(.int (f i)), (.int (Int32.ofNat i)), (.ref db)])) rfl (by rw [hml]; rfl) (argsL := [(.ref db), (.int (Int32.ofNat i)), (.int (f i))]) (rest := []) (lenOf pd_1 rfl) rfl (by show 2 * 0 + _ ≤ _; exact Nat.le_of_eq rfl) (hb hby d28_20) (fun _ _ => ⟨rfl, e0, (by show cells + 0 ≤ R.cells; omega), (by show slots + 0 ≤ R.slots; omega)⟩)
      dsimp only [Pt.U, Pt.locs, Pt.cells, Pt.slots] at X4 l4 y4 z4 st4 hQ4
      subst l4 y4 z4
      obtain ⟨rfl, Nq4, K4, Vq4⟩ := hQ4
      have O0_4 : Old Z n0 T4.heap := O0.keep K4 (allS gb all0)
      have Vc_4 : Arv Z T4.heap ca kc .char (Int32.ofNat n) (own_tab f (n)) (.int (0 : Int32)) := Vc.keep K4 (ninS hcb nin0)
      have Z4 : n0 ≤ T4.heap.size := Nat.le_trans Z0 K4.1
      have Kp4 : Keep h0 T4.heap [db] := Kp0.trans K4 (allS (Or.inl (List.mem_of_getElem? (i := 0) rfl)) all0)
      have N4 := Fr.app N0 Nq4
      have pre5 := fun τ (κ : Steps p.tables e below (T4.setTop (mkF m 23 #[.val (.ref ca), .val (.int (Int32.ofNat i)), .val (.int (Int32.ofNat n)), .val (.ref db), .val (.int (Int32.ofNat i))] [])) τ) => pre3 τ (st4 _ κ)
      have V_db_6 : Arv Z T4.heap db kb .byte (Int32.ofNat (2 * n)) (own_tab (fun q => if q < 2 * (i + 1) then own_u16 f q else 0) (2 * n)) (.int (0 : Int32)) := own_cg Vq4 (fun j hj => by exact own_u16step f i j)
      have pre7 := fun τ (κ : Steps p.tables e below (T4.setTop (mkF m 8 #[.val (.ref ca), .val (.int ((Int32.ofNat i) + (1 : Int32))), .val (.int (Int32.ofNat n)), .val (.ref db), .val (.int ((Int32.ofNat i) + (1 : Int32)))] [])) τ) => pre5 τ (by
        refine XS.iinc X4.here hx rfl (hb hby d28_23) rfl (l' := #[.val (.ref ca), .val (.int ((Int32.ofNat i) + (1 : Int32))), .val (.int (Int32.ofNat n)), .val (.ref db), .val (.int (Int32.ofNat i))]) rfl ?_
        show Steps p.tables e below (T4.setTop (mkF m 26 #[.val (.ref ca), .val (.int ((Int32.ofNat i) + (1 : Int32))), .val (.int (Int32.ofNat n)), .val (.ref db), .val (.int (Int32.ofNat i))] [])) _
        refine XS.iinc X4.here hx rfl (hb hby d28_26) rfl (l' := #[.val (.ref ca), .val (.int ((Int32.ofNat i) + (1 : Int32))), .val (.int (Int32.ofNat n)), .val (.ref db), .val (.int ((Int32.ofNat i) + (1 : Int32)))]) rfl ?_
        show Steps p.tables e below (T4.setTop (mkF m 29 #[.val (.ref ca), .val (.int ((Int32.ofNat i) + (1 : Int32))), .val (.int (Int32.ofNat n)), .val (.ref db), .val (.int ((Int32.ofNat i) + (1 : Int32)))] [])) _
        refine XS.goto X4.here hx rfl (pc0 := 29) (pc' := 8) rfl (hb hby d28_29) (by decide) (by decide) ?_
        show Steps p.tables e below (T4.setTop (mkF m 8 #[.val (.ref ca), .val (.int ((Int32.ofNat i) + (1 : Int32))), .val (.int (Int32.ofNat n)), .val (.ref db), .val (.int ((Int32.ofNat i) + (1 : Int32)))] [])) _
        exact κ)
      rw [show ((Int32.ofNat i) + (1 : Int32)) = (Int32.ofNat (i + 1)) from (own_addN _ 1)] at pre7
      obtain ⟨T', h', lo', X', e', N', K', O', V', z1, z2, st⟩ := ih (i + 1) _ _ _ (by omega) (by omega) (by simpa using X4) rfl N4 Z4 O0_4 Vc_4 V_db_6
      exact ⟨T', h', lo', X', e', N', Kp4.trans K' (allS (Or.inl (List.mem_of_getElem? (i := 0) rfl)) all0), O', V', z1, z2, fun τ κ => pre7 τ (st τ κ)⟩
    · skip
      have pre0 := fun τ (κ : Steps p.tables e below (T0.setTop (mkF m 8 #[.val (.ref ca), .val (.int (Int32.ofNat i)), .val (.int (Int32.ofNat n)), .val (.ref db), .val (.int (Int32.ofNat i))] [])) τ) => κ
      have Kp0 : Keep h0 h0 [db] := Keep.refl _ _
      have pre1 := fun τ (κ : Steps p.tables e below (T0.setTop (mkF m 32 #[.val (.ref ca), .val (.int (Int32.ofNat i)), .val (.int (Int32.ofNat n)), .val (.ref db), .val (.int (Int32.ofNat i))] [])) τ) => pre0 τ (by
        refine XS.iload X0.here hx rfl (hb hby d28_8) rfl ?_
        refine XS.iloadN X0.here hx rfl (hb hby d28_10) rfl ?_
        refine XS.icmpYes X0.here hx rfl (pc0 := 11) (pc' := 32) rfl (hb hby d28_11) rfl (flt (fun q => hgt ((own_ltN (by omega) (by omega)).mp q))).2.1 (by decide) (by decide) ?_
        show Steps p.tables e below (T0.setTop (mkF m 32 #[.val (.ref ca), .val (.int (Int32.ofNat i)), .val (.int (Int32.ofNat n)), .val (.ref db), .val (.int (Int32.ofNat i))] [])) _
        exact κ)
      have V_db_2 : Arv Z h0 db kb .byte (Int32.ofNat (2 * n)) (own_tab (own_u16 f) (2 * n)) (.int (0 : Int32)) := own_cg Vb (fun j hj => by rw [if_pos (by omega)])
      exact ⟨T0, h0, locs, X0, e0, N0, Kp0, O0, V_db_2, _, _, pre1⟩

theorem ef_28 (m : MethodId) (ca : Addr) (n : Nat) (zc : Int32) (fm : Value) : entryFrame m #[(.ref ca), (.int (0 : Int32)), (.int (Int32.ofNat n))] 5 = mkF m 0 #[.val (.ref ca), .val (.int (0 : Int32)), .val (.int (Int32.ofNat n)), .unset, .unset] [] := by first | (simp [entryFrame, mkF, argsToLocals, Value.category]; done) | rfl
def Q28 (Z : State) (ca : Addr) (n : Nat) (kc : ClassId) (f : Nat → Int32) (zc : Int32) (fm : Value) (h0 : Heap) (n0 : Nat) (v : Option Value) (h : Heap) (L : List Loc) : Prop := ∃ (b : Addr) (kb : ClassId), v = some (.ref b) ∧ Fr n0 L ∧ Keep h0 h [] ∧ Arv Z h b kb .byte (Int32.ofNat (2 * n)) (own_tab (own_u16 f) (2 * n)) (.int (0 : Int32)) ∧ h0.size ≤ b
set_option maxRecDepth 65536 in
set_option maxHeartbeats 40000000 in
theorem rm28 (l : Launch) (Z : State) (a0 : Array Value) (hw : ∀ d ∈ tables_1, d.before a0 Z = true) (ws : List Jvm.Cond) (ca : Addr) (n : Nat) (kc : ClassId) (f : Nat → Int32) (zc : Int32) (fm : Value) (h0 : Heap) (n0 : Nat) (Z0 : n0 ≤ h0.size) (O0 : Old Z n0 h0) (U0 : own_ST Z zc fm) (Vc : Arv Z h0 ca kc .char (Int32.ofNat n) (own_tab f (n)) (.int (0 : Int32))) (hn : n ≤ 16) :
    MetFree l (⟨"java/lang/StringUTF16", "toBytes", "([CII)[B"⟩ : MethodName) (head1 (Jvm.Cond.code (⟨"java/lang/StringUTF16", "toBytes", "([CII)[B"⟩ : MethodName) jdk_52_method_14_code 5 (some (.array .byte)) :: ws) ({ frames := 2, cells := 1, slots := 32, locals := 24 } : Room)) (fun α υ => α = #[(.ref ca), (.int (0 : Int32)), (.int (Int32.ofNat n))] ∧ Z.Warmed39 υ.vm ∧ υ.heap = h0) (fun _ _ _ _ _ => True) (fun _ υ ω υ' => ∃ v L, ω = .returned v ∧ Q28 Z ca n kc f zc fm h0 n0 v υ'.heap L ∧ FrameEnd υ ω υ' L ({ frames := 2, cells := 1, slots := 32, locals := 24 } : Room).cells ({ frames := 2, cells := 1, slots := 32, locals := 24 } : Room).slots) := by
  refine MetFree.of_bodySF (plainFor_of_name pn_java_lang_StringUTF16) hisR ?_
  intro p e s m args below meth c s₁ Bd hml0 hP hK
  obtain ⟨rfl, hZ, hh⟩ := hP
  have hx := Bd.exec
  have hby := Bd.bytes
  have hml : c.maxLocals = 5 := hml0
  have hown : s.vm.findClass "java/lang/StringUTF16" = some m.cls := findClass_of_methodNamed Bd.named
  have hnm := (name_of_methodNamed Bd.named Bd.method).1
  have X0 : Stand p l e ({ frames := 2, cells := 1, slots := 32, locals := 24 } : Room) s m #[(.ref ca), (.int (0 : Int32)), (.int (Int32.ofNat n))] below meth c s₁ [] 0 0 := Stand.of_body Bd
  have e0 : s₁.heap = h0 := by rw [← hh, Bd.state]; rfl
  have N0 := Fr.nil n0
  have pre0 : ∀ τ, Steps p.tables e below (s₁.setTop (mkF m 0 #[.val (.ref ca), .val (.int (0 : Int32)), .val (.int (Int32.ofNat n)), .unset, .unset] [])) τ → Steps p.tables e below (s₁.setTop (entryFrame m #[(.ref ca), (.int (0 : Int32)), (.int (Int32.ofNat n))] 5)) τ := fun τ κ => castTop (ef_28 m ca n zc fm) κ
  have Kp0 : Keep h0 h0 [] := Keep.refl _ _
  have pre1 := fun τ (κ : Steps p.tables e below (s₁.setTop (mkF m 1 #[.val (.ref ca), .val (.int (0 : Int32)), .val (.int (Int32.ofNat n)), .unset, .unset] [(.int (Int32.ofNat n))])) τ) => pre0 τ (by
    refine XS.iloadN X0.here hx rfl (hb hby d28_0) rfl ?_
    show Steps p.tables e below (s₁.setTop (mkF m 1 #[.val (.ref ca), .val (.int (0 : Int32)), .val (.int (Int32.ofNat n)), .unset, .unset] [(.int (Int32.ofNat n))])) _
    exact κ)
  obtain ⟨_, _, ⟨T2, L2, k2, n2⟩, -, X2, ⟨Lc2, hQ2, l2, y2, z2⟩, st2⟩ := Jvm.LawKit.callS X0 hx (y := (⟨"java/lang/StringUTF16", "newBytesFor", "(I)[B"⟩ : MethodName)) hown (mvT hZ (hw _ (List.mem_of_getElem? (i := 130) rfl))) (mvT hZ (hw _ (List.mem_of_getElem? (i := 131) rfl))) (mvT hZ (hw _ (List.mem_of_getElem? (i := 96) rfl))) (mvT hZ (hw _ (List.mem_of_getElem? (i := 132) rfl))) (by decide) (backOf (W := 0) (rm29 l Z a0 hw [] n h0 n0 Z0 hn) hZ (hw _ (List.mem_of_getElem? (i := 132) rfl)) (hw _ (List.mem_of_getElem? (i := 96) rfl)) (Nat.le_of_ble_eq_true rfl) (Nat.le_of_ble_eq_true rfl)) (g := (mkF m 1 #[.val (.ref ca), .val (.int (0 : Int32)), .val (.int (Int32.ofNat n)), .unset, .unset] [(.int (Int32.ofNat n))])) rfl (by rw [hml]; rfl) (argsL := [(.int (Int32.ofNat n))]) (rest := []) (lenOf pd_2 rfl) rfl (by show 2 * 0 + _ ≤ _; exact Nat.le_of_eq rfl) (hb hby d28_1) (fun _ _ => ⟨rfl, e0, (by decide : 0 + 1 ≤ _), (by decide : 0 + 32 ≤ _)⟩)
  dsimp only [Pt.U, Pt.locs, Pt.cells, Pt.slots] at X2 l2 y2 z2 st2 hQ2
  subst l2 y2 z2
  obtain ⟨b, kb, rfl, Nq2, K2, Vb, sb⟩ := hQ2
  have O0_2 : Old Z n0 T2.heap := O0.keep K2 all0
  have Vc_2 : Arv Z T2.heap ca kc .char (Int32.ofNat n) (own_tab f (n)) (.int (0 : Int32)) := Vc.keep K2 nin0
  have Z2 : n0 ≤ T2.heap.size := Nat.le_trans Z0 K2.1
  have Kp2 : Keep h0 T2.heap [] := Kp0.trans K2 all0
  have N2 := Fr.app N0 Nq2
  have pre3 := fun τ (κ : Steps p.tables e below (T2.setTop (mkF m 4 #[.val (.ref ca), .val (.int (0 : Int32)), .val (.int (Int32.ofNat n)), .unset, .unset] [(.ref b)])) τ) => pre1 τ (st2 _ κ)
  have gb : n0 ≤ b := Nat.le_trans Z0 sb
  have hcb : ca ≠ b := Nat.ne_of_lt (Nat.lt_of_lt_of_le Vc.lt sb)
  have Vb0 : Arv Z T2.heap b kb .byte (Int32.ofNat (2 * n)) (own_tab (fun q => if q < 2 * 0 then own_u16 f q else 0) (2 * n)) (.int (0 : Int32)) := own_cg Vb (fun j hj => by rw [if_neg (by omega)])
  obtain ⟨T9, h9, lo9, X9, e9, N9, K9, O9, V9, z1, z2, st9⟩ := loopT hx hZ hw hby hml hown ca b kc kb n f zc fm U0 hn hcb gb (Nat.le_of_ble_eq_true rfl) (Nat.le_of_ble_eq_true rfl) (Nat.le_of_ble_eq_true rfl) (Nat.le_of_ble_eq_true rfl) n 0 _ _ _ (by omega) (by omega) X2 rfl N2 Z2 O0_2 Vc_2 Vb0
  have pre4 := fun τ (κ : Steps p.tables e below (T2.setTop (mkF m 8 #[.val (.ref ca), .val (.int (0 : Int32)), .val (.int (Int32.ofNat n)), .val (.ref b), .val (.int (0 : Int32))] [])) τ) => pre3 τ (by
    refine XS.astoreN X2.here hx rfl (hb hby d28_4) rfl rfl (l' := #[.val (.ref ca), .val (.int (0 : Int32)), .val (.int (Int32.ofNat n)), .val (.ref b), .unset]) rfl ?_
    show Steps p.tables e below (T2.setTop (mkF m 5 #[.val (.ref ca), .val (.int (0 : Int32)), .val (.int (Int32.ofNat n)), .val (.ref b), .unset] [])) _
    refine XS.iconst X2.here hx rfl (hb hby d28_5) ?_
    refine XS.istore X2.here hx rfl (hb hby d28_6) rfl (l' := #[.val (.ref ca), .val (.int (0 : Int32)), .val (.int (Int32.ofNat n)), .val (.ref b), .val (.int (0 : Int32))]) rfl ?_
    show Steps p.tables e below (T2.setTop (mkF m 8 #[.val (.ref ca), .val (.int (0 : Int32)), .val (.int (Int32.ofNat n)), .val (.ref b), .val (.int (0 : Int32))] [])) _
    exact κ)
  have pre99 := fun τ (κ : Steps p.tables e below (T9.setTop (mkF m 32 #[.val (.ref ca), .val (.int z1), .val (.int (Int32.ofNat n)), .val (.ref b), .val (.int z2)] [])) τ) => pre4 τ (st9 τ κ)
  have pre5 := fun τ (κ : Steps p.tables e below (T9.setTop (mkF m 33 #[.val (.ref ca), .val (.int z1), .val (.int (Int32.ofNat n)), .val (.ref b), .val (.int z2)] [(.ref b)])) τ) => pre99 τ (by
    refine XS.aloadN X9.here hx rfl (hb hby d28_32) rfl rfl ?_
    show Steps p.tables e below (T9.setTop (mkF m 33 #[.val (.ref ca), .val (.int z1), .val (.int (Int32.ofNat n)), .val (.ref b), .val (.int z2)] [(.ref b)])) _
    exact κ)
  obtain ⟨fs, hr, hrun, hended, hW, hsame⟩ := X9.leave (v := some (.ref b)) (fun h => by rw [Bd.returns] at h; cases h)
  refine ⟨_, _, pre5 _ ?_, hrun, hended, _, _, rfl, ?_, ⟨_, rfl⟩, hW, hsame.mono (by decide) (by decide)⟩
  · jvm_step X9.here [X9.here.top, hx, (hb hby d28_33), X9.method', Bd.returns, Value.isRef, FieldType.isReference]
    first | (intro acts; rw [hr _ acts rfl rfl rfl]) | rw [hr _ _ rfl rfl rfl]
    exact Steps.refl _
  · show Q28 Z ca n kc f zc fm h0 n0 _ T9.heap _
    rw [e9]
    exact ⟨b, kb, rfl, N9, Kp2.trans K9 (allS (Or.inr sb) all0), V9, sb⟩
theorem own_l1step (f : Nat → Int32) (i j : Nat) : (if j = i then own_l1 f i else (fun q => if q < i then own_l1 f q else 0) j) = (if j < i + 1 then own_l1 f j else 0) := by
  by_cases h1 : j = i
  · subst h1; rw [if_pos rfl, if_pos (by omega)]
  · rw [if_neg h1]; show (if j < i then own_l1 f j else 0) = _
    by_cases h3 : j < i
    · rw [if_pos h3, if_pos (by omega)]
    · rw [if_neg h3, if_neg (by omega)]
theorem own_allS {f : Nat → Int32} {i : Nat} (h : ∀ j, j < i → ¬ (255 : Int32) < f j) (hq : ¬ (255 : Int32) < f i) : ∀ j, j < i + 1 → ¬ (255 : Int32) < f j := fun j hj => by
  by_cases q : j = i
  · subst q; exact hq
  · exact h j (by omega)
set_option maxRecDepth 65536 in
set_option maxHeartbeats 40000000 in
theorem loopK {p : Program} {l : Launch} {e : Env} {R : Room} {s : State} {m : MethodId} {args : Array Value} {below : List Frame} {meth : Method} {c : Code} {Z : State} {a0 : Array Value} (hx : p.tables.exec = Jvm.exec) (hZ : Z.Warmed39 s.vm) (hw : ∀ d ∈ tables_1, d.before a0 Z = true) (hby : c.code = jdk_52_method_21_code) (hml : c.maxLocals = 7) (hown : s.vm.findClass "java/lang/StringUTF16" = some m.cls) {n0 cells slots : Nat} (ca db : Addr) (kc kb : ClassId) (n : Nat) (f : Nat → Int32) (hn : n ≤ 16) (hcb : ca ≠ db) (gb : n0 ≤ db) :
    ∀ (fu i : Nat) (T0 : State) (h0 : Heap) (locs : List Loc) (s6 : Slot), One s6 → n ≤ i + fu → i ≤ n → (∀ j, j < i → ¬ (255 : Int32) < f j) → Stand p l e R s m args below meth c T0 locs cells slots → T0.heap = h0 → Fr n0 locs → n0 ≤ h0.size → Arv Z h0 ca kc .char (Int32.ofNat n) (own_tab f n) (.int (0 : Int32)) → Arv Z h0 db kb .byte (Int32.ofNat n) (own_tab (fun q => if q < i then own_l1 f q else 0) n) (.int (0 : Int32)) →
      ∃ (T' : State) (h' : Heap) (locs' : List Loc) (k pc9 : Nat) (L9 : Array Slot), Stand p l e R s m args below meth c T' locs' cells slots ∧ T'.heap = h' ∧ Fr n0 locs' ∧ Keep h0 h' [db] ∧ k ≤ n ∧ (∀ j, j < k → ¬ (255 : Int32) < f j) ∧ (k < n → (255 : Int32) < f k) ∧ Arv Z h' db kb .byte (Int32.ofNat n) (own_tab (fun q => if q < k then own_l1 f q else 0) n) (.int (0 : Int32)) ∧ decode c.code pc9 = .ok (.ireturn, 1) ∧ ∀ t, Steps p.tables e below (T'.setTop (mkF m pc9 L9 [.int (Int32.ofNat k)])) t → Steps p.tables e below (T0.setTop (mkF m 3 #[.val (.ref ca), .val (.int (Int32.ofNat i)), .val (.ref db), .val (.int (Int32.ofNat i)), .val (.int (Int32.ofNat n)), .val (.int (Int32.ofNat i)), s6] [])) t := by
  intro fu
  induction fu with
  | zero =>
    intro i T0 h0 locs s6 hs6 hfu hin hall X0 e0 N0 Z0 Vc Vb
    have hgt : ¬ i < n := by omega
    have pre0 := fun τ (κ : Steps p.tables e below (T0.setTop (mkF m 3 #[.val (.ref ca), .val (.int (Int32.ofNat i)), .val (.ref db), .val (.int (Int32.ofNat i)), .val (.int (Int32.ofNat n)), .val (.int (Int32.ofNat i)), s6] [])) τ) => κ
    have Kp0 : Keep h0 h0 [db] := Keep.refl _ _
    have pre1 := fun τ (κ : Steps p.tables e below (T0.setTop (mkF m 46 #[.val (.ref ca), .val (.int (Int32.ofNat i)), .val (.ref db), .val (.int (Int32.ofNat i)), .val (.int (Int32.ofNat n)), .val (.int (Int32.ofNat i)), s6] [(.int (Int32.ofNat n))])) τ) => pre0 τ (by
      refine XS.iload X0.here hx rfl (hb hby d21_3) rfl ?_
      refine XS.iload X0.here hx rfl (hb hby d21_5) rfl ?_
      refine XS.icmpYes X0.here hx rfl (pc0 := 7) (pc' := 44) rfl (hb hby d21_7) rfl (flt (fun q => hgt ((own_ltN (by omega) (by omega)).mp q))).2.1 (by decide) (by decide) ?_
      show Steps p.tables e below (T0.setTop (mkF m 44 #[.val (.ref ca), .val (.int (Int32.ofNat i)), .val (.ref db), .val (.int (Int32.ofNat i)), .val (.int (Int32.ofNat n)), .val (.int (Int32.ofNat i)), s6] [])) _
      refine XS.iload X0.here hx rfl (hb hby d21_44) rfl ?_
      show Steps p.tables e below (T0.setTop (mkF m 46 #[.val (.ref ca), .val (.int (Int32.ofNat i)), .val (.ref db), .val (.int (Int32.ofNat i)), .val (.int (Int32.ofNat n)), .val (.int (Int32.ofNat i)), s6] [(.int (Int32.ofNat n))])) _
      exact κ)
    have hin' : i = n := by omega
    subst hin'
    exact ⟨T0, h0, locs, i, 46, _, X0, e0, N0, Kp0, by omega, hall, (fun q => absurd q (by omega)), Vb, (hb hby d21_46), pre1⟩
  | succ fu ih =>
    intro i T0 h0 locs s6 hs6 hfu hin hall X0 e0 N0 Z0 Vc Vb
    by_cases hgt : i < n
    · skip
      have pre0 := fun τ (κ : Steps p.tables e below (T0.setTop (mkF m 3 #[.val (.ref ca), .val (.int (Int32.ofNat i)), .val (.ref db), .val (.int (Int32.ofNat i)), .val (.int (Int32.ofNat n)), .val (.int (Int32.ofNat i)), s6] [])) τ) => κ
      have Kp0 : Keep h0 h0 [db] := Keep.refl _ _
      have pre1 := fun τ (κ : Steps p.tables e below (T0.setTop (mkF m 12 #[.val (.ref ca), .val (.int (Int32.ofNat i)), .val (.ref db), .val (.int (Int32.ofNat i)), .val (.int (Int32.ofNat n)), .val (.int (Int32.ofNat i)), s6] [(.int (Int32.ofNat i)), (.ref ca)])) τ) => pre0 τ (by
        refine XS.iload X0.here hx rfl (hb hby d21_3) rfl ?_
        refine XS.iload X0.here hx rfl (hb hby d21_5) rfl ?_
        refine XS.icmpNo X0.here hx rfl (hb hby d21_7) rfl (tlt ((own_ltN (by omega) (by omega)).mpr hgt)).2.1 ?_
        show Steps p.tables e below (T0.setTop (mkF m 10 #[.val (.ref ca), .val (.int (Int32.ofNat i)), .val (.ref db), .val (.int (Int32.ofNat i)), .val (.int (Int32.ofNat n)), .val (.int (Int32.ofNat i)), s6] [])) _
        refine XS.aloadN X0.here hx rfl (hb hby d21_10) rfl rfl ?_
        refine XS.iloadN X0.here hx rfl (hb hby d21_11) rfl ?_
        show Steps p.tables e below (T0.setTop (mkF m 12 #[.val (.ref ca), .val (.int (Int32.ofNat i)), .val (.ref db), .val (.int (Int32.ofNat i)), .val (.int (Int32.ofNat n)), .val (.int (Int32.ofNat i)), s6] [(.int (Int32.ofNat i)), (.ref ca)])) _
        exact κ)
      obtain ⟨cl2, Ar2, -, S2, M2, H2, -⟩ := id Vc
      have in2 : ¬ ((Int32.ofNat i) < 0 ∨ cl2.slots.size ≤ ((Int32.ofNat i)).toNatClampNeg) := inb_of S2 ⟨own_nn (by omega), (own_ltN (by omega) (by omega)).mpr (by omega)⟩
      have at2 : cl2.slots[((Int32.ofNat i)).toNatClampNeg]? = some (.int (f i)) := H2.at in2 (by rw [own_clamp (by omega)]; exact own_tab_get (by omega) _)
      have pre3 := fun τ (κ : Steps p.tables e below (T0.setTop (mkF m 20 #[.val (.ref ca), .val (.int (Int32.ofNat i)), .val (.ref db), .val (.int (Int32.ofNat i)), .val (.int (Int32.ofNat n)), .val (.int (Int32.ofNat i)), .val (.int (f i))] [(.int (255 : Int32)), (.int (f i))])) τ) => pre1 τ (by
        refine X0.caload hx (j := (Int32.ofNat i)) (v := (.int (f i))) (by rw [e0]; exact Ar2.1) (State.isArrayOf_alike hZ.alike Ar2.2.1) Ar2.2.2 in2 at2 (g := (mkF m 12 #[.val (.ref ca), .val (.int (Int32.ofNat i)), .val (.ref db), .val (.int (Int32.ofNat i)), .val (.int (Int32.ofNat n)), .val (.int (Int32.ofNat i)), s6] [(.int (Int32.ofNat i)), (.ref ca)])) rfl rfl (hb hby d21_12) _ ?_
        show Steps p.tables e below (T0.setTop (mkF m 13 #[.val (.ref ca), .val (.int (Int32.ofNat i)), .val (.ref db), .val (.int (Int32.ofNat i)), .val (.int (Int32.ofNat n)), .val (.int (Int32.ofNat i)), s6] [(.int (f i))])) _
        refine XS.istore X0.here hx rfl (hb hby d21_13) rfl (l' := #[.val (.ref ca), .val (.int (Int32.ofNat i)), .val (.ref db), .val (.int (Int32.ofNat i)), .val (.int (Int32.ofNat n)), .val (.int (Int32.ofNat i)), .val (.int (f i))]) (own_s6 hs6) ?_
        show Steps p.tables e below (T0.setTop (mkF m 15 #[.val (.ref ca), .val (.int (Int32.ofNat i)), .val (.ref db), .val (.int (Int32.ofNat i)), .val (.int (Int32.ofNat n)), .val (.int (Int32.ofNat i)), .val (.int (f i))] [])) _
        refine XS.iload X0.here hx rfl (hb hby d21_15) rfl ?_
        refine XS.sipush X0.here hx rfl (hb hby d21_17) ?_
        show Steps p.tables e below (T0.setTop (mkF m 20 #[.val (.ref ca), .val (.int (Int32.ofNat i)), .val (.ref db), .val (.int (Int32.ofNat i)), .val (.int (Int32.ofNat n)), .val (.int (Int32.ofNat i)), .val (.int (f i))] [(.int (255 : Int32)), (.int (f i))])) _
        exact κ)
      by_cases hq : (255 : Int32) < (f i)
      · have pre4 := fun τ (κ : Steps p.tables e below (T0.setTop (mkF m 25 #[.val (.ref ca), .val (.int (Int32.ofNat i)), .val (.ref db), .val (.int (Int32.ofNat i)), .val (.int (Int32.ofNat n)), .val (.int (Int32.ofNat i)), .val (.int (f i))] [(.int (Int32.ofNat i))])) τ) => pre3 τ (by
          refine XS.icmpNo X0.here hx rfl (hb hby d21_20) rfl (tlt hq).2.2.2 ?_
          show Steps p.tables e below (T0.setTop (mkF m 23 #[.val (.ref ca), .val (.int (Int32.ofNat i)), .val (.ref db), .val (.int (Int32.ofNat i)), .val (.int (Int32.ofNat n)), .val (.int (Int32.ofNat i)), .val (.int (f i))] [])) _
          refine XS.iload X0.here hx rfl (hb hby d21_23) rfl ?_
          show Steps p.tables e below (T0.setTop (mkF m 25 #[.val (.ref ca), .val (.int (Int32.ofNat i)), .val (.ref db), .val (.int (Int32.ofNat i)), .val (.int (Int32.ofNat n)), .val (.int (Int32.ofNat i)), .val (.int (f i))] [(.int (Int32.ofNat i))])) _
          exact κ)
        exact ⟨T0, h0, locs, i, 25, _, X0, e0, N0, Kp0, by omega, hall, (fun _ => hq), Vb, (hb hby d21_25), pre4⟩
      · have pre5 := fun τ (κ : Steps p.tables e below (T0.setTop (mkF m 31 #[.val (.ref ca), .val (.int (Int32.ofNat i)), .val (.ref db), .val (.int (Int32.ofNat i)), .val (.int (Int32.ofNat n)), .val (.int (Int32.ofNat i)), .val (.int (f i))] [(.int ((f i).toInt8.toInt32)), (.int (Int32.ofNat i)), (.ref db)])) τ) => pre3 τ (by
          refine XS.icmpYes X0.here hx rfl (pc0 := 20) (pc' := 26) rfl (hb hby d21_20) rfl (flt hq).2.2.2 (by decide) (by decide) ?_
          show Steps p.tables e below (T0.setTop (mkF m 26 #[.val (.ref ca), .val (.int (Int32.ofNat i)), .val (.ref db), .val (.int (Int32.ofNat i)), .val (.int (Int32.ofNat n)), .val (.int (Int32.ofNat i)), .val (.int (f i))] [])) _
          refine XS.aloadN X0.here hx rfl (hb hby d21_26) rfl rfl ?_
          refine XS.iloadN X0.here hx rfl (hb hby d21_27) rfl ?_
          refine XS.iload X0.here hx rfl (hb hby d21_28) rfl ?_
          refine XS.i2b X0.here hx rfl (hb hby d21_30) rfl ?_
          show Steps p.tables e below (T0.setTop (mkF m 31 #[.val (.ref ca), .val (.int (Int32.ofNat i)), .val (.ref db), .val (.int (Int32.ofNat i)), .val (.int (Int32.ofNat n)), .val (.int (Int32.ofNat i)), .val (.int (f i))] [(.int ((f i).toInt8.toInt32)), (.int (Int32.ofNat i)), (.ref db)])) _
          exact κ)
        have hj9 : (Int32.ofNat i).toNatClampNeg = i := own_clamp (by omega)
        have hi9 : i < (own_tab (fun q => if q < i then own_l1 f q else 0) (n)).length := by rw [own_tab_len]; omega
        obtain ⟨cl6, Ar6, q6, S6, M6, H6, G6⟩ := id Vb
        have in6 : ¬ ((Int32.ofNat i) < 0 ∨ cl6.slots.size ≤ ((Int32.ofNat i)).toNatClampNeg) := inb_of S6 ⟨own_nn (by omega), (own_ltN (by omega) (by omega)).mpr (by omega)⟩
        obtain ⟨T7, h7, X7, e7, W7, st7⟩ := stB X0 hx hZ e0 Ar6 (j := (Int32.ofNat i)) in6 (g := (mkF m 31 #[.val (.ref ca), .val (.int (Int32.ofNat i)), .val (.ref db), .val (.int (Int32.ofNat i)), .val (.int (Int32.ofNat n)), .val (.int (Int32.ofNat i)), .val (.int (f i))] [(.int ((f i).toInt8.toInt32)), (.int (Int32.ofNat i)), (.ref db)])) rfl rfl (hb hby d21_31)
        have Vc_7 : Arv Z h7 ca kc .char (Int32.ofNat n) (own_tab f (n)) (.int (0 : Int32)) := Vc.other W7 hcb
        have Kp7 : Keep h0 h7 [db] := Kp0.wr W7 (Or.inl (List.mem_of_getElem? (i := 0) rfl))
        have N7 := Fr.snoc X7 N0 gb
        have Z7 : n0 ≤ h7.size := Nat.le_trans Z0 (Keep.of_wr W7).1
        have V_db_7 : Arv Z h7 db kb .byte (Int32.ofNat n) (own_tab (fun q => if q = i then own_l1 f i else ((fun q => if q < i then own_l1 f q else 0)) q) (n)) (.int (0 : Int32)) := (by rw [show own_l1 f i = nar .byte ((f i).toInt8.toInt32) from (own_lolo (f i)).symm]; exact (own_tab_set (fun q => if q < i then own_l1 f q else 0) n i _) ▸ (Arv.set Ar6 q6 S6 M6 H6 G6 (fits_nar_byte _) W7 i (by first | rfl | assumption) (by assumption)))
        have pre8 := fun τ (κ : Steps p.tables e below (T7.setTop (mkF m 32 #[.val (.ref ca), .val (.int (Int32.ofNat i)), .val (.ref db), .val (.int (Int32.ofNat i)), .val (.int (Int32.ofNat n)), .val (.int (Int32.ofNat i)), .val (.int (f i))] [])) τ) => pre5 τ (st7 _ κ)
        have V_db_9 : Arv Z h7 db kb .byte (Int32.ofNat n) (own_tab (fun q => if q < (i + 1) then own_l1 f q else 0) (n)) (.int (0 : Int32)) := own_cg V_db_7 (fun j hj => by exact own_l1step f i j)
        have pre10 := fun τ (κ : Steps p.tables e below (T7.setTop (mkF m 3 #[.val (.ref ca), .val (.int ((Int32.ofNat i) + (1 : Int32))), .val (.ref db), .val (.int ((Int32.ofNat i) + (1 : Int32))), .val (.int (Int32.ofNat n)), .val (.int ((Int32.ofNat i) + (1 : Int32))), .val (.int (f i))] [])) τ) => pre8 τ (by
          refine XS.iinc X7.here hx rfl (hb hby d21_32) rfl (l' := #[.val (.ref ca), .val (.int ((Int32.ofNat i) + (1 : Int32))), .val (.ref db), .val (.int (Int32.ofNat i)), .val (.int (Int32.ofNat n)), .val (.int (Int32.ofNat i)), .val (.int (f i))]) rfl ?_
          show Steps p.tables e below (T7.setTop (mkF m 35 #[.val (.ref ca), .val (.int ((Int32.ofNat i) + (1 : Int32))), .val (.ref db), .val (.int (Int32.ofNat i)), .val (.int (Int32.ofNat n)), .val (.int (Int32.ofNat i)), .val (.int (f i))] [])) _
          refine XS.iinc X7.here hx rfl (hb hby d21_35) rfl (l' := #[.val (.ref ca), .val (.int ((Int32.ofNat i) + (1 : Int32))), .val (.ref db), .val (.int ((Int32.ofNat i) + (1 : Int32))), .val (.int (Int32.ofNat n)), .val (.int (Int32.ofNat i)), .val (.int (f i))]) rfl ?_
          show Steps p.tables e below (T7.setTop (mkF m 38 #[.val (.ref ca), .val (.int ((Int32.ofNat i) + (1 : Int32))), .val (.ref db), .val (.int ((Int32.ofNat i) + (1 : Int32))), .val (.int (Int32.ofNat n)), .val (.int (Int32.ofNat i)), .val (.int (f i))] [])) _
          refine XS.iinc X7.here hx rfl (hb hby d21_38) rfl (l' := #[.val (.ref ca), .val (.int ((Int32.ofNat i) + (1 : Int32))), .val (.ref db), .val (.int ((Int32.ofNat i) + (1 : Int32))), .val (.int (Int32.ofNat n)), .val (.int ((Int32.ofNat i) + (1 : Int32))), .val (.int (f i))]) rfl ?_
          show Steps p.tables e below (T7.setTop (mkF m 41 #[.val (.ref ca), .val (.int ((Int32.ofNat i) + (1 : Int32))), .val (.ref db), .val (.int ((Int32.ofNat i) + (1 : Int32))), .val (.int (Int32.ofNat n)), .val (.int ((Int32.ofNat i) + (1 : Int32))), .val (.int (f i))] [])) _
          refine XS.goto X7.here hx rfl (pc0 := 41) (pc' := 3) rfl (hb hby d21_41) (by decide) (by decide) ?_
          show Steps p.tables e below (T7.setTop (mkF m 3 #[.val (.ref ca), .val (.int ((Int32.ofNat i) + (1 : Int32))), .val (.ref db), .val (.int ((Int32.ofNat i) + (1 : Int32))), .val (.int (Int32.ofNat n)), .val (.int ((Int32.ofNat i) + (1 : Int32))), .val (.int (f i))] [])) _
          exact κ)
        rw [show ((Int32.ofNat i) + (1 : Int32)) = (Int32.ofNat (i + 1)) from (own_addN _ 1)] at pre10
        obtain ⟨T', h', lo', k9, pc9, L9, X', e', N', K', r0, r1, r2, V', d9, st⟩ := ih (i + 1) _ _ _ (.val (.int (f i))) (One.val rfl) (by omega) (by omega) (own_allS hall hq) X7 e7 N7 Z7 Vc_7 V_db_9
        exact ⟨T', h', lo', k9, pc9, L9, X', e', N', Kp7.trans K' (allS (Or.inl (List.mem_of_getElem? (i := 0) rfl)) all0), r0, r1, r2, V', d9, fun τ κ => pre10 τ (st τ κ)⟩
    · skip
      have pre0 := fun τ (κ : Steps p.tables e below (T0.setTop (mkF m 3 #[.val (.ref ca), .val (.int (Int32.ofNat i)), .val (.ref db), .val (.int (Int32.ofNat i)), .val (.int (Int32.ofNat n)), .val (.int (Int32.ofNat i)), s6] [])) τ) => κ
      have Kp0 : Keep h0 h0 [db] := Keep.refl _ _
      have pre1 := fun τ (κ : Steps p.tables e below (T0.setTop (mkF m 46 #[.val (.ref ca), .val (.int (Int32.ofNat i)), .val (.ref db), .val (.int (Int32.ofNat i)), .val (.int (Int32.ofNat n)), .val (.int (Int32.ofNat i)), s6] [(.int (Int32.ofNat n))])) τ) => pre0 τ (by
        refine XS.iload X0.here hx rfl (hb hby d21_3) rfl ?_
        refine XS.iload X0.here hx rfl (hb hby d21_5) rfl ?_
        refine XS.icmpYes X0.here hx rfl (pc0 := 7) (pc' := 44) rfl (hb hby d21_7) rfl (flt (fun q => hgt ((own_ltN (by omega) (by omega)).mp q))).2.1 (by decide) (by decide) ?_
        show Steps p.tables e below (T0.setTop (mkF m 44 #[.val (.ref ca), .val (.int (Int32.ofNat i)), .val (.ref db), .val (.int (Int32.ofNat i)), .val (.int (Int32.ofNat n)), .val (.int (Int32.ofNat i)), s6] [])) _
        refine XS.iload X0.here hx rfl (hb hby d21_44) rfl ?_
        show Steps p.tables e below (T0.setTop (mkF m 46 #[.val (.ref ca), .val (.int (Int32.ofNat i)), .val (.ref db), .val (.int (Int32.ofNat i)), .val (.int (Int32.ofNat n)), .val (.int (Int32.ofNat i)), s6] [(.int (Int32.ofNat n))])) _
        exact κ)
      have hin' : i = n := by omega
      subst hin'
      exact ⟨T0, h0, locs, i, 46, _, X0, e0, N0, Kp0, by omega, hall, (fun q => absurd q (by omega)), Vb, (hb hby d21_46), pre1⟩

theorem ef_21 (m : MethodId) (ca : Addr) (db : Addr) (n : Nat) : entryFrame m #[(.ref ca), (.int (0 : Int32)), (.ref db), (.int (0 : Int32)), (.int (Int32.ofNat n))] 7 = mkF m 0 #[.val (.ref ca), .val (.int (0 : Int32)), .val (.ref db), .val (.int (0 : Int32)), .val (.int (Int32.ofNat n)), .unset, .unset] [] := by first | (simp [entryFrame, mkF, argsToLocals, Value.category]; done) | rfl
def Q21 (Z : State) (ca : Addr) (db : Addr) (n : Nat) (kc : ClassId) (kb : ClassId) (f : Nat → Int32) (h0 : Heap) (n0 : Nat) (v : Option Value) (h : Heap) (L : List Loc) : Prop := ∃ k9 : Nat, v = some (.int (Int32.ofNat k9)) ∧ Fr n0 L ∧ Keep h0 h [db] ∧ k9 ≤ n ∧ (∀ j, j < k9 → ¬ (255 : Int32) < f j) ∧ (k9 < n → (255 : Int32) < f k9) ∧ Arv Z h db kb .byte (Int32.ofNat n) (own_tab (fun q => if q < k9 then own_l1 f q else 0) n) (.int (0 : Int32))
set_option maxRecDepth 65536 in
set_option maxHeartbeats 40000000 in
theorem rm21 (l : Launch) (Z : State) (a0 : Array Value) (hw : ∀ d ∈ tables_1, d.before a0 Z = true) (ws : List Jvm.Cond) (ca : Addr) (db : Addr) (n : Nat) (kc : ClassId) (kb : ClassId) (f : Nat → Int32) (h0 : Heap) (n0 : Nat) (Z0 : n0 ≤ h0.size) (Vc : Arv Z h0 ca kc .char (Int32.ofNat n) (own_tab f (n)) (.int (0 : Int32))) (Vb : Arv Z h0 db kb .byte (Int32.ofNat n) (own_tab (fun _ => 0) (n)) (.int (0 : Int32))) (hn : n ≤ 16) (hcb : ca ≠ db) (gb : n0 ≤ db) :
    MetFree l (⟨"java/lang/StringUTF16", "compress", "([CI[BII)I"⟩ : MethodName) (head1 (Jvm.Cond.code (⟨"java/lang/StringUTF16", "compress", "([CI[BII)I"⟩ : MethodName) jdk_52_method_21_code 7 (some .int) :: ws) ({ frames := 0, cells := 0, slots := 0, locals := 0 } : Room)) (fun α υ => α = #[(.ref ca), (.int (0 : Int32)), (.ref db), (.int (0 : Int32)), (.int (Int32.ofNat n))] ∧ Z.Warmed39 υ.vm ∧ υ.heap = h0) (fun _ _ _ _ _ => True) (fun _ υ ω υ' => ∃ v L, ω = .returned v ∧ Q21 Z ca db n kc kb f h0 n0 v υ'.heap L ∧ FrameEnd υ ω υ' L ({ frames := 0, cells := 0, slots := 0, locals := 0 } : Room).cells ({ frames := 0, cells := 0, slots := 0, locals := 0 } : Room).slots) := by
  refine MetFree.of_bodySF (plainFor_of_name pn_java_lang_StringUTF16) hisR ?_
  intro p e s m args below meth c s₁ Bd hml0 hP hK
  obtain ⟨rfl, hZ, hh⟩ := hP
  have hx := Bd.exec
  have hby := Bd.bytes
  have hml : c.maxLocals = 7 := hml0
  have hown : s.vm.findClass "java/lang/StringUTF16" = some m.cls := findClass_of_methodNamed Bd.named
  have hnm := (name_of_methodNamed Bd.named Bd.method).1
  have X0 : Stand p l e ({ frames := 0, cells := 0, slots := 0, locals := 0 } : Room) s m #[(.ref ca), (.int (0 : Int32)), (.ref db), (.int (0 : Int32)), (.int (Int32.ofNat n))] below meth c s₁ [] 0 0 := Stand.of_body Bd
  have e0 : s₁.heap = h0 := by rw [← hh, Bd.state]; rfl
  have N0 := Fr.nil n0
  have pre0 : ∀ τ, Steps p.tables e below (s₁.setTop (mkF m 0 #[.val (.ref ca), .val (.int (0 : Int32)), .val (.ref db), .val (.int (0 : Int32)), .val (.int (Int32.ofNat n)), .unset, .unset] [])) τ → Steps p.tables e below (s₁.setTop (entryFrame m #[(.ref ca), (.int (0 : Int32)), (.ref db), (.int (0 : Int32)), (.int (Int32.ofNat n))] 7)) τ := fun τ κ => castTop (ef_21 m ca db n) κ
  have pre1 := fun τ (κ : Steps p.tables e below (s₁.setTop (mkF m 3 #[.val (.ref ca), .val (.int (0 : Int32)), .val (.ref db), .val (.int (0 : Int32)), .val (.int (Int32.ofNat n)), .val (.int (0 : Int32)), .unset] [])) τ) => pre0 τ (by
    refine XS.iconst X0.here hx rfl (hb hby d21_0) ?_
    refine XS.istore X0.here hx rfl (hb hby d21_1) rfl (l' := #[.val (.ref ca), .val (.int (0 : Int32)), .val (.ref db), .val (.int (0 : Int32)), .val (.int (Int32.ofNat n)), .val (.int (0 : Int32)), .unset]) rfl ?_
    show Steps p.tables e below (s₁.setTop (mkF m 3 #[.val (.ref ca), .val (.int (0 : Int32)), .val (.ref db), .val (.int (0 : Int32)), .val (.int (Int32.ofNat n)), .val (.int (0 : Int32)), .unset] [])) _
    exact κ)
  have Vb0 : Arv Z h0 db kb .byte (Int32.ofNat n) (own_tab (fun q => if q < 0 then own_l1 f q else 0) n) (.int (0 : Int32)) := own_cg Vb (fun j hj => by rw [if_neg (by omega)])
  obtain ⟨T9, h9, lo9, k9, pc9, L9, X9, e9, N9, K9, r0, r1, r2, V9, d9, st9⟩ := loopK hx hZ hw hby hml hown ca db kc kb n f hn hcb gb n 0 _ _ _ .unset One.u (by omega) (by omega) (fun j hj => absurd hj (by omega)) X0 e0 N0 Z0 Vc Vb0
  have pre99 := fun τ (κ : Steps p.tables e below (T9.setTop (mkF m pc9 L9 [.int (Int32.ofNat k9)])) τ) => pre1 τ (st9 τ κ)
  obtain ⟨fs, hr, hrun, hended, hW, hsame⟩ := X9.leave (v := some (.int (Int32.ofNat k9))) (fun h => by rw [Bd.returns] at h; cases h)
  refine ⟨_, _, pre99 _ ?_, hrun, hended, _, _, rfl, ?_, ⟨_, rfl⟩, hW, hsame.mono (by decide) (by decide)⟩
  · exact retI X9 hx Bd.returns d9 hr
  · show Q21 Z ca db n kc kb f h0 n0 _ T9.heap _
    rw [e9]
    exact ⟨k9, rfl, N9, K9, r0, r1, r2, V9⟩
theorem ef_20 (m : MethodId) (ca : Addr) (n : Nat) (zc : Int32) (fm : Value) : entryFrame m #[(.ref ca), (.int (0 : Int32)), (.int (Int32.ofNat n))] 6 = mkF m 0 #[.val (.ref ca), .val (.int (0 : Int32)), .val (.int (Int32.ofNat n)), .unset, .unset, .unset] [] := by first | (simp [entryFrame, mkF, argsToLocals, Value.category]; done) | rfl
def Q20 (Z : State) (ca : Addr) (n : Nat) (kc : ClassId) (f : Nat → Int32) (zc : Int32) (fm : Value) (h0 : Heap) (n0 : Nat) (v : Option Value) (h : Heap) (L : List Loc) : Prop := ∃ (tb : Addr) (cd : Int32), v = some (.ref tb) ∧ Fr n0 L ∧ Keep h0 h [] ∧ h0.size ≤ tb ∧ own_BY Z h tb cd f n
set_option maxRecDepth 65536 in
set_option maxHeartbeats 40000000 in
theorem rm20 (l : Launch) (Z : State) (a0 : Array Value) (hw : ∀ d ∈ tables_1, d.before a0 Z = true) (ws : List Jvm.Cond) (ca : Addr) (n : Nat) (kc : ClassId) (f : Nat → Int32) (zc : Int32) (fm : Value) (h0 : Heap) (n0 : Nat) (Z0 : n0 ≤ h0.size) (O0 : Old Z n0 h0) (U0 : own_ST Z zc fm) (Vc : Arv Z h0 ca kc .char (Int32.ofNat n) (own_tab f (n)) (.int (0 : Int32))) (hn : n ≤ 16) (hf : ∀ j, j < n → own_ch (f j)) :
    MetFree l (⟨"java/lang/StringUTF16", "compress", "([CII)[B"⟩ : MethodName) (head1 (Jvm.Cond.code (⟨"java/lang/StringUTF16", "compress", "([CII)[B"⟩ : MethodName) jdk_52_method_16_code 6 (some (.array .byte)) :: ws) ({ frames := 3, cells := 2, slots := 48, locals := 40 } : Room)) (fun α υ => α = #[(.ref ca), (.int (0 : Int32)), (.int (Int32.ofNat n))] ∧ Z.Warmed39 υ.vm ∧ υ.heap = h0) (fun _ _ _ _ _ => True) (fun _ υ ω υ' => ∃ v L, ω = .returned v ∧ Q20 Z ca n kc f zc fm h0 n0 v υ'.heap L ∧ FrameEnd υ ω υ' L ({ frames := 3, cells := 2, slots := 48, locals := 40 } : Room).cells ({ frames := 3, cells := 2, slots := 48, locals := 40 } : Room).slots) := by
  refine MetFree.of_bodySF (plainFor_of_name pn_java_lang_StringUTF16) hisR ?_
  intro p e s m args below meth c s₁ Bd hml0 hP hK
  obtain ⟨rfl, hZ, hh⟩ := hP
  have hx := Bd.exec
  have hby := Bd.bytes
  have hml : c.maxLocals = 6 := hml0
  have hown : s.vm.findClass "java/lang/StringUTF16" = some m.cls := findClass_of_methodNamed Bd.named
  have hnm := (name_of_methodNamed Bd.named Bd.method).1
  have X0 : Stand p l e ({ frames := 3, cells := 2, slots := 48, locals := 40 } : Room) s m #[(.ref ca), (.int (0 : Int32)), (.int (Int32.ofNat n))] below meth c s₁ [] 0 0 := Stand.of_body Bd
  have e0 : s₁.heap = h0 := by rw [← hh, Bd.state]; rfl
  have N0 := Fr.nil n0
  have pre0 : ∀ τ, Steps p.tables e below (s₁.setTop (mkF m 0 #[.val (.ref ca), .val (.int (0 : Int32)), .val (.int (Int32.ofNat n)), .unset, .unset, .unset] [])) τ → Steps p.tables e below (s₁.setTop (entryFrame m #[(.ref ca), (.int (0 : Int32)), (.int (Int32.ofNat n))] 6)) τ := fun τ κ => castTop (ef_20 m ca n zc fm) κ
  have Kp0 : Keep h0 h0 [] := Keep.refl _ _
  have pre1 := fun τ (κ : Steps p.tables e below (s₁.setTop (mkF m 1 #[.val (.ref ca), .val (.int (0 : Int32)), .val (.int (Int32.ofNat n)), .unset, .unset, .unset] [(.int (Int32.ofNat n))])) τ) => pre0 τ (by
    refine XS.iloadN X0.here hx rfl (hb hby d20_0) rfl ?_
    show Steps p.tables e below (s₁.setTop (mkF m 1 #[.val (.ref ca), .val (.int (0 : Int32)), .val (.int (Int32.ofNat n)), .unset, .unset, .unset] [(.int (Int32.ofNat n))])) _
    exact κ)
  obtain ⟨T2, h2, k2, X2, e2, E2, A2, st2⟩ := newP X0 hx hZ (hw _ (List.mem_of_getElem? (i := 24) rfl)) e0 (g := (mkF m 1 #[.val (.ref ca), .val (.int (0 : Int32)), .val (.int (Int32.ofNat n)), .unset, .unset, .unset] [(.int (Int32.ofNat n))])) rfl (hb hby d20_1) rfl (own_nn (by omega)) (cap := 16) (by rw [own_clamp (by omega)]; omega) (by decide) (by decide) (by decide)
  obtain ⟨b, g2⟩ : ∃ z, z = h0.size := ⟨_, rfl⟩
  rw [← g2] at A2 st2
  have g_b : n0 ≤ b := Nat.le_trans Z0 (Nat.le_of_eq g2.symm)
  have ne_ca_b : ca ≠ b := Nat.ne_of_lt (Nat.lt_of_lt_of_le Vc.lt (Nat.le_of_eq g2.symm))
  have O0_2 : Old Z n0 h2 := O0.ext E2
  have Vc_2 : Arv Z h2 ca kc .char (Int32.ofNat n) (own_tab f (n)) (.int (0 : Int32)) := Vc.ext E2
  have sz_b : h0.size ≤ b := Nat.le_trans Kp0.1 (Nat.le_of_eq g2.symm)
  have Kp2 : Keep h0 h2 [] := Kp0.ext E2
  have Z2 : n0 ≤ h2.size := Nat.le_trans Z0 E2.1
  have V_b_2 : Arv Z h2 b k2 .byte (Int32.ofNat n) [] (.int (0 : Int32)) := Arv.new A2 (own_nn (by omega))
  have pre3 := fun τ (κ : Steps p.tables e below (T2.setTop (mkF m 3 #[.val (.ref ca), .val (.int (0 : Int32)), .val (.int (Int32.ofNat n)), .unset, .unset, .unset] [(.ref b)])) τ) => pre1 τ (st2 _ κ)
  have Vb : Arv Z h2 b k2 .byte (Int32.ofNat n) (own_tab (fun _ => 0) (n)) (.int (0 : Int32)) := by rw [own_tab_pad]; exact V_b_2.pad (pad_rep [] _ n)
  have pre4 := fun τ (κ : Steps p.tables e below (T2.setTop (mkF m 9 #[.val (.ref ca), .val (.int (0 : Int32)), .val (.int (Int32.ofNat n)), .val (.ref b), .unset, .unset] [(.int (Int32.ofNat n)), (.int (0 : Int32)), (.ref b), (.int (0 : Int32)), (.ref ca)])) τ) => pre3 τ (by
    refine XS.astoreN X2.here hx rfl (hb hby d20_3) rfl rfl (l' := #[.val (.ref ca), .val (.int (0 : Int32)), .val (.int (Int32.ofNat n)), .val (.ref b), .unset, .unset]) rfl ?_
    show Steps p.tables e below (T2.setTop (mkF m 4 #[.val (.ref ca), .val (.int (0 : Int32)), .val (.int (Int32.ofNat n)), .val (.ref b), .unset, .unset] [])) _
    refine XS.aloadN X2.here hx rfl (hb hby d20_4) rfl rfl ?_
    refine XS.iloadN X2.here hx rfl (hb hby d20_5) rfl ?_
    refine XS.aloadN X2.here hx rfl (hb hby d20_6) rfl rfl ?_
    refine XS.iconst X2.here hx rfl (hb hby d20_7) ?_
    refine XS.iloadN X2.here hx rfl (hb hby d20_8) rfl ?_
    show Steps p.tables e below (T2.setTop (mkF m 9 #[.val (.ref ca), .val (.int (0 : Int32)), .val (.int (Int32.ofNat n)), .val (.ref b), .unset, .unset] [(.int (Int32.ofNat n)), (.int (0 : Int32)), (.ref b), (.int (0 : Int32)), (.ref ca)])) _
    exact κ)
  obtain ⟨_, _, ⟨T5, L5, k5, n5⟩, -, X5, ⟨Lc5, hQ5, l5, y5, z5⟩, st5⟩ := Jvm.LawKit.callS X2 hx (y := (⟨"java/lang/StringUTF16", "compress", "([CI[BII)I"⟩ : MethodName)) hown (mvT hZ (hw _ (List.mem_of_getElem? (i := 98) rfl))) (mvT hZ (hw _ (List.mem_of_getElem? (i := 99) rfl))) (mvT hZ (hw _ (List.mem_of_getElem? (i := 96) rfl))) (mvT hZ (hw _ (List.mem_of_getElem? (i := 100) rfl))) (by decide) (backOf (W := 0) (rm21 l Z a0 hw [] ca b n kc k2 f h2 n0 Z2 Vc_2 Vb hn ne_ca_b g_b) hZ (hw _ (List.mem_of_getElem? (i := 100) rfl)) (hw _ (List.mem_of_getElem? (i := 96) rfl)) (Nat.le_of_ble_eq_true rfl) (Nat.le_of_ble_eq_true rfl)) (g := (mkF m 9 #[.val (.ref ca), .val (.int (0 : Int32)), .val (.int (Int32.ofNat n)), .val (.ref b), .unset, .unset] [(.int (Int32.ofNat n)), (.int (0 : Int32)), (.ref b), (.int (0 : Int32)), (.ref ca)])) rfl (by rw [hml]; rfl) (argsL := [(.ref ca), (.int (0 : Int32)), (.ref b), (.int (0 : Int32)), (.int (Int32.ofNat n))]) (rest := []) (lenOf pd_3 rfl) rfl (by show 2 * 0 + _ ≤ _; exact Nat.le_of_eq rfl) (hb hby d20_9) (fun _ _ => ⟨rfl, e2, (by decide : 1 + 0 ≤ _), (by decide : 16 + 0 ≤ _)⟩)
  dsimp only [Pt.U, Pt.locs, Pt.cells, Pt.slots] at X5 l5 y5 z5 st5 hQ5
  subst l5 y5 z5
  obtain ⟨k9, rfl, Nq5, K5, r0, r1, r2, Vk⟩ := hQ5
  have O0_5 : Old Z n0 T5.heap := O0_2.keep K5 (allS g_b all0)
  have Vc_5 : Arv Z T5.heap ca kc .char (Int32.ofNat n) (own_tab f (n)) (.int (0 : Int32)) := Vc_2.keep K5 (ninS ne_ca_b nin0)
  have Z5 : n0 ≤ T5.heap.size := Nat.le_trans Z2 K5.1
  have Kp5 : Keep h0 T5.heap [] := Kp2.trans K5 (allS (Or.inr sz_b) all0)
  have N5 := Fr.app N0 Nq5
  have pre6 := fun τ (κ : Steps p.tables e below (T5.setTop (mkF m 12 #[.val (.ref ca), .val (.int (0 : Int32)), .val (.int (Int32.ofNat n)), .val (.ref b), .unset, .unset] [(.int (Int32.ofNat k9))])) τ) => pre4 τ (st5 _ κ)
  have pre7 := fun τ (κ : Steps p.tables e below (T5.setTop (mkF m 17 #[.val (.ref ca), .val (.int (0 : Int32)), .val (.int (Int32.ofNat n)), .val (.ref b), .val (.int (Int32.ofNat k9)), .unset] [(.int (Int32.ofNat n)), (.int (Int32.ofNat k9))])) τ) => pre6 τ (by
    refine XS.istore X5.here hx rfl (hb hby d20_12) rfl (l' := #[.val (.ref ca), .val (.int (0 : Int32)), .val (.int (Int32.ofNat n)), .val (.ref b), .val (.int (Int32.ofNat k9)), .unset]) rfl ?_
    show Steps p.tables e below (T5.setTop (mkF m 14 #[.val (.ref ca), .val (.int (0 : Int32)), .val (.int (Int32.ofNat n)), .val (.ref b), .val (.int (Int32.ofNat k9)), .unset] [])) _
    refine XS.iload X5.here hx rfl (hb hby d20_14) rfl ?_
    refine XS.iloadN X5.here hx rfl (hb hby d20_16) rfl ?_
    show Steps p.tables e below (T5.setTop (mkF m 17 #[.val (.ref ca), .val (.int (0 : Int32)), .val (.int (Int32.ofNat n)), .val (.ref b), .val (.int (Int32.ofNat k9)), .unset] [(.int (Int32.ofNat n)), (.int (Int32.ofNat k9))])) _
    exact κ)
  by_cases hq : (Int32.ofNat k9) = (Int32.ofNat n)
  · have hkn : k9 = n := (own_injN (by omega) (by omega)).mp hq
    rw [hkn] at r1
    have V_b_8 : Arv Z T5.heap b k2 .byte (Int32.ofNat n) (own_tab (own_l1 f) (n)) (.int (0 : Int32)) := own_cg Vk (fun j hj => by rw [if_pos (by omega)])
    have pre9 := fun τ (κ : Steps p.tables e below (T5.setTop (mkF m 58 #[.val (.ref ca), .val (.int (0 : Int32)), .val (.int (Int32.ofNat n)), .val (.ref b), .val (.int (Int32.ofNat k9)), .unset] [(.ref b)])) τ) => pre7 τ (by
      refine XS.icmpYes X5.here hx rfl (pc0 := 17) (pc' := 57) rfl (hb hby d20_17) rfl (teq hq).1 (by decide) (by decide) ?_
      show Steps p.tables e below (T5.setTop (mkF m 57 #[.val (.ref ca), .val (.int (0 : Int32)), .val (.int (Int32.ofNat n)), .val (.ref b), .val (.int (Int32.ofNat k9)), .unset] [])) _
      refine XS.aloadN X5.here hx rfl (hb hby d20_57) rfl rfl ?_
      show Steps p.tables e below (T5.setTop (mkF m 58 #[.val (.ref ca), .val (.int (0 : Int32)), .val (.int (Int32.ofNat n)), .val (.ref b), .val (.int (Int32.ofNat k9)), .unset] [(.ref b)])) _
      exact κ)
    obtain ⟨fs, hr, hrun, hended, hW, hsame⟩ := X5.leave (v := some (.ref b)) (fun h => by rw [Bd.returns] at h; cases h)
    refine ⟨_, _, pre9 _ ?_, hrun, hended, _, _, rfl, ?_, ⟨_, rfl⟩, hW, hsame.mono (by decide) (by decide)⟩
    · jvm_step X5.here [X5.here.top, hx, (hb hby d20_58), X5.method', Bd.returns, Value.isRef, FieldType.isReference]
      first | (intro acts; rw [hr _ acts rfl rfl rfl]) | rw [hr _ _ rfl rfl rfl]
      exact Steps.refl _
    · show Q20 Z ca n kc f zc fm h0 n0 _ T5.heap _
      exact ⟨b, 0, rfl, N5, Kp5, sz_b, k2, Or.inl ⟨rfl, r1, V_b_8⟩⟩
  · have hkn : k9 < n := by have : k9 ≠ n := fun q => hq (by rw [q]); omega
    have pre10 := fun τ (κ : Steps p.tables e below (T5.setTop (mkF m 23 #[.val (.ref ca), .val (.int (0 : Int32)), .val (.int (Int32.ofNat n)), .val (.ref b), .val (.int (Int32.ofNat k9)), .unset] [(.int (Int32.ofNat n)), (.int (0 : Int32)), (.ref ca)])) τ) => pre7 τ (by
      refine XS.icmpNo X5.here hx rfl (hb hby d20_17) rfl (feq hq).1 ?_
      show Steps p.tables e below (T5.setTop (mkF m 20 #[.val (.ref ca), .val (.int (0 : Int32)), .val (.int (Int32.ofNat n)), .val (.ref b), .val (.int (Int32.ofNat k9)), .unset] [])) _
      refine XS.aloadN X5.here hx rfl (hb hby d20_20) rfl rfl ?_
      refine XS.iloadN X5.here hx rfl (hb hby d20_21) rfl ?_
      refine XS.iloadN X5.here hx rfl (hb hby d20_22) rfl ?_
      show Steps p.tables e below (T5.setTop (mkF m 23 #[.val (.ref ca), .val (.int (0 : Int32)), .val (.int (Int32.ofNat n)), .val (.ref b), .val (.int (Int32.ofNat k9)), .unset] [(.int (Int32.ofNat n)), (.int (0 : Int32)), (.ref ca)])) _
      exact κ)
    obtain ⟨_, _, ⟨T11, L11, k11, n11⟩, -, X11, ⟨Lc11, hQ11, l11, y11, z11⟩, st11⟩ := Jvm.LawKit.callS X5 hx (y := (⟨"java/lang/StringUTF16", "toBytes", "([CII)[B"⟩ : MethodName)) hown (mvT hZ (hw _ (List.mem_of_getElem? (i := 127) rfl))) (mvT hZ (hw _ (List.mem_of_getElem? (i := 128) rfl))) (mvT hZ (hw _ (List.mem_of_getElem? (i := 96) rfl))) (mvT hZ (hw _ (List.mem_of_getElem? (i := 129) rfl))) (by decide) (backOf (W := 0) (rm28 l Z a0 hw [] ca n kc f zc fm T5.heap n0 Z5 O0_5 U0 Vc_5 hn) hZ (hw _ (List.mem_of_getElem? (i := 129) rfl)) (hw _ (List.mem_of_getElem? (i := 96) rfl)) (Nat.le_of_ble_eq_true rfl) (Nat.le_of_ble_eq_true rfl)) (g := (mkF m 23 #[.val (.ref ca), .val (.int (0 : Int32)), .val (.int (Int32.ofNat n)), .val (.ref b), .val (.int (Int32.ofNat k9)), .unset] [(.int (Int32.ofNat n)), (.int (0 : Int32)), (.ref ca)])) rfl (by rw [hml]; rfl) (argsL := [(.ref ca), (.int (0 : Int32)), (.int (Int32.ofNat n))]) (rest := []) (lenOf pd_4 rfl) rfl (by show 2 * 0 + _ ≤ _; exact Nat.le_of_eq rfl) (hb hby d20_23) (fun _ _ => ⟨rfl, rfl, (by decide : 1 + 1 ≤ _), (by decide : 16 + 32 ≤ _)⟩)
    dsimp only [Pt.U, Pt.locs, Pt.cells, Pt.slots] at X11 l11 y11 z11 st11 hQ11
    subst l11 y11 z11
    obtain ⟨ub, ku, rfl, Nq11, K11, Vu, su⟩ := hQ11
    have O0_11 : Old Z n0 T11.heap := O0_5.keep K11 all0
    have Vc_11 : Arv Z T11.heap ca kc .char (Int32.ofNat n) (own_tab f (n)) (.int (0 : Int32)) := Vc_5.keep K11 nin0
    have Vk_11 : Arv Z T11.heap b k2 .byte (Int32.ofNat n) (own_tab (fun q => if q < k9 then own_l1 f q else 0) (n)) (.int (0 : Int32)) := Vk.keep K11 nin0
    have Z11 : n0 ≤ T11.heap.size := Nat.le_trans Z5 K11.1
    have Kp11 : Keep h0 T11.heap [] := Kp5.trans K11 all0
    have N11 := Fr.app N5 Nq11
    have pre12 := fun τ (κ : Steps p.tables e below (T11.setTop (mkF m 26 #[.val (.ref ca), .val (.int (0 : Int32)), .val (.int (Int32.ofNat n)), .val (.ref b), .val (.int (Int32.ofNat k9)), .unset] [(.ref ub)])) τ) => pre10 τ (st11 _ κ)
    have pre13 := fun τ (κ : Steps p.tables e below (T11.setTop (mkF m 32 #[.val (.ref ca), .val (.int (0 : Int32)), .val (.int (Int32.ofNat n)), .val (.ref b), .val (.int (Int32.ofNat k9)), .val (.ref ub)] [(.int (Int32.ofNat k9)), (.ref ub)])) τ) => pre12 τ (by
      refine XS.astore X11.here hx rfl (hb hby d20_26) rfl rfl (l' := #[.val (.ref ca), .val (.int (0 : Int32)), .val (.int (Int32.ofNat n)), .val (.ref b), .val (.int (Int32.ofNat k9)), .val (.ref ub)]) rfl ?_
      show Steps p.tables e below (T11.setTop (mkF m 28 #[.val (.ref ca), .val (.int (0 : Int32)), .val (.int (Int32.ofNat n)), .val (.ref b), .val (.int (Int32.ofNat k9)), .val (.ref ub)] [])) _
      refine XS.aload X11.here hx rfl (hb hby d20_28) rfl rfl ?_
      refine XS.iload X11.here hx rfl (hb hby d20_30) rfl ?_
      show Steps p.tables e below (T11.setTop (mkF m 32 #[.val (.ref ca), .val (.int (0 : Int32)), .val (.int (Int32.ofNat n)), .val (.ref b), .val (.int (Int32.ofNat k9)), .val (.ref ub)] [(.int (Int32.ofNat k9)), (.ref ub)])) _
      exact κ)
    obtain ⟨_, _, ⟨T14, L14, k14, n14⟩, -, X14, ⟨Lc14, hQ14, l14, y14, z14⟩, st14⟩ := Jvm.LawKit.callS X11 hx (y := (⟨"java/lang/StringUTF16", "getChar", "([BI)C"⟩ : MethodName)) hown (mvT hZ (hw _ (List.mem_of_getElem? (i := 143) rfl))) (mvT hZ (hw _ (List.mem_of_getElem? (i := 144) rfl))) (mvT hZ (hw _ (List.mem_of_getElem? (i := 96) rfl))) (mvT hZ (hw _ (List.mem_of_getElem? (i := 145) rfl))) (by decide) (backOf (W := 0) (rm32 l Z a0 hw [] ub k9 n ku f zc fm T11.heap n0 Z11 O0_11 U0 Vu hn hkn (hf k9 hkn)) hZ (hw _ (List.mem_of_getElem? (i := 145) rfl)) (hw _ (List.mem_of_getElem? (i := 96) rfl)) (Nat.le_of_ble_eq_true rfl) (Nat.le_of_ble_eq_true rfl)) (g := (mkF m 32 #[.val (.ref ca), .val (.int (0 : Int32)), .val (.int (Int32.ofNat n)), .val (.ref b), .val (.int (Int32.ofNat k9)), .val (.ref ub)] [(.int (Int32.ofNat k9)), (.ref ub)])) rfl (by rw [hml]; rfl) (argsL := [(.ref ub), (.int (Int32.ofNat k9))]) (rest := []) (lenOf pd_5 rfl) rfl (by show 2 * 0 + _ ≤ _; exact Nat.le_of_eq rfl) (hb hby d20_32) (fun _ _ => ⟨rfl, rfl, (by decide : 2 + 0 ≤ _), (by decide : 48 + 0 ≤ _)⟩)
    dsimp only [Pt.U, Pt.locs, Pt.cells, Pt.slots] at X14 l14 y14 z14 st14 hQ14
    subst l14 y14 z14
    obtain ⟨rfl, Nq14, hh14⟩ := hQ14
    have O0_14 : Old Z n0 T14.heap := by rw [hh14]; exact O0_11
    have Vc_14 : Arv Z T14.heap ca kc .char (Int32.ofNat n) (own_tab f (n)) (.int (0 : Int32)) := by rw [hh14]; exact Vc_11
    have Vk_14 : Arv Z T14.heap b k2 .byte (Int32.ofNat n) (own_tab (fun q => if q < k9 then own_l1 f q else 0) (n)) (.int (0 : Int32)) := by rw [hh14]; exact Vk_11
    have Vu_14 : Arv Z T14.heap ub ku .byte (Int32.ofNat (2 * n)) (own_tab (own_u16 f) (2 * n)) (.int (0 : Int32)) := by rw [hh14]; exact Vu
    have Z14 : n0 ≤ T14.heap.size := by rw [hh14]; exact Z11
    have Kp14 : Keep h0 T14.heap [] := by rw [hh14]; exact Kp11
    have N14 := Fr.app N11 Nq14
    have pre15 := fun τ (κ : Steps p.tables e below (T14.setTop (mkF m 35 #[.val (.ref ca), .val (.int (0 : Int32)), .val (.int (Int32.ofNat n)), .val (.ref b), .val (.int (Int32.ofNat k9)), .val (.ref ub)] [(.int (f k9))])) τ) => pre13 τ (st14 _ κ)
    have pre16 := fun τ (κ : Steps p.tables e below (T14.setTop (mkF m 56 #[.val (.ref ca), .val (.int (0 : Int32)), .val (.int (Int32.ofNat n)), .val (.ref b), .val (.int (Int32.ofNat k9)), .val (.ref ub)] [(.ref ub)])) τ) => pre15 τ (by
      refine XS.sipush X14.here hx rfl (hb hby d20_35) ?_
      refine XS.icmpYes X14.here hx rfl (pc0 := 38) (pc' := 54) rfl (hb hby d20_38) rfl (tlt (r2 hkn)).2.2.1 (by decide) (by decide) ?_
      show Steps p.tables e below (T14.setTop (mkF m 54 #[.val (.ref ca), .val (.int (0 : Int32)), .val (.int (Int32.ofNat n)), .val (.ref b), .val (.int (Int32.ofNat k9)), .val (.ref ub)] [])) _
      refine XS.aload X14.here hx rfl (hb hby d20_54) rfl rfl ?_
      show Steps p.tables e below (T14.setTop (mkF m 56 #[.val (.ref ca), .val (.int (0 : Int32)), .val (.int (Int32.ofNat n)), .val (.ref b), .val (.int (Int32.ofNat k9)), .val (.ref ub)] [(.ref ub)])) _
      exact κ)
    obtain ⟨fs, hr, hrun, hended, hW, hsame⟩ := X14.leave (v := some (.ref ub)) (fun h => by rw [Bd.returns] at h; cases h)
    refine ⟨_, _, pre16 _ ?_, hrun, hended, _, _, rfl, ?_, ⟨_, rfl⟩, hW, hsame.mono (by decide) (by decide)⟩
    · jvm_step X14.here [X14.here.top, hx, (hb hby d20_56), X14.method', Bd.returns, Value.isRef, FieldType.isReference]
      first | (intro acts; rw [hr _ acts rfl rfl rfl]) | rw [hr _ _ rfl rfl rfl]
      exact Steps.refl _
    · show Q20 Z ca n kc f zc fm h0 n0 _ T14.heap _
      exact ⟨ub, 1, rfl, N14, Kp14, Nat.le_trans Kp5.1 su, ku, Or.inr ⟨rfl, ⟨k9, hkn, r2 hkn⟩, Vu_14⟩⟩
theorem ef_22 (m : MethodId) (tb : Addr) (n : Nat) (cd : Int32) : entryFrame m #[(.ref tb), (.int (Int32.ofNat n))] 2 = mkF m 0 #[.val (.ref tb), .val (.int (Int32.ofNat n))] [] := by first | (simp [entryFrame, mkF, argsToLocals, Value.category]; done) | rfl
def Q22 (Z : State) (tb : Addr) (n : Nat) (cd : Int32) (f : Nat → Int32) (h0 : Heap) (n0 : Nat) (v : Option Value) (h : Heap) (L : List Loc) : Prop := v = some (.int cd) ∧ Fr n0 L ∧ h = h0
set_option maxRecDepth 65536 in
set_option maxHeartbeats 40000000 in
theorem rm22 (l : Launch) (Z : State) (a0 : Array Value) (hw : ∀ d ∈ tables_1, d.before a0 Z = true) (ws : List Jvm.Cond) (tb : Addr) (n : Nat) (cd : Int32) (f : Nat → Int32) (h0 : Heap) (n0 : Nat) (Z0 : n0 ≤ h0.size) (B0 : own_BY Z h0 tb cd f n) (hn : n ≤ 16) (hn0 : 0 < n) :
    MetFree l (⟨"java/lang/StringUTF16", "coderFromArrayLen", "([BI)B"⟩ : MethodName) (head1 (Jvm.Cond.code (⟨"java/lang/StringUTF16", "coderFromArrayLen", "([BI)B"⟩ : MethodName) jdk_52_method_15_code 2 (some .byte) :: ws) ({ frames := 0, cells := 0, slots := 0, locals := 0 } : Room)) (fun α υ => α = #[(.ref tb), (.int (Int32.ofNat n))] ∧ Z.Warmed39 υ.vm ∧ υ.heap = h0) (fun _ _ _ _ _ => True) (fun _ υ ω υ' => ∃ v L, ω = .returned v ∧ Q22 Z tb n cd f h0 n0 v υ'.heap L ∧ FrameEnd υ ω υ' L ({ frames := 0, cells := 0, slots := 0, locals := 0 } : Room).cells ({ frames := 0, cells := 0, slots := 0, locals := 0 } : Room).slots) := by
  refine MetFree.of_bodySF (plainFor_of_name pn_java_lang_StringUTF16) hisR ?_
  intro p e s m args below meth c s₁ Bd hml0 hP hK
  obtain ⟨rfl, hZ, hh⟩ := hP
  have hx := Bd.exec
  have hby := Bd.bytes
  have hml : c.maxLocals = 2 := hml0
  have hown : s.vm.findClass "java/lang/StringUTF16" = some m.cls := findClass_of_methodNamed Bd.named
  have hnm := (name_of_methodNamed Bd.named Bd.method).1
  have X0 : Stand p l e ({ frames := 0, cells := 0, slots := 0, locals := 0 } : Room) s m #[(.ref tb), (.int (Int32.ofNat n))] below meth c s₁ [] 0 0 := Stand.of_body Bd
  have e0 : s₁.heap = h0 := by rw [← hh, Bd.state]; rfl
  have N0 := Fr.nil n0
  have pre0 : ∀ τ, Steps p.tables e below (s₁.setTop (mkF m 0 #[.val (.ref tb), .val (.int (Int32.ofNat n))] [])) τ → Steps p.tables e below (s₁.setTop (entryFrame m #[(.ref tb), (.int (Int32.ofNat n))] 2)) τ := fun τ κ => castTop (ef_22 m tb n cd) κ
  obtain ⟨kb, ⟨hcd, -, Va⟩ | ⟨hcd, hex, Va⟩⟩ := B0
  · have pre1 := fun τ (κ : Steps p.tables e below (s₁.setTop (mkF m 2 #[.val (.ref tb), .val (.int (Int32.ofNat n))] [(.ref tb), (.int (Int32.ofNat n))])) τ) => pre0 τ (by
      refine XS.iloadN X0.here hx rfl (hb hby d22_0) rfl ?_
      refine XS.aloadN X0.here hx rfl (hb hby d22_1) rfl rfl ?_
      show Steps p.tables e below (s₁.setTop (mkF m 2 #[.val (.ref tb), .val (.int (Int32.ofNat n))] [(.ref tb), (.int (Int32.ofNat n))])) _
      exact κ)
    obtain ⟨cl2, Ar2, -, S2, M2, -, -⟩ := id Va
    have pre3 := fun τ (κ : Steps p.tables e below (s₁.setTop (mkF m 8 #[.val (.ref tb), .val (.int (Int32.ofNat n))] [(.int (((((Int32.ofNat n) - (Int32.ofNat n)).toUInt32 >>> ((31 : Int32) &&& 31).toUInt32).toInt32).toInt8.toInt32))])) τ) => pre1 τ (by
      refine X0.arraylength hx (by rw [e0]; exact Ar2.1) (State.isArrayOf_alike hZ.alike Ar2.2.1) (g := (mkF m 2 #[.val (.ref tb), .val (.int (Int32.ofNat n))] [(.ref tb), (.int (Int32.ofNat n))])) rfl rfl (hb hby d22_2) _ ?_
      rw [len_of S2 M2]
      show Steps p.tables e below (s₁.setTop (mkF m 3 #[.val (.ref tb), .val (.int (Int32.ofNat n))] [(.int (Int32.ofNat n)), (.int (Int32.ofNat n))])) _
      refine XS.isub X0.here hx rfl (hb hby d22_3) rfl ?_
      show Steps p.tables e below (s₁.setTop (mkF m 4 #[.val (.ref tb), .val (.int (Int32.ofNat n))] [(.int ((Int32.ofNat n) - (Int32.ofNat n)))])) _
      refine XS.bipush X0.here hx rfl (hb hby d22_4) ?_
      refine XS.iushr X0.here hx rfl (hb hby d22_6) rfl ?_
      show Steps p.tables e below (s₁.setTop (mkF m 7 #[.val (.ref tb), .val (.int (Int32.ofNat n))] [(.int ((((Int32.ofNat n) - (Int32.ofNat n)).toUInt32 >>> ((31 : Int32) &&& 31).toUInt32).toInt32))])) _
      refine XS.i2b X0.here hx rfl (hb hby d22_7) rfl ?_
      show Steps p.tables e below (s₁.setTop (mkF m 8 #[.val (.ref tb), .val (.int (Int32.ofNat n))] [(.int (((((Int32.ofNat n) - (Int32.ofNat n)).toUInt32 >>> ((31 : Int32) &&& 31).toUInt32).toInt32).toInt8.toInt32))])) _
      exact κ)
    rw [show (((((Int32.ofNat n) - (Int32.ofNat n)).toUInt32 >>> ((31 : Int32) &&& 31).toUInt32).toInt32).toInt8.toInt32) = cd from ((own_coder0 _).trans hcd.symm)] at pre3
    obtain ⟨fs, hr, hrun, hended, hW, hsame⟩ := X0.leave (v := some (.int (nar .byte cd))) (fun h => by rw [Bd.returns] at h; cases h)
    refine ⟨_, _, pre3 _ ?_, hrun, hended, _, _, rfl, ?_, ⟨_, rfl⟩, hW, hsame.mono (by decide) (by decide)⟩
    · exact retN X0 hx (t := .byte) Bd.returns (by simp) (hb hby d22_8) hr
    · show Q22 Z tb n cd f h0 n0 _ s₁.heap _
      rw [e0]
      exact ⟨(by rw [hcd]; rfl), N0, rfl⟩
  · have pre4 := fun τ (κ : Steps p.tables e below (s₁.setTop (mkF m 2 #[.val (.ref tb), .val (.int (Int32.ofNat n))] [(.ref tb), (.int (Int32.ofNat n))])) τ) => pre0 τ (by
      refine XS.iloadN X0.here hx rfl (hb hby d22_0) rfl ?_
      refine XS.aloadN X0.here hx rfl (hb hby d22_1) rfl rfl ?_
      show Steps p.tables e below (s₁.setTop (mkF m 2 #[.val (.ref tb), .val (.int (Int32.ofNat n))] [(.ref tb), (.int (Int32.ofNat n))])) _
      exact κ)
    obtain ⟨cl5, Ar5, -, S5, M5, -, -⟩ := id Va
    have pre6 := fun τ (κ : Steps p.tables e below (s₁.setTop (mkF m 8 #[.val (.ref tb), .val (.int (Int32.ofNat n))] [(.int (((((Int32.ofNat n) - (Int32.ofNat (2 * n))).toUInt32 >>> ((31 : Int32) &&& 31).toUInt32).toInt32).toInt8.toInt32))])) τ) => pre4 τ (by
      refine X0.arraylength hx (by rw [e0]; exact Ar5.1) (State.isArrayOf_alike hZ.alike Ar5.2.1) (g := (mkF m 2 #[.val (.ref tb), .val (.int (Int32.ofNat n))] [(.ref tb), (.int (Int32.ofNat n))])) rfl rfl (hb hby d22_2) _ ?_
      rw [len_of S5 M5]
      show Steps p.tables e below (s₁.setTop (mkF m 3 #[.val (.ref tb), .val (.int (Int32.ofNat n))] [(.int (Int32.ofNat (2 * n))), (.int (Int32.ofNat n))])) _
      refine XS.isub X0.here hx rfl (hb hby d22_3) rfl ?_
      show Steps p.tables e below (s₁.setTop (mkF m 4 #[.val (.ref tb), .val (.int (Int32.ofNat n))] [(.int ((Int32.ofNat n) - (Int32.ofNat (2 * n))))])) _
      refine XS.bipush X0.here hx rfl (hb hby d22_4) ?_
      refine XS.iushr X0.here hx rfl (hb hby d22_6) rfl ?_
      show Steps p.tables e below (s₁.setTop (mkF m 7 #[.val (.ref tb), .val (.int (Int32.ofNat n))] [(.int ((((Int32.ofNat n) - (Int32.ofNat (2 * n))).toUInt32 >>> ((31 : Int32) &&& 31).toUInt32).toInt32))])) _
      refine XS.i2b X0.here hx rfl (hb hby d22_7) rfl ?_
      show Steps p.tables e below (s₁.setTop (mkF m 8 #[.val (.ref tb), .val (.int (Int32.ofNat n))] [(.int (((((Int32.ofNat n) - (Int32.ofNat (2 * n))).toUInt32 >>> ((31 : Int32) &&& 31).toUInt32).toInt32).toInt8.toInt32))])) _
      exact κ)
    rw [show (((((Int32.ofNat n) - (Int32.ofNat (2 * n))).toUInt32 >>> ((31 : Int32) &&& 31).toUInt32).toInt32).toInt8.toInt32) = cd from ((own_coder hn hn0).trans hcd.symm)] at pre6
    obtain ⟨fs, hr, hrun, hended, hW, hsame⟩ := X0.leave (v := some (.int (nar .byte cd))) (fun h => by rw [Bd.returns] at h; cases h)
    refine ⟨_, _, pre6 _ ?_, hrun, hended, _, _, rfl, ?_, ⟨_, rfl⟩, hW, hsame.mono (by decide) (by decide)⟩
    · exact retN X0 hx (t := .byte) Bd.returns (by simp) (hb hby d22_8) hr
    · show Q22 Z tb n cd f h0 n0 _ s₁.heap _
      rw [e0]
      exact ⟨(by rw [hcd]; rfl), N0, rfl⟩
theorem ef_4 (m : MethodId) (sa : Addr) (ca : Addr) (n : Nat) (zc : Int32) (fm : Value) : entryFrame m #[(.ref sa), (.ref ca), (.int (0 : Int32)), (.int (Int32.ofNat n)), .null] 6 = mkF m 0 #[.val (.ref sa), .val (.ref ca), .val (.int (0 : Int32)), .val (.int (Int32.ofNat n)), .val .null, .unset] [] := by first | (simp [entryFrame, mkF, argsToLocals, Value.category]; done) | rfl
def Q4 (Z : State) (sa : Addr) (ca : Addr) (n : Nat) (kc : ClassId) (f : Nat → Int32) (zc : Int32) (fm : Value) (h0 : Heap) (n0 : Nat) (v : Option Value) (h : Heap) (L : List Loc) : Prop := v = none ∧ Fr n0 L ∧ Keep h0 h [sa] ∧ own_STR Z h sa f n
set_option maxRecDepth 65536 in
set_option maxHeartbeats 40000000 in
theorem rm4 (l : Launch) (Z : State) (a0 : Array Value) (hw : ∀ d ∈ tables_1, d.before a0 Z = true) (ws : List Jvm.Cond) (sa : Addr) (ca : Addr) (n : Nat) (kc : ClassId) (f : Nat → Int32) (zc : Int32) (fm : Value) (h0 : Heap) (n0 : Nat) (Z0 : n0 ≤ h0.size) (O0 : Old Z n0 h0) (U0 : own_ST Z zc fm) (E_s : Exa Z h0 sa "java/lang/String") (Fv : Fld Z h0 sa "java/lang/String" "value" "[B" .null) (Fc : Fld Z h0 sa "java/lang/String" "coder" "B" (.int (0 : Int32))) (Vc : Arv Z h0 ca kc .char (Int32.ofNat n) (own_tab f (n)) (.int (0 : Int32))) (hn : n ≤ 16) (hn0 : 0 < n) (hf : ∀ j, j < n → own_ch (f j)) (hsc : sa ≠ ca) (gs : n0 ≤ sa) :
    MetFree l (⟨"java/lang/String", "<init>", "([CIILjava/lang/Void;)V"⟩ : MethodName) (head1 (Jvm.Cond.code (⟨"java/lang/String", "<init>", "([CIILjava/lang/Void;)V"⟩ : MethodName) jdk_42_method_149_code 6 none :: ws) ({ frames := 4, cells := 2, slots := 48, locals := 57 } : Room)) (fun α υ => α = #[(.ref sa), (.ref ca), (.int (0 : Int32)), (.int (Int32.ofNat n)), .null] ∧ Z.Warmed39 υ.vm ∧ υ.heap = h0) (fun _ _ _ _ _ => True) (fun _ υ ω υ' => ∃ v L, ω = .returned v ∧ Q4 Z sa ca n kc f zc fm h0 n0 v υ'.heap L ∧ FrameEnd υ ω υ' L ({ frames := 4, cells := 2, slots := 48, locals := 57 } : Room).cells ({ frames := 4, cells := 2, slots := 48, locals := 57 } : Room).slots) := by
  refine MetFree.of_bodySF (plainFor_of_name pn_java_lang_String) hisR ?_
  intro p e s m args below meth c s₁ Bd hml0 hP hK
  obtain ⟨rfl, hZ, hh⟩ := hP
  have hx := Bd.exec
  have hby := Bd.bytes
  have hml : c.maxLocals = 6 := hml0
  have hown : s.vm.findClass "java/lang/String" = some m.cls := findClass_of_methodNamed Bd.named
  have hnm := (name_of_methodNamed Bd.named Bd.method).1
  have X0 : Stand p l e ({ frames := 4, cells := 2, slots := 48, locals := 57 } : Room) s m #[(.ref sa), (.ref ca), (.int (0 : Int32)), (.int (Int32.ofNat n)), .null] below meth c s₁ [] 0 0 := Stand.of_body Bd
  have e0 : s₁.heap = h0 := by rw [← hh, Bd.state]; rfl
  have N0 := Fr.nil n0
  have pre0 : ∀ τ, Steps p.tables e below (s₁.setTop (mkF m 0 #[.val (.ref sa), .val (.ref ca), .val (.int (0 : Int32)), .val (.int (Int32.ofNat n)), .val .null, .unset] [])) τ → Steps p.tables e below (s₁.setTop (entryFrame m #[(.ref sa), (.ref ca), (.int (0 : Int32)), (.int (Int32.ofNat n)), .null] 6)) τ := fun τ κ => castTop (ef_4 m sa ca n zc fm) κ
  obtain ⟨Scs, hcs, Sad, Shi, Slo, Sfm, r_fm⟩ := id U0
  have Kp0 : Keep h0 h0 [sa] := Keep.refl _ _
  have pre1 := fun τ (κ : Steps p.tables e below (s₁.setTop (mkF m 1 #[.val (.ref sa), .val (.ref ca), .val (.int (0 : Int32)), .val (.int (Int32.ofNat n)), .val .null, .unset] [(.ref sa)])) τ) => pre0 τ (by
    refine XS.aloadN X0.here hx rfl (hb hby d4_0) rfl rfl ?_
    show Steps p.tables e below (s₁.setTop (mkF m 1 #[.val (.ref sa), .val (.ref ca), .val (.int (0 : Int32)), .val (.int (Int32.ofNat n)), .val .null, .unset] [(.ref sa)])) _
    exact κ)
  obtain ⟨T2, X2, e2, st2⟩ := initO X0 hx hZ hown (hw _ (List.mem_of_getElem? (i := 20) rfl)) (hw _ (List.mem_of_getElem? (i := 21) rfl)) (hw _ (List.mem_of_getElem? (i := 22) rfl)) e0 (g := (mkF m 1 #[.val (.ref sa), .val (.ref ca), .val (.int (0 : Int32)), .val (.int (Int32.ofNat n)), .val .null, .unset] [(.ref sa)])) rfl (by rw [hml]; rfl) rfl (hb hby d4_1) (by decide) (W := 0) (by show 2 * 0 + _ ≤ _; exact Nat.le_of_eq rfl) (by decide)
  have pre3 := fun τ (κ : Steps p.tables e below (T2.setTop (mkF m 4 #[.val (.ref sa), .val (.ref ca), .val (.int (0 : Int32)), .val (.int (Int32.ofNat n)), .val .null, .unset] [])) τ) => pre1 τ (st2 _ κ)
  have pre4 := fun τ (κ : Steps p.tables e below (T2.setTop (mkF m 27 #[.val (.ref sa), .val (.ref ca), .val (.int (0 : Int32)), .val (.int (Int32.ofNat n)), .val .null, .unset] [])) τ) => pre3 τ (by
    refine XS.iloadN X2.here hx rfl (hb hby d4_4) rfl ?_
    refine XS.ifYes X2.here hx rfl (pc0 := 5) (pc' := 27) rfl (hb hby d4_5) rfl ((if0 _ _).trans (feq (fun q => by have := (own_injN (j := 0) (by omega) (by omega)).mp q; omega)).2) (by decide) (by decide) ?_
    show Steps p.tables e below (T2.setTop (mkF m 27 #[.val (.ref sa), .val (.ref ca), .val (.int (0 : Int32)), .val (.int (Int32.ofNat n)), .val .null, .unset] [])) _
    exact κ)
  obtain ⟨T5, X5, e5, st5⟩ := getS2 X2 hx hZ hown (host := "") (Or.inl (hw _ (List.mem_of_getElem? (i := 50) rfl))) Via.refl e2 (Scs.ext O0.2) (g := (mkF m 27 #[.val (.ref sa), .val (.ref ca), .val (.int (0 : Int32)), .val (.int (Int32.ofNat n)), .val .null, .unset] [])) rfl (hb hby d4_27)
  have pre6 := fun τ (κ : Steps p.tables e below (T5.setTop (mkF m 30 #[.val (.ref sa), .val (.ref ca), .val (.int (0 : Int32)), .val (.int (Int32.ofNat n)), .val .null, .unset] [(.int zc)])) τ) => pre4 τ (st5 _ κ)
  have pre7 := fun τ (κ : Steps p.tables e below (T5.setTop (mkF m 36 #[.val (.ref sa), .val (.ref ca), .val (.int (0 : Int32)), .val (.int (Int32.ofNat n)), .val .null, .unset] [(.int (Int32.ofNat n)), (.int (0 : Int32)), (.ref ca)])) τ) => pre6 τ (by
    refine XS.ifNo X5.here hx rfl (hb hby d4_30) rfl ((if0 _ _).trans (feq hcs).1) ?_
    show Steps p.tables e below (T5.setTop (mkF m 33 #[.val (.ref sa), .val (.ref ca), .val (.int (0 : Int32)), .val (.int (Int32.ofNat n)), .val .null, .unset] [])) _
    refine XS.aloadN X5.here hx rfl (hb hby d4_33) rfl rfl ?_
    refine XS.iloadN X5.here hx rfl (hb hby d4_34) rfl ?_
    refine XS.iloadN X5.here hx rfl (hb hby d4_35) rfl ?_
    show Steps p.tables e below (T5.setTop (mkF m 36 #[.val (.ref sa), .val (.ref ca), .val (.int (0 : Int32)), .val (.int (Int32.ofNat n)), .val .null, .unset] [(.int (Int32.ofNat n)), (.int (0 : Int32)), (.ref ca)])) _
    exact κ)
  obtain ⟨_, _, ⟨T8, L8, k8, n8⟩, -, X8, ⟨Lc8, hQ8, l8, y8, z8⟩, st8⟩ := Jvm.LawKit.callS X5 hx (y := (⟨"java/lang/StringUTF16", "compress", "([CII)[B"⟩ : MethodName)) hown (mvT hZ (hw _ (List.mem_of_getElem? (i := 94) rfl))) (mvT hZ (hw _ (List.mem_of_getElem? (i := 95) rfl))) (mvT hZ (hw _ (List.mem_of_getElem? (i := 96) rfl))) (mvT hZ (hw _ (List.mem_of_getElem? (i := 97) rfl))) (by decide) (backOf (W := 0) (rm20 l Z a0 hw [] ca n kc f zc fm h0 n0 Z0 O0 U0 Vc hn hf) hZ (hw _ (List.mem_of_getElem? (i := 97) rfl)) (hw _ (List.mem_of_getElem? (i := 96) rfl)) (Nat.le_of_ble_eq_true rfl) (Nat.le_of_ble_eq_true rfl)) (g := (mkF m 36 #[.val (.ref sa), .val (.ref ca), .val (.int (0 : Int32)), .val (.int (Int32.ofNat n)), .val .null, .unset] [(.int (Int32.ofNat n)), (.int (0 : Int32)), (.ref ca)])) rfl (by rw [hml]; rfl) (argsL := [(.ref ca), (.int (0 : Int32)), (.int (Int32.ofNat n))]) (rest := []) (lenOf pd_4 rfl) rfl (by show 2 * 0 + _ ≤ _; exact Nat.le_of_eq rfl) (hb hby d4_36) (fun _ _ => ⟨rfl, e5, (by decide : 0 + 2 ≤ _), (by decide : 0 + 48 ≤ _)⟩)
  dsimp only [Pt.U, Pt.locs, Pt.cells, Pt.slots] at X8 l8 y8 z8 st8 hQ8
  subst l8 y8 z8
  obtain ⟨tb, cd, rfl, Nq8, K8, stb, Bt⟩ := hQ8
  have O0_8 : Old Z n0 T8.heap := O0.keep K8 all0
  have E_s_8 : Exa Z T8.heap sa "java/lang/String" := E_s.keep K8
  have Fv_8 : Fld Z T8.heap sa "java/lang/String" "value" "[B" .null := Fv.keep K8 nin0
  have Fc_8 : Fld Z T8.heap sa "java/lang/String" "coder" "B" (.int (0 : Int32)) := Fc.keep K8 nin0
  have Vc_8 : Arv Z T8.heap ca kc .char (Int32.ofNat n) (own_tab f (n)) (.int (0 : Int32)) := Vc.keep K8 nin0
  have Z8 : n0 ≤ T8.heap.size := Nat.le_trans Z0 K8.1
  have Kp8 : Keep h0 T8.heap [sa] := Kp0.trans K8 all0
  have N8 := Fr.app N0 Nq8
  have pre9 := fun τ (κ : Steps p.tables e below (T8.setTop (mkF m 39 #[.val (.ref sa), .val (.ref ca), .val (.int (0 : Int32)), .val (.int (Int32.ofNat n)), .val .null, .unset] [(.ref tb)])) τ) => pre7 τ (st8 _ κ)
  have hts : tb ≠ sa := Ne.symm (Nat.ne_of_lt (Nat.lt_of_lt_of_le E_s.lt stb))
  have pre10 := fun τ (κ : Steps p.tables e below (T8.setTop (mkF m 45 #[.val (.ref sa), .val (.ref ca), .val (.int (0 : Int32)), .val (.int (Int32.ofNat n)), .val .null, .val (.ref tb)] [(.int (Int32.ofNat n)), (.ref tb), (.ref sa)])) τ) => pre9 τ (by
    refine XS.astore X8.here hx rfl (hb hby d4_39) rfl rfl (l' := #[.val (.ref sa), .val (.ref ca), .val (.int (0 : Int32)), .val (.int (Int32.ofNat n)), .val .null, .val (.ref tb)]) rfl ?_
    show Steps p.tables e below (T8.setTop (mkF m 41 #[.val (.ref sa), .val (.ref ca), .val (.int (0 : Int32)), .val (.int (Int32.ofNat n)), .val .null, .val (.ref tb)] [])) _
    refine XS.aloadN X8.here hx rfl (hb hby d4_41) rfl rfl ?_
    refine XS.aload X8.here hx rfl (hb hby d4_42) rfl rfl ?_
    refine XS.iloadN X8.here hx rfl (hb hby d4_44) rfl ?_
    show Steps p.tables e below (T8.setTop (mkF m 45 #[.val (.ref sa), .val (.ref ca), .val (.int (0 : Int32)), .val (.int (Int32.ofNat n)), .val .null, .val (.ref tb)] [(.int (Int32.ofNat n)), (.ref tb), (.ref sa)])) _
    exact κ)
  obtain ⟨_, _, ⟨T11, L11, k11, n11⟩, -, X11, ⟨Lc11, hQ11, l11, y11, z11⟩, st11⟩ := Jvm.LawKit.callS X8 hx (y := (⟨"java/lang/StringUTF16", "coderFromArrayLen", "([BI)B"⟩ : MethodName)) hown (mvT hZ (hw _ (List.mem_of_getElem? (i := 101) rfl))) (mvT hZ (hw _ (List.mem_of_getElem? (i := 102) rfl))) (mvT hZ (hw _ (List.mem_of_getElem? (i := 96) rfl))) (mvT hZ (hw _ (List.mem_of_getElem? (i := 103) rfl))) (by decide) (backOf (W := 1) (rm22 l Z a0 hw [] tb n cd f T8.heap n0 Z8 Bt hn hn0) hZ (hw _ (List.mem_of_getElem? (i := 103) rfl)) (hw _ (List.mem_of_getElem? (i := 96) rfl)) (Nat.le_of_ble_eq_true rfl) (Nat.le_of_ble_eq_true rfl)) (g := (mkF m 45 #[.val (.ref sa), .val (.ref ca), .val (.int (0 : Int32)), .val (.int (Int32.ofNat n)), .val .null, .val (.ref tb)] [(.int (Int32.ofNat n)), (.ref tb), (.ref sa)])) rfl (by rw [hml]; rfl) (argsL := [(.ref tb), (.int (Int32.ofNat n))]) (rest := [(.ref sa)]) (lenOf pd_6 rfl) rfl (by show 2 * 0 + _ ≤ _; exact Nat.le_of_eq rfl) (hb hby d4_45) (fun _ _ => ⟨rfl, rfl, (by decide : 2 + 0 ≤ _), (by decide : 48 + 0 ≤ _)⟩)
  dsimp only [Pt.U, Pt.locs, Pt.cells, Pt.slots] at X11 l11 y11 z11 st11 hQ11
  subst l11 y11 z11
  obtain ⟨rfl, Nq11, hh11⟩ := hQ11
  have O0_11 : Old Z n0 T11.heap := by rw [hh11]; exact O0_8
  have E_s_11 : Exa Z T11.heap sa "java/lang/String" := by rw [hh11]; exact E_s_8
  have Fv_11 : Fld Z T11.heap sa "java/lang/String" "value" "[B" .null := by rw [hh11]; exact Fv_8
  have Fc_11 : Fld Z T11.heap sa "java/lang/String" "coder" "B" (.int (0 : Int32)) := by rw [hh11]; exact Fc_8
  have Vc_11 : Arv Z T11.heap ca kc .char (Int32.ofNat n) (own_tab f (n)) (.int (0 : Int32)) := by rw [hh11]; exact Vc_8
  have Z11 : n0 ≤ T11.heap.size := by rw [hh11]; exact Z8
  have Kp11 : Keep h0 T11.heap [sa] := by rw [hh11]; exact Kp8
  have N11 := Fr.app N8 Nq11
  have pre12 := fun τ (κ : Steps p.tables e below (T11.setTop (mkF m 48 #[.val (.ref sa), .val (.ref ca), .val (.int (0 : Int32)), .val (.int (Int32.ofNat n)), .val .null, .val (.ref tb)] [(.int cd), (.ref sa)])) τ) => pre10 τ (st11 _ κ)
  rw [← hh11] at Bt
  obtain ⟨T13, h13, X13, e13, W13, st13⟩ := putFN X11 hx hZ hown (hw _ (List.mem_of_getElem? (i := 30) rfl)) Via.refl rfl Fc_11 E_s_11 (Or.inr ⟨(hw _ (List.mem_of_getElem? (i := 26) rfl)), rfl, hnm⟩) (hw _ (List.mem_of_getElem? (i := 10) rfl)) (ty := .byte) (v' := (.int cd)) (by decide) (by rcases Bt.cd with q | q <;> rw [q] <;> rfl) (by rcases Bt.cd with q | q <;> rw [q] <;> rfl) (g := (mkF m 48 #[.val (.ref sa), .val (.ref ca), .val (.int (0 : Int32)), .val (.int (Int32.ofNat n)), .val .null, .val (.ref tb)] [(.int cd), (.ref sa)])) rfl rfl (hb hby d4_48)
  have O0_13 : Old Z n0 h13 := O0_11.wr W13 gs
  have E_s_13 : Exa Z h13 sa "java/lang/String" := E_s_11.wr W13
  have Fv_13 : Fld Z h13 sa "java/lang/String" "value" "[B" .null := Fv_11.other W13 (Or.inr (slot_ne (Or.inr (hw _ (List.mem_of_getElem? (i := 25) rfl))) (Or.inr (hw _ (List.mem_of_getElem? (i := 26) rfl))) (by decide) (t := (.array .byte)) (t' := .byte) (by decide) (by decide)))
  have Vc_13 : Arv Z h13 ca kc .char (Int32.ofNat n) (own_tab f (n)) (.int (0 : Int32)) := Vc_11.other W13 (Ne.symm hsc)
  have Kp13 : Keep h0 h13 [sa] := Kp11.wr W13 (Or.inl (List.mem_of_getElem? (i := 0) rfl))
  have N13 := Fr.snoc X13 N11 gs
  have Z13 : n0 ≤ h13.size := Nat.le_trans Z11 (Keep.of_wr W13).1
  have F_coder_sa_13 : Fld Z h13 sa "java/lang/String" "coder" "B" (.int cd) := Fc_11.same W13
  have pre14 := fun τ (κ : Steps p.tables e below (T13.setTop (mkF m 51 #[.val (.ref sa), .val (.ref ca), .val (.int (0 : Int32)), .val (.int (Int32.ofNat n)), .val .null, .val (.ref tb)] [])) τ) => pre12 τ (st13 _ κ)
  have Bt1 := Bt.other W13 hts
  have pre15 := fun τ (κ : Steps p.tables e below (T13.setTop (mkF m 54 #[.val (.ref sa), .val (.ref ca), .val (.int (0 : Int32)), .val (.int (Int32.ofNat n)), .val .null, .val (.ref tb)] [(.ref tb), (.ref sa)])) τ) => pre14 τ (by
    refine XS.aloadN X13.here hx rfl (hb hby d4_51) rfl rfl ?_
    refine XS.aload X13.here hx rfl (hb hby d4_52) rfl rfl ?_
    show Steps p.tables e below (T13.setTop (mkF m 54 #[.val (.ref sa), .val (.ref ca), .val (.int (0 : Int32)), .val (.int (Int32.ofNat n)), .val .null, .val (.ref tb)] [(.ref tb), (.ref sa)])) _
    exact κ)
  obtain ⟨T16, h16, X16, e16, W16, st16⟩ := putF X13 hx hZ hown (host := "") (Or.inl (hw _ (List.mem_of_getElem? (i := 29) rfl))) Via.refl e13 Fv_13 E_s_13 (Or.inr ⟨(hw _ (List.mem_of_getElem? (i := 25) rfl)), rfl, hnm⟩) (hw _ (List.mem_of_getElem? (i := 10) rfl)) (ty := (.array .byte)) (by decide) rfl rfl (g := (mkF m 54 #[.val (.ref sa), .val (.ref ca), .val (.int (0 : Int32)), .val (.int (Int32.ofNat n)), .val .null, .val (.ref tb)] [(.ref tb), (.ref sa)])) rfl rfl (hb hby d4_54)
  have O0_16 : Old Z n0 h16 := O0_13.wr W16 gs
  have E_s_16 : Exa Z h16 sa "java/lang/String" := E_s_13.wr W16
  have Vc_16 : Arv Z h16 ca kc .char (Int32.ofNat n) (own_tab f (n)) (.int (0 : Int32)) := Vc_13.other W16 (Ne.symm hsc)
  have F_coder_sa_16 : Fld Z h16 sa "java/lang/String" "coder" "B" (.int cd) := F_coder_sa_13.other W16 (Or.inr (slot_ne (Or.inr (hw _ (List.mem_of_getElem? (i := 26) rfl))) (Or.inr (hw _ (List.mem_of_getElem? (i := 25) rfl))) (by decide) (t := .byte) (t' := (.array .byte)) (by decide) (by decide)))
  have Kp16 : Keep h0 h16 [sa] := Kp13.wr W16 (Or.inl (List.mem_of_getElem? (i := 0) rfl))
  have N16 := Fr.snoc X16 N13 gs
  have Z16 : n0 ≤ h16.size := Nat.le_trans Z13 (Keep.of_wr W16).1
  have F_value_sa_16 : Fld Z h16 sa "java/lang/String" "value" "[B" (.ref tb) := Fv_13.same W16
  have pre17 := fun τ (κ : Steps p.tables e below (T16.setTop (mkF m 57 #[.val (.ref sa), .val (.ref ca), .val (.int (0 : Int32)), .val (.int (Int32.ofNat n)), .val .null, .val (.ref tb)] [])) τ) => pre15 τ (st16 _ κ)
  have Bt2 := Bt1.other W16 hts
  obtain ⟨fs, hr, hrun, hended, hW, hsame⟩ := X16.leave (v := none) (fun _ => rfl)
  refine ⟨_, _, pre17 _ ?_, hrun, hended, _, _, rfl, ?_, ⟨_, rfl⟩, hW, hsame.mono (by decide) (by decide)⟩
  · exact X16.returnOut hx Bd.returns (hb hby d4_57) hr
  · show Q4 Z sa ca n kc f zc fm h0 n0 _ T16.heap _
    rw [e16]
    exact ⟨rfl, N16, Kp16, tb, cd, E_s_16, F_value_sa_16, F_coder_sa_16, Bt2⟩
theorem ef_3 (m : MethodId) (sa : Addr) (ca : Addr) (n : Nat) (zc : Int32) (fm : Value) : entryFrame m #[(.ref sa), (.ref ca)] 2 = mkF m 0 #[.val (.ref sa), .val (.ref ca)] [] := by first | (simp [entryFrame, mkF, argsToLocals, Value.category]; done) | rfl
def Q3 (Z : State) (sa : Addr) (ca : Addr) (n : Nat) (kc : ClassId) (f : Nat → Int32) (zc : Int32) (fm : Value) (h0 : Heap) (n0 : Nat) (v : Option Value) (h : Heap) (L : List Loc) : Prop := v = none ∧ Fr n0 L ∧ Keep h0 h [sa] ∧ own_STR Z h sa f n
set_option maxRecDepth 65536 in
set_option maxHeartbeats 40000000 in
theorem rm3 (l : Launch) (Z : State) (a0 : Array Value) (hw : ∀ d ∈ tables_1, d.before a0 Z = true) (ws : List Jvm.Cond) (sa : Addr) (ca : Addr) (n : Nat) (kc : ClassId) (f : Nat → Int32) (zc : Int32) (fm : Value) (h0 : Heap) (n0 : Nat) (Z0 : n0 ≤ h0.size) (O0 : Old Z n0 h0) (U0 : own_ST Z zc fm) (E_s : Exa Z h0 sa "java/lang/String") (Fv : Fld Z h0 sa "java/lang/String" "value" "[B" .null) (Fc : Fld Z h0 sa "java/lang/String" "coder" "B" (.int (0 : Int32))) (Vc : Arv Z h0 ca kc .char (Int32.ofNat n) (own_tab f (n)) (.int (0 : Int32))) (hn : n ≤ 16) (hn0 : 0 < n) (hf : ∀ j, j < n → own_ch (f j)) (hsc : sa ≠ ca) (gs : n0 ≤ sa) :
    MetFree l (⟨"java/lang/String", "<init>", "([C)V"⟩ : MethodName) (head1 (Jvm.Cond.code (⟨"java/lang/String", "<init>", "([C)V"⟩ : MethodName) jdk_42_method_3_code 2 none :: ws) ({ frames := 5, cells := 2, slots := 48, locals := 74 } : Room)) (fun α υ => α = #[(.ref sa), (.ref ca)] ∧ Z.Warmed39 υ.vm ∧ υ.heap = h0) (fun _ _ _ _ _ => True) (fun _ υ ω υ' => ∃ v L, ω = .returned v ∧ Q3 Z sa ca n kc f zc fm h0 n0 v υ'.heap L ∧ FrameEnd υ ω υ' L ({ frames := 5, cells := 2, slots := 48, locals := 74 } : Room).cells ({ frames := 5, cells := 2, slots := 48, locals := 74 } : Room).slots) := by
  refine MetFree.of_bodySF (plainFor_of_name pn_java_lang_String) hisR ?_
  intro p e s m args below meth c s₁ Bd hml0 hP hK
  obtain ⟨rfl, hZ, hh⟩ := hP
  have hx := Bd.exec
  have hby := Bd.bytes
  have hml : c.maxLocals = 2 := hml0
  have hown : s.vm.findClass "java/lang/String" = some m.cls := findClass_of_methodNamed Bd.named
  have hnm := (name_of_methodNamed Bd.named Bd.method).1
  have X0 : Stand p l e ({ frames := 5, cells := 2, slots := 48, locals := 74 } : Room) s m #[(.ref sa), (.ref ca)] below meth c s₁ [] 0 0 := Stand.of_body Bd
  have e0 : s₁.heap = h0 := by rw [← hh, Bd.state]; rfl
  have N0 := Fr.nil n0
  have pre0 : ∀ τ, Steps p.tables e below (s₁.setTop (mkF m 0 #[.val (.ref sa), .val (.ref ca)] [])) τ → Steps p.tables e below (s₁.setTop (entryFrame m #[(.ref sa), (.ref ca)] 2)) τ := fun τ κ => castTop (ef_3 m sa ca n zc fm) κ
  have Kp0 : Keep h0 h0 [sa] := Keep.refl _ _
  have pre1 := fun τ (κ : Steps p.tables e below (s₁.setTop (mkF m 4 #[.val (.ref sa), .val (.ref ca)] [(.ref ca), (.int (0 : Int32)), (.ref ca), (.ref sa)])) τ) => pre0 τ (by
    refine XS.aloadN X0.here hx rfl (hb hby d3_0) rfl rfl ?_
    refine XS.aloadN X0.here hx rfl (hb hby d3_1) rfl rfl ?_
    refine XS.iconst X0.here hx rfl (hb hby d3_2) ?_
    refine XS.aloadN X0.here hx rfl (hb hby d3_3) rfl rfl ?_
    show Steps p.tables e below (s₁.setTop (mkF m 4 #[.val (.ref sa), .val (.ref ca)] [(.ref ca), (.int (0 : Int32)), (.ref ca), (.ref sa)])) _
    exact κ)
  obtain ⟨cl2, Ar2, -, S2, M2, -, -⟩ := id Vc
  have pre3 := fun τ (κ : Steps p.tables e below (s₁.setTop (mkF m 6 #[.val (.ref sa), .val (.ref ca)] [.null, (.int (Int32.ofNat n)), (.int (0 : Int32)), (.ref ca), (.ref sa)])) τ) => pre1 τ (by
    refine X0.arraylength hx (by rw [e0]; exact Ar2.1) (State.isArrayOf_alike hZ.alike Ar2.2.1) (g := (mkF m 4 #[.val (.ref sa), .val (.ref ca)] [(.ref ca), (.int (0 : Int32)), (.ref ca), (.ref sa)])) rfl rfl (hb hby d3_4) _ ?_
    rw [len_of S2 M2]
    show Steps p.tables e below (s₁.setTop (mkF m 5 #[.val (.ref sa), .val (.ref ca)] [(.int (Int32.ofNat n)), (.int (0 : Int32)), (.ref ca), (.ref sa)])) _
    refine XS.aconstNull X0.here hx rfl (hb hby d3_5) ?_
    show Steps p.tables e below (s₁.setTop (mkF m 6 #[.val (.ref sa), .val (.ref ca)] [.null, (.int (Int32.ofNat n)), (.int (0 : Int32)), (.ref ca), (.ref sa)])) _
    exact κ)
  obtain ⟨_, _, ⟨T4, L4, k4, n4⟩, -, X4, ⟨Lc4, hQ4, l4, y4, z4⟩, st4⟩ := X0.specialBack hx (y := (⟨"java/lang/String", "<init>", "([CIILjava/lang/Void;)V"⟩ : MethodName)) rfl hown (mvT hZ (hw _ (List.mem_of_getElem? (i := 16) rfl))) (mvT hZ (hw _ (List.mem_of_getElem? (i := 17) rfl))) (mvT hZ (hw _ (List.mem_of_getElem? (i := 19) rfl))) (by decide) (backOf (W := 0) (rm4 l Z a0 hw [] sa ca n kc f zc fm h0 n0 Z0 O0 U0 E_s Fv Fc Vc hn hn0 hf hsc gs) hZ (hw _ (List.mem_of_getElem? (i := 19) rfl)) (hw _ (List.mem_of_getElem? (i := 11) rfl)) (Nat.le_of_ble_eq_true rfl) (Nat.le_of_ble_eq_true rfl)) (g := (mkF m 6 #[.val (.ref sa), .val (.ref ca)] [.null, (.int (Int32.ofNat n)), (.int (0 : Int32)), (.ref ca), (.ref sa)])) rfl (by rw [hml]; rfl) (Steps.refl _) (a := sa) (argsL := [(.ref ca), (.int (0 : Int32)), (.int (Int32.ofNat n)), .null]) (rest := []) (lenOf pd_7 rfl) rfl (by show 2 * 0 + _ ≤ _; exact Nat.le_of_eq rfl) (hb hby d3_6) (fun _ _ => ⟨rfl, e0, (by decide : 0 + 2 ≤ _), (by decide : 0 + 48 ≤ _)⟩)
  dsimp only [Pt.U, Pt.locs, Pt.cells, Pt.slots] at X4 l4 y4 z4 st4 hQ4
  subst l4 y4 z4
  obtain ⟨rfl, Nq4, K4, P4⟩ := hQ4
  have O0_4 : Old Z n0 T4.heap := O0.keep K4 (allS gs all0)
  have E_s_4 : Exa Z T4.heap sa "java/lang/String" := E_s.keep K4
  have Vc_4 : Arv Z T4.heap ca kc .char (Int32.ofNat n) (own_tab f (n)) (.int (0 : Int32)) := Vc.keep K4 (ninS (Ne.symm hsc) nin0)
  have Z4 : n0 ≤ T4.heap.size := Nat.le_trans Z0 K4.1
  have Kp4 : Keep h0 T4.heap [sa] := Kp0.trans K4 (allS (Or.inl (List.mem_of_getElem? (i := 0) rfl)) all0)
  have N4 := Fr.app N0 Nq4
  have pre5 := fun τ (κ : Steps p.tables e below (T4.setTop (mkF m 9 #[.val (.ref sa), .val (.ref ca)] [])) τ) => pre3 τ (st4.trans κ)
  obtain ⟨fs, hr, hrun, hended, hW, hsame⟩ := X4.leave (v := none) (fun _ => rfl)
  refine ⟨_, _, pre5 _ ?_, hrun, hended, _, _, rfl, ?_, ⟨_, rfl⟩, hW, hsame.mono (by decide) (by decide)⟩
  · exact X4.returnOut hx Bd.returns (hb hby d3_9) hr
  · show Q3 Z sa ca n kc f zc fm h0 n0 _ T4.heap _
    exact ⟨rfl, N4, Kp4, P4⟩
theorem ef_9 (m : MethodId) (sa : Addr) (cd : Int32) (zc : Int32) (fm : Value) : entryFrame m #[(.ref sa)] 1 = mkF m 0 #[.val (.ref sa)] [] := by first | (simp [entryFrame, mkF, argsToLocals, Value.category]; done) | rfl
def Q9 (Z : State) (sa : Addr) (cd : Int32) (zc : Int32) (fm : Value) (h0 : Heap) (n0 : Nat) (v : Option Value) (h : Heap) (L : List Loc) : Prop := v = some (.int cd) ∧ Fr n0 L ∧ h = h0
set_option maxRecDepth 65536 in
set_option maxHeartbeats 40000000 in
theorem rm9 (l : Launch) (Z : State) (a0 : Array Value) (hw : ∀ d ∈ tables_1, d.before a0 Z = true) (ws : List Jvm.Cond) (sa : Addr) (cd : Int32) (zc : Int32) (fm : Value) (h0 : Heap) (n0 : Nat) (Z0 : n0 ≤ h0.size) (O0 : Old Z n0 h0) (U0 : own_ST Z zc fm) (Fc : Fld Z h0 sa "java/lang/String" "coder" "B" (.int cd)) (hcd : cd = 0 ∨ cd = 1) :
    MetFree l (⟨"java/lang/String", "coder", "()B"⟩ : MethodName) (head1 (Jvm.Cond.code (⟨"java/lang/String", "coder", "()B"⟩ : MethodName) jdk_42_method_152_code 1 (some .byte) :: ws) ({ frames := 0, cells := 0, slots := 0, locals := 0 } : Room)) (fun α υ => α = #[(.ref sa)] ∧ Z.Warmed39 υ.vm ∧ υ.heap = h0) (fun _ _ _ _ _ => True) (fun _ υ ω υ' => ∃ v L, ω = .returned v ∧ Q9 Z sa cd zc fm h0 n0 v υ'.heap L ∧ FrameEnd υ ω υ' L ({ frames := 0, cells := 0, slots := 0, locals := 0 } : Room).cells ({ frames := 0, cells := 0, slots := 0, locals := 0 } : Room).slots) := by
  refine MetFree.of_bodySF (plainFor_of_name pn_java_lang_String) hisR ?_
  intro p e s m args below meth c s₁ Bd hml0 hP hK
  obtain ⟨rfl, hZ, hh⟩ := hP
  have hx := Bd.exec
  have hby := Bd.bytes
  have hml : c.maxLocals = 1 := hml0
  have hown : s.vm.findClass "java/lang/String" = some m.cls := findClass_of_methodNamed Bd.named
  have hnm := (name_of_methodNamed Bd.named Bd.method).1
  have X0 : Stand p l e ({ frames := 0, cells := 0, slots := 0, locals := 0 } : Room) s m #[(.ref sa)] below meth c s₁ [] 0 0 := Stand.of_body Bd
  have e0 : s₁.heap = h0 := by rw [← hh, Bd.state]; rfl
  have N0 := Fr.nil n0
  have pre0 : ∀ τ, Steps p.tables e below (s₁.setTop (mkF m 0 #[.val (.ref sa)] [])) τ → Steps p.tables e below (s₁.setTop (entryFrame m #[(.ref sa)] 1)) τ := fun τ κ => castTop (ef_9 m sa cd zc fm) κ
  obtain ⟨Scs, hcs, Sad, Shi, Slo, Sfm, r_fm⟩ := id U0
  obtain ⟨T1, X1, e1, st1⟩ := getS2 X0 hx hZ hown (host := "") (Or.inl (hw _ (List.mem_of_getElem? (i := 50) rfl))) Via.refl e0 (Scs.ext O0.2) (g := (mkF m 0 #[.val (.ref sa)] [])) rfl (hb hby d9_0)
  have pre2 := fun τ (κ : Steps p.tables e below (T1.setTop (mkF m 3 #[.val (.ref sa)] [(.int zc)])) τ) => pre0 τ (st1 _ κ)
  have pre3 := fun τ (κ : Steps p.tables e below (T1.setTop (mkF m 7 #[.val (.ref sa)] [(.ref sa)])) τ) => pre2 τ (by
    refine XS.ifNo X1.here hx rfl (hb hby d9_3) rfl ((if0 _ _).trans (feq hcs).1) ?_
    show Steps p.tables e below (T1.setTop (mkF m 6 #[.val (.ref sa)] [])) _
    refine XS.aloadN X1.here hx rfl (hb hby d9_6) rfl rfl ?_
    show Steps p.tables e below (T1.setTop (mkF m 7 #[.val (.ref sa)] [(.ref sa)])) _
    exact κ)
  obtain ⟨T4, X4, e4, st4⟩ := getF X1 hx hZ hown (host := "") (Or.inl (hw _ (List.mem_of_getElem? (i := 30) rfl))) Via.refl e1 Fc (g := (mkF m 7 #[.val (.ref sa)] [(.ref sa)])) rfl rfl (hb hby d9_7)
  have pre5 := fun τ (κ : Steps p.tables e below (T4.setTop (mkF m 10 #[.val (.ref sa)] [(.int cd)])) τ) => pre3 τ (st4 _ κ)
  have pre6 := fun τ (κ : Steps p.tables e below (T4.setTop (mkF m 14 #[.val (.ref sa)] [(.int cd)])) τ) => pre5 τ (by
    refine XS.goto X4.here hx rfl (pc0 := 10) (pc' := 14) rfl (hb hby d9_10) (by decide) (by decide) ?_
    show Steps p.tables e below (T4.setTop (mkF m 14 #[.val (.ref sa)] [(.int cd)])) _
    exact κ)
  obtain ⟨fs, hr, hrun, hended, hW, hsame⟩ := X4.leave (v := some (.int (nar .byte cd))) (fun h => by rw [Bd.returns] at h; cases h)
  refine ⟨_, _, pre6 _ ?_, hrun, hended, _, _, rfl, ?_, ⟨_, rfl⟩, hW, hsame.mono (by decide) (by decide)⟩
  · exact retN X4 hx (t := .byte) Bd.returns (by simp) (hb hby d9_14) hr
  · show Q9 Z sa cd zc fm h0 n0 _ T4.heap _
    rw [e4]
    exact ⟨(by rcases hcd with rfl | rfl <;> rfl), N0, rfl⟩
theorem ef_8 (m : MethodId) (sa : Addr) (n : Nat) (zc : Int32) (fm : Value) : entryFrame m #[(.ref sa)] 1 = mkF m 0 #[.val (.ref sa)] [] := by first | (simp [entryFrame, mkF, argsToLocals, Value.category]; done) | rfl
def Q8 (Z : State) (sa : Addr) (n : Nat) (f : Nat → Int32) (zc : Int32) (fm : Value) (h0 : Heap) (n0 : Nat) (v : Option Value) (h : Heap) (L : List Loc) : Prop := v = some (.int (Int32.ofNat n)) ∧ Fr n0 L ∧ h = h0
set_option maxRecDepth 65536 in
set_option maxHeartbeats 40000000 in
theorem rm8 (l : Launch) (Z : State) (a0 : Array Value) (hw : ∀ d ∈ tables_1, d.before a0 Z = true) (ws : List Jvm.Cond) (sa : Addr) (n : Nat) (f : Nat → Int32) (zc : Int32) (fm : Value) (h0 : Heap) (n0 : Nat) (Z0 : n0 ≤ h0.size) (O0 : Old Z n0 h0) (U0 : own_ST Z zc fm) (P0 : own_STR Z h0 sa f n) (hn : n ≤ 16) :
    MetFree l (⟨"java/lang/String", "length", "()I"⟩ : MethodName) (head1 (Jvm.Cond.code (⟨"java/lang/String", "length", "()I"⟩ : MethodName) jdk_42_method_54_code 1 (some .int) :: ws) ({ frames := 1, cells := 0, slots := 0, locals := 13 } : Room)) (fun α υ => α = #[(.ref sa)] ∧ Z.Warmed39 υ.vm ∧ υ.heap = h0) (fun _ _ _ _ _ => True) (fun _ υ ω υ' => ∃ v L, ω = .returned v ∧ Q8 Z sa n f zc fm h0 n0 v υ'.heap L ∧ FrameEnd υ ω υ' L ({ frames := 1, cells := 0, slots := 0, locals := 13 } : Room).cells ({ frames := 1, cells := 0, slots := 0, locals := 13 } : Room).slots) := by
  refine MetFree.of_bodySF (plainFor_of_name pn_java_lang_String) hisR ?_
  intro p e s m args below meth c s₁ Bd hml0 hP hK
  obtain ⟨rfl, hZ, hh⟩ := hP
  have hx := Bd.exec
  have hby := Bd.bytes
  have hml : c.maxLocals = 1 := hml0
  have hown : s.vm.findClass "java/lang/String" = some m.cls := findClass_of_methodNamed Bd.named
  have hnm := (name_of_methodNamed Bd.named Bd.method).1
  have X0 : Stand p l e ({ frames := 1, cells := 0, slots := 0, locals := 13 } : Room) s m #[(.ref sa)] below meth c s₁ [] 0 0 := Stand.of_body Bd
  have e0 : s₁.heap = h0 := by rw [← hh, Bd.state]; rfl
  have N0 := Fr.nil n0
  have pre0 : ∀ τ, Steps p.tables e below (s₁.setTop (mkF m 0 #[.val (.ref sa)] [])) τ → Steps p.tables e below (s₁.setTop (entryFrame m #[(.ref sa)] 1)) τ := fun τ κ => castTop (ef_8 m sa n zc fm) κ
  obtain ⟨Scs, hcs, Sad, Shi, Slo, Sfm, r_fm⟩ := id U0
  obtain ⟨tb, cd, E_s, Fv, Fc, B0⟩ := P0
  have hcd := B0.cd
  have pre1 := fun τ (κ : Steps p.tables e below (s₁.setTop (mkF m 1 #[.val (.ref sa)] [(.ref sa)])) τ) => pre0 τ (by
    refine XS.aloadN X0.here hx rfl (hb hby d8_0) rfl rfl ?_
    show Steps p.tables e below (s₁.setTop (mkF m 1 #[.val (.ref sa)] [(.ref sa)])) _
    exact κ)
  obtain ⟨T2, X2, e2, st2⟩ := getF X0 hx hZ hown (host := "") (Or.inl (hw _ (List.mem_of_getElem? (i := 29) rfl))) Via.refl e0 Fv (g := (mkF m 1 #[.val (.ref sa)] [(.ref sa)])) rfl rfl (hb hby d8_1)
  have pre3 := fun τ (κ : Steps p.tables e below (T2.setTop (mkF m 4 #[.val (.ref sa)] [(.ref tb)])) τ) => pre1 τ (st2 _ κ)
  obtain ⟨kb, ⟨rfl, -, Va⟩ | ⟨rfl, -, Va⟩⟩ := B0
  · obtain ⟨cl4, Ar4, -, S4, M4, -, -⟩ := id Va
    have pre5 := fun τ (κ : Steps p.tables e below (T2.setTop (mkF m 6 #[.val (.ref sa)] [(.ref sa), (.int (Int32.ofNat n))])) τ) => pre3 τ (by
      refine X2.arraylength hx (by rw [e2]; exact Ar4.1) (State.isArrayOf_alike hZ.alike Ar4.2.1) (g := (mkF m 4 #[.val (.ref sa)] [(.ref tb)])) rfl rfl (hb hby d8_4) _ ?_
      rw [len_of S4 M4]
      show Steps p.tables e below (T2.setTop (mkF m 5 #[.val (.ref sa)] [(.int (Int32.ofNat n))])) _
      refine XS.aloadN X2.here hx rfl (hb hby d8_5) rfl rfl ?_
      show Steps p.tables e below (T2.setTop (mkF m 6 #[.val (.ref sa)] [(.ref sa), (.int (Int32.ofNat n))])) _
      exact κ)
    obtain ⟨cq6, kq6, q6a, q6b, q6c⟩ := isOf hZ e2 E_s
    obtain ⟨_, _, ⟨T6, L6, k6, n6⟩, -, X6, ⟨Lc6, hQ6, l6, y6, z6⟩, st6⟩ := X2.virtualBack hx (y := (⟨"java/lang/String", "coder", "()B"⟩ : MethodName)) (z := (⟨"java/lang/String", "coder", "()B"⟩ : MethodName)) hown (mvT hZ (hw _ (List.mem_of_getElem? (i := 45) rfl))) (mvT hZ (hw _ (List.mem_of_getElem? (i := 46) rfl))) (notFace_of_selects (args := #[]) (mvT hZ (hw _ (List.mem_of_getElem? (i := 48) rfl)))) (mvT hZ (hw _ (List.mem_of_getElem? (i := 48) rfl))) (mvT hZ (hw _ (List.mem_of_getElem? (i := 47) rfl))) (by decide) (backOf (W := 1) (rm9 l Z a0 hw [] sa (0 : Int32) zc fm h0 n0 Z0 O0 U0 Fc (by decide)) hZ (hw _ (List.mem_of_getElem? (i := 49) rfl)) (hw _ (List.mem_of_getElem? (i := 11) rfl)) (Nat.le_of_ble_eq_true rfl) (Nat.le_of_ble_eq_true rfl)) q6a q6c (g := (mkF m 6 #[.val (.ref sa)] [(.ref sa), (.int (Int32.ofNat n))])) rfl (by rw [hml]; rfl) (Steps.refl _) (argsL := []) (rest := [(.int (Int32.ofNat n))]) (lenOf pd_8 rfl) rfl (by show 2 * 0 + _ ≤ _; exact Nat.le_of_eq rfl) (hb hby d8_6) (fun _ _ => ⟨rfl, e2, (by decide : 0 + 0 ≤ _), (by decide : 0 + 0 ≤ _)⟩)
    dsimp only [Pt.U, Pt.locs, Pt.cells, Pt.slots] at X6 l6 y6 z6 st6 hQ6
    subst l6 y6 z6
    obtain ⟨rfl, Nq6, hh6⟩ := hQ6
    have O0_6 : Old Z n0 T6.heap := by rw [hh6]; exact O0
    have E_s_6 : Exa Z T6.heap sa "java/lang/String" := by rw [hh6]; exact E_s
    have Fv_6 : Fld Z T6.heap sa "java/lang/String" "value" "[B" (.ref tb) := by rw [hh6]; exact Fv
    have Fc_6 : Fld Z T6.heap sa "java/lang/String" "coder" "B" (.int (0 : Int32)) := by rw [hh6]; exact Fc
    have Va_6 : Arv Z T6.heap tb kb .byte (Int32.ofNat n) (own_tab (own_l1 f) (n)) (.int (0 : Int32)) := by rw [hh6]; exact Va
    have Z6 : n0 ≤ T6.heap.size := by rw [hh6]; exact Z0
    have N6 := Fr.app N0 Nq6
    have pre7 := fun τ (κ : Steps p.tables e below (T6.setTop (mkF m 9 #[.val (.ref sa)] [(.int (0 : Int32)), (.int (Int32.ofNat n))])) τ) => pre5 τ (st6.trans κ)
    have pre8 := fun τ (κ : Steps p.tables e below (T6.setTop (mkF m 10 #[.val (.ref sa)] [(.int ((Int32.ofNat n) >>> ((0 : Int32) &&& 31)))])) τ) => pre7 τ (by
      refine XS.ishr X6.here hx rfl (hb hby d8_9) rfl ?_
      show Steps p.tables e below (T6.setTop (mkF m 10 #[.val (.ref sa)] [(.int ((Int32.ofNat n) >>> ((0 : Int32) &&& 31)))])) _
      exact κ)
    rw [show ((Int32.ofNat n) >>> ((0 : Int32) &&& 31)) = (Int32.ofNat n) from (own_shr0 _)] at pre8
    obtain ⟨fs, hr, hrun, hended, hW, hsame⟩ := X6.leave (v := some (.int (Int32.ofNat n))) (fun h => by rw [Bd.returns] at h; cases h)
    refine ⟨_, _, pre8 _ ?_, hrun, hended, _, _, rfl, ?_, ⟨_, rfl⟩, hW, hsame.mono (by decide) (by decide)⟩
    · exact retI X6 hx Bd.returns (hb hby d8_10) hr
    · show Q8 Z sa n f zc fm h0 n0 _ T6.heap _
      exact ⟨rfl, N6, hh6⟩
  · obtain ⟨cl9, Ar9, -, S9, M9, -, -⟩ := id Va
    have pre10 := fun τ (κ : Steps p.tables e below (T2.setTop (mkF m 6 #[.val (.ref sa)] [(.ref sa), (.int (Int32.ofNat (2 * n)))])) τ) => pre3 τ (by
      refine X2.arraylength hx (by rw [e2]; exact Ar9.1) (State.isArrayOf_alike hZ.alike Ar9.2.1) (g := (mkF m 4 #[.val (.ref sa)] [(.ref tb)])) rfl rfl (hb hby d8_4) _ ?_
      rw [len_of S9 M9]
      show Steps p.tables e below (T2.setTop (mkF m 5 #[.val (.ref sa)] [(.int (Int32.ofNat (2 * n)))])) _
      refine XS.aloadN X2.here hx rfl (hb hby d8_5) rfl rfl ?_
      show Steps p.tables e below (T2.setTop (mkF m 6 #[.val (.ref sa)] [(.ref sa), (.int (Int32.ofNat (2 * n)))])) _
      exact κ)
    obtain ⟨cq11, kq11, q11a, q11b, q11c⟩ := isOf hZ e2 E_s
    obtain ⟨_, _, ⟨T11, L11, k11, n11⟩, -, X11, ⟨Lc11, hQ11, l11, y11, z11⟩, st11⟩ := X2.virtualBack hx (y := (⟨"java/lang/String", "coder", "()B"⟩ : MethodName)) (z := (⟨"java/lang/String", "coder", "()B"⟩ : MethodName)) hown (mvT hZ (hw _ (List.mem_of_getElem? (i := 45) rfl))) (mvT hZ (hw _ (List.mem_of_getElem? (i := 46) rfl))) (notFace_of_selects (args := #[]) (mvT hZ (hw _ (List.mem_of_getElem? (i := 48) rfl)))) (mvT hZ (hw _ (List.mem_of_getElem? (i := 48) rfl))) (mvT hZ (hw _ (List.mem_of_getElem? (i := 47) rfl))) (by decide) (backOf (W := 1) (rm9 l Z a0 hw [] sa (1 : Int32) zc fm h0 n0 Z0 O0 U0 Fc (by decide)) hZ (hw _ (List.mem_of_getElem? (i := 49) rfl)) (hw _ (List.mem_of_getElem? (i := 11) rfl)) (Nat.le_of_ble_eq_true rfl) (Nat.le_of_ble_eq_true rfl)) q11a q11c (g := (mkF m 6 #[.val (.ref sa)] [(.ref sa), (.int (Int32.ofNat (2 * n)))])) rfl (by rw [hml]; rfl) (Steps.refl _) (argsL := []) (rest := [(.int (Int32.ofNat (2 * n)))]) (lenOf pd_8 rfl) rfl (by show 2 * 0 + _ ≤ _; exact Nat.le_of_eq rfl) (hb hby d8_6) (fun _ _ => ⟨rfl, e2, (by decide : 0 + 0 ≤ _), (by decide : 0 + 0 ≤ _)⟩)
    dsimp only [Pt.U, Pt.locs, Pt.cells, Pt.slots] at X11 l11 y11 z11 st11 hQ11
    subst l11 y11 z11
    obtain ⟨rfl, Nq11, hh11⟩ := hQ11
    have O0_11 : Old Z n0 T11.heap := by rw [hh11]; exact O0
    have E_s_11 : Exa Z T11.heap sa "java/lang/String" := by rw [hh11]; exact E_s
    have Fv_11 : Fld Z T11.heap sa "java/lang/String" "value" "[B" (.ref tb) := by rw [hh11]; exact Fv
    have Fc_11 : Fld Z T11.heap sa "java/lang/String" "coder" "B" (.int (1 : Int32)) := by rw [hh11]; exact Fc
    have Va_11 : Arv Z T11.heap tb kb .byte (Int32.ofNat (2 * n)) (own_tab (own_u16 f) (2 * n)) (.int (0 : Int32)) := by rw [hh11]; exact Va
    have Z11 : n0 ≤ T11.heap.size := by rw [hh11]; exact Z0
    have N11 := Fr.app N0 Nq11
    have pre12 := fun τ (κ : Steps p.tables e below (T11.setTop (mkF m 9 #[.val (.ref sa)] [(.int (1 : Int32)), (.int (Int32.ofNat (2 * n)))])) τ) => pre10 τ (st11.trans κ)
    have pre13 := fun τ (κ : Steps p.tables e below (T11.setTop (mkF m 10 #[.val (.ref sa)] [(.int ((Int32.ofNat (2 * n)) >>> ((1 : Int32) &&& 31)))])) τ) => pre12 τ (by
      refine XS.ishr X11.here hx rfl (hb hby d8_9) rfl ?_
      show Steps p.tables e below (T11.setTop (mkF m 10 #[.val (.ref sa)] [(.int ((Int32.ofNat (2 * n)) >>> ((1 : Int32) &&& 31)))])) _
      exact κ)
    rw [show ((Int32.ofNat (2 * n)) >>> ((1 : Int32) &&& 31)) = (Int32.ofNat n) from (own_shr1 (by omega))] at pre13
    obtain ⟨fs, hr, hrun, hended, hW, hsame⟩ := X11.leave (v := some (.int (Int32.ofNat n))) (fun h => by rw [Bd.returns] at h; cases h)
    refine ⟨_, _, pre13 _ ?_, hrun, hended, _, _, rfl, ?_, ⟨_, rfl⟩, hW, hsame.mono (by decide) (by decide)⟩
    · exact retI X11 hx Bd.returns (hb hby d8_10) hr
    · show Q8 Z sa n f zc fm h0 n0 _ T11.heap _
      exact ⟨rfl, N11, hh11⟩
theorem ef_11 (m : MethodId) (sa : Addr) (cd : Int32) (zc : Int32) (fm : Value) : entryFrame m #[(.ref sa)] 1 = mkF m 0 #[.val (.ref sa)] [] := by first | (simp [entryFrame, mkF, argsToLocals, Value.category]; done) | rfl
def Q11 (Z : State) (sa : Addr) (cd : Int32) (zc : Int32) (fm : Value) (h0 : Heap) (n0 : Nat) (v : Option Value) (h : Heap) (L : List Loc) : Prop := v = some (.int (if cd = 0 then 1 else 0)) ∧ Fr n0 L ∧ h = h0
set_option maxRecDepth 65536 in
set_option maxHeartbeats 40000000 in
theorem rm11 (l : Launch) (Z : State) (a0 : Array Value) (hw : ∀ d ∈ tables_1, d.before a0 Z = true) (ws : List Jvm.Cond) (sa : Addr) (cd : Int32) (zc : Int32) (fm : Value) (h0 : Heap) (n0 : Nat) (Z0 : n0 ≤ h0.size) (O0 : Old Z n0 h0) (U0 : own_ST Z zc fm) (Fc : Fld Z h0 sa "java/lang/String" "coder" "B" (.int cd)) :
    MetFree l (⟨"java/lang/String", "isLatin1", "()Z"⟩ : MethodName) (head1 (Jvm.Cond.code (⟨"java/lang/String", "isLatin1", "()Z"⟩ : MethodName) jdk_42_method_154_code 1 (some .boolean) :: ws) ({ frames := 0, cells := 0, slots := 0, locals := 0 } : Room)) (fun α υ => α = #[(.ref sa)] ∧ Z.Warmed39 υ.vm ∧ υ.heap = h0) (fun _ _ _ _ _ => True) (fun _ υ ω υ' => ∃ v L, ω = .returned v ∧ Q11 Z sa cd zc fm h0 n0 v υ'.heap L ∧ FrameEnd υ ω υ' L ({ frames := 0, cells := 0, slots := 0, locals := 0 } : Room).cells ({ frames := 0, cells := 0, slots := 0, locals := 0 } : Room).slots) := by
  refine MetFree.of_bodySF (plainFor_of_name pn_java_lang_String) hisR ?_
  intro p e s m args below meth c s₁ Bd hml0 hP hK
  obtain ⟨rfl, hZ, hh⟩ := hP
  have hx := Bd.exec
  have hby := Bd.bytes
  have hml : c.maxLocals = 1 := hml0
  have hown : s.vm.findClass "java/lang/String" = some m.cls := findClass_of_methodNamed Bd.named
  have hnm := (name_of_methodNamed Bd.named Bd.method).1
  have X0 : Stand p l e ({ frames := 0, cells := 0, slots := 0, locals := 0 } : Room) s m #[(.ref sa)] below meth c s₁ [] 0 0 := Stand.of_body Bd
  have e0 : s₁.heap = h0 := by rw [← hh, Bd.state]; rfl
  have N0 := Fr.nil n0
  have pre0 : ∀ τ, Steps p.tables e below (s₁.setTop (mkF m 0 #[.val (.ref sa)] [])) τ → Steps p.tables e below (s₁.setTop (entryFrame m #[(.ref sa)] 1)) τ := fun τ κ => castTop (ef_11 m sa cd zc fm) κ
  obtain ⟨Scs, hcs, Sad, Shi, Slo, Sfm, r_fm⟩ := id U0
  obtain ⟨T1, X1, e1, st1⟩ := getS2 X0 hx hZ hown (host := "") (Or.inl (hw _ (List.mem_of_getElem? (i := 50) rfl))) Via.refl e0 (Scs.ext O0.2) (g := (mkF m 0 #[.val (.ref sa)] [])) rfl (hb hby d11_0)
  have pre2 := fun τ (κ : Steps p.tables e below (T1.setTop (mkF m 3 #[.val (.ref sa)] [(.int zc)])) τ) => pre0 τ (st1 _ κ)
  have pre3 := fun τ (κ : Steps p.tables e below (T1.setTop (mkF m 7 #[.val (.ref sa)] [(.ref sa)])) τ) => pre2 τ (by
    refine XS.ifNo X1.here hx rfl (hb hby d11_3) rfl ((if0 _ _).trans (feq hcs).1) ?_
    show Steps p.tables e below (T1.setTop (mkF m 6 #[.val (.ref sa)] [])) _
    refine XS.aloadN X1.here hx rfl (hb hby d11_6) rfl rfl ?_
    show Steps p.tables e below (T1.setTop (mkF m 7 #[.val (.ref sa)] [(.ref sa)])) _
    exact κ)
  obtain ⟨T4, X4, e4, st4⟩ := getF X1 hx hZ hown (host := "") (Or.inl (hw _ (List.mem_of_getElem? (i := 30) rfl))) Via.refl e1 Fc (g := (mkF m 7 #[.val (.ref sa)] [(.ref sa)])) rfl rfl (hb hby d11_7)
  have pre5 := fun τ (κ : Steps p.tables e below (T4.setTop (mkF m 10 #[.val (.ref sa)] [(.int cd)])) τ) => pre3 τ (st4 _ κ)
  by_cases hq : cd = (0 : Int32)
  · have pre6 := fun τ (κ : Steps p.tables e below (T4.setTop (mkF m 18 #[.val (.ref sa)] [(.int (1 : Int32))])) τ) => pre5 τ (by
      refine XS.ifNo X4.here hx rfl (hb hby d11_10) rfl ((if0 _ _).trans (teq hq).2) ?_
      show Steps p.tables e below (T4.setTop (mkF m 13 #[.val (.ref sa)] [])) _
      refine XS.iconst X4.here hx rfl (hb hby d11_13) ?_
      refine XS.goto X4.here hx rfl (pc0 := 14) (pc' := 18) rfl (hb hby d11_14) (by decide) (by decide) ?_
      show Steps p.tables e below (T4.setTop (mkF m 18 #[.val (.ref sa)] [(.int (1 : Int32))])) _
      exact κ)
    obtain ⟨fs, hr, hrun, hended, hW, hsame⟩ := X4.leave (v := some (.int (1 : Int32))) (fun h => by rw [Bd.returns] at h; cases h)
    refine ⟨_, _, pre6 _ ?_, hrun, hended, _, _, rfl, ?_, ⟨_, rfl⟩, hW, hsame.mono (by decide) (by decide)⟩
    · exact retN X4 hx (t := .boolean) Bd.returns (by simp) (hb hby d11_18) hr
    · show Q11 Z sa cd zc fm h0 n0 _ T4.heap _
      rw [e4]
      exact ⟨(by rw [if_pos hq]), N0, rfl⟩
  · have pre7 := fun τ (κ : Steps p.tables e below (T4.setTop (mkF m 18 #[.val (.ref sa)] [(.int (0 : Int32))])) τ) => pre5 τ (by
      refine XS.ifYes X4.here hx rfl (pc0 := 10) (pc' := 17) rfl (hb hby d11_10) rfl ((if0 _ _).trans (feq hq).2) (by decide) (by decide) ?_
      show Steps p.tables e below (T4.setTop (mkF m 17 #[.val (.ref sa)] [])) _
      refine XS.iconst X4.here hx rfl (hb hby d11_17) ?_
      show Steps p.tables e below (T4.setTop (mkF m 18 #[.val (.ref sa)] [(.int (0 : Int32))])) _
      exact κ)
    obtain ⟨fs, hr, hrun, hended, hW, hsame⟩ := X4.leave (v := some (.int (0 : Int32))) (fun h => by rw [Bd.returns] at h; cases h)
    refine ⟨_, _, pre7 _ ?_, hrun, hended, _, _, rfl, ?_, ⟨_, rfl⟩, hW, hsame.mono (by decide) (by decide)⟩
    · exact retN X4 hx (t := .boolean) Bd.returns (by simp) (hb hby d11_18) hr
    · show Q11 Z sa cd zc fm h0 n0 _ T4.heap _
      rw [e4]
      exact ⟨(by rw [if_neg hq]), N0, rfl⟩
theorem ef_4e (m : MethodId) (sa : Addr) (ca : Addr) : entryFrame m #[(.ref sa), (.ref ca), (.int (0 : Int32)), (.int (0 : Int32)), .null] 6 = mkF m 0 #[.val (.ref sa), .val (.ref ca), .val (.int (0 : Int32)), .val (.int (0 : Int32)), .val .null, .unset] [] := by first | (simp [entryFrame, mkF, argsToLocals, Value.category]; done) | rfl
def Q4e (Z : State) (sa : Addr) (ca : Addr) (f : Nat → Int32) (h0 : Heap) (n0 : Nat) (v : Option Value) (h : Heap) (L : List Loc) : Prop := v = none ∧ Fr n0 L ∧ Keep h0 h [sa] ∧ own_STR Z h sa f 0
set_option maxRecDepth 65536 in
set_option maxHeartbeats 40000000 in
theorem rm4e (l : Launch) (Z : State) (a0 : Array Value) (hw : ∀ d ∈ tables_1, d.before a0 Z = true) (ws : List Jvm.Cond) (sa : Addr) (ca : Addr) (f : Nat → Int32) (h0 : Heap) (n0 : Nat) (Z0 : n0 ≤ h0.size) (E_s : Exa Z h0 sa "java/lang/String") (Fv : Fld Z h0 sa "java/lang/String" "value" "[B" .null) (Fc : Fld Z h0 sa "java/lang/String" "coder" "B" (.int (0 : Int32))) (gs : n0 ≤ sa) :
    MetFree l (⟨"java/lang/String", "<init>", "([CIILjava/lang/Void;)V"⟩ : MethodName) (head1 (Jvm.Cond.code (⟨"java/lang/String", "<init>", "([CIILjava/lang/Void;)V"⟩ : MethodName) jdk_42_method_149_code 6 none :: ws) ({ frames := 1, cells := 2, slots := 4, locals := 12 } : Room)) (fun α υ => α = #[(.ref sa), (.ref ca), (.int (0 : Int32)), (.int (0 : Int32)), .null] ∧ Z.Warmed39 υ.vm ∧ υ.heap = h0 ∧ CHv Z consts_1 υ.vm h0) (fun _ _ _ _ _ => True) (fun _ υ ω υ' => ∃ v L, ω = .returned v ∧ Q4e Z sa ca f h0 n0 v υ'.heap L ∧ CHr Z consts_1 υ.vm υ.heap υ'.vm υ'.heap ∧ ReturnedEndW υ ω υ' L ({ frames := 1, cells := 2, slots := 4, locals := 12 } : Room).cells ({ frames := 1, cells := 2, slots := 4, locals := 12 } : Room).slots) := by
  refine MetFree.of_bodySF (plainFor_of_name pn_java_lang_String) hisR ?_
  intro p e s m args below meth c s₁ Bd hml0 hP hK
  obtain ⟨rfl, hZ, hh, hC0⟩ := hP
  have hx := Bd.exec
  have hby := Bd.bytes
  have hml : c.maxLocals = 6 := hml0
  have hown : s.vm.findClass "java/lang/String" = some m.cls := findClass_of_methodNamed Bd.named
  have hnm := (name_of_methodNamed Bd.named Bd.method).1
  have X0 : Stand p l e ({ frames := 1, cells := 2, slots := 4, locals := 12 } : Room) s m #[(.ref sa), (.ref ca), (.int (0 : Int32)), (.int (0 : Int32)), .null] below meth c s₁ [] 0 0 := Stand.of_body Bd
  have e0 : s₁.heap = h0 := by rw [← hh, Bd.state]; rfl
  have N0 := Fr.nil n0
  have pre0 : ∀ τ, Steps p.tables e below (s₁.setTop (mkF m 0 #[.val (.ref sa), .val (.ref ca), .val (.int (0 : Int32)), .val (.int (0 : Int32)), .val .null, .unset] [])) τ → Steps p.tables e below (s₁.setTop (entryFrame m #[(.ref sa), (.ref ca), (.int (0 : Int32)), (.int (0 : Int32)), .null] 6)) τ := fun τ κ => castTop (ef_4e m sa ca) κ
  have hS0 : s.Since s.vm 0 := (State.WarmedH.refl s).since 0
  have hks : 0 ≤ h0.size := Nat.zero_le _
  have hEL := own_EL hw
  have Sf0 : Safe Z consts_1 s.vm h0 sa := own_safe hZ.alike E_s Fv
  have Kp0 : Keep h0 h0 [sa] := Keep.refl _ _
  have pre1 := fun τ (κ : Steps p.tables e below (s₁.setTop (mkF m 1 #[.val (.ref sa), .val (.ref ca), .val (.int (0 : Int32)), .val (.int (0 : Int32)), .val .null, .unset] [(.ref sa)])) τ) => pre0 τ (by
    refine XS.aloadN X0.here hx rfl (hb hby d4_0) rfl rfl ?_
    show Steps p.tables e below (s₁.setTop (mkF m 1 #[.val (.ref sa), .val (.ref ca), .val (.int (0 : Int32)), .val (.int (0 : Int32)), .val .null, .unset] [(.ref sa)])) _
    exact κ)
  obtain ⟨T2, X2, e2, st2⟩ := initO X0 hx hZ hown (hw _ (List.mem_of_getElem? (i := 20) rfl)) (hw _ (List.mem_of_getElem? (i := 21) rfl)) (hw _ (List.mem_of_getElem? (i := 22) rfl)) e0 (g := (mkF m 1 #[.val (.ref sa), .val (.ref ca), .val (.int (0 : Int32)), .val (.int (0 : Int32)), .val .null, .unset] [(.ref sa)])) rfl (by rw [hml]; rfl) rfl (hb hby d4_1) (by decide) (W := 0) (by show 2 * 0 + _ ≤ _; exact Nat.le_of_eq rfl) (by decide)
  have pre3 := fun τ (κ : Steps p.tables e below (T2.setTop (mkF m 4 #[.val (.ref sa), .val (.ref ca), .val (.int (0 : Int32)), .val (.int (0 : Int32)), .val .null, .unset] [])) τ) => pre1 τ (st2 _ κ)
  have pre4 := fun τ (κ : Steps p.tables e below (T2.setTop (mkF m 9 #[.val (.ref sa), .val (.ref ca), .val (.int (0 : Int32)), .val (.int (0 : Int32)), .val .null, .unset] [(.ref sa)])) τ) => pre3 τ (by
    refine XS.iloadN X2.here hx rfl (hb hby d4_4) rfl ?_
    refine XS.ifNo X2.here hx rfl (hb hby d4_5) rfl ((if0 _ _).trans (teq rfl).2) ?_
    show Steps p.tables e below (T2.setTop (mkF m 8 #[.val (.ref sa), .val (.ref ca), .val (.int (0 : Int32)), .val (.int (0 : Int32)), .val .null, .unset] [])) _
    refine XS.aloadN X2.here hx rfl (hb hby d4_8) rfl rfl ?_
    show Steps p.tables e below (T2.setTop (mkF m 9 #[.val (.ref sa), .val (.ref ca), .val (.int (0 : Int32)), .val (.int (0 : Int32)), .val .null, .unset] [(.ref sa)])) _
    exact κ)
  obtain ⟨li, T5, h5, ks5, eb, kb5, X5, e5, E5, hS5, hks, hZ, hown, A5, Fc5, Fv5, V5, lta5, ltb5, C5, Lit5, Ne5, st5⟩ := ldcCH (s := s) (vm0 := s.vm) X2 hx hZ hown (hw _ (List.mem_of_getElem? (i := 23) rfl)) (own_wS hw) e2 hS0 (Nat.zero_le _) hEL (List.mem_of_getElem? (i := 0) rfl) hC0 (vs := []) (z := 0) (by simp) (by decide) rfl (g := (mkF m 9 #[.val (.ref sa), .val (.ref ca), .val (.int (0 : Int32)), .val (.int (0 : Int32)), .val .null, .unset] [(.ref sa)])) rfl (hb hby d4_9) (n := 0) (by decide) (by decide) (by decide) (by decide)
  have E_s_5 : Exa Z h5 sa "java/lang/String" := E_s.ext E5
  have Fv_5 : Fld Z h5 sa "java/lang/String" "value" "[B" .null := Fv.ext E5
  have Fc_5 : Fld Z h5 sa "java/lang/String" "coder" "B" (.int (0 : Int32)) := Fc.ext E5
  have Kp5 : Keep h0 h5 [sa] := Kp0.ext E5
  have Z5 : n0 ≤ h5.size := Nat.le_trans Z0 E5.1
  have pre6 := fun τ (κ : Steps p.tables e below (T5.setTop (mkF m 11 #[.val (.ref sa), .val (.ref ca), .val (.int (0 : Int32)), .val (.int (0 : Int32)), .val .null, .unset] [(.ref li), (.ref sa)])) τ) => pre4 τ (st5 _ κ)
  have Sf1 := C5.safe E_s.lt Sf0
  obtain ⟨ne_sa_li, ne_sa_eb⟩ := Ne5 sa Sf1
  obtain ⟨T7, X7, e7, st7⟩ := getF X5 hx hZ hown (host := "") (Or.inl (hw _ (List.mem_of_getElem? (i := 29) rfl))) Via.refl e5 Fv5 (g := (mkF m 11 #[.val (.ref sa), .val (.ref ca), .val (.int (0 : Int32)), .val (.int (0 : Int32)), .val .null, .unset] [(.ref li), (.ref sa)])) rfl rfl (hb hby d4_11)
  have pre8 := fun τ (κ : Steps p.tables e below (T7.setTop (mkF m 14 #[.val (.ref sa), .val (.ref ca), .val (.int (0 : Int32)), .val (.int (0 : Int32)), .val .null, .unset] [(.ref eb), (.ref sa)])) τ) => pre6 τ (st7 _ κ)
  obtain ⟨T9, h9, X9, e9, W9, st9⟩ := putF X7 hx hZ hown (host := "") (Or.inl (hw _ (List.mem_of_getElem? (i := 29) rfl))) Via.refl e7 Fv_5 E_s_5 (Or.inr ⟨(hw _ (List.mem_of_getElem? (i := 25) rfl)), rfl, hnm⟩) (hw _ (List.mem_of_getElem? (i := 10) rfl)) (ty := (.array .byte)) (by decide) rfl rfl (g := (mkF m 14 #[.val (.ref sa), .val (.ref ca), .val (.int (0 : Int32)), .val (.int (0 : Int32)), .val .null, .unset] [(.ref eb), (.ref sa)])) rfl rfl (hb hby d4_14)
  have E_s_9 : Exa Z h9 sa "java/lang/String" := E_s_5.wr W9
  have Fc_9 : Fld Z h9 sa "java/lang/String" "coder" "B" (.int (0 : Int32)) := Fc_5.other W9 (Or.inr (slot_ne (Or.inr (hw _ (List.mem_of_getElem? (i := 26) rfl))) (Or.inr (hw _ (List.mem_of_getElem? (i := 25) rfl))) (by decide) (t := .byte) (t' := (.array .byte)) (by decide) (by decide)))
  have A5_9 : Exa Z h9 li "java/lang/String" := A5.wr W9
  have Fc5_9 : Fld Z h9 li "java/lang/String" "coder" "B" (.int (0 : Int32)) := Fc5.other W9 (Or.inl (Ne.symm ne_sa_li))
  have Fv5_9 : Fld Z h9 li "java/lang/String" "value" "[B" (.ref eb) := Fv5.other W9 (Or.inl (Ne.symm ne_sa_li))
  have V5_9 : Arv Z h9 eb kb5 .byte (0 : Int32) [] (.int (0 : Int32)) := V5.other W9 (Ne.symm ne_sa_eb)
  have Kp9 : Keep h0 h9 [sa] := Kp5.wr W9 (Or.inl (List.mem_of_getElem? (i := 0) rfl))
  have N9 := Fr.snoc X9 N0 gs
  have Z9 : n0 ≤ h9.size := Nat.le_trans Z5 (Keep.of_wr W9).1
  have hks : ks5 ≤ h9.size := Nat.le_trans hks (Keep.of_wr W9).1
  have F_value_sa_9 : Fld Z h9 sa "java/lang/String" "value" "[B" (.ref eb) := Fv_5.same W9
  have pre10 := fun τ (κ : Steps p.tables e below (T9.setTop (mkF m 17 #[.val (.ref sa), .val (.ref ca), .val (.int (0 : Int32)), .val (.int (0 : Int32)), .val .null, .unset] [])) τ) => pre8 τ (st9 _ κ)
  have R1 := C5.trans (CHr.wr W9 Sf1 C5.1)
  have Sf2 := Safe.wr W9 Sf1 C5.1 Sf1
  have pre11 := fun τ (κ : Steps p.tables e below (T9.setTop (mkF m 18 #[.val (.ref sa), .val (.ref ca), .val (.int (0 : Int32)), .val (.int (0 : Int32)), .val .null, .unset] [(.ref sa)])) τ) => pre10 τ (by
    refine XS.aloadN X9.here hx rfl (hb hby d4_17) rfl rfl ?_
    show Steps p.tables e below (T9.setTop (mkF m 18 #[.val (.ref sa), .val (.ref ca), .val (.int (0 : Int32)), .val (.int (0 : Int32)), .val .null, .unset] [(.ref sa)])) _
    exact κ)
  have pre12 := fun τ (κ : Steps p.tables e below (T9.setTop (mkF m 20 #[.val (.ref sa), .val (.ref ca), .val (.int (0 : Int32)), .val (.int (0 : Int32)), .val .null, .unset] [(.ref li), (.ref sa)])) τ) => pre11 τ (by
    refine ldcAgain (s := s) (vm0 := T5.vm) X9 hx hZ hown (hw _ (List.mem_of_getElem? (i := 23) rfl)) Lit5 (g := (mkF m 18 #[.val (.ref sa), .val (.ref ca), .val (.int (0 : Int32)), .val (.int (0 : Int32)), .val .null, .unset] [(.ref sa)])) rfl (hb hby d4_18) _ ?_
    show Steps p.tables e below (T9.setTop (mkF m 20 #[.val (.ref sa), .val (.ref ca), .val (.int (0 : Int32)), .val (.int (0 : Int32)), .val .null, .unset] [(.ref li), (.ref sa)])) _
    exact κ)
  obtain ⟨T13, X13, e13, st13⟩ := getF X9 hx hZ hown (host := "") (Or.inl (hw _ (List.mem_of_getElem? (i := 30) rfl))) Via.refl e9 Fc5_9 (g := (mkF m 20 #[.val (.ref sa), .val (.ref ca), .val (.int (0 : Int32)), .val (.int (0 : Int32)), .val .null, .unset] [(.ref li), (.ref sa)])) rfl rfl (hb hby d4_20)
  have pre14 := fun τ (κ : Steps p.tables e below (T13.setTop (mkF m 23 #[.val (.ref sa), .val (.ref ca), .val (.int (0 : Int32)), .val (.int (0 : Int32)), .val .null, .unset] [(.int (0 : Int32)), (.ref sa)])) τ) => pre12 τ (st13 _ κ)
  obtain ⟨T15, h15, X15, e15, W15, st15⟩ := putF X13 hx hZ hown (host := "") (Or.inl (hw _ (List.mem_of_getElem? (i := 30) rfl))) Via.refl e13 Fc_9 E_s_9 (Or.inr ⟨(hw _ (List.mem_of_getElem? (i := 26) rfl)), rfl, hnm⟩) (hw _ (List.mem_of_getElem? (i := 10) rfl)) (ty := .byte) (by decide) rfl rfl (g := (mkF m 23 #[.val (.ref sa), .val (.ref ca), .val (.int (0 : Int32)), .val (.int (0 : Int32)), .val .null, .unset] [(.int (0 : Int32)), (.ref sa)])) rfl rfl (hb hby d4_23)
  have E_s_15 : Exa Z h15 sa "java/lang/String" := E_s_9.wr W15
  have A5_15 : Exa Z h15 li "java/lang/String" := A5_9.wr W15
  have Fc5_15 : Fld Z h15 li "java/lang/String" "coder" "B" (.int (0 : Int32)) := Fc5_9.other W15 (Or.inl (Ne.symm ne_sa_li))
  have Fv5_15 : Fld Z h15 li "java/lang/String" "value" "[B" (.ref eb) := Fv5_9.other W15 (Or.inl (Ne.symm ne_sa_li))
  have V5_15 : Arv Z h15 eb kb5 .byte (0 : Int32) [] (.int (0 : Int32)) := V5_9.other W15 (Ne.symm ne_sa_eb)
  have F_value_sa_15 : Fld Z h15 sa "java/lang/String" "value" "[B" (.ref eb) := F_value_sa_9.other W15 (Or.inr (slot_ne (Or.inr (hw _ (List.mem_of_getElem? (i := 25) rfl))) (Or.inr (hw _ (List.mem_of_getElem? (i := 26) rfl))) (by decide) (t := (.array .byte)) (t' := .byte) (by decide) (by decide)))
  have Kp15 : Keep h0 h15 [sa] := Kp9.wr W15 (Or.inl (List.mem_of_getElem? (i := 0) rfl))
  have N15 := Fr.snoc X15 N9 gs
  have Z15 : n0 ≤ h15.size := Nat.le_trans Z9 (Keep.of_wr W15).1
  have hks : ks5 ≤ h15.size := Nat.le_trans hks (Keep.of_wr W15).1
  have F_coder_sa_15 : Fld Z h15 sa "java/lang/String" "coder" "B" (.int (0 : Int32)) := Fc_9.same W15
  have pre16 := fun τ (κ : Steps p.tables e below (T15.setTop (mkF m 26 #[.val (.ref sa), .val (.ref ca), .val (.int (0 : Int32)), .val (.int (0 : Int32)), .val .null, .unset] [])) τ) => pre14 τ (st15 _ κ)
  have R2 := R1.trans (CHr.wr W15 Sf2 R1.1)
  have R3 := R2.trans (CHv.at (s := s) (vm0 := T5.vm) X15 hZ hEL R2.1)
  obtain ⟨fs, hr, hrun, hended, hEnd⟩ := Stand.leaveW (s := s) (vm₁ := T5.vm) X15 hS5 (by rw [e15]; exact hks) (v := none) (fun _ => rfl)
  refine ⟨_, _, pre16 _ ?_, hrun, hended, _, _, rfl, ?_, ?_, ⟨hEnd.1, hEnd.2.1, hEnd.2.2.1, hEnd.2.2.2.mono (by decide) (by decide)⟩⟩
  · exact X15.returnOut hx Bd.returns (hb hby d4_26) hr
  · show Q4e Z sa ca f h0 n0 _ T15.heap _
    rw [e15]
    exact ⟨rfl, N15, Kp15, eb, 0, E_s_15, F_value_sa_15, F_coder_sa_15, kb5, Or.inl ⟨rfl, fun j hj => absurd hj (by omega), V5_15⟩⟩
  · show CHr Z consts_1 s.vm s.heap T15.vm T15.heap
    rw [hh, e15]
    exact R3
theorem ef_3e (m : MethodId) (sa : Addr) (ca : Addr) : entryFrame m #[(.ref sa), (.ref ca)] 2 = mkF m 0 #[.val (.ref sa), .val (.ref ca)] [] := by first | (simp [entryFrame, mkF, argsToLocals, Value.category]; done) | rfl
def Q3e (Z : State) (sa : Addr) (ca : Addr) (f : Nat → Int32) (kc : ClassId) (h0 : Heap) (n0 : Nat) (v : Option Value) (h : Heap) (L : List Loc) : Prop := v = none ∧ Fr n0 L ∧ Keep h0 h [sa] ∧ own_STR Z h sa f 0
set_option maxRecDepth 65536 in
set_option maxHeartbeats 40000000 in
theorem rm3e (l : Launch) (Z : State) (a0 : Array Value) (hw : ∀ d ∈ tables_1, d.before a0 Z = true) (ws : List Jvm.Cond) (sa : Addr) (ca : Addr) (f : Nat → Int32) (kc : ClassId) (h0 : Heap) (n0 : Nat) (Z0 : n0 ≤ h0.size) (E_s : Exa Z h0 sa "java/lang/String") (Fv : Fld Z h0 sa "java/lang/String" "value" "[B" .null) (Fc : Fld Z h0 sa "java/lang/String" "coder" "B" (.int (0 : Int32))) (gs : n0 ≤ sa) (Vc : Arv Z h0 ca kc .char (0 : Int32) [] (.int (0 : Int32))) (hsc : sa ≠ ca) :
    MetFree l (⟨"java/lang/String", "<init>", "([C)V"⟩ : MethodName) (head1 (Jvm.Cond.code (⟨"java/lang/String", "<init>", "([C)V"⟩ : MethodName) jdk_42_method_3_code 2 none :: ws) ({ frames := 2, cells := 2, slots := 4, locals := 29 } : Room)) (fun α υ => α = #[(.ref sa), (.ref ca)] ∧ Z.Warmed39 υ.vm ∧ υ.heap = h0 ∧ CHv Z consts_1 υ.vm h0) (fun _ _ _ _ _ => True) (fun _ υ ω υ' => ∃ v L, ω = .returned v ∧ Q3e Z sa ca f kc h0 n0 v υ'.heap L ∧ CHr Z consts_1 υ.vm υ.heap υ'.vm υ'.heap ∧ ReturnedEndW υ ω υ' L ({ frames := 2, cells := 2, slots := 4, locals := 29 } : Room).cells ({ frames := 2, cells := 2, slots := 4, locals := 29 } : Room).slots) := by
  refine MetFree.of_bodySF (plainFor_of_name pn_java_lang_String) hisR ?_
  intro p e s m args below meth c s₁ Bd hml0 hP hK
  obtain ⟨rfl, hZ, hh, hC0⟩ := hP
  have hx := Bd.exec
  have hby := Bd.bytes
  have hml : c.maxLocals = 2 := hml0
  have hown : s.vm.findClass "java/lang/String" = some m.cls := findClass_of_methodNamed Bd.named
  have hnm := (name_of_methodNamed Bd.named Bd.method).1
  have X0 : Stand p l e ({ frames := 2, cells := 2, slots := 4, locals := 29 } : Room) s m #[(.ref sa), (.ref ca)] below meth c s₁ [] 0 0 := Stand.of_body Bd
  have e0 : s₁.heap = h0 := by rw [← hh, Bd.state]; rfl
  have N0 := Fr.nil n0
  have pre0 : ∀ τ, Steps p.tables e below (s₁.setTop (mkF m 0 #[.val (.ref sa), .val (.ref ca)] [])) τ → Steps p.tables e below (s₁.setTop (entryFrame m #[(.ref sa), (.ref ca)] 2)) τ := fun τ κ => castTop (ef_3e m sa ca) κ
  have hS0 : s.Since s.vm 0 := (State.WarmedH.refl s).since 0
  have hks : 0 ≤ h0.size := Nat.zero_le _
  have hEL := own_EL hw
  have Kp0 : Keep h0 h0 [sa] := Keep.refl _ _
  have pre1 := fun τ (κ : Steps p.tables e below (s₁.setTop (mkF m 4 #[.val (.ref sa), .val (.ref ca)] [(.ref ca), (.int (0 : Int32)), (.ref ca), (.ref sa)])) τ) => pre0 τ (by
    refine XS.aloadN X0.here hx rfl (hb hby d3_0) rfl rfl ?_
    refine XS.aloadN X0.here hx rfl (hb hby d3_1) rfl rfl ?_
    refine XS.iconst X0.here hx rfl (hb hby d3_2) ?_
    refine XS.aloadN X0.here hx rfl (hb hby d3_3) rfl rfl ?_
    show Steps p.tables e below (s₁.setTop (mkF m 4 #[.val (.ref sa), .val (.ref ca)] [(.ref ca), (.int (0 : Int32)), (.ref ca), (.ref sa)])) _
    exact κ)
  obtain ⟨cl2, Ar2, -, S2, M2, -, -⟩ := id Vc
  have pre3 := fun τ (κ : Steps p.tables e below (s₁.setTop (mkF m 6 #[.val (.ref sa), .val (.ref ca)] [.null, (.int (0 : Int32)), (.int (0 : Int32)), (.ref ca), (.ref sa)])) τ) => pre1 τ (by
    refine X0.arraylength hx (by rw [e0]; exact Ar2.1) (State.isArrayOf_alike hZ.alike Ar2.2.1) (g := (mkF m 4 #[.val (.ref sa), .val (.ref ca)] [(.ref ca), (.int (0 : Int32)), (.ref ca), (.ref sa)])) rfl rfl (hb hby d3_4) _ ?_
    rw [len_of S2 M2]
    show Steps p.tables e below (s₁.setTop (mkF m 5 #[.val (.ref sa), .val (.ref ca)] [(.int (0 : Int32)), (.int (0 : Int32)), (.ref ca), (.ref sa)])) _
    refine XS.aconstNull X0.here hx rfl (hb hby d3_5) ?_
    show Steps p.tables e below (s₁.setTop (mkF m 6 #[.val (.ref sa), .val (.ref ca)] [.null, (.int (0 : Int32)), (.int (0 : Int32)), (.ref ca), (.ref sa)])) _
    exact κ)
  obtain ⟨_, _, ⟨T4, L4, k4, n4⟩, -, X4, hS4, gr4, ⟨Lc4, hQ4, l4, y4, z4, C4⟩, st4⟩ := X0.specialBackS hx (y := (⟨"java/lang/String", "<init>", "([CIILjava/lang/Void;)V"⟩ : MethodName)) rfl hown (mvT hZ (hw _ (List.mem_of_getElem? (i := 16) rfl))) (mvT hZ (hw _ (List.mem_of_getElem? (i := 17) rfl))) (mvT hZ (hw _ (List.mem_of_getElem? (i := 19) rfl))) (by decide) (backOfSH (s := s) (vm0 := s.vm) (W := 0) (rm4e l Z a0 hw [] sa ca f h0 n0 Z0 E_s Fv Fc gs) hZ (hw _ (List.mem_of_getElem? (i := 19) rfl)) (hw _ (List.mem_of_getElem? (i := 11) rfl)) (Nat.le_of_ble_eq_true rfl) (Nat.le_of_ble_eq_true rfl) hEL hC0) (g := (mkF m 6 #[.val (.ref sa), .val (.ref ca)] [.null, (.int (0 : Int32)), (.int (0 : Int32)), (.ref ca), (.ref sa)])) rfl (by rw [hml]; rfl) (Steps.refl _) (a := sa) (argsL := [(.ref ca), (.int (0 : Int32)), (.int (0 : Int32)), .null]) (rest := []) (lenOf pd_7 rfl) rfl (by show 2 * 0 + _ ≤ _; exact Nat.le_of_eq rfl) (hb hby d3_6) (fun _ _ => ⟨rfl, e0, (by decide : 0 + 2 ≤ _), (by decide : 0 + 4 ≤ _)⟩)
  dsimp only [Pt.U, Pt.locs, Pt.cells, Pt.slots] at X4 l4 y4 z4 st4 hQ4 hS4 gr4 C4
  subst l4 y4 z4
  obtain ⟨X4, hSr4, hZ, hown⟩ := rebS (s := s) (vm0 := s.vm) hS0 (Nat.zero_le _) X4 hS4 gr4 hZ hown
  have hks := Nat.le_refl T4.heap.size
  obtain ⟨sx4, hsx4⟩ : ∃ z, z = s.setVm T4.vm := ⟨_, rfl⟩
  rw [← hsx4] at X4 hZ hown
  obtain ⟨rfl, Nq4, K4, P4⟩ := hQ4
  have E_s_4 : Exa Z T4.heap sa "java/lang/String" := E_s.keep K4
  have Vc_4 : Arv Z T4.heap ca kc .char (0 : Int32) [] (.int (0 : Int32)) := Vc.keep K4 (ninS (Ne.symm hsc) nin0)
  have Z4 : n0 ≤ T4.heap.size := Nat.le_trans Z0 K4.1
  have Kp4 : Keep h0 T4.heap [sa] := Kp0.trans K4 (allS (Or.inl (List.mem_of_getElem? (i := 0) rfl)) all0)
  have N4 := Fr.app N0 Nq4
  have pre5 := fun τ (κ : Steps p.tables e below (T4.setTop (mkF m 9 #[.val (.ref sa), .val (.ref ca)] [])) τ) => pre3 τ (st4.trans κ)
  rw [hsx4] at X4 hZ hown
  obtain ⟨fs, hr, hrun, hended, hEnd⟩ := Stand.leaveW (s := s) (vm₁ := T4.vm) X4 hSr4 hks (v := none) (fun _ => rfl)
  refine ⟨_, _, pre5 _ ?_, hrun, hended, _, _, rfl, ?_, ?_, ⟨hEnd.1, hEnd.2.1, hEnd.2.2.1, hEnd.2.2.2.mono (by decide) (by decide)⟩⟩
  · exact X4.returnOut hx Bd.returns (hb hby d3_9) hr
  · show Q3e Z sa ca f kc h0 n0 _ T4.heap _
    exact ⟨rfl, N4, Kp4, P4⟩
  · show CHr Z consts_1 s.vm s.heap T4.vm T4.heap
    rw [hh]
    exact C4
theorem ef_1 (m : MethodId) (x : Int32) : entryFrame m #[(.int x)] 1 = mkF m 0 #[.val (.int x)] [] := by first | (simp [entryFrame, mkF, argsToLocals, Value.category]; done) | rfl
def Q1 (Z : State) (x : Int32) (h0 : Heap) (n0 : Nat) (v : Option Value) (h : Heap) (L : List Loc) : Prop := ∃ dq : Int32, v = some (.int dq) ∧ Fr n0 L ∧ h = h0 ∧ own_ch dq
set_option maxRecDepth 65536 in
set_option maxHeartbeats 40000000 in
theorem rm1 (l : Launch) (Z : State) (a0 : Array Value) (hw : ∀ d ∈ tables_1, d.before a0 Z = true) (ws : List Jvm.Cond) (x : Int32) (h0 : Heap) (n0 : Nat) (Z0 : n0 ≤ h0.size) :
    MetFree l (⟨"com/example/tympan/tympan/xjdf/XjdfPackageFolderPinLaw", "ch", "(I)C"⟩ : MethodName) (head1 (Jvm.Cond.code (⟨"com/example/tympan/tympan/xjdf/XjdfPackageFolderPinLaw", "ch", "(I)C"⟩ : MethodName) method_2_code 1 (some .char) :: ws) ({ frames := 0, cells := 0, slots := 0, locals := 0 } : Room)) (fun α υ => α = #[(.int x)] ∧ Z.Warmed39 υ.vm ∧ υ.heap = h0) (fun _ _ _ _ _ => True) (fun _ υ ω υ' => ∃ v L, ω = .returned v ∧ Q1 Z x h0 n0 v υ'.heap L ∧ FrameEnd υ ω υ' L ({ frames := 0, cells := 0, slots := 0, locals := 0 } : Room).cells ({ frames := 0, cells := 0, slots := 0, locals := 0 } : Room).slots) := by
  refine MetFree.of_bodySF (plainFor_of_name pn_com_example_tympan_tympan_xjdf_XjdfPackageFolderPinLaw) hisR ?_
  intro p e s m args below meth c s₁ Bd hml0 hP hK
  obtain ⟨rfl, hZ, hh⟩ := hP
  have hx := Bd.exec
  have hby := Bd.bytes
  have hml : c.maxLocals = 1 := hml0
  have hown : s.vm.findClass "com/example/tympan/tympan/xjdf/XjdfPackageFolderPinLaw" = some m.cls := findClass_of_methodNamed Bd.named
  have hnm := (name_of_methodNamed Bd.named Bd.method).1
  have X0 : Stand p l e ({ frames := 0, cells := 0, slots := 0, locals := 0 } : Room) s m #[(.int x)] below meth c s₁ [] 0 0 := Stand.of_body Bd
  have e0 : s₁.heap = h0 := by rw [← hh, Bd.state]; rfl
  have N0 := Fr.nil n0
  have pre0 : ∀ τ, Steps p.tables e below (s₁.setTop (mkF m 0 #[.val (.int x)] [])) τ → Steps p.tables e below (s₁.setTop (entryFrame m #[(.int x)] 1)) τ := fun τ κ => castTop (ef_1 m x) κ
  have pre1 := fun τ (κ : Steps p.tables e below (s₁.setTop (mkF m 6 #[.val (.int x)] [(.int (((x.toUInt32 >>> ((16 : Int32) &&& 31).toUInt32).toInt32) &&& (1 : Int32)))])) τ) => pre0 τ (by
    refine XS.iloadN X0.here hx rfl (hb hby d1_0) rfl ?_
    refine XS.bipush X0.here hx rfl (hb hby d1_1) ?_
    refine XS.iushr X0.here hx rfl (hb hby d1_3) rfl ?_
    show Steps p.tables e below (s₁.setTop (mkF m 4 #[.val (.int x)] [(.int ((x.toUInt32 >>> ((16 : Int32) &&& 31).toUInt32).toInt32))])) _
    refine XS.iconst X0.here hx rfl (hb hby d1_4) ?_
    refine XS.iand X0.here hx rfl (hb hby d1_5) rfl ?_
    show Steps p.tables e below (s₁.setTop (mkF m 6 #[.val (.int x)] [(.int (((x.toUInt32 >>> ((16 : Int32) &&& 31).toUInt32).toInt32) &&& (1 : Int32)))])) _
    exact κ)
  by_cases q1 : (((x.toUInt32 >>> ((16 : Int32) &&& 31).toUInt32).toInt32) &&& (1 : Int32)) = (0 : Int32)
  · have pre2 := fun τ (κ : Steps p.tables e below (s₁.setTop (mkF m 17 #[.val (.int x)] [(.int ((x &&& (65535 : Int32)).toUInt32.toUInt16.toUInt32.toInt32))])) τ) => pre1 τ (by
      refine XS.ifYes X0.here hx rfl (pc0 := 6) (pc' := 12) rfl (hb hby d1_6) rfl ((if0 _ _).trans (teq q1).1) (by decide) (by decide) ?_
      show Steps p.tables e below (s₁.setTop (mkF m 12 #[.val (.int x)] [])) _
      refine XS.iloadN X0.here hx rfl (hb hby d1_12) rfl ?_
      refine X0.ldcInt hx hown (mvT hZ (hw _ (List.mem_of_getElem? (i := 5) rfl))) (g := (mkF m 13 #[.val (.int x)] [(.int x)])) rfl (hb hby d1_13) _ ?_
      show Steps p.tables e below (s₁.setTop (mkF m 15 #[.val (.int x)] [(.int (65535 : Int32)), (.int x)])) _
      refine XS.iand X0.here hx rfl (hb hby d1_15) rfl ?_
      show Steps p.tables e below (s₁.setTop (mkF m 16 #[.val (.int x)] [(.int (x &&& (65535 : Int32)))])) _
      refine XS.i2c X0.here hx rfl (hb hby d1_16) rfl ?_
      show Steps p.tables e below (s₁.setTop (mkF m 17 #[.val (.int x)] [(.int ((x &&& (65535 : Int32)).toUInt32.toUInt16.toUInt32.toInt32))])) _
      exact κ)
    obtain ⟨fs, hr, hrun, hended, hW, hsame⟩ := X0.leave (v := some (.int (nar .char ((x &&& (65535 : Int32)).toUInt32.toUInt16.toUInt32.toInt32)))) (fun h => by rw [Bd.returns] at h; cases h)
    refine ⟨_, _, pre2 _ ?_, hrun, hended, _, _, rfl, ?_, ⟨_, rfl⟩, hW, hsame.mono (by decide) (by decide)⟩
    · exact retN X0 hx (t := .char) Bd.returns (by simp) (hb hby d1_17) hr
    · show Q1 Z x h0 n0 _ s₁.heap _
      rw [e0]
      exact ⟨_, rfl, N0, rfl, own_chn _⟩
  · have pre3 := fun τ (κ : Steps p.tables e below (s₁.setTop (mkF m 11 #[.val (.int x)] [(.int (47 : Int32))])) τ) => pre1 τ (by
      refine XS.ifNo X0.here hx rfl (hb hby d1_6) rfl ((if0 _ _).trans (feq q1).1) ?_
      show Steps p.tables e below (s₁.setTop (mkF m 9 #[.val (.int x)] [])) _
      refine XS.bipush X0.here hx rfl (hb hby d1_9) ?_
      show Steps p.tables e below (s₁.setTop (mkF m 11 #[.val (.int x)] [(.int (47 : Int32))])) _
      exact κ)
    obtain ⟨dq, h_dq⟩ : ∃ z : Int32, z = (47 : Int32) := ⟨_, rfl⟩
    rw [← h_dq] at pre3
    obtain ⟨fs, hr, hrun, hended, hW, hsame⟩ := X0.leave (v := some (.int (nar .char dq))) (fun h => by rw [Bd.returns] at h; cases h)
    refine ⟨_, _, pre3 _ ?_, hrun, hended, _, _, rfl, ?_, ⟨_, rfl⟩, hW, hsame.mono (by decide) (by decide)⟩
    · exact retN X0 hx (t := .char) Bd.returns (by simp) (hb hby d1_11) hr
    · show Q1 Z x h0 n0 _ s₁.heap _
      rw [e0]
      exact ⟨_, rfl, N0, rfl, own_chn _⟩
theorem ef_2 (m : MethodId) (c0 : Int32) (c1 : Int32) (c2 : Int32) (c3 : Int32) (nn : Nat) (zc : Int32) (fm : Value) : entryFrame m #[(.int c0), (.int c1), (.int c2), (.int c3), (.int (Int32.ofNat nn))] 5 = mkF m 0 #[.val (.int c0), .val (.int c1), .val (.int c2), .val (.int c3), .val (.int (Int32.ofNat nn))] [] := by first | (simp [entryFrame, mkF, argsToLocals, Value.category]; done) | rfl
def Q2 (Z : State) (c0 : Int32) (c1 : Int32) (c2 : Int32) (c3 : Int32) (nn : Nat) (zc : Int32) (fm : Value) (h0 : Heap) (n0 : Nat) (v : Option Value) (h : Heap) (L : List Loc) : Prop := ∃ so : Addr, v = some (.ref so) ∧ Fr n0 L ∧ Keep h0 h [] ∧ own_STR Z h so (own_f4 c0 c1 c2 c3) nn
set_option maxRecDepth 65536 in
set_option maxHeartbeats 40000000 in
theorem rm2 (l : Launch) (Z : State) (a0 : Array Value) (hw : ∀ d ∈ tables_1, d.before a0 Z = true) (ws : List Jvm.Cond) (c0 : Int32) (c1 : Int32) (c2 : Int32) (c3 : Int32) (nn : Nat) (zc : Int32) (fm : Value) (h0 : Heap) (n0 : Nat) (Z0 : n0 ≤ h0.size) (O0 : Old Z n0 h0) (U0 : own_ST Z zc fm) (hc0 : own_ch c0) (hc1 : own_ch c1) (hc2 : own_ch c2) (hc3 : own_ch c3) (hn : nn ≤ 4) :
    MetFree l (⟨"com/example/tympan/tympan/xjdf/XjdfPackageFolderPinLaw", "mk", "(CCCCI)Ljava/lang/String;"⟩ : MethodName) (head1 (Jvm.Cond.code (⟨"com/example/tympan/tympan/xjdf/XjdfPackageFolderPinLaw", "mk", "(CCCCI)Ljava/lang/String;"⟩ : MethodName) method_3_code 5 (some (.object "java/lang/String")) :: ws) ({ frames := 6, cells := 4, slots := 56, locals := 88 } : Room)) (fun α υ => α = #[(.int c0), (.int c1), (.int c2), (.int c3), (.int (Int32.ofNat nn))] ∧ Z.Warmed39 υ.vm ∧ υ.heap = h0 ∧ CHv Z consts_1 υ.vm h0) (fun _ _ _ _ _ => True) (fun _ υ ω υ' => ∃ v L, ω = .returned v ∧ Q2 Z c0 c1 c2 c3 nn zc fm h0 n0 v υ'.heap L ∧ CHr Z consts_1 υ.vm υ.heap υ'.vm υ'.heap ∧ ReturnedEndW υ ω υ' L ({ frames := 6, cells := 4, slots := 56, locals := 88 } : Room).cells ({ frames := 6, cells := 4, slots := 56, locals := 88 } : Room).slots) := by
  refine MetFree.of_bodySF (plainFor_of_name pn_com_example_tympan_tympan_xjdf_XjdfPackageFolderPinLaw) hisR ?_
  intro p e s m args below meth c s₁ Bd hml0 hP hK
  obtain ⟨rfl, hZ, hh, hC0⟩ := hP
  have hx := Bd.exec
  have hby := Bd.bytes
  have hml : c.maxLocals = 5 := hml0
  have hown : s.vm.findClass "com/example/tympan/tympan/xjdf/XjdfPackageFolderPinLaw" = some m.cls := findClass_of_methodNamed Bd.named
  have hnm := (name_of_methodNamed Bd.named Bd.method).1
  have X0 : Stand p l e ({ frames := 6, cells := 4, slots := 56, locals := 88 } : Room) s m #[(.int c0), (.int c1), (.int c2), (.int c3), (.int (Int32.ofNat nn))] below meth c s₁ [] 0 0 := Stand.of_body Bd
  have e0 : s₁.heap = h0 := by rw [← hh, Bd.state]; rfl
  have N0 := Fr.nil n0
  have pre0 : ∀ τ, Steps p.tables e below (s₁.setTop (mkF m 0 #[.val (.int c0), .val (.int c1), .val (.int c2), .val (.int c3), .val (.int (Int32.ofNat nn))] [])) τ → Steps p.tables e below (s₁.setTop (entryFrame m #[(.int c0), (.int c1), (.int c2), (.int c3), (.int (Int32.ofNat nn))] 5)) τ := fun τ κ => castTop (ef_2 m c0 c1 c2 c3 nn zc fm) κ
  have hS0 : s.Since s.vm 0 := (State.WarmedH.refl s).since 0
  have hks : 0 ≤ h0.size := Nat.zero_le _
  have hEL := own_EL hw
  have Kp0 : Keep h0 h0 [] := Keep.refl _ _
  rcases (show nn = 0 ∨ nn = 1 ∨ nn = 2 ∨ nn = 3 ∨ nn = 4 by omega) with rfl | rfl | rfl | rfl | rfl
  · have pre1 := fun τ (κ : Steps p.tables e below (s₁.setTop (mkF m 5 #[.val (.int c0), .val (.int c1), .val (.int c2), .val (.int c3), .val (.int (Int32.ofNat 0))] [])) τ) => pre0 τ (by
      refine XS.iload X0.here hx rfl (hb hby d2_0) rfl ?_
      refine XS.ifNo X0.here hx rfl (hb hby d2_2) rfl ((if0 _ _).trans (flt (by decide)).2.2.1) ?_
      show Steps p.tables e below (s₁.setTop (mkF m 5 #[.val (.int c0), .val (.int c1), .val (.int c2), .val (.int c3), .val (.int (Int32.ofNat 0))] [])) _
      exact κ)
    obtain ⟨T2, h2, X2, e2, E2, A2, D2, -, st2⟩ := newO X0 hx hZ hown (hw _ (List.mem_of_getElem? (i := 9) rfl)) (hw _ (List.mem_of_getElem? (i := 10) rfl)) (hw _ (List.mem_of_getElem? (i := 11) rfl)) e0 (g := (mkF m 5 #[.val (.int c0), .val (.int c1), .val (.int c2), .val (.int c3), .val (.int (Int32.ofNat 0))] [])) rfl (hb hby d2_5) (by decide) (by decide)
    obtain ⟨so, g2⟩ : ∃ z, z = h0.size := ⟨_, rfl⟩
    rw [← g2] at A2 D2 st2
    have g_so : n0 ≤ so := Nat.le_trans Z0 (Nat.le_of_eq g2.symm)
    have O0_2 : Old Z n0 h2 := O0.ext E2
    have sz_so : h0.size ≤ so := Nat.le_trans Kp0.1 (Nat.le_of_eq g2.symm)
    have Kp2 : Keep h0 h2 [] := Kp0.ext E2
    have Z2 : n0 ≤ h2.size := Nat.le_trans Z0 E2.1
    have F_value_so_2 : Fld Z h2 so "java/lang/String" "value" "[B" .null := D2 (Or.inr (hw _ (List.mem_of_getElem? (i := 25) rfl))) (ty := (.array .byte)) (by decide)
    have F_coder_so_2 : Fld Z h2 so "java/lang/String" "coder" "B" (.int (0 : Int32)) := D2 (Or.inr (hw _ (List.mem_of_getElem? (i := 26) rfl))) (ty := .byte) (by decide)
    have pre3 := fun τ (κ : Steps p.tables e below (T2.setTop (mkF m 8 #[.val (.int c0), .val (.int c1), .val (.int c2), .val (.int c3), .val (.int (Int32.ofNat 0))] [(.ref so)])) τ) => pre1 τ (st2 _ κ)
    have pre4 := fun τ (κ : Steps p.tables e below (T2.setTop (mkF m 10 #[.val (.int c0), .val (.int c1), .val (.int c2), .val (.int c3), .val (.int (Int32.ofNat 0))] [(.int (0 : Int32)), (.ref so), (.ref so)])) τ) => pre3 τ (by
      refine XS.dup X2.here hx rfl (hb hby d2_8) rfl rfl ?_
      show Steps p.tables e below (T2.setTop (mkF m 9 #[.val (.int c0), .val (.int c1), .val (.int c2), .val (.int c3), .val (.int (Int32.ofNat 0))] [(.ref so), (.ref so)])) _
      refine XS.iconst X2.here hx rfl (hb hby d2_9) ?_
      show Steps p.tables e below (T2.setTop (mkF m 10 #[.val (.int c0), .val (.int c1), .val (.int c2), .val (.int c3), .val (.int (Int32.ofNat 0))] [(.int (0 : Int32)), (.ref so), (.ref so)])) _
      exact κ)
    obtain ⟨T5, h5, k5, X5, e5, E5, A5, st5⟩ := newP X2 hx hZ (hw _ (List.mem_of_getElem? (i := 12) rfl)) e2 (g := (mkF m 10 #[.val (.int c0), .val (.int c1), .val (.int c2), .val (.int c3), .val (.int (Int32.ofNat 0))] [(.int (0 : Int32)), (.ref so), (.ref so)])) rfl (hb hby d2_10) rfl (by decide) (cap := 0) (by decide) (by decide) (by decide) (by decide)
    obtain ⟨ar, g5⟩ : ∃ z, z = h2.size := ⟨_, rfl⟩
    rw [← g5] at A5 st5
    have g_ar : n0 ≤ ar := Nat.le_trans Z2 (Nat.le_of_eq g5.symm)
    have ne_so_ar : so ≠ ar := Nat.ne_of_lt (Nat.lt_of_lt_of_le A2.lt (Nat.le_of_eq g5.symm))
    have O0_5 : Old Z n0 h5 := O0_2.ext E5
    have A2_5 : Exa Z h5 so "java/lang/String" := A2.ext E5
    have F_value_so_5 : Fld Z h5 so "java/lang/String" "value" "[B" .null := F_value_so_2.ext E5
    have F_coder_so_5 : Fld Z h5 so "java/lang/String" "coder" "B" (.int (0 : Int32)) := F_coder_so_2.ext E5
    have sz_ar : h0.size ≤ ar := Nat.le_trans Kp2.1 (Nat.le_of_eq g5.symm)
    have Kp5 : Keep h0 h5 [] := Kp2.ext E5
    have Z5 : n0 ≤ h5.size := Nat.le_trans Z2 E5.1
    have V_ar_5 : Arv Z h5 ar k5 .char (0 : Int32) [] (.int (0 : Int32)) := (Arv.new A5 (by decide)).pad (pad_rep [] (.int (0 : Int32)) 0)
    have pre6 := fun τ (κ : Steps p.tables e below (T5.setTop (mkF m 12 #[.val (.int c0), .val (.int c1), .val (.int c2), .val (.int c3), .val (.int (Int32.ofNat 0))] [(.ref ar), (.ref so), (.ref so)])) τ) => pre4 τ (st5 _ κ)
    obtain ⟨_, _, ⟨T7, L7, k7, n7⟩, -, X7, hS7, gr7, ⟨Lc7, hQ7, l7, y7, z7, C7⟩, st7⟩ := X5.specialBackS hx (y := (⟨"java/lang/String", "<init>", "([C)V"⟩ : MethodName)) rfl hown (mvT hZ (hw _ (List.mem_of_getElem? (i := 13) rfl))) (mvT hZ (hw _ (List.mem_of_getElem? (i := 14) rfl))) (mvT hZ (hw _ (List.mem_of_getElem? (i := 15) rfl))) (by decide) (backOfSH (s := s) (vm0 := s.vm) (W := 1) (rm3e l Z a0 hw [] so ar (own_f4 c0 c1 c2 c3) k5 h5 n0 Z5 A2_5 F_value_so_5 F_coder_so_5 g_so V_ar_5 ne_so_ar) hZ (hw _ (List.mem_of_getElem? (i := 15) rfl)) (hw _ (List.mem_of_getElem? (i := 11) rfl)) (Nat.le_of_ble_eq_true rfl) (Nat.le_of_ble_eq_true rfl) hEL (CHv.keep Kp5 sf0 hC0)) (g := (mkF m 12 #[.val (.int c0), .val (.int c1), .val (.int c2), .val (.int c3), .val (.int (Int32.ofNat 0))] [(.ref ar), (.ref so), (.ref so)])) rfl (by rw [hml]; rfl) (Steps.refl _) (a := so) (argsL := [(.ref ar)]) (rest := [(.ref so)]) (lenOf pd_9 rfl) rfl (by show 2 * 0 + _ ≤ _; exact Nat.le_of_eq rfl) (hb hby d2_12) (fun _ _ => ⟨rfl, e5, (by decide : 2 + 2 ≤ _), (by decide : 4 + 4 ≤ _)⟩)
    dsimp only [Pt.U, Pt.locs, Pt.cells, Pt.slots] at X7 l7 y7 z7 st7 hQ7 hS7 gr7 C7
    subst l7 y7 z7
    obtain ⟨X7, hSr7, hZ, hown⟩ := rebS (s := s) (vm0 := s.vm) hS0 (Nat.zero_le _) X7 hS7 gr7 hZ hown
    have hks := Nat.le_refl T7.heap.size
    obtain ⟨sx7, hsx7⟩ : ∃ z, z = s.setVm T7.vm := ⟨_, rfl⟩
    rw [← hsx7] at X7 hZ hown
    obtain ⟨rfl, Nq7, K7, P7⟩ := hQ7
    have O0_7 : Old Z n0 T7.heap := O0_5.keep K7 (allS g_so all0)
    have A2_7 : Exa Z T7.heap so "java/lang/String" := A2_5.keep K7
    have V_ar_7 : Arv Z T7.heap ar k5 .char (0 : Int32) [] (.int (0 : Int32)) := V_ar_5.keep K7 (ninS (Ne.symm ne_so_ar) nin0)
    have Z7 : n0 ≤ T7.heap.size := Nat.le_trans Z5 K7.1
    have Kp7 : Keep h0 T7.heap [] := Kp5.trans K7 (allS (Or.inr sz_so) all0)
    have N7 := Fr.app N0 Nq7
    have pre8 := fun τ (κ : Steps p.tables e below (T7.setTop (mkF m 15 #[.val (.int c0), .val (.int c1), .val (.int c2), .val (.int c3), .val (.int (Int32.ofNat 0))] [(.ref so)])) τ) => pre6 τ (st7.trans κ)
    rw [hsx7] at X7 hZ hown
    obtain ⟨fs, hr, hrun, hended, hEnd⟩ := Stand.leaveW (s := s) (vm₁ := T7.vm) X7 hSr7 hks (v := some (.ref so)) (fun h => by rw [Bd.returns] at h; cases h)
    refine ⟨_, _, pre8 _ ?_, hrun, hended, _, _, rfl, ?_, ?_, ⟨hEnd.1, hEnd.2.1, hEnd.2.2.1, hEnd.2.2.2.mono (by decide) (by decide)⟩⟩
    · jvm_step X7.here [X7.here.top, hx, (hb hby d2_15), X7.method', Bd.returns, Value.isRef, FieldType.isReference]
      first | (intro acts; rw [hr _ acts rfl rfl rfl]) | rw [hr _ _ rfl rfl rfl]
      exact Steps.refl _
    · show Q2 Z c0 c1 c2 c3 0 zc fm h0 n0 _ T7.heap _
      exact ⟨so, rfl, N7, Kp7, P7⟩
    · show CHr Z consts_1 s.vm s.heap T7.vm T7.heap
      rw [hh]
      exact ((CHr.keep Kp5 sf0 hC0).trans C7)
  · have pre9 := fun τ (κ : Steps p.tables e below (s₁.setTop (mkF m 22 #[.val (.int c0), .val (.int c1), .val (.int c2), .val (.int c3), .val (.int (Int32.ofNat 1))] [])) τ) => pre0 τ (by
      refine XS.iload X0.here hx rfl (hb hby d2_0) rfl ?_
      refine XS.ifYes X0.here hx rfl (pc0 := 2) (pc' := 16) rfl (hb hby d2_2) rfl ((if0 _ _).trans (tlt (by decide)).2.2.1) (by decide) (by decide) ?_
      show Steps p.tables e below (s₁.setTop (mkF m 16 #[.val (.int c0), .val (.int c1), .val (.int c2), .val (.int c3), .val (.int (Int32.ofNat 1))] [])) _
      refine XS.iload X0.here hx rfl (hb hby d2_16) rfl ?_
      refine XS.iconst X0.here hx rfl (hb hby d2_18) ?_
      refine XS.icmpNo X0.here hx rfl (hb hby d2_19) rfl (teq (by decide)).2 ?_
      show Steps p.tables e below (s₁.setTop (mkF m 22 #[.val (.int c0), .val (.int c1), .val (.int c2), .val (.int c3), .val (.int (Int32.ofNat 1))] [])) _
      exact κ)
    obtain ⟨T10, h10, X10, e10, E10, A10, D10, -, st10⟩ := newO X0 hx hZ hown (hw _ (List.mem_of_getElem? (i := 9) rfl)) (hw _ (List.mem_of_getElem? (i := 10) rfl)) (hw _ (List.mem_of_getElem? (i := 11) rfl)) e0 (g := (mkF m 22 #[.val (.int c0), .val (.int c1), .val (.int c2), .val (.int c3), .val (.int (Int32.ofNat 1))] [])) rfl (hb hby d2_22) (by decide) (by decide)
    obtain ⟨so, g10⟩ : ∃ z, z = h0.size := ⟨_, rfl⟩
    rw [← g10] at A10 D10 st10
    have g_so : n0 ≤ so := Nat.le_trans Z0 (Nat.le_of_eq g10.symm)
    have O0_10 : Old Z n0 h10 := O0.ext E10
    have sz_so : h0.size ≤ so := Nat.le_trans Kp0.1 (Nat.le_of_eq g10.symm)
    have Kp10 : Keep h0 h10 [] := Kp0.ext E10
    have Z10 : n0 ≤ h10.size := Nat.le_trans Z0 E10.1
    have F_value_so_10 : Fld Z h10 so "java/lang/String" "value" "[B" .null := D10 (Or.inr (hw _ (List.mem_of_getElem? (i := 25) rfl))) (ty := (.array .byte)) (by decide)
    have F_coder_so_10 : Fld Z h10 so "java/lang/String" "coder" "B" (.int (0 : Int32)) := D10 (Or.inr (hw _ (List.mem_of_getElem? (i := 26) rfl))) (ty := .byte) (by decide)
    have pre11 := fun τ (κ : Steps p.tables e below (T10.setTop (mkF m 25 #[.val (.int c0), .val (.int c1), .val (.int c2), .val (.int c3), .val (.int (Int32.ofNat 1))] [(.ref so)])) τ) => pre9 τ (st10 _ κ)
    have pre12 := fun τ (κ : Steps p.tables e below (T10.setTop (mkF m 27 #[.val (.int c0), .val (.int c1), .val (.int c2), .val (.int c3), .val (.int (Int32.ofNat 1))] [(.int (1 : Int32)), (.ref so), (.ref so)])) τ) => pre11 τ (by
      refine XS.dup X10.here hx rfl (hb hby d2_25) rfl rfl ?_
      show Steps p.tables e below (T10.setTop (mkF m 26 #[.val (.int c0), .val (.int c1), .val (.int c2), .val (.int c3), .val (.int (Int32.ofNat 1))] [(.ref so), (.ref so)])) _
      refine XS.iconst X10.here hx rfl (hb hby d2_26) ?_
      show Steps p.tables e below (T10.setTop (mkF m 27 #[.val (.int c0), .val (.int c1), .val (.int c2), .val (.int c3), .val (.int (Int32.ofNat 1))] [(.int (1 : Int32)), (.ref so), (.ref so)])) _
      exact κ)
    obtain ⟨T13, h13, k13, X13, e13, E13, A13, st13⟩ := newP X10 hx hZ (hw _ (List.mem_of_getElem? (i := 12) rfl)) e10 (g := (mkF m 27 #[.val (.int c0), .val (.int c1), .val (.int c2), .val (.int c3), .val (.int (Int32.ofNat 1))] [(.int (1 : Int32)), (.ref so), (.ref so)])) rfl (hb hby d2_27) rfl (by decide) (cap := 1) (by decide) (by decide) (by decide) (by decide)
    obtain ⟨ar, g13⟩ : ∃ z, z = h10.size := ⟨_, rfl⟩
    rw [← g13] at A13 st13
    have g_ar : n0 ≤ ar := Nat.le_trans Z10 (Nat.le_of_eq g13.symm)
    have ne_so_ar : so ≠ ar := Nat.ne_of_lt (Nat.lt_of_lt_of_le A10.lt (Nat.le_of_eq g13.symm))
    have O0_13 : Old Z n0 h13 := O0_10.ext E13
    have A10_13 : Exa Z h13 so "java/lang/String" := A10.ext E13
    have F_value_so_13 : Fld Z h13 so "java/lang/String" "value" "[B" .null := F_value_so_10.ext E13
    have F_coder_so_13 : Fld Z h13 so "java/lang/String" "coder" "B" (.int (0 : Int32)) := F_coder_so_10.ext E13
    have sz_ar : h0.size ≤ ar := Nat.le_trans Kp10.1 (Nat.le_of_eq g13.symm)
    have Kp13 : Keep h0 h13 [] := Kp10.ext E13
    have Z13 : n0 ≤ h13.size := Nat.le_trans Z10 E13.1
    have V_ar_13 : Arv Z h13 ar k13 .char (1 : Int32) [(.int (0 : Int32))] (.int (0 : Int32)) := (Arv.new A13 (by decide)).pad (pad_rep [] (.int (0 : Int32)) 1)
    have pre14 := fun τ (κ : Steps p.tables e below (T13.setTop (mkF m 29 #[.val (.int c0), .val (.int c1), .val (.int c2), .val (.int c3), .val (.int (Int32.ofNat 1))] [(.ref ar), (.ref so), (.ref so)])) τ) => pre12 τ (st13 _ κ)
    have pre15 := fun τ (κ : Steps p.tables e below (T13.setTop (mkF m 32 #[.val (.int c0), .val (.int c1), .val (.int c2), .val (.int c3), .val (.int (Int32.ofNat 1))] [(.int c0), (.int (0 : Int32)), (.ref ar), (.ref ar), (.ref so), (.ref so)])) τ) => pre14 τ (by
      refine XS.dup X13.here hx rfl (hb hby d2_29) rfl rfl ?_
      show Steps p.tables e below (T13.setTop (mkF m 30 #[.val (.int c0), .val (.int c1), .val (.int c2), .val (.int c3), .val (.int (Int32.ofNat 1))] [(.ref ar), (.ref ar), (.ref so), (.ref so)])) _
      refine XS.iconst X13.here hx rfl (hb hby d2_30) ?_
      refine XS.iloadN X13.here hx rfl (hb hby d2_31) rfl ?_
      show Steps p.tables e below (T13.setTop (mkF m 32 #[.val (.int c0), .val (.int c1), .val (.int c2), .val (.int c3), .val (.int (Int32.ofNat 1))] [(.int c0), (.int (0 : Int32)), (.ref ar), (.ref ar), (.ref so), (.ref so)])) _
      exact κ)
    obtain ⟨cl16, Ar16, q16, S16, M16, H16, G16⟩ := id V_ar_13
    have in16 : ¬ ((0 : Int32) < 0 ∨ cl16.slots.size ≤ ((0 : Int32)).toNatClampNeg) := inb_of S16 ⟨by decide, by decide⟩
    obtain ⟨T17, h17, X17, e17, W17, st17⟩ := stC X13 hx hZ e13 Ar16 (j := (0 : Int32)) in16 (g := (mkF m 32 #[.val (.int c0), .val (.int c1), .val (.int c2), .val (.int c3), .val (.int (Int32.ofNat 1))] [(.int c0), (.int (0 : Int32)), (.ref ar), (.ref ar), (.ref so), (.ref so)])) rfl rfl (hb hby d2_32)
    have O0_17 : Old Z n0 h17 := O0_13.wr W17 g_ar
    have A10_17 : Exa Z h17 so "java/lang/String" := A10_13.wr W17
    have F_value_so_17 : Fld Z h17 so "java/lang/String" "value" "[B" .null := F_value_so_13.other W17 (Or.inl ne_so_ar)
    have F_coder_so_17 : Fld Z h17 so "java/lang/String" "coder" "B" (.int (0 : Int32)) := F_coder_so_13.other W17 (Or.inl ne_so_ar)
    have Kp17 : Keep h0 h17 [] := Kp13.wr W17 (Or.inr sz_ar)
    have N17 := Fr.snoc X17 N0 g_ar
    have Z17 : n0 ≤ h17.size := Nat.le_trans Z13 (Keep.of_wr W17).1
    have V_ar_17 : Arv Z h17 ar k13 .char (1 : Int32) [(.int (nar .char c0))] (.int (0 : Int32)) := Arv.set Ar16 q16 S16 M16 H16 G16 (fits_nar_char _) W17 0 rfl (Nat.le_of_ble_eq_true rfl)
    have pre18 := fun τ (κ : Steps p.tables e below (T17.setTop (mkF m 33 #[.val (.int c0), .val (.int c1), .val (.int c2), .val (.int c3), .val (.int (Int32.ofNat 1))] [(.ref ar), (.ref so), (.ref so)])) τ) => pre15 τ (st17 _ κ)
    have Vt : Arv Z h17 ar k13 .char (Int32.ofNat 1) (own_tab (own_f4 c0 c1 c2 c3) (1)) (.int (0 : Int32)) := by
      have q := V_ar_17
      rw [own_i2cn hc0] at q
      exact q
    obtain ⟨_, _, ⟨T19, L19, k19, n19⟩, -, X19, ⟨Lc19, hQ19, l19, y19, z19⟩, st19⟩ := X17.specialBack hx (y := (⟨"java/lang/String", "<init>", "([C)V"⟩ : MethodName)) rfl hown (mvT hZ (hw _ (List.mem_of_getElem? (i := 13) rfl))) (mvT hZ (hw _ (List.mem_of_getElem? (i := 14) rfl))) (mvT hZ (hw _ (List.mem_of_getElem? (i := 15) rfl))) (by decide) (backOf (W := 1) (rm3 l Z a0 hw [] so ar 1 k13 (own_f4 c0 c1 c2 c3) zc fm h17 n0 Z17 O0_17 U0 A10_17 F_value_so_17 F_coder_so_17 Vt (by decide) (by decide) (fun j _ => own_f4c hc0 hc1 hc2 hc3 j) ne_so_ar g_so) hZ (hw _ (List.mem_of_getElem? (i := 15) rfl)) (hw _ (List.mem_of_getElem? (i := 11) rfl)) (Nat.le_of_ble_eq_true rfl) (Nat.le_of_ble_eq_true rfl)) (g := (mkF m 33 #[.val (.int c0), .val (.int c1), .val (.int c2), .val (.int c3), .val (.int (Int32.ofNat 1))] [(.ref ar), (.ref so), (.ref so)])) rfl (by rw [hml]; rfl) (Steps.refl _) (a := so) (argsL := [(.ref ar)]) (rest := [(.ref so)]) (lenOf pd_9 rfl) rfl (by show 2 * 0 + _ ≤ _; exact Nat.le_of_eq rfl) (hb hby d2_33) (fun _ _ => ⟨rfl, e17, (by decide : 2 + 2 ≤ _), (by decide : 5 + 48 ≤ _)⟩)
    dsimp only [Pt.U, Pt.locs, Pt.cells, Pt.slots] at X19 l19 y19 z19 st19 hQ19
    subst l19 y19 z19
    obtain ⟨rfl, Nq19, K19, P19⟩ := hQ19
    have O0_19 : Old Z n0 T19.heap := O0_17.keep K19 (allS g_so all0)
    have A10_19 : Exa Z T19.heap so "java/lang/String" := A10_17.keep K19
    have V_ar_19 : Arv Z T19.heap ar k13 .char (1 : Int32) [(.int (nar .char c0))] (.int (0 : Int32)) := V_ar_17.keep K19 (ninS (Ne.symm ne_so_ar) nin0)
    have Z19 : n0 ≤ T19.heap.size := Nat.le_trans Z17 K19.1
    have Kp19 : Keep h0 T19.heap [] := Kp17.trans K19 (allS (Or.inr sz_so) all0)
    have N19 := Fr.app N17 Nq19
    have pre20 := fun τ (κ : Steps p.tables e below (T19.setTop (mkF m 36 #[.val (.int c0), .val (.int c1), .val (.int c2), .val (.int c3), .val (.int (Int32.ofNat 1))] [(.ref so)])) τ) => pre18 τ (st19.trans κ)
    obtain ⟨fs, hr, hrun, hended, hEnd⟩ := Stand.leaveW (s := s) (vm₁ := s.vm) X19 hS0 (Nat.zero_le _) (v := some (.ref so)) (fun h => by rw [Bd.returns] at h; cases h)
    refine ⟨_, _, pre20 _ ?_, hrun, hended, _, _, rfl, ?_, ?_, ⟨hEnd.1, hEnd.2.1, hEnd.2.2.1, hEnd.2.2.2.mono (by decide) (by decide)⟩⟩
    · jvm_step X19.here [X19.here.top, hx, (hb hby d2_36), X19.method', Bd.returns, Value.isRef, FieldType.isReference]
      first | (intro acts; rw [hr _ acts rfl rfl rfl]) | rw [hr _ _ rfl rfl rfl]
      exact Steps.refl _
    · show Q2 Z c0 c1 c2 c3 1 zc fm h0 n0 _ T19.heap _
      exact ⟨so, rfl, N19, Kp19, P19⟩
    · show CHr Z consts_1 s.vm s.heap T19.vm T19.heap
      rw [hh]
      exact ((CHr.keep Kp19 sf0 hC0).trans (CHv.at (s := s) (vm0 := s.vm) X19 hZ hEL (CHv.keep Kp19 sf0 hC0)))
  · have pre21 := fun τ (κ : Steps p.tables e below (s₁.setTop (mkF m 43 #[.val (.int c0), .val (.int c1), .val (.int c2), .val (.int c3), .val (.int (Int32.ofNat 2))] [])) τ) => pre0 τ (by
      refine XS.iload X0.here hx rfl (hb hby d2_0) rfl ?_
      refine XS.ifYes X0.here hx rfl (pc0 := 2) (pc' := 16) rfl (hb hby d2_2) rfl ((if0 _ _).trans (tlt (by decide)).2.2.1) (by decide) (by decide) ?_
      show Steps p.tables e below (s₁.setTop (mkF m 16 #[.val (.int c0), .val (.int c1), .val (.int c2), .val (.int c3), .val (.int (Int32.ofNat 2))] [])) _
      refine XS.iload X0.here hx rfl (hb hby d2_16) rfl ?_
      refine XS.iconst X0.here hx rfl (hb hby d2_18) ?_
      refine XS.icmpYes X0.here hx rfl (pc0 := 19) (pc' := 37) rfl (hb hby d2_19) rfl (feq (by decide)).2 (by decide) (by decide) ?_
      show Steps p.tables e below (s₁.setTop (mkF m 37 #[.val (.int c0), .val (.int c1), .val (.int c2), .val (.int c3), .val (.int (Int32.ofNat 2))] [])) _
      refine XS.iload X0.here hx rfl (hb hby d2_37) rfl ?_
      refine XS.iconst X0.here hx rfl (hb hby d2_39) ?_
      refine XS.icmpNo X0.here hx rfl (hb hby d2_40) rfl (teq (by decide)).2 ?_
      show Steps p.tables e below (s₁.setTop (mkF m 43 #[.val (.int c0), .val (.int c1), .val (.int c2), .val (.int c3), .val (.int (Int32.ofNat 2))] [])) _
      exact κ)
    obtain ⟨T22, h22, X22, e22, E22, A22, D22, -, st22⟩ := newO X0 hx hZ hown (hw _ (List.mem_of_getElem? (i := 9) rfl)) (hw _ (List.mem_of_getElem? (i := 10) rfl)) (hw _ (List.mem_of_getElem? (i := 11) rfl)) e0 (g := (mkF m 43 #[.val (.int c0), .val (.int c1), .val (.int c2), .val (.int c3), .val (.int (Int32.ofNat 2))] [])) rfl (hb hby d2_43) (by decide) (by decide)
    obtain ⟨so, g22⟩ : ∃ z, z = h0.size := ⟨_, rfl⟩
    rw [← g22] at A22 D22 st22
    have g_so : n0 ≤ so := Nat.le_trans Z0 (Nat.le_of_eq g22.symm)
    have O0_22 : Old Z n0 h22 := O0.ext E22
    have sz_so : h0.size ≤ so := Nat.le_trans Kp0.1 (Nat.le_of_eq g22.symm)
    have Kp22 : Keep h0 h22 [] := Kp0.ext E22
    have Z22 : n0 ≤ h22.size := Nat.le_trans Z0 E22.1
    have F_value_so_22 : Fld Z h22 so "java/lang/String" "value" "[B" .null := D22 (Or.inr (hw _ (List.mem_of_getElem? (i := 25) rfl))) (ty := (.array .byte)) (by decide)
    have F_coder_so_22 : Fld Z h22 so "java/lang/String" "coder" "B" (.int (0 : Int32)) := D22 (Or.inr (hw _ (List.mem_of_getElem? (i := 26) rfl))) (ty := .byte) (by decide)
    have pre23 := fun τ (κ : Steps p.tables e below (T22.setTop (mkF m 46 #[.val (.int c0), .val (.int c1), .val (.int c2), .val (.int c3), .val (.int (Int32.ofNat 2))] [(.ref so)])) τ) => pre21 τ (st22 _ κ)
    have pre24 := fun τ (κ : Steps p.tables e below (T22.setTop (mkF m 48 #[.val (.int c0), .val (.int c1), .val (.int c2), .val (.int c3), .val (.int (Int32.ofNat 2))] [(.int (2 : Int32)), (.ref so), (.ref so)])) τ) => pre23 τ (by
      refine XS.dup X22.here hx rfl (hb hby d2_46) rfl rfl ?_
      show Steps p.tables e below (T22.setTop (mkF m 47 #[.val (.int c0), .val (.int c1), .val (.int c2), .val (.int c3), .val (.int (Int32.ofNat 2))] [(.ref so), (.ref so)])) _
      refine XS.iconst X22.here hx rfl (hb hby d2_47) ?_
      show Steps p.tables e below (T22.setTop (mkF m 48 #[.val (.int c0), .val (.int c1), .val (.int c2), .val (.int c3), .val (.int (Int32.ofNat 2))] [(.int (2 : Int32)), (.ref so), (.ref so)])) _
      exact κ)
    obtain ⟨T25, h25, k25, X25, e25, E25, A25, st25⟩ := newP X22 hx hZ (hw _ (List.mem_of_getElem? (i := 12) rfl)) e22 (g := (mkF m 48 #[.val (.int c0), .val (.int c1), .val (.int c2), .val (.int c3), .val (.int (Int32.ofNat 2))] [(.int (2 : Int32)), (.ref so), (.ref so)])) rfl (hb hby d2_48) rfl (by decide) (cap := 2) (by decide) (by decide) (by decide) (by decide)
    obtain ⟨ar, g25⟩ : ∃ z, z = h22.size := ⟨_, rfl⟩
    rw [← g25] at A25 st25
    have g_ar : n0 ≤ ar := Nat.le_trans Z22 (Nat.le_of_eq g25.symm)
    have ne_so_ar : so ≠ ar := Nat.ne_of_lt (Nat.lt_of_lt_of_le A22.lt (Nat.le_of_eq g25.symm))
    have O0_25 : Old Z n0 h25 := O0_22.ext E25
    have A22_25 : Exa Z h25 so "java/lang/String" := A22.ext E25
    have F_value_so_25 : Fld Z h25 so "java/lang/String" "value" "[B" .null := F_value_so_22.ext E25
    have F_coder_so_25 : Fld Z h25 so "java/lang/String" "coder" "B" (.int (0 : Int32)) := F_coder_so_22.ext E25
    have sz_ar : h0.size ≤ ar := Nat.le_trans Kp22.1 (Nat.le_of_eq g25.symm)
    have Kp25 : Keep h0 h25 [] := Kp22.ext E25
    have Z25 : n0 ≤ h25.size := Nat.le_trans Z22 E25.1
    have V_ar_25 : Arv Z h25 ar k25 .char (2 : Int32) [(.int (0 : Int32)), (.int (0 : Int32))] (.int (0 : Int32)) := (Arv.new A25 (by decide)).pad (pad_rep [] (.int (0 : Int32)) 2)
    have pre26 := fun τ (κ : Steps p.tables e below (T25.setTop (mkF m 50 #[.val (.int c0), .val (.int c1), .val (.int c2), .val (.int c3), .val (.int (Int32.ofNat 2))] [(.ref ar), (.ref so), (.ref so)])) τ) => pre24 τ (st25 _ κ)
    have pre27 := fun τ (κ : Steps p.tables e below (T25.setTop (mkF m 53 #[.val (.int c0), .val (.int c1), .val (.int c2), .val (.int c3), .val (.int (Int32.ofNat 2))] [(.int c0), (.int (0 : Int32)), (.ref ar), (.ref ar), (.ref so), (.ref so)])) τ) => pre26 τ (by
      refine XS.dup X25.here hx rfl (hb hby d2_50) rfl rfl ?_
      show Steps p.tables e below (T25.setTop (mkF m 51 #[.val (.int c0), .val (.int c1), .val (.int c2), .val (.int c3), .val (.int (Int32.ofNat 2))] [(.ref ar), (.ref ar), (.ref so), (.ref so)])) _
      refine XS.iconst X25.here hx rfl (hb hby d2_51) ?_
      refine XS.iloadN X25.here hx rfl (hb hby d2_52) rfl ?_
      show Steps p.tables e below (T25.setTop (mkF m 53 #[.val (.int c0), .val (.int c1), .val (.int c2), .val (.int c3), .val (.int (Int32.ofNat 2))] [(.int c0), (.int (0 : Int32)), (.ref ar), (.ref ar), (.ref so), (.ref so)])) _
      exact κ)
    obtain ⟨cl28, Ar28, q28, S28, M28, H28, G28⟩ := id V_ar_25
    have in28 : ¬ ((0 : Int32) < 0 ∨ cl28.slots.size ≤ ((0 : Int32)).toNatClampNeg) := inb_of S28 ⟨by decide, by decide⟩
    obtain ⟨T29, h29, X29, e29, W29, st29⟩ := stC X25 hx hZ e25 Ar28 (j := (0 : Int32)) in28 (g := (mkF m 53 #[.val (.int c0), .val (.int c1), .val (.int c2), .val (.int c3), .val (.int (Int32.ofNat 2))] [(.int c0), (.int (0 : Int32)), (.ref ar), (.ref ar), (.ref so), (.ref so)])) rfl rfl (hb hby d2_53)
    have O0_29 : Old Z n0 h29 := O0_25.wr W29 g_ar
    have A22_29 : Exa Z h29 so "java/lang/String" := A22_25.wr W29
    have F_value_so_29 : Fld Z h29 so "java/lang/String" "value" "[B" .null := F_value_so_25.other W29 (Or.inl ne_so_ar)
    have F_coder_so_29 : Fld Z h29 so "java/lang/String" "coder" "B" (.int (0 : Int32)) := F_coder_so_25.other W29 (Or.inl ne_so_ar)
    have Kp29 : Keep h0 h29 [] := Kp25.wr W29 (Or.inr sz_ar)
    have N29 := Fr.snoc X29 N0 g_ar
    have Z29 : n0 ≤ h29.size := Nat.le_trans Z25 (Keep.of_wr W29).1
    have V_ar_29 : Arv Z h29 ar k25 .char (2 : Int32) [(.int (nar .char c0)), (.int (0 : Int32))] (.int (0 : Int32)) := Arv.set Ar28 q28 S28 M28 H28 G28 (fits_nar_char _) W29 0 rfl (Nat.le_of_ble_eq_true rfl)
    have pre30 := fun τ (κ : Steps p.tables e below (T29.setTop (mkF m 54 #[.val (.int c0), .val (.int c1), .val (.int c2), .val (.int c3), .val (.int (Int32.ofNat 2))] [(.ref ar), (.ref so), (.ref so)])) τ) => pre27 τ (st29 _ κ)
    have pre31 := fun τ (κ : Steps p.tables e below (T29.setTop (mkF m 57 #[.val (.int c0), .val (.int c1), .val (.int c2), .val (.int c3), .val (.int (Int32.ofNat 2))] [(.int c1), (.int (1 : Int32)), (.ref ar), (.ref ar), (.ref so), (.ref so)])) τ) => pre30 τ (by
      refine XS.dup X29.here hx rfl (hb hby d2_54) rfl rfl ?_
      show Steps p.tables e below (T29.setTop (mkF m 55 #[.val (.int c0), .val (.int c1), .val (.int c2), .val (.int c3), .val (.int (Int32.ofNat 2))] [(.ref ar), (.ref ar), (.ref so), (.ref so)])) _
      refine XS.iconst X29.here hx rfl (hb hby d2_55) ?_
      refine XS.iloadN X29.here hx rfl (hb hby d2_56) rfl ?_
      show Steps p.tables e below (T29.setTop (mkF m 57 #[.val (.int c0), .val (.int c1), .val (.int c2), .val (.int c3), .val (.int (Int32.ofNat 2))] [(.int c1), (.int (1 : Int32)), (.ref ar), (.ref ar), (.ref so), (.ref so)])) _
      exact κ)
    obtain ⟨cl32, Ar32, q32, S32, M32, H32, G32⟩ := id V_ar_29
    have in32 : ¬ ((1 : Int32) < 0 ∨ cl32.slots.size ≤ ((1 : Int32)).toNatClampNeg) := inb_of S32 ⟨by decide, by decide⟩
    obtain ⟨T33, h33, X33, e33, W33, st33⟩ := stC X29 hx hZ e29 Ar32 (j := (1 : Int32)) in32 (g := (mkF m 57 #[.val (.int c0), .val (.int c1), .val (.int c2), .val (.int c3), .val (.int (Int32.ofNat 2))] [(.int c1), (.int (1 : Int32)), (.ref ar), (.ref ar), (.ref so), (.ref so)])) rfl rfl (hb hby d2_57)
    have O0_33 : Old Z n0 h33 := O0_29.wr W33 g_ar
    have A22_33 : Exa Z h33 so "java/lang/String" := A22_29.wr W33
    have F_value_so_33 : Fld Z h33 so "java/lang/String" "value" "[B" .null := F_value_so_29.other W33 (Or.inl ne_so_ar)
    have F_coder_so_33 : Fld Z h33 so "java/lang/String" "coder" "B" (.int (0 : Int32)) := F_coder_so_29.other W33 (Or.inl ne_so_ar)
    have Kp33 : Keep h0 h33 [] := Kp29.wr W33 (Or.inr sz_ar)
    have N33 := Fr.snoc X33 N29 g_ar
    have Z33 : n0 ≤ h33.size := Nat.le_trans Z29 (Keep.of_wr W33).1
    have V_ar_33 : Arv Z h33 ar k25 .char (2 : Int32) [(.int (nar .char c0)), (.int (nar .char c1))] (.int (0 : Int32)) := Arv.set Ar32 q32 S32 M32 H32 G32 (fits_nar_char _) W33 1 rfl (Nat.le_of_ble_eq_true rfl)
    have pre34 := fun τ (κ : Steps p.tables e below (T33.setTop (mkF m 58 #[.val (.int c0), .val (.int c1), .val (.int c2), .val (.int c3), .val (.int (Int32.ofNat 2))] [(.ref ar), (.ref so), (.ref so)])) τ) => pre31 τ (st33 _ κ)
    have Vt : Arv Z h33 ar k25 .char (Int32.ofNat 2) (own_tab (own_f4 c0 c1 c2 c3) (2)) (.int (0 : Int32)) := by
      have q := V_ar_33
      rw [own_i2cn hc0, own_i2cn hc1] at q
      exact q
    obtain ⟨_, _, ⟨T35, L35, k35, n35⟩, -, X35, ⟨Lc35, hQ35, l35, y35, z35⟩, st35⟩ := X33.specialBack hx (y := (⟨"java/lang/String", "<init>", "([C)V"⟩ : MethodName)) rfl hown (mvT hZ (hw _ (List.mem_of_getElem? (i := 13) rfl))) (mvT hZ (hw _ (List.mem_of_getElem? (i := 14) rfl))) (mvT hZ (hw _ (List.mem_of_getElem? (i := 15) rfl))) (by decide) (backOf (W := 1) (rm3 l Z a0 hw [] so ar 2 k25 (own_f4 c0 c1 c2 c3) zc fm h33 n0 Z33 O0_33 U0 A22_33 F_value_so_33 F_coder_so_33 Vt (by decide) (by decide) (fun j _ => own_f4c hc0 hc1 hc2 hc3 j) ne_so_ar g_so) hZ (hw _ (List.mem_of_getElem? (i := 15) rfl)) (hw _ (List.mem_of_getElem? (i := 11) rfl)) (Nat.le_of_ble_eq_true rfl) (Nat.le_of_ble_eq_true rfl)) (g := (mkF m 58 #[.val (.int c0), .val (.int c1), .val (.int c2), .val (.int c3), .val (.int (Int32.ofNat 2))] [(.ref ar), (.ref so), (.ref so)])) rfl (by rw [hml]; rfl) (Steps.refl _) (a := so) (argsL := [(.ref ar)]) (rest := [(.ref so)]) (lenOf pd_9 rfl) rfl (by show 2 * 0 + _ ≤ _; exact Nat.le_of_eq rfl) (hb hby d2_58) (fun _ _ => ⟨rfl, e33, (by decide : 2 + 2 ≤ _), (by decide : 6 + 48 ≤ _)⟩)
    dsimp only [Pt.U, Pt.locs, Pt.cells, Pt.slots] at X35 l35 y35 z35 st35 hQ35
    subst l35 y35 z35
    obtain ⟨rfl, Nq35, K35, P35⟩ := hQ35
    have O0_35 : Old Z n0 T35.heap := O0_33.keep K35 (allS g_so all0)
    have A22_35 : Exa Z T35.heap so "java/lang/String" := A22_33.keep K35
    have V_ar_35 : Arv Z T35.heap ar k25 .char (2 : Int32) [(.int (nar .char c0)), (.int (nar .char c1))] (.int (0 : Int32)) := V_ar_33.keep K35 (ninS (Ne.symm ne_so_ar) nin0)
    have Z35 : n0 ≤ T35.heap.size := Nat.le_trans Z33 K35.1
    have Kp35 : Keep h0 T35.heap [] := Kp33.trans K35 (allS (Or.inr sz_so) all0)
    have N35 := Fr.app N33 Nq35
    have pre36 := fun τ (κ : Steps p.tables e below (T35.setTop (mkF m 61 #[.val (.int c0), .val (.int c1), .val (.int c2), .val (.int c3), .val (.int (Int32.ofNat 2))] [(.ref so)])) τ) => pre34 τ (st35.trans κ)
    obtain ⟨fs, hr, hrun, hended, hEnd⟩ := Stand.leaveW (s := s) (vm₁ := s.vm) X35 hS0 (Nat.zero_le _) (v := some (.ref so)) (fun h => by rw [Bd.returns] at h; cases h)
    refine ⟨_, _, pre36 _ ?_, hrun, hended, _, _, rfl, ?_, ?_, ⟨hEnd.1, hEnd.2.1, hEnd.2.2.1, hEnd.2.2.2.mono (by decide) (by decide)⟩⟩
    · jvm_step X35.here [X35.here.top, hx, (hb hby d2_61), X35.method', Bd.returns, Value.isRef, FieldType.isReference]
      first | (intro acts; rw [hr _ acts rfl rfl rfl]) | rw [hr _ _ rfl rfl rfl]
      exact Steps.refl _
    · show Q2 Z c0 c1 c2 c3 2 zc fm h0 n0 _ T35.heap _
      exact ⟨so, rfl, N35, Kp35, P35⟩
    · show CHr Z consts_1 s.vm s.heap T35.vm T35.heap
      rw [hh]
      exact ((CHr.keep Kp35 sf0 hC0).trans (CHv.at (s := s) (vm0 := s.vm) X35 hZ hEL (CHv.keep Kp35 sf0 hC0)))
  · have pre37 := fun τ (κ : Steps p.tables e below (s₁.setTop (mkF m 68 #[.val (.int c0), .val (.int c1), .val (.int c2), .val (.int c3), .val (.int (Int32.ofNat 3))] [])) τ) => pre0 τ (by
      refine XS.iload X0.here hx rfl (hb hby d2_0) rfl ?_
      refine XS.ifYes X0.here hx rfl (pc0 := 2) (pc' := 16) rfl (hb hby d2_2) rfl ((if0 _ _).trans (tlt (by decide)).2.2.1) (by decide) (by decide) ?_
      show Steps p.tables e below (s₁.setTop (mkF m 16 #[.val (.int c0), .val (.int c1), .val (.int c2), .val (.int c3), .val (.int (Int32.ofNat 3))] [])) _
      refine XS.iload X0.here hx rfl (hb hby d2_16) rfl ?_
      refine XS.iconst X0.here hx rfl (hb hby d2_18) ?_
      refine XS.icmpYes X0.here hx rfl (pc0 := 19) (pc' := 37) rfl (hb hby d2_19) rfl (feq (by decide)).2 (by decide) (by decide) ?_
      show Steps p.tables e below (s₁.setTop (mkF m 37 #[.val (.int c0), .val (.int c1), .val (.int c2), .val (.int c3), .val (.int (Int32.ofNat 3))] [])) _
      refine XS.iload X0.here hx rfl (hb hby d2_37) rfl ?_
      refine XS.iconst X0.here hx rfl (hb hby d2_39) ?_
      refine XS.icmpYes X0.here hx rfl (pc0 := 40) (pc' := 62) rfl (hb hby d2_40) rfl (feq (by decide)).2 (by decide) (by decide) ?_
      show Steps p.tables e below (s₁.setTop (mkF m 62 #[.val (.int c0), .val (.int c1), .val (.int c2), .val (.int c3), .val (.int (Int32.ofNat 3))] [])) _
      refine XS.iload X0.here hx rfl (hb hby d2_62) rfl ?_
      refine XS.iconst X0.here hx rfl (hb hby d2_64) ?_
      refine XS.icmpNo X0.here hx rfl (hb hby d2_65) rfl (teq (by decide)).2 ?_
      show Steps p.tables e below (s₁.setTop (mkF m 68 #[.val (.int c0), .val (.int c1), .val (.int c2), .val (.int c3), .val (.int (Int32.ofNat 3))] [])) _
      exact κ)
    obtain ⟨T38, h38, X38, e38, E38, A38, D38, -, st38⟩ := newO X0 hx hZ hown (hw _ (List.mem_of_getElem? (i := 9) rfl)) (hw _ (List.mem_of_getElem? (i := 10) rfl)) (hw _ (List.mem_of_getElem? (i := 11) rfl)) e0 (g := (mkF m 68 #[.val (.int c0), .val (.int c1), .val (.int c2), .val (.int c3), .val (.int (Int32.ofNat 3))] [])) rfl (hb hby d2_68) (by decide) (by decide)
    obtain ⟨so, g38⟩ : ∃ z, z = h0.size := ⟨_, rfl⟩
    rw [← g38] at A38 D38 st38
    have g_so : n0 ≤ so := Nat.le_trans Z0 (Nat.le_of_eq g38.symm)
    have O0_38 : Old Z n0 h38 := O0.ext E38
    have sz_so : h0.size ≤ so := Nat.le_trans Kp0.1 (Nat.le_of_eq g38.symm)
    have Kp38 : Keep h0 h38 [] := Kp0.ext E38
    have Z38 : n0 ≤ h38.size := Nat.le_trans Z0 E38.1
    have F_value_so_38 : Fld Z h38 so "java/lang/String" "value" "[B" .null := D38 (Or.inr (hw _ (List.mem_of_getElem? (i := 25) rfl))) (ty := (.array .byte)) (by decide)
    have F_coder_so_38 : Fld Z h38 so "java/lang/String" "coder" "B" (.int (0 : Int32)) := D38 (Or.inr (hw _ (List.mem_of_getElem? (i := 26) rfl))) (ty := .byte) (by decide)
    have pre39 := fun τ (κ : Steps p.tables e below (T38.setTop (mkF m 71 #[.val (.int c0), .val (.int c1), .val (.int c2), .val (.int c3), .val (.int (Int32.ofNat 3))] [(.ref so)])) τ) => pre37 τ (st38 _ κ)
    have pre40 := fun τ (κ : Steps p.tables e below (T38.setTop (mkF m 73 #[.val (.int c0), .val (.int c1), .val (.int c2), .val (.int c3), .val (.int (Int32.ofNat 3))] [(.int (3 : Int32)), (.ref so), (.ref so)])) τ) => pre39 τ (by
      refine XS.dup X38.here hx rfl (hb hby d2_71) rfl rfl ?_
      show Steps p.tables e below (T38.setTop (mkF m 72 #[.val (.int c0), .val (.int c1), .val (.int c2), .val (.int c3), .val (.int (Int32.ofNat 3))] [(.ref so), (.ref so)])) _
      refine XS.iconst X38.here hx rfl (hb hby d2_72) ?_
      show Steps p.tables e below (T38.setTop (mkF m 73 #[.val (.int c0), .val (.int c1), .val (.int c2), .val (.int c3), .val (.int (Int32.ofNat 3))] [(.int (3 : Int32)), (.ref so), (.ref so)])) _
      exact κ)
    obtain ⟨T41, h41, k41, X41, e41, E41, A41, st41⟩ := newP X38 hx hZ (hw _ (List.mem_of_getElem? (i := 12) rfl)) e38 (g := (mkF m 73 #[.val (.int c0), .val (.int c1), .val (.int c2), .val (.int c3), .val (.int (Int32.ofNat 3))] [(.int (3 : Int32)), (.ref so), (.ref so)])) rfl (hb hby d2_73) rfl (by decide) (cap := 3) (by decide) (by decide) (by decide) (by decide)
    obtain ⟨ar, g41⟩ : ∃ z, z = h38.size := ⟨_, rfl⟩
    rw [← g41] at A41 st41
    have g_ar : n0 ≤ ar := Nat.le_trans Z38 (Nat.le_of_eq g41.symm)
    have ne_so_ar : so ≠ ar := Nat.ne_of_lt (Nat.lt_of_lt_of_le A38.lt (Nat.le_of_eq g41.symm))
    have O0_41 : Old Z n0 h41 := O0_38.ext E41
    have A38_41 : Exa Z h41 so "java/lang/String" := A38.ext E41
    have F_value_so_41 : Fld Z h41 so "java/lang/String" "value" "[B" .null := F_value_so_38.ext E41
    have F_coder_so_41 : Fld Z h41 so "java/lang/String" "coder" "B" (.int (0 : Int32)) := F_coder_so_38.ext E41
    have sz_ar : h0.size ≤ ar := Nat.le_trans Kp38.1 (Nat.le_of_eq g41.symm)
    have Kp41 : Keep h0 h41 [] := Kp38.ext E41
    have Z41 : n0 ≤ h41.size := Nat.le_trans Z38 E41.1
    have V_ar_41 : Arv Z h41 ar k41 .char (3 : Int32) [(.int (0 : Int32)), (.int (0 : Int32)), (.int (0 : Int32))] (.int (0 : Int32)) := (Arv.new A41 (by decide)).pad (pad_rep [] (.int (0 : Int32)) 3)
    have pre42 := fun τ (κ : Steps p.tables e below (T41.setTop (mkF m 75 #[.val (.int c0), .val (.int c1), .val (.int c2), .val (.int c3), .val (.int (Int32.ofNat 3))] [(.ref ar), (.ref so), (.ref so)])) τ) => pre40 τ (st41 _ κ)
    have pre43 := fun τ (κ : Steps p.tables e below (T41.setTop (mkF m 78 #[.val (.int c0), .val (.int c1), .val (.int c2), .val (.int c3), .val (.int (Int32.ofNat 3))] [(.int c0), (.int (0 : Int32)), (.ref ar), (.ref ar), (.ref so), (.ref so)])) τ) => pre42 τ (by
      refine XS.dup X41.here hx rfl (hb hby d2_75) rfl rfl ?_
      show Steps p.tables e below (T41.setTop (mkF m 76 #[.val (.int c0), .val (.int c1), .val (.int c2), .val (.int c3), .val (.int (Int32.ofNat 3))] [(.ref ar), (.ref ar), (.ref so), (.ref so)])) _
      refine XS.iconst X41.here hx rfl (hb hby d2_76) ?_
      refine XS.iloadN X41.here hx rfl (hb hby d2_77) rfl ?_
      show Steps p.tables e below (T41.setTop (mkF m 78 #[.val (.int c0), .val (.int c1), .val (.int c2), .val (.int c3), .val (.int (Int32.ofNat 3))] [(.int c0), (.int (0 : Int32)), (.ref ar), (.ref ar), (.ref so), (.ref so)])) _
      exact κ)
    obtain ⟨cl44, Ar44, q44, S44, M44, H44, G44⟩ := id V_ar_41
    have in44 : ¬ ((0 : Int32) < 0 ∨ cl44.slots.size ≤ ((0 : Int32)).toNatClampNeg) := inb_of S44 ⟨by decide, by decide⟩
    obtain ⟨T45, h45, X45, e45, W45, st45⟩ := stC X41 hx hZ e41 Ar44 (j := (0 : Int32)) in44 (g := (mkF m 78 #[.val (.int c0), .val (.int c1), .val (.int c2), .val (.int c3), .val (.int (Int32.ofNat 3))] [(.int c0), (.int (0 : Int32)), (.ref ar), (.ref ar), (.ref so), (.ref so)])) rfl rfl (hb hby d2_78)
    have O0_45 : Old Z n0 h45 := O0_41.wr W45 g_ar
    have A38_45 : Exa Z h45 so "java/lang/String" := A38_41.wr W45
    have F_value_so_45 : Fld Z h45 so "java/lang/String" "value" "[B" .null := F_value_so_41.other W45 (Or.inl ne_so_ar)
    have F_coder_so_45 : Fld Z h45 so "java/lang/String" "coder" "B" (.int (0 : Int32)) := F_coder_so_41.other W45 (Or.inl ne_so_ar)
    have Kp45 : Keep h0 h45 [] := Kp41.wr W45 (Or.inr sz_ar)
    have N45 := Fr.snoc X45 N0 g_ar
    have Z45 : n0 ≤ h45.size := Nat.le_trans Z41 (Keep.of_wr W45).1
    have V_ar_45 : Arv Z h45 ar k41 .char (3 : Int32) [(.int (nar .char c0)), (.int (0 : Int32)), (.int (0 : Int32))] (.int (0 : Int32)) := Arv.set Ar44 q44 S44 M44 H44 G44 (fits_nar_char _) W45 0 rfl (Nat.le_of_ble_eq_true rfl)
    have pre46 := fun τ (κ : Steps p.tables e below (T45.setTop (mkF m 79 #[.val (.int c0), .val (.int c1), .val (.int c2), .val (.int c3), .val (.int (Int32.ofNat 3))] [(.ref ar), (.ref so), (.ref so)])) τ) => pre43 τ (st45 _ κ)
    have pre47 := fun τ (κ : Steps p.tables e below (T45.setTop (mkF m 82 #[.val (.int c0), .val (.int c1), .val (.int c2), .val (.int c3), .val (.int (Int32.ofNat 3))] [(.int c1), (.int (1 : Int32)), (.ref ar), (.ref ar), (.ref so), (.ref so)])) τ) => pre46 τ (by
      refine XS.dup X45.here hx rfl (hb hby d2_79) rfl rfl ?_
      show Steps p.tables e below (T45.setTop (mkF m 80 #[.val (.int c0), .val (.int c1), .val (.int c2), .val (.int c3), .val (.int (Int32.ofNat 3))] [(.ref ar), (.ref ar), (.ref so), (.ref so)])) _
      refine XS.iconst X45.here hx rfl (hb hby d2_80) ?_
      refine XS.iloadN X45.here hx rfl (hb hby d2_81) rfl ?_
      show Steps p.tables e below (T45.setTop (mkF m 82 #[.val (.int c0), .val (.int c1), .val (.int c2), .val (.int c3), .val (.int (Int32.ofNat 3))] [(.int c1), (.int (1 : Int32)), (.ref ar), (.ref ar), (.ref so), (.ref so)])) _
      exact κ)
    obtain ⟨cl48, Ar48, q48, S48, M48, H48, G48⟩ := id V_ar_45
    have in48 : ¬ ((1 : Int32) < 0 ∨ cl48.slots.size ≤ ((1 : Int32)).toNatClampNeg) := inb_of S48 ⟨by decide, by decide⟩
    obtain ⟨T49, h49, X49, e49, W49, st49⟩ := stC X45 hx hZ e45 Ar48 (j := (1 : Int32)) in48 (g := (mkF m 82 #[.val (.int c0), .val (.int c1), .val (.int c2), .val (.int c3), .val (.int (Int32.ofNat 3))] [(.int c1), (.int (1 : Int32)), (.ref ar), (.ref ar), (.ref so), (.ref so)])) rfl rfl (hb hby d2_82)
    have O0_49 : Old Z n0 h49 := O0_45.wr W49 g_ar
    have A38_49 : Exa Z h49 so "java/lang/String" := A38_45.wr W49
    have F_value_so_49 : Fld Z h49 so "java/lang/String" "value" "[B" .null := F_value_so_45.other W49 (Or.inl ne_so_ar)
    have F_coder_so_49 : Fld Z h49 so "java/lang/String" "coder" "B" (.int (0 : Int32)) := F_coder_so_45.other W49 (Or.inl ne_so_ar)
    have Kp49 : Keep h0 h49 [] := Kp45.wr W49 (Or.inr sz_ar)
    have N49 := Fr.snoc X49 N45 g_ar
    have Z49 : n0 ≤ h49.size := Nat.le_trans Z45 (Keep.of_wr W49).1
    have V_ar_49 : Arv Z h49 ar k41 .char (3 : Int32) [(.int (nar .char c0)), (.int (nar .char c1)), (.int (0 : Int32))] (.int (0 : Int32)) := Arv.set Ar48 q48 S48 M48 H48 G48 (fits_nar_char _) W49 1 rfl (Nat.le_of_ble_eq_true rfl)
    have pre50 := fun τ (κ : Steps p.tables e below (T49.setTop (mkF m 83 #[.val (.int c0), .val (.int c1), .val (.int c2), .val (.int c3), .val (.int (Int32.ofNat 3))] [(.ref ar), (.ref so), (.ref so)])) τ) => pre47 τ (st49 _ κ)
    have pre51 := fun τ (κ : Steps p.tables e below (T49.setTop (mkF m 86 #[.val (.int c0), .val (.int c1), .val (.int c2), .val (.int c3), .val (.int (Int32.ofNat 3))] [(.int c2), (.int (2 : Int32)), (.ref ar), (.ref ar), (.ref so), (.ref so)])) τ) => pre50 τ (by
      refine XS.dup X49.here hx rfl (hb hby d2_83) rfl rfl ?_
      show Steps p.tables e below (T49.setTop (mkF m 84 #[.val (.int c0), .val (.int c1), .val (.int c2), .val (.int c3), .val (.int (Int32.ofNat 3))] [(.ref ar), (.ref ar), (.ref so), (.ref so)])) _
      refine XS.iconst X49.here hx rfl (hb hby d2_84) ?_
      refine XS.iloadN X49.here hx rfl (hb hby d2_85) rfl ?_
      show Steps p.tables e below (T49.setTop (mkF m 86 #[.val (.int c0), .val (.int c1), .val (.int c2), .val (.int c3), .val (.int (Int32.ofNat 3))] [(.int c2), (.int (2 : Int32)), (.ref ar), (.ref ar), (.ref so), (.ref so)])) _
      exact κ)
    obtain ⟨cl52, Ar52, q52, S52, M52, H52, G52⟩ := id V_ar_49
    have in52 : ¬ ((2 : Int32) < 0 ∨ cl52.slots.size ≤ ((2 : Int32)).toNatClampNeg) := inb_of S52 ⟨by decide, by decide⟩
    obtain ⟨T53, h53, X53, e53, W53, st53⟩ := stC X49 hx hZ e49 Ar52 (j := (2 : Int32)) in52 (g := (mkF m 86 #[.val (.int c0), .val (.int c1), .val (.int c2), .val (.int c3), .val (.int (Int32.ofNat 3))] [(.int c2), (.int (2 : Int32)), (.ref ar), (.ref ar), (.ref so), (.ref so)])) rfl rfl (hb hby d2_86)
    have O0_53 : Old Z n0 h53 := O0_49.wr W53 g_ar
    have A38_53 : Exa Z h53 so "java/lang/String" := A38_49.wr W53
    have F_value_so_53 : Fld Z h53 so "java/lang/String" "value" "[B" .null := F_value_so_49.other W53 (Or.inl ne_so_ar)
    have F_coder_so_53 : Fld Z h53 so "java/lang/String" "coder" "B" (.int (0 : Int32)) := F_coder_so_49.other W53 (Or.inl ne_so_ar)
    have Kp53 : Keep h0 h53 [] := Kp49.wr W53 (Or.inr sz_ar)
    have N53 := Fr.snoc X53 N49 g_ar
    have Z53 : n0 ≤ h53.size := Nat.le_trans Z49 (Keep.of_wr W53).1
    have V_ar_53 : Arv Z h53 ar k41 .char (3 : Int32) [(.int (nar .char c0)), (.int (nar .char c1)), (.int (nar .char c2))] (.int (0 : Int32)) := Arv.set Ar52 q52 S52 M52 H52 G52 (fits_nar_char _) W53 2 rfl (Nat.le_of_ble_eq_true rfl)
    have pre54 := fun τ (κ : Steps p.tables e below (T53.setTop (mkF m 87 #[.val (.int c0), .val (.int c1), .val (.int c2), .val (.int c3), .val (.int (Int32.ofNat 3))] [(.ref ar), (.ref so), (.ref so)])) τ) => pre51 τ (st53 _ κ)
    have Vt : Arv Z h53 ar k41 .char (Int32.ofNat 3) (own_tab (own_f4 c0 c1 c2 c3) (3)) (.int (0 : Int32)) := by
      have q := V_ar_53
      rw [own_i2cn hc0, own_i2cn hc1, own_i2cn hc2] at q
      exact q
    obtain ⟨_, _, ⟨T55, L55, k55, n55⟩, -, X55, ⟨Lc55, hQ55, l55, y55, z55⟩, st55⟩ := X53.specialBack hx (y := (⟨"java/lang/String", "<init>", "([C)V"⟩ : MethodName)) rfl hown (mvT hZ (hw _ (List.mem_of_getElem? (i := 13) rfl))) (mvT hZ (hw _ (List.mem_of_getElem? (i := 14) rfl))) (mvT hZ (hw _ (List.mem_of_getElem? (i := 15) rfl))) (by decide) (backOf (W := 1) (rm3 l Z a0 hw [] so ar 3 k41 (own_f4 c0 c1 c2 c3) zc fm h53 n0 Z53 O0_53 U0 A38_53 F_value_so_53 F_coder_so_53 Vt (by decide) (by decide) (fun j _ => own_f4c hc0 hc1 hc2 hc3 j) ne_so_ar g_so) hZ (hw _ (List.mem_of_getElem? (i := 15) rfl)) (hw _ (List.mem_of_getElem? (i := 11) rfl)) (Nat.le_of_ble_eq_true rfl) (Nat.le_of_ble_eq_true rfl)) (g := (mkF m 87 #[.val (.int c0), .val (.int c1), .val (.int c2), .val (.int c3), .val (.int (Int32.ofNat 3))] [(.ref ar), (.ref so), (.ref so)])) rfl (by rw [hml]; rfl) (Steps.refl _) (a := so) (argsL := [(.ref ar)]) (rest := [(.ref so)]) (lenOf pd_9 rfl) rfl (by show 2 * 0 + _ ≤ _; exact Nat.le_of_eq rfl) (hb hby d2_87) (fun _ _ => ⟨rfl, e53, (by decide : 2 + 2 ≤ _), (by decide : 7 + 48 ≤ _)⟩)
    dsimp only [Pt.U, Pt.locs, Pt.cells, Pt.slots] at X55 l55 y55 z55 st55 hQ55
    subst l55 y55 z55
    obtain ⟨rfl, Nq55, K55, P55⟩ := hQ55
    have O0_55 : Old Z n0 T55.heap := O0_53.keep K55 (allS g_so all0)
    have A38_55 : Exa Z T55.heap so "java/lang/String" := A38_53.keep K55
    have V_ar_55 : Arv Z T55.heap ar k41 .char (3 : Int32) [(.int (nar .char c0)), (.int (nar .char c1)), (.int (nar .char c2))] (.int (0 : Int32)) := V_ar_53.keep K55 (ninS (Ne.symm ne_so_ar) nin0)
    have Z55 : n0 ≤ T55.heap.size := Nat.le_trans Z53 K55.1
    have Kp55 : Keep h0 T55.heap [] := Kp53.trans K55 (allS (Or.inr sz_so) all0)
    have N55 := Fr.app N53 Nq55
    have pre56 := fun τ (κ : Steps p.tables e below (T55.setTop (mkF m 90 #[.val (.int c0), .val (.int c1), .val (.int c2), .val (.int c3), .val (.int (Int32.ofNat 3))] [(.ref so)])) τ) => pre54 τ (st55.trans κ)
    obtain ⟨fs, hr, hrun, hended, hEnd⟩ := Stand.leaveW (s := s) (vm₁ := s.vm) X55 hS0 (Nat.zero_le _) (v := some (.ref so)) (fun h => by rw [Bd.returns] at h; cases h)
    refine ⟨_, _, pre56 _ ?_, hrun, hended, _, _, rfl, ?_, ?_, ⟨hEnd.1, hEnd.2.1, hEnd.2.2.1, hEnd.2.2.2.mono (by decide) (by decide)⟩⟩
    · jvm_step X55.here [X55.here.top, hx, (hb hby d2_90), X55.method', Bd.returns, Value.isRef, FieldType.isReference]
      first | (intro acts; rw [hr _ acts rfl rfl rfl]) | rw [hr _ _ rfl rfl rfl]
      exact Steps.refl _
    · show Q2 Z c0 c1 c2 c3 3 zc fm h0 n0 _ T55.heap _
      exact ⟨so, rfl, N55, Kp55, P55⟩
    · show CHr Z consts_1 s.vm s.heap T55.vm T55.heap
      rw [hh]
      exact ((CHr.keep Kp55 sf0 hC0).trans (CHv.at (s := s) (vm0 := s.vm) X55 hZ hEL (CHv.keep Kp55 sf0 hC0)))
  · have pre57 := fun τ (κ : Steps p.tables e below (s₁.setTop (mkF m 91 #[.val (.int c0), .val (.int c1), .val (.int c2), .val (.int c3), .val (.int (Int32.ofNat 4))] [])) τ) => pre0 τ (by
      refine XS.iload X0.here hx rfl (hb hby d2_0) rfl ?_
      refine XS.ifYes X0.here hx rfl (pc0 := 2) (pc' := 16) rfl (hb hby d2_2) rfl ((if0 _ _).trans (tlt (by decide)).2.2.1) (by decide) (by decide) ?_
      show Steps p.tables e below (s₁.setTop (mkF m 16 #[.val (.int c0), .val (.int c1), .val (.int c2), .val (.int c3), .val (.int (Int32.ofNat 4))] [])) _
      refine XS.iload X0.here hx rfl (hb hby d2_16) rfl ?_
      refine XS.iconst X0.here hx rfl (hb hby d2_18) ?_
      refine XS.icmpYes X0.here hx rfl (pc0 := 19) (pc' := 37) rfl (hb hby d2_19) rfl (feq (by decide)).2 (by decide) (by decide) ?_
      show Steps p.tables e below (s₁.setTop (mkF m 37 #[.val (.int c0), .val (.int c1), .val (.int c2), .val (.int c3), .val (.int (Int32.ofNat 4))] [])) _
      refine XS.iload X0.here hx rfl (hb hby d2_37) rfl ?_
      refine XS.iconst X0.here hx rfl (hb hby d2_39) ?_
      refine XS.icmpYes X0.here hx rfl (pc0 := 40) (pc' := 62) rfl (hb hby d2_40) rfl (feq (by decide)).2 (by decide) (by decide) ?_
      show Steps p.tables e below (s₁.setTop (mkF m 62 #[.val (.int c0), .val (.int c1), .val (.int c2), .val (.int c3), .val (.int (Int32.ofNat 4))] [])) _
      refine XS.iload X0.here hx rfl (hb hby d2_62) rfl ?_
      refine XS.iconst X0.here hx rfl (hb hby d2_64) ?_
      refine XS.icmpYes X0.here hx rfl (pc0 := 65) (pc' := 91) rfl (hb hby d2_65) rfl (feq (by decide)).2 (by decide) (by decide) ?_
      show Steps p.tables e below (s₁.setTop (mkF m 91 #[.val (.int c0), .val (.int c1), .val (.int c2), .val (.int c3), .val (.int (Int32.ofNat 4))] [])) _
      exact κ)
    obtain ⟨T58, h58, X58, e58, E58, A58, D58, -, st58⟩ := newO X0 hx hZ hown (hw _ (List.mem_of_getElem? (i := 9) rfl)) (hw _ (List.mem_of_getElem? (i := 10) rfl)) (hw _ (List.mem_of_getElem? (i := 11) rfl)) e0 (g := (mkF m 91 #[.val (.int c0), .val (.int c1), .val (.int c2), .val (.int c3), .val (.int (Int32.ofNat 4))] [])) rfl (hb hby d2_91) (by decide) (by decide)
    obtain ⟨so, g58⟩ : ∃ z, z = h0.size := ⟨_, rfl⟩
    rw [← g58] at A58 D58 st58
    have g_so : n0 ≤ so := Nat.le_trans Z0 (Nat.le_of_eq g58.symm)
    have O0_58 : Old Z n0 h58 := O0.ext E58
    have sz_so : h0.size ≤ so := Nat.le_trans Kp0.1 (Nat.le_of_eq g58.symm)
    have Kp58 : Keep h0 h58 [] := Kp0.ext E58
    have Z58 : n0 ≤ h58.size := Nat.le_trans Z0 E58.1
    have F_value_so_58 : Fld Z h58 so "java/lang/String" "value" "[B" .null := D58 (Or.inr (hw _ (List.mem_of_getElem? (i := 25) rfl))) (ty := (.array .byte)) (by decide)
    have F_coder_so_58 : Fld Z h58 so "java/lang/String" "coder" "B" (.int (0 : Int32)) := D58 (Or.inr (hw _ (List.mem_of_getElem? (i := 26) rfl))) (ty := .byte) (by decide)
    have pre59 := fun τ (κ : Steps p.tables e below (T58.setTop (mkF m 94 #[.val (.int c0), .val (.int c1), .val (.int c2), .val (.int c3), .val (.int (Int32.ofNat 4))] [(.ref so)])) τ) => pre57 τ (st58 _ κ)
    have pre60 := fun τ (κ : Steps p.tables e below (T58.setTop (mkF m 96 #[.val (.int c0), .val (.int c1), .val (.int c2), .val (.int c3), .val (.int (Int32.ofNat 4))] [(.int (4 : Int32)), (.ref so), (.ref so)])) τ) => pre59 τ (by
      refine XS.dup X58.here hx rfl (hb hby d2_94) rfl rfl ?_
      show Steps p.tables e below (T58.setTop (mkF m 95 #[.val (.int c0), .val (.int c1), .val (.int c2), .val (.int c3), .val (.int (Int32.ofNat 4))] [(.ref so), (.ref so)])) _
      refine XS.iconst X58.here hx rfl (hb hby d2_95) ?_
      show Steps p.tables e below (T58.setTop (mkF m 96 #[.val (.int c0), .val (.int c1), .val (.int c2), .val (.int c3), .val (.int (Int32.ofNat 4))] [(.int (4 : Int32)), (.ref so), (.ref so)])) _
      exact κ)
    obtain ⟨T61, h61, k61, X61, e61, E61, A61, st61⟩ := newP X58 hx hZ (hw _ (List.mem_of_getElem? (i := 12) rfl)) e58 (g := (mkF m 96 #[.val (.int c0), .val (.int c1), .val (.int c2), .val (.int c3), .val (.int (Int32.ofNat 4))] [(.int (4 : Int32)), (.ref so), (.ref so)])) rfl (hb hby d2_96) rfl (by decide) (cap := 4) (by decide) (by decide) (by decide) (by decide)
    obtain ⟨ar, g61⟩ : ∃ z, z = h58.size := ⟨_, rfl⟩
    rw [← g61] at A61 st61
    have g_ar : n0 ≤ ar := Nat.le_trans Z58 (Nat.le_of_eq g61.symm)
    have ne_so_ar : so ≠ ar := Nat.ne_of_lt (Nat.lt_of_lt_of_le A58.lt (Nat.le_of_eq g61.symm))
    have O0_61 : Old Z n0 h61 := O0_58.ext E61
    have A58_61 : Exa Z h61 so "java/lang/String" := A58.ext E61
    have F_value_so_61 : Fld Z h61 so "java/lang/String" "value" "[B" .null := F_value_so_58.ext E61
    have F_coder_so_61 : Fld Z h61 so "java/lang/String" "coder" "B" (.int (0 : Int32)) := F_coder_so_58.ext E61
    have sz_ar : h0.size ≤ ar := Nat.le_trans Kp58.1 (Nat.le_of_eq g61.symm)
    have Kp61 : Keep h0 h61 [] := Kp58.ext E61
    have Z61 : n0 ≤ h61.size := Nat.le_trans Z58 E61.1
    have V_ar_61 : Arv Z h61 ar k61 .char (4 : Int32) [(.int (0 : Int32)), (.int (0 : Int32)), (.int (0 : Int32)), (.int (0 : Int32))] (.int (0 : Int32)) := (Arv.new A61 (by decide)).pad (pad_rep [] (.int (0 : Int32)) 4)
    have pre62 := fun τ (κ : Steps p.tables e below (T61.setTop (mkF m 98 #[.val (.int c0), .val (.int c1), .val (.int c2), .val (.int c3), .val (.int (Int32.ofNat 4))] [(.ref ar), (.ref so), (.ref so)])) τ) => pre60 τ (st61 _ κ)
    have pre63 := fun τ (κ : Steps p.tables e below (T61.setTop (mkF m 101 #[.val (.int c0), .val (.int c1), .val (.int c2), .val (.int c3), .val (.int (Int32.ofNat 4))] [(.int c0), (.int (0 : Int32)), (.ref ar), (.ref ar), (.ref so), (.ref so)])) τ) => pre62 τ (by
      refine XS.dup X61.here hx rfl (hb hby d2_98) rfl rfl ?_
      show Steps p.tables e below (T61.setTop (mkF m 99 #[.val (.int c0), .val (.int c1), .val (.int c2), .val (.int c3), .val (.int (Int32.ofNat 4))] [(.ref ar), (.ref ar), (.ref so), (.ref so)])) _
      refine XS.iconst X61.here hx rfl (hb hby d2_99) ?_
      refine XS.iloadN X61.here hx rfl (hb hby d2_100) rfl ?_
      show Steps p.tables e below (T61.setTop (mkF m 101 #[.val (.int c0), .val (.int c1), .val (.int c2), .val (.int c3), .val (.int (Int32.ofNat 4))] [(.int c0), (.int (0 : Int32)), (.ref ar), (.ref ar), (.ref so), (.ref so)])) _
      exact κ)
    obtain ⟨cl64, Ar64, q64, S64, M64, H64, G64⟩ := id V_ar_61
    have in64 : ¬ ((0 : Int32) < 0 ∨ cl64.slots.size ≤ ((0 : Int32)).toNatClampNeg) := inb_of S64 ⟨by decide, by decide⟩
    obtain ⟨T65, h65, X65, e65, W65, st65⟩ := stC X61 hx hZ e61 Ar64 (j := (0 : Int32)) in64 (g := (mkF m 101 #[.val (.int c0), .val (.int c1), .val (.int c2), .val (.int c3), .val (.int (Int32.ofNat 4))] [(.int c0), (.int (0 : Int32)), (.ref ar), (.ref ar), (.ref so), (.ref so)])) rfl rfl (hb hby d2_101)
    have O0_65 : Old Z n0 h65 := O0_61.wr W65 g_ar
    have A58_65 : Exa Z h65 so "java/lang/String" := A58_61.wr W65
    have F_value_so_65 : Fld Z h65 so "java/lang/String" "value" "[B" .null := F_value_so_61.other W65 (Or.inl ne_so_ar)
    have F_coder_so_65 : Fld Z h65 so "java/lang/String" "coder" "B" (.int (0 : Int32)) := F_coder_so_61.other W65 (Or.inl ne_so_ar)
    have Kp65 : Keep h0 h65 [] := Kp61.wr W65 (Or.inr sz_ar)
    have N65 := Fr.snoc X65 N0 g_ar
    have Z65 : n0 ≤ h65.size := Nat.le_trans Z61 (Keep.of_wr W65).1
    have V_ar_65 : Arv Z h65 ar k61 .char (4 : Int32) [(.int (nar .char c0)), (.int (0 : Int32)), (.int (0 : Int32)), (.int (0 : Int32))] (.int (0 : Int32)) := Arv.set Ar64 q64 S64 M64 H64 G64 (fits_nar_char _) W65 0 rfl (Nat.le_of_ble_eq_true rfl)
    have pre66 := fun τ (κ : Steps p.tables e below (T65.setTop (mkF m 102 #[.val (.int c0), .val (.int c1), .val (.int c2), .val (.int c3), .val (.int (Int32.ofNat 4))] [(.ref ar), (.ref so), (.ref so)])) τ) => pre63 τ (st65 _ κ)
    have pre67 := fun τ (κ : Steps p.tables e below (T65.setTop (mkF m 105 #[.val (.int c0), .val (.int c1), .val (.int c2), .val (.int c3), .val (.int (Int32.ofNat 4))] [(.int c1), (.int (1 : Int32)), (.ref ar), (.ref ar), (.ref so), (.ref so)])) τ) => pre66 τ (by
      refine XS.dup X65.here hx rfl (hb hby d2_102) rfl rfl ?_
      show Steps p.tables e below (T65.setTop (mkF m 103 #[.val (.int c0), .val (.int c1), .val (.int c2), .val (.int c3), .val (.int (Int32.ofNat 4))] [(.ref ar), (.ref ar), (.ref so), (.ref so)])) _
      refine XS.iconst X65.here hx rfl (hb hby d2_103) ?_
      refine XS.iloadN X65.here hx rfl (hb hby d2_104) rfl ?_
      show Steps p.tables e below (T65.setTop (mkF m 105 #[.val (.int c0), .val (.int c1), .val (.int c2), .val (.int c3), .val (.int (Int32.ofNat 4))] [(.int c1), (.int (1 : Int32)), (.ref ar), (.ref ar), (.ref so), (.ref so)])) _
      exact κ)
    obtain ⟨cl68, Ar68, q68, S68, M68, H68, G68⟩ := id V_ar_65
    have in68 : ¬ ((1 : Int32) < 0 ∨ cl68.slots.size ≤ ((1 : Int32)).toNatClampNeg) := inb_of S68 ⟨by decide, by decide⟩
    obtain ⟨T69, h69, X69, e69, W69, st69⟩ := stC X65 hx hZ e65 Ar68 (j := (1 : Int32)) in68 (g := (mkF m 105 #[.val (.int c0), .val (.int c1), .val (.int c2), .val (.int c3), .val (.int (Int32.ofNat 4))] [(.int c1), (.int (1 : Int32)), (.ref ar), (.ref ar), (.ref so), (.ref so)])) rfl rfl (hb hby d2_105)
    have O0_69 : Old Z n0 h69 := O0_65.wr W69 g_ar
    have A58_69 : Exa Z h69 so "java/lang/String" := A58_65.wr W69
    have F_value_so_69 : Fld Z h69 so "java/lang/String" "value" "[B" .null := F_value_so_65.other W69 (Or.inl ne_so_ar)
    have F_coder_so_69 : Fld Z h69 so "java/lang/String" "coder" "B" (.int (0 : Int32)) := F_coder_so_65.other W69 (Or.inl ne_so_ar)
    have Kp69 : Keep h0 h69 [] := Kp65.wr W69 (Or.inr sz_ar)
    have N69 := Fr.snoc X69 N65 g_ar
    have Z69 : n0 ≤ h69.size := Nat.le_trans Z65 (Keep.of_wr W69).1
    have V_ar_69 : Arv Z h69 ar k61 .char (4 : Int32) [(.int (nar .char c0)), (.int (nar .char c1)), (.int (0 : Int32)), (.int (0 : Int32))] (.int (0 : Int32)) := Arv.set Ar68 q68 S68 M68 H68 G68 (fits_nar_char _) W69 1 rfl (Nat.le_of_ble_eq_true rfl)
    have pre70 := fun τ (κ : Steps p.tables e below (T69.setTop (mkF m 106 #[.val (.int c0), .val (.int c1), .val (.int c2), .val (.int c3), .val (.int (Int32.ofNat 4))] [(.ref ar), (.ref so), (.ref so)])) τ) => pre67 τ (st69 _ κ)
    have pre71 := fun τ (κ : Steps p.tables e below (T69.setTop (mkF m 109 #[.val (.int c0), .val (.int c1), .val (.int c2), .val (.int c3), .val (.int (Int32.ofNat 4))] [(.int c2), (.int (2 : Int32)), (.ref ar), (.ref ar), (.ref so), (.ref so)])) τ) => pre70 τ (by
      refine XS.dup X69.here hx rfl (hb hby d2_106) rfl rfl ?_
      show Steps p.tables e below (T69.setTop (mkF m 107 #[.val (.int c0), .val (.int c1), .val (.int c2), .val (.int c3), .val (.int (Int32.ofNat 4))] [(.ref ar), (.ref ar), (.ref so), (.ref so)])) _
      refine XS.iconst X69.here hx rfl (hb hby d2_107) ?_
      refine XS.iloadN X69.here hx rfl (hb hby d2_108) rfl ?_
      show Steps p.tables e below (T69.setTop (mkF m 109 #[.val (.int c0), .val (.int c1), .val (.int c2), .val (.int c3), .val (.int (Int32.ofNat 4))] [(.int c2), (.int (2 : Int32)), (.ref ar), (.ref ar), (.ref so), (.ref so)])) _
      exact κ)
    obtain ⟨cl72, Ar72, q72, S72, M72, H72, G72⟩ := id V_ar_69
    have in72 : ¬ ((2 : Int32) < 0 ∨ cl72.slots.size ≤ ((2 : Int32)).toNatClampNeg) := inb_of S72 ⟨by decide, by decide⟩
    obtain ⟨T73, h73, X73, e73, W73, st73⟩ := stC X69 hx hZ e69 Ar72 (j := (2 : Int32)) in72 (g := (mkF m 109 #[.val (.int c0), .val (.int c1), .val (.int c2), .val (.int c3), .val (.int (Int32.ofNat 4))] [(.int c2), (.int (2 : Int32)), (.ref ar), (.ref ar), (.ref so), (.ref so)])) rfl rfl (hb hby d2_109)
    have O0_73 : Old Z n0 h73 := O0_69.wr W73 g_ar
    have A58_73 : Exa Z h73 so "java/lang/String" := A58_69.wr W73
    have F_value_so_73 : Fld Z h73 so "java/lang/String" "value" "[B" .null := F_value_so_69.other W73 (Or.inl ne_so_ar)
    have F_coder_so_73 : Fld Z h73 so "java/lang/String" "coder" "B" (.int (0 : Int32)) := F_coder_so_69.other W73 (Or.inl ne_so_ar)
    have Kp73 : Keep h0 h73 [] := Kp69.wr W73 (Or.inr sz_ar)
    have N73 := Fr.snoc X73 N69 g_ar
    have Z73 : n0 ≤ h73.size := Nat.le_trans Z69 (Keep.of_wr W73).1
    have V_ar_73 : Arv Z h73 ar k61 .char (4 : Int32) [(.int (nar .char c0)), (.int (nar .char c1)), (.int (nar .char c2)), (.int (0 : Int32))] (.int (0 : Int32)) := Arv.set Ar72 q72 S72 M72 H72 G72 (fits_nar_char _) W73 2 rfl (Nat.le_of_ble_eq_true rfl)
    have pre74 := fun τ (κ : Steps p.tables e below (T73.setTop (mkF m 110 #[.val (.int c0), .val (.int c1), .val (.int c2), .val (.int c3), .val (.int (Int32.ofNat 4))] [(.ref ar), (.ref so), (.ref so)])) τ) => pre71 τ (st73 _ κ)
    have pre75 := fun τ (κ : Steps p.tables e below (T73.setTop (mkF m 113 #[.val (.int c0), .val (.int c1), .val (.int c2), .val (.int c3), .val (.int (Int32.ofNat 4))] [(.int c3), (.int (3 : Int32)), (.ref ar), (.ref ar), (.ref so), (.ref so)])) τ) => pre74 τ (by
      refine XS.dup X73.here hx rfl (hb hby d2_110) rfl rfl ?_
      show Steps p.tables e below (T73.setTop (mkF m 111 #[.val (.int c0), .val (.int c1), .val (.int c2), .val (.int c3), .val (.int (Int32.ofNat 4))] [(.ref ar), (.ref ar), (.ref so), (.ref so)])) _
      refine XS.iconst X73.here hx rfl (hb hby d2_111) ?_
      refine XS.iloadN X73.here hx rfl (hb hby d2_112) rfl ?_
      show Steps p.tables e below (T73.setTop (mkF m 113 #[.val (.int c0), .val (.int c1), .val (.int c2), .val (.int c3), .val (.int (Int32.ofNat 4))] [(.int c3), (.int (3 : Int32)), (.ref ar), (.ref ar), (.ref so), (.ref so)])) _
      exact κ)
    obtain ⟨cl76, Ar76, q76, S76, M76, H76, G76⟩ := id V_ar_73
    have in76 : ¬ ((3 : Int32) < 0 ∨ cl76.slots.size ≤ ((3 : Int32)).toNatClampNeg) := inb_of S76 ⟨by decide, by decide⟩
    obtain ⟨T77, h77, X77, e77, W77, st77⟩ := stC X73 hx hZ e73 Ar76 (j := (3 : Int32)) in76 (g := (mkF m 113 #[.val (.int c0), .val (.int c1), .val (.int c2), .val (.int c3), .val (.int (Int32.ofNat 4))] [(.int c3), (.int (3 : Int32)), (.ref ar), (.ref ar), (.ref so), (.ref so)])) rfl rfl (hb hby d2_113)
    have O0_77 : Old Z n0 h77 := O0_73.wr W77 g_ar
    have A58_77 : Exa Z h77 so "java/lang/String" := A58_73.wr W77
    have F_value_so_77 : Fld Z h77 so "java/lang/String" "value" "[B" .null := F_value_so_73.other W77 (Or.inl ne_so_ar)
    have F_coder_so_77 : Fld Z h77 so "java/lang/String" "coder" "B" (.int (0 : Int32)) := F_coder_so_73.other W77 (Or.inl ne_so_ar)
    have Kp77 : Keep h0 h77 [] := Kp73.wr W77 (Or.inr sz_ar)
    have N77 := Fr.snoc X77 N73 g_ar
    have Z77 : n0 ≤ h77.size := Nat.le_trans Z73 (Keep.of_wr W77).1
    have V_ar_77 : Arv Z h77 ar k61 .char (4 : Int32) [(.int (nar .char c0)), (.int (nar .char c1)), (.int (nar .char c2)), (.int (nar .char c3))] (.int (0 : Int32)) := Arv.set Ar76 q76 S76 M76 H76 G76 (fits_nar_char _) W77 3 rfl (Nat.le_of_ble_eq_true rfl)
    have pre78 := fun τ (κ : Steps p.tables e below (T77.setTop (mkF m 114 #[.val (.int c0), .val (.int c1), .val (.int c2), .val (.int c3), .val (.int (Int32.ofNat 4))] [(.ref ar), (.ref so), (.ref so)])) τ) => pre75 τ (st77 _ κ)
    have Vt : Arv Z h77 ar k61 .char (Int32.ofNat 4) (own_tab (own_f4 c0 c1 c2 c3) (4)) (.int (0 : Int32)) := by
      have q := V_ar_77
      rw [own_i2cn hc0, own_i2cn hc1, own_i2cn hc2, own_i2cn hc3] at q
      exact q
    obtain ⟨_, _, ⟨T79, L79, k79, n79⟩, -, X79, ⟨Lc79, hQ79, l79, y79, z79⟩, st79⟩ := X77.specialBack hx (y := (⟨"java/lang/String", "<init>", "([C)V"⟩ : MethodName)) rfl hown (mvT hZ (hw _ (List.mem_of_getElem? (i := 13) rfl))) (mvT hZ (hw _ (List.mem_of_getElem? (i := 14) rfl))) (mvT hZ (hw _ (List.mem_of_getElem? (i := 15) rfl))) (by decide) (backOf (W := 1) (rm3 l Z a0 hw [] so ar 4 k61 (own_f4 c0 c1 c2 c3) zc fm h77 n0 Z77 O0_77 U0 A58_77 F_value_so_77 F_coder_so_77 Vt (by decide) (by decide) (fun j _ => own_f4c hc0 hc1 hc2 hc3 j) ne_so_ar g_so) hZ (hw _ (List.mem_of_getElem? (i := 15) rfl)) (hw _ (List.mem_of_getElem? (i := 11) rfl)) (Nat.le_of_ble_eq_true rfl) (Nat.le_of_ble_eq_true rfl)) (g := (mkF m 114 #[.val (.int c0), .val (.int c1), .val (.int c2), .val (.int c3), .val (.int (Int32.ofNat 4))] [(.ref ar), (.ref so), (.ref so)])) rfl (by rw [hml]; rfl) (Steps.refl _) (a := so) (argsL := [(.ref ar)]) (rest := [(.ref so)]) (lenOf pd_9 rfl) rfl (by show 2 * 0 + _ ≤ _; exact Nat.le_of_eq rfl) (hb hby d2_114) (fun _ _ => ⟨rfl, e77, (by decide : 2 + 2 ≤ _), (by decide : 8 + 48 ≤ _)⟩)
    dsimp only [Pt.U, Pt.locs, Pt.cells, Pt.slots] at X79 l79 y79 z79 st79 hQ79
    subst l79 y79 z79
    obtain ⟨rfl, Nq79, K79, P79⟩ := hQ79
    have O0_79 : Old Z n0 T79.heap := O0_77.keep K79 (allS g_so all0)
    have A58_79 : Exa Z T79.heap so "java/lang/String" := A58_77.keep K79
    have V_ar_79 : Arv Z T79.heap ar k61 .char (4 : Int32) [(.int (nar .char c0)), (.int (nar .char c1)), (.int (nar .char c2)), (.int (nar .char c3))] (.int (0 : Int32)) := V_ar_77.keep K79 (ninS (Ne.symm ne_so_ar) nin0)
    have Z79 : n0 ≤ T79.heap.size := Nat.le_trans Z77 K79.1
    have Kp79 : Keep h0 T79.heap [] := Kp77.trans K79 (allS (Or.inr sz_so) all0)
    have N79 := Fr.app N77 Nq79
    have pre80 := fun τ (κ : Steps p.tables e below (T79.setTop (mkF m 117 #[.val (.int c0), .val (.int c1), .val (.int c2), .val (.int c3), .val (.int (Int32.ofNat 4))] [(.ref so)])) τ) => pre78 τ (st79.trans κ)
    obtain ⟨fs, hr, hrun, hended, hEnd⟩ := Stand.leaveW (s := s) (vm₁ := s.vm) X79 hS0 (Nat.zero_le _) (v := some (.ref so)) (fun h => by rw [Bd.returns] at h; cases h)
    refine ⟨_, _, pre80 _ ?_, hrun, hended, _, _, rfl, ?_, ?_, ⟨hEnd.1, hEnd.2.1, hEnd.2.2.1, hEnd.2.2.2.mono (by decide) (by decide)⟩⟩
    · jvm_step X79.here [X79.here.top, hx, (hb hby d2_117), X79.method', Bd.returns, Value.isRef, FieldType.isReference]
      first | (intro acts; rw [hr _ acts rfl rfl rfl]) | rw [hr _ _ rfl rfl rfl]
      exact Steps.refl _
    · show Q2 Z c0 c1 c2 c3 4 zc fm h0 n0 _ T79.heap _
      exact ⟨so, rfl, N79, Kp79, P79⟩
    · show CHr Z consts_1 s.vm s.heap T79.vm T79.heap
      rw [hh]
      exact ((CHr.keep Kp79 sf0 hC0).trans (CHv.at (s := s) (vm0 := s.vm) X79 hZ hEL (CHv.keep Kp79 sf0 hC0)))
theorem ef_14e (m : MethodId) (x : Int32) : entryFrame m #[(.int x), (.int x)] 2 = mkF m 0 #[.val (.int x), .val (.int x)] [] := by first | (simp [entryFrame, mkF, argsToLocals, Value.category]; done) | rfl
def Q14e (Z : State) (x : Int32) (h0 : Heap) (n0 : Nat) (v : Option Value) (h : Heap) (L : List Loc) : Prop := v = some (.int x) ∧ Fr n0 L ∧ h = h0
set_option maxRecDepth 65536 in
set_option maxHeartbeats 40000000 in
theorem rm14e (l : Launch) (Z : State) (a0 : Array Value) (hw : ∀ d ∈ tables_1, d.before a0 Z = true) (ws : List Jvm.Cond) (x : Int32) (h0 : Heap) (n0 : Nat) (Z0 : n0 ≤ h0.size) :
    MetFree l (⟨"java/lang/Math", "min", "(II)I"⟩ : MethodName) (head1 (Jvm.Cond.code (⟨"java/lang/Math", "min", "(II)I"⟩ : MethodName) jdk_29_method_69_code 2 (some .int) :: ws) ({ frames := 0, cells := 0, slots := 0, locals := 0 } : Room)) (fun α υ => α = #[(.int x), (.int x)] ∧ Z.Warmed39 υ.vm ∧ υ.heap = h0) (fun _ _ _ _ _ => True) (fun _ υ ω υ' => ∃ v L, ω = .returned v ∧ Q14e Z x h0 n0 v υ'.heap L ∧ FrameEnd υ ω υ' L ({ frames := 0, cells := 0, slots := 0, locals := 0 } : Room).cells ({ frames := 0, cells := 0, slots := 0, locals := 0 } : Room).slots) := by
  refine MetFree.of_bodySF (Jvm.Free.JP.mathPlain rfl (by decide +kernel)) hisR ?_
  intro p e s m args below meth c s₁ Bd hml0 hP hK
  obtain ⟨rfl, hZ, hh⟩ := hP
  have hx := Bd.exec
  have hby := Bd.bytes
  have hml : c.maxLocals = 2 := hml0
  have hown : s.vm.findClass "java/lang/Math" = some m.cls := findClass_of_methodNamed Bd.named
  have hnm := (name_of_methodNamed Bd.named Bd.method).1
  have X0 : Stand p l e ({ frames := 0, cells := 0, slots := 0, locals := 0 } : Room) s m #[(.int x), (.int x)] below meth c s₁ [] 0 0 := Stand.of_body Bd
  have e0 : s₁.heap = h0 := by rw [← hh, Bd.state]; rfl
  have N0 := Fr.nil n0
  have pre0 : ∀ τ, Steps p.tables e below (s₁.setTop (mkF m 0 #[.val (.int x), .val (.int x)] [])) τ → Steps p.tables e below (s₁.setTop (entryFrame m #[(.int x), (.int x)] 2)) τ := fun τ κ => castTop (ef_14e m x) κ
  have pre1 := fun τ (κ : Steps p.tables e below (s₁.setTop (mkF m 10 #[.val (.int x), .val (.int x)] [(.int x)])) τ) => pre0 τ (by
    refine XS.iloadN X0.here hx rfl (hb hby d14_0) rfl ?_
    refine XS.iloadN X0.here hx rfl (hb hby d14_1) rfl ?_
    refine XS.icmpNo X0.here hx rfl (hb hby d14_2) rfl (flt Int32.lt_irrefl).2.2.1 ?_
    show Steps p.tables e below (s₁.setTop (mkF m 5 #[.val (.int x), .val (.int x)] [])) _
    refine XS.iloadN X0.here hx rfl (hb hby d14_5) rfl ?_
    refine XS.goto X0.here hx rfl (pc0 := 6) (pc' := 10) rfl (hb hby d14_6) (by decide) (by decide) ?_
    show Steps p.tables e below (s₁.setTop (mkF m 10 #[.val (.int x), .val (.int x)] [(.int x)])) _
    exact κ)
  obtain ⟨fs, hr, hrun, hended, hW, hsame⟩ := X0.leave (v := some (.int x)) (fun h => by rw [Bd.returns] at h; cases h)
  refine ⟨_, _, pre1 _ ?_, hrun, hended, _, _, rfl, ?_, ⟨_, rfl⟩, hW, hsame.mono (by decide) (by decide)⟩
  · exact retI X0 hx Bd.returns (hb hby d14_10) hr
  · show Q14e Z x h0 n0 _ s₁.heap _
    rw [e0]
    exact ⟨rfl, N0, rfl⟩
theorem ef_14n (m : MethodId) (zx : Nat) (zy : Nat) : entryFrame m #[(.int (Int32.ofNat zx)), (.int (Int32.ofNat zy))] 2 = mkF m 0 #[.val (.int (Int32.ofNat zx)), .val (.int (Int32.ofNat zy))] [] := by first | (simp [entryFrame, mkF, argsToLocals, Value.category]; done) | rfl
def Q14n (Z : State) (zx : Nat) (zy : Nat) (h0 : Heap) (n0 : Nat) (v : Option Value) (h : Heap) (L : List Loc) : Prop := v = some (.int (Int32.ofNat zy)) ∧ Fr n0 L ∧ h = h0
set_option maxRecDepth 65536 in
set_option maxHeartbeats 40000000 in
theorem rm14n (l : Launch) (Z : State) (a0 : Array Value) (hw : ∀ d ∈ tables_1, d.before a0 Z = true) (ws : List Jvm.Cond) (zx : Nat) (zy : Nat) (h0 : Heap) (n0 : Nat) (Z0 : n0 ≤ h0.size) (hzz : zy < zx) (hzb : zx ≤ 1000) :
    MetFree l (⟨"java/lang/Math", "min", "(II)I"⟩ : MethodName) (head1 (Jvm.Cond.code (⟨"java/lang/Math", "min", "(II)I"⟩ : MethodName) jdk_29_method_69_code 2 (some .int) :: ws) ({ frames := 0, cells := 0, slots := 0, locals := 0 } : Room)) (fun α υ => α = #[(.int (Int32.ofNat zx)), (.int (Int32.ofNat zy))] ∧ Z.Warmed39 υ.vm ∧ υ.heap = h0) (fun _ _ _ _ _ => True) (fun _ υ ω υ' => ∃ v L, ω = .returned v ∧ Q14n Z zx zy h0 n0 v υ'.heap L ∧ FrameEnd υ ω υ' L ({ frames := 0, cells := 0, slots := 0, locals := 0 } : Room).cells ({ frames := 0, cells := 0, slots := 0, locals := 0 } : Room).slots) := by
  refine MetFree.of_bodySF (Jvm.Free.JP.mathPlain rfl (by decide +kernel)) hisR ?_
  intro p e s m args below meth c s₁ Bd hml0 hP hK
  obtain ⟨rfl, hZ, hh⟩ := hP
  have hx := Bd.exec
  have hby := Bd.bytes
  have hml : c.maxLocals = 2 := hml0
  have hown : s.vm.findClass "java/lang/Math" = some m.cls := findClass_of_methodNamed Bd.named
  have hnm := (name_of_methodNamed Bd.named Bd.method).1
  have X0 : Stand p l e ({ frames := 0, cells := 0, slots := 0, locals := 0 } : Room) s m #[(.int (Int32.ofNat zx)), (.int (Int32.ofNat zy))] below meth c s₁ [] 0 0 := Stand.of_body Bd
  have e0 : s₁.heap = h0 := by rw [← hh, Bd.state]; rfl
  have N0 := Fr.nil n0
  have pre0 : ∀ τ, Steps p.tables e below (s₁.setTop (mkF m 0 #[.val (.int (Int32.ofNat zx)), .val (.int (Int32.ofNat zy))] [])) τ → Steps p.tables e below (s₁.setTop (entryFrame m #[(.int (Int32.ofNat zx)), (.int (Int32.ofNat zy))] 2)) τ := fun τ κ => castTop (ef_14n m zx zy) κ
  have pre1 := fun τ (κ : Steps p.tables e below (s₁.setTop (mkF m 10 #[.val (.int (Int32.ofNat zx)), .val (.int (Int32.ofNat zy))] [(.int (Int32.ofNat zy))])) τ) => pre0 τ (by
    refine XS.iloadN X0.here hx rfl (hb hby d14_0) rfl ?_
    refine XS.iloadN X0.here hx rfl (hb hby d14_1) rfl ?_
    refine XS.icmpYes X0.here hx rfl (pc0 := 2) (pc' := 9) rfl (hb hby d14_2) rfl (tlt ((own_ltN (by omega) (by omega)).mpr hzz)).2.2.1 (by decide) (by decide) ?_
    show Steps p.tables e below (s₁.setTop (mkF m 9 #[.val (.int (Int32.ofNat zx)), .val (.int (Int32.ofNat zy))] [])) _
    refine XS.iloadN X0.here hx rfl (hb hby d14_9) rfl ?_
    show Steps p.tables e below (s₁.setTop (mkF m 10 #[.val (.int (Int32.ofNat zx)), .val (.int (Int32.ofNat zy))] [(.int (Int32.ofNat zy))])) _
    exact κ)
  obtain ⟨fs, hr, hrun, hended, hW, hsame⟩ := X0.leave (v := some (.int (Int32.ofNat zy))) (fun h => by rw [Bd.returns] at h; cases h)
  refine ⟨_, _, pre1 _ ?_, hrun, hended, _, _, rfl, ?_, ⟨_, rfl⟩, hW, hsame.mono (by decide) (by decide)⟩
  · exact retI X0 hx Bd.returns (hb hby d14_10) hr
  · show Q14n Z zx zy h0 n0 _ s₁.heap _
    rw [e0]
    exact ⟨rfl, N0, rfl⟩
theorem ef_13 (m : MethodId) (u9 : Int32) : entryFrame m #[(.int (47 : Int32))] 1 = mkF m 0 #[.val (.int (47 : Int32))] [] := by first | (simp [entryFrame, mkF, argsToLocals, Value.category]; done) | rfl
def Q13 (Z : State) (u9 : Int32) (h0 : Heap) (n0 : Nat) (v : Option Value) (h : Heap) (L : List Loc) : Prop := v = some (.int (1 : Int32)) ∧ Fr n0 L ∧ h = h0
set_option maxRecDepth 65536 in
set_option maxHeartbeats 40000000 in
theorem rm13 (l : Launch) (Z : State) (a0 : Array Value) (hw : ∀ d ∈ tables_1, d.before a0 Z = true) (ws : List Jvm.Cond) (u9 : Int32) (h0 : Heap) (n0 : Nat) (Z0 : n0 ≤ h0.size) :
    MetFree l (⟨"java/lang/StringLatin1", "canEncode", "(I)Z"⟩ : MethodName) (head1 (Jvm.Cond.code (⟨"java/lang/StringLatin1", "canEncode", "(I)Z"⟩ : MethodName) jdk_43_method_4_code 1 (some .boolean) :: ws) ({ frames := 0, cells := 0, slots := 0, locals := 0 } : Room)) (fun α υ => α = #[(.int (47 : Int32))] ∧ Z.Warmed39 υ.vm ∧ υ.heap = h0) (fun _ _ _ _ _ => True) (fun _ υ ω υ' => ∃ v L, ω = .returned v ∧ Q13 Z u9 h0 n0 v υ'.heap L ∧ FrameEnd υ ω υ' L ({ frames := 0, cells := 0, slots := 0, locals := 0 } : Room).cells ({ frames := 0, cells := 0, slots := 0, locals := 0 } : Room).slots) := by
  refine MetFree.of_bodySF (plainFor_of_name pn_java_lang_StringLatin1) hisR ?_
  intro p e s m args below meth c s₁ Bd hml0 hP hK
  obtain ⟨rfl, hZ, hh⟩ := hP
  have hx := Bd.exec
  have hby := Bd.bytes
  have hml : c.maxLocals = 1 := hml0
  have hown : s.vm.findClass "java/lang/StringLatin1" = some m.cls := findClass_of_methodNamed Bd.named
  have hnm := (name_of_methodNamed Bd.named Bd.method).1
  have X0 : Stand p l e ({ frames := 0, cells := 0, slots := 0, locals := 0 } : Room) s m #[(.int (47 : Int32))] below meth c s₁ [] 0 0 := Stand.of_body Bd
  have e0 : s₁.heap = h0 := by rw [← hh, Bd.state]; rfl
  have N0 := Fr.nil n0
  have pre0 : ∀ τ, Steps p.tables e below (s₁.setTop (mkF m 0 #[.val (.int (47 : Int32))] [])) τ → Steps p.tables e below (s₁.setTop (entryFrame m #[(.int (47 : Int32))] 1)) τ := fun τ κ => castTop (ef_13 m u9) κ
  have pre1 := fun τ (κ : Steps p.tables e below (s₁.setTop (mkF m 16 #[.val (.int (47 : Int32))] [(.int (1 : Int32))])) τ) => pre0 τ (by
    refine XS.iloadN X0.here hx rfl (hb hby d13_0) rfl ?_
    refine XS.ifNo X0.here hx rfl (hb hby d13_1) rfl ((if0 _ _).trans (flt (by decide)).1) ?_
    show Steps p.tables e below (s₁.setTop (mkF m 4 #[.val (.int (47 : Int32))] [])) _
    refine XS.iloadN X0.here hx rfl (hb hby d13_4) rfl ?_
    refine XS.sipush X0.here hx rfl (hb hby d13_5) ?_
    refine XS.icmpNo X0.here hx rfl (hb hby d13_8) rfl (flt (by decide)).2.2.1 ?_
    show Steps p.tables e below (s₁.setTop (mkF m 11 #[.val (.int (47 : Int32))] [])) _
    refine XS.iconst X0.here hx rfl (hb hby d13_11) ?_
    refine XS.goto X0.here hx rfl (pc0 := 12) (pc' := 16) rfl (hb hby d13_12) (by decide) (by decide) ?_
    show Steps p.tables e below (s₁.setTop (mkF m 16 #[.val (.int (47 : Int32))] [(.int (1 : Int32))])) _
    exact κ)
  obtain ⟨fs, hr, hrun, hended, hW, hsame⟩ := X0.leave (v := some (.int (1 : Int32))) (fun h => by rw [Bd.returns] at h; cases h)
  refine ⟨_, _, pre1 _ ?_, hrun, hended, _, _, rfl, ?_, ⟨_, rfl⟩, hW, hsame.mono (by decide) (by decide)⟩
  · exact retN X0 hx (t := .boolean) Bd.returns (by simp) (hb hby d13_16) hr
  · show Q13 Z u9 h0 n0 _ s₁.heap _
    rw [e0]
    exact ⟨rfl, N0, rfl⟩
set_option maxRecDepth 65536 in
set_option maxHeartbeats 40000000 in
theorem loopL {p : Program} {l : Launch} {e : Env} {R : Room} {s : State} {m : MethodId} {args : Array Value} {below : List Frame} {meth : Method} {c : Code} {Z : State} {a0 : Array Value} (hx : p.tables.exec = Jvm.exec) (hZ : Z.Warmed39 s.vm) (hw : ∀ d ∈ tables_1, d.before a0 Z = true) (hby : c.code = jdk_43_method_27_code) (hml : c.maxLocals = 4) (hown : s.vm.findClass "java/lang/StringLatin1" = some m.cls) {n0 cells slots : Nat} {h0 : Heap} (tb : Addr) (x2 : Int32) (kb : ClassId) (n : Nat) (f : Nat → Int32) (zc : Int32) (fm : Value) (Z0 : n0 ≤ h0.size) (O0 : Old Z n0 h0) (U0 : own_ST Z zc fm) (Va : Arv Z h0 tb kb .byte (Int32.ofNat n) (own_tab (own_l1 f) (n)) (.int (0 : Int32))) (hn : n ≤ 16) (hf : ∀ j, j < n → own_ch (f j)) (h255 : ∀ j, j < n → ¬ (255 : Int32) < f j) (hRf : 0 + 1 ≤ R.frames) (hRl : 0 + (2 + 11) + 0 ≤ R.locals) (hRc : cells ≤ R.cells) (hRs : slots ≤ R.slots) :
    ∀ (i : Nat) (T0 : State) (locs : List Loc), i ≤ n → (∀ j, i ≤ j → j < n → ¬ f j = 47) → Stand p l e R s m args below meth c T0 locs cells slots → T0.heap = h0 → Fr n0 locs →
      ∃ (T' : State) (lo : List Loc) (k9 pc9 : Nat) (L9 : Array Slot), Stand p l e R s m args below meth c T' lo cells slots ∧ T'.heap = h0 ∧ Fr n0 lo ∧ own_LI f n k9 ∧ decode c.code pc9 = .ok (.ireturn, 1) ∧ ∀ t, Steps p.tables e below (T'.setTop (mkF m pc9 L9 [.int (own_dn k9)])) t → Steps p.tables e below (T0.setTop (mkF m 18 #[.val (.ref tb), .val (.int (47 : Int32)), .val (.int x2), .val (.int (own_dn i))] [])) t := by
  intro i
  induction i with
  | zero =>
    intro T0 locs hin hall X0 e0 N0
    have pre0 := fun τ (κ : Steps p.tables e below (T0.setTop (mkF m 18 #[.val (.ref tb), .val (.int (47 : Int32)), .val (.int x2), .val (.int (own_dn 0))] [])) τ) => κ
    have pre1 := fun τ (κ : Steps p.tables e below (T0.setTop (mkF m 39 #[.val (.ref tb), .val (.int (47 : Int32)), .val (.int x2), .val (.int (own_dn 0))] [(.int (-1 : Int32))])) τ) => pre0 τ (by
      refine XS.iloadN X0.here hx rfl (hb hby d12_18) rfl ?_
      refine XS.ifYes X0.here hx rfl (pc0 := 19) (pc' := 38) rfl (hb hby d12_19) rfl ((if0 _ _).trans (tlt (by decide)).1) (by decide) (by decide) ?_
      show Steps p.tables e below (T0.setTop (mkF m 38 #[.val (.ref tb), .val (.int (47 : Int32)), .val (.int x2), .val (.int (own_dn 0))] [])) _
      refine XS.iconst X0.here hx rfl (hb hby d12_38) ?_
      show Steps p.tables e below (T0.setTop (mkF m 39 #[.val (.ref tb), .val (.int (47 : Int32)), .val (.int x2), .val (.int (own_dn 0))] [(.int (-1 : Int32))])) _
      exact κ)
    exact ⟨T0, locs, 0, 39, _, X0, e0, N0, ⟨Nat.zero_le _, fun q => absurd q (by omega), hall⟩, (hb hby d12_39), pre1⟩
  | succ i ih =>
    intro T0 locs hin hall X0 e0 N0
    have pre0 := fun τ (κ : Steps p.tables e below (T0.setTop (mkF m 18 #[.val (.ref tb), .val (.int (47 : Int32)), .val (.int x2), .val (.int (Int32.ofNat i))] [])) τ) => κ
    have pre1 := fun τ (κ : Steps p.tables e below (T0.setTop (mkF m 24 #[.val (.ref tb), .val (.int (47 : Int32)), .val (.int x2), .val (.int (Int32.ofNat i))] [(.int (Int32.ofNat i)), (.ref tb)])) τ) => pre0 τ (by
      refine XS.iloadN X0.here hx rfl (hb hby d12_18) rfl ?_
      refine XS.ifNo X0.here hx rfl (hb hby d12_19) rfl ((if0 _ _).trans (flt (own_nn (by omega))).1) ?_
      show Steps p.tables e below (T0.setTop (mkF m 22 #[.val (.ref tb), .val (.int (47 : Int32)), .val (.int x2), .val (.int (Int32.ofNat i))] [])) _
      refine XS.aloadN X0.here hx rfl (hb hby d12_22) rfl rfl ?_
      refine XS.iloadN X0.here hx rfl (hb hby d12_23) rfl ?_
      show Steps p.tables e below (T0.setTop (mkF m 24 #[.val (.ref tb), .val (.int (47 : Int32)), .val (.int x2), .val (.int (Int32.ofNat i))] [(.int (Int32.ofNat i)), (.ref tb)])) _
      exact κ)
    obtain ⟨cl2, Ar2, -, S2, M2, H2, -⟩ := id Va
    have in2 : ¬ ((Int32.ofNat i) < 0 ∨ cl2.slots.size ≤ ((Int32.ofNat i)).toNatClampNeg) := inb_of S2 ⟨own_nn (by omega), (own_ltN (by omega) (by omega)).mpr (by omega)⟩
    have at2 : cl2.slots[((Int32.ofNat i)).toNatClampNeg]? = some (.int (own_lo (f i))) := H2.at in2 (by rw [own_clamp (by omega), own_tab_get (by omega)]; rfl)
    have pre3 := fun τ (κ : Steps p.tables e below (T0.setTop (mkF m 27 #[.val (.ref tb), .val (.int (47 : Int32)), .val (.int x2), .val (.int (Int32.ofNat i))] [(.int ((47 : Int32).toInt8.toInt32)), (.int (own_lo (f i)))])) τ) => pre1 τ (by
      refine X0.baloadBytes hx (j := (Int32.ofNat i)) (v := (.int (own_lo (f i)))) (by rw [e0]; exact Ar2.1) (State.isArrayOf_alike hZ.alike Ar2.2.1) Ar2.2.2 in2 at2 (g := (mkF m 24 #[.val (.ref tb), .val (.int (47 : Int32)), .val (.int x2), .val (.int (Int32.ofNat i))] [(.int (Int32.ofNat i)), (.ref tb)])) rfl rfl (hb hby d12_24) _ ?_
      show Steps p.tables e below (T0.setTop (mkF m 25 #[.val (.ref tb), .val (.int (47 : Int32)), .val (.int x2), .val (.int (Int32.ofNat i))] [(.int (own_lo (f i)))])) _
      refine XS.iloadN X0.here hx rfl (hb hby d12_25) rfl ?_
      refine XS.i2b X0.here hx rfl (hb hby d12_26) rfl ?_
      show Steps p.tables e below (T0.setTop (mkF m 27 #[.val (.ref tb), .val (.int (47 : Int32)), .val (.int x2), .val (.int (Int32.ofNat i))] [(.int ((47 : Int32).toInt8.toInt32)), (.int (own_lo (f i)))])) _
      exact κ)
    by_cases q1 : (own_lo (f i)) = ((47 : Int32).toInt8.toInt32)
    · have pre4 := fun τ (κ : Steps p.tables e below (T0.setTop (mkF m 31 #[.val (.ref tb), .val (.int (47 : Int32)), .val (.int x2), .val (.int (Int32.ofNat i))] [(.int (Int32.ofNat i))])) τ) => pre3 τ (by
        refine XS.icmpNo X0.here hx rfl (hb hby d12_27) rfl (teq q1).2 ?_
        show Steps p.tables e below (T0.setTop (mkF m 30 #[.val (.ref tb), .val (.int (47 : Int32)), .val (.int x2), .val (.int (Int32.ofNat i))] [])) _
        refine XS.iloadN X0.here hx rfl (hb hby d12_30) rfl ?_
        show Steps p.tables e below (T0.setTop (mkF m 31 #[.val (.ref tb), .val (.int (47 : Int32)), .val (.int x2), .val (.int (Int32.ofNat i))] [(.int (Int32.ofNat i))])) _
        exact κ)
      exact ⟨T0, _, i + 1, 31, _, by simpa using X0, e0, N0, ⟨hin, fun _ => ((own_lo47 (hf i (by omega)) (h255 i (by omega))).mp q1), hall⟩, (hb hby d12_31), pre4⟩
    · have pre5 := fun τ (κ : Steps p.tables e below (T0.setTop (mkF m 18 #[.val (.ref tb), .val (.int (47 : Int32)), .val (.int x2), .val (.int ((Int32.ofNat i) + (-1 : Int32)))] [])) τ) => pre3 τ (by
        refine XS.icmpYes X0.here hx rfl (pc0 := 27) (pc' := 32) rfl (hb hby d12_27) rfl (feq q1).2 (by decide) (by decide) ?_
        show Steps p.tables e below (T0.setTop (mkF m 32 #[.val (.ref tb), .val (.int (47 : Int32)), .val (.int x2), .val (.int (Int32.ofNat i))] [])) _
        refine XS.iinc X0.here hx rfl (hb hby d12_32) rfl (l' := #[.val (.ref tb), .val (.int (47 : Int32)), .val (.int x2), .val (.int ((Int32.ofNat i) + (-1 : Int32)))]) rfl ?_
        show Steps p.tables e below (T0.setTop (mkF m 35 #[.val (.ref tb), .val (.int (47 : Int32)), .val (.int x2), .val (.int ((Int32.ofNat i) + (-1 : Int32)))] [])) _
        refine XS.goto X0.here hx rfl (pc0 := 35) (pc' := 18) rfl (hb hby d12_35) (by decide) (by decide) ?_
        show Steps p.tables e below (T0.setTop (mkF m 18 #[.val (.ref tb), .val (.int (47 : Int32)), .val (.int x2), .val (.int ((Int32.ofNat i) + (-1 : Int32)))] [])) _
        exact κ)
      rw [show ((Int32.ofNat i) + (-1 : Int32)) = (own_dn i) from (own_dnS i)] at pre5
      obtain ⟨a1, a2, a3, a4, a5, b1, b2, b3, b4, b5, a9⟩ := ih _ _ (by omega) (fun j h1 h2 => by
        by_cases q9 : j = i
        · rw [q9]; exact (fun z9 => q1 ((own_lo47 (hf i (by omega)) (h255 i (by omega))).mpr z9))
        · exact hall j (by omega) h2) (by simpa using X0) e0 N0
      exact ⟨a1, a2, a3, a4, a5, b1, b2, b3, b4, b5, fun τ κ => pre5 τ (a9 τ κ)⟩

theorem ef_12 (m : MethodId) (tb : Addr) (n : Nat) (zc : Int32) (fm : Value) : entryFrame m #[(.ref tb), (.int (47 : Int32)), (.int (own_dn n))] 4 = mkF m 0 #[.val (.ref tb), .val (.int (47 : Int32)), .val (.int (own_dn n)), .unset] [] := by first | (simp [entryFrame, mkF, argsToLocals, Value.category]; done) | rfl
def Q12 (Z : State) (tb : Addr) (n : Nat) (kb : ClassId) (f : Nat → Int32) (zc : Int32) (fm : Value) (h0 : Heap) (n0 : Nat) (v : Option Value) (h : Heap) (L : List Loc) : Prop := ∃ k9 : Nat, v = some (.int (own_dn k9)) ∧ Fr n0 L ∧ h = h0 ∧ own_LI f n k9
set_option maxRecDepth 65536 in
set_option maxHeartbeats 40000000 in
theorem rm12 (l : Launch) (Z : State) (a0 : Array Value) (hw : ∀ d ∈ tables_1, d.before a0 Z = true) (ws : List Jvm.Cond) (tb : Addr) (n : Nat) (kb : ClassId) (f : Nat → Int32) (zc : Int32) (fm : Value) (h0 : Heap) (n0 : Nat) (Z0 : n0 ≤ h0.size) (O0 : Old Z n0 h0) (U0 : own_ST Z zc fm) (Va : Arv Z h0 tb kb .byte (Int32.ofNat n) (own_tab (own_l1 f) (n)) (.int (0 : Int32))) (hn : n ≤ 16) (hf : ∀ j, j < n → own_ch (f j)) (h255 : ∀ j, j < n → ¬ (255 : Int32) < f j) :
    MetFree l (⟨"java/lang/StringLatin1", "lastIndexOf", "([BII)I"⟩ : MethodName) (head1 (Jvm.Cond.code (⟨"java/lang/StringLatin1", "lastIndexOf", "([BII)I"⟩ : MethodName) jdk_43_method_27_code 4 (some .int) :: ws) ({ frames := 1, cells := 0, slots := 0, locals := 13 } : Room)) (fun α υ => α = #[(.ref tb), (.int (47 : Int32)), (.int (own_dn n))] ∧ Z.Warmed39 υ.vm ∧ υ.heap = h0) (fun _ _ _ _ _ => True) (fun _ υ ω υ' => ∃ v L, ω = .returned v ∧ Q12 Z tb n kb f zc fm h0 n0 v υ'.heap L ∧ FrameEnd υ ω υ' L ({ frames := 1, cells := 0, slots := 0, locals := 13 } : Room).cells ({ frames := 1, cells := 0, slots := 0, locals := 13 } : Room).slots) := by
  refine MetFree.of_bodySF (plainFor_of_name pn_java_lang_StringLatin1) hisR ?_
  intro p e s m args below meth c s₁ Bd hml0 hP hK
  obtain ⟨rfl, hZ, hh⟩ := hP
  have hx := Bd.exec
  have hby := Bd.bytes
  have hml : c.maxLocals = 4 := hml0
  have hown : s.vm.findClass "java/lang/StringLatin1" = some m.cls := findClass_of_methodNamed Bd.named
  have hnm := (name_of_methodNamed Bd.named Bd.method).1
  have X0 : Stand p l e ({ frames := 1, cells := 0, slots := 0, locals := 13 } : Room) s m #[(.ref tb), (.int (47 : Int32)), (.int (own_dn n))] below meth c s₁ [] 0 0 := Stand.of_body Bd
  have e0 : s₁.heap = h0 := by rw [← hh, Bd.state]; rfl
  have N0 := Fr.nil n0
  have pre0 : ∀ τ, Steps p.tables e below (s₁.setTop (mkF m 0 #[.val (.ref tb), .val (.int (47 : Int32)), .val (.int (own_dn n)), .unset] [])) τ → Steps p.tables e below (s₁.setTop (entryFrame m #[(.ref tb), (.int (47 : Int32)), (.int (own_dn n))] 4)) τ := fun τ κ => castTop (ef_12 m tb n zc fm) κ
  have pre1 := fun τ (κ : Steps p.tables e below (s₁.setTop (mkF m 1 #[.val (.ref tb), .val (.int (47 : Int32)), .val (.int (own_dn n)), .unset] [(.int (47 : Int32))])) τ) => pre0 τ (by
    refine XS.iloadN X0.here hx rfl (hb hby d12_0) rfl ?_
    show Steps p.tables e below (s₁.setTop (mkF m 1 #[.val (.ref tb), .val (.int (47 : Int32)), .val (.int (own_dn n)), .unset] [(.int (47 : Int32))])) _
    exact κ)
  obtain ⟨_, _, ⟨T2, L2, k2, n2⟩, -, X2, ⟨Lc2, hQ2, l2, y2, z2⟩, st2⟩ := Jvm.LawKit.callS X0 hx (y := (⟨"java/lang/StringLatin1", "canEncode", "(I)Z"⟩ : MethodName)) hown (mvT hZ (hw _ (List.mem_of_getElem? (i := 65) rfl))) (mvT hZ (hw _ (List.mem_of_getElem? (i := 66) rfl))) (mvT hZ (hw _ (List.mem_of_getElem? (i := 63) rfl))) (mvT hZ (hw _ (List.mem_of_getElem? (i := 67) rfl))) (by decide) (backOf (W := 0) (rm13 l Z a0 hw [] 0 h0 n0 Z0) hZ (hw _ (List.mem_of_getElem? (i := 67) rfl)) (hw _ (List.mem_of_getElem? (i := 63) rfl)) (Nat.le_of_ble_eq_true rfl) (Nat.le_of_ble_eq_true rfl)) (g := (mkF m 1 #[.val (.ref tb), .val (.int (47 : Int32)), .val (.int (own_dn n)), .unset] [(.int (47 : Int32))])) rfl (by rw [hml]; rfl) (argsL := [(.int (47 : Int32))]) (rest := []) (lenOf pd_10 rfl) rfl (by show 2 * 0 + _ ≤ _; exact Nat.le_of_eq rfl) (hb hby d12_1) (fun _ _ => ⟨rfl, e0, (by decide : 0 + 0 ≤ _), (by decide : 0 + 0 ≤ _)⟩)
  dsimp only [Pt.U, Pt.locs, Pt.cells, Pt.slots] at X2 l2 y2 z2 st2 hQ2
  subst l2 y2 z2
  obtain ⟨rfl, Nq2, hh2⟩ := hQ2
  have O0_2 : Old Z n0 T2.heap := by rw [hh2]; exact O0
  have Va_2 : Arv Z T2.heap tb kb .byte (Int32.ofNat n) (own_tab (own_l1 f) (n)) (.int (0 : Int32)) := by rw [hh2]; exact Va
  have Z2 : n0 ≤ T2.heap.size := by rw [hh2]; exact Z0
  have N2 := Fr.app N0 Nq2
  have pre3 := fun τ (κ : Steps p.tables e below (T2.setTop (mkF m 4 #[.val (.ref tb), .val (.int (47 : Int32)), .val (.int (own_dn n)), .unset] [(.int (1 : Int32))])) τ) => pre1 τ (st2 _ κ)
  have pre4 := fun τ (κ : Steps p.tables e below (T2.setTop (mkF m 11 #[.val (.ref tb), .val (.int (47 : Int32)), .val (.int (own_dn n)), .unset] [(.ref tb), (.int (own_dn n))])) τ) => pre3 τ (by
    refine XS.ifYes X2.here hx rfl (pc0 := 4) (pc' := 9) rfl (hb hby d12_4) rfl ((if0 _ _).trans (feq (by decide)).2) (by decide) (by decide) ?_
    show Steps p.tables e below (T2.setTop (mkF m 9 #[.val (.ref tb), .val (.int (47 : Int32)), .val (.int (own_dn n)), .unset] [])) _
    refine XS.iloadN X2.here hx rfl (hb hby d12_9) rfl ?_
    refine XS.aloadN X2.here hx rfl (hb hby d12_10) rfl rfl ?_
    show Steps p.tables e below (T2.setTop (mkF m 11 #[.val (.ref tb), .val (.int (47 : Int32)), .val (.int (own_dn n)), .unset] [(.ref tb), (.int (own_dn n))])) _
    exact κ)
  obtain ⟨cl5, Ar5, -, S5, M5, -, -⟩ := id Va_2
  have pre6 := fun τ (κ : Steps p.tables e below (T2.setTop (mkF m 14 #[.val (.ref tb), .val (.int (47 : Int32)), .val (.int (own_dn n)), .unset] [(.int ((Int32.ofNat n) - (1 : Int32))), (.int (own_dn n))])) τ) => pre4 τ (by
    refine X2.arraylength hx Ar5.1 (State.isArrayOf_alike hZ.alike Ar5.2.1) (g := (mkF m 11 #[.val (.ref tb), .val (.int (47 : Int32)), .val (.int (own_dn n)), .unset] [(.ref tb), (.int (own_dn n))])) rfl rfl (hb hby d12_11) _ ?_
    rw [len_of S5 M5]
    show Steps p.tables e below (T2.setTop (mkF m 12 #[.val (.ref tb), .val (.int (47 : Int32)), .val (.int (own_dn n)), .unset] [(.int (Int32.ofNat n)), (.int (own_dn n))])) _
    refine XS.iconst X2.here hx rfl (hb hby d12_12) ?_
    refine XS.isub X2.here hx rfl (hb hby d12_13) rfl ?_
    show Steps p.tables e below (T2.setTop (mkF m 14 #[.val (.ref tb), .val (.int (47 : Int32)), .val (.int (own_dn n)), .unset] [(.int ((Int32.ofNat n) - (1 : Int32))), (.int (own_dn n))])) _
    exact κ)
  rw [show ((Int32.ofNat n) - (1 : Int32)) = (own_dn n) from (own_dns n)] at pre6
  obtain ⟨_, _, ⟨T7, L7, k7, n7⟩, -, X7, ⟨Lc7, hQ7, l7, y7, z7⟩, st7⟩ := Jvm.LawKit.callS X2 hx (y := (⟨"java/lang/Math", "min", "(II)I"⟩ : MethodName)) hown (mvT hZ (hw _ (List.mem_of_getElem? (i := 68) rfl))) (mvT hZ (hw _ (List.mem_of_getElem? (i := 69) rfl))) (mvT hZ (hw _ (List.mem_of_getElem? (i := 70) rfl))) (mvT hZ (hw _ (List.mem_of_getElem? (i := 71) rfl))) (by decide) (backOf (W := 0) (rm14e l Z a0 hw [] (own_dn n) T2.heap n0 Z2) hZ (hw _ (List.mem_of_getElem? (i := 71) rfl)) (hw _ (List.mem_of_getElem? (i := 70) rfl)) (Nat.le_of_ble_eq_true rfl) (Nat.le_of_ble_eq_true rfl)) (g := (mkF m 14 #[.val (.ref tb), .val (.int (47 : Int32)), .val (.int (own_dn n)), .unset] [(.int (own_dn n)), (.int (own_dn n))])) rfl (by rw [hml]; rfl) (argsL := [(.int (own_dn n)), (.int (own_dn n))]) (rest := []) (lenOf pd_11 rfl) rfl (by show 2 * 0 + _ ≤ _; exact Nat.le_of_eq rfl) (hb hby d12_14) (fun _ _ => ⟨rfl, rfl, (by decide : 0 + 0 ≤ _), (by decide : 0 + 0 ≤ _)⟩)
  dsimp only [Pt.U, Pt.locs, Pt.cells, Pt.slots] at X7 l7 y7 z7 st7 hQ7
  subst l7 y7 z7
  obtain ⟨rfl, Nq7, hh7⟩ := hQ7
  have O0_7 : Old Z n0 T7.heap := by rw [hh7]; exact O0_2
  have Va_7 : Arv Z T7.heap tb kb .byte (Int32.ofNat n) (own_tab (own_l1 f) (n)) (.int (0 : Int32)) := by rw [hh7]; exact Va_2
  have Z7 : n0 ≤ T7.heap.size := by rw [hh7]; exact Z2
  have N7 := Fr.app N2 Nq7
  have pre8 := fun τ (κ : Steps p.tables e below (T7.setTop (mkF m 17 #[.val (.ref tb), .val (.int (47 : Int32)), .val (.int (own_dn n)), .unset] [(.int (own_dn n))])) τ) => pre6 τ (st7 _ κ)
  have pre9 := fun τ (κ : Steps p.tables e below (T7.setTop (mkF m 18 #[.val (.ref tb), .val (.int (47 : Int32)), .val (.int (own_dn n)), .val (.int (own_dn n))] [])) τ) => pre8 τ (by
    refine XS.istoreN X7.here hx rfl (hb hby d12_17) rfl (l' := #[.val (.ref tb), .val (.int (47 : Int32)), .val (.int (own_dn n)), .val (.int (own_dn n))]) rfl ?_
    show Steps p.tables e below (T7.setTop (mkF m 18 #[.val (.ref tb), .val (.int (47 : Int32)), .val (.int (own_dn n)), .val (.int (own_dn n))] [])) _
    exact κ)
  obtain ⟨T9, lo9, k9, pc9, L9, X9, e9, N9, hli, d9, st9⟩ := loopL hx hZ hw hby hml hown tb _ kb n f zc fm Z7 O0_7 U0 Va_7 hn hf h255 (Nat.le_of_ble_eq_true rfl) (Nat.le_of_ble_eq_true rfl) (Nat.le_of_ble_eq_true rfl) (Nat.le_of_ble_eq_true rfl) n _ _ (Nat.le_refl _) (fun j h1 h2 => absurd h2 (by omega)) X7 rfl N7
  have pre99 := fun τ (κ : Steps p.tables e below (T9.setTop (mkF m pc9 L9 [.int (own_dn k9)])) τ) => pre9 τ (st9 τ κ)
  obtain ⟨fs, hr, hrun, hended, hW, hsame⟩ := X9.leave (v := some (.int (own_dn k9))) (fun h => by rw [Bd.returns] at h; cases h)
  refine ⟨_, _, pre99 _ ?_, hrun, hended, _, _, rfl, ?_, ⟨_, rfl⟩, hW, hsame.mono (by decide) (by decide)⟩
  · exact retI X9 hx Bd.returns d9 hr
  · show Q12 Z tb n kb f zc fm h0 n0 _ T9.heap _
    rw [e9]
    exact ⟨k9, rfl, N9, (hh7.trans hh2), hli⟩
set_option maxRecDepth 65536 in
set_option maxHeartbeats 40000000 in
theorem loopU {p : Program} {l : Launch} {e : Env} {R : Room} {s : State} {m : MethodId} {args : Array Value} {below : List Frame} {meth : Method} {c : Code} {Z : State} {a0 : Array Value} (hx : p.tables.exec = Jvm.exec) (hZ : Z.Warmed39 s.vm) (hw : ∀ d ∈ tables_1, d.before a0 Z = true) (hby : c.code = jdk_52_method_51_code) (hml : c.maxLocals = 4) (hown : s.vm.findClass "java/lang/StringUTF16" = some m.cls) {n0 cells slots : Nat} {h0 : Heap} (tb : Addr) (x2 : Int32) (kb : ClassId) (n : Nat) (f : Nat → Int32) (zc : Int32) (fm : Value) (Z0 : n0 ≤ h0.size) (O0 : Old Z n0 h0) (U0 : own_ST Z zc fm) (Va : Arv Z h0 tb kb .byte (Int32.ofNat (2 * n)) (own_tab (own_u16 f) (2 * n)) (.int (0 : Int32))) (hn : n ≤ 16) (hf : ∀ j, j < n → own_ch (f j)) (hRf : 0 + 1 ≤ R.frames) (hRl : 0 + (2 + 11) + 0 ≤ R.locals) (hRc : cells ≤ R.cells) (hRs : slots ≤ R.slots) :
    ∀ (i : Nat) (T0 : State) (locs : List Loc), i ≤ n → (∀ j, i ≤ j → j < n → ¬ f j = 47) → Stand p l e R s m args below meth c T0 locs cells slots → T0.heap = h0 → Fr n0 locs →
      ∃ (T' : State) (lo : List Loc) (k9 pc9 : Nat) (L9 : Array Slot), Stand p l e R s m args below meth c T' lo cells slots ∧ T'.heap = h0 ∧ Fr n0 lo ∧ own_LI f n k9 ∧ decode c.code pc9 = .ok (.ireturn, 1) ∧ ∀ t, Steps p.tables e below (T'.setTop (mkF m pc9 L9 [.int (own_dn k9)])) t → Steps p.tables e below (T0.setTop (mkF m 17 #[.val (.ref tb), .val (.int (47 : Int32)), .val (.int x2), .val (.int (own_dn i))] [])) t := by
  intro i
  induction i with
  | zero =>
    intro T0 locs hin hall X0 e0 N0
    have pre0 := fun τ (κ : Steps p.tables e below (T0.setTop (mkF m 17 #[.val (.ref tb), .val (.int (47 : Int32)), .val (.int x2), .val (.int (own_dn 0))] [])) τ) => κ
    have pre1 := fun τ (κ : Steps p.tables e below (T0.setTop (mkF m 39 #[.val (.ref tb), .val (.int (47 : Int32)), .val (.int x2), .val (.int (own_dn 0))] [(.int (-1 : Int32))])) τ) => pre0 τ (by
      refine XS.iloadN X0.here hx rfl (hb hby d33_17) rfl ?_
      refine XS.ifYes X0.here hx rfl (pc0 := 18) (pc' := 38) rfl (hb hby d33_18) rfl ((if0 _ _).trans (tlt (by decide)).1) (by decide) (by decide) ?_
      show Steps p.tables e below (T0.setTop (mkF m 38 #[.val (.ref tb), .val (.int (47 : Int32)), .val (.int x2), .val (.int (own_dn 0))] [])) _
      refine XS.iconst X0.here hx rfl (hb hby d33_38) ?_
      show Steps p.tables e below (T0.setTop (mkF m 39 #[.val (.ref tb), .val (.int (47 : Int32)), .val (.int x2), .val (.int (own_dn 0))] [(.int (-1 : Int32))])) _
      exact κ)
    exact ⟨T0, locs, 0, 39, _, X0, e0, N0, ⟨Nat.zero_le _, fun q => absurd q (by omega), hall⟩, (hb hby d33_39), pre1⟩
  | succ i ih =>
    intro T0 locs hin hall X0 e0 N0
    have pre0 := fun τ (κ : Steps p.tables e below (T0.setTop (mkF m 17 #[.val (.ref tb), .val (.int (47 : Int32)), .val (.int x2), .val (.int (Int32.ofNat i))] [])) τ) => κ
    have pre1 := fun τ (κ : Steps p.tables e below (T0.setTop (mkF m 23 #[.val (.ref tb), .val (.int (47 : Int32)), .val (.int x2), .val (.int (Int32.ofNat i))] [(.int (Int32.ofNat i)), (.ref tb)])) τ) => pre0 τ (by
      refine XS.iloadN X0.here hx rfl (hb hby d33_17) rfl ?_
      refine XS.ifNo X0.here hx rfl (hb hby d33_18) rfl ((if0 _ _).trans (flt (own_nn (by omega))).1) ?_
      show Steps p.tables e below (T0.setTop (mkF m 21 #[.val (.ref tb), .val (.int (47 : Int32)), .val (.int x2), .val (.int (Int32.ofNat i))] [])) _
      refine XS.aloadN X0.here hx rfl (hb hby d33_21) rfl rfl ?_
      refine XS.iloadN X0.here hx rfl (hb hby d33_22) rfl ?_
      show Steps p.tables e below (T0.setTop (mkF m 23 #[.val (.ref tb), .val (.int (47 : Int32)), .val (.int x2), .val (.int (Int32.ofNat i))] [(.int (Int32.ofNat i)), (.ref tb)])) _
      exact κ)
    obtain ⟨_, _, ⟨T2, L2, k2, n2⟩, -, X2, ⟨Lc2, hQ2, l2, y2, z2⟩, st2⟩ := Jvm.LawKit.callS X0 hx (y := (⟨"java/lang/StringUTF16", "getChar", "([BI)C"⟩ : MethodName)) hown (mvT hZ (hw _ (List.mem_of_getElem? (i := 143) rfl))) (mvT hZ (hw _ (List.mem_of_getElem? (i := 144) rfl))) (mvT hZ (hw _ (List.mem_of_getElem? (i := 96) rfl))) (mvT hZ (hw _ (List.mem_of_getElem? (i := 145) rfl))) (by decide) (backOf (W := 0) (rm32 l Z a0 hw [] tb i n kb f zc fm h0 n0 Z0 O0 U0 Va hn (by omega) (hf i (by omega))) hZ (hw _ (List.mem_of_getElem? (i := 145) rfl)) (hw _ (List.mem_of_getElem? (i := 96) rfl)) hRf hRl) (g := (mkF m 23 #[.val (.ref tb), .val (.int (47 : Int32)), .val (.int x2), .val (.int (Int32.ofNat i))] [(.int (Int32.ofNat i)), (.ref tb)])) rfl (by rw [hml]; rfl) (argsL := [(.ref tb), (.int (Int32.ofNat i))]) (rest := []) (lenOf pd_5 rfl) rfl (by show 2 * 0 + _ ≤ _; exact Nat.le_of_eq rfl) (hb hby d33_23) (fun _ _ => ⟨rfl, e0, (by show cells + 0 ≤ R.cells; omega), (by show slots + 0 ≤ R.slots; omega)⟩)
    dsimp only [Pt.U, Pt.locs, Pt.cells, Pt.slots] at X2 l2 y2 z2 st2 hQ2
    subst l2 y2 z2
    obtain ⟨rfl, Nq2, hh2⟩ := hQ2
    have O0_2 : Old Z n0 T2.heap := by rw [hh2]; exact O0
    have Va_2 : Arv Z T2.heap tb kb .byte (Int32.ofNat (2 * n)) (own_tab (own_u16 f) (2 * n)) (.int (0 : Int32)) := by rw [hh2]; exact Va
    have Z2 : n0 ≤ T2.heap.size := by rw [hh2]; exact Z0
    have N2 := Fr.app N0 Nq2
    have pre3 := fun τ (κ : Steps p.tables e below (T2.setTop (mkF m 26 #[.val (.ref tb), .val (.int (47 : Int32)), .val (.int x2), .val (.int (Int32.ofNat i))] [(.int (f i))])) τ) => pre1 τ (st2 _ κ)
    have pre4 := fun τ (κ : Steps p.tables e below (T2.setTop (mkF m 27 #[.val (.ref tb), .val (.int (47 : Int32)), .val (.int x2), .val (.int (Int32.ofNat i))] [(.int (47 : Int32)), (.int (f i))])) τ) => pre3 τ (by
      refine XS.iloadN X2.here hx rfl (hb hby d33_26) rfl ?_
      show Steps p.tables e below (T2.setTop (mkF m 27 #[.val (.ref tb), .val (.int (47 : Int32)), .val (.int x2), .val (.int (Int32.ofNat i))] [(.int (47 : Int32)), (.int (f i))])) _
      exact κ)
    by_cases q1 : (f i) = (47 : Int32)
    · have pre5 := fun τ (κ : Steps p.tables e below (T2.setTop (mkF m 31 #[.val (.ref tb), .val (.int (47 : Int32)), .val (.int x2), .val (.int (Int32.ofNat i))] [(.int (Int32.ofNat i))])) τ) => pre4 τ (by
        refine XS.icmpNo X2.here hx rfl (hb hby d33_27) rfl (teq q1).2 ?_
        show Steps p.tables e below (T2.setTop (mkF m 30 #[.val (.ref tb), .val (.int (47 : Int32)), .val (.int x2), .val (.int (Int32.ofNat i))] [])) _
        refine XS.iloadN X2.here hx rfl (hb hby d33_30) rfl ?_
        show Steps p.tables e below (T2.setTop (mkF m 31 #[.val (.ref tb), .val (.int (47 : Int32)), .val (.int x2), .val (.int (Int32.ofNat i))] [(.int (Int32.ofNat i))])) _
        exact κ)
      exact ⟨T2, _, i + 1, 31, _, by simpa using X2, hh2, N2, ⟨hin, fun _ => q1, hall⟩, (hb hby d33_31), pre5⟩
    · have pre6 := fun τ (κ : Steps p.tables e below (T2.setTop (mkF m 17 #[.val (.ref tb), .val (.int (47 : Int32)), .val (.int x2), .val (.int ((Int32.ofNat i) + (-1 : Int32)))] [])) τ) => pre4 τ (by
        refine XS.icmpYes X2.here hx rfl (pc0 := 27) (pc' := 32) rfl (hb hby d33_27) rfl (feq q1).2 (by decide) (by decide) ?_
        show Steps p.tables e below (T2.setTop (mkF m 32 #[.val (.ref tb), .val (.int (47 : Int32)), .val (.int x2), .val (.int (Int32.ofNat i))] [])) _
        refine XS.iinc X2.here hx rfl (hb hby d33_32) rfl (l' := #[.val (.ref tb), .val (.int (47 : Int32)), .val (.int x2), .val (.int ((Int32.ofNat i) + (-1 : Int32)))]) rfl ?_
        show Steps p.tables e below (T2.setTop (mkF m 35 #[.val (.ref tb), .val (.int (47 : Int32)), .val (.int x2), .val (.int ((Int32.ofNat i) + (-1 : Int32)))] [])) _
        refine XS.goto X2.here hx rfl (pc0 := 35) (pc' := 17) rfl (hb hby d33_35) (by decide) (by decide) ?_
        show Steps p.tables e below (T2.setTop (mkF m 17 #[.val (.ref tb), .val (.int (47 : Int32)), .val (.int x2), .val (.int ((Int32.ofNat i) + (-1 : Int32)))] [])) _
        exact κ)
      rw [show ((Int32.ofNat i) + (-1 : Int32)) = (own_dn i) from (own_dnS i)] at pre6
      obtain ⟨a1, a2, a3, a4, a5, b1, b2, b3, b4, b5, a9⟩ := ih _ _ (by omega) (fun j h1 h2 => by
        by_cases q9 : j = i
        · rw [q9]; exact q1
        · exact hall j (by omega) h2) (by simpa using X2) hh2 N2
      exact ⟨a1, a2, a3, a4, a5, b1, b2, b3, b4, b5, fun τ κ => pre6 τ (a9 τ κ)⟩

theorem ef_33 (m : MethodId) (tb : Addr) (n : Nat) (zc : Int32) (fm : Value) : entryFrame m #[(.ref tb), (.int (47 : Int32)), (.int (own_dn n))] 4 = mkF m 0 #[.val (.ref tb), .val (.int (47 : Int32)), .val (.int (own_dn n)), .unset] [] := by first | (simp [entryFrame, mkF, argsToLocals, Value.category]; done) | rfl
def Q33 (Z : State) (tb : Addr) (n : Nat) (kb : ClassId) (f : Nat → Int32) (zc : Int32) (fm : Value) (h0 : Heap) (n0 : Nat) (v : Option Value) (h : Heap) (L : List Loc) : Prop := ∃ k9 : Nat, v = some (.int (own_dn k9)) ∧ Fr n0 L ∧ h = h0 ∧ own_LI f n k9
set_option maxRecDepth 65536 in
set_option maxHeartbeats 40000000 in
theorem rm33 (l : Launch) (Z : State) (a0 : Array Value) (hw : ∀ d ∈ tables_1, d.before a0 Z = true) (ws : List Jvm.Cond) (tb : Addr) (n : Nat) (kb : ClassId) (f : Nat → Int32) (zc : Int32) (fm : Value) (h0 : Heap) (n0 : Nat) (Z0 : n0 ≤ h0.size) (O0 : Old Z n0 h0) (U0 : own_ST Z zc fm) (Va : Arv Z h0 tb kb .byte (Int32.ofNat (2 * n)) (own_tab (own_u16 f) (2 * n)) (.int (0 : Int32))) (hn : n ≤ 16) (hf : ∀ j, j < n → own_ch (f j)) :
    MetFree l (⟨"java/lang/StringUTF16", "lastIndexOf", "([BII)I"⟩ : MethodName) (head1 (Jvm.Cond.code (⟨"java/lang/StringUTF16", "lastIndexOf", "([BII)I"⟩ : MethodName) jdk_52_method_51_code 4 (some .int) :: ws) ({ frames := 1, cells := 0, slots := 0, locals := 13 } : Room)) (fun α υ => α = #[(.ref tb), (.int (47 : Int32)), (.int (own_dn n))] ∧ Z.Warmed39 υ.vm ∧ υ.heap = h0) (fun _ _ _ _ _ => True) (fun _ υ ω υ' => ∃ v L, ω = .returned v ∧ Q33 Z tb n kb f zc fm h0 n0 v υ'.heap L ∧ FrameEnd υ ω υ' L ({ frames := 1, cells := 0, slots := 0, locals := 13 } : Room).cells ({ frames := 1, cells := 0, slots := 0, locals := 13 } : Room).slots) := by
  refine MetFree.of_bodySF (plainFor_of_name pn_java_lang_StringUTF16) hisR ?_
  intro p e s m args below meth c s₁ Bd hml0 hP hK
  obtain ⟨rfl, hZ, hh⟩ := hP
  have hx := Bd.exec
  have hby := Bd.bytes
  have hml : c.maxLocals = 4 := hml0
  have hown : s.vm.findClass "java/lang/StringUTF16" = some m.cls := findClass_of_methodNamed Bd.named
  have hnm := (name_of_methodNamed Bd.named Bd.method).1
  have X0 : Stand p l e ({ frames := 1, cells := 0, slots := 0, locals := 13 } : Room) s m #[(.ref tb), (.int (47 : Int32)), (.int (own_dn n))] below meth c s₁ [] 0 0 := Stand.of_body Bd
  have e0 : s₁.heap = h0 := by rw [← hh, Bd.state]; rfl
  have N0 := Fr.nil n0
  have pre0 : ∀ τ, Steps p.tables e below (s₁.setTop (mkF m 0 #[.val (.ref tb), .val (.int (47 : Int32)), .val (.int (own_dn n)), .unset] [])) τ → Steps p.tables e below (s₁.setTop (entryFrame m #[(.ref tb), (.int (47 : Int32)), (.int (own_dn n))] 4)) τ := fun τ κ => castTop (ef_33 m tb n zc fm) κ
  have pre1 := fun τ (κ : Steps p.tables e below (s₁.setTop (mkF m 8 #[.val (.ref tb), .val (.int (47 : Int32)), .val (.int (own_dn n)), .unset] [(.ref tb), (.int (own_dn n))])) τ) => pre0 τ (by
    refine XS.iloadN X0.here hx rfl (hb hby d33_0) rfl ?_
    refine X0.ldcInt hx hown (mvT hZ (hw _ (List.mem_of_getElem? (i := 149) rfl))) (g := (mkF m 1 #[.val (.ref tb), .val (.int (47 : Int32)), .val (.int (own_dn n)), .unset] [(.int (47 : Int32))])) rfl (hb hby d33_1) _ ?_
    show Steps p.tables e below (s₁.setTop (mkF m 3 #[.val (.ref tb), .val (.int (47 : Int32)), .val (.int (own_dn n)), .unset] [(.int (65536 : Int32)), (.int (47 : Int32))])) _
    refine XS.icmpNo X0.here hx rfl (hb hby d33_3) rfl (tlt (by decide)).2.1 ?_
    show Steps p.tables e below (s₁.setTop (mkF m 6 #[.val (.ref tb), .val (.int (47 : Int32)), .val (.int (own_dn n)), .unset] [])) _
    refine XS.iloadN X0.here hx rfl (hb hby d33_6) rfl ?_
    refine XS.aloadN X0.here hx rfl (hb hby d33_7) rfl rfl ?_
    show Steps p.tables e below (s₁.setTop (mkF m 8 #[.val (.ref tb), .val (.int (47 : Int32)), .val (.int (own_dn n)), .unset] [(.ref tb), (.int (own_dn n))])) _
    exact κ)
  obtain ⟨cl2, Ar2, -, S2, M2, -, -⟩ := id Va
  have pre3 := fun τ (κ : Steps p.tables e below (s₁.setTop (mkF m 13 #[.val (.ref tb), .val (.int (47 : Int32)), .val (.int (own_dn n)), .unset] [(.int (((Int32.ofNat (2 * n)) >>> ((1 : Int32) &&& 31)) - (1 : Int32))), (.int (own_dn n))])) τ) => pre1 τ (by
    refine X0.arraylength hx (by rw [e0]; exact Ar2.1) (State.isArrayOf_alike hZ.alike Ar2.2.1) (g := (mkF m 8 #[.val (.ref tb), .val (.int (47 : Int32)), .val (.int (own_dn n)), .unset] [(.ref tb), (.int (own_dn n))])) rfl rfl (hb hby d33_8) _ ?_
    rw [len_of S2 M2]
    show Steps p.tables e below (s₁.setTop (mkF m 9 #[.val (.ref tb), .val (.int (47 : Int32)), .val (.int (own_dn n)), .unset] [(.int (Int32.ofNat (2 * n))), (.int (own_dn n))])) _
    refine XS.iconst X0.here hx rfl (hb hby d33_9) ?_
    refine XS.ishr X0.here hx rfl (hb hby d33_10) rfl ?_
    show Steps p.tables e below (s₁.setTop (mkF m 11 #[.val (.ref tb), .val (.int (47 : Int32)), .val (.int (own_dn n)), .unset] [(.int ((Int32.ofNat (2 * n)) >>> ((1 : Int32) &&& 31))), (.int (own_dn n))])) _
    refine XS.iconst X0.here hx rfl (hb hby d33_11) ?_
    refine XS.isub X0.here hx rfl (hb hby d33_12) rfl ?_
    show Steps p.tables e below (s₁.setTop (mkF m 13 #[.val (.ref tb), .val (.int (47 : Int32)), .val (.int (own_dn n)), .unset] [(.int (((Int32.ofNat (2 * n)) >>> ((1 : Int32) &&& 31)) - (1 : Int32))), (.int (own_dn n))])) _
    exact κ)
  rw [show ((Int32.ofNat (2 * n)) >>> ((1 : Int32) &&& 31)) = (Int32.ofNat n) from (own_shr1 (by omega))] at pre3
  rw [show ((Int32.ofNat n) - (1 : Int32)) = (own_dn n) from (own_dns n)] at pre3
  obtain ⟨_, _, ⟨T4, L4, k4, n4⟩, -, X4, ⟨Lc4, hQ4, l4, y4, z4⟩, st4⟩ := Jvm.LawKit.callS X0 hx (y := (⟨"java/lang/Math", "min", "(II)I"⟩ : MethodName)) hown (mvT hZ (hw _ (List.mem_of_getElem? (i := 150) rfl))) (mvT hZ (hw _ (List.mem_of_getElem? (i := 69) rfl))) (mvT hZ (hw _ (List.mem_of_getElem? (i := 70) rfl))) (mvT hZ (hw _ (List.mem_of_getElem? (i := 71) rfl))) (by decide) (backOf (W := 0) (rm14e l Z a0 hw [] (own_dn n) h0 n0 Z0) hZ (hw _ (List.mem_of_getElem? (i := 71) rfl)) (hw _ (List.mem_of_getElem? (i := 70) rfl)) (Nat.le_of_ble_eq_true rfl) (Nat.le_of_ble_eq_true rfl)) (g := (mkF m 13 #[.val (.ref tb), .val (.int (47 : Int32)), .val (.int (own_dn n)), .unset] [(.int (own_dn n)), (.int (own_dn n))])) rfl (by rw [hml]; rfl) (argsL := [(.int (own_dn n)), (.int (own_dn n))]) (rest := []) (lenOf pd_11 rfl) rfl (by show 2 * 0 + _ ≤ _; exact Nat.le_of_eq rfl) (hb hby d33_13) (fun _ _ => ⟨rfl, e0, (by decide : 0 + 0 ≤ _), (by decide : 0 + 0 ≤ _)⟩)
  dsimp only [Pt.U, Pt.locs, Pt.cells, Pt.slots] at X4 l4 y4 z4 st4 hQ4
  subst l4 y4 z4
  obtain ⟨rfl, Nq4, hh4⟩ := hQ4
  have O0_4 : Old Z n0 T4.heap := by rw [hh4]; exact O0
  have Va_4 : Arv Z T4.heap tb kb .byte (Int32.ofNat (2 * n)) (own_tab (own_u16 f) (2 * n)) (.int (0 : Int32)) := by rw [hh4]; exact Va
  have Z4 : n0 ≤ T4.heap.size := by rw [hh4]; exact Z0
  have N4 := Fr.app N0 Nq4
  have pre5 := fun τ (κ : Steps p.tables e below (T4.setTop (mkF m 16 #[.val (.ref tb), .val (.int (47 : Int32)), .val (.int (own_dn n)), .unset] [(.int (own_dn n))])) τ) => pre3 τ (st4 _ κ)
  have pre6 := fun τ (κ : Steps p.tables e below (T4.setTop (mkF m 17 #[.val (.ref tb), .val (.int (47 : Int32)), .val (.int (own_dn n)), .val (.int (own_dn n))] [])) τ) => pre5 τ (by
    refine XS.istoreN X4.here hx rfl (hb hby d33_16) rfl (l' := #[.val (.ref tb), .val (.int (47 : Int32)), .val (.int (own_dn n)), .val (.int (own_dn n))]) rfl ?_
    show Steps p.tables e below (T4.setTop (mkF m 17 #[.val (.ref tb), .val (.int (47 : Int32)), .val (.int (own_dn n)), .val (.int (own_dn n))] [])) _
    exact κ)
  obtain ⟨T9, lo9, k9, pc9, L9, X9, e9, N9, hli, d9, st9⟩ := loopU hx hZ hw hby hml hown tb _ kb n f zc fm Z4 O0_4 U0 Va_4 hn hf (Nat.le_of_ble_eq_true rfl) (Nat.le_of_ble_eq_true rfl) (Nat.le_of_ble_eq_true rfl) (Nat.le_of_ble_eq_true rfl) n _ _ (Nat.le_refl _) (fun j h1 h2 => absurd h2 (by omega)) X4 rfl N4
  have pre99 := fun τ (κ : Steps p.tables e below (T9.setTop (mkF m pc9 L9 [.int (own_dn k9)])) τ) => pre6 τ (st9 τ κ)
  obtain ⟨fs, hr, hrun, hended, hW, hsame⟩ := X9.leave (v := some (.int (own_dn k9))) (fun h => by rw [Bd.returns] at h; cases h)
  refine ⟨_, _, pre99 _ ?_, hrun, hended, _, _, rfl, ?_, ⟨_, rfl⟩, hW, hsame.mono (by decide) (by decide)⟩
  · exact retI X9 hx Bd.returns d9 hr
  · show Q33 Z tb n kb f zc fm h0 n0 _ T9.heap _
    rw [e9]
    exact ⟨k9, rfl, N9, hh4, hli⟩
theorem ef_10 (m : MethodId) (sa : Addr) (n : Nat) (zc : Int32) (fm : Value) : entryFrame m #[(.ref sa), (.int (47 : Int32)), (.int (own_dn n))] 3 = mkF m 0 #[.val (.ref sa), .val (.int (47 : Int32)), .val (.int (own_dn n))] [] := by first | (simp [entryFrame, mkF, argsToLocals, Value.category]; done) | rfl
def Q10 (Z : State) (sa : Addr) (n : Nat) (f : Nat → Int32) (zc : Int32) (fm : Value) (h0 : Heap) (n0 : Nat) (v : Option Value) (h : Heap) (L : List Loc) : Prop := ∃ k9 : Nat, v = some (.int (own_dn k9)) ∧ Fr n0 L ∧ h = h0 ∧ own_LI f n k9
set_option maxRecDepth 65536 in
set_option maxHeartbeats 40000000 in
theorem rm10 (l : Launch) (Z : State) (a0 : Array Value) (hw : ∀ d ∈ tables_1, d.before a0 Z = true) (ws : List Jvm.Cond) (sa : Addr) (n : Nat) (f : Nat → Int32) (zc : Int32) (fm : Value) (h0 : Heap) (n0 : Nat) (Z0 : n0 ≤ h0.size) (O0 : Old Z n0 h0) (U0 : own_ST Z zc fm) (P0 : own_STR Z h0 sa f n) (hn : n ≤ 16) (hf : ∀ j, j < n → own_ch (f j)) :
    MetFree l (⟨"java/lang/String", "lastIndexOf", "(II)I"⟩ : MethodName) (head1 (Jvm.Cond.code (⟨"java/lang/String", "lastIndexOf", "(II)I"⟩ : MethodName) jdk_42_method_83_code 3 (some .int) :: ws) ({ frames := 2, cells := 0, slots := 0, locals := 28 } : Room)) (fun α υ => α = #[(.ref sa), (.int (47 : Int32)), (.int (own_dn n))] ∧ Z.Warmed39 υ.vm ∧ υ.heap = h0) (fun _ _ _ _ _ => True) (fun _ υ ω υ' => ∃ v L, ω = .returned v ∧ Q10 Z sa n f zc fm h0 n0 v υ'.heap L ∧ FrameEnd υ ω υ' L ({ frames := 2, cells := 0, slots := 0, locals := 28 } : Room).cells ({ frames := 2, cells := 0, slots := 0, locals := 28 } : Room).slots) := by
  refine MetFree.of_bodySF (plainFor_of_name pn_java_lang_String) hisR ?_
  intro p e s m args below meth c s₁ Bd hml0 hP hK
  obtain ⟨rfl, hZ, hh⟩ := hP
  have hx := Bd.exec
  have hby := Bd.bytes
  have hml : c.maxLocals = 3 := hml0
  have hown : s.vm.findClass "java/lang/String" = some m.cls := findClass_of_methodNamed Bd.named
  have hnm := (name_of_methodNamed Bd.named Bd.method).1
  have X0 : Stand p l e ({ frames := 2, cells := 0, slots := 0, locals := 28 } : Room) s m #[(.ref sa), (.int (47 : Int32)), (.int (own_dn n))] below meth c s₁ [] 0 0 := Stand.of_body Bd
  have e0 : s₁.heap = h0 := by rw [← hh, Bd.state]; rfl
  have N0 := Fr.nil n0
  have pre0 : ∀ τ, Steps p.tables e below (s₁.setTop (mkF m 0 #[.val (.ref sa), .val (.int (47 : Int32)), .val (.int (own_dn n))] [])) τ → Steps p.tables e below (s₁.setTop (entryFrame m #[(.ref sa), (.int (47 : Int32)), (.int (own_dn n))] 3)) τ := fun τ κ => castTop (ef_10 m sa n zc fm) κ
  obtain ⟨tb, cd, E_s, Fv, Fc, kb, ⟨rfl, h2, Va⟩ | ⟨rfl, h2, Va⟩⟩ := id P0
  · have pre1 := fun τ (κ : Steps p.tables e below (s₁.setTop (mkF m 1 #[.val (.ref sa), .val (.int (47 : Int32)), .val (.int (own_dn n))] [(.ref sa)])) τ) => pre0 τ (by
      refine XS.aloadN X0.here hx rfl (hb hby d10_0) rfl rfl ?_
      show Steps p.tables e below (s₁.setTop (mkF m 1 #[.val (.ref sa), .val (.int (47 : Int32)), .val (.int (own_dn n))] [(.ref sa)])) _
      exact κ)
    obtain ⟨cq2, kq2, q2a, q2b, q2c⟩ := isOf hZ e0 E_s
    obtain ⟨_, _, ⟨T2, L2, k2, n2⟩, -, X2, ⟨Lc2, hQ2, l2, y2, z2⟩, st2⟩ := X0.virtualBack hx (y := (⟨"java/lang/String", "isLatin1", "()Z"⟩ : MethodName)) (z := (⟨"java/lang/String", "isLatin1", "()Z"⟩ : MethodName)) hown (mvT hZ (hw _ (List.mem_of_getElem? (i := 56) rfl))) (mvT hZ (hw _ (List.mem_of_getElem? (i := 57) rfl))) (notFace_of_selects (args := #[]) (mvT hZ (hw _ (List.mem_of_getElem? (i := 59) rfl)))) (mvT hZ (hw _ (List.mem_of_getElem? (i := 59) rfl))) (mvT hZ (hw _ (List.mem_of_getElem? (i := 58) rfl))) (by decide) (backOf (W := 0) (rm11 l Z a0 hw [] sa (0 : Int32) zc fm h0 n0 Z0 O0 U0 Fc) hZ (hw _ (List.mem_of_getElem? (i := 60) rfl)) (hw _ (List.mem_of_getElem? (i := 11) rfl)) (Nat.le_of_ble_eq_true rfl) (Nat.le_of_ble_eq_true rfl)) q2a q2c (g := (mkF m 1 #[.val (.ref sa), .val (.int (47 : Int32)), .val (.int (own_dn n))] [(.ref sa)])) rfl (by rw [hml]; rfl) (Steps.refl _) (argsL := []) (rest := []) (lenOf pd_12 rfl) rfl (by show 2 * 0 + _ ≤ _; exact Nat.le_of_eq rfl) (hb hby d10_1) (fun _ _ => ⟨rfl, e0, (by decide : 0 + 0 ≤ _), (by decide : 0 + 0 ≤ _)⟩)
    dsimp only [Pt.U, Pt.locs, Pt.cells, Pt.slots] at X2 l2 y2 z2 st2 hQ2
    subst l2 y2 z2
    obtain ⟨rfl, Nq2, hh2⟩ := hQ2
    have O0_2 : Old Z n0 T2.heap := by rw [hh2]; exact O0
    have E_s_2 : Exa Z T2.heap sa "java/lang/String" := by rw [hh2]; exact E_s
    have Fv_2 : Fld Z T2.heap sa "java/lang/String" "value" "[B" (.ref tb) := by rw [hh2]; exact Fv
    have Fc_2 : Fld Z T2.heap sa "java/lang/String" "coder" "B" (.int (0 : Int32)) := by rw [hh2]; exact Fc
    have P0_2 : own_STR Z T2.heap sa f n := by rw [hh2]; exact P0
    have Va_2 : Arv Z T2.heap tb kb .byte (Int32.ofNat n) (own_tab (own_l1 f) (n)) (.int (0 : Int32)) := by rw [hh2]; exact Va
    have Z2 : n0 ≤ T2.heap.size := by rw [hh2]; exact Z0
    have N2 := Fr.app N0 Nq2
    have pre3 := fun τ (κ : Steps p.tables e below (T2.setTop (mkF m 4 #[.val (.ref sa), .val (.int (47 : Int32)), .val (.int (own_dn n))] [(.int (if (0 : Int32) = 0 then 1 else 0))])) τ) => pre1 τ (st2.trans κ)
    have pre4 := fun τ (κ : Steps p.tables e below (T2.setTop (mkF m 8 #[.val (.ref sa), .val (.int (47 : Int32)), .val (.int (own_dn n))] [(.ref sa)])) τ) => pre3 τ (by
      refine XS.ifNo X2.here hx rfl (hb hby d10_4) rfl ((if0 _ _).trans (feq (by decide)).1) ?_
      show Steps p.tables e below (T2.setTop (mkF m 7 #[.val (.ref sa), .val (.int (47 : Int32)), .val (.int (own_dn n))] [])) _
      refine XS.aloadN X2.here hx rfl (hb hby d10_7) rfl rfl ?_
      show Steps p.tables e below (T2.setTop (mkF m 8 #[.val (.ref sa), .val (.int (47 : Int32)), .val (.int (own_dn n))] [(.ref sa)])) _
      exact κ)
    obtain ⟨T5, X5, e5, st5⟩ := getF X2 hx hZ hown (host := "") (Or.inl (hw _ (List.mem_of_getElem? (i := 29) rfl))) Via.refl rfl Fv_2 (g := (mkF m 8 #[.val (.ref sa), .val (.int (47 : Int32)), .val (.int (own_dn n))] [(.ref sa)])) rfl rfl (hb hby d10_8)
    have pre6 := fun τ (κ : Steps p.tables e below (T5.setTop (mkF m 11 #[.val (.ref sa), .val (.int (47 : Int32)), .val (.int (own_dn n))] [(.ref tb)])) τ) => pre4 τ (st5 _ κ)
    have pre7 := fun τ (κ : Steps p.tables e below (T5.setTop (mkF m 13 #[.val (.ref sa), .val (.int (47 : Int32)), .val (.int (own_dn n))] [(.int (own_dn n)), (.int (47 : Int32)), (.ref tb)])) τ) => pre6 τ (by
      refine XS.iloadN X5.here hx rfl (hb hby d10_11) rfl ?_
      refine XS.iloadN X5.here hx rfl (hb hby d10_12) rfl ?_
      show Steps p.tables e below (T5.setTop (mkF m 13 #[.val (.ref sa), .val (.int (47 : Int32)), .val (.int (own_dn n))] [(.int (own_dn n)), (.int (47 : Int32)), (.ref tb)])) _
      exact κ)
    obtain ⟨_, _, ⟨T8, L8, k8, n8⟩, -, X8, ⟨Lc8, hQ8, l8, y8, z8⟩, st8⟩ := Jvm.LawKit.callS X5 hx (y := (⟨"java/lang/StringLatin1", "lastIndexOf", "([BII)I"⟩ : MethodName)) hown (mvT hZ (hw _ (List.mem_of_getElem? (i := 61) rfl))) (mvT hZ (hw _ (List.mem_of_getElem? (i := 62) rfl))) (mvT hZ (hw _ (List.mem_of_getElem? (i := 63) rfl))) (mvT hZ (hw _ (List.mem_of_getElem? (i := 64) rfl))) (by decide) (backOf (W := 0) (rm12 l Z a0 hw [] tb n kb f zc fm T2.heap n0 Z2 O0_2 U0 Va_2 hn hf h2) hZ (hw _ (List.mem_of_getElem? (i := 64) rfl)) (hw _ (List.mem_of_getElem? (i := 63) rfl)) (Nat.le_of_ble_eq_true rfl) (Nat.le_of_ble_eq_true rfl)) (g := (mkF m 13 #[.val (.ref sa), .val (.int (47 : Int32)), .val (.int (own_dn n))] [(.int (own_dn n)), (.int (47 : Int32)), (.ref tb)])) rfl (by rw [hml]; rfl) (argsL := [(.ref tb), (.int (47 : Int32)), (.int (own_dn n))]) (rest := []) (lenOf pd_13 rfl) rfl (by show 2 * 0 + _ ≤ _; exact Nat.le_of_eq rfl) (hb hby d10_13) (fun _ _ => ⟨rfl, e5, (by decide : 0 + 0 ≤ _), (by decide : 0 + 0 ≤ _)⟩)
    dsimp only [Pt.U, Pt.locs, Pt.cells, Pt.slots] at X8 l8 y8 z8 st8 hQ8
    subst l8 y8 z8
    obtain ⟨k9, rfl, Nq8, hh8, hli⟩ := hQ8
    have O0_8 : Old Z n0 T8.heap := by rw [hh8]; exact O0_2
    have E_s_8 : Exa Z T8.heap sa "java/lang/String" := by rw [hh8]; exact E_s_2
    have Fv_8 : Fld Z T8.heap sa "java/lang/String" "value" "[B" (.ref tb) := by rw [hh8]; exact Fv_2
    have Fc_8 : Fld Z T8.heap sa "java/lang/String" "coder" "B" (.int (0 : Int32)) := by rw [hh8]; exact Fc_2
    have P0_8 : own_STR Z T8.heap sa f n := by rw [hh8]; exact P0_2
    have Va_8 : Arv Z T8.heap tb kb .byte (Int32.ofNat n) (own_tab (own_l1 f) (n)) (.int (0 : Int32)) := by rw [hh8]; exact Va_2
    have Z8 : n0 ≤ T8.heap.size := by rw [hh8]; exact Z2
    have N8 := Fr.app N2 Nq8
    have pre9 := fun τ (κ : Steps p.tables e below (T8.setTop (mkF m 16 #[.val (.ref sa), .val (.int (47 : Int32)), .val (.int (own_dn n))] [(.int (own_dn k9))])) τ) => pre7 τ (st8 _ κ)
    have pre10 := fun τ (κ : Steps p.tables e below (T8.setTop (mkF m 28 #[.val (.ref sa), .val (.int (47 : Int32)), .val (.int (own_dn n))] [(.int (own_dn k9))])) τ) => pre9 τ (by
      refine XS.goto X8.here hx rfl (pc0 := 16) (pc' := 28) rfl (hb hby d10_16) (by decide) (by decide) ?_
      show Steps p.tables e below (T8.setTop (mkF m 28 #[.val (.ref sa), .val (.int (47 : Int32)), .val (.int (own_dn n))] [(.int (own_dn k9))])) _
      exact κ)
    obtain ⟨fs, hr, hrun, hended, hW, hsame⟩ := X8.leave (v := some (.int (own_dn k9))) (fun h => by rw [Bd.returns] at h; cases h)
    refine ⟨_, _, pre10 _ ?_, hrun, hended, _, _, rfl, ?_, ⟨_, rfl⟩, hW, hsame.mono (by decide) (by decide)⟩
    · exact retI X8 hx Bd.returns (hb hby d10_28) hr
    · show Q10 Z sa n f zc fm h0 n0 _ T8.heap _
      exact ⟨k9, rfl, N8, (hh8.trans hh2), hli⟩
  · have pre11 := fun τ (κ : Steps p.tables e below (s₁.setTop (mkF m 1 #[.val (.ref sa), .val (.int (47 : Int32)), .val (.int (own_dn n))] [(.ref sa)])) τ) => pre0 τ (by
      refine XS.aloadN X0.here hx rfl (hb hby d10_0) rfl rfl ?_
      show Steps p.tables e below (s₁.setTop (mkF m 1 #[.val (.ref sa), .val (.int (47 : Int32)), .val (.int (own_dn n))] [(.ref sa)])) _
      exact κ)
    obtain ⟨cq12, kq12, q12a, q12b, q12c⟩ := isOf hZ e0 E_s
    obtain ⟨_, _, ⟨T12, L12, k12, n12⟩, -, X12, ⟨Lc12, hQ12, l12, y12, z12⟩, st12⟩ := X0.virtualBack hx (y := (⟨"java/lang/String", "isLatin1", "()Z"⟩ : MethodName)) (z := (⟨"java/lang/String", "isLatin1", "()Z"⟩ : MethodName)) hown (mvT hZ (hw _ (List.mem_of_getElem? (i := 56) rfl))) (mvT hZ (hw _ (List.mem_of_getElem? (i := 57) rfl))) (notFace_of_selects (args := #[]) (mvT hZ (hw _ (List.mem_of_getElem? (i := 59) rfl)))) (mvT hZ (hw _ (List.mem_of_getElem? (i := 59) rfl))) (mvT hZ (hw _ (List.mem_of_getElem? (i := 58) rfl))) (by decide) (backOf (W := 0) (rm11 l Z a0 hw [] sa (1 : Int32) zc fm h0 n0 Z0 O0 U0 Fc) hZ (hw _ (List.mem_of_getElem? (i := 60) rfl)) (hw _ (List.mem_of_getElem? (i := 11) rfl)) (Nat.le_of_ble_eq_true rfl) (Nat.le_of_ble_eq_true rfl)) q12a q12c (g := (mkF m 1 #[.val (.ref sa), .val (.int (47 : Int32)), .val (.int (own_dn n))] [(.ref sa)])) rfl (by rw [hml]; rfl) (Steps.refl _) (argsL := []) (rest := []) (lenOf pd_12 rfl) rfl (by show 2 * 0 + _ ≤ _; exact Nat.le_of_eq rfl) (hb hby d10_1) (fun _ _ => ⟨rfl, e0, (by decide : 0 + 0 ≤ _), (by decide : 0 + 0 ≤ _)⟩)
    dsimp only [Pt.U, Pt.locs, Pt.cells, Pt.slots] at X12 l12 y12 z12 st12 hQ12
    subst l12 y12 z12
    obtain ⟨rfl, Nq12, hh12⟩ := hQ12
    have O0_12 : Old Z n0 T12.heap := by rw [hh12]; exact O0
    have E_s_12 : Exa Z T12.heap sa "java/lang/String" := by rw [hh12]; exact E_s
    have Fv_12 : Fld Z T12.heap sa "java/lang/String" "value" "[B" (.ref tb) := by rw [hh12]; exact Fv
    have Fc_12 : Fld Z T12.heap sa "java/lang/String" "coder" "B" (.int (1 : Int32)) := by rw [hh12]; exact Fc
    have P0_12 : own_STR Z T12.heap sa f n := by rw [hh12]; exact P0
    have Va_12 : Arv Z T12.heap tb kb .byte (Int32.ofNat (2 * n)) (own_tab (own_u16 f) (2 * n)) (.int (0 : Int32)) := by rw [hh12]; exact Va
    have Z12 : n0 ≤ T12.heap.size := by rw [hh12]; exact Z0
    have N12 := Fr.app N0 Nq12
    have pre13 := fun τ (κ : Steps p.tables e below (T12.setTop (mkF m 4 #[.val (.ref sa), .val (.int (47 : Int32)), .val (.int (own_dn n))] [(.int (if (1 : Int32) = 0 then 1 else 0))])) τ) => pre11 τ (st12.trans κ)
    have pre14 := fun τ (κ : Steps p.tables e below (T12.setTop (mkF m 20 #[.val (.ref sa), .val (.int (47 : Int32)), .val (.int (own_dn n))] [(.ref sa)])) τ) => pre13 τ (by
      refine XS.ifYes X12.here hx rfl (pc0 := 4) (pc' := 19) rfl (hb hby d10_4) rfl ((if0 _ _).trans (teq (by decide)).1) (by decide) (by decide) ?_
      show Steps p.tables e below (T12.setTop (mkF m 19 #[.val (.ref sa), .val (.int (47 : Int32)), .val (.int (own_dn n))] [])) _
      refine XS.aloadN X12.here hx rfl (hb hby d10_19) rfl rfl ?_
      show Steps p.tables e below (T12.setTop (mkF m 20 #[.val (.ref sa), .val (.int (47 : Int32)), .val (.int (own_dn n))] [(.ref sa)])) _
      exact κ)
    obtain ⟨T15, X15, e15, st15⟩ := getF X12 hx hZ hown (host := "") (Or.inl (hw _ (List.mem_of_getElem? (i := 29) rfl))) Via.refl rfl Fv_12 (g := (mkF m 20 #[.val (.ref sa), .val (.int (47 : Int32)), .val (.int (own_dn n))] [(.ref sa)])) rfl rfl (hb hby d10_20)
    have pre16 := fun τ (κ : Steps p.tables e below (T15.setTop (mkF m 23 #[.val (.ref sa), .val (.int (47 : Int32)), .val (.int (own_dn n))] [(.ref tb)])) τ) => pre14 τ (st15 _ κ)
    have pre17 := fun τ (κ : Steps p.tables e below (T15.setTop (mkF m 25 #[.val (.ref sa), .val (.int (47 : Int32)), .val (.int (own_dn n))] [(.int (own_dn n)), (.int (47 : Int32)), (.ref tb)])) τ) => pre16 τ (by
      refine XS.iloadN X15.here hx rfl (hb hby d10_23) rfl ?_
      refine XS.iloadN X15.here hx rfl (hb hby d10_24) rfl ?_
      show Steps p.tables e below (T15.setTop (mkF m 25 #[.val (.ref sa), .val (.int (47 : Int32)), .val (.int (own_dn n))] [(.int (own_dn n)), (.int (47 : Int32)), (.ref tb)])) _
      exact κ)
    obtain ⟨_, _, ⟨T18, L18, k18, n18⟩, -, X18, ⟨Lc18, hQ18, l18, y18, z18⟩, st18⟩ := Jvm.LawKit.callS X15 hx (y := (⟨"java/lang/StringUTF16", "lastIndexOf", "([BII)I"⟩ : MethodName)) hown (mvT hZ (hw _ (List.mem_of_getElem? (i := 146) rfl))) (mvT hZ (hw _ (List.mem_of_getElem? (i := 147) rfl))) (mvT hZ (hw _ (List.mem_of_getElem? (i := 96) rfl))) (mvT hZ (hw _ (List.mem_of_getElem? (i := 148) rfl))) (by decide) (backOf (W := 0) (rm33 l Z a0 hw [] tb n kb f zc fm T12.heap n0 Z12 O0_12 U0 Va_12 hn hf) hZ (hw _ (List.mem_of_getElem? (i := 148) rfl)) (hw _ (List.mem_of_getElem? (i := 96) rfl)) (Nat.le_of_ble_eq_true rfl) (Nat.le_of_ble_eq_true rfl)) (g := (mkF m 25 #[.val (.ref sa), .val (.int (47 : Int32)), .val (.int (own_dn n))] [(.int (own_dn n)), (.int (47 : Int32)), (.ref tb)])) rfl (by rw [hml]; rfl) (argsL := [(.ref tb), (.int (47 : Int32)), (.int (own_dn n))]) (rest := []) (lenOf pd_13 rfl) rfl (by show 2 * 0 + _ ≤ _; exact Nat.le_of_eq rfl) (hb hby d10_25) (fun _ _ => ⟨rfl, e15, (by decide : 0 + 0 ≤ _), (by decide : 0 + 0 ≤ _)⟩)
    dsimp only [Pt.U, Pt.locs, Pt.cells, Pt.slots] at X18 l18 y18 z18 st18 hQ18
    subst l18 y18 z18
    obtain ⟨k9, rfl, Nq18, hh18, hli⟩ := hQ18
    have O0_18 : Old Z n0 T18.heap := by rw [hh18]; exact O0_12
    have E_s_18 : Exa Z T18.heap sa "java/lang/String" := by rw [hh18]; exact E_s_12
    have Fv_18 : Fld Z T18.heap sa "java/lang/String" "value" "[B" (.ref tb) := by rw [hh18]; exact Fv_12
    have Fc_18 : Fld Z T18.heap sa "java/lang/String" "coder" "B" (.int (1 : Int32)) := by rw [hh18]; exact Fc_12
    have P0_18 : own_STR Z T18.heap sa f n := by rw [hh18]; exact P0_12
    have Va_18 : Arv Z T18.heap tb kb .byte (Int32.ofNat (2 * n)) (own_tab (own_u16 f) (2 * n)) (.int (0 : Int32)) := by rw [hh18]; exact Va_12
    have Z18 : n0 ≤ T18.heap.size := by rw [hh18]; exact Z12
    have N18 := Fr.app N12 Nq18
    have pre19 := fun τ (κ : Steps p.tables e below (T18.setTop (mkF m 28 #[.val (.ref sa), .val (.int (47 : Int32)), .val (.int (own_dn n))] [(.int (own_dn k9))])) τ) => pre17 τ (st18 _ κ)
    obtain ⟨fs, hr, hrun, hended, hW, hsame⟩ := X18.leave (v := some (.int (own_dn k9))) (fun h => by rw [Bd.returns] at h; cases h)
    refine ⟨_, _, pre19 _ ?_, hrun, hended, _, _, rfl, ?_, ⟨_, rfl⟩, hW, hsame.mono (by decide) (by decide)⟩
    · exact retI X18 hx Bd.returns (hb hby d10_28) hr
    · show Q10 Z sa n f zc fm h0 n0 _ T18.heap _
      exact ⟨k9, rfl, N18, (hh18.trans hh12), hli⟩
theorem ef_7 (m : MethodId) (sa : Addr) (n : Nat) (zc : Int32) (fm : Value) : entryFrame m #[(.ref sa), (.int (47 : Int32))] 2 = mkF m 0 #[.val (.ref sa), .val (.int (47 : Int32))] [] := by first | (simp [entryFrame, mkF, argsToLocals, Value.category]; done) | rfl
def Q7 (Z : State) (sa : Addr) (n : Nat) (f : Nat → Int32) (zc : Int32) (fm : Value) (h0 : Heap) (n0 : Nat) (v : Option Value) (h : Heap) (L : List Loc) : Prop := ∃ k9 : Nat, v = some (.int (own_dn k9)) ∧ Fr n0 L ∧ h = h0 ∧ own_LI f n k9
set_option maxRecDepth 65536 in
set_option maxHeartbeats 40000000 in
theorem rm7 (l : Launch) (Z : State) (a0 : Array Value) (hw : ∀ d ∈ tables_1, d.before a0 Z = true) (ws : List Jvm.Cond) (sa : Addr) (n : Nat) (f : Nat → Int32) (zc : Int32) (fm : Value) (h0 : Heap) (n0 : Nat) (Z0 : n0 ≤ h0.size) (O0 : Old Z n0 h0) (U0 : own_ST Z zc fm) (P0 : own_STR Z h0 sa f n) (hn : n ≤ 16) (hf : ∀ j, j < n → own_ch (f j)) :
    MetFree l (⟨"java/lang/String", "lastIndexOf", "(I)I"⟩ : MethodName) (head1 (Jvm.Cond.code (⟨"java/lang/String", "lastIndexOf", "(I)I"⟩ : MethodName) jdk_42_method_82_code 2 (some .int) :: ws) ({ frames := 3, cells := 0, slots := 0, locals := 42 } : Room)) (fun α υ => α = #[(.ref sa), (.int (47 : Int32))] ∧ Z.Warmed39 υ.vm ∧ υ.heap = h0) (fun _ _ _ _ _ => True) (fun _ υ ω υ' => ∃ v L, ω = .returned v ∧ Q7 Z sa n f zc fm h0 n0 v υ'.heap L ∧ FrameEnd υ ω υ' L ({ frames := 3, cells := 0, slots := 0, locals := 42 } : Room).cells ({ frames := 3, cells := 0, slots := 0, locals := 42 } : Room).slots) := by
  refine MetFree.of_bodySF (plainFor_of_name pn_java_lang_String) hisR ?_
  intro p e s m args below meth c s₁ Bd hml0 hP hK
  obtain ⟨rfl, hZ, hh⟩ := hP
  have hx := Bd.exec
  have hby := Bd.bytes
  have hml : c.maxLocals = 2 := hml0
  have hown : s.vm.findClass "java/lang/String" = some m.cls := findClass_of_methodNamed Bd.named
  have hnm := (name_of_methodNamed Bd.named Bd.method).1
  have X0 : Stand p l e ({ frames := 3, cells := 0, slots := 0, locals := 42 } : Room) s m #[(.ref sa), (.int (47 : Int32))] below meth c s₁ [] 0 0 := Stand.of_body Bd
  have e0 : s₁.heap = h0 := by rw [← hh, Bd.state]; rfl
  have N0 := Fr.nil n0
  have pre0 : ∀ τ, Steps p.tables e below (s₁.setTop (mkF m 0 #[.val (.ref sa), .val (.int (47 : Int32))] [])) τ → Steps p.tables e below (s₁.setTop (entryFrame m #[(.ref sa), (.int (47 : Int32))] 2)) τ := fun τ κ => castTop (ef_7 m sa n zc fm) κ
  have E_s := P0.exa
  have pre1 := fun τ (κ : Steps p.tables e below (s₁.setTop (mkF m 3 #[.val (.ref sa), .val (.int (47 : Int32))] [(.ref sa), (.int (47 : Int32)), (.ref sa)])) τ) => pre0 τ (by
    refine XS.aloadN X0.here hx rfl (hb hby d7_0) rfl rfl ?_
    refine XS.iloadN X0.here hx rfl (hb hby d7_1) rfl ?_
    refine XS.aloadN X0.here hx rfl (hb hby d7_2) rfl rfl ?_
    show Steps p.tables e below (s₁.setTop (mkF m 3 #[.val (.ref sa), .val (.int (47 : Int32))] [(.ref sa), (.int (47 : Int32)), (.ref sa)])) _
    exact κ)
  obtain ⟨cq2, kq2, q2a, q2b, q2c⟩ := isOf hZ e0 E_s
  obtain ⟨_, _, ⟨T2, L2, k2, n2⟩, -, X2, ⟨Lc2, hQ2, l2, y2, z2⟩, st2⟩ := X0.virtualBack hx (y := (⟨"java/lang/String", "length", "()I"⟩ : MethodName)) (z := (⟨"java/lang/String", "length", "()I"⟩ : MethodName)) hown (mvT hZ (hw _ (List.mem_of_getElem? (i := 40) rfl))) (mvT hZ (hw _ (List.mem_of_getElem? (i := 41) rfl))) (notFace_of_selects (args := #[]) (mvT hZ (hw _ (List.mem_of_getElem? (i := 43) rfl)))) (mvT hZ (hw _ (List.mem_of_getElem? (i := 43) rfl))) (mvT hZ (hw _ (List.mem_of_getElem? (i := 42) rfl))) (by decide) (backOf (W := 2) (rm8 l Z a0 hw [] sa n f zc fm h0 n0 Z0 O0 U0 P0 hn) hZ (hw _ (List.mem_of_getElem? (i := 44) rfl)) (hw _ (List.mem_of_getElem? (i := 11) rfl)) (Nat.le_of_ble_eq_true rfl) (Nat.le_of_ble_eq_true rfl)) q2a q2c (g := (mkF m 3 #[.val (.ref sa), .val (.int (47 : Int32))] [(.ref sa), (.int (47 : Int32)), (.ref sa)])) rfl (by rw [hml]; rfl) (Steps.refl _) (argsL := []) (rest := [(.int (47 : Int32)), (.ref sa)]) (lenOf pd_14 rfl) rfl (by show 2 * 0 + _ ≤ _; exact Nat.le_of_eq rfl) (hb hby d7_3) (fun _ _ => ⟨rfl, e0, (by decide : 0 + 0 ≤ _), (by decide : 0 + 0 ≤ _)⟩)
  dsimp only [Pt.U, Pt.locs, Pt.cells, Pt.slots] at X2 l2 y2 z2 st2 hQ2
  subst l2 y2 z2
  obtain ⟨rfl, Nq2, hh2⟩ := hQ2
  have O0_2 : Old Z n0 T2.heap := by rw [hh2]; exact O0
  have P0_2 : own_STR Z T2.heap sa f n := by rw [hh2]; exact P0
  have E_s_2 : Exa Z T2.heap sa "java/lang/String" := by rw [hh2]; exact E_s
  have Z2 : n0 ≤ T2.heap.size := by rw [hh2]; exact Z0
  have N2 := Fr.app N0 Nq2
  have pre3 := fun τ (κ : Steps p.tables e below (T2.setTop (mkF m 6 #[.val (.ref sa), .val (.int (47 : Int32))] [(.int (Int32.ofNat n)), (.int (47 : Int32)), (.ref sa)])) τ) => pre1 τ (st2.trans κ)
  have pre4 := fun τ (κ : Steps p.tables e below (T2.setTop (mkF m 8 #[.val (.ref sa), .val (.int (47 : Int32))] [(.int ((Int32.ofNat n) - (1 : Int32))), (.int (47 : Int32)), (.ref sa)])) τ) => pre3 τ (by
    refine XS.iconst X2.here hx rfl (hb hby d7_6) ?_
    refine XS.isub X2.here hx rfl (hb hby d7_7) rfl ?_
    show Steps p.tables e below (T2.setTop (mkF m 8 #[.val (.ref sa), .val (.int (47 : Int32))] [(.int ((Int32.ofNat n) - (1 : Int32))), (.int (47 : Int32)), (.ref sa)])) _
    exact κ)
  rw [show ((Int32.ofNat n) - (1 : Int32)) = (own_dn n) from (own_dns n)] at pre4
  obtain ⟨cq5, kq5, q5a, q5b, q5c⟩ := isOf hZ rfl E_s_2
  obtain ⟨_, _, ⟨T5, L5, k5, n5⟩, -, X5, ⟨Lc5, hQ5, l5, y5, z5⟩, st5⟩ := X2.virtualBack hx (y := (⟨"java/lang/String", "lastIndexOf", "(II)I"⟩ : MethodName)) (z := (⟨"java/lang/String", "lastIndexOf", "(II)I"⟩ : MethodName)) hown (mvT hZ (hw _ (List.mem_of_getElem? (i := 51) rfl))) (mvT hZ (hw _ (List.mem_of_getElem? (i := 52) rfl))) (notFace_of_selects (args := #[]) (mvT hZ (hw _ (List.mem_of_getElem? (i := 54) rfl)))) (mvT hZ (hw _ (List.mem_of_getElem? (i := 54) rfl))) (mvT hZ (hw _ (List.mem_of_getElem? (i := 53) rfl))) (by decide) (backOf (W := 0) (rm10 l Z a0 hw [] sa n f zc fm T2.heap n0 Z2 O0_2 U0 P0_2 hn hf) hZ (hw _ (List.mem_of_getElem? (i := 55) rfl)) (hw _ (List.mem_of_getElem? (i := 11) rfl)) (Nat.le_of_ble_eq_true rfl) (Nat.le_of_ble_eq_true rfl)) q5a q5c (g := (mkF m 8 #[.val (.ref sa), .val (.int (47 : Int32))] [(.int (own_dn n)), (.int (47 : Int32)), (.ref sa)])) rfl (by rw [hml]; rfl) (Steps.refl _) (argsL := [(.int (47 : Int32)), (.int (own_dn n))]) (rest := []) (lenOf pd_11 rfl) rfl (by show 2 * 0 + _ ≤ _; exact Nat.le_of_eq rfl) (hb hby d7_8) (fun _ _ => ⟨rfl, rfl, (by decide : 0 + 0 ≤ _), (by decide : 0 + 0 ≤ _)⟩)
  dsimp only [Pt.U, Pt.locs, Pt.cells, Pt.slots] at X5 l5 y5 z5 st5 hQ5
  subst l5 y5 z5
  obtain ⟨k9, rfl, Nq5, hh5, hli⟩ := hQ5
  have O0_5 : Old Z n0 T5.heap := by rw [hh5]; exact O0_2
  have P0_5 : own_STR Z T5.heap sa f n := by rw [hh5]; exact P0_2
  have E_s_5 : Exa Z T5.heap sa "java/lang/String" := by rw [hh5]; exact E_s_2
  have Z5 : n0 ≤ T5.heap.size := by rw [hh5]; exact Z2
  have N5 := Fr.app N2 Nq5
  have pre6 := fun τ (κ : Steps p.tables e below (T5.setTop (mkF m 11 #[.val (.ref sa), .val (.int (47 : Int32))] [(.int (own_dn k9))])) τ) => pre4 τ (st5.trans κ)
  obtain ⟨fs, hr, hrun, hended, hW, hsame⟩ := X5.leave (v := some (.int (own_dn k9))) (fun h => by rw [Bd.returns] at h; cases h)
  refine ⟨_, _, pre6 _ ?_, hrun, hended, _, _, rfl, ?_, ⟨_, rfl⟩, hW, hsame.mono (by decide) (by decide)⟩
  · exact retI X5 hx Bd.returns (hb hby d7_11) hr
  · show Q7 Z sa n f zc fm h0 n0 _ T5.heap _
    exact ⟨k9, rfl, N5, (hh5.trans hh2), hli⟩
theorem ef_17 (m : MethodId) (k : Nat) (n : Nat) (fm : Value) (r_fm : fm.isRef = true) : entryFrame m #[(.int (0 : Int32)), (.int (Int32.ofNat k)), (.int (Int32.ofNat n)), fm] 4 = mkF m 0 #[.val (.int (0 : Int32)), .val (.int (Int32.ofNat k)), .val (.int (Int32.ofNat n)), .val fm] [] := by rcases ref_cases r_fm with rfl | ⟨a, rfl⟩ <;> rfl
def Q17 (Z : State) (k : Nat) (n : Nat) (fm : Value) (h0 : Heap) (n0 : Nat) (v : Option Value) (h : Heap) (L : List Loc) : Prop := v = some (.int (0 : Int32)) ∧ Fr n0 L ∧ h = h0
set_option maxRecDepth 65536 in
set_option maxHeartbeats 40000000 in
theorem rm17 (l : Launch) (Z : State) (a0 : Array Value) (hw : ∀ d ∈ tables_1, d.before a0 Z = true) (ws : List Jvm.Cond) (k : Nat) (n : Nat) (fm : Value) (h0 : Heap) (n0 : Nat) (Z0 : n0 ≤ h0.size) (r_fm : fm.isRef = true) (hk : k ≤ n) (hn : n ≤ 16) :
    MetFree l (⟨"jdk/internal/util/Preconditions", "checkFromToIndex", "(IIILjava/util/function/BiFunction;)I"⟩ : MethodName) (head1 (Jvm.Cond.code (⟨"jdk/internal/util/Preconditions", "checkFromToIndex", "(IIILjava/util/function/BiFunction;)I"⟩ : MethodName) jdk_41_method_12_code 4 (some .int) :: ws) ({ frames := 0, cells := 0, slots := 0, locals := 0 } : Room)) (fun α υ => α = #[(.int (0 : Int32)), (.int (Int32.ofNat k)), (.int (Int32.ofNat n)), fm] ∧ Z.Warmed39 υ.vm ∧ υ.heap = h0) (fun _ _ _ _ _ => True) (fun _ υ ω υ' => ∃ v L, ω = .returned v ∧ Q17 Z k n fm h0 n0 v υ'.heap L ∧ FrameEnd υ ω υ' L ({ frames := 0, cells := 0, slots := 0, locals := 0 } : Room).cells ({ frames := 0, cells := 0, slots := 0, locals := 0 } : Room).slots) := by
  refine MetFree.of_bodySF (plainFor_of_name pn_jdk_internal_util_Preconditions) hisR ?_
  intro p e s m args below meth c s₁ Bd hml0 hP hK
  obtain ⟨rfl, hZ, hh⟩ := hP
  have hx := Bd.exec
  have hby := Bd.bytes
  have hml : c.maxLocals = 4 := hml0
  have hown : s.vm.findClass "jdk/internal/util/Preconditions" = some m.cls := findClass_of_methodNamed Bd.named
  have hnm := (name_of_methodNamed Bd.named Bd.method).1
  have X0 : Stand p l e ({ frames := 0, cells := 0, slots := 0, locals := 0 } : Room) s m #[(.int (0 : Int32)), (.int (Int32.ofNat k)), (.int (Int32.ofNat n)), fm] below meth c s₁ [] 0 0 := Stand.of_body Bd
  have e0 : s₁.heap = h0 := by rw [← hh, Bd.state]; rfl
  have N0 := Fr.nil n0
  have pre0 : ∀ τ, Steps p.tables e below (s₁.setTop (mkF m 0 #[.val (.int (0 : Int32)), .val (.int (Int32.ofNat k)), .val (.int (Int32.ofNat n)), .val fm] [])) τ → Steps p.tables e below (s₁.setTop (entryFrame m #[(.int (0 : Int32)), (.int (Int32.ofNat k)), (.int (Int32.ofNat n)), fm] 4)) τ := fun τ κ => castTop (ef_17 m k n fm r_fm) κ
  have pre1 := fun τ (κ : Steps p.tables e below (s₁.setTop (mkF m 23 #[.val (.int (0 : Int32)), .val (.int (Int32.ofNat k)), .val (.int (Int32.ofNat n)), .val fm] [(.int (0 : Int32))])) τ) => pre0 τ (by
    refine XS.iloadN X0.here hx rfl (hb hby d17_0) rfl ?_
    refine XS.ifNo X0.here hx rfl (hb hby d17_1) rfl ((if0 _ _).trans (flt (by decide)).1) ?_
    show Steps p.tables e below (s₁.setTop (mkF m 4 #[.val (.int (0 : Int32)), .val (.int (Int32.ofNat k)), .val (.int (Int32.ofNat n)), .val fm] [])) _
    refine XS.iloadN X0.here hx rfl (hb hby d17_4) rfl ?_
    refine XS.iloadN X0.here hx rfl (hb hby d17_5) rfl ?_
    refine XS.icmpNo X0.here hx rfl (hb hby d17_6) rfl (flt (own_nn (by omega))).2.2.1 ?_
    show Steps p.tables e below (s₁.setTop (mkF m 9 #[.val (.int (0 : Int32)), .val (.int (Int32.ofNat k)), .val (.int (Int32.ofNat n)), .val fm] [])) _
    refine XS.iloadN X0.here hx rfl (hb hby d17_9) rfl ?_
    refine XS.iloadN X0.here hx rfl (hb hby d17_10) rfl ?_
    refine XS.icmpYes X0.here hx rfl (pc0 := 11) (pc' := 22) rfl (hb hby d17_11) rfl (flt (fun q => absurd ((own_ltN (by omega) (by omega)).mp q) (by omega))).2.2.2 (by decide) (by decide) ?_
    show Steps p.tables e below (s₁.setTop (mkF m 22 #[.val (.int (0 : Int32)), .val (.int (Int32.ofNat k)), .val (.int (Int32.ofNat n)), .val fm] [])) _
    refine XS.iloadN X0.here hx rfl (hb hby d17_22) rfl ?_
    show Steps p.tables e below (s₁.setTop (mkF m 23 #[.val (.int (0 : Int32)), .val (.int (Int32.ofNat k)), .val (.int (Int32.ofNat n)), .val fm] [(.int (0 : Int32))])) _
    exact κ)
  obtain ⟨fs, hr, hrun, hended, hW, hsame⟩ := X0.leave (v := some (.int (0 : Int32))) (fun h => by rw [Bd.returns] at h; cases h)
  refine ⟨_, _, pre1 _ ?_, hrun, hended, _, _, rfl, ?_, ⟨_, rfl⟩, hW, hsame.mono (by decide) (by decide)⟩
  · exact retI X0 hx Bd.returns (hb hby d17_23) hr
  · show Q17 Z k n fm h0 n0 _ s₁.heap _
    rw [e0]
    exact ⟨rfl, N0, rfl⟩
theorem ef_16 (m : MethodId) (k : Nat) (n : Nat) (zc : Int32) (fm : Value) : entryFrame m #[(.int (0 : Int32)), (.int (Int32.ofNat k)), (.int (Int32.ofNat n))] 3 = mkF m 0 #[.val (.int (0 : Int32)), .val (.int (Int32.ofNat k)), .val (.int (Int32.ofNat n))] [] := by first | (simp [entryFrame, mkF, argsToLocals, Value.category]; done) | rfl
def Q16 (Z : State) (k : Nat) (n : Nat) (zc : Int32) (fm : Value) (h0 : Heap) (n0 : Nat) (v : Option Value) (h : Heap) (L : List Loc) : Prop := v = none ∧ Fr n0 L ∧ h = h0
set_option maxRecDepth 65536 in
set_option maxHeartbeats 40000000 in
theorem rm16 (l : Launch) (Z : State) (a0 : Array Value) (hw : ∀ d ∈ tables_1, d.before a0 Z = true) (ws : List Jvm.Cond) (k : Nat) (n : Nat) (zc : Int32) (fm : Value) (h0 : Heap) (n0 : Nat) (Z0 : n0 ≤ h0.size) (O0 : Old Z n0 h0) (U0 : own_ST Z zc fm) (hk : k ≤ n) (hn : n ≤ 16) :
    MetFree l (⟨"java/lang/String", "checkBoundsBeginEnd", "(III)V"⟩ : MethodName) (head1 (Jvm.Cond.code (⟨"java/lang/String", "checkBoundsBeginEnd", "(III)V"⟩ : MethodName) jdk_42_method_158_code 3 none :: ws) ({ frames := 1, cells := 0, slots := 0, locals := 15 } : Room)) (fun α υ => α = #[(.int (0 : Int32)), (.int (Int32.ofNat k)), (.int (Int32.ofNat n))] ∧ Z.Warmed39 υ.vm ∧ υ.heap = h0) (fun _ _ _ _ _ => True) (fun _ υ ω υ' => ∃ v L, ω = .returned v ∧ Q16 Z k n zc fm h0 n0 v υ'.heap L ∧ FrameEnd υ ω υ' L ({ frames := 1, cells := 0, slots := 0, locals := 15 } : Room).cells ({ frames := 1, cells := 0, slots := 0, locals := 15 } : Room).slots) := by
  refine MetFree.of_bodySF (plainFor_of_name pn_java_lang_String) hisR ?_
  intro p e s m args below meth c s₁ Bd hml0 hP hK
  obtain ⟨rfl, hZ, hh⟩ := hP
  have hx := Bd.exec
  have hby := Bd.bytes
  have hml : c.maxLocals = 3 := hml0
  have hown : s.vm.findClass "java/lang/String" = some m.cls := findClass_of_methodNamed Bd.named
  have hnm := (name_of_methodNamed Bd.named Bd.method).1
  have X0 : Stand p l e ({ frames := 1, cells := 0, slots := 0, locals := 15 } : Room) s m #[(.int (0 : Int32)), (.int (Int32.ofNat k)), (.int (Int32.ofNat n))] below meth c s₁ [] 0 0 := Stand.of_body Bd
  have e0 : s₁.heap = h0 := by rw [← hh, Bd.state]; rfl
  have N0 := Fr.nil n0
  have pre0 : ∀ τ, Steps p.tables e below (s₁.setTop (mkF m 0 #[.val (.int (0 : Int32)), .val (.int (Int32.ofNat k)), .val (.int (Int32.ofNat n))] [])) τ → Steps p.tables e below (s₁.setTop (entryFrame m #[(.int (0 : Int32)), (.int (Int32.ofNat k)), (.int (Int32.ofNat n))] 3)) τ := fun τ κ => castTop (ef_16 m k n zc fm) κ
  obtain ⟨Scs, hcs, Sad, Shi, Slo, Sfm, r_fm⟩ := id U0
  have pre1 := fun τ (κ : Steps p.tables e below (s₁.setTop (mkF m 3 #[.val (.int (0 : Int32)), .val (.int (Int32.ofNat k)), .val (.int (Int32.ofNat n))] [(.int (Int32.ofNat n)), (.int (Int32.ofNat k)), (.int (0 : Int32))])) τ) => pre0 τ (by
    refine XS.iloadN X0.here hx rfl (hb hby d16_0) rfl ?_
    refine XS.iloadN X0.here hx rfl (hb hby d16_1) rfl ?_
    refine XS.iloadN X0.here hx rfl (hb hby d16_2) rfl ?_
    show Steps p.tables e below (s₁.setTop (mkF m 3 #[.val (.int (0 : Int32)), .val (.int (Int32.ofNat k)), .val (.int (Int32.ofNat n))] [(.int (Int32.ofNat n)), (.int (Int32.ofNat k)), (.int (0 : Int32))])) _
    exact κ)
  obtain ⟨T2, X2, e2, st2⟩ := getS2 X0 hx hZ hown (host := "") (Or.inl (hw _ (List.mem_of_getElem? (i := 80) rfl))) Via.refl e0 (Sfm.ext O0.2) (g := (mkF m 3 #[.val (.int (0 : Int32)), .val (.int (Int32.ofNat k)), .val (.int (Int32.ofNat n))] [(.int (Int32.ofNat n)), (.int (Int32.ofNat k)), (.int (0 : Int32))])) rfl (hb hby d16_3)
  have pre3 := fun τ (κ : Steps p.tables e below (T2.setTop (mkF m 6 #[.val (.int (0 : Int32)), .val (.int (Int32.ofNat k)), .val (.int (Int32.ofNat n))] [fm, (.int (Int32.ofNat n)), (.int (Int32.ofNat k)), (.int (0 : Int32))])) τ) => pre1 τ (st2 _ κ)
  obtain ⟨_, _, ⟨T4, L4, k4, n4⟩, -, X4, ⟨Lc4, hQ4, l4, y4, z4⟩, st4⟩ := Jvm.LawKit.callS X2 hx (y := (⟨"jdk/internal/util/Preconditions", "checkFromToIndex", "(IIILjava/util/function/BiFunction;)I"⟩ : MethodName)) hown (mvT hZ (hw _ (List.mem_of_getElem? (i := 82) rfl))) (mvT hZ (hw _ (List.mem_of_getElem? (i := 83) rfl))) (mvT hZ (hw _ (List.mem_of_getElem? (i := 81) rfl))) (mvT hZ (hw _ (List.mem_of_getElem? (i := 84) rfl))) (by decide) (backOf (W := 0) (rm17 l Z a0 hw [] k n fm h0 n0 Z0 r_fm hk hn) hZ (hw _ (List.mem_of_getElem? (i := 84) rfl)) (hw _ (List.mem_of_getElem? (i := 81) rfl)) (Nat.le_of_ble_eq_true rfl) (Nat.le_of_ble_eq_true rfl)) (g := (mkF m 6 #[.val (.int (0 : Int32)), .val (.int (Int32.ofNat k)), .val (.int (Int32.ofNat n))] [fm, (.int (Int32.ofNat n)), (.int (Int32.ofNat k)), (.int (0 : Int32))])) rfl (by rw [hml]; rfl) (argsL := [(.int (0 : Int32)), (.int (Int32.ofNat k)), (.int (Int32.ofNat n)), fm]) (rest := []) (lenOf pd_15 rfl) rfl (by show 2 * 0 + _ ≤ _; exact Nat.le_of_eq rfl) (hb hby d16_6) (fun _ _ => ⟨rfl, e2, (by decide : 0 + 0 ≤ _), (by decide : 0 + 0 ≤ _)⟩)
  dsimp only [Pt.U, Pt.locs, Pt.cells, Pt.slots] at X4 l4 y4 z4 st4 hQ4
  subst l4 y4 z4
  obtain ⟨rfl, Nq4, hh4⟩ := hQ4
  have O0_4 : Old Z n0 T4.heap := by rw [hh4]; exact O0
  have Z4 : n0 ≤ T4.heap.size := by rw [hh4]; exact Z0
  have N4 := Fr.app N0 Nq4
  have pre5 := fun τ (κ : Steps p.tables e below (T4.setTop (mkF m 9 #[.val (.int (0 : Int32)), .val (.int (Int32.ofNat k)), .val (.int (Int32.ofNat n))] [(.int (0 : Int32))])) τ) => pre3 τ (st4 _ κ)
  have pre6 := fun τ (κ : Steps p.tables e below (T4.setTop (mkF m 10 #[.val (.int (0 : Int32)), .val (.int (Int32.ofNat k)), .val (.int (Int32.ofNat n))] [])) τ) => pre5 τ (by
    refine XS.pop X4.here hx rfl (hb hby d16_9) rfl rfl ?_
    show Steps p.tables e below (T4.setTop (mkF m 10 #[.val (.int (0 : Int32)), .val (.int (Int32.ofNat k)), .val (.int (Int32.ofNat n))] [])) _
    exact κ)
  obtain ⟨fs, hr, hrun, hended, hW, hsame⟩ := X4.leave (v := none) (fun _ => rfl)
  refine ⟨_, _, pre6 _ ?_, hrun, hended, _, _, rfl, ?_, ⟨_, rfl⟩, hW, hsame.mono (by decide) (by decide)⟩
  · exact X4.returnOut hx Bd.returns (hb hby d16_10) hr
  · show Q16 Z k n zc fm h0 n0 _ T4.heap _
    exact ⟨rfl, N4, hh4⟩
theorem ef_40 (m : MethodId) (k : Nat) (n : Nat) (fm : Value) (r_fm : fm.isRef = true) : entryFrame m #[(.int (0 : Int32)), (.int (Int32.ofNat k)), (.int (Int32.ofNat n)), fm] 4 = mkF m 0 #[.val (.int (0 : Int32)), .val (.int (Int32.ofNat k)), .val (.int (Int32.ofNat n)), .val fm] [] := by rcases ref_cases r_fm with rfl | ⟨a, rfl⟩ <;> rfl
def Q40 (Z : State) (k : Nat) (n : Nat) (fm : Value) (h0 : Heap) (n0 : Nat) (v : Option Value) (h : Heap) (L : List Loc) : Prop := v = some (.int (0 : Int32)) ∧ Fr n0 L ∧ h = h0
set_option maxRecDepth 65536 in
set_option maxHeartbeats 40000000 in
theorem rm40 (l : Launch) (Z : State) (a0 : Array Value) (hw : ∀ d ∈ tables_1, d.before a0 Z = true) (ws : List Jvm.Cond) (k : Nat) (n : Nat) (fm : Value) (h0 : Heap) (n0 : Nat) (Z0 : n0 ≤ h0.size) (r_fm : fm.isRef = true) (hk : k ≤ n) (hn : n ≤ 16) :
    MetFree l (⟨"jdk/internal/util/Preconditions", "checkFromIndexSize", "(IIILjava/util/function/BiFunction;)I"⟩ : MethodName) (head1 (Jvm.Cond.code (⟨"jdk/internal/util/Preconditions", "checkFromIndexSize", "(IIILjava/util/function/BiFunction;)I"⟩ : MethodName) jdk_41_method_13_code 4 (some .int) :: ws) ({ frames := 0, cells := 0, slots := 0, locals := 0 } : Room)) (fun α υ => α = #[(.int (0 : Int32)), (.int (Int32.ofNat k)), (.int (Int32.ofNat n)), fm] ∧ Z.Warmed39 υ.vm ∧ υ.heap = h0) (fun _ _ _ _ _ => True) (fun _ υ ω υ' => ∃ v L, ω = .returned v ∧ Q40 Z k n fm h0 n0 v υ'.heap L ∧ FrameEnd υ ω υ' L ({ frames := 0, cells := 0, slots := 0, locals := 0 } : Room).cells ({ frames := 0, cells := 0, slots := 0, locals := 0 } : Room).slots) := by
  refine MetFree.of_bodySF (plainFor_of_name pn_jdk_internal_util_Preconditions) hisR ?_
  intro p e s m args below meth c s₁ Bd hml0 hP hK
  obtain ⟨rfl, hZ, hh⟩ := hP
  have hx := Bd.exec
  have hby := Bd.bytes
  have hml : c.maxLocals = 4 := hml0
  have hown : s.vm.findClass "jdk/internal/util/Preconditions" = some m.cls := findClass_of_methodNamed Bd.named
  have hnm := (name_of_methodNamed Bd.named Bd.method).1
  have X0 : Stand p l e ({ frames := 0, cells := 0, slots := 0, locals := 0 } : Room) s m #[(.int (0 : Int32)), (.int (Int32.ofNat k)), (.int (Int32.ofNat n)), fm] below meth c s₁ [] 0 0 := Stand.of_body Bd
  have e0 : s₁.heap = h0 := by rw [← hh, Bd.state]; rfl
  have N0 := Fr.nil n0
  have pre0 : ∀ τ, Steps p.tables e below (s₁.setTop (mkF m 0 #[.val (.int (0 : Int32)), .val (.int (Int32.ofNat k)), .val (.int (Int32.ofNat n)), .val fm] [])) τ → Steps p.tables e below (s₁.setTop (entryFrame m #[(.int (0 : Int32)), (.int (Int32.ofNat k)), (.int (Int32.ofNat n)), fm] 4)) τ := fun τ κ => castTop (ef_40 m k n fm r_fm) κ
  have pre1 := fun τ (κ : Steps p.tables e below (s₁.setTop (mkF m 12 #[.val (.int (0 : Int32)), .val (.int (Int32.ofNat k)), .val (.int (Int32.ofNat n)), .val fm] [(.int ((Int32.ofNat n) - (0 : Int32))), (.int (Int32.ofNat k))])) τ) => pre0 τ (by
    refine XS.iloadN X0.here hx rfl (hb hby d40_0) rfl ?_
    refine XS.iloadN X0.here hx rfl (hb hby d40_1) rfl ?_
    refine XS.ior X0.here hx rfl (hb hby d40_2) rfl ?_
    show Steps p.tables e below (s₁.setTop (mkF m 3 #[.val (.int (0 : Int32)), .val (.int (Int32.ofNat k)), .val (.int (Int32.ofNat n)), .val fm] [(.int ((Int32.ofNat n) ||| (0 : Int32)))])) _
    refine XS.iloadN X0.here hx rfl (hb hby d40_3) rfl ?_
    refine XS.ior X0.here hx rfl (hb hby d40_4) rfl ?_
    show Steps p.tables e below (s₁.setTop (mkF m 5 #[.val (.int (0 : Int32)), .val (.int (Int32.ofNat k)), .val (.int (Int32.ofNat n)), .val fm] [(.int (((Int32.ofNat n) ||| (0 : Int32)) ||| (Int32.ofNat k)))])) _
    refine XS.ifNo X0.here hx rfl (hb hby d40_5) rfl ((if0 _ _).trans (flt (own_orn hn (by omega))).1) ?_
    show Steps p.tables e below (s₁.setTop (mkF m 8 #[.val (.int (0 : Int32)), .val (.int (Int32.ofNat k)), .val (.int (Int32.ofNat n)), .val fm] [])) _
    refine XS.iloadN X0.here hx rfl (hb hby d40_8) rfl ?_
    refine XS.iloadN X0.here hx rfl (hb hby d40_9) rfl ?_
    refine XS.iloadN X0.here hx rfl (hb hby d40_10) rfl ?_
    refine XS.isub X0.here hx rfl (hb hby d40_11) rfl ?_
    show Steps p.tables e below (s₁.setTop (mkF m 12 #[.val (.int (0 : Int32)), .val (.int (Int32.ofNat k)), .val (.int (Int32.ofNat n)), .val fm] [(.int ((Int32.ofNat n) - (0 : Int32))), (.int (Int32.ofNat k))])) _
    exact κ)
  rw [show ((Int32.ofNat n) - (0 : Int32)) = (Int32.ofNat n) from (Int32.sub_zero _)] at pre1
  have pre2 := fun τ (κ : Steps p.tables e below (s₁.setTop (mkF m 24 #[.val (.int (0 : Int32)), .val (.int (Int32.ofNat k)), .val (.int (Int32.ofNat n)), .val fm] [(.int (0 : Int32))])) τ) => pre1 τ (by
    refine XS.icmpYes X0.here hx rfl (pc0 := 12) (pc' := 23) rfl (hb hby d40_12) rfl (flt (fun q => absurd ((own_ltN (by omega) (by omega)).mp q) (by omega))).2.2.2 (by decide) (by decide) ?_
    show Steps p.tables e below (s₁.setTop (mkF m 23 #[.val (.int (0 : Int32)), .val (.int (Int32.ofNat k)), .val (.int (Int32.ofNat n)), .val fm] [])) _
    refine XS.iloadN X0.here hx rfl (hb hby d40_23) rfl ?_
    show Steps p.tables e below (s₁.setTop (mkF m 24 #[.val (.int (0 : Int32)), .val (.int (Int32.ofNat k)), .val (.int (Int32.ofNat n)), .val fm] [(.int (0 : Int32))])) _
    exact κ)
  obtain ⟨fs, hr, hrun, hended, hW, hsame⟩ := X0.leave (v := some (.int (0 : Int32))) (fun h => by rw [Bd.returns] at h; cases h)
  refine ⟨_, _, pre2 _ ?_, hrun, hended, _, _, rfl, ?_, ⟨_, rfl⟩, hW, hsame.mono (by decide) (by decide)⟩
  · exact retI X0 hx Bd.returns (hb hby d40_24) hr
  · show Q40 Z k n fm h0 n0 _ s₁.heap _
    rw [e0]
    exact ⟨rfl, N0, rfl⟩
theorem ef_39 (m : MethodId) (k : Nat) (n : Nat) (zc : Int32) (fm : Value) : entryFrame m #[(.int (0 : Int32)), (.int (Int32.ofNat k)), (.int (Int32.ofNat n))] 3 = mkF m 0 #[.val (.int (0 : Int32)), .val (.int (Int32.ofNat k)), .val (.int (Int32.ofNat n))] [] := by first | (simp [entryFrame, mkF, argsToLocals, Value.category]; done) | rfl
def Q39 (Z : State) (k : Nat) (n : Nat) (zc : Int32) (fm : Value) (h0 : Heap) (n0 : Nat) (v : Option Value) (h : Heap) (L : List Loc) : Prop := v = some (.int (0 : Int32)) ∧ Fr n0 L ∧ h = h0
set_option maxRecDepth 65536 in
set_option maxHeartbeats 40000000 in
theorem rm39 (l : Launch) (Z : State) (a0 : Array Value) (hw : ∀ d ∈ tables_1, d.before a0 Z = true) (ws : List Jvm.Cond) (k : Nat) (n : Nat) (zc : Int32) (fm : Value) (h0 : Heap) (n0 : Nat) (Z0 : n0 ≤ h0.size) (O0 : Old Z n0 h0) (U0 : own_ST Z zc fm) (hk : k ≤ n) (hn : n ≤ 16) :
    MetFree l (⟨"java/lang/String", "checkBoundsOffCount", "(III)I"⟩ : MethodName) (head1 (Jvm.Cond.code (⟨"java/lang/String", "checkBoundsOffCount", "(III)I"⟩ : MethodName) jdk_42_method_157_code 3 (some .int) :: ws) ({ frames := 1, cells := 0, slots := 0, locals := 15 } : Room)) (fun α υ => α = #[(.int (0 : Int32)), (.int (Int32.ofNat k)), (.int (Int32.ofNat n))] ∧ Z.Warmed39 υ.vm ∧ υ.heap = h0) (fun _ _ _ _ _ => True) (fun _ υ ω υ' => ∃ v L, ω = .returned v ∧ Q39 Z k n zc fm h0 n0 v υ'.heap L ∧ FrameEnd υ ω υ' L ({ frames := 1, cells := 0, slots := 0, locals := 15 } : Room).cells ({ frames := 1, cells := 0, slots := 0, locals := 15 } : Room).slots) := by
  refine MetFree.of_bodySF (plainFor_of_name pn_java_lang_String) hisR ?_
  intro p e s m args below meth c s₁ Bd hml0 hP hK
  obtain ⟨rfl, hZ, hh⟩ := hP
  have hx := Bd.exec
  have hby := Bd.bytes
  have hml : c.maxLocals = 3 := hml0
  have hown : s.vm.findClass "java/lang/String" = some m.cls := findClass_of_methodNamed Bd.named
  have hnm := (name_of_methodNamed Bd.named Bd.method).1
  have X0 : Stand p l e ({ frames := 1, cells := 0, slots := 0, locals := 15 } : Room) s m #[(.int (0 : Int32)), (.int (Int32.ofNat k)), (.int (Int32.ofNat n))] below meth c s₁ [] 0 0 := Stand.of_body Bd
  have e0 : s₁.heap = h0 := by rw [← hh, Bd.state]; rfl
  have N0 := Fr.nil n0
  have pre0 : ∀ τ, Steps p.tables e below (s₁.setTop (mkF m 0 #[.val (.int (0 : Int32)), .val (.int (Int32.ofNat k)), .val (.int (Int32.ofNat n))] [])) τ → Steps p.tables e below (s₁.setTop (entryFrame m #[(.int (0 : Int32)), (.int (Int32.ofNat k)), (.int (Int32.ofNat n))] 3)) τ := fun τ κ => castTop (ef_39 m k n zc fm) κ
  obtain ⟨Scs, hcs, Sad, Shi, Slo, Sfm, r_fm⟩ := id U0
  have pre1 := fun τ (κ : Steps p.tables e below (s₁.setTop (mkF m 3 #[.val (.int (0 : Int32)), .val (.int (Int32.ofNat k)), .val (.int (Int32.ofNat n))] [(.int (Int32.ofNat n)), (.int (Int32.ofNat k)), (.int (0 : Int32))])) τ) => pre0 τ (by
    refine XS.iloadN X0.here hx rfl (hb hby d39_0) rfl ?_
    refine XS.iloadN X0.here hx rfl (hb hby d39_1) rfl ?_
    refine XS.iloadN X0.here hx rfl (hb hby d39_2) rfl ?_
    show Steps p.tables e below (s₁.setTop (mkF m 3 #[.val (.int (0 : Int32)), .val (.int (Int32.ofNat k)), .val (.int (Int32.ofNat n))] [(.int (Int32.ofNat n)), (.int (Int32.ofNat k)), (.int (0 : Int32))])) _
    exact κ)
  obtain ⟨T2, X2, e2, st2⟩ := getS2 X0 hx hZ hown (host := "") (Or.inl (hw _ (List.mem_of_getElem? (i := 80) rfl))) Via.refl e0 (Sfm.ext O0.2) (g := (mkF m 3 #[.val (.int (0 : Int32)), .val (.int (Int32.ofNat k)), .val (.int (Int32.ofNat n))] [(.int (Int32.ofNat n)), (.int (Int32.ofNat k)), (.int (0 : Int32))])) rfl (hb hby d39_3)
  have pre3 := fun τ (κ : Steps p.tables e below (T2.setTop (mkF m 6 #[.val (.int (0 : Int32)), .val (.int (Int32.ofNat k)), .val (.int (Int32.ofNat n))] [fm, (.int (Int32.ofNat n)), (.int (Int32.ofNat k)), (.int (0 : Int32))])) τ) => pre1 τ (st2 _ κ)
  obtain ⟨_, _, ⟨T4, L4, k4, n4⟩, -, X4, ⟨Lc4, hQ4, l4, y4, z4⟩, st4⟩ := Jvm.LawKit.callS X2 hx (y := (⟨"jdk/internal/util/Preconditions", "checkFromIndexSize", "(IIILjava/util/function/BiFunction;)I"⟩ : MethodName)) hown (mvT hZ (hw _ (List.mem_of_getElem? (i := 170) rfl))) (mvT hZ (hw _ (List.mem_of_getElem? (i := 171) rfl))) (mvT hZ (hw _ (List.mem_of_getElem? (i := 81) rfl))) (mvT hZ (hw _ (List.mem_of_getElem? (i := 172) rfl))) (by decide) (backOf (W := 0) (rm40 l Z a0 hw [] k n fm h0 n0 Z0 r_fm hk hn) hZ (hw _ (List.mem_of_getElem? (i := 172) rfl)) (hw _ (List.mem_of_getElem? (i := 81) rfl)) (Nat.le_of_ble_eq_true rfl) (Nat.le_of_ble_eq_true rfl)) (g := (mkF m 6 #[.val (.int (0 : Int32)), .val (.int (Int32.ofNat k)), .val (.int (Int32.ofNat n))] [fm, (.int (Int32.ofNat n)), (.int (Int32.ofNat k)), (.int (0 : Int32))])) rfl (by rw [hml]; rfl) (argsL := [(.int (0 : Int32)), (.int (Int32.ofNat k)), (.int (Int32.ofNat n)), fm]) (rest := []) (lenOf pd_15 rfl) rfl (by show 2 * 0 + _ ≤ _; exact Nat.le_of_eq rfl) (hb hby d39_6) (fun _ _ => ⟨rfl, e2, (by decide : 0 + 0 ≤ _), (by decide : 0 + 0 ≤ _)⟩)
  dsimp only [Pt.U, Pt.locs, Pt.cells, Pt.slots] at X4 l4 y4 z4 st4 hQ4
  subst l4 y4 z4
  obtain ⟨rfl, Nq4, hh4⟩ := hQ4
  have O0_4 : Old Z n0 T4.heap := by rw [hh4]; exact O0
  have Z4 : n0 ≤ T4.heap.size := by rw [hh4]; exact Z0
  have N4 := Fr.app N0 Nq4
  have pre5 := fun τ (κ : Steps p.tables e below (T4.setTop (mkF m 9 #[.val (.int (0 : Int32)), .val (.int (Int32.ofNat k)), .val (.int (Int32.ofNat n))] [(.int (0 : Int32))])) τ) => pre3 τ (st4 _ κ)
  obtain ⟨fs, hr, hrun, hended, hW, hsame⟩ := X4.leave (v := some (.int (0 : Int32))) (fun h => by rw [Bd.returns] at h; cases h)
  refine ⟨_, _, pre5 _ ?_, hrun, hended, _, _, rfl, ?_, ⟨_, rfl⟩, hW, hsame.mono (by decide) (by decide)⟩
  · exact retI X4 hx Bd.returns (hb hby d39_9) hr
  · show Q39 Z k n zc fm h0 n0 _ T4.heap _
    exact ⟨rfl, N4, hh4⟩
theorem ef_38 (m : MethodId) (tb : Addr) (n : Nat) : entryFrame m #[(.ref tb)] 1 = mkF m 0 #[.val (.ref tb)] [] := by first | (simp [entryFrame, mkF, argsToLocals, Value.category]; done) | rfl
def Q38 (Z : State) (tb : Addr) (n : Nat) (kb : ClassId) (f : Nat → Int32) (h0 : Heap) (n0 : Nat) (v : Option Value) (h : Heap) (L : List Loc) : Prop := v = some (.int (Int32.ofNat n)) ∧ Fr n0 L ∧ h = h0
set_option maxRecDepth 65536 in
set_option maxHeartbeats 40000000 in
theorem rm38 (l : Launch) (Z : State) (a0 : Array Value) (hw : ∀ d ∈ tables_1, d.before a0 Z = true) (ws : List Jvm.Cond) (tb : Addr) (n : Nat) (kb : ClassId) (f : Nat → Int32) (h0 : Heap) (n0 : Nat) (Z0 : n0 ≤ h0.size) (Va : Arv Z h0 tb kb .byte (Int32.ofNat (2 * n)) (own_tab (own_u16 f) (2 * n)) (.int (0 : Int32))) (hn : n ≤ 16) :
    MetFree l (⟨"java/lang/StringUTF16", "length", "([B)I"⟩ : MethodName) (head1 (Jvm.Cond.code (⟨"java/lang/StringUTF16", "length", "([B)I"⟩ : MethodName) jdk_52_method_6_code 1 (some .int) :: ws) ({ frames := 0, cells := 0, slots := 0, locals := 0 } : Room)) (fun α υ => α = #[(.ref tb)] ∧ Z.Warmed39 υ.vm ∧ υ.heap = h0) (fun _ _ _ _ _ => True) (fun _ υ ω υ' => ∃ v L, ω = .returned v ∧ Q38 Z tb n kb f h0 n0 v υ'.heap L ∧ FrameEnd υ ω υ' L ({ frames := 0, cells := 0, slots := 0, locals := 0 } : Room).cells ({ frames := 0, cells := 0, slots := 0, locals := 0 } : Room).slots) := by
  refine MetFree.of_bodySF (plainFor_of_name pn_java_lang_StringUTF16) hisR ?_
  intro p e s m args below meth c s₁ Bd hml0 hP hK
  obtain ⟨rfl, hZ, hh⟩ := hP
  have hx := Bd.exec
  have hby := Bd.bytes
  have hml : c.maxLocals = 1 := hml0
  have hown : s.vm.findClass "java/lang/StringUTF16" = some m.cls := findClass_of_methodNamed Bd.named
  have hnm := (name_of_methodNamed Bd.named Bd.method).1
  have X0 : Stand p l e ({ frames := 0, cells := 0, slots := 0, locals := 0 } : Room) s m #[(.ref tb)] below meth c s₁ [] 0 0 := Stand.of_body Bd
  have e0 : s₁.heap = h0 := by rw [← hh, Bd.state]; rfl
  have N0 := Fr.nil n0
  have pre0 : ∀ τ, Steps p.tables e below (s₁.setTop (mkF m 0 #[.val (.ref tb)] [])) τ → Steps p.tables e below (s₁.setTop (entryFrame m #[(.ref tb)] 1)) τ := fun τ κ => castTop (ef_38 m tb n) κ
  have pre1 := fun τ (κ : Steps p.tables e below (s₁.setTop (mkF m 1 #[.val (.ref tb)] [(.ref tb)])) τ) => pre0 τ (by
    refine XS.aloadN X0.here hx rfl (hb hby d38_0) rfl rfl ?_
    show Steps p.tables e below (s₁.setTop (mkF m 1 #[.val (.ref tb)] [(.ref tb)])) _
    exact κ)
  obtain ⟨cl2, Ar2, -, S2, M2, -, -⟩ := id Va
  have pre3 := fun τ (κ : Steps p.tables e below (s₁.setTop (mkF m 4 #[.val (.ref tb)] [(.int ((Int32.ofNat (2 * n)) >>> ((1 : Int32) &&& 31)))])) τ) => pre1 τ (by
    refine X0.arraylength hx (by rw [e0]; exact Ar2.1) (State.isArrayOf_alike hZ.alike Ar2.2.1) (g := (mkF m 1 #[.val (.ref tb)] [(.ref tb)])) rfl rfl (hb hby d38_1) _ ?_
    rw [len_of S2 M2]
    show Steps p.tables e below (s₁.setTop (mkF m 2 #[.val (.ref tb)] [(.int (Int32.ofNat (2 * n)))])) _
    refine XS.iconst X0.here hx rfl (hb hby d38_2) ?_
    refine XS.ishr X0.here hx rfl (hb hby d38_3) rfl ?_
    show Steps p.tables e below (s₁.setTop (mkF m 4 #[.val (.ref tb)] [(.int ((Int32.ofNat (2 * n)) >>> ((1 : Int32) &&& 31)))])) _
    exact κ)
  rw [show ((Int32.ofNat (2 * n)) >>> ((1 : Int32) &&& 31)) = (Int32.ofNat n) from (own_shr1 (by omega))] at pre3
  obtain ⟨fs, hr, hrun, hended, hW, hsame⟩ := X0.leave (v := some (.int (Int32.ofNat n))) (fun h => by rw [Bd.returns] at h; cases h)
  refine ⟨_, _, pre3 _ ?_, hrun, hended, _, _, rfl, ?_, ⟨_, rfl⟩, hW, hsame.mono (by decide) (by decide)⟩
  · exact retI X0 hx Bd.returns (hb hby d38_4) hr
  · show Q38 Z tb n kb f h0 n0 _ s₁.heap _
    rw [e0]
    exact ⟨rfl, N0, rfl⟩
theorem ef_37 (m : MethodId) (k : Nat) (tb : Addr) (n : Nat) (zc : Int32) (fm : Value) : entryFrame m #[(.int (0 : Int32)), (.int (Int32.ofNat k)), (.ref tb)] 3 = mkF m 0 #[.val (.int (0 : Int32)), .val (.int (Int32.ofNat k)), .val (.ref tb)] [] := by first | (simp [entryFrame, mkF, argsToLocals, Value.category]; done) | rfl
def Q37 (Z : State) (k : Nat) (tb : Addr) (n : Nat) (kb : ClassId) (f : Nat → Int32) (zc : Int32) (fm : Value) (h0 : Heap) (n0 : Nat) (v : Option Value) (h : Heap) (L : List Loc) : Prop := v = none ∧ Fr n0 L ∧ h = h0
set_option maxRecDepth 65536 in
set_option maxHeartbeats 40000000 in
theorem rm37 (l : Launch) (Z : State) (a0 : Array Value) (hw : ∀ d ∈ tables_1, d.before a0 Z = true) (ws : List Jvm.Cond) (k : Nat) (tb : Addr) (n : Nat) (kb : ClassId) (f : Nat → Int32) (zc : Int32) (fm : Value) (h0 : Heap) (n0 : Nat) (Z0 : n0 ≤ h0.size) (O0 : Old Z n0 h0) (U0 : own_ST Z zc fm) (Va : Arv Z h0 tb kb .byte (Int32.ofNat (2 * n)) (own_tab (own_u16 f) (2 * n)) (.int (0 : Int32))) (hk : k ≤ n) (hn : n ≤ 16) :
    MetFree l (⟨"java/lang/StringUTF16", "checkBoundsOffCount", "(II[B)V"⟩ : MethodName) (head1 (Jvm.Cond.code (⟨"java/lang/StringUTF16", "checkBoundsOffCount", "(II[B)V"⟩ : MethodName) jdk_52_method_94_code 3 none :: ws) ({ frames := 2, cells := 0, slots := 0, locals := 29 } : Room)) (fun α υ => α = #[(.int (0 : Int32)), (.int (Int32.ofNat k)), (.ref tb)] ∧ Z.Warmed39 υ.vm ∧ υ.heap = h0) (fun _ _ _ _ _ => True) (fun _ υ ω υ' => ∃ v L, ω = .returned v ∧ Q37 Z k tb n kb f zc fm h0 n0 v υ'.heap L ∧ FrameEnd υ ω υ' L ({ frames := 2, cells := 0, slots := 0, locals := 29 } : Room).cells ({ frames := 2, cells := 0, slots := 0, locals := 29 } : Room).slots) := by
  refine MetFree.of_bodySF (plainFor_of_name pn_java_lang_StringUTF16) hisR ?_
  intro p e s m args below meth c s₁ Bd hml0 hP hK
  obtain ⟨rfl, hZ, hh⟩ := hP
  have hx := Bd.exec
  have hby := Bd.bytes
  have hml : c.maxLocals = 3 := hml0
  have hown : s.vm.findClass "java/lang/StringUTF16" = some m.cls := findClass_of_methodNamed Bd.named
  have hnm := (name_of_methodNamed Bd.named Bd.method).1
  have X0 : Stand p l e ({ frames := 2, cells := 0, slots := 0, locals := 29 } : Room) s m #[(.int (0 : Int32)), (.int (Int32.ofNat k)), (.ref tb)] below meth c s₁ [] 0 0 := Stand.of_body Bd
  have e0 : s₁.heap = h0 := by rw [← hh, Bd.state]; rfl
  have N0 := Fr.nil n0
  have pre0 : ∀ τ, Steps p.tables e below (s₁.setTop (mkF m 0 #[.val (.int (0 : Int32)), .val (.int (Int32.ofNat k)), .val (.ref tb)] [])) τ → Steps p.tables e below (s₁.setTop (entryFrame m #[(.int (0 : Int32)), (.int (Int32.ofNat k)), (.ref tb)] 3)) τ := fun τ κ => castTop (ef_37 m k tb n zc fm) κ
  have pre1 := fun τ (κ : Steps p.tables e below (s₁.setTop (mkF m 3 #[.val (.int (0 : Int32)), .val (.int (Int32.ofNat k)), .val (.ref tb)] [(.ref tb), (.int (Int32.ofNat k)), (.int (0 : Int32))])) τ) => pre0 τ (by
    refine XS.iloadN X0.here hx rfl (hb hby d37_0) rfl ?_
    refine XS.iloadN X0.here hx rfl (hb hby d37_1) rfl ?_
    refine XS.aloadN X0.here hx rfl (hb hby d37_2) rfl rfl ?_
    show Steps p.tables e below (s₁.setTop (mkF m 3 #[.val (.int (0 : Int32)), .val (.int (Int32.ofNat k)), .val (.ref tb)] [(.ref tb), (.int (Int32.ofNat k)), (.int (0 : Int32))])) _
    exact κ)
  obtain ⟨_, _, ⟨T2, L2, k2, n2⟩, -, X2, ⟨Lc2, hQ2, l2, y2, z2⟩, st2⟩ := Jvm.LawKit.callS X0 hx (y := (⟨"java/lang/StringUTF16", "length", "([B)I"⟩ : MethodName)) hown (mvT hZ (hw _ (List.mem_of_getElem? (i := 164) rfl))) (mvT hZ (hw _ (List.mem_of_getElem? (i := 165) rfl))) (mvT hZ (hw _ (List.mem_of_getElem? (i := 96) rfl))) (mvT hZ (hw _ (List.mem_of_getElem? (i := 166) rfl))) (by decide) (backOf (W := 2) (rm38 l Z a0 hw [] tb n kb f h0 n0 Z0 Va hn) hZ (hw _ (List.mem_of_getElem? (i := 166) rfl)) (hw _ (List.mem_of_getElem? (i := 96) rfl)) (Nat.le_of_ble_eq_true rfl) (Nat.le_of_ble_eq_true rfl)) (g := (mkF m 3 #[.val (.int (0 : Int32)), .val (.int (Int32.ofNat k)), .val (.ref tb)] [(.ref tb), (.int (Int32.ofNat k)), (.int (0 : Int32))])) rfl (by rw [hml]; rfl) (argsL := [(.ref tb)]) (rest := [(.int (Int32.ofNat k)), (.int (0 : Int32))]) (lenOf pd_16 rfl) rfl (by show 2 * 0 + _ ≤ _; exact Nat.le_of_eq rfl) (hb hby d37_3) (fun _ _ => ⟨rfl, e0, (by decide : 0 + 0 ≤ _), (by decide : 0 + 0 ≤ _)⟩)
  dsimp only [Pt.U, Pt.locs, Pt.cells, Pt.slots] at X2 l2 y2 z2 st2 hQ2
  subst l2 y2 z2
  obtain ⟨rfl, Nq2, hh2⟩ := hQ2
  have O0_2 : Old Z n0 T2.heap := by rw [hh2]; exact O0
  have Z2 : n0 ≤ T2.heap.size := by rw [hh2]; exact Z0
  have N2 := Fr.app N0 Nq2
  have pre3 := fun τ (κ : Steps p.tables e below (T2.setTop (mkF m 6 #[.val (.int (0 : Int32)), .val (.int (Int32.ofNat k)), .val (.ref tb)] [(.int (Int32.ofNat n)), (.int (Int32.ofNat k)), (.int (0 : Int32))])) τ) => pre1 τ (st2 _ κ)
  obtain ⟨_, _, ⟨T4, L4, k4, n4⟩, -, X4, ⟨Lc4, hQ4, l4, y4, z4⟩, st4⟩ := Jvm.LawKit.callS X2 hx (y := (⟨"java/lang/String", "checkBoundsOffCount", "(III)I"⟩ : MethodName)) hown (mvT hZ (hw _ (List.mem_of_getElem? (i := 167) rfl))) (mvT hZ (hw _ (List.mem_of_getElem? (i := 168) rfl))) (mvT hZ (hw _ (List.mem_of_getElem? (i := 11) rfl))) (mvT hZ (hw _ (List.mem_of_getElem? (i := 169) rfl))) (by decide) (backOf (W := 0) (rm39 l Z a0 hw [] k n zc fm T2.heap n0 Z2 O0_2 U0 hk hn) hZ (hw _ (List.mem_of_getElem? (i := 169) rfl)) (hw _ (List.mem_of_getElem? (i := 11) rfl)) (Nat.le_of_ble_eq_true rfl) (Nat.le_of_ble_eq_true rfl)) (g := (mkF m 6 #[.val (.int (0 : Int32)), .val (.int (Int32.ofNat k)), .val (.ref tb)] [(.int (Int32.ofNat n)), (.int (Int32.ofNat k)), (.int (0 : Int32))])) rfl (by rw [hml]; rfl) (argsL := [(.int (0 : Int32)), (.int (Int32.ofNat k)), (.int (Int32.ofNat n))]) (rest := []) (lenOf pd_17 rfl) rfl (by show 2 * 0 + _ ≤ _; exact Nat.le_of_eq rfl) (hb hby d37_6) (fun _ _ => ⟨rfl, rfl, (by decide : 0 + 0 ≤ _), (by decide : 0 + 0 ≤ _)⟩)
  dsimp only [Pt.U, Pt.locs, Pt.cells, Pt.slots] at X4 l4 y4 z4 st4 hQ4
  subst l4 y4 z4
  obtain ⟨rfl, Nq4, hh4⟩ := hQ4
  have O0_4 : Old Z n0 T4.heap := by rw [hh4]; exact O0_2
  have Z4 : n0 ≤ T4.heap.size := by rw [hh4]; exact Z2
  have N4 := Fr.app N2 Nq4
  have pre5 := fun τ (κ : Steps p.tables e below (T4.setTop (mkF m 9 #[.val (.int (0 : Int32)), .val (.int (Int32.ofNat k)), .val (.ref tb)] [(.int (0 : Int32))])) τ) => pre3 τ (st4 _ κ)
  have pre6 := fun τ (κ : Steps p.tables e below (T4.setTop (mkF m 10 #[.val (.int (0 : Int32)), .val (.int (Int32.ofNat k)), .val (.ref tb)] [])) τ) => pre5 τ (by
    refine XS.pop X4.here hx rfl (hb hby d37_9) rfl rfl ?_
    show Steps p.tables e below (T4.setTop (mkF m 10 #[.val (.int (0 : Int32)), .val (.int (Int32.ofNat k)), .val (.ref tb)] [])) _
    exact κ)
  obtain ⟨fs, hr, hrun, hended, hW, hsame⟩ := X4.leave (v := none) (fun _ => rfl)
  refine ⟨_, _, pre6 _ ?_, hrun, hended, _, _, rfl, ?_, ⟨_, rfl⟩, hW, hsame.mono (by decide) (by decide)⟩
  · exact X4.returnOut hx Bd.returns (hb hby d37_10) hr
  · show Q37 Z k tb n kb f zc fm h0 n0 _ T4.heap _
    exact ⟨rfl, N4, (hh4.trans hh2)⟩
theorem ef_26 (m : MethodId) (k : Nat) : entryFrame m #[(.int (0 : Int32)), (.int (Int32.ofNat k))] 2 = mkF m 0 #[.val (.int (0 : Int32)), .val (.int (Int32.ofNat k))] [] := by first | (simp [entryFrame, mkF, argsToLocals, Value.category]; done) | rfl
def Q26 (Z : State) (k : Nat) (h0 : Heap) (n0 : Nat) (v : Option Value) (h : Heap) (L : List Loc) : Prop := v = none ∧ Fr n0 L ∧ h = h0
set_option maxRecDepth 65536 in
set_option maxHeartbeats 40000000 in
theorem rm26 (l : Launch) (Z : State) (a0 : Array Value) (hw : ∀ d ∈ tables_1, d.before a0 Z = true) (ws : List Jvm.Cond) (k : Nat) (h0 : Heap) (n0 : Nat) (Z0 : n0 ≤ h0.size) (hk : k ≤ 32) :
    MetFree l (⟨"java/util/Arrays", "checkLength", "(II)V"⟩ : MethodName) (head1 (Jvm.Cond.code (⟨"java/util/Arrays", "checkLength", "(II)V"⟩ : MethodName) jdk_65_method_131_code 2 none :: ws) ({ frames := 0, cells := 0, slots := 0, locals := 0 } : Room)) (fun α υ => α = #[(.int (0 : Int32)), (.int (Int32.ofNat k))] ∧ Z.Warmed39 υ.vm ∧ υ.heap = h0) (fun _ _ _ _ _ => True) (fun _ υ ω υ' => ∃ v L, ω = .returned v ∧ Q26 Z k h0 n0 v υ'.heap L ∧ FrameEnd υ ω υ' L ({ frames := 0, cells := 0, slots := 0, locals := 0 } : Room).cells ({ frames := 0, cells := 0, slots := 0, locals := 0 } : Room).slots) := by
  refine MetFree.of_bodySF (plainFor_of_name pn_java_util_Arrays) hisR ?_
  intro p e s m args below meth c s₁ Bd hml0 hP hK
  obtain ⟨rfl, hZ, hh⟩ := hP
  have hx := Bd.exec
  have hby := Bd.bytes
  have hml : c.maxLocals = 2 := hml0
  have hown : s.vm.findClass "java/util/Arrays" = some m.cls := findClass_of_methodNamed Bd.named
  have hnm := (name_of_methodNamed Bd.named Bd.method).1
  have X0 : Stand p l e ({ frames := 0, cells := 0, slots := 0, locals := 0 } : Room) s m #[(.int (0 : Int32)), (.int (Int32.ofNat k))] below meth c s₁ [] 0 0 := Stand.of_body Bd
  have e0 : s₁.heap = h0 := by rw [← hh, Bd.state]; rfl
  have N0 := Fr.nil n0
  have pre0 : ∀ τ, Steps p.tables e below (s₁.setTop (mkF m 0 #[.val (.int (0 : Int32)), .val (.int (Int32.ofNat k))] [])) τ → Steps p.tables e below (s₁.setTop (entryFrame m #[(.int (0 : Int32)), (.int (Int32.ofNat k))] 2)) τ := fun τ κ => castTop (ef_26 m k) κ
  have pre1 := fun τ (κ : Steps p.tables e below (s₁.setTop (mkF m 37 #[.val (.int (0 : Int32)), .val (.int (Int32.ofNat k))] [])) τ) => pre0 τ (by
    refine XS.iloadN X0.here hx rfl (hb hby d26_0) rfl ?_
    refine XS.iloadN X0.here hx rfl (hb hby d26_1) rfl ?_
    refine XS.icmpYes X0.here hx rfl (pc0 := 2) (pc' := 37) rfl (hb hby d26_2) rfl (flt (own_nn (by omega))).2.1 (by decide) (by decide) ?_
    show Steps p.tables e below (s₁.setTop (mkF m 37 #[.val (.int (0 : Int32)), .val (.int (Int32.ofNat k))] [])) _
    exact κ)
  obtain ⟨fs, hr, hrun, hended, hW, hsame⟩ := X0.leave (v := none) (fun _ => rfl)
  refine ⟨_, _, pre1 _ ?_, hrun, hended, _, _, rfl, ?_, ⟨_, rfl⟩, hW, hsame.mono (by decide) (by decide)⟩
  · exact X0.returnOut hx Bd.returns (hb hby d26_37) hr
  · show Q26 Z k h0 n0 _ s₁.heap _
    rw [e0]
    exact ⟨rfl, N0, rfl⟩
theorem ef_25 (m : MethodId) (tb : Addr) (z : Nat) (k : Nat) : entryFrame m #[(.ref tb), (.int (0 : Int32)), (.int (Int32.ofNat k))] 5 = mkF m 0 #[.val (.ref tb), .val (.int (0 : Int32)), .val (.int (Int32.ofNat k)), .unset, .unset] [] := by first | (simp [entryFrame, mkF, argsToLocals, Value.category]; done) | rfl
def Q25 (Z : State) (tb : Addr) (z : Nat) (k : Nat) (kb : ClassId) (g : Nat → Int32) (h0 : Heap) (n0 : Nat) (v : Option Value) (h : Heap) (L : List Loc) : Prop := ∃ (b : Addr) (kc : ClassId), v = some (.ref b) ∧ Fr n0 L ∧ Keep h0 h [] ∧ Arv Z h b kc .byte (Int32.ofNat k) (own_tab g (k)) (.int (0 : Int32)) ∧ h0.size ≤ b
set_option maxRecDepth 65536 in
set_option maxHeartbeats 40000000 in
theorem rm25 (l : Launch) (Z : State) (a0 : Array Value) (hw : ∀ d ∈ tables_1, d.before a0 Z = true) (ws : List Jvm.Cond) (tb : Addr) (z : Nat) (k : Nat) (kb : ClassId) (g : Nat → Int32) (h0 : Heap) (n0 : Nat) (Z0 : n0 ≤ h0.size) (Va : Arv Z h0 tb kb .byte (Int32.ofNat z) (own_tab g (z)) (.int (0 : Int32))) (hz : z ≤ 32) (hk : k < z) :
    MetFree l (⟨"java/util/Arrays", "copyOfRangeByte", "([BII)[B"⟩ : MethodName) (head1 (Jvm.Cond.code (⟨"java/util/Arrays", "copyOfRangeByte", "([BII)[B"⟩ : MethodName) jdk_65_method_133_code 5 (some (.array .byte)) :: ws) ({ frames := 1, cells := 1, slots := 32, locals := 40 } : Room)) (fun α υ => α = #[(.ref tb), (.int (0 : Int32)), (.int (Int32.ofNat k))] ∧ Z.Warmed39 υ.vm ∧ υ.heap = h0) (fun _ _ _ _ _ => True) (fun _ υ ω υ' => ∃ v L, ω = .returned v ∧ Q25 Z tb z k kb g h0 n0 v υ'.heap L ∧ FrameEnd υ ω υ' L ({ frames := 1, cells := 1, slots := 32, locals := 40 } : Room).cells ({ frames := 1, cells := 1, slots := 32, locals := 40 } : Room).slots) := by
  refine MetFree.of_bodySF (plainFor_of_name pn_java_util_Arrays) hisR ?_
  intro p e s m args below meth c s₁ Bd hml0 hP hK
  obtain ⟨rfl, hZ, hh⟩ := hP
  have hx := Bd.exec
  have hby := Bd.bytes
  have hml : c.maxLocals = 5 := hml0
  have hown : s.vm.findClass "java/util/Arrays" = some m.cls := findClass_of_methodNamed Bd.named
  have hnm := (name_of_methodNamed Bd.named Bd.method).1
  have X0 : Stand p l e ({ frames := 1, cells := 1, slots := 32, locals := 40 } : Room) s m #[(.ref tb), (.int (0 : Int32)), (.int (Int32.ofNat k))] below meth c s₁ [] 0 0 := Stand.of_body Bd
  have e0 : s₁.heap = h0 := by rw [← hh, Bd.state]; rfl
  have N0 := Fr.nil n0
  have pre0 : ∀ τ, Steps p.tables e below (s₁.setTop (mkF m 0 #[.val (.ref tb), .val (.int (0 : Int32)), .val (.int (Int32.ofNat k)), .unset, .unset] [])) τ → Steps p.tables e below (s₁.setTop (entryFrame m #[(.ref tb), (.int (0 : Int32)), (.int (Int32.ofNat k))] 5)) τ := fun τ κ => castTop (ef_25 m tb z k) κ
  have Kp0 : Keep h0 h0 [] := Keep.refl _ _
  have pre1 := fun τ (κ : Steps p.tables e below (s₁.setTop (mkF m 2 #[.val (.ref tb), .val (.int (0 : Int32)), .val (.int (Int32.ofNat k)), .unset, .unset] [(.int (Int32.ofNat k)), (.int (0 : Int32))])) τ) => pre0 τ (by
    refine XS.iloadN X0.here hx rfl (hb hby d25_0) rfl ?_
    refine XS.iloadN X0.here hx rfl (hb hby d25_1) rfl ?_
    show Steps p.tables e below (s₁.setTop (mkF m 2 #[.val (.ref tb), .val (.int (0 : Int32)), .val (.int (Int32.ofNat k)), .unset, .unset] [(.int (Int32.ofNat k)), (.int (0 : Int32))])) _
    exact κ)
  obtain ⟨_, _, ⟨T2, L2, k2, n2⟩, -, X2, ⟨Lc2, hQ2, l2, y2, z2⟩, st2⟩ := Jvm.LawKit.callS X0 hx (y := (⟨"java/util/Arrays", "checkLength", "(II)V"⟩ : MethodName)) hown (mvT hZ (hw _ (List.mem_of_getElem? (i := 116) rfl))) (mvT hZ (hw _ (List.mem_of_getElem? (i := 117) rfl))) (mvT hZ (hw _ (List.mem_of_getElem? (i := 111) rfl))) (mvT hZ (hw _ (List.mem_of_getElem? (i := 118) rfl))) (by decide) (backOf (W := 0) (rm26 l Z a0 hw [] k h0 n0 Z0 (by omega)) hZ (hw _ (List.mem_of_getElem? (i := 118) rfl)) (hw _ (List.mem_of_getElem? (i := 111) rfl)) (Nat.le_of_ble_eq_true rfl) (Nat.le_of_ble_eq_true rfl)) (g := (mkF m 2 #[.val (.ref tb), .val (.int (0 : Int32)), .val (.int (Int32.ofNat k)), .unset, .unset] [(.int (Int32.ofNat k)), (.int (0 : Int32))])) rfl (by rw [hml]; rfl) (argsL := [(.int (0 : Int32)), (.int (Int32.ofNat k))]) (rest := []) (lenOf pd_18 rfl) rfl (by show 2 * 0 + _ ≤ _; exact Nat.le_of_eq rfl) (hb hby d25_2) (fun _ _ => ⟨rfl, e0, (by decide : 0 + 0 ≤ _), (by decide : 0 + 0 ≤ _)⟩)
  dsimp only [Pt.U, Pt.locs, Pt.cells, Pt.slots] at X2 l2 y2 z2 st2 hQ2
  subst l2 y2 z2
  obtain ⟨rfl, Nq2, hh2⟩ := hQ2
  have Va_2 : Arv Z T2.heap tb kb .byte (Int32.ofNat z) (own_tab g (z)) (.int (0 : Int32)) := by rw [hh2]; exact Va
  have Z2 : n0 ≤ T2.heap.size := by rw [hh2]; exact Z0
  have Kp2 : Keep h0 T2.heap [] := by rw [hh2]; exact Kp0
  have N2 := Fr.app N0 Nq2
  have pre3 := fun τ (κ : Steps p.tables e below (T2.setTop (mkF m 5 #[.val (.ref tb), .val (.int (0 : Int32)), .val (.int (Int32.ofNat k)), .unset, .unset] [])) τ) => pre1 τ (st2 _ κ)
  have pre4 := fun τ (κ : Steps p.tables e below (T2.setTop (mkF m 8 #[.val (.ref tb), .val (.int (0 : Int32)), .val (.int (Int32.ofNat k)), .unset, .unset] [(.int ((Int32.ofNat k) - (0 : Int32)))])) τ) => pre3 τ (by
    refine XS.iloadN X2.here hx rfl (hb hby d25_5) rfl ?_
    refine XS.iloadN X2.here hx rfl (hb hby d25_6) rfl ?_
    refine XS.isub X2.here hx rfl (hb hby d25_7) rfl ?_
    show Steps p.tables e below (T2.setTop (mkF m 8 #[.val (.ref tb), .val (.int (0 : Int32)), .val (.int (Int32.ofNat k)), .unset, .unset] [(.int ((Int32.ofNat k) - (0 : Int32)))])) _
    exact κ)
  rw [show ((Int32.ofNat k) - (0 : Int32)) = (Int32.ofNat k) from (Int32.sub_zero _)] at pre4
  have pre5 := fun τ (κ : Steps p.tables e below (T2.setTop (mkF m 10 #[.val (.ref tb), .val (.int (0 : Int32)), .val (.int (Int32.ofNat k)), .val (.int (Int32.ofNat k)), .unset] [(.int (Int32.ofNat k))])) τ) => pre4 τ (by
    refine XS.istoreN X2.here hx rfl (hb hby d25_8) rfl (l' := #[.val (.ref tb), .val (.int (0 : Int32)), .val (.int (Int32.ofNat k)), .val (.int (Int32.ofNat k)), .unset]) rfl ?_
    show Steps p.tables e below (T2.setTop (mkF m 9 #[.val (.ref tb), .val (.int (0 : Int32)), .val (.int (Int32.ofNat k)), .val (.int (Int32.ofNat k)), .unset] [])) _
    refine XS.iloadN X2.here hx rfl (hb hby d25_9) rfl ?_
    show Steps p.tables e below (T2.setTop (mkF m 10 #[.val (.ref tb), .val (.int (0 : Int32)), .val (.int (Int32.ofNat k)), .val (.int (Int32.ofNat k)), .unset] [(.int (Int32.ofNat k))])) _
    exact κ)
  obtain ⟨T6, h6, k6, X6, e6, E6, A6, st6⟩ := newP X2 hx hZ (hw _ (List.mem_of_getElem? (i := 24) rfl)) rfl (g := (mkF m 10 #[.val (.ref tb), .val (.int (0 : Int32)), .val (.int (Int32.ofNat k)), .val (.int (Int32.ofNat k)), .unset] [(.int (Int32.ofNat k))])) rfl (hb hby d25_10) rfl (own_nn (by omega)) (cap := 32) (by rw [own_clamp (by omega)]; omega) (by decide) (by decide) (by decide)
  obtain ⟨b, g6⟩ : ∃ z, z = T2.heap.size := ⟨_, rfl⟩
  rw [← g6] at A6 st6
  have g_b : n0 ≤ b := Nat.le_trans Z2 (Nat.le_of_eq g6.symm)
  have ne_tb_b : tb ≠ b := Nat.ne_of_lt (Nat.lt_of_lt_of_le Va_2.lt (Nat.le_of_eq g6.symm))
  have Va_6 : Arv Z h6 tb kb .byte (Int32.ofNat z) (own_tab g (z)) (.int (0 : Int32)) := Va_2.ext E6
  have sz_b : h0.size ≤ b := Nat.le_trans Kp2.1 (Nat.le_of_eq g6.symm)
  have Kp6 : Keep h0 h6 [] := Kp2.ext E6
  have Z6 : n0 ≤ h6.size := Nat.le_trans Z2 E6.1
  have V_b_6 : Arv Z h6 b k6 .byte (Int32.ofNat k) [] (.int (0 : Int32)) := Arv.new A6 (own_nn (by omega))
  have pre7 := fun τ (κ : Steps p.tables e below (T6.setTop (mkF m 12 #[.val (.ref tb), .val (.int (0 : Int32)), .val (.int (Int32.ofNat k)), .val (.int (Int32.ofNat k)), .unset] [(.ref b)])) τ) => pre5 τ (st6 _ κ)
  have Vb : Arv Z h6 b k6 .byte (Int32.ofNat k) (own_tab (fun _ => 0) (k)) (.int (0 : Int32)) := by rw [own_tab_pad]; exact V_b_6.pad (pad_rep [] _ k)
  have pre8 := fun τ (κ : Steps p.tables e below (T6.setTop (mkF m 20 #[.val (.ref tb), .val (.int (0 : Int32)), .val (.int (Int32.ofNat k)), .val (.int (Int32.ofNat k)), .val (.ref b)] [(.ref tb), (.int (0 : Int32)), (.ref b), (.int (0 : Int32)), (.ref tb)])) τ) => pre7 τ (by
    refine XS.astore X6.here hx rfl (hb hby d25_12) rfl rfl (l' := #[.val (.ref tb), .val (.int (0 : Int32)), .val (.int (Int32.ofNat k)), .val (.int (Int32.ofNat k)), .val (.ref b)]) rfl ?_
    show Steps p.tables e below (T6.setTop (mkF m 14 #[.val (.ref tb), .val (.int (0 : Int32)), .val (.int (Int32.ofNat k)), .val (.int (Int32.ofNat k)), .val (.ref b)] [])) _
    refine XS.aloadN X6.here hx rfl (hb hby d25_14) rfl rfl ?_
    refine XS.iloadN X6.here hx rfl (hb hby d25_15) rfl ?_
    refine XS.aload X6.here hx rfl (hb hby d25_16) rfl rfl ?_
    refine XS.iconst X6.here hx rfl (hb hby d25_18) ?_
    refine XS.aloadN X6.here hx rfl (hb hby d25_19) rfl rfl ?_
    show Steps p.tables e below (T6.setTop (mkF m 20 #[.val (.ref tb), .val (.int (0 : Int32)), .val (.int (Int32.ofNat k)), .val (.int (Int32.ofNat k)), .val (.ref b)] [(.ref tb), (.int (0 : Int32)), (.ref b), (.int (0 : Int32)), (.ref tb)])) _
    exact κ)
  obtain ⟨cl9, Ar9, -, S9, M9, -, -⟩ := id Va_6
  have pre10 := fun τ (κ : Steps p.tables e below (T6.setTop (mkF m 23 #[.val (.ref tb), .val (.int (0 : Int32)), .val (.int (Int32.ofNat k)), .val (.int (Int32.ofNat k)), .val (.ref b)] [(.int ((Int32.ofNat z) - (0 : Int32))), (.int (0 : Int32)), (.ref b), (.int (0 : Int32)), (.ref tb)])) τ) => pre8 τ (by
    refine X6.arraylength hx (by rw [e6]; exact Ar9.1) (State.isArrayOf_alike hZ.alike Ar9.2.1) (g := (mkF m 20 #[.val (.ref tb), .val (.int (0 : Int32)), .val (.int (Int32.ofNat k)), .val (.int (Int32.ofNat k)), .val (.ref b)] [(.ref tb), (.int (0 : Int32)), (.ref b), (.int (0 : Int32)), (.ref tb)])) rfl rfl (hb hby d25_20) _ ?_
    rw [len_of S9 M9]
    show Steps p.tables e below (T6.setTop (mkF m 21 #[.val (.ref tb), .val (.int (0 : Int32)), .val (.int (Int32.ofNat k)), .val (.int (Int32.ofNat k)), .val (.ref b)] [(.int (Int32.ofNat z)), (.int (0 : Int32)), (.ref b), (.int (0 : Int32)), (.ref tb)])) _
    refine XS.iloadN X6.here hx rfl (hb hby d25_21) rfl ?_
    refine XS.isub X6.here hx rfl (hb hby d25_22) rfl ?_
    show Steps p.tables e below (T6.setTop (mkF m 23 #[.val (.ref tb), .val (.int (0 : Int32)), .val (.int (Int32.ofNat k)), .val (.int (Int32.ofNat k)), .val (.ref b)] [(.int ((Int32.ofNat z) - (0 : Int32))), (.int (0 : Int32)), (.ref b), (.int (0 : Int32)), (.ref tb)])) _
    exact κ)
  rw [show ((Int32.ofNat z) - (0 : Int32)) = (Int32.ofNat z) from (Int32.sub_zero _)] at pre10
  have pre11 := fun τ (κ : Steps p.tables e below (T6.setTop (mkF m 24 #[.val (.ref tb), .val (.int (0 : Int32)), .val (.int (Int32.ofNat k)), .val (.int (Int32.ofNat k)), .val (.ref b)] [(.int (Int32.ofNat k)), (.int (Int32.ofNat z)), (.int (0 : Int32)), (.ref b), (.int (0 : Int32)), (.ref tb)])) τ) => pre10 τ (by
    refine XS.iloadN X6.here hx rfl (hb hby d25_23) rfl ?_
    show Steps p.tables e below (T6.setTop (mkF m 24 #[.val (.ref tb), .val (.int (0 : Int32)), .val (.int (Int32.ofNat k)), .val (.int (Int32.ofNat k)), .val (.ref b)] [(.int (Int32.ofNat k)), (.int (Int32.ofNat z)), (.int (0 : Int32)), (.ref b), (.int (0 : Int32)), (.ref tb)])) _
    exact κ)
  obtain ⟨_, _, ⟨T12, L12, k12, n12⟩, -, X12, ⟨Lc12, hQ12, l12, y12, z12⟩, st12⟩ := Jvm.LawKit.callS X6 hx (y := (⟨"java/lang/Math", "min", "(II)I"⟩ : MethodName)) hown (mvT hZ (hw _ (List.mem_of_getElem? (i := 119) rfl))) (mvT hZ (hw _ (List.mem_of_getElem? (i := 69) rfl))) (mvT hZ (hw _ (List.mem_of_getElem? (i := 70) rfl))) (mvT hZ (hw _ (List.mem_of_getElem? (i := 71) rfl))) (by decide) (backOf (W := 4) (rm14n l Z a0 hw [] z k h6 n0 Z6 hk (by omega)) hZ (hw _ (List.mem_of_getElem? (i := 71) rfl)) (hw _ (List.mem_of_getElem? (i := 70) rfl)) (Nat.le_of_ble_eq_true rfl) (Nat.le_of_ble_eq_true rfl)) (g := (mkF m 24 #[.val (.ref tb), .val (.int (0 : Int32)), .val (.int (Int32.ofNat k)), .val (.int (Int32.ofNat k)), .val (.ref b)] [(.int (Int32.ofNat k)), (.int (Int32.ofNat z)), (.int (0 : Int32)), (.ref b), (.int (0 : Int32)), (.ref tb)])) rfl (by rw [hml]; rfl) (argsL := [(.int (Int32.ofNat z)), (.int (Int32.ofNat k))]) (rest := [(.int (0 : Int32)), (.ref b), (.int (0 : Int32)), (.ref tb)]) (lenOf pd_11 rfl) rfl (by show 2 * 0 + _ ≤ _; exact Nat.le_of_eq rfl) (hb hby d25_24) (fun _ _ => ⟨rfl, e6, (by decide : 1 + 0 ≤ _), (by decide : 32 + 0 ≤ _)⟩)
  dsimp only [Pt.U, Pt.locs, Pt.cells, Pt.slots] at X12 l12 y12 z12 st12 hQ12
  subst l12 y12 z12
  obtain ⟨rfl, Nq12, hh12⟩ := hQ12
  have Va_12 : Arv Z T12.heap tb kb .byte (Int32.ofNat z) (own_tab g (z)) (.int (0 : Int32)) := by rw [hh12]; exact Va_6
  have Vb_12 : Arv Z T12.heap b k6 .byte (Int32.ofNat k) (own_tab (fun _ => 0) (k)) (.int (0 : Int32)) := by rw [hh12]; exact Vb
  have Z12 : n0 ≤ T12.heap.size := by rw [hh12]; exact Z6
  have Kp12 : Keep h0 T12.heap [] := by rw [hh12]; exact Kp6
  have N12 := Fr.app N2 Nq12
  have pre13 := fun τ (κ : Steps p.tables e below (T12.setTop (mkF m 27 #[.val (.ref tb), .val (.int (0 : Int32)), .val (.int (Int32.ofNat k)), .val (.int (Int32.ofNat k)), .val (.ref b)] [(.int (Int32.ofNat k)), (.int (0 : Int32)), (.ref b), (.int (0 : Int32)), (.ref tb)])) τ) => pre11 τ (st12 _ κ)
  obtain ⟨T14, h14, L14, X14, e14, N14, K14, A14, st14⟩ := cpA X12 hx hZ hown (hw _ (List.mem_of_getElem? (i := 120) rfl)) (hw _ (List.mem_of_getElem? (i := 123) rfl)) (hw _ (List.mem_of_getElem? (i := 121) rfl)) (hw _ (List.mem_of_getElem? (i := 122) rfl)) rfl (us := (own_tab g (k))) Va_12 Vb_12 (Or.inl ⟨rfl, rfl⟩) (by decide) (by decide) (own_nn (by omega)) (by rw [own_clamp (by omega), own_clamp (by omega)]; show 0 + k ≤ z; omega) (by rw [own_clamp (by omega)]; exact Nat.le_of_eq (Nat.zero_add _)) (own_usB (by omega) (by omega)) (by rw [own_clamp (by omega), own_tab_len]; exact Nat.le_of_eq (Nat.zero_add _)) N12 g_b (g := (mkF m 27 #[.val (.ref tb), .val (.int (0 : Int32)), .val (.int (Int32.ofNat k)), .val (.int (Int32.ofNat k)), .val (.ref b)] [(.int (Int32.ofNat k)), (.int (0 : Int32)), (.ref b), (.int (0 : Int32)), (.ref tb)])) rfl (by rw [hml]; rfl) rfl (hb hby d25_27) (by decide) (W := 0) (by show 2 * 0 + _ ≤ _; exact Nat.le_of_eq rfl) (by decide)
  have Va_14 : Arv Z h14 tb kb .byte (Int32.ofNat z) (own_tab g (z)) (.int (0 : Int32)) := Va_12.keep K14 (ninS ne_tb_b nin0)
  have Z14 : n0 ≤ h14.size := Nat.le_trans Z12 K14.1
  have Kp14 : Keep h0 h14 [] := Kp12.trans K14 (allS (Or.inr sz_b) all0)
  have V_b_14 : Arv Z h14 b k6 .byte (Int32.ofNat k) (own_tab g (k)) (.int (0 : Int32)) := (by have q := A14; rw [own_clamp (by omega)] at q; exact own_copyB ▸ q)
  have pre15 := fun τ (κ : Steps p.tables e below (T14.setTop (mkF m 30 #[.val (.ref tb), .val (.int (0 : Int32)), .val (.int (Int32.ofNat k)), .val (.int (Int32.ofNat k)), .val (.ref b)] [])) τ) => pre13 τ (st14 _ κ)
  have pre16 := fun τ (κ : Steps p.tables e below (T14.setTop (mkF m 32 #[.val (.ref tb), .val (.int (0 : Int32)), .val (.int (Int32.ofNat k)), .val (.int (Int32.ofNat k)), .val (.ref b)] [(.ref b)])) τ) => pre15 τ (by
    refine XS.aload X14.here hx rfl (hb hby d25_30) rfl rfl ?_
    show Steps p.tables e below (T14.setTop (mkF m 32 #[.val (.ref tb), .val (.int (0 : Int32)), .val (.int (Int32.ofNat k)), .val (.int (Int32.ofNat k)), .val (.ref b)] [(.ref b)])) _
    exact κ)
  obtain ⟨fs, hr, hrun, hended, hW, hsame⟩ := X14.leave (v := some (.ref b)) (fun h => by rw [Bd.returns] at h; cases h)
  refine ⟨_, _, pre16 _ ?_, hrun, hended, _, _, rfl, ?_, ⟨_, rfl⟩, hW, hsame.mono (by decide) (by decide)⟩
  · jvm_step X14.here [X14.here.top, hx, (hb hby d25_32), X14.method', Bd.returns, Value.isRef, FieldType.isReference]
    first | (intro acts; rw [hr _ acts rfl rfl rfl]) | rw [hr _ _ rfl rfl rfl]
    exact Steps.refl _
  · show Q25 Z tb z k kb g h0 n0 _ T14.heap _
    rw [e14]
    exact ⟨b, k6, rfl, N14, Kp14, V_b_14, sz_b⟩
theorem ef_24 (m : MethodId) (tb : Addr) (z : Nat) (k : Nat) : entryFrame m #[(.ref tb), (.int (0 : Int32)), (.int (Int32.ofNat k))] 3 = mkF m 0 #[.val (.ref tb), .val (.int (0 : Int32)), .val (.int (Int32.ofNat k))] [] := by first | (simp [entryFrame, mkF, argsToLocals, Value.category]; done) | rfl
def Q24 (Z : State) (tb : Addr) (z : Nat) (k : Nat) (kb : ClassId) (g : Nat → Int32) (h0 : Heap) (n0 : Nat) (v : Option Value) (h : Heap) (L : List Loc) : Prop := ∃ (b : Addr) (kc : ClassId), v = some (.ref b) ∧ Fr n0 L ∧ Keep h0 h [] ∧ Arv Z h b kc .byte (Int32.ofNat k) (own_tab g (k)) (.int (0 : Int32)) ∧ h0.size ≤ b
set_option maxRecDepth 65536 in
set_option maxHeartbeats 40000000 in
theorem rm24 (l : Launch) (Z : State) (a0 : Array Value) (hw : ∀ d ∈ tables_1, d.before a0 Z = true) (ws : List Jvm.Cond) (tb : Addr) (z : Nat) (k : Nat) (kb : ClassId) (g : Nat → Int32) (h0 : Heap) (n0 : Nat) (Z0 : n0 ≤ h0.size) (Va : Arv Z h0 tb kb .byte (Int32.ofNat z) (own_tab g (z)) (.int (0 : Int32))) (hz : z ≤ 32) (hk : k < z) :
    MetFree l (⟨"java/util/Arrays", "copyOfRange", "([BII)[B"⟩ : MethodName) (head1 (Jvm.Cond.code (⟨"java/util/Arrays", "copyOfRange", "([BII)[B"⟩ : MethodName) jdk_65_method_132_code 3 (some (.array .byte)) :: ws) ({ frames := 2, cells := 1, slots := 32, locals := 56 } : Room)) (fun α υ => α = #[(.ref tb), (.int (0 : Int32)), (.int (Int32.ofNat k))] ∧ Z.Warmed39 υ.vm ∧ υ.heap = h0) (fun _ _ _ _ _ => True) (fun _ υ ω υ' => ∃ v L, ω = .returned v ∧ Q24 Z tb z k kb g h0 n0 v υ'.heap L ∧ FrameEnd υ ω υ' L ({ frames := 2, cells := 1, slots := 32, locals := 56 } : Room).cells ({ frames := 2, cells := 1, slots := 32, locals := 56 } : Room).slots) := by
  refine MetFree.of_bodySF (plainFor_of_name pn_java_util_Arrays) hisR ?_
  intro p e s m args below meth c s₁ Bd hml0 hP hK
  obtain ⟨rfl, hZ, hh⟩ := hP
  have hx := Bd.exec
  have hby := Bd.bytes
  have hml : c.maxLocals = 3 := hml0
  have hown : s.vm.findClass "java/util/Arrays" = some m.cls := findClass_of_methodNamed Bd.named
  have hnm := (name_of_methodNamed Bd.named Bd.method).1
  have X0 : Stand p l e ({ frames := 2, cells := 1, slots := 32, locals := 56 } : Room) s m #[(.ref tb), (.int (0 : Int32)), (.int (Int32.ofNat k))] below meth c s₁ [] 0 0 := Stand.of_body Bd
  have e0 : s₁.heap = h0 := by rw [← hh, Bd.state]; rfl
  have N0 := Fr.nil n0
  have pre0 : ∀ τ, Steps p.tables e below (s₁.setTop (mkF m 0 #[.val (.ref tb), .val (.int (0 : Int32)), .val (.int (Int32.ofNat k))] [])) τ → Steps p.tables e below (s₁.setTop (entryFrame m #[(.ref tb), (.int (0 : Int32)), (.int (Int32.ofNat k))] 3)) τ := fun τ κ => castTop (ef_24 m tb z k) κ
  have Kp0 : Keep h0 h0 [] := Keep.refl _ _
  have pre1 := fun τ (κ : Steps p.tables e below (s₁.setTop (mkF m 6 #[.val (.ref tb), .val (.int (0 : Int32)), .val (.int (Int32.ofNat k))] [(.ref tb), (.int (Int32.ofNat k))])) τ) => pre0 τ (by
    refine XS.iloadN X0.here hx rfl (hb hby d24_0) rfl ?_
    refine XS.ifNo X0.here hx rfl (hb hby d24_1) rfl ((if0 _ _).trans (teq rfl).2) ?_
    show Steps p.tables e below (s₁.setTop (mkF m 4 #[.val (.ref tb), .val (.int (0 : Int32)), .val (.int (Int32.ofNat k))] [])) _
    refine XS.iloadN X0.here hx rfl (hb hby d24_4) rfl ?_
    refine XS.aloadN X0.here hx rfl (hb hby d24_5) rfl rfl ?_
    show Steps p.tables e below (s₁.setTop (mkF m 6 #[.val (.ref tb), .val (.int (0 : Int32)), .val (.int (Int32.ofNat k))] [(.ref tb), (.int (Int32.ofNat k))])) _
    exact κ)
  obtain ⟨cl2, Ar2, -, S2, M2, -, -⟩ := id Va
  have pre3 := fun τ (κ : Steps p.tables e below (s₁.setTop (mkF m 13 #[.val (.ref tb), .val (.int (0 : Int32)), .val (.int (Int32.ofNat k))] [(.int (Int32.ofNat k)), (.int (0 : Int32)), (.ref tb)])) τ) => pre1 τ (by
    refine X0.arraylength hx (by rw [e0]; exact Ar2.1) (State.isArrayOf_alike hZ.alike Ar2.2.1) (g := (mkF m 6 #[.val (.ref tb), .val (.int (0 : Int32)), .val (.int (Int32.ofNat k))] [(.ref tb), (.int (Int32.ofNat k))])) rfl rfl (hb hby d24_6) _ ?_
    rw [len_of S2 M2]
    show Steps p.tables e below (s₁.setTop (mkF m 7 #[.val (.ref tb), .val (.int (0 : Int32)), .val (.int (Int32.ofNat k))] [(.int (Int32.ofNat z)), (.int (Int32.ofNat k))])) _
    refine XS.icmpNo X0.here hx rfl (hb hby d24_7) rfl (feq (fun q => absurd ((own_injN (by omega) (by omega)).mp q) (by omega))).1 ?_
    show Steps p.tables e below (s₁.setTop (mkF m 10 #[.val (.ref tb), .val (.int (0 : Int32)), .val (.int (Int32.ofNat k))] [])) _
    refine XS.aloadN X0.here hx rfl (hb hby d24_10) rfl rfl ?_
    refine XS.iloadN X0.here hx rfl (hb hby d24_11) rfl ?_
    refine XS.iloadN X0.here hx rfl (hb hby d24_12) rfl ?_
    show Steps p.tables e below (s₁.setTop (mkF m 13 #[.val (.ref tb), .val (.int (0 : Int32)), .val (.int (Int32.ofNat k))] [(.int (Int32.ofNat k)), (.int (0 : Int32)), (.ref tb)])) _
    exact κ)
  obtain ⟨_, _, ⟨T4, L4, k4, n4⟩, -, X4, ⟨Lc4, hQ4, l4, y4, z4⟩, st4⟩ := Jvm.LawKit.callS X0 hx (y := (⟨"java/util/Arrays", "copyOfRangeByte", "([BII)[B"⟩ : MethodName)) hown (mvT hZ (hw _ (List.mem_of_getElem? (i := 113) rfl))) (mvT hZ (hw _ (List.mem_of_getElem? (i := 114) rfl))) (mvT hZ (hw _ (List.mem_of_getElem? (i := 111) rfl))) (mvT hZ (hw _ (List.mem_of_getElem? (i := 115) rfl))) (by decide) (backOf (W := 0) (rm25 l Z a0 hw [] tb z k kb g h0 n0 Z0 Va hz hk) hZ (hw _ (List.mem_of_getElem? (i := 115) rfl)) (hw _ (List.mem_of_getElem? (i := 111) rfl)) (Nat.le_of_ble_eq_true rfl) (Nat.le_of_ble_eq_true rfl)) (g := (mkF m 13 #[.val (.ref tb), .val (.int (0 : Int32)), .val (.int (Int32.ofNat k))] [(.int (Int32.ofNat k)), (.int (0 : Int32)), (.ref tb)])) rfl (by rw [hml]; rfl) (argsL := [(.ref tb), (.int (0 : Int32)), (.int (Int32.ofNat k))]) (rest := []) (lenOf pd_19 rfl) rfl (by show 2 * 0 + _ ≤ _; exact Nat.le_of_eq rfl) (hb hby d24_13) (fun _ _ => ⟨rfl, e0, (by decide : 0 + 1 ≤ _), (by decide : 0 + 32 ≤ _)⟩)
  dsimp only [Pt.U, Pt.locs, Pt.cells, Pt.slots] at X4 l4 y4 z4 st4 hQ4
  subst l4 y4 z4
  obtain ⟨b, kc, rfl, Nq4, K4, Vb, sb⟩ := hQ4
  have Va_4 : Arv Z T4.heap tb kb .byte (Int32.ofNat z) (own_tab g (z)) (.int (0 : Int32)) := Va.keep K4 nin0
  have Z4 : n0 ≤ T4.heap.size := Nat.le_trans Z0 K4.1
  have Kp4 : Keep h0 T4.heap [] := Kp0.trans K4 all0
  have N4 := Fr.app N0 Nq4
  have pre5 := fun τ (κ : Steps p.tables e below (T4.setTop (mkF m 16 #[.val (.ref tb), .val (.int (0 : Int32)), .val (.int (Int32.ofNat k))] [(.ref b)])) τ) => pre3 τ (st4 _ κ)
  obtain ⟨fs, hr, hrun, hended, hW, hsame⟩ := X4.leave (v := some (.ref b)) (fun h => by rw [Bd.returns] at h; cases h)
  refine ⟨_, _, pre5 _ ?_, hrun, hended, _, _, rfl, ?_, ⟨_, rfl⟩, hW, hsame.mono (by decide) (by decide)⟩
  · jvm_step X4.here [X4.here.top, hx, (hb hby d24_16), X4.method', Bd.returns, Value.isRef, FieldType.isReference]
    first | (intro acts; rw [hr _ acts rfl rfl rfl]) | rw [hr _ _ rfl rfl rfl]
    exact Steps.refl _
  · show Q24 Z tb z k kb g h0 n0 _ T4.heap _
    exact ⟨b, kc, rfl, N4, Kp4, Vb, sb⟩
theorem ef_27 (m : MethodId) (so : Addr) (tb : Addr) (cd : Int32) (n : Nat) : entryFrame m #[(.ref so), (.ref tb), (.int cd)] 3 = mkF m 0 #[.val (.ref so), .val (.ref tb), .val (.int cd)] [] := by first | (simp [entryFrame, mkF, argsToLocals, Value.category]; done) | rfl
def Q27 (Z : State) (so : Addr) (tb : Addr) (cd : Int32) (n : Nat) (f : Nat → Int32) (h0 : Heap) (n0 : Nat) (v : Option Value) (h : Heap) (L : List Loc) : Prop := v = none ∧ Fr n0 L ∧ Keep h0 h [so] ∧ own_STR Z h so f n
set_option maxRecDepth 65536 in
set_option maxHeartbeats 40000000 in
theorem rm27 (l : Launch) (Z : State) (a0 : Array Value) (hw : ∀ d ∈ tables_1, d.before a0 Z = true) (ws : List Jvm.Cond) (so : Addr) (tb : Addr) (cd : Int32) (n : Nat) (f : Nat → Int32) (h0 : Heap) (n0 : Nat) (Z0 : n0 ≤ h0.size) (E_s : Exa Z h0 so "java/lang/String") (Fv : Fld Z h0 so "java/lang/String" "value" "[B" .null) (Fc : Fld Z h0 so "java/lang/String" "coder" "B" (.int (0 : Int32))) (Bt : own_BY Z h0 tb cd f n) (hts : tb ≠ so) (gs : n0 ≤ so) :
    MetFree l (⟨"java/lang/String", "<init>", "([BB)V"⟩ : MethodName) (head1 (Jvm.Cond.code (⟨"java/lang/String", "<init>", "([BB)V"⟩ : MethodName) jdk_42_method_151_code 3 none :: ws) ({ frames := 1, cells := 0, slots := 0, locals := 12 } : Room)) (fun α υ => α = #[(.ref so), (.ref tb), (.int cd)] ∧ Z.Warmed39 υ.vm ∧ υ.heap = h0) (fun _ _ _ _ _ => True) (fun _ υ ω υ' => ∃ v L, ω = .returned v ∧ Q27 Z so tb cd n f h0 n0 v υ'.heap L ∧ FrameEnd υ ω υ' L ({ frames := 1, cells := 0, slots := 0, locals := 12 } : Room).cells ({ frames := 1, cells := 0, slots := 0, locals := 12 } : Room).slots) := by
  refine MetFree.of_bodySF (plainFor_of_name pn_java_lang_String) hisR ?_
  intro p e s m args below meth c s₁ Bd hml0 hP hK
  obtain ⟨rfl, hZ, hh⟩ := hP
  have hx := Bd.exec
  have hby := Bd.bytes
  have hml : c.maxLocals = 3 := hml0
  have hown : s.vm.findClass "java/lang/String" = some m.cls := findClass_of_methodNamed Bd.named
  have hnm := (name_of_methodNamed Bd.named Bd.method).1
  have X0 : Stand p l e ({ frames := 1, cells := 0, slots := 0, locals := 12 } : Room) s m #[(.ref so), (.ref tb), (.int cd)] below meth c s₁ [] 0 0 := Stand.of_body Bd
  have e0 : s₁.heap = h0 := by rw [← hh, Bd.state]; rfl
  have N0 := Fr.nil n0
  have pre0 : ∀ τ, Steps p.tables e below (s₁.setTop (mkF m 0 #[.val (.ref so), .val (.ref tb), .val (.int cd)] [])) τ → Steps p.tables e below (s₁.setTop (entryFrame m #[(.ref so), (.ref tb), (.int cd)] 3)) τ := fun τ κ => castTop (ef_27 m so tb cd n) κ
  have Kp0 : Keep h0 h0 [so] := Keep.refl _ _
  have pre1 := fun τ (κ : Steps p.tables e below (s₁.setTop (mkF m 1 #[.val (.ref so), .val (.ref tb), .val (.int cd)] [(.ref so)])) τ) => pre0 τ (by
    refine XS.aloadN X0.here hx rfl (hb hby d27_0) rfl rfl ?_
    show Steps p.tables e below (s₁.setTop (mkF m 1 #[.val (.ref so), .val (.ref tb), .val (.int cd)] [(.ref so)])) _
    exact κ)
  obtain ⟨T2, X2, e2, st2⟩ := initO X0 hx hZ hown (hw _ (List.mem_of_getElem? (i := 20) rfl)) (hw _ (List.mem_of_getElem? (i := 21) rfl)) (hw _ (List.mem_of_getElem? (i := 22) rfl)) e0 (g := (mkF m 1 #[.val (.ref so), .val (.ref tb), .val (.int cd)] [(.ref so)])) rfl (by rw [hml]; rfl) rfl (hb hby d27_1) (by decide) (W := 0) (by show 2 * 0 + _ ≤ _; exact Nat.le_of_eq rfl) (by decide)
  have pre3 := fun τ (κ : Steps p.tables e below (T2.setTop (mkF m 4 #[.val (.ref so), .val (.ref tb), .val (.int cd)] [])) τ) => pre1 τ (st2 _ κ)
  have pre4 := fun τ (κ : Steps p.tables e below (T2.setTop (mkF m 6 #[.val (.ref so), .val (.ref tb), .val (.int cd)] [(.ref tb), (.ref so)])) τ) => pre3 τ (by
    refine XS.aloadN X2.here hx rfl (hb hby d27_4) rfl rfl ?_
    refine XS.aloadN X2.here hx rfl (hb hby d27_5) rfl rfl ?_
    show Steps p.tables e below (T2.setTop (mkF m 6 #[.val (.ref so), .val (.ref tb), .val (.int cd)] [(.ref tb), (.ref so)])) _
    exact κ)
  obtain ⟨T5, h5, X5, e5, W5, st5⟩ := putF X2 hx hZ hown (host := "") (Or.inl (hw _ (List.mem_of_getElem? (i := 29) rfl))) Via.refl e2 Fv E_s (Or.inr ⟨(hw _ (List.mem_of_getElem? (i := 25) rfl)), rfl, hnm⟩) (hw _ (List.mem_of_getElem? (i := 10) rfl)) (ty := (.array .byte)) (by decide) rfl rfl (g := (mkF m 6 #[.val (.ref so), .val (.ref tb), .val (.int cd)] [(.ref tb), (.ref so)])) rfl rfl (hb hby d27_6)
  have E_s_5 : Exa Z h5 so "java/lang/String" := E_s.wr W5
  have Fc_5 : Fld Z h5 so "java/lang/String" "coder" "B" (.int (0 : Int32)) := Fc.other W5 (Or.inr (slot_ne (Or.inr (hw _ (List.mem_of_getElem? (i := 26) rfl))) (Or.inr (hw _ (List.mem_of_getElem? (i := 25) rfl))) (by decide) (t := .byte) (t' := (.array .byte)) (by decide) (by decide)))
  have Kp5 : Keep h0 h5 [so] := Kp0.wr W5 (Or.inl (List.mem_of_getElem? (i := 0) rfl))
  have N5 := Fr.snoc X5 N0 gs
  have Z5 : n0 ≤ h5.size := Nat.le_trans Z0 (Keep.of_wr W5).1
  have F_value_so_5 : Fld Z h5 so "java/lang/String" "value" "[B" (.ref tb) := Fv.same W5
  have pre6 := fun τ (κ : Steps p.tables e below (T5.setTop (mkF m 9 #[.val (.ref so), .val (.ref tb), .val (.int cd)] [])) τ) => pre4 τ (st5 _ κ)
  have Bt1 := Bt.other W5 hts
  have pre7 := fun τ (κ : Steps p.tables e below (T5.setTop (mkF m 11 #[.val (.ref so), .val (.ref tb), .val (.int cd)] [(.int cd), (.ref so)])) τ) => pre6 τ (by
    refine XS.aloadN X5.here hx rfl (hb hby d27_9) rfl rfl ?_
    refine XS.iloadN X5.here hx rfl (hb hby d27_10) rfl ?_
    show Steps p.tables e below (T5.setTop (mkF m 11 #[.val (.ref so), .val (.ref tb), .val (.int cd)] [(.int cd), (.ref so)])) _
    exact κ)
  obtain ⟨T8, h8, X8, e8, W8, st8⟩ := putFN X5 hx hZ hown (hw _ (List.mem_of_getElem? (i := 30) rfl)) Via.refl e5 Fc_5 E_s_5 (Or.inr ⟨(hw _ (List.mem_of_getElem? (i := 26) rfl)), rfl, hnm⟩) (hw _ (List.mem_of_getElem? (i := 10) rfl)) (ty := .byte) (v' := (.int cd)) (by decide) (by rcases Bt.cd with q | q <;> rw [q] <;> rfl) (by rcases Bt.cd with q | q <;> rw [q] <;> rfl) (g := (mkF m 11 #[.val (.ref so), .val (.ref tb), .val (.int cd)] [(.int cd), (.ref so)])) rfl rfl (hb hby d27_11)
  have E_s_8 : Exa Z h8 so "java/lang/String" := E_s_5.wr W8
  have F_value_so_8 : Fld Z h8 so "java/lang/String" "value" "[B" (.ref tb) := F_value_so_5.other W8 (Or.inr (slot_ne (Or.inr (hw _ (List.mem_of_getElem? (i := 25) rfl))) (Or.inr (hw _ (List.mem_of_getElem? (i := 26) rfl))) (by decide) (t := (.array .byte)) (t' := .byte) (by decide) (by decide)))
  have Kp8 : Keep h0 h8 [so] := Kp5.wr W8 (Or.inl (List.mem_of_getElem? (i := 0) rfl))
  have N8 := Fr.snoc X8 N5 gs
  have Z8 : n0 ≤ h8.size := Nat.le_trans Z5 (Keep.of_wr W8).1
  have F_coder_so_8 : Fld Z h8 so "java/lang/String" "coder" "B" (.int cd) := Fc_5.same W8
  have pre9 := fun τ (κ : Steps p.tables e below (T8.setTop (mkF m 14 #[.val (.ref so), .val (.ref tb), .val (.int cd)] [])) τ) => pre7 τ (st8 _ κ)
  have Bt2 := Bt1.other W8 hts
  obtain ⟨fs, hr, hrun, hended, hW, hsame⟩ := X8.leave (v := none) (fun _ => rfl)
  refine ⟨_, _, pre9 _ ?_, hrun, hended, _, _, rfl, ?_, ⟨_, rfl⟩, hW, hsame.mono (by decide) (by decide)⟩
  · exact X8.returnOut hx Bd.returns (hb hby d27_14) hr
  · show Q27 Z so tb cd n f h0 n0 _ T8.heap _
    rw [e8]
    exact ⟨rfl, N8, Kp8, tb, cd, E_s_8, F_value_so_8, F_coder_so_8, Bt2⟩
set_option maxRecDepth 65536 in
set_option maxHeartbeats 40000000 in
theorem loopB {p : Program} {l : Launch} {e : Env} {R : Room} {s : State} {m : MethodId} {args : Array Value} {below : List Frame} {meth : Method} {c : Code} {Z : State} {a0 : Array Value} (hx : p.tables.exec = Jvm.exec) (hZ : Z.Warmed39 s.vm) (hw : ∀ d ∈ tables_1, d.before a0 Z = true) (hby : c.code = jdk_52_method_22_code) (hml : c.maxLocals = 7) (hown : s.vm.findClass "java/lang/StringUTF16" = some m.cls) {n0 cells slots : Nat} (tb db : Addr) (kb kd : ClassId) (n k : Nat) (f : Nat → Int32) (zc : Int32) (fm : Value) (U0 : own_ST Z zc fm) (hn : n ≤ 16) (hk : k ≤ n) (hf : ∀ j, j < n → own_ch (f j)) (hcb : tb ≠ db) (gb : n0 ≤ db) (hRf : 0 + 1 ≤ R.frames) (hRl : 0 + (2 + 11) + 0 ≤ R.locals) (hRc : cells ≤ R.cells) (hRs : slots ≤ R.slots) :
    ∀ (fu i : Nat) (T0 : State) (h0 : Heap) (locs : List Loc) (s6 : Slot), One s6 → k ≤ i + fu → i ≤ k → (∀ j, j < i → ¬ (255 : Int32) < f j) → Stand p l e R s m args below meth c T0 locs cells slots → T0.heap = h0 → Fr n0 locs → n0 ≤ h0.size → Old Z n0 h0 → Arv Z h0 tb kb .byte (Int32.ofNat (2 * n)) (own_tab (own_u16 f) (2 * n)) (.int (0 : Int32)) → Arv Z h0 db kd .byte (Int32.ofNat k) (own_tab (fun q => if q < i then own_l1 f q else 0) k) (.int (0 : Int32)) →
      ∃ (T' : State) (h' : Heap) (locs' : List Loc) (k9 pc9 : Nat) (L9 : Array Slot), Stand p l e R s m args below meth c T' locs' cells slots ∧ T'.heap = h' ∧ Fr n0 locs' ∧ Keep h0 h' [db] ∧ k9 ≤ k ∧ (∀ j, j < k9 → ¬ (255 : Int32) < f j) ∧ (k9 < k → (255 : Int32) < f k9) ∧ Arv Z h' db kd .byte (Int32.ofNat k) (own_tab (fun q => if q < k9 then own_l1 f q else 0) k) (.int (0 : Int32)) ∧ decode c.code pc9 = .ok (.ireturn, 1) ∧ ∀ t, Steps p.tables e below (T'.setTop (mkF m pc9 L9 [.int (Int32.ofNat k9)])) t → Steps p.tables e below (T0.setTop (mkF m 10 #[.val (.ref tb), .val (.int (Int32.ofNat i)), .val (.ref db), .val (.int (Int32.ofNat i)), .val (.int (Int32.ofNat k)), .val (.int (Int32.ofNat i)), s6] [])) t := by
  intro fu
  induction fu with
  | zero =>
    intro i T0 h0 locs s6 hs6 hfu hin hall X0 e0 N0 Z0 O0 Va Vb
    have hgt : ¬ i < k := by omega
    have pre0 := fun τ (κ : Steps p.tables e below (T0.setTop (mkF m 10 #[.val (.ref tb), .val (.int (Int32.ofNat i)), .val (.ref db), .val (.int (Int32.ofNat i)), .val (.int (Int32.ofNat k)), .val (.int (Int32.ofNat i)), s6] [])) τ) => κ
    have Kp0 : Keep h0 h0 [db] := Keep.refl _ _
    have pre1 := fun τ (κ : Steps p.tables e below (T0.setTop (mkF m 55 #[.val (.ref tb), .val (.int (Int32.ofNat i)), .val (.ref db), .val (.int (Int32.ofNat i)), .val (.int (Int32.ofNat k)), .val (.int (Int32.ofNat i)), s6] [(.int (Int32.ofNat k))])) τ) => pre0 τ (by
      refine XS.iload X0.here hx rfl (hb hby d36_10) rfl ?_
      refine XS.iload X0.here hx rfl (hb hby d36_12) rfl ?_
      refine XS.icmpYes X0.here hx rfl (pc0 := 14) (pc' := 53) rfl (hb hby d36_14) rfl (flt (fun q => hgt ((own_ltN (by omega) (by omega)).mp q))).2.1 (by decide) (by decide) ?_
      show Steps p.tables e below (T0.setTop (mkF m 53 #[.val (.ref tb), .val (.int (Int32.ofNat i)), .val (.ref db), .val (.int (Int32.ofNat i)), .val (.int (Int32.ofNat k)), .val (.int (Int32.ofNat i)), s6] [])) _
      refine XS.iload X0.here hx rfl (hb hby d36_53) rfl ?_
      show Steps p.tables e below (T0.setTop (mkF m 55 #[.val (.ref tb), .val (.int (Int32.ofNat i)), .val (.ref db), .val (.int (Int32.ofNat i)), .val (.int (Int32.ofNat k)), .val (.int (Int32.ofNat i)), s6] [(.int (Int32.ofNat k))])) _
      exact κ)
    have hin' : i = k := by omega
    subst hin'
    exact ⟨T0, h0, _, i, 55, _, by simpa using X0, e0, N0, Kp0, by omega, hall, (fun q => absurd q (by omega)), Vb, (hb hby d36_55), pre1⟩
  | succ fu ih =>
    intro i T0 h0 locs s6 hs6 hfu hin hall X0 e0 N0 Z0 O0 Va Vb
    by_cases hgt : i < k
    · skip
      have pre0 := fun τ (κ : Steps p.tables e below (T0.setTop (mkF m 10 #[.val (.ref tb), .val (.int (Int32.ofNat i)), .val (.ref db), .val (.int (Int32.ofNat i)), .val (.int (Int32.ofNat k)), .val (.int (Int32.ofNat i)), s6] [])) τ) => κ
      have Kp0 : Keep h0 h0 [db] := Keep.refl _ _
      have pre1 := fun τ (κ : Steps p.tables e below (T0.setTop (mkF m 19 #[.val (.ref tb), .val (.int (Int32.ofNat i)), .val (.ref db), .val (.int (Int32.ofNat i)), .val (.int (Int32.ofNat k)), .val (.int (Int32.ofNat i)), s6] [(.int (Int32.ofNat i)), (.ref tb)])) τ) => pre0 τ (by
        refine XS.iload X0.here hx rfl (hb hby d36_10) rfl ?_
        refine XS.iload X0.here hx rfl (hb hby d36_12) rfl ?_
        refine XS.icmpNo X0.here hx rfl (hb hby d36_14) rfl (tlt ((own_ltN (by omega) (by omega)).mpr hgt)).2.1 ?_
        show Steps p.tables e below (T0.setTop (mkF m 17 #[.val (.ref tb), .val (.int (Int32.ofNat i)), .val (.ref db), .val (.int (Int32.ofNat i)), .val (.int (Int32.ofNat k)), .val (.int (Int32.ofNat i)), s6] [])) _
        refine XS.aloadN X0.here hx rfl (hb hby d36_17) rfl rfl ?_
        refine XS.iloadN X0.here hx rfl (hb hby d36_18) rfl ?_
        show Steps p.tables e below (T0.setTop (mkF m 19 #[.val (.ref tb), .val (.int (Int32.ofNat i)), .val (.ref db), .val (.int (Int32.ofNat i)), .val (.int (Int32.ofNat k)), .val (.int (Int32.ofNat i)), s6] [(.int (Int32.ofNat i)), (.ref tb)])) _
        exact κ)
      obtain ⟨_, _, ⟨T2, L2, k2, n2⟩, -, X2, ⟨Lc2, hQ2, l2, y2, z2⟩, st2⟩ := Jvm.LawKit.callS X0 hx (y := (⟨"java/lang/StringUTF16", "getChar", "([BI)C"⟩ : MethodName)) hown (mvT hZ (hw _ (List.mem_of_getElem? (i := 143) rfl))) (mvT hZ (hw _ (List.mem_of_getElem? (i := 144) rfl))) (mvT hZ (hw _ (List.mem_of_getElem? (i := 96) rfl))) (mvT hZ (hw _ (List.mem_of_getElem? (i := 145) rfl))) (by decide) (backOf (W := 0) (rm32 l Z a0 hw [] tb i n kb f zc fm h0 n0 Z0 O0 U0 Va hn (by omega) (hf i (by omega))) hZ (hw _ (List.mem_of_getElem? (i := 145) rfl)) (hw _ (List.mem_of_getElem? (i := 96) rfl)) hRf hRl) (g := (mkF m 19 #[.val (.ref tb), .val (.int (Int32.ofNat i)), .val (.ref db), .val (.int (Int32.ofNat i)), .val (.int (Int32.ofNat k)), .val (.int (Int32.ofNat i)), s6] [(.int (Int32.ofNat i)), (.ref tb)])) rfl (by rw [hml]; rfl) (argsL := [(.ref tb), (.int (Int32.ofNat i))]) (rest := []) (lenOf pd_5 rfl) rfl (by show 2 * 0 + _ ≤ _; exact Nat.le_of_eq rfl) (hb hby d36_19) (fun _ _ => ⟨rfl, e0, (by show cells + 0 ≤ R.cells; omega), (by show slots + 0 ≤ R.slots; omega)⟩)
      dsimp only [Pt.U, Pt.locs, Pt.cells, Pt.slots] at X2 l2 y2 z2 st2 hQ2
      subst l2 y2 z2
      obtain ⟨rfl, Nq2, hh2⟩ := hQ2
      have O0_2 : Old Z n0 T2.heap := by rw [hh2]; exact O0
      have Va_2 : Arv Z T2.heap tb kb .byte (Int32.ofNat (2 * n)) (own_tab (own_u16 f) (2 * n)) (.int (0 : Int32)) := by rw [hh2]; exact Va
      have Vb_2 : Arv Z T2.heap db kd .byte (Int32.ofNat k) (own_tab (fun q => if q < i then own_l1 f q else 0) (k)) (.int (0 : Int32)) := by rw [hh2]; exact Vb
      have Z2 : n0 ≤ T2.heap.size := by rw [hh2]; exact Z0
      have Kp2 : Keep h0 T2.heap [db] := by rw [hh2]; exact Kp0
      have N2 := Fr.app N0 Nq2
      have pre3 := fun τ (κ : Steps p.tables e below (T2.setTop (mkF m 22 #[.val (.ref tb), .val (.int (Int32.ofNat i)), .val (.ref db), .val (.int (Int32.ofNat i)), .val (.int (Int32.ofNat k)), .val (.int (Int32.ofNat i)), s6] [(.int (f i))])) τ) => pre1 τ (st2 _ κ)
      have pre4 := fun τ (κ : Steps p.tables e below (T2.setTop (mkF m 29 #[.val (.ref tb), .val (.int (Int32.ofNat i)), .val (.ref db), .val (.int (Int32.ofNat i)), .val (.int (Int32.ofNat k)), .val (.int (Int32.ofNat i)), .val (.int (f i))] [(.int (255 : Int32)), (.int (f i))])) τ) => pre3 τ (by
        refine XS.istore X2.here hx rfl (hb hby d36_22) rfl (l' := #[.val (.ref tb), .val (.int (Int32.ofNat i)), .val (.ref db), .val (.int (Int32.ofNat i)), .val (.int (Int32.ofNat k)), .val (.int (Int32.ofNat i)), .val (.int (f i))]) (own_s6 hs6) ?_
        show Steps p.tables e below (T2.setTop (mkF m 24 #[.val (.ref tb), .val (.int (Int32.ofNat i)), .val (.ref db), .val (.int (Int32.ofNat i)), .val (.int (Int32.ofNat k)), .val (.int (Int32.ofNat i)), .val (.int (f i))] [])) _
        refine XS.iload X2.here hx rfl (hb hby d36_24) rfl ?_
        refine XS.sipush X2.here hx rfl (hb hby d36_26) ?_
        show Steps p.tables e below (T2.setTop (mkF m 29 #[.val (.ref tb), .val (.int (Int32.ofNat i)), .val (.ref db), .val (.int (Int32.ofNat i)), .val (.int (Int32.ofNat k)), .val (.int (Int32.ofNat i)), .val (.int (f i))] [(.int (255 : Int32)), (.int (f i))])) _
        exact κ)
      by_cases hq : (255 : Int32) < (f i)
      · have pre5 := fun τ (κ : Steps p.tables e below (T2.setTop (mkF m 34 #[.val (.ref tb), .val (.int (Int32.ofNat i)), .val (.ref db), .val (.int (Int32.ofNat i)), .val (.int (Int32.ofNat k)), .val (.int (Int32.ofNat i)), .val (.int (f i))] [(.int (Int32.ofNat i))])) τ) => pre4 τ (by
          refine XS.icmpNo X2.here hx rfl (hb hby d36_29) rfl (tlt hq).2.2.2 ?_
          show Steps p.tables e below (T2.setTop (mkF m 32 #[.val (.ref tb), .val (.int (Int32.ofNat i)), .val (.ref db), .val (.int (Int32.ofNat i)), .val (.int (Int32.ofNat k)), .val (.int (Int32.ofNat i)), .val (.int (f i))] [])) _
          refine XS.iload X2.here hx rfl (hb hby d36_32) rfl ?_
          show Steps p.tables e below (T2.setTop (mkF m 34 #[.val (.ref tb), .val (.int (Int32.ofNat i)), .val (.ref db), .val (.int (Int32.ofNat i)), .val (.int (Int32.ofNat k)), .val (.int (Int32.ofNat i)), .val (.int (f i))] [(.int (Int32.ofNat i))])) _
          exact κ)
        exact ⟨T2, T2.heap, _, i, 34, _, by simpa using X2, rfl, N2, Kp2, by omega, hall, (fun _ => hq), Vb_2, (hb hby d36_34), pre5⟩
      · have pre6 := fun τ (κ : Steps p.tables e below (T2.setTop (mkF m 40 #[.val (.ref tb), .val (.int (Int32.ofNat i)), .val (.ref db), .val (.int (Int32.ofNat i)), .val (.int (Int32.ofNat k)), .val (.int (Int32.ofNat i)), .val (.int (f i))] [(.int ((f i).toInt8.toInt32)), (.int (Int32.ofNat i)), (.ref db)])) τ) => pre4 τ (by
          refine XS.icmpYes X2.here hx rfl (pc0 := 29) (pc' := 35) rfl (hb hby d36_29) rfl (flt hq).2.2.2 (by decide) (by decide) ?_
          show Steps p.tables e below (T2.setTop (mkF m 35 #[.val (.ref tb), .val (.int (Int32.ofNat i)), .val (.ref db), .val (.int (Int32.ofNat i)), .val (.int (Int32.ofNat k)), .val (.int (Int32.ofNat i)), .val (.int (f i))] [])) _
          refine XS.aloadN X2.here hx rfl (hb hby d36_35) rfl rfl ?_
          refine XS.iloadN X2.here hx rfl (hb hby d36_36) rfl ?_
          refine XS.iload X2.here hx rfl (hb hby d36_37) rfl ?_
          refine XS.i2b X2.here hx rfl (hb hby d36_39) rfl ?_
          show Steps p.tables e below (T2.setTop (mkF m 40 #[.val (.ref tb), .val (.int (Int32.ofNat i)), .val (.ref db), .val (.int (Int32.ofNat i)), .val (.int (Int32.ofNat k)), .val (.int (Int32.ofNat i)), .val (.int (f i))] [(.int ((f i).toInt8.toInt32)), (.int (Int32.ofNat i)), (.ref db)])) _
          exact κ)
        have hj9 : (Int32.ofNat i).toNatClampNeg = i := own_clamp (by omega)
        have hi9 : i < (own_tab (fun q => if q < i then own_l1 f q else 0) (k)).length := by rw [own_tab_len]; omega
        obtain ⟨cl7, Ar7, q7, S7, M7, H7, G7⟩ := id Vb_2
        have in7 : ¬ ((Int32.ofNat i) < 0 ∨ cl7.slots.size ≤ ((Int32.ofNat i)).toNatClampNeg) := inb_of S7 ⟨own_nn (by omega), (own_ltN (by omega) (by omega)).mpr (by omega)⟩
        obtain ⟨T8, h8, X8, e8, W8, st8⟩ := stB X2 hx hZ rfl Ar7 (j := (Int32.ofNat i)) in7 (g := (mkF m 40 #[.val (.ref tb), .val (.int (Int32.ofNat i)), .val (.ref db), .val (.int (Int32.ofNat i)), .val (.int (Int32.ofNat k)), .val (.int (Int32.ofNat i)), .val (.int (f i))] [(.int ((f i).toInt8.toInt32)), (.int (Int32.ofNat i)), (.ref db)])) rfl rfl (hb hby d36_40)
        have O0_8 : Old Z n0 h8 := O0_2.wr W8 gb
        have Va_8 : Arv Z h8 tb kb .byte (Int32.ofNat (2 * n)) (own_tab (own_u16 f) (2 * n)) (.int (0 : Int32)) := Va_2.other W8 hcb
        have Kp8 : Keep h0 h8 [db] := Kp2.wr W8 (Or.inl (List.mem_of_getElem? (i := 0) rfl))
        have N8 := Fr.snoc X8 N2 gb
        have Z8 : n0 ≤ h8.size := Nat.le_trans Z2 (Keep.of_wr W8).1
        have V_db_8 : Arv Z h8 db kd .byte (Int32.ofNat k) (own_tab (fun q => if q = i then own_l1 f i else ((fun q => if q < i then own_l1 f q else 0)) q) (k)) (.int (0 : Int32)) := (by rw [show own_l1 f i = nar .byte ((f i).toInt8.toInt32) from (own_lolo (f i)).symm]; exact (own_tab_set (fun q => if q < i then own_l1 f q else 0) k i _) ▸ (Arv.set Ar7 q7 S7 M7 H7 G7 (fits_nar_byte _) W8 i (by first | rfl | assumption) (by assumption)))
        have pre9 := fun τ (κ : Steps p.tables e below (T8.setTop (mkF m 41 #[.val (.ref tb), .val (.int (Int32.ofNat i)), .val (.ref db), .val (.int (Int32.ofNat i)), .val (.int (Int32.ofNat k)), .val (.int (Int32.ofNat i)), .val (.int (f i))] [])) τ) => pre6 τ (st8 _ κ)
        have V_db_10 : Arv Z h8 db kd .byte (Int32.ofNat k) (own_tab (fun q => if q < (i + 1) then own_l1 f q else 0) (k)) (.int (0 : Int32)) := own_cg V_db_8 (fun j hj => by exact own_l1step f i j)
        have pre11 := fun τ (κ : Steps p.tables e below (T8.setTop (mkF m 10 #[.val (.ref tb), .val (.int ((Int32.ofNat i) + (1 : Int32))), .val (.ref db), .val (.int ((Int32.ofNat i) + (1 : Int32))), .val (.int (Int32.ofNat k)), .val (.int ((Int32.ofNat i) + (1 : Int32))), .val (.int (f i))] [])) τ) => pre9 τ (by
          refine XS.iinc X8.here hx rfl (hb hby d36_41) rfl (l' := #[.val (.ref tb), .val (.int ((Int32.ofNat i) + (1 : Int32))), .val (.ref db), .val (.int (Int32.ofNat i)), .val (.int (Int32.ofNat k)), .val (.int (Int32.ofNat i)), .val (.int (f i))]) rfl ?_
          show Steps p.tables e below (T8.setTop (mkF m 44 #[.val (.ref tb), .val (.int ((Int32.ofNat i) + (1 : Int32))), .val (.ref db), .val (.int (Int32.ofNat i)), .val (.int (Int32.ofNat k)), .val (.int (Int32.ofNat i)), .val (.int (f i))] [])) _
          refine XS.iinc X8.here hx rfl (hb hby d36_44) rfl (l' := #[.val (.ref tb), .val (.int ((Int32.ofNat i) + (1 : Int32))), .val (.ref db), .val (.int ((Int32.ofNat i) + (1 : Int32))), .val (.int (Int32.ofNat k)), .val (.int (Int32.ofNat i)), .val (.int (f i))]) rfl ?_
          show Steps p.tables e below (T8.setTop (mkF m 47 #[.val (.ref tb), .val (.int ((Int32.ofNat i) + (1 : Int32))), .val (.ref db), .val (.int ((Int32.ofNat i) + (1 : Int32))), .val (.int (Int32.ofNat k)), .val (.int (Int32.ofNat i)), .val (.int (f i))] [])) _
          refine XS.iinc X8.here hx rfl (hb hby d36_47) rfl (l' := #[.val (.ref tb), .val (.int ((Int32.ofNat i) + (1 : Int32))), .val (.ref db), .val (.int ((Int32.ofNat i) + (1 : Int32))), .val (.int (Int32.ofNat k)), .val (.int ((Int32.ofNat i) + (1 : Int32))), .val (.int (f i))]) rfl ?_
          show Steps p.tables e below (T8.setTop (mkF m 50 #[.val (.ref tb), .val (.int ((Int32.ofNat i) + (1 : Int32))), .val (.ref db), .val (.int ((Int32.ofNat i) + (1 : Int32))), .val (.int (Int32.ofNat k)), .val (.int ((Int32.ofNat i) + (1 : Int32))), .val (.int (f i))] [])) _
          refine XS.goto X8.here hx rfl (pc0 := 50) (pc' := 10) rfl (hb hby d36_50) (by decide) (by decide) ?_
          show Steps p.tables e below (T8.setTop (mkF m 10 #[.val (.ref tb), .val (.int ((Int32.ofNat i) + (1 : Int32))), .val (.ref db), .val (.int ((Int32.ofNat i) + (1 : Int32))), .val (.int (Int32.ofNat k)), .val (.int ((Int32.ofNat i) + (1 : Int32))), .val (.int (f i))] [])) _
          exact κ)
        rw [show ((Int32.ofNat i) + (1 : Int32)) = (Int32.ofNat (i + 1)) from (own_addN _ 1)] at pre11
        obtain ⟨T', h', lo', k9, pc9, L9, X', e', N', K', r0, r1, r2, V', d9, st⟩ := ih (i + 1) _ _ _ (.val (.int (f i))) (One.val rfl) (by omega) (by omega) (own_allS hall hq) (by simpa using X8) e8 N8 Z8 O0_8 Va_8 V_db_10
        exact ⟨T', h', lo', k9, pc9, L9, X', e', N', Kp8.trans K' (allS (Or.inl (List.mem_of_getElem? (i := 0) rfl)) all0), r0, r1, r2, V', d9, fun τ κ => pre11 τ (st τ κ)⟩
    · skip
      have pre0 := fun τ (κ : Steps p.tables e below (T0.setTop (mkF m 10 #[.val (.ref tb), .val (.int (Int32.ofNat i)), .val (.ref db), .val (.int (Int32.ofNat i)), .val (.int (Int32.ofNat k)), .val (.int (Int32.ofNat i)), s6] [])) τ) => κ
      have Kp0 : Keep h0 h0 [db] := Keep.refl _ _
      have pre1 := fun τ (κ : Steps p.tables e below (T0.setTop (mkF m 55 #[.val (.ref tb), .val (.int (Int32.ofNat i)), .val (.ref db), .val (.int (Int32.ofNat i)), .val (.int (Int32.ofNat k)), .val (.int (Int32.ofNat i)), s6] [(.int (Int32.ofNat k))])) τ) => pre0 τ (by
        refine XS.iload X0.here hx rfl (hb hby d36_10) rfl ?_
        refine XS.iload X0.here hx rfl (hb hby d36_12) rfl ?_
        refine XS.icmpYes X0.here hx rfl (pc0 := 14) (pc' := 53) rfl (hb hby d36_14) rfl (flt (fun q => hgt ((own_ltN (by omega) (by omega)).mp q))).2.1 (by decide) (by decide) ?_
        show Steps p.tables e below (T0.setTop (mkF m 53 #[.val (.ref tb), .val (.int (Int32.ofNat i)), .val (.ref db), .val (.int (Int32.ofNat i)), .val (.int (Int32.ofNat k)), .val (.int (Int32.ofNat i)), s6] [])) _
        refine XS.iload X0.here hx rfl (hb hby d36_53) rfl ?_
        show Steps p.tables e below (T0.setTop (mkF m 55 #[.val (.ref tb), .val (.int (Int32.ofNat i)), .val (.ref db), .val (.int (Int32.ofNat i)), .val (.int (Int32.ofNat k)), .val (.int (Int32.ofNat i)), s6] [(.int (Int32.ofNat k))])) _
        exact κ)
      have hin' : i = k := by omega
      subst hin'
      exact ⟨T0, h0, _, i, 55, _, by simpa using X0, e0, N0, Kp0, by omega, hall, (fun q => absurd q (by omega)), Vb, (hb hby d36_55), pre1⟩

theorem ef_36 (m : MethodId) (tb : Addr) (db : Addr) (n : Nat) (k : Nat) (zc : Int32) (fm : Value) : entryFrame m #[(.ref tb), (.int (0 : Int32)), (.ref db), (.int (0 : Int32)), (.int (Int32.ofNat k))] 7 = mkF m 0 #[.val (.ref tb), .val (.int (0 : Int32)), .val (.ref db), .val (.int (0 : Int32)), .val (.int (Int32.ofNat k)), .unset, .unset] [] := by first | (simp [entryFrame, mkF, argsToLocals, Value.category]; done) | rfl
def Q36 (Z : State) (tb : Addr) (db : Addr) (n : Nat) (k : Nat) (kb : ClassId) (kd : ClassId) (f : Nat → Int32) (zc : Int32) (fm : Value) (h0 : Heap) (n0 : Nat) (v : Option Value) (h : Heap) (L : List Loc) : Prop := ∃ k9 : Nat, v = some (.int (Int32.ofNat k9)) ∧ Fr n0 L ∧ Keep h0 h [db] ∧ k9 ≤ k ∧ (∀ j, j < k9 → ¬ (255 : Int32) < f j) ∧ (k9 < k → (255 : Int32) < f k9) ∧ Arv Z h db kd .byte (Int32.ofNat k) (own_tab (fun q => if q < k9 then own_l1 f q else 0) k) (.int (0 : Int32))
set_option maxRecDepth 65536 in
set_option maxHeartbeats 40000000 in
theorem rm36 (l : Launch) (Z : State) (a0 : Array Value) (hw : ∀ d ∈ tables_1, d.before a0 Z = true) (ws : List Jvm.Cond) (tb : Addr) (db : Addr) (n : Nat) (k : Nat) (kb : ClassId) (kd : ClassId) (f : Nat → Int32) (zc : Int32) (fm : Value) (h0 : Heap) (n0 : Nat) (Z0 : n0 ≤ h0.size) (O0 : Old Z n0 h0) (U0 : own_ST Z zc fm) (Va : Arv Z h0 tb kb .byte (Int32.ofNat (2 * n)) (own_tab (own_u16 f) (2 * n)) (.int (0 : Int32))) (Vb : Arv Z h0 db kd .byte (Int32.ofNat k) (own_tab (fun _ => 0) (k)) (.int (0 : Int32))) (hn : n ≤ 16) (hk : k ≤ n) (hf : ∀ j, j < n → own_ch (f j)) (hcb : tb ≠ db) (gb : n0 ≤ db) :
    MetFree l (⟨"java/lang/StringUTF16", "compress", "([BI[BII)I"⟩ : MethodName) (head1 (Jvm.Cond.code (⟨"java/lang/StringUTF16", "compress", "([BI[BII)I"⟩ : MethodName) jdk_52_method_22_code 7 (some .int) :: ws) ({ frames := 3, cells := 0, slots := 0, locals := 43 } : Room)) (fun α υ => α = #[(.ref tb), (.int (0 : Int32)), (.ref db), (.int (0 : Int32)), (.int (Int32.ofNat k))] ∧ Z.Warmed39 υ.vm ∧ υ.heap = h0) (fun _ _ _ _ _ => True) (fun _ υ ω υ' => ∃ v L, ω = .returned v ∧ Q36 Z tb db n k kb kd f zc fm h0 n0 v υ'.heap L ∧ FrameEnd υ ω υ' L ({ frames := 3, cells := 0, slots := 0, locals := 43 } : Room).cells ({ frames := 3, cells := 0, slots := 0, locals := 43 } : Room).slots) := by
  refine MetFree.of_bodySF (plainFor_of_name pn_java_lang_StringUTF16) hisR ?_
  intro p e s m args below meth c s₁ Bd hml0 hP hK
  obtain ⟨rfl, hZ, hh⟩ := hP
  have hx := Bd.exec
  have hby := Bd.bytes
  have hml : c.maxLocals = 7 := hml0
  have hown : s.vm.findClass "java/lang/StringUTF16" = some m.cls := findClass_of_methodNamed Bd.named
  have hnm := (name_of_methodNamed Bd.named Bd.method).1
  have X0 : Stand p l e ({ frames := 3, cells := 0, slots := 0, locals := 43 } : Room) s m #[(.ref tb), (.int (0 : Int32)), (.ref db), (.int (0 : Int32)), (.int (Int32.ofNat k))] below meth c s₁ [] 0 0 := Stand.of_body Bd
  have e0 : s₁.heap = h0 := by rw [← hh, Bd.state]; rfl
  have N0 := Fr.nil n0
  have pre0 : ∀ τ, Steps p.tables e below (s₁.setTop (mkF m 0 #[.val (.ref tb), .val (.int (0 : Int32)), .val (.ref db), .val (.int (0 : Int32)), .val (.int (Int32.ofNat k)), .unset, .unset] [])) τ → Steps p.tables e below (s₁.setTop (entryFrame m #[(.ref tb), (.int (0 : Int32)), (.ref db), (.int (0 : Int32)), (.int (Int32.ofNat k))] 7)) τ := fun τ κ => castTop (ef_36 m tb db n k zc fm) κ
  have Kp0 : Keep h0 h0 [db] := Keep.refl _ _
  have pre1 := fun τ (κ : Steps p.tables e below (s₁.setTop (mkF m 4 #[.val (.ref tb), .val (.int (0 : Int32)), .val (.ref db), .val (.int (0 : Int32)), .val (.int (Int32.ofNat k)), .unset, .unset] [(.ref tb), (.int (Int32.ofNat k)), (.int (0 : Int32))])) τ) => pre0 τ (by
    refine XS.iloadN X0.here hx rfl (hb hby d36_0) rfl ?_
    refine XS.iload X0.here hx rfl (hb hby d36_1) rfl ?_
    refine XS.aloadN X0.here hx rfl (hb hby d36_3) rfl rfl ?_
    show Steps p.tables e below (s₁.setTop (mkF m 4 #[.val (.ref tb), .val (.int (0 : Int32)), .val (.ref db), .val (.int (0 : Int32)), .val (.int (Int32.ofNat k)), .unset, .unset] [(.ref tb), (.int (Int32.ofNat k)), (.int (0 : Int32))])) _
    exact κ)
  obtain ⟨_, _, ⟨T2, L2, k2, n2⟩, -, X2, ⟨Lc2, hQ2, l2, y2, z2⟩, st2⟩ := Jvm.LawKit.callS X0 hx (y := (⟨"java/lang/StringUTF16", "checkBoundsOffCount", "(II[B)V"⟩ : MethodName)) hown (mvT hZ (hw _ (List.mem_of_getElem? (i := 161) rfl))) (mvT hZ (hw _ (List.mem_of_getElem? (i := 162) rfl))) (mvT hZ (hw _ (List.mem_of_getElem? (i := 96) rfl))) (mvT hZ (hw _ (List.mem_of_getElem? (i := 163) rfl))) (by decide) (backOf (W := 0) (rm37 l Z a0 hw [] k tb n kb f zc fm h0 n0 Z0 O0 U0 Va hk hn) hZ (hw _ (List.mem_of_getElem? (i := 163) rfl)) (hw _ (List.mem_of_getElem? (i := 96) rfl)) (Nat.le_of_ble_eq_true rfl) (Nat.le_of_ble_eq_true rfl)) (g := (mkF m 4 #[.val (.ref tb), .val (.int (0 : Int32)), .val (.ref db), .val (.int (0 : Int32)), .val (.int (Int32.ofNat k)), .unset, .unset] [(.ref tb), (.int (Int32.ofNat k)), (.int (0 : Int32))])) rfl (by rw [hml]; rfl) (argsL := [(.int (0 : Int32)), (.int (Int32.ofNat k)), (.ref tb)]) (rest := []) (lenOf pd_20 rfl) rfl (by show 2 * 0 + _ ≤ _; exact Nat.le_of_eq rfl) (hb hby d36_4) (fun _ _ => ⟨rfl, e0, (by decide : 0 + 0 ≤ _), (by decide : 0 + 0 ≤ _)⟩)
  dsimp only [Pt.U, Pt.locs, Pt.cells, Pt.slots] at X2 l2 y2 z2 st2 hQ2
  subst l2 y2 z2
  obtain ⟨rfl, Nq2, hh2⟩ := hQ2
  have O0_2 : Old Z n0 T2.heap := by rw [hh2]; exact O0
  have Va_2 : Arv Z T2.heap tb kb .byte (Int32.ofNat (2 * n)) (own_tab (own_u16 f) (2 * n)) (.int (0 : Int32)) := by rw [hh2]; exact Va
  have Vb_2 : Arv Z T2.heap db kd .byte (Int32.ofNat k) (own_tab (fun _ => 0) (k)) (.int (0 : Int32)) := by rw [hh2]; exact Vb
  have Z2 : n0 ≤ T2.heap.size := by rw [hh2]; exact Z0
  have Kp2 : Keep h0 T2.heap [db] := by rw [hh2]; exact Kp0
  have N2 := Fr.app N0 Nq2
  have pre3 := fun τ (κ : Steps p.tables e below (T2.setTop (mkF m 7 #[.val (.ref tb), .val (.int (0 : Int32)), .val (.ref db), .val (.int (0 : Int32)), .val (.int (Int32.ofNat k)), .unset, .unset] [])) τ) => pre1 τ (st2 _ κ)
  have pre4 := fun τ (κ : Steps p.tables e below (T2.setTop (mkF m 10 #[.val (.ref tb), .val (.int (0 : Int32)), .val (.ref db), .val (.int (0 : Int32)), .val (.int (Int32.ofNat k)), .val (.int (0 : Int32)), .unset] [])) τ) => pre3 τ (by
    refine XS.iconst X2.here hx rfl (hb hby d36_7) ?_
    refine XS.istore X2.here hx rfl (hb hby d36_8) rfl (l' := #[.val (.ref tb), .val (.int (0 : Int32)), .val (.ref db), .val (.int (0 : Int32)), .val (.int (Int32.ofNat k)), .val (.int (0 : Int32)), .unset]) rfl ?_
    show Steps p.tables e below (T2.setTop (mkF m 10 #[.val (.ref tb), .val (.int (0 : Int32)), .val (.ref db), .val (.int (0 : Int32)), .val (.int (Int32.ofNat k)), .val (.int (0 : Int32)), .unset] [])) _
    exact κ)
  have Vb0 : Arv Z T2.heap db kd .byte (Int32.ofNat k) (own_tab (fun q => if q < 0 then own_l1 f q else 0) k) (.int (0 : Int32)) := own_cg Vb_2 (fun j hj => by rw [if_neg (by omega)])
  obtain ⟨T9, h9, lo9, k9, pc9, L9, X9, e9, N9, K9, r0, r1, r2, V9, d9, st9⟩ := loopB hx hZ hw hby hml hown tb db kb kd n k f zc fm U0 hn hk hf hcb gb (Nat.le_of_ble_eq_true rfl) (Nat.le_of_ble_eq_true rfl) (Nat.le_of_ble_eq_true rfl) (Nat.le_of_ble_eq_true rfl) k 0 _ _ _ .unset One.u (by omega) (by omega) (fun j hj => absurd hj (by omega)) X2 rfl N2 Z2 O0_2 Va_2 Vb0
  have pre99 := fun τ (κ : Steps p.tables e below (T9.setTop (mkF m pc9 L9 [.int (Int32.ofNat k9)])) τ) => pre4 τ (st9 τ κ)
  obtain ⟨fs, hr, hrun, hended, hW, hsame⟩ := X9.leave (v := some (.int (Int32.ofNat k9))) (fun h => by rw [Bd.returns] at h; cases h)
  refine ⟨_, _, pre99 _ ?_, hrun, hended, _, _, rfl, ?_, ⟨_, rfl⟩, hW, hsame.mono (by decide) (by decide)⟩
  · exact retI X9 hx Bd.returns d9 hr
  · show Q36 Z tb db n k kb kd f zc fm h0 n0 _ T9.heap _
    rw [e9]
    exact ⟨k9, rfl, N9, Kp2.trans K9 (allS (Or.inl (List.mem_of_getElem? (i := 0) rfl)) all0), r0, r1, r2, V9⟩
theorem ef_35 (m : MethodId) (tb : Addr) (n : Nat) (k : Nat) (zc : Int32) (fm : Value) : entryFrame m #[(.ref tb), (.int (0 : Int32)), (.int (Int32.ofNat k))] 6 = mkF m 0 #[.val (.ref tb), .val (.int (0 : Int32)), .val (.int (Int32.ofNat k)), .unset, .unset, .unset] [] := by first | (simp [entryFrame, mkF, argsToLocals, Value.category]; done) | rfl
def Q35 (Z : State) (tb : Addr) (n : Nat) (k : Nat) (kb : ClassId) (f : Nat → Int32) (zc : Int32) (fm : Value) (h0 : Heap) (n0 : Nat) (v : Option Value) (h : Heap) (L : List Loc) : Prop := ∃ (b9 : Addr) (cd : Int32), v = some (.ref b9) ∧ Fr n0 L ∧ Keep h0 h [] ∧ h0.size ≤ b9 ∧ own_BY Z h b9 cd f k
set_option maxRecDepth 65536 in
set_option maxHeartbeats 40000000 in
theorem rm35 (l : Launch) (Z : State) (a0 : Array Value) (hw : ∀ d ∈ tables_1, d.before a0 Z = true) (ws : List Jvm.Cond) (tb : Addr) (n : Nat) (k : Nat) (kb : ClassId) (f : Nat → Int32) (zc : Int32) (fm : Value) (h0 : Heap) (n0 : Nat) (Z0 : n0 ≤ h0.size) (O0 : Old Z n0 h0) (U0 : own_ST Z zc fm) (Va : Arv Z h0 tb kb .byte (Int32.ofNat (2 * n)) (own_tab (own_u16 f) (2 * n)) (.int (0 : Int32))) (hn : n ≤ 16) (hk : k < n) (hf : ∀ j, j < n → own_ch (f j)) :
    MetFree l (⟨"java/lang/StringUTF16", "compress", "([BII)[B"⟩ : MethodName) (head1 (Jvm.Cond.code (⟨"java/lang/StringUTF16", "compress", "([BII)[B"⟩ : MethodName) jdk_52_method_17_code 6 (some (.array .byte)) :: ws) ({ frames := 4, cells := 2, slots := 48, locals := 70 } : Room)) (fun α υ => α = #[(.ref tb), (.int (0 : Int32)), (.int (Int32.ofNat k))] ∧ Z.Warmed39 υ.vm ∧ υ.heap = h0) (fun _ _ _ _ _ => True) (fun _ υ ω υ' => ∃ v L, ω = .returned v ∧ Q35 Z tb n k kb f zc fm h0 n0 v υ'.heap L ∧ FrameEnd υ ω υ' L ({ frames := 4, cells := 2, slots := 48, locals := 70 } : Room).cells ({ frames := 4, cells := 2, slots := 48, locals := 70 } : Room).slots) := by
  refine MetFree.of_bodySF (plainFor_of_name pn_java_lang_StringUTF16) hisR ?_
  intro p e s m args below meth c s₁ Bd hml0 hP hK
  obtain ⟨rfl, hZ, hh⟩ := hP
  have hx := Bd.exec
  have hby := Bd.bytes
  have hml : c.maxLocals = 6 := hml0
  have hown : s.vm.findClass "java/lang/StringUTF16" = some m.cls := findClass_of_methodNamed Bd.named
  have hnm := (name_of_methodNamed Bd.named Bd.method).1
  have X0 : Stand p l e ({ frames := 4, cells := 2, slots := 48, locals := 70 } : Room) s m #[(.ref tb), (.int (0 : Int32)), (.int (Int32.ofNat k))] below meth c s₁ [] 0 0 := Stand.of_body Bd
  have e0 : s₁.heap = h0 := by rw [← hh, Bd.state]; rfl
  have N0 := Fr.nil n0
  have pre0 : ∀ τ, Steps p.tables e below (s₁.setTop (mkF m 0 #[.val (.ref tb), .val (.int (0 : Int32)), .val (.int (Int32.ofNat k)), .unset, .unset, .unset] [])) τ → Steps p.tables e below (s₁.setTop (entryFrame m #[(.ref tb), (.int (0 : Int32)), (.int (Int32.ofNat k))] 6)) τ := fun τ κ => castTop (ef_35 m tb n k zc fm) κ
  have Kp0 : Keep h0 h0 [] := Keep.refl _ _
  have pre1 := fun τ (κ : Steps p.tables e below (s₁.setTop (mkF m 1 #[.val (.ref tb), .val (.int (0 : Int32)), .val (.int (Int32.ofNat k)), .unset, .unset, .unset] [(.int (Int32.ofNat k))])) τ) => pre0 τ (by
    refine XS.iloadN X0.here hx rfl (hb hby d35_0) rfl ?_
    show Steps p.tables e below (s₁.setTop (mkF m 1 #[.val (.ref tb), .val (.int (0 : Int32)), .val (.int (Int32.ofNat k)), .unset, .unset, .unset] [(.int (Int32.ofNat k))])) _
    exact κ)
  obtain ⟨T2, h2, k2, X2, e2, E2, A2, st2⟩ := newP X0 hx hZ (hw _ (List.mem_of_getElem? (i := 24) rfl)) e0 (g := (mkF m 1 #[.val (.ref tb), .val (.int (0 : Int32)), .val (.int (Int32.ofNat k)), .unset, .unset, .unset] [(.int (Int32.ofNat k))])) rfl (hb hby d35_1) rfl (own_nn (by omega)) (cap := 16) (by rw [own_clamp (by omega)]; omega) (by decide) (by decide) (by decide)
  obtain ⟨b, g2⟩ : ∃ z, z = h0.size := ⟨_, rfl⟩
  rw [← g2] at A2 st2
  have g_b : n0 ≤ b := Nat.le_trans Z0 (Nat.le_of_eq g2.symm)
  have ne_tb_b : tb ≠ b := Nat.ne_of_lt (Nat.lt_of_lt_of_le Va.lt (Nat.le_of_eq g2.symm))
  have O0_2 : Old Z n0 h2 := O0.ext E2
  have Va_2 : Arv Z h2 tb kb .byte (Int32.ofNat (2 * n)) (own_tab (own_u16 f) (2 * n)) (.int (0 : Int32)) := Va.ext E2
  have sz_b : h0.size ≤ b := Nat.le_trans Kp0.1 (Nat.le_of_eq g2.symm)
  have Kp2 : Keep h0 h2 [] := Kp0.ext E2
  have Z2 : n0 ≤ h2.size := Nat.le_trans Z0 E2.1
  have V_b_2 : Arv Z h2 b k2 .byte (Int32.ofNat k) [] (.int (0 : Int32)) := Arv.new A2 (own_nn (by omega))
  have pre3 := fun τ (κ : Steps p.tables e below (T2.setTop (mkF m 3 #[.val (.ref tb), .val (.int (0 : Int32)), .val (.int (Int32.ofNat k)), .unset, .unset, .unset] [(.ref b)])) τ) => pre1 τ (st2 _ κ)
  have Vb : Arv Z h2 b k2 .byte (Int32.ofNat k) (own_tab (fun _ => 0) (k)) (.int (0 : Int32)) := by rw [own_tab_pad]; exact V_b_2.pad (pad_rep [] _ k)
  have pre4 := fun τ (κ : Steps p.tables e below (T2.setTop (mkF m 9 #[.val (.ref tb), .val (.int (0 : Int32)), .val (.int (Int32.ofNat k)), .val (.ref b), .unset, .unset] [(.int (Int32.ofNat k)), (.int (0 : Int32)), (.ref b), (.int (0 : Int32)), (.ref tb)])) τ) => pre3 τ (by
    refine XS.astoreN X2.here hx rfl (hb hby d35_3) rfl rfl (l' := #[.val (.ref tb), .val (.int (0 : Int32)), .val (.int (Int32.ofNat k)), .val (.ref b), .unset, .unset]) rfl ?_
    show Steps p.tables e below (T2.setTop (mkF m 4 #[.val (.ref tb), .val (.int (0 : Int32)), .val (.int (Int32.ofNat k)), .val (.ref b), .unset, .unset] [])) _
    refine XS.aloadN X2.here hx rfl (hb hby d35_4) rfl rfl ?_
    refine XS.iloadN X2.here hx rfl (hb hby d35_5) rfl ?_
    refine XS.aloadN X2.here hx rfl (hb hby d35_6) rfl rfl ?_
    refine XS.iconst X2.here hx rfl (hb hby d35_7) ?_
    refine XS.iloadN X2.here hx rfl (hb hby d35_8) rfl ?_
    show Steps p.tables e below (T2.setTop (mkF m 9 #[.val (.ref tb), .val (.int (0 : Int32)), .val (.int (Int32.ofNat k)), .val (.ref b), .unset, .unset] [(.int (Int32.ofNat k)), (.int (0 : Int32)), (.ref b), (.int (0 : Int32)), (.ref tb)])) _
    exact κ)
  obtain ⟨_, _, ⟨T5, L5, k5, n5⟩, -, X5, ⟨Lc5, hQ5, l5, y5, z5⟩, st5⟩ := Jvm.LawKit.callS X2 hx (y := (⟨"java/lang/StringUTF16", "compress", "([BI[BII)I"⟩ : MethodName)) hown (mvT hZ (hw _ (List.mem_of_getElem? (i := 158) rfl))) (mvT hZ (hw _ (List.mem_of_getElem? (i := 159) rfl))) (mvT hZ (hw _ (List.mem_of_getElem? (i := 96) rfl))) (mvT hZ (hw _ (List.mem_of_getElem? (i := 160) rfl))) (by decide) (backOf (W := 0) (rm36 l Z a0 hw [] tb b n k kb k2 f zc fm h2 n0 Z2 O0_2 U0 Va_2 Vb hn (by omega) hf ne_tb_b g_b) hZ (hw _ (List.mem_of_getElem? (i := 160) rfl)) (hw _ (List.mem_of_getElem? (i := 96) rfl)) (Nat.le_of_ble_eq_true rfl) (Nat.le_of_ble_eq_true rfl)) (g := (mkF m 9 #[.val (.ref tb), .val (.int (0 : Int32)), .val (.int (Int32.ofNat k)), .val (.ref b), .unset, .unset] [(.int (Int32.ofNat k)), (.int (0 : Int32)), (.ref b), (.int (0 : Int32)), (.ref tb)])) rfl (by rw [hml]; rfl) (argsL := [(.ref tb), (.int (0 : Int32)), (.ref b), (.int (0 : Int32)), (.int (Int32.ofNat k))]) (rest := []) (lenOf pd_21 rfl) rfl (by show 2 * 0 + _ ≤ _; exact Nat.le_of_eq rfl) (hb hby d35_9) (fun _ _ => ⟨rfl, e2, (by decide : 1 + 0 ≤ _), (by decide : 16 + 0 ≤ _)⟩)
  dsimp only [Pt.U, Pt.locs, Pt.cells, Pt.slots] at X5 l5 y5 z5 st5 hQ5
  subst l5 y5 z5
  obtain ⟨k9, rfl, Nq5, K5, r0, r1, r2, Vk⟩ := hQ5
  have O0_5 : Old Z n0 T5.heap := O0_2.keep K5 (allS g_b all0)
  have Va_5 : Arv Z T5.heap tb kb .byte (Int32.ofNat (2 * n)) (own_tab (own_u16 f) (2 * n)) (.int (0 : Int32)) := Va_2.keep K5 (ninS ne_tb_b nin0)
  have Z5 : n0 ≤ T5.heap.size := Nat.le_trans Z2 K5.1
  have Kp5 : Keep h0 T5.heap [] := Kp2.trans K5 (allS (Or.inr sz_b) all0)
  have N5 := Fr.app N0 Nq5
  have pre6 := fun τ (κ : Steps p.tables e below (T5.setTop (mkF m 12 #[.val (.ref tb), .val (.int (0 : Int32)), .val (.int (Int32.ofNat k)), .val (.ref b), .unset, .unset] [(.int (Int32.ofNat k9))])) τ) => pre4 τ (st5 _ κ)
  have pre7 := fun τ (κ : Steps p.tables e below (T5.setTop (mkF m 17 #[.val (.ref tb), .val (.int (0 : Int32)), .val (.int (Int32.ofNat k)), .val (.ref b), .val (.int (Int32.ofNat k9)), .unset] [(.int (Int32.ofNat k)), (.int (Int32.ofNat k9))])) τ) => pre6 τ (by
    refine XS.istore X5.here hx rfl (hb hby d35_12) rfl (l' := #[.val (.ref tb), .val (.int (0 : Int32)), .val (.int (Int32.ofNat k)), .val (.ref b), .val (.int (Int32.ofNat k9)), .unset]) rfl ?_
    show Steps p.tables e below (T5.setTop (mkF m 14 #[.val (.ref tb), .val (.int (0 : Int32)), .val (.int (Int32.ofNat k)), .val (.ref b), .val (.int (Int32.ofNat k9)), .unset] [])) _
    refine XS.iload X5.here hx rfl (hb hby d35_14) rfl ?_
    refine XS.iloadN X5.here hx rfl (hb hby d35_16) rfl ?_
    show Steps p.tables e below (T5.setTop (mkF m 17 #[.val (.ref tb), .val (.int (0 : Int32)), .val (.int (Int32.ofNat k)), .val (.ref b), .val (.int (Int32.ofNat k9)), .unset] [(.int (Int32.ofNat k)), (.int (Int32.ofNat k9))])) _
    exact κ)
  by_cases hq : (Int32.ofNat k9) = (Int32.ofNat k)
  · have hkn : k9 = k := (own_injN (by omega) (by omega)).mp hq
    rw [hkn] at r1
    have V_b_8 : Arv Z T5.heap b k2 .byte (Int32.ofNat k) (own_tab (own_l1 f) (k)) (.int (0 : Int32)) := own_cg Vk (fun j hj => by rw [if_pos (by omega)])
    have pre9 := fun τ (κ : Steps p.tables e below (T5.setTop (mkF m 65 #[.val (.ref tb), .val (.int (0 : Int32)), .val (.int (Int32.ofNat k)), .val (.ref b), .val (.int (Int32.ofNat k9)), .unset] [(.ref b)])) τ) => pre7 τ (by
      refine XS.icmpYes X5.here hx rfl (pc0 := 17) (pc' := 64) rfl (hb hby d35_17) rfl (teq hq).1 (by decide) (by decide) ?_
      show Steps p.tables e below (T5.setTop (mkF m 64 #[.val (.ref tb), .val (.int (0 : Int32)), .val (.int (Int32.ofNat k)), .val (.ref b), .val (.int (Int32.ofNat k9)), .unset] [])) _
      refine XS.aloadN X5.here hx rfl (hb hby d35_64) rfl rfl ?_
      show Steps p.tables e below (T5.setTop (mkF m 65 #[.val (.ref tb), .val (.int (0 : Int32)), .val (.int (Int32.ofNat k)), .val (.ref b), .val (.int (Int32.ofNat k9)), .unset] [(.ref b)])) _
      exact κ)
    obtain ⟨fs, hr, hrun, hended, hW, hsame⟩ := X5.leave (v := some (.ref b)) (fun h => by rw [Bd.returns] at h; cases h)
    refine ⟨_, _, pre9 _ ?_, hrun, hended, _, _, rfl, ?_, ⟨_, rfl⟩, hW, hsame.mono (by decide) (by decide)⟩
    · jvm_step X5.here [X5.here.top, hx, (hb hby d35_65), X5.method', Bd.returns, Value.isRef, FieldType.isReference]
      first | (intro acts; rw [hr _ acts rfl rfl rfl]) | rw [hr _ _ rfl rfl rfl]
      exact Steps.refl _
    · show Q35 Z tb n k kb f zc fm h0 n0 _ T5.heap _
      exact ⟨b, 0, rfl, N5, Kp5, sz_b, k2, Or.inl ⟨rfl, r1, V_b_8⟩⟩
  · have hkn : k9 < k := by have : k9 ≠ k := fun q => hq (by rw [q]); omega
    have pre10 := fun τ (κ : Steps p.tables e below (T5.setTop (mkF m 24 #[.val (.ref tb), .val (.int (0 : Int32)), .val (.int (Int32.ofNat k)), .val (.ref b), .val (.int (Int32.ofNat k9)), .unset] [(.int ((0 : Int32) <<< ((1 : Int32) &&& 31))), (.ref tb)])) τ) => pre7 τ (by
      refine XS.icmpNo X5.here hx rfl (hb hby d35_17) rfl (feq hq).1 ?_
      show Steps p.tables e below (T5.setTop (mkF m 20 #[.val (.ref tb), .val (.int (0 : Int32)), .val (.int (Int32.ofNat k)), .val (.ref b), .val (.int (Int32.ofNat k9)), .unset] [])) _
      refine XS.aloadN X5.here hx rfl (hb hby d35_20) rfl rfl ?_
      refine XS.iloadN X5.here hx rfl (hb hby d35_21) rfl ?_
      refine XS.iconst X5.here hx rfl (hb hby d35_22) ?_
      refine XS.ishl X5.here hx rfl (hb hby d35_23) rfl ?_
      show Steps p.tables e below (T5.setTop (mkF m 24 #[.val (.ref tb), .val (.int (0 : Int32)), .val (.int (Int32.ofNat k)), .val (.ref b), .val (.int (Int32.ofNat k9)), .unset] [(.int ((0 : Int32) <<< ((1 : Int32) &&& 31))), (.ref tb)])) _
      exact κ)
    rw [show ((0 : Int32) <<< ((1 : Int32) &&& 31)) = (0 : Int32) from (by decide)] at pre10
    have pre11 := fun τ (κ : Steps p.tables e below (T5.setTop (mkF m 27 #[.val (.ref tb), .val (.int (0 : Int32)), .val (.int (Int32.ofNat k)), .val (.ref b), .val (.int (Int32.ofNat k9)), .unset] [(.int ((0 : Int32) + (Int32.ofNat k))), (.int (0 : Int32)), (.ref tb)])) τ) => pre10 τ (by
      refine XS.iloadN X5.here hx rfl (hb hby d35_24) rfl ?_
      refine XS.iloadN X5.here hx rfl (hb hby d35_25) rfl ?_
      refine XS.iadd X5.here hx rfl (hb hby d35_26) rfl ?_
      show Steps p.tables e below (T5.setTop (mkF m 27 #[.val (.ref tb), .val (.int (0 : Int32)), .val (.int (Int32.ofNat k)), .val (.ref b), .val (.int (Int32.ofNat k9)), .unset] [(.int ((0 : Int32) + (Int32.ofNat k))), (.int (0 : Int32)), (.ref tb)])) _
      exact κ)
    rw [show ((0 : Int32) + (Int32.ofNat k)) = (Int32.ofNat k) from (Int32.zero_add _)] at pre11
    obtain ⟨_, _, ⟨T12, L12, k12, n12⟩, -, X12, ⟨Lc12, hQ12, l12, y12, z12⟩, st12⟩ := Jvm.LawKit.callS X5 hx (y := (⟨"java/lang/StringUTF16", "newBytesLength", "(I)I"⟩ : MethodName)) hown (mvT hZ (hw _ (List.mem_of_getElem? (i := 133) rfl))) (mvT hZ (hw _ (List.mem_of_getElem? (i := 134) rfl))) (mvT hZ (hw _ (List.mem_of_getElem? (i := 96) rfl))) (mvT hZ (hw _ (List.mem_of_getElem? (i := 135) rfl))) (by decide) (backOf (W := 2) (rm30 l Z a0 hw [] k T5.heap n0 Z5 (by omega)) hZ (hw _ (List.mem_of_getElem? (i := 135) rfl)) (hw _ (List.mem_of_getElem? (i := 96) rfl)) (Nat.le_of_ble_eq_true rfl) (Nat.le_of_ble_eq_true rfl)) (g := (mkF m 27 #[.val (.ref tb), .val (.int (0 : Int32)), .val (.int (Int32.ofNat k)), .val (.ref b), .val (.int (Int32.ofNat k9)), .unset] [(.int (Int32.ofNat k)), (.int (0 : Int32)), (.ref tb)])) rfl (by rw [hml]; rfl) (argsL := [(.int (Int32.ofNat k))]) (rest := [(.int (0 : Int32)), (.ref tb)]) (lenOf pd_0 rfl) rfl (by show 2 * 0 + _ ≤ _; exact Nat.le_of_eq rfl) (hb hby d35_27) (fun _ _ => ⟨rfl, rfl, (by decide : 1 + 0 ≤ _), (by decide : 16 + 0 ≤ _)⟩)
    dsimp only [Pt.U, Pt.locs, Pt.cells, Pt.slots] at X12 l12 y12 z12 st12 hQ12
    subst l12 y12 z12
    obtain ⟨rfl, Nq12, hh12⟩ := hQ12
    have O0_12 : Old Z n0 T12.heap := by rw [hh12]; exact O0_5
    have Va_12 : Arv Z T12.heap tb kb .byte (Int32.ofNat (2 * n)) (own_tab (own_u16 f) (2 * n)) (.int (0 : Int32)) := by rw [hh12]; exact Va_5
    have Vk_12 : Arv Z T12.heap b k2 .byte (Int32.ofNat k) (own_tab (fun q => if q < k9 then own_l1 f q else 0) (k)) (.int (0 : Int32)) := by rw [hh12]; exact Vk
    have Z12 : n0 ≤ T12.heap.size := by rw [hh12]; exact Z5
    have Kp12 : Keep h0 T12.heap [] := by rw [hh12]; exact Kp5
    have N12 := Fr.app N5 Nq12
    have pre13 := fun τ (κ : Steps p.tables e below (T12.setTop (mkF m 30 #[.val (.ref tb), .val (.int (0 : Int32)), .val (.int (Int32.ofNat k)), .val (.ref b), .val (.int (Int32.ofNat k9)), .unset] [(.int (Int32.ofNat (2 * k))), (.int (0 : Int32)), (.ref tb)])) τ) => pre11 τ (st12 _ κ)
    obtain ⟨_, _, ⟨T14, L14, k14, n14⟩, -, X14, ⟨Lc14, hQ14, l14, y14, z14⟩, st14⟩ := Jvm.LawKit.callS X12 hx (y := (⟨"java/util/Arrays", "copyOfRange", "([BII)[B"⟩ : MethodName)) hown (mvT hZ (hw _ (List.mem_of_getElem? (i := 177) rfl))) (mvT hZ (hw _ (List.mem_of_getElem? (i := 110) rfl))) (mvT hZ (hw _ (List.mem_of_getElem? (i := 111) rfl))) (mvT hZ (hw _ (List.mem_of_getElem? (i := 112) rfl))) (by decide) (backOf (W := 0) (rm24 l Z a0 hw [] tb (2 * n) (2 * k) kb (own_u16 f) T12.heap n0 Z12 Va_12 (by omega) (by omega)) hZ (hw _ (List.mem_of_getElem? (i := 112) rfl)) (hw _ (List.mem_of_getElem? (i := 111) rfl)) (Nat.le_of_ble_eq_true rfl) (Nat.le_of_ble_eq_true rfl)) (g := (mkF m 30 #[.val (.ref tb), .val (.int (0 : Int32)), .val (.int (Int32.ofNat k)), .val (.ref b), .val (.int (Int32.ofNat k9)), .unset] [(.int (Int32.ofNat (2 * k))), (.int (0 : Int32)), (.ref tb)])) rfl (by rw [hml]; rfl) (argsL := [(.ref tb), (.int (0 : Int32)), (.int (Int32.ofNat (2 * k)))]) (rest := []) (lenOf pd_19 rfl) rfl (by show 2 * 0 + _ ≤ _; exact Nat.le_of_eq rfl) (hb hby d35_30) (fun _ _ => ⟨rfl, rfl, (by decide : 1 + 1 ≤ _), (by decide : 16 + 32 ≤ _)⟩)
    dsimp only [Pt.U, Pt.locs, Pt.cells, Pt.slots] at X14 l14 y14 z14 st14 hQ14
    subst l14 y14 z14
    obtain ⟨ub, ku, rfl, Nq14, K14, Vu, su⟩ := hQ14
    have O0_14 : Old Z n0 T14.heap := O0_12.keep K14 all0
    have Va_14 : Arv Z T14.heap tb kb .byte (Int32.ofNat (2 * n)) (own_tab (own_u16 f) (2 * n)) (.int (0 : Int32)) := Va_12.keep K14 nin0
    have Vk_14 : Arv Z T14.heap b k2 .byte (Int32.ofNat k) (own_tab (fun q => if q < k9 then own_l1 f q else 0) (k)) (.int (0 : Int32)) := Vk_12.keep K14 nin0
    have Z14 : n0 ≤ T14.heap.size := Nat.le_trans Z12 K14.1
    have Kp14 : Keep h0 T14.heap [] := Kp12.trans K14 all0
    have N14 := Fr.app N12 Nq14
    have pre15 := fun τ (κ : Steps p.tables e below (T14.setTop (mkF m 33 #[.val (.ref tb), .val (.int (0 : Int32)), .val (.int (Int32.ofNat k)), .val (.ref b), .val (.int (Int32.ofNat k9)), .unset] [(.ref ub)])) τ) => pre13 τ (st14 _ κ)
    have pre16 := fun τ (κ : Steps p.tables e below (T14.setTop (mkF m 39 #[.val (.ref tb), .val (.int (0 : Int32)), .val (.int (Int32.ofNat k)), .val (.ref b), .val (.int (Int32.ofNat k9)), .val (.ref ub)] [(.int (Int32.ofNat k9)), (.ref ub)])) τ) => pre15 τ (by
      refine XS.astore X14.here hx rfl (hb hby d35_33) rfl rfl (l' := #[.val (.ref tb), .val (.int (0 : Int32)), .val (.int (Int32.ofNat k)), .val (.ref b), .val (.int (Int32.ofNat k9)), .val (.ref ub)]) rfl ?_
      show Steps p.tables e below (T14.setTop (mkF m 35 #[.val (.ref tb), .val (.int (0 : Int32)), .val (.int (Int32.ofNat k)), .val (.ref b), .val (.int (Int32.ofNat k9)), .val (.ref ub)] [])) _
      refine XS.aload X14.here hx rfl (hb hby d35_35) rfl rfl ?_
      refine XS.iload X14.here hx rfl (hb hby d35_37) rfl ?_
      show Steps p.tables e below (T14.setTop (mkF m 39 #[.val (.ref tb), .val (.int (0 : Int32)), .val (.int (Int32.ofNat k)), .val (.ref b), .val (.int (Int32.ofNat k9)), .val (.ref ub)] [(.int (Int32.ofNat k9)), (.ref ub)])) _
      exact κ)
    obtain ⟨_, _, ⟨T17, L17, k17, n17⟩, -, X17, ⟨Lc17, hQ17, l17, y17, z17⟩, st17⟩ := Jvm.LawKit.callS X14 hx (y := (⟨"java/lang/StringUTF16", "getChar", "([BI)C"⟩ : MethodName)) hown (mvT hZ (hw _ (List.mem_of_getElem? (i := 143) rfl))) (mvT hZ (hw _ (List.mem_of_getElem? (i := 144) rfl))) (mvT hZ (hw _ (List.mem_of_getElem? (i := 96) rfl))) (mvT hZ (hw _ (List.mem_of_getElem? (i := 145) rfl))) (by decide) (backOf (W := 0) (rm32 l Z a0 hw [] ub k9 k ku f zc fm T14.heap n0 Z14 O0_14 U0 Vu (by omega) hkn (hf k9 (by omega))) hZ (hw _ (List.mem_of_getElem? (i := 145) rfl)) (hw _ (List.mem_of_getElem? (i := 96) rfl)) (Nat.le_of_ble_eq_true rfl) (Nat.le_of_ble_eq_true rfl)) (g := (mkF m 39 #[.val (.ref tb), .val (.int (0 : Int32)), .val (.int (Int32.ofNat k)), .val (.ref b), .val (.int (Int32.ofNat k9)), .val (.ref ub)] [(.int (Int32.ofNat k9)), (.ref ub)])) rfl (by rw [hml]; rfl) (argsL := [(.ref ub), (.int (Int32.ofNat k9))]) (rest := []) (lenOf pd_5 rfl) rfl (by show 2 * 0 + _ ≤ _; exact Nat.le_of_eq rfl) (hb hby d35_39) (fun _ _ => ⟨rfl, rfl, (by decide : 2 + 0 ≤ _), (by decide : 48 + 0 ≤ _)⟩)
    dsimp only [Pt.U, Pt.locs, Pt.cells, Pt.slots] at X17 l17 y17 z17 st17 hQ17
    subst l17 y17 z17
    obtain ⟨rfl, Nq17, hh17⟩ := hQ17
    have O0_17 : Old Z n0 T17.heap := by rw [hh17]; exact O0_14
    have Va_17 : Arv Z T17.heap tb kb .byte (Int32.ofNat (2 * n)) (own_tab (own_u16 f) (2 * n)) (.int (0 : Int32)) := by rw [hh17]; exact Va_14
    have Vk_17 : Arv Z T17.heap b k2 .byte (Int32.ofNat k) (own_tab (fun q => if q < k9 then own_l1 f q else 0) (k)) (.int (0 : Int32)) := by rw [hh17]; exact Vk_14
    have Vu_17 : Arv Z T17.heap ub ku .byte (Int32.ofNat (2 * k)) (own_tab (own_u16 f) (2 * k)) (.int (0 : Int32)) := by rw [hh17]; exact Vu
    have Z17 : n0 ≤ T17.heap.size := by rw [hh17]; exact Z14
    have Kp17 : Keep h0 T17.heap [] := by rw [hh17]; exact Kp14
    have N17 := Fr.app N14 Nq17
    have pre18 := fun τ (κ : Steps p.tables e below (T17.setTop (mkF m 42 #[.val (.ref tb), .val (.int (0 : Int32)), .val (.int (Int32.ofNat k)), .val (.ref b), .val (.int (Int32.ofNat k9)), .val (.ref ub)] [(.int (f k9))])) τ) => pre16 τ (st17 _ κ)
    have pre19 := fun τ (κ : Steps p.tables e below (T17.setTop (mkF m 63 #[.val (.ref tb), .val (.int (0 : Int32)), .val (.int (Int32.ofNat k)), .val (.ref b), .val (.int (Int32.ofNat k9)), .val (.ref ub)] [(.ref ub)])) τ) => pre18 τ (by
      refine XS.sipush X17.here hx rfl (hb hby d35_42) ?_
      refine XS.icmpYes X17.here hx rfl (pc0 := 45) (pc' := 61) rfl (hb hby d35_45) rfl (tlt (r2 hkn)).2.2.1 (by decide) (by decide) ?_
      show Steps p.tables e below (T17.setTop (mkF m 61 #[.val (.ref tb), .val (.int (0 : Int32)), .val (.int (Int32.ofNat k)), .val (.ref b), .val (.int (Int32.ofNat k9)), .val (.ref ub)] [])) _
      refine XS.aload X17.here hx rfl (hb hby d35_61) rfl rfl ?_
      show Steps p.tables e below (T17.setTop (mkF m 63 #[.val (.ref tb), .val (.int (0 : Int32)), .val (.int (Int32.ofNat k)), .val (.ref b), .val (.int (Int32.ofNat k9)), .val (.ref ub)] [(.ref ub)])) _
      exact κ)
    obtain ⟨fs, hr, hrun, hended, hW, hsame⟩ := X17.leave (v := some (.ref ub)) (fun h => by rw [Bd.returns] at h; cases h)
    refine ⟨_, _, pre19 _ ?_, hrun, hended, _, _, rfl, ?_, ⟨_, rfl⟩, hW, hsame.mono (by decide) (by decide)⟩
    · jvm_step X17.here [X17.here.top, hx, (hb hby d35_63), X17.method', Bd.returns, Value.isRef, FieldType.isReference]
      first | (intro acts; rw [hr _ acts rfl rfl rfl]) | rw [hr _ _ rfl rfl rfl]
      exact Steps.refl _
    · show Q35 Z tb n k kb f zc fm h0 n0 _ T17.heap _
      exact ⟨ub, 1, rfl, N17, Kp17, Nat.le_trans Kp12.1 su, ku, Or.inr ⟨rfl, ⟨k9, hkn, r2 hkn⟩, Vu_17⟩⟩
theorem ef_23 (m : MethodId) (tb : Addr) (n : Nat) (k : Nat) : entryFrame m #[(.ref tb), (.int (0 : Int32)), (.int (Int32.ofNat k))] 3 = mkF m 0 #[.val (.ref tb), .val (.int (0 : Int32)), .val (.int (Int32.ofNat k))] [] := by first | (simp [entryFrame, mkF, argsToLocals, Value.category]; done) | rfl
def Q23 (Z : State) (tb : Addr) (n : Nat) (k : Nat) (kb : ClassId) (f : Nat → Int32) (h0 : Heap) (n0 : Nat) (v : Option Value) (h : Heap) (L : List Loc) : Prop := ∃ so : Addr, v = some (.ref so) ∧ Fr n0 L ∧ Keep h0 h [] ∧ own_STR Z h so f k
set_option maxRecDepth 65536 in
set_option maxHeartbeats 40000000 in
theorem rm23 (l : Launch) (Z : State) (a0 : Array Value) (hw : ∀ d ∈ tables_1, d.before a0 Z = true) (ws : List Jvm.Cond) (tb : Addr) (n : Nat) (k : Nat) (kb : ClassId) (f : Nat → Int32) (h0 : Heap) (n0 : Nat) (Z0 : n0 ≤ h0.size) (Va : Arv Z h0 tb kb .byte (Int32.ofNat n) (own_tab (own_l1 f) (n)) (.int (0 : Int32))) (h255 : ∀ j, j < n → ¬ (255 : Int32) < f j) (hn : n ≤ 16) (hk : k < n) :
    MetFree l (⟨"java/lang/StringLatin1", "newString", "([BII)Ljava/lang/String;"⟩ : MethodName) (head1 (Jvm.Cond.code (⟨"java/lang/StringLatin1", "newString", "([BII)Ljava/lang/String;"⟩ : MethodName) jdk_43_method_47_code 3 (some (.object "java/lang/String")) :: ws) ({ frames := 3, cells := 2, slots := 36, locals := 72 } : Room)) (fun α υ => α = #[(.ref tb), (.int (0 : Int32)), (.int (Int32.ofNat k))] ∧ Z.Warmed39 υ.vm ∧ υ.heap = h0 ∧ CHv Z consts_1 υ.vm h0) (fun _ _ _ _ _ => True) (fun _ υ ω υ' => ∃ v L, ω = .returned v ∧ Q23 Z tb n k kb f h0 n0 v υ'.heap L ∧ CHr Z consts_1 υ.vm υ.heap υ'.vm υ'.heap ∧ ReturnedEndW υ ω υ' L ({ frames := 3, cells := 2, slots := 36, locals := 72 } : Room).cells ({ frames := 3, cells := 2, slots := 36, locals := 72 } : Room).slots) := by
  refine MetFree.of_bodySF (plainFor_of_name pn_java_lang_StringLatin1) hisR ?_
  intro p e s m args below meth c s₁ Bd hml0 hP hK
  obtain ⟨rfl, hZ, hh, hC0⟩ := hP
  have hx := Bd.exec
  have hby := Bd.bytes
  have hml : c.maxLocals = 3 := hml0
  have hown : s.vm.findClass "java/lang/StringLatin1" = some m.cls := findClass_of_methodNamed Bd.named
  have hnm := (name_of_methodNamed Bd.named Bd.method).1
  have X0 : Stand p l e ({ frames := 3, cells := 2, slots := 36, locals := 72 } : Room) s m #[(.ref tb), (.int (0 : Int32)), (.int (Int32.ofNat k))] below meth c s₁ [] 0 0 := Stand.of_body Bd
  have e0 : s₁.heap = h0 := by rw [← hh, Bd.state]; rfl
  have N0 := Fr.nil n0
  have pre0 : ∀ τ, Steps p.tables e below (s₁.setTop (mkF m 0 #[.val (.ref tb), .val (.int (0 : Int32)), .val (.int (Int32.ofNat k))] [])) τ → Steps p.tables e below (s₁.setTop (entryFrame m #[(.ref tb), (.int (0 : Int32)), (.int (Int32.ofNat k))] 3)) τ := fun τ κ => castTop (ef_23 m tb n k) κ
  have hS0 : s.Since s.vm 0 := (State.WarmedH.refl s).since 0
  have hks : 0 ≤ h0.size := Nat.zero_le _
  have hEL := own_EL hw
  have Kp0 : Keep h0 h0 [] := Keep.refl _ _
  rcases (show k = 0 ∨ 0 < k by omega) with hk0 | hk0
  · subst hk0
    have pre1 := fun τ (κ : Steps p.tables e below (s₁.setTop (mkF m 4 #[.val (.ref tb), .val (.int (0 : Int32)), .val (.int (Int32.ofNat 0))] [])) τ) => pre0 τ (by
      refine XS.iloadN X0.here hx rfl (hb hby d23_0) rfl ?_
      refine XS.ifNo X0.here hx rfl (hb hby d23_1) rfl ((if0 _ _).trans (teq rfl).2) ?_
      show Steps p.tables e below (s₁.setTop (mkF m 4 #[.val (.ref tb), .val (.int (0 : Int32)), .val (.int (Int32.ofNat 0))] [])) _
      exact κ)
    obtain ⟨li, T2, h2, ks2, eb, kb2, X2, e2, E2, hS2, hks, hZ, hown, A2, Fc2, Fv2, V2, lta2, ltb2, C2, Lit2, Ne2, st2⟩ := ldcCH (s := s) (vm0 := s.vm) X0 hx hZ hown (hw _ (List.mem_of_getElem? (i := 107) rfl)) (own_wS hw) e0 hS0 (Nat.zero_le _) hEL (List.mem_of_getElem? (i := 1) rfl) hC0 (vs := []) (z := 0) (by simp) (by decide) rfl (g := (mkF m 4 #[.val (.ref tb), .val (.int (0 : Int32)), .val (.int (Int32.ofNat 0))] [])) rfl (hb hby d23_4) (n := 0) (by decide) (by decide) (by decide) (by decide)
    have Va_2 : Arv Z h2 tb kb .byte (Int32.ofNat n) (own_tab (own_l1 f) (n)) (.int (0 : Int32)) := Va.ext E2
    have Kp2 : Keep h0 h2 [] := Kp0.ext E2
    have Z2 : n0 ≤ h2.size := Nat.le_trans Z0 E2.1
    have pre3 := fun τ (κ : Steps p.tables e below (T2.setTop (mkF m 6 #[.val (.ref tb), .val (.int (0 : Int32)), .val (.int (Int32.ofNat 0))] [(.ref li)])) τ) => pre1 τ (st2 _ κ)
    obtain ⟨fs, hr, hrun, hended, hEnd⟩ := Stand.leaveW (s := s) (vm₁ := T2.vm) X2 hS2 (by rw [e2]; exact hks) (v := some (.ref li)) (fun h => by rw [Bd.returns] at h; cases h)
    refine ⟨_, _, pre3 _ ?_, hrun, hended, _, _, rfl, ?_, ?_, ⟨hEnd.1, hEnd.2.1, hEnd.2.2.1, hEnd.2.2.2.mono (by decide) (by decide)⟩⟩
    · jvm_step X2.here [X2.here.top, hx, (hb hby d23_6), X2.method', Bd.returns, Value.isRef, FieldType.isReference]
      first | (intro acts; rw [hr _ acts rfl rfl rfl]) | rw [hr _ _ rfl rfl rfl]
      exact Steps.refl _
    · show Q23 Z tb n 0 kb f h0 n0 _ T2.heap _
      rw [e2]
      exact ⟨li, rfl, N0, Kp2, eb, 0, A2, Fv2, Fc2, kb2, Or.inl ⟨rfl, fun j hj => absurd hj (by omega), V2⟩⟩
    · show CHr Z consts_1 s.vm s.heap T2.vm T2.heap
      rw [hh, e2]
      exact (C2.trans (CHv.at (s := s) (vm0 := T2.vm) X2 hZ hEL C2.1))
  · have pre4 := fun τ (κ : Steps p.tables e below (s₁.setTop (mkF m 7 #[.val (.ref tb), .val (.int (0 : Int32)), .val (.int (Int32.ofNat k))] [])) τ) => pre0 τ (by
      refine XS.iloadN X0.here hx rfl (hb hby d23_0) rfl ?_
      refine XS.ifYes X0.here hx rfl (pc0 := 1) (pc' := 7) rfl (hb hby d23_1) rfl ((if0 _ _).trans (feq (fun q => by have := (own_injN (j := 0) (by omega) (by omega)).mp q; omega)).2) (by decide) (by decide) ?_
      show Steps p.tables e below (s₁.setTop (mkF m 7 #[.val (.ref tb), .val (.int (0 : Int32)), .val (.int (Int32.ofNat k))] [])) _
      exact κ)
    obtain ⟨T5, h5, X5, e5, E5, A5, D5, -, st5⟩ := newO X0 hx hZ hown (hw _ (List.mem_of_getElem? (i := 108) rfl)) (hw _ (List.mem_of_getElem? (i := 10) rfl)) (hw _ (List.mem_of_getElem? (i := 11) rfl)) e0 (g := (mkF m 7 #[.val (.ref tb), .val (.int (0 : Int32)), .val (.int (Int32.ofNat k))] [])) rfl (hb hby d23_7) (by decide) (by decide)
    obtain ⟨so, g5⟩ : ∃ z, z = h0.size := ⟨_, rfl⟩
    rw [← g5] at A5 D5 st5
    have g_so : n0 ≤ so := Nat.le_trans Z0 (Nat.le_of_eq g5.symm)
    have ne_tb_so : tb ≠ so := Nat.ne_of_lt (Nat.lt_of_lt_of_le Va.lt (Nat.le_of_eq g5.symm))
    have Va_5 : Arv Z h5 tb kb .byte (Int32.ofNat n) (own_tab (own_l1 f) (n)) (.int (0 : Int32)) := Va.ext E5
    have sz_so : h0.size ≤ so := Nat.le_trans Kp0.1 (Nat.le_of_eq g5.symm)
    have Kp5 : Keep h0 h5 [] := Kp0.ext E5
    have Z5 : n0 ≤ h5.size := Nat.le_trans Z0 E5.1
    have F_value_so_5 : Fld Z h5 so "java/lang/String" "value" "[B" .null := D5 (Or.inr (hw _ (List.mem_of_getElem? (i := 25) rfl))) (ty := (.array .byte)) (by decide)
    have F_coder_so_5 : Fld Z h5 so "java/lang/String" "coder" "B" (.int (0 : Int32)) := D5 (Or.inr (hw _ (List.mem_of_getElem? (i := 26) rfl))) (ty := .byte) (by decide)
    have pre6 := fun τ (κ : Steps p.tables e below (T5.setTop (mkF m 10 #[.val (.ref tb), .val (.int (0 : Int32)), .val (.int (Int32.ofNat k))] [(.ref so)])) τ) => pre4 τ (st5 _ κ)
    have pre7 := fun τ (κ : Steps p.tables e below (T5.setTop (mkF m 16 #[.val (.ref tb), .val (.int (0 : Int32)), .val (.int (Int32.ofNat k))] [(.int ((0 : Int32) + (Int32.ofNat k))), (.int (0 : Int32)), (.ref tb), (.ref so), (.ref so)])) τ) => pre6 τ (by
      refine XS.dup X5.here hx rfl (hb hby d23_10) rfl rfl ?_
      show Steps p.tables e below (T5.setTop (mkF m 11 #[.val (.ref tb), .val (.int (0 : Int32)), .val (.int (Int32.ofNat k))] [(.ref so), (.ref so)])) _
      refine XS.aloadN X5.here hx rfl (hb hby d23_11) rfl rfl ?_
      refine XS.iloadN X5.here hx rfl (hb hby d23_12) rfl ?_
      refine XS.iloadN X5.here hx rfl (hb hby d23_13) rfl ?_
      refine XS.iloadN X5.here hx rfl (hb hby d23_14) rfl ?_
      refine XS.iadd X5.here hx rfl (hb hby d23_15) rfl ?_
      show Steps p.tables e below (T5.setTop (mkF m 16 #[.val (.ref tb), .val (.int (0 : Int32)), .val (.int (Int32.ofNat k))] [(.int ((0 : Int32) + (Int32.ofNat k))), (.int (0 : Int32)), (.ref tb), (.ref so), (.ref so)])) _
      exact κ)
    rw [show ((0 : Int32) + (Int32.ofNat k)) = (Int32.ofNat k) from (Int32.zero_add _)] at pre7
    obtain ⟨_, _, ⟨T8, L8, k8, n8⟩, -, X8, ⟨Lc8, hQ8, l8, y8, z8⟩, st8⟩ := Jvm.LawKit.callS X5 hx (y := (⟨"java/util/Arrays", "copyOfRange", "([BII)[B"⟩ : MethodName)) hown (mvT hZ (hw _ (List.mem_of_getElem? (i := 109) rfl))) (mvT hZ (hw _ (List.mem_of_getElem? (i := 110) rfl))) (mvT hZ (hw _ (List.mem_of_getElem? (i := 111) rfl))) (mvT hZ (hw _ (List.mem_of_getElem? (i := 112) rfl))) (by decide) (backOf (W := 2) (rm24 l Z a0 hw [] tb n k kb (own_l1 f) h5 n0 Z5 Va_5 (by omega) hk) hZ (hw _ (List.mem_of_getElem? (i := 112) rfl)) (hw _ (List.mem_of_getElem? (i := 111) rfl)) (Nat.le_of_ble_eq_true rfl) (Nat.le_of_ble_eq_true rfl)) (g := (mkF m 16 #[.val (.ref tb), .val (.int (0 : Int32)), .val (.int (Int32.ofNat k))] [(.int (Int32.ofNat k)), (.int (0 : Int32)), (.ref tb), (.ref so), (.ref so)])) rfl (by rw [hml]; rfl) (argsL := [(.ref tb), (.int (0 : Int32)), (.int (Int32.ofNat k))]) (rest := [(.ref so), (.ref so)]) (lenOf pd_19 rfl) rfl (by show 2 * 0 + _ ≤ _; exact Nat.le_of_eq rfl) (hb hby d23_16) (fun _ _ => ⟨rfl, e5, (by decide : 1 + 1 ≤ _), (by decide : 4 + 32 ≤ _)⟩)
    dsimp only [Pt.U, Pt.locs, Pt.cells, Pt.slots] at X8 l8 y8 z8 st8 hQ8
    subst l8 y8 z8
    obtain ⟨b, kc, rfl, Nq8, K8, Vb, sb⟩ := hQ8
    have Va_8 : Arv Z T8.heap tb kb .byte (Int32.ofNat n) (own_tab (own_l1 f) (n)) (.int (0 : Int32)) := Va_5.keep K8 nin0
    have A5_8 : Exa Z T8.heap so "java/lang/String" := A5.keep K8
    have F_value_so_8 : Fld Z T8.heap so "java/lang/String" "value" "[B" .null := F_value_so_5.keep K8 nin0
    have F_coder_so_8 : Fld Z T8.heap so "java/lang/String" "coder" "B" (.int (0 : Int32)) := F_coder_so_5.keep K8 nin0
    have Z8 : n0 ≤ T8.heap.size := Nat.le_trans Z5 K8.1
    have Kp8 : Keep h0 T8.heap [] := Kp5.trans K8 all0
    have N8 := Fr.app N0 Nq8
    have pre9 := fun τ (κ : Steps p.tables e below (T8.setTop (mkF m 19 #[.val (.ref tb), .val (.int (0 : Int32)), .val (.int (Int32.ofNat k))] [(.ref b), (.ref so), (.ref so)])) τ) => pre7 τ (st8 _ κ)
    have hbs : b ≠ so := Ne.symm (Nat.ne_of_lt (Nat.lt_of_lt_of_le A5.lt sb))
    have pre10 := fun τ (κ : Steps p.tables e below (T8.setTop (mkF m 20 #[.val (.ref tb), .val (.int (0 : Int32)), .val (.int (Int32.ofNat k))] [(.int (0 : Int32)), (.ref b), (.ref so), (.ref so)])) τ) => pre9 τ (by
      refine XS.iconst X8.here hx rfl (hb hby d23_19) ?_
      show Steps p.tables e below (T8.setTop (mkF m 20 #[.val (.ref tb), .val (.int (0 : Int32)), .val (.int (Int32.ofNat k))] [(.int (0 : Int32)), (.ref b), (.ref so), (.ref so)])) _
      exact κ)
    obtain ⟨_, _, ⟨T11, L11, k11, n11⟩, -, X11, ⟨Lc11, hQ11, l11, y11, z11⟩, st11⟩ := X8.specialBack hx (y := (⟨"java/lang/String", "<init>", "([BB)V"⟩ : MethodName)) rfl hown (mvT hZ (hw _ (List.mem_of_getElem? (i := 124) rfl))) (mvT hZ (hw _ (List.mem_of_getElem? (i := 125) rfl))) (mvT hZ (hw _ (List.mem_of_getElem? (i := 126) rfl))) (by decide) (backOf (W := 1) (rm27 l Z a0 hw [] so b 0 k f T8.heap n0 Z8 A5_8 F_value_so_8 F_coder_so_8 ⟨kc, Or.inl ⟨rfl, fun j hj => h255 j (by omega), Vb⟩⟩ hbs g_so) hZ (hw _ (List.mem_of_getElem? (i := 126) rfl)) (hw _ (List.mem_of_getElem? (i := 11) rfl)) (Nat.le_of_ble_eq_true rfl) (Nat.le_of_ble_eq_true rfl)) (g := (mkF m 20 #[.val (.ref tb), .val (.int (0 : Int32)), .val (.int (Int32.ofNat k))] [(.int (0 : Int32)), (.ref b), (.ref so), (.ref so)])) rfl (by rw [hml]; rfl) (Steps.refl _) (a := so) (argsL := [(.ref b), (.int (0 : Int32))]) (rest := [(.ref so)]) (lenOf pd_22 rfl) rfl (by show 2 * 0 + _ ≤ _; exact Nat.le_of_eq rfl) (hb hby d23_20) (fun _ _ => ⟨rfl, rfl, (by decide : 2 + 0 ≤ _), (by decide : 36 + 0 ≤ _)⟩)
    dsimp only [Pt.U, Pt.locs, Pt.cells, Pt.slots] at X11 l11 y11 z11 st11 hQ11
    subst l11 y11 z11
    obtain ⟨rfl, Nq11, K11, P11⟩ := hQ11
    have Va_11 : Arv Z T11.heap tb kb .byte (Int32.ofNat n) (own_tab (own_l1 f) (n)) (.int (0 : Int32)) := Va_8.keep K11 (ninS ne_tb_so nin0)
    have A5_11 : Exa Z T11.heap so "java/lang/String" := A5_8.keep K11
    have Z11 : n0 ≤ T11.heap.size := Nat.le_trans Z8 K11.1
    have Kp11 : Keep h0 T11.heap [] := Kp8.trans K11 (allS (Or.inr sz_so) all0)
    have N11 := Fr.app N8 Nq11
    have pre12 := fun τ (κ : Steps p.tables e below (T11.setTop (mkF m 23 #[.val (.ref tb), .val (.int (0 : Int32)), .val (.int (Int32.ofNat k))] [(.ref so)])) τ) => pre10 τ (st11.trans κ)
    obtain ⟨fs, hr, hrun, hended, hEnd⟩ := Stand.leaveW (s := s) (vm₁ := s.vm) X11 hS0 (Nat.zero_le _) (v := some (.ref so)) (fun h => by rw [Bd.returns] at h; cases h)
    refine ⟨_, _, pre12 _ ?_, hrun, hended, _, _, rfl, ?_, ?_, ⟨hEnd.1, hEnd.2.1, hEnd.2.2.1, hEnd.2.2.2.mono (by decide) (by decide)⟩⟩
    · jvm_step X11.here [X11.here.top, hx, (hb hby d23_23), X11.method', Bd.returns, Value.isRef, FieldType.isReference]
      first | (intro acts; rw [hr _ acts rfl rfl rfl]) | rw [hr _ _ rfl rfl rfl]
      exact Steps.refl _
    · show Q23 Z tb n k kb f h0 n0 _ T11.heap _
      exact ⟨so, rfl, N11, Kp11, P11⟩
    · show CHr Z consts_1 s.vm s.heap T11.vm T11.heap
      rw [hh]
      exact ((CHr.keep Kp11 sf0 hC0).trans (CHv.at (s := s) (vm0 := s.vm) X11 hZ hEL (CHv.keep Kp11 sf0 hC0)))
theorem ef_34 (m : MethodId) (tb : Addr) (n : Nat) (k : Nat) (zc : Int32) (fm : Value) : entryFrame m #[(.ref tb), (.int (0 : Int32)), (.int (Int32.ofNat k))] 5 = mkF m 0 #[.val (.ref tb), .val (.int (0 : Int32)), .val (.int (Int32.ofNat k)), .unset, .unset] [] := by first | (simp [entryFrame, mkF, argsToLocals, Value.category]; done) | rfl
def Q34 (Z : State) (tb : Addr) (n : Nat) (k : Nat) (kb : ClassId) (f : Nat → Int32) (zc : Int32) (fm : Value) (h0 : Heap) (n0 : Nat) (v : Option Value) (h : Heap) (L : List Loc) : Prop := ∃ so : Addr, v = some (.ref so) ∧ Fr n0 L ∧ Keep h0 h [] ∧ own_STR Z h so f k
set_option maxRecDepth 65536 in
set_option maxHeartbeats 40000000 in
theorem rm34 (l : Launch) (Z : State) (a0 : Array Value) (hw : ∀ d ∈ tables_1, d.before a0 Z = true) (ws : List Jvm.Cond) (tb : Addr) (n : Nat) (k : Nat) (kb : ClassId) (f : Nat → Int32) (zc : Int32) (fm : Value) (h0 : Heap) (n0 : Nat) (Z0 : n0 ≤ h0.size) (O0 : Old Z n0 h0) (U0 : own_ST Z zc fm) (Va : Arv Z h0 tb kb .byte (Int32.ofNat (2 * n)) (own_tab (own_u16 f) (2 * n)) (.int (0 : Int32))) (hn : n ≤ 16) (hk : k < n) (hf : ∀ j, j < n → own_ch (f j)) :
    MetFree l (⟨"java/lang/StringUTF16", "newString", "([BII)Ljava/lang/String;"⟩ : MethodName) (head1 (Jvm.Cond.code (⟨"java/lang/StringUTF16", "newString", "([BII)Ljava/lang/String;"⟩ : MethodName) jdk_52_method_69_code 5 (some (.object "java/lang/String")) :: ws) ({ frames := 5, cells := 3, slots := 52, locals := 87 } : Room)) (fun α υ => α = #[(.ref tb), (.int (0 : Int32)), (.int (Int32.ofNat k))] ∧ Z.Warmed39 υ.vm ∧ υ.heap = h0 ∧ CHv Z consts_1 υ.vm h0) (fun _ _ _ _ _ => True) (fun _ υ ω υ' => ∃ v L, ω = .returned v ∧ Q34 Z tb n k kb f zc fm h0 n0 v υ'.heap L ∧ CHr Z consts_1 υ.vm υ.heap υ'.vm υ'.heap ∧ ReturnedEndW υ ω υ' L ({ frames := 5, cells := 3, slots := 52, locals := 87 } : Room).cells ({ frames := 5, cells := 3, slots := 52, locals := 87 } : Room).slots) := by
  refine MetFree.of_bodySF (plainFor_of_name pn_java_lang_StringUTF16) hisR ?_
  intro p e s m args below meth c s₁ Bd hml0 hP hK
  obtain ⟨rfl, hZ, hh, hC0⟩ := hP
  have hx := Bd.exec
  have hby := Bd.bytes
  have hml : c.maxLocals = 5 := hml0
  have hown : s.vm.findClass "java/lang/StringUTF16" = some m.cls := findClass_of_methodNamed Bd.named
  have hnm := (name_of_methodNamed Bd.named Bd.method).1
  have X0 : Stand p l e ({ frames := 5, cells := 3, slots := 52, locals := 87 } : Room) s m #[(.ref tb), (.int (0 : Int32)), (.int (Int32.ofNat k))] below meth c s₁ [] 0 0 := Stand.of_body Bd
  have e0 : s₁.heap = h0 := by rw [← hh, Bd.state]; rfl
  have N0 := Fr.nil n0
  have pre0 : ∀ τ, Steps p.tables e below (s₁.setTop (mkF m 0 #[.val (.ref tb), .val (.int (0 : Int32)), .val (.int (Int32.ofNat k)), .unset, .unset] [])) τ → Steps p.tables e below (s₁.setTop (entryFrame m #[(.ref tb), (.int (0 : Int32)), (.int (Int32.ofNat k))] 5)) τ := fun τ κ => castTop (ef_34 m tb n k zc fm) κ
  have hS0 : s.Since s.vm 0 := (State.WarmedH.refl s).since 0
  have hks : 0 ≤ h0.size := Nat.zero_le _
  have hEL := own_EL hw
  have Kp0 : Keep h0 h0 [] := Keep.refl _ _
  obtain ⟨Scs, hcs, Sad, Shi, Slo, Sfm, r_fm⟩ := id U0
  rcases (show k = 0 ∨ 0 < k by omega) with hk0 | hk0
  · subst hk0
    have pre1 := fun τ (κ : Steps p.tables e below (s₁.setTop (mkF m 4 #[.val (.ref tb), .val (.int (0 : Int32)), .val (.int (Int32.ofNat 0)), .unset, .unset] [])) τ) => pre0 τ (by
      refine XS.iloadN X0.here hx rfl (hb hby d34_0) rfl ?_
      refine XS.ifNo X0.here hx rfl (hb hby d34_1) rfl ((if0 _ _).trans (teq rfl).2) ?_
      show Steps p.tables e below (s₁.setTop (mkF m 4 #[.val (.ref tb), .val (.int (0 : Int32)), .val (.int (Int32.ofNat 0)), .unset, .unset] [])) _
      exact κ)
    obtain ⟨li, T2, h2, ks2, eb, kb2, X2, e2, E2, hS2, hks, hZ, hown, A2, Fc2, Fv2, V2, lta2, ltb2, C2, Lit2, Ne2, st2⟩ := own_ldcW (s := s) (vm0 := s.vm) X0 hx hZ hown (hw _ (List.mem_of_getElem? (i := 176) rfl)) (own_wS hw) e0 hS0 (Nat.zero_le _) hEL (List.mem_of_getElem? (i := 2) rfl) hC0 (vs := []) (z := 0) (by simp) (by decide) rfl (g := (mkF m 4 #[.val (.ref tb), .val (.int (0 : Int32)), .val (.int (Int32.ofNat 0)), .unset, .unset] [])) rfl (hb hby d34_4) (n := 0) (by decide) (by decide) (by decide) (by decide)
    have Va_2 : Arv Z h2 tb kb .byte (Int32.ofNat (2 * n)) (own_tab (own_u16 f) (2 * n)) (.int (0 : Int32)) := Va.ext E2
    have Kp2 : Keep h0 h2 [] := Kp0.ext E2
    have Z2 : n0 ≤ h2.size := Nat.le_trans Z0 E2.1
    have pre3 := fun τ (κ : Steps p.tables e below (T2.setTop (mkF m 7 #[.val (.ref tb), .val (.int (0 : Int32)), .val (.int (Int32.ofNat 0)), .unset, .unset] [(.ref li)])) τ) => pre1 τ (st2 _ κ)
    obtain ⟨fs, hr, hrun, hended, hEnd⟩ := Stand.leaveW (s := s) (vm₁ := T2.vm) X2 hS2 (by rw [e2]; exact hks) (v := some (.ref li)) (fun h => by rw [Bd.returns] at h; cases h)
    refine ⟨_, _, pre3 _ ?_, hrun, hended, _, _, rfl, ?_, ?_, ⟨hEnd.1, hEnd.2.1, hEnd.2.2.1, hEnd.2.2.2.mono (by decide) (by decide)⟩⟩
    · jvm_step X2.here [X2.here.top, hx, (hb hby d34_7), X2.method', Bd.returns, Value.isRef, FieldType.isReference]
      first | (intro acts; rw [hr _ acts rfl rfl rfl]) | rw [hr _ _ rfl rfl rfl]
      exact Steps.refl _
    · show Q34 Z tb n 0 kb f zc fm h0 n0 _ T2.heap _
      rw [e2]
      exact ⟨li, rfl, N0, Kp2, eb, 0, A2, Fv2, Fc2, kb2, Or.inl ⟨rfl, fun j hj => absurd hj (by omega), V2⟩⟩
    · show CHr Z consts_1 s.vm s.heap T2.vm T2.heap
      rw [hh, e2]
      exact (C2.trans (CHv.at (s := s) (vm0 := T2.vm) X2 hZ hEL C2.1))
  · have pre4 := fun τ (κ : Steps p.tables e below (s₁.setTop (mkF m 8 #[.val (.ref tb), .val (.int (0 : Int32)), .val (.int (Int32.ofNat k)), .unset, .unset] [])) τ) => pre0 τ (by
      refine XS.iloadN X0.here hx rfl (hb hby d34_0) rfl ?_
      refine XS.ifYes X0.here hx rfl (pc0 := 1) (pc' := 8) rfl (hb hby d34_1) rfl ((if0 _ _).trans (feq (fun q => by have := (own_injN (j := 0) (by omega) (by omega)).mp q; omega)).2) (by decide) (by decide) ?_
      show Steps p.tables e below (s₁.setTop (mkF m 8 #[.val (.ref tb), .val (.int (0 : Int32)), .val (.int (Int32.ofNat k)), .unset, .unset] [])) _
      exact κ)
    obtain ⟨T5, X5, e5, st5⟩ := getS2 X0 hx hZ hown (host := "") (Or.inl (hw _ (List.mem_of_getElem? (i := 154) rfl))) Via.refl e0 (Scs.ext O0.2) (g := (mkF m 8 #[.val (.ref tb), .val (.int (0 : Int32)), .val (.int (Int32.ofNat k)), .unset, .unset] [])) rfl (hb hby d34_8)
    have pre6 := fun τ (κ : Steps p.tables e below (T5.setTop (mkF m 11 #[.val (.ref tb), .val (.int (0 : Int32)), .val (.int (Int32.ofNat k)), .unset, .unset] [(.int zc)])) τ) => pre4 τ (st5 _ κ)
    have pre7 := fun τ (κ : Steps p.tables e below (T5.setTop (mkF m 17 #[.val (.ref tb), .val (.int (0 : Int32)), .val (.int (Int32.ofNat k)), .unset, .unset] [(.int (Int32.ofNat k)), (.int (0 : Int32)), (.ref tb)])) τ) => pre6 τ (by
      refine XS.ifNo X5.here hx rfl (hb hby d34_11) rfl ((if0 _ _).trans (feq hcs).1) ?_
      show Steps p.tables e below (T5.setTop (mkF m 14 #[.val (.ref tb), .val (.int (0 : Int32)), .val (.int (Int32.ofNat k)), .unset, .unset] [])) _
      refine XS.aloadN X5.here hx rfl (hb hby d34_14) rfl rfl ?_
      refine XS.iloadN X5.here hx rfl (hb hby d34_15) rfl ?_
      refine XS.iloadN X5.here hx rfl (hb hby d34_16) rfl ?_
      show Steps p.tables e below (T5.setTop (mkF m 17 #[.val (.ref tb), .val (.int (0 : Int32)), .val (.int (Int32.ofNat k)), .unset, .unset] [(.int (Int32.ofNat k)), (.int (0 : Int32)), (.ref tb)])) _
      exact κ)
    obtain ⟨_, _, ⟨T8, L8, k8, n8⟩, -, X8, ⟨Lc8, hQ8, l8, y8, z8⟩, st8⟩ := Jvm.LawKit.callS X5 hx (y := (⟨"java/lang/StringUTF16", "compress", "([BII)[B"⟩ : MethodName)) hown (mvT hZ (hw _ (List.mem_of_getElem? (i := 155) rfl))) (mvT hZ (hw _ (List.mem_of_getElem? (i := 156) rfl))) (mvT hZ (hw _ (List.mem_of_getElem? (i := 96) rfl))) (mvT hZ (hw _ (List.mem_of_getElem? (i := 157) rfl))) (by decide) (backOf (W := 0) (rm35 l Z a0 hw [] tb n k kb f zc fm h0 n0 Z0 O0 U0 Va hn hk hf) hZ (hw _ (List.mem_of_getElem? (i := 157) rfl)) (hw _ (List.mem_of_getElem? (i := 96) rfl)) (Nat.le_of_ble_eq_true rfl) (Nat.le_of_ble_eq_true rfl)) (g := (mkF m 17 #[.val (.ref tb), .val (.int (0 : Int32)), .val (.int (Int32.ofNat k)), .unset, .unset] [(.int (Int32.ofNat k)), (.int (0 : Int32)), (.ref tb)])) rfl (by rw [hml]; rfl) (argsL := [(.ref tb), (.int (0 : Int32)), (.int (Int32.ofNat k))]) (rest := []) (lenOf pd_19 rfl) rfl (by show 2 * 0 + _ ≤ _; exact Nat.le_of_eq rfl) (hb hby d34_17) (fun _ _ => ⟨rfl, e5, (by decide : 0 + 2 ≤ _), (by decide : 0 + 48 ≤ _)⟩)
    dsimp only [Pt.U, Pt.locs, Pt.cells, Pt.slots] at X8 l8 y8 z8 st8 hQ8
    subst l8 y8 z8
    obtain ⟨b, cd, rfl, Nq8, K8, sb, Bt⟩ := hQ8
    have O0_8 : Old Z n0 T8.heap := O0.keep K8 all0
    have Va_8 : Arv Z T8.heap tb kb .byte (Int32.ofNat (2 * n)) (own_tab (own_u16 f) (2 * n)) (.int (0 : Int32)) := Va.keep K8 nin0
    have Z8 : n0 ≤ T8.heap.size := Nat.le_trans Z0 K8.1
    have Kp8 : Keep h0 T8.heap [] := Kp0.trans K8 all0
    have N8 := Fr.app N0 Nq8
    have pre9 := fun τ (κ : Steps p.tables e below (T8.setTop (mkF m 20 #[.val (.ref tb), .val (.int (0 : Int32)), .val (.int (Int32.ofNat k)), .unset, .unset] [(.ref b)])) τ) => pre7 τ (st8 _ κ)
    have pre10 := fun τ (κ : Steps p.tables e below (T8.setTop (mkF m 23 #[.val (.ref tb), .val (.int (0 : Int32)), .val (.int (Int32.ofNat k)), .val (.ref b), .unset] [(.int (Int32.ofNat k)), (.ref b)])) τ) => pre9 τ (by
      refine XS.astoreN X8.here hx rfl (hb hby d34_20) rfl rfl (l' := #[.val (.ref tb), .val (.int (0 : Int32)), .val (.int (Int32.ofNat k)), .val (.ref b), .unset]) rfl ?_
      show Steps p.tables e below (T8.setTop (mkF m 21 #[.val (.ref tb), .val (.int (0 : Int32)), .val (.int (Int32.ofNat k)), .val (.ref b), .unset] [])) _
      refine XS.aloadN X8.here hx rfl (hb hby d34_21) rfl rfl ?_
      refine XS.iloadN X8.here hx rfl (hb hby d34_22) rfl ?_
      show Steps p.tables e below (T8.setTop (mkF m 23 #[.val (.ref tb), .val (.int (0 : Int32)), .val (.int (Int32.ofNat k)), .val (.ref b), .unset] [(.int (Int32.ofNat k)), (.ref b)])) _
      exact κ)
    obtain ⟨_, _, ⟨T11, L11, k11, n11⟩, -, X11, ⟨Lc11, hQ11, l11, y11, z11⟩, st11⟩ := Jvm.LawKit.callS X8 hx (y := (⟨"java/lang/StringUTF16", "coderFromArrayLen", "([BI)B"⟩ : MethodName)) hown (mvT hZ (hw _ (List.mem_of_getElem? (i := 173) rfl))) (mvT hZ (hw _ (List.mem_of_getElem? (i := 102) rfl))) (mvT hZ (hw _ (List.mem_of_getElem? (i := 96) rfl))) (mvT hZ (hw _ (List.mem_of_getElem? (i := 103) rfl))) (by decide) (backOf (W := 0) (rm22 l Z a0 hw [] b k cd f T8.heap n0 Z8 Bt (by omega) hk0) hZ (hw _ (List.mem_of_getElem? (i := 103) rfl)) (hw _ (List.mem_of_getElem? (i := 96) rfl)) (Nat.le_of_ble_eq_true rfl) (Nat.le_of_ble_eq_true rfl)) (g := (mkF m 23 #[.val (.ref tb), .val (.int (0 : Int32)), .val (.int (Int32.ofNat k)), .val (.ref b), .unset] [(.int (Int32.ofNat k)), (.ref b)])) rfl (by rw [hml]; rfl) (argsL := [(.ref b), (.int (Int32.ofNat k))]) (rest := []) (lenOf pd_6 rfl) rfl (by show 2 * 0 + _ ≤ _; exact Nat.le_of_eq rfl) (hb hby d34_23) (fun _ _ => ⟨rfl, rfl, (by decide : 2 + 0 ≤ _), (by decide : 48 + 0 ≤ _)⟩)
    dsimp only [Pt.U, Pt.locs, Pt.cells, Pt.slots] at X11 l11 y11 z11 st11 hQ11
    subst l11 y11 z11
    obtain ⟨rfl, Nq11, hh11⟩ := hQ11
    have O0_11 : Old Z n0 T11.heap := by rw [hh11]; exact O0_8
    have Va_11 : Arv Z T11.heap tb kb .byte (Int32.ofNat (2 * n)) (own_tab (own_u16 f) (2 * n)) (.int (0 : Int32)) := by rw [hh11]; exact Va_8
    have Z11 : n0 ≤ T11.heap.size := by rw [hh11]; exact Z8
    have Kp11 : Keep h0 T11.heap [] := by rw [hh11]; exact Kp8
    have N11 := Fr.app N8 Nq11
    have pre12 := fun τ (κ : Steps p.tables e below (T11.setTop (mkF m 26 #[.val (.ref tb), .val (.int (0 : Int32)), .val (.int (Int32.ofNat k)), .val (.ref b), .unset] [(.int cd)])) τ) => pre10 τ (st11 _ κ)
    rw [← hh11] at Bt
    have pre13 := fun τ (κ : Steps p.tables e below (T11.setTop (mkF m 28 #[.val (.ref tb), .val (.int (0 : Int32)), .val (.int (Int32.ofNat k)), .val (.ref b), .val (.int cd)] [])) τ) => pre12 τ (by
      refine XS.istore X11.here hx rfl (hb hby d34_26) rfl (l' := #[.val (.ref tb), .val (.int (0 : Int32)), .val (.int (Int32.ofNat k)), .val (.ref b), .val (.int cd)]) rfl ?_
      show Steps p.tables e below (T11.setTop (mkF m 28 #[.val (.ref tb), .val (.int (0 : Int32)), .val (.int (Int32.ofNat k)), .val (.ref b), .val (.int cd)] [])) _
      exact κ)
    obtain ⟨T14, h14, X14, e14, E14, A14, D14, -, st14⟩ := newO X11 hx hZ hown (hw _ (List.mem_of_getElem? (i := 174) rfl)) (hw _ (List.mem_of_getElem? (i := 10) rfl)) (hw _ (List.mem_of_getElem? (i := 11) rfl)) rfl (g := (mkF m 28 #[.val (.ref tb), .val (.int (0 : Int32)), .val (.int (Int32.ofNat k)), .val (.ref b), .val (.int cd)] [])) rfl (hb hby d34_28) (by decide) (by decide)
    obtain ⟨so, g14⟩ : ∃ z, z = T11.heap.size := ⟨_, rfl⟩
    rw [← g14] at A14 D14 st14
    have g_so : n0 ≤ so := Nat.le_trans Z11 (Nat.le_of_eq g14.symm)
    have ne_tb_so : tb ≠ so := Nat.ne_of_lt (Nat.lt_of_lt_of_le Va_11.lt (Nat.le_of_eq g14.symm))
    have O0_14 : Old Z n0 h14 := O0_11.ext E14
    have Va_14 : Arv Z h14 tb kb .byte (Int32.ofNat (2 * n)) (own_tab (own_u16 f) (2 * n)) (.int (0 : Int32)) := Va_11.ext E14
    have sz_so : h0.size ≤ so := Nat.le_trans Kp11.1 (Nat.le_of_eq g14.symm)
    have Kp14 : Keep h0 h14 [] := Kp11.ext E14
    have Z14 : n0 ≤ h14.size := Nat.le_trans Z11 E14.1
    have F_value_so_14 : Fld Z h14 so "java/lang/String" "value" "[B" .null := D14 (Or.inr (hw _ (List.mem_of_getElem? (i := 25) rfl))) (ty := (.array .byte)) (by decide)
    have F_coder_so_14 : Fld Z h14 so "java/lang/String" "coder" "B" (.int (0 : Int32)) := D14 (Or.inr (hw _ (List.mem_of_getElem? (i := 26) rfl))) (ty := .byte) (by decide)
    have pre15 := fun τ (κ : Steps p.tables e below (T14.setTop (mkF m 31 #[.val (.ref tb), .val (.int (0 : Int32)), .val (.int (Int32.ofNat k)), .val (.ref b), .val (.int cd)] [(.ref so)])) τ) => pre13 τ (st14 _ κ)
    have hbs : b ≠ so := Nat.ne_of_lt (Nat.lt_of_lt_of_le Bt.lt (Nat.le_of_eq g14.symm))
    have Bt1 : own_BY Z h14 b cd f k := Bt.keep ((Keep.refl _ []).ext E14) nin0
    have pre16 := fun τ (κ : Steps p.tables e below (T14.setTop (mkF m 35 #[.val (.ref tb), .val (.int (0 : Int32)), .val (.int (Int32.ofNat k)), .val (.ref b), .val (.int cd)] [(.int cd), (.ref b), (.ref so), (.ref so)])) τ) => pre15 τ (by
      refine XS.dup X14.here hx rfl (hb hby d34_31) rfl rfl ?_
      show Steps p.tables e below (T14.setTop (mkF m 32 #[.val (.ref tb), .val (.int (0 : Int32)), .val (.int (Int32.ofNat k)), .val (.ref b), .val (.int cd)] [(.ref so), (.ref so)])) _
      refine XS.aloadN X14.here hx rfl (hb hby d34_32) rfl rfl ?_
      refine XS.iload X14.here hx rfl (hb hby d34_33) rfl ?_
      show Steps p.tables e below (T14.setTop (mkF m 35 #[.val (.ref tb), .val (.int (0 : Int32)), .val (.int (Int32.ofNat k)), .val (.ref b), .val (.int cd)] [(.int cd), (.ref b), (.ref so), (.ref so)])) _
      exact κ)
    obtain ⟨_, _, ⟨T17, L17, k17, n17⟩, -, X17, ⟨Lc17, hQ17, l17, y17, z17⟩, st17⟩ := X14.specialBack hx (y := (⟨"java/lang/String", "<init>", "([BB)V"⟩ : MethodName)) rfl hown (mvT hZ (hw _ (List.mem_of_getElem? (i := 175) rfl))) (mvT hZ (hw _ (List.mem_of_getElem? (i := 125) rfl))) (mvT hZ (hw _ (List.mem_of_getElem? (i := 126) rfl))) (by decide) (backOf (W := 1) (rm27 l Z a0 hw [] so b cd k f h14 n0 Z14 A14 F_value_so_14 F_coder_so_14 Bt1 hbs g_so) hZ (hw _ (List.mem_of_getElem? (i := 126) rfl)) (hw _ (List.mem_of_getElem? (i := 11) rfl)) (Nat.le_of_ble_eq_true rfl) (Nat.le_of_ble_eq_true rfl)) (g := (mkF m 35 #[.val (.ref tb), .val (.int (0 : Int32)), .val (.int (Int32.ofNat k)), .val (.ref b), .val (.int cd)] [(.int cd), (.ref b), (.ref so), (.ref so)])) rfl (by rw [hml]; rfl) (Steps.refl _) (a := so) (argsL := [(.ref b), (.int cd)]) (rest := [(.ref so)]) (lenOf pd_22 rfl) rfl (by show 2 * 0 + _ ≤ _; exact Nat.le_of_eq rfl) (hb hby d34_35) (fun _ _ => ⟨rfl, e14, (by decide : 3 + 0 ≤ _), (by decide : 52 + 0 ≤ _)⟩)
    dsimp only [Pt.U, Pt.locs, Pt.cells, Pt.slots] at X17 l17 y17 z17 st17 hQ17
    subst l17 y17 z17
    obtain ⟨rfl, Nq17, K17, P17⟩ := hQ17
    have O0_17 : Old Z n0 T17.heap := O0_14.keep K17 (allS g_so all0)
    have Va_17 : Arv Z T17.heap tb kb .byte (Int32.ofNat (2 * n)) (own_tab (own_u16 f) (2 * n)) (.int (0 : Int32)) := Va_14.keep K17 (ninS ne_tb_so nin0)
    have A14_17 : Exa Z T17.heap so "java/lang/String" := A14.keep K17
    have Z17 : n0 ≤ T17.heap.size := Nat.le_trans Z14 K17.1
    have Kp17 : Keep h0 T17.heap [] := Kp14.trans K17 (allS (Or.inr sz_so) all0)
    have N17 := Fr.app N11 Nq17
    have pre18 := fun τ (κ : Steps p.tables e below (T17.setTop (mkF m 38 #[.val (.ref tb), .val (.int (0 : Int32)), .val (.int (Int32.ofNat k)), .val (.ref b), .val (.int cd)] [(.ref so)])) τ) => pre16 τ (st17.trans κ)
    obtain ⟨fs, hr, hrun, hended, hEnd⟩ := Stand.leaveW (s := s) (vm₁ := s.vm) X17 hS0 (Nat.zero_le _) (v := some (.ref so)) (fun h => by rw [Bd.returns] at h; cases h)
    refine ⟨_, _, pre18 _ ?_, hrun, hended, _, _, rfl, ?_, ?_, ⟨hEnd.1, hEnd.2.1, hEnd.2.2.1, hEnd.2.2.2.mono (by decide) (by decide)⟩⟩
    · jvm_step X17.here [X17.here.top, hx, (hb hby d34_38), X17.method', Bd.returns, Value.isRef, FieldType.isReference]
      first | (intro acts; rw [hr _ acts rfl rfl rfl]) | rw [hr _ _ rfl rfl rfl]
      exact Steps.refl _
    · show Q34 Z tb n k kb f zc fm h0 n0 _ T17.heap _
      exact ⟨so, rfl, N17, Kp17, P17⟩
    · show CHr Z consts_1 s.vm s.heap T17.vm T17.heap
      rw [hh]
      exact ((CHr.keep Kp17 sf0 hC0).trans (CHv.at (s := s) (vm0 := s.vm) X17 hZ hEL (CHv.keep Kp17 sf0 hC0)))
theorem ef_15 (m : MethodId) (sa : Addr) (n : Nat) (k : Nat) (zc : Int32) (fm : Value) : entryFrame m #[(.ref sa), (.int (0 : Int32)), (.int (Int32.ofNat k))] 5 = mkF m 0 #[.val (.ref sa), .val (.int (0 : Int32)), .val (.int (Int32.ofNat k)), .unset, .unset] [] := by first | (simp [entryFrame, mkF, argsToLocals, Value.category]; done) | rfl
def Q15 (Z : State) (sa : Addr) (n : Nat) (k : Nat) (f : Nat → Int32) (zc : Int32) (fm : Value) (h0 : Heap) (n0 : Nat) (v : Option Value) (h : Heap) (L : List Loc) : Prop := ∃ so : Addr, v = some (.ref so) ∧ Fr n0 L ∧ Keep h0 h [] ∧ own_STR Z h so f k
set_option maxRecDepth 65536 in
set_option maxHeartbeats 40000000 in
theorem rm15 (l : Launch) (Z : State) (a0 : Array Value) (hw : ∀ d ∈ tables_1, d.before a0 Z = true) (ws : List Jvm.Cond) (sa : Addr) (n : Nat) (k : Nat) (f : Nat → Int32) (zc : Int32) (fm : Value) (h0 : Heap) (n0 : Nat) (Z0 : n0 ≤ h0.size) (O0 : Old Z n0 h0) (U0 : own_ST Z zc fm) (P0 : own_STR Z h0 sa f n) (hn : n ≤ 16) (hf : ∀ j, j < n → own_ch (f j)) (hk : k ≤ n) :
    MetFree l (⟨"java/lang/String", "substring", "(II)Ljava/lang/String;"⟩ : MethodName) (head1 (Jvm.Cond.code (⟨"java/lang/String", "substring", "(II)Ljava/lang/String;"⟩ : MethodName) jdk_42_method_92_code 5 (some (.object "java/lang/String")) :: ws) ({ frames := 6, cells := 3, slots := 52, locals := 103 } : Room)) (fun α υ => α = #[(.ref sa), (.int (0 : Int32)), (.int (Int32.ofNat k))] ∧ Z.Warmed39 υ.vm ∧ υ.heap = h0 ∧ CHv Z consts_1 υ.vm h0) (fun _ _ _ _ _ => True) (fun _ υ ω υ' => ∃ v L, ω = .returned v ∧ Q15 Z sa n k f zc fm h0 n0 v υ'.heap L ∧ CHr Z consts_1 υ.vm υ.heap υ'.vm υ'.heap ∧ ReturnedEndW υ ω υ' L ({ frames := 6, cells := 3, slots := 52, locals := 103 } : Room).cells ({ frames := 6, cells := 3, slots := 52, locals := 103 } : Room).slots) := by
  refine MetFree.of_bodySF (plainFor_of_name pn_java_lang_String) hisR ?_
  intro p e s m args below meth c s₁ Bd hml0 hP hK
  obtain ⟨rfl, hZ, hh, hC0⟩ := hP
  have hx := Bd.exec
  have hby := Bd.bytes
  have hml : c.maxLocals = 5 := hml0
  have hown : s.vm.findClass "java/lang/String" = some m.cls := findClass_of_methodNamed Bd.named
  have hnm := (name_of_methodNamed Bd.named Bd.method).1
  have X0 : Stand p l e ({ frames := 6, cells := 3, slots := 52, locals := 103 } : Room) s m #[(.ref sa), (.int (0 : Int32)), (.int (Int32.ofNat k))] below meth c s₁ [] 0 0 := Stand.of_body Bd
  have e0 : s₁.heap = h0 := by rw [← hh, Bd.state]; rfl
  have N0 := Fr.nil n0
  have pre0 : ∀ τ, Steps p.tables e below (s₁.setTop (mkF m 0 #[.val (.ref sa), .val (.int (0 : Int32)), .val (.int (Int32.ofNat k)), .unset, .unset] [])) τ → Steps p.tables e below (s₁.setTop (entryFrame m #[(.ref sa), (.int (0 : Int32)), (.int (Int32.ofNat k))] 5)) τ := fun τ κ => castTop (ef_15 m sa n k zc fm) κ
  have hS0 : s.Since s.vm 0 := (State.WarmedH.refl s).since 0
  have hks : 0 ≤ h0.size := Nat.zero_le _
  have hEL := own_EL hw
  have Kp0 : Keep h0 h0 [] := Keep.refl _ _
  obtain ⟨tb, cd, E_s, Fv, Fc, kb, ⟨rfl, h2, Va⟩ | ⟨rfl, h2, Va⟩⟩ := id P0
  · have pre1 := fun τ (κ : Steps p.tables e below (s₁.setTop (mkF m 1 #[.val (.ref sa), .val (.int (0 : Int32)), .val (.int (Int32.ofNat k)), .unset, .unset] [(.ref sa)])) τ) => pre0 τ (by
      refine XS.aloadN X0.here hx rfl (hb hby d15_0) rfl rfl ?_
      show Steps p.tables e below (s₁.setTop (mkF m 1 #[.val (.ref sa), .val (.int (0 : Int32)), .val (.int (Int32.ofNat k)), .unset, .unset] [(.ref sa)])) _
      exact κ)
    obtain ⟨cq2, kq2, q2a, q2b, q2c⟩ := isOf hZ e0 E_s
    obtain ⟨_, _, ⟨T2, L2, k2, n2⟩, -, X2, ⟨Lc2, hQ2, l2, y2, z2⟩, st2⟩ := X0.virtualBack hx (y := (⟨"java/lang/String", "length", "()I"⟩ : MethodName)) (z := (⟨"java/lang/String", "length", "()I"⟩ : MethodName)) hown (mvT hZ (hw _ (List.mem_of_getElem? (i := 40) rfl))) (mvT hZ (hw _ (List.mem_of_getElem? (i := 41) rfl))) (notFace_of_selects (args := #[]) (mvT hZ (hw _ (List.mem_of_getElem? (i := 43) rfl)))) (mvT hZ (hw _ (List.mem_of_getElem? (i := 43) rfl))) (mvT hZ (hw _ (List.mem_of_getElem? (i := 42) rfl))) (by decide) (backOf (W := 0) (rm8 l Z a0 hw [] sa n f zc fm h0 n0 Z0 O0 U0 P0 hn) hZ (hw _ (List.mem_of_getElem? (i := 44) rfl)) (hw _ (List.mem_of_getElem? (i := 11) rfl)) (Nat.le_of_ble_eq_true rfl) (Nat.le_of_ble_eq_true rfl)) q2a q2c (g := (mkF m 1 #[.val (.ref sa), .val (.int (0 : Int32)), .val (.int (Int32.ofNat k)), .unset, .unset] [(.ref sa)])) rfl (by rw [hml]; rfl) (Steps.refl _) (argsL := []) (rest := []) (lenOf pd_14 rfl) rfl (by show 2 * 0 + _ ≤ _; exact Nat.le_of_eq rfl) (hb hby d15_1) (fun _ _ => ⟨rfl, e0, (by decide : 0 + 0 ≤ _), (by decide : 0 + 0 ≤ _)⟩)
    dsimp only [Pt.U, Pt.locs, Pt.cells, Pt.slots] at X2 l2 y2 z2 st2 hQ2
    subst l2 y2 z2
    obtain ⟨rfl, Nq2, hh2⟩ := hQ2
    have O0_2 : Old Z n0 T2.heap := by rw [hh2]; exact O0
    have E_s_2 : Exa Z T2.heap sa "java/lang/String" := by rw [hh2]; exact E_s
    have Fv_2 : Fld Z T2.heap sa "java/lang/String" "value" "[B" (.ref tb) := by rw [hh2]; exact Fv
    have Fc_2 : Fld Z T2.heap sa "java/lang/String" "coder" "B" (.int (0 : Int32)) := by rw [hh2]; exact Fc
    have P0_2 : own_STR Z T2.heap sa f n := by rw [hh2]; exact P0
    have Va_2 : Arv Z T2.heap tb kb .byte (Int32.ofNat n) (own_tab (own_l1 f) (n)) (.int (0 : Int32)) := by rw [hh2]; exact Va
    have Z2 : n0 ≤ T2.heap.size := by rw [hh2]; exact Z0
    have Kp2 : Keep h0 T2.heap [] := by rw [hh2]; exact Kp0
    have N2 := Fr.app N0 Nq2
    have pre3 := fun τ (κ : Steps p.tables e below (T2.setTop (mkF m 4 #[.val (.ref sa), .val (.int (0 : Int32)), .val (.int (Int32.ofNat k)), .unset, .unset] [(.int (Int32.ofNat n))])) τ) => pre1 τ (st2.trans κ)
    have pre4 := fun τ (κ : Steps p.tables e below (T2.setTop (mkF m 8 #[.val (.ref sa), .val (.int (0 : Int32)), .val (.int (Int32.ofNat k)), .val (.int (Int32.ofNat n)), .unset] [(.int (Int32.ofNat n)), (.int (Int32.ofNat k)), (.int (0 : Int32))])) τ) => pre3 τ (by
      refine XS.istoreN X2.here hx rfl (hb hby d15_4) rfl (l' := #[.val (.ref sa), .val (.int (0 : Int32)), .val (.int (Int32.ofNat k)), .val (.int (Int32.ofNat n)), .unset]) rfl ?_
      show Steps p.tables e below (T2.setTop (mkF m 5 #[.val (.ref sa), .val (.int (0 : Int32)), .val (.int (Int32.ofNat k)), .val (.int (Int32.ofNat n)), .unset] [])) _
      refine XS.iloadN X2.here hx rfl (hb hby d15_5) rfl ?_
      refine XS.iloadN X2.here hx rfl (hb hby d15_6) rfl ?_
      refine XS.iloadN X2.here hx rfl (hb hby d15_7) rfl ?_
      show Steps p.tables e below (T2.setTop (mkF m 8 #[.val (.ref sa), .val (.int (0 : Int32)), .val (.int (Int32.ofNat k)), .val (.int (Int32.ofNat n)), .unset] [(.int (Int32.ofNat n)), (.int (Int32.ofNat k)), (.int (0 : Int32))])) _
      exact κ)
    obtain ⟨_, _, ⟨T5, L5, k5, n5⟩, -, X5, ⟨Lc5, hQ5, l5, y5, z5⟩, st5⟩ := Jvm.LawKit.callS X2 hx (y := (⟨"java/lang/String", "checkBoundsBeginEnd", "(III)V"⟩ : MethodName)) hown (mvT hZ (hw _ (List.mem_of_getElem? (i := 77) rfl))) (mvT hZ (hw _ (List.mem_of_getElem? (i := 78) rfl))) (mvT hZ (hw _ (List.mem_of_getElem? (i := 11) rfl))) (mvT hZ (hw _ (List.mem_of_getElem? (i := 79) rfl))) (by decide) (backOf (W := 0) (rm16 l Z a0 hw [] k n zc fm T2.heap n0 Z2 O0_2 U0 hk hn) hZ (hw _ (List.mem_of_getElem? (i := 79) rfl)) (hw _ (List.mem_of_getElem? (i := 11) rfl)) (Nat.le_of_ble_eq_true rfl) (Nat.le_of_ble_eq_true rfl)) (g := (mkF m 8 #[.val (.ref sa), .val (.int (0 : Int32)), .val (.int (Int32.ofNat k)), .val (.int (Int32.ofNat n)), .unset] [(.int (Int32.ofNat n)), (.int (Int32.ofNat k)), (.int (0 : Int32))])) rfl (by rw [hml]; rfl) (argsL := [(.int (0 : Int32)), (.int (Int32.ofNat k)), (.int (Int32.ofNat n))]) (rest := []) (lenOf pd_23 rfl) rfl (by show 2 * 0 + _ ≤ _; exact Nat.le_of_eq rfl) (hb hby d15_8) (fun _ _ => ⟨rfl, rfl, (by decide : 0 + 0 ≤ _), (by decide : 0 + 0 ≤ _)⟩)
    dsimp only [Pt.U, Pt.locs, Pt.cells, Pt.slots] at X5 l5 y5 z5 st5 hQ5
    subst l5 y5 z5
    obtain ⟨rfl, Nq5, hh5⟩ := hQ5
    have O0_5 : Old Z n0 T5.heap := by rw [hh5]; exact O0_2
    have E_s_5 : Exa Z T5.heap sa "java/lang/String" := by rw [hh5]; exact E_s_2
    have Fv_5 : Fld Z T5.heap sa "java/lang/String" "value" "[B" (.ref tb) := by rw [hh5]; exact Fv_2
    have Fc_5 : Fld Z T5.heap sa "java/lang/String" "coder" "B" (.int (0 : Int32)) := by rw [hh5]; exact Fc_2
    have P0_5 : own_STR Z T5.heap sa f n := by rw [hh5]; exact P0_2
    have Va_5 : Arv Z T5.heap tb kb .byte (Int32.ofNat n) (own_tab (own_l1 f) (n)) (.int (0 : Int32)) := by rw [hh5]; exact Va_2
    have Z5 : n0 ≤ T5.heap.size := by rw [hh5]; exact Z2
    have Kp5 : Keep h0 T5.heap [] := by rw [hh5]; exact Kp2
    have N5 := Fr.app N2 Nq5
    have pre6 := fun τ (κ : Steps p.tables e below (T5.setTop (mkF m 11 #[.val (.ref sa), .val (.int (0 : Int32)), .val (.int (Int32.ofNat k)), .val (.int (Int32.ofNat n)), .unset] [])) τ) => pre4 τ (st5 _ κ)
    have pre7 := fun τ (κ : Steps p.tables e below (T5.setTop (mkF m 17 #[.val (.ref sa), .val (.int (0 : Int32)), .val (.int (Int32.ofNat k)), .val (.int (Int32.ofNat n)), .unset] [(.int (Int32.ofNat n)), (.int (Int32.ofNat k))])) τ) => pre6 τ (by
      refine XS.iloadN X5.here hx rfl (hb hby d15_11) rfl ?_
      refine XS.ifNo X5.here hx rfl (hb hby d15_12) rfl ((if0 _ _).trans (teq rfl).2) ?_
      show Steps p.tables e below (T5.setTop (mkF m 15 #[.val (.ref sa), .val (.int (0 : Int32)), .val (.int (Int32.ofNat k)), .val (.int (Int32.ofNat n)), .unset] [])) _
      refine XS.iloadN X5.here hx rfl (hb hby d15_15) rfl ?_
      refine XS.iloadN X5.here hx rfl (hb hby d15_16) rfl ?_
      show Steps p.tables e below (T5.setTop (mkF m 17 #[.val (.ref sa), .val (.int (0 : Int32)), .val (.int (Int32.ofNat k)), .val (.int (Int32.ofNat n)), .unset] [(.int (Int32.ofNat n)), (.int (Int32.ofNat k))])) _
      exact κ)
    by_cases q1 : (Int32.ofNat k) = (Int32.ofNat n)
    · have hkn : k = n := (own_injN (by omega) (by omega)).mp q1
      have pre8 := fun τ (κ : Steps p.tables e below (T5.setTop (mkF m 21 #[.val (.ref sa), .val (.int (0 : Int32)), .val (.int (Int32.ofNat k)), .val (.int (Int32.ofNat n)), .unset] [(.ref sa)])) τ) => pre7 τ (by
        refine XS.icmpNo X5.here hx rfl (hb hby d15_17) rfl (teq q1).2 ?_
        show Steps p.tables e below (T5.setTop (mkF m 20 #[.val (.ref sa), .val (.int (0 : Int32)), .val (.int (Int32.ofNat k)), .val (.int (Int32.ofNat n)), .unset] [])) _
        refine XS.aloadN X5.here hx rfl (hb hby d15_20) rfl rfl ?_
        show Steps p.tables e below (T5.setTop (mkF m 21 #[.val (.ref sa), .val (.int (0 : Int32)), .val (.int (Int32.ofNat k)), .val (.int (Int32.ofNat n)), .unset] [(.ref sa)])) _
        exact κ)
      obtain ⟨fs, hr, hrun, hended, hEnd⟩ := Stand.leaveW (s := s) (vm₁ := s.vm) X5 hS0 (Nat.zero_le _) (v := some (.ref sa)) (fun h => by rw [Bd.returns] at h; cases h)
      refine ⟨_, _, pre8 _ ?_, hrun, hended, _, _, rfl, ?_, ?_, ⟨hEnd.1, hEnd.2.1, hEnd.2.2.1, hEnd.2.2.2.mono (by decide) (by decide)⟩⟩
      · jvm_step X5.here [X5.here.top, hx, (hb hby d15_21), X5.method', Bd.returns, Value.isRef, FieldType.isReference]
        first | (intro acts; rw [hr _ acts rfl rfl rfl]) | rw [hr _ _ rfl rfl rfl]
        exact Steps.refl _
      · show Q15 Z sa n k f zc fm h0 n0 _ T5.heap _
        exact ⟨sa, rfl, N5, Kp5, (by rw [hkn]; exact P0_5)⟩
      · show CHr Z consts_1 s.vm s.heap T5.vm T5.heap
        rw [hh]
        exact ((CHr.keep Kp5 sf0 hC0).trans (CHv.at (s := s) (vm0 := s.vm) X5 hZ hEL (CHv.keep Kp5 sf0 hC0)))
    · have hkn : k < n := by have : k ≠ n := fun q => q1 (by rw [q]); omega
      have pre9 := fun τ (κ : Steps p.tables e below (T5.setTop (mkF m 25 #[.val (.ref sa), .val (.int (0 : Int32)), .val (.int (Int32.ofNat k)), .val (.int (Int32.ofNat n)), .unset] [(.int ((Int32.ofNat k) - (0 : Int32)))])) τ) => pre7 τ (by
        refine XS.icmpYes X5.here hx rfl (pc0 := 17) (pc' := 22) rfl (hb hby d15_17) rfl (feq q1).2 (by decide) (by decide) ?_
        show Steps p.tables e below (T5.setTop (mkF m 22 #[.val (.ref sa), .val (.int (0 : Int32)), .val (.int (Int32.ofNat k)), .val (.int (Int32.ofNat n)), .unset] [])) _
        refine XS.iloadN X5.here hx rfl (hb hby d15_22) rfl ?_
        refine XS.iloadN X5.here hx rfl (hb hby d15_23) rfl ?_
        refine XS.isub X5.here hx rfl (hb hby d15_24) rfl ?_
        show Steps p.tables e below (T5.setTop (mkF m 25 #[.val (.ref sa), .val (.int (0 : Int32)), .val (.int (Int32.ofNat k)), .val (.int (Int32.ofNat n)), .unset] [(.int ((Int32.ofNat k) - (0 : Int32)))])) _
        exact κ)
      rw [show ((Int32.ofNat k) - (0 : Int32)) = (Int32.ofNat k) from (Int32.sub_zero _)] at pre9
      have pre10 := fun τ (κ : Steps p.tables e below (T5.setTop (mkF m 28 #[.val (.ref sa), .val (.int (0 : Int32)), .val (.int (Int32.ofNat k)), .val (.int (Int32.ofNat n)), .val (.int (Int32.ofNat k))] [(.ref sa)])) τ) => pre9 τ (by
        refine XS.istore X5.here hx rfl (hb hby d15_25) rfl (l' := #[.val (.ref sa), .val (.int (0 : Int32)), .val (.int (Int32.ofNat k)), .val (.int (Int32.ofNat n)), .val (.int (Int32.ofNat k))]) rfl ?_
        show Steps p.tables e below (T5.setTop (mkF m 27 #[.val (.ref sa), .val (.int (0 : Int32)), .val (.int (Int32.ofNat k)), .val (.int (Int32.ofNat n)), .val (.int (Int32.ofNat k))] [])) _
        refine XS.aloadN X5.here hx rfl (hb hby d15_27) rfl rfl ?_
        show Steps p.tables e below (T5.setTop (mkF m 28 #[.val (.ref sa), .val (.int (0 : Int32)), .val (.int (Int32.ofNat k)), .val (.int (Int32.ofNat n)), .val (.int (Int32.ofNat k))] [(.ref sa)])) _
        exact κ)
      obtain ⟨cq11, kq11, q11a, q11b, q11c⟩ := isOf hZ rfl E_s_5
      obtain ⟨_, _, ⟨T11, L11, k11, n11⟩, -, X11, ⟨Lc11, hQ11, l11, y11, z11⟩, st11⟩ := X5.virtualBack hx (y := (⟨"java/lang/String", "isLatin1", "()Z"⟩ : MethodName)) (z := (⟨"java/lang/String", "isLatin1", "()Z"⟩ : MethodName)) hown (mvT hZ (hw _ (List.mem_of_getElem? (i := 56) rfl))) (mvT hZ (hw _ (List.mem_of_getElem? (i := 57) rfl))) (notFace_of_selects (args := #[]) (mvT hZ (hw _ (List.mem_of_getElem? (i := 59) rfl)))) (mvT hZ (hw _ (List.mem_of_getElem? (i := 59) rfl))) (mvT hZ (hw _ (List.mem_of_getElem? (i := 58) rfl))) (by decide) (backOf (W := 0) (rm11 l Z a0 hw [] sa (0 : Int32) zc fm T5.heap n0 Z5 O0_5 U0 Fc_5) hZ (hw _ (List.mem_of_getElem? (i := 60) rfl)) (hw _ (List.mem_of_getElem? (i := 11) rfl)) (Nat.le_of_ble_eq_true rfl) (Nat.le_of_ble_eq_true rfl)) q11a q11c (g := (mkF m 28 #[.val (.ref sa), .val (.int (0 : Int32)), .val (.int (Int32.ofNat k)), .val (.int (Int32.ofNat n)), .val (.int (Int32.ofNat k))] [(.ref sa)])) rfl (by rw [hml]; rfl) (Steps.refl _) (argsL := []) (rest := []) (lenOf pd_12 rfl) rfl (by show 2 * 0 + _ ≤ _; exact Nat.le_of_eq rfl) (hb hby d15_28) (fun _ _ => ⟨rfl, rfl, (by decide : 0 + 0 ≤ _), (by decide : 0 + 0 ≤ _)⟩)
      dsimp only [Pt.U, Pt.locs, Pt.cells, Pt.slots] at X11 l11 y11 z11 st11 hQ11
      subst l11 y11 z11
      obtain ⟨rfl, Nq11, hh11⟩ := hQ11
      have O0_11 : Old Z n0 T11.heap := by rw [hh11]; exact O0_5
      have E_s_11 : Exa Z T11.heap sa "java/lang/String" := by rw [hh11]; exact E_s_5
      have Fv_11 : Fld Z T11.heap sa "java/lang/String" "value" "[B" (.ref tb) := by rw [hh11]; exact Fv_5
      have Fc_11 : Fld Z T11.heap sa "java/lang/String" "coder" "B" (.int (0 : Int32)) := by rw [hh11]; exact Fc_5
      have P0_11 : own_STR Z T11.heap sa f n := by rw [hh11]; exact P0_5
      have Va_11 : Arv Z T11.heap tb kb .byte (Int32.ofNat n) (own_tab (own_l1 f) (n)) (.int (0 : Int32)) := by rw [hh11]; exact Va_5
      have Z11 : n0 ≤ T11.heap.size := by rw [hh11]; exact Z5
      have Kp11 : Keep h0 T11.heap [] := by rw [hh11]; exact Kp5
      have N11 := Fr.app N5 Nq11
      have pre12 := fun τ (κ : Steps p.tables e below (T11.setTop (mkF m 31 #[.val (.ref sa), .val (.int (0 : Int32)), .val (.int (Int32.ofNat k)), .val (.int (Int32.ofNat n)), .val (.int (Int32.ofNat k))] [(.int (if (0 : Int32) = 0 then 1 else 0))])) τ) => pre10 τ (st11.trans κ)
      have pre13 := fun τ (κ : Steps p.tables e below (T11.setTop (mkF m 35 #[.val (.ref sa), .val (.int (0 : Int32)), .val (.int (Int32.ofNat k)), .val (.int (Int32.ofNat n)), .val (.int (Int32.ofNat k))] [(.ref sa)])) τ) => pre12 τ (by
        refine XS.ifNo X11.here hx rfl (hb hby d15_31) rfl ((if0 _ _).trans (feq (by decide)).1) ?_
        show Steps p.tables e below (T11.setTop (mkF m 34 #[.val (.ref sa), .val (.int (0 : Int32)), .val (.int (Int32.ofNat k)), .val (.int (Int32.ofNat n)), .val (.int (Int32.ofNat k))] [])) _
        refine XS.aloadN X11.here hx rfl (hb hby d15_34) rfl rfl ?_
        show Steps p.tables e below (T11.setTop (mkF m 35 #[.val (.ref sa), .val (.int (0 : Int32)), .val (.int (Int32.ofNat k)), .val (.int (Int32.ofNat n)), .val (.int (Int32.ofNat k))] [(.ref sa)])) _
        exact κ)
      obtain ⟨T14, X14, e14, st14⟩ := getF X11 hx hZ hown (host := "") (Or.inl (hw _ (List.mem_of_getElem? (i := 29) rfl))) Via.refl rfl Fv_11 (g := (mkF m 35 #[.val (.ref sa), .val (.int (0 : Int32)), .val (.int (Int32.ofNat k)), .val (.int (Int32.ofNat n)), .val (.int (Int32.ofNat k))] [(.ref sa)])) rfl rfl (hb hby d15_35)
      have pre15 := fun τ (κ : Steps p.tables e below (T14.setTop (mkF m 38 #[.val (.ref sa), .val (.int (0 : Int32)), .val (.int (Int32.ofNat k)), .val (.int (Int32.ofNat n)), .val (.int (Int32.ofNat k))] [(.ref tb)])) τ) => pre13 τ (st14 _ κ)
      have pre16 := fun τ (κ : Steps p.tables e below (T14.setTop (mkF m 41 #[.val (.ref sa), .val (.int (0 : Int32)), .val (.int (Int32.ofNat k)), .val (.int (Int32.ofNat n)), .val (.int (Int32.ofNat k))] [(.int (Int32.ofNat k)), (.int (0 : Int32)), (.ref tb)])) τ) => pre15 τ (by
        refine XS.iloadN X14.here hx rfl (hb hby d15_38) rfl ?_
        refine XS.iload X14.here hx rfl (hb hby d15_39) rfl ?_
        show Steps p.tables e below (T14.setTop (mkF m 41 #[.val (.ref sa), .val (.int (0 : Int32)), .val (.int (Int32.ofNat k)), .val (.int (Int32.ofNat n)), .val (.int (Int32.ofNat k))] [(.int (Int32.ofNat k)), (.int (0 : Int32)), (.ref tb)])) _
        exact κ)
      obtain ⟨_, _, ⟨T17, L17, k17, n17⟩, -, X17, hS17, gr17, ⟨Lc17, hQ17, l17, y17, z17, C17⟩, st17⟩ := callSS X14 hx (y := (⟨"java/lang/StringLatin1", "newString", "([BII)Ljava/lang/String;"⟩ : MethodName)) hown (mvT hZ (hw _ (List.mem_of_getElem? (i := 104) rfl))) (mvT hZ (hw _ (List.mem_of_getElem? (i := 105) rfl))) (mvT hZ (hw _ (List.mem_of_getElem? (i := 63) rfl))) (mvT hZ (hw _ (List.mem_of_getElem? (i := 106) rfl))) (by decide) (backOfSH (s := s) (vm0 := s.vm) (W := 0) (rm23 l Z a0 hw [] tb n k kb f T11.heap n0 Z11 Va_11 h2 hn hkn) hZ (hw _ (List.mem_of_getElem? (i := 106) rfl)) (hw _ (List.mem_of_getElem? (i := 63) rfl)) (Nat.le_of_ble_eq_true rfl) (Nat.le_of_ble_eq_true rfl) hEL (CHv.keep Kp11 sf0 hC0)) (g := (mkF m 41 #[.val (.ref sa), .val (.int (0 : Int32)), .val (.int (Int32.ofNat k)), .val (.int (Int32.ofNat n)), .val (.int (Int32.ofNat k))] [(.int (Int32.ofNat k)), (.int (0 : Int32)), (.ref tb)])) rfl (by rw [hml]; rfl) (argsL := [(.ref tb), (.int (0 : Int32)), (.int (Int32.ofNat k))]) (rest := []) (lenOf pd_24 rfl) rfl (by show 2 * 0 + _ ≤ _; exact Nat.le_of_eq rfl) (hb hby d15_41) (fun _ _ => ⟨rfl, e14, (by decide : 0 + 2 ≤ _), (by decide : 0 + 36 ≤ _)⟩)
      dsimp only [Pt.U, Pt.locs, Pt.cells, Pt.slots] at X17 l17 y17 z17 st17 hQ17 hS17 gr17 C17
      subst l17 y17 z17
      obtain ⟨X17, hSr17, hZ, hown⟩ := rebS (s := s) (vm0 := s.vm) hS0 (Nat.zero_le _) X17 hS17 gr17 hZ hown
      have hks := Nat.le_refl T17.heap.size
      obtain ⟨sx17, hsx17⟩ : ∃ z, z = s.setVm T17.vm := ⟨_, rfl⟩
      rw [← hsx17] at X17 hZ hown
      obtain ⟨so, rfl, Nq17, K17, P17⟩ := hQ17
      have O0_17 : Old Z n0 T17.heap := O0_11.keep K17 all0
      have E_s_17 : Exa Z T17.heap sa "java/lang/String" := E_s_11.keep K17
      have Fv_17 : Fld Z T17.heap sa "java/lang/String" "value" "[B" (.ref tb) := Fv_11.keep K17 nin0
      have Fc_17 : Fld Z T17.heap sa "java/lang/String" "coder" "B" (.int (0 : Int32)) := Fc_11.keep K17 nin0
      have P0_17 : own_STR Z T17.heap sa f n := P0_11.keep K17
      have Va_17 : Arv Z T17.heap tb kb .byte (Int32.ofNat n) (own_tab (own_l1 f) (n)) (.int (0 : Int32)) := Va_11.keep K17 nin0
      have Z17 : n0 ≤ T17.heap.size := Nat.le_trans Z11 K17.1
      have Kp17 : Keep h0 T17.heap [] := Kp11.trans K17 all0
      have N17 := Fr.app N11 Nq17
      have pre18 := fun τ (κ : Steps p.tables e below (T17.setTop (mkF m 44 #[.val (.ref sa), .val (.int (0 : Int32)), .val (.int (Int32.ofNat k)), .val (.int (Int32.ofNat n)), .val (.int (Int32.ofNat k))] [(.ref so)])) τ) => pre16 τ (st17.trans κ)
      have pre19 := fun τ (κ : Steps p.tables e below (T17.setTop (mkF m 57 #[.val (.ref sa), .val (.int (0 : Int32)), .val (.int (Int32.ofNat k)), .val (.int (Int32.ofNat n)), .val (.int (Int32.ofNat k))] [(.ref so)])) τ) => pre18 τ (by
        refine XS.goto X17.here hx rfl (pc0 := 44) (pc' := 57) rfl (hb hby d15_44) (by decide) (by decide) ?_
        show Steps p.tables e below (T17.setTop (mkF m 57 #[.val (.ref sa), .val (.int (0 : Int32)), .val (.int (Int32.ofNat k)), .val (.int (Int32.ofNat n)), .val (.int (Int32.ofNat k))] [(.ref so)])) _
        exact κ)
      rw [hsx17] at X17 hZ hown
      obtain ⟨fs, hr, hrun, hended, hEnd⟩ := Stand.leaveW (s := s) (vm₁ := T17.vm) X17 hSr17 hks (v := some (.ref so)) (fun h => by rw [Bd.returns] at h; cases h)
      refine ⟨_, _, pre19 _ ?_, hrun, hended, _, _, rfl, ?_, ?_, ⟨hEnd.1, hEnd.2.1, hEnd.2.2.1, hEnd.2.2.2.mono (by decide) (by decide)⟩⟩
      · jvm_step X17.here [X17.here.top, hx, (hb hby d15_57), X17.method', Bd.returns, Value.isRef, FieldType.isReference]
        first | (intro acts; rw [hr _ acts rfl rfl rfl]) | rw [hr _ _ rfl rfl rfl]
        exact Steps.refl _
      · show Q15 Z sa n k f zc fm h0 n0 _ T17.heap _
        exact ⟨so, rfl, N17, Kp17, P17⟩
      · show CHr Z consts_1 s.vm s.heap T17.vm T17.heap
        rw [hh]
        exact ((CHr.keep Kp11 sf0 hC0).trans C17)
  · have pre20 := fun τ (κ : Steps p.tables e below (s₁.setTop (mkF m 1 #[.val (.ref sa), .val (.int (0 : Int32)), .val (.int (Int32.ofNat k)), .unset, .unset] [(.ref sa)])) τ) => pre0 τ (by
      refine XS.aloadN X0.here hx rfl (hb hby d15_0) rfl rfl ?_
      show Steps p.tables e below (s₁.setTop (mkF m 1 #[.val (.ref sa), .val (.int (0 : Int32)), .val (.int (Int32.ofNat k)), .unset, .unset] [(.ref sa)])) _
      exact κ)
    obtain ⟨cq21, kq21, q21a, q21b, q21c⟩ := isOf hZ e0 E_s
    obtain ⟨_, _, ⟨T21, L21, k21, n21⟩, -, X21, ⟨Lc21, hQ21, l21, y21, z21⟩, st21⟩ := X0.virtualBack hx (y := (⟨"java/lang/String", "length", "()I"⟩ : MethodName)) (z := (⟨"java/lang/String", "length", "()I"⟩ : MethodName)) hown (mvT hZ (hw _ (List.mem_of_getElem? (i := 40) rfl))) (mvT hZ (hw _ (List.mem_of_getElem? (i := 41) rfl))) (notFace_of_selects (args := #[]) (mvT hZ (hw _ (List.mem_of_getElem? (i := 43) rfl)))) (mvT hZ (hw _ (List.mem_of_getElem? (i := 43) rfl))) (mvT hZ (hw _ (List.mem_of_getElem? (i := 42) rfl))) (by decide) (backOf (W := 0) (rm8 l Z a0 hw [] sa n f zc fm h0 n0 Z0 O0 U0 P0 hn) hZ (hw _ (List.mem_of_getElem? (i := 44) rfl)) (hw _ (List.mem_of_getElem? (i := 11) rfl)) (Nat.le_of_ble_eq_true rfl) (Nat.le_of_ble_eq_true rfl)) q21a q21c (g := (mkF m 1 #[.val (.ref sa), .val (.int (0 : Int32)), .val (.int (Int32.ofNat k)), .unset, .unset] [(.ref sa)])) rfl (by rw [hml]; rfl) (Steps.refl _) (argsL := []) (rest := []) (lenOf pd_14 rfl) rfl (by show 2 * 0 + _ ≤ _; exact Nat.le_of_eq rfl) (hb hby d15_1) (fun _ _ => ⟨rfl, e0, (by decide : 0 + 0 ≤ _), (by decide : 0 + 0 ≤ _)⟩)
    dsimp only [Pt.U, Pt.locs, Pt.cells, Pt.slots] at X21 l21 y21 z21 st21 hQ21
    subst l21 y21 z21
    obtain ⟨rfl, Nq21, hh21⟩ := hQ21
    have O0_21 : Old Z n0 T21.heap := by rw [hh21]; exact O0
    have E_s_21 : Exa Z T21.heap sa "java/lang/String" := by rw [hh21]; exact E_s
    have Fv_21 : Fld Z T21.heap sa "java/lang/String" "value" "[B" (.ref tb) := by rw [hh21]; exact Fv
    have Fc_21 : Fld Z T21.heap sa "java/lang/String" "coder" "B" (.int (1 : Int32)) := by rw [hh21]; exact Fc
    have P0_21 : own_STR Z T21.heap sa f n := by rw [hh21]; exact P0
    have Va_21 : Arv Z T21.heap tb kb .byte (Int32.ofNat (2 * n)) (own_tab (own_u16 f) (2 * n)) (.int (0 : Int32)) := by rw [hh21]; exact Va
    have Z21 : n0 ≤ T21.heap.size := by rw [hh21]; exact Z0
    have Kp21 : Keep h0 T21.heap [] := by rw [hh21]; exact Kp0
    have N21 := Fr.app N0 Nq21
    have pre22 := fun τ (κ : Steps p.tables e below (T21.setTop (mkF m 4 #[.val (.ref sa), .val (.int (0 : Int32)), .val (.int (Int32.ofNat k)), .unset, .unset] [(.int (Int32.ofNat n))])) τ) => pre20 τ (st21.trans κ)
    have pre23 := fun τ (κ : Steps p.tables e below (T21.setTop (mkF m 8 #[.val (.ref sa), .val (.int (0 : Int32)), .val (.int (Int32.ofNat k)), .val (.int (Int32.ofNat n)), .unset] [(.int (Int32.ofNat n)), (.int (Int32.ofNat k)), (.int (0 : Int32))])) τ) => pre22 τ (by
      refine XS.istoreN X21.here hx rfl (hb hby d15_4) rfl (l' := #[.val (.ref sa), .val (.int (0 : Int32)), .val (.int (Int32.ofNat k)), .val (.int (Int32.ofNat n)), .unset]) rfl ?_
      show Steps p.tables e below (T21.setTop (mkF m 5 #[.val (.ref sa), .val (.int (0 : Int32)), .val (.int (Int32.ofNat k)), .val (.int (Int32.ofNat n)), .unset] [])) _
      refine XS.iloadN X21.here hx rfl (hb hby d15_5) rfl ?_
      refine XS.iloadN X21.here hx rfl (hb hby d15_6) rfl ?_
      refine XS.iloadN X21.here hx rfl (hb hby d15_7) rfl ?_
      show Steps p.tables e below (T21.setTop (mkF m 8 #[.val (.ref sa), .val (.int (0 : Int32)), .val (.int (Int32.ofNat k)), .val (.int (Int32.ofNat n)), .unset] [(.int (Int32.ofNat n)), (.int (Int32.ofNat k)), (.int (0 : Int32))])) _
      exact κ)
    obtain ⟨_, _, ⟨T24, L24, k24, n24⟩, -, X24, ⟨Lc24, hQ24, l24, y24, z24⟩, st24⟩ := Jvm.LawKit.callS X21 hx (y := (⟨"java/lang/String", "checkBoundsBeginEnd", "(III)V"⟩ : MethodName)) hown (mvT hZ (hw _ (List.mem_of_getElem? (i := 77) rfl))) (mvT hZ (hw _ (List.mem_of_getElem? (i := 78) rfl))) (mvT hZ (hw _ (List.mem_of_getElem? (i := 11) rfl))) (mvT hZ (hw _ (List.mem_of_getElem? (i := 79) rfl))) (by decide) (backOf (W := 0) (rm16 l Z a0 hw [] k n zc fm T21.heap n0 Z21 O0_21 U0 hk hn) hZ (hw _ (List.mem_of_getElem? (i := 79) rfl)) (hw _ (List.mem_of_getElem? (i := 11) rfl)) (Nat.le_of_ble_eq_true rfl) (Nat.le_of_ble_eq_true rfl)) (g := (mkF m 8 #[.val (.ref sa), .val (.int (0 : Int32)), .val (.int (Int32.ofNat k)), .val (.int (Int32.ofNat n)), .unset] [(.int (Int32.ofNat n)), (.int (Int32.ofNat k)), (.int (0 : Int32))])) rfl (by rw [hml]; rfl) (argsL := [(.int (0 : Int32)), (.int (Int32.ofNat k)), (.int (Int32.ofNat n))]) (rest := []) (lenOf pd_23 rfl) rfl (by show 2 * 0 + _ ≤ _; exact Nat.le_of_eq rfl) (hb hby d15_8) (fun _ _ => ⟨rfl, rfl, (by decide : 0 + 0 ≤ _), (by decide : 0 + 0 ≤ _)⟩)
    dsimp only [Pt.U, Pt.locs, Pt.cells, Pt.slots] at X24 l24 y24 z24 st24 hQ24
    subst l24 y24 z24
    obtain ⟨rfl, Nq24, hh24⟩ := hQ24
    have O0_24 : Old Z n0 T24.heap := by rw [hh24]; exact O0_21
    have E_s_24 : Exa Z T24.heap sa "java/lang/String" := by rw [hh24]; exact E_s_21
    have Fv_24 : Fld Z T24.heap sa "java/lang/String" "value" "[B" (.ref tb) := by rw [hh24]; exact Fv_21
    have Fc_24 : Fld Z T24.heap sa "java/lang/String" "coder" "B" (.int (1 : Int32)) := by rw [hh24]; exact Fc_21
    have P0_24 : own_STR Z T24.heap sa f n := by rw [hh24]; exact P0_21
    have Va_24 : Arv Z T24.heap tb kb .byte (Int32.ofNat (2 * n)) (own_tab (own_u16 f) (2 * n)) (.int (0 : Int32)) := by rw [hh24]; exact Va_21
    have Z24 : n0 ≤ T24.heap.size := by rw [hh24]; exact Z21
    have Kp24 : Keep h0 T24.heap [] := by rw [hh24]; exact Kp21
    have N24 := Fr.app N21 Nq24
    have pre25 := fun τ (κ : Steps p.tables e below (T24.setTop (mkF m 11 #[.val (.ref sa), .val (.int (0 : Int32)), .val (.int (Int32.ofNat k)), .val (.int (Int32.ofNat n)), .unset] [])) τ) => pre23 τ (st24 _ κ)
    have pre26 := fun τ (κ : Steps p.tables e below (T24.setTop (mkF m 17 #[.val (.ref sa), .val (.int (0 : Int32)), .val (.int (Int32.ofNat k)), .val (.int (Int32.ofNat n)), .unset] [(.int (Int32.ofNat n)), (.int (Int32.ofNat k))])) τ) => pre25 τ (by
      refine XS.iloadN X24.here hx rfl (hb hby d15_11) rfl ?_
      refine XS.ifNo X24.here hx rfl (hb hby d15_12) rfl ((if0 _ _).trans (teq rfl).2) ?_
      show Steps p.tables e below (T24.setTop (mkF m 15 #[.val (.ref sa), .val (.int (0 : Int32)), .val (.int (Int32.ofNat k)), .val (.int (Int32.ofNat n)), .unset] [])) _
      refine XS.iloadN X24.here hx rfl (hb hby d15_15) rfl ?_
      refine XS.iloadN X24.here hx rfl (hb hby d15_16) rfl ?_
      show Steps p.tables e below (T24.setTop (mkF m 17 #[.val (.ref sa), .val (.int (0 : Int32)), .val (.int (Int32.ofNat k)), .val (.int (Int32.ofNat n)), .unset] [(.int (Int32.ofNat n)), (.int (Int32.ofNat k))])) _
      exact κ)
    by_cases q1 : (Int32.ofNat k) = (Int32.ofNat n)
    · have hkn : k = n := (own_injN (by omega) (by omega)).mp q1
      have pre27 := fun τ (κ : Steps p.tables e below (T24.setTop (mkF m 21 #[.val (.ref sa), .val (.int (0 : Int32)), .val (.int (Int32.ofNat k)), .val (.int (Int32.ofNat n)), .unset] [(.ref sa)])) τ) => pre26 τ (by
        refine XS.icmpNo X24.here hx rfl (hb hby d15_17) rfl (teq q1).2 ?_
        show Steps p.tables e below (T24.setTop (mkF m 20 #[.val (.ref sa), .val (.int (0 : Int32)), .val (.int (Int32.ofNat k)), .val (.int (Int32.ofNat n)), .unset] [])) _
        refine XS.aloadN X24.here hx rfl (hb hby d15_20) rfl rfl ?_
        show Steps p.tables e below (T24.setTop (mkF m 21 #[.val (.ref sa), .val (.int (0 : Int32)), .val (.int (Int32.ofNat k)), .val (.int (Int32.ofNat n)), .unset] [(.ref sa)])) _
        exact κ)
      obtain ⟨fs, hr, hrun, hended, hEnd⟩ := Stand.leaveW (s := s) (vm₁ := s.vm) X24 hS0 (Nat.zero_le _) (v := some (.ref sa)) (fun h => by rw [Bd.returns] at h; cases h)
      refine ⟨_, _, pre27 _ ?_, hrun, hended, _, _, rfl, ?_, ?_, ⟨hEnd.1, hEnd.2.1, hEnd.2.2.1, hEnd.2.2.2.mono (by decide) (by decide)⟩⟩
      · jvm_step X24.here [X24.here.top, hx, (hb hby d15_21), X24.method', Bd.returns, Value.isRef, FieldType.isReference]
        first | (intro acts; rw [hr _ acts rfl rfl rfl]) | rw [hr _ _ rfl rfl rfl]
        exact Steps.refl _
      · show Q15 Z sa n k f zc fm h0 n0 _ T24.heap _
        exact ⟨sa, rfl, N24, Kp24, (by rw [hkn]; exact P0_24)⟩
      · show CHr Z consts_1 s.vm s.heap T24.vm T24.heap
        rw [hh]
        exact ((CHr.keep Kp24 sf0 hC0).trans (CHv.at (s := s) (vm0 := s.vm) X24 hZ hEL (CHv.keep Kp24 sf0 hC0)))
    · have hkn : k < n := by have : k ≠ n := fun q => q1 (by rw [q]); omega
      have pre28 := fun τ (κ : Steps p.tables e below (T24.setTop (mkF m 25 #[.val (.ref sa), .val (.int (0 : Int32)), .val (.int (Int32.ofNat k)), .val (.int (Int32.ofNat n)), .unset] [(.int ((Int32.ofNat k) - (0 : Int32)))])) τ) => pre26 τ (by
        refine XS.icmpYes X24.here hx rfl (pc0 := 17) (pc' := 22) rfl (hb hby d15_17) rfl (feq q1).2 (by decide) (by decide) ?_
        show Steps p.tables e below (T24.setTop (mkF m 22 #[.val (.ref sa), .val (.int (0 : Int32)), .val (.int (Int32.ofNat k)), .val (.int (Int32.ofNat n)), .unset] [])) _
        refine XS.iloadN X24.here hx rfl (hb hby d15_22) rfl ?_
        refine XS.iloadN X24.here hx rfl (hb hby d15_23) rfl ?_
        refine XS.isub X24.here hx rfl (hb hby d15_24) rfl ?_
        show Steps p.tables e below (T24.setTop (mkF m 25 #[.val (.ref sa), .val (.int (0 : Int32)), .val (.int (Int32.ofNat k)), .val (.int (Int32.ofNat n)), .unset] [(.int ((Int32.ofNat k) - (0 : Int32)))])) _
        exact κ)
      rw [show ((Int32.ofNat k) - (0 : Int32)) = (Int32.ofNat k) from (Int32.sub_zero _)] at pre28
      have pre29 := fun τ (κ : Steps p.tables e below (T24.setTop (mkF m 28 #[.val (.ref sa), .val (.int (0 : Int32)), .val (.int (Int32.ofNat k)), .val (.int (Int32.ofNat n)), .val (.int (Int32.ofNat k))] [(.ref sa)])) τ) => pre28 τ (by
        refine XS.istore X24.here hx rfl (hb hby d15_25) rfl (l' := #[.val (.ref sa), .val (.int (0 : Int32)), .val (.int (Int32.ofNat k)), .val (.int (Int32.ofNat n)), .val (.int (Int32.ofNat k))]) rfl ?_
        show Steps p.tables e below (T24.setTop (mkF m 27 #[.val (.ref sa), .val (.int (0 : Int32)), .val (.int (Int32.ofNat k)), .val (.int (Int32.ofNat n)), .val (.int (Int32.ofNat k))] [])) _
        refine XS.aloadN X24.here hx rfl (hb hby d15_27) rfl rfl ?_
        show Steps p.tables e below (T24.setTop (mkF m 28 #[.val (.ref sa), .val (.int (0 : Int32)), .val (.int (Int32.ofNat k)), .val (.int (Int32.ofNat n)), .val (.int (Int32.ofNat k))] [(.ref sa)])) _
        exact κ)
      obtain ⟨cq30, kq30, q30a, q30b, q30c⟩ := isOf hZ rfl E_s_24
      obtain ⟨_, _, ⟨T30, L30, k30, n30⟩, -, X30, ⟨Lc30, hQ30, l30, y30, z30⟩, st30⟩ := X24.virtualBack hx (y := (⟨"java/lang/String", "isLatin1", "()Z"⟩ : MethodName)) (z := (⟨"java/lang/String", "isLatin1", "()Z"⟩ : MethodName)) hown (mvT hZ (hw _ (List.mem_of_getElem? (i := 56) rfl))) (mvT hZ (hw _ (List.mem_of_getElem? (i := 57) rfl))) (notFace_of_selects (args := #[]) (mvT hZ (hw _ (List.mem_of_getElem? (i := 59) rfl)))) (mvT hZ (hw _ (List.mem_of_getElem? (i := 59) rfl))) (mvT hZ (hw _ (List.mem_of_getElem? (i := 58) rfl))) (by decide) (backOf (W := 0) (rm11 l Z a0 hw [] sa (1 : Int32) zc fm T24.heap n0 Z24 O0_24 U0 Fc_24) hZ (hw _ (List.mem_of_getElem? (i := 60) rfl)) (hw _ (List.mem_of_getElem? (i := 11) rfl)) (Nat.le_of_ble_eq_true rfl) (Nat.le_of_ble_eq_true rfl)) q30a q30c (g := (mkF m 28 #[.val (.ref sa), .val (.int (0 : Int32)), .val (.int (Int32.ofNat k)), .val (.int (Int32.ofNat n)), .val (.int (Int32.ofNat k))] [(.ref sa)])) rfl (by rw [hml]; rfl) (Steps.refl _) (argsL := []) (rest := []) (lenOf pd_12 rfl) rfl (by show 2 * 0 + _ ≤ _; exact Nat.le_of_eq rfl) (hb hby d15_28) (fun _ _ => ⟨rfl, rfl, (by decide : 0 + 0 ≤ _), (by decide : 0 + 0 ≤ _)⟩)
      dsimp only [Pt.U, Pt.locs, Pt.cells, Pt.slots] at X30 l30 y30 z30 st30 hQ30
      subst l30 y30 z30
      obtain ⟨rfl, Nq30, hh30⟩ := hQ30
      have O0_30 : Old Z n0 T30.heap := by rw [hh30]; exact O0_24
      have E_s_30 : Exa Z T30.heap sa "java/lang/String" := by rw [hh30]; exact E_s_24
      have Fv_30 : Fld Z T30.heap sa "java/lang/String" "value" "[B" (.ref tb) := by rw [hh30]; exact Fv_24
      have Fc_30 : Fld Z T30.heap sa "java/lang/String" "coder" "B" (.int (1 : Int32)) := by rw [hh30]; exact Fc_24
      have P0_30 : own_STR Z T30.heap sa f n := by rw [hh30]; exact P0_24
      have Va_30 : Arv Z T30.heap tb kb .byte (Int32.ofNat (2 * n)) (own_tab (own_u16 f) (2 * n)) (.int (0 : Int32)) := by rw [hh30]; exact Va_24
      have Z30 : n0 ≤ T30.heap.size := by rw [hh30]; exact Z24
      have Kp30 : Keep h0 T30.heap [] := by rw [hh30]; exact Kp24
      have N30 := Fr.app N24 Nq30
      have pre31 := fun τ (κ : Steps p.tables e below (T30.setTop (mkF m 31 #[.val (.ref sa), .val (.int (0 : Int32)), .val (.int (Int32.ofNat k)), .val (.int (Int32.ofNat n)), .val (.int (Int32.ofNat k))] [(.int (if (1 : Int32) = 0 then 1 else 0))])) τ) => pre29 τ (st30.trans κ)
      have pre32 := fun τ (κ : Steps p.tables e below (T30.setTop (mkF m 48 #[.val (.ref sa), .val (.int (0 : Int32)), .val (.int (Int32.ofNat k)), .val (.int (Int32.ofNat n)), .val (.int (Int32.ofNat k))] [(.ref sa)])) τ) => pre31 τ (by
        refine XS.ifYes X30.here hx rfl (pc0 := 31) (pc' := 47) rfl (hb hby d15_31) rfl ((if0 _ _).trans (teq (by decide)).1) (by decide) (by decide) ?_
        show Steps p.tables e below (T30.setTop (mkF m 47 #[.val (.ref sa), .val (.int (0 : Int32)), .val (.int (Int32.ofNat k)), .val (.int (Int32.ofNat n)), .val (.int (Int32.ofNat k))] [])) _
        refine XS.aloadN X30.here hx rfl (hb hby d15_47) rfl rfl ?_
        show Steps p.tables e below (T30.setTop (mkF m 48 #[.val (.ref sa), .val (.int (0 : Int32)), .val (.int (Int32.ofNat k)), .val (.int (Int32.ofNat n)), .val (.int (Int32.ofNat k))] [(.ref sa)])) _
        exact κ)
      obtain ⟨T33, X33, e33, st33⟩ := getF X30 hx hZ hown (host := "") (Or.inl (hw _ (List.mem_of_getElem? (i := 29) rfl))) Via.refl rfl Fv_30 (g := (mkF m 48 #[.val (.ref sa), .val (.int (0 : Int32)), .val (.int (Int32.ofNat k)), .val (.int (Int32.ofNat n)), .val (.int (Int32.ofNat k))] [(.ref sa)])) rfl rfl (hb hby d15_48)
      have pre34 := fun τ (κ : Steps p.tables e below (T33.setTop (mkF m 51 #[.val (.ref sa), .val (.int (0 : Int32)), .val (.int (Int32.ofNat k)), .val (.int (Int32.ofNat n)), .val (.int (Int32.ofNat k))] [(.ref tb)])) τ) => pre32 τ (st33 _ κ)
      have pre35 := fun τ (κ : Steps p.tables e below (T33.setTop (mkF m 54 #[.val (.ref sa), .val (.int (0 : Int32)), .val (.int (Int32.ofNat k)), .val (.int (Int32.ofNat n)), .val (.int (Int32.ofNat k))] [(.int (Int32.ofNat k)), (.int (0 : Int32)), (.ref tb)])) τ) => pre34 τ (by
        refine XS.iloadN X33.here hx rfl (hb hby d15_51) rfl ?_
        refine XS.iload X33.here hx rfl (hb hby d15_52) rfl ?_
        show Steps p.tables e below (T33.setTop (mkF m 54 #[.val (.ref sa), .val (.int (0 : Int32)), .val (.int (Int32.ofNat k)), .val (.int (Int32.ofNat n)), .val (.int (Int32.ofNat k))] [(.int (Int32.ofNat k)), (.int (0 : Int32)), (.ref tb)])) _
        exact κ)
      obtain ⟨_, _, ⟨T36, L36, k36, n36⟩, -, X36, hS36, gr36, ⟨Lc36, hQ36, l36, y36, z36, C36⟩, st36⟩ := callSS X33 hx (y := (⟨"java/lang/StringUTF16", "newString", "([BII)Ljava/lang/String;"⟩ : MethodName)) hown (mvT hZ (hw _ (List.mem_of_getElem? (i := 151) rfl))) (mvT hZ (hw _ (List.mem_of_getElem? (i := 152) rfl))) (mvT hZ (hw _ (List.mem_of_getElem? (i := 96) rfl))) (mvT hZ (hw _ (List.mem_of_getElem? (i := 153) rfl))) (by decide) (backOfSH (s := s) (vm0 := s.vm) (W := 0) (rm34 l Z a0 hw [] tb n k kb f zc fm T30.heap n0 Z30 O0_30 U0 Va_30 hn hkn hf) hZ (hw _ (List.mem_of_getElem? (i := 153) rfl)) (hw _ (List.mem_of_getElem? (i := 96) rfl)) (Nat.le_of_ble_eq_true rfl) (Nat.le_of_ble_eq_true rfl) hEL (CHv.keep Kp30 sf0 hC0)) (g := (mkF m 54 #[.val (.ref sa), .val (.int (0 : Int32)), .val (.int (Int32.ofNat k)), .val (.int (Int32.ofNat n)), .val (.int (Int32.ofNat k))] [(.int (Int32.ofNat k)), (.int (0 : Int32)), (.ref tb)])) rfl (by rw [hml]; rfl) (argsL := [(.ref tb), (.int (0 : Int32)), (.int (Int32.ofNat k))]) (rest := []) (lenOf pd_24 rfl) rfl (by show 2 * 0 + _ ≤ _; exact Nat.le_of_eq rfl) (hb hby d15_54) (fun _ _ => ⟨rfl, e33, (by decide : 0 + 3 ≤ _), (by decide : 0 + 52 ≤ _)⟩)
      dsimp only [Pt.U, Pt.locs, Pt.cells, Pt.slots] at X36 l36 y36 z36 st36 hQ36 hS36 gr36 C36
      subst l36 y36 z36
      obtain ⟨X36, hSr36, hZ, hown⟩ := rebS (s := s) (vm0 := s.vm) hS0 (Nat.zero_le _) X36 hS36 gr36 hZ hown
      have hks := Nat.le_refl T36.heap.size
      obtain ⟨sx36, hsx36⟩ : ∃ z, z = s.setVm T36.vm := ⟨_, rfl⟩
      rw [← hsx36] at X36 hZ hown
      obtain ⟨so, rfl, Nq36, K36, P36⟩ := hQ36
      have O0_36 : Old Z n0 T36.heap := O0_30.keep K36 all0
      have E_s_36 : Exa Z T36.heap sa "java/lang/String" := E_s_30.keep K36
      have Fv_36 : Fld Z T36.heap sa "java/lang/String" "value" "[B" (.ref tb) := Fv_30.keep K36 nin0
      have Fc_36 : Fld Z T36.heap sa "java/lang/String" "coder" "B" (.int (1 : Int32)) := Fc_30.keep K36 nin0
      have P0_36 : own_STR Z T36.heap sa f n := P0_30.keep K36
      have Va_36 : Arv Z T36.heap tb kb .byte (Int32.ofNat (2 * n)) (own_tab (own_u16 f) (2 * n)) (.int (0 : Int32)) := Va_30.keep K36 nin0
      have Z36 : n0 ≤ T36.heap.size := Nat.le_trans Z30 K36.1
      have Kp36 : Keep h0 T36.heap [] := Kp30.trans K36 all0
      have N36 := Fr.app N30 Nq36
      have pre37 := fun τ (κ : Steps p.tables e below (T36.setTop (mkF m 57 #[.val (.ref sa), .val (.int (0 : Int32)), .val (.int (Int32.ofNat k)), .val (.int (Int32.ofNat n)), .val (.int (Int32.ofNat k))] [(.ref so)])) τ) => pre35 τ (st36.trans κ)
      rw [hsx36] at X36 hZ hown
      obtain ⟨fs, hr, hrun, hended, hEnd⟩ := Stand.leaveW (s := s) (vm₁ := T36.vm) X36 hSr36 hks (v := some (.ref so)) (fun h => by rw [Bd.returns] at h; cases h)
      refine ⟨_, _, pre37 _ ?_, hrun, hended, _, _, rfl, ?_, ?_, ⟨hEnd.1, hEnd.2.1, hEnd.2.2.1, hEnd.2.2.2.mono (by decide) (by decide)⟩⟩
      · jvm_step X36.here [X36.here.top, hx, (hb hby d15_57), X36.method', Bd.returns, Value.isRef, FieldType.isReference]
        first | (intro acts; rw [hr _ acts rfl rfl rfl]) | rw [hr _ _ rfl rfl rfl]
        exact Steps.refl _
      · show Q15 Z sa n k f zc fm h0 n0 _ T36.heap _
        exact ⟨so, rfl, N36, Kp36, P36⟩
      · show CHr Z consts_1 s.vm s.heap T36.vm T36.heap
        rw [hh]
        exact ((CHr.keep Kp30 sf0 hC0).trans C36)
theorem ef_6 (m : MethodId) (sa : Addr) (n : Nat) (zc : Int32) (fm : Value) : entryFrame m #[(.ref sa)] 1 = mkF m 0 #[.val (.ref sa)] [] := by first | (simp [entryFrame, mkF, argsToLocals, Value.category]; done) | rfl
def Q6 (Z : State) (sa : Addr) (n : Nat) (f : Nat → Int32) (zc : Int32) (fm : Value) (h0 : Heap) (n0 : Nat) (v : Option Value) (h : Heap) (L : List Loc) : Prop := ∃ (so : Addr) (k9 : Nat), v = some (.ref so) ∧ Fr n0 L ∧ Keep h0 h [] ∧ own_LI f n k9 ∧ own_STR Z h so f k9
set_option maxRecDepth 65536 in
set_option maxHeartbeats 40000000 in
theorem rm6 (l : Launch) (Z : State) (a0 : Array Value) (hw : ∀ d ∈ tables_1, d.before a0 Z = true) (ws : List Jvm.Cond) (sa : Addr) (n : Nat) (f : Nat → Int32) (zc : Int32) (fm : Value) (h0 : Heap) (n0 : Nat) (Z0 : n0 ≤ h0.size) (O0 : Old Z n0 h0) (U0 : own_ST Z zc fm) (P0 : own_STR Z h0 sa f n) (hn : n ≤ 16) (hf : ∀ j, j < n → own_ch (f j)) :
    MetFree l (⟨"com/example/tympan/tympan/xjdf/XjdfPackage", "folder", "(Ljava/lang/String;)Ljava/lang/String;"⟩ : MethodName) (head1 (Jvm.Cond.code (⟨"com/example/tympan/tympan/xjdf/XjdfPackage", "folder", "(Ljava/lang/String;)Ljava/lang/String;"⟩ : MethodName) prog_49_method_8_code 1 (some (.object "java/lang/String")) :: ws) ({ frames := 7, cells := 3, slots := 52, locals := 119 } : Room)) (fun α υ => α = #[(.ref sa)] ∧ Z.Warmed39 υ.vm ∧ υ.heap = h0 ∧ CHv Z consts_1 υ.vm h0) (fun _ _ _ _ _ => True) (fun _ υ ω υ' => ∃ v L, ω = .returned v ∧ Q6 Z sa n f zc fm h0 n0 v υ'.heap L ∧ CHr Z consts_1 υ.vm υ.heap υ'.vm υ'.heap ∧ ReturnedEndW υ ω υ' L ({ frames := 7, cells := 3, slots := 52, locals := 119 } : Room).cells ({ frames := 7, cells := 3, slots := 52, locals := 119 } : Room).slots) := by
  refine MetFree.of_bodySF (plainFor_of_name pn_com_example_tympan_tympan_xjdf_XjdfPackage) hisR ?_
  intro p e s m args below meth c s₁ Bd hml0 hP hK
  obtain ⟨rfl, hZ, hh, hC0⟩ := hP
  have hx := Bd.exec
  have hby := Bd.bytes
  have hml : c.maxLocals = 1 := hml0
  have hown : s.vm.findClass "com/example/tympan/tympan/xjdf/XjdfPackage" = some m.cls := findClass_of_methodNamed Bd.named
  have hnm := (name_of_methodNamed Bd.named Bd.method).1
  have X0 : Stand p l e ({ frames := 7, cells := 3, slots := 52, locals := 119 } : Room) s m #[(.ref sa)] below meth c s₁ [] 0 0 := Stand.of_body Bd
  have e0 : s₁.heap = h0 := by rw [← hh, Bd.state]; rfl
  have N0 := Fr.nil n0
  have pre0 : ∀ τ, Steps p.tables e below (s₁.setTop (mkF m 0 #[.val (.ref sa)] [])) τ → Steps p.tables e below (s₁.setTop (entryFrame m #[(.ref sa)] 1)) τ := fun τ κ => castTop (ef_6 m sa n zc fm) κ
  have hS0 : s.Since s.vm 0 := (State.WarmedH.refl s).since 0
  have hks : 0 ≤ h0.size := Nat.zero_le _
  have hEL := own_EL hw
  have Kp0 : Keep h0 h0 [] := Keep.refl _ _
  have E_s := P0.exa
  have pre1 := fun τ (κ : Steps p.tables e below (s₁.setTop (mkF m 5 #[.val (.ref sa)] [(.int (47 : Int32)), (.ref sa), (.int (0 : Int32)), (.ref sa)])) τ) => pre0 τ (by
    refine XS.aloadN X0.here hx rfl (hb hby d6_0) rfl rfl ?_
    refine XS.iconst X0.here hx rfl (hb hby d6_1) ?_
    refine XS.aloadN X0.here hx rfl (hb hby d6_2) rfl rfl ?_
    refine XS.bipush X0.here hx rfl (hb hby d6_3) ?_
    show Steps p.tables e below (s₁.setTop (mkF m 5 #[.val (.ref sa)] [(.int (47 : Int32)), (.ref sa), (.int (0 : Int32)), (.ref sa)])) _
    exact κ)
  obtain ⟨cq2, kq2, q2a, q2b, q2c⟩ := isOf hZ e0 E_s
  obtain ⟨_, _, ⟨T2, L2, k2, n2⟩, -, X2, ⟨Lc2, hQ2, l2, y2, z2⟩, st2⟩ := X0.virtualBack hx (y := (⟨"java/lang/String", "lastIndexOf", "(I)I"⟩ : MethodName)) (z := (⟨"java/lang/String", "lastIndexOf", "(I)I"⟩ : MethodName)) hown (mvT hZ (hw _ (List.mem_of_getElem? (i := 35) rfl))) (mvT hZ (hw _ (List.mem_of_getElem? (i := 36) rfl))) (notFace_of_selects (args := #[]) (mvT hZ (hw _ (List.mem_of_getElem? (i := 38) rfl)))) (mvT hZ (hw _ (List.mem_of_getElem? (i := 38) rfl))) (mvT hZ (hw _ (List.mem_of_getElem? (i := 37) rfl))) (by decide) (backOf (W := 2) (rm7 l Z a0 hw [] sa n f zc fm h0 n0 Z0 O0 U0 P0 hn hf) hZ (hw _ (List.mem_of_getElem? (i := 39) rfl)) (hw _ (List.mem_of_getElem? (i := 11) rfl)) (Nat.le_of_ble_eq_true rfl) (Nat.le_of_ble_eq_true rfl)) q2a q2c (g := (mkF m 5 #[.val (.ref sa)] [(.int (47 : Int32)), (.ref sa), (.int (0 : Int32)), (.ref sa)])) rfl (by rw [hml]; rfl) (Steps.refl _) (argsL := [(.int (47 : Int32))]) (rest := [(.int (0 : Int32)), (.ref sa)]) (lenOf pd_0 rfl) rfl (by show 2 * 0 + _ ≤ _; exact Nat.le_of_eq rfl) (hb hby d6_5) (fun _ _ => ⟨rfl, e0, (by decide : 0 + 0 ≤ _), (by decide : 0 + 0 ≤ _)⟩)
  dsimp only [Pt.U, Pt.locs, Pt.cells, Pt.slots] at X2 l2 y2 z2 st2 hQ2
  subst l2 y2 z2
  obtain ⟨k9, rfl, Nq2, hh2, hli⟩ := hQ2
  have O0_2 : Old Z n0 T2.heap := by rw [hh2]; exact O0
  have P0_2 : own_STR Z T2.heap sa f n := by rw [hh2]; exact P0
  have E_s_2 : Exa Z T2.heap sa "java/lang/String" := by rw [hh2]; exact E_s
  have Z2 : n0 ≤ T2.heap.size := by rw [hh2]; exact Z0
  have Kp2 : Keep h0 T2.heap [] := by rw [hh2]; exact Kp0
  have N2 := Fr.app N0 Nq2
  have pre3 := fun τ (κ : Steps p.tables e below (T2.setTop (mkF m 8 #[.val (.ref sa)] [(.int (own_dn k9)), (.int (0 : Int32)), (.ref sa)])) τ) => pre1 τ (st2.trans κ)
  have pre4 := fun τ (κ : Steps p.tables e below (T2.setTop (mkF m 10 #[.val (.ref sa)] [(.int ((own_dn k9) + (1 : Int32))), (.int (0 : Int32)), (.ref sa)])) τ) => pre3 τ (by
    refine XS.iconst X2.here hx rfl (hb hby d6_8) ?_
    refine XS.iadd X2.here hx rfl (hb hby d6_9) rfl ?_
    show Steps p.tables e below (T2.setTop (mkF m 10 #[.val (.ref sa)] [(.int ((own_dn k9) + (1 : Int32))), (.int (0 : Int32)), (.ref sa)])) _
    exact κ)
  rw [show ((own_dn k9) + (1 : Int32)) = (Int32.ofNat k9) from (own_dn1 k9)] at pre4
  obtain ⟨cq5, kq5, q5a, q5b, q5c⟩ := isOf hZ rfl E_s_2
  obtain ⟨_, _, ⟨T5, L5, k5, n5⟩, -, X5, hS5, gr5, ⟨Lc5, hQ5, l5, y5, z5, C5⟩, st5⟩ := X2.virtualBackS hx (y := (⟨"java/lang/String", "substring", "(II)Ljava/lang/String;"⟩ : MethodName)) (z := (⟨"java/lang/String", "substring", "(II)Ljava/lang/String;"⟩ : MethodName)) hown (mvT hZ (hw _ (List.mem_of_getElem? (i := 72) rfl))) (mvT hZ (hw _ (List.mem_of_getElem? (i := 73) rfl))) (notFace_of_selects (args := #[]) (mvT hZ (hw _ (List.mem_of_getElem? (i := 75) rfl)))) (mvT hZ (hw _ (List.mem_of_getElem? (i := 75) rfl))) (mvT hZ (hw _ (List.mem_of_getElem? (i := 74) rfl))) (by decide) (backOfSH (s := s) (vm0 := s.vm) (W := 0) (rm15 l Z a0 hw [] sa n k9 f zc fm T2.heap n0 Z2 O0_2 U0 P0_2 hn hf hli.1) hZ (hw _ (List.mem_of_getElem? (i := 76) rfl)) (hw _ (List.mem_of_getElem? (i := 11) rfl)) (Nat.le_of_ble_eq_true rfl) (Nat.le_of_ble_eq_true rfl) hEL (CHv.keep Kp2 sf0 hC0)) q5a q5c (g := (mkF m 10 #[.val (.ref sa)] [(.int (Int32.ofNat k9)), (.int (0 : Int32)), (.ref sa)])) rfl (by rw [hml]; rfl) (Steps.refl _) (argsL := [(.int (0 : Int32)), (.int (Int32.ofNat k9))]) (rest := []) (lenOf pd_25 rfl) rfl (by show 2 * 0 + _ ≤ _; exact Nat.le_of_eq rfl) (hb hby d6_10) (fun _ _ => ⟨rfl, rfl, (by decide : 0 + 3 ≤ _), (by decide : 0 + 52 ≤ _)⟩)
  dsimp only [Pt.U, Pt.locs, Pt.cells, Pt.slots] at X5 l5 y5 z5 st5 hQ5 hS5 gr5 C5
  subst l5 y5 z5
  obtain ⟨X5, hSr5, hZ, hown⟩ := rebS (s := s) (vm0 := s.vm) hS0 (Nat.zero_le _) X5 hS5 gr5 hZ hown
  have hks := Nat.le_refl T5.heap.size
  obtain ⟨sx5, hsx5⟩ : ∃ z, z = s.setVm T5.vm := ⟨_, rfl⟩
  rw [← hsx5] at X5 hZ hown
  obtain ⟨so, rfl, Nq5, K5, P5⟩ := hQ5
  have O0_5 : Old Z n0 T5.heap := O0_2.keep K5 all0
  have P0_5 : own_STR Z T5.heap sa f n := P0_2.keep K5
  have E_s_5 : Exa Z T5.heap sa "java/lang/String" := E_s_2.keep K5
  have Z5 : n0 ≤ T5.heap.size := Nat.le_trans Z2 K5.1
  have Kp5 : Keep h0 T5.heap [] := Kp2.trans K5 all0
  have N5 := Fr.app N2 Nq5
  have pre6 := fun τ (κ : Steps p.tables e below (T5.setTop (mkF m 13 #[.val (.ref sa)] [(.ref so)])) τ) => pre4 τ (st5.trans κ)
  rw [hsx5] at X5 hZ hown
  obtain ⟨fs, hr, hrun, hended, hEnd⟩ := Stand.leaveW (s := s) (vm₁ := T5.vm) X5 hSr5 hks (v := some (.ref so)) (fun h => by rw [Bd.returns] at h; cases h)
  refine ⟨_, _, pre6 _ ?_, hrun, hended, _, _, rfl, ?_, ?_, ⟨hEnd.1, hEnd.2.1, hEnd.2.2.1, hEnd.2.2.2.mono (by decide) (by decide)⟩⟩
  · jvm_step X5.here [X5.here.top, hx, (hb hby d6_13), X5.method', Bd.returns, Value.isRef, FieldType.isReference]
    first | (intro acts; rw [hr _ acts rfl rfl rfl]) | rw [hr _ _ rfl rfl rfl]
    exact Steps.refl _
  · show Q6 Z sa n f zc fm h0 n0 _ T5.heap _
    exact ⟨so, k9, rfl, N5, Kp5, hli, P5⟩
  · show CHr Z consts_1 s.vm s.heap T5.vm T5.heap
    rw [hh]
    exact ((CHr.keep Kp2 sf0 hC0).trans C5)
set_option maxRecDepth 65536 in
set_option maxHeartbeats 40000000 in
theorem loopE {p : Program} {l : Launch} {e : Env} {R : Room} {s : State} {m : MethodId} {args : Array Value} {below : List Frame} {meth : Method} {c : Code} {Z : State} {a0 : Array Value} (hx : p.tables.exec = Jvm.exec) (hZ : Z.Warmed39 s.vm) (hw : ∀ d ∈ tables_1, d.before a0 Z = true) (hby : c.code = jdk_43_method_13_code) (hml : c.maxLocals = 3) (hown : s.vm.findClass "java/lang/StringLatin1" = some m.cls) {n0 cells slots : Nat} {h0 : Heap} (ta tb : Addr) (ka kb : ClassId) (z : Nat) (g : Nat → Int32) (hz : z ≤ 32) (Va : Arv Z h0 ta ka .byte (Int32.ofNat z) (own_tab g (z)) (.int (0 : Int32))) (Vb : Arv Z h0 tb kb .byte (Int32.ofNat z) (own_tab g (z)) (.int (0 : Int32))) :
    ∀ (fu i : Nat) (T0 : State) (locs : List Loc), z ≤ i + fu → i ≤ 32 → Stand p l e R s m args below meth c T0 locs cells slots → T0.heap = h0 → Fr n0 locs →
      ∃ (T' : State) (lo : List Loc) (L9 : Array Slot), Stand p l e R s m args below meth c T' lo cells slots ∧ T'.heap = h0 ∧ Fr n0 lo ∧ ∀ t, Steps p.tables e below (T'.setTop (mkF m 33 L9 [.int (1 : Int32)])) t → Steps p.tables e below (T0.setTop (mkF m 9 #[.val (.ref ta), .val (.ref tb), .val (.int (Int32.ofNat i))] [])) t := by
  intro fu
  induction fu with
  | zero =>
    intro i T0 locs hfu hi X0 e0 N0
    have hgt : ¬ i < z := by omega
    have pre0 := fun τ (κ : Steps p.tables e below (T0.setTop (mkF m 9 #[.val (.ref ta), .val (.ref tb), .val (.int (Int32.ofNat i))] [])) τ) => κ
    have pre1 := fun τ (κ : Steps p.tables e below (T0.setTop (mkF m 11 #[.val (.ref ta), .val (.ref tb), .val (.int (Int32.ofNat i))] [(.ref ta), (.int (Int32.ofNat i))])) τ) => pre0 τ (by
      refine XS.iloadN X0.here hx rfl (hb hby d19_9) rfl ?_
      refine XS.aloadN X0.here hx rfl (hb hby d19_10) rfl rfl ?_
      show Steps p.tables e below (T0.setTop (mkF m 11 #[.val (.ref ta), .val (.ref tb), .val (.int (Int32.ofNat i))] [(.ref ta), (.int (Int32.ofNat i))])) _
      exact κ)
    obtain ⟨cl2, Ar2, -, S2, M2, -, -⟩ := id Va
    have pre3 := fun τ (κ : Steps p.tables e below (T0.setTop (mkF m 33 #[.val (.ref ta), .val (.ref tb), .val (.int (Int32.ofNat i))] [(.int (1 : Int32))])) τ) => pre1 τ (by
      refine X0.arraylength hx (by rw [e0]; exact Ar2.1) (State.isArrayOf_alike hZ.alike Ar2.2.1) (g := (mkF m 11 #[.val (.ref ta), .val (.ref tb), .val (.int (Int32.ofNat i))] [(.ref ta), (.int (Int32.ofNat i))])) rfl rfl (hb hby d19_11) _ ?_
      rw [len_of S2 M2]
      show Steps p.tables e below (T0.setTop (mkF m 12 #[.val (.ref ta), .val (.ref tb), .val (.int (Int32.ofNat i))] [(.int (Int32.ofNat z)), (.int (Int32.ofNat i))])) _
      refine XS.icmpYes X0.here hx rfl (pc0 := 12) (pc' := 32) rfl (hb hby d19_12) rfl (flt (fun q => hgt ((own_ltN (by omega) (by omega)).mp q))).2.1 (by decide) (by decide) ?_
      show Steps p.tables e below (T0.setTop (mkF m 32 #[.val (.ref ta), .val (.ref tb), .val (.int (Int32.ofNat i))] [])) _
      refine XS.iconst X0.here hx rfl (hb hby d19_32) ?_
      show Steps p.tables e below (T0.setTop (mkF m 33 #[.val (.ref ta), .val (.ref tb), .val (.int (Int32.ofNat i))] [(.int (1 : Int32))])) _
      exact κ)
    exact ⟨T0, _, _, X0, e0, N0, pre3⟩
  | succ fu ih =>
    intro i T0 locs hfu hi X0 e0 N0
    by_cases hgt : i < z
    · skip
      have pre0 := fun τ (κ : Steps p.tables e below (T0.setTop (mkF m 9 #[.val (.ref ta), .val (.ref tb), .val (.int (Int32.ofNat i))] [])) τ) => κ
      have pre1 := fun τ (κ : Steps p.tables e below (T0.setTop (mkF m 11 #[.val (.ref ta), .val (.ref tb), .val (.int (Int32.ofNat i))] [(.ref ta), (.int (Int32.ofNat i))])) τ) => pre0 τ (by
        refine XS.iloadN X0.here hx rfl (hb hby d19_9) rfl ?_
        refine XS.aloadN X0.here hx rfl (hb hby d19_10) rfl rfl ?_
        show Steps p.tables e below (T0.setTop (mkF m 11 #[.val (.ref ta), .val (.ref tb), .val (.int (Int32.ofNat i))] [(.ref ta), (.int (Int32.ofNat i))])) _
        exact κ)
      obtain ⟨cl2, Ar2, -, S2, M2, -, -⟩ := id Va
      have pre3 := fun τ (κ : Steps p.tables e below (T0.setTop (mkF m 17 #[.val (.ref ta), .val (.ref tb), .val (.int (Int32.ofNat i))] [(.int (Int32.ofNat i)), (.ref ta)])) τ) => pre1 τ (by
        refine X0.arraylength hx (by rw [e0]; exact Ar2.1) (State.isArrayOf_alike hZ.alike Ar2.2.1) (g := (mkF m 11 #[.val (.ref ta), .val (.ref tb), .val (.int (Int32.ofNat i))] [(.ref ta), (.int (Int32.ofNat i))])) rfl rfl (hb hby d19_11) _ ?_
        rw [len_of S2 M2]
        show Steps p.tables e below (T0.setTop (mkF m 12 #[.val (.ref ta), .val (.ref tb), .val (.int (Int32.ofNat i))] [(.int (Int32.ofNat z)), (.int (Int32.ofNat i))])) _
        refine XS.icmpNo X0.here hx rfl (hb hby d19_12) rfl (tlt ((own_ltN (by omega) (by omega)).mpr hgt)).2.1 ?_
        show Steps p.tables e below (T0.setTop (mkF m 15 #[.val (.ref ta), .val (.ref tb), .val (.int (Int32.ofNat i))] [])) _
        refine XS.aloadN X0.here hx rfl (hb hby d19_15) rfl rfl ?_
        refine XS.iloadN X0.here hx rfl (hb hby d19_16) rfl ?_
        show Steps p.tables e below (T0.setTop (mkF m 17 #[.val (.ref ta), .val (.ref tb), .val (.int (Int32.ofNat i))] [(.int (Int32.ofNat i)), (.ref ta)])) _
        exact κ)
      obtain ⟨cl4, Ar4, -, S4, M4, H4, -⟩ := id Va
      have in4 : ¬ ((Int32.ofNat i) < 0 ∨ cl4.slots.size ≤ ((Int32.ofNat i)).toNatClampNeg) := inb_of S4 ⟨own_nn (by omega), (own_ltN (by omega) (by omega)).mpr (by omega)⟩
      have at4 : cl4.slots[((Int32.ofNat i)).toNatClampNeg]? = some (.int (g i)) := H4.at in4 (by rw [own_clamp (by omega)]; exact own_tab_get (by omega) _)
      have pre5 := fun τ (κ : Steps p.tables e below (T0.setTop (mkF m 20 #[.val (.ref ta), .val (.ref tb), .val (.int (Int32.ofNat i))] [(.int (Int32.ofNat i)), (.ref tb), (.int (g i))])) τ) => pre3 τ (by
        refine X0.baloadBytes hx (j := (Int32.ofNat i)) (v := (.int (g i))) (by rw [e0]; exact Ar4.1) (State.isArrayOf_alike hZ.alike Ar4.2.1) Ar4.2.2 in4 at4 (g := (mkF m 17 #[.val (.ref ta), .val (.ref tb), .val (.int (Int32.ofNat i))] [(.int (Int32.ofNat i)), (.ref ta)])) rfl rfl (hb hby d19_17) _ ?_
        show Steps p.tables e below (T0.setTop (mkF m 18 #[.val (.ref ta), .val (.ref tb), .val (.int (Int32.ofNat i))] [(.int (g i))])) _
        refine XS.aloadN X0.here hx rfl (hb hby d19_18) rfl rfl ?_
        refine XS.iloadN X0.here hx rfl (hb hby d19_19) rfl ?_
        show Steps p.tables e below (T0.setTop (mkF m 20 #[.val (.ref ta), .val (.ref tb), .val (.int (Int32.ofNat i))] [(.int (Int32.ofNat i)), (.ref tb), (.int (g i))])) _
        exact κ)
      obtain ⟨cl6, Ar6, -, S6, M6, H6, -⟩ := id Vb
      have in6 : ¬ ((Int32.ofNat i) < 0 ∨ cl6.slots.size ≤ ((Int32.ofNat i)).toNatClampNeg) := inb_of S6 ⟨own_nn (by omega), (own_ltN (by omega) (by omega)).mpr (by omega)⟩
      have at6 : cl6.slots[((Int32.ofNat i)).toNatClampNeg]? = some (.int (g i)) := H6.at in6 (by rw [own_clamp (by omega)]; exact own_tab_get (by omega) _)
      have pre7 := fun τ (κ : Steps p.tables e below (T0.setTop (mkF m 9 #[.val (.ref ta), .val (.ref tb), .val (.int ((Int32.ofNat i) + (1 : Int32)))] [])) τ) => pre5 τ (by
        refine X0.baloadBytes hx (j := (Int32.ofNat i)) (v := (.int (g i))) (by rw [e0]; exact Ar6.1) (State.isArrayOf_alike hZ.alike Ar6.2.1) Ar6.2.2 in6 at6 (g := (mkF m 20 #[.val (.ref ta), .val (.ref tb), .val (.int (Int32.ofNat i))] [(.int (Int32.ofNat i)), (.ref tb), (.int (g i))])) rfl rfl (hb hby d19_20) _ ?_
        show Steps p.tables e below (T0.setTop (mkF m 21 #[.val (.ref ta), .val (.ref tb), .val (.int (Int32.ofNat i))] [(.int (g i)), (.int (g i))])) _
        refine XS.icmpYes X0.here hx rfl (pc0 := 21) (pc' := 26) rfl (hb hby d19_21) rfl (teq rfl).1 (by decide) (by decide) ?_
        show Steps p.tables e below (T0.setTop (mkF m 26 #[.val (.ref ta), .val (.ref tb), .val (.int (Int32.ofNat i))] [])) _
        refine XS.iinc X0.here hx rfl (hb hby d19_26) rfl (l' := #[.val (.ref ta), .val (.ref tb), .val (.int ((Int32.ofNat i) + (1 : Int32)))]) rfl ?_
        show Steps p.tables e below (T0.setTop (mkF m 29 #[.val (.ref ta), .val (.ref tb), .val (.int ((Int32.ofNat i) + (1 : Int32)))] [])) _
        refine XS.goto X0.here hx rfl (pc0 := 29) (pc' := 9) rfl (hb hby d19_29) (by decide) (by decide) ?_
        show Steps p.tables e below (T0.setTop (mkF m 9 #[.val (.ref ta), .val (.ref tb), .val (.int ((Int32.ofNat i) + (1 : Int32)))] [])) _
        exact κ)
      rw [show ((Int32.ofNat i) + (1 : Int32)) = (Int32.ofNat (i + 1)) from (own_addN _ 1)] at pre7
      obtain ⟨a1, a2, a3, b1, b2, b3, a9⟩ := ih (i + 1) _ _ (by omega) (by omega) X0 e0 N0
      exact ⟨a1, a2, a3, b1, b2, b3, fun τ κ => pre7 τ (a9 τ κ)⟩
    · skip
      have pre0 := fun τ (κ : Steps p.tables e below (T0.setTop (mkF m 9 #[.val (.ref ta), .val (.ref tb), .val (.int (Int32.ofNat i))] [])) τ) => κ
      have pre1 := fun τ (κ : Steps p.tables e below (T0.setTop (mkF m 11 #[.val (.ref ta), .val (.ref tb), .val (.int (Int32.ofNat i))] [(.ref ta), (.int (Int32.ofNat i))])) τ) => pre0 τ (by
        refine XS.iloadN X0.here hx rfl (hb hby d19_9) rfl ?_
        refine XS.aloadN X0.here hx rfl (hb hby d19_10) rfl rfl ?_
        show Steps p.tables e below (T0.setTop (mkF m 11 #[.val (.ref ta), .val (.ref tb), .val (.int (Int32.ofNat i))] [(.ref ta), (.int (Int32.ofNat i))])) _
        exact κ)
      obtain ⟨cl2, Ar2, -, S2, M2, -, -⟩ := id Va
      have pre3 := fun τ (κ : Steps p.tables e below (T0.setTop (mkF m 33 #[.val (.ref ta), .val (.ref tb), .val (.int (Int32.ofNat i))] [(.int (1 : Int32))])) τ) => pre1 τ (by
        refine X0.arraylength hx (by rw [e0]; exact Ar2.1) (State.isArrayOf_alike hZ.alike Ar2.2.1) (g := (mkF m 11 #[.val (.ref ta), .val (.ref tb), .val (.int (Int32.ofNat i))] [(.ref ta), (.int (Int32.ofNat i))])) rfl rfl (hb hby d19_11) _ ?_
        rw [len_of S2 M2]
        show Steps p.tables e below (T0.setTop (mkF m 12 #[.val (.ref ta), .val (.ref tb), .val (.int (Int32.ofNat i))] [(.int (Int32.ofNat z)), (.int (Int32.ofNat i))])) _
        refine XS.icmpYes X0.here hx rfl (pc0 := 12) (pc' := 32) rfl (hb hby d19_12) rfl (flt (fun q => hgt ((own_ltN (by omega) (by omega)).mp q))).2.1 (by decide) (by decide) ?_
        show Steps p.tables e below (T0.setTop (mkF m 32 #[.val (.ref ta), .val (.ref tb), .val (.int (Int32.ofNat i))] [])) _
        refine XS.iconst X0.here hx rfl (hb hby d19_32) ?_
        show Steps p.tables e below (T0.setTop (mkF m 33 #[.val (.ref ta), .val (.ref tb), .val (.int (Int32.ofNat i))] [(.int (1 : Int32))])) _
        exact κ)
      exact ⟨T0, _, _, X0, e0, N0, pre3⟩

theorem ef_19 (m : MethodId) (ta : Addr) (tb : Addr) (z : Nat) : entryFrame m #[(.ref ta), (.ref tb)] 3 = mkF m 0 #[.val (.ref ta), .val (.ref tb), .unset] [] := by first | (simp [entryFrame, mkF, argsToLocals, Value.category]; done) | rfl
def Q19 (Z : State) (ta : Addr) (tb : Addr) (ka : ClassId) (kb : ClassId) (z : Nat) (g : Nat → Int32) (h0 : Heap) (n0 : Nat) (v : Option Value) (h : Heap) (L : List Loc) : Prop := v = some (.int (1 : Int32)) ∧ Fr n0 L ∧ h = h0
set_option maxRecDepth 65536 in
set_option maxHeartbeats 40000000 in
theorem rm19 (l : Launch) (Z : State) (a0 : Array Value) (hw : ∀ d ∈ tables_1, d.before a0 Z = true) (ws : List Jvm.Cond) (ta : Addr) (tb : Addr) (ka : ClassId) (kb : ClassId) (z : Nat) (g : Nat → Int32) (h0 : Heap) (n0 : Nat) (Z0 : n0 ≤ h0.size) (hz : z ≤ 32) (Va : Arv Z h0 ta ka .byte (Int32.ofNat z) (own_tab g (z)) (.int (0 : Int32))) (Vb : Arv Z h0 tb kb .byte (Int32.ofNat z) (own_tab g (z)) (.int (0 : Int32))) :
    MetFree l (⟨"java/lang/StringLatin1", "equals", "([B[B)Z"⟩ : MethodName) (head1 (Jvm.Cond.code (⟨"java/lang/StringLatin1", "equals", "([B[B)Z"⟩ : MethodName) jdk_43_method_13_code 3 (some .boolean) :: ws) ({ frames := 0, cells := 0, slots := 0, locals := 0 } : Room)) (fun α υ => α = #[(.ref ta), (.ref tb)] ∧ Z.Warmed39 υ.vm ∧ υ.heap = h0) (fun _ _ _ _ _ => True) (fun _ υ ω υ' => ∃ v L, ω = .returned v ∧ Q19 Z ta tb ka kb z g h0 n0 v υ'.heap L ∧ FrameEnd υ ω υ' L ({ frames := 0, cells := 0, slots := 0, locals := 0 } : Room).cells ({ frames := 0, cells := 0, slots := 0, locals := 0 } : Room).slots) := by
  refine MetFree.of_bodySF (plainFor_of_name pn_java_lang_StringLatin1) hisR ?_
  intro p e s m args below meth c s₁ Bd hml0 hP hK
  obtain ⟨rfl, hZ, hh⟩ := hP
  have hx := Bd.exec
  have hby := Bd.bytes
  have hml : c.maxLocals = 3 := hml0
  have hown : s.vm.findClass "java/lang/StringLatin1" = some m.cls := findClass_of_methodNamed Bd.named
  have hnm := (name_of_methodNamed Bd.named Bd.method).1
  have X0 : Stand p l e ({ frames := 0, cells := 0, slots := 0, locals := 0 } : Room) s m #[(.ref ta), (.ref tb)] below meth c s₁ [] 0 0 := Stand.of_body Bd
  have e0 : s₁.heap = h0 := by rw [← hh, Bd.state]; rfl
  have N0 := Fr.nil n0
  have pre0 : ∀ τ, Steps p.tables e below (s₁.setTop (mkF m 0 #[.val (.ref ta), .val (.ref tb), .unset] [])) τ → Steps p.tables e below (s₁.setTop (entryFrame m #[(.ref ta), (.ref tb)] 3)) τ := fun τ κ => castTop (ef_19 m ta tb z) κ
  have pre1 := fun τ (κ : Steps p.tables e below (s₁.setTop (mkF m 1 #[.val (.ref ta), .val (.ref tb), .unset] [(.ref ta)])) τ) => pre0 τ (by
    refine XS.aloadN X0.here hx rfl (hb hby d19_0) rfl rfl ?_
    show Steps p.tables e below (s₁.setTop (mkF m 1 #[.val (.ref ta), .val (.ref tb), .unset] [(.ref ta)])) _
    exact κ)
  obtain ⟨cl2, Ar2, -, S2, M2, -, -⟩ := id Va
  have pre3 := fun τ (κ : Steps p.tables e below (s₁.setTop (mkF m 3 #[.val (.ref ta), .val (.ref tb), .unset] [(.ref tb), (.int (Int32.ofNat z))])) τ) => pre1 τ (by
    refine X0.arraylength hx (by rw [e0]; exact Ar2.1) (State.isArrayOf_alike hZ.alike Ar2.2.1) (g := (mkF m 1 #[.val (.ref ta), .val (.ref tb), .unset] [(.ref ta)])) rfl rfl (hb hby d19_1) _ ?_
    rw [len_of S2 M2]
    show Steps p.tables e below (s₁.setTop (mkF m 2 #[.val (.ref ta), .val (.ref tb), .unset] [(.int (Int32.ofNat z))])) _
    refine XS.aloadN X0.here hx rfl (hb hby d19_2) rfl rfl ?_
    show Steps p.tables e below (s₁.setTop (mkF m 3 #[.val (.ref ta), .val (.ref tb), .unset] [(.ref tb), (.int (Int32.ofNat z))])) _
    exact κ)
  obtain ⟨cl4, Ar4, -, S4, M4, -, -⟩ := id Vb
  have pre5 := fun τ (κ : Steps p.tables e below (s₁.setTop (mkF m 9 #[.val (.ref ta), .val (.ref tb), .val (.int (0 : Int32))] [])) τ) => pre3 τ (by
    refine X0.arraylength hx (by rw [e0]; exact Ar4.1) (State.isArrayOf_alike hZ.alike Ar4.2.1) (g := (mkF m 3 #[.val (.ref ta), .val (.ref tb), .unset] [(.ref tb), (.int (Int32.ofNat z))])) rfl rfl (hb hby d19_3) _ ?_
    rw [len_of S4 M4]
    show Steps p.tables e below (s₁.setTop (mkF m 4 #[.val (.ref ta), .val (.ref tb), .unset] [(.int (Int32.ofNat z)), (.int (Int32.ofNat z))])) _
    refine XS.icmpNo X0.here hx rfl (hb hby d19_4) rfl (teq rfl).2 ?_
    show Steps p.tables e below (s₁.setTop (mkF m 7 #[.val (.ref ta), .val (.ref tb), .unset] [])) _
    refine XS.iconst X0.here hx rfl (hb hby d19_7) ?_
    refine XS.istoreN X0.here hx rfl (hb hby d19_8) rfl (l' := #[.val (.ref ta), .val (.ref tb), .val (.int (0 : Int32))]) rfl ?_
    show Steps p.tables e below (s₁.setTop (mkF m 9 #[.val (.ref ta), .val (.ref tb), .val (.int (0 : Int32))] [])) _
    exact κ)
  obtain ⟨T9, lo9, L9, X9, e9, N9, st9⟩ := loopE hx hZ hw hby hml hown ta tb ka kb z g hz Va Vb z 0 _ _ (by omega) (by omega) X0 e0 N0
  have pre99 := fun τ (κ : Steps p.tables e below (T9.setTop (mkF m 33 L9 [.int (1 : Int32)])) τ) => pre5 τ (st9 τ κ)
  obtain ⟨fs, hr, hrun, hended, hW, hsame⟩ := X9.leave (v := some (.int (1 : Int32))) (fun h => by rw [Bd.returns] at h; cases h)
  refine ⟨_, _, pre99 _ ?_, hrun, hended, _, _, rfl, ?_, ⟨_, rfl⟩, hW, hsame.mono (by decide) (by decide)⟩
  · exact retN X9 hx (t := .boolean) Bd.returns (by simp) (hb hby d19_33) hr
  · show Q19 Z ta tb ka kb z g h0 n0 _ T9.heap _
    rw [e9]
    exact ⟨rfl, N9, rfl⟩
theorem ef_18 (m : MethodId) (sa : Addr) (sb : Addr) (n : Nat) (zc : Int32) (fm : Value) : entryFrame m #[(.ref sa), (.ref sb)] 3 = mkF m 0 #[.val (.ref sa), .val (.ref sb), .unset] [] := by first | (simp [entryFrame, mkF, argsToLocals, Value.category]; done) | rfl
def Q18 (Z : State) (sa : Addr) (sb : Addr) (n : Nat) (f : Nat → Int32) (zc : Int32) (fm : Value) (h0 : Heap) (n0 : Nat) (v : Option Value) (h : Heap) (L : List Loc) : Prop := v = some (.int (1 : Int32)) ∧ Fr n0 L ∧ h = h0
set_option maxRecDepth 65536 in
set_option maxHeartbeats 40000000 in
theorem rm18 (l : Launch) (Z : State) (a0 : Array Value) (hw : ∀ d ∈ tables_1, d.before a0 Z = true) (ws : List Jvm.Cond) (sa : Addr) (sb : Addr) (n : Nat) (f : Nat → Int32) (zc : Int32) (fm : Value) (h0 : Heap) (n0 : Nat) (Z0 : n0 ≤ h0.size) (O0 : Old Z n0 h0) (U0 : own_ST Z zc fm) (P0 : own_STR Z h0 sa f n) (P1 : own_STR Z h0 sb f n) (hn : n ≤ 16) :
    MetFree l (⟨"java/lang/String", "equals", "(Ljava/lang/Object;)Z"⟩ : MethodName) (head1 (Jvm.Cond.code (⟨"java/lang/String", "equals", "(Ljava/lang/Object;)Z"⟩ : MethodName) jdk_42_method_66_code 3 (some .boolean) :: ws) ({ frames := 1, cells := 0, slots := 0, locals := 14 } : Room)) (fun α υ => α = #[(.ref sa), (.ref sb)] ∧ Z.Warmed39 υ.vm ∧ υ.heap = h0) (fun _ _ _ _ _ => True) (fun _ υ ω υ' => ∃ v L, ω = .returned v ∧ Q18 Z sa sb n f zc fm h0 n0 v υ'.heap L ∧ FrameEnd υ ω υ' L ({ frames := 1, cells := 0, slots := 0, locals := 14 } : Room).cells ({ frames := 1, cells := 0, slots := 0, locals := 14 } : Room).slots) := by
  refine MetFree.of_bodySF (plainFor_of_name pn_java_lang_String) hisR ?_
  intro p e s m args below meth c s₁ Bd hml0 hP hK
  obtain ⟨rfl, hZ, hh⟩ := hP
  have hx := Bd.exec
  have hby := Bd.bytes
  have hml : c.maxLocals = 3 := hml0
  have hown : s.vm.findClass "java/lang/String" = some m.cls := findClass_of_methodNamed Bd.named
  have hnm := (name_of_methodNamed Bd.named Bd.method).1
  have X0 : Stand p l e ({ frames := 1, cells := 0, slots := 0, locals := 14 } : Room) s m #[(.ref sa), (.ref sb)] below meth c s₁ [] 0 0 := Stand.of_body Bd
  have e0 : s₁.heap = h0 := by rw [← hh, Bd.state]; rfl
  have N0 := Fr.nil n0
  have pre0 : ∀ τ, Steps p.tables e below (s₁.setTop (mkF m 0 #[.val (.ref sa), .val (.ref sb), .unset] [])) τ → Steps p.tables e below (s₁.setTop (entryFrame m #[(.ref sa), (.ref sb)] 3)) τ := fun τ κ => castTop (ef_18 m sa sb n zc fm) κ
  obtain ⟨Scs, hcs, Sad, Shi, Slo, Sfm, r_fm⟩ := id U0
  obtain ⟨ta, cd, E_a, Fva, Fca, Ba⟩ := P0
  obtain ⟨tb, cd2, E_b, Fvb, Fcb, Bb⟩ := P1
  obtain rfl := own_BYcd Ba Bb
  obtain ⟨k1, k2, z, g, hz, Va, Vb⟩ := own_BY2 hn Ba Bb
  have pre1 := fun τ (κ : Steps p.tables e below (s₁.setTop (mkF m 2 #[.val (.ref sa), .val (.ref sb), .unset] [(.ref sb), (.ref sa)])) τ) => pre0 τ (by
    refine XS.aloadN X0.here hx rfl (hb hby d18_0) rfl rfl ?_
    refine XS.aloadN X0.here hx rfl (hb hby d18_1) rfl rfl ?_
    show Steps p.tables e below (s₁.setTop (mkF m 2 #[.val (.ref sa), .val (.ref sb), .unset] [(.ref sb), (.ref sa)])) _
    exact κ)
  by_cases q1 : sa = sb
  · have pre2 := fun τ (κ : Steps p.tables e below (s₁.setTop (mkF m 6 #[.val (.ref sa), .val (.ref sb), .unset] [(.int (1 : Int32))])) τ) => pre1 τ (by
      refine Jvm.RoadKit.acmp (g := (mkF m 2 #[.val (.ref sa), .val (.ref sb), .unset] [(.ref sb), (.ref sa)])) X0 hx rfl rfl rfl (pc0 := 2) (pc' := 5) (same := true) rfl (hb hby d18_2) rfl (decide_eq_true (congrArg Value.ref q1)) (by decide) (by decide) ?_
      show Steps p.tables e below (s₁.setTop (mkF m 5 #[.val (.ref sa), .val (.ref sb), .unset] [])) _
      refine XS.iconst X0.here hx rfl (hb hby d18_5) ?_
      show Steps p.tables e below (s₁.setTop (mkF m 6 #[.val (.ref sa), .val (.ref sb), .unset] [(.int (1 : Int32))])) _
      exact κ)
    obtain ⟨fs, hr, hrun, hended, hW, hsame⟩ := X0.leave (v := some (.int (1 : Int32))) (fun h => by rw [Bd.returns] at h; cases h)
    refine ⟨_, _, pre2 _ ?_, hrun, hended, _, _, rfl, ?_, ⟨_, rfl⟩, hW, hsame.mono (by decide) (by decide)⟩
    · exact retN X0 hx (t := .boolean) Bd.returns (by simp) (hb hby d18_6) hr
    · show Q18 Z sa sb n f zc fm h0 n0 _ s₁.heap _
      rw [e0]
      exact ⟨rfl, N0, rfl⟩
  · have pre3 := fun τ (κ : Steps p.tables e below (s₁.setTop (mkF m 8 #[.val (.ref sa), .val (.ref sb), .unset] [(.ref sb)])) τ) => pre1 τ (by
      refine Jvm.RoadKit.acmp (g := (mkF m 2 #[.val (.ref sa), .val (.ref sb), .unset] [(.ref sb), (.ref sa)])) X0 hx rfl rfl rfl (pc0 := 2) (pc' := 7) (same := false) rfl (hb hby d18_2) rfl (decide_eq_false fun q => q1 (Value.ref.inj q)) (by decide) (by decide) ?_
      show Steps p.tables e below (s₁.setTop (mkF m 7 #[.val (.ref sa), .val (.ref sb), .unset] [])) _
      refine XS.aloadN X0.here hx rfl (hb hby d18_7) rfl rfl ?_
      show Steps p.tables e below (s₁.setTop (mkF m 8 #[.val (.ref sa), .val (.ref sb), .unset] [(.ref sb)])) _
      exact κ)
    obtain ⟨T4, X4, e4, st4⟩ := instY X0 hx hZ hown (hw _ (List.mem_of_getElem? (i := 90) rfl)) e0 (Ins.self E_b) (g := (mkF m 8 #[.val (.ref sa), .val (.ref sb), .unset] [(.ref sb)])) rfl rfl (hb hby d18_8)
    have pre5 := fun τ (κ : Steps p.tables e below (T4.setTop (mkF m 11 #[.val (.ref sa), .val (.ref sb), .unset] [(.int (1 : Int32))])) τ) => pre3 τ (st4 _ κ)
    have pre6 := fun τ (κ : Steps p.tables e below (T4.setTop (mkF m 15 #[.val (.ref sa), .val (.ref sb), .unset] [(.ref sb)])) τ) => pre5 τ (by
      refine XS.ifNo X4.here hx rfl (hb hby d18_11) rfl ((if0 _ _).trans (feq (by decide)).1) ?_
      show Steps p.tables e below (T4.setTop (mkF m 14 #[.val (.ref sa), .val (.ref sb), .unset] [])) _
      refine XS.aloadN X4.here hx rfl (hb hby d18_14) rfl rfl ?_
      show Steps p.tables e below (T4.setTop (mkF m 15 #[.val (.ref sa), .val (.ref sb), .unset] [(.ref sb)])) _
      exact κ)
    obtain ⟨T7, X7, e7, st7⟩ := castY X4 hx hZ hown (hw _ (List.mem_of_getElem? (i := 90) rfl)) e4 (Ins.self E_b) (g := (mkF m 15 #[.val (.ref sa), .val (.ref sb), .unset] [(.ref sb)])) rfl rfl (hb hby d18_15)
    have pre8 := fun τ (κ : Steps p.tables e below (T7.setTop (mkF m 18 #[.val (.ref sa), .val (.ref sb), .unset] [(.ref sb)])) τ) => pre6 τ (st7 _ κ)
    have pre9 := fun τ (κ : Steps p.tables e below (T7.setTop (mkF m 19 #[.val (.ref sa), .val (.ref sb), .val (.ref sb)] [])) τ) => pre8 τ (by
      refine XS.astoreN X7.here hx rfl (hb hby d18_18) rfl rfl (l' := #[.val (.ref sa), .val (.ref sb), .val (.ref sb)]) rfl ?_
      show Steps p.tables e below (T7.setTop (mkF m 19 #[.val (.ref sa), .val (.ref sb), .val (.ref sb)] [])) _
      exact κ)
    obtain ⟨T10, X10, e10, st10⟩ := getS2 X7 hx hZ hown (host := "") (Or.inl (hw _ (List.mem_of_getElem? (i := 50) rfl))) Via.refl e7 (Scs.ext O0.2) (g := (mkF m 19 #[.val (.ref sa), .val (.ref sb), .val (.ref sb)] [])) rfl (hb hby d18_19)
    have pre11 := fun τ (κ : Steps p.tables e below (T10.setTop (mkF m 22 #[.val (.ref sa), .val (.ref sb), .val (.ref sb)] [(.int zc)])) τ) => pre9 τ (st10 _ κ)
    have pre12 := fun τ (κ : Steps p.tables e below (T10.setTop (mkF m 26 #[.val (.ref sa), .val (.ref sb), .val (.ref sb)] [(.ref sa)])) τ) => pre11 τ (by
      refine XS.ifNo X10.here hx rfl (hb hby d18_22) rfl ((if0 _ _).trans (feq hcs).1) ?_
      show Steps p.tables e below (T10.setTop (mkF m 25 #[.val (.ref sa), .val (.ref sb), .val (.ref sb)] [])) _
      refine XS.aloadN X10.here hx rfl (hb hby d18_25) rfl rfl ?_
      show Steps p.tables e below (T10.setTop (mkF m 26 #[.val (.ref sa), .val (.ref sb), .val (.ref sb)] [(.ref sa)])) _
      exact κ)
    obtain ⟨T13, X13, e13, st13⟩ := getF X10 hx hZ hown (host := "") (Or.inl (hw _ (List.mem_of_getElem? (i := 30) rfl))) Via.refl e10 Fca (g := (mkF m 26 #[.val (.ref sa), .val (.ref sb), .val (.ref sb)] [(.ref sa)])) rfl rfl (hb hby d18_26)
    have pre14 := fun τ (κ : Steps p.tables e below (T13.setTop (mkF m 29 #[.val (.ref sa), .val (.ref sb), .val (.ref sb)] [(.int cd2)])) τ) => pre12 τ (st13 _ κ)
    have pre15 := fun τ (κ : Steps p.tables e below (T13.setTop (mkF m 30 #[.val (.ref sa), .val (.ref sb), .val (.ref sb)] [(.ref sb), (.int cd2)])) τ) => pre14 τ (by
      refine XS.aloadN X13.here hx rfl (hb hby d18_29) rfl rfl ?_
      show Steps p.tables e below (T13.setTop (mkF m 30 #[.val (.ref sa), .val (.ref sb), .val (.ref sb)] [(.ref sb), (.int cd2)])) _
      exact κ)
    obtain ⟨T16, X16, e16, st16⟩ := getF X13 hx hZ hown (host := "") (Or.inl (hw _ (List.mem_of_getElem? (i := 30) rfl))) Via.refl e13 Fcb (g := (mkF m 30 #[.val (.ref sa), .val (.ref sb), .val (.ref sb)] [(.ref sb), (.int cd2)])) rfl rfl (hb hby d18_30)
    have pre17 := fun τ (κ : Steps p.tables e below (T16.setTop (mkF m 33 #[.val (.ref sa), .val (.ref sb), .val (.ref sb)] [(.int cd2), (.int cd2)])) τ) => pre15 τ (st16 _ κ)
    have pre18 := fun τ (κ : Steps p.tables e below (T16.setTop (mkF m 37 #[.val (.ref sa), .val (.ref sb), .val (.ref sb)] [(.ref sa)])) τ) => pre17 τ (by
      refine XS.icmpNo X16.here hx rfl (hb hby d18_33) rfl (teq rfl).2 ?_
      show Steps p.tables e below (T16.setTop (mkF m 36 #[.val (.ref sa), .val (.ref sb), .val (.ref sb)] [])) _
      refine XS.aloadN X16.here hx rfl (hb hby d18_36) rfl rfl ?_
      show Steps p.tables e below (T16.setTop (mkF m 37 #[.val (.ref sa), .val (.ref sb), .val (.ref sb)] [(.ref sa)])) _
      exact κ)
    obtain ⟨T19, X19, e19, st19⟩ := getF X16 hx hZ hown (host := "") (Or.inl (hw _ (List.mem_of_getElem? (i := 29) rfl))) Via.refl e16 Fva (g := (mkF m 37 #[.val (.ref sa), .val (.ref sb), .val (.ref sb)] [(.ref sa)])) rfl rfl (hb hby d18_37)
    have pre20 := fun τ (κ : Steps p.tables e below (T19.setTop (mkF m 40 #[.val (.ref sa), .val (.ref sb), .val (.ref sb)] [(.ref ta)])) τ) => pre18 τ (st19 _ κ)
    have pre21 := fun τ (κ : Steps p.tables e below (T19.setTop (mkF m 41 #[.val (.ref sa), .val (.ref sb), .val (.ref sb)] [(.ref sb), (.ref ta)])) τ) => pre20 τ (by
      refine XS.aloadN X19.here hx rfl (hb hby d18_40) rfl rfl ?_
      show Steps p.tables e below (T19.setTop (mkF m 41 #[.val (.ref sa), .val (.ref sb), .val (.ref sb)] [(.ref sb), (.ref ta)])) _
      exact κ)
    obtain ⟨T22, X22, e22, st22⟩ := getF X19 hx hZ hown (host := "") (Or.inl (hw _ (List.mem_of_getElem? (i := 29) rfl))) Via.refl e19 Fvb (g := (mkF m 41 #[.val (.ref sa), .val (.ref sb), .val (.ref sb)] [(.ref sb), (.ref ta)])) rfl rfl (hb hby d18_41)
    have pre23 := fun τ (κ : Steps p.tables e below (T22.setTop (mkF m 44 #[.val (.ref sa), .val (.ref sb), .val (.ref sb)] [(.ref tb), (.ref ta)])) τ) => pre21 τ (st22 _ κ)
    obtain ⟨_, _, ⟨T24, L24, k24, n24⟩, -, X24, ⟨Lc24, hQ24, l24, y24, z24⟩, st24⟩ := Jvm.LawKit.callS X22 hx (y := (⟨"java/lang/StringLatin1", "equals", "([B[B)Z"⟩ : MethodName)) hown (mvT hZ (hw _ (List.mem_of_getElem? (i := 91) rfl))) (mvT hZ (hw _ (List.mem_of_getElem? (i := 92) rfl))) (mvT hZ (hw _ (List.mem_of_getElem? (i := 63) rfl))) (mvT hZ (hw _ (List.mem_of_getElem? (i := 93) rfl))) (by decide) (backOf (W := 0) (rm19 l Z a0 hw [] ta tb k1 k2 z g h0 n0 Z0 hz Va Vb) hZ (hw _ (List.mem_of_getElem? (i := 93) rfl)) (hw _ (List.mem_of_getElem? (i := 63) rfl)) (Nat.le_of_ble_eq_true rfl) (Nat.le_of_ble_eq_true rfl)) (g := (mkF m 44 #[.val (.ref sa), .val (.ref sb), .val (.ref sb)] [(.ref tb), (.ref ta)])) rfl (by rw [hml]; rfl) (argsL := [(.ref ta), (.ref tb)]) (rest := []) (lenOf pd_26 rfl) rfl (by show 2 * 0 + _ ≤ _; exact Nat.le_of_eq rfl) (hb hby d18_44) (fun _ _ => ⟨rfl, e22, (by decide : 0 + 0 ≤ _), (by decide : 0 + 0 ≤ _)⟩)
    dsimp only [Pt.U, Pt.locs, Pt.cells, Pt.slots] at X24 l24 y24 z24 st24 hQ24
    subst l24 y24 z24
    obtain ⟨rfl, Nq24, hh24⟩ := hQ24
    have O0_24 : Old Z n0 T24.heap := by rw [hh24]; exact O0
    have E_a_24 : Exa Z T24.heap sa "java/lang/String" := by rw [hh24]; exact E_a
    have Fva_24 : Fld Z T24.heap sa "java/lang/String" "value" "[B" (.ref ta) := by rw [hh24]; exact Fva
    have Fca_24 : Fld Z T24.heap sa "java/lang/String" "coder" "B" (.int cd2) := by rw [hh24]; exact Fca
    have E_b_24 : Exa Z T24.heap sb "java/lang/String" := by rw [hh24]; exact E_b
    have Fvb_24 : Fld Z T24.heap sb "java/lang/String" "value" "[B" (.ref tb) := by rw [hh24]; exact Fvb
    have Fcb_24 : Fld Z T24.heap sb "java/lang/String" "coder" "B" (.int cd2) := by rw [hh24]; exact Fcb
    have Va_24 : Arv Z T24.heap ta k1 .byte (Int32.ofNat z) (own_tab g (z)) (.int (0 : Int32)) := by rw [hh24]; exact Va
    have Vb_24 : Arv Z T24.heap tb k2 .byte (Int32.ofNat z) (own_tab g (z)) (.int (0 : Int32)) := by rw [hh24]; exact Vb
    have Z24 : n0 ≤ T24.heap.size := by rw [hh24]; exact Z0
    have N24 := Fr.app N0 Nq24
    have pre25 := fun τ (κ : Steps p.tables e below (T24.setTop (mkF m 47 #[.val (.ref sa), .val (.ref sb), .val (.ref sb)] [(.int (1 : Int32))])) τ) => pre23 τ (st24 _ κ)
    have pre26 := fun τ (κ : Steps p.tables e below (T24.setTop (mkF m 55 #[.val (.ref sa), .val (.ref sb), .val (.ref sb)] [(.int (1 : Int32))])) τ) => pre25 τ (by
      refine XS.ifNo X24.here hx rfl (hb hby d18_47) rfl ((if0 _ _).trans (feq (by decide)).1) ?_
      show Steps p.tables e below (T24.setTop (mkF m 50 #[.val (.ref sa), .val (.ref sb), .val (.ref sb)] [])) _
      refine XS.iconst X24.here hx rfl (hb hby d18_50) ?_
      refine XS.goto X24.here hx rfl (pc0 := 51) (pc' := 55) rfl (hb hby d18_51) (by decide) (by decide) ?_
      show Steps p.tables e below (T24.setTop (mkF m 55 #[.val (.ref sa), .val (.ref sb), .val (.ref sb)] [(.int (1 : Int32))])) _
      exact κ)
    obtain ⟨fs, hr, hrun, hended, hW, hsame⟩ := X24.leave (v := some (.int (1 : Int32))) (fun h => by rw [Bd.returns] at h; cases h)
    refine ⟨_, _, pre26 _ ?_, hrun, hended, _, _, rfl, ?_, ⟨_, rfl⟩, hW, hsame.mono (by decide) (by decide)⟩
    · exact retN X24 hx (t := .boolean) Bd.returns (by simp) (hb hby d18_55) hr
    · show Q18 Z sa sb n f zc fm h0 n0 _ T24.heap _
      exact ⟨rfl, N24, hh24⟩
theorem ef_0 (m : MethodId) (i0 : Int32) (i1 : Int32) (i2 : Int32) (i3 : Int32) (i4 : Int32) (zc : Int32) (fm : Value) : entryFrame m #[(.int i0), (.int i1), (.int i2), (.int i3), (.int i4)] maxLocals = mkF m 0 #[.val (.int i0), .val (.int i1), .val (.int i2), .val (.int i3), .val (.int i4), .unset, .unset, .unset, .unset, .unset, .unset, .unset, .unset, .unset] [] := by first | (simp [entryFrame, mkF, argsToLocals, Value.category, maxLocals]; done) | rfl
def Q0 (Z : State) (i0 : Int32) (i1 : Int32) (i2 : Int32) (i3 : Int32) (i4 : Int32) (zc : Int32) (fm : Value) (h0 : Heap) (n0 : Nat) (v : Option Value) (h : Heap) (L : List Loc) : Prop := v = some (.int 1) ∧ Fr n0 L
set_option maxRecDepth 65536 in
set_option maxHeartbeats 40000000 in
theorem rm0 (l : Launch) (Z : State) (a0 : Array Value) (hw : ∀ d ∈ tables_1, d.before a0 Z = true) (ws : List Jvm.Cond) (i0 : Int32) (i1 : Int32) (i2 : Int32) (i3 : Int32) (i4 : Int32) (zc : Int32) (fm : Value) (h0 : Heap) (n0 : Nat) (Z0 : n0 ≤ h0.size) (O0 : Old Z n0 h0) (U0 : own_ST Z zc fm) :
    MetFree l x (head1 (Jvm.Cond.code x code maxLocals ret :: ws) room_1) (fun α υ => α = #[(.int i0), (.int i1), (.int i2), (.int i3), (.int i4)] ∧ Z.Warmed39 υ.vm ∧ υ.heap = h0 ∧ CHv Z consts_1 υ.vm h0) (fun _ _ _ _ _ => True) (fun _ υ ω υ' => ∃ v L, ω = .returned v ∧ Q0 Z i0 i1 i2 i3 i4 zc fm h0 n0 v υ'.heap L ∧ ReturnedEndW υ ω υ' L room_1.cells room_1.slots) := by
  refine MetFree.of_bodySF (plainFor_of_name pn_com_example_tympan_tympan_xjdf_XjdfPackageFolderPinLaw) hisR ?_
  intro p e s m args below meth c s₁ Bd hml0 hP hK
  obtain ⟨rfl, hZ, hh, hC0⟩ := hP
  have hx := Bd.exec
  have hby := Bd.bytes
  have hml : c.maxLocals = 14 := hml0
  have hown : s.vm.findClass "com/example/tympan/tympan/xjdf/XjdfPackageFolderPinLaw" = some m.cls := findClass_of_methodNamed Bd.named
  have hnm := (name_of_methodNamed Bd.named Bd.method).1
  have X0 : Stand p l e room_1 s m #[(.int i0), (.int i1), (.int i2), (.int i3), (.int i4)] below meth c s₁ [] 0 0 := Stand.of_body Bd
  have e0 : s₁.heap = h0 := by rw [← hh, Bd.state]; rfl
  have N0 := Fr.nil n0
  have pre0 : ∀ τ, Steps p.tables e below (s₁.setTop (mkF m 0 #[.val (.int i0), .val (.int i1), .val (.int i2), .val (.int i3), .val (.int i4), .unset, .unset, .unset, .unset, .unset, .unset, .unset, .unset, .unset] [])) τ → Steps p.tables e below (s₁.setTop (entryFrame m #[(.int i0), (.int i1), (.int i2), (.int i3), (.int i4)] maxLocals)) τ := fun τ κ => castTop (ef_0 m i0 i1 i2 i3 i4 zc fm) κ
  have hS0 : s.Since s.vm 0 := (State.WarmedH.refl s).since 0
  have hks : 0 ≤ h0.size := Nat.zero_le _
  have hEL := own_EL hw
  have Kp0 : Keep h0 h0 [] := Keep.refl _ _
  obtain ⟨nq, hn4, en⟩ := own_n5 i0
  have pre1 := fun τ (κ : Steps p.tables e below (s₁.setTop (mkF m 6 #[.val (.int i0), .val (.int i1), .val (.int i2), .val (.int i3), .val (.int i4), .unset, .unset, .unset, .unset, .unset, .unset, .unset, .unset, .unset] [(.int ((i0 &&& (2147483647 : Int32)) % (5 : Int32)))])) τ) => pre0 τ (by
    refine XS.iloadN X0.here hx rfl (hb hby at_0) rfl ?_
    refine X0.ldcInt hx hown (mvT hZ (hw _ (List.mem_of_getElem? (i := 0) rfl))) (g := (mkF m 1 #[.val (.int i0), .val (.int i1), .val (.int i2), .val (.int i3), .val (.int i4), .unset, .unset, .unset, .unset, .unset, .unset, .unset, .unset, .unset] [(.int i0)])) rfl (hb hby at_1) _ ?_
    show Steps p.tables e below (s₁.setTop (mkF m 3 #[.val (.int i0), .val (.int i1), .val (.int i2), .val (.int i3), .val (.int i4), .unset, .unset, .unset, .unset, .unset, .unset, .unset, .unset, .unset] [(.int (2147483647 : Int32)), (.int i0)])) _
    refine XS.iand X0.here hx rfl (hb hby at_3) rfl ?_
    show Steps p.tables e below (s₁.setTop (mkF m 4 #[.val (.int i0), .val (.int i1), .val (.int i2), .val (.int i3), .val (.int i4), .unset, .unset, .unset, .unset, .unset, .unset, .unset, .unset, .unset] [(.int (i0 &&& (2147483647 : Int32)))])) _
    refine XS.iconst X0.here hx rfl (hb hby at_4) ?_
    refine iremM X0 hx rfl (hb hby at_5) rfl (by decide) ?_
    show Steps p.tables e below (s₁.setTop (mkF m 6 #[.val (.int i0), .val (.int i1), .val (.int i2), .val (.int i3), .val (.int i4), .unset, .unset, .unset, .unset, .unset, .unset, .unset, .unset, .unset] [(.int ((i0 &&& (2147483647 : Int32)) % (5 : Int32)))])) _
    exact κ)
  rw [show ((i0 &&& (2147483647 : Int32)) % (5 : Int32)) = (Int32.ofNat nq) from en] at pre1
  have pre2 := fun τ (κ : Steps p.tables e below (s₁.setTop (mkF m 9 #[.val (.int i0), .val (.int i1), .val (.int i2), .val (.int i3), .val (.int i4), .val (.int (Int32.ofNat nq)), .unset, .unset, .unset, .unset, .unset, .unset, .unset, .unset] [(.int i1)])) τ) => pre1 τ (by
    refine XS.istore X0.here hx rfl (hb hby at_6) rfl (l' := #[.val (.int i0), .val (.int i1), .val (.int i2), .val (.int i3), .val (.int i4), .val (.int (Int32.ofNat nq)), .unset, .unset, .unset, .unset, .unset, .unset, .unset, .unset]) rfl ?_
    show Steps p.tables e below (s₁.setTop (mkF m 8 #[.val (.int i0), .val (.int i1), .val (.int i2), .val (.int i3), .val (.int i4), .val (.int (Int32.ofNat nq)), .unset, .unset, .unset, .unset, .unset, .unset, .unset, .unset] [])) _
    refine XS.iloadN X0.here hx rfl (hb hby at_8) rfl ?_
    show Steps p.tables e below (s₁.setTop (mkF m 9 #[.val (.int i0), .val (.int i1), .val (.int i2), .val (.int i3), .val (.int i4), .val (.int (Int32.ofNat nq)), .unset, .unset, .unset, .unset, .unset, .unset, .unset, .unset] [(.int i1)])) _
    exact κ)
  obtain ⟨_, _, ⟨T3, L3, k3, n3⟩, -, X3, ⟨Lc3, hQ3, l3, y3, z3⟩, st3⟩ := Jvm.LawKit.callS X0 hx (y := (⟨"com/example/tympan/tympan/xjdf/XjdfPackageFolderPinLaw", "ch", "(I)C"⟩ : MethodName)) hown (mvT hZ (hw _ (List.mem_of_getElem? (i := 1) rfl))) (mvT hZ (hw _ (List.mem_of_getElem? (i := 2) rfl))) (mvT hZ (hw _ (List.mem_of_getElem? (i := 3) rfl))) (mvT hZ (hw _ (List.mem_of_getElem? (i := 4) rfl))) (by decide) (backOf (W := 0) (rm1 l Z a0 hw [] i1 h0 n0 Z0) hZ (hw _ (List.mem_of_getElem? (i := 4) rfl)) (hw _ (List.mem_of_getElem? (i := 3) rfl)) (Nat.le_of_ble_eq_true rfl) (Nat.le_of_ble_eq_true rfl)) (g := (mkF m 9 #[.val (.int i0), .val (.int i1), .val (.int i2), .val (.int i3), .val (.int i4), .val (.int (Int32.ofNat nq)), .unset, .unset, .unset, .unset, .unset, .unset, .unset, .unset] [(.int i1)])) rfl (by rw [hml]; rfl) (argsL := [(.int i1)]) (rest := []) (lenOf pd_27 rfl) rfl (by show 2 * 0 + _ ≤ _; exact Nat.le_of_eq rfl) (hb hby at_9) (fun _ _ => ⟨rfl, e0, (by decide : 0 + 0 ≤ _), (by decide : 0 + 0 ≤ _)⟩)
  dsimp only [Pt.U, Pt.locs, Pt.cells, Pt.slots] at X3 l3 y3 z3 st3 hQ3
  subst l3 y3 z3
  obtain ⟨d0, rfl, Nq3, hh3, hd0⟩ := hQ3
  have O0_3 : Old Z n0 T3.heap := by rw [hh3]; exact O0
  have Z3 : n0 ≤ T3.heap.size := by rw [hh3]; exact Z0
  have Kp3 : Keep h0 T3.heap [] := by rw [hh3]; exact Kp0
  have N3 := Fr.app N0 Nq3
  have pre4 := fun τ (κ : Steps p.tables e below (T3.setTop (mkF m 12 #[.val (.int i0), .val (.int i1), .val (.int i2), .val (.int i3), .val (.int i4), .val (.int (Int32.ofNat nq)), .unset, .unset, .unset, .unset, .unset, .unset, .unset, .unset] [(.int d0)])) τ) => pre2 τ (st3 _ κ)
  have pre5 := fun τ (κ : Steps p.tables e below (T3.setTop (mkF m 15 #[.val (.int i0), .val (.int i1), .val (.int i2), .val (.int i3), .val (.int i4), .val (.int (Int32.ofNat nq)), .val (.int d0), .unset, .unset, .unset, .unset, .unset, .unset, .unset] [(.int i2)])) τ) => pre4 τ (by
    refine XS.istore X3.here hx rfl (hb hby at_12) rfl (l' := #[.val (.int i0), .val (.int i1), .val (.int i2), .val (.int i3), .val (.int i4), .val (.int (Int32.ofNat nq)), .val (.int d0), .unset, .unset, .unset, .unset, .unset, .unset, .unset]) rfl ?_
    show Steps p.tables e below (T3.setTop (mkF m 14 #[.val (.int i0), .val (.int i1), .val (.int i2), .val (.int i3), .val (.int i4), .val (.int (Int32.ofNat nq)), .val (.int d0), .unset, .unset, .unset, .unset, .unset, .unset, .unset] [])) _
    refine XS.iloadN X3.here hx rfl (hb hby at_14) rfl ?_
    show Steps p.tables e below (T3.setTop (mkF m 15 #[.val (.int i0), .val (.int i1), .val (.int i2), .val (.int i3), .val (.int i4), .val (.int (Int32.ofNat nq)), .val (.int d0), .unset, .unset, .unset, .unset, .unset, .unset, .unset] [(.int i2)])) _
    exact κ)
  obtain ⟨_, _, ⟨T6, L6, k6, n6⟩, -, X6, ⟨Lc6, hQ6, l6, y6, z6⟩, st6⟩ := Jvm.LawKit.callS X3 hx (y := (⟨"com/example/tympan/tympan/xjdf/XjdfPackageFolderPinLaw", "ch", "(I)C"⟩ : MethodName)) hown (mvT hZ (hw _ (List.mem_of_getElem? (i := 1) rfl))) (mvT hZ (hw _ (List.mem_of_getElem? (i := 2) rfl))) (mvT hZ (hw _ (List.mem_of_getElem? (i := 3) rfl))) (mvT hZ (hw _ (List.mem_of_getElem? (i := 4) rfl))) (by decide) (backOf (W := 0) (rm1 l Z a0 hw [] i2 T3.heap n0 Z3) hZ (hw _ (List.mem_of_getElem? (i := 4) rfl)) (hw _ (List.mem_of_getElem? (i := 3) rfl)) (Nat.le_of_ble_eq_true rfl) (Nat.le_of_ble_eq_true rfl)) (g := (mkF m 15 #[.val (.int i0), .val (.int i1), .val (.int i2), .val (.int i3), .val (.int i4), .val (.int (Int32.ofNat nq)), .val (.int d0), .unset, .unset, .unset, .unset, .unset, .unset, .unset] [(.int i2)])) rfl (by rw [hml]; rfl) (argsL := [(.int i2)]) (rest := []) (lenOf pd_27 rfl) rfl (by show 2 * 0 + _ ≤ _; exact Nat.le_of_eq rfl) (hb hby at_15) (fun _ _ => ⟨rfl, rfl, (by decide : 0 + 0 ≤ _), (by decide : 0 + 0 ≤ _)⟩)
  dsimp only [Pt.U, Pt.locs, Pt.cells, Pt.slots] at X6 l6 y6 z6 st6 hQ6
  subst l6 y6 z6
  obtain ⟨d1, rfl, Nq6, hh6, hd1⟩ := hQ6
  have O0_6 : Old Z n0 T6.heap := by rw [hh6]; exact O0_3
  have Z6 : n0 ≤ T6.heap.size := by rw [hh6]; exact Z3
  have Kp6 : Keep h0 T6.heap [] := by rw [hh6]; exact Kp3
  have N6 := Fr.app N3 Nq6
  have pre7 := fun τ (κ : Steps p.tables e below (T6.setTop (mkF m 18 #[.val (.int i0), .val (.int i1), .val (.int i2), .val (.int i3), .val (.int i4), .val (.int (Int32.ofNat nq)), .val (.int d0), .unset, .unset, .unset, .unset, .unset, .unset, .unset] [(.int d1)])) τ) => pre5 τ (st6 _ κ)
  have pre8 := fun τ (κ : Steps p.tables e below (T6.setTop (mkF m 21 #[.val (.int i0), .val (.int i1), .val (.int i2), .val (.int i3), .val (.int i4), .val (.int (Int32.ofNat nq)), .val (.int d0), .val (.int d1), .unset, .unset, .unset, .unset, .unset, .unset] [(.int i3)])) τ) => pre7 τ (by
    refine XS.istore X6.here hx rfl (hb hby at_18) rfl (l' := #[.val (.int i0), .val (.int i1), .val (.int i2), .val (.int i3), .val (.int i4), .val (.int (Int32.ofNat nq)), .val (.int d0), .val (.int d1), .unset, .unset, .unset, .unset, .unset, .unset]) rfl ?_
    show Steps p.tables e below (T6.setTop (mkF m 20 #[.val (.int i0), .val (.int i1), .val (.int i2), .val (.int i3), .val (.int i4), .val (.int (Int32.ofNat nq)), .val (.int d0), .val (.int d1), .unset, .unset, .unset, .unset, .unset, .unset] [])) _
    refine XS.iloadN X6.here hx rfl (hb hby at_20) rfl ?_
    show Steps p.tables e below (T6.setTop (mkF m 21 #[.val (.int i0), .val (.int i1), .val (.int i2), .val (.int i3), .val (.int i4), .val (.int (Int32.ofNat nq)), .val (.int d0), .val (.int d1), .unset, .unset, .unset, .unset, .unset, .unset] [(.int i3)])) _
    exact κ)
  obtain ⟨_, _, ⟨T9, L9, k9, n9⟩, -, X9, ⟨Lc9, hQ9, l9, y9, z9⟩, st9⟩ := Jvm.LawKit.callS X6 hx (y := (⟨"com/example/tympan/tympan/xjdf/XjdfPackageFolderPinLaw", "ch", "(I)C"⟩ : MethodName)) hown (mvT hZ (hw _ (List.mem_of_getElem? (i := 1) rfl))) (mvT hZ (hw _ (List.mem_of_getElem? (i := 2) rfl))) (mvT hZ (hw _ (List.mem_of_getElem? (i := 3) rfl))) (mvT hZ (hw _ (List.mem_of_getElem? (i := 4) rfl))) (by decide) (backOf (W := 0) (rm1 l Z a0 hw [] i3 T6.heap n0 Z6) hZ (hw _ (List.mem_of_getElem? (i := 4) rfl)) (hw _ (List.mem_of_getElem? (i := 3) rfl)) (Nat.le_of_ble_eq_true rfl) (Nat.le_of_ble_eq_true rfl)) (g := (mkF m 21 #[.val (.int i0), .val (.int i1), .val (.int i2), .val (.int i3), .val (.int i4), .val (.int (Int32.ofNat nq)), .val (.int d0), .val (.int d1), .unset, .unset, .unset, .unset, .unset, .unset] [(.int i3)])) rfl (by rw [hml]; rfl) (argsL := [(.int i3)]) (rest := []) (lenOf pd_27 rfl) rfl (by show 2 * 0 + _ ≤ _; exact Nat.le_of_eq rfl) (hb hby at_21) (fun _ _ => ⟨rfl, rfl, (by decide : 0 + 0 ≤ _), (by decide : 0 + 0 ≤ _)⟩)
  dsimp only [Pt.U, Pt.locs, Pt.cells, Pt.slots] at X9 l9 y9 z9 st9 hQ9
  subst l9 y9 z9
  obtain ⟨d2, rfl, Nq9, hh9, hd2⟩ := hQ9
  have O0_9 : Old Z n0 T9.heap := by rw [hh9]; exact O0_6
  have Z9 : n0 ≤ T9.heap.size := by rw [hh9]; exact Z6
  have Kp9 : Keep h0 T9.heap [] := by rw [hh9]; exact Kp6
  have N9 := Fr.app N6 Nq9
  have pre10 := fun τ (κ : Steps p.tables e below (T9.setTop (mkF m 24 #[.val (.int i0), .val (.int i1), .val (.int i2), .val (.int i3), .val (.int i4), .val (.int (Int32.ofNat nq)), .val (.int d0), .val (.int d1), .unset, .unset, .unset, .unset, .unset, .unset] [(.int d2)])) τ) => pre8 τ (st9 _ κ)
  have pre11 := fun τ (κ : Steps p.tables e below (T9.setTop (mkF m 28 #[.val (.int i0), .val (.int i1), .val (.int i2), .val (.int i3), .val (.int i4), .val (.int (Int32.ofNat nq)), .val (.int d0), .val (.int d1), .val (.int d2), .unset, .unset, .unset, .unset, .unset] [(.int i4)])) τ) => pre10 τ (by
    refine XS.istore X9.here hx rfl (hb hby at_24) rfl (l' := #[.val (.int i0), .val (.int i1), .val (.int i2), .val (.int i3), .val (.int i4), .val (.int (Int32.ofNat nq)), .val (.int d0), .val (.int d1), .val (.int d2), .unset, .unset, .unset, .unset, .unset]) rfl ?_
    show Steps p.tables e below (T9.setTop (mkF m 26 #[.val (.int i0), .val (.int i1), .val (.int i2), .val (.int i3), .val (.int i4), .val (.int (Int32.ofNat nq)), .val (.int d0), .val (.int d1), .val (.int d2), .unset, .unset, .unset, .unset, .unset] [])) _
    refine XS.iload X9.here hx rfl (hb hby at_26) rfl ?_
    show Steps p.tables e below (T9.setTop (mkF m 28 #[.val (.int i0), .val (.int i1), .val (.int i2), .val (.int i3), .val (.int i4), .val (.int (Int32.ofNat nq)), .val (.int d0), .val (.int d1), .val (.int d2), .unset, .unset, .unset, .unset, .unset] [(.int i4)])) _
    exact κ)
  obtain ⟨_, _, ⟨T12, L12, k12, n12⟩, -, X12, ⟨Lc12, hQ12, l12, y12, z12⟩, st12⟩ := Jvm.LawKit.callS X9 hx (y := (⟨"com/example/tympan/tympan/xjdf/XjdfPackageFolderPinLaw", "ch", "(I)C"⟩ : MethodName)) hown (mvT hZ (hw _ (List.mem_of_getElem? (i := 1) rfl))) (mvT hZ (hw _ (List.mem_of_getElem? (i := 2) rfl))) (mvT hZ (hw _ (List.mem_of_getElem? (i := 3) rfl))) (mvT hZ (hw _ (List.mem_of_getElem? (i := 4) rfl))) (by decide) (backOf (W := 0) (rm1 l Z a0 hw [] i4 T9.heap n0 Z9) hZ (hw _ (List.mem_of_getElem? (i := 4) rfl)) (hw _ (List.mem_of_getElem? (i := 3) rfl)) (Nat.le_of_ble_eq_true rfl) (Nat.le_of_ble_eq_true rfl)) (g := (mkF m 28 #[.val (.int i0), .val (.int i1), .val (.int i2), .val (.int i3), .val (.int i4), .val (.int (Int32.ofNat nq)), .val (.int d0), .val (.int d1), .val (.int d2), .unset, .unset, .unset, .unset, .unset] [(.int i4)])) rfl (by rw [hml]; rfl) (argsL := [(.int i4)]) (rest := []) (lenOf pd_27 rfl) rfl (by show 2 * 0 + _ ≤ _; exact Nat.le_of_eq rfl) (hb hby at_28) (fun _ _ => ⟨rfl, rfl, (by decide : 0 + 0 ≤ _), (by decide : 0 + 0 ≤ _)⟩)
  dsimp only [Pt.U, Pt.locs, Pt.cells, Pt.slots] at X12 l12 y12 z12 st12 hQ12
  subst l12 y12 z12
  obtain ⟨d3, rfl, Nq12, hh12, hd3⟩ := hQ12
  have O0_12 : Old Z n0 T12.heap := by rw [hh12]; exact O0_9
  have Z12 : n0 ≤ T12.heap.size := by rw [hh12]; exact Z9
  have Kp12 : Keep h0 T12.heap [] := by rw [hh12]; exact Kp9
  have N12 := Fr.app N9 Nq12
  have pre13 := fun τ (κ : Steps p.tables e below (T12.setTop (mkF m 31 #[.val (.int i0), .val (.int i1), .val (.int i2), .val (.int i3), .val (.int i4), .val (.int (Int32.ofNat nq)), .val (.int d0), .val (.int d1), .val (.int d2), .unset, .unset, .unset, .unset, .unset] [(.int d3)])) τ) => pre11 τ (st12 _ κ)
  have pre14 := fun τ (κ : Steps p.tables e below (T12.setTop (mkF m 43 #[.val (.int i0), .val (.int i1), .val (.int i2), .val (.int i3), .val (.int i4), .val (.int (Int32.ofNat nq)), .val (.int d0), .val (.int d1), .val (.int d2), .val (.int d3), .unset, .unset, .unset, .unset] [(.int (Int32.ofNat nq)), (.int d3), (.int d2), (.int d1), (.int d0)])) τ) => pre13 τ (by
    refine XS.istore X12.here hx rfl (hb hby at_31) rfl (l' := #[.val (.int i0), .val (.int i1), .val (.int i2), .val (.int i3), .val (.int i4), .val (.int (Int32.ofNat nq)), .val (.int d0), .val (.int d1), .val (.int d2), .val (.int d3), .unset, .unset, .unset, .unset]) rfl ?_
    show Steps p.tables e below (T12.setTop (mkF m 33 #[.val (.int i0), .val (.int i1), .val (.int i2), .val (.int i3), .val (.int i4), .val (.int (Int32.ofNat nq)), .val (.int d0), .val (.int d1), .val (.int d2), .val (.int d3), .unset, .unset, .unset, .unset] [])) _
    refine XS.iload X12.here hx rfl (hb hby at_33) rfl ?_
    refine XS.iload X12.here hx rfl (hb hby at_35) rfl ?_
    refine XS.iload X12.here hx rfl (hb hby at_37) rfl ?_
    refine XS.iload X12.here hx rfl (hb hby at_39) rfl ?_
    refine XS.iload X12.here hx rfl (hb hby at_41) rfl ?_
    show Steps p.tables e below (T12.setTop (mkF m 43 #[.val (.int i0), .val (.int i1), .val (.int i2), .val (.int i3), .val (.int i4), .val (.int (Int32.ofNat nq)), .val (.int d0), .val (.int d1), .val (.int d2), .val (.int d3), .unset, .unset, .unset, .unset] [(.int (Int32.ofNat nq)), (.int d3), (.int d2), (.int d1), (.int d0)])) _
    exact κ)
  obtain ⟨_, _, ⟨T15, L15, k15, n15⟩, -, X15, hS15, gr15, ⟨Lc15, hQ15, l15, y15, z15, C15⟩, st15⟩ := callSS X12 hx (y := (⟨"com/example/tympan/tympan/xjdf/XjdfPackageFolderPinLaw", "mk", "(CCCCI)Ljava/lang/String;"⟩ : MethodName)) hown (mvT hZ (hw _ (List.mem_of_getElem? (i := 6) rfl))) (mvT hZ (hw _ (List.mem_of_getElem? (i := 7) rfl))) (mvT hZ (hw _ (List.mem_of_getElem? (i := 3) rfl))) (mvT hZ (hw _ (List.mem_of_getElem? (i := 8) rfl))) (by decide) (backOfSH (s := s) (vm0 := s.vm) (W := 0) (rm2 l Z a0 hw [] d0 d1 d2 d3 nq zc fm T12.heap n0 Z12 O0_12 U0 hd0 hd1 hd2 hd3 hn4) hZ (hw _ (List.mem_of_getElem? (i := 8) rfl)) (hw _ (List.mem_of_getElem? (i := 3) rfl)) (Nat.le_of_ble_eq_true rfl) (Nat.le_of_ble_eq_true rfl) hEL (CHv.keep Kp12 sf0 hC0)) (g := (mkF m 43 #[.val (.int i0), .val (.int i1), .val (.int i2), .val (.int i3), .val (.int i4), .val (.int (Int32.ofNat nq)), .val (.int d0), .val (.int d1), .val (.int d2), .val (.int d3), .unset, .unset, .unset, .unset] [(.int (Int32.ofNat nq)), (.int d3), (.int d2), (.int d1), (.int d0)])) rfl (by rw [hml]; rfl) (argsL := [(.int d0), (.int d1), (.int d2), (.int d3), (.int (Int32.ofNat nq))]) (rest := []) (lenOf pd_28 rfl) rfl (by show 2 * 0 + _ ≤ _; exact Nat.le_of_eq rfl) (hb hby at_43) (fun _ _ => ⟨rfl, rfl, (by decide : 0 + 4 ≤ _), (by decide : 0 + 56 ≤ _)⟩)
  dsimp only [Pt.U, Pt.locs, Pt.cells, Pt.slots] at X15 l15 y15 z15 st15 hQ15 hS15 gr15 C15
  subst l15 y15 z15
  obtain ⟨X15, hSr15, hZ, hown⟩ := rebS (s := s) (vm0 := s.vm) hS0 (Nat.zero_le _) X15 hS15 gr15 hZ hown
  have hks := Nat.le_refl T15.heap.size
  obtain ⟨sx15, hsx15⟩ : ∃ z, z = s.setVm T15.vm := ⟨_, rfl⟩
  rw [← hsx15] at X15 hZ hown
  obtain ⟨s1, rfl, Nq15, K15, P15⟩ := hQ15
  have O0_15 : Old Z n0 T15.heap := O0_12.keep K15 all0
  have Z15 : n0 ≤ T15.heap.size := Nat.le_trans Z12 K15.1
  have Kp15 : Keep h0 T15.heap [] := Kp12.trans K15 all0
  have N15 := Fr.app N12 Nq15
  have pre16 := fun τ (κ : Steps p.tables e below (T15.setTop (mkF m 46 #[.val (.int i0), .val (.int i1), .val (.int i2), .val (.int i3), .val (.int i4), .val (.int (Int32.ofNat nq)), .val (.int d0), .val (.int d1), .val (.int d2), .val (.int d3), .unset, .unset, .unset, .unset] [(.ref s1)])) τ) => pre14 τ (st15.trans κ)
  have pre17 := fun τ (κ : Steps p.tables e below (T15.setTop (mkF m 51 #[.val (.int i0), .val (.int i1), .val (.int i2), .val (.int i3), .val (.int i4), .val (.int (Int32.ofNat nq)), .val (.int d0), .val (.int d1), .val (.int d2), .val (.int d3), .val (.ref s1), .val (.int (-1 : Int32)), .unset, .unset] [])) τ) => pre16 τ (by
    refine XS.astore X15.here hx rfl (hb hby at_46) rfl rfl (l' := #[.val (.int i0), .val (.int i1), .val (.int i2), .val (.int i3), .val (.int i4), .val (.int (Int32.ofNat nq)), .val (.int d0), .val (.int d1), .val (.int d2), .val (.int d3), .val (.ref s1), .unset, .unset, .unset]) rfl ?_
    show Steps p.tables e below (T15.setTop (mkF m 48 #[.val (.int i0), .val (.int i1), .val (.int i2), .val (.int i3), .val (.int i4), .val (.int (Int32.ofNat nq)), .val (.int d0), .val (.int d1), .val (.int d2), .val (.int d3), .val (.ref s1), .unset, .unset, .unset] [])) _
    refine XS.iconst X15.here hx rfl (hb hby at_48) ?_
    refine XS.istore X15.here hx rfl (hb hby at_49) rfl (l' := #[.val (.int i0), .val (.int i1), .val (.int i2), .val (.int i3), .val (.int i4), .val (.int (Int32.ofNat nq)), .val (.int d0), .val (.int d1), .val (.int d2), .val (.int d3), .val (.ref s1), .val (.int (-1 : Int32)), .unset, .unset]) rfl ?_
    show Steps p.tables e below (T15.setTop (mkF m 51 #[.val (.int i0), .val (.int i1), .val (.int i2), .val (.int i3), .val (.int i4), .val (.int (Int32.ofNat nq)), .val (.int d0), .val (.int d1), .val (.int d2), .val (.int d3), .val (.ref s1), .val (.int (-1 : Int32)), .unset, .unset] [])) _
    exact κ)
  rw [show (-1 : Int32) = (own_dn 0) from rfl] at pre17
  have hL0 : own_LI (own_f4 d0 d1 d2 d3) (min nq 0) 0 := ⟨Nat.zero_le _, fun q => absurd q (by omega), fun j h1 h2 => absurd h2 (by omega)⟩
  have pre18 := fun τ (κ : Steps p.tables e below (T15.setTop (mkF m 53 #[.val (.int i0), .val (.int i1), .val (.int i2), .val (.int i3), .val (.int i4), .val (.int (Int32.ofNat nq)), .val (.int d0), .val (.int d1), .val (.int d2), .val (.int d3), .val (.ref s1), .val (.int (own_dn 0)), .unset, .unset] [(.int (Int32.ofNat nq))])) τ) => pre17 τ (by
    refine XS.iload X15.here hx rfl (hb hby at_51) rfl ?_
    show Steps p.tables e below (T15.setTop (mkF m 53 #[.val (.int i0), .val (.int i1), .val (.int i2), .val (.int i3), .val (.int i4), .val (.int (Int32.ofNat nq)), .val (.int d0), .val (.int d1), .val (.int d2), .val (.int d3), .val (.ref s1), .val (.int (own_dn 0)), .unset, .unset] [(.int (Int32.ofNat nq))])) _
    exact κ)
  obtain ⟨kq1, hL1, pre19⟩ : ∃ (kq1 : Nat), (own_LI (own_f4 d0 d1 d2 d3) (min nq 1) kq1) ∧ ∀ τ, Steps p.tables e below (T15.setTop (mkF m 66 #[.val (.int i0), .val (.int i1), .val (.int i2), .val (.int i3), .val (.int i4), .val (.int (Int32.ofNat nq)), .val (.int d0), .val (.int d1), .val (.int d2), .val (.int d3), .val (.ref s1), .val (.int (own_dn kq1)), .unset, .unset] [])) τ → Steps p.tables e below (s₁.setTop (entryFrame m #[(.int i0), (.int i1), (.int i2), (.int i3), (.int i4)] maxLocals)) τ := by
    by_cases u1 : (0 : Int32) < (Int32.ofNat nq)
    · have pre20 := fun τ (κ : Steps p.tables e below (T15.setTop (mkF m 60 #[.val (.int i0), .val (.int i1), .val (.int i2), .val (.int i3), .val (.int i4), .val (.int (Int32.ofNat nq)), .val (.int d0), .val (.int d1), .val (.int d2), .val (.int d3), .val (.ref s1), .val (.int (own_dn 0)), .unset, .unset] [(.int (47 : Int32)), (.int d0)])) τ) => pre18 τ (by
        refine XS.ifNo X15.here hx rfl (hb hby at_53) rfl ((if0 _ _).trans (tlt u1).2.2.2) ?_
        show Steps p.tables e below (T15.setTop (mkF m 56 #[.val (.int i0), .val (.int i1), .val (.int i2), .val (.int i3), .val (.int i4), .val (.int (Int32.ofNat nq)), .val (.int d0), .val (.int d1), .val (.int d2), .val (.int d3), .val (.ref s1), .val (.int (own_dn 0)), .unset, .unset] [])) _
        refine XS.iload X15.here hx rfl (hb hby at_56) rfl ?_
        refine XS.bipush X15.here hx rfl (hb hby at_58) ?_
        show Steps p.tables e below (T15.setTop (mkF m 60 #[.val (.int i0), .val (.int i1), .val (.int i2), .val (.int i3), .val (.int i4), .val (.int (Int32.ofNat nq)), .val (.int d0), .val (.int d1), .val (.int d2), .val (.int d3), .val (.ref s1), .val (.int (own_dn 0)), .unset, .unset] [(.int (47 : Int32)), (.int d0)])) _
        exact κ)
      by_cases u2 : d0 = (47 : Int32)
      · have pre21 := fun τ (κ : Steps p.tables e below (T15.setTop (mkF m 66 #[.val (.int i0), .val (.int i1), .val (.int i2), .val (.int i3), .val (.int i4), .val (.int (Int32.ofNat nq)), .val (.int d0), .val (.int d1), .val (.int d2), .val (.int d3), .val (.ref s1), .val (.int (0 : Int32)), .unset, .unset] [])) τ) => pre20 τ (by
          refine XS.icmpNo X15.here hx rfl (hb hby at_60) rfl (teq u2).2 ?_
          show Steps p.tables e below (T15.setTop (mkF m 63 #[.val (.int i0), .val (.int i1), .val (.int i2), .val (.int i3), .val (.int i4), .val (.int (Int32.ofNat nq)), .val (.int d0), .val (.int d1), .val (.int d2), .val (.int d3), .val (.ref s1), .val (.int (own_dn 0)), .unset, .unset] [])) _
          refine XS.iconst X15.here hx rfl (hb hby at_63) ?_
          refine XS.istore X15.here hx rfl (hb hby at_64) rfl (l' := #[.val (.int i0), .val (.int i1), .val (.int i2), .val (.int i3), .val (.int i4), .val (.int (Int32.ofNat nq)), .val (.int d0), .val (.int d1), .val (.int d2), .val (.int d3), .val (.ref s1), .val (.int (0 : Int32)), .unset, .unset]) rfl ?_
          show Steps p.tables e below (T15.setTop (mkF m 66 #[.val (.int i0), .val (.int i1), .val (.int i2), .val (.int i3), .val (.int i4), .val (.int (Int32.ofNat nq)), .val (.int d0), .val (.int d1), .val (.int d2), .val (.int d3), .val (.ref s1), .val (.int (0 : Int32)), .unset, .unset] [])) _
          exact κ)
        exact ⟨1, own_LIy (f := (own_f4 d0 d1 d2 d3)) ((own_ltN (i := 0) (by omega) (by omega)).mp u1) u2, pre21⟩
      · have pre22 := fun τ (κ : Steps p.tables e below (T15.setTop (mkF m 66 #[.val (.int i0), .val (.int i1), .val (.int i2), .val (.int i3), .val (.int i4), .val (.int (Int32.ofNat nq)), .val (.int d0), .val (.int d1), .val (.int d2), .val (.int d3), .val (.ref s1), .val (.int (own_dn 0)), .unset, .unset] [])) τ) => pre20 τ (by
          refine XS.icmpYes X15.here hx rfl (pc0 := 60) (pc' := 66) rfl (hb hby at_60) rfl (feq u2).2 (by decide) (by decide) ?_
          show Steps p.tables e below (T15.setTop (mkF m 66 #[.val (.int i0), .val (.int i1), .val (.int i2), .val (.int i3), .val (.int i4), .val (.int (Int32.ofNat nq)), .val (.int d0), .val (.int d1), .val (.int d2), .val (.int d3), .val (.ref s1), .val (.int (own_dn 0)), .unset, .unset] [])) _
          exact κ)
        exact ⟨0, own_LIn hL0 (fun _ => u2), pre22⟩
    · have pre23 := fun τ (κ : Steps p.tables e below (T15.setTop (mkF m 66 #[.val (.int i0), .val (.int i1), .val (.int i2), .val (.int i3), .val (.int i4), .val (.int (Int32.ofNat nq)), .val (.int d0), .val (.int d1), .val (.int d2), .val (.int d3), .val (.ref s1), .val (.int (own_dn 0)), .unset, .unset] [])) τ) => pre18 τ (by
        refine XS.ifYes X15.here hx rfl (pc0 := 53) (pc' := 66) rfl (hb hby at_53) rfl ((if0 _ _).trans (flt u1).2.2.2) (by decide) (by decide) ?_
        show Steps p.tables e below (T15.setTop (mkF m 66 #[.val (.int i0), .val (.int i1), .val (.int i2), .val (.int i3), .val (.int i4), .val (.int (Int32.ofNat nq)), .val (.int d0), .val (.int d1), .val (.int d2), .val (.int d3), .val (.ref s1), .val (.int (own_dn 0)), .unset, .unset] [])) _
        exact κ)
      exact ⟨0, own_LIn hL0 (fun q => absurd ((own_ltN (i := 0) (by omega) (by omega)).mpr q) u1), pre23⟩
  have pre24 := fun τ (κ : Steps p.tables e below (T15.setTop (mkF m 69 #[.val (.int i0), .val (.int i1), .val (.int i2), .val (.int i3), .val (.int i4), .val (.int (Int32.ofNat nq)), .val (.int d0), .val (.int d1), .val (.int d2), .val (.int d3), .val (.ref s1), .val (.int (own_dn kq1)), .unset, .unset] [(.int (1 : Int32)), (.int (Int32.ofNat nq))])) τ) => pre19 τ (by
    refine XS.iload X15.here hx rfl (hb hby at_66) rfl ?_
    refine XS.iconst X15.here hx rfl (hb hby at_68) ?_
    show Steps p.tables e below (T15.setTop (mkF m 69 #[.val (.int i0), .val (.int i1), .val (.int i2), .val (.int i3), .val (.int i4), .val (.int (Int32.ofNat nq)), .val (.int d0), .val (.int d1), .val (.int d2), .val (.int d3), .val (.ref s1), .val (.int (own_dn kq1)), .unset, .unset] [(.int (1 : Int32)), (.int (Int32.ofNat nq))])) _
    exact κ)
  obtain ⟨kq2, hL2, pre25⟩ : ∃ (kq2 : Nat), (own_LI (own_f4 d0 d1 d2 d3) (min nq 2) kq2) ∧ ∀ τ, Steps p.tables e below (T15.setTop (mkF m 82 #[.val (.int i0), .val (.int i1), .val (.int i2), .val (.int i3), .val (.int i4), .val (.int (Int32.ofNat nq)), .val (.int d0), .val (.int d1), .val (.int d2), .val (.int d3), .val (.ref s1), .val (.int (own_dn kq2)), .unset, .unset] [])) τ → Steps p.tables e below (s₁.setTop (entryFrame m #[(.int i0), (.int i1), (.int i2), (.int i3), (.int i4)] maxLocals)) τ := by
    by_cases u1 : (1 : Int32) < (Int32.ofNat nq)
    · have pre26 := fun τ (κ : Steps p.tables e below (T15.setTop (mkF m 76 #[.val (.int i0), .val (.int i1), .val (.int i2), .val (.int i3), .val (.int i4), .val (.int (Int32.ofNat nq)), .val (.int d0), .val (.int d1), .val (.int d2), .val (.int d3), .val (.ref s1), .val (.int (own_dn kq1)), .unset, .unset] [(.int (47 : Int32)), (.int d1)])) τ) => pre24 τ (by
        refine XS.icmpNo X15.here hx rfl (hb hby at_69) rfl (tlt u1).2.2.2 ?_
        show Steps p.tables e below (T15.setTop (mkF m 72 #[.val (.int i0), .val (.int i1), .val (.int i2), .val (.int i3), .val (.int i4), .val (.int (Int32.ofNat nq)), .val (.int d0), .val (.int d1), .val (.int d2), .val (.int d3), .val (.ref s1), .val (.int (own_dn kq1)), .unset, .unset] [])) _
        refine XS.iload X15.here hx rfl (hb hby at_72) rfl ?_
        refine XS.bipush X15.here hx rfl (hb hby at_74) ?_
        show Steps p.tables e below (T15.setTop (mkF m 76 #[.val (.int i0), .val (.int i1), .val (.int i2), .val (.int i3), .val (.int i4), .val (.int (Int32.ofNat nq)), .val (.int d0), .val (.int d1), .val (.int d2), .val (.int d3), .val (.ref s1), .val (.int (own_dn kq1)), .unset, .unset] [(.int (47 : Int32)), (.int d1)])) _
        exact κ)
      by_cases u2 : d1 = (47 : Int32)
      · have pre27 := fun τ (κ : Steps p.tables e below (T15.setTop (mkF m 82 #[.val (.int i0), .val (.int i1), .val (.int i2), .val (.int i3), .val (.int i4), .val (.int (Int32.ofNat nq)), .val (.int d0), .val (.int d1), .val (.int d2), .val (.int d3), .val (.ref s1), .val (.int (1 : Int32)), .unset, .unset] [])) τ) => pre26 τ (by
          refine XS.icmpNo X15.here hx rfl (hb hby at_76) rfl (teq u2).2 ?_
          show Steps p.tables e below (T15.setTop (mkF m 79 #[.val (.int i0), .val (.int i1), .val (.int i2), .val (.int i3), .val (.int i4), .val (.int (Int32.ofNat nq)), .val (.int d0), .val (.int d1), .val (.int d2), .val (.int d3), .val (.ref s1), .val (.int (own_dn kq1)), .unset, .unset] [])) _
          refine XS.iconst X15.here hx rfl (hb hby at_79) ?_
          refine XS.istore X15.here hx rfl (hb hby at_80) rfl (l' := #[.val (.int i0), .val (.int i1), .val (.int i2), .val (.int i3), .val (.int i4), .val (.int (Int32.ofNat nq)), .val (.int d0), .val (.int d1), .val (.int d2), .val (.int d3), .val (.ref s1), .val (.int (1 : Int32)), .unset, .unset]) rfl ?_
          show Steps p.tables e below (T15.setTop (mkF m 82 #[.val (.int i0), .val (.int i1), .val (.int i2), .val (.int i3), .val (.int i4), .val (.int (Int32.ofNat nq)), .val (.int d0), .val (.int d1), .val (.int d2), .val (.int d3), .val (.ref s1), .val (.int (1 : Int32)), .unset, .unset] [])) _
          exact κ)
        exact ⟨2, own_LIy (f := (own_f4 d0 d1 d2 d3)) ((own_ltN (i := 1) (by omega) (by omega)).mp u1) u2, pre27⟩
      · have pre28 := fun τ (κ : Steps p.tables e below (T15.setTop (mkF m 82 #[.val (.int i0), .val (.int i1), .val (.int i2), .val (.int i3), .val (.int i4), .val (.int (Int32.ofNat nq)), .val (.int d0), .val (.int d1), .val (.int d2), .val (.int d3), .val (.ref s1), .val (.int (own_dn kq1)), .unset, .unset] [])) τ) => pre26 τ (by
          refine XS.icmpYes X15.here hx rfl (pc0 := 76) (pc' := 82) rfl (hb hby at_76) rfl (feq u2).2 (by decide) (by decide) ?_
          show Steps p.tables e below (T15.setTop (mkF m 82 #[.val (.int i0), .val (.int i1), .val (.int i2), .val (.int i3), .val (.int i4), .val (.int (Int32.ofNat nq)), .val (.int d0), .val (.int d1), .val (.int d2), .val (.int d3), .val (.ref s1), .val (.int (own_dn kq1)), .unset, .unset] [])) _
          exact κ)
        exact ⟨kq1, own_LIn hL1 (fun _ => u2), pre28⟩
    · have pre29 := fun τ (κ : Steps p.tables e below (T15.setTop (mkF m 82 #[.val (.int i0), .val (.int i1), .val (.int i2), .val (.int i3), .val (.int i4), .val (.int (Int32.ofNat nq)), .val (.int d0), .val (.int d1), .val (.int d2), .val (.int d3), .val (.ref s1), .val (.int (own_dn kq1)), .unset, .unset] [])) τ) => pre24 τ (by
        refine XS.icmpYes X15.here hx rfl (pc0 := 69) (pc' := 82) rfl (hb hby at_69) rfl (flt u1).2.2.2 (by decide) (by decide) ?_
        show Steps p.tables e below (T15.setTop (mkF m 82 #[.val (.int i0), .val (.int i1), .val (.int i2), .val (.int i3), .val (.int i4), .val (.int (Int32.ofNat nq)), .val (.int d0), .val (.int d1), .val (.int d2), .val (.int d3), .val (.ref s1), .val (.int (own_dn kq1)), .unset, .unset] [])) _
        exact κ)
      exact ⟨kq1, own_LIn hL1 (fun q => absurd ((own_ltN (i := 1) (by omega) (by omega)).mpr q) u1), pre29⟩
  have pre30 := fun τ (κ : Steps p.tables e below (T15.setTop (mkF m 85 #[.val (.int i0), .val (.int i1), .val (.int i2), .val (.int i3), .val (.int i4), .val (.int (Int32.ofNat nq)), .val (.int d0), .val (.int d1), .val (.int d2), .val (.int d3), .val (.ref s1), .val (.int (own_dn kq2)), .unset, .unset] [(.int (2 : Int32)), (.int (Int32.ofNat nq))])) τ) => pre25 τ (by
    refine XS.iload X15.here hx rfl (hb hby at_82) rfl ?_
    refine XS.iconst X15.here hx rfl (hb hby at_84) ?_
    show Steps p.tables e below (T15.setTop (mkF m 85 #[.val (.int i0), .val (.int i1), .val (.int i2), .val (.int i3), .val (.int i4), .val (.int (Int32.ofNat nq)), .val (.int d0), .val (.int d1), .val (.int d2), .val (.int d3), .val (.ref s1), .val (.int (own_dn kq2)), .unset, .unset] [(.int (2 : Int32)), (.int (Int32.ofNat nq))])) _
    exact κ)
  obtain ⟨kq3, hL3, pre31⟩ : ∃ (kq3 : Nat), (own_LI (own_f4 d0 d1 d2 d3) (min nq 3) kq3) ∧ ∀ τ, Steps p.tables e below (T15.setTop (mkF m 98 #[.val (.int i0), .val (.int i1), .val (.int i2), .val (.int i3), .val (.int i4), .val (.int (Int32.ofNat nq)), .val (.int d0), .val (.int d1), .val (.int d2), .val (.int d3), .val (.ref s1), .val (.int (own_dn kq3)), .unset, .unset] [])) τ → Steps p.tables e below (s₁.setTop (entryFrame m #[(.int i0), (.int i1), (.int i2), (.int i3), (.int i4)] maxLocals)) τ := by
    by_cases u1 : (2 : Int32) < (Int32.ofNat nq)
    · have pre32 := fun τ (κ : Steps p.tables e below (T15.setTop (mkF m 92 #[.val (.int i0), .val (.int i1), .val (.int i2), .val (.int i3), .val (.int i4), .val (.int (Int32.ofNat nq)), .val (.int d0), .val (.int d1), .val (.int d2), .val (.int d3), .val (.ref s1), .val (.int (own_dn kq2)), .unset, .unset] [(.int (47 : Int32)), (.int d2)])) τ) => pre30 τ (by
        refine XS.icmpNo X15.here hx rfl (hb hby at_85) rfl (tlt u1).2.2.2 ?_
        show Steps p.tables e below (T15.setTop (mkF m 88 #[.val (.int i0), .val (.int i1), .val (.int i2), .val (.int i3), .val (.int i4), .val (.int (Int32.ofNat nq)), .val (.int d0), .val (.int d1), .val (.int d2), .val (.int d3), .val (.ref s1), .val (.int (own_dn kq2)), .unset, .unset] [])) _
        refine XS.iload X15.here hx rfl (hb hby at_88) rfl ?_
        refine XS.bipush X15.here hx rfl (hb hby at_90) ?_
        show Steps p.tables e below (T15.setTop (mkF m 92 #[.val (.int i0), .val (.int i1), .val (.int i2), .val (.int i3), .val (.int i4), .val (.int (Int32.ofNat nq)), .val (.int d0), .val (.int d1), .val (.int d2), .val (.int d3), .val (.ref s1), .val (.int (own_dn kq2)), .unset, .unset] [(.int (47 : Int32)), (.int d2)])) _
        exact κ)
      by_cases u2 : d2 = (47 : Int32)
      · have pre33 := fun τ (κ : Steps p.tables e below (T15.setTop (mkF m 98 #[.val (.int i0), .val (.int i1), .val (.int i2), .val (.int i3), .val (.int i4), .val (.int (Int32.ofNat nq)), .val (.int d0), .val (.int d1), .val (.int d2), .val (.int d3), .val (.ref s1), .val (.int (2 : Int32)), .unset, .unset] [])) τ) => pre32 τ (by
          refine XS.icmpNo X15.here hx rfl (hb hby at_92) rfl (teq u2).2 ?_
          show Steps p.tables e below (T15.setTop (mkF m 95 #[.val (.int i0), .val (.int i1), .val (.int i2), .val (.int i3), .val (.int i4), .val (.int (Int32.ofNat nq)), .val (.int d0), .val (.int d1), .val (.int d2), .val (.int d3), .val (.ref s1), .val (.int (own_dn kq2)), .unset, .unset] [])) _
          refine XS.iconst X15.here hx rfl (hb hby at_95) ?_
          refine XS.istore X15.here hx rfl (hb hby at_96) rfl (l' := #[.val (.int i0), .val (.int i1), .val (.int i2), .val (.int i3), .val (.int i4), .val (.int (Int32.ofNat nq)), .val (.int d0), .val (.int d1), .val (.int d2), .val (.int d3), .val (.ref s1), .val (.int (2 : Int32)), .unset, .unset]) rfl ?_
          show Steps p.tables e below (T15.setTop (mkF m 98 #[.val (.int i0), .val (.int i1), .val (.int i2), .val (.int i3), .val (.int i4), .val (.int (Int32.ofNat nq)), .val (.int d0), .val (.int d1), .val (.int d2), .val (.int d3), .val (.ref s1), .val (.int (2 : Int32)), .unset, .unset] [])) _
          exact κ)
        exact ⟨3, own_LIy (f := (own_f4 d0 d1 d2 d3)) ((own_ltN (i := 2) (by omega) (by omega)).mp u1) u2, pre33⟩
      · have pre34 := fun τ (κ : Steps p.tables e below (T15.setTop (mkF m 98 #[.val (.int i0), .val (.int i1), .val (.int i2), .val (.int i3), .val (.int i4), .val (.int (Int32.ofNat nq)), .val (.int d0), .val (.int d1), .val (.int d2), .val (.int d3), .val (.ref s1), .val (.int (own_dn kq2)), .unset, .unset] [])) τ) => pre32 τ (by
          refine XS.icmpYes X15.here hx rfl (pc0 := 92) (pc' := 98) rfl (hb hby at_92) rfl (feq u2).2 (by decide) (by decide) ?_
          show Steps p.tables e below (T15.setTop (mkF m 98 #[.val (.int i0), .val (.int i1), .val (.int i2), .val (.int i3), .val (.int i4), .val (.int (Int32.ofNat nq)), .val (.int d0), .val (.int d1), .val (.int d2), .val (.int d3), .val (.ref s1), .val (.int (own_dn kq2)), .unset, .unset] [])) _
          exact κ)
        exact ⟨kq2, own_LIn hL2 (fun _ => u2), pre34⟩
    · have pre35 := fun τ (κ : Steps p.tables e below (T15.setTop (mkF m 98 #[.val (.int i0), .val (.int i1), .val (.int i2), .val (.int i3), .val (.int i4), .val (.int (Int32.ofNat nq)), .val (.int d0), .val (.int d1), .val (.int d2), .val (.int d3), .val (.ref s1), .val (.int (own_dn kq2)), .unset, .unset] [])) τ) => pre30 τ (by
        refine XS.icmpYes X15.here hx rfl (pc0 := 85) (pc' := 98) rfl (hb hby at_85) rfl (flt u1).2.2.2 (by decide) (by decide) ?_
        show Steps p.tables e below (T15.setTop (mkF m 98 #[.val (.int i0), .val (.int i1), .val (.int i2), .val (.int i3), .val (.int i4), .val (.int (Int32.ofNat nq)), .val (.int d0), .val (.int d1), .val (.int d2), .val (.int d3), .val (.ref s1), .val (.int (own_dn kq2)), .unset, .unset] [])) _
        exact κ)
      exact ⟨kq2, own_LIn hL2 (fun q => absurd ((own_ltN (i := 2) (by omega) (by omega)).mpr q) u1), pre35⟩
  have pre36 := fun τ (κ : Steps p.tables e below (T15.setTop (mkF m 101 #[.val (.int i0), .val (.int i1), .val (.int i2), .val (.int i3), .val (.int i4), .val (.int (Int32.ofNat nq)), .val (.int d0), .val (.int d1), .val (.int d2), .val (.int d3), .val (.ref s1), .val (.int (own_dn kq3)), .unset, .unset] [(.int (3 : Int32)), (.int (Int32.ofNat nq))])) τ) => pre31 τ (by
    refine XS.iload X15.here hx rfl (hb hby at_98) rfl ?_
    refine XS.iconst X15.here hx rfl (hb hby at_100) ?_
    show Steps p.tables e below (T15.setTop (mkF m 101 #[.val (.int i0), .val (.int i1), .val (.int i2), .val (.int i3), .val (.int i4), .val (.int (Int32.ofNat nq)), .val (.int d0), .val (.int d1), .val (.int d2), .val (.int d3), .val (.ref s1), .val (.int (own_dn kq3)), .unset, .unset] [(.int (3 : Int32)), (.int (Int32.ofNat nq))])) _
    exact κ)
  obtain ⟨kq4, hL4, pre37⟩ : ∃ (kq4 : Nat), (own_LI (own_f4 d0 d1 d2 d3) (min nq 4) kq4) ∧ ∀ τ, Steps p.tables e below (T15.setTop (mkF m 114 #[.val (.int i0), .val (.int i1), .val (.int i2), .val (.int i3), .val (.int i4), .val (.int (Int32.ofNat nq)), .val (.int d0), .val (.int d1), .val (.int d2), .val (.int d3), .val (.ref s1), .val (.int (own_dn kq4)), .unset, .unset] [])) τ → Steps p.tables e below (s₁.setTop (entryFrame m #[(.int i0), (.int i1), (.int i2), (.int i3), (.int i4)] maxLocals)) τ := by
    by_cases u1 : (3 : Int32) < (Int32.ofNat nq)
    · have pre38 := fun τ (κ : Steps p.tables e below (T15.setTop (mkF m 108 #[.val (.int i0), .val (.int i1), .val (.int i2), .val (.int i3), .val (.int i4), .val (.int (Int32.ofNat nq)), .val (.int d0), .val (.int d1), .val (.int d2), .val (.int d3), .val (.ref s1), .val (.int (own_dn kq3)), .unset, .unset] [(.int (47 : Int32)), (.int d3)])) τ) => pre36 τ (by
        refine XS.icmpNo X15.here hx rfl (hb hby at_101) rfl (tlt u1).2.2.2 ?_
        show Steps p.tables e below (T15.setTop (mkF m 104 #[.val (.int i0), .val (.int i1), .val (.int i2), .val (.int i3), .val (.int i4), .val (.int (Int32.ofNat nq)), .val (.int d0), .val (.int d1), .val (.int d2), .val (.int d3), .val (.ref s1), .val (.int (own_dn kq3)), .unset, .unset] [])) _
        refine XS.iload X15.here hx rfl (hb hby at_104) rfl ?_
        refine XS.bipush X15.here hx rfl (hb hby at_106) ?_
        show Steps p.tables e below (T15.setTop (mkF m 108 #[.val (.int i0), .val (.int i1), .val (.int i2), .val (.int i3), .val (.int i4), .val (.int (Int32.ofNat nq)), .val (.int d0), .val (.int d1), .val (.int d2), .val (.int d3), .val (.ref s1), .val (.int (own_dn kq3)), .unset, .unset] [(.int (47 : Int32)), (.int d3)])) _
        exact κ)
      by_cases u2 : d3 = (47 : Int32)
      · have pre39 := fun τ (κ : Steps p.tables e below (T15.setTop (mkF m 114 #[.val (.int i0), .val (.int i1), .val (.int i2), .val (.int i3), .val (.int i4), .val (.int (Int32.ofNat nq)), .val (.int d0), .val (.int d1), .val (.int d2), .val (.int d3), .val (.ref s1), .val (.int (3 : Int32)), .unset, .unset] [])) τ) => pre38 τ (by
          refine XS.icmpNo X15.here hx rfl (hb hby at_108) rfl (teq u2).2 ?_
          show Steps p.tables e below (T15.setTop (mkF m 111 #[.val (.int i0), .val (.int i1), .val (.int i2), .val (.int i3), .val (.int i4), .val (.int (Int32.ofNat nq)), .val (.int d0), .val (.int d1), .val (.int d2), .val (.int d3), .val (.ref s1), .val (.int (own_dn kq3)), .unset, .unset] [])) _
          refine XS.iconst X15.here hx rfl (hb hby at_111) ?_
          refine XS.istore X15.here hx rfl (hb hby at_112) rfl (l' := #[.val (.int i0), .val (.int i1), .val (.int i2), .val (.int i3), .val (.int i4), .val (.int (Int32.ofNat nq)), .val (.int d0), .val (.int d1), .val (.int d2), .val (.int d3), .val (.ref s1), .val (.int (3 : Int32)), .unset, .unset]) rfl ?_
          show Steps p.tables e below (T15.setTop (mkF m 114 #[.val (.int i0), .val (.int i1), .val (.int i2), .val (.int i3), .val (.int i4), .val (.int (Int32.ofNat nq)), .val (.int d0), .val (.int d1), .val (.int d2), .val (.int d3), .val (.ref s1), .val (.int (3 : Int32)), .unset, .unset] [])) _
          exact κ)
        exact ⟨4, own_LIy (f := (own_f4 d0 d1 d2 d3)) ((own_ltN (i := 3) (by omega) (by omega)).mp u1) u2, pre39⟩
      · have pre40 := fun τ (κ : Steps p.tables e below (T15.setTop (mkF m 114 #[.val (.int i0), .val (.int i1), .val (.int i2), .val (.int i3), .val (.int i4), .val (.int (Int32.ofNat nq)), .val (.int d0), .val (.int d1), .val (.int d2), .val (.int d3), .val (.ref s1), .val (.int (own_dn kq3)), .unset, .unset] [])) τ) => pre38 τ (by
          refine XS.icmpYes X15.here hx rfl (pc0 := 108) (pc' := 114) rfl (hb hby at_108) rfl (feq u2).2 (by decide) (by decide) ?_
          show Steps p.tables e below (T15.setTop (mkF m 114 #[.val (.int i0), .val (.int i1), .val (.int i2), .val (.int i3), .val (.int i4), .val (.int (Int32.ofNat nq)), .val (.int d0), .val (.int d1), .val (.int d2), .val (.int d3), .val (.ref s1), .val (.int (own_dn kq3)), .unset, .unset] [])) _
          exact κ)
        exact ⟨kq3, own_LIn hL3 (fun _ => u2), pre40⟩
    · have pre41 := fun τ (κ : Steps p.tables e below (T15.setTop (mkF m 114 #[.val (.int i0), .val (.int i1), .val (.int i2), .val (.int i3), .val (.int i4), .val (.int (Int32.ofNat nq)), .val (.int d0), .val (.int d1), .val (.int d2), .val (.int d3), .val (.ref s1), .val (.int (own_dn kq3)), .unset, .unset] [])) τ) => pre36 τ (by
        refine XS.icmpYes X15.here hx rfl (pc0 := 101) (pc' := 114) rfl (hb hby at_101) rfl (flt u1).2.2.2 (by decide) (by decide) ?_
        show Steps p.tables e below (T15.setTop (mkF m 114 #[.val (.int i0), .val (.int i1), .val (.int i2), .val (.int i3), .val (.int i4), .val (.int (Int32.ofNat nq)), .val (.int d0), .val (.int d1), .val (.int d2), .val (.int d3), .val (.ref s1), .val (.int (own_dn kq3)), .unset, .unset] [])) _
        exact κ)
      exact ⟨kq3, own_LIn hL3 (fun q => absurd ((own_ltN (i := 3) (by omega) (by omega)).mpr q) u1), pre41⟩
  rw [show min nq 4 = nq from by omega] at hL4
  have hk4 : kq4 ≤ nq := hL4.1
  have pre42 := fun τ (κ : Steps p.tables e below (T15.setTop (mkF m 126 #[.val (.int i0), .val (.int i1), .val (.int i2), .val (.int i3), .val (.int i4), .val (.int (Int32.ofNat nq)), .val (.int d0), .val (.int d1), .val (.int d2), .val (.int d3), .val (.ref s1), .val (.int (own_dn kq4)), .unset, .unset] [(.int ((own_dn kq4) + (1 : Int32))), (.int d3), (.int d2), (.int d1), (.int d0)])) τ) => pre37 τ (by
    refine XS.iload X15.here hx rfl (hb hby at_114) rfl ?_
    refine XS.iload X15.here hx rfl (hb hby at_116) rfl ?_
    refine XS.iload X15.here hx rfl (hb hby at_118) rfl ?_
    refine XS.iload X15.here hx rfl (hb hby at_120) rfl ?_
    refine XS.iload X15.here hx rfl (hb hby at_122) rfl ?_
    refine XS.iconst X15.here hx rfl (hb hby at_124) ?_
    refine XS.iadd X15.here hx rfl (hb hby at_125) rfl ?_
    show Steps p.tables e below (T15.setTop (mkF m 126 #[.val (.int i0), .val (.int i1), .val (.int i2), .val (.int i3), .val (.int i4), .val (.int (Int32.ofNat nq)), .val (.int d0), .val (.int d1), .val (.int d2), .val (.int d3), .val (.ref s1), .val (.int (own_dn kq4)), .unset, .unset] [(.int ((own_dn kq4) + (1 : Int32))), (.int d3), (.int d2), (.int d1), (.int d0)])) _
    exact κ)
  rw [show ((own_dn kq4) + (1 : Int32)) = (Int32.ofNat kq4) from (own_dn1 kq4)] at pre42
  rw [hsx15] at X15 hZ hown
  obtain ⟨_, _, ⟨T43, L43, k43, n43⟩, -, X43, hS43, gr43, ⟨Lc43, hQ43, l43, y43, z43, C43⟩, st43⟩ := callSS X15 hx (y := (⟨"com/example/tympan/tympan/xjdf/XjdfPackageFolderPinLaw", "mk", "(CCCCI)Ljava/lang/String;"⟩ : MethodName)) hown (mvT hZ (hw _ (List.mem_of_getElem? (i := 6) rfl))) (mvT hZ (hw _ (List.mem_of_getElem? (i := 7) rfl))) (mvT hZ (hw _ (List.mem_of_getElem? (i := 3) rfl))) (mvT hZ (hw _ (List.mem_of_getElem? (i := 8) rfl))) (by decide) (backOfSH (s := s) (vm0 := T15.vm) (W := 0) (rm2 l Z a0 hw [] d0 d1 d2 d3 kq4 zc fm T15.heap n0 Z15 O0_15 U0 hd0 hd1 hd2 hd3 (by omega)) hZ (hw _ (List.mem_of_getElem? (i := 8) rfl)) (hw _ (List.mem_of_getElem? (i := 3) rfl)) (Nat.le_of_ble_eq_true rfl) (Nat.le_of_ble_eq_true rfl) hEL C15.1) (g := (mkF m 126 #[.val (.int i0), .val (.int i1), .val (.int i2), .val (.int i3), .val (.int i4), .val (.int (Int32.ofNat nq)), .val (.int d0), .val (.int d1), .val (.int d2), .val (.int d3), .val (.ref s1), .val (.int (own_dn kq4)), .unset, .unset] [(.int (Int32.ofNat kq4)), (.int d3), (.int d2), (.int d1), (.int d0)])) rfl (by rw [hml]; rfl) (argsL := [(.int d0), (.int d1), (.int d2), (.int d3), (.int (Int32.ofNat kq4))]) (rest := []) (lenOf pd_28 rfl) rfl (by show 2 * 0 + _ ≤ _; exact Nat.le_of_eq rfl) (hb hby at_126) (fun _ _ => ⟨rfl, rfl, (by decide : 4 + 4 ≤ _), (by decide : 56 + 56 ≤ _)⟩)
  dsimp only [Pt.U, Pt.locs, Pt.cells, Pt.slots] at X43 l43 y43 z43 st43 hQ43 hS43 gr43 C43
  subst l43 y43 z43
  obtain ⟨X43, hSr43, hZ, hown⟩ := rebS (s := s) (vm0 := T15.vm) hSr15 hks X43 hS43 gr43 hZ hown
  have hks := Nat.le_refl T43.heap.size
  obtain ⟨sx43, hsx43⟩ : ∃ z, z = s.setVm T43.vm := ⟨_, rfl⟩
  rw [← hsx43] at X43 hZ hown
  obtain ⟨s2, rfl, Nq43, K43, P43⟩ := hQ43
  have O0_43 : Old Z n0 T43.heap := O0_15.keep K43 all0
  have P15_43 : own_STR Z T43.heap s1 (own_f4 d0 d1 d2 d3) nq := P15.keep K43
  have Z43 : n0 ≤ T43.heap.size := Nat.le_trans Z15 K43.1
  have N43 := Fr.app N15 Nq43
  have pre44 := fun τ (κ : Steps p.tables e below (T43.setTop (mkF m 129 #[.val (.int i0), .val (.int i1), .val (.int i2), .val (.int i3), .val (.int i4), .val (.int (Int32.ofNat nq)), .val (.int d0), .val (.int d1), .val (.int d2), .val (.int d3), .val (.ref s1), .val (.int (own_dn kq4)), .unset, .unset] [(.ref s2)])) τ) => pre42 τ (st43.trans κ)
  have pre45 := fun τ (κ : Steps p.tables e below (T43.setTop (mkF m 133 #[.val (.int i0), .val (.int i1), .val (.int i2), .val (.int i3), .val (.int i4), .val (.int (Int32.ofNat nq)), .val (.int d0), .val (.int d1), .val (.int d2), .val (.int d3), .val (.ref s1), .val (.int (own_dn kq4)), .val (.ref s2), .unset] [(.ref s1)])) τ) => pre44 τ (by
    refine XS.astore X43.here hx rfl (hb hby at_129) rfl rfl (l' := #[.val (.int i0), .val (.int i1), .val (.int i2), .val (.int i3), .val (.int i4), .val (.int (Int32.ofNat nq)), .val (.int d0), .val (.int d1), .val (.int d2), .val (.int d3), .val (.ref s1), .val (.int (own_dn kq4)), .val (.ref s2), .unset]) rfl ?_
    show Steps p.tables e below (T43.setTop (mkF m 131 #[.val (.int i0), .val (.int i1), .val (.int i2), .val (.int i3), .val (.int i4), .val (.int (Int32.ofNat nq)), .val (.int d0), .val (.int d1), .val (.int d2), .val (.int d3), .val (.ref s1), .val (.int (own_dn kq4)), .val (.ref s2), .unset] [])) _
    refine XS.aload X43.here hx rfl (hb hby at_131) rfl rfl ?_
    show Steps p.tables e below (T43.setTop (mkF m 133 #[.val (.int i0), .val (.int i1), .val (.int i2), .val (.int i3), .val (.int i4), .val (.int (Int32.ofNat nq)), .val (.int d0), .val (.int d1), .val (.int d2), .val (.int d3), .val (.ref s1), .val (.int (own_dn kq4)), .val (.ref s2), .unset] [(.ref s1)])) _
    exact κ)
  rw [hsx43] at X43 hZ hown
  obtain ⟨_, _, ⟨T46, L46, k46, n46⟩, -, X46, hS46, gr46, ⟨Lc46, hQ46, l46, y46, z46, C46⟩, st46⟩ := callSS X43 hx (y := (⟨"com/example/tympan/tympan/xjdf/XjdfPackage", "folder", "(Ljava/lang/String;)Ljava/lang/String;"⟩ : MethodName)) hown (mvT hZ (hw _ (List.mem_of_getElem? (i := 31) rfl))) (mvT hZ (hw _ (List.mem_of_getElem? (i := 32) rfl))) (mvT hZ (hw _ (List.mem_of_getElem? (i := 33) rfl))) (mvT hZ (hw _ (List.mem_of_getElem? (i := 34) rfl))) (by decide) (backOfSH (s := s) (vm0 := T43.vm) (W := 0) (rm6 l Z a0 hw [] s1 nq (own_f4 d0 d1 d2 d3) zc fm T43.heap n0 Z43 O0_43 U0 P15_43 (by omega) (fun j _ => own_f4c hd0 hd1 hd2 hd3 j)) hZ (hw _ (List.mem_of_getElem? (i := 34) rfl)) (hw _ (List.mem_of_getElem? (i := 33) rfl)) (Nat.le_of_ble_eq_true rfl) (Nat.le_of_ble_eq_true rfl) hEL C43.1) (g := (mkF m 133 #[.val (.int i0), .val (.int i1), .val (.int i2), .val (.int i3), .val (.int i4), .val (.int (Int32.ofNat nq)), .val (.int d0), .val (.int d1), .val (.int d2), .val (.int d3), .val (.ref s1), .val (.int (own_dn kq4)), .val (.ref s2), .unset] [(.ref s1)])) rfl (by rw [hml]; rfl) (argsL := [(.ref s1)]) (rest := []) (lenOf pd_29 rfl) rfl (by show 2 * 0 + _ ≤ _; exact Nat.le_of_eq rfl) (hb hby at_133) (fun _ _ => ⟨rfl, rfl, (by decide : 8 + 3 ≤ _), (by decide : 112 + 52 ≤ _)⟩)
  dsimp only [Pt.U, Pt.locs, Pt.cells, Pt.slots] at X46 l46 y46 z46 st46 hQ46 hS46 gr46 C46
  subst l46 y46 z46
  obtain ⟨X46, hSr46, hZ, hown⟩ := rebS (s := s) (vm0 := T43.vm) hSr43 hks X46 hS46 gr46 hZ hown
  have hks := Nat.le_refl T46.heap.size
  obtain ⟨sx46, hsx46⟩ : ∃ z, z = s.setVm T46.vm := ⟨_, rfl⟩
  rw [← hsx46] at X46 hZ hown
  obtain ⟨s3, k9, rfl, Nq46, K46, hli, P46⟩ := hQ46
  have O0_46 : Old Z n0 T46.heap := O0_43.keep K46 all0
  have P15_46 : own_STR Z T46.heap s1 (own_f4 d0 d1 d2 d3) nq := P15_43.keep K46
  have P43_46 : own_STR Z T46.heap s2 (own_f4 d0 d1 d2 d3) kq4 := P43.keep K46
  have Z46 : n0 ≤ T46.heap.size := Nat.le_trans Z43 K46.1
  have N46 := Fr.app N43 Nq46
  have pre47 := fun τ (κ : Steps p.tables e below (T46.setTop (mkF m 136 #[.val (.int i0), .val (.int i1), .val (.int i2), .val (.int i3), .val (.int i4), .val (.int (Int32.ofNat nq)), .val (.int d0), .val (.int d1), .val (.int d2), .val (.int d3), .val (.ref s1), .val (.int (own_dn kq4)), .val (.ref s2), .unset] [(.ref s3)])) τ) => pre45 τ (st46.trans κ)
  obtain rfl := own_LIu hL4 hli
  have E3 := P46.exa
  have pre48 := fun τ (κ : Steps p.tables e below (T46.setTop (mkF m 142 #[.val (.int i0), .val (.int i1), .val (.int i2), .val (.int i3), .val (.int i4), .val (.int (Int32.ofNat nq)), .val (.int d0), .val (.int d1), .val (.int d2), .val (.int d3), .val (.ref s1), .val (.int (own_dn kq4)), .val (.ref s2), .val (.ref s3)] [(.ref s2), (.ref s3)])) τ) => pre47 τ (by
    refine XS.astore X46.here hx rfl (hb hby at_136) rfl rfl (l' := #[.val (.int i0), .val (.int i1), .val (.int i2), .val (.int i3), .val (.int i4), .val (.int (Int32.ofNat nq)), .val (.int d0), .val (.int d1), .val (.int d2), .val (.int d3), .val (.ref s1), .val (.int (own_dn kq4)), .val (.ref s2), .val (.ref s3)]) rfl ?_
    show Steps p.tables e below (T46.setTop (mkF m 138 #[.val (.int i0), .val (.int i1), .val (.int i2), .val (.int i3), .val (.int i4), .val (.int (Int32.ofNat nq)), .val (.int d0), .val (.int d1), .val (.int d2), .val (.int d3), .val (.ref s1), .val (.int (own_dn kq4)), .val (.ref s2), .val (.ref s3)] [])) _
    refine XS.aload X46.here hx rfl (hb hby at_138) rfl rfl ?_
    refine XS.aload X46.here hx rfl (hb hby at_140) rfl rfl ?_
    show Steps p.tables e below (T46.setTop (mkF m 142 #[.val (.int i0), .val (.int i1), .val (.int i2), .val (.int i3), .val (.int i4), .val (.int (Int32.ofNat nq)), .val (.int d0), .val (.int d1), .val (.int d2), .val (.int d3), .val (.ref s1), .val (.int (own_dn kq4)), .val (.ref s2), .val (.ref s3)] [(.ref s2), (.ref s3)])) _
    exact κ)
  obtain ⟨cq49, kq49, q49a, q49b, q49c⟩ := isOf hZ rfl E3
  obtain ⟨_, _, ⟨T49, L49, k49, n49⟩, -, X49, ⟨Lc49, hQ49, l49, y49, z49⟩, st49⟩ := X46.virtualBack hx (y := (⟨"java/lang/String", "equals", "(Ljava/lang/Object;)Z"⟩ : MethodName)) (z := (⟨"java/lang/String", "equals", "(Ljava/lang/Object;)Z"⟩ : MethodName)) hown (mvT hZ (hw _ (List.mem_of_getElem? (i := 85) rfl))) (mvT hZ (hw _ (List.mem_of_getElem? (i := 86) rfl))) (notFace_of_selects (args := #[]) (mvT hZ (hw _ (List.mem_of_getElem? (i := 88) rfl)))) (mvT hZ (hw _ (List.mem_of_getElem? (i := 88) rfl))) (mvT hZ (hw _ (List.mem_of_getElem? (i := 87) rfl))) (by decide) (backOf (W := 0) (rm18 l Z a0 hw [] s3 s2 kq4 (own_f4 d0 d1 d2 d3) zc fm T46.heap n0 Z46 O0_46 U0 P46 P43_46 (by omega)) hZ (hw _ (List.mem_of_getElem? (i := 89) rfl)) (hw _ (List.mem_of_getElem? (i := 11) rfl)) (Nat.le_of_ble_eq_true rfl) (Nat.le_of_ble_eq_true rfl)) q49a q49c (g := (mkF m 142 #[.val (.int i0), .val (.int i1), .val (.int i2), .val (.int i3), .val (.int i4), .val (.int (Int32.ofNat nq)), .val (.int d0), .val (.int d1), .val (.int d2), .val (.int d3), .val (.ref s1), .val (.int (own_dn kq4)), .val (.ref s2), .val (.ref s3)] [(.ref s2), (.ref s3)])) rfl (by rw [hml]; rfl) (Steps.refl _) (argsL := [(.ref s2)]) (rest := []) (lenOf pd_30 rfl) rfl (by show 2 * 0 + _ ≤ _; exact Nat.le_of_eq rfl) (hb hby at_142) (fun _ _ => ⟨rfl, rfl, (by decide : 11 + 0 ≤ _), (by decide : 164 + 0 ≤ _)⟩)
  dsimp only [Pt.U, Pt.locs, Pt.cells, Pt.slots] at X49 l49 y49 z49 st49 hQ49
  subst l49 y49 z49
  obtain ⟨rfl, Nq49, hh49⟩ := hQ49
  have O0_49 : Old Z n0 T49.heap := by rw [hh49]; exact O0_46
  have P15_49 : own_STR Z T49.heap s1 (own_f4 d0 d1 d2 d3) nq := by rw [hh49]; exact P15_46
  have P43_49 : own_STR Z T49.heap s2 (own_f4 d0 d1 d2 d3) kq4 := by rw [hh49]; exact P43_46
  have P46_49 : own_STR Z T49.heap s3 (own_f4 d0 d1 d2 d3) kq4 := by rw [hh49]; exact P46
  have E3_49 : Exa Z T49.heap s3 "java/lang/String" := by rw [hh49]; exact E3
  have Z49 : n0 ≤ T49.heap.size := by rw [hh49]; exact Z46
  have hks : T46.heap.size ≤ T49.heap.size := by rw [hh49]; exact hks
  have N49 := Fr.app N46 Nq49
  have pre50 := fun τ (κ : Steps p.tables e below (T49.setTop (mkF m 145 #[.val (.int i0), .val (.int i1), .val (.int i2), .val (.int i3), .val (.int i4), .val (.int (Int32.ofNat nq)), .val (.int d0), .val (.int d1), .val (.int d2), .val (.int d3), .val (.ref s1), .val (.int (own_dn kq4)), .val (.ref s2), .val (.ref s3)] [(.int (1 : Int32))])) τ) => pre48 τ (st49.trans κ)
  rw [hsx46] at X49 hZ hown
  obtain ⟨fs, hr, hrun, hended, hEnd⟩ := Stand.leaveW (s := s) (vm₁ := T46.vm) X49 hSr46 hks (v := some (.int (1 : Int32))) (fun h => by rw [Bd.returns] at h; cases h)
  refine ⟨_, _, pre50 _ ?_, hrun, hended, _, _, rfl, ?_, ⟨hEnd.1, hEnd.2.1, hEnd.2.2.1, hEnd.2.2.2.mono (by decide) (by decide)⟩⟩
  · exact retN X49 hx (t := .boolean) Bd.returns (by simp) (hb hby at_145) hr
  · show Q0 Z i0 i1 i2 i3 i4 zc fm h0 n0 _ T49.heap _
    exact ⟨rfl, N49⟩

theorem own_eqs {s : State} {args : Array Value} {C n d : String} {k : Int32} (h : (Cond.eq (.static C n d) (.int k)).before args s = true) : (Term.static C n d).eval args s none [] s = some (.int k) := by
  have h' := Cond.before_iff.mp h
  obtain ⟨x, y, h1, h2, -, k2⟩ := cmp_v (Or.inl h')
  cases h2.symm.trans (Term.int_eval k)
  obtain ⟨z, rfl⟩ := k2
  have e := gotT (Cond.eq_ints h1 (Term.int_eval k)) h'
  rw [h1, e]

set_option maxRecDepth 65536 in
set_option maxHeartbeats 40000000 in
theorem comes_1 {Post : Tables → Env → Array Value → State → Outcome → State → Prop} (hpost : ∀ tb e args s v u, (limb_1_1.after args s (.returned v) u = true ∧ limb_1_2.after args s (.returned v) u = true ∧ True) → FramedW s (.returned v) u (Jvm.fieldLocs frame_1_writes args s ++ Jvm.arrayLocs frame_1_arrays args s ++ Jvm.staticLocs frame_1_statics s) 40 3264 → Post tb e args s (.returned v) u) :
    ArmFor flags0 classFile x code maxLocals ret World_1 tables_1 room_1 Calls_1 rest_1 Pre_1 Post := by
  intro l hfl _ _ p e ha hc hk s m args below hf hA hF happ hP
  obtain ⟨hcalls, hrest, hpre⟩ := hP
  obtain ⟨-, -, -, hnamed, -, -, -, hat⟩ := (Spec.applies_iff hf).mp happ
  obtain ⟨hg, hn⟩ := and_e (Cond.before_iff.mp (show (Jvm.Cond.and given_1 narrow_1).before args s = true from hpre))
  obtain ⟨gc, ga⟩ := and_e hg
  obtain ⟨ga0, gr0⟩ := and_e ga
  obtain ⟨ga1, gr1⟩ := and_e gr0
  obtain ⟨ga2, gr2⟩ := and_e gr1
  obtain ⟨ga3, gr3⟩ := and_e gr2
  obtain ⟨w0, w1, w2, w3, w4, rfl⟩ : ∃ w0 w1 w2 w3 w4 : Value, args = #[w0, w1, w2, w3, w4] := by
    have hs : args.size = 5 := by simpa [Cond.value, given_1] using gc
    obtain ⟨L⟩ := args
    match L, hs with
    | [w0, w1, w2, w3, w4], _ => exact ⟨w0, w1, w2, w3, w4, rfl⟩
  have hw := fun d (hd : d ∈ tables_1) => atoms_spec (ws := Jvm.Cond.code x code maxLocals ret :: tables_1) hat d (List.mem_cons_of_mem _ hd)
  have hfit : Fit s := fun {y c} hc i hi => by
    obtain ⟨ha, rfl⟩ := Array.getElem?_eq_some_iff.mp hc
    have q := List.all_eq_true.mp ((Array.all_eq_true_iff_forall_mem.mp hF) _ (Array.getElem_mem ha)) i (List.mem_range.mpr hi)
    simpa [Array.getElem?_eq_getElem hi] using q
  obtain ⟨hsets, hown0⟩ := atoms_of _ (rest_1_c_eq ▸ (show rest_1_c.before _ s = true from hrest))
  have n3 := not_v (Cond.before_iff.mp (hsets _ (List.mem_of_getElem? (i := 2) rfl)))
  obtain ⟨zc, ezc⟩ := is_v (Cond.before_iff.mp (hsets _ (List.mem_of_getElem? (i := 1) rfl)))
  have S8 : Sta s s.heap "java/lang/String" "COMPACT_STRINGS" "Z" (.int zc) := Sta.start ezc (Or.inl (hsets _ (List.mem_of_getElem? (i := 0) rfl)))
  have c9 : ¬ (zc = (0 : Int32)) := gotF (Cond.eq_ints ezc (Term.int_eval (0))) n3
  obtain ⟨fm, efm, rfm⟩ := isR_v (Cond.before_iff.mp (hsets _ (List.mem_of_getElem? (i := 8) rfl)))
  have U0 : own_ST s zc fm := ⟨S8, c9, Sta.start (own_eqs (hsets _ (List.mem_of_getElem? (i := 12) rfl))) (Or.inl (hsets _ (List.mem_of_getElem? (i := 11) rfl))), Sta.start (own_eqs (hsets _ (List.mem_of_getElem? (i := 15) rfl))) (Or.inl (hsets _ (List.mem_of_getElem? (i := 14) rfl))), Sta.start (own_eqs (hsets _ (List.mem_of_getElem? (i := 18) rfl))) (Or.inl (hsets _ (List.mem_of_getElem? (i := 17) rfl))), Sta.start efm (Or.inl (hsets _ (List.mem_of_getElem? (i := 7) rfl))), rfm⟩
  have hheld : CHv s consts_1 s.vm s.heap := CHv.start (own_EL hw) hcalls.1 (hsets _ (List.mem_of_getElem? (i := 2) rfl)) (hw _ (List.mem_of_getElem? (i := 24) rfl)) (hw _ (List.mem_of_getElem? (i := 10) rfl))
  obtain ⟨i0, ei0⟩ := is_v ga0
  obtain rfl : w0 = (.int i0) := Option.some.inj ei0
  obtain ⟨i1, ei1⟩ := is_v ga1
  obtain rfl : w1 = (.int i1) := Option.some.inj ei1
  obtain ⟨i2, ei2⟩ := is_v ga2
  obtain rfl : w2 = (.int i2) := Option.some.inj ei2
  obtain ⟨i3, ei3⟩ := is_v ga3
  obtain rfl : w3 = (.int i3) := Option.some.inj ei3
  obtain ⟨i4, ei4⟩ := is_v gr3
  obtain rfl : w4 = (.int i4) := Option.some.inj ei4
  obtain ⟨n, o, h1, h2, h3, _, L, rfl, ⟨rfl, N⟩, hq⟩ := rm0 l s _ hw tables_1 i0 i1 i2 i3 i4 zc fm s.heap s.heap.size (Nat.le_refl _) (Old.start s) U0 p e ha hc hk s m _ below hf ((Spec.applies_iff_loose hf).mp happ).1 ⟨rfl, State.Warmed39.refl s, rfl, hheld⟩ trivial
  refine ⟨n, _, h1, h2, h3, hpost _ _ _ _ _ _ ⟨Cond.after_iff.mpr rfl, Cond.after_iff.mpr (eq_i res_at (Term.int_eval (1)) rfl), trivial⟩ ⟨hq.1, hq.2.1, hq.2.2.1, (hq.2.2.2.sift fun y hy => Or.inr (N y hy)).mono (by decide) (by decide)⟩⟩
theorem main_1_1 : Claimed_1_1 := comes_1 fun _ _ _ _ _ _ h hF => ⟨h.1, hF⟩
theorem main_1_2 : Claimed_1_2 := comes_1 fun _ _ _ _ _ _ h hF => ⟨h.2.1, hF⟩
end Jvm.Pilot.@@N@@
namespace Jvm.Pilot.@@N@@
open Jvm Jvm.ClassFile Sem Op Lib Jvm.Free Jvm.Stand Jvm.Pilot.@@N@@.Jvm.D
/-! MADE BY PROGRAM (witnessworld.py) out of the Statement's table words and the real class files: 23 classes; the members and pool entries that the words name. The judged class is class 1, her method 3. -/
namespace start1
open Jvm.ClassFile
def u (s : String) : CpInfo := .utf8 (stringToUtf16 s)
/-- a pool by its gaps: so many unusable entries, then the entry; so many at the end -/
def gap : Nat → List CpInfo → List CpInfo
  | 0, r => r
  | n + 1, r => .unusable :: gap n r
def poolList (es : List (Nat × CpInfo)) (last : Nat) : List CpInfo := es.foldr (fun e r => gap e.1 (e.2 :: r)) (gap last [])
def pool (es : List (Nat × CpInfo)) (last : Nat) : Array CpInfo := ⟨poolList es last⟩
def fileOf (pool : Array CpInfo) (this : Nat) (attrs : Array Attribute := #[]) (ms : Array MethodInfo := #[]) (fl : Nat := 33) (sup : Nat := 0) (ifs : Array Nat := #[]) (fds : Array FieldInfo := #[]) : ClassFile where
  minorVersion := 0
  majorVersion := 65
  constantPool := pool
  accessFlags := fl
  thisClass := this
  superClass := sup
  interfaces := ifs
  fields := fds
  methods := ms
  attributes := attrs
def plain (name : String) (sup : Option ClassId) : Class where
  name := name
  kind := .ordinary
  loader := none
  accessFlags := 33
  super := sup
  interfaces := #[]
  cf := none
  fields := #[]
  methods := #[]
  instanceTypes := #[]
  staticTypes := #[]
  resolved := #[]
  callSites := []
  init := .initialized
  statics := none
  mirror := none

def pool0 : Array CpInfo := pool [(5, u "<init>"), (0, u "()V"), (1, .class_ 10), (1, u "java/lang/Object")] 113

def k0c0 : Code := { maxStack := 0, maxLocals := 1, code := object_method_1_code, exceptionTable := #[], attributes := #[] }
def k0m0 : Method := { name := "<init>", desc := "()V", sig := { parameters := [], returnType := none }, accessFlags := 1, code := some k0c0 }
/-- java/lang/Object -/
def k0 : Class := { plain "java/lang/Object" none with
  accessFlags := 33
  interfaces := #[]
  cf := some (fileOf pool0 8 #[] #[{ accessFlags := 1, nameIndex := 5, descriptorIndex := 6, attributes := #[] }] 33 0 #[] #[])
  fields := #[]
  methods := #[k0m0]
  instanceTypes := #[]
  staticTypes := #[]
  resolved := Array.replicate 124 none
  statics := none }

def pool1 : Array CpInfo := pool [(2, .class_ 4), (1, u "java/lang/Object"), (0, u "<init>"), (0, u "()V"), (0, .integer 65535), (0, .class_ 9), (0, u "java/lang/String"), (0, .methodref 8 11), (0, .nameAndType 5 12), (0, u "([C)V"), (0, .integer 2147483647), (0, .methodref 15 16), (0, .class_ 17), (0, .nameAndType 18 19), (0, u "com/example/tympan/tympan/xjdf/XjdfPackageFolderPinLaw"), (0, u "ch"), (0, u "(I)C"), (0, .methodref 15 21), (0, .nameAndType 22 23), (0, u "mk"), (0, u "(CCCCI)Ljava/lang/String;"), (0, .methodref 25 26), (0, .class_ 27), (0, .nameAndType 28 29), (0, u "com/example/tympan/tympan/xjdf/XjdfPackage"), (0, u "folder"), (0, u "(Ljava/lang/String;)Ljava/lang/String;"), (0, .methodref 8 31), (0, .nameAndType 32 33), (0, u "equals"), (0, u "(Ljava/lang/Object;)Z"), (3, u "law"), (0, u "(IIIII)Z")] 2

def k1m0 : Method := { name := "<init>", desc := "()V", sig := { parameters := [], returnType := none }, accessFlags := 1, code := none }
def k1c1 : Code := { maxStack := 2, maxLocals := 1, code := method_2_code, exceptionTable := #[], attributes := #[] }
def k1m1 : Method := { name := "ch", desc := "(I)C", sig := { parameters := [.int], returnType := some .char }, accessFlags := 10, code := some k1c1 }
def k1c2 : Code := { maxStack := 6, maxLocals := 5, code := method_3_code, exceptionTable := #[], attributes := #[] }
def k1m2 : Method := { name := "mk", desc := "(CCCCI)Ljava/lang/String;", sig := { parameters := [.char, .char, .char, .char, .int], returnType := some (.object "java/lang/String") }, accessFlags := 10, code := some k1c2 }
def k1c3 : Code := { maxStack := 6, maxLocals := 14, code := code, exceptionTable := #[], attributes := #[] }
def k1m3 : Method := { name := "law", desc := "(IIIII)Z", sig := { parameters := [.int, .int, .int, .int, .int], returnType := some .boolean }, accessFlags := 9, code := some k1c3 }
/-- com/example/tympan/tympan/xjdf/XjdfPackageFolderPinLaw -/
def k1 : Class := { plain "com/example/tympan/tympan/xjdf/XjdfPackageFolderPinLaw" (some 0) with
  accessFlags := 49
  interfaces := #[]
  cf := some (fileOf pool1 15 #[] #[{ accessFlags := 1, nameIndex := 5, descriptorIndex := 6, attributes := #[] }, { accessFlags := 10, nameIndex := 18, descriptorIndex := 19, attributes := #[] }, { accessFlags := 10, nameIndex := 22, descriptorIndex := 23, attributes := #[] }, { accessFlags := 9, nameIndex := 37, descriptorIndex := 38, attributes := #[] }] 49 2 #[] #[])
  fields := #[]
  methods := #[k1m0, k1m1, k1m2, k1m3]
  instanceTypes := #[]
  staticTypes := #[]
  resolved := Array.replicate 41 none
  statics := none }

def pool2 : Array CpInfo := pool [(1, .class_ 2), (0, u "java/io/Serializable"), (0, .class_ 4), (0, u "java/lang/Object")] 2

/-- java/io/Serializable -/
def k2 : Class := { plain "java/io/Serializable" (some 0) with
  accessFlags := 1537
  interfaces := #[]
  cf := some (fileOf pool2 1 #[] #[] 1537 3 #[] #[])
  fields := #[]
  methods := #[]
  instanceTypes := #[]
  staticTypes := #[]
  resolved := Array.replicate 7 none
  statics := none }

def pool3 : Array CpInfo := pool [(1, .class_ 2), (0, u "java/lang/Comparable"), (0, .class_ 4), (0, u "java/lang/Object")] 7

/-- java/lang/Comparable -/
def k3 : Class := { plain "java/lang/Comparable" (some 0) with
  accessFlags := 1537
  interfaces := #[]
  cf := some (fileOf pool3 1 #[] #[] 1537 3 #[] #[])
  fields := #[]
  methods := #[]
  instanceTypes := #[]
  staticTypes := #[]
  resolved := Array.replicate 12 none
  statics := none }

def pool4 : Array CpInfo := pool [(2, .class_ 4), (1, u "java/lang/CharSequence"), (42, .class_ 48), (0, u "java/lang/CharSequence$1CodePointIterator"), (10, .class_ 60), (0, u "java/lang/CharSequence$1CharIterator"), (5, .class_ 67), (0, u "java/lang/Object")] 63

/-- java/lang/CharSequence -/
def k4 : Class := { plain "java/lang/CharSequence" (some 0) with
  accessFlags := 1537
  interfaces := #[]
  cf := some (fileOf pool4 2 #[.nestMembers #[47, 59]] #[] 1537 66 #[] #[])
  fields := #[]
  methods := #[]
  instanceTypes := #[]
  staticTypes := #[]
  resolved := Array.replicate 131 none
  statics := none }

def pool5 : Array CpInfo := pool [(1, .class_ 2), (0, u "java/lang/constant/Constable"), (0, .class_ 4), (0, u "java/lang/Object")] 6

/-- java/lang/constant/Constable -/
def k5 : Class := { plain "java/lang/constant/Constable" (some 0) with
  accessFlags := 1537
  interfaces := #[]
  cf := some (fileOf pool5 1 #[] #[] 1537 3 #[] #[])
  fields := #[]
  methods := #[]
  instanceTypes := #[]
  staticTypes := #[]
  resolved := Array.replicate 11 none
  statics := none }

def pool6 : Array CpInfo := pool [(1, .class_ 2), (0, u "java/lang/constant/ConstantDesc"), (0, .class_ 4), (0, u "java/lang/Object")] 32

/-- java/lang/constant/ConstantDesc -/
def k6 : Class := { plain "java/lang/constant/ConstantDesc" (some 0) with
  accessFlags := 1537
  interfaces := #[]
  cf := some (fileOf pool6 1 #[] #[] 1537 3 #[] #[])
  fields := #[]
  methods := #[]
  instanceTypes := #[]
  staticTypes := #[]
  resolved := Array.replicate 37 none
  statics := none }

def pool7 : Array CpInfo := pool [(1, .methodref 2 3), (0, .class_ 4), (0, .nameAndType 5 6), (0, u "java/lang/Object"), (0, u "<init>"), (0, u "()V"), (0, .string 8), (0, u ""), (0, .fieldref 10 11), (0, .class_ 12), (0, .nameAndType 13 14), (0, u "java/lang/String"), (0, u "value"), (0, u "[B"), (0, .fieldref 10 16), (0, .nameAndType 17 18), (0, u "coder"), (0, u "B"), (2, u "hash"), (0, u "I"), (2, u "hashIsZero"), (0, u "Z"), (0, .methodref 10 28), (0, .nameAndType 5 29), (0, u "([CIILjava/lang/Void;)V"), (6, u "checkBoundsOffCount"), (0, u "(III)I"), (0, .fieldref 10 39), (0, .nameAndType 40 26), (0, u "COMPACT_STRINGS"), (1, .class_ 44), (1, u "java/lang/StringUTF16"), (0, u "compress"), (1, .methodref 42 48), (0, .nameAndType 49 50), (0, u "coderFromArrayLen"), (0, u "([BI)B"), (46, u "([BII)I"), (9, .class_ 109), (1, u "java/lang/StringLatin1"), (32, u "()Z"), (34, .methodref 42 178), (0, .nameAndType 45 179), (0, u "([CII)[B"), (31, u "([BB)V"), (122, u "()I"), (0, .methodref 10 336), (0, .nameAndType 17 337), (0, u "()B"), (154, .methodref 10 493), (0, .nameAndType 494 142), (0, u "isLatin1"), (10, .methodref 10 506), (0, .nameAndType 507 334), (0, u "length"), (5, u "checkFromToIndex"), (7, .methodref 10 522), (0, .nameAndType 523 524), (0, u "checkBoundsBeginEnd"), (0, u "(III)V"), (16, .methodref 107 542), (0, .nameAndType 543 544), (0, u "equals"), (0, u "([B[B)Z"), (28, u "(Ljava/lang/Object;)Z"), (1, .class_ 576), (0, u "java/lang/CharSequence"), (22, u "CASE_INSENSITIVE_ORDER"), (0, u "Ljava/util/Comparator;"), (35, u "(II)I"), (4, .methodref 10 642), (0, .nameAndType 643 636), (0, u "lastIndexOf"), (0, .methodref 107 645), (0, .nameAndType 643 97), (0, .methodref 42 645), (36, u "substring"), (0, u "(II)Ljava/lang/String;"), (0, .methodref 107 686), (0, .nameAndType 687 688), (0, u "newString"), (0, u "([BII)Ljava/lang/String;"), (0, .methodref 42 686), (75, u "(I)I"), (244, u "([C)V"), (42, .fieldref 1054 1055), (0, .class_ 1056), (0, .nameAndType 1057 1058), (0, u "jdk/internal/util/Preconditions"), (0, u "SIOOBE_FORMATTER"), (0, u "Ljava/util/function/BiFunction;"), (3, .methodref 1054 1063), (0, .nameAndType 513 1064), (0, u "(IIILjava/util/function/BiFunction;)I"), (0, .methodref 1054 1066), (0, .nameAndType 1067 1064), (0, u "checkFromIndexSize"), (33, u "serialPersistentFields"), (0, u "[Ljava/io/ObjectStreamField;"), (0, .class_ 1104), (0, u "java/lang/String$CaseInsensitiveComparator"), (1, .class_ 1107), (0, u "java/io/Serializable"), (0, .class_ 1109), (0, u "java/lang/Comparable"), (0, .class_ 1111), (0, u "java/lang/constant/Constable"), (0, .class_ 1113), (0, u "java/lang/constant/ConstantDesc"), (2, u "serialVersionUID"), (0, u "J"), (3, u "REPL"), (0, u "C"), (2, u "LATIN1"), (1, u "UTF16")] 323

def k7m0 : Method := { name := "<init>", desc := "()V", sig := { parameters := [], returnType := none }, accessFlags := 1, code := none }
def k7c1 : Code := { maxStack := 5, maxLocals := 2, code := jdk_42_method_3_code, exceptionTable := #[], attributes := #[] }
def k7m1 : Method := { name := "<init>", desc := "([C)V", sig := { parameters := [(.array .char)], returnType := none }, accessFlags := 1, code := some k7c1 }
def k7c2 : Code := { maxStack := 2, maxLocals := 1, code := jdk_42_method_54_code, exceptionTable := #[], attributes := #[] }
def k7m2 : Method := { name := "length", desc := "()I", sig := { parameters := [], returnType := some .int }, accessFlags := 1, code := some k7c2 }
def k7c3 : Code := { maxStack := 2, maxLocals := 3, code := jdk_42_method_66_code, exceptionTable := #[], attributes := #[] }
def k7m3 : Method := { name := "equals", desc := "(Ljava/lang/Object;)Z", sig := { parameters := [(.object "java/lang/Object")], returnType := some .boolean }, accessFlags := 1, code := some k7c3 }
def k7c4 : Code := { maxStack := 4, maxLocals := 2, code := jdk_42_method_82_code, exceptionTable := #[], attributes := #[] }
def k7m4 : Method := { name := "lastIndexOf", desc := "(I)I", sig := { parameters := [.int], returnType := some .int }, accessFlags := 1, code := some k7c4 }
def k7c5 : Code := { maxStack := 3, maxLocals := 3, code := jdk_42_method_83_code, exceptionTable := #[], attributes := #[] }
def k7m5 : Method := { name := "lastIndexOf", desc := "(II)I", sig := { parameters := [.int, .int], returnType := some .int }, accessFlags := 1, code := some k7c5 }
def k7c6 : Code := { maxStack := 3, maxLocals := 5, code := jdk_42_method_92_code, exceptionTable := #[], attributes := #[] }
def k7m6 : Method := { name := "substring", desc := "(II)Ljava/lang/String;", sig := { parameters := [.int, .int], returnType := some (.object "java/lang/String") }, accessFlags := 1, code := some k7c6 }
def k7c7 : Code := { maxStack := 4, maxLocals := 6, code := jdk_42_method_149_code, exceptionTable := #[], attributes := #[] }
def k7m7 : Method := { name := "<init>", desc := "([CIILjava/lang/Void;)V", sig := { parameters := [(.array .char), .int, .int, (.object "java/lang/Void")], returnType := none }, accessFlags := 2, code := some k7c7 }
def k7c8 : Code := { maxStack := 2, maxLocals := 3, code := jdk_42_method_151_code, exceptionTable := #[], attributes := #[] }
def k7m8 : Method := { name := "<init>", desc := "([BB)V", sig := { parameters := [(.array .byte), .byte], returnType := none }, accessFlags := 0, code := some k7c8 }
def k7c9 : Code := { maxStack := 1, maxLocals := 1, code := jdk_42_method_152_code, exceptionTable := #[], attributes := #[] }
def k7m9 : Method := { name := "coder", desc := "()B", sig := { parameters := [], returnType := some .byte }, accessFlags := 0, code := some k7c9 }
def k7c10 : Code := { maxStack := 1, maxLocals := 1, code := jdk_42_method_154_code, exceptionTable := #[], attributes := #[] }
def k7m10 : Method := { name := "isLatin1", desc := "()Z", sig := { parameters := [], returnType := some .boolean }, accessFlags := 0, code := some k7c10 }
def k7c11 : Code := { maxStack := 4, maxLocals := 3, code := jdk_42_method_157_code, exceptionTable := #[], attributes := #[] }
def k7m11 : Method := { name := "checkBoundsOffCount", desc := "(III)I", sig := { parameters := [.int, .int, .int], returnType := some .int }, accessFlags := 8, code := some k7c11 }
def k7c12 : Code := { maxStack := 4, maxLocals := 3, code := jdk_42_method_158_code, exceptionTable := #[], attributes := #[] }
def k7m12 : Method := { name := "checkBoundsBeginEnd", desc := "(III)V", sig := { parameters := [.int, .int, .int], returnType := none }, accessFlags := 8, code := some k7c12 }
/-- java/lang/String -/
def k7 : Class := { plain "java/lang/String" (some 0) with
  accessFlags := 49
  interfaces := #[2, 3, 4, 5, 6]
  cf := some (fileOf pool7 10 #[.nestMembers #[1103]] #[{ accessFlags := 1, nameIndex := 5, descriptorIndex := 6, attributes := #[] }, { accessFlags := 1, nameIndex := 5, descriptorIndex := 1010, attributes := #[] }, { accessFlags := 1, nameIndex := 507, descriptorIndex := 334, attributes := #[] }, { accessFlags := 1, nameIndex := 543, descriptorIndex := 573, attributes := #[] }, { accessFlags := 1, nameIndex := 643, descriptorIndex := 765, attributes := #[] }, { accessFlags := 1, nameIndex := 643, descriptorIndex := 636, attributes := #[] }, { accessFlags := 1, nameIndex := 683, descriptorIndex := 684, attributes := #[] }, { accessFlags := 2, nameIndex := 5, descriptorIndex := 29, attributes := #[] }, { accessFlags := 0, nameIndex := 5, descriptorIndex := 211, attributes := #[] }, { accessFlags := 0, nameIndex := 17, descriptorIndex := 337, attributes := #[] }, { accessFlags := 0, nameIndex := 494, descriptorIndex := 142, attributes := #[] }, { accessFlags := 8, nameIndex := 36, descriptorIndex := 37, attributes := #[] }, { accessFlags := 8, nameIndex := 523, descriptorIndex := 524, attributes := #[] }] 49 2 #[1106, 1108, 575, 1110, 1112] #[{ accessFlags := 18, nameIndex := 13, descriptorIndex := 14, attributes := #[] }, { accessFlags := 18, nameIndex := 17, descriptorIndex := 18, attributes := #[] }, { accessFlags := 2, nameIndex := 21, descriptorIndex := 22, attributes := #[] }, { accessFlags := 2, nameIndex := 25, descriptorIndex := 26, attributes := #[] }, { accessFlags := 26, nameIndex := 1116, descriptorIndex := 1117, attributes := #[] }, { accessFlags := 24, nameIndex := 40, descriptorIndex := 26, attributes := #[] }, { accessFlags := 26, nameIndex := 1101, descriptorIndex := 1102, attributes := #[] }, { accessFlags := 26, nameIndex := 1121, descriptorIndex := 1122, attributes := #[] }, { accessFlags := 25, nameIndex := 599, descriptorIndex := 600, attributes := #[] }, { accessFlags := 24, nameIndex := 1125, descriptorIndex := 18, attributes := #[] }, { accessFlags := 24, nameIndex := 1127, descriptorIndex := 18, attributes := #[] }])
  fields := #[{ name := "value", type := (.array .byte), accessFlags := 18, slot := 0, constantValue := 0 }, { name := "coder", type := .byte, accessFlags := 18, slot := 1, constantValue := 0 }, { name := "hash", type := .int, accessFlags := 2, slot := 2, constantValue := 0 }, { name := "hashIsZero", type := .boolean, accessFlags := 2, slot := 3, constantValue := 0 }, { name := "serialVersionUID", type := .long, accessFlags := 26, slot := 0, constantValue := 0 }, { name := "COMPACT_STRINGS", type := .boolean, accessFlags := 24, slot := 1, constantValue := 0 }, { name := "serialPersistentFields", type := (.array (.object "java/io/ObjectStreamField")), accessFlags := 26, slot := 2, constantValue := 0 }, { name := "REPL", type := .char, accessFlags := 26, slot := 3, constantValue := 0 }, { name := "CASE_INSENSITIVE_ORDER", type := (.object "java/util/Comparator"), accessFlags := 25, slot := 4, constantValue := 0 }, { name := "LATIN1", type := .byte, accessFlags := 24, slot := 5, constantValue := 0 }, { name := "UTF16", type := .byte, accessFlags := 24, slot := 6, constantValue := 0 }]
  methods := #[k7m0, k7m1, k7m2, k7m3, k7m4, k7m5, k7m6, k7m7, k7m8, k7m9, k7m10, k7m11, k7m12]
  instanceTypes := #[(.array .byte), .byte, .int, .boolean]
  staticTypes := #[.long, .boolean, (.array (.object "java/io/ObjectStreamField")), .char, (.object "java/util/Comparator"), .byte, .byte]
  resolved := Array.replicate 1451 none
  statics := some 0 }

def pool8 : Array CpInfo := pool [(8, .class_ 10), (1, u "com/example/tympan/tympan/xjdf/XjdfPackage"), (3, .class_ 16), (1, u "java/lang/Object"), (14, u "entries"), (0, u "Ljava/util/Map;"), (6, u "stored"), (0, u "Ljava/util/Set;"), (42, .class_ 84), (0, u "java/lang/String"), (106, .methodref 83 192), (0, .nameAndType 193 194), (0, u "lastIndexOf"), (0, u "(I)I"), (0, .methodref 83 196), (0, .nameAndType 197 198), (0, u "substring"), (0, u "(II)Ljava/lang/String;"), (65, u "folder"), (0, u "(Ljava/lang/String;)Ljava/lang/String;"), (45, u "CONTENT_TYPE"), (0, u "Ljava/lang/String;"), (3, u "ROOT_XJMF")] 43

def k8c0 : Code := { maxStack := 4, maxLocals := 1, code := prog_49_method_8_code, exceptionTable := #[], attributes := #[] }
def k8m0 : Method := { name := "folder", desc := "(Ljava/lang/String;)Ljava/lang/String;", sig := { parameters := [(.object "java/lang/String")], returnType := some (.object "java/lang/String") }, accessFlags := 8, code := some k8c0 }
/-- com/example/tympan/tympan/xjdf/XjdfPackage -/
def k8 : Class := { plain "com/example/tympan/tympan/xjdf/XjdfPackage" (some 0) with
  accessFlags := 33
  interfaces := #[]
  cf := some (fileOf pool8 8 #[] #[{ accessFlags := 8, nameIndex := 264, descriptorIndex := 265, attributes := #[] }] 33 14 #[] #[{ accessFlags := 25, nameIndex := 311, descriptorIndex := 312, attributes := #[] }, { accessFlags := 25, nameIndex := 316, descriptorIndex := 312, attributes := #[] }, { accessFlags := 18, nameIndex := 31, descriptorIndex := 32, attributes := #[] }, { accessFlags := 18, nameIndex := 39, descriptorIndex := 40, attributes := #[] }])
  fields := #[{ name := "CONTENT_TYPE", type := (.object "java/lang/String"), accessFlags := 25, slot := 0, constantValue := 0 }, { name := "ROOT_XJMF", type := (.object "java/lang/String"), accessFlags := 25, slot := 1, constantValue := 0 }, { name := "entries", type := (.object "java/util/Map"), accessFlags := 18, slot := 0, constantValue := 0 }, { name := "stored", type := (.object "java/util/Set"), accessFlags := 18, slot := 1, constantValue := 0 }]
  methods := #[k8m0]
  instanceTypes := #[(.object "java/util/Map"), (.object "java/util/Set")]
  staticTypes := #[(.object "java/lang/String"), (.object "java/lang/String")]
  resolved := Array.replicate 360 none
  statics := none }

def pool9 : Array CpInfo := pool [(1, .class_ 2), (0, u "java/lang/String"), (1, .class_ 6), (1, u "java/lang/Object"), (0, u "<init>"), (0, u "()V"), (5, .class_ 16), (1, u "java/lang/StringLatin1"), (21, .methodref 39 40), (0, .class_ 41), (0, .nameAndType 42 43), (0, u "java/lang/Math"), (0, u "min"), (0, u "(II)I"), (44, .methodref 14 89), (0, .nameAndType 90 91), (0, u "canEncode"), (0, u "(I)Z"), (20, .methodref 1 113), (0, .nameAndType 7 114), (0, u "([BB)V"), (6, u "$assertionsDisabled"), (0, u "Z"), (8, .class_ 133), (1, u "java/util/Arrays"), (17, .string 152), (0, u ""), (43, u "newString"), (0, u "([BII)Ljava/lang/String;"), (23, .class_ 223), (1, u "java/lang/StringLatin1$LinesSpliterator"), (8, .methodref 131 233), (0, .nameAndType 234 235), (0, u "copyOfRange"), (0, u "([BII)[B"), (25, u "([BII)I"), (19, u "equals"), (0, u "([B[B)Z"), (26, u "lastIndexOf"), (80, .class_ 391), (0, u "java/lang/StringLatin1$CharsSpliterator")] 3

def k9m0 : Method := { name := "<init>", desc := "()V", sig := { parameters := [], returnType := none }, accessFlags := 0, code := none }
def k9c1 : Code := { maxStack := 2, maxLocals := 1, code := jdk_43_method_4_code, exceptionTable := #[], attributes := #[] }
def k9m1 : Method := { name := "canEncode", desc := "(I)Z", sig := { parameters := [.int], returnType := some .boolean }, accessFlags := 9, code := some k9c1 }
def k9c2 : Code := { maxStack := 3, maxLocals := 3, code := jdk_43_method_13_code, exceptionTable := #[], attributes := #[] }
def k9m2 : Method := { name := "equals", desc := "([B[B)Z", sig := { parameters := [(.array .byte), (.array .byte)], returnType := some .boolean }, accessFlags := 9, code := some k9c2 }
def k9c3 : Code := { maxStack := 3, maxLocals := 4, code := jdk_43_method_27_code, exceptionTable := #[], attributes := #[] }
def k9m3 : Method := { name := "lastIndexOf", desc := "([BII)I", sig := { parameters := [(.array .byte), .int, .int], returnType := some .int }, accessFlags := 9, code := some k9c3 }
def k9c4 : Code := { maxStack := 6, maxLocals := 3, code := jdk_43_method_47_code, exceptionTable := #[], attributes := #[] }
def k9m4 : Method := { name := "newString", desc := "([BII)Ljava/lang/String;", sig := { parameters := [(.array .byte), .int, .int], returnType := some (.object "java/lang/String") }, accessFlags := 9, code := some k9c4 }
/-- java/lang/StringLatin1 -/
def k9 : Class := { plain "java/lang/StringLatin1" (some 0) with
  accessFlags := 48
  interfaces := #[]
  cf := some (fileOf pool9 14 #[.nestMembers #[390, 221]] #[{ accessFlags := 0, nameIndex := 7, descriptorIndex := 8, attributes := #[] }, { accessFlags := 9, nameIndex := 90, descriptorIndex := 91, attributes := #[] }, { accessFlags := 9, nameIndex := 281, descriptorIndex := 282, attributes := #[] }, { accessFlags := 9, nameIndex := 309, descriptorIndex := 261, attributes := #[] }, { accessFlags := 9, nameIndex := 196, descriptorIndex := 197, attributes := #[] }] 48 4 #[] #[{ accessFlags := 4120, nameIndex := 121, descriptorIndex := 122, attributes := #[] }])
  fields := #[{ name := "$assertionsDisabled", type := .boolean, accessFlags := 4120, slot := 0, constantValue := 0 }]
  methods := #[k9m0, k9m1, k9m2, k9m3, k9m4]
  instanceTypes := #[]
  staticTypes := #[.boolean]
  resolved := Array.replicate 395 none
  statics := none }

def pool10 : Array CpInfo := pool [(1, .class_ 2), (0, u "java/lang/Math"), (1, .class_ 6), (1, u "java/lang/Object"), (0, u "<init>"), (0, u "()V"), (89, .class_ 100), (1, u "java/lang/Math$RandomNumberGeneratorHolder"), (71, u "negativeZeroFloatBits"), (0, u "J"), (2, u "negativeZeroDoubleBits"), (24, u "min"), (43, u "$assertionsDisabled"), (0, u "Z"), (88, u "(II)I"), (2, u "twoToTheDoubleScaleDown"), (0, u "D"), (4, u "twoToTheDoubleScaleUp"), (9, u "E"), (3, u "PI"), (2, u "TAU"), (2, u "DEGREES_TO_RADIANS"), (0, u "RADIANS_TO_DEGREES")] 94

def k10m0 : Method := { name := "<init>", desc := "()V", sig := { parameters := [], returnType := none }, accessFlags := 2, code := none }
def k10c1 : Code := { maxStack := 2, maxLocals := 2, code := jdk_29_method_69_code, exceptionTable := #[], attributes := #[] }
def k10m1 : Method := { name := "min", desc := "(II)I", sig := { parameters := [.int, .int], returnType := some .int }, accessFlags := 9, code := some k10c1 }
/-- java/lang/Math -/
def k10 : Class := { plain "java/lang/Math" (some 0) with
  accessFlags := 49
  interfaces := #[]
  cf := some (fileOf pool10 1 #[.nestMembers #[98]] #[{ accessFlags := 2, nameIndex := 7, descriptorIndex := 8, attributes := #[] }, { accessFlags := 9, nameIndex := 201, descriptorIndex := 335, attributes := #[] }] 49 4 #[] #[{ accessFlags := 25, nameIndex := 354, descriptorIndex := 339, attributes := #[] }, { accessFlags := 25, nameIndex := 358, descriptorIndex := 339, attributes := #[] }, { accessFlags := 25, nameIndex := 361, descriptorIndex := 339, attributes := #[] }, { accessFlags := 26, nameIndex := 364, descriptorIndex := 339, attributes := #[] }, { accessFlags := 26, nameIndex := 365, descriptorIndex := 339, attributes := #[] }, { accessFlags := 26, nameIndex := 172, descriptorIndex := 173, attributes := #[] }, { accessFlags := 26, nameIndex := 176, descriptorIndex := 173, attributes := #[] }, { accessFlags := 8, nameIndex := 344, descriptorIndex := 339, attributes := #[] }, { accessFlags := 8, nameIndex := 338, descriptorIndex := 339, attributes := #[] }, { accessFlags := 4120, nameIndex := 245, descriptorIndex := 246, attributes := #[] }])
  fields := #[{ name := "E", type := .double, accessFlags := 25, slot := 0, constantValue := 0 }, { name := "PI", type := .double, accessFlags := 25, slot := 1, constantValue := 0 }, { name := "TAU", type := .double, accessFlags := 25, slot := 2, constantValue := 0 }, { name := "DEGREES_TO_RADIANS", type := .double, accessFlags := 26, slot := 3, constantValue := 0 }, { name := "RADIANS_TO_DEGREES", type := .double, accessFlags := 26, slot := 4, constantValue := 0 }, { name := "negativeZeroFloatBits", type := .long, accessFlags := 26, slot := 5, constantValue := 0 }, { name := "negativeZeroDoubleBits", type := .long, accessFlags := 26, slot := 6, constantValue := 0 }, { name := "twoToTheDoubleScaleUp", type := .double, accessFlags := 8, slot := 7, constantValue := 0 }, { name := "twoToTheDoubleScaleDown", type := .double, accessFlags := 8, slot := 8, constantValue := 0 }, { name := "$assertionsDisabled", type := .boolean, accessFlags := 4120, slot := 9, constantValue := 0 }]
  methods := #[k10m0, k10m1]
  instanceTypes := #[]
  staticTypes := #[.double, .double, .double, .double, .double, .long, .long, .double, .double, .boolean]
  resolved := Array.replicate 460 none
  statics := none }

def pool11 : Array CpInfo := pool [(2, .class_ 4), (1, u "java/lang/Object"), (0, u "<init>"), (0, u "()V"), (17, .class_ 26), (1, u "jdk/internal/util/Preconditions"), (20, u "checkFromToIndex"), (1, u "checkFromIndexSize"), (5, .class_ 56), (0, u "jdk/internal/util/Preconditions$4"), (57, .class_ 115), (0, u "jdk/internal/util/Preconditions$1"), (7, u "SIOOBE_FORMATTER"), (0, u "Ljava/util/function/BiFunction;"), (0, .class_ 126), (0, u "jdk/internal/util/Preconditions$2"), (3, u "AIOOBE_FORMATTER"), (0, .class_ 132), (0, u "jdk/internal/util/Preconditions$3"), (3, u "IOOBE_FORMATTER"), (46, u "(IIILjava/util/function/BiFunction;)I")] 10

def k11m0 : Method := { name := "<init>", desc := "()V", sig := { parameters := [], returnType := none }, accessFlags := 1, code := none }
def k11c1 : Code := { maxStack := 4, maxLocals := 4, code := jdk_41_method_12_code, exceptionTable := #[], attributes := #[] }
def k11m1 : Method := { name := "checkFromToIndex", desc := "(IIILjava/util/function/BiFunction;)I", sig := { parameters := [.int, .int, .int, (.object "java/util/function/BiFunction")], returnType := some .int }, accessFlags := 9, code := some k11c1 }
def k11c2 : Code := { maxStack := 4, maxLocals := 4, code := jdk_41_method_13_code, exceptionTable := #[], attributes := #[] }
def k11m2 : Method := { name := "checkFromIndexSize", desc := "(IIILjava/util/function/BiFunction;)I", sig := { parameters := [.int, .int, .int, (.object "java/util/function/BiFunction")], returnType := some .int }, accessFlags := 9, code := some k11c2 }
/-- jdk/internal/util/Preconditions -/
def k11 : Class := { plain "jdk/internal/util/Preconditions" (some 0) with
  accessFlags := 33
  interfaces := #[]
  cf := some (fileOf pool11 24 #[.nestMembers #[55, 131, 125, 114]] #[{ accessFlags := 1, nameIndex := 5, descriptorIndex := 6, attributes := #[] }, { accessFlags := 9, nameIndex := 47, descriptorIndex := 183, attributes := #[] }, { accessFlags := 9, nameIndex := 49, descriptorIndex := 183, attributes := #[] }] 33 2 #[] #[{ accessFlags := 25, nameIndex := 123, descriptorIndex := 124, attributes := #[] }, { accessFlags := 25, nameIndex := 130, descriptorIndex := 124, attributes := #[] }, { accessFlags := 25, nameIndex := 136, descriptorIndex := 124, attributes := #[] }])
  fields := #[{ name := "SIOOBE_FORMATTER", type := (.object "java/util/function/BiFunction"), accessFlags := 25, slot := 0, constantValue := 0 }, { name := "AIOOBE_FORMATTER", type := (.object "java/util/function/BiFunction"), accessFlags := 25, slot := 1, constantValue := 0 }, { name := "IOOBE_FORMATTER", type := (.object "java/util/function/BiFunction"), accessFlags := 25, slot := 2, constantValue := 0 }]
  methods := #[k11m0, k11m1, k11m2]
  instanceTypes := #[]
  staticTypes := #[(.object "java/util/function/BiFunction"), (.object "java/util/function/BiFunction"), (.object "java/util/function/BiFunction")]
  resolved := Array.replicate 194 none
  statics := some 1 }

def pool12 : Array CpInfo := pool [(3, .class_ 4), (0, u "java/lang/String"), (1, .class_ 8), (1, u "java/lang/Object"), (0, u "<init>"), (0, u "()V"), (0, .methodref 12 13), (0, .class_ 14), (0, .nameAndType 15 16), (0, u "java/lang/StringUTF16"), (0, u "newBytesLength"), (0, u "(I)I"), (3, .integer 1073741823), (23, .fieldref 12 45), (0, .nameAndType 46 47), (0, u "$assertionsDisabled"), (0, u "Z"), (0, .methodref 12 49), (0, .nameAndType 50 51), (0, u "length"), (0, u "([B)I"), (7, .fieldref 12 60), (0, .nameAndType 61 62), (0, u "HI_BYTE_SHIFT"), (0, u "I"), (0, .fieldref 12 64), (0, .nameAndType 65 62), (0, u "LO_BYTE_SHIFT"), (5, .methodref 12 72), (0, .nameAndType 73 74), (0, u "getChar"), (0, u "([BI)C"), (24, u "(II[B)V"), (7, .methodref 12 108), (0, .nameAndType 109 110), (0, u "newBytesFor"), (0, u "(I)[B"), (0, .methodref 12 112), (0, .nameAndType 113 114), (0, u "putChar"), (0, u "([BII)V"), (0, .methodref 12 116), (0, .nameAndType 117 118), (0, u "compress"), (0, u "([CI[BII)I"), (0, .methodref 12 120), (0, .nameAndType 121 122), (0, u "toBytes"), (0, u "([CII)[B"), (0, .methodref 12 124), (0, .nameAndType 117 125), (0, u "([BI[BII)I"), (0, .methodref 127 128), (0, .class_ 129), (0, .nameAndType 130 131), (0, u "java/util/Arrays"), (0, u "copyOfRange"), (0, u "([BII)[B"), (41, .methodref 12 174), (0, .nameAndType 175 99), (0, u "checkBoundsOffCount"), (7, .methodref 184 185), (0, .class_ 186), (0, .nameAndType 187 188), (0, u "java/lang/Math"), (0, u "min"), (0, u "(II)I"), (38, .integer 65536), (22, u "([BII)I"), (0, .fieldref 3 252), (0, .nameAndType 253 47), (0, u "COMPACT_STRINGS"), (3, .methodref 12 258), (0, .nameAndType 117 131), (0, .methodref 12 260), (0, .nameAndType 261 262), (0, u "coderFromArrayLen"), (0, u "([BI)B"), (0, .methodref 3 264), (0, .nameAndType 9 265), (0, u "([BB)V"), (15, u "(III)I"), (13, .string 296), (0, u ""), (30, u "newString"), (0, u "([BII)Ljava/lang/String;"), (40, .class_ 371), (1, u "java/lang/StringUTF16$LinesSpliterator"), (47, .methodref 3 420), (0, .nameAndType 175 281), (9, u "MAX_LENGTH"), (90, u "lastIndexOf"), (105, .class_ 628), (0, u "java/lang/StringUTF16$CodePointsSpliterator"), (0, .class_ 630), (0, u "java/lang/StringUTF16$CharsSpliterator")] 4

def k12m0 : Method := { name := "<init>", desc := "()V", sig := { parameters := [], returnType := none }, accessFlags := 0, code := none }
def k12c1 : Code := { maxStack := 1, maxLocals := 1, code := jdk_52_method_2_code, exceptionTable := #[], attributes := #[] }
def k12m1 : Method := { name := "newBytesFor", desc := "(I)[B", sig := { parameters := [.int], returnType := some (.array .byte) }, accessFlags := 9, code := some k12c1 }
def k12c2 : Code := { maxStack := 4, maxLocals := 1, code := jdk_52_method_3_code, exceptionTable := #[], attributes := #[] }
def k12m2 : Method := { name := "newBytesLength", desc := "(I)I", sig := { parameters := [.int], returnType := some .int }, accessFlags := 9, code := some k12c2 }
def k12c3 : Code := { maxStack := 4, maxLocals := 3, code := jdk_52_method_4_code, exceptionTable := #[], attributes := #[] }
def k12m3 : Method := { name := "putChar", desc := "([BII)V", sig := { parameters := [(.array .byte), .int, .int], returnType := none }, accessFlags := 8, code := some k12c3 }
def k12c4 : Code := { maxStack := 3, maxLocals := 2, code := jdk_52_method_5_code, exceptionTable := #[], attributes := #[] }
def k12m4 : Method := { name := "getChar", desc := "([BI)C", sig := { parameters := [(.array .byte), .int], returnType := some .char }, accessFlags := 8, code := some k12c4 }
def k12c5 : Code := { maxStack := 2, maxLocals := 1, code := jdk_52_method_6_code, exceptionTable := #[], attributes := #[] }
def k12m5 : Method := { name := "length", desc := "([B)I", sig := { parameters := [(.array .byte)], returnType := some .int }, accessFlags := 9, code := some k12c5 }
def k12c6 : Code := { maxStack := 4, maxLocals := 5, code := jdk_52_method_14_code, exceptionTable := #[], attributes := #[] }
def k12m6 : Method := { name := "toBytes", desc := "([CII)[B", sig := { parameters := [(.array .char), .int, .int], returnType := some (.array .byte) }, accessFlags := 9, code := some k12c6 }
def k12c7 : Code := { maxStack := 2, maxLocals := 2, code := jdk_52_method_15_code, exceptionTable := #[], attributes := #[] }
def k12m7 : Method := { name := "coderFromArrayLen", desc := "([BI)B", sig := { parameters := [(.array .byte), .int], returnType := some .byte }, accessFlags := 8, code := some k12c7 }
def k12c8 : Code := { maxStack := 5, maxLocals := 6, code := jdk_52_method_16_code, exceptionTable := #[], attributes := #[] }
def k12m8 : Method := { name := "compress", desc := "([CII)[B", sig := { parameters := [(.array .char), .int, .int], returnType := some (.array .byte) }, accessFlags := 9, code := some k12c8 }
def k12c9 : Code := { maxStack := 5, maxLocals := 6, code := jdk_52_method_17_code, exceptionTable := #[], attributes := #[] }
def k12m9 : Method := { name := "compress", desc := "([BII)[B", sig := { parameters := [(.array .byte), .int, .int], returnType := some (.array .byte) }, accessFlags := 9, code := some k12c9 }
def k12c10 : Code := { maxStack := 3, maxLocals := 7, code := jdk_52_method_21_code, exceptionTable := #[], attributes := #[] }
def k12m10 : Method := { name := "compress", desc := "([CI[BII)I", sig := { parameters := [(.array .char), .int, (.array .byte), .int, .int], returnType := some .int }, accessFlags := 9, code := some k12c10 }
def k12c11 : Code := { maxStack := 3, maxLocals := 7, code := jdk_52_method_22_code, exceptionTable := #[], attributes := #[] }
def k12m11 : Method := { name := "compress", desc := "([BI[BII)I", sig := { parameters := [(.array .byte), .int, (.array .byte), .int, .int], returnType := some .int }, accessFlags := 9, code := some k12c11 }
def k12c12 : Code := { maxStack := 3, maxLocals := 4, code := jdk_52_method_51_code, exceptionTable := #[], attributes := #[] }
def k12m12 : Method := { name := "lastIndexOf", desc := "([BII)I", sig := { parameters := [(.array .byte), .int, .int], returnType := some .int }, accessFlags := 9, code := some k12c12 }
def k12c13 : Code := { maxStack := 6, maxLocals := 5, code := jdk_52_method_69_code, exceptionTable := #[], attributes := #[] }
def k12m13 : Method := { name := "newString", desc := "([BII)Ljava/lang/String;", sig := { parameters := [(.array .byte), .int, .int], returnType := some (.object "java/lang/String") }, accessFlags := 9, code := some k12c13 }
def k12c14 : Code := { maxStack := 3, maxLocals := 3, code := jdk_52_method_94_code, exceptionTable := #[], attributes := #[] }
def k12m14 : Method := { name := "checkBoundsOffCount", desc := "(II[B)V", sig := { parameters := [.int, .int, (.array .byte)], returnType := none }, accessFlags := 9, code := some k12c14 }
/-- java/lang/StringUTF16 -/
def k12 : Class := { plain "java/lang/StringUTF16" (some 0) with
  accessFlags := 48
  interfaces := #[]
  cf := some (fileOf pool12 12 #[.nestMembers #[627, 629, 369]] #[{ accessFlags := 0, nameIndex := 9, descriptorIndex := 10, attributes := #[] }, { accessFlags := 9, nameIndex := 109, descriptorIndex := 110, attributes := #[] }, { accessFlags := 9, nameIndex := 15, descriptorIndex := 16, attributes := #[] }, { accessFlags := 8, nameIndex := 113, descriptorIndex := 114, attributes := #[] }, { accessFlags := 8, nameIndex := 73, descriptorIndex := 74, attributes := #[] }, { accessFlags := 9, nameIndex := 50, descriptorIndex := 51, attributes := #[] }, { accessFlags := 9, nameIndex := 121, descriptorIndex := 122, attributes := #[] }, { accessFlags := 8, nameIndex := 261, descriptorIndex := 262, attributes := #[] }, { accessFlags := 9, nameIndex := 117, descriptorIndex := 122, attributes := #[] }, { accessFlags := 9, nameIndex := 117, descriptorIndex := 131, attributes := #[] }, { accessFlags := 9, nameIndex := 117, descriptorIndex := 118, attributes := #[] }, { accessFlags := 9, nameIndex := 117, descriptorIndex := 125, attributes := #[] }, { accessFlags := 9, nameIndex := 521, descriptorIndex := 250, attributes := #[] }, { accessFlags := 9, nameIndex := 327, descriptorIndex := 328, attributes := #[] }, { accessFlags := 9, nameIndex := 175, descriptorIndex := 99, attributes := #[] }] 48 6 #[] #[{ accessFlags := 26, nameIndex := 61, descriptorIndex := 62, attributes := #[] }, { accessFlags := 26, nameIndex := 65, descriptorIndex := 62, attributes := #[] }, { accessFlags := 24, nameIndex := 430, descriptorIndex := 62, attributes := #[] }, { accessFlags := 4120, nameIndex := 46, descriptorIndex := 47, attributes := #[] }])
  fields := #[{ name := "HI_BYTE_SHIFT", type := .int, accessFlags := 26, slot := 0, constantValue := 0 }, { name := "LO_BYTE_SHIFT", type := .int, accessFlags := 26, slot := 1, constantValue := 0 }, { name := "MAX_LENGTH", type := .int, accessFlags := 24, slot := 2, constantValue := 0 }, { name := "$assertionsDisabled", type := .boolean, accessFlags := 4120, slot := 3, constantValue := 0 }]
  methods := #[k12m0, k12m1, k12m2, k12m3, k12m4, k12m5, k12m6, k12m7, k12m8, k12m9, k12m10, k12m11, k12m12, k12m13, k12m14]
  instanceTypes := #[]
  staticTypes := #[.int, .int, .int, .boolean]
  resolved := Array.replicate 635 none
  statics := some 2 }

def pool13 : Array CpInfo := pool [(2, .class_ 4), (1, u "java/lang/Object"), (0, u "<init>"), (0, u "()V"), (7, .class_ 16), (1, u "java/util/Arrays"), (57, .class_ 76), (1, u "java/util/Arrays$NaturalOrder"), (36, .class_ 115), (1, u "java/util/Arrays$LegacyMergeSort"), (1, u "Z"), (21, u "copyOfRange"), (10, .methodref 151 152), (0, .class_ 153), (0, .nameAndType 154 155), (0, u "java/lang/System"), (0, u "arraycopy"), (0, u "(Ljava/lang/Object;ILjava/lang/Object;II)V"), (148, .methodref 305 306), (0, .class_ 307), (0, .nameAndType 308 309), (0, u "java/lang/Math"), (0, u "min"), (0, u "(II)I"), (29, .methodref 14 340), (0, .nameAndType 341 342), (0, u "copyOfRangeByte"), (0, u "([BII)[B"), (0, .methodref 14 344), (0, .nameAndType 345 346), (0, u "checkLength"), (0, u "(II)V"), (28, .class_ 376), (0, u "java/util/Arrays$ArrayList"), (68, u "$assertionsDisabled"), (269, u "MIN_ARRAY_SORT_GRAN"), (0, u "I"), (2, u "INSERTIONSORT_THRESHOLD"), (255, .class_ 976), (0, u "java/util/Arrays$ArrayItr")] 52

def k13m0 : Method := { name := "<init>", desc := "()V", sig := { parameters := [], returnType := none }, accessFlags := 2, code := none }
def k13c1 : Code := { maxStack := 4, maxLocals := 2, code := jdk_65_method_131_code, exceptionTable := #[], attributes := #[] }
def k13m1 : Method := { name := "checkLength", desc := "(II)V", sig := { parameters := [.int, .int], returnType := none }, accessFlags := 10, code := some k13c1 }
def k13c2 : Code := { maxStack := 3, maxLocals := 3, code := jdk_65_method_132_code, exceptionTable := #[], attributes := #[] }
def k13m2 : Method := { name := "copyOfRange", desc := "([BII)[B", sig := { parameters := [(.array .byte), .int, .int], returnType := some (.array .byte) }, accessFlags := 9, code := some k13c2 }
def k13c3 : Code := { maxStack := 6, maxLocals := 5, code := jdk_65_method_133_code, exceptionTable := #[], attributes := #[] }
def k13m3 : Method := { name := "copyOfRangeByte", desc := "([BII)[B", sig := { parameters := [(.array .byte), .int, .int], returnType := some (.array .byte) }, accessFlags := 10, code := some k13c3 }
/-- java/util/Arrays -/
def k13 : Class := { plain "java/util/Arrays" (some 0) with
  accessFlags := 49
  interfaces := #[]
  cf := some (fileOf pool13 14 #[.nestMembers #[975, 375, 113, 74]] #[{ accessFlags := 2, nameIndex := 5, descriptorIndex := 6, attributes := #[] }, { accessFlags := 10, nameIndex := 345, descriptorIndex := 346, attributes := #[] }, { accessFlags := 9, nameIndex := 139, descriptorIndex := 342, attributes := #[] }, { accessFlags := 10, nameIndex := 341, descriptorIndex := 342, attributes := #[] }] 49 2 #[] #[{ accessFlags := 26, nameIndex := 715, descriptorIndex := 716, attributes := #[] }, { accessFlags := 26, nameIndex := 719, descriptorIndex := 716, attributes := #[] }, { accessFlags := 4120, nameIndex := 445, descriptorIndex := 117, attributes := #[] }])
  fields := #[{ name := "MIN_ARRAY_SORT_GRAN", type := .int, accessFlags := 26, slot := 0, constantValue := 0 }, { name := "INSERTIONSORT_THRESHOLD", type := .int, accessFlags := 26, slot := 1, constantValue := 0 }, { name := "$assertionsDisabled", type := .boolean, accessFlags := 4120, slot := 2, constantValue := 0 }]
  methods := #[k13m0, k13m1, k13m2, k13m3]
  instanceTypes := #[]
  staticTypes := #[.int, .int, .boolean]
  resolved := Array.replicate 1029 none
  statics := none }

def pool14 : Array CpInfo := pool [(2, .class_ 4), (1, u "java/lang/Object"), (0, u "<init>"), (0, u "()V"), (1, .class_ 10), (1, u "java/lang/System"), (0, u "allowSecurityManager"), (0, u "I"), (16, u "cons"), (0, u "Ljava/io/Console;"), (77, .class_ 110), (1, u "java/lang/System$CallersHolder"), (43, u "initialErrStream"), (0, u "Ljava/io/PrintStream;"), (19, u "security"), (0, u "Ljava/lang/SecurityManager;"), (31, .class_ 209), (0, u "java/lang/System$1"), (7, u "props"), (0, u "Ljava/util/Properties;"), (2, u "lineSeparator"), (0, u "Ljava/lang/String;"), (96, .class_ 321), (1, u "java/lang/System$LoggerFinder"), (5, .class_ 328), (0, u "java/lang/System$Logger"), (67, u "err"), (2, u "out"), (91, u "notSupportedJnuEncoding"), (15, u "in"), (17, u "initialIn"), (0, u "Ljava/io/InputStream;"), (35, u "bootLayer"), (0, u "Ljava/lang/ModuleLayer;"), (99, .class_ 664), (0, u "java/lang/System$2"), (9, u "NEVER"), (2, u "MAYBE"), (49, u "arraycopy"), (0, u "(Ljava/lang/Object;ILjava/lang/Object;II)V"), (72, .class_ 802), (0, u "java/lang/System$Logger$Level")] 31

def k14m0 : Method := { name := "<init>", desc := "()V", sig := { parameters := [], returnType := none }, accessFlags := 2, code := none }
def k14m1 : Method := { name := "arraycopy", desc := "(Ljava/lang/Object;ILjava/lang/Object;II)V", sig := { parameters := [(.object "java/lang/Object"), .int, (.object "java/lang/Object"), .int, .int], returnType := none }, accessFlags := 265, code := none }
/-- java/lang/System -/
def k14 : Class := { plain "java/lang/System" (some 0) with
  accessFlags := 49
  interfaces := #[]
  cf := some (fileOf pool14 8 #[.nestMembers #[319, 327, 801, 108, 663, 208]] #[{ accessFlags := 2, nameIndex := 5, descriptorIndex := 6, attributes := #[] }, { accessFlags := 265, nameIndex := 727, descriptorIndex := 728, attributes := #[] }] 49 2 #[] #[{ accessFlags := 25, nameIndex := 507, descriptorIndex := 526, attributes := #[] }, { accessFlags := 25, nameIndex := 399, descriptorIndex := 155, attributes := #[] }, { accessFlags := 25, nameIndex := 396, descriptorIndex := 155, attributes := #[] }, { accessFlags := 10, nameIndex := 525, descriptorIndex := 526, attributes := #[] }, { accessFlags := 26, nameIndex := 674, descriptorIndex := 12, attributes := #[] }, { accessFlags := 26, nameIndex := 677, descriptorIndex := 12, attributes := #[] }, { accessFlags := 10, nameIndex := 11, descriptorIndex := 12, attributes := #[] }, { accessFlags := 74, nameIndex := 175, descriptorIndex := 176, attributes := #[] }, { accessFlags := 10, nameIndex := 491, descriptorIndex := 222, attributes := #[] }, { accessFlags := 74, nameIndex := 29, descriptorIndex := 30, attributes := #[] }, { accessFlags := 74, nameIndex := 154, descriptorIndex := 155, attributes := #[] }, { accessFlags := 10, nameIndex := 217, descriptorIndex := 218, attributes := #[] }, { accessFlags := 10, nameIndex := 221, descriptorIndex := 222, attributes := #[] }, { accessFlags := 8, nameIndex := 562, descriptorIndex := 563, attributes := #[] }])
  fields := #[{ name := "in", type := (.object "java/io/InputStream"), accessFlags := 25, slot := 0, constantValue := 0 }, { name := "out", type := (.object "java/io/PrintStream"), accessFlags := 25, slot := 1, constantValue := 0 }, { name := "err", type := (.object "java/io/PrintStream"), accessFlags := 25, slot := 2, constantValue := 0 }, { name := "initialIn", type := (.object "java/io/InputStream"), accessFlags := 10, slot := 3, constantValue := 0 }, { name := "NEVER", type := .int, accessFlags := 26, slot := 4, constantValue := 0 }, { name := "MAYBE", type := .int, accessFlags := 26, slot := 5, constantValue := 0 }, { name := "allowSecurityManager", type := .int, accessFlags := 10, slot := 6, constantValue := 0 }, { name := "security", type := (.object "java/lang/SecurityManager"), accessFlags := 74, slot := 7, constantValue := 0 }, { name := "notSupportedJnuEncoding", type := (.object "java/lang/String"), accessFlags := 10, slot := 8, constantValue := 0 }, { name := "cons", type := (.object "java/io/Console"), accessFlags := 74, slot := 9, constantValue := 0 }, { name := "initialErrStream", type := (.object "java/io/PrintStream"), accessFlags := 74, slot := 10, constantValue := 0 }, { name := "props", type := (.object "java/util/Properties"), accessFlags := 10, slot := 11, constantValue := 0 }, { name := "lineSeparator", type := (.object "java/lang/String"), accessFlags := 10, slot := 12, constantValue := 0 }, { name := "bootLayer", type := (.object "java/lang/ModuleLayer"), accessFlags := 8, slot := 13, constantValue := 0 }]
  methods := #[k14m0, k14m1]
  instanceTypes := #[]
  staticTypes := #[(.object "java/io/InputStream"), (.object "java/io/PrintStream"), (.object "java/io/PrintStream"), (.object "java/io/InputStream"), .int, .int, .int, (.object "java/lang/SecurityManager"), (.object "java/lang/String"), (.object "java/io/Console"), (.object "java/io/PrintStream"), (.object "java/util/Properties"), (.object "java/lang/String"), (.object "java/lang/ModuleLayer")]
  resolved := Array.replicate 834 none
  statics := none }

def pool15 : Array CpInfo := pool [(9, u "<init>"), (6, .class_ 18), (1, u "java/lang/Object"), (0, u "()V"), (1, .class_ 23), (1, u "jdk/internal/util/ArraysSupport"), (0, u "LOG2_ARRAY_LONG_INDEX_SCALE"), (0, u "I"), (2, u "U"), (0, u "Ljdk/internal/misc/Unsafe;"), (8, u "BIG_ENDIAN"), (0, u "Z"), (8, u "LOG2_BYTE_BIT_SIZE"), (4, u "LOG2_ARRAY_INT_INDEX_SCALE"), (54, u "JLA"), (0, u "Ljdk/internal/access/JavaLangAccess;"), (11, u "LOG2_ARRAY_BOOLEAN_INDEX_SCALE"), (9, u "LOG2_ARRAY_BYTE_INDEX_SCALE"), (5, u "LOG2_ARRAY_CHAR_INDEX_SCALE"), (5, u "LOG2_ARRAY_SHORT_INDEX_SCALE"), (18, u "LOG2_ARRAY_FLOAT_INDEX_SCALE"), (24, u "LOG2_ARRAY_DOUBLE_INDEX_SCALE"), (89, u "T_BOOLEAN"), (2, u "T_CHAR"), (1, u "T_FLOAT"), (1, u "T_DOUBLE"), (1, u "T_BYTE"), (1, u "T_SHORT"), (1, u "T_INT"), (1, u "T_LONG"), (1, u "SOFT_MAX_ARRAY_LENGTH")] 83

def k15m0 : Method := { name := "<init>", desc := "()V", sig := { parameters := [], returnType := none }, accessFlags := 2, code := none }
/-- jdk/internal/util/ArraysSupport -/
def k15 : Class := { plain "jdk/internal/util/ArraysSupport" (some 0) with
  accessFlags := 33
  interfaces := #[]
  cf := some (fileOf pool15 21 #[] #[{ accessFlags := 2, nameIndex := 9, descriptorIndex := 19, attributes := #[] }] 33 16 #[] #[{ accessFlags := 24, nameIndex := 28, descriptorIndex := 29, attributes := #[] }, { accessFlags := 26, nameIndex := 38, descriptorIndex := 39, attributes := #[] }, { accessFlags := 25, nameIndex := 121, descriptorIndex := 25, attributes := #[] }, { accessFlags := 25, nameIndex := 131, descriptorIndex := 25, attributes := #[] }, { accessFlags := 25, nameIndex := 137, descriptorIndex := 25, attributes := #[] }, { accessFlags := 25, nameIndex := 143, descriptorIndex := 25, attributes := #[] }, { accessFlags := 25, nameIndex := 53, descriptorIndex := 25, attributes := #[] }, { accessFlags := 25, nameIndex := 24, descriptorIndex := 25, attributes := #[] }, { accessFlags := 25, nameIndex := 162, descriptorIndex := 25, attributes := #[] }, { accessFlags := 25, nameIndex := 187, descriptorIndex := 25, attributes := #[] }, { accessFlags := 26, nameIndex := 48, descriptorIndex := 25, attributes := #[] }, { accessFlags := 25, nameIndex := 277, descriptorIndex := 25, attributes := #[] }, { accessFlags := 25, nameIndex := 280, descriptorIndex := 25, attributes := #[] }, { accessFlags := 25, nameIndex := 282, descriptorIndex := 25, attributes := #[] }, { accessFlags := 25, nameIndex := 284, descriptorIndex := 25, attributes := #[] }, { accessFlags := 25, nameIndex := 286, descriptorIndex := 25, attributes := #[] }, { accessFlags := 25, nameIndex := 288, descriptorIndex := 25, attributes := #[] }, { accessFlags := 25, nameIndex := 290, descriptorIndex := 25, attributes := #[] }, { accessFlags := 25, nameIndex := 292, descriptorIndex := 25, attributes := #[] }, { accessFlags := 26, nameIndex := 108, descriptorIndex := 109, attributes := #[] }, { accessFlags := 25, nameIndex := 294, descriptorIndex := 25, attributes := #[] }])
  fields := #[{ name := "U", type := (.object "jdk/internal/misc/Unsafe"), accessFlags := 24, slot := 0, constantValue := 0 }, { name := "BIG_ENDIAN", type := .boolean, accessFlags := 26, slot := 1, constantValue := 0 }, { name := "LOG2_ARRAY_BOOLEAN_INDEX_SCALE", type := .int, accessFlags := 25, slot := 2, constantValue := 0 }, { name := "LOG2_ARRAY_BYTE_INDEX_SCALE", type := .int, accessFlags := 25, slot := 3, constantValue := 0 }, { name := "LOG2_ARRAY_CHAR_INDEX_SCALE", type := .int, accessFlags := 25, slot := 4, constantValue := 0 }, { name := "LOG2_ARRAY_SHORT_INDEX_SCALE", type := .int, accessFlags := 25, slot := 5, constantValue := 0 }, { name := "LOG2_ARRAY_INT_INDEX_SCALE", type := .int, accessFlags := 25, slot := 6, constantValue := 0 }, { name := "LOG2_ARRAY_LONG_INDEX_SCALE", type := .int, accessFlags := 25, slot := 7, constantValue := 0 }, { name := "LOG2_ARRAY_FLOAT_INDEX_SCALE", type := .int, accessFlags := 25, slot := 8, constantValue := 0 }, { name := "LOG2_ARRAY_DOUBLE_INDEX_SCALE", type := .int, accessFlags := 25, slot := 9, constantValue := 0 }, { name := "LOG2_BYTE_BIT_SIZE", type := .int, accessFlags := 26, slot := 10, constantValue := 0 }, { name := "T_BOOLEAN", type := .int, accessFlags := 25, slot := 11, constantValue := 0 }, { name := "T_CHAR", type := .int, accessFlags := 25, slot := 12, constantValue := 0 }, { name := "T_FLOAT", type := .int, accessFlags := 25, slot := 13, constantValue := 0 }, { name := "T_DOUBLE", type := .int, accessFlags := 25, slot := 14, constantValue := 0 }, { name := "T_BYTE", type := .int, accessFlags := 25, slot := 15, constantValue := 0 }, { name := "T_SHORT", type := .int, accessFlags := 25, slot := 16, constantValue := 0 }, { name := "T_INT", type := .int, accessFlags := 25, slot := 17, constantValue := 0 }, { name := "T_LONG", type := .int, accessFlags := 25, slot := 18, constantValue := 0 }, { name := "JLA", type := (.object "jdk/internal/access/JavaLangAccess"), accessFlags := 26, slot := 19, constantValue := 0 }, { name := "SOFT_MAX_ARRAY_LENGTH", type := .int, accessFlags := 25, slot := 20, constantValue := 0 }]
  methods := #[k15m0]
  instanceTypes := #[]
  staticTypes := #[(.object "jdk/internal/misc/Unsafe"), .boolean, .int, .int, .int, .int, .int, .int, .int, .int, .int, .int, .int, .int, .int, .int, .int, .int, .int, (.object "jdk/internal/access/JavaLangAccess"), .int]
  resolved := Array.replicate 378 none
  statics := none }

def pool16 : Array CpInfo := pool [(1, u "java/lang/Cloneable"), (0, .class_ 1), (0, u "java/lang/Object"), (0, .class_ 3)] 3

/-- java/lang/Cloneable -/
def k16 : Class := { plain "java/lang/Cloneable" (some 0) with
  accessFlags := 1537
  interfaces := #[]
  cf := some (fileOf pool16 2 #[] #[] 1537 4 #[] #[])
  fields := #[]
  methods := #[]
  instanceTypes := #[]
  staticTypes := #[]
  resolved := Array.replicate 8 none
  statics := none }

/-- the primitive byte -/
def k17 : Class := { plain "byte" none with kind := .primitive 'B', accessFlags := 0x411 }
/-- [B -/
def k18 : Class := { plain "[B" (some 0) with kind := .array 17 .byte, interfaces := #[16, 2], accessFlags := 1041 }

/-- the primitive char -/
def k19 : Class := { plain "char" none with kind := .primitive 'C', accessFlags := 0x411 }
/-- [C -/
def k20 : Class := { plain "[C" (some 0) with kind := .array 19 .char, interfaces := #[16, 2], accessFlags := 1041 }

/-- the primitive int -/
def k21 : Class := { plain "int" none with kind := .primitive 'I', accessFlags := 0x411 }
/-- [I -/
def k22 : Class := { plain "[I" (some 0) with kind := .array 21 .int, interfaces := #[16, 2], accessFlags := 1041 }

def heap : Heap := #[{ cls := 7, slots := #[.long 0, .int 1, .null, .int 0, .null, .int 0, .int 0], vm := .statics 7 },
  { cls := 11, slots := #[.null, .null, .null], vm := .statics 11 },
  { cls := 12, slots := #[.int 0, .int 8, .int 0, .int 1], vm := .statics 12 }]
def classes : Array Class := #[k0, k1, k2, k3, k4, k5, k6, k7, k8, k9, k10, k11, k12, k13, k14, k15, k16, k17, k18, k19, k20, k21, k22]
def interned : List (Array UInt16 × Addr) := []
def slotsUsed : Nat := 14
def theMethod : MethodId := ⟨1, 3⟩
def args0 : Array Value := #[.int 3, .int 97, .int 65536, .int 98, .int 99]
def aboutOver (below : List Frame) : State where
  vm := { classes := classes, interned := interned.toArray }
  heap := heap
  slotsUsed := slotsUsed
  threads := #[{ frames := .invoking theMethod args0 :: below }]
def below0 : List Frame := [.native { method := ⟨0, 0⟩, args := #[] }]
def about1 : State := aboutOver below0
def p0 : Program := .bare "" "" ""
def e0 : Env := launch0.env 0 0 0
theorem w_frames : about1.frames = Frame.invoking theMethod args0 :: below0 := rfl
set_option maxRecDepth 65536 in
theorem w_args : argsFit about1.vm theMethod args0 = true := by decide +kernel
set_option maxRecDepth 65536 in
theorem w_heap : heapFits about1 = true := by decide +kernel
set_option maxRecDepth 65536 in
theorem w_runnable : about1.curStatus? = some .runnable := by decide +kernel
set_option maxRecDepth 65536 in
theorem w_alone : about1.alone = true := by decide +kernel
set_option maxRecDepth 65536 in
theorem w_named : about1.methodNamed? x = some theMethod := by decide +kernel
set_option maxRecDepth 65536 in
theorem w_hears : about1.hears theMethod below0 = true := by decide +kernel
set_option maxRecDepth 65536 in
theorem w_ripe : about1.ripe theMethod args0 below0 = true := by decide +kernel
theorem w_running : about1.status = .running := rfl
set_option maxRecDepth 65536 in
theorem w_room : about1.hasRoom e0.platform room_1 = true :=
  launch0.hasRoom_least _ room_1 (by decide +kernel) (by decide +kernel) (by decide +kernel) (by decide +kernel) (by decide +kernel) (by decide +kernel)
theorem allAtoms_all (ts : List Jvm.Cond) (a : Array Jvm.Value) (st : Jvm.State) : (allAtoms ts).before a st = ts.all (fun c => c.before a st) := by
  induction ts with
  | nil => rfl
  | cons c t ih =>
    show (Jvm.Cond.and c (allAtoms t)).before a st = _
    rw [Jvm.Cond.before_and, ih, List.all_cons]
def words1 : List Jvm.Cond := Jvm.Cond.code x code maxLocals ret :: tables_1
/-- a 'code' word, met by the world's own term for the bytes: nothing is compared byte by byte -/
theorem code_word {y : MethodName} {bytes : ByteArray} {mx : Nat} {rt : Option FieldType} {a : Array Value} {s : State} {m : MethodId} {meth : Method} {c : Code} (h1 : s.methodNamed? y = some m) (h2 : s.vm.method? m = some meth) (h3 : meth.code = some c) (h4 : c.code = bytes)
    (h5 : (c.maxLocals == mx && c.exceptionTable.isEmpty && decide (c.maxStack ≤ mostOperands) && decide (meth.sig.returnType = rt) && !meth.locks && decide (parseMethodDescriptor y.desc = some meth.sig)) = true) : (Jvm.Cond.code y bytes mx rt).before a s = true := by
  simp only [Bool.and_eq_true, beq_iff_eq, Bool.not_eq_true', decide_eq_true_eq] at h5
  obtain ⟨⟨⟨⟨⟨g1, g2⟩, g3⟩, g4⟩, g5⟩, g6⟩ := h5
  simp [Cond.before, Cond.holds, Cond.value, h1, h2, h3, h4, g1, g2, g3, g4, g5, g6]
def isCode : Jvm.Cond → Bool
  | .code _ _ _ _ => true
  | _ => false
theorem all_split {L : List Jvm.Cond} {P : Jvm.Cond → Bool} (h1 : L.all (fun c => isCode c || P c) = true) (h2 : ∀ c ∈ L.filter isCode, P c = true) : L.all P = true := by
  refine List.all_eq_true.mpr fun c hc => ?_
  have h := List.all_eq_true.mp h1 c hc
  rcases Bool.eq_false_or_eq_true (isCode c) with hi | hi
  · exact h2 c (List.mem_filter.mpr ⟨hc, hi⟩)
  · simpa [hi] using h
set_option maxRecDepth 65536 in
theorem w_c0 : (Jvm.Cond.code x code maxLocals ret).before args0 about1 = true := code_word (m := ⟨1, 3⟩) (meth := k1m3) (c := k1c3) (by decide +kernel) rfl rfl rfl (by decide +kernel)
set_option maxRecDepth 65536 in
theorem w_c1 : (Jvm.Cond.code ({ cls := "com/example/tympan/tympan/xjdf/XjdfPackageFolderPinLaw", name := "ch", desc := "(I)C" } : Jvm.MethodName) method_2_code (1 : Nat) (Option.some Jvm.ClassFile.FieldType.char)).before args0 about1 = true := code_word (m := ⟨1, 1⟩) (meth := k1m1) (c := k1c1) (by decide +kernel) rfl rfl rfl (by decide +kernel)
set_option maxRecDepth 65536 in
theorem w_c2 : (Jvm.Cond.code ({ cls := "com/example/tympan/tympan/xjdf/XjdfPackageFolderPinLaw", name := "mk", desc := "(CCCCI)Ljava/lang/String;" } : Jvm.MethodName) method_3_code (5 : Nat) (Option.some (Jvm.ClassFile.FieldType.object "java/lang/String"))).before args0 about1 = true := code_word (m := ⟨1, 2⟩) (meth := k1m2) (c := k1c2) (by decide +kernel) rfl rfl rfl (by decide +kernel)
set_option maxRecDepth 65536 in
theorem w_c3 : (Jvm.Cond.code ({ cls := "java/lang/String", name := "<init>", desc := "([C)V" } : Jvm.MethodName) jdk_42_method_3_code (2 : Nat) (Option.none : Option Jvm.ClassFile.FieldType)).before args0 about1 = true := code_word (m := ⟨7, 1⟩) (meth := k7m1) (c := k7c1) (by decide +kernel) rfl rfl rfl (by decide +kernel)
set_option maxRecDepth 65536 in
theorem w_c4 : (Jvm.Cond.code ({ cls := "java/lang/String", name := "<init>", desc := "([CIILjava/lang/Void;)V" } : Jvm.MethodName) jdk_42_method_149_code (6 : Nat) (Option.none : Option Jvm.ClassFile.FieldType)).before args0 about1 = true := code_word (m := ⟨7, 7⟩) (meth := k7m7) (c := k7c7) (by decide +kernel) rfl rfl rfl (by decide +kernel)
set_option maxRecDepth 65536 in
theorem w_c5 : (Jvm.Cond.code ({ cls := "java/lang/Object", name := "<init>", desc := "()V" } : Jvm.MethodName) object_method_1_code (1 : Nat) (Option.none : Option Jvm.ClassFile.FieldType)).before args0 about1 = true := code_word (m := ⟨0, 0⟩) (meth := k0m0) (c := k0c0) (by decide +kernel) rfl rfl rfl (by decide +kernel)
set_option maxRecDepth 65536 in
theorem w_c6 : (Jvm.Cond.code ({ cls := "com/example/tympan/tympan/xjdf/XjdfPackage", name := "folder", desc := "(Ljava/lang/String;)Ljava/lang/String;" } : Jvm.MethodName) prog_49_method_8_code (1 : Nat) (Option.some (Jvm.ClassFile.FieldType.object "java/lang/String"))).before args0 about1 = true := code_word (m := ⟨8, 0⟩) (meth := k8m0) (c := k8c0) (by decide +kernel) rfl rfl rfl (by decide +kernel)
set_option maxRecDepth 65536 in
theorem w_c7 : (Jvm.Cond.code ({ cls := "java/lang/String", name := "lastIndexOf", desc := "(I)I" } : Jvm.MethodName) jdk_42_method_82_code (2 : Nat) (Option.some Jvm.ClassFile.FieldType.int)).before args0 about1 = true := code_word (m := ⟨7, 4⟩) (meth := k7m4) (c := k7c4) (by decide +kernel) rfl rfl rfl (by decide +kernel)
set_option maxRecDepth 65536 in
theorem w_c8 : (Jvm.Cond.code ({ cls := "java/lang/String", name := "length", desc := "()I" } : Jvm.MethodName) jdk_42_method_54_code (1 : Nat) (Option.some Jvm.ClassFile.FieldType.int)).before args0 about1 = true := code_word (m := ⟨7, 2⟩) (meth := k7m2) (c := k7c2) (by decide +kernel) rfl rfl rfl (by decide +kernel)
set_option maxRecDepth 65536 in
theorem w_c9 : (Jvm.Cond.code ({ cls := "java/lang/String", name := "coder", desc := "()B" } : Jvm.MethodName) jdk_42_method_152_code (1 : Nat) (Option.some Jvm.ClassFile.FieldType.byte)).before args0 about1 = true := code_word (m := ⟨7, 9⟩) (meth := k7m9) (c := k7c9) (by decide +kernel) rfl rfl rfl (by decide +kernel)
set_option maxRecDepth 65536 in
theorem w_c10 : (Jvm.Cond.code ({ cls := "java/lang/String", name := "lastIndexOf", desc := "(II)I" } : Jvm.MethodName) jdk_42_method_83_code (3 : Nat) (Option.some Jvm.ClassFile.FieldType.int)).before args0 about1 = true := code_word (m := ⟨7, 5⟩) (meth := k7m5) (c := k7c5) (by decide +kernel) rfl rfl rfl (by decide +kernel)
set_option maxRecDepth 65536 in
theorem w_c11 : (Jvm.Cond.code ({ cls := "java/lang/String", name := "isLatin1", desc := "()Z" } : Jvm.MethodName) jdk_42_method_154_code (1 : Nat) (Option.some Jvm.ClassFile.FieldType.boolean)).before args0 about1 = true := code_word (m := ⟨7, 10⟩) (meth := k7m10) (c := k7c10) (by decide +kernel) rfl rfl rfl (by decide +kernel)
set_option maxRecDepth 65536 in
theorem w_c12 : (Jvm.Cond.code ({ cls := "java/lang/StringLatin1", name := "lastIndexOf", desc := "([BII)I" } : Jvm.MethodName) jdk_43_method_27_code (4 : Nat) (Option.some Jvm.ClassFile.FieldType.int)).before args0 about1 = true := code_word (m := ⟨9, 3⟩) (meth := k9m3) (c := k9c3) (by decide +kernel) rfl rfl rfl (by decide +kernel)
set_option maxRecDepth 65536 in
theorem w_c13 : (Jvm.Cond.code ({ cls := "java/lang/StringLatin1", name := "canEncode", desc := "(I)Z" } : Jvm.MethodName) jdk_43_method_4_code (1 : Nat) (Option.some Jvm.ClassFile.FieldType.boolean)).before args0 about1 = true := code_word (m := ⟨9, 1⟩) (meth := k9m1) (c := k9c1) (by decide +kernel) rfl rfl rfl (by decide +kernel)
set_option maxRecDepth 65536 in
theorem w_c14 : (Jvm.Cond.code ({ cls := "java/lang/Math", name := "min", desc := "(II)I" } : Jvm.MethodName) jdk_29_method_69_code (2 : Nat) (Option.some Jvm.ClassFile.FieldType.int)).before args0 about1 = true := code_word (m := ⟨10, 1⟩) (meth := k10m1) (c := k10c1) (by decide +kernel) rfl rfl rfl (by decide +kernel)
set_option maxRecDepth 65536 in
theorem w_c15 : (Jvm.Cond.code ({ cls := "java/lang/String", name := "substring", desc := "(II)Ljava/lang/String;" } : Jvm.MethodName) jdk_42_method_92_code (5 : Nat) (Option.some (Jvm.ClassFile.FieldType.object "java/lang/String"))).before args0 about1 = true := code_word (m := ⟨7, 6⟩) (meth := k7m6) (c := k7c6) (by decide +kernel) rfl rfl rfl (by decide +kernel)
set_option maxRecDepth 65536 in
theorem w_c16 : (Jvm.Cond.code ({ cls := "java/lang/String", name := "checkBoundsBeginEnd", desc := "(III)V" } : Jvm.MethodName) jdk_42_method_158_code (3 : Nat) (Option.none : Option Jvm.ClassFile.FieldType)).before args0 about1 = true := code_word (m := ⟨7, 12⟩) (meth := k7m12) (c := k7c12) (by decide +kernel) rfl rfl rfl (by decide +kernel)
set_option maxRecDepth 65536 in
theorem w_c17 : (Jvm.Cond.code ({ cls := "jdk/internal/util/Preconditions", name := "checkFromToIndex", desc := "(IIILjava/util/function/BiFunction;)I" } : Jvm.MethodName) jdk_41_method_12_code (4 : Nat) (Option.some Jvm.ClassFile.FieldType.int)).before args0 about1 = true := code_word (m := ⟨11, 1⟩) (meth := k11m1) (c := k11c1) (by decide +kernel) rfl rfl rfl (by decide +kernel)
set_option maxRecDepth 65536 in
theorem w_c18 : (Jvm.Cond.code ({ cls := "java/lang/String", name := "equals", desc := "(Ljava/lang/Object;)Z" } : Jvm.MethodName) jdk_42_method_66_code (3 : Nat) (Option.some Jvm.ClassFile.FieldType.boolean)).before args0 about1 = true := code_word (m := ⟨7, 3⟩) (meth := k7m3) (c := k7c3) (by decide +kernel) rfl rfl rfl (by decide +kernel)
set_option maxRecDepth 65536 in
theorem w_c19 : (Jvm.Cond.code ({ cls := "java/lang/StringLatin1", name := "equals", desc := "([B[B)Z" } : Jvm.MethodName) jdk_43_method_13_code (3 : Nat) (Option.some Jvm.ClassFile.FieldType.boolean)).before args0 about1 = true := code_word (m := ⟨9, 2⟩) (meth := k9m2) (c := k9c2) (by decide +kernel) rfl rfl rfl (by decide +kernel)
set_option maxRecDepth 65536 in
theorem w_c20 : (Jvm.Cond.code ({ cls := "java/lang/StringUTF16", name := "compress", desc := "([CII)[B" } : Jvm.MethodName) jdk_52_method_16_code (6 : Nat) (Option.some (Jvm.ClassFile.FieldType.array Jvm.ClassFile.FieldType.byte))).before args0 about1 = true := code_word (m := ⟨12, 8⟩) (meth := k12m8) (c := k12c8) (by decide +kernel) rfl rfl rfl (by decide +kernel)
set_option maxRecDepth 65536 in
theorem w_c21 : (Jvm.Cond.code ({ cls := "java/lang/StringUTF16", name := "compress", desc := "([CI[BII)I" } : Jvm.MethodName) jdk_52_method_21_code (7 : Nat) (Option.some Jvm.ClassFile.FieldType.int)).before args0 about1 = true := code_word (m := ⟨12, 10⟩) (meth := k12m10) (c := k12c10) (by decide +kernel) rfl rfl rfl (by decide +kernel)
set_option maxRecDepth 65536 in
theorem w_c22 : (Jvm.Cond.code ({ cls := "java/lang/StringUTF16", name := "coderFromArrayLen", desc := "([BI)B" } : Jvm.MethodName) jdk_52_method_15_code (2 : Nat) (Option.some Jvm.ClassFile.FieldType.byte)).before args0 about1 = true := code_word (m := ⟨12, 7⟩) (meth := k12m7) (c := k12c7) (by decide +kernel) rfl rfl rfl (by decide +kernel)
set_option maxRecDepth 65536 in
theorem w_c23 : (Jvm.Cond.code ({ cls := "java/lang/StringLatin1", name := "newString", desc := "([BII)Ljava/lang/String;" } : Jvm.MethodName) jdk_43_method_47_code (3 : Nat) (Option.some (Jvm.ClassFile.FieldType.object "java/lang/String"))).before args0 about1 = true := code_word (m := ⟨9, 4⟩) (meth := k9m4) (c := k9c4) (by decide +kernel) rfl rfl rfl (by decide +kernel)
set_option maxRecDepth 65536 in
theorem w_c24 : (Jvm.Cond.code ({ cls := "java/util/Arrays", name := "copyOfRange", desc := "([BII)[B" } : Jvm.MethodName) jdk_65_method_132_code (3 : Nat) (Option.some (Jvm.ClassFile.FieldType.array Jvm.ClassFile.FieldType.byte))).before args0 about1 = true := code_word (m := ⟨13, 2⟩) (meth := k13m2) (c := k13c2) (by decide +kernel) rfl rfl rfl (by decide +kernel)
set_option maxRecDepth 65536 in
theorem w_c25 : (Jvm.Cond.code ({ cls := "java/util/Arrays", name := "copyOfRangeByte", desc := "([BII)[B" } : Jvm.MethodName) jdk_65_method_133_code (5 : Nat) (Option.some (Jvm.ClassFile.FieldType.array Jvm.ClassFile.FieldType.byte))).before args0 about1 = true := code_word (m := ⟨13, 3⟩) (meth := k13m3) (c := k13c3) (by decide +kernel) rfl rfl rfl (by decide +kernel)
set_option maxRecDepth 65536 in
theorem w_c26 : (Jvm.Cond.code ({ cls := "java/util/Arrays", name := "checkLength", desc := "(II)V" } : Jvm.MethodName) jdk_65_method_131_code (2 : Nat) (Option.none : Option Jvm.ClassFile.FieldType)).before args0 about1 = true := code_word (m := ⟨13, 1⟩) (meth := k13m1) (c := k13c1) (by decide +kernel) rfl rfl rfl (by decide +kernel)
set_option maxRecDepth 65536 in
theorem w_c27 : (Jvm.Cond.code ({ cls := "java/lang/String", name := "<init>", desc := "([BB)V" } : Jvm.MethodName) jdk_42_method_151_code (3 : Nat) (Option.none : Option Jvm.ClassFile.FieldType)).before args0 about1 = true := code_word (m := ⟨7, 8⟩) (meth := k7m8) (c := k7c8) (by decide +kernel) rfl rfl rfl (by decide +kernel)
set_option maxRecDepth 65536 in
theorem w_c28 : (Jvm.Cond.code ({ cls := "java/lang/StringUTF16", name := "toBytes", desc := "([CII)[B" } : Jvm.MethodName) jdk_52_method_14_code (5 : Nat) (Option.some (Jvm.ClassFile.FieldType.array Jvm.ClassFile.FieldType.byte))).before args0 about1 = true := code_word (m := ⟨12, 6⟩) (meth := k12m6) (c := k12c6) (by decide +kernel) rfl rfl rfl (by decide +kernel)
set_option maxRecDepth 65536 in
theorem w_c29 : (Jvm.Cond.code ({ cls := "java/lang/StringUTF16", name := "newBytesFor", desc := "(I)[B" } : Jvm.MethodName) jdk_52_method_2_code (1 : Nat) (Option.some (Jvm.ClassFile.FieldType.array Jvm.ClassFile.FieldType.byte))).before args0 about1 = true := code_word (m := ⟨12, 1⟩) (meth := k12m1) (c := k12c1) (by decide +kernel) rfl rfl rfl (by decide +kernel)
set_option maxRecDepth 65536 in
theorem w_c30 : (Jvm.Cond.code ({ cls := "java/lang/StringUTF16", name := "newBytesLength", desc := "(I)I" } : Jvm.MethodName) jdk_52_method_3_code (1 : Nat) (Option.some Jvm.ClassFile.FieldType.int)).before args0 about1 = true := code_word (m := ⟨12, 2⟩) (meth := k12m2) (c := k12c2) (by decide +kernel) rfl rfl rfl (by decide +kernel)
set_option maxRecDepth 65536 in
theorem w_c31 : (Jvm.Cond.code ({ cls := "java/lang/StringUTF16", name := "putChar", desc := "([BII)V" } : Jvm.MethodName) jdk_52_method_4_code (3 : Nat) (Option.none : Option Jvm.ClassFile.FieldType)).before args0 about1 = true := code_word (m := ⟨12, 3⟩) (meth := k12m3) (c := k12c3) (by decide +kernel) rfl rfl rfl (by decide +kernel)
set_option maxRecDepth 65536 in
theorem w_c32 : (Jvm.Cond.code ({ cls := "java/lang/StringUTF16", name := "getChar", desc := "([BI)C" } : Jvm.MethodName) jdk_52_method_5_code (2 : Nat) (Option.some Jvm.ClassFile.FieldType.char)).before args0 about1 = true := code_word (m := ⟨12, 4⟩) (meth := k12m4) (c := k12c4) (by decide +kernel) rfl rfl rfl (by decide +kernel)
set_option maxRecDepth 65536 in
theorem w_c33 : (Jvm.Cond.code ({ cls := "java/lang/StringUTF16", name := "lastIndexOf", desc := "([BII)I" } : Jvm.MethodName) jdk_52_method_51_code (4 : Nat) (Option.some Jvm.ClassFile.FieldType.int)).before args0 about1 = true := code_word (m := ⟨12, 12⟩) (meth := k12m12) (c := k12c12) (by decide +kernel) rfl rfl rfl (by decide +kernel)
set_option maxRecDepth 65536 in
theorem w_c34 : (Jvm.Cond.code ({ cls := "java/lang/StringUTF16", name := "newString", desc := "([BII)Ljava/lang/String;" } : Jvm.MethodName) jdk_52_method_69_code (5 : Nat) (Option.some (Jvm.ClassFile.FieldType.object "java/lang/String"))).before args0 about1 = true := code_word (m := ⟨12, 13⟩) (meth := k12m13) (c := k12c13) (by decide +kernel) rfl rfl rfl (by decide +kernel)
set_option maxRecDepth 65536 in
theorem w_c35 : (Jvm.Cond.code ({ cls := "java/lang/StringUTF16", name := "compress", desc := "([BII)[B" } : Jvm.MethodName) jdk_52_method_17_code (6 : Nat) (Option.some (Jvm.ClassFile.FieldType.array Jvm.ClassFile.FieldType.byte))).before args0 about1 = true := code_word (m := ⟨12, 9⟩) (meth := k12m9) (c := k12c9) (by decide +kernel) rfl rfl rfl (by decide +kernel)
set_option maxRecDepth 65536 in
theorem w_c36 : (Jvm.Cond.code ({ cls := "java/lang/StringUTF16", name := "compress", desc := "([BI[BII)I" } : Jvm.MethodName) jdk_52_method_22_code (7 : Nat) (Option.some Jvm.ClassFile.FieldType.int)).before args0 about1 = true := code_word (m := ⟨12, 11⟩) (meth := k12m11) (c := k12c11) (by decide +kernel) rfl rfl rfl (by decide +kernel)
set_option maxRecDepth 65536 in
theorem w_c37 : (Jvm.Cond.code ({ cls := "java/lang/StringUTF16", name := "checkBoundsOffCount", desc := "(II[B)V" } : Jvm.MethodName) jdk_52_method_94_code (3 : Nat) (Option.none : Option Jvm.ClassFile.FieldType)).before args0 about1 = true := code_word (m := ⟨12, 14⟩) (meth := k12m14) (c := k12c14) (by decide +kernel) rfl rfl rfl (by decide +kernel)
set_option maxRecDepth 65536 in
theorem w_c38 : (Jvm.Cond.code ({ cls := "java/lang/StringUTF16", name := "length", desc := "([B)I" } : Jvm.MethodName) jdk_52_method_6_code (1 : Nat) (Option.some Jvm.ClassFile.FieldType.int)).before args0 about1 = true := code_word (m := ⟨12, 5⟩) (meth := k12m5) (c := k12c5) (by decide +kernel) rfl rfl rfl (by decide +kernel)
set_option maxRecDepth 65536 in
theorem w_c39 : (Jvm.Cond.code ({ cls := "java/lang/String", name := "checkBoundsOffCount", desc := "(III)I" } : Jvm.MethodName) jdk_42_method_157_code (3 : Nat) (Option.some Jvm.ClassFile.FieldType.int)).before args0 about1 = true := code_word (m := ⟨7, 11⟩) (meth := k7m11) (c := k7c11) (by decide +kernel) rfl rfl rfl (by decide +kernel)
set_option maxRecDepth 65536 in
theorem w_c40 : (Jvm.Cond.code ({ cls := "jdk/internal/util/Preconditions", name := "checkFromIndexSize", desc := "(IIILjava/util/function/BiFunction;)I" } : Jvm.MethodName) jdk_41_method_13_code (4 : Nat) (Option.some Jvm.ClassFile.FieldType.int)).before args0 about1 = true := code_word (m := ⟨11, 2⟩) (meth := k11m2) (c := k11c2) (by decide +kernel) rfl rfl rfl (by decide +kernel)
def codes1 : List Jvm.Cond := [Jvm.Cond.code x code maxLocals ret, Jvm.Cond.code ({ cls := "com/example/tympan/tympan/xjdf/XjdfPackageFolderPinLaw", name := "ch", desc := "(I)C" } : Jvm.MethodName) method_2_code (1 : Nat) (Option.some Jvm.ClassFile.FieldType.char), Jvm.Cond.code ({ cls := "com/example/tympan/tympan/xjdf/XjdfPackageFolderPinLaw", name := "mk", desc := "(CCCCI)Ljava/lang/String;" } : Jvm.MethodName) method_3_code (5 : Nat) (Option.some (Jvm.ClassFile.FieldType.object "java/lang/String")), Jvm.Cond.code ({ cls := "java/lang/String", name := "<init>", desc := "([C)V" } : Jvm.MethodName) jdk_42_method_3_code (2 : Nat) (Option.none : Option Jvm.ClassFile.FieldType), Jvm.Cond.code ({ cls := "java/lang/String", name := "<init>", desc := "([CIILjava/lang/Void;)V" } : Jvm.MethodName) jdk_42_method_149_code (6 : Nat) (Option.none : Option Jvm.ClassFile.FieldType), Jvm.Cond.code ({ cls := "java/lang/Object", name := "<init>", desc := "()V" } : Jvm.MethodName) object_method_1_code (1 : Nat) (Option.none : Option Jvm.ClassFile.FieldType), Jvm.Cond.code ({ cls := "com/example/tympan/tympan/xjdf/XjdfPackage", name := "folder", desc := "(Ljava/lang/String;)Ljava/lang/String;" } : Jvm.MethodName) prog_49_method_8_code (1 : Nat) (Option.some (Jvm.ClassFile.FieldType.object "java/lang/String")), Jvm.Cond.code ({ cls := "java/lang/String", name := "lastIndexOf", desc := "(I)I" } : Jvm.MethodName) jdk_42_method_82_code (2 : Nat) (Option.some Jvm.ClassFile.FieldType.int), Jvm.Cond.code ({ cls := "java/lang/String", name := "length", desc := "()I" } : Jvm.MethodName) jdk_42_method_54_code (1 : Nat) (Option.some Jvm.ClassFile.FieldType.int), Jvm.Cond.code ({ cls := "java/lang/String", name := "coder", desc := "()B" } : Jvm.MethodName) jdk_42_method_152_code (1 : Nat) (Option.some Jvm.ClassFile.FieldType.byte), Jvm.Cond.code ({ cls := "java/lang/String", name := "lastIndexOf", desc := "(II)I" } : Jvm.MethodName) jdk_42_method_83_code (3 : Nat) (Option.some Jvm.ClassFile.FieldType.int), Jvm.Cond.code ({ cls := "java/lang/String", name := "isLatin1", desc := "()Z" } : Jvm.MethodName) jdk_42_method_154_code (1 : Nat) (Option.some Jvm.ClassFile.FieldType.boolean), Jvm.Cond.code ({ cls := "java/lang/StringLatin1", name := "lastIndexOf", desc := "([BII)I" } : Jvm.MethodName) jdk_43_method_27_code (4 : Nat) (Option.some Jvm.ClassFile.FieldType.int), Jvm.Cond.code ({ cls := "java/lang/StringLatin1", name := "canEncode", desc := "(I)Z" } : Jvm.MethodName) jdk_43_method_4_code (1 : Nat) (Option.some Jvm.ClassFile.FieldType.boolean), Jvm.Cond.code ({ cls := "java/lang/Math", name := "min", desc := "(II)I" } : Jvm.MethodName) jdk_29_method_69_code (2 : Nat) (Option.some Jvm.ClassFile.FieldType.int), Jvm.Cond.code ({ cls := "java/lang/String", name := "substring", desc := "(II)Ljava/lang/String;" } : Jvm.MethodName) jdk_42_method_92_code (5 : Nat) (Option.some (Jvm.ClassFile.FieldType.object "java/lang/String")), Jvm.Cond.code ({ cls := "java/lang/String", name := "checkBoundsBeginEnd", desc := "(III)V" } : Jvm.MethodName) jdk_42_method_158_code (3 : Nat) (Option.none : Option Jvm.ClassFile.FieldType), Jvm.Cond.code ({ cls := "jdk/internal/util/Preconditions", name := "checkFromToIndex", desc := "(IIILjava/util/function/BiFunction;)I" } : Jvm.MethodName) jdk_41_method_12_code (4 : Nat) (Option.some Jvm.ClassFile.FieldType.int), Jvm.Cond.code ({ cls := "java/lang/String", name := "equals", desc := "(Ljava/lang/Object;)Z" } : Jvm.MethodName) jdk_42_method_66_code (3 : Nat) (Option.some Jvm.ClassFile.FieldType.boolean), Jvm.Cond.code ({ cls := "java/lang/StringLatin1", name := "equals", desc := "([B[B)Z" } : Jvm.MethodName) jdk_43_method_13_code (3 : Nat) (Option.some Jvm.ClassFile.FieldType.boolean), Jvm.Cond.code ({ cls := "java/lang/StringUTF16", name := "compress", desc := "([CII)[B" } : Jvm.MethodName) jdk_52_method_16_code (6 : Nat) (Option.some (Jvm.ClassFile.FieldType.array Jvm.ClassFile.FieldType.byte)), Jvm.Cond.code ({ cls := "java/lang/StringUTF16", name := "compress", desc := "([CI[BII)I" } : Jvm.MethodName) jdk_52_method_21_code (7 : Nat) (Option.some Jvm.ClassFile.FieldType.int), Jvm.Cond.code ({ cls := "java/lang/StringUTF16", name := "coderFromArrayLen", desc := "([BI)B" } : Jvm.MethodName) jdk_52_method_15_code (2 : Nat) (Option.some Jvm.ClassFile.FieldType.byte), Jvm.Cond.code ({ cls := "java/lang/StringLatin1", name := "newString", desc := "([BII)Ljava/lang/String;" } : Jvm.MethodName) jdk_43_method_47_code (3 : Nat) (Option.some (Jvm.ClassFile.FieldType.object "java/lang/String")), Jvm.Cond.code ({ cls := "java/util/Arrays", name := "copyOfRange", desc := "([BII)[B" } : Jvm.MethodName) jdk_65_method_132_code (3 : Nat) (Option.some (Jvm.ClassFile.FieldType.array Jvm.ClassFile.FieldType.byte)), Jvm.Cond.code ({ cls := "java/util/Arrays", name := "copyOfRangeByte", desc := "([BII)[B" } : Jvm.MethodName) jdk_65_method_133_code (5 : Nat) (Option.some (Jvm.ClassFile.FieldType.array Jvm.ClassFile.FieldType.byte)), Jvm.Cond.code ({ cls := "java/util/Arrays", name := "checkLength", desc := "(II)V" } : Jvm.MethodName) jdk_65_method_131_code (2 : Nat) (Option.none : Option Jvm.ClassFile.FieldType), Jvm.Cond.code ({ cls := "java/lang/String", name := "<init>", desc := "([BB)V" } : Jvm.MethodName) jdk_42_method_151_code (3 : Nat) (Option.none : Option Jvm.ClassFile.FieldType), Jvm.Cond.code ({ cls := "java/lang/StringUTF16", name := "toBytes", desc := "([CII)[B" } : Jvm.MethodName) jdk_52_method_14_code (5 : Nat) (Option.some (Jvm.ClassFile.FieldType.array Jvm.ClassFile.FieldType.byte)), Jvm.Cond.code ({ cls := "java/lang/StringUTF16", name := "newBytesFor", desc := "(I)[B" } : Jvm.MethodName) jdk_52_method_2_code (1 : Nat) (Option.some (Jvm.ClassFile.FieldType.array Jvm.ClassFile.FieldType.byte)), Jvm.Cond.code ({ cls := "java/lang/StringUTF16", name := "newBytesLength", desc := "(I)I" } : Jvm.MethodName) jdk_52_method_3_code (1 : Nat) (Option.some Jvm.ClassFile.FieldType.int), Jvm.Cond.code ({ cls := "java/lang/StringUTF16", name := "putChar", desc := "([BII)V" } : Jvm.MethodName) jdk_52_method_4_code (3 : Nat) (Option.none : Option Jvm.ClassFile.FieldType), Jvm.Cond.code ({ cls := "java/lang/StringUTF16", name := "getChar", desc := "([BI)C" } : Jvm.MethodName) jdk_52_method_5_code (2 : Nat) (Option.some Jvm.ClassFile.FieldType.char), Jvm.Cond.code ({ cls := "java/lang/StringUTF16", name := "lastIndexOf", desc := "([BII)I" } : Jvm.MethodName) jdk_52_method_51_code (4 : Nat) (Option.some Jvm.ClassFile.FieldType.int), Jvm.Cond.code ({ cls := "java/lang/StringUTF16", name := "newString", desc := "([BII)Ljava/lang/String;" } : Jvm.MethodName) jdk_52_method_69_code (5 : Nat) (Option.some (Jvm.ClassFile.FieldType.object "java/lang/String")), Jvm.Cond.code ({ cls := "java/lang/StringUTF16", name := "compress", desc := "([BII)[B" } : Jvm.MethodName) jdk_52_method_17_code (6 : Nat) (Option.some (Jvm.ClassFile.FieldType.array Jvm.ClassFile.FieldType.byte)), Jvm.Cond.code ({ cls := "java/lang/StringUTF16", name := "compress", desc := "([BI[BII)I" } : Jvm.MethodName) jdk_52_method_22_code (7 : Nat) (Option.some Jvm.ClassFile.FieldType.int), Jvm.Cond.code ({ cls := "java/lang/StringUTF16", name := "checkBoundsOffCount", desc := "(II[B)V" } : Jvm.MethodName) jdk_52_method_94_code (3 : Nat) (Option.none : Option Jvm.ClassFile.FieldType), Jvm.Cond.code ({ cls := "java/lang/StringUTF16", name := "length", desc := "([B)I" } : Jvm.MethodName) jdk_52_method_6_code (1 : Nat) (Option.some Jvm.ClassFile.FieldType.int), Jvm.Cond.code ({ cls := "java/lang/String", name := "checkBoundsOffCount", desc := "(III)I" } : Jvm.MethodName) jdk_42_method_157_code (3 : Nat) (Option.some Jvm.ClassFile.FieldType.int), Jvm.Cond.code ({ cls := "jdk/internal/util/Preconditions", name := "checkFromIndexSize", desc := "(IIILjava/util/function/BiFunction;)I" } : Jvm.MethodName) jdk_41_method_13_code (4 : Nat) (Option.some Jvm.ClassFile.FieldType.int)]
set_option maxRecDepth 65536 in
theorem codes_eq : words1.filter isCode = codes1 := rfl
theorem w_codes : ∀ c ∈ words1.filter isCode, c.before args0 about1 = true := by
  rw [codes_eq]
  intro c hc
  simp only [codes1, List.mem_cons, List.not_mem_nil, or_false] at hc
  rcases hc with rfl | rfl | rfl | rfl | rfl | rfl | rfl | rfl | rfl | rfl | rfl | rfl | rfl | rfl | rfl | rfl | rfl | rfl | rfl | rfl | rfl | rfl | rfl | rfl | rfl | rfl | rfl | rfl | rfl | rfl | rfl | rfl | rfl | rfl | rfl | rfl | rfl | rfl | rfl | rfl | rfl
  · exact w_c0
  · exact w_c1
  · exact w_c2
  · exact w_c3
  · exact w_c4
  · exact w_c5
  · exact w_c6
  · exact w_c7
  · exact w_c8
  · exact w_c9
  · exact w_c10
  · exact w_c11
  · exact w_c12
  · exact w_c13
  · exact w_c14
  · exact w_c15
  · exact w_c16
  · exact w_c17
  · exact w_c18
  · exact w_c19
  · exact w_c20
  · exact w_c21
  · exact w_c22
  · exact w_c23
  · exact w_c24
  · exact w_c25
  · exact w_c26
  · exact w_c27
  · exact w_c28
  · exact w_c29
  · exact w_c30
  · exact w_c31
  · exact w_c32
  · exact w_c33
  · exact w_c34
  · exact w_c35
  · exact w_c36
  · exact w_c37
  · exact w_c38
  · exact w_c39
  · exact w_c40
set_option maxRecDepth 65536 in
theorem w_t1 : (words1.take 24).all (fun c => isCode c || c.before args0 about1) = true := by decide +kernel
set_option maxRecDepth 65536 in
theorem w_t2 : ((words1.drop 24).take 24).all (fun c => isCode c || c.before args0 about1) = true := by decide +kernel
set_option maxRecDepth 65536 in
theorem w_t3 : (((words1.drop 24).drop 24).take 24).all (fun c => isCode c || c.before args0 about1) = true := by decide +kernel
set_option maxRecDepth 65536 in
theorem w_t4 : ((((words1.drop 24).drop 24).drop 24).take 24).all (fun c => isCode c || c.before args0 about1) = true := by decide +kernel
set_option maxRecDepth 65536 in
theorem w_t5 : (((((words1.drop 24).drop 24).drop 24).drop 24).take 24).all (fun c => isCode c || c.before args0 about1) = true := by decide +kernel
set_option maxRecDepth 65536 in
theorem w_t6 : ((((((words1.drop 24).drop 24).drop 24).drop 24).drop 24).take 24).all (fun c => isCode c || c.before args0 about1) = true := by decide +kernel
set_option maxRecDepth 65536 in
theorem w_t7 : (((((((words1.drop 24).drop 24).drop 24).drop 24).drop 24).drop 24).take 24).all (fun c => isCode c || c.before args0 about1) = true := by decide +kernel
set_option maxRecDepth 65536 in
theorem w_t8 : (((((((words1.drop 24).drop 24).drop 24).drop 24).drop 24).drop 24).drop 24).all (fun c => isCode c || c.before args0 about1) = true := by decide +kernel
theorem w_tables : (allAtoms (Jvm.Cond.code x code maxLocals ret :: tables_1)).before args0 about1 = true := by
  rw [allAtoms_all]
  show words1.all (fun c => c.before args0 about1) = true
  refine all_split ?_ w_codes
  rw [← List.take_append_drop 24 words1, List.all_append, w_t1, ← List.take_append_drop 24 (words1.drop 24), List.all_append, w_t2, ← List.take_append_drop 24 ((words1.drop 24).drop 24), List.all_append, w_t3, ← List.take_append_drop 24 (((words1.drop 24).drop 24).drop 24), List.all_append, w_t4, ← List.take_append_drop 24 ((((words1.drop 24).drop 24).drop 24).drop 24), List.all_append, w_t5, ← List.take_append_drop 24 (((((words1.drop 24).drop 24).drop 24).drop 24).drop 24), List.all_append, w_t6, ← List.take_append_drop 24 ((((((words1.drop 24).drop 24).drop 24).drop 24).drop 24).drop 24), List.all_append, w_t7, w_t8]
  rfl
set_option maxRecDepth 65536 in
theorem w_rest : rest_1_c.before args0 about1 = true := by decide +kernel
set_option maxRecDepth 65536 in
theorem w_case : (Jvm.Cond.and given_1 narrow_1).before args0 about1 = true := by decide +kernel
set_option maxRecDepth 65536 in
theorem w_consts : constsHeld consts_1 about1 := Jvm.Lit.constsHeldB_iff.mp (by decide +kernel)
theorem w_applies : (headSpec (Jvm.Cond.code x code maxLocals ret :: tables_1) room_1).applies x e0.platform about1 = true :=
  (Spec.applies_iff w_frames).mpr ⟨w_running, w_runnable, w_alone, w_named, w_hears, w_ripe, w_room, w_tables⟩
theorem atStart : AtStart classFile x code maxLocals ret World_1 tables_1 room_1 Calls_1 rest_1 Pre_1 launch0 p0 e0 about1 theMethod args0 below0 :=
  ⟨lists_1, trivial, launch0.admits_env _ _ _, launch0.least_env, fairChoices_fair.cas, fairChoices_fair.clock, w_frames, w_args, w_heap, w_applies, ⟨w_consts, trivial⟩, w_rest, w_case⟩
end start1
theorem witness_1 : WitnessClaimed_1 := ⟨start1.p0, start1.e0, start1.about1, start1.theMethod, start1.args0, start1.below0, start1.atStart⟩
end Jvm.Pilot.@@N@@
