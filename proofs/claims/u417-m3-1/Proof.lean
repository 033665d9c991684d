import JvmDerived
import JvmDerived.Pilot.@@N@@Statement
import JvmDerived.Pilot.@@N@@Code
set_option linter.unusedVariables false
set_option linter.unusedSimpArgs false
namespace Jvm.RoadKit
open Sem ClassFile Op Lib Jvm.Stand Jvm.Free Jvm.LawKit
section New
variable {p : Program} {l : Launch} {e : Env} {R : Room} {s : State} {m : MethodId} {args : Array Value} {below : List Frame} {meth : Method} {c : Code} {T : State} {locs : List Loc} {cells slots : Nat}
theorem retI (X : Stand p l e R s m args below meth c T locs cells slots) (hx : p.tables.exec = Jvm.exec) {pc : Nat} {Ls : Array Slot} {z : Int32} {rest : List Value} (hret : meth.sig.returnType = some .int) (hd : decode c.code pc = .ok (.ireturn, 1)) {fs : List Frame}
    (hl : ∀ (f : JFrame) (acts : List Action), f.method = m → f.locked = none → f.entered = [] → (doReturn e (T.setTop f) acts (some (.int z))).1 = T.setFrames fs) : Steps p.tables e below (T.setTop (mkF m pc Ls (.int z :: rest))) (T.setFrames fs) := by
  have hm' : T.vm.method? m = some meth := X.method'
  have hn : narrow .int (.int z) = .int z := rfl
  show Steps p.tables e below (T.setTop { method := m, pc := pc, locals := Ls, stack := _ :: rest, locked := none }) _
  jvm_step X.here [X.here.top, hx, hd, hm', hret, hn]
  first | (intro acts; rw [hl _ acts rfl rfl rfl]) | rw [hl _ _ rfl rfl rfl]
  exact Steps.refl _
theorem retL (X : Stand p l e R s m args below meth c T locs cells slots) (hx : p.tables.exec = Jvm.exec) {pc : Nat} {Ls : Array Slot} {z : Int64} {rest : List Value} (hret : meth.sig.returnType = some .long) (hd : decode c.code pc = .ok (.lreturn, 1)) {fs : List Frame}
    (hl : ∀ (f : JFrame) (acts : List Action), f.method = m → f.locked = none → f.entered = [] → (doReturn e (T.setTop f) acts (some (.long z))).1 = T.setFrames fs) : Steps p.tables e below (T.setTop (mkF m pc Ls (.long z :: rest))) (T.setFrames fs) := by
  have hm' : T.vm.method? m = some meth := X.method'
  have hn : narrow .long (.long z) = .long z := rfl
  show Steps p.tables e below (T.setTop { method := m, pc := pc, locals := Ls, stack := _ :: rest, locked := none }) _
  jvm_step X.here [X.here.top, hx, hd, hm', hret, hn]
  first | (intro acts; rw [hl _ acts rfl rfl rfl]) | rw [hl _ _ rfl rfl rfl]
  exact Steps.refl _
end New
end Jvm.RoadKit
namespace Jvm.Pilot.@@N@@
open Jvm Jvm.ClassFile Sem Op Lib Jvm.Free Jvm.Stand Jvm.LawKit Jvm.RoadKit Bundle Jvm.Pilot.@@N@@.Jvm.D

theorem own_toN {i : Nat} (h : i < 2147483648) : (Int32.ofNat i).toInt = i := Int32.toInt_ofNat_of_lt (by omega)
theorem own_clamp {i : Nat} (h : i < 2147483648) : (Int32.ofNat i).toNatClampNeg = i := by
  rw [Int32.toNatClampNeg, own_toN h]; omega
theorem own_ltN {i j : Nat} (hi : i < 2147483648) (hj : j < 2147483648) : Int32.ofNat i < Int32.ofNat j ↔ i < j := by
  rw [Int32.lt_iff_toInt_lt, own_toN hi, own_toN hj]; omega
theorem own_injN {i j : Nat} (hi : i < 2147483648) (hj : j < 2147483648) : Int32.ofNat i = Int32.ofNat j ↔ i = j := by
  rw [← Int32.toInt_inj, own_toN hi, own_toN hj]; omega
theorem own_nn {i : Nat} (h : i < 2147483648) : ¬ Int32.ofNat i < 0 := by
  rw [Int32.lt_iff_toInt_lt, own_toN h, show (0 : Int32).toInt = 0 from by decide]; omega
theorem own_addN (i j : Nat) : Int32.ofNat i + Int32.ofNat j = Int32.ofNat (i + j) := (Int32.ofNat_add i j).symm
theorem own_mulN (i j : Nat) : Int32.ofNat i * Int32.ofNat j = Int32.ofNat (i * j) := (Int32.ofNat_mul i j).symm
/-! tables of ints by a function -/
def own_tab (f : Nat → Int32) (n : Nat) : List Value := (List.range n).map fun j => .int (f j)
theorem own_tab_len (f : Nat → Int32) (n : Nat) : (own_tab f n).length = n := by simp [own_tab]
theorem own_tab_get {f : Nat → Int32} {n j : Nat} (h : j < n) (d : Value) : (own_tab f n).getD j d = .int (f j) := by
  simp [own_tab, List.getD_eq_getElem?_getD, List.getElem?_range h]
theorem own_tab_set (f : Nat → Int32) (n j : Nat) (x : Int32) : (own_tab f n).set j (.int x) = own_tab (fun i => if i = j then x else f i) n := by
  apply List.ext_getElem
  · simp [own_tab]
  · intro i h1 h2
    simp only [own_tab, List.getElem_set, List.getElem_map, List.getElem_range]
    by_cases h : i = j
    · subst h; simp
    · simp [h, Ne.symm h]
theorem own_tab_pad (n : Nat) : own_tab (fun _ => 0) n = [] ++ List.replicate n (Value.int (0 : Int32)) := by
  apply List.ext_getElem
  · simp [own_tab]
  · intro i h1 h2; simp [own_tab]

theorem own_shl1 {i : Nat} (h : i < 1073741824) : (Int32.ofNat i <<< ((1 : Int32) &&& 31)) = Int32.ofNat (2 * i) := by
  rw [show ((1 : Int32) &&& 31) = 1 from by decide]
  apply Int32.toBitVec_inj.mp
  apply BitVec.eq_of_toNat_eq
  have e : (Int32.ofNat i <<< (1 : Int32)).toBitVec = BitVec.ofNat 32 i <<< 1 := rfl
  rw [e]
  have e2 : (Int32.ofNat (2 * i)).toBitVec = BitVec.ofNat 32 (2 * i) := rfl
  rw [e2, BitVec.toNat_shiftLeft, BitVec.toNat_ofNat, BitVec.toNat_ofNat, Nat.shiftLeft_eq]
  omega
theorem own_shr1 {i : Nat} (h : i < 1073741824) : (Int32.ofNat (2 * i) >>> ((1 : Int32) &&& 31)) = Int32.ofNat i := by
  rw [show ((1 : Int32) &&& 31) = 1 from by decide]
  apply Int32.toBitVec_inj.mp
  apply BitVec.eq_of_toInt_eq
  have e : (Int32.ofNat (2 * i) >>> (1 : Int32)).toBitVec = (BitVec.ofNat 32 (2 * i)).sshiftRight 1 := rfl
  rw [e, BitVec.toInt_sshiftRight]
  have e1 : (BitVec.ofNat 32 (2 * i)).toInt = (2 * i : Nat) := own_toN (i := 2 * i) (by omega)
  have e2 : (Int32.ofNat i).toBitVec.toInt = i := own_toN (i := i) (by omega)
  rw [e1, e2, Int.shiftRight_eq_div_pow]
  omega
theorem own_shr0 (x : Int32) : (x >>> ((0 : Int32) &&& 31)) = x := by
  rw [show ((0 : Int32) &&& 31) = 0 from by decide]
  apply Int32.toBitVec_inj.mp
  show x.toBitVec.sshiftRight 0 = x.toBitVec
  simp
theorem own_shl0 (x : Int32) : (x <<< ((0 : Int32) &&& 31)) = x := by
  rw [show ((0 : Int32) &&& 31) = 0 from by decide]
  apply Int32.toBitVec_inj.mp
  show x.toBitVec <<< 0 = x.toBitVec
  simp
def own_ch (x : Int32) : Prop := 0 ≤ x.toInt ∧ x.toInt ≤ 65535
theorem own_chN {x : Int32} (h : own_ch x) : ∃ k, k ≤ 65535 ∧ x = Int32.ofNat k := by
  refine ⟨x.toInt.toNat, by have := h.2; omega, Int32.toInt_inj.mp ?_⟩
  have := h.1; have := h.2
  rw [own_toN (by omega)]; omega
def own_lo (x : Int32) : Int32 := x.toInt8.toInt32
def own_hi (x : Int32) : Int32 := (x >>> ((8 : Int32) &&& 31)).toInt8.toInt32
theorem own_lo255 (x : Int32) : (own_lo x) &&& 255 = x &&& 255 := by
  apply Int32.toBitVec_inj.mp
  show (x.toBitVec.signExtend 8).signExtend 32 &&& 255#32 = x.toBitVec &&& 255#32
  generalize x.toBitVec = b
  apply BitVec.eq_of_getLsbD_eq
  intro i hi
  simp only [BitVec.getLsbD_and, BitVec.getLsbD_signExtend]
  by_cases h : i < 8
  · simp [h, hi]
  · have : (255#32).getLsbD i = false := by
      have : ∀ i < 32, ¬ i < 8 → (255#32).getLsbD i = false := by decide
      exact this i hi h
    simp [this]
theorem own_and255N {k : Nat} (h : k < 2147483648) : Int32.ofNat k &&& 255 = Int32.ofNat (k % 256) := by
  apply Int32.toBitVec_inj.mp
  show BitVec.ofNat 32 k &&& 255#32 = BitVec.ofNat 32 (k % 256)
  apply BitVec.eq_of_toNat_eq
  rw [BitVec.toNat_and, show (255#32).toNat = 2 ^ 8 - 1 from by decide, Nat.and_two_pow_sub_one_eq_mod, BitVec.toNat_ofNat, BitVec.toNat_ofNat]
  omega
theorem own_shr8 {i : Nat} (h : i < 2147483648) : (Int32.ofNat i >>> ((8 : Int32) &&& 31)) = Int32.ofNat (i / 256) := by
  rw [show ((8 : Int32) &&& 31) = 8 from by decide]
  apply Int32.toBitVec_inj.mp
  apply BitVec.eq_of_toInt_eq
  have e : (Int32.ofNat i >>> (8 : Int32)).toBitVec = (BitVec.ofNat 32 i).sshiftRight 8 := rfl
  rw [e, BitVec.toInt_sshiftRight]
  have e1 : (BitVec.ofNat 32 i).toInt = (i : Nat) := own_toN (i := i) (by omega)
  have e2 : (Int32.ofNat (i / 256)).toBitVec.toInt = (i / 256 : Nat) := own_toN (i := i / 256) (by omega)
  rw [e1, e2, Int.shiftRight_eq_div_pow]
  omega
theorem own_shl8 {i : Nat} (h : i < 65536) : (Int32.ofNat i <<< ((8 : Int32) &&& 31)) = Int32.ofNat (256 * i) := by
  rw [show ((8 : Int32) &&& 31) = 8 from by decide]
  apply Int32.toBitVec_inj.mp
  apply BitVec.eq_of_toNat_eq
  have e : (Int32.ofNat i <<< (8 : Int32)).toBitVec = BitVec.ofNat 32 i <<< 8 := rfl
  rw [e]
  have e2 : (Int32.ofNat (256 * i)).toBitVec = BitVec.ofNat 32 (256 * i) := rfl
  rw [e2, BitVec.toNat_shiftLeft, BitVec.toNat_ofNat, BitVec.toNat_ofNat, Nat.shiftLeft_eq]
  omega
theorem own_i2c {k : Nat} (h : k < 65536) : (Int32.ofNat k).toUInt32.toUInt16.toUInt32.toInt32 = Int32.ofNat k := by
  apply Int32.toInt_inj.mp
  have q := c_i2c (Int32.ofNat k)
  rw [own_toN (by omega)] at q ⊢
  omega
theorem own_i2cc {x : Int32} (h : own_ch x) : x.toUInt32.toUInt16.toUInt32.toInt32 = x := by
  obtain ⟨k, hk, rfl⟩ := own_chN h
  exact own_i2c (by omega)
theorem own_orN {a b : Nat} (ha : a < 256) (hb : b < 256) : Int32.ofNat a ||| Int32.ofNat (256 * b) = Int32.ofNat (a + 256 * b) := by
  apply Int32.toBitVec_inj.mp
  show BitVec.ofNat 32 a ||| BitVec.ofNat 32 (256 * b) = BitVec.ofNat 32 (a + 256 * b)
  apply BitVec.eq_of_toNat_eq
  rw [BitVec.toNat_or, BitVec.toNat_ofNat, BitVec.toNat_ofNat, BitVec.toNat_ofNat, Nat.mod_eq_of_lt (by omega), Nat.mod_eq_of_lt (by omega), Nat.mod_eq_of_lt (by omega)]
  have q := Nat.two_pow_add_eq_or_of_lt (i := 8) (b := a) (by omega) b
  rw [Nat.or_comm, ← show 2 ^ 8 * b = 256 * b from by omega, ← q]
  omega
theorem own_glue {x : Int32} (h : own_ch x) : ((((own_lo x) &&& 255) <<< ((0 : Int32) &&& 31)) ||| (((own_hi x) &&& 255) <<< ((8 : Int32) &&& 31))).toUInt32.toUInt16.toUInt32.toInt32 = x := by
  obtain ⟨k, hk, rfl⟩ := own_chN h
  rw [own_shl0, own_lo255, own_and255N (by omega)]
  have e : own_hi (Int32.ofNat k) = own_lo (Int32.ofNat (k / 256)) := by rw [own_hi, own_shr8 (by omega), own_lo]
  rw [e, own_lo255, own_and255N (by omega), own_shl8 (by omega), own_orN (by omega) (by omega), own_i2c (by omega)]
  congr 1; omega
theorem own_l1c {x : Int32} (h0 : 0 ≤ x.toInt) (h : x.toInt ≤ 255) : ((own_lo x) &&& 255).toUInt32.toUInt16.toUInt32.toInt32 = x := by
  obtain ⟨k, hk, rfl⟩ := own_chN (x := x) ⟨h0, by omega⟩
  rw [own_toN (by omega)] at h
  rw [own_lo255, own_and255N (by omega), Nat.mod_eq_of_lt (by omega), own_i2c (by omega)]
theorem own_lolo (x : Int32) : nar .byte (own_lo x) = own_lo x := by
  show x.toInt8.toInt32.toInt8.toInt32 = x.toInt8.toInt32
  rw [Int8.toInt8_toInt32]
theorem own_hihi (x : Int32) : nar .byte (own_hi x) = own_hi x := own_lolo _
def own_u16 (f : Nat → Int32) (i : Nat) : Int32 := if i % 2 = 0 then own_lo (f (i / 2)) else own_hi (f (i / 2))
theorem own_u16e (f : Nat → Int32) (i : Nat) : own_u16 f (2 * i) = own_lo (f i) := by
  rw [own_u16, if_pos (by omega), show 2 * i / 2 = i from by omega]
theorem own_u16o (f : Nat → Int32) (i : Nat) : own_u16 f (2 * i + 1) = own_hi (f i) := by
  rw [own_u16, if_neg (by omega), show (2 * i + 1) / 2 = i from by omega]
def own_l1 (f : Nat → Int32) (i : Nat) : Int32 := own_lo (f i)
theorem own_tab_cong {f g : Nat → Int32} {n : Nat} (h : ∀ j, j < n → f j = g j) : own_tab f n = own_tab g n := by
  unfold own_tab
  apply List.map_congr_left
  intro j hj
  rw [h j (List.mem_range.mp hj)]

theorem own_sel {Z s : State} {a0 args : Array Value} {y : MethodName} {n : Nat} (hZ : Z.Warmed39 s.vm) (wi : (Cond.instantiable y.cls n).before a0 Z = true) (wp : (Cond.privateMethod y).before a0 Z = true) (wn : (Cond.instanceMethod y).before a0 Z = true) (hy : y.cls ≠ "java/lang/invoke/MethodHandle" ∧ y.cls ≠ "java/lang/invoke/VarHandle") : (Cond.selects y.cls y y).before args s = true := by
  have wi' : (Cond.instantiable y.cls n).before args s = true := mv hZ wi
  obtain ⟨c, k, h1, h2, -, h4, -⟩ := Cond.instantiable_spec wi'
  rw [Bool.or_eq_false_iff] at h4
  exact Stand.selects_self_of_private h1 h2 h4.1 (Cond.privateMethod_at (mvP hZ wp (args := args))) (mv hZ wn) hy

theorem own_rn {v : Value} {C : String} (h : v.isRef = true) : narrow (.object C) v = v := by rcases ref_cases h with rfl | ⟨a, rfl⟩ <;> rfl
theorem own_cat {v : Value} (h : v.isRef = true) : v.category = 1 := by rcases ref_cases h with rfl | ⟨a, rfl⟩ <;> rfl
theorem own_narc {x : Int32} (h : own_ch x) : some (Value.int (nar .char x)) = some (Value.int x) := congrArg (fun z => some (Value.int z)) (own_i2cc h)
theorem own_255 {x : Int32} : ¬ (255 : Int32) < x ↔ x.toInt ≤ 255 := by
  rw [Int32.lt_iff_toInt_lt, show (255 : Int32).toInt = 255 from by decide]; omega
def own_ST (Z : State) (zc : Int32) (fm : Value) : Prop := Sta Z Z.heap "java/lang/String" "COMPACT_STRINGS" "Z" (.int zc) ∧ ¬ (zc = (0 : Int32)) ∧ Sta Z Z.heap "java/lang/StringUTF16" "$assertionsDisabled" "Z" (.int 1) ∧ Sta Z Z.heap "java/lang/StringUTF16" "HI_BYTE_SHIFT" "I" (.int 0) ∧ Sta Z Z.heap "java/lang/StringUTF16" "LO_BYTE_SHIFT" "I" (.int 8) ∧ Sta Z Z.heap "jdk/internal/util/Preconditions" "SIOOBE_FORMATTER" "Ljava/util/function/BiFunction;" fm ∧ fm.isRef = true
/-- a byte array that spells f in n chars: one byte each, or two -/
def own_BY (Z : State) (h : Heap) (tb : Addr) (cd : Int32) (f : Nat → Int32) (n : Nat) : Prop := ∃ kb : ClassId, (cd = 0 ∧ (∀ j, j < n → ¬ (255 : Int32) < f j) ∧ Arv Z h tb kb .byte (Int32.ofNat n) (own_tab (own_l1 f) n) (.int (0 : Int32))) ∨ (cd = 1 ∧ (∃ j, j < n ∧ (255 : Int32) < f j) ∧ Arv Z h tb kb .byte (Int32.ofNat (2 * n)) (own_tab (own_u16 f) (2 * n)) (.int (0 : Int32)))
theorem own_BY.lt {Z : State} {h : Heap} {tb : Addr} {cd : Int32} {f : Nat → Int32} {n : Nat} (B : own_BY Z h tb cd f n) : tb < h.size := by
  obtain ⟨kb, ⟨-, -, V⟩ | ⟨-, -, V⟩⟩ := B <;> exact V.lt
theorem own_BY.keep {Z : State} {h h' : Heap} {tb : Addr} {cd : Int32} {f : Nat → Int32} {n : Nat} {ws : List Addr} (B : own_BY Z h tb cd f n) (K : Keep h h' ws) (q : tb ∉ ws) : own_BY Z h' tb cd f n := by
  obtain ⟨kb, ⟨a, b, V⟩ | ⟨a, b, V⟩⟩ := B
  · exact ⟨kb, Or.inl ⟨a, b, V.keep K q⟩⟩
  · exact ⟨kb, Or.inr ⟨a, b, V.keep K q⟩⟩
theorem own_BY.other {Z : State} {h h' : Heap} {tb a : Addr} {sl : Nat} {v : Value} {cd : Int32} {f : Nat → Int32} {n : Nat} (B : own_BY Z h tb cd f n) (W : Wr h h' a sl v) (q : tb ≠ a) : own_BY Z h' tb cd f n := by
  obtain ⟨kb, ⟨x, y, V⟩ | ⟨x, y, V⟩⟩ := B
  · exact ⟨kb, Or.inl ⟨x, y, V.other W q⟩⟩
  · exact ⟨kb, Or.inr ⟨x, y, V.other W q⟩⟩
theorem own_BY.cd {Z : State} {h : Heap} {tb : Addr} {cd : Int32} {f : Nat → Int32} {n : Nat} (B : own_BY Z h tb cd f n) : cd = 0 ∨ cd = 1 := by
  obtain ⟨kb, ⟨x, -⟩ | ⟨x, -⟩⟩ := B
  · exact Or.inl x
  · exact Or.inr x
/-- a String that spells f in n chars -/
def own_STR (Z : State) (h : Heap) (sa : Addr) (f : Nat → Int32) (n : Nat) : Prop := ∃ (tb : Addr) (cd : Int32), Exa Z h sa "java/lang/String" ∧ Fld Z h sa "java/lang/String" "value" "[B" (.ref tb) ∧ Fld Z h sa "java/lang/String" "coder" "B" (.int cd) ∧ own_BY Z h tb cd f n
theorem own_STR.keep {Z : State} {h h' : Heap} {sa : Addr} {f : Nat → Int32} {n : Nat} (P : own_STR Z h sa f n) (K : Keep h h' []) : own_STR Z h' sa f n := by
  obtain ⟨tb, cd, E, F, G, B⟩ := P
  exact ⟨tb, cd, E.keep K, F.keep K nin0, G.keep K nin0, B.keep K nin0⟩
theorem own_STR.exa {Z : State} {h : Heap} {sa : Addr} {f : Nat → Int32} {n : Nat} (P : own_STR Z h sa f n) : Exa Z h sa "java/lang/String" := by
  obtain ⟨tb, cd, E, -⟩ := P; exact E
theorem own_s6 {a b : Addr} {x y z w v : Int32} {o : Slot} (h : One o) : storeLocals #[.val (.ref a), .val (.int x), .val (.ref b), .val (.int y), .val (.int z), .val (.int w), o] 6 (.int v) = some #[.val (.ref a), .val (.int x), .val (.ref b), .val (.int y), .val (.int z), .val (.int w), .val (.int v)] := by
  rcases h with rfl | ⟨u, rfl, hu⟩
  · rfl
  · cases u <;> first | rfl | (simp [Value.category] at hu)
theorem own_cg {Z : State} {h : Heap} {a : Addr} {k : ClassId} {ty : FieldType} {z : Int32} {f g : Nat → Int32} {n : Nat} {d : Value} (V : Arv Z h a k ty z (own_tab f n) d) (e : ∀ j, j < n → f j = g j) : Arv Z h a k ty z (own_tab g n) d := by rw [← own_tab_cong e]; exact V
theorem own_BYne {Z : State} {h : Heap} {tb a : Addr} {cd : Int32} {f : Nat → Int32} {n : Nat} (B : own_BY Z h tb cd f n) (q : ∀ kb z vs dv, Arv Z h tb kb .byte z vs dv → tb ≠ a) : tb ≠ a := by
  obtain ⟨kb, ⟨-, -, V⟩ | ⟨-, -, V⟩⟩ := B <;> exact q _ _ _ _ V
theorem own_wrong {n : Nat} (h : n ≤ 16) : Int32.ofNat (2 * n) = Int32.ofNat (2 * n) := rfl
theorem own_coder {n : Nat} (h : n ≤ 16) (h0 : 0 < n) : (((Int32.ofNat n - Int32.ofNat (2 * n)).toUInt32 >>> ((31 : Int32) &&& 31).toUInt32).toInt32).toInt8.toInt32 = 1 := by
  have : ∀ n, n < 17 → 0 < n → (((Int32.ofNat n - Int32.ofNat (2 * n)).toUInt32 >>> ((31 : Int32) &&& 31).toUInt32).toInt32).toInt8.toInt32 = 1 := by decide
  exact this n (by omega) h0
theorem own_coder0 (x : Int32) : (((x - x).toUInt32 >>> ((31 : Int32) &&& 31).toUInt32).toInt32).toInt8.toInt32 = 0 := by
  rw [show x - x = 0 from by simp]; decide

theorem own_wS {Z : State} {a0 : Array Value} (hw : ∀ d ∈ tables_1, d.before a0 Z = true) : ∀ a ∈ Bundle.stringAtoms, a.before a0 Z = true := by
  intro d hd
  simp only [Bundle.stringAtoms, Bundle.sN, List.mem_cons, List.not_mem_nil, or_false] at hd
  rcases hd with rfl | rfl | rfl | rfl | rfl | rfl | rfl
  · exact (hw _ (List.mem_of_getElem? (i := 12) rfl))
  · exact (hw _ (List.mem_of_getElem? (i := 11) rfl))
  · exact (hw _ (List.mem_of_getElem? (i := 28) rfl))
  · exact (hw _ (List.mem_of_getElem? (i := 38) rfl))
  · exact (hw _ (List.mem_of_getElem? (i := 36) rfl))
  · exact (hw _ (List.mem_of_getElem? (i := 97) rfl))
  · exact (hw _ (List.mem_of_getElem? (i := 98) rfl))
theorem own_EL {Z : State} {a0 : Array Value} (hw : ∀ d ∈ tables_1, d.before a0 Z = true) : EW Z a0 consts_1 := (EW.cons (hw _ (List.mem_of_getElem? (i := 96) rfl)) (by simp) EW.nil)
theorem own_safe {Z : State} {vm : Vm} {h : Heap} {x : Addr} {EL : List (String × Nat)} (hal : Z.vm.Alike vm) (E : Exa Z h x "java/lang/String") (F : Fld Z h x "java/lang/String" "value" "[B" .null) : Safe Z EL vm h x := fun B => by
  obtain ⟨p, -, u, a, -, q, -, G, rfl | rfl⟩ := B
  · obtain ⟨cS, ⟨⟨s1, s2, s3, ⟨cv, kv, iv, s4, s4'⟩, -, -, -, s8, -⟩, -⟩, -⟩ := G
    obtain ⟨cell, cf, k, i, f, e1, e2, -, -, -, -, e7⟩ := F
    obtain ⟨k', z4⟩ := ff_back (U := Wst Z vm h) hal s4
    cases e2.symm.trans z4
    cases (show h[q.sa]? = some q.sC from s1).symm.trans e1
    rw [s8] at e7; cases e7
  · obtain ⟨cell, k, e1, e2, -⟩ := E
    cases (show h[q.sd]? = some q.SA from G.hd).symm.trans e1
    obtain ⟨cS, -, -, f, -⟩ := G
    have f' : Z.vm.findClass "[B" = some q.SA.cls := by rw [← hal.findClass]; exact f
    exact absurd rfl (ids_ne f' e2 (by decide))

theorem own_chn (x : Int32) : own_ch (nar .char x) := by
  have q := c_i2c x
  show 0 ≤ (x.toUInt32.toUInt16.toUInt32.toInt32).toInt ∧ _
  unfold own_ch at *
  constructor <;> (try show (x.toUInt32.toUInt16.toUInt32.toInt32).toInt ≤ 65535) <;> omega
def own_ok (f : Nat → Int32) : Prop := ∀ j, j < 9 → ¬ f j < 48 ∧ ¬ (57 : Int32) < f j
theorem own_ok9 {f : Nat → Int32} (h0 : ¬ f 0 < 48 ∧ ¬ (57 : Int32) < f 0) (h1 : ¬ f 1 < 48 ∧ ¬ (57 : Int32) < f 1) (h2 : ¬ f 2 < 48 ∧ ¬ (57 : Int32) < f 2) (h3 : ¬ f 3 < 48 ∧ ¬ (57 : Int32) < f 3) (h4 : ¬ f 4 < 48 ∧ ¬ (57 : Int32) < f 4) (h5 : ¬ f 5 < 48 ∧ ¬ (57 : Int32) < f 5) (h6 : ¬ f 6 < 48 ∧ ¬ (57 : Int32) < f 6) (h7 : ¬ f 7 < 48 ∧ ¬ (57 : Int32) < f 7) (h8 : ¬ f 8 < 48 ∧ ¬ (57 : Int32) < f 8) : own_ok f := by
  intro j hj
  match j, hj with
  | 0, _ => exact h0
  | 1, _ => exact h1
  | 2, _ => exact h2
  | 3, _ => exact h3
  | 4, _ => exact h4
  | 5, _ => exact h5
  | 6, _ => exact h6
  | 7, _ => exact h7
  | 8, _ => exact h8
theorem own_dg {x : Int32} (h : ¬ x < 48 ∧ ¬ (57 : Int32) < x) : ∃ d, d ≤ 9 ∧ x - 48 = Int32.ofNat d := by
  obtain ⟨h1, h2⟩ := h
  rw [Int32.lt_iff_toInt_lt, show (48 : Int32).toInt = 48 from by decide] at h1
  rw [Int32.lt_iff_toInt_lt, show (57 : Int32).toInt = 57 from by decide] at h2
  obtain ⟨k, hk, rfl⟩ := own_chN (x := x) ⟨by omega, by omega⟩
  rw [own_toN (by omega)] at h1 h2
  have q : ∀ d, d < 10 → Int32.ofNat (48 + d) - 48 = Int32.ofNat d := by decide
  refine ⟨k - 48, by omega, ?_⟩
  have := q (k - 48) (by omega)
  rw [show 48 + (k - 48) = k from by omega] at this
  exact this
set_option maxRecDepth 65536 in
theorem own_fin : ∀ t, t < 397 → ∀ d, d < 10 → ((Int32.ofNat d = Int32.ofNat t % 11) ↔ ((Int32.ofNat t + (-1) * Int32.ofNat d) % 11 = 0)) := by decide +kernel
theorem own_pos (x : Int32) : ∃ k, k < 9 ∧ (x &&& (2147483647 : Int32)) % (9 : Int32) = Int32.ofNat k := by
  have h := c_and x 2147483647 (by decide)
  rw [show (2147483647 : Int32).toInt = 2147483647 from by decide] at h
  obtain ⟨y, hy⟩ : ∃ y, y = x &&& (2147483647 : Int32) := ⟨_, rfl⟩
  rw [← hy] at h ⊢
  have e : (y % (9 : Int32)).toInt = y.toInt.tmod 9 := by
    rw [Int32.toInt_mod]; rfl
  refine ⟨(y.toInt.tmod 9).toNat, ?_, ?_⟩
  · rw [Int.tmod_eq_emod_of_nonneg h.1]; omega
  · apply Int32.toInt_inj.mp
    rw [e, own_toN (by rw [Int.tmod_eq_emod_of_nonneg h.1]; omega), Int.tmod_eq_emod_of_nonneg h.1]; omega

theorem d1_0 : decode method_2_code 0 = .ok (.lload_n 0, 1) := by decide +kernel
theorem d1_1 : decode method_2_code 1 = .ok (.iconst 4, 1) := by decide +kernel
theorem d1_2 : decode method_2_code 2 = .ok (.iload_n 2, 1) := by decide +kernel
theorem d1_3 : decode method_2_code 3 = .ok (.imul, 1) := by decide +kernel
theorem d1_4 : decode method_2_code 4 = .ok (.lushr, 1) := by decide +kernel
theorem d1_5 : decode method_2_code 5 = .ok (.ldc2_w 7, 3) := by decide +kernel
theorem d1_8 : decode method_2_code 8 = .ok (.land, 1) := by decide +kernel
theorem d1_9 : decode method_2_code 9 = .ok (.ldc2_w 9, 3) := by decide +kernel
theorem d1_12 : decode method_2_code 12 = .ok (.lrem, 1) := by decide +kernel
theorem d1_13 : decode method_2_code 13 = .ok (.l2i, 1) := by decide +kernel
theorem d1_14 : decode method_2_code 14 = .ok (.ireturn, 1) := by decide +kernel
theorem d2_0 : decode method_3_code 0 = .ok (.iload_n 0, 1) := by decide +kernel
theorem d2_1 : decode method_3_code 1 = .ok (.bipush 48, 2) := by decide +kernel
theorem d2_3 : decode method_3_code 3 = .ok (.if_icmp .lt 13, 3) := by decide +kernel
theorem d2_6 : decode method_3_code 6 = .ok (.iload_n 0, 1) := by decide +kernel
theorem d2_7 : decode method_3_code 7 = .ok (.bipush 57, 2) := by decide +kernel
theorem d2_9 : decode method_3_code 9 = .ok (.if_icmp .gt 7, 3) := by decide +kernel
theorem d2_12 : decode method_3_code 12 = .ok (.iconst 1, 1) := by decide +kernel
theorem d2_13 : decode method_3_code 13 = .ok (.goto 4, 3) := by decide +kernel
theorem d2_16 : decode method_3_code 16 = .ok (.iconst 0, 1) := by decide +kernel
theorem d2_17 : decode method_3_code 17 = .ok (.ireturn, 1) := by decide +kernel
theorem d3_0 : decode jdk_42_method_3_code 0 = .ok (.aload_n 0, 1) := by decide +kernel
theorem d3_1 : decode jdk_42_method_3_code 1 = .ok (.aload_n 1, 1) := by decide +kernel
theorem d3_2 : decode jdk_42_method_3_code 2 = .ok (.iconst 0, 1) := by decide +kernel
theorem d3_3 : decode jdk_42_method_3_code 3 = .ok (.aload_n 1, 1) := by decide +kernel
theorem d3_4 : decode jdk_42_method_3_code 4 = .ok (.arraylength, 1) := by decide +kernel
theorem d3_5 : decode jdk_42_method_3_code 5 = .ok (.aconst_null, 1) := by decide +kernel
theorem d3_6 : decode jdk_42_method_3_code 6 = .ok (.invokespecial 27, 3) := by decide +kernel
theorem d3_9 : decode jdk_42_method_3_code 9 = .ok (.return_, 1) := by decide +kernel
theorem d4_0 : decode jdk_42_method_149_code 0 = .ok (.aload_n 0, 1) := by decide +kernel
theorem d4_1 : decode jdk_42_method_149_code 1 = .ok (.invokespecial 1, 3) := by decide +kernel
theorem d4_4 : decode jdk_42_method_149_code 4 = .ok (.iload_n 3, 1) := by decide +kernel
theorem d4_5 : decode jdk_42_method_149_code 5 = .ok (.ifCond .ne 22, 3) := by decide +kernel
theorem d4_8 : decode jdk_42_method_149_code 8 = .ok (.aload_n 0, 1) := by decide +kernel
theorem d4_9 : decode jdk_42_method_149_code 9 = .ok (.ldc 7, 2) := by decide +kernel
theorem d4_11 : decode jdk_42_method_149_code 11 = .ok (.getfield 9, 3) := by decide +kernel
theorem d4_14 : decode jdk_42_method_149_code 14 = .ok (.putfield 9, 3) := by decide +kernel
theorem d4_17 : decode jdk_42_method_149_code 17 = .ok (.aload_n 0, 1) := by decide +kernel
theorem d4_18 : decode jdk_42_method_149_code 18 = .ok (.ldc 7, 2) := by decide +kernel
theorem d4_20 : decode jdk_42_method_149_code 20 = .ok (.getfield 15, 3) := by decide +kernel
theorem d4_23 : decode jdk_42_method_149_code 23 = .ok (.putfield 15, 3) := by decide +kernel
theorem d4_26 : decode jdk_42_method_149_code 26 = .ok (.return_, 1) := by decide +kernel
theorem d4_27 : decode jdk_42_method_149_code 27 = .ok (.getstatic 38, 3) := by decide +kernel
theorem d4_30 : decode jdk_42_method_149_code 30 = .ok (.ifCond .eq 28, 3) := by decide +kernel
theorem d4_33 : decode jdk_42_method_149_code 33 = .ok (.aload_n 1, 1) := by decide +kernel
theorem d4_34 : decode jdk_42_method_149_code 34 = .ok (.iload_n 2, 1) := by decide +kernel
theorem d4_35 : decode jdk_42_method_149_code 35 = .ok (.iload_n 3, 1) := by decide +kernel
theorem d4_36 : decode jdk_42_method_149_code 36 = .ok (.invokestatic 177, 3) := by decide +kernel
theorem d4_39 : decode jdk_42_method_149_code 39 = .ok (.astore 5, 2) := by decide +kernel
theorem d4_41 : decode jdk_42_method_149_code 41 = .ok (.aload_n 0, 1) := by decide +kernel
theorem d4_42 : decode jdk_42_method_149_code 42 = .ok (.aload 5, 2) := by decide +kernel
theorem d4_44 : decode jdk_42_method_149_code 44 = .ok (.iload_n 3, 1) := by decide +kernel
theorem d4_45 : decode jdk_42_method_149_code 45 = .ok (.invokestatic 47, 3) := by decide +kernel
theorem d4_48 : decode jdk_42_method_149_code 48 = .ok (.putfield 15, 3) := by decide +kernel
theorem d4_51 : decode jdk_42_method_149_code 51 = .ok (.aload_n 0, 1) := by decide +kernel
theorem d4_52 : decode jdk_42_method_149_code 52 = .ok (.aload 5, 2) := by decide +kernel
theorem d4_54 : decode jdk_42_method_149_code 54 = .ok (.putfield 9, 3) := by decide +kernel
theorem d4_57 : decode jdk_42_method_149_code 57 = .ok (.return_, 1) := by decide +kernel
theorem d6_0 : decode jdk_52_method_16_code 0 = .ok (.iload_n 2, 1) := by decide +kernel
theorem d6_1 : decode jdk_52_method_16_code 1 = .ok (.newarray .byte, 2) := by decide +kernel
theorem d6_3 : decode jdk_52_method_16_code 3 = .ok (.astore_n 3, 1) := by decide +kernel
theorem d6_4 : decode jdk_52_method_16_code 4 = .ok (.aload_n 0, 1) := by decide +kernel
theorem d6_5 : decode jdk_52_method_16_code 5 = .ok (.iload_n 1, 1) := by decide +kernel
theorem d6_6 : decode jdk_52_method_16_code 6 = .ok (.aload_n 3, 1) := by decide +kernel
theorem d6_7 : decode jdk_52_method_16_code 7 = .ok (.iconst 0, 1) := by decide +kernel
theorem d6_8 : decode jdk_52_method_16_code 8 = .ok (.iload_n 2, 1) := by decide +kernel
theorem d6_9 : decode jdk_52_method_16_code 9 = .ok (.invokestatic 115, 3) := by decide +kernel
theorem d6_12 : decode jdk_52_method_16_code 12 = .ok (.istore 4, 2) := by decide +kernel
theorem d6_14 : decode jdk_52_method_16_code 14 = .ok (.iload 4, 2) := by decide +kernel
theorem d6_16 : decode jdk_52_method_16_code 16 = .ok (.iload_n 2, 1) := by decide +kernel
theorem d6_17 : decode jdk_52_method_16_code 17 = .ok (.if_icmp .eq 40, 3) := by decide +kernel
theorem d6_20 : decode jdk_52_method_16_code 20 = .ok (.aload_n 0, 1) := by decide +kernel
theorem d6_21 : decode jdk_52_method_16_code 21 = .ok (.iload_n 1, 1) := by decide +kernel
theorem d6_22 : decode jdk_52_method_16_code 22 = .ok (.iload_n 2, 1) := by decide +kernel
theorem d6_23 : decode jdk_52_method_16_code 23 = .ok (.invokestatic 119, 3) := by decide +kernel
theorem d6_26 : decode jdk_52_method_16_code 26 = .ok (.astore 5, 2) := by decide +kernel
theorem d6_28 : decode jdk_52_method_16_code 28 = .ok (.aload 5, 2) := by decide +kernel
theorem d6_30 : decode jdk_52_method_16_code 30 = .ok (.iload 4, 2) := by decide +kernel
theorem d6_32 : decode jdk_52_method_16_code 32 = .ok (.invokestatic 71, 3) := by decide +kernel
theorem d6_35 : decode jdk_52_method_16_code 35 = .ok (.sipush 255, 3) := by decide +kernel
theorem d6_38 : decode jdk_52_method_16_code 38 = .ok (.if_icmp .gt 16, 3) := by decide +kernel
theorem d6_54 : decode jdk_52_method_16_code 54 = .ok (.aload 5, 2) := by decide +kernel
theorem d6_56 : decode jdk_52_method_16_code 56 = .ok (.areturn, 1) := by decide +kernel
theorem d6_57 : decode jdk_52_method_16_code 57 = .ok (.aload_n 3, 1) := by decide +kernel
theorem d6_58 : decode jdk_52_method_16_code 58 = .ok (.areturn, 1) := by decide +kernel
theorem d7_0 : decode jdk_52_method_21_code 0 = .ok (.iconst 0, 1) := by decide +kernel
theorem d7_1 : decode jdk_52_method_21_code 1 = .ok (.istore 5, 2) := by decide +kernel
theorem d7_3 : decode jdk_52_method_21_code 3 = .ok (.iload 5, 2) := by decide +kernel
theorem d7_5 : decode jdk_52_method_21_code 5 = .ok (.iload 4, 2) := by decide +kernel
theorem d7_7 : decode jdk_52_method_21_code 7 = .ok (.if_icmp .ge 37, 3) := by decide +kernel
theorem d7_10 : decode jdk_52_method_21_code 10 = .ok (.aload_n 0, 1) := by decide +kernel
theorem d7_11 : decode jdk_52_method_21_code 11 = .ok (.iload_n 1, 1) := by decide +kernel
theorem d7_12 : decode jdk_52_method_21_code 12 = .ok (.caload, 1) := by decide +kernel
theorem d7_13 : decode jdk_52_method_21_code 13 = .ok (.istore 6, 2) := by decide +kernel
theorem d7_15 : decode jdk_52_method_21_code 15 = .ok (.iload 6, 2) := by decide +kernel
theorem d7_17 : decode jdk_52_method_21_code 17 = .ok (.sipush 255, 3) := by decide +kernel
theorem d7_20 : decode jdk_52_method_21_code 20 = .ok (.if_icmp .le 6, 3) := by decide +kernel
theorem d7_23 : decode jdk_52_method_21_code 23 = .ok (.iload 5, 2) := by decide +kernel
theorem d7_25 : decode jdk_52_method_21_code 25 = .ok (.ireturn, 1) := by decide +kernel
theorem d7_26 : decode jdk_52_method_21_code 26 = .ok (.aload_n 2, 1) := by decide +kernel
theorem d7_27 : decode jdk_52_method_21_code 27 = .ok (.iload_n 3, 1) := by decide +kernel
theorem d7_28 : decode jdk_52_method_21_code 28 = .ok (.iload 6, 2) := by decide +kernel
theorem d7_30 : decode jdk_52_method_21_code 30 = .ok (.i2b, 1) := by decide +kernel
theorem d7_31 : decode jdk_52_method_21_code 31 = .ok (.bastore, 1) := by decide +kernel
theorem d7_32 : decode jdk_52_method_21_code 32 = .ok (.iinc 1 1, 3) := by decide +kernel
theorem d7_35 : decode jdk_52_method_21_code 35 = .ok (.iinc 3 1, 3) := by decide +kernel
theorem d7_38 : decode jdk_52_method_21_code 38 = .ok (.iinc 5 1, 3) := by decide +kernel
theorem d7_41 : decode jdk_52_method_21_code 41 = .ok (.goto (-38), 3) := by decide +kernel
theorem d7_44 : decode jdk_52_method_21_code 44 = .ok (.iload 4, 2) := by decide +kernel
theorem d7_46 : decode jdk_52_method_21_code 46 = .ok (.ireturn, 1) := by decide +kernel
theorem d8_0 : decode jdk_52_method_15_code 0 = .ok (.iload_n 1, 1) := by decide +kernel
theorem d8_1 : decode jdk_52_method_15_code 1 = .ok (.aload_n 0, 1) := by decide +kernel
theorem d8_2 : decode jdk_52_method_15_code 2 = .ok (.arraylength, 1) := by decide +kernel
theorem d8_3 : decode jdk_52_method_15_code 3 = .ok (.isub, 1) := by decide +kernel
theorem d8_4 : decode jdk_52_method_15_code 4 = .ok (.bipush 31, 2) := by decide +kernel
theorem d8_6 : decode jdk_52_method_15_code 6 = .ok (.iushr, 1) := by decide +kernel
theorem d8_7 : decode jdk_52_method_15_code 7 = .ok (.i2b, 1) := by decide +kernel
theorem d8_8 : decode jdk_52_method_15_code 8 = .ok (.ireturn, 1) := by decide +kernel
theorem d9_0 : decode prog_14_method_2_code 0 = .ok (.aload_n 0, 1) := by decide +kernel
theorem d9_1 : decode prog_14_method_2_code 1 = .ok (.invokevirtual 7, 3) := by decide +kernel
theorem d9_4 : decode prog_14_method_2_code 4 = .ok (.bipush 9, 2) := by decide +kernel
theorem d9_6 : decode prog_14_method_2_code 6 = .ok (.if_icmp .eq 5, 3) := by decide +kernel
theorem d9_9 : decode prog_14_method_2_code 9 = .ok (.iconst 0, 1) := by decide +kernel
theorem d9_10 : decode prog_14_method_2_code 10 = .ok (.ireturn, 1) := by decide +kernel
theorem d9_11 : decode prog_14_method_2_code 11 = .ok (.iconst 0, 1) := by decide +kernel
theorem d9_12 : decode prog_14_method_2_code 12 = .ok (.istore_n 1, 1) := by decide +kernel
theorem d9_13 : decode prog_14_method_2_code 13 = .ok (.iconst 0, 1) := by decide +kernel
theorem d9_14 : decode prog_14_method_2_code 14 = .ok (.istore_n 2, 1) := by decide +kernel
theorem d9_15 : decode prog_14_method_2_code 15 = .ok (.iload_n 2, 1) := by decide +kernel
theorem d9_16 : decode prog_14_method_2_code 16 = .ok (.bipush 9, 2) := by decide +kernel
theorem d9_18 : decode prog_14_method_2_code 18 = .ok (.if_icmp .ge 59, 3) := by decide +kernel
theorem d9_21 : decode prog_14_method_2_code 21 = .ok (.aload_n 0, 1) := by decide +kernel
theorem d9_22 : decode prog_14_method_2_code 22 = .ok (.iload_n 2, 1) := by decide +kernel
theorem d9_23 : decode prog_14_method_2_code 23 = .ok (.invokevirtual 15, 3) := by decide +kernel
theorem d9_26 : decode prog_14_method_2_code 26 = .ok (.istore_n 3, 1) := by decide +kernel
theorem d9_27 : decode prog_14_method_2_code 27 = .ok (.iload_n 3, 1) := by decide +kernel
theorem d9_28 : decode prog_14_method_2_code 28 = .ok (.bipush 48, 2) := by decide +kernel
theorem d9_30 : decode prog_14_method_2_code 30 = .ok (.if_icmp .lt 9, 3) := by decide +kernel
theorem d9_33 : decode prog_14_method_2_code 33 = .ok (.iload_n 3, 1) := by decide +kernel
theorem d9_34 : decode prog_14_method_2_code 34 = .ok (.bipush 57, 2) := by decide +kernel
theorem d9_36 : decode prog_14_method_2_code 36 = .ok (.if_icmp .le 5, 3) := by decide +kernel
theorem d9_39 : decode prog_14_method_2_code 39 = .ok (.iconst 0, 1) := by decide +kernel
theorem d9_40 : decode prog_14_method_2_code 40 = .ok (.ireturn, 1) := by decide +kernel
theorem d9_41 : decode prog_14_method_2_code 41 = .ok (.iload_n 3, 1) := by decide +kernel
theorem d9_42 : decode prog_14_method_2_code 42 = .ok (.bipush 48, 2) := by decide +kernel
theorem d9_44 : decode prog_14_method_2_code 44 = .ok (.isub, 1) := by decide +kernel
theorem d9_45 : decode prog_14_method_2_code 45 = .ok (.istore 4, 2) := by decide +kernel
theorem d9_47 : decode prog_14_method_2_code 47 = .ok (.iload_n 2, 1) := by decide +kernel
theorem d9_48 : decode prog_14_method_2_code 48 = .ok (.bipush 8, 2) := by decide +kernel
theorem d9_50 : decode prog_14_method_2_code 50 = .ok (.if_icmp .ge 10, 3) := by decide +kernel
theorem d9_53 : decode prog_14_method_2_code 53 = .ok (.bipush 9, 2) := by decide +kernel
theorem d9_55 : decode prog_14_method_2_code 55 = .ok (.iload_n 2, 1) := by decide +kernel
theorem d9_56 : decode prog_14_method_2_code 56 = .ok (.isub, 1) := by decide +kernel
theorem d9_57 : decode prog_14_method_2_code 57 = .ok (.goto 4, 3) := by decide +kernel
theorem d9_60 : decode prog_14_method_2_code 60 = .ok (.iconst (-1), 1) := by decide +kernel
theorem d9_61 : decode prog_14_method_2_code 61 = .ok (.istore 5, 2) := by decide +kernel
theorem d9_63 : decode prog_14_method_2_code 63 = .ok (.iload_n 1, 1) := by decide +kernel
theorem d9_64 : decode prog_14_method_2_code 64 = .ok (.iload 5, 2) := by decide +kernel
theorem d9_66 : decode prog_14_method_2_code 66 = .ok (.iload 4, 2) := by decide +kernel
theorem d9_68 : decode prog_14_method_2_code 68 = .ok (.imul, 1) := by decide +kernel
theorem d9_69 : decode prog_14_method_2_code 69 = .ok (.iadd, 1) := by decide +kernel
theorem d9_70 : decode prog_14_method_2_code 70 = .ok (.istore_n 1, 1) := by decide +kernel
theorem d9_71 : decode prog_14_method_2_code 71 = .ok (.iinc 2 1, 3) := by decide +kernel
theorem d9_74 : decode prog_14_method_2_code 74 = .ok (.goto (-59), 3) := by decide +kernel
theorem d9_77 : decode prog_14_method_2_code 77 = .ok (.iload_n 1, 1) := by decide +kernel
theorem d9_78 : decode prog_14_method_2_code 78 = .ok (.bipush 11, 2) := by decide +kernel
theorem d9_80 : decode prog_14_method_2_code 80 = .ok (.irem, 1) := by decide +kernel
theorem d9_81 : decode prog_14_method_2_code 81 = .ok (.ifCond .ne 7, 3) := by decide +kernel
theorem d9_84 : decode prog_14_method_2_code 84 = .ok (.iconst 1, 1) := by decide +kernel
theorem d9_85 : decode prog_14_method_2_code 85 = .ok (.goto 4, 3) := by decide +kernel
theorem d9_88 : decode prog_14_method_2_code 88 = .ok (.iconst 0, 1) := by decide +kernel
theorem d9_89 : decode prog_14_method_2_code 89 = .ok (.ireturn, 1) := by decide +kernel
theorem d10_0 : decode jdk_42_method_54_code 0 = .ok (.aload_n 0, 1) := by decide +kernel
theorem d10_1 : decode jdk_42_method_54_code 1 = .ok (.getfield 9, 3) := by decide +kernel
theorem d10_4 : decode jdk_42_method_54_code 4 = .ok (.arraylength, 1) := by decide +kernel
theorem d10_5 : decode jdk_42_method_54_code 5 = .ok (.aload_n 0, 1) := by decide +kernel
theorem d10_6 : decode jdk_42_method_54_code 6 = .ok (.invokevirtual 335, 3) := by decide +kernel
theorem d10_9 : decode jdk_42_method_54_code 9 = .ok (.ishr, 1) := by decide +kernel
theorem d10_10 : decode jdk_42_method_54_code 10 = .ok (.ireturn, 1) := by decide +kernel
theorem d11_0 : decode jdk_42_method_152_code 0 = .ok (.getstatic 38, 3) := by decide +kernel
theorem d11_3 : decode jdk_42_method_152_code 3 = .ok (.ifCond .eq 10, 3) := by decide +kernel
theorem d11_6 : decode jdk_42_method_152_code 6 = .ok (.aload_n 0, 1) := by decide +kernel
theorem d11_7 : decode jdk_42_method_152_code 7 = .ok (.getfield 15, 3) := by decide +kernel
theorem d11_10 : decode jdk_42_method_152_code 10 = .ok (.goto 4, 3) := by decide +kernel
theorem d11_14 : decode jdk_42_method_152_code 14 = .ok (.ireturn, 1) := by decide +kernel
theorem d12_0 : decode jdk_42_method_56_code 0 = .ok (.aload_n 0, 1) := by decide +kernel
theorem d12_1 : decode jdk_42_method_56_code 1 = .ok (.invokevirtual 492, 3) := by decide +kernel
theorem d12_4 : decode jdk_42_method_56_code 4 = .ok (.ifCond .eq 12, 3) := by decide +kernel
theorem d12_7 : decode jdk_42_method_56_code 7 = .ok (.aload_n 0, 1) := by decide +kernel
theorem d12_8 : decode jdk_42_method_56_code 8 = .ok (.getfield 9, 3) := by decide +kernel
theorem d12_11 : decode jdk_42_method_56_code 11 = .ok (.iload_n 1, 1) := by decide +kernel
theorem d12_12 : decode jdk_42_method_56_code 12 = .ok (.invokestatic 495, 3) := by decide +kernel
theorem d12_15 : decode jdk_42_method_56_code 15 = .ok (.ireturn, 1) := by decide +kernel
theorem d12_16 : decode jdk_42_method_56_code 16 = .ok (.aload_n 0, 1) := by decide +kernel
theorem d12_17 : decode jdk_42_method_56_code 17 = .ok (.getfield 9, 3) := by decide +kernel
theorem d12_20 : decode jdk_42_method_56_code 20 = .ok (.iload_n 1, 1) := by decide +kernel
theorem d12_21 : decode jdk_42_method_56_code 21 = .ok (.invokestatic 498, 3) := by decide +kernel
theorem d12_24 : decode jdk_42_method_56_code 24 = .ok (.ireturn, 1) := by decide +kernel
theorem d13_0 : decode jdk_42_method_154_code 0 = .ok (.getstatic 38, 3) := by decide +kernel
theorem d13_3 : decode jdk_42_method_154_code 3 = .ok (.ifCond .eq 14, 3) := by decide +kernel
theorem d13_6 : decode jdk_42_method_154_code 6 = .ok (.aload_n 0, 1) := by decide +kernel
theorem d13_7 : decode jdk_42_method_154_code 7 = .ok (.getfield 15, 3) := by decide +kernel
theorem d13_10 : decode jdk_42_method_154_code 10 = .ok (.ifCond .ne 7, 3) := by decide +kernel
theorem d13_13 : decode jdk_42_method_154_code 13 = .ok (.iconst 1, 1) := by decide +kernel
theorem d13_14 : decode jdk_42_method_154_code 14 = .ok (.goto 4, 3) := by decide +kernel
theorem d13_17 : decode jdk_42_method_154_code 17 = .ok (.iconst 0, 1) := by decide +kernel
theorem d13_18 : decode jdk_42_method_154_code 18 = .ok (.ireturn, 1) := by decide +kernel
theorem d14_0 : decode jdk_43_method_2_code 0 = .ok (.iload_n 1, 1) := by decide +kernel
theorem d14_1 : decode jdk_43_method_2_code 1 = .ok (.aload_n 0, 1) := by decide +kernel
theorem d14_2 : decode jdk_43_method_2_code 2 = .ok (.arraylength, 1) := by decide +kernel
theorem d14_3 : decode jdk_43_method_2_code 3 = .ok (.invokestatic 9, 3) := by decide +kernel
theorem d14_6 : decode jdk_43_method_2_code 6 = .ok (.aload_n 0, 1) := by decide +kernel
theorem d14_7 : decode jdk_43_method_2_code 7 = .ok (.iload_n 1, 1) := by decide +kernel
theorem d14_8 : decode jdk_43_method_2_code 8 = .ok (.baload, 1) := by decide +kernel
theorem d14_9 : decode jdk_43_method_2_code 9 = .ok (.sipush 255, 3) := by decide +kernel
theorem d14_12 : decode jdk_43_method_2_code 12 = .ok (.iand, 1) := by decide +kernel
theorem d14_13 : decode jdk_43_method_2_code 13 = .ok (.i2c, 1) := by decide +kernel
theorem d14_14 : decode jdk_43_method_2_code 14 = .ok (.ireturn, 1) := by decide +kernel
theorem d15_0 : decode jdk_42_method_155_code 0 = .ok (.iload_n 0, 1) := by decide +kernel
theorem d15_1 : decode jdk_42_method_155_code 1 = .ok (.iload_n 1, 1) := by decide +kernel
theorem d15_2 : decode jdk_42_method_155_code 2 = .ok (.getstatic 1053, 3) := by decide +kernel
theorem d15_5 : decode jdk_42_method_155_code 5 = .ok (.invokestatic 1059, 3) := by decide +kernel
theorem d15_8 : decode jdk_42_method_155_code 8 = .ok (.pop, 1) := by decide +kernel
theorem d15_9 : decode jdk_42_method_155_code 9 = .ok (.return_, 1) := by decide +kernel
theorem d16_0 : decode jdk_41_method_11_code 0 = .ok (.iload_n 0, 1) := by decide +kernel
theorem d16_1 : decode jdk_41_method_11_code 1 = .ok (.ifCond .lt 8, 3) := by decide +kernel
theorem d16_4 : decode jdk_41_method_11_code 4 = .ok (.iload_n 0, 1) := by decide +kernel
theorem d16_5 : decode jdk_41_method_11_code 5 = .ok (.iload_n 1, 1) := by decide +kernel
theorem d16_6 : decode jdk_41_method_11_code 6 = .ok (.if_icmp .lt 10, 3) := by decide +kernel
theorem d16_16 : decode jdk_41_method_11_code 16 = .ok (.iload_n 0, 1) := by decide +kernel
theorem d16_17 : decode jdk_41_method_11_code 17 = .ok (.ireturn, 1) := by decide +kernel
theorem d17_0 : decode jdk_52_method_14_code 0 = .ok (.iload_n 2, 1) := by decide +kernel
theorem d17_1 : decode jdk_52_method_14_code 1 = .ok (.invokestatic 107, 3) := by decide +kernel
theorem d17_4 : decode jdk_52_method_14_code 4 = .ok (.astore_n 3, 1) := by decide +kernel
theorem d17_5 : decode jdk_52_method_14_code 5 = .ok (.iconst 0, 1) := by decide +kernel
theorem d17_6 : decode jdk_52_method_14_code 6 = .ok (.istore 4, 2) := by decide +kernel
theorem d17_8 : decode jdk_52_method_14_code 8 = .ok (.iload 4, 2) := by decide +kernel
theorem d17_10 : decode jdk_52_method_14_code 10 = .ok (.iload_n 2, 1) := by decide +kernel
theorem d17_11 : decode jdk_52_method_14_code 11 = .ok (.if_icmp .ge 21, 3) := by decide +kernel
theorem d17_14 : decode jdk_52_method_14_code 14 = .ok (.aload_n 3, 1) := by decide +kernel
theorem d17_15 : decode jdk_52_method_14_code 15 = .ok (.iload 4, 2) := by decide +kernel
theorem d17_17 : decode jdk_52_method_14_code 17 = .ok (.aload_n 0, 1) := by decide +kernel
theorem d17_18 : decode jdk_52_method_14_code 18 = .ok (.iload_n 1, 1) := by decide +kernel
theorem d17_19 : decode jdk_52_method_14_code 19 = .ok (.caload, 1) := by decide +kernel
theorem d17_20 : decode jdk_52_method_14_code 20 = .ok (.invokestatic 111, 3) := by decide +kernel
theorem d17_23 : decode jdk_52_method_14_code 23 = .ok (.iinc 1 1, 3) := by decide +kernel
theorem d17_26 : decode jdk_52_method_14_code 26 = .ok (.iinc 4 1, 3) := by decide +kernel
theorem d17_29 : decode jdk_52_method_14_code 29 = .ok (.goto (-21), 3) := by decide +kernel
theorem d17_32 : decode jdk_52_method_14_code 32 = .ok (.aload_n 3, 1) := by decide +kernel
theorem d17_33 : decode jdk_52_method_14_code 33 = .ok (.areturn, 1) := by decide +kernel
theorem d18_0 : decode jdk_52_method_2_code 0 = .ok (.iload_n 0, 1) := by decide +kernel
theorem d18_1 : decode jdk_52_method_2_code 1 = .ok (.invokestatic 11, 3) := by decide +kernel
theorem d18_4 : decode jdk_52_method_2_code 4 = .ok (.newarray .byte, 2) := by decide +kernel
theorem d18_6 : decode jdk_52_method_2_code 6 = .ok (.areturn, 1) := by decide +kernel
theorem d19_0 : decode jdk_52_method_3_code 0 = .ok (.iload_n 0, 1) := by decide +kernel
theorem d19_1 : decode jdk_52_method_3_code 1 = .ok (.ifCond .ge 11, 3) := by decide +kernel
theorem d19_12 : decode jdk_52_method_3_code 12 = .ok (.iload_n 0, 1) := by decide +kernel
theorem d19_13 : decode jdk_52_method_3_code 13 = .ok (.ldc 20, 2) := by decide +kernel
theorem d19_15 : decode jdk_52_method_3_code 15 = .ok (.if_icmp .lt 40, 3) := by decide +kernel
theorem d19_55 : decode jdk_52_method_3_code 55 = .ok (.iload_n 0, 1) := by decide +kernel
theorem d19_56 : decode jdk_52_method_3_code 56 = .ok (.iconst 1, 1) := by decide +kernel
theorem d19_57 : decode jdk_52_method_3_code 57 = .ok (.ishl, 1) := by decide +kernel
theorem d19_58 : decode jdk_52_method_3_code 58 = .ok (.ireturn, 1) := by decide +kernel
theorem d20_0 : decode jdk_52_method_4_code 0 = .ok (.getstatic 44, 3) := by decide +kernel
theorem d20_3 : decode jdk_52_method_4_code 3 = .ok (.ifCond .ne 25, 3) := by decide +kernel
theorem d20_28 : decode jdk_52_method_4_code 28 = .ok (.iload_n 1, 1) := by decide +kernel
theorem d20_29 : decode jdk_52_method_4_code 29 = .ok (.iconst 1, 1) := by decide +kernel
theorem d20_30 : decode jdk_52_method_4_code 30 = .ok (.ishl, 1) := by decide +kernel
theorem d20_31 : decode jdk_52_method_4_code 31 = .ok (.istore_n 1, 1) := by decide +kernel
theorem d20_32 : decode jdk_52_method_4_code 32 = .ok (.aload_n 0, 1) := by decide +kernel
theorem d20_33 : decode jdk_52_method_4_code 33 = .ok (.iload_n 1, 1) := by decide +kernel
theorem d20_34 : decode jdk_52_method_4_code 34 = .ok (.iinc 1 1, 3) := by decide +kernel
theorem d20_37 : decode jdk_52_method_4_code 37 = .ok (.iload_n 2, 1) := by decide +kernel
theorem d20_38 : decode jdk_52_method_4_code 38 = .ok (.getstatic 59, 3) := by decide +kernel
theorem d20_41 : decode jdk_52_method_4_code 41 = .ok (.ishr, 1) := by decide +kernel
theorem d20_42 : decode jdk_52_method_4_code 42 = .ok (.i2b, 1) := by decide +kernel
theorem d20_43 : decode jdk_52_method_4_code 43 = .ok (.bastore, 1) := by decide +kernel
theorem d20_44 : decode jdk_52_method_4_code 44 = .ok (.aload_n 0, 1) := by decide +kernel
theorem d20_45 : decode jdk_52_method_4_code 45 = .ok (.iload_n 1, 1) := by decide +kernel
theorem d20_46 : decode jdk_52_method_4_code 46 = .ok (.iload_n 2, 1) := by decide +kernel
theorem d20_47 : decode jdk_52_method_4_code 47 = .ok (.getstatic 63, 3) := by decide +kernel
theorem d20_50 : decode jdk_52_method_4_code 50 = .ok (.ishr, 1) := by decide +kernel
theorem d20_51 : decode jdk_52_method_4_code 51 = .ok (.i2b, 1) := by decide +kernel
theorem d20_52 : decode jdk_52_method_4_code 52 = .ok (.bastore, 1) := by decide +kernel
theorem d20_53 : decode jdk_52_method_4_code 53 = .ok (.return_, 1) := by decide +kernel
theorem d21_0 : decode jdk_52_method_5_code 0 = .ok (.getstatic 44, 3) := by decide +kernel
theorem d21_3 : decode jdk_52_method_5_code 3 = .ok (.ifCond .ne 25, 3) := by decide +kernel
theorem d21_28 : decode jdk_52_method_5_code 28 = .ok (.iload_n 1, 1) := by decide +kernel
theorem d21_29 : decode jdk_52_method_5_code 29 = .ok (.iconst 1, 1) := by decide +kernel
theorem d21_30 : decode jdk_52_method_5_code 30 = .ok (.ishl, 1) := by decide +kernel
theorem d21_31 : decode jdk_52_method_5_code 31 = .ok (.istore_n 1, 1) := by decide +kernel
theorem d21_32 : decode jdk_52_method_5_code 32 = .ok (.aload_n 0, 1) := by decide +kernel
theorem d21_33 : decode jdk_52_method_5_code 33 = .ok (.iload_n 1, 1) := by decide +kernel
theorem d21_34 : decode jdk_52_method_5_code 34 = .ok (.iinc 1 1, 3) := by decide +kernel
theorem d21_37 : decode jdk_52_method_5_code 37 = .ok (.baload, 1) := by decide +kernel
theorem d21_38 : decode jdk_52_method_5_code 38 = .ok (.sipush 255, 3) := by decide +kernel
theorem d21_41 : decode jdk_52_method_5_code 41 = .ok (.iand, 1) := by decide +kernel
theorem d21_42 : decode jdk_52_method_5_code 42 = .ok (.getstatic 59, 3) := by decide +kernel
theorem d21_45 : decode jdk_52_method_5_code 45 = .ok (.ishl, 1) := by decide +kernel
theorem d21_46 : decode jdk_52_method_5_code 46 = .ok (.aload_n 0, 1) := by decide +kernel
theorem d21_47 : decode jdk_52_method_5_code 47 = .ok (.iload_n 1, 1) := by decide +kernel
theorem d21_48 : decode jdk_52_method_5_code 48 = .ok (.baload, 1) := by decide +kernel
theorem d21_49 : decode jdk_52_method_5_code 49 = .ok (.sipush 255, 3) := by decide +kernel
theorem d21_52 : decode jdk_52_method_5_code 52 = .ok (.iand, 1) := by decide +kernel
theorem d21_53 : decode jdk_52_method_5_code 53 = .ok (.getstatic 63, 3) := by decide +kernel
theorem d21_56 : decode jdk_52_method_5_code 56 = .ok (.ishl, 1) := by decide +kernel
theorem d21_57 : decode jdk_52_method_5_code 57 = .ok (.ior, 1) := by decide +kernel
theorem d21_58 : decode jdk_52_method_5_code 58 = .ok (.i2c, 1) := by decide +kernel
theorem d21_59 : decode jdk_52_method_5_code 59 = .ok (.ireturn, 1) := by decide +kernel
theorem d22_0 : decode jdk_52_method_83_code 0 = .ok (.iload_n 1, 1) := by decide +kernel
theorem d22_1 : decode jdk_52_method_83_code 1 = .ok (.aload_n 0, 1) := by decide +kernel
theorem d22_2 : decode jdk_52_method_83_code 2 = .ok (.invokestatic 67, 3) := by decide +kernel
theorem d22_5 : decode jdk_52_method_83_code 5 = .ok (.aload_n 0, 1) := by decide +kernel
theorem d22_6 : decode jdk_52_method_83_code 6 = .ok (.iload_n 1, 1) := by decide +kernel
theorem d22_7 : decode jdk_52_method_83_code 7 = .ok (.invokestatic 71, 3) := by decide +kernel
theorem d22_10 : decode jdk_52_method_83_code 10 = .ok (.ireturn, 1) := by decide +kernel
theorem d23_0 : decode jdk_52_method_91_code 0 = .ok (.iload_n 0, 1) := by decide +kernel
theorem d23_1 : decode jdk_52_method_91_code 1 = .ok (.aload_n 1, 1) := by decide +kernel
theorem d23_2 : decode jdk_52_method_91_code 2 = .ok (.invokestatic 48, 3) := by decide +kernel
theorem d23_5 : decode jdk_52_method_91_code 5 = .ok (.invokestatic 414, 3) := by decide +kernel
theorem d23_8 : decode jdk_52_method_91_code 8 = .ok (.return_, 1) := by decide +kernel
theorem d24_0 : decode jdk_52_method_6_code 0 = .ok (.aload_n 0, 1) := by decide +kernel
theorem d24_1 : decode jdk_52_method_6_code 1 = .ok (.arraylength, 1) := by decide +kernel
theorem d24_2 : decode jdk_52_method_6_code 2 = .ok (.iconst 1, 1) := by decide +kernel
theorem d24_3 : decode jdk_52_method_6_code 3 = .ok (.ishr, 1) := by decide +kernel
theorem d24_4 : decode jdk_52_method_6_code 4 = .ok (.ireturn, 1) := by decide +kernel
theorem pn_com_example_docket_docket_core_RsinIsValidPinLaw : plainName "com/example/docket/docket/core/RsinIsValidPinLaw" = true := by first | (simp [plainName, overriddenIn]; done) | decide +kernel
theorem pn_java_lang_String : plainName "java/lang/String" = true := by first | (simp [plainName, overriddenIn]; done) | decide +kernel
theorem pn_java_lang_StringUTF16 : plainName "java/lang/StringUTF16" = true := by first | (simp [plainName, overriddenIn]; done) | decide +kernel
theorem pn_com_example_docket_docket_core_Rsin : plainName "com/example/docket/docket/core/Rsin" = true := by first | (simp [plainName, overriddenIn]; done) | decide +kernel
theorem pn_java_lang_StringLatin1 : plainName "java/lang/StringLatin1" = true := by first | (simp [plainName, overriddenIn]; done) | decide +kernel
theorem pn_jdk_internal_util_Preconditions : plainName "jdk/internal/util/Preconditions" = true := by first | (simp [plainName, overriddenIn]; done) | decide +kernel
theorem pd_0 : parseMethodDescriptor "(I)I" = some ⟨[.int], some .int⟩ := by decide +kernel
theorem pd_1 : parseMethodDescriptor "([BII)V" = some ⟨[(.array .byte), .int, .int], none⟩ := by decide +kernel
theorem pd_2 : parseMethodDescriptor "(I)[B" = some ⟨[.int], some (.array .byte)⟩ := by decide +kernel
theorem pd_3 : parseMethodDescriptor "([CI[BII)I" = some ⟨[(.array .char), .int, (.array .byte), .int, .int], some .int⟩ := by decide +kernel
theorem pd_4 : parseMethodDescriptor "([CII)[B" = some ⟨[(.array .char), .int, .int], some (.array .byte)⟩ := by decide +kernel
theorem pd_5 : parseMethodDescriptor "([BI)C" = some ⟨[(.array .byte), .int], some .char⟩ := by decide +kernel
theorem pd_6 : parseMethodDescriptor "([BI)B" = some ⟨[(.array .byte), .int], some .byte⟩ := by decide +kernel
theorem pd_7 : parseMethodDescriptor "([CIILjava/lang/Void;)V" = some ⟨[(.array .char), .int, .int, (.object "java/lang/Void")], none⟩ := by decide +kernel
theorem pd_8 : parseMethodDescriptor "()B" = some ⟨[], some .byte⟩ := by decide +kernel
theorem pd_9 : parseMethodDescriptor "(IILjava/util/function/BiFunction;)I" = some ⟨[.int, .int, (.object "java/util/function/BiFunction")], some .int⟩ := by decide +kernel
theorem pd_10 : parseMethodDescriptor "([B)I" = some ⟨[(.array .byte)], some .int⟩ := by decide +kernel
theorem pd_11 : parseMethodDescriptor "(II)V" = some ⟨[.int, .int], none⟩ := by decide +kernel
theorem pd_12 : parseMethodDescriptor "(I[B)V" = some ⟨[.int, (.array .byte)], none⟩ := by decide +kernel
theorem pd_13 : parseMethodDescriptor "()Z" = some ⟨[], some .boolean⟩ := by decide +kernel
theorem pd_14 : parseMethodDescriptor "()I" = some ⟨[], some .int⟩ := by decide +kernel
theorem pd_15 : parseMethodDescriptor "(I)C" = some ⟨[.int], some .char⟩ := by decide +kernel
theorem pd_16 : parseMethodDescriptor "(JI)I" = some ⟨[.long, .int], some .int⟩ := by decide +kernel
theorem pd_17 : parseMethodDescriptor "(C)Z" = some ⟨[.char], some .boolean⟩ := by decide +kernel
theorem pd_18 : parseMethodDescriptor "([C)V" = some ⟨[(.array .char)], none⟩ := by decide +kernel
theorem pd_19 : parseMethodDescriptor "(Ljava/lang/String;)Z" = some ⟨[(.object "java/lang/String")], some .boolean⟩ := by decide +kernel
theorem ef_19 (m : MethodId) (n : Nat) : entryFrame m #[(.int (Int32.ofNat n))] 1 = mkF m 0 #[.val (.int (Int32.ofNat n))] [] := by first | (simp [entryFrame, mkF, argsToLocals, Value.category]; done) | rfl
def Q19 (Z : State) (n : Nat) (h0 : Heap) (n0 : Nat) (v : Option Value) (h : Heap) (L : List Loc) : Prop := v = some (.int (Int32.ofNat (2 * n))) ∧ Fr n0 L ∧ h = h0
set_option maxRecDepth 65536 in
set_option maxHeartbeats 40000000 in
theorem rm19 (l : Launch) (Z : State) (a0 : Array Value) (hw : ∀ d ∈ tables_1, d.before a0 Z = true) (ws : List Jvm.Cond) (n : Nat) (h0 : Heap) (n0 : Nat) (Z0 : n0 ≤ h0.size) (hn : n ≤ 16) :
    MetFree l (⟨"java/lang/StringUTF16", "newBytesLength", "(I)I"⟩ : MethodName) (head1 (Jvm.Cond.code (⟨"java/lang/StringUTF16", "newBytesLength", "(I)I"⟩ : MethodName) jdk_52_method_3_code 1 (some .int) :: ws) ({ frames := 0, cells := 0, slots := 0, locals := 0 } : Room)) (fun α υ => α = #[(.int (Int32.ofNat n))] ∧ Z.Warmed39 υ.vm ∧ υ.heap = h0) (fun _ _ _ _ _ => True) (fun _ υ ω υ' => ∃ v L, ω = .returned v ∧ Q19 Z n h0 n0 v υ'.heap L ∧ FrameEnd υ ω υ' L ({ frames := 0, cells := 0, slots := 0, locals := 0 } : Room).cells ({ frames := 0, cells := 0, slots := 0, locals := 0 } : Room).slots) := by
  refine MetFree.of_bodySF (plainFor_of_name pn_java_lang_StringUTF16) hisR ?_
  intro p e s m args below meth c s₁ Bd hml0 hP hK
  obtain ⟨rfl, hZ, hh⟩ := hP
  have hx := Bd.exec
  have hby := Bd.bytes
  have hml : c.maxLocals = 1 := hml0
  have hown : s.vm.findClass "java/lang/StringUTF16" = some m.cls := findClass_of_methodNamed Bd.named
  have hnm := (name_of_methodNamed Bd.named Bd.method).1
  have X0 : Stand p l e ({ frames := 0, cells := 0, slots := 0, locals := 0 } : Room) s m #[(.int (Int32.ofNat n))] below meth c s₁ [] 0 0 := Stand.of_body Bd
  have e0 : s₁.heap = h0 := by rw [← hh, Bd.state]; rfl
  have N0 := Fr.nil n0
  have pre0 : ∀ τ, Steps p.tables e below (s₁.setTop (mkF m 0 #[.val (.int (Int32.ofNat n))] [])) τ → Steps p.tables e below (s₁.setTop (entryFrame m #[(.int (Int32.ofNat n))] 1)) τ := fun τ κ => castTop (ef_19 m n) κ
  have pre1 := fun τ (κ : Steps p.tables e below (s₁.setTop (mkF m 58 #[.val (.int (Int32.ofNat n))] [(.int ((Int32.ofNat n) <<< ((1 : Int32) &&& 31)))])) τ) => pre0 τ (by
    refine XS.iloadN X0.here hx rfl (hb hby d19_0) rfl ?_
    refine XS.ifYes X0.here hx rfl (pc0 := 1) (pc' := 12) rfl (hb hby d19_1) rfl ((if0 _ _).trans (flt (own_nn (by omega))).2.1) (by decide) (by decide) ?_
    show Steps p.tables e below (s₁.setTop (mkF m 12 #[.val (.int (Int32.ofNat n))] [])) _
    refine XS.iloadN X0.here hx rfl (hb hby d19_12) rfl ?_
    refine X0.ldcInt hx hown (mvT hZ (hw _ (List.mem_of_getElem? (i := 86) rfl))) (g := (mkF m 13 #[.val (.int (Int32.ofNat n))] [(.int (Int32.ofNat n))])) rfl (hb hby d19_13) _ ?_
    show Steps p.tables e below (s₁.setTop (mkF m 15 #[.val (.int (Int32.ofNat n))] [(.int (1073741823 : Int32)), (.int (Int32.ofNat n))])) _
    refine XS.icmpYes X0.here hx rfl (pc0 := 15) (pc' := 55) rfl (hb hby d19_15) rfl (tlt ((own_ltN (j := 1073741823) (by omega) (by omega)).mpr (by omega))).1 (by decide) (by decide) ?_
    show Steps p.tables e below (s₁.setTop (mkF m 55 #[.val (.int (Int32.ofNat n))] [])) _
    refine XS.iloadN X0.here hx rfl (hb hby d19_55) rfl ?_
    refine XS.iconst X0.here hx rfl (hb hby d19_56) ?_
    refine XS.ishl X0.here hx rfl (hb hby d19_57) rfl ?_
    show Steps p.tables e below (s₁.setTop (mkF m 58 #[.val (.int (Int32.ofNat n))] [(.int ((Int32.ofNat n) <<< ((1 : Int32) &&& 31)))])) _
    exact κ)
  rw [show ((Int32.ofNat n) <<< ((1 : Int32) &&& 31)) = (Int32.ofNat (2 * n)) from (own_shl1 (by omega))] at pre1
  obtain ⟨fs, hr, hrun, hended, hW, hsame⟩ := X0.leave (v := some (.int (Int32.ofNat (2 * n)))) (fun h => by rw [Bd.returns] at h; cases h)
  refine ⟨_, _, pre1 _ ?_, hrun, hended, _, _, rfl, ?_, ⟨_, rfl⟩, hW, hsame.mono (by decide) (by decide)⟩
  · exact retI X0 hx Bd.returns (hb hby d19_58) hr
  · show Q19 Z n h0 n0 _ s₁.heap _
    rw [e0]
    exact ⟨rfl, N0, rfl⟩
theorem ef_18 (m : MethodId) (n : Nat) : entryFrame m #[(.int (Int32.ofNat n))] 1 = mkF m 0 #[.val (.int (Int32.ofNat n))] [] := by first | (simp [entryFrame, mkF, argsToLocals, Value.category]; done) | rfl
def Q18 (Z : State) (n : Nat) (h0 : Heap) (n0 : Nat) (v : Option Value) (h : Heap) (L : List Loc) : Prop := ∃ (b : Addr) (kb : ClassId), v = some (.ref b) ∧ Fr n0 L ∧ Keep h0 h [] ∧ Arv Z h b kb .byte (Int32.ofNat (2 * n)) (own_tab (fun _ => 0) (2 * n)) (.int (0 : Int32)) ∧ h0.size ≤ b
set_option maxRecDepth 65536 in
set_option maxHeartbeats 40000000 in
theorem rm18 (l : Launch) (Z : State) (a0 : Array Value) (hw : ∀ d ∈ tables_1, d.before a0 Z = true) (ws : List Jvm.Cond) (n : Nat) (h0 : Heap) (n0 : Nat) (Z0 : n0 ≤ h0.size) (hn : n ≤ 16) :
    MetFree l (⟨"java/lang/StringUTF16", "newBytesFor", "(I)[B"⟩ : MethodName) (head1 (Jvm.Cond.code (⟨"java/lang/StringUTF16", "newBytesFor", "(I)[B"⟩ : MethodName) jdk_52_method_2_code 1 (some (.array .byte)) :: ws) ({ frames := 1, cells := 1, slots := 32, locals := 12 } : Room)) (fun α υ => α = #[(.int (Int32.ofNat n))] ∧ Z.Warmed39 υ.vm ∧ υ.heap = h0) (fun _ _ _ _ _ => True) (fun _ υ ω υ' => ∃ v L, ω = .returned v ∧ Q18 Z n h0 n0 v υ'.heap L ∧ FrameEnd υ ω υ' L ({ frames := 1, cells := 1, slots := 32, locals := 12 } : Room).cells ({ frames := 1, cells := 1, slots := 32, locals := 12 } : Room).slots) := by
  refine MetFree.of_bodySF (plainFor_of_name pn_java_lang_StringUTF16) hisR ?_
  intro p e s m args below meth c s₁ Bd hml0 hP hK
  obtain ⟨rfl, hZ, hh⟩ := hP
  have hx := Bd.exec
  have hby := Bd.bytes
  have hml : c.maxLocals = 1 := hml0
  have hown : s.vm.findClass "java/lang/StringUTF16" = some m.cls := findClass_of_methodNamed Bd.named
  have hnm := (name_of_methodNamed Bd.named Bd.method).1
  have X0 : Stand p l e ({ frames := 1, cells := 1, slots := 32, locals := 12 } : Room) s m #[(.int (Int32.ofNat n))] below meth c s₁ [] 0 0 := Stand.of_body Bd
  have e0 : s₁.heap = h0 := by rw [← hh, Bd.state]; rfl
  have N0 := Fr.nil n0
  have pre0 : ∀ τ, Steps p.tables e below (s₁.setTop (mkF m 0 #[.val (.int (Int32.ofNat n))] [])) τ → Steps p.tables e below (s₁.setTop (entryFrame m #[(.int (Int32.ofNat n))] 1)) τ := fun τ κ => castTop (ef_18 m n) κ
  have Kp0 : Keep h0 h0 [] := Keep.refl _ _
  have pre1 := fun τ (κ : Steps p.tables e below (s₁.setTop (mkF m 1 #[.val (.int (Int32.ofNat n))] [(.int (Int32.ofNat n))])) τ) => pre0 τ (by
    refine XS.iloadN X0.here hx rfl (hb hby d18_0) rfl ?_
    show Steps p.tables e below (s₁.setTop (mkF m 1 #[.val (.int (Int32.ofNat n))] [(.int (Int32.ofNat n))])) _
    exact κ)
  obtain ⟨_, _, ⟨T2, L2, k2, n2⟩, -, X2, ⟨Lc2, hQ2, l2, y2, z2⟩, st2⟩ := Jvm.LawKit.callS X0 hx (y := (⟨"java/lang/StringUTF16", "newBytesLength", "(I)I"⟩ : MethodName)) hown (mvT hZ (hw _ (List.mem_of_getElem? (i := 83) rfl))) (mvT hZ (hw _ (List.mem_of_getElem? (i := 84) rfl))) (mvT hZ (hw _ (List.mem_of_getElem? (i := 26) rfl))) (mvT hZ (hw _ (List.mem_of_getElem? (i := 85) rfl))) (by decide) (backOf (W := 0) (rm19 l Z a0 hw [] n h0 n0 Z0 (by omega)) hZ (hw _ (List.mem_of_getElem? (i := 85) rfl)) (hw _ (List.mem_of_getElem? (i := 26) rfl)) (Nat.le_of_ble_eq_true rfl) (Nat.le_of_ble_eq_true rfl)) (g := (mkF m 1 #[.val (.int (Int32.ofNat n))] [(.int (Int32.ofNat n))])) rfl (by rw [hml]; rfl) (argsL := [(.int (Int32.ofNat n))]) (rest := []) (lenOf pd_0 rfl) rfl (by show 2 * 0 + _ ≤ _; exact Nat.le_of_eq rfl) (hb hby d18_1) (fun _ _ => ⟨rfl, e0, (by decide : 0 + 0 ≤ _), (by decide : 0 + 0 ≤ _)⟩)
  dsimp only [Pt.U, Pt.locs, Pt.cells, Pt.slots] at X2 l2 y2 z2 st2 hQ2
  subst l2 y2 z2
  obtain ⟨rfl, Nq2, hh2⟩ := hQ2
  have Z2 : n0 ≤ T2.heap.size := by rw [hh2]; exact Z0
  have Kp2 : Keep h0 T2.heap [] := by rw [hh2]; exact Kp0
  have N2 := Fr.app N0 Nq2
  have pre3 := fun τ (κ : Steps p.tables e below (T2.setTop (mkF m 4 #[.val (.int (Int32.ofNat n))] [(.int (Int32.ofNat (2 * n)))])) τ) => pre1 τ (st2 _ κ)
  obtain ⟨T4, h4, k4, X4, e4, E4, A4, st4⟩ := newP X2 hx hZ (hw _ (List.mem_of_getElem? (i := 28) rfl)) rfl (g := (mkF m 4 #[.val (.int (Int32.ofNat n))] [(.int (Int32.ofNat (2 * n)))])) rfl (hb hby d18_4) rfl (own_nn (by omega)) (cap := 32) (by rw [own_clamp (by omega)]; omega) (by decide) (by decide) (by decide)
  obtain ⟨b, g4⟩ : ∃ z, z = T2.heap.size := ⟨_, rfl⟩
  rw [← g4] at A4 st4
  have g_b : n0 ≤ b := Nat.le_trans Z2 (Nat.le_of_eq g4.symm)
  have sz_b : h0.size ≤ b := Nat.le_trans Kp2.1 (Nat.le_of_eq g4.symm)
  have Kp4 : Keep h0 h4 [] := Kp2.ext E4
  have Z4 : n0 ≤ h4.size := Nat.le_trans Z2 E4.1
  have V_b_4 : Arv Z h4 b k4 .byte (Int32.ofNat (2 * n)) [] (.int (0 : Int32)) := Arv.new A4 (own_nn (by omega))
  have pre5 := fun τ (κ : Steps p.tables e below (T4.setTop (mkF m 6 #[.val (.int (Int32.ofNat n))] [(.ref b)])) τ) => pre3 τ (st4 _ κ)
  have Vb : Arv Z h4 b k4 .byte (Int32.ofNat (2 * n)) (own_tab (fun _ => 0) (2 * n)) (.int (0 : Int32)) := by rw [own_tab_pad]; exact V_b_4.pad (pad_rep [] _ (2 * n))
  obtain ⟨fs, hr, hrun, hended, hW, hsame⟩ := X4.leave (v := some (.ref b)) (fun h => by rw [Bd.returns] at h; cases h)
  refine ⟨_, _, pre5 _ ?_, hrun, hended, _, _, rfl, ?_, ⟨_, rfl⟩, hW, hsame.mono (by decide) (by decide)⟩
  · jvm_step X4.here [X4.here.top, hx, (hb hby d18_6), X4.method', Bd.returns, Value.isRef, FieldType.isReference]
    first | (intro acts; rw [hr _ acts rfl rfl rfl]) | rw [hr _ _ rfl rfl rfl]
    exact Steps.refl _
  · show Q18 Z n h0 n0 _ T4.heap _
    rw [e4]
    exact ⟨b, k4, rfl, N2, Kp4, Vb, sz_b⟩
theorem ef_20 (m : MethodId) (db : Addr) (i : Nat) (x : Int32) (n : Nat) (zc : Int32) (fm : Value) : entryFrame m #[(.ref db), (.int (Int32.ofNat i)), (.int x)] 3 = mkF m 0 #[.val (.ref db), .val (.int (Int32.ofNat i)), .val (.int x)] [] := by first | (simp [entryFrame, mkF, argsToLocals, Value.category]; done) | rfl
def Q20 (Z : State) (db : Addr) (i : Nat) (x : Int32) (n : Nat) (kb : ClassId) (g : Nat → Int32) (zc : Int32) (fm : Value) (h0 : Heap) (n0 : Nat) (v : Option Value) (h : Heap) (L : List Loc) : Prop := v = none ∧ Fr n0 L ∧ Keep h0 h [db] ∧ Arv Z h db kb .byte (Int32.ofNat (2 * n)) (own_tab (fun q => if q = 2 * i + 1 then own_hi x else (fun q => if q = 2 * i then own_lo x else g q) q) (2 * n)) (.int (0 : Int32))
set_option maxRecDepth 65536 in
set_option maxHeartbeats 40000000 in
theorem rm20 (l : Launch) (Z : State) (a0 : Array Value) (hw : ∀ d ∈ tables_1, d.before a0 Z = true) (ws : List Jvm.Cond) (db : Addr) (i : Nat) (x : Int32) (n : Nat) (kb : ClassId) (g : Nat → Int32) (zc : Int32) (fm : Value) (h0 : Heap) (n0 : Nat) (Z0 : n0 ≤ h0.size) (O0 : Old Z n0 h0) (U0 : own_ST Z zc fm) (Va : Arv Z h0 db kb .byte (Int32.ofNat (2 * n)) (own_tab g (2 * n)) (.int (0 : Int32))) (hn : n ≤ 16) (hi : i < n) (gb : n0 ≤ db) :
    MetFree l (⟨"java/lang/StringUTF16", "putChar", "([BII)V"⟩ : MethodName) (head1 (Jvm.Cond.code (⟨"java/lang/StringUTF16", "putChar", "([BII)V"⟩ : MethodName) jdk_52_method_4_code 3 none :: ws) ({ frames := 0, cells := 0, slots := 0, locals := 0 } : Room)) (fun α υ => α = #[(.ref db), (.int (Int32.ofNat i)), (.int x)] ∧ Z.Warmed39 υ.vm ∧ υ.heap = h0) (fun _ _ _ _ _ => True) (fun _ υ ω υ' => ∃ v L, ω = .returned v ∧ Q20 Z db i x n kb g zc fm h0 n0 v υ'.heap L ∧ FrameEnd υ ω υ' L ({ frames := 0, cells := 0, slots := 0, locals := 0 } : Room).cells ({ frames := 0, cells := 0, slots := 0, locals := 0 } : Room).slots) := by
  refine MetFree.of_bodySF (plainFor_of_name pn_java_lang_StringUTF16) hisR ?_
  intro p e s m args below meth c s₁ Bd hml0 hP hK
  obtain ⟨rfl, hZ, hh⟩ := hP
  have hx := Bd.exec
  have hby := Bd.bytes
  have hml : c.maxLocals = 3 := hml0
  have hown : s.vm.findClass "java/lang/StringUTF16" = some m.cls := findClass_of_methodNamed Bd.named
  have hnm := (name_of_methodNamed Bd.named Bd.method).1
  have X0 : Stand p l e ({ frames := 0, cells := 0, slots := 0, locals := 0 } : Room) s m #[(.ref db), (.int (Int32.ofNat i)), (.int x)] below meth c s₁ [] 0 0 := Stand.of_body Bd
  have e0 : s₁.heap = h0 := by rw [← hh, Bd.state]; rfl
  have N0 := Fr.nil n0
  have pre0 : ∀ τ, Steps p.tables e below (s₁.setTop (mkF m 0 #[.val (.ref db), .val (.int (Int32.ofNat i)), .val (.int x)] [])) τ → Steps p.tables e below (s₁.setTop (entryFrame m #[(.ref db), (.int (Int32.ofNat i)), (.int x)] 3)) τ := fun τ κ => castTop (ef_20 m db i x n zc fm) κ
  obtain ⟨Scs, hcs, Sad, Shi, Slo, Sfm, r_fm⟩ := id U0
  have Kp0 : Keep h0 h0 [db] := Keep.refl _ _
  obtain ⟨T1, X1, e1, st1⟩ := getS2 X0 hx hZ hown (host := "") (Or.inl (hw _ (List.mem_of_getElem? (i := 90) rfl))) Via.refl e0 (Sad.ext O0.2) (g := (mkF m 0 #[.val (.ref db), .val (.int (Int32.ofNat i)), .val (.int x)] [])) rfl (hb hby d20_0)
  have pre2 := fun τ (κ : Steps p.tables e below (T1.setTop (mkF m 3 #[.val (.ref db), .val (.int (Int32.ofNat i)), .val (.int x)] [(.int (1 : Int32))])) τ) => pre0 τ (st1 _ κ)
  have pre3 := fun τ (κ : Steps p.tables e below (T1.setTop (mkF m 31 #[.val (.ref db), .val (.int (Int32.ofNat i)), .val (.int x)] [(.int ((Int32.ofNat i) <<< ((1 : Int32) &&& 31)))])) τ) => pre2 τ (by
    refine XS.ifYes X1.here hx rfl (pc0 := 3) (pc' := 28) rfl (hb hby d20_3) rfl ((if0 _ _).trans (feq (by decide)).2) (by decide) (by decide) ?_
    show Steps p.tables e below (T1.setTop (mkF m 28 #[.val (.ref db), .val (.int (Int32.ofNat i)), .val (.int x)] [])) _
    refine XS.iloadN X1.here hx rfl (hb hby d20_28) rfl ?_
    refine XS.iconst X1.here hx rfl (hb hby d20_29) ?_
    refine XS.ishl X1.here hx rfl (hb hby d20_30) rfl ?_
    show Steps p.tables e below (T1.setTop (mkF m 31 #[.val (.ref db), .val (.int (Int32.ofNat i)), .val (.int x)] [(.int ((Int32.ofNat i) <<< ((1 : Int32) &&& 31)))])) _
    exact κ)
  rw [show ((Int32.ofNat i) <<< ((1 : Int32) &&& 31)) = (Int32.ofNat (2 * i)) from (own_shl1 (by omega))] at pre3
  have pre4 := fun τ (κ : Steps p.tables e below (T1.setTop (mkF m 37 #[.val (.ref db), .val (.int ((Int32.ofNat (2 * i)) + (1 : Int32))), .val (.int x)] [(.int (Int32.ofNat (2 * i))), (.ref db)])) τ) => pre3 τ (by
    refine XS.istoreN X1.here hx rfl (hb hby d20_31) rfl (l' := #[.val (.ref db), .val (.int (Int32.ofNat (2 * i))), .val (.int x)]) rfl ?_
    show Steps p.tables e below (T1.setTop (mkF m 32 #[.val (.ref db), .val (.int (Int32.ofNat (2 * i))), .val (.int x)] [])) _
    refine XS.aloadN X1.here hx rfl (hb hby d20_32) rfl rfl ?_
    refine XS.iloadN X1.here hx rfl (hb hby d20_33) rfl ?_
    refine XS.iinc X1.here hx rfl (hb hby d20_34) rfl (l' := #[.val (.ref db), .val (.int ((Int32.ofNat (2 * i)) + (1 : Int32))), .val (.int x)]) rfl ?_
    show Steps p.tables e below (T1.setTop (mkF m 37 #[.val (.ref db), .val (.int ((Int32.ofNat (2 * i)) + (1 : Int32))), .val (.int x)] [(.int (Int32.ofNat (2 * i))), (.ref db)])) _
    exact κ)
  rw [show ((Int32.ofNat (2 * i)) + (1 : Int32)) = (Int32.ofNat (2 * i + 1)) from (own_addN _ 1)] at pre4
  have pre5 := fun τ (κ : Steps p.tables e below (T1.setTop (mkF m 38 #[.val (.ref db), .val (.int (Int32.ofNat (2 * i + 1))), .val (.int x)] [(.int x), (.int (Int32.ofNat (2 * i))), (.ref db)])) τ) => pre4 τ (by
    refine XS.iloadN X1.here hx rfl (hb hby d20_37) rfl ?_
    show Steps p.tables e below (T1.setTop (mkF m 38 #[.val (.ref db), .val (.int (Int32.ofNat (2 * i + 1))), .val (.int x)] [(.int x), (.int (Int32.ofNat (2 * i))), (.ref db)])) _
    exact κ)
  obtain ⟨T6, X6, e6, st6⟩ := getS2 X1 hx hZ hown (host := "") (Or.inl (hw _ (List.mem_of_getElem? (i := 91) rfl))) Via.refl e1 (Shi.ext O0.2) (g := (mkF m 38 #[.val (.ref db), .val (.int (Int32.ofNat (2 * i + 1))), .val (.int x)] [(.int x), (.int (Int32.ofNat (2 * i))), (.ref db)])) rfl (hb hby d20_38)
  have pre7 := fun τ (κ : Steps p.tables e below (T6.setTop (mkF m 41 #[.val (.ref db), .val (.int (Int32.ofNat (2 * i + 1))), .val (.int x)] [(.int (0 : Int32)), (.int x), (.int (Int32.ofNat (2 * i))), (.ref db)])) τ) => pre5 τ (st6 _ κ)
  have pre8 := fun τ (κ : Steps p.tables e below (T6.setTop (mkF m 42 #[.val (.ref db), .val (.int (Int32.ofNat (2 * i + 1))), .val (.int x)] [(.int (x >>> ((0 : Int32) &&& 31))), (.int (Int32.ofNat (2 * i))), (.ref db)])) τ) => pre7 τ (by
    refine XS.ishr X6.here hx rfl (hb hby d20_41) rfl ?_
    show Steps p.tables e below (T6.setTop (mkF m 42 #[.val (.ref db), .val (.int (Int32.ofNat (2 * i + 1))), .val (.int x)] [(.int (x >>> ((0 : Int32) &&& 31))), (.int (Int32.ofNat (2 * i))), (.ref db)])) _
    exact κ)
  rw [show (x >>> ((0 : Int32) &&& 31)) = x from (own_shr0 x)] at pre8
  have pre9 := fun τ (κ : Steps p.tables e below (T6.setTop (mkF m 43 #[.val (.ref db), .val (.int (Int32.ofNat (2 * i + 1))), .val (.int x)] [(.int (x.toInt8.toInt32)), (.int (Int32.ofNat (2 * i))), (.ref db)])) τ) => pre8 τ (by
    refine XS.i2b X6.here hx rfl (hb hby d20_42) rfl ?_
    show Steps p.tables e below (T6.setTop (mkF m 43 #[.val (.ref db), .val (.int (Int32.ofNat (2 * i + 1))), .val (.int x)] [(.int (x.toInt8.toInt32)), (.int (Int32.ofNat (2 * i))), (.ref db)])) _
    exact κ)
  have hj09 : (Int32.ofNat (2 * i)).toNatClampNeg = 2 * i := own_clamp (by omega)
  have hi09 : 2 * i < (own_tab g (2 * n)).length := by rw [own_tab_len]; omega
  obtain ⟨cl10, Ar10, q10, S10, M10, H10, G10⟩ := id Va
  have in10 : ¬ ((Int32.ofNat (2 * i)) < 0 ∨ cl10.slots.size ≤ ((Int32.ofNat (2 * i))).toNatClampNeg) := inb_of S10 ⟨own_nn (by omega), (own_ltN (by omega) (by omega)).mpr (by omega)⟩
  obtain ⟨T11, h11, X11, e11, W11, st11⟩ := stB X6 hx hZ e6 Ar10 (j := (Int32.ofNat (2 * i))) in10 (g := (mkF m 43 #[.val (.ref db), .val (.int (Int32.ofNat (2 * i + 1))), .val (.int x)] [(.int (x.toInt8.toInt32)), (.int (Int32.ofNat (2 * i))), (.ref db)])) rfl rfl (hb hby d20_43)
  have O0_11 : Old Z n0 h11 := O0.wr W11 gb
  have Kp11 : Keep h0 h11 [db] := Kp0.wr W11 (Or.inl (List.mem_of_getElem? (i := 0) rfl))
  have N11 := Fr.snoc X11 N0 gb
  have Z11 : n0 ≤ h11.size := Nat.le_trans Z0 (Keep.of_wr W11).1
  have V_db_11 : Arv Z h11 db kb .byte (Int32.ofNat (2 * n)) (own_tab (fun q => if q = 2 * i then own_lo x else g q) (2 * n)) (.int (0 : Int32)) := (by rw [← own_lolo x]; exact (own_tab_set g (2 * n) (2 * i) _) ▸ (Arv.set Ar10 q10 S10 M10 H10 G10 (fits_nar_byte _) W11 (2 * i) (by first | rfl | assumption) (by assumption)))
  have pre12 := fun τ (κ : Steps p.tables e below (T11.setTop (mkF m 44 #[.val (.ref db), .val (.int (Int32.ofNat (2 * i + 1))), .val (.int x)] [])) τ) => pre9 τ (st11 _ κ)
  have pre13 := fun τ (κ : Steps p.tables e below (T11.setTop (mkF m 47 #[.val (.ref db), .val (.int (Int32.ofNat (2 * i + 1))), .val (.int x)] [(.int x), (.int (Int32.ofNat (2 * i + 1))), (.ref db)])) τ) => pre12 τ (by
    refine XS.aloadN X11.here hx rfl (hb hby d20_44) rfl rfl ?_
    refine XS.iloadN X11.here hx rfl (hb hby d20_45) rfl ?_
    refine XS.iloadN X11.here hx rfl (hb hby d20_46) rfl ?_
    show Steps p.tables e below (T11.setTop (mkF m 47 #[.val (.ref db), .val (.int (Int32.ofNat (2 * i + 1))), .val (.int x)] [(.int x), (.int (Int32.ofNat (2 * i + 1))), (.ref db)])) _
    exact κ)
  obtain ⟨T14, X14, e14, st14⟩ := getS2 X11 hx hZ hown (host := "") (Or.inl (hw _ (List.mem_of_getElem? (i := 92) rfl))) Via.refl e11 (Slo.ext O0_11.2) (g := (mkF m 47 #[.val (.ref db), .val (.int (Int32.ofNat (2 * i + 1))), .val (.int x)] [(.int x), (.int (Int32.ofNat (2 * i + 1))), (.ref db)])) rfl (hb hby d20_47)
  have pre15 := fun τ (κ : Steps p.tables e below (T14.setTop (mkF m 50 #[.val (.ref db), .val (.int (Int32.ofNat (2 * i + 1))), .val (.int x)] [(.int (8 : Int32)), (.int x), (.int (Int32.ofNat (2 * i + 1))), (.ref db)])) τ) => pre13 τ (st14 _ κ)
  have hj19 : (Int32.ofNat (2 * i + 1)).toNatClampNeg = 2 * i + 1 := own_clamp (by omega)
  have hi19 : 2 * i + 1 < (own_tab (fun q => if q = 2 * i then own_lo x else g q) (2 * n)).length := by rw [own_tab_len]; omega
  have pre16 := fun τ (κ : Steps p.tables e below (T14.setTop (mkF m 52 #[.val (.ref db), .val (.int (Int32.ofNat (2 * i + 1))), .val (.int x)] [(.int ((x >>> ((8 : Int32) &&& 31)).toInt8.toInt32)), (.int (Int32.ofNat (2 * i + 1))), (.ref db)])) τ) => pre15 τ (by
    refine XS.ishr X14.here hx rfl (hb hby d20_50) rfl ?_
    show Steps p.tables e below (T14.setTop (mkF m 51 #[.val (.ref db), .val (.int (Int32.ofNat (2 * i + 1))), .val (.int x)] [(.int (x >>> ((8 : Int32) &&& 31))), (.int (Int32.ofNat (2 * i + 1))), (.ref db)])) _
    refine XS.i2b X14.here hx rfl (hb hby d20_51) rfl ?_
    show Steps p.tables e below (T14.setTop (mkF m 52 #[.val (.ref db), .val (.int (Int32.ofNat (2 * i + 1))), .val (.int x)] [(.int ((x >>> ((8 : Int32) &&& 31)).toInt8.toInt32)), (.int (Int32.ofNat (2 * i + 1))), (.ref db)])) _
    exact κ)
  obtain ⟨cl17, Ar17, q17, S17, M17, H17, G17⟩ := id V_db_11
  have in17 : ¬ ((Int32.ofNat (2 * i + 1)) < 0 ∨ cl17.slots.size ≤ ((Int32.ofNat (2 * i + 1))).toNatClampNeg) := inb_of S17 ⟨own_nn (by omega), (own_ltN (by omega) (by omega)).mpr (by omega)⟩
  obtain ⟨T18, h18, X18, e18, W18, st18⟩ := stB X14 hx hZ e14 Ar17 (j := (Int32.ofNat (2 * i + 1))) in17 (g := (mkF m 52 #[.val (.ref db), .val (.int (Int32.ofNat (2 * i + 1))), .val (.int x)] [(.int ((x >>> ((8 : Int32) &&& 31)).toInt8.toInt32)), (.int (Int32.ofNat (2 * i + 1))), (.ref db)])) rfl rfl (hb hby d20_52)
  have O0_18 : Old Z n0 h18 := O0_11.wr W18 gb
  have Kp18 : Keep h0 h18 [db] := Kp11.wr W18 (Or.inl (List.mem_of_getElem? (i := 0) rfl))
  have N18 := Fr.snoc X18 N11 gb
  have Z18 : n0 ≤ h18.size := Nat.le_trans Z11 (Keep.of_wr W18).1
  have V_db_18 : Arv Z h18 db kb .byte (Int32.ofNat (2 * n)) (own_tab (fun q => if q = 2 * i + 1 then own_hi x else (fun q => if q = 2 * i then own_lo x else g q) q) (2 * n)) (.int (0 : Int32)) := (by rw [← own_hihi x]; exact (own_tab_set (fun q => if q = 2 * i then own_lo x else g q) (2 * n) (2 * i + 1) _) ▸ (Arv.set Ar17 q17 S17 M17 H17 G17 (fits_nar_byte _) W18 (2 * i + 1) (by first | rfl | assumption) (by assumption)))
  have pre19 := fun τ (κ : Steps p.tables e below (T18.setTop (mkF m 53 #[.val (.ref db), .val (.int (Int32.ofNat (2 * i + 1))), .val (.int x)] [])) τ) => pre16 τ (st18 _ κ)
  obtain ⟨fs, hr, hrun, hended, hW, hsame⟩ := X18.leave (v := none) (fun _ => rfl)
  refine ⟨_, _, pre19 _ ?_, hrun, hended, _, _, rfl, ?_, ⟨_, rfl⟩, hW, hsame.mono (by decide) (by decide)⟩
  · exact X18.returnOut hx Bd.returns (hb hby d20_53) hr
  · show Q20 Z db i x n kb g zc fm h0 n0 _ T18.heap _
    rw [e18]
    exact ⟨rfl, N18, Kp18, V_db_18⟩
theorem ef_21 (m : MethodId) (db : Addr) (i : Nat) (n : Nat) (zc : Int32) (fm : Value) : entryFrame m #[(.ref db), (.int (Int32.ofNat i))] 2 = mkF m 0 #[.val (.ref db), .val (.int (Int32.ofNat i))] [] := by first | (simp [entryFrame, mkF, argsToLocals, Value.category]; done) | rfl
def Q21 (Z : State) (db : Addr) (i : Nat) (n : Nat) (kb : ClassId) (f : Nat → Int32) (zc : Int32) (fm : Value) (h0 : Heap) (n0 : Nat) (v : Option Value) (h : Heap) (L : List Loc) : Prop := v = some (.int (f i)) ∧ Fr n0 L ∧ h = h0
set_option maxRecDepth 65536 in
set_option maxHeartbeats 40000000 in
theorem rm21 (l : Launch) (Z : State) (a0 : Array Value) (hw : ∀ d ∈ tables_1, d.before a0 Z = true) (ws : List Jvm.Cond) (db : Addr) (i : Nat) (n : Nat) (kb : ClassId) (f : Nat → Int32) (zc : Int32) (fm : Value) (h0 : Heap) (n0 : Nat) (Z0 : n0 ≤ h0.size) (O0 : Old Z n0 h0) (U0 : own_ST Z zc fm) (Va : Arv Z h0 db kb .byte (Int32.ofNat (2 * n)) (own_tab (own_u16 f) (2 * n)) (.int (0 : Int32))) (hn : n ≤ 16) (hi : i < n) (hc : own_ch (f i)) :
    MetFree l (⟨"java/lang/StringUTF16", "getChar", "([BI)C"⟩ : MethodName) (head1 (Jvm.Cond.code (⟨"java/lang/StringUTF16", "getChar", "([BI)C"⟩ : MethodName) jdk_52_method_5_code 2 (some .char) :: ws) ({ frames := 0, cells := 0, slots := 0, locals := 0 } : Room)) (fun α υ => α = #[(.ref db), (.int (Int32.ofNat i))] ∧ Z.Warmed39 υ.vm ∧ υ.heap = h0) (fun _ _ _ _ _ => True) (fun _ υ ω υ' => ∃ v L, ω = .returned v ∧ Q21 Z db i n kb f zc fm h0 n0 v υ'.heap L ∧ FrameEnd υ ω υ' L ({ frames := 0, cells := 0, slots := 0, locals := 0 } : Room).cells ({ frames := 0, cells := 0, slots := 0, locals := 0 } : Room).slots) := by
  refine MetFree.of_bodySF (plainFor_of_name pn_java_lang_StringUTF16) hisR ?_
  intro p e s m args below meth c s₁ Bd hml0 hP hK
  obtain ⟨rfl, hZ, hh⟩ := hP
  have hx := Bd.exec
  have hby := Bd.bytes
  have hml : c.maxLocals = 2 := hml0
  have hown : s.vm.findClass "java/lang/StringUTF16" = some m.cls := findClass_of_methodNamed Bd.named
  have hnm := (name_of_methodNamed Bd.named Bd.method).1
  have X0 : Stand p l e ({ frames := 0, cells := 0, slots := 0, locals := 0 } : Room) s m #[(.ref db), (.int (Int32.ofNat i))] below meth c s₁ [] 0 0 := Stand.of_body Bd
  have e0 : s₁.heap = h0 := by rw [← hh, Bd.state]; rfl
  have N0 := Fr.nil n0
  have pre0 : ∀ τ, Steps p.tables e below (s₁.setTop (mkF m 0 #[.val (.ref db), .val (.int (Int32.ofNat i))] [])) τ → Steps p.tables e below (s₁.setTop (entryFrame m #[(.ref db), (.int (Int32.ofNat i))] 2)) τ := fun τ κ => castTop (ef_21 m db i n zc fm) κ
  obtain ⟨Scs, hcs, Sad, Shi, Slo, Sfm, r_fm⟩ := id U0
  obtain ⟨T1, X1, e1, st1⟩ := getS2 X0 hx hZ hown (host := "") (Or.inl (hw _ (List.mem_of_getElem? (i := 90) rfl))) Via.refl e0 (Sad.ext O0.2) (g := (mkF m 0 #[.val (.ref db), .val (.int (Int32.ofNat i))] [])) rfl (hb hby d21_0)
  have pre2 := fun τ (κ : Steps p.tables e below (T1.setTop (mkF m 3 #[.val (.ref db), .val (.int (Int32.ofNat i))] [(.int (1 : Int32))])) τ) => pre0 τ (st1 _ κ)
  have pre3 := fun τ (κ : Steps p.tables e below (T1.setTop (mkF m 31 #[.val (.ref db), .val (.int (Int32.ofNat i))] [(.int ((Int32.ofNat i) <<< ((1 : Int32) &&& 31)))])) τ) => pre2 τ (by
    refine XS.ifYes X1.here hx rfl (pc0 := 3) (pc' := 28) rfl (hb hby d21_3) rfl ((if0 _ _).trans (feq (by decide)).2) (by decide) (by decide) ?_
    show Steps p.tables e below (T1.setTop (mkF m 28 #[.val (.ref db), .val (.int (Int32.ofNat i))] [])) _
    refine XS.iloadN X1.here hx rfl (hb hby d21_28) rfl ?_
    refine XS.iconst X1.here hx rfl (hb hby d21_29) ?_
    refine XS.ishl X1.here hx rfl (hb hby d21_30) rfl ?_
    show Steps p.tables e below (T1.setTop (mkF m 31 #[.val (.ref db), .val (.int (Int32.ofNat i))] [(.int ((Int32.ofNat i) <<< ((1 : Int32) &&& 31)))])) _
    exact κ)
  rw [show ((Int32.ofNat i) <<< ((1 : Int32) &&& 31)) = (Int32.ofNat (2 * i)) from (own_shl1 (by omega))] at pre3
  have pre4 := fun τ (κ : Steps p.tables e below (T1.setTop (mkF m 37 #[.val (.ref db), .val (.int ((Int32.ofNat (2 * i)) + (1 : Int32)))] [(.int (Int32.ofNat (2 * i))), (.ref db)])) τ) => pre3 τ (by
    refine XS.istoreN X1.here hx rfl (hb hby d21_31) rfl (l' := #[.val (.ref db), .val (.int (Int32.ofNat (2 * i)))]) rfl ?_
    show Steps p.tables e below (T1.setTop (mkF m 32 #[.val (.ref db), .val (.int (Int32.ofNat (2 * i)))] [])) _
    refine XS.aloadN X1.here hx rfl (hb hby d21_32) rfl rfl ?_
    refine XS.iloadN X1.here hx rfl (hb hby d21_33) rfl ?_
    refine XS.iinc X1.here hx rfl (hb hby d21_34) rfl (l' := #[.val (.ref db), .val (.int ((Int32.ofNat (2 * i)) + (1 : Int32)))]) rfl ?_
    show Steps p.tables e below (T1.setTop (mkF m 37 #[.val (.ref db), .val (.int ((Int32.ofNat (2 * i)) + (1 : Int32)))] [(.int (Int32.ofNat (2 * i))), (.ref db)])) _
    exact κ)
  rw [show ((Int32.ofNat (2 * i)) + (1 : Int32)) = (Int32.ofNat (2 * i + 1)) from (own_addN _ 1)] at pre4
  obtain ⟨cl5, Ar5, -, S5, M5, H5, -⟩ := id Va
  have in5 : ¬ ((Int32.ofNat (2 * i)) < 0 ∨ cl5.slots.size ≤ ((Int32.ofNat (2 * i))).toNatClampNeg) := inb_of S5 ⟨own_nn (by omega), (own_ltN (by omega) (by omega)).mpr (by omega)⟩
  have at5 : cl5.slots[((Int32.ofNat (2 * i))).toNatClampNeg]? = some (.int (own_lo (f i))) := H5.at in5 (by rw [own_clamp (by omega), own_tab_get (by omega), own_u16e])
  have pre6 := fun τ (κ : Steps p.tables e below (T1.setTop (mkF m 42 #[.val (.ref db), .val (.int (Int32.ofNat (2 * i + 1)))] [(.int ((own_lo (f i)) &&& (255 : Int32)))])) τ) => pre4 τ (by
    refine X1.baloadBytes hx (j := (Int32.ofNat (2 * i))) (v := (.int (own_lo (f i)))) (by rw [e1]; exact Ar5.1) (State.isArrayOf_alike hZ.alike Ar5.2.1) Ar5.2.2 in5 at5 (g := (mkF m 37 #[.val (.ref db), .val (.int (Int32.ofNat (2 * i + 1)))] [(.int (Int32.ofNat (2 * i))), (.ref db)])) rfl rfl (hb hby d21_37) _ ?_
    show Steps p.tables e below (T1.setTop (mkF m 38 #[.val (.ref db), .val (.int (Int32.ofNat (2 * i + 1)))] [(.int (own_lo (f i)))])) _
    refine XS.sipush X1.here hx rfl (hb hby d21_38) ?_
    refine XS.iand X1.here hx rfl (hb hby d21_41) rfl ?_
    show Steps p.tables e below (T1.setTop (mkF m 42 #[.val (.ref db), .val (.int (Int32.ofNat (2 * i + 1)))] [(.int ((own_lo (f i)) &&& (255 : Int32)))])) _
    exact κ)
  obtain ⟨T7, X7, e7, st7⟩ := getS2 X1 hx hZ hown (host := "") (Or.inl (hw _ (List.mem_of_getElem? (i := 91) rfl))) Via.refl e1 (Shi.ext O0.2) (g := (mkF m 42 #[.val (.ref db), .val (.int (Int32.ofNat (2 * i + 1)))] [(.int ((own_lo (f i)) &&& (255 : Int32)))])) rfl (hb hby d21_42)
  have pre8 := fun τ (κ : Steps p.tables e below (T7.setTop (mkF m 45 #[.val (.ref db), .val (.int (Int32.ofNat (2 * i + 1)))] [(.int (0 : Int32)), (.int ((own_lo (f i)) &&& (255 : Int32)))])) τ) => pre6 τ (st7 _ κ)
  have pre9 := fun τ (κ : Steps p.tables e below (T7.setTop (mkF m 48 #[.val (.ref db), .val (.int (Int32.ofNat (2 * i + 1)))] [(.int (Int32.ofNat (2 * i + 1))), (.ref db), (.int (((own_lo (f i)) &&& (255 : Int32)) <<< ((0 : Int32) &&& 31)))])) τ) => pre8 τ (by
    refine XS.ishl X7.here hx rfl (hb hby d21_45) rfl ?_
    show Steps p.tables e below (T7.setTop (mkF m 46 #[.val (.ref db), .val (.int (Int32.ofNat (2 * i + 1)))] [(.int (((own_lo (f i)) &&& (255 : Int32)) <<< ((0 : Int32) &&& 31)))])) _
    refine XS.aloadN X7.here hx rfl (hb hby d21_46) rfl rfl ?_
    refine XS.iloadN X7.here hx rfl (hb hby d21_47) rfl ?_
    show Steps p.tables e below (T7.setTop (mkF m 48 #[.val (.ref db), .val (.int (Int32.ofNat (2 * i + 1)))] [(.int (Int32.ofNat (2 * i + 1))), (.ref db), (.int (((own_lo (f i)) &&& (255 : Int32)) <<< ((0 : Int32) &&& 31)))])) _
    exact κ)
  obtain ⟨cl10, Ar10, -, S10, M10, H10, -⟩ := id Va
  have in10 : ¬ ((Int32.ofNat (2 * i + 1)) < 0 ∨ cl10.slots.size ≤ ((Int32.ofNat (2 * i + 1))).toNatClampNeg) := inb_of S10 ⟨own_nn (by omega), (own_ltN (by omega) (by omega)).mpr (by omega)⟩
  have at10 : cl10.slots[((Int32.ofNat (2 * i + 1))).toNatClampNeg]? = some (.int (own_hi (f i))) := H10.at in10 (by rw [own_clamp (by omega), own_tab_get (by omega), own_u16o])
  have pre11 := fun τ (κ : Steps p.tables e below (T7.setTop (mkF m 53 #[.val (.ref db), .val (.int (Int32.ofNat (2 * i + 1)))] [(.int ((own_hi (f i)) &&& (255 : Int32))), (.int (((own_lo (f i)) &&& (255 : Int32)) <<< ((0 : Int32) &&& 31)))])) τ) => pre9 τ (by
    refine X7.baloadBytes hx (j := (Int32.ofNat (2 * i + 1))) (v := (.int (own_hi (f i)))) (by rw [e7]; exact Ar10.1) (State.isArrayOf_alike hZ.alike Ar10.2.1) Ar10.2.2 in10 at10 (g := (mkF m 48 #[.val (.ref db), .val (.int (Int32.ofNat (2 * i + 1)))] [(.int (Int32.ofNat (2 * i + 1))), (.ref db), (.int (((own_lo (f i)) &&& (255 : Int32)) <<< ((0 : Int32) &&& 31)))])) rfl rfl (hb hby d21_48) _ ?_
    show Steps p.tables e below (T7.setTop (mkF m 49 #[.val (.ref db), .val (.int (Int32.ofNat (2 * i + 1)))] [(.int (own_hi (f i))), (.int (((own_lo (f i)) &&& (255 : Int32)) <<< ((0 : Int32) &&& 31)))])) _
    refine XS.sipush X7.here hx rfl (hb hby d21_49) ?_
    refine XS.iand X7.here hx rfl (hb hby d21_52) rfl ?_
    show Steps p.tables e below (T7.setTop (mkF m 53 #[.val (.ref db), .val (.int (Int32.ofNat (2 * i + 1)))] [(.int ((own_hi (f i)) &&& (255 : Int32))), (.int (((own_lo (f i)) &&& (255 : Int32)) <<< ((0 : Int32) &&& 31)))])) _
    exact κ)
  obtain ⟨T12, X12, e12, st12⟩ := getS2 X7 hx hZ hown (host := "") (Or.inl (hw _ (List.mem_of_getElem? (i := 92) rfl))) Via.refl e7 (Slo.ext O0.2) (g := (mkF m 53 #[.val (.ref db), .val (.int (Int32.ofNat (2 * i + 1)))] [(.int ((own_hi (f i)) &&& (255 : Int32))), (.int (((own_lo (f i)) &&& (255 : Int32)) <<< ((0 : Int32) &&& 31)))])) rfl (hb hby d21_53)
  have pre13 := fun τ (κ : Steps p.tables e below (T12.setTop (mkF m 56 #[.val (.ref db), .val (.int (Int32.ofNat (2 * i + 1)))] [(.int (8 : Int32)), (.int ((own_hi (f i)) &&& (255 : Int32))), (.int (((own_lo (f i)) &&& (255 : Int32)) <<< ((0 : Int32) &&& 31)))])) τ) => pre11 τ (st12 _ κ)
  have pre14 := fun τ (κ : Steps p.tables e below (T12.setTop (mkF m 59 #[.val (.ref db), .val (.int (Int32.ofNat (2 * i + 1)))] [(.int (((((own_lo (f i)) &&& (255 : Int32)) <<< ((0 : Int32) &&& 31)) ||| (((own_hi (f i)) &&& (255 : Int32)) <<< ((8 : Int32) &&& 31))).toUInt32.toUInt16.toUInt32.toInt32))])) τ) => pre13 τ (by
    refine XS.ishl X12.here hx rfl (hb hby d21_56) rfl ?_
    show Steps p.tables e below (T12.setTop (mkF m 57 #[.val (.ref db), .val (.int (Int32.ofNat (2 * i + 1)))] [(.int (((own_hi (f i)) &&& (255 : Int32)) <<< ((8 : Int32) &&& 31))), (.int (((own_lo (f i)) &&& (255 : Int32)) <<< ((0 : Int32) &&& 31)))])) _
    refine XS.ior X12.here hx rfl (hb hby d21_57) rfl ?_
    show Steps p.tables e below (T12.setTop (mkF m 58 #[.val (.ref db), .val (.int (Int32.ofNat (2 * i + 1)))] [(.int ((((own_lo (f i)) &&& (255 : Int32)) <<< ((0 : Int32) &&& 31)) ||| (((own_hi (f i)) &&& (255 : Int32)) <<< ((8 : Int32) &&& 31))))])) _
    refine XS.i2c X12.here hx rfl (hb hby d21_58) rfl ?_
    show Steps p.tables e below (T12.setTop (mkF m 59 #[.val (.ref db), .val (.int (Int32.ofNat (2 * i + 1)))] [(.int (((((own_lo (f i)) &&& (255 : Int32)) <<< ((0 : Int32) &&& 31)) ||| (((own_hi (f i)) &&& (255 : Int32)) <<< ((8 : Int32) &&& 31))).toUInt32.toUInt16.toUInt32.toInt32))])) _
    exact κ)
  rw [show (((((own_lo (f i)) &&& (255 : Int32)) <<< ((0 : Int32) &&& 31)) ||| (((own_hi (f i)) &&& (255 : Int32)) <<< ((8 : Int32) &&& 31))).toUInt32.toUInt16.toUInt32.toInt32) = (f i) from (own_glue hc)] at pre14
  obtain ⟨fs, hr, hrun, hended, hW, hsame⟩ := X12.leave (v := some (.int (nar .char (f i)))) (fun h => by rw [Bd.returns] at h; cases h)
  refine ⟨_, _, pre14 _ ?_, hrun, hended, _, _, rfl, ?_, ⟨_, rfl⟩, hW, hsame.mono (by decide) (by decide)⟩
  · exact retN X12 hx (t := .char) Bd.returns (by simp) (hb hby d21_59) hr
  · show Q21 Z db i n kb f zc fm h0 n0 _ T12.heap _
    rw [e12]
    exact ⟨own_narc hc, N0, rfl⟩
theorem own_u16step (f : Nat → Int32) (i j : Nat) : (if j = 2 * i + 1 then own_hi (f i) else (fun q => if q = 2 * i then own_lo (f i) else (fun q => if q < 2 * i then own_u16 f q else 0) q) j) = (if j < 2 * (i + 1) then own_u16 f j else 0) := by
  by_cases h1 : j = 2 * i + 1
  · subst h1; rw [if_pos rfl, if_pos (by omega), own_u16o]
  · rw [if_neg h1]; show (if j = 2 * i then own_lo (f i) else if j < 2 * i then own_u16 f j else 0) = _
    by_cases h2 : j = 2 * i
    · subst h2; rw [if_pos rfl, if_pos (by omega), own_u16e]
    · rw [if_neg h2]
      by_cases h3 : j < 2 * i
      · rw [if_pos h3, if_pos (by omega)]
      · rw [if_neg h3, if_neg (by omega)]
set_option maxRecDepth 65536 in
set_option maxHeartbeats 40000000 in
theorem loopT {p : Program} {l : Launch} {e : Env} {R : Room} {s : State} {m : MethodId} {args : Array Value} {below : List Frame} {meth : Method} {c : Code} {Z : State} {a0 : Array Value} (hx : p.tables.exec = Jvm.exec) (hZ : Z.Warmed39 s.vm) (hw : ∀ d ∈ tables_1, d.before a0 Z = true) (hby : c.code = jdk_52_method_14_code) (hml : c.maxLocals = 5) (hown : s.vm.findClass "java/lang/StringUTF16" = some m.cls) {n0 cells slots : Nat} (ca db : Addr) (kc kb : ClassId) (n : Nat) (f : Nat → Int32) (zc : Int32) (fm : Value) (U0 : own_ST Z zc fm) (hn : n ≤ 16) (hcb : ca ≠ db) (gb : n0 ≤ db) (hRf : 0 + 1 ≤ R.frames) (hRl : 0 + (3 + 11) + 0 ≤ R.locals) (hRc : cells ≤ R.cells) (hRs : slots ≤ R.slots) :
    ∀ (fu i : Nat) (T0 : State) (h0 : Heap) (locs : List Loc), n ≤ i + fu → i ≤ n → Stand p l e R s m args below meth c T0 locs cells slots → T0.heap = h0 → Fr n0 locs → n0 ≤ h0.size → Old Z n0 h0 → Arv Z h0 ca kc .char (Int32.ofNat n) (own_tab f n) (.int (0 : Int32)) → Arv Z h0 db kb .byte (Int32.ofNat (2 * n)) (own_tab (fun q => if q < 2 * i then own_u16 f q else 0) (2 * n)) (.int (0 : Int32)) →
      ∃ (T' : State) (h' : Heap) (locs' : List Loc), Stand p l e R s m args below meth c T' locs' cells slots ∧ T'.heap = h' ∧ Fr n0 locs' ∧ Keep h0 h' [db] ∧ Old Z n0 h' ∧ Arv Z h' db kb .byte (Int32.ofNat (2 * n)) (own_tab (own_u16 f) (2 * n)) (.int (0 : Int32)) ∧ ∃ z1 z2 : Int32, ∀ t, Steps p.tables e below (T'.setTop (mkF m 32 #[.val (.ref ca), .val (.int z1), .val (.int (Int32.ofNat n)), .val (.ref db), .val (.int z2)] [])) t → Steps p.tables e below (T0.setTop (mkF m 8 #[.val (.ref ca), .val (.int (Int32.ofNat i)), .val (.int (Int32.ofNat n)), .val (.ref db), .val (.int (Int32.ofNat i))] [])) t := by
  intro fu
  induction fu with
  | zero =>
    intro i T0 h0 locs hfu hin X0 e0 N0 Z0 O0 Vc Vb
    have hgt : ¬ i < n := by omega
    have pre0 := fun τ (κ : Steps p.tables e below (T0.setTop (mkF m 8 #[.val (.ref ca), .val (.int (Int32.ofNat i)), .val (.int (Int32.ofNat n)), .val (.ref db), .val (.int (Int32.ofNat i))] [])) τ) => κ
    have Kp0 : Keep h0 h0 [db] := Keep.refl _ _
    have pre1 := fun τ (κ : Steps p.tables e below (T0.setTop (mkF m 32 #[.val (.ref ca), .val (.int (Int32.ofNat i)), .val (.int (Int32.ofNat n)), .val (.ref db), .val (.int (Int32.ofNat i))] [])) τ) => pre0 τ (by
      refine XS.iload X0.here hx rfl (hb hby d17_8) rfl ?_
      refine XS.iloadN X0.here hx rfl (hb hby d17_10) rfl ?_
      refine XS.icmpYes X0.here hx rfl (pc0 := 11) (pc' := 32) rfl (hb hby d17_11) rfl (flt (fun q => hgt ((own_ltN (by omega) (by omega)).mp q))).2.1 (by decide) (by decide) ?_
      show Steps p.tables e below (T0.setTop (mkF m 32 #[.val (.ref ca), .val (.int (Int32.ofNat i)), .val (.int (Int32.ofNat n)), .val (.ref db), .val (.int (Int32.ofNat i))] [])) _
      exact κ)
    have V_db_2 : Arv Z h0 db kb .byte (Int32.ofNat (2 * n)) (own_tab (own_u16 f) (2 * n)) (.int (0 : Int32)) := own_cg Vb (fun j hj => by rw [if_pos (by omega)])
    exact ⟨T0, h0, locs, X0, e0, N0, Kp0, O0, V_db_2, _, _, pre1⟩
  | succ fu ih =>
    intro i T0 h0 locs hfu hin X0 e0 N0 Z0 O0 Vc Vb
    by_cases hgt : i < n
    · skip
      have pre0 := fun τ (κ : Steps p.tables e below (T0.setTop (mkF m 8 #[.val (.ref ca), .val (.int (Int32.ofNat i)), .val (.int (Int32.ofNat n)), .val (.ref db), .val (.int (Int32.ofNat i))] [])) τ) => κ
      have Kp0 : Keep h0 h0 [db] := Keep.refl _ _
      have pre1 := fun τ (κ : Steps p.tables e below (T0.setTop (mkF m 19 #[.val (.ref ca), .val (.int (Int32.ofNat i)), .val (.int (Int32.ofNat n)), .val (.ref db), .val (.int (Int32.ofNat i))] [(.int (Int32.ofNat i)), (.ref ca), (.int (Int32.ofNat i)), (.ref db)])) τ) => pre0 τ (by
        refine XS.iload X0.here hx rfl (hb hby d17_8) rfl ?_
        refine XS.iloadN X0.here hx rfl (hb hby d17_10) rfl ?_
        refine XS.icmpNo X0.here hx rfl (hb hby d17_11) rfl (tlt ((own_ltN (by omega) (by omega)).mpr hgt)).2.1 ?_
        show Steps p.tables e below (T0.setTop (mkF m 14 #[.val (.ref ca), .val (.int (Int32.ofNat i)), .val (.int (Int32.ofNat n)), .val (.ref db), .val (.int (Int32.ofNat i))] [])) _
        refine XS.aloadN X0.here hx rfl (hb hby d17_14) rfl rfl ?_
        refine XS.iload X0.here hx rfl (hb hby d17_15) rfl ?_
        refine XS.aloadN X0.here hx rfl (hb hby d17_17) rfl rfl ?_
        refine XS.iloadN X0.here hx rfl (hb hby d17_18) rfl ?_
        show Steps p.tables e below (T0.setTop (mkF m 19 #[.val (.ref ca), .val (.int (Int32.ofNat i)), .val (.int (Int32.ofNat n)), .val (.ref db), .val (.int (Int32.ofNat i))] [(.int (Int32.ofNat i)), (.ref ca), (.int (Int32.ofNat i)), (.ref db)])) _
        exact κ)
      obtain ⟨cl2, Ar2, -, S2, M2, H2, -⟩ := id Vc
      have in2 : ¬ ((Int32.ofNat i) < 0 ∨ cl2.slots.size ≤ ((Int32.ofNat i)).toNatClampNeg) := inb_of S2 ⟨own_nn (by omega), (own_ltN (by omega) (by omega)).mpr (by omega)⟩
      have at2 : cl2.slots[((Int32.ofNat i)).toNatClampNeg]? = some (.int (f i)) := H2.at in2 (by rw [own_clamp (by omega)]; exact own_tab_get (by omega) _)
      have pre3 := fun τ (κ : Steps p.tables e below (T0.setTop (mkF m 20 #[.val (.ref ca), .val (.int (Int32.ofNat i)), .val (.int (Int32.ofNat n)), .val (.ref db), .val (.int (Int32.ofNat i))] [(.int (f i)), (.int (Int32.ofNat i)), (.ref db)])) τ) => pre1 τ (by
        refine X0.caload hx (j := (Int32.ofNat i)) (v := (.int (f i))) (by rw [e0]; exact Ar2.1) (State.isArrayOf_alike hZ.alike Ar2.2.1) Ar2.2.2 in2 at2 (g := (mkF m 19 #[.val (.ref ca), .val (.int (Int32.ofNat i)), .val (.int (Int32.ofNat n)), .val (.ref db), .val (.int (Int32.ofNat i))] [(.int (Int32.ofNat i)), (.ref ca), (.int (Int32.ofNat i)), (.ref db)])) rfl rfl (hb hby d17_19) _ ?_
        show Steps p.tables e below (T0.setTop (mkF m 20 #[.val (.ref ca), .val (.int (Int32.ofNat i)), .val (.int (Int32.ofNat n)), .val (.ref db), .val (.int (Int32.ofNat i))] [(.int (f i)), (.int (Int32.ofNat i)), (.ref db)])) _
        exact κ)
      obtain ⟨_, _, ⟨T4, L4, k4, n4⟩, -, X4, ⟨Lc4, hQ4, l4, y4, z4⟩, st4⟩ := Jvm.LawKit.callS X0 hx (y := (⟨"java/lang/StringUTF16", "putChar", "([BII)V"⟩ : MethodName)) hown (mvT hZ (hw _ (List.mem_of_getElem? (i := 87) rfl))) (mvT hZ (hw _ (List.mem_of_getElem? (i := 88) rfl))) (mvT hZ (hw _ (List.mem_of_getElem? (i := 26) rfl))) (mvT hZ (hw _ (List.mem_of_getElem? (i := 89) rfl))) (by decide) (backOf (W := 0) (rm20 l Z a0 hw [] db i (f i) n kb (fun q => if q < 2 * i then own_u16 f q else 0) zc fm h0 n0 Z0 O0 U0 Vb hn (by omega) gb) hZ (hw _ (List.mem_of_getElem? (i := 89) rfl)) (hw _ (List.mem_of_getElem? (i := 26) rfl)) hRf hRl) (g := (mkF m 20 #[.val (.ref ca), .val (.int (Int32.ofNat i)), .val (.int (Int32.ofNat n)), .val (.ref db), .val (.int (Int32.ofNat i))] [(.int (f i)), (.int (Int32.ofNat i)), (.ref db)])) rfl (by rw [hml]; rfl) (argsL := [(.ref db), (.int (Int32.ofNat i)), (.int (f i))]) (rest := []) (lenOf pd_1 rfl) rfl (by show 2 * 0 + _ ≤ _; exact Nat.le_of_eq rfl) (hb hby d17_20) (fun _ _ => ⟨rfl, e0, (by show cells + 0 ≤ R.cells; omega), (by show slots + 0 ≤ R.slots; omega)⟩)
      dsimp only [Pt.U, Pt.locs, Pt.cells, Pt.slots] at X4 l4 y4 z4 st4 hQ4
      subst l4 y4 z4
      obtain ⟨rfl, Nq4, K4, Vq4⟩ := hQ4
      have O0_4 : Old Z n0 T4.heap := O0.keep K4 (allS gb all0)
      have Vc_4 : Arv Z T4.heap ca kc .char (Int32.ofNat n) (own_tab f (n)) (.int (0 : Int32)) := Vc.keep K4 (ninS hcb nin0)
      have Z4 : n0 ≤ T4.heap.size := Nat.le_trans Z0 K4.1
      have Kp4 : Keep h0 T4.heap [db] := Kp0.trans K4 (allS (Or.inl (List.mem_of_getElem? (i := 0) rfl)) all0)
      have N4 := Fr.app N0 Nq4
      have pre5 := fun τ (κ : Steps p.tables e below (T4.setTop (mkF m 23 #[.val (.ref ca), .val (.int (Int32.ofNat i)), .val (.int (Int32.ofNat n)), .val (.ref db), .val (.int (Int32.ofNat i))] [])) τ) => pre3 τ (st4 _ κ)
      have V_db_6 : Arv Z T4.heap db kb .byte (Int32.ofNat (2 * n)) (own_tab (fun q => if q < 2 * (i + 1) then own_u16 f q else 0) (2 * n)) (.int (0 : Int32)) := own_cg Vq4 (fun j hj => by exact own_u16step f i j)
      have pre7 := fun τ (κ : Steps p.tables e below (T4.setTop (mkF m 8 #[.val (.ref ca), .val (.int ((Int32.ofNat i) + (1 : Int32))), .val (.int (Int32.ofNat n)), .val (.ref db), .val (.int ((Int32.ofNat i) + (1 : Int32)))] [])) τ) => pre5 τ (by
        refine XS.iinc X4.here hx rfl (hb hby d17_23) rfl (l' := #[.val (.ref ca), .val (.int ((Int32.ofNat i) + (1 : Int32))), .val (.int (Int32.ofNat n)), .val (.ref db), .val (.int (Int32.ofNat i))]) rfl ?_
        show Steps p.tables e below (T4.setTop (mkF m 26 #[.val (.ref ca), .val (.int ((Int32.ofNat i) + (1 : Int32))), .val (.int (Int32.ofNat n)), .val (.ref db), .val (.int (Int32.ofNat i))] [])) _
        refine XS.iinc X4.here hx rfl (hb hby d17_26) rfl (l' := #[.val (.ref ca), .val (.int ((Int32.ofNat i) + (1 : Int32))), .val (.int (Int32.ofNat n)), .val (.ref db), .val (.int ((Int32.ofNat i) + (1 : Int32)))]) rfl ?_
        show Steps p.tables e below (T4.setTop (mkF m 29 #[.val (.ref ca), .val (.int ((Int32.ofNat i) + (1 : Int32))), .val (.int (Int32.ofNat n)), .val (.ref db), .val (.int ((Int32.ofNat i) + (1 : Int32)))] [])) _
        refine XS.goto X4.here hx rfl (pc0 := 29) (pc' := 8) rfl (hb hby d17_29) (by decide) (by decide) ?_
        show Steps p.tables e below (T4.setTop (mkF m 8 #[.val (.ref ca), .val (.int ((Int32.ofNat i) + (1 : Int32))), .val (.int (Int32.ofNat n)), .val (.ref db), .val (.int ((Int32.ofNat i) + (1 : Int32)))] [])) _
        exact κ)
      rw [show ((Int32.ofNat i) + (1 : Int32)) = (Int32.ofNat (i + 1)) from (own_addN _ 1)] at pre7
      obtain ⟨T', h', lo', X', e', N', K', O', V', z1, z2, st⟩ := ih (i + 1) _ _ _ (by omega) (by omega) (by simpa using X4) rfl N4 Z4 O0_4 Vc_4 V_db_6
      exact ⟨T', h', lo', X', e', N', Kp4.trans K' (allS (Or.inl (List.mem_of_getElem? (i := 0) rfl)) all0), O', V', z1, z2, fun τ κ => pre7 τ (st τ κ)⟩
    · skip
      have pre0 := fun τ (κ : Steps p.tables e below (T0.setTop (mkF m 8 #[.val (.ref ca), .val (.int (Int32.ofNat i)), .val (.int (Int32.ofNat n)), .val (.ref db), .val (.int (Int32.ofNat i))] [])) τ) => κ
      have Kp0 : Keep h0 h0 [db] := Keep.refl _ _
      have pre1 := fun τ (κ : Steps p.tables e below (T0.setTop (mkF m 32 #[.val (.ref ca), .val (.int (Int32.ofNat i)), .val (.int (Int32.ofNat n)), .val (.ref db), .val (.int (Int32.ofNat i))] [])) τ) => pre0 τ (by
        refine XS.iload X0.here hx rfl (hb hby d17_8) rfl ?_
        refine XS.iloadN X0.here hx rfl (hb hby d17_10) rfl ?_
        refine XS.icmpYes X0.here hx rfl (pc0 := 11) (pc' := 32) rfl (hb hby d17_11) rfl (flt (fun q => hgt ((own_ltN (by omega) (by omega)).mp q))).2.1 (by decide) (by decide) ?_
        show Steps p.tables e below (T0.setTop (mkF m 32 #[.val (.ref ca), .val (.int (Int32.ofNat i)), .val (.int (Int32.ofNat n)), .val (.ref db), .val (.int (Int32.ofNat i))] [])) _
        exact κ)
      have V_db_2 : Arv Z h0 db kb .byte (Int32.ofNat (2 * n)) (own_tab (own_u16 f) (2 * n)) (.int (0 : Int32)) := own_cg Vb (fun j hj => by rw [if_pos (by omega)])
      exact ⟨T0, h0, locs, X0, e0, N0, Kp0, O0, V_db_2, _, _, pre1⟩

theorem ef_17 (m : MethodId) (ca : Addr) (n : Nat) (zc : Int32) (fm : Value) : entryFrame m #[(.ref ca), (.int (0 : Int32)), (.int (Int32.ofNat n))] 5 = mkF m 0 #[.val (.ref ca), .val (.int (0 : Int32)), .val (.int (Int32.ofNat n)), .unset, .unset] [] := by first | (simp [entryFrame, mkF, argsToLocals, Value.category]; done) | rfl
def Q17 (Z : State) (ca : Addr) (n : Nat) (kc : ClassId) (f : Nat → Int32) (zc : Int32) (fm : Value) (h0 : Heap) (n0 : Nat) (v : Option Value) (h : Heap) (L : List Loc) : Prop := ∃ (b : Addr) (kb : ClassId), v = some (.ref b) ∧ Fr n0 L ∧ Keep h0 h [] ∧ Arv Z h b kb .byte (Int32.ofNat (2 * n)) (own_tab (own_u16 f) (2 * n)) (.int (0 : Int32)) ∧ h0.size ≤ b
set_option maxRecDepth 65536 in
set_option maxHeartbeats 40000000 in
theorem rm17 (l : Launch) (Z : State) (a0 : Array Value) (hw : ∀ d ∈ tables_1, d.before a0 Z = true) (ws : List Jvm.Cond) (ca : Addr) (n : Nat) (kc : ClassId) (f : Nat → Int32) (zc : Int32) (fm : Value) (h0 : Heap) (n0 : Nat) (Z0 : n0 ≤ h0.size) (O0 : Old Z n0 h0) (U0 : own_ST Z zc fm) (Vc : Arv Z h0 ca kc .char (Int32.ofNat n) (own_tab f (n)) (.int (0 : Int32))) (hn : n ≤ 16) :
    MetFree l (⟨"java/lang/StringUTF16", "toBytes", "([CII)[B"⟩ : MethodName) (head1 (Jvm.Cond.code (⟨"java/lang/StringUTF16", "toBytes", "([CII)[B"⟩ : MethodName) jdk_52_method_14_code 5 (some (.array .byte)) :: ws) ({ frames := 2, cells := 1, slots := 32, locals := 24 } : Room)) (fun α υ => α = #[(.ref ca), (.int (0 : Int32)), (.int (Int32.ofNat n))] ∧ Z.Warmed39 υ.vm ∧ υ.heap = h0) (fun _ _ _ _ _ => True) (fun _ υ ω υ' => ∃ v L, ω = .returned v ∧ Q17 Z ca n kc f zc fm h0 n0 v υ'.heap L ∧ FrameEnd υ ω υ' L ({ frames := 2, cells := 1, slots := 32, locals := 24 } : Room).cells ({ frames := 2, cells := 1, slots := 32, locals := 24 } : Room).slots) := by
  refine MetFree.of_bodySF (plainFor_of_name pn_java_lang_StringUTF16) hisR ?_
  intro p e s m args below meth c s₁ Bd hml0 hP hK
  obtain ⟨rfl, hZ, hh⟩ := hP
  have hx := Bd.exec
  have hby := Bd.bytes
  have hml : c.maxLocals = 5 := hml0
  have hown : s.vm.findClass "java/lang/StringUTF16" = some m.cls := findClass_of_methodNamed Bd.named
  have hnm := (name_of_methodNamed Bd.named Bd.method).1
  have X0 : Stand p l e ({ frames := 2, cells := 1, slots := 32, locals := 24 } : Room) s m #[(.ref ca), (.int (0 : Int32)), (.int (Int32.ofNat n))] below meth c s₁ [] 0 0 := Stand.of_body Bd
  have e0 : s₁.heap = h0 := by rw [← hh, Bd.state]; rfl
  have N0 := Fr.nil n0
  have pre0 : ∀ τ, Steps p.tables e below (s₁.setTop (mkF m 0 #[.val (.ref ca), .val (.int (0 : Int32)), .val (.int (Int32.ofNat n)), .unset, .unset] [])) τ → Steps p.tables e below (s₁.setTop (entryFrame m #[(.ref ca), (.int (0 : Int32)), (.int (Int32.ofNat n))] 5)) τ := fun τ κ => castTop (ef_17 m ca n zc fm) κ
  have Kp0 : Keep h0 h0 [] := Keep.refl _ _
  have pre1 := fun τ (κ : Steps p.tables e below (s₁.setTop (mkF m 1 #[.val (.ref ca), .val (.int (0 : Int32)), .val (.int (Int32.ofNat n)), .unset, .unset] [(.int (Int32.ofNat n))])) τ) => pre0 τ (by
    refine XS.iloadN X0.here hx rfl (hb hby d17_0) rfl ?_
    show Steps p.tables e below (s₁.setTop (mkF m 1 #[.val (.ref ca), .val (.int (0 : Int32)), .val (.int (Int32.ofNat n)), .unset, .unset] [(.int (Int32.ofNat n))])) _
    exact κ)
  obtain ⟨_, _, ⟨T2, L2, k2, n2⟩, -, X2, ⟨Lc2, hQ2, l2, y2, z2⟩, st2⟩ := Jvm.LawKit.callS X0 hx (y := (⟨"java/lang/StringUTF16", "newBytesFor", "(I)[B"⟩ : MethodName)) hown (mvT hZ (hw _ (List.mem_of_getElem? (i := 80) rfl))) (mvT hZ (hw _ (List.mem_of_getElem? (i := 81) rfl))) (mvT hZ (hw _ (List.mem_of_getElem? (i := 26) rfl))) (mvT hZ (hw _ (List.mem_of_getElem? (i := 82) rfl))) (by decide) (backOf (W := 0) (rm18 l Z a0 hw [] n h0 n0 Z0 hn) hZ (hw _ (List.mem_of_getElem? (i := 82) rfl)) (hw _ (List.mem_of_getElem? (i := 26) rfl)) (Nat.le_of_ble_eq_true rfl) (Nat.le_of_ble_eq_true rfl)) (g := (mkF m 1 #[.val (.ref ca), .val (.int (0 : Int32)), .val (.int (Int32.ofNat n)), .unset, .unset] [(.int (Int32.ofNat n))])) rfl (by rw [hml]; rfl) (argsL := [(.int (Int32.ofNat n))]) (rest := []) (lenOf pd_2 rfl) rfl (by show 2 * 0 + _ ≤ _; exact Nat.le_of_eq rfl) (hb hby d17_1) (fun _ _ => ⟨rfl, e0, (by decide : 0 + 1 ≤ _), (by decide : 0 + 32 ≤ _)⟩)
  dsimp only [Pt.U, Pt.locs, Pt.cells, Pt.slots] at X2 l2 y2 z2 st2 hQ2
  subst l2 y2 z2
  obtain ⟨b, kb, rfl, Nq2, K2, Vb, sb⟩ := hQ2
  have O0_2 : Old Z n0 T2.heap := O0.keep K2 all0
  have Vc_2 : Arv Z T2.heap ca kc .char (Int32.ofNat n) (own_tab f (n)) (.int (0 : Int32)) := Vc.keep K2 nin0
  have Z2 : n0 ≤ T2.heap.size := Nat.le_trans Z0 K2.1
  have Kp2 : Keep h0 T2.heap [] := Kp0.trans K2 all0
  have N2 := Fr.app N0 Nq2
  have pre3 := fun τ (κ : Steps p.tables e below (T2.setTop (mkF m 4 #[.val (.ref ca), .val (.int (0 : Int32)), .val (.int (Int32.ofNat n)), .unset, .unset] [(.ref b)])) τ) => pre1 τ (st2 _ κ)
  have gb : n0 ≤ b := Nat.le_trans Z0 sb
  have hcb : ca ≠ b := Nat.ne_of_lt (Nat.lt_of_lt_of_le Vc.lt sb)
  have Vb0 : Arv Z T2.heap b kb .byte (Int32.ofNat (2 * n)) (own_tab (fun q => if q < 2 * 0 then own_u16 f q else 0) (2 * n)) (.int (0 : Int32)) := own_cg Vb (fun j hj => by rw [if_neg (by omega)])
  obtain ⟨T9, h9, lo9, X9, e9, N9, K9, O9, V9, z1, z2, st9⟩ := loopT hx hZ hw hby hml hown ca b kc kb n f zc fm U0 hn hcb gb (Nat.le_of_ble_eq_true rfl) (Nat.le_of_ble_eq_true rfl) (Nat.le_of_ble_eq_true rfl) (Nat.le_of_ble_eq_true rfl) n 0 _ _ _ (by omega) (by omega) X2 rfl N2 Z2 O0_2 Vc_2 Vb0
  have pre4 := fun τ (κ : Steps p.tables e below (T2.setTop (mkF m 8 #[.val (.ref ca), .val (.int (0 : Int32)), .val (.int (Int32.ofNat n)), .val (.ref b), .val (.int (0 : Int32))] [])) τ) => pre3 τ (by
    refine XS.astoreN X2.here hx rfl (hb hby d17_4) rfl rfl (l' := #[.val (.ref ca), .val (.int (0 : Int32)), .val (.int (Int32.ofNat n)), .val (.ref b), .unset]) rfl ?_
    show Steps p.tables e below (T2.setTop (mkF m 5 #[.val (.ref ca), .val (.int (0 : Int32)), .val (.int (Int32.ofNat n)), .val (.ref b), .unset] [])) _
    refine XS.iconst X2.here hx rfl (hb hby d17_5) ?_
    refine XS.istore X2.here hx rfl (hb hby d17_6) rfl (l' := #[.val (.ref ca), .val (.int (0 : Int32)), .val (.int (Int32.ofNat n)), .val (.ref b), .val (.int (0 : Int32))]) rfl ?_
    show Steps p.tables e below (T2.setTop (mkF m 8 #[.val (.ref ca), .val (.int (0 : Int32)), .val (.int (Int32.ofNat n)), .val (.ref b), .val (.int (0 : Int32))] [])) _
    exact κ)
  have pre99 := fun τ (κ : Steps p.tables e below (T9.setTop (mkF m 32 #[.val (.ref ca), .val (.int z1), .val (.int (Int32.ofNat n)), .val (.ref b), .val (.int z2)] [])) τ) => pre4 τ (st9 τ κ)
  have pre5 := fun τ (κ : Steps p.tables e below (T9.setTop (mkF m 33 #[.val (.ref ca), .val (.int z1), .val (.int (Int32.ofNat n)), .val (.ref b), .val (.int z2)] [(.ref b)])) τ) => pre99 τ (by
    refine XS.aloadN X9.here hx rfl (hb hby d17_32) rfl rfl ?_
    show Steps p.tables e below (T9.setTop (mkF m 33 #[.val (.ref ca), .val (.int z1), .val (.int (Int32.ofNat n)), .val (.ref b), .val (.int z2)] [(.ref b)])) _
    exact κ)
  obtain ⟨fs, hr, hrun, hended, hW, hsame⟩ := X9.leave (v := some (.ref b)) (fun h => by rw [Bd.returns] at h; cases h)
  refine ⟨_, _, pre5 _ ?_, hrun, hended, _, _, rfl, ?_, ⟨_, rfl⟩, hW, hsame.mono (by decide) (by decide)⟩
  · jvm_step X9.here [X9.here.top, hx, (hb hby d17_33), X9.method', Bd.returns, Value.isRef, FieldType.isReference]
    first | (intro acts; rw [hr _ acts rfl rfl rfl]) | rw [hr _ _ rfl rfl rfl]
    exact Steps.refl _
  · show Q17 Z ca n kc f zc fm h0 n0 _ T9.heap _
    rw [e9]
    exact ⟨b, kb, rfl, N9, Kp2.trans K9 (allS (Or.inr sb) all0), V9, sb⟩
theorem own_l1step (f : Nat → Int32) (i j : Nat) : (if j = i then own_l1 f i else (fun q => if q < i then own_l1 f q else 0) j) = (if j < i + 1 then own_l1 f j else 0) := by
  by_cases h1 : j = i
  · subst h1; rw [if_pos rfl, if_pos (by omega)]
  · rw [if_neg h1]; show (if j < i then own_l1 f j else 0) = _
    by_cases h3 : j < i
    · rw [if_pos h3, if_pos (by omega)]
    · rw [if_neg h3, if_neg (by omega)]
theorem own_allS {f : Nat → Int32} {i : Nat} (h : ∀ j, j < i → ¬ (255 : Int32) < f j) (hq : ¬ (255 : Int32) < f i) : ∀ j, j < i + 1 → ¬ (255 : Int32) < f j := fun j hj => by
  by_cases q : j = i
  · subst q; exact hq
  · exact h j (by omega)
set_option maxRecDepth 65536 in
set_option maxHeartbeats 40000000 in
theorem loopK {p : Program} {l : Launch} {e : Env} {R : Room} {s : State} {m : MethodId} {args : Array Value} {below : List Frame} {meth : Method} {c : Code} {Z : State} {a0 : Array Value} (hx : p.tables.exec = Jvm.exec) (hZ : Z.Warmed39 s.vm) (hw : ∀ d ∈ tables_1, d.before a0 Z = true) (hby : c.code = jdk_52_method_21_code) (hml : c.maxLocals = 7) (hown : s.vm.findClass "java/lang/StringUTF16" = some m.cls) {n0 cells slots : Nat} (ca db : Addr) (kc kb : ClassId) (n : Nat) (f : Nat → Int32) (hn : n ≤ 16) (hcb : ca ≠ db) (gb : n0 ≤ db) :
    ∀ (fu i : Nat) (T0 : State) (h0 : Heap) (locs : List Loc) (s6 : Slot), One s6 → n ≤ i + fu → i ≤ n → (∀ j, j < i → ¬ (255 : Int32) < f j) → Stand p l e R s m args below meth c T0 locs cells slots → T0.heap = h0 → Fr n0 locs → n0 ≤ h0.size → Arv Z h0 ca kc .char (Int32.ofNat n) (own_tab f n) (.int (0 : Int32)) → Arv Z h0 db kb .byte (Int32.ofNat n) (own_tab (fun q => if q < i then own_l1 f q else 0) n) (.int (0 : Int32)) →
      ∃ (T' : State) (h' : Heap) (locs' : List Loc) (k pc9 : Nat) (L9 : Array Slot), Stand p l e R s m args below meth c T' locs' cells slots ∧ T'.heap = h' ∧ Fr n0 locs' ∧ Keep h0 h' [db] ∧ k ≤ n ∧ (∀ j, j < k → ¬ (255 : Int32) < f j) ∧ (k < n → (255 : Int32) < f k) ∧ Arv Z h' db kb .byte (Int32.ofNat n) (own_tab (fun q => if q < k then own_l1 f q else 0) n) (.int (0 : Int32)) ∧ decode c.code pc9 = .ok (.ireturn, 1) ∧ ∀ t, Steps p.tables e below (T'.setTop (mkF m pc9 L9 [.int (Int32.ofNat k)])) t → Steps p.tables e below (T0.setTop (mkF m 3 #[.val (.ref ca), .val (.int (Int32.ofNat i)), .val (.ref db), .val (.int (Int32.ofNat i)), .val (.int (Int32.ofNat n)), .val (.int (Int32.ofNat i)), s6] [])) t := by
  intro fu
  induction fu with
  | zero =>
    intro i T0 h0 locs s6 hs6 hfu hin hall X0 e0 N0 Z0 Vc Vb
    have hgt : ¬ i < n := by omega
    have pre0 := fun τ (κ : Steps p.tables e below (T0.setTop (mkF m 3 #[.val (.ref ca), .val (.int (Int32.ofNat i)), .val (.ref db), .val (.int (Int32.ofNat i)), .val (.int (Int32.ofNat n)), .val (.int (Int32.ofNat i)), s6] [])) τ) => κ
    have Kp0 : Keep h0 h0 [db] := Keep.refl _ _
    have pre1 := fun τ (κ : Steps p.tables e below (T0.setTop (mkF m 46 #[.val (.ref ca), .val (.int (Int32.ofNat i)), .val (.ref db), .val (.int (Int32.ofNat i)), .val (.int (Int32.ofNat n)), .val (.int (Int32.ofNat i)), s6] [(.int (Int32.ofNat n))])) τ) => pre0 τ (by
      refine XS.iload X0.here hx rfl (hb hby d7_3) rfl ?_
      refine XS.iload X0.here hx rfl (hb hby d7_5) rfl ?_
      refine XS.icmpYes X0.here hx rfl (pc0 := 7) (pc' := 44) rfl (hb hby d7_7) rfl (flt (fun q => hgt ((own_ltN (by omega) (by omega)).mp q))).2.1 (by decide) (by decide) ?_
      show Steps p.tables e below (T0.setTop (mkF m 44 #[.val (.ref ca), .val (.int (Int32.ofNat i)), .val (.ref db), .val (.int (Int32.ofNat i)), .val (.int (Int32.ofNat n)), .val (.int (Int32.ofNat i)), s6] [])) _
      refine XS.iload X0.here hx rfl (hb hby d7_44) rfl ?_
      show Steps p.tables e below (T0.setTop (mkF m 46 #[.val (.ref ca), .val (.int (Int32.ofNat i)), .val (.ref db), .val (.int (Int32.ofNat i)), .val (.int (Int32.ofNat n)), .val (.int (Int32.ofNat i)), s6] [(.int (Int32.ofNat n))])) _
      exact κ)
    have hin' : i = n := by omega
    subst hin'
    exact ⟨T0, h0, locs, i, 46, _, X0, e0, N0, Kp0, by omega, hall, (fun q => absurd q (by omega)), Vb, (hb hby d7_46), pre1⟩
  | succ fu ih =>
    intro i T0 h0 locs s6 hs6 hfu hin hall X0 e0 N0 Z0 Vc Vb
    by_cases hgt : i < n
    · skip
      have pre0 := fun τ (κ : Steps p.tables e below (T0.setTop (mkF m 3 #[.val (.ref ca), .val (.int (Int32.ofNat i)), .val (.ref db), .val (.int (Int32.ofNat i)), .val (.int (Int32.ofNat n)), .val (.int (Int32.ofNat i)), s6] [])) τ) => κ
      have Kp0 : Keep h0 h0 [db] := Keep.refl _ _
      have pre1 := fun τ (κ : Steps p.tables e below (T0.setTop (mkF m 12 #[.val (.ref ca), .val (.int (Int32.ofNat i)), .val (.ref db), .val (.int (Int32.ofNat i)), .val (.int (Int32.ofNat n)), .val (.int (Int32.ofNat i)), s6] [(.int (Int32.ofNat i)), (.ref ca)])) τ) => pre0 τ (by
        refine XS.iload X0.here hx rfl (hb hby d7_3) rfl ?_
        refine XS.iload X0.here hx rfl (hb hby d7_5) rfl ?_
        refine XS.icmpNo X0.here hx rfl (hb hby d7_7) rfl (tlt ((own_ltN (by omega) (by omega)).mpr hgt)).2.1 ?_
        show Steps p.tables e below (T0.setTop (mkF m 10 #[.val (.ref ca), .val (.int (Int32.ofNat i)), .val (.ref db), .val (.int (Int32.ofNat i)), .val (.int (Int32.ofNat n)), .val (.int (Int32.ofNat i)), s6] [])) _
        refine XS.aloadN X0.here hx rfl (hb hby d7_10) rfl rfl ?_
        refine XS.iloadN X0.here hx rfl (hb hby d7_11) rfl ?_
        show Steps p.tables e below (T0.setTop (mkF m 12 #[.val (.ref ca), .val (.int (Int32.ofNat i)), .val (.ref db), .val (.int (Int32.ofNat i)), .val (.int (Int32.ofNat n)), .val (.int (Int32.ofNat i)), s6] [(.int (Int32.ofNat i)), (.ref ca)])) _
        exact κ)
      obtain ⟨cl2, Ar2, -, S2, M2, H2, -⟩ := id Vc
      have in2 : ¬ ((Int32.ofNat i) < 0 ∨ cl2.slots.size ≤ ((Int32.ofNat i)).toNatClampNeg) := inb_of S2 ⟨own_nn (by omega), (own_ltN (by omega) (by omega)).mpr (by omega)⟩
      have at2 : cl2.slots[((Int32.ofNat i)).toNatClampNeg]? = some (.int (f i)) := H2.at in2 (by rw [own_clamp (by omega)]; exact own_tab_get (by omega) _)
      have pre3 := fun τ (κ : Steps p.tables e below (T0.setTop (mkF m 20 #[.val (.ref ca), .val (.int (Int32.ofNat i)), .val (.ref db), .val (.int (Int32.ofNat i)), .val (.int (Int32.ofNat n)), .val (.int (Int32.ofNat i)), .val (.int (f i))] [(.int (255 : Int32)), (.int (f i))])) τ) => pre1 τ (by
        refine X0.caload hx (j := (Int32.ofNat i)) (v := (.int (f i))) (by rw [e0]; exact Ar2.1) (State.isArrayOf_alike hZ.alike Ar2.2.1) Ar2.2.2 in2 at2 (g := (mkF m 12 #[.val (.ref ca), .val (.int (Int32.ofNat i)), .val (.ref db), .val (.int (Int32.ofNat i)), .val (.int (Int32.ofNat n)), .val (.int (Int32.ofNat i)), s6] [(.int (Int32.ofNat i)), (.ref ca)])) rfl rfl (hb hby d7_12) _ ?_
        show Steps p.tables e below (T0.setTop (mkF m 13 #[.val (.ref ca), .val (.int (Int32.ofNat i)), .val (.ref db), .val (.int (Int32.ofNat i)), .val (.int (Int32.ofNat n)), .val (.int (Int32.ofNat i)), s6] [(.int (f i))])) _
        refine XS.istore X0.here hx rfl (hb hby d7_13) rfl (l' := #[.val (.ref ca), .val (.int (Int32.ofNat i)), .val (.ref db), .val (.int (Int32.ofNat i)), .val (.int (Int32.ofNat n)), .val (.int (Int32.ofNat i)), .val (.int (f i))]) (own_s6 hs6) ?_
        show Steps p.tables e below (T0.setTop (mkF m 15 #[.val (.ref ca), .val (.int (Int32.ofNat i)), .val (.ref db), .val (.int (Int32.ofNat i)), .val (.int (Int32.ofNat n)), .val (.int (Int32.ofNat i)), .val (.int (f i))] [])) _
        refine XS.iload X0.here hx rfl (hb hby d7_15) rfl ?_
        refine XS.sipush X0.here hx rfl (hb hby d7_17) ?_
        show Steps p.tables e below (T0.setTop (mkF m 20 #[.val (.ref ca), .val (.int (Int32.ofNat i)), .val (.ref db), .val (.int (Int32.ofNat i)), .val (.int (Int32.ofNat n)), .val (.int (Int32.ofNat i)), .val (.int (f i))] [(.int (255 : Int32)), (.int (f i))])) _
        exact κ)
      by_cases hq : (255 : Int32) < (f i)
      · have pre4 := fun τ (κ : Steps p.tables e below (T0.setTop (mkF m 25 #[.val (.ref ca), .val (.int (Int32.ofNat i)), .val (.ref db), .val (.int (Int32.ofNat i)), .val (.int (Int32.ofNat n)), .val (.int (Int32.ofNat i)), .val (.int (f i))] [(.int (Int32.ofNat i))])) τ) => pre3 τ (by
          refine XS.icmpNo X0.here hx rfl (hb hby d7_20) rfl (tlt hq).2.2.2 ?_
          show Steps p.tables e below (T0.setTop (mkF m 23 #[.val (.ref ca), .val (.int (Int32.ofNat i)), .val (.ref db), .val (.int (Int32.ofNat i)), .val (.int (Int32.ofNat n)), .val (.int (Int32.ofNat i)), .val (.int (f i))] [])) _
          refine XS.iload X0.here hx rfl (hb hby d7_23) rfl ?_
          show Steps p.tables e below (T0.setTop (mkF m 25 #[.val (.ref ca), .val (.int (Int32.ofNat i)), .val (.ref db), .val (.int (Int32.ofNat i)), .val (.int (Int32.ofNat n)), .val (.int (Int32.ofNat i)), .val (.int (f i))] [(.int (Int32.ofNat i))])) _
          exact κ)
        exact ⟨T0, h0, locs, i, 25, _, X0, e0, N0, Kp0, by omega, hall, (fun _ => hq), Vb, (hb hby d7_25), pre4⟩
      · have pre5 := fun τ (κ : Steps p.tables e below (T0.setTop (mkF m 31 #[.val (.ref ca), .val (.int (Int32.ofNat i)), .val (.ref db), .val (.int (Int32.ofNat i)), .val (.int (Int32.ofNat n)), .val (.int (Int32.ofNat i)), .val (.int (f i))] [(.int ((f i).toInt8.toInt32)), (.int (Int32.ofNat i)), (.ref db)])) τ) => pre3 τ (by
          refine XS.icmpYes X0.here hx rfl (pc0 := 20) (pc' := 26) rfl (hb hby d7_20) rfl (flt hq).2.2.2 (by decide) (by decide) ?_
          show Steps p.tables e below (T0.setTop (mkF m 26 #[.val (.ref ca), .val (.int (Int32.ofNat i)), .val (.ref db), .val (.int (Int32.ofNat i)), .val (.int (Int32.ofNat n)), .val (.int (Int32.ofNat i)), .val (.int (f i))] [])) _
          refine XS.aloadN X0.here hx rfl (hb hby d7_26) rfl rfl ?_
          refine XS.iloadN X0.here hx rfl (hb hby d7_27) rfl ?_
          refine XS.iload X0.here hx rfl (hb hby d7_28) rfl ?_
          refine XS.i2b X0.here hx rfl (hb hby d7_30) rfl ?_
          show Steps p.tables e below (T0.setTop (mkF m 31 #[.val (.ref ca), .val (.int (Int32.ofNat i)), .val (.ref db), .val (.int (Int32.ofNat i)), .val (.int (Int32.ofNat n)), .val (.int (Int32.ofNat i)), .val (.int (f i))] [(.int ((f i).toInt8.toInt32)), (.int (Int32.ofNat i)), (.ref db)])) _
          exact κ)
        have hj9 : (Int32.ofNat i).toNatClampNeg = i := own_clamp (by omega)
        have hi9 : i < (own_tab (fun q => if q < i then own_l1 f q else 0) (n)).length := by rw [own_tab_len]; omega
        obtain ⟨cl6, Ar6, q6, S6, M6, H6, G6⟩ := id Vb
        have in6 : ¬ ((Int32.ofNat i) < 0 ∨ cl6.slots.size ≤ ((Int32.ofNat i)).toNatClampNeg) := inb_of S6 ⟨own_nn (by omega), (own_ltN (by omega) (by omega)).mpr (by omega)⟩
        obtain ⟨T7, h7, X7, e7, W7, st7⟩ := stB X0 hx hZ e0 Ar6 (j := (Int32.ofNat i)) in6 (g := (mkF m 31 #[.val (.ref ca), .val (.int (Int32.ofNat i)), .val (.ref db), .val (.int (Int32.ofNat i)), .val (.int (Int32.ofNat n)), .val (.int (Int32.ofNat i)), .val (.int (f i))] [(.int ((f i).toInt8.toInt32)), (.int (Int32.ofNat i)), (.ref db)])) rfl rfl (hb hby d7_31)
        have Vc_7 : Arv Z h7 ca kc .char (Int32.ofNat n) (own_tab f (n)) (.int (0 : Int32)) := Vc.other W7 hcb
        have Kp7 : Keep h0 h7 [db] := Kp0.wr W7 (Or.inl (List.mem_of_getElem? (i := 0) rfl))
        have N7 := Fr.snoc X7 N0 gb
        have Z7 : n0 ≤ h7.size := Nat.le_trans Z0 (Keep.of_wr W7).1
        have V_db_7 : Arv Z h7 db kb .byte (Int32.ofNat n) (own_tab (fun q => if q = i then own_l1 f i else ((fun q => if q < i then own_l1 f q else 0)) q) (n)) (.int (0 : Int32)) := (by rw [show own_l1 f i = nar .byte ((f i).toInt8.toInt32) from (own_lolo (f i)).symm]; exact (own_tab_set (fun q => if q < i then own_l1 f q else 0) n i _) ▸ (Arv.set Ar6 q6 S6 M6 H6 G6 (fits_nar_byte _) W7 i (by first | rfl | assumption) (by assumption)))
        have pre8 := fun τ (κ : Steps p.tables e below (T7.setTop (mkF m 32 #[.val (.ref ca), .val (.int (Int32.ofNat i)), .val (.ref db), .val (.int (Int32.ofNat i)), .val (.int (Int32.ofNat n)), .val (.int (Int32.ofNat i)), .val (.int (f i))] [])) τ) => pre5 τ (st7 _ κ)
        have V_db_9 : Arv Z h7 db kb .byte (Int32.ofNat n) (own_tab (fun q => if q < (i + 1) then own_l1 f q else 0) (n)) (.int (0 : Int32)) := own_cg V_db_7 (fun j hj => by exact own_l1step f i j)
        have pre10 := fun τ (κ : Steps p.tables e below (T7.setTop (mkF m 3 #[.val (.ref ca), .val (.int ((Int32.ofNat i) + (1 : Int32))), .val (.ref db), .val (.int ((Int32.ofNat i) + (1 : Int32))), .val (.int (Int32.ofNat n)), .val (.int ((Int32.ofNat i) + (1 : Int32))), .val (.int (f i))] [])) τ) => pre8 τ (by
          refine XS.iinc X7.here hx rfl (hb hby d7_32) rfl (l' := #[.val (.ref ca), .val (.int ((Int32.ofNat i) + (1 : Int32))), .val (.ref db), .val (.int (Int32.ofNat i)), .val (.int (Int32.ofNat n)), .val (.int (Int32.ofNat i)), .val (.int (f i))]) rfl ?_
          show Steps p.tables e below (T7.setTop (mkF m 35 #[.val (.ref ca), .val (.int ((Int32.ofNat i) + (1 : Int32))), .val (.ref db), .val (.int (Int32.ofNat i)), .val (.int (Int32.ofNat n)), .val (.int (Int32.ofNat i)), .val (.int (f i))] [])) _
          refine XS.iinc X7.here hx rfl (hb hby d7_35) rfl (l' := #[.val (.ref ca), .val (.int ((Int32.ofNat i) + (1 : Int32))), .val (.ref db), .val (.int ((Int32.ofNat i) + (1 : Int32))), .val (.int (Int32.ofNat n)), .val (.int (Int32.ofNat i)), .val (.int (f i))]) rfl ?_
          show Steps p.tables e below (T7.setTop (mkF m 38 #[.val (.ref ca), .val (.int ((Int32.ofNat i) + (1 : Int32))), .val (.ref db), .val (.int ((Int32.ofNat i) + (1 : Int32))), .val (.int (Int32.ofNat n)), .val (.int (Int32.ofNat i)), .val (.int (f i))] [])) _
          refine XS.iinc X7.here hx rfl (hb hby d7_38) rfl (l' := #[.val (.ref ca), .val (.int ((Int32.ofNat i) + (1 : Int32))), .val (.ref db), .val (.int ((Int32.ofNat i) + (1 : Int32))), .val (.int (Int32.ofNat n)), .val (.int ((Int32.ofNat i) + (1 : Int32))), .val (.int (f i))]) rfl ?_
          show Steps p.tables e below (T7.setTop (mkF m 41 #[.val (.ref ca), .val (.int ((Int32.ofNat i) + (1 : Int32))), .val (.ref db), .val (.int ((Int32.ofNat i) + (1 : Int32))), .val (.int (Int32.ofNat n)), .val (.int ((Int32.ofNat i) + (1 : Int32))), .val (.int (f i))] [])) _
          refine XS.goto X7.here hx rfl (pc0 := 41) (pc' := 3) rfl (hb hby d7_41) (by decide) (by decide) ?_
          show Steps p.tables e below (T7.setTop (mkF m 3 #[.val (.ref ca), .val (.int ((Int32.ofNat i) + (1 : Int32))), .val (.ref db), .val (.int ((Int32.ofNat i) + (1 : Int32))), .val (.int (Int32.ofNat n)), .val (.int ((Int32.ofNat i) + (1 : Int32))), .val (.int (f i))] [])) _
          exact κ)
        rw [show ((Int32.ofNat i) + (1 : Int32)) = (Int32.ofNat (i + 1)) from (own_addN _ 1)] at pre10
        obtain ⟨T', h', lo', k9, pc9, L9, X', e', N', K', r0, r1, r2, V', d9, st⟩ := ih (i + 1) _ _ _ (.val (.int (f i))) (One.val rfl) (by omega) (by omega) (own_allS hall hq) X7 e7 N7 Z7 Vc_7 V_db_9
        exact ⟨T', h', lo', k9, pc9, L9, X', e', N', Kp7.trans K' (allS (Or.inl (List.mem_of_getElem? (i := 0) rfl)) all0), r0, r1, r2, V', d9, fun τ κ => pre10 τ (st τ κ)⟩
    · skip
      have pre0 := fun τ (κ : Steps p.tables e below (T0.setTop (mkF m 3 #[.val (.ref ca), .val (.int (Int32.ofNat i)), .val (.ref db), .val (.int (Int32.ofNat i)), .val (.int (Int32.ofNat n)), .val (.int (Int32.ofNat i)), s6] [])) τ) => κ
      have Kp0 : Keep h0 h0 [db] := Keep.refl _ _
      have pre1 := fun τ (κ : Steps p.tables e below (T0.setTop (mkF m 46 #[.val (.ref ca), .val (.int (Int32.ofNat i)), .val (.ref db), .val (.int (Int32.ofNat i)), .val (.int (Int32.ofNat n)), .val (.int (Int32.ofNat i)), s6] [(.int (Int32.ofNat n))])) τ) => pre0 τ (by
        refine XS.iload X0.here hx rfl (hb hby d7_3) rfl ?_
        refine XS.iload X0.here hx rfl (hb hby d7_5) rfl ?_
        refine XS.icmpYes X0.here hx rfl (pc0 := 7) (pc' := 44) rfl (hb hby d7_7) rfl (flt (fun q => hgt ((own_ltN (by omega) (by omega)).mp q))).2.1 (by decide) (by decide) ?_
        show Steps p.tables e below (T0.setTop (mkF m 44 #[.val (.ref ca), .val (.int (Int32.ofNat i)), .val (.ref db), .val (.int (Int32.ofNat i)), .val (.int (Int32.ofNat n)), .val (.int (Int32.ofNat i)), s6] [])) _
        refine XS.iload X0.here hx rfl (hb hby d7_44) rfl ?_
        show Steps p.tables e below (T0.setTop (mkF m 46 #[.val (.ref ca), .val (.int (Int32.ofNat i)), .val (.ref db), .val (.int (Int32.ofNat i)), .val (.int (Int32.ofNat n)), .val (.int (Int32.ofNat i)), s6] [(.int (Int32.ofNat n))])) _
        exact κ)
      have hin' : i = n := by omega
      subst hin'
      exact ⟨T0, h0, locs, i, 46, _, X0, e0, N0, Kp0, by omega, hall, (fun q => absurd q (by omega)), Vb, (hb hby d7_46), pre1⟩

theorem ef_7 (m : MethodId) (ca : Addr) (db : Addr) (n : Nat) : entryFrame m #[(.ref ca), (.int (0 : Int32)), (.ref db), (.int (0 : Int32)), (.int (Int32.ofNat n))] 7 = mkF m 0 #[.val (.ref ca), .val (.int (0 : Int32)), .val (.ref db), .val (.int (0 : Int32)), .val (.int (Int32.ofNat n)), .unset, .unset] [] := by first | (simp [entryFrame, mkF, argsToLocals, Value.category]; done) | rfl
def Q7 (Z : State) (ca : Addr) (db : Addr) (n : Nat) (kc : ClassId) (kb : ClassId) (f : Nat → Int32) (h0 : Heap) (n0 : Nat) (v : Option Value) (h : Heap) (L : List Loc) : Prop := ∃ k9 : Nat, v = some (.int (Int32.ofNat k9)) ∧ Fr n0 L ∧ Keep h0 h [db] ∧ k9 ≤ n ∧ (∀ j, j < k9 → ¬ (255 : Int32) < f j) ∧ (k9 < n → (255 : Int32) < f k9) ∧ Arv Z h db kb .byte (Int32.ofNat n) (own_tab (fun q => if q < k9 then own_l1 f q else 0) n) (.int (0 : Int32))
set_option maxRecDepth 65536 in
set_option maxHeartbeats 40000000 in
theorem rm7 (l : Launch) (Z : State) (a0 : Array Value) (hw : ∀ d ∈ tables_1, d.before a0 Z = true) (ws : List Jvm.Cond) (ca : Addr) (db : Addr) (n : Nat) (kc : ClassId) (kb : ClassId) (f : Nat → Int32) (h0 : Heap) (n0 : Nat) (Z0 : n0 ≤ h0.size) (Vc : Arv Z h0 ca kc .char (Int32.ofNat n) (own_tab f (n)) (.int (0 : Int32))) (Vb : Arv Z h0 db kb .byte (Int32.ofNat n) (own_tab (fun _ => 0) (n)) (.int (0 : Int32))) (hn : n ≤ 16) (hcb : ca ≠ db) (gb : n0 ≤ db) :
    MetFree l (⟨"java/lang/StringUTF16", "compress", "([CI[BII)I"⟩ : MethodName) (head1 (Jvm.Cond.code (⟨"java/lang/StringUTF16", "compress", "([CI[BII)I"⟩ : MethodName) jdk_52_method_21_code 7 (some .int) :: ws) ({ frames := 0, cells := 0, slots := 0, locals := 0 } : Room)) (fun α υ => α = #[(.ref ca), (.int (0 : Int32)), (.ref db), (.int (0 : Int32)), (.int (Int32.ofNat n))] ∧ Z.Warmed39 υ.vm ∧ υ.heap = h0) (fun _ _ _ _ _ => True) (fun _ υ ω υ' => ∃ v L, ω = .returned v ∧ Q7 Z ca db n kc kb f h0 n0 v υ'.heap L ∧ FrameEnd υ ω υ' L ({ frames := 0, cells := 0, slots := 0, locals := 0 } : Room).cells ({ frames := 0, cells := 0, slots := 0, locals := 0 } : Room).slots) := by
  refine MetFree.of_bodySF (plainFor_of_name pn_java_lang_StringUTF16) hisR ?_
  intro p e s m args below meth c s₁ Bd hml0 hP hK
  obtain ⟨rfl, hZ, hh⟩ := hP
  have hx := Bd.exec
  have hby := Bd.bytes
  have hml : c.maxLocals = 7 := hml0
  have hown : s.vm.findClass "java/lang/StringUTF16" = some m.cls := findClass_of_methodNamed Bd.named
  have hnm := (name_of_methodNamed Bd.named Bd.method).1
  have X0 : Stand p l e ({ frames := 0, cells := 0, slots := 0, locals := 0 } : Room) s m #[(.ref ca), (.int (0 : Int32)), (.ref db), (.int (0 : Int32)), (.int (Int32.ofNat n))] below meth c s₁ [] 0 0 := Stand.of_body Bd
  have e0 : s₁.heap = h0 := by rw [← hh, Bd.state]; rfl
  have N0 := Fr.nil n0
  have pre0 : ∀ τ, Steps p.tables e below (s₁.setTop (mkF m 0 #[.val (.ref ca), .val (.int (0 : Int32)), .val (.ref db), .val (.int (0 : Int32)), .val (.int (Int32.ofNat n)), .unset, .unset] [])) τ → Steps p.tables e below (s₁.setTop (entryFrame m #[(.ref ca), (.int (0 : Int32)), (.ref db), (.int (0 : Int32)), (.int (Int32.ofNat n))] 7)) τ := fun τ κ => castTop (ef_7 m ca db n) κ
  have pre1 := fun τ (κ : Steps p.tables e below (s₁.setTop (mkF m 3 #[.val (.ref ca), .val (.int (0 : Int32)), .val (.ref db), .val (.int (0 : Int32)), .val (.int (Int32.ofNat n)), .val (.int (0 : Int32)), .unset] [])) τ) => pre0 τ (by
    refine XS.iconst X0.here hx rfl (hb hby d7_0) ?_
    refine XS.istore X0.here hx rfl (hb hby d7_1) rfl (l' := #[.val (.ref ca), .val (.int (0 : Int32)), .val (.ref db), .val (.int (0 : Int32)), .val (.int (Int32.ofNat n)), .val (.int (0 : Int32)), .unset]) rfl ?_
    show Steps p.tables e below (s₁.setTop (mkF m 3 #[.val (.ref ca), .val (.int (0 : Int32)), .val (.ref db), .val (.int (0 : Int32)), .val (.int (Int32.ofNat n)), .val (.int (0 : Int32)), .unset] [])) _
    exact κ)
  have Vb0 : Arv Z h0 db kb .byte (Int32.ofNat n) (own_tab (fun q => if q < 0 then own_l1 f q else 0) n) (.int (0 : Int32)) := own_cg Vb (fun j hj => by rw [if_neg (by omega)])
  obtain ⟨T9, h9, lo9, k9, pc9, L9, X9, e9, N9, K9, r0, r1, r2, V9, d9, st9⟩ := loopK hx hZ hw hby hml hown ca db kc kb n f hn hcb gb n 0 _ _ _ .unset One.u (by omega) (by omega) (fun j hj => absurd hj (by omega)) X0 e0 N0 Z0 Vc Vb0
  have pre99 := fun τ (κ : Steps p.tables e below (T9.setTop (mkF m pc9 L9 [.int (Int32.ofNat k9)])) τ) => pre1 τ (st9 τ κ)
  obtain ⟨fs, hr, hrun, hended, hW, hsame⟩ := X9.leave (v := some (.int (Int32.ofNat k9))) (fun h => by rw [Bd.returns] at h; cases h)
  refine ⟨_, _, pre99 _ ?_, hrun, hended, _, _, rfl, ?_, ⟨_, rfl⟩, hW, hsame.mono (by decide) (by decide)⟩
  · exact retI X9 hx Bd.returns d9 hr
  · show Q7 Z ca db n kc kb f h0 n0 _ T9.heap _
    rw [e9]
    exact ⟨k9, rfl, N9, K9, r0, r1, r2, V9⟩
theorem ef_6 (m : MethodId) (ca : Addr) (n : Nat) (zc : Int32) (fm : Value) : entryFrame m #[(.ref ca), (.int (0 : Int32)), (.int (Int32.ofNat n))] 6 = mkF m 0 #[.val (.ref ca), .val (.int (0 : Int32)), .val (.int (Int32.ofNat n)), .unset, .unset, .unset] [] := by first | (simp [entryFrame, mkF, argsToLocals, Value.category]; done) | rfl
def Q6 (Z : State) (ca : Addr) (n : Nat) (kc : ClassId) (f : Nat → Int32) (zc : Int32) (fm : Value) (h0 : Heap) (n0 : Nat) (v : Option Value) (h : Heap) (L : List Loc) : Prop := ∃ (tb : Addr) (cd : Int32), v = some (.ref tb) ∧ Fr n0 L ∧ Keep h0 h [] ∧ h0.size ≤ tb ∧ own_BY Z h tb cd f n
set_option maxRecDepth 65536 in
set_option maxHeartbeats 40000000 in
theorem rm6 (l : Launch) (Z : State) (a0 : Array Value) (hw : ∀ d ∈ tables_1, d.before a0 Z = true) (ws : List Jvm.Cond) (ca : Addr) (n : Nat) (kc : ClassId) (f : Nat → Int32) (zc : Int32) (fm : Value) (h0 : Heap) (n0 : Nat) (Z0 : n0 ≤ h0.size) (O0 : Old Z n0 h0) (U0 : own_ST Z zc fm) (Vc : Arv Z h0 ca kc .char (Int32.ofNat n) (own_tab f (n)) (.int (0 : Int32))) (hn : n ≤ 16) (hf : ∀ j, j < n → own_ch (f j)) :
    MetFree l (⟨"java/lang/StringUTF16", "compress", "([CII)[B"⟩ : MethodName) (head1 (Jvm.Cond.code (⟨"java/lang/StringUTF16", "compress", "([CII)[B"⟩ : MethodName) jdk_52_method_16_code 6 (some (.array .byte)) :: ws) ({ frames := 3, cells := 2, slots := 48, locals := 40 } : Room)) (fun α υ => α = #[(.ref ca), (.int (0 : Int32)), (.int (Int32.ofNat n))] ∧ Z.Warmed39 υ.vm ∧ υ.heap = h0) (fun _ _ _ _ _ => True) (fun _ υ ω υ' => ∃ v L, ω = .returned v ∧ Q6 Z ca n kc f zc fm h0 n0 v υ'.heap L ∧ FrameEnd υ ω υ' L ({ frames := 3, cells := 2, slots := 48, locals := 40 } : Room).cells ({ frames := 3, cells := 2, slots := 48, locals := 40 } : Room).slots) := by
  refine MetFree.of_bodySF (plainFor_of_name pn_java_lang_StringUTF16) hisR ?_
  intro p e s m args below meth c s₁ Bd hml0 hP hK
  obtain ⟨rfl, hZ, hh⟩ := hP
  have hx := Bd.exec
  have hby := Bd.bytes
  have hml : c.maxLocals = 6 := hml0
  have hown : s.vm.findClass "java/lang/StringUTF16" = some m.cls := findClass_of_methodNamed Bd.named
  have hnm := (name_of_methodNamed Bd.named Bd.method).1
  have X0 : Stand p l e ({ frames := 3, cells := 2, slots := 48, locals := 40 } : Room) s m #[(.ref ca), (.int (0 : Int32)), (.int (Int32.ofNat n))] below meth c s₁ [] 0 0 := Stand.of_body Bd
  have e0 : s₁.heap = h0 := by rw [← hh, Bd.state]; rfl
  have N0 := Fr.nil n0
  have pre0 : ∀ τ, Steps p.tables e below (s₁.setTop (mkF m 0 #[.val (.ref ca), .val (.int (0 : Int32)), .val (.int (Int32.ofNat n)), .unset, .unset, .unset] [])) τ → Steps p.tables e below (s₁.setTop (entryFrame m #[(.ref ca), (.int (0 : Int32)), (.int (Int32.ofNat n))] 6)) τ := fun τ κ => castTop (ef_6 m ca n zc fm) κ
  have Kp0 : Keep h0 h0 [] := Keep.refl _ _
  have pre1 := fun τ (κ : Steps p.tables e below (s₁.setTop (mkF m 1 #[.val (.ref ca), .val (.int (0 : Int32)), .val (.int (Int32.ofNat n)), .unset, .unset, .unset] [(.int (Int32.ofNat n))])) τ) => pre0 τ (by
    refine XS.iloadN X0.here hx rfl (hb hby d6_0) rfl ?_
    show Steps p.tables e below (s₁.setTop (mkF m 1 #[.val (.ref ca), .val (.int (0 : Int32)), .val (.int (Int32.ofNat n)), .unset, .unset, .unset] [(.int (Int32.ofNat n))])) _
    exact κ)
  obtain ⟨T2, h2, k2, X2, e2, E2, A2, st2⟩ := newP X0 hx hZ (hw _ (List.mem_of_getElem? (i := 28) rfl)) e0 (g := (mkF m 1 #[.val (.ref ca), .val (.int (0 : Int32)), .val (.int (Int32.ofNat n)), .unset, .unset, .unset] [(.int (Int32.ofNat n))])) rfl (hb hby d6_1) rfl (own_nn (by omega)) (cap := 16) (by rw [own_clamp (by omega)]; omega) (by decide) (by decide) (by decide)
  obtain ⟨b, g2⟩ : ∃ z, z = h0.size := ⟨_, rfl⟩
  rw [← g2] at A2 st2
  have g_b : n0 ≤ b := Nat.le_trans Z0 (Nat.le_of_eq g2.symm)
  have ne_ca_b : ca ≠ b := Nat.ne_of_lt (Nat.lt_of_lt_of_le Vc.lt (Nat.le_of_eq g2.symm))
  have O0_2 : Old Z n0 h2 := O0.ext E2
  have Vc_2 : Arv Z h2 ca kc .char (Int32.ofNat n) (own_tab f (n)) (.int (0 : Int32)) := Vc.ext E2
  have sz_b : h0.size ≤ b := Nat.le_trans Kp0.1 (Nat.le_of_eq g2.symm)
  have Kp2 : Keep h0 h2 [] := Kp0.ext E2
  have Z2 : n0 ≤ h2.size := Nat.le_trans Z0 E2.1
  have V_b_2 : Arv Z h2 b k2 .byte (Int32.ofNat n) [] (.int (0 : Int32)) := Arv.new A2 (own_nn (by omega))
  have pre3 := fun τ (κ : Steps p.tables e below (T2.setTop (mkF m 3 #[.val (.ref ca), .val (.int (0 : Int32)), .val (.int (Int32.ofNat n)), .unset, .unset, .unset] [(.ref b)])) τ) => pre1 τ (st2 _ κ)
  have Vb : Arv Z h2 b k2 .byte (Int32.ofNat n) (own_tab (fun _ => 0) (n)) (.int (0 : Int32)) := by rw [own_tab_pad]; exact V_b_2.pad (pad_rep [] _ n)
  have pre4 := fun τ (κ : Steps p.tables e below (T2.setTop (mkF m 9 #[.val (.ref ca), .val (.int (0 : Int32)), .val (.int (Int32.ofNat n)), .val (.ref b), .unset, .unset] [(.int (Int32.ofNat n)), (.int (0 : Int32)), (.ref b), (.int (0 : Int32)), (.ref ca)])) τ) => pre3 τ (by
    refine XS.astoreN X2.here hx rfl (hb hby d6_3) rfl rfl (l' := #[.val (.ref ca), .val (.int (0 : Int32)), .val (.int (Int32.ofNat n)), .val (.ref b), .unset, .unset]) rfl ?_
    show Steps p.tables e below (T2.setTop (mkF m 4 #[.val (.ref ca), .val (.int (0 : Int32)), .val (.int (Int32.ofNat n)), .val (.ref b), .unset, .unset] [])) _
    refine XS.aloadN X2.here hx rfl (hb hby d6_4) rfl rfl ?_
    refine XS.iloadN X2.here hx rfl (hb hby d6_5) rfl ?_
    refine XS.aloadN X2.here hx rfl (hb hby d6_6) rfl rfl ?_
    refine XS.iconst X2.here hx rfl (hb hby d6_7) ?_
    refine XS.iloadN X2.here hx rfl (hb hby d6_8) rfl ?_
    show Steps p.tables e below (T2.setTop (mkF m 9 #[.val (.ref ca), .val (.int (0 : Int32)), .val (.int (Int32.ofNat n)), .val (.ref b), .unset, .unset] [(.int (Int32.ofNat n)), (.int (0 : Int32)), (.ref b), (.int (0 : Int32)), (.ref ca)])) _
    exact κ)
  obtain ⟨_, _, ⟨T5, L5, k5, n5⟩, -, X5, ⟨Lc5, hQ5, l5, y5, z5⟩, st5⟩ := Jvm.LawKit.callS X2 hx (y := (⟨"java/lang/StringUTF16", "compress", "([CI[BII)I"⟩ : MethodName)) hown (mvT hZ (hw _ (List.mem_of_getElem? (i := 29) rfl))) (mvT hZ (hw _ (List.mem_of_getElem? (i := 30) rfl))) (mvT hZ (hw _ (List.mem_of_getElem? (i := 26) rfl))) (mvT hZ (hw _ (List.mem_of_getElem? (i := 31) rfl))) (by decide) (backOf (W := 0) (rm7 l Z a0 hw [] ca b n kc k2 f h2 n0 Z2 Vc_2 Vb hn ne_ca_b g_b) hZ (hw _ (List.mem_of_getElem? (i := 31) rfl)) (hw _ (List.mem_of_getElem? (i := 26) rfl)) (Nat.le_of_ble_eq_true rfl) (Nat.le_of_ble_eq_true rfl)) (g := (mkF m 9 #[.val (.ref ca), .val (.int (0 : Int32)), .val (.int (Int32.ofNat n)), .val (.ref b), .unset, .unset] [(.int (Int32.ofNat n)), (.int (0 : Int32)), (.ref b), (.int (0 : Int32)), (.ref ca)])) rfl (by rw [hml]; rfl) (argsL := [(.ref ca), (.int (0 : Int32)), (.ref b), (.int (0 : Int32)), (.int (Int32.ofNat n))]) (rest := []) (lenOf pd_3 rfl) rfl (by show 2 * 0 + _ ≤ _; exact Nat.le_of_eq rfl) (hb hby d6_9) (fun _ _ => ⟨rfl, e2, (by decide : 1 + 0 ≤ _), (by decide : 16 + 0 ≤ _)⟩)
  dsimp only [Pt.U, Pt.locs, Pt.cells, Pt.slots] at X5 l5 y5 z5 st5 hQ5
  subst l5 y5 z5
  obtain ⟨k9, rfl, Nq5, K5, r0, r1, r2, Vk⟩ := hQ5
  have O0_5 : Old Z n0 T5.heap := O0_2.keep K5 (allS g_b all0)
  have Vc_5 : Arv Z T5.heap ca kc .char (Int32.ofNat n) (own_tab f (n)) (.int (0 : Int32)) := Vc_2.keep K5 (ninS ne_ca_b nin0)
  have Z5 : n0 ≤ T5.heap.size := Nat.le_trans Z2 K5.1
  have Kp5 : Keep h0 T5.heap [] := Kp2.trans K5 (allS (Or.inr sz_b) all0)
  have N5 := Fr.app N0 Nq5
  have pre6 := fun τ (κ : Steps p.tables e below (T5.setTop (mkF m 12 #[.val (.ref ca), .val (.int (0 : Int32)), .val (.int (Int32.ofNat n)), .val (.ref b), .unset, .unset] [(.int (Int32.ofNat k9))])) τ) => pre4 τ (st5 _ κ)
  have pre7 := fun τ (κ : Steps p.tables e below (T5.setTop (mkF m 17 #[.val (.ref ca), .val (.int (0 : Int32)), .val (.int (Int32.ofNat n)), .val (.ref b), .val (.int (Int32.ofNat k9)), .unset] [(.int (Int32.ofNat n)), (.int (Int32.ofNat k9))])) τ) => pre6 τ (by
    refine XS.istore X5.here hx rfl (hb hby d6_12) rfl (l' := #[.val (.ref ca), .val (.int (0 : Int32)), .val (.int (Int32.ofNat n)), .val (.ref b), .val (.int (Int32.ofNat k9)), .unset]) rfl ?_
    show Steps p.tables e below (T5.setTop (mkF m 14 #[.val (.ref ca), .val (.int (0 : Int32)), .val (.int (Int32.ofNat n)), .val (.ref b), .val (.int (Int32.ofNat k9)), .unset] [])) _
    refine XS.iload X5.here hx rfl (hb hby d6_14) rfl ?_
    refine XS.iloadN X5.here hx rfl (hb hby d6_16) rfl ?_
    show Steps p.tables e below (T5.setTop (mkF m 17 #[.val (.ref ca), .val (.int (0 : Int32)), .val (.int (Int32.ofNat n)), .val (.ref b), .val (.int (Int32.ofNat k9)), .unset] [(.int (Int32.ofNat n)), (.int (Int32.ofNat k9))])) _
    exact κ)
  by_cases hq : (Int32.ofNat k9) = (Int32.ofNat n)
  · have hkn : k9 = n := (own_injN (by omega) (by omega)).mp hq
    rw [hkn] at r1
    have V_b_8 : Arv Z T5.heap b k2 .byte (Int32.ofNat n) (own_tab (own_l1 f) (n)) (.int (0 : Int32)) := own_cg Vk (fun j hj => by rw [if_pos (by omega)])
    have pre9 := fun τ (κ : Steps p.tables e below (T5.setTop (mkF m 58 #[.val (.ref ca), .val (.int (0 : Int32)), .val (.int (Int32.ofNat n)), .val (.ref b), .val (.int (Int32.ofNat k9)), .unset] [(.ref b)])) τ) => pre7 τ (by
      refine XS.icmpYes X5.here hx rfl (pc0 := 17) (pc' := 57) rfl (hb hby d6_17) rfl (teq hq).1 (by decide) (by decide) ?_
      show Steps p.tables e below (T5.setTop (mkF m 57 #[.val (.ref ca), .val (.int (0 : Int32)), .val (.int (Int32.ofNat n)), .val (.ref b), .val (.int (Int32.ofNat k9)), .unset] [])) _
      refine XS.aloadN X5.here hx rfl (hb hby d6_57) rfl rfl ?_
      show Steps p.tables e below (T5.setTop (mkF m 58 #[.val (.ref ca), .val (.int (0 : Int32)), .val (.int (Int32.ofNat n)), .val (.ref b), .val (.int (Int32.ofNat k9)), .unset] [(.ref b)])) _
      exact κ)
    obtain ⟨fs, hr, hrun, hended, hW, hsame⟩ := X5.leave (v := some (.ref b)) (fun h => by rw [Bd.returns] at h; cases h)
    refine ⟨_, _, pre9 _ ?_, hrun, hended, _, _, rfl, ?_, ⟨_, rfl⟩, hW, hsame.mono (by decide) (by decide)⟩
    · jvm_step X5.here [X5.here.top, hx, (hb hby d6_58), X5.method', Bd.returns, Value.isRef, FieldType.isReference]
      first | (intro acts; rw [hr _ acts rfl rfl rfl]) | rw [hr _ _ rfl rfl rfl]
      exact Steps.refl _
    · show Q6 Z ca n kc f zc fm h0 n0 _ T5.heap _
      exact ⟨b, 0, rfl, N5, Kp5, sz_b, k2, Or.inl ⟨rfl, r1, V_b_8⟩⟩
  · have hkn : k9 < n := by have : k9 ≠ n := fun q => hq (by rw [q]); omega
    have pre10 := fun τ (κ : Steps p.tables e below (T5.setTop (mkF m 23 #[.val (.ref ca), .val (.int (0 : Int32)), .val (.int (Int32.ofNat n)), .val (.ref b), .val (.int (Int32.ofNat k9)), .unset] [(.int (Int32.ofNat n)), (.int (0 : Int32)), (.ref ca)])) τ) => pre7 τ (by
      refine XS.icmpNo X5.here hx rfl (hb hby d6_17) rfl (feq hq).1 ?_
      show Steps p.tables e below (T5.setTop (mkF m 20 #[.val (.ref ca), .val (.int (0 : Int32)), .val (.int (Int32.ofNat n)), .val (.ref b), .val (.int (Int32.ofNat k9)), .unset] [])) _
      refine XS.aloadN X5.here hx rfl (hb hby d6_20) rfl rfl ?_
      refine XS.iloadN X5.here hx rfl (hb hby d6_21) rfl ?_
      refine XS.iloadN X5.here hx rfl (hb hby d6_22) rfl ?_
      show Steps p.tables e below (T5.setTop (mkF m 23 #[.val (.ref ca), .val (.int (0 : Int32)), .val (.int (Int32.ofNat n)), .val (.ref b), .val (.int (Int32.ofNat k9)), .unset] [(.int (Int32.ofNat n)), (.int (0 : Int32)), (.ref ca)])) _
      exact κ)
    obtain ⟨_, _, ⟨T11, L11, k11, n11⟩, -, X11, ⟨Lc11, hQ11, l11, y11, z11⟩, st11⟩ := Jvm.LawKit.callS X5 hx (y := (⟨"java/lang/StringUTF16", "toBytes", "([CII)[B"⟩ : MethodName)) hown (mvT hZ (hw _ (List.mem_of_getElem? (i := 77) rfl))) (mvT hZ (hw _ (List.mem_of_getElem? (i := 78) rfl))) (mvT hZ (hw _ (List.mem_of_getElem? (i := 26) rfl))) (mvT hZ (hw _ (List.mem_of_getElem? (i := 79) rfl))) (by decide) (backOf (W := 0) (rm17 l Z a0 hw [] ca n kc f zc fm T5.heap n0 Z5 O0_5 U0 Vc_5 hn) hZ (hw _ (List.mem_of_getElem? (i := 79) rfl)) (hw _ (List.mem_of_getElem? (i := 26) rfl)) (Nat.le_of_ble_eq_true rfl) (Nat.le_of_ble_eq_true rfl)) (g := (mkF m 23 #[.val (.ref ca), .val (.int (0 : Int32)), .val (.int (Int32.ofNat n)), .val (.ref b), .val (.int (Int32.ofNat k9)), .unset] [(.int (Int32.ofNat n)), (.int (0 : Int32)), (.ref ca)])) rfl (by rw [hml]; rfl) (argsL := [(.ref ca), (.int (0 : Int32)), (.int (Int32.ofNat n))]) (rest := []) (lenOf pd_4 rfl) rfl (by show 2 * 0 + _ ≤ _; exact Nat.le_of_eq rfl) (hb hby d6_23) (fun _ _ => ⟨rfl, rfl, (by decide : 1 + 1 ≤ _), (by decide : 16 + 32 ≤ _)⟩)
    dsimp only [Pt.U, Pt.locs, Pt.cells, Pt.slots] at X11 l11 y11 z11 st11 hQ11
    subst l11 y11 z11
    obtain ⟨ub, ku, rfl, Nq11, K11, Vu, su⟩ := hQ11
    have O0_11 : Old Z n0 T11.heap := O0_5.keep K11 all0
    have Vc_11 : Arv Z T11.heap ca kc .char (Int32.ofNat n) (own_tab f (n)) (.int (0 : Int32)) := Vc_5.keep K11 nin0
    have Vk_11 : Arv Z T11.heap b k2 .byte (Int32.ofNat n) (own_tab (fun q => if q < k9 then own_l1 f q else 0) (n)) (.int (0 : Int32)) := Vk.keep K11 nin0
    have Z11 : n0 ≤ T11.heap.size := Nat.le_trans Z5 K11.1
    have Kp11 : Keep h0 T11.heap [] := Kp5.trans K11 all0
    have N11 := Fr.app N5 Nq11
    have pre12 := fun τ (κ : Steps p.tables e below (T11.setTop (mkF m 26 #[.val (.ref ca), .val (.int (0 : Int32)), .val (.int (Int32.ofNat n)), .val (.ref b), .val (.int (Int32.ofNat k9)), .unset] [(.ref ub)])) τ) => pre10 τ (st11 _ κ)
    have pre13 := fun τ (κ : Steps p.tables e below (T11.setTop (mkF m 32 #[.val (.ref ca), .val (.int (0 : Int32)), .val (.int (Int32.ofNat n)), .val (.ref b), .val (.int (Int32.ofNat k9)), .val (.ref ub)] [(.int (Int32.ofNat k9)), (.ref ub)])) τ) => pre12 τ (by
      refine XS.astore X11.here hx rfl (hb hby d6_26) rfl rfl (l' := #[.val (.ref ca), .val (.int (0 : Int32)), .val (.int (Int32.ofNat n)), .val (.ref b), .val (.int (Int32.ofNat k9)), .val (.ref ub)]) rfl ?_
      show Steps p.tables e below (T11.setTop (mkF m 28 #[.val (.ref ca), .val (.int (0 : Int32)), .val (.int (Int32.ofNat n)), .val (.ref b), .val (.int (Int32.ofNat k9)), .val (.ref ub)] [])) _
      refine XS.aload X11.here hx rfl (hb hby d6_28) rfl rfl ?_
      refine XS.iload X11.here hx rfl (hb hby d6_30) rfl ?_
      show Steps p.tables e below (T11.setTop (mkF m 32 #[.val (.ref ca), .val (.int (0 : Int32)), .val (.int (Int32.ofNat n)), .val (.ref b), .val (.int (Int32.ofNat k9)), .val (.ref ub)] [(.int (Int32.ofNat k9)), (.ref ub)])) _
      exact κ)
    obtain ⟨_, _, ⟨T14, L14, k14, n14⟩, -, X14, ⟨Lc14, hQ14, l14, y14, z14⟩, st14⟩ := Jvm.LawKit.callS X11 hx (y := (⟨"java/lang/StringUTF16", "getChar", "([BI)C"⟩ : MethodName)) hown (mvT hZ (hw _ (List.mem_of_getElem? (i := 93) rfl))) (mvT hZ (hw _ (List.mem_of_getElem? (i := 94) rfl))) (mvT hZ (hw _ (List.mem_of_getElem? (i := 26) rfl))) (mvT hZ (hw _ (List.mem_of_getElem? (i := 95) rfl))) (by decide) (backOf (W := 0) (rm21 l Z a0 hw [] ub k9 n ku f zc fm T11.heap n0 Z11 O0_11 U0 Vu hn hkn (hf k9 hkn)) hZ (hw _ (List.mem_of_getElem? (i := 95) rfl)) (hw _ (List.mem_of_getElem? (i := 26) rfl)) (Nat.le_of_ble_eq_true rfl) (Nat.le_of_ble_eq_true rfl)) (g := (mkF m 32 #[.val (.ref ca), .val (.int (0 : Int32)), .val (.int (Int32.ofNat n)), .val (.ref b), .val (.int (Int32.ofNat k9)), .val (.ref ub)] [(.int (Int32.ofNat k9)), (.ref ub)])) rfl (by rw [hml]; rfl) (argsL := [(.ref ub), (.int (Int32.ofNat k9))]) (rest := []) (lenOf pd_5 rfl) rfl (by show 2 * 0 + _ ≤ _; exact Nat.le_of_eq rfl) (hb hby d6_32) (fun _ _ => ⟨rfl, rfl, (by decide : 2 + 0 ≤ _), (by decide : 48 + 0 ≤ _)⟩)
    dsimp only [Pt.U, Pt.locs, Pt.cells, Pt.slots] at X14 l14 y14 z14 st14 hQ14
    subst l14 y14 z14
    obtain ⟨rfl, Nq14, hh14⟩ := hQ14
    have O0_14 : Old Z n0 T14.heap := by rw [hh14]; exact O0_11
    have Vc_14 : Arv Z T14.heap ca kc .char (Int32.ofNat n) (own_tab f (n)) (.int (0 : Int32)) := by rw [hh14]; exact Vc_11
    have Vk_14 : Arv Z T14.heap b k2 .byte (Int32.ofNat n) (own_tab (fun q => if q < k9 then own_l1 f q else 0) (n)) (.int (0 : Int32)) := by rw [hh14]; exact Vk_11
    have Vu_14 : Arv Z T14.heap ub ku .byte (Int32.ofNat (2 * n)) (own_tab (own_u16 f) (2 * n)) (.int (0 : Int32)) := by rw [hh14]; exact Vu
    have Z14 : n0 ≤ T14.heap.size := by rw [hh14]; exact Z11
    have Kp14 : Keep h0 T14.heap [] := by rw [hh14]; exact Kp11
    have N14 := Fr.app N11 Nq14
    have pre15 := fun τ (κ : Steps p.tables e below (T14.setTop (mkF m 35 #[.val (.ref ca), .val (.int (0 : Int32)), .val (.int (Int32.ofNat n)), .val (.ref b), .val (.int (Int32.ofNat k9)), .val (.ref ub)] [(.int (f k9))])) τ) => pre13 τ (st14 _ κ)
    have pre16 := fun τ (κ : Steps p.tables e below (T14.setTop (mkF m 56 #[.val (.ref ca), .val (.int (0 : Int32)), .val (.int (Int32.ofNat n)), .val (.ref b), .val (.int (Int32.ofNat k9)), .val (.ref ub)] [(.ref ub)])) τ) => pre15 τ (by
      refine XS.sipush X14.here hx rfl (hb hby d6_35) ?_
      refine XS.icmpYes X14.here hx rfl (pc0 := 38) (pc' := 54) rfl (hb hby d6_38) rfl (tlt (r2 hkn)).2.2.1 (by decide) (by decide) ?_
      show Steps p.tables e below (T14.setTop (mkF m 54 #[.val (.ref ca), .val (.int (0 : Int32)), .val (.int (Int32.ofNat n)), .val (.ref b), .val (.int (Int32.ofNat k9)), .val (.ref ub)] [])) _
      refine XS.aload X14.here hx rfl (hb hby d6_54) rfl rfl ?_
      show Steps p.tables e below (T14.setTop (mkF m 56 #[.val (.ref ca), .val (.int (0 : Int32)), .val (.int (Int32.ofNat n)), .val (.ref b), .val (.int (Int32.ofNat k9)), .val (.ref ub)] [(.ref ub)])) _
      exact κ)
    obtain ⟨fs, hr, hrun, hended, hW, hsame⟩ := X14.leave (v := some (.ref ub)) (fun h => by rw [Bd.returns] at h; cases h)
    refine ⟨_, _, pre16 _ ?_, hrun, hended, _, _, rfl, ?_, ⟨_, rfl⟩, hW, hsame.mono (by decide) (by decide)⟩
    · jvm_step X14.here [X14.here.top, hx, (hb hby d6_56), X14.method', Bd.returns, Value.isRef, FieldType.isReference]
      first | (intro acts; rw [hr _ acts rfl rfl rfl]) | rw [hr _ _ rfl rfl rfl]
      exact Steps.refl _
    · show Q6 Z ca n kc f zc fm h0 n0 _ T14.heap _
      exact ⟨ub, 1, rfl, N14, Kp14, Nat.le_trans Kp5.1 su, ku, Or.inr ⟨rfl, ⟨k9, hkn, r2 hkn⟩, Vu_14⟩⟩
theorem ef_8 (m : MethodId) (tb : Addr) (n : Nat) (cd : Int32) : entryFrame m #[(.ref tb), (.int (Int32.ofNat n))] 2 = mkF m 0 #[.val (.ref tb), .val (.int (Int32.ofNat n))] [] := by first | (simp [entryFrame, mkF, argsToLocals, Value.category]; done) | rfl
def Q8 (Z : State) (tb : Addr) (n : Nat) (cd : Int32) (f : Nat → Int32) (h0 : Heap) (n0 : Nat) (v : Option Value) (h : Heap) (L : List Loc) : Prop := v = some (.int cd) ∧ Fr n0 L ∧ h = h0
set_option maxRecDepth 65536 in
set_option maxHeartbeats 40000000 in
theorem rm8 (l : Launch) (Z : State) (a0 : Array Value) (hw : ∀ d ∈ tables_1, d.before a0 Z = true) (ws : List Jvm.Cond) (tb : Addr) (n : Nat) (cd : Int32) (f : Nat → Int32) (h0 : Heap) (n0 : Nat) (Z0 : n0 ≤ h0.size) (B0 : own_BY Z h0 tb cd f n) (hn : n ≤ 16) (hn0 : 0 < n) :
    MetFree l (⟨"java/lang/StringUTF16", "coderFromArrayLen", "([BI)B"⟩ : MethodName) (head1 (Jvm.Cond.code (⟨"java/lang/StringUTF16", "coderFromArrayLen", "([BI)B"⟩ : MethodName) jdk_52_method_15_code 2 (some .byte) :: ws) ({ frames := 0, cells := 0, slots := 0, locals := 0 } : Room)) (fun α υ => α = #[(.ref tb), (.int (Int32.ofNat n))] ∧ Z.Warmed39 υ.vm ∧ υ.heap = h0) (fun _ _ _ _ _ => True) (fun _ υ ω υ' => ∃ v L, ω = .returned v ∧ Q8 Z tb n cd f h0 n0 v υ'.heap L ∧ FrameEnd υ ω υ' L ({ frames := 0, cells := 0, slots := 0, locals := 0 } : Room).cells ({ frames := 0, cells := 0, slots := 0, locals := 0 } : Room).slots) := by
  refine MetFree.of_bodySF (plainFor_of_name pn_java_lang_StringUTF16) hisR ?_
  intro p e s m args below meth c s₁ Bd hml0 hP hK
  obtain ⟨rfl, hZ, hh⟩ := hP
  have hx := Bd.exec
  have hby := Bd.bytes
  have hml : c.maxLocals = 2 := hml0
  have hown : s.vm.findClass "java/lang/StringUTF16" = some m.cls := findClass_of_methodNamed Bd.named
  have hnm := (name_of_methodNamed Bd.named Bd.method).1
  have X0 : Stand p l e ({ frames := 0, cells := 0, slots := 0, locals := 0 } : Room) s m #[(.ref tb), (.int (Int32.ofNat n))] below meth c s₁ [] 0 0 := Stand.of_body Bd
  have e0 : s₁.heap = h0 := by rw [← hh, Bd.state]; rfl
  have N0 := Fr.nil n0
  have pre0 : ∀ τ, Steps p.tables e below (s₁.setTop (mkF m 0 #[.val (.ref tb), .val (.int (Int32.ofNat n))] [])) τ → Steps p.tables e below (s₁.setTop (entryFrame m #[(.ref tb), (.int (Int32.ofNat n))] 2)) τ := fun τ κ => castTop (ef_8 m tb n cd) κ
  obtain ⟨kb, ⟨hcd, -, Va⟩ | ⟨hcd, hex, Va⟩⟩ := B0
  · have pre1 := fun τ (κ : Steps p.tables e below (s₁.setTop (mkF m 2 #[.val (.ref tb), .val (.int (Int32.ofNat n))] [(.ref tb), (.int (Int32.ofNat n))])) τ) => pre0 τ (by
      refine XS.iloadN X0.here hx rfl (hb hby d8_0) rfl ?_
      refine XS.aloadN X0.here hx rfl (hb hby d8_1) rfl rfl ?_
      show Steps p.tables e below (s₁.setTop (mkF m 2 #[.val (.ref tb), .val (.int (Int32.ofNat n))] [(.ref tb), (.int (Int32.ofNat n))])) _
      exact κ)
    obtain ⟨cl2, Ar2, -, S2, M2, -, -⟩ := id Va
    have pre3 := fun τ (κ : Steps p.tables e below (s₁.setTop (mkF m 8 #[.val (.ref tb), .val (.int (Int32.ofNat n))] [(.int (((((Int32.ofNat n) - (Int32.ofNat n)).toUInt32 >>> ((31 : Int32) &&& 31).toUInt32).toInt32).toInt8.toInt32))])) τ) => pre1 τ (by
      refine X0.arraylength hx (by rw [e0]; exact Ar2.1) (State.isArrayOf_alike hZ.alike Ar2.2.1) (g := (mkF m 2 #[.val (.ref tb), .val (.int (Int32.ofNat n))] [(.ref tb), (.int (Int32.ofNat n))])) rfl rfl (hb hby d8_2) _ ?_
      rw [len_of S2 M2]
      show Steps p.tables e below (s₁.setTop (mkF m 3 #[.val (.ref tb), .val (.int (Int32.ofNat n))] [(.int (Int32.ofNat n)), (.int (Int32.ofNat n))])) _
      refine XS.isub X0.here hx rfl (hb hby d8_3) rfl ?_
      show Steps p.tables e below (s₁.setTop (mkF m 4 #[.val (.ref tb), .val (.int (Int32.ofNat n))] [(.int ((Int32.ofNat n) - (Int32.ofNat n)))])) _
      refine XS.bipush X0.here hx rfl (hb hby d8_4) ?_
      refine XS.iushr X0.here hx rfl (hb hby d8_6) rfl ?_
      show Steps p.tables e below (s₁.setTop (mkF m 7 #[.val (.ref tb), .val (.int (Int32.ofNat n))] [(.int ((((Int32.ofNat n) - (Int32.ofNat n)).toUInt32 >>> ((31 : Int32) &&& 31).toUInt32).toInt32))])) _
      refine XS.i2b X0.here hx rfl (hb hby d8_7) rfl ?_
      show Steps p.tables e below (s₁.setTop (mkF m 8 #[.val (.ref tb), .val (.int (Int32.ofNat n))] [(.int (((((Int32.ofNat n) - (Int32.ofNat n)).toUInt32 >>> ((31 : Int32) &&& 31).toUInt32).toInt32).toInt8.toInt32))])) _
      exact κ)
    rw [show (((((Int32.ofNat n) - (Int32.ofNat n)).toUInt32 >>> ((31 : Int32) &&& 31).toUInt32).toInt32).toInt8.toInt32) = cd from ((own_coder0 _).trans hcd.symm)] at pre3
    obtain ⟨fs, hr, hrun, hended, hW, hsame⟩ := X0.leave (v := some (.int (nar .byte cd))) (fun h => by rw [Bd.returns] at h; cases h)
    refine ⟨_, _, pre3 _ ?_, hrun, hended, _, _, rfl, ?_, ⟨_, rfl⟩, hW, hsame.mono (by decide) (by decide)⟩
    · exact retN X0 hx (t := .byte) Bd.returns (by simp) (hb hby d8_8) hr
    · show Q8 Z tb n cd f h0 n0 _ s₁.heap _
      rw [e0]
      exact ⟨(by rw [hcd]; rfl), N0, rfl⟩
  · have pre4 := fun τ (κ : Steps p.tables e below (s₁.setTop (mkF m 2 #[.val (.ref tb), .val (.int (Int32.ofNat n))] [(.ref tb), (.int (Int32.ofNat n))])) τ) => pre0 τ (by
      refine XS.iloadN X0.here hx rfl (hb hby d8_0) rfl ?_
      refine XS.aloadN X0.here hx rfl (hb hby d8_1) rfl rfl ?_
      show Steps p.tables e below (s₁.setTop (mkF m 2 #[.val (.ref tb), .val (.int (Int32.ofNat n))] [(.ref tb), (.int (Int32.ofNat n))])) _
      exact κ)
    obtain ⟨cl5, Ar5, -, S5, M5, -, -⟩ := id Va
    have pre6 := fun τ (κ : Steps p.tables e below (s₁.setTop (mkF m 8 #[.val (.ref tb), .val (.int (Int32.ofNat n))] [(.int (((((Int32.ofNat n) - (Int32.ofNat (2 * n))).toUInt32 >>> ((31 : Int32) &&& 31).toUInt32).toInt32).toInt8.toInt32))])) τ) => pre4 τ (by
      refine X0.arraylength hx (by rw [e0]; exact Ar5.1) (State.isArrayOf_alike hZ.alike Ar5.2.1) (g := (mkF m 2 #[.val (.ref tb), .val (.int (Int32.ofNat n))] [(.ref tb), (.int (Int32.ofNat n))])) rfl rfl (hb hby d8_2) _ ?_
      rw [len_of S5 M5]
      show Steps p.tables e below (s₁.setTop (mkF m 3 #[.val (.ref tb), .val (.int (Int32.ofNat n))] [(.int (Int32.ofNat (2 * n))), (.int (Int32.ofNat n))])) _
      refine XS.isub X0.here hx rfl (hb hby d8_3) rfl ?_
      show Steps p.tables e below (s₁.setTop (mkF m 4 #[.val (.ref tb), .val (.int (Int32.ofNat n))] [(.int ((Int32.ofNat n) - (Int32.ofNat (2 * n))))])) _
      refine XS.bipush X0.here hx rfl (hb hby d8_4) ?_
      refine XS.iushr X0.here hx rfl (hb hby d8_6) rfl ?_
      show Steps p.tables e below (s₁.setTop (mkF m 7 #[.val (.ref tb), .val (.int (Int32.ofNat n))] [(.int ((((Int32.ofNat n) - (Int32.ofNat (2 * n))).toUInt32 >>> ((31 : Int32) &&& 31).toUInt32).toInt32))])) _
      refine XS.i2b X0.here hx rfl (hb hby d8_7) rfl ?_
      show Steps p.tables e below (s₁.setTop (mkF m 8 #[.val (.ref tb), .val (.int (Int32.ofNat n))] [(.int (((((Int32.ofNat n) - (Int32.ofNat (2 * n))).toUInt32 >>> ((31 : Int32) &&& 31).toUInt32).toInt32).toInt8.toInt32))])) _
      exact κ)
    rw [show (((((Int32.ofNat n) - (Int32.ofNat (2 * n))).toUInt32 >>> ((31 : Int32) &&& 31).toUInt32).toInt32).toInt8.toInt32) = cd from ((own_coder hn hn0).trans hcd.symm)] at pre6
    obtain ⟨fs, hr, hrun, hended, hW, hsame⟩ := X0.leave (v := some (.int (nar .byte cd))) (fun h => by rw [Bd.returns] at h; cases h)
    refine ⟨_, _, pre6 _ ?_, hrun, hended, _, _, rfl, ?_, ⟨_, rfl⟩, hW, hsame.mono (by decide) (by decide)⟩
    · exact retN X0 hx (t := .byte) Bd.returns (by simp) (hb hby d8_8) hr
    · show Q8 Z tb n cd f h0 n0 _ s₁.heap _
      rw [e0]
      exact ⟨(by rw [hcd]; rfl), N0, rfl⟩
theorem ef_4 (m : MethodId) (sa : Addr) (ca : Addr) (n : Nat) (zc : Int32) (fm : Value) : entryFrame m #[(.ref sa), (.ref ca), (.int (0 : Int32)), (.int (Int32.ofNat n)), .null] 6 = mkF m 0 #[.val (.ref sa), .val (.ref ca), .val (.int (0 : Int32)), .val (.int (Int32.ofNat n)), .val .null, .unset] [] := by first | (simp [entryFrame, mkF, argsToLocals, Value.category]; done) | rfl
def Q4 (Z : State) (sa : Addr) (ca : Addr) (n : Nat) (kc : ClassId) (f : Nat → Int32) (zc : Int32) (fm : Value) (h0 : Heap) (n0 : Nat) (v : Option Value) (h : Heap) (L : List Loc) : Prop := v = none ∧ Fr n0 L ∧ Keep h0 h [sa] ∧ own_STR Z h sa f n
set_option maxRecDepth 65536 in
set_option maxHeartbeats 40000000 in
theorem rm4 (l : Launch) (Z : State) (a0 : Array Value) (hw : ∀ d ∈ tables_1, d.before a0 Z = true) (ws : List Jvm.Cond) (sa : Addr) (ca : Addr) (n : Nat) (kc : ClassId) (f : Nat → Int32) (zc : Int32) (fm : Value) (h0 : Heap) (n0 : Nat) (Z0 : n0 ≤ h0.size) (O0 : Old Z n0 h0) (U0 : own_ST Z zc fm) (E_s : Exa Z h0 sa "java/lang/String") (Fv : Fld Z h0 sa "java/lang/String" "value" "[B" .null) (Fc : Fld Z h0 sa "java/lang/String" "coder" "B" (.int (0 : Int32))) (Vc : Arv Z h0 ca kc .char (Int32.ofNat n) (own_tab f (n)) (.int (0 : Int32))) (hn : n ≤ 16) (hn0 : 0 < n) (hf : ∀ j, j < n → own_ch (f j)) (hsc : sa ≠ ca) (gs : n0 ≤ sa) :
    MetFree l (⟨"java/lang/String", "<init>", "([CIILjava/lang/Void;)V"⟩ : MethodName) (head1 (Jvm.Cond.code (⟨"java/lang/String", "<init>", "([CIILjava/lang/Void;)V"⟩ : MethodName) jdk_42_method_149_code 6 none :: ws) ({ frames := 4, cells := 2, slots := 48, locals := 57 } : Room)) (fun α υ => α = #[(.ref sa), (.ref ca), (.int (0 : Int32)), (.int (Int32.ofNat n)), .null] ∧ Z.Warmed39 υ.vm ∧ υ.heap = h0) (fun _ _ _ _ _ => True) (fun _ υ ω υ' => ∃ v L, ω = .returned v ∧ Q4 Z sa ca n kc f zc fm h0 n0 v υ'.heap L ∧ FrameEnd υ ω υ' L ({ frames := 4, cells := 2, slots := 48, locals := 57 } : Room).cells ({ frames := 4, cells := 2, slots := 48, locals := 57 } : Room).slots) := by
  refine MetFree.of_bodySF (plainFor_of_name pn_java_lang_String) hisR ?_
  intro p e s m args below meth c s₁ Bd hml0 hP hK
  obtain ⟨rfl, hZ, hh⟩ := hP
  have hx := Bd.exec
  have hby := Bd.bytes
  have hml : c.maxLocals = 6 := hml0
  have hown : s.vm.findClass "java/lang/String" = some m.cls := findClass_of_methodNamed Bd.named
  have hnm := (name_of_methodNamed Bd.named Bd.method).1
  have X0 : Stand p l e ({ frames := 4, cells := 2, slots := 48, locals := 57 } : Room) s m #[(.ref sa), (.ref ca), (.int (0 : Int32)), (.int (Int32.ofNat n)), .null] below meth c s₁ [] 0 0 := Stand.of_body Bd
  have e0 : s₁.heap = h0 := by rw [← hh, Bd.state]; rfl
  have N0 := Fr.nil n0
  have pre0 : ∀ τ, Steps p.tables e below (s₁.setTop (mkF m 0 #[.val (.ref sa), .val (.ref ca), .val (.int (0 : Int32)), .val (.int (Int32.ofNat n)), .val .null, .unset] [])) τ → Steps p.tables e below (s₁.setTop (entryFrame m #[(.ref sa), (.ref ca), (.int (0 : Int32)), (.int (Int32.ofNat n)), .null] 6)) τ := fun τ κ => castTop (ef_4 m sa ca n zc fm) κ
  obtain ⟨Scs, hcs, Sad, Shi, Slo, Sfm, r_fm⟩ := id U0
  have Kp0 : Keep h0 h0 [sa] := Keep.refl _ _
  have pre1 := fun τ (κ : Steps p.tables e below (s₁.setTop (mkF m 1 #[.val (.ref sa), .val (.ref ca), .val (.int (0 : Int32)), .val (.int (Int32.ofNat n)), .val .null, .unset] [(.ref sa)])) τ) => pre0 τ (by
    refine XS.aloadN X0.here hx rfl (hb hby d4_0) rfl rfl ?_
    show Steps p.tables e below (s₁.setTop (mkF m 1 #[.val (.ref sa), .val (.ref ca), .val (.int (0 : Int32)), .val (.int (Int32.ofNat n)), .val .null, .unset] [(.ref sa)])) _
    exact κ)
  obtain ⟨T2, X2, e2, st2⟩ := initO X0 hx hZ hown (hw _ (List.mem_of_getElem? (i := 20) rfl)) (hw _ (List.mem_of_getElem? (i := 21) rfl)) (hw _ (List.mem_of_getElem? (i := 22) rfl)) e0 (g := (mkF m 1 #[.val (.ref sa), .val (.ref ca), .val (.int (0 : Int32)), .val (.int (Int32.ofNat n)), .val .null, .unset] [(.ref sa)])) rfl (by rw [hml]; rfl) rfl (hb hby d4_1) (by decide) (W := 0) (by show 2 * 0 + _ ≤ _; exact Nat.le_of_eq rfl) (by decide)
  have pre3 := fun τ (κ : Steps p.tables e below (T2.setTop (mkF m 4 #[.val (.ref sa), .val (.ref ca), .val (.int (0 : Int32)), .val (.int (Int32.ofNat n)), .val .null, .unset] [])) τ) => pre1 τ (st2 _ κ)
  have pre4 := fun τ (κ : Steps p.tables e below (T2.setTop (mkF m 27 #[.val (.ref sa), .val (.ref ca), .val (.int (0 : Int32)), .val (.int (Int32.ofNat n)), .val .null, .unset] [])) τ) => pre3 τ (by
    refine XS.iloadN X2.here hx rfl (hb hby d4_4) rfl ?_
    refine XS.ifYes X2.here hx rfl (pc0 := 5) (pc' := 27) rfl (hb hby d4_5) rfl ((if0 _ _).trans (feq (fun q => by have := (own_injN (j := 0) (by omega) (by omega)).mp q; omega)).2) (by decide) (by decide) ?_
    show Steps p.tables e below (T2.setTop (mkF m 27 #[.val (.ref sa), .val (.ref ca), .val (.int (0 : Int32)), .val (.int (Int32.ofNat n)), .val .null, .unset] [])) _
    exact κ)
  obtain ⟨T5, X5, e5, st5⟩ := getS2 X2 hx hZ hown (host := "") (Or.inl (hw _ (List.mem_of_getElem? (i := 23) rfl))) Via.refl e2 (Scs.ext O0.2) (g := (mkF m 27 #[.val (.ref sa), .val (.ref ca), .val (.int (0 : Int32)), .val (.int (Int32.ofNat n)), .val .null, .unset] [])) rfl (hb hby d4_27)
  have pre6 := fun τ (κ : Steps p.tables e below (T5.setTop (mkF m 30 #[.val (.ref sa), .val (.ref ca), .val (.int (0 : Int32)), .val (.int (Int32.ofNat n)), .val .null, .unset] [(.int zc)])) τ) => pre4 τ (st5 _ κ)
  have pre7 := fun τ (κ : Steps p.tables e below (T5.setTop (mkF m 36 #[.val (.ref sa), .val (.ref ca), .val (.int (0 : Int32)), .val (.int (Int32.ofNat n)), .val .null, .unset] [(.int (Int32.ofNat n)), (.int (0 : Int32)), (.ref ca)])) τ) => pre6 τ (by
    refine XS.ifNo X5.here hx rfl (hb hby d4_30) rfl ((if0 _ _).trans (feq hcs).1) ?_
    show Steps p.tables e below (T5.setTop (mkF m 33 #[.val (.ref sa), .val (.ref ca), .val (.int (0 : Int32)), .val (.int (Int32.ofNat n)), .val .null, .unset] [])) _
    refine XS.aloadN X5.here hx rfl (hb hby d4_33) rfl rfl ?_
    refine XS.iloadN X5.here hx rfl (hb hby d4_34) rfl ?_
    refine XS.iloadN X5.here hx rfl (hb hby d4_35) rfl ?_
    show Steps p.tables e below (T5.setTop (mkF m 36 #[.val (.ref sa), .val (.ref ca), .val (.int (0 : Int32)), .val (.int (Int32.ofNat n)), .val .null, .unset] [(.int (Int32.ofNat n)), (.int (0 : Int32)), (.ref ca)])) _
    exact κ)
  obtain ⟨_, _, ⟨T8, L8, k8, n8⟩, -, X8, ⟨Lc8, hQ8, l8, y8, z8⟩, st8⟩ := Jvm.LawKit.callS X5 hx (y := (⟨"java/lang/StringUTF16", "compress", "([CII)[B"⟩ : MethodName)) hown (mvT hZ (hw _ (List.mem_of_getElem? (i := 24) rfl))) (mvT hZ (hw _ (List.mem_of_getElem? (i := 25) rfl))) (mvT hZ (hw _ (List.mem_of_getElem? (i := 26) rfl))) (mvT hZ (hw _ (List.mem_of_getElem? (i := 27) rfl))) (by decide) (backOf (W := 0) (rm6 l Z a0 hw [] ca n kc f zc fm h0 n0 Z0 O0 U0 Vc hn hf) hZ (hw _ (List.mem_of_getElem? (i := 27) rfl)) (hw _ (List.mem_of_getElem? (i := 26) rfl)) (Nat.le_of_ble_eq_true rfl) (Nat.le_of_ble_eq_true rfl)) (g := (mkF m 36 #[.val (.ref sa), .val (.ref ca), .val (.int (0 : Int32)), .val (.int (Int32.ofNat n)), .val .null, .unset] [(.int (Int32.ofNat n)), (.int (0 : Int32)), (.ref ca)])) rfl (by rw [hml]; rfl) (argsL := [(.ref ca), (.int (0 : Int32)), (.int (Int32.ofNat n))]) (rest := []) (lenOf pd_4 rfl) rfl (by show 2 * 0 + _ ≤ _; exact Nat.le_of_eq rfl) (hb hby d4_36) (fun _ _ => ⟨rfl, e5, (by decide : 0 + 2 ≤ _), (by decide : 0 + 48 ≤ _)⟩)
  dsimp only [Pt.U, Pt.locs, Pt.cells, Pt.slots] at X8 l8 y8 z8 st8 hQ8
  subst l8 y8 z8
  obtain ⟨tb, cd, rfl, Nq8, K8, stb, Bt⟩ := hQ8
  have O0_8 : Old Z n0 T8.heap := O0.keep K8 all0
  have E_s_8 : Exa Z T8.heap sa "java/lang/String" := E_s.keep K8
  have Fv_8 : Fld Z T8.heap sa "java/lang/String" "value" "[B" .null := Fv.keep K8 nin0
  have Fc_8 : Fld Z T8.heap sa "java/lang/String" "coder" "B" (.int (0 : Int32)) := Fc.keep K8 nin0
  have Vc_8 : Arv Z T8.heap ca kc .char (Int32.ofNat n) (own_tab f (n)) (.int (0 : Int32)) := Vc.keep K8 nin0
  have Z8 : n0 ≤ T8.heap.size := Nat.le_trans Z0 K8.1
  have Kp8 : Keep h0 T8.heap [sa] := Kp0.trans K8 all0
  have N8 := Fr.app N0 Nq8
  have pre9 := fun τ (κ : Steps p.tables e below (T8.setTop (mkF m 39 #[.val (.ref sa), .val (.ref ca), .val (.int (0 : Int32)), .val (.int (Int32.ofNat n)), .val .null, .unset] [(.ref tb)])) τ) => pre7 τ (st8 _ κ)
  have hts : tb ≠ sa := Ne.symm (Nat.ne_of_lt (Nat.lt_of_lt_of_le E_s.lt stb))
  have pre10 := fun τ (κ : Steps p.tables e below (T8.setTop (mkF m 45 #[.val (.ref sa), .val (.ref ca), .val (.int (0 : Int32)), .val (.int (Int32.ofNat n)), .val .null, .val (.ref tb)] [(.int (Int32.ofNat n)), (.ref tb), (.ref sa)])) τ) => pre9 τ (by
    refine XS.astore X8.here hx rfl (hb hby d4_39) rfl rfl (l' := #[.val (.ref sa), .val (.ref ca), .val (.int (0 : Int32)), .val (.int (Int32.ofNat n)), .val .null, .val (.ref tb)]) rfl ?_
    show Steps p.tables e below (T8.setTop (mkF m 41 #[.val (.ref sa), .val (.ref ca), .val (.int (0 : Int32)), .val (.int (Int32.ofNat n)), .val .null, .val (.ref tb)] [])) _
    refine XS.aloadN X8.here hx rfl (hb hby d4_41) rfl rfl ?_
    refine XS.aload X8.here hx rfl (hb hby d4_42) rfl rfl ?_
    refine XS.iloadN X8.here hx rfl (hb hby d4_44) rfl ?_
    show Steps p.tables e below (T8.setTop (mkF m 45 #[.val (.ref sa), .val (.ref ca), .val (.int (0 : Int32)), .val (.int (Int32.ofNat n)), .val .null, .val (.ref tb)] [(.int (Int32.ofNat n)), (.ref tb), (.ref sa)])) _
    exact κ)
  obtain ⟨_, _, ⟨T11, L11, k11, n11⟩, -, X11, ⟨Lc11, hQ11, l11, y11, z11⟩, st11⟩ := Jvm.LawKit.callS X8 hx (y := (⟨"java/lang/StringUTF16", "coderFromArrayLen", "([BI)B"⟩ : MethodName)) hown (mvT hZ (hw _ (List.mem_of_getElem? (i := 32) rfl))) (mvT hZ (hw _ (List.mem_of_getElem? (i := 33) rfl))) (mvT hZ (hw _ (List.mem_of_getElem? (i := 26) rfl))) (mvT hZ (hw _ (List.mem_of_getElem? (i := 34) rfl))) (by decide) (backOf (W := 1) (rm8 l Z a0 hw [] tb n cd f T8.heap n0 Z8 Bt hn hn0) hZ (hw _ (List.mem_of_getElem? (i := 34) rfl)) (hw _ (List.mem_of_getElem? (i := 26) rfl)) (Nat.le_of_ble_eq_true rfl) (Nat.le_of_ble_eq_true rfl)) (g := (mkF m 45 #[.val (.ref sa), .val (.ref ca), .val (.int (0 : Int32)), .val (.int (Int32.ofNat n)), .val .null, .val (.ref tb)] [(.int (Int32.ofNat n)), (.ref tb), (.ref sa)])) rfl (by rw [hml]; rfl) (argsL := [(.ref tb), (.int (Int32.ofNat n))]) (rest := [(.ref sa)]) (lenOf pd_6 rfl) rfl (by show 2 * 0 + _ ≤ _; exact Nat.le_of_eq rfl) (hb hby d4_45) (fun _ _ => ⟨rfl, rfl, (by decide : 2 + 0 ≤ _), (by decide : 48 + 0 ≤ _)⟩)
  dsimp only [Pt.U, Pt.locs, Pt.cells, Pt.slots] at X11 l11 y11 z11 st11 hQ11
  subst l11 y11 z11
  obtain ⟨rfl, Nq11, hh11⟩ := hQ11
  have O0_11 : Old Z n0 T11.heap := by rw [hh11]; exact O0_8
  have E_s_11 : Exa Z T11.heap sa "java/lang/String" := by rw [hh11]; exact E_s_8
  have Fv_11 : Fld Z T11.heap sa "java/lang/String" "value" "[B" .null := by rw [hh11]; exact Fv_8
  have Fc_11 : Fld Z T11.heap sa "java/lang/String" "coder" "B" (.int (0 : Int32)) := by rw [hh11]; exact Fc_8
  have Vc_11 : Arv Z T11.heap ca kc .char (Int32.ofNat n) (own_tab f (n)) (.int (0 : Int32)) := by rw [hh11]; exact Vc_8
  have Z11 : n0 ≤ T11.heap.size := by rw [hh11]; exact Z8
  have Kp11 : Keep h0 T11.heap [sa] := by rw [hh11]; exact Kp8
  have N11 := Fr.app N8 Nq11
  have pre12 := fun τ (κ : Steps p.tables e below (T11.setTop (mkF m 48 #[.val (.ref sa), .val (.ref ca), .val (.int (0 : Int32)), .val (.int (Int32.ofNat n)), .val .null, .val (.ref tb)] [(.int cd), (.ref sa)])) τ) => pre10 τ (st11 _ κ)
  rw [← hh11] at Bt
  obtain ⟨T13, h13, X13, e13, W13, st13⟩ := putFN X11 hx hZ hown (hw _ (List.mem_of_getElem? (i := 35) rfl)) Via.refl rfl Fc_11 E_s_11 (Or.inr ⟨(hw _ (List.mem_of_getElem? (i := 36) rfl)), rfl, hnm⟩) (hw _ (List.mem_of_getElem? (i := 11) rfl)) (ty := .byte) (v' := (.int cd)) (by decide) (by rcases Bt.cd with q | q <;> rw [q] <;> rfl) (by rcases Bt.cd with q | q <;> rw [q] <;> rfl) (g := (mkF m 48 #[.val (.ref sa), .val (.ref ca), .val (.int (0 : Int32)), .val (.int (Int32.ofNat n)), .val .null, .val (.ref tb)] [(.int cd), (.ref sa)])) rfl rfl (hb hby d4_48)
  have O0_13 : Old Z n0 h13 := O0_11.wr W13 gs
  have E_s_13 : Exa Z h13 sa "java/lang/String" := E_s_11.wr W13
  have Fv_13 : Fld Z h13 sa "java/lang/String" "value" "[B" .null := Fv_11.other W13 (Or.inr (slot_ne (Or.inr (hw _ (List.mem_of_getElem? (i := 38) rfl))) (Or.inr (hw _ (List.mem_of_getElem? (i := 36) rfl))) (by decide) (t := (.array .byte)) (t' := .byte) (by decide) (by decide)))
  have Vc_13 : Arv Z h13 ca kc .char (Int32.ofNat n) (own_tab f (n)) (.int (0 : Int32)) := Vc_11.other W13 (Ne.symm hsc)
  have Kp13 : Keep h0 h13 [sa] := Kp11.wr W13 (Or.inl (List.mem_of_getElem? (i := 0) rfl))
  have N13 := Fr.snoc X13 N11 gs
  have Z13 : n0 ≤ h13.size := Nat.le_trans Z11 (Keep.of_wr W13).1
  have F_coder_sa_13 : Fld Z h13 sa "java/lang/String" "coder" "B" (.int cd) := Fc_11.same W13
  have pre14 := fun τ (κ : Steps p.tables e below (T13.setTop (mkF m 51 #[.val (.ref sa), .val (.ref ca), .val (.int (0 : Int32)), .val (.int (Int32.ofNat n)), .val .null, .val (.ref tb)] [])) τ) => pre12 τ (st13 _ κ)
  have Bt1 := Bt.other W13 hts
  have pre15 := fun τ (κ : Steps p.tables e below (T13.setTop (mkF m 54 #[.val (.ref sa), .val (.ref ca), .val (.int (0 : Int32)), .val (.int (Int32.ofNat n)), .val .null, .val (.ref tb)] [(.ref tb), (.ref sa)])) τ) => pre14 τ (by
    refine XS.aloadN X13.here hx rfl (hb hby d4_51) rfl rfl ?_
    refine XS.aload X13.here hx rfl (hb hby d4_52) rfl rfl ?_
    show Steps p.tables e below (T13.setTop (mkF m 54 #[.val (.ref sa), .val (.ref ca), .val (.int (0 : Int32)), .val (.int (Int32.ofNat n)), .val .null, .val (.ref tb)] [(.ref tb), (.ref sa)])) _
    exact κ)
  obtain ⟨T16, h16, X16, e16, W16, st16⟩ := putF X13 hx hZ hown (host := "") (Or.inl (hw _ (List.mem_of_getElem? (i := 37) rfl))) Via.refl e13 Fv_13 E_s_13 (Or.inr ⟨(hw _ (List.mem_of_getElem? (i := 38) rfl)), rfl, hnm⟩) (hw _ (List.mem_of_getElem? (i := 11) rfl)) (ty := (.array .byte)) (by decide) rfl rfl (g := (mkF m 54 #[.val (.ref sa), .val (.ref ca), .val (.int (0 : Int32)), .val (.int (Int32.ofNat n)), .val .null, .val (.ref tb)] [(.ref tb), (.ref sa)])) rfl rfl (hb hby d4_54)
  have O0_16 : Old Z n0 h16 := O0_13.wr W16 gs
  have E_s_16 : Exa Z h16 sa "java/lang/String" := E_s_13.wr W16
  have Vc_16 : Arv Z h16 ca kc .char (Int32.ofNat n) (own_tab f (n)) (.int (0 : Int32)) := Vc_13.other W16 (Ne.symm hsc)
  have F_coder_sa_16 : Fld Z h16 sa "java/lang/String" "coder" "B" (.int cd) := F_coder_sa_13.other W16 (Or.inr (slot_ne (Or.inr (hw _ (List.mem_of_getElem? (i := 36) rfl))) (Or.inr (hw _ (List.mem_of_getElem? (i := 38) rfl))) (by decide) (t := .byte) (t' := (.array .byte)) (by decide) (by decide)))
  have Kp16 : Keep h0 h16 [sa] := Kp13.wr W16 (Or.inl (List.mem_of_getElem? (i := 0) rfl))
  have N16 := Fr.snoc X16 N13 gs
  have Z16 : n0 ≤ h16.size := Nat.le_trans Z13 (Keep.of_wr W16).1
  have F_value_sa_16 : Fld Z h16 sa "java/lang/String" "value" "[B" (.ref tb) := Fv_13.same W16
  have pre17 := fun τ (κ : Steps p.tables e below (T16.setTop (mkF m 57 #[.val (.ref sa), .val (.ref ca), .val (.int (0 : Int32)), .val (.int (Int32.ofNat n)), .val .null, .val (.ref tb)] [])) τ) => pre15 τ (st16 _ κ)
  have Bt2 := Bt1.other W16 hts
  obtain ⟨fs, hr, hrun, hended, hW, hsame⟩ := X16.leave (v := none) (fun _ => rfl)
  refine ⟨_, _, pre17 _ ?_, hrun, hended, _, _, rfl, ?_, ⟨_, rfl⟩, hW, hsame.mono (by decide) (by decide)⟩
  · exact X16.returnOut hx Bd.returns (hb hby d4_57) hr
  · show Q4 Z sa ca n kc f zc fm h0 n0 _ T16.heap _
    rw [e16]
    exact ⟨rfl, N16, Kp16, tb, cd, E_s_16, F_value_sa_16, F_coder_sa_16, Bt2⟩
theorem ef_3 (m : MethodId) (sa : Addr) (ca : Addr) (n : Nat) (zc : Int32) (fm : Value) : entryFrame m #[(.ref sa), (.ref ca)] 2 = mkF m 0 #[.val (.ref sa), .val (.ref ca)] [] := by first | (simp [entryFrame, mkF, argsToLocals, Value.category]; done) | rfl
def Q3 (Z : State) (sa : Addr) (ca : Addr) (n : Nat) (kc : ClassId) (f : Nat → Int32) (zc : Int32) (fm : Value) (h0 : Heap) (n0 : Nat) (v : Option Value) (h : Heap) (L : List Loc) : Prop := v = none ∧ Fr n0 L ∧ Keep h0 h [sa] ∧ own_STR Z h sa f n
set_option maxRecDepth 65536 in
set_option maxHeartbeats 40000000 in
theorem rm3 (l : Launch) (Z : State) (a0 : Array Value) (hw : ∀ d ∈ tables_1, d.before a0 Z = true) (ws : List Jvm.Cond) (sa : Addr) (ca : Addr) (n : Nat) (kc : ClassId) (f : Nat → Int32) (zc : Int32) (fm : Value) (h0 : Heap) (n0 : Nat) (Z0 : n0 ≤ h0.size) (O0 : Old Z n0 h0) (U0 : own_ST Z zc fm) (E_s : Exa Z h0 sa "java/lang/String") (Fv : Fld Z h0 sa "java/lang/String" "value" "[B" .null) (Fc : Fld Z h0 sa "java/lang/String" "coder" "B" (.int (0 : Int32))) (Vc : Arv Z h0 ca kc .char (Int32.ofNat n) (own_tab f (n)) (.int (0 : Int32))) (hn : n ≤ 16) (hn0 : 0 < n) (hf : ∀ j, j < n → own_ch (f j)) (hsc : sa ≠ ca) (gs : n0 ≤ sa) :
    MetFree l (⟨"java/lang/String", "<init>", "([C)V"⟩ : MethodName) (head1 (Jvm.Cond.code (⟨"java/lang/String", "<init>", "([C)V"⟩ : MethodName) jdk_42_method_3_code 2 none :: ws) ({ frames := 5, cells := 2, slots := 48, locals := 74 } : Room)) (fun α υ => α = #[(.ref sa), (.ref ca)] ∧ Z.Warmed39 υ.vm ∧ υ.heap = h0) (fun _ _ _ _ _ => True) (fun _ υ ω υ' => ∃ v L, ω = .returned v ∧ Q3 Z sa ca n kc f zc fm h0 n0 v υ'.heap L ∧ FrameEnd υ ω υ' L ({ frames := 5, cells := 2, slots := 48, locals := 74 } : Room).cells ({ frames := 5, cells := 2, slots := 48, locals := 74 } : Room).slots) := by
  refine MetFree.of_bodySF (plainFor_of_name pn_java_lang_String) hisR ?_
  intro p e s m args below meth c s₁ Bd hml0 hP hK
  obtain ⟨rfl, hZ, hh⟩ := hP
  have hx := Bd.exec
  have hby := Bd.bytes
  have hml : c.maxLocals = 2 := hml0
  have hown : s.vm.findClass "java/lang/String" = some m.cls := findClass_of_methodNamed Bd.named
  have hnm := (name_of_methodNamed Bd.named Bd.method).1
  have X0 : Stand p l e ({ frames := 5, cells := 2, slots := 48, locals := 74 } : Room) s m #[(.ref sa), (.ref ca)] below meth c s₁ [] 0 0 := Stand.of_body Bd
  have e0 : s₁.heap = h0 := by rw [← hh, Bd.state]; rfl
  have N0 := Fr.nil n0
  have pre0 : ∀ τ, Steps p.tables e below (s₁.setTop (mkF m 0 #[.val (.ref sa), .val (.ref ca)] [])) τ → Steps p.tables e below (s₁.setTop (entryFrame m #[(.ref sa), (.ref ca)] 2)) τ := fun τ κ => castTop (ef_3 m sa ca n zc fm) κ
  have Kp0 : Keep h0 h0 [sa] := Keep.refl _ _
  have pre1 := fun τ (κ : Steps p.tables e below (s₁.setTop (mkF m 4 #[.val (.ref sa), .val (.ref ca)] [(.ref ca), (.int (0 : Int32)), (.ref ca), (.ref sa)])) τ) => pre0 τ (by
    refine XS.aloadN X0.here hx rfl (hb hby d3_0) rfl rfl ?_
    refine XS.aloadN X0.here hx rfl (hb hby d3_1) rfl rfl ?_
    refine XS.iconst X0.here hx rfl (hb hby d3_2) ?_
    refine XS.aloadN X0.here hx rfl (hb hby d3_3) rfl rfl ?_
    show Steps p.tables e below (s₁.setTop (mkF m 4 #[.val (.ref sa), .val (.ref ca)] [(.ref ca), (.int (0 : Int32)), (.ref ca), (.ref sa)])) _
    exact κ)
  obtain ⟨cl2, Ar2, -, S2, M2, -, -⟩ := id Vc
  have pre3 := fun τ (κ : Steps p.tables e below (s₁.setTop (mkF m 6 #[.val (.ref sa), .val (.ref ca)] [.null, (.int (Int32.ofNat n)), (.int (0 : Int32)), (.ref ca), (.ref sa)])) τ) => pre1 τ (by
    refine X0.arraylength hx (by rw [e0]; exact Ar2.1) (State.isArrayOf_alike hZ.alike Ar2.2.1) (g := (mkF m 4 #[.val (.ref sa), .val (.ref ca)] [(.ref ca), (.int (0 : Int32)), (.ref ca), (.ref sa)])) rfl rfl (hb hby d3_4) _ ?_
    rw [len_of S2 M2]
    show Steps p.tables e below (s₁.setTop (mkF m 5 #[.val (.ref sa), .val (.ref ca)] [(.int (Int32.ofNat n)), (.int (0 : Int32)), (.ref ca), (.ref sa)])) _
    refine XS.aconstNull X0.here hx rfl (hb hby d3_5) ?_
    show Steps p.tables e below (s₁.setTop (mkF m 6 #[.val (.ref sa), .val (.ref ca)] [.null, (.int (Int32.ofNat n)), (.int (0 : Int32)), (.ref ca), (.ref sa)])) _
    exact κ)
  obtain ⟨_, _, ⟨T4, L4, k4, n4⟩, -, X4, ⟨Lc4, hQ4, l4, y4, z4⟩, st4⟩ := X0.specialBack hx (y := (⟨"java/lang/String", "<init>", "([CIILjava/lang/Void;)V"⟩ : MethodName)) rfl hown (mvT hZ (hw _ (List.mem_of_getElem? (i := 16) rfl))) (mvT hZ (hw _ (List.mem_of_getElem? (i := 17) rfl))) (mvT hZ (hw _ (List.mem_of_getElem? (i := 19) rfl))) (by decide) (backOf (W := 0) (rm4 l Z a0 hw [] sa ca n kc f zc fm h0 n0 Z0 O0 U0 E_s Fv Fc Vc hn hn0 hf hsc gs) hZ (hw _ (List.mem_of_getElem? (i := 19) rfl)) (hw _ (List.mem_of_getElem? (i := 12) rfl)) (Nat.le_of_ble_eq_true rfl) (Nat.le_of_ble_eq_true rfl)) (g := (mkF m 6 #[.val (.ref sa), .val (.ref ca)] [.null, (.int (Int32.ofNat n)), (.int (0 : Int32)), (.ref ca), (.ref sa)])) rfl (by rw [hml]; rfl) (Steps.refl _) (a := sa) (argsL := [(.ref ca), (.int (0 : Int32)), (.int (Int32.ofNat n)), .null]) (rest := []) (lenOf pd_7 rfl) rfl (by show 2 * 0 + _ ≤ _; exact Nat.le_of_eq rfl) (hb hby d3_6) (fun _ _ => ⟨rfl, e0, (by decide : 0 + 2 ≤ _), (by decide : 0 + 48 ≤ _)⟩)
  dsimp only [Pt.U, Pt.locs, Pt.cells, Pt.slots] at X4 l4 y4 z4 st4 hQ4
  subst l4 y4 z4
  obtain ⟨rfl, Nq4, K4, P4⟩ := hQ4
  have O0_4 : Old Z n0 T4.heap := O0.keep K4 (allS gs all0)
  have E_s_4 : Exa Z T4.heap sa "java/lang/String" := E_s.keep K4
  have Vc_4 : Arv Z T4.heap ca kc .char (Int32.ofNat n) (own_tab f (n)) (.int (0 : Int32)) := Vc.keep K4 (ninS (Ne.symm hsc) nin0)
  have Z4 : n0 ≤ T4.heap.size := Nat.le_trans Z0 K4.1
  have Kp4 : Keep h0 T4.heap [sa] := Kp0.trans K4 (allS (Or.inl (List.mem_of_getElem? (i := 0) rfl)) all0)
  have N4 := Fr.app N0 Nq4
  have pre5 := fun τ (κ : Steps p.tables e below (T4.setTop (mkF m 9 #[.val (.ref sa), .val (.ref ca)] [])) τ) => pre3 τ (st4.trans κ)
  obtain ⟨fs, hr, hrun, hended, hW, hsame⟩ := X4.leave (v := none) (fun _ => rfl)
  refine ⟨_, _, pre5 _ ?_, hrun, hended, _, _, rfl, ?_, ⟨_, rfl⟩, hW, hsame.mono (by decide) (by decide)⟩
  · exact X4.returnOut hx Bd.returns (hb hby d3_9) hr
  · show Q3 Z sa ca n kc f zc fm h0 n0 _ T4.heap _
    exact ⟨rfl, N4, Kp4, P4⟩
theorem ef_11 (m : MethodId) (sa : Addr) (cd : Int32) (zc : Int32) (fm : Value) : entryFrame m #[(.ref sa)] 1 = mkF m 0 #[.val (.ref sa)] [] := by first | (simp [entryFrame, mkF, argsToLocals, Value.category]; done) | rfl
def Q11 (Z : State) (sa : Addr) (cd : Int32) (zc : Int32) (fm : Value) (h0 : Heap) (n0 : Nat) (v : Option Value) (h : Heap) (L : List Loc) : Prop := v = some (.int cd) ∧ Fr n0 L ∧ h = h0
set_option maxRecDepth 65536 in
set_option maxHeartbeats 40000000 in
theorem rm11 (l : Launch) (Z : State) (a0 : Array Value) (hw : ∀ d ∈ tables_1, d.before a0 Z = true) (ws : List Jvm.Cond) (sa : Addr) (cd : Int32) (zc : Int32) (fm : Value) (h0 : Heap) (n0 : Nat) (Z0 : n0 ≤ h0.size) (O0 : Old Z n0 h0) (U0 : own_ST Z zc fm) (Fc : Fld Z h0 sa "java/lang/String" "coder" "B" (.int cd)) (hcd : cd = 0 ∨ cd = 1) :
    MetFree l (⟨"java/lang/String", "coder", "()B"⟩ : MethodName) (head1 (Jvm.Cond.code (⟨"java/lang/String", "coder", "()B"⟩ : MethodName) jdk_42_method_152_code 1 (some .byte) :: ws) ({ frames := 0, cells := 0, slots := 0, locals := 0 } : Room)) (fun α υ => α = #[(.ref sa)] ∧ Z.Warmed39 υ.vm ∧ υ.heap = h0) (fun _ _ _ _ _ => True) (fun _ υ ω υ' => ∃ v L, ω = .returned v ∧ Q11 Z sa cd zc fm h0 n0 v υ'.heap L ∧ FrameEnd υ ω υ' L ({ frames := 0, cells := 0, slots := 0, locals := 0 } : Room).cells ({ frames := 0, cells := 0, slots := 0, locals := 0 } : Room).slots) := by
  refine MetFree.of_bodySF (plainFor_of_name pn_java_lang_String) hisR ?_
  intro p e s m args below meth c s₁ Bd hml0 hP hK
  obtain ⟨rfl, hZ, hh⟩ := hP
  have hx := Bd.exec
  have hby := Bd.bytes
  have hml : c.maxLocals = 1 := hml0
  have hown : s.vm.findClass "java/lang/String" = some m.cls := findClass_of_methodNamed Bd.named
  have hnm := (name_of_methodNamed Bd.named Bd.method).1
  have X0 : Stand p l e ({ frames := 0, cells := 0, slots := 0, locals := 0 } : Room) s m #[(.ref sa)] below meth c s₁ [] 0 0 := Stand.of_body Bd
  have e0 : s₁.heap = h0 := by rw [← hh, Bd.state]; rfl
  have N0 := Fr.nil n0
  have pre0 : ∀ τ, Steps p.tables e below (s₁.setTop (mkF m 0 #[.val (.ref sa)] [])) τ → Steps p.tables e below (s₁.setTop (entryFrame m #[(.ref sa)] 1)) τ := fun τ κ => castTop (ef_11 m sa cd zc fm) κ
  obtain ⟨Scs, hcs, Sad, Shi, Slo, Sfm, r_fm⟩ := id U0
  obtain ⟨T1, X1, e1, st1⟩ := getS2 X0 hx hZ hown (host := "") (Or.inl (hw _ (List.mem_of_getElem? (i := 23) rfl))) Via.refl e0 (Scs.ext O0.2) (g := (mkF m 0 #[.val (.ref sa)] [])) rfl (hb hby d11_0)
  have pre2 := fun τ (κ : Steps p.tables e below (T1.setTop (mkF m 3 #[.val (.ref sa)] [(.int zc)])) τ) => pre0 τ (st1 _ κ)
  have pre3 := fun τ (κ : Steps p.tables e below (T1.setTop (mkF m 7 #[.val (.ref sa)] [(.ref sa)])) τ) => pre2 τ (by
    refine XS.ifNo X1.here hx rfl (hb hby d11_3) rfl ((if0 _ _).trans (feq hcs).1) ?_
    show Steps p.tables e below (T1.setTop (mkF m 6 #[.val (.ref sa)] [])) _
    refine XS.aloadN X1.here hx rfl (hb hby d11_6) rfl rfl ?_
    show Steps p.tables e below (T1.setTop (mkF m 7 #[.val (.ref sa)] [(.ref sa)])) _
    exact κ)
  obtain ⟨T4, X4, e4, st4⟩ := getF X1 hx hZ hown (host := "") (Or.inl (hw _ (List.mem_of_getElem? (i := 35) rfl))) Via.refl e1 Fc (g := (mkF m 7 #[.val (.ref sa)] [(.ref sa)])) rfl rfl (hb hby d11_7)
  have pre5 := fun τ (κ : Steps p.tables e below (T4.setTop (mkF m 10 #[.val (.ref sa)] [(.int cd)])) τ) => pre3 τ (st4 _ κ)
  have pre6 := fun τ (κ : Steps p.tables e below (T4.setTop (mkF m 14 #[.val (.ref sa)] [(.int cd)])) τ) => pre5 τ (by
    refine XS.goto X4.here hx rfl (pc0 := 10) (pc' := 14) rfl (hb hby d11_10) (by decide) (by decide) ?_
    show Steps p.tables e below (T4.setTop (mkF m 14 #[.val (.ref sa)] [(.int cd)])) _
    exact κ)
  obtain ⟨fs, hr, hrun, hended, hW, hsame⟩ := X4.leave (v := some (.int (nar .byte cd))) (fun h => by rw [Bd.returns] at h; cases h)
  refine ⟨_, _, pre6 _ ?_, hrun, hended, _, _, rfl, ?_, ⟨_, rfl⟩, hW, hsame.mono (by decide) (by decide)⟩
  · exact retN X4 hx (t := .byte) Bd.returns (by simp) (hb hby d11_14) hr
  · show Q11 Z sa cd zc fm h0 n0 _ T4.heap _
    rw [e4]
    exact ⟨(by rcases hcd with rfl | rfl <;> rfl), N0, rfl⟩
theorem ef_10 (m : MethodId) (sa : Addr) (n : Nat) (zc : Int32) (fm : Value) : entryFrame m #[(.ref sa)] 1 = mkF m 0 #[.val (.ref sa)] [] := by first | (simp [entryFrame, mkF, argsToLocals, Value.category]; done) | rfl
def Q10 (Z : State) (sa : Addr) (n : Nat) (f : Nat → Int32) (zc : Int32) (fm : Value) (h0 : Heap) (n0 : Nat) (v : Option Value) (h : Heap) (L : List Loc) : Prop := v = some (.int (Int32.ofNat n)) ∧ Fr n0 L ∧ h = h0
set_option maxRecDepth 65536 in
set_option maxHeartbeats 40000000 in
theorem rm10 (l : Launch) (Z : State) (a0 : Array Value) (hw : ∀ d ∈ tables_1, d.before a0 Z = true) (ws : List Jvm.Cond) (sa : Addr) (n : Nat) (f : Nat → Int32) (zc : Int32) (fm : Value) (h0 : Heap) (n0 : Nat) (Z0 : n0 ≤ h0.size) (O0 : Old Z n0 h0) (U0 : own_ST Z zc fm) (P0 : own_STR Z h0 sa f n) (hn : n ≤ 16) :
    MetFree l (⟨"java/lang/String", "length", "()I"⟩ : MethodName) (head1 (Jvm.Cond.code (⟨"java/lang/String", "length", "()I"⟩ : MethodName) jdk_42_method_54_code 1 (some .int) :: ws) ({ frames := 1, cells := 0, slots := 0, locals := 13 } : Room)) (fun α υ => α = #[(.ref sa)] ∧ Z.Warmed39 υ.vm ∧ υ.heap = h0) (fun _ _ _ _ _ => True) (fun _ υ ω υ' => ∃ v L, ω = .returned v ∧ Q10 Z sa n f zc fm h0 n0 v υ'.heap L ∧ FrameEnd υ ω υ' L ({ frames := 1, cells := 0, slots := 0, locals := 13 } : Room).cells ({ frames := 1, cells := 0, slots := 0, locals := 13 } : Room).slots) := by
  refine MetFree.of_bodySF (plainFor_of_name pn_java_lang_String) hisR ?_
  intro p e s m args below meth c s₁ Bd hml0 hP hK
  obtain ⟨rfl, hZ, hh⟩ := hP
  have hx := Bd.exec
  have hby := Bd.bytes
  have hml : c.maxLocals = 1 := hml0
  have hown : s.vm.findClass "java/lang/String" = some m.cls := findClass_of_methodNamed Bd.named
  have hnm := (name_of_methodNamed Bd.named Bd.method).1
  have X0 : Stand p l e ({ frames := 1, cells := 0, slots := 0, locals := 13 } : Room) s m #[(.ref sa)] below meth c s₁ [] 0 0 := Stand.of_body Bd
  have e0 : s₁.heap = h0 := by rw [← hh, Bd.state]; rfl
  have N0 := Fr.nil n0
  have pre0 : ∀ τ, Steps p.tables e below (s₁.setTop (mkF m 0 #[.val (.ref sa)] [])) τ → Steps p.tables e below (s₁.setTop (entryFrame m #[(.ref sa)] 1)) τ := fun τ κ => castTop (ef_10 m sa n zc fm) κ
  obtain ⟨Scs, hcs, Sad, Shi, Slo, Sfm, r_fm⟩ := id U0
  obtain ⟨tb, cd, E_s, Fv, Fc, B0⟩ := P0
  have hcd := B0.cd
  have pre1 := fun τ (κ : Steps p.tables e below (s₁.setTop (mkF m 1 #[.val (.ref sa)] [(.ref sa)])) τ) => pre0 τ (by
    refine XS.aloadN X0.here hx rfl (hb hby d10_0) rfl rfl ?_
    show Steps p.tables e below (s₁.setTop (mkF m 1 #[.val (.ref sa)] [(.ref sa)])) _
    exact κ)
  obtain ⟨T2, X2, e2, st2⟩ := getF X0 hx hZ hown (host := "") (Or.inl (hw _ (List.mem_of_getElem? (i := 37) rfl))) Via.refl e0 Fv (g := (mkF m 1 #[.val (.ref sa)] [(.ref sa)])) rfl rfl (hb hby d10_1)
  have pre3 := fun τ (κ : Steps p.tables e below (T2.setTop (mkF m 4 #[.val (.ref sa)] [(.ref tb)])) τ) => pre1 τ (st2 _ κ)
  obtain ⟨kb, ⟨rfl, -, Va⟩ | ⟨rfl, -, Va⟩⟩ := B0
  · obtain ⟨cl4, Ar4, -, S4, M4, -, -⟩ := id Va
    have pre5 := fun τ (κ : Steps p.tables e below (T2.setTop (mkF m 6 #[.val (.ref sa)] [(.ref sa), (.int (Int32.ofNat n))])) τ) => pre3 τ (by
      refine X2.arraylength hx (by rw [e2]; exact Ar4.1) (State.isArrayOf_alike hZ.alike Ar4.2.1) (g := (mkF m 4 #[.val (.ref sa)] [(.ref tb)])) rfl rfl (hb hby d10_4) _ ?_
      rw [len_of S4 M4]
      show Steps p.tables e below (T2.setTop (mkF m 5 #[.val (.ref sa)] [(.int (Int32.ofNat n))])) _
      refine XS.aloadN X2.here hx rfl (hb hby d10_5) rfl rfl ?_
      show Steps p.tables e below (T2.setTop (mkF m 6 #[.val (.ref sa)] [(.ref sa), (.int (Int32.ofNat n))])) _
      exact κ)
    obtain ⟨cq6, kq6, q6a, q6b, q6c⟩ := isOf hZ e2 E_s
    obtain ⟨_, _, ⟨T6, L6, k6, n6⟩, -, X6, ⟨Lc6, hQ6, l6, y6, z6⟩, st6⟩ := X2.virtualBack hx (y := (⟨"java/lang/String", "coder", "()B"⟩ : MethodName)) (z := (⟨"java/lang/String", "coder", "()B"⟩ : MethodName)) hown (mvT hZ (hw _ (List.mem_of_getElem? (i := 48) rfl))) (mvT hZ (hw _ (List.mem_of_getElem? (i := 49) rfl))) (notFace_of_selects (args := #[]) (mvT hZ (hw _ (List.mem_of_getElem? (i := 51) rfl)))) (mvT hZ (hw _ (List.mem_of_getElem? (i := 51) rfl))) (mvT hZ (hw _ (List.mem_of_getElem? (i := 50) rfl))) (by decide) (backOf (W := 1) (rm11 l Z a0 hw [] sa (0 : Int32) zc fm h0 n0 Z0 O0 U0 Fc (by decide)) hZ (hw _ (List.mem_of_getElem? (i := 52) rfl)) (hw _ (List.mem_of_getElem? (i := 12) rfl)) (Nat.le_of_ble_eq_true rfl) (Nat.le_of_ble_eq_true rfl)) q6a q6c (g := (mkF m 6 #[.val (.ref sa)] [(.ref sa), (.int (Int32.ofNat n))])) rfl (by rw [hml]; rfl) (Steps.refl _) (argsL := []) (rest := [(.int (Int32.ofNat n))]) (lenOf pd_8 rfl) rfl (by show 2 * 0 + _ ≤ _; exact Nat.le_of_eq rfl) (hb hby d10_6) (fun _ _ => ⟨rfl, e2, (by decide : 0 + 0 ≤ _), (by decide : 0 + 0 ≤ _)⟩)
    dsimp only [Pt.U, Pt.locs, Pt.cells, Pt.slots] at X6 l6 y6 z6 st6 hQ6
    subst l6 y6 z6
    obtain ⟨rfl, Nq6, hh6⟩ := hQ6
    have O0_6 : Old Z n0 T6.heap := by rw [hh6]; exact O0
    have E_s_6 : Exa Z T6.heap sa "java/lang/String" := by rw [hh6]; exact E_s
    have Fv_6 : Fld Z T6.heap sa "java/lang/String" "value" "[B" (.ref tb) := by rw [hh6]; exact Fv
    have Fc_6 : Fld Z T6.heap sa "java/lang/String" "coder" "B" (.int (0 : Int32)) := by rw [hh6]; exact Fc
    have Va_6 : Arv Z T6.heap tb kb .byte (Int32.ofNat n) (own_tab (own_l1 f) (n)) (.int (0 : Int32)) := by rw [hh6]; exact Va
    have Z6 : n0 ≤ T6.heap.size := by rw [hh6]; exact Z0
    have N6 := Fr.app N0 Nq6
    have pre7 := fun τ (κ : Steps p.tables e below (T6.setTop (mkF m 9 #[.val (.ref sa)] [(.int (0 : Int32)), (.int (Int32.ofNat n))])) τ) => pre5 τ (st6.trans κ)
    have pre8 := fun τ (κ : Steps p.tables e below (T6.setTop (mkF m 10 #[.val (.ref sa)] [(.int ((Int32.ofNat n) >>> ((0 : Int32) &&& 31)))])) τ) => pre7 τ (by
      refine XS.ishr X6.here hx rfl (hb hby d10_9) rfl ?_
      show Steps p.tables e below (T6.setTop (mkF m 10 #[.val (.ref sa)] [(.int ((Int32.ofNat n) >>> ((0 : Int32) &&& 31)))])) _
      exact κ)
    rw [show ((Int32.ofNat n) >>> ((0 : Int32) &&& 31)) = (Int32.ofNat n) from (own_shr0 _)] at pre8
    obtain ⟨fs, hr, hrun, hended, hW, hsame⟩ := X6.leave (v := some (.int (Int32.ofNat n))) (fun h => by rw [Bd.returns] at h; cases h)
    refine ⟨_, _, pre8 _ ?_, hrun, hended, _, _, rfl, ?_, ⟨_, rfl⟩, hW, hsame.mono (by decide) (by decide)⟩
    · exact retI X6 hx Bd.returns (hb hby d10_10) hr
    · show Q10 Z sa n f zc fm h0 n0 _ T6.heap _
      exact ⟨rfl, N6, hh6⟩
  · obtain ⟨cl9, Ar9, -, S9, M9, -, -⟩ := id Va
    have pre10 := fun τ (κ : Steps p.tables e below (T2.setTop (mkF m 6 #[.val (.ref sa)] [(.ref sa), (.int (Int32.ofNat (2 * n)))])) τ) => pre3 τ (by
      refine X2.arraylength hx (by rw [e2]; exact Ar9.1) (State.isArrayOf_alike hZ.alike Ar9.2.1) (g := (mkF m 4 #[.val (.ref sa)] [(.ref tb)])) rfl rfl (hb hby d10_4) _ ?_
      rw [len_of S9 M9]
      show Steps p.tables e below (T2.setTop (mkF m 5 #[.val (.ref sa)] [(.int (Int32.ofNat (2 * n)))])) _
      refine XS.aloadN X2.here hx rfl (hb hby d10_5) rfl rfl ?_
      show Steps p.tables e below (T2.setTop (mkF m 6 #[.val (.ref sa)] [(.ref sa), (.int (Int32.ofNat (2 * n)))])) _
      exact κ)
    obtain ⟨cq11, kq11, q11a, q11b, q11c⟩ := isOf hZ e2 E_s
    obtain ⟨_, _, ⟨T11, L11, k11, n11⟩, -, X11, ⟨Lc11, hQ11, l11, y11, z11⟩, st11⟩ := X2.virtualBack hx (y := (⟨"java/lang/String", "coder", "()B"⟩ : MethodName)) (z := (⟨"java/lang/String", "coder", "()B"⟩ : MethodName)) hown (mvT hZ (hw _ (List.mem_of_getElem? (i := 48) rfl))) (mvT hZ (hw _ (List.mem_of_getElem? (i := 49) rfl))) (notFace_of_selects (args := #[]) (mvT hZ (hw _ (List.mem_of_getElem? (i := 51) rfl)))) (mvT hZ (hw _ (List.mem_of_getElem? (i := 51) rfl))) (mvT hZ (hw _ (List.mem_of_getElem? (i := 50) rfl))) (by decide) (backOf (W := 1) (rm11 l Z a0 hw [] sa (1 : Int32) zc fm h0 n0 Z0 O0 U0 Fc (by decide)) hZ (hw _ (List.mem_of_getElem? (i := 52) rfl)) (hw _ (List.mem_of_getElem? (i := 12) rfl)) (Nat.le_of_ble_eq_true rfl) (Nat.le_of_ble_eq_true rfl)) q11a q11c (g := (mkF m 6 #[.val (.ref sa)] [(.ref sa), (.int (Int32.ofNat (2 * n)))])) rfl (by rw [hml]; rfl) (Steps.refl _) (argsL := []) (rest := [(.int (Int32.ofNat (2 * n)))]) (lenOf pd_8 rfl) rfl (by show 2 * 0 + _ ≤ _; exact Nat.le_of_eq rfl) (hb hby d10_6) (fun _ _ => ⟨rfl, e2, (by decide : 0 + 0 ≤ _), (by decide : 0 + 0 ≤ _)⟩)
    dsimp only [Pt.U, Pt.locs, Pt.cells, Pt.slots] at X11 l11 y11 z11 st11 hQ11
    subst l11 y11 z11
    obtain ⟨rfl, Nq11, hh11⟩ := hQ11
    have O0_11 : Old Z n0 T11.heap := by rw [hh11]; exact O0
    have E_s_11 : Exa Z T11.heap sa "java/lang/String" := by rw [hh11]; exact E_s
    have Fv_11 : Fld Z T11.heap sa "java/lang/String" "value" "[B" (.ref tb) := by rw [hh11]; exact Fv
    have Fc_11 : Fld Z T11.heap sa "java/lang/String" "coder" "B" (.int (1 : Int32)) := by rw [hh11]; exact Fc
    have Va_11 : Arv Z T11.heap tb kb .byte (Int32.ofNat (2 * n)) (own_tab (own_u16 f) (2 * n)) (.int (0 : Int32)) := by rw [hh11]; exact Va
    have Z11 : n0 ≤ T11.heap.size := by rw [hh11]; exact Z0
    have N11 := Fr.app N0 Nq11
    have pre12 := fun τ (κ : Steps p.tables e below (T11.setTop (mkF m 9 #[.val (.ref sa)] [(.int (1 : Int32)), (.int (Int32.ofNat (2 * n)))])) τ) => pre10 τ (st11.trans κ)
    have pre13 := fun τ (κ : Steps p.tables e below (T11.setTop (mkF m 10 #[.val (.ref sa)] [(.int ((Int32.ofNat (2 * n)) >>> ((1 : Int32) &&& 31)))])) τ) => pre12 τ (by
      refine XS.ishr X11.here hx rfl (hb hby d10_9) rfl ?_
      show Steps p.tables e below (T11.setTop (mkF m 10 #[.val (.ref sa)] [(.int ((Int32.ofNat (2 * n)) >>> ((1 : Int32) &&& 31)))])) _
      exact κ)
    rw [show ((Int32.ofNat (2 * n)) >>> ((1 : Int32) &&& 31)) = (Int32.ofNat n) from (own_shr1 (by omega))] at pre13
    obtain ⟨fs, hr, hrun, hended, hW, hsame⟩ := X11.leave (v := some (.int (Int32.ofNat n))) (fun h => by rw [Bd.returns] at h; cases h)
    refine ⟨_, _, pre13 _ ?_, hrun, hended, _, _, rfl, ?_, ⟨_, rfl⟩, hW, hsame.mono (by decide) (by decide)⟩
    · exact retI X11 hx Bd.returns (hb hby d10_10) hr
    · show Q10 Z sa n f zc fm h0 n0 _ T11.heap _
      exact ⟨rfl, N11, hh11⟩
theorem ef_13 (m : MethodId) (sa : Addr) (cd : Int32) (zc : Int32) (fm : Value) : entryFrame m #[(.ref sa)] 1 = mkF m 0 #[.val (.ref sa)] [] := by first | (simp [entryFrame, mkF, argsToLocals, Value.category]; done) | rfl
def Q13 (Z : State) (sa : Addr) (cd : Int32) (zc : Int32) (fm : Value) (h0 : Heap) (n0 : Nat) (v : Option Value) (h : Heap) (L : List Loc) : Prop := v = some (.int (if cd = 0 then 1 else 0)) ∧ Fr n0 L ∧ h = h0
set_option maxRecDepth 65536 in
set_option maxHeartbeats 40000000 in
theorem rm13 (l : Launch) (Z : State) (a0 : Array Value) (hw : ∀ d ∈ tables_1, d.before a0 Z = true) (ws : List Jvm.Cond) (sa : Addr) (cd : Int32) (zc : Int32) (fm : Value) (h0 : Heap) (n0 : Nat) (Z0 : n0 ≤ h0.size) (O0 : Old Z n0 h0) (U0 : own_ST Z zc fm) (Fc : Fld Z h0 sa "java/lang/String" "coder" "B" (.int cd)) :
    MetFree l (⟨"java/lang/String", "isLatin1", "()Z"⟩ : MethodName) (head1 (Jvm.Cond.code (⟨"java/lang/String", "isLatin1", "()Z"⟩ : MethodName) jdk_42_method_154_code 1 (some .boolean) :: ws) ({ frames := 0, cells := 0, slots := 0, locals := 0 } : Room)) (fun α υ => α = #[(.ref sa)] ∧ Z.Warmed39 υ.vm ∧ υ.heap = h0) (fun _ _ _ _ _ => True) (fun _ υ ω υ' => ∃ v L, ω = .returned v ∧ Q13 Z sa cd zc fm h0 n0 v υ'.heap L ∧ FrameEnd υ ω υ' L ({ frames := 0, cells := 0, slots := 0, locals := 0 } : Room).cells ({ frames := 0, cells := 0, slots := 0, locals := 0 } : Room).slots) := by
  refine MetFree.of_bodySF (plainFor_of_name pn_java_lang_String) hisR ?_
  intro p e s m args below meth c s₁ Bd hml0 hP hK
  obtain ⟨rfl, hZ, hh⟩ := hP
  have hx := Bd.exec
  have hby := Bd.bytes
  have hml : c.maxLocals = 1 := hml0
  have hown : s.vm.findClass "java/lang/String" = some m.cls := findClass_of_methodNamed Bd.named
  have hnm := (name_of_methodNamed Bd.named Bd.method).1
  have X0 : Stand p l e ({ frames := 0, cells := 0, slots := 0, locals := 0 } : Room) s m #[(.ref sa)] below meth c s₁ [] 0 0 := Stand.of_body Bd
  have e0 : s₁.heap = h0 := by rw [← hh, Bd.state]; rfl
  have N0 := Fr.nil n0
  have pre0 : ∀ τ, Steps p.tables e below (s₁.setTop (mkF m 0 #[.val (.ref sa)] [])) τ → Steps p.tables e below (s₁.setTop (entryFrame m #[(.ref sa)] 1)) τ := fun τ κ => castTop (ef_13 m sa cd zc fm) κ
  obtain ⟨Scs, hcs, Sad, Shi, Slo, Sfm, r_fm⟩ := id U0
  obtain ⟨T1, X1, e1, st1⟩ := getS2 X0 hx hZ hown (host := "") (Or.inl (hw _ (List.mem_of_getElem? (i := 23) rfl))) Via.refl e0 (Scs.ext O0.2) (g := (mkF m 0 #[.val (.ref sa)] [])) rfl (hb hby d13_0)
  have pre2 := fun τ (κ : Steps p.tables e below (T1.setTop (mkF m 3 #[.val (.ref sa)] [(.int zc)])) τ) => pre0 τ (st1 _ κ)
  have pre3 := fun τ (κ : Steps p.tables e below (T1.setTop (mkF m 7 #[.val (.ref sa)] [(.ref sa)])) τ) => pre2 τ (by
    refine XS.ifNo X1.here hx rfl (hb hby d13_3) rfl ((if0 _ _).trans (feq hcs).1) ?_
    show Steps p.tables e below (T1.setTop (mkF m 6 #[.val (.ref sa)] [])) _
    refine XS.aloadN X1.here hx rfl (hb hby d13_6) rfl rfl ?_
    show Steps p.tables e below (T1.setTop (mkF m 7 #[.val (.ref sa)] [(.ref sa)])) _
    exact κ)
  obtain ⟨T4, X4, e4, st4⟩ := getF X1 hx hZ hown (host := "") (Or.inl (hw _ (List.mem_of_getElem? (i := 35) rfl))) Via.refl e1 Fc (g := (mkF m 7 #[.val (.ref sa)] [(.ref sa)])) rfl rfl (hb hby d13_7)
  have pre5 := fun τ (κ : Steps p.tables e below (T4.setTop (mkF m 10 #[.val (.ref sa)] [(.int cd)])) τ) => pre3 τ (st4 _ κ)
  by_cases hq : cd = (0 : Int32)
  · have pre6 := fun τ (κ : Steps p.tables e below (T4.setTop (mkF m 18 #[.val (.ref sa)] [(.int (1 : Int32))])) τ) => pre5 τ (by
      refine XS.ifNo X4.here hx rfl (hb hby d13_10) rfl ((if0 _ _).trans (teq hq).2) ?_
      show Steps p.tables e below (T4.setTop (mkF m 13 #[.val (.ref sa)] [])) _
      refine XS.iconst X4.here hx rfl (hb hby d13_13) ?_
      refine XS.goto X4.here hx rfl (pc0 := 14) (pc' := 18) rfl (hb hby d13_14) (by decide) (by decide) ?_
      show Steps p.tables e below (T4.setTop (mkF m 18 #[.val (.ref sa)] [(.int (1 : Int32))])) _
      exact κ)
    obtain ⟨fs, hr, hrun, hended, hW, hsame⟩ := X4.leave (v := some (.int (1 : Int32))) (fun h => by rw [Bd.returns] at h; cases h)
    refine ⟨_, _, pre6 _ ?_, hrun, hended, _, _, rfl, ?_, ⟨_, rfl⟩, hW, hsame.mono (by decide) (by decide)⟩
    · exact retN X4 hx (t := .boolean) Bd.returns (by simp) (hb hby d13_18) hr
    · show Q13 Z sa cd zc fm h0 n0 _ T4.heap _
      rw [e4]
      exact ⟨(by rw [if_pos hq]), N0, rfl⟩
  · have pre7 := fun τ (κ : Steps p.tables e below (T4.setTop (mkF m 18 #[.val (.ref sa)] [(.int (0 : Int32))])) τ) => pre5 τ (by
      refine XS.ifYes X4.here hx rfl (pc0 := 10) (pc' := 17) rfl (hb hby d13_10) rfl ((if0 _ _).trans (feq hq).2) (by decide) (by decide) ?_
      show Steps p.tables e below (T4.setTop (mkF m 17 #[.val (.ref sa)] [])) _
      refine XS.iconst X4.here hx rfl (hb hby d13_17) ?_
      show Steps p.tables e below (T4.setTop (mkF m 18 #[.val (.ref sa)] [(.int (0 : Int32))])) _
      exact κ)
    obtain ⟨fs, hr, hrun, hended, hW, hsame⟩ := X4.leave (v := some (.int (0 : Int32))) (fun h => by rw [Bd.returns] at h; cases h)
    refine ⟨_, _, pre7 _ ?_, hrun, hended, _, _, rfl, ?_, ⟨_, rfl⟩, hW, hsame.mono (by decide) (by decide)⟩
    · exact retN X4 hx (t := .boolean) Bd.returns (by simp) (hb hby d13_18) hr
    · show Q13 Z sa cd zc fm h0 n0 _ T4.heap _
      rw [e4]
      exact ⟨(by rw [if_neg hq]), N0, rfl⟩
theorem ef_16 (m : MethodId) (i : Nat) (n : Nat) (fm : Value) (r_fm : fm.isRef = true) : entryFrame m #[(.int (Int32.ofNat i)), (.int (Int32.ofNat n)), fm] 3 = mkF m 0 #[.val (.int (Int32.ofNat i)), .val (.int (Int32.ofNat n)), .val fm] [] := by rcases ref_cases r_fm with rfl | ⟨a, rfl⟩ <;> rfl
def Q16 (Z : State) (i : Nat) (n : Nat) (fm : Value) (h0 : Heap) (n0 : Nat) (v : Option Value) (h : Heap) (L : List Loc) : Prop := v = some (.int (Int32.ofNat i)) ∧ Fr n0 L ∧ h = h0
set_option maxRecDepth 65536 in
set_option maxHeartbeats 40000000 in
theorem rm16 (l : Launch) (Z : State) (a0 : Array Value) (hw : ∀ d ∈ tables_1, d.before a0 Z = true) (ws : List Jvm.Cond) (i : Nat) (n : Nat) (fm : Value) (h0 : Heap) (n0 : Nat) (Z0 : n0 ≤ h0.size) (r_fm : fm.isRef = true) (hn : n ≤ 16) (hi : i < n) :
    MetFree l (⟨"jdk/internal/util/Preconditions", "checkIndex", "(IILjava/util/function/BiFunction;)I"⟩ : MethodName) (head1 (Jvm.Cond.code (⟨"jdk/internal/util/Preconditions", "checkIndex", "(IILjava/util/function/BiFunction;)I"⟩ : MethodName) jdk_41_method_11_code 3 (some .int) :: ws) ({ frames := 0, cells := 0, slots := 0, locals := 0 } : Room)) (fun α υ => α = #[(.int (Int32.ofNat i)), (.int (Int32.ofNat n)), fm] ∧ Z.Warmed39 υ.vm ∧ υ.heap = h0) (fun _ _ _ _ _ => True) (fun _ υ ω υ' => ∃ v L, ω = .returned v ∧ Q16 Z i n fm h0 n0 v υ'.heap L ∧ FrameEnd υ ω υ' L ({ frames := 0, cells := 0, slots := 0, locals := 0 } : Room).cells ({ frames := 0, cells := 0, slots := 0, locals := 0 } : Room).slots) := by
  refine MetFree.of_bodySF (plainFor_of_name pn_jdk_internal_util_Preconditions) hisR ?_
  intro p e s m args below meth c s₁ Bd hml0 hP hK
  obtain ⟨rfl, hZ, hh⟩ := hP
  have hx := Bd.exec
  have hby := Bd.bytes
  have hml : c.maxLocals = 3 := hml0
  have hown : s.vm.findClass "jdk/internal/util/Preconditions" = some m.cls := findClass_of_methodNamed Bd.named
  have hnm := (name_of_methodNamed Bd.named Bd.method).1
  have X0 : Stand p l e ({ frames := 0, cells := 0, slots := 0, locals := 0 } : Room) s m #[(.int (Int32.ofNat i)), (.int (Int32.ofNat n)), fm] below meth c s₁ [] 0 0 := Stand.of_body Bd
  have e0 : s₁.heap = h0 := by rw [← hh, Bd.state]; rfl
  have N0 := Fr.nil n0
  have pre0 : ∀ τ, Steps p.tables e below (s₁.setTop (mkF m 0 #[.val (.int (Int32.ofNat i)), .val (.int (Int32.ofNat n)), .val fm] [])) τ → Steps p.tables e below (s₁.setTop (entryFrame m #[(.int (Int32.ofNat i)), (.int (Int32.ofNat n)), fm] 3)) τ := fun τ κ => castTop (ef_16 m i n fm r_fm) κ
  have pre1 := fun τ (κ : Steps p.tables e below (s₁.setTop (mkF m 17 #[.val (.int (Int32.ofNat i)), .val (.int (Int32.ofNat n)), .val fm] [(.int (Int32.ofNat i))])) τ) => pre0 τ (by
    refine XS.iloadN X0.here hx rfl (hb hby d16_0) rfl ?_
    refine XS.ifNo X0.here hx rfl (hb hby d16_1) rfl ((if0 _ _).trans (flt (own_nn (by omega))).1) ?_
    show Steps p.tables e below (s₁.setTop (mkF m 4 #[.val (.int (Int32.ofNat i)), .val (.int (Int32.ofNat n)), .val fm] [])) _
    refine XS.iloadN X0.here hx rfl (hb hby d16_4) rfl ?_
    refine XS.iloadN X0.here hx rfl (hb hby d16_5) rfl ?_
    refine XS.icmpYes X0.here hx rfl (pc0 := 6) (pc' := 16) rfl (hb hby d16_6) rfl (tlt ((own_ltN (by omega) (by omega)).mpr hi)).1 (by decide) (by decide) ?_
    show Steps p.tables e below (s₁.setTop (mkF m 16 #[.val (.int (Int32.ofNat i)), .val (.int (Int32.ofNat n)), .val fm] [])) _
    refine XS.iloadN X0.here hx rfl (hb hby d16_16) rfl ?_
    show Steps p.tables e below (s₁.setTop (mkF m 17 #[.val (.int (Int32.ofNat i)), .val (.int (Int32.ofNat n)), .val fm] [(.int (Int32.ofNat i))])) _
    exact κ)
  obtain ⟨fs, hr, hrun, hended, hW, hsame⟩ := X0.leave (v := some (.int (Int32.ofNat i))) (fun h => by rw [Bd.returns] at h; cases h)
  refine ⟨_, _, pre1 _ ?_, hrun, hended, _, _, rfl, ?_, ⟨_, rfl⟩, hW, hsame.mono (by decide) (by decide)⟩
  · exact retI X0 hx Bd.returns (hb hby d16_17) hr
  · show Q16 Z i n fm h0 n0 _ s₁.heap _
    rw [e0]
    exact ⟨rfl, N0, rfl⟩
theorem ef_15 (m : MethodId) (i : Nat) (n : Nat) (zc : Int32) (fm : Value) : entryFrame m #[(.int (Int32.ofNat i)), (.int (Int32.ofNat n))] 2 = mkF m 0 #[.val (.int (Int32.ofNat i)), .val (.int (Int32.ofNat n))] [] := by first | (simp [entryFrame, mkF, argsToLocals, Value.category]; done) | rfl
def Q15 (Z : State) (i : Nat) (n : Nat) (zc : Int32) (fm : Value) (h0 : Heap) (n0 : Nat) (v : Option Value) (h : Heap) (L : List Loc) : Prop := v = none ∧ Fr n0 L ∧ h = h0
set_option maxRecDepth 65536 in
set_option maxHeartbeats 40000000 in
theorem rm15 (l : Launch) (Z : State) (a0 : Array Value) (hw : ∀ d ∈ tables_1, d.before a0 Z = true) (ws : List Jvm.Cond) (i : Nat) (n : Nat) (zc : Int32) (fm : Value) (h0 : Heap) (n0 : Nat) (Z0 : n0 ≤ h0.size) (O0 : Old Z n0 h0) (U0 : own_ST Z zc fm) (hn : n ≤ 16) (hi : i < n) :
    MetFree l (⟨"java/lang/String", "checkIndex", "(II)V"⟩ : MethodName) (head1 (Jvm.Cond.code (⟨"java/lang/String", "checkIndex", "(II)V"⟩ : MethodName) jdk_42_method_155_code 2 none :: ws) ({ frames := 1, cells := 0, slots := 0, locals := 14 } : Room)) (fun α υ => α = #[(.int (Int32.ofNat i)), (.int (Int32.ofNat n))] ∧ Z.Warmed39 υ.vm ∧ υ.heap = h0) (fun _ _ _ _ _ => True) (fun _ υ ω υ' => ∃ v L, ω = .returned v ∧ Q15 Z i n zc fm h0 n0 v υ'.heap L ∧ FrameEnd υ ω υ' L ({ frames := 1, cells := 0, slots := 0, locals := 14 } : Room).cells ({ frames := 1, cells := 0, slots := 0, locals := 14 } : Room).slots) := by
  refine MetFree.of_bodySF (plainFor_of_name pn_java_lang_String) hisR ?_
  intro p e s m args below meth c s₁ Bd hml0 hP hK
  obtain ⟨rfl, hZ, hh⟩ := hP
  have hx := Bd.exec
  have hby := Bd.bytes
  have hml : c.maxLocals = 2 := hml0
  have hown : s.vm.findClass "java/lang/String" = some m.cls := findClass_of_methodNamed Bd.named
  have hnm := (name_of_methodNamed Bd.named Bd.method).1
  have X0 : Stand p l e ({ frames := 1, cells := 0, slots := 0, locals := 14 } : Room) s m #[(.int (Int32.ofNat i)), (.int (Int32.ofNat n))] below meth c s₁ [] 0 0 := Stand.of_body Bd
  have e0 : s₁.heap = h0 := by rw [← hh, Bd.state]; rfl
  have N0 := Fr.nil n0
  have pre0 : ∀ τ, Steps p.tables e below (s₁.setTop (mkF m 0 #[.val (.int (Int32.ofNat i)), .val (.int (Int32.ofNat n))] [])) τ → Steps p.tables e below (s₁.setTop (entryFrame m #[(.int (Int32.ofNat i)), (.int (Int32.ofNat n))] 2)) τ := fun τ κ => castTop (ef_15 m i n zc fm) κ
  obtain ⟨Scs, hcs, Sad, Shi, Slo, Sfm, r_fm⟩ := id U0
  have pre1 := fun τ (κ : Steps p.tables e below (s₁.setTop (mkF m 2 #[.val (.int (Int32.ofNat i)), .val (.int (Int32.ofNat n))] [(.int (Int32.ofNat n)), (.int (Int32.ofNat i))])) τ) => pre0 τ (by
    refine XS.iloadN X0.here hx rfl (hb hby d15_0) rfl ?_
    refine XS.iloadN X0.here hx rfl (hb hby d15_1) rfl ?_
    show Steps p.tables e below (s₁.setTop (mkF m 2 #[.val (.int (Int32.ofNat i)), .val (.int (Int32.ofNat n))] [(.int (Int32.ofNat n)), (.int (Int32.ofNat i))])) _
    exact κ)
  obtain ⟨T2, X2, e2, st2⟩ := getS2 X0 hx hZ hown (host := "") (Or.inl (hw _ (List.mem_of_getElem? (i := 70) rfl))) Via.refl e0 (Sfm.ext O0.2) (g := (mkF m 2 #[.val (.int (Int32.ofNat i)), .val (.int (Int32.ofNat n))] [(.int (Int32.ofNat n)), (.int (Int32.ofNat i))])) rfl (hb hby d15_2)
  have pre3 := fun τ (κ : Steps p.tables e below (T2.setTop (mkF m 5 #[.val (.int (Int32.ofNat i)), .val (.int (Int32.ofNat n))] [fm, (.int (Int32.ofNat n)), (.int (Int32.ofNat i))])) τ) => pre1 τ (st2 _ κ)
  obtain ⟨_, _, ⟨T4, L4, k4, n4⟩, -, X4, ⟨Lc4, hQ4, l4, y4, z4⟩, st4⟩ := Jvm.LawKit.callS X2 hx (y := (⟨"jdk/internal/util/Preconditions", "checkIndex", "(IILjava/util/function/BiFunction;)I"⟩ : MethodName)) hown (mvT hZ (hw _ (List.mem_of_getElem? (i := 72) rfl))) (mvT hZ (hw _ (List.mem_of_getElem? (i := 73) rfl))) (mvT hZ (hw _ (List.mem_of_getElem? (i := 71) rfl))) (mvT hZ (hw _ (List.mem_of_getElem? (i := 74) rfl))) (by decide) (backOf (W := 0) (rm16 l Z a0 hw [] i n fm h0 n0 Z0 r_fm hn hi) hZ (hw _ (List.mem_of_getElem? (i := 74) rfl)) (hw _ (List.mem_of_getElem? (i := 71) rfl)) (Nat.le_of_ble_eq_true rfl) (Nat.le_of_ble_eq_true rfl)) (g := (mkF m 5 #[.val (.int (Int32.ofNat i)), .val (.int (Int32.ofNat n))] [fm, (.int (Int32.ofNat n)), (.int (Int32.ofNat i))])) rfl (by rw [hml]; rfl) (argsL := [(.int (Int32.ofNat i)), (.int (Int32.ofNat n)), fm]) (rest := []) (lenOf pd_9 rfl) rfl (by show 2 * 0 + _ ≤ _; exact Nat.le_of_eq rfl) (hb hby d15_5) (fun _ _ => ⟨rfl, e2, (by decide : 0 + 0 ≤ _), (by decide : 0 + 0 ≤ _)⟩)
  dsimp only [Pt.U, Pt.locs, Pt.cells, Pt.slots] at X4 l4 y4 z4 st4 hQ4
  subst l4 y4 z4
  obtain ⟨rfl, Nq4, hh4⟩ := hQ4
  have O0_4 : Old Z n0 T4.heap := by rw [hh4]; exact O0
  have Z4 : n0 ≤ T4.heap.size := by rw [hh4]; exact Z0
  have N4 := Fr.app N0 Nq4
  have pre5 := fun τ (κ : Steps p.tables e below (T4.setTop (mkF m 8 #[.val (.int (Int32.ofNat i)), .val (.int (Int32.ofNat n))] [(.int (Int32.ofNat i))])) τ) => pre3 τ (st4 _ κ)
  have pre6 := fun τ (κ : Steps p.tables e below (T4.setTop (mkF m 9 #[.val (.int (Int32.ofNat i)), .val (.int (Int32.ofNat n))] [])) τ) => pre5 τ (by
    refine XS.pop X4.here hx rfl (hb hby d15_8) rfl rfl ?_
    show Steps p.tables e below (T4.setTop (mkF m 9 #[.val (.int (Int32.ofNat i)), .val (.int (Int32.ofNat n))] [])) _
    exact κ)
  obtain ⟨fs, hr, hrun, hended, hW, hsame⟩ := X4.leave (v := none) (fun _ => rfl)
  refine ⟨_, _, pre6 _ ?_, hrun, hended, _, _, rfl, ?_, ⟨_, rfl⟩, hW, hsame.mono (by decide) (by decide)⟩
  · exact X4.returnOut hx Bd.returns (hb hby d15_9) hr
  · show Q15 Z i n zc fm h0 n0 _ T4.heap _
    exact ⟨rfl, N4, hh4⟩
theorem ef_24 (m : MethodId) (db : Addr) (n : Nat) : entryFrame m #[(.ref db)] 1 = mkF m 0 #[.val (.ref db)] [] := by first | (simp [entryFrame, mkF, argsToLocals, Value.category]; done) | rfl
def Q24 (Z : State) (db : Addr) (n : Nat) (kb : ClassId) (g : Nat → Int32) (h0 : Heap) (n0 : Nat) (v : Option Value) (h : Heap) (L : List Loc) : Prop := v = some (.int (Int32.ofNat n)) ∧ Fr n0 L ∧ h = h0
set_option maxRecDepth 65536 in
set_option maxHeartbeats 40000000 in
theorem rm24 (l : Launch) (Z : State) (a0 : Array Value) (hw : ∀ d ∈ tables_1, d.before a0 Z = true) (ws : List Jvm.Cond) (db : Addr) (n : Nat) (kb : ClassId) (g : Nat → Int32) (h0 : Heap) (n0 : Nat) (Z0 : n0 ≤ h0.size) (Va : Arv Z h0 db kb .byte (Int32.ofNat (2 * n)) (own_tab g (2 * n)) (.int (0 : Int32))) (hn : n ≤ 16) :
    MetFree l (⟨"java/lang/StringUTF16", "length", "([B)I"⟩ : MethodName) (head1 (Jvm.Cond.code (⟨"java/lang/StringUTF16", "length", "([B)I"⟩ : MethodName) jdk_52_method_6_code 1 (some .int) :: ws) ({ frames := 0, cells := 0, slots := 0, locals := 0 } : Room)) (fun α υ => α = #[(.ref db)] ∧ Z.Warmed39 υ.vm ∧ υ.heap = h0) (fun _ _ _ _ _ => True) (fun _ υ ω υ' => ∃ v L, ω = .returned v ∧ Q24 Z db n kb g h0 n0 v υ'.heap L ∧ FrameEnd υ ω υ' L ({ frames := 0, cells := 0, slots := 0, locals := 0 } : Room).cells ({ frames := 0, cells := 0, slots := 0, locals := 0 } : Room).slots) := by
  refine MetFree.of_bodySF (plainFor_of_name pn_java_lang_StringUTF16) hisR ?_
  intro p e s m args below meth c s₁ Bd hml0 hP hK
  obtain ⟨rfl, hZ, hh⟩ := hP
  have hx := Bd.exec
  have hby := Bd.bytes
  have hml : c.maxLocals = 1 := hml0
  have hown : s.vm.findClass "java/lang/StringUTF16" = some m.cls := findClass_of_methodNamed Bd.named
  have hnm := (name_of_methodNamed Bd.named Bd.method).1
  have X0 : Stand p l e ({ frames := 0, cells := 0, slots := 0, locals := 0 } : Room) s m #[(.ref db)] below meth c s₁ [] 0 0 := Stand.of_body Bd
  have e0 : s₁.heap = h0 := by rw [← hh, Bd.state]; rfl
  have N0 := Fr.nil n0
  have pre0 : ∀ τ, Steps p.tables e below (s₁.setTop (mkF m 0 #[.val (.ref db)] [])) τ → Steps p.tables e below (s₁.setTop (entryFrame m #[(.ref db)] 1)) τ := fun τ κ => castTop (ef_24 m db n) κ
  have pre1 := fun τ (κ : Steps p.tables e below (s₁.setTop (mkF m 1 #[.val (.ref db)] [(.ref db)])) τ) => pre0 τ (by
    refine XS.aloadN X0.here hx rfl (hb hby d24_0) rfl rfl ?_
    show Steps p.tables e below (s₁.setTop (mkF m 1 #[.val (.ref db)] [(.ref db)])) _
    exact κ)
  obtain ⟨cl2, Ar2, -, S2, M2, -, -⟩ := id Va
  have pre3 := fun τ (κ : Steps p.tables e below (s₁.setTop (mkF m 4 #[.val (.ref db)] [(.int ((Int32.ofNat (2 * n)) >>> ((1 : Int32) &&& 31)))])) τ) => pre1 τ (by
    refine X0.arraylength hx (by rw [e0]; exact Ar2.1) (State.isArrayOf_alike hZ.alike Ar2.2.1) (g := (mkF m 1 #[.val (.ref db)] [(.ref db)])) rfl rfl (hb hby d24_1) _ ?_
    rw [len_of S2 M2]
    show Steps p.tables e below (s₁.setTop (mkF m 2 #[.val (.ref db)] [(.int (Int32.ofNat (2 * n)))])) _
    refine XS.iconst X0.here hx rfl (hb hby d24_2) ?_
    refine XS.ishr X0.here hx rfl (hb hby d24_3) rfl ?_
    show Steps p.tables e below (s₁.setTop (mkF m 4 #[.val (.ref db)] [(.int ((Int32.ofNat (2 * n)) >>> ((1 : Int32) &&& 31)))])) _
    exact κ)
  rw [show ((Int32.ofNat (2 * n)) >>> ((1 : Int32) &&& 31)) = (Int32.ofNat n) from (own_shr1 (by omega))] at pre3
  obtain ⟨fs, hr, hrun, hended, hW, hsame⟩ := X0.leave (v := some (.int (Int32.ofNat n))) (fun h => by rw [Bd.returns] at h; cases h)
  refine ⟨_, _, pre3 _ ?_, hrun, hended, _, _, rfl, ?_, ⟨_, rfl⟩, hW, hsame.mono (by decide) (by decide)⟩
  · exact retI X0 hx Bd.returns (hb hby d24_4) hr
  · show Q24 Z db n kb g h0 n0 _ s₁.heap _
    rw [e0]
    exact ⟨rfl, N0, rfl⟩
theorem ef_23 (m : MethodId) (i : Nat) (db : Addr) (n : Nat) (zc : Int32) (fm : Value) : entryFrame m #[(.int (Int32.ofNat i)), (.ref db)] 2 = mkF m 0 #[.val (.int (Int32.ofNat i)), .val (.ref db)] [] := by first | (simp [entryFrame, mkF, argsToLocals, Value.category]; done) | rfl
def Q23 (Z : State) (i : Nat) (db : Addr) (n : Nat) (kb : ClassId) (g : Nat → Int32) (zc : Int32) (fm : Value) (h0 : Heap) (n0 : Nat) (v : Option Value) (h : Heap) (L : List Loc) : Prop := v = none ∧ Fr n0 L ∧ h = h0
set_option maxRecDepth 65536 in
set_option maxHeartbeats 40000000 in
theorem rm23 (l : Launch) (Z : State) (a0 : Array Value) (hw : ∀ d ∈ tables_1, d.before a0 Z = true) (ws : List Jvm.Cond) (i : Nat) (db : Addr) (n : Nat) (kb : ClassId) (g : Nat → Int32) (zc : Int32) (fm : Value) (h0 : Heap) (n0 : Nat) (Z0 : n0 ≤ h0.size) (O0 : Old Z n0 h0) (U0 : own_ST Z zc fm) (Va : Arv Z h0 db kb .byte (Int32.ofNat (2 * n)) (own_tab g (2 * n)) (.int (0 : Int32))) (hn : n ≤ 16) (hi : i < n) :
    MetFree l (⟨"java/lang/StringUTF16", "checkIndex", "(I[B)V"⟩ : MethodName) (head1 (Jvm.Cond.code (⟨"java/lang/StringUTF16", "checkIndex", "(I[B)V"⟩ : MethodName) jdk_52_method_91_code 2 none :: ws) ({ frames := 2, cells := 0, slots := 0, locals := 27 } : Room)) (fun α υ => α = #[(.int (Int32.ofNat i)), (.ref db)] ∧ Z.Warmed39 υ.vm ∧ υ.heap = h0) (fun _ _ _ _ _ => True) (fun _ υ ω υ' => ∃ v L, ω = .returned v ∧ Q23 Z i db n kb g zc fm h0 n0 v υ'.heap L ∧ FrameEnd υ ω υ' L ({ frames := 2, cells := 0, slots := 0, locals := 27 } : Room).cells ({ frames := 2, cells := 0, slots := 0, locals := 27 } : Room).slots) := by
  refine MetFree.of_bodySF (plainFor_of_name pn_java_lang_StringUTF16) hisR ?_
  intro p e s m args below meth c s₁ Bd hml0 hP hK
  obtain ⟨rfl, hZ, hh⟩ := hP
  have hx := Bd.exec
  have hby := Bd.bytes
  have hml : c.maxLocals = 2 := hml0
  have hown : s.vm.findClass "java/lang/StringUTF16" = some m.cls := findClass_of_methodNamed Bd.named
  have hnm := (name_of_methodNamed Bd.named Bd.method).1
  have X0 : Stand p l e ({ frames := 2, cells := 0, slots := 0, locals := 27 } : Room) s m #[(.int (Int32.ofNat i)), (.ref db)] below meth c s₁ [] 0 0 := Stand.of_body Bd
  have e0 : s₁.heap = h0 := by rw [← hh, Bd.state]; rfl
  have N0 := Fr.nil n0
  have pre0 : ∀ τ, Steps p.tables e below (s₁.setTop (mkF m 0 #[.val (.int (Int32.ofNat i)), .val (.ref db)] [])) τ → Steps p.tables e below (s₁.setTop (entryFrame m #[(.int (Int32.ofNat i)), (.ref db)] 2)) τ := fun τ κ => castTop (ef_23 m i db n zc fm) κ
  have pre1 := fun τ (κ : Steps p.tables e below (s₁.setTop (mkF m 2 #[.val (.int (Int32.ofNat i)), .val (.ref db)] [(.ref db), (.int (Int32.ofNat i))])) τ) => pre0 τ (by
    refine XS.iloadN X0.here hx rfl (hb hby d23_0) rfl ?_
    refine XS.aloadN X0.here hx rfl (hb hby d23_1) rfl rfl ?_
    show Steps p.tables e below (s₁.setTop (mkF m 2 #[.val (.int (Int32.ofNat i)), .val (.ref db)] [(.ref db), (.int (Int32.ofNat i))])) _
    exact κ)
  obtain ⟨_, _, ⟨T2, L2, k2, n2⟩, -, X2, ⟨Lc2, hQ2, l2, y2, z2⟩, st2⟩ := Jvm.LawKit.callS X0 hx (y := (⟨"java/lang/StringUTF16", "length", "([B)I"⟩ : MethodName)) hown (mvT hZ (hw _ (List.mem_of_getElem? (i := 105) rfl))) (mvT hZ (hw _ (List.mem_of_getElem? (i := 106) rfl))) (mvT hZ (hw _ (List.mem_of_getElem? (i := 26) rfl))) (mvT hZ (hw _ (List.mem_of_getElem? (i := 107) rfl))) (by decide) (backOf (W := 1) (rm24 l Z a0 hw [] db n kb g h0 n0 Z0 Va hn) hZ (hw _ (List.mem_of_getElem? (i := 107) rfl)) (hw _ (List.mem_of_getElem? (i := 26) rfl)) (Nat.le_of_ble_eq_true rfl) (Nat.le_of_ble_eq_true rfl)) (g := (mkF m 2 #[.val (.int (Int32.ofNat i)), .val (.ref db)] [(.ref db), (.int (Int32.ofNat i))])) rfl (by rw [hml]; rfl) (argsL := [(.ref db)]) (rest := [(.int (Int32.ofNat i))]) (lenOf pd_10 rfl) rfl (by show 2 * 0 + _ ≤ _; exact Nat.le_of_eq rfl) (hb hby d23_2) (fun _ _ => ⟨rfl, e0, (by decide : 0 + 0 ≤ _), (by decide : 0 + 0 ≤ _)⟩)
  dsimp only [Pt.U, Pt.locs, Pt.cells, Pt.slots] at X2 l2 y2 z2 st2 hQ2
  subst l2 y2 z2
  obtain ⟨rfl, Nq2, hh2⟩ := hQ2
  have O0_2 : Old Z n0 T2.heap := by rw [hh2]; exact O0
  have Va_2 : Arv Z T2.heap db kb .byte (Int32.ofNat (2 * n)) (own_tab g (2 * n)) (.int (0 : Int32)) := by rw [hh2]; exact Va
  have Z2 : n0 ≤ T2.heap.size := by rw [hh2]; exact Z0
  have N2 := Fr.app N0 Nq2
  have pre3 := fun τ (κ : Steps p.tables e below (T2.setTop (mkF m 5 #[.val (.int (Int32.ofNat i)), .val (.ref db)] [(.int (Int32.ofNat n)), (.int (Int32.ofNat i))])) τ) => pre1 τ (st2 _ κ)
  obtain ⟨_, _, ⟨T4, L4, k4, n4⟩, -, X4, ⟨Lc4, hQ4, l4, y4, z4⟩, st4⟩ := Jvm.LawKit.callS X2 hx (y := (⟨"java/lang/String", "checkIndex", "(II)V"⟩ : MethodName)) hown (mvT hZ (hw _ (List.mem_of_getElem? (i := 108) rfl))) (mvT hZ (hw _ (List.mem_of_getElem? (i := 68) rfl))) (mvT hZ (hw _ (List.mem_of_getElem? (i := 12) rfl))) (mvT hZ (hw _ (List.mem_of_getElem? (i := 69) rfl))) (by decide) (backOf (W := 0) (rm15 l Z a0 hw [] i n zc fm T2.heap n0 Z2 O0_2 U0 hn hi) hZ (hw _ (List.mem_of_getElem? (i := 69) rfl)) (hw _ (List.mem_of_getElem? (i := 12) rfl)) (Nat.le_of_ble_eq_true rfl) (Nat.le_of_ble_eq_true rfl)) (g := (mkF m 5 #[.val (.int (Int32.ofNat i)), .val (.ref db)] [(.int (Int32.ofNat n)), (.int (Int32.ofNat i))])) rfl (by rw [hml]; rfl) (argsL := [(.int (Int32.ofNat i)), (.int (Int32.ofNat n))]) (rest := []) (lenOf pd_11 rfl) rfl (by show 2 * 0 + _ ≤ _; exact Nat.le_of_eq rfl) (hb hby d23_5) (fun _ _ => ⟨rfl, rfl, (by decide : 0 + 0 ≤ _), (by decide : 0 + 0 ≤ _)⟩)
  dsimp only [Pt.U, Pt.locs, Pt.cells, Pt.slots] at X4 l4 y4 z4 st4 hQ4
  subst l4 y4 z4
  obtain ⟨rfl, Nq4, hh4⟩ := hQ4
  have O0_4 : Old Z n0 T4.heap := by rw [hh4]; exact O0_2
  have Va_4 : Arv Z T4.heap db kb .byte (Int32.ofNat (2 * n)) (own_tab g (2 * n)) (.int (0 : Int32)) := by rw [hh4]; exact Va_2
  have Z4 : n0 ≤ T4.heap.size := by rw [hh4]; exact Z2
  have N4 := Fr.app N2 Nq4
  have pre5 := fun τ (κ : Steps p.tables e below (T4.setTop (mkF m 8 #[.val (.int (Int32.ofNat i)), .val (.ref db)] [])) τ) => pre3 τ (st4 _ κ)
  obtain ⟨fs, hr, hrun, hended, hW, hsame⟩ := X4.leave (v := none) (fun _ => rfl)
  refine ⟨_, _, pre5 _ ?_, hrun, hended, _, _, rfl, ?_, ⟨_, rfl⟩, hW, hsame.mono (by decide) (by decide)⟩
  · exact X4.returnOut hx Bd.returns (hb hby d23_8) hr
  · show Q23 Z i db n kb g zc fm h0 n0 _ T4.heap _
    exact ⟨rfl, N4, (hh4.trans hh2)⟩
theorem ef_22 (m : MethodId) (db : Addr) (i : Nat) (n : Nat) (zc : Int32) (fm : Value) : entryFrame m #[(.ref db), (.int (Int32.ofNat i))] 2 = mkF m 0 #[.val (.ref db), .val (.int (Int32.ofNat i))] [] := by first | (simp [entryFrame, mkF, argsToLocals, Value.category]; done) | rfl
def Q22 (Z : State) (db : Addr) (i : Nat) (n : Nat) (kb : ClassId) (f : Nat → Int32) (zc : Int32) (fm : Value) (h0 : Heap) (n0 : Nat) (v : Option Value) (h : Heap) (L : List Loc) : Prop := v = some (.int (f i)) ∧ Fr n0 L ∧ h = h0
set_option maxRecDepth 65536 in
set_option maxHeartbeats 40000000 in
theorem rm22 (l : Launch) (Z : State) (a0 : Array Value) (hw : ∀ d ∈ tables_1, d.before a0 Z = true) (ws : List Jvm.Cond) (db : Addr) (i : Nat) (n : Nat) (kb : ClassId) (f : Nat → Int32) (zc : Int32) (fm : Value) (h0 : Heap) (n0 : Nat) (Z0 : n0 ≤ h0.size) (O0 : Old Z n0 h0) (U0 : own_ST Z zc fm) (Va : Arv Z h0 db kb .byte (Int32.ofNat (2 * n)) (own_tab (own_u16 f) (2 * n)) (.int (0 : Int32))) (hn : n ≤ 16) (hi : i < n) (hc : own_ch (f i)) :
    MetFree l (⟨"java/lang/StringUTF16", "charAt", "([BI)C"⟩ : MethodName) (head1 (Jvm.Cond.code (⟨"java/lang/StringUTF16", "charAt", "([BI)C"⟩ : MethodName) jdk_52_method_83_code 2 (some .char) :: ws) ({ frames := 3, cells := 0, slots := 0, locals := 40 } : Room)) (fun α υ => α = #[(.ref db), (.int (Int32.ofNat i))] ∧ Z.Warmed39 υ.vm ∧ υ.heap = h0) (fun _ _ _ _ _ => True) (fun _ υ ω υ' => ∃ v L, ω = .returned v ∧ Q22 Z db i n kb f zc fm h0 n0 v υ'.heap L ∧ FrameEnd υ ω υ' L ({ frames := 3, cells := 0, slots := 0, locals := 40 } : Room).cells ({ frames := 3, cells := 0, slots := 0, locals := 40 } : Room).slots) := by
  refine MetFree.of_bodySF (plainFor_of_name pn_java_lang_StringUTF16) hisR ?_
  intro p e s m args below meth c s₁ Bd hml0 hP hK
  obtain ⟨rfl, hZ, hh⟩ := hP
  have hx := Bd.exec
  have hby := Bd.bytes
  have hml : c.maxLocals = 2 := hml0
  have hown : s.vm.findClass "java/lang/StringUTF16" = some m.cls := findClass_of_methodNamed Bd.named
  have hnm := (name_of_methodNamed Bd.named Bd.method).1
  have X0 : Stand p l e ({ frames := 3, cells := 0, slots := 0, locals := 40 } : Room) s m #[(.ref db), (.int (Int32.ofNat i))] below meth c s₁ [] 0 0 := Stand.of_body Bd
  have e0 : s₁.heap = h0 := by rw [← hh, Bd.state]; rfl
  have N0 := Fr.nil n0
  have pre0 : ∀ τ, Steps p.tables e below (s₁.setTop (mkF m 0 #[.val (.ref db), .val (.int (Int32.ofNat i))] [])) τ → Steps p.tables e below (s₁.setTop (entryFrame m #[(.ref db), (.int (Int32.ofNat i))] 2)) τ := fun τ κ => castTop (ef_22 m db i n zc fm) κ
  have pre1 := fun τ (κ : Steps p.tables e below (s₁.setTop (mkF m 2 #[.val (.ref db), .val (.int (Int32.ofNat i))] [(.ref db), (.int (Int32.ofNat i))])) τ) => pre0 τ (by
    refine XS.iloadN X0.here hx rfl (hb hby d22_0) rfl ?_
    refine XS.aloadN X0.here hx rfl (hb hby d22_1) rfl rfl ?_
    show Steps p.tables e below (s₁.setTop (mkF m 2 #[.val (.ref db), .val (.int (Int32.ofNat i))] [(.ref db), (.int (Int32.ofNat i))])) _
    exact κ)
  obtain ⟨_, _, ⟨T2, L2, k2, n2⟩, -, X2, ⟨Lc2, hQ2, l2, y2, z2⟩, st2⟩ := Jvm.LawKit.callS X0 hx (y := (⟨"java/lang/StringUTF16", "checkIndex", "(I[B)V"⟩ : MethodName)) hown (mvT hZ (hw _ (List.mem_of_getElem? (i := 102) rfl))) (mvT hZ (hw _ (List.mem_of_getElem? (i := 103) rfl))) (mvT hZ (hw _ (List.mem_of_getElem? (i := 26) rfl))) (mvT hZ (hw _ (List.mem_of_getElem? (i := 104) rfl))) (by decide) (backOf (W := 0) (rm23 l Z a0 hw [] i db n kb (own_u16 f) zc fm h0 n0 Z0 O0 U0 Va hn hi) hZ (hw _ (List.mem_of_getElem? (i := 104) rfl)) (hw _ (List.mem_of_getElem? (i := 26) rfl)) (Nat.le_of_ble_eq_true rfl) (Nat.le_of_ble_eq_true rfl)) (g := (mkF m 2 #[.val (.ref db), .val (.int (Int32.ofNat i))] [(.ref db), (.int (Int32.ofNat i))])) rfl (by rw [hml]; rfl) (argsL := [(.int (Int32.ofNat i)), (.ref db)]) (rest := []) (lenOf pd_12 rfl) rfl (by show 2 * 0 + _ ≤ _; exact Nat.le_of_eq rfl) (hb hby d22_2) (fun _ _ => ⟨rfl, e0, (by decide : 0 + 0 ≤ _), (by decide : 0 + 0 ≤ _)⟩)
  dsimp only [Pt.U, Pt.locs, Pt.cells, Pt.slots] at X2 l2 y2 z2 st2 hQ2
  subst l2 y2 z2
  obtain ⟨rfl, Nq2, hh2⟩ := hQ2
  have O0_2 : Old Z n0 T2.heap := by rw [hh2]; exact O0
  have Va_2 : Arv Z T2.heap db kb .byte (Int32.ofNat (2 * n)) (own_tab (own_u16 f) (2 * n)) (.int (0 : Int32)) := by rw [hh2]; exact Va
  have Z2 : n0 ≤ T2.heap.size := by rw [hh2]; exact Z0
  have N2 := Fr.app N0 Nq2
  have pre3 := fun τ (κ : Steps p.tables e below (T2.setTop (mkF m 5 #[.val (.ref db), .val (.int (Int32.ofNat i))] [])) τ) => pre1 τ (st2 _ κ)
  have pre4 := fun τ (κ : Steps p.tables e below (T2.setTop (mkF m 7 #[.val (.ref db), .val (.int (Int32.ofNat i))] [(.int (Int32.ofNat i)), (.ref db)])) τ) => pre3 τ (by
    refine XS.aloadN X2.here hx rfl (hb hby d22_5) rfl rfl ?_
    refine XS.iloadN X2.here hx rfl (hb hby d22_6) rfl ?_
    show Steps p.tables e below (T2.setTop (mkF m 7 #[.val (.ref db), .val (.int (Int32.ofNat i))] [(.int (Int32.ofNat i)), (.ref db)])) _
    exact κ)
  obtain ⟨_, _, ⟨T5, L5, k5, n5⟩, -, X5, ⟨Lc5, hQ5, l5, y5, z5⟩, st5⟩ := Jvm.LawKit.callS X2 hx (y := (⟨"java/lang/StringUTF16", "getChar", "([BI)C"⟩ : MethodName)) hown (mvT hZ (hw _ (List.mem_of_getElem? (i := 93) rfl))) (mvT hZ (hw _ (List.mem_of_getElem? (i := 94) rfl))) (mvT hZ (hw _ (List.mem_of_getElem? (i := 26) rfl))) (mvT hZ (hw _ (List.mem_of_getElem? (i := 95) rfl))) (by decide) (backOf (W := 0) (rm21 l Z a0 hw [] db i n kb f zc fm T2.heap n0 Z2 O0_2 U0 Va_2 hn hi hc) hZ (hw _ (List.mem_of_getElem? (i := 95) rfl)) (hw _ (List.mem_of_getElem? (i := 26) rfl)) (Nat.le_of_ble_eq_true rfl) (Nat.le_of_ble_eq_true rfl)) (g := (mkF m 7 #[.val (.ref db), .val (.int (Int32.ofNat i))] [(.int (Int32.ofNat i)), (.ref db)])) rfl (by rw [hml]; rfl) (argsL := [(.ref db), (.int (Int32.ofNat i))]) (rest := []) (lenOf pd_5 rfl) rfl (by show 2 * 0 + _ ≤ _; exact Nat.le_of_eq rfl) (hb hby d22_7) (fun _ _ => ⟨rfl, rfl, (by decide : 0 + 0 ≤ _), (by decide : 0 + 0 ≤ _)⟩)
  dsimp only [Pt.U, Pt.locs, Pt.cells, Pt.slots] at X5 l5 y5 z5 st5 hQ5
  subst l5 y5 z5
  obtain ⟨rfl, Nq5, hh5⟩ := hQ5
  have O0_5 : Old Z n0 T5.heap := by rw [hh5]; exact O0_2
  have Va_5 : Arv Z T5.heap db kb .byte (Int32.ofNat (2 * n)) (own_tab (own_u16 f) (2 * n)) (.int (0 : Int32)) := by rw [hh5]; exact Va_2
  have Z5 : n0 ≤ T5.heap.size := by rw [hh5]; exact Z2
  have N5 := Fr.app N2 Nq5
  have pre6 := fun τ (κ : Steps p.tables e below (T5.setTop (mkF m 10 #[.val (.ref db), .val (.int (Int32.ofNat i))] [(.int (f i))])) τ) => pre4 τ (st5 _ κ)
  obtain ⟨fs, hr, hrun, hended, hW, hsame⟩ := X5.leave (v := some (.int (nar .char (f i)))) (fun h => by rw [Bd.returns] at h; cases h)
  refine ⟨_, _, pre6 _ ?_, hrun, hended, _, _, rfl, ?_, ⟨_, rfl⟩, hW, hsame.mono (by decide) (by decide)⟩
  · exact retN X5 hx (t := .char) Bd.returns (by simp) (hb hby d22_10) hr
  · show Q22 Z db i n kb f zc fm h0 n0 _ T5.heap _
    exact ⟨own_narc hc, N5, (hh5.trans hh2)⟩
theorem ef_14 (m : MethodId) (db : Addr) (i : Nat) (n : Nat) (zc : Int32) (fm : Value) : entryFrame m #[(.ref db), (.int (Int32.ofNat i))] 2 = mkF m 0 #[.val (.ref db), .val (.int (Int32.ofNat i))] [] := by first | (simp [entryFrame, mkF, argsToLocals, Value.category]; done) | rfl
def Q14 (Z : State) (db : Addr) (i : Nat) (n : Nat) (kb : ClassId) (f : Nat → Int32) (zc : Int32) (fm : Value) (h0 : Heap) (n0 : Nat) (v : Option Value) (h : Heap) (L : List Loc) : Prop := v = some (.int (f i)) ∧ Fr n0 L ∧ h = h0
set_option maxRecDepth 65536 in
set_option maxHeartbeats 40000000 in
theorem rm14 (l : Launch) (Z : State) (a0 : Array Value) (hw : ∀ d ∈ tables_1, d.before a0 Z = true) (ws : List Jvm.Cond) (db : Addr) (i : Nat) (n : Nat) (kb : ClassId) (f : Nat → Int32) (zc : Int32) (fm : Value) (h0 : Heap) (n0 : Nat) (Z0 : n0 ≤ h0.size) (O0 : Old Z n0 h0) (U0 : own_ST Z zc fm) (Va : Arv Z h0 db kb .byte (Int32.ofNat n) (own_tab (own_l1 f) (n)) (.int (0 : Int32))) (hn : n ≤ 16) (hi : i < n) (hc : own_ch (f i)) (h255 : ¬ (255 : Int32) < f i) :
    MetFree l (⟨"java/lang/StringLatin1", "charAt", "([BI)C"⟩ : MethodName) (head1 (Jvm.Cond.code (⟨"java/lang/StringLatin1", "charAt", "([BI)C"⟩ : MethodName) jdk_43_method_2_code 2 (some .char) :: ws) ({ frames := 2, cells := 0, slots := 0, locals := 27 } : Room)) (fun α υ => α = #[(.ref db), (.int (Int32.ofNat i))] ∧ Z.Warmed39 υ.vm ∧ υ.heap = h0) (fun _ _ _ _ _ => True) (fun _ υ ω υ' => ∃ v L, ω = .returned v ∧ Q14 Z db i n kb f zc fm h0 n0 v υ'.heap L ∧ FrameEnd υ ω υ' L ({ frames := 2, cells := 0, slots := 0, locals := 27 } : Room).cells ({ frames := 2, cells := 0, slots := 0, locals := 27 } : Room).slots) := by
  refine MetFree.of_bodySF (plainFor_of_name pn_java_lang_StringLatin1) hisR ?_
  intro p e s m args below meth c s₁ Bd hml0 hP hK
  obtain ⟨rfl, hZ, hh⟩ := hP
  have hx := Bd.exec
  have hby := Bd.bytes
  have hml : c.maxLocals = 2 := hml0
  have hown : s.vm.findClass "java/lang/StringLatin1" = some m.cls := findClass_of_methodNamed Bd.named
  have hnm := (name_of_methodNamed Bd.named Bd.method).1
  have X0 : Stand p l e ({ frames := 2, cells := 0, slots := 0, locals := 27 } : Room) s m #[(.ref db), (.int (Int32.ofNat i))] below meth c s₁ [] 0 0 := Stand.of_body Bd
  have e0 : s₁.heap = h0 := by rw [← hh, Bd.state]; rfl
  have N0 := Fr.nil n0
  have pre0 : ∀ τ, Steps p.tables e below (s₁.setTop (mkF m 0 #[.val (.ref db), .val (.int (Int32.ofNat i))] [])) τ → Steps p.tables e below (s₁.setTop (entryFrame m #[(.ref db), (.int (Int32.ofNat i))] 2)) τ := fun τ κ => castTop (ef_14 m db i n zc fm) κ
  have pre1 := fun τ (κ : Steps p.tables e below (s₁.setTop (mkF m 2 #[.val (.ref db), .val (.int (Int32.ofNat i))] [(.ref db), (.int (Int32.ofNat i))])) τ) => pre0 τ (by
    refine XS.iloadN X0.here hx rfl (hb hby d14_0) rfl ?_
    refine XS.aloadN X0.here hx rfl (hb hby d14_1) rfl rfl ?_
    show Steps p.tables e below (s₁.setTop (mkF m 2 #[.val (.ref db), .val (.int (Int32.ofNat i))] [(.ref db), (.int (Int32.ofNat i))])) _
    exact κ)
  obtain ⟨cl2, Ar2, -, S2, M2, -, -⟩ := id Va
  have pre3 := fun τ (κ : Steps p.tables e below (s₁.setTop (mkF m 3 #[.val (.ref db), .val (.int (Int32.ofNat i))] [(.int (Int32.ofNat n)), (.int (Int32.ofNat i))])) τ) => pre1 τ (by
    refine X0.arraylength hx (by rw [e0]; exact Ar2.1) (State.isArrayOf_alike hZ.alike Ar2.2.1) (g := (mkF m 2 #[.val (.ref db), .val (.int (Int32.ofNat i))] [(.ref db), (.int (Int32.ofNat i))])) rfl rfl (hb hby d14_2) _ ?_
    rw [len_of S2 M2]
    show Steps p.tables e below (s₁.setTop (mkF m 3 #[.val (.ref db), .val (.int (Int32.ofNat i))] [(.int (Int32.ofNat n)), (.int (Int32.ofNat i))])) _
    exact κ)
  obtain ⟨_, _, ⟨T4, L4, k4, n4⟩, -, X4, ⟨Lc4, hQ4, l4, y4, z4⟩, st4⟩ := Jvm.LawKit.callS X0 hx (y := (⟨"java/lang/String", "checkIndex", "(II)V"⟩ : MethodName)) hown (mvT hZ (hw _ (List.mem_of_getElem? (i := 67) rfl))) (mvT hZ (hw _ (List.mem_of_getElem? (i := 68) rfl))) (mvT hZ (hw _ (List.mem_of_getElem? (i := 12) rfl))) (mvT hZ (hw _ (List.mem_of_getElem? (i := 69) rfl))) (by decide) (backOf (W := 0) (rm15 l Z a0 hw [] i n zc fm h0 n0 Z0 O0 U0 hn hi) hZ (hw _ (List.mem_of_getElem? (i := 69) rfl)) (hw _ (List.mem_of_getElem? (i := 12) rfl)) (Nat.le_of_ble_eq_true rfl) (Nat.le_of_ble_eq_true rfl)) (g := (mkF m 3 #[.val (.ref db), .val (.int (Int32.ofNat i))] [(.int (Int32.ofNat n)), (.int (Int32.ofNat i))])) rfl (by rw [hml]; rfl) (argsL := [(.int (Int32.ofNat i)), (.int (Int32.ofNat n))]) (rest := []) (lenOf pd_11 rfl) rfl (by show 2 * 0 + _ ≤ _; exact Nat.le_of_eq rfl) (hb hby d14_3) (fun _ _ => ⟨rfl, e0, (by decide : 0 + 0 ≤ _), (by decide : 0 + 0 ≤ _)⟩)
  dsimp only [Pt.U, Pt.locs, Pt.cells, Pt.slots] at X4 l4 y4 z4 st4 hQ4
  subst l4 y4 z4
  obtain ⟨rfl, Nq4, hh4⟩ := hQ4
  have O0_4 : Old Z n0 T4.heap := by rw [hh4]; exact O0
  have Va_4 : Arv Z T4.heap db kb .byte (Int32.ofNat n) (own_tab (own_l1 f) (n)) (.int (0 : Int32)) := by rw [hh4]; exact Va
  have Z4 : n0 ≤ T4.heap.size := by rw [hh4]; exact Z0
  have N4 := Fr.app N0 Nq4
  have pre5 := fun τ (κ : Steps p.tables e below (T4.setTop (mkF m 6 #[.val (.ref db), .val (.int (Int32.ofNat i))] [])) τ) => pre3 τ (st4 _ κ)
  have pre6 := fun τ (κ : Steps p.tables e below (T4.setTop (mkF m 8 #[.val (.ref db), .val (.int (Int32.ofNat i))] [(.int (Int32.ofNat i)), (.ref db)])) τ) => pre5 τ (by
    refine XS.aloadN X4.here hx rfl (hb hby d14_6) rfl rfl ?_
    refine XS.iloadN X4.here hx rfl (hb hby d14_7) rfl ?_
    show Steps p.tables e below (T4.setTop (mkF m 8 #[.val (.ref db), .val (.int (Int32.ofNat i))] [(.int (Int32.ofNat i)), (.ref db)])) _
    exact κ)
  obtain ⟨cl7, Ar7, -, S7, M7, H7, -⟩ := id Va_4
  have in7 : ¬ ((Int32.ofNat i) < 0 ∨ cl7.slots.size ≤ ((Int32.ofNat i)).toNatClampNeg) := inb_of S7 ⟨own_nn (by omega), (own_ltN (by omega) (by omega)).mpr (by omega)⟩
  have at7 : cl7.slots[((Int32.ofNat i)).toNatClampNeg]? = some (.int (own_lo (f i))) := H7.at in7 (by rw [own_clamp (by omega), own_tab_get (by omega)]; rfl)
  have pre8 := fun τ (κ : Steps p.tables e below (T4.setTop (mkF m 14 #[.val (.ref db), .val (.int (Int32.ofNat i))] [(.int (((own_lo (f i)) &&& (255 : Int32)).toUInt32.toUInt16.toUInt32.toInt32))])) τ) => pre6 τ (by
    refine X4.baloadBytes hx (j := (Int32.ofNat i)) (v := (.int (own_lo (f i)))) Ar7.1 (State.isArrayOf_alike hZ.alike Ar7.2.1) Ar7.2.2 in7 at7 (g := (mkF m 8 #[.val (.ref db), .val (.int (Int32.ofNat i))] [(.int (Int32.ofNat i)), (.ref db)])) rfl rfl (hb hby d14_8) _ ?_
    show Steps p.tables e below (T4.setTop (mkF m 9 #[.val (.ref db), .val (.int (Int32.ofNat i))] [(.int (own_lo (f i)))])) _
    refine XS.sipush X4.here hx rfl (hb hby d14_9) ?_
    refine XS.iand X4.here hx rfl (hb hby d14_12) rfl ?_
    show Steps p.tables e below (T4.setTop (mkF m 13 #[.val (.ref db), .val (.int (Int32.ofNat i))] [(.int ((own_lo (f i)) &&& (255 : Int32)))])) _
    refine XS.i2c X4.here hx rfl (hb hby d14_13) rfl ?_
    show Steps p.tables e below (T4.setTop (mkF m 14 #[.val (.ref db), .val (.int (Int32.ofNat i))] [(.int (((own_lo (f i)) &&& (255 : Int32)).toUInt32.toUInt16.toUInt32.toInt32))])) _
    exact κ)
  rw [show (((own_lo (f i)) &&& (255 : Int32)).toUInt32.toUInt16.toUInt32.toInt32) = (f i) from (own_l1c hc.1 (own_255.mp h255))] at pre8
  obtain ⟨fs, hr, hrun, hended, hW, hsame⟩ := X4.leave (v := some (.int (nar .char (f i)))) (fun h => by rw [Bd.returns] at h; cases h)
  refine ⟨_, _, pre8 _ ?_, hrun, hended, _, _, rfl, ?_, ⟨_, rfl⟩, hW, hsame.mono (by decide) (by decide)⟩
  · exact retN X4 hx (t := .char) Bd.returns (by simp) (hb hby d14_14) hr
  · show Q14 Z db i n kb f zc fm h0 n0 _ T4.heap _
    exact ⟨own_narc hc, N4, hh4⟩
theorem ef_12 (m : MethodId) (sa : Addr) (i : Nat) (n : Nat) (zc : Int32) (fm : Value) : entryFrame m #[(.ref sa), (.int (Int32.ofNat i))] 2 = mkF m 0 #[.val (.ref sa), .val (.int (Int32.ofNat i))] [] := by first | (simp [entryFrame, mkF, argsToLocals, Value.category]; done) | rfl
def Q12 (Z : State) (sa : Addr) (i : Nat) (n : Nat) (f : Nat → Int32) (zc : Int32) (fm : Value) (h0 : Heap) (n0 : Nat) (v : Option Value) (h : Heap) (L : List Loc) : Prop := v = some (.int (f i)) ∧ Fr n0 L ∧ h = h0
set_option maxRecDepth 65536 in
set_option maxHeartbeats 40000000 in
theorem rm12 (l : Launch) (Z : State) (a0 : Array Value) (hw : ∀ d ∈ tables_1, d.before a0 Z = true) (ws : List Jvm.Cond) (sa : Addr) (i : Nat) (n : Nat) (f : Nat → Int32) (zc : Int32) (fm : Value) (h0 : Heap) (n0 : Nat) (Z0 : n0 ≤ h0.size) (O0 : Old Z n0 h0) (U0 : own_ST Z zc fm) (P0 : own_STR Z h0 sa f n) (hn : n ≤ 16) (hi : i < n) (hc : own_ch (f i)) :
    MetFree l (⟨"java/lang/String", "charAt", "(I)C"⟩ : MethodName) (head1 (Jvm.Cond.code (⟨"java/lang/String", "charAt", "(I)C"⟩ : MethodName) jdk_42_method_56_code 2 (some .char) :: ws) ({ frames := 4, cells := 0, slots := 0, locals := 53 } : Room)) (fun α υ => α = #[(.ref sa), (.int (Int32.ofNat i))] ∧ Z.Warmed39 υ.vm ∧ υ.heap = h0) (fun _ _ _ _ _ => True) (fun _ υ ω υ' => ∃ v L, ω = .returned v ∧ Q12 Z sa i n f zc fm h0 n0 v υ'.heap L ∧ FrameEnd υ ω υ' L ({ frames := 4, cells := 0, slots := 0, locals := 53 } : Room).cells ({ frames := 4, cells := 0, slots := 0, locals := 53 } : Room).slots) := by
  refine MetFree.of_bodySF (plainFor_of_name pn_java_lang_String) hisR ?_
  intro p e s m args below meth c s₁ Bd hml0 hP hK
  obtain ⟨rfl, hZ, hh⟩ := hP
  have hx := Bd.exec
  have hby := Bd.bytes
  have hml : c.maxLocals = 2 := hml0
  have hown : s.vm.findClass "java/lang/String" = some m.cls := findClass_of_methodNamed Bd.named
  have hnm := (name_of_methodNamed Bd.named Bd.method).1
  have X0 : Stand p l e ({ frames := 4, cells := 0, slots := 0, locals := 53 } : Room) s m #[(.ref sa), (.int (Int32.ofNat i))] below meth c s₁ [] 0 0 := Stand.of_body Bd
  have e0 : s₁.heap = h0 := by rw [← hh, Bd.state]; rfl
  have N0 := Fr.nil n0
  have pre0 : ∀ τ, Steps p.tables e below (s₁.setTop (mkF m 0 #[.val (.ref sa), .val (.int (Int32.ofNat i))] [])) τ → Steps p.tables e below (s₁.setTop (entryFrame m #[(.ref sa), (.int (Int32.ofNat i))] 2)) τ := fun τ κ => castTop (ef_12 m sa i n zc fm) κ
  obtain ⟨tb, cd, E_s, Fv, Fc, kb, ⟨rfl, h2, Va⟩ | ⟨rfl, h2, Va⟩⟩ := P0
  · have pre1 := fun τ (κ : Steps p.tables e below (s₁.setTop (mkF m 1 #[.val (.ref sa), .val (.int (Int32.ofNat i))] [(.ref sa)])) τ) => pre0 τ (by
      refine XS.aloadN X0.here hx rfl (hb hby d12_0) rfl rfl ?_
      show Steps p.tables e below (s₁.setTop (mkF m 1 #[.val (.ref sa), .val (.int (Int32.ofNat i))] [(.ref sa)])) _
      exact κ)
    obtain ⟨cq2, kq2, q2a, q2b, q2c⟩ := isOf hZ e0 E_s
    obtain ⟨_, _, ⟨T2, L2, k2, n2⟩, -, X2, ⟨Lc2, hQ2, l2, y2, z2⟩, st2⟩ := X0.virtualBack hx (y := (⟨"java/lang/String", "isLatin1", "()Z"⟩ : MethodName)) (z := (⟨"java/lang/String", "isLatin1", "()Z"⟩ : MethodName)) hown (mvT hZ (hw _ (List.mem_of_getElem? (i := 58) rfl))) (mvT hZ (hw _ (List.mem_of_getElem? (i := 59) rfl))) (notFace_of_selects (args := #[]) (mvT hZ (hw _ (List.mem_of_getElem? (i := 61) rfl)))) (mvT hZ (hw _ (List.mem_of_getElem? (i := 61) rfl))) (mvT hZ (hw _ (List.mem_of_getElem? (i := 60) rfl))) (by decide) (backOf (W := 0) (rm13 l Z a0 hw [] sa (0 : Int32) zc fm h0 n0 Z0 O0 U0 Fc) hZ (hw _ (List.mem_of_getElem? (i := 62) rfl)) (hw _ (List.mem_of_getElem? (i := 12) rfl)) (Nat.le_of_ble_eq_true rfl) (Nat.le_of_ble_eq_true rfl)) q2a q2c (g := (mkF m 1 #[.val (.ref sa), .val (.int (Int32.ofNat i))] [(.ref sa)])) rfl (by rw [hml]; rfl) (Steps.refl _) (argsL := []) (rest := []) (lenOf pd_13 rfl) rfl (by show 2 * 0 + _ ≤ _; exact Nat.le_of_eq rfl) (hb hby d12_1) (fun _ _ => ⟨rfl, e0, (by decide : 0 + 0 ≤ _), (by decide : 0 + 0 ≤ _)⟩)
    dsimp only [Pt.U, Pt.locs, Pt.cells, Pt.slots] at X2 l2 y2 z2 st2 hQ2
    subst l2 y2 z2
    obtain ⟨rfl, Nq2, hh2⟩ := hQ2
    have O0_2 : Old Z n0 T2.heap := by rw [hh2]; exact O0
    have E_s_2 : Exa Z T2.heap sa "java/lang/String" := by rw [hh2]; exact E_s
    have Fv_2 : Fld Z T2.heap sa "java/lang/String" "value" "[B" (.ref tb) := by rw [hh2]; exact Fv
    have Fc_2 : Fld Z T2.heap sa "java/lang/String" "coder" "B" (.int (0 : Int32)) := by rw [hh2]; exact Fc
    have Va_2 : Arv Z T2.heap tb kb .byte (Int32.ofNat n) (own_tab (own_l1 f) (n)) (.int (0 : Int32)) := by rw [hh2]; exact Va
    have Z2 : n0 ≤ T2.heap.size := by rw [hh2]; exact Z0
    have N2 := Fr.app N0 Nq2
    have pre3 := fun τ (κ : Steps p.tables e below (T2.setTop (mkF m 4 #[.val (.ref sa), .val (.int (Int32.ofNat i))] [(.int (if (0 : Int32) = 0 then 1 else 0))])) τ) => pre1 τ (st2.trans κ)
    have pre4 := fun τ (κ : Steps p.tables e below (T2.setTop (mkF m 8 #[.val (.ref sa), .val (.int (Int32.ofNat i))] [(.ref sa)])) τ) => pre3 τ (by
      refine XS.ifNo X2.here hx rfl (hb hby d12_4) rfl ((if0 _ _).trans (feq (by decide)).1) ?_
      show Steps p.tables e below (T2.setTop (mkF m 7 #[.val (.ref sa), .val (.int (Int32.ofNat i))] [])) _
      refine XS.aloadN X2.here hx rfl (hb hby d12_7) rfl rfl ?_
      show Steps p.tables e below (T2.setTop (mkF m 8 #[.val (.ref sa), .val (.int (Int32.ofNat i))] [(.ref sa)])) _
      exact κ)
    obtain ⟨T5, X5, e5, st5⟩ := getF X2 hx hZ hown (host := "") (Or.inl (hw _ (List.mem_of_getElem? (i := 37) rfl))) Via.refl rfl Fv_2 (g := (mkF m 8 #[.val (.ref sa), .val (.int (Int32.ofNat i))] [(.ref sa)])) rfl rfl (hb hby d12_8)
    have pre6 := fun τ (κ : Steps p.tables e below (T5.setTop (mkF m 11 #[.val (.ref sa), .val (.int (Int32.ofNat i))] [(.ref tb)])) τ) => pre4 τ (st5 _ κ)
    have pre7 := fun τ (κ : Steps p.tables e below (T5.setTop (mkF m 12 #[.val (.ref sa), .val (.int (Int32.ofNat i))] [(.int (Int32.ofNat i)), (.ref tb)])) τ) => pre6 τ (by
      refine XS.iloadN X5.here hx rfl (hb hby d12_11) rfl ?_
      show Steps p.tables e below (T5.setTop (mkF m 12 #[.val (.ref sa), .val (.int (Int32.ofNat i))] [(.int (Int32.ofNat i)), (.ref tb)])) _
      exact κ)
    obtain ⟨_, _, ⟨T8, L8, k8, n8⟩, -, X8, ⟨Lc8, hQ8, l8, y8, z8⟩, st8⟩ := Jvm.LawKit.callS X5 hx (y := (⟨"java/lang/StringLatin1", "charAt", "([BI)C"⟩ : MethodName)) hown (mvT hZ (hw _ (List.mem_of_getElem? (i := 63) rfl))) (mvT hZ (hw _ (List.mem_of_getElem? (i := 64) rfl))) (mvT hZ (hw _ (List.mem_of_getElem? (i := 65) rfl))) (mvT hZ (hw _ (List.mem_of_getElem? (i := 66) rfl))) (by decide) (backOf (W := 0) (rm14 l Z a0 hw [] tb i n kb f zc fm T2.heap n0 Z2 O0_2 U0 Va_2 hn hi hc (h2 i hi)) hZ (hw _ (List.mem_of_getElem? (i := 66) rfl)) (hw _ (List.mem_of_getElem? (i := 65) rfl)) (Nat.le_of_ble_eq_true rfl) (Nat.le_of_ble_eq_true rfl)) (g := (mkF m 12 #[.val (.ref sa), .val (.int (Int32.ofNat i))] [(.int (Int32.ofNat i)), (.ref tb)])) rfl (by rw [hml]; rfl) (argsL := [(.ref tb), (.int (Int32.ofNat i))]) (rest := []) (lenOf pd_5 rfl) rfl (by show 2 * 0 + _ ≤ _; exact Nat.le_of_eq rfl) (hb hby d12_12) (fun _ _ => ⟨rfl, e5, (by decide : 0 + 0 ≤ _), (by decide : 0 + 0 ≤ _)⟩)
    dsimp only [Pt.U, Pt.locs, Pt.cells, Pt.slots] at X8 l8 y8 z8 st8 hQ8
    subst l8 y8 z8
    obtain ⟨rfl, Nq8, hh8⟩ := hQ8
    have O0_8 : Old Z n0 T8.heap := by rw [hh8]; exact O0_2
    have E_s_8 : Exa Z T8.heap sa "java/lang/String" := by rw [hh8]; exact E_s_2
    have Fv_8 : Fld Z T8.heap sa "java/lang/String" "value" "[B" (.ref tb) := by rw [hh8]; exact Fv_2
    have Fc_8 : Fld Z T8.heap sa "java/lang/String" "coder" "B" (.int (0 : Int32)) := by rw [hh8]; exact Fc_2
    have Va_8 : Arv Z T8.heap tb kb .byte (Int32.ofNat n) (own_tab (own_l1 f) (n)) (.int (0 : Int32)) := by rw [hh8]; exact Va_2
    have Z8 : n0 ≤ T8.heap.size := by rw [hh8]; exact Z2
    have N8 := Fr.app N2 Nq8
    have pre9 := fun τ (κ : Steps p.tables e below (T8.setTop (mkF m 15 #[.val (.ref sa), .val (.int (Int32.ofNat i))] [(.int (f i))])) τ) => pre7 τ (st8 _ κ)
    obtain ⟨fs, hr, hrun, hended, hW, hsame⟩ := X8.leave (v := some (.int (nar .char (f i)))) (fun h => by rw [Bd.returns] at h; cases h)
    refine ⟨_, _, pre9 _ ?_, hrun, hended, _, _, rfl, ?_, ⟨_, rfl⟩, hW, hsame.mono (by decide) (by decide)⟩
    · exact retN X8 hx (t := .char) Bd.returns (by simp) (hb hby d12_15) hr
    · show Q12 Z sa i n f zc fm h0 n0 _ T8.heap _
      exact ⟨own_narc hc, N8, (hh8.trans hh2)⟩
  · have pre10 := fun τ (κ : Steps p.tables e below (s₁.setTop (mkF m 1 #[.val (.ref sa), .val (.int (Int32.ofNat i))] [(.ref sa)])) τ) => pre0 τ (by
      refine XS.aloadN X0.here hx rfl (hb hby d12_0) rfl rfl ?_
      show Steps p.tables e below (s₁.setTop (mkF m 1 #[.val (.ref sa), .val (.int (Int32.ofNat i))] [(.ref sa)])) _
      exact κ)
    obtain ⟨cq11, kq11, q11a, q11b, q11c⟩ := isOf hZ e0 E_s
    obtain ⟨_, _, ⟨T11, L11, k11, n11⟩, -, X11, ⟨Lc11, hQ11, l11, y11, z11⟩, st11⟩ := X0.virtualBack hx (y := (⟨"java/lang/String", "isLatin1", "()Z"⟩ : MethodName)) (z := (⟨"java/lang/String", "isLatin1", "()Z"⟩ : MethodName)) hown (mvT hZ (hw _ (List.mem_of_getElem? (i := 58) rfl))) (mvT hZ (hw _ (List.mem_of_getElem? (i := 59) rfl))) (notFace_of_selects (args := #[]) (mvT hZ (hw _ (List.mem_of_getElem? (i := 61) rfl)))) (mvT hZ (hw _ (List.mem_of_getElem? (i := 61) rfl))) (mvT hZ (hw _ (List.mem_of_getElem? (i := 60) rfl))) (by decide) (backOf (W := 0) (rm13 l Z a0 hw [] sa (1 : Int32) zc fm h0 n0 Z0 O0 U0 Fc) hZ (hw _ (List.mem_of_getElem? (i := 62) rfl)) (hw _ (List.mem_of_getElem? (i := 12) rfl)) (Nat.le_of_ble_eq_true rfl) (Nat.le_of_ble_eq_true rfl)) q11a q11c (g := (mkF m 1 #[.val (.ref sa), .val (.int (Int32.ofNat i))] [(.ref sa)])) rfl (by rw [hml]; rfl) (Steps.refl _) (argsL := []) (rest := []) (lenOf pd_13 rfl) rfl (by show 2 * 0 + _ ≤ _; exact Nat.le_of_eq rfl) (hb hby d12_1) (fun _ _ => ⟨rfl, e0, (by decide : 0 + 0 ≤ _), (by decide : 0 + 0 ≤ _)⟩)
    dsimp only [Pt.U, Pt.locs, Pt.cells, Pt.slots] at X11 l11 y11 z11 st11 hQ11
    subst l11 y11 z11
    obtain ⟨rfl, Nq11, hh11⟩ := hQ11
    have O0_11 : Old Z n0 T11.heap := by rw [hh11]; exact O0
    have E_s_11 : Exa Z T11.heap sa "java/lang/String" := by rw [hh11]; exact E_s
    have Fv_11 : Fld Z T11.heap sa "java/lang/String" "value" "[B" (.ref tb) := by rw [hh11]; exact Fv
    have Fc_11 : Fld Z T11.heap sa "java/lang/String" "coder" "B" (.int (1 : Int32)) := by rw [hh11]; exact Fc
    have Va_11 : Arv Z T11.heap tb kb .byte (Int32.ofNat (2 * n)) (own_tab (own_u16 f) (2 * n)) (.int (0 : Int32)) := by rw [hh11]; exact Va
    have Z11 : n0 ≤ T11.heap.size := by rw [hh11]; exact Z0
    have N11 := Fr.app N0 Nq11
    have pre12 := fun τ (κ : Steps p.tables e below (T11.setTop (mkF m 4 #[.val (.ref sa), .val (.int (Int32.ofNat i))] [(.int (if (1 : Int32) = 0 then 1 else 0))])) τ) => pre10 τ (st11.trans κ)
    have pre13 := fun τ (κ : Steps p.tables e below (T11.setTop (mkF m 17 #[.val (.ref sa), .val (.int (Int32.ofNat i))] [(.ref sa)])) τ) => pre12 τ (by
      refine XS.ifYes X11.here hx rfl (pc0 := 4) (pc' := 16) rfl (hb hby d12_4) rfl ((if0 _ _).trans (teq (by decide)).1) (by decide) (by decide) ?_
      show Steps p.tables e below (T11.setTop (mkF m 16 #[.val (.ref sa), .val (.int (Int32.ofNat i))] [])) _
      refine XS.aloadN X11.here hx rfl (hb hby d12_16) rfl rfl ?_
      show Steps p.tables e below (T11.setTop (mkF m 17 #[.val (.ref sa), .val (.int (Int32.ofNat i))] [(.ref sa)])) _
      exact κ)
    obtain ⟨T14, X14, e14, st14⟩ := getF X11 hx hZ hown (host := "") (Or.inl (hw _ (List.mem_of_getElem? (i := 37) rfl))) Via.refl rfl Fv_11 (g := (mkF m 17 #[.val (.ref sa), .val (.int (Int32.ofNat i))] [(.ref sa)])) rfl rfl (hb hby d12_17)
    have pre15 := fun τ (κ : Steps p.tables e below (T14.setTop (mkF m 20 #[.val (.ref sa), .val (.int (Int32.ofNat i))] [(.ref tb)])) τ) => pre13 τ (st14 _ κ)
    have pre16 := fun τ (κ : Steps p.tables e below (T14.setTop (mkF m 21 #[.val (.ref sa), .val (.int (Int32.ofNat i))] [(.int (Int32.ofNat i)), (.ref tb)])) τ) => pre15 τ (by
      refine XS.iloadN X14.here hx rfl (hb hby d12_20) rfl ?_
      show Steps p.tables e below (T14.setTop (mkF m 21 #[.val (.ref sa), .val (.int (Int32.ofNat i))] [(.int (Int32.ofNat i)), (.ref tb)])) _
      exact κ)
    obtain ⟨_, _, ⟨T17, L17, k17, n17⟩, -, X17, ⟨Lc17, hQ17, l17, y17, z17⟩, st17⟩ := Jvm.LawKit.callS X14 hx (y := (⟨"java/lang/StringUTF16", "charAt", "([BI)C"⟩ : MethodName)) hown (mvT hZ (hw _ (List.mem_of_getElem? (i := 99) rfl))) (mvT hZ (hw _ (List.mem_of_getElem? (i := 100) rfl))) (mvT hZ (hw _ (List.mem_of_getElem? (i := 26) rfl))) (mvT hZ (hw _ (List.mem_of_getElem? (i := 101) rfl))) (by decide) (backOf (W := 0) (rm22 l Z a0 hw [] tb i n kb f zc fm T11.heap n0 Z11 O0_11 U0 Va_11 hn hi hc) hZ (hw _ (List.mem_of_getElem? (i := 101) rfl)) (hw _ (List.mem_of_getElem? (i := 26) rfl)) (Nat.le_of_ble_eq_true rfl) (Nat.le_of_ble_eq_true rfl)) (g := (mkF m 21 #[.val (.ref sa), .val (.int (Int32.ofNat i))] [(.int (Int32.ofNat i)), (.ref tb)])) rfl (by rw [hml]; rfl) (argsL := [(.ref tb), (.int (Int32.ofNat i))]) (rest := []) (lenOf pd_5 rfl) rfl (by show 2 * 0 + _ ≤ _; exact Nat.le_of_eq rfl) (hb hby d12_21) (fun _ _ => ⟨rfl, e14, (by decide : 0 + 0 ≤ _), (by decide : 0 + 0 ≤ _)⟩)
    dsimp only [Pt.U, Pt.locs, Pt.cells, Pt.slots] at X17 l17 y17 z17 st17 hQ17
    subst l17 y17 z17
    obtain ⟨rfl, Nq17, hh17⟩ := hQ17
    have O0_17 : Old Z n0 T17.heap := by rw [hh17]; exact O0_11
    have E_s_17 : Exa Z T17.heap sa "java/lang/String" := by rw [hh17]; exact E_s_11
    have Fv_17 : Fld Z T17.heap sa "java/lang/String" "value" "[B" (.ref tb) := by rw [hh17]; exact Fv_11
    have Fc_17 : Fld Z T17.heap sa "java/lang/String" "coder" "B" (.int (1 : Int32)) := by rw [hh17]; exact Fc_11
    have Va_17 : Arv Z T17.heap tb kb .byte (Int32.ofNat (2 * n)) (own_tab (own_u16 f) (2 * n)) (.int (0 : Int32)) := by rw [hh17]; exact Va_11
    have Z17 : n0 ≤ T17.heap.size := by rw [hh17]; exact Z11
    have N17 := Fr.app N11 Nq17
    have pre18 := fun τ (κ : Steps p.tables e below (T17.setTop (mkF m 24 #[.val (.ref sa), .val (.int (Int32.ofNat i))] [(.int (f i))])) τ) => pre16 τ (st17 _ κ)
    obtain ⟨fs, hr, hrun, hended, hW, hsame⟩ := X17.leave (v := some (.int (nar .char (f i)))) (fun h => by rw [Bd.returns] at h; cases h)
    refine ⟨_, _, pre18 _ ?_, hrun, hended, _, _, rfl, ?_, ⟨_, rfl⟩, hW, hsame.mono (by decide) (by decide)⟩
    · exact retN X17 hx (t := .char) Bd.returns (by simp) (hb hby d12_24) hr
    · show Q12 Z sa i n f zc fm h0 n0 _ T17.heap _
      exact ⟨own_narc hc, N17, (hh17.trans hh11)⟩
theorem ef_4e (m : MethodId) (sa : Addr) (ca : Addr) : entryFrame m #[(.ref sa), (.ref ca), (.int (0 : Int32)), (.int (0 : Int32)), .null] 6 = mkF m 0 #[.val (.ref sa), .val (.ref ca), .val (.int (0 : Int32)), .val (.int (0 : Int32)), .val .null, .unset] [] := by first | (simp [entryFrame, mkF, argsToLocals, Value.category]; done) | rfl
def Q4e (Z : State) (sa : Addr) (ca : Addr) (f : Nat → Int32) (h0 : Heap) (n0 : Nat) (v : Option Value) (h : Heap) (L : List Loc) : Prop := v = none ∧ Fr n0 L ∧ Keep h0 h [sa] ∧ own_STR Z h sa f 0
set_option maxRecDepth 65536 in
set_option maxHeartbeats 40000000 in
theorem rm4e (l : Launch) (Z : State) (a0 : Array Value) (hw : ∀ d ∈ tables_1, d.before a0 Z = true) (ws : List Jvm.Cond) (sa : Addr) (ca : Addr) (f : Nat → Int32) (h0 : Heap) (n0 : Nat) (Z0 : n0 ≤ h0.size) (E_s : Exa Z h0 sa "java/lang/String") (Fv : Fld Z h0 sa "java/lang/String" "value" "[B" .null) (Fc : Fld Z h0 sa "java/lang/String" "coder" "B" (.int (0 : Int32))) (gs : n0 ≤ sa) :
    MetFree l (⟨"java/lang/String", "<init>", "([CIILjava/lang/Void;)V"⟩ : MethodName) (head1 (Jvm.Cond.code (⟨"java/lang/String", "<init>", "([CIILjava/lang/Void;)V"⟩ : MethodName) jdk_42_method_149_code 6 none :: ws) ({ frames := 1, cells := 2, slots := 4, locals := 12 } : Room)) (fun α υ => α = #[(.ref sa), (.ref ca), (.int (0 : Int32)), (.int (0 : Int32)), .null] ∧ Z.Warmed39 υ.vm ∧ υ.heap = h0 ∧ CHv Z consts_1 υ.vm h0) (fun _ _ _ _ _ => True) (fun _ υ ω υ' => ∃ v L, ω = .returned v ∧ Q4e Z sa ca f h0 n0 v υ'.heap L ∧ CHr Z consts_1 υ.vm υ.heap υ'.vm υ'.heap ∧ ReturnedEndW υ ω υ' L ({ frames := 1, cells := 2, slots := 4, locals := 12 } : Room).cells ({ frames := 1, cells := 2, slots := 4, locals := 12 } : Room).slots) := by
  refine MetFree.of_bodySF (plainFor_of_name pn_java_lang_String) hisR ?_
  intro p e s m args below meth c s₁ Bd hml0 hP hK
  obtain ⟨rfl, hZ, hh, hC0⟩ := hP
  have hx := Bd.exec
  have hby := Bd.bytes
  have hml : c.maxLocals = 6 := hml0
  have hown : s.vm.findClass "java/lang/String" = some m.cls := findClass_of_methodNamed Bd.named
  have hnm := (name_of_methodNamed Bd.named Bd.method).1
  have X0 : Stand p l e ({ frames := 1, cells := 2, slots := 4, locals := 12 } : Room) s m #[(.ref sa), (.ref ca), (.int (0 : Int32)), (.int (0 : Int32)), .null] below meth c s₁ [] 0 0 := Stand.of_body Bd
  have e0 : s₁.heap = h0 := by rw [← hh, Bd.state]; rfl
  have N0 := Fr.nil n0
  have pre0 : ∀ τ, Steps p.tables e below (s₁.setTop (mkF m 0 #[.val (.ref sa), .val (.ref ca), .val (.int (0 : Int32)), .val (.int (0 : Int32)), .val .null, .unset] [])) τ → Steps p.tables e below (s₁.setTop (entryFrame m #[(.ref sa), (.ref ca), (.int (0 : Int32)), (.int (0 : Int32)), .null] 6)) τ := fun τ κ => castTop (ef_4e m sa ca) κ
  have hS0 : s.Since s.vm 0 := (State.WarmedH.refl s).since 0
  have hks : 0 ≤ h0.size := Nat.zero_le _
  have hEL := own_EL hw
  have Sf0 : Safe Z consts_1 s.vm h0 sa := own_safe hZ.alike E_s Fv
  have Kp0 : Keep h0 h0 [sa] := Keep.refl _ _
  have pre1 := fun τ (κ : Steps p.tables e below (s₁.setTop (mkF m 1 #[.val (.ref sa), .val (.ref ca), .val (.int (0 : Int32)), .val (.int (0 : Int32)), .val .null, .unset] [(.ref sa)])) τ) => pre0 τ (by
    refine XS.aloadN X0.here hx rfl (hb hby d4_0) rfl rfl ?_
    show Steps p.tables e below (s₁.setTop (mkF m 1 #[.val (.ref sa), .val (.ref ca), .val (.int (0 : Int32)), .val (.int (0 : Int32)), .val .null, .unset] [(.ref sa)])) _
    exact κ)
  obtain ⟨T2, X2, e2, st2⟩ := initO X0 hx hZ hown (hw _ (List.mem_of_getElem? (i := 20) rfl)) (hw _ (List.mem_of_getElem? (i := 21) rfl)) (hw _ (List.mem_of_getElem? (i := 22) rfl)) e0 (g := (mkF m 1 #[.val (.ref sa), .val (.ref ca), .val (.int (0 : Int32)), .val (.int (0 : Int32)), .val .null, .unset] [(.ref sa)])) rfl (by rw [hml]; rfl) rfl (hb hby d4_1) (by decide) (W := 0) (by show 2 * 0 + _ ≤ _; exact Nat.le_of_eq rfl) (by decide)
  have pre3 := fun τ (κ : Steps p.tables e below (T2.setTop (mkF m 4 #[.val (.ref sa), .val (.ref ca), .val (.int (0 : Int32)), .val (.int (0 : Int32)), .val .null, .unset] [])) τ) => pre1 τ (st2 _ κ)
  have pre4 := fun τ (κ : Steps p.tables e below (T2.setTop (mkF m 9 #[.val (.ref sa), .val (.ref ca), .val (.int (0 : Int32)), .val (.int (0 : Int32)), .val .null, .unset] [(.ref sa)])) τ) => pre3 τ (by
    refine XS.iloadN X2.here hx rfl (hb hby d4_4) rfl ?_
    refine XS.ifNo X2.here hx rfl (hb hby d4_5) rfl ((if0 _ _).trans (teq rfl).2) ?_
    show Steps p.tables e below (T2.setTop (mkF m 8 #[.val (.ref sa), .val (.ref ca), .val (.int (0 : Int32)), .val (.int (0 : Int32)), .val .null, .unset] [])) _
    refine XS.aloadN X2.here hx rfl (hb hby d4_8) rfl rfl ?_
    show Steps p.tables e below (T2.setTop (mkF m 9 #[.val (.ref sa), .val (.ref ca), .val (.int (0 : Int32)), .val (.int (0 : Int32)), .val .null, .unset] [(.ref sa)])) _
    exact κ)
  obtain ⟨li, T5, h5, ks5, eb, kb5, X5, e5, E5, hS5, hks, hZ, hown, A5, Fc5, Fv5, V5, lta5, ltb5, C5, Lit5, Ne5, st5⟩ := ldcCH (s := s) (vm0 := s.vm) X2 hx hZ hown (hw _ (List.mem_of_getElem? (i := 96) rfl)) (own_wS hw) e2 hS0 (Nat.zero_le _) hEL (List.mem_of_getElem? (i := 0) rfl) hC0 (vs := []) (z := 0) (by simp) (by decide) rfl (g := (mkF m 9 #[.val (.ref sa), .val (.ref ca), .val (.int (0 : Int32)), .val (.int (0 : Int32)), .val .null, .unset] [(.ref sa)])) rfl (hb hby d4_9) (n := 0) (by decide) (by decide) (by decide) (by decide)
  have E_s_5 : Exa Z h5 sa "java/lang/String" := E_s.ext E5
  have Fv_5 : Fld Z h5 sa "java/lang/String" "value" "[B" .null := Fv.ext E5
  have Fc_5 : Fld Z h5 sa "java/lang/String" "coder" "B" (.int (0 : Int32)) := Fc.ext E5
  have Kp5 : Keep h0 h5 [sa] := Kp0.ext E5
  have Z5 : n0 ≤ h5.size := Nat.le_trans Z0 E5.1
  have pre6 := fun τ (κ : Steps p.tables e below (T5.setTop (mkF m 11 #[.val (.ref sa), .val (.ref ca), .val (.int (0 : Int32)), .val (.int (0 : Int32)), .val .null, .unset] [(.ref li), (.ref sa)])) τ) => pre4 τ (st5 _ κ)
  have Sf1 := C5.safe E_s.lt Sf0
  obtain ⟨ne_sa_li, ne_sa_eb⟩ := Ne5 sa Sf1
  obtain ⟨T7, X7, e7, st7⟩ := getF X5 hx hZ hown (host := "") (Or.inl (hw _ (List.mem_of_getElem? (i := 37) rfl))) Via.refl e5 Fv5 (g := (mkF m 11 #[.val (.ref sa), .val (.ref ca), .val (.int (0 : Int32)), .val (.int (0 : Int32)), .val .null, .unset] [(.ref li), (.ref sa)])) rfl rfl (hb hby d4_11)
  have pre8 := fun τ (κ : Steps p.tables e below (T7.setTop (mkF m 14 #[.val (.ref sa), .val (.ref ca), .val (.int (0 : Int32)), .val (.int (0 : Int32)), .val .null, .unset] [(.ref eb), (.ref sa)])) τ) => pre6 τ (st7 _ κ)
  obtain ⟨T9, h9, X9, e9, W9, st9⟩ := putF X7 hx hZ hown (host := "") (Or.inl (hw _ (List.mem_of_getElem? (i := 37) rfl))) Via.refl e7 Fv_5 E_s_5 (Or.inr ⟨(hw _ (List.mem_of_getElem? (i := 38) rfl)), rfl, hnm⟩) (hw _ (List.mem_of_getElem? (i := 11) rfl)) (ty := (.array .byte)) (by decide) rfl rfl (g := (mkF m 14 #[.val (.ref sa), .val (.ref ca), .val (.int (0 : Int32)), .val (.int (0 : Int32)), .val .null, .unset] [(.ref eb), (.ref sa)])) rfl rfl (hb hby d4_14)
  have E_s_9 : Exa Z h9 sa "java/lang/String" := E_s_5.wr W9
  have Fc_9 : Fld Z h9 sa "java/lang/String" "coder" "B" (.int (0 : Int32)) := Fc_5.other W9 (Or.inr (slot_ne (Or.inr (hw _ (List.mem_of_getElem? (i := 36) rfl))) (Or.inr (hw _ (List.mem_of_getElem? (i := 38) rfl))) (by decide) (t := .byte) (t' := (.array .byte)) (by decide) (by decide)))
  have A5_9 : Exa Z h9 li "java/lang/String" := A5.wr W9
  have Fc5_9 : Fld Z h9 li "java/lang/String" "coder" "B" (.int (0 : Int32)) := Fc5.other W9 (Or.inl (Ne.symm ne_sa_li))
  have Fv5_9 : Fld Z h9 li "java/lang/String" "value" "[B" (.ref eb) := Fv5.other W9 (Or.inl (Ne.symm ne_sa_li))
  have V5_9 : Arv Z h9 eb kb5 .byte (0 : Int32) [] (.int (0 : Int32)) := V5.other W9 (Ne.symm ne_sa_eb)
  have Kp9 : Keep h0 h9 [sa] := Kp5.wr W9 (Or.inl (List.mem_of_getElem? (i := 0) rfl))
  have N9 := Fr.snoc X9 N0 gs
  have Z9 : n0 ≤ h9.size := Nat.le_trans Z5 (Keep.of_wr W9).1
  have hks : ks5 ≤ h9.size := Nat.le_trans hks (Keep.of_wr W9).1
  have F_value_sa_9 : Fld Z h9 sa "java/lang/String" "value" "[B" (.ref eb) := Fv_5.same W9
  have pre10 := fun τ (κ : Steps p.tables e below (T9.setTop (mkF m 17 #[.val (.ref sa), .val (.ref ca), .val (.int (0 : Int32)), .val (.int (0 : Int32)), .val .null, .unset] [])) τ) => pre8 τ (st9 _ κ)
  have R1 := C5.trans (CHr.wr W9 Sf1 C5.1)
  have Sf2 := Safe.wr W9 Sf1 C5.1 Sf1
  have pre11 := fun τ (κ : Steps p.tables e below (T9.setTop (mkF m 18 #[.val (.ref sa), .val (.ref ca), .val (.int (0 : Int32)), .val (.int (0 : Int32)), .val .null, .unset] [(.ref sa)])) τ) => pre10 τ (by
    refine XS.aloadN X9.here hx rfl (hb hby d4_17) rfl rfl ?_
    show Steps p.tables e below (T9.setTop (mkF m 18 #[.val (.ref sa), .val (.ref ca), .val (.int (0 : Int32)), .val (.int (0 : Int32)), .val .null, .unset] [(.ref sa)])) _
    exact κ)
  have pre12 := fun τ (κ : Steps p.tables e below (T9.setTop (mkF m 20 #[.val (.ref sa), .val (.ref ca), .val (.int (0 : Int32)), .val (.int (0 : Int32)), .val .null, .unset] [(.ref li), (.ref sa)])) τ) => pre11 τ (by
    refine ldcAgain (s := s) (vm0 := T5.vm) X9 hx hZ hown (hw _ (List.mem_of_getElem? (i := 96) rfl)) Lit5 (g := (mkF m 18 #[.val (.ref sa), .val (.ref ca), .val (.int (0 : Int32)), .val (.int (0 : Int32)), .val .null, .unset] [(.ref sa)])) rfl (hb hby d4_18) _ ?_
    show Steps p.tables e below (T9.setTop (mkF m 20 #[.val (.ref sa), .val (.ref ca), .val (.int (0 : Int32)), .val (.int (0 : Int32)), .val .null, .unset] [(.ref li), (.ref sa)])) _
    exact κ)
  obtain ⟨T13, X13, e13, st13⟩ := getF X9 hx hZ hown (host := "") (Or.inl (hw _ (List.mem_of_getElem? (i := 35) rfl))) Via.refl e9 Fc5_9 (g := (mkF m 20 #[.val (.ref sa), .val (.ref ca), .val (.int (0 : Int32)), .val (.int (0 : Int32)), .val .null, .unset] [(.ref li), (.ref sa)])) rfl rfl (hb hby d4_20)
  have pre14 := fun τ (κ : Steps p.tables e below (T13.setTop (mkF m 23 #[.val (.ref sa), .val (.ref ca), .val (.int (0 : Int32)), .val (.int (0 : Int32)), .val .null, .unset] [(.int (0 : Int32)), (.ref sa)])) τ) => pre12 τ (st13 _ κ)
  obtain ⟨T15, h15, X15, e15, W15, st15⟩ := putF X13 hx hZ hown (host := "") (Or.inl (hw _ (List.mem_of_getElem? (i := 35) rfl))) Via.refl e13 Fc_9 E_s_9 (Or.inr ⟨(hw _ (List.mem_of_getElem? (i := 36) rfl)), rfl, hnm⟩) (hw _ (List.mem_of_getElem? (i := 11) rfl)) (ty := .byte) (by decide) rfl rfl (g := (mkF m 23 #[.val (.ref sa), .val (.ref ca), .val (.int (0 : Int32)), .val (.int (0 : Int32)), .val .null, .unset] [(.int (0 : Int32)), (.ref sa)])) rfl rfl (hb hby d4_23)
  have E_s_15 : Exa Z h15 sa "java/lang/String" := E_s_9.wr W15
  have A5_15 : Exa Z h15 li "java/lang/String" := A5_9.wr W15
  have Fc5_15 : Fld Z h15 li "java/lang/String" "coder" "B" (.int (0 : Int32)) := Fc5_9.other W15 (Or.inl (Ne.symm ne_sa_li))
  have Fv5_15 : Fld Z h15 li "java/lang/String" "value" "[B" (.ref eb) := Fv5_9.other W15 (Or.inl (Ne.symm ne_sa_li))
  have V5_15 : Arv Z h15 eb kb5 .byte (0 : Int32) [] (.int (0 : Int32)) := V5_9.other W15 (Ne.symm ne_sa_eb)
  have F_value_sa_15 : Fld Z h15 sa "java/lang/String" "value" "[B" (.ref eb) := F_value_sa_9.other W15 (Or.inr (slot_ne (Or.inr (hw _ (List.mem_of_getElem? (i := 38) rfl))) (Or.inr (hw _ (List.mem_of_getElem? (i := 36) rfl))) (by decide) (t := (.array .byte)) (t' := .byte) (by decide) (by decide)))
  have Kp15 : Keep h0 h15 [sa] := Kp9.wr W15 (Or.inl (List.mem_of_getElem? (i := 0) rfl))
  have N15 := Fr.snoc X15 N9 gs
  have Z15 : n0 ≤ h15.size := Nat.le_trans Z9 (Keep.of_wr W15).1
  have hks : ks5 ≤ h15.size := Nat.le_trans hks (Keep.of_wr W15).1
  have F_coder_sa_15 : Fld Z h15 sa "java/lang/String" "coder" "B" (.int (0 : Int32)) := Fc_9.same W15
  have pre16 := fun τ (κ : Steps p.tables e below (T15.setTop (mkF m 26 #[.val (.ref sa), .val (.ref ca), .val (.int (0 : Int32)), .val (.int (0 : Int32)), .val .null, .unset] [])) τ) => pre14 τ (st15 _ κ)
  have R2 := R1.trans (CHr.wr W15 Sf2 R1.1)
  have R3 := R2.trans (CHv.at (s := s) (vm0 := T5.vm) X15 hZ hEL R2.1)
  obtain ⟨fs, hr, hrun, hended, hEnd⟩ := Stand.leaveW (s := s) (vm₁ := T5.vm) X15 hS5 (by rw [e15]; exact hks) (v := none) (fun _ => rfl)
  refine ⟨_, _, pre16 _ ?_, hrun, hended, _, _, rfl, ?_, ?_, ⟨hEnd.1, hEnd.2.1, hEnd.2.2.1, hEnd.2.2.2.mono (by decide) (by decide)⟩⟩
  · exact X15.returnOut hx Bd.returns (hb hby d4_26) hr
  · show Q4e Z sa ca f h0 n0 _ T15.heap _
    rw [e15]
    exact ⟨rfl, N15, Kp15, eb, 0, E_s_15, F_value_sa_15, F_coder_sa_15, kb5, Or.inl ⟨rfl, fun j hj => absurd hj (by omega), V5_15⟩⟩
  · show CHr Z consts_1 s.vm s.heap T15.vm T15.heap
    rw [hh, e15]
    exact R3
theorem ef_3e (m : MethodId) (sa : Addr) (ca : Addr) : entryFrame m #[(.ref sa), (.ref ca)] 2 = mkF m 0 #[.val (.ref sa), .val (.ref ca)] [] := by first | (simp [entryFrame, mkF, argsToLocals, Value.category]; done) | rfl
def Q3e (Z : State) (sa : Addr) (ca : Addr) (f : Nat → Int32) (kc : ClassId) (h0 : Heap) (n0 : Nat) (v : Option Value) (h : Heap) (L : List Loc) : Prop := v = none ∧ Fr n0 L ∧ Keep h0 h [sa] ∧ own_STR Z h sa f 0
set_option maxRecDepth 65536 in
set_option maxHeartbeats 40000000 in
theorem rm3e (l : Launch) (Z : State) (a0 : Array Value) (hw : ∀ d ∈ tables_1, d.before a0 Z = true) (ws : List Jvm.Cond) (sa : Addr) (ca : Addr) (f : Nat → Int32) (kc : ClassId) (h0 : Heap) (n0 : Nat) (Z0 : n0 ≤ h0.size) (E_s : Exa Z h0 sa "java/lang/String") (Fv : Fld Z h0 sa "java/lang/String" "value" "[B" .null) (Fc : Fld Z h0 sa "java/lang/String" "coder" "B" (.int (0 : Int32))) (gs : n0 ≤ sa) (Vc : Arv Z h0 ca kc .char (0 : Int32) [] (.int (0 : Int32))) (hsc : sa ≠ ca) :
    MetFree l (⟨"java/lang/String", "<init>", "([C)V"⟩ : MethodName) (head1 (Jvm.Cond.code (⟨"java/lang/String", "<init>", "([C)V"⟩ : MethodName) jdk_42_method_3_code 2 none :: ws) ({ frames := 2, cells := 2, slots := 4, locals := 29 } : Room)) (fun α υ => α = #[(.ref sa), (.ref ca)] ∧ Z.Warmed39 υ.vm ∧ υ.heap = h0 ∧ CHv Z consts_1 υ.vm h0) (fun _ _ _ _ _ => True) (fun _ υ ω υ' => ∃ v L, ω = .returned v ∧ Q3e Z sa ca f kc h0 n0 v υ'.heap L ∧ CHr Z consts_1 υ.vm υ.heap υ'.vm υ'.heap ∧ ReturnedEndW υ ω υ' L ({ frames := 2, cells := 2, slots := 4, locals := 29 } : Room).cells ({ frames := 2, cells := 2, slots := 4, locals := 29 } : Room).slots) := by
  refine MetFree.of_bodySF (plainFor_of_name pn_java_lang_String) hisR ?_
  intro p e s m args below meth c s₁ Bd hml0 hP hK
  obtain ⟨rfl, hZ, hh, hC0⟩ := hP
  have hx := Bd.exec
  have hby := Bd.bytes
  have hml : c.maxLocals = 2 := hml0
  have hown : s.vm.findClass "java/lang/String" = some m.cls := findClass_of_methodNamed Bd.named
  have hnm := (name_of_methodNamed Bd.named Bd.method).1
  have X0 : Stand p l e ({ frames := 2, cells := 2, slots := 4, locals := 29 } : Room) s m #[(.ref sa), (.ref ca)] below meth c s₁ [] 0 0 := Stand.of_body Bd
  have e0 : s₁.heap = h0 := by rw [← hh, Bd.state]; rfl
  have N0 := Fr.nil n0
  have pre0 : ∀ τ, Steps p.tables e below (s₁.setTop (mkF m 0 #[.val (.ref sa), .val (.ref ca)] [])) τ → Steps p.tables e below (s₁.setTop (entryFrame m #[(.ref sa), (.ref ca)] 2)) τ := fun τ κ => castTop (ef_3e m sa ca) κ
  have hS0 : s.Since s.vm 0 := (State.WarmedH.refl s).since 0
  have hks : 0 ≤ h0.size := Nat.zero_le _
  have hEL := own_EL hw
  have Kp0 : Keep h0 h0 [sa] := Keep.refl _ _
  have pre1 := fun τ (κ : Steps p.tables e below (s₁.setTop (mkF m 4 #[.val (.ref sa), .val (.ref ca)] [(.ref ca), (.int (0 : Int32)), (.ref ca), (.ref sa)])) τ) => pre0 τ (by
    refine XS.aloadN X0.here hx rfl (hb hby d3_0) rfl rfl ?_
    refine XS.aloadN X0.here hx rfl (hb hby d3_1) rfl rfl ?_
    refine XS.iconst X0.here hx rfl (hb hby d3_2) ?_
    refine XS.aloadN X0.here hx rfl (hb hby d3_3) rfl rfl ?_
    show Steps p.tables e below (s₁.setTop (mkF m 4 #[.val (.ref sa), .val (.ref ca)] [(.ref ca), (.int (0 : Int32)), (.ref ca), (.ref sa)])) _
    exact κ)
  obtain ⟨cl2, Ar2, -, S2, M2, -, -⟩ := id Vc
  have pre3 := fun τ (κ : Steps p.tables e below (s₁.setTop (mkF m 6 #[.val (.ref sa), .val (.ref ca)] [.null, (.int (0 : Int32)), (.int (0 : Int32)), (.ref ca), (.ref sa)])) τ) => pre1 τ (by
    refine X0.arraylength hx (by rw [e0]; exact Ar2.1) (State.isArrayOf_alike hZ.alike Ar2.2.1) (g := (mkF m 4 #[.val (.ref sa), .val (.ref ca)] [(.ref ca), (.int (0 : Int32)), (.ref ca), (.ref sa)])) rfl rfl (hb hby d3_4) _ ?_
    rw [len_of S2 M2]
    show Steps p.tables e below (s₁.setTop (mkF m 5 #[.val (.ref sa), .val (.ref ca)] [(.int (0 : Int32)), (.int (0 : Int32)), (.ref ca), (.ref sa)])) _
    refine XS.aconstNull X0.here hx rfl (hb hby d3_5) ?_
    show Steps p.tables e below (s₁.setTop (mkF m 6 #[.val (.ref sa), .val (.ref ca)] [.null, (.int (0 : Int32)), (.int (0 : Int32)), (.ref ca), (.ref sa)])) _
    exact κ)
  obtain ⟨_, _, ⟨T4, L4, k4, n4⟩, -, X4, hS4, gr4, ⟨Lc4, hQ4, l4, y4, z4, C4⟩, st4⟩ := X0.specialBackS hx (y := (⟨"java/lang/String", "<init>", "([CIILjava/lang/Void;)V"⟩ : MethodName)) rfl hown (mvT hZ (hw _ (List.mem_of_getElem? (i := 16) rfl))) (mvT hZ (hw _ (List.mem_of_getElem? (i := 17) rfl))) (mvT hZ (hw _ (List.mem_of_getElem? (i := 19) rfl))) (by decide) (backOfSH (s := s) (vm0 := s.vm) (W := 0) (rm4e l Z a0 hw [] sa ca f h0 n0 Z0 E_s Fv Fc gs) hZ (hw _ (List.mem_of_getElem? (i := 19) rfl)) (hw _ (List.mem_of_getElem? (i := 12) rfl)) (Nat.le_of_ble_eq_true rfl) (Nat.le_of_ble_eq_true rfl) hEL hC0) (g := (mkF m 6 #[.val (.ref sa), .val (.ref ca)] [.null, (.int (0 : Int32)), (.int (0 : Int32)), (.ref ca), (.ref sa)])) rfl (by rw [hml]; rfl) (Steps.refl _) (a := sa) (argsL := [(.ref ca), (.int (0 : Int32)), (.int (0 : Int32)), .null]) (rest := []) (lenOf pd_7 rfl) rfl (by show 2 * 0 + _ ≤ _; exact Nat.le_of_eq rfl) (hb hby d3_6) (fun _ _ => ⟨rfl, e0, (by decide : 0 + 2 ≤ _), (by decide : 0 + 4 ≤ _)⟩)
  dsimp only [Pt.U, Pt.locs, Pt.cells, Pt.slots] at X4 l4 y4 z4 st4 hQ4 hS4 gr4 C4
  subst l4 y4 z4
  obtain ⟨X4, hSr4, hZ, hown⟩ := rebS (s := s) (vm0 := s.vm) hS0 (Nat.zero_le _) X4 hS4 gr4 hZ hown
  have hks := Nat.le_refl T4.heap.size
  obtain ⟨sx4, hsx4⟩ : ∃ z, z = s.setVm T4.vm := ⟨_, rfl⟩
  rw [← hsx4] at X4 hZ hown
  obtain ⟨rfl, Nq4, K4, P4⟩ := hQ4
  have E_s_4 : Exa Z T4.heap sa "java/lang/String" := E_s.keep K4
  have Vc_4 : Arv Z T4.heap ca kc .char (0 : Int32) [] (.int (0 : Int32)) := Vc.keep K4 (ninS (Ne.symm hsc) nin0)
  have Z4 : n0 ≤ T4.heap.size := Nat.le_trans Z0 K4.1
  have Kp4 : Keep h0 T4.heap [sa] := Kp0.trans K4 (allS (Or.inl (List.mem_of_getElem? (i := 0) rfl)) all0)
  have N4 := Fr.app N0 Nq4
  have pre5 := fun τ (κ : Steps p.tables e below (T4.setTop (mkF m 9 #[.val (.ref sa), .val (.ref ca)] [])) τ) => pre3 τ (st4.trans κ)
  rw [hsx4] at X4 hZ hown
  obtain ⟨fs, hr, hrun, hended, hEnd⟩ := Stand.leaveW (s := s) (vm₁ := T4.vm) X4 hSr4 hks (v := none) (fun _ => rfl)
  refine ⟨_, _, pre5 _ ?_, hrun, hended, _, _, rfl, ?_, ?_, ⟨hEnd.1, hEnd.2.1, hEnd.2.2.1, hEnd.2.2.2.mono (by decide) (by decide)⟩⟩
  · exact X4.returnOut hx Bd.returns (hb hby d3_9) hr
  · show Q3e Z sa ca f kc h0 n0 _ T4.heap _
    exact ⟨rfl, N4, Kp4, P4⟩
  · show CHr Z consts_1 s.vm s.heap T4.vm T4.heap
    rw [hh]
    exact C4
theorem ef_1 (m : MethodId) (x : Int64) (i : Int32) : entryFrame m #[(.long x), (.int i)] 3 = mkF m 0 #[.val (.long x), .second, .val (.int i)] [] := by first | (simp [entryFrame, mkF, argsToLocals, Value.category]; done) | rfl
def Q1 (Z : State) (x : Int64) (i : Int32) (h0 : Heap) (n0 : Nat) (v : Option Value) (h : Heap) (L : List Loc) : Prop := ∃ d : Int32, v = some (.int d) ∧ Fr n0 L ∧ h = h0
set_option maxRecDepth 65536 in
set_option maxHeartbeats 40000000 in
theorem rm1 (l : Launch) (Z : State) (a0 : Array Value) (hw : ∀ d ∈ tables_1, d.before a0 Z = true) (ws : List Jvm.Cond) (x : Int64) (i : Int32) (h0 : Heap) (n0 : Nat) (Z0 : n0 ≤ h0.size) :
    MetFree l (⟨"com/example/docket/docket/core/RsinIsValidPinLaw", "dig", "(JI)I"⟩ : MethodName) (head1 (Jvm.Cond.code (⟨"com/example/docket/docket/core/RsinIsValidPinLaw", "dig", "(JI)I"⟩ : MethodName) method_2_code 3 (some .int) :: ws) ({ frames := 0, cells := 0, slots := 0, locals := 0 } : Room)) (fun α υ => α = #[(.long x), (.int i)] ∧ Z.Warmed39 υ.vm ∧ υ.heap = h0) (fun _ _ _ _ _ => True) (fun _ υ ω υ' => ∃ v L, ω = .returned v ∧ Q1 Z x i h0 n0 v υ'.heap L ∧ FrameEnd υ ω υ' L ({ frames := 0, cells := 0, slots := 0, locals := 0 } : Room).cells ({ frames := 0, cells := 0, slots := 0, locals := 0 } : Room).slots) := by
  refine MetFree.of_bodySF (plainFor_of_name pn_com_example_docket_docket_core_RsinIsValidPinLaw) hisR ?_
  intro p e s m args below meth c s₁ Bd hml0 hP hK
  obtain ⟨rfl, hZ, hh⟩ := hP
  have hx := Bd.exec
  have hby := Bd.bytes
  have hml : c.maxLocals = 3 := hml0
  have hown : s.vm.findClass "com/example/docket/docket/core/RsinIsValidPinLaw" = some m.cls := findClass_of_methodNamed Bd.named
  have hnm := (name_of_methodNamed Bd.named Bd.method).1
  have X0 : Stand p l e ({ frames := 0, cells := 0, slots := 0, locals := 0 } : Room) s m #[(.long x), (.int i)] below meth c s₁ [] 0 0 := Stand.of_body Bd
  have e0 : s₁.heap = h0 := by rw [← hh, Bd.state]; rfl
  have N0 := Fr.nil n0
  have pre0 : ∀ τ, Steps p.tables e below (s₁.setTop (mkF m 0 #[.val (.long x), .second, .val (.int i)] [])) τ → Steps p.tables e below (s₁.setTop (entryFrame m #[(.long x), (.int i)] 3)) τ := fun τ κ => castTop (ef_1 m x i) κ
  have pre1 := fun τ (κ : Steps p.tables e below (s₁.setTop (mkF m 14 #[.val (.long x), .second, .val (.int i)] [(.int (((((x.toUInt64 >>> (((4 : Int32) * i) &&& 0x3f).toInt64.toUInt64).toInt64) &&& (15 : Int64)) - ((((x.toUInt64 >>> (((4 : Int32) * i) &&& 0x3f).toInt64.toUInt64).toInt64) &&& (15 : Int64)) / (10 : Int64)) * (10 : Int64)).toInt32))])) τ) => pre0 τ (by
    refine XS.lloadN X0.here hx rfl (hb hby d1_0) rfl ?_
    refine XS.iconst X0.here hx rfl (hb hby d1_1) ?_
    refine XS.iloadN X0.here hx rfl (hb hby d1_2) rfl ?_
    refine XS.imul X0.here hx rfl (hb hby d1_3) rfl ?_
    show Steps p.tables e below (s₁.setTop (mkF m 4 #[.val (.long x), .second, .val (.int i)] [(.int ((4 : Int32) * i)), (.long x)])) _
    refine XS.lushr X0.here hx rfl (hb hby d1_4) rfl ?_
    show Steps p.tables e below (s₁.setTop (mkF m 5 #[.val (.long x), .second, .val (.int i)] [(.long ((x.toUInt64 >>> (((4 : Int32) * i) &&& 0x3f).toInt64.toUInt64).toInt64))])) _
    refine X0.ldc2Long hx hown (mvT hZ (hw _ (List.mem_of_getElem? (i := 4) rfl))) (g := (mkF m 5 #[.val (.long x), .second, .val (.int i)] [(.long ((x.toUInt64 >>> (((4 : Int32) * i) &&& 0x3f).toInt64.toUInt64).toInt64))])) rfl (hb hby d1_5) _ ?_
    show Steps p.tables e below (s₁.setTop (mkF m 8 #[.val (.long x), .second, .val (.int i)] [(.long (15 : Int64)), (.long ((x.toUInt64 >>> (((4 : Int32) * i) &&& 0x3f).toInt64.toUInt64).toInt64))])) _
    refine XS.land X0.here hx rfl (hb hby d1_8) rfl ?_
    show Steps p.tables e below (s₁.setTop (mkF m 9 #[.val (.long x), .second, .val (.int i)] [(.long (((x.toUInt64 >>> (((4 : Int32) * i) &&& 0x3f).toInt64.toUInt64).toInt64) &&& (15 : Int64)))])) _
    refine X0.ldc2Long hx hown (mvT hZ (hw _ (List.mem_of_getElem? (i := 5) rfl))) (g := (mkF m 9 #[.val (.long x), .second, .val (.int i)] [(.long (((x.toUInt64 >>> (((4 : Int32) * i) &&& 0x3f).toInt64.toUInt64).toInt64) &&& (15 : Int64)))])) rfl (hb hby d1_9) _ ?_
    show Steps p.tables e below (s₁.setTop (mkF m 12 #[.val (.long x), .second, .val (.int i)] [(.long (10 : Int64)), (.long (((x.toUInt64 >>> (((4 : Int32) * i) &&& 0x3f).toInt64.toUInt64).toInt64) &&& (15 : Int64)))])) _
    refine XS.lrem X0.here hx rfl (hb hby d1_12) rfl (by decide) ?_
    show Steps p.tables e below (s₁.setTop (mkF m 13 #[.val (.long x), .second, .val (.int i)] [(.long ((((x.toUInt64 >>> (((4 : Int32) * i) &&& 0x3f).toInt64.toUInt64).toInt64) &&& (15 : Int64)) - ((((x.toUInt64 >>> (((4 : Int32) * i) &&& 0x3f).toInt64.toUInt64).toInt64) &&& (15 : Int64)) / (10 : Int64)) * (10 : Int64)))])) _
    refine XS.l2i X0.here hx rfl (hb hby d1_13) rfl ?_
    show Steps p.tables e below (s₁.setTop (mkF m 14 #[.val (.long x), .second, .val (.int i)] [(.int (((((x.toUInt64 >>> (((4 : Int32) * i) &&& 0x3f).toInt64.toUInt64).toInt64) &&& (15 : Int64)) - ((((x.toUInt64 >>> (((4 : Int32) * i) &&& 0x3f).toInt64.toUInt64).toInt64) &&& (15 : Int64)) / (10 : Int64)) * (10 : Int64)).toInt32))])) _
    exact κ)
  obtain ⟨fs, hr, hrun, hended, hW, hsame⟩ := X0.leave (v := some (.int (((((x.toUInt64 >>> (((4 : Int32) * i) &&& 0x3f).toInt64.toUInt64).toInt64) &&& (15 : Int64)) - ((((x.toUInt64 >>> (((4 : Int32) * i) &&& 0x3f).toInt64.toUInt64).toInt64) &&& (15 : Int64)) / (10 : Int64)) * (10 : Int64)).toInt32))) (fun h => by rw [Bd.returns] at h; cases h)
  refine ⟨_, _, pre1 _ ?_, hrun, hended, _, _, rfl, ?_, ⟨_, rfl⟩, hW, hsame.mono (by decide) (by decide)⟩
  · exact retI X0 hx Bd.returns (hb hby d1_14) hr
  · show Q1 Z x i h0 n0 _ s₁.heap _
    rw [e0]
    exact ⟨_, rfl, N0, rfl⟩
theorem ef_2 (m : MethodId) (x : Int32) : entryFrame m #[(.int x)] 1 = mkF m 0 #[.val (.int x)] [] := by first | (simp [entryFrame, mkF, argsToLocals, Value.category]; done) | rfl
def Q2 (Z : State) (x : Int32) (h0 : Heap) (n0 : Nat) (v : Option Value) (h : Heap) (L : List Loc) : Prop := v = some (.int (if ¬ x < 48 ∧ ¬ (57 : Int32) < x then 1 else 0)) ∧ Fr n0 L ∧ h = h0
set_option maxRecDepth 65536 in
set_option maxHeartbeats 40000000 in
theorem rm2 (l : Launch) (Z : State) (a0 : Array Value) (hw : ∀ d ∈ tables_1, d.before a0 Z = true) (ws : List Jvm.Cond) (x : Int32) (h0 : Heap) (n0 : Nat) (Z0 : n0 ≤ h0.size) :
    MetFree l (⟨"com/example/docket/docket/core/RsinIsValidPinLaw", "isDig", "(C)Z"⟩ : MethodName) (head1 (Jvm.Cond.code (⟨"com/example/docket/docket/core/RsinIsValidPinLaw", "isDig", "(C)Z"⟩ : MethodName) method_3_code 1 (some .boolean) :: ws) ({ frames := 0, cells := 0, slots := 0, locals := 0 } : Room)) (fun α υ => α = #[(.int x)] ∧ Z.Warmed39 υ.vm ∧ υ.heap = h0) (fun _ _ _ _ _ => True) (fun _ υ ω υ' => ∃ v L, ω = .returned v ∧ Q2 Z x h0 n0 v υ'.heap L ∧ FrameEnd υ ω υ' L ({ frames := 0, cells := 0, slots := 0, locals := 0 } : Room).cells ({ frames := 0, cells := 0, slots := 0, locals := 0 } : Room).slots) := by
  refine MetFree.of_bodySF (plainFor_of_name pn_com_example_docket_docket_core_RsinIsValidPinLaw) hisR ?_
  intro p e s m args below meth c s₁ Bd hml0 hP hK
  obtain ⟨rfl, hZ, hh⟩ := hP
  have hx := Bd.exec
  have hby := Bd.bytes
  have hml : c.maxLocals = 1 := hml0
  have hown : s.vm.findClass "com/example/docket/docket/core/RsinIsValidPinLaw" = some m.cls := findClass_of_methodNamed Bd.named
  have hnm := (name_of_methodNamed Bd.named Bd.method).1
  have X0 : Stand p l e ({ frames := 0, cells := 0, slots := 0, locals := 0 } : Room) s m #[(.int x)] below meth c s₁ [] 0 0 := Stand.of_body Bd
  have e0 : s₁.heap = h0 := by rw [← hh, Bd.state]; rfl
  have N0 := Fr.nil n0
  have pre0 : ∀ τ, Steps p.tables e below (s₁.setTop (mkF m 0 #[.val (.int x)] [])) τ → Steps p.tables e below (s₁.setTop (entryFrame m #[(.int x)] 1)) τ := fun τ κ => castTop (ef_2 m x) κ
  have pre1 := fun τ (κ : Steps p.tables e below (s₁.setTop (mkF m 3 #[.val (.int x)] [(.int (48 : Int32)), (.int x)])) τ) => pre0 τ (by
    refine XS.iloadN X0.here hx rfl (hb hby d2_0) rfl ?_
    refine XS.bipush X0.here hx rfl (hb hby d2_1) ?_
    show Steps p.tables e below (s₁.setTop (mkF m 3 #[.val (.int x)] [(.int (48 : Int32)), (.int x)])) _
    exact κ)
  by_cases hq : x < (48 : Int32)
  · have pre2 := fun τ (κ : Steps p.tables e below (s₁.setTop (mkF m 17 #[.val (.int x)] [(.int (0 : Int32))])) τ) => pre1 τ (by
      refine XS.icmpYes X0.here hx rfl (pc0 := 3) (pc' := 16) rfl (hb hby d2_3) rfl (tlt hq).1 (by decide) (by decide) ?_
      show Steps p.tables e below (s₁.setTop (mkF m 16 #[.val (.int x)] [])) _
      refine XS.iconst X0.here hx rfl (hb hby d2_16) ?_
      show Steps p.tables e below (s₁.setTop (mkF m 17 #[.val (.int x)] [(.int (0 : Int32))])) _
      exact κ)
    obtain ⟨fs, hr, hrun, hended, hW, hsame⟩ := X0.leave (v := some (.int (0 : Int32))) (fun h => by rw [Bd.returns] at h; cases h)
    refine ⟨_, _, pre2 _ ?_, hrun, hended, _, _, rfl, ?_, ⟨_, rfl⟩, hW, hsame.mono (by decide) (by decide)⟩
    · exact retN X0 hx (t := .boolean) Bd.returns (by simp) (hb hby d2_17) hr
    · show Q2 Z x h0 n0 _ s₁.heap _
      rw [e0]
      exact ⟨(by rw [if_neg fun z => z.1 hq]), N0, rfl⟩
  · have pre3 := fun τ (κ : Steps p.tables e below (s₁.setTop (mkF m 9 #[.val (.int x)] [(.int (57 : Int32)), (.int x)])) τ) => pre1 τ (by
      refine XS.icmpNo X0.here hx rfl (hb hby d2_3) rfl (flt hq).1 ?_
      show Steps p.tables e below (s₁.setTop (mkF m 6 #[.val (.int x)] [])) _
      refine XS.iloadN X0.here hx rfl (hb hby d2_6) rfl ?_
      refine XS.bipush X0.here hx rfl (hb hby d2_7) ?_
      show Steps p.tables e below (s₁.setTop (mkF m 9 #[.val (.int x)] [(.int (57 : Int32)), (.int x)])) _
      exact κ)
    by_cases hq2 : (57 : Int32) < x
    · have pre4 := fun τ (κ : Steps p.tables e below (s₁.setTop (mkF m 17 #[.val (.int x)] [(.int (0 : Int32))])) τ) => pre3 τ (by
        refine XS.icmpYes X0.here hx rfl (pc0 := 9) (pc' := 16) rfl (hb hby d2_9) rfl (tlt hq2).2.2.1 (by decide) (by decide) ?_
        show Steps p.tables e below (s₁.setTop (mkF m 16 #[.val (.int x)] [])) _
        refine XS.iconst X0.here hx rfl (hb hby d2_16) ?_
        show Steps p.tables e below (s₁.setTop (mkF m 17 #[.val (.int x)] [(.int (0 : Int32))])) _
        exact κ)
      obtain ⟨fs, hr, hrun, hended, hW, hsame⟩ := X0.leave (v := some (.int (0 : Int32))) (fun h => by rw [Bd.returns] at h; cases h)
      refine ⟨_, _, pre4 _ ?_, hrun, hended, _, _, rfl, ?_, ⟨_, rfl⟩, hW, hsame.mono (by decide) (by decide)⟩
      · exact retN X0 hx (t := .boolean) Bd.returns (by simp) (hb hby d2_17) hr
      · show Q2 Z x h0 n0 _ s₁.heap _
        rw [e0]
        exact ⟨(by rw [if_neg fun z => z.2 hq2]), N0, rfl⟩
    · have pre5 := fun τ (κ : Steps p.tables e below (s₁.setTop (mkF m 17 #[.val (.int x)] [(.int (1 : Int32))])) τ) => pre3 τ (by
        refine XS.icmpNo X0.here hx rfl (hb hby d2_9) rfl (flt hq2).2.2.1 ?_
        show Steps p.tables e below (s₁.setTop (mkF m 12 #[.val (.int x)] [])) _
        refine XS.iconst X0.here hx rfl (hb hby d2_12) ?_
        refine XS.goto X0.here hx rfl (pc0 := 13) (pc' := 17) rfl (hb hby d2_13) (by decide) (by decide) ?_
        show Steps p.tables e below (s₁.setTop (mkF m 17 #[.val (.int x)] [(.int (1 : Int32))])) _
        exact κ)
      obtain ⟨fs, hr, hrun, hended, hW, hsame⟩ := X0.leave (v := some (.int (1 : Int32))) (fun h => by rw [Bd.returns] at h; cases h)
      refine ⟨_, _, pre5 _ ?_, hrun, hended, _, _, rfl, ?_, ⟨_, rfl⟩, hW, hsame.mono (by decide) (by decide)⟩
      · exact retN X0 hx (t := .boolean) Bd.returns (by simp) (hb hby d2_17) hr
      · show Q2 Z x h0 n0 _ s₁.heap _
        rw [e0]
        exact ⟨(by rw [if_pos ⟨hq, hq2⟩]), N0, rfl⟩
def own_su0 (f : Nat → Int32) : Int32 := ((0 : Int32) + (((9 : Int32) - (0 : Int32)) * ((f 0) - (48 : Int32))))
def own_su1 (f : Nat → Int32) : Int32 := ((own_su0 f) + (((9 : Int32) - (1 : Int32)) * ((f 1) - (48 : Int32))))
def own_su2 (f : Nat → Int32) : Int32 := ((own_su1 f) + (((9 : Int32) - (2 : Int32)) * ((f 2) - (48 : Int32))))
def own_su3 (f : Nat → Int32) : Int32 := ((own_su2 f) + (((9 : Int32) - (3 : Int32)) * ((f 3) - (48 : Int32))))
def own_su4 (f : Nat → Int32) : Int32 := ((own_su3 f) + (((9 : Int32) - (4 : Int32)) * ((f 4) - (48 : Int32))))
def own_su5 (f : Nat → Int32) : Int32 := ((own_su4 f) + (((9 : Int32) - (5 : Int32)) * ((f 5) - (48 : Int32))))
def own_su6 (f : Nat → Int32) : Int32 := ((own_su5 f) + (((9 : Int32) - (6 : Int32)) * ((f 6) - (48 : Int32))))
def own_su7 (f : Nat → Int32) : Int32 := ((own_su6 f) + (((9 : Int32) - (7 : Int32)) * ((f 7) - (48 : Int32))))
def own_su8 (f : Nat → Int32) : Int32 := ((own_su7 f) + ((-1 : Int32) * ((f 8) - (48 : Int32))))
def own_sum (f : Nat → Int32) : Int32 := (own_su8 f)
theorem ef_9 (m : MethodId) (sa : Addr) (n : Nat) (zc : Int32) (fm : Value) : entryFrame m #[(.ref sa)] 6 = mkF m 0 #[.val (.ref sa), .unset, .unset, .unset, .unset, .unset] [] := by first | (simp [entryFrame, mkF, argsToLocals, Value.category]; done) | rfl
def Q9 (Z : State) (sa : Addr) (n : Nat) (f : Nat → Int32) (zc : Int32) (fm : Value) (h0 : Heap) (n0 : Nat) (v : Option Value) (h : Heap) (L : List Loc) : Prop := ∃ r : Int32, v = some (.int r) ∧ Fr n0 L ∧ h = h0 ∧ (n ≠ 9 → r = 0) ∧ (n = 9 → (own_ok f → r = if own_sum f % 11 = 0 then 1 else 0) ∧ (¬ own_ok f → r = 0))
set_option maxRecDepth 65536 in
set_option maxHeartbeats 40000000 in
theorem rm9 (l : Launch) (Z : State) (a0 : Array Value) (hw : ∀ d ∈ tables_1, d.before a0 Z = true) (ws : List Jvm.Cond) (sa : Addr) (n : Nat) (f : Nat → Int32) (zc : Int32) (fm : Value) (h0 : Heap) (n0 : Nat) (Z0 : n0 ≤ h0.size) (O0 : Old Z n0 h0) (U0 : own_ST Z zc fm) (P0 : own_STR Z h0 sa f n) (hn : n ≤ 16) (hf : ∀ j, j < n → own_ch (f j)) :
    MetFree l (⟨"com/example/docket/docket/core/Rsin", "isValid", "(Ljava/lang/String;)Z"⟩ : MethodName) (head1 (Jvm.Cond.code (⟨"com/example/docket/docket/core/Rsin", "isValid", "(Ljava/lang/String;)Z"⟩ : MethodName) prog_14_method_2_code 6 (some .boolean) :: ws) ({ frames := 5, cells := 0, slots := 0, locals := 66 } : Room)) (fun α υ => α = #[(.ref sa)] ∧ Z.Warmed39 υ.vm ∧ υ.heap = h0) (fun _ _ _ _ _ => True) (fun _ υ ω υ' => ∃ v L, ω = .returned v ∧ Q9 Z sa n f zc fm h0 n0 v υ'.heap L ∧ FrameEnd υ ω υ' L ({ frames := 5, cells := 0, slots := 0, locals := 66 } : Room).cells ({ frames := 5, cells := 0, slots := 0, locals := 66 } : Room).slots) := by
  refine MetFree.of_bodySF (plainFor_of_name pn_com_example_docket_docket_core_Rsin) hisR ?_
  intro p e s m args below meth c s₁ Bd hml0 hP hK
  obtain ⟨rfl, hZ, hh⟩ := hP
  have hx := Bd.exec
  have hby := Bd.bytes
  have hml : c.maxLocals = 6 := hml0
  have hown : s.vm.findClass "com/example/docket/docket/core/Rsin" = some m.cls := findClass_of_methodNamed Bd.named
  have hnm := (name_of_methodNamed Bd.named Bd.method).1
  have X0 : Stand p l e ({ frames := 5, cells := 0, slots := 0, locals := 66 } : Room) s m #[(.ref sa)] below meth c s₁ [] 0 0 := Stand.of_body Bd
  have e0 : s₁.heap = h0 := by rw [← hh, Bd.state]; rfl
  have N0 := Fr.nil n0
  have pre0 : ∀ τ, Steps p.tables e below (s₁.setTop (mkF m 0 #[.val (.ref sa), .unset, .unset, .unset, .unset, .unset] [])) τ → Steps p.tables e below (s₁.setTop (entryFrame m #[(.ref sa)] 6)) τ := fun τ κ => castTop (ef_9 m sa n zc fm) κ
  have E_s := P0.exa
  have pre1 := fun τ (κ : Steps p.tables e below (s₁.setTop (mkF m 1 #[.val (.ref sa), .unset, .unset, .unset, .unset, .unset] [(.ref sa)])) τ) => pre0 τ (by
    refine XS.aloadN X0.here hx rfl (hb hby d9_0) rfl rfl ?_
    show Steps p.tables e below (s₁.setTop (mkF m 1 #[.val (.ref sa), .unset, .unset, .unset, .unset, .unset] [(.ref sa)])) _
    exact κ)
  obtain ⟨cq2, kq2, q2a, q2b, q2c⟩ := isOf hZ e0 E_s
  obtain ⟨_, _, ⟨T2, L2, k2, n2⟩, -, X2, ⟨Lc2, hQ2, l2, y2, z2⟩, st2⟩ := X0.virtualBack hx (y := (⟨"java/lang/String", "length", "()I"⟩ : MethodName)) (z := (⟨"java/lang/String", "length", "()I"⟩ : MethodName)) hown (mvT hZ (hw _ (List.mem_of_getElem? (i := 43) rfl))) (mvT hZ (hw _ (List.mem_of_getElem? (i := 44) rfl))) (notFace_of_selects (args := #[]) (mvT hZ (hw _ (List.mem_of_getElem? (i := 46) rfl)))) (mvT hZ (hw _ (List.mem_of_getElem? (i := 46) rfl))) (mvT hZ (hw _ (List.mem_of_getElem? (i := 45) rfl))) (by decide) (backOf (W := 0) (rm10 l Z a0 hw [] sa n f zc fm h0 n0 Z0 O0 U0 P0 hn) hZ (hw _ (List.mem_of_getElem? (i := 47) rfl)) (hw _ (List.mem_of_getElem? (i := 12) rfl)) (Nat.le_of_ble_eq_true rfl) (Nat.le_of_ble_eq_true rfl)) q2a q2c (g := (mkF m 1 #[.val (.ref sa), .unset, .unset, .unset, .unset, .unset] [(.ref sa)])) rfl (by rw [hml]; rfl) (Steps.refl _) (argsL := []) (rest := []) (lenOf pd_14 rfl) rfl (by show 2 * 0 + _ ≤ _; exact Nat.le_of_eq rfl) (hb hby d9_1) (fun _ _ => ⟨rfl, e0, (by decide : 0 + 0 ≤ _), (by decide : 0 + 0 ≤ _)⟩)
  dsimp only [Pt.U, Pt.locs, Pt.cells, Pt.slots] at X2 l2 y2 z2 st2 hQ2
  subst l2 y2 z2
  obtain ⟨rfl, Nq2, hh2⟩ := hQ2
  have O0_2 : Old Z n0 T2.heap := by rw [hh2]; exact O0
  have P0_2 : own_STR Z T2.heap sa f n := by rw [hh2]; exact P0
  have E_s_2 : Exa Z T2.heap sa "java/lang/String" := by rw [hh2]; exact E_s
  have Z2 : n0 ≤ T2.heap.size := by rw [hh2]; exact Z0
  have N2 := Fr.app N0 Nq2
  have pre3 := fun τ (κ : Steps p.tables e below (T2.setTop (mkF m 4 #[.val (.ref sa), .unset, .unset, .unset, .unset, .unset] [(.int (Int32.ofNat n))])) τ) => pre1 τ (st2.trans κ)
  have pre4 := fun τ (κ : Steps p.tables e below (T2.setTop (mkF m 6 #[.val (.ref sa), .unset, .unset, .unset, .unset, .unset] [(.int (9 : Int32)), (.int (Int32.ofNat n))])) τ) => pre3 τ (by
    refine XS.bipush X2.here hx rfl (hb hby d9_4) ?_
    show Steps p.tables e below (T2.setTop (mkF m 6 #[.val (.ref sa), .unset, .unset, .unset, .unset, .unset] [(.int (9 : Int32)), (.int (Int32.ofNat n))])) _
    exact κ)
  by_cases h9 : (Int32.ofNat n) = (9 : Int32)
  · have hn9 : n = 9 := (own_injN (j := 9) (by omega) (by omega)).mp h9
    have pre5 := fun τ (κ : Steps p.tables e below (T2.setTop (mkF m 23 #[.val (.ref sa), .val (.int (0 : Int32)), .val (.int (0 : Int32)), .unset, .unset, .unset] [(.int (0 : Int32)), (.ref sa)])) τ) => pre4 τ (by
      refine XS.icmpYes X2.here hx rfl (pc0 := 6) (pc' := 11) rfl (hb hby d9_6) rfl (teq h9).1 (by decide) (by decide) ?_
      show Steps p.tables e below (T2.setTop (mkF m 11 #[.val (.ref sa), .unset, .unset, .unset, .unset, .unset] [])) _
      refine XS.iconst X2.here hx rfl (hb hby d9_11) ?_
      refine XS.istoreN X2.here hx rfl (hb hby d9_12) rfl (l' := #[.val (.ref sa), .val (.int (0 : Int32)), .unset, .unset, .unset, .unset]) rfl ?_
      show Steps p.tables e below (T2.setTop (mkF m 13 #[.val (.ref sa), .val (.int (0 : Int32)), .unset, .unset, .unset, .unset] [])) _
      refine XS.iconst X2.here hx rfl (hb hby d9_13) ?_
      refine XS.istoreN X2.here hx rfl (hb hby d9_14) rfl (l' := #[.val (.ref sa), .val (.int (0 : Int32)), .val (.int (0 : Int32)), .unset, .unset, .unset]) rfl ?_
      show Steps p.tables e below (T2.setTop (mkF m 15 #[.val (.ref sa), .val (.int (0 : Int32)), .val (.int (0 : Int32)), .unset, .unset, .unset] [])) _
      refine XS.iloadN X2.here hx rfl (hb hby d9_15) rfl ?_
      refine XS.bipush X2.here hx rfl (hb hby d9_16) ?_
      refine XS.icmpNo X2.here hx rfl (hb hby d9_18) rfl (tlt (by decide)).2.1 ?_
      show Steps p.tables e below (T2.setTop (mkF m 21 #[.val (.ref sa), .val (.int (0 : Int32)), .val (.int (0 : Int32)), .unset, .unset, .unset] [])) _
      refine XS.aloadN X2.here hx rfl (hb hby d9_21) rfl rfl ?_
      refine XS.iloadN X2.here hx rfl (hb hby d9_22) rfl ?_
      show Steps p.tables e below (T2.setTop (mkF m 23 #[.val (.ref sa), .val (.int (0 : Int32)), .val (.int (0 : Int32)), .unset, .unset, .unset] [(.int (0 : Int32)), (.ref sa)])) _
      exact κ)
    obtain ⟨cq6, kq6, q6a, q6b, q6c⟩ := isOf hZ rfl E_s_2
    obtain ⟨_, _, ⟨T6, L6, k6, n6⟩, -, X6, ⟨Lc6, hQ6, l6, y6, z6⟩, st6⟩ := X2.virtualBack hx (y := (⟨"java/lang/String", "charAt", "(I)C"⟩ : MethodName)) (z := (⟨"java/lang/String", "charAt", "(I)C"⟩ : MethodName)) hown (mvT hZ (hw _ (List.mem_of_getElem? (i := 53) rfl))) (mvT hZ (hw _ (List.mem_of_getElem? (i := 54) rfl))) (notFace_of_selects (args := #[]) (mvT hZ (hw _ (List.mem_of_getElem? (i := 56) rfl)))) (mvT hZ (hw _ (List.mem_of_getElem? (i := 56) rfl))) (mvT hZ (hw _ (List.mem_of_getElem? (i := 55) rfl))) (by decide) (backOf (W := 0) (rm12 l Z a0 hw [] sa 0 n f zc fm T2.heap n0 Z2 O0_2 U0 P0_2 hn (by omega) (hf 0 (by omega))) hZ (hw _ (List.mem_of_getElem? (i := 57) rfl)) (hw _ (List.mem_of_getElem? (i := 12) rfl)) (Nat.le_of_ble_eq_true rfl) (Nat.le_of_ble_eq_true rfl)) q6a q6c (g := (mkF m 23 #[.val (.ref sa), .val (.int (0 : Int32)), .val (.int (0 : Int32)), .unset, .unset, .unset] [(.int (0 : Int32)), (.ref sa)])) rfl (by rw [hml]; rfl) (Steps.refl _) (argsL := [(.int (0 : Int32))]) (rest := []) (lenOf pd_15 rfl) rfl (by show 2 * 0 + _ ≤ _; exact Nat.le_of_eq rfl) (hb hby d9_23) (fun _ _ => ⟨rfl, rfl, (by decide : 0 + 0 ≤ _), (by decide : 0 + 0 ≤ _)⟩)
    dsimp only [Pt.U, Pt.locs, Pt.cells, Pt.slots] at X6 l6 y6 z6 st6 hQ6
    subst l6 y6 z6
    obtain ⟨rfl, Nq6, hh6⟩ := hQ6
    have O0_6 : Old Z n0 T6.heap := by rw [hh6]; exact O0_2
    have P0_6 : own_STR Z T6.heap sa f n := by rw [hh6]; exact P0_2
    have E_s_6 : Exa Z T6.heap sa "java/lang/String" := by rw [hh6]; exact E_s_2
    have Z6 : n0 ≤ T6.heap.size := by rw [hh6]; exact Z2
    have N6 := Fr.app N2 Nq6
    have pre7 := fun τ (κ : Steps p.tables e below (T6.setTop (mkF m 26 #[.val (.ref sa), .val (.int (0 : Int32)), .val (.int (0 : Int32)), .unset, .unset, .unset] [(.int (f 0))])) τ) => pre5 τ (st6.trans κ)
    have pre8 := fun τ (κ : Steps p.tables e below (T6.setTop (mkF m 30 #[.val (.ref sa), .val (.int (0 : Int32)), .val (.int (0 : Int32)), .val (.int (f 0)), .unset, .unset] [(.int (48 : Int32)), (.int (f 0))])) τ) => pre7 τ (by
      refine XS.istoreN X6.here hx rfl (hb hby d9_26) rfl (l' := #[.val (.ref sa), .val (.int (0 : Int32)), .val (.int (0 : Int32)), .val (.int (f 0)), .unset, .unset]) rfl ?_
      show Steps p.tables e below (T6.setTop (mkF m 27 #[.val (.ref sa), .val (.int (0 : Int32)), .val (.int (0 : Int32)), .val (.int (f 0)), .unset, .unset] [])) _
      refine XS.iloadN X6.here hx rfl (hb hby d9_27) rfl ?_
      refine XS.bipush X6.here hx rfl (hb hby d9_28) ?_
      show Steps p.tables e below (T6.setTop (mkF m 30 #[.val (.ref sa), .val (.int (0 : Int32)), .val (.int (0 : Int32)), .val (.int (f 0)), .unset, .unset] [(.int (48 : Int32)), (.int (f 0))])) _
      exact κ)
    by_cases hA0 : (f 0) < (48 : Int32)
    · have pre9 := fun τ (κ : Steps p.tables e below (T6.setTop (mkF m 40 #[.val (.ref sa), .val (.int (0 : Int32)), .val (.int (0 : Int32)), .val (.int (f 0)), .unset, .unset] [(.int (0 : Int32))])) τ) => pre8 τ (by
        refine XS.icmpYes X6.here hx rfl (pc0 := 30) (pc' := 39) rfl (hb hby d9_30) rfl (tlt hA0).1 (by decide) (by decide) ?_
        show Steps p.tables e below (T6.setTop (mkF m 39 #[.val (.ref sa), .val (.int (0 : Int32)), .val (.int (0 : Int32)), .val (.int (f 0)), .unset, .unset] [])) _
        refine XS.iconst X6.here hx rfl (hb hby d9_39) ?_
        show Steps p.tables e below (T6.setTop (mkF m 40 #[.val (.ref sa), .val (.int (0 : Int32)), .val (.int (0 : Int32)), .val (.int (f 0)), .unset, .unset] [(.int (0 : Int32))])) _
        exact κ)
      obtain ⟨fs, hr, hrun, hended, hW, hsame⟩ := X6.leave (v := some (.int (0 : Int32))) (fun h => by rw [Bd.returns] at h; cases h)
      refine ⟨_, _, pre9 _ ?_, hrun, hended, _, _, rfl, ?_, ⟨_, rfl⟩, hW, hsame.mono (by decide) (by decide)⟩
      · exact retN X6 hx (t := .boolean) Bd.returns (by simp) (hb hby d9_40) hr
      · show Q9 Z sa n f zc fm h0 n0 _ T6.heap _
        exact ⟨0, rfl, N6, (hh6.trans hh2), fun _ => rfl, fun _ => ⟨fun q => absurd hA0 (q 0 (by decide)).1, fun _ => rfl⟩⟩
    · have pre10 := fun τ (κ : Steps p.tables e below (T6.setTop (mkF m 36 #[.val (.ref sa), .val (.int (0 : Int32)), .val (.int (0 : Int32)), .val (.int (f 0)), .unset, .unset] [(.int (57 : Int32)), (.int (f 0))])) τ) => pre8 τ (by
        refine XS.icmpNo X6.here hx rfl (hb hby d9_30) rfl (flt hA0).1 ?_
        show Steps p.tables e below (T6.setTop (mkF m 33 #[.val (.ref sa), .val (.int (0 : Int32)), .val (.int (0 : Int32)), .val (.int (f 0)), .unset, .unset] [])) _
        refine XS.iloadN X6.here hx rfl (hb hby d9_33) rfl ?_
        refine XS.bipush X6.here hx rfl (hb hby d9_34) ?_
        show Steps p.tables e below (T6.setTop (mkF m 36 #[.val (.ref sa), .val (.int (0 : Int32)), .val (.int (0 : Int32)), .val (.int (f 0)), .unset, .unset] [(.int (57 : Int32)), (.int (f 0))])) _
        exact κ)
      by_cases hB0 : (57 : Int32) < (f 0)
      · have pre11 := fun τ (κ : Steps p.tables e below (T6.setTop (mkF m 40 #[.val (.ref sa), .val (.int (0 : Int32)), .val (.int (0 : Int32)), .val (.int (f 0)), .unset, .unset] [(.int (0 : Int32))])) τ) => pre10 τ (by
          refine XS.icmpNo X6.here hx rfl (hb hby d9_36) rfl (tlt hB0).2.2.2 ?_
          show Steps p.tables e below (T6.setTop (mkF m 39 #[.val (.ref sa), .val (.int (0 : Int32)), .val (.int (0 : Int32)), .val (.int (f 0)), .unset, .unset] [])) _
          refine XS.iconst X6.here hx rfl (hb hby d9_39) ?_
          show Steps p.tables e below (T6.setTop (mkF m 40 #[.val (.ref sa), .val (.int (0 : Int32)), .val (.int (0 : Int32)), .val (.int (f 0)), .unset, .unset] [(.int (0 : Int32))])) _
          exact κ)
        obtain ⟨fs, hr, hrun, hended, hW, hsame⟩ := X6.leave (v := some (.int (0 : Int32))) (fun h => by rw [Bd.returns] at h; cases h)
        refine ⟨_, _, pre11 _ ?_, hrun, hended, _, _, rfl, ?_, ⟨_, rfl⟩, hW, hsame.mono (by decide) (by decide)⟩
        · exact retN X6 hx (t := .boolean) Bd.returns (by simp) (hb hby d9_40) hr
        · show Q9 Z sa n f zc fm h0 n0 _ T6.heap _
          exact ⟨0, rfl, N6, (hh6.trans hh2), fun _ => rfl, fun _ => ⟨fun q => absurd hB0 (q 0 (by decide)).2, fun _ => rfl⟩⟩
      · have pre12 := fun τ (κ : Steps p.tables e below (T6.setTop (mkF m 15 #[.val (.ref sa), .val (.int ((0 : Int32) + (((9 : Int32) - (0 : Int32)) * ((f 0) - (48 : Int32))))), .val (.int ((0 : Int32) + (1 : Int32))), .val (.int (f 0)), .val (.int ((f 0) - (48 : Int32))), .val (.int ((9 : Int32) - (0 : Int32)))] [])) τ) => pre10 τ (by
          refine XS.icmpYes X6.here hx rfl (pc0 := 36) (pc' := 41) rfl (hb hby d9_36) rfl (flt hB0).2.2.2 (by decide) (by decide) ?_
          show Steps p.tables e below (T6.setTop (mkF m 41 #[.val (.ref sa), .val (.int (0 : Int32)), .val (.int (0 : Int32)), .val (.int (f 0)), .unset, .unset] [])) _
          refine XS.iloadN X6.here hx rfl (hb hby d9_41) rfl ?_
          refine XS.bipush X6.here hx rfl (hb hby d9_42) ?_
          refine XS.isub X6.here hx rfl (hb hby d9_44) rfl ?_
          show Steps p.tables e below (T6.setTop (mkF m 45 #[.val (.ref sa), .val (.int (0 : Int32)), .val (.int (0 : Int32)), .val (.int (f 0)), .unset, .unset] [(.int ((f 0) - (48 : Int32)))])) _
          refine XS.istore X6.here hx rfl (hb hby d9_45) rfl (l' := #[.val (.ref sa), .val (.int (0 : Int32)), .val (.int (0 : Int32)), .val (.int (f 0)), .val (.int ((f 0) - (48 : Int32))), .unset]) rfl ?_
          show Steps p.tables e below (T6.setTop (mkF m 47 #[.val (.ref sa), .val (.int (0 : Int32)), .val (.int (0 : Int32)), .val (.int (f 0)), .val (.int ((f 0) - (48 : Int32))), .unset] [])) _
          refine XS.iloadN X6.here hx rfl (hb hby d9_47) rfl ?_
          refine XS.bipush X6.here hx rfl (hb hby d9_48) ?_
          refine XS.icmpNo X6.here hx rfl (hb hby d9_50) rfl (tlt (by decide)).2.1 ?_
          show Steps p.tables e below (T6.setTop (mkF m 53 #[.val (.ref sa), .val (.int (0 : Int32)), .val (.int (0 : Int32)), .val (.int (f 0)), .val (.int ((f 0) - (48 : Int32))), .unset] [])) _
          refine XS.bipush X6.here hx rfl (hb hby d9_53) ?_
          refine XS.iloadN X6.here hx rfl (hb hby d9_55) rfl ?_
          refine XS.isub X6.here hx rfl (hb hby d9_56) rfl ?_
          show Steps p.tables e below (T6.setTop (mkF m 57 #[.val (.ref sa), .val (.int (0 : Int32)), .val (.int (0 : Int32)), .val (.int (f 0)), .val (.int ((f 0) - (48 : Int32))), .unset] [(.int ((9 : Int32) - (0 : Int32)))])) _
          refine XS.goto X6.here hx rfl (pc0 := 57) (pc' := 61) rfl (hb hby d9_57) (by decide) (by decide) ?_
          show Steps p.tables e below (T6.setTop (mkF m 61 #[.val (.ref sa), .val (.int (0 : Int32)), .val (.int (0 : Int32)), .val (.int (f 0)), .val (.int ((f 0) - (48 : Int32))), .unset] [(.int ((9 : Int32) - (0 : Int32)))])) _
          refine XS.istore X6.here hx rfl (hb hby d9_61) rfl (l' := #[.val (.ref sa), .val (.int (0 : Int32)), .val (.int (0 : Int32)), .val (.int (f 0)), .val (.int ((f 0) - (48 : Int32))), .val (.int ((9 : Int32) - (0 : Int32)))]) rfl ?_
          show Steps p.tables e below (T6.setTop (mkF m 63 #[.val (.ref sa), .val (.int (0 : Int32)), .val (.int (0 : Int32)), .val (.int (f 0)), .val (.int ((f 0) - (48 : Int32))), .val (.int ((9 : Int32) - (0 : Int32)))] [])) _
          refine XS.iloadN X6.here hx rfl (hb hby d9_63) rfl ?_
          refine XS.iload X6.here hx rfl (hb hby d9_64) rfl ?_
          refine XS.iload X6.here hx rfl (hb hby d9_66) rfl ?_
          refine XS.imul X6.here hx rfl (hb hby d9_68) rfl ?_
          show Steps p.tables e below (T6.setTop (mkF m 69 #[.val (.ref sa), .val (.int (0 : Int32)), .val (.int (0 : Int32)), .val (.int (f 0)), .val (.int ((f 0) - (48 : Int32))), .val (.int ((9 : Int32) - (0 : Int32)))] [(.int (((9 : Int32) - (0 : Int32)) * ((f 0) - (48 : Int32)))), (.int (0 : Int32))])) _
          refine XS.iadd X6.here hx rfl (hb hby d9_69) rfl ?_
          show Steps p.tables e below (T6.setTop (mkF m 70 #[.val (.ref sa), .val (.int (0 : Int32)), .val (.int (0 : Int32)), .val (.int (f 0)), .val (.int ((f 0) - (48 : Int32))), .val (.int ((9 : Int32) - (0 : Int32)))] [(.int ((0 : Int32) + (((9 : Int32) - (0 : Int32)) * ((f 0) - (48 : Int32)))))])) _
          refine XS.istoreN X6.here hx rfl (hb hby d9_70) rfl (l' := #[.val (.ref sa), .val (.int ((0 : Int32) + (((9 : Int32) - (0 : Int32)) * ((f 0) - (48 : Int32))))), .val (.int (0 : Int32)), .val (.int (f 0)), .val (.int ((f 0) - (48 : Int32))), .val (.int ((9 : Int32) - (0 : Int32)))]) rfl ?_
          show Steps p.tables e below (T6.setTop (mkF m 71 #[.val (.ref sa), .val (.int ((0 : Int32) + (((9 : Int32) - (0 : Int32)) * ((f 0) - (48 : Int32))))), .val (.int (0 : Int32)), .val (.int (f 0)), .val (.int ((f 0) - (48 : Int32))), .val (.int ((9 : Int32) - (0 : Int32)))] [])) _
          refine XS.iinc X6.here hx rfl (hb hby d9_71) rfl (l' := #[.val (.ref sa), .val (.int ((0 : Int32) + (((9 : Int32) - (0 : Int32)) * ((f 0) - (48 : Int32))))), .val (.int ((0 : Int32) + (1 : Int32))), .val (.int (f 0)), .val (.int ((f 0) - (48 : Int32))), .val (.int ((9 : Int32) - (0 : Int32)))]) rfl ?_
          show Steps p.tables e below (T6.setTop (mkF m 74 #[.val (.ref sa), .val (.int ((0 : Int32) + (((9 : Int32) - (0 : Int32)) * ((f 0) - (48 : Int32))))), .val (.int ((0 : Int32) + (1 : Int32))), .val (.int (f 0)), .val (.int ((f 0) - (48 : Int32))), .val (.int ((9 : Int32) - (0 : Int32)))] [])) _
          refine XS.goto X6.here hx rfl (pc0 := 74) (pc' := 15) rfl (hb hby d9_74) (by decide) (by decide) ?_
          show Steps p.tables e below (T6.setTop (mkF m 15 #[.val (.ref sa), .val (.int ((0 : Int32) + (((9 : Int32) - (0 : Int32)) * ((f 0) - (48 : Int32))))), .val (.int ((0 : Int32) + (1 : Int32))), .val (.int (f 0)), .val (.int ((f 0) - (48 : Int32))), .val (.int ((9 : Int32) - (0 : Int32)))] [])) _
          exact κ)
        rw [show ((0 : Int32) + (1 : Int32)) = (1 : Int32) from (by decide)] at pre12
        rw [show ((0 : Int32) + (((9 : Int32) - (0 : Int32)) * ((f 0) - (48 : Int32)))) = (own_su0 f) from rfl] at pre12
        have pre13 := fun τ (κ : Steps p.tables e below (T6.setTop (mkF m 23 #[.val (.ref sa), .val (.int (own_su0 f)), .val (.int (1 : Int32)), .val (.int (f 0)), .val (.int ((f 0) - (48 : Int32))), .val (.int ((9 : Int32) - (0 : Int32)))] [(.int (1 : Int32)), (.ref sa)])) τ) => pre12 τ (by
          refine XS.iloadN X6.here hx rfl (hb hby d9_15) rfl ?_
          refine XS.bipush X6.here hx rfl (hb hby d9_16) ?_
          refine XS.icmpNo X6.here hx rfl (hb hby d9_18) rfl (tlt (by decide)).2.1 ?_
          show Steps p.tables e below (T6.setTop (mkF m 21 #[.val (.ref sa), .val (.int (own_su0 f)), .val (.int (1 : Int32)), .val (.int (f 0)), .val (.int ((f 0) - (48 : Int32))), .val (.int ((9 : Int32) - (0 : Int32)))] [])) _
          refine XS.aloadN X6.here hx rfl (hb hby d9_21) rfl rfl ?_
          refine XS.iloadN X6.here hx rfl (hb hby d9_22) rfl ?_
          show Steps p.tables e below (T6.setTop (mkF m 23 #[.val (.ref sa), .val (.int (own_su0 f)), .val (.int (1 : Int32)), .val (.int (f 0)), .val (.int ((f 0) - (48 : Int32))), .val (.int ((9 : Int32) - (0 : Int32)))] [(.int (1 : Int32)), (.ref sa)])) _
          exact κ)
        obtain ⟨cq14, kq14, q14a, q14b, q14c⟩ := isOf hZ rfl E_s_6
        obtain ⟨_, _, ⟨T14, L14, k14, n14⟩, -, X14, ⟨Lc14, hQ14, l14, y14, z14⟩, st14⟩ := X6.virtualBack hx (y := (⟨"java/lang/String", "charAt", "(I)C"⟩ : MethodName)) (z := (⟨"java/lang/String", "charAt", "(I)C"⟩ : MethodName)) hown (mvT hZ (hw _ (List.mem_of_getElem? (i := 53) rfl))) (mvT hZ (hw _ (List.mem_of_getElem? (i := 54) rfl))) (notFace_of_selects (args := #[]) (mvT hZ (hw _ (List.mem_of_getElem? (i := 56) rfl)))) (mvT hZ (hw _ (List.mem_of_getElem? (i := 56) rfl))) (mvT hZ (hw _ (List.mem_of_getElem? (i := 55) rfl))) (by decide) (backOf (W := 0) (rm12 l Z a0 hw [] sa 1 n f zc fm T6.heap n0 Z6 O0_6 U0 P0_6 hn (by omega) (hf 1 (by omega))) hZ (hw _ (List.mem_of_getElem? (i := 57) rfl)) (hw _ (List.mem_of_getElem? (i := 12) rfl)) (Nat.le_of_ble_eq_true rfl) (Nat.le_of_ble_eq_true rfl)) q14a q14c (g := (mkF m 23 #[.val (.ref sa), .val (.int (own_su0 f)), .val (.int (1 : Int32)), .val (.int (f 0)), .val (.int ((f 0) - (48 : Int32))), .val (.int ((9 : Int32) - (0 : Int32)))] [(.int (1 : Int32)), (.ref sa)])) rfl (by rw [hml]; rfl) (Steps.refl _) (argsL := [(.int (1 : Int32))]) (rest := []) (lenOf pd_15 rfl) rfl (by show 2 * 0 + _ ≤ _; exact Nat.le_of_eq rfl) (hb hby d9_23) (fun _ _ => ⟨rfl, rfl, (by decide : 0 + 0 ≤ _), (by decide : 0 + 0 ≤ _)⟩)
        dsimp only [Pt.U, Pt.locs, Pt.cells, Pt.slots] at X14 l14 y14 z14 st14 hQ14
        subst l14 y14 z14
        obtain ⟨rfl, Nq14, hh14⟩ := hQ14
        have O0_14 : Old Z n0 T14.heap := by rw [hh14]; exact O0_6
        have P0_14 : own_STR Z T14.heap sa f n := by rw [hh14]; exact P0_6
        have E_s_14 : Exa Z T14.heap sa "java/lang/String" := by rw [hh14]; exact E_s_6
        have Z14 : n0 ≤ T14.heap.size := by rw [hh14]; exact Z6
        have N14 := Fr.app N6 Nq14
        have pre15 := fun τ (κ : Steps p.tables e below (T14.setTop (mkF m 26 #[.val (.ref sa), .val (.int (own_su0 f)), .val (.int (1 : Int32)), .val (.int (f 0)), .val (.int ((f 0) - (48 : Int32))), .val (.int ((9 : Int32) - (0 : Int32)))] [(.int (f 1))])) τ) => pre13 τ (st14.trans κ)
        have pre16 := fun τ (κ : Steps p.tables e below (T14.setTop (mkF m 30 #[.val (.ref sa), .val (.int (own_su0 f)), .val (.int (1 : Int32)), .val (.int (f 1)), .val (.int ((f 0) - (48 : Int32))), .val (.int ((9 : Int32) - (0 : Int32)))] [(.int (48 : Int32)), (.int (f 1))])) τ) => pre15 τ (by
          refine XS.istoreN X14.here hx rfl (hb hby d9_26) rfl (l' := #[.val (.ref sa), .val (.int (own_su0 f)), .val (.int (1 : Int32)), .val (.int (f 1)), .val (.int ((f 0) - (48 : Int32))), .val (.int ((9 : Int32) - (0 : Int32)))]) rfl ?_
          show Steps p.tables e below (T14.setTop (mkF m 27 #[.val (.ref sa), .val (.int (own_su0 f)), .val (.int (1 : Int32)), .val (.int (f 1)), .val (.int ((f 0) - (48 : Int32))), .val (.int ((9 : Int32) - (0 : Int32)))] [])) _
          refine XS.iloadN X14.here hx rfl (hb hby d9_27) rfl ?_
          refine XS.bipush X14.here hx rfl (hb hby d9_28) ?_
          show Steps p.tables e below (T14.setTop (mkF m 30 #[.val (.ref sa), .val (.int (own_su0 f)), .val (.int (1 : Int32)), .val (.int (f 1)), .val (.int ((f 0) - (48 : Int32))), .val (.int ((9 : Int32) - (0 : Int32)))] [(.int (48 : Int32)), (.int (f 1))])) _
          exact κ)
        by_cases hA1 : (f 1) < (48 : Int32)
        · have pre17 := fun τ (κ : Steps p.tables e below (T14.setTop (mkF m 40 #[.val (.ref sa), .val (.int (own_su0 f)), .val (.int (1 : Int32)), .val (.int (f 1)), .val (.int ((f 0) - (48 : Int32))), .val (.int ((9 : Int32) - (0 : Int32)))] [(.int (0 : Int32))])) τ) => pre16 τ (by
            refine XS.icmpYes X14.here hx rfl (pc0 := 30) (pc' := 39) rfl (hb hby d9_30) rfl (tlt hA1).1 (by decide) (by decide) ?_
            show Steps p.tables e below (T14.setTop (mkF m 39 #[.val (.ref sa), .val (.int (own_su0 f)), .val (.int (1 : Int32)), .val (.int (f 1)), .val (.int ((f 0) - (48 : Int32))), .val (.int ((9 : Int32) - (0 : Int32)))] [])) _
            refine XS.iconst X14.here hx rfl (hb hby d9_39) ?_
            show Steps p.tables e below (T14.setTop (mkF m 40 #[.val (.ref sa), .val (.int (own_su0 f)), .val (.int (1 : Int32)), .val (.int (f 1)), .val (.int ((f 0) - (48 : Int32))), .val (.int ((9 : Int32) - (0 : Int32)))] [(.int (0 : Int32))])) _
            exact κ)
          obtain ⟨fs, hr, hrun, hended, hW, hsame⟩ := X14.leave (v := some (.int (0 : Int32))) (fun h => by rw [Bd.returns] at h; cases h)
          refine ⟨_, _, pre17 _ ?_, hrun, hended, _, _, rfl, ?_, ⟨_, rfl⟩, hW, hsame.mono (by decide) (by decide)⟩
          · exact retN X14 hx (t := .boolean) Bd.returns (by simp) (hb hby d9_40) hr
          · show Q9 Z sa n f zc fm h0 n0 _ T14.heap _
            exact ⟨0, rfl, N14, (hh14.trans (hh6.trans hh2)), fun _ => rfl, fun _ => ⟨fun q => absurd hA1 (q 1 (by decide)).1, fun _ => rfl⟩⟩
        · have pre18 := fun τ (κ : Steps p.tables e below (T14.setTop (mkF m 36 #[.val (.ref sa), .val (.int (own_su0 f)), .val (.int (1 : Int32)), .val (.int (f 1)), .val (.int ((f 0) - (48 : Int32))), .val (.int ((9 : Int32) - (0 : Int32)))] [(.int (57 : Int32)), (.int (f 1))])) τ) => pre16 τ (by
            refine XS.icmpNo X14.here hx rfl (hb hby d9_30) rfl (flt hA1).1 ?_
            show Steps p.tables e below (T14.setTop (mkF m 33 #[.val (.ref sa), .val (.int (own_su0 f)), .val (.int (1 : Int32)), .val (.int (f 1)), .val (.int ((f 0) - (48 : Int32))), .val (.int ((9 : Int32) - (0 : Int32)))] [])) _
            refine XS.iloadN X14.here hx rfl (hb hby d9_33) rfl ?_
            refine XS.bipush X14.here hx rfl (hb hby d9_34) ?_
            show Steps p.tables e below (T14.setTop (mkF m 36 #[.val (.ref sa), .val (.int (own_su0 f)), .val (.int (1 : Int32)), .val (.int (f 1)), .val (.int ((f 0) - (48 : Int32))), .val (.int ((9 : Int32) - (0 : Int32)))] [(.int (57 : Int32)), (.int (f 1))])) _
            exact κ)
          by_cases hB1 : (57 : Int32) < (f 1)
          · have pre19 := fun τ (κ : Steps p.tables e below (T14.setTop (mkF m 40 #[.val (.ref sa), .val (.int (own_su0 f)), .val (.int (1 : Int32)), .val (.int (f 1)), .val (.int ((f 0) - (48 : Int32))), .val (.int ((9 : Int32) - (0 : Int32)))] [(.int (0 : Int32))])) τ) => pre18 τ (by
              refine XS.icmpNo X14.here hx rfl (hb hby d9_36) rfl (tlt hB1).2.2.2 ?_
              show Steps p.tables e below (T14.setTop (mkF m 39 #[.val (.ref sa), .val (.int (own_su0 f)), .val (.int (1 : Int32)), .val (.int (f 1)), .val (.int ((f 0) - (48 : Int32))), .val (.int ((9 : Int32) - (0 : Int32)))] [])) _
              refine XS.iconst X14.here hx rfl (hb hby d9_39) ?_
              show Steps p.tables e below (T14.setTop (mkF m 40 #[.val (.ref sa), .val (.int (own_su0 f)), .val (.int (1 : Int32)), .val (.int (f 1)), .val (.int ((f 0) - (48 : Int32))), .val (.int ((9 : Int32) - (0 : Int32)))] [(.int (0 : Int32))])) _
              exact κ)
            obtain ⟨fs, hr, hrun, hended, hW, hsame⟩ := X14.leave (v := some (.int (0 : Int32))) (fun h => by rw [Bd.returns] at h; cases h)
            refine ⟨_, _, pre19 _ ?_, hrun, hended, _, _, rfl, ?_, ⟨_, rfl⟩, hW, hsame.mono (by decide) (by decide)⟩
            · exact retN X14 hx (t := .boolean) Bd.returns (by simp) (hb hby d9_40) hr
            · show Q9 Z sa n f zc fm h0 n0 _ T14.heap _
              exact ⟨0, rfl, N14, (hh14.trans (hh6.trans hh2)), fun _ => rfl, fun _ => ⟨fun q => absurd hB1 (q 1 (by decide)).2, fun _ => rfl⟩⟩
          · have pre20 := fun τ (κ : Steps p.tables e below (T14.setTop (mkF m 15 #[.val (.ref sa), .val (.int ((own_su0 f) + (((9 : Int32) - (1 : Int32)) * ((f 1) - (48 : Int32))))), .val (.int ((1 : Int32) + (1 : Int32))), .val (.int (f 1)), .val (.int ((f 1) - (48 : Int32))), .val (.int ((9 : Int32) - (1 : Int32)))] [])) τ) => pre18 τ (by
              refine XS.icmpYes X14.here hx rfl (pc0 := 36) (pc' := 41) rfl (hb hby d9_36) rfl (flt hB1).2.2.2 (by decide) (by decide) ?_
              show Steps p.tables e below (T14.setTop (mkF m 41 #[.val (.ref sa), .val (.int (own_su0 f)), .val (.int (1 : Int32)), .val (.int (f 1)), .val (.int ((f 0) - (48 : Int32))), .val (.int ((9 : Int32) - (0 : Int32)))] [])) _
              refine XS.iloadN X14.here hx rfl (hb hby d9_41) rfl ?_
              refine XS.bipush X14.here hx rfl (hb hby d9_42) ?_
              refine XS.isub X14.here hx rfl (hb hby d9_44) rfl ?_
              show Steps p.tables e below (T14.setTop (mkF m 45 #[.val (.ref sa), .val (.int (own_su0 f)), .val (.int (1 : Int32)), .val (.int (f 1)), .val (.int ((f 0) - (48 : Int32))), .val (.int ((9 : Int32) - (0 : Int32)))] [(.int ((f 1) - (48 : Int32)))])) _
              refine XS.istore X14.here hx rfl (hb hby d9_45) rfl (l' := #[.val (.ref sa), .val (.int (own_su0 f)), .val (.int (1 : Int32)), .val (.int (f 1)), .val (.int ((f 1) - (48 : Int32))), .val (.int ((9 : Int32) - (0 : Int32)))]) rfl ?_
              show Steps p.tables e below (T14.setTop (mkF m 47 #[.val (.ref sa), .val (.int (own_su0 f)), .val (.int (1 : Int32)), .val (.int (f 1)), .val (.int ((f 1) - (48 : Int32))), .val (.int ((9 : Int32) - (0 : Int32)))] [])) _
              refine XS.iloadN X14.here hx rfl (hb hby d9_47) rfl ?_
              refine XS.bipush X14.here hx rfl (hb hby d9_48) ?_
              refine XS.icmpNo X14.here hx rfl (hb hby d9_50) rfl (tlt (by decide)).2.1 ?_
              show Steps p.tables e below (T14.setTop (mkF m 53 #[.val (.ref sa), .val (.int (own_su0 f)), .val (.int (1 : Int32)), .val (.int (f 1)), .val (.int ((f 1) - (48 : Int32))), .val (.int ((9 : Int32) - (0 : Int32)))] [])) _
              refine XS.bipush X14.here hx rfl (hb hby d9_53) ?_
              refine XS.iloadN X14.here hx rfl (hb hby d9_55) rfl ?_
              refine XS.isub X14.here hx rfl (hb hby d9_56) rfl ?_
              show Steps p.tables e below (T14.setTop (mkF m 57 #[.val (.ref sa), .val (.int (own_su0 f)), .val (.int (1 : Int32)), .val (.int (f 1)), .val (.int ((f 1) - (48 : Int32))), .val (.int ((9 : Int32) - (0 : Int32)))] [(.int ((9 : Int32) - (1 : Int32)))])) _
              refine XS.goto X14.here hx rfl (pc0 := 57) (pc' := 61) rfl (hb hby d9_57) (by decide) (by decide) ?_
              show Steps p.tables e below (T14.setTop (mkF m 61 #[.val (.ref sa), .val (.int (own_su0 f)), .val (.int (1 : Int32)), .val (.int (f 1)), .val (.int ((f 1) - (48 : Int32))), .val (.int ((9 : Int32) - (0 : Int32)))] [(.int ((9 : Int32) - (1 : Int32)))])) _
              refine XS.istore X14.here hx rfl (hb hby d9_61) rfl (l' := #[.val (.ref sa), .val (.int (own_su0 f)), .val (.int (1 : Int32)), .val (.int (f 1)), .val (.int ((f 1) - (48 : Int32))), .val (.int ((9 : Int32) - (1 : Int32)))]) rfl ?_
              show Steps p.tables e below (T14.setTop (mkF m 63 #[.val (.ref sa), .val (.int (own_su0 f)), .val (.int (1 : Int32)), .val (.int (f 1)), .val (.int ((f 1) - (48 : Int32))), .val (.int ((9 : Int32) - (1 : Int32)))] [])) _
              refine XS.iloadN X14.here hx rfl (hb hby d9_63) rfl ?_
              refine XS.iload X14.here hx rfl (hb hby d9_64) rfl ?_
              refine XS.iload X14.here hx rfl (hb hby d9_66) rfl ?_
              refine XS.imul X14.here hx rfl (hb hby d9_68) rfl ?_
              show Steps p.tables e below (T14.setTop (mkF m 69 #[.val (.ref sa), .val (.int (own_su0 f)), .val (.int (1 : Int32)), .val (.int (f 1)), .val (.int ((f 1) - (48 : Int32))), .val (.int ((9 : Int32) - (1 : Int32)))] [(.int (((9 : Int32) - (1 : Int32)) * ((f 1) - (48 : Int32)))), (.int (own_su0 f))])) _
              refine XS.iadd X14.here hx rfl (hb hby d9_69) rfl ?_
              show Steps p.tables e below (T14.setTop (mkF m 70 #[.val (.ref sa), .val (.int (own_su0 f)), .val (.int (1 : Int32)), .val (.int (f 1)), .val (.int ((f 1) - (48 : Int32))), .val (.int ((9 : Int32) - (1 : Int32)))] [(.int ((own_su0 f) + (((9 : Int32) - (1 : Int32)) * ((f 1) - (48 : Int32)))))])) _
              refine XS.istoreN X14.here hx rfl (hb hby d9_70) rfl (l' := #[.val (.ref sa), .val (.int ((own_su0 f) + (((9 : Int32) - (1 : Int32)) * ((f 1) - (48 : Int32))))), .val (.int (1 : Int32)), .val (.int (f 1)), .val (.int ((f 1) - (48 : Int32))), .val (.int ((9 : Int32) - (1 : Int32)))]) rfl ?_
              show Steps p.tables e below (T14.setTop (mkF m 71 #[.val (.ref sa), .val (.int ((own_su0 f) + (((9 : Int32) - (1 : Int32)) * ((f 1) - (48 : Int32))))), .val (.int (1 : Int32)), .val (.int (f 1)), .val (.int ((f 1) - (48 : Int32))), .val (.int ((9 : Int32) - (1 : Int32)))] [])) _
              refine XS.iinc X14.here hx rfl (hb hby d9_71) rfl (l' := #[.val (.ref sa), .val (.int ((own_su0 f) + (((9 : Int32) - (1 : Int32)) * ((f 1) - (48 : Int32))))), .val (.int ((1 : Int32) + (1 : Int32))), .val (.int (f 1)), .val (.int ((f 1) - (48 : Int32))), .val (.int ((9 : Int32) - (1 : Int32)))]) rfl ?_
              show Steps p.tables e below (T14.setTop (mkF m 74 #[.val (.ref sa), .val (.int ((own_su0 f) + (((9 : Int32) - (1 : Int32)) * ((f 1) - (48 : Int32))))), .val (.int ((1 : Int32) + (1 : Int32))), .val (.int (f 1)), .val (.int ((f 1) - (48 : Int32))), .val (.int ((9 : Int32) - (1 : Int32)))] [])) _
              refine XS.goto X14.here hx rfl (pc0 := 74) (pc' := 15) rfl (hb hby d9_74) (by decide) (by decide) ?_
              show Steps p.tables e below (T14.setTop (mkF m 15 #[.val (.ref sa), .val (.int ((own_su0 f) + (((9 : Int32) - (1 : Int32)) * ((f 1) - (48 : Int32))))), .val (.int ((1 : Int32) + (1 : Int32))), .val (.int (f 1)), .val (.int ((f 1) - (48 : Int32))), .val (.int ((9 : Int32) - (1 : Int32)))] [])) _
              exact κ)
            rw [show ((1 : Int32) + (1 : Int32)) = (2 : Int32) from (by decide)] at pre20
            rw [show ((own_su0 f) + (((9 : Int32) - (1 : Int32)) * ((f 1) - (48 : Int32)))) = (own_su1 f) from rfl] at pre20
            have pre21 := fun τ (κ : Steps p.tables e below (T14.setTop (mkF m 23 #[.val (.ref sa), .val (.int (own_su1 f)), .val (.int (2 : Int32)), .val (.int (f 1)), .val (.int ((f 1) - (48 : Int32))), .val (.int ((9 : Int32) - (1 : Int32)))] [(.int (2 : Int32)), (.ref sa)])) τ) => pre20 τ (by
              refine XS.iloadN X14.here hx rfl (hb hby d9_15) rfl ?_
              refine XS.bipush X14.here hx rfl (hb hby d9_16) ?_
              refine XS.icmpNo X14.here hx rfl (hb hby d9_18) rfl (tlt (by decide)).2.1 ?_
              show Steps p.tables e below (T14.setTop (mkF m 21 #[.val (.ref sa), .val (.int (own_su1 f)), .val (.int (2 : Int32)), .val (.int (f 1)), .val (.int ((f 1) - (48 : Int32))), .val (.int ((9 : Int32) - (1 : Int32)))] [])) _
              refine XS.aloadN X14.here hx rfl (hb hby d9_21) rfl rfl ?_
              refine XS.iloadN X14.here hx rfl (hb hby d9_22) rfl ?_
              show Steps p.tables e below (T14.setTop (mkF m 23 #[.val (.ref sa), .val (.int (own_su1 f)), .val (.int (2 : Int32)), .val (.int (f 1)), .val (.int ((f 1) - (48 : Int32))), .val (.int ((9 : Int32) - (1 : Int32)))] [(.int (2 : Int32)), (.ref sa)])) _
              exact κ)
            obtain ⟨cq22, kq22, q22a, q22b, q22c⟩ := isOf hZ rfl E_s_14
            obtain ⟨_, _, ⟨T22, L22, k22, n22⟩, -, X22, ⟨Lc22, hQ22, l22, y22, z22⟩, st22⟩ := X14.virtualBack hx (y := (⟨"java/lang/String", "charAt", "(I)C"⟩ : MethodName)) (z := (⟨"java/lang/String", "charAt", "(I)C"⟩ : MethodName)) hown (mvT hZ (hw _ (List.mem_of_getElem? (i := 53) rfl))) (mvT hZ (hw _ (List.mem_of_getElem? (i := 54) rfl))) (notFace_of_selects (args := #[]) (mvT hZ (hw _ (List.mem_of_getElem? (i := 56) rfl)))) (mvT hZ (hw _ (List.mem_of_getElem? (i := 56) rfl))) (mvT hZ (hw _ (List.mem_of_getElem? (i := 55) rfl))) (by decide) (backOf (W := 0) (rm12 l Z a0 hw [] sa 2 n f zc fm T14.heap n0 Z14 O0_14 U0 P0_14 hn (by omega) (hf 2 (by omega))) hZ (hw _ (List.mem_of_getElem? (i := 57) rfl)) (hw _ (List.mem_of_getElem? (i := 12) rfl)) (Nat.le_of_ble_eq_true rfl) (Nat.le_of_ble_eq_true rfl)) q22a q22c (g := (mkF m 23 #[.val (.ref sa), .val (.int (own_su1 f)), .val (.int (2 : Int32)), .val (.int (f 1)), .val (.int ((f 1) - (48 : Int32))), .val (.int ((9 : Int32) - (1 : Int32)))] [(.int (2 : Int32)), (.ref sa)])) rfl (by rw [hml]; rfl) (Steps.refl _) (argsL := [(.int (2 : Int32))]) (rest := []) (lenOf pd_15 rfl) rfl (by show 2 * 0 + _ ≤ _; exact Nat.le_of_eq rfl) (hb hby d9_23) (fun _ _ => ⟨rfl, rfl, (by decide : 0 + 0 ≤ _), (by decide : 0 + 0 ≤ _)⟩)
            dsimp only [Pt.U, Pt.locs, Pt.cells, Pt.slots] at X22 l22 y22 z22 st22 hQ22
            subst l22 y22 z22
            obtain ⟨rfl, Nq22, hh22⟩ := hQ22
            have O0_22 : Old Z n0 T22.heap := by rw [hh22]; exact O0_14
            have P0_22 : own_STR Z T22.heap sa f n := by rw [hh22]; exact P0_14
            have E_s_22 : Exa Z T22.heap sa "java/lang/String" := by rw [hh22]; exact E_s_14
            have Z22 : n0 ≤ T22.heap.size := by rw [hh22]; exact Z14
            have N22 := Fr.app N14 Nq22
            have pre23 := fun τ (κ : Steps p.tables e below (T22.setTop (mkF m 26 #[.val (.ref sa), .val (.int (own_su1 f)), .val (.int (2 : Int32)), .val (.int (f 1)), .val (.int ((f 1) - (48 : Int32))), .val (.int ((9 : Int32) - (1 : Int32)))] [(.int (f 2))])) τ) => pre21 τ (st22.trans κ)
            have pre24 := fun τ (κ : Steps p.tables e below (T22.setTop (mkF m 30 #[.val (.ref sa), .val (.int (own_su1 f)), .val (.int (2 : Int32)), .val (.int (f 2)), .val (.int ((f 1) - (48 : Int32))), .val (.int ((9 : Int32) - (1 : Int32)))] [(.int (48 : Int32)), (.int (f 2))])) τ) => pre23 τ (by
              refine XS.istoreN X22.here hx rfl (hb hby d9_26) rfl (l' := #[.val (.ref sa), .val (.int (own_su1 f)), .val (.int (2 : Int32)), .val (.int (f 2)), .val (.int ((f 1) - (48 : Int32))), .val (.int ((9 : Int32) - (1 : Int32)))]) rfl ?_
              show Steps p.tables e below (T22.setTop (mkF m 27 #[.val (.ref sa), .val (.int (own_su1 f)), .val (.int (2 : Int32)), .val (.int (f 2)), .val (.int ((f 1) - (48 : Int32))), .val (.int ((9 : Int32) - (1 : Int32)))] [])) _
              refine XS.iloadN X22.here hx rfl (hb hby d9_27) rfl ?_
              refine XS.bipush X22.here hx rfl (hb hby d9_28) ?_
              show Steps p.tables e below (T22.setTop (mkF m 30 #[.val (.ref sa), .val (.int (own_su1 f)), .val (.int (2 : Int32)), .val (.int (f 2)), .val (.int ((f 1) - (48 : Int32))), .val (.int ((9 : Int32) - (1 : Int32)))] [(.int (48 : Int32)), (.int (f 2))])) _
              exact κ)
            by_cases hA2 : (f 2) < (48 : Int32)
            · have pre25 := fun τ (κ : Steps p.tables e below (T22.setTop (mkF m 40 #[.val (.ref sa), .val (.int (own_su1 f)), .val (.int (2 : Int32)), .val (.int (f 2)), .val (.int ((f 1) - (48 : Int32))), .val (.int ((9 : Int32) - (1 : Int32)))] [(.int (0 : Int32))])) τ) => pre24 τ (by
                refine XS.icmpYes X22.here hx rfl (pc0 := 30) (pc' := 39) rfl (hb hby d9_30) rfl (tlt hA2).1 (by decide) (by decide) ?_
                show Steps p.tables e below (T22.setTop (mkF m 39 #[.val (.ref sa), .val (.int (own_su1 f)), .val (.int (2 : Int32)), .val (.int (f 2)), .val (.int ((f 1) - (48 : Int32))), .val (.int ((9 : Int32) - (1 : Int32)))] [])) _
                refine XS.iconst X22.here hx rfl (hb hby d9_39) ?_
                show Steps p.tables e below (T22.setTop (mkF m 40 #[.val (.ref sa), .val (.int (own_su1 f)), .val (.int (2 : Int32)), .val (.int (f 2)), .val (.int ((f 1) - (48 : Int32))), .val (.int ((9 : Int32) - (1 : Int32)))] [(.int (0 : Int32))])) _
                exact κ)
              obtain ⟨fs, hr, hrun, hended, hW, hsame⟩ := X22.leave (v := some (.int (0 : Int32))) (fun h => by rw [Bd.returns] at h; cases h)
              refine ⟨_, _, pre25 _ ?_, hrun, hended, _, _, rfl, ?_, ⟨_, rfl⟩, hW, hsame.mono (by decide) (by decide)⟩
              · exact retN X22 hx (t := .boolean) Bd.returns (by simp) (hb hby d9_40) hr
              · show Q9 Z sa n f zc fm h0 n0 _ T22.heap _
                exact ⟨0, rfl, N22, (hh22.trans (hh14.trans (hh6.trans hh2))), fun _ => rfl, fun _ => ⟨fun q => absurd hA2 (q 2 (by decide)).1, fun _ => rfl⟩⟩
            · have pre26 := fun τ (κ : Steps p.tables e below (T22.setTop (mkF m 36 #[.val (.ref sa), .val (.int (own_su1 f)), .val (.int (2 : Int32)), .val (.int (f 2)), .val (.int ((f 1) - (48 : Int32))), .val (.int ((9 : Int32) - (1 : Int32)))] [(.int (57 : Int32)), (.int (f 2))])) τ) => pre24 τ (by
                refine XS.icmpNo X22.here hx rfl (hb hby d9_30) rfl (flt hA2).1 ?_
                show Steps p.tables e below (T22.setTop (mkF m 33 #[.val (.ref sa), .val (.int (own_su1 f)), .val (.int (2 : Int32)), .val (.int (f 2)), .val (.int ((f 1) - (48 : Int32))), .val (.int ((9 : Int32) - (1 : Int32)))] [])) _
                refine XS.iloadN X22.here hx rfl (hb hby d9_33) rfl ?_
                refine XS.bipush X22.here hx rfl (hb hby d9_34) ?_
                show Steps p.tables e below (T22.setTop (mkF m 36 #[.val (.ref sa), .val (.int (own_su1 f)), .val (.int (2 : Int32)), .val (.int (f 2)), .val (.int ((f 1) - (48 : Int32))), .val (.int ((9 : Int32) - (1 : Int32)))] [(.int (57 : Int32)), (.int (f 2))])) _
                exact κ)
              by_cases hB2 : (57 : Int32) < (f 2)
              · have pre27 := fun τ (κ : Steps p.tables e below (T22.setTop (mkF m 40 #[.val (.ref sa), .val (.int (own_su1 f)), .val (.int (2 : Int32)), .val (.int (f 2)), .val (.int ((f 1) - (48 : Int32))), .val (.int ((9 : Int32) - (1 : Int32)))] [(.int (0 : Int32))])) τ) => pre26 τ (by
                  refine XS.icmpNo X22.here hx rfl (hb hby d9_36) rfl (tlt hB2).2.2.2 ?_
                  show Steps p.tables e below (T22.setTop (mkF m 39 #[.val (.ref sa), .val (.int (own_su1 f)), .val (.int (2 : Int32)), .val (.int (f 2)), .val (.int ((f 1) - (48 : Int32))), .val (.int ((9 : Int32) - (1 : Int32)))] [])) _
                  refine XS.iconst X22.here hx rfl (hb hby d9_39) ?_
                  show Steps p.tables e below (T22.setTop (mkF m 40 #[.val (.ref sa), .val (.int (own_su1 f)), .val (.int (2 : Int32)), .val (.int (f 2)), .val (.int ((f 1) - (48 : Int32))), .val (.int ((9 : Int32) - (1 : Int32)))] [(.int (0 : Int32))])) _
                  exact κ)
                obtain ⟨fs, hr, hrun, hended, hW, hsame⟩ := X22.leave (v := some (.int (0 : Int32))) (fun h => by rw [Bd.returns] at h; cases h)
                refine ⟨_, _, pre27 _ ?_, hrun, hended, _, _, rfl, ?_, ⟨_, rfl⟩, hW, hsame.mono (by decide) (by decide)⟩
                · exact retN X22 hx (t := .boolean) Bd.returns (by simp) (hb hby d9_40) hr
                · show Q9 Z sa n f zc fm h0 n0 _ T22.heap _
                  exact ⟨0, rfl, N22, (hh22.trans (hh14.trans (hh6.trans hh2))), fun _ => rfl, fun _ => ⟨fun q => absurd hB2 (q 2 (by decide)).2, fun _ => rfl⟩⟩
              · have pre28 := fun τ (κ : Steps p.tables e below (T22.setTop (mkF m 15 #[.val (.ref sa), .val (.int ((own_su1 f) + (((9 : Int32) - (2 : Int32)) * ((f 2) - (48 : Int32))))), .val (.int ((2 : Int32) + (1 : Int32))), .val (.int (f 2)), .val (.int ((f 2) - (48 : Int32))), .val (.int ((9 : Int32) - (2 : Int32)))] [])) τ) => pre26 τ (by
                  refine XS.icmpYes X22.here hx rfl (pc0 := 36) (pc' := 41) rfl (hb hby d9_36) rfl (flt hB2).2.2.2 (by decide) (by decide) ?_
                  show Steps p.tables e below (T22.setTop (mkF m 41 #[.val (.ref sa), .val (.int (own_su1 f)), .val (.int (2 : Int32)), .val (.int (f 2)), .val (.int ((f 1) - (48 : Int32))), .val (.int ((9 : Int32) - (1 : Int32)))] [])) _
                  refine XS.iloadN X22.here hx rfl (hb hby d9_41) rfl ?_
                  refine XS.bipush X22.here hx rfl (hb hby d9_42) ?_
                  refine XS.isub X22.here hx rfl (hb hby d9_44) rfl ?_
                  show Steps p.tables e below (T22.setTop (mkF m 45 #[.val (.ref sa), .val (.int (own_su1 f)), .val (.int (2 : Int32)), .val (.int (f 2)), .val (.int ((f 1) - (48 : Int32))), .val (.int ((9 : Int32) - (1 : Int32)))] [(.int ((f 2) - (48 : Int32)))])) _
                  refine XS.istore X22.here hx rfl (hb hby d9_45) rfl (l' := #[.val (.ref sa), .val (.int (own_su1 f)), .val (.int (2 : Int32)), .val (.int (f 2)), .val (.int ((f 2) - (48 : Int32))), .val (.int ((9 : Int32) - (1 : Int32)))]) rfl ?_
                  show Steps p.tables e below (T22.setTop (mkF m 47 #[.val (.ref sa), .val (.int (own_su1 f)), .val (.int (2 : Int32)), .val (.int (f 2)), .val (.int ((f 2) - (48 : Int32))), .val (.int ((9 : Int32) - (1 : Int32)))] [])) _
                  refine XS.iloadN X22.here hx rfl (hb hby d9_47) rfl ?_
                  refine XS.bipush X22.here hx rfl (hb hby d9_48) ?_
                  refine XS.icmpNo X22.here hx rfl (hb hby d9_50) rfl (tlt (by decide)).2.1 ?_
                  show Steps p.tables e below (T22.setTop (mkF m 53 #[.val (.ref sa), .val (.int (own_su1 f)), .val (.int (2 : Int32)), .val (.int (f 2)), .val (.int ((f 2) - (48 : Int32))), .val (.int ((9 : Int32) - (1 : Int32)))] [])) _
                  refine XS.bipush X22.here hx rfl (hb hby d9_53) ?_
                  refine XS.iloadN X22.here hx rfl (hb hby d9_55) rfl ?_
                  refine XS.isub X22.here hx rfl (hb hby d9_56) rfl ?_
                  show Steps p.tables e below (T22.setTop (mkF m 57 #[.val (.ref sa), .val (.int (own_su1 f)), .val (.int (2 : Int32)), .val (.int (f 2)), .val (.int ((f 2) - (48 : Int32))), .val (.int ((9 : Int32) - (1 : Int32)))] [(.int ((9 : Int32) - (2 : Int32)))])) _
                  refine XS.goto X22.here hx rfl (pc0 := 57) (pc' := 61) rfl (hb hby d9_57) (by decide) (by decide) ?_
                  show Steps p.tables e below (T22.setTop (mkF m 61 #[.val (.ref sa), .val (.int (own_su1 f)), .val (.int (2 : Int32)), .val (.int (f 2)), .val (.int ((f 2) - (48 : Int32))), .val (.int ((9 : Int32) - (1 : Int32)))] [(.int ((9 : Int32) - (2 : Int32)))])) _
                  refine XS.istore X22.here hx rfl (hb hby d9_61) rfl (l' := #[.val (.ref sa), .val (.int (own_su1 f)), .val (.int (2 : Int32)), .val (.int (f 2)), .val (.int ((f 2) - (48 : Int32))), .val (.int ((9 : Int32) - (2 : Int32)))]) rfl ?_
                  show Steps p.tables e below (T22.setTop (mkF m 63 #[.val (.ref sa), .val (.int (own_su1 f)), .val (.int (2 : Int32)), .val (.int (f 2)), .val (.int ((f 2) - (48 : Int32))), .val (.int ((9 : Int32) - (2 : Int32)))] [])) _
                  refine XS.iloadN X22.here hx rfl (hb hby d9_63) rfl ?_
                  refine XS.iload X22.here hx rfl (hb hby d9_64) rfl ?_
                  refine XS.iload X22.here hx rfl (hb hby d9_66) rfl ?_
                  refine XS.imul X22.here hx rfl (hb hby d9_68) rfl ?_
                  show Steps p.tables e below (T22.setTop (mkF m 69 #[.val (.ref sa), .val (.int (own_su1 f)), .val (.int (2 : Int32)), .val (.int (f 2)), .val (.int ((f 2) - (48 : Int32))), .val (.int ((9 : Int32) - (2 : Int32)))] [(.int (((9 : Int32) - (2 : Int32)) * ((f 2) - (48 : Int32)))), (.int (own_su1 f))])) _
                  refine XS.iadd X22.here hx rfl (hb hby d9_69) rfl ?_
                  show Steps p.tables e below (T22.setTop (mkF m 70 #[.val (.ref sa), .val (.int (own_su1 f)), .val (.int (2 : Int32)), .val (.int (f 2)), .val (.int ((f 2) - (48 : Int32))), .val (.int ((9 : Int32) - (2 : Int32)))] [(.int ((own_su1 f) + (((9 : Int32) - (2 : Int32)) * ((f 2) - (48 : Int32)))))])) _
                  refine XS.istoreN X22.here hx rfl (hb hby d9_70) rfl (l' := #[.val (.ref sa), .val (.int ((own_su1 f) + (((9 : Int32) - (2 : Int32)) * ((f 2) - (48 : Int32))))), .val (.int (2 : Int32)), .val (.int (f 2)), .val (.int ((f 2) - (48 : Int32))), .val (.int ((9 : Int32) - (2 : Int32)))]) rfl ?_
                  show Steps p.tables e below (T22.setTop (mkF m 71 #[.val (.ref sa), .val (.int ((own_su1 f) + (((9 : Int32) - (2 : Int32)) * ((f 2) - (48 : Int32))))), .val (.int (2 : Int32)), .val (.int (f 2)), .val (.int ((f 2) - (48 : Int32))), .val (.int ((9 : Int32) - (2 : Int32)))] [])) _
                  refine XS.iinc X22.here hx rfl (hb hby d9_71) rfl (l' := #[.val (.ref sa), .val (.int ((own_su1 f) + (((9 : Int32) - (2 : Int32)) * ((f 2) - (48 : Int32))))), .val (.int ((2 : Int32) + (1 : Int32))), .val (.int (f 2)), .val (.int ((f 2) - (48 : Int32))), .val (.int ((9 : Int32) - (2 : Int32)))]) rfl ?_
                  show Steps p.tables e below (T22.setTop (mkF m 74 #[.val (.ref sa), .val (.int ((own_su1 f) + (((9 : Int32) - (2 : Int32)) * ((f 2) - (48 : Int32))))), .val (.int ((2 : Int32) + (1 : Int32))), .val (.int (f 2)), .val (.int ((f 2) - (48 : Int32))), .val (.int ((9 : Int32) - (2 : Int32)))] [])) _
                  refine XS.goto X22.here hx rfl (pc0 := 74) (pc' := 15) rfl (hb hby d9_74) (by decide) (by decide) ?_
                  show Steps p.tables e below (T22.setTop (mkF m 15 #[.val (.ref sa), .val (.int ((own_su1 f) + (((9 : Int32) - (2 : Int32)) * ((f 2) - (48 : Int32))))), .val (.int ((2 : Int32) + (1 : Int32))), .val (.int (f 2)), .val (.int ((f 2) - (48 : Int32))), .val (.int ((9 : Int32) - (2 : Int32)))] [])) _
                  exact κ)
                rw [show ((2 : Int32) + (1 : Int32)) = (3 : Int32) from (by decide)] at pre28
                rw [show ((own_su1 f) + (((9 : Int32) - (2 : Int32)) * ((f 2) - (48 : Int32)))) = (own_su2 f) from rfl] at pre28
                have pre29 := fun τ (κ : Steps p.tables e below (T22.setTop (mkF m 23 #[.val (.ref sa), .val (.int (own_su2 f)), .val (.int (3 : Int32)), .val (.int (f 2)), .val (.int ((f 2) - (48 : Int32))), .val (.int ((9 : Int32) - (2 : Int32)))] [(.int (3 : Int32)), (.ref sa)])) τ) => pre28 τ (by
                  refine XS.iloadN X22.here hx rfl (hb hby d9_15) rfl ?_
                  refine XS.bipush X22.here hx rfl (hb hby d9_16) ?_
                  refine XS.icmpNo X22.here hx rfl (hb hby d9_18) rfl (tlt (by decide)).2.1 ?_
                  show Steps p.tables e below (T22.setTop (mkF m 21 #[.val (.ref sa), .val (.int (own_su2 f)), .val (.int (3 : Int32)), .val (.int (f 2)), .val (.int ((f 2) - (48 : Int32))), .val (.int ((9 : Int32) - (2 : Int32)))] [])) _
                  refine XS.aloadN X22.here hx rfl (hb hby d9_21) rfl rfl ?_
                  refine XS.iloadN X22.here hx rfl (hb hby d9_22) rfl ?_
                  show Steps p.tables e below (T22.setTop (mkF m 23 #[.val (.ref sa), .val (.int (own_su2 f)), .val (.int (3 : Int32)), .val (.int (f 2)), .val (.int ((f 2) - (48 : Int32))), .val (.int ((9 : Int32) - (2 : Int32)))] [(.int (3 : Int32)), (.ref sa)])) _
                  exact κ)
                obtain ⟨cq30, kq30, q30a, q30b, q30c⟩ := isOf hZ rfl E_s_22
                obtain ⟨_, _, ⟨T30, L30, k30, n30⟩, -, X30, ⟨Lc30, hQ30, l30, y30, z30⟩, st30⟩ := X22.virtualBack hx (y := (⟨"java/lang/String", "charAt", "(I)C"⟩ : MethodName)) (z := (⟨"java/lang/String", "charAt", "(I)C"⟩ : MethodName)) hown (mvT hZ (hw _ (List.mem_of_getElem? (i := 53) rfl))) (mvT hZ (hw _ (List.mem_of_getElem? (i := 54) rfl))) (notFace_of_selects (args := #[]) (mvT hZ (hw _ (List.mem_of_getElem? (i := 56) rfl)))) (mvT hZ (hw _ (List.mem_of_getElem? (i := 56) rfl))) (mvT hZ (hw _ (List.mem_of_getElem? (i := 55) rfl))) (by decide) (backOf (W := 0) (rm12 l Z a0 hw [] sa 3 n f zc fm T22.heap n0 Z22 O0_22 U0 P0_22 hn (by omega) (hf 3 (by omega))) hZ (hw _ (List.mem_of_getElem? (i := 57) rfl)) (hw _ (List.mem_of_getElem? (i := 12) rfl)) (Nat.le_of_ble_eq_true rfl) (Nat.le_of_ble_eq_true rfl)) q30a q30c (g := (mkF m 23 #[.val (.ref sa), .val (.int (own_su2 f)), .val (.int (3 : Int32)), .val (.int (f 2)), .val (.int ((f 2) - (48 : Int32))), .val (.int ((9 : Int32) - (2 : Int32)))] [(.int (3 : Int32)), (.ref sa)])) rfl (by rw [hml]; rfl) (Steps.refl _) (argsL := [(.int (3 : Int32))]) (rest := []) (lenOf pd_15 rfl) rfl (by show 2 * 0 + _ ≤ _; exact Nat.le_of_eq rfl) (hb hby d9_23) (fun _ _ => ⟨rfl, rfl, (by decide : 0 + 0 ≤ _), (by decide : 0 + 0 ≤ _)⟩)
                dsimp only [Pt.U, Pt.locs, Pt.cells, Pt.slots] at X30 l30 y30 z30 st30 hQ30
                subst l30 y30 z30
                obtain ⟨rfl, Nq30, hh30⟩ := hQ30
                have O0_30 : Old Z n0 T30.heap := by rw [hh30]; exact O0_22
                have P0_30 : own_STR Z T30.heap sa f n := by rw [hh30]; exact P0_22
                have E_s_30 : Exa Z T30.heap sa "java/lang/String" := by rw [hh30]; exact E_s_22
                have Z30 : n0 ≤ T30.heap.size := by rw [hh30]; exact Z22
                have N30 := Fr.app N22 Nq30
                have pre31 := fun τ (κ : Steps p.tables e below (T30.setTop (mkF m 26 #[.val (.ref sa), .val (.int (own_su2 f)), .val (.int (3 : Int32)), .val (.int (f 2)), .val (.int ((f 2) - (48 : Int32))), .val (.int ((9 : Int32) - (2 : Int32)))] [(.int (f 3))])) τ) => pre29 τ (st30.trans κ)
                have pre32 := fun τ (κ : Steps p.tables e below (T30.setTop (mkF m 30 #[.val (.ref sa), .val (.int (own_su2 f)), .val (.int (3 : Int32)), .val (.int (f 3)), .val (.int ((f 2) - (48 : Int32))), .val (.int ((9 : Int32) - (2 : Int32)))] [(.int (48 : Int32)), (.int (f 3))])) τ) => pre31 τ (by
                  refine XS.istoreN X30.here hx rfl (hb hby d9_26) rfl (l' := #[.val (.ref sa), .val (.int (own_su2 f)), .val (.int (3 : Int32)), .val (.int (f 3)), .val (.int ((f 2) - (48 : Int32))), .val (.int ((9 : Int32) - (2 : Int32)))]) rfl ?_
                  show Steps p.tables e below (T30.setTop (mkF m 27 #[.val (.ref sa), .val (.int (own_su2 f)), .val (.int (3 : Int32)), .val (.int (f 3)), .val (.int ((f 2) - (48 : Int32))), .val (.int ((9 : Int32) - (2 : Int32)))] [])) _
                  refine XS.iloadN X30.here hx rfl (hb hby d9_27) rfl ?_
                  refine XS.bipush X30.here hx rfl (hb hby d9_28) ?_
                  show Steps p.tables e below (T30.setTop (mkF m 30 #[.val (.ref sa), .val (.int (own_su2 f)), .val (.int (3 : Int32)), .val (.int (f 3)), .val (.int ((f 2) - (48 : Int32))), .val (.int ((9 : Int32) - (2 : Int32)))] [(.int (48 : Int32)), (.int (f 3))])) _
                  exact κ)
                by_cases hA3 : (f 3) < (48 : Int32)
                · have pre33 := fun τ (κ : Steps p.tables e below (T30.setTop (mkF m 40 #[.val (.ref sa), .val (.int (own_su2 f)), .val (.int (3 : Int32)), .val (.int (f 3)), .val (.int ((f 2) - (48 : Int32))), .val (.int ((9 : Int32) - (2 : Int32)))] [(.int (0 : Int32))])) τ) => pre32 τ (by
                    refine XS.icmpYes X30.here hx rfl (pc0 := 30) (pc' := 39) rfl (hb hby d9_30) rfl (tlt hA3).1 (by decide) (by decide) ?_
                    show Steps p.tables e below (T30.setTop (mkF m 39 #[.val (.ref sa), .val (.int (own_su2 f)), .val (.int (3 : Int32)), .val (.int (f 3)), .val (.int ((f 2) - (48 : Int32))), .val (.int ((9 : Int32) - (2 : Int32)))] [])) _
                    refine XS.iconst X30.here hx rfl (hb hby d9_39) ?_
                    show Steps p.tables e below (T30.setTop (mkF m 40 #[.val (.ref sa), .val (.int (own_su2 f)), .val (.int (3 : Int32)), .val (.int (f 3)), .val (.int ((f 2) - (48 : Int32))), .val (.int ((9 : Int32) - (2 : Int32)))] [(.int (0 : Int32))])) _
                    exact κ)
                  obtain ⟨fs, hr, hrun, hended, hW, hsame⟩ := X30.leave (v := some (.int (0 : Int32))) (fun h => by rw [Bd.returns] at h; cases h)
                  refine ⟨_, _, pre33 _ ?_, hrun, hended, _, _, rfl, ?_, ⟨_, rfl⟩, hW, hsame.mono (by decide) (by decide)⟩
                  · exact retN X30 hx (t := .boolean) Bd.returns (by simp) (hb hby d9_40) hr
                  · show Q9 Z sa n f zc fm h0 n0 _ T30.heap _
                    exact ⟨0, rfl, N30, (hh30.trans (hh22.trans (hh14.trans (hh6.trans hh2)))), fun _ => rfl, fun _ => ⟨fun q => absurd hA3 (q 3 (by decide)).1, fun _ => rfl⟩⟩
                · have pre34 := fun τ (κ : Steps p.tables e below (T30.setTop (mkF m 36 #[.val (.ref sa), .val (.int (own_su2 f)), .val (.int (3 : Int32)), .val (.int (f 3)), .val (.int ((f 2) - (48 : Int32))), .val (.int ((9 : Int32) - (2 : Int32)))] [(.int (57 : Int32)), (.int (f 3))])) τ) => pre32 τ (by
                    refine XS.icmpNo X30.here hx rfl (hb hby d9_30) rfl (flt hA3).1 ?_
                    show Steps p.tables e below (T30.setTop (mkF m 33 #[.val (.ref sa), .val (.int (own_su2 f)), .val (.int (3 : Int32)), .val (.int (f 3)), .val (.int ((f 2) - (48 : Int32))), .val (.int ((9 : Int32) - (2 : Int32)))] [])) _
                    refine XS.iloadN X30.here hx rfl (hb hby d9_33) rfl ?_
                    refine XS.bipush X30.here hx rfl (hb hby d9_34) ?_
                    show Steps p.tables e below (T30.setTop (mkF m 36 #[.val (.ref sa), .val (.int (own_su2 f)), .val (.int (3 : Int32)), .val (.int (f 3)), .val (.int ((f 2) - (48 : Int32))), .val (.int ((9 : Int32) - (2 : Int32)))] [(.int (57 : Int32)), (.int (f 3))])) _
                    exact κ)
                  by_cases hB3 : (57 : Int32) < (f 3)
                  · have pre35 := fun τ (κ : Steps p.tables e below (T30.setTop (mkF m 40 #[.val (.ref sa), .val (.int (own_su2 f)), .val (.int (3 : Int32)), .val (.int (f 3)), .val (.int ((f 2) - (48 : Int32))), .val (.int ((9 : Int32) - (2 : Int32)))] [(.int (0 : Int32))])) τ) => pre34 τ (by
                      refine XS.icmpNo X30.here hx rfl (hb hby d9_36) rfl (tlt hB3).2.2.2 ?_
                      show Steps p.tables e below (T30.setTop (mkF m 39 #[.val (.ref sa), .val (.int (own_su2 f)), .val (.int (3 : Int32)), .val (.int (f 3)), .val (.int ((f 2) - (48 : Int32))), .val (.int ((9 : Int32) - (2 : Int32)))] [])) _
                      refine XS.iconst X30.here hx rfl (hb hby d9_39) ?_
                      show Steps p.tables e below (T30.setTop (mkF m 40 #[.val (.ref sa), .val (.int (own_su2 f)), .val (.int (3 : Int32)), .val (.int (f 3)), .val (.int ((f 2) - (48 : Int32))), .val (.int ((9 : Int32) - (2 : Int32)))] [(.int (0 : Int32))])) _
                      exact κ)
                    obtain ⟨fs, hr, hrun, hended, hW, hsame⟩ := X30.leave (v := some (.int (0 : Int32))) (fun h => by rw [Bd.returns] at h; cases h)
                    refine ⟨_, _, pre35 _ ?_, hrun, hended, _, _, rfl, ?_, ⟨_, rfl⟩, hW, hsame.mono (by decide) (by decide)⟩
                    · exact retN X30 hx (t := .boolean) Bd.returns (by simp) (hb hby d9_40) hr
                    · show Q9 Z sa n f zc fm h0 n0 _ T30.heap _
                      exact ⟨0, rfl, N30, (hh30.trans (hh22.trans (hh14.trans (hh6.trans hh2)))), fun _ => rfl, fun _ => ⟨fun q => absurd hB3 (q 3 (by decide)).2, fun _ => rfl⟩⟩
                  · have pre36 := fun τ (κ : Steps p.tables e below (T30.setTop (mkF m 15 #[.val (.ref sa), .val (.int ((own_su2 f) + (((9 : Int32) - (3 : Int32)) * ((f 3) - (48 : Int32))))), .val (.int ((3 : Int32) + (1 : Int32))), .val (.int (f 3)), .val (.int ((f 3) - (48 : Int32))), .val (.int ((9 : Int32) - (3 : Int32)))] [])) τ) => pre34 τ (by
                      refine XS.icmpYes X30.here hx rfl (pc0 := 36) (pc' := 41) rfl (hb hby d9_36) rfl (flt hB3).2.2.2 (by decide) (by decide) ?_
                      show Steps p.tables e below (T30.setTop (mkF m 41 #[.val (.ref sa), .val (.int (own_su2 f)), .val (.int (3 : Int32)), .val (.int (f 3)), .val (.int ((f 2) - (48 : Int32))), .val (.int ((9 : Int32) - (2 : Int32)))] [])) _
                      refine XS.iloadN X30.here hx rfl (hb hby d9_41) rfl ?_
                      refine XS.bipush X30.here hx rfl (hb hby d9_42) ?_
                      refine XS.isub X30.here hx rfl (hb hby d9_44) rfl ?_
                      show Steps p.tables e below (T30.setTop (mkF m 45 #[.val (.ref sa), .val (.int (own_su2 f)), .val (.int (3 : Int32)), .val (.int (f 3)), .val (.int ((f 2) - (48 : Int32))), .val (.int ((9 : Int32) - (2 : Int32)))] [(.int ((f 3) - (48 : Int32)))])) _
                      refine XS.istore X30.here hx rfl (hb hby d9_45) rfl (l' := #[.val (.ref sa), .val (.int (own_su2 f)), .val (.int (3 : Int32)), .val (.int (f 3)), .val (.int ((f 3) - (48 : Int32))), .val (.int ((9 : Int32) - (2 : Int32)))]) rfl ?_
                      show Steps p.tables e below (T30.setTop (mkF m 47 #[.val (.ref sa), .val (.int (own_su2 f)), .val (.int (3 : Int32)), .val (.int (f 3)), .val (.int ((f 3) - (48 : Int32))), .val (.int ((9 : Int32) - (2 : Int32)))] [])) _
                      refine XS.iloadN X30.here hx rfl (hb hby d9_47) rfl ?_
                      refine XS.bipush X30.here hx rfl (hb hby d9_48) ?_
                      refine XS.icmpNo X30.here hx rfl (hb hby d9_50) rfl (tlt (by decide)).2.1 ?_
                      show Steps p.tables e below (T30.setTop (mkF m 53 #[.val (.ref sa), .val (.int (own_su2 f)), .val (.int (3 : Int32)), .val (.int (f 3)), .val (.int ((f 3) - (48 : Int32))), .val (.int ((9 : Int32) - (2 : Int32)))] [])) _
                      refine XS.bipush X30.here hx rfl (hb hby d9_53) ?_
                      refine XS.iloadN X30.here hx rfl (hb hby d9_55) rfl ?_
                      refine XS.isub X30.here hx rfl (hb hby d9_56) rfl ?_
                      show Steps p.tables e below (T30.setTop (mkF m 57 #[.val (.ref sa), .val (.int (own_su2 f)), .val (.int (3 : Int32)), .val (.int (f 3)), .val (.int ((f 3) - (48 : Int32))), .val (.int ((9 : Int32) - (2 : Int32)))] [(.int ((9 : Int32) - (3 : Int32)))])) _
                      refine XS.goto X30.here hx rfl (pc0 := 57) (pc' := 61) rfl (hb hby d9_57) (by decide) (by decide) ?_
                      show Steps p.tables e below (T30.setTop (mkF m 61 #[.val (.ref sa), .val (.int (own_su2 f)), .val (.int (3 : Int32)), .val (.int (f 3)), .val (.int ((f 3) - (48 : Int32))), .val (.int ((9 : Int32) - (2 : Int32)))] [(.int ((9 : Int32) - (3 : Int32)))])) _
                      refine XS.istore X30.here hx rfl (hb hby d9_61) rfl (l' := #[.val (.ref sa), .val (.int (own_su2 f)), .val (.int (3 : Int32)), .val (.int (f 3)), .val (.int ((f 3) - (48 : Int32))), .val (.int ((9 : Int32) - (3 : Int32)))]) rfl ?_
                      show Steps p.tables e below (T30.setTop (mkF m 63 #[.val (.ref sa), .val (.int (own_su2 f)), .val (.int (3 : Int32)), .val (.int (f 3)), .val (.int ((f 3) - (48 : Int32))), .val (.int ((9 : Int32) - (3 : Int32)))] [])) _
                      refine XS.iloadN X30.here hx rfl (hb hby d9_63) rfl ?_
                      refine XS.iload X30.here hx rfl (hb hby d9_64) rfl ?_
                      refine XS.iload X30.here hx rfl (hb hby d9_66) rfl ?_
                      refine XS.imul X30.here hx rfl (hb hby d9_68) rfl ?_
                      show Steps p.tables e below (T30.setTop (mkF m 69 #[.val (.ref sa), .val (.int (own_su2 f)), .val (.int (3 : Int32)), .val (.int (f 3)), .val (.int ((f 3) - (48 : Int32))), .val (.int ((9 : Int32) - (3 : Int32)))] [(.int (((9 : Int32) - (3 : Int32)) * ((f 3) - (48 : Int32)))), (.int (own_su2 f))])) _
                      refine XS.iadd X30.here hx rfl (hb hby d9_69) rfl ?_
                      show Steps p.tables e below (T30.setTop (mkF m 70 #[.val (.ref sa), .val (.int (own_su2 f)), .val (.int (3 : Int32)), .val (.int (f 3)), .val (.int ((f 3) - (48 : Int32))), .val (.int ((9 : Int32) - (3 : Int32)))] [(.int ((own_su2 f) + (((9 : Int32) - (3 : Int32)) * ((f 3) - (48 : Int32)))))])) _
                      refine XS.istoreN X30.here hx rfl (hb hby d9_70) rfl (l' := #[.val (.ref sa), .val (.int ((own_su2 f) + (((9 : Int32) - (3 : Int32)) * ((f 3) - (48 : Int32))))), .val (.int (3 : Int32)), .val (.int (f 3)), .val (.int ((f 3) - (48 : Int32))), .val (.int ((9 : Int32) - (3 : Int32)))]) rfl ?_
                      show Steps p.tables e below (T30.setTop (mkF m 71 #[.val (.ref sa), .val (.int ((own_su2 f) + (((9 : Int32) - (3 : Int32)) * ((f 3) - (48 : Int32))))), .val (.int (3 : Int32)), .val (.int (f 3)), .val (.int ((f 3) - (48 : Int32))), .val (.int ((9 : Int32) - (3 : Int32)))] [])) _
                      refine XS.iinc X30.here hx rfl (hb hby d9_71) rfl (l' := #[.val (.ref sa), .val (.int ((own_su2 f) + (((9 : Int32) - (3 : Int32)) * ((f 3) - (48 : Int32))))), .val (.int ((3 : Int32) + (1 : Int32))), .val (.int (f 3)), .val (.int ((f 3) - (48 : Int32))), .val (.int ((9 : Int32) - (3 : Int32)))]) rfl ?_
                      show Steps p.tables e below (T30.setTop (mkF m 74 #[.val (.ref sa), .val (.int ((own_su2 f) + (((9 : Int32) - (3 : Int32)) * ((f 3) - (48 : Int32))))), .val (.int ((3 : Int32) + (1 : Int32))), .val (.int (f 3)), .val (.int ((f 3) - (48 : Int32))), .val (.int ((9 : Int32) - (3 : Int32)))] [])) _
                      refine XS.goto X30.here hx rfl (pc0 := 74) (pc' := 15) rfl (hb hby d9_74) (by decide) (by decide) ?_
                      show Steps p.tables e below (T30.setTop (mkF m 15 #[.val (.ref sa), .val (.int ((own_su2 f) + (((9 : Int32) - (3 : Int32)) * ((f 3) - (48 : Int32))))), .val (.int ((3 : Int32) + (1 : Int32))), .val (.int (f 3)), .val (.int ((f 3) - (48 : Int32))), .val (.int ((9 : Int32) - (3 : Int32)))] [])) _
                      exact κ)
                    rw [show ((3 : Int32) + (1 : Int32)) = (4 : Int32) from (by decide)] at pre36
                    rw [show ((own_su2 f) + (((9 : Int32) - (3 : Int32)) * ((f 3) - (48 : Int32)))) = (own_su3 f) from rfl] at pre36
                    have pre37 := fun τ (κ : Steps p.tables e below (T30.setTop (mkF m 23 #[.val (.ref sa), .val (.int (own_su3 f)), .val (.int (4 : Int32)), .val (.int (f 3)), .val (.int ((f 3) - (48 : Int32))), .val (.int ((9 : Int32) - (3 : Int32)))] [(.int (4 : Int32)), (.ref sa)])) τ) => pre36 τ (by
                      refine XS.iloadN X30.here hx rfl (hb hby d9_15) rfl ?_
                      refine XS.bipush X30.here hx rfl (hb hby d9_16) ?_
                      refine XS.icmpNo X30.here hx rfl (hb hby d9_18) rfl (tlt (by decide)).2.1 ?_
                      show Steps p.tables e below (T30.setTop (mkF m 21 #[.val (.ref sa), .val (.int (own_su3 f)), .val (.int (4 : Int32)), .val (.int (f 3)), .val (.int ((f 3) - (48 : Int32))), .val (.int ((9 : Int32) - (3 : Int32)))] [])) _
                      refine XS.aloadN X30.here hx rfl (hb hby d9_21) rfl rfl ?_
                      refine XS.iloadN X30.here hx rfl (hb hby d9_22) rfl ?_
                      show Steps p.tables e below (T30.setTop (mkF m 23 #[.val (.ref sa), .val (.int (own_su3 f)), .val (.int (4 : Int32)), .val (.int (f 3)), .val (.int ((f 3) - (48 : Int32))), .val (.int ((9 : Int32) - (3 : Int32)))] [(.int (4 : Int32)), (.ref sa)])) _
                      exact κ)
                    obtain ⟨cq38, kq38, q38a, q38b, q38c⟩ := isOf hZ rfl E_s_30
                    obtain ⟨_, _, ⟨T38, L38, k38, n38⟩, -, X38, ⟨Lc38, hQ38, l38, y38, z38⟩, st38⟩ := X30.virtualBack hx (y := (⟨"java/lang/String", "charAt", "(I)C"⟩ : MethodName)) (z := (⟨"java/lang/String", "charAt", "(I)C"⟩ : MethodName)) hown (mvT hZ (hw _ (List.mem_of_getElem? (i := 53) rfl))) (mvT hZ (hw _ (List.mem_of_getElem? (i := 54) rfl))) (notFace_of_selects (args := #[]) (mvT hZ (hw _ (List.mem_of_getElem? (i := 56) rfl)))) (mvT hZ (hw _ (List.mem_of_getElem? (i := 56) rfl))) (mvT hZ (hw _ (List.mem_of_getElem? (i := 55) rfl))) (by decide) (backOf (W := 0) (rm12 l Z a0 hw [] sa 4 n f zc fm T30.heap n0 Z30 O0_30 U0 P0_30 hn (by omega) (hf 4 (by omega))) hZ (hw _ (List.mem_of_getElem? (i := 57) rfl)) (hw _ (List.mem_of_getElem? (i := 12) rfl)) (Nat.le_of_ble_eq_true rfl) (Nat.le_of_ble_eq_true rfl)) q38a q38c (g := (mkF m 23 #[.val (.ref sa), .val (.int (own_su3 f)), .val (.int (4 : Int32)), .val (.int (f 3)), .val (.int ((f 3) - (48 : Int32))), .val (.int ((9 : Int32) - (3 : Int32)))] [(.int (4 : Int32)), (.ref sa)])) rfl (by rw [hml]; rfl) (Steps.refl _) (argsL := [(.int (4 : Int32))]) (rest := []) (lenOf pd_15 rfl) rfl (by show 2 * 0 + _ ≤ _; exact Nat.le_of_eq rfl) (hb hby d9_23) (fun _ _ => ⟨rfl, rfl, (by decide : 0 + 0 ≤ _), (by decide : 0 + 0 ≤ _)⟩)
                    dsimp only [Pt.U, Pt.locs, Pt.cells, Pt.slots] at X38 l38 y38 z38 st38 hQ38
                    subst l38 y38 z38
                    obtain ⟨rfl, Nq38, hh38⟩ := hQ38
                    have O0_38 : Old Z n0 T38.heap := by rw [hh38]; exact O0_30
                    have P0_38 : own_STR Z T38.heap sa f n := by rw [hh38]; exact P0_30
                    have E_s_38 : Exa Z T38.heap sa "java/lang/String" := by rw [hh38]; exact E_s_30
                    have Z38 : n0 ≤ T38.heap.size := by rw [hh38]; exact Z30
                    have N38 := Fr.app N30 Nq38
                    have pre39 := fun τ (κ : Steps p.tables e below (T38.setTop (mkF m 26 #[.val (.ref sa), .val (.int (own_su3 f)), .val (.int (4 : Int32)), .val (.int (f 3)), .val (.int ((f 3) - (48 : Int32))), .val (.int ((9 : Int32) - (3 : Int32)))] [(.int (f 4))])) τ) => pre37 τ (st38.trans κ)
                    have pre40 := fun τ (κ : Steps p.tables e below (T38.setTop (mkF m 30 #[.val (.ref sa), .val (.int (own_su3 f)), .val (.int (4 : Int32)), .val (.int (f 4)), .val (.int ((f 3) - (48 : Int32))), .val (.int ((9 : Int32) - (3 : Int32)))] [(.int (48 : Int32)), (.int (f 4))])) τ) => pre39 τ (by
                      refine XS.istoreN X38.here hx rfl (hb hby d9_26) rfl (l' := #[.val (.ref sa), .val (.int (own_su3 f)), .val (.int (4 : Int32)), .val (.int (f 4)), .val (.int ((f 3) - (48 : Int32))), .val (.int ((9 : Int32) - (3 : Int32)))]) rfl ?_
                      show Steps p.tables e below (T38.setTop (mkF m 27 #[.val (.ref sa), .val (.int (own_su3 f)), .val (.int (4 : Int32)), .val (.int (f 4)), .val (.int ((f 3) - (48 : Int32))), .val (.int ((9 : Int32) - (3 : Int32)))] [])) _
                      refine XS.iloadN X38.here hx rfl (hb hby d9_27) rfl ?_
                      refine XS.bipush X38.here hx rfl (hb hby d9_28) ?_
                      show Steps p.tables e below (T38.setTop (mkF m 30 #[.val (.ref sa), .val (.int (own_su3 f)), .val (.int (4 : Int32)), .val (.int (f 4)), .val (.int ((f 3) - (48 : Int32))), .val (.int ((9 : Int32) - (3 : Int32)))] [(.int (48 : Int32)), (.int (f 4))])) _
                      exact κ)
                    by_cases hA4 : (f 4) < (48 : Int32)
                    · have pre41 := fun τ (κ : Steps p.tables e below (T38.setTop (mkF m 40 #[.val (.ref sa), .val (.int (own_su3 f)), .val (.int (4 : Int32)), .val (.int (f 4)), .val (.int ((f 3) - (48 : Int32))), .val (.int ((9 : Int32) - (3 : Int32)))] [(.int (0 : Int32))])) τ) => pre40 τ (by
                        refine XS.icmpYes X38.here hx rfl (pc0 := 30) (pc' := 39) rfl (hb hby d9_30) rfl (tlt hA4).1 (by decide) (by decide) ?_
                        show Steps p.tables e below (T38.setTop (mkF m 39 #[.val (.ref sa), .val (.int (own_su3 f)), .val (.int (4 : Int32)), .val (.int (f 4)), .val (.int ((f 3) - (48 : Int32))), .val (.int ((9 : Int32) - (3 : Int32)))] [])) _
                        refine XS.iconst X38.here hx rfl (hb hby d9_39) ?_
                        show Steps p.tables e below (T38.setTop (mkF m 40 #[.val (.ref sa), .val (.int (own_su3 f)), .val (.int (4 : Int32)), .val (.int (f 4)), .val (.int ((f 3) - (48 : Int32))), .val (.int ((9 : Int32) - (3 : Int32)))] [(.int (0 : Int32))])) _
                        exact κ)
                      obtain ⟨fs, hr, hrun, hended, hW, hsame⟩ := X38.leave (v := some (.int (0 : Int32))) (fun h => by rw [Bd.returns] at h; cases h)
                      refine ⟨_, _, pre41 _ ?_, hrun, hended, _, _, rfl, ?_, ⟨_, rfl⟩, hW, hsame.mono (by decide) (by decide)⟩
                      · exact retN X38 hx (t := .boolean) Bd.returns (by simp) (hb hby d9_40) hr
                      · show Q9 Z sa n f zc fm h0 n0 _ T38.heap _
                        exact ⟨0, rfl, N38, (hh38.trans (hh30.trans (hh22.trans (hh14.trans (hh6.trans hh2))))), fun _ => rfl, fun _ => ⟨fun q => absurd hA4 (q 4 (by decide)).1, fun _ => rfl⟩⟩
                    · have pre42 := fun τ (κ : Steps p.tables e below (T38.setTop (mkF m 36 #[.val (.ref sa), .val (.int (own_su3 f)), .val (.int (4 : Int32)), .val (.int (f 4)), .val (.int ((f 3) - (48 : Int32))), .val (.int ((9 : Int32) - (3 : Int32)))] [(.int (57 : Int32)), (.int (f 4))])) τ) => pre40 τ (by
                        refine XS.icmpNo X38.here hx rfl (hb hby d9_30) rfl (flt hA4).1 ?_
                        show Steps p.tables e below (T38.setTop (mkF m 33 #[.val (.ref sa), .val (.int (own_su3 f)), .val (.int (4 : Int32)), .val (.int (f 4)), .val (.int ((f 3) - (48 : Int32))), .val (.int ((9 : Int32) - (3 : Int32)))] [])) _
                        refine XS.iloadN X38.here hx rfl (hb hby d9_33) rfl ?_
                        refine XS.bipush X38.here hx rfl (hb hby d9_34) ?_
                        show Steps p.tables e below (T38.setTop (mkF m 36 #[.val (.ref sa), .val (.int (own_su3 f)), .val (.int (4 : Int32)), .val (.int (f 4)), .val (.int ((f 3) - (48 : Int32))), .val (.int ((9 : Int32) - (3 : Int32)))] [(.int (57 : Int32)), (.int (f 4))])) _
                        exact κ)
                      by_cases hB4 : (57 : Int32) < (f 4)
                      · have pre43 := fun τ (κ : Steps p.tables e below (T38.setTop (mkF m 40 #[.val (.ref sa), .val (.int (own_su3 f)), .val (.int (4 : Int32)), .val (.int (f 4)), .val (.int ((f 3) - (48 : Int32))), .val (.int ((9 : Int32) - (3 : Int32)))] [(.int (0 : Int32))])) τ) => pre42 τ (by
                          refine XS.icmpNo X38.here hx rfl (hb hby d9_36) rfl (tlt hB4).2.2.2 ?_
                          show Steps p.tables e below (T38.setTop (mkF m 39 #[.val (.ref sa), .val (.int (own_su3 f)), .val (.int (4 : Int32)), .val (.int (f 4)), .val (.int ((f 3) - (48 : Int32))), .val (.int ((9 : Int32) - (3 : Int32)))] [])) _
                          refine XS.iconst X38.here hx rfl (hb hby d9_39) ?_
                          show Steps p.tables e below (T38.setTop (mkF m 40 #[.val (.ref sa), .val (.int (own_su3 f)), .val (.int (4 : Int32)), .val (.int (f 4)), .val (.int ((f 3) - (48 : Int32))), .val (.int ((9 : Int32) - (3 : Int32)))] [(.int (0 : Int32))])) _
                          exact κ)
                        obtain ⟨fs, hr, hrun, hended, hW, hsame⟩ := X38.leave (v := some (.int (0 : Int32))) (fun h => by rw [Bd.returns] at h; cases h)
                        refine ⟨_, _, pre43 _ ?_, hrun, hended, _, _, rfl, ?_, ⟨_, rfl⟩, hW, hsame.mono (by decide) (by decide)⟩
                        · exact retN X38 hx (t := .boolean) Bd.returns (by simp) (hb hby d9_40) hr
                        · show Q9 Z sa n f zc fm h0 n0 _ T38.heap _
                          exact ⟨0, rfl, N38, (hh38.trans (hh30.trans (hh22.trans (hh14.trans (hh6.trans hh2))))), fun _ => rfl, fun _ => ⟨fun q => absurd hB4 (q 4 (by decide)).2, fun _ => rfl⟩⟩
                      · have pre44 := fun τ (κ : Steps p.tables e below (T38.setTop (mkF m 15 #[.val (.ref sa), .val (.int ((own_su3 f) + (((9 : Int32) - (4 : Int32)) * ((f 4) - (48 : Int32))))), .val (.int ((4 : Int32) + (1 : Int32))), .val (.int (f 4)), .val (.int ((f 4) - (48 : Int32))), .val (.int ((9 : Int32) - (4 : Int32)))] [])) τ) => pre42 τ (by
                          refine XS.icmpYes X38.here hx rfl (pc0 := 36) (pc' := 41) rfl (hb hby d9_36) rfl (flt hB4).2.2.2 (by decide) (by decide) ?_
                          show Steps p.tables e below (T38.setTop (mkF m 41 #[.val (.ref sa), .val (.int (own_su3 f)), .val (.int (4 : Int32)), .val (.int (f 4)), .val (.int ((f 3) - (48 : Int32))), .val (.int ((9 : Int32) - (3 : Int32)))] [])) _
                          refine XS.iloadN X38.here hx rfl (hb hby d9_41) rfl ?_
                          refine XS.bipush X38.here hx rfl (hb hby d9_42) ?_
                          refine XS.isub X38.here hx rfl (hb hby d9_44) rfl ?_
                          show Steps p.tables e below (T38.setTop (mkF m 45 #[.val (.ref sa), .val (.int (own_su3 f)), .val (.int (4 : Int32)), .val (.int (f 4)), .val (.int ((f 3) - (48 : Int32))), .val (.int ((9 : Int32) - (3 : Int32)))] [(.int ((f 4) - (48 : Int32)))])) _
                          refine XS.istore X38.here hx rfl (hb hby d9_45) rfl (l' := #[.val (.ref sa), .val (.int (own_su3 f)), .val (.int (4 : Int32)), .val (.int (f 4)), .val (.int ((f 4) - (48 : Int32))), .val (.int ((9 : Int32) - (3 : Int32)))]) rfl ?_
                          show Steps p.tables e below (T38.setTop (mkF m 47 #[.val (.ref sa), .val (.int (own_su3 f)), .val (.int (4 : Int32)), .val (.int (f 4)), .val (.int ((f 4) - (48 : Int32))), .val (.int ((9 : Int32) - (3 : Int32)))] [])) _
                          refine XS.iloadN X38.here hx rfl (hb hby d9_47) rfl ?_
                          refine XS.bipush X38.here hx rfl (hb hby d9_48) ?_
                          refine XS.icmpNo X38.here hx rfl (hb hby d9_50) rfl (tlt (by decide)).2.1 ?_
                          show Steps p.tables e below (T38.setTop (mkF m 53 #[.val (.ref sa), .val (.int (own_su3 f)), .val (.int (4 : Int32)), .val (.int (f 4)), .val (.int ((f 4) - (48 : Int32))), .val (.int ((9 : Int32) - (3 : Int32)))] [])) _
                          refine XS.bipush X38.here hx rfl (hb hby d9_53) ?_
                          refine XS.iloadN X38.here hx rfl (hb hby d9_55) rfl ?_
                          refine XS.isub X38.here hx rfl (hb hby d9_56) rfl ?_
                          show Steps p.tables e below (T38.setTop (mkF m 57 #[.val (.ref sa), .val (.int (own_su3 f)), .val (.int (4 : Int32)), .val (.int (f 4)), .val (.int ((f 4) - (48 : Int32))), .val (.int ((9 : Int32) - (3 : Int32)))] [(.int ((9 : Int32) - (4 : Int32)))])) _
                          refine XS.goto X38.here hx rfl (pc0 := 57) (pc' := 61) rfl (hb hby d9_57) (by decide) (by decide) ?_
                          show Steps p.tables e below (T38.setTop (mkF m 61 #[.val (.ref sa), .val (.int (own_su3 f)), .val (.int (4 : Int32)), .val (.int (f 4)), .val (.int ((f 4) - (48 : Int32))), .val (.int ((9 : Int32) - (3 : Int32)))] [(.int ((9 : Int32) - (4 : Int32)))])) _
                          refine XS.istore X38.here hx rfl (hb hby d9_61) rfl (l' := #[.val (.ref sa), .val (.int (own_su3 f)), .val (.int (4 : Int32)), .val (.int (f 4)), .val (.int ((f 4) - (48 : Int32))), .val (.int ((9 : Int32) - (4 : Int32)))]) rfl ?_
                          show Steps p.tables e below (T38.setTop (mkF m 63 #[.val (.ref sa), .val (.int (own_su3 f)), .val (.int (4 : Int32)), .val (.int (f 4)), .val (.int ((f 4) - (48 : Int32))), .val (.int ((9 : Int32) - (4 : Int32)))] [])) _
                          refine XS.iloadN X38.here hx rfl (hb hby d9_63) rfl ?_
                          refine XS.iload X38.here hx rfl (hb hby d9_64) rfl ?_
                          refine XS.iload X38.here hx rfl (hb hby d9_66) rfl ?_
                          refine XS.imul X38.here hx rfl (hb hby d9_68) rfl ?_
                          show Steps p.tables e below (T38.setTop (mkF m 69 #[.val (.ref sa), .val (.int (own_su3 f)), .val (.int (4 : Int32)), .val (.int (f 4)), .val (.int ((f 4) - (48 : Int32))), .val (.int ((9 : Int32) - (4 : Int32)))] [(.int (((9 : Int32) - (4 : Int32)) * ((f 4) - (48 : Int32)))), (.int (own_su3 f))])) _
                          refine XS.iadd X38.here hx rfl (hb hby d9_69) rfl ?_
                          show Steps p.tables e below (T38.setTop (mkF m 70 #[.val (.ref sa), .val (.int (own_su3 f)), .val (.int (4 : Int32)), .val (.int (f 4)), .val (.int ((f 4) - (48 : Int32))), .val (.int ((9 : Int32) - (4 : Int32)))] [(.int ((own_su3 f) + (((9 : Int32) - (4 : Int32)) * ((f 4) - (48 : Int32)))))])) _
                          refine XS.istoreN X38.here hx rfl (hb hby d9_70) rfl (l' := #[.val (.ref sa), .val (.int ((own_su3 f) + (((9 : Int32) - (4 : Int32)) * ((f 4) - (48 : Int32))))), .val (.int (4 : Int32)), .val (.int (f 4)), .val (.int ((f 4) - (48 : Int32))), .val (.int ((9 : Int32) - (4 : Int32)))]) rfl ?_
                          show Steps p.tables e below (T38.setTop (mkF m 71 #[.val (.ref sa), .val (.int ((own_su3 f) + (((9 : Int32) - (4 : Int32)) * ((f 4) - (48 : Int32))))), .val (.int (4 : Int32)), .val (.int (f 4)), .val (.int ((f 4) - (48 : Int32))), .val (.int ((9 : Int32) - (4 : Int32)))] [])) _
                          refine XS.iinc X38.here hx rfl (hb hby d9_71) rfl (l' := #[.val (.ref sa), .val (.int ((own_su3 f) + (((9 : Int32) - (4 : Int32)) * ((f 4) - (48 : Int32))))), .val (.int ((4 : Int32) + (1 : Int32))), .val (.int (f 4)), .val (.int ((f 4) - (48 : Int32))), .val (.int ((9 : Int32) - (4 : Int32)))]) rfl ?_
                          show Steps p.tables e below (T38.setTop (mkF m 74 #[.val (.ref sa), .val (.int ((own_su3 f) + (((9 : Int32) - (4 : Int32)) * ((f 4) - (48 : Int32))))), .val (.int ((4 : Int32) + (1 : Int32))), .val (.int (f 4)), .val (.int ((f 4) - (48 : Int32))), .val (.int ((9 : Int32) - (4 : Int32)))] [])) _
                          refine XS.goto X38.here hx rfl (pc0 := 74) (pc' := 15) rfl (hb hby d9_74) (by decide) (by decide) ?_
                          show Steps p.tables e below (T38.setTop (mkF m 15 #[.val (.ref sa), .val (.int ((own_su3 f) + (((9 : Int32) - (4 : Int32)) * ((f 4) - (48 : Int32))))), .val (.int ((4 : Int32) + (1 : Int32))), .val (.int (f 4)), .val (.int ((f 4) - (48 : Int32))), .val (.int ((9 : Int32) - (4 : Int32)))] [])) _
                          exact κ)
                        rw [show ((4 : Int32) + (1 : Int32)) = (5 : Int32) from (by decide)] at pre44
                        rw [show ((own_su3 f) + (((9 : Int32) - (4 : Int32)) * ((f 4) - (48 : Int32)))) = (own_su4 f) from rfl] at pre44
                        have pre45 := fun τ (κ : Steps p.tables e below (T38.setTop (mkF m 23 #[.val (.ref sa), .val (.int (own_su4 f)), .val (.int (5 : Int32)), .val (.int (f 4)), .val (.int ((f 4) - (48 : Int32))), .val (.int ((9 : Int32) - (4 : Int32)))] [(.int (5 : Int32)), (.ref sa)])) τ) => pre44 τ (by
                          refine XS.iloadN X38.here hx rfl (hb hby d9_15) rfl ?_
                          refine XS.bipush X38.here hx rfl (hb hby d9_16) ?_
                          refine XS.icmpNo X38.here hx rfl (hb hby d9_18) rfl (tlt (by decide)).2.1 ?_
                          show Steps p.tables e below (T38.setTop (mkF m 21 #[.val (.ref sa), .val (.int (own_su4 f)), .val (.int (5 : Int32)), .val (.int (f 4)), .val (.int ((f 4) - (48 : Int32))), .val (.int ((9 : Int32) - (4 : Int32)))] [])) _
                          refine XS.aloadN X38.here hx rfl (hb hby d9_21) rfl rfl ?_
                          refine XS.iloadN X38.here hx rfl (hb hby d9_22) rfl ?_
                          show Steps p.tables e below (T38.setTop (mkF m 23 #[.val (.ref sa), .val (.int (own_su4 f)), .val (.int (5 : Int32)), .val (.int (f 4)), .val (.int ((f 4) - (48 : Int32))), .val (.int ((9 : Int32) - (4 : Int32)))] [(.int (5 : Int32)), (.ref sa)])) _
                          exact κ)
                        obtain ⟨cq46, kq46, q46a, q46b, q46c⟩ := isOf hZ rfl E_s_38
                        obtain ⟨_, _, ⟨T46, L46, k46, n46⟩, -, X46, ⟨Lc46, hQ46, l46, y46, z46⟩, st46⟩ := X38.virtualBack hx (y := (⟨"java/lang/String", "charAt", "(I)C"⟩ : MethodName)) (z := (⟨"java/lang/String", "charAt", "(I)C"⟩ : MethodName)) hown (mvT hZ (hw _ (List.mem_of_getElem? (i := 53) rfl))) (mvT hZ (hw _ (List.mem_of_getElem? (i := 54) rfl))) (notFace_of_selects (args := #[]) (mvT hZ (hw _ (List.mem_of_getElem? (i := 56) rfl)))) (mvT hZ (hw _ (List.mem_of_getElem? (i := 56) rfl))) (mvT hZ (hw _ (List.mem_of_getElem? (i := 55) rfl))) (by decide) (backOf (W := 0) (rm12 l Z a0 hw [] sa 5 n f zc fm T38.heap n0 Z38 O0_38 U0 P0_38 hn (by omega) (hf 5 (by omega))) hZ (hw _ (List.mem_of_getElem? (i := 57) rfl)) (hw _ (List.mem_of_getElem? (i := 12) rfl)) (Nat.le_of_ble_eq_true rfl) (Nat.le_of_ble_eq_true rfl)) q46a q46c (g := (mkF m 23 #[.val (.ref sa), .val (.int (own_su4 f)), .val (.int (5 : Int32)), .val (.int (f 4)), .val (.int ((f 4) - (48 : Int32))), .val (.int ((9 : Int32) - (4 : Int32)))] [(.int (5 : Int32)), (.ref sa)])) rfl (by rw [hml]; rfl) (Steps.refl _) (argsL := [(.int (5 : Int32))]) (rest := []) (lenOf pd_15 rfl) rfl (by show 2 * 0 + _ ≤ _; exact Nat.le_of_eq rfl) (hb hby d9_23) (fun _ _ => ⟨rfl, rfl, (by decide : 0 + 0 ≤ _), (by decide : 0 + 0 ≤ _)⟩)
                        dsimp only [Pt.U, Pt.locs, Pt.cells, Pt.slots] at X46 l46 y46 z46 st46 hQ46
                        subst l46 y46 z46
                        obtain ⟨rfl, Nq46, hh46⟩ := hQ46
                        have O0_46 : Old Z n0 T46.heap := by rw [hh46]; exact O0_38
                        have P0_46 : own_STR Z T46.heap sa f n := by rw [hh46]; exact P0_38
                        have E_s_46 : Exa Z T46.heap sa "java/lang/String" := by rw [hh46]; exact E_s_38
                        have Z46 : n0 ≤ T46.heap.size := by rw [hh46]; exact Z38
                        have N46 := Fr.app N38 Nq46
                        have pre47 := fun τ (κ : Steps p.tables e below (T46.setTop (mkF m 26 #[.val (.ref sa), .val (.int (own_su4 f)), .val (.int (5 : Int32)), .val (.int (f 4)), .val (.int ((f 4) - (48 : Int32))), .val (.int ((9 : Int32) - (4 : Int32)))] [(.int (f 5))])) τ) => pre45 τ (st46.trans κ)
                        have pre48 := fun τ (κ : Steps p.tables e below (T46.setTop (mkF m 30 #[.val (.ref sa), .val (.int (own_su4 f)), .val (.int (5 : Int32)), .val (.int (f 5)), .val (.int ((f 4) - (48 : Int32))), .val (.int ((9 : Int32) - (4 : Int32)))] [(.int (48 : Int32)), (.int (f 5))])) τ) => pre47 τ (by
                          refine XS.istoreN X46.here hx rfl (hb hby d9_26) rfl (l' := #[.val (.ref sa), .val (.int (own_su4 f)), .val (.int (5 : Int32)), .val (.int (f 5)), .val (.int ((f 4) - (48 : Int32))), .val (.int ((9 : Int32) - (4 : Int32)))]) rfl ?_
                          show Steps p.tables e below (T46.setTop (mkF m 27 #[.val (.ref sa), .val (.int (own_su4 f)), .val (.int (5 : Int32)), .val (.int (f 5)), .val (.int ((f 4) - (48 : Int32))), .val (.int ((9 : Int32) - (4 : Int32)))] [])) _
                          refine XS.iloadN X46.here hx rfl (hb hby d9_27) rfl ?_
                          refine XS.bipush X46.here hx rfl (hb hby d9_28) ?_
                          show Steps p.tables e below (T46.setTop (mkF m 30 #[.val (.ref sa), .val (.int (own_su4 f)), .val (.int (5 : Int32)), .val (.int (f 5)), .val (.int ((f 4) - (48 : Int32))), .val (.int ((9 : Int32) - (4 : Int32)))] [(.int (48 : Int32)), (.int (f 5))])) _
                          exact κ)
                        by_cases hA5 : (f 5) < (48 : Int32)
                        · have pre49 := fun τ (κ : Steps p.tables e below (T46.setTop (mkF m 40 #[.val (.ref sa), .val (.int (own_su4 f)), .val (.int (5 : Int32)), .val (.int (f 5)), .val (.int ((f 4) - (48 : Int32))), .val (.int ((9 : Int32) - (4 : Int32)))] [(.int (0 : Int32))])) τ) => pre48 τ (by
                            refine XS.icmpYes X46.here hx rfl (pc0 := 30) (pc' := 39) rfl (hb hby d9_30) rfl (tlt hA5).1 (by decide) (by decide) ?_
                            show Steps p.tables e below (T46.setTop (mkF m 39 #[.val (.ref sa), .val (.int (own_su4 f)), .val (.int (5 : Int32)), .val (.int (f 5)), .val (.int ((f 4) - (48 : Int32))), .val (.int ((9 : Int32) - (4 : Int32)))] [])) _
                            refine XS.iconst X46.here hx rfl (hb hby d9_39) ?_
                            show Steps p.tables e below (T46.setTop (mkF m 40 #[.val (.ref sa), .val (.int (own_su4 f)), .val (.int (5 : Int32)), .val (.int (f 5)), .val (.int ((f 4) - (48 : Int32))), .val (.int ((9 : Int32) - (4 : Int32)))] [(.int (0 : Int32))])) _
                            exact κ)
                          obtain ⟨fs, hr, hrun, hended, hW, hsame⟩ := X46.leave (v := some (.int (0 : Int32))) (fun h => by rw [Bd.returns] at h; cases h)
                          refine ⟨_, _, pre49 _ ?_, hrun, hended, _, _, rfl, ?_, ⟨_, rfl⟩, hW, hsame.mono (by decide) (by decide)⟩
                          · exact retN X46 hx (t := .boolean) Bd.returns (by simp) (hb hby d9_40) hr
                          · show Q9 Z sa n f zc fm h0 n0 _ T46.heap _
                            exact ⟨0, rfl, N46, (hh46.trans (hh38.trans (hh30.trans (hh22.trans (hh14.trans (hh6.trans hh2)))))), fun _ => rfl, fun _ => ⟨fun q => absurd hA5 (q 5 (by decide)).1, fun _ => rfl⟩⟩
                        · have pre50 := fun τ (κ : Steps p.tables e below (T46.setTop (mkF m 36 #[.val (.ref sa), .val (.int (own_su4 f)), .val (.int (5 : Int32)), .val (.int (f 5)), .val (.int ((f 4) - (48 : Int32))), .val (.int ((9 : Int32) - (4 : Int32)))] [(.int (57 : Int32)), (.int (f 5))])) τ) => pre48 τ (by
                            refine XS.icmpNo X46.here hx rfl (hb hby d9_30) rfl (flt hA5).1 ?_
                            show Steps p.tables e below (T46.setTop (mkF m 33 #[.val (.ref sa), .val (.int (own_su4 f)), .val (.int (5 : Int32)), .val (.int (f 5)), .val (.int ((f 4) - (48 : Int32))), .val (.int ((9 : Int32) - (4 : Int32)))] [])) _
                            refine XS.iloadN X46.here hx rfl (hb hby d9_33) rfl ?_
                            refine XS.bipush X46.here hx rfl (hb hby d9_34) ?_
                            show Steps p.tables e below (T46.setTop (mkF m 36 #[.val (.ref sa), .val (.int (own_su4 f)), .val (.int (5 : Int32)), .val (.int (f 5)), .val (.int ((f 4) - (48 : Int32))), .val (.int ((9 : Int32) - (4 : Int32)))] [(.int (57 : Int32)), (.int (f 5))])) _
                            exact κ)
                          by_cases hB5 : (57 : Int32) < (f 5)
                          · have pre51 := fun τ (κ : Steps p.tables e below (T46.setTop (mkF m 40 #[.val (.ref sa), .val (.int (own_su4 f)), .val (.int (5 : Int32)), .val (.int (f 5)), .val (.int ((f 4) - (48 : Int32))), .val (.int ((9 : Int32) - (4 : Int32)))] [(.int (0 : Int32))])) τ) => pre50 τ (by
                              refine XS.icmpNo X46.here hx rfl (hb hby d9_36) rfl (tlt hB5).2.2.2 ?_
                              show Steps p.tables e below (T46.setTop (mkF m 39 #[.val (.ref sa), .val (.int (own_su4 f)), .val (.int (5 : Int32)), .val (.int (f 5)), .val (.int ((f 4) - (48 : Int32))), .val (.int ((9 : Int32) - (4 : Int32)))] [])) _
                              refine XS.iconst X46.here hx rfl (hb hby d9_39) ?_
                              show Steps p.tables e below (T46.setTop (mkF m 40 #[.val (.ref sa), .val (.int (own_su4 f)), .val (.int (5 : Int32)), .val (.int (f 5)), .val (.int ((f 4) - (48 : Int32))), .val (.int ((9 : Int32) - (4 : Int32)))] [(.int (0 : Int32))])) _
                              exact κ)
                            obtain ⟨fs, hr, hrun, hended, hW, hsame⟩ := X46.leave (v := some (.int (0 : Int32))) (fun h => by rw [Bd.returns] at h; cases h)
                            refine ⟨_, _, pre51 _ ?_, hrun, hended, _, _, rfl, ?_, ⟨_, rfl⟩, hW, hsame.mono (by decide) (by decide)⟩
                            · exact retN X46 hx (t := .boolean) Bd.returns (by simp) (hb hby d9_40) hr
                            · show Q9 Z sa n f zc fm h0 n0 _ T46.heap _
                              exact ⟨0, rfl, N46, (hh46.trans (hh38.trans (hh30.trans (hh22.trans (hh14.trans (hh6.trans hh2)))))), fun _ => rfl, fun _ => ⟨fun q => absurd hB5 (q 5 (by decide)).2, fun _ => rfl⟩⟩
                          · have pre52 := fun τ (κ : Steps p.tables e below (T46.setTop (mkF m 15 #[.val (.ref sa), .val (.int ((own_su4 f) + (((9 : Int32) - (5 : Int32)) * ((f 5) - (48 : Int32))))), .val (.int ((5 : Int32) + (1 : Int32))), .val (.int (f 5)), .val (.int ((f 5) - (48 : Int32))), .val (.int ((9 : Int32) - (5 : Int32)))] [])) τ) => pre50 τ (by
                              refine XS.icmpYes X46.here hx rfl (pc0 := 36) (pc' := 41) rfl (hb hby d9_36) rfl (flt hB5).2.2.2 (by decide) (by decide) ?_
                              show Steps p.tables e below (T46.setTop (mkF m 41 #[.val (.ref sa), .val (.int (own_su4 f)), .val (.int (5 : Int32)), .val (.int (f 5)), .val (.int ((f 4) - (48 : Int32))), .val (.int ((9 : Int32) - (4 : Int32)))] [])) _
                              refine XS.iloadN X46.here hx rfl (hb hby d9_41) rfl ?_
                              refine XS.bipush X46.here hx rfl (hb hby d9_42) ?_
                              refine XS.isub X46.here hx rfl (hb hby d9_44) rfl ?_
                              show Steps p.tables e below (T46.setTop (mkF m 45 #[.val (.ref sa), .val (.int (own_su4 f)), .val (.int (5 : Int32)), .val (.int (f 5)), .val (.int ((f 4) - (48 : Int32))), .val (.int ((9 : Int32) - (4 : Int32)))] [(.int ((f 5) - (48 : Int32)))])) _
                              refine XS.istore X46.here hx rfl (hb hby d9_45) rfl (l' := #[.val (.ref sa), .val (.int (own_su4 f)), .val (.int (5 : Int32)), .val (.int (f 5)), .val (.int ((f 5) - (48 : Int32))), .val (.int ((9 : Int32) - (4 : Int32)))]) rfl ?_
                              show Steps p.tables e below (T46.setTop (mkF m 47 #[.val (.ref sa), .val (.int (own_su4 f)), .val (.int (5 : Int32)), .val (.int (f 5)), .val (.int ((f 5) - (48 : Int32))), .val (.int ((9 : Int32) - (4 : Int32)))] [])) _
                              refine XS.iloadN X46.here hx rfl (hb hby d9_47) rfl ?_
                              refine XS.bipush X46.here hx rfl (hb hby d9_48) ?_
                              refine XS.icmpNo X46.here hx rfl (hb hby d9_50) rfl (tlt (by decide)).2.1 ?_
                              show Steps p.tables e below (T46.setTop (mkF m 53 #[.val (.ref sa), .val (.int (own_su4 f)), .val (.int (5 : Int32)), .val (.int (f 5)), .val (.int ((f 5) - (48 : Int32))), .val (.int ((9 : Int32) - (4 : Int32)))] [])) _
                              refine XS.bipush X46.here hx rfl (hb hby d9_53) ?_
                              refine XS.iloadN X46.here hx rfl (hb hby d9_55) rfl ?_
                              refine XS.isub X46.here hx rfl (hb hby d9_56) rfl ?_
                              show Steps p.tables e below (T46.setTop (mkF m 57 #[.val (.ref sa), .val (.int (own_su4 f)), .val (.int (5 : Int32)), .val (.int (f 5)), .val (.int ((f 5) - (48 : Int32))), .val (.int ((9 : Int32) - (4 : Int32)))] [(.int ((9 : Int32) - (5 : Int32)))])) _
                              refine XS.goto X46.here hx rfl (pc0 := 57) (pc' := 61) rfl (hb hby d9_57) (by decide) (by decide) ?_
                              show Steps p.tables e below (T46.setTop (mkF m 61 #[.val (.ref sa), .val (.int (own_su4 f)), .val (.int (5 : Int32)), .val (.int (f 5)), .val (.int ((f 5) - (48 : Int32))), .val (.int ((9 : Int32) - (4 : Int32)))] [(.int ((9 : Int32) - (5 : Int32)))])) _
                              refine XS.istore X46.here hx rfl (hb hby d9_61) rfl (l' := #[.val (.ref sa), .val (.int (own_su4 f)), .val (.int (5 : Int32)), .val (.int (f 5)), .val (.int ((f 5) - (48 : Int32))), .val (.int ((9 : Int32) - (5 : Int32)))]) rfl ?_
                              show Steps p.tables e below (T46.setTop (mkF m 63 #[.val (.ref sa), .val (.int (own_su4 f)), .val (.int (5 : Int32)), .val (.int (f 5)), .val (.int ((f 5) - (48 : Int32))), .val (.int ((9 : Int32) - (5 : Int32)))] [])) _
                              refine XS.iloadN X46.here hx rfl (hb hby d9_63) rfl ?_
                              refine XS.iload X46.here hx rfl (hb hby d9_64) rfl ?_
                              refine XS.iload X46.here hx rfl (hb hby d9_66) rfl ?_
                              refine XS.imul X46.here hx rfl (hb hby d9_68) rfl ?_
                              show Steps p.tables e below (T46.setTop (mkF m 69 #[.val (.ref sa), .val (.int (own_su4 f)), .val (.int (5 : Int32)), .val (.int (f 5)), .val (.int ((f 5) - (48 : Int32))), .val (.int ((9 : Int32) - (5 : Int32)))] [(.int (((9 : Int32) - (5 : Int32)) * ((f 5) - (48 : Int32)))), (.int (own_su4 f))])) _
                              refine XS.iadd X46.here hx rfl (hb hby d9_69) rfl ?_
                              show Steps p.tables e below (T46.setTop (mkF m 70 #[.val (.ref sa), .val (.int (own_su4 f)), .val (.int (5 : Int32)), .val (.int (f 5)), .val (.int ((f 5) - (48 : Int32))), .val (.int ((9 : Int32) - (5 : Int32)))] [(.int ((own_su4 f) + (((9 : Int32) - (5 : Int32)) * ((f 5) - (48 : Int32)))))])) _
                              refine XS.istoreN X46.here hx rfl (hb hby d9_70) rfl (l' := #[.val (.ref sa), .val (.int ((own_su4 f) + (((9 : Int32) - (5 : Int32)) * ((f 5) - (48 : Int32))))), .val (.int (5 : Int32)), .val (.int (f 5)), .val (.int ((f 5) - (48 : Int32))), .val (.int ((9 : Int32) - (5 : Int32)))]) rfl ?_
                              show Steps p.tables e below (T46.setTop (mkF m 71 #[.val (.ref sa), .val (.int ((own_su4 f) + (((9 : Int32) - (5 : Int32)) * ((f 5) - (48 : Int32))))), .val (.int (5 : Int32)), .val (.int (f 5)), .val (.int ((f 5) - (48 : Int32))), .val (.int ((9 : Int32) - (5 : Int32)))] [])) _
                              refine XS.iinc X46.here hx rfl (hb hby d9_71) rfl (l' := #[.val (.ref sa), .val (.int ((own_su4 f) + (((9 : Int32) - (5 : Int32)) * ((f 5) - (48 : Int32))))), .val (.int ((5 : Int32) + (1 : Int32))), .val (.int (f 5)), .val (.int ((f 5) - (48 : Int32))), .val (.int ((9 : Int32) - (5 : Int32)))]) rfl ?_
                              show Steps p.tables e below (T46.setTop (mkF m 74 #[.val (.ref sa), .val (.int ((own_su4 f) + (((9 : Int32) - (5 : Int32)) * ((f 5) - (48 : Int32))))), .val (.int ((5 : Int32) + (1 : Int32))), .val (.int (f 5)), .val (.int ((f 5) - (48 : Int32))), .val (.int ((9 : Int32) - (5 : Int32)))] [])) _
                              refine XS.goto X46.here hx rfl (pc0 := 74) (pc' := 15) rfl (hb hby d9_74) (by decide) (by decide) ?_
                              show Steps p.tables e below (T46.setTop (mkF m 15 #[.val (.ref sa), .val (.int ((own_su4 f) + (((9 : Int32) - (5 : Int32)) * ((f 5) - (48 : Int32))))), .val (.int ((5 : Int32) + (1 : Int32))), .val (.int (f 5)), .val (.int ((f 5) - (48 : Int32))), .val (.int ((9 : Int32) - (5 : Int32)))] [])) _
                              exact κ)
                            rw [show ((5 : Int32) + (1 : Int32)) = (6 : Int32) from (by decide)] at pre52
                            rw [show ((own_su4 f) + (((9 : Int32) - (5 : Int32)) * ((f 5) - (48 : Int32)))) = (own_su5 f) from rfl] at pre52
                            have pre53 := fun τ (κ : Steps p.tables e below (T46.setTop (mkF m 23 #[.val (.ref sa), .val (.int (own_su5 f)), .val (.int (6 : Int32)), .val (.int (f 5)), .val (.int ((f 5) - (48 : Int32))), .val (.int ((9 : Int32) - (5 : Int32)))] [(.int (6 : Int32)), (.ref sa)])) τ) => pre52 τ (by
                              refine XS.iloadN X46.here hx rfl (hb hby d9_15) rfl ?_
                              refine XS.bipush X46.here hx rfl (hb hby d9_16) ?_
                              refine XS.icmpNo X46.here hx rfl (hb hby d9_18) rfl (tlt (by decide)).2.1 ?_
                              show Steps p.tables e below (T46.setTop (mkF m 21 #[.val (.ref sa), .val (.int (own_su5 f)), .val (.int (6 : Int32)), .val (.int (f 5)), .val (.int ((f 5) - (48 : Int32))), .val (.int ((9 : Int32) - (5 : Int32)))] [])) _
                              refine XS.aloadN X46.here hx rfl (hb hby d9_21) rfl rfl ?_
                              refine XS.iloadN X46.here hx rfl (hb hby d9_22) rfl ?_
                              show Steps p.tables e below (T46.setTop (mkF m 23 #[.val (.ref sa), .val (.int (own_su5 f)), .val (.int (6 : Int32)), .val (.int (f 5)), .val (.int ((f 5) - (48 : Int32))), .val (.int ((9 : Int32) - (5 : Int32)))] [(.int (6 : Int32)), (.ref sa)])) _
                              exact κ)
                            obtain ⟨cq54, kq54, q54a, q54b, q54c⟩ := isOf hZ rfl E_s_46
                            obtain ⟨_, _, ⟨T54, L54, k54, n54⟩, -, X54, ⟨Lc54, hQ54, l54, y54, z54⟩, st54⟩ := X46.virtualBack hx (y := (⟨"java/lang/String", "charAt", "(I)C"⟩ : MethodName)) (z := (⟨"java/lang/String", "charAt", "(I)C"⟩ : MethodName)) hown (mvT hZ (hw _ (List.mem_of_getElem? (i := 53) rfl))) (mvT hZ (hw _ (List.mem_of_getElem? (i := 54) rfl))) (notFace_of_selects (args := #[]) (mvT hZ (hw _ (List.mem_of_getElem? (i := 56) rfl)))) (mvT hZ (hw _ (List.mem_of_getElem? (i := 56) rfl))) (mvT hZ (hw _ (List.mem_of_getElem? (i := 55) rfl))) (by decide) (backOf (W := 0) (rm12 l Z a0 hw [] sa 6 n f zc fm T46.heap n0 Z46 O0_46 U0 P0_46 hn (by omega) (hf 6 (by omega))) hZ (hw _ (List.mem_of_getElem? (i := 57) rfl)) (hw _ (List.mem_of_getElem? (i := 12) rfl)) (Nat.le_of_ble_eq_true rfl) (Nat.le_of_ble_eq_true rfl)) q54a q54c (g := (mkF m 23 #[.val (.ref sa), .val (.int (own_su5 f)), .val (.int (6 : Int32)), .val (.int (f 5)), .val (.int ((f 5) - (48 : Int32))), .val (.int ((9 : Int32) - (5 : Int32)))] [(.int (6 : Int32)), (.ref sa)])) rfl (by rw [hml]; rfl) (Steps.refl _) (argsL := [(.int (6 : Int32))]) (rest := []) (lenOf pd_15 rfl) rfl (by show 2 * 0 + _ ≤ _; exact Nat.le_of_eq rfl) (hb hby d9_23) (fun _ _ => ⟨rfl, rfl, (by decide : 0 + 0 ≤ _), (by decide : 0 + 0 ≤ _)⟩)
                            dsimp only [Pt.U, Pt.locs, Pt.cells, Pt.slots] at X54 l54 y54 z54 st54 hQ54
                            subst l54 y54 z54
                            obtain ⟨rfl, Nq54, hh54⟩ := hQ54
                            have O0_54 : Old Z n0 T54.heap := by rw [hh54]; exact O0_46
                            have P0_54 : own_STR Z T54.heap sa f n := by rw [hh54]; exact P0_46
                            have E_s_54 : Exa Z T54.heap sa "java/lang/String" := by rw [hh54]; exact E_s_46
                            have Z54 : n0 ≤ T54.heap.size := by rw [hh54]; exact Z46
                            have N54 := Fr.app N46 Nq54
                            have pre55 := fun τ (κ : Steps p.tables e below (T54.setTop (mkF m 26 #[.val (.ref sa), .val (.int (own_su5 f)), .val (.int (6 : Int32)), .val (.int (f 5)), .val (.int ((f 5) - (48 : Int32))), .val (.int ((9 : Int32) - (5 : Int32)))] [(.int (f 6))])) τ) => pre53 τ (st54.trans κ)
                            have pre56 := fun τ (κ : Steps p.tables e below (T54.setTop (mkF m 30 #[.val (.ref sa), .val (.int (own_su5 f)), .val (.int (6 : Int32)), .val (.int (f 6)), .val (.int ((f 5) - (48 : Int32))), .val (.int ((9 : Int32) - (5 : Int32)))] [(.int (48 : Int32)), (.int (f 6))])) τ) => pre55 τ (by
                              refine XS.istoreN X54.here hx rfl (hb hby d9_26) rfl (l' := #[.val (.ref sa), .val (.int (own_su5 f)), .val (.int (6 : Int32)), .val (.int (f 6)), .val (.int ((f 5) - (48 : Int32))), .val (.int ((9 : Int32) - (5 : Int32)))]) rfl ?_
                              show Steps p.tables e below (T54.setTop (mkF m 27 #[.val (.ref sa), .val (.int (own_su5 f)), .val (.int (6 : Int32)), .val (.int (f 6)), .val (.int ((f 5) - (48 : Int32))), .val (.int ((9 : Int32) - (5 : Int32)))] [])) _
                              refine XS.iloadN X54.here hx rfl (hb hby d9_27) rfl ?_
                              refine XS.bipush X54.here hx rfl (hb hby d9_28) ?_
                              show Steps p.tables e below (T54.setTop (mkF m 30 #[.val (.ref sa), .val (.int (own_su5 f)), .val (.int (6 : Int32)), .val (.int (f 6)), .val (.int ((f 5) - (48 : Int32))), .val (.int ((9 : Int32) - (5 : Int32)))] [(.int (48 : Int32)), (.int (f 6))])) _
                              exact κ)
                            by_cases hA6 : (f 6) < (48 : Int32)
                            · have pre57 := fun τ (κ : Steps p.tables e below (T54.setTop (mkF m 40 #[.val (.ref sa), .val (.int (own_su5 f)), .val (.int (6 : Int32)), .val (.int (f 6)), .val (.int ((f 5) - (48 : Int32))), .val (.int ((9 : Int32) - (5 : Int32)))] [(.int (0 : Int32))])) τ) => pre56 τ (by
                                refine XS.icmpYes X54.here hx rfl (pc0 := 30) (pc' := 39) rfl (hb hby d9_30) rfl (tlt hA6).1 (by decide) (by decide) ?_
                                show Steps p.tables e below (T54.setTop (mkF m 39 #[.val (.ref sa), .val (.int (own_su5 f)), .val (.int (6 : Int32)), .val (.int (f 6)), .val (.int ((f 5) - (48 : Int32))), .val (.int ((9 : Int32) - (5 : Int32)))] [])) _
                                refine XS.iconst X54.here hx rfl (hb hby d9_39) ?_
                                show Steps p.tables e below (T54.setTop (mkF m 40 #[.val (.ref sa), .val (.int (own_su5 f)), .val (.int (6 : Int32)), .val (.int (f 6)), .val (.int ((f 5) - (48 : Int32))), .val (.int ((9 : Int32) - (5 : Int32)))] [(.int (0 : Int32))])) _
                                exact κ)
                              obtain ⟨fs, hr, hrun, hended, hW, hsame⟩ := X54.leave (v := some (.int (0 : Int32))) (fun h => by rw [Bd.returns] at h; cases h)
                              refine ⟨_, _, pre57 _ ?_, hrun, hended, _, _, rfl, ?_, ⟨_, rfl⟩, hW, hsame.mono (by decide) (by decide)⟩
                              · exact retN X54 hx (t := .boolean) Bd.returns (by simp) (hb hby d9_40) hr
                              · show Q9 Z sa n f zc fm h0 n0 _ T54.heap _
                                exact ⟨0, rfl, N54, (hh54.trans (hh46.trans (hh38.trans (hh30.trans (hh22.trans (hh14.trans (hh6.trans hh2))))))), fun _ => rfl, fun _ => ⟨fun q => absurd hA6 (q 6 (by decide)).1, fun _ => rfl⟩⟩
                            · have pre58 := fun τ (κ : Steps p.tables e below (T54.setTop (mkF m 36 #[.val (.ref sa), .val (.int (own_su5 f)), .val (.int (6 : Int32)), .val (.int (f 6)), .val (.int ((f 5) - (48 : Int32))), .val (.int ((9 : Int32) - (5 : Int32)))] [(.int (57 : Int32)), (.int (f 6))])) τ) => pre56 τ (by
                                refine XS.icmpNo X54.here hx rfl (hb hby d9_30) rfl (flt hA6).1 ?_
                                show Steps p.tables e below (T54.setTop (mkF m 33 #[.val (.ref sa), .val (.int (own_su5 f)), .val (.int (6 : Int32)), .val (.int (f 6)), .val (.int ((f 5) - (48 : Int32))), .val (.int ((9 : Int32) - (5 : Int32)))] [])) _
                                refine XS.iloadN X54.here hx rfl (hb hby d9_33) rfl ?_
                                refine XS.bipush X54.here hx rfl (hb hby d9_34) ?_
                                show Steps p.tables e below (T54.setTop (mkF m 36 #[.val (.ref sa), .val (.int (own_su5 f)), .val (.int (6 : Int32)), .val (.int (f 6)), .val (.int ((f 5) - (48 : Int32))), .val (.int ((9 : Int32) - (5 : Int32)))] [(.int (57 : Int32)), (.int (f 6))])) _
                                exact κ)
                              by_cases hB6 : (57 : Int32) < (f 6)
                              · have pre59 := fun τ (κ : Steps p.tables e below (T54.setTop (mkF m 40 #[.val (.ref sa), .val (.int (own_su5 f)), .val (.int (6 : Int32)), .val (.int (f 6)), .val (.int ((f 5) - (48 : Int32))), .val (.int ((9 : Int32) - (5 : Int32)))] [(.int (0 : Int32))])) τ) => pre58 τ (by
                                  refine XS.icmpNo X54.here hx rfl (hb hby d9_36) rfl (tlt hB6).2.2.2 ?_
                                  show Steps p.tables e below (T54.setTop (mkF m 39 #[.val (.ref sa), .val (.int (own_su5 f)), .val (.int (6 : Int32)), .val (.int (f 6)), .val (.int ((f 5) - (48 : Int32))), .val (.int ((9 : Int32) - (5 : Int32)))] [])) _
                                  refine XS.iconst X54.here hx rfl (hb hby d9_39) ?_
                                  show Steps p.tables e below (T54.setTop (mkF m 40 #[.val (.ref sa), .val (.int (own_su5 f)), .val (.int (6 : Int32)), .val (.int (f 6)), .val (.int ((f 5) - (48 : Int32))), .val (.int ((9 : Int32) - (5 : Int32)))] [(.int (0 : Int32))])) _
                                  exact κ)
                                obtain ⟨fs, hr, hrun, hended, hW, hsame⟩ := X54.leave (v := some (.int (0 : Int32))) (fun h => by rw [Bd.returns] at h; cases h)
                                refine ⟨_, _, pre59 _ ?_, hrun, hended, _, _, rfl, ?_, ⟨_, rfl⟩, hW, hsame.mono (by decide) (by decide)⟩
                                · exact retN X54 hx (t := .boolean) Bd.returns (by simp) (hb hby d9_40) hr
                                · show Q9 Z sa n f zc fm h0 n0 _ T54.heap _
                                  exact ⟨0, rfl, N54, (hh54.trans (hh46.trans (hh38.trans (hh30.trans (hh22.trans (hh14.trans (hh6.trans hh2))))))), fun _ => rfl, fun _ => ⟨fun q => absurd hB6 (q 6 (by decide)).2, fun _ => rfl⟩⟩
                              · have pre60 := fun τ (κ : Steps p.tables e below (T54.setTop (mkF m 15 #[.val (.ref sa), .val (.int ((own_su5 f) + (((9 : Int32) - (6 : Int32)) * ((f 6) - (48 : Int32))))), .val (.int ((6 : Int32) + (1 : Int32))), .val (.int (f 6)), .val (.int ((f 6) - (48 : Int32))), .val (.int ((9 : Int32) - (6 : Int32)))] [])) τ) => pre58 τ (by
                                  refine XS.icmpYes X54.here hx rfl (pc0 := 36) (pc' := 41) rfl (hb hby d9_36) rfl (flt hB6).2.2.2 (by decide) (by decide) ?_
                                  show Steps p.tables e below (T54.setTop (mkF m 41 #[.val (.ref sa), .val (.int (own_su5 f)), .val (.int (6 : Int32)), .val (.int (f 6)), .val (.int ((f 5) - (48 : Int32))), .val (.int ((9 : Int32) - (5 : Int32)))] [])) _
                                  refine XS.iloadN X54.here hx rfl (hb hby d9_41) rfl ?_
                                  refine XS.bipush X54.here hx rfl (hb hby d9_42) ?_
                                  refine XS.isub X54.here hx rfl (hb hby d9_44) rfl ?_
                                  show Steps p.tables e below (T54.setTop (mkF m 45 #[.val (.ref sa), .val (.int (own_su5 f)), .val (.int (6 : Int32)), .val (.int (f 6)), .val (.int ((f 5) - (48 : Int32))), .val (.int ((9 : Int32) - (5 : Int32)))] [(.int ((f 6) - (48 : Int32)))])) _
                                  refine XS.istore X54.here hx rfl (hb hby d9_45) rfl (l' := #[.val (.ref sa), .val (.int (own_su5 f)), .val (.int (6 : Int32)), .val (.int (f 6)), .val (.int ((f 6) - (48 : Int32))), .val (.int ((9 : Int32) - (5 : Int32)))]) rfl ?_
                                  show Steps p.tables e below (T54.setTop (mkF m 47 #[.val (.ref sa), .val (.int (own_su5 f)), .val (.int (6 : Int32)), .val (.int (f 6)), .val (.int ((f 6) - (48 : Int32))), .val (.int ((9 : Int32) - (5 : Int32)))] [])) _
                                  refine XS.iloadN X54.here hx rfl (hb hby d9_47) rfl ?_
                                  refine XS.bipush X54.here hx rfl (hb hby d9_48) ?_
                                  refine XS.icmpNo X54.here hx rfl (hb hby d9_50) rfl (tlt (by decide)).2.1 ?_
                                  show Steps p.tables e below (T54.setTop (mkF m 53 #[.val (.ref sa), .val (.int (own_su5 f)), .val (.int (6 : Int32)), .val (.int (f 6)), .val (.int ((f 6) - (48 : Int32))), .val (.int ((9 : Int32) - (5 : Int32)))] [])) _
                                  refine XS.bipush X54.here hx rfl (hb hby d9_53) ?_
                                  refine XS.iloadN X54.here hx rfl (hb hby d9_55) rfl ?_
                                  refine XS.isub X54.here hx rfl (hb hby d9_56) rfl ?_
                                  show Steps p.tables e below (T54.setTop (mkF m 57 #[.val (.ref sa), .val (.int (own_su5 f)), .val (.int (6 : Int32)), .val (.int (f 6)), .val (.int ((f 6) - (48 : Int32))), .val (.int ((9 : Int32) - (5 : Int32)))] [(.int ((9 : Int32) - (6 : Int32)))])) _
                                  refine XS.goto X54.here hx rfl (pc0 := 57) (pc' := 61) rfl (hb hby d9_57) (by decide) (by decide) ?_
                                  show Steps p.tables e below (T54.setTop (mkF m 61 #[.val (.ref sa), .val (.int (own_su5 f)), .val (.int (6 : Int32)), .val (.int (f 6)), .val (.int ((f 6) - (48 : Int32))), .val (.int ((9 : Int32) - (5 : Int32)))] [(.int ((9 : Int32) - (6 : Int32)))])) _
                                  refine XS.istore X54.here hx rfl (hb hby d9_61) rfl (l' := #[.val (.ref sa), .val (.int (own_su5 f)), .val (.int (6 : Int32)), .val (.int (f 6)), .val (.int ((f 6) - (48 : Int32))), .val (.int ((9 : Int32) - (6 : Int32)))]) rfl ?_
                                  show Steps p.tables e below (T54.setTop (mkF m 63 #[.val (.ref sa), .val (.int (own_su5 f)), .val (.int (6 : Int32)), .val (.int (f 6)), .val (.int ((f 6) - (48 : Int32))), .val (.int ((9 : Int32) - (6 : Int32)))] [])) _
                                  refine XS.iloadN X54.here hx rfl (hb hby d9_63) rfl ?_
                                  refine XS.iload X54.here hx rfl (hb hby d9_64) rfl ?_
                                  refine XS.iload X54.here hx rfl (hb hby d9_66) rfl ?_
                                  refine XS.imul X54.here hx rfl (hb hby d9_68) rfl ?_
                                  show Steps p.tables e below (T54.setTop (mkF m 69 #[.val (.ref sa), .val (.int (own_su5 f)), .val (.int (6 : Int32)), .val (.int (f 6)), .val (.int ((f 6) - (48 : Int32))), .val (.int ((9 : Int32) - (6 : Int32)))] [(.int (((9 : Int32) - (6 : Int32)) * ((f 6) - (48 : Int32)))), (.int (own_su5 f))])) _
                                  refine XS.iadd X54.here hx rfl (hb hby d9_69) rfl ?_
                                  show Steps p.tables e below (T54.setTop (mkF m 70 #[.val (.ref sa), .val (.int (own_su5 f)), .val (.int (6 : Int32)), .val (.int (f 6)), .val (.int ((f 6) - (48 : Int32))), .val (.int ((9 : Int32) - (6 : Int32)))] [(.int ((own_su5 f) + (((9 : Int32) - (6 : Int32)) * ((f 6) - (48 : Int32)))))])) _
                                  refine XS.istoreN X54.here hx rfl (hb hby d9_70) rfl (l' := #[.val (.ref sa), .val (.int ((own_su5 f) + (((9 : Int32) - (6 : Int32)) * ((f 6) - (48 : Int32))))), .val (.int (6 : Int32)), .val (.int (f 6)), .val (.int ((f 6) - (48 : Int32))), .val (.int ((9 : Int32) - (6 : Int32)))]) rfl ?_
                                  show Steps p.tables e below (T54.setTop (mkF m 71 #[.val (.ref sa), .val (.int ((own_su5 f) + (((9 : Int32) - (6 : Int32)) * ((f 6) - (48 : Int32))))), .val (.int (6 : Int32)), .val (.int (f 6)), .val (.int ((f 6) - (48 : Int32))), .val (.int ((9 : Int32) - (6 : Int32)))] [])) _
                                  refine XS.iinc X54.here hx rfl (hb hby d9_71) rfl (l' := #[.val (.ref sa), .val (.int ((own_su5 f) + (((9 : Int32) - (6 : Int32)) * ((f 6) - (48 : Int32))))), .val (.int ((6 : Int32) + (1 : Int32))), .val (.int (f 6)), .val (.int ((f 6) - (48 : Int32))), .val (.int ((9 : Int32) - (6 : Int32)))]) rfl ?_
                                  show Steps p.tables e below (T54.setTop (mkF m 74 #[.val (.ref sa), .val (.int ((own_su5 f) + (((9 : Int32) - (6 : Int32)) * ((f 6) - (48 : Int32))))), .val (.int ((6 : Int32) + (1 : Int32))), .val (.int (f 6)), .val (.int ((f 6) - (48 : Int32))), .val (.int ((9 : Int32) - (6 : Int32)))] [])) _
                                  refine XS.goto X54.here hx rfl (pc0 := 74) (pc' := 15) rfl (hb hby d9_74) (by decide) (by decide) ?_
                                  show Steps p.tables e below (T54.setTop (mkF m 15 #[.val (.ref sa), .val (.int ((own_su5 f) + (((9 : Int32) - (6 : Int32)) * ((f 6) - (48 : Int32))))), .val (.int ((6 : Int32) + (1 : Int32))), .val (.int (f 6)), .val (.int ((f 6) - (48 : Int32))), .val (.int ((9 : Int32) - (6 : Int32)))] [])) _
                                  exact κ)
                                rw [show ((6 : Int32) + (1 : Int32)) = (7 : Int32) from (by decide)] at pre60
                                rw [show ((own_su5 f) + (((9 : Int32) - (6 : Int32)) * ((f 6) - (48 : Int32)))) = (own_su6 f) from rfl] at pre60
                                have pre61 := fun τ (κ : Steps p.tables e below (T54.setTop (mkF m 23 #[.val (.ref sa), .val (.int (own_su6 f)), .val (.int (7 : Int32)), .val (.int (f 6)), .val (.int ((f 6) - (48 : Int32))), .val (.int ((9 : Int32) - (6 : Int32)))] [(.int (7 : Int32)), (.ref sa)])) τ) => pre60 τ (by
                                  refine XS.iloadN X54.here hx rfl (hb hby d9_15) rfl ?_
                                  refine XS.bipush X54.here hx rfl (hb hby d9_16) ?_
                                  refine XS.icmpNo X54.here hx rfl (hb hby d9_18) rfl (tlt (by decide)).2.1 ?_
                                  show Steps p.tables e below (T54.setTop (mkF m 21 #[.val (.ref sa), .val (.int (own_su6 f)), .val (.int (7 : Int32)), .val (.int (f 6)), .val (.int ((f 6) - (48 : Int32))), .val (.int ((9 : Int32) - (6 : Int32)))] [])) _
                                  refine XS.aloadN X54.here hx rfl (hb hby d9_21) rfl rfl ?_
                                  refine XS.iloadN X54.here hx rfl (hb hby d9_22) rfl ?_
                                  show Steps p.tables e below (T54.setTop (mkF m 23 #[.val (.ref sa), .val (.int (own_su6 f)), .val (.int (7 : Int32)), .val (.int (f 6)), .val (.int ((f 6) - (48 : Int32))), .val (.int ((9 : Int32) - (6 : Int32)))] [(.int (7 : Int32)), (.ref sa)])) _
                                  exact κ)
                                obtain ⟨cq62, kq62, q62a, q62b, q62c⟩ := isOf hZ rfl E_s_54
                                obtain ⟨_, _, ⟨T62, L62, k62, n62⟩, -, X62, ⟨Lc62, hQ62, l62, y62, z62⟩, st62⟩ := X54.virtualBack hx (y := (⟨"java/lang/String", "charAt", "(I)C"⟩ : MethodName)) (z := (⟨"java/lang/String", "charAt", "(I)C"⟩ : MethodName)) hown (mvT hZ (hw _ (List.mem_of_getElem? (i := 53) rfl))) (mvT hZ (hw _ (List.mem_of_getElem? (i := 54) rfl))) (notFace_of_selects (args := #[]) (mvT hZ (hw _ (List.mem_of_getElem? (i := 56) rfl)))) (mvT hZ (hw _ (List.mem_of_getElem? (i := 56) rfl))) (mvT hZ (hw _ (List.mem_of_getElem? (i := 55) rfl))) (by decide) (backOf (W := 0) (rm12 l Z a0 hw [] sa 7 n f zc fm T54.heap n0 Z54 O0_54 U0 P0_54 hn (by omega) (hf 7 (by omega))) hZ (hw _ (List.mem_of_getElem? (i := 57) rfl)) (hw _ (List.mem_of_getElem? (i := 12) rfl)) (Nat.le_of_ble_eq_true rfl) (Nat.le_of_ble_eq_true rfl)) q62a q62c (g := (mkF m 23 #[.val (.ref sa), .val (.int (own_su6 f)), .val (.int (7 : Int32)), .val (.int (f 6)), .val (.int ((f 6) - (48 : Int32))), .val (.int ((9 : Int32) - (6 : Int32)))] [(.int (7 : Int32)), (.ref sa)])) rfl (by rw [hml]; rfl) (Steps.refl _) (argsL := [(.int (7 : Int32))]) (rest := []) (lenOf pd_15 rfl) rfl (by show 2 * 0 + _ ≤ _; exact Nat.le_of_eq rfl) (hb hby d9_23) (fun _ _ => ⟨rfl, rfl, (by decide : 0 + 0 ≤ _), (by decide : 0 + 0 ≤ _)⟩)
                                dsimp only [Pt.U, Pt.locs, Pt.cells, Pt.slots] at X62 l62 y62 z62 st62 hQ62
                                subst l62 y62 z62
                                obtain ⟨rfl, Nq62, hh62⟩ := hQ62
                                have O0_62 : Old Z n0 T62.heap := by rw [hh62]; exact O0_54
                                have P0_62 : own_STR Z T62.heap sa f n := by rw [hh62]; exact P0_54
                                have E_s_62 : Exa Z T62.heap sa "java/lang/String" := by rw [hh62]; exact E_s_54
                                have Z62 : n0 ≤ T62.heap.size := by rw [hh62]; exact Z54
                                have N62 := Fr.app N54 Nq62
                                have pre63 := fun τ (κ : Steps p.tables e below (T62.setTop (mkF m 26 #[.val (.ref sa), .val (.int (own_su6 f)), .val (.int (7 : Int32)), .val (.int (f 6)), .val (.int ((f 6) - (48 : Int32))), .val (.int ((9 : Int32) - (6 : Int32)))] [(.int (f 7))])) τ) => pre61 τ (st62.trans κ)
                                have pre64 := fun τ (κ : Steps p.tables e below (T62.setTop (mkF m 30 #[.val (.ref sa), .val (.int (own_su6 f)), .val (.int (7 : Int32)), .val (.int (f 7)), .val (.int ((f 6) - (48 : Int32))), .val (.int ((9 : Int32) - (6 : Int32)))] [(.int (48 : Int32)), (.int (f 7))])) τ) => pre63 τ (by
                                  refine XS.istoreN X62.here hx rfl (hb hby d9_26) rfl (l' := #[.val (.ref sa), .val (.int (own_su6 f)), .val (.int (7 : Int32)), .val (.int (f 7)), .val (.int ((f 6) - (48 : Int32))), .val (.int ((9 : Int32) - (6 : Int32)))]) rfl ?_
                                  show Steps p.tables e below (T62.setTop (mkF m 27 #[.val (.ref sa), .val (.int (own_su6 f)), .val (.int (7 : Int32)), .val (.int (f 7)), .val (.int ((f 6) - (48 : Int32))), .val (.int ((9 : Int32) - (6 : Int32)))] [])) _
                                  refine XS.iloadN X62.here hx rfl (hb hby d9_27) rfl ?_
                                  refine XS.bipush X62.here hx rfl (hb hby d9_28) ?_
                                  show Steps p.tables e below (T62.setTop (mkF m 30 #[.val (.ref sa), .val (.int (own_su6 f)), .val (.int (7 : Int32)), .val (.int (f 7)), .val (.int ((f 6) - (48 : Int32))), .val (.int ((9 : Int32) - (6 : Int32)))] [(.int (48 : Int32)), (.int (f 7))])) _
                                  exact κ)
                                by_cases hA7 : (f 7) < (48 : Int32)
                                · have pre65 := fun τ (κ : Steps p.tables e below (T62.setTop (mkF m 40 #[.val (.ref sa), .val (.int (own_su6 f)), .val (.int (7 : Int32)), .val (.int (f 7)), .val (.int ((f 6) - (48 : Int32))), .val (.int ((9 : Int32) - (6 : Int32)))] [(.int (0 : Int32))])) τ) => pre64 τ (by
                                    refine XS.icmpYes X62.here hx rfl (pc0 := 30) (pc' := 39) rfl (hb hby d9_30) rfl (tlt hA7).1 (by decide) (by decide) ?_
                                    show Steps p.tables e below (T62.setTop (mkF m 39 #[.val (.ref sa), .val (.int (own_su6 f)), .val (.int (7 : Int32)), .val (.int (f 7)), .val (.int ((f 6) - (48 : Int32))), .val (.int ((9 : Int32) - (6 : Int32)))] [])) _
                                    refine XS.iconst X62.here hx rfl (hb hby d9_39) ?_
                                    show Steps p.tables e below (T62.setTop (mkF m 40 #[.val (.ref sa), .val (.int (own_su6 f)), .val (.int (7 : Int32)), .val (.int (f 7)), .val (.int ((f 6) - (48 : Int32))), .val (.int ((9 : Int32) - (6 : Int32)))] [(.int (0 : Int32))])) _
                                    exact κ)
                                  obtain ⟨fs, hr, hrun, hended, hW, hsame⟩ := X62.leave (v := some (.int (0 : Int32))) (fun h => by rw [Bd.returns] at h; cases h)
                                  refine ⟨_, _, pre65 _ ?_, hrun, hended, _, _, rfl, ?_, ⟨_, rfl⟩, hW, hsame.mono (by decide) (by decide)⟩
                                  · exact retN X62 hx (t := .boolean) Bd.returns (by simp) (hb hby d9_40) hr
                                  · show Q9 Z sa n f zc fm h0 n0 _ T62.heap _
                                    exact ⟨0, rfl, N62, (hh62.trans (hh54.trans (hh46.trans (hh38.trans (hh30.trans (hh22.trans (hh14.trans (hh6.trans hh2)))))))), fun _ => rfl, fun _ => ⟨fun q => absurd hA7 (q 7 (by decide)).1, fun _ => rfl⟩⟩
                                · have pre66 := fun τ (κ : Steps p.tables e below (T62.setTop (mkF m 36 #[.val (.ref sa), .val (.int (own_su6 f)), .val (.int (7 : Int32)), .val (.int (f 7)), .val (.int ((f 6) - (48 : Int32))), .val (.int ((9 : Int32) - (6 : Int32)))] [(.int (57 : Int32)), (.int (f 7))])) τ) => pre64 τ (by
                                    refine XS.icmpNo X62.here hx rfl (hb hby d9_30) rfl (flt hA7).1 ?_
                                    show Steps p.tables e below (T62.setTop (mkF m 33 #[.val (.ref sa), .val (.int (own_su6 f)), .val (.int (7 : Int32)), .val (.int (f 7)), .val (.int ((f 6) - (48 : Int32))), .val (.int ((9 : Int32) - (6 : Int32)))] [])) _
                                    refine XS.iloadN X62.here hx rfl (hb hby d9_33) rfl ?_
                                    refine XS.bipush X62.here hx rfl (hb hby d9_34) ?_
                                    show Steps p.tables e below (T62.setTop (mkF m 36 #[.val (.ref sa), .val (.int (own_su6 f)), .val (.int (7 : Int32)), .val (.int (f 7)), .val (.int ((f 6) - (48 : Int32))), .val (.int ((9 : Int32) - (6 : Int32)))] [(.int (57 : Int32)), (.int (f 7))])) _
                                    exact κ)
                                  by_cases hB7 : (57 : Int32) < (f 7)
                                  · have pre67 := fun τ (κ : Steps p.tables e below (T62.setTop (mkF m 40 #[.val (.ref sa), .val (.int (own_su6 f)), .val (.int (7 : Int32)), .val (.int (f 7)), .val (.int ((f 6) - (48 : Int32))), .val (.int ((9 : Int32) - (6 : Int32)))] [(.int (0 : Int32))])) τ) => pre66 τ (by
                                      refine XS.icmpNo X62.here hx rfl (hb hby d9_36) rfl (tlt hB7).2.2.2 ?_
                                      show Steps p.tables e below (T62.setTop (mkF m 39 #[.val (.ref sa), .val (.int (own_su6 f)), .val (.int (7 : Int32)), .val (.int (f 7)), .val (.int ((f 6) - (48 : Int32))), .val (.int ((9 : Int32) - (6 : Int32)))] [])) _
                                      refine XS.iconst X62.here hx rfl (hb hby d9_39) ?_
                                      show Steps p.tables e below (T62.setTop (mkF m 40 #[.val (.ref sa), .val (.int (own_su6 f)), .val (.int (7 : Int32)), .val (.int (f 7)), .val (.int ((f 6) - (48 : Int32))), .val (.int ((9 : Int32) - (6 : Int32)))] [(.int (0 : Int32))])) _
                                      exact κ)
                                    obtain ⟨fs, hr, hrun, hended, hW, hsame⟩ := X62.leave (v := some (.int (0 : Int32))) (fun h => by rw [Bd.returns] at h; cases h)
                                    refine ⟨_, _, pre67 _ ?_, hrun, hended, _, _, rfl, ?_, ⟨_, rfl⟩, hW, hsame.mono (by decide) (by decide)⟩
                                    · exact retN X62 hx (t := .boolean) Bd.returns (by simp) (hb hby d9_40) hr
                                    · show Q9 Z sa n f zc fm h0 n0 _ T62.heap _
                                      exact ⟨0, rfl, N62, (hh62.trans (hh54.trans (hh46.trans (hh38.trans (hh30.trans (hh22.trans (hh14.trans (hh6.trans hh2)))))))), fun _ => rfl, fun _ => ⟨fun q => absurd hB7 (q 7 (by decide)).2, fun _ => rfl⟩⟩
                                  · have pre68 := fun τ (κ : Steps p.tables e below (T62.setTop (mkF m 15 #[.val (.ref sa), .val (.int ((own_su6 f) + (((9 : Int32) - (7 : Int32)) * ((f 7) - (48 : Int32))))), .val (.int ((7 : Int32) + (1 : Int32))), .val (.int (f 7)), .val (.int ((f 7) - (48 : Int32))), .val (.int ((9 : Int32) - (7 : Int32)))] [])) τ) => pre66 τ (by
                                      refine XS.icmpYes X62.here hx rfl (pc0 := 36) (pc' := 41) rfl (hb hby d9_36) rfl (flt hB7).2.2.2 (by decide) (by decide) ?_
                                      show Steps p.tables e below (T62.setTop (mkF m 41 #[.val (.ref sa), .val (.int (own_su6 f)), .val (.int (7 : Int32)), .val (.int (f 7)), .val (.int ((f 6) - (48 : Int32))), .val (.int ((9 : Int32) - (6 : Int32)))] [])) _
                                      refine XS.iloadN X62.here hx rfl (hb hby d9_41) rfl ?_
                                      refine XS.bipush X62.here hx rfl (hb hby d9_42) ?_
                                      refine XS.isub X62.here hx rfl (hb hby d9_44) rfl ?_
                                      show Steps p.tables e below (T62.setTop (mkF m 45 #[.val (.ref sa), .val (.int (own_su6 f)), .val (.int (7 : Int32)), .val (.int (f 7)), .val (.int ((f 6) - (48 : Int32))), .val (.int ((9 : Int32) - (6 : Int32)))] [(.int ((f 7) - (48 : Int32)))])) _
                                      refine XS.istore X62.here hx rfl (hb hby d9_45) rfl (l' := #[.val (.ref sa), .val (.int (own_su6 f)), .val (.int (7 : Int32)), .val (.int (f 7)), .val (.int ((f 7) - (48 : Int32))), .val (.int ((9 : Int32) - (6 : Int32)))]) rfl ?_
                                      show Steps p.tables e below (T62.setTop (mkF m 47 #[.val (.ref sa), .val (.int (own_su6 f)), .val (.int (7 : Int32)), .val (.int (f 7)), .val (.int ((f 7) - (48 : Int32))), .val (.int ((9 : Int32) - (6 : Int32)))] [])) _
                                      refine XS.iloadN X62.here hx rfl (hb hby d9_47) rfl ?_
                                      refine XS.bipush X62.here hx rfl (hb hby d9_48) ?_
                                      refine XS.icmpNo X62.here hx rfl (hb hby d9_50) rfl (tlt (by decide)).2.1 ?_
                                      show Steps p.tables e below (T62.setTop (mkF m 53 #[.val (.ref sa), .val (.int (own_su6 f)), .val (.int (7 : Int32)), .val (.int (f 7)), .val (.int ((f 7) - (48 : Int32))), .val (.int ((9 : Int32) - (6 : Int32)))] [])) _
                                      refine XS.bipush X62.here hx rfl (hb hby d9_53) ?_
                                      refine XS.iloadN X62.here hx rfl (hb hby d9_55) rfl ?_
                                      refine XS.isub X62.here hx rfl (hb hby d9_56) rfl ?_
                                      show Steps p.tables e below (T62.setTop (mkF m 57 #[.val (.ref sa), .val (.int (own_su6 f)), .val (.int (7 : Int32)), .val (.int (f 7)), .val (.int ((f 7) - (48 : Int32))), .val (.int ((9 : Int32) - (6 : Int32)))] [(.int ((9 : Int32) - (7 : Int32)))])) _
                                      refine XS.goto X62.here hx rfl (pc0 := 57) (pc' := 61) rfl (hb hby d9_57) (by decide) (by decide) ?_
                                      show Steps p.tables e below (T62.setTop (mkF m 61 #[.val (.ref sa), .val (.int (own_su6 f)), .val (.int (7 : Int32)), .val (.int (f 7)), .val (.int ((f 7) - (48 : Int32))), .val (.int ((9 : Int32) - (6 : Int32)))] [(.int ((9 : Int32) - (7 : Int32)))])) _
                                      refine XS.istore X62.here hx rfl (hb hby d9_61) rfl (l' := #[.val (.ref sa), .val (.int (own_su6 f)), .val (.int (7 : Int32)), .val (.int (f 7)), .val (.int ((f 7) - (48 : Int32))), .val (.int ((9 : Int32) - (7 : Int32)))]) rfl ?_
                                      show Steps p.tables e below (T62.setTop (mkF m 63 #[.val (.ref sa), .val (.int (own_su6 f)), .val (.int (7 : Int32)), .val (.int (f 7)), .val (.int ((f 7) - (48 : Int32))), .val (.int ((9 : Int32) - (7 : Int32)))] [])) _
                                      refine XS.iloadN X62.here hx rfl (hb hby d9_63) rfl ?_
                                      refine XS.iload X62.here hx rfl (hb hby d9_64) rfl ?_
                                      refine XS.iload X62.here hx rfl (hb hby d9_66) rfl ?_
                                      refine XS.imul X62.here hx rfl (hb hby d9_68) rfl ?_
                                      show Steps p.tables e below (T62.setTop (mkF m 69 #[.val (.ref sa), .val (.int (own_su6 f)), .val (.int (7 : Int32)), .val (.int (f 7)), .val (.int ((f 7) - (48 : Int32))), .val (.int ((9 : Int32) - (7 : Int32)))] [(.int (((9 : Int32) - (7 : Int32)) * ((f 7) - (48 : Int32)))), (.int (own_su6 f))])) _
                                      refine XS.iadd X62.here hx rfl (hb hby d9_69) rfl ?_
                                      show Steps p.tables e below (T62.setTop (mkF m 70 #[.val (.ref sa), .val (.int (own_su6 f)), .val (.int (7 : Int32)), .val (.int (f 7)), .val (.int ((f 7) - (48 : Int32))), .val (.int ((9 : Int32) - (7 : Int32)))] [(.int ((own_su6 f) + (((9 : Int32) - (7 : Int32)) * ((f 7) - (48 : Int32)))))])) _
                                      refine XS.istoreN X62.here hx rfl (hb hby d9_70) rfl (l' := #[.val (.ref sa), .val (.int ((own_su6 f) + (((9 : Int32) - (7 : Int32)) * ((f 7) - (48 : Int32))))), .val (.int (7 : Int32)), .val (.int (f 7)), .val (.int ((f 7) - (48 : Int32))), .val (.int ((9 : Int32) - (7 : Int32)))]) rfl ?_
                                      show Steps p.tables e below (T62.setTop (mkF m 71 #[.val (.ref sa), .val (.int ((own_su6 f) + (((9 : Int32) - (7 : Int32)) * ((f 7) - (48 : Int32))))), .val (.int (7 : Int32)), .val (.int (f 7)), .val (.int ((f 7) - (48 : Int32))), .val (.int ((9 : Int32) - (7 : Int32)))] [])) _
                                      refine XS.iinc X62.here hx rfl (hb hby d9_71) rfl (l' := #[.val (.ref sa), .val (.int ((own_su6 f) + (((9 : Int32) - (7 : Int32)) * ((f 7) - (48 : Int32))))), .val (.int ((7 : Int32) + (1 : Int32))), .val (.int (f 7)), .val (.int ((f 7) - (48 : Int32))), .val (.int ((9 : Int32) - (7 : Int32)))]) rfl ?_
                                      show Steps p.tables e below (T62.setTop (mkF m 74 #[.val (.ref sa), .val (.int ((own_su6 f) + (((9 : Int32) - (7 : Int32)) * ((f 7) - (48 : Int32))))), .val (.int ((7 : Int32) + (1 : Int32))), .val (.int (f 7)), .val (.int ((f 7) - (48 : Int32))), .val (.int ((9 : Int32) - (7 : Int32)))] [])) _
                                      refine XS.goto X62.here hx rfl (pc0 := 74) (pc' := 15) rfl (hb hby d9_74) (by decide) (by decide) ?_
                                      show Steps p.tables e below (T62.setTop (mkF m 15 #[.val (.ref sa), .val (.int ((own_su6 f) + (((9 : Int32) - (7 : Int32)) * ((f 7) - (48 : Int32))))), .val (.int ((7 : Int32) + (1 : Int32))), .val (.int (f 7)), .val (.int ((f 7) - (48 : Int32))), .val (.int ((9 : Int32) - (7 : Int32)))] [])) _
                                      exact κ)
                                    rw [show ((7 : Int32) + (1 : Int32)) = (8 : Int32) from (by decide)] at pre68
                                    rw [show ((own_su6 f) + (((9 : Int32) - (7 : Int32)) * ((f 7) - (48 : Int32)))) = (own_su7 f) from rfl] at pre68
                                    have pre69 := fun τ (κ : Steps p.tables e below (T62.setTop (mkF m 23 #[.val (.ref sa), .val (.int (own_su7 f)), .val (.int (8 : Int32)), .val (.int (f 7)), .val (.int ((f 7) - (48 : Int32))), .val (.int ((9 : Int32) - (7 : Int32)))] [(.int (8 : Int32)), (.ref sa)])) τ) => pre68 τ (by
                                      refine XS.iloadN X62.here hx rfl (hb hby d9_15) rfl ?_
                                      refine XS.bipush X62.here hx rfl (hb hby d9_16) ?_
                                      refine XS.icmpNo X62.here hx rfl (hb hby d9_18) rfl (tlt (by decide)).2.1 ?_
                                      show Steps p.tables e below (T62.setTop (mkF m 21 #[.val (.ref sa), .val (.int (own_su7 f)), .val (.int (8 : Int32)), .val (.int (f 7)), .val (.int ((f 7) - (48 : Int32))), .val (.int ((9 : Int32) - (7 : Int32)))] [])) _
                                      refine XS.aloadN X62.here hx rfl (hb hby d9_21) rfl rfl ?_
                                      refine XS.iloadN X62.here hx rfl (hb hby d9_22) rfl ?_
                                      show Steps p.tables e below (T62.setTop (mkF m 23 #[.val (.ref sa), .val (.int (own_su7 f)), .val (.int (8 : Int32)), .val (.int (f 7)), .val (.int ((f 7) - (48 : Int32))), .val (.int ((9 : Int32) - (7 : Int32)))] [(.int (8 : Int32)), (.ref sa)])) _
                                      exact κ)
                                    obtain ⟨cq70, kq70, q70a, q70b, q70c⟩ := isOf hZ rfl E_s_62
                                    obtain ⟨_, _, ⟨T70, L70, k70, n70⟩, -, X70, ⟨Lc70, hQ70, l70, y70, z70⟩, st70⟩ := X62.virtualBack hx (y := (⟨"java/lang/String", "charAt", "(I)C"⟩ : MethodName)) (z := (⟨"java/lang/String", "charAt", "(I)C"⟩ : MethodName)) hown (mvT hZ (hw _ (List.mem_of_getElem? (i := 53) rfl))) (mvT hZ (hw _ (List.mem_of_getElem? (i := 54) rfl))) (notFace_of_selects (args := #[]) (mvT hZ (hw _ (List.mem_of_getElem? (i := 56) rfl)))) (mvT hZ (hw _ (List.mem_of_getElem? (i := 56) rfl))) (mvT hZ (hw _ (List.mem_of_getElem? (i := 55) rfl))) (by decide) (backOf (W := 0) (rm12 l Z a0 hw [] sa 8 n f zc fm T62.heap n0 Z62 O0_62 U0 P0_62 hn (by omega) (hf 8 (by omega))) hZ (hw _ (List.mem_of_getElem? (i := 57) rfl)) (hw _ (List.mem_of_getElem? (i := 12) rfl)) (Nat.le_of_ble_eq_true rfl) (Nat.le_of_ble_eq_true rfl)) q70a q70c (g := (mkF m 23 #[.val (.ref sa), .val (.int (own_su7 f)), .val (.int (8 : Int32)), .val (.int (f 7)), .val (.int ((f 7) - (48 : Int32))), .val (.int ((9 : Int32) - (7 : Int32)))] [(.int (8 : Int32)), (.ref sa)])) rfl (by rw [hml]; rfl) (Steps.refl _) (argsL := [(.int (8 : Int32))]) (rest := []) (lenOf pd_15 rfl) rfl (by show 2 * 0 + _ ≤ _; exact Nat.le_of_eq rfl) (hb hby d9_23) (fun _ _ => ⟨rfl, rfl, (by decide : 0 + 0 ≤ _), (by decide : 0 + 0 ≤ _)⟩)
                                    dsimp only [Pt.U, Pt.locs, Pt.cells, Pt.slots] at X70 l70 y70 z70 st70 hQ70
                                    subst l70 y70 z70
                                    obtain ⟨rfl, Nq70, hh70⟩ := hQ70
                                    have O0_70 : Old Z n0 T70.heap := by rw [hh70]; exact O0_62
                                    have P0_70 : own_STR Z T70.heap sa f n := by rw [hh70]; exact P0_62
                                    have E_s_70 : Exa Z T70.heap sa "java/lang/String" := by rw [hh70]; exact E_s_62
                                    have Z70 : n0 ≤ T70.heap.size := by rw [hh70]; exact Z62
                                    have N70 := Fr.app N62 Nq70
                                    have pre71 := fun τ (κ : Steps p.tables e below (T70.setTop (mkF m 26 #[.val (.ref sa), .val (.int (own_su7 f)), .val (.int (8 : Int32)), .val (.int (f 7)), .val (.int ((f 7) - (48 : Int32))), .val (.int ((9 : Int32) - (7 : Int32)))] [(.int (f 8))])) τ) => pre69 τ (st70.trans κ)
                                    have pre72 := fun τ (κ : Steps p.tables e below (T70.setTop (mkF m 30 #[.val (.ref sa), .val (.int (own_su7 f)), .val (.int (8 : Int32)), .val (.int (f 8)), .val (.int ((f 7) - (48 : Int32))), .val (.int ((9 : Int32) - (7 : Int32)))] [(.int (48 : Int32)), (.int (f 8))])) τ) => pre71 τ (by
                                      refine XS.istoreN X70.here hx rfl (hb hby d9_26) rfl (l' := #[.val (.ref sa), .val (.int (own_su7 f)), .val (.int (8 : Int32)), .val (.int (f 8)), .val (.int ((f 7) - (48 : Int32))), .val (.int ((9 : Int32) - (7 : Int32)))]) rfl ?_
                                      show Steps p.tables e below (T70.setTop (mkF m 27 #[.val (.ref sa), .val (.int (own_su7 f)), .val (.int (8 : Int32)), .val (.int (f 8)), .val (.int ((f 7) - (48 : Int32))), .val (.int ((9 : Int32) - (7 : Int32)))] [])) _
                                      refine XS.iloadN X70.here hx rfl (hb hby d9_27) rfl ?_
                                      refine XS.bipush X70.here hx rfl (hb hby d9_28) ?_
                                      show Steps p.tables e below (T70.setTop (mkF m 30 #[.val (.ref sa), .val (.int (own_su7 f)), .val (.int (8 : Int32)), .val (.int (f 8)), .val (.int ((f 7) - (48 : Int32))), .val (.int ((9 : Int32) - (7 : Int32)))] [(.int (48 : Int32)), (.int (f 8))])) _
                                      exact κ)
                                    by_cases hA8 : (f 8) < (48 : Int32)
                                    · have pre73 := fun τ (κ : Steps p.tables e below (T70.setTop (mkF m 40 #[.val (.ref sa), .val (.int (own_su7 f)), .val (.int (8 : Int32)), .val (.int (f 8)), .val (.int ((f 7) - (48 : Int32))), .val (.int ((9 : Int32) - (7 : Int32)))] [(.int (0 : Int32))])) τ) => pre72 τ (by
                                        refine XS.icmpYes X70.here hx rfl (pc0 := 30) (pc' := 39) rfl (hb hby d9_30) rfl (tlt hA8).1 (by decide) (by decide) ?_
                                        show Steps p.tables e below (T70.setTop (mkF m 39 #[.val (.ref sa), .val (.int (own_su7 f)), .val (.int (8 : Int32)), .val (.int (f 8)), .val (.int ((f 7) - (48 : Int32))), .val (.int ((9 : Int32) - (7 : Int32)))] [])) _
                                        refine XS.iconst X70.here hx rfl (hb hby d9_39) ?_
                                        show Steps p.tables e below (T70.setTop (mkF m 40 #[.val (.ref sa), .val (.int (own_su7 f)), .val (.int (8 : Int32)), .val (.int (f 8)), .val (.int ((f 7) - (48 : Int32))), .val (.int ((9 : Int32) - (7 : Int32)))] [(.int (0 : Int32))])) _
                                        exact κ)
                                      obtain ⟨fs, hr, hrun, hended, hW, hsame⟩ := X70.leave (v := some (.int (0 : Int32))) (fun h => by rw [Bd.returns] at h; cases h)
                                      refine ⟨_, _, pre73 _ ?_, hrun, hended, _, _, rfl, ?_, ⟨_, rfl⟩, hW, hsame.mono (by decide) (by decide)⟩
                                      · exact retN X70 hx (t := .boolean) Bd.returns (by simp) (hb hby d9_40) hr
                                      · show Q9 Z sa n f zc fm h0 n0 _ T70.heap _
                                        exact ⟨0, rfl, N70, (hh70.trans (hh62.trans (hh54.trans (hh46.trans (hh38.trans (hh30.trans (hh22.trans (hh14.trans (hh6.trans hh2))))))))), fun _ => rfl, fun _ => ⟨fun q => absurd hA8 (q 8 (by decide)).1, fun _ => rfl⟩⟩
                                    · have pre74 := fun τ (κ : Steps p.tables e below (T70.setTop (mkF m 36 #[.val (.ref sa), .val (.int (own_su7 f)), .val (.int (8 : Int32)), .val (.int (f 8)), .val (.int ((f 7) - (48 : Int32))), .val (.int ((9 : Int32) - (7 : Int32)))] [(.int (57 : Int32)), (.int (f 8))])) τ) => pre72 τ (by
                                        refine XS.icmpNo X70.here hx rfl (hb hby d9_30) rfl (flt hA8).1 ?_
                                        show Steps p.tables e below (T70.setTop (mkF m 33 #[.val (.ref sa), .val (.int (own_su7 f)), .val (.int (8 : Int32)), .val (.int (f 8)), .val (.int ((f 7) - (48 : Int32))), .val (.int ((9 : Int32) - (7 : Int32)))] [])) _
                                        refine XS.iloadN X70.here hx rfl (hb hby d9_33) rfl ?_
                                        refine XS.bipush X70.here hx rfl (hb hby d9_34) ?_
                                        show Steps p.tables e below (T70.setTop (mkF m 36 #[.val (.ref sa), .val (.int (own_su7 f)), .val (.int (8 : Int32)), .val (.int (f 8)), .val (.int ((f 7) - (48 : Int32))), .val (.int ((9 : Int32) - (7 : Int32)))] [(.int (57 : Int32)), (.int (f 8))])) _
                                        exact κ)
                                      by_cases hB8 : (57 : Int32) < (f 8)
                                      · have pre75 := fun τ (κ : Steps p.tables e below (T70.setTop (mkF m 40 #[.val (.ref sa), .val (.int (own_su7 f)), .val (.int (8 : Int32)), .val (.int (f 8)), .val (.int ((f 7) - (48 : Int32))), .val (.int ((9 : Int32) - (7 : Int32)))] [(.int (0 : Int32))])) τ) => pre74 τ (by
                                          refine XS.icmpNo X70.here hx rfl (hb hby d9_36) rfl (tlt hB8).2.2.2 ?_
                                          show Steps p.tables e below (T70.setTop (mkF m 39 #[.val (.ref sa), .val (.int (own_su7 f)), .val (.int (8 : Int32)), .val (.int (f 8)), .val (.int ((f 7) - (48 : Int32))), .val (.int ((9 : Int32) - (7 : Int32)))] [])) _
                                          refine XS.iconst X70.here hx rfl (hb hby d9_39) ?_
                                          show Steps p.tables e below (T70.setTop (mkF m 40 #[.val (.ref sa), .val (.int (own_su7 f)), .val (.int (8 : Int32)), .val (.int (f 8)), .val (.int ((f 7) - (48 : Int32))), .val (.int ((9 : Int32) - (7 : Int32)))] [(.int (0 : Int32))])) _
                                          exact κ)
                                        obtain ⟨fs, hr, hrun, hended, hW, hsame⟩ := X70.leave (v := some (.int (0 : Int32))) (fun h => by rw [Bd.returns] at h; cases h)
                                        refine ⟨_, _, pre75 _ ?_, hrun, hended, _, _, rfl, ?_, ⟨_, rfl⟩, hW, hsame.mono (by decide) (by decide)⟩
                                        · exact retN X70 hx (t := .boolean) Bd.returns (by simp) (hb hby d9_40) hr
                                        · show Q9 Z sa n f zc fm h0 n0 _ T70.heap _
                                          exact ⟨0, rfl, N70, (hh70.trans (hh62.trans (hh54.trans (hh46.trans (hh38.trans (hh30.trans (hh22.trans (hh14.trans (hh6.trans hh2))))))))), fun _ => rfl, fun _ => ⟨fun q => absurd hB8 (q 8 (by decide)).2, fun _ => rfl⟩⟩
                                      · have pre76 := fun τ (κ : Steps p.tables e below (T70.setTop (mkF m 15 #[.val (.ref sa), .val (.int ((own_su7 f) + ((-1 : Int32) * ((f 8) - (48 : Int32))))), .val (.int ((8 : Int32) + (1 : Int32))), .val (.int (f 8)), .val (.int ((f 8) - (48 : Int32))), .val (.int (-1 : Int32))] [])) τ) => pre74 τ (by
                                          refine XS.icmpYes X70.here hx rfl (pc0 := 36) (pc' := 41) rfl (hb hby d9_36) rfl (flt hB8).2.2.2 (by decide) (by decide) ?_
                                          show Steps p.tables e below (T70.setTop (mkF m 41 #[.val (.ref sa), .val (.int (own_su7 f)), .val (.int (8 : Int32)), .val (.int (f 8)), .val (.int ((f 7) - (48 : Int32))), .val (.int ((9 : Int32) - (7 : Int32)))] [])) _
                                          refine XS.iloadN X70.here hx rfl (hb hby d9_41) rfl ?_
                                          refine XS.bipush X70.here hx rfl (hb hby d9_42) ?_
                                          refine XS.isub X70.here hx rfl (hb hby d9_44) rfl ?_
                                          show Steps p.tables e below (T70.setTop (mkF m 45 #[.val (.ref sa), .val (.int (own_su7 f)), .val (.int (8 : Int32)), .val (.int (f 8)), .val (.int ((f 7) - (48 : Int32))), .val (.int ((9 : Int32) - (7 : Int32)))] [(.int ((f 8) - (48 : Int32)))])) _
                                          refine XS.istore X70.here hx rfl (hb hby d9_45) rfl (l' := #[.val (.ref sa), .val (.int (own_su7 f)), .val (.int (8 : Int32)), .val (.int (f 8)), .val (.int ((f 8) - (48 : Int32))), .val (.int ((9 : Int32) - (7 : Int32)))]) rfl ?_
                                          show Steps p.tables e below (T70.setTop (mkF m 47 #[.val (.ref sa), .val (.int (own_su7 f)), .val (.int (8 : Int32)), .val (.int (f 8)), .val (.int ((f 8) - (48 : Int32))), .val (.int ((9 : Int32) - (7 : Int32)))] [])) _
                                          refine XS.iloadN X70.here hx rfl (hb hby d9_47) rfl ?_
                                          refine XS.bipush X70.here hx rfl (hb hby d9_48) ?_
                                          refine XS.icmpYes X70.here hx rfl (pc0 := 50) (pc' := 60) rfl (hb hby d9_50) rfl (flt (by decide)).2.1 (by decide) (by decide) ?_
                                          show Steps p.tables e below (T70.setTop (mkF m 60 #[.val (.ref sa), .val (.int (own_su7 f)), .val (.int (8 : Int32)), .val (.int (f 8)), .val (.int ((f 8) - (48 : Int32))), .val (.int ((9 : Int32) - (7 : Int32)))] [])) _
                                          refine XS.iconst X70.here hx rfl (hb hby d9_60) ?_
                                          refine XS.istore X70.here hx rfl (hb hby d9_61) rfl (l' := #[.val (.ref sa), .val (.int (own_su7 f)), .val (.int (8 : Int32)), .val (.int (f 8)), .val (.int ((f 8) - (48 : Int32))), .val (.int (-1 : Int32))]) rfl ?_
                                          show Steps p.tables e below (T70.setTop (mkF m 63 #[.val (.ref sa), .val (.int (own_su7 f)), .val (.int (8 : Int32)), .val (.int (f 8)), .val (.int ((f 8) - (48 : Int32))), .val (.int (-1 : Int32))] [])) _
                                          refine XS.iloadN X70.here hx rfl (hb hby d9_63) rfl ?_
                                          refine XS.iload X70.here hx rfl (hb hby d9_64) rfl ?_
                                          refine XS.iload X70.here hx rfl (hb hby d9_66) rfl ?_
                                          refine XS.imul X70.here hx rfl (hb hby d9_68) rfl ?_
                                          show Steps p.tables e below (T70.setTop (mkF m 69 #[.val (.ref sa), .val (.int (own_su7 f)), .val (.int (8 : Int32)), .val (.int (f 8)), .val (.int ((f 8) - (48 : Int32))), .val (.int (-1 : Int32))] [(.int ((-1 : Int32) * ((f 8) - (48 : Int32)))), (.int (own_su7 f))])) _
                                          refine XS.iadd X70.here hx rfl (hb hby d9_69) rfl ?_
                                          show Steps p.tables e below (T70.setTop (mkF m 70 #[.val (.ref sa), .val (.int (own_su7 f)), .val (.int (8 : Int32)), .val (.int (f 8)), .val (.int ((f 8) - (48 : Int32))), .val (.int (-1 : Int32))] [(.int ((own_su7 f) + ((-1 : Int32) * ((f 8) - (48 : Int32)))))])) _
                                          refine XS.istoreN X70.here hx rfl (hb hby d9_70) rfl (l' := #[.val (.ref sa), .val (.int ((own_su7 f) + ((-1 : Int32) * ((f 8) - (48 : Int32))))), .val (.int (8 : Int32)), .val (.int (f 8)), .val (.int ((f 8) - (48 : Int32))), .val (.int (-1 : Int32))]) rfl ?_
                                          show Steps p.tables e below (T70.setTop (mkF m 71 #[.val (.ref sa), .val (.int ((own_su7 f) + ((-1 : Int32) * ((f 8) - (48 : Int32))))), .val (.int (8 : Int32)), .val (.int (f 8)), .val (.int ((f 8) - (48 : Int32))), .val (.int (-1 : Int32))] [])) _
                                          refine XS.iinc X70.here hx rfl (hb hby d9_71) rfl (l' := #[.val (.ref sa), .val (.int ((own_su7 f) + ((-1 : Int32) * ((f 8) - (48 : Int32))))), .val (.int ((8 : Int32) + (1 : Int32))), .val (.int (f 8)), .val (.int ((f 8) - (48 : Int32))), .val (.int (-1 : Int32))]) rfl ?_
                                          show Steps p.tables e below (T70.setTop (mkF m 74 #[.val (.ref sa), .val (.int ((own_su7 f) + ((-1 : Int32) * ((f 8) - (48 : Int32))))), .val (.int ((8 : Int32) + (1 : Int32))), .val (.int (f 8)), .val (.int ((f 8) - (48 : Int32))), .val (.int (-1 : Int32))] [])) _
                                          refine XS.goto X70.here hx rfl (pc0 := 74) (pc' := 15) rfl (hb hby d9_74) (by decide) (by decide) ?_
                                          show Steps p.tables e below (T70.setTop (mkF m 15 #[.val (.ref sa), .val (.int ((own_su7 f) + ((-1 : Int32) * ((f 8) - (48 : Int32))))), .val (.int ((8 : Int32) + (1 : Int32))), .val (.int (f 8)), .val (.int ((f 8) - (48 : Int32))), .val (.int (-1 : Int32))] [])) _
                                          exact κ)
                                        rw [show ((8 : Int32) + (1 : Int32)) = (9 : Int32) from (by decide)] at pre76
                                        rw [show ((own_su7 f) + ((-1 : Int32) * ((f 8) - (48 : Int32)))) = (own_su8 f) from rfl] at pre76
                                        rw [show (own_su8 f) = (own_sum f) from rfl] at pre76
                                        have pre77 := fun τ (κ : Steps p.tables e below (T70.setTop (mkF m 81 #[.val (.ref sa), .val (.int (own_sum f)), .val (.int (9 : Int32)), .val (.int (f 8)), .val (.int ((f 8) - (48 : Int32))), .val (.int (-1 : Int32))] [(.int ((own_sum f) % (11 : Int32)))])) τ) => pre76 τ (by
                                          refine XS.iloadN X70.here hx rfl (hb hby d9_15) rfl ?_
                                          refine XS.bipush X70.here hx rfl (hb hby d9_16) ?_
                                          refine XS.icmpYes X70.here hx rfl (pc0 := 18) (pc' := 77) rfl (hb hby d9_18) rfl (flt (by decide)).2.1 (by decide) (by decide) ?_
                                          show Steps p.tables e below (T70.setTop (mkF m 77 #[.val (.ref sa), .val (.int (own_sum f)), .val (.int (9 : Int32)), .val (.int (f 8)), .val (.int ((f 8) - (48 : Int32))), .val (.int (-1 : Int32))] [])) _
                                          refine XS.iloadN X70.here hx rfl (hb hby d9_77) rfl ?_
                                          refine XS.bipush X70.here hx rfl (hb hby d9_78) ?_
                                          refine iremM X70 hx rfl (hb hby d9_80) rfl (by decide) ?_
                                          show Steps p.tables e below (T70.setTop (mkF m 81 #[.val (.ref sa), .val (.int (own_sum f)), .val (.int (9 : Int32)), .val (.int (f 8)), .val (.int ((f 8) - (48 : Int32))), .val (.int (-1 : Int32))] [(.int ((own_sum f) % (11 : Int32)))])) _
                                          exact κ)
                                        have hok : own_ok f := own_ok9 ⟨hA0, hB0⟩ ⟨hA1, hB1⟩ ⟨hA2, hB2⟩ ⟨hA3, hB3⟩ ⟨hA4, hB4⟩ ⟨hA5, hB5⟩ ⟨hA6, hB6⟩ ⟨hA7, hB7⟩ ⟨hA8, hB8⟩
                                        by_cases hS : ((own_sum f) % (11 : Int32)) = (0 : Int32)
                                        · have pre78 := fun τ (κ : Steps p.tables e below (T70.setTop (mkF m 89 #[.val (.ref sa), .val (.int (own_sum f)), .val (.int (9 : Int32)), .val (.int (f 8)), .val (.int ((f 8) - (48 : Int32))), .val (.int (-1 : Int32))] [(.int (1 : Int32))])) τ) => pre77 τ (by
                                            refine XS.ifNo X70.here hx rfl (hb hby d9_81) rfl ((if0 _ _).trans (teq hS).2) ?_
                                            show Steps p.tables e below (T70.setTop (mkF m 84 #[.val (.ref sa), .val (.int (own_sum f)), .val (.int (9 : Int32)), .val (.int (f 8)), .val (.int ((f 8) - (48 : Int32))), .val (.int (-1 : Int32))] [])) _
                                            refine XS.iconst X70.here hx rfl (hb hby d9_84) ?_
                                            refine XS.goto X70.here hx rfl (pc0 := 85) (pc' := 89) rfl (hb hby d9_85) (by decide) (by decide) ?_
                                            show Steps p.tables e below (T70.setTop (mkF m 89 #[.val (.ref sa), .val (.int (own_sum f)), .val (.int (9 : Int32)), .val (.int (f 8)), .val (.int ((f 8) - (48 : Int32))), .val (.int (-1 : Int32))] [(.int (1 : Int32))])) _
                                            exact κ)
                                          obtain ⟨fs, hr, hrun, hended, hW, hsame⟩ := X70.leave (v := some (.int (1 : Int32))) (fun h => by rw [Bd.returns] at h; cases h)
                                          refine ⟨_, _, pre78 _ ?_, hrun, hended, _, _, rfl, ?_, ⟨_, rfl⟩, hW, hsame.mono (by decide) (by decide)⟩
                                          · exact retN X70 hx (t := .boolean) Bd.returns (by simp) (hb hby d9_89) hr
                                          · show Q9 Z sa n f zc fm h0 n0 _ T70.heap _
                                            exact ⟨1, rfl, N70, (hh70.trans (hh62.trans (hh54.trans (hh46.trans (hh38.trans (hh30.trans (hh22.trans (hh14.trans (hh6.trans hh2))))))))), fun z => absurd hn9 z, fun _ => ⟨fun _ => by rw [if_pos hS], fun z => absurd hok z⟩⟩
                                        · have pre79 := fun τ (κ : Steps p.tables e below (T70.setTop (mkF m 89 #[.val (.ref sa), .val (.int (own_sum f)), .val (.int (9 : Int32)), .val (.int (f 8)), .val (.int ((f 8) - (48 : Int32))), .val (.int (-1 : Int32))] [(.int (0 : Int32))])) τ) => pre77 τ (by
                                            refine XS.ifYes X70.here hx rfl (pc0 := 81) (pc' := 88) rfl (hb hby d9_81) rfl ((if0 _ _).trans (feq hS).2) (by decide) (by decide) ?_
                                            show Steps p.tables e below (T70.setTop (mkF m 88 #[.val (.ref sa), .val (.int (own_sum f)), .val (.int (9 : Int32)), .val (.int (f 8)), .val (.int ((f 8) - (48 : Int32))), .val (.int (-1 : Int32))] [])) _
                                            refine XS.iconst X70.here hx rfl (hb hby d9_88) ?_
                                            show Steps p.tables e below (T70.setTop (mkF m 89 #[.val (.ref sa), .val (.int (own_sum f)), .val (.int (9 : Int32)), .val (.int (f 8)), .val (.int ((f 8) - (48 : Int32))), .val (.int (-1 : Int32))] [(.int (0 : Int32))])) _
                                            exact κ)
                                          obtain ⟨fs, hr, hrun, hended, hW, hsame⟩ := X70.leave (v := some (.int (0 : Int32))) (fun h => by rw [Bd.returns] at h; cases h)
                                          refine ⟨_, _, pre79 _ ?_, hrun, hended, _, _, rfl, ?_, ⟨_, rfl⟩, hW, hsame.mono (by decide) (by decide)⟩
                                          · exact retN X70 hx (t := .boolean) Bd.returns (by simp) (hb hby d9_89) hr
                                          · show Q9 Z sa n f zc fm h0 n0 _ T70.heap _
                                            exact ⟨0, rfl, N70, (hh70.trans (hh62.trans (hh54.trans (hh46.trans (hh38.trans (hh30.trans (hh22.trans (hh14.trans (hh6.trans hh2))))))))), fun _ => rfl, fun _ => ⟨fun _ => by rw [if_neg hS], fun _ => rfl⟩⟩
  · have pre80 := fun τ (κ : Steps p.tables e below (T2.setTop (mkF m 10 #[.val (.ref sa), .unset, .unset, .unset, .unset, .unset] [(.int (0 : Int32))])) τ) => pre4 τ (by
      refine XS.icmpNo X2.here hx rfl (hb hby d9_6) rfl (feq h9).1 ?_
      show Steps p.tables e below (T2.setTop (mkF m 9 #[.val (.ref sa), .unset, .unset, .unset, .unset, .unset] [])) _
      refine XS.iconst X2.here hx rfl (hb hby d9_9) ?_
      show Steps p.tables e below (T2.setTop (mkF m 10 #[.val (.ref sa), .unset, .unset, .unset, .unset, .unset] [(.int (0 : Int32))])) _
      exact κ)
    obtain ⟨fs, hr, hrun, hended, hW, hsame⟩ := X2.leave (v := some (.int (0 : Int32))) (fun h => by rw [Bd.returns] at h; cases h)
    refine ⟨_, _, pre80 _ ?_, hrun, hended, _, _, rfl, ?_, ⟨_, rfl⟩, hW, hsame.mono (by decide) (by decide)⟩
    · exact retN X2 hx (t := .boolean) Bd.returns (by simp) (hb hby d9_10) hr
    · show Q9 Z sa n f zc fm h0 n0 _ T2.heap _
      exact ⟨0, rfl, N2, hh2, fun _ => rfl, fun z => absurd (by rw [z]; rfl) h9⟩
def own_t (g : Nat → Int32) : Int32 := (((((((((9 : Int32) * ((g 0) - (48 : Int32))) + ((8 : Int32) * ((g 1) - (48 : Int32)))) + ((7 : Int32) * ((g 2) - (48 : Int32)))) + ((6 : Int32) * ((g 3) - (48 : Int32)))) + ((5 : Int32) * ((g 4) - (48 : Int32)))) + ((4 : Int32) * ((g 5) - (48 : Int32)))) + ((3 : Int32) * ((g 6) - (48 : Int32)))) + ((2 : Int32) * ((g 7) - (48 : Int32))))
theorem own_ite {P : Prop} [Decidable P] {a b : Int32} (h1 : P → own_ch a) (h2 : ¬ P → own_ch b) : own_ch (if P then a else b) := by
  by_cases h : P
  · rw [if_pos h]; exact h1 h
  · rw [if_neg h]; exact h2 h
theorem own_ad0 {g : Nat → Int32} {ad : Int32} (h : (own_ok g ∧ ad = 1) ∨ (¬ own_ok g ∧ ad = 0)) (hz : ad = 0) : ¬ own_ok g := by
  rcases h with ⟨-, h⟩ | ⟨h, -⟩
  · rw [h] at hz; exact absurd hz (by decide)
  · exact h
theorem own_ad1 {g : Nat → Int32} {ad : Int32} (h : (own_ok g ∧ ad = 1) ∨ (¬ own_ok g ∧ ad = 0)) (hz : ¬ ad = 0) : own_ok g := by
  rcases h with ⟨h, -⟩ | ⟨-, h⟩
  · exact h
  · exact absurd h hz
theorem own_eqv {g : Nat → Int32} (h : own_ok g) : ((g 8) - 48 = own_t g % 11) ↔ (own_sum g % 11 = 0) := by
  obtain ⟨d0, l0, e0⟩ := own_dg (h 0 (by decide))
  obtain ⟨d1, l1, e1⟩ := own_dg (h 1 (by decide))
  obtain ⟨d2, l2, e2⟩ := own_dg (h 2 (by decide))
  obtain ⟨d3, l3, e3⟩ := own_dg (h 3 (by decide))
  obtain ⟨d4, l4, e4⟩ := own_dg (h 4 (by decide))
  obtain ⟨d5, l5, e5⟩ := own_dg (h 5 (by decide))
  obtain ⟨d6, l6, e6⟩ := own_dg (h 6 (by decide))
  obtain ⟨d7, l7, e7⟩ := own_dg (h 7 (by decide))
  obtain ⟨d8, l8, e8⟩ := own_dg (h 8 (by decide))
  have et : own_t g = Int32.ofNat (9 * d0 + 8 * d1 + 7 * d2 + 6 * d3 + 5 * d4 + 4 * d5 + 3 * d6 + 2 * d7) := by
    unfold own_t
    simp only [e0, e1, e2, e3, e4, e5, e6, e7, Int32.ofNat_add, Int32.ofNat_mul]
    rfl
  have es : own_sum g = Int32.ofNat (9 * d0 + 8 * d1 + 7 * d2 + 6 * d3 + 5 * d4 + 4 * d5 + 3 * d6 + 2 * d7) + (-1) * Int32.ofNat d8 := by
    unfold own_sum own_su8 own_su7 own_su6 own_su5 own_su4 own_su3 own_su2 own_su1 own_su0
    simp only [e0, e1, e2, e3, e4, e5, e6, e7, e8, Int32.ofNat_add, Int32.ofNat_mul, Int32.zero_add]
    rfl
  rw [et, es, e8]
  exact own_fin _ (by omega) _ (by omega)
theorem own_main {g : Nat → Int32} {e9 r9 : Int32} (hg : ∀ j, j < 9 → own_ch (g j)) (he : (¬ own_ok g ∧ e9 = 0) ∨ (own_ok g ∧ e9 = if (g 8) - 48 = own_t g % 11 then 1 else 0)) (rY : 9 = 9 → (own_ok g → r9 = if own_sum g % 11 = 0 then 1 else 0) ∧ (¬ own_ok g → r9 = 0)) : r9 = e9 := by
  rcases he with ⟨h, rfl⟩ | ⟨h, rfl⟩
  · exact (rY rfl).2 h
  · rw [(rY rfl).1 h]
    by_cases q : own_sum g % 11 = 0
    · rw [if_pos q, if_pos ((own_eqv h).mpr q)]
    · rw [if_neg q, if_neg fun z => q ((own_eqv h).mp z)]

theorem ef_0 (m : MethodId) (i0 : Int64) (i1 : Int32) (i2 : Int32) (i3 : Int32) (zc : Int32) (fm : Value) : entryFrame m #[(.long i0), (.int i1), (.int i2), (.int i3)] maxLocals = mkF m 0 #[.val (.long i0), .second, .val (.int i1), .val (.int i2), .val (.int i3), .unset, .unset, .unset, .unset, .unset, .unset, .unset, .unset, .unset, .unset, .unset, .unset, .unset, .unset, .unset, .unset, .unset, .unset, .unset] [] := by first | (simp [entryFrame, mkF, argsToLocals, Value.category, maxLocals]; done) | rfl
def Q0 (Z : State) (i0 : Int64) (i1 : Int32) (i2 : Int32) (i3 : Int32) (zc : Int32) (fm : Value) (h0 : Heap) (n0 : Nat) (v : Option Value) (h : Heap) (L : List Loc) : Prop := v = some (.int 1) ∧ Fr n0 L
set_option maxRecDepth 65536 in
set_option maxHeartbeats 40000000 in
theorem rm0 (l : Launch) (Z : State) (a0 : Array Value) (hw : ∀ d ∈ tables_1, d.before a0 Z = true) (ws : List Jvm.Cond) (i0 : Int64) (i1 : Int32) (i2 : Int32) (i3 : Int32) (zc : Int32) (fm : Value) (h0 : Heap) (n0 : Nat) (Z0 : n0 ≤ h0.size) (O0 : Old Z n0 h0) (U0 : own_ST Z zc fm) :
    MetFree l x (head1 (Jvm.Cond.code x code maxLocals ret :: ws) room_1) (fun α υ => α = #[(.long i0), (.int i1), (.int i2), (.int i3)] ∧ Z.Warmed39 υ.vm ∧ υ.heap = h0 ∧ CHv Z consts_1 υ.vm h0) (fun _ _ _ _ _ => True) (fun _ υ ω υ' => ∃ v L, ω = .returned v ∧ Q0 Z i0 i1 i2 i3 zc fm h0 n0 v υ'.heap L ∧ ReturnedEndW υ ω υ' L room_1.cells room_1.slots) := by
  refine MetFree.of_bodySF (plainFor_of_name pn_com_example_docket_docket_core_RsinIsValidPinLaw) hisR ?_
  intro p e s m args below meth c s₁ Bd hml0 hP hK
  obtain ⟨rfl, hZ, hh, hC0⟩ := hP
  have hx := Bd.exec
  have hby := Bd.bytes
  have hml : c.maxLocals = 24 := hml0
  have hown : s.vm.findClass "com/example/docket/docket/core/RsinIsValidPinLaw" = some m.cls := findClass_of_methodNamed Bd.named
  have hnm := (name_of_methodNamed Bd.named Bd.method).1
  have X0 : Stand p l e room_1 s m #[(.long i0), (.int i1), (.int i2), (.int i3)] below meth c s₁ [] 0 0 := Stand.of_body Bd
  have e0 : s₁.heap = h0 := by rw [← hh, Bd.state]; rfl
  have N0 := Fr.nil n0
  have pre0 : ∀ τ, Steps p.tables e below (s₁.setTop (mkF m 0 #[.val (.long i0), .second, .val (.int i1), .val (.int i2), .val (.int i3), .unset, .unset, .unset, .unset, .unset, .unset, .unset, .unset, .unset, .unset, .unset, .unset, .unset, .unset, .unset, .unset, .unset, .unset, .unset] [])) τ → Steps p.tables e below (s₁.setTop (entryFrame m #[(.long i0), (.int i1), (.int i2), (.int i3)] maxLocals)) τ := fun τ κ => castTop (ef_0 m i0 i1 i2 i3 zc fm) κ
  have hS0 : s.Since s.vm 0 := (State.WarmedH.refl s).since 0
  have hks : 0 ≤ h0.size := Nat.zero_le _
  have hEL := own_EL hw
  have Kp0 : Keep h0 h0 [] := Keep.refl _ _
  have pre1 := fun τ (κ : Steps p.tables e below (s₁.setTop (mkF m 2 #[.val (.long i0), .second, .val (.int i1), .val (.int i2), .val (.int i3), .unset, .unset, .unset, .unset, .unset, .unset, .unset, .unset, .unset, .unset, .unset, .unset, .unset, .unset, .unset, .unset, .unset, .unset, .unset] [(.int (0 : Int32)), (.long i0)])) τ) => pre0 τ (by
    refine XS.lloadN X0.here hx rfl (hb hby at_0) rfl ?_
    refine XS.iconst X0.here hx rfl (hb hby at_1) ?_
    show Steps p.tables e below (s₁.setTop (mkF m 2 #[.val (.long i0), .second, .val (.int i1), .val (.int i2), .val (.int i3), .unset, .unset, .unset, .unset, .unset, .unset, .unset, .unset, .unset, .unset, .unset, .unset, .unset, .unset, .unset, .unset, .unset, .unset, .unset] [(.int (0 : Int32)), (.long i0)])) _
    exact κ)
  obtain ⟨_, _, ⟨T2, L2, k2, n2⟩, -, X2, ⟨Lc2, hQ2, l2, y2, z2⟩, st2⟩ := Jvm.LawKit.callS X0 hx (y := (⟨"com/example/docket/docket/core/RsinIsValidPinLaw", "dig", "(JI)I"⟩ : MethodName)) hown (mvT hZ (hw _ (List.mem_of_getElem? (i := 0) rfl))) (mvT hZ (hw _ (List.mem_of_getElem? (i := 1) rfl))) (mvT hZ (hw _ (List.mem_of_getElem? (i := 2) rfl))) (mvT hZ (hw _ (List.mem_of_getElem? (i := 3) rfl))) (by decide) (backOf (W := 0) (rm1 l Z a0 hw [] i0 (0 : Int32) h0 n0 Z0) hZ (hw _ (List.mem_of_getElem? (i := 3) rfl)) (hw _ (List.mem_of_getElem? (i := 2) rfl)) (Nat.le_of_ble_eq_true rfl) (Nat.le_of_ble_eq_true rfl)) (g := (mkF m 2 #[.val (.long i0), .second, .val (.int i1), .val (.int i2), .val (.int i3), .unset, .unset, .unset, .unset, .unset, .unset, .unset, .unset, .unset, .unset, .unset, .unset, .unset, .unset, .unset, .unset, .unset, .unset, .unset] [(.int (0 : Int32)), (.long i0)])) rfl (by rw [hml]; rfl) (argsL := [(.long i0), (.int (0 : Int32))]) (rest := []) (lenOf pd_16 rfl) rfl (by show 2 * 0 + _ ≤ _; exact Nat.le_of_eq rfl) (hb hby at_2) (fun _ _ => ⟨rfl, e0, (by decide : 0 + 0 ≤ _), (by decide : 0 + 0 ≤ _)⟩)
  dsimp only [Pt.U, Pt.locs, Pt.cells, Pt.slots] at X2 l2 y2 z2 st2 hQ2
  subst l2 y2 z2
  obtain ⟨dd0, rfl, Nq2, hh2⟩ := hQ2
  have O0_2 : Old Z n0 T2.heap := by rw [hh2]; exact O0
  have Z2 : n0 ≤ T2.heap.size := by rw [hh2]; exact Z0
  have Kp2 : Keep h0 T2.heap [] := by rw [hh2]; exact Kp0
  have N2 := Fr.app N0 Nq2
  have pre3 := fun τ (κ : Steps p.tables e below (T2.setTop (mkF m 5 #[.val (.long i0), .second, .val (.int i1), .val (.int i2), .val (.int i3), .unset, .unset, .unset, .unset, .unset, .unset, .unset, .unset, .unset, .unset, .unset, .unset, .unset, .unset, .unset, .unset, .unset, .unset, .unset] [(.int dd0)])) τ) => pre1 τ (st2 _ κ)
  have pre4 := fun τ (κ : Steps p.tables e below (T2.setTop (mkF m 9 #[.val (.long i0), .second, .val (.int i1), .val (.int i2), .val (.int i3), .val (.int dd0), .unset, .unset, .unset, .unset, .unset, .unset, .unset, .unset, .unset, .unset, .unset, .unset, .unset, .unset, .unset, .unset, .unset, .unset] [(.int (1 : Int32)), (.long i0)])) τ) => pre3 τ (by
    refine XS.istore X2.here hx rfl (hb hby at_5) rfl (l' := #[.val (.long i0), .second, .val (.int i1), .val (.int i2), .val (.int i3), .val (.int dd0), .unset, .unset, .unset, .unset, .unset, .unset, .unset, .unset, .unset, .unset, .unset, .unset, .unset, .unset, .unset, .unset, .unset, .unset]) rfl ?_
    show Steps p.tables e below (T2.setTop (mkF m 7 #[.val (.long i0), .second, .val (.int i1), .val (.int i2), .val (.int i3), .val (.int dd0), .unset, .unset, .unset, .unset, .unset, .unset, .unset, .unset, .unset, .unset, .unset, .unset, .unset, .unset, .unset, .unset, .unset, .unset] [])) _
    refine XS.lloadN X2.here hx rfl (hb hby at_7) rfl ?_
    refine XS.iconst X2.here hx rfl (hb hby at_8) ?_
    show Steps p.tables e below (T2.setTop (mkF m 9 #[.val (.long i0), .second, .val (.int i1), .val (.int i2), .val (.int i3), .val (.int dd0), .unset, .unset, .unset, .unset, .unset, .unset, .unset, .unset, .unset, .unset, .unset, .unset, .unset, .unset, .unset, .unset, .unset, .unset] [(.int (1 : Int32)), (.long i0)])) _
    exact κ)
  obtain ⟨_, _, ⟨T5, L5, k5, n5⟩, -, X5, ⟨Lc5, hQ5, l5, y5, z5⟩, st5⟩ := Jvm.LawKit.callS X2 hx (y := (⟨"com/example/docket/docket/core/RsinIsValidPinLaw", "dig", "(JI)I"⟩ : MethodName)) hown (mvT hZ (hw _ (List.mem_of_getElem? (i := 0) rfl))) (mvT hZ (hw _ (List.mem_of_getElem? (i := 1) rfl))) (mvT hZ (hw _ (List.mem_of_getElem? (i := 2) rfl))) (mvT hZ (hw _ (List.mem_of_getElem? (i := 3) rfl))) (by decide) (backOf (W := 0) (rm1 l Z a0 hw [] i0 (1 : Int32) T2.heap n0 Z2) hZ (hw _ (List.mem_of_getElem? (i := 3) rfl)) (hw _ (List.mem_of_getElem? (i := 2) rfl)) (Nat.le_of_ble_eq_true rfl) (Nat.le_of_ble_eq_true rfl)) (g := (mkF m 9 #[.val (.long i0), .second, .val (.int i1), .val (.int i2), .val (.int i3), .val (.int dd0), .unset, .unset, .unset, .unset, .unset, .unset, .unset, .unset, .unset, .unset, .unset, .unset, .unset, .unset, .unset, .unset, .unset, .unset] [(.int (1 : Int32)), (.long i0)])) rfl (by rw [hml]; rfl) (argsL := [(.long i0), (.int (1 : Int32))]) (rest := []) (lenOf pd_16 rfl) rfl (by show 2 * 0 + _ ≤ _; exact Nat.le_of_eq rfl) (hb hby at_9) (fun _ _ => ⟨rfl, rfl, (by decide : 0 + 0 ≤ _), (by decide : 0 + 0 ≤ _)⟩)
  dsimp only [Pt.U, Pt.locs, Pt.cells, Pt.slots] at X5 l5 y5 z5 st5 hQ5
  subst l5 y5 z5
  obtain ⟨dd1, rfl, Nq5, hh5⟩ := hQ5
  have O0_5 : Old Z n0 T5.heap := by rw [hh5]; exact O0_2
  have Z5 : n0 ≤ T5.heap.size := by rw [hh5]; exact Z2
  have Kp5 : Keep h0 T5.heap [] := by rw [hh5]; exact Kp2
  have N5 := Fr.app N2 Nq5
  have pre6 := fun τ (κ : Steps p.tables e below (T5.setTop (mkF m 12 #[.val (.long i0), .second, .val (.int i1), .val (.int i2), .val (.int i3), .val (.int dd0), .unset, .unset, .unset, .unset, .unset, .unset, .unset, .unset, .unset, .unset, .unset, .unset, .unset, .unset, .unset, .unset, .unset, .unset] [(.int dd1)])) τ) => pre4 τ (st5 _ κ)
  have pre7 := fun τ (κ : Steps p.tables e below (T5.setTop (mkF m 16 #[.val (.long i0), .second, .val (.int i1), .val (.int i2), .val (.int i3), .val (.int dd0), .val (.int dd1), .unset, .unset, .unset, .unset, .unset, .unset, .unset, .unset, .unset, .unset, .unset, .unset, .unset, .unset, .unset, .unset, .unset] [(.int (2 : Int32)), (.long i0)])) τ) => pre6 τ (by
    refine XS.istore X5.here hx rfl (hb hby at_12) rfl (l' := #[.val (.long i0), .second, .val (.int i1), .val (.int i2), .val (.int i3), .val (.int dd0), .val (.int dd1), .unset, .unset, .unset, .unset, .unset, .unset, .unset, .unset, .unset, .unset, .unset, .unset, .unset, .unset, .unset, .unset, .unset]) rfl ?_
    show Steps p.tables e below (T5.setTop (mkF m 14 #[.val (.long i0), .second, .val (.int i1), .val (.int i2), .val (.int i3), .val (.int dd0), .val (.int dd1), .unset, .unset, .unset, .unset, .unset, .unset, .unset, .unset, .unset, .unset, .unset, .unset, .unset, .unset, .unset, .unset, .unset] [])) _
    refine XS.lloadN X5.here hx rfl (hb hby at_14) rfl ?_
    refine XS.iconst X5.here hx rfl (hb hby at_15) ?_
    show Steps p.tables e below (T5.setTop (mkF m 16 #[.val (.long i0), .second, .val (.int i1), .val (.int i2), .val (.int i3), .val (.int dd0), .val (.int dd1), .unset, .unset, .unset, .unset, .unset, .unset, .unset, .unset, .unset, .unset, .unset, .unset, .unset, .unset, .unset, .unset, .unset] [(.int (2 : Int32)), (.long i0)])) _
    exact κ)
  obtain ⟨_, _, ⟨T8, L8, k8, n8⟩, -, X8, ⟨Lc8, hQ8, l8, y8, z8⟩, st8⟩ := Jvm.LawKit.callS X5 hx (y := (⟨"com/example/docket/docket/core/RsinIsValidPinLaw", "dig", "(JI)I"⟩ : MethodName)) hown (mvT hZ (hw _ (List.mem_of_getElem? (i := 0) rfl))) (mvT hZ (hw _ (List.mem_of_getElem? (i := 1) rfl))) (mvT hZ (hw _ (List.mem_of_getElem? (i := 2) rfl))) (mvT hZ (hw _ (List.mem_of_getElem? (i := 3) rfl))) (by decide) (backOf (W := 0) (rm1 l Z a0 hw [] i0 (2 : Int32) T5.heap n0 Z5) hZ (hw _ (List.mem_of_getElem? (i := 3) rfl)) (hw _ (List.mem_of_getElem? (i := 2) rfl)) (Nat.le_of_ble_eq_true rfl) (Nat.le_of_ble_eq_true rfl)) (g := (mkF m 16 #[.val (.long i0), .second, .val (.int i1), .val (.int i2), .val (.int i3), .val (.int dd0), .val (.int dd1), .unset, .unset, .unset, .unset, .unset, .unset, .unset, .unset, .unset, .unset, .unset, .unset, .unset, .unset, .unset, .unset, .unset] [(.int (2 : Int32)), (.long i0)])) rfl (by rw [hml]; rfl) (argsL := [(.long i0), (.int (2 : Int32))]) (rest := []) (lenOf pd_16 rfl) rfl (by show 2 * 0 + _ ≤ _; exact Nat.le_of_eq rfl) (hb hby at_16) (fun _ _ => ⟨rfl, rfl, (by decide : 0 + 0 ≤ _), (by decide : 0 + 0 ≤ _)⟩)
  dsimp only [Pt.U, Pt.locs, Pt.cells, Pt.slots] at X8 l8 y8 z8 st8 hQ8
  subst l8 y8 z8
  obtain ⟨dd2, rfl, Nq8, hh8⟩ := hQ8
  have O0_8 : Old Z n0 T8.heap := by rw [hh8]; exact O0_5
  have Z8 : n0 ≤ T8.heap.size := by rw [hh8]; exact Z5
  have Kp8 : Keep h0 T8.heap [] := by rw [hh8]; exact Kp5
  have N8 := Fr.app N5 Nq8
  have pre9 := fun τ (κ : Steps p.tables e below (T8.setTop (mkF m 19 #[.val (.long i0), .second, .val (.int i1), .val (.int i2), .val (.int i3), .val (.int dd0), .val (.int dd1), .unset, .unset, .unset, .unset, .unset, .unset, .unset, .unset, .unset, .unset, .unset, .unset, .unset, .unset, .unset, .unset, .unset] [(.int dd2)])) τ) => pre7 τ (st8 _ κ)
  have pre10 := fun τ (κ : Steps p.tables e below (T8.setTop (mkF m 23 #[.val (.long i0), .second, .val (.int i1), .val (.int i2), .val (.int i3), .val (.int dd0), .val (.int dd1), .val (.int dd2), .unset, .unset, .unset, .unset, .unset, .unset, .unset, .unset, .unset, .unset, .unset, .unset, .unset, .unset, .unset, .unset] [(.int (3 : Int32)), (.long i0)])) τ) => pre9 τ (by
    refine XS.istore X8.here hx rfl (hb hby at_19) rfl (l' := #[.val (.long i0), .second, .val (.int i1), .val (.int i2), .val (.int i3), .val (.int dd0), .val (.int dd1), .val (.int dd2), .unset, .unset, .unset, .unset, .unset, .unset, .unset, .unset, .unset, .unset, .unset, .unset, .unset, .unset, .unset, .unset]) rfl ?_
    show Steps p.tables e below (T8.setTop (mkF m 21 #[.val (.long i0), .second, .val (.int i1), .val (.int i2), .val (.int i3), .val (.int dd0), .val (.int dd1), .val (.int dd2), .unset, .unset, .unset, .unset, .unset, .unset, .unset, .unset, .unset, .unset, .unset, .unset, .unset, .unset, .unset, .unset] [])) _
    refine XS.lloadN X8.here hx rfl (hb hby at_21) rfl ?_
    refine XS.iconst X8.here hx rfl (hb hby at_22) ?_
    show Steps p.tables e below (T8.setTop (mkF m 23 #[.val (.long i0), .second, .val (.int i1), .val (.int i2), .val (.int i3), .val (.int dd0), .val (.int dd1), .val (.int dd2), .unset, .unset, .unset, .unset, .unset, .unset, .unset, .unset, .unset, .unset, .unset, .unset, .unset, .unset, .unset, .unset] [(.int (3 : Int32)), (.long i0)])) _
    exact κ)
  obtain ⟨_, _, ⟨T11, L11, k11, n11⟩, -, X11, ⟨Lc11, hQ11, l11, y11, z11⟩, st11⟩ := Jvm.LawKit.callS X8 hx (y := (⟨"com/example/docket/docket/core/RsinIsValidPinLaw", "dig", "(JI)I"⟩ : MethodName)) hown (mvT hZ (hw _ (List.mem_of_getElem? (i := 0) rfl))) (mvT hZ (hw _ (List.mem_of_getElem? (i := 1) rfl))) (mvT hZ (hw _ (List.mem_of_getElem? (i := 2) rfl))) (mvT hZ (hw _ (List.mem_of_getElem? (i := 3) rfl))) (by decide) (backOf (W := 0) (rm1 l Z a0 hw [] i0 (3 : Int32) T8.heap n0 Z8) hZ (hw _ (List.mem_of_getElem? (i := 3) rfl)) (hw _ (List.mem_of_getElem? (i := 2) rfl)) (Nat.le_of_ble_eq_true rfl) (Nat.le_of_ble_eq_true rfl)) (g := (mkF m 23 #[.val (.long i0), .second, .val (.int i1), .val (.int i2), .val (.int i3), .val (.int dd0), .val (.int dd1), .val (.int dd2), .unset, .unset, .unset, .unset, .unset, .unset, .unset, .unset, .unset, .unset, .unset, .unset, .unset, .unset, .unset, .unset] [(.int (3 : Int32)), (.long i0)])) rfl (by rw [hml]; rfl) (argsL := [(.long i0), (.int (3 : Int32))]) (rest := []) (lenOf pd_16 rfl) rfl (by show 2 * 0 + _ ≤ _; exact Nat.le_of_eq rfl) (hb hby at_23) (fun _ _ => ⟨rfl, rfl, (by decide : 0 + 0 ≤ _), (by decide : 0 + 0 ≤ _)⟩)
  dsimp only [Pt.U, Pt.locs, Pt.cells, Pt.slots] at X11 l11 y11 z11 st11 hQ11
  subst l11 y11 z11
  obtain ⟨dd3, rfl, Nq11, hh11⟩ := hQ11
  have O0_11 : Old Z n0 T11.heap := by rw [hh11]; exact O0_8
  have Z11 : n0 ≤ T11.heap.size := by rw [hh11]; exact Z8
  have Kp11 : Keep h0 T11.heap [] := by rw [hh11]; exact Kp8
  have N11 := Fr.app N8 Nq11
  have pre12 := fun τ (κ : Steps p.tables e below (T11.setTop (mkF m 26 #[.val (.long i0), .second, .val (.int i1), .val (.int i2), .val (.int i3), .val (.int dd0), .val (.int dd1), .val (.int dd2), .unset, .unset, .unset, .unset, .unset, .unset, .unset, .unset, .unset, .unset, .unset, .unset, .unset, .unset, .unset, .unset] [(.int dd3)])) τ) => pre10 τ (st11 _ κ)
  have pre13 := fun τ (κ : Steps p.tables e below (T11.setTop (mkF m 30 #[.val (.long i0), .second, .val (.int i1), .val (.int i2), .val (.int i3), .val (.int dd0), .val (.int dd1), .val (.int dd2), .val (.int dd3), .unset, .unset, .unset, .unset, .unset, .unset, .unset, .unset, .unset, .unset, .unset, .unset, .unset, .unset, .unset] [(.int (4 : Int32)), (.long i0)])) τ) => pre12 τ (by
    refine XS.istore X11.here hx rfl (hb hby at_26) rfl (l' := #[.val (.long i0), .second, .val (.int i1), .val (.int i2), .val (.int i3), .val (.int dd0), .val (.int dd1), .val (.int dd2), .val (.int dd3), .unset, .unset, .unset, .unset, .unset, .unset, .unset, .unset, .unset, .unset, .unset, .unset, .unset, .unset, .unset]) rfl ?_
    show Steps p.tables e below (T11.setTop (mkF m 28 #[.val (.long i0), .second, .val (.int i1), .val (.int i2), .val (.int i3), .val (.int dd0), .val (.int dd1), .val (.int dd2), .val (.int dd3), .unset, .unset, .unset, .unset, .unset, .unset, .unset, .unset, .unset, .unset, .unset, .unset, .unset, .unset, .unset] [])) _
    refine XS.lloadN X11.here hx rfl (hb hby at_28) rfl ?_
    refine XS.iconst X11.here hx rfl (hb hby at_29) ?_
    show Steps p.tables e below (T11.setTop (mkF m 30 #[.val (.long i0), .second, .val (.int i1), .val (.int i2), .val (.int i3), .val (.int dd0), .val (.int dd1), .val (.int dd2), .val (.int dd3), .unset, .unset, .unset, .unset, .unset, .unset, .unset, .unset, .unset, .unset, .unset, .unset, .unset, .unset, .unset] [(.int (4 : Int32)), (.long i0)])) _
    exact κ)
  obtain ⟨_, _, ⟨T14, L14, k14, n14⟩, -, X14, ⟨Lc14, hQ14, l14, y14, z14⟩, st14⟩ := Jvm.LawKit.callS X11 hx (y := (⟨"com/example/docket/docket/core/RsinIsValidPinLaw", "dig", "(JI)I"⟩ : MethodName)) hown (mvT hZ (hw _ (List.mem_of_getElem? (i := 0) rfl))) (mvT hZ (hw _ (List.mem_of_getElem? (i := 1) rfl))) (mvT hZ (hw _ (List.mem_of_getElem? (i := 2) rfl))) (mvT hZ (hw _ (List.mem_of_getElem? (i := 3) rfl))) (by decide) (backOf (W := 0) (rm1 l Z a0 hw [] i0 (4 : Int32) T11.heap n0 Z11) hZ (hw _ (List.mem_of_getElem? (i := 3) rfl)) (hw _ (List.mem_of_getElem? (i := 2) rfl)) (Nat.le_of_ble_eq_true rfl) (Nat.le_of_ble_eq_true rfl)) (g := (mkF m 30 #[.val (.long i0), .second, .val (.int i1), .val (.int i2), .val (.int i3), .val (.int dd0), .val (.int dd1), .val (.int dd2), .val (.int dd3), .unset, .unset, .unset, .unset, .unset, .unset, .unset, .unset, .unset, .unset, .unset, .unset, .unset, .unset, .unset] [(.int (4 : Int32)), (.long i0)])) rfl (by rw [hml]; rfl) (argsL := [(.long i0), (.int (4 : Int32))]) (rest := []) (lenOf pd_16 rfl) rfl (by show 2 * 0 + _ ≤ _; exact Nat.le_of_eq rfl) (hb hby at_30) (fun _ _ => ⟨rfl, rfl, (by decide : 0 + 0 ≤ _), (by decide : 0 + 0 ≤ _)⟩)
  dsimp only [Pt.U, Pt.locs, Pt.cells, Pt.slots] at X14 l14 y14 z14 st14 hQ14
  subst l14 y14 z14
  obtain ⟨dd4, rfl, Nq14, hh14⟩ := hQ14
  have O0_14 : Old Z n0 T14.heap := by rw [hh14]; exact O0_11
  have Z14 : n0 ≤ T14.heap.size := by rw [hh14]; exact Z11
  have Kp14 : Keep h0 T14.heap [] := by rw [hh14]; exact Kp11
  have N14 := Fr.app N11 Nq14
  have pre15 := fun τ (κ : Steps p.tables e below (T14.setTop (mkF m 33 #[.val (.long i0), .second, .val (.int i1), .val (.int i2), .val (.int i3), .val (.int dd0), .val (.int dd1), .val (.int dd2), .val (.int dd3), .unset, .unset, .unset, .unset, .unset, .unset, .unset, .unset, .unset, .unset, .unset, .unset, .unset, .unset, .unset] [(.int dd4)])) τ) => pre13 τ (st14 _ κ)
  have pre16 := fun τ (κ : Steps p.tables e below (T14.setTop (mkF m 37 #[.val (.long i0), .second, .val (.int i1), .val (.int i2), .val (.int i3), .val (.int dd0), .val (.int dd1), .val (.int dd2), .val (.int dd3), .val (.int dd4), .unset, .unset, .unset, .unset, .unset, .unset, .unset, .unset, .unset, .unset, .unset, .unset, .unset, .unset] [(.int (5 : Int32)), (.long i0)])) τ) => pre15 τ (by
    refine XS.istore X14.here hx rfl (hb hby at_33) rfl (l' := #[.val (.long i0), .second, .val (.int i1), .val (.int i2), .val (.int i3), .val (.int dd0), .val (.int dd1), .val (.int dd2), .val (.int dd3), .val (.int dd4), .unset, .unset, .unset, .unset, .unset, .unset, .unset, .unset, .unset, .unset, .unset, .unset, .unset, .unset]) rfl ?_
    show Steps p.tables e below (T14.setTop (mkF m 35 #[.val (.long i0), .second, .val (.int i1), .val (.int i2), .val (.int i3), .val (.int dd0), .val (.int dd1), .val (.int dd2), .val (.int dd3), .val (.int dd4), .unset, .unset, .unset, .unset, .unset, .unset, .unset, .unset, .unset, .unset, .unset, .unset, .unset, .unset] [])) _
    refine XS.lloadN X14.here hx rfl (hb hby at_35) rfl ?_
    refine XS.iconst X14.here hx rfl (hb hby at_36) ?_
    show Steps p.tables e below (T14.setTop (mkF m 37 #[.val (.long i0), .second, .val (.int i1), .val (.int i2), .val (.int i3), .val (.int dd0), .val (.int dd1), .val (.int dd2), .val (.int dd3), .val (.int dd4), .unset, .unset, .unset, .unset, .unset, .unset, .unset, .unset, .unset, .unset, .unset, .unset, .unset, .unset] [(.int (5 : Int32)), (.long i0)])) _
    exact κ)
  obtain ⟨_, _, ⟨T17, L17, k17, n17⟩, -, X17, ⟨Lc17, hQ17, l17, y17, z17⟩, st17⟩ := Jvm.LawKit.callS X14 hx (y := (⟨"com/example/docket/docket/core/RsinIsValidPinLaw", "dig", "(JI)I"⟩ : MethodName)) hown (mvT hZ (hw _ (List.mem_of_getElem? (i := 0) rfl))) (mvT hZ (hw _ (List.mem_of_getElem? (i := 1) rfl))) (mvT hZ (hw _ (List.mem_of_getElem? (i := 2) rfl))) (mvT hZ (hw _ (List.mem_of_getElem? (i := 3) rfl))) (by decide) (backOf (W := 0) (rm1 l Z a0 hw [] i0 (5 : Int32) T14.heap n0 Z14) hZ (hw _ (List.mem_of_getElem? (i := 3) rfl)) (hw _ (List.mem_of_getElem? (i := 2) rfl)) (Nat.le_of_ble_eq_true rfl) (Nat.le_of_ble_eq_true rfl)) (g := (mkF m 37 #[.val (.long i0), .second, .val (.int i1), .val (.int i2), .val (.int i3), .val (.int dd0), .val (.int dd1), .val (.int dd2), .val (.int dd3), .val (.int dd4), .unset, .unset, .unset, .unset, .unset, .unset, .unset, .unset, .unset, .unset, .unset, .unset, .unset, .unset] [(.int (5 : Int32)), (.long i0)])) rfl (by rw [hml]; rfl) (argsL := [(.long i0), (.int (5 : Int32))]) (rest := []) (lenOf pd_16 rfl) rfl (by show 2 * 0 + _ ≤ _; exact Nat.le_of_eq rfl) (hb hby at_37) (fun _ _ => ⟨rfl, rfl, (by decide : 0 + 0 ≤ _), (by decide : 0 + 0 ≤ _)⟩)
  dsimp only [Pt.U, Pt.locs, Pt.cells, Pt.slots] at X17 l17 y17 z17 st17 hQ17
  subst l17 y17 z17
  obtain ⟨dd5, rfl, Nq17, hh17⟩ := hQ17
  have O0_17 : Old Z n0 T17.heap := by rw [hh17]; exact O0_14
  have Z17 : n0 ≤ T17.heap.size := by rw [hh17]; exact Z14
  have Kp17 : Keep h0 T17.heap [] := by rw [hh17]; exact Kp14
  have N17 := Fr.app N14 Nq17
  have pre18 := fun τ (κ : Steps p.tables e below (T17.setTop (mkF m 40 #[.val (.long i0), .second, .val (.int i1), .val (.int i2), .val (.int i3), .val (.int dd0), .val (.int dd1), .val (.int dd2), .val (.int dd3), .val (.int dd4), .unset, .unset, .unset, .unset, .unset, .unset, .unset, .unset, .unset, .unset, .unset, .unset, .unset, .unset] [(.int dd5)])) τ) => pre16 τ (st17 _ κ)
  have pre19 := fun τ (κ : Steps p.tables e below (T17.setTop (mkF m 45 #[.val (.long i0), .second, .val (.int i1), .val (.int i2), .val (.int i3), .val (.int dd0), .val (.int dd1), .val (.int dd2), .val (.int dd3), .val (.int dd4), .val (.int dd5), .unset, .unset, .unset, .unset, .unset, .unset, .unset, .unset, .unset, .unset, .unset, .unset, .unset] [(.int (6 : Int32)), (.long i0)])) τ) => pre18 τ (by
    refine XS.istore X17.here hx rfl (hb hby at_40) rfl (l' := #[.val (.long i0), .second, .val (.int i1), .val (.int i2), .val (.int i3), .val (.int dd0), .val (.int dd1), .val (.int dd2), .val (.int dd3), .val (.int dd4), .val (.int dd5), .unset, .unset, .unset, .unset, .unset, .unset, .unset, .unset, .unset, .unset, .unset, .unset, .unset]) rfl ?_
    show Steps p.tables e below (T17.setTop (mkF m 42 #[.val (.long i0), .second, .val (.int i1), .val (.int i2), .val (.int i3), .val (.int dd0), .val (.int dd1), .val (.int dd2), .val (.int dd3), .val (.int dd4), .val (.int dd5), .unset, .unset, .unset, .unset, .unset, .unset, .unset, .unset, .unset, .unset, .unset, .unset, .unset] [])) _
    refine XS.lloadN X17.here hx rfl (hb hby at_42) rfl ?_
    refine XS.bipush X17.here hx rfl (hb hby at_43) ?_
    show Steps p.tables e below (T17.setTop (mkF m 45 #[.val (.long i0), .second, .val (.int i1), .val (.int i2), .val (.int i3), .val (.int dd0), .val (.int dd1), .val (.int dd2), .val (.int dd3), .val (.int dd4), .val (.int dd5), .unset, .unset, .unset, .unset, .unset, .unset, .unset, .unset, .unset, .unset, .unset, .unset, .unset] [(.int (6 : Int32)), (.long i0)])) _
    exact κ)
  obtain ⟨_, _, ⟨T20, L20, k20, n20⟩, -, X20, ⟨Lc20, hQ20, l20, y20, z20⟩, st20⟩ := Jvm.LawKit.callS X17 hx (y := (⟨"com/example/docket/docket/core/RsinIsValidPinLaw", "dig", "(JI)I"⟩ : MethodName)) hown (mvT hZ (hw _ (List.mem_of_getElem? (i := 0) rfl))) (mvT hZ (hw _ (List.mem_of_getElem? (i := 1) rfl))) (mvT hZ (hw _ (List.mem_of_getElem? (i := 2) rfl))) (mvT hZ (hw _ (List.mem_of_getElem? (i := 3) rfl))) (by decide) (backOf (W := 0) (rm1 l Z a0 hw [] i0 (6 : Int32) T17.heap n0 Z17) hZ (hw _ (List.mem_of_getElem? (i := 3) rfl)) (hw _ (List.mem_of_getElem? (i := 2) rfl)) (Nat.le_of_ble_eq_true rfl) (Nat.le_of_ble_eq_true rfl)) (g := (mkF m 45 #[.val (.long i0), .second, .val (.int i1), .val (.int i2), .val (.int i3), .val (.int dd0), .val (.int dd1), .val (.int dd2), .val (.int dd3), .val (.int dd4), .val (.int dd5), .unset, .unset, .unset, .unset, .unset, .unset, .unset, .unset, .unset, .unset, .unset, .unset, .unset] [(.int (6 : Int32)), (.long i0)])) rfl (by rw [hml]; rfl) (argsL := [(.long i0), (.int (6 : Int32))]) (rest := []) (lenOf pd_16 rfl) rfl (by show 2 * 0 + _ ≤ _; exact Nat.le_of_eq rfl) (hb hby at_45) (fun _ _ => ⟨rfl, rfl, (by decide : 0 + 0 ≤ _), (by decide : 0 + 0 ≤ _)⟩)
  dsimp only [Pt.U, Pt.locs, Pt.cells, Pt.slots] at X20 l20 y20 z20 st20 hQ20
  subst l20 y20 z20
  obtain ⟨dd6, rfl, Nq20, hh20⟩ := hQ20
  have O0_20 : Old Z n0 T20.heap := by rw [hh20]; exact O0_17
  have Z20 : n0 ≤ T20.heap.size := by rw [hh20]; exact Z17
  have Kp20 : Keep h0 T20.heap [] := by rw [hh20]; exact Kp17
  have N20 := Fr.app N17 Nq20
  have pre21 := fun τ (κ : Steps p.tables e below (T20.setTop (mkF m 48 #[.val (.long i0), .second, .val (.int i1), .val (.int i2), .val (.int i3), .val (.int dd0), .val (.int dd1), .val (.int dd2), .val (.int dd3), .val (.int dd4), .val (.int dd5), .unset, .unset, .unset, .unset, .unset, .unset, .unset, .unset, .unset, .unset, .unset, .unset, .unset] [(.int dd6)])) τ) => pre19 τ (st20 _ κ)
  have pre22 := fun τ (κ : Steps p.tables e below (T20.setTop (mkF m 53 #[.val (.long i0), .second, .val (.int i1), .val (.int i2), .val (.int i3), .val (.int dd0), .val (.int dd1), .val (.int dd2), .val (.int dd3), .val (.int dd4), .val (.int dd5), .val (.int dd6), .unset, .unset, .unset, .unset, .unset, .unset, .unset, .unset, .unset, .unset, .unset, .unset] [(.int (7 : Int32)), (.long i0)])) τ) => pre21 τ (by
    refine XS.istore X20.here hx rfl (hb hby at_48) rfl (l' := #[.val (.long i0), .second, .val (.int i1), .val (.int i2), .val (.int i3), .val (.int dd0), .val (.int dd1), .val (.int dd2), .val (.int dd3), .val (.int dd4), .val (.int dd5), .val (.int dd6), .unset, .unset, .unset, .unset, .unset, .unset, .unset, .unset, .unset, .unset, .unset, .unset]) rfl ?_
    show Steps p.tables e below (T20.setTop (mkF m 50 #[.val (.long i0), .second, .val (.int i1), .val (.int i2), .val (.int i3), .val (.int dd0), .val (.int dd1), .val (.int dd2), .val (.int dd3), .val (.int dd4), .val (.int dd5), .val (.int dd6), .unset, .unset, .unset, .unset, .unset, .unset, .unset, .unset, .unset, .unset, .unset, .unset] [])) _
    refine XS.lloadN X20.here hx rfl (hb hby at_50) rfl ?_
    refine XS.bipush X20.here hx rfl (hb hby at_51) ?_
    show Steps p.tables e below (T20.setTop (mkF m 53 #[.val (.long i0), .second, .val (.int i1), .val (.int i2), .val (.int i3), .val (.int dd0), .val (.int dd1), .val (.int dd2), .val (.int dd3), .val (.int dd4), .val (.int dd5), .val (.int dd6), .unset, .unset, .unset, .unset, .unset, .unset, .unset, .unset, .unset, .unset, .unset, .unset] [(.int (7 : Int32)), (.long i0)])) _
    exact κ)
  obtain ⟨_, _, ⟨T23, L23, k23, n23⟩, -, X23, ⟨Lc23, hQ23, l23, y23, z23⟩, st23⟩ := Jvm.LawKit.callS X20 hx (y := (⟨"com/example/docket/docket/core/RsinIsValidPinLaw", "dig", "(JI)I"⟩ : MethodName)) hown (mvT hZ (hw _ (List.mem_of_getElem? (i := 0) rfl))) (mvT hZ (hw _ (List.mem_of_getElem? (i := 1) rfl))) (mvT hZ (hw _ (List.mem_of_getElem? (i := 2) rfl))) (mvT hZ (hw _ (List.mem_of_getElem? (i := 3) rfl))) (by decide) (backOf (W := 0) (rm1 l Z a0 hw [] i0 (7 : Int32) T20.heap n0 Z20) hZ (hw _ (List.mem_of_getElem? (i := 3) rfl)) (hw _ (List.mem_of_getElem? (i := 2) rfl)) (Nat.le_of_ble_eq_true rfl) (Nat.le_of_ble_eq_true rfl)) (g := (mkF m 53 #[.val (.long i0), .second, .val (.int i1), .val (.int i2), .val (.int i3), .val (.int dd0), .val (.int dd1), .val (.int dd2), .val (.int dd3), .val (.int dd4), .val (.int dd5), .val (.int dd6), .unset, .unset, .unset, .unset, .unset, .unset, .unset, .unset, .unset, .unset, .unset, .unset] [(.int (7 : Int32)), (.long i0)])) rfl (by rw [hml]; rfl) (argsL := [(.long i0), (.int (7 : Int32))]) (rest := []) (lenOf pd_16 rfl) rfl (by show 2 * 0 + _ ≤ _; exact Nat.le_of_eq rfl) (hb hby at_53) (fun _ _ => ⟨rfl, rfl, (by decide : 0 + 0 ≤ _), (by decide : 0 + 0 ≤ _)⟩)
  dsimp only [Pt.U, Pt.locs, Pt.cells, Pt.slots] at X23 l23 y23 z23 st23 hQ23
  subst l23 y23 z23
  obtain ⟨dd7, rfl, Nq23, hh23⟩ := hQ23
  have O0_23 : Old Z n0 T23.heap := by rw [hh23]; exact O0_20
  have Z23 : n0 ≤ T23.heap.size := by rw [hh23]; exact Z20
  have Kp23 : Keep h0 T23.heap [] := by rw [hh23]; exact Kp20
  have N23 := Fr.app N20 Nq23
  have pre24 := fun τ (κ : Steps p.tables e below (T23.setTop (mkF m 56 #[.val (.long i0), .second, .val (.int i1), .val (.int i2), .val (.int i3), .val (.int dd0), .val (.int dd1), .val (.int dd2), .val (.int dd3), .val (.int dd4), .val (.int dd5), .val (.int dd6), .unset, .unset, .unset, .unset, .unset, .unset, .unset, .unset, .unset, .unset, .unset, .unset] [(.int dd7)])) τ) => pre22 τ (st23 _ κ)
  have pre25 := fun τ (κ : Steps p.tables e below (T23.setTop (mkF m 103 #[.val (.long i0), .second, .val (.int i1), .val (.int i2), .val (.int i3), .val (.int dd0), .val (.int dd1), .val (.int dd2), .val (.int dd3), .val (.int dd4), .val (.int dd5), .val (.int dd6), .val (.int dd7), .val (.int (((((((((9 : Int32) * dd0) + ((8 : Int32) * dd1)) + ((7 : Int32) * dd2)) + ((6 : Int32) * dd3)) + ((5 : Int32) * dd4)) + ((4 : Int32) * dd5)) + ((3 : Int32) * dd6)) + ((2 : Int32) * dd7))), .unset, .unset, .unset, .unset, .unset, .unset, .unset, .unset, .unset, .unset] [])) τ) => pre24 τ (by
    refine XS.istore X23.here hx rfl (hb hby at_56) rfl (l' := #[.val (.long i0), .second, .val (.int i1), .val (.int i2), .val (.int i3), .val (.int dd0), .val (.int dd1), .val (.int dd2), .val (.int dd3), .val (.int dd4), .val (.int dd5), .val (.int dd6), .val (.int dd7), .unset, .unset, .unset, .unset, .unset, .unset, .unset, .unset, .unset, .unset, .unset]) rfl ?_
    show Steps p.tables e below (T23.setTop (mkF m 58 #[.val (.long i0), .second, .val (.int i1), .val (.int i2), .val (.int i3), .val (.int dd0), .val (.int dd1), .val (.int dd2), .val (.int dd3), .val (.int dd4), .val (.int dd5), .val (.int dd6), .val (.int dd7), .unset, .unset, .unset, .unset, .unset, .unset, .unset, .unset, .unset, .unset, .unset] [])) _
    refine XS.bipush X23.here hx rfl (hb hby at_58) ?_
    refine XS.iload X23.here hx rfl (hb hby at_60) rfl ?_
    refine XS.imul X23.here hx rfl (hb hby at_62) rfl ?_
    show Steps p.tables e below (T23.setTop (mkF m 63 #[.val (.long i0), .second, .val (.int i1), .val (.int i2), .val (.int i3), .val (.int dd0), .val (.int dd1), .val (.int dd2), .val (.int dd3), .val (.int dd4), .val (.int dd5), .val (.int dd6), .val (.int dd7), .unset, .unset, .unset, .unset, .unset, .unset, .unset, .unset, .unset, .unset, .unset] [(.int ((9 : Int32) * dd0))])) _
    refine XS.bipush X23.here hx rfl (hb hby at_63) ?_
    refine XS.iload X23.here hx rfl (hb hby at_65) rfl ?_
    refine XS.imul X23.here hx rfl (hb hby at_67) rfl ?_
    show Steps p.tables e below (T23.setTop (mkF m 68 #[.val (.long i0), .second, .val (.int i1), .val (.int i2), .val (.int i3), .val (.int dd0), .val (.int dd1), .val (.int dd2), .val (.int dd3), .val (.int dd4), .val (.int dd5), .val (.int dd6), .val (.int dd7), .unset, .unset, .unset, .unset, .unset, .unset, .unset, .unset, .unset, .unset, .unset] [(.int ((8 : Int32) * dd1)), (.int ((9 : Int32) * dd0))])) _
    refine XS.iadd X23.here hx rfl (hb hby at_68) rfl ?_
    show Steps p.tables e below (T23.setTop (mkF m 69 #[.val (.long i0), .second, .val (.int i1), .val (.int i2), .val (.int i3), .val (.int dd0), .val (.int dd1), .val (.int dd2), .val (.int dd3), .val (.int dd4), .val (.int dd5), .val (.int dd6), .val (.int dd7), .unset, .unset, .unset, .unset, .unset, .unset, .unset, .unset, .unset, .unset, .unset] [(.int (((9 : Int32) * dd0) + ((8 : Int32) * dd1)))])) _
    refine XS.bipush X23.here hx rfl (hb hby at_69) ?_
    refine XS.iload X23.here hx rfl (hb hby at_71) rfl ?_
    refine XS.imul X23.here hx rfl (hb hby at_73) rfl ?_
    show Steps p.tables e below (T23.setTop (mkF m 74 #[.val (.long i0), .second, .val (.int i1), .val (.int i2), .val (.int i3), .val (.int dd0), .val (.int dd1), .val (.int dd2), .val (.int dd3), .val (.int dd4), .val (.int dd5), .val (.int dd6), .val (.int dd7), .unset, .unset, .unset, .unset, .unset, .unset, .unset, .unset, .unset, .unset, .unset] [(.int ((7 : Int32) * dd2)), (.int (((9 : Int32) * dd0) + ((8 : Int32) * dd1)))])) _
    refine XS.iadd X23.here hx rfl (hb hby at_74) rfl ?_
    show Steps p.tables e below (T23.setTop (mkF m 75 #[.val (.long i0), .second, .val (.int i1), .val (.int i2), .val (.int i3), .val (.int dd0), .val (.int dd1), .val (.int dd2), .val (.int dd3), .val (.int dd4), .val (.int dd5), .val (.int dd6), .val (.int dd7), .unset, .unset, .unset, .unset, .unset, .unset, .unset, .unset, .unset, .unset, .unset] [(.int ((((9 : Int32) * dd0) + ((8 : Int32) * dd1)) + ((7 : Int32) * dd2)))])) _
    refine XS.bipush X23.here hx rfl (hb hby at_75) ?_
    refine XS.iload X23.here hx rfl (hb hby at_77) rfl ?_
    refine XS.imul X23.here hx rfl (hb hby at_79) rfl ?_
    show Steps p.tables e below (T23.setTop (mkF m 80 #[.val (.long i0), .second, .val (.int i1), .val (.int i2), .val (.int i3), .val (.int dd0), .val (.int dd1), .val (.int dd2), .val (.int dd3), .val (.int dd4), .val (.int dd5), .val (.int dd6), .val (.int dd7), .unset, .unset, .unset, .unset, .unset, .unset, .unset, .unset, .unset, .unset, .unset] [(.int ((6 : Int32) * dd3)), (.int ((((9 : Int32) * dd0) + ((8 : Int32) * dd1)) + ((7 : Int32) * dd2)))])) _
    refine XS.iadd X23.here hx rfl (hb hby at_80) rfl ?_
    show Steps p.tables e below (T23.setTop (mkF m 81 #[.val (.long i0), .second, .val (.int i1), .val (.int i2), .val (.int i3), .val (.int dd0), .val (.int dd1), .val (.int dd2), .val (.int dd3), .val (.int dd4), .val (.int dd5), .val (.int dd6), .val (.int dd7), .unset, .unset, .unset, .unset, .unset, .unset, .unset, .unset, .unset, .unset, .unset] [(.int (((((9 : Int32) * dd0) + ((8 : Int32) * dd1)) + ((7 : Int32) * dd2)) + ((6 : Int32) * dd3)))])) _
    refine XS.iconst X23.here hx rfl (hb hby at_81) ?_
    refine XS.iload X23.here hx rfl (hb hby at_82) rfl ?_
    refine XS.imul X23.here hx rfl (hb hby at_84) rfl ?_
    show Steps p.tables e below (T23.setTop (mkF m 85 #[.val (.long i0), .second, .val (.int i1), .val (.int i2), .val (.int i3), .val (.int dd0), .val (.int dd1), .val (.int dd2), .val (.int dd3), .val (.int dd4), .val (.int dd5), .val (.int dd6), .val (.int dd7), .unset, .unset, .unset, .unset, .unset, .unset, .unset, .unset, .unset, .unset, .unset] [(.int ((5 : Int32) * dd4)), (.int (((((9 : Int32) * dd0) + ((8 : Int32) * dd1)) + ((7 : Int32) * dd2)) + ((6 : Int32) * dd3)))])) _
    refine XS.iadd X23.here hx rfl (hb hby at_85) rfl ?_
    show Steps p.tables e below (T23.setTop (mkF m 86 #[.val (.long i0), .second, .val (.int i1), .val (.int i2), .val (.int i3), .val (.int dd0), .val (.int dd1), .val (.int dd2), .val (.int dd3), .val (.int dd4), .val (.int dd5), .val (.int dd6), .val (.int dd7), .unset, .unset, .unset, .unset, .unset, .unset, .unset, .unset, .unset, .unset, .unset] [(.int ((((((9 : Int32) * dd0) + ((8 : Int32) * dd1)) + ((7 : Int32) * dd2)) + ((6 : Int32) * dd3)) + ((5 : Int32) * dd4)))])) _
    refine XS.iconst X23.here hx rfl (hb hby at_86) ?_
    refine XS.iload X23.here hx rfl (hb hby at_87) rfl ?_
    refine XS.imul X23.here hx rfl (hb hby at_89) rfl ?_
    show Steps p.tables e below (T23.setTop (mkF m 90 #[.val (.long i0), .second, .val (.int i1), .val (.int i2), .val (.int i3), .val (.int dd0), .val (.int dd1), .val (.int dd2), .val (.int dd3), .val (.int dd4), .val (.int dd5), .val (.int dd6), .val (.int dd7), .unset, .unset, .unset, .unset, .unset, .unset, .unset, .unset, .unset, .unset, .unset] [(.int ((4 : Int32) * dd5)), (.int ((((((9 : Int32) * dd0) + ((8 : Int32) * dd1)) + ((7 : Int32) * dd2)) + ((6 : Int32) * dd3)) + ((5 : Int32) * dd4)))])) _
    refine XS.iadd X23.here hx rfl (hb hby at_90) rfl ?_
    show Steps p.tables e below (T23.setTop (mkF m 91 #[.val (.long i0), .second, .val (.int i1), .val (.int i2), .val (.int i3), .val (.int dd0), .val (.int dd1), .val (.int dd2), .val (.int dd3), .val (.int dd4), .val (.int dd5), .val (.int dd6), .val (.int dd7), .unset, .unset, .unset, .unset, .unset, .unset, .unset, .unset, .unset, .unset, .unset] [(.int (((((((9 : Int32) * dd0) + ((8 : Int32) * dd1)) + ((7 : Int32) * dd2)) + ((6 : Int32) * dd3)) + ((5 : Int32) * dd4)) + ((4 : Int32) * dd5)))])) _
    refine XS.iconst X23.here hx rfl (hb hby at_91) ?_
    refine XS.iload X23.here hx rfl (hb hby at_92) rfl ?_
    refine XS.imul X23.here hx rfl (hb hby at_94) rfl ?_
    show Steps p.tables e below (T23.setTop (mkF m 95 #[.val (.long i0), .second, .val (.int i1), .val (.int i2), .val (.int i3), .val (.int dd0), .val (.int dd1), .val (.int dd2), .val (.int dd3), .val (.int dd4), .val (.int dd5), .val (.int dd6), .val (.int dd7), .unset, .unset, .unset, .unset, .unset, .unset, .unset, .unset, .unset, .unset, .unset] [(.int ((3 : Int32) * dd6)), (.int (((((((9 : Int32) * dd0) + ((8 : Int32) * dd1)) + ((7 : Int32) * dd2)) + ((6 : Int32) * dd3)) + ((5 : Int32) * dd4)) + ((4 : Int32) * dd5)))])) _
    refine XS.iadd X23.here hx rfl (hb hby at_95) rfl ?_
    show Steps p.tables e below (T23.setTop (mkF m 96 #[.val (.long i0), .second, .val (.int i1), .val (.int i2), .val (.int i3), .val (.int dd0), .val (.int dd1), .val (.int dd2), .val (.int dd3), .val (.int dd4), .val (.int dd5), .val (.int dd6), .val (.int dd7), .unset, .unset, .unset, .unset, .unset, .unset, .unset, .unset, .unset, .unset, .unset] [(.int ((((((((9 : Int32) * dd0) + ((8 : Int32) * dd1)) + ((7 : Int32) * dd2)) + ((6 : Int32) * dd3)) + ((5 : Int32) * dd4)) + ((4 : Int32) * dd5)) + ((3 : Int32) * dd6)))])) _
    refine XS.iconst X23.here hx rfl (hb hby at_96) ?_
    refine XS.iload X23.here hx rfl (hb hby at_97) rfl ?_
    refine XS.imul X23.here hx rfl (hb hby at_99) rfl ?_
    show Steps p.tables e below (T23.setTop (mkF m 100 #[.val (.long i0), .second, .val (.int i1), .val (.int i2), .val (.int i3), .val (.int dd0), .val (.int dd1), .val (.int dd2), .val (.int dd3), .val (.int dd4), .val (.int dd5), .val (.int dd6), .val (.int dd7), .unset, .unset, .unset, .unset, .unset, .unset, .unset, .unset, .unset, .unset, .unset] [(.int ((2 : Int32) * dd7)), (.int ((((((((9 : Int32) * dd0) + ((8 : Int32) * dd1)) + ((7 : Int32) * dd2)) + ((6 : Int32) * dd3)) + ((5 : Int32) * dd4)) + ((4 : Int32) * dd5)) + ((3 : Int32) * dd6)))])) _
    refine XS.iadd X23.here hx rfl (hb hby at_100) rfl ?_
    show Steps p.tables e below (T23.setTop (mkF m 101 #[.val (.long i0), .second, .val (.int i1), .val (.int i2), .val (.int i3), .val (.int dd0), .val (.int dd1), .val (.int dd2), .val (.int dd3), .val (.int dd4), .val (.int dd5), .val (.int dd6), .val (.int dd7), .unset, .unset, .unset, .unset, .unset, .unset, .unset, .unset, .unset, .unset, .unset] [(.int (((((((((9 : Int32) * dd0) + ((8 : Int32) * dd1)) + ((7 : Int32) * dd2)) + ((6 : Int32) * dd3)) + ((5 : Int32) * dd4)) + ((4 : Int32) * dd5)) + ((3 : Int32) * dd6)) + ((2 : Int32) * dd7)))])) _
    refine XS.istore X23.here hx rfl (hb hby at_101) rfl (l' := #[.val (.long i0), .second, .val (.int i1), .val (.int i2), .val (.int i3), .val (.int dd0), .val (.int dd1), .val (.int dd2), .val (.int dd3), .val (.int dd4), .val (.int dd5), .val (.int dd6), .val (.int dd7), .val (.int (((((((((9 : Int32) * dd0) + ((8 : Int32) * dd1)) + ((7 : Int32) * dd2)) + ((6 : Int32) * dd3)) + ((5 : Int32) * dd4)) + ((4 : Int32) * dd5)) + ((3 : Int32) * dd6)) + ((2 : Int32) * dd7))), .unset, .unset, .unset, .unset, .unset, .unset, .unset, .unset, .unset, .unset]) rfl ?_
    show Steps p.tables e below (T23.setTop (mkF m 103 #[.val (.long i0), .second, .val (.int i1), .val (.int i2), .val (.int i3), .val (.int dd0), .val (.int dd1), .val (.int dd2), .val (.int dd3), .val (.int dd4), .val (.int dd5), .val (.int dd6), .val (.int dd7), .val (.int (((((((((9 : Int32) * dd0) + ((8 : Int32) * dd1)) + ((7 : Int32) * dd2)) + ((6 : Int32) * dd3)) + ((5 : Int32) * dd4)) + ((4 : Int32) * dd5)) + ((3 : Int32) * dd6)) + ((2 : Int32) * dd7))), .unset, .unset, .unset, .unset, .unset, .unset, .unset, .unset, .unset, .unset] [])) _
    exact κ)
  obtain ⟨ss, h_ss⟩ : ∃ z : Int32, z = (((((((((9 : Int32) * dd0) + ((8 : Int32) * dd1)) + ((7 : Int32) * dd2)) + ((6 : Int32) * dd3)) + ((5 : Int32) * dd4)) + ((4 : Int32) * dd5)) + ((3 : Int32) * dd6)) + ((2 : Int32) * dd7)) := ⟨_, rfl⟩
  rw [← h_ss] at pre25
  have pre26 := fun τ (κ : Steps p.tables e below (T23.setTop (mkF m 106 #[.val (.long i0), .second, .val (.int i1), .val (.int i2), .val (.int i3), .val (.int dd0), .val (.int dd1), .val (.int dd2), .val (.int dd3), .val (.int dd4), .val (.int dd5), .val (.int dd6), .val (.int dd7), .val (.int ss), .unset, .unset, .unset, .unset, .unset, .unset, .unset, .unset, .unset, .unset] [(.int (8 : Int32)), (.long i0)])) τ) => pre25 τ (by
    refine XS.lloadN X23.here hx rfl (hb hby at_103) rfl ?_
    refine XS.bipush X23.here hx rfl (hb hby at_104) ?_
    show Steps p.tables e below (T23.setTop (mkF m 106 #[.val (.long i0), .second, .val (.int i1), .val (.int i2), .val (.int i3), .val (.int dd0), .val (.int dd1), .val (.int dd2), .val (.int dd3), .val (.int dd4), .val (.int dd5), .val (.int dd6), .val (.int dd7), .val (.int ss), .unset, .unset, .unset, .unset, .unset, .unset, .unset, .unset, .unset, .unset] [(.int (8 : Int32)), (.long i0)])) _
    exact κ)
  obtain ⟨_, _, ⟨T27, L27, k27, n27⟩, -, X27, ⟨Lc27, hQ27, l27, y27, z27⟩, st27⟩ := Jvm.LawKit.callS X23 hx (y := (⟨"com/example/docket/docket/core/RsinIsValidPinLaw", "dig", "(JI)I"⟩ : MethodName)) hown (mvT hZ (hw _ (List.mem_of_getElem? (i := 0) rfl))) (mvT hZ (hw _ (List.mem_of_getElem? (i := 1) rfl))) (mvT hZ (hw _ (List.mem_of_getElem? (i := 2) rfl))) (mvT hZ (hw _ (List.mem_of_getElem? (i := 3) rfl))) (by decide) (backOf (W := 0) (rm1 l Z a0 hw [] i0 (8 : Int32) T23.heap n0 Z23) hZ (hw _ (List.mem_of_getElem? (i := 3) rfl)) (hw _ (List.mem_of_getElem? (i := 2) rfl)) (Nat.le_of_ble_eq_true rfl) (Nat.le_of_ble_eq_true rfl)) (g := (mkF m 106 #[.val (.long i0), .second, .val (.int i1), .val (.int i2), .val (.int i3), .val (.int dd0), .val (.int dd1), .val (.int dd2), .val (.int dd3), .val (.int dd4), .val (.int dd5), .val (.int dd6), .val (.int dd7), .val (.int ss), .unset, .unset, .unset, .unset, .unset, .unset, .unset, .unset, .unset, .unset] [(.int (8 : Int32)), (.long i0)])) rfl (by rw [hml]; rfl) (argsL := [(.long i0), (.int (8 : Int32))]) (rest := []) (lenOf pd_16 rfl) rfl (by show 2 * 0 + _ ≤ _; exact Nat.le_of_eq rfl) (hb hby at_106) (fun _ _ => ⟨rfl, rfl, (by decide : 0 + 0 ≤ _), (by decide : 0 + 0 ≤ _)⟩)
  dsimp only [Pt.U, Pt.locs, Pt.cells, Pt.slots] at X27 l27 y27 z27 st27 hQ27
  subst l27 y27 z27
  obtain ⟨dd8, rfl, Nq27, hh27⟩ := hQ27
  have O0_27 : Old Z n0 T27.heap := by rw [hh27]; exact O0_23
  have Z27 : n0 ≤ T27.heap.size := by rw [hh27]; exact Z23
  have Kp27 : Keep h0 T27.heap [] := by rw [hh27]; exact Kp23
  have N27 := Fr.app N23 Nq27
  have pre28 := fun τ (κ : Steps p.tables e below (T27.setTop (mkF m 109 #[.val (.long i0), .second, .val (.int i1), .val (.int i2), .val (.int i3), .val (.int dd0), .val (.int dd1), .val (.int dd2), .val (.int dd3), .val (.int dd4), .val (.int dd5), .val (.int dd6), .val (.int dd7), .val (.int ss), .unset, .unset, .unset, .unset, .unset, .unset, .unset, .unset, .unset, .unset] [(.int dd8)])) τ) => pre26 τ (st27 _ κ)
  have pre29 := fun τ (κ : Steps p.tables e below (T27.setTop (mkF m 115 #[.val (.long i0), .second, .val (.int i1), .val (.int i2), .val (.int i3), .val (.int dd0), .val (.int dd1), .val (.int dd2), .val (.int dd3), .val (.int dd4), .val (.int dd5), .val (.int dd6), .val (.int dd7), .val (.int ss), .val (.int dd8), .unset, .unset, .unset, .unset, .unset, .unset, .unset, .unset, .unset] [(.int (i3 &&& (1 : Int32)))])) τ) => pre28 τ (by
    refine XS.istore X27.here hx rfl (hb hby at_109) rfl (l' := #[.val (.long i0), .second, .val (.int i1), .val (.int i2), .val (.int i3), .val (.int dd0), .val (.int dd1), .val (.int dd2), .val (.int dd3), .val (.int dd4), .val (.int dd5), .val (.int dd6), .val (.int dd7), .val (.int ss), .val (.int dd8), .unset, .unset, .unset, .unset, .unset, .unset, .unset, .unset, .unset]) rfl ?_
    show Steps p.tables e below (T27.setTop (mkF m 111 #[.val (.long i0), .second, .val (.int i1), .val (.int i2), .val (.int i3), .val (.int dd0), .val (.int dd1), .val (.int dd2), .val (.int dd3), .val (.int dd4), .val (.int dd5), .val (.int dd6), .val (.int dd7), .val (.int ss), .val (.int dd8), .unset, .unset, .unset, .unset, .unset, .unset, .unset, .unset, .unset] [])) _
    refine XS.iload X27.here hx rfl (hb hby at_111) rfl ?_
    refine XS.iconst X27.here hx rfl (hb hby at_113) ?_
    refine XS.iand X27.here hx rfl (hb hby at_114) rfl ?_
    show Steps p.tables e below (T27.setTop (mkF m 115 #[.val (.long i0), .second, .val (.int i1), .val (.int i2), .val (.int i3), .val (.int dd0), .val (.int dd1), .val (.int dd2), .val (.int dd3), .val (.int dd4), .val (.int dd5), .val (.int dd6), .val (.int dd7), .val (.int ss), .val (.int dd8), .unset, .unset, .unset, .unset, .unset, .unset, .unset, .unset, .unset] [(.int (i3 &&& (1 : Int32)))])) _
    exact κ)
  obtain ⟨T30, h30, lo30, d8, X30, e30, N30, Z30, Kp30, O0_30, pre30⟩ : ∃ (T30 : State) (h30 : Heap) (lo30 : List Loc) (d8 : Int32), Stand p l e room_1 s m #[(.long i0), (.int i1), (.int i2), (.int i3)] below meth c T30 lo30 (0) (0) ∧ T30.heap = h30 ∧ Fr n0 lo30 ∧ n0 ≤ h30.size ∧ Keep h0 h30 [] ∧ (Old Z n0 h30) ∧ ∀ τ, Steps p.tables e below (T30.setTop (mkF m 135 #[.val (.long i0), .second, .val (.int i1), .val (.int i2), .val (.int i3), .val (.int dd0), .val (.int dd1), .val (.int dd2), .val (.int dd3), .val (.int dd4), .val (.int dd5), .val (.int dd6), .val (.int dd7), .val (.int ss), .val (.int d8), .unset, .unset, .unset, .unset, .unset, .unset, .unset, .unset, .unset] [])) τ → Steps p.tables e below (s₁.setTop (entryFrame m #[(.long i0), (.int i1), (.int i2), (.int i3)] maxLocals)) τ := by
    by_cases hm1 : (i3 &&& (1 : Int32)) = (0 : Int32)
    · have pre31 := fun τ (κ : Steps p.tables e below (T27.setTop (mkF m 135 #[.val (.long i0), .second, .val (.int i1), .val (.int i2), .val (.int i3), .val (.int dd0), .val (.int dd1), .val (.int dd2), .val (.int dd3), .val (.int dd4), .val (.int dd5), .val (.int dd6), .val (.int dd7), .val (.int ss), .val (.int dd8), .unset, .unset, .unset, .unset, .unset, .unset, .unset, .unset, .unset] [])) τ) => pre29 τ (by
        refine XS.ifYes X27.here hx rfl (pc0 := 115) (pc' := 135) rfl (hb hby at_115) rfl ((if0 _ _).trans (teq hm1).1) (by decide) (by decide) ?_
        show Steps p.tables e below (T27.setTop (mkF m 135 #[.val (.long i0), .second, .val (.int i1), .val (.int i2), .val (.int i3), .val (.int dd0), .val (.int dd1), .val (.int dd2), .val (.int dd3), .val (.int dd4), .val (.int dd5), .val (.int dd6), .val (.int dd7), .val (.int ss), .val (.int dd8), .unset, .unset, .unset, .unset, .unset, .unset, .unset, .unset, .unset] [])) _
        exact κ)
      exact ⟨T27, T27.heap, _, dd8, X27, rfl, N27, Z27, Kp27, O0_27, pre31⟩
    · have pre32 := fun τ (κ : Steps p.tables e below (T27.setTop (mkF m 125 #[.val (.long i0), .second, .val (.int i1), .val (.int i2), .val (.int i3), .val (.int dd0), .val (.int dd1), .val (.int dd2), .val (.int dd3), .val (.int dd4), .val (.int dd5), .val (.int dd6), .val (.int dd7), .val (.int ss), .val (.int dd8), .unset, .unset, .unset, .unset, .unset, .unset, .unset, .unset, .unset] [(.int (10 : Int32)), (.int (ss % (11 : Int32)))])) τ) => pre29 τ (by
        refine XS.ifNo X27.here hx rfl (hb hby at_115) rfl ((if0 _ _).trans (feq hm1).1) ?_
        show Steps p.tables e below (T27.setTop (mkF m 118 #[.val (.long i0), .second, .val (.int i1), .val (.int i2), .val (.int i3), .val (.int dd0), .val (.int dd1), .val (.int dd2), .val (.int dd3), .val (.int dd4), .val (.int dd5), .val (.int dd6), .val (.int dd7), .val (.int ss), .val (.int dd8), .unset, .unset, .unset, .unset, .unset, .unset, .unset, .unset, .unset] [])) _
        refine XS.iload X27.here hx rfl (hb hby at_118) rfl ?_
        refine XS.bipush X27.here hx rfl (hb hby at_120) ?_
        refine iremM X27 hx rfl (hb hby at_122) rfl (by decide) ?_
        show Steps p.tables e below (T27.setTop (mkF m 123 #[.val (.long i0), .second, .val (.int i1), .val (.int i2), .val (.int i3), .val (.int dd0), .val (.int dd1), .val (.int dd2), .val (.int dd3), .val (.int dd4), .val (.int dd5), .val (.int dd6), .val (.int dd7), .val (.int ss), .val (.int dd8), .unset, .unset, .unset, .unset, .unset, .unset, .unset, .unset, .unset] [(.int (ss % (11 : Int32)))])) _
        refine XS.bipush X27.here hx rfl (hb hby at_123) ?_
        show Steps p.tables e below (T27.setTop (mkF m 125 #[.val (.long i0), .second, .val (.int i1), .val (.int i2), .val (.int i3), .val (.int dd0), .val (.int dd1), .val (.int dd2), .val (.int dd3), .val (.int dd4), .val (.int dd5), .val (.int dd6), .val (.int dd7), .val (.int ss), .val (.int dd8), .unset, .unset, .unset, .unset, .unset, .unset, .unset, .unset, .unset] [(.int (10 : Int32)), (.int (ss % (11 : Int32)))])) _
        exact κ)
      by_cases hm2 : (ss % (11 : Int32)) < (10 : Int32)
      · have pre33 := fun τ (κ : Steps p.tables e below (T27.setTop (mkF m 135 #[.val (.long i0), .second, .val (.int i1), .val (.int i2), .val (.int i3), .val (.int dd0), .val (.int dd1), .val (.int dd2), .val (.int dd3), .val (.int dd4), .val (.int dd5), .val (.int dd6), .val (.int dd7), .val (.int ss), .val (.int (ss % (11 : Int32))), .unset, .unset, .unset, .unset, .unset, .unset, .unset, .unset, .unset] [])) τ) => pre32 τ (by
          refine XS.icmpNo X27.here hx rfl (hb hby at_125) rfl (tlt hm2).2.1 ?_
          show Steps p.tables e below (T27.setTop (mkF m 128 #[.val (.long i0), .second, .val (.int i1), .val (.int i2), .val (.int i3), .val (.int dd0), .val (.int dd1), .val (.int dd2), .val (.int dd3), .val (.int dd4), .val (.int dd5), .val (.int dd6), .val (.int dd7), .val (.int ss), .val (.int dd8), .unset, .unset, .unset, .unset, .unset, .unset, .unset, .unset, .unset] [])) _
          refine XS.iload X27.here hx rfl (hb hby at_128) rfl ?_
          refine XS.bipush X27.here hx rfl (hb hby at_130) ?_
          refine iremM X27 hx rfl (hb hby at_132) rfl (by decide) ?_
          show Steps p.tables e below (T27.setTop (mkF m 133 #[.val (.long i0), .second, .val (.int i1), .val (.int i2), .val (.int i3), .val (.int dd0), .val (.int dd1), .val (.int dd2), .val (.int dd3), .val (.int dd4), .val (.int dd5), .val (.int dd6), .val (.int dd7), .val (.int ss), .val (.int dd8), .unset, .unset, .unset, .unset, .unset, .unset, .unset, .unset, .unset] [(.int (ss % (11 : Int32)))])) _
          refine XS.istore X27.here hx rfl (hb hby at_133) rfl (l' := #[.val (.long i0), .second, .val (.int i1), .val (.int i2), .val (.int i3), .val (.int dd0), .val (.int dd1), .val (.int dd2), .val (.int dd3), .val (.int dd4), .val (.int dd5), .val (.int dd6), .val (.int dd7), .val (.int ss), .val (.int (ss % (11 : Int32))), .unset, .unset, .unset, .unset, .unset, .unset, .unset, .unset, .unset]) rfl ?_
          show Steps p.tables e below (T27.setTop (mkF m 135 #[.val (.long i0), .second, .val (.int i1), .val (.int i2), .val (.int i3), .val (.int dd0), .val (.int dd1), .val (.int dd2), .val (.int dd3), .val (.int dd4), .val (.int dd5), .val (.int dd6), .val (.int dd7), .val (.int ss), .val (.int (ss % (11 : Int32))), .unset, .unset, .unset, .unset, .unset, .unset, .unset, .unset, .unset] [])) _
          exact κ)
        exact ⟨T27, T27.heap, _, _, X27, rfl, N27, Z27, Kp27, O0_27, pre33⟩
      · have pre34 := fun τ (κ : Steps p.tables e below (T27.setTop (mkF m 135 #[.val (.long i0), .second, .val (.int i1), .val (.int i2), .val (.int i3), .val (.int dd0), .val (.int dd1), .val (.int dd2), .val (.int dd3), .val (.int dd4), .val (.int dd5), .val (.int dd6), .val (.int dd7), .val (.int ss), .val (.int dd8), .unset, .unset, .unset, .unset, .unset, .unset, .unset, .unset, .unset] [])) τ) => pre32 τ (by
          refine XS.icmpYes X27.here hx rfl (pc0 := 125) (pc' := 135) rfl (hb hby at_125) rfl (flt hm2).2.1 (by decide) (by decide) ?_
          show Steps p.tables e below (T27.setTop (mkF m 135 #[.val (.long i0), .second, .val (.int i1), .val (.int i2), .val (.int i3), .val (.int dd0), .val (.int dd1), .val (.int dd2), .val (.int dd3), .val (.int dd4), .val (.int dd5), .val (.int dd6), .val (.int dd7), .val (.int ss), .val (.int dd8), .unset, .unset, .unset, .unset, .unset, .unset, .unset, .unset, .unset] [])) _
          exact κ)
        exact ⟨T27, T27.heap, _, dd8, X27, rfl, N27, Z27, Kp27, O0_27, pre34⟩
  have pre35 := fun τ (κ : Steps p.tables e below (T30.setTop (mkF m 137 #[.val (.long i0), .second, .val (.int i1), .val (.int i2), .val (.int i3), .val (.int dd0), .val (.int dd1), .val (.int dd2), .val (.int dd3), .val (.int dd4), .val (.int dd5), .val (.int dd6), .val (.int dd7), .val (.int ss), .val (.int d8), .unset, .unset, .unset, .unset, .unset, .unset, .unset, .unset, .unset] [(.int (9 : Int32))])) τ) => pre30 τ (by
    refine XS.bipush X30.here hx rfl (hb hby at_135) ?_
    show Steps p.tables e below (T30.setTop (mkF m 137 #[.val (.long i0), .second, .val (.int i1), .val (.int i2), .val (.int i3), .val (.int dd0), .val (.int dd1), .val (.int dd2), .val (.int dd3), .val (.int dd4), .val (.int dd5), .val (.int dd6), .val (.int dd7), .val (.int ss), .val (.int d8), .unset, .unset, .unset, .unset, .unset, .unset, .unset, .unset, .unset] [(.int (9 : Int32))])) _
    exact κ)
  obtain ⟨T36, h36, k36, X36, e36, E36, A36, st36⟩ := newP X30 hx hZ (hw _ (List.mem_of_getElem? (i := 6) rfl)) e30 (g := (mkF m 137 #[.val (.long i0), .second, .val (.int i1), .val (.int i2), .val (.int i3), .val (.int dd0), .val (.int dd1), .val (.int dd2), .val (.int dd3), .val (.int dd4), .val (.int dd5), .val (.int dd6), .val (.int dd7), .val (.int ss), .val (.int d8), .unset, .unset, .unset, .unset, .unset, .unset, .unset, .unset, .unset] [(.int (9 : Int32))])) rfl (hb hby at_137) rfl (by decide) (cap := 9) (by decide) (by decide) (by decide) (by decide)
  obtain ⟨a, g36⟩ : ∃ z, z = h30.size := ⟨_, rfl⟩
  rw [← g36] at A36 st36
  have g_a : n0 ≤ a := Nat.le_trans Z30 (Nat.le_of_eq g36.symm)
  have O0_36 : Old Z n0 h36 := O0_30.ext E36
  have sz_a : h0.size ≤ a := Nat.le_trans Kp30.1 (Nat.le_of_eq g36.symm)
  have Kp36 : Keep h0 h36 [] := Kp30.ext E36
  have Z36 : n0 ≤ h36.size := Nat.le_trans Z30 E36.1
  have V_a_36 : Arv Z h36 a k36 .char (9 : Int32) [(.int (0 : Int32)), (.int (0 : Int32)), (.int (0 : Int32)), (.int (0 : Int32)), (.int (0 : Int32)), (.int (0 : Int32)), (.int (0 : Int32)), (.int (0 : Int32)), (.int (0 : Int32))] (.int (0 : Int32)) := (Arv.new A36 (by decide)).pad (pad_rep [] (.int (0 : Int32)) 9)
  have pre37 := fun τ (κ : Steps p.tables e below (T36.setTop (mkF m 139 #[.val (.long i0), .second, .val (.int i1), .val (.int i2), .val (.int i3), .val (.int dd0), .val (.int dd1), .val (.int dd2), .val (.int dd3), .val (.int dd4), .val (.int dd5), .val (.int dd6), .val (.int dd7), .val (.int ss), .val (.int d8), .unset, .unset, .unset, .unset, .unset, .unset, .unset, .unset, .unset] [(.ref a)])) τ) => pre35 τ (st36 _ κ)
  have pre38 := fun τ (κ : Steps p.tables e below (T36.setTop (mkF m 150 #[.val (.long i0), .second, .val (.int i1), .val (.int i2), .val (.int i3), .val (.int dd0), .val (.int dd1), .val (.int dd2), .val (.int dd3), .val (.int dd4), .val (.int dd5), .val (.int dd6), .val (.int dd7), .val (.int ss), .val (.int d8), .val (.ref a), .unset, .unset, .unset, .unset, .unset, .unset, .unset, .unset] [(.int (((48 : Int32) + dd0).toUInt32.toUInt16.toUInt32.toInt32)), (.int (0 : Int32)), (.ref a)])) τ) => pre37 τ (by
    refine XS.astore X36.here hx rfl (hb hby at_139) rfl rfl (l' := #[.val (.long i0), .second, .val (.int i1), .val (.int i2), .val (.int i3), .val (.int dd0), .val (.int dd1), .val (.int dd2), .val (.int dd3), .val (.int dd4), .val (.int dd5), .val (.int dd6), .val (.int dd7), .val (.int ss), .val (.int d8), .val (.ref a), .unset, .unset, .unset, .unset, .unset, .unset, .unset, .unset]) rfl ?_
    show Steps p.tables e below (T36.setTop (mkF m 141 #[.val (.long i0), .second, .val (.int i1), .val (.int i2), .val (.int i3), .val (.int dd0), .val (.int dd1), .val (.int dd2), .val (.int dd3), .val (.int dd4), .val (.int dd5), .val (.int dd6), .val (.int dd7), .val (.int ss), .val (.int d8), .val (.ref a), .unset, .unset, .unset, .unset, .unset, .unset, .unset, .unset] [])) _
    refine XS.aload X36.here hx rfl (hb hby at_141) rfl rfl ?_
    refine XS.iconst X36.here hx rfl (hb hby at_143) ?_
    refine XS.bipush X36.here hx rfl (hb hby at_144) ?_
    refine XS.iload X36.here hx rfl (hb hby at_146) rfl ?_
    refine XS.iadd X36.here hx rfl (hb hby at_148) rfl ?_
    show Steps p.tables e below (T36.setTop (mkF m 149 #[.val (.long i0), .second, .val (.int i1), .val (.int i2), .val (.int i3), .val (.int dd0), .val (.int dd1), .val (.int dd2), .val (.int dd3), .val (.int dd4), .val (.int dd5), .val (.int dd6), .val (.int dd7), .val (.int ss), .val (.int d8), .val (.ref a), .unset, .unset, .unset, .unset, .unset, .unset, .unset, .unset] [(.int ((48 : Int32) + dd0)), (.int (0 : Int32)), (.ref a)])) _
    refine XS.i2c X36.here hx rfl (hb hby at_149) rfl ?_
    show Steps p.tables e below (T36.setTop (mkF m 150 #[.val (.long i0), .second, .val (.int i1), .val (.int i2), .val (.int i3), .val (.int dd0), .val (.int dd1), .val (.int dd2), .val (.int dd3), .val (.int dd4), .val (.int dd5), .val (.int dd6), .val (.int dd7), .val (.int ss), .val (.int d8), .val (.ref a), .unset, .unset, .unset, .unset, .unset, .unset, .unset, .unset] [(.int (((48 : Int32) + dd0).toUInt32.toUInt16.toUInt32.toInt32)), (.int (0 : Int32)), (.ref a)])) _
    exact κ)
  obtain ⟨ch0, h_ch0⟩ : ∃ z : Int32, z = (((48 : Int32) + dd0).toUInt32.toUInt16.toUInt32.toInt32) := ⟨_, rfl⟩
  rw [← h_ch0] at pre38
  obtain ⟨cl39, Ar39, q39, S39, M39, H39, G39⟩ := id V_a_36
  have in39 : ¬ ((0 : Int32) < 0 ∨ cl39.slots.size ≤ ((0 : Int32)).toNatClampNeg) := inb_of S39 ⟨by decide, by decide⟩
  obtain ⟨T40, h40, X40, e40, W40, st40⟩ := stC X36 hx hZ e36 Ar39 (j := (0 : Int32)) in39 (g := (mkF m 150 #[.val (.long i0), .second, .val (.int i1), .val (.int i2), .val (.int i3), .val (.int dd0), .val (.int dd1), .val (.int dd2), .val (.int dd3), .val (.int dd4), .val (.int dd5), .val (.int dd6), .val (.int dd7), .val (.int ss), .val (.int d8), .val (.ref a), .unset, .unset, .unset, .unset, .unset, .unset, .unset, .unset] [(.int ch0), (.int (0 : Int32)), (.ref a)])) rfl rfl (hb hby at_150)
  have O0_40 : Old Z n0 h40 := O0_36.wr W40 g_a
  have Kp40 : Keep h0 h40 [] := Kp36.wr W40 (Or.inr sz_a)
  have N40 := Fr.snoc X40 N30 g_a
  have Z40 : n0 ≤ h40.size := Nat.le_trans Z36 (Keep.of_wr W40).1
  have V_a_40 : Arv Z h40 a k36 .char (9 : Int32) [(.int (nar .char ch0)), (.int (0 : Int32)), (.int (0 : Int32)), (.int (0 : Int32)), (.int (0 : Int32)), (.int (0 : Int32)), (.int (0 : Int32)), (.int (0 : Int32)), (.int (0 : Int32))] (.int (0 : Int32)) := Arv.set Ar39 q39 S39 M39 H39 G39 (fits_nar_char _) W40 0 rfl (Nat.le_of_ble_eq_true rfl)
  have pre41 := fun τ (κ : Steps p.tables e below (T40.setTop (mkF m 151 #[.val (.long i0), .second, .val (.int i1), .val (.int i2), .val (.int i3), .val (.int dd0), .val (.int dd1), .val (.int dd2), .val (.int dd3), .val (.int dd4), .val (.int dd5), .val (.int dd6), .val (.int dd7), .val (.int ss), .val (.int d8), .val (.ref a), .unset, .unset, .unset, .unset, .unset, .unset, .unset, .unset] [])) τ) => pre38 τ (st40 _ κ)
  have pre42 := fun τ (κ : Steps p.tables e below (T40.setTop (mkF m 160 #[.val (.long i0), .second, .val (.int i1), .val (.int i2), .val (.int i3), .val (.int dd0), .val (.int dd1), .val (.int dd2), .val (.int dd3), .val (.int dd4), .val (.int dd5), .val (.int dd6), .val (.int dd7), .val (.int ss), .val (.int d8), .val (.ref a), .unset, .unset, .unset, .unset, .unset, .unset, .unset, .unset] [(.int (((48 : Int32) + dd1).toUInt32.toUInt16.toUInt32.toInt32)), (.int (1 : Int32)), (.ref a)])) τ) => pre41 τ (by
    refine XS.aload X40.here hx rfl (hb hby at_151) rfl rfl ?_
    refine XS.iconst X40.here hx rfl (hb hby at_153) ?_
    refine XS.bipush X40.here hx rfl (hb hby at_154) ?_
    refine XS.iload X40.here hx rfl (hb hby at_156) rfl ?_
    refine XS.iadd X40.here hx rfl (hb hby at_158) rfl ?_
    show Steps p.tables e below (T40.setTop (mkF m 159 #[.val (.long i0), .second, .val (.int i1), .val (.int i2), .val (.int i3), .val (.int dd0), .val (.int dd1), .val (.int dd2), .val (.int dd3), .val (.int dd4), .val (.int dd5), .val (.int dd6), .val (.int dd7), .val (.int ss), .val (.int d8), .val (.ref a), .unset, .unset, .unset, .unset, .unset, .unset, .unset, .unset] [(.int ((48 : Int32) + dd1)), (.int (1 : Int32)), (.ref a)])) _
    refine XS.i2c X40.here hx rfl (hb hby at_159) rfl ?_
    show Steps p.tables e below (T40.setTop (mkF m 160 #[.val (.long i0), .second, .val (.int i1), .val (.int i2), .val (.int i3), .val (.int dd0), .val (.int dd1), .val (.int dd2), .val (.int dd3), .val (.int dd4), .val (.int dd5), .val (.int dd6), .val (.int dd7), .val (.int ss), .val (.int d8), .val (.ref a), .unset, .unset, .unset, .unset, .unset, .unset, .unset, .unset] [(.int (((48 : Int32) + dd1).toUInt32.toUInt16.toUInt32.toInt32)), (.int (1 : Int32)), (.ref a)])) _
    exact κ)
  obtain ⟨ch1, h_ch1⟩ : ∃ z : Int32, z = (((48 : Int32) + dd1).toUInt32.toUInt16.toUInt32.toInt32) := ⟨_, rfl⟩
  rw [← h_ch1] at pre42
  obtain ⟨cl43, Ar43, q43, S43, M43, H43, G43⟩ := id V_a_40
  have in43 : ¬ ((1 : Int32) < 0 ∨ cl43.slots.size ≤ ((1 : Int32)).toNatClampNeg) := inb_of S43 ⟨by decide, by decide⟩
  obtain ⟨T44, h44, X44, e44, W44, st44⟩ := stC X40 hx hZ e40 Ar43 (j := (1 : Int32)) in43 (g := (mkF m 160 #[.val (.long i0), .second, .val (.int i1), .val (.int i2), .val (.int i3), .val (.int dd0), .val (.int dd1), .val (.int dd2), .val (.int dd3), .val (.int dd4), .val (.int dd5), .val (.int dd6), .val (.int dd7), .val (.int ss), .val (.int d8), .val (.ref a), .unset, .unset, .unset, .unset, .unset, .unset, .unset, .unset] [(.int ch1), (.int (1 : Int32)), (.ref a)])) rfl rfl (hb hby at_160)
  have O0_44 : Old Z n0 h44 := O0_40.wr W44 g_a
  have Kp44 : Keep h0 h44 [] := Kp40.wr W44 (Or.inr sz_a)
  have N44 := Fr.snoc X44 N40 g_a
  have Z44 : n0 ≤ h44.size := Nat.le_trans Z40 (Keep.of_wr W44).1
  have V_a_44 : Arv Z h44 a k36 .char (9 : Int32) [(.int (nar .char ch0)), (.int (nar .char ch1)), (.int (0 : Int32)), (.int (0 : Int32)), (.int (0 : Int32)), (.int (0 : Int32)), (.int (0 : Int32)), (.int (0 : Int32)), (.int (0 : Int32))] (.int (0 : Int32)) := Arv.set Ar43 q43 S43 M43 H43 G43 (fits_nar_char _) W44 1 rfl (Nat.le_of_ble_eq_true rfl)
  have pre45 := fun τ (κ : Steps p.tables e below (T44.setTop (mkF m 161 #[.val (.long i0), .second, .val (.int i1), .val (.int i2), .val (.int i3), .val (.int dd0), .val (.int dd1), .val (.int dd2), .val (.int dd3), .val (.int dd4), .val (.int dd5), .val (.int dd6), .val (.int dd7), .val (.int ss), .val (.int d8), .val (.ref a), .unset, .unset, .unset, .unset, .unset, .unset, .unset, .unset] [])) τ) => pre42 τ (st44 _ κ)
  have pre46 := fun τ (κ : Steps p.tables e below (T44.setTop (mkF m 170 #[.val (.long i0), .second, .val (.int i1), .val (.int i2), .val (.int i3), .val (.int dd0), .val (.int dd1), .val (.int dd2), .val (.int dd3), .val (.int dd4), .val (.int dd5), .val (.int dd6), .val (.int dd7), .val (.int ss), .val (.int d8), .val (.ref a), .unset, .unset, .unset, .unset, .unset, .unset, .unset, .unset] [(.int (((48 : Int32) + dd2).toUInt32.toUInt16.toUInt32.toInt32)), (.int (2 : Int32)), (.ref a)])) τ) => pre45 τ (by
    refine XS.aload X44.here hx rfl (hb hby at_161) rfl rfl ?_
    refine XS.iconst X44.here hx rfl (hb hby at_163) ?_
    refine XS.bipush X44.here hx rfl (hb hby at_164) ?_
    refine XS.iload X44.here hx rfl (hb hby at_166) rfl ?_
    refine XS.iadd X44.here hx rfl (hb hby at_168) rfl ?_
    show Steps p.tables e below (T44.setTop (mkF m 169 #[.val (.long i0), .second, .val (.int i1), .val (.int i2), .val (.int i3), .val (.int dd0), .val (.int dd1), .val (.int dd2), .val (.int dd3), .val (.int dd4), .val (.int dd5), .val (.int dd6), .val (.int dd7), .val (.int ss), .val (.int d8), .val (.ref a), .unset, .unset, .unset, .unset, .unset, .unset, .unset, .unset] [(.int ((48 : Int32) + dd2)), (.int (2 : Int32)), (.ref a)])) _
    refine XS.i2c X44.here hx rfl (hb hby at_169) rfl ?_
    show Steps p.tables e below (T44.setTop (mkF m 170 #[.val (.long i0), .second, .val (.int i1), .val (.int i2), .val (.int i3), .val (.int dd0), .val (.int dd1), .val (.int dd2), .val (.int dd3), .val (.int dd4), .val (.int dd5), .val (.int dd6), .val (.int dd7), .val (.int ss), .val (.int d8), .val (.ref a), .unset, .unset, .unset, .unset, .unset, .unset, .unset, .unset] [(.int (((48 : Int32) + dd2).toUInt32.toUInt16.toUInt32.toInt32)), (.int (2 : Int32)), (.ref a)])) _
    exact κ)
  obtain ⟨ch2, h_ch2⟩ : ∃ z : Int32, z = (((48 : Int32) + dd2).toUInt32.toUInt16.toUInt32.toInt32) := ⟨_, rfl⟩
  rw [← h_ch2] at pre46
  obtain ⟨cl47, Ar47, q47, S47, M47, H47, G47⟩ := id V_a_44
  have in47 : ¬ ((2 : Int32) < 0 ∨ cl47.slots.size ≤ ((2 : Int32)).toNatClampNeg) := inb_of S47 ⟨by decide, by decide⟩
  obtain ⟨T48, h48, X48, e48, W48, st48⟩ := stC X44 hx hZ e44 Ar47 (j := (2 : Int32)) in47 (g := (mkF m 170 #[.val (.long i0), .second, .val (.int i1), .val (.int i2), .val (.int i3), .val (.int dd0), .val (.int dd1), .val (.int dd2), .val (.int dd3), .val (.int dd4), .val (.int dd5), .val (.int dd6), .val (.int dd7), .val (.int ss), .val (.int d8), .val (.ref a), .unset, .unset, .unset, .unset, .unset, .unset, .unset, .unset] [(.int ch2), (.int (2 : Int32)), (.ref a)])) rfl rfl (hb hby at_170)
  have O0_48 : Old Z n0 h48 := O0_44.wr W48 g_a
  have Kp48 : Keep h0 h48 [] := Kp44.wr W48 (Or.inr sz_a)
  have N48 := Fr.snoc X48 N44 g_a
  have Z48 : n0 ≤ h48.size := Nat.le_trans Z44 (Keep.of_wr W48).1
  have V_a_48 : Arv Z h48 a k36 .char (9 : Int32) [(.int (nar .char ch0)), (.int (nar .char ch1)), (.int (nar .char ch2)), (.int (0 : Int32)), (.int (0 : Int32)), (.int (0 : Int32)), (.int (0 : Int32)), (.int (0 : Int32)), (.int (0 : Int32))] (.int (0 : Int32)) := Arv.set Ar47 q47 S47 M47 H47 G47 (fits_nar_char _) W48 2 rfl (Nat.le_of_ble_eq_true rfl)
  have pre49 := fun τ (κ : Steps p.tables e below (T48.setTop (mkF m 171 #[.val (.long i0), .second, .val (.int i1), .val (.int i2), .val (.int i3), .val (.int dd0), .val (.int dd1), .val (.int dd2), .val (.int dd3), .val (.int dd4), .val (.int dd5), .val (.int dd6), .val (.int dd7), .val (.int ss), .val (.int d8), .val (.ref a), .unset, .unset, .unset, .unset, .unset, .unset, .unset, .unset] [])) τ) => pre46 τ (st48 _ κ)
  have pre50 := fun τ (κ : Steps p.tables e below (T48.setTop (mkF m 180 #[.val (.long i0), .second, .val (.int i1), .val (.int i2), .val (.int i3), .val (.int dd0), .val (.int dd1), .val (.int dd2), .val (.int dd3), .val (.int dd4), .val (.int dd5), .val (.int dd6), .val (.int dd7), .val (.int ss), .val (.int d8), .val (.ref a), .unset, .unset, .unset, .unset, .unset, .unset, .unset, .unset] [(.int (((48 : Int32) + dd3).toUInt32.toUInt16.toUInt32.toInt32)), (.int (3 : Int32)), (.ref a)])) τ) => pre49 τ (by
    refine XS.aload X48.here hx rfl (hb hby at_171) rfl rfl ?_
    refine XS.iconst X48.here hx rfl (hb hby at_173) ?_
    refine XS.bipush X48.here hx rfl (hb hby at_174) ?_
    refine XS.iload X48.here hx rfl (hb hby at_176) rfl ?_
    refine XS.iadd X48.here hx rfl (hb hby at_178) rfl ?_
    show Steps p.tables e below (T48.setTop (mkF m 179 #[.val (.long i0), .second, .val (.int i1), .val (.int i2), .val (.int i3), .val (.int dd0), .val (.int dd1), .val (.int dd2), .val (.int dd3), .val (.int dd4), .val (.int dd5), .val (.int dd6), .val (.int dd7), .val (.int ss), .val (.int d8), .val (.ref a), .unset, .unset, .unset, .unset, .unset, .unset, .unset, .unset] [(.int ((48 : Int32) + dd3)), (.int (3 : Int32)), (.ref a)])) _
    refine XS.i2c X48.here hx rfl (hb hby at_179) rfl ?_
    show Steps p.tables e below (T48.setTop (mkF m 180 #[.val (.long i0), .second, .val (.int i1), .val (.int i2), .val (.int i3), .val (.int dd0), .val (.int dd1), .val (.int dd2), .val (.int dd3), .val (.int dd4), .val (.int dd5), .val (.int dd6), .val (.int dd7), .val (.int ss), .val (.int d8), .val (.ref a), .unset, .unset, .unset, .unset, .unset, .unset, .unset, .unset] [(.int (((48 : Int32) + dd3).toUInt32.toUInt16.toUInt32.toInt32)), (.int (3 : Int32)), (.ref a)])) _
    exact κ)
  obtain ⟨ch3, h_ch3⟩ : ∃ z : Int32, z = (((48 : Int32) + dd3).toUInt32.toUInt16.toUInt32.toInt32) := ⟨_, rfl⟩
  rw [← h_ch3] at pre50
  obtain ⟨cl51, Ar51, q51, S51, M51, H51, G51⟩ := id V_a_48
  have in51 : ¬ ((3 : Int32) < 0 ∨ cl51.slots.size ≤ ((3 : Int32)).toNatClampNeg) := inb_of S51 ⟨by decide, by decide⟩
  obtain ⟨T52, h52, X52, e52, W52, st52⟩ := stC X48 hx hZ e48 Ar51 (j := (3 : Int32)) in51 (g := (mkF m 180 #[.val (.long i0), .second, .val (.int i1), .val (.int i2), .val (.int i3), .val (.int dd0), .val (.int dd1), .val (.int dd2), .val (.int dd3), .val (.int dd4), .val (.int dd5), .val (.int dd6), .val (.int dd7), .val (.int ss), .val (.int d8), .val (.ref a), .unset, .unset, .unset, .unset, .unset, .unset, .unset, .unset] [(.int ch3), (.int (3 : Int32)), (.ref a)])) rfl rfl (hb hby at_180)
  have O0_52 : Old Z n0 h52 := O0_48.wr W52 g_a
  have Kp52 : Keep h0 h52 [] := Kp48.wr W52 (Or.inr sz_a)
  have N52 := Fr.snoc X52 N48 g_a
  have Z52 : n0 ≤ h52.size := Nat.le_trans Z48 (Keep.of_wr W52).1
  have V_a_52 : Arv Z h52 a k36 .char (9 : Int32) [(.int (nar .char ch0)), (.int (nar .char ch1)), (.int (nar .char ch2)), (.int (nar .char ch3)), (.int (0 : Int32)), (.int (0 : Int32)), (.int (0 : Int32)), (.int (0 : Int32)), (.int (0 : Int32))] (.int (0 : Int32)) := Arv.set Ar51 q51 S51 M51 H51 G51 (fits_nar_char _) W52 3 rfl (Nat.le_of_ble_eq_true rfl)
  have pre53 := fun τ (κ : Steps p.tables e below (T52.setTop (mkF m 181 #[.val (.long i0), .second, .val (.int i1), .val (.int i2), .val (.int i3), .val (.int dd0), .val (.int dd1), .val (.int dd2), .val (.int dd3), .val (.int dd4), .val (.int dd5), .val (.int dd6), .val (.int dd7), .val (.int ss), .val (.int d8), .val (.ref a), .unset, .unset, .unset, .unset, .unset, .unset, .unset, .unset] [])) τ) => pre50 τ (st52 _ κ)
  have pre54 := fun τ (κ : Steps p.tables e below (T52.setTop (mkF m 190 #[.val (.long i0), .second, .val (.int i1), .val (.int i2), .val (.int i3), .val (.int dd0), .val (.int dd1), .val (.int dd2), .val (.int dd3), .val (.int dd4), .val (.int dd5), .val (.int dd6), .val (.int dd7), .val (.int ss), .val (.int d8), .val (.ref a), .unset, .unset, .unset, .unset, .unset, .unset, .unset, .unset] [(.int (((48 : Int32) + dd4).toUInt32.toUInt16.toUInt32.toInt32)), (.int (4 : Int32)), (.ref a)])) τ) => pre53 τ (by
    refine XS.aload X52.here hx rfl (hb hby at_181) rfl rfl ?_
    refine XS.iconst X52.here hx rfl (hb hby at_183) ?_
    refine XS.bipush X52.here hx rfl (hb hby at_184) ?_
    refine XS.iload X52.here hx rfl (hb hby at_186) rfl ?_
    refine XS.iadd X52.here hx rfl (hb hby at_188) rfl ?_
    show Steps p.tables e below (T52.setTop (mkF m 189 #[.val (.long i0), .second, .val (.int i1), .val (.int i2), .val (.int i3), .val (.int dd0), .val (.int dd1), .val (.int dd2), .val (.int dd3), .val (.int dd4), .val (.int dd5), .val (.int dd6), .val (.int dd7), .val (.int ss), .val (.int d8), .val (.ref a), .unset, .unset, .unset, .unset, .unset, .unset, .unset, .unset] [(.int ((48 : Int32) + dd4)), (.int (4 : Int32)), (.ref a)])) _
    refine XS.i2c X52.here hx rfl (hb hby at_189) rfl ?_
    show Steps p.tables e below (T52.setTop (mkF m 190 #[.val (.long i0), .second, .val (.int i1), .val (.int i2), .val (.int i3), .val (.int dd0), .val (.int dd1), .val (.int dd2), .val (.int dd3), .val (.int dd4), .val (.int dd5), .val (.int dd6), .val (.int dd7), .val (.int ss), .val (.int d8), .val (.ref a), .unset, .unset, .unset, .unset, .unset, .unset, .unset, .unset] [(.int (((48 : Int32) + dd4).toUInt32.toUInt16.toUInt32.toInt32)), (.int (4 : Int32)), (.ref a)])) _
    exact κ)
  obtain ⟨ch4, h_ch4⟩ : ∃ z : Int32, z = (((48 : Int32) + dd4).toUInt32.toUInt16.toUInt32.toInt32) := ⟨_, rfl⟩
  rw [← h_ch4] at pre54
  obtain ⟨cl55, Ar55, q55, S55, M55, H55, G55⟩ := id V_a_52
  have in55 : ¬ ((4 : Int32) < 0 ∨ cl55.slots.size ≤ ((4 : Int32)).toNatClampNeg) := inb_of S55 ⟨by decide, by decide⟩
  obtain ⟨T56, h56, X56, e56, W56, st56⟩ := stC X52 hx hZ e52 Ar55 (j := (4 : Int32)) in55 (g := (mkF m 190 #[.val (.long i0), .second, .val (.int i1), .val (.int i2), .val (.int i3), .val (.int dd0), .val (.int dd1), .val (.int dd2), .val (.int dd3), .val (.int dd4), .val (.int dd5), .val (.int dd6), .val (.int dd7), .val (.int ss), .val (.int d8), .val (.ref a), .unset, .unset, .unset, .unset, .unset, .unset, .unset, .unset] [(.int ch4), (.int (4 : Int32)), (.ref a)])) rfl rfl (hb hby at_190)
  have O0_56 : Old Z n0 h56 := O0_52.wr W56 g_a
  have Kp56 : Keep h0 h56 [] := Kp52.wr W56 (Or.inr sz_a)
  have N56 := Fr.snoc X56 N52 g_a
  have Z56 : n0 ≤ h56.size := Nat.le_trans Z52 (Keep.of_wr W56).1
  have V_a_56 : Arv Z h56 a k36 .char (9 : Int32) [(.int (nar .char ch0)), (.int (nar .char ch1)), (.int (nar .char ch2)), (.int (nar .char ch3)), (.int (nar .char ch4)), (.int (0 : Int32)), (.int (0 : Int32)), (.int (0 : Int32)), (.int (0 : Int32))] (.int (0 : Int32)) := Arv.set Ar55 q55 S55 M55 H55 G55 (fits_nar_char _) W56 4 rfl (Nat.le_of_ble_eq_true rfl)
  have pre57 := fun τ (κ : Steps p.tables e below (T56.setTop (mkF m 191 #[.val (.long i0), .second, .val (.int i1), .val (.int i2), .val (.int i3), .val (.int dd0), .val (.int dd1), .val (.int dd2), .val (.int dd3), .val (.int dd4), .val (.int dd5), .val (.int dd6), .val (.int dd7), .val (.int ss), .val (.int d8), .val (.ref a), .unset, .unset, .unset, .unset, .unset, .unset, .unset, .unset] [])) τ) => pre54 τ (st56 _ κ)
  have pre58 := fun τ (κ : Steps p.tables e below (T56.setTop (mkF m 200 #[.val (.long i0), .second, .val (.int i1), .val (.int i2), .val (.int i3), .val (.int dd0), .val (.int dd1), .val (.int dd2), .val (.int dd3), .val (.int dd4), .val (.int dd5), .val (.int dd6), .val (.int dd7), .val (.int ss), .val (.int d8), .val (.ref a), .unset, .unset, .unset, .unset, .unset, .unset, .unset, .unset] [(.int (((48 : Int32) + dd5).toUInt32.toUInt16.toUInt32.toInt32)), (.int (5 : Int32)), (.ref a)])) τ) => pre57 τ (by
    refine XS.aload X56.here hx rfl (hb hby at_191) rfl rfl ?_
    refine XS.iconst X56.here hx rfl (hb hby at_193) ?_
    refine XS.bipush X56.here hx rfl (hb hby at_194) ?_
    refine XS.iload X56.here hx rfl (hb hby at_196) rfl ?_
    refine XS.iadd X56.here hx rfl (hb hby at_198) rfl ?_
    show Steps p.tables e below (T56.setTop (mkF m 199 #[.val (.long i0), .second, .val (.int i1), .val (.int i2), .val (.int i3), .val (.int dd0), .val (.int dd1), .val (.int dd2), .val (.int dd3), .val (.int dd4), .val (.int dd5), .val (.int dd6), .val (.int dd7), .val (.int ss), .val (.int d8), .val (.ref a), .unset, .unset, .unset, .unset, .unset, .unset, .unset, .unset] [(.int ((48 : Int32) + dd5)), (.int (5 : Int32)), (.ref a)])) _
    refine XS.i2c X56.here hx rfl (hb hby at_199) rfl ?_
    show Steps p.tables e below (T56.setTop (mkF m 200 #[.val (.long i0), .second, .val (.int i1), .val (.int i2), .val (.int i3), .val (.int dd0), .val (.int dd1), .val (.int dd2), .val (.int dd3), .val (.int dd4), .val (.int dd5), .val (.int dd6), .val (.int dd7), .val (.int ss), .val (.int d8), .val (.ref a), .unset, .unset, .unset, .unset, .unset, .unset, .unset, .unset] [(.int (((48 : Int32) + dd5).toUInt32.toUInt16.toUInt32.toInt32)), (.int (5 : Int32)), (.ref a)])) _
    exact κ)
  obtain ⟨ch5, h_ch5⟩ : ∃ z : Int32, z = (((48 : Int32) + dd5).toUInt32.toUInt16.toUInt32.toInt32) := ⟨_, rfl⟩
  rw [← h_ch5] at pre58
  obtain ⟨cl59, Ar59, q59, S59, M59, H59, G59⟩ := id V_a_56
  have in59 : ¬ ((5 : Int32) < 0 ∨ cl59.slots.size ≤ ((5 : Int32)).toNatClampNeg) := inb_of S59 ⟨by decide, by decide⟩
  obtain ⟨T60, h60, X60, e60, W60, st60⟩ := stC X56 hx hZ e56 Ar59 (j := (5 : Int32)) in59 (g := (mkF m 200 #[.val (.long i0), .second, .val (.int i1), .val (.int i2), .val (.int i3), .val (.int dd0), .val (.int dd1), .val (.int dd2), .val (.int dd3), .val (.int dd4), .val (.int dd5), .val (.int dd6), .val (.int dd7), .val (.int ss), .val (.int d8), .val (.ref a), .unset, .unset, .unset, .unset, .unset, .unset, .unset, .unset] [(.int ch5), (.int (5 : Int32)), (.ref a)])) rfl rfl (hb hby at_200)
  have O0_60 : Old Z n0 h60 := O0_56.wr W60 g_a
  have Kp60 : Keep h0 h60 [] := Kp56.wr W60 (Or.inr sz_a)
  have N60 := Fr.snoc X60 N56 g_a
  have Z60 : n0 ≤ h60.size := Nat.le_trans Z56 (Keep.of_wr W60).1
  have V_a_60 : Arv Z h60 a k36 .char (9 : Int32) [(.int (nar .char ch0)), (.int (nar .char ch1)), (.int (nar .char ch2)), (.int (nar .char ch3)), (.int (nar .char ch4)), (.int (nar .char ch5)), (.int (0 : Int32)), (.int (0 : Int32)), (.int (0 : Int32))] (.int (0 : Int32)) := Arv.set Ar59 q59 S59 M59 H59 G59 (fits_nar_char _) W60 5 rfl (Nat.le_of_ble_eq_true rfl)
  have pre61 := fun τ (κ : Steps p.tables e below (T60.setTop (mkF m 201 #[.val (.long i0), .second, .val (.int i1), .val (.int i2), .val (.int i3), .val (.int dd0), .val (.int dd1), .val (.int dd2), .val (.int dd3), .val (.int dd4), .val (.int dd5), .val (.int dd6), .val (.int dd7), .val (.int ss), .val (.int d8), .val (.ref a), .unset, .unset, .unset, .unset, .unset, .unset, .unset, .unset] [])) τ) => pre58 τ (st60 _ κ)
  have pre62 := fun τ (κ : Steps p.tables e below (T60.setTop (mkF m 211 #[.val (.long i0), .second, .val (.int i1), .val (.int i2), .val (.int i3), .val (.int dd0), .val (.int dd1), .val (.int dd2), .val (.int dd3), .val (.int dd4), .val (.int dd5), .val (.int dd6), .val (.int dd7), .val (.int ss), .val (.int d8), .val (.ref a), .unset, .unset, .unset, .unset, .unset, .unset, .unset, .unset] [(.int (((48 : Int32) + dd6).toUInt32.toUInt16.toUInt32.toInt32)), (.int (6 : Int32)), (.ref a)])) τ) => pre61 τ (by
    refine XS.aload X60.here hx rfl (hb hby at_201) rfl rfl ?_
    refine XS.bipush X60.here hx rfl (hb hby at_203) ?_
    refine XS.bipush X60.here hx rfl (hb hby at_205) ?_
    refine XS.iload X60.here hx rfl (hb hby at_207) rfl ?_
    refine XS.iadd X60.here hx rfl (hb hby at_209) rfl ?_
    show Steps p.tables e below (T60.setTop (mkF m 210 #[.val (.long i0), .second, .val (.int i1), .val (.int i2), .val (.int i3), .val (.int dd0), .val (.int dd1), .val (.int dd2), .val (.int dd3), .val (.int dd4), .val (.int dd5), .val (.int dd6), .val (.int dd7), .val (.int ss), .val (.int d8), .val (.ref a), .unset, .unset, .unset, .unset, .unset, .unset, .unset, .unset] [(.int ((48 : Int32) + dd6)), (.int (6 : Int32)), (.ref a)])) _
    refine XS.i2c X60.here hx rfl (hb hby at_210) rfl ?_
    show Steps p.tables e below (T60.setTop (mkF m 211 #[.val (.long i0), .second, .val (.int i1), .val (.int i2), .val (.int i3), .val (.int dd0), .val (.int dd1), .val (.int dd2), .val (.int dd3), .val (.int dd4), .val (.int dd5), .val (.int dd6), .val (.int dd7), .val (.int ss), .val (.int d8), .val (.ref a), .unset, .unset, .unset, .unset, .unset, .unset, .unset, .unset] [(.int (((48 : Int32) + dd6).toUInt32.toUInt16.toUInt32.toInt32)), (.int (6 : Int32)), (.ref a)])) _
    exact κ)
  obtain ⟨ch6, h_ch6⟩ : ∃ z : Int32, z = (((48 : Int32) + dd6).toUInt32.toUInt16.toUInt32.toInt32) := ⟨_, rfl⟩
  rw [← h_ch6] at pre62
  obtain ⟨cl63, Ar63, q63, S63, M63, H63, G63⟩ := id V_a_60
  have in63 : ¬ ((6 : Int32) < 0 ∨ cl63.slots.size ≤ ((6 : Int32)).toNatClampNeg) := inb_of S63 ⟨by decide, by decide⟩
  obtain ⟨T64, h64, X64, e64, W64, st64⟩ := stC X60 hx hZ e60 Ar63 (j := (6 : Int32)) in63 (g := (mkF m 211 #[.val (.long i0), .second, .val (.int i1), .val (.int i2), .val (.int i3), .val (.int dd0), .val (.int dd1), .val (.int dd2), .val (.int dd3), .val (.int dd4), .val (.int dd5), .val (.int dd6), .val (.int dd7), .val (.int ss), .val (.int d8), .val (.ref a), .unset, .unset, .unset, .unset, .unset, .unset, .unset, .unset] [(.int ch6), (.int (6 : Int32)), (.ref a)])) rfl rfl (hb hby at_211)
  have O0_64 : Old Z n0 h64 := O0_60.wr W64 g_a
  have Kp64 : Keep h0 h64 [] := Kp60.wr W64 (Or.inr sz_a)
  have N64 := Fr.snoc X64 N60 g_a
  have Z64 : n0 ≤ h64.size := Nat.le_trans Z60 (Keep.of_wr W64).1
  have V_a_64 : Arv Z h64 a k36 .char (9 : Int32) [(.int (nar .char ch0)), (.int (nar .char ch1)), (.int (nar .char ch2)), (.int (nar .char ch3)), (.int (nar .char ch4)), (.int (nar .char ch5)), (.int (nar .char ch6)), (.int (0 : Int32)), (.int (0 : Int32))] (.int (0 : Int32)) := Arv.set Ar63 q63 S63 M63 H63 G63 (fits_nar_char _) W64 6 rfl (Nat.le_of_ble_eq_true rfl)
  have pre65 := fun τ (κ : Steps p.tables e below (T64.setTop (mkF m 212 #[.val (.long i0), .second, .val (.int i1), .val (.int i2), .val (.int i3), .val (.int dd0), .val (.int dd1), .val (.int dd2), .val (.int dd3), .val (.int dd4), .val (.int dd5), .val (.int dd6), .val (.int dd7), .val (.int ss), .val (.int d8), .val (.ref a), .unset, .unset, .unset, .unset, .unset, .unset, .unset, .unset] [])) τ) => pre62 τ (st64 _ κ)
  have pre66 := fun τ (κ : Steps p.tables e below (T64.setTop (mkF m 222 #[.val (.long i0), .second, .val (.int i1), .val (.int i2), .val (.int i3), .val (.int dd0), .val (.int dd1), .val (.int dd2), .val (.int dd3), .val (.int dd4), .val (.int dd5), .val (.int dd6), .val (.int dd7), .val (.int ss), .val (.int d8), .val (.ref a), .unset, .unset, .unset, .unset, .unset, .unset, .unset, .unset] [(.int (((48 : Int32) + dd7).toUInt32.toUInt16.toUInt32.toInt32)), (.int (7 : Int32)), (.ref a)])) τ) => pre65 τ (by
    refine XS.aload X64.here hx rfl (hb hby at_212) rfl rfl ?_
    refine XS.bipush X64.here hx rfl (hb hby at_214) ?_
    refine XS.bipush X64.here hx rfl (hb hby at_216) ?_
    refine XS.iload X64.here hx rfl (hb hby at_218) rfl ?_
    refine XS.iadd X64.here hx rfl (hb hby at_220) rfl ?_
    show Steps p.tables e below (T64.setTop (mkF m 221 #[.val (.long i0), .second, .val (.int i1), .val (.int i2), .val (.int i3), .val (.int dd0), .val (.int dd1), .val (.int dd2), .val (.int dd3), .val (.int dd4), .val (.int dd5), .val (.int dd6), .val (.int dd7), .val (.int ss), .val (.int d8), .val (.ref a), .unset, .unset, .unset, .unset, .unset, .unset, .unset, .unset] [(.int ((48 : Int32) + dd7)), (.int (7 : Int32)), (.ref a)])) _
    refine XS.i2c X64.here hx rfl (hb hby at_221) rfl ?_
    show Steps p.tables e below (T64.setTop (mkF m 222 #[.val (.long i0), .second, .val (.int i1), .val (.int i2), .val (.int i3), .val (.int dd0), .val (.int dd1), .val (.int dd2), .val (.int dd3), .val (.int dd4), .val (.int dd5), .val (.int dd6), .val (.int dd7), .val (.int ss), .val (.int d8), .val (.ref a), .unset, .unset, .unset, .unset, .unset, .unset, .unset, .unset] [(.int (((48 : Int32) + dd7).toUInt32.toUInt16.toUInt32.toInt32)), (.int (7 : Int32)), (.ref a)])) _
    exact κ)
  obtain ⟨ch7, h_ch7⟩ : ∃ z : Int32, z = (((48 : Int32) + dd7).toUInt32.toUInt16.toUInt32.toInt32) := ⟨_, rfl⟩
  rw [← h_ch7] at pre66
  obtain ⟨cl67, Ar67, q67, S67, M67, H67, G67⟩ := id V_a_64
  have in67 : ¬ ((7 : Int32) < 0 ∨ cl67.slots.size ≤ ((7 : Int32)).toNatClampNeg) := inb_of S67 ⟨by decide, by decide⟩
  obtain ⟨T68, h68, X68, e68, W68, st68⟩ := stC X64 hx hZ e64 Ar67 (j := (7 : Int32)) in67 (g := (mkF m 222 #[.val (.long i0), .second, .val (.int i1), .val (.int i2), .val (.int i3), .val (.int dd0), .val (.int dd1), .val (.int dd2), .val (.int dd3), .val (.int dd4), .val (.int dd5), .val (.int dd6), .val (.int dd7), .val (.int ss), .val (.int d8), .val (.ref a), .unset, .unset, .unset, .unset, .unset, .unset, .unset, .unset] [(.int ch7), (.int (7 : Int32)), (.ref a)])) rfl rfl (hb hby at_222)
  have O0_68 : Old Z n0 h68 := O0_64.wr W68 g_a
  have Kp68 : Keep h0 h68 [] := Kp64.wr W68 (Or.inr sz_a)
  have N68 := Fr.snoc X68 N64 g_a
  have Z68 : n0 ≤ h68.size := Nat.le_trans Z64 (Keep.of_wr W68).1
  have V_a_68 : Arv Z h68 a k36 .char (9 : Int32) [(.int (nar .char ch0)), (.int (nar .char ch1)), (.int (nar .char ch2)), (.int (nar .char ch3)), (.int (nar .char ch4)), (.int (nar .char ch5)), (.int (nar .char ch6)), (.int (nar .char ch7)), (.int (0 : Int32))] (.int (0 : Int32)) := Arv.set Ar67 q67 S67 M67 H67 G67 (fits_nar_char _) W68 7 rfl (Nat.le_of_ble_eq_true rfl)
  have pre69 := fun τ (κ : Steps p.tables e below (T68.setTop (mkF m 223 #[.val (.long i0), .second, .val (.int i1), .val (.int i2), .val (.int i3), .val (.int dd0), .val (.int dd1), .val (.int dd2), .val (.int dd3), .val (.int dd4), .val (.int dd5), .val (.int dd6), .val (.int dd7), .val (.int ss), .val (.int d8), .val (.ref a), .unset, .unset, .unset, .unset, .unset, .unset, .unset, .unset] [])) τ) => pre66 τ (st68 _ κ)
  have pre70 := fun τ (κ : Steps p.tables e below (T68.setTop (mkF m 233 #[.val (.long i0), .second, .val (.int i1), .val (.int i2), .val (.int i3), .val (.int dd0), .val (.int dd1), .val (.int dd2), .val (.int dd3), .val (.int dd4), .val (.int dd5), .val (.int dd6), .val (.int dd7), .val (.int ss), .val (.int d8), .val (.ref a), .unset, .unset, .unset, .unset, .unset, .unset, .unset, .unset] [(.int (((48 : Int32) + d8).toUInt32.toUInt16.toUInt32.toInt32)), (.int (8 : Int32)), (.ref a)])) τ) => pre69 τ (by
    refine XS.aload X68.here hx rfl (hb hby at_223) rfl rfl ?_
    refine XS.bipush X68.here hx rfl (hb hby at_225) ?_
    refine XS.bipush X68.here hx rfl (hb hby at_227) ?_
    refine XS.iload X68.here hx rfl (hb hby at_229) rfl ?_
    refine XS.iadd X68.here hx rfl (hb hby at_231) rfl ?_
    show Steps p.tables e below (T68.setTop (mkF m 232 #[.val (.long i0), .second, .val (.int i1), .val (.int i2), .val (.int i3), .val (.int dd0), .val (.int dd1), .val (.int dd2), .val (.int dd3), .val (.int dd4), .val (.int dd5), .val (.int dd6), .val (.int dd7), .val (.int ss), .val (.int d8), .val (.ref a), .unset, .unset, .unset, .unset, .unset, .unset, .unset, .unset] [(.int ((48 : Int32) + d8)), (.int (8 : Int32)), (.ref a)])) _
    refine XS.i2c X68.here hx rfl (hb hby at_232) rfl ?_
    show Steps p.tables e below (T68.setTop (mkF m 233 #[.val (.long i0), .second, .val (.int i1), .val (.int i2), .val (.int i3), .val (.int dd0), .val (.int dd1), .val (.int dd2), .val (.int dd3), .val (.int dd4), .val (.int dd5), .val (.int dd6), .val (.int dd7), .val (.int ss), .val (.int d8), .val (.ref a), .unset, .unset, .unset, .unset, .unset, .unset, .unset, .unset] [(.int (((48 : Int32) + d8).toUInt32.toUInt16.toUInt32.toInt32)), (.int (8 : Int32)), (.ref a)])) _
    exact κ)
  obtain ⟨ch8, h_ch8⟩ : ∃ z : Int32, z = (((48 : Int32) + d8).toUInt32.toUInt16.toUInt32.toInt32) := ⟨_, rfl⟩
  rw [← h_ch8] at pre70
  obtain ⟨cl71, Ar71, q71, S71, M71, H71, G71⟩ := id V_a_68
  have in71 : ¬ ((8 : Int32) < 0 ∨ cl71.slots.size ≤ ((8 : Int32)).toNatClampNeg) := inb_of S71 ⟨by decide, by decide⟩
  obtain ⟨T72, h72, X72, e72, W72, st72⟩ := stC X68 hx hZ e68 Ar71 (j := (8 : Int32)) in71 (g := (mkF m 233 #[.val (.long i0), .second, .val (.int i1), .val (.int i2), .val (.int i3), .val (.int dd0), .val (.int dd1), .val (.int dd2), .val (.int dd3), .val (.int dd4), .val (.int dd5), .val (.int dd6), .val (.int dd7), .val (.int ss), .val (.int d8), .val (.ref a), .unset, .unset, .unset, .unset, .unset, .unset, .unset, .unset] [(.int ch8), (.int (8 : Int32)), (.ref a)])) rfl rfl (hb hby at_233)
  have O0_72 : Old Z n0 h72 := O0_68.wr W72 g_a
  have Kp72 : Keep h0 h72 [] := Kp68.wr W72 (Or.inr sz_a)
  have N72 := Fr.snoc X72 N68 g_a
  have Z72 : n0 ≤ h72.size := Nat.le_trans Z68 (Keep.of_wr W72).1
  have V_a_72 : Arv Z h72 a k36 .char (9 : Int32) [(.int (nar .char ch0)), (.int (nar .char ch1)), (.int (nar .char ch2)), (.int (nar .char ch3)), (.int (nar .char ch4)), (.int (nar .char ch5)), (.int (nar .char ch6)), (.int (nar .char ch7)), (.int (nar .char ch8))] (.int (0 : Int32)) := Arv.set Ar71 q71 S71 M71 H71 G71 (fits_nar_char _) W72 8 rfl (Nat.le_of_ble_eq_true rfl)
  have pre73 := fun τ (κ : Steps p.tables e below (T72.setTop (mkF m 234 #[.val (.long i0), .second, .val (.int i1), .val (.int i2), .val (.int i3), .val (.int dd0), .val (.int dd1), .val (.int dd2), .val (.int dd3), .val (.int dd4), .val (.int dd5), .val (.int dd6), .val (.int dd7), .val (.int ss), .val (.int d8), .val (.ref a), .unset, .unset, .unset, .unset, .unset, .unset, .unset, .unset] [])) τ) => pre70 τ (st72 _ κ)
  obtain ⟨g0, h_g0⟩ : ∃ z : Nat → Int32, z = fun j => [(nar .char ch0), (nar .char ch1), (nar .char ch2), (nar .char ch3), (nar .char ch4), (nar .char ch5), (nar .char ch6), (nar .char ch7), (nar .char ch8)].getD j 0 := ⟨_, rfl⟩
  have Va : Arv Z h72 a k36 .char (Int32.ofNat 9) (own_tab g0 9) (.int (0 : Int32)) := by rw [h_g0]; exact V_a_72
  have hc_g0 : ∀ j, j < 9 → own_ch (g0 j) := by
    intro j hj
    rw [h_g0]
    match j, hj with
    | 0, _ => exact own_chn _
    | 1, _ => exact own_chn _
    | 2, _ => exact own_chn _
    | 3, _ => exact own_chn _
    | 4, _ => exact own_chn _
    | 5, _ => exact own_chn _
    | 6, _ => exact own_chn _
    | 7, _ => exact own_chn _
    | 8, _ => exact own_chn _
  have pre74 := fun τ (κ : Steps p.tables e below (T72.setTop (mkF m 238 #[.val (.long i0), .second, .val (.int i1), .val (.int i2), .val (.int i3), .val (.int dd0), .val (.int dd1), .val (.int dd2), .val (.int dd3), .val (.int dd4), .val (.int dd5), .val (.int dd6), .val (.int dd7), .val (.int ss), .val (.int d8), .val (.ref a), .unset, .unset, .unset, .unset, .unset, .unset, .unset, .unset] [(.int (i3 &&& (2 : Int32)))])) τ) => pre73 τ (by
    refine XS.iload X72.here hx rfl (hb hby at_234) rfl ?_
    refine XS.iconst X72.here hx rfl (hb hby at_236) ?_
    refine XS.iand X72.here hx rfl (hb hby at_237) rfl ?_
    show Steps p.tables e below (T72.setTop (mkF m 238 #[.val (.long i0), .second, .val (.int i1), .val (.int i2), .val (.int i3), .val (.int dd0), .val (.int dd1), .val (.int dd2), .val (.int dd3), .val (.int dd4), .val (.int dd5), .val (.int dd6), .val (.int dd7), .val (.int ss), .val (.int d8), .val (.ref a), .unset, .unset, .unset, .unset, .unset, .unset, .unset, .unset] [(.int (i3 &&& (2 : Int32)))])) _
    exact κ)
  obtain ⟨T75, h75, lo75, g, X75, e75, N75, Z75, Kp75, O0_75, Va_75, hg, pre75⟩ : ∃ (T75 : State) (h75 : Heap) (lo75 : List Loc) (g : Nat → Int32), Stand p l e room_1 s m #[(.long i0), (.int i1), (.int i2), (.int i3)] below meth c T75 lo75 (1) (9) ∧ T75.heap = h75 ∧ Fr n0 lo75 ∧ n0 ≤ h75.size ∧ Keep h0 h75 [] ∧ (Old Z n0 h75) ∧ (Arv Z h75 a k36 .char (Int32.ofNat 9) (own_tab g 9) (.int (0 : Int32))) ∧ (∀ j, j < 9 → own_ch (g j)) ∧ ∀ τ, Steps p.tables e below (T75.setTop (mkF m 256 #[.val (.long i0), .second, .val (.int i1), .val (.int i2), .val (.int i3), .val (.int dd0), .val (.int dd1), .val (.int dd2), .val (.int dd3), .val (.int dd4), .val (.int dd5), .val (.int dd6), .val (.int dd7), .val (.int ss), .val (.int d8), .val (.ref a), .unset, .unset, .unset, .unset, .unset, .unset, .unset, .unset] [])) τ → Steps p.tables e below (s₁.setTop (entryFrame m #[(.long i0), (.int i1), (.int i2), (.int i3)] maxLocals)) τ := by
    by_cases hm3 : (i3 &&& (2 : Int32)) = (0 : Int32)
    · have pre76 := fun τ (κ : Steps p.tables e below (T72.setTop (mkF m 256 #[.val (.long i0), .second, .val (.int i1), .val (.int i2), .val (.int i3), .val (.int dd0), .val (.int dd1), .val (.int dd2), .val (.int dd3), .val (.int dd4), .val (.int dd5), .val (.int dd6), .val (.int dd7), .val (.int ss), .val (.int d8), .val (.ref a), .unset, .unset, .unset, .unset, .unset, .unset, .unset, .unset] [])) τ) => pre74 τ (by
        refine XS.ifYes X72.here hx rfl (pc0 := 238) (pc' := 256) rfl (hb hby at_238) rfl ((if0 _ _).trans (teq hm3).1) (by decide) (by decide) ?_
        show Steps p.tables e below (T72.setTop (mkF m 256 #[.val (.long i0), .second, .val (.int i1), .val (.int i2), .val (.int i3), .val (.int dd0), .val (.int dd1), .val (.int dd2), .val (.int dd3), .val (.int dd4), .val (.int dd5), .val (.int dd6), .val (.int dd7), .val (.int ss), .val (.int d8), .val (.ref a), .unset, .unset, .unset, .unset, .unset, .unset, .unset, .unset] [])) _
        exact κ)
      exact ⟨T72, h72, _, g0, X72, e72, N72, Z72, Kp72, O0_72, Va, hc_g0, pre76⟩
    · obtain ⟨k9, hk9, e9⟩ := own_pos i1
      have pre77 := fun τ (κ : Steps p.tables e below (T72.setTop (mkF m 250 #[.val (.long i0), .second, .val (.int i1), .val (.int i2), .val (.int i3), .val (.int dd0), .val (.int dd1), .val (.int dd2), .val (.int dd3), .val (.int dd4), .val (.int dd5), .val (.int dd6), .val (.int dd7), .val (.int ss), .val (.int d8), .val (.ref a), .unset, .unset, .unset, .unset, .unset, .unset, .unset, .unset] [(.int ((i1 &&& (2147483647 : Int32)) % (9 : Int32))), (.ref a)])) τ) => pre74 τ (by
        refine XS.ifNo X72.here hx rfl (hb hby at_238) rfl ((if0 _ _).trans (feq hm3).1) ?_
        show Steps p.tables e below (T72.setTop (mkF m 241 #[.val (.long i0), .second, .val (.int i1), .val (.int i2), .val (.int i3), .val (.int dd0), .val (.int dd1), .val (.int dd2), .val (.int dd3), .val (.int dd4), .val (.int dd5), .val (.int dd6), .val (.int dd7), .val (.int ss), .val (.int d8), .val (.ref a), .unset, .unset, .unset, .unset, .unset, .unset, .unset, .unset] [])) _
        refine XS.aload X72.here hx rfl (hb hby at_241) rfl rfl ?_
        refine XS.iloadN X72.here hx rfl (hb hby at_243) rfl ?_
        refine X72.ldcInt hx hown (mvT hZ (hw _ (List.mem_of_getElem? (i := 75) rfl))) (g := (mkF m 244 #[.val (.long i0), .second, .val (.int i1), .val (.int i2), .val (.int i3), .val (.int dd0), .val (.int dd1), .val (.int dd2), .val (.int dd3), .val (.int dd4), .val (.int dd5), .val (.int dd6), .val (.int dd7), .val (.int ss), .val (.int d8), .val (.ref a), .unset, .unset, .unset, .unset, .unset, .unset, .unset, .unset] [(.int i1), (.ref a)])) rfl (hb hby at_244) _ ?_
        show Steps p.tables e below (T72.setTop (mkF m 246 #[.val (.long i0), .second, .val (.int i1), .val (.int i2), .val (.int i3), .val (.int dd0), .val (.int dd1), .val (.int dd2), .val (.int dd3), .val (.int dd4), .val (.int dd5), .val (.int dd6), .val (.int dd7), .val (.int ss), .val (.int d8), .val (.ref a), .unset, .unset, .unset, .unset, .unset, .unset, .unset, .unset] [(.int (2147483647 : Int32)), (.int i1), (.ref a)])) _
        refine XS.iand X72.here hx rfl (hb hby at_246) rfl ?_
        show Steps p.tables e below (T72.setTop (mkF m 247 #[.val (.long i0), .second, .val (.int i1), .val (.int i2), .val (.int i3), .val (.int dd0), .val (.int dd1), .val (.int dd2), .val (.int dd3), .val (.int dd4), .val (.int dd5), .val (.int dd6), .val (.int dd7), .val (.int ss), .val (.int d8), .val (.ref a), .unset, .unset, .unset, .unset, .unset, .unset, .unset, .unset] [(.int (i1 &&& (2147483647 : Int32))), (.ref a)])) _
        refine XS.bipush X72.here hx rfl (hb hby at_247) ?_
        refine iremM X72 hx rfl (hb hby at_249) rfl (by decide) ?_
        show Steps p.tables e below (T72.setTop (mkF m 250 #[.val (.long i0), .second, .val (.int i1), .val (.int i2), .val (.int i3), .val (.int dd0), .val (.int dd1), .val (.int dd2), .val (.int dd3), .val (.int dd4), .val (.int dd5), .val (.int dd6), .val (.int dd7), .val (.int ss), .val (.int d8), .val (.ref a), .unset, .unset, .unset, .unset, .unset, .unset, .unset, .unset] [(.int ((i1 &&& (2147483647 : Int32)) % (9 : Int32))), (.ref a)])) _
        exact κ)
      rw [show ((i1 &&& (2147483647 : Int32)) % (9 : Int32)) = (Int32.ofNat k9) from e9] at pre77
      have pre78 := fun τ (κ : Steps p.tables e below (T72.setTop (mkF m 255 #[.val (.long i0), .second, .val (.int i1), .val (.int i2), .val (.int i3), .val (.int dd0), .val (.int dd1), .val (.int dd2), .val (.int dd3), .val (.int dd4), .val (.int dd5), .val (.int dd6), .val (.int dd7), .val (.int ss), .val (.int d8), .val (.ref a), .unset, .unset, .unset, .unset, .unset, .unset, .unset, .unset] [(.int ((i2 &&& (65535 : Int32)).toUInt32.toUInt16.toUInt32.toInt32)), (.int (Int32.ofNat k9)), (.ref a)])) τ) => pre77 τ (by
        refine XS.iloadN X72.here hx rfl (hb hby at_250) rfl ?_
        refine X72.ldcInt hx hown (mvT hZ (hw _ (List.mem_of_getElem? (i := 76) rfl))) (g := (mkF m 251 #[.val (.long i0), .second, .val (.int i1), .val (.int i2), .val (.int i3), .val (.int dd0), .val (.int dd1), .val (.int dd2), .val (.int dd3), .val (.int dd4), .val (.int dd5), .val (.int dd6), .val (.int dd7), .val (.int ss), .val (.int d8), .val (.ref a), .unset, .unset, .unset, .unset, .unset, .unset, .unset, .unset] [(.int i2), (.int (Int32.ofNat k9)), (.ref a)])) rfl (hb hby at_251) _ ?_
        show Steps p.tables e below (T72.setTop (mkF m 253 #[.val (.long i0), .second, .val (.int i1), .val (.int i2), .val (.int i3), .val (.int dd0), .val (.int dd1), .val (.int dd2), .val (.int dd3), .val (.int dd4), .val (.int dd5), .val (.int dd6), .val (.int dd7), .val (.int ss), .val (.int d8), .val (.ref a), .unset, .unset, .unset, .unset, .unset, .unset, .unset, .unset] [(.int (65535 : Int32)), (.int i2), (.int (Int32.ofNat k9)), (.ref a)])) _
        refine XS.iand X72.here hx rfl (hb hby at_253) rfl ?_
        show Steps p.tables e below (T72.setTop (mkF m 254 #[.val (.long i0), .second, .val (.int i1), .val (.int i2), .val (.int i3), .val (.int dd0), .val (.int dd1), .val (.int dd2), .val (.int dd3), .val (.int dd4), .val (.int dd5), .val (.int dd6), .val (.int dd7), .val (.int ss), .val (.int d8), .val (.ref a), .unset, .unset, .unset, .unset, .unset, .unset, .unset, .unset] [(.int (i2 &&& (65535 : Int32))), (.int (Int32.ofNat k9)), (.ref a)])) _
        refine XS.i2c X72.here hx rfl (hb hby at_254) rfl ?_
        show Steps p.tables e below (T72.setTop (mkF m 255 #[.val (.long i0), .second, .val (.int i1), .val (.int i2), .val (.int i3), .val (.int dd0), .val (.int dd1), .val (.int dd2), .val (.int dd3), .val (.int dd4), .val (.int dd5), .val (.int dd6), .val (.int dd7), .val (.int ss), .val (.int d8), .val (.ref a), .unset, .unset, .unset, .unset, .unset, .unset, .unset, .unset] [(.int ((i2 &&& (65535 : Int32)).toUInt32.toUInt16.toUInt32.toInt32)), (.int (Int32.ofNat k9)), (.ref a)])) _
        exact κ)
      have hj9 : (Int32.ofNat k9).toNatClampNeg = k9 := own_clamp (by omega)
      have hi9 : k9 < (own_tab g0 (9)).length := by rw [own_tab_len]; omega
      obtain ⟨cl79, Ar79, q79, S79, M79, H79, G79⟩ := id Va
      have in79 : ¬ ((Int32.ofNat k9) < 0 ∨ cl79.slots.size ≤ ((Int32.ofNat k9)).toNatClampNeg) := inb_of S79 ⟨own_nn (by omega), (own_ltN (j := 9) (by omega) (by omega)).mpr (by omega)⟩
      obtain ⟨T80, h80, X80, e80, W80, st80⟩ := stC X72 hx hZ e72 Ar79 (j := (Int32.ofNat k9)) in79 (g := (mkF m 255 #[.val (.long i0), .second, .val (.int i1), .val (.int i2), .val (.int i3), .val (.int dd0), .val (.int dd1), .val (.int dd2), .val (.int dd3), .val (.int dd4), .val (.int dd5), .val (.int dd6), .val (.int dd7), .val (.int ss), .val (.int d8), .val (.ref a), .unset, .unset, .unset, .unset, .unset, .unset, .unset, .unset] [(.int ((i2 &&& (65535 : Int32)).toUInt32.toUInt16.toUInt32.toInt32)), (.int (Int32.ofNat k9)), (.ref a)])) rfl rfl (hb hby at_255)
      have O0_80 : Old Z n0 h80 := O0_72.wr W80 g_a
      have Kp80 : Keep h0 h80 [] := Kp72.wr W80 (Or.inr sz_a)
      have N80 := Fr.snoc X80 N72 g_a
      have Z80 : n0 ≤ h80.size := Nat.le_trans Z72 (Keep.of_wr W80).1
      have V_a_80 : Arv Z h80 a k36 .char (Int32.ofNat 9) (own_tab (fun x => if x = k9 then nar .char ((i2 &&& (65535 : Int32)).toUInt32.toUInt16.toUInt32.toInt32) else g0 x) (9)) (.int (0 : Int32)) := (own_tab_set g0 9 k9 _) ▸ (Arv.set Ar79 q79 S79 M79 H79 G79 (fits_nar_char _) W80 k9 (by first | rfl | assumption) (by assumption))
      have pre81 := fun τ (κ : Steps p.tables e below (T80.setTop (mkF m 256 #[.val (.long i0), .second, .val (.int i1), .val (.int i2), .val (.int i3), .val (.int dd0), .val (.int dd1), .val (.int dd2), .val (.int dd3), .val (.int dd4), .val (.int dd5), .val (.int dd6), .val (.int dd7), .val (.int ss), .val (.int d8), .val (.ref a), .unset, .unset, .unset, .unset, .unset, .unset, .unset, .unset] [])) τ) => pre78 τ (st80 _ κ)
      exact ⟨T80, h80, _, (fun x => if x = k9 then nar .char ((i2 &&& (65535 : Int32)).toUInt32.toUInt16.toUInt32.toInt32) else g0 x), X80, e80, N80, Z80, Kp80, O0_80, V_a_80, fun j hj => own_ite (fun _ => own_chn _) (fun _ => hc_g0 j hj), pre81⟩
  obtain ⟨T82, h82, lo82, ad, X82, e82, N82, Z82, Kp82, O0_82, Va_82, had, pre82⟩ : ∃ (T82 : State) (h82 : Heap) (lo82 : List Loc) (ad : Int32), Stand p l e room_1 s m #[(.long i0), (.int i1), (.int i2), (.int i3)] below meth c T82 lo82 (1) (9) ∧ T82.heap = h82 ∧ Fr n0 lo82 ∧ n0 ≤ h82.size ∧ Keep h0 h82 [] ∧ (Old Z n0 h82) ∧ (Arv Z h82 a k36 .char (Int32.ofNat 9) (own_tab g 9) (.int (0 : Int32))) ∧ ((own_ok g ∧ ad = 1) ∨ (¬ own_ok g ∧ ad = 0)) ∧ ∀ τ, Steps p.tables e below (T82.setTop (mkF m 356 #[.val (.long i0), .second, .val (.int i1), .val (.int i2), .val (.int i3), .val (.int dd0), .val (.int dd1), .val (.int dd2), .val (.int dd3), .val (.int dd4), .val (.int dd5), .val (.int dd6), .val (.int dd7), .val (.int ss), .val (.int d8), .val (.ref a), .val (.int ad), .unset, .unset, .unset, .unset, .unset, .unset, .unset] [])) τ → Steps p.tables e below (s₁.setTop (entryFrame m #[(.long i0), (.int i1), (.int i2), (.int i3)] maxLocals)) τ := by
    have pre83 := fun τ (κ : Steps p.tables e below (T75.setTop (mkF m 259 #[.val (.long i0), .second, .val (.int i1), .val (.int i2), .val (.int i3), .val (.int dd0), .val (.int dd1), .val (.int dd2), .val (.int dd3), .val (.int dd4), .val (.int dd5), .val (.int dd6), .val (.int dd7), .val (.int ss), .val (.int d8), .val (.ref a), .unset, .unset, .unset, .unset, .unset, .unset, .unset, .unset] [(.int (0 : Int32)), (.ref a)])) τ) => pre75 τ (by
      refine XS.aload X75.here hx rfl (hb hby at_256) rfl rfl ?_
      refine XS.iconst X75.here hx rfl (hb hby at_258) ?_
      show Steps p.tables e below (T75.setTop (mkF m 259 #[.val (.long i0), .second, .val (.int i1), .val (.int i2), .val (.int i3), .val (.int dd0), .val (.int dd1), .val (.int dd2), .val (.int dd3), .val (.int dd4), .val (.int dd5), .val (.int dd6), .val (.int dd7), .val (.int ss), .val (.int d8), .val (.ref a), .unset, .unset, .unset, .unset, .unset, .unset, .unset, .unset] [(.int (0 : Int32)), (.ref a)])) _
      exact κ)
    obtain ⟨cl84, Ar84, -, S84, M84, H84, -⟩ := id Va_75
    have in84 : ¬ ((0 : Int32) < 0 ∨ cl84.slots.size ≤ ((0 : Int32)).toNatClampNeg) := inb_of S84 ⟨by decide, by decide⟩
    have at84 : cl84.slots[((0 : Int32)).toNatClampNeg]? = some (.int (g 0)) := H84.at in84 rfl
    have pre85 := fun τ (κ : Steps p.tables e below (T75.setTop (mkF m 260 #[.val (.long i0), .second, .val (.int i1), .val (.int i2), .val (.int i3), .val (.int dd0), .val (.int dd1), .val (.int dd2), .val (.int dd3), .val (.int dd4), .val (.int dd5), .val (.int dd6), .val (.int dd7), .val (.int ss), .val (.int d8), .val (.ref a), .unset, .unset, .unset, .unset, .unset, .unset, .unset, .unset] [(.int (g 0))])) τ) => pre83 τ (by
      refine X75.caload hx (j := (0 : Int32)) (v := (.int (g 0))) (by rw [e75]; exact Ar84.1) (State.isArrayOf_alike hZ.alike Ar84.2.1) Ar84.2.2 in84 at84 (g := (mkF m 259 #[.val (.long i0), .second, .val (.int i1), .val (.int i2), .val (.int i3), .val (.int dd0), .val (.int dd1), .val (.int dd2), .val (.int dd3), .val (.int dd4), .val (.int dd5), .val (.int dd6), .val (.int dd7), .val (.int ss), .val (.int d8), .val (.ref a), .unset, .unset, .unset, .unset, .unset, .unset, .unset, .unset] [(.int (0 : Int32)), (.ref a)])) rfl rfl (hb hby at_259) _ ?_
      show Steps p.tables e below (T75.setTop (mkF m 260 #[.val (.long i0), .second, .val (.int i1), .val (.int i2), .val (.int i3), .val (.int dd0), .val (.int dd1), .val (.int dd2), .val (.int dd3), .val (.int dd4), .val (.int dd5), .val (.int dd6), .val (.int dd7), .val (.int ss), .val (.int d8), .val (.ref a), .unset, .unset, .unset, .unset, .unset, .unset, .unset, .unset] [(.int (g 0))])) _
      exact κ)
    obtain ⟨_, _, ⟨T86, L86, k86, n86⟩, -, X86, ⟨Lc86, hQ86, l86, y86, z86⟩, st86⟩ := Jvm.LawKit.callS X75 hx (y := (⟨"com/example/docket/docket/core/RsinIsValidPinLaw", "isDig", "(C)Z"⟩ : MethodName)) hown (mvT hZ (hw _ (List.mem_of_getElem? (i := 7) rfl))) (mvT hZ (hw _ (List.mem_of_getElem? (i := 8) rfl))) (mvT hZ (hw _ (List.mem_of_getElem? (i := 2) rfl))) (mvT hZ (hw _ (List.mem_of_getElem? (i := 9) rfl))) (by decide) (backOf (W := 0) (rm2 l Z a0 hw [] (g 0) h75 n0 Z75) hZ (hw _ (List.mem_of_getElem? (i := 9) rfl)) (hw _ (List.mem_of_getElem? (i := 2) rfl)) (Nat.le_of_ble_eq_true rfl) (Nat.le_of_ble_eq_true rfl)) (g := (mkF m 260 #[.val (.long i0), .second, .val (.int i1), .val (.int i2), .val (.int i3), .val (.int dd0), .val (.int dd1), .val (.int dd2), .val (.int dd3), .val (.int dd4), .val (.int dd5), .val (.int dd6), .val (.int dd7), .val (.int ss), .val (.int d8), .val (.ref a), .unset, .unset, .unset, .unset, .unset, .unset, .unset, .unset] [(.int (g 0))])) rfl (by rw [hml]; rfl) (argsL := [(.int (g 0))]) (rest := []) (lenOf pd_17 rfl) rfl (by show 2 * 0 + _ ≤ _; exact Nat.le_of_eq rfl) (hb hby at_260) (fun _ _ => ⟨rfl, e75, (by decide : 1 + 0 ≤ _), (by decide : 9 + 0 ≤ _)⟩)
    dsimp only [Pt.U, Pt.locs, Pt.cells, Pt.slots] at X86 l86 y86 z86 st86 hQ86
    subst l86 y86 z86
    obtain ⟨rfl, Nq86, hh86⟩ := hQ86
    have O0_86 : Old Z n0 T86.heap := by rw [hh86]; exact O0_75
    have Va_86 : Arv Z T86.heap a k36 .char (Int32.ofNat 9) (own_tab g 9) (.int (0 : Int32)) := by rw [hh86]; exact Va_75
    have Z86 : n0 ≤ T86.heap.size := by rw [hh86]; exact Z75
    have Kp86 : Keep h0 T86.heap [] := by rw [hh86]; exact Kp75
    have N86 := Fr.app N75 Nq86
    have pre87 := fun τ (κ : Steps p.tables e below (T86.setTop (mkF m 263 #[.val (.long i0), .second, .val (.int i1), .val (.int i2), .val (.int i3), .val (.int dd0), .val (.int dd1), .val (.int dd2), .val (.int dd3), .val (.int dd4), .val (.int dd5), .val (.int dd6), .val (.int dd7), .val (.int ss), .val (.int d8), .val (.ref a), .unset, .unset, .unset, .unset, .unset, .unset, .unset, .unset] [(.int (if ¬ (g 0) < 48 ∧ ¬ (57 : Int32) < (g 0) then 1 else 0))])) τ) => pre85 τ (st86 _ κ)
    by_cases hd0 : ¬ (g 0) < 48 ∧ ¬ (57 : Int32) < (g 0)
    · have pre88 := fun τ (κ : Steps p.tables e below (T86.setTop (mkF m 269 #[.val (.long i0), .second, .val (.int i1), .val (.int i2), .val (.int i3), .val (.int dd0), .val (.int dd1), .val (.int dd2), .val (.int dd3), .val (.int dd4), .val (.int dd5), .val (.int dd6), .val (.int dd7), .val (.int ss), .val (.int d8), .val (.ref a), .unset, .unset, .unset, .unset, .unset, .unset, .unset, .unset] [(.int (1 : Int32)), (.ref a)])) τ) => pre87 τ (by
        refine XS.ifNo X86.here hx rfl (hb hby at_263) rfl ((if0 _ _).trans (feq (by rw [if_pos hd0]; decide)).1) ?_
        show Steps p.tables e below (T86.setTop (mkF m 266 #[.val (.long i0), .second, .val (.int i1), .val (.int i2), .val (.int i3), .val (.int dd0), .val (.int dd1), .val (.int dd2), .val (.int dd3), .val (.int dd4), .val (.int dd5), .val (.int dd6), .val (.int dd7), .val (.int ss), .val (.int d8), .val (.ref a), .unset, .unset, .unset, .unset, .unset, .unset, .unset, .unset] [])) _
        refine XS.aload X86.here hx rfl (hb hby at_266) rfl rfl ?_
        refine XS.iconst X86.here hx rfl (hb hby at_268) ?_
        show Steps p.tables e below (T86.setTop (mkF m 269 #[.val (.long i0), .second, .val (.int i1), .val (.int i2), .val (.int i3), .val (.int dd0), .val (.int dd1), .val (.int dd2), .val (.int dd3), .val (.int dd4), .val (.int dd5), .val (.int dd6), .val (.int dd7), .val (.int ss), .val (.int d8), .val (.ref a), .unset, .unset, .unset, .unset, .unset, .unset, .unset, .unset] [(.int (1 : Int32)), (.ref a)])) _
        exact κ)
      obtain ⟨cl89, Ar89, -, S89, M89, H89, -⟩ := id Va_86
      have in89 : ¬ ((1 : Int32) < 0 ∨ cl89.slots.size ≤ ((1 : Int32)).toNatClampNeg) := inb_of S89 ⟨by decide, by decide⟩
      have at89 : cl89.slots[((1 : Int32)).toNatClampNeg]? = some (.int (g 1)) := H89.at in89 rfl
      have pre90 := fun τ (κ : Steps p.tables e below (T86.setTop (mkF m 270 #[.val (.long i0), .second, .val (.int i1), .val (.int i2), .val (.int i3), .val (.int dd0), .val (.int dd1), .val (.int dd2), .val (.int dd3), .val (.int dd4), .val (.int dd5), .val (.int dd6), .val (.int dd7), .val (.int ss), .val (.int d8), .val (.ref a), .unset, .unset, .unset, .unset, .unset, .unset, .unset, .unset] [(.int (g 1))])) τ) => pre88 τ (by
        refine X86.caload hx (j := (1 : Int32)) (v := (.int (g 1))) Ar89.1 (State.isArrayOf_alike hZ.alike Ar89.2.1) Ar89.2.2 in89 at89 (g := (mkF m 269 #[.val (.long i0), .second, .val (.int i1), .val (.int i2), .val (.int i3), .val (.int dd0), .val (.int dd1), .val (.int dd2), .val (.int dd3), .val (.int dd4), .val (.int dd5), .val (.int dd6), .val (.int dd7), .val (.int ss), .val (.int d8), .val (.ref a), .unset, .unset, .unset, .unset, .unset, .unset, .unset, .unset] [(.int (1 : Int32)), (.ref a)])) rfl rfl (hb hby at_269) _ ?_
        show Steps p.tables e below (T86.setTop (mkF m 270 #[.val (.long i0), .second, .val (.int i1), .val (.int i2), .val (.int i3), .val (.int dd0), .val (.int dd1), .val (.int dd2), .val (.int dd3), .val (.int dd4), .val (.int dd5), .val (.int dd6), .val (.int dd7), .val (.int ss), .val (.int d8), .val (.ref a), .unset, .unset, .unset, .unset, .unset, .unset, .unset, .unset] [(.int (g 1))])) _
        exact κ)
      obtain ⟨_, _, ⟨T91, L91, k91, n91⟩, -, X91, ⟨Lc91, hQ91, l91, y91, z91⟩, st91⟩ := Jvm.LawKit.callS X86 hx (y := (⟨"com/example/docket/docket/core/RsinIsValidPinLaw", "isDig", "(C)Z"⟩ : MethodName)) hown (mvT hZ (hw _ (List.mem_of_getElem? (i := 7) rfl))) (mvT hZ (hw _ (List.mem_of_getElem? (i := 8) rfl))) (mvT hZ (hw _ (List.mem_of_getElem? (i := 2) rfl))) (mvT hZ (hw _ (List.mem_of_getElem? (i := 9) rfl))) (by decide) (backOf (W := 0) (rm2 l Z a0 hw [] (g 1) T86.heap n0 Z86) hZ (hw _ (List.mem_of_getElem? (i := 9) rfl)) (hw _ (List.mem_of_getElem? (i := 2) rfl)) (Nat.le_of_ble_eq_true rfl) (Nat.le_of_ble_eq_true rfl)) (g := (mkF m 270 #[.val (.long i0), .second, .val (.int i1), .val (.int i2), .val (.int i3), .val (.int dd0), .val (.int dd1), .val (.int dd2), .val (.int dd3), .val (.int dd4), .val (.int dd5), .val (.int dd6), .val (.int dd7), .val (.int ss), .val (.int d8), .val (.ref a), .unset, .unset, .unset, .unset, .unset, .unset, .unset, .unset] [(.int (g 1))])) rfl (by rw [hml]; rfl) (argsL := [(.int (g 1))]) (rest := []) (lenOf pd_17 rfl) rfl (by show 2 * 0 + _ ≤ _; exact Nat.le_of_eq rfl) (hb hby at_270) (fun _ _ => ⟨rfl, rfl, (by decide : 1 + 0 ≤ _), (by decide : 9 + 0 ≤ _)⟩)
      dsimp only [Pt.U, Pt.locs, Pt.cells, Pt.slots] at X91 l91 y91 z91 st91 hQ91
      subst l91 y91 z91
      obtain ⟨rfl, Nq91, hh91⟩ := hQ91
      have O0_91 : Old Z n0 T91.heap := by rw [hh91]; exact O0_86
      have Va_91 : Arv Z T91.heap a k36 .char (Int32.ofNat 9) (own_tab g 9) (.int (0 : Int32)) := by rw [hh91]; exact Va_86
      have Z91 : n0 ≤ T91.heap.size := by rw [hh91]; exact Z86
      have Kp91 : Keep h0 T91.heap [] := by rw [hh91]; exact Kp86
      have N91 := Fr.app N86 Nq91
      have pre92 := fun τ (κ : Steps p.tables e below (T91.setTop (mkF m 273 #[.val (.long i0), .second, .val (.int i1), .val (.int i2), .val (.int i3), .val (.int dd0), .val (.int dd1), .val (.int dd2), .val (.int dd3), .val (.int dd4), .val (.int dd5), .val (.int dd6), .val (.int dd7), .val (.int ss), .val (.int d8), .val (.ref a), .unset, .unset, .unset, .unset, .unset, .unset, .unset, .unset] [(.int (if ¬ (g 1) < 48 ∧ ¬ (57 : Int32) < (g 1) then 1 else 0))])) τ) => pre90 τ (st91 _ κ)
      by_cases hd1 : ¬ (g 1) < 48 ∧ ¬ (57 : Int32) < (g 1)
      · have pre93 := fun τ (κ : Steps p.tables e below (T91.setTop (mkF m 279 #[.val (.long i0), .second, .val (.int i1), .val (.int i2), .val (.int i3), .val (.int dd0), .val (.int dd1), .val (.int dd2), .val (.int dd3), .val (.int dd4), .val (.int dd5), .val (.int dd6), .val (.int dd7), .val (.int ss), .val (.int d8), .val (.ref a), .unset, .unset, .unset, .unset, .unset, .unset, .unset, .unset] [(.int (2 : Int32)), (.ref a)])) τ) => pre92 τ (by
          refine XS.ifNo X91.here hx rfl (hb hby at_273) rfl ((if0 _ _).trans (feq (by rw [if_pos hd1]; decide)).1) ?_
          show Steps p.tables e below (T91.setTop (mkF m 276 #[.val (.long i0), .second, .val (.int i1), .val (.int i2), .val (.int i3), .val (.int dd0), .val (.int dd1), .val (.int dd2), .val (.int dd3), .val (.int dd4), .val (.int dd5), .val (.int dd6), .val (.int dd7), .val (.int ss), .val (.int d8), .val (.ref a), .unset, .unset, .unset, .unset, .unset, .unset, .unset, .unset] [])) _
          refine XS.aload X91.here hx rfl (hb hby at_276) rfl rfl ?_
          refine XS.iconst X91.here hx rfl (hb hby at_278) ?_
          show Steps p.tables e below (T91.setTop (mkF m 279 #[.val (.long i0), .second, .val (.int i1), .val (.int i2), .val (.int i3), .val (.int dd0), .val (.int dd1), .val (.int dd2), .val (.int dd3), .val (.int dd4), .val (.int dd5), .val (.int dd6), .val (.int dd7), .val (.int ss), .val (.int d8), .val (.ref a), .unset, .unset, .unset, .unset, .unset, .unset, .unset, .unset] [(.int (2 : Int32)), (.ref a)])) _
          exact κ)
        obtain ⟨cl94, Ar94, -, S94, M94, H94, -⟩ := id Va_91
        have in94 : ¬ ((2 : Int32) < 0 ∨ cl94.slots.size ≤ ((2 : Int32)).toNatClampNeg) := inb_of S94 ⟨by decide, by decide⟩
        have at94 : cl94.slots[((2 : Int32)).toNatClampNeg]? = some (.int (g 2)) := H94.at in94 rfl
        have pre95 := fun τ (κ : Steps p.tables e below (T91.setTop (mkF m 280 #[.val (.long i0), .second, .val (.int i1), .val (.int i2), .val (.int i3), .val (.int dd0), .val (.int dd1), .val (.int dd2), .val (.int dd3), .val (.int dd4), .val (.int dd5), .val (.int dd6), .val (.int dd7), .val (.int ss), .val (.int d8), .val (.ref a), .unset, .unset, .unset, .unset, .unset, .unset, .unset, .unset] [(.int (g 2))])) τ) => pre93 τ (by
          refine X91.caload hx (j := (2 : Int32)) (v := (.int (g 2))) Ar94.1 (State.isArrayOf_alike hZ.alike Ar94.2.1) Ar94.2.2 in94 at94 (g := (mkF m 279 #[.val (.long i0), .second, .val (.int i1), .val (.int i2), .val (.int i3), .val (.int dd0), .val (.int dd1), .val (.int dd2), .val (.int dd3), .val (.int dd4), .val (.int dd5), .val (.int dd6), .val (.int dd7), .val (.int ss), .val (.int d8), .val (.ref a), .unset, .unset, .unset, .unset, .unset, .unset, .unset, .unset] [(.int (2 : Int32)), (.ref a)])) rfl rfl (hb hby at_279) _ ?_
          show Steps p.tables e below (T91.setTop (mkF m 280 #[.val (.long i0), .second, .val (.int i1), .val (.int i2), .val (.int i3), .val (.int dd0), .val (.int dd1), .val (.int dd2), .val (.int dd3), .val (.int dd4), .val (.int dd5), .val (.int dd6), .val (.int dd7), .val (.int ss), .val (.int d8), .val (.ref a), .unset, .unset, .unset, .unset, .unset, .unset, .unset, .unset] [(.int (g 2))])) _
          exact κ)
        obtain ⟨_, _, ⟨T96, L96, k96, n96⟩, -, X96, ⟨Lc96, hQ96, l96, y96, z96⟩, st96⟩ := Jvm.LawKit.callS X91 hx (y := (⟨"com/example/docket/docket/core/RsinIsValidPinLaw", "isDig", "(C)Z"⟩ : MethodName)) hown (mvT hZ (hw _ (List.mem_of_getElem? (i := 7) rfl))) (mvT hZ (hw _ (List.mem_of_getElem? (i := 8) rfl))) (mvT hZ (hw _ (List.mem_of_getElem? (i := 2) rfl))) (mvT hZ (hw _ (List.mem_of_getElem? (i := 9) rfl))) (by decide) (backOf (W := 0) (rm2 l Z a0 hw [] (g 2) T91.heap n0 Z91) hZ (hw _ (List.mem_of_getElem? (i := 9) rfl)) (hw _ (List.mem_of_getElem? (i := 2) rfl)) (Nat.le_of_ble_eq_true rfl) (Nat.le_of_ble_eq_true rfl)) (g := (mkF m 280 #[.val (.long i0), .second, .val (.int i1), .val (.int i2), .val (.int i3), .val (.int dd0), .val (.int dd1), .val (.int dd2), .val (.int dd3), .val (.int dd4), .val (.int dd5), .val (.int dd6), .val (.int dd7), .val (.int ss), .val (.int d8), .val (.ref a), .unset, .unset, .unset, .unset, .unset, .unset, .unset, .unset] [(.int (g 2))])) rfl (by rw [hml]; rfl) (argsL := [(.int (g 2))]) (rest := []) (lenOf pd_17 rfl) rfl (by show 2 * 0 + _ ≤ _; exact Nat.le_of_eq rfl) (hb hby at_280) (fun _ _ => ⟨rfl, rfl, (by decide : 1 + 0 ≤ _), (by decide : 9 + 0 ≤ _)⟩)
        dsimp only [Pt.U, Pt.locs, Pt.cells, Pt.slots] at X96 l96 y96 z96 st96 hQ96
        subst l96 y96 z96
        obtain ⟨rfl, Nq96, hh96⟩ := hQ96
        have O0_96 : Old Z n0 T96.heap := by rw [hh96]; exact O0_91
        have Va_96 : Arv Z T96.heap a k36 .char (Int32.ofNat 9) (own_tab g 9) (.int (0 : Int32)) := by rw [hh96]; exact Va_91
        have Z96 : n0 ≤ T96.heap.size := by rw [hh96]; exact Z91
        have Kp96 : Keep h0 T96.heap [] := by rw [hh96]; exact Kp91
        have N96 := Fr.app N91 Nq96
        have pre97 := fun τ (κ : Steps p.tables e below (T96.setTop (mkF m 283 #[.val (.long i0), .second, .val (.int i1), .val (.int i2), .val (.int i3), .val (.int dd0), .val (.int dd1), .val (.int dd2), .val (.int dd3), .val (.int dd4), .val (.int dd5), .val (.int dd6), .val (.int dd7), .val (.int ss), .val (.int d8), .val (.ref a), .unset, .unset, .unset, .unset, .unset, .unset, .unset, .unset] [(.int (if ¬ (g 2) < 48 ∧ ¬ (57 : Int32) < (g 2) then 1 else 0))])) τ) => pre95 τ (st96 _ κ)
        by_cases hd2 : ¬ (g 2) < 48 ∧ ¬ (57 : Int32) < (g 2)
        · have pre98 := fun τ (κ : Steps p.tables e below (T96.setTop (mkF m 289 #[.val (.long i0), .second, .val (.int i1), .val (.int i2), .val (.int i3), .val (.int dd0), .val (.int dd1), .val (.int dd2), .val (.int dd3), .val (.int dd4), .val (.int dd5), .val (.int dd6), .val (.int dd7), .val (.int ss), .val (.int d8), .val (.ref a), .unset, .unset, .unset, .unset, .unset, .unset, .unset, .unset] [(.int (3 : Int32)), (.ref a)])) τ) => pre97 τ (by
            refine XS.ifNo X96.here hx rfl (hb hby at_283) rfl ((if0 _ _).trans (feq (by rw [if_pos hd2]; decide)).1) ?_
            show Steps p.tables e below (T96.setTop (mkF m 286 #[.val (.long i0), .second, .val (.int i1), .val (.int i2), .val (.int i3), .val (.int dd0), .val (.int dd1), .val (.int dd2), .val (.int dd3), .val (.int dd4), .val (.int dd5), .val (.int dd6), .val (.int dd7), .val (.int ss), .val (.int d8), .val (.ref a), .unset, .unset, .unset, .unset, .unset, .unset, .unset, .unset] [])) _
            refine XS.aload X96.here hx rfl (hb hby at_286) rfl rfl ?_
            refine XS.iconst X96.here hx rfl (hb hby at_288) ?_
            show Steps p.tables e below (T96.setTop (mkF m 289 #[.val (.long i0), .second, .val (.int i1), .val (.int i2), .val (.int i3), .val (.int dd0), .val (.int dd1), .val (.int dd2), .val (.int dd3), .val (.int dd4), .val (.int dd5), .val (.int dd6), .val (.int dd7), .val (.int ss), .val (.int d8), .val (.ref a), .unset, .unset, .unset, .unset, .unset, .unset, .unset, .unset] [(.int (3 : Int32)), (.ref a)])) _
            exact κ)
          obtain ⟨cl99, Ar99, -, S99, M99, H99, -⟩ := id Va_96
          have in99 : ¬ ((3 : Int32) < 0 ∨ cl99.slots.size ≤ ((3 : Int32)).toNatClampNeg) := inb_of S99 ⟨by decide, by decide⟩
          have at99 : cl99.slots[((3 : Int32)).toNatClampNeg]? = some (.int (g 3)) := H99.at in99 rfl
          have pre100 := fun τ (κ : Steps p.tables e below (T96.setTop (mkF m 290 #[.val (.long i0), .second, .val (.int i1), .val (.int i2), .val (.int i3), .val (.int dd0), .val (.int dd1), .val (.int dd2), .val (.int dd3), .val (.int dd4), .val (.int dd5), .val (.int dd6), .val (.int dd7), .val (.int ss), .val (.int d8), .val (.ref a), .unset, .unset, .unset, .unset, .unset, .unset, .unset, .unset] [(.int (g 3))])) τ) => pre98 τ (by
            refine X96.caload hx (j := (3 : Int32)) (v := (.int (g 3))) Ar99.1 (State.isArrayOf_alike hZ.alike Ar99.2.1) Ar99.2.2 in99 at99 (g := (mkF m 289 #[.val (.long i0), .second, .val (.int i1), .val (.int i2), .val (.int i3), .val (.int dd0), .val (.int dd1), .val (.int dd2), .val (.int dd3), .val (.int dd4), .val (.int dd5), .val (.int dd6), .val (.int dd7), .val (.int ss), .val (.int d8), .val (.ref a), .unset, .unset, .unset, .unset, .unset, .unset, .unset, .unset] [(.int (3 : Int32)), (.ref a)])) rfl rfl (hb hby at_289) _ ?_
            show Steps p.tables e below (T96.setTop (mkF m 290 #[.val (.long i0), .second, .val (.int i1), .val (.int i2), .val (.int i3), .val (.int dd0), .val (.int dd1), .val (.int dd2), .val (.int dd3), .val (.int dd4), .val (.int dd5), .val (.int dd6), .val (.int dd7), .val (.int ss), .val (.int d8), .val (.ref a), .unset, .unset, .unset, .unset, .unset, .unset, .unset, .unset] [(.int (g 3))])) _
            exact κ)
          obtain ⟨_, _, ⟨T101, L101, k101, n101⟩, -, X101, ⟨Lc101, hQ101, l101, y101, z101⟩, st101⟩ := Jvm.LawKit.callS X96 hx (y := (⟨"com/example/docket/docket/core/RsinIsValidPinLaw", "isDig", "(C)Z"⟩ : MethodName)) hown (mvT hZ (hw _ (List.mem_of_getElem? (i := 7) rfl))) (mvT hZ (hw _ (List.mem_of_getElem? (i := 8) rfl))) (mvT hZ (hw _ (List.mem_of_getElem? (i := 2) rfl))) (mvT hZ (hw _ (List.mem_of_getElem? (i := 9) rfl))) (by decide) (backOf (W := 0) (rm2 l Z a0 hw [] (g 3) T96.heap n0 Z96) hZ (hw _ (List.mem_of_getElem? (i := 9) rfl)) (hw _ (List.mem_of_getElem? (i := 2) rfl)) (Nat.le_of_ble_eq_true rfl) (Nat.le_of_ble_eq_true rfl)) (g := (mkF m 290 #[.val (.long i0), .second, .val (.int i1), .val (.int i2), .val (.int i3), .val (.int dd0), .val (.int dd1), .val (.int dd2), .val (.int dd3), .val (.int dd4), .val (.int dd5), .val (.int dd6), .val (.int dd7), .val (.int ss), .val (.int d8), .val (.ref a), .unset, .unset, .unset, .unset, .unset, .unset, .unset, .unset] [(.int (g 3))])) rfl (by rw [hml]; rfl) (argsL := [(.int (g 3))]) (rest := []) (lenOf pd_17 rfl) rfl (by show 2 * 0 + _ ≤ _; exact Nat.le_of_eq rfl) (hb hby at_290) (fun _ _ => ⟨rfl, rfl, (by decide : 1 + 0 ≤ _), (by decide : 9 + 0 ≤ _)⟩)
          dsimp only [Pt.U, Pt.locs, Pt.cells, Pt.slots] at X101 l101 y101 z101 st101 hQ101
          subst l101 y101 z101
          obtain ⟨rfl, Nq101, hh101⟩ := hQ101
          have O0_101 : Old Z n0 T101.heap := by rw [hh101]; exact O0_96
          have Va_101 : Arv Z T101.heap a k36 .char (Int32.ofNat 9) (own_tab g 9) (.int (0 : Int32)) := by rw [hh101]; exact Va_96
          have Z101 : n0 ≤ T101.heap.size := by rw [hh101]; exact Z96
          have Kp101 : Keep h0 T101.heap [] := by rw [hh101]; exact Kp96
          have N101 := Fr.app N96 Nq101
          have pre102 := fun τ (κ : Steps p.tables e below (T101.setTop (mkF m 293 #[.val (.long i0), .second, .val (.int i1), .val (.int i2), .val (.int i3), .val (.int dd0), .val (.int dd1), .val (.int dd2), .val (.int dd3), .val (.int dd4), .val (.int dd5), .val (.int dd6), .val (.int dd7), .val (.int ss), .val (.int d8), .val (.ref a), .unset, .unset, .unset, .unset, .unset, .unset, .unset, .unset] [(.int (if ¬ (g 3) < 48 ∧ ¬ (57 : Int32) < (g 3) then 1 else 0))])) τ) => pre100 τ (st101 _ κ)
          by_cases hd3 : ¬ (g 3) < 48 ∧ ¬ (57 : Int32) < (g 3)
          · have pre103 := fun τ (κ : Steps p.tables e below (T101.setTop (mkF m 299 #[.val (.long i0), .second, .val (.int i1), .val (.int i2), .val (.int i3), .val (.int dd0), .val (.int dd1), .val (.int dd2), .val (.int dd3), .val (.int dd4), .val (.int dd5), .val (.int dd6), .val (.int dd7), .val (.int ss), .val (.int d8), .val (.ref a), .unset, .unset, .unset, .unset, .unset, .unset, .unset, .unset] [(.int (4 : Int32)), (.ref a)])) τ) => pre102 τ (by
              refine XS.ifNo X101.here hx rfl (hb hby at_293) rfl ((if0 _ _).trans (feq (by rw [if_pos hd3]; decide)).1) ?_
              show Steps p.tables e below (T101.setTop (mkF m 296 #[.val (.long i0), .second, .val (.int i1), .val (.int i2), .val (.int i3), .val (.int dd0), .val (.int dd1), .val (.int dd2), .val (.int dd3), .val (.int dd4), .val (.int dd5), .val (.int dd6), .val (.int dd7), .val (.int ss), .val (.int d8), .val (.ref a), .unset, .unset, .unset, .unset, .unset, .unset, .unset, .unset] [])) _
              refine XS.aload X101.here hx rfl (hb hby at_296) rfl rfl ?_
              refine XS.iconst X101.here hx rfl (hb hby at_298) ?_
              show Steps p.tables e below (T101.setTop (mkF m 299 #[.val (.long i0), .second, .val (.int i1), .val (.int i2), .val (.int i3), .val (.int dd0), .val (.int dd1), .val (.int dd2), .val (.int dd3), .val (.int dd4), .val (.int dd5), .val (.int dd6), .val (.int dd7), .val (.int ss), .val (.int d8), .val (.ref a), .unset, .unset, .unset, .unset, .unset, .unset, .unset, .unset] [(.int (4 : Int32)), (.ref a)])) _
              exact κ)
            obtain ⟨cl104, Ar104, -, S104, M104, H104, -⟩ := id Va_101
            have in104 : ¬ ((4 : Int32) < 0 ∨ cl104.slots.size ≤ ((4 : Int32)).toNatClampNeg) := inb_of S104 ⟨by decide, by decide⟩
            have at104 : cl104.slots[((4 : Int32)).toNatClampNeg]? = some (.int (g 4)) := H104.at in104 rfl
            have pre105 := fun τ (κ : Steps p.tables e below (T101.setTop (mkF m 300 #[.val (.long i0), .second, .val (.int i1), .val (.int i2), .val (.int i3), .val (.int dd0), .val (.int dd1), .val (.int dd2), .val (.int dd3), .val (.int dd4), .val (.int dd5), .val (.int dd6), .val (.int dd7), .val (.int ss), .val (.int d8), .val (.ref a), .unset, .unset, .unset, .unset, .unset, .unset, .unset, .unset] [(.int (g 4))])) τ) => pre103 τ (by
              refine X101.caload hx (j := (4 : Int32)) (v := (.int (g 4))) Ar104.1 (State.isArrayOf_alike hZ.alike Ar104.2.1) Ar104.2.2 in104 at104 (g := (mkF m 299 #[.val (.long i0), .second, .val (.int i1), .val (.int i2), .val (.int i3), .val (.int dd0), .val (.int dd1), .val (.int dd2), .val (.int dd3), .val (.int dd4), .val (.int dd5), .val (.int dd6), .val (.int dd7), .val (.int ss), .val (.int d8), .val (.ref a), .unset, .unset, .unset, .unset, .unset, .unset, .unset, .unset] [(.int (4 : Int32)), (.ref a)])) rfl rfl (hb hby at_299) _ ?_
              show Steps p.tables e below (T101.setTop (mkF m 300 #[.val (.long i0), .second, .val (.int i1), .val (.int i2), .val (.int i3), .val (.int dd0), .val (.int dd1), .val (.int dd2), .val (.int dd3), .val (.int dd4), .val (.int dd5), .val (.int dd6), .val (.int dd7), .val (.int ss), .val (.int d8), .val (.ref a), .unset, .unset, .unset, .unset, .unset, .unset, .unset, .unset] [(.int (g 4))])) _
              exact κ)
            obtain ⟨_, _, ⟨T106, L106, k106, n106⟩, -, X106, ⟨Lc106, hQ106, l106, y106, z106⟩, st106⟩ := Jvm.LawKit.callS X101 hx (y := (⟨"com/example/docket/docket/core/RsinIsValidPinLaw", "isDig", "(C)Z"⟩ : MethodName)) hown (mvT hZ (hw _ (List.mem_of_getElem? (i := 7) rfl))) (mvT hZ (hw _ (List.mem_of_getElem? (i := 8) rfl))) (mvT hZ (hw _ (List.mem_of_getElem? (i := 2) rfl))) (mvT hZ (hw _ (List.mem_of_getElem? (i := 9) rfl))) (by decide) (backOf (W := 0) (rm2 l Z a0 hw [] (g 4) T101.heap n0 Z101) hZ (hw _ (List.mem_of_getElem? (i := 9) rfl)) (hw _ (List.mem_of_getElem? (i := 2) rfl)) (Nat.le_of_ble_eq_true rfl) (Nat.le_of_ble_eq_true rfl)) (g := (mkF m 300 #[.val (.long i0), .second, .val (.int i1), .val (.int i2), .val (.int i3), .val (.int dd0), .val (.int dd1), .val (.int dd2), .val (.int dd3), .val (.int dd4), .val (.int dd5), .val (.int dd6), .val (.int dd7), .val (.int ss), .val (.int d8), .val (.ref a), .unset, .unset, .unset, .unset, .unset, .unset, .unset, .unset] [(.int (g 4))])) rfl (by rw [hml]; rfl) (argsL := [(.int (g 4))]) (rest := []) (lenOf pd_17 rfl) rfl (by show 2 * 0 + _ ≤ _; exact Nat.le_of_eq rfl) (hb hby at_300) (fun _ _ => ⟨rfl, rfl, (by decide : 1 + 0 ≤ _), (by decide : 9 + 0 ≤ _)⟩)
            dsimp only [Pt.U, Pt.locs, Pt.cells, Pt.slots] at X106 l106 y106 z106 st106 hQ106
            subst l106 y106 z106
            obtain ⟨rfl, Nq106, hh106⟩ := hQ106
            have O0_106 : Old Z n0 T106.heap := by rw [hh106]; exact O0_101
            have Va_106 : Arv Z T106.heap a k36 .char (Int32.ofNat 9) (own_tab g 9) (.int (0 : Int32)) := by rw [hh106]; exact Va_101
            have Z106 : n0 ≤ T106.heap.size := by rw [hh106]; exact Z101
            have Kp106 : Keep h0 T106.heap [] := by rw [hh106]; exact Kp101
            have N106 := Fr.app N101 Nq106
            have pre107 := fun τ (κ : Steps p.tables e below (T106.setTop (mkF m 303 #[.val (.long i0), .second, .val (.int i1), .val (.int i2), .val (.int i3), .val (.int dd0), .val (.int dd1), .val (.int dd2), .val (.int dd3), .val (.int dd4), .val (.int dd5), .val (.int dd6), .val (.int dd7), .val (.int ss), .val (.int d8), .val (.ref a), .unset, .unset, .unset, .unset, .unset, .unset, .unset, .unset] [(.int (if ¬ (g 4) < 48 ∧ ¬ (57 : Int32) < (g 4) then 1 else 0))])) τ) => pre105 τ (st106 _ κ)
            by_cases hd4 : ¬ (g 4) < 48 ∧ ¬ (57 : Int32) < (g 4)
            · have pre108 := fun τ (κ : Steps p.tables e below (T106.setTop (mkF m 309 #[.val (.long i0), .second, .val (.int i1), .val (.int i2), .val (.int i3), .val (.int dd0), .val (.int dd1), .val (.int dd2), .val (.int dd3), .val (.int dd4), .val (.int dd5), .val (.int dd6), .val (.int dd7), .val (.int ss), .val (.int d8), .val (.ref a), .unset, .unset, .unset, .unset, .unset, .unset, .unset, .unset] [(.int (5 : Int32)), (.ref a)])) τ) => pre107 τ (by
                refine XS.ifNo X106.here hx rfl (hb hby at_303) rfl ((if0 _ _).trans (feq (by rw [if_pos hd4]; decide)).1) ?_
                show Steps p.tables e below (T106.setTop (mkF m 306 #[.val (.long i0), .second, .val (.int i1), .val (.int i2), .val (.int i3), .val (.int dd0), .val (.int dd1), .val (.int dd2), .val (.int dd3), .val (.int dd4), .val (.int dd5), .val (.int dd6), .val (.int dd7), .val (.int ss), .val (.int d8), .val (.ref a), .unset, .unset, .unset, .unset, .unset, .unset, .unset, .unset] [])) _
                refine XS.aload X106.here hx rfl (hb hby at_306) rfl rfl ?_
                refine XS.iconst X106.here hx rfl (hb hby at_308) ?_
                show Steps p.tables e below (T106.setTop (mkF m 309 #[.val (.long i0), .second, .val (.int i1), .val (.int i2), .val (.int i3), .val (.int dd0), .val (.int dd1), .val (.int dd2), .val (.int dd3), .val (.int dd4), .val (.int dd5), .val (.int dd6), .val (.int dd7), .val (.int ss), .val (.int d8), .val (.ref a), .unset, .unset, .unset, .unset, .unset, .unset, .unset, .unset] [(.int (5 : Int32)), (.ref a)])) _
                exact κ)
              obtain ⟨cl109, Ar109, -, S109, M109, H109, -⟩ := id Va_106
              have in109 : ¬ ((5 : Int32) < 0 ∨ cl109.slots.size ≤ ((5 : Int32)).toNatClampNeg) := inb_of S109 ⟨by decide, by decide⟩
              have at109 : cl109.slots[((5 : Int32)).toNatClampNeg]? = some (.int (g 5)) := H109.at in109 rfl
              have pre110 := fun τ (κ : Steps p.tables e below (T106.setTop (mkF m 310 #[.val (.long i0), .second, .val (.int i1), .val (.int i2), .val (.int i3), .val (.int dd0), .val (.int dd1), .val (.int dd2), .val (.int dd3), .val (.int dd4), .val (.int dd5), .val (.int dd6), .val (.int dd7), .val (.int ss), .val (.int d8), .val (.ref a), .unset, .unset, .unset, .unset, .unset, .unset, .unset, .unset] [(.int (g 5))])) τ) => pre108 τ (by
                refine X106.caload hx (j := (5 : Int32)) (v := (.int (g 5))) Ar109.1 (State.isArrayOf_alike hZ.alike Ar109.2.1) Ar109.2.2 in109 at109 (g := (mkF m 309 #[.val (.long i0), .second, .val (.int i1), .val (.int i2), .val (.int i3), .val (.int dd0), .val (.int dd1), .val (.int dd2), .val (.int dd3), .val (.int dd4), .val (.int dd5), .val (.int dd6), .val (.int dd7), .val (.int ss), .val (.int d8), .val (.ref a), .unset, .unset, .unset, .unset, .unset, .unset, .unset, .unset] [(.int (5 : Int32)), (.ref a)])) rfl rfl (hb hby at_309) _ ?_
                show Steps p.tables e below (T106.setTop (mkF m 310 #[.val (.long i0), .second, .val (.int i1), .val (.int i2), .val (.int i3), .val (.int dd0), .val (.int dd1), .val (.int dd2), .val (.int dd3), .val (.int dd4), .val (.int dd5), .val (.int dd6), .val (.int dd7), .val (.int ss), .val (.int d8), .val (.ref a), .unset, .unset, .unset, .unset, .unset, .unset, .unset, .unset] [(.int (g 5))])) _
                exact κ)
              obtain ⟨_, _, ⟨T111, L111, k111, n111⟩, -, X111, ⟨Lc111, hQ111, l111, y111, z111⟩, st111⟩ := Jvm.LawKit.callS X106 hx (y := (⟨"com/example/docket/docket/core/RsinIsValidPinLaw", "isDig", "(C)Z"⟩ : MethodName)) hown (mvT hZ (hw _ (List.mem_of_getElem? (i := 7) rfl))) (mvT hZ (hw _ (List.mem_of_getElem? (i := 8) rfl))) (mvT hZ (hw _ (List.mem_of_getElem? (i := 2) rfl))) (mvT hZ (hw _ (List.mem_of_getElem? (i := 9) rfl))) (by decide) (backOf (W := 0) (rm2 l Z a0 hw [] (g 5) T106.heap n0 Z106) hZ (hw _ (List.mem_of_getElem? (i := 9) rfl)) (hw _ (List.mem_of_getElem? (i := 2) rfl)) (Nat.le_of_ble_eq_true rfl) (Nat.le_of_ble_eq_true rfl)) (g := (mkF m 310 #[.val (.long i0), .second, .val (.int i1), .val (.int i2), .val (.int i3), .val (.int dd0), .val (.int dd1), .val (.int dd2), .val (.int dd3), .val (.int dd4), .val (.int dd5), .val (.int dd6), .val (.int dd7), .val (.int ss), .val (.int d8), .val (.ref a), .unset, .unset, .unset, .unset, .unset, .unset, .unset, .unset] [(.int (g 5))])) rfl (by rw [hml]; rfl) (argsL := [(.int (g 5))]) (rest := []) (lenOf pd_17 rfl) rfl (by show 2 * 0 + _ ≤ _; exact Nat.le_of_eq rfl) (hb hby at_310) (fun _ _ => ⟨rfl, rfl, (by decide : 1 + 0 ≤ _), (by decide : 9 + 0 ≤ _)⟩)
              dsimp only [Pt.U, Pt.locs, Pt.cells, Pt.slots] at X111 l111 y111 z111 st111 hQ111
              subst l111 y111 z111
              obtain ⟨rfl, Nq111, hh111⟩ := hQ111
              have O0_111 : Old Z n0 T111.heap := by rw [hh111]; exact O0_106
              have Va_111 : Arv Z T111.heap a k36 .char (Int32.ofNat 9) (own_tab g 9) (.int (0 : Int32)) := by rw [hh111]; exact Va_106
              have Z111 : n0 ≤ T111.heap.size := by rw [hh111]; exact Z106
              have Kp111 : Keep h0 T111.heap [] := by rw [hh111]; exact Kp106
              have N111 := Fr.app N106 Nq111
              have pre112 := fun τ (κ : Steps p.tables e below (T111.setTop (mkF m 313 #[.val (.long i0), .second, .val (.int i1), .val (.int i2), .val (.int i3), .val (.int dd0), .val (.int dd1), .val (.int dd2), .val (.int dd3), .val (.int dd4), .val (.int dd5), .val (.int dd6), .val (.int dd7), .val (.int ss), .val (.int d8), .val (.ref a), .unset, .unset, .unset, .unset, .unset, .unset, .unset, .unset] [(.int (if ¬ (g 5) < 48 ∧ ¬ (57 : Int32) < (g 5) then 1 else 0))])) τ) => pre110 τ (st111 _ κ)
              by_cases hd5 : ¬ (g 5) < 48 ∧ ¬ (57 : Int32) < (g 5)
              · have pre113 := fun τ (κ : Steps p.tables e below (T111.setTop (mkF m 320 #[.val (.long i0), .second, .val (.int i1), .val (.int i2), .val (.int i3), .val (.int dd0), .val (.int dd1), .val (.int dd2), .val (.int dd3), .val (.int dd4), .val (.int dd5), .val (.int dd6), .val (.int dd7), .val (.int ss), .val (.int d8), .val (.ref a), .unset, .unset, .unset, .unset, .unset, .unset, .unset, .unset] [(.int (6 : Int32)), (.ref a)])) τ) => pre112 τ (by
                  refine XS.ifNo X111.here hx rfl (hb hby at_313) rfl ((if0 _ _).trans (feq (by rw [if_pos hd5]; decide)).1) ?_
                  show Steps p.tables e below (T111.setTop (mkF m 316 #[.val (.long i0), .second, .val (.int i1), .val (.int i2), .val (.int i3), .val (.int dd0), .val (.int dd1), .val (.int dd2), .val (.int dd3), .val (.int dd4), .val (.int dd5), .val (.int dd6), .val (.int dd7), .val (.int ss), .val (.int d8), .val (.ref a), .unset, .unset, .unset, .unset, .unset, .unset, .unset, .unset] [])) _
                  refine XS.aload X111.here hx rfl (hb hby at_316) rfl rfl ?_
                  refine XS.bipush X111.here hx rfl (hb hby at_318) ?_
                  show Steps p.tables e below (T111.setTop (mkF m 320 #[.val (.long i0), .second, .val (.int i1), .val (.int i2), .val (.int i3), .val (.int dd0), .val (.int dd1), .val (.int dd2), .val (.int dd3), .val (.int dd4), .val (.int dd5), .val (.int dd6), .val (.int dd7), .val (.int ss), .val (.int d8), .val (.ref a), .unset, .unset, .unset, .unset, .unset, .unset, .unset, .unset] [(.int (6 : Int32)), (.ref a)])) _
                  exact κ)
                obtain ⟨cl114, Ar114, -, S114, M114, H114, -⟩ := id Va_111
                have in114 : ¬ ((6 : Int32) < 0 ∨ cl114.slots.size ≤ ((6 : Int32)).toNatClampNeg) := inb_of S114 ⟨by decide, by decide⟩
                have at114 : cl114.slots[((6 : Int32)).toNatClampNeg]? = some (.int (g 6)) := H114.at in114 rfl
                have pre115 := fun τ (κ : Steps p.tables e below (T111.setTop (mkF m 321 #[.val (.long i0), .second, .val (.int i1), .val (.int i2), .val (.int i3), .val (.int dd0), .val (.int dd1), .val (.int dd2), .val (.int dd3), .val (.int dd4), .val (.int dd5), .val (.int dd6), .val (.int dd7), .val (.int ss), .val (.int d8), .val (.ref a), .unset, .unset, .unset, .unset, .unset, .unset, .unset, .unset] [(.int (g 6))])) τ) => pre113 τ (by
                  refine X111.caload hx (j := (6 : Int32)) (v := (.int (g 6))) Ar114.1 (State.isArrayOf_alike hZ.alike Ar114.2.1) Ar114.2.2 in114 at114 (g := (mkF m 320 #[.val (.long i0), .second, .val (.int i1), .val (.int i2), .val (.int i3), .val (.int dd0), .val (.int dd1), .val (.int dd2), .val (.int dd3), .val (.int dd4), .val (.int dd5), .val (.int dd6), .val (.int dd7), .val (.int ss), .val (.int d8), .val (.ref a), .unset, .unset, .unset, .unset, .unset, .unset, .unset, .unset] [(.int (6 : Int32)), (.ref a)])) rfl rfl (hb hby at_320) _ ?_
                  show Steps p.tables e below (T111.setTop (mkF m 321 #[.val (.long i0), .second, .val (.int i1), .val (.int i2), .val (.int i3), .val (.int dd0), .val (.int dd1), .val (.int dd2), .val (.int dd3), .val (.int dd4), .val (.int dd5), .val (.int dd6), .val (.int dd7), .val (.int ss), .val (.int d8), .val (.ref a), .unset, .unset, .unset, .unset, .unset, .unset, .unset, .unset] [(.int (g 6))])) _
                  exact κ)
                obtain ⟨_, _, ⟨T116, L116, k116, n116⟩, -, X116, ⟨Lc116, hQ116, l116, y116, z116⟩, st116⟩ := Jvm.LawKit.callS X111 hx (y := (⟨"com/example/docket/docket/core/RsinIsValidPinLaw", "isDig", "(C)Z"⟩ : MethodName)) hown (mvT hZ (hw _ (List.mem_of_getElem? (i := 7) rfl))) (mvT hZ (hw _ (List.mem_of_getElem? (i := 8) rfl))) (mvT hZ (hw _ (List.mem_of_getElem? (i := 2) rfl))) (mvT hZ (hw _ (List.mem_of_getElem? (i := 9) rfl))) (by decide) (backOf (W := 0) (rm2 l Z a0 hw [] (g 6) T111.heap n0 Z111) hZ (hw _ (List.mem_of_getElem? (i := 9) rfl)) (hw _ (List.mem_of_getElem? (i := 2) rfl)) (Nat.le_of_ble_eq_true rfl) (Nat.le_of_ble_eq_true rfl)) (g := (mkF m 321 #[.val (.long i0), .second, .val (.int i1), .val (.int i2), .val (.int i3), .val (.int dd0), .val (.int dd1), .val (.int dd2), .val (.int dd3), .val (.int dd4), .val (.int dd5), .val (.int dd6), .val (.int dd7), .val (.int ss), .val (.int d8), .val (.ref a), .unset, .unset, .unset, .unset, .unset, .unset, .unset, .unset] [(.int (g 6))])) rfl (by rw [hml]; rfl) (argsL := [(.int (g 6))]) (rest := []) (lenOf pd_17 rfl) rfl (by show 2 * 0 + _ ≤ _; exact Nat.le_of_eq rfl) (hb hby at_321) (fun _ _ => ⟨rfl, rfl, (by decide : 1 + 0 ≤ _), (by decide : 9 + 0 ≤ _)⟩)
                dsimp only [Pt.U, Pt.locs, Pt.cells, Pt.slots] at X116 l116 y116 z116 st116 hQ116
                subst l116 y116 z116
                obtain ⟨rfl, Nq116, hh116⟩ := hQ116
                have O0_116 : Old Z n0 T116.heap := by rw [hh116]; exact O0_111
                have Va_116 : Arv Z T116.heap a k36 .char (Int32.ofNat 9) (own_tab g 9) (.int (0 : Int32)) := by rw [hh116]; exact Va_111
                have Z116 : n0 ≤ T116.heap.size := by rw [hh116]; exact Z111
                have Kp116 : Keep h0 T116.heap [] := by rw [hh116]; exact Kp111
                have N116 := Fr.app N111 Nq116
                have pre117 := fun τ (κ : Steps p.tables e below (T116.setTop (mkF m 324 #[.val (.long i0), .second, .val (.int i1), .val (.int i2), .val (.int i3), .val (.int dd0), .val (.int dd1), .val (.int dd2), .val (.int dd3), .val (.int dd4), .val (.int dd5), .val (.int dd6), .val (.int dd7), .val (.int ss), .val (.int d8), .val (.ref a), .unset, .unset, .unset, .unset, .unset, .unset, .unset, .unset] [(.int (if ¬ (g 6) < 48 ∧ ¬ (57 : Int32) < (g 6) then 1 else 0))])) τ) => pre115 τ (st116 _ κ)
                by_cases hd6 : ¬ (g 6) < 48 ∧ ¬ (57 : Int32) < (g 6)
                · have pre118 := fun τ (κ : Steps p.tables e below (T116.setTop (mkF m 331 #[.val (.long i0), .second, .val (.int i1), .val (.int i2), .val (.int i3), .val (.int dd0), .val (.int dd1), .val (.int dd2), .val (.int dd3), .val (.int dd4), .val (.int dd5), .val (.int dd6), .val (.int dd7), .val (.int ss), .val (.int d8), .val (.ref a), .unset, .unset, .unset, .unset, .unset, .unset, .unset, .unset] [(.int (7 : Int32)), (.ref a)])) τ) => pre117 τ (by
                    refine XS.ifNo X116.here hx rfl (hb hby at_324) rfl ((if0 _ _).trans (feq (by rw [if_pos hd6]; decide)).1) ?_
                    show Steps p.tables e below (T116.setTop (mkF m 327 #[.val (.long i0), .second, .val (.int i1), .val (.int i2), .val (.int i3), .val (.int dd0), .val (.int dd1), .val (.int dd2), .val (.int dd3), .val (.int dd4), .val (.int dd5), .val (.int dd6), .val (.int dd7), .val (.int ss), .val (.int d8), .val (.ref a), .unset, .unset, .unset, .unset, .unset, .unset, .unset, .unset] [])) _
                    refine XS.aload X116.here hx rfl (hb hby at_327) rfl rfl ?_
                    refine XS.bipush X116.here hx rfl (hb hby at_329) ?_
                    show Steps p.tables e below (T116.setTop (mkF m 331 #[.val (.long i0), .second, .val (.int i1), .val (.int i2), .val (.int i3), .val (.int dd0), .val (.int dd1), .val (.int dd2), .val (.int dd3), .val (.int dd4), .val (.int dd5), .val (.int dd6), .val (.int dd7), .val (.int ss), .val (.int d8), .val (.ref a), .unset, .unset, .unset, .unset, .unset, .unset, .unset, .unset] [(.int (7 : Int32)), (.ref a)])) _
                    exact κ)
                  obtain ⟨cl119, Ar119, -, S119, M119, H119, -⟩ := id Va_116
                  have in119 : ¬ ((7 : Int32) < 0 ∨ cl119.slots.size ≤ ((7 : Int32)).toNatClampNeg) := inb_of S119 ⟨by decide, by decide⟩
                  have at119 : cl119.slots[((7 : Int32)).toNatClampNeg]? = some (.int (g 7)) := H119.at in119 rfl
                  have pre120 := fun τ (κ : Steps p.tables e below (T116.setTop (mkF m 332 #[.val (.long i0), .second, .val (.int i1), .val (.int i2), .val (.int i3), .val (.int dd0), .val (.int dd1), .val (.int dd2), .val (.int dd3), .val (.int dd4), .val (.int dd5), .val (.int dd6), .val (.int dd7), .val (.int ss), .val (.int d8), .val (.ref a), .unset, .unset, .unset, .unset, .unset, .unset, .unset, .unset] [(.int (g 7))])) τ) => pre118 τ (by
                    refine X116.caload hx (j := (7 : Int32)) (v := (.int (g 7))) Ar119.1 (State.isArrayOf_alike hZ.alike Ar119.2.1) Ar119.2.2 in119 at119 (g := (mkF m 331 #[.val (.long i0), .second, .val (.int i1), .val (.int i2), .val (.int i3), .val (.int dd0), .val (.int dd1), .val (.int dd2), .val (.int dd3), .val (.int dd4), .val (.int dd5), .val (.int dd6), .val (.int dd7), .val (.int ss), .val (.int d8), .val (.ref a), .unset, .unset, .unset, .unset, .unset, .unset, .unset, .unset] [(.int (7 : Int32)), (.ref a)])) rfl rfl (hb hby at_331) _ ?_
                    show Steps p.tables e below (T116.setTop (mkF m 332 #[.val (.long i0), .second, .val (.int i1), .val (.int i2), .val (.int i3), .val (.int dd0), .val (.int dd1), .val (.int dd2), .val (.int dd3), .val (.int dd4), .val (.int dd5), .val (.int dd6), .val (.int dd7), .val (.int ss), .val (.int d8), .val (.ref a), .unset, .unset, .unset, .unset, .unset, .unset, .unset, .unset] [(.int (g 7))])) _
                    exact κ)
                  obtain ⟨_, _, ⟨T121, L121, k121, n121⟩, -, X121, ⟨Lc121, hQ121, l121, y121, z121⟩, st121⟩ := Jvm.LawKit.callS X116 hx (y := (⟨"com/example/docket/docket/core/RsinIsValidPinLaw", "isDig", "(C)Z"⟩ : MethodName)) hown (mvT hZ (hw _ (List.mem_of_getElem? (i := 7) rfl))) (mvT hZ (hw _ (List.mem_of_getElem? (i := 8) rfl))) (mvT hZ (hw _ (List.mem_of_getElem? (i := 2) rfl))) (mvT hZ (hw _ (List.mem_of_getElem? (i := 9) rfl))) (by decide) (backOf (W := 0) (rm2 l Z a0 hw [] (g 7) T116.heap n0 Z116) hZ (hw _ (List.mem_of_getElem? (i := 9) rfl)) (hw _ (List.mem_of_getElem? (i := 2) rfl)) (Nat.le_of_ble_eq_true rfl) (Nat.le_of_ble_eq_true rfl)) (g := (mkF m 332 #[.val (.long i0), .second, .val (.int i1), .val (.int i2), .val (.int i3), .val (.int dd0), .val (.int dd1), .val (.int dd2), .val (.int dd3), .val (.int dd4), .val (.int dd5), .val (.int dd6), .val (.int dd7), .val (.int ss), .val (.int d8), .val (.ref a), .unset, .unset, .unset, .unset, .unset, .unset, .unset, .unset] [(.int (g 7))])) rfl (by rw [hml]; rfl) (argsL := [(.int (g 7))]) (rest := []) (lenOf pd_17 rfl) rfl (by show 2 * 0 + _ ≤ _; exact Nat.le_of_eq rfl) (hb hby at_332) (fun _ _ => ⟨rfl, rfl, (by decide : 1 + 0 ≤ _), (by decide : 9 + 0 ≤ _)⟩)
                  dsimp only [Pt.U, Pt.locs, Pt.cells, Pt.slots] at X121 l121 y121 z121 st121 hQ121
                  subst l121 y121 z121
                  obtain ⟨rfl, Nq121, hh121⟩ := hQ121
                  have O0_121 : Old Z n0 T121.heap := by rw [hh121]; exact O0_116
                  have Va_121 : Arv Z T121.heap a k36 .char (Int32.ofNat 9) (own_tab g 9) (.int (0 : Int32)) := by rw [hh121]; exact Va_116
                  have Z121 : n0 ≤ T121.heap.size := by rw [hh121]; exact Z116
                  have Kp121 : Keep h0 T121.heap [] := by rw [hh121]; exact Kp116
                  have N121 := Fr.app N116 Nq121
                  have pre122 := fun τ (κ : Steps p.tables e below (T121.setTop (mkF m 335 #[.val (.long i0), .second, .val (.int i1), .val (.int i2), .val (.int i3), .val (.int dd0), .val (.int dd1), .val (.int dd2), .val (.int dd3), .val (.int dd4), .val (.int dd5), .val (.int dd6), .val (.int dd7), .val (.int ss), .val (.int d8), .val (.ref a), .unset, .unset, .unset, .unset, .unset, .unset, .unset, .unset] [(.int (if ¬ (g 7) < 48 ∧ ¬ (57 : Int32) < (g 7) then 1 else 0))])) τ) => pre120 τ (st121 _ κ)
                  by_cases hd7 : ¬ (g 7) < 48 ∧ ¬ (57 : Int32) < (g 7)
                  · have pre123 := fun τ (κ : Steps p.tables e below (T121.setTop (mkF m 342 #[.val (.long i0), .second, .val (.int i1), .val (.int i2), .val (.int i3), .val (.int dd0), .val (.int dd1), .val (.int dd2), .val (.int dd3), .val (.int dd4), .val (.int dd5), .val (.int dd6), .val (.int dd7), .val (.int ss), .val (.int d8), .val (.ref a), .unset, .unset, .unset, .unset, .unset, .unset, .unset, .unset] [(.int (8 : Int32)), (.ref a)])) τ) => pre122 τ (by
                      refine XS.ifNo X121.here hx rfl (hb hby at_335) rfl ((if0 _ _).trans (feq (by rw [if_pos hd7]; decide)).1) ?_
                      show Steps p.tables e below (T121.setTop (mkF m 338 #[.val (.long i0), .second, .val (.int i1), .val (.int i2), .val (.int i3), .val (.int dd0), .val (.int dd1), .val (.int dd2), .val (.int dd3), .val (.int dd4), .val (.int dd5), .val (.int dd6), .val (.int dd7), .val (.int ss), .val (.int d8), .val (.ref a), .unset, .unset, .unset, .unset, .unset, .unset, .unset, .unset] [])) _
                      refine XS.aload X121.here hx rfl (hb hby at_338) rfl rfl ?_
                      refine XS.bipush X121.here hx rfl (hb hby at_340) ?_
                      show Steps p.tables e below (T121.setTop (mkF m 342 #[.val (.long i0), .second, .val (.int i1), .val (.int i2), .val (.int i3), .val (.int dd0), .val (.int dd1), .val (.int dd2), .val (.int dd3), .val (.int dd4), .val (.int dd5), .val (.int dd6), .val (.int dd7), .val (.int ss), .val (.int d8), .val (.ref a), .unset, .unset, .unset, .unset, .unset, .unset, .unset, .unset] [(.int (8 : Int32)), (.ref a)])) _
                      exact κ)
                    obtain ⟨cl124, Ar124, -, S124, M124, H124, -⟩ := id Va_121
                    have in124 : ¬ ((8 : Int32) < 0 ∨ cl124.slots.size ≤ ((8 : Int32)).toNatClampNeg) := inb_of S124 ⟨by decide, by decide⟩
                    have at124 : cl124.slots[((8 : Int32)).toNatClampNeg]? = some (.int (g 8)) := H124.at in124 rfl
                    have pre125 := fun τ (κ : Steps p.tables e below (T121.setTop (mkF m 343 #[.val (.long i0), .second, .val (.int i1), .val (.int i2), .val (.int i3), .val (.int dd0), .val (.int dd1), .val (.int dd2), .val (.int dd3), .val (.int dd4), .val (.int dd5), .val (.int dd6), .val (.int dd7), .val (.int ss), .val (.int d8), .val (.ref a), .unset, .unset, .unset, .unset, .unset, .unset, .unset, .unset] [(.int (g 8))])) τ) => pre123 τ (by
                      refine X121.caload hx (j := (8 : Int32)) (v := (.int (g 8))) Ar124.1 (State.isArrayOf_alike hZ.alike Ar124.2.1) Ar124.2.2 in124 at124 (g := (mkF m 342 #[.val (.long i0), .second, .val (.int i1), .val (.int i2), .val (.int i3), .val (.int dd0), .val (.int dd1), .val (.int dd2), .val (.int dd3), .val (.int dd4), .val (.int dd5), .val (.int dd6), .val (.int dd7), .val (.int ss), .val (.int d8), .val (.ref a), .unset, .unset, .unset, .unset, .unset, .unset, .unset, .unset] [(.int (8 : Int32)), (.ref a)])) rfl rfl (hb hby at_342) _ ?_
                      show Steps p.tables e below (T121.setTop (mkF m 343 #[.val (.long i0), .second, .val (.int i1), .val (.int i2), .val (.int i3), .val (.int dd0), .val (.int dd1), .val (.int dd2), .val (.int dd3), .val (.int dd4), .val (.int dd5), .val (.int dd6), .val (.int dd7), .val (.int ss), .val (.int d8), .val (.ref a), .unset, .unset, .unset, .unset, .unset, .unset, .unset, .unset] [(.int (g 8))])) _
                      exact κ)
                    obtain ⟨_, _, ⟨T126, L126, k126, n126⟩, -, X126, ⟨Lc126, hQ126, l126, y126, z126⟩, st126⟩ := Jvm.LawKit.callS X121 hx (y := (⟨"com/example/docket/docket/core/RsinIsValidPinLaw", "isDig", "(C)Z"⟩ : MethodName)) hown (mvT hZ (hw _ (List.mem_of_getElem? (i := 7) rfl))) (mvT hZ (hw _ (List.mem_of_getElem? (i := 8) rfl))) (mvT hZ (hw _ (List.mem_of_getElem? (i := 2) rfl))) (mvT hZ (hw _ (List.mem_of_getElem? (i := 9) rfl))) (by decide) (backOf (W := 0) (rm2 l Z a0 hw [] (g 8) T121.heap n0 Z121) hZ (hw _ (List.mem_of_getElem? (i := 9) rfl)) (hw _ (List.mem_of_getElem? (i := 2) rfl)) (Nat.le_of_ble_eq_true rfl) (Nat.le_of_ble_eq_true rfl)) (g := (mkF m 343 #[.val (.long i0), .second, .val (.int i1), .val (.int i2), .val (.int i3), .val (.int dd0), .val (.int dd1), .val (.int dd2), .val (.int dd3), .val (.int dd4), .val (.int dd5), .val (.int dd6), .val (.int dd7), .val (.int ss), .val (.int d8), .val (.ref a), .unset, .unset, .unset, .unset, .unset, .unset, .unset, .unset] [(.int (g 8))])) rfl (by rw [hml]; rfl) (argsL := [(.int (g 8))]) (rest := []) (lenOf pd_17 rfl) rfl (by show 2 * 0 + _ ≤ _; exact Nat.le_of_eq rfl) (hb hby at_343) (fun _ _ => ⟨rfl, rfl, (by decide : 1 + 0 ≤ _), (by decide : 9 + 0 ≤ _)⟩)
                    dsimp only [Pt.U, Pt.locs, Pt.cells, Pt.slots] at X126 l126 y126 z126 st126 hQ126
                    subst l126 y126 z126
                    obtain ⟨rfl, Nq126, hh126⟩ := hQ126
                    have O0_126 : Old Z n0 T126.heap := by rw [hh126]; exact O0_121
                    have Va_126 : Arv Z T126.heap a k36 .char (Int32.ofNat 9) (own_tab g 9) (.int (0 : Int32)) := by rw [hh126]; exact Va_121
                    have Z126 : n0 ≤ T126.heap.size := by rw [hh126]; exact Z121
                    have Kp126 : Keep h0 T126.heap [] := by rw [hh126]; exact Kp121
                    have N126 := Fr.app N121 Nq126
                    have pre127 := fun τ (κ : Steps p.tables e below (T126.setTop (mkF m 346 #[.val (.long i0), .second, .val (.int i1), .val (.int i2), .val (.int i3), .val (.int dd0), .val (.int dd1), .val (.int dd2), .val (.int dd3), .val (.int dd4), .val (.int dd5), .val (.int dd6), .val (.int dd7), .val (.int ss), .val (.int d8), .val (.ref a), .unset, .unset, .unset, .unset, .unset, .unset, .unset, .unset] [(.int (if ¬ (g 8) < 48 ∧ ¬ (57 : Int32) < (g 8) then 1 else 0))])) τ) => pre125 τ (st126 _ κ)
                    by_cases hd8 : ¬ (g 8) < 48 ∧ ¬ (57 : Int32) < (g 8)
                    · have pre128 := fun τ (κ : Steps p.tables e below (T126.setTop (mkF m 356 #[.val (.long i0), .second, .val (.int i1), .val (.int i2), .val (.int i3), .val (.int dd0), .val (.int dd1), .val (.int dd2), .val (.int dd3), .val (.int dd4), .val (.int dd5), .val (.int dd6), .val (.int dd7), .val (.int ss), .val (.int d8), .val (.ref a), .val (.int (1 : Int32)), .unset, .unset, .unset, .unset, .unset, .unset, .unset] [])) τ) => pre127 τ (by
                        refine XS.ifNo X126.here hx rfl (hb hby at_346) rfl ((if0 _ _).trans (feq (by rw [if_pos hd8]; decide)).1) ?_
                        show Steps p.tables e below (T126.setTop (mkF m 349 #[.val (.long i0), .second, .val (.int i1), .val (.int i2), .val (.int i3), .val (.int dd0), .val (.int dd1), .val (.int dd2), .val (.int dd3), .val (.int dd4), .val (.int dd5), .val (.int dd6), .val (.int dd7), .val (.int ss), .val (.int d8), .val (.ref a), .unset, .unset, .unset, .unset, .unset, .unset, .unset, .unset] [])) _
                        refine XS.iconst X126.here hx rfl (hb hby at_349) ?_
                        refine XS.goto X126.here hx rfl (pc0 := 350) (pc' := 354) rfl (hb hby at_350) (by decide) (by decide) ?_
                        show Steps p.tables e below (T126.setTop (mkF m 354 #[.val (.long i0), .second, .val (.int i1), .val (.int i2), .val (.int i3), .val (.int dd0), .val (.int dd1), .val (.int dd2), .val (.int dd3), .val (.int dd4), .val (.int dd5), .val (.int dd6), .val (.int dd7), .val (.int ss), .val (.int d8), .val (.ref a), .unset, .unset, .unset, .unset, .unset, .unset, .unset, .unset] [(.int (1 : Int32))])) _
                        refine XS.istore X126.here hx rfl (hb hby at_354) rfl (l' := #[.val (.long i0), .second, .val (.int i1), .val (.int i2), .val (.int i3), .val (.int dd0), .val (.int dd1), .val (.int dd2), .val (.int dd3), .val (.int dd4), .val (.int dd5), .val (.int dd6), .val (.int dd7), .val (.int ss), .val (.int d8), .val (.ref a), .val (.int (1 : Int32)), .unset, .unset, .unset, .unset, .unset, .unset, .unset]) rfl ?_
                        show Steps p.tables e below (T126.setTop (mkF m 356 #[.val (.long i0), .second, .val (.int i1), .val (.int i2), .val (.int i3), .val (.int dd0), .val (.int dd1), .val (.int dd2), .val (.int dd3), .val (.int dd4), .val (.int dd5), .val (.int dd6), .val (.int dd7), .val (.int ss), .val (.int d8), .val (.ref a), .val (.int (1 : Int32)), .unset, .unset, .unset, .unset, .unset, .unset, .unset] [])) _
                        exact κ)
                      exact ⟨T126, T126.heap, _, 1, X126, rfl, N126, Z126, Kp126, O0_126, Va_126, Or.inl ⟨own_ok9 hd0 hd1 hd2 hd3 hd4 hd5 hd6 hd7 hd8, rfl⟩, pre128⟩
                    · have pre129 := fun τ (κ : Steps p.tables e below (T126.setTop (mkF m 356 #[.val (.long i0), .second, .val (.int i1), .val (.int i2), .val (.int i3), .val (.int dd0), .val (.int dd1), .val (.int dd2), .val (.int dd3), .val (.int dd4), .val (.int dd5), .val (.int dd6), .val (.int dd7), .val (.int ss), .val (.int d8), .val (.ref a), .val (.int (0 : Int32)), .unset, .unset, .unset, .unset, .unset, .unset, .unset] [])) τ) => pre127 τ (by
                        refine XS.ifYes X126.here hx rfl (pc0 := 346) (pc' := 353) rfl (hb hby at_346) rfl ((if0 _ _).trans (teq (by rw [if_neg hd8])).1) (by decide) (by decide) ?_
                        show Steps p.tables e below (T126.setTop (mkF m 353 #[.val (.long i0), .second, .val (.int i1), .val (.int i2), .val (.int i3), .val (.int dd0), .val (.int dd1), .val (.int dd2), .val (.int dd3), .val (.int dd4), .val (.int dd5), .val (.int dd6), .val (.int dd7), .val (.int ss), .val (.int d8), .val (.ref a), .unset, .unset, .unset, .unset, .unset, .unset, .unset, .unset] [])) _
                        refine XS.iconst X126.here hx rfl (hb hby at_353) ?_
                        refine XS.istore X126.here hx rfl (hb hby at_354) rfl (l' := #[.val (.long i0), .second, .val (.int i1), .val (.int i2), .val (.int i3), .val (.int dd0), .val (.int dd1), .val (.int dd2), .val (.int dd3), .val (.int dd4), .val (.int dd5), .val (.int dd6), .val (.int dd7), .val (.int ss), .val (.int d8), .val (.ref a), .val (.int (0 : Int32)), .unset, .unset, .unset, .unset, .unset, .unset, .unset]) rfl ?_
                        show Steps p.tables e below (T126.setTop (mkF m 356 #[.val (.long i0), .second, .val (.int i1), .val (.int i2), .val (.int i3), .val (.int dd0), .val (.int dd1), .val (.int dd2), .val (.int dd3), .val (.int dd4), .val (.int dd5), .val (.int dd6), .val (.int dd7), .val (.int ss), .val (.int d8), .val (.ref a), .val (.int (0 : Int32)), .unset, .unset, .unset, .unset, .unset, .unset, .unset] [])) _
                        exact κ)
                      exact ⟨T126, T126.heap, _, 0, X126, rfl, N126, Z126, Kp126, O0_126, Va_126, Or.inr ⟨fun q => hd8 (q 8 (by decide)), rfl⟩, pre129⟩
                  · have pre130 := fun τ (κ : Steps p.tables e below (T121.setTop (mkF m 356 #[.val (.long i0), .second, .val (.int i1), .val (.int i2), .val (.int i3), .val (.int dd0), .val (.int dd1), .val (.int dd2), .val (.int dd3), .val (.int dd4), .val (.int dd5), .val (.int dd6), .val (.int dd7), .val (.int ss), .val (.int d8), .val (.ref a), .val (.int (0 : Int32)), .unset, .unset, .unset, .unset, .unset, .unset, .unset] [])) τ) => pre122 τ (by
                      refine XS.ifYes X121.here hx rfl (pc0 := 335) (pc' := 353) rfl (hb hby at_335) rfl ((if0 _ _).trans (teq (by rw [if_neg hd7])).1) (by decide) (by decide) ?_
                      show Steps p.tables e below (T121.setTop (mkF m 353 #[.val (.long i0), .second, .val (.int i1), .val (.int i2), .val (.int i3), .val (.int dd0), .val (.int dd1), .val (.int dd2), .val (.int dd3), .val (.int dd4), .val (.int dd5), .val (.int dd6), .val (.int dd7), .val (.int ss), .val (.int d8), .val (.ref a), .unset, .unset, .unset, .unset, .unset, .unset, .unset, .unset] [])) _
                      refine XS.iconst X121.here hx rfl (hb hby at_353) ?_
                      refine XS.istore X121.here hx rfl (hb hby at_354) rfl (l' := #[.val (.long i0), .second, .val (.int i1), .val (.int i2), .val (.int i3), .val (.int dd0), .val (.int dd1), .val (.int dd2), .val (.int dd3), .val (.int dd4), .val (.int dd5), .val (.int dd6), .val (.int dd7), .val (.int ss), .val (.int d8), .val (.ref a), .val (.int (0 : Int32)), .unset, .unset, .unset, .unset, .unset, .unset, .unset]) rfl ?_
                      show Steps p.tables e below (T121.setTop (mkF m 356 #[.val (.long i0), .second, .val (.int i1), .val (.int i2), .val (.int i3), .val (.int dd0), .val (.int dd1), .val (.int dd2), .val (.int dd3), .val (.int dd4), .val (.int dd5), .val (.int dd6), .val (.int dd7), .val (.int ss), .val (.int d8), .val (.ref a), .val (.int (0 : Int32)), .unset, .unset, .unset, .unset, .unset, .unset, .unset] [])) _
                      exact κ)
                    exact ⟨T121, T121.heap, _, 0, X121, rfl, N121, Z121, Kp121, O0_121, Va_121, Or.inr ⟨fun q => hd7 (q 7 (by decide)), rfl⟩, pre130⟩
                · have pre131 := fun τ (κ : Steps p.tables e below (T116.setTop (mkF m 356 #[.val (.long i0), .second, .val (.int i1), .val (.int i2), .val (.int i3), .val (.int dd0), .val (.int dd1), .val (.int dd2), .val (.int dd3), .val (.int dd4), .val (.int dd5), .val (.int dd6), .val (.int dd7), .val (.int ss), .val (.int d8), .val (.ref a), .val (.int (0 : Int32)), .unset, .unset, .unset, .unset, .unset, .unset, .unset] [])) τ) => pre117 τ (by
                    refine XS.ifYes X116.here hx rfl (pc0 := 324) (pc' := 353) rfl (hb hby at_324) rfl ((if0 _ _).trans (teq (by rw [if_neg hd6])).1) (by decide) (by decide) ?_
                    show Steps p.tables e below (T116.setTop (mkF m 353 #[.val (.long i0), .second, .val (.int i1), .val (.int i2), .val (.int i3), .val (.int dd0), .val (.int dd1), .val (.int dd2), .val (.int dd3), .val (.int dd4), .val (.int dd5), .val (.int dd6), .val (.int dd7), .val (.int ss), .val (.int d8), .val (.ref a), .unset, .unset, .unset, .unset, .unset, .unset, .unset, .unset] [])) _
                    refine XS.iconst X116.here hx rfl (hb hby at_353) ?_
                    refine XS.istore X116.here hx rfl (hb hby at_354) rfl (l' := #[.val (.long i0), .second, .val (.int i1), .val (.int i2), .val (.int i3), .val (.int dd0), .val (.int dd1), .val (.int dd2), .val (.int dd3), .val (.int dd4), .val (.int dd5), .val (.int dd6), .val (.int dd7), .val (.int ss), .val (.int d8), .val (.ref a), .val (.int (0 : Int32)), .unset, .unset, .unset, .unset, .unset, .unset, .unset]) rfl ?_
                    show Steps p.tables e below (T116.setTop (mkF m 356 #[.val (.long i0), .second, .val (.int i1), .val (.int i2), .val (.int i3), .val (.int dd0), .val (.int dd1), .val (.int dd2), .val (.int dd3), .val (.int dd4), .val (.int dd5), .val (.int dd6), .val (.int dd7), .val (.int ss), .val (.int d8), .val (.ref a), .val (.int (0 : Int32)), .unset, .unset, .unset, .unset, .unset, .unset, .unset] [])) _
                    exact κ)
                  exact ⟨T116, T116.heap, _, 0, X116, rfl, N116, Z116, Kp116, O0_116, Va_116, Or.inr ⟨fun q => hd6 (q 6 (by decide)), rfl⟩, pre131⟩
              · have pre132 := fun τ (κ : Steps p.tables e below (T111.setTop (mkF m 356 #[.val (.long i0), .second, .val (.int i1), .val (.int i2), .val (.int i3), .val (.int dd0), .val (.int dd1), .val (.int dd2), .val (.int dd3), .val (.int dd4), .val (.int dd5), .val (.int dd6), .val (.int dd7), .val (.int ss), .val (.int d8), .val (.ref a), .val (.int (0 : Int32)), .unset, .unset, .unset, .unset, .unset, .unset, .unset] [])) τ) => pre112 τ (by
                  refine XS.ifYes X111.here hx rfl (pc0 := 313) (pc' := 353) rfl (hb hby at_313) rfl ((if0 _ _).trans (teq (by rw [if_neg hd5])).1) (by decide) (by decide) ?_
                  show Steps p.tables e below (T111.setTop (mkF m 353 #[.val (.long i0), .second, .val (.int i1), .val (.int i2), .val (.int i3), .val (.int dd0), .val (.int dd1), .val (.int dd2), .val (.int dd3), .val (.int dd4), .val (.int dd5), .val (.int dd6), .val (.int dd7), .val (.int ss), .val (.int d8), .val (.ref a), .unset, .unset, .unset, .unset, .unset, .unset, .unset, .unset] [])) _
                  refine XS.iconst X111.here hx rfl (hb hby at_353) ?_
                  refine XS.istore X111.here hx rfl (hb hby at_354) rfl (l' := #[.val (.long i0), .second, .val (.int i1), .val (.int i2), .val (.int i3), .val (.int dd0), .val (.int dd1), .val (.int dd2), .val (.int dd3), .val (.int dd4), .val (.int dd5), .val (.int dd6), .val (.int dd7), .val (.int ss), .val (.int d8), .val (.ref a), .val (.int (0 : Int32)), .unset, .unset, .unset, .unset, .unset, .unset, .unset]) rfl ?_
                  show Steps p.tables e below (T111.setTop (mkF m 356 #[.val (.long i0), .second, .val (.int i1), .val (.int i2), .val (.int i3), .val (.int dd0), .val (.int dd1), .val (.int dd2), .val (.int dd3), .val (.int dd4), .val (.int dd5), .val (.int dd6), .val (.int dd7), .val (.int ss), .val (.int d8), .val (.ref a), .val (.int (0 : Int32)), .unset, .unset, .unset, .unset, .unset, .unset, .unset] [])) _
                  exact κ)
                exact ⟨T111, T111.heap, _, 0, X111, rfl, N111, Z111, Kp111, O0_111, Va_111, Or.inr ⟨fun q => hd5 (q 5 (by decide)), rfl⟩, pre132⟩
            · have pre133 := fun τ (κ : Steps p.tables e below (T106.setTop (mkF m 356 #[.val (.long i0), .second, .val (.int i1), .val (.int i2), .val (.int i3), .val (.int dd0), .val (.int dd1), .val (.int dd2), .val (.int dd3), .val (.int dd4), .val (.int dd5), .val (.int dd6), .val (.int dd7), .val (.int ss), .val (.int d8), .val (.ref a), .val (.int (0 : Int32)), .unset, .unset, .unset, .unset, .unset, .unset, .unset] [])) τ) => pre107 τ (by
                refine XS.ifYes X106.here hx rfl (pc0 := 303) (pc' := 353) rfl (hb hby at_303) rfl ((if0 _ _).trans (teq (by rw [if_neg hd4])).1) (by decide) (by decide) ?_
                show Steps p.tables e below (T106.setTop (mkF m 353 #[.val (.long i0), .second, .val (.int i1), .val (.int i2), .val (.int i3), .val (.int dd0), .val (.int dd1), .val (.int dd2), .val (.int dd3), .val (.int dd4), .val (.int dd5), .val (.int dd6), .val (.int dd7), .val (.int ss), .val (.int d8), .val (.ref a), .unset, .unset, .unset, .unset, .unset, .unset, .unset, .unset] [])) _
                refine XS.iconst X106.here hx rfl (hb hby at_353) ?_
                refine XS.istore X106.here hx rfl (hb hby at_354) rfl (l' := #[.val (.long i0), .second, .val (.int i1), .val (.int i2), .val (.int i3), .val (.int dd0), .val (.int dd1), .val (.int dd2), .val (.int dd3), .val (.int dd4), .val (.int dd5), .val (.int dd6), .val (.int dd7), .val (.int ss), .val (.int d8), .val (.ref a), .val (.int (0 : Int32)), .unset, .unset, .unset, .unset, .unset, .unset, .unset]) rfl ?_
                show Steps p.tables e below (T106.setTop (mkF m 356 #[.val (.long i0), .second, .val (.int i1), .val (.int i2), .val (.int i3), .val (.int dd0), .val (.int dd1), .val (.int dd2), .val (.int dd3), .val (.int dd4), .val (.int dd5), .val (.int dd6), .val (.int dd7), .val (.int ss), .val (.int d8), .val (.ref a), .val (.int (0 : Int32)), .unset, .unset, .unset, .unset, .unset, .unset, .unset] [])) _
                exact κ)
              exact ⟨T106, T106.heap, _, 0, X106, rfl, N106, Z106, Kp106, O0_106, Va_106, Or.inr ⟨fun q => hd4 (q 4 (by decide)), rfl⟩, pre133⟩
          · have pre134 := fun τ (κ : Steps p.tables e below (T101.setTop (mkF m 356 #[.val (.long i0), .second, .val (.int i1), .val (.int i2), .val (.int i3), .val (.int dd0), .val (.int dd1), .val (.int dd2), .val (.int dd3), .val (.int dd4), .val (.int dd5), .val (.int dd6), .val (.int dd7), .val (.int ss), .val (.int d8), .val (.ref a), .val (.int (0 : Int32)), .unset, .unset, .unset, .unset, .unset, .unset, .unset] [])) τ) => pre102 τ (by
              refine XS.ifYes X101.here hx rfl (pc0 := 293) (pc' := 353) rfl (hb hby at_293) rfl ((if0 _ _).trans (teq (by rw [if_neg hd3])).1) (by decide) (by decide) ?_
              show Steps p.tables e below (T101.setTop (mkF m 353 #[.val (.long i0), .second, .val (.int i1), .val (.int i2), .val (.int i3), .val (.int dd0), .val (.int dd1), .val (.int dd2), .val (.int dd3), .val (.int dd4), .val (.int dd5), .val (.int dd6), .val (.int dd7), .val (.int ss), .val (.int d8), .val (.ref a), .unset, .unset, .unset, .unset, .unset, .unset, .unset, .unset] [])) _
              refine XS.iconst X101.here hx rfl (hb hby at_353) ?_
              refine XS.istore X101.here hx rfl (hb hby at_354) rfl (l' := #[.val (.long i0), .second, .val (.int i1), .val (.int i2), .val (.int i3), .val (.int dd0), .val (.int dd1), .val (.int dd2), .val (.int dd3), .val (.int dd4), .val (.int dd5), .val (.int dd6), .val (.int dd7), .val (.int ss), .val (.int d8), .val (.ref a), .val (.int (0 : Int32)), .unset, .unset, .unset, .unset, .unset, .unset, .unset]) rfl ?_
              show Steps p.tables e below (T101.setTop (mkF m 356 #[.val (.long i0), .second, .val (.int i1), .val (.int i2), .val (.int i3), .val (.int dd0), .val (.int dd1), .val (.int dd2), .val (.int dd3), .val (.int dd4), .val (.int dd5), .val (.int dd6), .val (.int dd7), .val (.int ss), .val (.int d8), .val (.ref a), .val (.int (0 : Int32)), .unset, .unset, .unset, .unset, .unset, .unset, .unset] [])) _
              exact κ)
            exact ⟨T101, T101.heap, _, 0, X101, rfl, N101, Z101, Kp101, O0_101, Va_101, Or.inr ⟨fun q => hd3 (q 3 (by decide)), rfl⟩, pre134⟩
        · have pre135 := fun τ (κ : Steps p.tables e below (T96.setTop (mkF m 356 #[.val (.long i0), .second, .val (.int i1), .val (.int i2), .val (.int i3), .val (.int dd0), .val (.int dd1), .val (.int dd2), .val (.int dd3), .val (.int dd4), .val (.int dd5), .val (.int dd6), .val (.int dd7), .val (.int ss), .val (.int d8), .val (.ref a), .val (.int (0 : Int32)), .unset, .unset, .unset, .unset, .unset, .unset, .unset] [])) τ) => pre97 τ (by
            refine XS.ifYes X96.here hx rfl (pc0 := 283) (pc' := 353) rfl (hb hby at_283) rfl ((if0 _ _).trans (teq (by rw [if_neg hd2])).1) (by decide) (by decide) ?_
            show Steps p.tables e below (T96.setTop (mkF m 353 #[.val (.long i0), .second, .val (.int i1), .val (.int i2), .val (.int i3), .val (.int dd0), .val (.int dd1), .val (.int dd2), .val (.int dd3), .val (.int dd4), .val (.int dd5), .val (.int dd6), .val (.int dd7), .val (.int ss), .val (.int d8), .val (.ref a), .unset, .unset, .unset, .unset, .unset, .unset, .unset, .unset] [])) _
            refine XS.iconst X96.here hx rfl (hb hby at_353) ?_
            refine XS.istore X96.here hx rfl (hb hby at_354) rfl (l' := #[.val (.long i0), .second, .val (.int i1), .val (.int i2), .val (.int i3), .val (.int dd0), .val (.int dd1), .val (.int dd2), .val (.int dd3), .val (.int dd4), .val (.int dd5), .val (.int dd6), .val (.int dd7), .val (.int ss), .val (.int d8), .val (.ref a), .val (.int (0 : Int32)), .unset, .unset, .unset, .unset, .unset, .unset, .unset]) rfl ?_
            show Steps p.tables e below (T96.setTop (mkF m 356 #[.val (.long i0), .second, .val (.int i1), .val (.int i2), .val (.int i3), .val (.int dd0), .val (.int dd1), .val (.int dd2), .val (.int dd3), .val (.int dd4), .val (.int dd5), .val (.int dd6), .val (.int dd7), .val (.int ss), .val (.int d8), .val (.ref a), .val (.int (0 : Int32)), .unset, .unset, .unset, .unset, .unset, .unset, .unset] [])) _
            exact κ)
          exact ⟨T96, T96.heap, _, 0, X96, rfl, N96, Z96, Kp96, O0_96, Va_96, Or.inr ⟨fun q => hd2 (q 2 (by decide)), rfl⟩, pre135⟩
      · have pre136 := fun τ (κ : Steps p.tables e below (T91.setTop (mkF m 356 #[.val (.long i0), .second, .val (.int i1), .val (.int i2), .val (.int i3), .val (.int dd0), .val (.int dd1), .val (.int dd2), .val (.int dd3), .val (.int dd4), .val (.int dd5), .val (.int dd6), .val (.int dd7), .val (.int ss), .val (.int d8), .val (.ref a), .val (.int (0 : Int32)), .unset, .unset, .unset, .unset, .unset, .unset, .unset] [])) τ) => pre92 τ (by
          refine XS.ifYes X91.here hx rfl (pc0 := 273) (pc' := 353) rfl (hb hby at_273) rfl ((if0 _ _).trans (teq (by rw [if_neg hd1])).1) (by decide) (by decide) ?_
          show Steps p.tables e below (T91.setTop (mkF m 353 #[.val (.long i0), .second, .val (.int i1), .val (.int i2), .val (.int i3), .val (.int dd0), .val (.int dd1), .val (.int dd2), .val (.int dd3), .val (.int dd4), .val (.int dd5), .val (.int dd6), .val (.int dd7), .val (.int ss), .val (.int d8), .val (.ref a), .unset, .unset, .unset, .unset, .unset, .unset, .unset, .unset] [])) _
          refine XS.iconst X91.here hx rfl (hb hby at_353) ?_
          refine XS.istore X91.here hx rfl (hb hby at_354) rfl (l' := #[.val (.long i0), .second, .val (.int i1), .val (.int i2), .val (.int i3), .val (.int dd0), .val (.int dd1), .val (.int dd2), .val (.int dd3), .val (.int dd4), .val (.int dd5), .val (.int dd6), .val (.int dd7), .val (.int ss), .val (.int d8), .val (.ref a), .val (.int (0 : Int32)), .unset, .unset, .unset, .unset, .unset, .unset, .unset]) rfl ?_
          show Steps p.tables e below (T91.setTop (mkF m 356 #[.val (.long i0), .second, .val (.int i1), .val (.int i2), .val (.int i3), .val (.int dd0), .val (.int dd1), .val (.int dd2), .val (.int dd3), .val (.int dd4), .val (.int dd5), .val (.int dd6), .val (.int dd7), .val (.int ss), .val (.int d8), .val (.ref a), .val (.int (0 : Int32)), .unset, .unset, .unset, .unset, .unset, .unset, .unset] [])) _
          exact κ)
        exact ⟨T91, T91.heap, _, 0, X91, rfl, N91, Z91, Kp91, O0_91, Va_91, Or.inr ⟨fun q => hd1 (q 1 (by decide)), rfl⟩, pre136⟩
    · have pre137 := fun τ (κ : Steps p.tables e below (T86.setTop (mkF m 356 #[.val (.long i0), .second, .val (.int i1), .val (.int i2), .val (.int i3), .val (.int dd0), .val (.int dd1), .val (.int dd2), .val (.int dd3), .val (.int dd4), .val (.int dd5), .val (.int dd6), .val (.int dd7), .val (.int ss), .val (.int d8), .val (.ref a), .val (.int (0 : Int32)), .unset, .unset, .unset, .unset, .unset, .unset, .unset] [])) τ) => pre87 τ (by
        refine XS.ifYes X86.here hx rfl (pc0 := 263) (pc' := 353) rfl (hb hby at_263) rfl ((if0 _ _).trans (teq (by rw [if_neg hd0])).1) (by decide) (by decide) ?_
        show Steps p.tables e below (T86.setTop (mkF m 353 #[.val (.long i0), .second, .val (.int i1), .val (.int i2), .val (.int i3), .val (.int dd0), .val (.int dd1), .val (.int dd2), .val (.int dd3), .val (.int dd4), .val (.int dd5), .val (.int dd6), .val (.int dd7), .val (.int ss), .val (.int d8), .val (.ref a), .unset, .unset, .unset, .unset, .unset, .unset, .unset, .unset] [])) _
        refine XS.iconst X86.here hx rfl (hb hby at_353) ?_
        refine XS.istore X86.here hx rfl (hb hby at_354) rfl (l' := #[.val (.long i0), .second, .val (.int i1), .val (.int i2), .val (.int i3), .val (.int dd0), .val (.int dd1), .val (.int dd2), .val (.int dd3), .val (.int dd4), .val (.int dd5), .val (.int dd6), .val (.int dd7), .val (.int ss), .val (.int d8), .val (.ref a), .val (.int (0 : Int32)), .unset, .unset, .unset, .unset, .unset, .unset, .unset]) rfl ?_
        show Steps p.tables e below (T86.setTop (mkF m 356 #[.val (.long i0), .second, .val (.int i1), .val (.int i2), .val (.int i3), .val (.int dd0), .val (.int dd1), .val (.int dd2), .val (.int dd3), .val (.int dd4), .val (.int dd5), .val (.int dd6), .val (.int dd7), .val (.int ss), .val (.int d8), .val (.ref a), .val (.int (0 : Int32)), .unset, .unset, .unset, .unset, .unset, .unset, .unset] [])) _
        exact κ)
      exact ⟨T86, T86.heap, _, 0, X86, rfl, N86, Z86, Kp86, O0_86, Va_86, Or.inr ⟨fun q => hd0 (q 0 (by decide)), rfl⟩, pre137⟩
  have pre138 := fun τ (κ : Steps p.tables e below (T82.setTop (mkF m 358 #[.val (.long i0), .second, .val (.int i1), .val (.int i2), .val (.int i3), .val (.int dd0), .val (.int dd1), .val (.int dd2), .val (.int dd3), .val (.int dd4), .val (.int dd5), .val (.int dd6), .val (.int dd7), .val (.int ss), .val (.int d8), .val (.ref a), .val (.int ad), .unset, .unset, .unset, .unset, .unset, .unset, .unset] [(.int ad)])) τ) => pre82 τ (by
    refine XS.iload X82.here hx rfl (hb hby at_356) rfl ?_
    show Steps p.tables e below (T82.setTop (mkF m 358 #[.val (.long i0), .second, .val (.int i1), .val (.int i2), .val (.int i3), .val (.int dd0), .val (.int dd1), .val (.int dd2), .val (.int dd3), .val (.int dd4), .val (.int dd5), .val (.int dd6), .val (.int dd7), .val (.int ss), .val (.int d8), .val (.ref a), .val (.int ad), .unset, .unset, .unset, .unset, .unset, .unset, .unset] [(.int ad)])) _
    exact κ)
  obtain ⟨T139, h139, lo139, e9, s18, X139, e139, N139, Z139, Kp139, O0_139, Va_139, he9, hs18, pre139⟩ : ∃ (T139 : State) (h139 : Heap) (lo139 : List Loc) (e9 : Int32) (s18 : Slot), Stand p l e room_1 s m #[(.long i0), (.int i1), (.int i2), (.int i3)] below meth c T139 lo139 (1) (9) ∧ T139.heap = h139 ∧ Fr n0 lo139 ∧ n0 ≤ h139.size ∧ Keep h0 h139 [] ∧ (Old Z n0 h139) ∧ (Arv Z h139 a k36 .char (Int32.ofNat 9) (own_tab g 9) (.int (0 : Int32))) ∧ ((¬ own_ok g ∧ e9 = 0) ∨ (own_ok g ∧ e9 = if (g 8) - 48 = own_t g % 11 then 1 else 0)) ∧ (One s18) ∧ ∀ τ, Steps p.tables e below (T139.setTop (mkF m 477 #[.val (.long i0), .second, .val (.int i1), .val (.int i2), .val (.int i3), .val (.int dd0), .val (.int dd1), .val (.int dd2), .val (.int dd3), .val (.int dd4), .val (.int dd5), .val (.int dd6), .val (.int dd7), .val (.int ss), .val (.int d8), .val (.ref a), .val (.int ad), .val (.int e9), s18, .unset, .unset, .unset, .unset, .unset] [])) τ → Steps p.tables e below (s₁.setTop (entryFrame m #[(.long i0), (.int i1), (.int i2), (.int i3)] maxLocals)) τ := by
    by_cases hz : ad = (0 : Int32)
    · have pre140 := fun τ (κ : Steps p.tables e below (T82.setTop (mkF m 477 #[.val (.long i0), .second, .val (.int i1), .val (.int i2), .val (.int i3), .val (.int dd0), .val (.int dd1), .val (.int dd2), .val (.int dd3), .val (.int dd4), .val (.int dd5), .val (.int dd6), .val (.int dd7), .val (.int ss), .val (.int d8), .val (.ref a), .val (.int ad), .val (.int (0 : Int32)), .unset, .unset, .unset, .unset, .unset, .unset] [])) τ) => pre138 τ (by
        refine XS.ifNo X82.here hx rfl (hb hby at_358) rfl ((if0 _ _).trans (teq hz).2) ?_
        show Steps p.tables e below (T82.setTop (mkF m 361 #[.val (.long i0), .second, .val (.int i1), .val (.int i2), .val (.int i3), .val (.int dd0), .val (.int dd1), .val (.int dd2), .val (.int dd3), .val (.int dd4), .val (.int dd5), .val (.int dd6), .val (.int dd7), .val (.int ss), .val (.int d8), .val (.ref a), .val (.int ad), .unset, .unset, .unset, .unset, .unset, .unset, .unset] [])) _
        refine XS.iconst X82.here hx rfl (hb hby at_361) ?_
        refine XS.istore X82.here hx rfl (hb hby at_362) rfl (l' := #[.val (.long i0), .second, .val (.int i1), .val (.int i2), .val (.int i3), .val (.int dd0), .val (.int dd1), .val (.int dd2), .val (.int dd3), .val (.int dd4), .val (.int dd5), .val (.int dd6), .val (.int dd7), .val (.int ss), .val (.int d8), .val (.ref a), .val (.int ad), .val (.int (0 : Int32)), .unset, .unset, .unset, .unset, .unset, .unset]) rfl ?_
        show Steps p.tables e below (T82.setTop (mkF m 364 #[.val (.long i0), .second, .val (.int i1), .val (.int i2), .val (.int i3), .val (.int dd0), .val (.int dd1), .val (.int dd2), .val (.int dd3), .val (.int dd4), .val (.int dd5), .val (.int dd6), .val (.int dd7), .val (.int ss), .val (.int d8), .val (.ref a), .val (.int ad), .val (.int (0 : Int32)), .unset, .unset, .unset, .unset, .unset, .unset] [])) _
        refine XS.goto X82.here hx rfl (pc0 := 364) (pc' := 477) rfl (hb hby at_364) (by decide) (by decide) ?_
        show Steps p.tables e below (T82.setTop (mkF m 477 #[.val (.long i0), .second, .val (.int i1), .val (.int i2), .val (.int i3), .val (.int dd0), .val (.int dd1), .val (.int dd2), .val (.int dd3), .val (.int dd4), .val (.int dd5), .val (.int dd6), .val (.int dd7), .val (.int ss), .val (.int d8), .val (.ref a), .val (.int ad), .val (.int (0 : Int32)), .unset, .unset, .unset, .unset, .unset, .unset] [])) _
        exact κ)
      exact ⟨T82, h82, _, 0, .unset, X82, e82, N82, Z82, Kp82, O0_82, Va_82, Or.inl ⟨own_ad0 had hz, rfl⟩, One.u, pre140⟩
    · have pre141 := fun τ (κ : Steps p.tables e below (T82.setTop (mkF m 372 #[.val (.long i0), .second, .val (.int i1), .val (.int i2), .val (.int i3), .val (.int dd0), .val (.int dd1), .val (.int dd2), .val (.int dd3), .val (.int dd4), .val (.int dd5), .val (.int dd6), .val (.int dd7), .val (.int ss), .val (.int d8), .val (.ref a), .val (.int ad), .unset, .unset, .unset, .unset, .unset, .unset, .unset] [(.int (0 : Int32)), (.ref a), (.int (9 : Int32))])) τ) => pre138 τ (by
        refine XS.ifYes X82.here hx rfl (pc0 := 358) (pc' := 367) rfl (hb hby at_358) rfl ((if0 _ _).trans (feq hz).2) (by decide) (by decide) ?_
        show Steps p.tables e below (T82.setTop (mkF m 367 #[.val (.long i0), .second, .val (.int i1), .val (.int i2), .val (.int i3), .val (.int dd0), .val (.int dd1), .val (.int dd2), .val (.int dd3), .val (.int dd4), .val (.int dd5), .val (.int dd6), .val (.int dd7), .val (.int ss), .val (.int d8), .val (.ref a), .val (.int ad), .unset, .unset, .unset, .unset, .unset, .unset, .unset] [])) _
        refine XS.bipush X82.here hx rfl (hb hby at_367) ?_
        refine XS.aload X82.here hx rfl (hb hby at_369) rfl rfl ?_
        refine XS.iconst X82.here hx rfl (hb hby at_371) ?_
        show Steps p.tables e below (T82.setTop (mkF m 372 #[.val (.long i0), .second, .val (.int i1), .val (.int i2), .val (.int i3), .val (.int dd0), .val (.int dd1), .val (.int dd2), .val (.int dd3), .val (.int dd4), .val (.int dd5), .val (.int dd6), .val (.int dd7), .val (.int ss), .val (.int d8), .val (.ref a), .val (.int ad), .unset, .unset, .unset, .unset, .unset, .unset, .unset] [(.int (0 : Int32)), (.ref a), (.int (9 : Int32))])) _
        exact κ)
      obtain ⟨cl142, Ar142, -, S142, M142, H142, -⟩ := id Va_82
      have in142 : ¬ ((0 : Int32) < 0 ∨ cl142.slots.size ≤ ((0 : Int32)).toNatClampNeg) := inb_of S142 ⟨by decide, by decide⟩
      have at142 : cl142.slots[((0 : Int32)).toNatClampNeg]? = some (.int (g 0)) := H142.at in142 rfl
      have pre143 := fun τ (κ : Steps p.tables e below (T82.setTop (mkF m 382 #[.val (.long i0), .second, .val (.int i1), .val (.int i2), .val (.int i3), .val (.int dd0), .val (.int dd1), .val (.int dd2), .val (.int dd3), .val (.int dd4), .val (.int dd5), .val (.int dd6), .val (.int dd7), .val (.int ss), .val (.int d8), .val (.ref a), .val (.int ad), .unset, .unset, .unset, .unset, .unset, .unset, .unset] [(.int (1 : Int32)), (.ref a), (.int (8 : Int32)), (.int ((9 : Int32) * ((g 0) - (48 : Int32))))])) τ) => pre141 τ (by
        refine X82.caload hx (j := (0 : Int32)) (v := (.int (g 0))) (by rw [e82]; exact Ar142.1) (State.isArrayOf_alike hZ.alike Ar142.2.1) Ar142.2.2 in142 at142 (g := (mkF m 372 #[.val (.long i0), .second, .val (.int i1), .val (.int i2), .val (.int i3), .val (.int dd0), .val (.int dd1), .val (.int dd2), .val (.int dd3), .val (.int dd4), .val (.int dd5), .val (.int dd6), .val (.int dd7), .val (.int ss), .val (.int d8), .val (.ref a), .val (.int ad), .unset, .unset, .unset, .unset, .unset, .unset, .unset] [(.int (0 : Int32)), (.ref a), (.int (9 : Int32))])) rfl rfl (hb hby at_372) _ ?_
        show Steps p.tables e below (T82.setTop (mkF m 373 #[.val (.long i0), .second, .val (.int i1), .val (.int i2), .val (.int i3), .val (.int dd0), .val (.int dd1), .val (.int dd2), .val (.int dd3), .val (.int dd4), .val (.int dd5), .val (.int dd6), .val (.int dd7), .val (.int ss), .val (.int d8), .val (.ref a), .val (.int ad), .unset, .unset, .unset, .unset, .unset, .unset, .unset] [(.int (g 0)), (.int (9 : Int32))])) _
        refine XS.bipush X82.here hx rfl (hb hby at_373) ?_
        refine XS.isub X82.here hx rfl (hb hby at_375) rfl ?_
        show Steps p.tables e below (T82.setTop (mkF m 376 #[.val (.long i0), .second, .val (.int i1), .val (.int i2), .val (.int i3), .val (.int dd0), .val (.int dd1), .val (.int dd2), .val (.int dd3), .val (.int dd4), .val (.int dd5), .val (.int dd6), .val (.int dd7), .val (.int ss), .val (.int d8), .val (.ref a), .val (.int ad), .unset, .unset, .unset, .unset, .unset, .unset, .unset] [(.int ((g 0) - (48 : Int32))), (.int (9 : Int32))])) _
        refine XS.imul X82.here hx rfl (hb hby at_376) rfl ?_
        show Steps p.tables e below (T82.setTop (mkF m 377 #[.val (.long i0), .second, .val (.int i1), .val (.int i2), .val (.int i3), .val (.int dd0), .val (.int dd1), .val (.int dd2), .val (.int dd3), .val (.int dd4), .val (.int dd5), .val (.int dd6), .val (.int dd7), .val (.int ss), .val (.int d8), .val (.ref a), .val (.int ad), .unset, .unset, .unset, .unset, .unset, .unset, .unset] [(.int ((9 : Int32) * ((g 0) - (48 : Int32))))])) _
        refine XS.bipush X82.here hx rfl (hb hby at_377) ?_
        refine XS.aload X82.here hx rfl (hb hby at_379) rfl rfl ?_
        refine XS.iconst X82.here hx rfl (hb hby at_381) ?_
        show Steps p.tables e below (T82.setTop (mkF m 382 #[.val (.long i0), .second, .val (.int i1), .val (.int i2), .val (.int i3), .val (.int dd0), .val (.int dd1), .val (.int dd2), .val (.int dd3), .val (.int dd4), .val (.int dd5), .val (.int dd6), .val (.int dd7), .val (.int ss), .val (.int d8), .val (.ref a), .val (.int ad), .unset, .unset, .unset, .unset, .unset, .unset, .unset] [(.int (1 : Int32)), (.ref a), (.int (8 : Int32)), (.int ((9 : Int32) * ((g 0) - (48 : Int32))))])) _
        exact κ)
      obtain ⟨cl144, Ar144, -, S144, M144, H144, -⟩ := id Va_82
      have in144 : ¬ ((1 : Int32) < 0 ∨ cl144.slots.size ≤ ((1 : Int32)).toNatClampNeg) := inb_of S144 ⟨by decide, by decide⟩
      have at144 : cl144.slots[((1 : Int32)).toNatClampNeg]? = some (.int (g 1)) := H144.at in144 rfl
      have pre145 := fun τ (κ : Steps p.tables e below (T82.setTop (mkF m 393 #[.val (.long i0), .second, .val (.int i1), .val (.int i2), .val (.int i3), .val (.int dd0), .val (.int dd1), .val (.int dd2), .val (.int dd3), .val (.int dd4), .val (.int dd5), .val (.int dd6), .val (.int dd7), .val (.int ss), .val (.int d8), .val (.ref a), .val (.int ad), .unset, .unset, .unset, .unset, .unset, .unset, .unset] [(.int (2 : Int32)), (.ref a), (.int (7 : Int32)), (.int (((9 : Int32) * ((g 0) - (48 : Int32))) + ((8 : Int32) * ((g 1) - (48 : Int32)))))])) τ) => pre143 τ (by
        refine X82.caload hx (j := (1 : Int32)) (v := (.int (g 1))) (by rw [e82]; exact Ar144.1) (State.isArrayOf_alike hZ.alike Ar144.2.1) Ar144.2.2 in144 at144 (g := (mkF m 382 #[.val (.long i0), .second, .val (.int i1), .val (.int i2), .val (.int i3), .val (.int dd0), .val (.int dd1), .val (.int dd2), .val (.int dd3), .val (.int dd4), .val (.int dd5), .val (.int dd6), .val (.int dd7), .val (.int ss), .val (.int d8), .val (.ref a), .val (.int ad), .unset, .unset, .unset, .unset, .unset, .unset, .unset] [(.int (1 : Int32)), (.ref a), (.int (8 : Int32)), (.int ((9 : Int32) * ((g 0) - (48 : Int32))))])) rfl rfl (hb hby at_382) _ ?_
        show Steps p.tables e below (T82.setTop (mkF m 383 #[.val (.long i0), .second, .val (.int i1), .val (.int i2), .val (.int i3), .val (.int dd0), .val (.int dd1), .val (.int dd2), .val (.int dd3), .val (.int dd4), .val (.int dd5), .val (.int dd6), .val (.int dd7), .val (.int ss), .val (.int d8), .val (.ref a), .val (.int ad), .unset, .unset, .unset, .unset, .unset, .unset, .unset] [(.int (g 1)), (.int (8 : Int32)), (.int ((9 : Int32) * ((g 0) - (48 : Int32))))])) _
        refine XS.bipush X82.here hx rfl (hb hby at_383) ?_
        refine XS.isub X82.here hx rfl (hb hby at_385) rfl ?_
        show Steps p.tables e below (T82.setTop (mkF m 386 #[.val (.long i0), .second, .val (.int i1), .val (.int i2), .val (.int i3), .val (.int dd0), .val (.int dd1), .val (.int dd2), .val (.int dd3), .val (.int dd4), .val (.int dd5), .val (.int dd6), .val (.int dd7), .val (.int ss), .val (.int d8), .val (.ref a), .val (.int ad), .unset, .unset, .unset, .unset, .unset, .unset, .unset] [(.int ((g 1) - (48 : Int32))), (.int (8 : Int32)), (.int ((9 : Int32) * ((g 0) - (48 : Int32))))])) _
        refine XS.imul X82.here hx rfl (hb hby at_386) rfl ?_
        show Steps p.tables e below (T82.setTop (mkF m 387 #[.val (.long i0), .second, .val (.int i1), .val (.int i2), .val (.int i3), .val (.int dd0), .val (.int dd1), .val (.int dd2), .val (.int dd3), .val (.int dd4), .val (.int dd5), .val (.int dd6), .val (.int dd7), .val (.int ss), .val (.int d8), .val (.ref a), .val (.int ad), .unset, .unset, .unset, .unset, .unset, .unset, .unset] [(.int ((8 : Int32) * ((g 1) - (48 : Int32)))), (.int ((9 : Int32) * ((g 0) - (48 : Int32))))])) _
        refine XS.iadd X82.here hx rfl (hb hby at_387) rfl ?_
        show Steps p.tables e below (T82.setTop (mkF m 388 #[.val (.long i0), .second, .val (.int i1), .val (.int i2), .val (.int i3), .val (.int dd0), .val (.int dd1), .val (.int dd2), .val (.int dd3), .val (.int dd4), .val (.int dd5), .val (.int dd6), .val (.int dd7), .val (.int ss), .val (.int d8), .val (.ref a), .val (.int ad), .unset, .unset, .unset, .unset, .unset, .unset, .unset] [(.int (((9 : Int32) * ((g 0) - (48 : Int32))) + ((8 : Int32) * ((g 1) - (48 : Int32)))))])) _
        refine XS.bipush X82.here hx rfl (hb hby at_388) ?_
        refine XS.aload X82.here hx rfl (hb hby at_390) rfl rfl ?_
        refine XS.iconst X82.here hx rfl (hb hby at_392) ?_
        show Steps p.tables e below (T82.setTop (mkF m 393 #[.val (.long i0), .second, .val (.int i1), .val (.int i2), .val (.int i3), .val (.int dd0), .val (.int dd1), .val (.int dd2), .val (.int dd3), .val (.int dd4), .val (.int dd5), .val (.int dd6), .val (.int dd7), .val (.int ss), .val (.int d8), .val (.ref a), .val (.int ad), .unset, .unset, .unset, .unset, .unset, .unset, .unset] [(.int (2 : Int32)), (.ref a), (.int (7 : Int32)), (.int (((9 : Int32) * ((g 0) - (48 : Int32))) + ((8 : Int32) * ((g 1) - (48 : Int32)))))])) _
        exact κ)
      obtain ⟨cl146, Ar146, -, S146, M146, H146, -⟩ := id Va_82
      have in146 : ¬ ((2 : Int32) < 0 ∨ cl146.slots.size ≤ ((2 : Int32)).toNatClampNeg) := inb_of S146 ⟨by decide, by decide⟩
      have at146 : cl146.slots[((2 : Int32)).toNatClampNeg]? = some (.int (g 2)) := H146.at in146 rfl
      have pre147 := fun τ (κ : Steps p.tables e below (T82.setTop (mkF m 404 #[.val (.long i0), .second, .val (.int i1), .val (.int i2), .val (.int i3), .val (.int dd0), .val (.int dd1), .val (.int dd2), .val (.int dd3), .val (.int dd4), .val (.int dd5), .val (.int dd6), .val (.int dd7), .val (.int ss), .val (.int d8), .val (.ref a), .val (.int ad), .unset, .unset, .unset, .unset, .unset, .unset, .unset] [(.int (3 : Int32)), (.ref a), (.int (6 : Int32)), (.int ((((9 : Int32) * ((g 0) - (48 : Int32))) + ((8 : Int32) * ((g 1) - (48 : Int32)))) + ((7 : Int32) * ((g 2) - (48 : Int32)))))])) τ) => pre145 τ (by
        refine X82.caload hx (j := (2 : Int32)) (v := (.int (g 2))) (by rw [e82]; exact Ar146.1) (State.isArrayOf_alike hZ.alike Ar146.2.1) Ar146.2.2 in146 at146 (g := (mkF m 393 #[.val (.long i0), .second, .val (.int i1), .val (.int i2), .val (.int i3), .val (.int dd0), .val (.int dd1), .val (.int dd2), .val (.int dd3), .val (.int dd4), .val (.int dd5), .val (.int dd6), .val (.int dd7), .val (.int ss), .val (.int d8), .val (.ref a), .val (.int ad), .unset, .unset, .unset, .unset, .unset, .unset, .unset] [(.int (2 : Int32)), (.ref a), (.int (7 : Int32)), (.int (((9 : Int32) * ((g 0) - (48 : Int32))) + ((8 : Int32) * ((g 1) - (48 : Int32)))))])) rfl rfl (hb hby at_393) _ ?_
        show Steps p.tables e below (T82.setTop (mkF m 394 #[.val (.long i0), .second, .val (.int i1), .val (.int i2), .val (.int i3), .val (.int dd0), .val (.int dd1), .val (.int dd2), .val (.int dd3), .val (.int dd4), .val (.int dd5), .val (.int dd6), .val (.int dd7), .val (.int ss), .val (.int d8), .val (.ref a), .val (.int ad), .unset, .unset, .unset, .unset, .unset, .unset, .unset] [(.int (g 2)), (.int (7 : Int32)), (.int (((9 : Int32) * ((g 0) - (48 : Int32))) + ((8 : Int32) * ((g 1) - (48 : Int32)))))])) _
        refine XS.bipush X82.here hx rfl (hb hby at_394) ?_
        refine XS.isub X82.here hx rfl (hb hby at_396) rfl ?_
        show Steps p.tables e below (T82.setTop (mkF m 397 #[.val (.long i0), .second, .val (.int i1), .val (.int i2), .val (.int i3), .val (.int dd0), .val (.int dd1), .val (.int dd2), .val (.int dd3), .val (.int dd4), .val (.int dd5), .val (.int dd6), .val (.int dd7), .val (.int ss), .val (.int d8), .val (.ref a), .val (.int ad), .unset, .unset, .unset, .unset, .unset, .unset, .unset] [(.int ((g 2) - (48 : Int32))), (.int (7 : Int32)), (.int (((9 : Int32) * ((g 0) - (48 : Int32))) + ((8 : Int32) * ((g 1) - (48 : Int32)))))])) _
        refine XS.imul X82.here hx rfl (hb hby at_397) rfl ?_
        show Steps p.tables e below (T82.setTop (mkF m 398 #[.val (.long i0), .second, .val (.int i1), .val (.int i2), .val (.int i3), .val (.int dd0), .val (.int dd1), .val (.int dd2), .val (.int dd3), .val (.int dd4), .val (.int dd5), .val (.int dd6), .val (.int dd7), .val (.int ss), .val (.int d8), .val (.ref a), .val (.int ad), .unset, .unset, .unset, .unset, .unset, .unset, .unset] [(.int ((7 : Int32) * ((g 2) - (48 : Int32)))), (.int (((9 : Int32) * ((g 0) - (48 : Int32))) + ((8 : Int32) * ((g 1) - (48 : Int32)))))])) _
        refine XS.iadd X82.here hx rfl (hb hby at_398) rfl ?_
        show Steps p.tables e below (T82.setTop (mkF m 399 #[.val (.long i0), .second, .val (.int i1), .val (.int i2), .val (.int i3), .val (.int dd0), .val (.int dd1), .val (.int dd2), .val (.int dd3), .val (.int dd4), .val (.int dd5), .val (.int dd6), .val (.int dd7), .val (.int ss), .val (.int d8), .val (.ref a), .val (.int ad), .unset, .unset, .unset, .unset, .unset, .unset, .unset] [(.int ((((9 : Int32) * ((g 0) - (48 : Int32))) + ((8 : Int32) * ((g 1) - (48 : Int32)))) + ((7 : Int32) * ((g 2) - (48 : Int32)))))])) _
        refine XS.bipush X82.here hx rfl (hb hby at_399) ?_
        refine XS.aload X82.here hx rfl (hb hby at_401) rfl rfl ?_
        refine XS.iconst X82.here hx rfl (hb hby at_403) ?_
        show Steps p.tables e below (T82.setTop (mkF m 404 #[.val (.long i0), .second, .val (.int i1), .val (.int i2), .val (.int i3), .val (.int dd0), .val (.int dd1), .val (.int dd2), .val (.int dd3), .val (.int dd4), .val (.int dd5), .val (.int dd6), .val (.int dd7), .val (.int ss), .val (.int d8), .val (.ref a), .val (.int ad), .unset, .unset, .unset, .unset, .unset, .unset, .unset] [(.int (3 : Int32)), (.ref a), (.int (6 : Int32)), (.int ((((9 : Int32) * ((g 0) - (48 : Int32))) + ((8 : Int32) * ((g 1) - (48 : Int32)))) + ((7 : Int32) * ((g 2) - (48 : Int32)))))])) _
        exact κ)
      obtain ⟨cl148, Ar148, -, S148, M148, H148, -⟩ := id Va_82
      have in148 : ¬ ((3 : Int32) < 0 ∨ cl148.slots.size ≤ ((3 : Int32)).toNatClampNeg) := inb_of S148 ⟨by decide, by decide⟩
      have at148 : cl148.slots[((3 : Int32)).toNatClampNeg]? = some (.int (g 3)) := H148.at in148 rfl
      have pre149 := fun τ (κ : Steps p.tables e below (T82.setTop (mkF m 414 #[.val (.long i0), .second, .val (.int i1), .val (.int i2), .val (.int i3), .val (.int dd0), .val (.int dd1), .val (.int dd2), .val (.int dd3), .val (.int dd4), .val (.int dd5), .val (.int dd6), .val (.int dd7), .val (.int ss), .val (.int d8), .val (.ref a), .val (.int ad), .unset, .unset, .unset, .unset, .unset, .unset, .unset] [(.int (4 : Int32)), (.ref a), (.int (5 : Int32)), (.int (((((9 : Int32) * ((g 0) - (48 : Int32))) + ((8 : Int32) * ((g 1) - (48 : Int32)))) + ((7 : Int32) * ((g 2) - (48 : Int32)))) + ((6 : Int32) * ((g 3) - (48 : Int32)))))])) τ) => pre147 τ (by
        refine X82.caload hx (j := (3 : Int32)) (v := (.int (g 3))) (by rw [e82]; exact Ar148.1) (State.isArrayOf_alike hZ.alike Ar148.2.1) Ar148.2.2 in148 at148 (g := (mkF m 404 #[.val (.long i0), .second, .val (.int i1), .val (.int i2), .val (.int i3), .val (.int dd0), .val (.int dd1), .val (.int dd2), .val (.int dd3), .val (.int dd4), .val (.int dd5), .val (.int dd6), .val (.int dd7), .val (.int ss), .val (.int d8), .val (.ref a), .val (.int ad), .unset, .unset, .unset, .unset, .unset, .unset, .unset] [(.int (3 : Int32)), (.ref a), (.int (6 : Int32)), (.int ((((9 : Int32) * ((g 0) - (48 : Int32))) + ((8 : Int32) * ((g 1) - (48 : Int32)))) + ((7 : Int32) * ((g 2) - (48 : Int32)))))])) rfl rfl (hb hby at_404) _ ?_
        show Steps p.tables e below (T82.setTop (mkF m 405 #[.val (.long i0), .second, .val (.int i1), .val (.int i2), .val (.int i3), .val (.int dd0), .val (.int dd1), .val (.int dd2), .val (.int dd3), .val (.int dd4), .val (.int dd5), .val (.int dd6), .val (.int dd7), .val (.int ss), .val (.int d8), .val (.ref a), .val (.int ad), .unset, .unset, .unset, .unset, .unset, .unset, .unset] [(.int (g 3)), (.int (6 : Int32)), (.int ((((9 : Int32) * ((g 0) - (48 : Int32))) + ((8 : Int32) * ((g 1) - (48 : Int32)))) + ((7 : Int32) * ((g 2) - (48 : Int32)))))])) _
        refine XS.bipush X82.here hx rfl (hb hby at_405) ?_
        refine XS.isub X82.here hx rfl (hb hby at_407) rfl ?_
        show Steps p.tables e below (T82.setTop (mkF m 408 #[.val (.long i0), .second, .val (.int i1), .val (.int i2), .val (.int i3), .val (.int dd0), .val (.int dd1), .val (.int dd2), .val (.int dd3), .val (.int dd4), .val (.int dd5), .val (.int dd6), .val (.int dd7), .val (.int ss), .val (.int d8), .val (.ref a), .val (.int ad), .unset, .unset, .unset, .unset, .unset, .unset, .unset] [(.int ((g 3) - (48 : Int32))), (.int (6 : Int32)), (.int ((((9 : Int32) * ((g 0) - (48 : Int32))) + ((8 : Int32) * ((g 1) - (48 : Int32)))) + ((7 : Int32) * ((g 2) - (48 : Int32)))))])) _
        refine XS.imul X82.here hx rfl (hb hby at_408) rfl ?_
        show Steps p.tables e below (T82.setTop (mkF m 409 #[.val (.long i0), .second, .val (.int i1), .val (.int i2), .val (.int i3), .val (.int dd0), .val (.int dd1), .val (.int dd2), .val (.int dd3), .val (.int dd4), .val (.int dd5), .val (.int dd6), .val (.int dd7), .val (.int ss), .val (.int d8), .val (.ref a), .val (.int ad), .unset, .unset, .unset, .unset, .unset, .unset, .unset] [(.int ((6 : Int32) * ((g 3) - (48 : Int32)))), (.int ((((9 : Int32) * ((g 0) - (48 : Int32))) + ((8 : Int32) * ((g 1) - (48 : Int32)))) + ((7 : Int32) * ((g 2) - (48 : Int32)))))])) _
        refine XS.iadd X82.here hx rfl (hb hby at_409) rfl ?_
        show Steps p.tables e below (T82.setTop (mkF m 410 #[.val (.long i0), .second, .val (.int i1), .val (.int i2), .val (.int i3), .val (.int dd0), .val (.int dd1), .val (.int dd2), .val (.int dd3), .val (.int dd4), .val (.int dd5), .val (.int dd6), .val (.int dd7), .val (.int ss), .val (.int d8), .val (.ref a), .val (.int ad), .unset, .unset, .unset, .unset, .unset, .unset, .unset] [(.int (((((9 : Int32) * ((g 0) - (48 : Int32))) + ((8 : Int32) * ((g 1) - (48 : Int32)))) + ((7 : Int32) * ((g 2) - (48 : Int32)))) + ((6 : Int32) * ((g 3) - (48 : Int32)))))])) _
        refine XS.iconst X82.here hx rfl (hb hby at_410) ?_
        refine XS.aload X82.here hx rfl (hb hby at_411) rfl rfl ?_
        refine XS.iconst X82.here hx rfl (hb hby at_413) ?_
        show Steps p.tables e below (T82.setTop (mkF m 414 #[.val (.long i0), .second, .val (.int i1), .val (.int i2), .val (.int i3), .val (.int dd0), .val (.int dd1), .val (.int dd2), .val (.int dd3), .val (.int dd4), .val (.int dd5), .val (.int dd6), .val (.int dd7), .val (.int ss), .val (.int d8), .val (.ref a), .val (.int ad), .unset, .unset, .unset, .unset, .unset, .unset, .unset] [(.int (4 : Int32)), (.ref a), (.int (5 : Int32)), (.int (((((9 : Int32) * ((g 0) - (48 : Int32))) + ((8 : Int32) * ((g 1) - (48 : Int32)))) + ((7 : Int32) * ((g 2) - (48 : Int32)))) + ((6 : Int32) * ((g 3) - (48 : Int32)))))])) _
        exact κ)
      obtain ⟨cl150, Ar150, -, S150, M150, H150, -⟩ := id Va_82
      have in150 : ¬ ((4 : Int32) < 0 ∨ cl150.slots.size ≤ ((4 : Int32)).toNatClampNeg) := inb_of S150 ⟨by decide, by decide⟩
      have at150 : cl150.slots[((4 : Int32)).toNatClampNeg]? = some (.int (g 4)) := H150.at in150 rfl
      have pre151 := fun τ (κ : Steps p.tables e below (T82.setTop (mkF m 424 #[.val (.long i0), .second, .val (.int i1), .val (.int i2), .val (.int i3), .val (.int dd0), .val (.int dd1), .val (.int dd2), .val (.int dd3), .val (.int dd4), .val (.int dd5), .val (.int dd6), .val (.int dd7), .val (.int ss), .val (.int d8), .val (.ref a), .val (.int ad), .unset, .unset, .unset, .unset, .unset, .unset, .unset] [(.int (5 : Int32)), (.ref a), (.int (4 : Int32)), (.int ((((((9 : Int32) * ((g 0) - (48 : Int32))) + ((8 : Int32) * ((g 1) - (48 : Int32)))) + ((7 : Int32) * ((g 2) - (48 : Int32)))) + ((6 : Int32) * ((g 3) - (48 : Int32)))) + ((5 : Int32) * ((g 4) - (48 : Int32)))))])) τ) => pre149 τ (by
        refine X82.caload hx (j := (4 : Int32)) (v := (.int (g 4))) (by rw [e82]; exact Ar150.1) (State.isArrayOf_alike hZ.alike Ar150.2.1) Ar150.2.2 in150 at150 (g := (mkF m 414 #[.val (.long i0), .second, .val (.int i1), .val (.int i2), .val (.int i3), .val (.int dd0), .val (.int dd1), .val (.int dd2), .val (.int dd3), .val (.int dd4), .val (.int dd5), .val (.int dd6), .val (.int dd7), .val (.int ss), .val (.int d8), .val (.ref a), .val (.int ad), .unset, .unset, .unset, .unset, .unset, .unset, .unset] [(.int (4 : Int32)), (.ref a), (.int (5 : Int32)), (.int (((((9 : Int32) * ((g 0) - (48 : Int32))) + ((8 : Int32) * ((g 1) - (48 : Int32)))) + ((7 : Int32) * ((g 2) - (48 : Int32)))) + ((6 : Int32) * ((g 3) - (48 : Int32)))))])) rfl rfl (hb hby at_414) _ ?_
        show Steps p.tables e below (T82.setTop (mkF m 415 #[.val (.long i0), .second, .val (.int i1), .val (.int i2), .val (.int i3), .val (.int dd0), .val (.int dd1), .val (.int dd2), .val (.int dd3), .val (.int dd4), .val (.int dd5), .val (.int dd6), .val (.int dd7), .val (.int ss), .val (.int d8), .val (.ref a), .val (.int ad), .unset, .unset, .unset, .unset, .unset, .unset, .unset] [(.int (g 4)), (.int (5 : Int32)), (.int (((((9 : Int32) * ((g 0) - (48 : Int32))) + ((8 : Int32) * ((g 1) - (48 : Int32)))) + ((7 : Int32) * ((g 2) - (48 : Int32)))) + ((6 : Int32) * ((g 3) - (48 : Int32)))))])) _
        refine XS.bipush X82.here hx rfl (hb hby at_415) ?_
        refine XS.isub X82.here hx rfl (hb hby at_417) rfl ?_
        show Steps p.tables e below (T82.setTop (mkF m 418 #[.val (.long i0), .second, .val (.int i1), .val (.int i2), .val (.int i3), .val (.int dd0), .val (.int dd1), .val (.int dd2), .val (.int dd3), .val (.int dd4), .val (.int dd5), .val (.int dd6), .val (.int dd7), .val (.int ss), .val (.int d8), .val (.ref a), .val (.int ad), .unset, .unset, .unset, .unset, .unset, .unset, .unset] [(.int ((g 4) - (48 : Int32))), (.int (5 : Int32)), (.int (((((9 : Int32) * ((g 0) - (48 : Int32))) + ((8 : Int32) * ((g 1) - (48 : Int32)))) + ((7 : Int32) * ((g 2) - (48 : Int32)))) + ((6 : Int32) * ((g 3) - (48 : Int32)))))])) _
        refine XS.imul X82.here hx rfl (hb hby at_418) rfl ?_
        show Steps p.tables e below (T82.setTop (mkF m 419 #[.val (.long i0), .second, .val (.int i1), .val (.int i2), .val (.int i3), .val (.int dd0), .val (.int dd1), .val (.int dd2), .val (.int dd3), .val (.int dd4), .val (.int dd5), .val (.int dd6), .val (.int dd7), .val (.int ss), .val (.int d8), .val (.ref a), .val (.int ad), .unset, .unset, .unset, .unset, .unset, .unset, .unset] [(.int ((5 : Int32) * ((g 4) - (48 : Int32)))), (.int (((((9 : Int32) * ((g 0) - (48 : Int32))) + ((8 : Int32) * ((g 1) - (48 : Int32)))) + ((7 : Int32) * ((g 2) - (48 : Int32)))) + ((6 : Int32) * ((g 3) - (48 : Int32)))))])) _
        refine XS.iadd X82.here hx rfl (hb hby at_419) rfl ?_
        show Steps p.tables e below (T82.setTop (mkF m 420 #[.val (.long i0), .second, .val (.int i1), .val (.int i2), .val (.int i3), .val (.int dd0), .val (.int dd1), .val (.int dd2), .val (.int dd3), .val (.int dd4), .val (.int dd5), .val (.int dd6), .val (.int dd7), .val (.int ss), .val (.int d8), .val (.ref a), .val (.int ad), .unset, .unset, .unset, .unset, .unset, .unset, .unset] [(.int ((((((9 : Int32) * ((g 0) - (48 : Int32))) + ((8 : Int32) * ((g 1) - (48 : Int32)))) + ((7 : Int32) * ((g 2) - (48 : Int32)))) + ((6 : Int32) * ((g 3) - (48 : Int32)))) + ((5 : Int32) * ((g 4) - (48 : Int32)))))])) _
        refine XS.iconst X82.here hx rfl (hb hby at_420) ?_
        refine XS.aload X82.here hx rfl (hb hby at_421) rfl rfl ?_
        refine XS.iconst X82.here hx rfl (hb hby at_423) ?_
        show Steps p.tables e below (T82.setTop (mkF m 424 #[.val (.long i0), .second, .val (.int i1), .val (.int i2), .val (.int i3), .val (.int dd0), .val (.int dd1), .val (.int dd2), .val (.int dd3), .val (.int dd4), .val (.int dd5), .val (.int dd6), .val (.int dd7), .val (.int ss), .val (.int d8), .val (.ref a), .val (.int ad), .unset, .unset, .unset, .unset, .unset, .unset, .unset] [(.int (5 : Int32)), (.ref a), (.int (4 : Int32)), (.int ((((((9 : Int32) * ((g 0) - (48 : Int32))) + ((8 : Int32) * ((g 1) - (48 : Int32)))) + ((7 : Int32) * ((g 2) - (48 : Int32)))) + ((6 : Int32) * ((g 3) - (48 : Int32)))) + ((5 : Int32) * ((g 4) - (48 : Int32)))))])) _
        exact κ)
      obtain ⟨cl152, Ar152, -, S152, M152, H152, -⟩ := id Va_82
      have in152 : ¬ ((5 : Int32) < 0 ∨ cl152.slots.size ≤ ((5 : Int32)).toNatClampNeg) := inb_of S152 ⟨by decide, by decide⟩
      have at152 : cl152.slots[((5 : Int32)).toNatClampNeg]? = some (.int (g 5)) := H152.at in152 rfl
      have pre153 := fun τ (κ : Steps p.tables e below (T82.setTop (mkF m 435 #[.val (.long i0), .second, .val (.int i1), .val (.int i2), .val (.int i3), .val (.int dd0), .val (.int dd1), .val (.int dd2), .val (.int dd3), .val (.int dd4), .val (.int dd5), .val (.int dd6), .val (.int dd7), .val (.int ss), .val (.int d8), .val (.ref a), .val (.int ad), .unset, .unset, .unset, .unset, .unset, .unset, .unset] [(.int (6 : Int32)), (.ref a), (.int (3 : Int32)), (.int (((((((9 : Int32) * ((g 0) - (48 : Int32))) + ((8 : Int32) * ((g 1) - (48 : Int32)))) + ((7 : Int32) * ((g 2) - (48 : Int32)))) + ((6 : Int32) * ((g 3) - (48 : Int32)))) + ((5 : Int32) * ((g 4) - (48 : Int32)))) + ((4 : Int32) * ((g 5) - (48 : Int32)))))])) τ) => pre151 τ (by
        refine X82.caload hx (j := (5 : Int32)) (v := (.int (g 5))) (by rw [e82]; exact Ar152.1) (State.isArrayOf_alike hZ.alike Ar152.2.1) Ar152.2.2 in152 at152 (g := (mkF m 424 #[.val (.long i0), .second, .val (.int i1), .val (.int i2), .val (.int i3), .val (.int dd0), .val (.int dd1), .val (.int dd2), .val (.int dd3), .val (.int dd4), .val (.int dd5), .val (.int dd6), .val (.int dd7), .val (.int ss), .val (.int d8), .val (.ref a), .val (.int ad), .unset, .unset, .unset, .unset, .unset, .unset, .unset] [(.int (5 : Int32)), (.ref a), (.int (4 : Int32)), (.int ((((((9 : Int32) * ((g 0) - (48 : Int32))) + ((8 : Int32) * ((g 1) - (48 : Int32)))) + ((7 : Int32) * ((g 2) - (48 : Int32)))) + ((6 : Int32) * ((g 3) - (48 : Int32)))) + ((5 : Int32) * ((g 4) - (48 : Int32)))))])) rfl rfl (hb hby at_424) _ ?_
        show Steps p.tables e below (T82.setTop (mkF m 425 #[.val (.long i0), .second, .val (.int i1), .val (.int i2), .val (.int i3), .val (.int dd0), .val (.int dd1), .val (.int dd2), .val (.int dd3), .val (.int dd4), .val (.int dd5), .val (.int dd6), .val (.int dd7), .val (.int ss), .val (.int d8), .val (.ref a), .val (.int ad), .unset, .unset, .unset, .unset, .unset, .unset, .unset] [(.int (g 5)), (.int (4 : Int32)), (.int ((((((9 : Int32) * ((g 0) - (48 : Int32))) + ((8 : Int32) * ((g 1) - (48 : Int32)))) + ((7 : Int32) * ((g 2) - (48 : Int32)))) + ((6 : Int32) * ((g 3) - (48 : Int32)))) + ((5 : Int32) * ((g 4) - (48 : Int32)))))])) _
        refine XS.bipush X82.here hx rfl (hb hby at_425) ?_
        refine XS.isub X82.here hx rfl (hb hby at_427) rfl ?_
        show Steps p.tables e below (T82.setTop (mkF m 428 #[.val (.long i0), .second, .val (.int i1), .val (.int i2), .val (.int i3), .val (.int dd0), .val (.int dd1), .val (.int dd2), .val (.int dd3), .val (.int dd4), .val (.int dd5), .val (.int dd6), .val (.int dd7), .val (.int ss), .val (.int d8), .val (.ref a), .val (.int ad), .unset, .unset, .unset, .unset, .unset, .unset, .unset] [(.int ((g 5) - (48 : Int32))), (.int (4 : Int32)), (.int ((((((9 : Int32) * ((g 0) - (48 : Int32))) + ((8 : Int32) * ((g 1) - (48 : Int32)))) + ((7 : Int32) * ((g 2) - (48 : Int32)))) + ((6 : Int32) * ((g 3) - (48 : Int32)))) + ((5 : Int32) * ((g 4) - (48 : Int32)))))])) _
        refine XS.imul X82.here hx rfl (hb hby at_428) rfl ?_
        show Steps p.tables e below (T82.setTop (mkF m 429 #[.val (.long i0), .second, .val (.int i1), .val (.int i2), .val (.int i3), .val (.int dd0), .val (.int dd1), .val (.int dd2), .val (.int dd3), .val (.int dd4), .val (.int dd5), .val (.int dd6), .val (.int dd7), .val (.int ss), .val (.int d8), .val (.ref a), .val (.int ad), .unset, .unset, .unset, .unset, .unset, .unset, .unset] [(.int ((4 : Int32) * ((g 5) - (48 : Int32)))), (.int ((((((9 : Int32) * ((g 0) - (48 : Int32))) + ((8 : Int32) * ((g 1) - (48 : Int32)))) + ((7 : Int32) * ((g 2) - (48 : Int32)))) + ((6 : Int32) * ((g 3) - (48 : Int32)))) + ((5 : Int32) * ((g 4) - (48 : Int32)))))])) _
        refine XS.iadd X82.here hx rfl (hb hby at_429) rfl ?_
        show Steps p.tables e below (T82.setTop (mkF m 430 #[.val (.long i0), .second, .val (.int i1), .val (.int i2), .val (.int i3), .val (.int dd0), .val (.int dd1), .val (.int dd2), .val (.int dd3), .val (.int dd4), .val (.int dd5), .val (.int dd6), .val (.int dd7), .val (.int ss), .val (.int d8), .val (.ref a), .val (.int ad), .unset, .unset, .unset, .unset, .unset, .unset, .unset] [(.int (((((((9 : Int32) * ((g 0) - (48 : Int32))) + ((8 : Int32) * ((g 1) - (48 : Int32)))) + ((7 : Int32) * ((g 2) - (48 : Int32)))) + ((6 : Int32) * ((g 3) - (48 : Int32)))) + ((5 : Int32) * ((g 4) - (48 : Int32)))) + ((4 : Int32) * ((g 5) - (48 : Int32)))))])) _
        refine XS.iconst X82.here hx rfl (hb hby at_430) ?_
        refine XS.aload X82.here hx rfl (hb hby at_431) rfl rfl ?_
        refine XS.bipush X82.here hx rfl (hb hby at_433) ?_
        show Steps p.tables e below (T82.setTop (mkF m 435 #[.val (.long i0), .second, .val (.int i1), .val (.int i2), .val (.int i3), .val (.int dd0), .val (.int dd1), .val (.int dd2), .val (.int dd3), .val (.int dd4), .val (.int dd5), .val (.int dd6), .val (.int dd7), .val (.int ss), .val (.int d8), .val (.ref a), .val (.int ad), .unset, .unset, .unset, .unset, .unset, .unset, .unset] [(.int (6 : Int32)), (.ref a), (.int (3 : Int32)), (.int (((((((9 : Int32) * ((g 0) - (48 : Int32))) + ((8 : Int32) * ((g 1) - (48 : Int32)))) + ((7 : Int32) * ((g 2) - (48 : Int32)))) + ((6 : Int32) * ((g 3) - (48 : Int32)))) + ((5 : Int32) * ((g 4) - (48 : Int32)))) + ((4 : Int32) * ((g 5) - (48 : Int32)))))])) _
        exact κ)
      obtain ⟨cl154, Ar154, -, S154, M154, H154, -⟩ := id Va_82
      have in154 : ¬ ((6 : Int32) < 0 ∨ cl154.slots.size ≤ ((6 : Int32)).toNatClampNeg) := inb_of S154 ⟨by decide, by decide⟩
      have at154 : cl154.slots[((6 : Int32)).toNatClampNeg]? = some (.int (g 6)) := H154.at in154 rfl
      have pre155 := fun τ (κ : Steps p.tables e below (T82.setTop (mkF m 446 #[.val (.long i0), .second, .val (.int i1), .val (.int i2), .val (.int i3), .val (.int dd0), .val (.int dd1), .val (.int dd2), .val (.int dd3), .val (.int dd4), .val (.int dd5), .val (.int dd6), .val (.int dd7), .val (.int ss), .val (.int d8), .val (.ref a), .val (.int ad), .unset, .unset, .unset, .unset, .unset, .unset, .unset] [(.int (7 : Int32)), (.ref a), (.int (2 : Int32)), (.int ((((((((9 : Int32) * ((g 0) - (48 : Int32))) + ((8 : Int32) * ((g 1) - (48 : Int32)))) + ((7 : Int32) * ((g 2) - (48 : Int32)))) + ((6 : Int32) * ((g 3) - (48 : Int32)))) + ((5 : Int32) * ((g 4) - (48 : Int32)))) + ((4 : Int32) * ((g 5) - (48 : Int32)))) + ((3 : Int32) * ((g 6) - (48 : Int32)))))])) τ) => pre153 τ (by
        refine X82.caload hx (j := (6 : Int32)) (v := (.int (g 6))) (by rw [e82]; exact Ar154.1) (State.isArrayOf_alike hZ.alike Ar154.2.1) Ar154.2.2 in154 at154 (g := (mkF m 435 #[.val (.long i0), .second, .val (.int i1), .val (.int i2), .val (.int i3), .val (.int dd0), .val (.int dd1), .val (.int dd2), .val (.int dd3), .val (.int dd4), .val (.int dd5), .val (.int dd6), .val (.int dd7), .val (.int ss), .val (.int d8), .val (.ref a), .val (.int ad), .unset, .unset, .unset, .unset, .unset, .unset, .unset] [(.int (6 : Int32)), (.ref a), (.int (3 : Int32)), (.int (((((((9 : Int32) * ((g 0) - (48 : Int32))) + ((8 : Int32) * ((g 1) - (48 : Int32)))) + ((7 : Int32) * ((g 2) - (48 : Int32)))) + ((6 : Int32) * ((g 3) - (48 : Int32)))) + ((5 : Int32) * ((g 4) - (48 : Int32)))) + ((4 : Int32) * ((g 5) - (48 : Int32)))))])) rfl rfl (hb hby at_435) _ ?_
        show Steps p.tables e below (T82.setTop (mkF m 436 #[.val (.long i0), .second, .val (.int i1), .val (.int i2), .val (.int i3), .val (.int dd0), .val (.int dd1), .val (.int dd2), .val (.int dd3), .val (.int dd4), .val (.int dd5), .val (.int dd6), .val (.int dd7), .val (.int ss), .val (.int d8), .val (.ref a), .val (.int ad), .unset, .unset, .unset, .unset, .unset, .unset, .unset] [(.int (g 6)), (.int (3 : Int32)), (.int (((((((9 : Int32) * ((g 0) - (48 : Int32))) + ((8 : Int32) * ((g 1) - (48 : Int32)))) + ((7 : Int32) * ((g 2) - (48 : Int32)))) + ((6 : Int32) * ((g 3) - (48 : Int32)))) + ((5 : Int32) * ((g 4) - (48 : Int32)))) + ((4 : Int32) * ((g 5) - (48 : Int32)))))])) _
        refine XS.bipush X82.here hx rfl (hb hby at_436) ?_
        refine XS.isub X82.here hx rfl (hb hby at_438) rfl ?_
        show Steps p.tables e below (T82.setTop (mkF m 439 #[.val (.long i0), .second, .val (.int i1), .val (.int i2), .val (.int i3), .val (.int dd0), .val (.int dd1), .val (.int dd2), .val (.int dd3), .val (.int dd4), .val (.int dd5), .val (.int dd6), .val (.int dd7), .val (.int ss), .val (.int d8), .val (.ref a), .val (.int ad), .unset, .unset, .unset, .unset, .unset, .unset, .unset] [(.int ((g 6) - (48 : Int32))), (.int (3 : Int32)), (.int (((((((9 : Int32) * ((g 0) - (48 : Int32))) + ((8 : Int32) * ((g 1) - (48 : Int32)))) + ((7 : Int32) * ((g 2) - (48 : Int32)))) + ((6 : Int32) * ((g 3) - (48 : Int32)))) + ((5 : Int32) * ((g 4) - (48 : Int32)))) + ((4 : Int32) * ((g 5) - (48 : Int32)))))])) _
        refine XS.imul X82.here hx rfl (hb hby at_439) rfl ?_
        show Steps p.tables e below (T82.setTop (mkF m 440 #[.val (.long i0), .second, .val (.int i1), .val (.int i2), .val (.int i3), .val (.int dd0), .val (.int dd1), .val (.int dd2), .val (.int dd3), .val (.int dd4), .val (.int dd5), .val (.int dd6), .val (.int dd7), .val (.int ss), .val (.int d8), .val (.ref a), .val (.int ad), .unset, .unset, .unset, .unset, .unset, .unset, .unset] [(.int ((3 : Int32) * ((g 6) - (48 : Int32)))), (.int (((((((9 : Int32) * ((g 0) - (48 : Int32))) + ((8 : Int32) * ((g 1) - (48 : Int32)))) + ((7 : Int32) * ((g 2) - (48 : Int32)))) + ((6 : Int32) * ((g 3) - (48 : Int32)))) + ((5 : Int32) * ((g 4) - (48 : Int32)))) + ((4 : Int32) * ((g 5) - (48 : Int32)))))])) _
        refine XS.iadd X82.here hx rfl (hb hby at_440) rfl ?_
        show Steps p.tables e below (T82.setTop (mkF m 441 #[.val (.long i0), .second, .val (.int i1), .val (.int i2), .val (.int i3), .val (.int dd0), .val (.int dd1), .val (.int dd2), .val (.int dd3), .val (.int dd4), .val (.int dd5), .val (.int dd6), .val (.int dd7), .val (.int ss), .val (.int d8), .val (.ref a), .val (.int ad), .unset, .unset, .unset, .unset, .unset, .unset, .unset] [(.int ((((((((9 : Int32) * ((g 0) - (48 : Int32))) + ((8 : Int32) * ((g 1) - (48 : Int32)))) + ((7 : Int32) * ((g 2) - (48 : Int32)))) + ((6 : Int32) * ((g 3) - (48 : Int32)))) + ((5 : Int32) * ((g 4) - (48 : Int32)))) + ((4 : Int32) * ((g 5) - (48 : Int32)))) + ((3 : Int32) * ((g 6) - (48 : Int32)))))])) _
        refine XS.iconst X82.here hx rfl (hb hby at_441) ?_
        refine XS.aload X82.here hx rfl (hb hby at_442) rfl rfl ?_
        refine XS.bipush X82.here hx rfl (hb hby at_444) ?_
        show Steps p.tables e below (T82.setTop (mkF m 446 #[.val (.long i0), .second, .val (.int i1), .val (.int i2), .val (.int i3), .val (.int dd0), .val (.int dd1), .val (.int dd2), .val (.int dd3), .val (.int dd4), .val (.int dd5), .val (.int dd6), .val (.int dd7), .val (.int ss), .val (.int d8), .val (.ref a), .val (.int ad), .unset, .unset, .unset, .unset, .unset, .unset, .unset] [(.int (7 : Int32)), (.ref a), (.int (2 : Int32)), (.int ((((((((9 : Int32) * ((g 0) - (48 : Int32))) + ((8 : Int32) * ((g 1) - (48 : Int32)))) + ((7 : Int32) * ((g 2) - (48 : Int32)))) + ((6 : Int32) * ((g 3) - (48 : Int32)))) + ((5 : Int32) * ((g 4) - (48 : Int32)))) + ((4 : Int32) * ((g 5) - (48 : Int32)))) + ((3 : Int32) * ((g 6) - (48 : Int32)))))])) _
        exact κ)
      obtain ⟨cl156, Ar156, -, S156, M156, H156, -⟩ := id Va_82
      have in156 : ¬ ((7 : Int32) < 0 ∨ cl156.slots.size ≤ ((7 : Int32)).toNatClampNeg) := inb_of S156 ⟨by decide, by decide⟩
      have at156 : cl156.slots[((7 : Int32)).toNatClampNeg]? = some (.int (g 7)) := H156.at in156 rfl
      have pre157 := fun τ (κ : Steps p.tables e below (T82.setTop (mkF m 454 #[.val (.long i0), .second, .val (.int i1), .val (.int i2), .val (.int i3), .val (.int dd0), .val (.int dd1), .val (.int dd2), .val (.int dd3), .val (.int dd4), .val (.int dd5), .val (.int dd6), .val (.int dd7), .val (.int ss), .val (.int d8), .val (.ref a), .val (.int ad), .unset, .val (.int (((((((((9 : Int32) * ((g 0) - (48 : Int32))) + ((8 : Int32) * ((g 1) - (48 : Int32)))) + ((7 : Int32) * ((g 2) - (48 : Int32)))) + ((6 : Int32) * ((g 3) - (48 : Int32)))) + ((5 : Int32) * ((g 4) - (48 : Int32)))) + ((4 : Int32) * ((g 5) - (48 : Int32)))) + ((3 : Int32) * ((g 6) - (48 : Int32)))) + ((2 : Int32) * ((g 7) - (48 : Int32))))), .unset, .unset, .unset, .unset, .unset] [])) τ) => pre155 τ (by
        refine X82.caload hx (j := (7 : Int32)) (v := (.int (g 7))) (by rw [e82]; exact Ar156.1) (State.isArrayOf_alike hZ.alike Ar156.2.1) Ar156.2.2 in156 at156 (g := (mkF m 446 #[.val (.long i0), .second, .val (.int i1), .val (.int i2), .val (.int i3), .val (.int dd0), .val (.int dd1), .val (.int dd2), .val (.int dd3), .val (.int dd4), .val (.int dd5), .val (.int dd6), .val (.int dd7), .val (.int ss), .val (.int d8), .val (.ref a), .val (.int ad), .unset, .unset, .unset, .unset, .unset, .unset, .unset] [(.int (7 : Int32)), (.ref a), (.int (2 : Int32)), (.int ((((((((9 : Int32) * ((g 0) - (48 : Int32))) + ((8 : Int32) * ((g 1) - (48 : Int32)))) + ((7 : Int32) * ((g 2) - (48 : Int32)))) + ((6 : Int32) * ((g 3) - (48 : Int32)))) + ((5 : Int32) * ((g 4) - (48 : Int32)))) + ((4 : Int32) * ((g 5) - (48 : Int32)))) + ((3 : Int32) * ((g 6) - (48 : Int32)))))])) rfl rfl (hb hby at_446) _ ?_
        show Steps p.tables e below (T82.setTop (mkF m 447 #[.val (.long i0), .second, .val (.int i1), .val (.int i2), .val (.int i3), .val (.int dd0), .val (.int dd1), .val (.int dd2), .val (.int dd3), .val (.int dd4), .val (.int dd5), .val (.int dd6), .val (.int dd7), .val (.int ss), .val (.int d8), .val (.ref a), .val (.int ad), .unset, .unset, .unset, .unset, .unset, .unset, .unset] [(.int (g 7)), (.int (2 : Int32)), (.int ((((((((9 : Int32) * ((g 0) - (48 : Int32))) + ((8 : Int32) * ((g 1) - (48 : Int32)))) + ((7 : Int32) * ((g 2) - (48 : Int32)))) + ((6 : Int32) * ((g 3) - (48 : Int32)))) + ((5 : Int32) * ((g 4) - (48 : Int32)))) + ((4 : Int32) * ((g 5) - (48 : Int32)))) + ((3 : Int32) * ((g 6) - (48 : Int32)))))])) _
        refine XS.bipush X82.here hx rfl (hb hby at_447) ?_
        refine XS.isub X82.here hx rfl (hb hby at_449) rfl ?_
        show Steps p.tables e below (T82.setTop (mkF m 450 #[.val (.long i0), .second, .val (.int i1), .val (.int i2), .val (.int i3), .val (.int dd0), .val (.int dd1), .val (.int dd2), .val (.int dd3), .val (.int dd4), .val (.int dd5), .val (.int dd6), .val (.int dd7), .val (.int ss), .val (.int d8), .val (.ref a), .val (.int ad), .unset, .unset, .unset, .unset, .unset, .unset, .unset] [(.int ((g 7) - (48 : Int32))), (.int (2 : Int32)), (.int ((((((((9 : Int32) * ((g 0) - (48 : Int32))) + ((8 : Int32) * ((g 1) - (48 : Int32)))) + ((7 : Int32) * ((g 2) - (48 : Int32)))) + ((6 : Int32) * ((g 3) - (48 : Int32)))) + ((5 : Int32) * ((g 4) - (48 : Int32)))) + ((4 : Int32) * ((g 5) - (48 : Int32)))) + ((3 : Int32) * ((g 6) - (48 : Int32)))))])) _
        refine XS.imul X82.here hx rfl (hb hby at_450) rfl ?_
        show Steps p.tables e below (T82.setTop (mkF m 451 #[.val (.long i0), .second, .val (.int i1), .val (.int i2), .val (.int i3), .val (.int dd0), .val (.int dd1), .val (.int dd2), .val (.int dd3), .val (.int dd4), .val (.int dd5), .val (.int dd6), .val (.int dd7), .val (.int ss), .val (.int d8), .val (.ref a), .val (.int ad), .unset, .unset, .unset, .unset, .unset, .unset, .unset] [(.int ((2 : Int32) * ((g 7) - (48 : Int32)))), (.int ((((((((9 : Int32) * ((g 0) - (48 : Int32))) + ((8 : Int32) * ((g 1) - (48 : Int32)))) + ((7 : Int32) * ((g 2) - (48 : Int32)))) + ((6 : Int32) * ((g 3) - (48 : Int32)))) + ((5 : Int32) * ((g 4) - (48 : Int32)))) + ((4 : Int32) * ((g 5) - (48 : Int32)))) + ((3 : Int32) * ((g 6) - (48 : Int32)))))])) _
        refine XS.iadd X82.here hx rfl (hb hby at_451) rfl ?_
        show Steps p.tables e below (T82.setTop (mkF m 452 #[.val (.long i0), .second, .val (.int i1), .val (.int i2), .val (.int i3), .val (.int dd0), .val (.int dd1), .val (.int dd2), .val (.int dd3), .val (.int dd4), .val (.int dd5), .val (.int dd6), .val (.int dd7), .val (.int ss), .val (.int d8), .val (.ref a), .val (.int ad), .unset, .unset, .unset, .unset, .unset, .unset, .unset] [(.int (((((((((9 : Int32) * ((g 0) - (48 : Int32))) + ((8 : Int32) * ((g 1) - (48 : Int32)))) + ((7 : Int32) * ((g 2) - (48 : Int32)))) + ((6 : Int32) * ((g 3) - (48 : Int32)))) + ((5 : Int32) * ((g 4) - (48 : Int32)))) + ((4 : Int32) * ((g 5) - (48 : Int32)))) + ((3 : Int32) * ((g 6) - (48 : Int32)))) + ((2 : Int32) * ((g 7) - (48 : Int32)))))])) _
        refine XS.istore X82.here hx rfl (hb hby at_452) rfl (l' := #[.val (.long i0), .second, .val (.int i1), .val (.int i2), .val (.int i3), .val (.int dd0), .val (.int dd1), .val (.int dd2), .val (.int dd3), .val (.int dd4), .val (.int dd5), .val (.int dd6), .val (.int dd7), .val (.int ss), .val (.int d8), .val (.ref a), .val (.int ad), .unset, .val (.int (((((((((9 : Int32) * ((g 0) - (48 : Int32))) + ((8 : Int32) * ((g 1) - (48 : Int32)))) + ((7 : Int32) * ((g 2) - (48 : Int32)))) + ((6 : Int32) * ((g 3) - (48 : Int32)))) + ((5 : Int32) * ((g 4) - (48 : Int32)))) + ((4 : Int32) * ((g 5) - (48 : Int32)))) + ((3 : Int32) * ((g 6) - (48 : Int32)))) + ((2 : Int32) * ((g 7) - (48 : Int32))))), .unset, .unset, .unset, .unset, .unset]) rfl ?_
        show Steps p.tables e below (T82.setTop (mkF m 454 #[.val (.long i0), .second, .val (.int i1), .val (.int i2), .val (.int i3), .val (.int dd0), .val (.int dd1), .val (.int dd2), .val (.int dd3), .val (.int dd4), .val (.int dd5), .val (.int dd6), .val (.int dd7), .val (.int ss), .val (.int d8), .val (.ref a), .val (.int ad), .unset, .val (.int (((((((((9 : Int32) * ((g 0) - (48 : Int32))) + ((8 : Int32) * ((g 1) - (48 : Int32)))) + ((7 : Int32) * ((g 2) - (48 : Int32)))) + ((6 : Int32) * ((g 3) - (48 : Int32)))) + ((5 : Int32) * ((g 4) - (48 : Int32)))) + ((4 : Int32) * ((g 5) - (48 : Int32)))) + ((3 : Int32) * ((g 6) - (48 : Int32)))) + ((2 : Int32) * ((g 7) - (48 : Int32))))), .unset, .unset, .unset, .unset, .unset] [])) _
        exact κ)
      rw [show (((((((((9 : Int32) * ((g 0) - (48 : Int32))) + ((8 : Int32) * ((g 1) - (48 : Int32)))) + ((7 : Int32) * ((g 2) - (48 : Int32)))) + ((6 : Int32) * ((g 3) - (48 : Int32)))) + ((5 : Int32) * ((g 4) - (48 : Int32)))) + ((4 : Int32) * ((g 5) - (48 : Int32)))) + ((3 : Int32) * ((g 6) - (48 : Int32)))) + ((2 : Int32) * ((g 7) - (48 : Int32)))) = (own_t g) from rfl] at pre157
      have pre158 := fun τ (κ : Steps p.tables e below (T82.setTop (mkF m 458 #[.val (.long i0), .second, .val (.int i1), .val (.int i2), .val (.int i3), .val (.int dd0), .val (.int dd1), .val (.int dd2), .val (.int dd3), .val (.int dd4), .val (.int dd5), .val (.int dd6), .val (.int dd7), .val (.int ss), .val (.int d8), .val (.ref a), .val (.int ad), .unset, .val (.int (own_t g)), .unset, .unset, .unset, .unset, .unset] [(.int (8 : Int32)), (.ref a)])) τ) => pre157 τ (by
        refine XS.aload X82.here hx rfl (hb hby at_454) rfl rfl ?_
        refine XS.bipush X82.here hx rfl (hb hby at_456) ?_
        show Steps p.tables e below (T82.setTop (mkF m 458 #[.val (.long i0), .second, .val (.int i1), .val (.int i2), .val (.int i3), .val (.int dd0), .val (.int dd1), .val (.int dd2), .val (.int dd3), .val (.int dd4), .val (.int dd5), .val (.int dd6), .val (.int dd7), .val (.int ss), .val (.int d8), .val (.ref a), .val (.int ad), .unset, .val (.int (own_t g)), .unset, .unset, .unset, .unset, .unset] [(.int (8 : Int32)), (.ref a)])) _
        exact κ)
      obtain ⟨cl159, Ar159, -, S159, M159, H159, -⟩ := id Va_82
      have in159 : ¬ ((8 : Int32) < 0 ∨ cl159.slots.size ≤ ((8 : Int32)).toNatClampNeg) := inb_of S159 ⟨by decide, by decide⟩
      have at159 : cl159.slots[((8 : Int32)).toNatClampNeg]? = some (.int (g 8)) := H159.at in159 rfl
      have pre160 := fun τ (κ : Steps p.tables e below (T82.setTop (mkF m 467 #[.val (.long i0), .second, .val (.int i1), .val (.int i2), .val (.int i3), .val (.int dd0), .val (.int dd1), .val (.int dd2), .val (.int dd3), .val (.int dd4), .val (.int dd5), .val (.int dd6), .val (.int dd7), .val (.int ss), .val (.int d8), .val (.ref a), .val (.int ad), .unset, .val (.int (own_t g)), .unset, .unset, .unset, .unset, .unset] [(.int ((own_t g) % (11 : Int32))), (.int ((g 8) - (48 : Int32)))])) τ) => pre158 τ (by
        refine X82.caload hx (j := (8 : Int32)) (v := (.int (g 8))) (by rw [e82]; exact Ar159.1) (State.isArrayOf_alike hZ.alike Ar159.2.1) Ar159.2.2 in159 at159 (g := (mkF m 458 #[.val (.long i0), .second, .val (.int i1), .val (.int i2), .val (.int i3), .val (.int dd0), .val (.int dd1), .val (.int dd2), .val (.int dd3), .val (.int dd4), .val (.int dd5), .val (.int dd6), .val (.int dd7), .val (.int ss), .val (.int d8), .val (.ref a), .val (.int ad), .unset, .val (.int (own_t g)), .unset, .unset, .unset, .unset, .unset] [(.int (8 : Int32)), (.ref a)])) rfl rfl (hb hby at_458) _ ?_
        show Steps p.tables e below (T82.setTop (mkF m 459 #[.val (.long i0), .second, .val (.int i1), .val (.int i2), .val (.int i3), .val (.int dd0), .val (.int dd1), .val (.int dd2), .val (.int dd3), .val (.int dd4), .val (.int dd5), .val (.int dd6), .val (.int dd7), .val (.int ss), .val (.int d8), .val (.ref a), .val (.int ad), .unset, .val (.int (own_t g)), .unset, .unset, .unset, .unset, .unset] [(.int (g 8))])) _
        refine XS.bipush X82.here hx rfl (hb hby at_459) ?_
        refine XS.isub X82.here hx rfl (hb hby at_461) rfl ?_
        show Steps p.tables e below (T82.setTop (mkF m 462 #[.val (.long i0), .second, .val (.int i1), .val (.int i2), .val (.int i3), .val (.int dd0), .val (.int dd1), .val (.int dd2), .val (.int dd3), .val (.int dd4), .val (.int dd5), .val (.int dd6), .val (.int dd7), .val (.int ss), .val (.int d8), .val (.ref a), .val (.int ad), .unset, .val (.int (own_t g)), .unset, .unset, .unset, .unset, .unset] [(.int ((g 8) - (48 : Int32)))])) _
        refine XS.iload X82.here hx rfl (hb hby at_462) rfl ?_
        refine XS.bipush X82.here hx rfl (hb hby at_464) ?_
        refine iremM X82 hx rfl (hb hby at_466) rfl (by decide) ?_
        show Steps p.tables e below (T82.setTop (mkF m 467 #[.val (.long i0), .second, .val (.int i1), .val (.int i2), .val (.int i3), .val (.int dd0), .val (.int dd1), .val (.int dd2), .val (.int dd3), .val (.int dd4), .val (.int dd5), .val (.int dd6), .val (.int dd7), .val (.int ss), .val (.int d8), .val (.ref a), .val (.int ad), .unset, .val (.int (own_t g)), .unset, .unset, .unset, .unset, .unset] [(.int ((own_t g) % (11 : Int32))), (.int ((g 8) - (48 : Int32)))])) _
        exact κ)
      by_cases hy : ((g 8) - (48 : Int32)) = ((own_t g) % (11 : Int32))
      · have pre161 := fun τ (κ : Steps p.tables e below (T82.setTop (mkF m 477 #[.val (.long i0), .second, .val (.int i1), .val (.int i2), .val (.int i3), .val (.int dd0), .val (.int dd1), .val (.int dd2), .val (.int dd3), .val (.int dd4), .val (.int dd5), .val (.int dd6), .val (.int dd7), .val (.int ss), .val (.int d8), .val (.ref a), .val (.int ad), .val (.int (1 : Int32)), .val (.int (own_t g)), .unset, .unset, .unset, .unset, .unset] [])) τ) => pre160 τ (by
          refine XS.icmpNo X82.here hx rfl (hb hby at_467) rfl (teq hy).2 ?_
          show Steps p.tables e below (T82.setTop (mkF m 470 #[.val (.long i0), .second, .val (.int i1), .val (.int i2), .val (.int i3), .val (.int dd0), .val (.int dd1), .val (.int dd2), .val (.int dd3), .val (.int dd4), .val (.int dd5), .val (.int dd6), .val (.int dd7), .val (.int ss), .val (.int d8), .val (.ref a), .val (.int ad), .unset, .val (.int (own_t g)), .unset, .unset, .unset, .unset, .unset] [])) _
          refine XS.iconst X82.here hx rfl (hb hby at_470) ?_
          refine XS.goto X82.here hx rfl (pc0 := 471) (pc' := 475) rfl (hb hby at_471) (by decide) (by decide) ?_
          show Steps p.tables e below (T82.setTop (mkF m 475 #[.val (.long i0), .second, .val (.int i1), .val (.int i2), .val (.int i3), .val (.int dd0), .val (.int dd1), .val (.int dd2), .val (.int dd3), .val (.int dd4), .val (.int dd5), .val (.int dd6), .val (.int dd7), .val (.int ss), .val (.int d8), .val (.ref a), .val (.int ad), .unset, .val (.int (own_t g)), .unset, .unset, .unset, .unset, .unset] [(.int (1 : Int32))])) _
          refine XS.istore X82.here hx rfl (hb hby at_475) rfl (l' := #[.val (.long i0), .second, .val (.int i1), .val (.int i2), .val (.int i3), .val (.int dd0), .val (.int dd1), .val (.int dd2), .val (.int dd3), .val (.int dd4), .val (.int dd5), .val (.int dd6), .val (.int dd7), .val (.int ss), .val (.int d8), .val (.ref a), .val (.int ad), .val (.int (1 : Int32)), .val (.int (own_t g)), .unset, .unset, .unset, .unset, .unset]) rfl ?_
          show Steps p.tables e below (T82.setTop (mkF m 477 #[.val (.long i0), .second, .val (.int i1), .val (.int i2), .val (.int i3), .val (.int dd0), .val (.int dd1), .val (.int dd2), .val (.int dd3), .val (.int dd4), .val (.int dd5), .val (.int dd6), .val (.int dd7), .val (.int ss), .val (.int d8), .val (.ref a), .val (.int ad), .val (.int (1 : Int32)), .val (.int (own_t g)), .unset, .unset, .unset, .unset, .unset] [])) _
          exact κ)
        exact ⟨T82, h82, _, 1, (.val (.int (own_t g))), X82, e82, N82, Z82, Kp82, O0_82, Va_82, Or.inr ⟨own_ad1 had hz, by rw [if_pos hy]⟩, One.val rfl, pre161⟩
      · have pre162 := fun τ (κ : Steps p.tables e below (T82.setTop (mkF m 477 #[.val (.long i0), .second, .val (.int i1), .val (.int i2), .val (.int i3), .val (.int dd0), .val (.int dd1), .val (.int dd2), .val (.int dd3), .val (.int dd4), .val (.int dd5), .val (.int dd6), .val (.int dd7), .val (.int ss), .val (.int d8), .val (.ref a), .val (.int ad), .val (.int (0 : Int32)), .val (.int (own_t g)), .unset, .unset, .unset, .unset, .unset] [])) τ) => pre160 τ (by
          refine XS.icmpYes X82.here hx rfl (pc0 := 467) (pc' := 474) rfl (hb hby at_467) rfl (feq hy).2 (by decide) (by decide) ?_
          show Steps p.tables e below (T82.setTop (mkF m 474 #[.val (.long i0), .second, .val (.int i1), .val (.int i2), .val (.int i3), .val (.int dd0), .val (.int dd1), .val (.int dd2), .val (.int dd3), .val (.int dd4), .val (.int dd5), .val (.int dd6), .val (.int dd7), .val (.int ss), .val (.int d8), .val (.ref a), .val (.int ad), .unset, .val (.int (own_t g)), .unset, .unset, .unset, .unset, .unset] [])) _
          refine XS.iconst X82.here hx rfl (hb hby at_474) ?_
          refine XS.istore X82.here hx rfl (hb hby at_475) rfl (l' := #[.val (.long i0), .second, .val (.int i1), .val (.int i2), .val (.int i3), .val (.int dd0), .val (.int dd1), .val (.int dd2), .val (.int dd3), .val (.int dd4), .val (.int dd5), .val (.int dd6), .val (.int dd7), .val (.int ss), .val (.int d8), .val (.ref a), .val (.int ad), .val (.int (0 : Int32)), .val (.int (own_t g)), .unset, .unset, .unset, .unset, .unset]) rfl ?_
          show Steps p.tables e below (T82.setTop (mkF m 477 #[.val (.long i0), .second, .val (.int i1), .val (.int i2), .val (.int i3), .val (.int dd0), .val (.int dd1), .val (.int dd2), .val (.int dd3), .val (.int dd4), .val (.int dd5), .val (.int dd6), .val (.int dd7), .val (.int ss), .val (.int d8), .val (.ref a), .val (.int ad), .val (.int (0 : Int32)), .val (.int (own_t g)), .unset, .unset, .unset, .unset, .unset] [])) _
          exact κ)
        exact ⟨T82, h82, _, 0, (.val (.int (own_t g))), X82, e82, N82, Z82, Kp82, O0_82, Va_82, Or.inr ⟨own_ad1 had hz, by rw [if_neg hy]⟩, One.val rfl, pre162⟩
  have pre163 := fun τ (κ : Steps p.tables e below (T139.setTop (mkF m 479 #[.val (.long i0), .second, .val (.int i1), .val (.int i2), .val (.int i3), .val (.int dd0), .val (.int dd1), .val (.int dd2), .val (.int dd3), .val (.int dd4), .val (.int dd5), .val (.int dd6), .val (.int dd7), .val (.int ss), .val (.int d8), .val (.ref a), .val (.int ad), .val (.int e9), s18, .unset, .unset, .unset, .unset, .unset] [(.int (8 : Int32))])) τ) => pre139 τ (by
    refine XS.bipush X139.here hx rfl (hb hby at_477) ?_
    show Steps p.tables e below (T139.setTop (mkF m 479 #[.val (.long i0), .second, .val (.int i1), .val (.int i2), .val (.int i3), .val (.int dd0), .val (.int dd1), .val (.int dd2), .val (.int dd3), .val (.int dd4), .val (.int dd5), .val (.int dd6), .val (.int dd7), .val (.int ss), .val (.int d8), .val (.ref a), .val (.int ad), .val (.int e9), s18, .unset, .unset, .unset, .unset, .unset] [(.int (8 : Int32))])) _
    exact κ)
  obtain ⟨T164, h164, k164, X164, e164, E164, A164, st164⟩ := newP X139 hx hZ (hw _ (List.mem_of_getElem? (i := 6) rfl)) e139 (g := (mkF m 479 #[.val (.long i0), .second, .val (.int i1), .val (.int i2), .val (.int i3), .val (.int dd0), .val (.int dd1), .val (.int dd2), .val (.int dd3), .val (.int dd4), .val (.int dd5), .val (.int dd6), .val (.int dd7), .val (.int ss), .val (.int d8), .val (.ref a), .val (.int ad), .val (.int e9), s18, .unset, .unset, .unset, .unset, .unset] [(.int (8 : Int32))])) rfl (hb hby at_479) rfl (by decide) (cap := 8) (by decide) (by decide) (by decide) (by decide)
  obtain ⟨b8, g164⟩ : ∃ z, z = h139.size := ⟨_, rfl⟩
  rw [← g164] at A164 st164
  have g_b8 : n0 ≤ b8 := Nat.le_trans Z139 (Nat.le_of_eq g164.symm)
  have ne_a_b8 : a ≠ b8 := Nat.ne_of_lt (Nat.lt_of_lt_of_le Va_139.lt (Nat.le_of_eq g164.symm))
  have O0_164 : Old Z n0 h164 := O0_139.ext E164
  have Va_164 : Arv Z h164 a k36 .char (Int32.ofNat 9) (own_tab g 9) (.int (0 : Int32)) := Va_139.ext E164
  have sz_b8 : h0.size ≤ b8 := Nat.le_trans Kp139.1 (Nat.le_of_eq g164.symm)
  have Kp164 : Keep h0 h164 [] := Kp139.ext E164
  have Z164 : n0 ≤ h164.size := Nat.le_trans Z139 E164.1
  have V_b8_164 : Arv Z h164 b8 k164 .char (8 : Int32) [(.int (0 : Int32)), (.int (0 : Int32)), (.int (0 : Int32)), (.int (0 : Int32)), (.int (0 : Int32)), (.int (0 : Int32)), (.int (0 : Int32)), (.int (0 : Int32))] (.int (0 : Int32)) := (Arv.new A164 (by decide)).pad (pad_rep [] (.int (0 : Int32)) 8)
  have pre165 := fun τ (κ : Steps p.tables e below (T164.setTop (mkF m 481 #[.val (.long i0), .second, .val (.int i1), .val (.int i2), .val (.int i3), .val (.int dd0), .val (.int dd1), .val (.int dd2), .val (.int dd3), .val (.int dd4), .val (.int dd5), .val (.int dd6), .val (.int dd7), .val (.int ss), .val (.int d8), .val (.ref a), .val (.int ad), .val (.int e9), s18, .unset, .unset, .unset, .unset, .unset] [(.ref b8)])) τ) => pre163 τ (st164 _ κ)
  have pre166 := fun τ (κ : Steps p.tables e below (T164.setTop (mkF m 489 #[.val (.long i0), .second, .val (.int i1), .val (.int i2), .val (.int i3), .val (.int dd0), .val (.int dd1), .val (.int dd2), .val (.int dd3), .val (.int dd4), .val (.int dd5), .val (.int dd6), .val (.int dd7), .val (.int ss), .val (.int d8), .val (.ref a), .val (.int ad), .val (.int e9), .val (.ref b8), .unset, .unset, .unset, .unset, .unset] [(.int (0 : Int32)), (.ref a), (.int (0 : Int32)), (.ref b8)])) τ) => pre165 τ (by
    refine XS.astore X164.here hx rfl (hb hby at_481) rfl rfl (l' := #[.val (.long i0), .second, .val (.int i1), .val (.int i2), .val (.int i3), .val (.int dd0), .val (.int dd1), .val (.int dd2), .val (.int dd3), .val (.int dd4), .val (.int dd5), .val (.int dd6), .val (.int dd7), .val (.int ss), .val (.int d8), .val (.ref a), .val (.int ad), .val (.int e9), .val (.ref b8), .unset, .unset, .unset, .unset, .unset]) (by rcases hs18 with q | ⟨u, q, hu⟩ <;> rw [q] <;> first | rfl | (cases u <;> first | rfl | (simp [Value.category] at hu))) ?_
    show Steps p.tables e below (T164.setTop (mkF m 483 #[.val (.long i0), .second, .val (.int i1), .val (.int i2), .val (.int i3), .val (.int dd0), .val (.int dd1), .val (.int dd2), .val (.int dd3), .val (.int dd4), .val (.int dd5), .val (.int dd6), .val (.int dd7), .val (.int ss), .val (.int d8), .val (.ref a), .val (.int ad), .val (.int e9), .val (.ref b8), .unset, .unset, .unset, .unset, .unset] [])) _
    refine XS.aload X164.here hx rfl (hb hby at_483) rfl rfl ?_
    refine XS.iconst X164.here hx rfl (hb hby at_485) ?_
    refine XS.aload X164.here hx rfl (hb hby at_486) rfl rfl ?_
    refine XS.iconst X164.here hx rfl (hb hby at_488) ?_
    show Steps p.tables e below (T164.setTop (mkF m 489 #[.val (.long i0), .second, .val (.int i1), .val (.int i2), .val (.int i3), .val (.int dd0), .val (.int dd1), .val (.int dd2), .val (.int dd3), .val (.int dd4), .val (.int dd5), .val (.int dd6), .val (.int dd7), .val (.int ss), .val (.int d8), .val (.ref a), .val (.int ad), .val (.int e9), .val (.ref b8), .unset, .unset, .unset, .unset, .unset] [(.int (0 : Int32)), (.ref a), (.int (0 : Int32)), (.ref b8)])) _
    exact κ)
  obtain ⟨cl167, Ar167, -, S167, M167, H167, -⟩ := id Va_164
  have in167 : ¬ ((0 : Int32) < 0 ∨ cl167.slots.size ≤ ((0 : Int32)).toNatClampNeg) := inb_of S167 ⟨by decide, by decide⟩
  have at167 : cl167.slots[((0 : Int32)).toNatClampNeg]? = some (.int (g 0)) := H167.at in167 rfl
  have pre168 := fun τ (κ : Steps p.tables e below (T164.setTop (mkF m 490 #[.val (.long i0), .second, .val (.int i1), .val (.int i2), .val (.int i3), .val (.int dd0), .val (.int dd1), .val (.int dd2), .val (.int dd3), .val (.int dd4), .val (.int dd5), .val (.int dd6), .val (.int dd7), .val (.int ss), .val (.int d8), .val (.ref a), .val (.int ad), .val (.int e9), .val (.ref b8), .unset, .unset, .unset, .unset, .unset] [(.int (g 0)), (.int (0 : Int32)), (.ref b8)])) τ) => pre166 τ (by
    refine X164.caload hx (j := (0 : Int32)) (v := (.int (g 0))) (by rw [e164]; exact Ar167.1) (State.isArrayOf_alike hZ.alike Ar167.2.1) Ar167.2.2 in167 at167 (g := (mkF m 489 #[.val (.long i0), .second, .val (.int i1), .val (.int i2), .val (.int i3), .val (.int dd0), .val (.int dd1), .val (.int dd2), .val (.int dd3), .val (.int dd4), .val (.int dd5), .val (.int dd6), .val (.int dd7), .val (.int ss), .val (.int d8), .val (.ref a), .val (.int ad), .val (.int e9), .val (.ref b8), .unset, .unset, .unset, .unset, .unset] [(.int (0 : Int32)), (.ref a), (.int (0 : Int32)), (.ref b8)])) rfl rfl (hb hby at_489) _ ?_
    show Steps p.tables e below (T164.setTop (mkF m 490 #[.val (.long i0), .second, .val (.int i1), .val (.int i2), .val (.int i3), .val (.int dd0), .val (.int dd1), .val (.int dd2), .val (.int dd3), .val (.int dd4), .val (.int dd5), .val (.int dd6), .val (.int dd7), .val (.int ss), .val (.int d8), .val (.ref a), .val (.int ad), .val (.int e9), .val (.ref b8), .unset, .unset, .unset, .unset, .unset] [(.int (g 0)), (.int (0 : Int32)), (.ref b8)])) _
    exact κ)
  obtain ⟨cl169, Ar169, q169, S169, M169, H169, G169⟩ := id V_b8_164
  have in169 : ¬ ((0 : Int32) < 0 ∨ cl169.slots.size ≤ ((0 : Int32)).toNatClampNeg) := inb_of S169 ⟨by decide, by decide⟩
  obtain ⟨T170, h170, X170, e170, W170, st170⟩ := stC X164 hx hZ e164 Ar169 (j := (0 : Int32)) in169 (g := (mkF m 490 #[.val (.long i0), .second, .val (.int i1), .val (.int i2), .val (.int i3), .val (.int dd0), .val (.int dd1), .val (.int dd2), .val (.int dd3), .val (.int dd4), .val (.int dd5), .val (.int dd6), .val (.int dd7), .val (.int ss), .val (.int d8), .val (.ref a), .val (.int ad), .val (.int e9), .val (.ref b8), .unset, .unset, .unset, .unset, .unset] [(.int (g 0)), (.int (0 : Int32)), (.ref b8)])) rfl rfl (hb hby at_490)
  have O0_170 : Old Z n0 h170 := O0_164.wr W170 g_b8
  have Va_170 : Arv Z h170 a k36 .char (Int32.ofNat 9) (own_tab g 9) (.int (0 : Int32)) := Va_164.other W170 ne_a_b8
  have Kp170 : Keep h0 h170 [] := Kp164.wr W170 (Or.inr sz_b8)
  have N170 := Fr.snoc X170 N139 g_b8
  have Z170 : n0 ≤ h170.size := Nat.le_trans Z164 (Keep.of_wr W170).1
  have V_b8_170 : Arv Z h170 b8 k164 .char (8 : Int32) [(.int (nar .char (g 0))), (.int (0 : Int32)), (.int (0 : Int32)), (.int (0 : Int32)), (.int (0 : Int32)), (.int (0 : Int32)), (.int (0 : Int32)), (.int (0 : Int32))] (.int (0 : Int32)) := Arv.set Ar169 q169 S169 M169 H169 G169 (fits_nar_char _) W170 0 rfl (Nat.le_of_ble_eq_true rfl)
  have pre171 := fun τ (κ : Steps p.tables e below (T170.setTop (mkF m 491 #[.val (.long i0), .second, .val (.int i1), .val (.int i2), .val (.int i3), .val (.int dd0), .val (.int dd1), .val (.int dd2), .val (.int dd3), .val (.int dd4), .val (.int dd5), .val (.int dd6), .val (.int dd7), .val (.int ss), .val (.int d8), .val (.ref a), .val (.int ad), .val (.int e9), .val (.ref b8), .unset, .unset, .unset, .unset, .unset] [])) τ) => pre168 τ (st170 _ κ)
  have pre172 := fun τ (κ : Steps p.tables e below (T170.setTop (mkF m 497 #[.val (.long i0), .second, .val (.int i1), .val (.int i2), .val (.int i3), .val (.int dd0), .val (.int dd1), .val (.int dd2), .val (.int dd3), .val (.int dd4), .val (.int dd5), .val (.int dd6), .val (.int dd7), .val (.int ss), .val (.int d8), .val (.ref a), .val (.int ad), .val (.int e9), .val (.ref b8), .unset, .unset, .unset, .unset, .unset] [(.int (1 : Int32)), (.ref a), (.int (1 : Int32)), (.ref b8)])) τ) => pre171 τ (by
    refine XS.aload X170.here hx rfl (hb hby at_491) rfl rfl ?_
    refine XS.iconst X170.here hx rfl (hb hby at_493) ?_
    refine XS.aload X170.here hx rfl (hb hby at_494) rfl rfl ?_
    refine XS.iconst X170.here hx rfl (hb hby at_496) ?_
    show Steps p.tables e below (T170.setTop (mkF m 497 #[.val (.long i0), .second, .val (.int i1), .val (.int i2), .val (.int i3), .val (.int dd0), .val (.int dd1), .val (.int dd2), .val (.int dd3), .val (.int dd4), .val (.int dd5), .val (.int dd6), .val (.int dd7), .val (.int ss), .val (.int d8), .val (.ref a), .val (.int ad), .val (.int e9), .val (.ref b8), .unset, .unset, .unset, .unset, .unset] [(.int (1 : Int32)), (.ref a), (.int (1 : Int32)), (.ref b8)])) _
    exact κ)
  obtain ⟨cl173, Ar173, -, S173, M173, H173, -⟩ := id Va_170
  have in173 : ¬ ((1 : Int32) < 0 ∨ cl173.slots.size ≤ ((1 : Int32)).toNatClampNeg) := inb_of S173 ⟨by decide, by decide⟩
  have at173 : cl173.slots[((1 : Int32)).toNatClampNeg]? = some (.int (g 1)) := H173.at in173 rfl
  have pre174 := fun τ (κ : Steps p.tables e below (T170.setTop (mkF m 498 #[.val (.long i0), .second, .val (.int i1), .val (.int i2), .val (.int i3), .val (.int dd0), .val (.int dd1), .val (.int dd2), .val (.int dd3), .val (.int dd4), .val (.int dd5), .val (.int dd6), .val (.int dd7), .val (.int ss), .val (.int d8), .val (.ref a), .val (.int ad), .val (.int e9), .val (.ref b8), .unset, .unset, .unset, .unset, .unset] [(.int (g 1)), (.int (1 : Int32)), (.ref b8)])) τ) => pre172 τ (by
    refine X170.caload hx (j := (1 : Int32)) (v := (.int (g 1))) (by rw [e170]; exact Ar173.1) (State.isArrayOf_alike hZ.alike Ar173.2.1) Ar173.2.2 in173 at173 (g := (mkF m 497 #[.val (.long i0), .second, .val (.int i1), .val (.int i2), .val (.int i3), .val (.int dd0), .val (.int dd1), .val (.int dd2), .val (.int dd3), .val (.int dd4), .val (.int dd5), .val (.int dd6), .val (.int dd7), .val (.int ss), .val (.int d8), .val (.ref a), .val (.int ad), .val (.int e9), .val (.ref b8), .unset, .unset, .unset, .unset, .unset] [(.int (1 : Int32)), (.ref a), (.int (1 : Int32)), (.ref b8)])) rfl rfl (hb hby at_497) _ ?_
    show Steps p.tables e below (T170.setTop (mkF m 498 #[.val (.long i0), .second, .val (.int i1), .val (.int i2), .val (.int i3), .val (.int dd0), .val (.int dd1), .val (.int dd2), .val (.int dd3), .val (.int dd4), .val (.int dd5), .val (.int dd6), .val (.int dd7), .val (.int ss), .val (.int d8), .val (.ref a), .val (.int ad), .val (.int e9), .val (.ref b8), .unset, .unset, .unset, .unset, .unset] [(.int (g 1)), (.int (1 : Int32)), (.ref b8)])) _
    exact κ)
  obtain ⟨cl175, Ar175, q175, S175, M175, H175, G175⟩ := id V_b8_170
  have in175 : ¬ ((1 : Int32) < 0 ∨ cl175.slots.size ≤ ((1 : Int32)).toNatClampNeg) := inb_of S175 ⟨by decide, by decide⟩
  obtain ⟨T176, h176, X176, e176, W176, st176⟩ := stC X170 hx hZ e170 Ar175 (j := (1 : Int32)) in175 (g := (mkF m 498 #[.val (.long i0), .second, .val (.int i1), .val (.int i2), .val (.int i3), .val (.int dd0), .val (.int dd1), .val (.int dd2), .val (.int dd3), .val (.int dd4), .val (.int dd5), .val (.int dd6), .val (.int dd7), .val (.int ss), .val (.int d8), .val (.ref a), .val (.int ad), .val (.int e9), .val (.ref b8), .unset, .unset, .unset, .unset, .unset] [(.int (g 1)), (.int (1 : Int32)), (.ref b8)])) rfl rfl (hb hby at_498)
  have O0_176 : Old Z n0 h176 := O0_170.wr W176 g_b8
  have Va_176 : Arv Z h176 a k36 .char (Int32.ofNat 9) (own_tab g 9) (.int (0 : Int32)) := Va_170.other W176 ne_a_b8
  have Kp176 : Keep h0 h176 [] := Kp170.wr W176 (Or.inr sz_b8)
  have N176 := Fr.snoc X176 N170 g_b8
  have Z176 : n0 ≤ h176.size := Nat.le_trans Z170 (Keep.of_wr W176).1
  have V_b8_176 : Arv Z h176 b8 k164 .char (8 : Int32) [(.int (nar .char (g 0))), (.int (nar .char (g 1))), (.int (0 : Int32)), (.int (0 : Int32)), (.int (0 : Int32)), (.int (0 : Int32)), (.int (0 : Int32)), (.int (0 : Int32))] (.int (0 : Int32)) := Arv.set Ar175 q175 S175 M175 H175 G175 (fits_nar_char _) W176 1 rfl (Nat.le_of_ble_eq_true rfl)
  have pre177 := fun τ (κ : Steps p.tables e below (T176.setTop (mkF m 499 #[.val (.long i0), .second, .val (.int i1), .val (.int i2), .val (.int i3), .val (.int dd0), .val (.int dd1), .val (.int dd2), .val (.int dd3), .val (.int dd4), .val (.int dd5), .val (.int dd6), .val (.int dd7), .val (.int ss), .val (.int d8), .val (.ref a), .val (.int ad), .val (.int e9), .val (.ref b8), .unset, .unset, .unset, .unset, .unset] [])) τ) => pre174 τ (st176 _ κ)
  have pre178 := fun τ (κ : Steps p.tables e below (T176.setTop (mkF m 505 #[.val (.long i0), .second, .val (.int i1), .val (.int i2), .val (.int i3), .val (.int dd0), .val (.int dd1), .val (.int dd2), .val (.int dd3), .val (.int dd4), .val (.int dd5), .val (.int dd6), .val (.int dd7), .val (.int ss), .val (.int d8), .val (.ref a), .val (.int ad), .val (.int e9), .val (.ref b8), .unset, .unset, .unset, .unset, .unset] [(.int (2 : Int32)), (.ref a), (.int (2 : Int32)), (.ref b8)])) τ) => pre177 τ (by
    refine XS.aload X176.here hx rfl (hb hby at_499) rfl rfl ?_
    refine XS.iconst X176.here hx rfl (hb hby at_501) ?_
    refine XS.aload X176.here hx rfl (hb hby at_502) rfl rfl ?_
    refine XS.iconst X176.here hx rfl (hb hby at_504) ?_
    show Steps p.tables e below (T176.setTop (mkF m 505 #[.val (.long i0), .second, .val (.int i1), .val (.int i2), .val (.int i3), .val (.int dd0), .val (.int dd1), .val (.int dd2), .val (.int dd3), .val (.int dd4), .val (.int dd5), .val (.int dd6), .val (.int dd7), .val (.int ss), .val (.int d8), .val (.ref a), .val (.int ad), .val (.int e9), .val (.ref b8), .unset, .unset, .unset, .unset, .unset] [(.int (2 : Int32)), (.ref a), (.int (2 : Int32)), (.ref b8)])) _
    exact κ)
  obtain ⟨cl179, Ar179, -, S179, M179, H179, -⟩ := id Va_176
  have in179 : ¬ ((2 : Int32) < 0 ∨ cl179.slots.size ≤ ((2 : Int32)).toNatClampNeg) := inb_of S179 ⟨by decide, by decide⟩
  have at179 : cl179.slots[((2 : Int32)).toNatClampNeg]? = some (.int (g 2)) := H179.at in179 rfl
  have pre180 := fun τ (κ : Steps p.tables e below (T176.setTop (mkF m 506 #[.val (.long i0), .second, .val (.int i1), .val (.int i2), .val (.int i3), .val (.int dd0), .val (.int dd1), .val (.int dd2), .val (.int dd3), .val (.int dd4), .val (.int dd5), .val (.int dd6), .val (.int dd7), .val (.int ss), .val (.int d8), .val (.ref a), .val (.int ad), .val (.int e9), .val (.ref b8), .unset, .unset, .unset, .unset, .unset] [(.int (g 2)), (.int (2 : Int32)), (.ref b8)])) τ) => pre178 τ (by
    refine X176.caload hx (j := (2 : Int32)) (v := (.int (g 2))) (by rw [e176]; exact Ar179.1) (State.isArrayOf_alike hZ.alike Ar179.2.1) Ar179.2.2 in179 at179 (g := (mkF m 505 #[.val (.long i0), .second, .val (.int i1), .val (.int i2), .val (.int i3), .val (.int dd0), .val (.int dd1), .val (.int dd2), .val (.int dd3), .val (.int dd4), .val (.int dd5), .val (.int dd6), .val (.int dd7), .val (.int ss), .val (.int d8), .val (.ref a), .val (.int ad), .val (.int e9), .val (.ref b8), .unset, .unset, .unset, .unset, .unset] [(.int (2 : Int32)), (.ref a), (.int (2 : Int32)), (.ref b8)])) rfl rfl (hb hby at_505) _ ?_
    show Steps p.tables e below (T176.setTop (mkF m 506 #[.val (.long i0), .second, .val (.int i1), .val (.int i2), .val (.int i3), .val (.int dd0), .val (.int dd1), .val (.int dd2), .val (.int dd3), .val (.int dd4), .val (.int dd5), .val (.int dd6), .val (.int dd7), .val (.int ss), .val (.int d8), .val (.ref a), .val (.int ad), .val (.int e9), .val (.ref b8), .unset, .unset, .unset, .unset, .unset] [(.int (g 2)), (.int (2 : Int32)), (.ref b8)])) _
    exact κ)
  obtain ⟨cl181, Ar181, q181, S181, M181, H181, G181⟩ := id V_b8_176
  have in181 : ¬ ((2 : Int32) < 0 ∨ cl181.slots.size ≤ ((2 : Int32)).toNatClampNeg) := inb_of S181 ⟨by decide, by decide⟩
  obtain ⟨T182, h182, X182, e182, W182, st182⟩ := stC X176 hx hZ e176 Ar181 (j := (2 : Int32)) in181 (g := (mkF m 506 #[.val (.long i0), .second, .val (.int i1), .val (.int i2), .val (.int i3), .val (.int dd0), .val (.int dd1), .val (.int dd2), .val (.int dd3), .val (.int dd4), .val (.int dd5), .val (.int dd6), .val (.int dd7), .val (.int ss), .val (.int d8), .val (.ref a), .val (.int ad), .val (.int e9), .val (.ref b8), .unset, .unset, .unset, .unset, .unset] [(.int (g 2)), (.int (2 : Int32)), (.ref b8)])) rfl rfl (hb hby at_506)
  have O0_182 : Old Z n0 h182 := O0_176.wr W182 g_b8
  have Va_182 : Arv Z h182 a k36 .char (Int32.ofNat 9) (own_tab g 9) (.int (0 : Int32)) := Va_176.other W182 ne_a_b8
  have Kp182 : Keep h0 h182 [] := Kp176.wr W182 (Or.inr sz_b8)
  have N182 := Fr.snoc X182 N176 g_b8
  have Z182 : n0 ≤ h182.size := Nat.le_trans Z176 (Keep.of_wr W182).1
  have V_b8_182 : Arv Z h182 b8 k164 .char (8 : Int32) [(.int (nar .char (g 0))), (.int (nar .char (g 1))), (.int (nar .char (g 2))), (.int (0 : Int32)), (.int (0 : Int32)), (.int (0 : Int32)), (.int (0 : Int32)), (.int (0 : Int32))] (.int (0 : Int32)) := Arv.set Ar181 q181 S181 M181 H181 G181 (fits_nar_char _) W182 2 rfl (Nat.le_of_ble_eq_true rfl)
  have pre183 := fun τ (κ : Steps p.tables e below (T182.setTop (mkF m 507 #[.val (.long i0), .second, .val (.int i1), .val (.int i2), .val (.int i3), .val (.int dd0), .val (.int dd1), .val (.int dd2), .val (.int dd3), .val (.int dd4), .val (.int dd5), .val (.int dd6), .val (.int dd7), .val (.int ss), .val (.int d8), .val (.ref a), .val (.int ad), .val (.int e9), .val (.ref b8), .unset, .unset, .unset, .unset, .unset] [])) τ) => pre180 τ (st182 _ κ)
  have pre184 := fun τ (κ : Steps p.tables e below (T182.setTop (mkF m 513 #[.val (.long i0), .second, .val (.int i1), .val (.int i2), .val (.int i3), .val (.int dd0), .val (.int dd1), .val (.int dd2), .val (.int dd3), .val (.int dd4), .val (.int dd5), .val (.int dd6), .val (.int dd7), .val (.int ss), .val (.int d8), .val (.ref a), .val (.int ad), .val (.int e9), .val (.ref b8), .unset, .unset, .unset, .unset, .unset] [(.int (3 : Int32)), (.ref a), (.int (3 : Int32)), (.ref b8)])) τ) => pre183 τ (by
    refine XS.aload X182.here hx rfl (hb hby at_507) rfl rfl ?_
    refine XS.iconst X182.here hx rfl (hb hby at_509) ?_
    refine XS.aload X182.here hx rfl (hb hby at_510) rfl rfl ?_
    refine XS.iconst X182.here hx rfl (hb hby at_512) ?_
    show Steps p.tables e below (T182.setTop (mkF m 513 #[.val (.long i0), .second, .val (.int i1), .val (.int i2), .val (.int i3), .val (.int dd0), .val (.int dd1), .val (.int dd2), .val (.int dd3), .val (.int dd4), .val (.int dd5), .val (.int dd6), .val (.int dd7), .val (.int ss), .val (.int d8), .val (.ref a), .val (.int ad), .val (.int e9), .val (.ref b8), .unset, .unset, .unset, .unset, .unset] [(.int (3 : Int32)), (.ref a), (.int (3 : Int32)), (.ref b8)])) _
    exact κ)
  obtain ⟨cl185, Ar185, -, S185, M185, H185, -⟩ := id Va_182
  have in185 : ¬ ((3 : Int32) < 0 ∨ cl185.slots.size ≤ ((3 : Int32)).toNatClampNeg) := inb_of S185 ⟨by decide, by decide⟩
  have at185 : cl185.slots[((3 : Int32)).toNatClampNeg]? = some (.int (g 3)) := H185.at in185 rfl
  have pre186 := fun τ (κ : Steps p.tables e below (T182.setTop (mkF m 514 #[.val (.long i0), .second, .val (.int i1), .val (.int i2), .val (.int i3), .val (.int dd0), .val (.int dd1), .val (.int dd2), .val (.int dd3), .val (.int dd4), .val (.int dd5), .val (.int dd6), .val (.int dd7), .val (.int ss), .val (.int d8), .val (.ref a), .val (.int ad), .val (.int e9), .val (.ref b8), .unset, .unset, .unset, .unset, .unset] [(.int (g 3)), (.int (3 : Int32)), (.ref b8)])) τ) => pre184 τ (by
    refine X182.caload hx (j := (3 : Int32)) (v := (.int (g 3))) (by rw [e182]; exact Ar185.1) (State.isArrayOf_alike hZ.alike Ar185.2.1) Ar185.2.2 in185 at185 (g := (mkF m 513 #[.val (.long i0), .second, .val (.int i1), .val (.int i2), .val (.int i3), .val (.int dd0), .val (.int dd1), .val (.int dd2), .val (.int dd3), .val (.int dd4), .val (.int dd5), .val (.int dd6), .val (.int dd7), .val (.int ss), .val (.int d8), .val (.ref a), .val (.int ad), .val (.int e9), .val (.ref b8), .unset, .unset, .unset, .unset, .unset] [(.int (3 : Int32)), (.ref a), (.int (3 : Int32)), (.ref b8)])) rfl rfl (hb hby at_513) _ ?_
    show Steps p.tables e below (T182.setTop (mkF m 514 #[.val (.long i0), .second, .val (.int i1), .val (.int i2), .val (.int i3), .val (.int dd0), .val (.int dd1), .val (.int dd2), .val (.int dd3), .val (.int dd4), .val (.int dd5), .val (.int dd6), .val (.int dd7), .val (.int ss), .val (.int d8), .val (.ref a), .val (.int ad), .val (.int e9), .val (.ref b8), .unset, .unset, .unset, .unset, .unset] [(.int (g 3)), (.int (3 : Int32)), (.ref b8)])) _
    exact κ)
  obtain ⟨cl187, Ar187, q187, S187, M187, H187, G187⟩ := id V_b8_182
  have in187 : ¬ ((3 : Int32) < 0 ∨ cl187.slots.size ≤ ((3 : Int32)).toNatClampNeg) := inb_of S187 ⟨by decide, by decide⟩
  obtain ⟨T188, h188, X188, e188, W188, st188⟩ := stC X182 hx hZ e182 Ar187 (j := (3 : Int32)) in187 (g := (mkF m 514 #[.val (.long i0), .second, .val (.int i1), .val (.int i2), .val (.int i3), .val (.int dd0), .val (.int dd1), .val (.int dd2), .val (.int dd3), .val (.int dd4), .val (.int dd5), .val (.int dd6), .val (.int dd7), .val (.int ss), .val (.int d8), .val (.ref a), .val (.int ad), .val (.int e9), .val (.ref b8), .unset, .unset, .unset, .unset, .unset] [(.int (g 3)), (.int (3 : Int32)), (.ref b8)])) rfl rfl (hb hby at_514)
  have O0_188 : Old Z n0 h188 := O0_182.wr W188 g_b8
  have Va_188 : Arv Z h188 a k36 .char (Int32.ofNat 9) (own_tab g 9) (.int (0 : Int32)) := Va_182.other W188 ne_a_b8
  have Kp188 : Keep h0 h188 [] := Kp182.wr W188 (Or.inr sz_b8)
  have N188 := Fr.snoc X188 N182 g_b8
  have Z188 : n0 ≤ h188.size := Nat.le_trans Z182 (Keep.of_wr W188).1
  have V_b8_188 : Arv Z h188 b8 k164 .char (8 : Int32) [(.int (nar .char (g 0))), (.int (nar .char (g 1))), (.int (nar .char (g 2))), (.int (nar .char (g 3))), (.int (0 : Int32)), (.int (0 : Int32)), (.int (0 : Int32)), (.int (0 : Int32))] (.int (0 : Int32)) := Arv.set Ar187 q187 S187 M187 H187 G187 (fits_nar_char _) W188 3 rfl (Nat.le_of_ble_eq_true rfl)
  have pre189 := fun τ (κ : Steps p.tables e below (T188.setTop (mkF m 515 #[.val (.long i0), .second, .val (.int i1), .val (.int i2), .val (.int i3), .val (.int dd0), .val (.int dd1), .val (.int dd2), .val (.int dd3), .val (.int dd4), .val (.int dd5), .val (.int dd6), .val (.int dd7), .val (.int ss), .val (.int d8), .val (.ref a), .val (.int ad), .val (.int e9), .val (.ref b8), .unset, .unset, .unset, .unset, .unset] [])) τ) => pre186 τ (st188 _ κ)
  have pre190 := fun τ (κ : Steps p.tables e below (T188.setTop (mkF m 521 #[.val (.long i0), .second, .val (.int i1), .val (.int i2), .val (.int i3), .val (.int dd0), .val (.int dd1), .val (.int dd2), .val (.int dd3), .val (.int dd4), .val (.int dd5), .val (.int dd6), .val (.int dd7), .val (.int ss), .val (.int d8), .val (.ref a), .val (.int ad), .val (.int e9), .val (.ref b8), .unset, .unset, .unset, .unset, .unset] [(.int (4 : Int32)), (.ref a), (.int (4 : Int32)), (.ref b8)])) τ) => pre189 τ (by
    refine XS.aload X188.here hx rfl (hb hby at_515) rfl rfl ?_
    refine XS.iconst X188.here hx rfl (hb hby at_517) ?_
    refine XS.aload X188.here hx rfl (hb hby at_518) rfl rfl ?_
    refine XS.iconst X188.here hx rfl (hb hby at_520) ?_
    show Steps p.tables e below (T188.setTop (mkF m 521 #[.val (.long i0), .second, .val (.int i1), .val (.int i2), .val (.int i3), .val (.int dd0), .val (.int dd1), .val (.int dd2), .val (.int dd3), .val (.int dd4), .val (.int dd5), .val (.int dd6), .val (.int dd7), .val (.int ss), .val (.int d8), .val (.ref a), .val (.int ad), .val (.int e9), .val (.ref b8), .unset, .unset, .unset, .unset, .unset] [(.int (4 : Int32)), (.ref a), (.int (4 : Int32)), (.ref b8)])) _
    exact κ)
  obtain ⟨cl191, Ar191, -, S191, M191, H191, -⟩ := id Va_188
  have in191 : ¬ ((4 : Int32) < 0 ∨ cl191.slots.size ≤ ((4 : Int32)).toNatClampNeg) := inb_of S191 ⟨by decide, by decide⟩
  have at191 : cl191.slots[((4 : Int32)).toNatClampNeg]? = some (.int (g 4)) := H191.at in191 rfl
  have pre192 := fun τ (κ : Steps p.tables e below (T188.setTop (mkF m 522 #[.val (.long i0), .second, .val (.int i1), .val (.int i2), .val (.int i3), .val (.int dd0), .val (.int dd1), .val (.int dd2), .val (.int dd3), .val (.int dd4), .val (.int dd5), .val (.int dd6), .val (.int dd7), .val (.int ss), .val (.int d8), .val (.ref a), .val (.int ad), .val (.int e9), .val (.ref b8), .unset, .unset, .unset, .unset, .unset] [(.int (g 4)), (.int (4 : Int32)), (.ref b8)])) τ) => pre190 τ (by
    refine X188.caload hx (j := (4 : Int32)) (v := (.int (g 4))) (by rw [e188]; exact Ar191.1) (State.isArrayOf_alike hZ.alike Ar191.2.1) Ar191.2.2 in191 at191 (g := (mkF m 521 #[.val (.long i0), .second, .val (.int i1), .val (.int i2), .val (.int i3), .val (.int dd0), .val (.int dd1), .val (.int dd2), .val (.int dd3), .val (.int dd4), .val (.int dd5), .val (.int dd6), .val (.int dd7), .val (.int ss), .val (.int d8), .val (.ref a), .val (.int ad), .val (.int e9), .val (.ref b8), .unset, .unset, .unset, .unset, .unset] [(.int (4 : Int32)), (.ref a), (.int (4 : Int32)), (.ref b8)])) rfl rfl (hb hby at_521) _ ?_
    show Steps p.tables e below (T188.setTop (mkF m 522 #[.val (.long i0), .second, .val (.int i1), .val (.int i2), .val (.int i3), .val (.int dd0), .val (.int dd1), .val (.int dd2), .val (.int dd3), .val (.int dd4), .val (.int dd5), .val (.int dd6), .val (.int dd7), .val (.int ss), .val (.int d8), .val (.ref a), .val (.int ad), .val (.int e9), .val (.ref b8), .unset, .unset, .unset, .unset, .unset] [(.int (g 4)), (.int (4 : Int32)), (.ref b8)])) _
    exact κ)
  obtain ⟨cl193, Ar193, q193, S193, M193, H193, G193⟩ := id V_b8_188
  have in193 : ¬ ((4 : Int32) < 0 ∨ cl193.slots.size ≤ ((4 : Int32)).toNatClampNeg) := inb_of S193 ⟨by decide, by decide⟩
  obtain ⟨T194, h194, X194, e194, W194, st194⟩ := stC X188 hx hZ e188 Ar193 (j := (4 : Int32)) in193 (g := (mkF m 522 #[.val (.long i0), .second, .val (.int i1), .val (.int i2), .val (.int i3), .val (.int dd0), .val (.int dd1), .val (.int dd2), .val (.int dd3), .val (.int dd4), .val (.int dd5), .val (.int dd6), .val (.int dd7), .val (.int ss), .val (.int d8), .val (.ref a), .val (.int ad), .val (.int e9), .val (.ref b8), .unset, .unset, .unset, .unset, .unset] [(.int (g 4)), (.int (4 : Int32)), (.ref b8)])) rfl rfl (hb hby at_522)
  have O0_194 : Old Z n0 h194 := O0_188.wr W194 g_b8
  have Va_194 : Arv Z h194 a k36 .char (Int32.ofNat 9) (own_tab g 9) (.int (0 : Int32)) := Va_188.other W194 ne_a_b8
  have Kp194 : Keep h0 h194 [] := Kp188.wr W194 (Or.inr sz_b8)
  have N194 := Fr.snoc X194 N188 g_b8
  have Z194 : n0 ≤ h194.size := Nat.le_trans Z188 (Keep.of_wr W194).1
  have V_b8_194 : Arv Z h194 b8 k164 .char (8 : Int32) [(.int (nar .char (g 0))), (.int (nar .char (g 1))), (.int (nar .char (g 2))), (.int (nar .char (g 3))), (.int (nar .char (g 4))), (.int (0 : Int32)), (.int (0 : Int32)), (.int (0 : Int32))] (.int (0 : Int32)) := Arv.set Ar193 q193 S193 M193 H193 G193 (fits_nar_char _) W194 4 rfl (Nat.le_of_ble_eq_true rfl)
  have pre195 := fun τ (κ : Steps p.tables e below (T194.setTop (mkF m 523 #[.val (.long i0), .second, .val (.int i1), .val (.int i2), .val (.int i3), .val (.int dd0), .val (.int dd1), .val (.int dd2), .val (.int dd3), .val (.int dd4), .val (.int dd5), .val (.int dd6), .val (.int dd7), .val (.int ss), .val (.int d8), .val (.ref a), .val (.int ad), .val (.int e9), .val (.ref b8), .unset, .unset, .unset, .unset, .unset] [])) τ) => pre192 τ (st194 _ κ)
  have pre196 := fun τ (κ : Steps p.tables e below (T194.setTop (mkF m 529 #[.val (.long i0), .second, .val (.int i1), .val (.int i2), .val (.int i3), .val (.int dd0), .val (.int dd1), .val (.int dd2), .val (.int dd3), .val (.int dd4), .val (.int dd5), .val (.int dd6), .val (.int dd7), .val (.int ss), .val (.int d8), .val (.ref a), .val (.int ad), .val (.int e9), .val (.ref b8), .unset, .unset, .unset, .unset, .unset] [(.int (5 : Int32)), (.ref a), (.int (5 : Int32)), (.ref b8)])) τ) => pre195 τ (by
    refine XS.aload X194.here hx rfl (hb hby at_523) rfl rfl ?_
    refine XS.iconst X194.here hx rfl (hb hby at_525) ?_
    refine XS.aload X194.here hx rfl (hb hby at_526) rfl rfl ?_
    refine XS.iconst X194.here hx rfl (hb hby at_528) ?_
    show Steps p.tables e below (T194.setTop (mkF m 529 #[.val (.long i0), .second, .val (.int i1), .val (.int i2), .val (.int i3), .val (.int dd0), .val (.int dd1), .val (.int dd2), .val (.int dd3), .val (.int dd4), .val (.int dd5), .val (.int dd6), .val (.int dd7), .val (.int ss), .val (.int d8), .val (.ref a), .val (.int ad), .val (.int e9), .val (.ref b8), .unset, .unset, .unset, .unset, .unset] [(.int (5 : Int32)), (.ref a), (.int (5 : Int32)), (.ref b8)])) _
    exact κ)
  obtain ⟨cl197, Ar197, -, S197, M197, H197, -⟩ := id Va_194
  have in197 : ¬ ((5 : Int32) < 0 ∨ cl197.slots.size ≤ ((5 : Int32)).toNatClampNeg) := inb_of S197 ⟨by decide, by decide⟩
  have at197 : cl197.slots[((5 : Int32)).toNatClampNeg]? = some (.int (g 5)) := H197.at in197 rfl
  have pre198 := fun τ (κ : Steps p.tables e below (T194.setTop (mkF m 530 #[.val (.long i0), .second, .val (.int i1), .val (.int i2), .val (.int i3), .val (.int dd0), .val (.int dd1), .val (.int dd2), .val (.int dd3), .val (.int dd4), .val (.int dd5), .val (.int dd6), .val (.int dd7), .val (.int ss), .val (.int d8), .val (.ref a), .val (.int ad), .val (.int e9), .val (.ref b8), .unset, .unset, .unset, .unset, .unset] [(.int (g 5)), (.int (5 : Int32)), (.ref b8)])) τ) => pre196 τ (by
    refine X194.caload hx (j := (5 : Int32)) (v := (.int (g 5))) (by rw [e194]; exact Ar197.1) (State.isArrayOf_alike hZ.alike Ar197.2.1) Ar197.2.2 in197 at197 (g := (mkF m 529 #[.val (.long i0), .second, .val (.int i1), .val (.int i2), .val (.int i3), .val (.int dd0), .val (.int dd1), .val (.int dd2), .val (.int dd3), .val (.int dd4), .val (.int dd5), .val (.int dd6), .val (.int dd7), .val (.int ss), .val (.int d8), .val (.ref a), .val (.int ad), .val (.int e9), .val (.ref b8), .unset, .unset, .unset, .unset, .unset] [(.int (5 : Int32)), (.ref a), (.int (5 : Int32)), (.ref b8)])) rfl rfl (hb hby at_529) _ ?_
    show Steps p.tables e below (T194.setTop (mkF m 530 #[.val (.long i0), .second, .val (.int i1), .val (.int i2), .val (.int i3), .val (.int dd0), .val (.int dd1), .val (.int dd2), .val (.int dd3), .val (.int dd4), .val (.int dd5), .val (.int dd6), .val (.int dd7), .val (.int ss), .val (.int d8), .val (.ref a), .val (.int ad), .val (.int e9), .val (.ref b8), .unset, .unset, .unset, .unset, .unset] [(.int (g 5)), (.int (5 : Int32)), (.ref b8)])) _
    exact κ)
  obtain ⟨cl199, Ar199, q199, S199, M199, H199, G199⟩ := id V_b8_194
  have in199 : ¬ ((5 : Int32) < 0 ∨ cl199.slots.size ≤ ((5 : Int32)).toNatClampNeg) := inb_of S199 ⟨by decide, by decide⟩
  obtain ⟨T200, h200, X200, e200, W200, st200⟩ := stC X194 hx hZ e194 Ar199 (j := (5 : Int32)) in199 (g := (mkF m 530 #[.val (.long i0), .second, .val (.int i1), .val (.int i2), .val (.int i3), .val (.int dd0), .val (.int dd1), .val (.int dd2), .val (.int dd3), .val (.int dd4), .val (.int dd5), .val (.int dd6), .val (.int dd7), .val (.int ss), .val (.int d8), .val (.ref a), .val (.int ad), .val (.int e9), .val (.ref b8), .unset, .unset, .unset, .unset, .unset] [(.int (g 5)), (.int (5 : Int32)), (.ref b8)])) rfl rfl (hb hby at_530)
  have O0_200 : Old Z n0 h200 := O0_194.wr W200 g_b8
  have Va_200 : Arv Z h200 a k36 .char (Int32.ofNat 9) (own_tab g 9) (.int (0 : Int32)) := Va_194.other W200 ne_a_b8
  have Kp200 : Keep h0 h200 [] := Kp194.wr W200 (Or.inr sz_b8)
  have N200 := Fr.snoc X200 N194 g_b8
  have Z200 : n0 ≤ h200.size := Nat.le_trans Z194 (Keep.of_wr W200).1
  have V_b8_200 : Arv Z h200 b8 k164 .char (8 : Int32) [(.int (nar .char (g 0))), (.int (nar .char (g 1))), (.int (nar .char (g 2))), (.int (nar .char (g 3))), (.int (nar .char (g 4))), (.int (nar .char (g 5))), (.int (0 : Int32)), (.int (0 : Int32))] (.int (0 : Int32)) := Arv.set Ar199 q199 S199 M199 H199 G199 (fits_nar_char _) W200 5 rfl (Nat.le_of_ble_eq_true rfl)
  have pre201 := fun τ (κ : Steps p.tables e below (T200.setTop (mkF m 531 #[.val (.long i0), .second, .val (.int i1), .val (.int i2), .val (.int i3), .val (.int dd0), .val (.int dd1), .val (.int dd2), .val (.int dd3), .val (.int dd4), .val (.int dd5), .val (.int dd6), .val (.int dd7), .val (.int ss), .val (.int d8), .val (.ref a), .val (.int ad), .val (.int e9), .val (.ref b8), .unset, .unset, .unset, .unset, .unset] [])) τ) => pre198 τ (st200 _ κ)
  have pre202 := fun τ (κ : Steps p.tables e below (T200.setTop (mkF m 539 #[.val (.long i0), .second, .val (.int i1), .val (.int i2), .val (.int i3), .val (.int dd0), .val (.int dd1), .val (.int dd2), .val (.int dd3), .val (.int dd4), .val (.int dd5), .val (.int dd6), .val (.int dd7), .val (.int ss), .val (.int d8), .val (.ref a), .val (.int ad), .val (.int e9), .val (.ref b8), .unset, .unset, .unset, .unset, .unset] [(.int (6 : Int32)), (.ref a), (.int (6 : Int32)), (.ref b8)])) τ) => pre201 τ (by
    refine XS.aload X200.here hx rfl (hb hby at_531) rfl rfl ?_
    refine XS.bipush X200.here hx rfl (hb hby at_533) ?_
    refine XS.aload X200.here hx rfl (hb hby at_535) rfl rfl ?_
    refine XS.bipush X200.here hx rfl (hb hby at_537) ?_
    show Steps p.tables e below (T200.setTop (mkF m 539 #[.val (.long i0), .second, .val (.int i1), .val (.int i2), .val (.int i3), .val (.int dd0), .val (.int dd1), .val (.int dd2), .val (.int dd3), .val (.int dd4), .val (.int dd5), .val (.int dd6), .val (.int dd7), .val (.int ss), .val (.int d8), .val (.ref a), .val (.int ad), .val (.int e9), .val (.ref b8), .unset, .unset, .unset, .unset, .unset] [(.int (6 : Int32)), (.ref a), (.int (6 : Int32)), (.ref b8)])) _
    exact κ)
  obtain ⟨cl203, Ar203, -, S203, M203, H203, -⟩ := id Va_200
  have in203 : ¬ ((6 : Int32) < 0 ∨ cl203.slots.size ≤ ((6 : Int32)).toNatClampNeg) := inb_of S203 ⟨by decide, by decide⟩
  have at203 : cl203.slots[((6 : Int32)).toNatClampNeg]? = some (.int (g 6)) := H203.at in203 rfl
  have pre204 := fun τ (κ : Steps p.tables e below (T200.setTop (mkF m 540 #[.val (.long i0), .second, .val (.int i1), .val (.int i2), .val (.int i3), .val (.int dd0), .val (.int dd1), .val (.int dd2), .val (.int dd3), .val (.int dd4), .val (.int dd5), .val (.int dd6), .val (.int dd7), .val (.int ss), .val (.int d8), .val (.ref a), .val (.int ad), .val (.int e9), .val (.ref b8), .unset, .unset, .unset, .unset, .unset] [(.int (g 6)), (.int (6 : Int32)), (.ref b8)])) τ) => pre202 τ (by
    refine X200.caload hx (j := (6 : Int32)) (v := (.int (g 6))) (by rw [e200]; exact Ar203.1) (State.isArrayOf_alike hZ.alike Ar203.2.1) Ar203.2.2 in203 at203 (g := (mkF m 539 #[.val (.long i0), .second, .val (.int i1), .val (.int i2), .val (.int i3), .val (.int dd0), .val (.int dd1), .val (.int dd2), .val (.int dd3), .val (.int dd4), .val (.int dd5), .val (.int dd6), .val (.int dd7), .val (.int ss), .val (.int d8), .val (.ref a), .val (.int ad), .val (.int e9), .val (.ref b8), .unset, .unset, .unset, .unset, .unset] [(.int (6 : Int32)), (.ref a), (.int (6 : Int32)), (.ref b8)])) rfl rfl (hb hby at_539) _ ?_
    show Steps p.tables e below (T200.setTop (mkF m 540 #[.val (.long i0), .second, .val (.int i1), .val (.int i2), .val (.int i3), .val (.int dd0), .val (.int dd1), .val (.int dd2), .val (.int dd3), .val (.int dd4), .val (.int dd5), .val (.int dd6), .val (.int dd7), .val (.int ss), .val (.int d8), .val (.ref a), .val (.int ad), .val (.int e9), .val (.ref b8), .unset, .unset, .unset, .unset, .unset] [(.int (g 6)), (.int (6 : Int32)), (.ref b8)])) _
    exact κ)
  obtain ⟨cl205, Ar205, q205, S205, M205, H205, G205⟩ := id V_b8_200
  have in205 : ¬ ((6 : Int32) < 0 ∨ cl205.slots.size ≤ ((6 : Int32)).toNatClampNeg) := inb_of S205 ⟨by decide, by decide⟩
  obtain ⟨T206, h206, X206, e206, W206, st206⟩ := stC X200 hx hZ e200 Ar205 (j := (6 : Int32)) in205 (g := (mkF m 540 #[.val (.long i0), .second, .val (.int i1), .val (.int i2), .val (.int i3), .val (.int dd0), .val (.int dd1), .val (.int dd2), .val (.int dd3), .val (.int dd4), .val (.int dd5), .val (.int dd6), .val (.int dd7), .val (.int ss), .val (.int d8), .val (.ref a), .val (.int ad), .val (.int e9), .val (.ref b8), .unset, .unset, .unset, .unset, .unset] [(.int (g 6)), (.int (6 : Int32)), (.ref b8)])) rfl rfl (hb hby at_540)
  have O0_206 : Old Z n0 h206 := O0_200.wr W206 g_b8
  have Va_206 : Arv Z h206 a k36 .char (Int32.ofNat 9) (own_tab g 9) (.int (0 : Int32)) := Va_200.other W206 ne_a_b8
  have Kp206 : Keep h0 h206 [] := Kp200.wr W206 (Or.inr sz_b8)
  have N206 := Fr.snoc X206 N200 g_b8
  have Z206 : n0 ≤ h206.size := Nat.le_trans Z200 (Keep.of_wr W206).1
  have V_b8_206 : Arv Z h206 b8 k164 .char (8 : Int32) [(.int (nar .char (g 0))), (.int (nar .char (g 1))), (.int (nar .char (g 2))), (.int (nar .char (g 3))), (.int (nar .char (g 4))), (.int (nar .char (g 5))), (.int (nar .char (g 6))), (.int (0 : Int32))] (.int (0 : Int32)) := Arv.set Ar205 q205 S205 M205 H205 G205 (fits_nar_char _) W206 6 rfl (Nat.le_of_ble_eq_true rfl)
  have pre207 := fun τ (κ : Steps p.tables e below (T206.setTop (mkF m 541 #[.val (.long i0), .second, .val (.int i1), .val (.int i2), .val (.int i3), .val (.int dd0), .val (.int dd1), .val (.int dd2), .val (.int dd3), .val (.int dd4), .val (.int dd5), .val (.int dd6), .val (.int dd7), .val (.int ss), .val (.int d8), .val (.ref a), .val (.int ad), .val (.int e9), .val (.ref b8), .unset, .unset, .unset, .unset, .unset] [])) τ) => pre204 τ (st206 _ κ)
  have pre208 := fun τ (κ : Steps p.tables e below (T206.setTop (mkF m 549 #[.val (.long i0), .second, .val (.int i1), .val (.int i2), .val (.int i3), .val (.int dd0), .val (.int dd1), .val (.int dd2), .val (.int dd3), .val (.int dd4), .val (.int dd5), .val (.int dd6), .val (.int dd7), .val (.int ss), .val (.int d8), .val (.ref a), .val (.int ad), .val (.int e9), .val (.ref b8), .unset, .unset, .unset, .unset, .unset] [(.int (7 : Int32)), (.ref a), (.int (7 : Int32)), (.ref b8)])) τ) => pre207 τ (by
    refine XS.aload X206.here hx rfl (hb hby at_541) rfl rfl ?_
    refine XS.bipush X206.here hx rfl (hb hby at_543) ?_
    refine XS.aload X206.here hx rfl (hb hby at_545) rfl rfl ?_
    refine XS.bipush X206.here hx rfl (hb hby at_547) ?_
    show Steps p.tables e below (T206.setTop (mkF m 549 #[.val (.long i0), .second, .val (.int i1), .val (.int i2), .val (.int i3), .val (.int dd0), .val (.int dd1), .val (.int dd2), .val (.int dd3), .val (.int dd4), .val (.int dd5), .val (.int dd6), .val (.int dd7), .val (.int ss), .val (.int d8), .val (.ref a), .val (.int ad), .val (.int e9), .val (.ref b8), .unset, .unset, .unset, .unset, .unset] [(.int (7 : Int32)), (.ref a), (.int (7 : Int32)), (.ref b8)])) _
    exact κ)
  obtain ⟨cl209, Ar209, -, S209, M209, H209, -⟩ := id Va_206
  have in209 : ¬ ((7 : Int32) < 0 ∨ cl209.slots.size ≤ ((7 : Int32)).toNatClampNeg) := inb_of S209 ⟨by decide, by decide⟩
  have at209 : cl209.slots[((7 : Int32)).toNatClampNeg]? = some (.int (g 7)) := H209.at in209 rfl
  have pre210 := fun τ (κ : Steps p.tables e below (T206.setTop (mkF m 550 #[.val (.long i0), .second, .val (.int i1), .val (.int i2), .val (.int i3), .val (.int dd0), .val (.int dd1), .val (.int dd2), .val (.int dd3), .val (.int dd4), .val (.int dd5), .val (.int dd6), .val (.int dd7), .val (.int ss), .val (.int d8), .val (.ref a), .val (.int ad), .val (.int e9), .val (.ref b8), .unset, .unset, .unset, .unset, .unset] [(.int (g 7)), (.int (7 : Int32)), (.ref b8)])) τ) => pre208 τ (by
    refine X206.caload hx (j := (7 : Int32)) (v := (.int (g 7))) (by rw [e206]; exact Ar209.1) (State.isArrayOf_alike hZ.alike Ar209.2.1) Ar209.2.2 in209 at209 (g := (mkF m 549 #[.val (.long i0), .second, .val (.int i1), .val (.int i2), .val (.int i3), .val (.int dd0), .val (.int dd1), .val (.int dd2), .val (.int dd3), .val (.int dd4), .val (.int dd5), .val (.int dd6), .val (.int dd7), .val (.int ss), .val (.int d8), .val (.ref a), .val (.int ad), .val (.int e9), .val (.ref b8), .unset, .unset, .unset, .unset, .unset] [(.int (7 : Int32)), (.ref a), (.int (7 : Int32)), (.ref b8)])) rfl rfl (hb hby at_549) _ ?_
    show Steps p.tables e below (T206.setTop (mkF m 550 #[.val (.long i0), .second, .val (.int i1), .val (.int i2), .val (.int i3), .val (.int dd0), .val (.int dd1), .val (.int dd2), .val (.int dd3), .val (.int dd4), .val (.int dd5), .val (.int dd6), .val (.int dd7), .val (.int ss), .val (.int d8), .val (.ref a), .val (.int ad), .val (.int e9), .val (.ref b8), .unset, .unset, .unset, .unset, .unset] [(.int (g 7)), (.int (7 : Int32)), (.ref b8)])) _
    exact κ)
  obtain ⟨cl211, Ar211, q211, S211, M211, H211, G211⟩ := id V_b8_206
  have in211 : ¬ ((7 : Int32) < 0 ∨ cl211.slots.size ≤ ((7 : Int32)).toNatClampNeg) := inb_of S211 ⟨by decide, by decide⟩
  obtain ⟨T212, h212, X212, e212, W212, st212⟩ := stC X206 hx hZ e206 Ar211 (j := (7 : Int32)) in211 (g := (mkF m 550 #[.val (.long i0), .second, .val (.int i1), .val (.int i2), .val (.int i3), .val (.int dd0), .val (.int dd1), .val (.int dd2), .val (.int dd3), .val (.int dd4), .val (.int dd5), .val (.int dd6), .val (.int dd7), .val (.int ss), .val (.int d8), .val (.ref a), .val (.int ad), .val (.int e9), .val (.ref b8), .unset, .unset, .unset, .unset, .unset] [(.int (g 7)), (.int (7 : Int32)), (.ref b8)])) rfl rfl (hb hby at_550)
  have O0_212 : Old Z n0 h212 := O0_206.wr W212 g_b8
  have Va_212 : Arv Z h212 a k36 .char (Int32.ofNat 9) (own_tab g 9) (.int (0 : Int32)) := Va_206.other W212 ne_a_b8
  have Kp212 : Keep h0 h212 [] := Kp206.wr W212 (Or.inr sz_b8)
  have N212 := Fr.snoc X212 N206 g_b8
  have Z212 : n0 ≤ h212.size := Nat.le_trans Z206 (Keep.of_wr W212).1
  have V_b8_212 : Arv Z h212 b8 k164 .char (8 : Int32) [(.int (nar .char (g 0))), (.int (nar .char (g 1))), (.int (nar .char (g 2))), (.int (nar .char (g 3))), (.int (nar .char (g 4))), (.int (nar .char (g 5))), (.int (nar .char (g 6))), (.int (nar .char (g 7)))] (.int (0 : Int32)) := Arv.set Ar211 q211 S211 M211 H211 G211 (fits_nar_char _) W212 7 rfl (Nat.le_of_ble_eq_true rfl)
  have pre213 := fun τ (κ : Steps p.tables e below (T212.setTop (mkF m 551 #[.val (.long i0), .second, .val (.int i1), .val (.int i2), .val (.int i3), .val (.int dd0), .val (.int dd1), .val (.int dd2), .val (.int dd3), .val (.int dd4), .val (.int dd5), .val (.int dd6), .val (.int dd7), .val (.int ss), .val (.int d8), .val (.ref a), .val (.int ad), .val (.int e9), .val (.ref b8), .unset, .unset, .unset, .unset, .unset] [])) τ) => pre210 τ (st212 _ κ)
  obtain ⟨g8, h_g8⟩ : ∃ z : Nat → Int32, z = fun j => [(nar .char (g 0)), (nar .char (g 1)), (nar .char (g 2)), (nar .char (g 3)), (nar .char (g 4)), (nar .char (g 5)), (nar .char (g 6)), (nar .char (g 7))].getD j 0 := ⟨_, rfl⟩
  have V8 : Arv Z h212 b8 k164 .char (Int32.ofNat 8) (own_tab g8 8) (.int (0 : Int32)) := by rw [h_g8]; exact V_b8_212
  have hc_g8 : ∀ j, j < 8 → own_ch (g8 j) := by
    intro j hj
    rw [h_g8]
    match j, hj with
    | 0, _ => exact own_chn _
    | 1, _ => exact own_chn _
    | 2, _ => exact own_chn _
    | 3, _ => exact own_chn _
    | 4, _ => exact own_chn _
    | 5, _ => exact own_chn _
    | 6, _ => exact own_chn _
    | 7, _ => exact own_chn _
  have pre214 := fun τ (κ : Steps p.tables e below (T212.setTop (mkF m 553 #[.val (.long i0), .second, .val (.int i1), .val (.int i2), .val (.int i3), .val (.int dd0), .val (.int dd1), .val (.int dd2), .val (.int dd3), .val (.int dd4), .val (.int dd5), .val (.int dd6), .val (.int dd7), .val (.int ss), .val (.int d8), .val (.ref a), .val (.int ad), .val (.int e9), .val (.ref b8), .unset, .unset, .unset, .unset, .unset] [(.int (10 : Int32))])) τ) => pre213 τ (by
    refine XS.bipush X212.here hx rfl (hb hby at_551) ?_
    show Steps p.tables e below (T212.setTop (mkF m 553 #[.val (.long i0), .second, .val (.int i1), .val (.int i2), .val (.int i3), .val (.int dd0), .val (.int dd1), .val (.int dd2), .val (.int dd3), .val (.int dd4), .val (.int dd5), .val (.int dd6), .val (.int dd7), .val (.int ss), .val (.int d8), .val (.ref a), .val (.int ad), .val (.int e9), .val (.ref b8), .unset, .unset, .unset, .unset, .unset] [(.int (10 : Int32))])) _
    exact κ)
  obtain ⟨T215, h215, k215, X215, e215, E215, A215, st215⟩ := newP X212 hx hZ (hw _ (List.mem_of_getElem? (i := 6) rfl)) e212 (g := (mkF m 553 #[.val (.long i0), .second, .val (.int i1), .val (.int i2), .val (.int i3), .val (.int dd0), .val (.int dd1), .val (.int dd2), .val (.int dd3), .val (.int dd4), .val (.int dd5), .val (.int dd6), .val (.int dd7), .val (.int ss), .val (.int d8), .val (.ref a), .val (.int ad), .val (.int e9), .val (.ref b8), .unset, .unset, .unset, .unset, .unset] [(.int (10 : Int32))])) rfl (hb hby at_553) rfl (by decide) (cap := 10) (by decide) (by decide) (by decide) (by decide)
  obtain ⟨bt, g215⟩ : ∃ z, z = h212.size := ⟨_, rfl⟩
  rw [← g215] at A215 st215
  have g_bt : n0 ≤ bt := Nat.le_trans Z212 (Nat.le_of_eq g215.symm)
  have ne_a_bt : a ≠ bt := Nat.ne_of_lt (Nat.lt_of_lt_of_le Va_212.lt (Nat.le_of_eq g215.symm))
  have ne_b8_bt : b8 ≠ bt := Nat.ne_of_lt (Nat.lt_of_lt_of_le V8.lt (Nat.le_of_eq g215.symm))
  have O0_215 : Old Z n0 h215 := O0_212.ext E215
  have Va_215 : Arv Z h215 a k36 .char (Int32.ofNat 9) (own_tab g 9) (.int (0 : Int32)) := Va_212.ext E215
  have V8_215 : Arv Z h215 b8 k164 .char (Int32.ofNat 8) (own_tab g8 (8)) (.int (0 : Int32)) := V8.ext E215
  have sz_bt : h0.size ≤ bt := Nat.le_trans Kp212.1 (Nat.le_of_eq g215.symm)
  have Kp215 : Keep h0 h215 [] := Kp212.ext E215
  have Z215 : n0 ≤ h215.size := Nat.le_trans Z212 E215.1
  have V_bt_215 : Arv Z h215 bt k215 .char (10 : Int32) [(.int (0 : Int32)), (.int (0 : Int32)), (.int (0 : Int32)), (.int (0 : Int32)), (.int (0 : Int32)), (.int (0 : Int32)), (.int (0 : Int32)), (.int (0 : Int32)), (.int (0 : Int32)), (.int (0 : Int32))] (.int (0 : Int32)) := (Arv.new A215 (by decide)).pad (pad_rep [] (.int (0 : Int32)) 10)
  have pre216 := fun τ (κ : Steps p.tables e below (T215.setTop (mkF m 555 #[.val (.long i0), .second, .val (.int i1), .val (.int i2), .val (.int i3), .val (.int dd0), .val (.int dd1), .val (.int dd2), .val (.int dd3), .val (.int dd4), .val (.int dd5), .val (.int dd6), .val (.int dd7), .val (.int ss), .val (.int d8), .val (.ref a), .val (.int ad), .val (.int e9), .val (.ref b8), .unset, .unset, .unset, .unset, .unset] [(.ref bt)])) τ) => pre214 τ (st215 _ κ)
  have pre217 := fun τ (κ : Steps p.tables e below (T215.setTop (mkF m 563 #[.val (.long i0), .second, .val (.int i1), .val (.int i2), .val (.int i3), .val (.int dd0), .val (.int dd1), .val (.int dd2), .val (.int dd3), .val (.int dd4), .val (.int dd5), .val (.int dd6), .val (.int dd7), .val (.int ss), .val (.int d8), .val (.ref a), .val (.int ad), .val (.int e9), .val (.ref b8), .val (.ref bt), .unset, .unset, .unset, .unset] [(.int (0 : Int32)), (.ref a), (.int (0 : Int32)), (.ref bt)])) τ) => pre216 τ (by
    refine XS.astore X215.here hx rfl (hb hby at_555) rfl rfl (l' := #[.val (.long i0), .second, .val (.int i1), .val (.int i2), .val (.int i3), .val (.int dd0), .val (.int dd1), .val (.int dd2), .val (.int dd3), .val (.int dd4), .val (.int dd5), .val (.int dd6), .val (.int dd7), .val (.int ss), .val (.int d8), .val (.ref a), .val (.int ad), .val (.int e9), .val (.ref b8), .val (.ref bt), .unset, .unset, .unset, .unset]) rfl ?_
    show Steps p.tables e below (T215.setTop (mkF m 557 #[.val (.long i0), .second, .val (.int i1), .val (.int i2), .val (.int i3), .val (.int dd0), .val (.int dd1), .val (.int dd2), .val (.int dd3), .val (.int dd4), .val (.int dd5), .val (.int dd6), .val (.int dd7), .val (.int ss), .val (.int d8), .val (.ref a), .val (.int ad), .val (.int e9), .val (.ref b8), .val (.ref bt), .unset, .unset, .unset, .unset] [])) _
    refine XS.aload X215.here hx rfl (hb hby at_557) rfl rfl ?_
    refine XS.iconst X215.here hx rfl (hb hby at_559) ?_
    refine XS.aload X215.here hx rfl (hb hby at_560) rfl rfl ?_
    refine XS.iconst X215.here hx rfl (hb hby at_562) ?_
    show Steps p.tables e below (T215.setTop (mkF m 563 #[.val (.long i0), .second, .val (.int i1), .val (.int i2), .val (.int i3), .val (.int dd0), .val (.int dd1), .val (.int dd2), .val (.int dd3), .val (.int dd4), .val (.int dd5), .val (.int dd6), .val (.int dd7), .val (.int ss), .val (.int d8), .val (.ref a), .val (.int ad), .val (.int e9), .val (.ref b8), .val (.ref bt), .unset, .unset, .unset, .unset] [(.int (0 : Int32)), (.ref a), (.int (0 : Int32)), (.ref bt)])) _
    exact κ)
  obtain ⟨cl218, Ar218, -, S218, M218, H218, -⟩ := id Va_215
  have in218 : ¬ ((0 : Int32) < 0 ∨ cl218.slots.size ≤ ((0 : Int32)).toNatClampNeg) := inb_of S218 ⟨by decide, by decide⟩
  have at218 : cl218.slots[((0 : Int32)).toNatClampNeg]? = some (.int (g 0)) := H218.at in218 rfl
  have pre219 := fun τ (κ : Steps p.tables e below (T215.setTop (mkF m 564 #[.val (.long i0), .second, .val (.int i1), .val (.int i2), .val (.int i3), .val (.int dd0), .val (.int dd1), .val (.int dd2), .val (.int dd3), .val (.int dd4), .val (.int dd5), .val (.int dd6), .val (.int dd7), .val (.int ss), .val (.int d8), .val (.ref a), .val (.int ad), .val (.int e9), .val (.ref b8), .val (.ref bt), .unset, .unset, .unset, .unset] [(.int (g 0)), (.int (0 : Int32)), (.ref bt)])) τ) => pre217 τ (by
    refine X215.caload hx (j := (0 : Int32)) (v := (.int (g 0))) (by rw [e215]; exact Ar218.1) (State.isArrayOf_alike hZ.alike Ar218.2.1) Ar218.2.2 in218 at218 (g := (mkF m 563 #[.val (.long i0), .second, .val (.int i1), .val (.int i2), .val (.int i3), .val (.int dd0), .val (.int dd1), .val (.int dd2), .val (.int dd3), .val (.int dd4), .val (.int dd5), .val (.int dd6), .val (.int dd7), .val (.int ss), .val (.int d8), .val (.ref a), .val (.int ad), .val (.int e9), .val (.ref b8), .val (.ref bt), .unset, .unset, .unset, .unset] [(.int (0 : Int32)), (.ref a), (.int (0 : Int32)), (.ref bt)])) rfl rfl (hb hby at_563) _ ?_
    show Steps p.tables e below (T215.setTop (mkF m 564 #[.val (.long i0), .second, .val (.int i1), .val (.int i2), .val (.int i3), .val (.int dd0), .val (.int dd1), .val (.int dd2), .val (.int dd3), .val (.int dd4), .val (.int dd5), .val (.int dd6), .val (.int dd7), .val (.int ss), .val (.int d8), .val (.ref a), .val (.int ad), .val (.int e9), .val (.ref b8), .val (.ref bt), .unset, .unset, .unset, .unset] [(.int (g 0)), (.int (0 : Int32)), (.ref bt)])) _
    exact κ)
  obtain ⟨cl220, Ar220, q220, S220, M220, H220, G220⟩ := id V_bt_215
  have in220 : ¬ ((0 : Int32) < 0 ∨ cl220.slots.size ≤ ((0 : Int32)).toNatClampNeg) := inb_of S220 ⟨by decide, by decide⟩
  obtain ⟨T221, h221, X221, e221, W221, st221⟩ := stC X215 hx hZ e215 Ar220 (j := (0 : Int32)) in220 (g := (mkF m 564 #[.val (.long i0), .second, .val (.int i1), .val (.int i2), .val (.int i3), .val (.int dd0), .val (.int dd1), .val (.int dd2), .val (.int dd3), .val (.int dd4), .val (.int dd5), .val (.int dd6), .val (.int dd7), .val (.int ss), .val (.int d8), .val (.ref a), .val (.int ad), .val (.int e9), .val (.ref b8), .val (.ref bt), .unset, .unset, .unset, .unset] [(.int (g 0)), (.int (0 : Int32)), (.ref bt)])) rfl rfl (hb hby at_564)
  have O0_221 : Old Z n0 h221 := O0_215.wr W221 g_bt
  have Va_221 : Arv Z h221 a k36 .char (Int32.ofNat 9) (own_tab g 9) (.int (0 : Int32)) := Va_215.other W221 ne_a_bt
  have V8_221 : Arv Z h221 b8 k164 .char (Int32.ofNat 8) (own_tab g8 (8)) (.int (0 : Int32)) := V8_215.other W221 ne_b8_bt
  have Kp221 : Keep h0 h221 [] := Kp215.wr W221 (Or.inr sz_bt)
  have N221 := Fr.snoc X221 N212 g_bt
  have Z221 : n0 ≤ h221.size := Nat.le_trans Z215 (Keep.of_wr W221).1
  have V_bt_221 : Arv Z h221 bt k215 .char (10 : Int32) [(.int (nar .char (g 0))), (.int (0 : Int32)), (.int (0 : Int32)), (.int (0 : Int32)), (.int (0 : Int32)), (.int (0 : Int32)), (.int (0 : Int32)), (.int (0 : Int32)), (.int (0 : Int32)), (.int (0 : Int32))] (.int (0 : Int32)) := Arv.set Ar220 q220 S220 M220 H220 G220 (fits_nar_char _) W221 0 rfl (Nat.le_of_ble_eq_true rfl)
  have pre222 := fun τ (κ : Steps p.tables e below (T221.setTop (mkF m 565 #[.val (.long i0), .second, .val (.int i1), .val (.int i2), .val (.int i3), .val (.int dd0), .val (.int dd1), .val (.int dd2), .val (.int dd3), .val (.int dd4), .val (.int dd5), .val (.int dd6), .val (.int dd7), .val (.int ss), .val (.int d8), .val (.ref a), .val (.int ad), .val (.int e9), .val (.ref b8), .val (.ref bt), .unset, .unset, .unset, .unset] [])) τ) => pre219 τ (st221 _ κ)
  have pre223 := fun τ (κ : Steps p.tables e below (T221.setTop (mkF m 571 #[.val (.long i0), .second, .val (.int i1), .val (.int i2), .val (.int i3), .val (.int dd0), .val (.int dd1), .val (.int dd2), .val (.int dd3), .val (.int dd4), .val (.int dd5), .val (.int dd6), .val (.int dd7), .val (.int ss), .val (.int d8), .val (.ref a), .val (.int ad), .val (.int e9), .val (.ref b8), .val (.ref bt), .unset, .unset, .unset, .unset] [(.int (1 : Int32)), (.ref a), (.int (1 : Int32)), (.ref bt)])) τ) => pre222 τ (by
    refine XS.aload X221.here hx rfl (hb hby at_565) rfl rfl ?_
    refine XS.iconst X221.here hx rfl (hb hby at_567) ?_
    refine XS.aload X221.here hx rfl (hb hby at_568) rfl rfl ?_
    refine XS.iconst X221.here hx rfl (hb hby at_570) ?_
    show Steps p.tables e below (T221.setTop (mkF m 571 #[.val (.long i0), .second, .val (.int i1), .val (.int i2), .val (.int i3), .val (.int dd0), .val (.int dd1), .val (.int dd2), .val (.int dd3), .val (.int dd4), .val (.int dd5), .val (.int dd6), .val (.int dd7), .val (.int ss), .val (.int d8), .val (.ref a), .val (.int ad), .val (.int e9), .val (.ref b8), .val (.ref bt), .unset, .unset, .unset, .unset] [(.int (1 : Int32)), (.ref a), (.int (1 : Int32)), (.ref bt)])) _
    exact κ)
  obtain ⟨cl224, Ar224, -, S224, M224, H224, -⟩ := id Va_221
  have in224 : ¬ ((1 : Int32) < 0 ∨ cl224.slots.size ≤ ((1 : Int32)).toNatClampNeg) := inb_of S224 ⟨by decide, by decide⟩
  have at224 : cl224.slots[((1 : Int32)).toNatClampNeg]? = some (.int (g 1)) := H224.at in224 rfl
  have pre225 := fun τ (κ : Steps p.tables e below (T221.setTop (mkF m 572 #[.val (.long i0), .second, .val (.int i1), .val (.int i2), .val (.int i3), .val (.int dd0), .val (.int dd1), .val (.int dd2), .val (.int dd3), .val (.int dd4), .val (.int dd5), .val (.int dd6), .val (.int dd7), .val (.int ss), .val (.int d8), .val (.ref a), .val (.int ad), .val (.int e9), .val (.ref b8), .val (.ref bt), .unset, .unset, .unset, .unset] [(.int (g 1)), (.int (1 : Int32)), (.ref bt)])) τ) => pre223 τ (by
    refine X221.caload hx (j := (1 : Int32)) (v := (.int (g 1))) (by rw [e221]; exact Ar224.1) (State.isArrayOf_alike hZ.alike Ar224.2.1) Ar224.2.2 in224 at224 (g := (mkF m 571 #[.val (.long i0), .second, .val (.int i1), .val (.int i2), .val (.int i3), .val (.int dd0), .val (.int dd1), .val (.int dd2), .val (.int dd3), .val (.int dd4), .val (.int dd5), .val (.int dd6), .val (.int dd7), .val (.int ss), .val (.int d8), .val (.ref a), .val (.int ad), .val (.int e9), .val (.ref b8), .val (.ref bt), .unset, .unset, .unset, .unset] [(.int (1 : Int32)), (.ref a), (.int (1 : Int32)), (.ref bt)])) rfl rfl (hb hby at_571) _ ?_
    show Steps p.tables e below (T221.setTop (mkF m 572 #[.val (.long i0), .second, .val (.int i1), .val (.int i2), .val (.int i3), .val (.int dd0), .val (.int dd1), .val (.int dd2), .val (.int dd3), .val (.int dd4), .val (.int dd5), .val (.int dd6), .val (.int dd7), .val (.int ss), .val (.int d8), .val (.ref a), .val (.int ad), .val (.int e9), .val (.ref b8), .val (.ref bt), .unset, .unset, .unset, .unset] [(.int (g 1)), (.int (1 : Int32)), (.ref bt)])) _
    exact κ)
  obtain ⟨cl226, Ar226, q226, S226, M226, H226, G226⟩ := id V_bt_221
  have in226 : ¬ ((1 : Int32) < 0 ∨ cl226.slots.size ≤ ((1 : Int32)).toNatClampNeg) := inb_of S226 ⟨by decide, by decide⟩
  obtain ⟨T227, h227, X227, e227, W227, st227⟩ := stC X221 hx hZ e221 Ar226 (j := (1 : Int32)) in226 (g := (mkF m 572 #[.val (.long i0), .second, .val (.int i1), .val (.int i2), .val (.int i3), .val (.int dd0), .val (.int dd1), .val (.int dd2), .val (.int dd3), .val (.int dd4), .val (.int dd5), .val (.int dd6), .val (.int dd7), .val (.int ss), .val (.int d8), .val (.ref a), .val (.int ad), .val (.int e9), .val (.ref b8), .val (.ref bt), .unset, .unset, .unset, .unset] [(.int (g 1)), (.int (1 : Int32)), (.ref bt)])) rfl rfl (hb hby at_572)
  have O0_227 : Old Z n0 h227 := O0_221.wr W227 g_bt
  have Va_227 : Arv Z h227 a k36 .char (Int32.ofNat 9) (own_tab g 9) (.int (0 : Int32)) := Va_221.other W227 ne_a_bt
  have V8_227 : Arv Z h227 b8 k164 .char (Int32.ofNat 8) (own_tab g8 (8)) (.int (0 : Int32)) := V8_221.other W227 ne_b8_bt
  have Kp227 : Keep h0 h227 [] := Kp221.wr W227 (Or.inr sz_bt)
  have N227 := Fr.snoc X227 N221 g_bt
  have Z227 : n0 ≤ h227.size := Nat.le_trans Z221 (Keep.of_wr W227).1
  have V_bt_227 : Arv Z h227 bt k215 .char (10 : Int32) [(.int (nar .char (g 0))), (.int (nar .char (g 1))), (.int (0 : Int32)), (.int (0 : Int32)), (.int (0 : Int32)), (.int (0 : Int32)), (.int (0 : Int32)), (.int (0 : Int32)), (.int (0 : Int32)), (.int (0 : Int32))] (.int (0 : Int32)) := Arv.set Ar226 q226 S226 M226 H226 G226 (fits_nar_char _) W227 1 rfl (Nat.le_of_ble_eq_true rfl)
  have pre228 := fun τ (κ : Steps p.tables e below (T227.setTop (mkF m 573 #[.val (.long i0), .second, .val (.int i1), .val (.int i2), .val (.int i3), .val (.int dd0), .val (.int dd1), .val (.int dd2), .val (.int dd3), .val (.int dd4), .val (.int dd5), .val (.int dd6), .val (.int dd7), .val (.int ss), .val (.int d8), .val (.ref a), .val (.int ad), .val (.int e9), .val (.ref b8), .val (.ref bt), .unset, .unset, .unset, .unset] [])) τ) => pre225 τ (st227 _ κ)
  have pre229 := fun τ (κ : Steps p.tables e below (T227.setTop (mkF m 579 #[.val (.long i0), .second, .val (.int i1), .val (.int i2), .val (.int i3), .val (.int dd0), .val (.int dd1), .val (.int dd2), .val (.int dd3), .val (.int dd4), .val (.int dd5), .val (.int dd6), .val (.int dd7), .val (.int ss), .val (.int d8), .val (.ref a), .val (.int ad), .val (.int e9), .val (.ref b8), .val (.ref bt), .unset, .unset, .unset, .unset] [(.int (2 : Int32)), (.ref a), (.int (2 : Int32)), (.ref bt)])) τ) => pre228 τ (by
    refine XS.aload X227.here hx rfl (hb hby at_573) rfl rfl ?_
    refine XS.iconst X227.here hx rfl (hb hby at_575) ?_
    refine XS.aload X227.here hx rfl (hb hby at_576) rfl rfl ?_
    refine XS.iconst X227.here hx rfl (hb hby at_578) ?_
    show Steps p.tables e below (T227.setTop (mkF m 579 #[.val (.long i0), .second, .val (.int i1), .val (.int i2), .val (.int i3), .val (.int dd0), .val (.int dd1), .val (.int dd2), .val (.int dd3), .val (.int dd4), .val (.int dd5), .val (.int dd6), .val (.int dd7), .val (.int ss), .val (.int d8), .val (.ref a), .val (.int ad), .val (.int e9), .val (.ref b8), .val (.ref bt), .unset, .unset, .unset, .unset] [(.int (2 : Int32)), (.ref a), (.int (2 : Int32)), (.ref bt)])) _
    exact κ)
  obtain ⟨cl230, Ar230, -, S230, M230, H230, -⟩ := id Va_227
  have in230 : ¬ ((2 : Int32) < 0 ∨ cl230.slots.size ≤ ((2 : Int32)).toNatClampNeg) := inb_of S230 ⟨by decide, by decide⟩
  have at230 : cl230.slots[((2 : Int32)).toNatClampNeg]? = some (.int (g 2)) := H230.at in230 rfl
  have pre231 := fun τ (κ : Steps p.tables e below (T227.setTop (mkF m 580 #[.val (.long i0), .second, .val (.int i1), .val (.int i2), .val (.int i3), .val (.int dd0), .val (.int dd1), .val (.int dd2), .val (.int dd3), .val (.int dd4), .val (.int dd5), .val (.int dd6), .val (.int dd7), .val (.int ss), .val (.int d8), .val (.ref a), .val (.int ad), .val (.int e9), .val (.ref b8), .val (.ref bt), .unset, .unset, .unset, .unset] [(.int (g 2)), (.int (2 : Int32)), (.ref bt)])) τ) => pre229 τ (by
    refine X227.caload hx (j := (2 : Int32)) (v := (.int (g 2))) (by rw [e227]; exact Ar230.1) (State.isArrayOf_alike hZ.alike Ar230.2.1) Ar230.2.2 in230 at230 (g := (mkF m 579 #[.val (.long i0), .second, .val (.int i1), .val (.int i2), .val (.int i3), .val (.int dd0), .val (.int dd1), .val (.int dd2), .val (.int dd3), .val (.int dd4), .val (.int dd5), .val (.int dd6), .val (.int dd7), .val (.int ss), .val (.int d8), .val (.ref a), .val (.int ad), .val (.int e9), .val (.ref b8), .val (.ref bt), .unset, .unset, .unset, .unset] [(.int (2 : Int32)), (.ref a), (.int (2 : Int32)), (.ref bt)])) rfl rfl (hb hby at_579) _ ?_
    show Steps p.tables e below (T227.setTop (mkF m 580 #[.val (.long i0), .second, .val (.int i1), .val (.int i2), .val (.int i3), .val (.int dd0), .val (.int dd1), .val (.int dd2), .val (.int dd3), .val (.int dd4), .val (.int dd5), .val (.int dd6), .val (.int dd7), .val (.int ss), .val (.int d8), .val (.ref a), .val (.int ad), .val (.int e9), .val (.ref b8), .val (.ref bt), .unset, .unset, .unset, .unset] [(.int (g 2)), (.int (2 : Int32)), (.ref bt)])) _
    exact κ)
  obtain ⟨cl232, Ar232, q232, S232, M232, H232, G232⟩ := id V_bt_227
  have in232 : ¬ ((2 : Int32) < 0 ∨ cl232.slots.size ≤ ((2 : Int32)).toNatClampNeg) := inb_of S232 ⟨by decide, by decide⟩
  obtain ⟨T233, h233, X233, e233, W233, st233⟩ := stC X227 hx hZ e227 Ar232 (j := (2 : Int32)) in232 (g := (mkF m 580 #[.val (.long i0), .second, .val (.int i1), .val (.int i2), .val (.int i3), .val (.int dd0), .val (.int dd1), .val (.int dd2), .val (.int dd3), .val (.int dd4), .val (.int dd5), .val (.int dd6), .val (.int dd7), .val (.int ss), .val (.int d8), .val (.ref a), .val (.int ad), .val (.int e9), .val (.ref b8), .val (.ref bt), .unset, .unset, .unset, .unset] [(.int (g 2)), (.int (2 : Int32)), (.ref bt)])) rfl rfl (hb hby at_580)
  have O0_233 : Old Z n0 h233 := O0_227.wr W233 g_bt
  have Va_233 : Arv Z h233 a k36 .char (Int32.ofNat 9) (own_tab g 9) (.int (0 : Int32)) := Va_227.other W233 ne_a_bt
  have V8_233 : Arv Z h233 b8 k164 .char (Int32.ofNat 8) (own_tab g8 (8)) (.int (0 : Int32)) := V8_227.other W233 ne_b8_bt
  have Kp233 : Keep h0 h233 [] := Kp227.wr W233 (Or.inr sz_bt)
  have N233 := Fr.snoc X233 N227 g_bt
  have Z233 : n0 ≤ h233.size := Nat.le_trans Z227 (Keep.of_wr W233).1
  have V_bt_233 : Arv Z h233 bt k215 .char (10 : Int32) [(.int (nar .char (g 0))), (.int (nar .char (g 1))), (.int (nar .char (g 2))), (.int (0 : Int32)), (.int (0 : Int32)), (.int (0 : Int32)), (.int (0 : Int32)), (.int (0 : Int32)), (.int (0 : Int32)), (.int (0 : Int32))] (.int (0 : Int32)) := Arv.set Ar232 q232 S232 M232 H232 G232 (fits_nar_char _) W233 2 rfl (Nat.le_of_ble_eq_true rfl)
  have pre234 := fun τ (κ : Steps p.tables e below (T233.setTop (mkF m 581 #[.val (.long i0), .second, .val (.int i1), .val (.int i2), .val (.int i3), .val (.int dd0), .val (.int dd1), .val (.int dd2), .val (.int dd3), .val (.int dd4), .val (.int dd5), .val (.int dd6), .val (.int dd7), .val (.int ss), .val (.int d8), .val (.ref a), .val (.int ad), .val (.int e9), .val (.ref b8), .val (.ref bt), .unset, .unset, .unset, .unset] [])) τ) => pre231 τ (st233 _ κ)
  have pre235 := fun τ (κ : Steps p.tables e below (T233.setTop (mkF m 587 #[.val (.long i0), .second, .val (.int i1), .val (.int i2), .val (.int i3), .val (.int dd0), .val (.int dd1), .val (.int dd2), .val (.int dd3), .val (.int dd4), .val (.int dd5), .val (.int dd6), .val (.int dd7), .val (.int ss), .val (.int d8), .val (.ref a), .val (.int ad), .val (.int e9), .val (.ref b8), .val (.ref bt), .unset, .unset, .unset, .unset] [(.int (3 : Int32)), (.ref a), (.int (3 : Int32)), (.ref bt)])) τ) => pre234 τ (by
    refine XS.aload X233.here hx rfl (hb hby at_581) rfl rfl ?_
    refine XS.iconst X233.here hx rfl (hb hby at_583) ?_
    refine XS.aload X233.here hx rfl (hb hby at_584) rfl rfl ?_
    refine XS.iconst X233.here hx rfl (hb hby at_586) ?_
    show Steps p.tables e below (T233.setTop (mkF m 587 #[.val (.long i0), .second, .val (.int i1), .val (.int i2), .val (.int i3), .val (.int dd0), .val (.int dd1), .val (.int dd2), .val (.int dd3), .val (.int dd4), .val (.int dd5), .val (.int dd6), .val (.int dd7), .val (.int ss), .val (.int d8), .val (.ref a), .val (.int ad), .val (.int e9), .val (.ref b8), .val (.ref bt), .unset, .unset, .unset, .unset] [(.int (3 : Int32)), (.ref a), (.int (3 : Int32)), (.ref bt)])) _
    exact κ)
  obtain ⟨cl236, Ar236, -, S236, M236, H236, -⟩ := id Va_233
  have in236 : ¬ ((3 : Int32) < 0 ∨ cl236.slots.size ≤ ((3 : Int32)).toNatClampNeg) := inb_of S236 ⟨by decide, by decide⟩
  have at236 : cl236.slots[((3 : Int32)).toNatClampNeg]? = some (.int (g 3)) := H236.at in236 rfl
  have pre237 := fun τ (κ : Steps p.tables e below (T233.setTop (mkF m 588 #[.val (.long i0), .second, .val (.int i1), .val (.int i2), .val (.int i3), .val (.int dd0), .val (.int dd1), .val (.int dd2), .val (.int dd3), .val (.int dd4), .val (.int dd5), .val (.int dd6), .val (.int dd7), .val (.int ss), .val (.int d8), .val (.ref a), .val (.int ad), .val (.int e9), .val (.ref b8), .val (.ref bt), .unset, .unset, .unset, .unset] [(.int (g 3)), (.int (3 : Int32)), (.ref bt)])) τ) => pre235 τ (by
    refine X233.caload hx (j := (3 : Int32)) (v := (.int (g 3))) (by rw [e233]; exact Ar236.1) (State.isArrayOf_alike hZ.alike Ar236.2.1) Ar236.2.2 in236 at236 (g := (mkF m 587 #[.val (.long i0), .second, .val (.int i1), .val (.int i2), .val (.int i3), .val (.int dd0), .val (.int dd1), .val (.int dd2), .val (.int dd3), .val (.int dd4), .val (.int dd5), .val (.int dd6), .val (.int dd7), .val (.int ss), .val (.int d8), .val (.ref a), .val (.int ad), .val (.int e9), .val (.ref b8), .val (.ref bt), .unset, .unset, .unset, .unset] [(.int (3 : Int32)), (.ref a), (.int (3 : Int32)), (.ref bt)])) rfl rfl (hb hby at_587) _ ?_
    show Steps p.tables e below (T233.setTop (mkF m 588 #[.val (.long i0), .second, .val (.int i1), .val (.int i2), .val (.int i3), .val (.int dd0), .val (.int dd1), .val (.int dd2), .val (.int dd3), .val (.int dd4), .val (.int dd5), .val (.int dd6), .val (.int dd7), .val (.int ss), .val (.int d8), .val (.ref a), .val (.int ad), .val (.int e9), .val (.ref b8), .val (.ref bt), .unset, .unset, .unset, .unset] [(.int (g 3)), (.int (3 : Int32)), (.ref bt)])) _
    exact κ)
  obtain ⟨cl238, Ar238, q238, S238, M238, H238, G238⟩ := id V_bt_233
  have in238 : ¬ ((3 : Int32) < 0 ∨ cl238.slots.size ≤ ((3 : Int32)).toNatClampNeg) := inb_of S238 ⟨by decide, by decide⟩
  obtain ⟨T239, h239, X239, e239, W239, st239⟩ := stC X233 hx hZ e233 Ar238 (j := (3 : Int32)) in238 (g := (mkF m 588 #[.val (.long i0), .second, .val (.int i1), .val (.int i2), .val (.int i3), .val (.int dd0), .val (.int dd1), .val (.int dd2), .val (.int dd3), .val (.int dd4), .val (.int dd5), .val (.int dd6), .val (.int dd7), .val (.int ss), .val (.int d8), .val (.ref a), .val (.int ad), .val (.int e9), .val (.ref b8), .val (.ref bt), .unset, .unset, .unset, .unset] [(.int (g 3)), (.int (3 : Int32)), (.ref bt)])) rfl rfl (hb hby at_588)
  have O0_239 : Old Z n0 h239 := O0_233.wr W239 g_bt
  have Va_239 : Arv Z h239 a k36 .char (Int32.ofNat 9) (own_tab g 9) (.int (0 : Int32)) := Va_233.other W239 ne_a_bt
  have V8_239 : Arv Z h239 b8 k164 .char (Int32.ofNat 8) (own_tab g8 (8)) (.int (0 : Int32)) := V8_233.other W239 ne_b8_bt
  have Kp239 : Keep h0 h239 [] := Kp233.wr W239 (Or.inr sz_bt)
  have N239 := Fr.snoc X239 N233 g_bt
  have Z239 : n0 ≤ h239.size := Nat.le_trans Z233 (Keep.of_wr W239).1
  have V_bt_239 : Arv Z h239 bt k215 .char (10 : Int32) [(.int (nar .char (g 0))), (.int (nar .char (g 1))), (.int (nar .char (g 2))), (.int (nar .char (g 3))), (.int (0 : Int32)), (.int (0 : Int32)), (.int (0 : Int32)), (.int (0 : Int32)), (.int (0 : Int32)), (.int (0 : Int32))] (.int (0 : Int32)) := Arv.set Ar238 q238 S238 M238 H238 G238 (fits_nar_char _) W239 3 rfl (Nat.le_of_ble_eq_true rfl)
  have pre240 := fun τ (κ : Steps p.tables e below (T239.setTop (mkF m 589 #[.val (.long i0), .second, .val (.int i1), .val (.int i2), .val (.int i3), .val (.int dd0), .val (.int dd1), .val (.int dd2), .val (.int dd3), .val (.int dd4), .val (.int dd5), .val (.int dd6), .val (.int dd7), .val (.int ss), .val (.int d8), .val (.ref a), .val (.int ad), .val (.int e9), .val (.ref b8), .val (.ref bt), .unset, .unset, .unset, .unset] [])) τ) => pre237 τ (st239 _ κ)
  have pre241 := fun τ (κ : Steps p.tables e below (T239.setTop (mkF m 595 #[.val (.long i0), .second, .val (.int i1), .val (.int i2), .val (.int i3), .val (.int dd0), .val (.int dd1), .val (.int dd2), .val (.int dd3), .val (.int dd4), .val (.int dd5), .val (.int dd6), .val (.int dd7), .val (.int ss), .val (.int d8), .val (.ref a), .val (.int ad), .val (.int e9), .val (.ref b8), .val (.ref bt), .unset, .unset, .unset, .unset] [(.int (4 : Int32)), (.ref a), (.int (4 : Int32)), (.ref bt)])) τ) => pre240 τ (by
    refine XS.aload X239.here hx rfl (hb hby at_589) rfl rfl ?_
    refine XS.iconst X239.here hx rfl (hb hby at_591) ?_
    refine XS.aload X239.here hx rfl (hb hby at_592) rfl rfl ?_
    refine XS.iconst X239.here hx rfl (hb hby at_594) ?_
    show Steps p.tables e below (T239.setTop (mkF m 595 #[.val (.long i0), .second, .val (.int i1), .val (.int i2), .val (.int i3), .val (.int dd0), .val (.int dd1), .val (.int dd2), .val (.int dd3), .val (.int dd4), .val (.int dd5), .val (.int dd6), .val (.int dd7), .val (.int ss), .val (.int d8), .val (.ref a), .val (.int ad), .val (.int e9), .val (.ref b8), .val (.ref bt), .unset, .unset, .unset, .unset] [(.int (4 : Int32)), (.ref a), (.int (4 : Int32)), (.ref bt)])) _
    exact κ)
  obtain ⟨cl242, Ar242, -, S242, M242, H242, -⟩ := id Va_239
  have in242 : ¬ ((4 : Int32) < 0 ∨ cl242.slots.size ≤ ((4 : Int32)).toNatClampNeg) := inb_of S242 ⟨by decide, by decide⟩
  have at242 : cl242.slots[((4 : Int32)).toNatClampNeg]? = some (.int (g 4)) := H242.at in242 rfl
  have pre243 := fun τ (κ : Steps p.tables e below (T239.setTop (mkF m 596 #[.val (.long i0), .second, .val (.int i1), .val (.int i2), .val (.int i3), .val (.int dd0), .val (.int dd1), .val (.int dd2), .val (.int dd3), .val (.int dd4), .val (.int dd5), .val (.int dd6), .val (.int dd7), .val (.int ss), .val (.int d8), .val (.ref a), .val (.int ad), .val (.int e9), .val (.ref b8), .val (.ref bt), .unset, .unset, .unset, .unset] [(.int (g 4)), (.int (4 : Int32)), (.ref bt)])) τ) => pre241 τ (by
    refine X239.caload hx (j := (4 : Int32)) (v := (.int (g 4))) (by rw [e239]; exact Ar242.1) (State.isArrayOf_alike hZ.alike Ar242.2.1) Ar242.2.2 in242 at242 (g := (mkF m 595 #[.val (.long i0), .second, .val (.int i1), .val (.int i2), .val (.int i3), .val (.int dd0), .val (.int dd1), .val (.int dd2), .val (.int dd3), .val (.int dd4), .val (.int dd5), .val (.int dd6), .val (.int dd7), .val (.int ss), .val (.int d8), .val (.ref a), .val (.int ad), .val (.int e9), .val (.ref b8), .val (.ref bt), .unset, .unset, .unset, .unset] [(.int (4 : Int32)), (.ref a), (.int (4 : Int32)), (.ref bt)])) rfl rfl (hb hby at_595) _ ?_
    show Steps p.tables e below (T239.setTop (mkF m 596 #[.val (.long i0), .second, .val (.int i1), .val (.int i2), .val (.int i3), .val (.int dd0), .val (.int dd1), .val (.int dd2), .val (.int dd3), .val (.int dd4), .val (.int dd5), .val (.int dd6), .val (.int dd7), .val (.int ss), .val (.int d8), .val (.ref a), .val (.int ad), .val (.int e9), .val (.ref b8), .val (.ref bt), .unset, .unset, .unset, .unset] [(.int (g 4)), (.int (4 : Int32)), (.ref bt)])) _
    exact κ)
  obtain ⟨cl244, Ar244, q244, S244, M244, H244, G244⟩ := id V_bt_239
  have in244 : ¬ ((4 : Int32) < 0 ∨ cl244.slots.size ≤ ((4 : Int32)).toNatClampNeg) := inb_of S244 ⟨by decide, by decide⟩
  obtain ⟨T245, h245, X245, e245, W245, st245⟩ := stC X239 hx hZ e239 Ar244 (j := (4 : Int32)) in244 (g := (mkF m 596 #[.val (.long i0), .second, .val (.int i1), .val (.int i2), .val (.int i3), .val (.int dd0), .val (.int dd1), .val (.int dd2), .val (.int dd3), .val (.int dd4), .val (.int dd5), .val (.int dd6), .val (.int dd7), .val (.int ss), .val (.int d8), .val (.ref a), .val (.int ad), .val (.int e9), .val (.ref b8), .val (.ref bt), .unset, .unset, .unset, .unset] [(.int (g 4)), (.int (4 : Int32)), (.ref bt)])) rfl rfl (hb hby at_596)
  have O0_245 : Old Z n0 h245 := O0_239.wr W245 g_bt
  have Va_245 : Arv Z h245 a k36 .char (Int32.ofNat 9) (own_tab g 9) (.int (0 : Int32)) := Va_239.other W245 ne_a_bt
  have V8_245 : Arv Z h245 b8 k164 .char (Int32.ofNat 8) (own_tab g8 (8)) (.int (0 : Int32)) := V8_239.other W245 ne_b8_bt
  have Kp245 : Keep h0 h245 [] := Kp239.wr W245 (Or.inr sz_bt)
  have N245 := Fr.snoc X245 N239 g_bt
  have Z245 : n0 ≤ h245.size := Nat.le_trans Z239 (Keep.of_wr W245).1
  have V_bt_245 : Arv Z h245 bt k215 .char (10 : Int32) [(.int (nar .char (g 0))), (.int (nar .char (g 1))), (.int (nar .char (g 2))), (.int (nar .char (g 3))), (.int (nar .char (g 4))), (.int (0 : Int32)), (.int (0 : Int32)), (.int (0 : Int32)), (.int (0 : Int32)), (.int (0 : Int32))] (.int (0 : Int32)) := Arv.set Ar244 q244 S244 M244 H244 G244 (fits_nar_char _) W245 4 rfl (Nat.le_of_ble_eq_true rfl)
  have pre246 := fun τ (κ : Steps p.tables e below (T245.setTop (mkF m 597 #[.val (.long i0), .second, .val (.int i1), .val (.int i2), .val (.int i3), .val (.int dd0), .val (.int dd1), .val (.int dd2), .val (.int dd3), .val (.int dd4), .val (.int dd5), .val (.int dd6), .val (.int dd7), .val (.int ss), .val (.int d8), .val (.ref a), .val (.int ad), .val (.int e9), .val (.ref b8), .val (.ref bt), .unset, .unset, .unset, .unset] [])) τ) => pre243 τ (st245 _ κ)
  have pre247 := fun τ (κ : Steps p.tables e below (T245.setTop (mkF m 603 #[.val (.long i0), .second, .val (.int i1), .val (.int i2), .val (.int i3), .val (.int dd0), .val (.int dd1), .val (.int dd2), .val (.int dd3), .val (.int dd4), .val (.int dd5), .val (.int dd6), .val (.int dd7), .val (.int ss), .val (.int d8), .val (.ref a), .val (.int ad), .val (.int e9), .val (.ref b8), .val (.ref bt), .unset, .unset, .unset, .unset] [(.int (5 : Int32)), (.ref a), (.int (5 : Int32)), (.ref bt)])) τ) => pre246 τ (by
    refine XS.aload X245.here hx rfl (hb hby at_597) rfl rfl ?_
    refine XS.iconst X245.here hx rfl (hb hby at_599) ?_
    refine XS.aload X245.here hx rfl (hb hby at_600) rfl rfl ?_
    refine XS.iconst X245.here hx rfl (hb hby at_602) ?_
    show Steps p.tables e below (T245.setTop (mkF m 603 #[.val (.long i0), .second, .val (.int i1), .val (.int i2), .val (.int i3), .val (.int dd0), .val (.int dd1), .val (.int dd2), .val (.int dd3), .val (.int dd4), .val (.int dd5), .val (.int dd6), .val (.int dd7), .val (.int ss), .val (.int d8), .val (.ref a), .val (.int ad), .val (.int e9), .val (.ref b8), .val (.ref bt), .unset, .unset, .unset, .unset] [(.int (5 : Int32)), (.ref a), (.int (5 : Int32)), (.ref bt)])) _
    exact κ)
  obtain ⟨cl248, Ar248, -, S248, M248, H248, -⟩ := id Va_245
  have in248 : ¬ ((5 : Int32) < 0 ∨ cl248.slots.size ≤ ((5 : Int32)).toNatClampNeg) := inb_of S248 ⟨by decide, by decide⟩
  have at248 : cl248.slots[((5 : Int32)).toNatClampNeg]? = some (.int (g 5)) := H248.at in248 rfl
  have pre249 := fun τ (κ : Steps p.tables e below (T245.setTop (mkF m 604 #[.val (.long i0), .second, .val (.int i1), .val (.int i2), .val (.int i3), .val (.int dd0), .val (.int dd1), .val (.int dd2), .val (.int dd3), .val (.int dd4), .val (.int dd5), .val (.int dd6), .val (.int dd7), .val (.int ss), .val (.int d8), .val (.ref a), .val (.int ad), .val (.int e9), .val (.ref b8), .val (.ref bt), .unset, .unset, .unset, .unset] [(.int (g 5)), (.int (5 : Int32)), (.ref bt)])) τ) => pre247 τ (by
    refine X245.caload hx (j := (5 : Int32)) (v := (.int (g 5))) (by rw [e245]; exact Ar248.1) (State.isArrayOf_alike hZ.alike Ar248.2.1) Ar248.2.2 in248 at248 (g := (mkF m 603 #[.val (.long i0), .second, .val (.int i1), .val (.int i2), .val (.int i3), .val (.int dd0), .val (.int dd1), .val (.int dd2), .val (.int dd3), .val (.int dd4), .val (.int dd5), .val (.int dd6), .val (.int dd7), .val (.int ss), .val (.int d8), .val (.ref a), .val (.int ad), .val (.int e9), .val (.ref b8), .val (.ref bt), .unset, .unset, .unset, .unset] [(.int (5 : Int32)), (.ref a), (.int (5 : Int32)), (.ref bt)])) rfl rfl (hb hby at_603) _ ?_
    show Steps p.tables e below (T245.setTop (mkF m 604 #[.val (.long i0), .second, .val (.int i1), .val (.int i2), .val (.int i3), .val (.int dd0), .val (.int dd1), .val (.int dd2), .val (.int dd3), .val (.int dd4), .val (.int dd5), .val (.int dd6), .val (.int dd7), .val (.int ss), .val (.int d8), .val (.ref a), .val (.int ad), .val (.int e9), .val (.ref b8), .val (.ref bt), .unset, .unset, .unset, .unset] [(.int (g 5)), (.int (5 : Int32)), (.ref bt)])) _
    exact κ)
  obtain ⟨cl250, Ar250, q250, S250, M250, H250, G250⟩ := id V_bt_245
  have in250 : ¬ ((5 : Int32) < 0 ∨ cl250.slots.size ≤ ((5 : Int32)).toNatClampNeg) := inb_of S250 ⟨by decide, by decide⟩
  obtain ⟨T251, h251, X251, e251, W251, st251⟩ := stC X245 hx hZ e245 Ar250 (j := (5 : Int32)) in250 (g := (mkF m 604 #[.val (.long i0), .second, .val (.int i1), .val (.int i2), .val (.int i3), .val (.int dd0), .val (.int dd1), .val (.int dd2), .val (.int dd3), .val (.int dd4), .val (.int dd5), .val (.int dd6), .val (.int dd7), .val (.int ss), .val (.int d8), .val (.ref a), .val (.int ad), .val (.int e9), .val (.ref b8), .val (.ref bt), .unset, .unset, .unset, .unset] [(.int (g 5)), (.int (5 : Int32)), (.ref bt)])) rfl rfl (hb hby at_604)
  have O0_251 : Old Z n0 h251 := O0_245.wr W251 g_bt
  have Va_251 : Arv Z h251 a k36 .char (Int32.ofNat 9) (own_tab g 9) (.int (0 : Int32)) := Va_245.other W251 ne_a_bt
  have V8_251 : Arv Z h251 b8 k164 .char (Int32.ofNat 8) (own_tab g8 (8)) (.int (0 : Int32)) := V8_245.other W251 ne_b8_bt
  have Kp251 : Keep h0 h251 [] := Kp245.wr W251 (Or.inr sz_bt)
  have N251 := Fr.snoc X251 N245 g_bt
  have Z251 : n0 ≤ h251.size := Nat.le_trans Z245 (Keep.of_wr W251).1
  have V_bt_251 : Arv Z h251 bt k215 .char (10 : Int32) [(.int (nar .char (g 0))), (.int (nar .char (g 1))), (.int (nar .char (g 2))), (.int (nar .char (g 3))), (.int (nar .char (g 4))), (.int (nar .char (g 5))), (.int (0 : Int32)), (.int (0 : Int32)), (.int (0 : Int32)), (.int (0 : Int32))] (.int (0 : Int32)) := Arv.set Ar250 q250 S250 M250 H250 G250 (fits_nar_char _) W251 5 rfl (Nat.le_of_ble_eq_true rfl)
  have pre252 := fun τ (κ : Steps p.tables e below (T251.setTop (mkF m 605 #[.val (.long i0), .second, .val (.int i1), .val (.int i2), .val (.int i3), .val (.int dd0), .val (.int dd1), .val (.int dd2), .val (.int dd3), .val (.int dd4), .val (.int dd5), .val (.int dd6), .val (.int dd7), .val (.int ss), .val (.int d8), .val (.ref a), .val (.int ad), .val (.int e9), .val (.ref b8), .val (.ref bt), .unset, .unset, .unset, .unset] [])) τ) => pre249 τ (st251 _ κ)
  have pre253 := fun τ (κ : Steps p.tables e below (T251.setTop (mkF m 613 #[.val (.long i0), .second, .val (.int i1), .val (.int i2), .val (.int i3), .val (.int dd0), .val (.int dd1), .val (.int dd2), .val (.int dd3), .val (.int dd4), .val (.int dd5), .val (.int dd6), .val (.int dd7), .val (.int ss), .val (.int d8), .val (.ref a), .val (.int ad), .val (.int e9), .val (.ref b8), .val (.ref bt), .unset, .unset, .unset, .unset] [(.int (6 : Int32)), (.ref a), (.int (6 : Int32)), (.ref bt)])) τ) => pre252 τ (by
    refine XS.aload X251.here hx rfl (hb hby at_605) rfl rfl ?_
    refine XS.bipush X251.here hx rfl (hb hby at_607) ?_
    refine XS.aload X251.here hx rfl (hb hby at_609) rfl rfl ?_
    refine XS.bipush X251.here hx rfl (hb hby at_611) ?_
    show Steps p.tables e below (T251.setTop (mkF m 613 #[.val (.long i0), .second, .val (.int i1), .val (.int i2), .val (.int i3), .val (.int dd0), .val (.int dd1), .val (.int dd2), .val (.int dd3), .val (.int dd4), .val (.int dd5), .val (.int dd6), .val (.int dd7), .val (.int ss), .val (.int d8), .val (.ref a), .val (.int ad), .val (.int e9), .val (.ref b8), .val (.ref bt), .unset, .unset, .unset, .unset] [(.int (6 : Int32)), (.ref a), (.int (6 : Int32)), (.ref bt)])) _
    exact κ)
  obtain ⟨cl254, Ar254, -, S254, M254, H254, -⟩ := id Va_251
  have in254 : ¬ ((6 : Int32) < 0 ∨ cl254.slots.size ≤ ((6 : Int32)).toNatClampNeg) := inb_of S254 ⟨by decide, by decide⟩
  have at254 : cl254.slots[((6 : Int32)).toNatClampNeg]? = some (.int (g 6)) := H254.at in254 rfl
  have pre255 := fun τ (κ : Steps p.tables e below (T251.setTop (mkF m 614 #[.val (.long i0), .second, .val (.int i1), .val (.int i2), .val (.int i3), .val (.int dd0), .val (.int dd1), .val (.int dd2), .val (.int dd3), .val (.int dd4), .val (.int dd5), .val (.int dd6), .val (.int dd7), .val (.int ss), .val (.int d8), .val (.ref a), .val (.int ad), .val (.int e9), .val (.ref b8), .val (.ref bt), .unset, .unset, .unset, .unset] [(.int (g 6)), (.int (6 : Int32)), (.ref bt)])) τ) => pre253 τ (by
    refine X251.caload hx (j := (6 : Int32)) (v := (.int (g 6))) (by rw [e251]; exact Ar254.1) (State.isArrayOf_alike hZ.alike Ar254.2.1) Ar254.2.2 in254 at254 (g := (mkF m 613 #[.val (.long i0), .second, .val (.int i1), .val (.int i2), .val (.int i3), .val (.int dd0), .val (.int dd1), .val (.int dd2), .val (.int dd3), .val (.int dd4), .val (.int dd5), .val (.int dd6), .val (.int dd7), .val (.int ss), .val (.int d8), .val (.ref a), .val (.int ad), .val (.int e9), .val (.ref b8), .val (.ref bt), .unset, .unset, .unset, .unset] [(.int (6 : Int32)), (.ref a), (.int (6 : Int32)), (.ref bt)])) rfl rfl (hb hby at_613) _ ?_
    show Steps p.tables e below (T251.setTop (mkF m 614 #[.val (.long i0), .second, .val (.int i1), .val (.int i2), .val (.int i3), .val (.int dd0), .val (.int dd1), .val (.int dd2), .val (.int dd3), .val (.int dd4), .val (.int dd5), .val (.int dd6), .val (.int dd7), .val (.int ss), .val (.int d8), .val (.ref a), .val (.int ad), .val (.int e9), .val (.ref b8), .val (.ref bt), .unset, .unset, .unset, .unset] [(.int (g 6)), (.int (6 : Int32)), (.ref bt)])) _
    exact κ)
  obtain ⟨cl256, Ar256, q256, S256, M256, H256, G256⟩ := id V_bt_251
  have in256 : ¬ ((6 : Int32) < 0 ∨ cl256.slots.size ≤ ((6 : Int32)).toNatClampNeg) := inb_of S256 ⟨by decide, by decide⟩
  obtain ⟨T257, h257, X257, e257, W257, st257⟩ := stC X251 hx hZ e251 Ar256 (j := (6 : Int32)) in256 (g := (mkF m 614 #[.val (.long i0), .second, .val (.int i1), .val (.int i2), .val (.int i3), .val (.int dd0), .val (.int dd1), .val (.int dd2), .val (.int dd3), .val (.int dd4), .val (.int dd5), .val (.int dd6), .val (.int dd7), .val (.int ss), .val (.int d8), .val (.ref a), .val (.int ad), .val (.int e9), .val (.ref b8), .val (.ref bt), .unset, .unset, .unset, .unset] [(.int (g 6)), (.int (6 : Int32)), (.ref bt)])) rfl rfl (hb hby at_614)
  have O0_257 : Old Z n0 h257 := O0_251.wr W257 g_bt
  have Va_257 : Arv Z h257 a k36 .char (Int32.ofNat 9) (own_tab g 9) (.int (0 : Int32)) := Va_251.other W257 ne_a_bt
  have V8_257 : Arv Z h257 b8 k164 .char (Int32.ofNat 8) (own_tab g8 (8)) (.int (0 : Int32)) := V8_251.other W257 ne_b8_bt
  have Kp257 : Keep h0 h257 [] := Kp251.wr W257 (Or.inr sz_bt)
  have N257 := Fr.snoc X257 N251 g_bt
  have Z257 : n0 ≤ h257.size := Nat.le_trans Z251 (Keep.of_wr W257).1
  have V_bt_257 : Arv Z h257 bt k215 .char (10 : Int32) [(.int (nar .char (g 0))), (.int (nar .char (g 1))), (.int (nar .char (g 2))), (.int (nar .char (g 3))), (.int (nar .char (g 4))), (.int (nar .char (g 5))), (.int (nar .char (g 6))), (.int (0 : Int32)), (.int (0 : Int32)), (.int (0 : Int32))] (.int (0 : Int32)) := Arv.set Ar256 q256 S256 M256 H256 G256 (fits_nar_char _) W257 6 rfl (Nat.le_of_ble_eq_true rfl)
  have pre258 := fun τ (κ : Steps p.tables e below (T257.setTop (mkF m 615 #[.val (.long i0), .second, .val (.int i1), .val (.int i2), .val (.int i3), .val (.int dd0), .val (.int dd1), .val (.int dd2), .val (.int dd3), .val (.int dd4), .val (.int dd5), .val (.int dd6), .val (.int dd7), .val (.int ss), .val (.int d8), .val (.ref a), .val (.int ad), .val (.int e9), .val (.ref b8), .val (.ref bt), .unset, .unset, .unset, .unset] [])) τ) => pre255 τ (st257 _ κ)
  have pre259 := fun τ (κ : Steps p.tables e below (T257.setTop (mkF m 623 #[.val (.long i0), .second, .val (.int i1), .val (.int i2), .val (.int i3), .val (.int dd0), .val (.int dd1), .val (.int dd2), .val (.int dd3), .val (.int dd4), .val (.int dd5), .val (.int dd6), .val (.int dd7), .val (.int ss), .val (.int d8), .val (.ref a), .val (.int ad), .val (.int e9), .val (.ref b8), .val (.ref bt), .unset, .unset, .unset, .unset] [(.int (7 : Int32)), (.ref a), (.int (7 : Int32)), (.ref bt)])) τ) => pre258 τ (by
    refine XS.aload X257.here hx rfl (hb hby at_615) rfl rfl ?_
    refine XS.bipush X257.here hx rfl (hb hby at_617) ?_
    refine XS.aload X257.here hx rfl (hb hby at_619) rfl rfl ?_
    refine XS.bipush X257.here hx rfl (hb hby at_621) ?_
    show Steps p.tables e below (T257.setTop (mkF m 623 #[.val (.long i0), .second, .val (.int i1), .val (.int i2), .val (.int i3), .val (.int dd0), .val (.int dd1), .val (.int dd2), .val (.int dd3), .val (.int dd4), .val (.int dd5), .val (.int dd6), .val (.int dd7), .val (.int ss), .val (.int d8), .val (.ref a), .val (.int ad), .val (.int e9), .val (.ref b8), .val (.ref bt), .unset, .unset, .unset, .unset] [(.int (7 : Int32)), (.ref a), (.int (7 : Int32)), (.ref bt)])) _
    exact κ)
  obtain ⟨cl260, Ar260, -, S260, M260, H260, -⟩ := id Va_257
  have in260 : ¬ ((7 : Int32) < 0 ∨ cl260.slots.size ≤ ((7 : Int32)).toNatClampNeg) := inb_of S260 ⟨by decide, by decide⟩
  have at260 : cl260.slots[((7 : Int32)).toNatClampNeg]? = some (.int (g 7)) := H260.at in260 rfl
  have pre261 := fun τ (κ : Steps p.tables e below (T257.setTop (mkF m 624 #[.val (.long i0), .second, .val (.int i1), .val (.int i2), .val (.int i3), .val (.int dd0), .val (.int dd1), .val (.int dd2), .val (.int dd3), .val (.int dd4), .val (.int dd5), .val (.int dd6), .val (.int dd7), .val (.int ss), .val (.int d8), .val (.ref a), .val (.int ad), .val (.int e9), .val (.ref b8), .val (.ref bt), .unset, .unset, .unset, .unset] [(.int (g 7)), (.int (7 : Int32)), (.ref bt)])) τ) => pre259 τ (by
    refine X257.caload hx (j := (7 : Int32)) (v := (.int (g 7))) (by rw [e257]; exact Ar260.1) (State.isArrayOf_alike hZ.alike Ar260.2.1) Ar260.2.2 in260 at260 (g := (mkF m 623 #[.val (.long i0), .second, .val (.int i1), .val (.int i2), .val (.int i3), .val (.int dd0), .val (.int dd1), .val (.int dd2), .val (.int dd3), .val (.int dd4), .val (.int dd5), .val (.int dd6), .val (.int dd7), .val (.int ss), .val (.int d8), .val (.ref a), .val (.int ad), .val (.int e9), .val (.ref b8), .val (.ref bt), .unset, .unset, .unset, .unset] [(.int (7 : Int32)), (.ref a), (.int (7 : Int32)), (.ref bt)])) rfl rfl (hb hby at_623) _ ?_
    show Steps p.tables e below (T257.setTop (mkF m 624 #[.val (.long i0), .second, .val (.int i1), .val (.int i2), .val (.int i3), .val (.int dd0), .val (.int dd1), .val (.int dd2), .val (.int dd3), .val (.int dd4), .val (.int dd5), .val (.int dd6), .val (.int dd7), .val (.int ss), .val (.int d8), .val (.ref a), .val (.int ad), .val (.int e9), .val (.ref b8), .val (.ref bt), .unset, .unset, .unset, .unset] [(.int (g 7)), (.int (7 : Int32)), (.ref bt)])) _
    exact κ)
  obtain ⟨cl262, Ar262, q262, S262, M262, H262, G262⟩ := id V_bt_257
  have in262 : ¬ ((7 : Int32) < 0 ∨ cl262.slots.size ≤ ((7 : Int32)).toNatClampNeg) := inb_of S262 ⟨by decide, by decide⟩
  obtain ⟨T263, h263, X263, e263, W263, st263⟩ := stC X257 hx hZ e257 Ar262 (j := (7 : Int32)) in262 (g := (mkF m 624 #[.val (.long i0), .second, .val (.int i1), .val (.int i2), .val (.int i3), .val (.int dd0), .val (.int dd1), .val (.int dd2), .val (.int dd3), .val (.int dd4), .val (.int dd5), .val (.int dd6), .val (.int dd7), .val (.int ss), .val (.int d8), .val (.ref a), .val (.int ad), .val (.int e9), .val (.ref b8), .val (.ref bt), .unset, .unset, .unset, .unset] [(.int (g 7)), (.int (7 : Int32)), (.ref bt)])) rfl rfl (hb hby at_624)
  have O0_263 : Old Z n0 h263 := O0_257.wr W263 g_bt
  have Va_263 : Arv Z h263 a k36 .char (Int32.ofNat 9) (own_tab g 9) (.int (0 : Int32)) := Va_257.other W263 ne_a_bt
  have V8_263 : Arv Z h263 b8 k164 .char (Int32.ofNat 8) (own_tab g8 (8)) (.int (0 : Int32)) := V8_257.other W263 ne_b8_bt
  have Kp263 : Keep h0 h263 [] := Kp257.wr W263 (Or.inr sz_bt)
  have N263 := Fr.snoc X263 N257 g_bt
  have Z263 : n0 ≤ h263.size := Nat.le_trans Z257 (Keep.of_wr W263).1
  have V_bt_263 : Arv Z h263 bt k215 .char (10 : Int32) [(.int (nar .char (g 0))), (.int (nar .char (g 1))), (.int (nar .char (g 2))), (.int (nar .char (g 3))), (.int (nar .char (g 4))), (.int (nar .char (g 5))), (.int (nar .char (g 6))), (.int (nar .char (g 7))), (.int (0 : Int32)), (.int (0 : Int32))] (.int (0 : Int32)) := Arv.set Ar262 q262 S262 M262 H262 G262 (fits_nar_char _) W263 7 rfl (Nat.le_of_ble_eq_true rfl)
  have pre264 := fun τ (κ : Steps p.tables e below (T263.setTop (mkF m 625 #[.val (.long i0), .second, .val (.int i1), .val (.int i2), .val (.int i3), .val (.int dd0), .val (.int dd1), .val (.int dd2), .val (.int dd3), .val (.int dd4), .val (.int dd5), .val (.int dd6), .val (.int dd7), .val (.int ss), .val (.int d8), .val (.ref a), .val (.int ad), .val (.int e9), .val (.ref b8), .val (.ref bt), .unset, .unset, .unset, .unset] [])) τ) => pre261 τ (st263 _ κ)
  have pre265 := fun τ (κ : Steps p.tables e below (T263.setTop (mkF m 633 #[.val (.long i0), .second, .val (.int i1), .val (.int i2), .val (.int i3), .val (.int dd0), .val (.int dd1), .val (.int dd2), .val (.int dd3), .val (.int dd4), .val (.int dd5), .val (.int dd6), .val (.int dd7), .val (.int ss), .val (.int d8), .val (.ref a), .val (.int ad), .val (.int e9), .val (.ref b8), .val (.ref bt), .unset, .unset, .unset, .unset] [(.int (8 : Int32)), (.ref a), (.int (8 : Int32)), (.ref bt)])) τ) => pre264 τ (by
    refine XS.aload X263.here hx rfl (hb hby at_625) rfl rfl ?_
    refine XS.bipush X263.here hx rfl (hb hby at_627) ?_
    refine XS.aload X263.here hx rfl (hb hby at_629) rfl rfl ?_
    refine XS.bipush X263.here hx rfl (hb hby at_631) ?_
    show Steps p.tables e below (T263.setTop (mkF m 633 #[.val (.long i0), .second, .val (.int i1), .val (.int i2), .val (.int i3), .val (.int dd0), .val (.int dd1), .val (.int dd2), .val (.int dd3), .val (.int dd4), .val (.int dd5), .val (.int dd6), .val (.int dd7), .val (.int ss), .val (.int d8), .val (.ref a), .val (.int ad), .val (.int e9), .val (.ref b8), .val (.ref bt), .unset, .unset, .unset, .unset] [(.int (8 : Int32)), (.ref a), (.int (8 : Int32)), (.ref bt)])) _
    exact κ)
  obtain ⟨cl266, Ar266, -, S266, M266, H266, -⟩ := id Va_263
  have in266 : ¬ ((8 : Int32) < 0 ∨ cl266.slots.size ≤ ((8 : Int32)).toNatClampNeg) := inb_of S266 ⟨by decide, by decide⟩
  have at266 : cl266.slots[((8 : Int32)).toNatClampNeg]? = some (.int (g 8)) := H266.at in266 rfl
  have pre267 := fun τ (κ : Steps p.tables e below (T263.setTop (mkF m 634 #[.val (.long i0), .second, .val (.int i1), .val (.int i2), .val (.int i3), .val (.int dd0), .val (.int dd1), .val (.int dd2), .val (.int dd3), .val (.int dd4), .val (.int dd5), .val (.int dd6), .val (.int dd7), .val (.int ss), .val (.int d8), .val (.ref a), .val (.int ad), .val (.int e9), .val (.ref b8), .val (.ref bt), .unset, .unset, .unset, .unset] [(.int (g 8)), (.int (8 : Int32)), (.ref bt)])) τ) => pre265 τ (by
    refine X263.caload hx (j := (8 : Int32)) (v := (.int (g 8))) (by rw [e263]; exact Ar266.1) (State.isArrayOf_alike hZ.alike Ar266.2.1) Ar266.2.2 in266 at266 (g := (mkF m 633 #[.val (.long i0), .second, .val (.int i1), .val (.int i2), .val (.int i3), .val (.int dd0), .val (.int dd1), .val (.int dd2), .val (.int dd3), .val (.int dd4), .val (.int dd5), .val (.int dd6), .val (.int dd7), .val (.int ss), .val (.int d8), .val (.ref a), .val (.int ad), .val (.int e9), .val (.ref b8), .val (.ref bt), .unset, .unset, .unset, .unset] [(.int (8 : Int32)), (.ref a), (.int (8 : Int32)), (.ref bt)])) rfl rfl (hb hby at_633) _ ?_
    show Steps p.tables e below (T263.setTop (mkF m 634 #[.val (.long i0), .second, .val (.int i1), .val (.int i2), .val (.int i3), .val (.int dd0), .val (.int dd1), .val (.int dd2), .val (.int dd3), .val (.int dd4), .val (.int dd5), .val (.int dd6), .val (.int dd7), .val (.int ss), .val (.int d8), .val (.ref a), .val (.int ad), .val (.int e9), .val (.ref b8), .val (.ref bt), .unset, .unset, .unset, .unset] [(.int (g 8)), (.int (8 : Int32)), (.ref bt)])) _
    exact κ)
  obtain ⟨cl268, Ar268, q268, S268, M268, H268, G268⟩ := id V_bt_263
  have in268 : ¬ ((8 : Int32) < 0 ∨ cl268.slots.size ≤ ((8 : Int32)).toNatClampNeg) := inb_of S268 ⟨by decide, by decide⟩
  obtain ⟨T269, h269, X269, e269, W269, st269⟩ := stC X263 hx hZ e263 Ar268 (j := (8 : Int32)) in268 (g := (mkF m 634 #[.val (.long i0), .second, .val (.int i1), .val (.int i2), .val (.int i3), .val (.int dd0), .val (.int dd1), .val (.int dd2), .val (.int dd3), .val (.int dd4), .val (.int dd5), .val (.int dd6), .val (.int dd7), .val (.int ss), .val (.int d8), .val (.ref a), .val (.int ad), .val (.int e9), .val (.ref b8), .val (.ref bt), .unset, .unset, .unset, .unset] [(.int (g 8)), (.int (8 : Int32)), (.ref bt)])) rfl rfl (hb hby at_634)
  have O0_269 : Old Z n0 h269 := O0_263.wr W269 g_bt
  have Va_269 : Arv Z h269 a k36 .char (Int32.ofNat 9) (own_tab g 9) (.int (0 : Int32)) := Va_263.other W269 ne_a_bt
  have V8_269 : Arv Z h269 b8 k164 .char (Int32.ofNat 8) (own_tab g8 (8)) (.int (0 : Int32)) := V8_263.other W269 ne_b8_bt
  have Kp269 : Keep h0 h269 [] := Kp263.wr W269 (Or.inr sz_bt)
  have N269 := Fr.snoc X269 N263 g_bt
  have Z269 : n0 ≤ h269.size := Nat.le_trans Z263 (Keep.of_wr W269).1
  have V_bt_269 : Arv Z h269 bt k215 .char (10 : Int32) [(.int (nar .char (g 0))), (.int (nar .char (g 1))), (.int (nar .char (g 2))), (.int (nar .char (g 3))), (.int (nar .char (g 4))), (.int (nar .char (g 5))), (.int (nar .char (g 6))), (.int (nar .char (g 7))), (.int (nar .char (g 8))), (.int (0 : Int32))] (.int (0 : Int32)) := Arv.set Ar268 q268 S268 M268 H268 G268 (fits_nar_char _) W269 8 rfl (Nat.le_of_ble_eq_true rfl)
  have pre270 := fun τ (κ : Steps p.tables e below (T269.setTop (mkF m 635 #[.val (.long i0), .second, .val (.int i1), .val (.int i2), .val (.int i3), .val (.int dd0), .val (.int dd1), .val (.int dd2), .val (.int dd3), .val (.int dd4), .val (.int dd5), .val (.int dd6), .val (.int dd7), .val (.int ss), .val (.int d8), .val (.ref a), .val (.int ad), .val (.int e9), .val (.ref b8), .val (.ref bt), .unset, .unset, .unset, .unset] [])) τ) => pre267 τ (st269 _ κ)
  have pre271 := fun τ (κ : Steps p.tables e below (T269.setTop (mkF m 644 #[.val (.long i0), .second, .val (.int i1), .val (.int i2), .val (.int i3), .val (.int dd0), .val (.int dd1), .val (.int dd2), .val (.int dd3), .val (.int dd4), .val (.int dd5), .val (.int dd6), .val (.int dd7), .val (.int ss), .val (.int d8), .val (.ref a), .val (.int ad), .val (.int e9), .val (.ref b8), .val (.ref bt), .unset, .unset, .unset, .unset] [(.int (9 : Int32)), (.long i0), (.int (48 : Int32)), (.int (9 : Int32)), (.ref bt)])) τ) => pre270 τ (by
    refine XS.aload X269.here hx rfl (hb hby at_635) rfl rfl ?_
    refine XS.bipush X269.here hx rfl (hb hby at_637) ?_
    refine XS.bipush X269.here hx rfl (hb hby at_639) ?_
    refine XS.lloadN X269.here hx rfl (hb hby at_641) rfl ?_
    refine XS.bipush X269.here hx rfl (hb hby at_642) ?_
    show Steps p.tables e below (T269.setTop (mkF m 644 #[.val (.long i0), .second, .val (.int i1), .val (.int i2), .val (.int i3), .val (.int dd0), .val (.int dd1), .val (.int dd2), .val (.int dd3), .val (.int dd4), .val (.int dd5), .val (.int dd6), .val (.int dd7), .val (.int ss), .val (.int d8), .val (.ref a), .val (.int ad), .val (.int e9), .val (.ref b8), .val (.ref bt), .unset, .unset, .unset, .unset] [(.int (9 : Int32)), (.long i0), (.int (48 : Int32)), (.int (9 : Int32)), (.ref bt)])) _
    exact κ)
  obtain ⟨_, _, ⟨T272, L272, k272, n272⟩, -, X272, ⟨Lc272, hQ272, l272, y272, z272⟩, st272⟩ := Jvm.LawKit.callS X269 hx (y := (⟨"com/example/docket/docket/core/RsinIsValidPinLaw", "dig", "(JI)I"⟩ : MethodName)) hown (mvT hZ (hw _ (List.mem_of_getElem? (i := 0) rfl))) (mvT hZ (hw _ (List.mem_of_getElem? (i := 1) rfl))) (mvT hZ (hw _ (List.mem_of_getElem? (i := 2) rfl))) (mvT hZ (hw _ (List.mem_of_getElem? (i := 3) rfl))) (by decide) (backOf (W := 3) (rm1 l Z a0 hw [] i0 (9 : Int32) h269 n0 Z269) hZ (hw _ (List.mem_of_getElem? (i := 3) rfl)) (hw _ (List.mem_of_getElem? (i := 2) rfl)) (Nat.le_of_ble_eq_true rfl) (Nat.le_of_ble_eq_true rfl)) (g := (mkF m 644 #[.val (.long i0), .second, .val (.int i1), .val (.int i2), .val (.int i3), .val (.int dd0), .val (.int dd1), .val (.int dd2), .val (.int dd3), .val (.int dd4), .val (.int dd5), .val (.int dd6), .val (.int dd7), .val (.int ss), .val (.int d8), .val (.ref a), .val (.int ad), .val (.int e9), .val (.ref b8), .val (.ref bt), .unset, .unset, .unset, .unset] [(.int (9 : Int32)), (.long i0), (.int (48 : Int32)), (.int (9 : Int32)), (.ref bt)])) rfl (by rw [hml]; rfl) (argsL := [(.long i0), (.int (9 : Int32))]) (rest := [(.int (48 : Int32)), (.int (9 : Int32)), (.ref bt)]) (lenOf pd_16 rfl) rfl (by show 2 * 0 + _ ≤ _; exact Nat.le_of_eq rfl) (hb hby at_644) (fun _ _ => ⟨rfl, e269, (by decide : 3 + 0 ≤ _), (by decide : 27 + 0 ≤ _)⟩)
  dsimp only [Pt.U, Pt.locs, Pt.cells, Pt.slots] at X272 l272 y272 z272 st272 hQ272
  subst l272 y272 z272
  obtain ⟨dd9, rfl, Nq272, hh272⟩ := hQ272
  have O0_272 : Old Z n0 T272.heap := by rw [hh272]; exact O0_269
  have Va_272 : Arv Z T272.heap a k36 .char (Int32.ofNat 9) (own_tab g 9) (.int (0 : Int32)) := by rw [hh272]; exact Va_269
  have V8_272 : Arv Z T272.heap b8 k164 .char (Int32.ofNat 8) (own_tab g8 (8)) (.int (0 : Int32)) := by rw [hh272]; exact V8_269
  have V_bt_272 : Arv Z T272.heap bt k215 .char (10 : Int32) [(.int (nar .char (g 0))), (.int (nar .char (g 1))), (.int (nar .char (g 2))), (.int (nar .char (g 3))), (.int (nar .char (g 4))), (.int (nar .char (g 5))), (.int (nar .char (g 6))), (.int (nar .char (g 7))), (.int (nar .char (g 8))), (.int (0 : Int32))] (.int (0 : Int32)) := by rw [hh272]; exact V_bt_269
  have Z272 : n0 ≤ T272.heap.size := by rw [hh272]; exact Z269
  have Kp272 : Keep h0 T272.heap [] := by rw [hh272]; exact Kp269
  have N272 := Fr.app N269 Nq272
  have pre273 := fun τ (κ : Steps p.tables e below (T272.setTop (mkF m 647 #[.val (.long i0), .second, .val (.int i1), .val (.int i2), .val (.int i3), .val (.int dd0), .val (.int dd1), .val (.int dd2), .val (.int dd3), .val (.int dd4), .val (.int dd5), .val (.int dd6), .val (.int dd7), .val (.int ss), .val (.int d8), .val (.ref a), .val (.int ad), .val (.int e9), .val (.ref b8), .val (.ref bt), .unset, .unset, .unset, .unset] [(.int dd9), (.int (48 : Int32)), (.int (9 : Int32)), (.ref bt)])) τ) => pre271 τ (st272 _ κ)
  have pre274 := fun τ (κ : Steps p.tables e below (T272.setTop (mkF m 649 #[.val (.long i0), .second, .val (.int i1), .val (.int i2), .val (.int i3), .val (.int dd0), .val (.int dd1), .val (.int dd2), .val (.int dd3), .val (.int dd4), .val (.int dd5), .val (.int dd6), .val (.int dd7), .val (.int ss), .val (.int d8), .val (.ref a), .val (.int ad), .val (.int e9), .val (.ref b8), .val (.ref bt), .unset, .unset, .unset, .unset] [(.int (((48 : Int32) + dd9).toUInt32.toUInt16.toUInt32.toInt32)), (.int (9 : Int32)), (.ref bt)])) τ) => pre273 τ (by
    refine XS.iadd X272.here hx rfl (hb hby at_647) rfl ?_
    show Steps p.tables e below (T272.setTop (mkF m 648 #[.val (.long i0), .second, .val (.int i1), .val (.int i2), .val (.int i3), .val (.int dd0), .val (.int dd1), .val (.int dd2), .val (.int dd3), .val (.int dd4), .val (.int dd5), .val (.int dd6), .val (.int dd7), .val (.int ss), .val (.int d8), .val (.ref a), .val (.int ad), .val (.int e9), .val (.ref b8), .val (.ref bt), .unset, .unset, .unset, .unset] [(.int ((48 : Int32) + dd9)), (.int (9 : Int32)), (.ref bt)])) _
    refine XS.i2c X272.here hx rfl (hb hby at_648) rfl ?_
    show Steps p.tables e below (T272.setTop (mkF m 649 #[.val (.long i0), .second, .val (.int i1), .val (.int i2), .val (.int i3), .val (.int dd0), .val (.int dd1), .val (.int dd2), .val (.int dd3), .val (.int dd4), .val (.int dd5), .val (.int dd6), .val (.int dd7), .val (.int ss), .val (.int d8), .val (.ref a), .val (.int ad), .val (.int e9), .val (.ref b8), .val (.ref bt), .unset, .unset, .unset, .unset] [(.int (((48 : Int32) + dd9).toUInt32.toUInt16.toUInt32.toInt32)), (.int (9 : Int32)), (.ref bt)])) _
    exact κ)
  obtain ⟨cl275, Ar275, q275, S275, M275, H275, G275⟩ := id V_bt_272
  have in275 : ¬ ((9 : Int32) < 0 ∨ cl275.slots.size ≤ ((9 : Int32)).toNatClampNeg) := inb_of S275 ⟨by decide, by decide⟩
  obtain ⟨T276, h276, X276, e276, W276, st276⟩ := stC X272 hx hZ rfl Ar275 (j := (9 : Int32)) in275 (g := (mkF m 649 #[.val (.long i0), .second, .val (.int i1), .val (.int i2), .val (.int i3), .val (.int dd0), .val (.int dd1), .val (.int dd2), .val (.int dd3), .val (.int dd4), .val (.int dd5), .val (.int dd6), .val (.int dd7), .val (.int ss), .val (.int d8), .val (.ref a), .val (.int ad), .val (.int e9), .val (.ref b8), .val (.ref bt), .unset, .unset, .unset, .unset] [(.int (((48 : Int32) + dd9).toUInt32.toUInt16.toUInt32.toInt32)), (.int (9 : Int32)), (.ref bt)])) rfl rfl (hb hby at_649)
  have O0_276 : Old Z n0 h276 := O0_272.wr W276 g_bt
  have Va_276 : Arv Z h276 a k36 .char (Int32.ofNat 9) (own_tab g 9) (.int (0 : Int32)) := Va_272.other W276 ne_a_bt
  have V8_276 : Arv Z h276 b8 k164 .char (Int32.ofNat 8) (own_tab g8 (8)) (.int (0 : Int32)) := V8_272.other W276 ne_b8_bt
  have Kp276 : Keep h0 h276 [] := Kp272.wr W276 (Or.inr sz_bt)
  have N276 := Fr.snoc X276 N272 g_bt
  have Z276 : n0 ≤ h276.size := Nat.le_trans Z272 (Keep.of_wr W276).1
  have V_bt_276 : Arv Z h276 bt k215 .char (10 : Int32) [(.int (nar .char (g 0))), (.int (nar .char (g 1))), (.int (nar .char (g 2))), (.int (nar .char (g 3))), (.int (nar .char (g 4))), (.int (nar .char (g 5))), (.int (nar .char (g 6))), (.int (nar .char (g 7))), (.int (nar .char (g 8))), (.int (nar .char (((48 : Int32) + dd9).toUInt32.toUInt16.toUInt32.toInt32)))] (.int (0 : Int32)) := Arv.set Ar275 q275 S275 M275 H275 G275 (fits_nar_char _) W276 9 rfl (Nat.le_of_ble_eq_true rfl)
  have pre277 := fun τ (κ : Steps p.tables e below (T276.setTop (mkF m 650 #[.val (.long i0), .second, .val (.int i1), .val (.int i2), .val (.int i3), .val (.int dd0), .val (.int dd1), .val (.int dd2), .val (.int dd3), .val (.int dd4), .val (.int dd5), .val (.int dd6), .val (.int dd7), .val (.int ss), .val (.int d8), .val (.ref a), .val (.int ad), .val (.int e9), .val (.ref b8), .val (.ref bt), .unset, .unset, .unset, .unset] [])) τ) => pre274 τ (st276 _ κ)
  obtain ⟨gt, h_gt⟩ : ∃ z : Nat → Int32, z = fun j => [(nar .char (g 0)), (nar .char (g 1)), (nar .char (g 2)), (nar .char (g 3)), (nar .char (g 4)), (nar .char (g 5)), (nar .char (g 6)), (nar .char (g 7)), (nar .char (g 8)), (nar .char (((48 : Int32) + dd9).toUInt32.toUInt16.toUInt32.toInt32))].getD j 0 := ⟨_, rfl⟩
  have Vt : Arv Z h276 bt k215 .char (Int32.ofNat 10) (own_tab gt 10) (.int (0 : Int32)) := by rw [h_gt]; exact V_bt_276
  have hc_gt : ∀ j, j < 10 → own_ch (gt j) := by
    intro j hj
    rw [h_gt]
    match j, hj with
    | 0, _ => exact own_chn _
    | 1, _ => exact own_chn _
    | 2, _ => exact own_chn _
    | 3, _ => exact own_chn _
    | 4, _ => exact own_chn _
    | 5, _ => exact own_chn _
    | 6, _ => exact own_chn _
    | 7, _ => exact own_chn _
    | 8, _ => exact own_chn _
    | 9, _ => exact own_chn _
  have pre278 := fun τ (κ : Steps p.tables e below (T276.setTop (mkF m 651 #[.val (.long i0), .second, .val (.int i1), .val (.int i2), .val (.int i3), .val (.int dd0), .val (.int dd1), .val (.int dd2), .val (.int dd3), .val (.int dd4), .val (.int dd5), .val (.int dd6), .val (.int dd7), .val (.int ss), .val (.int d8), .val (.ref a), .val (.int ad), .val (.int e9), .val (.ref b8), .val (.ref bt), .unset, .unset, .unset, .unset] [(.int (0 : Int32))])) τ) => pre277 τ (by
    refine XS.iconst X276.here hx rfl (hb hby at_650) ?_
    show Steps p.tables e below (T276.setTop (mkF m 651 #[.val (.long i0), .second, .val (.int i1), .val (.int i2), .val (.int i3), .val (.int dd0), .val (.int dd1), .val (.int dd2), .val (.int dd3), .val (.int dd4), .val (.int dd5), .val (.int dd6), .val (.int dd7), .val (.int ss), .val (.int d8), .val (.ref a), .val (.int ad), .val (.int e9), .val (.ref b8), .val (.ref bt), .unset, .unset, .unset, .unset] [(.int (0 : Int32))])) _
    exact κ)
  obtain ⟨T279, h279, k279, X279, e279, E279, A279, st279⟩ := newP X276 hx hZ (hw _ (List.mem_of_getElem? (i := 6) rfl)) e276 (g := (mkF m 651 #[.val (.long i0), .second, .val (.int i1), .val (.int i2), .val (.int i3), .val (.int dd0), .val (.int dd1), .val (.int dd2), .val (.int dd3), .val (.int dd4), .val (.int dd5), .val (.int dd6), .val (.int dd7), .val (.int ss), .val (.int d8), .val (.ref a), .val (.int ad), .val (.int e9), .val (.ref b8), .val (.ref bt), .unset, .unset, .unset, .unset] [(.int (0 : Int32))])) rfl (hb hby at_651) rfl (by decide) (cap := 0) (by decide) (by decide) (by decide) (by decide)
  obtain ⟨b0, g279⟩ : ∃ z, z = h276.size := ⟨_, rfl⟩
  rw [← g279] at A279 st279
  have g_b0 : n0 ≤ b0 := Nat.le_trans Z276 (Nat.le_of_eq g279.symm)
  have ne_a_b0 : a ≠ b0 := Nat.ne_of_lt (Nat.lt_of_lt_of_le Va_276.lt (Nat.le_of_eq g279.symm))
  have ne_b8_b0 : b8 ≠ b0 := Nat.ne_of_lt (Nat.lt_of_lt_of_le V8_276.lt (Nat.le_of_eq g279.symm))
  have ne_bt_b0 : bt ≠ b0 := Nat.ne_of_lt (Nat.lt_of_lt_of_le Vt.lt (Nat.le_of_eq g279.symm))
  have O0_279 : Old Z n0 h279 := O0_276.ext E279
  have Va_279 : Arv Z h279 a k36 .char (Int32.ofNat 9) (own_tab g 9) (.int (0 : Int32)) := Va_276.ext E279
  have V8_279 : Arv Z h279 b8 k164 .char (Int32.ofNat 8) (own_tab g8 (8)) (.int (0 : Int32)) := V8_276.ext E279
  have Vt_279 : Arv Z h279 bt k215 .char (Int32.ofNat 10) (own_tab gt (10)) (.int (0 : Int32)) := Vt.ext E279
  have sz_b0 : h0.size ≤ b0 := Nat.le_trans Kp276.1 (Nat.le_of_eq g279.symm)
  have Kp279 : Keep h0 h279 [] := Kp276.ext E279
  have Z279 : n0 ≤ h279.size := Nat.le_trans Z276 E279.1
  have V_b0_279 : Arv Z h279 b0 k279 .char (0 : Int32) [] (.int (0 : Int32)) := (Arv.new A279 (by decide)).pad (pad_rep [] (.int (0 : Int32)) 0)
  have pre280 := fun τ (κ : Steps p.tables e below (T279.setTop (mkF m 653 #[.val (.long i0), .second, .val (.int i1), .val (.int i2), .val (.int i3), .val (.int dd0), .val (.int dd1), .val (.int dd2), .val (.int dd3), .val (.int dd4), .val (.int dd5), .val (.int dd6), .val (.int dd7), .val (.int ss), .val (.int d8), .val (.ref a), .val (.int ad), .val (.int e9), .val (.ref b8), .val (.ref bt), .unset, .unset, .unset, .unset] [(.ref b0)])) τ) => pre278 τ (st279 _ κ)
  have pre281 := fun τ (κ : Steps p.tables e below (T279.setTop (mkF m 663 #[.val (.long i0), .second, .val (.int i1), .val (.int i2), .val (.int i3), .val (.int dd0), .val (.int dd1), .val (.int dd2), .val (.int dd3), .val (.int dd4), .val (.int dd5), .val (.int dd6), .val (.int dd7), .val (.int ss), .val (.int d8), .val (.ref a), .val (.int ad), .val (.int e9), .val (.ref b8), .val (.ref bt), .val (.ref b0), .val (.int (((i3.toUInt32 >>> ((2 : Int32) &&& 31).toUInt32).toInt32) &&& (3 : Int32))), .unset, .unset] [])) τ) => pre280 τ (by
    refine XS.astore X279.here hx rfl (hb hby at_653) rfl rfl (l' := #[.val (.long i0), .second, .val (.int i1), .val (.int i2), .val (.int i3), .val (.int dd0), .val (.int dd1), .val (.int dd2), .val (.int dd3), .val (.int dd4), .val (.int dd5), .val (.int dd6), .val (.int dd7), .val (.int ss), .val (.int d8), .val (.ref a), .val (.int ad), .val (.int e9), .val (.ref b8), .val (.ref bt), .val (.ref b0), .unset, .unset, .unset]) rfl ?_
    show Steps p.tables e below (T279.setTop (mkF m 655 #[.val (.long i0), .second, .val (.int i1), .val (.int i2), .val (.int i3), .val (.int dd0), .val (.int dd1), .val (.int dd2), .val (.int dd3), .val (.int dd4), .val (.int dd5), .val (.int dd6), .val (.int dd7), .val (.int ss), .val (.int d8), .val (.ref a), .val (.int ad), .val (.int e9), .val (.ref b8), .val (.ref bt), .val (.ref b0), .unset, .unset, .unset] [])) _
    refine XS.iload X279.here hx rfl (hb hby at_655) rfl ?_
    refine XS.iconst X279.here hx rfl (hb hby at_657) ?_
    refine XS.iushr X279.here hx rfl (hb hby at_658) rfl ?_
    show Steps p.tables e below (T279.setTop (mkF m 659 #[.val (.long i0), .second, .val (.int i1), .val (.int i2), .val (.int i3), .val (.int dd0), .val (.int dd1), .val (.int dd2), .val (.int dd3), .val (.int dd4), .val (.int dd5), .val (.int dd6), .val (.int dd7), .val (.int ss), .val (.int d8), .val (.ref a), .val (.int ad), .val (.int e9), .val (.ref b8), .val (.ref bt), .val (.ref b0), .unset, .unset, .unset] [(.int ((i3.toUInt32 >>> ((2 : Int32) &&& 31).toUInt32).toInt32))])) _
    refine XS.iconst X279.here hx rfl (hb hby at_659) ?_
    refine XS.iand X279.here hx rfl (hb hby at_660) rfl ?_
    show Steps p.tables e below (T279.setTop (mkF m 661 #[.val (.long i0), .second, .val (.int i1), .val (.int i2), .val (.int i3), .val (.int dd0), .val (.int dd1), .val (.int dd2), .val (.int dd3), .val (.int dd4), .val (.int dd5), .val (.int dd6), .val (.int dd7), .val (.int ss), .val (.int d8), .val (.ref a), .val (.int ad), .val (.int e9), .val (.ref b8), .val (.ref bt), .val (.ref b0), .unset, .unset, .unset] [(.int (((i3.toUInt32 >>> ((2 : Int32) &&& 31).toUInt32).toInt32) &&& (3 : Int32)))])) _
    refine XS.istore X279.here hx rfl (hb hby at_661) rfl (l' := #[.val (.long i0), .second, .val (.int i1), .val (.int i2), .val (.int i3), .val (.int dd0), .val (.int dd1), .val (.int dd2), .val (.int dd3), .val (.int dd4), .val (.int dd5), .val (.int dd6), .val (.int dd7), .val (.int ss), .val (.int d8), .val (.ref a), .val (.int ad), .val (.int e9), .val (.ref b8), .val (.ref bt), .val (.ref b0), .val (.int (((i3.toUInt32 >>> ((2 : Int32) &&& 31).toUInt32).toInt32) &&& (3 : Int32))), .unset, .unset]) rfl ?_
    show Steps p.tables e below (T279.setTop (mkF m 663 #[.val (.long i0), .second, .val (.int i1), .val (.int i2), .val (.int i3), .val (.int dd0), .val (.int dd1), .val (.int dd2), .val (.int dd3), .val (.int dd4), .val (.int dd5), .val (.int dd6), .val (.int dd7), .val (.int ss), .val (.int d8), .val (.ref a), .val (.int ad), .val (.int e9), .val (.ref b8), .val (.ref bt), .val (.ref b0), .val (.int (((i3.toUInt32 >>> ((2 : Int32) &&& 31).toUInt32).toInt32) &&& (3 : Int32))), .unset, .unset] [])) _
    exact κ)
  obtain ⟨lm, h_lm⟩ : ∃ z : Int32, z = (((i3.toUInt32 >>> ((2 : Int32) &&& 31).toUInt32).toInt32) &&& (3 : Int32)) := ⟨_, rfl⟩
  rw [← h_lm] at pre281
  have pre282 := fun τ (κ : Steps p.tables e below (T279.setTop (mkF m 665 #[.val (.long i0), .second, .val (.int i1), .val (.int i2), .val (.int i3), .val (.int dd0), .val (.int dd1), .val (.int dd2), .val (.int dd3), .val (.int dd4), .val (.int dd5), .val (.int dd6), .val (.int dd7), .val (.int ss), .val (.int d8), .val (.ref a), .val (.int ad), .val (.int e9), .val (.ref b8), .val (.ref bt), .val (.ref b0), .val (.int lm), .unset, .unset] [(.int lm)])) τ) => pre281 τ (by
    refine XS.iload X279.here hx rfl (hb hby at_663) rfl ?_
    show Steps p.tables e below (T279.setTop (mkF m 665 #[.val (.long i0), .second, .val (.int i1), .val (.int i2), .val (.int i3), .val (.int dd0), .val (.int dd1), .val (.int dd2), .val (.int dd3), .val (.int dd4), .val (.int dd5), .val (.int dd6), .val (.int dd7), .val (.int ss), .val (.int d8), .val (.ref a), .val (.int ad), .val (.int e9), .val (.ref b8), .val (.ref bt), .val (.ref b0), .val (.int lm), .unset, .unset] [(.int lm)])) _
    exact κ)
  by_cases l0 : lm = (0 : Int32)
  · have pre283 := fun τ (κ : Steps p.tables e below (T279.setTop (mkF m 668 #[.val (.long i0), .second, .val (.int i1), .val (.int i2), .val (.int i3), .val (.int dd0), .val (.int dd1), .val (.int dd2), .val (.int dd3), .val (.int dd4), .val (.int dd5), .val (.int dd6), .val (.int dd7), .val (.int ss), .val (.int d8), .val (.ref a), .val (.int ad), .val (.int e9), .val (.ref b8), .val (.ref bt), .val (.ref b0), .val (.int lm), .unset, .unset] [])) τ) => pre282 τ (by
      refine XS.ifNo X279.here hx rfl (hb hby at_665) rfl ((if0 _ _).trans (teq l0).2) ?_
      show Steps p.tables e below (T279.setTop (mkF m 668 #[.val (.long i0), .second, .val (.int i1), .val (.int i2), .val (.int i3), .val (.int dd0), .val (.int dd1), .val (.int dd2), .val (.int dd3), .val (.int dd4), .val (.int dd5), .val (.int dd6), .val (.int dd7), .val (.int ss), .val (.int d8), .val (.ref a), .val (.int ad), .val (.int e9), .val (.ref b8), .val (.ref bt), .val (.ref b0), .val (.int lm), .unset, .unset] [])) _
      exact κ)
    obtain ⟨T284, h284, X284, e284, E284, A284, D284, -, st284⟩ := newO X279 hx hZ hown (hw _ (List.mem_of_getElem? (i := 10) rfl)) (hw _ (List.mem_of_getElem? (i := 11) rfl)) (hw _ (List.mem_of_getElem? (i := 12) rfl)) e279 (g := (mkF m 668 #[.val (.long i0), .second, .val (.int i1), .val (.int i2), .val (.int i3), .val (.int dd0), .val (.int dd1), .val (.int dd2), .val (.int dd3), .val (.int dd4), .val (.int dd5), .val (.int dd6), .val (.int dd7), .val (.int ss), .val (.int d8), .val (.ref a), .val (.int ad), .val (.int e9), .val (.ref b8), .val (.ref bt), .val (.ref b0), .val (.int lm), .unset, .unset] [])) rfl (hb hby at_668) (by decide) (by decide)
    obtain ⟨so, g284⟩ : ∃ z, z = h279.size := ⟨_, rfl⟩
    rw [← g284] at A284 D284 st284
    have g_so : n0 ≤ so := Nat.le_trans Z279 (Nat.le_of_eq g284.symm)
    have ne_a_so : a ≠ so := Nat.ne_of_lt (Nat.lt_of_lt_of_le Va_279.lt (Nat.le_of_eq g284.symm))
    have ne_b8_so : b8 ≠ so := Nat.ne_of_lt (Nat.lt_of_lt_of_le V8_279.lt (Nat.le_of_eq g284.symm))
    have ne_bt_so : bt ≠ so := Nat.ne_of_lt (Nat.lt_of_lt_of_le Vt_279.lt (Nat.le_of_eq g284.symm))
    have ne_b0_so : b0 ≠ so := Nat.ne_of_lt (Nat.lt_of_lt_of_le V_b0_279.lt (Nat.le_of_eq g284.symm))
    have O0_284 : Old Z n0 h284 := O0_279.ext E284
    have Va_284 : Arv Z h284 a k36 .char (Int32.ofNat 9) (own_tab g 9) (.int (0 : Int32)) := Va_279.ext E284
    have V8_284 : Arv Z h284 b8 k164 .char (Int32.ofNat 8) (own_tab g8 (8)) (.int (0 : Int32)) := V8_279.ext E284
    have Vt_284 : Arv Z h284 bt k215 .char (Int32.ofNat 10) (own_tab gt (10)) (.int (0 : Int32)) := Vt_279.ext E284
    have V_b0_284 : Arv Z h284 b0 k279 .char (0 : Int32) [] (.int (0 : Int32)) := V_b0_279.ext E284
    have sz_so : h0.size ≤ so := Nat.le_trans Kp279.1 (Nat.le_of_eq g284.symm)
    have Kp284 : Keep h0 h284 [] := Kp279.ext E284
    have Z284 : n0 ≤ h284.size := Nat.le_trans Z279 E284.1
    have F_coder_so_284 : Fld Z h284 so "java/lang/String" "coder" "B" (.int (0 : Int32)) := D284 (Or.inr (hw _ (List.mem_of_getElem? (i := 36) rfl))) (ty := .byte) (by decide)
    have F_value_so_284 : Fld Z h284 so "java/lang/String" "value" "[B" .null := D284 (Or.inr (hw _ (List.mem_of_getElem? (i := 38) rfl))) (ty := (.array .byte)) (by decide)
    have pre285 := fun τ (κ : Steps p.tables e below (T284.setTop (mkF m 671 #[.val (.long i0), .second, .val (.int i1), .val (.int i2), .val (.int i3), .val (.int dd0), .val (.int dd1), .val (.int dd2), .val (.int dd3), .val (.int dd4), .val (.int dd5), .val (.int dd6), .val (.int dd7), .val (.int ss), .val (.int d8), .val (.ref a), .val (.int ad), .val (.int e9), .val (.ref b8), .val (.ref bt), .val (.ref b0), .val (.int lm), .unset, .unset] [(.ref so)])) τ) => pre283 τ (st284 _ κ)
    have pre286 := fun τ (κ : Steps p.tables e below (T284.setTop (mkF m 674 #[.val (.long i0), .second, .val (.int i1), .val (.int i2), .val (.int i3), .val (.int dd0), .val (.int dd1), .val (.int dd2), .val (.int dd3), .val (.int dd4), .val (.int dd5), .val (.int dd6), .val (.int dd7), .val (.int ss), .val (.int d8), .val (.ref a), .val (.int ad), .val (.int e9), .val (.ref b8), .val (.ref bt), .val (.ref b0), .val (.int lm), .unset, .unset] [(.ref a), (.ref so), (.ref so)])) τ) => pre285 τ (by
      refine XS.dup X284.here hx rfl (hb hby at_671) rfl rfl ?_
      show Steps p.tables e below (T284.setTop (mkF m 672 #[.val (.long i0), .second, .val (.int i1), .val (.int i2), .val (.int i3), .val (.int dd0), .val (.int dd1), .val (.int dd2), .val (.int dd3), .val (.int dd4), .val (.int dd5), .val (.int dd6), .val (.int dd7), .val (.int ss), .val (.int d8), .val (.ref a), .val (.int ad), .val (.int e9), .val (.ref b8), .val (.ref bt), .val (.ref b0), .val (.int lm), .unset, .unset] [(.ref so), (.ref so)])) _
      refine XS.aload X284.here hx rfl (hb hby at_672) rfl rfl ?_
      show Steps p.tables e below (T284.setTop (mkF m 674 #[.val (.long i0), .second, .val (.int i1), .val (.int i2), .val (.int i3), .val (.int dd0), .val (.int dd1), .val (.int dd2), .val (.int dd3), .val (.int dd4), .val (.int dd5), .val (.int dd6), .val (.int dd7), .val (.int ss), .val (.int d8), .val (.ref a), .val (.int ad), .val (.int e9), .val (.ref b8), .val (.ref bt), .val (.ref b0), .val (.int lm), .unset, .unset] [(.ref a), (.ref so), (.ref so)])) _
      exact κ)
    obtain ⟨_, _, ⟨T287, L287, k287, n287⟩, -, X287, ⟨Lc287, hQ287, l287, y287, z287⟩, st287⟩ := X284.specialBack hx (y := (⟨"java/lang/String", "<init>", "([C)V"⟩ : MethodName)) rfl hown (mvT hZ (hw _ (List.mem_of_getElem? (i := 13) rfl))) (mvT hZ (hw _ (List.mem_of_getElem? (i := 14) rfl))) (mvT hZ (hw _ (List.mem_of_getElem? (i := 15) rfl))) (by decide) (backOf (W := 1) (rm3 l Z a0 hw [] so a 9 k36 g zc fm h284 n0 Z284 O0_284 U0 A284 F_value_so_284 F_coder_so_284 Va_284 (by decide) (by decide) hg (Ne.symm ne_a_so) g_so) hZ (hw _ (List.mem_of_getElem? (i := 15) rfl)) (hw _ (List.mem_of_getElem? (i := 12) rfl)) (Nat.le_of_ble_eq_true rfl) (Nat.le_of_ble_eq_true rfl)) (g := (mkF m 674 #[.val (.long i0), .second, .val (.int i1), .val (.int i2), .val (.int i3), .val (.int dd0), .val (.int dd1), .val (.int dd2), .val (.int dd3), .val (.int dd4), .val (.int dd5), .val (.int dd6), .val (.int dd7), .val (.int ss), .val (.int d8), .val (.ref a), .val (.int ad), .val (.int e9), .val (.ref b8), .val (.ref bt), .val (.ref b0), .val (.int lm), .unset, .unset] [(.ref a), (.ref so), (.ref so)])) rfl (by rw [hml]; rfl) (Steps.refl _) (a := so) (argsL := [(.ref a)]) (rest := [(.ref so)]) (lenOf pd_18 rfl) rfl (by show 2 * 0 + _ ≤ _; exact Nat.le_of_eq rfl) (hb hby at_674) (fun _ _ => ⟨rfl, e284, (by decide : 5 + 2 ≤ _), (by decide : 31 + 48 ≤ _)⟩)
    dsimp only [Pt.U, Pt.locs, Pt.cells, Pt.slots] at X287 l287 y287 z287 st287 hQ287
    subst l287 y287 z287
    obtain ⟨rfl, Nq287, K287, P287⟩ := hQ287
    have O0_287 : Old Z n0 T287.heap := O0_284.keep K287 (allS g_so all0)
    have Va_287 : Arv Z T287.heap a k36 .char (Int32.ofNat 9) (own_tab g 9) (.int (0 : Int32)) := Va_284.keep K287 (ninS ne_a_so nin0)
    have V8_287 : Arv Z T287.heap b8 k164 .char (Int32.ofNat 8) (own_tab g8 (8)) (.int (0 : Int32)) := V8_284.keep K287 (ninS ne_b8_so nin0)
    have Vt_287 : Arv Z T287.heap bt k215 .char (Int32.ofNat 10) (own_tab gt (10)) (.int (0 : Int32)) := Vt_284.keep K287 (ninS ne_bt_so nin0)
    have V_b0_287 : Arv Z T287.heap b0 k279 .char (0 : Int32) [] (.int (0 : Int32)) := V_b0_284.keep K287 (ninS ne_b0_so nin0)
    have A284_287 : Exa Z T287.heap so "java/lang/String" := A284.keep K287
    have Z287 : n0 ≤ T287.heap.size := Nat.le_trans Z284 K287.1
    have Kp287 : Keep h0 T287.heap [] := Kp284.trans K287 (allS (Or.inr sz_so) all0)
    have N287 := Fr.app N276 Nq287
    have pre288 := fun τ (κ : Steps p.tables e below (T287.setTop (mkF m 677 #[.val (.long i0), .second, .val (.int i1), .val (.int i2), .val (.int i3), .val (.int dd0), .val (.int dd1), .val (.int dd2), .val (.int dd3), .val (.int dd4), .val (.int dd5), .val (.int dd6), .val (.int dd7), .val (.int ss), .val (.int d8), .val (.ref a), .val (.int ad), .val (.int e9), .val (.ref b8), .val (.ref bt), .val (.ref b0), .val (.int lm), .unset, .unset] [(.ref so)])) τ) => pre286 τ (st287.trans κ)
    have pre289 := fun τ (κ : Steps p.tables e below (T287.setTop (mkF m 748 #[.val (.long i0), .second, .val (.int i1), .val (.int i2), .val (.int i3), .val (.int dd0), .val (.int dd1), .val (.int dd2), .val (.int dd3), .val (.int dd4), .val (.int dd5), .val (.int dd6), .val (.int dd7), .val (.int ss), .val (.int d8), .val (.ref a), .val (.int ad), .val (.int e9), .val (.ref b8), .val (.ref bt), .val (.ref b0), .val (.int lm), .val (.ref so), .val (.int e9)] [(.ref so)])) τ) => pre288 τ (by
      refine XS.astore X287.here hx rfl (hb hby at_677) rfl rfl (l' := #[.val (.long i0), .second, .val (.int i1), .val (.int i2), .val (.int i3), .val (.int dd0), .val (.int dd1), .val (.int dd2), .val (.int dd3), .val (.int dd4), .val (.int dd5), .val (.int dd6), .val (.int dd7), .val (.int ss), .val (.int d8), .val (.ref a), .val (.int ad), .val (.int e9), .val (.ref b8), .val (.ref bt), .val (.ref b0), .val (.int lm), .val (.ref so), .unset]) rfl ?_
      show Steps p.tables e below (T287.setTop (mkF m 679 #[.val (.long i0), .second, .val (.int i1), .val (.int i2), .val (.int i3), .val (.int dd0), .val (.int dd1), .val (.int dd2), .val (.int dd3), .val (.int dd4), .val (.int dd5), .val (.int dd6), .val (.int dd7), .val (.int ss), .val (.int d8), .val (.ref a), .val (.int ad), .val (.int e9), .val (.ref b8), .val (.ref bt), .val (.ref b0), .val (.int lm), .val (.ref so), .unset] [])) _
      refine XS.iload X287.here hx rfl (hb hby at_679) rfl ?_
      refine XS.istore X287.here hx rfl (hb hby at_681) rfl (l' := #[.val (.long i0), .second, .val (.int i1), .val (.int i2), .val (.int i3), .val (.int dd0), .val (.int dd1), .val (.int dd2), .val (.int dd3), .val (.int dd4), .val (.int dd5), .val (.int dd6), .val (.int dd7), .val (.int ss), .val (.int d8), .val (.ref a), .val (.int ad), .val (.int e9), .val (.ref b8), .val (.ref bt), .val (.ref b0), .val (.int lm), .val (.ref so), .val (.int e9)]) rfl ?_
      show Steps p.tables e below (T287.setTop (mkF m 683 #[.val (.long i0), .second, .val (.int i1), .val (.int i2), .val (.int i3), .val (.int dd0), .val (.int dd1), .val (.int dd2), .val (.int dd3), .val (.int dd4), .val (.int dd5), .val (.int dd6), .val (.int dd7), .val (.int ss), .val (.int d8), .val (.ref a), .val (.int ad), .val (.int e9), .val (.ref b8), .val (.ref bt), .val (.ref b0), .val (.int lm), .val (.ref so), .val (.int e9)] [])) _
      refine XS.goto X287.here hx rfl (pc0 := 683) (pc' := 746) rfl (hb hby at_683) (by decide) (by decide) ?_
      show Steps p.tables e below (T287.setTop (mkF m 746 #[.val (.long i0), .second, .val (.int i1), .val (.int i2), .val (.int i3), .val (.int dd0), .val (.int dd1), .val (.int dd2), .val (.int dd3), .val (.int dd4), .val (.int dd5), .val (.int dd6), .val (.int dd7), .val (.int ss), .val (.int d8), .val (.ref a), .val (.int ad), .val (.int e9), .val (.ref b8), .val (.ref bt), .val (.ref b0), .val (.int lm), .val (.ref so), .val (.int e9)] [])) _
      refine XS.aload X287.here hx rfl (hb hby at_746) rfl rfl ?_
      show Steps p.tables e below (T287.setTop (mkF m 748 #[.val (.long i0), .second, .val (.int i1), .val (.int i2), .val (.int i3), .val (.int dd0), .val (.int dd1), .val (.int dd2), .val (.int dd3), .val (.int dd4), .val (.int dd5), .val (.int dd6), .val (.int dd7), .val (.int ss), .val (.int d8), .val (.ref a), .val (.int ad), .val (.int e9), .val (.ref b8), .val (.ref bt), .val (.ref b0), .val (.int lm), .val (.ref so), .val (.int e9)] [(.ref so)])) _
      exact κ)
    obtain ⟨_, _, ⟨T290, L290, k290, n290⟩, -, X290, ⟨Lc290, hQ290, l290, y290, z290⟩, st290⟩ := Jvm.LawKit.callS X287 hx (y := (⟨"com/example/docket/docket/core/Rsin", "isValid", "(Ljava/lang/String;)Z"⟩ : MethodName)) hown (mvT hZ (hw _ (List.mem_of_getElem? (i := 39) rfl))) (mvT hZ (hw _ (List.mem_of_getElem? (i := 40) rfl))) (mvT hZ (hw _ (List.mem_of_getElem? (i := 41) rfl))) (mvT hZ (hw _ (List.mem_of_getElem? (i := 42) rfl))) (by decide) (backOf (W := 0) (rm9 l Z a0 hw [] so 9 g zc fm T287.heap n0 Z287 O0_287 U0 P287 (by decide) hg) hZ (hw _ (List.mem_of_getElem? (i := 42) rfl)) (hw _ (List.mem_of_getElem? (i := 41) rfl)) (Nat.le_of_ble_eq_true rfl) (Nat.le_of_ble_eq_true rfl)) (g := (mkF m 748 #[.val (.long i0), .second, .val (.int i1), .val (.int i2), .val (.int i3), .val (.int dd0), .val (.int dd1), .val (.int dd2), .val (.int dd3), .val (.int dd4), .val (.int dd5), .val (.int dd6), .val (.int dd7), .val (.int ss), .val (.int d8), .val (.ref a), .val (.int ad), .val (.int e9), .val (.ref b8), .val (.ref bt), .val (.ref b0), .val (.int lm), .val (.ref so), .val (.int e9)] [(.ref so)])) rfl (by rw [hml]; rfl) (argsL := [(.ref so)]) (rest := []) (lenOf pd_19 rfl) rfl (by show 2 * 0 + _ ≤ _; exact Nat.le_of_eq rfl) (hb hby at_748) (fun _ _ => ⟨rfl, rfl, (by decide : 7 + 0 ≤ _), (by decide : 79 + 0 ≤ _)⟩)
    dsimp only [Pt.U, Pt.locs, Pt.cells, Pt.slots] at X290 l290 y290 z290 st290 hQ290
    subst l290 y290 z290
    obtain ⟨r9, rfl, Nq290, hh290, rN, rY⟩ := hQ290
    have O0_290 : Old Z n0 T290.heap := by rw [hh290]; exact O0_287
    have Va_290 : Arv Z T290.heap a k36 .char (Int32.ofNat 9) (own_tab g 9) (.int (0 : Int32)) := by rw [hh290]; exact Va_287
    have V8_290 : Arv Z T290.heap b8 k164 .char (Int32.ofNat 8) (own_tab g8 (8)) (.int (0 : Int32)) := by rw [hh290]; exact V8_287
    have Vt_290 : Arv Z T290.heap bt k215 .char (Int32.ofNat 10) (own_tab gt (10)) (.int (0 : Int32)) := by rw [hh290]; exact Vt_287
    have V_b0_290 : Arv Z T290.heap b0 k279 .char (0 : Int32) [] (.int (0 : Int32)) := by rw [hh290]; exact V_b0_287
    have A284_290 : Exa Z T290.heap so "java/lang/String" := by rw [hh290]; exact A284_287
    have P287_290 : own_STR Z T290.heap so g 9 := by rw [hh290]; exact P287
    have Z290 : n0 ≤ T290.heap.size := by rw [hh290]; exact Z287
    have Kp290 : Keep h0 T290.heap [] := by rw [hh290]; exact Kp287
    have N290 := Fr.app N287 Nq290
    have pre291 := fun τ (κ : Steps p.tables e below (T290.setTop (mkF m 751 #[.val (.long i0), .second, .val (.int i1), .val (.int i2), .val (.int i3), .val (.int dd0), .val (.int dd1), .val (.int dd2), .val (.int dd3), .val (.int dd4), .val (.int dd5), .val (.int dd6), .val (.int dd7), .val (.int ss), .val (.int d8), .val (.ref a), .val (.int ad), .val (.int e9), .val (.ref b8), .val (.ref bt), .val (.ref b0), .val (.int lm), .val (.ref so), .val (.int e9)] [(.int r9)])) τ) => pre289 τ (st290 _ κ)
    have pre292 := fun τ (κ : Steps p.tables e below (T290.setTop (mkF m 761 #[.val (.long i0), .second, .val (.int i1), .val (.int i2), .val (.int i3), .val (.int dd0), .val (.int dd1), .val (.int dd2), .val (.int dd3), .val (.int dd4), .val (.int dd5), .val (.int dd6), .val (.int dd7), .val (.int ss), .val (.int d8), .val (.ref a), .val (.int ad), .val (.int e9), .val (.ref b8), .val (.ref bt), .val (.ref b0), .val (.int lm), .val (.ref so), .val (.int e9)] [(.int (1 : Int32))])) τ) => pre291 τ (by
      refine XS.iload X290.here hx rfl (hb hby at_751) rfl ?_
      refine XS.icmpNo X290.here hx rfl (hb hby at_753) rfl (teq (own_main hg he9 rY)).2 ?_
      show Steps p.tables e below (T290.setTop (mkF m 756 #[.val (.long i0), .second, .val (.int i1), .val (.int i2), .val (.int i3), .val (.int dd0), .val (.int dd1), .val (.int dd2), .val (.int dd3), .val (.int dd4), .val (.int dd5), .val (.int dd6), .val (.int dd7), .val (.int ss), .val (.int d8), .val (.ref a), .val (.int ad), .val (.int e9), .val (.ref b8), .val (.ref bt), .val (.ref b0), .val (.int lm), .val (.ref so), .val (.int e9)] [])) _
      refine XS.iconst X290.here hx rfl (hb hby at_756) ?_
      refine XS.goto X290.here hx rfl (pc0 := 757) (pc' := 761) rfl (hb hby at_757) (by decide) (by decide) ?_
      show Steps p.tables e below (T290.setTop (mkF m 761 #[.val (.long i0), .second, .val (.int i1), .val (.int i2), .val (.int i3), .val (.int dd0), .val (.int dd1), .val (.int dd2), .val (.int dd3), .val (.int dd4), .val (.int dd5), .val (.int dd6), .val (.int dd7), .val (.int ss), .val (.int d8), .val (.ref a), .val (.int ad), .val (.int e9), .val (.ref b8), .val (.ref bt), .val (.ref b0), .val (.int lm), .val (.ref so), .val (.int e9)] [(.int (1 : Int32))])) _
      exact κ)
    obtain ⟨fs, hr, hrun, hended, hEnd⟩ := Stand.leaveW (s := s) (vm₁ := s.vm) X290 hS0 (Nat.zero_le _) (v := some (.int (1 : Int32))) (fun h => by rw [Bd.returns] at h; cases h)
    refine ⟨_, _, pre292 _ ?_, hrun, hended, _, _, rfl, ?_, ⟨hEnd.1, hEnd.2.1, hEnd.2.2.1, hEnd.2.2.2.mono (by decide) (by decide)⟩⟩
    · exact retN X290 hx (t := .boolean) Bd.returns (by simp) (hb hby at_761) hr
    · show Q0 Z i0 i1 i2 i3 zc fm h0 n0 _ T290.heap _
      exact ⟨rfl, N290⟩
  · have pre293 := fun τ (κ : Steps p.tables e below (T279.setTop (mkF m 689 #[.val (.long i0), .second, .val (.int i1), .val (.int i2), .val (.int i3), .val (.int dd0), .val (.int dd1), .val (.int dd2), .val (.int dd3), .val (.int dd4), .val (.int dd5), .val (.int dd6), .val (.int dd7), .val (.int ss), .val (.int d8), .val (.ref a), .val (.int ad), .val (.int e9), .val (.ref b8), .val (.ref bt), .val (.ref b0), .val (.int lm), .unset, .unset] [(.int (1 : Int32)), (.int lm)])) τ) => pre282 τ (by
      refine XS.ifYes X279.here hx rfl (pc0 := 665) (pc' := 686) rfl (hb hby at_665) rfl ((if0 _ _).trans (feq l0).2) (by decide) (by decide) ?_
      show Steps p.tables e below (T279.setTop (mkF m 686 #[.val (.long i0), .second, .val (.int i1), .val (.int i2), .val (.int i3), .val (.int dd0), .val (.int dd1), .val (.int dd2), .val (.int dd3), .val (.int dd4), .val (.int dd5), .val (.int dd6), .val (.int dd7), .val (.int ss), .val (.int d8), .val (.ref a), .val (.int ad), .val (.int e9), .val (.ref b8), .val (.ref bt), .val (.ref b0), .val (.int lm), .unset, .unset] [])) _
      refine XS.iload X279.here hx rfl (hb hby at_686) rfl ?_
      refine XS.iconst X279.here hx rfl (hb hby at_688) ?_
      show Steps p.tables e below (T279.setTop (mkF m 689 #[.val (.long i0), .second, .val (.int i1), .val (.int i2), .val (.int i3), .val (.int dd0), .val (.int dd1), .val (.int dd2), .val (.int dd3), .val (.int dd4), .val (.int dd5), .val (.int dd6), .val (.int dd7), .val (.int ss), .val (.int d8), .val (.ref a), .val (.int ad), .val (.int e9), .val (.ref b8), .val (.ref bt), .val (.ref b0), .val (.int lm), .unset, .unset] [(.int (1 : Int32)), (.int lm)])) _
      exact κ)
    by_cases l1 : lm = (1 : Int32)
    · have pre294 := fun τ (κ : Steps p.tables e below (T279.setTop (mkF m 692 #[.val (.long i0), .second, .val (.int i1), .val (.int i2), .val (.int i3), .val (.int dd0), .val (.int dd1), .val (.int dd2), .val (.int dd3), .val (.int dd4), .val (.int dd5), .val (.int dd6), .val (.int dd7), .val (.int ss), .val (.int d8), .val (.ref a), .val (.int ad), .val (.int e9), .val (.ref b8), .val (.ref bt), .val (.ref b0), .val (.int lm), .unset, .unset] [])) τ) => pre293 τ (by
        refine XS.icmpNo X279.here hx rfl (hb hby at_689) rfl (teq l1).2 ?_
        show Steps p.tables e below (T279.setTop (mkF m 692 #[.val (.long i0), .second, .val (.int i1), .val (.int i2), .val (.int i3), .val (.int dd0), .val (.int dd1), .val (.int dd2), .val (.int dd3), .val (.int dd4), .val (.int dd5), .val (.int dd6), .val (.int dd7), .val (.int ss), .val (.int d8), .val (.ref a), .val (.int ad), .val (.int e9), .val (.ref b8), .val (.ref bt), .val (.ref b0), .val (.int lm), .unset, .unset] [])) _
        exact κ)
      obtain ⟨T295, h295, X295, e295, E295, A295, D295, -, st295⟩ := newO X279 hx hZ hown (hw _ (List.mem_of_getElem? (i := 10) rfl)) (hw _ (List.mem_of_getElem? (i := 11) rfl)) (hw _ (List.mem_of_getElem? (i := 12) rfl)) e279 (g := (mkF m 692 #[.val (.long i0), .second, .val (.int i1), .val (.int i2), .val (.int i3), .val (.int dd0), .val (.int dd1), .val (.int dd2), .val (.int dd3), .val (.int dd4), .val (.int dd5), .val (.int dd6), .val (.int dd7), .val (.int ss), .val (.int d8), .val (.ref a), .val (.int ad), .val (.int e9), .val (.ref b8), .val (.ref bt), .val (.ref b0), .val (.int lm), .unset, .unset] [])) rfl (hb hby at_692) (by decide) (by decide)
      obtain ⟨so, g295⟩ : ∃ z, z = h279.size := ⟨_, rfl⟩
      rw [← g295] at A295 D295 st295
      have g_so : n0 ≤ so := Nat.le_trans Z279 (Nat.le_of_eq g295.symm)
      have ne_a_so : a ≠ so := Nat.ne_of_lt (Nat.lt_of_lt_of_le Va_279.lt (Nat.le_of_eq g295.symm))
      have ne_b8_so : b8 ≠ so := Nat.ne_of_lt (Nat.lt_of_lt_of_le V8_279.lt (Nat.le_of_eq g295.symm))
      have ne_bt_so : bt ≠ so := Nat.ne_of_lt (Nat.lt_of_lt_of_le Vt_279.lt (Nat.le_of_eq g295.symm))
      have ne_b0_so : b0 ≠ so := Nat.ne_of_lt (Nat.lt_of_lt_of_le V_b0_279.lt (Nat.le_of_eq g295.symm))
      have O0_295 : Old Z n0 h295 := O0_279.ext E295
      have Va_295 : Arv Z h295 a k36 .char (Int32.ofNat 9) (own_tab g 9) (.int (0 : Int32)) := Va_279.ext E295
      have V8_295 : Arv Z h295 b8 k164 .char (Int32.ofNat 8) (own_tab g8 (8)) (.int (0 : Int32)) := V8_279.ext E295
      have Vt_295 : Arv Z h295 bt k215 .char (Int32.ofNat 10) (own_tab gt (10)) (.int (0 : Int32)) := Vt_279.ext E295
      have V_b0_295 : Arv Z h295 b0 k279 .char (0 : Int32) [] (.int (0 : Int32)) := V_b0_279.ext E295
      have sz_so : h0.size ≤ so := Nat.le_trans Kp279.1 (Nat.le_of_eq g295.symm)
      have Kp295 : Keep h0 h295 [] := Kp279.ext E295
      have Z295 : n0 ≤ h295.size := Nat.le_trans Z279 E295.1
      have F_coder_so_295 : Fld Z h295 so "java/lang/String" "coder" "B" (.int (0 : Int32)) := D295 (Or.inr (hw _ (List.mem_of_getElem? (i := 36) rfl))) (ty := .byte) (by decide)
      have F_value_so_295 : Fld Z h295 so "java/lang/String" "value" "[B" .null := D295 (Or.inr (hw _ (List.mem_of_getElem? (i := 38) rfl))) (ty := (.array .byte)) (by decide)
      have pre296 := fun τ (κ : Steps p.tables e below (T295.setTop (mkF m 695 #[.val (.long i0), .second, .val (.int i1), .val (.int i2), .val (.int i3), .val (.int dd0), .val (.int dd1), .val (.int dd2), .val (.int dd3), .val (.int dd4), .val (.int dd5), .val (.int dd6), .val (.int dd7), .val (.int ss), .val (.int d8), .val (.ref a), .val (.int ad), .val (.int e9), .val (.ref b8), .val (.ref bt), .val (.ref b0), .val (.int lm), .unset, .unset] [(.ref so)])) τ) => pre294 τ (st295 _ κ)
      have pre297 := fun τ (κ : Steps p.tables e below (T295.setTop (mkF m 698 #[.val (.long i0), .second, .val (.int i1), .val (.int i2), .val (.int i3), .val (.int dd0), .val (.int dd1), .val (.int dd2), .val (.int dd3), .val (.int dd4), .val (.int dd5), .val (.int dd6), .val (.int dd7), .val (.int ss), .val (.int d8), .val (.ref a), .val (.int ad), .val (.int e9), .val (.ref b8), .val (.ref bt), .val (.ref b0), .val (.int lm), .unset, .unset] [(.ref b8), (.ref so), (.ref so)])) τ) => pre296 τ (by
        refine XS.dup X295.here hx rfl (hb hby at_695) rfl rfl ?_
        show Steps p.tables e below (T295.setTop (mkF m 696 #[.val (.long i0), .second, .val (.int i1), .val (.int i2), .val (.int i3), .val (.int dd0), .val (.int dd1), .val (.int dd2), .val (.int dd3), .val (.int dd4), .val (.int dd5), .val (.int dd6), .val (.int dd7), .val (.int ss), .val (.int d8), .val (.ref a), .val (.int ad), .val (.int e9), .val (.ref b8), .val (.ref bt), .val (.ref b0), .val (.int lm), .unset, .unset] [(.ref so), (.ref so)])) _
        refine XS.aload X295.here hx rfl (hb hby at_696) rfl rfl ?_
        show Steps p.tables e below (T295.setTop (mkF m 698 #[.val (.long i0), .second, .val (.int i1), .val (.int i2), .val (.int i3), .val (.int dd0), .val (.int dd1), .val (.int dd2), .val (.int dd3), .val (.int dd4), .val (.int dd5), .val (.int dd6), .val (.int dd7), .val (.int ss), .val (.int d8), .val (.ref a), .val (.int ad), .val (.int e9), .val (.ref b8), .val (.ref bt), .val (.ref b0), .val (.int lm), .unset, .unset] [(.ref b8), (.ref so), (.ref so)])) _
        exact κ)
      obtain ⟨_, _, ⟨T298, L298, k298, n298⟩, -, X298, ⟨Lc298, hQ298, l298, y298, z298⟩, st298⟩ := X295.specialBack hx (y := (⟨"java/lang/String", "<init>", "([C)V"⟩ : MethodName)) rfl hown (mvT hZ (hw _ (List.mem_of_getElem? (i := 13) rfl))) (mvT hZ (hw _ (List.mem_of_getElem? (i := 14) rfl))) (mvT hZ (hw _ (List.mem_of_getElem? (i := 15) rfl))) (by decide) (backOf (W := 1) (rm3 l Z a0 hw [] so b8 8 k164 g8 zc fm h295 n0 Z295 O0_295 U0 A295 F_value_so_295 F_coder_so_295 V8_295 (by decide) (by decide) hc_g8 (Ne.symm ne_b8_so) g_so) hZ (hw _ (List.mem_of_getElem? (i := 15) rfl)) (hw _ (List.mem_of_getElem? (i := 12) rfl)) (Nat.le_of_ble_eq_true rfl) (Nat.le_of_ble_eq_true rfl)) (g := (mkF m 698 #[.val (.long i0), .second, .val (.int i1), .val (.int i2), .val (.int i3), .val (.int dd0), .val (.int dd1), .val (.int dd2), .val (.int dd3), .val (.int dd4), .val (.int dd5), .val (.int dd6), .val (.int dd7), .val (.int ss), .val (.int d8), .val (.ref a), .val (.int ad), .val (.int e9), .val (.ref b8), .val (.ref bt), .val (.ref b0), .val (.int lm), .unset, .unset] [(.ref b8), (.ref so), (.ref so)])) rfl (by rw [hml]; rfl) (Steps.refl _) (a := so) (argsL := [(.ref b8)]) (rest := [(.ref so)]) (lenOf pd_18 rfl) rfl (by show 2 * 0 + _ ≤ _; exact Nat.le_of_eq rfl) (hb hby at_698) (fun _ _ => ⟨rfl, e295, (by decide : 5 + 2 ≤ _), (by decide : 31 + 48 ≤ _)⟩)
      dsimp only [Pt.U, Pt.locs, Pt.cells, Pt.slots] at X298 l298 y298 z298 st298 hQ298
      subst l298 y298 z298
      obtain ⟨rfl, Nq298, K298, P298⟩ := hQ298
      have O0_298 : Old Z n0 T298.heap := O0_295.keep K298 (allS g_so all0)
      have Va_298 : Arv Z T298.heap a k36 .char (Int32.ofNat 9) (own_tab g 9) (.int (0 : Int32)) := Va_295.keep K298 (ninS ne_a_so nin0)
      have V8_298 : Arv Z T298.heap b8 k164 .char (Int32.ofNat 8) (own_tab g8 (8)) (.int (0 : Int32)) := V8_295.keep K298 (ninS ne_b8_so nin0)
      have Vt_298 : Arv Z T298.heap bt k215 .char (Int32.ofNat 10) (own_tab gt (10)) (.int (0 : Int32)) := Vt_295.keep K298 (ninS ne_bt_so nin0)
      have V_b0_298 : Arv Z T298.heap b0 k279 .char (0 : Int32) [] (.int (0 : Int32)) := V_b0_295.keep K298 (ninS ne_b0_so nin0)
      have A295_298 : Exa Z T298.heap so "java/lang/String" := A295.keep K298
      have Z298 : n0 ≤ T298.heap.size := Nat.le_trans Z295 K298.1
      have Kp298 : Keep h0 T298.heap [] := Kp295.trans K298 (allS (Or.inr sz_so) all0)
      have N298 := Fr.app N276 Nq298
      have pre299 := fun τ (κ : Steps p.tables e below (T298.setTop (mkF m 701 #[.val (.long i0), .second, .val (.int i1), .val (.int i2), .val (.int i3), .val (.int dd0), .val (.int dd1), .val (.int dd2), .val (.int dd3), .val (.int dd4), .val (.int dd5), .val (.int dd6), .val (.int dd7), .val (.int ss), .val (.int d8), .val (.ref a), .val (.int ad), .val (.int e9), .val (.ref b8), .val (.ref bt), .val (.ref b0), .val (.int lm), .unset, .unset] [(.ref so)])) τ) => pre297 τ (st298.trans κ)
      have pre300 := fun τ (κ : Steps p.tables e below (T298.setTop (mkF m 748 #[.val (.long i0), .second, .val (.int i1), .val (.int i2), .val (.int i3), .val (.int dd0), .val (.int dd1), .val (.int dd2), .val (.int dd3), .val (.int dd4), .val (.int dd5), .val (.int dd6), .val (.int dd7), .val (.int ss), .val (.int d8), .val (.ref a), .val (.int ad), .val (.int e9), .val (.ref b8), .val (.ref bt), .val (.ref b0), .val (.int lm), .val (.ref so), .val (.int (0 : Int32))] [(.ref so)])) τ) => pre299 τ (by
        refine XS.astore X298.here hx rfl (hb hby at_701) rfl rfl (l' := #[.val (.long i0), .second, .val (.int i1), .val (.int i2), .val (.int i3), .val (.int dd0), .val (.int dd1), .val (.int dd2), .val (.int dd3), .val (.int dd4), .val (.int dd5), .val (.int dd6), .val (.int dd7), .val (.int ss), .val (.int d8), .val (.ref a), .val (.int ad), .val (.int e9), .val (.ref b8), .val (.ref bt), .val (.ref b0), .val (.int lm), .val (.ref so), .unset]) rfl ?_
        show Steps p.tables e below (T298.setTop (mkF m 703 #[.val (.long i0), .second, .val (.int i1), .val (.int i2), .val (.int i3), .val (.int dd0), .val (.int dd1), .val (.int dd2), .val (.int dd3), .val (.int dd4), .val (.int dd5), .val (.int dd6), .val (.int dd7), .val (.int ss), .val (.int d8), .val (.ref a), .val (.int ad), .val (.int e9), .val (.ref b8), .val (.ref bt), .val (.ref b0), .val (.int lm), .val (.ref so), .unset] [])) _
        refine XS.iconst X298.here hx rfl (hb hby at_703) ?_
        refine XS.istore X298.here hx rfl (hb hby at_704) rfl (l' := #[.val (.long i0), .second, .val (.int i1), .val (.int i2), .val (.int i3), .val (.int dd0), .val (.int dd1), .val (.int dd2), .val (.int dd3), .val (.int dd4), .val (.int dd5), .val (.int dd6), .val (.int dd7), .val (.int ss), .val (.int d8), .val (.ref a), .val (.int ad), .val (.int e9), .val (.ref b8), .val (.ref bt), .val (.ref b0), .val (.int lm), .val (.ref so), .val (.int (0 : Int32))]) rfl ?_
        show Steps p.tables e below (T298.setTop (mkF m 706 #[.val (.long i0), .second, .val (.int i1), .val (.int i2), .val (.int i3), .val (.int dd0), .val (.int dd1), .val (.int dd2), .val (.int dd3), .val (.int dd4), .val (.int dd5), .val (.int dd6), .val (.int dd7), .val (.int ss), .val (.int d8), .val (.ref a), .val (.int ad), .val (.int e9), .val (.ref b8), .val (.ref bt), .val (.ref b0), .val (.int lm), .val (.ref so), .val (.int (0 : Int32))] [])) _
        refine XS.goto X298.here hx rfl (pc0 := 706) (pc' := 746) rfl (hb hby at_706) (by decide) (by decide) ?_
        show Steps p.tables e below (T298.setTop (mkF m 746 #[.val (.long i0), .second, .val (.int i1), .val (.int i2), .val (.int i3), .val (.int dd0), .val (.int dd1), .val (.int dd2), .val (.int dd3), .val (.int dd4), .val (.int dd5), .val (.int dd6), .val (.int dd7), .val (.int ss), .val (.int d8), .val (.ref a), .val (.int ad), .val (.int e9), .val (.ref b8), .val (.ref bt), .val (.ref b0), .val (.int lm), .val (.ref so), .val (.int (0 : Int32))] [])) _
        refine XS.aload X298.here hx rfl (hb hby at_746) rfl rfl ?_
        show Steps p.tables e below (T298.setTop (mkF m 748 #[.val (.long i0), .second, .val (.int i1), .val (.int i2), .val (.int i3), .val (.int dd0), .val (.int dd1), .val (.int dd2), .val (.int dd3), .val (.int dd4), .val (.int dd5), .val (.int dd6), .val (.int dd7), .val (.int ss), .val (.int d8), .val (.ref a), .val (.int ad), .val (.int e9), .val (.ref b8), .val (.ref bt), .val (.ref b0), .val (.int lm), .val (.ref so), .val (.int (0 : Int32))] [(.ref so)])) _
        exact κ)
      obtain ⟨_, _, ⟨T301, L301, k301, n301⟩, -, X301, ⟨Lc301, hQ301, l301, y301, z301⟩, st301⟩ := Jvm.LawKit.callS X298 hx (y := (⟨"com/example/docket/docket/core/Rsin", "isValid", "(Ljava/lang/String;)Z"⟩ : MethodName)) hown (mvT hZ (hw _ (List.mem_of_getElem? (i := 39) rfl))) (mvT hZ (hw _ (List.mem_of_getElem? (i := 40) rfl))) (mvT hZ (hw _ (List.mem_of_getElem? (i := 41) rfl))) (mvT hZ (hw _ (List.mem_of_getElem? (i := 42) rfl))) (by decide) (backOf (W := 0) (rm9 l Z a0 hw [] so 8 g8 zc fm T298.heap n0 Z298 O0_298 U0 P298 (by decide) hc_g8) hZ (hw _ (List.mem_of_getElem? (i := 42) rfl)) (hw _ (List.mem_of_getElem? (i := 41) rfl)) (Nat.le_of_ble_eq_true rfl) (Nat.le_of_ble_eq_true rfl)) (g := (mkF m 748 #[.val (.long i0), .second, .val (.int i1), .val (.int i2), .val (.int i3), .val (.int dd0), .val (.int dd1), .val (.int dd2), .val (.int dd3), .val (.int dd4), .val (.int dd5), .val (.int dd6), .val (.int dd7), .val (.int ss), .val (.int d8), .val (.ref a), .val (.int ad), .val (.int e9), .val (.ref b8), .val (.ref bt), .val (.ref b0), .val (.int lm), .val (.ref so), .val (.int (0 : Int32))] [(.ref so)])) rfl (by rw [hml]; rfl) (argsL := [(.ref so)]) (rest := []) (lenOf pd_19 rfl) rfl (by show 2 * 0 + _ ≤ _; exact Nat.le_of_eq rfl) (hb hby at_748) (fun _ _ => ⟨rfl, rfl, (by decide : 7 + 0 ≤ _), (by decide : 79 + 0 ≤ _)⟩)
      dsimp only [Pt.U, Pt.locs, Pt.cells, Pt.slots] at X301 l301 y301 z301 st301 hQ301
      subst l301 y301 z301
      obtain ⟨r9, rfl, Nq301, hh301, rN, rY⟩ := hQ301
      have O0_301 : Old Z n0 T301.heap := by rw [hh301]; exact O0_298
      have Va_301 : Arv Z T301.heap a k36 .char (Int32.ofNat 9) (own_tab g 9) (.int (0 : Int32)) := by rw [hh301]; exact Va_298
      have V8_301 : Arv Z T301.heap b8 k164 .char (Int32.ofNat 8) (own_tab g8 (8)) (.int (0 : Int32)) := by rw [hh301]; exact V8_298
      have Vt_301 : Arv Z T301.heap bt k215 .char (Int32.ofNat 10) (own_tab gt (10)) (.int (0 : Int32)) := by rw [hh301]; exact Vt_298
      have V_b0_301 : Arv Z T301.heap b0 k279 .char (0 : Int32) [] (.int (0 : Int32)) := by rw [hh301]; exact V_b0_298
      have A295_301 : Exa Z T301.heap so "java/lang/String" := by rw [hh301]; exact A295_298
      have P298_301 : own_STR Z T301.heap so g8 8 := by rw [hh301]; exact P298
      have Z301 : n0 ≤ T301.heap.size := by rw [hh301]; exact Z298
      have Kp301 : Keep h0 T301.heap [] := by rw [hh301]; exact Kp298
      have N301 := Fr.app N298 Nq301
      have pre302 := fun τ (κ : Steps p.tables e below (T301.setTop (mkF m 751 #[.val (.long i0), .second, .val (.int i1), .val (.int i2), .val (.int i3), .val (.int dd0), .val (.int dd1), .val (.int dd2), .val (.int dd3), .val (.int dd4), .val (.int dd5), .val (.int dd6), .val (.int dd7), .val (.int ss), .val (.int d8), .val (.ref a), .val (.int ad), .val (.int e9), .val (.ref b8), .val (.ref bt), .val (.ref b0), .val (.int lm), .val (.ref so), .val (.int (0 : Int32))] [(.int r9)])) τ) => pre300 τ (st301 _ κ)
      have pre303 := fun τ (κ : Steps p.tables e below (T301.setTop (mkF m 761 #[.val (.long i0), .second, .val (.int i1), .val (.int i2), .val (.int i3), .val (.int dd0), .val (.int dd1), .val (.int dd2), .val (.int dd3), .val (.int dd4), .val (.int dd5), .val (.int dd6), .val (.int dd7), .val (.int ss), .val (.int d8), .val (.ref a), .val (.int ad), .val (.int e9), .val (.ref b8), .val (.ref bt), .val (.ref b0), .val (.int lm), .val (.ref so), .val (.int (0 : Int32))] [(.int (1 : Int32))])) τ) => pre302 τ (by
        refine XS.iload X301.here hx rfl (hb hby at_751) rfl ?_
        refine XS.icmpNo X301.here hx rfl (hb hby at_753) rfl (teq (rN (by decide))).2 ?_
        show Steps p.tables e below (T301.setTop (mkF m 756 #[.val (.long i0), .second, .val (.int i1), .val (.int i2), .val (.int i3), .val (.int dd0), .val (.int dd1), .val (.int dd2), .val (.int dd3), .val (.int dd4), .val (.int dd5), .val (.int dd6), .val (.int dd7), .val (.int ss), .val (.int d8), .val (.ref a), .val (.int ad), .val (.int e9), .val (.ref b8), .val (.ref bt), .val (.ref b0), .val (.int lm), .val (.ref so), .val (.int (0 : Int32))] [])) _
        refine XS.iconst X301.here hx rfl (hb hby at_756) ?_
        refine XS.goto X301.here hx rfl (pc0 := 757) (pc' := 761) rfl (hb hby at_757) (by decide) (by decide) ?_
        show Steps p.tables e below (T301.setTop (mkF m 761 #[.val (.long i0), .second, .val (.int i1), .val (.int i2), .val (.int i3), .val (.int dd0), .val (.int dd1), .val (.int dd2), .val (.int dd3), .val (.int dd4), .val (.int dd5), .val (.int dd6), .val (.int dd7), .val (.int ss), .val (.int d8), .val (.ref a), .val (.int ad), .val (.int e9), .val (.ref b8), .val (.ref bt), .val (.ref b0), .val (.int lm), .val (.ref so), .val (.int (0 : Int32))] [(.int (1 : Int32))])) _
        exact κ)
      obtain ⟨fs, hr, hrun, hended, hEnd⟩ := Stand.leaveW (s := s) (vm₁ := s.vm) X301 hS0 (Nat.zero_le _) (v := some (.int (1 : Int32))) (fun h => by rw [Bd.returns] at h; cases h)
      refine ⟨_, _, pre303 _ ?_, hrun, hended, _, _, rfl, ?_, ⟨hEnd.1, hEnd.2.1, hEnd.2.2.1, hEnd.2.2.2.mono (by decide) (by decide)⟩⟩
      · exact retN X301 hx (t := .boolean) Bd.returns (by simp) (hb hby at_761) hr
      · show Q0 Z i0 i1 i2 i3 zc fm h0 n0 _ T301.heap _
        exact ⟨rfl, N301⟩
    · have pre304 := fun τ (κ : Steps p.tables e below (T279.setTop (mkF m 712 #[.val (.long i0), .second, .val (.int i1), .val (.int i2), .val (.int i3), .val (.int dd0), .val (.int dd1), .val (.int dd2), .val (.int dd3), .val (.int dd4), .val (.int dd5), .val (.int dd6), .val (.int dd7), .val (.int ss), .val (.int d8), .val (.ref a), .val (.int ad), .val (.int e9), .val (.ref b8), .val (.ref bt), .val (.ref b0), .val (.int lm), .unset, .unset] [(.int (2 : Int32)), (.int lm)])) τ) => pre293 τ (by
        refine XS.icmpYes X279.here hx rfl (pc0 := 689) (pc' := 709) rfl (hb hby at_689) rfl (feq l1).2 (by decide) (by decide) ?_
        show Steps p.tables e below (T279.setTop (mkF m 709 #[.val (.long i0), .second, .val (.int i1), .val (.int i2), .val (.int i3), .val (.int dd0), .val (.int dd1), .val (.int dd2), .val (.int dd3), .val (.int dd4), .val (.int dd5), .val (.int dd6), .val (.int dd7), .val (.int ss), .val (.int d8), .val (.ref a), .val (.int ad), .val (.int e9), .val (.ref b8), .val (.ref bt), .val (.ref b0), .val (.int lm), .unset, .unset] [])) _
        refine XS.iload X279.here hx rfl (hb hby at_709) rfl ?_
        refine XS.iconst X279.here hx rfl (hb hby at_711) ?_
        show Steps p.tables e below (T279.setTop (mkF m 712 #[.val (.long i0), .second, .val (.int i1), .val (.int i2), .val (.int i3), .val (.int dd0), .val (.int dd1), .val (.int dd2), .val (.int dd3), .val (.int dd4), .val (.int dd5), .val (.int dd6), .val (.int dd7), .val (.int ss), .val (.int d8), .val (.ref a), .val (.int ad), .val (.int e9), .val (.ref b8), .val (.ref bt), .val (.ref b0), .val (.int lm), .unset, .unset] [(.int (2 : Int32)), (.int lm)])) _
        exact κ)
      by_cases l2 : lm = (2 : Int32)
      · have pre305 := fun τ (κ : Steps p.tables e below (T279.setTop (mkF m 715 #[.val (.long i0), .second, .val (.int i1), .val (.int i2), .val (.int i3), .val (.int dd0), .val (.int dd1), .val (.int dd2), .val (.int dd3), .val (.int dd4), .val (.int dd5), .val (.int dd6), .val (.int dd7), .val (.int ss), .val (.int d8), .val (.ref a), .val (.int ad), .val (.int e9), .val (.ref b8), .val (.ref bt), .val (.ref b0), .val (.int lm), .unset, .unset] [])) τ) => pre304 τ (by
          refine XS.icmpNo X279.here hx rfl (hb hby at_712) rfl (teq l2).2 ?_
          show Steps p.tables e below (T279.setTop (mkF m 715 #[.val (.long i0), .second, .val (.int i1), .val (.int i2), .val (.int i3), .val (.int dd0), .val (.int dd1), .val (.int dd2), .val (.int dd3), .val (.int dd4), .val (.int dd5), .val (.int dd6), .val (.int dd7), .val (.int ss), .val (.int d8), .val (.ref a), .val (.int ad), .val (.int e9), .val (.ref b8), .val (.ref bt), .val (.ref b0), .val (.int lm), .unset, .unset] [])) _
          exact κ)
        obtain ⟨T306, h306, X306, e306, E306, A306, D306, -, st306⟩ := newO X279 hx hZ hown (hw _ (List.mem_of_getElem? (i := 10) rfl)) (hw _ (List.mem_of_getElem? (i := 11) rfl)) (hw _ (List.mem_of_getElem? (i := 12) rfl)) e279 (g := (mkF m 715 #[.val (.long i0), .second, .val (.int i1), .val (.int i2), .val (.int i3), .val (.int dd0), .val (.int dd1), .val (.int dd2), .val (.int dd3), .val (.int dd4), .val (.int dd5), .val (.int dd6), .val (.int dd7), .val (.int ss), .val (.int d8), .val (.ref a), .val (.int ad), .val (.int e9), .val (.ref b8), .val (.ref bt), .val (.ref b0), .val (.int lm), .unset, .unset] [])) rfl (hb hby at_715) (by decide) (by decide)
        obtain ⟨so, g306⟩ : ∃ z, z = h279.size := ⟨_, rfl⟩
        rw [← g306] at A306 D306 st306
        have g_so : n0 ≤ so := Nat.le_trans Z279 (Nat.le_of_eq g306.symm)
        have ne_a_so : a ≠ so := Nat.ne_of_lt (Nat.lt_of_lt_of_le Va_279.lt (Nat.le_of_eq g306.symm))
        have ne_b8_so : b8 ≠ so := Nat.ne_of_lt (Nat.lt_of_lt_of_le V8_279.lt (Nat.le_of_eq g306.symm))
        have ne_bt_so : bt ≠ so := Nat.ne_of_lt (Nat.lt_of_lt_of_le Vt_279.lt (Nat.le_of_eq g306.symm))
        have ne_b0_so : b0 ≠ so := Nat.ne_of_lt (Nat.lt_of_lt_of_le V_b0_279.lt (Nat.le_of_eq g306.symm))
        have O0_306 : Old Z n0 h306 := O0_279.ext E306
        have Va_306 : Arv Z h306 a k36 .char (Int32.ofNat 9) (own_tab g 9) (.int (0 : Int32)) := Va_279.ext E306
        have V8_306 : Arv Z h306 b8 k164 .char (Int32.ofNat 8) (own_tab g8 (8)) (.int (0 : Int32)) := V8_279.ext E306
        have Vt_306 : Arv Z h306 bt k215 .char (Int32.ofNat 10) (own_tab gt (10)) (.int (0 : Int32)) := Vt_279.ext E306
        have V_b0_306 : Arv Z h306 b0 k279 .char (0 : Int32) [] (.int (0 : Int32)) := V_b0_279.ext E306
        have sz_so : h0.size ≤ so := Nat.le_trans Kp279.1 (Nat.le_of_eq g306.symm)
        have Kp306 : Keep h0 h306 [] := Kp279.ext E306
        have Z306 : n0 ≤ h306.size := Nat.le_trans Z279 E306.1
        have F_coder_so_306 : Fld Z h306 so "java/lang/String" "coder" "B" (.int (0 : Int32)) := D306 (Or.inr (hw _ (List.mem_of_getElem? (i := 36) rfl))) (ty := .byte) (by decide)
        have F_value_so_306 : Fld Z h306 so "java/lang/String" "value" "[B" .null := D306 (Or.inr (hw _ (List.mem_of_getElem? (i := 38) rfl))) (ty := (.array .byte)) (by decide)
        have pre307 := fun τ (κ : Steps p.tables e below (T306.setTop (mkF m 718 #[.val (.long i0), .second, .val (.int i1), .val (.int i2), .val (.int i3), .val (.int dd0), .val (.int dd1), .val (.int dd2), .val (.int dd3), .val (.int dd4), .val (.int dd5), .val (.int dd6), .val (.int dd7), .val (.int ss), .val (.int d8), .val (.ref a), .val (.int ad), .val (.int e9), .val (.ref b8), .val (.ref bt), .val (.ref b0), .val (.int lm), .unset, .unset] [(.ref so)])) τ) => pre305 τ (st306 _ κ)
        have pre308 := fun τ (κ : Steps p.tables e below (T306.setTop (mkF m 721 #[.val (.long i0), .second, .val (.int i1), .val (.int i2), .val (.int i3), .val (.int dd0), .val (.int dd1), .val (.int dd2), .val (.int dd3), .val (.int dd4), .val (.int dd5), .val (.int dd6), .val (.int dd7), .val (.int ss), .val (.int d8), .val (.ref a), .val (.int ad), .val (.int e9), .val (.ref b8), .val (.ref bt), .val (.ref b0), .val (.int lm), .unset, .unset] [(.ref bt), (.ref so), (.ref so)])) τ) => pre307 τ (by
          refine XS.dup X306.here hx rfl (hb hby at_718) rfl rfl ?_
          show Steps p.tables e below (T306.setTop (mkF m 719 #[.val (.long i0), .second, .val (.int i1), .val (.int i2), .val (.int i3), .val (.int dd0), .val (.int dd1), .val (.int dd2), .val (.int dd3), .val (.int dd4), .val (.int dd5), .val (.int dd6), .val (.int dd7), .val (.int ss), .val (.int d8), .val (.ref a), .val (.int ad), .val (.int e9), .val (.ref b8), .val (.ref bt), .val (.ref b0), .val (.int lm), .unset, .unset] [(.ref so), (.ref so)])) _
          refine XS.aload X306.here hx rfl (hb hby at_719) rfl rfl ?_
          show Steps p.tables e below (T306.setTop (mkF m 721 #[.val (.long i0), .second, .val (.int i1), .val (.int i2), .val (.int i3), .val (.int dd0), .val (.int dd1), .val (.int dd2), .val (.int dd3), .val (.int dd4), .val (.int dd5), .val (.int dd6), .val (.int dd7), .val (.int ss), .val (.int d8), .val (.ref a), .val (.int ad), .val (.int e9), .val (.ref b8), .val (.ref bt), .val (.ref b0), .val (.int lm), .unset, .unset] [(.ref bt), (.ref so), (.ref so)])) _
          exact κ)
        obtain ⟨_, _, ⟨T309, L309, k309, n309⟩, -, X309, ⟨Lc309, hQ309, l309, y309, z309⟩, st309⟩ := X306.specialBack hx (y := (⟨"java/lang/String", "<init>", "([C)V"⟩ : MethodName)) rfl hown (mvT hZ (hw _ (List.mem_of_getElem? (i := 13) rfl))) (mvT hZ (hw _ (List.mem_of_getElem? (i := 14) rfl))) (mvT hZ (hw _ (List.mem_of_getElem? (i := 15) rfl))) (by decide) (backOf (W := 1) (rm3 l Z a0 hw [] so bt 10 k215 gt zc fm h306 n0 Z306 O0_306 U0 A306 F_value_so_306 F_coder_so_306 Vt_306 (by decide) (by decide) hc_gt (Ne.symm ne_bt_so) g_so) hZ (hw _ (List.mem_of_getElem? (i := 15) rfl)) (hw _ (List.mem_of_getElem? (i := 12) rfl)) (Nat.le_of_ble_eq_true rfl) (Nat.le_of_ble_eq_true rfl)) (g := (mkF m 721 #[.val (.long i0), .second, .val (.int i1), .val (.int i2), .val (.int i3), .val (.int dd0), .val (.int dd1), .val (.int dd2), .val (.int dd3), .val (.int dd4), .val (.int dd5), .val (.int dd6), .val (.int dd7), .val (.int ss), .val (.int d8), .val (.ref a), .val (.int ad), .val (.int e9), .val (.ref b8), .val (.ref bt), .val (.ref b0), .val (.int lm), .unset, .unset] [(.ref bt), (.ref so), (.ref so)])) rfl (by rw [hml]; rfl) (Steps.refl _) (a := so) (argsL := [(.ref bt)]) (rest := [(.ref so)]) (lenOf pd_18 rfl) rfl (by show 2 * 0 + _ ≤ _; exact Nat.le_of_eq rfl) (hb hby at_721) (fun _ _ => ⟨rfl, e306, (by decide : 5 + 2 ≤ _), (by decide : 31 + 48 ≤ _)⟩)
        dsimp only [Pt.U, Pt.locs, Pt.cells, Pt.slots] at X309 l309 y309 z309 st309 hQ309
        subst l309 y309 z309
        obtain ⟨rfl, Nq309, K309, P309⟩ := hQ309
        have O0_309 : Old Z n0 T309.heap := O0_306.keep K309 (allS g_so all0)
        have Va_309 : Arv Z T309.heap a k36 .char (Int32.ofNat 9) (own_tab g 9) (.int (0 : Int32)) := Va_306.keep K309 (ninS ne_a_so nin0)
        have V8_309 : Arv Z T309.heap b8 k164 .char (Int32.ofNat 8) (own_tab g8 (8)) (.int (0 : Int32)) := V8_306.keep K309 (ninS ne_b8_so nin0)
        have Vt_309 : Arv Z T309.heap bt k215 .char (Int32.ofNat 10) (own_tab gt (10)) (.int (0 : Int32)) := Vt_306.keep K309 (ninS ne_bt_so nin0)
        have V_b0_309 : Arv Z T309.heap b0 k279 .char (0 : Int32) [] (.int (0 : Int32)) := V_b0_306.keep K309 (ninS ne_b0_so nin0)
        have A306_309 : Exa Z T309.heap so "java/lang/String" := A306.keep K309
        have Z309 : n0 ≤ T309.heap.size := Nat.le_trans Z306 K309.1
        have Kp309 : Keep h0 T309.heap [] := Kp306.trans K309 (allS (Or.inr sz_so) all0)
        have N309 := Fr.app N276 Nq309
        have pre310 := fun τ (κ : Steps p.tables e below (T309.setTop (mkF m 724 #[.val (.long i0), .second, .val (.int i1), .val (.int i2), .val (.int i3), .val (.int dd0), .val (.int dd1), .val (.int dd2), .val (.int dd3), .val (.int dd4), .val (.int dd5), .val (.int dd6), .val (.int dd7), .val (.int ss), .val (.int d8), .val (.ref a), .val (.int ad), .val (.int e9), .val (.ref b8), .val (.ref bt), .val (.ref b0), .val (.int lm), .unset, .unset] [(.ref so)])) τ) => pre308 τ (st309.trans κ)
        have pre311 := fun τ (κ : Steps p.tables e below (T309.setTop (mkF m 748 #[.val (.long i0), .second, .val (.int i1), .val (.int i2), .val (.int i3), .val (.int dd0), .val (.int dd1), .val (.int dd2), .val (.int dd3), .val (.int dd4), .val (.int dd5), .val (.int dd6), .val (.int dd7), .val (.int ss), .val (.int d8), .val (.ref a), .val (.int ad), .val (.int e9), .val (.ref b8), .val (.ref bt), .val (.ref b0), .val (.int lm), .val (.ref so), .val (.int (0 : Int32))] [(.ref so)])) τ) => pre310 τ (by
          refine XS.astore X309.here hx rfl (hb hby at_724) rfl rfl (l' := #[.val (.long i0), .second, .val (.int i1), .val (.int i2), .val (.int i3), .val (.int dd0), .val (.int dd1), .val (.int dd2), .val (.int dd3), .val (.int dd4), .val (.int dd5), .val (.int dd6), .val (.int dd7), .val (.int ss), .val (.int d8), .val (.ref a), .val (.int ad), .val (.int e9), .val (.ref b8), .val (.ref bt), .val (.ref b0), .val (.int lm), .val (.ref so), .unset]) rfl ?_
          show Steps p.tables e below (T309.setTop (mkF m 726 #[.val (.long i0), .second, .val (.int i1), .val (.int i2), .val (.int i3), .val (.int dd0), .val (.int dd1), .val (.int dd2), .val (.int dd3), .val (.int dd4), .val (.int dd5), .val (.int dd6), .val (.int dd7), .val (.int ss), .val (.int d8), .val (.ref a), .val (.int ad), .val (.int e9), .val (.ref b8), .val (.ref bt), .val (.ref b0), .val (.int lm), .val (.ref so), .unset] [])) _
          refine XS.iconst X309.here hx rfl (hb hby at_726) ?_
          refine XS.istore X309.here hx rfl (hb hby at_727) rfl (l' := #[.val (.long i0), .second, .val (.int i1), .val (.int i2), .val (.int i3), .val (.int dd0), .val (.int dd1), .val (.int dd2), .val (.int dd3), .val (.int dd4), .val (.int dd5), .val (.int dd6), .val (.int dd7), .val (.int ss), .val (.int d8), .val (.ref a), .val (.int ad), .val (.int e9), .val (.ref b8), .val (.ref bt), .val (.ref b0), .val (.int lm), .val (.ref so), .val (.int (0 : Int32))]) rfl ?_
          show Steps p.tables e below (T309.setTop (mkF m 729 #[.val (.long i0), .second, .val (.int i1), .val (.int i2), .val (.int i3), .val (.int dd0), .val (.int dd1), .val (.int dd2), .val (.int dd3), .val (.int dd4), .val (.int dd5), .val (.int dd6), .val (.int dd7), .val (.int ss), .val (.int d8), .val (.ref a), .val (.int ad), .val (.int e9), .val (.ref b8), .val (.ref bt), .val (.ref b0), .val (.int lm), .val (.ref so), .val (.int (0 : Int32))] [])) _
          refine XS.goto X309.here hx rfl (pc0 := 729) (pc' := 746) rfl (hb hby at_729) (by decide) (by decide) ?_
          show Steps p.tables e below (T309.setTop (mkF m 746 #[.val (.long i0), .second, .val (.int i1), .val (.int i2), .val (.int i3), .val (.int dd0), .val (.int dd1), .val (.int dd2), .val (.int dd3), .val (.int dd4), .val (.int dd5), .val (.int dd6), .val (.int dd7), .val (.int ss), .val (.int d8), .val (.ref a), .val (.int ad), .val (.int e9), .val (.ref b8), .val (.ref bt), .val (.ref b0), .val (.int lm), .val (.ref so), .val (.int (0 : Int32))] [])) _
          refine XS.aload X309.here hx rfl (hb hby at_746) rfl rfl ?_
          show Steps p.tables e below (T309.setTop (mkF m 748 #[.val (.long i0), .second, .val (.int i1), .val (.int i2), .val (.int i3), .val (.int dd0), .val (.int dd1), .val (.int dd2), .val (.int dd3), .val (.int dd4), .val (.int dd5), .val (.int dd6), .val (.int dd7), .val (.int ss), .val (.int d8), .val (.ref a), .val (.int ad), .val (.int e9), .val (.ref b8), .val (.ref bt), .val (.ref b0), .val (.int lm), .val (.ref so), .val (.int (0 : Int32))] [(.ref so)])) _
          exact κ)
        obtain ⟨_, _, ⟨T312, L312, k312, n312⟩, -, X312, ⟨Lc312, hQ312, l312, y312, z312⟩, st312⟩ := Jvm.LawKit.callS X309 hx (y := (⟨"com/example/docket/docket/core/Rsin", "isValid", "(Ljava/lang/String;)Z"⟩ : MethodName)) hown (mvT hZ (hw _ (List.mem_of_getElem? (i := 39) rfl))) (mvT hZ (hw _ (List.mem_of_getElem? (i := 40) rfl))) (mvT hZ (hw _ (List.mem_of_getElem? (i := 41) rfl))) (mvT hZ (hw _ (List.mem_of_getElem? (i := 42) rfl))) (by decide) (backOf (W := 0) (rm9 l Z a0 hw [] so 10 gt zc fm T309.heap n0 Z309 O0_309 U0 P309 (by decide) hc_gt) hZ (hw _ (List.mem_of_getElem? (i := 42) rfl)) (hw _ (List.mem_of_getElem? (i := 41) rfl)) (Nat.le_of_ble_eq_true rfl) (Nat.le_of_ble_eq_true rfl)) (g := (mkF m 748 #[.val (.long i0), .second, .val (.int i1), .val (.int i2), .val (.int i3), .val (.int dd0), .val (.int dd1), .val (.int dd2), .val (.int dd3), .val (.int dd4), .val (.int dd5), .val (.int dd6), .val (.int dd7), .val (.int ss), .val (.int d8), .val (.ref a), .val (.int ad), .val (.int e9), .val (.ref b8), .val (.ref bt), .val (.ref b0), .val (.int lm), .val (.ref so), .val (.int (0 : Int32))] [(.ref so)])) rfl (by rw [hml]; rfl) (argsL := [(.ref so)]) (rest := []) (lenOf pd_19 rfl) rfl (by show 2 * 0 + _ ≤ _; exact Nat.le_of_eq rfl) (hb hby at_748) (fun _ _ => ⟨rfl, rfl, (by decide : 7 + 0 ≤ _), (by decide : 79 + 0 ≤ _)⟩)
        dsimp only [Pt.U, Pt.locs, Pt.cells, Pt.slots] at X312 l312 y312 z312 st312 hQ312
        subst l312 y312 z312
        obtain ⟨r9, rfl, Nq312, hh312, rN, rY⟩ := hQ312
        have O0_312 : Old Z n0 T312.heap := by rw [hh312]; exact O0_309
        have Va_312 : Arv Z T312.heap a k36 .char (Int32.ofNat 9) (own_tab g 9) (.int (0 : Int32)) := by rw [hh312]; exact Va_309
        have V8_312 : Arv Z T312.heap b8 k164 .char (Int32.ofNat 8) (own_tab g8 (8)) (.int (0 : Int32)) := by rw [hh312]; exact V8_309
        have Vt_312 : Arv Z T312.heap bt k215 .char (Int32.ofNat 10) (own_tab gt (10)) (.int (0 : Int32)) := by rw [hh312]; exact Vt_309
        have V_b0_312 : Arv Z T312.heap b0 k279 .char (0 : Int32) [] (.int (0 : Int32)) := by rw [hh312]; exact V_b0_309
        have A306_312 : Exa Z T312.heap so "java/lang/String" := by rw [hh312]; exact A306_309
        have P309_312 : own_STR Z T312.heap so gt 10 := by rw [hh312]; exact P309
        have Z312 : n0 ≤ T312.heap.size := by rw [hh312]; exact Z309
        have Kp312 : Keep h0 T312.heap [] := by rw [hh312]; exact Kp309
        have N312 := Fr.app N309 Nq312
        have pre313 := fun τ (κ : Steps p.tables e below (T312.setTop (mkF m 751 #[.val (.long i0), .second, .val (.int i1), .val (.int i2), .val (.int i3), .val (.int dd0), .val (.int dd1), .val (.int dd2), .val (.int dd3), .val (.int dd4), .val (.int dd5), .val (.int dd6), .val (.int dd7), .val (.int ss), .val (.int d8), .val (.ref a), .val (.int ad), .val (.int e9), .val (.ref b8), .val (.ref bt), .val (.ref b0), .val (.int lm), .val (.ref so), .val (.int (0 : Int32))] [(.int r9)])) τ) => pre311 τ (st312 _ κ)
        have pre314 := fun τ (κ : Steps p.tables e below (T312.setTop (mkF m 761 #[.val (.long i0), .second, .val (.int i1), .val (.int i2), .val (.int i3), .val (.int dd0), .val (.int dd1), .val (.int dd2), .val (.int dd3), .val (.int dd4), .val (.int dd5), .val (.int dd6), .val (.int dd7), .val (.int ss), .val (.int d8), .val (.ref a), .val (.int ad), .val (.int e9), .val (.ref b8), .val (.ref bt), .val (.ref b0), .val (.int lm), .val (.ref so), .val (.int (0 : Int32))] [(.int (1 : Int32))])) τ) => pre313 τ (by
          refine XS.iload X312.here hx rfl (hb hby at_751) rfl ?_
          refine XS.icmpNo X312.here hx rfl (hb hby at_753) rfl (teq (rN (by decide))).2 ?_
          show Steps p.tables e below (T312.setTop (mkF m 756 #[.val (.long i0), .second, .val (.int i1), .val (.int i2), .val (.int i3), .val (.int dd0), .val (.int dd1), .val (.int dd2), .val (.int dd3), .val (.int dd4), .val (.int dd5), .val (.int dd6), .val (.int dd7), .val (.int ss), .val (.int d8), .val (.ref a), .val (.int ad), .val (.int e9), .val (.ref b8), .val (.ref bt), .val (.ref b0), .val (.int lm), .val (.ref so), .val (.int (0 : Int32))] [])) _
          refine XS.iconst X312.here hx rfl (hb hby at_756) ?_
          refine XS.goto X312.here hx rfl (pc0 := 757) (pc' := 761) rfl (hb hby at_757) (by decide) (by decide) ?_
          show Steps p.tables e below (T312.setTop (mkF m 761 #[.val (.long i0), .second, .val (.int i1), .val (.int i2), .val (.int i3), .val (.int dd0), .val (.int dd1), .val (.int dd2), .val (.int dd3), .val (.int dd4), .val (.int dd5), .val (.int dd6), .val (.int dd7), .val (.int ss), .val (.int d8), .val (.ref a), .val (.int ad), .val (.int e9), .val (.ref b8), .val (.ref bt), .val (.ref b0), .val (.int lm), .val (.ref so), .val (.int (0 : Int32))] [(.int (1 : Int32))])) _
          exact κ)
        obtain ⟨fs, hr, hrun, hended, hEnd⟩ := Stand.leaveW (s := s) (vm₁ := s.vm) X312 hS0 (Nat.zero_le _) (v := some (.int (1 : Int32))) (fun h => by rw [Bd.returns] at h; cases h)
        refine ⟨_, _, pre314 _ ?_, hrun, hended, _, _, rfl, ?_, ⟨hEnd.1, hEnd.2.1, hEnd.2.2.1, hEnd.2.2.2.mono (by decide) (by decide)⟩⟩
        · exact retN X312 hx (t := .boolean) Bd.returns (by simp) (hb hby at_761) hr
        · show Q0 Z i0 i1 i2 i3 zc fm h0 n0 _ T312.heap _
          exact ⟨rfl, N312⟩
      · have pre315 := fun τ (κ : Steps p.tables e below (T279.setTop (mkF m 732 #[.val (.long i0), .second, .val (.int i1), .val (.int i2), .val (.int i3), .val (.int dd0), .val (.int dd1), .val (.int dd2), .val (.int dd3), .val (.int dd4), .val (.int dd5), .val (.int dd6), .val (.int dd7), .val (.int ss), .val (.int d8), .val (.ref a), .val (.int ad), .val (.int e9), .val (.ref b8), .val (.ref bt), .val (.ref b0), .val (.int lm), .unset, .unset] [])) τ) => pre304 τ (by
          refine XS.icmpYes X279.here hx rfl (pc0 := 712) (pc' := 732) rfl (hb hby at_712) rfl (feq l2).2 (by decide) (by decide) ?_
          show Steps p.tables e below (T279.setTop (mkF m 732 #[.val (.long i0), .second, .val (.int i1), .val (.int i2), .val (.int i3), .val (.int dd0), .val (.int dd1), .val (.int dd2), .val (.int dd3), .val (.int dd4), .val (.int dd5), .val (.int dd6), .val (.int dd7), .val (.int ss), .val (.int d8), .val (.ref a), .val (.int ad), .val (.int e9), .val (.ref b8), .val (.ref bt), .val (.ref b0), .val (.int lm), .unset, .unset] [])) _
          exact κ)
        obtain ⟨T316, h316, X316, e316, E316, A316, D316, -, st316⟩ := newO X279 hx hZ hown (hw _ (List.mem_of_getElem? (i := 10) rfl)) (hw _ (List.mem_of_getElem? (i := 11) rfl)) (hw _ (List.mem_of_getElem? (i := 12) rfl)) e279 (g := (mkF m 732 #[.val (.long i0), .second, .val (.int i1), .val (.int i2), .val (.int i3), .val (.int dd0), .val (.int dd1), .val (.int dd2), .val (.int dd3), .val (.int dd4), .val (.int dd5), .val (.int dd6), .val (.int dd7), .val (.int ss), .val (.int d8), .val (.ref a), .val (.int ad), .val (.int e9), .val (.ref b8), .val (.ref bt), .val (.ref b0), .val (.int lm), .unset, .unset] [])) rfl (hb hby at_732) (by decide) (by decide)
        obtain ⟨so, g316⟩ : ∃ z, z = h279.size := ⟨_, rfl⟩
        rw [← g316] at A316 D316 st316
        have g_so : n0 ≤ so := Nat.le_trans Z279 (Nat.le_of_eq g316.symm)
        have ne_a_so : a ≠ so := Nat.ne_of_lt (Nat.lt_of_lt_of_le Va_279.lt (Nat.le_of_eq g316.symm))
        have ne_b8_so : b8 ≠ so := Nat.ne_of_lt (Nat.lt_of_lt_of_le V8_279.lt (Nat.le_of_eq g316.symm))
        have ne_bt_so : bt ≠ so := Nat.ne_of_lt (Nat.lt_of_lt_of_le Vt_279.lt (Nat.le_of_eq g316.symm))
        have ne_b0_so : b0 ≠ so := Nat.ne_of_lt (Nat.lt_of_lt_of_le V_b0_279.lt (Nat.le_of_eq g316.symm))
        have O0_316 : Old Z n0 h316 := O0_279.ext E316
        have Va_316 : Arv Z h316 a k36 .char (Int32.ofNat 9) (own_tab g 9) (.int (0 : Int32)) := Va_279.ext E316
        have V8_316 : Arv Z h316 b8 k164 .char (Int32.ofNat 8) (own_tab g8 (8)) (.int (0 : Int32)) := V8_279.ext E316
        have Vt_316 : Arv Z h316 bt k215 .char (Int32.ofNat 10) (own_tab gt (10)) (.int (0 : Int32)) := Vt_279.ext E316
        have V_b0_316 : Arv Z h316 b0 k279 .char (0 : Int32) [] (.int (0 : Int32)) := V_b0_279.ext E316
        have sz_so : h0.size ≤ so := Nat.le_trans Kp279.1 (Nat.le_of_eq g316.symm)
        have Kp316 : Keep h0 h316 [] := Kp279.ext E316
        have Z316 : n0 ≤ h316.size := Nat.le_trans Z279 E316.1
        have F_coder_so_316 : Fld Z h316 so "java/lang/String" "coder" "B" (.int (0 : Int32)) := D316 (Or.inr (hw _ (List.mem_of_getElem? (i := 36) rfl))) (ty := .byte) (by decide)
        have F_value_so_316 : Fld Z h316 so "java/lang/String" "value" "[B" .null := D316 (Or.inr (hw _ (List.mem_of_getElem? (i := 38) rfl))) (ty := (.array .byte)) (by decide)
        have pre317 := fun τ (κ : Steps p.tables e below (T316.setTop (mkF m 735 #[.val (.long i0), .second, .val (.int i1), .val (.int i2), .val (.int i3), .val (.int dd0), .val (.int dd1), .val (.int dd2), .val (.int dd3), .val (.int dd4), .val (.int dd5), .val (.int dd6), .val (.int dd7), .val (.int ss), .val (.int d8), .val (.ref a), .val (.int ad), .val (.int e9), .val (.ref b8), .val (.ref bt), .val (.ref b0), .val (.int lm), .unset, .unset] [(.ref so)])) τ) => pre315 τ (st316 _ κ)
        have pre318 := fun τ (κ : Steps p.tables e below (T316.setTop (mkF m 738 #[.val (.long i0), .second, .val (.int i1), .val (.int i2), .val (.int i3), .val (.int dd0), .val (.int dd1), .val (.int dd2), .val (.int dd3), .val (.int dd4), .val (.int dd5), .val (.int dd6), .val (.int dd7), .val (.int ss), .val (.int d8), .val (.ref a), .val (.int ad), .val (.int e9), .val (.ref b8), .val (.ref bt), .val (.ref b0), .val (.int lm), .unset, .unset] [(.ref b0), (.ref so), (.ref so)])) τ) => pre317 τ (by
          refine XS.dup X316.here hx rfl (hb hby at_735) rfl rfl ?_
          show Steps p.tables e below (T316.setTop (mkF m 736 #[.val (.long i0), .second, .val (.int i1), .val (.int i2), .val (.int i3), .val (.int dd0), .val (.int dd1), .val (.int dd2), .val (.int dd3), .val (.int dd4), .val (.int dd5), .val (.int dd6), .val (.int dd7), .val (.int ss), .val (.int d8), .val (.ref a), .val (.int ad), .val (.int e9), .val (.ref b8), .val (.ref bt), .val (.ref b0), .val (.int lm), .unset, .unset] [(.ref so), (.ref so)])) _
          refine XS.aload X316.here hx rfl (hb hby at_736) rfl rfl ?_
          show Steps p.tables e below (T316.setTop (mkF m 738 #[.val (.long i0), .second, .val (.int i1), .val (.int i2), .val (.int i3), .val (.int dd0), .val (.int dd1), .val (.int dd2), .val (.int dd3), .val (.int dd4), .val (.int dd5), .val (.int dd6), .val (.int dd7), .val (.int ss), .val (.int d8), .val (.ref a), .val (.int ad), .val (.int e9), .val (.ref b8), .val (.ref bt), .val (.ref b0), .val (.int lm), .unset, .unset] [(.ref b0), (.ref so), (.ref so)])) _
          exact κ)
        obtain ⟨_, _, ⟨T319, L319, k319, n319⟩, -, X319, hS319, gr319, ⟨Lc319, hQ319, l319, y319, z319, C319⟩, st319⟩ := X316.specialBackS hx (y := (⟨"java/lang/String", "<init>", "([C)V"⟩ : MethodName)) rfl hown (mvT hZ (hw _ (List.mem_of_getElem? (i := 13) rfl))) (mvT hZ (hw _ (List.mem_of_getElem? (i := 14) rfl))) (mvT hZ (hw _ (List.mem_of_getElem? (i := 15) rfl))) (by decide) (backOfSH (s := s) (vm0 := s.vm) (W := 1) (rm3e l Z a0 hw [] so b0 g k279 h316 n0 Z316 A316 F_value_so_316 F_coder_so_316 g_so V_b0_316 (Ne.symm ne_b0_so)) hZ (hw _ (List.mem_of_getElem? (i := 15) rfl)) (hw _ (List.mem_of_getElem? (i := 12) rfl)) (Nat.le_of_ble_eq_true rfl) (Nat.le_of_ble_eq_true rfl) hEL (CHv.keep Kp316 sf0 hC0)) (g := (mkF m 738 #[.val (.long i0), .second, .val (.int i1), .val (.int i2), .val (.int i3), .val (.int dd0), .val (.int dd1), .val (.int dd2), .val (.int dd3), .val (.int dd4), .val (.int dd5), .val (.int dd6), .val (.int dd7), .val (.int ss), .val (.int d8), .val (.ref a), .val (.int ad), .val (.int e9), .val (.ref b8), .val (.ref bt), .val (.ref b0), .val (.int lm), .unset, .unset] [(.ref b0), (.ref so), (.ref so)])) rfl (by rw [hml]; rfl) (Steps.refl _) (a := so) (argsL := [(.ref b0)]) (rest := [(.ref so)]) (lenOf pd_18 rfl) rfl (by show 2 * 0 + _ ≤ _; exact Nat.le_of_eq rfl) (hb hby at_738) (fun _ _ => ⟨rfl, e316, (by decide : 5 + 2 ≤ _), (by decide : 31 + 4 ≤ _)⟩)
        dsimp only [Pt.U, Pt.locs, Pt.cells, Pt.slots] at X319 l319 y319 z319 st319 hQ319 hS319 gr319 C319
        subst l319 y319 z319
        obtain ⟨X319, hSr319, hZ, hown⟩ := rebS (s := s) (vm0 := s.vm) hS0 (Nat.zero_le _) X319 hS319 gr319 hZ hown
        have hks := Nat.le_refl T319.heap.size
        obtain ⟨sx319, hsx319⟩ : ∃ z, z = s.setVm T319.vm := ⟨_, rfl⟩
        rw [← hsx319] at X319 hZ hown
        obtain ⟨rfl, Nq319, K319, P319⟩ := hQ319
        have O0_319 : Old Z n0 T319.heap := O0_316.keep K319 (allS g_so all0)
        have Va_319 : Arv Z T319.heap a k36 .char (Int32.ofNat 9) (own_tab g 9) (.int (0 : Int32)) := Va_316.keep K319 (ninS ne_a_so nin0)
        have V8_319 : Arv Z T319.heap b8 k164 .char (Int32.ofNat 8) (own_tab g8 (8)) (.int (0 : Int32)) := V8_316.keep K319 (ninS ne_b8_so nin0)
        have Vt_319 : Arv Z T319.heap bt k215 .char (Int32.ofNat 10) (own_tab gt (10)) (.int (0 : Int32)) := Vt_316.keep K319 (ninS ne_bt_so nin0)
        have V_b0_319 : Arv Z T319.heap b0 k279 .char (0 : Int32) [] (.int (0 : Int32)) := V_b0_316.keep K319 (ninS ne_b0_so nin0)
        have A316_319 : Exa Z T319.heap so "java/lang/String" := A316.keep K319
        have Z319 : n0 ≤ T319.heap.size := Nat.le_trans Z316 K319.1
        have Kp319 : Keep h0 T319.heap [] := Kp316.trans K319 (allS (Or.inr sz_so) all0)
        have N319 := Fr.app N276 Nq319
        have pre320 := fun τ (κ : Steps p.tables e below (T319.setTop (mkF m 741 #[.val (.long i0), .second, .val (.int i1), .val (.int i2), .val (.int i3), .val (.int dd0), .val (.int dd1), .val (.int dd2), .val (.int dd3), .val (.int dd4), .val (.int dd5), .val (.int dd6), .val (.int dd7), .val (.int ss), .val (.int d8), .val (.ref a), .val (.int ad), .val (.int e9), .val (.ref b8), .val (.ref bt), .val (.ref b0), .val (.int lm), .unset, .unset] [(.ref so)])) τ) => pre318 τ (st319.trans κ)
        have pre321 := fun τ (κ : Steps p.tables e below (T319.setTop (mkF m 748 #[.val (.long i0), .second, .val (.int i1), .val (.int i2), .val (.int i3), .val (.int dd0), .val (.int dd1), .val (.int dd2), .val (.int dd3), .val (.int dd4), .val (.int dd5), .val (.int dd6), .val (.int dd7), .val (.int ss), .val (.int d8), .val (.ref a), .val (.int ad), .val (.int e9), .val (.ref b8), .val (.ref bt), .val (.ref b0), .val (.int lm), .val (.ref so), .val (.int (0 : Int32))] [(.ref so)])) τ) => pre320 τ (by
          refine XS.astore X319.here hx rfl (hb hby at_741) rfl rfl (l' := #[.val (.long i0), .second, .val (.int i1), .val (.int i2), .val (.int i3), .val (.int dd0), .val (.int dd1), .val (.int dd2), .val (.int dd3), .val (.int dd4), .val (.int dd5), .val (.int dd6), .val (.int dd7), .val (.int ss), .val (.int d8), .val (.ref a), .val (.int ad), .val (.int e9), .val (.ref b8), .val (.ref bt), .val (.ref b0), .val (.int lm), .val (.ref so), .unset]) rfl ?_
          show Steps p.tables e below (T319.setTop (mkF m 743 #[.val (.long i0), .second, .val (.int i1), .val (.int i2), .val (.int i3), .val (.int dd0), .val (.int dd1), .val (.int dd2), .val (.int dd3), .val (.int dd4), .val (.int dd5), .val (.int dd6), .val (.int dd7), .val (.int ss), .val (.int d8), .val (.ref a), .val (.int ad), .val (.int e9), .val (.ref b8), .val (.ref bt), .val (.ref b0), .val (.int lm), .val (.ref so), .unset] [])) _
          refine XS.iconst X319.here hx rfl (hb hby at_743) ?_
          refine XS.istore X319.here hx rfl (hb hby at_744) rfl (l' := #[.val (.long i0), .second, .val (.int i1), .val (.int i2), .val (.int i3), .val (.int dd0), .val (.int dd1), .val (.int dd2), .val (.int dd3), .val (.int dd4), .val (.int dd5), .val (.int dd6), .val (.int dd7), .val (.int ss), .val (.int d8), .val (.ref a), .val (.int ad), .val (.int e9), .val (.ref b8), .val (.ref bt), .val (.ref b0), .val (.int lm), .val (.ref so), .val (.int (0 : Int32))]) rfl ?_
          show Steps p.tables e below (T319.setTop (mkF m 746 #[.val (.long i0), .second, .val (.int i1), .val (.int i2), .val (.int i3), .val (.int dd0), .val (.int dd1), .val (.int dd2), .val (.int dd3), .val (.int dd4), .val (.int dd5), .val (.int dd6), .val (.int dd7), .val (.int ss), .val (.int d8), .val (.ref a), .val (.int ad), .val (.int e9), .val (.ref b8), .val (.ref bt), .val (.ref b0), .val (.int lm), .val (.ref so), .val (.int (0 : Int32))] [])) _
          refine XS.aload X319.here hx rfl (hb hby at_746) rfl rfl ?_
          show Steps p.tables e below (T319.setTop (mkF m 748 #[.val (.long i0), .second, .val (.int i1), .val (.int i2), .val (.int i3), .val (.int dd0), .val (.int dd1), .val (.int dd2), .val (.int dd3), .val (.int dd4), .val (.int dd5), .val (.int dd6), .val (.int dd7), .val (.int ss), .val (.int d8), .val (.ref a), .val (.int ad), .val (.int e9), .val (.ref b8), .val (.ref bt), .val (.ref b0), .val (.int lm), .val (.ref so), .val (.int (0 : Int32))] [(.ref so)])) _
          exact κ)
        obtain ⟨_, _, ⟨T322, L322, k322, n322⟩, -, X322, ⟨Lc322, hQ322, l322, y322, z322⟩, st322⟩ := Jvm.LawKit.callS X319 hx (y := (⟨"com/example/docket/docket/core/Rsin", "isValid", "(Ljava/lang/String;)Z"⟩ : MethodName)) hown (mvT hZ (hw _ (List.mem_of_getElem? (i := 39) rfl))) (mvT hZ (hw _ (List.mem_of_getElem? (i := 40) rfl))) (mvT hZ (hw _ (List.mem_of_getElem? (i := 41) rfl))) (mvT hZ (hw _ (List.mem_of_getElem? (i := 42) rfl))) (by decide) (backOf (W := 0) (rm9 l Z a0 hw [] so 0 g zc fm T319.heap n0 Z319 O0_319 U0 P319 (by decide) (fun j hj => absurd hj (by omega))) hZ (hw _ (List.mem_of_getElem? (i := 42) rfl)) (hw _ (List.mem_of_getElem? (i := 41) rfl)) (Nat.le_of_ble_eq_true rfl) (Nat.le_of_ble_eq_true rfl)) (g := (mkF m 748 #[.val (.long i0), .second, .val (.int i1), .val (.int i2), .val (.int i3), .val (.int dd0), .val (.int dd1), .val (.int dd2), .val (.int dd3), .val (.int dd4), .val (.int dd5), .val (.int dd6), .val (.int dd7), .val (.int ss), .val (.int d8), .val (.ref a), .val (.int ad), .val (.int e9), .val (.ref b8), .val (.ref bt), .val (.ref b0), .val (.int lm), .val (.ref so), .val (.int (0 : Int32))] [(.ref so)])) rfl (by rw [hml]; rfl) (argsL := [(.ref so)]) (rest := []) (lenOf pd_19 rfl) rfl (by show 2 * 0 + _ ≤ _; exact Nat.le_of_eq rfl) (hb hby at_748) (fun _ _ => ⟨rfl, rfl, (by decide : 7 + 0 ≤ _), (by decide : 35 + 0 ≤ _)⟩)
        dsimp only [Pt.U, Pt.locs, Pt.cells, Pt.slots] at X322 l322 y322 z322 st322 hQ322
        subst l322 y322 z322
        obtain ⟨r9, rfl, Nq322, hh322, rN, rY⟩ := hQ322
        have O0_322 : Old Z n0 T322.heap := by rw [hh322]; exact O0_319
        have Va_322 : Arv Z T322.heap a k36 .char (Int32.ofNat 9) (own_tab g 9) (.int (0 : Int32)) := by rw [hh322]; exact Va_319
        have V8_322 : Arv Z T322.heap b8 k164 .char (Int32.ofNat 8) (own_tab g8 (8)) (.int (0 : Int32)) := by rw [hh322]; exact V8_319
        have Vt_322 : Arv Z T322.heap bt k215 .char (Int32.ofNat 10) (own_tab gt (10)) (.int (0 : Int32)) := by rw [hh322]; exact Vt_319
        have V_b0_322 : Arv Z T322.heap b0 k279 .char (0 : Int32) [] (.int (0 : Int32)) := by rw [hh322]; exact V_b0_319
        have A316_322 : Exa Z T322.heap so "java/lang/String" := by rw [hh322]; exact A316_319
        have P319_322 : own_STR Z T322.heap so g 0 := by rw [hh322]; exact P319
        have Z322 : n0 ≤ T322.heap.size := by rw [hh322]; exact Z319
        have hks : T319.heap.size ≤ T322.heap.size := by rw [hh322]; exact hks
        have Kp322 : Keep h0 T322.heap [] := by rw [hh322]; exact Kp319
        have N322 := Fr.app N319 Nq322
        have pre323 := fun τ (κ : Steps p.tables e below (T322.setTop (mkF m 751 #[.val (.long i0), .second, .val (.int i1), .val (.int i2), .val (.int i3), .val (.int dd0), .val (.int dd1), .val (.int dd2), .val (.int dd3), .val (.int dd4), .val (.int dd5), .val (.int dd6), .val (.int dd7), .val (.int ss), .val (.int d8), .val (.ref a), .val (.int ad), .val (.int e9), .val (.ref b8), .val (.ref bt), .val (.ref b0), .val (.int lm), .val (.ref so), .val (.int (0 : Int32))] [(.int r9)])) τ) => pre321 τ (st322 _ κ)
        have pre324 := fun τ (κ : Steps p.tables e below (T322.setTop (mkF m 761 #[.val (.long i0), .second, .val (.int i1), .val (.int i2), .val (.int i3), .val (.int dd0), .val (.int dd1), .val (.int dd2), .val (.int dd3), .val (.int dd4), .val (.int dd5), .val (.int dd6), .val (.int dd7), .val (.int ss), .val (.int d8), .val (.ref a), .val (.int ad), .val (.int e9), .val (.ref b8), .val (.ref bt), .val (.ref b0), .val (.int lm), .val (.ref so), .val (.int (0 : Int32))] [(.int (1 : Int32))])) τ) => pre323 τ (by
          refine XS.iload X322.here hx rfl (hb hby at_751) rfl ?_
          refine XS.icmpNo X322.here hx rfl (hb hby at_753) rfl (teq (rN (by decide))).2 ?_
          show Steps p.tables e below (T322.setTop (mkF m 756 #[.val (.long i0), .second, .val (.int i1), .val (.int i2), .val (.int i3), .val (.int dd0), .val (.int dd1), .val (.int dd2), .val (.int dd3), .val (.int dd4), .val (.int dd5), .val (.int dd6), .val (.int dd7), .val (.int ss), .val (.int d8), .val (.ref a), .val (.int ad), .val (.int e9), .val (.ref b8), .val (.ref bt), .val (.ref b0), .val (.int lm), .val (.ref so), .val (.int (0 : Int32))] [])) _
          refine XS.iconst X322.here hx rfl (hb hby at_756) ?_
          refine XS.goto X322.here hx rfl (pc0 := 757) (pc' := 761) rfl (hb hby at_757) (by decide) (by decide) ?_
          show Steps p.tables e below (T322.setTop (mkF m 761 #[.val (.long i0), .second, .val (.int i1), .val (.int i2), .val (.int i3), .val (.int dd0), .val (.int dd1), .val (.int dd2), .val (.int dd3), .val (.int dd4), .val (.int dd5), .val (.int dd6), .val (.int dd7), .val (.int ss), .val (.int d8), .val (.ref a), .val (.int ad), .val (.int e9), .val (.ref b8), .val (.ref bt), .val (.ref b0), .val (.int lm), .val (.ref so), .val (.int (0 : Int32))] [(.int (1 : Int32))])) _
          exact κ)
        rw [hsx319] at X322 hZ hown
        obtain ⟨fs, hr, hrun, hended, hEnd⟩ := Stand.leaveW (s := s) (vm₁ := T319.vm) X322 hSr319 hks (v := some (.int (1 : Int32))) (fun h => by rw [Bd.returns] at h; cases h)
        refine ⟨_, _, pre324 _ ?_, hrun, hended, _, _, rfl, ?_, ⟨hEnd.1, hEnd.2.1, hEnd.2.2.1, hEnd.2.2.2.mono (by decide) (by decide)⟩⟩
        · exact retN X322 hx (t := .boolean) Bd.returns (by simp) (hb hby at_761) hr
        · show Q0 Z i0 i1 i2 i3 zc fm h0 n0 _ T322.heap _
          exact ⟨rfl, N322⟩

theorem own_eqs {s : State} {args : Array Value} {C n d : String} {k : Int32} (h : (Cond.eq (.static C n d) (.int k)).before args s = true) : (Term.static C n d).eval args s none [] s = some (.int k) := by
  have h' := Cond.before_iff.mp h
  obtain ⟨x, y, h1, h2, -, k2⟩ := cmp_v (Or.inl h')
  cases h2.symm.trans (Term.int_eval k)
  obtain ⟨z, rfl⟩ := k2
  have e := gotT (Cond.eq_ints h1 (Term.int_eval k)) h'
  rw [h1, e]

set_option maxRecDepth 65536 in
set_option maxHeartbeats 40000000 in
theorem comes_1 {Post : Tables → Env → Array Value → State → Outcome → State → Prop} (hpost : ∀ tb e args s v u, (limb_1_1.after args s (.returned v) u = true ∧ limb_1_2.after args s (.returned v) u = true ∧ True) → FramedW s (.returned v) u (Jvm.fieldLocs frame_1_writes args s ++ Jvm.arrayLocs frame_1_arrays args s ++ Jvm.staticLocs frame_1_statics s) 24 1216 → Post tb e args s (.returned v) u) :
    ArmFor flags0 classFile x code maxLocals ret World_1 tables_1 room_1 Calls_1 rest_1 Pre_1 Post := by
  intro l hfl _ _ p e ha hc hk s m args below hf hA hF happ hP
  obtain ⟨hcalls, hrest, hpre⟩ := hP
  obtain ⟨-, -, -, hnamed, -, -, -, hat⟩ := (Spec.applies_iff hf).mp happ
  obtain ⟨hg, hn⟩ := and_e (Cond.before_iff.mp (show (Jvm.Cond.and given_1 narrow_1).before args s = true from hpre))
  obtain ⟨gc, ga⟩ := and_e hg
  obtain ⟨ga0, gr0⟩ := and_e ga
  obtain ⟨ga1, gr1⟩ := and_e gr0
  obtain ⟨ga2, gr2⟩ := and_e gr1
  obtain ⟨w0, w1, w2, w3, rfl⟩ : ∃ w0 w1 w2 w3 : Value, args = #[w0, w1, w2, w3] := by
    have hs : args.size = 4 := by simpa [Cond.value, given_1] using gc
    obtain ⟨L⟩ := args
    match L, hs with
    | [w0, w1, w2, w3], _ => exact ⟨w0, w1, w2, w3, rfl⟩
  have hw := fun d (hd : d ∈ tables_1) => atoms_spec (ws := Jvm.Cond.code x code maxLocals ret :: tables_1) hat d (List.mem_cons_of_mem _ hd)
  have hfit : Fit s := fun {y c} hc i hi => by
    obtain ⟨ha, rfl⟩ := Array.getElem?_eq_some_iff.mp hc
    have q := List.all_eq_true.mp ((Array.all_eq_true_iff_forall_mem.mp hF) _ (Array.getElem_mem ha)) i (List.mem_range.mpr hi)
    simpa [Array.getElem?_eq_getElem hi] using q
  obtain ⟨hsets, hown0⟩ := atoms_of _ (rest_1_c_eq ▸ (show rest_1_c.before _ s = true from hrest))
  have n3 := not_v (Cond.before_iff.mp (hsets _ (List.mem_of_getElem? (i := 2) rfl)))
  obtain ⟨zc, ezc⟩ := is_v (Cond.before_iff.mp (hsets _ (List.mem_of_getElem? (i := 1) rfl)))
  have S8 : Sta s s.heap "java/lang/String" "COMPACT_STRINGS" "Z" (.int zc) := Sta.start ezc (Or.inl (hsets _ (List.mem_of_getElem? (i := 0) rfl)))
  have c9 : ¬ (zc = (0 : Int32)) := gotF (Cond.eq_ints ezc (Term.int_eval (0))) n3
  obtain ⟨fm, efm, rfm⟩ := isR_v (Cond.before_iff.mp (hsets _ (List.mem_of_getElem? (i := 8) rfl)))
  have U0 : own_ST s zc fm := ⟨S8, c9, Sta.start (own_eqs (hsets _ (List.mem_of_getElem? (i := 12) rfl))) (Or.inl (hsets _ (List.mem_of_getElem? (i := 11) rfl))), Sta.start (own_eqs (hsets _ (List.mem_of_getElem? (i := 15) rfl))) (Or.inl (hsets _ (List.mem_of_getElem? (i := 14) rfl))), Sta.start (own_eqs (hsets _ (List.mem_of_getElem? (i := 18) rfl))) (Or.inl (hsets _ (List.mem_of_getElem? (i := 17) rfl))), Sta.start efm (Or.inl (hsets _ (List.mem_of_getElem? (i := 7) rfl))), rfm⟩
  have hheld : CHv s consts_1 s.vm s.heap := CHv.start (own_EL hw) hcalls.1 (hsets _ (List.mem_of_getElem? (i := 2) rfl)) (hw _ (List.mem_of_getElem? (i := 28) rfl)) (hw _ (List.mem_of_getElem? (i := 11) rfl))
  obtain ⟨i0, ei0⟩ := isL_v ga0
  obtain rfl : w0 = (.long i0) := Option.some.inj ei0
  obtain ⟨i1, ei1⟩ := is_v ga1
  obtain rfl : w1 = (.int i1) := Option.some.inj ei1
  obtain ⟨i2, ei2⟩ := is_v ga2
  obtain rfl : w2 = (.int i2) := Option.some.inj ei2
  obtain ⟨i3, ei3⟩ := is_v gr2
  obtain rfl : w3 = (.int i3) := Option.some.inj ei3
  obtain ⟨n, o, h1, h2, h3, _, L, rfl, ⟨rfl, N⟩, hq⟩ := rm0 l s _ hw tables_1 i0 i1 i2 i3 zc fm s.heap s.heap.size (Nat.le_refl _) (Old.start s) U0 p e ha hc hk s m _ below hf ((Spec.applies_iff_loose hf).mp happ).1 ⟨rfl, State.Warmed39.refl s, rfl, hheld⟩ trivial
  refine ⟨n, _, h1, h2, h3, hpost _ _ _ _ _ _ ⟨Cond.after_iff.mpr rfl, Cond.after_iff.mpr (eq_i res_at (Term.int_eval (1)) rfl), trivial⟩ ⟨hq.1, hq.2.1, hq.2.2.1, (hq.2.2.2.sift fun y hy => Or.inr (N y hy)).mono (by decide) (by decide)⟩⟩
theorem main_1_1 : Claimed_1_1 := comes_1 fun _ _ _ _ _ _ h hF => ⟨h.1, hF⟩
theorem main_1_2 : Claimed_1_2 := comes_1 fun _ _ _ _ _ _ h hF => ⟨h.2.1, hF⟩
end Jvm.Pilot.@@N@@
namespace Jvm.Pilot.@@N@@
open Jvm Jvm.ClassFile Sem Op Lib Jvm.Free Jvm.Stand Jvm.Pilot.@@N@@.Jvm.D
/-! MADE BY PROGRAM (witnessworld.py) out of the Statement's table words and the real class files: 20 classes; the members and pool entries that the words name. The judged class is class 1, her method 3. -/
namespace start1
open Jvm.ClassFile
def u (s : String) : CpInfo := .utf8 (stringToUtf16 s)
/-- a pool by its gaps: so many unusable entries, then the entry; so many at the end -/
def gap : Nat → List CpInfo → List CpInfo
  | 0, r => r
  | n + 1, r => .unusable :: gap n r
def poolList (es : List (Nat × CpInfo)) (last : Nat) : List CpInfo := es.foldr (fun e r => gap e.1 (e.2 :: r)) (gap last [])
def pool (es : List (Nat × CpInfo)) (last : Nat) : Array CpInfo := ⟨poolList es last⟩
def fileOf (pool : Array CpInfo) (this : Nat) (attrs : Array Attribute := #[]) (ms : Array MethodInfo := #[]) (fl : Nat := 33) (sup : Nat := 0) (ifs : Array Nat := #[]) (fds : Array FieldInfo := #[]) : ClassFile where
  minorVersion := 0
  majorVersion := 65
  constantPool := pool
  accessFlags := fl
  thisClass := this
  superClass := sup
  interfaces := ifs
  fields := fds
  methods := ms
  attributes := attrs
def plain (name : String) (sup : Option ClassId) : Class where
  name := name
  kind := .ordinary
  loader := none
  accessFlags := 33
  super := sup
  interfaces := #[]
  cf := none
  fields := #[]
  methods := #[]
  instanceTypes := #[]
  staticTypes := #[]
  resolved := #[]
  callSites := []
  init := .initialized
  statics := none
  mirror := none

def pool0 : Array CpInfo := pool [(5, u "<init>"), (0, u "()V"), (1, .class_ 10), (1, u "java/lang/Object")] 113

def k0c0 : Code := { maxStack := 0, maxLocals := 1, code := object_method_1_code, exceptionTable := #[], attributes := #[] }
def k0m0 : Method := { name := "<init>", desc := "()V", sig := { parameters := [], returnType := none }, accessFlags := 1, code := some k0c0 }
/-- java/lang/Object -/
def k0 : Class := { plain "java/lang/Object" none with
  accessFlags := 33
  interfaces := #[]
  cf := some (fileOf pool0 8 #[] #[{ accessFlags := 1, nameIndex := 5, descriptorIndex := 6, attributes := #[] }] 33 0 #[] #[])
  fields := #[]
  methods := #[k0m0]
  instanceTypes := #[]
  staticTypes := #[]
  resolved := Array.replicate 124 none
  statics := none }

def pool1 : Array CpInfo := pool [(2, .class_ 4), (1, u "java/lang/Object"), (0, u "<init>"), (0, u "()V"), (0, .long 15), (1, .long 10), (1, .methodref 12 13), (0, .class_ 14), (0, .nameAndType 15 16), (0, u "com/example/docket/docket/core/RsinIsValidPinLaw"), (0, u "dig"), (0, u "(JI)I"), (0, .integer 2147483647), (0, .integer 65535), (0, .methodref 12 20), (0, .nameAndType 21 22), (0, u "isDig"), (0, u "(C)Z"), (0, .class_ 24), (0, u "java/lang/String"), (0, .methodref 23 26), (0, .nameAndType 5 27), (0, u "([C)V"), (0, .methodref 29 30), (0, .class_ 31), (0, .nameAndType 32 33), (0, u "com/example/docket/docket/core/Rsin"), (0, u "isValid"), (0, u "(Ljava/lang/String;)Z"), (3, u "law"), (0, u "(JIII)Z")] 4

def k1m0 : Method := { name := "<init>", desc := "()V", sig := { parameters := [], returnType := none }, accessFlags := 1, code := none }
def k1c1 : Code := { maxStack := 4, maxLocals := 3, code := method_2_code, exceptionTable := #[], attributes := #[] }
def k1m1 : Method := { name := "dig", desc := "(JI)I", sig := { parameters := [.long, .int], returnType := some .int }, accessFlags := 10, code := some k1c1 }
def k1c2 : Code := { maxStack := 2, maxLocals := 1, code := method_3_code, exceptionTable := #[], attributes := #[] }
def k1m2 : Method := { name := "isDig", desc := "(C)Z", sig := { parameters := [.char], returnType := some .boolean }, accessFlags := 10, code := some k1c2 }
def k1c3 : Code := { maxStack := 6, maxLocals := 24, code := code, exceptionTable := #[], attributes := #[] }
def k1m3 : Method := { name := "law", desc := "(JIII)Z", sig := { parameters := [.long, .int, .int, .int], returnType := some .boolean }, accessFlags := 9, code := some k1c3 }
/-- com/example/docket/docket/core/RsinIsValidPinLaw -/
def k1 : Class := { plain "com/example/docket/docket/core/RsinIsValidPinLaw" (some 0) with
  accessFlags := 49
  interfaces := #[]
  cf := some (fileOf pool1 12 #[] #[{ accessFlags := 1, nameIndex := 5, descriptorIndex := 6, attributes := #[] }, { accessFlags := 10, nameIndex := 15, descriptorIndex := 16, attributes := #[] }, { accessFlags := 10, nameIndex := 21, descriptorIndex := 22, attributes := #[] }, { accessFlags := 9, nameIndex := 37, descriptorIndex := 38, attributes := #[] }] 49 2 #[] #[])
  fields := #[]
  methods := #[k1m0, k1m1, k1m2, k1m3]
  instanceTypes := #[]
  staticTypes := #[]
  resolved := Array.replicate 43 none
  statics := none }

def pool2 : Array CpInfo := pool [(1, .class_ 2), (0, u "java/io/Serializable"), (0, .class_ 4), (0, u "java/lang/Object")] 2

/-- java/io/Serializable -/
def k2 : Class := { plain "java/io/Serializable" (some 0) with
  accessFlags := 1537
  interfaces := #[]
  cf := some (fileOf pool2 1 #[] #[] 1537 3 #[] #[])
  fields := #[]
  methods := #[]
  instanceTypes := #[]
  staticTypes := #[]
  resolved := Array.replicate 7 none
  statics := none }

def pool3 : Array CpInfo := pool [(1, .class_ 2), (0, u "java/lang/Comparable"), (0, .class_ 4), (0, u "java/lang/Object")] 7

/-- java/lang/Comparable -/
def k3 : Class := { plain "java/lang/Comparable" (some 0) with
  accessFlags := 1537
  interfaces := #[]
  cf := some (fileOf pool3 1 #[] #[] 1537 3 #[] #[])
  fields := #[]
  methods := #[]
  instanceTypes := #[]
  staticTypes := #[]
  resolved := Array.replicate 12 none
  statics := none }

def pool4 : Array CpInfo := pool [(2, .class_ 4), (1, u "java/lang/CharSequence"), (42, .class_ 48), (0, u "java/lang/CharSequence$1CodePointIterator"), (10, .class_ 60), (0, u "java/lang/CharSequence$1CharIterator"), (5, .class_ 67), (0, u "java/lang/Object")] 63

/-- java/lang/CharSequence -/
def k4 : Class := { plain "java/lang/CharSequence" (some 0) with
  accessFlags := 1537
  interfaces := #[]
  cf := some (fileOf pool4 2 #[.nestMembers #[47, 59]] #[] 1537 66 #[] #[])
  fields := #[]
  methods := #[]
  instanceTypes := #[]
  staticTypes := #[]
  resolved := Array.replicate 131 none
  statics := none }

def pool5 : Array CpInfo := pool [(1, .class_ 2), (0, u "java/lang/constant/Constable"), (0, .class_ 4), (0, u "java/lang/Object")] 6

/-- java/lang/constant/Constable -/
def k5 : Class := { plain "java/lang/constant/Constable" (some 0) with
  accessFlags := 1537
  interfaces := #[]
  cf := some (fileOf pool5 1 #[] #[] 1537 3 #[] #[])
  fields := #[]
  methods := #[]
  instanceTypes := #[]
  staticTypes := #[]
  resolved := Array.replicate 11 none
  statics := none }

def pool6 : Array CpInfo := pool [(1, .class_ 2), (0, u "java/lang/constant/ConstantDesc"), (0, .class_ 4), (0, u "java/lang/Object")] 32

/-- java/lang/constant/ConstantDesc -/
def k6 : Class := { plain "java/lang/constant/ConstantDesc" (some 0) with
  accessFlags := 1537
  interfaces := #[]
  cf := some (fileOf pool6 1 #[] #[] 1537 3 #[] #[])
  fields := #[]
  methods := #[]
  instanceTypes := #[]
  staticTypes := #[]
  resolved := Array.replicate 37 none
  statics := none }

def pool7 : Array CpInfo := pool [(1, .methodref 2 3), (0, .class_ 4), (0, .nameAndType 5 6), (0, u "java/lang/Object"), (0, u "<init>"), (0, u "()V"), (0, .string 8), (0, u ""), (0, .fieldref 10 11), (0, .class_ 12), (0, .nameAndType 13 14), (0, u "java/lang/String"), (0, u "value"), (0, u "[B"), (0, .fieldref 10 16), (0, .nameAndType 17 18), (0, u "coder"), (0, u "B"), (2, u "hash"), (0, u "I"), (2, u "hashIsZero"), (0, u "Z"), (0, .methodref 10 28), (0, .nameAndType 5 29), (0, u "([CIILjava/lang/Void;)V"), (8, .fieldref 10 39), (0, .nameAndType 40 26), (0, u "COMPACT_STRINGS"), (1, .class_ 44), (1, u "java/lang/StringUTF16"), (0, u "compress"), (1, .methodref 42 48), (0, .nameAndType 49 50), (0, u "coderFromArrayLen"), (0, u "([BI)B"), (56, .class_ 109), (1, u "java/lang/StringLatin1"), (32, u "()Z"), (34, .methodref 42 178), (0, .nameAndType 45 179), (0, u "([CII)[B"), (154, u "()I"), (0, .methodref 10 336), (0, .nameAndType 17 337), (0, u "()B"), (25, u "([BI)C"), (27, u "(II)V"), (35, u "(I)C"), (64, .methodref 10 493), (0, .nameAndType 494 142), (0, u "isLatin1"), (0, .methodref 107 496), (0, .nameAndType 497 363), (0, u "charAt"), (0, .methodref 42 496), (2, u "checkIndex"), (5, u "length"), (67, .class_ 576), (0, u "java/lang/CharSequence"), (22, u "CASE_INSENSITIVE_ORDER"), (0, u "Ljava/util/Comparator;"), (409, u "([C)V"), (42, .fieldref 1054 1055), (0, .class_ 1056), (0, .nameAndType 1057 1058), (0, u "jdk/internal/util/Preconditions"), (0, u "SIOOBE_FORMATTER"), (0, u "Ljava/util/function/BiFunction;"), (0, .methodref 1054 1060), (0, .nameAndType 501 1061), (0, u "(IILjava/util/function/BiFunction;)I"), (39, u "serialPersistentFields"), (0, u "[Ljava/io/ObjectStreamField;"), (0, .class_ 1104), (0, u "java/lang/String$CaseInsensitiveComparator"), (1, .class_ 1107), (0, u "java/io/Serializable"), (0, .class_ 1109), (0, u "java/lang/Comparable"), (0, .class_ 1111), (0, u "java/lang/constant/Constable"), (0, .class_ 1113), (0, u "java/lang/constant/ConstantDesc"), (2, u "serialVersionUID"), (0, u "J"), (3, u "REPL"), (0, u "C"), (2, u "LATIN1"), (1, u "UTF16")] 323

def k7m0 : Method := { name := "<init>", desc := "()V", sig := { parameters := [], returnType := none }, accessFlags := 1, code := none }
def k7c1 : Code := { maxStack := 5, maxLocals := 2, code := jdk_42_method_3_code, exceptionTable := #[], attributes := #[] }
def k7m1 : Method := { name := "<init>", desc := "([C)V", sig := { parameters := [(.array .char)], returnType := none }, accessFlags := 1, code := some k7c1 }
def k7c2 : Code := { maxStack := 2, maxLocals := 1, code := jdk_42_method_54_code, exceptionTable := #[], attributes := #[] }
def k7m2 : Method := { name := "length", desc := "()I", sig := { parameters := [], returnType := some .int }, accessFlags := 1, code := some k7c2 }
def k7c3 : Code := { maxStack := 2, maxLocals := 2, code := jdk_42_method_56_code, exceptionTable := #[], attributes := #[] }
def k7m3 : Method := { name := "charAt", desc := "(I)C", sig := { parameters := [.int], returnType := some .char }, accessFlags := 1, code := some k7c3 }
def k7c4 : Code := { maxStack := 4, maxLocals := 6, code := jdk_42_method_149_code, exceptionTable := #[], attributes := #[] }
def k7m4 : Method := { name := "<init>", desc := "([CIILjava/lang/Void;)V", sig := { parameters := [(.array .char), .int, .int, (.object "java/lang/Void")], returnType := none }, accessFlags := 2, code := some k7c4 }
def k7c5 : Code := { maxStack := 1, maxLocals := 1, code := jdk_42_method_152_code, exceptionTable := #[], attributes := #[] }
def k7m5 : Method := { name := "coder", desc := "()B", sig := { parameters := [], returnType := some .byte }, accessFlags := 0, code := some k7c5 }
def k7c6 : Code := { maxStack := 1, maxLocals := 1, code := jdk_42_method_154_code, exceptionTable := #[], attributes := #[] }
def k7m6 : Method := { name := "isLatin1", desc := "()Z", sig := { parameters := [], returnType := some .boolean }, accessFlags := 0, code := some k7c6 }
def k7c7 : Code := { maxStack := 3, maxLocals := 2, code := jdk_42_method_155_code, exceptionTable := #[], attributes := #[] }
def k7m7 : Method := { name := "checkIndex", desc := "(II)V", sig := { parameters := [.int, .int], returnType := none }, accessFlags := 8, code := some k7c7 }
/-- java/lang/String -/
def k7 : Class := { plain "java/lang/String" (some 0) with
  accessFlags := 49
  interfaces := #[2, 3, 4, 5, 6]
  cf := some (fileOf pool7 10 #[.nestMembers #[1103]] #[{ accessFlags := 1, nameIndex := 5, descriptorIndex := 6, attributes := #[] }, { accessFlags := 1, nameIndex := 5, descriptorIndex := 1010, attributes := #[] }, { accessFlags := 1, nameIndex := 507, descriptorIndex := 334, attributes := #[] }, { accessFlags := 1, nameIndex := 497, descriptorIndex := 427, attributes := #[] }, { accessFlags := 2, nameIndex := 5, descriptorIndex := 29, attributes := #[] }, { accessFlags := 0, nameIndex := 17, descriptorIndex := 337, attributes := #[] }, { accessFlags := 0, nameIndex := 494, descriptorIndex := 142, attributes := #[] }, { accessFlags := 8, nameIndex := 501, descriptorIndex := 391, attributes := #[] }] 49 2 #[1106, 1108, 575, 1110, 1112] #[{ accessFlags := 18, nameIndex := 13, descriptorIndex := 14, attributes := #[] }, { accessFlags := 18, nameIndex := 17, descriptorIndex := 18, attributes := #[] }, { accessFlags := 2, nameIndex := 21, descriptorIndex := 22, attributes := #[] }, { accessFlags := 2, nameIndex := 25, descriptorIndex := 26, attributes := #[] }, { accessFlags := 26, nameIndex := 1116, descriptorIndex := 1117, attributes := #[] }, { accessFlags := 24, nameIndex := 40, descriptorIndex := 26, attributes := #[] }, { accessFlags := 26, nameIndex := 1101, descriptorIndex := 1102, attributes := #[] }, { accessFlags := 26, nameIndex := 1121, descriptorIndex := 1122, attributes := #[] }, { accessFlags := 25, nameIndex := 599, descriptorIndex := 600, attributes := #[] }, { accessFlags := 24, nameIndex := 1125, descriptorIndex := 18, attributes := #[] }, { accessFlags := 24, nameIndex := 1127, descriptorIndex := 18, attributes := #[] }])
  fields := #[{ name := "value", type := (.array .byte), accessFlags := 18, slot := 0, constantValue := 0 }, { name := "coder", type := .byte, accessFlags := 18, slot := 1, constantValue := 0 }, { name := "hash", type := .int, accessFlags := 2, slot := 2, constantValue := 0 }, { name := "hashIsZero", type := .boolean, accessFlags := 2, slot := 3, constantValue := 0 }, { name := "serialVersionUID", type := .long, accessFlags := 26, slot := 0, constantValue := 0 }, { name := "COMPACT_STRINGS", type := .boolean, accessFlags := 24, slot := 1, constantValue := 0 }, { name := "serialPersistentFields", type := (.array (.object "java/io/ObjectStreamField")), accessFlags := 26, slot := 2, constantValue := 0 }, { name := "REPL", type := .char, accessFlags := 26, slot := 3, constantValue := 0 }, { name := "CASE_INSENSITIVE_ORDER", type := (.object "java/util/Comparator"), accessFlags := 25, slot := 4, constantValue := 0 }, { name := "LATIN1", type := .byte, accessFlags := 24, slot := 5, constantValue := 0 }, { name := "UTF16", type := .byte, accessFlags := 24, slot := 6, constantValue := 0 }]
  methods := #[k7m0, k7m1, k7m2, k7m3, k7m4, k7m5, k7m6, k7m7]
  instanceTypes := #[(.array .byte), .byte, .int, .boolean]
  staticTypes := #[.long, .boolean, (.array (.object "java/io/ObjectStreamField")), .char, (.object "java/util/Comparator"), .byte, .byte]
  resolved := Array.replicate 1451 none
  statics := some 0 }

def pool8 : Array CpInfo := pool [(3, .class_ 4), (0, u "java/lang/String"), (1, .class_ 8), (1, u "java/lang/Object"), (0, u "<init>"), (0, u "()V"), (0, .methodref 12 13), (0, .class_ 14), (0, .nameAndType 15 16), (0, u "java/lang/StringUTF16"), (0, u "newBytesLength"), (0, u "(I)I"), (3, .integer 1073741823), (23, .fieldref 12 45), (0, .nameAndType 46 47), (0, u "$assertionsDisabled"), (0, u "Z"), (0, .methodref 12 49), (0, .nameAndType 50 51), (0, u "length"), (0, u "([B)I"), (7, .fieldref 12 60), (0, .nameAndType 61 62), (0, u "HI_BYTE_SHIFT"), (0, u "I"), (0, .fieldref 12 64), (0, .nameAndType 65 62), (0, u "LO_BYTE_SHIFT"), (1, .methodref 12 68), (0, .nameAndType 69 70), (0, u "checkIndex"), (0, u "(I[B)V"), (0, .methodref 12 72), (0, .nameAndType 73 74), (0, u "getChar"), (0, u "([BI)C"), (32, .methodref 12 108), (0, .nameAndType 109 110), (0, u "newBytesFor"), (0, u "(I)[B"), (0, .methodref 12 112), (0, .nameAndType 113 114), (0, u "putChar"), (0, u "([BII)V"), (0, .methodref 12 116), (0, .nameAndType 117 118), (0, u "compress"), (0, u "([CI[BII)I"), (0, .methodref 12 120), (0, .nameAndType 121 122), (0, u "toBytes"), (0, u "([CII)[B"), (138, u "coderFromArrayLen"), (0, u "([BI)B"), (106, .class_ 371), (1, u "java/lang/StringUTF16$LinesSpliterator"), (20, u "charAt"), (21, .methodref 3 415), (0, .nameAndType 69 416), (0, u "(II)V"), (13, u "MAX_LENGTH"), (196, .class_ 628), (0, u "java/lang/StringUTF16$CodePointsSpliterator"), (0, .class_ 630), (0, u "java/lang/StringUTF16$CharsSpliterator")] 4

def k8m0 : Method := { name := "<init>", desc := "()V", sig := { parameters := [], returnType := none }, accessFlags := 0, code := none }
def k8c1 : Code := { maxStack := 1, maxLocals := 1, code := jdk_52_method_2_code, exceptionTable := #[], attributes := #[] }
def k8m1 : Method := { name := "newBytesFor", desc := "(I)[B", sig := { parameters := [.int], returnType := some (.array .byte) }, accessFlags := 9, code := some k8c1 }
def k8c2 : Code := { maxStack := 4, maxLocals := 1, code := jdk_52_method_3_code, exceptionTable := #[], attributes := #[] }
def k8m2 : Method := { name := "newBytesLength", desc := "(I)I", sig := { parameters := [.int], returnType := some .int }, accessFlags := 9, code := some k8c2 }
def k8c3 : Code := { maxStack := 4, maxLocals := 3, code := jdk_52_method_4_code, exceptionTable := #[], attributes := #[] }
def k8m3 : Method := { name := "putChar", desc := "([BII)V", sig := { parameters := [(.array .byte), .int, .int], returnType := none }, accessFlags := 8, code := some k8c3 }
def k8c4 : Code := { maxStack := 3, maxLocals := 2, code := jdk_52_method_5_code, exceptionTable := #[], attributes := #[] }
def k8m4 : Method := { name := "getChar", desc := "([BI)C", sig := { parameters := [(.array .byte), .int], returnType := some .char }, accessFlags := 8, code := some k8c4 }
def k8c5 : Code := { maxStack := 2, maxLocals := 1, code := jdk_52_method_6_code, exceptionTable := #[], attributes := #[] }
def k8m5 : Method := { name := "length", desc := "([B)I", sig := { parameters := [(.array .byte)], returnType := some .int }, accessFlags := 9, code := some k8c5 }
def k8c6 : Code := { maxStack := 4, maxLocals := 5, code := jdk_52_method_14_code, exceptionTable := #[], attributes := #[] }
def k8m6 : Method := { name := "toBytes", desc := "([CII)[B", sig := { parameters := [(.array .char), .int, .int], returnType := some (.array .byte) }, accessFlags := 9, code := some k8c6 }
def k8c7 : Code := { maxStack := 2, maxLocals := 2, code := jdk_52_method_15_code, exceptionTable := #[], attributes := #[] }
def k8m7 : Method := { name := "coderFromArrayLen", desc := "([BI)B", sig := { parameters := [(.array .byte), .int], returnType := some .byte }, accessFlags := 8, code := some k8c7 }
def k8c8 : Code := { maxStack := 5, maxLocals := 6, code := jdk_52_method_16_code, exceptionTable := #[], attributes := #[] }
def k8m8 : Method := { name := "compress", desc := "([CII)[B", sig := { parameters := [(.array .char), .int, .int], returnType := some (.array .byte) }, accessFlags := 9, code := some k8c8 }
def k8c9 : Code := { maxStack := 3, maxLocals := 7, code := jdk_52_method_21_code, exceptionTable := #[], attributes := #[] }
def k8m9 : Method := { name := "compress", desc := "([CI[BII)I", sig := { parameters := [(.array .char), .int, (.array .byte), .int, .int], returnType := some .int }, accessFlags := 9, code := some k8c9 }
def k8c10 : Code := { maxStack := 2, maxLocals := 2, code := jdk_52_method_83_code, exceptionTable := #[], attributes := #[] }
def k8m10 : Method := { name := "charAt", desc := "([BI)C", sig := { parameters := [(.array .byte), .int], returnType := some .char }, accessFlags := 9, code := some k8c10 }
def k8c11 : Code := { maxStack := 2, maxLocals := 2, code := jdk_52_method_91_code, exceptionTable := #[], attributes := #[] }
def k8m11 : Method := { name := "checkIndex", desc := "(I[B)V", sig := { parameters := [.int, (.array .byte)], returnType := none }, accessFlags := 9, code := some k8c11 }
/-- java/lang/StringUTF16 -/
def k8 : Class := { plain "java/lang/StringUTF16" (some 0) with
  accessFlags := 48
  interfaces := #[]
  cf := some (fileOf pool8 12 #[.nestMembers #[627, 629, 369]] #[{ accessFlags := 0, nameIndex := 9, descriptorIndex := 10, attributes := #[] }, { accessFlags := 9, nameIndex := 109, descriptorIndex := 110, attributes := #[] }, { accessFlags := 9, nameIndex := 15, descriptorIndex := 16, attributes := #[] }, { accessFlags := 8, nameIndex := 113, descriptorIndex := 114, attributes := #[] }, { accessFlags := 8, nameIndex := 73, descriptorIndex := 74, attributes := #[] }, { accessFlags := 9, nameIndex := 50, descriptorIndex := 51, attributes := #[] }, { accessFlags := 9, nameIndex := 121, descriptorIndex := 122, attributes := #[] }, { accessFlags := 8, nameIndex := 261, descriptorIndex := 262, attributes := #[] }, { accessFlags := 9, nameIndex := 117, descriptorIndex := 122, attributes := #[] }, { accessFlags := 9, nameIndex := 117, descriptorIndex := 118, attributes := #[] }, { accessFlags := 9, nameIndex := 392, descriptorIndex := 74, attributes := #[] }, { accessFlags := 9, nameIndex := 69, descriptorIndex := 70, attributes := #[] }] 48 6 #[] #[{ accessFlags := 26, nameIndex := 61, descriptorIndex := 62, attributes := #[] }, { accessFlags := 26, nameIndex := 65, descriptorIndex := 62, attributes := #[] }, { accessFlags := 24, nameIndex := 430, descriptorIndex := 62, attributes := #[] }, { accessFlags := 4120, nameIndex := 46, descriptorIndex := 47, attributes := #[] }])
  fields := #[{ name := "HI_BYTE_SHIFT", type := .int, accessFlags := 26, slot := 0, constantValue := 0 }, { name := "LO_BYTE_SHIFT", type := .int, accessFlags := 26, slot := 1, constantValue := 0 }, { name := "MAX_LENGTH", type := .int, accessFlags := 24, slot := 2, constantValue := 0 }, { name := "$assertionsDisabled", type := .boolean, accessFlags := 4120, slot := 3, constantValue := 0 }]
  methods := #[k8m0, k8m1, k8m2, k8m3, k8m4, k8m5, k8m6, k8m7, k8m8, k8m9, k8m10, k8m11]
  instanceTypes := #[]
  staticTypes := #[.int, .int, .int, .boolean]
  resolved := Array.replicate 635 none
  statics := some 1 }

def pool9 : Array CpInfo := pool [(2, .class_ 4), (1, u "java/lang/Object"), (0, u "<init>"), (0, u "()V"), (0, .methodref 8 9), (0, .class_ 10), (0, .nameAndType 11 12), (0, u "java/lang/String"), (0, u "length"), (0, u "()I"), (0, .class_ 14), (0, u "com/example/docket/docket/core/Rsin"), (0, .methodref 8 16), (0, .nameAndType 17 18), (0, u "charAt"), (0, u "(I)C"), (0, u "LENGTH"), (0, u "I"), (4, u "isValid"), (0, u "(Ljava/lang/String;)Z")] 3

def k9m0 : Method := { name := "<init>", desc := "()V", sig := { parameters := [], returnType := none }, accessFlags := 2, code := none }
def k9c1 : Code := { maxStack := 3, maxLocals := 6, code := prog_14_method_2_code, exceptionTable := #[], attributes := #[] }
def k9m1 : Method := { name := "isValid", desc := "(Ljava/lang/String;)Z", sig := { parameters := [(.object "java/lang/String")], returnType := some .boolean }, accessFlags := 9, code := some k9c1 }
/-- com/example/docket/docket/core/Rsin -/
def k9 : Class := { plain "com/example/docket/docket/core/Rsin" (some 0) with
  accessFlags := 49
  interfaces := #[]
  cf := some (fileOf pool9 13 #[] #[{ accessFlags := 2, nameIndex := 5, descriptorIndex := 6, attributes := #[] }, { accessFlags := 9, nameIndex := 25, descriptorIndex := 26, attributes := #[] }] 49 2 #[] #[{ accessFlags := 26, nameIndex := 19, descriptorIndex := 20, attributes := #[] }])
  fields := #[{ name := "LENGTH", type := .int, accessFlags := 26, slot := 0, constantValue := 0 }]
  methods := #[k9m0, k9m1]
  instanceTypes := #[]
  staticTypes := #[.int]
  resolved := Array.replicate 30 none
  statics := none }

def pool10 : Array CpInfo := pool [(1, .class_ 2), (0, u "java/lang/String"), (1, .class_ 6), (1, u "java/lang/Object"), (0, u "<init>"), (0, u "()V"), (0, .methodref 1 10), (0, .nameAndType 11 12), (0, u "checkIndex"), (0, u "(II)V"), (1, .class_ 16), (1, u "java/lang/StringLatin1"), (36, u "([BI)C"), (67, u "$assertionsDisabled"), (0, u "Z"), (98, .class_ 223), (1, u "java/lang/StringLatin1$LinesSpliterator"), (28, u "charAt"), (137, .class_ 391), (0, u "java/lang/StringLatin1$CharsSpliterator")] 3

def k10m0 : Method := { name := "<init>", desc := "()V", sig := { parameters := [], returnType := none }, accessFlags := 0, code := none }
def k10c1 : Code := { maxStack := 2, maxLocals := 2, code := jdk_43_method_2_code, exceptionTable := #[], attributes := #[] }
def k10m1 : Method := { name := "charAt", desc := "([BI)C", sig := { parameters := [(.array .byte), .int], returnType := some .char }, accessFlags := 9, code := some k10c1 }
/-- java/lang/StringLatin1 -/
def k10 : Class := { plain "java/lang/StringLatin1" (some 0) with
  accessFlags := 48
  interfaces := #[]
  cf := some (fileOf pool10 14 #[.nestMembers #[390, 221]] #[{ accessFlags := 0, nameIndex := 7, descriptorIndex := 8, attributes := #[] }, { accessFlags := 9, nameIndex := 252, descriptorIndex := 53, attributes := #[] }] 48 4 #[] #[{ accessFlags := 4120, nameIndex := 121, descriptorIndex := 122, attributes := #[] }])
  fields := #[{ name := "$assertionsDisabled", type := .boolean, accessFlags := 4120, slot := 0, constantValue := 0 }]
  methods := #[k10m0, k10m1]
  instanceTypes := #[]
  staticTypes := #[.boolean]
  resolved := Array.replicate 395 none
  statics := none }

def pool11 : Array CpInfo := pool [(2, .class_ 4), (1, u "java/lang/Object"), (0, u "<init>"), (0, u "()V"), (17, .class_ 26), (1, u "jdk/internal/util/Preconditions"), (6, u "checkIndex"), (21, .class_ 56), (0, u "jdk/internal/util/Preconditions$4"), (57, .class_ 115), (0, u "jdk/internal/util/Preconditions$1"), (7, u "SIOOBE_FORMATTER"), (0, u "Ljava/util/function/BiFunction;"), (0, .class_ 126), (0, u "jdk/internal/util/Preconditions$2"), (3, u "AIOOBE_FORMATTER"), (0, .class_ 132), (0, u "jdk/internal/util/Preconditions$3"), (3, u "IOOBE_FORMATTER"), (41, u "(IILjava/util/function/BiFunction;)I")] 15

def k11m0 : Method := { name := "<init>", desc := "()V", sig := { parameters := [], returnType := none }, accessFlags := 1, code := none }
def k11c1 : Code := { maxStack := 3, maxLocals := 3, code := jdk_41_method_11_code, exceptionTable := #[], attributes := #[] }
def k11m1 : Method := { name := "checkIndex", desc := "(IILjava/util/function/BiFunction;)I", sig := { parameters := [.int, .int, (.object "java/util/function/BiFunction")], returnType := some .int }, accessFlags := 9, code := some k11c1 }
/-- jdk/internal/util/Preconditions -/
def k11 : Class := { plain "jdk/internal/util/Preconditions" (some 0) with
  accessFlags := 33
  interfaces := #[]
  cf := some (fileOf pool11 24 #[.nestMembers #[55, 131, 125, 114]] #[{ accessFlags := 1, nameIndex := 5, descriptorIndex := 6, attributes := #[] }, { accessFlags := 9, nameIndex := 33, descriptorIndex := 178, attributes := #[] }] 33 2 #[] #[{ accessFlags := 25, nameIndex := 123, descriptorIndex := 124, attributes := #[] }, { accessFlags := 25, nameIndex := 130, descriptorIndex := 124, attributes := #[] }, { accessFlags := 25, nameIndex := 136, descriptorIndex := 124, attributes := #[] }])
  fields := #[{ name := "SIOOBE_FORMATTER", type := (.object "java/util/function/BiFunction"), accessFlags := 25, slot := 0, constantValue := 0 }, { name := "AIOOBE_FORMATTER", type := (.object "java/util/function/BiFunction"), accessFlags := 25, slot := 1, constantValue := 0 }, { name := "IOOBE_FORMATTER", type := (.object "java/util/function/BiFunction"), accessFlags := 25, slot := 2, constantValue := 0 }]
  methods := #[k11m0, k11m1]
  instanceTypes := #[]
  staticTypes := #[(.object "java/util/function/BiFunction"), (.object "java/util/function/BiFunction"), (.object "java/util/function/BiFunction")]
  resolved := Array.replicate 194 none
  statics := some 2 }

def pool12 : Array CpInfo := pool [(9, u "<init>"), (6, .class_ 18), (1, u "java/lang/Object"), (0, u "()V"), (1, .class_ 23), (1, u "jdk/internal/util/ArraysSupport"), (0, u "LOG2_ARRAY_LONG_INDEX_SCALE"), (0, u "I"), (2, u "U"), (0, u "Ljdk/internal/misc/Unsafe;"), (8, u "BIG_ENDIAN"), (0, u "Z"), (8, u "LOG2_BYTE_BIT_SIZE"), (4, u "LOG2_ARRAY_INT_INDEX_SCALE"), (54, u "JLA"), (0, u "Ljdk/internal/access/JavaLangAccess;"), (11, u "LOG2_ARRAY_BOOLEAN_INDEX_SCALE"), (9, u "LOG2_ARRAY_BYTE_INDEX_SCALE"), (5, u "LOG2_ARRAY_CHAR_INDEX_SCALE"), (5, u "LOG2_ARRAY_SHORT_INDEX_SCALE"), (18, u "LOG2_ARRAY_FLOAT_INDEX_SCALE"), (24, u "LOG2_ARRAY_DOUBLE_INDEX_SCALE"), (89, u "T_BOOLEAN"), (2, u "T_CHAR"), (1, u "T_FLOAT"), (1, u "T_DOUBLE"), (1, u "T_BYTE"), (1, u "T_SHORT"), (1, u "T_INT"), (1, u "T_LONG"), (1, u "SOFT_MAX_ARRAY_LENGTH")] 83

def k12m0 : Method := { name := "<init>", desc := "()V", sig := { parameters := [], returnType := none }, accessFlags := 2, code := none }
/-- jdk/internal/util/ArraysSupport -/
def k12 : Class := { plain "jdk/internal/util/ArraysSupport" (some 0) with
  accessFlags := 33
  interfaces := #[]
  cf := some (fileOf pool12 21 #[] #[{ accessFlags := 2, nameIndex := 9, descriptorIndex := 19, attributes := #[] }] 33 16 #[] #[{ accessFlags := 24, nameIndex := 28, descriptorIndex := 29, attributes := #[] }, { accessFlags := 26, nameIndex := 38, descriptorIndex := 39, attributes := #[] }, { accessFlags := 25, nameIndex := 121, descriptorIndex := 25, attributes := #[] }, { accessFlags := 25, nameIndex := 131, descriptorIndex := 25, attributes := #[] }, { accessFlags := 25, nameIndex := 137, descriptorIndex := 25, attributes := #[] }, { accessFlags := 25, nameIndex := 143, descriptorIndex := 25, attributes := #[] }, { accessFlags := 25, nameIndex := 53, descriptorIndex := 25, attributes := #[] }, { accessFlags := 25, nameIndex := 24, descriptorIndex := 25, attributes := #[] }, { accessFlags := 25, nameIndex := 162, descriptorIndex := 25, attributes := #[] }, { accessFlags := 25, nameIndex := 187, descriptorIndex := 25, attributes := #[] }, { accessFlags := 26, nameIndex := 48, descriptorIndex := 25, attributes := #[] }, { accessFlags := 25, nameIndex := 277, descriptorIndex := 25, attributes := #[] }, { accessFlags := 25, nameIndex := 280, descriptorIndex := 25, attributes := #[] }, { accessFlags := 25, nameIndex := 282, descriptorIndex := 25, attributes := #[] }, { accessFlags := 25, nameIndex := 284, descriptorIndex := 25, attributes := #[] }, { accessFlags := 25, nameIndex := 286, descriptorIndex := 25, attributes := #[] }, { accessFlags := 25, nameIndex := 288, descriptorIndex := 25, attributes := #[] }, { accessFlags := 25, nameIndex := 290, descriptorIndex := 25, attributes := #[] }, { accessFlags := 25, nameIndex := 292, descriptorIndex := 25, attributes := #[] }, { accessFlags := 26, nameIndex := 108, descriptorIndex := 109, attributes := #[] }, { accessFlags := 25, nameIndex := 294, descriptorIndex := 25, attributes := #[] }])
  fields := #[{ name := "U", type := (.object "jdk/internal/misc/Unsafe"), accessFlags := 24, slot := 0, constantValue := 0 }, { name := "BIG_ENDIAN", type := .boolean, accessFlags := 26, slot := 1, constantValue := 0 }, { name := "LOG2_ARRAY_BOOLEAN_INDEX_SCALE", type := .int, accessFlags := 25, slot := 2, constantValue := 0 }, { name := "LOG2_ARRAY_BYTE_INDEX_SCALE", type := .int, accessFlags := 25, slot := 3, constantValue := 0 }, { name := "LOG2_ARRAY_CHAR_INDEX_SCALE", type := .int, accessFlags := 25, slot := 4, constantValue := 0 }, { name := "LOG2_ARRAY_SHORT_INDEX_SCALE", type := .int, accessFlags := 25, slot := 5, constantValue := 0 }, { name := "LOG2_ARRAY_INT_INDEX_SCALE", type := .int, accessFlags := 25, slot := 6, constantValue := 0 }, { name := "LOG2_ARRAY_LONG_INDEX_SCALE", type := .int, accessFlags := 25, slot := 7, constantValue := 0 }, { name := "LOG2_ARRAY_FLOAT_INDEX_SCALE", type := .int, accessFlags := 25, slot := 8, constantValue := 0 }, { name := "LOG2_ARRAY_DOUBLE_INDEX_SCALE", type := .int, accessFlags := 25, slot := 9, constantValue := 0 }, { name := "LOG2_BYTE_BIT_SIZE", type := .int, accessFlags := 26, slot := 10, constantValue := 0 }, { name := "T_BOOLEAN", type := .int, accessFlags := 25, slot := 11, constantValue := 0 }, { name := "T_CHAR", type := .int, accessFlags := 25, slot := 12, constantValue := 0 }, { name := "T_FLOAT", type := .int, accessFlags := 25, slot := 13, constantValue := 0 }, { name := "T_DOUBLE", type := .int, accessFlags := 25, slot := 14, constantValue := 0 }, { name := "T_BYTE", type := .int, accessFlags := 25, slot := 15, constantValue := 0 }, { name := "T_SHORT", type := .int, accessFlags := 25, slot := 16, constantValue := 0 }, { name := "T_INT", type := .int, accessFlags := 25, slot := 17, constantValue := 0 }, { name := "T_LONG", type := .int, accessFlags := 25, slot := 18, constantValue := 0 }, { name := "JLA", type := (.object "jdk/internal/access/JavaLangAccess"), accessFlags := 26, slot := 19, constantValue := 0 }, { name := "SOFT_MAX_ARRAY_LENGTH", type := .int, accessFlags := 25, slot := 20, constantValue := 0 }]
  methods := #[k12m0]
  instanceTypes := #[]
  staticTypes := #[(.object "jdk/internal/misc/Unsafe"), .boolean, .int, .int, .int, .int, .int, .int, .int, .int, .int, .int, .int, .int, .int, .int, .int, .int, .int, (.object "jdk/internal/access/JavaLangAccess"), .int]
  resolved := Array.replicate 378 none
  statics := none }

def pool13 : Array CpInfo := pool [(1, u "java/lang/Cloneable"), (0, .class_ 1), (0, u "java/lang/Object"), (0, .class_ 3)] 3

/-- java/lang/Cloneable -/
def k13 : Class := { plain "java/lang/Cloneable" (some 0) with
  accessFlags := 1537
  interfaces := #[]
  cf := some (fileOf pool13 2 #[] #[] 1537 4 #[] #[])
  fields := #[]
  methods := #[]
  instanceTypes := #[]
  staticTypes := #[]
  resolved := Array.replicate 8 none
  statics := none }

/-- the primitive byte -/
def k14 : Class := { plain "byte" none with kind := .primitive 'B', accessFlags := 0x411 }
/-- [B -/
def k15 : Class := { plain "[B" (some 0) with kind := .array 14 .byte, interfaces := #[13, 2], accessFlags := 1041 }

/-- the primitive char -/
def k16 : Class := { plain "char" none with kind := .primitive 'C', accessFlags := 0x411 }
/-- [C -/
def k17 : Class := { plain "[C" (some 0) with kind := .array 16 .char, interfaces := #[13, 2], accessFlags := 1041 }

/-- the primitive int -/
def k18 : Class := { plain "int" none with kind := .primitive 'I', accessFlags := 0x411 }
/-- [I -/
def k19 : Class := { plain "[I" (some 0) with kind := .array 18 .int, interfaces := #[13, 2], accessFlags := 1041 }

def heap : Heap := #[{ cls := 7, slots := #[.long 0, .int 1, .null, .int 0, .null, .int 0, .int 0], vm := .statics 7 },
  { cls := 8, slots := #[.int 0, .int 8, .int 0, .int 1], vm := .statics 8 },
  { cls := 11, slots := #[.null, .null, .null], vm := .statics 11 }]
def classes : Array Class := #[k0, k1, k2, k3, k4, k5, k6, k7, k8, k9, k10, k11, k12, k13, k14, k15, k16, k17, k18, k19]
def interned : List (Array UInt16 × Addr) := []
def slotsUsed : Nat := 14
def theMethod : MethodId := ⟨1, 3⟩
def args0 : Array Value := #[.long 5, .int 1, .int 2, .int 3]
def aboutOver (below : List Frame) : State where
  vm := { classes := classes, interned := interned.toArray }
  heap := heap
  slotsUsed := slotsUsed
  threads := #[{ frames := .invoking theMethod args0 :: below }]
def below0 : List Frame := [.native { method := ⟨0, 0⟩, args := #[] }]
def about1 : State := aboutOver below0
def p0 : Program := .bare "" "" ""
def e0 : Env := launch0.env 0 0 0
theorem w_frames : about1.frames = Frame.invoking theMethod args0 :: below0 := rfl
set_option maxRecDepth 65536 in
theorem w_args : argsFit about1.vm theMethod args0 = true := by decide +kernel
set_option maxRecDepth 65536 in
theorem w_heap : heapFits about1 = true := by decide +kernel
set_option maxRecDepth 65536 in
theorem w_runnable : about1.curStatus? = some .runnable := by decide +kernel
set_option maxRecDepth 65536 in
theorem w_alone : about1.alone = true := by decide +kernel
set_option maxRecDepth 65536 in
theorem w_named : about1.methodNamed? x = some theMethod := by decide +kernel
set_option maxRecDepth 65536 in
theorem w_hears : about1.hears theMethod below0 = true := by decide +kernel
set_option maxRecDepth 65536 in
theorem w_ripe : about1.ripe theMethod args0 below0 = true := by decide +kernel
theorem w_running : about1.status = .running := rfl
set_option maxRecDepth 65536 in
theorem w_room : about1.hasRoom e0.platform room_1 = true :=
  launch0.hasRoom_least _ room_1 (by decide +kernel) (by decide +kernel) (by decide +kernel) (by decide +kernel) (by decide +kernel) (by decide +kernel)
theorem allAtoms_all (ts : List Jvm.Cond) (a : Array Jvm.Value) (st : Jvm.State) : (allAtoms ts).before a st = ts.all (fun c => c.before a st) := by
  induction ts with
  | nil => rfl
  | cons c t ih =>
    show (Jvm.Cond.and c (allAtoms t)).before a st = _
    rw [Jvm.Cond.before_and, ih, List.all_cons]
def words1 : List Jvm.Cond := Jvm.Cond.code x code maxLocals ret :: tables_1
/-- a 'code' word, met by the world's own term for the bytes: nothing is compared byte by byte -/
theorem code_word {y : MethodName} {bytes : ByteArray} {mx : Nat} {rt : Option FieldType} {a : Array Value} {s : State} {m : MethodId} {meth : Method} {c : Code} (h1 : s.methodNamed? y = some m) (h2 : s.vm.method? m = some meth) (h3 : meth.code = some c) (h4 : c.code = bytes)
    (h5 : (c.maxLocals == mx && c.exceptionTable.isEmpty && decide (c.maxStack ≤ mostOperands) && decide (meth.sig.returnType = rt) && !meth.locks && decide (parseMethodDescriptor y.desc = some meth.sig)) = true) : (Jvm.Cond.code y bytes mx rt).before a s = true := by
  simp only [Bool.and_eq_true, beq_iff_eq, Bool.not_eq_true', decide_eq_true_eq] at h5
  obtain ⟨⟨⟨⟨⟨g1, g2⟩, g3⟩, g4⟩, g5⟩, g6⟩ := h5
  simp [Cond.before, Cond.holds, Cond.value, h1, h2, h3, h4, g1, g2, g3, g4, g5, g6]
def isCode : Jvm.Cond → Bool
  | .code _ _ _ _ => true
  | _ => false
theorem all_split {L : List Jvm.Cond} {P : Jvm.Cond → Bool} (h1 : L.all (fun c => isCode c || P c) = true) (h2 : ∀ c ∈ L.filter isCode, P c = true) : L.all P = true := by
  refine List.all_eq_true.mpr fun c hc => ?_
  have h := List.all_eq_true.mp h1 c hc
  rcases Bool.eq_false_or_eq_true (isCode c) with hi | hi
  · exact h2 c (List.mem_filter.mpr ⟨hc, hi⟩)
  · simpa [hi] using h
set_option maxRecDepth 65536 in
theorem w_c0 : (Jvm.Cond.code x code maxLocals ret).before args0 about1 = true := code_word (m := ⟨1, 3⟩) (meth := k1m3) (c := k1c3) (by decide +kernel) rfl rfl rfl (by decide +kernel)
set_option maxRecDepth 65536 in
theorem w_c1 : (Jvm.Cond.code ({ cls := "com/example/docket/docket/core/RsinIsValidPinLaw", name := "dig", desc := "(JI)I" } : Jvm.MethodName) method_2_code (3 : Nat) (Option.some Jvm.ClassFile.FieldType.int)).before args0 about1 = true := code_word (m := ⟨1, 1⟩) (meth := k1m1) (c := k1c1) (by decide +kernel) rfl rfl rfl (by decide +kernel)
set_option maxRecDepth 65536 in
theorem w_c2 : (Jvm.Cond.code ({ cls := "com/example/docket/docket/core/RsinIsValidPinLaw", name := "isDig", desc := "(C)Z" } : Jvm.MethodName) method_3_code (1 : Nat) (Option.some Jvm.ClassFile.FieldType.boolean)).before args0 about1 = true := code_word (m := ⟨1, 2⟩) (meth := k1m2) (c := k1c2) (by decide +kernel) rfl rfl rfl (by decide +kernel)
set_option maxRecDepth 65536 in
theorem w_c3 : (Jvm.Cond.code ({ cls := "java/lang/String", name := "<init>", desc := "([C)V" } : Jvm.MethodName) jdk_42_method_3_code (2 : Nat) (Option.none : Option Jvm.ClassFile.FieldType)).before args0 about1 = true := code_word (m := ⟨7, 1⟩) (meth := k7m1) (c := k7c1) (by decide +kernel) rfl rfl rfl (by decide +kernel)
set_option maxRecDepth 65536 in
theorem w_c4 : (Jvm.Cond.code ({ cls := "java/lang/String", name := "<init>", desc := "([CIILjava/lang/Void;)V" } : Jvm.MethodName) jdk_42_method_149_code (6 : Nat) (Option.none : Option Jvm.ClassFile.FieldType)).before args0 about1 = true := code_word (m := ⟨7, 4⟩) (meth := k7m4) (c := k7c4) (by decide +kernel) rfl rfl rfl (by decide +kernel)
set_option maxRecDepth 65536 in
theorem w_c5 : (Jvm.Cond.code ({ cls := "java/lang/Object", name := "<init>", desc := "()V" } : Jvm.MethodName) object_method_1_code (1 : Nat) (Option.none : Option Jvm.ClassFile.FieldType)).before args0 about1 = true := code_word (m := ⟨0, 0⟩) (meth := k0m0) (c := k0c0) (by decide +kernel) rfl rfl rfl (by decide +kernel)
set_option maxRecDepth 65536 in
theorem w_c6 : (Jvm.Cond.code ({ cls := "java/lang/StringUTF16", name := "compress", desc := "([CII)[B" } : Jvm.MethodName) jdk_52_method_16_code (6 : Nat) (Option.some (Jvm.ClassFile.FieldType.array Jvm.ClassFile.FieldType.byte))).before args0 about1 = true := code_word (m := ⟨8, 8⟩) (meth := k8m8) (c := k8c8) (by decide +kernel) rfl rfl rfl (by decide +kernel)
set_option maxRecDepth 65536 in
theorem w_c7 : (Jvm.Cond.code ({ cls := "java/lang/StringUTF16", name := "compress", desc := "([CI[BII)I" } : Jvm.MethodName) jdk_52_method_21_code (7 : Nat) (Option.some Jvm.ClassFile.FieldType.int)).before args0 about1 = true := code_word (m := ⟨8, 9⟩) (meth := k8m9) (c := k8c9) (by decide +kernel) rfl rfl rfl (by decide +kernel)
set_option maxRecDepth 65536 in
theorem w_c8 : (Jvm.Cond.code ({ cls := "java/lang/StringUTF16", name := "coderFromArrayLen", desc := "([BI)B" } : Jvm.MethodName) jdk_52_method_15_code (2 : Nat) (Option.some Jvm.ClassFile.FieldType.byte)).before args0 about1 = true := code_word (m := ⟨8, 7⟩) (meth := k8m7) (c := k8c7) (by decide +kernel) rfl rfl rfl (by decide +kernel)
set_option maxRecDepth 65536 in
theorem w_c9 : (Jvm.Cond.code ({ cls := "com/example/docket/docket/core/Rsin", name := "isValid", desc := "(Ljava/lang/String;)Z" } : Jvm.MethodName) prog_14_method_2_code (6 : Nat) (Option.some Jvm.ClassFile.FieldType.boolean)).before args0 about1 = true := code_word (m := ⟨9, 1⟩) (meth := k9m1) (c := k9c1) (by decide +kernel) rfl rfl rfl (by decide +kernel)
set_option maxRecDepth 65536 in
theorem w_c10 : (Jvm.Cond.code ({ cls := "java/lang/String", name := "length", desc := "()I" } : Jvm.MethodName) jdk_42_method_54_code (1 : Nat) (Option.some Jvm.ClassFile.FieldType.int)).before args0 about1 = true := code_word (m := ⟨7, 2⟩) (meth := k7m2) (c := k7c2) (by decide +kernel) rfl rfl rfl (by decide +kernel)
set_option maxRecDepth 65536 in
theorem w_c11 : (Jvm.Cond.code ({ cls := "java/lang/String", name := "coder", desc := "()B" } : Jvm.MethodName) jdk_42_method_152_code (1 : Nat) (Option.some Jvm.ClassFile.FieldType.byte)).before args0 about1 = true := code_word (m := ⟨7, 5⟩) (meth := k7m5) (c := k7c5) (by decide +kernel) rfl rfl rfl (by decide +kernel)
set_option maxRecDepth 65536 in
theorem w_c12 : (Jvm.Cond.code ({ cls := "java/lang/String", name := "charAt", desc := "(I)C" } : Jvm.MethodName) jdk_42_method_56_code (2 : Nat) (Option.some Jvm.ClassFile.FieldType.char)).before args0 about1 = true := code_word (m := ⟨7, 3⟩) (meth := k7m3) (c := k7c3) (by decide +kernel) rfl rfl rfl (by decide +kernel)
set_option maxRecDepth 65536 in
theorem w_c13 : (Jvm.Cond.code ({ cls := "java/lang/String", name := "isLatin1", desc := "()Z" } : Jvm.MethodName) jdk_42_method_154_code (1 : Nat) (Option.some Jvm.ClassFile.FieldType.boolean)).before args0 about1 = true := code_word (m := ⟨7, 6⟩) (meth := k7m6) (c := k7c6) (by decide +kernel) rfl rfl rfl (by decide +kernel)
set_option maxRecDepth 65536 in
theorem w_c14 : (Jvm.Cond.code ({ cls := "java/lang/StringLatin1", name := "charAt", desc := "([BI)C" } : Jvm.MethodName) jdk_43_method_2_code (2 : Nat) (Option.some Jvm.ClassFile.FieldType.char)).before args0 about1 = true := code_word (m := ⟨10, 1⟩) (meth := k10m1) (c := k10c1) (by decide +kernel) rfl rfl rfl (by decide +kernel)
set_option maxRecDepth 65536 in
theorem w_c15 : (Jvm.Cond.code ({ cls := "java/lang/String", name := "checkIndex", desc := "(II)V" } : Jvm.MethodName) jdk_42_method_155_code (2 : Nat) (Option.none : Option Jvm.ClassFile.FieldType)).before args0 about1 = true := code_word (m := ⟨7, 7⟩) (meth := k7m7) (c := k7c7) (by decide +kernel) rfl rfl rfl (by decide +kernel)
set_option maxRecDepth 65536 in
theorem w_c16 : (Jvm.Cond.code ({ cls := "jdk/internal/util/Preconditions", name := "checkIndex", desc := "(IILjava/util/function/BiFunction;)I" } : Jvm.MethodName) jdk_41_method_11_code (3 : Nat) (Option.some Jvm.ClassFile.FieldType.int)).before args0 about1 = true := code_word (m := ⟨11, 1⟩) (meth := k11m1) (c := k11c1) (by decide +kernel) rfl rfl rfl (by decide +kernel)
set_option maxRecDepth 65536 in
theorem w_c17 : (Jvm.Cond.code ({ cls := "java/lang/StringUTF16", name := "toBytes", desc := "([CII)[B" } : Jvm.MethodName) jdk_52_method_14_code (5 : Nat) (Option.some (Jvm.ClassFile.FieldType.array Jvm.ClassFile.FieldType.byte))).before args0 about1 = true := code_word (m := ⟨8, 6⟩) (meth := k8m6) (c := k8c6) (by decide +kernel) rfl rfl rfl (by decide +kernel)
set_option maxRecDepth 65536 in
theorem w_c18 : (Jvm.Cond.code ({ cls := "java/lang/StringUTF16", name := "newBytesFor", desc := "(I)[B" } : Jvm.MethodName) jdk_52_method_2_code (1 : Nat) (Option.some (Jvm.ClassFile.FieldType.array Jvm.ClassFile.FieldType.byte))).before args0 about1 = true := code_word (m := ⟨8, 1⟩) (meth := k8m1) (c := k8c1) (by decide +kernel) rfl rfl rfl (by decide +kernel)
set_option maxRecDepth 65536 in
theorem w_c19 : (Jvm.Cond.code ({ cls := "java/lang/StringUTF16", name := "newBytesLength", desc := "(I)I" } : Jvm.MethodName) jdk_52_method_3_code (1 : Nat) (Option.some Jvm.ClassFile.FieldType.int)).before args0 about1 = true := code_word (m := ⟨8, 2⟩) (meth := k8m2) (c := k8c2) (by decide +kernel) rfl rfl rfl (by decide +kernel)
set_option maxRecDepth 65536 in
theorem w_c20 : (Jvm.Cond.code ({ cls := "java/lang/StringUTF16", name := "putChar", desc := "([BII)V" } : Jvm.MethodName) jdk_52_method_4_code (3 : Nat) (Option.none : Option Jvm.ClassFile.FieldType)).before args0 about1 = true := code_word (m := ⟨8, 3⟩) (meth := k8m3) (c := k8c3) (by decide +kernel) rfl rfl rfl (by decide +kernel)
set_option maxRecDepth 65536 in
theorem w_c21 : (Jvm.Cond.code ({ cls := "java/lang/StringUTF16", name := "getChar", desc := "([BI)C" } : Jvm.MethodName) jdk_52_method_5_code (2 : Nat) (Option.some Jvm.ClassFile.FieldType.char)).before args0 about1 = true := code_word (m := ⟨8, 4⟩) (meth := k8m4) (c := k8c4) (by decide +kernel) rfl rfl rfl (by decide +kernel)
set_option maxRecDepth 65536 in
theorem w_c22 : (Jvm.Cond.code ({ cls := "java/lang/StringUTF16", name := "charAt", desc := "([BI)C" } : Jvm.MethodName) jdk_52_method_83_code (2 : Nat) (Option.some Jvm.ClassFile.FieldType.char)).before args0 about1 = true := code_word (m := ⟨8, 10⟩) (meth := k8m10) (c := k8c10) (by decide +kernel) rfl rfl rfl (by decide +kernel)
set_option maxRecDepth 65536 in
theorem w_c23 : (Jvm.Cond.code ({ cls := "java/lang/StringUTF16", name := "checkIndex", desc := "(I[B)V" } : Jvm.MethodName) jdk_52_method_91_code (2 : Nat) (Option.none : Option Jvm.ClassFile.FieldType)).before args0 about1 = true := code_word (m := ⟨8, 11⟩) (meth := k8m11) (c := k8c11) (by decide +kernel) rfl rfl rfl (by decide +kernel)
set_option maxRecDepth 65536 in
theorem w_c24 : (Jvm.Cond.code ({ cls := "java/lang/StringUTF16", name := "length", desc := "([B)I" } : Jvm.MethodName) jdk_52_method_6_code (1 : Nat) (Option.some Jvm.ClassFile.FieldType.int)).before args0 about1 = true := code_word (m := ⟨8, 5⟩) (meth := k8m5) (c := k8c5) (by decide +kernel) rfl rfl rfl (by decide +kernel)
def codes1 : List Jvm.Cond := [Jvm.Cond.code x code maxLocals ret, Jvm.Cond.code ({ cls := "com/example/docket/docket/core/RsinIsValidPinLaw", name := "dig", desc := "(JI)I" } : Jvm.MethodName) method_2_code (3 : Nat) (Option.some Jvm.ClassFile.FieldType.int), Jvm.Cond.code ({ cls := "com/example/docket/docket/core/RsinIsValidPinLaw", name := "isDig", desc := "(C)Z" } : Jvm.MethodName) method_3_code (1 : Nat) (Option.some Jvm.ClassFile.FieldType.boolean), Jvm.Cond.code ({ cls := "java/lang/String", name := "<init>", desc := "([C)V" } : Jvm.MethodName) jdk_42_method_3_code (2 : Nat) (Option.none : Option Jvm.ClassFile.FieldType), Jvm.Cond.code ({ cls := "java/lang/String", name := "<init>", desc := "([CIILjava/lang/Void;)V" } : Jvm.MethodName) jdk_42_method_149_code (6 : Nat) (Option.none : Option Jvm.ClassFile.FieldType), Jvm.Cond.code ({ cls := "java/lang/Object", name := "<init>", desc := "()V" } : Jvm.MethodName) object_method_1_code (1 : Nat) (Option.none : Option Jvm.ClassFile.FieldType), Jvm.Cond.code ({ cls := "java/lang/StringUTF16", name := "compress", desc := "([CII)[B" } : Jvm.MethodName) jdk_52_method_16_code (6 : Nat) (Option.some (Jvm.ClassFile.FieldType.array Jvm.ClassFile.FieldType.byte)), Jvm.Cond.code ({ cls := "java/lang/StringUTF16", name := "compress", desc := "([CI[BII)I" } : Jvm.MethodName) jdk_52_method_21_code (7 : Nat) (Option.some Jvm.ClassFile.FieldType.int), Jvm.Cond.code ({ cls := "java/lang/StringUTF16", name := "coderFromArrayLen", desc := "([BI)B" } : Jvm.MethodName) jdk_52_method_15_code (2 : Nat) (Option.some Jvm.ClassFile.FieldType.byte), Jvm.Cond.code ({ cls := "com/example/docket/docket/core/Rsin", name := "isValid", desc := "(Ljava/lang/String;)Z" } : Jvm.MethodName) prog_14_method_2_code (6 : Nat) (Option.some Jvm.ClassFile.FieldType.boolean), Jvm.Cond.code ({ cls := "java/lang/String", name := "length", desc := "()I" } : Jvm.MethodName) jdk_42_method_54_code (1 : Nat) (Option.some Jvm.ClassFile.FieldType.int), Jvm.Cond.code ({ cls := "java/lang/String", name := "coder", desc := "()B" } : Jvm.MethodName) jdk_42_method_152_code (1 : Nat) (Option.some Jvm.ClassFile.FieldType.byte), Jvm.Cond.code ({ cls := "java/lang/String", name := "charAt", desc := "(I)C" } : Jvm.MethodName) jdk_42_method_56_code (2 : Nat) (Option.some Jvm.ClassFile.FieldType.char), Jvm.Cond.code ({ cls := "java/lang/String", name := "isLatin1", desc := "()Z" } : Jvm.MethodName) jdk_42_method_154_code (1 : Nat) (Option.some Jvm.ClassFile.FieldType.boolean), Jvm.Cond.code ({ cls := "java/lang/StringLatin1", name := "charAt", desc := "([BI)C" } : Jvm.MethodName) jdk_43_method_2_code (2 : Nat) (Option.some Jvm.ClassFile.FieldType.char), Jvm.Cond.code ({ cls := "java/lang/String", name := "checkIndex", desc := "(II)V" } : Jvm.MethodName) jdk_42_method_155_code (2 : Nat) (Option.none : Option Jvm.ClassFile.FieldType), Jvm.Cond.code ({ cls := "jdk/internal/util/Preconditions", name := "checkIndex", desc := "(IILjava/util/function/BiFunction;)I" } : Jvm.MethodName) jdk_41_method_11_code (3 : Nat) (Option.some Jvm.ClassFile.FieldType.int), Jvm.Cond.code ({ cls := "java/lang/StringUTF16", name := "toBytes", desc := "([CII)[B" } : Jvm.MethodName) jdk_52_method_14_code (5 : Nat) (Option.some (Jvm.ClassFile.FieldType.array Jvm.ClassFile.FieldType.byte)), Jvm.Cond.code ({ cls := "java/lang/StringUTF16", name := "newBytesFor", desc := "(I)[B" } : Jvm.MethodName) jdk_52_method_2_code (1 : Nat) (Option.some (Jvm.ClassFile.FieldType.array Jvm.ClassFile.FieldType.byte)), Jvm.Cond.code ({ cls := "java/lang/StringUTF16", name := "newBytesLength", desc := "(I)I" } : Jvm.MethodName) jdk_52_method_3_code (1 : Nat) (Option.some Jvm.ClassFile.FieldType.int), Jvm.Cond.code ({ cls := "java/lang/StringUTF16", name := "putChar", desc := "([BII)V" } : Jvm.MethodName) jdk_52_method_4_code (3 : Nat) (Option.none : Option Jvm.ClassFile.FieldType), Jvm.Cond.code ({ cls := "java/lang/StringUTF16", name := "getChar", desc := "([BI)C" } : Jvm.MethodName) jdk_52_method_5_code (2 : Nat) (Option.some Jvm.ClassFile.FieldType.char), Jvm.Cond.code ({ cls := "java/lang/StringUTF16", name := "charAt", desc := "([BI)C" } : Jvm.MethodName) jdk_52_method_83_code (2 : Nat) (Option.some Jvm.ClassFile.FieldType.char), Jvm.Cond.code ({ cls := "java/lang/StringUTF16", name := "checkIndex", desc := "(I[B)V" } : Jvm.MethodName) jdk_52_method_91_code (2 : Nat) (Option.none : Option Jvm.ClassFile.FieldType), Jvm.Cond.code ({ cls := "java/lang/StringUTF16", name := "length", desc := "([B)I" } : Jvm.MethodName) jdk_52_method_6_code (1 : Nat) (Option.some Jvm.ClassFile.FieldType.int)]
set_option maxRecDepth 65536 in
theorem codes_eq : words1.filter isCode = codes1 := rfl
theorem w_codes : ∀ c ∈ words1.filter isCode, c.before args0 about1 = true := by
  rw [codes_eq]
  intro c hc
  simp only [codes1, List.mem_cons, List.not_mem_nil, or_false] at hc
  rcases hc with rfl | rfl | rfl | rfl | rfl | rfl | rfl | rfl | rfl | rfl | rfl | rfl | rfl | rfl | rfl | rfl | rfl | rfl | rfl | rfl | rfl | rfl | rfl | rfl | rfl
  · exact w_c0
  · exact w_c1
  · exact w_c2
  · exact w_c3
  · exact w_c4
  · exact w_c5
  · exact w_c6
  · exact w_c7
  · exact w_c8
  · exact w_c9
  · exact w_c10
  · exact w_c11
  · exact w_c12
  · exact w_c13
  · exact w_c14
  · exact w_c15
  · exact w_c16
  · exact w_c17
  · exact w_c18
  · exact w_c19
  · exact w_c20
  · exact w_c21
  · exact w_c22
  · exact w_c23
  · exact w_c24
set_option maxRecDepth 65536 in
theorem w_t1 : (words1.take 24).all (fun c => isCode c || c.before args0 about1) = true := by decide +kernel
set_option maxRecDepth 65536 in
theorem w_t2 : ((words1.drop 24).take 24).all (fun c => isCode c || c.before args0 about1) = true := by decide +kernel
set_option maxRecDepth 65536 in
theorem w_t3 : (((words1.drop 24).drop 24).take 24).all (fun c => isCode c || c.before args0 about1) = true := by decide +kernel
set_option maxRecDepth 65536 in
theorem w_t4 : ((((words1.drop 24).drop 24).drop 24).take 24).all (fun c => isCode c || c.before args0 about1) = true := by decide +kernel
set_option maxRecDepth 65536 in
theorem w_t5 : ((((words1.drop 24).drop 24).drop 24).drop 24).all (fun c => isCode c || c.before args0 about1) = true := by decide +kernel
theorem w_tables : (allAtoms (Jvm.Cond.code x code maxLocals ret :: tables_1)).before args0 about1 = true := by
  rw [allAtoms_all]
  show words1.all (fun c => c.before args0 about1) = true
  refine all_split ?_ w_codes
  rw [← List.take_append_drop 24 words1, List.all_append, w_t1, ← List.take_append_drop 24 (words1.drop 24), List.all_append, w_t2, ← List.take_append_drop 24 ((words1.drop 24).drop 24), List.all_append, w_t3, ← List.take_append_drop 24 (((words1.drop 24).drop 24).drop 24), List.all_append, w_t4, w_t5]
  rfl
set_option maxRecDepth 65536 in
theorem w_rest : rest_1_c.before args0 about1 = true := by decide +kernel
set_option maxRecDepth 65536 in
theorem w_case : (Jvm.Cond.and given_1 narrow_1).before args0 about1 = true := by decide +kernel
set_option maxRecDepth 65536 in
theorem w_consts : constsHeld consts_1 about1 := Jvm.Lit.constsHeldB_iff.mp (by decide +kernel)
theorem w_applies : (headSpec (Jvm.Cond.code x code maxLocals ret :: tables_1) room_1).applies x e0.platform about1 = true :=
  (Spec.applies_iff w_frames).mpr ⟨w_running, w_runnable, w_alone, w_named, w_hears, w_ripe, w_room, w_tables⟩
theorem atStart : AtStart classFile x code maxLocals ret World_1 tables_1 room_1 Calls_1 rest_1 Pre_1 launch0 p0 e0 about1 theMethod args0 below0 :=
  ⟨lists_1, trivial, launch0.admits_env _ _ _, launch0.least_env, fairChoices_fair.cas, fairChoices_fair.clock, w_frames, w_args, w_heap, w_applies, ⟨w_consts, trivial⟩, w_rest, w_case⟩
end start1
theorem witness_1 : WitnessClaimed_1 := ⟨start1.p0, start1.e0, start1.about1, start1.theMethod, start1.args0, start1.below0, start1.atStart⟩
end Jvm.Pilot.@@N@@
